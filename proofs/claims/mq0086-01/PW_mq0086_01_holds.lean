import PyProof.Rows.All
import Wide.All
import OpenK.AllK
import Wide.FinOn
import Lean
import PySem.Challenge.RW_mq0086_01
open PySem PySem.W PySem.W.X PyProof.Rows PySem.Calls
set_option autoImplicit false
set_option Elab.async false
namespace Mine
set_option maxRecDepth 100000 in
set_option maxHeartbeats 8000000 in
open_top hd for PySem.Challenge.rw_mq0086_01
end Mine
namespace Mine
open PySem.Challenge
set_option maxHeartbeats 0
set_option maxRecDepth 100000

noncomputable def KG (P : Params) : Frag := (hd.heap_39 P).filter fun p => !(p.1 == 23 || p.1 == 65)

theorem lookup_filter {l : Frag} {q : Addr × Obj → Bool} (hq : ∀ a o o', q (a, o) = q (a, o')) {a : Addr} {o : Obj} (e : List.lookup a (l.filter q) = some o) :
    List.lookup a l = some o ∧ q (a, o) = true := by
  induction l with
  | nil => simp at e
  | cons p r ih =>
    obtain ⟨b, ob⟩ := p
    rw [List.filter_cons] at e
    by_cases hb : q (b, ob) = true
    · rw [if_pos hb, List.lookup_cons] at e
      rw [List.lookup_cons]
      cases hab : a == b with
      | true =>
        rw [hab] at e
        cases e
        exact ⟨rfl, by rw [beq_iff_eq.mp hab]; exact hb⟩
      | false =>
        rw [hab] at e
        exact ih e
    · rw [if_neg hb] at e
      rw [List.lookup_cons]
      cases hab : a == b with
      | true =>
        exfalso
        have := (ih e).2
        rw [beq_iff_eq.mp hab] at this
        rw [hq b o ob] at this
        exact hb this
      | false => exact ih e

def gnames : List (Str × Value) := [("_parse_varint", .ref 21), ("cmp_to_key", .ref 28), ("_initial_missing", .ref 29), ("reduce", .ref 37), ("_law_octets", .ref 44), ("_law_bare", .ref 51), ("_law_compared", .ref 56), ("_law_over", .ref 63)]
def bnames : List (Str × Value) := [("len", .builtin "len"), ("next", .builtin "next"), ("iter", .builtin "iter"), ("range", .type "range"), ("sorted", .builtin "sorted"), ("StopIteration", .type "StopIteration"), ("object", .type "object"), ("__build_class__", .builtin "__build_class__")]

/-- what every call of the text's own defs needs of the heap -/
structure Bas (P : Params) (h : Heap) : Prop where
  X : Frag.In (KG P) h
  lim : h.NoLimit
  gl : ∃ mg, h.Ns mainGlobals mg ∧ (∀ p ∈ gnames, mg p.1 = some p.2) ∧ ∀ p ∈ bnames, mg p.1 = none
  bl : ∃ mb, h.Ns builtinsNs mb ∧ ∀ p ∈ bnames, mb p.1 = some p.2
  b4 : ∃ sl, h.get? 4 = some { cls := .type "module", dict := some builtinsNs, slots := sl }

theorem KG_ne {P : Params} {a : Addr} {o : Obj} (e : List.lookup a (KG P) = some o) : List.lookup a (hd.heap_39 P) = some o ∧ a ≠ 23 ∧ a ≠ 65 := by
  obtain ⟨h1, h2⟩ := lookup_filter (fun _ _ _ => rfl) e
  refine ⟨h1, ?_, ?_⟩ <;> (intro q; subst q; simp at h2)

theorem Bas.keep {P : Params} {h h' : Heap} (B : Bas P h) (k : ∀ b o, h.get? b = some o → b ≠ 23 → b ≠ 65 → h'.get? b = some o) : Bas P h' := by
  refine ⟨fun a o e => k a o (B.X a o e) (KG_ne e).2.1 (KG_ne e).2.2, B.lim.at fun o e => k _ o e (by decide) (by decide), ?_, ?_, ?_⟩
  · obtain ⟨mg, h1, h2, h3⟩ := B.gl
    exact ⟨mg, h1.at' fun o e => k _ o e (by decide) (by decide), h2, h3⟩
  · obtain ⟨mb, h1, h2⟩ := B.bl
    exact ⟨mb, h1.at' fun o e => k _ o e (by decide) (by decide), h2⟩
  · obtain ⟨sl, h1⟩ := B.b4
    exact ⟨sl, k _ _ h1 (by decide) (by decide)⟩
theorem Bas.keeps {P : Params} {h h' : Heap} (B : Bas P h) (k : ∀ b o, h.get? b = some o → h'.get? b = some o) : Bas P h' := B.keep fun b o e _ _ => k b o e

theorem Bas.fr {P : Params} {h₀ h : Heap} {L : Addr} {m : Str → Option Value} (B : Bas P h₀) (F : Fr h₀ L h m) : Bas P h := B.keeps F.keep

theorem mem_of_lookup {l : List (Str × Value)} {x : Str} {v : Value} (e : l.lookup x = some v) : (x, v) ∈ l := by
  induction l with
  | nil => simp at e
  | cons p r ih =>
    obtain ⟨y, u⟩ := p
    rw [List.lookup_cons] at e
    cases h : x == y with
    | true => rw [h] at e; cases e; rw [beq_iff_eq.mp h]; exact .head _
    | false => rw [h] at e; exact .tail _ (ih e)

section
variable {P : Params} {M : Model} {A : Around} {E : Value → Shared → Prop} {s : Shared} {env : Env} {x : Str} {pos : Pos} {v : Value} {Q : Value → Shared → Prop}
theorem nm_own (B : Bas P s.heap) (e : gnames.lookup x = some v) (h : Q v s) (hg : env.globals = mainGlobals) (hk : env.scope.kind = .function) (hx : env.kindOf x = some .globalImplicit)
    (hd : (x == ("__debug__" : Str)) = false) : wpAny M A (eval (.Name x pos) env) Q E s := by
  obtain ⟨mg, h1, h2, _⟩ := B.gl
  exact Name_function_global hk hx (loadGlobal_global (env := env) (by rw [hg]; exact h1) (h2 _ (mem_of_lookup e)) h) hd
theorem nm_blt (B : Bas P s.heap) (e : bnames.lookup x = some v) (h : Q v s) (hg : env.globals = mainGlobals) (hb : env.builtins = builtinsNs) (hk : env.scope.kind = .function) (hx : env.kindOf x = some .globalImplicit)
    (hd : (x == ("__debug__" : Str)) = false) : wpAny M A (eval (.Name x pos) env) Q E s := by
  obtain ⟨mg, h1, _, h3⟩ := B.gl
  obtain ⟨mb, h4, h5⟩ := B.bl
  exact Name_function_global hk hx (loadGlobal_builtin (env := env) (by rw [hg]; exact h1) (h3 _ (mem_of_lookup e)) (by rw [hb]; exact h4) (h5 _ (mem_of_lookup e)) h) hd
end

theorem bas_of {w : World} {p : Program} {loose : List Str} {mean : ExcName → Option Value} {mg mb : Str → Option Value} {h : Heap} (X : Frag.In (hd.heap_39 w.params) h) (T : Top p loose mean mg mb h) : Bas w.params h := by
  refine ⟨fun a o e => X a o (KG_ne e).1, T.nolimit, ⟨mg, T.g, ?_, ?_⟩, ⟨mb, T.b, ?_⟩, ?_⟩
  · intro q hq
    simp only [gnames, List.mem_cons, List.not_mem_nil, or_false] at hq
    rcases hq with rfl | rfl | rfl | rfl | rfl | rfl | rfl | rfl <;> exact mg_of X T.g (by kernel_rfl)
  · intro q hq
    simp only [bnames, List.mem_cons, List.not_mem_nil, or_false] at hq
    rcases hq with rfl | rfl | rfl | rfl | rfl | rfl | rfl | rfl <;> exact mg_none_of X T.g (by kernel_rfl)
  · intro q hq
    simp only [bnames, List.mem_cons, List.not_mem_nil, or_false] at hq
    rcases hq with rfl | rfl | rfl | rfl | rfl | rfl | rfl | rfl <;> exact (T.builtins _ (by decide)).trans (by decide +kernel)
  · obtain ⟨bm, ⟨c, d, dt, sl⟩, h1, _, h2, h3, h4, h5⟩ := T.bmain
    have h6 : mg (Str.ofString "__builtins__") = some (.ref 4) := mg_of X T.g (by kernel_rfl)
    have h7 : some (Value.ref bm) = some (.ref 4) := h1.symm.trans h6
    cases h7
    cases h3
    cases h4
    cases h5
    exact ⟨sl, h2⟩
end Mine
namespace Mine
open PySem.Challenge
set_option maxHeartbeats 0
set_option maxRecDepth 100000

theorem fd64 (n : Int) : Int.fdiv n 64 = n / 64 := Int.fdiv_eq_ediv_of_nonneg _ (by decide)
theorem fm64 (n : Int) : Int.fmod n 64 = n % 64 := Int.fmod_eq_emod_of_nonneg _ (by decide)

/-- the figures of a number below 262144, to the base 64, 64 more in each but the last -/
def figs (n : Int) : List Int := if n < 64 then [n] else if n < 4096 then [n / 64 + 64, n % 64] else [n / 4096 + 64, n / 64 % 64 + 64, n % 64]
def octs (n a : Int) : List Int := List.replicate a.toNat 64 ++ figs n

theorem repl_flat (k : Nat) : (List.replicate k [(64 : Int)]).flatten = List.replicate k 64 := by
  induction k with
  | zero => rfl
  | succ k ih => rw [List.replicate_succ, List.flatten_cons, ih]; rfl

theorem ints_cast {vs : List Value} {a b : List Int} (h : IntsAre vs a) (e : a = b) : IntsAre vs b := e ▸ h

section
local macro_rules | `(tactic| walk_at "WhlIf") => `(tactic| first
  | (refine WhlIf.yes (by (simp only [fd64, fm64, decide_eq_true_eq]; omega)) ?_)
  | (refine WhlIf.no (by (simp only [fd64, fm64, decide_eq_false_iff_not]; omega)) ?_))
theorem octets_call {w : World} {s : Shared} {A : Around} {n a : Int} {t1 t2 : Tok} {Q E : Value → Shared → Prop} (B : Bas w.params s.heap) (hA : A.depth < 900)
    (h0 : 0 ≤ n) (h1 : n < 70000) (ha : 0 ≤ a) (ha' : a < 3)
    (k : ∀ h' tk D vs, (∀ b o, s.heap.get? b = some o → h'.get? b = some o) → s.heap.get? D = none → h'.get? D = some (listOf vs.toArray 0) → IntsAre vs (octs n a) → Q (.ref D) { s with heap := h', toks := tk }) :
    wpAny (model rw_mq0086_01.row.prog w) A (call (.ref 44) [.int n t1, .int a t2]) Q E s := by
  refine wpAny_call ?_
  have ho := B.X 44 _ rfl
  refine call_pos_ret (by have : recursionLimit = 1000 := rfl; omega) ho rfl B.lim ?cd rfl ?hloc ?_
  case hloc => exact locs rfl
  case cd => exact codeRec_of B.X rfl
  intro h₁ F
  clear ho
  have X0 : Frag.In (KG w.params) s.heap := B.X
  have N : News s.heap s.heap.objs.size h₁ [] := News.nil
  by_cases c1 : 63 < n
  · by_cases c2 : 63 < n / 64
    · repeat' walk1
      rename IntsAre _ (_ ++ _) => hI
      rename Fr _ _ _ _ => F'
      rename News _ _ _ _ => N'
      refine k _ _ _ _ F'.keep (N'.fresh (.head _)) (N'.get (.head _)) (ints_cast hI ?_)
      simp only [repl_flat, fd64, fm64, octs, figs]
      rw [if_neg (by omega), if_neg (by omega)]
      congr 2
      · omega
    · repeat' walk1
      rename IntsAre _ (_ ++ _) => hI
      rename Fr _ _ _ _ => F'
      rename News _ _ _ _ => N'
      refine k _ _ _ _ F'.keep (N'.fresh (.head _)) (N'.get (.head _)) (ints_cast hI ?_)
      simp only [repl_flat, fd64, fm64, octs, figs]
      rw [if_neg (by omega), if_pos (by omega)]
      congr 2
      · omega
  · repeat' walk1
    rename IntsAre _ (_ ++ _) => hI
    rename Fr _ _ _ _ => F'
    rename News _ _ _ _ => N'
    refine k _ _ _ _ F'.keep (N'.fresh (.head _)) (N'.get (.head _)) (ints_cast hI ?_)
    simp only [repl_flat, fd64, fm64, octs, figs]
    rw [if_pos (by omega)]
    congr 2
    · omega
end
end Mine
namespace Mine
open PySem.Challenge
set_option maxHeartbeats 0
set_option maxRecDepth 100000
/-- the 64s in front left out, but for the last octet -/
def bareN : List Int → List Int
  | [] => []
  | [x] => [x]
  | x :: y :: r => if x = 64 then bareN (y :: r) else x :: y :: r
theorem bareN_go {ns : List Int} (h1 : 1 < (ns.length : Int)) (h2 : ns.getD (Int.toNat 0) 0 = 64) : bareN ns = bareN (ns.drop 1) := by
  match ns, h1, h2 with
  | [], h1, _ => simp at h1
  | [x], h1, _ => simp at h1
  | x :: y :: r, _, h2 =>
    have : x = 64 := h2
    rw [bareN, if_pos this]; rfl
theorem bareN_short {ns : List Int} (h1 : ¬ 1 < (ns.length : Int)) : bareN ns = ns := by
  match ns, h1 with
  | [], _ => rfl
  | [x], _ => rfl
  | x :: y :: r, h1 => simp at h1; omega
theorem bareN_head {ns : List Int} (h2 : ns.getD (Int.toNat 0) 0 ≠ 64) : bareN ns = ns := by
  match ns, h2 with
  | [], _ => rfl
  | [x], _ => rfl
  | x :: y :: r, h2 =>
    have : ¬ x = 64 := h2
    rw [bareN, if_neg this]
section
local macro_rules | `(tactic| walk_at "exec While BoolOp") => `(tactic| (refine whl_start 100 ?_))
local macro_rules | `(tactic| walk_at "eval Name") => `(tactic| first
  | (refine nm_own (Bas.fr (by assumption) (by assumption)) (by rfl) ?_ rfl rfl rfl (by decide))
  | (refine nm_blt (Bas.fr (by assumption) (by assumption)) (by rfl) ?_ rfl rfl rfl rfl (by decide)))
theorem bare_call {w : World} {s : Shared} {A : Around} {l : Addr} {vs : List Value} {ns : List Int} {Q E : Value → Shared → Prop} (B : Bas w.params s.heap) (hA : A.depth < 900)
   (hl : s.heap.IsList l vs.toArray) (hi : IntsAre vs ns) (hr : ns.length ≤ 5)
   (k : ∀ h' tk D ws, (∀ b o, s.heap.get? b = some o → h'.get? b = some o) → h'.IsList D ws.toArray → IntsAre ws (bareN ns) → Q (.ref D) { s with heap := h', toks := tk }) :
    wpAny (model rw_mq0086_01.row.prog w) A (call (.ref 51) [.ref l]) (fun v s' => Q v s') E s := by
  refine wpAny_call ?_
  have ho := B.X 51 _ rfl
  refine call_pos_ret (by have : recursionLimit = 1000 := rfl; omega) ho rfl B.lim ?cd rfl ?hloc ?_
  case hloc => exact locs rfl
  case cd => exact codeRec_of B.X rfl
  intro h₁ F
  clear ho
  have X0 : Frag.In (KG w.params) s.heap := B.X
  have N : News s.heap s.heap.objs.size h₁ [] := News.nil
  repeat' walk1
  all_goals (dsimp only)
  all_goals first
    | (rename Fr _ _ _ _ => F'
       rename News _ _ _ (_ :: _) => N'
       rename IntsAre _ (List.drop _ _) => hI
       refine k _ _ _ _ F'.keep ⟨_, N'.get (.head _), rfl, _, rfl⟩ (ints_cast hI ?_)
       repeat refine Eq.trans ?_ (bareN_go (by assumption) (by assumption)).symm
       first | exact (bareN_short (by assumption)).symm | exact (bareN_head (by assumption)).symm | exact (bareN_short (by omega)).symm)
    | (rename Fr _ _ _ _ => F'
       refine k _ _ _ _ F'.keep (hl.at fun o e => F'.keep _ o e) (ints_cast hi ?_)
       first | exact (bareN_short (by assumption)).symm | exact (bareN_head (by assumption)).symm | exact (bareN_short (by omega)).symm)
end
end Mine
namespace Mine
open PySem.Challenge
set_option maxHeartbeats 0
set_option maxRecDepth 100000
section
variable {P : Params} {M : Model} {A : Around} {E : Value → Shared → Prop} {s : Shared} {env : Env} {x : Str} {pos : Pos} {v : Value} {Q : Value → Shared → Prop}
theorem nm_cell {c : Addr} (hc : env.cells.lookup x = some c) (hv : s.heap.IsCell c (some v)) (h : Q v s) (hk : env.scope.kind = .function) (hx : env.kindOf x = some .cell) (hd : (x == ("__debug__" : Str)) = false) :
    wpAny M A (eval (.Name x pos) env) Q E s := wpAny_Name (wpAny_loadName_cell hk hx hc hv h) hd
theorem nm_free {c : Addr} (hc : env.cells.lookup x = some c) (hv : s.heap.IsCell c (some v)) (h : Q v s) (hk : env.scope.kind = .function) (hx : env.kindOf x = some .free) (hd : (x == ("__debug__" : Str)) = false) (hd' : (x == ("__classdict__" : Str)) = false) :
    wpAny M A (eval (.Name x pos) env) Q E s := wpAny_Name (wpAny_loadName_free hk hx hc hv h hd') hd
theorem nm_loc {m : Str → Option Value} (hn : s.heap.Ns env.locals m) (hv : m x = some v) (h : Q v s) (hk : env.scope.kind = .function) (hx : env.kindOf x = some .local) (hd : (x == ("__debug__" : Str)) = false) :
    wpAny M A (eval (.Name x pos) env) Q E s := wpAny_Name (wpAny_loadName_local hk hx hn hv h) hd
end
noncomputable def fo (P : Params) (a : Addr) : Obj := ((KG P).lookup a).getD default
section
variable {P : Params} {M : Model} {A : Around} {E : Value → Shared → Prop} {s : Shared} {env : Env} {pos : Pos} {Q : Value → Shared → Prop}
theorem cw_own {f : Addr} {e : Expr} {rest : List Expr} (_B : Bas P s.heap) (hf : ∃ fd, (fo P f).data = .func fd) (hin : ((KG P).lookup f).isSome = true)
    (h : wpAny M A (spliced (backTo pos (starEach (e :: rest) env))) (fun vs s₁ => Bas P s₁.heap ∧ wpAny M A (call (.ref f) vs) Q E s₁) E s)
    (he : starEach (e :: rest) env = (false, eval e env) :: starEach rest env) :
    wpAny M A (callWith pos (.ref f) [] (backTo pos (starEach (e :: rest) env)) []) Q E s := by
  obtain ⟨fd, hfd⟩ := hf
  obtain ⟨o, ho⟩ := Option.isSome_iff_exists.mp hin
  have e1 : fo P f = o := by unfold fo; rw [ho]; rfl
  exact callWith_def (o := fo P f) hfd (wpAny_mono h (fun vs s₁ h₁ => ⟨by rw [e1]; exact h₁.1.X f o ho, h₁.2⟩) fun _ _ x => x) he
end
abbrev Kp (h h' : Heap) : Prop := ∀ b o, h.get? b = some o → h'.get? b = some o
theorem Kp.trans {h h' h'' : Heap} (a : Kp h h') (b : Kp h' h'') : Kp h h'' := fun x o e => b x o (a x o e)
theorem Kp.push {h h' : Heap} (a : Kp h h') (o : Obj) : Kp h (h'.push o) := fun x o' e => Heap.get?_push_of_some _ (a x o' e)
theorem Kp.same {h₀ h h' : Heap} {c : Addr} (k : Kp h₀ h) (hs : Heap.SameBut c h h') (hc : h₀.objs.size ≤ c) : Kp h₀ h' :=
  fun b o e => (hs.2 b (Nat.ne_of_lt (Nat.lt_of_lt_of_le (Heap.lt_size e) hc))).trans (k b o e)
theorem cell_ne_list {h : Heap} {c D : Addr} {v : Option Value} {its : Array Value} (a : h.IsCell c v) (b : h.IsList D its) : c ≠ D := by
  rintro rfl
  obtain ⟨o, h1, h2⟩ := a
  obtain ⟨o', h3, _, n, h4⟩ := b
  rw [h1] at h3; cases h3; rw [h2] at h4; cases h4
theorem ns_ne_list {h : Heap} {L D : Addr} {m : Str → Option Value} {its : Array Value} (a : h.Ns L m) (b : h.IsList D its) : L ≠ D := by
  rintro rfl
  obtain ⟨o, es, ep, h1, h2, _⟩ := a
  obtain ⟨o', h3, _, n, h4⟩ := b
  rw [h1] at h3; cases h3; rw [h2] at h4; cases h4
theorem ns_ne_cell {h : Heap} {L c : Addr} {m : Str → Option Value} {v : Option Value} (a : h.Ns L m) (b : h.IsCell c v) : L ≠ c := by
  rintro rfl
  obtain ⟨o, es, ep, h1, h2, _⟩ := a
  obtain ⟨o', h3, h4⟩ := b
  rw [h1] at h3; cases h3; rw [h2] at h4; cases h4
section
variable {prog : Program} {w : World} {A : Around} {E : Value → Shared → Prop} {s : Shared} {env : Env} {pos : Pos}
theorem tuple_assign {elts : List Expr} {k : Nat} {vals : List Value} {Q : Unit → Shared → Prop} (hh : A.handled = none) (hsz : vals.length ≤ 100) (hn : (assignEach elts env).length = vals.length) (hstar : (assignEach elts env).findIdx? (·.1) = none)
    (h : ∀ h', Kp s.heap h' → wpAny (model prog w) A (assignInOrder ((assignEach elts env).map (·.2)) vals) Q E { s with heap := h' }) :
    wpAny (model prog w) A (newTuple vals) (fun v s₁ => wpAny (model prog w) A (assign (.Tuple elts k pos) env v) Q E s₁) E s := by
  refine wpAny_newTuple ?_ (by show vals.length ≤ sizeLine; rw [sizeLine_eq]; omega)
  refine wpAny_assign_Tuple (items := vals.toArray) hh ⟨_, Heap.get?_push_size _ rfl, rfl, _, rfl⟩ (by simpa using hn) hstar fun h' hx => ?_
  have := h h' (fun b o e => hx b o (Nat.ne_of_lt (Nat.lt_trans (Heap.lt_size e) (by show _ < (s.heap.push _).objs.size; rw [Heap.size_push]; exact Nat.lt_succ_self _))) (Heap.get?_push_of_some _ e))
  simpa using this
end
def theDef (i : Nat) : List Stmt × Scope := match pw_mq0086_01.main.body[i]? with
  | some (.FunctionDef _ _ b _ _ _ sc _ _ _) => (b, sc)
  | _ => ([], default)
def scp (i : Nat) : Scope := (theDef i).2
def envC (L : Addr) : Env := envOfC (Str.ofString "_law_compared") (scp 9) L 56 (.ref 55)
end Mine
namespace Mine
open PySem.Challenge
set_option maxHeartbeats 0
set_option maxRecDepth 100000

theorem rsize (n : Nat) : Builtin.Range.rangeSize 0 (n : Int) 1 = n := by
  unfold Builtin.Range.rangeSize
  simp
  try omega
theorem rsmall {n : Nat} (hn : n ≤ 1000) : Builtin.Range.small 0 (n : Int) 1 = true := by
  unfold Builtin.Range.small
  rw [rsize]
  simp [Builtin.Range.rangeFitsLong]
  omega
section
variable {prog : Program} {w : World} {A : Around} {E : Value → Shared → Prop} {s : Shared} {env : Env}
theorem range_it {n : Nat} {t : Tok} {Q : Value → Shared → Prop} (hn : n ≤ 1000)
    (h : ∀ h' I tk, Kp s.heap h' → s.heap.get? I = none → I < h'.objs.size → IsRangeIter h' I 0 n 1 → Q (.ref I) { s with heap := h', toks := tk }) :
    wpAny (model prog w) A (call (.type "range") [.int n t]) (fun xv s₁ => wpAny (model prog w) A (pyIter xv) Q E s₁) E s := by
  refine call_range_1 (wpAny_pyIter_range (IsRange.new ..) (rsmall hn) ?_)
  rw [rsize]
  refine h _ _ _ (fun b o e => Heap.get?_push_of_some _ (Heap.get?_push_of_some _ e)) ?_ (Heap.lt_size (Heap.get?_push_size _ rfl)) (Heap.get?_push_size _ rfl)
  exact Heap.get?_none_of_le (by rw [Heap.size_push]; exact Nat.le_succ _)

def pI (p : Nat → Bool) : Value → Bool
  | .int k _ => p k.toNat
  | _ => false
def FI (F : Nat → Value → Prop) : Value → Value → Prop
  | .int k _, y => F k.toNat y
  | _, _ => False
theorem pair_idx : ∀ (vs : List Value) (k0 : Nat), (∀ (j : Nat) v, vs[j]? = some v → ∃ t, v = .int ((k0 + j : Nat) : Int) t) → Paired (fun (k : Nat) (v : Value) => ∃ t, v = .int (k : Int) t) (List.range' k0 vs.length) vs
  | [], _, _ => .nil
  | v :: r, k0, h => by
    rw [List.length_cons, List.range'_succ]
    refine .cons (by have := h 0 v rfl; simpa using this) (pair_idx r (k0 + 1) fun j u hj => ?_)
    have := h (j + 1) u (by simpa using hj)
    rwa [Nat.add_assoc, Nat.add_comm 1 j]
theorem pair_filter {p : Nat → Bool} {F : Nat → Value → Prop} : ∀ {ks : List Nat} {vs ys : List Value}, Paired (fun (k : Nat) (v : Value) => ∃ t, v = .int (k : Int) t) ks vs → Paired (FI F) (vs.filter (pI p)) ys → Paired F (ks.filter p) ys
  | _, _, _, .nil, h => by cases h; exact .nil
  | _, _, ys, .cons (a := k) (l₁ := ks) (l₂ := vs) hk r, h => by
    obtain ⟨t, rfl⟩ := hk
    rw [List.filter_cons] at h ⊢
    have e : pI p (.int (k : Int) t) = p k := by show p (Int.toNat (k : Int)) = _; rw [Int.toNat_natCast]
    rw [e] at h
    cases hp : p k with
    | false =>
      rw [hp] at h
      simp only [Bool.false_eq_true, if_false] at h ⊢
      exact pair_filter r h
    | true =>
      rw [hp] at h
      simp only [if_true] at h ⊢
      cases h with
      | cons h1 h2 =>
        refine .cons ?_ (pair_filter r h2)
        have : F (Int.toNat (k : Int)) _ := h1
        rwa [Int.toNat_natCast] at this
theorem paired_range {n : Nat} {p : Nat → Bool} {F : Nat → Value → Prop} {vs ys : List Value} (hl : vs.length = n) (hv : ∀ (j : Nat) v, vs[j]? = some v → ∃ t, v = .int (0 + (j : Int) * 1) t)
    (h : Paired (FI F) (vs.filter (pI p)) ys) : Paired F ((List.range n).filter p) ys := by
  have := pair_filter (p := p) (F := F) (pair_idx vs 0 fun j v hj => by obtain ⟨t, e⟩ := hv j v hj; exact ⟨t, by rw [e]; congr 1; push_cast; omega⟩) h
  rwa [hl, ← List.range_eq_range'] at this

inductive RP (prog : Program) (w : World) (A : Around) (env : Env) (scope : Scope) (cl : List (Str × Addr)) (x : Str) (ifs : List Expr) (elt : Expr) (p : Nat → Bool) (F : Nat → Value → Prop) (Q : Value → Shared → Prop) : Value → Shared → Prop
  | mk {s : Shared} {I : Addr} (n : Nat) (hn : n ≤ 1000) (hI : IsRangeIter s.heap I 0 n 1)
    (tests : ∀ C k t s₃ m₃ E', s.heap.objs.size ≤ C → k < n → s₃.heap.Ns C m₃ → m₃ x = some (.int (k : Nat) t) → (∀ b o, b ≠ I → s.heap.get? b = some o → s₃.heap.get? b = some o) →
      wpAny (model prog w) A (forIn ifs true fun c r => if r = true then do let ok ← isTrue c (compEnvC scope cl C env) (eval c (compEnvC scope cl C env)); pure (ForInStep.yield ok) else pure (ForInStep.yield r))
        (fun ok s₄ => ok = p k ∧ Keeps s₃ s₄) E' s₃)
    (elts : ∀ C k t s₃ m₃ E', s.heap.objs.size ≤ C → k < n → p k = true → s₃.heap.Ns C m₃ → m₃ x = some (.int (k : Nat) t) → (∀ b o, b ≠ I → s.heap.get? b = some o → s₃.heap.get? b = some o) →
      wpAny (model prog w) A (eval elt (compEnvC scope cl C env)) (fun y s₄ => F k y ∧ Keeps s₃ s₄) E' s₃)
    (done : ∀ D h' tk ys, s.heap.get? D = none → h'.PlainList D ys → Paired F ((List.range n).filter p) ys.toList → (∀ b o, b ≠ I → s.heap.get? b = some o → h'.get? b = some o) → Q (.ref D) { s with heap := h', toks := tk }) :
    RP prog w A env scope cl x ifs elt p F Q (.ref I) s

theorem lc_range {elt iter : Expr} {x : Str} {px : Pos} {ifs : List Expr} {scope : Scope} {cl : List (Str × Addr)} {pos : Pos} {Q : Value → Shared → Prop} (p : Nat → Bool) (F : Nat → Value → Prop)
    (hh : A.handled = none) (hclos : closureFor scope env = pure cl) (hcell : ∀ y ∈ scope.names, y.2 ≠ .cell) (hkind : scope.kind = .function)
    (hnames : ∀ y ∈ scope.names, y.2 = .local → scope.names.lookup y.1 = some .local) (hx : scope.names.lookup x = some .local)
    (h : wpAny (model prog w) A (eval iter env) (fun xv s₁ => wpAny (model prog w) A (pyIter xv) (RP prog w A env scope cl x ifs elt p F Q) E s₁) E s)
    (hs : ∀ x, foldedSetIterable iter env x = pure x := by intro _; rfl) :
    wpAny (model prog w) A (eval (.ListComp elt [⟨.Name x px, iter, ifs, 0⟩] scope pos) env) Q E s := by
  refine wpAny_ListComp_free (pI p) (FI F) hclos hcell hkind hnames hx (wpAny_mono h (fun xv s₁ h₁ => wpAny_mono h₁ (fun it s₂ h₂ => ?_) fun _ _ e => e) fun _ _ e => e) hs
  cases h₂ with
  | mk n hn hI tests elts done =>
    rename_i I
    have out : ∀ {b : Addr}, b ≠ I → b ∉ [I] := fun h hm => h (List.mem_singleton.mp hm)
    refine ⟨I, [I], [I], n, fun i v => i < n ∧ ∃ t, v = .int (0 + (i : Int) * 1) t, fun i h => IsRangeIter h I (0 + (i : Nat) * 1) ((n : Int) - (i : Nat)) 1, rfl, ?_, by rw [sizeLine_eq]; omega, ?_, ?_, ⟨?_, ?_⟩, ?_⟩
    · have W := Walks.range (prog := prog) (w := w) (A := A) hh I 0 1 n
      exact ⟨W.sub, W.frame, fun i s Q E hi st hQ => W.item i s Q E hi st fun v h' tk hv => hQ v h' tk ⟨hi, hv⟩, W.done, W.self⟩
    · simpa using hI
    · intro b hb; rw [List.mem_singleton.mp hb]; exact Heap.lt_size hI
    · intro C i v s₃ m₃ E' hC hP hns hm hk htk
      obtain ⟨hi, t, rfl⟩ := hP
      have e : pI p (.int (0 + (i : Int) * 1) t) = p i := by show p (Int.toNat _) = _; congr 1; omega
      rw [e]
      have e2 : (0 + (i : Int) * 1) = ((i : Nat) : Int) := by omega
      rw [e2] at hm
      exact tests C i t s₃ m₃ E' hC hi hns hm fun b o hb => hk b o (out hb)
    · intro C i v s₃ m₃ E' hC hP hpv hns hm hk htk
      obtain ⟨hi, t, rfl⟩ := hP
      have e : pI p (.int (0 + (i : Int) * 1) t) = p i := by show p (Int.toNat _) = _; congr 1; omega
      rw [e] at hpv
      have e2 : (0 + (i : Int) * 1) = ((i : Nat) : Int) := by omega
      rw [e2] at hm
      refine wpAny_mono (elts C i t s₃ m₃ E' hC hi hpv hns hm fun b o hb => hk b o (out hb)) (fun y s₄ h => ⟨?_, h.2⟩) fun _ _ e => e
      show F (Int.toNat _) y
      rw [e2, Int.toNat_natCast]; exact h.1
    · intro D h' tk ys vs hD _ hpl hlen hP hF hk
      exact done D h' tk ys hD hpl (paired_range hlen (fun j v hj => (hP j v hj).2) hF) fun b o hb => hk b o (out hb)

theorem add_new {D : Addr} {ys : Array Value} {vals : List Value} {Q : Value → Shared → Prop} (hD : s.heap.PlainList D ys) (hsz : ys.size + vals.length ≤ 100000)
    (h : ∀ h' R, Kp s.heap h' → s.heap.get? R = none → h'.PlainList R (ys ++ vals.toArray) → Q (.ref R) { s with heap := h' }) :
    wpAny (model prog w) A (newList vals) (fun b s₂ => wpAny (model prog w) A (binaryOp .Add (.ref D) b) Q E s₂) E s := by
  obtain ⟨n, hn⟩ := hD
  have hs : sizeLine = 16777216 := sizeLine_eq
  refine wpAny_newList ?_ (by show vals.length ≤ sizeLine; omega)
  refine P.add_list (n := n) (n2 := 0) (items := ys) (items2 := vals.toArray) (Heap.get?_push_of_some _ hn) (Heap.get?_push_size _ rfl) ?_ (by have e : vals.toArray.size = vals.length := List.size_toArray; have e2 : ys.size + vals.toArray.size ≤ 100000 := (by omega); exact Nat.le_trans e2 (by rw [hs]; decide))
  refine h _ _ (fun b o e => Heap.get?_push_of_some _ (Heap.get?_push_of_some _ e)) (Heap.get?_none_of_le (by rw [Heap.size_push]; exact Nat.le_succ _)) ⟨0, Heap.get?_push_size _ rfl⟩
end
theorem paired_ints {ks : List Nat} {ys : List Value} (h : Paired (fun (k : Nat) (y : Value) => ∃ t, y = .int (k : Int) t) ks ys) : IntsAre ys (ks.map fun (k : Nat) => (k : Int)) := by
  induction h with
  | nil => exact .nil
  | cons h1 _ ih => obtain ⟨t, rfl⟩ := h1; exact .cons _ _ ih
/-- the comparison of two bared rows -/
def unl (x y : List Int) : List Nat := (List.range x.length).filter fun k => decide (x.getD k 0 ≠ y.getD k 0)
def cmpN (x y : List Int) : Int := if x.length = y.length then x.getD ((unl x y).headD 0) 0 - y.getD ((unl x y).headD 0) 0 else (x.length : Int) - y.length
theorem unl_lt {x y : List Int} (hx : 0 < x.length) : (unl x y).headD 0 < x.length := by
  cases h : unl x y with
  | nil => exact hx
  | cons k r =>
    have : k ∈ unl x y := by rw [h]; exact .head _
    exact List.mem_range.mp (List.mem_filter.mp this).1
theorem bareN_le : ∀ (ns : List Int), (bareN ns).length ≤ ns.length
  | [] => Nat.le_refl _
  | [_] => Nat.le_refl _
  | x :: y :: r => by
    rw [bareN]
    split
    · exact Nat.le_succ_of_le (bareN_le (y :: r))
    · exact Nat.le_refl _
theorem bareN_pos : ∀ {ns : List Int}, 0 < ns.length → 0 < (bareN ns).length
  | [], h => h
  | [_], h => h
  | x :: y :: r, _ => by
    rw [bareN]
    split
    · exact bareN_pos (ns := y :: r) (Nat.succ_pos _)
    · exact Nat.succ_pos _
end Mine
namespace Mine
open PySem.Challenge
set_option maxHeartbeats 0
set_option maxRecDepth 100000
local macro_rules | `(tactic| walk_at "eval Name") => `(tactic| first
  | (refine nm_cell (by rfl) (by assumption) ?_ rfl rfl (by decide))
  | (refine nm_loc (by assumption) (by first | assumption | rfl) ?_ rfl rfl (by decide))
  | (refine nm_own (by assumption) (by rfl) ?_ rfl rfl rfl (by decide))
  | (refine nm_blt (by assumption) (by rfl) ?_ rfl rfl rfl rfl (by decide)))
local macro_rules | `(tactic| walk_at "callWith ref") => `(tactic| (refine cw_own (by assumption) ⟨_, rfl⟩ rfl ?_ rfl))
local macro_rules | `(tactic| walk_at "And") => `(tactic| (refine ⟨by assumption, ?_⟩))
local macro_rules | `(tactic| walk_at "call builtin:len") => `(tactic| (refine len_list (by assumption) (by omega) ?_))
local macro_rules | `(tactic| walk_at "subscriptTail") => `(tactic| (refine item_list (by assumption) (by omega) (by omega) (by assumption) ?_))
theorem compared_call {w : World} {s : Shared} {A : Around} {l1 l2 : Addr} {vs1 vs2 : List Value} {n1 n2 : List Int} {Q E : Value → Shared → Prop} (B : Bas w.params s.heap) (hA : A.depth < 890) (hh : A.handled = none)
   (hl1 : s.heap.IsList l1 vs1.toArray) (hi1 : IntsAre vs1 n1) (hr1 : n1.length ≤ 5) (hl2 : s.heap.IsList l2 vs2.toArray) (hi2 : IntsAre vs2 n2) (hr2 : n2.length ≤ 5) (hp1 : 0 < n1.length) (hp2 : 0 < n2.length)
   (k : ∀ h' tk t, Kp s.heap h' → Q (.int (cmpN (bareN n1) (bareN n2)) t) { s with heap := h', toks := tk }) :
    wpAny (model rw_mq0086_01.row.prog w) A (call (.ref 56) [.ref l1, .ref l2]) (fun v s' => Q v s') E s := by
  refine wpAny_call ?_
  have ho := B.X 56 _ rfl
  refine call_cellsN_ret (by have : recursionLimit = 1000 := rfl; omega) ho rfl B.lim ?cd rfl ?hkind ?hnd ?_
  case hkind => exact kinds_of ⟨.inr ⟨rfl, rfl⟩, .inr ⟨rfl, rfl⟩, trivial⟩
  case hnd => decide
  case cd => exact codeRec_of B.X rfl
  intro h₁ tk cells F N C
  clear ho
  obtain ⟨o2, o1, rfl, d2, d1⟩ := C.two
  have k1 : Kp s.heap h₁ := F.keep
  have hn : h₁.Ns s.heap.objs.size (fun _ => none) := F.ns
  have hc2 : h₁.IsCell (s.heap.objs.size + 2) (some (.ref l2)) := ⟨o2, N.get (.head _), d2⟩
  have hc1 : h₁.IsCell (s.heap.objs.size + 1) (some (.ref l1)) := ⟨o1, N.get (.tail _ (.head _)), d1⟩
  have B1 : Bas w.params h₁ := B.keeps k1
  clear F N C d1 d2
  change wpAny _ (A.deeper (envC s.heap.objs.size)) (execs _ (envC s.heap.objs.size)) _ _ _
  have hA1 : (A.deeper (envC s.heap.objs.size)).handled = none := hh
  have dA : (A.deeper (envC s.heap.objs.size)).depth < 900 := by show A.depth + 1 < 900; omega
  repeat' walk1
  refine bare_call B1 dA (hl1.at fun o e => k1 _ o e) hi1 hr1 ?_
  intro h₂ tk₂ D1 ws1 k2 hD1 hI1
  replace k1 := Kp.trans k1 k2
  replace hn := hn.keeps k2
  replace hc1 := hc1.keeps k2
  replace hc2 := hc2.keeps k2
  replace B1 := B1.keeps k2
  dsimp only
  clear k2 h₁
  repeat' walk1
  refine bare_call B1 dA (hl2.at fun o e => k1 _ o e) hi2 hr2 ?_
  intro h₃ tk₃ D2 ws2 k2 hD2 hI2
  replace k1 := Kp.trans k1 k2
  replace hn := hn.keeps k2
  replace hc1 := hc1.keeps k2
  replace hc2 := hc2.keeps k2
  replace B1 := B1.keeps k2
  replace hD1 := hD1.at fun o e => k2 _ o e
  dsimp only
  clear k2 h₂
  repeat' walk1
  refine tuple_assign hA1 (Nat.le_of_ble_eq_true rfl) rfl rfl ?_
  intro h₄ k2
  replace k1 := Kp.trans k1 k2
  replace hn := hn.keeps k2
  replace hc1 := hc1.keeps k2
  replace hc2 := hc2.keeps k2
  replace hD1 := hD1.at fun o e => k2 _ o e
  replace hD2 := hD2.at fun o e => k2 _ o e
  dsimp only
  clear k2 h₃ B1
  repeat' walk1
  refine wpAny_storeName_cell rfl rfl rfl hc1 ?_
  intro h₅ hc1' hs
  replace k1 := Kp.same k1 hs (by omega)
  replace hn := hn.sameBut hs (by show s.heap.objs.size ≠ s.heap.objs.size + 1; omega)
  replace hc2 := hc2.sameBut hs (by show s.heap.objs.size + 2 ≠ s.heap.objs.size + 1; omega)
  replace hD1 := hD1.extBut hs.extBut (cell_ne_list hc1 hD1).symm
  replace hD2 := hD2.extBut hs.extBut (cell_ne_list hc1 hD2).symm
  replace hc1 := hc1'
  dsimp only
  clear hc1' hs h₄
  repeat' walk1
  refine wpAny_storeName_cell rfl rfl rfl hc2 ?_
  intro h₆ hc2' hs
  replace k1 := Kp.same k1 hs (by omega)
  replace hn := hn.sameBut hs (by show s.heap.objs.size ≠ s.heap.objs.size + 2; omega)
  replace hc1 := hc1.sameBut hs (by show s.heap.objs.size + 1 ≠ s.heap.objs.size + 2; omega)
  replace hD1 := hD1.extBut hs.extBut (cell_ne_list hc2 hD1).symm
  replace hD2 := hD2.extBut hs.extBut (cell_ne_list hc2 hD2).symm
  replace hc2 := hc2'
  dsimp only
  clear hc2' hs h₅
  have B1 : Bas w.params h₆ := B.keeps k1
  have e1 : ws1.toArray.size = (bareN n1).length := by rw [List.size_toArray, hI1.length]
  have e2 : ws2.toArray.size = (bareN n2).length := by rw [List.size_toArray, hI2.length]
  have g1 : (bareN n1).length ≤ 5 := Nat.le_trans (bareN_le _) hr1
  have g2 : (bareN n2).length ≤ 5 := Nat.le_trans (bareN_le _) hr2
  have q1 := bareN_pos hp1
  have q2 := bareN_pos hp2
  repeat' walk1
  · rename ((_ : Int) ≠ _) => hne
    have e : (ws1.toArray.size : Int) - ws2.toArray.size = cmpN (bareN n1) (bareN n2) := by
      unfold cmpN
      rw [if_neg (by omega), e1, e2]
    rw [e]
    exact k _ _ _ k1
  have hle : (bareN n1).length = (bareN n2).length := by omega
  refine lc_range (cl := [(Str.ofString "two", s.heap.objs.size + 2), (Str.ofString "one", s.heap.objs.size + 1)]) (fun k => decide ((bareN n1).getD k 0 ≠ (bareN n2).getD k 0)) (fun k y => ∃ t, y = .int (k : Int) t)
    hA1 (by with_unfolding_all rfl) (by decide) rfl (by decide) rfl ?_
  repeat' walk1
  refine range_it (n := ws1.toArray.size) (by omega) ?_
  intro h₇ I tk₇ k2 hI0 hIlt hIr
  refine RP.mk (ws1.toArray.size) (by omega) hIr ?_ ?_ ?_
  · intro C k t s₃ m₃ E' hC hk hns hm hkp
    refine wpAny_tests_one ?_
    have j : Kp h₆ s₃.heap := fun b o e => hkp b o (fun q => by subst q; rw [hI0] at e; cases e) (k2 b o e)
    have hD1' := hD1.at fun o e => j _ o e
    have hD2' := hD2.at fun o e => j _ o e
    have hc1' := hc1.keeps j
    have hc2' := hc2.keeps j
    obtain ⟨ta, ea⟩ := hI1.get k ((bareN n1).getD k 0) (by rw [List.getD_eq_getElem?_getD]; simp [show k < (bareN n1).length by omega])
    obtain ⟨tb, eb⟩ := hI2.get k ((bareN n2).getD k 0) (by rw [List.getD_eq_getElem?_getD]; simp [show k < (bareN n2).length by omega])
    have ea' : ws1.toArray[Int.toNat (k : Int)]? = some (.int ((bareN n1).getD k 0) ta) := by simpa using ea
    have eb' : ws2.toArray[Int.toNat (k : Int)]? = some (.int ((bareN n2).getD k 0) tb) := by simpa using eb
    repeat' walk1
    · simp [bne]
      rfl
    · exact ⟨s₃.heap, s₃.toks, rfl, fun _ _ e => e⟩
  · intro C k t s₃ m₃ E' hC hk hpk hns hm hkp
    exact nm_loc hns hm ⟨⟨t, rfl⟩, s₃.heap, s₃.toks, rfl, fun _ _ e => e⟩ rfl rfl (by decide)
  intro D h₈ tk₈ ys hD hpl hP hkp
  have j : Kp h₆ h₈ := fun b o e => hkp b o (fun q => by subst q; rw [hI0] at e; cases e) (k2 b o e)
  replace k1 := Kp.trans k1 j
  replace hn := hn.keeps j
  replace hc1 := hc1.keeps j
  replace hc2 := hc2.keeps j
  replace hD1 := hD1.at fun o e => j _ o e
  replace hD2 := hD2.at fun o e => j _ o e
  dsimp only
  clear j k2 hkp hIr hIlt hI0 hD B1
  rw [e1] at hP
  have hU := paired_ints hP
  change IntsAre _ ((unl (bareN n1) (bareN n2)).map _) at hU
  have hUl := hU.length
  have hUb : (unl (bareN n1) (bareN n2)).length ≤ 5 := by
    have := List.length_filter_le (fun k => decide ((bareN n1).getD k 0 ≠ (bareN n2).getD k 0)) (List.range (bareN n1).length)
    rw [List.length_range] at this
    unfold unl
    omega
  rw [List.length_map, Array.length_toList] at hUl
  repeat' walk1
  refine add_new hpl (by rw [hUl]; show _ + 1 ≤ _; omega) ?_
  intro h₉ R k2 hR0 hR
  replace k1 := Kp.trans k1 k2
  replace hn := hn.keeps k2
  replace hc1 := hc1.keeps k2
  replace hc2 := hc2.keeps k2
  replace hD1 := hD1.at fun o e => k2 _ o e
  replace hD2 := hD2.at fun o e => k2 _ o e
  dsimp only
  clear k2 hpl
  refine wpAny_storeName_local rfl hn ?_ rfl
  intro h' hn' hs
  replace k1 := Kp.same k1 hs (Nat.le_refl _)
  replace hc1 := hc1.sameBut hs (ns_ne_cell hn hc1).symm
  replace hc2 := hc2.sameBut hs (ns_ne_cell hn hc2).symm
  replace hD1 := hD1.extBut hs.extBut (ns_ne_list hn hD1).symm
  replace hD2 := hD2.extBut hs.extBut (ns_ne_list hn hD2).symm
  have hRl := (Heap.PlainList.isList hR).extBut hs.extBut (ns_ne_list hn (Heap.PlainList.isList hR)).symm
  replace hn := hn'
  dsimp only
  clear hn' hs hR
  have hUU := IntsAre.append hU (.cons 0 tk₈ .nil)
  have hu := unl_lt (y := bareN n2) q1
  obtain ⟨t0, f0⟩ := hUU.get 0 (((unl (bareN n1) (bareN n2)).headD 0 : Nat) : Int) (by cases h : unl (bareN n1) (bareN n2) <;> rfl)
  generalize hug : (unl (bareN n1) (bareN n2)).headD 0 = u at hu f0
  have f0' : (ys ++ [Value.int 0 tk₈].toArray)[Int.toNat 0]? = some (.int (u : Int) t0) := by
    rw [← Array.getElem?_toList]; simpa using f0
  obtain ⟨ta, ea⟩ := hI1.get u ((bareN n1).getD u 0) (by rw [List.getD_eq_getElem?_getD]; simp [hu])
  obtain ⟨tb, eb⟩ := hI2.get u ((bareN n2).getD u 0) (by rw [List.getD_eq_getElem?_getD]; simp [show u < (bareN n2).length by omega])
  have ea' : ws1.toArray[Int.toNat (u : Int)]? = some (.int ((bareN n1).getD u 0) ta) := by simpa using ea
  have eb' : ws2.toArray[Int.toNat (u : Int)]? = some (.int ((bareN n2).getD u 0) tb) := by simpa using eb
  have v1 : (fun x => if x = Str.ofString "unlike" then some (Value.ref R) else (none : Option Value)) (Str.ofString "unlike") = some (.ref R) := by simp
  repeat' walk1
  have e : (bareN n1).getD u 0 - (bareN n2).getD u 0 = cmpN (bareN n1) (bareN n2) := by
    unfold cmpN
    rw [if_pos hle, hug]
  dsimp only
  rw [e]
  exact k _ _ _ k1
end Mine
namespace Mine
open PySem.Challenge
set_option maxHeartbeats 0
set_option maxRecDepth 100000
section
variable {prog : Program} {w : World} {A : Around} {E : Value → Shared → Prop} {s : Shared}
theorem next_item {it l : Addr} {i : Nat} {items : Array Value} {x : Value} {Q : Value → Shared → Prop} (hit : s.heap.IsListIter it l i) (hl : s.heap.IsList l items) (hx : items[i]? = some x)
    (hQ : ∀ h', h'.IsListIter it l (i + 1) → Heap.SameBut it s.heap h' → Q x { s with heap := h' }) : wpAny (model prog w) A (call (.builtin "next") [.ref it]) Q E s := by
  obtain ⟨o, ho, hc, hd⟩ := id hit
  obtain ⟨ol, hol, _, nl, hdl⟩ := hl
  refine call_function_entry (by decide +kernel) (by decide +kernel) kdk_entry_next (kdk_args_next _) ?_
  unfold Builtin.«next»
  refine wpAny_bind (m := someArgs "next" 1 2 _) (wpAny_of_eq (a := [Value.ref it]) (by first | rfl | kernel_rfl!) ?_)
  dsimp only
  refine wpAny_bind (wpAny_specialOf (name := Str.ofString "__next__") hit.typeIs slot_listiter_next.lookup ?_)
  refine wpAny_ite_split (fun hab => absurd hab (by decide)) (fun _ => ?_)
  refine wpAny_bind (wpAny_callSpecial?_slot (name := Str.ofString "__next__") hit.typeIs slot_listiter_next
    (wpAny_call_entry slot_listiter_next hit.typeIs entry_listiter_next ?_ (args_listiter_next _)))
  show wpAny _ _ (field (.ref it) 0 >>= _) _ _ s
  refine wpAny_bind (wpAny_field ho hd (x := .ref l) rfl ?_)
  show wpAny _ _ (if (Value.ref l == Value.none) = true then _ else _) _ _ s
  rw [if_neg (show ¬ ((Value.ref l == Value.none) = true) from Bool.false_ne_true)]
  show wpAny _ _ (field (.ref it) 1 >>= _) _ _ s
  refine wpAny_bind (wpAny_field ho hd (x := .int i 0) rfl ?_)
  show wpAny _ _ (seqItems? (.ref l) >>= _) _ _ s
  refine wpAny_bind (wpAny_seqItems hol hdl ?_)
  simp only [Int.toNat_natCast, hx]
  refine wpAny_bind (wpAny_setField ho hd (by simp) (wpAny_pure ⟨x, rfl, wpAny_pure ⟨x, rfl, hQ _ ?_ (Heap.SameBut.update ..)⟩⟩))
  exact ⟨_, Heap.get?_update_self _ ho (Obj.isFreed_of_fields (Obj.data_mapFields hd _)), (Obj.cls_mapFields ..).trans hc, by
    rw [Obj.data_mapFields hd]; simp [rawInt]⟩
end
theorem ns_set {h : Heap} {L : Addr} {m : Str → Option Value} {n : Str} {v : Value} (hn : h.Ns L (fun x => if x = n then some v else m x)) : ∃ m', h.Ns L m' ∧ m' n = some v ∧ ∀ y, y ≠ n → m' y = m y :=
  ⟨_, hn, if_pos rfl, fun _ hy => if_neg hy⟩
structure Stp (P : Prop) : Prop where
  out : P
theorem stp_out {P : Prop} (h : Stp P) : P := h.out
def envV (L : Addr) : Env := envOf (Str.ofString "_parse_varint") (scp 1) L 21 (.ref 20)
theorem lookup_key {l : Frag} {a : Addr} {o : Obj} (e : List.lookup a l = some o) : a ∈ l.map (·.1) := by
  induction l with
  | nil => simp at e
  | cons p r ih =>
    obtain ⟨b, ob⟩ := p
    rw [List.lookup_cons] at e
    cases h : a == b with
    | true => rw [beq_iff_eq.mp h]; exact .head _
    | false => rw [h] at e; exact .tail _ (ih e)
theorem K_keys (P : Params) : (hd.heap_39 P).map (·.1) = [2, 3, 6, 15, 17, 18, 20, 21, 22, 24, 25, 27, 28, 29, 30, 31, 33, 34, 36, 37, 38, 40, 41, 43, 44, 45, 47, 48, 50, 51, 52, 55, 56, 57, 59, 60, 62, 63, 64, 67, 68] := by rfl
theorem KG_lt {P : Params} {a : Addr} {o : Obj} (e : List.lookup a (KG P) = some o) : a < 69 := by
  have := lookup_key (KG_ne e).1
  rw [K_keys] at this
  exact (by decide : ∀ b ∈ [2, 3, 6, 15, 17, 18, 20, 21, 22, 24, 25, 27, 28, 29, 30, 31, 33, 34, 36, 37, 38, 40, 41, 43, 44, 45, 47, 48, 50, 51, 52, 55, 56, 57, 59, 60, 62, 63, 64, 67, 68], b < 69) a this
theorem Bas.low {P : Params} {h h' : Heap} (B : Bas P h) (k : ∀ b o, b < 69 → b ≠ 23 → b ≠ 65 → h.get? b = some o → h'.get? b = some o) : Bas P h' := by
  refine ⟨fun a o e => k a o (KG_lt e) (KG_ne e).2.1 (KG_ne e).2.2 (B.X a o e), B.lim.at fun o e => k _ o (by decide) (by decide) (by decide) e, ?_, ?_, ?_⟩
  · obtain ⟨mg, h1, h2, h3⟩ := B.gl
    exact ⟨mg, h1.at' fun o e => k _ o (by decide) (by decide) (by decide) e, h2, h3⟩
  · obtain ⟨mb, h1, h2⟩ := B.bl
    exact ⟨mb, h1.at' fun o e => k _ o (by decide) (by decide) (by decide) e, h2⟩
  · obtain ⟨sl, h1⟩ := B.b4
    exact ⟨sl, k _ _ (by decide) (by decide) (by decide) h1⟩

theorem and64n : ∀ x : Nat, x < 128 → (x &&& 64) = if x < 64 then 0 else 64 := by
  have : ∀ x : Fin 128, (x.val &&& 64) = if x.val < 64 then 0 else 64 := by decide
  exact fun x h => this ⟨x, h⟩
theorem and64 {x : Int} (h0 : 0 ≤ x) (h1 : x < 128) : Builtin.bitAnd x 64 = if x < 64 then 0 else 64 := by
  rw [bitAnd_pp h0 (by decide), show Int.toNat 64 = 64 from rfl, and64n _ (by omega)]
  by_cases h : x < 64
  · rw [if_pos h, if_pos (by omega)]; rfl
  · rw [if_neg h, if_neg (by omega)]; rfl
theorem and_zero_nat (v r : Nat) (h : r < 64) : (v * 64 &&& r) = 0 := by
  have e : r = r &&& 63 := by
    have := Nat.and_two_pow_sub_one_eq_mod r 6
    simp only [show 2 ^ 6 - 1 = 63 from rfl, show 2 ^ 6 = 64 from rfl] at this
    rw [this, Nat.mod_eq_of_lt h]
  rw [e, Nat.and_comm r 63, ← Nat.and_assoc]
  have := Nat.and_two_pow_sub_one_eq_mod (v * 64) 6
  simp only [show 2 ^ 6 - 1 = 63 from rfl, show 2 ^ 6 = 64 from rfl] at this
  rw [this, Nat.mul_mod_left, Nat.zero_and]
theorem or_add {v r : Int} (hv : 0 ≤ v) (hr : 0 ≤ r) (h : r < 64) : Builtin.bitOr (v * 64) r = v * 64 + r := by
  have e0 : Builtin.bitXor (v * 64) r = Builtin.bitOr (v * 64) r - Builtin.bitAnd (v * 64) r := rfl
  have e1 := bitXor_and (v * 64) r
  have e2 : Builtin.bitAnd (v * 64) r = 0 := by
    rw [bitAnd_pp (by omega) hr]
    have : (v * 64).toNat = v.toNat * 64 := by omega
    rw [this, and_zero_nat _ _ (by omega)]; rfl
  omega
/-- octets that go on, then one that ends -/
inductive Chain : Int → List Int → Prop
  | stop {b : Int} : 0 ≤ b → b < 64 → Chain b []
  | go {b x : Int} {r : List Int} : 64 ≤ b → b < 128 → Chain x r → Chain b (x :: r)
def vfold (v : Int) (l : List Int) : Int := l.foldl (fun v x => v * 64 + x % 64) v
local macro_rules | `(tactic| walk_at "eval Name") => `(tactic| first
  | (refine nm_loc (by assumption) (by first | assumption | rfl) ?_ rfl rfl (by decide))
  | (refine nm_own (by assumption) (by rfl) ?_ rfl rfl rfl (by decide))
  | (refine nm_blt (by assumption) (by rfl) ?_ rfl rfl rfl rfl (by decide)))
local macro_rules | `(tactic| walk_at "loadName") => `(tactic| (refine wpAny_loadName_local rfl rfl (by assumption) (by assumption) ?_))
local macro_rules | `(tactic| walk_at "WhlRest") => `(tactic| (refine stp_out ?_))
local macro_rules | `(tactic| walk_at "inplaceOp LShift") => `(tactic| (refine ilshift_int_small (by decide) (by decide) (by omega) ?_))
theorem pow64 {n : Nat} (h : n ≤ 5) : (64 : Int) ^ n ≤ 1073741824 := by
  have : n = 0 ∨ n = 1 ∨ n = 2 ∨ n = 3 ∨ n = 4 ∨ n = 5 := by omega
  rcases this with rfl | rfl | rfl | rfl | rfl | rfl <;> decide
theorem whl_tk {prog : Program} {w : World} {A : Around} {E : Value → Shared → Prop} {s : Shared} {env : Env} {test : PySem.Expr} {body orelse : List Stmt} {Q : Flow → Shared → Prop} {k : Nat} (h : ∀ tk, WhlRest prog w A E env test body orelse Q k { s with toks := tk }) :
    WhlRest prog w A E env test body orelse Q k s := h s.toks
theorem varint_call {w : World} {s : Shared} {A : Around} {it l : Addr} {i : Nat} {vs : List Value} {n1 : List Int} {Q E : Value → Shared → Prop} (B : Bas w.params s.heap) (hA : A.depth < 890)
   (hit : s.heap.IsListIter it l i) (hl : s.heap.IsList l vs.toArray) (hi : IntsAre vs n1) (hge : 69 ≤ it) {x0 : Int} {r tl : List Int} (hd : n1.drop i = x0 :: r ++ tl) (hc : Chain x0 r) (hr : r.length ≤ 5)
   (k : ∀ h' tk t, (∀ b o, b ≠ it → s.heap.get? b = some o → h'.get? b = some o) → h'.IsListIter it l (i + 1 + r.length) → Q (.int (vfold 0 (x0 :: r)) t) { s with heap := h', toks := tk }) :
    wpAny (model rw_mq0086_01.row.prog w) A (call (.ref 21) [.ref it]) Q E s := by
  have b0 : 0 ≤ x0 ∧ x0 < 128 := by cases hc <;> omega
  refine wpAny_call ?_
  have ho := B.X 21 _ rfl
  refine call_pos_ret (by have : recursionLimit = 1000 := rfl; omega) ho rfl B.lim ?cd rfl ?hloc ?_
  case hloc => exact locs rfl
  case cd => exact codeRec_of B.X rfl
  intro h₁ F
  clear ho
  have k1 : Kp s.heap h₁ := F.keep
  obtain ⟨m, hn, ei⟩ : ∃ m, h₁.Ns s.heap.objs.size m ∧ m (Str.ofString "iterator") = some (.ref it) := ⟨_, F.ns, rfl⟩
  have B1 : Bas w.params h₁ := B.keeps k1
  have hL : s.heap.objs.size ≠ it := Nat.ne_of_gt (let ⟨o, ho, _⟩ := hit; Heap.lt_size ho)
  replace hit := hit.at fun o e => k1 _ o e
  replace hl := hl.at fun o e => k1 _ o e
  have hne : l ≠ it := by
    rintro rfl
    obtain ⟨o, h1, h2, h3⟩ := hit
    obtain ⟨o', h4, _, n, h5⟩ := hl
    rw [h1] at h4; cases h4; rw [h3] at h5; cases h5
  clear F
  change wpAny _ (A.deeper (envV s.heap.objs.size)) (execs _ (envV s.heap.objs.size)) _ _ _
  repeat' walk1
  obtain ⟨t0, f0⟩ := hi.get i x0 (by have := congrArg List.head? hd; simpa using this)
  refine next_item hit hl (x := .int x0 t0) (by simpa using f0) ?_
  intro h₂ hit2 hs
  replace hn := hn.sameBut hs hL
  replace hl := hl.extBut hs.extBut hne
  have k2 : ∀ b o, b ≠ it → s.heap.get? b = some o → h₂.get? b = some o := fun b o hb e => hs.extBut b o hb (k1 b o e)
  dsimp only
  clear hs B1 hit k1
  repeat' walk1
  refine wpAny_storeName_local rfl hn ?_ rfl
  intro h₃ hw3 hs3
  replace hl := hl.extBut hs3.extBut (ns_ne_list hn hl).symm
  replace hit2 := hit2.extBut hs3.extBut hL.symm
  have k3 : ∀ b o, b ≠ it → s.heap.get? b = some o → h₃.get? b = some o := fun b o hb e => hs3.extBut b o (Nat.ne_of_lt (Heap.lt_size e)) (k2 b o hb e)
  obtain ⟨m3, hn3, eb, em⟩ := ns_set hw3
  clear hw3
  replace ei := (em (Str.ofString "iterator") (by decide)).trans ei
  dsimp only
  clear hs3 k2 hn em
  repeat' walk1
  refine wpAny_storeName_local rfl hn3 ?_ rfl
  intro h₄ hw4 hs4
  replace hl := hl.extBut hs4.extBut (ns_ne_list hn3 hl).symm
  replace hit2 := hit2.extBut hs4.extBut hL.symm
  have k4 : ∀ b o, b ≠ it → s.heap.get? b = some o → h₄.get? b = some o := fun b o hb e => hs4.extBut b o (Nat.ne_of_lt (Heap.lt_size e)) (k3 b o hb e)
  obtain ⟨m4, hn4, ev, em⟩ := ns_set hw4
  clear hw4
  replace ei := (em (Str.ofString "iterator") (by decide)).trans ei
  replace eb := (em (Str.ofString "b") (by decide)).trans eb
  dsimp only
  clear hs4 k3 hn3 em
  rw [bitAnd_m6] at ev
  repeat' walk1
  refine whl_start 100 (whl_tk fun tk => ?_)
  dsimp only
  have hk : ∀ h' tk t, (∀ b o, b ≠ it → s.heap.get? b = some o → h'.get? b = some o) → h'.IsListIter it l (i + 1 + r.length) → Q (.int (vfold (x0 % 64) r) t) ⟨h', s.gens, s.drawn, tk, s.os⟩ := by
    intro h' tk t a1 a2
    have := k h' tk t a1 a2
    have e : vfold 0 (x0 :: r) = vfold (x0 % 64) r := by show vfold (0 * 64 + x0 % 64) r = _; rw [Int.zero_mul, Int.zero_add]
    rwa [e] at this
  have hvb : 0 ≤ x0 % 64 ∧ (x0 % 64 + 1) * 64 ^ r.length ≤ 68719476736 := by
    refine ⟨by omega, ?_⟩
    have h1 : (64 : Int) ^ r.length ≤ 1073741824 := pow64 hr
    have h2 : (0 : Int) ≤ 64 ^ r.length := Int.pow_nonneg (by decide)
    have h3 : (x0 % 64 + 1) * 64 ^ r.length ≤ 64 * 64 ^ r.length := Int.mul_le_mul_of_nonneg_right (by omega) h2
    omega
  have hd' : n1.drop (i + 1) = r ++ tl := by
    have := congrArg List.tail hd
    rw [List.tail_drop] at this
    simpa using this
  have evx : ∃ tv, m4 (Str.ofString "val") = some (.int (x0 % 64) tv) := ⟨_, ev⟩
  clear ev
  obtain ⟨tv, ev⟩ := evx
  generalize x0 % 64 = v at ev hk hvb
  generalize i + 1 = j at hit2 hk hd'
  clear k hd b0 f0 hr
  induction hc generalizing h₄ m4 v j tk t0 tv with
  | @stop b h1 h2 =>
    refine whl_turn (k := 99) (by passes_own) ?_
    repeat' walk1
    refine WhlIf.no (by rw [and64 h1 (by omega), if_pos h2]; rfl) ?_
    dsimp only
    repeat' walk1
    exact hk _ _ _ k4 hit2
  | @go b x r h1 h2 hc ih =>
    refine whl_turn (k := 99) (by passes_own) ?_
    repeat' walk1
    refine WhlIf.yes (by rw [and64 (by omega) h2, if_neg (by omega)]; rfl) ?_
    dsimp only
    have hx : 0 ≤ x ∧ x < 128 := by cases hc <;> omega
    have hp : (1 : Int) ≤ 64 ^ r.length := Int.pow_pos (by decide)
    have hvb2 : (v + 1) * 64 * 64 ^ r.length ≤ 68719476736 := by
      have := hvb.2
      rw [List.length_cons, Int.pow_succ] at this
      rw [Int.mul_assoc, Int.mul_comm 64]
      exact this
    have hvlt : v < 68719476736 := by
      have h3 : (v + 1) * 64 * 1 ≤ (v + 1) * 64 * 64 ^ r.length := Int.mul_le_mul_of_nonneg_left hp (by omega)
      omega
    repeat' walk1
    refine wpAny_storeName_local rfl hn4 ?_ rfl
    intro h₅ hw5 hs5
    replace hl := hl.extBut hs5.extBut (ns_ne_list hn4 hl).symm
    replace hit2 := hit2.extBut hs5.extBut hL.symm
    have k5 : ∀ b o, b ≠ it → s.heap.get? b = some o → h₅.get? b = some o := fun b o hb e => hs5.extBut b o (Nat.ne_of_lt (Heap.lt_size e)) (k4 b o hb e)
    obtain ⟨m5, hn5, ev5, em⟩ := ns_set hw5
    clear hw5
    replace ei := (em (Str.ofString "iterator") (by decide)).trans ei
    have B5 : Bas w.params h₅ := B.low fun a o ha _ _ e => k5 a o (Nat.ne_of_lt (Nat.lt_of_lt_of_le ha hge)) e
    dsimp only
    clear hs5 k4 hn4 em eb ev
    repeat' walk1
    obtain ⟨t6, f6⟩ := hi.get j x (by have := congrArg List.head? hd'; simpa using this)
    refine next_item hit2 hl (x := .int x t6) (by simpa using f6) ?_
    intro h₆ hit6 hs
    replace hn5 := hn5.sameBut hs hL
    replace hl := hl.extBut hs.extBut hne
    have k6 : ∀ b o, b ≠ it → s.heap.get? b = some o → h₆.get? b = some o := fun b o hb e => hs.extBut b o hb (k5 b o hb e)
    dsimp only
    clear hs B5 k5 hit2
    repeat' walk1
    refine wpAny_storeName_local rfl hn5 ?_ rfl
    intro h₇ hw7 hs7
    replace hl := hl.extBut hs7.extBut (ns_ne_list hn5 hl).symm
    replace hit6 := hit6.extBut hs7.extBut hL.symm
    have k7 : ∀ b o, b ≠ it → s.heap.get? b = some o → h₇.get? b = some o := fun b o hb e => hs7.extBut b o (Nat.ne_of_lt (Heap.lt_size e)) (k6 b o hb e)
    obtain ⟨m7, hn7, eb7, em⟩ := ns_set hw7
    clear hw7
    replace ei := (em (Str.ofString "iterator") (by decide)).trans ei
    replace ev5 := (em (Str.ofString "val") (by decide)).trans ev5
    dsimp only
    clear hs7 k6 hn5 em
    repeat' walk1
    refine wpAny_storeName_local rfl hn7 ?_ rfl
    intro h₈ hw8 hs8
    replace hl := hl.extBut hs8.extBut (ns_ne_list hn7 hl).symm
    replace hit6 := hit6.extBut hs8.extBut hL.symm
    have k8 : ∀ b o, b ≠ it → s.heap.get? b = some o → h₈.get? b = some o := fun b o hb e => hs8.extBut b o (Nat.ne_of_lt (Heap.lt_size e)) (k7 b o hb e)
    obtain ⟨m8, hn8, ev8, em⟩ := ns_set hw8
    clear hw8
    replace ei := (em (Str.ofString "iterator") (by decide)).trans ei
    replace eb7 := (em (Str.ofString "b") (by decide)).trans eb7
    dsimp only
    clear hs8 k7 hn7 em ev5
    repeat' walk1
    constructor
    have e8 : Builtin.bitOr (v * 2 ^ Int.toNat 6) (Builtin.bitAnd x 63) = v * 64 + x % 64 := by
      rw [bitAnd_m6, show (2 : Int) ^ Int.toNat 6 = 64 from rfl, or_add hvb.1 (by omega) (by omega)]
    rw [e8] at ev8
    refine ih _ _ hl k8 _ hn8 ei eb7 _ _ _ ev8 ?_ _ hit6 ?_ ?_
    · refine ⟨by omega, ?_⟩
      have h4 : (v * 64 + x % 64 + 1) * 64 ^ r.length ≤ (v + 1) * 64 * 64 ^ r.length := Int.mul_le_mul_of_nonneg_right (by omega) (by omega)
      omega
    · intro h' tk t a1 a2
      exact hk h' tk t a1 (by rw [List.length_cons, Nat.add_comm r.length 1, ← Nat.add_assoc]; exact a2)
    · have := congrArg List.tail hd'
      rw [List.tail_drop] at this
      simpa using this
end Mine
namespace Mine
open PySem.Challenge
set_option maxHeartbeats 0
set_option maxRecDepth 100000
section
variable {prog : Program} {w : World} {A : Around} {E : Value → Shared → Prop} {s : Shared}
theorem iter_list {l : Addr} {items : Array Value} {Q : Value → Shared → Prop} (hl : s.heap.IsList l items)
    (h : ∀ h' I, Kp s.heap h' → s.heap.get? I = none → h'.IsListIter I l 0 → Q (.ref I) { s with heap := h' }) :
    wpAny (model prog w) A (call (.builtin "iter") [.ref l]) Q E s := by
  refine call_function_entry (by decide +kernel) (by decide +kernel) kdk_entry_iter (kdk_args_iter _) ?_
  unfold Builtin.«iter»
  refine wpAny_bind (m := someArgs "iter" 1 2 _) (wpAny_of_eq (a := [Value.ref l]) (by first | rfl | kernel_rfl!) ?_)
  show wpAny _ _ (pyIter (.ref l) >>= _) _ _ _
  refine wpAny_bind (wpAny_pyIter_list hl ?_)
  exact wpAny_pure ⟨_, rfl, h _ _ (fun b o e => Heap.get?_push_of_some _ e) (Heap.get?_none_of_le (Nat.le_refl _)) ⟨_, Heap.get?_push_size _ rfl, rfl, rfl⟩⟩
theorem for_it {env : Env} {Q : Flow → Shared → Prop} {x : Str} {px pos : Pos} {iter : Expr} {body : List Stmt} {I l : Addr} {items : Array Value} {i0 : Nat} {m : Str → Option Value}
    (hh : A.handled = none) (hx : env.kindOf x = some .local)
    (hp : (env.scope.kind == .class || (env.scope.kind == .module && env.locals != env.globals)) = false)
    (hIL : I ≠ env.locals) (haL : l ≠ env.locals) (haI : l ≠ I) (hit : s.heap.IsListIter I l i0) (hl : s.heap.IsList l items) (hn : s.heap.Ns env.locals m) (hi0 : i0 ≤ items.size)
    (hiter : ∀ Q' : Value → Shared → Prop, Q' (.ref I) s → wpAny (model prog w) A (eval iter env) Q' E s)
    (J : Nat → (Str → Option Value) → Prop) (h0 : J i0 m)
    (step : ∀ i v m₁ s₁, items[i]? = some v → J i m₁ → s₁.heap.Ns env.locals (fun y => if y = x then some v else m₁ y) → (∀ b o, b ≠ env.locals → b ≠ I → s.heap.get? b = some o → s₁.heap.get? b = some o) →
      wpAny (model prog w) A (execs body env) (fun f s₂ => f = .next ∧ (∃ h' tk, s₂ = { s₁ with heap := h', toks := tk } ∧ ∀ b o, b ≠ env.locals → s₁.heap.get? b = some o → h'.get? b = some o) ∧ ∃ m₂, s₂.heap.Ns env.locals m₂ ∧ J (i + 1) m₂) E s₁)
    (hQ : ∀ h' tk m', h'.Ns env.locals m' → J items.size m' → (∀ b o, b ≠ env.locals → b ≠ I → s.heap.get? b = some o → h'.get? b = some o) → Q .next { s with heap := h', toks := tk })
    (hs : ∀ x, foldedSetIterable iter env x = pure x := by intro _; rfl)
    (hE : PassesOwn (model prog w) A env E := by passes_own) :
    wpAny (model prog w) A (exec (.For (.Name x px) iter body [] pos) env) Q E s := by
  refine wpAny_For (hiter _ (wpAny_pyIter_listiter hit ?_)) hs
  refine codeAny_forLoop
    (fun n s' => ∃ h' tk m' i, s' = { s with heap := h', toks := tk } ∧ h'.IsListIter I l i ∧ h'.IsList l items ∧ h'.Ns env.locals m' ∧ J i m' ∧ i ≤ items.size ∧ n = items.size + 1 - i ∧
      ∀ b o, b ≠ env.locals → b ≠ I → s.heap.get? b = some o → h'.get? b = some o) ?_ (items.size + 1 - i0) ⟨s.heap, s.toks, m, i0, rfl, hit, hl, hn, h0, hi0, rfl, fun _ _ _ _ e => e⟩
  rintro n s' ⟨h', tk, m', i, rfl, hit', hl', hn', hJ, hi, rfl, hk⟩
  cases hv : items[i]? with
  | none =>
    have hsz : i = items.size := Nat.le_antisymm hi (by simpa using hv)
    refine wpAny_pyNext_list_end hh hit' hl' hv fun h₁ he₁ => wpAny_execs_nil ?_
    exact hQ h₁ tk m' (hn'.extBut he₁ (Ne.symm hIL)) (hsz ▸ hJ) fun b o hbL hbI e => he₁ b o hbI (hk b o hbL hbI e)
  | some v =>
    have hlt : i < items.size := (Array.getElem?_eq_some_iff.mp hv).1
    refine wpAny_pyNext_list_item hit' hl' hv fun h₁ hit₁ hs₁ => ?_
    refine wpAny_assign_Name (wpAny_storeName_local hx (hn'.sameBut hs₁ (Ne.symm hIL)) (fun h₂ hn₂ hs₂ => ?_) hp)
    refine wpAny_passesOwn hE (wpAny_mono (step i v m' _ hv hJ hn₂ fun b o hbL hbI e => hs₂.extBut b o hbL (hs₁.extBut b o hbI (hk b o hbL hbI e))) (fun f s₃ h₃ => ?_) fun _ _ e => e)
    obtain ⟨rfl, ⟨h₃', tk₃, rfl, hs₃⟩, m₂, hn₃, hJ₃⟩ := h₃
    refine ⟨items.size + 1 - (i + 1), by omega, h₃', tk₃, m₂, i + 1, rfl, ?_, ?_, hn₃, hJ₃, hlt, rfl, fun b o hbL hbI e => ?_⟩
    · exact (hit₁.extBut hs₂.extBut hIL).at fun o e => hs₃ _ o hIL e
    · exact ((hl'.extBut hs₁.extBut haI).extBut hs₂.extBut haL).at fun o e => hs₃ _ o haL e
    · exact hs₃ b o hbL (hs₂.extBut b o hbL (hs₁.extBut b o hbI (hk b o hbL hbI e)))
end
def envR (L : Addr) : Env := { scope := scp 5, locals := L, globals := mainGlobals, cells := [], qual := (Str.ofString "reduce") ++ ".<locals>.", func := some 37, code := .ref 36, frame := some L, builtins := builtinsNs }
local macro_rules | `(tactic| walk_at "eval Name") => `(tactic| first
  | (refine nm_loc (by assumption) (by first | assumption | rfl) ?_ rfl rfl (by decide))
  | (refine nm_own (by assumption) (by rfl) ?_ rfl rfl rfl (by decide))
  | (refine nm_blt (by assumption) (by rfl) ?_ rfl rfl rfl rfl (by decide)))
local macro_rules | `(tactic| walk_at "compareOp Is int ref") => `(tactic| (refine wpAny_is_other (by rfl) (by intro h; cases h) ?_))
local macro_rules | `(tactic| walk_at "compareOp Is ref ref") => `(tactic| (refine wpAny_is_ref_self ?_))
local macro_rules | `(tactic| walk_at "nothing here") => `(tactic| fail)
local macro_rules | `(tactic| walk_at "nothing here") => `(tactic| fail)
local macro_rules | `(tactic| walk_at "And") => `(tactic| (refine ⟨by assumption, ?_⟩))
theorem reduce3_call {w : World} {s : Shared} {A : Around} {l fa : Addr} {fo' : Obj} {fd : FuncData} {items : Array Value} {v0 : Int} {t0 : Tok} {Q E : Value → Shared → Prop} (B : Bas w.params s.heap) (hA : A.depth < 890) (hh : A.handled = none)
   (hl : s.heap.IsList l items) (hfa : s.heap.get? fa = some fo') (hfd : fo'.data = .func fd) (J : Nat → Value → Prop) (h0 : J 0 (.int v0 t0))
   (hf : ∀ i v x s', Kp s.heap s'.heap → J i v → items[i]? = some x → wpAny (model rw_mq0086_01.row.prog w) (A.deeper (envR s.heap.objs.size)) (call (.ref fa) [v, x]) (fun v' s'' => J (i + 1) v' ∧ Keeps s' s'') (fun _ _ => False) s')
   (k : ∀ h' tk v, Kp s.heap h' → J items.size v → Q v { s with heap := h', toks := tk }) :
    wpAny (model rw_mq0086_01.row.prog w) A (call (.ref 37) [.ref fa, .ref l, .int v0 t0]) Q E s := by
  refine wpAny_call ?_
  have ho := B.X 37 _ rfl
  refine codeAny_call_def (by have : recursionLimit = 1000 := rfl; omega) ho rfl B.lim ?cd rfl (binds_K B.X rfl rfl rfl rfl rfl) ?hcell ?hloc ?_
  case hcell => decide
  case hloc => exact locs rfl
  case cd => exact codeRec_of B.X rfl
  intro h₁ hns k1
  clear ho
  have hlL : l ≠ s.heap.objs.size := Nat.ne_of_lt (let ⟨o, ho, _⟩ := hl; Heap.lt_size ho)
  obtain ⟨m, hn, ef, es, ein⟩ : ∃ m, h₁.Ns s.heap.objs.size m ∧ m (Str.ofString "function") = some (.ref fa) ∧ m (Str.ofString "sequence") = some (.ref l) ∧ m (Str.ofString "initial") = some (.int v0 t0) := ⟨_, hns, rfl, rfl, rfl⟩
  clear hns
  refine wpAny_mono (E := fun _ _ => False) ?_ (fun _ _ x => x) (fun _ _ x => x.elim)
  change wpAny _ (A.deeper (envR s.heap.objs.size)) (execs _ (envR s.heap.objs.size)) _ _ _
  have B1 : Bas w.params h₁ := B.keeps k1
  replace hl := hl.at fun o e => k1 _ o e
  have hA1 : (A.deeper (envR s.heap.objs.size)).handled = none := hh
  repeat' walk1
  refine iter_list hl ?_
  intro h₂ I k2 hI0 hI
  have hIL : I ≠ s.heap.objs.size := by rintro rfl; obtain ⟨o, _, _, h1, _⟩ := hn; rw [hI0] at h1; cases h1
  have hlI : l ≠ I := by rintro rfl; obtain ⟨o, h1, _⟩ := hl; rw [hI0] at h1; cases h1
  have hIs : s.heap.get? I = none := by
    cases q : s.heap.get? I with
    | none => rfl
    | some o => rw [k1 _ _ q] at hI0; cases hI0
  replace k1 := Kp.trans k1 k2
  replace hn := hn.keeps k2
  replace hl := hl.at fun o e => k2 _ o e
  dsimp only
  clear k2 hI0 B1
  refine wpAny_storeName_local rfl hn ?_ rfl
  intro h₃ hw3 hs3
  replace hl := hl.extBut hs3.extBut hlL
  replace hI := hI.extBut hs3.extBut hIL
  replace k1 := Kp.same k1 hs3 (Nat.le_refl _)
  obtain ⟨m3, hn3, ei, em⟩ := ns_set hw3
  clear hw3
  replace ef := (em (Str.ofString "function") (by decide)).trans ef
  replace ein := (em (Str.ofString "initial") (by decide)).trans ein
  have B3 : Bas w.params h₃ := B.keeps k1
  dsimp only
  clear hs3 em hn es
  repeat' walk1
  refine wpAny_storeName_local rfl hn3 ?_ rfl
  intro h₄ hw4 hs4
  replace hl := hl.extBut hs4.extBut hlL
  replace hI := hI.extBut hs4.extBut hIL
  replace k1 := Kp.same k1 hs4 (Nat.le_refl _)
  obtain ⟨m4, hn4, ev, em⟩ := ns_set hw4
  clear hw4
  replace ef := (em (Str.ofString "function") (by decide)).trans ef
  replace ei := (em (Str.ofString "it") (by decide)).trans ei
  dsimp only
  clear hs4 em hn3 B3 ein
  repeat' walk1
  refine for_it hA1 rfl rfl hIL hlL hlI hI hl hn4 (Nat.zero_le _) ?hiter (fun i m => m (Str.ofString "function") = some (.ref fa) ∧ ∃ v, m (Str.ofString "value") = some v ∧ J i v) ⟨ef, _, ev, h0⟩ ?step ?hQ
  case hiter => exact fun Q' h => nm_loc hn4 ei h rfl rfl (by decide)
  case hQ =>
    intro h₅ tk₅ m₅ hn5 hJ5 k5
    obtain ⟨_, v, ev5, hJv⟩ := hJ5
    have kk : Kp s.heap h₅ := fun b o e => k5 b o (Nat.ne_of_lt (Heap.lt_size e)) (by rintro rfl; rw [hIs] at e; cases e) (k1 b o e)
    dsimp only
    repeat' walk1
    exact k _ _ _ kk hJv
  case step =>
    intro i x m₁ s₁ hx hJi hn1 k5
    obtain ⟨ef1, v, ev1, hJv⟩ := hJi
    obtain ⟨m₂, hn2, eel, em⟩ := ns_set hn1
    clear hn1
    replace ef1 := (em (Str.ofString "function") (by decide)).trans ef1
    replace ev1 := (em (Str.ofString "value") (by decide)).trans ev1
    have kk : Kp s.heap s₁.heap := fun b o e => k5 b o (Nat.ne_of_lt (Heap.lt_size e)) (by rintro rfl; rw [hIs] at e; cases e) (k1 b o e)
    have hfa1 := kk _ _ hfa
    repeat' walk1
    refine wpAny_mono (hf i v x _ kk hJv hx) ?_ (fun _ _ h => h)
    rintro v' s₂ ⟨hJ', h₆, tk₆, rfl, k6⟩
    have hn6 := hn2.keeps k6
    refine wpAny_storeName_local rfl hn6 ?_ rfl
    intro h₇ hn7 hs7
    obtain ⟨m₇, hn7, ev7, em7⟩ := ns_set hn7
    refine wpAny_execs_nil ?_
    exact ⟨rfl, ⟨_, _, rfl, fun b o hb e => hs7.extBut b o hb (k6 b o e)⟩, m₇, hn7, (em7 (Str.ofString "function") (by decide)).trans ef1, v', ev7, hJ'⟩
theorem reduce2_call {w : World} {s : Shared} {A : Around} {l fa : Addr} {fo' : Obj} {fd : FuncData} {items : Array Value} {x0 : Value} {Q E : Value → Shared → Prop} (B : Bas w.params s.heap) (hA : A.depth < 890) (hh : A.handled = none)
   (hl : s.heap.IsList l items) (hfa : s.heap.get? fa = some fo') (hfd : fo'.data = .func fd) (J : Nat → Value → Prop) (hx0 : items[0]? = some x0) (h0 : J 1 x0)
   (hf : ∀ i v x s', Kp s.heap s'.heap → J i v → items[i]? = some x → wpAny (model rw_mq0086_01.row.prog w) (A.deeper (envR s.heap.objs.size)) (call (.ref fa) [v, x]) (fun v' s'' => J (i + 1) v' ∧ Keeps s' s'') (fun _ _ => False) s')
   (k : ∀ h' tk v, Kp s.heap h' → J items.size v → Q v { s with heap := h', toks := tk }) :
    wpAny (model rw_mq0086_01.row.prog w) A (call (.ref 37) [.ref fa, .ref l]) Q E s := by
  refine wpAny_call ?_
  have ho := B.X 37 _ rfl
  refine codeAny_call_def (by have : recursionLimit = 1000 := rfl; omega) ho rfl B.lim ?cd rfl (binds_K B.X rfl rfl rfl rfl rfl) ?hcell ?hloc ?_
  case hcell => decide
  case hloc => exact locs rfl
  case cd => exact codeRec_of B.X rfl
  intro h₁ hns k1
  clear ho
  have hlL : l ≠ s.heap.objs.size := Nat.ne_of_lt (let ⟨o, ho, _⟩ := hl; Heap.lt_size ho)
  obtain ⟨m, hn, ef, es, ein⟩ : ∃ m, h₁.Ns s.heap.objs.size m ∧ m (Str.ofString "function") = some (.ref fa) ∧ m (Str.ofString "sequence") = some (.ref l) ∧ m (Str.ofString "initial") = some (.ref 29) := ⟨_, hns, rfl, rfl, rfl⟩
  clear hns
  refine wpAny_mono (E := fun _ _ => False) ?_ (fun _ _ x => x) (fun _ _ x => x.elim)
  change wpAny _ (A.deeper (envR s.heap.objs.size)) (execs _ (envR s.heap.objs.size)) _ _ _
  have B1 : Bas w.params h₁ := B.keeps k1
  replace hl := hl.at fun o e => k1 _ o e
  have hA1 : (A.deeper (envR s.heap.objs.size)).handled = none := hh
  repeat' walk1
  refine iter_list hl ?_
  intro h₂ I k2 hI0 hI
  have hIL : I ≠ s.heap.objs.size := by rintro rfl; obtain ⟨o, _, _, h1, _⟩ := hn; rw [hI0] at h1; cases h1
  have hlI : l ≠ I := by rintro rfl; obtain ⟨o, h1, _⟩ := hl; rw [hI0] at h1; cases h1
  have hIs : s.heap.get? I = none := by
    cases q : s.heap.get? I with
    | none => rfl
    | some o => rw [k1 _ _ q] at hI0; cases hI0
  replace k1 := Kp.trans k1 k2
  replace hn := hn.keeps k2
  replace hl := hl.at fun o e => k2 _ o e
  dsimp only
  clear k2 hI0 B1
  refine wpAny_storeName_local rfl hn ?_ rfl
  intro h₃ hw3 hs3
  replace hl := hl.extBut hs3.extBut hlL
  replace hI := hI.extBut hs3.extBut hIL
  replace k1 := Kp.same k1 hs3 (Nat.le_refl _)
  obtain ⟨m3, hn3, ei, em⟩ := ns_set hw3
  clear hw3
  replace ef := (em (Str.ofString "function") (by decide)).trans ef
  replace ein := (em (Str.ofString "initial") (by decide)).trans ein
  have B3 : Bas w.params h₃ := B.keeps k1
  dsimp only
  clear hs3 em hn es
  repeat' walk1
  refine wpAny_Try_except ?_
  repeat' walk1
  refine next_item hI hl hx0 ?_
  intro h₃' hI' hsn
  replace hl := hl.extBut hsn.extBut hlI
  replace hn3 := hn3.sameBut hsn hIL.symm
  replace k1 : Kp s.heap h₃' := fun b o e => hsn.extBut b o (by rintro rfl; rw [hIs] at e; cases e) (k1 b o e)
  replace hI := hI'
  dsimp only
  clear hI' hsn B3
  refine wpAny_storeName_local rfl hn3 ?_ rfl
  intro h₄ hw4 hs4
  replace hl := hl.extBut hs4.extBut hlL
  replace hI := hI.extBut hs4.extBut hIL
  replace k1 := Kp.same k1 hs4 (Nat.le_refl _)
  obtain ⟨m4, hn4, ev, em⟩ := ns_set hw4
  clear hw4
  replace ef := (em (Str.ofString "function") (by decide)).trans ef
  replace ei := (em (Str.ofString "it") (by decide)).trans ei
  dsimp only
  clear hs4 em hn3 ein
  repeat' walk1
  refine for_it hA1 rfl rfl hIL hlL hlI hI hl hn4 (Array.getElem?_eq_some_iff.mp hx0).1 ?hiter (fun i m => m (Str.ofString "function") = some (.ref fa) ∧ ∃ v, m (Str.ofString "value") = some v ∧ J i v) ⟨ef, _, ev, h0⟩ ?step ?hQ
  case hiter => exact fun Q' h => nm_loc hn4 ei h rfl rfl (by decide)
  case hQ =>
    intro h₅ tk₅ m₅ hn5 hJ5 k5
    obtain ⟨_, v, ev5, hJv⟩ := hJ5
    have kk : Kp s.heap h₅ := fun b o e => k5 b o (Nat.ne_of_lt (Heap.lt_size e)) (by rintro rfl; rw [hIs] at e; cases e) (k1 b o e)
    dsimp only
    repeat' walk1
    exact k _ _ _ kk hJv
  case step =>
    intro i x m₁ s₁ hx hJi hn1 k5
    obtain ⟨ef1, v, ev1, hJv⟩ := hJi
    obtain ⟨m₂, hn2, eel, em⟩ := ns_set hn1
    clear hn1
    replace ef1 := (em (Str.ofString "function") (by decide)).trans ef1
    replace ev1 := (em (Str.ofString "value") (by decide)).trans ev1
    have kk : Kp s.heap s₁.heap := fun b o e => k5 b o (Nat.ne_of_lt (Heap.lt_size e)) (by rintro rfl; rw [hIs] at e; cases e) (k1 b o e)
    have hfa1 := kk _ _ hfa
    repeat' walk1
    refine wpAny_mono (hf i v x _ kk hJv hx) ?_ (fun _ _ h => h)
    rintro v' s₂ ⟨hJ', h₆, tk₆, rfl, k6⟩
    have hn6 := hn2.keeps k6
    refine wpAny_storeName_local rfl hn6 ?_ rfl
    intro h₇ hn7 hs7
    obtain ⟨m₇, hn7, ev7, em7⟩ := ns_set hn7
    refine wpAny_execs_nil ?_
    exact ⟨rfl, ⟨_, _, rfl, fun b o hb e => hs7.extBut b o hb (k6 b o e)⟩, m₇, hn7, (em7 (Str.ofString "function") (by decide)).trans ef1, v', ev7, hJ'⟩
end Mine
namespace Mine
open PySem.Challenge
set_option maxHeartbeats 0
set_option maxRecDepth 100000
/-- a list iterator that has come to its end -/
def DeadIter (h : Heap) (I : Addr) : Prop := ∃ o v, h.get? I = some o ∧ o.cls = .type "list_iterator" ∧ o.data = .fields #[.none, v]
section
variable {prog : Program} {w : World} {A : Around} {E : Value → Shared → Prop} {s : Shared}
theorem next_stop {it l : Addr} {i : Nat} {items : Array Value} {Q : Value → Shared → Prop} (hh : A.handled = none) (hit : s.heap.IsListIter it l i) (hl : s.heap.IsList l items) (hx : items[i]? = none)
    (hE : ∀ h₁ h₂ e, Heap.SameBut it s.heap h₁ → DeadIter h₁ it → Heap.MadeExcOf h₁ h₂ e (.type "StopIteration") [] → E (.ref e) { s with heap := h₂ }) : wpAny (model prog w) A (call (.builtin "next") [.ref it]) Q E s := by
  obtain ⟨o, ho, hc, hd⟩ := id hit
  obtain ⟨ol, hol, _, nl, hdl⟩ := hl
  refine call_function_entry (by decide +kernel) (by decide +kernel) kdk_entry_next (kdk_args_next _) ?_
  unfold Builtin.«next»
  refine wpAny_bind (m := someArgs "next" 1 2 _) (wpAny_of_eq (a := [Value.ref it]) (by first | rfl | kernel_rfl!) ?_)
  dsimp only
  refine wpAny_bind (wpAny_specialOf (name := Str.ofString "__next__") hit.typeIs slot_listiter_next.lookup ?_)
  refine wpAny_ite_split (fun hab => absurd hab (by decide)) (fun _ => ?_)
  refine wpAny_bind (wpAny_callSpecial?_slot (name := Str.ofString "__next__") hit.typeIs slot_listiter_next
    (wpAny_call_entry slot_listiter_next hit.typeIs entry_listiter_next ?_ (args_listiter_next _)))
  show wpAny _ _ (field (.ref it) 0 >>= _) _ _ s
  refine wpAny_bind (wpAny_field ho hd (x := .ref l) rfl ?_)
  show wpAny _ _ (if (Value.ref l == Value.none) = true then _ else _) _ _ s
  rw [if_neg (show ¬ ((Value.ref l == Value.none) = true) from Bool.false_ne_true)]
  show wpAny _ _ (field (.ref it) 1 >>= _) _ _ s
  refine wpAny_bind (wpAny_field ho hd (x := .int i 0) rfl ?_)
  show wpAny _ _ (seqItems? (.ref l) >>= _) _ _ s
  refine wpAny_bind (wpAny_seqItems hol hdl ?_)
  simp only [Int.toNat_natCast, hx]
  refine wpAny_bind (wpAny_rule (wpAny_bind (wpAny_setField ho hd (by simp) ?_)))
  show wpAny _ _ (newExc (.type "StopIteration") [] >>= _) _ _ _
  refine wpAny_bind ?_
  simp only [newExc, newTuple]
  refine wpAny_bind (wpAny_newObj_type ?_ (by size_fits))
  refine wpAny_bind (m := firstArgMember _ _) (wpAny_of_eq (a := Value.none) (by first | rfl | (simp only [firstArgMember]; rfl)) ?_)
  refine wpAny_newObj_type ?_ (by size_fits)
  simp only [raiseNew]
  refine wpAny_bind (wpAny_handled ?_)
  rw [show A.in1.in1.handled = none from hh]
  refine wpAny_bind (wpAny_pure (wpAny_throw ?_))
  have hown : ownMembersOf (.type "StopIteration") [] = #[] := by first | rfl | kernel_rfl | decide +kernel
  rw [hown]
  refine hE _ _ _ (Heap.SameBut.update ..) ?_ ⟨fun b o e => Heap.get?_push_of_some _ (Heap.get?_push_of_some _ e), ?_, ?_⟩
  · exact ⟨_, .int i 0, Heap.get?_update_self _ ho (Obj.isFreed_of_fields (Obj.data_mapFields hd _)), (Obj.cls_mapFields ..).trans hc, by rw [Obj.data_mapFields hd]; simp⟩
  · exact Heap.get?_none_of_le (by rw [Heap.size_push]; exact Nat.le_succ _)
  · refine ⟨(s.heap.update it (Obj.mapFields fun x => x.setIfInBounds 0 Value.none)).objs.size, Heap.get?_push_size _ rfl, Heap.get?_none_of_le (Nat.le_refl _), ?_⟩
    exact Heap.get?_push_of_some _ (Heap.get?_push_size _ rfl)
end
end Mine
namespace Mine
open PySem.Challenge
set_option maxHeartbeats 0
set_option maxRecDepth 100000
local macro_rules | `(tactic| walk_at "eval Name") => `(tactic| first
  | (refine nm_loc (by assumption) (by first | assumption | rfl) ?_ rfl rfl (by decide))
  | (refine nm_own (by assumption) (by rfl) ?_ rfl rfl rfl (by decide))
  | (refine nm_blt (by assumption) (by rfl) ?_ rfl rfl rfl rfl (by decide)))
local macro_rules | `(tactic| walk_at "loadName") => `(tactic| (refine wpAny_loadName_local rfl rfl (by assumption) (by assumption) ?_))
local macro_rules | `(tactic| walk_at "WhlRest") => `(tactic| (refine stp_out ?_))
local macro_rules | `(tactic| walk_at "nothing here") => `(tactic| fail)
local macro_rules | `(tactic| walk_at "nothing here") => `(tactic| fail)
local macro_rules | `(tactic| walk_at "nothing here") => `(tactic| fail)
local macro_rules | `(tactic| walk_at "inplaceOp LShift") => `(tactic| (refine ilshift_int_small (by decide) (by decide) (by omega) ?_))
/-- how a StopIteration comes out of a call below -/
def Stopped (outer : List Env) (it : Addr) (h₀ : Heap) (e : Addr) (h' : Heap) : Prop :=
  ∃ base t, Heap.FlyingW base outer e (.type "StopIteration") (.ref t) h' ∧ (∀ b o, h₀.get? b = some o → b ≠ it → b ∉ outer.filterMap (·.frame) → base.get? b = some o) ∧ DeadIter base it ∧ h₀.UpToSlots h'
theorem varint_stop {w : World} {s : Shared} {A : Around} {it l : Addr} {i : Nat} {vs : List Value} {n1 : List Int} {outer : List Env} {base0 : Heap} {Q E : Value → Shared → Prop} (B : Bas w.params s.heap) (hA : A.depth < 890) (hh : A.handled = none)
   (hfr : A.frames = some outer) (hff : s.heap.FunFrames base0 outer)
   (hit : s.heap.IsListIter it l i) (hl : s.heap.IsList l vs.toArray) (hi : IntsAre vs n1) (hge : 69 ≤ it) (hd : n1.drop i = [64, 64])
   (k : ∀ e h' tk, Stopped outer it s.heap e h' → E (.ref e) { s with heap := h', toks := tk }) :
    wpAny (model rw_mq0086_01.row.prog w) A (call (.ref 21) [.ref it]) Q E s := by
  refine wpAny_call ?_
  have ho := B.X 21 _ rfl
  refine codeAny_call_def (fd := docDef (Str.ofString "_parse_varint") _ _ (scp 1) _ (.ref 20) _) (by have : recursionLimit = 1000 := rfl; omega) ho rfl B.lim ?cd rfl (BindsTo.of_eq rfl) ?hcell ?hloc ?_
  case hcell => decide
  case hloc => exact locs rfl
  case cd => exact codeRec_of B.X rfl
  intro h₁ hns k1
  clear ho
  obtain ⟨m, hn, ei⟩ : ∃ m, h₁.Ns s.heap.objs.size m ∧ m (Str.ofString "iterator") = some (.ref it) := ⟨_, hns, rfl⟩
  have B1 : Bas w.params h₁ := B.keeps k1
  have hL : s.heap.objs.size ≠ it := Nat.ne_of_gt (let ⟨o, ho, _⟩ := hit; Heap.lt_size ho)
  have hit0 := hit
  replace hit := hit.at fun o e => k1 _ o e
  replace hl := hl.at fun o e => k1 _ o e
  have hne : l ≠ it := by
    rintro rfl
    obtain ⟨o, h1, h2, h3⟩ := hit
    obtain ⟨o', h4, _, n, h5⟩ := hl
    rw [h1] at h4; cases h4; rw [h3] at h5; cases h5
  clear hns
  change wpAny _ (A.deeper (envV s.heap.objs.size)) (execs _ (envV s.heap.objs.size)) _ (fun e s' => wpAny _ (A.deeper (envV s.heap.objs.size)) (leaving (envV s.heap.objs.size) e) (fun _ s'' => E e s'') (fun e' s'' => E e' s'') s') _
  have hlen : n1.length = i + 2 := by
    have := congrArg List.length hd
    rw [List.length_drop] at this
    simp at this
    omega
  have hA1 : (A.deeper (envV s.heap.objs.size)).handled = none := hh
  repeat' walk1
  obtain ⟨t0, f0⟩ := hi.get i 64 (by have := congrArg List.head? hd; simpa using this)
  refine next_item hit hl (x := .int 64 t0) (by simpa using f0) ?_
  intro h₂ hit2 hs
  replace hn := hn.sameBut hs hL
  replace hl := hl.extBut hs.extBut hne
  replace k1 : ∀ b o, b ≠ it → s.heap.get? b = some o → h₂.get? b = some o := fun b o hb e => hs.extBut b o hb (k1 b o e)
  replace hit := hit2
  dsimp only
  clear hs B1 hit2
  repeat' walk1
  refine wpAny_storeName_local rfl hn ?_ rfl
  intro h₃ hw3 hs3
  replace hl := hl.extBut hs3.extBut (ns_ne_list hn hl).symm
  replace hit := hit.extBut hs3.extBut hL.symm
  replace k1 : ∀ b o, b ≠ it → s.heap.get? b = some o → h₃.get? b = some o := fun b o hb e => hs3.extBut b o (Nat.ne_of_lt (Heap.lt_size e)) (k1 b o hb e)
  obtain ⟨m3, hn3, eb, em⟩ := ns_set hw3
  clear hw3
  replace ei := (em (Str.ofString "iterator") (by decide)).trans ei
  replace hn := hn3
  dsimp only
  clear hs3 em hn3
  repeat' walk1
  refine wpAny_storeName_local rfl hn ?_ rfl
  intro h₄ hw4 hs4
  replace hl := hl.extBut hs4.extBut (ns_ne_list hn hl).symm
  replace hit := hit.extBut hs4.extBut hL.symm
  replace k1 : ∀ b o, b ≠ it → s.heap.get? b = some o → h₄.get? b = some o := fun b o hb e => hs4.extBut b o (Nat.ne_of_lt (Heap.lt_size e)) (k1 b o hb e)
  obtain ⟨m4, hn4, ev, em⟩ := ns_set hw4
  clear hw4
  replace ei := (em (Str.ofString "iterator") (by decide)).trans ei
  replace eb := (em (Str.ofString "b") (by decide)).trans eb
  replace hn := hn4
  dsimp only
  clear hs4 em hn4
  have e0 : Builtin.bitAnd 64 63 = 0 := by decide
  rw [e0] at ev
  repeat' walk1
  refine whl_start 100 (whl_tk fun tk => ?_)
  dsimp only
  refine whl_turn (k := 99) (by passes_own) ?_
  repeat' walk1
  refine wpAny_storeName_local rfl hn ?_ rfl
  intro h5 hw hs
  replace hl := hl.extBut hs.extBut (ns_ne_list hn hl).symm
  replace hit := hit.extBut hs.extBut hL.symm
  replace k1 : ∀ b o, b ≠ it → s.heap.get? b = some o → h5.get? b = some o := fun b o hb e => hs.extBut b o (Nat.ne_of_lt (Heap.lt_size e)) (k1 b o hb e)
  obtain ⟨m5, hn5, ev5, em⟩ := ns_set hw
  clear hw
  replace ei := (em (Str.ofString "iterator") (by decide)).trans ei
  replace hn := hn5
  replace B1 : Bas w.params h5 := B.low fun a o ha _ _ e => k1 a o (Nat.ne_of_lt (Nat.lt_of_lt_of_le ha hge)) e
  dsimp only
  clear hs em eb ev hn5
  repeat' walk1
  obtain ⟨t6, f6⟩ := hi.get (i + 1) 64 (by
    have := congrArg (fun l => l[1]?) hd
    simpa [List.getElem?_drop] using this)
  refine next_item hit hl (x := .int 64 t6) (by simpa using f6) ?_
  intro h₆ hit6 hs
  replace hn := hn.sameBut hs hL
  replace hl := hl.extBut hs.extBut hne
  replace k1 : ∀ b o, b ≠ it → s.heap.get? b = some o → h₆.get? b = some o := fun b o hb e => hs.extBut b o hb (k1 b o hb e)
  replace hit := hit6
  dsimp only
  clear hs B1 hit6
  repeat' walk1
  refine wpAny_storeName_local rfl hn ?_ rfl
  intro h₇ hw7 hs7
  replace hl := hl.extBut hs7.extBut (ns_ne_list hn hl).symm
  replace hit := hit.extBut hs7.extBut hL.symm
  replace k1 : ∀ b o, b ≠ it → s.heap.get? b = some o → h₇.get? b = some o := fun b o hb e => hs7.extBut b o (Nat.ne_of_lt (Heap.lt_size e)) (k1 b o hb e)
  obtain ⟨m7, hn7, eb, em⟩ := ns_set hw7
  clear hw7
  replace ei := (em (Str.ofString "iterator") (by decide)).trans ei
  replace ev5 := (em (Str.ofString "val") (by decide)).trans ev5
  replace hn := hn7
  dsimp only
  clear hs7 em hn7
  repeat' walk1
  refine wpAny_storeName_local rfl hn ?_ rfl
  intro h₈ hw8 hs8
  replace hl := hl.extBut hs8.extBut (ns_ne_list hn hl).symm
  replace hit := hit.extBut hs8.extBut hL.symm
  replace k1 : ∀ b o, b ≠ it → s.heap.get? b = some o → h₈.get? b = some o := fun b o hb e => hs8.extBut b o (Nat.ne_of_lt (Heap.lt_size e)) (k1 b o hb e)
  obtain ⟨m8, hn8, ev, em⟩ := ns_set hw8
  clear hw8
  replace ei := (em (Str.ofString "iterator") (by decide)).trans ei
  replace eb := (em (Str.ofString "b") (by decide)).trans eb
  replace hn := hn8
  dsimp only
  clear hs8 em hn8 ev5
  have e1 : Builtin.bitOr (0 * 2 ^ Int.toNat 6) (Builtin.bitAnd 64 63) = 0 := by decide
  rw [e1] at ev
  repeat' walk1
  constructor
  refine whl_turn (k := 98) (by passes_own) ?_
  repeat' walk1
  refine wpAny_storeName_local rfl hn ?_ rfl
  intro h5 hw hs
  replace hl := hl.extBut hs.extBut (ns_ne_list hn hl).symm
  replace hit := hit.extBut hs.extBut hL.symm
  replace k1 : ∀ b o, b ≠ it → s.heap.get? b = some o → h5.get? b = some o := fun b o hb e => hs.extBut b o (Nat.ne_of_lt (Heap.lt_size e)) (k1 b o hb e)
  obtain ⟨m5, hn5, ev5, em⟩ := ns_set hw
  clear hw
  replace ei := (em (Str.ofString "iterator") (by decide)).trans ei
  replace hn := hn5
  replace B1 : Bas w.params h5 := B.low fun a o ha _ _ e => k1 a o (Nat.ne_of_lt (Nat.lt_of_lt_of_le ha hge)) e
  dsimp only
  clear hs em eb ev hn5
  repeat' walk1
  refine next_stop hA1 hit hl (by simp [hi.length, hlen]) ?_
  intro h₉ hE e hsE hdead hmade
  have k9 : ∀ b o, b ≠ it → s.heap.get? b = some o → h₉.get? b = some o := fun b o hb q => hsE.extBut b o hb (k1 b o hb q)
  have hn9 := hn.sameBut hsE hL
  clear ev5 e1 e0 ei B1 f0 f6 hit hl
  have nonf : ∀ {b o}, s.heap.get? b = some o → (∀ vs, o.data ≠ .fields vs) → b ≠ it := by
    rintro b o q hf rfl
    obtain ⟨o', h1, _, h3⟩ := hit0
    rw [h1] at q; cases q
    exact hf _ h3
  have hmem : it ∉ outer.filterMap (·.frame) := fun hm => by
    obtain ⟨_, o, ho, hf⟩ := hff.mem hm
    exact nonf ho hf rfl
  have up9 : s.heap.UpToSlots h₉ := fun b o q hf => ⟨o.slots, k9 b o (nonf q hf) q⟩
  have hff9 : h₉.FunFrames base0 outer := hff.of_keeps fun b o q hf => ⟨o, k9 b o (nonf q hf) q, rfl⟩
  have hin : ∀ env ∈ outer, ∀ a, env.frame = some a → a ∈ (envV s.heap.objs.size :: outer).filterMap (·.frame) := fun env he a ha => List.mem_filterMap.mpr ⟨env, .tail _ he, ha⟩
  have hLm : s.heap.objs.size ∈ (envV s.heap.objs.size :: outer).filterMap (·.frame) := List.mem_filterMap.mpr ⟨_, .head _, rfl⟩
  have notin : ∀ {b}, b ≠ s.heap.objs.size → b ∉ outer.filterMap (·.frame) → b ∉ (envV s.heap.objs.size :: outer).filterMap (·.frame) := fun h1 h2 hm => by
    rw [List.filterMap_cons] at hm
    rcases List.mem_cons.mp hm with q | q
    · exact h1 q
    · exact h2 q
  obtain ⟨oL, esL, epL, hgL, hdL, _⟩ := hn9
  refine wpAny_leaves_madeW (base := hideAll h₉ ((envV s.heap.objs.size :: outer).filterMap (·.frame))) (Around.frames_deeper hfr) rfl (fun b o q => of_hideAll _ q)
    ⟨(show (scp 1).kind ≠ .module by decide), ⟨s.heap.objs.size, oL, rfl, hideAll_none _ hLm, hgL, fun vs q => by rw [hdL] at q; cases q⟩, funFrames_hide hff9 hin⟩ hmade ?_
  intro h' t hfl _ _ hup
  refine k e h' _ ⟨_, t, hfl, fun b o q n1 n2 => hideAll_get _ (k9 b o n1 q) (notin (Nat.ne_of_lt (Heap.lt_size q)) n2), ?_, (up9.trans (Heap.UpToSlots.of_keeps hmade.keeps)).trans hup⟩
  obtain ⟨o, v, h1, h2, h3⟩ := hdead
  exact ⟨o, v, hideAll_get _ h1 (notin hL.symm hmem), h2, h3⟩
end Mine
namespace Mine
open PySem.Challenge
set_option maxHeartbeats 0
set_option maxRecDepth 100000
/-- a lambda's call -/
theorem lam_call {prog : Program} {w : World} {A : Around} {s : Shared} {R : Result → Shared → Prop} {f c' : Addr} {name qual : Str} {params : Arguments} {body : Expr} {scope : Scope} {cl : List (Str × Addr)} {pm ctv : Value} {args : Args} {binds : List (Str × Value)}
    (ho : s.heap.get? f = some (kla_obj name qual params body scope cl pm c' ctv)) (hcd : s.heap.CodeRec (.ref c') qual) (hroom : A.depth < recursionLimit) (hlim : s.heap.NoLimit)
    (hbind : bindArgs (kla_fn name qual params body scope cl pm (.ref c') ctv) args = pure binds) (hloc : ∀ y ∈ binds, scope.names.lookup y.1 = some .local)
    (h : ∀ h₁, h₁.Ns s.heap.objs.size (fun y => binds.reverse.lookup y) → Kp s.heap h₁ →
      wpAny (model prog w) (A.deeper (envX qual scope s.heap.objs.size f (.ref c') cl)) (eval body (envX qual scope s.heap.objs.size f (.ref c') cl)) (fun v s' => R (.ok (.ret v)) s')
        (fun e s' => wpAny (model prog w) (A.deeper (envX qual scope s.heap.objs.size f (.ref c') cl)) (leaving (envX qual scope s.heap.objs.size f (.ref c') cl) e) (fun _ s'' => R (.error e) s'') (fun e' s'' => R (.error e') s'') s')
        { s with heap := h₁, toks := s.toks + binds.length })
    (hco : scope.isCoroutine = false) (hgen : scope.isGenerator = false) (hk : scope.kind = .function) (hcell : ∀ x ∈ scope.names, x.2 ≠ .cell) :
    codeAny (model prog w) A (.call (.ref f) args) R s := by
  refine kla_callFunE hroom ho rfl hco hgen rfl hcd ?_
  rw [hbind]
  refine wpAny_pure (wpAny_newFunctionEnv hcell hloc (fun h₁ hns hsb => ⟨hlim.fresh _ hsb, ?_⟩) hk)
  exact kla_codeExpr (h h₁ hns fun b o e => hsb.extBut b o (Nat.ne_of_lt (Heap.lt_size e)) (Heap.get?_push_of_some _ e))
def lawS (i : Nat) : Stmt := (theDef 11).1.getD i default
def askL : Arguments × Expr × Scope × Pos := match lawS 3 with | .Assign _ (.Lambda p b sc pos) _ => (p, b, sc, pos) | _ => default
theorem ask_body : ∃ p1 p2 p3, askL.2.1 = .Call (.Name (Str.ofString "_parse_varint") p1) [.Name (Str.ofString "walker") p2] [] p3 := ⟨_, _, _, rfl⟩
/-- the lambda that asks -/
structure AskAt (h : Heap) (f : Addr) (cw : Addr) (W : Addr) : Prop where
  fn : ∃ pm c' ctv, h.get? f = some (kla_obj (Str.ofString "<lambda>") (Str.ofString "law.<locals>.<lambda>") askL.1 askL.2.1 askL.2.2.1 [(Str.ofString "walker", cw)] pm c' ctv) ∧ h.CodeRec (.ref c') (Str.ofString "law.<locals>.<lambda>")
  cell : h.IsCell cw (some (.ref W))
theorem AskAt.keeps {h h' : Heap} {f cw W : Addr} (X : AskAt h f cw W) (k : Kp h h') : AskAt h' f cw W :=
  ⟨let ⟨pm, c', ctv, a, b⟩ := X.fn; ⟨pm, c', ctv, k _ _ a, b.keeps k⟩, X.cell.keeps k⟩
theorem AskAt.isFn {h : Heap} {f cw W : Addr} (X : AskAt h f cw W) : FnAt f h := let ⟨_, _, _, a, _⟩ := X.fn; ⟨_, _, _, _, a⟩
def envAsk (f c' cw L : Nat) : Env := envX (Str.ofString "law.<locals>.<lambda>") askL.2.2.1 L f (.ref c') [(Str.ofString "walker", cw)]
section
variable {w : World} {A : Around} {E : Value → Shared → Prop} {s : Shared} {f c' cw Lf : Nat} {pos : Pos} {v : Value} {Q : Value → Shared → Prop}
theorem ask_walker (hc : s.heap.IsCell cw (some v)) (h : Q v s) : wpAny (model rw_mq0086_01.row.prog w) A (eval (.Name (Str.ofString "walker") pos) (envAsk f c' cw Lf)) Q E s :=
  nm_free (env := envAsk f c' cw Lf) (by kernel_rfl) hc h (by kernel_rfl) (by kernel_rfl) (by decide) (by decide)
theorem ask_parse (B : Bas w.params s.heap) (h : Q (.ref 21) s) : wpAny (model rw_mq0086_01.row.prog w) A (eval (.Name (Str.ofString "_parse_varint") pos) (envAsk f c' cw Lf)) Q E s :=
  nm_own (env := envAsk f c' cw Lf) B (by rfl) h (by kernel_rfl) (by kernel_rfl) (by kernel_rfl) (by decide)
end
section
local macro_rules | `(tactic| walk_at "eval Name") => `(tactic| first
  | (refine ask_walker (by assumption) ?_)
  | (refine ask_parse (by assumption) ?_))
local macro_rules | `(tactic| walk_at "callWith ref") => `(tactic| (refine cw_own (by assumption) ⟨_, rfl⟩ rfl ?_ rfl))
local macro_rules | `(tactic| walk_at "And") => `(tactic| (refine ⟨by assumption, ?_⟩))
theorem ask_call {w : World} {s : Shared} {A : Around} {f cw it l : Addr} {i : Nat} {vs : List Value} {n1 : List Int} {Q E : Value → Shared → Prop} (B : Bas w.params s.heap) (hA : A.depth < 880) (X : AskAt s.heap f cw it)
   (hit : s.heap.IsListIter it l i) (hl : s.heap.IsList l vs.toArray) (hi : IntsAre vs n1) (hge : 69 ≤ it) {x0 : Int} {r tl : List Int} (hd : n1.drop i = x0 :: r ++ tl) (hc : Chain x0 r) (hr : r.length ≤ 5)
   (k : ∀ h' tk t, (∀ b o, b ≠ it → s.heap.get? b = some o → h'.get? b = some o) → h'.IsListIter it l (i + 1 + r.length) → Q (.int (vfold 0 (x0 :: r)) t) { s with heap := h', toks := tk }) :
    wpAny (model rw_mq0086_01.row.prog w) A (call (.ref f) []) Q E s := by
  obtain ⟨⟨pm, c', ctv, ho, hcd⟩, hcell⟩ := X
  refine wpAny_call ?_
  refine lam_call ho hcd (by have : recursionLimit = 1000 := rfl; omega) B.lim (binds := []) (by kernel_rfl) (fun y hy => nomatch hy) ?_ (by kernel_rfl) (by kernel_rfl) (by kernel_rfl) (by decide)
  intro h₁ hns k1
  change wpAny _ (A.deeper (envAsk f c' cw s.heap.objs.size)) (eval askL.2.1 (envAsk f c' cw s.heap.objs.size)) _ _ _
  refine wpAny_mono (E := fun _ _ => False) ?_ (fun _ _ x => x) (fun _ _ x => x.elim)
  have B1 := B.keeps k1
  have hc1 := hcell.keeps k1
  have dA : (A.deeper (envAsk f c' cw s.heap.objs.size)).depth < 890 := by show A.depth + 1 < 890; omega
  obtain ⟨p1, p2, p3, eb⟩ := ask_body
  rw [eb]
  dsimp only
  repeat' walk1
  refine varint_call B1 dA (hit.at fun o e => k1 _ o e) (hl.at fun o e => k1 _ o e) hi hge hd hc hr ?_
  intro h' tk t k2 hit2
  exact k h' tk t (fun b o n e => k2 b o n (k1 b o e)) hit2
theorem ask_stop {w : World} {s : Shared} {A : Around} {f cw it l : Addr} {i : Nat} {vs : List Value} {n1 : List Int} {outer : List Env} {base0 : Heap} {Q E : Value → Shared → Prop} (B : Bas w.params s.heap) (hA : A.depth < 880) (hh : A.handled = none) (X : AskAt s.heap f cw it)
   (hfr : A.frames = some outer) (hff : s.heap.FunFrames base0 outer)
   (hit : s.heap.IsListIter it l i) (hl : s.heap.IsList l vs.toArray) (hi : IntsAre vs n1) (hge : 69 ≤ it) (hd : n1.drop i = [64, 64])
   (k : ∀ e h' tk, Stopped outer it s.heap e h' → E (.ref e) { s with heap := h', toks := tk }) :
    wpAny (model rw_mq0086_01.row.prog w) A (call (.ref f) []) Q E s := by
  obtain ⟨⟨pm, c', ctv, ho, hcd⟩, hcell⟩ := X
  refine wpAny_call ?_
  refine lam_call ho hcd (by have : recursionLimit = 1000 := rfl; omega) B.lim (binds := []) (by kernel_rfl) (fun y hy => nomatch hy) ?_ (by kernel_rfl) (by kernel_rfl) (by kernel_rfl) (by decide)
  intro h₁ hns k1
  change wpAny _ (A.deeper (envAsk f c' cw s.heap.objs.size)) (eval askL.2.1 (envAsk f c' cw s.heap.objs.size)) _ (fun e s' => wpAny _ (A.deeper (envAsk f c' cw s.heap.objs.size)) (leaving (envAsk f c' cw s.heap.objs.size) e) (fun _ s'' => E e s'') (fun e' s'' => E e' s'') s') _
  have B1 := B.keeps k1
  have hc1 := hcell.keeps k1
  have dA : (A.deeper (envAsk f c' cw s.heap.objs.size)).depth < 890 := by show A.depth + 1 < 890; omega
  have hA1 : (A.deeper (envAsk f c' cw s.heap.objs.size)).handled = none := hh
  obtain ⟨p1, p2, p3, eb⟩ := ask_body
  rw [eb]
  dsimp only
  repeat' walk1
  have nonf : ∀ {b o}, s.heap.get? b = some o → (∀ vs, o.data ≠ .fields vs) → b ≠ it := by
    rintro b o q hf rfl
    obtain ⟨o', h1, _, h3⟩ := hit
    rw [h1] at q; cases q
    exact hf _ h3
  have hLm : ∀ {b o}, s.heap.get? b = some o → b ≠ s.heap.objs.size := fun q => Nat.ne_of_lt (Heap.lt_size q)
  obtain ⟨oL, esL, epL, hgL, hdL, _⟩ := hns
  have hin : ∀ env ∈ outer, ∀ a, env.frame = some a → a ∈ outer.filterMap (·.frame) := fun env he a ha => List.mem_filterMap.mpr ⟨env, he, ha⟩
  have hbn : (hideAll s.heap (outer.filterMap (·.frame))).get? s.heap.objs.size = none := by
    cases q : (hideAll s.heap (outer.filterMap (·.frame))).get? s.heap.objs.size with
    | none => rfl
    | some o => exact absurd rfl (hLm (of_hideAll _ q))
  have hff1 : h₁.FunFrames (hideAll s.heap (outer.filterMap (·.frame))) outer := (funFrames_hide hff hin).of_keeps fun b o q _ => ⟨o, k1 b o q, rfl⟩
  refine varint_stop B1 dA hA1 (Around.frames_deeper hfr) (base0 := hideAll s.heap (outer.filterMap (·.frame))) ⟨(show askL.2.2.1.kind ≠ .module by decide), ⟨s.heap.objs.size, oL, rfl, hbn, hgL, fun vs q => by rw [hdL] at q; cases q⟩, hff1⟩
    (hit.at fun o e => k1 _ o e) (hl.at fun o e => k1 _ o e) hi hge hd ?_
  rintro e h' tk ⟨base, t, hfl, hkeep, hdead, hup⟩
  refine wpAny_leaves_onW (Around.frames_deeper hfr) rfl hfl ?_
  intro h'' hfl2 hup2
  refine k e h'' _ ⟨base, t, hfl2, fun b o q n1 n2 => hkeep b o (k1 b o q) n1 (fun hm => ?_), hdead, ((Heap.UpToSlots.of_keeps k1).trans hup).trans hup2⟩
  rw [List.filterMap_cons] at hm
  rcases List.mem_cons.mp hm with z | z
  · exact hLm q z
  · exact n2 z
end
end Mine
namespace Mine
open PySem.Challenge
set_option maxHeartbeats 0
set_option maxRecDepth 100000
def envO (L : Nat) : Env := envOf (Str.ofString "_law_over") (scp 10) L 63 (.ref 62)
section
variable {w : World} {A : Around} {E : Value → Shared → Prop} {s : Shared} {Lf : Nat} {pos : Pos} {v : Value} {Q : Value → Shared → Prop} {m : Str → Option Value}
theorem over_ask (hn : s.heap.Ns Lf m) (e : m (Str.ofString "ask") = some v) (h : Q v s) : wpAny (model rw_mq0086_01.row.prog w) A (eval (.Name (Str.ofString "ask") pos) (envO Lf)) Q E s :=
  nm_loc (env := envO Lf) hn e h (by kernel_rfl) (by kernel_rfl) (by decide)
theorem over_stop (B : Bas w.params s.heap) (h : Q (.type "StopIteration") s) : wpAny (model rw_mq0086_01.row.prog w) A (eval (.Name (Str.ofString "StopIteration") pos) (envO Lf)) Q E s :=
  nm_blt (env := envO Lf) B (by rfl) h (by kernel_rfl) (by kernel_rfl) (by kernel_rfl) (by kernel_rfl) (by decide)
end
section
local macro_rules | `(tactic| walk_at "eval Name") => `(tactic| first
  | (refine over_ask (by assumption) (by assumption) ?_)
  | (refine over_stop (by assumption) ?_))
theorem over_call {w : World} {s : Shared} {A : Around} {f cw it l : Addr} {i : Nat} {vs : List Value} {n1 : List Int} {outer : List Env} {base0 : Heap} {Q E : Value → Shared → Prop} (B : Bas w.params s.heap) (hA : A.depth < 870) (hh : A.handled = none) (X : AskAt s.heap f cw it)
   (hfr : A.frames = some outer) (hff : s.heap.FunFrames base0 outer) (hfg : ∀ a ∈ outer.filterMap (·.frame), 69 ≤ a)
   (hit : s.heap.IsListIter it l i) (hl : s.heap.IsList l vs.toArray) (hi : IntsAre vs n1) (hge : 69 ≤ it) (hd : n1.drop i = [64, 64])
   (k : ∀ h' tk, (∀ b o, s.heap.get? b = some o → b ≠ it → b ∉ outer.filterMap (·.frame) → h'.get? b = some o) → DeadIter h' it → s.heap.UpToSlots h' → Q (.bool true) { s with heap := h', toks := tk }) :
    wpAny (model rw_mq0086_01.row.prog w) A (call (.ref 63) [.ref f]) Q E s := by
  refine wpAny_call ?_
  have ho := B.X 63 _ rfl
  refine codeAny_call_def (fd := docDef (Str.ofString "_law_over") _ _ (scp 10) _ (.ref 62) _) (by have : recursionLimit = 1000 := rfl; omega) ho rfl B.lim ?cd rfl (BindsTo.of_eq rfl) ?hcell ?hloc ?_
  case hcell => decide
  case hloc => exact locs rfl
  case cd => exact codeRec_of B.X rfl
  intro h₁ hns k1
  clear ho
  obtain ⟨m, hn, ea⟩ : ∃ m, h₁.Ns s.heap.objs.size m ∧ m (Str.ofString "ask") = some (.ref f) := ⟨_, hns, rfl⟩
  have B1 : Bas w.params h₁ := B.keeps k1
  clear hns
  refine wpAny_mono (E := fun _ _ => False) ?_ (fun _ _ x => x) (fun _ _ x => x.elim)
  change wpAny _ (A.deeper (envO s.heap.objs.size)) (execs _ (envO s.heap.objs.size)) _ _ _
  have hA1 : (A.deeper (envO s.heap.objs.size)).handled = none := hh
  have dA : (A.deeper (envO s.heap.objs.size)).depth < 880 := by show A.depth + 1 < 880; omega
  refine wpAny_execs_cons ?_
  refine wpAny_Try_except ?_
  repeat' walk1
  have X1 : AskAt h₁ f cw it := X.keeps k1
  refine callWith_F0 X1.isFn ?_
  have nonf : ∀ {b o}, s.heap.get? b = some o → (∀ vs, o.data ≠ .fields vs) → b ≠ it := by
    rintro b o q hf rfl
    obtain ⟨o', h1, _, h3⟩ := hit
    rw [h1] at q; cases q
    exact hf _ h3
  have hLm : ∀ {b o}, s.heap.get? b = some o → b ≠ s.heap.objs.size := fun q => Nat.ne_of_lt (Heap.lt_size q)
  obtain ⟨oL, esL, epL, hgL, hdL, hsL⟩ := id hn
  have hin : ∀ env ∈ outer, ∀ a, env.frame = some a → a ∈ outer.filterMap (·.frame) := fun env he a ha => List.mem_filterMap.mpr ⟨env, he, ha⟩
  have hbn : (hideAll s.heap (outer.filterMap (·.frame))).get? s.heap.objs.size = none := by
    cases q : (hideAll s.heap (outer.filterMap (·.frame))).get? s.heap.objs.size with
    | none => rfl
    | some o => exact absurd rfl (hLm (of_hideAll _ q))
  have hff1 : h₁.FunFrames (hideAll s.heap (outer.filterMap (·.frame))) outer := (funFrames_hide hff hin).of_keeps fun b o q _ => ⟨o, k1 b o q, rfl⟩
  refine ask_stop B1 dA hA1 X1 (Around.frames_deeper hfr) (base0 := hideAll s.heap (outer.filterMap (·.frame))) ⟨(show (scp 10).kind ≠ .module by decide), ⟨s.heap.objs.size, oL, rfl, hbn, hgL, fun vs q => by rw [hdL] at q; cases q⟩, hff1⟩
    (hit.at fun o e => k1 _ o e) (hl.at fun o e => k1 _ o e) hi hge hd ?_
  rintro e h₂ tk ⟨base, t, hfl, hkeep, hdead, hup⟩
  dsimp only
  refine wpAny_looks_onW (Around.frames_deeper hfr) rfl hfl fun h₄ hheld₄ hsm₄ => ?_
  refine wpAny_landsW hheld₄ fun h₅ hheld hsm₅ => ?_
  have keepB : ∀ b o, s.heap.get? b = some o → b ≠ it → b ∉ outer.filterMap (·.frame) → base.get? b = some o := fun b o q n1 n2 => hkeep b o (k1 b o q) n1 (fun hm => by
    rw [List.filterMap_cons] at hm
    rcases List.mem_cons.mp hm with z | z
    · exact hLm q z
    · exact n2 z)
  have B5 : Bas w.params h₅ := B.low fun a o ha _ _ q => hheld.1 a o (keepB a o q (Nat.ne_of_lt (Nat.lt_of_lt_of_le ha hge)) fun hm => absurd (hfg a hm) (Nat.not_le.mpr ha))
  obtain ⟨ob, hob, hobc⟩ := hheld.there
  refine wpAny_handleBy_builtin (X := "StopIteration") (T := "StopIteration") (b := true) (by rw [isSubtype_type]; kernel_rfl) (by rw [isSubtype_type]; kernel_rfl) isSubtype_stop (over_stop B5 ⟨rfl, ⟨ob, hob, hobc⟩, ?_⟩)
  refine lands_againW hheld fun h₆ hfl₆ hsm₆ => ?_
  refine wpAny_mono (E := fun _ _ => False) ?_ (fun _ _ x => x) (fun _ _ x => x.elim)
  repeat' walk1
  refine k h₆ _ (fun b o q n1 n2 => hfl₆.1 b o (keepB b o q n1 n2)) ?_ (((((Heap.UpToSlots.of_keeps k1).trans hup).trans hsm₄).trans hsm₅).trans hsm₆)
  obtain ⟨o, v, d1, d2, d3⟩ := hdead
  exact ⟨o, v, hfl₆.1 _ _ d1, d2, d3⟩
end
end Mine
namespace Mine
open PySem.Challenge
set_option maxHeartbeats 0
set_option maxRecDepth 100000
abbrev lstK (ys : List Value) (k : Nat) : Obj := { cls := .type "list", data := .seq ys.toArray k }
/-- how a turn of a comprehension ends -/
def GT (s : Shared) (h : Heap) (fp : List Addr) (J : Addr → Addr → Nat → List Value → Heap → Prop) (C D : Addr) (i : Nat) (ys : List Value) (s' : Shared) : Prop :=
  ∃ h' tk', s' = { s with heap := h', toks := tk' } ∧ (∀ o, h.get? C = some o → h'.get? C = some o) ∧ (∀ o, h.get? D = some o → h'.get? D = some o) ∧ (∀ b ∈ fp, ∀ o, h.get? b = some o → h'.get? b = some o) ∧ J C D (i + 1) ys h'
inductive GP (prog : Program) (w : World) (A : Around) (env : Env) (scope : Scope) (cl : List (Str × Addr)) (x : Str) (ifs : List Expr) (elt : Expr) (Q : Value → Shared → Prop) : Value → Shared → Prop
  | mk {s : Shared} {I : Addr} (n : Nat) (P : Nat → Value → Prop) (St : Nat → Heap → Prop) (fp : List Addr) (J : Addr → Addr → Nat → List Value → Heap → Prop)
    (W : Walks prog w A I fp [I] n P St) (hsz : n ≤ 100000) (st0 : St 0 s.heap) (hfp : ∀ b ∈ fp, b < s.heap.objs.size)
    (j0 : ∀ C D h, s.heap.objs.size ≤ C → s.heap.objs.size ≤ D → Kp s.heap h → J C D 0 [] h)
    (jst : ∀ C D i ys h h', s.heap.objs.size ≤ C → s.heap.objs.size ≤ D → J C D i ys h → (∀ b o, b ≠ I → b ≠ C → b ≠ D → h.get? b = some o → h'.get? b = some o) → J C D i ys h')
    (turn : ∀ C D i ys v h tk m, s.heap.objs.size ≤ C → s.heap.objs.size ≤ D → C ≠ D → i < n → ys.length ≤ i → P i v → St (i + 1) h → h.Ns C m → m x = some v → (∃ k, h.get? D = some (lstK ys k)) → J C D i ys h →
      wpAny (model prog w) A (forIn ifs true fun c r => if r = true then do let ok ← isTrue c (compEnvC scope cl C env) (eval c (compEnvC scope cl C env)); pure (ForInStep.yield ok) else pure (ForInStep.yield r))
        (fun ok s₃ => if ok = true then wpAny (model prog w) A (eval elt (compEnvC scope cl C env)) (fun y s₄ => GT s h fp J C D i (ys ++ [y]) s₄) (fun _ _ => False) s₃ else GT s h fp J C D i ys s₃) (fun _ _ => False) { s with heap := h, toks := tk })
    (done : ∀ C D ys h tk, s.heap.objs.size ≤ C → s.heap.objs.size ≤ D → C ≠ D → ys.length ≤ n → J C D n ys h → (∃ k, h.get? D = some (lstK ys k)) → Q (.ref D) { s with heap := h, toks := tk }) :
    GP prog w A env scope cl x ifs elt Q (.ref I) s
section
variable {prog : Program} {w : World} {A : Around} {E : Value → Shared → Prop} {s : Shared} {env : Env}
theorem lcG {elt iter : Expr} {x : Str} {px : Pos} {ifs : List Expr} {scope : Scope} {cl : List (Str × Addr)} {pos : Pos} {Q : Value → Shared → Prop}
    (hclos : closureFor scope env = pure cl) (hcell : ∀ y ∈ scope.names, y.2 ≠ .cell) (hkind : scope.kind = .function)
    (hnames : ∀ y ∈ scope.names, y.2 = .local → scope.names.lookup y.1 = some .local) (hx : scope.names.lookup x = some .local)
    (h : wpAny (model prog w) A (eval iter env) (fun xv s₁ => wpAny (model prog w) A (pyIter xv) (GP prog w A env scope cl x ifs elt Q) E s₁) E s)
    (hs : ∀ x, foldedSetIterable iter env x = pure x := by intro _; rfl) :
    wpAny (model prog w) A (eval (.ListComp elt [⟨.Name x px, iter, ifs, 0⟩] scope pos) env) Q E s := by
  rw [eval_ListComp]
  refine wpAny_comprehension_free (use := none) rfl hs hclos hkind hnames (wpAny_mono h (fun xv s₁ h₁ => wpAny_mono h₁ (fun it s₂ h₂ => ?_) fun _ _ e => e) fun _ _ e => e)
  cases h₂ with
  | mk n P St fp J W hsz st0 hfp j0 jst turn done =>
  rename_i I
  refine wpAny_newObj_type (wpAny_newFunctionEnv hcell (by intro y hy; simp at hy) (fun h₁ hns₁ hsb₁ => ?_) hkind)
  dsimp only at hns₁ hsb₁ ⊢
  generalize hH2 : s₂.heap.push { cls := .type "list", dict := none, data := .seq ([] : List Value).toArray } = H2 at hns₁ hsb₁ ⊢
  have hC : H2.objs.size = s₂.heap.objs.size + 1 := by rw [← hH2, Heap.size_push]
  have hCle : s₂.heap.objs.size ≤ H2.objs.size := by rw [hC]; exact Nat.le_succ _
  have hDC : s₂.heap.objs.size ≠ H2.objs.size := by rw [hC]; exact Nat.ne_of_lt (Nat.lt_succ_self _)
  have below : ∀ b, b < s₂.heap.objs.size → b ≠ H2.objs.size ∧ b ≠ s₂.heap.objs.size := fun b hb => ⟨by rw [hC]; exact Nat.ne_of_lt (Nat.lt_succ_of_lt hb), Nat.ne_of_lt hb⟩
  have old : Kp s₂.heap h₁ := fun b o e => hsb₁.extBut b o (below b (Heap.lt_size e)).1 (Heap.get?_push_of_some _ (hH2 ▸ Heap.get?_push_of_some _ e))
  have hacc : h₁.get? s₂.heap.objs.size = some (lstK [] 0) := hsb₁.extBut _ _ hDC (Heap.get?_push_of_some _ (hH2 ▸ Heap.get?_push_size _ rfl))
  have hIf : I ∈ fp := W.sub I (List.mem_singleton.mpr rfl)
  have hIlt : I < s₂.heap.objs.size := hfp I hIf
  have hCI := (below I hIlt).1
  have hDI := (below I hIlt).2
  have fpC : ∀ b ∈ fp, b ≠ H2.objs.size := fun b hb => (below b (hfp b hb)).1
  have fpD : ∀ b ∈ fp, b ≠ s₂.heap.objs.size := fun b hb => (below b (hfp b hb)).2
  have st1 : St 0 h₁ := W.frame _ _ _ st0 fun b _ o e => old b o e
  generalize hDD : s₂.heap.objs.size = D at *
  generalize hCC : H2.objs.size = C at *
  have out : ∀ {b : Addr}, b ≠ I → b ∉ [I] := fun h hm => h (List.mem_singleton.mp hm)
  have loop : ∀ s₃ : Shared, s₃ = { s₂ with heap := h₁, toks := s₂.toks + ([] : List (Str × Value)).length } →
      codeAny (model prog w) A (.compLoop (.ListComp elt [⟨.Name x px, iter, ifs, 0⟩] scope pos) 0 (.ref I) (.ref D) (compEnvC scope cl C env))
        (compPost (model prog w) A E none Q (.ref D) C) s₃ := by
    rintro s₃ rfl
    refine codeAny_compLoop_tests
      (fun k s' => ∃ h' tk i ys m' kk, s' = { s₂ with heap := h', toks := tk } ∧ i ≤ n ∧ k = n + 1 - i ∧ ys.length ≤ i ∧ St i h' ∧ h'.Ns C m' ∧ h'.get? D = some (lstK ys kk) ∧ J C D i ys h') ?_ (n + 1)
      ⟨h₁, _, 0, [], _, 0, rfl, Nat.zero_le _, rfl, Nat.le_refl _, st1, hns₁, hacc, j0 C D h₁ hCle (Nat.le_refl _) old⟩
    rintro k s' ⟨h', tk, i, ys, m', kk, rfl, hi, rfl, hyl, hst', hn', hD', hJ'⟩
    by_cases hlt : i < n
    · refine W.item i _ _ _ hlt hst' fun v h₂ tk₂ hPv hst₂ hk₂ => ?_
      refine wpAny_assign_Name (wpAny_storeName_local (lookup_relabel_local hx) (hn'.at' fun o e => hk₂ _ o (out (Ne.symm hCI)) e) (fun h₃ hn₃ hs₃ => ?_) (by simp [compEnvC, relabel, hkind]))
      have hD₃ : h₃.get? D = some (lstK ys kk) := hs₃.extBut _ _ hDC (hk₂ _ _ (out (Ne.symm hDI)) hD')
      have hst₃ : St (i + 1) h₃ := W.frame _ _ _ hst₂ fun b hb o e => hs₃.extBut b o (fpC b hb) e
      have hJ₃ : J C D i ys h₃ := jst C D i ys h' h₃ hCle (Nat.le_refl _) hJ' fun b o n1 n2 _ e => hs₃.extBut b o n2 (hk₂ b o (out n1) e)
      refine wpAny_mono (turn C D i ys v h₃ _ _ hCle (Nat.le_refl _) (Ne.symm hDC) hlt hyl hPv hst₃ hn₃ (by simp) ⟨kk, hD₃⟩ hJ₃) (fun ok s₃ h₃' => ?_) (fun _ _ hF => hF.elim)
      cases ok with
      | true =>
        simp only [if_true] at h₃' ⊢
        refine wpAny_mono h₃' (fun y s₄ h₄ => ?_) (fun _ _ hF => hF.elim)
        obtain ⟨h₄, tk₄, rfl, kC, kD, kf, hJ₄⟩ := h₄
        refine append_at (hsz := by show ys.toArray.size ≤ sizeLine; rw [List.size_toArray, sizeLine_eq]; omega) (kD _ hD₃) fun h₅ hs₅ hD₅ => ?_
        refine ⟨n + 1 - (i + 1), by omega, h₅, tk₄, i + 1, ys ++ [y], _, _, rfl, hlt, rfl, by rw [List.length_append]; simp; omega, W.frame _ _ _ hst₃ fun b hb o e => hs₅.extBut b o (fpD b hb) (kf b hb o e),
          (hn₃.at' kC).sameBut hs₅ (Ne.symm hDC), by rw [hD₅, List.push_toArray], ?_⟩
        exact jst C D (i + 1) _ h₄ h₅ hCle (Nat.le_refl _) hJ₄ fun b o _ _ n3 e => hs₅.extBut b o n3 e
      | false =>
        simp only [Bool.false_eq_true, if_false] at h₃' ⊢
        obtain ⟨h₄, tk₄, rfl, kC, kD, kf, hJ₄⟩ := h₃'
        exact ⟨n + 1 - (i + 1), by omega, h₄, tk₄, i + 1, ys, _, _, rfl, hlt, rfl, by omega, W.frame _ _ _ hst₃ fun b hb o e => kf b hb o e, hn₃.at' kC, kD _ hD₃, hJ₄⟩
    · obtain rfl : i = n := Nat.le_antisymm hi (Nat.not_lt.mp hlt)
      refine W.done _ _ _ hst' fun h₂ tk₂ hk₂ => ?_
      refine ⟨m', hn'.at' fun o e => hk₂ _ o (out (Ne.symm hCI)) e, fun h'' hs'' => ?_⟩
      refine done C D ys h'' _ hCle (Nat.le_refl _) (Ne.symm hDC) hyl ?_ ⟨kk, hs''.extBut _ _ hDC (hk₂ _ _ (out (Ne.symm hDI)) hD')⟩
      exact jst C D i ys h' h'' hCle (Nat.le_refl _) hJ' fun b o n1 n2 _ e => hs''.extBut b o n2 (hk₂ b o (out n1) e)
  exact codeAny_compStart_list (loop _ rfl) (W.self 0 _ _ _ st1 (loop _ rfl))
end
end Mine
namespace Mine
open PySem.Challenge
set_option maxHeartbeats 0
set_option maxRecDepth 100000
section
variable {prog : Program} {w : World} {A : Around} {E : Value → Shared → Prop} {s : Shared} {env : Env} {R : Result → Shared → Prop}
abbrev flatE (x y : Str) (px py pe pi : Pos) (iter : Expr) (scope : Scope) (pos : Pos) : Expr :=
  .ListComp (.Name y pe) [⟨.Name x px, iter, [], 0⟩, ⟨.Name y py, .Name x pi, [], 0⟩] scope pos
theorem ct0 (x y : Str) (px py pe pi : Pos) (iter : Expr) (scope : Scope) (pos : Pos) (it acc : Value) (cenv : Env) :
    compTurn (flatE x y px py pe pi iter scope pos) 0 it acc cenv = (do
      standAt iter.pos
      match ← pyNext it with
      | none => pure (.done .next)
      | some v =>
        letOwnedTupleGo (.Name x px) it v
        assign (.Name x px) cenv v
        let xx ← eval (.Name x pi) cenv
        standAt pi
        let xx ← foldedSetIterable (.Name x pi) cenv xx
        let _ ← runOwn (.compStart (flatE x y px py pe pi iter scope pos) 1 (← holding [xx] (pyIter xx)) acc cenv) cenv
        again (.compLoop (flatE x y px py pe pi iter scope pos) 0 it acc cenv)) := by rfl
theorem ct1 (x y : Str) (px py pe pi : Pos) (iter : Expr) (scope : Scope) (pos : Pos) (it acc : Value) (cenv : Env) :
    compTurn (flatE x y px py pe pi iter scope pos) 1 it acc cenv = (do
      standAt pi
      match ← pyNext it with
      | none => pure (.done .next)
      | some v =>
        letOwnedTupleGo (.Name y py) it v
        assign (.Name y py) cenv v
        (do let _ ← call (.builtin "list.append") [acc, ← eval (.Name y pe) cenv])
        again (.compLoop (flatE x y px py pe pi iter scope pos) 1 it acc cenv)) := by rfl
theorem compStart_1 {x y : Str} {px py pe pi : Pos} {iter : Expr} {scope : Scope} {pos : Pos} {it acc : Value} {cenv : Env}
    (h0 : codeAny (model prog w) A (.compLoop (flatE x y px py pe pi iter scope pos) 1 it acc cenv) R s)
    (h : wpAny (model prog w) A (pyIter it) (fun it' s' => codeAny (model prog w) A (.compLoop (flatE x y px py pe pi iter scope pos) 1 it' acc cenv) R s') (fun _ _ => False) s) :
    codeAny (model prog w) A (.compStart (flatE x y px py pe pi iter scope pos) 1 it acc cenv) R s := by
  refine codeAny_of_tree ?_
  show wpAny _ _ ((compStart (flatE x y px py pe pi iter scope pos) 1 it acc cenv).onRaise (fun x => do noteFrame x cenv; standAt theWindowsPlace)) _ _ s
  refine wpAny_notedAt ?_
  unfold compStart
  show wpAny _ _ (ask >>= _) _ _ s
  refine wpAny_bind (wpAny_askSetting (wpAny_ite ?_))
  split
  · first
      | exact wpAny_bind (wpAny_pure (wpAny_pure (And.intro rfl h0)))
      | exact wpAny_pure (And.intro rfl h0)
  · first
      | exact wpAny_bind (wpAny_rule (wpAny_bind (wpAny_standAt (wpAny_bind (wpAny_mono h (fun it' s' h' => wpAny_pure (And.intro rfl h')) fun _ _ x => x.elim)))))
      | exact wpAny_bind (wpAny_rule (wpAny_bind (wpAny_mono h (fun it' s' h' => wpAny_pure (And.intro rfl h')) fun _ _ x => x.elim)))
theorem compStart_2 {x y : Str} {px py pe pi : Pos} {iter : Expr} {scope : Scope} {pos : Pos} {acc : Value} {cenv : Env} {I l : Addr} {j : Nat} (hit : s.heap.IsListIter I l j)
    (h : codeAny (model prog w) A (.compLoop (flatE x y px py pe pi iter scope pos) 1 (.ref I) acc cenv) R s) : codeAny (model prog w) A (.compStart (flatE x y px py pe pi iter scope pos) 1 (.ref I) acc cenv) R s :=
  compStart_1 h (wpAny_pyIter_listiter hit h)
theorem flat_len : ∀ {l : List (List Value)}, (∀ ws ∈ l, ws.length ≤ 10) → l.flatten.length ≤ 10 * l.length
  | [], _ => Nat.le_refl _
  | x :: r, h => by
    have ih := flat_len (l := r) fun ws hw => h ws (.tail _ hw)
    have := h x (.head _)
    rw [List.flatten_cons, List.length_append, List.length_cons]
    omega
theorem inner_loop {x y : Str} {px py pe pi : Pos} {iter : Expr} {scope : Scope} {pos : Pos} {C D I l : Addr} {cl : List (Str × Addr)} {ws pre : List Value} {s₀ : Shared} {h₀ : Heap} {tk₀ : Nat} {m₀ : Str → Option Value}
    (hh : A.handled = none) (hy : scope.names.lookup y = some .local) (hkind : scope.kind = .function) (hd : (y == ("__debug__" : Str)) = false)
    (hCI : C ≠ I) (hDI : D ≠ I) (hCD : C ≠ D) (hlI : l ≠ I) (hlC : l ≠ C) (hlD : l ≠ D) (hsz : pre.length + ws.length ≤ 1000)
    (hit : h₀.IsListIter I l 0) (hl : h₀.IsList l (List.toArray ws)) (hn : h₀.Ns C m₀) (hD : ∃ k, h₀.get? D = some (lstK pre k))
    (hR : ∀ h' tk m', (∀ b o, b ≠ I → b ≠ C → b ≠ D → h₀.get? b = some o → h'.get? b = some o) → h'.Ns C m' → (∃ k, h'.get? D = some (lstK (pre ++ ws) k)) → R (.ok .next) { s₀ with heap := h', toks := tk }) :
    codeAny (model prog w) A (.compLoop (flatE x y px py pe pi iter scope pos) 1 (.ref I) (.ref D) (compEnvC scope cl C env)) R { s₀ with heap := h₀, toks := tk₀ } := by
  obtain ⟨k₀, hD⟩ := hD
  refine codeAny_loop rfl (fun n s' => ∃ h' tk j m' k, s' = { s₀ with heap := h', toks := tk } ∧ j ≤ ws.length ∧ n = ws.length + 1 - j ∧ h'.IsListIter I l j ∧ (∀ b o, b ≠ I → b ≠ C → b ≠ D → h₀.get? b = some o → h'.get? b = some o) ∧ h'.Ns C m' ∧ h'.get? D = some (lstK (pre ++ ws.take j) k))
    (fun n s' hI => ?_) (ws.length + 1) ⟨h₀, tk₀, 0, m₀, k₀, rfl, Nat.zero_le _, rfl, hit, fun _ _ _ _ _ e => e, hn, by simpa using hD⟩
  obtain ⟨h', tk, j, m', k, rfl, hj, rfl, hit', hk', hn', hD'⟩ := hI
  show wpAny _ A ((compTurn (flatE x y px py pe pi iter scope pos) 1 (.ref I) (.ref D) (compEnvC scope cl C env)).onRaise (fun x => do noteFrame x (compEnvC scope cl C env); theTreesLotGoes x)) _ _ _
  refine wpAny_noted ?_
  rw [ct1]
  refine wpAny_mono (E := fun _ _ => False) ?_ (fun _ _ h => h) (fun _ _ h => h.elim)
  refine wpAny_bind (wpAny_standAt (wpAny_bind ?_))
  have hl' : h'.IsList l (List.toArray ws) := hl.at fun o e => hk' _ o hlI hlC hlD e
  cases hv : ws[j]? with
  | none =>
    have hjz : j = ws.length := Nat.le_antisymm hj (by simpa using hv)
    refine wpAny_pyNext_list_end hh hit' hl' (by simpa using hv) fun h₁ he₁ => ?_
    refine wpAny_pure ?_
    refine hR h₁ tk m' (fun b o n1 n2 n3 e => he₁ b o n1 (hk' b o n1 n2 n3 e)) (hn'.extBut he₁ hCI) ⟨k, ?_⟩
    rw [hjz, List.take_length] at hD'
    exact he₁ _ _ hDI hD'
  | some v =>
    have hlt : j < ws.length := (List.getElem?_eq_some_iff.mp hv).1
    refine wpAny_pyNext_list_item hit' hl' (by simpa using hv) fun h₁ hit₁ hs₁ => ?_
    dsimp only
    refine wpAny_bind (wpAny_of_eq (a := ()) rfl ?_)
    refine wpAny_bind (wpAny_assign_Name (wpAny_storeName_local (lookup_relabel_local hy) (hn'.sameBut hs₁ hCI) (fun h₂ hn₂ hs₂ => ?_) (by simp [compEnvC, relabel, hkind])))
    refine wpAny_bind (wpAny_bind (wpAny_Name (wpAny_loadName_local (by simp [compEnvC, relabel, hkind]) (lookup_relabel_local hy) hn₂ (if_pos rfl) ?_) hd))
    have hD₂ : h₂.get? D = some (lstK (pre ++ ws.take j) k) := hs₂.extBut _ _ (Ne.symm hCD) (hs₁.extBut _ _ hDI hD')
    refine wpAny_bind (append_at (hsz := by show (List.toArray _).size ≤ sizeLine; rw [List.size_toArray, List.length_append, List.length_take, sizeLine_eq]; omega) hD₂ fun h₃ hs₃ hD₃ => ?_)
    refine wpAny_pure (wpAny_pure ?_)
    refine ⟨rfl, ws.length + 1 - (j + 1), by omega, h₃, _, j + 1, _, k + 1, rfl, hlt, rfl, ?_, fun b o n1 n2 n3 e => hs₃.extBut b o n3 (hs₂.extBut b o n2 (hs₁.extBut b o n1 (hk' b o n1 n2 n3 e))), hn₂.sameBut hs₃ hCD, ?_⟩
    · exact (hit₁.extBut hs₂.extBut (Ne.symm hCI)).extBut hs₃.extBut (Ne.symm hDI)
    · rw [hD₃, List.push_toArray, List.append_assoc]
      have : ws.take (j + 1) = ws.take j ++ [v] := by rw [List.take_add_one, hv]; rfl
      rw [this]
/-- [y for x in rows for y in x] over a list of lists -/
theorem lcFlat {x y : Str} {px py pe pi : Pos} {iter : Expr} {scope : Scope} {cl : List (Str × Addr)} {pos : Pos} {Q : Value → Shared → Prop}
    (hclos : closureFor scope env = pure cl) (hcell : ∀ z ∈ scope.names, z.2 ≠ .cell) (hkind : scope.kind = .function)
    (hnames : ∀ z ∈ scope.names, z.2 = .local → scope.names.lookup z.1 = some .local) (hx : scope.names.lookup x = some .local) (hy : scope.names.lookup y = some .local)
    (hdx : (x == ("__debug__" : Str)) = false) (hdy : (y == ("__debug__" : Str)) = false) (hh : A.handled = none)
    (h : wpAny (model prog w) A (eval iter env) (fun xv s₁ => ∃ (l : Addr) (vs : List Value) (wss : List (List Value)), xv = .ref l ∧ s₁.heap.IsList l (List.toArray vs) ∧ vs.length = wss.length ∧ vs.length ≤ 50 ∧
      (∀ (i : Nat) ws, wss[i]? = some ws → ∃ r, vs[i]? = some (.ref r) ∧ s₁.heap.IsList r (List.toArray ws) ∧ ws.length ≤ 10) ∧
      ∀ D h' tk, Kp s₁.heap h' → s₁.heap.get? D = none → (∃ k, h'.get? D = some (lstK wss.flatten k)) → Q (.ref D) { s₁ with heap := h', toks := tk }) E s)
    (hs : ∀ x, foldedSetIterable iter env x = pure x := by intro _; rfl) :
    wpAny (model prog w) A (eval (flatE x y px py pe pi iter scope pos) env) Q E s := by
  rw [eval_ListComp]
  refine wpAny_comprehension_free (use := none) rfl hs hclos hkind hnames (wpAny_mono h (fun xv s₁ h₁ => ?_) fun _ _ e => e)
  obtain ⟨l, vs, wss, rfl, hl, hlen, hz, hrows, hQ⟩ := h₁
  have hlt : l < s₁.heap.objs.size := by obtain ⟨_, e, _⟩ := hl; exact Heap.lt_size e
  refine wpAny_pyIter_list hl ?_
  generalize hH1 : s₁.heap.push { cls := .type "list_iterator", data := .fields #[.ref l, .int 0 0] } = H1
  have k01 : Kp s₁.heap H1 := fun b o e => hH1 ▸ Heap.get?_push_of_some _ e
  have hI : H1.IsListIter s₁.heap.objs.size l 0 := ⟨_, hH1 ▸ Heap.get?_push_size _ rfl, rfl, rfl⟩
  have hH1s : H1.objs.size = s₁.heap.objs.size + 1 := by rw [← hH1, Heap.size_push]
  refine wpAny_newObj_type (wpAny_newFunctionEnv hcell (by intro y hy; simp at hy) (fun h₁ hns₁ hsb₁ => ?_) hkind)
  dsimp only at hns₁ hsb₁ ⊢
  generalize hH2 : H1.push { cls := .type "list", dict := none, data := .seq ([] : List Value).toArray } = H2 at hns₁ hsb₁ ⊢
  have hC : H2.objs.size = s₁.heap.objs.size + 2 := by rw [← hH2, Heap.size_push, hH1s]
  have hn : ∀ {b o}, s₁.heap.get? b = some o → b < s₁.heap.objs.size := fun e => Heap.lt_size e
  have kH1 : ∀ b o, H1.get? b = some o → b < s₁.heap.objs.size + 1 := fun b o e => hH1s ▸ Heap.lt_size e
  have old : Kp H1 h₁ := fun b o e => hsb₁.extBut b o (by rw [hC]; exact Nat.ne_of_lt (Nat.lt_succ_of_lt (kH1 b o e))) (Heap.get?_push_of_some _ (hH2 ▸ Heap.get?_push_of_some _ e))
  have hacc : h₁.get? (s₁.heap.objs.size + 1) = some (lstK [] 0) := hsb₁.extBut _ _ (by rw [hC]; exact Nat.ne_of_lt (Nat.lt_succ_self _)) (Heap.get?_push_of_some _ (hH2 ▸ hH1s ▸ Heap.get?_push_size _ rfl))
  have hI1 : h₁.IsListIter s₁.heap.objs.size l 0 := hI.at fun o e => old _ o e
  have k1 : Kp s₁.heap h₁ := Kp.trans k01 old
  rw [hH1s]
  rw [hC] at hns₁ ⊢
  generalize hN : s₁.heap.objs.size = N at *
  have nI : ∀ {b o}, s₁.heap.get? b = some o → b ≠ N := fun e => Nat.ne_of_lt (hn e)
  have nD : ∀ {b o}, s₁.heap.get? b = some o → b ≠ N + 1 := fun e => Nat.ne_of_lt (Nat.lt_succ_of_lt (hn e))
  have nC : ∀ {b o}, s₁.heap.get? b = some o → b ≠ N + 2 := fun e => Nat.ne_of_lt (Nat.lt_succ_of_lt (Nat.lt_succ_of_lt (hn e)))
  have loop : ∀ s₃ : Shared, s₃ = { s₁ with heap := h₁, toks := s₁.toks + ([] : List (Str × Value)).length } →
      codeAny (model prog w) A (.compLoop (flatE x y px py pe pi iter scope pos) 0 (.ref N) (.ref (N + 1)) (compEnvC scope cl (N + 2) env))
        (compPost (model prog w) A E none Q (.ref (N + 1)) (N + 2)) s₃ := by
    rintro s₃ rfl
    refine codeAny_loop rfl (fun n s' => ∃ h' tk j m' k, s' = { s₁ with heap := h', toks := tk } ∧ j ≤ vs.length ∧ n = vs.length + 1 - j ∧ h'.IsListIter N l j ∧ Kp s₁.heap h' ∧ h'.Ns (N + 2) m' ∧ h'.get? (N + 1) = some (lstK (wss.take j).flatten k))
      (fun n s' hI => ?_) (vs.length + 1) ⟨h₁, _, 0, _, 0, rfl, Nat.zero_le _, rfl, hI1, k1, hns₁, by simpa using hacc⟩
    obtain ⟨h', tk, j, m', k, rfl, hj, rfl, hit', hk', hn', hD'⟩ := hI
    show wpAny _ A ((compTurn (flatE x y px py pe pi iter scope pos) 0 (.ref N) (.ref (N + 1)) (compEnvC scope cl (N + 2) env)).onRaise (fun x => do noteFrame x (compEnvC scope cl (N + 2) env); theTreesLotGoes x)) _ _ _
    refine wpAny_noted ?_
    rw [ct0]
    refine wpAny_mono (E := fun _ _ => False) ?_ (fun _ _ h => h) (fun _ _ h => h.elim)
    refine wpAny_bind (wpAny_standAt (wpAny_bind ?_))
    have hl' : h'.IsList l (List.toArray vs) := hl.at fun o e => hk' _ o e
    cases hv : vs[j]? with
    | none =>
      have hjz : j = vs.length := Nat.le_antisymm hj (by simpa using hv)
      refine wpAny_pyNext_list_end hh hit' hl' (by simpa using hv) fun h₂ he₂ => ?_
      refine wpAny_pure ?_
      refine ⟨m', hn'.extBut he₂ (by show N + 2 ≠ N; omega), fun h₃ hs₃ => ?_⟩
      have e1 : (wss.take j).flatten = wss.flatten := by rw [hjz, hlen, List.take_length]
      rw [e1] at hD'
      refine hQ (N + 1) h₃ _ (fun b o e => hs₃.extBut b o (nC e) (he₂ b o (nI e) (hk' b o e))) (Heap.get?_none_of_le (by rw [hN]; exact Nat.le_succ _)) ⟨k, hs₃.extBut _ _ (by show N + 1 ≠ N + 2; omega) (he₂ _ _ (by show N + 1 ≠ N; omega) hD')⟩
    | some v =>
      have hlt' : j < vs.length := (List.getElem?_eq_some_iff.mp hv).1
      obtain ⟨ws, hws⟩ : ∃ ws, wss[j]? = some ws := ⟨_, List.getElem?_eq_getElem (by omega)⟩
      obtain ⟨r, hr1, hr2, hr3⟩ := hrows j ws hws
      rw [hv] at hr1; cases hr1
      have hrl : r < N := by obtain ⟨o, e, _⟩ := hr2; exact hn e
      refine wpAny_pyNext_list_item hit' hl' (by simpa using hv) fun h₂ hit₂ hs₂ => ?_
      dsimp only
      refine wpAny_bind (wpAny_of_eq (a := ()) rfl ?_)
      refine wpAny_bind (wpAny_assign_Name (wpAny_storeName_local (lookup_relabel_local hx) (hn'.sameBut hs₂ (by show N + 2 ≠ N; omega)) (fun h₃ hn₃ hs₃ => ?_) (by simp [compEnvC, relabel, hkind])))
      refine wpAny_bind (wpAny_Name (wpAny_loadName_local (by simp [compEnvC, relabel, hkind]) (lookup_relabel_local hx) hn₃ (if_pos rfl) ?_) hdx)
      refine wpAny_bind (wpAny_standAt (wpAny_bind (wpAny_of_eq (a := .ref r) rfl (wpAny_bind (wpAny_holding ?_)))))
      have k3 : Kp s₁.heap h₃ := fun b o e => hs₃.extBut b o (nC e) (hs₂.extBut b o (nI e) (hk' b o e))
      have hr3' : h₃.IsList r (List.toArray ws) := hr2.at fun o e => k3 _ o e
      have hit3 : h₃.IsListIter N l (j + 1) := hit₂.extBut hs₃.extBut (by show N ≠ N + 2; omega)
      have hD3 : h₃.get? (N + 1) = some (lstK (wss.take j).flatten k) := hs₃.extBut _ _ (by show N + 1 ≠ N + 2; omega) (hs₂.extBut _ _ (by show N + 1 ≠ N; omega) hD')
      refine wpAny_pyIter_list hr3' ?_
      have hb3 : N + 2 < h₃.objs.size := hn₃.lt
      generalize hH4 : h₃.push { cls := .type "list_iterator", data := .fields #[.ref r, .int 0 0] } = H4
      have k34 : Kp h₃ H4 := fun b o e => hH4 ▸ Heap.get?_push_of_some _ e
      have hI4 : H4.IsListIter h₃.objs.size r 0 := ⟨_, hH4 ▸ Heap.get?_push_size _ rfl, rfl, rfl⟩
      generalize h₃.objs.size = I2 at *
      have hfl : (wss.take j).flatten.length ≤ 10 * j := by
        have := flat_len (l := wss.take j) fun ws hw => by
          obtain ⟨i, hi, e⟩ := List.mem_iff_getElem.mp (List.mem_of_mem_take hw)
          obtain ⟨_, _, _, h3⟩ := hrows i ws (by rw [← e]; exact List.getElem?_eq_getElem hi)
          exact h3
        rw [List.length_take] at this
        omega
      refine wpAny_bind (wpAny_runOwn (compStart_2 hI4 ?_))
      refine inner_loop (ws := ws) (l := r) (pre := (wss.take j).flatten) hh hy hkind hdy (Nat.ne_of_lt hb3) (Nat.ne_of_lt (Nat.lt_trans (by omega) hb3)) (by show N + 2 ≠ N + 1; omega) (Nat.ne_of_lt (Nat.lt_trans (Nat.lt_trans hrl (by omega)) hb3)) (Nat.ne_of_lt (Nat.lt_succ_of_lt (Nat.lt_succ_of_lt hrl))) (Nat.ne_of_lt (Nat.lt_succ_of_lt hrl)) (by omega)
        hI4 (hr3'.at fun o e => k34 _ o e) (hn₃.keeps k34) ⟨k, k34 _ _ hD3⟩ ?_
      intro h₅ tk₅ m₅ k5 hn5 hD5
      obtain ⟨k', hD5⟩ := hD5
      refine wpAny_pure ⟨rfl, vs.length + 1 - (j + 1), by omega, h₅, tk₅, j + 1, m₅, k', rfl, hlt', rfl, ?_, ?_, hn5, ?_⟩
      · exact (hit3.at fun o e => k34 _ o e).at fun o e => k5 _ o (Nat.ne_of_lt (Nat.lt_trans (by omega) hb3)) (by show N ≠ N + 2; omega) (by show N ≠ N + 1; omega) e
      · exact fun b o e => k5 b o (Nat.ne_of_lt (Nat.lt_trans (Nat.lt_trans (hn e) (by omega)) hb3)) (nC e) (nD e) (k34 _ _ (k3 _ _ e))
      · rw [hD5]
        have : wss.take (j + 1) = wss.take j ++ [ws] := by rw [List.take_add_one, hws]; rfl
        rw [this, List.flatten_append]; simp
  exact codeAny_compStart_list (loop _ rfl) (wpAny_pyIter_listiter hI1 (loop _ rfl))
end
end Mine
namespace Mine
open PySem.Challenge
set_option maxHeartbeats 0
set_option maxRecDepth 100000
def noObj : Addr × Obj := (0, { cls := .none, data := .fields #[] })
theorem getD_some {l : List (Addr × Obj)} {i : Nat} (h : Nat.blt i l.length = true) : l[i]? = some (l.getD i noObj) := by
  have : i < l.length := Nat.le_of_ble_eq_true h
  rw [List.getD_eq_getElem?_getD, List.getElem?_eq_getElem this]; rfl
end Mine
namespace Mine
open PySem.Challenge
set_option maxHeartbeats 0
set_option maxRecDepth 100000
section
variable {α : Type} {prog : Program} {w : World} {A : Around} {Q : α → Shared → Prop} {E : Value → Shared → Prop} {s : Shared} {t : Sem α}
def callOf (g : Setting) (t : Sem α) : Option (Code × Option Value × Bool × List Value) := match skim g 400 t with
  | .call c hd gg l _ => some (c, hd, gg, l)
  | _ => none
def callK (g : Setting) (t : Sem α) (r : Result) : Sem α := match skim g 400 t with
  | .call _ _ _ _ k => k r
  | t => t
theorem at_call {c : Code} {hd : Option Value} {gg : Bool} {l : List Value} (e : callOf ⟨prog, w.params⟩ t = some (c, hd, gg, l))
    (h : wpAny (model prog w) A (Sem.call c hd gg l Sem.pure) (fun r s' => wpAny (model prog w) A (callK ⟨prog, w.params⟩ t r) Q E s') E s) : wpAny (model prog w) A t Q E s := by
  refine x_skim 400 ?_
  unfold callOf at e
  unfold callK at h
  cases q : skim ⟨prog, w.params⟩ 400 t with
  | call c' hd' gg' l' k =>
    rw [q] at e h
    simp only [Option.some.injEq, Prod.mk.injEq] at e
    obtain ⟨rfl, rfl, rfl, rfl⟩ := e
    exact wpAny_bind (m := Sem.call c' hd' gg' l' Sem.pure) (f := k) h
  | _ => rw [q] at e; cases e
def pureOf (g : Setting) (t : Sem α) : Option α := match skim g 400 t with
  | .pure a => some a
  | _ => none
theorem at_pure {v : α} (e : pureOf ⟨prog, w.params⟩ t = some v) (h : Q v s) : wpAny (model prog w) A t Q E s := by
  refine x_skim 400 ?_
  unfold pureOf at e
  cases q : skim ⟨prog, w.params⟩ 400 t with
  | pure a => rw [q] at e; cases e; exact wpAny_pure h
  | _ => rw [q] at e; cases e
def updOf (g : Setting) (t : Sem α) (o : Obj) : Option (Addr × Obj) := match skim g 400 t with
  | .update a _ f _ => some (a, f o)
  | _ => none
def updK (g : Setting) (t : Sem α) : Sem α := match skim g 400 t with
  | .update _ _ _ k => k ()
  | t => t
/-- enter a code -/
theorem at_code {c : Code} {hd : Option Value} {gg : Bool} {l : List Value} {Q' : Result → Shared → Prop} {E' : Value → Shared → Prop} (hnb : hd ≠ some byPass)
    (h : wpAny (model prog w) ((A.mark hd).under c) (denote table c) (fun fin s' => match fin with | .done f => Q' (.ok f) s' | .again c' => c'.quiet = true ∧ codeAny (model prog w) (A.mark hd) c' Q' s') (fun e s' => Q' (.error e) s') s) :
    wpAny (model prog w) A (Sem.call c hd gg l Sem.pure) Q' E' s :=
  x_call (x_code (by
    refine wpAny_mono h (fun fin s' hf => ?_) (fun e s' he => ?_)
    · cases fin with
      | done f => exact wpAny_pure hf
      | again c' => exact ⟨hf.1, codeAny_mono hf.2 (fun _ _ q => wpAny_pure q)⟩
    · exact wpAny_pure he)) hnb
def callC (g : Setting) (t : Sem α) : Code := match skim g 400 t with
  | .call c _ _ _ _ => c
  | _ => .builtin "" ⟨[], []⟩
def callHd (g : Setting) (t : Sem α) : Option (Option Value) := match skim g 400 t with
  | .call _ hd _ _ _ => some hd
  | _ => none
/-- how a code's tree ends -/
def Post (prog : Program) (w : World) (B : Around) (R : Result → Shared → Prop) : PySem.Fin → Shared → Prop := fun fin s' => match fin with
  | .done f => R (.ok f) s'
  | .again c' => c'.quiet = true ∧ codeAny (model prog w) B c' R s'
theorem at_callP (e : callHd ⟨prog, w.params⟩ t = some none)
    (h : wpAny (model prog w) ((A.mark none).under (callC ⟨prog, w.params⟩ t)) (denote table (callC ⟨prog, w.params⟩ t)) (Post prog w (A.mark none) (fun r s' => wpAny (model prog w) A (callK ⟨prog, w.params⟩ t r) Q E s')) (fun e s' => wpAny (model prog w) A (callK ⟨prog, w.params⟩ t (.error e)) Q E s') s) :
    wpAny (model prog w) A t Q E s := by
  unfold callHd at e
  cases q : skim ⟨prog, w.params⟩ 400 t with
  | call c' hd' gg' l' k =>
    rw [q] at e
    simp only [Option.some.injEq] at e
    subst e
    have ec : callC ⟨prog, w.params⟩ t = c' := by unfold callC; rw [q]
    rw [ec] at h
    refine at_call (c := c') (hd := none) (gg := gg') (l := l') (by unfold callOf; rw [q]) ?_
    exact at_code (by simp) (wpAny_mono h (fun fin s' hf => by cases fin <;> exact hf) (fun _ _ he => he))
  | _ => rw [q] at e; cases e
end
section
variable {prog : Program} {w : World} {A B : Around} {E : Value → Shared → Prop} {s : Shared} {t : Sem PySem.Fin} {R : Result → Shared → Prop}
def againC (g : Setting) (t : Sem PySem.Fin) : Code := match skim g 400 t with
  | .pure (.again c) => c
  | _ => .builtin "" ⟨[], []⟩
def isAgain (g : Setting) (t : Sem PySem.Fin) : Bool := match skim g 400 t with
  | .pure (.again c) => c.quiet
  | _ => false
theorem at_again (e : isAgain ⟨prog, w.params⟩ t = true)
    (h : wpAny (model prog w) (B.under (againC ⟨prog, w.params⟩ t)) (denote table (againC ⟨prog, w.params⟩ t)) (Post prog w B R) (fun e s' => R (.error e) s') s) : wpAny (model prog w) A t (Post prog w B R) E s := by
  unfold isAgain at e
  cases q : skim ⟨prog, w.params⟩ 400 t with
  | pure fin =>
    cases fin with
    | again c =>
      rw [q] at e
      have ec : againC ⟨prog, w.params⟩ t = c := by unfold againC; rw [q]
      rw [ec] at h
      refine at_pure (v := .again c) (by unfold pureOf; rw [q]) ⟨e, x_code (wpAny_mono h (fun fin s' hf => by cases fin <;> exact hf) (fun _ _ he => he))⟩
    | done f => rw [q] at e; cases e
  | _ => rw [q] at e; cases e
end
section
variable {α : Type} {prog : Program} {w : World} {A : Around} {Q : α → Shared → Prop} {E : Value → Shared → Prop} {s : Shared} {t : Sem α}
end
end Mine
namespace Mine
open PySem.Challenge
set_option maxHeartbeats 0
set_option maxRecDepth 100000
/-- an oracle's list of steps, calls nested -/
inductive Pg where
  | nil
  | nw (i : Nat) (r : Pg)
  | od (i : Nat) (r : Pg)
  | ch (i : Nat) (r : Pg)
  | al (r : Pg)
  | up (i : Nat) (r : Pg)
  | fr (r : Pg)
  | call (b r : Pg)
  | callR (b r : Pg)
  | again (r : Pg)
structure St where
  news : List (Addr × Obj)
  toks : Nat
  n : Nat
  la : List Addr
  lb : List Addr
  ok : Bool
def St.bad (x : St) : St := { x with ok := false }
def St.look (x : St) (b : Addr) (p : Addr × Obj) (ok : Bool) : St := { x with la := b :: x.la, lb := p.1 :: x.lb, ok := x.ok && ok }
def St.push (x : St) (a : Addr) (o : Obj) : St := { x with news := (a, o) :: x.news, n := x.n + 1, ok := x.ok && !o.isFreed }
def St.put (x : St) (i : Nat) (b : Addr) (p : Addr × Obj) (o : Obj) : St := { x with news := x.news.set i (p.1, o), la := b :: x.la, lb := p.1 :: x.lb, ok := x.ok && (Nat.blt i x.news.length && !o.isFreed) }
noncomputable def dq (c : Code) : Sem PySem.Fin := PySem.W.XFast.xw11892475500146522536 PySem.W.XFast.tableX c
theorem dq_eq (c : Code) : denote table c = dq c := by
  unfold dq
  rw [PySem.W.XFast.tableX_eq, PySem.W.XFast.xe11892475500146522536]
noncomputable def agF : PySem.Fin → Option (Sem PySem.Fin)
  | .again c => if c.quiet = true then some (dq c) else none
  | .done _ => none
def agR : PySem.Fin → Option (Sem PySem.Fin)
  | .again c => if c.quiet = true then some (denote table c) else none
  | .done _ => none
def agN {α : Type} : α → Option (Sem α) := fun _ => none
noncomputable def Pg.run (g : Setting) (olds chg : List (Addr × Obj)) (n0 : Nat) : Pg → {α : Type} → (α → Option (Sem α)) → Sem α → St → Sem α × St
  | .nil, _, _, t, x => (t, x)
  | .nw i r, _, ag, t, x => match skim g 400 t with
    | .load b _ k => Pg.run g olds chg n0 r ag (k (x.news.getD i noObj).2) (x.look b (x.news.getD i noObj) (Nat.blt i x.news.length))
    | _ => (t, x.bad)
  | .od i r, _, ag, t, x => match skim g 400 t with
    | .load b _ k => Pg.run g olds chg n0 r ag (k (olds.getD i noObj).2) (x.look b (olds.getD i noObj) (Nat.blt i olds.length))
    | _ => (t, x.bad)
  | .ch i r, _, ag, t, x => match skim g 400 t with
    | .load b _ k => Pg.run g olds chg n0 r ag (k (chg.getD i noObj).2) (x.look b (chg.getD i noObj) (Nat.blt i chg.length))
    | _ => (t, x.bad)
  | .al r, _, ag, t, x => match skim g 400 t with
    | .alloc o k => Pg.run g olds chg n0 r ag (k (n0 + x.n + 69)) (x.push (n0 + x.n + 69) o)
    | _ => (t, x.bad)
  | .up i r, _, ag, t, x => match skim g 400 t with
    | .update b _ f k => Pg.run g olds chg n0 r ag (k ()) (x.put i b (x.news.getD i noObj) (f (x.news.getD i noObj).2))
    | _ => (t, x.bad)
  | .fr r, _, ag, t, x => match skim g 400 t with
    | .fresh k => Pg.run g olds chg n0 r ag (k x.toks) { x with toks := x.toks + 1 }
    | _ => (t, x.bad)
  | .call b r, _, ag, t, x => match skim g 400 t with
    | .call c none _ _ k => match Pg.run g olds chg n0 b agF (dq c) x with
      | (t1, x1) => match skim g 400 t1 with
        | .pure (.done f) => Pg.run g olds chg n0 r ag (k (.ok f)) x1
        | _ => (t, x1.bad)
    | _ => (t, x.bad)
  | .callR b r, _, ag, t, x => match skim g 400 t with
    | .call c none _ _ k => match Pg.run g olds chg n0 b agR (denote table c) x with
      | (t1, x1) => match skim g 400 t1 with
        | .pure (.done f) => Pg.run g olds chg n0 r ag (k (.ok f)) x1
        | _ => (t, x1.bad)
    | _ => (t, x.bad)
  | .again r, _, ag, t, x => match skim g 400 t with
    | .pure a => match ag a with
      | some t' => Pg.run g olds chg n0 r ag t' x
      | none => (t, x.bad)
    | _ => (t, x.bad)
/-- what a later state says of an earlier one -/
def Aft (x y : St) : Prop := (y.ok = true → x.ok = true) ∧ ∃ l m, l.length = m.length ∧ y.la = l ++ x.la ∧ y.lb = m ++ x.lb
theorem Aft.refl (x : St) : Aft x x := ⟨id, [], [], rfl, rfl, rfl⟩
theorem Aft.bad {x y : St} (h : Aft x y) : Aft x y.bad := And.intro (fun q => Bool.noConfusion q) h.2
theorem Aft.trans {x y z : St} (h : Aft x y) (k : Aft y z) : Aft x z := by
  obtain ⟨h1, l, m, e, a, b⟩ := h
  obtain ⟨k1, l', m', e', a', b'⟩ := k
  exact ⟨fun q => h1 (k1 q), l' ++ l, m' ++ m, by simp [e, e'], by rw [a', a, List.append_assoc], by rw [b', b, List.append_assoc]⟩
theorem Aft.eq {x y : St} (h : Aft x y) (e : y.la = y.lb) : x.la = x.lb := by
  obtain ⟨_, l, m, q, a, b⟩ := h
  rw [a, b] at e
  exact (List.append_inj e q).2
theorem Aft.look (x : St) (b : Addr) (p : Addr × Obj) (ok : Bool) : Aft x (x.look b p ok) :=
  ⟨fun q => (Bool.and_eq_true_iff.mp q).1, [b], [p.1], rfl, rfl, rfl⟩
theorem Aft.push (x : St) (a : Addr) (o : Obj) : Aft x (x.push a o) := ⟨fun q => (Bool.and_eq_true_iff.mp q).1, [], [], rfl, rfl, rfl⟩
theorem Aft.put (x : St) (i : Nat) (b : Addr) (p : Addr × Obj) (o : Obj) : Aft x (x.put i b p o) := ⟨fun q => (Bool.and_eq_true_iff.mp q).1, [b], [p.1], rfl, rfl, rfl⟩
theorem Pg.aft (g : Setting) (olds chg : List (Addr × Obj)) (n0 : Nat) : ∀ (r : Pg) {α : Type} (ag : α → Option (Sem α)) (t : Sem α) (x : St), Aft x (Pg.run g olds chg n0 r ag t x).2 := by
  intro r
  induction r with
  | nil => intro α ag t x; exact Aft.refl x
  | nw i r ih | od i r ih | ch i r ih =>
    intro α ag t x
    unfold Pg.run
    split
    · exact (Aft.look ..).trans (ih ..)
    · exact (Aft.refl x).bad
  | al r ih =>
    intro α ag t x
    unfold Pg.run
    split
    · exact (Aft.push ..).trans (ih ..)
    · exact (Aft.refl x).bad
  | up i r ih =>
    intro α ag t x
    unfold Pg.run
    split
    · exact (Aft.put ..).trans (ih ..)
    · exact (Aft.refl x).bad
  | fr r ih =>
    intro α ag t x
    unfold Pg.run
    split
    · exact Aft.trans ⟨id, [], [], rfl, rfl, rfl⟩ (ih ..)
    · exact (Aft.refl x).bad
  | call b r ihb ih =>
    intro α ag t x
    unfold Pg.run
    split
    · rename_i c gg l k _
      have hb := ihb agF (dq c) x
      split
      rename_i t1 x1 e
      rw [e] at hb
      split
      · exact hb.trans (ih ..)
      · exact hb.bad
    · exact (Aft.refl x).bad
  | callR b r ihb ih =>
    intro α ag t x
    unfold Pg.run
    split
    · rename_i c gg l k _
      have hb := ihb agR (denote table c) x
      split
      rename_i t1 x1 e
      rw [e] at hb
      split
      · exact hb.trans (ih ..)
      · exact hb.bad
    · exact (Aft.refl x).bad
  | again r ih =>
    intro α ag t x
    unfold Pg.run
    split
    · split
      · exact ih ..
      · exact (Aft.refl x).bad
    · exact (Aft.refl x).bad
theorem run_sound {prog : Program} {w : World} {s : Shared} {h₀ : Heap} {olds chg : List (Addr × Obj)} (O : ∀ p ∈ olds, h₀.get? p.1 = some p.2 ∧ (hasCls p.2 || away chg p.1) = true) (n0 : Nat) :
    ∀ (r : Pg) {α : Type} (ag : α → Option (Sem α)) (t : Sem α) (x : St) (G : Around → Prop) (Q : α → Shared → Prop) (E : Value → Shared → Prop)
      (hag : ∀ a t' s, ag a = some t' → (∀ A, G A → wpAny (model prog w) A t' Q E s) → Q a s) {h : Heap}, h.objs.size = n0 + x.n + 69 → Mem h₀ h chg x.news →
      (Pg.run ⟨prog, w.params⟩ olds chg n0 r ag t x).2.la = (Pg.run ⟨prog, w.params⟩ olds chg n0 r ag t x).2.lb → (Pg.run ⟨prog, w.params⟩ olds chg n0 r ag t x).2.ok = true →
      (∀ h', h'.objs.size = n0 + (Pg.run ⟨prog, w.params⟩ olds chg n0 r ag t x).2.n + 69 → Mem h₀ h' chg (Pg.run ⟨prog, w.params⟩ olds chg n0 r ag t x).2.news →
        ∀ A, G A → wpAny (model prog w) A (Pg.run ⟨prog, w.params⟩ olds chg n0 r ag t x).1 Q E { s with heap := h', toks := (Pg.run ⟨prog, w.params⟩ olds chg n0 r ag t x).2.toks }) →
      ∀ A, G A → wpAny (model prog w) A t Q E { s with heap := h, toks := x.toks } := by
  intro r
  induction r with
  | nil => intro α ag t x G Q E hag h hs D _ _ H A hA; exact H h hs D A hA
  | nw i r ih | od i r ih | ch i r ih =>
    intro α ag t x G Q E hag h hs D el eo H A hA
    refine x_skim 400 ?_
    unfold Pg.run at el eo H
    split at el
    · rename_i b q k e
      rw [e] at eo H ⊢
      dsimp only at el eo H
      have e1 := Aft.eq (Pg.aft _ _ _ _ _ _ _ _) el
      have e2 := And.left (Pg.aft _ _ _ _ _ _ _ _) eo
      simp only [St.look, List.cons.injEq, Bool.and_eq_true] at e1 e2
      have hi := getD_some e2.2
      first
        | (refine wpAny_bind (m := loadPart b q) (f := k) (wpAny_loadPart (e1.1 ▸ D.at i _ _ hi) ?_)
           exact ih ag _ (x.look b _ _) G Q E hag hs D el eo H A hA)
        | (have ho := O _ (List.mem_of_getElem? hi)
           refine wpAny_bind (m := loadPart b q) (f := k) (wpAny_loadPart (e1.1 ▸ D.old _ _ ho.1 ho.2) ?_)
           exact ih ag _ (x.look b _ _) G Q E hag hs D el eo H A hA)
        | (refine wpAny_bind (m := loadPart b q) (f := k) (wpAny_loadPart (e1.1 ▸ D.atC i _ _ hi) ?_)
           exact ih ag _ (x.look b _ _) G Q E hag hs D el eo H A hA)
    · rename_i hn
      exfalso
      split at eo
      · rename_i e; exact hn _ _ _ e
      · cases eo
  | al r ih =>
    intro α ag t x G Q E hag h hs D el eo H A hA
    refine x_skim 400 ?_
    unfold Pg.run at el eo H
    split at el
    · rename_i o k e
      rw [e] at eo H ⊢
      dsimp only at el eo H
      have e2 := And.left (Pg.aft _ _ _ _ _ _ _ _) eo
      simp only [St.push, Bool.and_eq_true, Bool.not_eq_true'] at e2
      refine wpAny_bind (m := alloc o) (f := k) (wpAny_alloc ?_)
      have hz : (h.push o).objs.size = n0 + (x.n + 1) + 69 := by rw [Heap.size_push, hs]; omega
      have hd := D.alloc e2.2
      rw [hs] at hd ⊢
      exact ih ag _ (x.push _ o) G Q E hag hz hd el eo H A hA
    · rename_i hn
      exfalso
      split at eo
      · rename_i e; exact hn _ _ e
      · cases eo
  | up i r ih =>
    intro α ag t x G Q E hag h hs D el eo H A hA
    refine x_skim 400 ?_
    unfold Pg.run at el eo H
    split at el
    · rename_i b q f k e
      rw [e] at eo H ⊢
      dsimp only at el eo H
      have e1 := Aft.eq (Pg.aft _ _ _ _ _ _ _ _) el
      have e2 := And.left (Pg.aft _ _ _ _ _ _ _ _) eo
      simp only [St.put, List.cons.injEq, Bool.and_eq_true, Bool.not_eq_true'] at e1 e2
      have hi := getD_some e2.2.1
      have hb : b = (x.news.getD i noObj).1 := e1.1
      refine wpAny_bind (m := updatePart b q f) (f := k) (wpAny_updatePart (hb ▸ D.at i _ _ hi) ?_)
      have hd : Mem h₀ (h.update b f) chg (x.news.set i ((x.news.getD i noObj).1, f (x.news.getD i noObj).2)) := by
        have := D.update hi e2.2.2
        rw [hb]
        exact this
      exact ih ag _ (x.put i b (x.news.getD i noObj) (f (x.news.getD i noObj).2)) G Q E hag (h := h.update b f) (by rw [Heap.size_update]; exact hs) hd el eo H A hA
    · rename_i hn
      exfalso
      split at eo
      · rename_i e; exact hn _ _ _ _ e
      · cases eo
  | fr r ih =>
    intro α ag t x G Q E hag h hs D el eo H A hA
    refine x_skim 400 ?_
    unfold Pg.run at el eo H
    split at el
    · rename_i k e
      rw [e] at eo H ⊢
      refine x_fresh ?_
      exact ih ag _ { x with toks := x.toks + 1 } G Q E hag hs D el eo H A hA
    · rename_i hn
      exfalso
      split at eo
      · rename_i e; exact hn _ e
      · cases eo
  | again r ih =>
    intro α ag t x G Q E hag h hs D el eo H A hA
    refine x_skim 400 ?_
    unfold Pg.run at el eo H
    split at el
    · rename_i a e
      rw [e] at eo H ⊢
      dsimp only at el eo H
      split at el
      · rename_i t' e'
        rw [e'] at eo H
        refine wpAny_pure (hag a t' _ e' ?_)
        exact fun A hA => ih ag t' x G Q E hag hs D el eo H A hA
      · rename_i e'
        rw [e'] at eo
        cases eo
    · rename_i hn
      exfalso
      split at eo
      · rename_i e; exact hn _ e
      · cases eo
  | call b r ihb ih =>
    intro α ag t x G Q E hag h hs D el eo H A hA
    unfold Pg.run at el eo H
    split at el
    · rename_i c gg l k e
      rw [e] at eo H
      dsimp only at el eo H
      have hb := ihb agF (dq c) x (fun _ => True)
      have ha := Pg.aft ⟨prog, w.params⟩ olds chg n0 b agF (dq c) x
      generalize hy : Pg.run ⟨prog, w.params⟩ olds chg n0 b agF (dq c) x = y at el eo H hb ha
      obtain ⟨t1, x1⟩ := y
      dsimp only at el eo H hb ha
      have ec : callC ⟨prog, w.params⟩ t = c := by unfold callC; rw [e]
      refine at_callP (by unfold callHd; rw [e]) ?_
      rw [ec, dq_eq]
      have ek : ∀ q, callK ⟨prog, w.params⟩ t q = k q := fun q => by unfold callK; rw [e]
      simp only [ek]
      split at el
      · rename_i f e'
        rw [e'] at eo H
        dsimp only at eo H
        have a := Pg.aft ⟨prog, w.params⟩ olds chg n0 r ag (k (.ok f)) x1
        refine hb _ _ ?_ hs D (a.eq el) (a.1 eo) ?_ _ trivial
        · intro a' t' s' hq hw'
          cases a' with
          | done _ => cases hq
          | again c' =>
            by_cases hqt : c'.quiet = true
            · simp only [agF, if_pos hqt, Option.some.injEq] at hq
              subst hq
              exact ⟨hqt, x_code (dq_eq c' ▸ wpAny_mono (hw' _ trivial) (fun fin s' hf => by cases fin <;> exact hf) (fun _ _ he => he))⟩
            · simp only [agF, if_neg hqt] at hq
              cases hq
        · intro h' hs' D' A' _
          refine x_skim 400 ?_
          rw [e']
          refine wpAny_pure ?_
          show wpAny _ A (k (.ok f)) Q E _
          exact ih ag (k (.ok f)) x1 G Q E hag hs' D' el eo H A hA
      · rename_i hn
        exfalso
        split at eo
        · rename_i e; exact hn _ e
        · cases eo
    · rename_i hn
      exfalso
      split at eo
      · rename_i e; exact hn _ _ _ _ e
      · cases eo
  | callR b r ihb ih =>
    intro α ag t x G Q E hag h hs D el eo H A hA
    unfold Pg.run at el eo H
    split at el
    · rename_i c gg l k e
      rw [e] at eo H
      dsimp only at el eo H
      have hb := ihb agR (denote table c) x (fun _ => True)
      have ha := Pg.aft ⟨prog, w.params⟩ olds chg n0 b agR (denote table c) x
      generalize hy : Pg.run ⟨prog, w.params⟩ olds chg n0 b agR (denote table c) x = y at el eo H hb ha
      obtain ⟨t1, x1⟩ := y
      dsimp only at el eo H hb ha
      have ec : callC ⟨prog, w.params⟩ t = c := by unfold callC; rw [e]
      refine at_callP (by unfold callHd; rw [e]) ?_
      rw [ec]
      have ek : ∀ q, callK ⟨prog, w.params⟩ t q = k q := fun q => by unfold callK; rw [e]
      simp only [ek]
      split at el
      · rename_i f e'
        rw [e'] at eo H
        dsimp only at eo H
        have a := Pg.aft ⟨prog, w.params⟩ olds chg n0 r ag (k (.ok f)) x1
        refine hb _ _ ?_ hs D (a.eq el) (a.1 eo) ?_ _ trivial
        · intro a' t' s' hq hw'
          cases a' with
          | done _ => cases hq
          | again c' =>
            by_cases hqt : c'.quiet = true
            · simp only [agR, if_pos hqt, Option.some.injEq] at hq
              subst hq
              exact ⟨hqt, x_code (wpAny_mono (hw' _ trivial) (fun fin s' hf => by cases fin <;> exact hf) (fun _ _ he => he))⟩
            · simp only [agR, if_neg hqt] at hq
              cases hq
        · intro h' hs' D' A' _
          refine x_skim 400 ?_
          rw [e']
          refine wpAny_pure ?_
          show wpAny _ A (k (.ok f)) Q E _
          exact ih ag (k (.ok f)) x1 G Q E hag hs' D' el eo H A hA
      · rename_i hn
        exfalso
        split at eo
        · rename_i e; exact hn _ e
        · cases eo
    · rename_i hn
      exfalso
      split at eo
      · rename_i e; exact hn _ _ _ _ e
      · cases eo
end Mine
namespace Mine
open PySem.Challenge
set_option maxHeartbeats 0
set_option maxRecDepth 100000
noncomputable def ko (P : Params) (a : Addr) : Obj := ((hd.heap_39 P).lookup a).getD (tableObj #[])
end Mine
namespace Mine
open PySem.Challenge
set_option maxHeartbeats 0
set_option maxRecDepth 100000
/-- a heap as the simulator knows it -/
structure Rn (olds chg : List (Addr × Obj)) (n0 : Nat) (h₀ h : Heap) (x : St) : Prop where
  O : ∀ p ∈ olds, h₀.get? p.1 = some p.2 ∧ (hasCls p.2 || away chg p.1) = true
  size : h.objs.size = n0 + x.n + 69
  D : Mem h₀ h chg x.news
section
variable {α : Type} {prog : Program} {w : World} {A : Around} {Q : α → Shared → Prop} {E : Value → Shared → Prop} {s : Shared} {t : Sem α} {olds chg : List (Addr × Obj)} {n0 : Nat} {h₀ h : Heap} {x : St}
/-- a piece of code run to its end by the kernel -/
theorem lf (R : Rn olds chg n0 h₀ h x) (r : Pg) (v : α) (e : pureOf ⟨prog, w.params⟩ (Pg.run ⟨prog, w.params⟩ olds chg n0 r agN t x).1 = some v)
    (e2 : (Pg.run ⟨prog, w.params⟩ olds chg n0 r agN t x).2.la = (Pg.run ⟨prog, w.params⟩ olds chg n0 r agN t x).2.lb) (e3 : (Pg.run ⟨prog, w.params⟩ olds chg n0 r agN t x).2.ok = true)
    (k : ∀ h', Rn olds chg n0 h₀ h' (Pg.run ⟨prog, w.params⟩ olds chg n0 r agN t x).2 → Q v { s with heap := h', toks := (Pg.run ⟨prog, w.params⟩ olds chg n0 r agN t x).2.toks }) :
    wpAny (model prog w) A t Q E { s with heap := h, toks := x.toks } :=
  run_sound R.O n0 r agN t x (fun _ => True) Q E (fun _ _ _ h _ => by cases h) R.size R.D e2 e3 (fun h' hs D' A' _ => at_pure e (k h' ⟨R.O, hs, D'⟩)) A trivial
/-- the same, the state behind it written out -/
theorem lx (R : Rn olds chg n0 h₀ h x) (r : Pg) (v : α) (news : List (Addr × Obj)) (n tk : Nat)
    (e : (let z := Pg.run ⟨prog, w.params⟩ olds chg n0 r agN t x; (pureOf ⟨prog, w.params⟩ z.1, z.2.ok, z.2.la, z.2.news, z.2.n, z.2.toks)) = (let z := Pg.run ⟨prog, w.params⟩ olds chg n0 r agN t x; (some v, true, z.2.lb, news, n, tk)))
    (k : ∀ h', Rn olds chg n0 h₀ h' ⟨news, tk, n, [], [], true⟩ → Q v { s with heap := h', toks := tk }) :
    wpAny (model prog w) A t Q E { s with heap := h, toks := x.toks } := by
  dsimp only at e
  simp only [Prod.mk.injEq] at e
  obtain ⟨e1, e2, e3, rfl, rfl, rfl⟩ := e
  exact lf R r v e1 e3 e2 fun h' R' => k h' ⟨R'.O, R'.size, R'.D⟩
/-- a piece of code run up to some step -/
theorem lg (R : Rn olds chg n0 h₀ h x) (r : Pg) 
    (e2 : (Pg.run ⟨prog, w.params⟩ olds chg n0 r agN t x).2.la = (Pg.run ⟨prog, w.params⟩ olds chg n0 r agN t x).2.lb) (e3 : (Pg.run ⟨prog, w.params⟩ olds chg n0 r agN t x).2.ok = true)
    (k : ∀ h', Rn olds chg n0 h₀ h' (Pg.run ⟨prog, w.params⟩ olds chg n0 r agN t x).2 → wpAny (model prog w) A (Pg.run ⟨prog, w.params⟩ olds chg n0 r agN t x).1 Q E { s with heap := h', toks := (Pg.run ⟨prog, w.params⟩ olds chg n0 r agN t x).2.toks }) :
    wpAny (model prog w) A t Q E { s with heap := h, toks := x.toks } :=
  run_sound R.O n0 r agN t x (fun B => B = A) Q E (fun _ _ _ h _ => by cases h) R.size R.D e2 e3 (fun h' hs D' A' hA => hA ▸ k h' ⟨R.O, hs, D'⟩) A rfl
end
section
variable {α : Type} {prog : Program} {w : World} {A : Around} {Q : α → Shared → Prop} {E : Value → Shared → Prop} {s : Shared} {t : Sem α} {olds chg : List (Addr × Obj)} {n0 : Nat} {h₀ h : Heap} {x : St}
theorem lgx (R : Rn olds chg n0 h₀ h x) (r : Pg) (news : List (Addr × Obj)) (n tk : Nat)
    (e : (let z := Pg.run ⟨prog, w.params⟩ olds chg n0 r agN t x; (z.2.ok, z.2.la, z.2.news, z.2.n, z.2.toks)) = (let z := Pg.run ⟨prog, w.params⟩ olds chg n0 r agN t x; (true, z.2.lb, news, n, tk)))
    (k : ∀ h', Rn olds chg n0 h₀ h' ⟨news, tk, n, [], [], true⟩ → wpAny (model prog w) A (Pg.run ⟨prog, w.params⟩ olds chg n0 r agN t x).1 Q E { s with heap := h', toks := tk }) :
    wpAny (model prog w) A t Q E { s with heap := h, toks := x.toks } := by
  dsimp only at e
  simp only [Prod.mk.injEq] at e
  obtain ⟨e2, e3, rfl, rfl, rfl⟩ := e
  exact lg R r e3 e2 fun h' R' => k h' ⟨R'.O, R'.size, R'.D⟩
end
section
variable {α : Type} {prog : Program} {w : World} {A : Around} {Q : α → Shared → Prop} {E : Value → Shared → Prop} {s : Shared} {t : Sem α}
theorem at_callC {c : Code} (e : callHd ⟨prog, w.params⟩ t = some none) (e2 : callC ⟨prog, w.params⟩ t = c)
    (h : ∀ gg l, wpAny (model prog w) A (Sem.call c none gg l Sem.pure) (fun r s' => wpAny (model prog w) A (callK ⟨prog, w.params⟩ t r) Q E s') E s) : wpAny (model prog w) A t Q E s := by
  unfold callHd at e
  cases q : skim ⟨prog, w.params⟩ 400 t with
  | call c' hd' gg' l' k =>
    rw [q] at e
    simp only [Option.some.injEq] at e
    subst e
    have ec : callC ⟨prog, w.params⟩ t = c' := by unfold callC; rw [q]
    rw [ec] at e2
    subst e2
    exact at_call (hd := none) (gg := gg') (l := l') (by unfold callOf; rw [q]) (h gg' l')
  | _ => rw [q] at e; cases e
end
theorem Rn.restart {olds : List (Addr × Obj)} {h : Heap} (O : ∀ p ∈ olds, h.get? p.1 = some p.2) (hs : 69 ≤ h.objs.size) (tk : Nat) : ∃ n1, Rn olds [] n1 h h ⟨[], tk, 0, [], [], true⟩ :=
  ⟨h.objs.size - 69, fun p hp => ⟨O p hp, by rw [show away [] p.1 = true from rfl, Bool.or_true]⟩, by show _ = h.objs.size - 69 + 0 + 69; omega, Mem.start _⟩
section
variable {α : Type} {prog : Program} {w : World} {A : Around} {Q : α → Shared → Prop} {E : Value → Shared → Prop} {s : Shared} {t : Sem α} {olds chg : List (Addr × Obj)} {n0 : Nat} {h₀ h : Heap} {x : St}
theorem lgz (R : Rn olds chg n0 h₀ h x) (r : Pg)
    (e2 : (Pg.run ⟨prog, w.params⟩ olds chg n0 r agN t x).2.la = (Pg.run ⟨prog, w.params⟩ olds chg n0 r agN t x).2.lb) (e3 : (Pg.run ⟨prog, w.params⟩ olds chg n0 r agN t x).2.ok = true)
    (k : ∀ h' y T, y = (Pg.run ⟨prog, w.params⟩ olds chg n0 r agN t x).2 → T = (Pg.run ⟨prog, w.params⟩ olds chg n0 r agN t x).1 → Rn olds chg n0 h₀ h' y → wpAny (model prog w) A T Q E { s with heap := h', toks := y.toks }) :
    wpAny (model prog w) A t Q E { s with heap := h, toks := x.toks } := lg R r e2 e3 fun h' R' => k h' _ _ rfl rfl R'
end
section
variable {prog : Program} {w : World} {A B : Around} {R : Result → Shared → Prop} {E : Value → Shared → Prop} {s : Shared} {t : Sem PySem.Fin} {olds chg : List (Addr × Obj)} {n0 : Nat} {h₀ h : Heap} {x : St}
end
theorem gr {α : Type} {prog : Program} {w : World} {A : Around} {Q : α → Shared → Prop} {E : Value → Shared → Prop} {s : Shared} {t : Sem α} {olds olds' chg : List (Addr × Obj)} {n0 : Nat} {h₀ h : Heap} {x : St} {a c₀ : Addr} {ps more : Array Value} {tk : Nat}
    (R : Rn olds chg n0 h₀ h x) (ht : h₀.TableAt c₀ a ps) (hw : away chg a = true) (e : updOf ⟨prog, w.params⟩ t (tableObj ps) = some (a, tableObj (ps ++ more)))
    (O' : ∀ p ∈ olds', h₀.get? p.1 = some p.2 ∧ (hasCls p.2 || away ((a, tableObj (ps ++ more)) :: chg) p.1) = true)
    (k : ∀ h', Rn olds' ((a, tableObj (ps ++ more)) :: chg) n0 h₀ h' x → wpAny (model prog w) A (updK ⟨prog, w.params⟩ t) Q E { s with heap := h', toks := tk }) :
    wpAny (model prog w) A t Q E { s with heap := h, toks := tk } := by
  refine x_skim 400 ?_
  unfold updOf at e
  unfold updK at k
  cases q : skim ⟨prog, w.params⟩ 400 t with
  | update b qq f kk =>
    rw [q] at e k
    simp only [Option.some.injEq, Prod.mk.injEq] at e
    obtain ⟨rfl, e⟩ := e
    refine wpAny_bind (m := updatePart b qq f) (f := kk) (wpAny_updatePart (R.D.keep b _ ht.2 (by rw [hw, Bool.or_true])) ?_)
    exact k _ ⟨O', by rw [Heap.size_update]; exact R.size, R.D.grow ht hw e⟩
  | _ => rw [q] at e; cases e
end Mine
namespace Mine
open PySem.Challenge
set_option maxHeartbeats 0
set_option maxRecDepth 100000

def tupO : Obj := { cls := .type "tuple", data := .seq #[.type "object"] }
def nsE (P : Params) (n0 tk : Nat) : Array DictEntry := #[⟨PyData.keyHash P (Str.ofString "__module__"), .str (Str.ofString "__module__") (tk + 8), .str (Str.ofString "cpy313.functools") (tk + 13)⟩, ⟨PyData.keyHash P (Str.ofString "__qualname__"), .str (Str.ofString "__qualname__") (tk + 10), .str (Str.ofString "cmp_to_key.<locals>.K") (tk + 9)⟩, ⟨PyData.keyHash P (Str.ofString "__firstlineno__"), .str (Str.ofString "__firstlineno__") (tk + 12), .int 13 (tk + 11)⟩, ⟨PyData.keyHash P (Str.ofString "__slots__"), .str (Str.ofString "__slots__") (tk + 16), .ref (n0 + 76)⟩, ⟨PyData.keyHash P (Str.ofString "__init__"), .str (Str.ofString "__init__") (tk + 24), .ref (n0 + 83)⟩, ⟨PyData.keyHash P (Str.ofString "__lt__"), .str (Str.ofString "__lt__") (tk + 33), .ref (n0 + 91)⟩, ⟨PyData.keyHash P (Str.ofString "__gt__"), .str (Str.ofString "__gt__") (tk + 42), .ref (n0 + 99)⟩, ⟨PyData.keyHash P (Str.ofString "__eq__"), .str (Str.ofString "__eq__") (tk + 51), .ref (n0 + 107)⟩, ⟨PyData.keyHash P (Str.ofString "__le__"), .str (Str.ofString "__le__") (tk + 60), .ref (n0 + 115)⟩, ⟨PyData.keyHash P (Str.ofString "__ge__"), .str (Str.ofString "__ge__") (tk + 69), .ref (n0 + 123)⟩, ⟨PyData.keyHash P (Str.ofString "__hash__"), .str (Str.ofString "__hash__") (tk + 70), .none⟩, ⟨PyData.keyHash P (Str.ofString "__static_attributes__"), .str (Str.ofString "__static_attributes__") (tk + 72), .ref (n0 + 124)⟩]
def nsO (P : Params) (n0 tk : Nat) : Obj := { cls := .type "dict", data := .dict (nsE P n0 tk) 12 }
def slO (tk : Nat) : Obj := { cls := .type "list", data := .seq #[.str (Str.ofString "obj") (tk + 15)] }
def fnO (x : Option Addr × Data × Array (Option Value)) : Obj := { cls := .type "function", dict := x.1, data := x.2.1, slots := x.2.2 }
abbrev FX := Nat → Option Addr × Data × Array (Option Value)
def ns2E (P : Params) (n0 tk : Nat) : Array DictEntry := #[⟨PyData.keyHash P (Str.ofString "__module__"), .str (Str.ofString "__module__") (tk + 8), .str (Str.ofString "cpy313.functools") (tk + 13)⟩, ⟨PyData.keyHash P (Str.ofString "__firstlineno__"), .str (Str.ofString "__firstlineno__") (tk + 12), .int 13 (tk + 11)⟩, ⟨PyData.keyHash P (Str.ofString "__slots__"), .str (Str.ofString "__slots__") (tk + 16), .ref (n0 + 76)⟩, ⟨PyData.keyHash P (Str.ofString "__init__"), .str (Str.ofString "__init__") (tk + 24), .ref (n0 + 83)⟩, ⟨PyData.keyHash P (Str.ofString "__lt__"), .str (Str.ofString "__lt__") (tk + 33), .ref (n0 + 91)⟩, ⟨PyData.keyHash P (Str.ofString "__gt__"), .str (Str.ofString "__gt__") (tk + 42), .ref (n0 + 99)⟩, ⟨PyData.keyHash P (Str.ofString "__eq__"), .str (Str.ofString "__eq__") (tk + 51), .ref (n0 + 107)⟩, ⟨PyData.keyHash P (Str.ofString "__le__"), .str (Str.ofString "__le__") (tk + 60), .ref (n0 + 115)⟩, ⟨PyData.keyHash P (Str.ofString "__ge__"), .str (Str.ofString "__ge__") (tk + 69), .ref (n0 + 123)⟩, ⟨PyData.keyHash P (Str.ofString "__hash__"), .str (Str.ofString "__hash__") (tk + 70), .none⟩, ⟨PyData.keyHash P (Str.ofString "__static_attributes__"), .str (Str.ofString "__static_attributes__") (tk + 72), .ref (n0 + 124)⟩]
def ns2O (P : Params) (n0 tk : Nat) : Obj := { cls := .type "dict", data := .dict (ns2E P n0 tk) 1 }
def clsO0 (n0 tk : Nat) : Obj := { cls := .type "type", data := .cls { name := Str.ofString "K", bases := [.type "object"], mro := [], ns := n0 + 126, qualname := Str.ofString "cmp_to_key.<locals>.K" }, slots := #[some (.ref (n0 + 69)), none, some (.str (Str.ofString "K") tk), some (.str (Str.ofString "cmp_to_key.<locals>.K") (tk + 9))] }
def ns3E (P : Params) (n0 tk tB : Nat) : Array DictEntry := #[⟨PyData.keyHash P (Str.ofString "__module__"), .str (Str.ofString "__module__") (tk + 8), .str (Str.ofString "cpy313.functools") (tk + 13)⟩, ⟨PyData.keyHash P (Str.ofString "__firstlineno__"), .str (Str.ofString "__firstlineno__") (tk + 12), .int 13 (tk + 11)⟩, ⟨PyData.keyHash P (Str.ofString "__slots__"), .str (Str.ofString "__slots__") (tk + 16), .ref (n0 + 76)⟩, ⟨PyData.keyHash P (Str.ofString "__init__"), .str (Str.ofString "__init__") (tk + 24), .ref (n0 + 83)⟩, ⟨PyData.keyHash P (Str.ofString "__lt__"), .str (Str.ofString "__lt__") (tk + 33), .ref (n0 + 91)⟩, ⟨PyData.keyHash P (Str.ofString "__gt__"), .str (Str.ofString "__gt__") (tk + 42), .ref (n0 + 99)⟩, ⟨PyData.keyHash P (Str.ofString "__eq__"), .str (Str.ofString "__eq__") (tk + 51), .ref (n0 + 107)⟩, ⟨PyData.keyHash P (Str.ofString "__le__"), .str (Str.ofString "__le__") (tk + 60), .ref (n0 + 115)⟩, ⟨PyData.keyHash P (Str.ofString "__ge__"), .str (Str.ofString "__ge__") (tk + 69), .ref (n0 + 123)⟩, ⟨PyData.keyHash P (Str.ofString "__hash__"), .str (Str.ofString "__hash__") (tk + 70), .none⟩, ⟨PyData.keyHash P (Str.ofString "__static_attributes__"), .str (Str.ofString "__static_attributes__") (tk + 72), .ref (n0 + 124)⟩, ⟨PyData.keyHash P (Str.ofString "obj"), .str (Str.ofString "obj") (tB + 1), .ref (n0 + 128)⟩, ⟨PyData.keyHash P (Str.ofString "__doc__"), .str (Str.ofString "__doc__") (tB + 2), .none⟩]
def ns3O (P : Params) (n0 tk tB : Nat) : Obj := { cls := .type "dict", data := .dict (ns3E P n0 tk tB) 3 }
def mdO (n0 tB : Nat) : Obj := { cls := .type "member_descriptor", data := .fields #[.str (Str.ofString "obj") tB, .ref (n0 + 127), .builtin "proto.slot", .builtin "proto.slot#set", .int 0 0] }
def clsO1 (n0 tk : Nat) : Obj := { cls := .type "type", data := .cls { name := Str.ofString "K", bases := [.type "object"], mro := [.ref (n0 + 127), .type "object"], ns := n0 + 126, qualname := Str.ofString "cmp_to_key.<locals>.K", hasDict := false, slotNames := [Str.ofString "obj"] }, slots := #[some (.ref (n0 + 69)), none, some (.str (Str.ofString "K") tk), some (.str (Str.ofString "cmp_to_key.<locals>.K") (tk + 9)), some (.builtin "object.__new__"), some (.bool false)] }
abbrev N3 (P : Params) (n0 tk tB : Nat) : List (Addr × Obj) := [(n0 + 128, mdO n0 tB), (n0 + 127, clsO1 n0 tk), (n0 + 126, ns3O P n0 tk tB)]
def supO (n0 : Nat) : Obj := { cls := .type "super", dict := none, data := .fields #[.ref (n0 + 127), .ref (n0 + 127), .ref (n0 + 127)], slots := #[] }
noncomputable def oldsC (P : Params) (n0 tk tB : Nat) (D : Addr) : List (Addr × Obj) := [(D, supO n0), (n0 + 128, mdO n0 tB), (n0 + 127, clsO1 n0 tk), (n0 + 126, ns3O P n0 tk tB), (2, ko P 2)]
def bfO (n0 : Nat) : Obj := { cls := .type "builtin_function_or_method", dict := none, data := .fields #[.builtin "object.__init_subclass__", .ref (n0 + 127)], slots := #[] }
noncomputable def oldsD (P : Params) (n0 tk tB : Nat) (D : Addr) : List (Addr × Obj) := [(D, bfO n0), (n0 + 128, mdO n0 tB), (n0 + 127, clsO1 n0 tk), (n0 + 126, ns3O P n0 tk tB), (2, ko P 2)]
theorem filt_self (v : Value) (l : List Value) : (v :: l).filter (fun x => x != v) = l.filter (fun x => x != v) := by simp
def saO (x : Option Addr × Data × Array (Option Value)) : Obj := { cls := .type "tuple", dict := x.1, data := x.2.1, slots := x.2.2 }
noncomputable def oldsB (P : Params) (n0 tk : Nat) (f : FX) : List (Addr × Obj) := [(n0 + 69, tupO), (n0 + 71, nsO P n0 tk), (n0 + 76, slO tk), (n0 + 83, fnO (f 0)), (n0 + 91, fnO (f 1)), (n0 + 99, fnO (f 2)), (n0 + 107, fnO (f 3)), (n0 + 115, fnO (f 4)), (n0 + 123, fnO (f 5)), (n0 + 124, saO (f 6)), (2, ko P 2)]
section
variable {α : Type} {M : Model} {A : Around} {Q : α → Shared → Prop} {E : Value → Shared → Prop} {s : Shared} {x y : Sem α}
theorem wp_no {b : Bool} (h : b = false) (k : wpAny M A y Q E s) : wpAny M A (if b = true then x else y) Q E s := by
  subst h; exact k
theorem wp_yes {b : Bool} (h : b = true) (k : wpAny M A x Q E s) : wpAny M A (if b = true then x else y) Q E s := by
  subst h; exact k
theorem wp_ifn {c : Prop} [Decidable c] (h : ¬ c) (k : wpAny M A y Q E s) : wpAny M A (if c then x else y) Q E s := by
  rw [if_neg h]; exact k
theorem wp_eq {t t' : Sem α} (h : t = t') (k : wpAny M A t' Q E s) : wpAny M A t Q E s := h ▸ k
end

def envK (L : Addr) : Env := envOfC (Str.ofString "cmp_to_key") (scp 3) L 28 (.ref 27)
def clsS : Stmt := (theDef 3).1.headD default
def clsBody : List Stmt := match clsS with | .ClassDef _ _ _ b _ _ _ _ _ _ _ => b | _ => []
def clsScope : Scope := match clsS with | .ClassDef _ _ _ _ _ _ s _ _ _ _ => s | _ => default
def clsPos : Pos := match clsS with | .ClassDef _ _ _ _ _ _ _ _ _ _ p => p | _ => default
def clsBase : Expr := match clsS with | .ClassDef _ [b] _ _ _ _ _ _ _ _ p => b | _ => default
def clsStat : List Str := match clsS with | .ClassDef _ _ _ _ _ _ _ _ _ t p => t | _ => []
theorem cls_eq : clsS = .ClassDef (Str.ofString "K") [clsBase] [] clsBody [] [] clsScope none (Str.ofString "K") clsStat clsPos := rfl
def mod4 (sl : Array (Option Value)) : Obj := { cls := .type "module", dict := some builtinsNs, slots := sl }
noncomputable def olds0 (P : Params) (o0 : Obj) (sl : Array (Option Value)) : List (Addr × Obj) := [(0, o0), (2, ko P 2), (3, ko P 3), (4, mod4 sl), (23, ko P 23), (27, ko P 27), (28, ko P 28)]
noncomputable def olds1 (P : Params) (o0 : Obj) (sl : Array (Option Value)) : List (Addr × Obj) := [(0, o0), (2, ko P 2), (3, ko P 3), (4, mod4 sl), (0, o0), (27, ko P 27), (28, ko P 28)]
def X0 (tk : Nat) : St := ⟨[], tk, 0, [], [], true⟩
section
local macro_rules | `(tactic| x_close) => `(tactic| solve_by_elim)
theorem super_call {w : World} {A : Around} {s : Shared} {a nsA : Addr} {nm qn : Str} {sl : Array (Option Value)} {gg : Bool} {l : List Value} {Q : Result → Shared → Prop} {E : Value → Shared → Prop}
    (h : s.heap.get? a = some { cls := .type "type", dict := none, data := .cls { name := nm, bases := [.type "object"], mro := [.ref a, .type "object"], ns := nsA, qualname := qn, hasDict := false, slotNames := [Str.ofString "obj"] }, slots := sl })
    (k : ∀ h' tk D, Mem s.heap h' [] [(D, { cls := .type "super", dict := none, data := .fields #[.ref a, .ref a, .ref a], slots := #[] })] → Q (.ok (.ret (.ref D))) { s with heap := h', toks := tk }) :
    wpAny (model rw_mq0086_01.row.prog w) A (Sem.call (.call (.type "super") ⟨[.ref a, .ref a], []⟩) none gg l Sem.pure) Q E s := by
  x_run
theorem cmd_call {w : World} {A : Around} {s : Shared} {a nsA : Addr} {nm qn : Str} {sl : Array (Option Value)} {Q E : Value → Shared → Prop}
    (h : s.heap.get? a = some { cls := .type "type", dict := none, data := .cls { name := nm, bases := [.type "object"], mro := [.ref a, .type "object"], ns := nsA, qualname := qn, hasDict := false, slotNames := [Str.ofString "obj"] }, slots := sl })
    (k : ∀ h' tk D, Mem s.heap h' [] [(D, { cls := .type "builtin_function_or_method", dict := none, data := .fields #[.builtin "object.__init_subclass__", .ref a], slots := #[] })] → Q (.ref D) { s with heap := h', toks := tk }) :
    wpAny (model rw_mq0086_01.row.prog w) A (call (.builtin "classmethod_descriptor.__get__") [.builtin "object.__init_subclass__", .none, .ref a]) Q E s := by
  x_run
theorem init_sub {w : World} {A : Around} {s : Shared} {a nsA D : Addr} {sl : Array (Option Value)} {gg : Bool} {l : List Value} {Q : Result → Shared → Prop} {E : Value → Shared → Prop}
    (h : s.heap.get? a = some { cls := .type "type", dict := none, data := .cls { name := Str.ofString "K", bases := [.type "object"], mro := [.ref a, .type "object"], ns := nsA, qualname := Str.ofString "cmp_to_key.<locals>.K", hasDict := false, slotNames := [Str.ofString "obj"] }, slots := sl })
    (h2 : s.heap.get? D = some { cls := .type "builtin_function_or_method", dict := none, data := .fields #[.builtin "object.__init_subclass__", .ref a], slots := #[] })
    (k : ∀ tk, Q (.ok (.ret .none)) { s with toks := tk }) :
    wpAny (model rw_mq0086_01.row.prog w) A (Sem.call (.call (.ref D) ⟨[], []⟩) none gg l Sem.pure) Q E s := by
  x_run
end

theorem sga_eq {c : Code} {args : Args} (e : dq c = PySem.W.XFast.xw1054471737866971170 args) : denote table c = Builtin.«super.__getattribute__» args := by
  rw [dq_eq, e, PySem.W.XFast.xe1054471737866971170]
theorem tn_eq {c : Code} {args : Args} (e : dq c = PySem.W.XFast.xw4202317264376624991 args) : denote table c = Builtin.«type.__new__» args := by
  rw [dq_eq, e, PySem.W.XFast.xe4202317264376624991]
theorem drop_self (v : Value) (l : List Value) : List.drop 1 (List.dropWhile (fun x => x != v) (v :: l)) = l := by simp
theorem restC {P : Params} {n0 tk tB m : Nat} {f : FX} {h₀ h h2 : Heap} {D tk' : Nat} (R : Rn (oldsB P n0 tk f) [] m h₀ h ⟨N3 P n0 tk tB, tk', 3, [], [], true⟩) (M : Mem h h2 [] [(D, supO n0)]) : ∀ p ∈ oldsC P n0 tk tB D, h2.get? p.1 = some p.2 := by
  have keep : ∀ b o, h.get? b = some o → h2.get? b = some o := fun b o e => M.keep b o e (by rw [show away [] b = true from rfl, Bool.or_true])
  intro p hp
  simp only [oldsC, List.mem_cons, List.not_mem_nil, or_false] at hp
  rcases hp with rfl | rfl | rfl | rfl | rfl
  · exact M.at 0 _ _ rfl
  · exact keep _ _ (R.D.at 0 _ _ rfl)
  · exact keep _ _ (R.D.at 1 _ _ rfl)
  · exact keep _ _ (R.D.at 2 _ _ rfl)
  · exact keep _ _ (R.D.old _ _ (R.O (2, ko P 2) (List.mem_of_getElem? (i := 10) rfl)).1 rfl)
theorem restS {P : Params} {n0 tk tB m : Nat} {f : FX} {h₀ h h2 : Heap} {D tk' : Nat} (R : Rn (oldsB P n0 tk f) [] m h₀ h ⟨N3 P n0 tk tB, tk', 3, [], [], true⟩) (M : Mem h h2 [] [(D, supO n0)]) : 69 ≤ h2.objs.size := by
  have := Heap.lt_size (restC R M _ (List.mem_of_getElem? (i := 1) rfl))
  have : n0 + 128 < h2.objs.size := this
  omega
theorem restD {P : Params} {n0 tk tB m : Nat} {h₀ h h2 : Heap} {D D2 : Addr} {tk' : Nat} (R : Rn (oldsC P n0 tk tB D) [] m h₀ h ⟨[], tk', 0, [], [], true⟩) (M : Mem h h2 [] [(D2, bfO n0)]) : ∀ p ∈ oldsD P n0 tk tB D2, h2.get? p.1 = some p.2 := by
  have keep : ∀ b o, h₀.get? b = some o → h2.get? b = some o := fun b o e => M.keep b o (R.D.keep b o e (by rw [show away [] b = true from rfl, Bool.or_true])) (by rw [show away [] b = true from rfl, Bool.or_true])
  intro p hp
  simp only [oldsD, List.mem_cons, List.not_mem_nil, or_false] at hp
  rcases hp with rfl | rfl | rfl | rfl | rfl
  · exact M.at 0 _ _ rfl
  · exact keep _ _ (R.O _ (List.mem_of_getElem? (i := 1) rfl)).1
  · exact keep _ _ (R.O _ (List.mem_of_getElem? (i := 2) rfl)).1
  · exact keep _ _ (R.O _ (List.mem_of_getElem? (i := 3) rfl)).1
  · exact keep _ _ (R.O _ (List.mem_of_getElem? (i := 4) rfl)).1
theorem restT {P : Params} {n0 tk tB m : Nat} {h₀ h h2 : Heap} {D D2 : Addr} {tk' : Nat} (R : Rn (oldsC P n0 tk tB D) [] m h₀ h ⟨[], tk', 0, [], [], true⟩) (M : Mem h h2 [] [(D2, bfO n0)]) : 69 ≤ h2.objs.size := by
  have := Heap.lt_size (restD R M _ (List.mem_of_getElem? (i := 1) rfl))
  have : n0 + 128 < h2.objs.size := this
  omega
theorem collR {P : Params} {n0 tk tB : Nat} {f : FX} {m : Nat} {h₀ h : Heap} {o : Obj} {g : Obj → Obj} (R : Rn (oldsB P n0 tk f) [] m h₀ h ⟨[], tB, 0, [], [], true⟩) :
    Rn (oldsB P n0 tk f) [] (m + 1) ((h.push o).update h.objs.size g) ((h.push o).update h.objs.size g) ⟨[], tB, 0, [], [], true⟩ := by
  refine ⟨fun p hp => ⟨?_, (R.O p hp).2⟩, ?_, Mem.start _⟩
  · have e := R.D.old _ _ (R.O p hp).1 (by rw [show away [] _ = true from rfl, Bool.or_true])
    exact (Heap.get?_update_other _ _ (Nat.ne_of_gt (Heap.lt_size e))).trans (Heap.get?_push_of_some _ e)
  · rw [Heap.size_update, Heap.size_push, R.size]; show m + 0 + 69 + 1 = m + 1 + 0 + 69; omega
theorem Rn.kp {olds : List (Addr × Obj)} {n0 : Nat} {h₀ h : Heap} {x : St} (R : Rn olds [] n0 h₀ h x) : Kp h₀ h := fun b o e => R.D.keep b o e (by rw [show away [] b = true from rfl, Bool.or_true])
theorem Mem.kp' {h₀ h : Heap} {news : List (Addr × Obj)} (R : Mem h₀ h [] news) : Kp h₀ h := fun b o e => R.keep b o e (by rw [show away [] b = true from rfl, Bool.or_true])
theorem collK {P : Params} {n0 tk tB : Nat} {f : FX} {m : Nat} {h₀ h : Heap} {o : Obj} {g : Obj → Obj} (R : Rn (oldsB P n0 tk f) [] m h₀ h ⟨[], tB, 0, [], [], true⟩) : Kp h₀ ((h.push o).update h.objs.size g) := fun b o' e => by
  have e := R.kp b o' e
  exact (Heap.get?_update_other _ _ (Nat.ne_of_gt (Heap.lt_size e))).trans (Heap.get?_push_of_some _ e)
theorem slotsK {w : World} {A : Around} {s : Shared} {n0 tk tB m : Nat} {f : FX} {h₀ h : Heap} {Q : Builtin.Slots.Plan → Shared → Prop} {E : Value → Shared → Prop}
    (R : Rn (oldsB w.params n0 tk f) [] m h₀ h ⟨[], tB, 0, [], [], true⟩)
    (k : ∀ h₁ h', Kp h₀ h₁ → Rn (oldsB w.params n0 tk f) [] (m + 1) h₁ h' ⟨[], tB, 0, [], [], true⟩ → Q { names := [Str.ofString "obj"], dict := false, weak := false, inherited := [] } { s with heap := h', toks := tB }) :
    wpAny (model rw_mq0086_01.row.prog w) A (Builtin.Slots.read (Str.ofString "K") [.type "object"] (nsE w.params n0 tk)) Q E { s with heap := h, toks := tB } := by
  unfold Builtin.Slots.read
  refine wpAny_bind (lx R (.nil) (.type "object") [] 0 (tB) (by kernel_rfl) ?_)
  clear R
  intro h R
  try dsimp only
  refine wpAny_bind (lx R (.nil) ([]) [] 0 (tB) (by kernel_rfl) ?_)
  clear R
  intro h R
  try dsimp only
  refine wpAny_bind (lx R (.nil) (false) [] 0 (tB) (by kernel_rfl) ?_)
  clear R
  intro h R
  try dsimp only
  refine wpAny_bind (lx R (.nil) (false) [] 0 (tB) (by kernel_rfl) ?_)
  clear R
  intro h R
  try dsimp only
  refine wpAny_bind (lx R (.nil) (false) [] 0 (tB) (by kernel_rfl) ?_)
  clear R
  intro h R
  try dsimp only
  rw [show (nsE w.params n0 tk).find? (fun x => x.key.isStr (Str.ofString "__slots__")) = some ⟨PyData.keyHash w.params (Str.ofString "__slots__"), .str (Str.ofString "__slots__") (tk + 16), .ref (n0 + 76)⟩ from by kernel_rfl]
  try dsimp only
  refine wpAny_bind (wpAny_rule ?_)
  refine wpAny_bind (lx R (.od 2 .nil) (none) [] 0 (tB) (by kernel_rfl) ?_)
  clear R
  intro h R
  try dsimp only
  refine wp_no (by kernel_rfl) ?_
  refine wpAny_bind (collect_list (vs := [.str (Str.ofString "obj") (tk + 15)]) ⟨_, R.D.old _ _ (R.O (n0 + 76, slO tk) (List.mem_of_getElem? (i := 2) rfl)).1 (by rw [show away _ _ = true from rfl, Bool.or_true]), rfl, 0, rfl⟩ ?_)
  have K1 := collK (o := seqObj "list" #[] 0) (g := Obj.mapSeq (· ++ #[.str (Str.ofString "obj") (tk + 15)])) R
  refine lx (collR R) .nil ({ names := [Str.ofString "obj"], dict := false, weak := false, inherited := [] } : Builtin.Slots.Plan) [] 0 tB (by kernel_rfl) ?_
  clear R
  intro h R
  exact k _ _ K1 R

theorem typeNewK {w : World} {A : Around} {s : Shared} {n0 tk tB : Nat} {f : FX} {h₀ h : Heap} {Q : PySem.Fin → Shared → Prop} {E : Value → Shared → Prop}
    (R : Rn (oldsB w.params n0 tk f) [] (n0 + 56) h₀ h ⟨[], tB, 0, [], [], true⟩)
    (k : ∀ h' tk', Kp h₀ h' → h'.get? (n0 + 127) = some (clsO1 n0 tk) → h'.get? (n0 + 126) = some (ns3O w.params n0 tk tB) → h'.get? (n0 + 128) = some (mdO n0 tB) → Q (.done (.ret (.ref (n0 + 127)))) { s with heap := h', toks := tk' }) :
    wpAny (model rw_mq0086_01.row.prog w) A (Builtin.«type.__new__» ⟨[.type "type", .str (Str.ofString "K") tk, .ref (n0 + 69), .ref (n0 + 71)], []⟩) Q E { s with heap := h, toks := tB } := by
  wp_delta
  refine wpAny_bind (lx R (.nil) (some (Str.ofString "K")) [] 0 (tB) (by kernel_rfl) ?_)
  clear R
  intro h R
  try wp_delta
  refine wpAny_bind (lx R (.od 0 .nil) (true) [] 0 (tB) (by kernel_rfl) ?_)
  clear R
  intro h R
  try wp_delta
  refine wp_no (by kernel_rfl) ?_
  refine wpAny_bind (lx R (.od 1 .nil) (true) [] 0 (tB) (by kernel_rfl) ?_)
  clear R
  intro h R
  try wp_delta
  refine wp_no (by kernel_rfl) ?_
  refine wpAny_bind (lx R (.od 0 .nil) (some #[.type "object"]) [] 0 (tB) (by kernel_rfl) ?_)
  clear R
  intro h R
  try wp_delta
  refine wp_ifn (by decide) ?_
  refine wpAny_bind (lx R (.nil) (PUnit.unit) [] 0 (tB) (by kernel_rfl) ?_)
  clear R
  intro h R
  try wp_delta
  refine wpAny_bind (lx R (.nil) (.type "type") [] 0 (tB) (by kernel_rfl) ?_)
  clear R
  intro h R
  try wp_delta
  refine wp_no (by kernel_rfl) ?_
  refine wpAny_bind (lx R (.nil) (()) [] 0 (tB) (by kernel_rfl) ?_)
  clear R
  intro h R
  try wp_delta
  refine wpAny_bind (lx R (.nil) (.type "object") [] 0 (tB) (by kernel_rfl) ?_)
  clear R
  intro h R
  try wp_delta
  refine wp_no (by kernel_rfl) ?_
  refine wpAny_bind (lx R (.od 1 .nil) (nsE w.params n0 tk) [] 0 (tB) (by kernel_rfl) ?_)
  clear R
  intro h R
  try wp_delta
  refine wpAny_bind (lx R (.od 1 .nil) (some (.builtin "dict.__iter__")) [] 0 (tB) (by kernel_rfl) ?_)
  clear R
  intro h R
  try wp_delta
  refine wp_yes (by kernel_rfl) ?_
  refine wpAny_bind (wpAny_pure ?_)
  wp_delta
  refine wpAny_bind (wpAny_holding (slotsK R ?_))
  clear R
  intro h₁ h K1 R
  refine wpAny_bind (lf R (.al .nil) (.ref (n0 + 126)) (by kernel_rfl) (by kernel_rfl) (by kernel_rfl) ?_)
  clear R
  intro h R
  try wp_delta
  refine wp_no (by kernel_rfl) ?_
  refine wpAny_bind (lf R (.nil) (()) (by kernel_rfl) (by kernel_rfl) (by kernel_rfl) ?_)
  clear R
  intro h R
  try wp_delta
  refine wp_no (by kernel_rfl) ?_
  refine wpAny_bind (lf R (.nw 0 .nil) (some (.str (Str.ofString "cmp_to_key.<locals>.K") (tk + 9))) (by kernel_rfl) (by kernel_rfl) (by kernel_rfl) ?_)
  clear R
  intro h R
  try wp_delta
  refine wpAny_bind (lf R (.nw 0 .nil) (some (.str (Str.ofString "cmp_to_key.<locals>.K") (tk + 9))) (by kernel_rfl) (by kernel_rfl) (by kernel_rfl) ?_)
  clear R
  intro h R
  try wp_delta
  refine wpAny_bind (lf R (.nil) (some (Str.ofString "cmp_to_key.<locals>.K")) (by kernel_rfl) (by kernel_rfl) (by kernel_rfl) ?_)
  clear R
  intro h R
  try wp_delta
  refine wpAny_bind (wpAny_pure ?_)
  try wp_delta
  refine wpAny_bind (lf R (.nw 0 .nil) (none) (by kernel_rfl) (by kernel_rfl) (by kernel_rfl) ?_)
  clear R
  intro h R
  try wp_delta
  refine wpAny_bind (lf R (.al .nil) (n0 + 127) (by kernel_rfl) (by kernel_rfl) (by kernel_rfl) ?_)
  clear R
  intro h R
  try wp_delta
  refine wp_yes (by kernel_rfl) ?_
  refine wpAny_bind (lf R (.up 0 .nil) (()) (by kernel_rfl) (by kernel_rfl) (by kernel_rfl) ?_)
  clear R
  intro h R
  try wp_delta
  refine wpAny_bind (lf R (.up 0 .nil) (()) (by kernel_rfl) (by kernel_rfl) (by kernel_rfl) ?_)
  clear R
  intro h R
  try wp_delta
  refine wpAny_bind (lf R (.up 0 .nil) (()) (by kernel_rfl) (by kernel_rfl) (by kernel_rfl) ?_)
  clear R
  intro h R
  try wp_delta
  refine wpAny_bind (lf R (.nw 1 (.up 1 .nil)) (true) (by kernel_rfl) (by kernel_rfl) (by kernel_rfl) ?_)
  clear R
  intro h R
  try wp_delta
  refine wpAny_bind (lf R (.nw 1 .nil) (none) (by kernel_rfl) (by kernel_rfl) (by kernel_rfl) ?_)
  clear R
  intro h R
  try wp_delta
  refine wpAny_bind (lf R (.nw 1 (.nw 1 .nil)) (PUnit.unit) (by kernel_rfl) (by kernel_rfl) (by kernel_rfl) ?_)
  clear R
  intro h R
  try wp_delta
  refine wpAny_bind (lf R (.nw 1 .nil) (none) (by kernel_rfl) (by kernel_rfl) (by kernel_rfl) ?_)
  clear R
  intro h R
  try wp_delta
  refine wpAny_bind (lf R (.nw 1 .nil) (none) (by kernel_rfl) (by kernel_rfl) (by kernel_rfl) ?_)
  clear R
  intro h R
  try wp_delta
  refine wpAny_bind (lf R (.nil) (none) (by kernel_rfl) (by kernel_rfl) (by kernel_rfl) ?_)
  clear R
  intro h R
  try wp_delta
  refine wpAny_bind (lx R (.nil) ([.type "object"]) [(n0 + 127, clsO0 n0 tk), (n0 + 126, ns2O w.params n0 tk)] 2 (tB) (by kernel_rfl) ?_)
  clear R
  intro h R
  try wp_delta
  refine wpAny_bind (wpAny_pure ?_)
  try wp_delta
  refine wpAny_bind (wp_eq (congrArg (List.anyM _) (filt_self (.ref (n0 + 127)) [.type "object"])) ?_)
  refine lx R .nil false [(n0 + 127, clsO0 n0 tk), (n0 + 126, ns2O w.params n0 tk)] 2 tB (by kernel_rfl) ?_
  clear R
  intro h R
  refine lgx R (.nw 0 (.up 0 (.nw 0 (.up 0 (.nw 0 (.nw 0 (.nw 0 (.nw 1 (.nw 1 (.fr (.al (.nw 2 (.fr (.nw 2 (.up 2 (.nw 1 (.up 1 (.nw 1 (.up 1 (.nw 2 (.fr (.nw 2 (.up 2 (.nw 2 (.nw 2 (.nw 2 (.nw 2 (.od 2 (.od 3 (.od 4 (.od 5 (.od 6 (.od 7 (.od 8 (.od 9 (.nw 0 .nil)))))))))))))))))))))))))))))))))))) (N3 w.params n0 tk tB) 3 (tB + 3) (by kernel_rfl) ?_
  clear R
  intro h R
  refine at_callC (c := .call (.type "super") ⟨[.ref (n0 + 127), .ref (n0 + 127)], []⟩) (by kernel_rfl) (by kernel_rfl) ?_
  intro gg l
  refine super_call (R.D.at 1 (n0 + 127) (clsO1 n0 tk) rfl) ?_
  intro h2 tk3 D M
  have K2 := Kp.trans (Kp.trans K1 R.kp) (Mem.kp' M)
  obtain ⟨n1, R3⟩ := Rn.restart (olds := oldsC w.params n0 tk tB D) (h := h2) (restC R M) (restS R M) tk3
  clear R M
  rename Rn _ _ _ _ _ _ => R
  refine lgx R (.fr (.od 0 .nil)) [] 0 (tk3 + 1) (by kernel_rfl) ?_
  clear R
  intro h R
  refine at_callP (by kernel_rfl) ?_
  refine lgx R (.od 0 .nil) [] 0 (tk3 + 1) (by kernel_rfl) ?_
  clear R
  intro h R
  refine at_again (by kernel_rfl) ?_
  refine wp_eq (t' := Builtin.«super.__getattribute__» ⟨[.ref D, .str (Str.ofString "__init_subclass__") tk3], []⟩) (sga_eq (by kernel_rfl)) ?_
  wp_delta
  refine wpAny_bind (lx R (.nil) (some (Str.ofString "__init_subclass__")) [] 0 (tk3 + 1) (by kernel_rfl) ?_)
  clear R
  intro h R
  try wp_delta
  refine wp_no (by kernel_rfl) ?_
  refine wpAny_bind (lx R (.nil) (some (Str.ofString "__init_subclass__")) [] 0 (tk3 + 1) (by kernel_rfl) ?_)
  clear R
  intro h R
  try wp_delta
  refine wpAny_bind (lx R (.od 0 .nil) (.ref (n0 + 127)) [] 0 (tk3 + 1) (by kernel_rfl) ?_)
  clear R
  intro h R
  try wp_delta
  refine wpAny_bind (lx R (.od 0 .nil) (.ref (n0 + 127)) [] 0 (tk3 + 1) (by kernel_rfl) ?_)
  clear R
  intro h R
  try wp_delta
  refine wpAny_bind (lx R (.od 0 .nil) (.ref (n0 + 127)) [] 0 (tk3 + 1) (by kernel_rfl) ?_)
  clear R
  intro h R
  try wp_delta
  refine wp_no (by kernel_rfl) ?_
  refine wpAny_bind (lx R (.od 4 .nil) (()) [] 0 (tk3 + 1) (by kernel_rfl) ?_)
  clear R
  intro h R
  try wp_delta
  refine wp_no (by kernel_rfl) ?_
  refine wpAny_bind (lx R (.od 2 .nil) ([.ref (n0 + 127), .type "object"]) [] 0 (tk3 + 1) (by kernel_rfl) ?_)
  clear R
  intro h R
  try wp_delta
  rw [drop_self, List.forIn_cons]
  refine wpAny_bind (wpAny_bind ?_)
  refine wpAny_bind (lx R (.nil) (some (.builtin "object.__init_subclass__")) [] 0 (tk3 + 1) (by kernel_rfl) ?_)
  clear R
  intro h R
  try wp_delta
  refine wpAny_bind (lx R (.nil) (.type "classmethod_descriptor") [] 0 (tk3 + 1) (by kernel_rfl) ?_)
  clear R
  intro h R
  try wp_delta
  refine wpAny_bind (lx R (.nil) (some (.builtin "classmethod_descriptor.__get__")) [] 0 (tk3 + 1) (by kernel_rfl) ?_)
  clear R
  intro h R
  try wp_delta
  rw [if_pos (beq_self_eq_true _)]
  refine wpAny_bind (wpAny_holding (cmd_call (R.D.old _ _ (R.O (n0 + 127, clsO1 n0 tk) (List.mem_of_getElem? (i := 2) rfl)).1 rfl) ?_))
  intro h3 tk4 D2 M
  replace K2 := Kp.trans (Kp.trans K2 R.kp) (Mem.kp' M)
  obtain ⟨n2, R3⟩ := Rn.restart (olds := oldsD w.params n0 tk tB D2) (h := h3) (restD R M) (restT R M) tk4
  clear R M
  rename Rn _ _ _ _ _ _ => R
  refine wpAny_bind (wpAny_pure ?_)
  refine wpAny_pure ?_
  refine wpAny_pure ?_
  refine wpAny_pure ?_
  refine at_callC (c := .call (.ref D2) ⟨[], []⟩) (by kernel_rfl) (by kernel_rfl) ?_
  intro gg l
  refine init_sub (R.D.old _ _ (R.O (n0 + 127, clsO1 n0 tk) (List.mem_of_getElem? (i := 2) rfl)).1 rfl) (R.D.old _ _ (R.O (D2, bfO n0) (List.mem_of_getElem? (i := 0) rfl)).1 rfl) ?_
  intro tk5
  refine at_pure (v := .done (.ret (.ref (n0 + 127)))) (by kernel_rfl) ?_
  exact k _ _ K2 (R.O _ (List.mem_of_getElem? (i := 2) rfl)).1 (R.O _ (List.mem_of_getElem? (i := 3) rfl)).1 (R.O _ (List.mem_of_getElem? (i := 1) rfl)).1
end Mine
namespace Mine
open PySem.Challenge
set_option maxHeartbeats 0
set_option maxRecDepth 100000
section
variable {prog : Program} {w : World} {A B : Around} {E : Value → Shared → Prop} {s : Shared}
theorem at_againX {t : Sem PySem.Fin} {R : Result → Shared → Prop} (c : Code) (e : isAgain ⟨prog, w.params⟩ t = true) (e2 : againC ⟨prog, w.params⟩ t = c)
    (h : wpAny (model prog w) (B.under c) (dq c) (Post prog w B R) (fun e s' => R (.error e) s') s) : wpAny (model prog w) A t (Post prog w B R) E s := by
  subst e2
  exact at_again e (dq_eq _ ▸ h)
theorem at_callX {α : Type} {t : Sem α} {Q : α → Shared → Prop} (c : Code) (e : callHd ⟨prog, w.params⟩ t = some none) (e2 : callC ⟨prog, w.params⟩ t = c)
    (h : wpAny (model prog w) ((A.mark none).under c) (dq c) (Post prog w (A.mark none) (fun r s' => wpAny (model prog w) A (callK ⟨prog, w.params⟩ t r) Q E s')) (fun e s' => wpAny (model prog w) A (callK ⟨prog, w.params⟩ t (.error e)) Q E s') s) :
    wpAny (model prog w) A t Q E s := by
  subst e2
  exact at_callP e (dq_eq _ ▸ h)
theorem at_codeX {c : Code} {gg : Bool} {l : List Value} {Q' : Result → Shared → Prop} {E' : Value → Shared → Prop}
    (h : wpAny (model prog w) ((A.mark none).under c) (dq c) (Post prog w (A.mark none) Q') (fun e s' => Q' (.error e) s') s) :
    wpAny (model prog w) A (Sem.call c none gg l Sem.pure) Q' E' s := by
  refine at_code (by simp) ?_
  rw [dq_eq]
  exact wpAny_mono h (fun fin s' hf => by cases fin <;> exact hf) (fun _ _ he => he)
theorem tn_eqX (args : Args) : dq (.builtin "type.__new__" args) = Builtin.«type.__new__» args := by
  rw [← dq_eq]
  exact tn_eq (by kernel_rfl)
end
theorem typeCallK {w : World} {A : Around} {s : Shared} {n0 tk tB : Nat} {f : FX} {h₀ h : Heap} {gg : Bool} {l : List Value} {Q : Result → Shared → Prop} {E : Value → Shared → Prop}
    (R : Rn (oldsB w.params n0 tk f) [] (n0 + 56) h₀ h ⟨[], tB, 0, [], [], true⟩)
    (k : ∀ h' tk', Kp h₀ h' → h'.get? (n0 + 127) = some (clsO1 n0 tk) → h'.get? (n0 + 126) = some (ns3O w.params n0 tk tB) → h'.get? (n0 + 128) = some (mdO n0 tB) → Q (.ok (.ret (.ref (n0 + 127)))) { s with heap := h', toks := tk' }) :
    wpAny (model rw_mq0086_01.row.prog w) A (Sem.call (.call (.type "type") ⟨[.str (Str.ofString "K") tk, .ref (n0 + 69), .ref (n0 + 71)], []⟩) none gg l Sem.pure) Q E { s with heap := h, toks := tB } := by
  refine at_codeX ?_
  refine at_againX (.builtin "type.__call__" ⟨[.type "type", .str (Str.ofString "K") tk, .ref (n0 + 69), .ref (n0 + 71)], []⟩) (by kernel_rfl) (by kernel_rfl) ?_
  refine at_callX (.call (.builtin "type.__new__") ⟨[.type "type", .str (Str.ofString "K") tk, .ref (n0 + 69), .ref (n0 + 71)], []⟩) (by kernel_rfl) (by kernel_rfl) ?_
  refine at_againX (.builtin "type.__new__" ⟨[.type "type", .str (Str.ofString "K") tk, .ref (n0 + 69), .ref (n0 + 71)], []⟩) (by kernel_rfl) (by kernel_rfl) ?_
  refine wp_eq (tn_eqX _) ?_
  refine typeNewK R ?_
  intro h2 tk2 K2 g1 g2 g3
  obtain ⟨n1, R3⟩ := Rn.restart (olds := [(n0 + 127, clsO1 n0 tk)]) (h := h2) (fun p hp => by rw [List.mem_singleton.mp hp]; exact g1) (Nat.le_trans (by omega) (Heap.lt_size g1)) tk2
  refine lf R3 (.od 0 (.od 0 (.call (.od 0 (.again .nil)) .nil))) (.done (.ret (.ref (n0 + 127)))) (by kernel_rfl) (by kernel_rfl) (by kernel_rfl) ?_
  intro h3 R4
  have K3 := R4.kp
  exact k _ _ (Kp.trans K2 K3) (K3 _ _ g1) (K3 _ _ g2) (K3 _ _ g3)
end Mine
namespace Mine
open PySem.Challenge
set_option maxHeartbeats 0
set_option maxRecDepth 100000

def itemsOf (o : Obj) : Array Value := match o.data with | .fields vs => vs | _ => #[]
def codKO (n0 tk : Nat) : Obj := { cls := .type "code", data := .fields #[.str (Str.ofString "K") (tk + 2), .str (Str.ofString "cmp_to_key.<locals>.K") (tk + 3), .str (Str.ofString "/claim/cut.py") (tk + 4), .int 13 0, .int 0 0, .int 0 0, .int 0 0, .int 0 0, .ref (n0 + 72), .bool true,
  .int 181 0, .ref (n0 + 73), .none, .none, .none, .none, .int (Int.ofNat (tk + 6)) 0, .int 13 0, .str (Str.ofString "/claim/cut.py") (tk + 7)] }
def tup2O (tk : Nat) : Obj := { cls := .type "tuple", data := .seq #[.str (Str.ofString "mycmp") (tk + 5)] }

def mth (i : Nat) : Str × Arguments × List Stmt × Scope := match clsBody[i]? with | some (.FunctionDef n args b _ _ _ sc _ _ _) => (n, args, b, sc) | _ => default
def initF (n0 : Nat) : FuncData := { name := Str.ofString "__init__", qualname := Str.ofString "cmp_to_key.<locals>.K.__init__", params := (mth 2).2.1, body := .stmts (mth 2).2.2.1, scope := (mth 2).2.2.2, globals := 3, closure := [], defaults := .none, kwdefaults := .none, pyModule := .str (Str.ofString "law_mq0086_01") 222, code := .ref (n0 + 82) }
def ltF (n0 L : Nat) : FuncData := { name := Str.ofString "__lt__", qualname := Str.ofString "cmp_to_key.<locals>.K.__lt__", params := (mth 3).2.1, body := .stmts (mth 3).2.2.1, scope := (mth 3).2.2.2, globals := 3, closure := [(Str.ofString "mycmp", L + 1)], defaults := .none, kwdefaults := .none, pyModule := .str (Str.ofString "law_mq0086_01") 222, code := .ref (n0 + 90), closureTuple := .ref (n0 + 84) }
def initO (n0 : Nat) : Obj := { cls := .type "function", data := .func (initF n0) }
def ltO (n0 L : Nat) : Obj := { cls := .type "function", data := .func (ltF n0 L) }
def cdO (nm : Str) (ln tk c : Nat) : Obj := { cls := .type "code", data := .fields #[.str nm tk, .str (Str.ofString "cmp_to_key.<locals>.K." ++ nm) (tk + 1), .str (Str.ofString "/claim/cut.py") (tk + 2), .int (Int.ofNat ln) 0, .int 2 0, .int 0 0, .int 0 0, .int 19 0, .ref c, .bool true, .int 181 0, .ref (c + 1), .none, .ref (c + 2), .ref (c + 3), .ref (c + 4), .int (Int.ofNat (if ln = 17 then tk + 5 else tk + 6)) 0, .int (Int.ofNat ln) 0, .str (Str.ofString "/claim/cut.py") (if ln = 17 then tk + 6 else tk + 7)] }
theorem away_one {o : Obj} {b : Addr} (nb : b ≠ 23) : away [(23, o)] b = true := by
  show (!(Nat.beq 23 b) && true) = true
  cases q : Nat.beq 23 b with
  | false => rfl
  | true => exact absurd (Nat.eq_of_beq_eq_true q).symm nb
theorem fn_of {T : String} {l : List (Addr × Obj)} {i : Nat} {a : Addr} (h : (l[i]?).map (fun p => (p.1, p.2.cls)) = some (a, .type T)) : ∃ y : Option Addr × Data × Array (Option Value), l[i]? = some (a, { cls := .type T, dict := y.1, data := y.2.1, slots := y.2.2 }) := by
  cases e : l[i]? with
  | none => rw [e] at h; cases h
  | some p =>
    obtain ⟨b, c, d, dt, sl⟩ := p
    rw [e] at h
    simp only [Option.map_some, Option.some.injEq, Prod.mk.injEq] at h
    obtain ⟨rfl, rfl⟩ := h
    exact ⟨(d, dt, sl), rfl⟩
theorem lumpB {α : Type} {M : Model} {A : Around} {Q : α → Shared → Prop} {E : Value → Shared → Prop} {s : Shared} {t : Sem α} {P : Params} {n0 tk L : Nat} {olds chg : List (Addr × Obj)} {h₀ h : Heap} {x : St} (R : Rn olds chg n0 h₀ h x)
    (c1 : ([55, 53, 48].map fun i => x.news[i]?) = [some (n0 + 69, tupO), some (n0 + 71, nsO P n0 tk), some (n0 + 76, slO tk)]) (c2 : x.n = 56)
    (c4 : ([41, 33, 25, 17, 9, 1].map fun i => (x.news[i]?).map (fun p => (p.1, p.2.cls))) = [some (n0 + 83, .type "function"), some (n0 + 91, .type "function"), some (n0 + 99, .type "function"), some (n0 + 107, .type "function"), some (n0 + 115, .type "function"), some (n0 + 123, .type "function")])
    (c5 : (x.news[0]?).map (fun p => (p.1, p.2.cls)) = some (n0 + 124, .type "tuple"))
    (c3 : (x.news[41]?, x.news[33]?) = (some (n0 + 83, initO n0), some (n0 + 91, ltO n0 L)))
    (c6 : (x.news[42]?, x.news[34]?) = (some (n0 + 82, cdO (Str.ofString "__init__") 17 (tk + 17) (n0 + 77)), some (n0 + 90, cdO (Str.ofString "__lt__") 20 (tk + 25) (n0 + 85))))
    (o2 : h₀.get? 2 = some (ko P 2)) (w2 : away chg 2 = true)
    (k : ∀ tB f, Rn (oldsB P n0 tk f) [] (n0 + 56) h h ⟨[], tB, 0, [], [], true⟩ → h.get? (n0 + 83) = some (initO n0) → h.get? (n0 + 91) = some (ltO n0 L) → h.get? (n0 + 82) = some (cdO (Str.ofString "__init__") 17 (tk + 17) (n0 + 77)) →
      h.get? (n0 + 90) = some (cdO (Str.ofString "__lt__") 20 (tk + 25) (n0 + 85)) → wpAny M A t Q E { s with heap := h, toks := tB }) : wpAny M A t Q E { s with heap := h, toks := x.toks } := by
  simp only [Prod.mk.injEq] at c3 c6
  simp only [List.map_cons, List.map_nil, List.cons.injEq, and_true] at c1 c4
  obtain ⟨y0, d0⟩ := fn_of c4.1
  obtain ⟨y1, d1⟩ := fn_of c4.2.1
  obtain ⟨y2, d2⟩ := fn_of c4.2.2.1
  obtain ⟨y3, d3⟩ := fn_of c4.2.2.2.1
  obtain ⟨y4, d4⟩ := fn_of c4.2.2.2.2.1
  obtain ⟨y5, d5⟩ := fn_of c4.2.2.2.2.2
  obtain ⟨y6, d6⟩ := fn_of c5
  refine k x.toks (fun i => [y0, y1, y2, y3, y4, y5, y6].getD i y0) ⟨fun p hp => ⟨?_, by rw [show away [] p.1 = true from rfl, Bool.or_true]⟩, by show _ = n0 + 56 + 0 + 69; rw [R.size, c2], Mem.start _⟩ (R.D.at 41 _ _ c3.1) (R.D.at 33 _ _ c3.2) (R.D.at 42 _ _ c6.1) (R.D.at 34 _ _ c6.2)
  simp only [oldsB, List.mem_cons, List.not_mem_nil, or_false] at hp
  rcases hp with rfl | rfl | rfl | rfl | rfl | rfl | rfl | rfl | rfl | rfl | rfl
  · exact R.D.at 55 _ _ c1.1
  · exact R.D.at 53 _ _ c1.2.1
  · exact R.D.at 48 _ _ c1.2.2
  · exact R.D.at 41 _ _ d0
  · exact R.D.at 33 _ _ d1
  · exact R.D.at 25 _ _ d2
  · exact R.D.at 17 _ _ d3
  · exact R.D.at 9 _ _ d4
  · exact R.D.at 1 _ _ d5
  · exact R.D.at 0 _ _ d6
  · exact R.D.keep _ _ o2 (by rw [w2, Bool.or_true])
def bfmO : Obj := { cls := .type "builtin_function_or_method", data := .fields #[.builtin "type.__prepare__", .type "type"] }
def dicO : Obj := { cls := .type "dict", data := .dict #[] }
theorem olds1_ok {P : Params} {o0 : Obj} {sl : Array (Option Value)} {h₀ : Heap} {o : Obj} (O : ∀ p ∈ olds0 P o0 sl, h₀.get? p.1 = some p.2 ∧ (hasCls p.2 || away [] p.1) = true) : ∀ p ∈ olds1 P o0 sl, h₀.get? p.1 = some p.2 ∧ (hasCls p.2 || away [(23, o)] p.1) = true := by
  intro p hp
  simp only [olds1, List.mem_cons, List.not_mem_nil, or_false] at hp
  rcases hp with rfl | rfl | rfl | rfl | rfl | rfl | rfl <;> exact ⟨(O _ (by simp [olds0])).1, by rw [show away _ _ = true from rfl, Bool.or_true]⟩
abbrev NK6 (n0 tk : Nat) : List (Addr × Obj) := [(n0 + 74, codKO n0 tk), (n0 + 73, tableObj #[]), (n0 + 72, tup2O tk), (n0 + 71, dicO), (n0 + 70, bfmO), (n0 + 69, tupO)]
def frmO (n0 : Nat) : Obj := { cls := .type "frame", slots := #[some (.ref (n0 + 74)), some (.ref 3), some (.ref (n0 + 71)), none, some (.str (Str.ofString "law_mq0086_01") 222), none, some (.ref 0)] }
abbrev NK7 (n0 tk : Nat) : List (Addr × Obj) := (n0 + 75, frmO n0) :: NK6 n0 tk
noncomputable def tab23 (P : Params) (n0 : Nat) : Obj := tableObj (itemsOf (ko P 23) ++ #[.int 13 0, .int 4 0, .ref (n0 + 74)])
theorem buildK {o0 : Obj} {sl : Array (Option Value)} {w : World} {A : Around} {s : Shared} {n0 L : Nat} {h₀ h : Heap} {tk : Nat} {Q E : Value → Shared → Prop}
    (R : Rn (olds0 w.params o0 sl) [] n0 h₀ h (X0 tk)) (hlim : h₀.NoLimit) (hd : A.depth < recursionLimit)
    (k : ∀ h' tk' tB, (∀ b o, h₀.get? b = some o → b ≠ 23 → h'.get? b = some o) → h'.get? 23 = some (tab23 w.params n0) → h'.get? (n0 + 127) = some (clsO1 n0 tk) → h'.get? (n0 + 126) = some (ns3O w.params n0 tk tB) → h'.get? (n0 + 128) = some (mdO n0 tB) → h'.get? (n0 + 83) = some (initO n0) → h'.get? (n0 + 91) = some (ltO n0 L) →
      h'.get? (n0 + 82) = some (cdO (Str.ofString "__init__") 17 (tk + 17) (n0 + 77)) → h'.get? (n0 + 90) = some (cdO (Str.ofString "__lt__") 20 (tk + 25) (n0 + 85)) → Q (.ref (n0 + 127)) { s with heap := h', toks := tk' }) :
    wpAny (model rw_mq0086_01.row.prog w) A (buildClass (Str.ofString "K") (qualnameIn (envK L) (Str.ofString "K") (Str.ofString "K")) [.type "object"] [] clsBody clsScope clsStat (firstLineOf [] clsPos) (envK L) clsPos none) Q E { s with heap := h, toks := (X0 tk).toks } := by
  unfold buildClass
  refine wpAny_bind (lx R (.al .nil) (.ref (n0 + 69)) [(n0 + 69, tupO)] 1 tk (by kernel_rfl) ?_)
  clear R
  intro h R
  try dsimp only
  refine wpAny_bind (lx R .nil (⟨[.type "object"], false⟩) [(n0 + 69, tupO)] 1 tk (by kernel_rfl) ?_)
  clear R
  intro h R
  dsimp only [List.lookup]
  refine wpAny_bind (lx R .nil (.type "type") [(n0 + 69, tupO)] 1 tk (by kernel_rfl) ?_)
  clear R
  intro h R
  try dsimp only
  refine wpAny_bind (lx R .nil true [(n0 + 69, tupO)] 1 tk (by kernel_rfl) ?_)
  clear R
  intro h R
  rw [if_pos rfl]
  refine wpAny_bind (lx R .nil (.type "type") [(n0 + 69, tupO)] 1 tk (by kernel_rfl) ?_)
  clear R
  intro h R
  try dsimp only
  refine wpAny_bind (lx R (.fr .nil) (.str (Str.ofString "K") tk) [(n0 + 69, tupO)] 1 (tk + 1) (by kernel_rfl) ?_)
  clear R
  intro h R
  try dsimp only
  rw [if_neg (by decide)]
  refine wpAny_bind (wpAny_pure ?_)
  refine wpAny_holding ?_
  refine wpAny_bind (lx R (.fr (.call (.again (.call (.again (.al .nil)) .nil)) .nil)) (some (.ref (n0 + 70))) [(n0 + 70, bfmO), (n0 + 69, tupO)] 2 (tk + 2) (by kernel_rfl) ?_)
  clear R
  intro h R
  try dsimp only
  refine wpAny_bind (lx R (.call (.nw 0 (.again (.al .nil))) .nil) (.ref (n0 + 71)) [(n0 + 71, dicO), (n0 + 70, bfmO), (n0 + 69, tupO)] 3 (tk + 2) (by kernel_rfl) ?_)
  clear R
  intro h R
  try dsimp only
  refine wpAny_bind (lx R .nil () [(n0 + 71, dicO), (n0 + 70, bfmO), (n0 + 69, tupO)] 3 (tk + 2) (by kernel_rfl) ?_)
  clear R
  intro h R
  refine wpAny_bind (lx R (.nw 0 .nil) (some (.builtin "dict.__getitem__")) [(n0 + 71, dicO), (n0 + 70, bfmO), (n0 + 69, tupO)] 3 (tk + 2) (by kernel_rfl) ?_)
  clear R
  intro h R
  dsimp only [Option.isNone]
  rw [if_neg (by decide)]
  refine wpAny_holding ?_
  refine wp_no (by kernel_rfl) ?_
  refine wpAny_bind (wpAny_pure ?_)
  refine wp_no (by kernel_rfl) ?_
  refine wpAny_bind (wpAny_pure ?_)
  refine wpAny_bind (lgx R (.od 5 (.od 4 (.fr (.fr (.fr (.fr (.al (.al (.fr (.fr (.al (.od 4 .nil)))))))))))) [(n0 + 74, codKO n0 tk), (n0 + 73, tableObj #[]), (n0 + 72, tup2O tk), (n0 + 71, dicO), (n0 + 70, bfmO), (n0 + 69, tupO)] 6 (tk + 8) (by kernel_rfl) ?_)
  clear R
  intro h R
  refine gr (olds' := olds1 w.params o0 sl) (a := 23) (ps := itemsOf (ko w.params 23)) (more := #[.int 13 0, .int 4 0, .ref (n0 + 74)]) R (table_at (c := 27) (o := ko w.params 27) (o' := ko w.params 23) (vs := itemsOf (ko w.params 27)) (R.O (27, ko w.params 27) (List.mem_of_getElem? (i := 5) rfl)).1 rfl rfl (R.O (23, ko w.params 23) (List.mem_of_getElem? (i := 4) rfl)).1 rfl) rfl (by kernel_rfl) (olds1_ok R.O) ?_
  clear R
  intro h R
  refine lx R (.ch 0 .nil) (.ref (n0 + 74)) (NK6 n0 tk) 6 (tk + 8) (by kernel_rfl) ?_
  clear R
  intro h R
  refine wpAny_bind (lx R (.od 2 (.od 3 .nil)) 0 (NK6 n0 tk) 6 (tk + 8) (by kernel_rfl) ?_)
  clear R
  intro h R
  refine wpAny_bind (lx R (.od 2 (.al .nil)) (n0 + 75) (NK7 n0 tk) 7 (tk + 8) (by kernel_rfl) ?_)
  clear R
  intro h R
  refine wpAny_bind (lx R .nil [(Str.ofString "mycmp", L + 1)] (NK7 n0 tk) 7 (tk + 8) (by kernel_rfl) ?_)
  clear R
  intro h R
  refine wpAny_holding (wpAny_bind (wpAny_enterFrame (hlim.at fun o e => R.D.keep _ o e (by rw [show away _ _ = true from rfl, Bool.or_true])) hd ?_))
  refine lgz R (.nw 4 (.nw 4 (.od 2 (.nw 4 (.fr (.nw 4 (.up 4 (.fr (.nw 4 (.fr (.nw 4 (.up 4 (.fr (.nw 4 (.fr (.nw 4 (.up 4 (.callR (.fr (.nw 4 (.fr (.nw 4 (.up 4 (.fr (.al (.nw 5 (.fr (.nw 5 (.up 5 (.nw 2 (.nw 3 (.fr (.fr (.fr (.al (.al (.fr (.fr (.al (.al (.al (.fr (.fr (.al (.nw 9 (.up 9 (.nw 9 (.od 2 (.od 3 (.od 2 (.al (.nw 12 (.fr (.nw 12 (.up 12 (.al (.nw 10 (.nw 11 (.fr (.fr (.fr (.fr (.al (.al (.fr (.fr (.al (.al (.al (.fr (.fr (.al (.nw 17 (.up 17 (.nw 17 (.od 2 (.od 3 (.od 2 (.al (.nw 20 (.fr (.nw 20 (.up 20 (.al (.nw 18 (.nw 19 (.fr (.fr (.fr (.fr (.al (.al (.fr (.fr (.al (.al (.al (.fr (.fr (.al (.nw 25 (.up 25 (.nw 25 (.od 2 (.od 3 (.od 2 (.al (.nw 28 (.fr (.nw 28 (.up 28 (.al (.nw 26 (.nw 27 (.fr (.fr (.fr (.fr (.al (.al (.fr (.fr (.al (.al (.al (.fr (.fr (.al (.nw 33 (.up 33 (.nw 33 (.od 2 (.od 3 (.od 2 (.al (.nw 36 (.fr (.nw 36 (.up 36 (.al (.nw 34 (.nw 35 (.fr (.fr (.fr (.fr (.al (.al (.fr (.fr (.al (.al (.al (.fr (.fr (.al (.nw 41 (.up 41 (.nw 41 (.od 2 (.od 3 (.od 2 (.al (.nw 44 (.fr (.nw 44 (.up 44 (.al (.nw 42 (.nw 43 (.fr (.fr (.fr (.fr (.al (.al (.fr (.fr (.al (.al (.al (.fr (.fr (.al (.nw 49 (.up 49 (.nw 49 (.od 2 (.od 3 (.od 2 (.al (.nw 52 (.fr (.nw 52 (.up 52 (.nw 52 (.fr (.nw 52 (.up 52 .nil))))))))))))))))))))))))))))))))))))))))))))))))))))))))))))))))))))))))))))))))))))))))))))))))))))))))))))))))))))))))))))))))))))))))))))))))))))))))))))))))))))))))))))))))))))) (.fr (.al (.nw 53 (.fr (.nw 53 (.up 53 .nil)))))))))))))))))))))))) (by kernel_rfl) (by kernel_rfl) ?_
  clear R
  intro h y T hy hT R
  have H := fun t c1 c2 c3 c4 c5 c6 o2 w2 => @lumpB Value (model rw_mq0086_01.row.prog w) A Q E s t w.params n0 tk L _ _ h₀ h y R c1 c2 c3 c4 c5 c6 o2 w2
  refine H _ ?_ ?_ ?_ ?_ ?_ ?_ ?_ ?_ ?_
  · rw [hy]; exact (by kernel_rfl)
  · rw [hy]; exact (by kernel_rfl)
  · rw [hy]; exact (by kernel_rfl)
  · rw [hy]; exact (by kernel_rfl)
  · rw [hy]; exact (by kernel_rfl)
  · rw [hy]; exact (by kernel_rfl)
  · exact (R.O (2, ko w.params 2) (List.mem_of_getElem? (i := 1) rfl)).1
  · rfl
  clear H
  intro tB f RB fi fl ci cl
  have T0 : h.get? 23 = some (tab23 w.params n0) := (R.D.ch _ (.head _)).1
  have K0 : ∀ b o, h₀.get? b = some o → b ≠ 23 → h.get? b = some o := fun b o e nb => R.D.keep b o e (by rw [away_one nb, Bool.or_true])
  clear R
  have e1 : callHd ⟨rw_mq0086_01.row.prog, w.params⟩ T = some none := by rw [hT]; exact (by kernel_rfl)
  have e2 : callC ⟨rw_mq0086_01.row.prog, w.params⟩ T = .call (.type "type") ⟨[.str (Str.ofString "K") tk, .ref (n0 + 69), .ref (n0 + 71)], []⟩ := by rw [hT]; exact (by kernel_rfl)
  have e3 : pureOf ⟨rw_mq0086_01.row.prog, w.params⟩ (callK ⟨rw_mq0086_01.row.prog, w.params⟩ T (.ok (.ret (.ref (n0 + 127))))) = some (.ref (n0 + 127)) := by rw [hT]; exact (by kernel_rfl)
  clear hT hy
  refine at_callC e1 e2 ?_
  intro gg l
  refine typeCallK RB ?_
  intro h2 tk2 K2 g1 g2 g3
  exact at_pure e3 (k _ _ _ (fun b o e nb => K2 b o (K0 b o e nb)) (K2 _ _ T0) g1 g2 g3 (K2 _ _ fi) (K2 _ _ fl) (K2 _ _ ci) (K2 _ _ cl))
end Mine
namespace Mine
open PySem.Challenge
set_option maxHeartbeats 0
set_option maxRecDepth 100000
/-- what the heap holds of the class K behind the call of cmp_to_key -/
structure KAt (P : Params) (h : Heap) (n0 tk tB L : Nat) : Prop where
  cls : h.get? (n0 + 127) = some (clsO1 n0 tk)
  ns : h.get? (n0 + 126) = some (ns3O P n0 tk tB)
  md : h.get? (n0 + 128) = some (mdO n0 tB)
  ini : h.get? (n0 + 83) = some (initO n0)
  lt : h.get? (n0 + 91) = some (ltO n0 L)
  ci : h.get? (n0 + 82) = some (cdO (Str.ofString "__init__") 17 (tk + 17) (n0 + 77))
  cl : h.get? (n0 + 90) = some (cdO (Str.ofString "__lt__") 20 (tk + 25) (n0 + 85))
  cell : h.IsCell (L + 1) (some (.ref 56))
theorem KAt.keeps {P : Params} {h h' : Heap} {n0 tk tB L : Nat} (X : KAt P h n0 tk tB L) (k : Kp h h') : KAt P h' n0 tk tB L :=
  ⟨k _ _ X.cls, k _ _ X.ns, k _ _ X.md, k _ _ X.ini, k _ _ X.lt, k _ _ X.ci, k _ _ X.cl, X.cell.keeps k⟩
theorem KG_ko {P : Params} {h : Heap} (B : Bas P h) {a : Addr} (e : ((KG P).lookup a).isSome = true) : h.get? a = some (ko P a) := by
  obtain ⟨o, ho⟩ := Option.isSome_iff_exists.mp e
  have h1 := (KG_ne ho).1
  have : ko P a = o := by unfold ko; rw [h1]; rfl
  rw [this]
  exact B.X a o ho
def cmpRest : List Stmt := (theDef 3).1.tail
theorem body_eq : (theDef 3).1 = clsS :: cmpRest := rfl
theorem cmpkey_call {w : World} {s : Shared} {A : Around} {Q E : Value → Shared → Prop} (B : Bas w.params s.heap) (h23 : s.heap.get? 23 = some (ko w.params 23)) (hA : A.depth < 890) (hh : A.handled = none)
   (k : ∀ h' tk n0 tk0 tB L, (∀ b o, s.heap.get? b = some o → b ≠ 23 → h'.get? b = some o) → h'.get? 23 = some (tab23 w.params n0) → KAt w.params h' n0 tk0 tB L → Q (.ref (n0 + 127)) { s with heap := h', toks := tk }) :
    wpAny (model rw_mq0086_01.row.prog w) A (call (.ref 28) [.ref 56]) Q E s := by
  refine wpAny_call ?_
  have ho := B.X 28 _ rfl
  refine call_cellsN_ret (by have : recursionLimit = 1000 := rfl; omega) ho rfl B.lim ?cd rfl ?hkind ?hnd ?_
  case hkind => exact kinds_of ⟨.inr ⟨rfl, rfl⟩, trivial⟩
  case hnd => decide
  case cd => exact codeRec_of B.X rfl
  intro h₁ tk cells F N C
  clear ho
  obtain ⟨o1, rfl, d1⟩ := C.one
  have k1 : Kp s.heap h₁ := F.keep
  have hn : h₁.Ns s.heap.objs.size (fun _ => none) := F.ns
  have hc1 : h₁.IsCell (s.heap.objs.size + 1) (some (.ref 56)) := ⟨o1, N.get (.head _), d1⟩
  have B1 : Bas w.params h₁ := B.keeps k1
  have h23' := k1 _ _ h23
  clear F N C d1
  have hL : 68 < s.heap.objs.size := Heap.lt_size (KG_ko B (a := 68) rfl)
  generalize hLe : s.heap.objs.size = L at *
  change wpAny _ (A.deeper (envK L)) (execs (theDef 3).1 (envK L)) _ _ _
  have hA1 : (A.deeper (envK L)).handled = none := hh
  have dA : (A.deeper (envK L)).depth < 900 := by show A.depth + 1 < 900; omega
  rw [body_eq, cls_eq]
  refine wpAny_execs_cons ?_
  rw [arm_exec_ClassDef]
  have Z : ∀ a, ((KG w.params).lookup a).isSome = true → h₁.get? a = some (ko w.params a) := fun a e => KG_ko B1 e
  obtain ⟨sl, h4⟩ := B1.b4
  obtain ⟨mb, hbn, hbl⟩ := B1.bl
  obtain ⟨o0, es0, ep0, h0, _⟩ := id hbn
  obtain ⟨n0, R⟩ := Rn.restart (olds := olds0 w.params o0 sl) (h := h₁) (by
    intro p hp
    simp only [olds0, List.mem_cons, List.not_mem_nil, or_false] at hp
    rcases hp with rfl | rfl | rfl | rfl | rfl | rfl | rfl
    · exact h0
    · exact Z 2 rfl
    · exact Z 3 rfl
    · exact h4
    · exact h23'
    · exact Z 27 rfl
    · exact Z 28 rfl) (Heap.lt_size (Z 68 rfl)) tk
  have lim1 := B1.lim
  have hLn : L < n0 + 69 := Nat.lt_of_lt_of_eq hn.lt R.size
  clear Z
  refine wpAny_bind (lx R .nil [] [] 0 tk (by kernel_rfl) ?_)
  clear R; intro h R
  try dsimp only
  refine wpAny_bind (wpAny_standAt ?_)
  have kh : Kp h₁ h := fun b o e => R.D.keep b o e (by rw [show away [] b = true from rfl, Bool.or_true])
  have Bh : Bas w.params h := B1.keeps kh
  refine wpAny_bind (wpAny_bind (wpAny_nsGet (hbn.keeps kh) ?_))
  rw [show mb "__build_class__" = some (.builtin "__build_class__") from hbl _ (mem_of_lookup (l := bnames) (by decide +kernel))]
  refine wpAny_pure ?_
  refine wpAny_bind (wpAny_holding ?_)
  refine wpAny_bind (wpAny_bind (spliced_cons (nm_blt (v := .type "object") (x := Str.ofString "object") Bh (by decide +kernel) (spliced_nil ?_) rfl rfl rfl rfl (by decide))))
  refine wpAny_bind (wpAny_pure ?_)
  refine wpAny_holding ?_
  refine wpAny_bind (wpAny_pure ?_)
  refine wpAny_bind (wpAny_pure ?_)
  refine wpAny_pure ?_
  try dsimp only
  refine wpAny_bind (wpAny_standAt ?_)
  refine wpAny_holding (buildK (L := L) R lim1 (Nat.lt_trans dA (by decide)) ?_)
  intro h₂ tk₂ tB K2 g0 g1 g2 g3 g4 g5 g6 g7
  try dsimp only
  have nL : L ≠ 23 := by omega
  have nL1 : L + 1 ≠ 23 := by omega
  have hn2 : h₂.Ns L (fun _ => none) := hn.at' fun o e => K2 L o e nL
  have hc2 : h₂.IsCell (L + 1) (some (.ref 56)) := by
    obtain ⟨o, q1, q2⟩ := hc1
    exact ⟨o, K2 _ _ q1 nL1, q2⟩
  have B2 : Bas w.params h₂ := B1.keep fun b o e n _ => K2 b o e n
  refine wpAny_bind (wpAny_pure ?_)
  refine wpAny_bind (wpAny_standAt ?_)
  refine wpAny_bind (wpAny_bindName ?_)
  refine wpAny_storeName_local rfl hn2 ?_ rfl
  intro h₃ hn3 hs
  have K3 : ∀ b o, h₂.get? b = some o → b ≠ L → h₃.get? b = some o := fun b o e n => hs.extBut b o n e
  have cL : L + 1 ≠ L := by omega
  have hc3 : h₃.IsCell (L + 1) (some (.ref 56)) := by
    obtain ⟨o, q1, q2⟩ := hc2
    exact ⟨o, K3 _ _ q1 cL, q2⟩
  have X : KAt w.params h₃ n0 tk tB L := ⟨K3 _ _ g1 (by show n0 + 127 ≠ L; omega), K3 _ _ g2 (by show n0 + 126 ≠ L; omega), K3 _ _ g3 (by show n0 + 128 ≠ L; omega), K3 _ _ g4 (by show n0 + 83 ≠ L; omega), K3 _ _ g5 (by show n0 + 91 ≠ L; omega), K3 _ _ g6 (by show n0 + 82 ≠ L; omega), K3 _ _ g7 (by show n0 + 90 ≠ L; omega), hc3⟩
  have KK : ∀ b o, s.heap.get? b = some o → b ≠ 23 → h₃.get? b = some o := by
    intro b o e nb
    refine K3 b o (K2 b o (k1 b o e) nb) (fun q => ?_)
    have h1 := Heap.lt_size e
    rw [hLe, q] at h1
    exact absurd h1 (Nat.lt_irrefl _)
  have n23 : (23 : Nat) ≠ L := fun q => nL q.symm
  have g0' := K3 _ _ g0 n23
  clear g1 g2 g3 g4 g5 g6 g7 K2 K3
  refine wpAny_pure ?_
  have v1 : (fun x => if x = Str.ofString "K" then some (Value.ref (n0 + 127)) else (none : Option Value)) (Str.ofString "K") = some (.ref (n0 + 127)) := by simp
  repeat' walk1
  refine nm_loc hn3 v1 ?_ rfl rfl (by decide)
  exact k _ _ _ _ _ _ KK g0' X
end Mine
namespace Mine
open PySem.Challenge
set_option maxHeartbeats 0
set_option maxRecDepth 100000
/-- the objects of the class K, as the library's rules for own classes look at them -/
def Kf (P : Params) (n0 tk tB L : Nat) : Frag := [(n0 + 127, clsO1 n0 tk), (n0 + 126, ns3O P n0 tk tB), (n0 + 128, mdO n0 tB), (n0 + 83, initO n0), (n0 + 91, ltO n0 L)]
theorem lk_ne {a b : Nat} {o : Obj} {r : Frag} (h : a ≠ b) : List.lookup a ((b, o) :: r) = List.lookup a r := by
  rw [List.lookup_cons, beq_eq_false_iff_ne.mpr h]
theorem lk_eq {a : Nat} {o : Obj} {r : Frag} : List.lookup a ((a, o) :: r) = some o := by
  rw [List.lookup_cons, beq_self_eq_true]
section
variable {P : Params} {n0 tk tB L : Nat}
theorem Kf_c : (Kf P n0 tk tB L).lookup (n0 + 127) = some (clsO1 n0 tk) := by simp [Kf]
theorem Kf_n : (Kf P n0 tk tB L).lookup (n0 + 126) = some (ns3O P n0 tk tB) := by unfold Kf; rw [lk_ne (by omega), lk_eq]
theorem Kf_m : (Kf P n0 tk tB L).lookup (n0 + 128) = some (mdO n0 tB) := by unfold Kf; rw [lk_ne (by omega), lk_ne (by omega), lk_eq]
theorem Kf_i : (Kf P n0 tk tB L).lookup (n0 + 83) = some (initO n0) := by unfold Kf; rw [lk_ne (by omega), lk_ne (by omega), lk_ne (by omega), lk_eq]
theorem Kf_l : (Kf P n0 tk tB L).lookup (n0 + 91) = some (ltO n0 L) := by unfold Kf; rw [lk_ne (by omega), lk_ne (by omega), lk_ne (by omega), lk_ne (by omega), lk_eq]
theorem Kf_in {h : Heap} (X : KAt P h n0 tk tB L) : (Kf P n0 tk tB L).In h := by
  intro a o e
  have m : ∀ {l : Frag} {a : Addr} {o : Obj}, l.lookup a = some o → (a, o) ∈ l := by
    intro l
    induction l with
    | nil => intro a o e; cases e
    | cons p r ih =>
      intro a o e
      rw [List.lookup_cons] at e
      cases h : a == p.1 with
      | true => rw [h] at e; cases e; rw [beq_iff_eq.mp h]; exact .head _
      | false => rw [h] at e; exact .tail _ (ih e)
  have := m e
  simp only [Kf, List.mem_cons, Prod.mk.injEq, List.not_mem_nil, or_false] at this
  rcases this with ⟨rfl, rfl⟩ | ⟨rfl, rfl⟩ | ⟨rfl, rfl⟩ | ⟨rfl, rfl⟩ | ⟨rfl, rfl⟩
  · exact X.cls
  · exact X.ns
  · exact X.md
  · exact X.ini
  · exact X.lt
theorem Kf_own (name : Str) : ownIn (Kf P n0 tk tB L) name (.ref (n0 + 127)) = nsIn (Kf P n0 tk tB L) (n0 + 126) name := by
  unfold ownIn; dsimp only; rw [Kf_c]; rfl
theorem Kf_ns (name : Str) : nsIn (Kf P n0 tk tB L) (n0 + 126) name = (match (ns3E P n0 tk tB).toList.find? (·.key.isStr name) with
      | some e => some (some e.val)
      | none => if (ns3E P n0 tk tB).toList.any (·.refKey) then none else some none) := by
  unfold nsIn; rw [Kf_n]; rfl
theorem Kf_find {name : Str} : findIn (Kf P n0 tk tB L) (.ref (n0 + 127)) name = alongIn (Kf P n0 tk tB L) name [.ref (n0 + 127), .type "object"] := by
  unfold findIn; dsimp only; rw [Kf_c]; rfl
theorem Kf_has {name : Str} {v : Value} (e : ((ns3E P n0 tk tB).toList.find? (·.key.isStr name)).map (·.val) = some v) : findIn (Kf P n0 tk tB L) (.ref (n0 + 127)) name = some (some v) := by
  rw [Kf_find]; unfold alongIn; rw [Kf_own, Kf_ns]
  obtain ⟨y, h1, h2⟩ := Option.map_eq_some_iff.mp e
  rw [h1, ← h2]
theorem Kf_hasNot {name : Str} {v : Value} (e : ((ns3E P n0 tk tB).toList.find? (·.key.isStr name)).isNone = true) (e2 : (ns3E P n0 tk tB).toList.any (·.refKey) = false) (e3 : fastBuiltinOwn "object" name = some v) : findIn (Kf P n0 tk tB L) (.ref (n0 + 127)) name = some (some v) := by
  rw [Kf_find]; unfold alongIn; rw [Kf_own, Kf_ns]
  rw [Option.isNone_iff_eq_none] at e
  rw [e, e2]
  show alongIn _ _ _ = _
  unfold alongIn ownIn
  dsimp only
  rw [e3]
theorem K_init : findIn (Kf P n0 tk tB L) (.ref (n0 + 127)) "__init__" = some (some (.ref (n0 + 83))) := Kf_has (by kernel_rfl)
theorem K_lt : findIn (Kf P n0 tk tB L) (.ref (n0 + 127)) "__lt__" = some (some (.ref (n0 + 91))) := Kf_has (by kernel_rfl)
theorem K_obj : findIn (Kf P n0 tk tB L) (.ref (n0 + 127)) "obj" = some (some (.ref (n0 + 128))) := Kf_has (by kernel_rfl)
theorem K_set : findIn (Kf P n0 tk tB L) (.ref (n0 + 127)) "__setattr__" = some (some (.builtin "object.__setattr__")) := Kf_hasNot (by kernel_rfl) (by kernel_rfl) (by kernel_rfl)
theorem K_get : findIn (Kf P n0 tk tB L) (.ref (n0 + 127)) "__getattribute__" = some (some (.builtin "object.__getattribute__")) := Kf_hasNot (by kernel_rfl) (by kernel_rfl) (by kernel_rfl)
theorem K_ti : typeIn (Kf P n0 tk tB L) (.ref (n0 + 83)) = some (.type "function") := by unfold typeIn; dsimp only; rw [Kf_i]; rfl
theorem K_tl : typeIn (Kf P n0 tk tB L) (.ref (n0 + 91)) = some (.type "function") := by unfold typeIn; dsimp only; rw [Kf_l]; rfl
theorem K_tm : typeIn (Kf P n0 tk tB L) (.ref (n0 + 128)) = some (.type "member_descriptor") := by unfold typeIn; dsimp only; rw [Kf_m]; rfl
theorem K_tc : typeIn (Kf P n0 tk tB L) (.ref (n0 + 127)) = some (.type "type") := by unfold typeIn; dsimp only; rw [Kf_c]; rfl
theorem K_fn : isFn (Kf P n0 tk tB L) (.ref (n0 + 91)) = true := by unfold isFn; rw [K_tl]; rfl
theorem K_cls : clsIn (Kf P n0 tk tB L) (n0 + 127) = some { name := Str.ofString "K", bases := [.type "object"], mro := [.ref (n0 + 127), .type "object"], ns := n0 + 126, qualname := Str.ofString "cmp_to_key.<locals>.K", hasDict := false, slotNames := [Str.ofString "obj"] } := by
  unfold clsIn; rw [Kf_c]; rfl
theorem K_plain : plainOver (Kf P n0 tk tB L) (n0 + 127) = true := by unfold plainOver; rw [K_cls]; rfl
theorem K_slot : slotIn (Kf P n0 tk tB L) (n0 + 128) (n0 + 127) = some 0 := by
  unfold slotIn recIn
  rw [Kf_m, K_cls]
  dsimp only [mdO]
  simp
theorem K_taker : takerIn (Kf P n0 tk tB L) (n0 + 127) "obj" = some (some (.ref (n0 + 128))) := by
  unfold takerIn
  rw [K_obj]
  have : takesIn (Kf P n0 tk tB L) (.ref (n0 + 128)) = some true := by
    unfold takesIn specialIn
    rw [K_tm]
    rfl
  show Option.map _ (takesIn _ _) = _
  rw [this]; rfl
theorem K_makes : makesIn (Kf P n0 tk tB L) (n0 + 127) = true := by
  have h1 : specialIn (Kf P n0 tk tB L) (.ref (n0 + 127)) "__call__" = some (some (.builtin "type.__call__")) := by
    unfold specialIn; rw [K_tc]; kernel_rfl
  have h2 : instIn (Kf P n0 tk tB L) (.ref (n0 + 127)) (.type "type") = some true := by
    unfold instIn; rw [K_tc]; kernel_rfl
  unfold makesIn
  rw [Kf_c, h1, h2]
  dsimp only [clsO1]
  simp
end
end Mine
namespace Mine
open PySem.Challenge
set_option maxHeartbeats 0
set_option maxRecDepth 100000
def envI (n0 L : Nat) : Env := callEnv (initF n0) L (n0 + 83)
def kObj (C dx row : Addr) : Obj := { cls := .ref C, dict := some dx, data := .plain, slots := #[some (.ref row)] }
section
local macro_rules | `(tactic| walk_at "nothing here") => `(tactic| fail)
local macro_rules | `(tactic| walk_at "eval Name") => `(tactic| first
  | (refine nm_loc (by assumption) (by first | assumption | rfl) ?_ rfl rfl (by decide)))
theorem newK_call {w : World} {s : Shared} {A : Around} {n0 tk tB L : Nat} {row : Addr} {Q E : Value → Shared → Prop} (B : Bas w.params s.heap) (X : KAt w.params s.heap n0 tk tB L) (hA : A.depth < 880)
   (k : ∀ h' tk' x dx, Kp s.heap h' → s.heap.get? x = none → h'.get? x = some (kObj (n0 + 127) dx row) → h'.get? dx = some emptyDict → Q (.ref x) { s with heap := h', toks := tk' }) :
    wpAny (model rw_mq0086_01.row.prog w) A (call (.ref (n0 + 127)) [.ref row]) Q E s := by
  refine wpAny_call ?_
  obtain ⟨h, g, d, t, os⟩ := s
  dsimp only at B X k ⊢
  have Y := Kf_in X
  refine make_core (makes_of Y K_makes) (looks_findIn Y K_init) (fun self => bind_fn Y self K_ti) (.inl rfl) ?_
  have k1 : Kp h ((h.push emptyDict).push (instObj (n0 + 127) h.objs.size)) := (Kp.push (fun _ _ e => e) _).push _
  have X1 := X.keeps k1
  have B1 := B.keeps k1
  have g1 : ((h.push emptyDict).push (instObj (n0 + 127) h.objs.size)).get? (h.objs.size + 1) = some (instObj (n0 + 127) h.objs.size) := by
    have e : h.objs.size + 1 = (h.push emptyDict).objs.size := by rw [Heap.size_push]
    rw [e]; exact Heap.get?_push_size _ rfl
  have g2 : ((h.push emptyDict).push (instObj (n0 + 127) h.objs.size)).get? h.objs.size = some emptyDict := Heap.get?_push_of_some _ (Heap.get?_push_size _ rfl)
  have hz : ((h.push emptyDict).push (instObj (n0 + 127) h.objs.size)).objs.size = h.objs.size + 2 := by rw [Heap.size_push, Heap.size_push]
  have n1 : h.get? (h.objs.size + 1) = none := Heap.get?_none_of_le (Nat.le_succ _)
  refine codeAny_call_def (fd := initF n0) (body := (mth 2).2.2.1) (binds := [(Str.ofString "self", .ref (h.objs.size + 1)), (Str.ofString "obj", .ref row)]) (by have : recursionLimit = 1000 := rfl; show A.depth + 1 < _; omega) X1.ini rfl B1.lim ?cd rfl (BindsTo.of_eq rfl) ?hcell ?hloc ?_
  case cd => exact ⟨n0 + 82, _, _, _, rfl, X1.ci, rfl, rfl⟩
  case hcell => show ∀ x ∈ (mth 2).2.2.2.names, x.2 ≠ .cell; decide
  case hloc => exact locs rfl
  intro h₂ hns k2
  clear B X
  generalize (h.push emptyDict).push (instObj (n0 + 127) h.objs.size) = h₁ at *
  change wpAny _ (Around.deeper _ (envI n0 h₁.objs.size)) (execs _ (envI n0 h₁.objs.size)) _ _ _
  have hx2 := k2 _ _ g1
  have hd2 := k2 _ _ g2
  have X2 := X1.keeps k2
  have kk : Kp h h₂ := Kp.trans k1 k2
  obtain ⟨m, hn, e1, e2⟩ : ∃ m, h₂.Ns h₁.objs.size m ∧ m (Str.ofString "self") = some (.ref (h.objs.size + 1)) ∧ m (Str.ofString "obj") = some (.ref row) := ⟨_, hns, rfl, rfl⟩
  have F : Fr h h₁.objs.size h₂ m := ⟨hn, kk, by rw [hz]; omega⟩
  have N : News h h₁.objs.size h₂ [(h.objs.size + 1, instObj (n0 + 127) h.objs.size), (h.objs.size, emptyDict)] := by
    intro p hp
    simp only [List.mem_cons, List.not_mem_nil, or_false] at hp
    rcases hp with rfl | rfl
    · exact ⟨hx2, by rw [hz]; show h.objs.size + 1 ≠ _; omega, n1⟩
    · exact ⟨hd2, by rw [hz]; show h.objs.size ≠ _; omega, Heap.get?_none_of_le (Nat.le_refl _)⟩
  clear hns k2 k1 X1 B1 g1 g2
  dsimp only
  repeat' walk1
  · refine set_slot F Y N (od := emptyDict) ⟨hx2, rfl, rfl, hd2⟩ K_set K_plain K_taker K_tm K_slot (by decide) (ox' := kObj (n0 + 127) h.objs.size row) rfl rfl (Upd.head fun p hp => by rw [List.mem_singleton.mp hp]; exact Nat.ne_of_lt (Nat.lt_succ_self _)) ?_
    intro h' F' N'
    refine wpAny_execs_nil ?_
    exact ⟨rfl, k _ _ _ _ F'.keep n1 (N' _ (.head _)).1 (N' _ (.tail _ (.head _))).1⟩
end
section
variable {P : Params} {n0 tk tB L : Nat}
theorem Kf_noAttr {name : Str} (e : ((ns3E P n0 tk tB).toList.find? (·.key.isStr name)).isNone = true) (e2 : (ns3E P n0 tk tB).toList.any (·.refKey) = false) (e3 : fastBuiltinOwn "object" name = none) : findIn (Kf P n0 tk tB L) (.ref (n0 + 127)) name = some none := by
  rw [Kf_find]; unfold alongIn; rw [Kf_own, Kf_ns]
  rw [Option.isNone_iff_eq_none] at e
  rw [e, e2]
  show alongIn _ _ _ = _
  unfold alongIn ownIn
  dsimp only
  rw [e3]
  rfl
theorem K_getattr : findIn (Kf P n0 tk tB L) (.ref (n0 + 127)) "__getattr__" = some none := Kf_noAttr (by kernel_rfl) (by kernel_rfl) (by kernel_rfl)
theorem K_pg {name : Str} : plainGet (Kf P n0 tk tB L) (n0 + 127) name = true := by
  unfold plainGet; rw [K_get, K_getattr]; rfl
theorem K_isc : isClsIn (Kf P n0 tk tB L) (n0 + 127) = true := by unfold isClsIn; rw [K_cls]; rfl
theorem K_takes : takesIn (Kf P n0 tk tB L) (.ref (n0 + 128)) = some true := by
  unfold takesIn specialIn
  rw [K_tm]
  rfl
theorem K_dget : specialIn (Kf P n0 tk tB L) (.ref (n0 + 128)) "__get__" = some (some (.builtin "member_descriptor.__get__")) := by
  unfold specialIn
  rw [K_tm]
  kernel_rfl
end
theorem get_obj {w : World} {A : Around} {s : Shared} {n0 tk tB L : Nat} {h₀ : Heap} {Lf x dx row : Addr} {m : Str → Option Value} {expr : Bool} {Q E : Value → Shared → Prop} (F : Fr h₀ Lf s.heap m) (Y : (Kf w.params n0 tk tB L).In h₀)
    (hx : s.heap.get? x = some (kObj (n0 + 127) dx row)) (hd : s.heap.get? dx = some emptyDict) (h : Q (.ref row) { s with toks := s.toks + 1 }) :
    wpAny (model rw_mq0086_01.row.prog w) A (getAttr (.ref x) (Str.ofString "obj") expr) Q E s :=
  get_slot F Y (od := emptyDict) ⟨hx, rfl, rfl, hd⟩ K_pg K_isc K_obj K_dget K_takes K_slot rfl rfl h
def envL (n0 L Lf : Nat) : Env := callEnv (ltF n0 L) Lf (n0 + 91)
section
variable {w : World} {A : Around} {E : Value → Shared → Prop} {s : Shared} {n0 L Lf : Nat} {pos : Pos} {v : Value} {Q : Value → Shared → Prop} {m : Str → Option Value}
theorem L_self (hn : s.heap.Ns Lf m) (e : m (Str.ofString "self") = some v) (h : Q v s) : wpAny (model rw_mq0086_01.row.prog w) A (eval (.Name (Str.ofString "self") pos) (envL n0 L Lf)) Q E s :=
  nm_loc (env := envL n0 L Lf) hn e h (by kernel_rfl) (by kernel_rfl) (by decide)
theorem L_other (hn : s.heap.Ns Lf m) (e : m (Str.ofString "other") = some v) (h : Q v s) : wpAny (model rw_mq0086_01.row.prog w) A (eval (.Name (Str.ofString "other") pos) (envL n0 L Lf)) Q E s :=
  nm_loc (env := envL n0 L Lf) hn e h (by kernel_rfl) (by kernel_rfl) (by decide)
theorem L_mycmp (hc : s.heap.IsCell (L + 1) (some v)) (h : Q v s) : wpAny (model rw_mq0086_01.row.prog w) A (eval (.Name (Str.ofString "mycmp") pos) (envL n0 L Lf)) Q E s :=
  nm_free (env := envL n0 L Lf) (by kernel_rfl) hc h (by kernel_rfl) (by kernel_rfl) (by decide) (by decide)
end
section
local macro_rules | `(tactic| walk_at "eval Name") => `(tactic| first
  | (refine L_self (by assumption) (by assumption) ?_)
  | (refine L_other (by assumption) (by assumption) ?_)
  | (refine L_mycmp (by assumption) ?_))
local macro_rules | `(tactic| walk_at "callWith ref") => `(tactic| (refine cw_own (by assumption) ⟨_, rfl⟩ rfl ?_ rfl))
local macro_rules | `(tactic| walk_at "nothing here") => `(tactic| fail)
local macro_rules | `(tactic| walk_at "And") => `(tactic| (refine ⟨by assumption, ?_⟩))
theorem ltK_call {w : World} {s : Shared} {A : Around} {n0 tk tB L : Nat} {x y dx dy l1 l2 : Addr} {vs1 vs2 : List Value} {n1 n2 : List Int} {Q E : Value → Shared → Prop} (B : Bas w.params s.heap) (X : KAt w.params s.heap n0 tk tB L) (hA : A.depth < 880) (hh : A.handled = none)
   (hx : s.heap.get? x = some (kObj (n0 + 127) dx l1)) (hdx : s.heap.get? dx = some emptyDict) (hy : s.heap.get? y = some (kObj (n0 + 127) dy l2)) (hdy : s.heap.get? dy = some emptyDict)
   (hl1 : s.heap.IsList l1 vs1.toArray) (hi1 : IntsAre vs1 n1) (hr1 : n1.length ≤ 5) (hl2 : s.heap.IsList l2 vs2.toArray) (hi2 : IntsAre vs2 n2) (hr2 : n2.length ≤ 5) (hp1 : 0 < n1.length) (hp2 : 0 < n2.length)
   (k : ∀ h' tk, Kp s.heap h' → Q (.bool (decide (cmpN (bareN n1) (bareN n2) < 0))) { s with heap := h', toks := tk }) :
    wpAny (model rw_mq0086_01.row.prog w) A (call (.ref (n0 + 91)) [.ref x, .ref y]) Q E s := by
  refine wpAny_call ?_
  refine codeAny_call_def (fd := ltF n0 L) (body := (mth 3).2.2.1) (binds := [(Str.ofString "self", .ref x), (Str.ofString "other", .ref y)]) (by have : recursionLimit = 1000 := rfl; omega) X.lt rfl B.lim ?cd rfl (BindsTo.of_eq rfl) ?hcell ?hloc ?_
  case cd => exact ⟨n0 + 90, _, _, _, rfl, X.cl, rfl, rfl⟩
  case hcell => show ∀ x ∈ (mth 3).2.2.2.names, x.2 ≠ .cell; decide
  case hloc => exact locs rfl
  intro h₂ hns k2
  have Y := Kf_in X
  refine wpAny_mono (E := fun _ _ => False) ?_ (fun _ _ x => x) (fun _ _ x => x.elim)
  change wpAny _ (A.deeper (envL n0 L s.heap.objs.size)) (execs _ (envL n0 L s.heap.objs.size)) _ _ _
  obtain ⟨m, hn, e1, e2⟩ : ∃ m, h₂.Ns s.heap.objs.size m ∧ m (Str.ofString "self") = some (.ref x) ∧ m (Str.ofString "other") = some (.ref y) := ⟨_, hns, rfl, rfl⟩
  have F : Fr s.heap s.heap.objs.size h₂ m := ⟨hn, k2, Nat.le_refl _⟩
  have hc := X.cell.keeps k2
  have hA1 : (A.deeper (envL n0 L s.heap.objs.size)).handled = none := hh
  have dA : (A.deeper (envL n0 L s.heap.objs.size)).depth < 890 := by show A.depth + 1 < 890; omega
  have B2 : Bas w.params h₂ := B.keeps k2
  have hx2 := k2 _ _ hx
  have hy2 := k2 _ _ hy
  have hdx2 := k2 _ _ hdx
  have hdy2 := k2 _ _ hdy
  clear hns
  dsimp only
  repeat' walk1
  refine get_obj F Y hx2 hdx2 ?_
  repeat' walk1
  refine get_obj F Y hy2 hdy2 ?_
  repeat' walk1
  refine compared_call B2 dA hA1 (hl1.at fun o e => k2 _ o e) hi1 hr1 (hl2.at fun o e => k2 _ o e) hi2 hr2 hp1 hp2 ?_
  intro h₃ tk₃ t₃ k3
  dsimp only
  repeat' walk1
  exact k _ _ (Kp.trans k2 k3)
end
end Mine
namespace Mine
set_option maxHeartbeats 1000000
/-- the sort's tree with its questions answered -/
def evT {α : Type} (lt : Nat → Nat → Bool) : KasT α → α
  | .ret a => a
  | .ask i j k => evT lt (k (lt i j))
theorem evT_bind {α β : Type} (lt : Nat → Nat → Bool) (f : α → KasT β) : ∀ t : KasT α, evT lt (t.bind f) = evT lt (f (evT lt t))
  | .ret _ => rfl
  | .ask i j k => evT_bind lt f (k (lt i j))
/-- each question of the tree is of places below N, on the road that the answers take -/
def okT {α : Type} (lt : Nat → Nat → Bool) (N : Nat) : KasT α → Prop
  | .ret _ => True
  | .ask i j k => i < N ∧ j < N ∧ okT lt N (k (lt i j))
theorem okT_bind {α β : Type} {lt : Nat → Nat → Bool} {N : Nat} {f : α → KasT β} : ∀ {t : KasT α}, okT lt N t → okT lt N (f (evT lt t)) → okT lt N (t.bind f)
  | .ret _, _, h => h
  | .ask i j k, h, h2 => ⟨h.1, h.2.1, okT_bind (t := k (lt i j)) h.2.2 h2⟩
abbrev gt (p : Array Nat) (k : Nat) : Nat := p.getD k 0
theorem gt_of {p : Array Nat} {k v : Nat} (e : p[k]? = some v) : gt p k = v := by
  unfold gt; rw [Array.getD_eq_getD_getElem?, e]; rfl
theorem gt_q (p : Array Nat) (k : Nat) : gt p k = (p[k]?).getD 0 := Array.getD_eq_getD_getElem? ..
theorem gt_rev {p : Array Nat} {i j : Nat} (hj : j ≤ p.size) (k : Nat) : gt (kas_rev p i j) k = if i ≤ k ∧ k < j then gt p (i + j - 1 - k) else gt p k := by
  rw [gt_q, kas_rev, getElem?_mirror_all hj]
  split <;> rw [gt_q]
theorem gt_bub {p : Array Nat} {s d : Nat} (hs : s < p.size) (hd : d ≤ s) (k : Nat) : gt (bubble p s d) k = if k = s - d then gt p s else if s - d < k ∧ k ≤ s then gt p (k - 1) else gt p k := by
  rw [gt_q, getElem?_bubble hs d hd]
  by_cases h1 : k = s - d
  · rw [if_pos h1, if_pos h1, gt_q]
  · rw [if_neg h1, if_neg h1]
    by_cases h2 : s - d < k ∧ k ≤ s
    · rw [if_pos h2, if_pos h2, gt_q]
    · rw [if_neg h2, if_neg h2, gt_q]
section
variable {key : Nat → Int} {N : Nat}
def R (key : Nat → Int) (i j : Nat) : Prop := key i < key j ∨ (key i = key j ∧ i < j)
def ltK (key : Nat → Int) (i j : Nat) : Bool := decide (key i < key j)
theorem R.trans {a b c : Nat} (h : R key a b) (k : R key b c) : R key a c := by
  unfold R at *; omega
/-- a state of the array: N long, a permutation, the places from n on as they were -/
structure Ar (N : Nat) (p : Array Nat) (n : Nat) : Prop where
  sz : p.size = N
  perm : p.Perm (List.range N).toArray
  lo : ∀ k, k < n → gt p k < n
  hi : ∀ k, n ≤ k → k < N → gt p k = k
theorem Ar.lt {p : Array Nat} {n k : Nat} (a : Ar N p n) (hn : n ≤ N) (hk : k < N) : gt p k < N := by
  by_cases h : k < n
  · exact Nat.lt_of_lt_of_le (a.lo k h) hn
  · rw [a.hi k (by omega) hk]; exact hk
theorem Ar.succ {p : Array Nat} {n : Nat} (a : Ar N p n) (h : n < N) : Ar N p (n + 1) :=
  ⟨a.sz, a.perm, fun k hk => by
    by_cases q : k < n
    · exact Nat.lt_succ_of_lt (a.lo k q)
    · have : k = n := by omega
      subst this; rw [a.hi k (Nat.le_refl _) h]; exact Nat.lt_succ_self _, fun k h1 h2 => a.hi k (by omega) h2⟩
theorem Ar.rev {p : Array Nat} {n i j : Nat} (a : Ar N p n) (hj : j ≤ n) (hn : n ≤ N) : Ar N (kas_rev p i j) n :=
  ⟨(kas_rev_size i j).trans a.sz, (mirror_perm _ _ _ _).trans a.perm, fun k hk => by
    rw [gt_rev (by rw [a.sz]; omega)]
    split
    · exact a.lo _ (by omega)
    · exact a.lo k hk, fun k h1 h2 => by
    rw [gt_rev (by rw [a.sz]; omega), if_neg (by omega)]; exact a.hi k h1 h2⟩
def Asc (key : Nat → Int) (p : Array Nat) (m : Nat) : Prop := ∀ a b, a < b → b < m → R key (gt p a) (gt p b)
def Desc (key : Nat → Int) (p : Array Nat) (m : Nat) : Prop := ∀ a b, a < b → b < m → R key (gt p b) (gt p a)
theorem Asc.le {p : Array Nat} {m a b : Nat} (h : Asc key p m) (hab : a ≤ b) (hb : b < m) : key (gt p a) ≤ key (gt p b) := by
  rcases Nat.lt_or_eq_of_le hab with q | rfl
  · have := h a b q hb
    unfold R at this; omega
  · exact Int.le_refl _
theorem Asc.snoc {p : Array Nat} {n : Nat} (h : Asc key p n) (a : Ar N p n) (hn : n < N) (h1 : 1 ≤ n) (q : ¬ key (gt p n) < key (gt p (n - 1))) : Asc key p (n + 1) := by
  intro x y hxy hy
  by_cases hyn : y < n
  · exact h x y hxy hyn
  · have : y = n := by omega
    subst this
    have e := a.hi y (Nat.le_refl _) hn
    have l := a.lo x hxy
    have := h.le (a := x) (b := y - 1) (by omega) (by omega)
    unfold R
    rw [e] at q ⊢
    omega
def AscOut (key : Nat → Int) (N : Nat) (p : Array Nat) (n t m : Nat) : Prop := n ≤ m ∧ m ≤ t ∧ Ar N p m ∧ Asc key p m ∧ (m < t → key (gt p m) < key (gt p (m - 1)))
theorem asc_ev {p : Array Nat} : ∀ (f n : Nat), 1 ≤ n → n + f ≤ N → Ar N p n → Asc key p n →
    okT (ltK key) N (kas_asc p f n) ∧ AscOut key N p n (n + f) (evT (ltK key) (kas_asc p f n))
  | 0, n, _, _, a, h => ⟨trivial, Nat.le_refl _, Nat.le_refl _, a, h, fun q => absurd q (Nat.lt_irrefl _)⟩
  | f + 1, n, h1, hn, a, h => by
    by_cases c : key (gt p n) < key (gt p (n - 1))
    · have e : ltK key (gt p n) (gt p (n - 1)) = true := decide_eq_true c
      refine ⟨⟨a.lt (by omega) (by omega), a.lt (by omega) (by omega), ?_⟩, ?_⟩
      · rw [e]; trivial
      · show AscOut key N p n (n + (f + 1)) (evT (ltK key) (if ltK key (gt p n) (gt p (n - 1)) = true then KasT.ret n else kas_asc p f (n + 1)))
        rw [if_pos e]
        exact ⟨Nat.le_refl _, Nat.le_add_right _ _, a, h, fun _ => c⟩
    · have e : ltK key (gt p n) (gt p (n - 1)) = false := decide_eq_false c
      have ih := asc_ev f (n + 1) (by omega) (by omega) (a.succ (by omega)) (h.snoc a (by omega) h1 c)
      refine ⟨⟨a.lt (by omega) (by omega), a.lt (by omega) (by omega), ?_⟩, ?_⟩
      · rw [e]; exact ih.1
      · show AscOut key N p n (n + (f + 1)) (evT (ltK key) (if ltK key (gt p n) (gt p (n - 1)) = true then KasT.ret n else kas_asc p f (n + 1)))
        rw [e, if_neg (by decide)]
        obtain ⟨i1, i2, i3, i4, i5⟩ := ih.2
        exact ⟨by omega, by rw [Nat.add_comm f 1, ← Nat.add_assoc]; exact i2, i3, i4, fun q => i5 (by rw [Nat.add_assoc, Nat.add_comm 1 f]; exact q)⟩
/-- the state of the descending run -/
structure De (key : Nat → Int) (p : Array Nat) (n q : Nat) : Prop where
  len : q + 1 ≤ n
  des : ∀ a b, a < b → b < n - (q + 1) → R key (gt p b) (gt p a)
  cut : ∀ a b, a < n - (q + 1) → n - (q + 1) ≤ b → b < n → key (gt p b) < key (gt p a)
  eqs : ∀ a b, n - (q + 1) ≤ a → a < b → b < n → key (gt p a) = key (gt p b) ∧ gt p a < gt p b
theorem De.turn {p : Array Nat} {n q : Nat} (d : De key p n q) (a : Ar N p n) (hn : n ≤ N) : Desc key (kas_rev p (n - (q + 1)) n) n := by
  have l := d.len
  intro x y hxy hy
  rw [gt_rev (by rw [a.sz]; exact hn), gt_rev (by rw [a.sz]; exact hn)]
  by_cases h1 : n - (q + 1) ≤ x
  · rw [if_pos ⟨by omega, hy⟩, if_pos ⟨h1, by omega⟩]
    have := d.eqs (n - (q + 1) + n - 1 - y) (n - (q + 1) + n - 1 - x) (by omega) (by omega) (by omega)
    exact .inr this
  · rw [if_neg (show ¬ (n - (q + 1) ≤ x ∧ x < n) by omega)]
    by_cases h2 : n - (q + 1) ≤ y
    · rw [if_pos ⟨h2, hy⟩]
      exact .inl (d.cut x _ (by omega) (by omega) (by omega))
    · rw [if_neg (by omega)]
      exact d.des x y hxy (by omega)
theorem De.next {p p' : Array Nat} {n q : Nat} (d : De key p n q) (h : Desc key p' n) (a' : Ar N p' n) (hn : n < N) (hk : ∀ x, x < n → ∃ y, y < n ∧ gt p' x = gt p y) (c : key n < key (gt p (n - 1))) : De key p' (n + 1) 0 := by
  have e := a'.hi n (Nat.le_refl _) hn
  have l := d.len
  refine ⟨by omega, fun x y hxy hy => h x y hxy (by omega), fun x y hx h1 h2 => ?_, fun x y h1 h2 h3 => by omega⟩
  have : y = n := by omega
  subst this
  obtain ⟨z, hz, ez⟩ := hk x (by omega)
  rw [e, ez]
  by_cases hs : y - (q + 1) ≤ z
  · by_cases hz1 : z < y - 1
    · have := (d.eqs z (y - 1) hs hz1 (by omega)).1
      omega
    · have : z = y - 1 := by omega
      rw [this]; exact c
  · have := d.cut z (y - 1) (by omega) (by omega) (by omega)
    omega
theorem De.more {p : Array Nat} {n q : Nat} (d : De key p n q) (a : Ar N p n) (hn : n < N) (c1 : ¬ key (gt p n) < key (gt p (n - 1))) (c2 : ¬ key (gt p (n - 1)) < key (gt p n)) : De key p (n + 1) (q + 1) := by
  have e := a.hi n (Nat.le_refl _) hn
  have l := d.len
  have en : n + 1 - (q + 1 + 1) = n - (q + 1) := by omega
  refine ⟨by omega, fun x y hxy hy => d.des x y hxy (by omega), fun x y hx h1 h2 => ?_, fun x y h1 h2 h3 => ?_⟩
  · by_cases hy : y < n
    · exact d.cut x y (by omega) (by omega) hy
    · have : y = n := by omega
      subst this
      have := d.cut x (y - 1) (by omega) (by omega) (by omega)
      omega
  · by_cases hy : y < n
    · exact d.eqs x y (by omega) h2 hy
    · have : y = n := by omega
      subst this
      refine ⟨?_, by rw [e]; exact a.lo x h2⟩
      by_cases hx : x < y - 1
      · have := (d.eqs x (y - 1) (by omega) hx (by omega)).1
        omega
      · have : x = y - 1 := by omega
        rw [this]; omega
def DescOut (key : Nat → Int) (N n t : Nat) (r : Array Nat × Nat × Nat) : Prop := n ≤ r.2.1 ∧ r.2.1 ≤ t ∧ Ar N r.1 r.2.1 ∧ De key r.1 r.2.1 r.2.2
theorem desc_ev : ∀ (f : Nat) (p : Array Nat) (n q : Nat), n + f ≤ N → Ar N p n → De key p n q →
    okT (ltK key) N (kas_desc f p n q) ∧ DescOut key N n (n + f) (evT (ltK key) (kas_desc f p n q))
  | 0, p, n, q, _, a, d => ⟨trivial, Nat.le_refl _, Nat.le_refl _, a, d⟩
  | f + 1, p, n, q, hn, a, d => by
    have l := d.len
    have b1 := a.lt (k := n) (by omega) (by omega)
    have b2 := a.lt (k := n - 1) (by omega) (by omega)
    have e := a.hi n (Nat.le_refl _) (by omega)
    by_cases c : key (gt p n) < key (gt p (n - 1))
    · have e1 : ltK key (gt p n) (gt p (n - 1)) = true := decide_eq_true c
      by_cases hq : q > 0
      · have ih := desc_ev f (kas_rev p (n - (q + 1)) n) (n + 1) 0 (by omega) ((a.rev (Nat.le_refl _) (by omega)).succ (by omega))
          (d.next (d.turn a (by omega)) (a.rev (Nat.le_refl _) (by omega)) (by omega) (fun x hx => by
            rw [gt_rev (by rw [a.sz]; omega)]
            split
            · exact ⟨_, by omega, rfl⟩
            · exact ⟨x, hx, rfl⟩) (by have c' := c; rw [e] at c'; exact c'))
        have ee : (if ltK key (gt p n) (gt p (n - 1)) = true then (if q > 0 then kas_desc f (kas_rev p (n - (q + 1)) n) (n + 1) 0 else kas_desc f p (n + 1) 0)
            else .ask (gt p (n - 1)) (gt p n) fun d => if d = true then .ret (p, n, q) else kas_desc f p (n + 1) (q + 1)) = kas_desc f (kas_rev p (n - (q + 1)) n) (n + 1) 0 := by rw [if_pos e1, if_pos hq]
        refine ⟨⟨b1, b2, ?_⟩, ?_⟩
        · show okT _ _ (if ltK key (gt p n) (gt p (n - 1)) = true then _ else _)
          rw [ee]; exact ih.1
        · show DescOut key N n (n + (f + 1)) (evT (ltK key) (if ltK key (gt p n) (gt p (n - 1)) = true then (if q > 0 then kas_desc f (kas_rev p (n - (q + 1)) n) (n + 1) 0 else kas_desc f p (n + 1) 0)
            else .ask (gt p (n - 1)) (gt p n) fun d => if d = true then .ret (p, n, q) else kas_desc f p (n + 1) (q + 1)))
          rw [ee]
          obtain ⟨i1, i2, i3, i4⟩ := ih.2
          exact ⟨Nat.le_of_succ_le i1, by rw [Nat.add_comm f 1, ← Nat.add_assoc]; exact i2, i3, i4⟩
      · have q0 : q = 0 := by omega
        subst q0
        have ds : Desc key p n := by
          intro x y hxy hy
          by_cases h2 : y < n - 1
          · exact d.des x y hxy (by omega)
          · exact .inl (d.cut x y (by omega) (by omega) hy)
        have ih := desc_ev f p (n + 1) 0 (by omega) (a.succ (by omega)) (d.next ds a (by omega) (fun x hx => ⟨x, hx, rfl⟩) (by have c' := c; rw [e] at c'; exact c'))
        have ee : (if ltK key (gt p n) (gt p (n - 1)) = true then (if 0 > 0 then kas_desc f (kas_rev p (n - (0 + 1)) n) (n + 1) 0 else kas_desc f p (n + 1) 0)
            else .ask (gt p (n - 1)) (gt p n) fun d => if d = true then .ret (p, n, 0) else kas_desc f p (n + 1) (0 + 1)) = kas_desc f p (n + 1) 0 := by rw [if_pos e1, if_neg (by omega)]
        refine ⟨⟨b1, b2, ?_⟩, ?_⟩
        · show okT _ _ (if ltK key (gt p n) (gt p (n - 1)) = true then _ else _)
          rw [ee]; exact ih.1
        · show DescOut key N n (n + (f + 1)) (evT (ltK key) (if ltK key (gt p n) (gt p (n - 1)) = true then (if 0 > 0 then kas_desc f (kas_rev p (n - (0 + 1)) n) (n + 1) 0 else kas_desc f p (n + 1) 0)
            else .ask (gt p (n - 1)) (gt p n) fun d => if d = true then .ret (p, n, 0) else kas_desc f p (n + 1) (0 + 1)))
          rw [ee]
          obtain ⟨i1, i2, i3, i4⟩ := ih.2
          exact ⟨Nat.le_of_succ_le i1, by rw [Nat.add_comm f 1, ← Nat.add_assoc]; exact i2, i3, i4⟩
    · have e1 : ltK key (gt p n) (gt p (n - 1)) = false := decide_eq_false c
      by_cases c2 : key (gt p (n - 1)) < key (gt p n)
      · have e2 : ltK key (gt p (n - 1)) (gt p n) = true := decide_eq_true c2
        have ee : (if ltK key (gt p n) (gt p (n - 1)) = true then (if q > 0 then kas_desc f (kas_rev p (n - (q + 1)) n) (n + 1) 0 else kas_desc f p (n + 1) 0)
            else .ask (gt p (n - 1)) (gt p n) fun d => if d = true then .ret (p, n, q) else kas_desc f p (n + 1) (q + 1)) = .ask (gt p (n - 1)) (gt p n) fun d => if d = true then .ret (p, n, q) else kas_desc f p (n + 1) (q + 1) := by rw [if_neg (by rw [e1]; decide)]
        refine ⟨⟨b1, b2, ?_⟩, ?_⟩
        · show okT _ _ (if ltK key (gt p n) (gt p (n - 1)) = true then _ else _)
          rw [ee]
          refine ⟨b2, b1, ?_⟩
          show okT _ _ (if ltK key (gt p (n - 1)) (gt p n) = true then _ else _)
          rw [if_pos e2]; trivial
        · show DescOut key N n (n + (f + 1)) (evT (ltK key) (if ltK key (gt p n) (gt p (n - 1)) = true then (if q > 0 then kas_desc f (kas_rev p (n - (q + 1)) n) (n + 1) 0 else kas_desc f p (n + 1) 0)
            else .ask (gt p (n - 1)) (gt p n) fun d => if d = true then .ret (p, n, q) else kas_desc f p (n + 1) (q + 1)))
          rw [ee]
          show DescOut key N n (n + (f + 1)) (evT (ltK key) (if ltK key (gt p (n - 1)) (gt p n) = true then .ret (p, n, q) else kas_desc f p (n + 1) (q + 1)))
          rw [if_pos e2]
          exact ⟨Nat.le_refl _, Nat.le_add_right _ _, a, d⟩
      · have e2 : ltK key (gt p (n - 1)) (gt p n) = false := decide_eq_false c2
        have ih := desc_ev f p (n + 1) (q + 1) (by omega) (a.succ (by omega)) (d.more a (by omega) c c2)
        have ee : (if ltK key (gt p n) (gt p (n - 1)) = true then (if q > 0 then kas_desc f (kas_rev p (n - (q + 1)) n) (n + 1) 0 else kas_desc f p (n + 1) 0)
            else .ask (gt p (n - 1)) (gt p n) fun d => if d = true then .ret (p, n, q) else kas_desc f p (n + 1) (q + 1)) = .ask (gt p (n - 1)) (gt p n) fun d => if d = true then .ret (p, n, q) else kas_desc f p (n + 1) (q + 1) := by rw [if_neg (by rw [e1]; decide)]
        refine ⟨⟨b1, b2, ?_⟩, ?_⟩
        · show okT _ _ (if ltK key (gt p n) (gt p (n - 1)) = true then _ else _)
          rw [ee]
          refine ⟨b2, b1, ?_⟩
          show okT _ _ (if ltK key (gt p (n - 1)) (gt p n) = true then _ else _)
          rw [e2, if_neg (by decide)]; exact ih.1
        · show DescOut key N n (n + (f + 1)) (evT (ltK key) (if ltK key (gt p n) (gt p (n - 1)) = true then (if q > 0 then kas_desc f (kas_rev p (n - (q + 1)) n) (n + 1) 0 else kas_desc f p (n + 1) 0)
            else .ask (gt p (n - 1)) (gt p n) fun d => if d = true then .ret (p, n, q) else kas_desc f p (n + 1) (q + 1)))
          rw [ee]
          show DescOut key N n (n + (f + 1)) (evT (ltK key) (if ltK key (gt p (n - 1)) (gt p n) = true then .ret (p, n, q) else kas_desc f p (n + 1) (q + 1)))
          rw [e2, if_neg (by decide)]
          obtain ⟨i1, i2, i3, i4⟩ := ih.2
          exact ⟨Nat.le_of_succ_le i1, by rw [Nat.add_comm f 1, ← Nat.add_assoc]; exact i2, i3, i4⟩
theorem Desc.turn {p : Array Nat} {n : Nat} (h : Desc key p n) (a : Ar N p n) (hn : n ≤ N) : Asc key (kas_rev p 0 n) n := by
  intro x y hxy hy
  rw [gt_rev (by rw [a.sz]; exact hn), gt_rev (by rw [a.sz]; exact hn), if_pos ⟨Nat.zero_le x, Nat.lt_trans hxy hy⟩, if_pos ⟨Nat.zero_le y, hy⟩]
  exact h _ _ (by omega) (by omega)
def Good (key : Nat → Int) (N : Nat) (r : Nat × Array Nat) : Prop := 1 ≤ r.1 ∧ r.1 ≤ N ∧ Ar N r.2 r.1 ∧ Asc key r.2 r.1
theorem tail3_ev {p : Array Nat} {n : Nat} (h1 : 1 ≤ n) (hn : n ≤ N) (a : Ar N p n) (h : Desc key p n) : okT (ltK key) N (kas_tail3 n N p) ∧ Good key N (evT (ltK key) (kas_tail3 n N p)) := by
  have z := asc_ev (key := key) (p := kas_rev p 0 n) (N - n) n h1 (by omega) (a.rev (Nat.le_refl _) hn) (h.turn a hn)
  unfold kas_tail3
  rw [evT_bind]
  obtain ⟨i1, i2, i3, i4, _⟩ := z.2
  exact ⟨okT_bind z.1 trivial, by show 1 ≤ evT _ _; omega, by show evT _ _ ≤ N; omega, i3, i4⟩
theorem descPart_ev {p : Array Nat} {n : Nat} (h1 : 1 ≤ n) (hn : n < N) (a : Ar N p n) (h : Desc key p n) (hk : ∀ x, x < n → key n < key (gt p x)) : okT (ltK key) N (kas_descPart n N p) ∧ Good key N (evT (ltK key) (kas_descPart n N p)) := by
  have e := a.hi n (Nat.le_refl _) hn
  have d : De key p (n + 1) 0 := ⟨by omega, fun x y hxy hy => h x y hxy (by omega), fun x y hx q1 q2 => by
    have : y = n := by omega
    subst this
    rw [e]; exact hk x (by omega), fun x y q1 q2 q3 => by omega⟩
  have z := desc_ev (key := key) (N - (n + 1)) p (n + 1) 0 (by omega) (a.succ hn) d
  unfold kas_descPart
  rw [evT_bind]
  obtain ⟨i1, i2, i3, i4⟩ := z.2
  have z1 := z.1
  generalize er : evT (ltK key) (kas_desc (N - (n + 1)) p (n + 1) 0) = r at *
  obtain ⟨p', m, q⟩ := r
  dsimp only at *
  have l := i4.len
  have t : okT (ltK key) N (if q > 0 then kas_tail3 m N (kas_rev p' (m - (q + 1)) m) else kas_tail3 m N p') ∧ Good key N (evT (ltK key) (if q > 0 then kas_tail3 m N (kas_rev p' (m - (q + 1)) m) else kas_tail3 m N p')) := by
    by_cases hq : q > 0
    · rw [if_pos hq]
      exact tail3_ev (by omega) (by omega) (i3.rev (Nat.le_refl _) (by omega)) (i4.turn i3 (by omega))
    · rw [if_neg hq]
      refine tail3_ev (by omega) (by omega) i3 ?_
      have q0 : q = 0 := by omega
      subst q0
      intro x y hxy hy
      by_cases h2 : y < m - 1
      · exact i4.des x y hxy (by omega)
      · exact .inl (i4.cut x y (by omega) (by omega) hy)
  exact ⟨okT_bind z1 (by rw [er]; exact t.1), t.2⟩
theorem count_ev (hN : 2 ≤ N) : okT (ltK key) N (kas_count N (List.range N).toArray) ∧ Good key N (evT (ltK key) (kas_count N (List.range N).toArray)) := by
  have g0 : ∀ k, k < N → gt (List.range N).toArray k = k := fun k hk => gt_of (by simp [hk])
  have a0 : Ar N (List.range N).toArray 1 := ⟨by simp, Array.Perm.refl _, fun k hk => by rw [g0 k (by omega)]; exact hk, fun k _ h2 => g0 k h2⟩
  have z := asc_ev (key := key) (p := (List.range N).toArray) (N - 1) 1 (Nat.le_refl _) (by omega) a0 (fun x y h1 h2 => by omega)
  unfold kas_count
  rw [evT_bind]
  obtain ⟨i1, i2, i3, i4, i5⟩ := z.2
  have z1 := z.1
  generalize hp : (List.range N).toArray = p at *
  generalize er : evT (ltK key) (kas_asc p (N - 1) 1) = n at *
  have t : okT (ltK key) N (if (n == N) = true then KasT.ret (n, p) else if n > 1 then KasT.ask (p.getD 0 0) (p.getD (n - 1) 0) fun c => if c = true then KasT.ret (n, p) else kas_descPart n N (kas_rev p 0 n) else kas_descPart n N p) ∧
      Good key N (evT (ltK key) (if (n == N) = true then KasT.ret (n, p) else if n > 1 then KasT.ask (p.getD 0 0) (p.getD (n - 1) 0) fun c => if c = true then KasT.ret (n, p) else kas_descPart n N (kas_rev p 0 n) else kas_descPart n N p)) := by
    by_cases hn : n = N
    · rw [if_pos (beq_iff_eq.mpr hn)]
      exact ⟨trivial, i1, by show n ≤ N; omega, i3, i4⟩
    · rw [if_neg (by rw [beq_iff_eq]; exact hn)]
      have c := i5 (by omega)
      have e := i3.hi n (Nat.le_refl _) (by omega)
      rw [e] at c
      have rv : Ar N (kas_rev p 0 n) n := i3.rev (Nat.le_refl _) (by omega)
      by_cases h1 : n > 1
      · rw [if_pos h1]
        have b1 := i3.lt (k := 0) (by omega) (by omega)
        have b2 := i3.lt (k := n - 1) (by omega) (by omega)
        by_cases c1 : key (gt p 0) < key (gt p (n - 1))
        · have e1 : ltK key (gt p 0) (gt p (n - 1)) = true := decide_eq_true c1
          refine ⟨⟨b1, b2, ?_⟩, ?_⟩
          · show okT _ _ (if ltK key (gt p 0) (gt p (n - 1)) = true then _ else _)
            rw [if_pos e1]; trivial
          · show Good key N (evT _ (if ltK key (gt p 0) (gt p (n - 1)) = true then _ else _))
            rw [if_pos e1]
            exact ⟨i1, by show n ≤ N; omega, i3, i4⟩
        · have e1 : ltK key (gt p 0) (gt p (n - 1)) = false := decide_eq_false c1
          have eqs : ∀ x, x < n → key (gt p x) = key (gt p (n - 1)) := fun x hx => by
            have q1 := i4.le (a := 0) (b := x) (by omega) hx
            have q2 := i4.le (a := x) (b := n - 1) (by omega) (by omega)
            omega
          have D : Desc key (kas_rev p 0 n) n := by
            intro x y hxy hy
            rw [gt_rev (by rw [i3.sz]; omega), gt_rev (by rw [i3.sz]; omega), if_pos ⟨Nat.zero_le y, hy⟩, if_pos ⟨Nat.zero_le x, Nat.lt_trans hxy hy⟩]
            exact i4 _ _ (by omega) (by omega)
          have K : ∀ x, x < n → key n < key (gt (kas_rev p 0 n) x) := by
            intro x hx
            rw [gt_rev (by rw [i3.sz]; omega), if_pos ⟨Nat.zero_le x, hx⟩, eqs _ (by omega)]
            exact c
          have z := descPart_ev (by omega) (by omega) rv D K
          refine ⟨⟨b1, b2, ?_⟩, ?_⟩
          · show okT _ _ (if ltK key (gt p 0) (gt p (n - 1)) = true then _ else _)
            rw [e1, if_neg (by decide)]; exact z.1
          · show Good key N (evT _ (if ltK key (gt p 0) (gt p (n - 1)) = true then _ else _))
            rw [e1, if_neg (by decide)]; exact z.2
      · rw [if_neg h1]
        have n1 : n = 1 := by omega
        subst n1
        refine descPart_ev (by omega) (by omega) i3 (fun x y h1 h2 => by omega) (fun x hx => ?_)
        have : x = 0 := by omega
        subst this
        exact c
  exact ⟨okT_bind z1 (by rw [er]; exact t.1), t.2⟩
theorem place_ev {p : Array Nat} {k : Nat} (a : Ar N p k) (hk : k < N) (h : Asc key p k) : ∀ (f l r : Nat), l ≤ r → r ≤ k → r - l ≤ f → (∀ x, x < l → key (gt p x) ≤ key k) → (∀ x, r ≤ x → x < k → key k < key (gt p x)) →
    okT (ltK key) N (kas_place p k f l r) ∧ (evT (ltK key) (kas_place p k f l r) ≤ k ∧ (∀ x, x < evT (ltK key) (kas_place p k f l r) → key (gt p x) ≤ key k) ∧ ∀ x, evT (ltK key) (kas_place p k f l r) ≤ x → x < k → key k < key (gt p x))
  | 0, l, r, h1, h2, h3, hl, hr => by
    have : l = r := by omega
    subst this
    exact ⟨trivial, h2, hl, hr⟩
  | f + 1, l, r, h1, h2, h3, hl, hr => by
    unfold kas_place
    by_cases c : l ≥ r
    · have : l = r := by omega
      subst this
      rw [if_pos c]
      exact ⟨trivial, h2, hl, hr⟩
    · rw [if_neg c]
      have e := a.hi k (Nat.le_refl _) hk
      have b1 := a.lt (k := k) (by omega) hk
      have b2 := a.lt (k := (l + r) / 2) (by omega) (by omega)
      by_cases c1 : key (gt p k) < key (gt p ((l + r) / 2))
      · have e1 : ltK key (gt p k) (gt p ((l + r) / 2)) = true := decide_eq_true c1
        have ih := place_ev a hk h f l ((l + r) / 2) (by omega) (by omega) (by omega) hl (fun x q1 q2 => by
          have := h.le (a := (l + r) / 2) (b := x) q1 q2
          rw [e] at c1; omega)
        refine ⟨⟨b1, b2, ?_⟩, ?_⟩
        · show okT _ _ (if ltK key (gt p k) (gt p ((l + r) / 2)) = true then _ else _)
          rw [if_pos e1]; exact ih.1
        · show (evT _ (if ltK key (gt p k) (gt p ((l + r) / 2)) = true then _ else _) ≤ k ∧ (∀ x, x < evT _ (if ltK key (gt p k) (gt p ((l + r) / 2)) = true then _ else _) → _) ∧ ∀ x, evT _ (if ltK key (gt p k) (gt p ((l + r) / 2)) = true then _ else _) ≤ x → _)
          rw [if_pos e1]; exact ih.2
      · have e1 : ltK key (gt p k) (gt p ((l + r) / 2)) = false := decide_eq_false c1
        have ih := place_ev a hk h f ((l + r) / 2 + 1) r (by omega) (by omega) (by omega) (fun x q1 => by
          have := h.le (a := x) (b := (l + r) / 2) (by omega) (by omega)
          rw [e] at c1; omega) hr
        refine ⟨⟨b1, b2, ?_⟩, ?_⟩
        · show okT _ _ (if ltK key (gt p k) (gt p ((l + r) / 2)) = true then _ else _)
          rw [e1, if_neg (by decide)]; exact ih.1
        · show (evT _ (if ltK key (gt p k) (gt p ((l + r) / 2)) = true then _ else _) ≤ k ∧ (∀ x, x < evT _ (if ltK key (gt p k) (gt p ((l + r) / 2)) = true then _ else _) → _) ∧ ∀ x, evT _ (if ltK key (gt p k) (gt p ((l + r) / 2)) = true then _ else _) ≤ x → _)
          rw [e1, if_neg (by decide)]; exact ih.2
theorem Asc.put {p : Array Nat} {k l : Nat} (h : Asc key p k) (a : Ar N p k) (hk : k < N) (hl : l ≤ k) (h1 : ∀ x, x < l → key (gt p x) ≤ key k) (h2 : ∀ x, l ≤ x → x < k → key k < key (gt p x)) :
    Asc key (bubble p k (k - l)) (k + 1) ∧ Ar N (bubble p k (k - l)) (k + 1) := by
  have e := a.hi k (Nat.le_refl _) hk
  have g : ∀ x, gt (bubble p k (k - l)) x = if x = l then k else if l < x ∧ x ≤ k then gt p (x - 1) else gt p x := fun x => by
    rw [gt_bub (by rw [a.sz]; exact hk) (by omega), show k - (k - l) = l by omega, e]
  have lo : ∀ x, x < k → gt p x < k := a.lo
  refine ⟨fun x y hxy hy => ?_, ⟨(bubble_size _ _ _).trans a.sz, (bubble_perm _ _ _).trans a.perm, fun x hx => ?_, fun x q1 q2 => ?_⟩⟩
  · rw [g, g]
    by_cases x1 : x = l
    · rw [if_pos x1, if_neg (by omega), if_pos ⟨by omega, by omega⟩]
      exact .inl (h2 _ (by omega) (by omega))
    · rw [if_neg x1]
      by_cases y1 : y = l
      · rw [if_pos y1, if_neg (by omega)]
        have q := h1 x (by omega)
        have := lo x (by omega)
        unfold R; omega
      · rw [if_neg y1]
        by_cases x2 : l < x ∧ x ≤ k
        · rw [if_pos x2, if_pos ⟨by omega, by omega⟩]
          exact h _ _ (by omega) (by omega)
        · rw [if_neg x2]
          by_cases y2 : l < y ∧ y ≤ k
          · rw [if_pos y2]; exact h _ _ (by omega) (by omega)
          · rw [if_neg y2]; exact h _ _ (by omega) (by omega)
  · rw [g]
    by_cases x1 : x = l
    · rw [if_pos x1]; exact Nat.lt_succ_self _
    · rw [if_neg x1]
      by_cases x2 : l < x ∧ x ≤ k
      · rw [if_pos x2]; exact Nat.lt_succ_of_lt (lo _ (by omega))
      · rw [if_neg x2]; exact Nat.lt_succ_of_lt (lo _ (by omega))
  · rw [g, if_neg (by omega), if_neg (by omega)]
    exact a.hi x (by omega) q2
theorem bin_ev : ∀ (f k : Nat) (p : Array Nat), k + f = N → Ar N p k → Asc key p k → okT (ltK key) N (kas_bin f p k) ∧ Ar N (evT (ltK key) (kas_bin f p k)) N ∧ Asc key (evT (ltK key) (kas_bin f p k)) N
  | 0, k, p, hN, a, h => by
    have : k = N := by omega
    subst this
    exact ⟨trivial, a, h⟩
  | f + 1, k, p, hN, a, h => by
    have z := place_ev a (by omega) h k 0 k (Nat.zero_le _) (Nat.le_refl _) (by omega) (fun x hx => by omega) (fun x q1 q2 => by omega)
    unfold kas_bin
    rw [evT_bind]
    obtain ⟨z1, z2, z3, z4⟩ := z
    generalize er : evT (ltK key) (kas_place p k k 0 k) = l at *
    have y := h.put a (by omega) z2 z3 z4
    have ih := bin_ev f (k + 1) _ (by omega) y.2 y.1
    exact ⟨okT_bind z1 (by rw [er]; exact ih.1), ih.2⟩
theorem sort_ev (hN : 2 ≤ N) : okT (ltK key) N (kas_sort N) ∧ Ar N (evT (ltK key) (kas_sort N)) N ∧ Asc key (evT (ltK key) (kas_sort N)) N := by
  have z := count_ev (key := key) hN
  unfold kas_sort
  rw [evT_bind]
  obtain ⟨z1, z2⟩ := z
  generalize er : evT (ltK key) (kas_count N (List.range N).toArray) = r at *
  obtain ⟨m, p⟩ := r
  obtain ⟨h1, h2, h3, h4⟩ := z2
  dsimp only at *
  have em : max m 1 = m := Nat.max_eq_left h1
  have t : okT (ltK key) N (if m < N then kas_bin (N - max m 1) p (max m 1) else .ret p) ∧ Ar N (evT (ltK key) (if m < N then kas_bin (N - max m 1) p (max m 1) else .ret p)) N ∧ Asc key (evT (ltK key) (if m < N then kas_bin (N - max m 1) p (max m 1) else .ret p)) N := by
    by_cases c : m < N
    · rw [if_pos c, em]
      exact bin_ev (N - m) m p (by omega) h3 h4
    · rw [if_neg c]
      have : m = N := by omega
      subst this
      exact ⟨trivial, h3, h4⟩
  exact ⟨okT_bind z1 (by rw [er]; exact t.1), t.2⟩
/-- the order that the sort gives, as a list: the numbers below N, each once, in the stable order -/
theorem sort_list (hN : 2 ≤ N) : (evT (ltK key) (kas_sort N)).toList.Perm (List.range N) ∧ (evT (ltK key) (kas_sort N)).toList.Pairwise (R key) := by
  obtain ⟨_, a, h⟩ := sort_ev (key := key) hN
  refine ⟨Array.perm_iff_toList_perm.mp a.perm, ?_⟩
  rw [List.pairwise_iff_getElem]
  intro i j hi hj hij
  have hj' : j < N := by rw [← a.sz]; simpa using hj
  have q := h i j hij hj'
  have g : ∀ k (hk : k < (evT (ltK key) (kas_sort N)).toList.length), gt (evT (ltK key) (kas_sort N)) k = (evT (ltK key) (kas_sort N)).toList[k] := fun k hk => gt_of (by
    rw [Array.getElem_toList]; exact Array.getElem?_eq_getElem _)
  rw [g i hi, g j hj] at q
  exact q
theorem R_unique {l m : List Nat} (h : l.Perm m) (hl : l.Pairwise (R key)) (hm : m.Pairwise (R key)) : l = m :=
  h.eq_of_pairwise (fun a b _ _ h1 h2 => by unfold R at *; omega) hl hm
end
end Mine
namespace Mine
open PySem.Challenge
set_option maxHeartbeats 0
set_option maxRecDepth 100000
/-- a tree of questions, each answered by lt -/
theorem kas_answer {α : Type} {N : Nat} {lt : Nat → Nat → Bool} {I : Shared → Prop} {cmp : Nat → Nat → (Bool → Shared → Prop) → Shared → Prop}
    (hc : ∀ i j C s, i < N → j < N → I s → (∀ s', I s' → C (lt i j) s') → cmp i j C s) : ∀ (t : KasT α) (Q : α → Shared → Prop) (s : Shared), okT lt N t → I s → (∀ s', I s' → Q (evT lt t) s') → t.kasWp cmp Q s
  | .ret a, _, s, _, hi, h => h s hi
  | .ask i j k, Q, s, ho, hi, h => hc i j _ s ho.1 ho.2.1 hi fun s' hi' => kas_answer hc (k (lt i j)) Q s' ho.2.2 hi' h
/-- the rows in a heap -/
def RowsAt (h : Heap) (vs : List Value) (nss : List (List Int)) : Prop :=
  vs.length = nss.length ∧ ∀ (i : Nat) n, nss[i]? = some n → ∃ l ws, vs[i]? = some (.ref l) ∧ h.IsList l (List.toArray ws) ∧ IntsAre ws n ∧ n.length ≤ 5 ∧ 0 < n.length
theorem RowsAt.keeps {h h' : Heap} {vs : List Value} {nss : List (List Int)} (r : RowsAt h vs nss) (k : Kp h h') : RowsAt h' vs nss :=
  ⟨r.1, fun i n e => let ⟨l, ws, a, b, c⟩ := r.2 i n e; ⟨l, ws, a, b.at fun o e => k _ o e, c⟩⟩
/-- the keys made so far -/
def KeysAt (h : Heap) (C : Addr) (ks : List Value) (vs : List Value) : Prop :=
  ∀ (i : Nat) v, ks[i]? = some v → ∃ x dx l, v = .ref x ∧ vs[i]? = some (.ref l) ∧ h.get? x = some (kObj C dx l) ∧ h.get? dx = some emptyDict
theorem KeysAt.keeps2 {h h' : Heap} {C kS a : Addr} {ks vs : List Value} {x1 x2 : Array Value} {e1 e2 : Nat} (K : KeysAt h C ks vs) (hk : h.get? kS = some (seqObj "list" x1 e1)) (ha : h.get? a = some (seqObj "list" x2 e2))
    (k : ∀ b o, b ≠ kS → b ≠ a → h.get? b = some o → h'.get? b = some o) : KeysAt h' C ks vs := by
  intro i v e
  obtain ⟨x, dx, l, a1, a2, a3, a4⟩ := K i v e
  refine ⟨x, dx, l, a1, a2, k x _ ?_ ?_ a3, k dx _ ?_ ?_ a4⟩
  · rintro rfl; rw [hk] at a3; cases a3
  · rintro rfl; rw [ha] at a3; cases a3
  · rintro rfl; have q := congrArg Obj.data (Option.some.inj (hk.symm.trans a4)); cases q
  · rintro rfl; have q := congrArg Obj.data (Option.some.inj (ha.symm.trans a4)); cases q
theorem KeysAt.keeps {h h' : Heap} {C : Addr} {ks vs : List Value} (K : KeysAt h C ks vs) (k : Kp h h') : KeysAt h' C ks vs := by
  intro i v e
  obtain ⟨x, dx, l, a1, a2, a3, a4⟩ := K i v e
  exact ⟨x, dx, l, a1, a2, k _ _ a3, k _ _ a4⟩
section
variable {w : World} {A : Around} {E : Value → Shared → Prop} {s : Shared} {h₀ : Heap} {a kS : Addr} {vs : List Value} {keys : Array Value} {e e1 : Nat} {P : PySem.Fin → Shared → Prop}
theorem srt_tail {st : SortSt} {out : Array Value} (hk : s.heap.get? kS = some (seqObj "list" keys e)) (ha : s.heap.get? a = some (seqObj "list" #[] e1)) (hka : kS ≠ a) (hz : keys.size ≤ 64) (hz2 : out.size ≤ 64) (hf : failedOf st = none) (ho : (arrOf st).map (·.2) = out)
    (k : ∀ h' c, (∀ b o, b ≠ kS → b ≠ a → s.heap.get? b = some o → h'.get? b = some o) → h'.get? a = some (seqObj "list" out c) → P (.done (.ret .none)) { s with heap := h' }) :
    wpAny (model rw_mq0086_01.row.prog w) A (ksk_tail a false e1 (.ref kS) st) P E s := by
  have s1 := Heap.SameBut.update s.heap kS (Obj.mapSeq fun _ => (#[] : Array Value))
  have na1 : (s.heap.update kS (Obj.mapSeq fun _ => (#[] : Array Value))).get? a = some (seqObj "list" #[] e1) := (s1.2 a hka.symm).trans ha
  have s2 := Heap.SameBut.update (s.heap.update kS (Obj.mapSeq fun _ => (#[] : Array Value))) a (Obj.mapSeq fun _ => out)
  obtain ⟨c2, hc2⟩ : ∃ c2, ((s.heap.update kS (Obj.mapSeq fun _ => (#[] : Array Value))).update a (Obj.mapSeq fun _ => out)).get? a = some (seqObj "list" out c2) := ⟨_, get?_update_seq na1 fun _ => out⟩
  unfold ksk_tail
  try dsimp only
  refine wpAny_bind (listUpdate_at hk rfl ?_ (by rw [sizeLine_eq]; omega) (Nat.zero_le _))
  refine wpAny_bind (wpAny_letGo ?_)
  refine wpAny_bind (seqEpoch_at na1 rfl ?_)
  rw [ho]
  refine wpAny_bind (listUpdate_at na1 rfl ?_ (Nat.zero_le _) (by show out.size ≤ _; rw [sizeLine_eq]; omega))
  rw [hf]
  simp only [bne_self_eq_false, Bool.false_eq_true, if_false]
  exact wpAny_pure (k _ c2 (fun b o n1 n2 q => (s2.2 b n2).trans ((s1.2 b n1).trans q)) hc2)
/-- one question of the sort -/
theorem cmpK {n0 tk tB L : Nat} {nss : List (List Int)} {key : Nat → Int} (B : Bas w.params s.heap) (X : KAt w.params s.heap n0 tk tB L) (hA : A.depth < 880) (hu : A.units < cLine) (hh : A.handled = none)
    (hr : RowsAt s.heap vs nss) (hK : KeysAt s.heap (n0 + 127) keys.toList vs) (hn : keys.size = vs.length)
    (hkey : ∀ i j, i < vs.length → j < vs.length → decide (cmpN (bareN (nss.getD i [])) (bareN (nss.getD j [])) < 0) = ltK key i j)
    {i j : Nat} {C : Bool → Shared → Prop} (hi : i < vs.length) (hj : j < vs.length) (h : ∀ h' tk, Kp s.heap h' → C (ltK key i j) { s with heap := h', toks := tk }) :
    kas_cmp rw_mq0086_01.row.prog w A oneType' (keys.zip vs.toArray) i j C s := by
  have it : ∀ k, k < vs.length → ∃ v, keys.toList[k]? = some v ∧ (kas_item (keys.zip vs.toArray) k).1 = v := by
    intro k hk
    have h1 : k < keys.size := by omega
    have h2 : k < (keys.zip vs.toArray).size := by simp [hn, hk]
    refine ⟨keys[k], by simp [h1], ?_⟩
    unfold kas_item
    rw [Array.getD_eq_getD_getElem?, Array.getElem?_eq_getElem h2]
    simp
  obtain ⟨v1, e1, f1⟩ := it i hi
  obtain ⟨v2, e2, f2⟩ := it j hj
  obtain ⟨x, dx, l1, rfl, r1, hx, hdx⟩ := hK i v1 e1
  obtain ⟨y, dy, l2, rfl, r2, hy, hdy⟩ := hK j v2 e2
  have g : ∀ k, k < vs.length → nss[k]? = some (nss.getD k []) := by
    intro k hk
    have : k < nss.length := by rw [← hr.1]; exact hk
    rw [List.getD_eq_getElem?_getD, List.getElem?_eq_getElem this]; rfl
  obtain ⟨l1', ws1, q1, p1, i1, b1, c1⟩ := hr.2 i _ (g i hi)
  obtain ⟨l2', ws2, q2, p2, i2, b2, c2⟩ := hr.2 j _ (g j hj)
  rw [r1] at q1; cases q1
  rw [r2] at q2; cases q2
  unfold kas_cmp
  rw [f1, f2, keyLt'_oneType, oneLt'_eq]
  simp only [if_true]
  refine wpAny_bind (wpAny_cRoomFor hu ?_)
  refine wpAny_bind (ifBound_K (Kf_in X) (od := some emptyDict) ⟨hx, rfl, rfl, hdx⟩ K_lt K_fn (ltK_call B X hA hh hx hdx hy hdy p1 i1 b1 p2 i2 b2 c1 c2 ?_))
  intro h' tk' kk
  refine wpAny_truthy_bool ?_
  rw [hkey i j hi hj]
  exact h h' tk' kk
theorem srt_end {n0 tk tB L : Nat} {nss : List (List Int)} {key : Nat → Int} (B : Bas w.params s.heap) (X : KAt w.params s.heap n0 tk tB L) (hA : A.depth < 880) (hu : A.units < cLine) (hh : A.handled = none)
    (hr : RowsAt s.heap vs nss) (hK : KeysAt s.heap (n0 + 127) keys.toList vs) (hn : keys.size = vs.length)
    (hkey : ∀ i j, i < vs.length → j < vs.length → decide (cmpN (bareN (nss.getD i [])) (bareN (nss.getD j [])) < 0) = ltK key i j)
    (h2 : 2 ≤ vs.length) (h64 : vs.length < 64)
    (hk : s.heap.get? kS = some (seqObj "list" keys e)) (ha : s.heap.get? a = some (seqObj "list" #[] e1)) (hka : kS ≠ a)
    (k : ∀ h' c tk', (∀ b o, b ≠ kS → b ≠ a → s.heap.get? b = some o → h'.get? b = some o) → h'.get? a = some (seqObj "list" (List.toArray ((evT (ltK key) (kas_sort vs.length)).toList.map fun i => vs.getD i .none)) c) → P (.done (.ret .none)) { s with heap := h', toks := tk' }) :
    wpAny (model rw_mq0086_01.row.prog w) A (ksk_end a false vs.toArray e1 (.ref kS) keys) P E s := by
  have hz : (keys.zip vs.toArray).size = vs.length := by simp [hn]
  unfold ksk_end
  simp only [Bool.false_eq_true, if_false]
  rw [if_neg (by rw [List.size_toArray]; omega), if_neg (by rw [List.size_toArray]; omega)]
  have ek : keys = List.toArray keys.toList := by simp
  rw [show keyKind' keys = keyKind' (List.toArray keys.toList) from congrArg keyKind' ek]
  refine wpAny_bind (kas_kind (T := .ref (n0 + 127)) (by rw [Array.length_toList]; omega) (fun v hv => ?_) rfl (beq_self_eq_true _) ?_)
  · obtain ⟨i, hi⟩ := List.mem_iff_getElem?.mp hv
    obtain ⟨x, dx, l, rfl, _, hx, hdx⟩ := hK i v hi
    exact InstAt.type (od := some emptyDict) ⟨hx, rfl, rfl, hdx⟩
  have est : SortSt.mk' oneType' (keys.zip vs.toArray) #[] 7 none = kas_st oneType' (keys.zip vs.toArray) (List.toArray (List.range vs.length)) := by
    have := kas_range (keys.zip vs.toArray)
    rw [hz] at this
    show _ = SortSt.mk' oneType' ((List.toArray (List.range vs.length)).map (kas_item (keys.zip vs.toArray))) #[] 7 none
    rw [this]
  rw [est]
  have sv := sort_ev (key := key) h2
  have run := kas_runs (prog := rw_mq0086_01.row.prog) (w := w) (A := A) (E := E) (κ := oneType') (it := keys.zip vs.toArray) (n := vs.length) (s := s)
    (Q := fun _ st' s' => arrOf st' = (evT (ltK key) (kas_sort vs.length)).map (kas_item (keys.zip vs.toArray)) ∧ failedOf st' = none ∧ ∃ h' tk', s' = { s with heap := h', toks := tk' } ∧ Kp s.heap h')
    (G := fun p s' => p = evT (ltK key) (kas_sort vs.length) ∧ ∃ h' tk', s' = { s with heap := h', toks := tk' } ∧ Kp s.heap h')
    h2 h64 (fun p' st' s' a1 a2 a3 a4 => ⟨by rw [a2, a4.1], a3, a4.2⟩)
    (kas_answer (I := fun s' => ∃ h' tk', s' = { s with heap := h', toks := tk' } ∧ Kp s.heap h') (lt := ltK key) (N := vs.length) (fun i j C s' hi hj hI hC => by
      obtain ⟨h', tk', rfl, kk⟩ := hI
      exact cmpK (B.keeps kk) (X.keeps kk) hA hu hh (hr.keeps kk) (hK.keeps kk) hn hkey hi hj fun h'' tk'' k2 => hC _ ⟨h'', tk'', rfl, Kp.trans kk k2⟩)
      _ _ _ sv.1 ⟨s.heap, s.toks, rfl, fun _ _ e => e⟩ fun s' hI => ⟨rfl, hI⟩)
  refine wpAny_bind (wpAny_mono run ?_ fun _ _ e => e)
  rintro ⟨⟨⟩, st'⟩ s' ⟨har, hf, h', tk', rfl, kk⟩
  dsimp only
  have hout : (arrOf st').map (·.2) = List.toArray ((evT (ltK key) (kas_sort vs.length)).toList.map fun i => vs.getD i .none) := by
    apply Array.toList_inj.mp
    rw [har, Array.map_map, Array.toList_map]
    refine List.map_congr_left fun i hi => ?_
    show (kas_item (keys.zip vs.toArray) i).2 = vs.getD i .none
    have hi' : i < vs.length := List.mem_range.mp ((sort_list (key := key) h2).1.mem_iff.mp hi)
    unfold kas_item
    rw [Array.getD_eq_getD_getElem?, Array.getElem?_eq_getElem (by rw [hz]; exact hi')]
    simp [List.getD_eq_getElem?_getD, hi']
  have hsz : (List.toArray ((evT (ltK key) (kas_sort vs.length)).toList.map fun i => vs.getD i .none)).size = vs.length := by
    rw [List.size_toArray, List.length_map, Array.length_toList]; exact sv.2.1.sz
  exact srt_tail (s := { s with heap := h', toks := tk' }) (kk _ _ hk) (kk _ _ ha) hka (by omega) (by rw [hsz]; omega) hf hout fun h'' c q1 q2 => k h'' c tk' (fun b o n1 n2 e => q1 b o n1 n2 (kk _ _ e)) q2
theorem srt_rest {hb : Heap} {n0 tk tB L : Nat} {nss : List (List Int)} {key : Nat → Int} (kb : Kp hb s.heap) (nk : hb.get? kS = none) (na : hb.get? a = none) (B : Bas w.params hb) (X : KAt w.params hb n0 tk tB L) (hA : A.depth < 880) (hu : A.units < cLine) (hh : A.handled = none)
    (hr : RowsAt hb vs nss)
    (hkey : ∀ i j, i < vs.length → j < vs.length → decide (cmpN (bareN (nss.getD i [])) (bareN (nss.getD j [])) < 0) = ltK key i j)
    (h2 : 2 ≤ vs.length) (h64 : vs.length < 64)
    (hk : s.heap.get? kS = some (seqObj "list" #[] 0)) (ha : s.heap.get? a = some (seqObj "list" #[] e1)) (hka : kS ≠ a)
    (k : ∀ h' c tk', Kp hb h' → h'.get? a = some (seqObj "list" (List.toArray ((evT (ltK key) (kas_sort vs.length)).toList.map fun i => vs.getD i .none)) c) → P (.done (.ret .none)) { s with heap := h', toks := tk' }) :
    wpAny (model rw_mq0086_01.row.prog w) A (ksk_rest a (.ref (n0 + 127)) false vs.toArray e1 (.ref kS)) P E s := by
  have nkb : ∀ {b o}, hb.get? b = some o → b ≠ kS := fun e q => by rw [q, nk] at e; cases e
  have nab : ∀ {b o}, hb.get? b = some o → b ≠ a := fun e q => by rw [q, na] at e; cases e
  unfold ksk_rest
  refine wpAny_bind (wpAny_rule ?_)
  first
    | rw [List.forIn_toArray]
    | (rw [← Array.forIn_toList]; simp only [List.toList_toArray])
    | rw [← Array.forIn_toList]
  refine wpAny_bind (ksk_fold (fun i s' => ∃ h' tk kA e, s' = { s with heap := h', toks := tk } ∧ Kp hb h' ∧ h'.get? kS = some (seqObj "list" kA e) ∧ h'.get? a = some (seqObj "list" #[] e1) ∧ KeysAt h' (n0 + 127) kA.toList vs ∧ kA.size = i) vs 0 s
    ⟨s.heap, s.toks, #[], 0, rfl, kb, hk, ha, (fun i v e => by simp at e), rfl⟩ ?step ?done)
  case step =>
    rintro j x s' hx ⟨h', tk1, kA, e, rfl, k1, hk1, ha1, hK1, hz⟩
    simp only [Nat.zero_add] at hz ⊢
    have hj : j < vs.length := (List.getElem?_eq_some_iff.mp hx).1
    have hj' : j < nss.length := by rw [← hr.1]; exact hj
    obtain ⟨l, ws, r1, _⟩ := hr.2 j _ (List.getElem?_eq_getElem hj')
    rw [hx] at r1; cases r1
    refine wpAny_bind (wpAny_attempt (newK_call (s := { s with heap := h', toks := tk1 }) (B.keeps k1) (X.keeps k1) hA ?_))
    intro h'' tk'' x dx k2 nx hx2 hdx2
    dsimp only at k2 nx ⊢
    have nx1 : x ≠ kS := by rintro rfl; rw [hk1] at nx; cases nx
    have hk2 := k2 _ _ hk1
    have ha2 := k2 _ _ ha1
    have nd1 : dx ≠ kS := by rintro rfl; have q := congrArg Obj.data (Option.some.inj (hk2.symm.trans hdx2)); cases q
    have s1 := Heap.SameBut.update h'' kS (Obj.mapSeq (·.push (.ref x)))
    obtain ⟨c2, hc2⟩ : ∃ c2, (h''.update kS (Obj.mapSeq (·.push (.ref x)))).get? kS = some (seqObj "list" (kA.push (.ref x)) c2) := ⟨_, get?_update_seq hk2 (·.push (.ref x))⟩
    refine wpAny_bind (listUpdate_at hk2 rfl ?_ (by rw [sizeLine_eq]; omega) (Nat.le_trans (Nat.le_of_eq (Array.size_push ..)) (by rw [sizeLine_eq]; omega)))
    refine wpAny_pure ⟨rfl, _, _, kA.push (.ref x), c2, rfl, fun b o q => (s1.2 b (nkb q)).trans (k2 _ _ (k1 _ _ q)), hc2, (s1.2 a hka.symm).trans ha2, ?_, by rw [Array.size_push, hz]⟩
    have K2 := (hK1.keeps k2).keeps2 hk2 ha2 (h' := h''.update kS (Obj.mapSeq (·.push (.ref x)))) (fun b o n1 _ q => (s1.2 b n1).trans q)
    intro i v hv
    by_cases hi : i < kA.size
    · refine K2 i v ?_
      rw [Array.toList_push, List.getElem?_append_left (by simpa using hi)] at hv
      exact hv
    · rw [Array.toList_push, List.getElem?_append_right (by simpa using hi)] at hv
      have hi0 : i - kA.toList.length = 0 := by
        cases q : i - kA.toList.length with
        | zero => rfl
        | succ m => rw [q] at hv; simp at hv
      rw [hi0] at hv
      simp only [List.getElem?_cons_zero, Option.some.injEq] at hv
      have : i = j := by rw [Array.length_toList] at hi0; omega
      subst this
      exact ⟨x, dx, l, hv.symm, hx, (s1.2 x nx1).trans hx2, (s1.2 dx nd1).trans hdx2⟩
  case done =>
    rintro s' ⟨h', tk1, kA, e, rfl, k1, hk1, ha1, hK1, hz⟩
    try dsimp only
    refine wpAny_bind (listItems_at hk1 rfl ?_)
    exact srt_end (s := { s with heap := h', toks := tk1 }) (B.keeps k1) (X.keeps k1) hA hu hh (hr.keeps k1) hK1 (by omega) hkey h2 h64 hk1 ha1 hka fun h'' c tk' q1 q2 => k h'' c tk' (fun b o e => q1 b o (nkb e) (nab e) (k1 _ _ e)) q2
theorem srt_tree {hb : Heap} {n0 tk tB L n : Nat} {nss : List (List Int)} {key : Nat → Int} (kb : Kp hb s.heap) (na : hb.get? a = none) (B : Bas w.params hb) (X : KAt w.params hb n0 tk tB L) (hA : A.depth < 880) (hu : A.units < cLine) (hh : A.handled = none)
    (hr : RowsAt hb vs nss)
    (hkey : ∀ i j, i < vs.length → j < vs.length → decide (cmpN (bareN (nss.getD i [])) (bareN (nss.getD j [])) < 0) = ltK key i j)
    (h2 : 2 ≤ vs.length) (h64 : vs.length < 64) (ho : s.heap.get? a = some (seqObj "list" vs.toArray n))
    (k : ∀ h' c tk', Kp hb h' → h'.get? a = some (seqObj "list" (List.toArray ((evT (ltK key) (kas_sort vs.length)).toList.map fun i => vs.getD i .none)) c) → P (.done (.ret .none)) { s with heap := h', toks := tk' }) :
    wpAny (model rw_mq0086_01.row.prog w) A (ksk_tree a (.ref (n0 + 127)) false) P E s := by
  have nab : ∀ {b o}, hb.get? b = some o → b ≠ a := fun e q => by rw [q, na] at e; cases e
  have hal : a < s.heap.objs.size := Heap.lt_size ho
  have s1 := Heap.SameBut.update s.heap a (Obj.mapSeq fun _ => (#[] : Array Value))
  obtain ⟨e1, ho1⟩ : ∃ e1, (s.heap.update a (Obj.mapSeq fun _ => (#[] : Array Value))).get? a = some (seqObj "list" #[] e1) := ⟨_, get?_update_seq ho fun _ => #[]⟩
  have hkS : ((s.heap.update a (Obj.mapSeq fun _ => (#[] : Array Value))).push (seqObj "tuple" vs.toArray 0)).objs.size = s.heap.objs.size + 1 := by rw [size_push', Heap.size_update]
  unfold ksk_tree
  refine wpAny_bind (listItems_at ho rfl ?_)
  refine wpAny_bind (listUpdate_at ho rfl ?_ (by rw [List.size_toArray, sizeLine_eq]; omega) (Nat.zero_le _))
  refine wpAny_bind (seqEpoch_at ho1 rfl ?_)
  refine wpAny_bind (wpAny_newTuple ?_ (by show vs.length ≤ _; rw [sizeLine_eq]; omega))
  refine wpAny_bind (wpAny_newList ?_ (Nat.zero_le _))
  refine wpAny_holding ?_
  have k2 : Kp hb (((s.heap.update a (Obj.mapSeq fun _ => (#[] : Array Value))).push (seqObj "tuple" vs.toArray 0)).push (seqObj "list" #[] 0)) := fun b o e =>
    Heap.get?_push_of_some _ (Heap.get?_push_of_some _ ((s1.2 b (nab e)).trans (kb _ _ e)))
  refine srt_rest (hb := hb) (s := { s with heap := ((s.heap.update a (Obj.mapSeq fun _ => (#[] : Array Value))).push (seqObj "tuple" vs.toArray 0)).push (seqObj "list" #[] 0) }) (kS := ((s.heap.update a (Obj.mapSeq fun _ => (#[] : Array Value))).push (seqObj "tuple" vs.toArray 0)).objs.size)
    k2 ?_ na B X hA hu hh hr hkey h2 h64 (Heap.get?_push_size _ rfl) (Heap.get?_push_of_some _ (Heap.get?_push_of_some _ ho1)) (by rw [hkS]; exact Nat.ne_of_gt (Nat.lt_succ_of_lt hal)) k
  cases q : hb.get? ((s.heap.update a (Obj.mapSeq fun _ => (#[] : Array Value))).push (seqObj "tuple" vs.toArray 0)).objs.size with
  | none => rfl
  | some o =>
    have := Heap.lt_size (kb _ _ q)
    rw [hkS] at this
    exact absurd (Nat.lt_of_succ_lt this) (Nat.lt_irrefl _)
/-- sorted(rows, key=K) -/
theorem sortedK {l : Addr} {n0 tk tB L : Nat} {nss : List (List Int)} {key : Nat → Int} {Q : Value → Shared → Prop} (B : Bas w.params s.heap) (X : KAt w.params s.heap n0 tk tB L) (hA : A.depth < 880) (hu : A.units < 9000) (hh : A.handled = none)
    (hr : RowsAt s.heap vs nss)
    (hkey : ∀ i j, i < vs.length → j < vs.length → decide (cmpN (bareN (nss.getD i [])) (bareN (nss.getD j [])) < 0) = ltK key i j)
    (h2 : 2 ≤ vs.length) (h64 : vs.length < 64) (hl : s.heap.IsList l vs.toArray)
    (k : ∀ D h' tk', Kp s.heap h' → s.heap.get? D = none → h'.IsList D (List.toArray ((evT (ltK key) (kas_sort vs.length)).toList.map fun i => vs.getD i .none)) → Q (.ref D) { s with heap := h', toks := tk' }) :
    wpAny (model rw_mq0086_01.row.prog w) A (call (.builtin "sorted") [.ref l] [(Str.ofString "key", .ref (n0 + 127))]) Q E s := by
  refine call_function_entry_kw kind_sorted plain_sorted entry_sorted (ksk_s1 _ _) ?_
  unfold Builtin.«sorted»
  refine wpAny_bind (m := checkCount "sorted" 1 1 _) (wpAny_pure ?_)
  refine wpAny_bind (collect_list hl ?_ (by rw [sizeLine_eq]; omega))
  refine wpAny_bind (wpAny_newList ?_ (by rw [sizeLine_eq]; omega))
  have hsz : ((s.heap.push (seqObj "list" #[] 0)).update s.heap.objs.size (Obj.mapSeq (· ++ vs.toArray))).objs.size = s.heap.objs.size + 1 := by
    rw [Heap.size_update, size_push']
  have hoL : (((s.heap.push (seqObj "list" #[] 0)).update s.heap.objs.size (Obj.mapSeq (· ++ vs.toArray))).push (seqObj "list" vs.toArray 0)).get? (s.heap.objs.size + 1) = some (seqObj "list" vs.toArray 0) := by
    rw [← hsz]; exact Heap.get?_push_size _ rfl
  have keep : Kp s.heap (((s.heap.push (seqObj "list" #[] 0)).update s.heap.objs.size (Obj.mapSeq (· ++ vs.toArray))).push (seqObj "list" vs.toArray 0)) := fun b o q => by
    have hlt : b < s.heap.objs.size := Heap.lt_size q
    rw [Heap.get?_push_ne _ _ _ (by rw [hsz]; exact Nat.ne_of_lt (Nat.lt_succ_of_lt hlt)), Heap.get?_update_ne _ _ _ _ (Nat.ne_of_lt hlt), Heap.get?_push_ne _ _ _ (Nat.ne_of_lt hlt)]
    exact q
  have nD : s.heap.get? (s.heap.objs.size + 1) = none := Heap.get?_none_of_le (Nat.le_succ _)
  show wpAny _ _ _ _ _ { s with heap := ((s.heap.push (seqObj "list" #[] 0)).update s.heap.objs.size (Obj.mapSeq (· ++ vs.toArray))).push (seqObj "list" vs.toArray 0) }
  rw [hsz]
  refine wpAny_bind (wpAny_holding (wpAny_call_entry_kw slot_list_sort ⟨_, hoL, rfl⟩ entry_list_sort ?body (ksk_l1 _ _)))
  show wpAny (model rw_mq0086_01.row.prog w) A.in1.in1 (Builtin.«list.sort» ⟨[.ref (s.heap.objs.size + 1)], [(Str.ofString "key", .ref (n0 + 127))]⟩) _ _ _
  rw [ksk_t1]
  refine srt_tree (hb := s.heap) (s := { s with heap := ((s.heap.push (seqObj "list" #[] 0)).update s.heap.objs.size (Obj.mapSeq (· ++ vs.toArray))).push (seqObj "list" vs.toArray 0) }) keep nD B X hA ?hu hh hr hkey h2 h64 hoL ?_
  case hu => have : cLine = 9900 := rfl; show A.units + 1 + 1 < _; omega
  intro h' c tk' k1 hD
  exact ⟨_, rfl, wpAny_pure ⟨_, rfl, k _ h' tk' k1 nD ⟨_, hD, rfl, c, rfl⟩⟩⟩
end
end Mine
namespace Mine
set_option maxHeartbeats 1000000
theorem figs1 {n : Int} (h : n < 64) : figs n = [n] := by unfold figs; rw [if_pos h]
theorem figs2 {n : Int} (h : 64 ≤ n) (h2 : n < 4096) : figs n = [n / 64 + 64, n % 64] := by unfold figs; rw [if_neg (by omega), if_pos h2]
theorem figs3 {n : Int} (h : 4096 ≤ n) : figs n = [n / 4096 + 64, n / 64 % 64 + 64, n % 64] := by unfold figs; rw [if_neg (by omega), if_neg (by omega)]
theorem figs_len (n : Int) : 0 < (figs n).length ∧ (figs n).length ≤ 3 := by
  unfold figs
  split
  · exact ⟨Nat.le_of_ble_eq_true rfl, Nat.le_of_ble_eq_true rfl⟩
  · split <;> exact ⟨Nat.le_of_ble_eq_true rfl, Nat.le_of_ble_eq_true rfl⟩
theorem octs_len {n a : Int} (ha : 0 ≤ a) (ha' : a < 3) : 0 < (octs n a).length ∧ (octs n a).length ≤ 5 := by
  have := figs_len n
  unfold octs
  rw [List.length_append, List.length_replicate]
  omega
theorem bare_figs {n : Int} (h1 : n < 70000) : bareN (figs n) = figs n := by
  by_cases c : n < 64
  · rw [figs1 c]; rfl
  · by_cases c2 : n < 4096
    · rw [figs2 (by omega) c2, bareN, if_neg (by omega)]
    · rw [figs3 (by omega), bareN, if_neg (by omega)]
theorem bare_64 {l : List Int} (h : 0 < l.length) : bareN (64 :: l) = bareN l := by
  cases l with
  | nil => cases h
  | cons x r => rw [bareN, if_pos rfl]
theorem bare_rep {l : List Int} (h : 0 < l.length) : ∀ k, bareN (List.replicate k 64 ++ l) = bareN l
  | 0 => rfl
  | k + 1 => by
    rw [List.replicate_succ, List.cons_append, bare_64 (by rw [List.length_append]; omega), bare_rep h k]
theorem bare_octs {n a : Int} (h1 : n < 70000) : bareN (octs n a) = figs n := by
  unfold octs
  rw [bare_rep (figs_len n).1, bare_figs h1]
theorem cmp2 (a b c d : Int) : cmpN [a, b] [c, d] = if a ≠ c then a - c else b - d := by
  have e : (List.range ([a, b] : List Int).length) = [0, 1] := rfl
  unfold cmpN unl
  rw [if_pos (by rfl), e, List.filter_cons, List.filter_cons, List.filter_nil]
  by_cases h : a = c
  · by_cases h2 : b = d
    · simp [h, h2]
    · simp [h, h2]
  · simp [h]
theorem cmp3 (a b x c d y : Int) : cmpN [a, b, x] [c, d, y] = if a ≠ c then a - c else if b ≠ d then b - d else x - y := by
  have e : (List.range ([a, b, x] : List Int).length) = [0, 1, 2] := rfl
  unfold cmpN unl
  rw [if_pos (by rfl), e, List.filter_cons, List.filter_cons, List.filter_cons, List.filter_nil]
  by_cases h : a = c
  · by_cases h2 : b = d
    · by_cases h3 : x = y
      · simp [h, h2, h3]
      · simp [h, h2, h3]
    · simp [h, h2]
  · simp [h]
theorem cmp_sign {x y : Int} (hx : 0 ≤ x) (hx' : x < 70000) (hy : 0 ≤ y) (hy' : y < 70000) :
    (cmpN (figs x) (figs y) < 0 ↔ x < y) ∧ (cmpN (figs x) (figs y) ≤ 0 ↔ x ≤ y) := by
  by_cases c : x < 64
  · rw [figs1 c]
    by_cases d : y < 64
    · rw [figs1 d]
      unfold cmpN
      rw [if_pos (by rfl)]
      have : (unl [x] [y]).headD 0 = 0 := by
        have := unl_lt (x := [x]) (y := [y]) Nat.zero_lt_one
        have h : ([x] : List Int).length = 1 := rfl
        omega
      rw [this]
      show ((x - y < 0 ↔ _) ∧ (x - y ≤ 0 ↔ _))
      omega
    · by_cases d2 : y < 4096
      · rw [figs2 (by omega) d2]; show (((1 : Int) - 2 < 0 ↔ _) ∧ ((1 : Int) - 2 ≤ 0 ↔ _)); omega
      · rw [figs3 (by omega)]; show (((1 : Int) - 3 < 0 ↔ _) ∧ ((1 : Int) - 3 ≤ 0 ↔ _)); omega
  · by_cases c2 : x < 4096
    · rw [figs2 (by omega) c2]
      by_cases d : y < 64
      · rw [figs1 d]; show (((2 : Int) - 1 < 0 ↔ _) ∧ ((2 : Int) - 1 ≤ 0 ↔ _)); omega
      · by_cases d2 : y < 4096
        · rw [figs2 (by omega) d2]
          rw [cmp2]
          split <;> omega
        · rw [figs3 (by omega)]; show (((2 : Int) - 3 < 0 ↔ _) ∧ ((2 : Int) - 3 ≤ 0 ↔ _)); omega
    · rw [figs3 (by omega)]
      by_cases d : y < 64
      · rw [figs1 d]; show (((3 : Int) - 1 < 0 ↔ _) ∧ ((3 : Int) - 1 ≤ 0 ↔ _)); omega
      · by_cases d2 : y < 4096
        · rw [figs2 (by omega) d2]; show (((3 : Int) - 2 < 0 ↔ _) ∧ ((3 : Int) - 2 ≤ 0 ↔ _)); omega
        · rw [figs3 (by omega)]
          rw [cmp3]
          split
          · omega
          · split <;> omega
theorem chain_figs {n : Int} (h0 : 0 ≤ n) (h1 : n < 70000) : ∃ x r, figs n = x :: r ∧ Chain x r ∧ r.length ≤ 2 := by
  by_cases c : n < 64
  · exact ⟨_, _, figs1 c, .stop h0 c, by decide⟩
  · by_cases c2 : n < 4096
    · exact ⟨_, _, figs2 (by omega) c2, .go (by omega) (by omega) (.stop (by omega) (by omega)), Nat.le_of_ble_eq_true rfl⟩
    · exact ⟨_, _, figs3 (by omega), .go (by omega) (by omega) (.go (by omega) (by omega) (.stop (by omega) (by omega))), Nat.le_of_ble_eq_true rfl⟩
theorem vfold_figs {n : Int} (h0 : 0 ≤ n) (h1 : n < 70000) : vfold 0 (figs n) = n := by
  by_cases c : n < 64
  · rw [figs1 c]; show 0 * 64 + n % 64 = n; omega
  · by_cases c2 : n < 4096
    · rw [figs2 (by omega) c2]; show (0 * 64 + (n / 64 + 64) % 64) * 64 + n % 64 % 64 = n; omega
    · rw [figs3 (by omega)]; show ((0 * 64 + (n / 4096 + 64) % 64) * 64 + (n / 64 % 64 + 64) % 64) * 64 + n % 64 % 64 = n; omega
theorem vfold_rep (l : List Int) : ∀ k, vfold 0 (List.replicate k 64 ++ l) = vfold 0 l
  | 0 => rfl
  | k + 1 => by
    rw [List.replicate_succ, List.cons_append]
    show vfold (0 * 64 + 64 % 64) _ = _
    exact vfold_rep l k
theorem vfold_octs {n a : Int} (h0 : 0 ≤ n) (h1 : n < 70000) : vfold 0 (octs n a) = n := by
  unfold octs; rw [vfold_rep, vfold_figs h0 h1]
theorem chain_rep {x : Int} {r : List Int} (h : Chain x r) : ∀ k, ∃ y q, List.replicate k 64 ++ x :: r = y :: q ∧ Chain y q ∧ q.length = k + r.length
  | 0 => ⟨x, r, rfl, h, by omega⟩
  | k + 1 => by
    obtain ⟨y, q, e, c, l⟩ := chain_rep h k
    exact ⟨64, y :: q, by rw [List.replicate_succ, List.cons_append, e], .go (by decide) (by decide) c, by rw [List.length_cons]; omega⟩
theorem chain_octs {n a : Int} (h0 : 0 ≤ n) (h1 : n < 70000) (ha : 0 ≤ a) (ha' : a < 3) : ∃ x r, octs n a = x :: r ∧ Chain x r ∧ r.length ≤ 5 := by
  obtain ⟨x, r, e, c, l⟩ := chain_figs h0 h1
  obtain ⟨y, q, e2, c2, l2⟩ := chain_rep c a.toNat
  exact ⟨y, q, by unfold octs; rw [e, e2], c2, by omega⟩
/-- the insertion order of the law -/
def insN (key : Nat → Int) (d : List Nat) (k : Nat) : List Nat :=
  d.take (d.filter fun j => decide (key j ≤ key k)).length ++ k :: d.drop (d.filter fun j => decide (key j ≤ key k)).length
def dueN (key : Nat → Int) (n : Nat) : List Nat := (List.range n).foldl (insN key) []
theorem cut_at {key : Nat → Int} {k : Nat} : ∀ {d : List Nat}, d.Pairwise (R key) → (∀ j ∈ d.take (d.filter fun j => decide (key j ≤ key k)).length, key j ≤ key k) ∧ ∀ j ∈ d.drop (d.filter fun j => decide (key j ≤ key k)).length, key k < key j
  | [], _ => ⟨fun j h => by simp at h, fun j h => by simp at h⟩
  | x :: d, h => by
    obtain ⟨h1, h2⟩ := List.pairwise_cons.mp h
    by_cases c : key x ≤ key k
    · have e : ((x :: d).filter fun j => decide (key j ≤ key k)) = x :: d.filter fun j => decide (key j ≤ key k) := List.filter_cons_of_pos (by simpa using c)
      rw [e]
      have ih := cut_at (k := k) h2
      refine ⟨fun j hj => ?_, fun j hj => ih.2 j hj⟩
      rcases List.mem_cons.mp hj with rfl | hj
      · exact c
      · exact ih.1 j hj
    · have e : ((x :: d).filter fun j => decide (key j ≤ key k)) = [] := by
        rw [List.filter_eq_nil_iff]
        intro j hj
        rcases List.mem_cons.mp hj with rfl | hj
        · simpa using c
        · have := h1 j hj
          unfold R at this
          simp only [decide_eq_true_eq]; omega
      rw [e]
      refine ⟨fun j hj => (by simp at hj), fun j hj => ?_⟩
      rcases List.mem_cons.mp (by simpa using hj : j ∈ x :: d) with rfl | hj
      · omega
      · have := h1 j hj
        unfold R at this; omega
theorem ins_perm (key : Nat → Int) (d : List Nat) (k : Nat) : (insN key d k).Perm (k :: d) := by
  unfold insN
  refine List.perm_middle.trans ?_
  rw [List.take_append_drop]
theorem ins_pw {key : Nat → Int} {d : List Nat} {k : Nat} (h : d.Pairwise (R key)) (hk : ∀ j ∈ d, j < k) : (insN key d k).Pairwise (R key) := by
  have c := cut_at (k := k) h
  unfold insN
  generalize (d.filter fun j => decide (key j ≤ key k)).length = n at *
  have e : d.take n ++ d.drop n = d := List.take_append_drop ..
  rw [← e] at h
  obtain ⟨h1, h2, h3⟩ := List.pairwise_append.mp h
  refine List.pairwise_append.mpr ⟨h1, List.pairwise_cons.mpr ⟨fun j hj => .inl (c.2 j hj), h2⟩, fun a ha b hb => ?_⟩
  rcases List.mem_cons.mp hb with rfl | hb
  · have := c.1 a ha
    have := hk a (List.mem_of_mem_take ha)
    unfold R; omega
  · exact h3 a ha b hb
theorem due_ok (key : Nat → Int) : ∀ n, (dueN key n).Perm (List.range n) ∧ (dueN key n).Pairwise (R key)
  | 0 => ⟨.refl _, .nil⟩
  | n + 1 => by
    have ih := due_ok key n
    have e : dueN key (n + 1) = insN key (dueN key n) n := by unfold dueN; rw [List.range_succ, List.foldl_append]; rfl
    rw [e]
    refine ⟨(ins_perm _ _ _).trans ?_, ins_pw ih.2 fun j hj => List.mem_range.mp (ih.1.mem_iff.mp hj)⟩
    rw [List.range_succ]
    exact (List.Perm.cons n ih.1).trans (List.perm_append_singleton n (List.range n)).symm
/-- the last of the greatest, as reduce finds it -/
def bestN (key : Nat → Int) : Nat → Nat
  | 0 => 0
  | n + 1 => if key (bestN key n) ≤ key (n + 1) then n + 1 else bestN key n
theorem best_ok (key : Nat → Int) : ∀ n, bestN key n ≤ n ∧ ∀ j, j ≤ n → j = bestN key n ∨ R key j (bestN key n)
  | 0 => ⟨Nat.le_refl _, fun j h => .inl (by show j = 0; omega)⟩
  | n + 1 => by
    obtain ⟨h1, h2⟩ := best_ok key n
    unfold bestN
    by_cases c : key (bestN key n) ≤ key (n + 1)
    · rw [if_pos c]
      refine ⟨Nat.le_refl _, fun j hj => ?_⟩
      by_cases q : j = n + 1
      · exact .inl q
      · have rb : R key (bestN key n) (n + 1) := by unfold R; omega
        rcases h2 j (by omega) with e | e
        · rw [e]; exact .inr rb
        · exact .inr (e.trans rb)
    · rw [if_neg c]
      refine ⟨by omega, fun j hj => ?_⟩
      by_cases q : j = n + 1
      · subst q; exact .inr (.inl (by omega))
      · exact h2 j (by omega)
theorem best_last {key : Nat → Int} {n : Nat} (hn : 0 < n) : (dueN key n)[n - 1]? = some (bestN key (n - 1)) := by
  obtain ⟨p, w⟩ := due_ok key n
  obtain ⟨b1, b2⟩ := best_ok key (n - 1)
  have hl : (dueN key n).length = n := by rw [p.length_eq, List.length_range]
  have hm : bestN key (n - 1) ∈ dueN key n := p.mem_iff.mpr (List.mem_range.mpr (by omega))
  obtain ⟨i, hi, e⟩ := List.mem_iff_getElem.mp hm
  by_cases q : i = n - 1
  · subst q; rw [List.getElem?_eq_getElem hi, e]
  · exfalso
    have hz : n - 1 < (dueN key n).length := by omega
    have r := List.pairwise_iff_getElem.mp w i (n - 1) hi hz (by omega)
    rw [e] at r
    have hlt : (dueN key n)[n - 1] < n := List.mem_range.mp (p.mem_iff.mp (List.getElem_mem hz))
    rcases b2 _ (show (dueN key n)[n - 1] ≤ n - 1 by omega) with e2 | e2
    · rw [e2] at r; unfold R at r; omega
    · unfold R at r e2; omega
theorem sort_due {key : Nat → Int} {n : Nat} (h2 : 2 ≤ n) : (evT (ltK key) (kas_sort n)).toList = dueN key n := by
  obtain ⟨p, w⟩ := due_ok key n
  obtain ⟨p2, w2⟩ := sort_list (key := key) h2
  exact R_unique (p2.trans p.symm) w2 w
end Mine
namespace Mine
open PySem.Challenge
set_option maxHeartbeats 0
set_option maxRecDepth 100000
def envW (L : Nat) : Env := envOfC (Str.ofString "law") (scp 11) L 68 (.ref 67)
theorem old_step {h₀ h h' : Heap} (K : OldK h₀ h) (hk : ∀ b o, b < h₀.objs.size → h.get? b = some o → h'.get? b = some o) : OldK h₀ h' :=
  ⟨fun b o e => by
    have hb := Heap.lt_size e
    rcases K.old b o e with x | ⟨t, hc, vs, more, hv, x⟩ | ⟨rfl, hc, ⟨o', es, n, ho', r⟩, z⟩
    · exact .inl (hk _ _ hb x)
    · exact .inr (.inl ⟨t, hc, vs, more, hv, hk _ _ hb x⟩)
    · exact .inr (.inr ⟨rfl, hc, ⟨o', es, n, hk _ _ hb ho', r⟩, fun key => by rw [OldK.staticOf_congr ((hk _ _ hb ho').trans ho'.symm) key]; exact z key⟩),
   fun b o e => let ⟨o', ho'⟩ := K.there b o e; ⟨o', hk _ _ (Heap.lt_size e) ho'⟩⟩
/-- the law's frame in a heap: what was there, the two tables that grow, the cells -/
structure LW (w : World) (h0 : Heap) (L : Nat) (p65 : Array Value) (o23 : Obj) (c : List (Option Value)) (h : Heap) : Prop where
  bas : Bas w.params h
  old : OldK h0 h
  low : 69 ≤ h0.objs.size
  above : h0.objs.size ≤ L
  len : c.length = 7
  room : L + 7 < h.objs.size
  ns : ∃ m, h.Ns L m
  t65 : h.get? 65 = some (tableObj p65)
  t23 : h.get? 23 = some o23
  cell : ∀ (i : Nat) v, c[i]? = some v → h.IsCell (L + 1 + i) v
section
variable {w : World} {h0 h h' : Heap} {L : Nat} {p65 : Array Value} {o23 : Obj} {c : List (Option Value)}
theorem LW.keeps (X : LW w h0 L p65 o23 c h) (k : Kp h h') : LW w h0 L p65 o23 c h' :=
  ⟨X.bas.keeps k, X.old.step_keeps k, X.low, X.above, X.len, by
    obtain ⟨o, e, _⟩ := X.cell 6 _ (List.getElem?_eq_getElem (by rw [X.len]; decide))
    exact Heap.lt_size (k _ _ e), let ⟨m, e⟩ := X.ns; ⟨m, e.keeps k⟩, k _ _ X.t65, k _ _ X.t23, fun i v e => (X.cell i v e).keeps k⟩
/-- all but one object that lies behind the frame -/
theorem LW.but (X : LW w h0 L p65 o23 c h) {a : Nat} (ha : L + 7 < a) (k : ∀ b o, b ≠ a → h.get? b = some o → h'.get? b = some o) : LW w h0 L p65 o23 c h' := by
  have n : ∀ {b : Nat}, b ≤ L + 7 → b ≠ a := fun hb q => by omega
  have hl := X.low
  have hab := X.above
  exact ⟨X.bas.low fun b o hb _ _ e => k b o (n (Nat.le_trans (Nat.le_of_lt hb) (Nat.le_trans hl (Nat.le_trans hab (Nat.le_add_right L 7))))) e, old_step X.old fun b o hb e => k b o (n (Nat.le_trans (Nat.le_of_lt hb) (Nat.le_trans hab (Nat.le_add_right L 7)))) e, X.low, X.above, X.len, by
    obtain ⟨o, e, _⟩ := X.cell 6 _ (List.getElem?_eq_getElem (by rw [X.len]; decide))
    exact Heap.lt_size (k _ _ (n (by show L + 1 + 6 ≤ L + 7; omega)) e), let ⟨m, e⟩ := X.ns; ⟨m, e.at' fun o q => k L o (n (by omega)) q⟩, k _ _ (n (by omega)) X.t65, k _ _ (n (by omega)) X.t23, fun i v e => by
    have hi : i < 7 := by rw [← X.len]; exact (List.getElem?_eq_some_iff.mp e).1
    obtain ⟨o, q1, q2⟩ := X.cell i v e
    exact ⟨o, k _ _ (n (by show L + 1 + i ≤ L + 7; omega)) q1, q2⟩⟩
/-- a cell stored -/
theorem LW.set (X : LW w h0 L p65 o23 c h) {i : Nat} {v : Option Value} (hi : i < 7) (hs : Heap.SameBut (L + 1 + i) h h') (hc : h'.IsCell (L + 1 + i) v) : LW w h0 L p65 o23 (c.set i v) h' := by
  have hl := X.low
  have hab := X.above
  have k : ∀ (b : Nat) o, b ≠ L + 1 + i → h.get? b = some o → h'.get? b = some o := fun b o n e => hs.extBut b o n e
  refine ⟨X.bas.low fun b o hb _ _ e => k b o (fun q => ?_) e, old_step X.old fun b o hb e => k b o (fun q => ?_) e, X.low, X.above, by rw [List.length_set]; exact X.len, ?_, let ⟨m, e⟩ := X.ns; ⟨m, e.at' fun o q => k L o (by omega) q⟩, k _ _ (by omega) X.t65, k _ _ (by omega) X.t23, fun j u e => ?_⟩
  · rw [q] at hb; exact absurd (Nat.lt_of_lt_of_le hb (Nat.le_trans hl hab)) (by omega)
  · rw [q] at hb; exact absurd (Nat.lt_of_lt_of_le hb hab) (by omega)
  · obtain ⟨o, e, _⟩ := X.cell 6 _ (List.getElem?_eq_getElem (by rw [X.len]; decide))
    by_cases q : i = 6
    · subst q; obtain ⟨o, e, _⟩ := hc; exact Heap.lt_size e
    · exact Heap.lt_size (k (L + 1 + 6) _ (by omega) e)
  · by_cases q : i = j
    · subst q
      rw [List.getElem?_set_self (by rw [X.len]; exact hi)] at e
      cases e; exact hc
    · rw [List.getElem?_set_ne q] at e
      obtain ⟨o, q1, q2⟩ := X.cell j u e
      exact ⟨o, k _ _ (by omega) q1, q2⟩
/-- the table of law grown -/
theorem LW.grow65 {more : Array Value} (X : LW w h0 L p65 o23 c h) (hb0 : ∃ ps, h0.get? 65 = some (tableObj ps)) (h67 : h0.get? 67 = some (ko w.params 67)) (hx : Heap.ExtBut 65 h h') (hs : h.objs.size ≤ h'.objs.size) (ht : h'.get? 65 = some (tableObj (p65 ++ more))) : LW w h0 L (p65 ++ more) o23 c h' := by
  have hl := X.low
  have hab := X.above
  have k : ∀ (b : Nat) o, b ≠ 65 → h.get? b = some o → h'.get? b = some o := fun b o n e => hx b o n e
  obtain ⟨ps, e0⟩ := hb0
  have g67 : h.get? 67 = some (ko w.params 67) := X.old.get_of_cls h67 (by show (ko w.params 67).cls ≠ .none; rw [show (ko w.params 67).cls = .type "code" from rfl]; nofun)
  have T0 : h0.TableAt 67 65 ps := table_at (o := ko w.params 67) (vs := itemsOf (ko w.params 67)) h67 rfl rfl e0 rfl
  have T1 : h.TableAt 67 65 p65 := table_at (o := ko w.params 67) (vs := itemsOf (ko w.params 67)) g67 rfl rfl X.t65 rfl
  have T2 : h'.TableAt 67 65 (p65 ++ more) := table_at (o := ko w.params 67) (vs := itemsOf (ko w.params 67)) (k 67 _ (by decide) g67) rfl rfl ht rfl
  exact ⟨X.bas.keep fun b o e _ n => k b o n e, X.old.step_table T0 T1 T2 hx (by decide), X.low, X.above, X.len, Nat.lt_of_lt_of_le X.room hs, let ⟨m, e⟩ := X.ns; ⟨m, e.at' fun o q => k L o (by omega) q⟩, ht, k 23 _ (by decide) X.t23, fun i v e => by
    obtain ⟨o, q1, q2⟩ := X.cell i v e
    exact ⟨o, k _ _ (by omega) q1, q2⟩⟩
/-- behind the call that stops -/
theorem LW.over {W : Nat} (X : LW w h0 L p65 o23 c h) (hW : L + 7 < W) (k : ∀ b o, h.get? b = some o → b ≠ W → b ≠ L → h'.get? b = some o) (up : h.UpToSlots h') : LW w h0 L p65 o23 c h' := by
  have hl := X.low
  have hab := X.above
  have k' : ∀ (b : Nat) o, b < L → h.get? b = some o → h'.get? b = some o := fun b o n e => k b o e (by show b ≠ W; omega) (by show b ≠ L; omega)
  have kc : ∀ (i : Nat) o, i < 7 → h.get? (L + 1 + i) = some o → h'.get? (L + 1 + i) = some o := fun i o hi e => k _ o e (by show L + 1 + i ≠ W; omega) (by show L + 1 + i ≠ L; omega)
  refine ⟨X.bas.low fun b o hb _ _ e => k' b o (Nat.lt_of_lt_of_le hb (Nat.le_trans hl hab)) e, old_step X.old fun b o hb e => k' b o (Nat.lt_of_lt_of_le hb hab) e, X.low, X.above, X.len, ?_, let ⟨m, e⟩ := X.ns; ⟨m, up.ns e⟩, k' 65 _ (by omega) X.t65, k' 23 _ (by omega) X.t23, fun i v e => ?_⟩
  · obtain ⟨o, e, _⟩ := X.cell 6 _ (List.getElem?_eq_getElem (by rw [X.len]; decide))
    exact Heap.lt_size (kc 6 _ (by decide) e)
  · obtain ⟨o, q1, q2⟩ := X.cell i v e
    have hi : i < 7 := by rw [← X.len]; exact (List.getElem?_eq_some_iff.mp e).1
    exact ⟨o, kc i _ hi q1, q2⟩
end
/-- lists stay -/
def Lk (h h' : Heap) : Prop := ∀ b o xs n, h.get? b = some o → o.data = .seq xs n → h'.get? b = some o
theorem Lk.of {h h' : Heap} (k : Kp h h') : Lk h h' := fun b o _ _ e _ => k b o e
theorem Lk.trans {h h' h'' : Heap} (a : Lk h h') (b : Lk h' h'') : Lk h h'' := fun x o xs n e d => b x o xs n (a x o xs n e d) d
theorem Lk.cell {h h' : Heap} {a : Addr} {v : Option Value} (hc : h.IsCell a v) (hs : Heap.SameBut a h h') : Lk h h' := fun b o xs n e d => hs.extBut b o (by
  rintro rfl
  obtain ⟨o', h1, h2⟩ := hc
  rw [h1] at e; cases e; rw [h2] at d; cases d) e
theorem Lk.fields {h h' : Heap} {a : Addr} {oa : Obj} {vs : Array Value} (ha : h.get? a = some oa) (hd : oa.data = .fields vs) (k : ∀ b o, b ≠ a → h.get? b = some o → h'.get? b = some o) : Lk h h' := fun b o xs n e d => k b o (by
  rintro rfl
  rw [ha] at e; cases e; rw [hd] at d; cases d) e
theorem list_lk {h h' : Heap} {l : Addr} {its : Array Value} (x : h.IsList l its) (k : Lk h h') : h'.IsList l its := let ⟨o, e, c, n, d⟩ := x; ⟨o, k _ _ _ _ e d, c, n, d⟩
theorem RowsAt.lk {h h' : Heap} {vs : List Value} {nss : List (List Int)} (r : RowsAt h vs nss) (k : Lk h h') : RowsAt h' vs nss :=
  ⟨r.1, fun i n e => let ⟨l, ws, a, b, c⟩ := r.2 i n e; ⟨l, ws, a, list_lk b k, c⟩⟩
section
variable {w : World} {h0 : Heap} {L : Nat} {p65 : Array Value} {o23 : Obj} {c : List (Option Value)} {A : Around} {E : Value → Shared → Prop} {s : Shared} {pos : Pos} {v : Value}
theorem W_cell {Q : Value → Shared → Prop} {x : Str} (i : Nat) (X : LW w h0 L p65 o23 c s.heap) (hx : (envW L).cells.lookup x = some (L + 1 + i)) (hk : (envW L).kindOf x = some .cell) (hv : c[i]? = some (some v)) (h : Q v s) (hd : (x == ("__debug__" : Str)) = false) :
    wpAny (model rw_mq0086_01.row.prog w) A (eval (.Name x pos) (envW L)) Q E s := nm_cell hx (X.cell i _ hv) h (by kernel_rfl) hk hd
theorem W_store {Q : Unit → Shared → Prop} {x : Str} {u : Option Value} (i : Nat) (X : LW w h0 L p65 o23 c s.heap) (hi : i < 7) (hx : (envW L).cells.lookup x = some (L + 1 + i)) (hk : (envW L).kindOf x = some .cell) (hu : c[i]? = some u)
    (h : ∀ h', Lk s.heap h' → (∀ b o, b ≠ L + 1 + i → s.heap.get? b = some o → h'.get? b = some o) → LW w h0 L p65 o23 (c.set i (some v)) h' → Q () { s with heap := h' }) : wpAny (model rw_mq0086_01.row.prog w) A (storeName (envW L) x v) Q E s := by
  refine wpAny_storeName_cell (by kernel_rfl) hk hx (X.cell i _ hu) ?_
  intro h' hc hs
  exact h h' (Lk.cell (X.cell i _ hu) hs) (fun b o n e => hs.extBut b o n e) (X.set hi hs hc)
theorem W_numbers {Q : Value → Shared → Prop} (X : LW w h0 L p65 o23 c s.heap) (hv : c[0]? = some (some v)) (h : Q v s) : wpAny (model rw_mq0086_01.row.prog w) A (eval (.Name (Str.ofString "numbers") pos) (envW L)) Q E s := W_cell 0 X (by kernel_rfl) (by kernel_rfl) hv h (by decide)
theorem W_k {Q : Value → Shared → Prop} (X : LW w h0 L p65 o23 c s.heap) (hv : c[1]? = some (some v)) (h : Q v s) : wpAny (model rw_mq0086_01.row.prog w) A (eval (.Name (Str.ofString "k") pos) (envW L)) Q E s := W_cell 1 X (by kernel_rfl) (by kernel_rfl) hv h (by decide)
theorem W_rows {Q : Value → Shared → Prop} (X : LW w h0 L p65 o23 c s.heap) (hv : c[2]? = some (some v)) (h : Q v s) : wpAny (model rw_mq0086_01.row.prog w) A (eval (.Name (Str.ofString "rows") pos) (envW L)) Q E s := W_cell 2 X (by kernel_rfl) (by kernel_rfl) hv h (by decide)
theorem W_ask {Q : Value → Shared → Prop} (X : LW w h0 L p65 o23 c s.heap) (hv : c[3]? = some (some v)) (h : Q v s) : wpAny (model rw_mq0086_01.row.prog w) A (eval (.Name (Str.ofString "ask") pos) (envW L)) Q E s := W_cell 3 X (by kernel_rfl) (by kernel_rfl) hv h (by decide)
theorem W_due {Q : Value → Shared → Prop} (X : LW w h0 L p65 o23 c s.heap) (hv : c[4]? = some (some v)) (h : Q v s) : wpAny (model rw_mq0086_01.row.prog w) A (eval (.Name (Str.ofString "due") pos) (envW L)) Q E s := W_cell 4 X (by kernel_rfl) (by kernel_rfl) hv h (by decide)
theorem W_told {Q : Value → Shared → Prop} (X : LW w h0 L p65 o23 c s.heap) (hv : c[5]? = some (some v)) (h : Q v s) : wpAny (model rw_mq0086_01.row.prog w) A (eval (.Name (Str.ofString "told") pos) (envW L)) Q E s := W_cell 5 X (by kernel_rfl) (by kernel_rfl) hv h (by decide)
theorem W_walker {Q : Value → Shared → Prop} (X : LW w h0 L p65 o23 c s.heap) (hv : c[6]? = some (some v)) (h : Q v s) : wpAny (model rw_mq0086_01.row.prog w) A (eval (.Name (Str.ofString "walker") pos) (envW L)) Q E s := W_cell 6 X (by kernel_rfl) (by kernel_rfl) hv h (by decide)
theorem W_script {Q : Value → Shared → Prop} {m : Str → Option Value} (hn : s.heap.Ns L m) (hv : m (Str.ofString "script") = some v) (h : Q v s) : wpAny (model rw_mq0086_01.row.prog w) A (eval (.Name (Str.ofString "script") pos) (envW L)) Q E s := nm_loc (env := envW L) hn hv h (by kernel_rfl) (by kernel_rfl) (by decide)
theorem W_own {Q : Value → Shared → Prop} {x : Str} (B : Bas w.params s.heap) (e : gnames.lookup x = some v) (h : Q v s) (hx : (envW L).kindOf x = some .globalImplicit) (hd : (x == ("__debug__" : Str)) = false) : wpAny (model rw_mq0086_01.row.prog w) A (eval (.Name x pos) (envW L)) Q E s := nm_own (env := envW L) B e h (by kernel_rfl) (by kernel_rfl) hx hd
theorem W_blt {Q : Value → Shared → Prop} {x : Str} (B : Bas w.params s.heap) (e : bnames.lookup x = some v) (h : Q v s) (hx : (envW L).kindOf x = some .globalImplicit) (hd : (x == ("__debug__" : Str)) = false) : wpAny (model rw_mq0086_01.row.prog w) A (eval (.Name x pos) (envW L)) Q E s := nm_blt (env := envW L) B e h (by kernel_rfl) (by kernel_rfl) (by kernel_rfl) hx hd
end
end Mine
namespace Mine
open PySem.Challenge
set_option maxHeartbeats 0
set_option maxRecDepth 100000
inductive LP (prog : Program) (w : World) (A : Around) (env : Env) (scope : Scope) (cl : List (Str × Addr)) (x : Str) (ifs : List Expr) (elt : Expr) (p : Value → Bool) (F : Value → Value → Prop) (Q : Value → Shared → Prop) : Value → Shared → Prop
  | mk {s : Shared} {l : Addr} (vs : List Value) (hz : vs.length ≤ 1000) (hl : s.heap.IsList l vs.toArray)
    (tests : ∀ C (i : Nat) v s₃ m₃ E', s.heap.objs.size ≤ C → vs[i]? = some v → s₃.heap.Ns C m₃ → m₃ x = some v → Kp s.heap s₃.heap →
      wpAny (model prog w) A (forIn ifs true fun c r => if r = true then do let ok ← isTrue c (compEnvC scope cl C env) (eval c (compEnvC scope cl C env)); pure (ForInStep.yield ok) else pure (ForInStep.yield r))
        (fun ok s₄ => ok = p v ∧ Keeps s₃ s₄) E' s₃)
    (elts : ∀ C (i : Nat) v s₃ m₃ E', s.heap.objs.size ≤ C → vs[i]? = some v → p v = true → s₃.heap.Ns C m₃ → m₃ x = some v → Kp s.heap s₃.heap →
      wpAny (model prog w) A (eval elt (compEnvC scope cl C env)) (fun y s₄ => F v y ∧ Keeps s₃ s₄) E' s₃)
    (done : ∀ D h' tk ys, s.heap.get? D = none → h'.PlainList D ys → Paired F (vs.filter p) ys.toList → Kp s.heap h' → Q (.ref D) { s with heap := h', toks := tk }) :
    LP prog w A env scope cl x ifs elt p F Q (.ref l) s
section
variable {prog : Program} {w : World} {A : Around} {E : Value → Shared → Prop} {s : Shared} {env : Env}
theorem lc_list {elt iter : Expr} {x : Str} {px : Pos} {ifs : List Expr} {scope : Scope} {cl : List (Str × Addr)} {pos : Pos} {Q : Value → Shared → Prop} (p : Value → Bool) (F : Value → Value → Prop)
    (hh : A.handled = none) (hclos : closureFor scope env = pure cl) (hcell : ∀ y ∈ scope.names, y.2 ≠ .cell) (hkind : scope.kind = .function)
    (hnames : ∀ y ∈ scope.names, y.2 = .local → scope.names.lookup y.1 = some .local) (hx : scope.names.lookup x = some .local)
    (h : wpAny (model prog w) A (eval iter env) (LP prog w A env scope cl x ifs elt p F Q) E s)
    (hs : ∀ x, foldedSetIterable iter env x = pure x := by intro _; rfl) :
    wpAny (model prog w) A (eval (.ListComp elt [⟨.Name x px, iter, ifs, 0⟩] scope pos) env) Q E s := by
  refine wpAny_ListComp_free p F hclos hcell hkind hnames hx (wpAny_mono h (fun xv s₁ h₁ => ?_) fun _ _ e => e) hs
  cases h₁ with
  | mk vs hz hl tests elts done =>
    rename_i l
    have hlt : l < s₁.heap.objs.size := by obtain ⟨_, e, _⟩ := hl; exact Heap.lt_size e
    refine wpAny_pyIter_list hl ?_
    have hne : l ≠ s₁.heap.objs.size := Nat.ne_of_lt hlt
    have up : ∀ {h' : Heap}, (∀ b o, b ∉ [s₁.heap.objs.size] → (s₁.heap.push { cls := .type "list_iterator", data := .fields #[.ref l, .int 0 0] }).get? b = some o → h'.get? b = some o) → Kp s₁.heap h' := fun k b o e =>
      k b o (fun hm => Nat.lt_irrefl _ ((List.mem_singleton.mp hm) ▸ Heap.lt_size e)) (Heap.get?_push_of_some _ e)
    have hsz : s₁.heap.objs.size ≤ (s₁.heap.push { cls := .type "list_iterator", data := .fields #[.ref l, .int 0 0] }).objs.size := by rw [Heap.size_push]; exact Nat.le_succ _
    refine ⟨s₁.heap.objs.size, _, _, _, _, _, rfl, Walks.list hh s₁.heap.objs.size l hne (List.toArray vs), by rw [List.size_toArray, sizeLine_eq]; omega, ⟨⟨_, Heap.get?_push_size _ rfl, rfl, rfl⟩, hl.push _⟩, ?_, ⟨?_, ?_⟩, ?_⟩
    · intro b hb
      show b < (s₁.heap.push _).objs.size
      rw [Heap.size_push]
      rcases List.mem_cons.mp hb with rfl | hb
      · exact Nat.lt_succ_self _
      · rw [List.mem_singleton.mp hb]; exact Nat.lt_succ_of_lt hlt
    · intro C i v s₃ m₃ E' hC hP hns hm hk htk
      exact tests C i v s₃ m₃ E' (Nat.le_trans hsz hC) (by simpa using hP) hns hm (up hk)
    · intro C i v s₃ m₃ E' hC hP hpv hns hm hk htk
      exact elts C i v s₃ m₃ E' (Nat.le_trans hsz hC) (by simpa using hP) hpv hns hm (up hk)
    · intro D h' tk ys vs' hD _ hpl hlen hP hF hk
      have ev : vs' = vs := by
        refine List.ext_getElem? fun j => ?_
        cases q : vs'[j]? with
        | some v => have := hP j v q; simpa using this.symm
        | none =>
          have h1 : vs'.length ≤ j := by simpa using q
          rw [hlen, List.size_toArray] at h1
          exact (List.getElem?_eq_none h1).symm
      rw [ev] at hF
      refine done D h' tk ys ?_ hpl hF (up hk)
      cases q : s₁.heap.get? D with
      | none => rfl
      | some o => rw [Heap.get?_push_of_some _ q] at hD; cases hD
end
end Mine
namespace Mine
open PySem.Challenge
set_option maxHeartbeats 0
set_option maxRecDepth 100000
def more8 : List Int := [5, 64, 4095, 4096, 64, 1, 0, 4160]
def xsOf (ns : List Int) : List Int := (ns.take 8 ++ more8).map fun n => n % 70000
theorem xs_more {ns : List Int} {vs : List Value} {a b : List Value} (h1 : IntsAre a (ns.take 8)) (h2 : IntsAre b more8) : IntsAre (a ++ b) (ns.take 8 ++ more8) := IntsAre.append h1 h2
theorem paired_mod : ∀ {vs ys : List Value} {ns : List Int}, IntsAre vs ns → Paired (fun v y => ∃ n t t', v = .int n t ∧ y = .int (n % 70000) t') vs ys → IntsAre ys (ns.map fun n => n % 70000)
  | _, _, _, .nil, h => by cases h; exact .nil
  | _, _, _, .cons n t r, h => by
    cases h with
    | cons h1 h2 =>
      obtain ⟨n', t1, t2, e, rfl⟩ := h1
      cases e
      exact .cons _ _ (paired_mod r h2)
section
local macro_rules | `(tactic| walk_at "nothing here") => `(tactic| fail)
local macro_rules | `(tactic| walk_at "nothing here") => `(tactic| fail)
local macro_rules | `(tactic| walk_at "eval Name") => `(tactic| first
  | (refine W_script (by assumption) (by assumption) ?_))
theorem stmt0 {w : World} {h0 : Heap} {L : Nat} {p65 : Array Value} {o23 : Obj} {c : List (Option Value)} {u : Option Value} {s : Shared} {A : Around} {l : Addr} {vs : List Value} {ns : List Int} {m : Str → Option Value} {Q : Flow → Shared → Prop} {E : Value → Shared → Prop}
    (hh : A.handled = none) (X : LW w h0 L p65 o23 c s.heap) (hc0 : c[0]? = some u) (hn : s.heap.Ns L m) (hm : m (Str.ofString "script") = some (.ref l)) (hl : s.heap.IsList l vs.toArray) (hi : IntsAre vs ns) (hz : ns.length ≤ 63)
    (k : ∀ h' tk ln vn, LW w h0 L p65 o23 (c.set 0 (some (.ref ln))) h' → h'.IsList ln (List.toArray vn) → IntsAre vn (xsOf ns) → Q .next { s with heap := h', toks := tk }) :
    wpAny (model rw_mq0086_01.row.prog w) A (exec (lawS 0) (envW L)) Q E s := by
  conv in lawS 0 => whnf
  have hvz : vs.length ≤ 63 := by rw [hi.length]; exact hz
  walk1
  refine lc_list (fun _ => true) (fun v y => ∃ n t t', v = .int n t ∧ y = .int (n % 70000) t') (by assumption) (by with_unfolding_all rfl) (by decide) rfl (by decide) rfl ?_
  walk1
  refine wpAny_Subscript_list_slice ?_
  iterate 4 walk1
  refine ⟨l, vs.toArray, none, some 8, rfl, hl, by rw [List.size_toArray, sizeLine_eq]; omega, .none, .int _ _, ?_⟩
  dsimp only
  have hpk := kmk_upto (vs := vs) hi (y := 8) (by decide)
  generalize slicePick vs.toArray none (some 8) none = pk at hpk ⊢
  have hpz : pk.size ≤ 8 := by
    have := hpk.length
    rw [Array.length_toList] at this
    rw [this]
    exact Nat.le_trans (List.length_take_le _ _) (by decide)
  generalize hH : (s.heap.push { cls := .type "slice", data := .fields #[.none, .int 8 s.toks, .none] }) = H
  have k1 : Kp s.heap H := fun b o e => hH ▸ Heap.get?_push_of_some _ e
  have hD : (H.push { cls := .type "list", data := .seq pk }).PlainList (s.heap.objs.size + 1) pk := ⟨0, by
    have : s.heap.objs.size + 1 = H.objs.size := by rw [← hH, Heap.size_push]
    rw [this]; exact Heap.get?_push_size _ rfl⟩
  have k2 : Kp s.heap (H.push { cls := .type "list", data := .seq pk }) := fun b o e => Heap.get?_push_of_some _ (k1 b o e)
  generalize H.push { cls := .type "list", data := .seq pk } = H2 at hD k2 ⊢
  repeat' walk1
  refine add_new hD (by show pk.size + 8 ≤ _; omega) ?_
  intro h3 R k3 hR0 hR
  dsimp only
  have hI : IntsAre (pk ++ #[Value.int 5 (s.toks + 1), Value.int 64 (s.toks + 1 + 1), Value.int 4095 (s.toks + 1 + 1 + 1), Value.int 4096 (s.toks + 1 + 1 + 1 + 1), Value.int 64 (s.toks + 1 + 1 + 1 + 1 + 1),
        Value.int 1 (s.toks + 1 + 1 + 1 + 1 + 1 + 1), Value.int 0 (s.toks + 1 + 1 + 1 + 1 + 1 + 1 + 1), Value.int 4160 (s.toks + 1 + 1 + 1 + 1 + 1 + 1 + 1 + 1)]).toList (ns.take 8 ++ more8) := by
    rw [Array.toList_append]
    exact xs_more (vs := vs) hpk (.cons _ _ (.cons _ _ (.cons _ _ (.cons _ _ (.cons _ _ (.cons _ _ (.cons _ _ (.cons _ _ .nil))))))))
  change h3.PlainList R (pk ++ #[Value.int 5 (s.toks + 1), Value.int 64 (s.toks + 1 + 1), Value.int 4095 (s.toks + 1 + 1 + 1), Value.int 4096 (s.toks + 1 + 1 + 1 + 1), Value.int 64 (s.toks + 1 + 1 + 1 + 1 + 1),
        Value.int 1 (s.toks + 1 + 1 + 1 + 1 + 1 + 1), Value.int 0 (s.toks + 1 + 1 + 1 + 1 + 1 + 1 + 1), Value.int 4160 (s.toks + 1 + 1 + 1 + 1 + 1 + 1 + 1 + 1)]) at hR
  generalize pk ++ #[Value.int 5 (s.toks + 1), Value.int 64 (s.toks + 1 + 1), Value.int 4095 (s.toks + 1 + 1 + 1), Value.int 4096 (s.toks + 1 + 1 + 1 + 1), Value.int 64 (s.toks + 1 + 1 + 1 + 1 + 1),
        Value.int 1 (s.toks + 1 + 1 + 1 + 1 + 1 + 1), Value.int 0 (s.toks + 1 + 1 + 1 + 1 + 1 + 1 + 1), Value.int 4160 (s.toks + 1 + 1 + 1 + 1 + 1 + 1 + 1 + 1)] = arr at hR hI
  have k4 : Kp s.heap h3 := Kp.trans k2 k3
  have X3 := X.keeps k4
  have hzz : arr.toList.length ≤ 16 := by
    rw [hI.length, List.length_append]
    have : (ns.take 8).length ≤ 8 := List.length_take_le _ _
    show _ + 8 ≤ 16
    omega
  clear hD k2 k3 hR0 hpk hpz hH k1
  refine LP.mk arr.toList (by omega) (by rw [Array.toArray_toList]; exact Heap.PlainList.isList hR) ?_ ?_ ?_
  · intro C i v s₃ m₃ E' hC hv hns hm' hk
    exact wpAny_tests_nil ⟨rfl, s₃.heap, s₃.toks, rfl, fun _ _ e => e⟩
  · intro C i v s₃ m₃ E' hC hv _ hns hm' hk
    obtain ⟨n, t, rfl⟩ := hI.all v (List.mem_of_getElem? hv)
    walk1
    refine nm_loc hns hm' ?_ (by kernel_rfl) (by kernel_rfl) (by decide)
    iterate 2 walk1
    rw [Int.fmod_eq_emod_of_nonneg _ (show (0 : Int) ≤ 70000 by decide)]
    exact ⟨⟨n, t, _, rfl, rfl⟩, s₃.heap, _, rfl, fun _ _ e => e⟩
  · intro D h' tk ys _ hpl hP hk
    rw [List.filter_eq_self.mpr (fun _ _ => rfl)] at hP
    have hI2 : IntsAre ys.toList (xsOf ns) := paired_mod hI hP
    refine W_store 0 (X3.keeps hk) (by decide) (by kernel_rfl) (by kernel_rfl) hc0 ?_
    intro h'' hlk _ X'
    refine k h'' _ D ys.toList X' ?_ hI2
    rw [Array.toArray_toList]
    exact list_lk (Heap.PlainList.isList hpl) hlk
end
end Mine
namespace Mine
open PySem.Challenge
set_option maxHeartbeats 0
set_option maxRecDepth 100000
def nssOf (xs : List Int) : List (List Int) := (List.range xs.length).map fun k => octs (xs.getD k 0) ((k : Int) % 3)
theorem nss_len (xs : List Int) : (nssOf xs).length = xs.length := by unfold nssOf; rw [List.length_map, List.length_range]
theorem nss_at {xs : List Int} {k : Nat} (h : k < xs.length) : (nssOf xs)[k]? = some (octs (xs.getD k 0) ((k : Int) % 3)) := by
  unfold nssOf; rw [List.getElem?_map, List.getElem?_range h]; rfl
def Small (xs : List Int) : Prop := ∀ x ∈ xs, 0 ≤ x ∧ x < 70000
theorem Small.at {xs : List Int} (h : Small xs) {k : Nat} (hk : k < xs.length) : 0 ≤ xs.getD k 0 ∧ xs.getD k 0 < 70000 := by
  have : xs.getD k 0 = xs[k] := by rw [List.getD_eq_getElem?_getD, List.getElem?_eq_getElem hk]; rfl
  rw [this]; exact h _ (List.getElem_mem hk)
theorem at_getD {vs : List Value} {xs : List Int} (hi : IntsAre vs xs) {k : Nat} (hk : k < xs.length) : ∃ t, vs[k]? = some (.int (xs.getD k 0) t) :=
  hi.get k _ (by rw [List.getD_eq_getElem?_getD, List.getElem?_eq_getElem hk]; rfl)
/-- what the comprehension of rows has made -/
def RowJ (h0 : Heap) (nss : List (List Int)) (I C D : Addr) (i : Nat) (ys : List Value) (h : Heap) : Prop :=
  Kp h0 h ∧ ys.length = i ∧ ∀ (j : Nat) n, j < i → nss[j]? = some n → ∃ l ws, ys[j]? = some (.ref l) ∧ l ≠ I ∧ l ≠ C ∧ l ≠ D ∧ h.IsList l (List.toArray ws) ∧ IntsAre ws n ∧ n.length ≤ 5 ∧ 0 < n.length
section
local macro_rules | `(tactic| walk_at "eval Name") => `(tactic| first
  | (refine W_numbers (by assumption) (by assumption) ?_)
  | (refine W_blt (LW.bas (by assumption)) (by rfl) ?_ (by kernel_rfl) (by decide))
  | (refine nm_cell (by rfl) (by assumption) ?_ (by kernel_rfl) (by kernel_rfl) (by decide))
  | (refine nm_loc (by assumption) (by assumption) ?_ (by kernel_rfl) (by kernel_rfl) (by decide))
  | (refine nm_own (by assumption) (by rfl) ?_ (by kernel_rfl) (by kernel_rfl) (by kernel_rfl) (by decide)))
local macro_rules | `(tactic| walk_at "callWith ref") => `(tactic| (refine cw_own (by assumption) ⟨_, rfl⟩ rfl ?_ rfl))
local macro_rules | `(tactic| walk_at "And") => `(tactic| (refine ⟨by assumption, ?_⟩))
local macro_rules | `(tactic| walk_at "subscriptTail") => `(tactic| (refine item_list (by assumption) (by omega) (by omega) (by assumption) ?_))
local macro_rules | `(tactic| walk_at "call builtin:len") => `(tactic| (refine len_list (by assumption) (by omega) ?_))
theorem stmt1 {w : World} {h0 : Heap} {L : Nat} {p65 : Array Value} {o23 : Obj} {c : List (Option Value)} {u : Option Value} {s : Shared} {A : Around} {ln : Addr} {vn : List Value} {xs : List Int} {Q : Flow → Shared → Prop} {E : Value → Shared → Prop}
    (hh : A.handled = none) (hA : A.depth < 800) (X : LW w h0 L p65 o23 c s.heap) (hc0 : c[0]? = some (some (.ref ln))) (hc2 : c[2]? = some u) (hl : s.heap.IsList ln (List.toArray vn)) (hi : IntsAre vn xs) (hz : xs.length ≤ 16) (hx : Small xs)
    (k : ∀ h' tk lr vr, Lk s.heap h' → LW w h0 L p65 o23 (c.set 2 (some (.ref lr))) h' → h'.IsList lr (List.toArray vr) → RowsAt h' vr (nssOf xs) → Q .next { s with heap := h', toks := tk }) :
    wpAny (model rw_mq0086_01.row.prog w) A (exec (lawS 1) (envW L)) Q E s := by
  conv in lawS 1 => whnf
  walk1
  refine lcG (cl := [(Str.ofString "numbers", L + 1 + 0)]) (by with_unfolding_all rfl) (by decide) rfl (by decide) rfl ?_
  have hvz : vn.toArray.size = xs.length := by rw [List.size_toArray, hi.length]
  repeat' walk1
  rw [hvz]
  refine range_it (n := xs.length) (by omega) ?_
  intro h2 I tk2 k2 hI0 hIlt hIr
  dsimp only
  refine GP.mk xs.length (fun i v => i < xs.length ∧ ∃ t, v = .int (0 + (i : Int) * 1) t) (fun i h => IsRangeIter h I (0 + (i : Nat) * 1) ((xs.length : Int) - (i : Nat)) 1) [I] (RowJ s.heap (nssOf xs) I)
    (by
      have W := Walks.range (prog := rw_mq0086_01.row.prog) (w := w) (A := A) hh I 0 1 xs.length
      exact ⟨W.sub, W.frame, fun i s Q E hi st hQ => W.item i s Q E hi st fun v h' tk hv => hQ v h' tk ⟨hi, hv⟩, W.done, W.self⟩) (by omega) (by simpa using hIr) (fun b hb => by rw [List.mem_singleton.mp hb]; exact hIlt) ?_ ?_ ?_ ?_
  · intro C D h _ _ kk
    exact ⟨Kp.trans k2 kk, rfl, fun j n hj => absurd hj (Nat.not_lt_zero _)⟩
  · rintro C D i ys h h' hC hD ⟨j1, j2, j3⟩ kk
    have nC : ∀ {b o}, s.heap.get? b = some o → b ≠ C := fun e => Nat.ne_of_lt (Nat.lt_of_lt_of_le (Heap.lt_size (k2 _ _ e)) hC)
    have nD : ∀ {b o}, s.heap.get? b = some o → b ≠ D := fun e => Nat.ne_of_lt (Nat.lt_of_lt_of_le (Heap.lt_size (k2 _ _ e)) hD)
    have nI : ∀ {b o}, s.heap.get? b = some o → b ≠ I := fun e q => by rw [q, hI0] at e; cases e
    refine ⟨fun b o e => kk b o (nI e) (nC e) (nD e) (j1 b o e), j2, fun j n hj hn => ?_⟩
    obtain ⟨l, ws, a1, a2, a3, a4, a5, a6⟩ := j3 j n hj hn
    exact ⟨l, ws, a1, a2, a3, a4, a5.at fun o e => kk l o a2 a3 a4 e, a6⟩
  · rintro C D i ys v h tk m hC hD hCD hi' _ ⟨_, t, rfl⟩ hst hns hm ⟨kD, hD'⟩ ⟨j1, j2, j3⟩
    refine wpAny_tests_nil ?_
    rw [if_pos rfl]
    have X1 := X.keeps j1
    have e0 : (0 + (i : Int) * 1) = (i : Int) := by omega
    rw [e0] at hm
    have B1 := X1.bas
    have hc1 : h.IsCell (L + 1 + 0) (some (.ref ln)) := X1.cell 0 _ hc0
    have hl1 := hl.at fun o e => j1 _ o e
    obtain ⟨tx, ex⟩ := at_getD hi hi'
    have ex' : (List.toArray vn)[Int.toNat (i : Int)]? = some (.int (xs.getD i 0) tx) := by simpa using ex
    have sx := hx.at hi'
    clear X1
    dsimp only
    repeat' walk1
    rw [Int.toNat_natCast, Int.fmod_eq_emod_of_nonneg _ (show (0 : Int) ≤ 3 by decide)]
    refine octets_call B1 (by omega) sx.1 sx.2 (by omega) (by omega) ?_
    intro h3 tk3 R ws k3 hR0 hR hRI
    dsimp only
    have hIs : ∃ o, h.get? I = some o := ⟨_, hst⟩
    obtain ⟨oI, hIo⟩ := hIs
    obtain ⟨oC, _, _, hCo, _⟩ := hns
    refine ⟨h3, tk3, rfl, fun o e => k3 _ _ e, fun o e => k3 _ _ e, fun b _ o e => k3 b o e, Kp.trans j1 k3, by rw [List.length_append, j2]; rfl, fun j n hj hn => ?_⟩
    by_cases q : j < i
    · obtain ⟨l, ws', a1, a2, a3, a4, a5, a6⟩ := j3 j n q hn
      exact ⟨l, ws', by rw [List.getElem?_append_left (by omega)]; exact a1, a2, a3, a4, a5.at fun o e => k3 l o e, a6⟩
    · have : j = i := by omega
      subst this
      rw [nss_at hi'] at hn
      cases hn
      have ol := octs_len (n := xs.getD j 0) (a := (j : Int) % 3) (by omega) (by omega)
      refine ⟨R, ws, by rw [List.getElem?_append_right (by omega), j2]; simp, ?_, ?_, ?_, ⟨_, hR, rfl, 0, rfl⟩, hRI, ol.2, ol.1⟩
      · rintro rfl; rw [hR0] at hIo; cases hIo
      · rintro rfl; rw [hR0] at hCo; cases hCo
      · rintro rfl; rw [hR0] at hD'; cases hD'
  · rintro C D ys h tk hC hD hCD _ ⟨j1, j2, j3⟩ ⟨kD, hD'⟩
    have X1 := X.keeps j1
    refine W_store 2 X1 (by decide) (by kernel_rfl) (by kernel_rfl) hc2 ?_
    intro h' hlk _ X'
    refine k h' _ D ys (Lk.trans (Lk.of j1) hlk) X' (list_lk ⟨_, hD', rfl, kD, rfl⟩ hlk) ⟨by rw [j2, nss_len], fun j n hn => ?_⟩
    have hj : j < xs.length := by rw [← nss_len]; exact (List.getElem?_eq_some_iff.mp hn).1
    obtain ⟨l, ws, a1, _, _, _, a5, a6⟩ := j3 j n hj hn
    exact ⟨l, ws, a1, list_lk a5 hlk, a6⟩
end
end Mine
namespace Mine
open PySem.Challenge
set_option maxHeartbeats 0
set_option maxRecDepth 100000
theorem rows_choose {h : Heap} : ∀ {vs : List Value} {nss : List (List Int)}, RowsAt h vs nss → ∃ wss : List (List Value), vs.length = wss.length ∧ (∀ (i : Nat) ws, wss[i]? = some ws → ∃ r, vs[i]? = some (.ref r) ∧ h.IsList r (List.toArray ws) ∧ ws.length ≤ 10) ∧ IntsAre wss.flatten nss.flatten
  | [], [], _ => ⟨[], rfl, fun i ws e => by simp at e, .nil⟩
  | [], _ :: _, ⟨e, _⟩ => by simp at e
  | _ :: _, [], ⟨e, _⟩ => by simp at e
  | v :: vs, n :: nss, ⟨e, r⟩ => by
    obtain ⟨wss, a1, a2, a3⟩ := rows_choose (h := h) (vs := vs) (nss := nss) ⟨by simpa using e, fun i n' e' => r (i + 1) n' e'⟩
    obtain ⟨l, ws, b1, b2, b3, b4, b5⟩ := r 0 n rfl
    refine ⟨ws :: wss, by rw [List.length_cons, List.length_cons, a1], fun i ws' e' => ?_, ?_⟩
    · cases i with
      | zero => cases e'; exact ⟨l, b1, b2, by rw [b3.length]; omega⟩
      | succ i => exact a2 i ws' e'
    · rw [List.flatten_cons, List.flatten_cons]; exact IntsAre.append b3 a3
theorem nss_small {h : Heap} {vs : List Value} {nss : List (List Int)} (r : RowsAt h vs nss) : nss.flatten.length ≤ 5 * nss.length := by
  have : ∀ n ∈ nss, n.length ≤ 5 := fun n hn => by
    obtain ⟨i, hi, e⟩ := List.mem_iff_getElem.mp hn
    obtain ⟨_, _, _, _, _, h5, _⟩ := r.2 i n (by rw [← e]; exact List.getElem?_eq_getElem hi)
    exact h5
  clear r
  induction nss with
  | nil => exact Nat.le_refl _
  | cons n r ih =>
    have h1 := this n (.head _)
    have h2 := ih fun m hm => this m (.tail _ hm)
    rw [List.flatten_cons, List.length_append, List.length_cons]
    omega
theorem iter_list2 {prog : Program} {w : World} {A : Around} {E : Value → Shared → Prop} {s : Shared} {l : Addr} {items : Array Value} {Q : Value → Shared → Prop} (hl : s.heap.IsList l items)
    (h : ∀ h' I, Kp s.heap h' → s.heap.objs.size ≤ I → h'.IsListIter I l 0 → Q (.ref I) { s with heap := h' }) :
    wpAny (model prog w) A (call (.builtin "iter") [.ref l]) Q E s := by
  refine call_function_entry (by decide +kernel) (by decide +kernel) kdk_entry_iter (kdk_args_iter _) ?_
  unfold Builtin.«iter»
  refine wpAny_bind (m := someArgs "iter" 1 2 _) (wpAny_of_eq (a := [Value.ref l]) (by first | rfl | kernel_rfl!) ?_)
  show wpAny _ _ (pyIter (.ref l) >>= _) _ _ _
  refine wpAny_bind (wpAny_pyIter_list hl ?_)
  exact wpAny_pure ⟨_, rfl, h _ _ (fun b o e => Heap.get?_push_of_some _ e) (Nat.le_refl _) ⟨_, Heap.get?_push_size _ rfl, rfl, rfl⟩⟩
section
local macro_rules | `(tactic| walk_at "eval Name") => `(tactic| first
  | (refine W_rows (by assumption) (by assumption) ?_)
  | (refine W_blt (LW.bas (by assumption)) (by rfl) ?_ (by kernel_rfl) (by decide)))
theorem stmt2 {w : World} {h0 : Heap} {L : Nat} {p65 : Array Value} {o23 : Obj} {c : List (Option Value)} {u : Option Value} {s : Shared} {A : Around} {lr : Addr} {vr : List Value} {nss : List (List Int)} {Q : Flow → Shared → Prop} {E : Value → Shared → Prop}
    (hh : A.handled = none) (X : LW w h0 L p65 o23 c s.heap) (hc2 : c[2]? = some (some (.ref lr))) (hc6 : c[6]? = some u) (hl : s.heap.IsList lr (List.toArray vr)) (hr : RowsAt s.heap vr nss) (hz : nss.length ≤ 16)
    (k : ∀ h' tk W lo vo, Lk s.heap h' → LW w h0 L p65 o23 (c.set 6 (some (.ref W))) h' → L + 7 < W → h'.IsListIter W lo 0 → h'.IsList lo (List.toArray vo) → IntsAre vo (nss.flatten ++ [64, 64]) → Q .next { s with heap := h', toks := tk }) :
    wpAny (model rw_mq0086_01.row.prog w) A (exec (lawS 2) (envW L)) Q E s := by
  conv in lawS 2 => whnf
  obtain ⟨wss, w1, w2, w3⟩ := rows_choose hr
  have hvz : vr.length ≤ 16 := by rw [hr.1]; exact hz
  have hsm := nss_small hr
  iterate 6 walk1
  refine lcFlat (cl := []) (by with_unfolding_all rfl) (by decide) rfl (by decide) rfl rfl (by decide) (by decide) hh ?_
  walk1
  refine ⟨lr, vr, wss, rfl, hl, w1, by omega, w2, ?_⟩
  rintro D h2 tk2 k2 hD0 ⟨kD, hD⟩
  repeat' walk1
  refine add_new (ys := List.toArray wss.flatten) ⟨kD, hD⟩ (by
    have := w3.length
    rw [List.size_toArray, this]
    show _ + 2 ≤ _
    omega) ?_
  intro h3 R k3 hR0 hR
  dsimp only
  repeat' walk1
  refine iter_list2 (Heap.PlainList.isList hR) ?_
  intro h4 W k4 hW0 hW
  have kk : Kp s.heap h4 := Kp.trans k2 (Kp.trans k3 k4)
  have X3 := X.keeps (Kp.trans k2 k3)
  have hWl : L + 7 < W := Nat.lt_of_lt_of_le X3.room hW0
  refine W_store 6 (X.keeps kk) (by decide) (by kernel_rfl) (by kernel_rfl) hc6 ?_
  intro h5 hlk hbut X5
  have hW5 : h5.IsListIter W R 0 := hW.at fun o e => hbut W o (fun q => by rw [q] at hWl; exact absurd hWl (by omega)) e
  have hI : IntsAre (List.toArray wss.flatten ++ #[Value.int 64 tk2, Value.int 64 (tk2 + 1)]).toList (nss.flatten ++ [64, 64]) := by
    rw [Array.toList_append]
    exact IntsAre.append w3 (.cons _ _ (.cons _ _ .nil))
  refine k h5 _ W R _ (Lk.trans (Lk.of kk) hlk) X5 hWl hW5 ?_ hI
  rw [Array.toArray_toList]
  exact list_lk (list_lk (Heap.PlainList.isList hR) (Lk.of k4)) hlk
end
end Mine
namespace Mine
open PySem.Challenge
set_option maxHeartbeats 0
set_option maxRecDepth 100000
/-- what holds of the heap at the law's start -/
structure Start (w : World) (h0 : Heap) : Prop where
  b65 : h0.get? 65 = some (ko w.params 65)
  b23 : h0.get? 23 = some (ko w.params 23)
  c67 : h0.get? 67 = some (ko w.params 67)
  c27 : h0.get? 27 = some (ko w.params 27)
noncomputable def ps65 (P : Params) : Array Value := itemsOf (ko P 65)
def esOf (o : Obj) : Array DictEntry := match o.data with | .dict es _ => es | _ => #[]
theorem bas_mg {P : Params} {h : Heap} (B : Bas P h) {ps : Array Value} {Pl : Addr} (e : h.get? Pl = some (tableObj ps)) : ∃ mg, h.Ns mainGlobals mg ∧ h.BuiltinsAt mg Pl ∧ mainGlobals ≠ Pl := by
  obtain ⟨mg, hns, _⟩ := B.gl
  have h3 : h.get? mainGlobals = some (ko P 3) := KG_ko B (a := 3) rfl
  obtain ⟨o, es, ep, ho, hd, hk, hf⟩ := id hns
  rw [h3] at ho
  cases ho
  have hes : es = esOf (ko P 3) := by unfold esOf; rw [hd]
  have hbm : mg (Str.ofString "__builtins__") = some (.ref 4) := by
    rw [← hf, hes]
    kernel_rfl
  obtain ⟨sl, h4⟩ := B.b4
  refine ⟨mg, hns, ⟨4, _, hbm, by decide, by decide, ?_, h4, rfl, rfl, rfl⟩, ?_⟩
  · rintro rfl; rw [h4] at e; have q := congrArg Obj.cls (Option.some.inj e); cases q
  · rintro rfl; rw [h3] at e; have q := congrArg Obj.cls (Option.some.inj e); cases q
section
variable {w : World} {h0 : Heap} {L : Nat} {p65 : Array Value} {o23 : Obj} {c : List (Option Value)} {A : Around} {E : Value → Shared → Prop} {s : Shared} {env : Env}
theorem code67 (S : Start w h0) (X : LW w h0 L p65 o23 c s.heap) : CodeHd s.heap 67 65 := by
  have g67 : s.heap.get? 67 = some (ko w.params 67) := X.old.get_of_cls S.c67 (by rw [show (ko w.params 67).cls = .type "code" from rfl]; nofun)
  exact ⟨ko w.params 67, itemsOf (ko w.params 67), _, _, _, _, _, _, _, g67, rfl, rfl, rfl, rfl, rfl, rfl, rfl, rfl, by decide⟩
theorem W_lambda {params : Arguments} {body : Expr} {scope : Scope} {pos : Pos} {clos : List (Str × Addr)} {Q : Value → Shared → Prop} (S : Start w h0) (X : LW w h0 L p65 o23 c s.heap)
    (hge : env.globals = mainGlobals) (hcode : env.code = .ref 67) (hcl : closureFor scope env = pure clos) (hdef : defaultsOf params env = ([], [])) (ht : TriplesOk p65.toList) (hnf : codeAmong pos p65.toList = none)
    (k : ∀ f c' ctv pm h' tk, LW w h0 L (p65 ++ #[rawInt pos.line, rawInt pos.col, .ref c']) o23 c h' → (∀ b o, b ≠ 65 → s.heap.get? b = some o → h'.get? b = some o) →
      h'.get? f = some (kla_obj (Str.ofString "<lambda>") (env.qual ++ Str.ofString "<lambda>") params body scope clos pm c' ctv) → h'.CodeRec (.ref c') (env.qual ++ Str.ofString "<lambda>") → s.heap.objs.size ≤ f → s.heap.objs.size ≤ c' → Q (.ref f) { s with heap := h', toks := tk }) :
    wpAny (model rw_mq0086_01.row.prog w) A (eval (.Lambda params body scope pos) env) Q E s := by
  obtain ⟨mg, hg, hb, hne⟩ := bas_mg X.bas X.t65
  refine kla_eval hdef (kla_makeFunction (mg := mg) hcl hge hg hcode (code67 S X) X.t65 ht hnf hne hb ?_)
  intro c' ctv h' tk hx hle hlt hrec ht'
  have hsz : s.heap.objs.size ≤ h'.objs.size := Nat.le_of_lt (Nat.lt_of_le_of_lt hle hlt)
  refine k _ c' ctv _ _ tk ((X.grow65 (more := #[rawInt pos.line, rawInt pos.col, .ref c']) ⟨_, S.b65⟩ S.c67 hx hsz ht').keeps fun b o e => Heap.get?_push_of_some _ e) (fun b o n e => Heap.get?_push_of_some _ (hx b o n e)) (Heap.get?_push_size _ rfl) (hrec.keeps fun b o e => Heap.get?_push_of_some _ e) hsz hle
theorem W_lambdaHit {params : Arguments} {body : Expr} {scope : Scope} {pos : Pos} {clos : List (Str × Addr)} {c' : Addr} {Q : Value → Shared → Prop} (S : Start w h0) (X : LW w h0 L p65 o23 c s.heap)
    (hge : env.globals = mainGlobals) (hcode : env.code = .ref 67) (hcl : closureFor scope env = pure clos) (hdef : defaultsOf params env = ([], [])) (ht : TriplesOk p65.toList) (hf : codeAmong pos p65.toList = some (.ref c'))
    (k : ∀ f ctv pm h' tk, Kp s.heap h' →
      h'.get? f = some (kla_obj (Str.ofString "<lambda>") (env.qual ++ Str.ofString "<lambda>") params body scope clos pm c' ctv) → s.heap.objs.size ≤ f → Q (.ref f) { s with heap := h', toks := tk }) :
    wpAny (model rw_mq0086_01.row.prog w) A (eval (.Lambda params body scope pos) env) Q E s := by
  obtain ⟨mg, hg, hb, hne⟩ := bas_mg X.bas X.t65
  refine kla_eval hdef (kla_makeFunctionHit (mg := mg) hcl hge hg hcode (code67 S X) X.t65 ht hf hb ?_)
  intro ctv h' tk hk hsz
  exact k _ ctv _ _ tk (fun b o e => Heap.get?_push_of_some _ (hk b o e)) (Heap.get?_push_size _ rfl) hsz
end
end Mine
namespace Mine
open PySem.Challenge
set_option maxHeartbeats 0
set_option maxRecDepth 100000
def askPos : Pos := askL.2.2.2
theorem tri65 (P : Params) : TriplesOk (ps65 P).toList := of_eq_true (by kernel_rfl)
theorem stmt3 {w : World} {h0 : Heap} {L : Nat} {o23 : Obj} {c : List (Option Value)} {u : Option Value} {s : Shared} {A : Around} {W : Addr} {Q : Flow → Shared → Prop} {E : Value → Shared → Prop}
    (S : Start w h0) (X : LW w h0 L (ps65 w.params) o23 c s.heap) (hc3 : c[3]? = some u) (hc6 : c[6]? = some (some (.ref W)))
    (k : ∀ h' tk f c', Lk s.heap h' → (∀ b o, b ≠ 65 → b ≠ L + 1 + 3 → s.heap.get? b = some o → h'.get? b = some o) → LW w h0 L (ps65 w.params ++ #[rawInt askPos.line, rawInt askPos.col, .ref c']) o23 (c.set 3 (some (.ref f))) h' → AskAt h' f (L + 1 + 6) W → Q .next { s with heap := h', toks := tk }) :
    wpAny (model rw_mq0086_01.row.prog w) A (exec (lawS 3) (envW L)) Q E s := by
  conv in lawS 3 => whnf
  walk1
  refine W_lambda S X rfl rfl (clos := [(Str.ofString "walker", L + 1 + 6)]) (by with_unfolding_all rfl) rfl (tri65 _) (by kernel_rfl) ?_
  intro f c' ctv pm h2 tk2 X2 kk hf hrec hfl _
  have lk2 : Lk s.heap h2 := Lk.fields X.t65 rfl kk
  refine W_store 3 X2 (by decide) (by kernel_rfl) (by kernel_rfl) hc3 ?_
  intro h3 hlk hbut X3
  have nf : f ≠ L + 1 + 3 := fun q => by
    have := Nat.lt_of_lt_of_le X.room hfl
    rw [q] at this
    exact absurd this (by omega)
  refine k h3 _ f c' (Lk.trans lk2 hlk) (fun b o n1 n2 e => hbut b o n2 (kk b o n1 e)) X3 ⟨⟨pm, c', ctv, hbut f _ nf hf, ?_⟩, X3.cell 6 _ ?_⟩
  · obtain ⟨c2, oc, vs, t, e1, e2, e3, e4⟩ := hrec
    refine ⟨c2, oc, vs, t, e1, hbut c2 _ (fun q => ?_) e2, e3, e4⟩
    obtain ⟨oc', g1, g2⟩ := X2.cell 3 _ hc3
    rw [q, g1] at e2; cases e2; rw [g2] at e3; cases e3
  · rw [List.getElem?_set_ne (by decide)]; exact hc6
end Mine
namespace Mine
open PySem.Challenge
set_option maxHeartbeats 0
set_option maxRecDepth 100000
def offN (nss : List (List Int)) (i : Nat) : Nat := (nss.take i).flatten.length
theorem off_succ {nss : List (List Int)} {i : Nat} {n : List Int} (h : nss[i]? = some n) : offN nss (i + 1) = offN nss i + n.length := by
  unfold offN
  have : nss.take (i + 1) = nss.take i ++ [n] := by rw [List.take_add_one, h]; rfl
  rw [this, List.flatten_append, List.length_append]
  simp
theorem off_drop {nss : List (List Int)} {i : Nat} {n t : List Int} (h : nss[i]? = some n) : (nss.flatten ++ t).drop (offN nss i) = n ++ ((nss.drop (i + 1)).flatten ++ t) := by
  have hi := (List.getElem?_eq_some_iff.mp h).1
  have e : nss = nss.take i ++ n :: nss.drop (i + 1) := by
    have h1 : nss.drop i = n :: nss.drop (i + 1) := by
      rw [List.drop_eq_getElem_cons hi]
      congr 1
      exact (List.getElem?_eq_some_iff.mp h).2
    rw [← h1, List.take_append_drop]
  unfold offN
  have e2 : nss.flatten = (nss.take i).flatten ++ (n ++ (nss.drop (i + 1)).flatten) := by
    conv => lhs; rw [e]
    rw [List.flatten_append, List.flatten_cons]
  rw [e2, List.append_assoc, List.drop_left', List.append_assoc]
  rfl
theorem AskAt.but {h h' : Heap} {f cw W l : Addr} {j : Nat} (X : AskAt h f cw W) (hit : h.IsListIter W l j) (k : ∀ b o, b ≠ W → h.get? b = some o → h'.get? b = some o) : AskAt h' f cw W := by
  obtain ⟨oW, w1, _, w3⟩ := hit
  obtain ⟨⟨pm, c', ctv, a, c2, oc, vs, t, e1, e2, e3, e4⟩, oc', b1, b2⟩ := X
  refine ⟨⟨pm, c', ctv, k f _ ?_ a, c2, oc, vs, t, e1, k c2 _ ?_ e2, e3, e4⟩, oc', k cw _ ?_ b1, b2⟩
  · rintro rfl; rw [w1] at a; have := congrArg Obj.data (Option.some.inj a); rw [w3] at this; cases this
  · rintro rfl; rw [w1] at e2; cases e2; rw [w3] at e3; cases e3; cases e4
  · rintro rfl; rw [w1] at b1; cases b1; rw [w3] at b2; cases b2
def AskJ (h0 : Heap) (nss : List (List Int)) (xs : List Int) (W lo : Addr) (i : Nat) (ys : List Value) (h : Heap) : Prop :=
  (∀ b o, b ≠ W → h0.get? b = some o → h.get? b = some o) ∧ IntsAre ys (xs.take i) ∧ h.IsListIter W lo (offN nss i)
section
local macro_rules | `(tactic| walk_at "nothing here") => `(tactic| fail)
local macro_rules | `(tactic| walk_at "eval Name") => `(tactic| first
  | (refine W_rows (by assumption) (by assumption) ?_)
  | (refine nm_cell (by rfl) (by assumption) ?_ (by kernel_rfl) (by kernel_rfl) (by decide)))
theorem asks_comp {w : World} {h0 : Heap} {L : Nat} {p65 : Array Value} {o23 : Obj} {c : List (Option Value)} {s : Shared} {A : Around} {lr f W lo : Addr} {vr vo : List Value} {xs : List Int} {scope : Scope} {p1 p2 p3 p4 pos : Pos} {Q : Value → Shared → Prop} {E : Value → Shared → Prop}
    (hh : A.handled = none) (hA : A.depth < 800) (X : LW w h0 L p65 o23 c s.heap) (hc2 : c[2]? = some (some (.ref lr))) (hc3 : c[3]? = some (some (.ref f))) (hl : s.heap.IsList lr (List.toArray vr)) (hr : RowsAt s.heap vr (nssOf xs)) (hz : xs.length ≤ 16) (hx : Small xs)
    (hask : AskAt s.heap f (L + 1 + 6) W) (hW : L + 7 < W) (hit : s.heap.IsListIter W lo 0) (hlo : s.heap.IsList lo (List.toArray vo)) (hvo : IntsAre vo ((nssOf xs).flatten ++ [64, 64]))
    (hcl : closureFor scope (envW L) = pure [(Str.ofString "ask", L + 1 + 3)]) (hcell : ∀ y ∈ scope.names, y.2 ≠ .cell) (hkind : scope.kind = .function)
    (hnames : ∀ y ∈ scope.names, y.2 = .local → scope.names.lookup y.1 = some .local) (hx1 : scope.names.lookup (Str.ofString "row") = some .local)
    (hk2 : ∀ C, (compEnvC scope [(Str.ofString "ask", L + 1 + 3)] C (envW L)).kindOf (Str.ofString "ask") = some .cell)
    (k : ∀ D h' tk ys, (∀ b o, b ≠ W → s.heap.get? b = some o → h'.get? b = some o) → h'.IsList D (List.toArray ys) → IntsAre ys xs → h'.IsListIter W lo (nssOf xs).flatten.length → Q (.ref D) { s with heap := h', toks := tk }) :
    wpAny (model rw_mq0086_01.row.prog w) A (eval (.ListComp (.Call (.Name (Str.ofString "ask") p1) [] [] p2) [⟨.Name (Str.ofString "row") p3, .Name (Str.ofString "rows") p4, [], 0⟩] scope pos) (envW L)) Q E s := by
  have hlt : lr < s.heap.objs.size := by obtain ⟨_, e, _⟩ := hl; exact Heap.lt_size e
  have hvz : vr.length = xs.length := by rw [hr.1, nss_len]
  have lW : ∀ {l : Addr} {its : Array Value}, s.heap.IsList l its → l ≠ W := by
    rintro l its ⟨o, e, _, n, d⟩ rfl
    obtain ⟨o', e', _, d'⟩ := hit
    rw [e] at e'; cases e'; rw [d] at d'; cases d'
  refine lcG hcl hcell hkind hnames hx1 ?_
  walk1
  refine wpAny_pyIter_list hl ?_
  have hne : lr ≠ s.heap.objs.size := Nat.ne_of_lt hlt
  have kp : Kp s.heap (s.heap.push { cls := .type "list_iterator", data := .fields #[.ref lr, .int 0 0] }) := fun b o e => Heap.get?_push_of_some _ e
  have hsz : s.heap.objs.size < (s.heap.push { cls := .type "list_iterator", data := .fields #[.ref lr, .int 0 0] }).objs.size := by rw [Heap.size_push]; exact Nat.lt_succ_self _
  have hI0 : (s.heap.push { cls := .type "list_iterator", data := .fields #[.ref lr, .int 0 0] }).IsListIter s.heap.objs.size lr 0 := ⟨_, Heap.get?_push_size _ rfl, rfl, rfl⟩
  have hWl : W < s.heap.objs.size := by obtain ⟨_, e, _⟩ := hit; exact Heap.lt_size e
  refine GP.mk xs.length (fun i v => vr[i]? = some v) (fun i h => h.IsListIter s.heap.objs.size lr i ∧ h.IsList lr (List.toArray vr)) [s.heap.objs.size, lr] (fun C D i ys h => AskJ s.heap (nssOf xs) xs W lo i ys h) ?W (by omega) ⟨hI0, hl.at fun o e => kp _ o e⟩ ?fp ?j0 ?jst ?turn ?done
  case W =>
    have W := Walks.list (prog := rw_mq0086_01.row.prog) (w := w) hh s.heap.objs.size lr hne (List.toArray vr)
    rw [show (List.toArray vr).size = xs.length from by rw [List.size_toArray, hvz]] at W
    exact ⟨W.sub, W.frame, fun i s Q E hi st hQ => W.item i s Q E hi st fun v h' tk hv => hQ v h' tk (by simpa using hv), W.done, W.self⟩
  case fp =>
    intro b hb
    rcases List.mem_cons.mp hb with rfl | hb
    · exact hsz
    · rw [List.mem_singleton.mp hb]; exact Nat.lt_trans hlt hsz
  case j0 =>
    intro C D h _ _ kk
    exact ⟨fun b o _ e => kk b o (kp b o e), .nil, (hit.at fun o e => kp _ o e).at fun o e => kk _ o e⟩
  case jst =>
    rintro C D i ys h h' hC hD ⟨j1, j2, j3⟩ kk
    have nI : ∀ {b : Nat} {o}, s.heap.get? b = some o → b ≠ s.heap.objs.size := fun e => Nat.ne_of_lt (Heap.lt_size e)
    have nC : ∀ {b : Nat} {o}, s.heap.get? b = some o → b ≠ C := fun e => Nat.ne_of_lt (Nat.lt_of_lt_of_le (Nat.lt_trans (Heap.lt_size e) hsz) hC)
    have nD : ∀ {b : Nat} {o}, s.heap.get? b = some o → b ≠ D := fun e => Nat.ne_of_lt (Nat.lt_of_lt_of_le (Nat.lt_trans (Heap.lt_size e) hsz) hD)
    obtain ⟨oW, eW, _⟩ := hit
    exact ⟨fun b o n e => kk b o (nI e) (nC e) (nD e) (j1 b o n e), j2, j3.at fun o e => kk W o (nI eW) (nC eW) (nD eW) e⟩
  case turn =>
    rintro C D i ys v h tk m hC hD hCD hi' _ hv hst hns hm ⟨kD, hD'⟩ ⟨j1, j2, j3⟩
    refine wpAny_tests_nil ?_
    rw [if_pos rfl]
    have X1 := X.but hW j1
    have hc1 : h.IsCell (L + 1 + 3) (some (.ref f)) := X1.cell 3 _ hc3
    have ha1 := hask.but hit j1
    have hlo1 := hlo.at fun o e => j1 lo o (lW hlo) e
    have B1 := X1.bas
    have sx := hx.at hi'
    obtain ⟨x0, r, ho, hc, hrl⟩ := chain_octs (n := xs.getD i 0) (a := (i : Int) % 3) sx.1 sx.2 (by omega) (by omega)
    have hn := nss_at hi'
    have hdr := off_drop (t := [64, 64]) hn
    rw [ho] at hdr
    have hge : 69 ≤ W := Nat.le_of_lt (Nat.lt_of_le_of_lt (Nat.le_trans X.low (Nat.le_trans X.above (Nat.le_add_right L 7))) hW)
    walk1
    refine nm_cell (c := L + 1 + 3) (by rfl) hc1 ?_ hkind (hk2 C) (by decide)
    refine callWith_F0 ha1.isFn ?_
    refine ask_call B1 (by omega) ha1 j3 hlo1 hvo hge hdr hc hrl ?_
    intro h3 tk3 t k3 hit3
    dsimp only
    have ev : vfold 0 (x0 :: r) = xs.getD i 0 := by rw [← ho, vfold_octs sx.1 sx.2]
    rw [ev]
    have nC : (C : Nat) ≠ W := Nat.ne_of_gt (Nat.lt_of_lt_of_le (Nat.lt_trans hWl hsz) hC)
    have nD : (D : Nat) ≠ W := Nat.ne_of_gt (Nat.lt_of_lt_of_le (Nat.lt_trans hWl hsz) hD)
    refine ⟨h3, tk3, rfl, fun o e => k3 C o nC e, fun o e => k3 D o nD e, fun b hb o e => k3 b o ?_ e, fun b o n e => k3 b o n (j1 b o n e), ?_, ?_⟩
    · rcases List.mem_cons.mp hb with rfl | hb
      · exact Nat.ne_of_gt hWl
      · rw [List.mem_singleton.mp hb]; exact lW hl
    · have : xs.take (i + 1) = xs.take i ++ [xs.getD i 0] := by
        rw [List.take_add_one, List.getElem?_eq_getElem hi', List.getD_eq_getElem?_getD, List.getElem?_eq_getElem hi']; rfl
      rw [this]
      exact IntsAre.append j2 (.cons _ _ .nil)
    · rw [off_succ hn, ho, List.length_cons, Nat.add_comm r.length 1, ← Nat.add_assoc]
      exact hit3
  case done =>
    rintro C D ys h tk hC hD hCD _ ⟨j1, j2, j3⟩ ⟨kD, hD'⟩
    rw [List.take_length] at j2
    have e : offN (nssOf xs) xs.length = (nssOf xs).flatten.length := by
      unfold offN; rw [List.take_of_length_le (by rw [nss_len]; exact Nat.le_refl _)]
    rw [e] at j3
    exact k D h _ ys j1 ⟨_, hD', rfl, kD, rfl⟩ j2 j3
end
end Mine
namespace Mine
open PySem.Challenge
set_option maxHeartbeats 0
set_option maxRecDepth 100000
theorem DeadIter.typeIs {s : Shared} {I : Addr} (x : DeadIter s.heap I) : s.TypeIs (.ref I) "list_iterator" := let ⟨o, _, a, b, _⟩ := x; ⟨o, a, b⟩
section
variable {prog : Program} {w : World} {A : Around} {E : Value → Shared → Prop} {s : Shared}
theorem pyIter_dead {I : Addr} {Q : Value → Shared → Prop} (hit : DeadIter s.heap I) (h : Q (.ref I) s) : wpAny (model prog w) A (pyIter (.ref I)) Q E s := by
  refine wpAny_pyIter_slot hit.typeIs slot_listiter_iter (wpAny_call_entry slot_listiter_iter hit.typeIs entry_listiter_iter ?_ (args_listiter_iter _))
  show wpAny _ _ (ret (.ref I)) _ _ s
  exact wpAny_pure ⟨_, rfl, "list_iterator", _, hit.typeIs, slot_listiter_next.lookup, h⟩
theorem pyNext_dead {I : Addr} {Q : Option Value → Shared → Prop} (hh : A.handled = none) (hit : DeadIter s.heap I) (hQ : ∀ h', Kp s.heap h' → Q none { s with heap := h' }) : wpAny (model prog w) A (pyNext (.ref I)) Q E s := by
  have hT := hit.typeIs
  obtain ⟨o, v, ho, hc, hd⟩ := hit
  unfold pyNext
  refine wpAny_bind (wpAny_attempt (wpAny_callSpecial?_slot (name := Str.ofString "__next__") hT slot_listiter_next
    (wpAny_call_entry slot_listiter_next hT entry_listiter_next ?_ (args_listiter_next _))))
  show wpAny _ _ (field (.ref I) 0 >>= _) _ _ s
  refine wpAny_bind (wpAny_field ho hd (x := .none) rfl ?_)
  show wpAny _ _ (if (Value.none == Value.none) = true then _ else _) _ _ s
  rw [if_pos (show (Value.none == Value.none) = true from rfl)]
  refine wpAny_bind (wpAny_rule ?_)
  refine wpAny_bind ?_
  show wpAny _ _ (newExc (.type "StopIteration") [] >>= _) _ _ _
  refine wpAny_bind ?_
  simp only [newExc, newTuple]
  refine wpAny_bind (wpAny_newObj_type ?_ (by size_fits))
  refine wpAny_bind (m := firstArgMember _ _) (wpAny_of_eq (a := Value.none) (by first | rfl | (simp only [firstArgMember]; rfl)) ?_)
  refine wpAny_newObj_type ?_ (by size_fits)
  simp only [raiseNew]
  refine wpAny_bind (wpAny_handled ?_)
  rw [show A.in1.handled = none from hh]
  refine wpAny_bind (wpAny_pure (wpAny_throw ?_))
  refine wpAny_bind (wpAny_isInstance (T := "StopIteration") (b := true) ⟨_, Heap.get?_push_size _ rfl, rfl⟩ isSubtype_stop ?_)
  exact wpAny_pure (hQ _ fun b o e => Heap.get?_push_of_some _ (Heap.get?_push_of_some _ e))
theorem walks_dead {I : Addr} (hh : A.handled = none) : Walks prog w A I [I] [I] 0 (fun _ _ => True) (fun _ h => DeadIter h I) where
  sub := fun b hb => hb
  frame := fun i h h' x k => by
    obtain ⟨o, v, a, b, c⟩ := x
    exact ⟨o, v, k I (List.mem_singleton.mpr rfl) _ a, b, c⟩
  item := fun i s Q E hi => absurd hi (Nat.not_lt_zero _)
  done := fun s Q E st hQ => pyNext_dead hh st fun h' k => hQ h' s.toks fun b o _ e => k b o e
  self := fun i s Q E st hQ => pyIter_dead st hQ
end
/-- [octet for octet in walker], the walker at its end -/
theorem rest_comp {w : World} {L : Nat} {s : Shared} {A : Around} {W : Addr} {elt iter : Expr} {x : Str} {px : Pos} {scope : Scope} {cl : List (Str × Addr)} {pos : Pos} {Q : Value → Shared → Prop} {E : Value → Shared → Prop}
    (hh : A.handled = none) (hd : DeadIter s.heap W) (hcl : closureFor scope (envW L) = pure cl) (hcell : ∀ y ∈ scope.names, y.2 ≠ .cell) (hkind : scope.kind = .function)
    (hnames : ∀ y ∈ scope.names, y.2 = .local → scope.names.lookup y.1 = some .local) (hx1 : scope.names.lookup x = some .local)
    (hi : ∀ Q' : Value → Shared → Prop, Q' (.ref W) s → wpAny (model rw_mq0086_01.row.prog w) A (eval iter (envW L)) Q' E s)
    (k : ∀ D h' tk, (∀ b o, b ≠ W → s.heap.get? b = some o → h'.get? b = some o) → h'.IsList D #[] → Q (.ref D) { s with heap := h', toks := tk })
    (hs : ∀ x, foldedSetIterable iter (envW L) x = pure x := by intro _; rfl) :
    wpAny (model rw_mq0086_01.row.prog w) A (eval (.ListComp elt [⟨.Name x px, iter, [], 0⟩] scope pos) (envW L)) Q E s := by
  refine lcG hcl hcell hkind hnames hx1 (hi _ (pyIter_dead hd ?_)) hs
  have hW : W < s.heap.objs.size := by obtain ⟨o, v, a, _⟩ := hd; exact Heap.lt_size a
  refine GP.mk 0 (fun _ _ => True) (fun _ h => DeadIter h W) [W] (fun C D i ys h => ys = [] ∧ ∀ b o, b ≠ W → s.heap.get? b = some o → h.get? b = some o) (walks_dead hh) (by decide) hd (fun b hb => by rw [List.mem_singleton.mp hb]; exact hW) ?_ ?_ ?_ ?_
  · exact fun C D h _ _ kk => ⟨rfl, fun b o _ e => kk b o e⟩
  · rintro C D i ys h h' hC hD ⟨j1, j2⟩ kk
    exact ⟨j1, fun b o n e => kk b o n (Nat.ne_of_lt (Nat.lt_of_lt_of_le (Heap.lt_size e) hC)) (Nat.ne_of_lt (Nat.lt_of_lt_of_le (Heap.lt_size e) hD)) (j2 b o n e)⟩
  · intro C D i ys v h tk m _ _ _ hi
    exact absurd hi (Nat.not_lt_zero _)
  · rintro C D ys h tk _ _ _ _ ⟨rfl, j2⟩ ⟨kD, hD⟩
    exact k D h tk j2 ⟨_, hD, rfl, kD, rfl⟩
end Mine
namespace Mine
open PySem.Challenge
set_option maxHeartbeats 0
set_option maxRecDepth 100000
theorem LW.frames {w : World} {h0 : Heap} {L : Nat} {p65 : Array Value} {o23 : Obj} {c : List (Option Value)} {h : Heap} (X : LW w h0 L p65 o23 c h) : h.FunFrames h0 [envW L] := by
  obtain ⟨m, o, es, ep, ho, hd, _⟩ := X.ns
  exact ⟨(show (scp 11).kind ≠ .module by decide), ⟨L, o, rfl, Heap.get?_none_of_le X.above, ho, fun vs q => by rw [hd] at q; cases q⟩, trivial⟩
theorem LW.low69 {w : World} {h0 : Heap} {L : Nat} {p65 : Array Value} {o23 : Obj} {c : List (Option Value)} {h : Heap} (X : LW w h0 L p65 o23 c h) : 69 ≤ L := Nat.le_trans X.low X.above
section
local macro_rules | `(tactic| walk_at "nothing here") => `(tactic| fail)
local macro_rules | `(tactic| walk_at "nothing here") => `(tactic| fail)
local macro_rules | `(tactic| walk_at "eval Name") => `(tactic| first
  | (refine W_numbers (by assumption) (by assumption) ?_)
  | (refine W_ask (by assumption) (by assumption) ?_)
  | (refine W_walker (by assumption) (by assumption) ?_)
  | (refine W_own (LW.bas (by assumption)) (by rfl) ?_ (by kernel_rfl) (by decide)))
theorem stmt4 {w : World} {h0 : Heap} {L : Nat} {p65 : Array Value} {o23 : Obj} {c : List (Option Value)} {s : Shared} {A : Around} {ln lr f W lo : Addr} {vn vr vo : List Value} {xs : List Int} {Q : Flow → Shared → Prop} {E : Value → Shared → Prop}
    (hh : A.handled = none) (hA : A.depth < 800) (hu : A.units < 8000) (hfr : A.frames = some [envW L]) (X : LW w h0 L p65 o23 c s.heap) (hc0 : c[0]? = some (some (.ref ln))) (hc2 : c[2]? = some (some (.ref lr))) (hc3 : c[3]? = some (some (.ref f))) (hc6 : c[6]? = some (some (.ref W)))
    (hln : s.heap.IsList ln (List.toArray vn)) (hi : IntsAre vn xs) (hl : s.heap.IsList lr (List.toArray vr)) (hr : RowsAt s.heap vr (nssOf xs)) (hz : xs.length ≤ 16) (hx : Small xs)
    (hask : AskAt s.heap f (L + 1 + 6) W) (hW : L + 7 < W) (hit : s.heap.IsListIter W lo 0) (hlo : s.heap.IsList lo (List.toArray vo)) (hvo : IntsAre vo ((nssOf xs).flatten ++ [64, 64]))
    (k : ∀ h' tk, LW w h0 L p65 o23 c h' → (∀ b o, b ≠ W → b ≠ L → s.heap.get? b = some o → h'.get? b = some o) → Q .next { s with heap := h', toks := tk }) :
    wpAny (model rw_mq0086_01.row.prog w) A (exec (lawS 4) (envW L)) Q E s := by
  conv in lawS 4 => whnf
  have hcl : cLine = 9900 := rfl
  have hnW : ∀ {l : Addr} {its : Array Value}, s.heap.IsList l its → l ≠ W := by
    rintro l its ⟨o, e, _, n, d⟩ rfl
    obtain ⟨o', e', _, d'⟩ := hit
    rw [e] at e'; cases e'; rw [d] at d'; cases d'
  iterate 3 walk1
  refine asks_comp hh hA X hc2 hc3 hl hr hz hx hask hW hit hlo hvo (by with_unfolding_all rfl) (by decide) rfl (by decide) rfl (fun C => by kernel_rfl) ?_
  intro D1 h1 tk1 ys k1 hD1 hI1 hit1
  have X1 := X.but hW k1
  have hln1 := hln.at fun o e => k1 _ o (hnW hln) e
  have hlo1 := hlo.at fun o e => k1 _ o (hnW hlo) e
  have ha1 := hask.but hit k1
  iterate 1 walk1
  refine ke_ne_ints hD1 hln1 hI1 hi (by omega) ?_
  rw [decide_eq_true (rfl : xs = xs)]
  repeat' walk1
  refine cw_own X1.bas ⟨_, rfl⟩ rfl ?_ rfl
  iterate 2 walk1
  try walk1
  refine ⟨X1.bas, ?_⟩
  have hge : 69 ≤ W := Nat.le_of_lt (Nat.lt_of_le_of_lt (Nat.le_trans X1.low69 (Nat.le_add_right L 7)) hW)
  refine over_call X1.bas (by omega) hh ha1 hfr X1.frames (fun a ha => ?_) hit1 hlo1 hvo hge (by rw [List.drop_left]) ?_
  · have : a = L := List.mem_singleton.mp (show a ∈ [L] from ha)
    rw [this]; exact X1.low69
  intro h2 tk2 k2 hdead up2
  have k2' : ∀ b o, b ≠ W → b ≠ L → h1.get? b = some o → h2.get? b = some o := fun b o n1 n2 e => k2 b o e n1 (fun hm => n2 (List.mem_singleton.mp (show b ∈ [L] from hm)))
  have X2 : LW w h0 L p65 o23 c h2 := X1.over hW (fun b o e n1 n2 => k2' b o n1 n2 e) up2
  have kk2 : ∀ b o, b ≠ W → b ≠ L → s.heap.get? b = some o → h2.get? b = some o := fun b o n1 n2 e => k2' b o n1 n2 (k1 b o n1 e)
  iterate 4 walk1
  refine rest_comp (cl := []) hh hdead (by with_unfolding_all rfl) (by decide) rfl (by decide) rfl (fun Q' h => W_walker X2 hc6 h) ?_
  intro D3 h3 tk3 k3 hD3
  have X3 := X2.but hW k3
  have kk3 : ∀ b o, b ≠ W → b ≠ L → s.heap.get? b = some o → h3.get? b = some o := fun b o n1 n2 e => k3 b o n1 (kk2 b o n1 n2 e)
  iterate 2 walk1
  refine wpAny_newList ?_ (Nat.zero_le _)
  generalize hH : h3.push { cls := .type "list", data := .seq #[] } = h4
  have k4 : Kp h3 h4 := fun b o e => hH ▸ Heap.get?_push_of_some _ e
  have hD4 : h4.IsList h3.objs.size (List.toArray []) := ⟨_, hH ▸ Heap.get?_push_size _ rfl, rfl, 0, rfl⟩
  have X4 := X3.keeps k4
  refine ke_ne_ints (xs := []) (ys := []) (ns := []) (ms := []) (hD3.at fun o e => k4 _ o e) hD4 .nil .nil (by omega) ?_
  repeat' walk1
  exact k h4 _ X4 fun b o n1 n2 e => k4 _ _ (kk3 b o n1 n2 e)
end
end Mine
namespace Mine
open PySem.Challenge
set_option maxHeartbeats 0
set_option maxRecDepth 100000
abbrev lq : Str := Str.ofString "law.<locals>.<lambda>"
def redL : Arguments × Expr × Scope × Pos := match lawS 5 with | .If (.Compare (.ListComp (.Call _ (.Lambda p b sc pos :: _) _ _) _ _ _) _ _ _) _ _ _ => (p, b, sc, pos) | _ => default
def envRL (f c' L : Nat) : Env := envX lq redL.2.2.1 L f (.ref c') []
theorem red_body : ∃ p1 p2 p3 p4 p5 p6 p7, redL.2.1 = .BinOp (.BinOp (.Name (Str.ofString "told") p1) .Mult (.Constant (.int 64) 0 p2) p3) .Add (.BinOp (.Name (Str.ofString "octet") p4) .Mod (.Constant (.int 64) 0 p5) p6) p7 := ⟨_, _, _, _, _, _, _, rfl⟩
theorem vfold_snoc (v : Int) (l : List Int) (x : Int) : vfold v (l ++ [x]) = vfold v l * 64 + x % 64 := by unfold vfold; rw [List.foldl_append]; rfl
theorem vfold_bound : ∀ (n : Nat) (l : List Int), l.length = n → 0 ≤ vfold 0 l ∧ vfold 0 l < 64 ^ n
  | 0, l, h => by
    have : l = [] := List.length_eq_zero_iff.mp h
    subst this
    exact ⟨Int.le_refl _, by decide⟩
  | n + 1, l, h => by
    have hne : l ≠ [] := fun q => by rw [q] at h; cases h
    have e := List.dropLast_concat_getLast hne
    have ih := vfold_bound n l.dropLast (by rw [List.length_dropLast, h]; rfl)
    rw [← e, vfold_snoc]
    have : (64 : Int) ^ (n + 1) = 64 ^ n * 64 := Int.pow_succ ..
    omega
theorem red_call {w : World} {s : Shared} {A : Around} {f c' l : Addr} {ws : List Value} {n : List Int} {pm ctv : Value} {t0 : Tok} {Q E : Value → Shared → Prop} (B : Bas w.params s.heap) (hA : A.depth < 880) (hh : A.handled = none)
    (hf : s.heap.get? f = some (kla_obj (Str.ofString "<lambda>") lq redL.1 redL.2.1 redL.2.2.1 [] pm c' ctv)) (hcd : s.heap.CodeRec (.ref c') lq) (hl : s.heap.IsList l (List.toArray ws)) (hi : IntsAre ws n) (hn : n.length ≤ 5)
    (k : ∀ h' tk t, Kp s.heap h' → Q (.int (vfold 0 n) t) { s with heap := h', toks := tk }) :
    wpAny (model rw_mq0086_01.row.prog w) A (call (.ref 37) [.ref f, .ref l, .int 0 t0]) Q E s := by
  refine reduce3_call (J := fun i v => ∃ t, v = .int (vfold 0 (n.take i)) t) B (by omega) hh hl hf rfl ⟨t0, rfl⟩ ?_ ?_
  · rintro i v x s' kk ⟨t, rfl⟩ hx
    have hil : i < n.length := by
      rw [← hi.length]
      have := (Array.getElem?_eq_some_iff.mp hx).1
      simpa using this
    obtain ⟨tx, ex⟩ := at_getD hi hil
    have : x = .int (n.getD i 0) tx := by
      have h2 : ws[i]? = some x := by simpa using hx
      rw [ex] at h2; cases h2; rfl
    subst this
    have bd := vfold_bound i (n.take i) (by rw [List.length_take]; omega)
    have bp : (64 : Int) ^ i ≤ 1073741824 := pow64 (by omega)
    refine wpAny_call ?_
    refine lam_call (kk _ _ hf) (hcd.keeps kk) (by have : recursionLimit = 1000 := rfl; show A.depth + 1 < _; omega) (B.keeps kk).lim (binds := [(Str.ofString "told", .int (vfold 0 (n.take i)) t), (Str.ofString "octet", .int (n.getD i 0) tx)]) (by kernel_rfl) (locs rfl) ?_ (by kernel_rfl) (by kernel_rfl) (by kernel_rfl) (by decide)
    intro h₁ hns k1
    change wpAny _ (Around.deeper _ (envRL f c' s'.heap.objs.size)) (eval redL.2.1 (envRL f c' s'.heap.objs.size)) _ _ _
    refine wpAny_mono (E := fun _ _ => False) ?_ (fun _ _ x => x) (fun _ _ x => x.elim)
    obtain ⟨m, hn1, e1, e2⟩ : ∃ m, h₁.Ns s'.heap.objs.size m ∧ m (Str.ofString "told") = some (.int (vfold 0 (n.take i)) t) ∧ m (Str.ofString "octet") = some (.int (n.getD i 0) tx) := ⟨_, hns, rfl, rfl⟩
    clear hns
    generalize hV : vfold 0 (n.take i) = V at *
    have hVb : V < 1073741824 := by omega
    have hV0 : 0 ≤ V := bd.1
    obtain ⟨p1, p2, p3, p4, p5, p6, p7, eb⟩ := red_body
    rw [eb]
    dsimp only
    have hnt : n.take (i + 1) = n.take i ++ [n.getD i 0] := by
      rw [List.take_add_one, List.getElem?_eq_getElem hil, List.getD_eq_getElem?_getD, List.getElem?_eq_getElem hil]; rfl
    walk1
    walk1
    refine nm_loc (env := envRL f c' s'.heap.objs.size) hn1 e1 ?_ (by kernel_rfl) (by kernel_rfl) (by decide)
    walk1
    walk1
    walk1
    refine nm_loc (env := envRL f c' s'.heap.objs.size) hn1 e2 ?_ (by kernel_rfl) (by kernel_rfl) (by decide)
    iterate 3 walk1
    rw [hnt, vfold_snoc, hV, ← fm64]
    exact ⟨⟨_, rfl⟩, h₁, _, rfl, k1⟩
  · rintro h' tk v kk ⟨t, rfl⟩
    rw [List.size_toArray, hi.length, List.take_length]
    exact k h' tk t kk
end Mine
namespace Mine
open PySem.Challenge
set_option maxHeartbeats 0
set_option maxRecDepth 100000
theorem LW.buts {w : World} {h0 h h' : Heap} {L : Nat} {p65 : Array Value} {o23 : Obj} {c : List (Option Value)} (X : LW w h0 L p65 o23 c h) (k : ∀ (b : Nat) o, b ≤ L + 7 → h.get? b = some o → h'.get? b = some o) : LW w h0 L p65 o23 c h' := by
  have hl := X.low
  have hab := X.above
  exact ⟨X.bas.low fun b o hb _ _ e => k b o (Nat.le_trans (Nat.le_of_lt hb) (Nat.le_trans hl (Nat.le_trans hab (Nat.le_add_right L 7)))) e, old_step X.old fun b o hb e => k b o (Nat.le_trans (Nat.le_of_lt hb) (Nat.le_trans hab (Nat.le_add_right L 7))) e, X.low, X.above, X.len, by
    obtain ⟨o, e, _⟩ := X.cell 6 _ (List.getElem?_eq_getElem (by rw [X.len]; decide))
    exact Heap.lt_size (k (L + 1 + 6) _ (by omega) e), let ⟨m, e⟩ := X.ns; ⟨m, e.at' fun o q => k L o (by omega) q⟩, k 65 _ (by omega) X.t65, k 23 _ (by omega) X.t23, fun i v e => by
    have hi : i < 7 := by rw [← X.len]; exact (List.getElem?_eq_some_iff.mp e).1
    obtain ⟨o, q1, q2⟩ := X.cell i v e
    exact ⟨o, k (L + 1 + i) _ (by omega) q1, q2⟩⟩
theorem tri_snoc {a b : Int} {t u : Tok} {x : Value} : ∀ {l : List Value}, TriplesOk l → TriplesOk (l ++ [.int a t, .int b u, x]) := by
  intro l h
  fun_induction TriplesOk l with
  | case1 => exact trivial
  | case2 _ _ _ _ _ r ih => exact ih h
  | case3 => exact h.elim
theorem rec_at {h h' : Heap} {c' : Nat} {q : Str} (x : h.CodeRec (.ref c') q) (k : ∀ o, h.get? c' = some o → h'.get? c' = some o) : h'.CodeRec (.ref c') q := by
  obtain ⟨c2, oc, vs, t, e1, e2, e3, e4⟩ := x
  cases e1
  exact ⟨_, oc, vs, t, rfl, k _ e2, e3, e4⟩
abbrev p65n (p65 : Array Value) (pos : Pos) (c' : Addr) : Array Value := p65 ++ #[rawInt pos.line, rawInt pos.col, .ref c']
def RedJ (w : World) (h0 : Heap) (L : Nat) (p65 : Array Value) (o23 : Obj) (c : List (Option Value)) (hs : Heap) (xs : List Int) (pos : Pos) (I C D : Addr) (i : Nat) (ys : List Value) (h : Heap) : Prop :=
  (∀ b o, b ≠ 65 → hs.get? b = some o → h.get? b = some o) ∧ IntsAre ys (xs.take i) ∧
    ((i = 0 ∧ LW w h0 L p65 o23 c h) ∨ (∃ c', LW w h0 L (p65n p65 pos c') o23 c h ∧ h.CodeRec (.ref c') lq ∧ c' ≠ I ∧ c' ≠ C ∧ c' ≠ D))
def redPos : Pos := redL.2.2.2
section
local macro_rules | `(tactic| walk_at "nothing here") => `(tactic| fail)
local macro_rules | `(tactic| walk_at "nothing here") => `(tactic| fail)
local macro_rules | `(tactic| walk_at "nothing here") => `(tactic| fail)
local macro_rules | `(tactic| walk_at "eval Name") => `(tactic| first
  | (refine W_rows (by assumption) (by assumption) ?_))
theorem reds_comp {w : World} {h0 : Heap} {L : Nat} {p65 : Array Value} {o23 : Obj} {c : List (Option Value)} {s : Shared} {A : Around} {lr : Addr} {vr : List Value} {xs : List Int} {scope : Scope} {p1 p2 p3 p4 p5 p6 pos : Pos} {Q : Value → Shared → Prop} {E : Value → Shared → Prop}
    (S : Start w h0) (hh : A.handled = none) (hA : A.depth < 800) (X : LW w h0 L p65 o23 c s.heap) (hc2 : c[2]? = some (some (.ref lr))) (hl : s.heap.IsList lr (List.toArray vr)) (hr : RowsAt s.heap vr (nssOf xs)) (hz : xs.length ≤ 16) (hz1 : 0 < xs.length) (hx : Small xs)
    (ht : TriplesOk p65.toList) (hnf : codeAmong redPos p65.toList = none)
    (hcl : closureFor scope (envW L) = pure []) (hcell : ∀ y ∈ scope.names, y.2 ≠ .cell) (hkind : scope.kind = .function)
    (hnames : ∀ y ∈ scope.names, y.2 = .local → scope.names.lookup y.1 = some .local) (hx1 : scope.names.lookup (Str.ofString "row") = some .local)
    (hk2 : ∀ C, (compEnvC scope [] C (envW L)).kindOf (Str.ofString "reduce") = some .globalImplicit)
    (hk3 : ∀ C, (compEnvC scope [] C (envW L)).kindOf (Str.ofString "row") = some .local)
    (hcl2 : ∀ C, closureFor redL.2.2.1 (compEnvC scope [] C (envW L)) = pure [])
    (hdef : ∀ C, defaultsOf redL.1 (compEnvC scope [] C (envW L)) = ([], []))
    (hck : ∀ C, (compEnvC scope [] C (envW L)).scope.kind = .function)
    (k : ∀ D h' tk ys c', (∀ b o, b ≠ 65 → s.heap.get? b = some o → h'.get? b = some o) → h'.IsList D (List.toArray ys) → IntsAre ys xs → LW w h0 L (p65n p65 redPos c') o23 c h' → Q (.ref D) { s with heap := h', toks := tk }) :
    wpAny (model rw_mq0086_01.row.prog w) A (eval (.ListComp (.Call (.Name (Str.ofString "reduce") p1) [.Lambda redL.1 redL.2.1 redL.2.2.1 redL.2.2.2, .Name (Str.ofString "row") p2, .Constant (.int 0) 0 p3] [] p4) [⟨.Name (Str.ofString "row") p5, .Name (Str.ofString "rows") p6, [], 0⟩] scope pos) (envW L)) Q E s := by
  have hlt : lr < s.heap.objs.size := by obtain ⟨_, e, _⟩ := hl; exact Heap.lt_size e
  have hvz : vr.length = xs.length := by rw [hr.1, nss_len]
  have l65 : ∀ {l : Addr} {its : Array Value}, s.heap.IsList l its → l ≠ 65 := by
    rintro l its ⟨o, e, _, n, d⟩ rfl
    rw [X.t65] at e; cases e; cases d
  refine lcG hcl hcell hkind hnames hx1 ?_
  walk1
  refine wpAny_pyIter_list hl ?_
  have hne : lr ≠ s.heap.objs.size := Nat.ne_of_lt hlt
  have kp : Kp s.heap (s.heap.push { cls := .type "list_iterator", data := .fields #[.ref lr, .int 0 0] }) := fun b o e => Heap.get?_push_of_some _ e
  have hsz : s.heap.objs.size < (s.heap.push { cls := .type "list_iterator", data := .fields #[.ref lr, .int 0 0] }).objs.size := by rw [Heap.size_push]; exact Nat.lt_succ_self _
  have hI0 : (s.heap.push { cls := .type "list_iterator", data := .fields #[.ref lr, .int 0 0] }).IsListIter s.heap.objs.size lr 0 := ⟨_, Heap.get?_push_size _ rfl, rfl, rfl⟩
  have hroom := X.room
  refine GP.mk xs.length (fun i v => vr[i]? = some v) (fun i h => h.IsListIter s.heap.objs.size lr i ∧ h.IsList lr (List.toArray vr)) [s.heap.objs.size, lr] (RedJ w h0 L p65 o23 c s.heap xs redPos s.heap.objs.size) ?W (by omega) ⟨hI0, hl.at fun o e => kp _ o e⟩ ?fp ?j0 ?jst ?turn ?done
  case W =>
    have W := Walks.list (prog := rw_mq0086_01.row.prog) (w := w) hh s.heap.objs.size lr hne (List.toArray vr)
    rw [show (List.toArray vr).size = xs.length from by rw [List.size_toArray, hvz]] at W
    exact ⟨W.sub, W.frame, fun i s Q E hi st hQ => W.item i s Q E hi st fun v h' tk hv => hQ v h' tk (by simpa using hv), W.done, W.self⟩
  case fp =>
    intro b hb
    rcases List.mem_cons.mp hb with rfl | hb
    · exact hsz
    · rw [List.mem_singleton.mp hb]; exact Nat.lt_trans hlt hsz
  case j0 =>
    intro C D h _ _ kk
    exact ⟨fun b o _ e => kk b o (kp b o e), .nil, .inl ⟨rfl, X.keeps (Kp.trans kp kk)⟩⟩
  case jst =>
    rintro C D i ys h h' hC hD ⟨j1, j2, j3⟩ kk
    have nI : ∀ {b : Nat} {o}, s.heap.get? b = some o → b ≠ s.heap.objs.size := fun e => Nat.ne_of_lt (Heap.lt_size e)
    have nC : ∀ {b : Nat} {o}, s.heap.get? b = some o → b ≠ C := fun e => Nat.ne_of_lt (Nat.lt_of_lt_of_le (Nat.lt_trans (Heap.lt_size e) hsz) hC)
    have nD : ∀ {b : Nat} {o}, s.heap.get? b = some o → b ≠ D := fun e => Nat.ne_of_lt (Nat.lt_of_lt_of_le (Nat.lt_trans (Heap.lt_size e) hsz) hD)
    have lowk : ∀ (b : Nat) o, b ≤ L + 7 → h.get? b = some o → h'.get? b = some o := fun b o hb e =>
      kk b o (Nat.ne_of_lt (Nat.lt_of_le_of_lt hb hroom)) (Nat.ne_of_lt (Nat.lt_of_le_of_lt hb (Nat.lt_of_lt_of_le (Nat.lt_trans hroom hsz) hC))) (Nat.ne_of_lt (Nat.lt_of_le_of_lt hb (Nat.lt_of_lt_of_le (Nat.lt_trans hroom hsz) hD))) e
    refine ⟨fun b o n e => kk b o (nI e) (nC e) (nD e) (j1 b o n e), j2, ?_⟩
    rcases j3 with ⟨q, X1⟩ | ⟨c', X1, hrec, n1, n2, n3⟩
    · exact .inl ⟨q, X1.buts lowk⟩
    · exact .inr ⟨c', X1.buts lowk, rec_at hrec fun o e => kk c' o n1 n2 n3 e, n1, n2, n3⟩
  case turn =>
    rintro C D i ys v h tk m hC hD hCD hi' _ hv hst hns hm ⟨kD, hD'⟩ ⟨j1, j2, j3⟩
    refine wpAny_tests_nil ?_
    rw [if_pos rfl]
    have C65 : C ≠ 65 := fun q => by
      rw [q] at hC
      have h1 := Nat.lt_of_lt_of_le (Nat.lt_trans hroom hsz) hC
      have := X.low69
      omega
    have D65 : D ≠ 65 := fun q => by
      rw [q] at hD
      have h1 := Nat.lt_of_lt_of_le (Nat.lt_trans hroom hsz) hD
      have := X.low69
      omega
    have I65 : s.heap.objs.size ≠ 65 := fun q => by
      have := X.low69
      rw [q] at hroom
      omega
    have hIo : ∃ o, h.get? s.heap.objs.size = some o := let ⟨o, e, _⟩ := hst.1; ⟨o, e⟩
    rcases j3 with ⟨q, X1⟩ | ⟨c', X1, hrec1, nn1, nn2, nn3⟩
    · clear q
      have B1 := X1.bas
      walk1
      refine nm_own (env := compEnvC scope [] C (envW L)) B1 (by rfl) ?_ rfl (hck C) (hk2 C) (by decide)
      refine cw_own B1 ⟨_, rfl⟩ rfl ?_ rfl
      walk1
      refine W_lambda S X1 rfl rfl (hcl2 C) (hdef C) ht hnf ?_
      intro f c' ctv pm h2 tk2 X2 kk hf hrec hfl hcl
      have nn1 : c' ≠ s.heap.objs.size := fun q => by
        obtain ⟨o, e⟩ := hIo
        rw [q] at hcl
        exact absurd (Heap.lt_size e) (Nat.not_lt.mpr hcl)
      have nn2 : c' ≠ C := fun q => by
        obtain ⟨o, _, _, e, _⟩ := hns
        rw [q] at hcl
        exact absurd (Heap.lt_size e) (Nat.not_lt.mpr hcl)
      have nn3 : c' ≠ D := fun q => by
        rw [q] at hcl
        exact absurd (Heap.lt_size hD') (Nat.not_lt.mpr hcl)
      have hns2 : h2.Ns C m := hns.at' fun o e => kk C o C65 e
      have hD2 : h2.get? D = some (lstK ys kD) := kk D _ D65 hD'
      have B2 := X2.bas
      obtain ⟨r, ws, r1, r2, r3, r4, r5⟩ := hr.2 i _ (nss_at hi')
      rw [hv] at r1; cases r1
      have r2' : h2.IsList r (List.toArray ws) := r2.at fun o e => kk r o (l65 r2) (j1 r o (l65 r2) e)
      have sx := hx.at hi'
      iterate 1 walk1
      refine nm_loc (env := compEnvC scope [] C (envW L)) hns2 hm ?_ (hck C) (hk3 C) (by decide)
      iterate 3 walk1
      refine ⟨B2, ?_⟩
      refine red_call B2 (by omega) hh hf hrec r2' r3 r4 ?_
      intro h3 tk3 t k3
      rw [vfold_octs sx.1 sx.2]
      have ktake : xs.take (i + 1) = xs.take i ++ [xs.getD i 0] := by
        rw [List.take_add_one, List.getElem?_eq_getElem hi', List.getD_eq_getElem?_getD, List.getElem?_eq_getElem hi']; rfl
      refine ⟨h3, tk3, rfl, fun o e => k3 _ _ (kk C o C65 e), fun o e => k3 _ _ (kk D o D65 e), fun b hb o e => k3 _ _ (kk b o ?_ e), fun b o n e => k3 _ _ (kk b o n (j1 b o n e)), by rw [ktake]; exact IntsAre.append j2 (.cons _ _ .nil), .inr ⟨c', X2.keeps k3, hrec.keeps k3, nn1, nn2, nn3⟩⟩
      rcases List.mem_cons.mp hb with rfl | hb
      · exact I65
      · rw [List.mem_singleton.mp hb]; exact l65 hl
    ·
      have B1 := X1.bas
      walk1
      refine nm_own (env := compEnvC scope [] C (envW L)) B1 (by rfl) ?_ rfl (hck C) (hk2 C) (by decide)
      refine cw_own B1 ⟨_, rfl⟩ rfl ?_ rfl
      walk1
      refine W_lambdaHit S X1 rfl rfl (hcl2 C) (hdef C) (by rw [Array.toList_append]; exact TriplesOk_snoc _ _ _ _ ht) (c' := c') (by rw [Array.toList_append]; exact codeAmong_snoc _ ht hnf) ?_
      intro f ctv pm h2 tk2 k2 hf hfl
      have X2 := X1.keeps k2
      have kk : ∀ b o, b ≠ 65 → h.get? b = some o → h2.get? b = some o := fun b o _ e => k2 b o e
      have hrec : h2.CodeRec (.ref c') lq := hrec1.keeps k2
      have hns2 : h2.Ns C m := hns.at' fun o e => kk C o C65 e
      have hD2 : h2.get? D = some (lstK ys kD) := kk D _ D65 hD'
      have B2 := X2.bas
      obtain ⟨r, ws, r1, r2, r3, r4, r5⟩ := hr.2 i _ (nss_at hi')
      rw [hv] at r1; cases r1
      have r2' : h2.IsList r (List.toArray ws) := r2.at fun o e => kk r o (l65 r2) (j1 r o (l65 r2) e)
      have sx := hx.at hi'
      iterate 1 walk1
      refine nm_loc (env := compEnvC scope [] C (envW L)) hns2 hm ?_ (hck C) (hk3 C) (by decide)
      iterate 3 walk1
      refine ⟨B2, ?_⟩
      refine red_call B2 (by omega) hh hf hrec r2' r3 r4 ?_
      intro h3 tk3 t k3
      rw [vfold_octs sx.1 sx.2]
      have ktake : xs.take (i + 1) = xs.take i ++ [xs.getD i 0] := by
        rw [List.take_add_one, List.getElem?_eq_getElem hi', List.getD_eq_getElem?_getD, List.getElem?_eq_getElem hi']; rfl
      refine ⟨h3, tk3, rfl, fun o e => k3 _ _ (kk C o C65 e), fun o e => k3 _ _ (kk D o D65 e), fun b hb o e => k3 _ _ (kk b o ?_ e), fun b o n e => k3 _ _ (kk b o n (j1 b o n e)), by rw [ktake]; exact IntsAre.append j2 (.cons _ _ .nil), .inr ⟨c', X2.keeps k3, hrec.keeps k3, nn1, nn2, nn3⟩⟩
      rcases List.mem_cons.mp hb with rfl | hb
      · exact I65
      · rw [List.mem_singleton.mp hb]; exact l65 hl
  case done =>
    rintro C D ys h tk hC hD hCD _ ⟨j1, j2, j3⟩ ⟨kD, hD'⟩
    rw [List.take_length] at j2
    rcases j3 with ⟨q, X1⟩ | ⟨c', X1, hrec, n1, n2, n3⟩
    · omega
    · exact k D h _ ys c' j1 ⟨_, hD', rfl, kD, rfl⟩ j2 X1
end
end Mine
namespace Mine
open PySem.Challenge
set_option maxHeartbeats 0
set_option maxRecDepth 100000
section
local macro_rules | `(tactic| walk_at "eval Name") => `(tactic| first
  | (refine W_numbers (by assumption) (by assumption) ?_))
theorem stmt5 {w : World} {h0 : Heap} {L : Nat} {p65 : Array Value} {o23 : Obj} {c : List (Option Value)} {s : Shared} {A : Around} {ln lr : Addr} {vn vr : List Value} {xs : List Int} {Q : Flow → Shared → Prop} {E : Value → Shared → Prop}
    (S : Start w h0) (hh : A.handled = none) (hA : A.depth < 800) (hu : A.units < 8000) (X : LW w h0 L p65 o23 c s.heap) (hc0 : c[0]? = some (some (.ref ln))) (hc2 : c[2]? = some (some (.ref lr)))
    (hln : s.heap.IsList ln (List.toArray vn)) (hi : IntsAre vn xs) (hl : s.heap.IsList lr (List.toArray vr)) (hr : RowsAt s.heap vr (nssOf xs)) (hz : xs.length ≤ 16) (hz1 : 0 < xs.length) (hx : Small xs)
    (ht : TriplesOk p65.toList) (hnf : codeAmong redPos p65.toList = none)
    (k : ∀ h' tk c', LW w h0 L (p65n p65 redPos c') o23 c h' → (∀ b o, b ≠ 65 → s.heap.get? b = some o → h'.get? b = some o) → Q .next { s with heap := h', toks := tk }) :
    wpAny (model rw_mq0086_01.row.prog w) A (exec (lawS 5) (envW L)) Q E s := by
  conv in lawS 5 => whnf
  have hcl : cLine = 9900 := rfl
  have l65 : ∀ {l : Addr} {its : Array Value}, s.heap.IsList l its → l ≠ 65 := by
    rintro l its ⟨o, e, _, n, d⟩ rfl
    rw [X.t65] at e; cases e; cases d
  iterate 2 walk1
  refine reds_comp S hh hA X hc2 hl hr hz hz1 hx ht hnf (by with_unfolding_all rfl) (by decide) rfl (by decide) rfl (fun C => by kernel_rfl) (fun C => by kernel_rfl) (fun C => by with_unfolding_all rfl) (fun C => by rfl) (fun C => by kernel_rfl) ?_
  intro D1 h1 tk1 ys c' k1 hD1 hI1 X1
  have hln1 := hln.at fun o e => k1 _ o (l65 hln) e
  iterate 1 walk1
  refine ke_ne_ints hD1 hln1 hI1 hi (by omega) ?_
  rw [decide_eq_true (rfl : xs = xs)]
  repeat' walk1
  exact k h1 _ c' X1 k1
end
end Mine
namespace Mine
open PySem.Challenge
set_option maxHeartbeats 0
set_option maxRecDepth 100000
section
local macro_rules | `(tactic| walk_at "nothing here") => `(tactic| fail)
local macro_rules | `(tactic| walk_at "nothing here") => `(tactic| fail)
local macro_rules | `(tactic| walk_at "nothing here") => `(tactic| fail)
local macro_rules | `(tactic| walk_at "nothing here") => `(tactic| fail)
local macro_rules | `(tactic| walk_at "eval Name") => `(tactic| first
  | (refine W_due (by assumption) (by assumption) ?_)
  | (refine W_k (by assumption) (by assumption) ?_)
  | (refine W_blt (LW.bas (by assumption)) (by rfl) ?_ (by kernel_rfl) (by decide)))
theorem stmt6 {w : World} {h0 : Heap} {L : Nat} {p65 : Array Value} {o23 : Obj} {c : List (Option Value)} {u : Option Value} {s : Shared} {A : Around} {Q : Flow → Shared → Prop} {E : Value → Shared → Prop}
    (X : LW w h0 L p65 o23 c s.heap) (hc4 : c[4]? = some u)
    (k : ∀ h' tk ld, Lk s.heap h' → L + 7 < ld → LW w h0 L p65 o23 (c.set 4 (some (.ref ld))) h' → h'.get? ld = some (lstK [] 0) → Q .next { s with heap := h', toks := tk }) :
    wpAny (model rw_mq0086_01.row.prog w) A (exec (lawS 6) (envW L)) Q E s := by
  conv in lawS 6 => whnf
  iterate 3 walk1
  refine wpAny_newList ?_ (Nat.zero_le _)
  generalize hH : s.heap.push { cls := .type "list", data := .seq #[] } = h4
  have k4 : Kp s.heap h4 := fun b o e => hH ▸ Heap.get?_push_of_some _ e
  have hD4 : h4.get? s.heap.objs.size = some (lstK [] 0) := hH ▸ Heap.get?_push_size _ rfl
  refine W_store 4 (X.keeps k4) (by decide) (by kernel_rfl) (by kernel_rfl) hc4 ?_
  intro h5 hlk hbut X5
  refine k h5 _ _ (Lk.trans (Lk.of k4) hlk) X.room X5 (hbut _ _ (fun q => ?_) hD4)
  have := X.room
  rw [q] at this
  exact absurd this (by omega)
end
end Mine
namespace Mine
open PySem.Challenge
set_option maxHeartbeats 0
set_option maxRecDepth 100000
theorem ints_take : ∀ {vs : List Value} {ns : List Int} (n : Nat), IntsAre vs ns → IntsAre (vs.take n) (ns.take n)
  | _, _, 0, _ => by simpa using IntsAre.nil
  | _, _, n + 1, .nil => by simpa using IntsAre.nil
  | _, _, n + 1, .cons a t r => .cons a t (ints_take n r)
theorem ints_drop : ∀ {vs : List Value} {ns : List Int} (n : Nat), IntsAre vs ns → IntsAre (vs.drop n) (ns.drop n)
  | _, _, 0, h => h
  | _, _, n + 1, .nil => by simpa using IntsAre.nil
  | _, _, n + 1, .cons a t r => ints_drop n r
theorem ins_at {prog : Program} {w : World} {A : Around} {E : Value → Shared → Prop} {s : Shared} {D : Addr} {its : List Value} {n : Nat} {x : Int} {u : Tok} {y : Value} {Q : Value → Shared → Prop} (hD : s.heap.get? D = some (lstK its n)) (m : Nat) (hx : x = (m : Int)) (hm : m ≤ its.length) (hz : its.length ≤ 1000)
    (h : ∀ h' k', (∀ b o, b ≠ D → s.heap.get? b = some o → h'.get? b = some o) → h'.get? D = some (lstK (its.take m ++ y :: its.drop m) k') → Q .none { s with heap := h' }) :
    wpAny (model prog w) A (call (.builtin "list.insert") [.ref D, .int x u, y]) Q E s := by
  have hf : Builtin.List.listFitsIndex x = true := by
    unfold Builtin.List.listFitsIndex
    rw [Bool.and_eq_true]
    exact ⟨decide_eq_true (by omega), decide_eq_true (by omega)⟩
  have hn : ¬(!Builtin.List.listFitsIndex x) = true := by rw [hf]; exact Bool.false_ne_true
  have hsz : (List.toArray its).size ≤ sizeLine := by
    have e1 : sizeLine = 16777216 := sizeLine_eq
    have e2 : (List.toArray its).size = its.length := List.size_toArray
    omega
  have hneg : ¬ (x < 0) := by omega
  have hM := PySem.AutoSeq1.list_insert_list_int_val_1 D (List.toArray its) n x u y hn hsz
  refine call_meets PySem.F.slot_list_insert ⟨_, hD, rfl⟩ PySem.F.entry_list_insert (PySem.F.args_list_insert_3 _ _ _) hM ⟨hD, ?_⟩
  have e := get?_update_seq hD (fun xs : Array Value => have k := if x < 0 then (x + (xs.size : Int)).toNat else min x.toNat xs.size; (xs.extract 0 k).push y ++ xs.extract k)
  have ea : (have k := if x < 0 then (x + ((List.toArray its).size : Int)).toNat else min x.toNat (List.toArray its).size; ((List.toArray its).extract 0 k).push y ++ (List.toArray its).extract k) = (its.take m ++ y :: its.drop m).toArray := by
    have ex : x.toNat = m := by omega
    dsimp only
    rw [if_neg hneg, ex, List.size_toArray, Nat.min_eq_left hm]
    simp
    rw [List.take_of_length_le (by rw [List.length_drop]; exact Nat.le_refl _)]
  rw [ea] at e
  exact h _ _ (fun b o q r => (Heap.SameBut.update ..).extBut b o q r) e
theorem ints_filter (p : Nat → Bool) (q : Value → Bool) : ∀ {ds : List Value} {d : List Nat}, IntsAre ds (d.map fun j : Nat => (j : Int)) → (∀ (j : Nat) t, q (.int (j : Int) t) = p j) → (ds.filter q).length = (d.filter p).length
  | [], [], _, _ => rfl
  | _ :: _, [], h, _ => by cases h
  | [], _ :: _, h, _ => by cases h
  | v :: ds, j :: d, h, hq => by
    rw [List.map_cons] at h
    cases h with
    | cons _ t r =>
      have ih := ints_filter p q r hq
      rw [List.filter_cons, List.filter_cons, hq j t]
      cases p j with
      | true => simp [ih]
      | false => simpa using ih
section
def forBody : List Stmt := match lawS 7 with | .For _ _ b _ _ => b | _ => []
local macro_rules | `(tactic| walk_at "eval Name") => `(tactic| first
  | (refine W_due (by assumption) (by assumption) ?_)
  | (refine W_k (by assumption) (by assumption) ?_)
  | (refine W_blt (LW.bas (by assumption)) (by rfl) ?_ (by kernel_rfl) (by decide))
  | (refine nm_cell (by rfl) (by assumption) ?_ (by kernel_rfl) (by kernel_rfl) (by decide))
  | (refine nm_loc (by assumption) (by assumption) ?_ (by kernel_rfl) (by kernel_rfl) (by decide)))
local macro_rules | `(tactic| walk_at "call builtin:len") => `(tactic| (refine len_list (by assumption) (by omega) ?_))
local macro_rules | `(tactic| walk_at "nothing here") => `(tactic| fail)
local macro_rules | `(tactic| walk_at "nothing here") => `(tactic| fail)
local macro_rules | `(tactic| walk_at "nothing here") => `(tactic| fail)
local macro_rules | `(tactic| walk_at "subscriptTail") => `(tactic| (refine item_list (by assumption) (by omega) (by omega) (by assumption) ?_))
theorem dueBody {w : World} {h0 : Heap} {L : Nat} {p65 : Array Value} {o23 : Obj} {c : List (Option Value)} {s : Shared} {A : Around} {ld ln : Addr} {vn ds : List Value} {xs : List Int} {d : List Nat} {kx kk : Nat} {tt : Tok} {Q : Flow → Shared → Prop} {E : Value → Shared → Prop}
    (hh : A.handled = none) (X : LW w h0 L p65 o23 c s.heap) (hc0 : c[0]? = some (some (.ref ln))) (hc4 : c[4]? = some (some (.ref ld))) (hc1 : c[1]? = some (some (.int (kx : Int) tt))) (hln : s.heap.IsList ln (List.toArray vn)) (hi : IntsAre vn xs) (hz : xs.length ≤ 16) (hkx : kx < xs.length)
    (hld : s.heap.get? ld = some (lstK ds kk)) (hds : IntsAre ds (d.map fun j : Nat => (j : Int))) (hd : ∀ j ∈ d, j < xs.length) (hdz : d.length ≤ 16)
    (k : ∀ h' tk' kk' ds', (∀ b o, b ≠ ld → s.heap.get? b = some o → h'.get? b = some o) → h'.get? ld = some (lstK ds' kk') → IntsAre ds' ((insN (fun j => xs.getD j 0) d kx).map fun j : Nat => (j : Int)) → Q .next { s with heap := h', toks := tk' }) :
    wpAny (model rw_mq0086_01.row.prog w) A (execs forBody (envW L)) Q E s := by
  conv in forBody => whnf
  have hdl : s.heap.IsList ld (List.toArray ds) := ⟨_, hld, rfl, kk, rfl⟩
  have hdsl : ds.length ≤ 16 := by rw [hds.length, List.length_map]; exact hdz
  iterate 4 walk1
  refine getMethod_builtin hdl.typeIs PySem.F.plainAttrs_list PySem.F.slot_list_insert PySem.F.type_list_insert (fun a e => by cases e; exact ⟨_, hld, rfl⟩) ?_
  iterate 6 walk1
  refine lc_list (cl := [(Str.ofString "numbers", L + 1 + 0), (Str.ofString "k", L + 1 + 1)]) (fun v => match v with | .int j _ => decide (xs.getD j.toNat 0 ≤ xs.getD kx 0) | _ => false) (fun v y => y = v) hh (by with_unfolding_all rfl) (by decide) rfl (by decide) rfl ?_
  walk1
  refine LP.mk ds (by omega) hdl ?_ ?_ ?_
  · intro C i v s₃ m₃ E' hC hv hns hm hkp
    refine wpAny_tests_one ?_
    have X3 := X.keeps hkp
    have hln3 := hln.at fun o e => hkp _ o e
    have cn : s₃.heap.IsCell (L + 1 + 0) (some (.ref ln)) := X3.cell 0 _ hc0
    have ck : s₃.heap.IsCell (L + 1 + 1) (some (.int (kx : Int) tt)) := X3.cell 1 _ hc1
    obtain ⟨j, t, rfl, hjl⟩ : ∃ (j : Nat) (t : Tok), v = .int (j : Int) t ∧ j < xs.length := by
      have hid : i < d.length := by
        have := (List.getElem?_eq_some_iff.mp hv).1
        rw [hds.length, List.length_map] at this; exact this
      obtain ⟨t, e⟩ := hds.get i (d[i] : Int) (by rw [List.getElem?_map, List.getElem?_eq_getElem hid]; rfl)
      rw [hv] at e
      exact ⟨d[i], t, Option.some.inj e, hd _ (List.getElem_mem hid)⟩
    obtain ⟨ta, ea⟩ := at_getD hi hjl
    obtain ⟨tb, eb⟩ := at_getD hi hkx
    have hvl : vn.toArray.size = xs.length := by rw [List.size_toArray, hi.length]
    have ea' : vn.toArray[Int.toNat (j : Int)]? = some (.int (xs.getD j 0) ta) := by simpa using ea
    have eb' : vn.toArray[Int.toNat (kx : Int)]? = some (.int (xs.getD kx 0) tb) := by simpa using eb
    iterate 2 walk1
    refine nm_cell (c := L + 1 + 0) (by rfl) cn ?_ rfl rfl (by decide)
    walk1
    have ha : A.handled = none := hh
    refine item_list hln3 (by omega) (by omega) ea' ?_
    walk1
    refine nm_cell (c := L + 1 + 0) (by rfl) cn ?_ rfl rfl (by decide)
    refine nm_cell (c := L + 1 + 1) (by rfl) ck ?_ rfl rfl (by decide)
    refine item_list hln3 (by omega) (by omega) eb' ?_
    walk1
    walk1
    exact ⟨by show decide (xs.getD j 0 ≤ _) = decide (xs.getD (Int.toNat (j : Int)) 0 ≤ _); rw [Int.toNat_natCast], s₃.heap, s₃.toks, rfl, fun _ _ e => e⟩
  · intro C i v s₃ m₃ E' hC hv hpv hns hm hkp
    exact nm_loc hns hm ⟨rfl, s₃.heap, s₃.toks, rfl, fun _ _ e => e⟩ rfl rfl (by decide)
  intro D h₁ tk₁ ys hD hpl hP hkp
  have X1 := X.keeps hkp
  have hld1 := hkp _ _ hld
  have hDl := Heap.PlainList.isList hpl
  have hys : ys.size ≤ 16 := by
    have h1 := hP.length
    have h2 := List.length_filter_le (fun v => match v with | .int j _ => decide (xs.getD j.toNat 0 ≤ xs.getD kx 0) | _ => false) ds
    rw [h1, Array.length_toList] at h2
    omega
  walk1
  walk1
  walk1
  walk1
  walk1
  have hm : ys.size = (d.filter fun j => decide (xs.getD j 0 ≤ xs.getD kx 0)).length := by
    have h1 := hP.length
    have e2 : ys.toList.length = ys.size := Array.length_toList
    rw [← e2, ← h1]
    exact ints_filter (fun j => decide (xs.getD j 0 ≤ xs.getD kx 0)) _ hds (fun j t => by show decide (xs.getD (Int.toNat (j : Int)) 0 ≤ _) = _; rw [Int.toNat_natCast])
  have hf : (d.filter fun j => decide (xs.getD j 0 ≤ xs.getD kx 0)).length ≤ d.length := List.length_filter_le _ _
  have hdl' : ds.length = d.length := by rw [hds.length, List.length_map]
  refine ins_at hld1 (d.filter fun j => decide (xs.getD j 0 ≤ xs.getD kx 0)).length (by omega) (by omega) (by omega) ?_
  intro h₂ k2 hk2 hld2
  dsimp only
  walk1
  refine k _ _ _ _ (fun b o n e => hk2 b o n (hkp _ _ e)) hld2 ?_
  unfold insN
  rw [List.map_append, List.map_cons, List.map_take, List.map_drop]
  exact IntsAre.append (ints_take _ hds) (.cons _ _ (ints_drop _ hds))
end
end Mine
namespace Mine
open PySem.Challenge
set_option maxHeartbeats 0
set_option maxRecDepth 100000
theorem due_succ (key : Nat → Int) (i : Nat) : dueN key (i + 1) = insN key (dueN key i) i := by
  unfold dueN
  rw [List.range_succ, List.foldl_append]
  rfl
theorem due_len (key : Nat → Int) (i : Nat) : (dueN key i).length = i := by
  rw [(due_ok key i).1.length_eq, List.length_range]
theorem due_lt {key : Nat → Int} {i j : Nat} (h : j ∈ dueN key i) : j < i := List.mem_range.mp ((due_ok key i).1.mem_iff.mp h)
theorem range_itG {prog : Program} {w : World} {A : Around} {E : Value → Shared → Prop} {s : Shared} {n : Nat} {t : Tok} {Q : Value → Shared → Prop} (hn : n ≤ 1000)
    (h : ∀ h' I tk, Kp s.heap h' → s.heap.get? I = none → s.heap.objs.size ≤ I → IsRangeIter h' I 0 n 1 → Q (.ref I) { s with heap := h', toks := tk }) :
    wpAny (model prog w) A (call (.type "range") [.int n t]) (fun xv s₁ => wpAny (model prog w) A (pyIter xv) Q E s₁) E s := by
  refine call_range_1 (wpAny_pyIter_range (IsRange.new ..) (rsmall hn) ?_)
  rw [rsize]
  refine h _ _ _ (fun b o e => Heap.get?_push_of_some _ (Heap.get?_push_of_some _ e)) ?_ ?_ (Heap.get?_push_size _ rfl)
  · exact Heap.get?_none_of_le (by rw [Heap.size_push]; exact Nat.le_succ _)
  · show s.heap.objs.size ≤ (s.heap.push _).objs.size
    rw [Heap.size_push]; exact Nat.le_succ _
section
local macro_rules | `(tactic| walk_at "eval Name") => `(tactic| first
  | (refine W_rows (by assumption) (by assumption) ?_)
  | (refine W_blt (LW.bas (by assumption)) (by rfl) ?_ (by kernel_rfl) (by decide)))
local macro_rules | `(tactic| walk_at "call builtin:len") => `(tactic| (refine len_list (by assumption) (by omega) ?_))
theorem stmt7 {w : World} {h0 : Heap} {L : Nat} {p65 : Array Value} {o23 : Obj} {c : List (Option Value)} {u : Option Value} {s : Shared} {A : Around} {lr ld ln : Addr} {vr vn : List Value} {xs : List Int} {Q : Flow → Shared → Prop} {E : Value → Shared → Prop}
    (hh : A.handled = none) (X : LW w h0 L p65 o23 c s.heap) (hc0 : c[0]? = some (some (.ref ln))) (hc1 : c[1]? = some u) (hc2 : c[2]? = some (some (.ref lr))) (hc4 : c[4]? = some (some (.ref ld))) (hln : s.heap.IsList ln (List.toArray vn)) (hi : IntsAre vn xs) (hl : s.heap.IsList lr (List.toArray vr)) (hvr : vr.length = xs.length) (hz : xs.length ≤ 16)
    (hldL : L + 7 < ld) (hld : s.heap.get? ld = some (lstK [] 0)) (hne : ln ≠ ld)
    (k : ∀ h' tk u' kk ds, (∀ b o, b ≠ ld → b ≠ L + 1 + 1 → s.heap.get? b = some o → h'.get? b = some o) → LW w h0 L p65 o23 (c.set 1 u') h' → h'.get? ld = some (lstK ds kk) → IntsAre ds ((dueN (fun j => xs.getD j 0) xs.length).map fun j : Nat => (j : Int)) → Q .next { s with heap := h', toks := tk }) :
    wpAny (model rw_mq0086_01.row.prog w) A (exec (lawS 7) (envW L)) Q E s := by
  conv in lawS 7 => whnf
  refine wpAny_For ?_
  have hvz : vr.toArray.size = xs.length := by rw [List.size_toArray, hvr]
  iterate 7 walk1
  iterate 5 walk1
  rw [hvz]
  refine range_itG (n := xs.length) (by omega) ?_
  intro h2 I tk2 k2 hI0 hIge hIr
  dsimp only
  have hIld : I ≠ ld := by rintro rfl; rw [hI0] at hld; cases hld
  have hIL : L + 7 < I := Nat.lt_of_lt_of_le X.room hIge
  refine codeAny_forLoop
    (fun n s' => ∃ h' tk' i u' kk ds, s' = { s with heap := h', toks := tk' } ∧ IsRangeIter h' I (i : Nat) ((xs.length : Int) - (i : Nat)) 1 ∧ LW w h0 L p65 o23 (c.set 1 u') h' ∧ h'.get? ld = some (lstK ds kk) ∧ IntsAre ds ((dueN (fun j => xs.getD j 0) i).map fun j : Nat => (j : Int)) ∧ i ≤ xs.length ∧ n = xs.length + 1 - i ∧
      ∀ b o, b ≠ ld → b ≠ L + 1 + 1 → s.heap.get? b = some o → h'.get? b = some o) ?_ (xs.length + 1) ⟨h2, _, 0, u, 0, [], rfl, by simpa using hIr, ?_, k2 _ _ hld, .nil, Nat.zero_le _, rfl, fun b o _ _ e => k2 b o e⟩
  · rintro n s' ⟨h', tk', i, u', kk, ds, rfl, hit, X', hld', hds, hi', rfl, hk⟩
    by_cases hlt : i < xs.length
    · refine wpAny_pyNext_range_item hit (by omega) fun h₁ hit₁ hs₁ => ?_
      have X1 : LW w h0 L p65 o23 (c.set 1 u') h₁ := X'.but hIL fun b o n e => hs₁.extBut b o n e
      refine wpAny_assign_Name (W_store 1 X1 (by decide) (by kernel_rfl) (by kernel_rfl) (u := u') (by rw [List.getElem?_set_self (by rw [X.len]; decide)]) ?_)
      intro h₃ hlk hbut X3
      rw [List.set_set] at X3
      have h3ld : h₃.get? ld = some (lstK ds kk) := hbut _ _ (fun q => absurd hldL (by rw [q]; show ¬ L + 7 < L + 1 + 1; omega)) (hs₁.extBut _ _ (Ne.symm hIld) hld')
      refine dueBody (ln := ln) (kx := i) (tt := tk') hh X3 ?_ ?_ ?_ ?_ hi hz hlt h3ld hds (fun j hj => Nat.lt_trans (due_lt hj) hlt) (by rw [due_len]; omega) ?_
      · rw [List.getElem?_set_ne (by decide)]; exact hc0
      · rw [List.getElem?_set_ne (by decide)]; exact hc4
      · exact List.getElem?_set_self (by rw [X.len]; decide)
      · have hcell : s.heap.IsCell (L + 1 + 1) u := X.cell 1 _ hc1
        refine list_lk (hln.at fun o e => ?_) hlk
        refine hs₁.extBut _ _ (fun q => ?_) (hk _ _ hne (cell_ne_list hcell hln).symm e)
        rw [q, hI0] at e; cases e
      intro h₄ tk₄ kk₄ ds₄ k4 hld4 hds4
      have kI : ∀ {o}, h₁.get? I = some o → h₄.get? I = some o := fun e => k4 _ _ hIld (hbut _ _ (fun q => absurd hIL (by rw [q]; show ¬ L + 7 < L + 1 + 1; omega)) e)
      refine ⟨xs.length + 1 - (i + 1), by omega, h₄, tk₄, i + 1, _, kk₄, ds₄, rfl, ?_, X3.but hldL k4, hld4, by rw [due_succ]; exact hds4, hlt, rfl, fun b o n1 n2 e => k4 _ _ n1 (hbut _ _ n2 (hs₁.extBut _ _ (fun q => by rw [q, hI0] at e; cases e) (hk _ _ n1 n2 e)))⟩
      have e1 : ((i + 1 : Nat) : Int) = (i : Int) + 1 := by push_cast; rfl
      have e2 : (xs.length : Int) - ((i + 1 : Nat) : Int) = (xs.length : Int) - (i : Int) - 1 := by push_cast; omega
      rw [e2, e1]
      exact kI hit₁
    · refine wpAny_pyNext_range_end hh hit (by omega) fun h₁ he₁ => wpAny_execs_nil ?_
      have hiN : i = xs.length := by omega
      subst hiN
      refine k h₁ _ u' kk ds (fun b o n1 n2 e => he₁ b o (fun q => by rw [q, hI0] at e; cases e) (hk b o n1 n2 e)) (X'.but hIL fun b o n e => he₁ b o n e) (he₁ _ _ (Ne.symm hIld) hld') hds
  · rw [set_same hc1]
    exact X.keeps k2
end
end Mine
namespace Mine
open PySem.Challenge
set_option maxHeartbeats 0
set_option maxRecDepth 100000
theorem LW.grow23' {w : World} {h0 h h' : Heap} {L : Nat} {p65 : Array Value} {c : List (Option Value)} {more ps1 : Array Value} {o : Obj} (X : LW w h0 L p65 (tableObj ps1) c h) (hb0 : ∃ ps, h0.get? 23 = some (tableObj ps)) (h27 : h0.get? 27 = some (ko w.params 27)) (hx : Heap.ExtBut 23 h h') (ho : o = tableObj (ps1 ++ more)) (ht : h'.get? 23 = some o) : LW w h0 L p65 o c h' := by
  subst ho
  have hl := X.low
  have hab := X.above
  have k : ∀ (b : Nat) o, b ≠ 23 → h.get? b = some o → h'.get? b = some o := fun b o n e => hx b o n e
  obtain ⟨ps, e0⟩ := hb0
  have g27 : h.get? 27 = some (ko w.params 27) := X.old.get_of_cls h27 (by show (ko w.params 27).cls ≠ .none; rw [show (ko w.params 27).cls = .type "code" from rfl]; nofun)
  have T0 : h0.TableAt 27 23 ps := table_at (o := ko w.params 27) (vs := itemsOf (ko w.params 27)) h27 rfl rfl e0 rfl
  have T1 : h.TableAt 27 23 ps1 := table_at (o := ko w.params 27) (vs := itemsOf (ko w.params 27)) g27 rfl rfl X.t23 rfl
  have T2 : h'.TableAt 27 23 (ps1 ++ more) := table_at (o := ko w.params 27) (vs := itemsOf (ko w.params 27)) (k 27 _ (by decide) g27) rfl rfl ht rfl
  exact ⟨X.bas.keep fun b o e n _ => k b o n e, X.old.step_table T0 T1 T2 hx (by decide), X.low, X.above, X.len, by
    obtain ⟨o, e, _⟩ := X.cell 6 _ (List.getElem?_eq_getElem (by rw [X.len]; decide))
    exact Heap.lt_size (k (L + 1 + 6) _ (by omega) e), let ⟨m, e⟩ := X.ns; ⟨m, e.at' fun o q => k L o (by omega) q⟩, k 65 _ (by decide) X.t65, ht, fun i v e => by
    obtain ⟨o, q1, q2⟩ := X.cell i v e
    exact ⟨o, k _ _ (by omega) q1, q2⟩⟩
theorem key_cmp {xs : List Int} (hx : Small xs) {i j : Nat} (hi : i < xs.length) (hj : j < xs.length) :
    (cmpN (bareN ((nssOf xs).getD i [])) (bareN ((nssOf xs).getD j [])) < 0 ↔ xs.getD i 0 < xs.getD j 0) ∧ (cmpN (bareN ((nssOf xs).getD i [])) (bareN ((nssOf xs).getD j [])) ≤ 0 ↔ xs.getD i 0 ≤ xs.getD j 0) := by
  rw [List.getD_eq_getElem?_getD, List.getD_eq_getElem?_getD, nss_at hi, nss_at hj]
  show (cmpN (bareN (octs _ _)) (bareN (octs _ _)) < 0 ↔ _) ∧ (cmpN (bareN (octs _ _)) (bareN (octs _ _)) ≤ 0 ↔ _)
  have a := hx.at hi
  have b := hx.at hj
  rw [bare_octs a.2, bare_octs b.2]
  exact cmp_sign a.1 a.2 b.1 b.2
section
local macro_rules | `(tactic| walk_at "eval Name") => `(tactic| first
  | (refine W_rows (by assumption) (by assumption) ?_)
  | (refine W_own (LW.bas (by assumption)) (by rfl) ?_ (by kernel_rfl) (by decide))
  | (refine W_blt (LW.bas (by assumption)) (by rfl) ?_ (by kernel_rfl) (by decide)))
theorem stmt8 {w : World} {h0 : Heap} {L : Nat} {p65 : Array Value} {c : List (Option Value)} {u : Option Value} {s : Shared} {A : Around} {lr : Addr} {vr : List Value} {xs : List Int} {Q : Flow → Shared → Prop} {E : Value → Shared → Prop}
    (S : Start w h0) (hh : A.handled = none) (hA : A.depth < 800) (hu : A.units < 8000) (X : LW w h0 L p65 (ko w.params 23) c s.heap) (hc2 : c[2]? = some (some (.ref lr))) (hc5 : c[5]? = some u) (hl : s.heap.IsList lr (List.toArray vr)) (hr : RowsAt s.heap vr (nssOf xs)) (hx : Small xs) (h2 : 2 ≤ xs.length) (hz : xs.length ≤ 16)
    (k : ∀ h' tk o' lt, Lk s.heap h' → LW w h0 L p65 o' (c.set 5 (some (.ref lt))) h' → h'.IsList lt (List.toArray ((dueN (fun j => xs.getD j 0) xs.length).map fun i => vr.getD i .none)) → Q .next { s with heap := h', toks := tk }) :
    wpAny (model rw_mq0086_01.row.prog w) A (exec (lawS 8) (envW L)) Q E s := by
  conv in lawS 8 => whnf
  have hvr : vr.length = xs.length := by rw [hr.1, nss_len]
  iterate 3 walk1
  refine callWith_kw ?_
  iterate 3 walk1
  refine kws_cons ?_
  iterate 2 walk1
  refine cw_own X.bas ⟨_, rfl⟩ rfl ?_ rfl
  iterate 3 walk1
  refine ⟨X.bas, ?_⟩
  refine cmpkey_call X.bas X.t23 (by omega) hh ?_
  intro h₁ tk₁ n0 tk0 tB L₁ k1 t23 K
  have lk1 : Lk s.heap h₁ := Lk.fields (oa := ko w.params 23) (vs := itemsOf (ko w.params 23)) X.t23 rfl fun b o n e => k1 b o e n
  have X1 : LW w h0 L p65 (tab23 w.params n0) c h₁ := LW.grow23' (ps1 := itemsOf (ko w.params 23)) X ⟨_, S.b23⟩ S.c27 (fun b o n e => k1 b o e n) rfl t23
  have hl1 := list_lk hl lk1
  have hr1 := hr.lk lk1
  refine kws_nil ?_
  show wpAny _ A (call (.builtin "sorted") [.ref lr] [(Str.ofString "key", .ref (n0 + 127))]) _ _ _
  refine sortedK (key := fun j => xs.getD j 0) X1.bas K (by omega) (by omega) hh hr1 (fun i j hi hj => ?_) (by omega) (by omega) hl1 ?_
  · show _ = decide (xs.getD i 0 < xs.getD j 0)
    rw [decide_eq_decide]
    exact (key_cmp hx (by omega) (by omega)).1
  intro D h₂ tk₂ k2 _ hD
  dsimp only
  rw [hvr, sort_due h2] at hD
  refine W_store 5 (X1.keeps k2) (by decide) (by kernel_rfl) (by kernel_rfl) hc5 ?_
  intro h₃ lk3 _ X3
  exact k h₃ _ _ D (Lk.trans lk1 (Lk.trans (Lk.of k2) lk3)) X3 (list_lk hD lk3)
end
end Mine
namespace Mine
open PySem.Challenge
set_option maxHeartbeats 0
set_option maxRecDepth 100000
section
local macro_rules | `(tactic| walk_at "eval Name") => `(tactic| first
  | (refine W_rows (by assumption) (by assumption) ?_)
  | (refine W_blt (LW.bas (by assumption)) (by rfl) ?_ (by kernel_rfl) (by decide)))
local macro_rules | `(tactic| walk_at "nothing here") => `(tactic| fail)
local macro_rules | `(tactic| walk_at "call builtin:len") => `(tactic| (refine len_list (by assumption) (by omega) ?_))
theorem stmt9 {w : World} {h0 : Heap} {L : Nat} {p65 : Array Value} {o23 : Obj} {c : List (Option Value)} {s : Shared} {A : Around} {lr lt ld : Addr} {vr ds : List Value} {nss : List (List Int)} {d : List Nat} {Q : Flow → Shared → Prop} {E : Value → Shared → Prop}
    (hh : A.handled = none) (hu : A.units < 8000) (X : LW w h0 L p65 o23 c s.heap) (hc2 : c[2]? = some (some (.ref lr))) (hc4 : c[4]? = some (some (.ref ld))) (hc5 : c[5]? = some (some (.ref lt))) (hl : s.heap.IsList lr (List.toArray vr)) (hr : RowsAt s.heap vr nss) (hz : vr.length ≤ 16)
    (hld : s.heap.IsList ld (List.toArray ds)) (hds : IntsAre ds (d.map fun j : Nat => (j : Int))) (hd : ∀ j ∈ d, j < vr.length) (hdl : d.length = vr.length) (hlt : s.heap.IsList lt (List.toArray (d.map fun i => vr.getD i .none)))
    (k : ∀ h' tk, Kp s.heap h' → Q .next { s with heap := h', toks := tk }) :
    wpAny (model rw_mq0086_01.row.prog w) A (exec (lawS 9) (envW L)) Q E s := by
  conv in lawS 9 => whnf
  have hcl : cLine = 9900 := rfl
  have hvz : vr.toArray.size = vr.length := by rw [List.size_toArray]
  iterate 2 walk1
  refine lc_range (cl := [(Str.ofString "told", L + 1 + 5), (Str.ofString "rows", L + 1 + 2), (Str.ofString "due", L + 1 + 4)]) (fun _ => false) (fun _ _ => False) hh (by with_unfolding_all rfl) (by decide) rfl (by decide) rfl ?_
  iterate 12 walk1
  rw [hvz]
  refine range_it (n := vr.length) (by omega) ?_
  intro h₁ I tk₁ k1 hI0 hIlt hIr
  refine RP.mk vr.length (by omega) hIr ?_ ?_ ?_
  · intro C i t s₃ m₃ E' hC hi hns hm hkp
    refine wpAny_tests_one ?_
    have j : Kp s.heap s₃.heap := fun b o e => hkp b o (fun q => by subst q; rw [hI0] at e; cases e) (k1 b o e)
    have X3 := X.keeps j
    have hl3 := hl.at fun o e => j _ o e
    have hld3 := hld.at fun o e => j _ o e
    have hlt3 := hlt.at fun o e => j _ o e
    have cr : s₃.heap.IsCell (L + 1 + 2) (some (.ref lr)) := X3.cell 2 _ hc2
    have cd : s₃.heap.IsCell (L + 1 + 4) (some (.ref ld)) := X3.cell 4 _ hc4
    have ct : s₃.heap.IsCell (L + 1 + 5) (some (.ref lt)) := X3.cell 5 _ hc5
    have hid : i < d.length := by omega
    have hdi : d[i] < vr.length := hd _ (List.getElem_mem hid)
    obtain ⟨td, ed⟩ := hds.get i (d[i] : Int) (by rw [List.getElem?_map, List.getElem?_eq_getElem hid]; rfl)
    obtain ⟨a, _, ea, _⟩ := hr.2 d[i] (nss[d[i]]'(by rw [← hr.1]; exact hdi)) (List.getElem?_eq_getElem _)
    have et : (d.map fun i => vr.getD i .none).toArray[Int.toNat (i : Int)]? = some (.ref a) := by
      rw [Int.toNat_natCast, List.getElem?_toArray, List.getElem?_map, List.getElem?_eq_getElem hid]
      show some (vr.getD d[i] .none) = _
      rw [List.getD_eq_getElem?_getD, ea]; rfl
    have ed' : ds.toArray[Int.toNat (i : Int)]? = some (.int (d[i] : Int) td) := by rw [Int.toNat_natCast, List.getElem?_toArray]; exact ed
    have er : vr.toArray[Int.toNat ((d[i] : Nat) : Int)]? = some (.ref a) := by rw [Int.toNat_natCast, List.getElem?_toArray]; exact ea
    have st : ((d.map fun i => vr.getD i .none).toArray).size = d.length := by rw [List.size_toArray, List.length_map]
    have sd : ds.toArray.size = d.length := by rw [List.size_toArray, hds.length, List.length_map]
    iterate 2 walk1
    refine nm_cell (c := L + 1 + 5) (by rfl) ct ?_ rfl rfl (by decide)
    walk1
    refine item_list hlt3 (by omega) (by omega) et ?_
    walk1
    refine nm_cell (c := L + 1 + 2) (by rfl) cr ?_ rfl rfl (by decide)
    walk1
    refine nm_cell (c := L + 1 + 4) (by rfl) cd ?_ rfl rfl (by decide)
    walk1
    refine item_list hld3 (by omega) (by omega) ed' ?_
    refine item_list hl3 (by omega) (by omega) er ?_
    refine wpAny_isNot_ref_self ?_
    walk1
    exact ⟨rfl, s₃.heap, s₃.toks, rfl, fun _ _ e => e⟩
  · intro C i t s₃ m₃ E' hC hi hpi; cases hpi
  intro D h₂ tk₂ ys hD hpl hP hkp
  have j : Kp s.heap h₂ := fun b o e => hkp b o (fun q => by subst q; rw [hI0] at e; cases e) (k1 b o e)
  have e0 : ys.toList = [] := by
    have h2 : (List.range vr.length).filter (fun _ => false) = [] := List.filter_eq_nil_iff.mpr fun _ _ => nofun
    rw [h2] at hP
    exact List.length_eq_zero_iff.mp hP.length.symm
  have hD2 : h₂.IsList D (List.toArray []) := by
    have := Heap.PlainList.isList hpl
    rw [show ys = List.toArray [] from by rw [← e0]] at this
    exact this
  iterate 2 walk1
  refine wpAny_newList ?_ (Nat.zero_le _)
  generalize hH : Heap.push _ _ = h4
  have k4 : Kp h₂ h4 := fun b o e => hH ▸ Heap.get?_push_of_some _ e
  have hD4 : h4.IsList h₂.objs.size (List.toArray []) := ⟨_, hH ▸ Heap.get?_push_size _ rfl, rfl, 0, rfl⟩
  refine ke_ne_ints (xs := []) (ys := []) (ns := []) (ms := []) (hD2.at fun o e => k4 _ o e) hD4 .nil .nil (by omega) ?_
  repeat' walk1
  exact k h4 _ (Kp.trans j k4)
end
end Mine
namespace Mine
open PySem.Challenge
set_option maxHeartbeats 0
set_option maxRecDepth 100000
def bestL : Arguments × Expr × Scope × Pos := match lawS 10 with | .Return (some (.Compare (.Call _ (.Lambda p b sc pos :: _) _ _) _ _ _)) _ => (p, b, sc, pos) | _ => default
def bestPos : Pos := bestL.2.2.2
def envRB (f c' L : Nat) : Env := envX lq bestL.2.2.1 L f (.ref c') []
theorem best_body : ∃ p1 p2 p3 p4 p5 p6 p7 p8 p9, bestL.2.1 = .IfExp (.Compare (.Call (.Name (Str.ofString "_law_compared") p1) [.Name (Str.ofString "one") p2, .Name (Str.ofString "two") p3] [] p4) [.LtE] [.Constant (.int 0) 0 p5] p6) (.Name (Str.ofString "two") p7) (.Name (Str.ofString "one") p8) p9 := ⟨_, _, _, _, _, _, _, _, _, rfl⟩
theorem best_call {w : World} {s : Shared} {A : Around} {f c' lr : Addr} {vr : List Value} {xs : List Int} {pm ctv : Value} {Q E : Value → Shared → Prop} (B : Bas w.params s.heap) (hA : A.depth < 880) (hh : A.handled = none)
    (hf : s.heap.get? f = some (kla_obj (Str.ofString "<lambda>") lq bestL.1 bestL.2.1 bestL.2.2.1 [] pm c' ctv)) (hcd : s.heap.CodeRec (.ref c') lq) (hl : s.heap.IsList lr (List.toArray vr)) (hr : RowsAt s.heap vr (nssOf xs)) (hx : Small xs) (hp : 0 < xs.length)
    (k : ∀ h' tk, Kp s.heap h' → Q (vr.getD (bestN (fun j => xs.getD j 0) (xs.length - 1)) .none) { s with heap := h', toks := tk }) :
    wpAny (model rw_mq0086_01.row.prog w) A (call (.ref 37) [.ref f, .ref lr]) Q E s := by
  have hvr : vr.length = xs.length := by rw [hr.1, nss_len]
  have hat : ∀ {i : Nat}, i < vr.length → vr.toArray[i]? = some (vr.getD i .none) := fun {i} h => by
    rw [List.getElem?_toArray, List.getD_eq_getElem?_getD, List.getElem?_eq_getElem h]; rfl
  refine reduce2_call (J := fun i v => 1 ≤ i ∧ v = vr.getD (bestN (fun j => xs.getD j 0) (i - 1)) .none) (x0 := vr.getD 0 .none) B (by omega) hh hl hf rfl (hat (by omega)) ⟨Nat.le_refl _, rfl⟩ ?_ ?_
  · rintro i v x s' kk ⟨h1, rfl⟩ hxi
    have hil : i < xs.length := by
      have := (Array.getElem?_eq_some_iff.mp hxi).1
      rw [List.size_toArray] at this
      omega
    have ex : x = vr.getD i .none := by
      rw [hat (by omega)] at hxi
      exact (Option.some.inj hxi).symm
    subst ex
    obtain ⟨b, hb⟩ : ∃ b, b = bestN (fun j => xs.getD j 0) (i - 1) := ⟨_, rfl⟩
    have hbl : b < xs.length := by have := (best_ok (fun j => xs.getD j 0) (i - 1)).1; omega
    have hnext : bestN (fun j => xs.getD j 0) i = if xs.getD b 0 ≤ xs.getD i 0 then i else b := by
      obtain ⟨m, rfl⟩ : ∃ m, i = m + 1 := ⟨i - 1, by omega⟩
      rw [hb]; rfl
    rw [← hb]
    obtain ⟨l1, ws1, e1, a1, i1, z1, p1⟩ := hr.2 b _ (nss_at hbl)
    obtain ⟨l2, ws2, e2, a2, i2, z2, p2⟩ := hr.2 i _ (nss_at hil)
    have g1 : vr.getD b .none = .ref l1 := by rw [List.getD_eq_getElem?_getD, e1]; rfl
    have g2 : vr.getD i .none = .ref l2 := by rw [List.getD_eq_getElem?_getD, e2]; rfl
    have hc := (key_cmp hx hbl hil).2
    rw [List.getD_eq_getElem?_getD (l := nssOf xs), List.getD_eq_getElem?_getD (l := nssOf xs), nss_at hbl, nss_at hil] at hc
    rw [g1, g2]
    refine wpAny_call ?_
    refine lam_call (kk _ _ hf) (hcd.keeps kk) (by have : recursionLimit = 1000 := rfl; show A.depth + 1 < _; omega) (B.keeps kk).lim (binds := [(Str.ofString "one", .ref l1), (Str.ofString "two", .ref l2)]) (by kernel_rfl) (locs rfl) ?_ (by kernel_rfl) (by kernel_rfl) (by kernel_rfl) (by decide)
    intro h₁ hns k1
    change wpAny _ (Around.deeper _ (envRB f c' s'.heap.objs.size)) (eval bestL.2.1 (envRB f c' s'.heap.objs.size)) _ _ _
    refine wpAny_mono (E := fun _ _ => False) ?_ (fun _ _ x => x) (fun _ _ x => x.elim)
    obtain ⟨m, hn1, m1, m2⟩ : ∃ m, h₁.Ns s'.heap.objs.size m ∧ m (Str.ofString "one") = some (.ref l1) ∧ m (Str.ofString "two") = some (.ref l2) := ⟨_, hns, rfl, rfl⟩
    clear hns
    have k0 : Kp s.heap h₁ := Kp.trans kk k1
    have B1 := B.keeps k0
    obtain ⟨q1, q2, q3, q4, q5, q6, q7, q8, q9, eb⟩ := best_body
    rw [eb]
    dsimp only
    iterate 3 walk1
    refine nm_own (env := envRB f c' s'.heap.objs.size) B1 (by rfl) ?_ (by kernel_rfl) (by kernel_rfl) (by kernel_rfl) (by decide)
    refine cw_own B1 ⟨_, rfl⟩ rfl ?_ rfl
    walk1
    refine nm_loc (env := envRB f c' s'.heap.objs.size) hn1 m1 ?_ (by kernel_rfl) (by kernel_rfl) (by decide)
    walk1
    refine nm_loc (env := envRB f c' s'.heap.objs.size) hn1 m2 ?_ (by kernel_rfl) (by kernel_rfl) (by decide)
    walk1
    refine ⟨B1, ?_⟩
    refine compared_call B1 (by show A.depth + 1 + 1 < 890; omega) hh (a1.at fun o e => k0 _ o e) i1 z1 (a2.at fun o e => k0 _ o e) i2 z2 p1 p2 ?_
    intro h₂ tk₂ t k2
    have hn2 := hn1.keeps k2
    have k02 : Kp s'.heap h₂ := Kp.trans k1 k2
    have hc' : cmpN (bareN (octs (xs.getD b 0) ((b : Int) % 3))) (bareN (octs (xs.getD i 0) ((i : Int) % 3))) ≤ 0 ↔ xs.getD b 0 ≤ xs.getD i 0 := hc
    generalize hcm : cmpN (bareN (octs (xs.getD b 0) ((b : Int) % 3))) (bareN (octs (xs.getD i 0) ((i : Int) % 3))) = C at *
    iterate 4 walk1
    · rename (C ≤ 0) => hle
      refine nm_loc (env := envRB f c' s'.heap.objs.size) hn2 m2 ⟨⟨by omega, ?_⟩, h₂, _, rfl, k02⟩ (by kernel_rfl) (by kernel_rfl) (by decide)
      rw [Nat.add_sub_cancel, hnext, if_pos (hc'.mp hle), g2]
    · rename (¬ C ≤ 0) => hle
      refine nm_loc (env := envRB f c' s'.heap.objs.size) hn2 m1 ⟨⟨by omega, ?_⟩, h₂, _, rfl, k02⟩ (by kernel_rfl) (by kernel_rfl) (by decide)
      rw [Nat.add_sub_cancel, hnext, if_neg (fun q => hle (hc'.mpr q)), g1]
  · rintro h' tk v kk ⟨_, rfl⟩
    rw [List.size_toArray, hvr]
    exact k h' tk kk
end Mine
namespace Mine
open PySem.Challenge
set_option maxHeartbeats 0
set_option maxRecDepth 100000
theorem item_last {prog : Program} {w : World} {A : Around} {E : Value → Shared → Prop} {s : Shared} {value slice : Expr} {l : Addr} {items : Array Value} {u : Tok} {x : Value} {Q : Value → Shared → Prop} (hl : s.heap.IsList l items)
    (h0 : 0 < items.size) (hx : items[items.size - 1]? = some x) (h : Q x s)
    (hs : subscripted slice false (.ref l) (.int (-1) u) = operate [.ref l, .int (-1) u] (getItem (.ref l) (.int (-1) u)) := by with_unfolding_all rfl) (hg : ∀ r, letTemporaryGo value (.ref l) r = pure () := by intro _; with_unfolding_all rfl) :
    wpAny (model prog w) A (subscriptTail value slice (.ref l) (.int (-1) u)) Q E s := by
  refine subscriptTail_builtin hl.typeIs slot_list_getitem.lookup (wpAny_getItem_list_neg hl (by decide) (by omega) (by decide) ?_ h) hs hg
  have : ((-1 : Int) + (items.size : Int)).toNat = items.size - 1 := by omega
  rw [this]; exact hx
section
local macro_rules | `(tactic| walk_at "nothing here") => `(tactic| fail)
local macro_rules | `(tactic| walk_at "nothing here") => `(tactic| fail)
local macro_rules | `(tactic| walk_at "nothing here") => `(tactic| fail)
local macro_rules | `(tactic| walk_at "eval Name") => `(tactic| first
  | (refine W_rows (by assumption) (by assumption) ?_)
  | (refine W_told (by assumption) (by assumption) ?_)
  | (refine W_own (LW.bas (by assumption)) (by rfl) ?_ (by kernel_rfl) (by decide)))
theorem stmt10 {w : World} {h0 : Heap} {L : Nat} {p65 : Array Value} {o23 : Obj} {c : List (Option Value)} {s : Shared} {A : Around} {lr lt : Addr} {vr : List Value} {xs : List Int} {Q : Flow → Shared → Prop} {E : Value → Shared → Prop}
    (S : Start w h0) (hh : A.handled = none) (hA : A.depth < 800) (X : LW w h0 L p65 o23 c s.heap) (hc2 : c[2]? = some (some (.ref lr))) (hc5 : c[5]? = some (some (.ref lt))) (hl : s.heap.IsList lr (List.toArray vr)) (hr : RowsAt s.heap vr (nssOf xs)) (hx : Small xs) (hp : 0 < xs.length)
    (hlt : s.heap.IsList lt (List.toArray ((dueN (fun j => xs.getD j 0) xs.length).map fun i => vr.getD i .none)))
    (ht : TriplesOk p65.toList) (hnf : codeAmong bestPos p65.toList = none)
    (k : ∀ h' tk c', LW w h0 L (p65n p65 bestPos c') o23 c h' → Q (.ret (.bool true)) { s with heap := h', toks := tk }) :
    wpAny (model rw_mq0086_01.row.prog w) A (exec (lawS 10) (envW L)) Q E s := by
  conv in lawS 10 => whnf
  have hvr : vr.length = xs.length := by rw [hr.1, nss_len]
  iterate 4 walk1
  refine cw_own X.bas ⟨_, rfl⟩ rfl ?_ rfl
  walk1
  have lk65 : ∀ {l : Addr} {its : Array Value}, s.heap.IsList l its → l ≠ 65 := by
    rintro l its ⟨o, e, _, n, d⟩ rfl
    rw [X.t65] at e; cases e; cases d
  change wpAny _ A (eval (.Lambda bestL.1 bestL.2.1 bestL.2.2.1 bestPos) (envW L)) _ _ _
  refine W_lambda S X rfl rfl (clos := []) (by with_unfolding_all rfl) (by with_unfolding_all rfl) ht hnf ?_
  intro f c' ctv pm h₁ tk₁ X1 k1 hf hrec _ _
  have hl1 := hl.at fun o e => k1 _ o (lk65 hl) e
  have hlt1 := hlt.at fun o e => k1 _ o (lk65 hlt) e
  have hr1 : RowsAt h₁ vr (nssOf xs) := ⟨hr.1, fun i n e => let ⟨l, ws, a, b, c⟩ := hr.2 i n e; ⟨l, ws, a, b.at fun o e => k1 _ o (lk65 b) e, c⟩⟩
  iterate 3 walk1
  refine ⟨X1.bas, ?_⟩
  refine best_call X1.bas (by omega) hh hf hrec hl1 hr1 hx hp ?_
  intro h₂ tk₂ k2
  have X2 := X1.keeps k2
  have hlt2 := hlt1.at fun o e => k2 _ o e
  have hb : bestN (fun j => xs.getD j 0) (xs.length - 1) < xs.length := by have := (best_ok (fun j => xs.getD j 0) (xs.length - 1)).1; omega
  obtain ⟨a, _, ea, _⟩ := hr.2 _ _ (nss_at hb)
  have eg : vr.getD (bestN (fun j => xs.getD j 0) (xs.length - 1)) .none = .ref a := by rw [List.getD_eq_getElem?_getD, ea]; rfl
  rw [eg]
  have sz : (List.toArray ((dueN (fun j => xs.getD j 0) xs.length).map fun i => vr.getD i .none)).size = xs.length := by rw [List.size_toArray, List.length_map, due_len]
  have el : (List.toArray ((dueN (fun j => xs.getD j 0) xs.length).map fun i => vr.getD i .none))[(List.toArray ((dueN (fun j => xs.getD j 0) xs.length).map fun i => vr.getD i .none)).size - 1]? = some (.ref a) := by
    rw [sz, List.getElem?_toArray, List.getElem?_map, best_last hp, ← eg]; rfl
  iterate 2 walk1
  iterate 3 walk1
  refine item_last hlt2 (by omega) el ?_
  refine wpAny_is_ref_self ?_
  exact k h₂ _ c' X2
end
end Mine
namespace Mine
open PySem.Challenge
set_option maxHeartbeats 0
set_option maxRecDepth 100000
theorem cells_get {cm : Str → Option Value} {h0 h : Heap} {L : Addr} {cs : List (Str × Addr)} {cells : List (Addr × Obj)} (C : CellsAre cm cs cells) (N : News h0 L h cells) : ∀ n c, cs.lookup n = some c → h.IsCell c (cm n) := by
  have N' : ∀ p ∈ cells, h.get? p.1 = some p.2 := fun p hp => (N p hp).1
  clear N
  induction C with
  | nil => intro n c e; cases e
  | @cons n0 c0 o cs cells hd _ ih =>
    intro n c e
    rw [List.lookup_cons] at e
    cases q : n == n0 with
    | true =>
      rw [q] at e
      cases e
      rw [eq_of_beq q]
      exact ⟨o, N' _ (.head _), hd⟩
    | false =>
      rw [q] at e
      exact ih (fun p hp => N' p (.tail _ hp)) n c e
theorem codeAmong_off {pos : Pos} {a b : Int} {t u : Tok} {x : Value} (hne : ¬ ((a == pos.line && b == pos.col) = true)) : ∀ {l : List Value}, TriplesOk l → codeAmong pos l = none → codeAmong pos (l ++ [.int a t, .int b u, x]) = none := by
  intro l h hn
  fun_induction TriplesOk l with
  | case1 =>
    show codeAmong pos [.int a t, .int b u, x] = none
    rw [codeAmong, if_neg hne]; rfl
  | case2 a' t' b' u' y rest ih =>
    simp only [List.cons_append, codeAmong] at hn ⊢
    split at hn
    · cases hn
    · rename_i hc; rw [if_neg hc]; exact ih h hn
  | case3 l h1 h2 => exact h.elim
theorem red65 (P : Params) : codeAmong redPos (ps65 P).toList = none := by kernel_rfl
theorem best65 (P : Params) : codeAmong bestPos (ps65 P).toList = none := by kernel_rfl
noncomputable def askTri (P : Params) (c' : Addr) : Array Value := ps65 P ++ #[rawInt askPos.line, rawInt askPos.col, .ref c']
theorem tri_ask (P : Params) (c' : Addr) : TriplesOk (askTri P c').toList := by
  unfold askTri; rw [Array.toList_append]; exact tri_snoc (tri65 P)
theorem red_ask (P : Params) (c' : Addr) : codeAmong redPos (askTri P c').toList = none := by
  unfold askTri; rw [Array.toList_append]; exact codeAmong_off (by decide) (tri65 P) (red65 P)
theorem best_ask (P : Params) (c' : Addr) : codeAmong bestPos (askTri P c').toList = none := by
  unfold askTri; rw [Array.toList_append]; exact codeAmong_off (by decide) (tri65 P) (best65 P)
theorem tri_red (P : Params) (c' c2 : Addr) : TriplesOk (p65n (askTri P c') redPos c2).toList := by
  unfold p65n; rw [Array.toList_append]; exact tri_snoc (tri_ask P c')
theorem best_red (P : Params) (c' c2 : Addr) : codeAmong bestPos (p65n (askTri P c') redPos c2).toList = none := by
  unfold p65n; rw [Array.toList_append]; exact codeAmong_off (by decide) (tri_ask P c') (best_ask P c')
theorem law_body : (theDef 11).1 = [lawS 0, lawS 1, lawS 2, lawS 3, lawS 4, lawS 5, lawS 6, lawS 7, lawS 8, lawS 9, lawS 10] := by kernel_rfl
theorem xs_len (ns : List Int) : 8 ≤ (xsOf ns).length ∧ (xsOf ns).length ≤ 16 := by
  unfold xsOf
  rw [List.length_map, List.length_append, List.length_take, show more8.length = 8 from rfl]
  omega
theorem xs_small (ns : List Int) : Small (xsOf ns) := by
  intro x hx
  unfold xsOf at hx
  obtain ⟨n, _, rfl⟩ := List.mem_map.mp hx
  omega
end Mine
namespace Mine
open PySem.Challenge
set_option maxHeartbeats 0
set_option maxRecDepth 100000
theorem rows_off {h h' : Heap} {vs : List Value} {nss : List (List Int)} {P : Addr → Prop} (r : RowsAt h vs nss) (hP : ∀ l ws, h.IsList l (List.toArray ws) → 0 < ws.length → P l) (k : ∀ b o, P b → h.get? b = some o → h'.get? b = some o) : RowsAt h' vs nss :=
  ⟨r.1, fun i n e => let ⟨l, ws, a, b, c⟩ := r.2 i n e; ⟨l, ws, a, b.at fun o e => k l o (hP l ws b (by rw [c.1.length]; exact c.2.2)) e, c⟩⟩
theorem law_call {w : World} {s : Shared} {A : Around} {l : Addr} {vs : List Value} {ns : List Int} {Q E : Value → Shared → Prop} (S : Start w s.heap) (B : Bas w.params s.heap) (hlow : 69 ≤ s.heap.objs.size)
    (hA : A.depth < 700) (hh : A.handled = none) (hu : A.units < 7000) (hfr : A.frames = some []) (hl : s.heap.IsList l vs.toArray) (hi : IntsAre vs ns) (hz : ns.length ≤ 63)
    (k : ∀ h' tk, OldK s.heap h' → Q (.bool true) { s with heap := h', toks := tk }) :
    wpAny (model rw_mq0086_01.row.prog w) A (call (.ref 68) [.ref l]) Q E s := by
  refine wpAny_call ?_
  have ho := B.X 68 _ rfl
  refine call_cellsN_ret (by have : recursionLimit = 1000 := rfl; omega) ho rfl B.lim ?cd rfl ?hkind ?hnd ?_
  case hkind => exact kinds_of ⟨.inl rfl, trivial⟩
  case hnd => decide
  case cd => exact codeRec_of B.X rfl
  intro h₁ tk cells F N C
  clear ho
  have k1 : Kp s.heap h₁ := F.keep
  have hn0 := F.ns
  have cget := cells_get C N
  have hL : s.heap.objs.size = s.heap.objs.size := rfl
  obtain ⟨m, hn, hm⟩ : ∃ m, h₁.Ns s.heap.objs.size m ∧ m (Str.ofString "script") = some (.ref l) := ⟨_, hn0, rfl⟩
  clear hn0
  have c0 : h₁.IsCell (s.heap.objs.size + 1 + 0) none := cget (Str.ofString "numbers") _ (by kernel_rfl)
  have c1 : h₁.IsCell (s.heap.objs.size + 1 + 1) none := cget (Str.ofString "k") _ (by kernel_rfl)
  have c2 : h₁.IsCell (s.heap.objs.size + 1 + 2) none := cget (Str.ofString "rows") _ (by kernel_rfl)
  have c3 : h₁.IsCell (s.heap.objs.size + 1 + 3) none := cget (Str.ofString "ask") _ (by kernel_rfl)
  have c4 : h₁.IsCell (s.heap.objs.size + 1 + 4) none := cget (Str.ofString "due") _ (by kernel_rfl)
  have c5 : h₁.IsCell (s.heap.objs.size + 1 + 5) none := cget (Str.ofString "told") _ (by kernel_rfl)
  have c6 : h₁.IsCell (s.heap.objs.size + 1 + 6) none := cget (Str.ofString "walker") _ (by kernel_rfl)
  clear F N C cget hL
  generalize hLe : s.heap.objs.size = L at *
  have X0 : LW w s.heap L (ps65 w.params) (ko w.params 23) [none, none, none, none, none, none, none] h₁ := by
    refine ⟨B.keeps k1, OldK.of_keep k1, by omega, Nat.le_of_eq hLe, rfl, ?_, ⟨m, hn⟩, k1 _ _ S.b65, k1 _ _ S.b23, ?_⟩
    · obtain ⟨o, e, _⟩ := c6; exact Heap.lt_size e
    · intro i v e
      rcases i with _ | _ | _ | _ | _ | _ | _ | i
      · cases e; exact c0
      · cases e; exact c1
      · cases e; exact c2
      · cases e; exact c3
      · cases e; exact c4
      · cases e; exact c5
      · cases e; exact c6
      · cases e
  clear c0 c1 c2 c3 c4 c5 c6
  change wpAny _ (A.deeper (envW L)) (execs (theDef 11).1 (envW L)) _ _ _
  have hA1 : (A.deeper (envW L)).handled = none := hh
  have dA : (A.deeper (envW L)).depth < 800 := by show A.depth + 1 < 800; omega
  have fA : (A.deeper (envW L)).frames = some [envW L] := by show A.frames.map _ = _; rw [hfr]; rfl
  have uA : (A.deeper (envW L)).units < 8000 := by show A.units + 3 < 8000; omega
  generalize A.deeper (envW L) = A1 at *
  rw [law_body]
  have xl := xs_len ns
  have xsm := xs_small ns
  have Ls : ∀ {h : Heap} {W : Addr} {lo : Addr}, h.IsListIter W lo 0 → ∀ {b : Addr} {o : Obj} {xs : Array Value} {n : Nat}, h.get? b = some o → o.data = .seq xs n → b ≠ W := by
    rintro h W lo ⟨o', e', _, d'⟩ b o xs n e d rfl
    rw [e] at e'; cases e'; rw [d] at d'; cases d'
  refine wpAny_execs_cons ?_
  refine stmt0 hA1 X0 rfl hn hm (hl.at fun o e => k1 _ o e) hi hz ?_
  intro h2 tk2 ln vn X2 hln hvn
  dsimp only
  clear X0 k1 hn hm
  refine wpAny_execs_cons ?_
  refine stmt1 hA1 dA X2 rfl rfl hln hvn xl.2 xsm ?_
  intro h3 tk3 lr vr lk3 X3 hlr hr
  dsimp only
  replace hln := list_lk hln lk3
  clear lk3 X2 h2
  refine wpAny_execs_cons ?_
  refine stmt2 hA1 X3 rfl rfl hlr hr (by rw [nss_len]; exact xl.2) ?_
  intro h4 tk4 W lo vo lk4 X4 hW hit hlo hvo
  dsimp only
  replace hln := list_lk hln lk4
  replace hlr := list_lk hlr lk4
  replace hr := hr.lk lk4
  clear lk4 X3 h3
  refine wpAny_execs_cons ?_
  refine stmt3 S X4 rfl rfl ?_
  intro h5 tk5 f cA lk5 k5 X5 hask
  dsimp only
  replace hln := list_lk hln lk5
  replace hlr := list_lk hlr lk5
  replace hlo := list_lk hlo lk5
  replace hr := hr.lk lk5
  replace hit : h5.IsListIter W lo 0 := hit.at fun o e => k5 _ o (by have := X5.low69; rintro rfl; omega) (by rintro rfl; exact absurd hW (by omega)) e
  clear lk5 k5 X4 h4
  refine wpAny_execs_cons ?_
  refine stmt4 hA1 dA uA fA X5 rfl rfl rfl rfl hln hvn hlr hr xl.2 xsm hask hW hit hlo hvo ?_
  intro h6 tk6 X6 k6
  dsimp only
  obtain ⟨m5, o5, es5, ep5, ho5, hd5, _⟩ := X5.ns
  have lk6 : Lk h5 h6 := fun b o xs n e d => k6 b o (Ls hit e d) (by rintro rfl; rw [ho5] at e; cases e; rw [hd5] at d; cases d) e
  replace hln := list_lk hln lk6
  replace hlr := list_lk hlr lk6
  replace hr := hr.lk lk6
  clear lk6 k6 hit hask hlo hvo X5 ho5 hd5 h5
  refine wpAny_execs_cons ?_
  refine stmt5 S hA1 dA uA X6 rfl rfl hln hvn hlr hr xl.2 (by omega) xsm (tri_ask w.params cA) (red_ask w.params cA) ?_
  intro h7 tk7 cR X7 k7
  dsimp only
  have lk7 : Lk h6 h7 := Lk.fields X6.t65 rfl k7
  replace hln := list_lk hln lk7
  replace hlr := list_lk hlr lk7
  replace hr := hr.lk lk7
  clear lk7 k7 X6 h6
  refine wpAny_execs_cons ?_
  refine stmt6 X7 rfl ?_
  intro h8 tk8 ld lk8 hldL X8 hld
  dsimp only
  replace hln := list_lk hln lk8
  replace hlr := list_lk hlr lk8
  replace hr := hr.lk lk8
  clear lk8 X7 h7
  have hvr : vr.length = (xsOf ns).length := by rw [hr.1, nss_len]
  have nld : ∀ {l : Addr} {ws : List Value}, h8.IsList l (List.toArray ws) → 0 < ws.length → l ≠ ld := by
    rintro l ws ⟨o, e, _, n, d⟩ hp rfl
    rw [hld] at e
    cases e
    have e2 : (List.toArray ([] : List Value)) = List.toArray ws := (Data.seq.inj d).1
    have e3 := congrArg Array.toList e2
    simp at e3
    rw [e3] at hp
    exact absurd hp (by decide)
  have ncell : ∀ {l : Addr} {its : Array Value}, h8.IsList l its → l ≠ L + 1 + 1 := fun q => (cell_ne_list (X8.cell 1 _ rfl) q).symm
  refine wpAny_execs_cons ?_
  refine stmt7 hA1 X8 rfl rfl rfl rfl hln hvn hlr hvr xl.2 hldL hld (nld hln (by rw [hvn.length]; omega)) ?_
  intro h9 tk9 u9 kk9 ds k9 X9 hld9 hds
  dsimp only
  replace hlr := hlr.at fun o e => k9 _ o (nld hlr (by omega)) (ncell hlr) e
  replace hr := rows_off (P := fun b => b ≠ ld ∧ b ≠ L + 1 + 1) hr (fun l ws q hp => ⟨nld q hp, ncell q⟩) fun b o hb e => k9 b o hb.1 hb.2 e
  have hldl : h9.IsList ld (List.toArray ds) := ⟨_, hld9, rfl, kk9, rfl⟩
  clear nld ncell k9 hln hld hld9 X8 h8
  refine wpAny_execs_cons ?_
  refine stmt8 S hA1 dA uA X9 rfl rfl hlr hr xsm (by omega) xl.2 ?_
  intro h10 tk10 o10 lt lk10 X10 hlt
  dsimp only
  replace hlr := list_lk hlr lk10
  replace hldl := list_lk hldl lk10
  replace hr := hr.lk lk10
  clear lk10 X9 h9
  refine wpAny_execs_cons ?_
  refine stmt9 hA1 uA X10 rfl rfl rfl hlr hr (by omega) hldl hds (fun j hj => by rw [hvr]; exact due_lt hj) (by rw [due_len, hvr]) hlt ?_
  intro h11 tk11 k11
  dsimp only
  refine wpAny_execs_cons ?_
  refine stmt10 S hA1 dA (X10.keeps k11) rfl rfl (hlr.at fun o e => k11 _ o e) (hr.keeps k11) xsm (by omega) (hlt.at fun o e => k11 _ o e) (tri_red w.params cA cR) (best_red w.params cA cR) ?_
  intro h12 tk12 cB X12
  exact k h12 _ X12.old
end Mine
namespace Mine
open PySem.Challenge
set_option maxHeartbeats 0
set_option maxRecDepth 100000
theorem law_holds : rw_mq0086_01.Holds := by
  refine hd ?_
  k_fill
  intro w s₀ s₁ mg mb G Y fa o pm cd doc dV kV ho hd hcd hD hmg hg args vals as hpre hlay hrd hwl hlo
  have KX := km_in_of Y
  have X := (Ground.X G).1
  have V := (Ground.X G).2
  refine Ground.open G ?_
  intro T B D TE TW
  wrow_args hpre hlay hrd hwl hlo
  all_goals (
    x_fa T KX hmg
    (try all_lens)
    clear hd hcd hD hmg ho
    have B0 : Bas w.params s₁.heap := bas_of KX T
    have S0 : Start w s₁.heap := ⟨(km_tabs_of Y 65 (by decide)).trans (by kernel_rfl), (km_tabs_of Y 23 (by decide)).trans (by kernel_rfl), KX 67 _ (by kernel_rfl), KX 27 _ (by kernel_rfl)⟩
    refine wpAny_mono (law_call S0 B0 (Heap.lt_size (KG_ko B0 (a := 68) rfl)) (by decide) rfl (by decide) rfl (by assumption) (readsAll_intsAre (by assumption)).1 (by omega) (Q := fun v s' => v = .bool true ∧ OldK s₁.heap s'.heap ∧ s'.os = s₁.os ∧ s'.gens = s₁.gens) (E := fun _ _ => False) (fun h' tk ok => ⟨rfl, ok, rfl, rfl⟩)) ?_ (fun _ _ e => e.elim)
    rintro v s' ⟨rfl, ok, hos, hge⟩
    refine ⟨.inl ⟨_, _, [], rfl, fun _ => rfl, ReadsW.bool true, ?_, fun _ => ⟨List.nodup_nil, fun _ hm => (nomatch hm)⟩⟩, ok, hos, ?_⟩
    · first | rfl | wrow_post
    · exact .of_eq (hge.trans hg))
end Mine
set_option maxRecDepth 100000 in
set_option maxHeartbeats 8000000 in
theorem PySem.Challenge.cw_mq0086_01_holds : PySem.Challenge.rw_mq0086_01.Holds := by
  exact Mine.law_holds

