import PyProof.Rows.All
import Wide.All
import OpenK.AllK
import Wide.FinOn
import PySem.Challenge.RW_ki0109_01
open PySem PySem.W PyProof.Rows PySem.Calls
open Sem (wp)
set_option Elab.async false
set_option maxRecDepth 100000
set_option maxHeartbeats 8000000
set_option linter.unusedVariables false
namespace Mine
open_top hd for PySem.Challenge.rw_ki0109_01
local macro_rules | `(tactic| walk_at "m call") => `(tactic| ((with_reducible refine Call_ ?hc ?he); (case he => rfl)))
local macro_rules | `(tactic| walk_at "m with") => `(tactic| ((with_reducible refine callWith_builtin1 ?hc ?he ?hp); (case he => rfl); (case hp => rfl)))
local macro_rules | `(tactic| walk_at "m arg") => `(tactic| ((with_reducible refine args_cons ?hc ?he); (case he => rfl)))
local macro_rules | `(tactic| walk_at "m cons") => `(tactic| ((with_reducible refine wpAny_execs_cons ?_)))
local macro_rules | `(tactic| walk_at "m if") => `(tactic| ((with_reducible refine wpAny_If ?_)))
local macro_rules | `(tactic| walk_at "m istrue") => `(tactic| ((with_reducible refine wpAny_isTrue_value ?hc ?he); (case he => rfl)))
local macro_rules | `(tactic| walk_at "m meth") => `(tactic| ((with_reducible refine' MethodCall_ (pl := ?pl) ?hc ?he); (case he => exact rfl)))
local macro_rules | `(tactic| walk_at "m m1") => `(tactic| ((with_reducible refine callWith_method1 ?hc ?he ?hp); (case he => rfl); (case hp => rfl)))
local macro_rules | `(tactic| walk_at "m t1") => `(tactic| ((with_reducible refine PyProof.Rows.callWith_type1 ?hc ?he ?hp); (case he => rfl); (case hp => rfl)))
local macro_rules | `(tactic| walk_at "m expr") => `(tactic| ((with_reducible refine wpAny_Expr_any ?hc ?hi ?hs); (case hi => rfl); (case hs => rfl)))
local macro_rules | `(tactic| walk_at "m nil") => `(tactic| ((with_reducible refine wpAny_execs_nil ?_)))
local macro_rules | `(tactic| walk_at "m cmp") => `(tactic| ((with_reducible refine wpAny_isTrue_Compare1 ?hc ?hm); (case hm => with_unfolding_all rfl)))
local macro_rules | `(tactic| walk_at "m cmpv") => `(tactic| ((with_reducible refine wpAny_Compare1 ?hc ?hm); (case hm => with_unfolding_all rfl)))
local macro_rules | `(tactic| walk_at "m for") => `(tactic| ((with_reducible refine wpAny_For ?hc ?hs); (case hs => intro _; rfl)))

abbrev prg : Program := PySem.Challenge.pw_ki0109_01

/-- a word for the logic that no look unfolds -/
structure Wp {α : Type} (M : Model) (A : Around) (t : Sem α) (Q : α → Shared → Prop) (E : Value → Shared → Prop) (s : Shared) : Prop where
  out : wpAny M A t Q E s

def fnParts (i : Nat) : Arguments × List Stmt × Scope := match prg.main.body[i]? with
  | some (.FunctionDef _ a b _ _ _ sc _ _ _) => (a, b, sc)
  | _ => (⟨[], [], none, [], [], none, []⟩, [], { kind := .function, names := [], isGenerator := false, isCoroutine := false, more := [] })
def subA : Arguments := (fnParts 1).1
def subB : List Stmt := (fnParts 1).2.1
def subS : Scope := (fnParts 1).2.2
def underA : Arguments := (fnParts 3).1
def underB : List Stmt := (fnParts 3).2.1
def underS : Scope := (fnParts 3).2.2
def tupA : Arguments := (fnParts 4).1
def tupB : List Stmt := (fnParts 4).2.1
def tupS : Scope := (fnParts 4).2.2
def lawA : Arguments := (fnParts 5).1
def lawB : List Stmt := (fnParts 5).2.1
def lawS : Scope := (fnParts 5).2.2

/-- what every state of the run keeps of the top -/
structure Gd (w : World) (mg mb : Str → Option Value) (h : Heap) : Prop where
  X : (hd.heap_39 w.params).In h
  g : h.Ns mainGlobals mg
  b : h.Ns builtinsNs mb
  lim : h.NoLimit
  bi : ∀ x : Str, x ≠ "__name__" → mb x = bootBuiltins x
  bm : ∃ bm ob, BMod h mainGlobals mg bm ob ∧ bm ≠ 16 ∧ bm ≤ 40

theorem kMem {a : Addr} {o : Obj} : ∀ {K : Frag}, K.lookup a = some o → (a, o) ∈ K := kb_mem
theorem kLow (P : Params) : ((hd.heap_39 P).all fun p => decide (p.1 ≤ 40) && decide (p.1 ≠ 16)) = true := rfl
theorem kNe {P : Params} {a : Addr} {o : Obj} (e : (hd.heap_39 P).lookup a = some o) : a ≠ 16 ∧ a ≤ 40 := by
  have := List.all_eq_true.mp (kLow P) _ (kMem e)
  simp only [Bool.and_eq_true, decide_eq_true_eq] at this
  exact ⟨this.2, this.1⟩

theorem Gd.low {w : World} {mg mb : Str → Option Value} {h h' : Heap} (G : Gd w mg mb h) (k : ∀ b o, b ≠ 16 → b ≤ 40 → h.get? b = some o → h'.get? b = some o) : Gd w mg mb h' where
  X := fun a o e => k a o (kNe e).1 (kNe e).2 (G.X a o e)
  g := G.g.at fun o e => k _ o (by decide) (by decide) e
  b := G.b.at fun o e => k _ o (by decide) (by decide) e
  lim := let ⟨mc, a, b⟩ := G.lim; ⟨mc, a.at fun o e => k _ o (by decide) (by decide) e, b⟩
  bi := G.bi
  bm := let ⟨bm, ob, M, n, l⟩ := G.bm; ⟨bm, ob, ⟨M.ns.at fun o e => k _ o (by decide) (by decide) e, M.name, M.ne, k _ _ n l M.obj, M.cls, M.dict, M.data⟩, n, l⟩
theorem Gd.ext {w : World} {mg mb : Str → Option Value} {h h' : Heap} (G : Gd w mg mb h) (k : ∀ b o, b ≠ 16 → h.get? b = some o → h'.get? b = some o) : Gd w mg mb h' := G.low fun b o hb _ e => k b o hb e
theorem Gd.keeps {w : World} {mg mb : Str → Option Value} {h h' : Heap} (G : Gd w mg mb h) (k : ∀ b o, h.get? b = some o → h'.get? b = some o) : Gd w mg mb h' := G.ext fun b o _ e => k b o e

section
variable {w : World} {mg mb : Str → Option Value} {A : Around} {E : Value → Shared → Prop} {s : Shared} {cn : Str} {cs : Scope} {L a : Addr} {ccd : Value} {cl : List (Str × Addr)} {x : Str} {pos : Pos} {v : Value} {Q : Value → Shared → Prop}
/-- a name of the module -/
theorem nmG (G : Gd w mg mb s.heap) (e : nsIn (hd.heap_39 w.params) mainGlobals x = some (some v)) (h : Q v s)
    (hk : cs.kind = .function := by rfl) (hx : (envX cn cs L a ccd cl).kindOf x = some .globalImplicit := by rfl) (hd : (x == ("__debug__" : Str)) = false := by decide) :
    wpAny (model prg w) A (eval (.Name x pos) (envX cn cs L a ccd cl)) Q E s := Name_function_global hk hx (loadGlobal_global (env := envX cn cs L a ccd cl) G.g (mg_of G.X G.g e) h) hd
/-- a built-in name -/
theorem nmB (G : Gd w mg mb s.heap) (e : nsIn (hd.heap_39 w.params) mainGlobals x = some none) (hv : bootBuiltins x = some v) (hn : x ≠ "__name__") (h : Q v s)
    (hk : cs.kind = .function := by rfl) (hx : (envX cn cs L a ccd cl).kindOf x = some .globalImplicit := by rfl) (hd : (x == ("__debug__" : Str)) = false := by decide) :
    wpAny (model prg w) A (eval (.Name x pos) (envX cn cs L a ccd cl)) Q E s :=
  Name_function_global hk hx (loadGlobal_builtin (env := envX cn cs L a ccd cl) G.g (mg_none_of G.X G.g e) G.b ((G.bi x hn).trans hv) h) hd
/-- a local name -/
theorem nmL {m : Str → Option Value} (F : s.heap.Ns L m) (hv : m x = some v) (h : Q v s)
    (hk : cs.kind = .function := by rfl) (hx : (envX cn cs L a ccd cl).kindOf x = some .local := by rfl) (hd : (x == ("__debug__" : Str)) = false := by decide) :
    wpAny (model prg w) A (eval (.Name x pos) (envX cn cs L a ccd cl)) Q E s := wpAny_Name (wpAny_loadName_local hk hx F hv h) hd
theorem stL {m : Str → Option Value} {Q : Unit → Shared → Prop} (F : s.heap.Ns L m)
    (h : ∀ h', h'.Ns L (fun y => if y = x then some v else m y) → Heap.SameBut L s.heap h' → Q () { s with heap := h', toks := s.toks + 1 })
    (hk : cs.kind = .function := by rfl) (hx : (envX cn cs L a ccd cl).kindOf x = some .local := by rfl) : wpAny (model prg w) A (storeName (envX cn cs L a ccd cl) x v) Q E s :=
  wpAny_storeName_local hx F (fun h' hn hs => h h' hn hs) (by show (cs.kind == .class || (cs.kind == .module && L != mainGlobals)) = false; rw [hk]; rfl)
end

/-- the written table: who stands right under whom -/
def aboveL : List (Str × Str) := [("ValueError", "Exception"), ("KeyError", "LookupError"), ("LookupError", "Exception"), ("Exception", "BaseException"), ("KeyboardInterrupt", "BaseException")]
def upN (n : Str) : Option Str := (aboveL.find? (fun p => p.1 == n)).map (·.2)
def rankN (n : Str) : Nat := if n = "KeyError" then 4 else if n = "LookupError" then 3 else if n = "ValueError" then 3 else if n = "Exception" then 2 else if n = "KeyboardInterrupt" then 2 else 1
def undF : Nat → Str → Str → Bool
  | 0, n, top => n == top
  | k + 1, n, top => n == top || (match upN n with | none => false | some m => undF k m top)
def und (n top : Str) : Bool := undF 4 n top

theorem up_cases {n m : Str} (h : upN n = some m) : (n = "ValueError" ∧ m = "Exception") ∨ (n = "KeyError" ∧ m = "LookupError") ∨ (n = "LookupError" ∧ m = "Exception") ∨ (n = "Exception" ∧ m = "BaseException") ∨ (n = "KeyboardInterrupt" ∧ m = "BaseException") := by
  unfold upN aboveL at h
  simp only [List.find?_cons, List.find?_nil] at h
  split at h
  · rename_i e; simp at h e; exact .inl ⟨e.symm, h.symm⟩
  split at h
  · rename_i e; simp at h e; exact .inr (.inl ⟨e.symm, h.symm⟩)
  split at h
  · rename_i e; simp at h e; exact .inr (.inr (.inl ⟨e.symm, h.symm⟩))
  split at h
  · rename_i e; simp at h e; exact .inr (.inr (.inr (.inl ⟨e.symm, h.symm⟩)))
  split at h
  · rename_i e; simp at h e; exact .inr (.inr (.inr (.inr ⟨e.symm, h.symm⟩)))
  · cases h
theorem up_rank {n m : Str} (h : upN n = some m) : rankN m < rankN n := by
  rcases up_cases h with ⟨rfl, rfl⟩ | ⟨rfl, rfl⟩ | ⟨rfl, rfl⟩ | ⟨rfl, rfl⟩ | ⟨rfl, rfl⟩ <;> decide +kernel
theorem upB : upN "BaseException" = none := by decide +kernel
theorem upE : upN "Exception" = some (Str.ofString "BaseException") := by decide +kernel
theorem upLk : upN "LookupError" = some (Str.ofString "Exception") := by decide +kernel
theorem upV : upN "ValueError" = some (Str.ofString "Exception") := by decide +kernel
theorem upK : upN "KeyError" = some (Str.ofString "LookupError") := by decide +kernel
theorem upI : upN "KeyboardInterrupt" = some (Str.ofString "BaseException") := by decide +kernel
theorem und_step {n m top : Str} (h : upN n = some m) (hn : (n == top) = false) : und n top = und m top := by
  rcases up_cases h with ⟨rfl, rfl⟩ | ⟨rfl, rfl⟩ | ⟨rfl, rfl⟩ | ⟨rfl, rfl⟩ | ⟨rfl, rfl⟩ <;>
    simp only [und, undF, upB, upE, upLk, upV, upK, upI, hn, Bool.false_or, Bool.or_false]
theorem und_eq {n top : Str} (h : (n == top) = true) : und n top = true := by
  simp only [und, undF, h, Bool.true_or]
theorem und_none {n top : Str} (h : upN n = none) : und n top = (n == top) := by
  simp only [und, undF, h, Bool.or_false]

/-- a def of the text is called: its own frame over all that stood -/
theorem enterPlain {w : World} {mg mb : Str → Option Value} {A : Around} {R : Result → Shared → Prop} {s : Shared} {name qual : Str} {params : Arguments} {body : List Stmt} {scope : Scope} {dV kV doc pm cdv ct oc : Value} {an od : Option Addr} {osl : Array (Option Value)} {f : Addr} {args : Args} {binds : List (Str × Value)}
    (G : Gd w mg mb s.heap) (ho : (hd.heap_39 w.params).lookup f = some ⟨oc, od, .func (fnOf name qual params body scope dV kV doc pm an cdv ct), osl⟩) (hcd : codeIn (hd.heap_39 w.params) cdv qual = true) (hroom : A.depth < recursionLimit)
    (hbind : bindArgs (fnOf name qual params body scope dV kV doc pm an cdv ct) args = pure binds) (hloc : ∀ y ∈ binds, scope.names.lookup y.1 = some .local)
    (h : ∀ h₁, h₁.Ns s.heap.objs.size (fun y => binds.reverse.lookup y) → (∀ b o, s.heap.get? b = some o → h₁.get? b = some o) →
      wpAny (model prg w) (A.deeper (envX qual scope s.heap.objs.size f cdv [])) (execs body (envX qual scope s.heap.objs.size f cdv []))
        (fun fl s' => R (.ok (.ret (match fl with | .ret v => v | _ => .none))) s')
        (fun e s' => wpAny (model prg w) (A.deeper (envX qual scope s.heap.objs.size f cdv [])) (leaving (envX qual scope s.heap.objs.size f cdv []) e) (fun _ s'' => R (.error e) s'') (fun e' s'' => R (.error e') s'') s')
        { s with heap := h₁, toks := s.toks + binds.length })
    (hcell : ∀ x ∈ scope.names, x.2 ≠ .cell) (hco : scope.isCoroutine = false := by rfl) (hgen : scope.isGenerator = false := by rfl) (hk : scope.kind = .function := by rfl) : codeAny (model prg w) A (.call (.ref f) args) R s :=
  codeAny_call_def (fd := fnOf name qual params body scope dV kV doc pm an cdv ct) (body := body) (binds := binds) hroom (G.X _ _ ho) rfl G.lim (codeRec_of G.X hcd) rfl (BindsTo.of_eq hbind) hcell hloc h hco hgen hk

theorem nsAt {h h' : Heap} {L : Addr} {m : Str → Option Value} (F : h.Ns L m) (hs : ∀ o, h.get? L = some o → h'.get? L = some o) : h'.Ns L m := F.at hs

theorem sb_keep {h h' : Heap} {L : Addr} (hs : Heap.SameBut L h h') {h₀ : Heap} (k : ∀ b o, h₀.get? b = some o → h.get? b = some o) (hL : h₀.objs.size ≤ L) : ∀ b o, h₀.get? b = some o → h'.get? b = some o :=
  fun b o e => (hs.2 b (Nat.ne_of_lt (Nat.lt_of_lt_of_le (Heap.lt_size e) hL))).trans (k b o e)

/-- the dict of the table, as the display lays it -/
def abovePairs (ts : Nat → Tok) : List (Str × Value) := [("ValueError", .str "Exception" (ts 0)), ("KeyError", .str "LookupError" (ts 1)), ("LookupError", .str "Exception" (ts 2)), ("Exception", .str "BaseException" (ts 3)), ("KeyboardInterrupt", .str "BaseException" (ts 4))]
theorem above_none {ts : Nat → Tok} {n : Str} (h : upN n = none) : valueAt (abovePairs ts) n = none := by
  unfold upN aboveL at h
  unfold valueAt abovePairs
  simp only [List.find?_cons, List.find?_nil, Option.map_eq_none_iff] at h ⊢
  repeat' split at h
  all_goals first | (cases h; done) | skip
  simp_all
theorem above_some {ts : Nat → Tok} {n m : Str} (h : upN n = some m) : ∃ t, valueAt (abovePairs ts) n = some (.str m t) := by
  rcases up_cases h with ⟨rfl, rfl⟩ | ⟨rfl, rfl⟩ | ⟨rfl, rfl⟩ | ⟨rfl, rfl⟩ | ⟨rfl, rfl⟩
  · exact ⟨ts 0, rfl⟩
  · exact ⟨ts 1, rfl⟩
  · exact ⟨ts 2, rfl⟩
  · exact ⟨ts 3, rfl⟩
  · exact ⟨ts 4, rfl⟩

theorem under_body {w : World} {mg mb : Str → Option Value} {A : Around} {E : Value → Shared → Prop} {s : Shared} {h₀ : Heap} {L : Addr} {m : Str → Option Value} {n top : Str} {t1 t2 : Tok} {Q : Flow → Shared → Prop}
    (G : Gd w mg mb h₀) (N : s.heap.Ns L m) (hn : m "name" = some (.str n t1)) (ht : m "top" = some (.str top t2)) (K : ∀ b o, h₀.get? b = some o → s.heap.get? b = some o) (hL : h₀.objs.size ≤ L)
    (h : ∀ h' tk, (∀ b o, h₀.get? b = some o → h'.get? b = some o) → Q (.ret (.bool (und n top))) { s with heap := h', toks := tk }) :
    Wp (model prg w) A (execs underB (envX "_law_under" underS L 28 (.ref 27) [])) Q E s := by
  constructor
  have hlo : (s.heap.objs.size == sysModules) = false := by
    have := G.b.lt; have := N.lt
    have h3 : 3 < s.heap.objs.size := Nat.lt_of_lt_of_le G.g.lt (Nat.le_trans hL (Nat.le_of_lt N.lt))
    simp only [sysModules, beq_eq_false_iff_ne, ne_eq]
    intro e; rw [e] at h3; exact absurd h3 (by decide)
  rw [show underB = [_, _, _] from rfl]
  with_reducible refine wpAny_execs_cons ?_
  with_reducible refine wpAny_Assign_Name ?_ ?hs
  case hs => rfl
  with_reducible refine' wpAny_Dict_pairs (knd := strKind prg w) (pairs := [(_, _), (_, _), (_, _), (_, _), (_, _)]) ?p1 ?p2 ?p3 ?p4
  case p1 => exact rfl
  case p2 => simp
  case p3 => exact Nat.le_of_ble_eq_true rfl
  refine evalPairs_cons (wpAny_bind (wpAny_fresh (wpAny_pure (wpAny_bind (Constant_str (wpAny_bind (wpAny_standAt (wpAny_pure ?_))))))))
  refine evalPairs_cons (wpAny_bind (wpAny_fresh (wpAny_pure (wpAny_bind (Constant_str (wpAny_bind (wpAny_standAt (wpAny_pure ?_))))))))
  refine evalPairs_cons (wpAny_bind (wpAny_fresh (wpAny_pure (wpAny_bind (Constant_str (wpAny_bind (wpAny_standAt (wpAny_pure ?_))))))))
  refine evalPairs_cons (wpAny_bind (wpAny_fresh (wpAny_pure (wpAny_bind (Constant_str (wpAny_bind (wpAny_standAt (wpAny_pure ?_))))))))
  refine evalPairs_cons (wpAny_bind (wpAny_fresh (wpAny_pure (wpAny_bind (Constant_str (wpAny_bind (wpAny_standAt (wpAny_pure ?_))))))))
  refine evalPairs_nil ?_
  refine display_done_str (by rfl) (by simp only [strPairs, List.map]; decide) (Heap.DictOf.new _) fun h' D hs => ?_
  dsimp only at D hs ⊢
  replace D : Heap.DictOf (strKind prg w) h' s.heap.objs.size (abovePairs fun i => s.toks + 1 + i + i) := D
  have kk : ∀ b o, s.heap.get? b = some o → h'.get? b = some o := fun b o e => (hs.2 b (Nat.ne_of_lt (Heap.lt_size e))).trans (Heap.get?_push_of_some _ e)
  have N' := N.keeps kk
  have K' : ∀ b o, h₀.get? b = some o → h'.get? b = some o := fun b o e => kk b o (K b o e)
  have hLd : L ≠ s.heap.objs.size := Nat.ne_of_lt N.lt
  generalize s.heap.objs.size = d at *
  refine stL N' fun h₁ N₁ s₁ => ?_
  replace D := D.sameBut s₁ hLd.symm
  have K₁ := sb_keep s₁ K' hL
  clear K' N' kk hs s₁
  refine wpAny_execs_cons ?_
  refine wpAny_While ?_
  refine codeAny_whileLoop (fun k s' => ∃ n' t' h' tk' m', s' = { s with heap := h', toks := tk' } ∧ rankN n' ≤ k ∧ und n' top = und n top ∧ h'.Ns L m' ∧ m' "name" = some (.str n' t') ∧ m' "top" = some (.str top t2) ∧ m' "above" = some (.ref d) ∧ Heap.DictOf (strKind prg w) h' d (abovePairs fun i => s.toks + 1 + i + i) ∧ ∀ b o, h₀.get? b = some o → h'.get? b = some o) ?_ (rankN n) ⟨n, t1, h₁, _, _, rfl, Nat.le_refl _, rfl, N₁, by exact (if_neg (by decide)).trans hn, by exact (if_neg (by decide)).trans ht, by exact if_pos rfl, D, K₁⟩
  rintro k _ ⟨n', t', h', tk', m', rfl, hr, hu, N', a1, a2, a3, D', K'⟩
  refine isTrue_and (wpAny_isTrue_Compare1 (nmL N' a1 (nmL N' a2 (ne_str (wpAny_truthy_bool ?_)))))
  cases hb : (n' == top) with
  | true =>
    rw [show (n' != top) = false from by simp [bne, hb]]
    simp only [Bool.false_eq_true, if_false]
    refine wpAny_execs_nil ?_
    refine wpAny_execs_cons (wpAny_Return_some (wpAny_Compare1 (nmL N' a1 (nmL N' a2 (eq_str ?_)))))
    rw [hb, ← und_eq hb, hu]
    exact h h' _ K'
  | false =>
    rw [show (n' != top) = true from by simp [bne, hb]]
    simp only [if_true]
    refine isTrue_and (wpAny_isTrue_Compare1 (nmL N' a1 (nmL N' a3 (wpAny_in_of (strKind_is prg w n' t') hlo D'.mapOf (wpAny_truthy_bool ?_)))))
    cases hup : upN n' with
    | none =>
      rw [above_none hup]
      simp only [Option.isSome_none, Bool.false_eq_true, if_false]
      refine wpAny_execs_nil ?_
      refine wpAny_execs_cons (wpAny_Return_some (wpAny_Compare1 (nmL N' a1 (nmL N' a2 (eq_str ?_)))))
      rw [← und_none hup, hu]
      exact h h' _ K'
    | some n'' =>
      obtain ⟨tt, he⟩ := above_some (ts := fun i => s.toks + 1 + i + i) hup
      rw [he]
      simp only [Option.isSome_some, if_true]
      refine isTrue_and_nil ?_
      simp only [if_true]
      refine wpAny_execs_cons (wpAny_Assign_Name (Subscript_ (nmL N' a3 (nmL N' a1 (tail_any D'.typeIs slot_dict_getitem.lookup (wpAny_getItem_of (strKind_is prg w n' t') D'.mapOf he ?_) (by with_unfolding_all rfl))))))
      refine stL N' fun h₂ N₂ s₂ => ?_
      refine wpAny_execs_nil ?_
      exact ⟨rankN n'', up_rank hup |> fun x => Nat.lt_of_lt_of_le x hr, n'', tt, h₂, _, _, rfl, Nat.le_refl _, by rw [← hu, und_step hup hb], N₂, by exact if_pos rfl, by exact (if_neg (by decide)).trans a2, by exact (if_neg (by decide)).trans a3, D'.sameBut s₂ hLd.symm, sb_keep s₂ K' hL⟩

theorem lkHere {a : Str} {v : Value} {l : List (Str × Value)} : List.lookup a ((a, v) :: l) = some v := by simp [List.lookup]
theorem lkNext {a b : Str} {v : Value} {l : List (Str × Value)} (h : (a == b) = false) : List.lookup a ((b, v) :: l) = List.lookup a l := by simp [List.lookup, h]

/-- `_law_under` tells the table's word and keeps all that stood -/
theorem under_spec {w : World} {mg mb : Str → Option Value} {A : Around} {E : Value → Shared → Prop} {s : Shared} {n top : Str} {t1 t2 : Tok} {Q : Value → Shared → Prop}
    (G : Gd w mg mb s.heap) (hroom : A.depth < recursionLimit)
    (h : ∀ h' tk, (∀ b o, s.heap.get? b = some o → h'.get? b = some o) → Q (.bool (und n top)) { s with heap := h', toks := tk }) :
    wpAny (model prg w) A (call (.ref 28) [.str n t1, .str top t2]) Q E s := by
  refine wpAny_call (enterPlain (binds := [("name", .str n t1), ("top", .str top t2)]) (body := underB) (scope := underS) (params := underA) G rfl rfl hroom rfl (locs rfl) ?_ (by decide))
  intro h₁ N₁ K₁
  have e1 : (fun y => ([((Str.ofString "name"), Value.str n t1), (Str.ofString "top", .str top t2)] : List (Str × Value)).reverse.lookup y) "name" = some (.str n t1) := (lkNext (by decide)).trans lkHere
  have e2 : (fun y => ([((Str.ofString "name"), Value.str n t1), (Str.ofString "top", .str top t2)] : List (Str × Value)).reverse.lookup y) "top" = some (.str top t2) := lkHere
  with_reducible refine Wp.out (under_body G N₁ e1 e2 K₁ (Nat.le_refl _) ?_)
  intro h' tk k
  exact h h' tk k

namespace MF
theorem slot_ve_ga : Slot "ValueError" "__getattribute__" "BaseException.__getattribute__" :=
  .of (owner := "BaseException") (n := "__getattribute__") (by rw [typeLookup_type, builtinLookup_eq_fast]; kernel_rfl) (by decide +kernel) (by decide +kernel) (by decide +kernel)
    (by first | exact .inl (by decide +kernel) | exact .inr (by decide +kernel)) (by rw [isSubtype_type]; kernel_rfl)
theorem entry_be_ga : entryFor table "BaseException.__getattribute__" = some Builtin.«object.__getattribute__» :=
  entryFor_alias (id' := "object.__getattribute__") (by kernel_rfl) (by first | rfl | decide +kernel) (by decide +kernel) (by kernel_rfl)
theorem args_be_ga (a b : Value) : argsOk "BaseException.__getattribute__" ⟨[a, b], []⟩ := by unfold argsOk; kernel_rfl
theorem lk_ve_class : typeLookup (.type "ValueError") "__class__" = pure (some (.builtin "object.__class__")) := by rw [typeLookup_type, builtinLookup_eq_fast]; kernel_rfl
theorem sub_ve_owner : isSubtype (.type "ValueError") (.type (".".intercalate ("object.__class__".cutAt '.').dropLast)) = pure true := by
  rw [F.owner_object_class, isSubtype_type]; kernel_rfl
theorem lk_type_class : typeLookup (.type "type") "__class__" = pure (some (.builtin "object.__class__")) := by rw [typeLookup_type, builtinLookup_eq_fast]; kernel_rfl
theorem sub_type_owner : isSubtype (.type "type") (.type (".".intercalate ("object.__class__".cutAt '.').dropLast)) = pure true := by
  rw [F.owner_object_class, isSubtype_type]; kernel_rfl
theorem meta_type : typeOf (.type "type") = pure (.type "type") := by kernel_rfl
theorem sub_tuple_tuple : isSubtype (.type "tuple") (.type "tuple") = pure true := by rw [isSubtype_type]; kernel_rfl
theorem sub_type_tuple : isSubtype (.type "type") (.type "tuple") = pure false := by rw [isSubtype_type]; kernel_rfl
theorem sub_type_type : isSubtype (.type "type") (.type "type") = pure true := by rw [isSubtype_type]; kernel_rfl
theorem sub_str_type : isSubtype (.type "str") (.type "type") = pure false := by rw [isSubtype_type]; kernel_rfl
theorem sub_none_type : isSubtype (.type "NoneType") (.type "type") = pure false := by rw [isSubtype_type]; kernel_rfl
theorem sub_ve_type : isSubtype (.type "ValueError") (.type "type") = pure false := by rw [isSubtype_type]; kernel_rfl
theorem sub_ve_tuple : isSubtype (.type "ValueError") (.type "tuple") = pure false := by rw [isSubtype_type]; kernel_rfl
end MF

section
variable {prog : Program} {w : World} {A : Around} {E : Value → Shared → Prop} {h : Heap} {g : Array GenState} {d : Drawn} {t : Nat} {os : OsState} {a : Addr} {o : Obj}

theorem class_get_ve {R : Result → Shared → Prop} (hx : h.get? a = some o) (hc : o.cls = .type "ValueError") (hq : R (.ok (.ret (.type "ValueError"))) ⟨h, g, d, t, os⟩) :
    codeAny (model prog w) A (.call (.builtin "getset_descriptor.__get__") ⟨[.builtin "object.__class__", .ref a, .type "ValueError"], []⟩) R ⟨h, g, d, t, os⟩ := by
  have hT : (⟨h, g, d, t, os⟩ : Shared).TypeIs (.ref a) "ValueError" := ⟨_, hx, hc⟩
  have hT5 : (⟨h, g, d, t, os⟩ : Shared).TypeIs (.builtin "object.__class__") "getset_descriptor" := F.typeOf_object_class
  have f8 := MF.sub_ve_owner
  refine codeAny_call_builtin F.slot_gs_get.plain F.entry_gs_get (F.slot_gs_get.check _ _ _ _ _ _ _ _ hT5 (F.args_gs_get _ _ _) ?_)
  repeat (any_goals (first | assumption | wp_step))
  refine ⟨Code.quiet_builtin _ (by decide +kernel), codeAny_builtin F.entry_object_class ?_⟩
  repeat (any_goals (first | assumption | wp_step))

theorem class_entry_ve {tk : Tok} {Q : Fin → Shared → Prop} (hx : h.get? a = some o) (hc : o.cls = .type "ValueError") (hq : Q (.done (.ret (.type "ValueError"))) ⟨h, g, d, t, os⟩) :
    wpAny (model prog w) A (Builtin.«object.__getattribute__» ⟨[.ref a, .str "__class__" tk], []⟩) Q E ⟨h, g, d, t, os⟩ := by
  have hT : (⟨h, g, d, t, os⟩ : Shared).TypeIs (.ref a) "ValueError" := ⟨_, hx, hc⟩
  have hT5 : (⟨h, g, d, t, os⟩ : Shared).TypeIs (.builtin "object.__class__") "getset_descriptor" := F.typeOf_object_class
  have f4 := MF.lk_ve_class
  have f5 := F.typeOf_object_class
  have f6 := F.slot_gs_get.lookup
  have f7 := F.slot_gs_set.lookup
  repeat (any_goals (first | assumption | wp_step))
  refine class_get_ve hx hc ?_
  repeat (any_goals (first | assumption | wp_step))

theorem class_call_ve {tk : Tok} {R : Result → Shared → Prop} (hx : h.get? a = some o) (hc : o.cls = .type "ValueError") (hq : R (.ok (.ret (.type "ValueError"))) ⟨h, g, d, t, os⟩) :
    codeAny (model prog w) A (.call (.builtin "BaseException.__getattribute__") ⟨[.ref a, .str "__class__" tk], []⟩) R ⟨h, g, d, t, os⟩ :=
  codeAny_call_builtin MF.slot_ve_ga.plain MF.entry_be_ga (MF.slot_ve_ga.check _ _ _ _ _ _ _ _ (show (⟨h, g, d, t, os⟩ : Shared).TypeIs (.ref a) "ValueError" from ⟨_, hx, hc⟩) (MF.args_be_ga _ _) (class_entry_ve hx hc hq))

theorem class_by_ve {tk : Tok} {Q : Value → Shared → Prop} (hx : h.get? a = some o) (hc : o.cls = .type "ValueError") (hq : Q (.type "ValueError") ⟨h, g, d, t, os⟩) : wpAny (model prog w) A (getAttrBy (.ref a) (.str "__class__" tk) false) Q E ⟨h, g, d, t, os⟩ := by
  have hT : (⟨h, g, d, t, os⟩ : Shared).TypeIs (.ref a) "ValueError" := ⟨_, hx, hc⟩
  have f2 := MF.slot_ve_ga.lookup
  have f3 := MF.slot_ve_ga.bind (.ref a)
  repeat (any_goals (first | assumption | wp_step))
  refine class_call_ve hx hc ?_
  repeat (any_goals (first | assumption | wp_step))

theorem class_attr_ve {Q : Option Value → Shared → Prop} (hx : h.get? a = some o) (hc : o.cls = .type "ValueError") (hq : Q (some (.type "ValueError")) ⟨h, g, d, t + 1, os⟩) : wpAny (model prog w) A (getAttr? (.ref a) "__class__") Q E ⟨h, g, d, t, os⟩ := by
  unfold getAttr? getAttrBy?
  repeat (any_goals (first | assumption | with_reducible apply class_by_ve hx hc | wp_step))

theorem isi_nested_ve {T : String} {dep : Int} {tk : Tok} {Q : Fin → Shared → Prop} (hx : h.get? a = some o) (hc : o.cls = .type "ValueError") (hne : (Value.type "ValueError" == Value.type T) = false) (hty : typeOf (.type T) = pure (.type "type"))
    (hsub : isSubtype (.type "ValueError") (.type T) = pure false) (hq : Q (.done (.ret (.bool false))) ⟨h, g, d, t + 1, os⟩) :
    wpAny (model prog w) A (Builtin.«isinstance.nested» ⟨[.ref a, .type T, .int dep tk], []⟩) Q E ⟨h, g, d, t, os⟩ := by
  have hT : (⟨h, g, d, t, os⟩ : Shared).TypeIs (.ref a) "ValueError" := ⟨_, hx, hc⟩
  repeat (any_goals (first | assumption | with_reducible apply class_attr_ve hx hc | wp_step))
end

theorem isi_false_ve {a : Addr} {T : String} (hne : (Value.type "ValueError" == Value.type T) = false) (hty : typeOf (.type T) = pure (.type "type")) (hsub : isSubtype (.type "ValueError") (.type T) = pure false) :
    Meets (Builtin.«isinstance» ⟨[.ref a, .type T], []⟩) (fun _ R s => (∃ o, s.heap.get? a = some o ∧ o.cls = .type "ValueError") ∧ R (.ok (.ret (.bool false))) { s with toks := s.toks + 1 }) :=
  fun _ _ _ _ s hs => by
    obtain ⟨h, g, d, t, os⟩ := s
    obtain ⟨⟨o, hx, hc⟩, hs⟩ := hs
    exact isinstance_outer (isi_nested_ve hx hc hne hty hsub hs)

/-- the law's kinds -/
def kindNames : List String := ["ValueError", "KeyError", "LookupError", "Exception", "BaseException", "KeyboardInterrupt", "int"]

theorem kind_meta {C : String} (h : C ∈ kindNames) : typeOf (.type C) = pure (.type "type") := by
  simp only [kindNames, List.mem_cons, List.not_mem_nil, or_false] at h
  rcases h with rfl | rfl | rfl | rfl | rfl | rfl | rfl <;> kernel_rfl
theorem kind_opaque {C : String} (h : C ∈ kindNames) : opaqueClassAbove (.type C) = pure none := by
  simp only [kindNames, List.mem_cons, List.not_mem_nil, or_false] at h
  rcases h with rfl | rfl | rfl | rfl | rfl | rfl | rfl <;> kernel_rfl

section
variable {prog : Program} {w : World} {A : Around} {E : Value → Shared → Prop} {h : Heap} {g : Array GenState} {d : Drawn} {t : Nat} {os : OsState} {C : String}

theorem class_get_cl {R : Result → Shared → Prop} (hm : typeOf (.type C) = pure (.type "type")) (hq : R (.ok (.ret (.type "type"))) ⟨h, g, d, t, os⟩) :
    codeAny (model prog w) A (.call (.builtin "getset_descriptor.__get__") ⟨[.builtin "object.__class__", .type C, .type "type"], []⟩) R ⟨h, g, d, t, os⟩ := by
  have hT : (⟨h, g, d, t, os⟩ : Shared).TypeIs (.type C) "type" := hm
  have hT5 : (⟨h, g, d, t, os⟩ : Shared).TypeIs (.builtin "object.__class__") "getset_descriptor" := F.typeOf_object_class
  have f8 := MF.sub_type_owner
  refine codeAny_call_builtin F.slot_gs_get.plain F.entry_gs_get (F.slot_gs_get.check _ _ _ _ _ _ _ _ hT5 (F.args_gs_get _ _ _) ?_)
  repeat (any_goals (first | assumption | wp_step))
  refine ⟨Code.quiet_builtin _ (by decide +kernel), codeAny_builtin F.entry_object_class ?_⟩
  repeat (any_goals (first | assumption | wp_step))

theorem class_entry_cl {tk : Tok} {Q : Fin → Shared → Prop} (hm : typeOf (.type C) = pure (.type "type")) (ho : opaqueClassAbove (.type C) = pure none) (hq : Q (.done (.ret (.type "type"))) ⟨h, g, d, t, os⟩) :
    wpAny (model prog w) A (Builtin.«type.__getattribute__» ⟨[.type C, .str "__class__" tk], []⟩) Q E ⟨h, g, d, t, os⟩ := by
  have hT : (⟨h, g, d, t, os⟩ : Shared).TypeIs (.type C) "type" := hm
  have hT5 : (⟨h, g, d, t, os⟩ : Shared).TypeIs (.builtin "object.__class__") "getset_descriptor" := F.typeOf_object_class
  have f4 := MF.lk_type_class
  have f5 := F.typeOf_object_class
  have f6 := F.slot_gs_get.lookup
  have f7 := F.slot_gs_set.lookup
  repeat (any_goals (first | assumption | (rw [ho]) | wp_step))
  refine class_get_cl hm ?_
  repeat (any_goals (first | assumption | wp_step))

theorem class_call_cl {tk : Tok} {R : Result → Shared → Prop} (hm : typeOf (.type C) = pure (.type "type")) (ho : opaqueClassAbove (.type C) = pure none) (hq : R (.ok (.ret (.type "type"))) ⟨h, g, d, t, os⟩) :
    codeAny (model prog w) A (.call (.builtin "type.__getattribute__") ⟨[.type C, .str "__class__" tk], []⟩) R ⟨h, g, d, t, os⟩ :=
  codeAny_call_builtin KF.slot_tga.plain KF.entry_tga (KF.slot_tga.check _ _ _ _ _ _ _ _ (show (⟨h, g, d, t, os⟩ : Shared).TypeIs (.type C) "type" from hm) (KF.args_tga _ _) (class_entry_cl hm ho hq))

theorem class_by_cl {tk : Tok} {Q : Value → Shared → Prop} (hm : typeOf (.type C) = pure (.type "type")) (ho : opaqueClassAbove (.type C) = pure none) (hq : Q (.type "type") ⟨h, g, d, t, os⟩) : wpAny (model prog w) A (getAttrBy (.type C) (.str "__class__" tk) false) Q E ⟨h, g, d, t, os⟩ := by
  have hT : (⟨h, g, d, t, os⟩ : Shared).TypeIs (.type C) "type" := hm
  have f2 := KF.slot_tga.lookup
  have f3 := KF.slot_tga.bind (.type C)
  repeat (any_goals (first | assumption | wp_step))
  refine class_call_cl hm ho ?_
  repeat (any_goals (first | assumption | wp_step))

theorem class_attr_cl {Q : Option Value → Shared → Prop} (hm : typeOf (.type C) = pure (.type "type")) (ho : opaqueClassAbove (.type C) = pure none) (hq : Q (some (.type "type")) ⟨h, g, d, t + 1, os⟩) : wpAny (model prog w) A (getAttr? (.type C) "__class__") Q E ⟨h, g, d, t, os⟩ := by
  unfold getAttr? getAttrBy?
  repeat (any_goals (first | assumption | with_reducible apply class_by_cl hm ho | wp_step))

theorem isi_nested_cl {T : String} {dep : Int} {tk : Tok} {Q : Fin → Shared → Prop} (hm : typeOf (.type C) = pure (.type "type")) (ho : opaqueClassAbove (.type C) = pure none) (hne : (Value.type "type" == Value.type T) = false) (hty : typeOf (.type T) = pure (.type "type"))
    (hsub : isSubtype (.type "type") (.type T) = pure false) (hq : Q (.done (.ret (.bool false))) ⟨h, g, d, t + 1, os⟩) :
    wpAny (model prog w) A (Builtin.«isinstance.nested» ⟨[.type C, .type T, .int dep tk], []⟩) Q E ⟨h, g, d, t, os⟩ := by
  have hT : (⟨h, g, d, t, os⟩ : Shared).TypeIs (.type C) "type" := hm
  repeat (any_goals (first | assumption | with_reducible apply class_attr_cl hm ho | wp_step))
end

theorem isi_false_cl {C T : String} (hm : typeOf (.type C) = pure (.type "type")) (ho : opaqueClassAbove (.type C) = pure none) (hne : (Value.type "type" == Value.type T) = false) (hty : typeOf (.type T) = pure (.type "type")) (hsub : isSubtype (.type "type") (.type T) = pure false) :
    Meets (Builtin.«isinstance» ⟨[.type C, .type T], []⟩) (fun _ R s => R (.ok (.ret (.bool false))) { s with toks := s.toks + 1 }) :=
  fun _ _ _ _ s hs => by
    obtain ⟨h, g, d, t, os⟩ := s
    exact isinstance_outer (isi_nested_cl hm ho hne hty hsub hs)

section
variable {prog : Program} {w : World} {A : Around} {E : Value → Shared → Prop} {s : Shared} {Q : Value → Shared → Prop} {C : String}
theorem isi_tuple_tuple {a : Addr} (ht : s.TypeIs (.ref a) "tuple") (h : Q (.bool true) s) : wpAny (model prog w) A (call (.builtin "isinstance") [.ref a, .type "tuple"]) Q E s :=
  call_isinstance (isinstance_true (Tx := "tuple") F.isi_meta_tuple MF.sub_tuple_tuple) ⟨ht, h⟩
theorem isi_cl_tuple (hC : C ∈ kindNames) (h : Q (.bool false) { s with toks := s.toks + 1 }) : wpAny (model prog w) A (call (.builtin "isinstance") [.type C, .type "tuple"]) Q E s :=
  call_isinstance (isi_false_cl (kind_meta hC) (kind_opaque hC) (by decide +kernel) F.isi_meta_tuple MF.sub_type_tuple) h
theorem isi_cl_type (hC : C ∈ kindNames) (h : Q (.bool true) s) : wpAny (model prog w) A (call (.builtin "isinstance") [.type C, .type "type"]) Q E s :=
  call_isinstance (isinstance_true (Tx := "type") MF.meta_type MF.sub_type_type) ⟨kind_meta hC, h⟩
theorem isi_str_type {x : Str} {u : Tok} (h : Q (.bool false) { s with toks := s.toks + 1 }) : wpAny (model prog w) A (call (.builtin "isinstance") [.str x u, .type "type"]) Q E s :=
  call_isinstance (isinstance_false_str (by decide +kernel) MF.meta_type MF.sub_str_type) h
theorem isi_none_type (h : Q (.bool false) { s with toks := s.toks + 1 }) : wpAny (model prog w) A (call (.builtin "isinstance") [.none, .type "type"]) Q E s :=
  call_isinstance (isinstance_false_none (by decide +kernel) MF.meta_type MF.sub_none_type) h
theorem isi_ve_tuple {a : Addr} {o : Obj} (hx : s.heap.get? a = some o) (hc : o.cls = .type "ValueError") (h : Q (.bool false) { s with toks := s.toks + 1 }) : wpAny (model prog w) A (call (.builtin "isinstance") [.ref a, .type "tuple"]) Q E s :=
  call_isinstance (isi_false_ve (by decide +kernel) F.isi_meta_tuple MF.sub_ve_tuple) ⟨⟨o, hx, hc⟩, h⟩
theorem isi_ve_type {a : Addr} {o : Obj} (hx : s.heap.get? a = some o) (hc : o.cls = .type "ValueError") (h : Q (.bool false) { s with toks := s.toks + 1 }) : wpAny (model prog w) A (call (.builtin "isinstance") [.ref a, .type "type"]) Q E s :=
  call_isinstance (isi_false_ve (by decide +kernel) MF.meta_type MF.sub_ve_type) ⟨⟨o, hx, hc⟩, h⟩

theorem issub_nested {k : Value} {dep : Int} {tk : Tok} {B : String} {b : Bool} {Q : Fin → Shared → Prop} (hk : k = .int dep tk) (hm : typeOf (.type B) = pure (.type "type")) (hC : isType (.type C) = pure true) (hB : isType (.type B) = pure true)
    (hsub : isSubtype (.type C) (.type B) = pure b) (hq : Q (.done (.ret (.bool b))) s) :
    wpAny (model prog w) A (Builtin.«issubclass.nested» ⟨[.type C, .type B, k], []⟩) Q E s := by
  subst hk
  repeat (any_goals (first | assumption | (rw [if_pos hm]) | (rw [hC]) | (rw [hB]) | (rw [hsub]) | wp_step))
theorem issub_call {B : String} {b : Bool} (hm : typeOf (.type B) = pure (.type "type")) (hC : isType (.type C) = pure true) (hB : isType (.type B) = pure true)
    (hsub : isSubtype (.type C) (.type B) = pure b) (h : Q (.bool b) s) : wpAny (model prog w) A (call (.builtin "issubclass") [.type C, .type B]) Q E s :=
  call_issubclass (S := fun _ R s => R (.ok (.ret (.bool b))) s) (fun _ _ _ _ _ hs => issubclass_outer (issub_nested rfl hm hC hB hsub hs)) h
end

/-- the generators that stood are as they were; the new ones have nothing to clean up -/
structure GExt (a b : Array GenState) : Prop where
  size : a.size ≤ b.size
  old : ∀ k, k < a.size → b[k]? = a[k]?
  bare : ∀ k x, a.size ≤ k → b[k]? = some x → x.bare = true
theorem GExt.refl (a : Array GenState) : GExt a a := ⟨Nat.le_refl _, fun _ _ => rfl, fun k x h e => by
  rw [Array.getElem?_eq_none h] at e; cases e⟩
theorem GExt.trans {a b c : Array GenState} (x : GExt a b) (y : GExt b c) : GExt a c :=
  ⟨Nat.le_trans x.size y.size, fun k h => (y.old k (Nat.lt_of_lt_of_le h x.size)).trans (x.old k h), fun k v h e => by
    by_cases hk : k < b.size
    · rw [y.old k hk] at e; exact x.bare k v h e
    · exact y.bare k v (Nat.le_of_not_lt hk) e⟩

/-- more objects, more generators, all that stood as it was -/
def KeptA (s s' : Shared) : Prop := ∃ h' tk gs, s' = { s with heap := h', toks := tk, gens := gs } ∧ (∀ b o, s.heap.get? b = some o → h'.get? b = some o) ∧ GExt s.gens gs

def SinceG (C I : Addr) (s₀ s : Shared) : Prop :=
  ∃ h' tk gs, s = { s₀ with heap := h', toks := tk, gens := gs } ∧ (∀ b o, b ≠ C → b ≠ I → s₀.heap.get? b = some o → h'.get? b = some o) ∧ GExt s₀.gens gs
theorem SinceG.refl (C I : Addr) (s : Shared) : SinceG C I s s := ⟨s.heap, s.toks, s.gens, rfl, fun _ _ _ _ e => e, .refl _⟩
theorem SinceG.step {C I : Addr} {s₀ s : Shared} (x : SinceG C I s₀ s) {h' : Heap} {tk : Nat} {gs : Array GenState} (hk : ∀ b o, b ≠ C → b ≠ I → s.heap.get? b = some o → h'.get? b = some o) (hg : GExt s.gens gs) :
    SinceG C I s₀ { s with heap := h', toks := tk, gens := gs } := by
  obtain ⟨h₁, tk₁, gs₁, rfl, hk₁, hg₁⟩ := x
  exact ⟨h', tk, gs, rfl, fun b o hC hI e => hk b o hC hI (hk₁ b o hC hI e), hg₁.trans hg⟩

def gProto (C I : Addr) (N n₀ : Nat) (F : Nat → Value → Prop) : Protocol := fun m s₀ v s kap =>
  F (n₀ - 1 - m) v ∧ SinceG C I s₀ s ∧ ∀ s'' : Shared, (∀ b, b < N → ∀ o, s.heap.get? b = some o → s''.heap.get? b = some o) → kap (.send .none) s''

abbrev gEnd (C I : Addr) : GenEnd := fun n s₀ r s₁ => r = .ok .next ∧ (n = 0 ∧ SinceG C I s₀ s₁)

section
variable {prog : Program} {w : World} {A : Around}

theorem seg_loop {elt iter : Expr} {x : Str} {px : Pos} {scope : Scope} {pos : Pos} {I t N D Nb : Nat} {items : Array Value} {cenv : Env} {hb : Heap} {F : Nat → Value → Prop}
    (hh : A.handled = none) (hD : A.depth + 1 ≤ D)
    (hx : cenv.kindOf x = some .local) (hp : (cenv.scope.kind == .class || (cenv.scope.kind == .module && cenv.locals != cenv.globals)) = false)
    (hco : cenv.scope.isCoroutine = false) (htI : t ≠ I) (htC : t ≠ cenv.locals) (hIC : I ≠ cenv.locals) (hbI : Nb ≤ I) (hbC : Nb ≤ cenv.locals) (hIN : I < N) (hCN : cenv.locals < N) (htN : t < N) (hbN : Nb ≤ N)
    (hElt : ∀ (A' : Around) E' i v (s₂ : Shared) m₂, A'.handled = none → A'.depth ≤ D → items[i]? = some v → s₂.heap.Ns cenv.locals m₂ → m₂ x = some v → (∀ b o, b < Nb → hb.get? b = some o → s₂.heap.get? b = some o) →
      wpAny (model prog w) A' (eval elt cenv) (fun y s₃ => F i y ∧ KeptA s₂ s₃) E' s₂) :
    ∀ (k i : Nat) (s₀ s : Shared) (m : Str → Option Value), items.size - i = k → i ≤ items.size → s.heap.IsTupleIter I t i → s.heap.IsTuple t items → s.heap.Ns cenv.locals m → SinceG cenv.locals I s₀ s →
      (∀ b o, b < Nb → hb.get? b = some o → s.heap.get? b = some o) →
      Seg (model prog w) A (gEnd cenv.locals I) (gProto cenv.locals I N items.size F) (items.size - i) s₀
        (.compLoop (.GeneratorExp elt [⟨.Name x px, iter, [], 0⟩] scope pos) 0 (.ref I) .none cenv)
        ((model prog w).den (.compLoop (.GeneratorExp elt [⟨.Name x px, iter, [], 0⟩] scope pos) 0 (.ref I) .none cenv)) [] s := by
  have hh' : (A.over (.compLoop (.GeneratorExp elt [⟨.Name x px, iter, [], 0⟩] scope pos) 0 (.ref I) .none cenv) []).handled = none := hh
  have hdep' : (A.over (.compLoop (.GeneratorExp elt [⟨.Name x px, iter, [], 0⟩] scope pos) 0 (.ref I) .none cenv) []).depth ≤ D := hD
  intro k
  induction k with
  | zero =>
    intro i s₀ s m hk hi hit htu hn hsince hkp
    have hin : i = items.size := by omega
    subst hin
    show Seg _ A _ _ _ s₀ _ ((compTurn (.GeneratorExp elt [⟨.Name x px, iter, [], 0⟩] scope pos) 0 (.ref I) .none cenv).onRaise (leaving cenv)) [] s
    rw [compTurn_gen, Sem.onRaise_eq_wrap]
    refine seg_bind_wrap (wpAny_standAt ?_)
    refine seg_bind_wrap ((Walks.tuple (prog := prog) (w := w) hh' I t htI items).done s _ _ ⟨hit, htu⟩ fun h' tk hk' => ?_)
    exact seg_end (.ok .next) ⟨rfl, by omega, hsince.step (fun b o _ hw e => hk' b o (by simpa using hw) e) (.refl _)⟩
  | succ k ih =>
    intro i s₀ s m hk hi hit htu hn hsince hkp
    have hlt : i < items.size := by omega
    show Seg _ A _ _ _ s₀ _ ((compTurn (.GeneratorExp elt [⟨.Name x px, iter, [], 0⟩] scope pos) 0 (.ref I) .none cenv).onRaise (leaving cenv)) [] s
    rw [compTurn_gen, Sem.onRaise_eq_wrap]
    refine seg_bind_wrap (wpAny_standAt ?_)
    refine seg_bind_wrap ((Walks.tuple (prog := prog) (w := w) hh' I t htI items).item i s _ _ hlt ⟨hit, htu⟩ fun v h₁ tk₁ hPv hst₁ hk₁ => ?_)
    replace hk₁ : ∀ b o, b ≠ I → s.heap.get? b = some o → h₁.get? b = some o := fun b o hb e => hk₁ b o (by simpa using hb) e
    refine seg_bind_wrap (wpAny_of_eq (rfl : letOwnedTupleGo (.Name x px) (.ref I) v = pure ()) ?_)
    refine seg_bind_wrap (wpAny_assign_Name (wpAny_storeName_local hx (hn.at' fun o e => hk₁ _ o hIC.symm e) (fun h₂ hn₂ hs₂ => ?_) hp))
    have up₂ : ∀ b o, b ≠ cenv.locals → b ≠ I → s.heap.get? b = some o → h₂.get? b = some o := fun b o hbC hbI e => hs₂.extBut b o hbC (hk₁ b o hbI e)
    have hit₂ : h₂.IsTupleIter I t (i + 1) := hst₁.1.at fun o e => hs₂.extBut I o hIC e
    have htu₂ : h₂.IsTuple t items := hst₁.2.at fun o e => hs₂.extBut t o htC e
    have hkp₂ : ∀ b o, b < Nb → hb.get? b = some o → h₂.get? b = some o := fun b o hN e => up₂ b o (Nat.ne_of_lt (Nat.lt_of_lt_of_le hN hbC)) (Nat.ne_of_lt (Nat.lt_of_lt_of_le hN hbI)) (hkp b o hN e)
    refine seg_bind_wrap (wpAny_of_eq (a := true) rfl ?_)
    have hsince₃ : ∀ tk, SinceG cenv.locals I s₀ { s with heap := h₂, toks := tk } := fun tk => hsince.step (gs := s.gens) (fun b o hbC hbw e => up₂ b o hbC hbw e) (.refl _)
    rw [show items.size - i = (items.size - (i + 1)) + 1 from by omega]
    simp only [if_true]
    have hy : ∀ v, yieldOut cenv v = yieldValue v := fun v => by simp only [yieldOut, hco, Bool.false_eq_true, if_false]
    simp only [hy]
    rw [Sem.bind_eq_wrap', Sem.bind_eq_wrap', Sem.wrap_wrap, Sem.wrap_wrap]
    refine seg_wrap (wpAny_mono (hElt _ _ i v _ _ hh' hdep' hPv hn₂ (by simp) hkp₂) (fun y s₄ h₄ => ?_) fun _ _ e => e)
    obtain ⟨hFy, h₄, tk₄, gs₄, rfl, hk₄, hg₄⟩ := h₄
    refine seg_at (seg_yield rfl rfl rfl ⟨?_, (hsince₃ _).step (fun b o _ _ e => hk₄ b o e) hg₄, fun s'' hal => ?_⟩)
    · rw [show items.size - 1 - (items.size - (i + 1)) = i from by omega]; exact hFy
    · refine seg_again rfl (ih (i + 1) s'' s'' _ (by omega) hlt ((hit₂.at fun o e => hk₄ I o e).at fun o e => hal I hIN o e) ((htu₂.at fun o e => hk₄ t o e).at fun o e => hal t htN o e)
        ((hn₂.keeps hk₄).at' fun o e => hal _ hCN o e) (.refl _ _ _) fun b o hN e => hal b (Nat.lt_of_lt_of_le hN hbN) o (hk₄ b o (hkp₂ b o hN e)))

theorem seg_start {elt iter : Expr} {x : Str} {px : Pos} {scope : Scope} {pos : Pos} {I t N D Nb : Nat} {items : Array Value} {cenv : Env} {hb : Heap} {F : Nat → Value → Prop}
    (hh : A.handled = none) (hD : A.depth + 1 ≤ D)
    (hx : cenv.kindOf x = some .local) (hp : (cenv.scope.kind == .class || (cenv.scope.kind == .module && cenv.locals != cenv.globals)) = false)
    (hco : cenv.scope.isCoroutine = false) (htI : t ≠ I) (htC : t ≠ cenv.locals) (hIC : I ≠ cenv.locals) (hbI : Nb ≤ I) (hbC : Nb ≤ cenv.locals) (hIN : I < N) (hCN : cenv.locals < N) (htN : t < N) (hbN : Nb ≤ N)
    (hElt : ∀ (A' : Around) E' i v (s₂ : Shared) m₂, A'.handled = none → A'.depth ≤ D → items[i]? = some v → s₂.heap.Ns cenv.locals m₂ → m₂ x = some v → (∀ b o, b < Nb → hb.get? b = some o → s₂.heap.get? b = some o) →
      wpAny (model prog w) A' (eval elt cenv) (fun y s₃ => F i y ∧ KeptA s₂ s₃) E' s₂)
    (s₀ s : Shared) (m : Str → Option Value) (hit : s.heap.IsTupleIter I t 0) (htu : s.heap.IsTuple t items) (hn : s.heap.Ns cenv.locals m) (hsince : SinceG cenv.locals I s₀ s)
    (hkp : ∀ b o, b < Nb → hb.get? b = some o → s.heap.get? b = some o) :
    Seg (model prog w) A (gEnd cenv.locals I) (gProto cenv.locals I N items.size F) items.size s₀
      (.compStart (.GeneratorExp elt [⟨.Name x px, iter, [], 0⟩] scope pos) 0 (.ref I) .none cenv)
      ((model prog w).den (.compStart (.GeneratorExp elt [⟨.Name x px, iter, [], 0⟩] scope pos) 0 (.ref I) .none cenv)) [] s := by
  have hh' : (A.over (.compStart (.GeneratorExp elt [⟨.Name x px, iter, [], 0⟩] scope pos) 0 (.ref I) .none cenv) []).handled = none := hh
  have loop := seg_loop (iter := iter) (px := px) (scope := scope) (pos := pos) hh hD hx hp hco htI htC hIC hbI hbC hIN hCN htN hbN hElt items.size 0 s₀ s m (Nat.sub_zero _) (Nat.zero_le _) hit htu hn hsince hkp
  rw [Nat.sub_zero] at loop
  show Seg _ A _ _ _ s₀ _ ((compStart (.GeneratorExp elt [⟨.Name x px, iter, [], 0⟩] scope pos) 0 (.ref I) .none cenv).onRaise (leaving cenv)) [] s
  unfold compStart
  rw [Sem.onRaise_eq_wrap]
  show Seg _ A _ _ _ s₀ _ ((ask >>= _).wrap _ _ _ _) [] s
  refine seg_bind_wrap (wpAny_askSetting ?_)
  split
  · exact seg_again rfl loop
  · first
      | exact seg_bind_wrap (wpAny_rule (seg_bind_wrap (wpAny_standAt (seg_bind_wrap ((Walks.tuple (prog := prog) (w := w) hh' I t htI items).self 0 s _ _ ⟨hit, htu⟩ (seg_again rfl loop))))))
      | (refine seg_bind_wrap (wpAny_rule ?_); show Seg _ A _ _ _ s₀ _ ((standAt iter.pos >>= _).wrap _ _ _ _) [] s; exact seg_bind_wrap (wpAny_standAt (seg_bind_wrap ((Walks.tuple (prog := prog) (w := w) hh' I t htI items).self 0 s _ _ ⟨hit, htu⟩ (seg_again rfl loop)))))
end

structure GG (g : Nat) (a b : Array GenState) : Prop where
  size : a.size ≤ b.size
  old : ∀ k, k < a.size → k ≠ g → b[k]? = a[k]?
  bare : ∀ k x, a.size ≤ k → b[k]? = some x → x.bare = true
  self : b = a ∨ ∀ x, b[g]? = some x → x.bare = true
theorem GG.refl (g : Nat) (a : Array GenState) : GG g a a := ⟨Nat.le_refl _, fun _ _ _ => rfl, (GExt.refl a).bare, .inl rfl⟩
theorem GG.trans {g : Nat} {a b c : Array GenState} (x : GG g a b) (y : GG g b c) : GG g a c :=
  ⟨Nat.le_trans x.size y.size, fun k h n => (y.old k (Nat.lt_of_lt_of_le h x.size) n).trans (x.old k h n), fun k v h e => by
    by_cases hk : k < b.size
    · by_cases hg : k = g
      · subst hg
        rcases y.self with rfl | hs
        · exact x.bare k v h e
        · exact hs v e
      · rw [y.old k hk hg] at e; exact x.bare k v h e
    · exact y.bare k v (Nat.le_of_not_lt hk) e, by
    rcases y.self with rfl | hs
    · exact x.self
    · exact .inr hs⟩

theorem GG.of {g : Nat} {s s₁ : Shared} {gs gs' : GenState} (hg : s.gens[g]? = some gs) (x : GExt (s.setGen g .running).gens s₁.gens) (hb : gs'.bare = true) : GG g s.gens (s₁.setGen g gs').gens ∧ (s₁.setGen g gs').gens[g]? = some gs' := by
  have o1 := GenOnly.setGen s g .running
  have o2 := GenOnly.setGen s₁ g gs'
  have hlt : g < s.gens.size := by
    rcases Nat.lt_or_ge g s.gens.size with h | h
    · exact h
    · rw [Array.getElem?_eq_none h] at hg; cases hg
  have hrun : (s.setGen g .running).gens[g]? = some .running := setGen_self hg
  have h1 : s₁.gens[g]? = some .running := (x.old g (by rw [o1.1]; exact hlt)).trans hrun
  have h2 : (s₁.setGen g gs').gens[g]? = some gs' := setGen_self h1
  refine ⟨⟨by rw [o2.1, ← o1.1]; exact x.size, fun k hk n => ?_, fun k v hk e => ?_, .inr fun v e => by rw [h2] at e; cases e; exact hb⟩, h2⟩
  · rw [o2.2 k n, x.old k (by rw [o1.1]; exact hk), o1.2 k n]
  · have hkg : k ≠ g := fun e => by subst e; omega
    rw [o2.2 k hkg] at e
    exact x.bare k v (by rw [o1.1]; exact hk) e

def GAt (prog : Program) (w : World) (A : Around) (a : Addr) (g : Nat) (C I : Addr) (N n : Nat) (F : Nat → Value → Prop) (j : Nat) (s : Shared) : Prop :=
  s.heap.IsGen a g ∧ s.heap.NoLimit ∧ ∃ gs, s.gens[g]? = some gs ∧ ∀ s'' : Shared, (∀ b, b < N → ∀ o, s.heap.get? b = some o → s''.heap.get? b = some o) →
    gs.Goes (model prog w) A.in1 (gEnd C I) (gProto C I N n F) (n - j) (.send .none) s''

section
variable {prog : Program} {w : World} {A : Around}
theorem gen_walks (hh : A.handled = none) (a : Addr) (g : Nat) (C I : Addr) (N n : Nat) (F : Nat → Value → Prop) (haN : a < N) (haC : a ≠ C) (haI : a ≠ I) (hCN : C < N) (hIN : I < N)
    (hroom : A.depth < recursionLimit) (hcs : cStatics < N) (hcC : cStatics ≠ C) (hcI : cStatics ≠ I) :
    WalksS prog w A a (List.range N) [C, I] (GG g) n F (GAt prog w A a g C I N n F) where
  sub := fun b hb => by
    rcases List.mem_cons.mp hb with rfl | hb
    · exact List.mem_range.mpr hCN
    · rw [List.mem_singleton.mp hb]; exact List.mem_range.mpr hIN
  grefl := GG.refl g
  gtrans := fun _ _ _ x y => x.trans y
  frame := fun j s h' tk st _ hk =>
    ⟨let ⟨o, nm, qn, ho, r⟩ := st.1; ⟨o, nm, qn, hk a (List.mem_range.mpr haN) o ho, r⟩,
     (let ⟨mc, hns, hnn⟩ := st.2.1; ⟨mc, hns.at' fun o e => hk cStatics (List.mem_range.mpr hcs) o e, hnn⟩),
     let ⟨gs, hgs, hgo⟩ := st.2.2; ⟨gs, hgs, fun s'' hal => hgo s'' fun b hb o e => hal b hb o (hk b (List.mem_range.mpr hb) o e)⟩⟩
  item := fun j s Q E hj st hQ => by
    obtain ⟨hg, hl, gs, hgs, hgo⟩ := st
    obtain ⟨m, hm⟩ : ∃ m, n - j = m + 1 := ⟨n - j - 1, by omega⟩
    rw [hm] at hgo
    refine wpAny_with_toks (Nat.le_refl s.toks) ?_
    refine wpAny_pyNext_genexpQ (P := fun n s₀ s₁ => n = 0 ∧ SinceG C I s₀ s₁) hh hl hroom hg hgs (hgo _ fun _ _ _ e => e) (fun v s₁ gs' hb hv => ?_) (fun s₁ hp h' hk => ?_)
    · obtain ⟨hF, ⟨h₁, tk₁, gs₁, rfl, hk₁, hg₁⟩, hkap⟩ := hv
      have hidx : n - 1 - (m + 1 - 1) = j := by omega
      rw [hidx] at hF
      obtain ⟨hGG, hself⟩ := GG.of (s₁ := { s.setGen g .running with heap := h₁, toks := tk₁, gens := gs₁ }) hgs hg₁ hb
      intro htk
      refine hQ v _ hF ⟨let ⟨o, nm, qn, ho, r⟩ := hg; ⟨o, nm, qn, hk₁ a o haC haI ho, r⟩, (let ⟨mc, hns, hnn⟩ := hl; ⟨mc, hns.at' fun o e => hk₁ cStatics o hcC hcI e, hnn⟩), gs', hself, fun s'' hal => ?_⟩
        ⟨fun b o hb e => hk₁ b o (fun h => hb (h ▸ List.mem_cons_self ..)) (fun h => hb (List.mem_cons_of_mem _ (List.mem_singleton.mpr h))) e, hGG, rfl, rfl, htk⟩
      have e : n - (j + 1) = m := by omega
      rw [e]
      exact hkap s'' hal
    · exact absurd hp.1 (Nat.succ_ne_zero m)
  done := fun s Q E st hQ => by
    obtain ⟨hg, hl, gs, hgs, hgo⟩ := st
    rw [Nat.sub_self] at hgo
    refine wpAny_with_toks (Nat.le_refl s.toks) ?_
    refine wpAny_pyNext_genexpQ (P := fun n s₀ s₁ => n = 0 ∧ SinceG C I s₀ s₁) hh hl hroom hg hgs (hgo _ fun _ _ _ e => e) (fun v s₁ gs' hb hv => ?_) (fun s₁ hp h' hk => ?_)
    · obtain ⟨_, _, hkap⟩ := hv
      exact False.elim (hkap s₁ fun _ _ _ e => e)
    · obtain ⟨_, h₁, tk₁, gs₁, rfl, hk₁, hg₁⟩ := hp
      obtain ⟨hGG, _⟩ := GG.of (s₁ := { s.setGen g .running with heap := h₁, toks := tk₁, gens := gs₁ }) (gs' := .finished) hgs hg₁ rfl
      intro htk
      exact hQ _ ⟨fun b o hb e => hk b o (hk₁ b o (fun h => hb (h ▸ List.mem_cons_self ..)) (fun h => hb (List.mem_cons_of_mem _ (List.mem_singleton.mpr h))) e), hGG, rfl, rfl, htk⟩
  self := fun _ _ _ _ st hQ => wpAny_pyIter_gen st.1 hQ
end

abbrev gpos : Pos := ⟨4, 19, 4, 63⟩
/-- the table of `_is_subtype`'s nested codes -/
def TabOk (h : Heap) : Prop := ∃ ps, h.get? 16 = some (tabObj ps) ∧ TriplesOk ps.toList
def Ready (h : Heap) : Prop := ∃ ps c, h.get? 16 = some (tabObj ps) ∧ TriplesOk ps.toList ∧ codeAmong gpos ps.toList = some c
def TabGrow (h h' : Heap) : Prop := ∀ ps, h.get? 16 = some (tabObj ps) → ∃ more, h'.get? 16 = some (tabObj (ps ++ more))
theorem Ready.ok {h : Heap} (x : Ready h) : TabOk h := let ⟨ps, _, a, b, _⟩ := x; ⟨ps, a, b⟩
theorem TabGrow.of {h h' : Heap} (k : ∀ o, h.get? 16 = some o → h'.get? 16 = some o) : TabGrow h h' := fun ps e => ⟨#[], by rw [k _ e, Array.append_empty]⟩
theorem TabGrow.trans {h h' h'' : Heap} (x : TabGrow h h') (y : TabGrow h' h'') : TabGrow h h'' := fun ps e => by
  obtain ⟨m, e1⟩ := x ps e
  obtain ⟨m', e2⟩ := y _ e1
  exact ⟨m ++ m', by rw [e2, Array.append_assoc]⟩
theorem Ready.at {h h' : Heap} (x : Ready h) (k : ∀ o, h.get? 16 = some o → h'.get? 16 = some o) : Ready h' := let ⟨ps, c, a, b⟩ := x; ⟨ps, c, k _ a, b⟩
theorem TabOk.at {h h' : Heap} (x : TabOk h) (k : ∀ o, h.get? 16 = some o → h'.get? 16 = some o) : TabOk h' := let ⟨ps, a, b⟩ := x; ⟨ps, k _ a, b⟩

/-- what a call of `_is_subtype` leaves -/
structure Kept (s s' : Shared) : Prop where
  same : ∃ h' tk gs, s' = { s with heap := h', toks := tk, gens := gs }
  heap : ∀ b o, (b ≠ 16 ∨ Ready s.heap) → s.heap.get? b = some o → s'.heap.get? b = some o
  tab : TabOk s'.heap
  grow : TabGrow s.heap s'.heap
  gens : GExt s.gens s'.gens

theorem codeHd {w : World} {mg mb : Str → Option Value} {h : Heap} (G : Gd w mg mb h) : CodeHd h 20 16 :=
  ⟨_, _, _, _, _, _, _, _, _, G.X 20 _ rfl, rfl, rfl, rfl, rfl, rfl, rfl, rfl, rfl, by decide⟩

theorem gcode {w : World} {mg mb : Str → Option Value} {M : Model} {A : Around} {E : Value → Shared → Prop} {s : Shared} {env : Env} {q : Str} {scope : Scope} {Q : Value → Shared → Prop} (hc : env.code = .ref 20) (G : Gd w mg mb s.heap) (T : TabOk s.heap)
    (hQ : ∀ code h' tk, (∀ b o, (b ≠ 16 ∨ Ready s.heap) → s.heap.get? b = some o → h'.get? b = some o) → Ready h' → TabGrow s.heap h' → Q code { s with heap := h', toks := tk }) :
    wpAny M A (genexprCode env gpos q scope) Q E s := by
  obtain ⟨ps, hps, htr⟩ := T
  have hd := codeHd G
  have hok := hd.code hps htr
  cases hf : codeAmong gpos ps.toList with
  | none =>
    refine wpAny_genexprCodeX hc hok (hd.tab hps) hf fun c' h' tk hx _ _ hc' _ ht' _ => ?_
    refine hQ _ h' tk (fun b o hb e => hx b o (hb.elim id fun R => ?_) e) ?_ ?_
    · obtain ⟨ps', c, e1, _, e2⟩ := R
      rw [hps] at e1
      have : ps = ps' := by injection e1 with e1; injection e1 with _ _ e3; injection e3
      subst this; rw [hf] at e2; cases e2
    · refine ⟨_, .ref c', ht'.2, ?_, ?_⟩
      · rw [show (ps ++ #[rawInt gpos.line, rawInt gpos.col, Value.ref c']).toList = ps.toList ++ [rawInt gpos.line, rawInt gpos.col, .ref c'] from by simp]
        exact TriplesOk_snoc _ _ _ _ htr
      · rw [show (ps ++ #[rawInt gpos.line, rawInt gpos.col, Value.ref c']).toList = ps.toList ++ [rawInt gpos.line, rawInt gpos.col, .ref c'] from by simp]
        exact codeAmong_snoc _ htr hf
    · intro ps' e1
      rw [hps] at e1
      have : ps = ps' := by injection e1 with e1; injection e1 with _ _ e3; injection e3
      subst this
      exact ⟨_, ht'.2⟩
  | some c =>
    obtain ⟨o, vs, file, tf, flags, tg, inF, text, tt, op, ho, hdd, h11, h2, h7, h9, h10, hop, hpd, _, hne⟩ := hok
    unfold genexprCode codeAt
    rw [hc, if_neg (show ¬ ((Value.ref 20 == Value.none) = true) from Bool.false_ne_true)]
    refine wpAny_bind (wpAny_fieldsOf ho hdd ?_)
    rw [h11]
    refine wpAny_bind (wpAny_fieldsOf hop hpd ?_)
    rw [hf]
    exact wpAny_pure (hQ c s.heap s.toks (fun _ _ _ e => e) ⟨ps, c, hps, htr, hf⟩ (.of fun _ e => e))

/-- two lists go side by side -/
inductive F2 {α β : Type} (R : α → β → Prop) : List α → List β → Prop
  | nil : F2 R [] []
  | cons {a : α} {b : β} {l : List α} {l' : List β} : R a b → F2 R l l' → F2 R (a :: l) (b :: l')
theorem F2.get {α β : Type} {R : α → β → Prop} {l : List α} {l' : List β} (x : F2 R l l') : ∀ (i : Nat) (a : α), l[i]? = some a → ∃ b, l'[i]? = some b ∧ R a b := by
  induction x with
  | nil => intro i a e; simp at e
  | cons r _ ih =>
    intro i a e
    cases i with
    | zero => simp at e; subst e; exact ⟨_, by simp, r⟩
    | succ i => simp at e; simpa using ih i a e
theorem F2.length {α β : Type} {R : α → β → Prop} {l : List α} {l' : List β} (x : F2 R l l') : l.length = l'.length := by
  induction x with
  | nil => rfl
  | cons _ _ ih => simp [ih]

/-- a thing that is no tuple, by the law's name for it -/
def Leaf (lo : Nat) (h : Heap) (v : Value) (n : Str) : Prop :=
  (∃ C, C ∈ kindNames ∧ v = .type C ∧ n = Str.ofString C) ∨ (∃ x t, v = .str x t ∧ n = "text") ∨ (v = .none ∧ n = "none") ∨
  (∃ a o, v = .ref a ∧ lo < a ∧ h.get? a = some o ∧ o.cls = .type "ValueError" ∧ n = "error")
/-- a thing of tuples in tuples, at most k deep, and the names that stand in it -/
def ThingIn (lo : Nat) : Nat → Heap → Value → List Str → Prop
  | 0, h, v, ns => ∃ n, ns = [n] ∧ Leaf lo h v n
  | k + 1, h, v, ns => (∃ n, ns = [n] ∧ Leaf lo h v n) ∨ ∃ a vs nss, v = .ref a ∧ lo < a ∧ h.IsTuple a vs.toArray ∧ F2 (ThingIn lo k h) vs nss ∧ ns = nss.flatten

theorem Leaf.ext {lo : Nat} {h h' : Heap} {v : Value} {n : Str} (x : Leaf lo h v n) (k : ∀ (b : Nat) o, lo < b → o.cls ≠ .type "list" → h.get? b = some o → h'.get? b = some o) : Leaf lo h' v n := by
  rcases x with x | x | x | ⟨a, o, e, na, ho, hc, r⟩
  · exact .inl x
  · exact .inr (.inl x)
  · exact .inr (.inr (.inl x))
  · exact .inr (.inr (.inr ⟨a, o, e, na, k _ _ na (by rw [hc]; decide) ho, hc, r⟩))
theorem f2_mono {α β : Type} {R S : α → β → Prop} (h : ∀ a b, R a b → S a b) {l : List α} {l' : List β} (x : F2 R l l') : F2 S l l' := by
  induction x with
  | nil => exact .nil
  | cons a _ ih => exact .cons (h _ _ a) ih
theorem ThingIn.ext {lo : Nat} {h h' : Heap} (k : ∀ (b : Nat) o, lo < b → o.cls ≠ .type "list" → h.get? b = some o → h'.get? b = some o) : ∀ {n : Nat} {v : Value} {ns : List Str}, ThingIn lo n h v ns → ThingIn lo n h' v ns
  | 0, _, _, ⟨n, e, l⟩ => ⟨n, e, l.ext k⟩
  | _ + 1, _, _, .inl ⟨m, e, l⟩ => .inl ⟨m, e, l.ext k⟩
  | _ + 1, _, _, .inr ⟨a, vs, nss, e, na, ⟨o, ho, hc, r⟩, f, e'⟩ => .inr ⟨a, vs, nss, e, na, ⟨o, k _ _ na (by rw [hc]; decide) ho, hc, r⟩, f2_mono (fun _ _ x => ThingIn.ext k x) f, e'⟩
theorem ThingIn.up {lo : Nat} {h : Heap} : ∀ {n : Nat} {v : Value} {ns : List Str}, ThingIn lo n h v ns → ThingIn lo (n + 1) h v ns
  | 0, _, _, x => .inl x
  | _ + 1, _, _, .inl x => .inl x
  | _ + 1, _, _, .inr ⟨a, vs, nss, e, na, t, f, e'⟩ => .inr ⟨a, vs, nss, e, na, t, f2_mono (fun _ _ x => ThingIn.up x) f, e'⟩
theorem ThingIn.le {lo : Nat} {h : Heap} {v : Value} {ns : List Str} {n m : Nat} (x : ThingIn lo n h v ns) (hm : n ≤ m) : ThingIn lo m h v ns := by
  induction hm with
  | refl => exact x
  | step _ ih => exact ih.up

def bases : List String := ["Exception", "BaseException", "LookupError"]
theorem base_meta {B : String} (h : B ∈ bases) : typeOf (.type B) = pure (.type "type") := by
  simp only [bases, List.mem_cons, List.not_mem_nil, or_false] at h
  rcases h with rfl | rfl | rfl <;> kernel_rfl
theorem base_isType {B : String} (h : B ∈ bases) : isType (.type B) = pure true := by
  simp only [bases, List.mem_cons, List.not_mem_nil, or_false] at h
  rcases h with rfl | rfl | rfl <;> kernel_rfl
theorem kind_isType {C : String} (h : C ∈ kindNames) : isType (.type C) = pure true := by
  simp only [kindNames, List.mem_cons, List.not_mem_nil, or_false] at h
  rcases h with rfl | rfl | rfl | rfl | rfl | rfl | rfl <;> kernel_rfl
/-- the model's own order of the kinds is the law's table -/
theorem kind_sub {C B : String} (hC : C ∈ kindNames) (hB : B ∈ bases) : isSubtype (.type C) (.type B) = pure (und (Str.ofString C) (Str.ofString B)) := by
  simp only [kindNames, List.mem_cons, List.not_mem_nil, or_false] at hC
  simp only [bases, List.mem_cons, List.not_mem_nil, or_false] at hB
  rw [isSubtype_type]
  rcases hC with rfl | rfl | rfl | rfl | rfl | rfl | rfl <;> rcases hB with rfl | rfl | rfl <;> kernel_rfl
theorem text_sub {B : String} (hB : B ∈ bases) : und "text" (Str.ofString B) = false := by
  simp only [bases, List.mem_cons, List.not_mem_nil, or_false] at hB
  rcases hB with rfl | rfl | rfl <;> decide +kernel
theorem none_sub {B : String} (hB : B ∈ bases) : und "none" (Str.ofString B) = false := by
  simp only [bases, List.mem_cons, List.not_mem_nil, or_false] at hB
  rcases hB with rfl | rfl | rfl <;> decide +kernel
theorem error_sub {B : String} (hB : B ∈ bases) : und "error" (Str.ofString B) = false := by
  simp only [bases, List.mem_cons, List.not_mem_nil, or_false] at hB
  rcases hB with rfl | rfl | rfl <;> decide +kernel

theorem bt_isinstance : bootBuiltins "isinstance" = some (.builtin "isinstance") := by decide +kernel
theorem bt_issubclass : bootBuiltins "issubclass" = some (.builtin "issubclass") := by decide +kernel
theorem bt_all : bootBuiltins "all" = some (.builtin "all") := by decide +kernel
theorem bt_tuple : bootBuiltins "tuple" = some (.type "tuple") := by decide +kernel
theorem bt_type : bootBuiltins "type" = some (.type "type") := by decide +kernel

abbrev subEnv (L : Addr) : Env := envX "_is_subtype" subS L 21 (.ref 20) [("basetype", L + 1)]

theorem enterSub {w : World} {mg mb : Str → Option Value} {A : Around} {R : Result → Shared → Prop} {s : Shared} {v : Value} {B : String} (G : Gd w mg mb s.heap) (hroom : A.depth < recursionLimit)
    (h : ∀ h₁ tk m, h₁.Ns s.heap.objs.size m → m "expected" = some v → h₁.IsCell (s.heap.objs.size + 1) (some (.type B)) → (∀ b o, s.heap.get? b = some o → h₁.get? b = some o) →
      Wp (model prg w) (A.deeper (subEnv s.heap.objs.size)) (execs subB (subEnv s.heap.objs.size))
        (fun fl s' => R (.ok (.ret (match fl with | .ret v => v | _ => .none))) s')
        (fun e s' => wpAny (model prg w) (A.deeper (subEnv s.heap.objs.size)) (leaving (subEnv s.heap.objs.size) e) (fun _ s'' => R (.error e) s'') (fun e' s'' => R (.error e') s'') s')
        { s with heap := h₁, toks := tk }) : codeAny (model prg w) A (.call (.ref 21) ⟨[v, .type B], []⟩) R s := by
  refine codeAny_call_cells (binds := [("expected", v), ("basetype", .type B)]) hroom (G.X 21 _ rfl) rfl G.lim (codeRec_of G.X (by rfl)) rfl rfl rfl ?_ ?_
  · intro x hx
    rcases List.mem_cons.mp hx with rfl | hx
    · exact .inl rfl
    · rw [List.mem_singleton.mp hx]; exact .inr ⟨rfl, rfl⟩
  · intro s₁ x
    obtain ⟨h₁, tk, e, k⟩ := x.done
    have hn := x.toInCall.ns
    have hc := x.cell "basetype" (s.heap.objs.size + 1) rfl
    subst e
    exact (h h₁ tk _ hn rfl hc k).out

theorem range_all {α : Type} (l : List α) (d : α) (f : α → Bool) : (List.range l.length).all (fun i => f (l.getD i d)) = l.all f := by
  have e : l = (List.range l.length).map (fun i => l.getD i d) := by
    apply List.ext_getElem?
    intro i
    by_cases hi : i < l.length
    · simp [hi, List.getD_eq_getElem?_getD]
    · simp [hi]
  conv => rhs; rw [e, List.all_map]
  rfl

/-- the contract of `_is_subtype` for things at most k deep -/
def SubSpec (w : World) (mg mb : Str → Option Value) (lo k : Nat) : Prop :=
  ∀ (A : Around) (E : Value → Shared → Prop) (s : Shared) (v : Value) (ns : List Str) (B : String) (Q : Value → Shared → Prop), B ∈ bases → Gd w mg mb s.heap → TabOk s.heap → ThingIn lo k s.heap v ns → A.handled = none → A.depth + 3 * k + 3 < recursionLimit →
    (∀ s', Kept s s' → Q (.bool (ns.all fun n => und n (Str.ofString B))) s') → wpAny (model prg w) A (call (.ref 21) [v, .type B]) Q E s

theorem Kept.frame {s : Shared} {h₁ : Heap} {tk : Nat} {s' : Shared} (k : ∀ b o, s.heap.get? b = some o → h₁.get? b = some o) (x : Kept { s with heap := h₁, toks := tk } s') : Kept s s' := by
  obtain ⟨⟨h', tk', gs, rfl⟩, hp, tb, gr, ge⟩ := x
  exact ⟨⟨h', tk', gs, rfl⟩, fun b o hb e => hp b o (hb.imp_right fun R => R.at fun o e => k _ o e) (k b o e), tb, (TabGrow.of fun o e => k _ o e).trans gr, ge⟩

theorem Kept.quiet {s : Shared} {h' : Heap} {tk : Nat} (T : TabOk s.heap) (k : ∀ b o, s.heap.get? b = some o → h'.get? b = some o) : Kept s { s with heap := h', toks := tk } :=
  ⟨⟨h', tk, s.gens, rfl⟩, fun b o _ e => k b o e, T.at fun o e => k _ o e, .of fun o e => k _ o e, .refl _⟩

section
variable {w : World} {mg mb : Str → Option Value} {A : Around} {E : Value → Shared → Prop} {s : Shared} {L : Addr} {m : Str → Option Value} {B : String}
theorem ns_isinstance : nsIn (hd.heap_39 w.params) mainGlobals "isinstance" = some none := rfl
theorem ns_issubclass : nsIn (hd.heap_39 w.params) mainGlobals "issubclass" = some none := rfl
theorem ns_all : nsIn (hd.heap_39 w.params) mainGlobals "all" = some none := rfl
theorem ns_tuple : nsIn (hd.heap_39 w.params) mainGlobals "tuple" = some none := rfl
theorem ns_type : nsIn (hd.heap_39 w.params) mainGlobals "type" = some none := rfl
theorem ns_sub : nsIn (hd.heap_39 w.params) mainGlobals "_is_subtype" = some (some (.ref 21)) := rfl
theorem ev_isinstance {pos : Pos} {Q : Value → Shared → Prop} (G : Gd w mg mb s.heap) (h : Q (.builtin "isinstance") s) : wpAny (model prg w) A (eval (.Name "isinstance" pos) (subEnv L)) Q E s := nmB G ns_isinstance bt_isinstance (by decide) h
theorem ev_issubclass {pos : Pos} {Q : Value → Shared → Prop} (G : Gd w mg mb s.heap) (h : Q (.builtin "issubclass") s) : wpAny (model prg w) A (eval (.Name "issubclass" pos) (subEnv L)) Q E s := nmB G ns_issubclass bt_issubclass (by decide) h
theorem ev_all {pos : Pos} {Q : Value → Shared → Prop} (G : Gd w mg mb s.heap) (h : Q (.builtin "all") s) : wpAny (model prg w) A (eval (.Name "all" pos) (subEnv L)) Q E s := nmB G ns_all bt_all (by decide) h
theorem ev_tuple {pos : Pos} {Q : Value → Shared → Prop} (G : Gd w mg mb s.heap) (h : Q (.type "tuple") s) : wpAny (model prg w) A (eval (.Name "tuple" pos) (subEnv L)) Q E s := nmB G ns_tuple bt_tuple (by decide) h
theorem ev_type {pos : Pos} {Q : Value → Shared → Prop} (G : Gd w mg mb s.heap) (h : Q (.type "type") s) : wpAny (model prg w) A (eval (.Name "type" pos) (subEnv L)) Q E s := nmB G ns_type bt_type (by decide) h
theorem ev_expected {pos : Pos} {v : Value} {Q : Value → Shared → Prop} (N : s.heap.Ns L m) (hv : m "expected" = some v) (h : Q v s) : wpAny (model prg w) A (eval (.Name "expected" pos) (subEnv L)) Q E s := nmL N hv h
theorem ev_basetype {pos : Pos} {v : Value} {Q : Value → Shared → Prop} (hc : s.heap.IsCell (L + 1) (some v)) (h : Q v s) : wpAny (model prg w) A (eval (.Name "basetype" pos) (subEnv L)) Q E s :=
  wpAny_Name (wpAny_loadName_cell rfl rfl (by simp [List.lookup]) hc h) (by decide)
theorem ev_isi_tuple {p1 p2 p3 p4 : Pos} {v : Value} {Q : Value → Shared → Prop} (G : Gd w mg mb s.heap) (N : s.heap.Ns L m) (hv : m "expected" = some v) (h : wpAny (model prg w) A (call (.builtin "isinstance") [v, .type "tuple"]) Q E s) :
    wpAny (model prg w) A (eval (.Call (.Name "isinstance" p1) [.Name "expected" p2, .Name "tuple" p3] [] p4) (subEnv L)) Q E s :=
  by
  walk_at "m call"
  with_reducible refine ev_isinstance G ?_
  walk_at "m with"
  walk_at "m arg"
  with_reducible refine ev_expected N hv ?_
  walk_at "m arg"
  with_reducible refine ev_tuple G ?_
  with_reducible exact args_nil h
theorem ev_isi_type {p1 p2 p3 p4 : Pos} {v : Value} {Q : Value → Shared → Prop} (G : Gd w mg mb s.heap) (N : s.heap.Ns L m) (hv : m "expected" = some v) (h : wpAny (model prg w) A (call (.builtin "isinstance") [v, .type "type"]) Q E s) :
    wpAny (model prg w) A (eval (.Call (.Name "isinstance" p1) [.Name "expected" p2, .Name "type" p3] [] p4) (subEnv L)) Q E s :=
  by
  walk_at "m call"
  with_reducible refine ev_isinstance G ?_
  walk_at "m with"
  walk_at "m arg"
  with_reducible refine ev_expected N hv ?_
  walk_at "m arg"
  with_reducible refine ev_type G ?_
  with_reducible exact args_nil h
theorem ev_issub {p1 p2 p3 p4 : Pos} {v b : Value} {Q : Value → Shared → Prop} (G : Gd w mg mb s.heap) (N : s.heap.Ns L m) (hv : m "expected" = some v) (hc : s.heap.IsCell (L + 1) (some b)) (h : wpAny (model prg w) A (call (.builtin "issubclass") [v, b]) Q E s) :
    wpAny (model prg w) A (eval (.Call (.Name "issubclass" p1) [.Name "expected" p2, .Name "basetype" p3] [] p4) (subEnv L)) Q E s :=
  by
  walk_at "m call"
  with_reducible refine ev_issubclass G ?_
  walk_at "m with"
  walk_at "m arg"
  with_reducible refine ev_expected N hv ?_
  walk_at "m arg"
  with_reducible refine ev_basetype hc ?_
  with_reducible exact args_nil h
end

section
variable {w : World} {mg mb : Str → Option Value} {A : Around} {E : Value → Shared → Prop} {s : Shared} {L : Addr} {m : Str → Option Value} {B : String} {Q : Flow → Shared → Prop}
/-- what is no tuple -/
theorem sub_leaf {v : Value} {n : Str} (G : Gd w mg mb s.heap) (N : s.heap.Ns L m) (hv : m "expected" = some v) (hc : s.heap.IsCell (L + 1) (some (.type B))) (hB : B ∈ bases) {lo : Nat} (hl : Leaf lo s.heap v n)
    (h : ∀ tk, Q (.ret (.bool (und n (Str.ofString B)))) { s with toks := tk }) : Wp (model prg w) A (execs subB (subEnv L)) Q E s := by
  constructor
  have N' : ∀ tk, ({ s with toks := tk } : Shared).heap.Ns L m := fun _ => N
  have G' : ∀ tk, Gd w mg mb ({ s with toks := tk } : Shared).heap := fun _ => G
  rw [show subB = [_, _] from rfl]
  walk_at "m cons"
  walk_at "m if"
  walk_at "m istrue"
  with_reducible refine ev_isi_tuple G N hv ?_
  rcases hl with ⟨C, hC, rfl, rfl⟩ | ⟨x, t, rfl, rfl⟩ | ⟨rfl, rfl⟩ | ⟨a, o, rfl, na, ho, hcl, rfl⟩
  · with_reducible refine isi_cl_tuple hC (wpAny_truthy_bool ?_)
    simp only [Bool.false_eq_true, if_false]
    with_reducible refine wpAny_execs_nil ?_
    dsimp only
    walk_at "m cons"
    with_reducible refine wpAny_Return_some (wpAny_And2 (ev_isi_type (G' _) (N' _) hv (isi_cl_type hC (wpAny_truthy_bool ?_))))
    simp only [if_true]
    with_reducible refine ev_issub (G' _) (N' _) hv hc ?_
    exact issub_call (base_meta hB) (kind_isType hC) (base_isType hB) (kind_sub hC hB) (h _)
  · with_reducible refine IsiPair.str_tuple (wpAny_truthy_bool ?_)
    simp only [Bool.false_eq_true, if_false]
    with_reducible refine wpAny_execs_nil ?_
    dsimp only
    walk_at "m cons"
    with_reducible refine wpAny_Return_some (wpAny_And2 (ev_isi_type (G' _) (N' _) hv (isi_str_type (wpAny_truthy_bool ?_))))
    simp only [Bool.false_eq_true, if_false]
    have := h (s.toks + 1 + 1)
    rw [text_sub hB] at this
    exact this
  · with_reducible refine IsiPair.NoneType_tuple (wpAny_truthy_bool ?_)
    simp only [Bool.false_eq_true, if_false]
    with_reducible refine wpAny_execs_nil ?_
    dsimp only
    walk_at "m cons"
    with_reducible refine wpAny_Return_some (wpAny_And2 (ev_isi_type (G' _) (N' _) hv (isi_none_type (wpAny_truthy_bool ?_))))
    simp only [Bool.false_eq_true, if_false]
    have := h (s.toks + 1 + 1)
    rw [none_sub hB] at this
    exact this
  · with_reducible refine isi_ve_tuple ho hcl (wpAny_truthy_bool ?_)
    simp only [Bool.false_eq_true, if_false]
    with_reducible refine wpAny_execs_nil ?_
    dsimp only
    walk_at "m cons"
    with_reducible refine wpAny_Return_some (wpAny_And2 (ev_isi_type (G' _) (N' _) hv (isi_ve_type ho hcl (wpAny_truthy_bool ?_))))
    simp only [Bool.false_eq_true, if_false]
    have := h (s.toks + 1 + 1)
    rw [error_sub hB] at this
    exact this
end
theorem Kept.toA {s s' : Shared} (x : Kept s s') (R : Ready s.heap) : KeptA s s' := by
  obtain ⟨h', tk, gs, rfl⟩ := x.same
  exact ⟨h', tk, gs, rfl, fun b o e => x.heap b o (.inr R) e, x.gens⟩

theorem kept_same {s s' : Shared} (hd : s'.drawn = s.drawn) (ho : s'.os = s.os) : ∃ h' tk gs, s' = { s with heap := h', toks := tk, gens := gs } := by
  obtain ⟨h', gs, d, tk, os⟩ := s'
  exact ⟨h', tk, gs, by cases hd; cases ho; rfl⟩

theorem gext_of {g : Array GenState} {x : GenState} (hx : x.bare = true) {g' : Array GenState} (y : GG g.size (g.push x) g') : GExt g g' :=
  ⟨Nat.le_trans (by simp) y.size, fun k hk => (y.old k (by simp; omega) (Nat.ne_of_lt hk)).trans (by rw [Array.getElem?_push, if_neg (Nat.ne_of_lt hk)]), fun k v hk e => by
    by_cases hg : k = g.size
    · subst hg
      rcases y.self with hs | hs
      · rw [hs] at e; simp at e; subst e; exact hx
      · exact hs v e
    · exact y.bare k v (by simp; omega) e⟩

section
variable {w : World} {mg mb : Str → Option Value} {A : Around} {E : Value → Shared → Prop} {s : Shared} {L : Addr} {m : Str → Option Value} {B : String} {Q : Flow → Shared → Prop}

theorem fn21 {h : Heap} (G : Gd w mg mb h) : FnAt 21 h := ⟨_, _, _, _, G.X 21 _ rfl⟩
theorem fn28 {h : Heap} (G : Gd w mg mb h) : FnAt 28 h := ⟨_, _, _, _, G.X 28 _ rfl⟩
theorem fn35 {h : Heap} (G : Gd w mg mb h) : FnAt 35 h := ⟨_, _, _, _, G.X 35 _ rfl⟩
theorem no16 {I C : Nat} (h1 : 16 < I) (h2 : I < C) : (16 : Nat) ∉ [C, I] := by
  intro hm
  rcases List.mem_cons.mp hm with e1 | hm
  · omega
  · have := List.mem_singleton.mp hm; omega

theorem sub_tuple {k : Nat} {t : Addr} {vs : List Value} {nss : List (List Str)} {lo : Nat} (hlo : 16 ≤ lo) (IH : SubSpec w mg mb lo k) (G : Gd w mg mb s.heap) (T : TabOk s.heap) (N : s.heap.Ns L m) (hL : 16 < L) (hv : m "expected" = some (.ref t)) (ht : s.heap.IsTuple t vs.toArray) (na : lo < t)
    (hc : s.heap.IsCell (L + 1) (some (.type B))) (hB : B ∈ bases) (f : F2 (ThingIn lo k s.heap) vs nss) (hh : A.handled = none) (hd : A.depth + 3 * k + 4 < recursionLimit)
    (h : ∀ s', Kept s s' → Q (.ret (.bool (nss.flatten.all fun n => und n (Str.ofString B)))) s') : Wp (model prg w) A (execs subB (subEnv L)) Q E s := by
  constructor
  rw [show subB = [_, _] from rfl]
  walk_at "m cons"
  walk_at "m if"
  walk_at "m istrue"
  with_reducible refine ev_isi_tuple G N hv ?_
  have hT : s.TypeIs (.ref t) "tuple" := let ⟨o, a, b, _⟩ := ht; ⟨o, a, b⟩
  with_reducible refine isi_tuple_tuple hT (wpAny_truthy_bool ?_)
  simp only [if_true]
  walk_at "m cons"
  with_reducible refine wpAny_Return_some ?_
  walk_at "m call"
  with_reducible refine ev_all G ?_
  walk_at "m with"
  walk_at "m arg"
  with_reducible refine wpAny_GeneratorExp_make (cl := [("basetype", L + 1)]) ?hco ?hclos ?hcell ?h0 ?hkind ?hroom ?h ?hs
  case hco => rfl
  case hclos => rfl
  case hcell => decide
  case h0 => rfl
  case hkind => rfl
  case hroom => omega
  case hs => intro _; rfl
  case h =>
    have h16 : 16 < s.heap.objs.size := let ⟨_, e, _⟩ := T; Heap.lt_size e
    have htlt : t < s.heap.objs.size := let ⟨_, e, _⟩ := ht; Heap.lt_size e
    with_reducible refine ev_expected N hv ?_
    with_reducible refine wpAny_pyIter_tuple ht ?_
    have k2 : ∀ b o, s.heap.get? b = some o → (s.heap.push { cls := .type "tuple_iterator", data := .fields #[.ref t, .int 0 0] }).get? b = some o := fun b o e => Heap.get?_push_of_some _ e
    have hI : (s.heap.push { cls := .type "tuple_iterator", data := .fields #[.ref t, .int 0 0] }).IsTupleIter s.heap.objs.size t 0 := ⟨_, Heap.get?_push_size _ rfl, rfl, rfl⟩
    have hsz2 : (s.heap.push { cls := .type "tuple_iterator", data := .fields #[.ref t, .int 0 0] }).objs.size = s.heap.objs.size + 1 := Heap.size_push ..
    refine ⟨(G.keeps k2).lim, ?_⟩
    generalize s.heap.push { cls := .type "tuple_iterator", data := .fields #[.ref t, .int 0 0] } = h₂ at k2 hI hsz2 ⊢
    have G2 := G.keeps k2
    with_reducible refine gcode rfl G2 (T.at fun o e => k2 _ o e) ?_
    intro code h₃ tk hk3 R3 gr3
    have k3 : ∀ b o, b ≠ 16 → s.heap.get? b = some o → h₃.get? b = some o := fun b o hb e => hk3 b o (.inl hb) (k2 b o e)
    have k3R : Ready s.heap → ∀ b o, s.heap.get? b = some o → h₃.get? b = some o := fun R b o e => hk3 b o (.inr (R.at fun o e => k2 _ o e)) (k2 b o e)
    have hI3 : h₃.IsTupleIter s.heap.objs.size t 0 := hI.at fun o e => hk3 _ o (.inl (Nat.ne_of_gt h16)) e
    have gr : TabGrow s.heap h₃ := (TabGrow.of fun o e => k2 _ o e).trans gr3
    have G3 := G.ext k3
    have hIlt : s.heap.objs.size < h₃.objs.size := let ⟨_, e, _⟩ := hI3; Heap.lt_size e
    have ht3 : h₃.IsTuple t vs.toArray := let ⟨o, e, r⟩ := ht; ⟨o, k3 _ _ (Nat.ne_of_gt (Nat.lt_of_le_of_lt hlo na)) e, r⟩
    clear hk3 k2 gr3 G2 hI hsz2
    obtain ⟨bm, ob, BM, nbm⟩ := G3.bm
    with_reducible refine wpAny_builtinsFor BM.ns BM.name BM.ne BM.obj BM.cls BM.dict BM.data ?_
    intro h' hn' hs'
    dsimp only at hn' hs' ⊢
    have hC : h'.objs.size = h₃.objs.size + 1 := by rw [hs'.1, Heap.size_push]
    have k4 : ∀ b o, h₃.get? b = some o → h'.get? b = some o := fun b o e => hs'.extBut b o (Nat.ne_of_lt (Heap.lt_size e)) (Heap.get?_push_of_some _ e)
    with_reducible refine args_nil ?_
    with_reducible refine call_all_walkS ?_
    generalize hgo : ({ cls := .type "generator", data := .fields #[.int s.gens.size 0, .str "<genexpr>" (tk + 1), .str ((subEnv L).qual ++ "<genexpr>") (tk + 1 + 1)] } : Obj) = go
    have k5 : ∀ b o, h₃.get? b = some o → (h'.push go).get? b = some o := fun b o e => Heap.get?_push_of_some _ (k4 b o e)
    have hgen : (h'.push go).IsGen h'.objs.size s.gens.size := ⟨go, _, _, Heap.get?_push_size _ (by rw [← hgo]; rfl), by rw [← hgo], by rw [← hgo], by rw [← hgo]⟩
    with_reducible refine wpAny_pyIter_gen hgen ?_
    have R5 : Ready (h'.push go) := R3.at fun o e => k5 _ o e
    have G5 : Gd w mg mb (h'.push go) := G3.keeps k5
    have hn5 := hn'.push go
    have hI5 : (h'.push go).IsTupleIter s.heap.objs.size t 0 := hI3.at fun o e => k5 _ o e
    have ht5 : (h'.push go).IsTuple t vs.toArray := ht3.at fun o e => k5 _ o e
    have hc5 : (h'.push go).IsCell (L + 1) (some (.type B)) := by
      obtain ⟨o, e, r⟩ := hc
      exact ⟨o, k5 _ _ (k3 _ _ (Nat.ne_of_gt (Nat.lt_succ_of_lt hL)) e), r⟩
    have k35 : ∀ b o, b ≠ 16 → s.heap.get? b = some o → (h'.push go).get? b = some o := fun b o hb e => k5 b o (k3 b o hb e)
    have k35R : Ready s.heap → ∀ b o, s.heap.get? b = some o → (h'.push go).get? b = some o := fun R b o e => k5 b o (k3R R b o e)
    have gr5 : TabGrow s.heap (h'.push go) := gr.trans (.of fun o e => k5 _ o e)
    have hLlt : L + 1 < s.heap.objs.size := let ⟨_, e, _⟩ := hc; Heap.lt_size e
    clear hgo k4 k5 hs' hn'
    generalize hg5 : h'.push go = h₅ at *
    have hroom : A.depth < recursionLimit := by omega
    have a1 : @LT.lt Nat _ h'.objs.size (h'.objs.size + 1) := Nat.lt_succ_self _
    have a2 : @Ne Nat h'.objs.size h₃.objs.size := by omega
    have a3 : @Ne Nat h'.objs.size s.heap.objs.size := by omega
    have a4 : @LT.lt Nat _ h₃.objs.size (h'.objs.size + 1) := by omega
    have a5 : @LT.lt Nat _ s.heap.objs.size (h'.objs.size + 1) := by omega
    have a9 : @LT.lt Nat _ t (h'.objs.size + 1) := Nat.lt_trans htlt a5
    have hclt : cStatics < s.heap.objs.size := let ⟨_, e, _⟩ := G.lim; e.lt
    refine ⟨h'.objs.size, _, _, _, vs.toArray.size, fun i y => y = .bool ((nss.getD i []).all fun n => und n (Str.ofString B)), _, fun i => (nss.getD i []).all fun n => und n (Str.ofString B), rfl,
      gen_walks (A := A.in1) hh h'.objs.size s.gens.size h₃.objs.size s.heap.objs.size (h'.objs.size + 1) vs.toArray.size _ a1 a2 a3 a4 a5 hroom (Nat.lt_trans hclt a5) (Nat.ne_of_lt (Nat.lt_trans hclt hIlt)) (Nat.ne_of_lt hclt),
      ⟨hgen, G5.lim, _, Array.getElem?_push_size .., fun s'' hal => ⟨rfl, ?_⟩⟩, fun i v s Q E hP hQ => by rw [hP]; exact wpAny_truthy_bool hQ, fun s' mv => ?_⟩
    · rw [Nat.sub_zero]
      refine seg_start (A := A.in1.in1) (cenv := genEnv _ [("basetype", L + 1)] h₃.objs.size code builtinsNs (subEnv L)) (D := A.depth + 1) (Nb := s.heap.objs.size) (t := t) (items := vs.toArray) (hb := h₅) hh (Nat.le_refl _) rfl rfl rfl (Nat.ne_of_lt htlt) (Nat.ne_of_lt (Nat.lt_trans htlt hIlt)) (Nat.ne_of_lt hIlt) (Nat.le_refl _) (Nat.le_of_lt hIlt) a5 a4 a9 (Nat.le_of_lt a5) ?_
        s'' s'' _ (hI5.at fun o e => hal _ a5 o e) (ht5.at fun o e => hal _ a9 o e) (hn5.at' fun o e => hal _ a4 o e) (.refl _ _ _) fun b o hb e => hal b (Nat.lt_trans hb a5) o e
      intro A' E' i v s₂ m₂ hA' hdp hi hn2 hx2 hk2
      rw [List.getElem?_toArray] at hi
      obtain ⟨ns, hns, hth⟩ := f.get i v hi
      have up : ∀ b o, b ≠ 16 → s.heap.get? b = some o → s₂.heap.get? b = some o := fun b o hb e => hk2 b o (Heap.lt_size e) (k35 b o hb e)
      have G2 := G.ext up
      have R2 : Ready s₂.heap := R5.at fun o e => hk2 16 o h16 e
      have hc2 : s₂.heap.IsCell (L + 1) (some (.type B)) := let ⟨o, e, r⟩ := hc5; ⟨o, hk2 _ o hLlt e, r⟩
      walk_at "m call"
      with_reducible refine Name_function_global ?k1 ?k2 (loadGlobal_global (mg := mg) ?kg (mg_of G2.X G2.g ns_sub) ?_) ?k3
      case kg => exact G2.g
      case k1 => rfl
      case k2 => rfl
      case k3 => decide
      with_reducible refine callWith_F (fn21 G2) ?k5 ?k6 ?k7
      case k6 => rfl
      case k7 => rfl
      walk_at "m arg"
      with_reducible refine wpAny_Name (wpAny_loadName_local ?k8 ?k9 hn2 hx2 ?_) ?k10
      case k8 => rfl
      case k9 => rfl
      case k10 => decide
      walk_at "m arg"
      with_reducible refine wpAny_Name (wpAny_loadName_free ?k8 ?k9 ?k11 hc2 ?_ ?k12) ?k10
      case k8 => rfl
      case k9 => rfl
      case k10 => decide
      case k11 => show List.lookup _ [(Str.ofString "basetype", L + 1)] = _; simp [List.lookup]
      case k12 => decide
      with_reducible refine args_nil ⟨fn21 G2, ?_⟩
      refine IH A' E' s₂ v ns B _ hB G2 R2.ok (hth.ext fun b o hb _ e => up b o (Nat.ne_of_gt (Nat.lt_of_le_of_lt hlo hb)) e) hA' (by omega) fun s' kp => ⟨?_, kp.toA R2⟩
      rw [List.getD_eq_getElem?_getD, hns]; rfl
    · rw [List.size_toArray, f.length, range_all nss [] fun ns => ns.all fun n => und n (Str.ofString B)]
      have e : (nss.all fun ns => ns.all fun n => und n (Str.ofString B)) = nss.flatten.all fun n => und n (Str.ofString B) := by
        rw [List.all_flatten]
      rw [e]
      refine h s' ⟨kept_same mv.drawn mv.os, fun b o hb e => ?_, ?_, ?_, gext_of rfl mv.gens⟩
      · have hbl : b < s.heap.objs.size := Heap.lt_size e
        refine mv.heap b o ?_ (hb.elim (fun hb => k35 b o hb e) fun R => k35R R b o e)
        intro hm
        rcases List.mem_cons.mp hm with e1 | hm
        · exact absurd (Nat.lt_trans hbl hIlt) (e1 ▸ Nat.lt_irrefl _)
        · exact absurd hbl ((List.mem_singleton.mp hm) ▸ Nat.lt_irrefl _)
      · exact (R5.at fun o e => mv.heap 16 o (no16 h16 hIlt) e).ok
      · exact gr5.trans (.of fun o e => mv.heap 16 o (no16 h16 hIlt) e)
end

theorem sub_case_leaf {w : World} {mg mb : Str → Option Value} {A : Around} {E : Value → Shared → Prop} {s : Shared} {v : Value} {n : Str} {B : String} {Q : Value → Shared → Prop} (hB : B ∈ bases) (G : Gd w mg mb s.heap) (T : TabOk s.heap) {lo : Nat} (hl : Leaf lo s.heap v n) (hroom : A.depth < recursionLimit)
    (h : ∀ s', Kept s s' → Q (.bool (und n (Str.ofString B))) s') : wpAny (model prg w) A (call (.ref 21) [v, .type B]) Q E s := by
  refine wpAny_call (enterSub G hroom fun h₁ tk m N hv hc kp => ?_)
  refine sub_leaf (s := { s with heap := h₁, toks := tk }) (G.keeps kp) N hv hc hB (hl.ext fun b o _ _ e => kp b o e) ?_
  intro tk'
  exact h _ (Kept.quiet T kp)

/-- `_is_subtype` tells of each thing at most k deep what the table tells -/
theorem sub_spec {w : World} {mg mb : Str → Option Value} {lo : Nat} (hlo : 16 ≤ lo) : ∀ k, SubSpec w mg mb lo k
  | 0 => fun A E s v ns B Q hB G T th hh hd h => by
    obtain ⟨n, rfl, hl⟩ := th
    refine sub_case_leaf hB G T hl (by omega) fun s' kp => ?_
    have := h s' kp
    simpa using this
  | k + 1 => fun A E s v ns B Q hB G T th hh hd h => by
    rcases th with ⟨n, rfl, hl⟩ | ⟨a, vs, nss, rfl, na, ht, f, rfl⟩
    · refine sub_case_leaf hB G T hl (by omega) fun s' kp => ?_
      have := h s' kp
      simpa using this
    · refine wpAny_call (enterSub G (by omega) fun h₁ tk m N hv hc kp => ?_)
      have h16 : 16 < s.heap.objs.size := let ⟨_, e, _⟩ := T; Heap.lt_size e
      refine sub_tuple (s := { s with heap := h₁, toks := tk }) hlo (sub_spec hlo k) (G.keeps kp) (T.at fun o e => kp _ o e) N h16 hv (ht.at fun o e => kp _ o e) na hc hB (f2_mono (fun _ _ x => x.ext fun b o _ _ e => kp b o e) f) hh (by show A.depth + 1 + 3 * k + 4 < recursionLimit; omega) ?_
      intro s' kp'
      exact h s' (kp'.frame kp)

/-- an exact list of the run's own -/
def Lst (h : Heap) (a : Addr) (vs : List Value) : Prop := ∃ n, IsL h a vs.toArray n
theorem Lst.isList {h : Heap} {a : Addr} {vs : List Value} (x : Lst h a vs) : h.IsList a vs.toArray := let ⟨_, e⟩ := x; e.isList
theorem Lst.at {h h' : Heap} {a : Addr} {vs : List Value} (x : Lst h a vs) (k : ∀ o, h.get? a = some o → h'.get? a = some o) : Lst h' a vs := let ⟨n, e⟩ := x; ⟨n, k _ e⟩
theorem Lst.lt {h : Heap} {a : Addr} {vs : List Value} (x : Lst h a vs) : a < h.objs.size := let ⟨_, e⟩ := x; Heap.lt_size e
theorem Lst.same {h : Heap} {a : Addr} {vs us : List Value} (x : Lst h a vs) (y : Lst h a us) : vs = us := by
  obtain ⟨n, e⟩ := x
  obtain ⟨n', e'⟩ := y
  have := e.symm.trans e'
  injection this with this
  injection this with _ _ this
  injection this with this
  simpa using this
/-- a tuple's address is no list's -/
theorem tup_ne_list {h : Heap} {a b : Addr} {its : Array Value} {vs : List Value} (x : IsTup h a its) (y : Lst h b vs) : a ≠ b := by
  rintro rfl
  obtain ⟨o, e, c, _⟩ := x
  obtain ⟨n, e'⟩ := y
  rw [e'] at e
  injection e with e
  subst e
  exact absurd c (by simp)

section
variable {prog : Program} {w : World} {A : Around} {E : Value → Shared → Prop} {s : Shared} {a b : Addr} {vs us : List Value} {x y : Value} {Q : Value → Shared → Prop}
theorem szOk {n : Nat} (h : n ≤ 100000) : n ≤ sizeLine := by rw [sizeLine_eq]; omega

theorem lst_append (hl : Lst s.heap a vs) (hz : vs.length ≤ 1000) (h : ∀ h', Lst h' a (vs ++ [x]) → Heap.SameBut a s.heap h' → Q .none { s with heap := h' }) :
    wpAny (model prog w) A (call (.builtin "list.append") [.ref a, x]) Q E s := by
  obtain ⟨n, hl⟩ := hl
  refine call_meets F.slot_list_append ⟨_, hl, rfl⟩ F.entry_list_append (F.args_list_append_2 _ _) (list_append a _ n x (szOk (by simp; omega))) ⟨hl, ?_⟩
  have q := IsL.update hl fun xs => xs.push x
  have e : vs.toArray.push x = (vs ++ [x]).toArray := by simp
  rw [e] at q
  exact h _ ⟨_, q⟩ (Heap.SameBut.update ..)
theorem lst_pop (hl : Lst s.heap a (vs ++ [y])) (hz : vs.length ≤ 1000) (h : ∀ h', Lst h' a vs → Heap.SameBut a s.heap h' → Q y { s with heap := h' }) :
    wpAny (model prog w) A (call (.builtin "list.pop") [.ref a]) Q E s := by
  obtain ⟨n, hl⟩ := hl
  have hk : (vs ++ [y]).toArray.size - 1 = vs.length := by rw [List.size_toArray, List.length_append]; rfl
  have hy : (vs ++ [y]).toArray[(vs ++ [y]).toArray.size - 1]? = some y := by rw [hk]; simp
  refine call_meets F.slot_list_pop ⟨_, hl, rfl⟩ F.entry_list_pop (F.args_list_pop_1 _) (MeetsSeq.list_pop_last a _ n y hy (szOk (by simp; omega))) ⟨hl, ?_⟩
  have q := IsL.update hl fun xs => xs.eraseIdxIfInBounds ((vs ++ [y]).toArray.size - 1)
  have e : (vs ++ [y]).toArray.eraseIdxIfInBounds ((vs ++ [y]).toArray.size - 1) = vs.toArray := by rw [hk, kl_erase, List.append_nil]
  rw [e] at q
  exact h _ ⟨_, q⟩ (Heap.SameBut.update ..)
theorem lst_extend (hl : Lst s.heap a vs) (hb : Lst s.heap b us) (hz : vs.length + us.length ≤ 1000) (h : ∀ h', Lst h' a (vs ++ us) → Heap.SameBut a s.heap h' → Q .none { s with heap := h' }) :
    wpAny (model prog w) A (call (.builtin "list.extend") [.ref a, .ref b]) Q E s := by
  obtain ⟨n, hl⟩ := hl
  obtain ⟨n2, hb⟩ := hb
  have hd : ¬(!vs.toArray.isEmpty && Builtin.List.listTooLong (vs.toArray.size + us.toArray.size)) = true := by
    have : Builtin.List.listTooLong (vs.toArray.size + us.toArray.size) = false := by
      unfold Builtin.List.listTooLong
      rw [sizeLine_eq]
      simp only [List.size_toArray]
      exact decide_eq_false (by omega)
    rw [this, Bool.and_false]; exact Bool.false_ne_true
  refine call_meets F.slot_list_extend ⟨_, hl, rfl⟩ F.entry_list_extend (F.args_list_extend_2 _ _) (AutoSeq1.list_extend_list_list_0 a _ n b _ n2 hd (szOk (by simp; omega)) (by rw [sizeLine_eq]; simp; omega)) ⟨hl, hb, ?_⟩
  have q := IsL.update hl fun xs => xs ++ us.toArray
  have e : vs.toArray ++ us.toArray = (vs ++ us).toArray := by simp
  rw [e] at q
  exact h _ ⟨_, q⟩ (Heap.SameBut.update ..)
/-- the last item -/
theorem lst_last {value slice : Expr} {t : Tok} (hl : Lst s.heap a (vs ++ [y])) (h : Q y s) (hs : subscripted slice false (.ref a) (.int (-1) t) = operate [.ref a, .int (-1) t] (getItem (.ref a) (.int (-1) t))) :
    wpAny (model prog w) A (subscriptTail value slice (.ref a) (.int (-1) t)) Q E s := by
  refine tail_any hl.isList.typeIs slot_list_getitem.lookup (wpAny_getItem_list_neg hl.isList (by decide) ?_ (by decide) ?_ h) hs
  · simp; omega
  · have : ((-1 : Int) + ((vs ++ [y]).toArray.size : Nat)).toNat = vs.length := by simp; omega
    rw [this]; simp
theorem lst_item {value slice : Expr} {t : Tok} {k : Int} (hl : Lst s.heap a vs) (h0 : 0 ≤ k) (h1 : k < 2 ^ 63) (hx : vs[k.toNat]? = some y) (h : Q y s) (hs : subscripted slice false (.ref a) (.int k t) = operate [.ref a, .int k t] (getItem (.ref a) (.int k t))) :
    wpAny (model prog w) A (subscriptTail value slice (.ref a) (.int k t)) Q E s :=
  tail_any hl.isList.typeIs slot_list_getitem.lookup (wpAny_getItem_list hl.isList h0 h1 (by simpa using hx) h) hs
/-- a method of a list -/
theorem lst_method {name : Str} {id : String} {pl : Sem Bool} {M : Model} {Q : Value × List Value → Shared → Prop} (hl : Lst s.heap a vs) (slot : Slot "list" name id) (hty : typeOf (.builtin id) = pure (.type "method_descriptor"))
    (h : Q (.builtin id, [.ref a]) s) : wpAny M A (getMethod (.ref a) name pl) Q E s := by
  obtain ⟨n, hl⟩ := hl
  exact getMethod_builtin ⟨_, hl, rfl⟩ F.plainAttrs_list slot hty (fun b e => by cases e; exact ⟨_, hl, rfl⟩) h
end

section
variable {M : Model} {prog : Program} {w : World} {A : Around} {E : Value → Shared → Prop} {s : Shared} {env : Env}
/-- boxes[-1][j] -/
theorem ev_top {e : Expr} {p2 p3 p4 p5 p6 : Pos} {j : Int} {B t c0 c1 : Addr} {bs : List Value} {r : Value} {Q : Value → Shared → Prop}
    (he : ∀ Q' : Value → Shared → Prop, Q' (.ref B) s → wpAny (model prog w) A (eval e env) Q' E s) (hl : Lst s.heap B (bs ++ [.ref t])) (ht : IsTup s.heap t #[.ref c0, .ref c1]) (hj : (j = 0 ∧ r = .ref c0) ∨ (j = 1 ∧ r = .ref c1))
    (h : ∀ tk, Q r { s with toks := tk }) :
    wpAny (model prog w) A (eval (.Subscript (.Subscript e (.UnaryOp .USub (.Constant (.int 1) 0 p2) p3) p4) (.Constant (.int j) 0 p5) p6) env) Q E s := by
  with_reducible refine Subscript_ (Subscript_ (he _ (wpAny_UnaryOp (wpAny_Constant_int (neg_int ?_)))))
  refine lst_last (vs := bs) (y := .ref t) hl ?_ (by with_unfolding_all rfl)
  with_reducible refine wpAny_Constant_int ?_
  rcases hj with ⟨rfl, rfl⟩ | ⟨rfl, rfl⟩
  · exact item_tupleT (l := [.ref c0, .ref c1]) (j := 0) ht (by decide) (by decide) rfl rfl (h _) (by with_unfolding_all rfl)
  · exact item_tupleT (l := [.ref c0, .ref c1]) (j := 1) ht (by decide) (by decide) rfl rfl (h _) (by with_unfolding_all rfl)
end

abbrev tupEnv (L : Addr) : Env := envX "_law_tuple" tupS L 35 (.ref 34) []

section
variable {w : World} {mg mb : Str → Option Value} {A : Around} {E : Value → Shared → Prop} {s : Shared} {L : Addr} {m : Str → Option Value}
theorem tv_boxes {pos : Pos} {v : Value} {Q : Value → Shared → Prop} (N : s.heap.Ns L m) (hv : m "boxes" = some v) (h : Q v s) : wpAny (model prg w) A (eval (.Name "boxes" pos) (tupEnv L)) Q E s := nmL N hv h
theorem tv_wholes {pos : Pos} {v : Value} {Q : Value → Shared → Prop} (N : s.heap.Ns L m) (hv : m "wholes" = some v) (h : Q v s) : wpAny (model prg w) A (eval (.Name "wholes" pos) (tupEnv L)) Q E s := nmL N hv h
theorem tv_things {pos : Pos} {v : Value} {Q : Value → Shared → Prop} (N : s.heap.Ns L m) (hv : m "things" = some v) (h : Q v s) : wpAny (model prg w) A (eval (.Name "things" pos) (tupEnv L)) Q E s := nmL N hv h
theorem tv_names {pos : Pos} {v : Value} {Q : Value → Shared → Prop} (N : s.heap.Ns L m) (hv : m "names" = some v) (h : Q v s) : wpAny (model prg w) A (eval (.Name "names" pos) (tupEnv L)) Q E s := nmL N hv h
theorem tv_tuple {pos : Pos} {Q : Value → Shared → Prop} (G : Gd w mg mb s.heap) (h : Q (.type "tuple") s) : wpAny (model prg w) A (eval (.Name "tuple" pos) (tupEnv L)) Q E s := nmB G ns_tuple bt_tuple (by decide) h
theorem ts_things {v : Value} {Q : Unit → Shared → Prop} (F : s.heap.Ns L m) (h : ∀ h', h'.Ns L (fun y => if y = "things" then some v else m y) → Heap.SameBut L s.heap h' → Q () { s with heap := h', toks := s.toks + 1 }) : wpAny (model prg w) A (storeName (tupEnv L) "things" v) Q E s := stL F h
theorem ts_names {v : Value} {Q : Unit → Shared → Prop} (F : s.heap.Ns L m) (h : ∀ h', h'.Ns L (fun y => if y = "names" then some v else m y) → Heap.SameBut L s.heap h' → Q () { s with heap := h', toks := s.toks + 1 }) : wpAny (model prg w) A (storeName (tupEnv L) "names" v) Q E s := stL F h
/-- tuple(things) -/
theorem tv_tupleOf {p1 p2 p3 : Pos} {a : Addr} {vs : List Value} {Q : Value → Shared → Prop} (G : Gd w mg mb s.heap) (N : s.heap.Ns L m) (hv : m "things" = some (.ref a)) (hl : Lst s.heap a vs) (hz : vs.length ≤ 1000)
    (h : ∀ h' q, (∀ b o, s.heap.get? b = some o → h'.get? b = some o) → IsTup h' q vs.toArray → (∀ b o, s.heap.get? b = some o → b < q) → Q (.ref q) { s with heap := h' }) :
    wpAny (model prg w) A (eval (.Call (.Name "tuple" p1) [.Name "things" p2] [] p3) (tupEnv L)) Q E s := by
  walk_at "m call"
  with_reducible refine tv_tuple G ?_
  walk_at "m t1"
  walk_at "m arg"
  with_reducible refine tv_things N hv ?_
  with_reducible refine args_nil ?_
  refine call_tuple_list hl.isList (fun h' hk => ?_) (szOk (by simp; omega))
  exact h _ _ (fun b o e => Heap.get?_push_of_some _ (hk b o e)) ⟨_, Heap.get?_push_size _ rfl, rfl, _, rfl⟩ fun b o e => Heap.lt_size (hk b o e)

theorem new_tuple {M : Model} {vs : List Value} {Q : Value → Shared → Prop} (hz : vs.length ≤ 1000) (h : ∀ h' p, (∀ b o, s.heap.get? b = some o → h'.get? b = some o) → IsTup h' p vs.toArray → (∀ b o, s.heap.get? b = some o → b < p) → Q (.ref p) { s with heap := h' }) : wpAny M A (newTuple vs) Q E s :=
  wpAny_newObj_type (h _ _ (fun b o e => Heap.get?_push_of_some _ e) ⟨_, Heap.get?_push_size _ rfl, rfl, _, rfl⟩ fun b o e => Heap.lt_size e) (szOk (by simp; omega))
theorem new_list {M : Model} {vs : List Value} {Q : Value → Shared → Prop} (hz : vs.length ≤ 1000) (h : ∀ h' p, (∀ b o, s.heap.get? b = some o → h'.get? b = some o) → Lst h' p vs → (∀ b o, s.heap.get? b = some o → b < p) → Q (.ref p) { s with heap := h' }) : wpAny M A (newList vs) Q E s :=
  wpAny_newObj_type (h _ _ (fun b o e => Heap.get?_push_of_some _ e) ⟨_, IsL.new _ _⟩ fun b o e => Heap.lt_size e) (szOk (by simp; omega))

/-- what `_law_tuple` leaves -/
structure TupEnd (h h' : Heap) (B W t2 a2 b2 b1 : Addr) (bs ws vs1 ys1 vs2 ys2 : List Value) (p q1 q2 : Addr) : Prop where
  lb : Lst h' B (bs ++ [.ref t2])
  lw : Lst h' W (ws ++ [.ref p])
  tp : IsTup h' p #[.ref q1, .ref b1]
  t1 : IsTup h' q1 vs1.toArray
  t2 : IsTup h' q2 vs1.toArray
  la : Lst h' a2 (vs2 ++ [.ref q2])
  ln : Lst h' b2 (ys2 ++ ys1)
  keep : ∀ b o, b ≠ B → b ≠ W → b ≠ a2 → b ≠ b2 → h.get? b = some o → h'.get? b = some o
  fp : ∀ b o, h.get? b = some o → b < p
  f1 : ∀ b o, h.get? b = some o → b < q1
  f2 : ∀ b o, h.get? b = some o → b < q2

theorem tup_body {h₀ : Heap} {B W t1 t2 a1 b1 a2 b2 : Addr} {bs ws vs1 ys1 vs2 ys2 : List Value} {Q : Flow → Shared → Prop} (G : Gd w mg mb h₀) (k0 : ∀ b o, h₀.get? b = some o → s.heap.get? b = some o) (hL : ∀ b o, h₀.get? b = some o → b < L) (hh : A.handled = none)
    (N : s.heap.Ns L m) (mB : m "boxes" = some (.ref B)) (mW : m "wholes" = some (.ref W))
    (lB : Lst h₀ B ((bs ++ [.ref t2]) ++ [.ref t1])) (T1 : IsTup h₀ t1 #[.ref a1, .ref b1]) (T2 : IsTup h₀ t2 #[.ref a2, .ref b2]) (lW : Lst h₀ W ws) (l1 : Lst h₀ a1 vs1) (n1 : Lst h₀ b1 ys1) (l2 : Lst h₀ a2 vs2) (n2 : Lst h₀ b2 ys2)
    (hiB : 40 < B) (hiW : 40 < W) (hi2 : 40 < a2) (hib2 : 40 < b2) (nBW : B ≠ W) (nB1 : B ≠ a1) (nBb1 : B ≠ b1) (nB2 : B ≠ a2) (nBb2 : B ≠ b2) (nW1 : W ≠ a1) (nWb1 : W ≠ b1) (nW2 : W ≠ a2) (nWb2 : W ≠ b2) (n21 : a2 ≠ a1) (n2b1 : a2 ≠ b1) (n2b2 : a2 ≠ b2) (nb21 : b2 ≠ a1) (nb2b1 : b2 ≠ b1)
    (zb : bs.length ≤ 900) (zw : ws.length ≤ 900) (z1 : vs1.length ≤ 900) (z2 : vs2.length ≤ 900) (zn : ys2.length + ys1.length ≤ 900)
    (h : ∀ h' tk p q1 q2, TupEnd h₀ h' B W t2 a2 b2 b1 bs ws vs1 ys1 vs2 ys2 p q1 q2 → Q .next { s with heap := h', toks := tk }) :
    Wp (model prg w) A (execs tupB (tupEnv L)) Q E s := by
  constructor
  rw [show tupB = [_, _, _, _] from rfl]
  walk_at "m cons"
  with_reducible refine Assign_Tuple ?hc ?hs ?hw
  case hs => rfl
  case hw => rfl
  walk_at "m meth"
  with_reducible refine tv_boxes N mB ?_
  with_reducible refine lst_method (lB.at fun o e => k0 _ o e) F.slot_list_pop F.type_list_pop ?_
  with_reducible refine callWith_method0 ?_
  with_reducible refine lst_pop (lB.at fun o e => k0 _ o e) (by simp; omega) ?_
  intro h₁ lB1 sB1
  have hBL : B ≠ L := Nat.ne_of_lt (hL B _ lB.choose_spec)
  have N1 := N.sameBut sB1 hBL.symm
  have k1 : ∀ b o, b ≠ B → h₀.get? b = some o → h₁.get? b = some o := fun b o hb e => (sB1.2 b hb).trans (k0 b o e)
  have nT1B : t1 ≠ B := tup_ne_list T1 lB
  have nT2B : t2 ≠ B := tup_ne_list T2 lB
  have T1' : IsTup h₁ t1 #[.ref a1, .ref b1] := let ⟨o, e, r⟩ := T1; ⟨o, k1 _ _ nT1B e, r⟩
  have T2' : IsTup h₁ t2 #[.ref a2, .ref b2] := let ⟨o, e, r⟩ := T2; ⟨o, k1 _ _ nT2B e, r⟩
  have hsz1 : L < h₁.objs.size := N1.lt
  clear sB1
  with_reducible refine assign_Tuple_tuple hh T1' ?hn ?hst ?_
  case hn => rfl
  case hst => rfl
  intro h₂ x2
  have k2 : ∀ b o, h₁.get? b = some o → h₂.get? b = some o := fun b o e => x2 b o (Nat.ne_of_lt (Heap.lt_size e)) e
  have N2 := N1.keeps k2
  have lB2 := lB1.at fun o e => k2 _ o e
  have T2'' := T2'.keeps k2
  have k2' : ∀ b o, b ≠ B → h₀.get? b = some o → h₂.get? b = some o := fun b o hb e => k2 b o (k1 b o hb e)
  clear x2 k1 N1 lB1 T1' T2'
  show wpAny (model prg w) A (assignInOrder [assign (.Name "things" _) (tupEnv L), assign (.Name "names" _) (tupEnv L)] [.ref a1, .ref b1]) _ _ { s with heap := h₂ }
  with_reducible refine assignInOrder_cons (wpAny_assign_Name (ts_things N2 ?_))
  intro h₃ N3 s3
  with_reducible refine assignInOrder_cons (wpAny_assign_Name (ts_names N3 ?_))
  intro h₄ N4 s4
  with_reducible refine assignInOrder_nil ?_
  have k4 : ∀ b o, b ≠ B → h₀.get? b = some o → h₄.get? b = some o := fun b o hb e => (s4.2 b (Nat.ne_of_lt (hL b o e))).trans ((s3.2 b (Nat.ne_of_lt (hL b o e))).trans (k2' b o hb e))
  have lB4 : Lst h₄ B (bs ++ [.ref t2]) := lB2.at fun o e => (s4.2 B hBL).trans ((s3.2 B hBL).trans e)
  have m1 : (fun y => if y = Str.ofString "names" then some (Value.ref b1) else if y = Str.ofString "things" then some (.ref a1) else m y) "boxes" = some (.ref B) := (if_neg (by decide)).trans ((if_neg (by decide)).trans mB)
  have m2 : (fun y => if y = Str.ofString "names" then some (Value.ref b1) else if y = Str.ofString "things" then some (.ref a1) else m y) "wholes" = some (.ref W) := (if_neg (by decide)).trans ((if_neg (by decide)).trans mW)
  have m3 : (fun y => if y = Str.ofString "names" then some (Value.ref b1) else if y = Str.ofString "things" then some (.ref a1) else m y) "things" = some (.ref a1) := (if_neg (by decide)).trans (if_pos rfl)
  have m4 : (fun y => if y = Str.ofString "names" then some (Value.ref b1) else if y = Str.ofString "things" then some (.ref a1) else m y) "names" = some (.ref b1) := if_pos rfl
  generalize (fun y => if y = Str.ofString "names" then some (Value.ref b1) else if y = Str.ofString "things" then some (.ref a1) else m y) = m' at N4 m1 m2 m3 m4
  clear s3 s4 N3 N2 k2' k2 lB2 T2'' mB mW N
  dsimp only
  have hlowB : ∀ b : Addr, b ≤ 40 → b ≠ B := fun b hb => Nat.ne_of_lt (Nat.lt_of_le_of_lt hb hiB)
  have G4 : Gd w mg mb h₄ := G.low fun b o _ hb e => k4 b o (hlowB b hb) e
  have a1L : a1 < L := hL _ _ l1.choose_spec
  -- wholes.append((tuple(things), names))
  walk_at "m cons"
  walk_at "m expr"
  walk_at "m meth"
  with_reducible refine tv_wholes N4 m2 ?_
  with_reducible refine lst_method (lW.at fun o e => k4 _ o nBW.symm e) F.slot_list_append F.type_list_append ?_
  walk_at "m m1"
  walk_at "m arg"
  with_reducible refine Tuple_ ?_
  walk_at "m arg"
  with_reducible refine tv_tupleOf G4 N4 m3 (l1.at fun o e => k4 _ o nB1.symm e) (by omega) ?_
  intro h₅ q1 k5 Tq1 fq1
  walk_at "m arg"
  with_reducible refine tv_names (N4.keeps k5) m4 ?_
  with_reducible refine args_nil ?_
  with_reducible refine new_tuple (by simp) ?_
  intro h₆ p k6 Tp fp
  with_reducible refine args_nil ?_
  have k46 : ∀ b o, h₄.get? b = some o → h₆.get? b = some o := fun b o e => k6 b o (k5 b o e)
  have lW6 : Lst h₆ W ws := lW.at fun o e => k46 _ o (k4 _ o nBW.symm e)
  refine lst_append (a := W) lW6 (by omega) ?_
  intro h₇ lW7 s7
  have hWL : W ≠ L := Nat.ne_of_lt (hL W _ lW.choose_spec)
  have N7 : h₇.Ns L m' := (N4.keeps k46).sameBut s7 hWL.symm
  have k7 : ∀ b o, b ≠ B → b ≠ W → h₀.get? b = some o → h₇.get? b = some o := fun b o hb hw e => (s7.2 b hw).trans (k46 b o (k4 b o hb e))
  have lB7 : Lst h₇ B (bs ++ [.ref t2]) := lB4.at fun o e => (s7.2 B nBW).trans (k46 _ o e)
  have nTpW : p ≠ W := tup_ne_list Tp lW6
  have nTq1W : q1 ≠ W := tup_ne_list (Tq1.keeps k6) lW6
  have Tp7 : IsTup h₇ p #[.ref q1, .ref b1] := let ⟨o, e, r⟩ := Tp; ⟨o, (s7.2 _ nTpW).trans e, r⟩
  have Tq17 : IsTup h₇ q1 vs1.toArray := let ⟨o, e, r⟩ := Tq1; ⟨o, (s7.2 _ nTq1W).trans (k6 _ _ e), r⟩
  have nT2W : t2 ≠ W := tup_ne_list T2 lW
  have T27 : IsTup h₇ t2 #[.ref a2, .ref b2] := let ⟨o, e, r⟩ := T2; ⟨o, k7 _ _ nT2B nT2W e, r⟩
  have hlowW : ∀ b : Addr, b ≤ 40 → b ≠ W := fun b hb => Nat.ne_of_lt (Nat.lt_of_le_of_lt hb hiW)
  have G7 : Gd w mg mb h₇ := G.low fun b o _ hb e => k7 b o (hlowB b hb) (hlowW b hb) e
  have fq1' : ∀ b o, h₀.get? b = some o → b < q1 := fun b o e => by
    by_cases hb : b = B
    · subst hb; exact fq1 _ _ lB4.choose_spec
    · exact fq1 b o (k4 b o hb e)
  have fp' : ∀ b o, h₀.get? b = some o → b < p := fun b o e => by
    by_cases hb : b = B
    · subst hb; exact fp _ _ (k5 _ _ lB4.choose_spec)
    · exact fp b o (k5 b o (k4 b o hb e))
  clear s7 fq1 fp Tp Tq1 k6 k5 k46 lW6 N4 lB4 G4
  dsimp only
  -- boxes[-1][0].append(tuple(things))
  walk_at "m cons"
  walk_at "m expr"
  walk_at "m meth"
  with_reducible refine ev_top (fun Q' q => tv_boxes N7 m1 q) lB7 T27 (.inl ⟨rfl, rfl⟩) ?_
  intro tk1
  have l27 : Lst h₇ a2 vs2 := l2.at fun o e => k7 _ o nB2.symm nW2.symm e
  with_reducible refine lst_method l27 F.slot_list_append F.type_list_append ?_
  walk_at "m m1"
  walk_at "m arg"
  with_reducible refine tv_tupleOf G7 N7 m3 (l1.at fun o e => k7 _ o nB1.symm nW1.symm e) (by omega) ?_
  intro h₈ q2 k8 Tq2 fq2
  with_reducible refine args_nil ?_
  have l28 : Lst h₈ a2 vs2 := l27.at fun o e => k8 _ o e
  refine lst_append (a := a2) l28 (by omega) ?_
  intro h₉ l29 s9
  have ha2L : a2 ≠ L := Nat.ne_of_lt (hL a2 _ l2.choose_spec)
  have N9 : h₉.Ns L m' := (N7.keeps k8).sameBut s9 ha2L.symm
  have k9 : ∀ b o, b ≠ B → b ≠ W → b ≠ a2 → h₀.get? b = some o → h₉.get? b = some o := fun b o hb hw h2 e => (s9.2 b h2).trans (k8 b o (k7 b o hb hw e))
  have up9 : ∀ b o, b ≠ a2 → h₇.get? b = some o → h₉.get? b = some o := fun b o h2 e => (s9.2 b h2).trans (k8 b o e)
  have lB9 : Lst h₉ B (bs ++ [.ref t2]) := lB7.at fun o e => up9 _ o nB2 e
  have lW9 : Lst h₉ W (ws ++ [.ref p]) := lW7.at fun o e => up9 _ o nW2 e
  have Tp9 : IsTup h₉ p #[.ref q1, .ref b1] := let ⟨o, e, r⟩ := Tp7; ⟨o, up9 _ _ (tup_ne_list Tp7 l27) e, r⟩
  have Tq19 : IsTup h₉ q1 vs1.toArray := let ⟨o, e, r⟩ := Tq17; ⟨o, up9 _ _ (tup_ne_list Tq17 l27) e, r⟩
  have Tq29 : IsTup h₉ q2 vs1.toArray := let ⟨o, e, r⟩ := Tq2; ⟨o, (s9.2 _ (tup_ne_list Tq2 l28)).trans e, r⟩
  have T29 : IsTup h₉ t2 #[.ref a2, .ref b2] := let ⟨o, e, r⟩ := T27; ⟨o, up9 _ _ (tup_ne_list T27 l27) e, r⟩
  have fq2' : ∀ b o, h₀.get? b = some o → b < q2 := fun b o e => by
    by_cases hb : b = B
    · subst hb; exact fq2 _ _ lB7.choose_spec
    · by_cases hw : b = W
      · subst hw; exact fq2 _ _ lW7.choose_spec
      · exact fq2 b o (k7 b o hb hw e)
  clear s9 fq2 Tq2 k8 l27 l28 N7 lB7 lW7 Tp7 Tq17 T27 G7 up9
  dsimp only
  -- boxes[-1][1].extend(names)
  walk_at "m cons"
  walk_at "m expr"
  walk_at "m meth"
  with_reducible refine ev_top (fun Q' q => tv_boxes N9 m1 q) lB9 T29 (.inr ⟨rfl, rfl⟩) ?_
  intro tk2
  have n29 : Lst h₉ b2 ys2 := n2.at fun o e => k9 _ o nBb2.symm nWb2.symm n2b2.symm e
  have n19 : Lst h₉ b1 ys1 := n1.at fun o e => k9 _ o nBb1.symm nWb1.symm n2b1.symm e
  with_reducible refine lst_method n29 F.slot_list_extend F.type_list_extend ?_
  walk_at "m m1"
  walk_at "m arg"
  with_reducible refine tv_names N9 m4 ?_
  with_reducible refine args_nil ?_
  refine lst_extend (a := b2) n29 n19 (by omega) ?_
  intro h₁₀ l10 s10
  with_reducible refine wpAny_execs_nil ?_
  refine h _ _ p q1 q2 ⟨lB9.at fun o e => (s10.2 _ nBb2).trans e, lW9.at fun o e => (s10.2 _ nWb2).trans e, ?_, ?_, ?_, l29.at fun o e => (s10.2 _ n2b2).trans e, l10, fun b o hb hw h2 hb2 e => (s10.2 b hb2).trans (k9 b o hb hw h2 e), fp', fq1', fq2'⟩
  · exact let ⟨o, e, r⟩ := Tp9; ⟨o, (s10.2 _ (tup_ne_list Tp9 n29)).trans e, r⟩
  · exact let ⟨o, e, r⟩ := Tq19; ⟨o, (s10.2 _ (tup_ne_list Tq19 n29)).trans e, r⟩
  · exact let ⟨o, e, r⟩ := Tq29; ⟨o, (s10.2 _ (tup_ne_list Tq29 n29)).trans e, r⟩

/-- `_law_tuple` -/
theorem tup_spec {B W t1 t2 a1 b1 a2 b2 : Addr} {bs ws vs1 ys1 vs2 ys2 : List Value} {Q : Value → Shared → Prop} (G : Gd w mg mb s.heap) (hroom : A.depth < recursionLimit) (hh : A.handled = none)
    (lB : Lst s.heap B ((bs ++ [.ref t2]) ++ [.ref t1])) (T1 : IsTup s.heap t1 #[.ref a1, .ref b1]) (T2 : IsTup s.heap t2 #[.ref a2, .ref b2]) (lW : Lst s.heap W ws) (l1 : Lst s.heap a1 vs1) (n1 : Lst s.heap b1 ys1) (l2 : Lst s.heap a2 vs2) (n2 : Lst s.heap b2 ys2)
    (hiB : 40 < B) (hiW : 40 < W) (hi2 : 40 < a2) (hib2 : 40 < b2) (nBW : B ≠ W) (nB1 : B ≠ a1) (nBb1 : B ≠ b1) (nB2 : B ≠ a2) (nBb2 : B ≠ b2) (nW1 : W ≠ a1) (nWb1 : W ≠ b1) (nW2 : W ≠ a2) (nWb2 : W ≠ b2) (n21 : a2 ≠ a1) (n2b1 : a2 ≠ b1) (n2b2 : a2 ≠ b2) (nb21 : b2 ≠ a1) (nb2b1 : b2 ≠ b1)
    (zb : bs.length ≤ 900) (zw : ws.length ≤ 900) (z1 : vs1.length ≤ 900) (z2 : vs2.length ≤ 900) (zn : ys2.length + ys1.length ≤ 900)
    (h : ∀ h' tk p q1 q2, TupEnd s.heap h' B W t2 a2 b2 b1 bs ws vs1 ys1 vs2 ys2 p q1 q2 → Q .none { s with heap := h', toks := tk }) :
    wpAny (model prg w) A (call (.ref 35) [.ref B, .ref W]) Q E s := by
  refine wpAny_call (enterPlain (binds := [("boxes", .ref B), ("wholes", .ref W)]) (body := tupB) (scope := tupS) (params := tupA) G rfl rfl hroom rfl (locs rfl) ?_ (by decide))
  intro h₁ N₁ K₁
  have e1 : (fun y => ([((Str.ofString "boxes"), Value.ref B), (Str.ofString "wholes", .ref W)] : List (Str × Value)).reverse.lookup y) "boxes" = some (.ref B) := (lkNext (by decide)).trans lkHere
  have e2 : (fun y => ([((Str.ofString "boxes"), Value.ref B), (Str.ofString "wholes", .ref W)] : List (Str × Value)).reverse.lookup y) "wholes" = some (.ref W) := lkHere
  have hh' : (A.deeper (envX (Str.ofString "_law_tuple") tupS s.heap.objs.size 35 (Value.ref 34) [])).handled = none := hh
  with_reducible refine Wp.out (tup_body G K₁ (fun b o e => Heap.lt_size e) hh' N₁ e1 e2 lB T1 T2 lW l1 n1 l2 n2 hiB hiW hi2 hib2 nBW nB1 nBb1 nB2 nBb2 nW1 nWb1 nW2 nWb2 n21 n2b1 n2b2 nb21 nb2b1 zb zw z1 z2 zn ?_)
  intro h' tk p q1 q2 x
  exact h h' tk p q1 q2 x
end

def IsName (y : Value) (n : Str) : Prop := ∃ t, y = .str n t

/-- an open tuple of the law's: the pair, its list of things, its list of names -/
structure Box where
  t : Addr
  a : Addr
  b : Addr
  vs : List Value
  ys : List Value
  nss : List (List Str)

structure BoxIn (L : Nat) (k : Nat) (h : Heap) (x : Box) : Prop where
  ht : L < x.t
  tt : IsTup h x.t #[.ref x.a, .ref x.b]
  la : Lst h x.a x.vs
  lb : Lst h x.b x.ys
  th : F2 (ThingIn L k h) x.vs x.nss
  nm : F2 IsName x.ys x.nss.flatten

/-- a whole that is asked of at the end -/
def WholeIn (L : Nat) (k : Nat) (h : Heap) (mu : List Addr) (v : Value) : Prop :=
  ∃ p x c ys ns, v = .ref p ∧ L < p ∧ L < c ∧ c ∉ mu ∧ IsTup h p #[x, .ref c] ∧ ThingIn L k h x ns ∧ Lst h c ys ∧ F2 IsName ys ns ∧ ys.length ≤ 1000

def muts (B W : Addr) (bxs : List Box) : List Addr := B :: W :: bxs.flatMap fun x => [x.a, x.b]

/-- the addresses that may turn: the frame, and lists -/
def ChgOk (L : Addr) (h : Heap) (chg : List Addr) : Prop := ∀ c ∈ chg, c = L ∨ ∃ us, Lst h c us
theorem ChgOk.not {L : Addr} {h : Heap} {chg : List Addr} (hc : ChgOk L h chg) {b : Addr} {o : Obj} (hb : @LT.lt Nat _ L b) (hl : o.cls ≠ .type "list") (e : h.get? b = some o) : b ∉ chg := by
  intro hm
  rcases hc b hm with rfl | ⟨us, n, e'⟩
  · exact Nat.lt_irrefl _ hb
  · rw [e'] at e
    injection e with e
    subst e
    exact hl rfl
section
variable {L : Addr} {k : Nat} {h h' : Heap} {chg : List Addr}
theorem lt3 {z : Nat} (h : @LT.lt Nat _ (L + 3) z) : @LT.lt Nat _ L z := Nat.lt_of_le_of_lt (Nat.le_add_right _ _) h
theorem thing_keep (K : ∀ b o, b ∉ chg → h.get? b = some o → h'.get? b = some o) (hc : ChgOk L h chg) {v : Value} {ns : List Str} (x : ThingIn (L + 3) k h v ns) : ThingIn (L + 3) k h' v ns :=
  x.ext fun b o hb hl e => K b o (hc.not (lt3 hb) hl e) e
theorem tup_keep (K : ∀ b o, b ∉ chg → h.get? b = some o → h'.get? b = some o) (hc : ChgOk L h chg) {p : Addr} (hp : @LT.lt Nat _ (L + 3) p) {its : Array Value} (x : IsTup h p its) : IsTup h' p its := by
  obtain ⟨o, e, c, r⟩ := x
  exact ⟨o, K p o (hc.not (lt3 hp) (by rw [c]; decide) e) e, c, r⟩
theorem BoxIn.keep {x : Box} (X : BoxIn (L + 3) k h x) (K : ∀ b o, b ∉ chg → h.get? b = some o → h'.get? b = some o) (hc : ChgOk L h chg) (ha : x.a ∉ chg) (hb : x.b ∉ chg) : BoxIn (L + 3) k h' x :=
  ⟨X.ht, tup_keep K hc X.ht X.tt, X.la.at fun o e => K _ o ha e, X.lb.at fun o e => K _ o hb e, f2_mono (fun _ _ t => thing_keep K hc t) X.th, X.nm⟩
theorem BoxIn.up {x : Box} (X : BoxIn (L + 3) k h x) : BoxIn (L + 3) (k + 1) h x := ⟨X.ht, X.tt, X.la, X.lb, f2_mono (fun _ _ t => t.up) X.th, X.nm⟩
theorem WholeIn.keep {mu mu' : List Addr} {v : Value} (X : WholeIn (L + 3) k h mu v) (K : ∀ b o, b ∉ chg → h.get? b = some o → h'.get? b = some o) (hc : ChgOk L h chg) (hs : ∀ c, c ∉ mu → @LT.lt Nat _ L c → (∃ us, Lst h c us) → c ∉ chg ∧ c ∉ mu') : WholeIn (L + 3) k h' mu' v := by
  obtain ⟨p, x, c, ys, ns, e, hp, hcL, hcm, tp, th, lc, nm⟩ := X
  have := hs c hcm (lt3 hcL) ⟨ys, lc⟩
  exact ⟨p, x, c, ys, ns, e, hp, hcL, this.2, tup_keep K hc hp tp, thing_keep K hc th, lc.at fun o e => K _ o this.1 e, nm⟩
theorem WholeIn.up {mu : List Addr} {v : Value} (X : WholeIn (L + 3) k h mu v) : WholeIn (L + 3) (k + 1) h mu v := by
  obtain ⟨p, x, c, ys, ns, e, hp, hcL, hcm, tp, th, lc, nm⟩ := X
  exact ⟨p, x, c, ys, ns, e, hp, hcL, hcm, tp, th.up, lc, nm⟩
end

theorem F2.snoc {α β : Type} {R : α → β → Prop} {l : List α} {l' : List β} (x : F2 R l l') {a : α} {b : β} (r : R a b) : F2 R (l ++ [a]) (l' ++ [b]) := by
  induction x with
  | nil => exact .cons r .nil
  | cons r' _ ih => exact .cons r' ih
theorem F2.append {α β : Type} {R : α → β → Prop} {l m : List α} {l' m' : List β} (x : F2 R l l') (y : F2 R m m') : F2 R (l ++ m) (l' ++ m') := by
  induction x with
  | nil => exact y
  | cons r' _ ih => exact .cons r' ih

/-- the law's ten names -/
def nm10 : List Str := ["ValueError", "KeyError", "LookupError", "Exception", "BaseException", "KeyboardInterrupt", "int", "text", "none", "error"]

structure LInv (w : World) (mg mb : Str → Option Value) (L B W Kd Sp : Addr) (kv sv : List Value) (k : Nat) (h : Heap) (bxs : List Box) (ws : List Value) : Prop where
  G : Gd w mg mb h
  tab : TabOk h
  ck : h.IsCell (L + 1) (some (.ref Kd))
  cs : h.IsCell (L + 2) (some (.ref Sp))
  ct : ∃ v, h.IsCell (L + 3) v
  lk : Lst h Kd kv
  ls : Lst h Sp sv
  kvs : F2 (Leaf (L + 3) h) kv nm10
  svs : F2 IsName sv nm10
  hKd : @LT.lt Nat _ L Kd
  hSp : @LT.lt Nat _ L Sp
  lb : Lst h B (bxs.map fun x => .ref x.t)
  bx : ∀ x ∈ bxs, BoxIn (L + 3) k h x
  lw : Lst h W ws
  wh : ∀ v ∈ ws, WholeIn (L + 3) k h (muts B W bxs) v
  nd : (muts B W bxs).Nodup
  fk : Kd ∉ muts B W bxs
  fs : Sp ∉ muts B W bxs
  hi : ∀ a ∈ muts B W bxs, @LT.lt Nat _ (L + 3) a

section
variable {w : World} {mg mb : Str → Option Value} {L B W Kd Sp : Addr} {kv sv : List Value} {k : Nat} {h h' : Heap} {bxs : List Box} {ws : List Value}

theorem mut_lst (I : LInv w mg mb L B W Kd Sp kv sv k h bxs ws) : ∀ c ∈ muts B W bxs, ∃ us, Lst h c us := by
  intro c hc
  rcases List.mem_cons.mp hc with rfl | hc
  · exact ⟨_, I.lb⟩
  rcases List.mem_cons.mp hc with rfl | hc
  · exact ⟨_, I.lw⟩
  obtain ⟨x, hx, hc⟩ := List.mem_flatMap.mp hc
  rcases List.mem_cons.mp hc with rfl | hc
  · exact ⟨_, (I.bx x hx).la⟩
  · rw [List.mem_singleton.mp hc]; exact ⟨_, (I.bx x hx).lb⟩

theorem leaf_keep {chg : List Addr} (K : ∀ b o, b ∉ chg → h.get? b = some o → h'.get? b = some o) (hc : ChgOk L h chg) {v : Value} {n : Str} (x : Leaf (L + 3) h v n) : Leaf (L + 3) h' v n :=
  x.ext fun b o hb hl e => K b o (hc.not (lt3 hb) hl e) e

/-- the part that no turn turns -/
theorem LInv.base {chg : List Addr} (I : LInv w mg mb L B W Kd Sp kv sv k h bxs ws) (hL : @LT.lt Nat _ 40 L) (hsub : ∀ c ∈ chg, c = L ∨ c ∈ muts B W bxs) (K : ∀ b o, b ∉ chg → h.get? b = some o → h'.get? b = some o) :
    Gd w mg mb h' ∧ TabOk h' ∧ h'.IsCell (L + 1) (some (.ref Kd)) ∧ h'.IsCell (L + 2) (some (.ref Sp)) ∧ (∃ v, h'.IsCell (L + 3) v) ∧ Lst h' Kd kv ∧ Lst h' Sp sv ∧ F2 (Leaf (L + 3) h') kv nm10 ∧ ChgOk L h chg := by
  have lo : ∀ b : Addr, b ≤ L + 3 → b ≠ L → b ∉ chg := fun b hb hn hm => (hsub b hm).elim hn fun hm => absurd (I.hi b hm) (Nat.not_lt.mpr hb)
  have l40 : ∀ b : Addr, b ≤ 40 → b ∉ chg := fun b hb => lo b (Nat.le_trans hb (Nat.le_of_lt (Nat.lt_of_lt_of_le hL (Nat.le_add_right _ _)))) (Nat.ne_of_lt (Nat.lt_of_le_of_lt hb hL))
  have hc : ChgOk L h chg := fun c hm => (hsub c hm).imp id fun hm => mut_lst I c hm
  have n1 : L + 1 ∉ chg := lo _ (Nat.add_le_add_left (by decide) _) (Nat.succ_ne_self _)
  have n2 : L + 2 ∉ chg := lo _ (Nat.add_le_add_left (by decide) _) (Nat.ne_of_gt (Nat.lt_add_of_pos_right (by decide)))
  have n3 : L + 3 ∉ chg := lo _ (Nat.le_refl _) (Nat.ne_of_gt (Nat.lt_add_of_pos_right (by decide)))
  have nk : Kd ∉ chg := fun hm => (hsub _ hm).elim (fun e => Nat.ne_of_gt I.hKd e) I.fk
  have ns : Sp ∉ chg := fun hm => (hsub _ hm).elim (fun e => Nat.ne_of_gt I.hSp e) I.fs
  refine ⟨I.G.low fun b o _ hb e => K b o (l40 b hb) e, I.tab.at fun o e => K _ o (l40 _ (by decide)) e, ?_, ?_, ?_, I.lk.at fun o e => K _ o nk e, I.ls.at fun o e => K _ o ns e, f2_mono (fun _ _ x => leaf_keep K hc x) I.kvs, hc⟩
  · exact let ⟨o, e, r⟩ := I.ck; ⟨o, K _ o n1 e, r⟩
  · exact let ⟨o, e, r⟩ := I.cs; ⟨o, K _ o n2 e, r⟩
  · exact let ⟨v, o, e, r⟩ := I.ct; ⟨v, o, K _ o n3 e, r⟩

/-- only the frame turns, and new objects come -/
theorem LInv.still (I : LInv w mg mb L B W Kd Sp kv sv k h bxs ws) (hL : @LT.lt Nat _ 40 L) (K : ∀ b o, b ≠ L → h.get? b = some o → h'.get? b = some o) : LInv w mg mb L B W Kd Sp kv sv k h' bxs ws := by
  have K' : ∀ b o, b ∉ [L] → h.get? b = some o → h'.get? b = some o := fun b o hb e => K b o (by simpa using hb) e
  obtain ⟨g1, g2, g3, g4, g5, g6, g7, g8, hc⟩ := I.base (chg := [L]) hL (fun c hm => .inl (List.mem_singleton.mp hm)) K'
  have mL : ∀ a ∈ muts B W bxs, a ∉ [L] := fun a ha hm => by
    have := I.hi a ha
    rw [List.mem_singleton.mp hm] at this
    exact absurd this (Nat.not_lt.mpr (Nat.le_add_right _ _))
  have hB : B ∈ muts B W bxs := .head _
  have hW : W ∈ muts B W bxs := .tail _ (.head _)
  refine ⟨g1, g2, g3, g4, g5, g6, g7, g8, I.svs, I.hKd, I.hSp, I.lb.at fun o e => K' _ o (mL _ hB) e, fun x hx => (I.bx x hx).keep K' hc (mL _ ?_) (mL _ ?_), I.lw.at fun o e => K' _ o (mL _ hW) e, fun v hv => (I.wh v hv).keep K' hc fun c hcm hcL _ => ⟨fun hm => Nat.ne_of_gt hcL (List.mem_singleton.mp hm), hcm⟩, I.nd, I.fk, I.fs, I.hi⟩
  · exact .tail _ (.tail _ (List.mem_flatMap.mpr ⟨x, hx, .head _⟩))
  · exact .tail _ (.tail _ (List.mem_flatMap.mpr ⟨x, hx, .tail _ (.head _)⟩))
end

section
variable {w : World} {mg mb : Str → Option Value} {L B W Kd Sp : Addr} {kv sv : List Value} {k : Nat} {h h' : Heap} {bxs pre : List Box} {ws : List Value} {x y : Box}

theorem thing_leaf {lo : Nat} {v : Value} {n : Str} (l : Leaf lo h v n) : ThingIn lo k h v [n] := by
  cases k with
  | zero => exact ⟨n, rfl, l⟩
  | succ k => exact .inl ⟨n, rfl, l⟩

theorem LInv.up (I : LInv w mg mb L B W Kd Sp kv sv k h bxs ws) : LInv w mg mb L B W Kd Sp kv sv (k + 1) h bxs ws :=
  { I with bx := fun x hx => (I.bx x hx).up, wh := fun v hv => (I.wh v hv).up }

def ads (bxs : List Box) : List Addr := bxs.flatMap fun x => [x.a, x.b]
theorem ads_append (p q : List Box) : ads (p ++ q) = ads p ++ ads q := by simp [ads]
theorem muts_def : muts B W bxs = B :: W :: ads bxs := rfl
theorem ads_mem {z : Box} (hz : z ∈ bxs) : z.a ∈ ads bxs ∧ z.b ∈ ads bxs := ⟨List.mem_flatMap.mpr ⟨z, hz, .head _⟩, List.mem_flatMap.mpr ⟨z, hz, .tail _ (.head _)⟩⟩

theorem LInv.put {v yv : Value} {n : Str} (I : LInv w mg mb L B W Kd Sp kv sv k h (pre ++ [x]) ws) (hL : @LT.lt Nat _ 40 L) (K : ∀ b o, b ≠ L → b ≠ x.a → b ≠ x.b → h.get? b = some o → h'.get? b = some o)
    (la : Lst h' x.a (x.vs ++ [v])) (lb : Lst h' x.b (x.ys ++ [yv])) (hl : Leaf (L + 3) h v n) (hy : IsName yv n) :
    LInv w mg mb L B W Kd Sp kv sv k h' (pre ++ [{ x with vs := x.vs ++ [v], ys := x.ys ++ [yv], nss := x.nss ++ [[n]] }]) ws := by
  have hm : muts B W (pre ++ [{ x with vs := x.vs ++ [v], ys := x.ys ++ [yv], nss := x.nss ++ [[n]] }]) = muts B W (pre ++ [x]) := by
    rw [muts_def, muts_def, ads_append, ads_append]; rfl
  have hx : x ∈ pre ++ [x] := List.mem_append.mpr (.inr (.head _))
  have ma : x.a ∈ muts B W (pre ++ [x]) := .tail _ (.tail _ (ads_mem hx).1)
  have mb' : x.b ∈ muts B W (pre ++ [x]) := .tail _ (.tail _ (ads_mem hx).2)
  have K' : ∀ b o, b ∉ [L, x.a, x.b] → h.get? b = some o → h'.get? b = some o := fun b o hb e => by
    simp only [List.mem_cons, List.not_mem_nil, or_false, not_or] at hb
    exact K b o hb.1 hb.2.1 hb.2.2 e
  obtain ⟨g1, g2, g3, g4, g5, g6, g7, g8, hc⟩ := I.base (chg := [L, x.a, x.b]) hL (fun c hm => by
    simp only [List.mem_cons, List.not_mem_nil, or_false] at hm
    rcases hm with rfl | rfl | rfl
    · exact .inl rfl
    · exact .inr ma
    · exact .inr mb') K'
  have nd := I.nd
  rw [muts_def, ads_append, List.nodup_cons, List.nodup_cons, List.nodup_append] at nd
  obtain ⟨nB, nW, nP, nX, nPX⟩ := nd
  have hxa : x.a ∈ ads [x] := .head _
  have hxb : x.b ∈ ads [x] := .tail _ (.head _)
  have aL : ∀ a ∈ muts B W (pre ++ [x]), a ≠ L := fun a ha e => by
    have := I.hi a ha
    rw [e] at this
    exact absurd this (Nat.not_lt.mpr (Nat.le_add_right _ _))
  have out : ∀ a, a ∈ muts B W (pre ++ [x]) → a ≠ x.a → a ≠ x.b → a ∉ [L, x.a, x.b] := fun a ha h1 h2 hm => by
    simp only [List.mem_cons, List.not_mem_nil, or_false] at hm
    rcases hm with e | e | e
    · exact aL a ha e
    · exact h1 e
    · exact h2 e
  have hBm : B ∈ muts B W (pre ++ [x]) := .head _
  have hWm : W ∈ muts B W (pre ++ [x]) := .tail _ (.head _)
  have hBn : ∀ a ∈ ads (pre ++ [x]), B ≠ a := fun a ha e => nB (.tail _ (e ▸ (ads_append pre [x] ▸ ha)))
  have hWn : ∀ a ∈ ads (pre ++ [x]), W ≠ a := fun a ha e => nW (e ▸ (ads_append pre [x] ▸ ha))
  have X := I.bx x hx
  refine ⟨g1, g2, g3, g4, g5, g6, g7, g8, I.svs, I.hKd, I.hSp, ?_, ?_, I.lw.at fun o e => K' _ o (out W hWm (hWn _ (ads_mem hx).1) (hWn _ (ads_mem hx).2)) e, ?_, by rw [hm]; exact I.nd, by rw [hm]; exact I.fk, by rw [hm]; exact I.fs, by rw [hm]; exact I.hi⟩
  · have := I.lb.at fun o e => K' _ o (out B hBm (hBn _ (ads_mem hx).1) (hBn _ (ads_mem hx).2)) e
    simpa using this
  · intro z hz
    rcases List.mem_append.mp hz with hz | hz
    · have hz' : z ∈ pre ++ [x] := List.mem_append.mpr (.inl hz)
      have za := (ads_mem hz).1
      have zb := (ads_mem hz).2
      refine (I.bx z hz').keep K' hc (out _ (.tail _ (.tail _ (ads_mem hz').1)) (nPX _ za _ hxa) (nPX _ za _ hxb)) (out _ (.tail _ (.tail _ (ads_mem hz').2)) (nPX _ zb _ hxa) (nPX _ zb _ hxb))
    · rw [List.mem_singleton.mp hz]
      refine ⟨X.ht, tup_keep K' hc X.ht X.tt, la, lb, ?_, ?_⟩
      · exact (f2_mono (fun _ _ t => thing_keep K' hc t) X.th).snoc (thing_leaf (leaf_keep K' hc hl))
      · simp only [List.flatten_append, List.flatten_cons, List.flatten_nil, List.append_nil]
        exact X.nm.snoc hy
  · intro v' hv
    rw [hm]
    refine (I.wh v' hv).keep K' hc fun c hcm hcL _ => ⟨fun hm' => ?_, hcm⟩
    simp only [List.mem_cons, List.not_mem_nil, or_false] at hm'
    rcases hm' with e | e | e
    · exact Nat.ne_of_gt hcL e
    · exact hcm (e ▸ ma)
    · exact hcm (e ▸ mb')

theorem LInv.opens {t a b : Addr} (I : LInv w mg mb L B W Kd Sp kv sv k h bxs ws) (hL : @LT.lt Nat _ 40 L) (K : ∀ b o, b ≠ L → b ≠ B → h.get? b = some o → h'.get? b = some o)
    (lb : Lst h' B ((bxs.map fun x => .ref x.t) ++ [.ref t])) (tt : IsTup h' t #[.ref a, .ref b]) (la : Lst h' a []) (lbb : Lst h' b []) (ft : ∀ c o, h.get? c = some o → c < t) (fa : ∀ c o, h.get? c = some o → c < a) (fb : ∀ c o, h.get? c = some o → c < b) (hab : a ≠ b) :
    LInv w mg mb L B W Kd Sp kv sv k h' (bxs ++ [⟨t, a, b, [], [], []⟩]) ws := by
  have hm : muts B W (bxs ++ [⟨t, a, b, [], [], []⟩]) = muts B W bxs ++ [a, b] := by
    rw [muts_def, muts_def, ads_append]; rfl
  have hBm : B ∈ muts B W bxs := .head _
  have hWm : W ∈ muts B W bxs := .tail _ (.head _)
  have K' : ∀ b o, b ∉ [L, B] → h.get? b = some o → h'.get? b = some o := fun b o hb e => by
    simp only [List.mem_cons, List.not_mem_nil, or_false, not_or] at hb
    exact K b o hb.1 hb.2 e
  obtain ⟨g1, g2, g3, g4, g5, g6, g7, g8, hc⟩ := I.base (chg := [L, B]) hL (fun c hm => by
    simp only [List.mem_cons, List.not_mem_nil, or_false] at hm
    rcases hm with rfl | rfl
    · exact .inl rfl
    · exact .inr hBm) K'
  have live : ∀ c ∈ muts B W bxs, c < a ∧ c < b := fun c hc => by
    obtain ⟨us, n, e⟩ := mut_lst I c hc
    exact ⟨fa c _ e, fb c _ e⟩
  have l3 : @LT.lt Nat _ (L + 3) a ∧ @LT.lt Nat _ (L + 3) b ∧ @LT.lt Nat _ (L + 3) t := by
    obtain ⟨v, o, e, _⟩ := I.ct
    exact ⟨fa _ _ e, fb _ _ e, ft _ _ e⟩
  have nd := I.nd
  rw [muts_def, List.nodup_cons, List.nodup_cons] at nd
  obtain ⟨nB, nW, nP⟩ := nd
  have aL : ∀ a ∈ muts B W bxs, a ≠ L := fun a ha e => by
    have := I.hi a ha
    rw [e] at this
    exact absurd this (Nat.not_lt.mpr (Nat.le_add_right _ _))
  have out : ∀ a, a ∈ muts B W bxs → a ≠ B → a ∉ [L, B] := fun a ha h1 hm => by
    simp only [List.mem_cons, List.not_mem_nil, or_false] at hm
    exact hm.elim (aL a ha) h1
  have new : ∀ c, (∃ us, Lst h c us) → c ∉ muts B W bxs → c ∉ muts B W bxs ++ [a, b] := fun c ⟨us, n, e⟩ hn hm => by
    rcases List.mem_append.mp hm with hm | hm
    · exact hn hm
    · simp only [List.mem_cons, List.not_mem_nil, or_false] at hm
      rcases hm with rfl | rfl
      · exact Nat.lt_irrefl _ (fa _ _ e)
      · exact Nat.lt_irrefl _ (fb _ _ e)
  have hWB : W ≠ B := fun e => nB (e ▸ .head _)
  refine ⟨g1, g2, g3, g4, g5, g6, g7, g8, I.svs, I.hKd, I.hSp, by simpa using lb, ?_, I.lw.at fun o e => K' _ o (out W hWm hWB) e, ?_, ?_, ?_, ?_, ?_⟩
  · intro z hz
    rcases List.mem_append.mp hz with hz | hz
    · have za := (ads_mem hz).1
      have zb := (ads_mem hz).2
      exact (I.bx z hz).keep K' hc (out _ (.tail _ (.tail _ za)) fun e => nB (e ▸ .tail _ za)) (out _ (.tail _ (.tail _ zb)) fun e => nB (e ▸ .tail _ zb))
    · rw [List.mem_singleton.mp hz]
      exact ⟨l3.2.2, tt, la, lbb, .nil, .nil⟩
  · intro v' hv
    rw [hm]
    refine (I.wh v' hv).keep K' hc fun c hcm hcL hus => ⟨fun hm' => ?_, new c hus hcm⟩
    simp only [List.mem_cons, List.not_mem_nil, or_false] at hm'
    rcases hm' with e | e
    · exact Nat.ne_of_gt hcL e
    · exact hcm (e ▸ hBm)
  · rw [hm, List.nodup_append]
    refine ⟨I.nd, by simp [hab], fun c hc d hd => ?_⟩
    simp only [List.mem_cons, List.not_mem_nil, or_false] at hd
    rcases hd with rfl | rfl
    · exact Nat.ne_of_lt (live c hc).1
    · exact Nat.ne_of_lt (live c hc).2
  · rw [hm]; exact new _ ⟨_, I.lk⟩ I.fk
  · rw [hm]; exact new _ ⟨_, I.ls⟩ I.fs
  · rw [hm]
    intro c hc
    rcases List.mem_append.mp hc with hc | hc
    · exact I.hi c hc
    · simp only [List.mem_cons, List.not_mem_nil, or_false] at hc
      rcases hc with rfl | rfl
      · exact l3.1
      · exact l3.2.1

theorem LInv.closes {p q1 q2 : Addr} (I : LInv w mg mb L B W Kd Sp kv sv k h (pre ++ [y] ++ [x]) ws) (hL : @LT.lt Nat _ 40 L) (T : TupEnd h h' B W y.t y.a y.b x.b (pre.map fun x => .ref x.t) ws x.vs x.ys y.vs y.ys p q1 q2) (hxz : x.ys.length ≤ 1000) :
    LInv w mg mb L B W Kd Sp kv sv (k + 1) h' (pre ++ [{ y with vs := y.vs ++ [.ref q2], ys := y.ys ++ x.ys, nss := y.nss ++ [x.nss.flatten] }]) (ws ++ [.ref p]) := by
  have hm : muts B W (pre ++ [{ y with vs := y.vs ++ [.ref q2], ys := y.ys ++ x.ys, nss := y.nss ++ [x.nss.flatten] }]) = muts B W (pre ++ [y]) := by
    rw [muts_def, muts_def, ads_append, ads_append]; rfl
  have hm2 : muts B W (pre ++ [y] ++ [x]) = muts B W (pre ++ [y]) ++ [x.a, x.b] := by
    rw [muts_def, muts_def, ads_append]; rfl
  have hsub : ∀ c, c ∈ muts B W (pre ++ [y]) → c ∈ muts B W (pre ++ [y] ++ [x]) := fun c hc => hm2 ▸ List.mem_append.mpr (.inl hc)
  have hy : y ∈ pre ++ [y] := List.mem_append.mpr (.inr (.head _))
  have hy' : y ∈ pre ++ [y] ++ [x] := List.mem_append.mpr (.inl hy)
  have hx : x ∈ pre ++ [y] ++ [x] := List.mem_append.mpr (.inr (.head _))
  have ma : y.a ∈ muts B W (pre ++ [y]) := .tail _ (.tail _ (ads_mem hy).1)
  have mb' : y.b ∈ muts B W (pre ++ [y]) := .tail _ (.tail _ (ads_mem hy).2)
  have hBm : B ∈ muts B W (pre ++ [y]) := .head _
  have hWm : W ∈ muts B W (pre ++ [y]) := .tail _ (.head _)
  have K' : ∀ b o, b ∉ [B, W, y.a, y.b] → h.get? b = some o → h'.get? b = some o := fun b o hb e => by
    simp only [List.mem_cons, List.not_mem_nil, or_false, not_or] at hb
    exact T.keep b o hb.1 hb.2.1 hb.2.2.1 hb.2.2.2 e
  obtain ⟨g1, g2, g3, g4, g5, g6, g7, g8, hc⟩ := I.base (chg := [B, W, y.a, y.b]) hL (fun c hm => by
    simp only [List.mem_cons, List.not_mem_nil, or_false] at hm
    rcases hm with rfl | rfl | rfl | rfl
    · exact .inr (hsub _ hBm)
    · exact .inr (hsub _ hWm)
    · exact .inr (hsub _ ma)
    · exact .inr (hsub _ mb')) K'
  have nd := I.nd
  rw [hm2, List.nodup_append] at nd
  obtain ⟨nM, nX, nMX⟩ := nd
  have nd2 := nM
  rw [muts_def, ads_append, List.nodup_cons, List.nodup_cons, List.nodup_append] at nd2
  obtain ⟨nB, nW, nP, nY, nPY⟩ := nd2
  have hya : y.a ∈ ads [y] := .head _
  have hyb : y.b ∈ ads [y] := .tail _ (.head _)
  have xa : x.a ∈ [x.a, x.b] := .head _
  have xb : x.b ∈ [x.a, x.b] := .tail _ (.head _)
  have X := I.bx x hx
  have Y := I.bx y hy'
  have l3 : @LT.lt Nat _ (L + 3) p ∧ @LT.lt Nat _ (L + 3) q1 ∧ @LT.lt Nat _ (L + 3) q2 := by
    obtain ⟨v, o, e, _⟩ := I.ct
    exact ⟨T.fp _ _ e, T.f1 _ _ e, T.f2 _ _ e⟩
  have outX : ∀ c, c ∈ [x.a, x.b] → c ∉ [B, W, y.a, y.b] := fun c hcx hm' => by
    simp only [List.mem_cons, List.not_mem_nil, or_false] at hm'
    rcases hm' with e | e | e | e
    · exact nMX _ hBm _ hcx e.symm
    · exact nMX _ hWm _ hcx e.symm
    · exact nMX _ ma _ hcx e.symm
    · exact nMX _ mb' _ hcx e.symm
  have thx : F2 (ThingIn (L + 3) k h') x.vs x.nss := f2_mono (fun _ _ t => thing_keep K' hc t) X.th
  have xbm : x.b ∉ muts B W (pre ++ [y]) := fun hm' => nMX _ hm' _ xb rfl
  refine ⟨g1, g2, g3, g4, g5, g6, g7, g8, I.svs, I.hKd, I.hSp, by simpa using T.lb, ?_, T.lw, ?_, by rw [hm]; exact nM, by rw [hm]; exact fun h => I.fk (hsub _ h), by rw [hm]; exact fun h => I.fs (hsub _ h), by rw [hm]; exact fun a ha => I.hi a (hsub a ha)⟩
  · intro z hz
    rcases List.mem_append.mp hz with hz | hz
    · have hz' : z ∈ pre ++ [y] ++ [x] := List.mem_append.mpr (.inl (List.mem_append.mpr (.inl hz)))
      have out : ∀ c, c ∈ ads pre → c ∉ [B, W, y.a, y.b] := fun c hcp hm' => by
        simp only [List.mem_cons, List.not_mem_nil, or_false] at hm'
        rcases hm' with e | e | e | e
        · exact nB (e ▸ .tail _ (List.mem_append.mpr (.inl hcp)))
        · exact nW (e ▸ List.mem_append.mpr (.inl hcp))
        · exact nPY _ hcp _ hya e
        · exact nPY _ hcp _ hyb e
      exact ((I.bx z hz').keep K' hc (out _ (ads_mem hz).1) (out _ (ads_mem hz).2)).up
    · rw [List.mem_singleton.mp hz]
      refine ⟨Y.ht, tup_keep K' hc Y.ht Y.tt, T.la, T.ln, ?_, ?_⟩
      · refine (f2_mono (fun _ _ t => (thing_keep K' hc t).up) Y.th).snoc ?_
        exact .inr ⟨q2, x.vs, x.nss, rfl, l3.2.2, T.t2, thx, rfl⟩
      · simp only [List.flatten_append, List.flatten_cons, List.flatten_nil, List.append_nil]
        exact Y.nm.append X.nm
  · intro v' hv
    rw [hm]
    rcases List.mem_append.mp hv with hv | hv
    · refine ((I.wh v' hv).keep K' hc fun c hcm hcL _ => ⟨fun hm' => ?_, fun h => hcm (hsub c h)⟩).up
      simp only [List.mem_cons, List.not_mem_nil, or_false] at hm'
      rcases hm' with e | e | e | e
      · exact hcm (e ▸ hsub _ hBm)
      · exact hcm (e ▸ hsub _ hWm)
      · exact hcm (e ▸ hsub _ ma)
      · exact hcm (e ▸ hsub _ mb')
    · rw [List.mem_singleton.mp hv]
      refine ⟨p, .ref q1, x.b, x.ys, x.nss.flatten, rfl, l3.1, (I.hi _ (hm2 ▸ List.mem_append.mpr (.inr xb))), xbm, T.tp, .inr ⟨q1, x.vs, x.nss, rfl, l3.2.1, T.t1, thx, rfl⟩, X.lb.at fun o e => K' _ o (outX _ xb) e, X.nm, hxz⟩
end

abbrev lawEnv (L : Addr) : Env := envX "law" lawS L 40 (.ref 39) [("top", L + 3), ("spelled", L + 2), ("kinds", L + 1)]
def forBody : List Stmt := match (lawB[4]? : Option Stmt) with
  | some (Stmt.For _ _ b _ _) => b
  | _ => []

section
variable {w : World} {mg mb : Str → Option Value} {A : Around} {E : Value → Shared → Prop} {s : Shared} {L : Addr} {m : Str → Option Value}
theorem bt_len : bootBuiltins "len" = some (.builtin "len") := by decide +kernel
theorem ns_len : nsIn (hd.heap_39 w.params) mainGlobals "len" = some none := rfl
theorem ns_tup : nsIn (hd.heap_39 w.params) mainGlobals "_law_tuple" = some (some (.ref 35)) := rfl
theorem lv_boxes {pos : Pos} {v : Value} {Q : Value → Shared → Prop} (N : s.heap.Ns L m) (hv : m "boxes" = some v) (h : Q v s) : wpAny (model prg w) A (eval (.Name "boxes" pos) (lawEnv L)) Q E s := nmL N hv h
theorem lv_wholes {pos : Pos} {v : Value} {Q : Value → Shared → Prop} (N : s.heap.Ns L m) (hv : m "wholes" = some v) (h : Q v s) : wpAny (model prg w) A (eval (.Name "wholes" pos) (lawEnv L)) Q E s := nmL N hv h
theorem lv_v {pos : Pos} {v : Value} {Q : Value → Shared → Prop} (N : s.heap.Ns L m) (hv : m "v" = some v) (h : Q v s) : wpAny (model prg w) A (eval (.Name "v" pos) (lawEnv L)) Q E s := nmL N hv h
theorem lv_deed {pos : Pos} {v : Value} {Q : Value → Shared → Prop} (N : s.heap.Ns L m) (hv : m "deed" = some v) (h : Q v s) : wpAny (model prg w) A (eval (.Name "deed" pos) (lawEnv L)) Q E s := nmL N hv h
theorem lv_kinds {pos : Pos} {v : Value} {Q : Value → Shared → Prop} (hc : s.heap.IsCell (L + 1) (some v)) (h : Q v s) : wpAny (model prg w) A (eval (.Name "kinds" pos) (lawEnv L)) Q E s :=
  wpAny_Name (wpAny_loadName_cell rfl rfl (by rfl) hc h) (by decide)
theorem lv_spelled {pos : Pos} {v : Value} {Q : Value → Shared → Prop} (hc : s.heap.IsCell (L + 2) (some v)) (h : Q v s) : wpAny (model prg w) A (eval (.Name "spelled" pos) (lawEnv L)) Q E s :=
  wpAny_Name (wpAny_loadName_cell rfl rfl (by rfl) hc h) (by decide)
theorem lv_len {pos : Pos} {Q : Value → Shared → Prop} (G : Gd w mg mb s.heap) (h : Q (.builtin "len") s) : wpAny (model prg w) A (eval (.Name "len" pos) (lawEnv L)) Q E s := nmB G ns_len bt_len (by decide) h
theorem lv_tup {pos : Pos} {Q : Value → Shared → Prop} (G : Gd w mg mb s.heap) (h : Q (.ref 35) s) : wpAny (model prg w) A (eval (.Name "_law_tuple" pos) (lawEnv L)) Q E s := nmG G ns_tup h
theorem ls_deed {v : Value} {Q : Unit → Shared → Prop} (F : s.heap.Ns L m) (h : ∀ h', h'.Ns L (fun y => if y = "deed" then some v else m y) → Heap.SameBut L s.heap h' → Q () { s with heap := h', toks := s.toks + 1 }) : wpAny (model prg w) A (storeName (lawEnv L) "deed" v) Q E s := stL F h

/-- len(boxes) -/
theorem lv_lenBoxes {p1 p2 p3 : Pos} {a : Addr} {vs : List Value} {Q : Value → Shared → Prop} (G : Gd w mg mb s.heap) (N : s.heap.Ns L m) (hv : m "boxes" = some (.ref a)) (hl : Lst s.heap a vs) (hz : vs.length ≤ 1000)
    (h : ∀ t tk, Q (.int vs.length t) { s with toks := tk }) : wpAny (model prg w) A (eval (.Call (.Name "len" p1) [.Name "boxes" p2] [] p3) (lawEnv L)) Q E s := by
  walk_at "m call"
  with_reducible refine lv_len G ?_
  walk_at "m with"
  walk_at "m arg"
  with_reducible refine lv_boxes N hv ?_
  with_reducible refine args_nil ?_
  refine len_list hl.isList (by simp; omega) ?_
  rw [List.size_toArray]
  exact h _ _

/-- _law_tuple(boxes, wholes) -/
theorem lv_tupCall {p1 p2 p3 p4 : Pos} {B W : Addr} {Q : Value → Shared → Prop} (G : Gd w mg mb s.heap) (N : s.heap.Ns L m) (hB : m "boxes" = some (.ref B)) (hW : m "wholes" = some (.ref W))
    (h : wpAny (model prg w) A (call (.ref 35) [.ref B, .ref W]) Q E s) : wpAny (model prg w) A (eval (.Call (.Name "_law_tuple" p1) [.Name "boxes" p2, .Name "wholes" p3] [] p4) (lawEnv L)) Q E s := by
  walk_at "m call"
  with_reducible refine lv_tup G ?_
  with_reducible refine callWith_F (fn35 G) ?k5 ?k6 ?k7
  case k6 => rfl
  case k7 => rfl
  walk_at "m arg"
  with_reducible refine lv_boxes N hB ?_
  walk_at "m arg"
  with_reducible refine lv_wholes N hW ?_
  with_reducible refine args_nil ⟨fn35 G, ?_⟩
  exact h
end

/-- what holds of the law's frame between the turns -/
structure LSt (w : World) (mg mb : Str → Option Value) (L B W Kd Sp : Addr) (kv sv : List Value) (k : Nat) (h : Heap) (m : Str → Option Value) (bxs : List Box) (ws : List Value) : Prop where
  N : h.Ns L m
  mB : m "boxes" = some (.ref B)
  mW : m "wholes" = some (.ref W)
  I : LInv w mg mb L B W Kd Sp kv sv k h bxs ws
  ne : 0 < bxs.length
  z1 : ∀ x ∈ bxs, x.vs.length ≤ k
  z2 : (bxs.map fun x => x.ys.length).sum ≤ k
  z3 : ws.length ≤ 10 + k
  z4 : bxs.length ≤ 7

/-- what a turn leaves as it was, and which addresses may turn behind it -/
structure LKeep (L B W : Addr) (h h' : Heap) (bxs bxs' : List Box) : Prop where
  keep : ∀ b o, b ≠ L → b ∉ muts B W bxs → h.get? b = some o → h'.get? b = some o
  new : ∀ a ∈ muts B W bxs', a ∈ muts B W bxs ∨ ∀ b o, h.get? b = some o → b < a

section
variable {w : World} {mg mb : Str → Option Value} {A : Around} {E : Value → Shared → Prop} {s : Shared} {L B W Kd Sp : Addr} {kv sv : List Value} {k : Nat} {m : Str → Option Value} {bxs : List Box} {ws : List Value}

theorem snoc_of {α : Type} {l : List α} (h : 0 < l.length) : ∃ p x, l = p ++ [x] := ⟨l.dropLast, l.getLast (by intro e; subst e; simp at h), (List.dropLast_concat_getLast _).symm⟩

theorem sum_append (p q : List Nat) : (p ++ q).sum = p.sum + q.sum := by simp

/-- the tuple is ended: `_law_tuple(boxes, wholes)`, from any place of the law -/
theorem close_spec {Q : Value → Shared → Prop} (hL : @LT.lt Nat _ 40 L) (hh : A.handled = none) (hroom : A.depth < recursionLimit) (S : LSt w mg mb L B W Kd Sp kv sv k s.heap m bxs ws) (hk : k ≤ 100) (h2 : 1 < bxs.length)
    (h : ∀ h' tk bxs' ws', LSt w mg mb L B W Kd Sp kv sv (k + 1) h' m bxs' ws' → LKeep L B W s.heap h' bxs bxs' → bxs'.length + 1 = bxs.length → Q .none { s with heap := h', toks := tk }) :
    wpAny (model prg w) A (call (.ref 35) [.ref B, .ref W]) Q E s := by
  obtain ⟨p1, x, e1⟩ := snoc_of S.ne
  have hp1 : 0 < p1.length := by rw [e1] at h2; simp at h2; omega
  obtain ⟨pre, y, e2⟩ := snoc_of hp1
  subst e2
  subst e1
  have I := S.I
  have hy : y ∈ pre ++ [y] := List.mem_append.mpr (.inr (.head _))
  have hy' : y ∈ pre ++ [y] ++ [x] := List.mem_append.mpr (.inl hy)
  have hx : x ∈ pre ++ [y] ++ [x] := List.mem_append.mpr (.inr (.head _))
  have X := I.bx x hx
  have Y := I.bx y hy'
  have hm2 : muts B W (pre ++ [y] ++ [x]) = B :: W :: (ads pre ++ [y.a, y.b] ++ [x.a, x.b]) := by
    rw [muts_def, ads_append, ads_append]; rfl
  have nd := I.nd
  rw [hm2, List.nodup_cons, List.nodup_cons, List.nodup_append] at nd
  obtain ⟨nB, nW, nPY, nX, nMX⟩ := nd
  rw [List.nodup_append] at nPY
  obtain ⟨nP, nY, nPY⟩ := nPY
  have yaM : y.a ∈ ads pre ++ [y.a, y.b] := by simp
  have ybM : y.b ∈ ads pre ++ [y.a, y.b] := by simp
  have xa : x.a ∈ [x.a, x.b] := .head _
  have xb : x.b ∈ [x.a, x.b] := .tail _ (.head _)
  have all : ∀ a, a ∈ ads pre ++ [y.a, y.b] ++ [x.a, x.b] → a ∈ muts B W (pre ++ [y] ++ [x]) := fun a ha => hm2 ▸ .tail _ (.tail _ ha)
  have hi40 : ∀ a ∈ muts B W (pre ++ [y] ++ [x]), 40 < a := fun a ha => Nat.lt_trans hL (Nat.lt_of_le_of_lt (Nat.le_add_right _ _) (I.hi a ha))
  have hB : B ∈ muts B W (pre ++ [y] ++ [x]) := .head _
  have hW : W ∈ muts B W (pre ++ [y] ++ [x]) := .tail _ (.head _)
  have mya : y.a ∈ ads pre ++ [y.a, y.b] ++ [x.a, x.b] := List.mem_append.mpr (.inl yaM)
  have myb : y.b ∈ ads pre ++ [y.a, y.b] ++ [x.a, x.b] := List.mem_append.mpr (.inl ybM)
  have mxa : x.a ∈ ads pre ++ [y.a, y.b] ++ [x.a, x.b] := List.mem_append.mpr (.inr xa)
  have mxb : x.b ∈ ads pre ++ [y.a, y.b] ++ [x.a, x.b] := List.mem_append.mpr (.inr xb)
  have nBx : ∀ a, a ∈ ads pre ++ [y.a, y.b] ++ [x.a, x.b] → B ≠ a := fun a ha e => nB (.tail _ (e ▸ ha))
  have nWx : ∀ a, a ∈ ads pre ++ [y.a, y.b] ++ [x.a, x.b] → W ≠ a := fun a ha e => nW (e ▸ ha)
  have nab : y.a ≠ y.b := by simpa using nY
  have lB : Lst s.heap B ((pre.map fun x => Value.ref x.t) ++ [.ref y.t] ++ [.ref x.t]) := by simpa using I.lb
  have z2 := S.z2
  simp only [List.map_append, List.map_cons, List.map_nil, sum_append, List.sum_cons, List.sum_nil] at z2
  have z4 := S.z4
  simp only [List.length_append, List.length_cons, List.length_nil] at z4
  have zx := S.z1 x hx
  have zy := S.z1 y hy'
  have z3 := S.z3
  refine tup_spec (vs1 := x.vs) (ys1 := x.ys) (vs2 := y.vs) (ys2 := y.ys) I.G hroom hh lB X.tt Y.tt I.lw X.la X.lb Y.la Y.lb (hi40 B hB) (hi40 W hW) (hi40 _ (all _ mya)) (hi40 _ (all _ myb)) (fun e => nB (e ▸ .head _)) (nBx _ mxa) (nBx _ mxb) (nBx _ mya) (nBx _ myb) (nWx _ mxa) (nWx _ mxb) (nWx _ mya) (nWx _ myb)
    (nMX _ yaM _ xa) (nMX _ yaM _ xb) nab (nMX _ ybM _ xa) (nMX _ ybM _ xb) (by simp; omega) (by omega) (by omega) (by omega) (by omega) ?_
  intro h' tk p q1 q2 T
  have hLm : ∀ a ∈ muts B W (pre ++ [y] ++ [x]), L ≠ a := fun a ha e => by
    have := I.hi a ha
    rw [← e] at this
    exact absurd this (Nat.not_lt.mpr (Nat.le_add_right _ _))
  have N' : h'.Ns L m := S.N.at fun o e => T.keep _ o (hLm _ hB) (hLm _ hW) (hLm _ (all _ mya)) (hLm _ (all _ myb)) e
  refine h h' tk _ _ ⟨N', S.mB, S.mW, I.closes hL T (by omega), by simp, ?_, ?_, ?_, ?_⟩ ⟨fun b o _ hb e => ?_, ?_⟩ (by simp)
  · intro z hz
    rcases List.mem_append.mp hz with hz | hz
    · exact Nat.le_succ_of_le (S.z1 z (List.mem_append.mpr (.inl (List.mem_append.mpr (.inl hz)))))
    · rw [List.mem_singleton.mp hz]; simp; omega
  · simp only [List.map_append, List.map_cons, List.map_nil, sum_append, List.sum_cons, List.sum_nil, List.length_append]
    omega
  · simp; omega
  · simp; omega
  · exact T.keep b o (fun e' => hb (e' ▸ hB)) (fun e' => hb (e' ▸ hW)) (fun e' => hb (e' ▸ all _ mya)) (fun e' => hb (e' ▸ all _ myb)) e
  · intro a ha
    refine .inl ?_
    rw [hm2]
    have : muts B W (pre ++ [{ y with vs := y.vs ++ [.ref q2], ys := y.ys ++ x.ys, nss := y.nss ++ [x.nss.flatten] }]) = B :: W :: (ads pre ++ [y.a, y.b]) := by
      rw [muts_def, ads_append]; rfl
    rw [this] at ha
    simp only [List.mem_cons, List.mem_append] at ha ⊢
    rcases ha with ha | ha | ha
    · exact .inl ha
    · exact .inr (.inl ha)
    · exact .inr (.inr (.inl ha))

theorem fmod13 (z : Int) : 0 ≤ z.fmod 13 ∧ z.fmod 13 < 13 := by
  rw [Int.fmod_eq_emod_of_nonneg z (by decide)]
  exact ⟨Int.emod_nonneg _ (by decide), Int.emod_lt_of_pos _ (by decide)⟩

/-- a turn of the building loop -/
theorem turn_spec {z : Int} {tz : Tok} {Q : Flow → Shared → Prop} (hL : @LT.lt Nat _ 40 L) (hh : A.handled = none) (hroom : A.depth < recursionLimit) (S : LSt w mg mb L B W Kd Sp kv sv k s.heap m bxs ws) (hk : k ≤ 100) (mv : m "v" = some (.int z tz))
    (h : ∀ h' tk m' bxs' ws', LSt w mg mb L B W Kd Sp kv sv (k + 1) h' m' bxs' ws' → LKeep L B W s.heap h' bxs bxs' → Q .next { s with heap := h', toks := tk }) :
    Wp (model prg w) A (execs forBody (lawEnv L)) Q E s := by
  constructor
  rw [show forBody = [_, _] from rfl]
  obtain ⟨hz0, hz1⟩ := fmod13 z
  walk_at "m cons"
  with_reducible refine wpAny_Assign_Name ?hc ?hs
  case hs => rfl
  with_reducible refine wpAny_BinOp (lv_v S.N mv (wpAny_Constant_int (mod_int (by decide) ?_)))
  with_reducible refine ls_deed S.N ?_
  intro h₁ N1 s1
  have K1 : ∀ b o, b ≠ L → s.heap.get? b = some o → h₁.get? b = some o := fun b o hb e => (s1.2 b hb).trans e
  have I1 := S.I.still hL K1
  have mB1 : (fun y => if y = Str.ofString "deed" then some (Value.int (z.fmod 13) (s.toks + 1)) else m y) "boxes" = some (.ref B) := (if_neg (by decide)).trans S.mB
  have mW1 : (fun y => if y = Str.ofString "deed" then some (Value.int (z.fmod 13) (s.toks + 1)) else m y) "wholes" = some (.ref W) := (if_neg (by decide)).trans S.mW
  have md1 : (fun y => if y = Str.ofString "deed" then some (Value.int (z.fmod 13) (s.toks + 1)) else m y) "deed" = some (.int (z.fmod 13) (s.toks + 1)) := if_pos rfl
  generalize (fun y => if y = Str.ofString "deed" then some (Value.int (z.fmod 13) (s.toks + 1)) else m y) = m₁ at N1 mB1 mW1 md1
  generalize z.fmod 13 = d at hz0 hz1 md1
  have S1 : LSt w mg mb L B W Kd Sp kv sv k h₁ m₁ bxs ws := ⟨N1, mB1, mW1, I1, S.ne, S.z1, S.z2, S.z3, S.z4⟩
  clear s1
  dsimp only
  walk_at "m cons"
  walk_at "m if"
  walk_at "m cmp"
  with_reducible refine lv_deed N1 md1 (wpAny_Constant_int (lt_int (wpAny_truthy_bool ?_)))
  by_cases hd : d < 10
  · -- a thing is put in
    rw [decide_eq_true hd, if_pos rfl]
    obtain ⟨pre, x, e⟩ := snoc_of S.ne
    subst e
    have hx : x ∈ pre ++ [x] := List.mem_append.mpr (.inr (.head _))
    have X := I1.bx x hx
    have lB : Lst h₁ B ((pre.map fun x => Value.ref x.t) ++ [.ref x.t]) := by simpa using I1.lb
    have ma : x.a ∈ muts B W (pre ++ [x]) := .tail _ (.tail _ (ads_mem hx).1)
    have mb' : x.b ∈ muts B W (pre ++ [x]) := .tail _ (.tail _ (ads_mem hx).2)
    have nd := I1.nd
    rw [muts_def, ads_append, List.nodup_cons, List.nodup_cons, List.nodup_append] at nd
    obtain ⟨nB, nW, nP, nX, nPX⟩ := nd
    have nab : x.a ≠ x.b := by simpa [ads] using nX
    have nBa : B ≠ x.a := fun e => nB (e ▸ .tail _ (List.mem_append.mpr (.inr (.head _))))
    have nBb : B ≠ x.b := fun e => nB (e ▸ .tail _ (List.mem_append.mpr (.inr (.tail _ (.head _)))))
    have hLm : ∀ a ∈ muts B W (pre ++ [x]), L ≠ a := fun a ha e => by
      have := I1.hi a ha
      rw [← e] at this
      exact absurd this (Nat.not_lt.mpr (Nat.le_add_right _ _))
    have hdn : d.toNat < 10 := by omega
    have lk : kv.length = 10 := I1.kvs.length
    have lsv : sv.length = 10 := I1.svs.length
    have hkv : kv[d.toNat]? = some (kv[d.toNat]'(by omega)) := List.getElem?_eq_getElem _
    have hsv : sv[d.toNat]? = some (sv[d.toNat]'(by omega)) := List.getElem?_eq_getElem _
    obtain ⟨n, hn, hlf⟩ := I1.kvs.get _ _ hkv
    obtain ⟨n', hn', hnm⟩ := I1.svs.get _ _ hsv
    rw [hn] at hn'
    cases hn'
    generalize kv[d.toNat]'(by omega) = kd at hkv hlf
    generalize sv[d.toNat]'(by omega) = sd at hsv hnm
    have zx := S.z1 x hx
    have z2 := S.z2
    simp only [List.map_append, List.map_cons, List.map_nil, sum_append, List.sum_cons, List.sum_nil] at z2
    walk_at "m cons"
    walk_at "m expr"
    walk_at "m meth"
    with_reducible refine ev_top (fun Q' q => lv_boxes N1 mB1 q) lB X.tt (.inl ⟨rfl, rfl⟩) ?_
    intro tk1
    with_reducible refine lst_method X.la F.slot_list_append F.type_list_append ?_
    walk_at "m m1"
    walk_at "m arg"
    with_reducible refine Subscript_ (lv_kinds I1.ck (lv_deed N1 md1 ?_))
    refine lst_item I1.lk hz0 (by omega) hkv ?_ (by with_unfolding_all rfl)
    with_reducible refine args_nil ?_
    refine lst_append (a := x.a) X.la (by omega) ?_
    intro h₂ la2 s2
    have N2 : h₂.Ns L m₁ := N1.sameBut s2 (hLm _ ma)
    have lB2 : Lst h₂ B ((pre.map fun x => Value.ref x.t) ++ [.ref x.t]) := lB.at fun o e => (s2.2 _ nBa).trans e
    have tt2 : IsTup h₂ x.t #[.ref x.a, .ref x.b] := let ⟨o, e, r⟩ := X.tt; ⟨o, (s2.2 _ (tup_ne_list X.tt X.la)).trans e, r⟩
    have lb2 : Lst h₂ x.b x.ys := X.lb.at fun o e => (s2.2 _ nab.symm).trans e
    have cs2 : h₂.IsCell (L + 2) (some (.ref Sp)) := by
      obtain ⟨o, e, r⟩ := I1.cs
      exact ⟨o, (s2.2 _ (Nat.ne_of_lt (Nat.lt_trans (Nat.lt_succ_self _) (I1.hi _ ma)))).trans e, r⟩
    have nSa : Sp ≠ x.a := fun e' => I1.fs (e' ▸ ma)
    have ls2 : Lst h₂ Sp sv := I1.ls.at fun o e => (s2.2 _ nSa).trans e
    dsimp only
    walk_at "m cons"
    walk_at "m expr"
    walk_at "m meth"
    with_reducible refine ev_top (fun Q' q => lv_boxes N2 mB1 q) lB2 tt2 (.inr ⟨rfl, rfl⟩) ?_
    intro tk2
    with_reducible refine lst_method lb2 F.slot_list_append F.type_list_append ?_
    walk_at "m m1"
    walk_at "m arg"
    with_reducible refine Subscript_ (lv_spelled cs2 (lv_deed N2 md1 ?_))
    refine lst_item ls2 hz0 (by omega) hsv ?_ (by with_unfolding_all rfl)
    with_reducible refine args_nil ?_
    refine lst_append (a := x.b) lb2 (by omega) ?_
    intro h₃ lb3 s3
    walk_at "m nil"
    dsimp only
    walk_at "m nil"
    have K3 : ∀ b o, b ≠ x.a → b ≠ x.b → h₁.get? b = some o → h₃.get? b = some o := fun b o h1 h2 e => (s3.2 b h2).trans ((s2.2 b h1).trans e)
    have I3 := I1.put (h' := h₃) hL (fun b o _ h1 h2 e => K3 b o h1 h2 e) (la2.at fun o e => (s3.2 _ nab).trans e) lb3 hlf hnm
    refine h h₃ _ m₁ _ ws ⟨N2.sameBut s3 (hLm _ mb'), mB1, mW1, I3.up, by simp, ?_, ?_, Nat.le_succ_of_le S.z3, ?_⟩ ⟨fun b o hb hm e => K3 b o (fun e' => hm (e' ▸ ma)) (fun e' => hm (e' ▸ mb')) (K1 b o hb e), fun a ha => .inl ?_⟩
    · intro y hy
      rcases List.mem_append.mp hy with hy | hy
      · exact Nat.le_succ_of_le (S.z1 y (List.mem_append.mpr (.inl hy)))
      · rw [List.mem_singleton.mp hy]; simp; omega
    · simp only [List.map_append, List.map_cons, List.map_nil, sum_append, List.sum_cons, List.sum_nil, List.length_append, List.length_cons, List.length_nil]
      omega
    · have := S.z4; simpa using this
    · have e : muts B W (pre ++ [{ x with vs := x.vs ++ [kd], ys := x.ys ++ [sd], nss := x.nss ++ [[n]] }]) = muts B W (pre ++ [x]) := by
        rw [muts_def, muts_def, ads_append, ads_append]; rfl
      rw [e] at ha
      exact ha
  · rw [decide_eq_false hd]
    simp only [Bool.false_eq_true, if_false]
    have lenB : (bxs.map fun x => Value.ref x.t).length = bxs.length := List.length_map _
    have zB : (bxs.map fun x => Value.ref x.t).length ≤ 1000 := by have := S.z4; omega
    walk_at "m cons"
    walk_at "m if"
    with_reducible refine isTrue_and ?_
    walk_at "m cmp"
    with_reducible refine lv_deed N1 md1 (wpAny_Constant_int (eq_int (wpAny_truthy_bool ?_)))
    -- the way on where no tuple is begun
    have other : ∀ tk (Q' : Flow → Shared → Prop), (∀ s', Q .next s' → Q' .next s') → wpAny (model prg w) A (execs (match (forBody[1]? : Option Stmt) with | some (Stmt.If _ _ [Stmt.If _ _ o _] _) => o | _ => []) (lawEnv L)) Q' E { s with heap := h₁, toks := tk } := by
      intro tk Q' hQ'
      rw [show (match (forBody[1]? : Option Stmt) with | some (Stmt.If _ _ [Stmt.If _ _ o _] _) => o | _ => []) = [_] from rfl]
      walk_at "m cons"
      walk_at "m if"
      walk_at "m cmp"
      with_reducible refine lv_lenBoxes I1.G N1 mB1 I1.lb zB ?_
      intro t1 tk1
      rw [lenB]
      with_reducible refine wpAny_Constant_int (gt_int (wpAny_truthy_bool ?_))
      by_cases h2 : 1 < bxs.length
      · rw [decide_eq_true (by omega), if_pos rfl]
        walk_at "m cons"
        walk_at "m expr"
        with_reducible refine lv_tupCall I1.G N1 mB1 mW1 ?_
        refine close_spec (m := m₁) (bxs := bxs) (ws := ws) hL hh hroom S1 hk h2 ?_
        intro h' tk2 bxs' ws' S' K' _
        walk_at "m nil"
        dsimp only
        walk_at "m nil"
        refine hQ' _ (h h' tk2 m₁ bxs' ws' S' ⟨fun b o hb hm e => K'.keep b o hb hm (K1 b o hb e), fun a ha => (K'.new a ha).imp id fun f b o e => ?_⟩)
        by_cases hb : b = L
        · subst hb
          obtain ⟨oL, _, _, e', _⟩ := N1
          exact f _ _ e'
        · exact f b o (K1 b o hb e)
      · rw [decide_eq_false (by omega)]
        simp only [Bool.false_eq_true, if_false]
        walk_at "m nil"
        dsimp only
        walk_at "m nil"
        exact hQ' _ (h h₁ _ m₁ bxs ws ⟨N1, mB1, mW1, I1.up, S.ne, fun x hx => Nat.le_succ_of_le (S.z1 x hx), Nat.le_succ_of_le S.z2, Nat.le_succ_of_le S.z3, S.z4⟩ ⟨fun b o hb _ e => K1 b o hb e, fun a ha => .inl ha⟩)
    by_cases h10 : d = 10
    · rw [show (d == 10) = true from by simp [h10], if_pos rfl]
      with_reducible refine isTrue_and ?_
      walk_at "m cmp"
      with_reducible refine lv_lenBoxes I1.G N1 mB1 I1.lb zB ?_
      intro t1 tk1
      rw [lenB]
      with_reducible refine wpAny_Constant_int (lt_int (wpAny_truthy_bool ?_))
      by_cases h7 : bxs.length < 7
      · rw [decide_eq_true (by omega), if_pos rfl]
        with_reducible refine isTrue_and_nil ?_
        rw [if_pos rfl]
        walk_at "m cons"
        walk_at "m expr"
        walk_at "m meth"
        with_reducible refine lv_boxes N1 mB1 ?_
        with_reducible refine lst_method I1.lb F.slot_list_append F.type_list_append ?_
        walk_at "m m1"
        walk_at "m arg"
        with_reducible refine Tuple_ ?_
        walk_at "m arg"
        with_reducible refine List_ (args_nil (new_list (by simp) ?_))
        intro h₂ a k2 la fa
        walk_at "m arg"
        with_reducible refine List_ (args_nil (new_list (by simp) ?_))
        intro h₃ b k3 lb fb
        with_reducible refine args_nil (new_tuple (by simp) ?_)
        intro h₄ t k4 tt ft
        with_reducible refine args_nil ?_
        have k14 : ∀ c o, h₁.get? c = some o → h₄.get? c = some o := fun c o e => k4 c o (k3 c o (k2 c o e))
        have lB4 : Lst h₄ B (bxs.map fun x => Value.ref x.t) := I1.lb.at fun o e => k14 _ o e
        refine lst_append (a := B) lB4 zB ?_
        intro h₅ lB5 s5
        walk_at "m nil"
        dsimp only
        walk_at "m nil"
        dsimp only
        walk_at "m nil"
        have hLB : L ≠ B := fun e => by
          have := I1.hi B (.head _)
          rw [← e] at this
          exact absurd this (Nat.not_lt.mpr (Nat.le_add_right _ _))
        have la4 : Lst h₄ a [] := la.at fun o e => k4 _ o (k3 _ o e)
        have lb4 : Lst h₄ b [] := lb.at fun o e => k4 _ o e
        have hBa : B < a := by obtain ⟨n, e⟩ := I1.lb; exact fa _ _ e
        have hBb : B < b := by obtain ⟨n, e⟩ := I1.lb; exact fb _ _ (k2 _ _ e)
        have hab : a < b := by obtain ⟨n, e⟩ := la; exact fb _ _ e
        have tt5 : IsTup h₅ t #[.ref a, .ref b] := let ⟨o, e, r⟩ := tt; ⟨o, (s5.2 _ (tup_ne_list tt lB4)).trans e, r⟩
        have I5 := I1.opens (h' := h₅) (t := t) (a := a) (b := b) hL (fun c o _ hc e => (s5.2 c hc).trans (k14 c o e)) lB5 tt5 (la4.at fun o e => (s5.2 _ (Nat.ne_of_gt hBa)).trans e) (lb4.at fun o e => (s5.2 _ (Nat.ne_of_gt hBb)).trans e)
          (fun c o e => ft c o (k3 c o (k2 c o e))) (fun c o e => fa c o e) (fun c o e => fb c o (k2 c o e)) (Nat.ne_of_lt hab)
        have toL : ∀ {q : Addr}, (∀ c o, h₁.get? c = some o → c < q) → ∀ c o, s.heap.get? c = some o → c < q := fun f c o e => by
          by_cases hc : c = L
          · subst hc
            obtain ⟨oL, _, _, e', _⟩ := N1
            exact f _ _ e'
          · exact f c o (K1 c o hc e)
        refine h h₅ _ m₁ _ ws ⟨(N1.keeps k14).sameBut s5 hLB, mB1, mW1, I5.up, by simp, ?_, ?_, Nat.le_succ_of_le S.z3, by simp; omega⟩ ⟨fun c o hc hm e => (s5.2 c (fun e' => hm (e' ▸ .head _))).trans (k14 c o (K1 c o hc e)), fun q hq => ?_⟩
        · intro y hy
          rcases List.mem_append.mp hy with hy | hy
          · exact Nat.le_succ_of_le (S.z1 y hy)
          · rw [List.mem_singleton.mp hy]; exact Nat.zero_le _
        · have := S.z2
          simp only [List.map_append, List.map_cons, List.map_nil, sum_append, List.sum_cons, List.sum_nil, List.length_nil]
          omega
        · have e : muts B W (bxs ++ [⟨t, a, b, [], [], []⟩]) = muts B W bxs ++ [a, b] := by
            rw [muts_def, muts_def, ads_append]; rfl
          rw [e] at hq
          rcases List.mem_append.mp hq with hq | hq
          · exact .inl hq
          · simp only [List.mem_cons, List.not_mem_nil, or_false] at hq
            rcases hq with rfl | rfl
            · exact .inr (toL fun c o e => fa c o e)
            · exact .inr (toL fun c o e => fb c o (k2 c o e))
      · rw [decide_eq_false (by omega)]
        simp only [Bool.false_eq_true, if_false]
        refine other _ _ fun s' q => ?_
        dsimp only
        walk_at "m nil"
        dsimp only
        walk_at "m nil"
        exact q
    · rw [show (d == 10) = false from by simp [h10]]
      simp only [Bool.false_eq_true, if_false]
      refine other _ _ fun s' q => ?_
      dsimp only
      walk_at "m nil"
      dsimp only
      walk_at "m nil"
      exact q
end

section
variable {w : World} {mg mb : Str → Option Value} {A : Around} {E : Value → Shared → Prop} {s : Shared} {L B W Kd Sp : Addr} {kv sv : List Value} {k : Nat} {m : Str → Option Value} {bxs : List Box} {ws : List Value}
theorem ls_v {v : Value} {Q : Unit → Shared → Prop} (F : s.heap.Ns L m) (h : ∀ h', h'.Ns L (fun y => if y = "v" then some v else m y) → Heap.SameBut L s.heap h' → Q () { s with heap := h', toks := s.toks + 1 }) : wpAny (model prg w) A (storeName (lawEnv L) "v" v) Q E s := stL F h

theorem LSt.set {h h' : Heap} {x : Str} {v : Value} (S : LSt w mg mb L B W Kd Sp kv sv k h m bxs ws) (hL : @LT.lt Nat _ 40 L) (hx : x ≠ "boxes") (hx' : x ≠ "wholes") (N : h'.Ns L (fun y => if y = x then some v else m y)) (hs : ∀ b o, b ≠ L → h.get? b = some o → h'.get? b = some o) :
    LSt w mg mb L B W Kd Sp kv sv k h' (fun y => if y = x then some v else m y) bxs ws :=
  ⟨N, (if_neg hx.symm).trans S.mB, (if_neg hx'.symm).trans S.mW, S.I.still hL hs, S.ne, S.z1, S.z2, S.z3, S.z4⟩
theorem LSt.keep {h h' : Heap} (S : LSt w mg mb L B W Kd Sp kv sv k h m bxs ws) (hL : @LT.lt Nat _ 40 L) (hs : ∀ b o, h.get? b = some o → h'.get? b = some o) : LSt w mg mb L B W Kd Sp kv sv k h' m bxs ws :=
  ⟨S.N.keeps hs, S.mB, S.mW, S.I.still hL fun b o _ e => hs b o e, S.ne, S.z1, S.z2, S.z3, S.z4⟩
theorem LSt.iter {h h' : Heap} {I : Addr} (S : LSt w mg mb L B W Kd Sp kv sv k h m bxs ws) (hL : @LT.lt Nat _ 40 L) (hI : ∀ b o, b ≠ I → h.get? b = some o → h'.get? b = some o) (hIL : I ≠ L) (hI3 : @LT.lt Nat _ (L + 3) I) (hit : ∃ l i, h.IsListIter I l i) : LSt w mg mb L B W Kd Sp kv sv k h' m bxs ws := by
  obtain ⟨l, i, oi, ei, ci, di⟩ := hit
  have nl : ∀ {a vs}, Lst h a vs → a ≠ I := fun {a vs} x e => by
    obtain ⟨n, e'⟩ := x
    subst e
    have e2 := ei.symm.trans e'
    injection e2 with e2
    subst e2
    exact absurd ci (by simp)
  have nt : ∀ {a its}, IsTup h a its → a ≠ I := fun {a its} x e => by
    obtain ⟨o, e', c, _⟩ := x
    rw [e, ei] at e'
    injection e' with e'
    subst e'
    rw [ci] at c
    exact absurd c (by simp)
  have lo : ∀ b : Addr, b ≤ L + 3 → b ≠ I := fun b hb e => absurd hI3 (Nat.not_lt.mpr (e ▸ hb))
  have l40 : ∀ b : Addr, b ≤ 40 → b ≠ I := fun b hb => lo b (Nat.le_trans hb (Nat.le_of_lt (Nat.lt_of_lt_of_le hL (Nat.le_add_right _ _))))
  have lf : ∀ {v n}, Leaf (L + 3) h v n → Leaf (L + 3) h' v n := fun {v n} x => by
    rcases x with x | x | x | ⟨a, o, e, na, ho, hc, r⟩
    · exact .inl x
    · exact .inr (.inl x)
    · exact .inr (.inr (.inl x))
    · refine .inr (.inr (.inr ⟨a, o, e, na, hI _ _ ?_ ho, hc, r⟩))
      intro e'
      rw [e', ei] at ho
      injection ho with ho
      subst ho
      rw [ci] at hc
      exact absurd hc (by simp)
  have th : ∀ k {v ns}, ThingIn (L + 3) k h v ns → ThingIn (L + 3) k h' v ns := by
    intro k
    induction k with
    | zero => intro v ns ⟨n, e, l⟩; exact ⟨n, e, lf l⟩
    | succ k ih =>
      intro v ns x
      rcases x with ⟨n, e, l⟩ | ⟨a, vs, nss, e, na, t, f, e'⟩
      · exact .inl ⟨n, e, lf l⟩
      · exact .inr ⟨a, vs, nss, e, na, (by obtain ⟨o, e1, r⟩ := id t; exact ⟨o, hI _ _ (nt t) e1, r⟩), f2_mono (fun _ _ x => ih x) f, e'⟩
  have lk : ∀ {a vs}, Lst h a vs → Lst h' a vs := fun {a vs} x => x.at fun o e => hI _ o (nl x) e
  have tk : ∀ {a its}, IsTup h a its → IsTup h' a its := fun {a its} x => by obtain ⟨o, e1, r⟩ := id x; exact ⟨o, hI _ _ (nt x) e1, r⟩
  have I := S.I
  refine ⟨S.N.at fun o e => hI _ o hIL.symm e, S.mB, S.mW, ?_, S.ne, S.z1, S.z2, S.z3, S.z4⟩
  refine ⟨I.G.low fun b o _ hb e => hI b o (l40 b hb) e, I.tab.at fun o e => hI _ o (l40 _ (by decide)) e, ?_, ?_, ?_, lk I.lk, lk I.ls, f2_mono (fun _ _ x => lf x) I.kvs, I.svs, I.hKd, I.hSp, lk I.lb, ?_, lk I.lw, ?_, I.nd, I.fk, I.fs, I.hi⟩
  · exact let ⟨o, e, r⟩ := I.ck; ⟨o, hI _ o (lo _ (Nat.add_le_add_left (by decide) _)) e, r⟩
  · exact let ⟨o, e, r⟩ := I.cs; ⟨o, hI _ o (lo _ (Nat.add_le_add_left (by decide) _)) e, r⟩
  · exact let ⟨v, o, e, r⟩ := I.ct; ⟨v, o, hI _ o (lo _ (Nat.le_refl _)) e, r⟩
  · intro x hx
    have X := I.bx x hx
    exact ⟨X.ht, tk X.tt, lk X.la, lk X.lb, f2_mono (fun _ _ x => th _ x) X.th, X.nm⟩
  · intro v hv
    obtain ⟨p, x, c, ys, ns, e, hp, hcL, hcm, tp, tx, lc, nm⟩ := I.wh v hv
    exact ⟨p, x, c, ys, ns, e, hp, hcL, hcm, tk tp, th _ tx, lk lc, nm⟩

theorem old_of {h h' : Heap} {bxs bxs' : List Box} (K : LKeep L B W h h' bxs bxs') (I : LInv w mg mb L B W Kd Sp kv sv k h bxs ws) : ∀ b o, @LT.lt Nat _ b L → h.get? b = some o → h'.get? b = some o := fun b o hb e =>
  K.keep b o (Nat.ne_of_lt hb) (fun hm => absurd (I.hi b hm) (Nat.not_lt.mpr (Nat.le_trans (Nat.le_of_lt hb) (Nat.le_add_right _ _)))) e

/-- the building loop -/
theorem loop_spec {ax I : Addr} {items : List Value} {px : Pos} {R : Result → Shared → Prop} (hL : @LT.lt Nat _ 40 L) (hh : A.handled = none) (hroom : A.depth < recursionLimit) (S : LSt w mg mb L B W Kd Sp kv sv 0 s.heap m bxs ws)
    (hlen : items.length ≤ 40) (allI : ∀ v ∈ items, ∃ z t, v = Value.int z t) (hit : s.heap.IsListIter I ax 0) (hl : s.heap.IsList ax items.toArray) (hIm : I ∉ muts B W bxs) (ham : ax ∉ muts B W bxs) (hI3 : @LT.lt Nat _ (L + 3) I) (haL : ax ≠ L) (haI : ax ≠ I)
    (h : ∀ h' tk m' bxs' ws', LSt w mg mb L B W Kd Sp kv sv items.length h' m' bxs' ws' → (∀ b o, @LT.lt Nat _ b L → s.heap.get? b = some o → h'.get? b = some o) → R (.ok .next) { s with heap := h', toks := tk }) :
    codeAny (model prg w) A (.forLoop (.Name "v" px) (.ref I) forBody [] (lawEnv L)) R s := by
  have hIL : I ≠ L := Nat.ne_of_gt (Nat.lt_of_le_of_lt (Nat.le_add_right _ _) hI3)
  refine codeAny_forLoop_any (fun n s' => ∃ i h' tk m' bxs' ws', n = items.length - i ∧ i ≤ items.length ∧ s' = { s with heap := h', toks := tk } ∧ LSt w mg mb L B W Kd Sp kv sv i h' m' bxs' ws' ∧ h'.IsListIter I ax i ∧ h'.IsList ax items.toArray ∧ I ∉ muts B W bxs' ∧ ax ∉ muts B W bxs' ∧
    ∀ b o, @LT.lt Nat _ b L → s.heap.get? b = some o → h'.get? b = some o) ?_ items.length ⟨0, s.heap, s.toks, m, bxs, ws, rfl, Nat.zero_le _, rfl, S, hit, hl, hIm, ham, fun _ _ _ e => e⟩
  rintro n _ ⟨i, h₁, tk, m₁, bxs₁, ws₁, rfl, hi, rfl, S₁, it₁, l₁, hI₁, ha₁, old₁⟩
  have hsz : items.toArray.size = items.length := List.size_toArray ..
  have hIltL : ∀ b : Addr, @LT.lt Nat _ b L → b ≠ I := fun b hb => Nat.ne_of_lt (Nat.lt_trans hb (Nat.lt_of_le_of_lt (Nat.le_add_right _ _) hI3))
  rcases Nat.lt_or_ge i items.length with hlt | hge
  · refine (Walks.list (prog := prg) (w := w) hh I ax haI items.toArray).item i _ _ _ (by rw [hsz]; exact hlt) ⟨it₁, l₁⟩ fun v h₂ tk₂ hv st₂ k₂ => ?_
    replace k₂ : ∀ b o, b ≠ I → h₁.get? b = some o → h₂.get? b = some o := fun b o hb e => k₂ b o (by simpa using hb) e
    rw [List.getElem?_toArray] at hv
    obtain ⟨z, tz, rfl⟩ := allI v (List.mem_of_getElem? hv)
    have S₂ := S₁.iter hL k₂ hIL hI3 ⟨_, _, it₁⟩
    refine wpAny_of_eq (rfl : letOwnedTupleGo (.Name "v" px) (.ref I) (Value.int z tz) = pure ()) ?_
    refine wpAny_assign_Name (ls_v S₂.N fun h₃ N₃ s₃ => ?_)
    have S₃ := S₂.set hL (by decide) (by decide) N₃ fun b o hb e => (s₃.2 b hb).trans e
    refine Wp.out (turn_spec (s := { s with heap := h₃, toks := tk₂ + 1 }) hL hh hroom S₃ (by omega) (if_pos rfl) ?_)
    intro h' tk' m' bxs' ws' S' K'
    refine ⟨items.length - (i + 1), by omega, i + 1, h', tk', m', bxs', ws', rfl, hlt, rfl, S', ?_, ?_, ?_, ?_, ?_⟩
    · obtain ⟨o, e, r⟩ := st₂.1
      exact ⟨o, K'.keep _ o hIL hI₁ ((s₃.2 _ hIL).trans e), r⟩
    · obtain ⟨o, e, r⟩ := st₂.2
      exact ⟨o, K'.keep _ o haL ha₁ ((s₃.2 _ haL).trans e), r⟩
    · intro hm
      rcases K'.new I hm with hm | f
      · exact hI₁ hm
      · obtain ⟨o, e, r⟩ := st₂.1
        exact Nat.lt_irrefl _ (f I o ((s₃.2 _ hIL).trans e))
    · intro hm
      rcases K'.new ax hm with hm | f
      · exact ha₁ hm
      · obtain ⟨o, e, r⟩ := st₂.2
        exact Nat.lt_irrefl _ (f ax o ((s₃.2 _ haL).trans e))
    · intro b o hb e
      exact old_of K' S₃.I b o hb ((s₃.2 b (Nat.ne_of_lt hb)).trans (k₂ b o (hIltL b hb) (old₁ b o hb e)))
  · have hii : i = items.length := by omega
    subst hii
    have st : (fun i h => Heap.IsListIter h I ax i ∧ h.IsList ax items.toArray) items.toArray.size h₁ := ⟨by rw [hsz]; exact it₁, l₁⟩
    refine (Walks.list (prog := prg) (w := w) hh I ax haI items.toArray).done _ _ _ st fun h₂ tk₂ k₂ => ?_
    replace k₂ : ∀ b o, b ≠ I → h₁.get? b = some o → h₂.get? b = some o := fun b o hb e => k₂ b o (by simpa using hb) e
    refine wpAny_execs_nil ?_
    exact h h₂ tk₂ m₁ bxs₁ ws₁ (S₁.iter hL k₂ hIL hI3 ⟨_, _, it₁⟩) fun b o hb e => k₂ b o (hIltL b hb) (old₁ b o hb e)
end

def finB : List Stmt := lawB.drop 7

/-- what holds where the asking begins -/
structure FSt (w : World) (mg mb : Str → Option Value) (L W : Addr) (k : Nat) (h : Heap) (m : Str → Option Value) (ws : List Value) : Prop where
  N : h.Ns L m
  mW : m "wholes" = some (.ref W)
  G : Gd w mg mb h
  tab : TabOk h
  ct : ∃ v, h.IsCell (L + 3) v
  lw : Lst h W ws
  hW : @LT.lt Nat _ (L + 3) W
  wh : ∀ v ∈ ws, WholeIn (L + 3) k h [] v

section
variable {w : World} {mg mb : Str → Option Value} {A : Around} {E : Value → Shared → Prop} {s : Shared} {L B W Kd Sp : Addr} {kv sv : List Value} {k : Nat} {m : Str → Option Value} {bxs : List Box} {ws : List Value}
theorem lv_tuple {pos : Pos} {Q : Value → Shared → Prop} (G : Gd w mg mb s.heap) (h : Q (.type "tuple") s) : wpAny (model prg w) A (eval (.Name "tuple" pos) (lawEnv L)) Q E s := nmB G ns_tuple bt_tuple (by decide) h
/-- boxes[0][j] -/
theorem lv_first {p1 p2 p3 p4 p5 : Pos} {j : Int} {t c0 c1 : Addr} {bs : List Value} {r : Value} {Q : Value → Shared → Prop}
    (N : s.heap.Ns L m) (mB : m "boxes" = some (.ref B)) (hl : Lst s.heap B (.ref t :: bs)) (ht : IsTup s.heap t #[.ref c0, .ref c1]) (hj : (j = 0 ∧ r = .ref c0) ∨ (j = 1 ∧ r = .ref c1))
    (h : ∀ tk, Q r { s with toks := tk }) :
    wpAny (model prg w) A (eval (.Subscript (.Subscript (.Name "boxes" p1) (.Constant (.int 0) 0 p2) p3) (.Constant (.int j) 0 p4) p5) (lawEnv L)) Q E s := by
  with_reducible refine Subscript_ (Subscript_ (lv_boxes N mB (wpAny_Constant_int ?_)))
  refine lst_item hl (by decide) (by decide) (y := .ref t) rfl ?_ (by with_unfolding_all rfl)
  with_reducible refine wpAny_Constant_int ?_
  rcases hj with ⟨rfl, rfl⟩ | ⟨rfl, rfl⟩
  · exact item_tupleT (l := [.ref c0, .ref c1]) (j := 0) ht (by decide) (by decide) rfl rfl (h _) (by with_unfolding_all rfl)
  · exact item_tupleT (l := [.ref c0, .ref c1]) (j := 1) ht (by decide) (by decide) rfl rfl (h _) (by with_unfolding_all rfl)

/-- the tuples are all ended, the whole is put down; what is left is the asking -/
theorem tail_spec {Q : Flow → Shared → Prop} (hL : @LT.lt Nat _ 40 L) (hh : A.handled = none) (hroom : A.depth < recursionLimit) (S : LSt w mg mb L B W Kd Sp kv sv k s.heap m bxs ws) (hk : k ≤ 40)
    (h : ∀ h' tk ws', FSt w mg mb L W 50 h' m ws' → (∀ b o, @LT.lt Nat _ b L → s.heap.get? b = some o → h'.get? b = some o) → Wp (model prg w) A (execs finB (lawEnv L)) Q E { s with heap := h', toks := tk }) :
    Wp (model prg w) A (execs (lawB.drop 5) (lawEnv L)) Q E s := by
  constructor
  rw [show lawB.drop 5 = [_, _, _, _] from rfl]
  walk_at "m cons"
  with_reducible refine wpAny_While ?_
  have hz4 := S.z4
  refine codeAny_whileLoop (fun n s' => ∃ h' tk bxs' ws' k', n = bxs'.length ∧ s' = { s with heap := h', toks := tk } ∧ LSt w mg mb L B W Kd Sp kv sv k' h' m bxs' ws' ∧ k' + bxs'.length ≤ 47 ∧ ∀ b o, @LT.lt Nat _ b L → s.heap.get? b = some o → h'.get? b = some o) ?_ bxs.length ⟨s.heap, s.toks, bxs, ws, k, rfl, rfl, S, by omega, fun _ _ _ e => e⟩
  rintro n _ ⟨h₁, tk, bxs₁, ws₁, k₁, rfl, rfl, S₁, hk₁, old₁⟩
  have lenB : (bxs₁.map fun x => Value.ref x.t).length = bxs₁.length := List.length_map _
  have zB : (bxs₁.map fun x => Value.ref x.t).length ≤ 1000 := by have := S₁.z4; omega
  walk_at "m cmp"
  with_reducible refine lv_lenBoxes S₁.I.G S₁.N S₁.mB S₁.I.lb zB ?_
  intro t1 tk1
  rw [lenB]
  with_reducible refine wpAny_Constant_int (gt_int (wpAny_truthy_bool ?_))
  by_cases h2 : 1 < bxs₁.length
  · rw [decide_eq_true (by omega), if_pos rfl]
    walk_at "m cons"
    walk_at "m expr"
    with_reducible refine lv_tupCall S₁.I.G S₁.N S₁.mB S₁.mW ?_
    refine close_spec (m := m) (bxs := bxs₁) (ws := ws₁) hL hh hroom S₁ (by omega) h2 ?_
    intro h' tk2 bxs' ws' S' K' hlen
    walk_at "m nil"
    exact ⟨bxs'.length, by omega, h', tk2, bxs', ws', k₁ + 1, rfl, rfl, S', by omega, fun b o hb e => old_of K' S₁.I b o hb (old₁ b o hb e)⟩
  · rw [decide_eq_false (by omega)]
    simp only [Bool.false_eq_true, if_false]
    walk_at "m nil"
    dsimp only
    have h1 : bxs₁.length = 1 := by have := S₁.ne; omega
    obtain ⟨x, rfl⟩ := List.length_eq_one_iff.mp h1
    have I := S₁.I
    have X := I.bx x (.head _)
    have lB : Lst h₁ B [.ref x.t] := I.lb
    have zx := S₁.z1 x (.head _)
    have z3 := S₁.z3
    have hWm : W ∈ muts B W [x] := .tail _ (.head _)
    have nd := I.nd
    rw [muts_def, List.nodup_cons, List.nodup_cons] at nd
    obtain ⟨nB, nW, nP⟩ := nd
    have hxa : x.a ∈ ads [x] := .head _
    have hxb : x.b ∈ ads [x] := .tail _ (.head _)
    walk_at "m cons"
    walk_at "m expr"
    walk_at "m meth"
    with_reducible refine lv_wholes S₁.N S₁.mW ?_
    with_reducible refine lst_method I.lw F.slot_list_append F.type_list_append ?_
    walk_at "m m1"
    walk_at "m arg"
    with_reducible refine Tuple_ ?_
    walk_at "m arg"
    walk_at "m call"
    with_reducible refine lv_tuple I.G ?_
    walk_at "m t1"
    walk_at "m arg"
    with_reducible refine lv_first S₁.N S₁.mB lB X.tt (.inl ⟨rfl, rfl⟩) ?_
    intro tk2
    with_reducible refine args_nil ?_
    refine call_tuple_list X.la.isList (fun h₂ k₂ => ?_) (szOk (by simp; omega))
    have k2 : ∀ b o, h₁.get? b = some o → (h₂.push { cls := .type "tuple", data := .seq x.vs.toArray }).get? b = some o := fun b o e => Heap.get?_push_of_some _ (k₂ b o e)
    have Tq : IsTup (h₂.push { cls := .type "tuple", data := .seq x.vs.toArray }) h₂.objs.size x.vs.toArray := ⟨_, Heap.get?_push_size _ rfl, rfl, _, rfl⟩
    have fq : ∀ b o, h₁.get? b = some o → b < h₂.objs.size := fun b o e => Heap.lt_size (k₂ b o e)
    generalize h₂.push { cls := .type "tuple", data := .seq x.vs.toArray } = h₃ at k2 Tq
    generalize h₂.objs.size = q at fq Tq
    walk_at "m arg"
    with_reducible refine lv_first (S₁.N.keeps k2) S₁.mB (lB.at fun o e => k2 _ o e) (X.tt.keeps k2) (.inr ⟨rfl, rfl⟩) ?_
    intro tk3
    with_reducible refine args_nil (new_tuple (by simp) ?_)
    intro h₄ p k4 Tp fp
    with_reducible refine args_nil ?_
    have k14 : ∀ c o, h₁.get? c = some o → h₄.get? c = some o := fun c o e => k4 c o (k2 c o e)
    have lW4 : Lst h₄ W ws₁ := I.lw.at fun o e => k14 _ o e
    refine lst_append (a := W) lW4 (by omega) ?_
    intro h₅ lW5 s5
    dsimp only
    have K5 : ∀ b o, b ∉ [W] → h₁.get? b = some o → h₅.get? b = some o := fun b o hb e => (s5.2 b (by simpa using hb)).trans (k14 b o e)
    obtain ⟨g1, g2, g3, g4, g5, g6, g7, g8, hc⟩ := I.base (chg := [W]) hL (fun c hm => .inr (List.mem_singleton.mp hm ▸ hWm)) K5
    have l3 : @LT.lt Nat _ (L + 3) p ∧ @LT.lt Nat _ (L + 3) q := by
      obtain ⟨v, o, e, _⟩ := I.ct
      exact ⟨fp _ _ (k2 _ _ e), fq _ _ e⟩
    have hLW : L ≠ W := fun e => by
      have := I.hi W hWm
      rw [← e] at this
      exact absurd this (Nat.not_lt.mpr (Nat.le_add_right _ _))
    have Tp5 : IsTup h₅ p #[.ref q, .ref x.b] := let ⟨o, e, r⟩ := Tp; ⟨o, (s5.2 _ (tup_ne_list Tp lW4)).trans e, r⟩
    have Tq5 : IsTup h₅ q x.vs.toArray := let ⟨o, e, r⟩ := Tq; ⟨o, (s5.2 _ (tup_ne_list (Tq.keeps k4) lW4)).trans (k4 _ _ e), r⟩
    have le50 : k₁ + 1 ≤ 50 := by have := hk₁; omega
    have F5 : FSt w mg mb L W 50 h₅ m (ws₁ ++ [.ref p]) := by
      refine ⟨S₁.N.at fun o e => K5 _ o (by simpa using hLW) e, S₁.mW, g1, g2, g5, lW5, I.hi W hWm, fun v hv => ?_⟩
      rcases List.mem_append.mp hv with hv | hv
      · obtain ⟨p', x', c, ys, ns, e, hp, hcL, hcm, tp, th, lc, nm⟩ := (I.wh v hv).keep (mu' := []) K5 hc fun c hcm hcL _ => ⟨fun hm => hcm (List.mem_singleton.mp hm ▸ hWm), by simp⟩
        exact ⟨p', x', c, ys, ns, e, hp, hcL, by simp, tp, th.le (by omega), lc, nm⟩
      · rw [List.mem_singleton.mp hv]
        have hxbW : x.b ≠ W := fun e => nW (e ▸ hxb)
        refine ⟨p, .ref q, x.b, x.ys, x.nss.flatten, rfl, l3.1, I.hi _ (.tail _ (.tail _ hxb)), by simp, Tp5, ?_, X.lb.at fun o e => K5 _ o (by simpa using hxbW) e, X.nm, ?_⟩
        rotate_left
        · have := S₁.z2; simp at this; omega
        have th : ThingIn (L + 3) (k₁ + 1) h₅ (.ref q) x.nss.flatten := .inr ⟨q, x.vs, x.nss, rfl, l3.2, Tq5, f2_mono (fun _ _ t => thing_keep K5 hc t) X.th, rfl⟩
        exact th.le le50
    have old5 : ∀ b o, @LT.lt Nat _ b L → s.heap.get? b = some o → h₅.get? b = some o := fun b o hb e => by
      refine K5 b o ?_ (old₁ b o hb e)
      intro hm
      rw [List.mem_singleton.mp hm] at hb
      exact absurd (I.hi W hWm) (Nat.not_lt.mpr (Nat.le_trans (Nat.le_of_lt hb) (Nat.le_add_right _ _)))
    exact (h h₅ _ (ws₁ ++ [.ref p]) F5 old5).out
end

def undP (top : Str) (v : Value) : Bool := match v with
  | .str n _ => !(und n top)
  | _ => false
theorem undP_all {top : Str} : ∀ {ys : List Value} {ns : List Str}, F2 IsName ys ns → (((ys.filter (undP top)).length : Int) == 0) = ns.all fun n => und n top
  | _, _, .nil => rfl
  | _, _, .cons (a := y) (b := n) (l := ys) (l' := ns) ⟨t, e⟩ r => by
    subst e
    have ih := undP_all (top := top) r
    rw [List.all_cons, List.filter_cons]
    cases hu : und n top with
    | true =>
      have : undP top (.str n t) = false := by simp [undP, hu]
      rw [this]
      simp only [Bool.false_eq_true, if_false, Bool.true_and]
      exact ih
    | false =>
      have : undP top (.str n t) = true := by simp [undP, hu]
      rw [this]
      simp only [if_true, Bool.false_and, List.length_cons]
      simp only [beq_eq_false_iff_ne, ne_eq]
      omega

theorem same_list {vs items : List Value} (hl : vs.length = items.length) (h : ∀ (j : Nat) v, vs[j]? = some v → items[j]? = some v) : vs = items := by
  apply List.ext_getElem?
  intro i
  by_cases hi : i < vs.length
  · rw [List.getElem?_eq_getElem hi]
    exact (h i _ (List.getElem?_eq_getElem hi)).symm
  · rw [List.getElem?_eq_none (Nat.le_of_not_lt hi), List.getElem?_eq_none (by omega)]

section
variable {w : World} {mg mb : Str → Option Value} {A : Around} {E : Value → Shared → Prop} {s : Shared} {L : Addr} {m : Str → Option Value}
theorem lv_names {pos : Pos} {v : Value} {Q : Value → Shared → Prop} (N : s.heap.Ns L m) (hv : m "names" = some v) (h : Q v s) : wpAny (model prg w) A (eval (.Name "names" pos) (lawEnv L)) Q E s := nmL N hv h
theorem ns_under : nsIn (hd.heap_39 w.params) mainGlobals "_law_under" = some (some (.ref 28)) := rfl

/-- the names that do not stand under top -/
theorem comp_spec {pe pn pi p1 p2 p3 p4 p5 p6 : Pos} {c : Addr} {ys : List Value} {ns : List Str} {top : Str} {tt : Tok} {sc : Scope} {Q : Value → Shared → Prop} (e1 : closureFor sc (lawEnv L) = pure [(Str.ofString "top", L + 3)]) (e2 : ∀ y ∈ sc.names, y.2 ≠ .cell) (e3 : sc.kind = .function) (e4 : ∀ y ∈ sc.names, y.2 = .local → sc.names.lookup y.1 = some .local) (e5 : sc.names.lookup (Str.ofString "name") = some .local)
    (e6 : ∀ C, (compEnvC sc [(Str.ofString "top", L + 3)] C (lawEnv L)).kindOf "_law_under" = some .globalImplicit) (e7 : ∀ C, (compEnvC sc [(Str.ofString "top", L + 3)] C (lawEnv L)).kindOf "name" = some .local) (e8 : ∀ C, (compEnvC sc [(Str.ofString "top", L + 3)] C (lawEnv L)).kindOf "top" = some .cell)
    (G : Gd w mg mb s.heap) (hh : A.handled = none) (hroom : A.depth < recursionLimit) (N : s.heap.Ns L m) (hc : m "names" = some (.ref c)) (hl : Lst s.heap c ys) (hz : ys.length ≤ 10000) (hn : F2 IsName ys ns)
    (ht : s.heap.IsCell (L + 3) (some (.str top tt)))
    (h : ∀ D h' tk items, Heap.IsList h' D items → items.size = (ys.filter (undP top)).length → (∀ b o, s.heap.get? b = some o → h'.get? b = some o) → Q (.ref D) { s with heap := h', toks := tk }) :
    wpAny (model prg w) A (eval (.ListComp (.Name "name" pe) [⟨.Name "name" pn, .Name "names" pi, [.UnaryOp .Not (.Call (.Name "_law_under" p1) [.Name "name" p2, .Name "top" p3] [] p4) p5], 0⟩]
      sc p6) (lawEnv L)) Q E s := by
  with_reducible refine wpAny_ListComp_free (cl := [(Str.ofString "top", L + 3)]) (undP top) (fun v y => y = v) ?k1 ?k2 ?k3 ?k4 ?k5 ?k6 ?k7
  case k1 => exact e1
  case k2 => exact e2
  case k3 => exact e3
  case k4 => exact e4
  case k5 => exact e5
  case k7 => intro _; rfl
  case k6 =>
    with_reducible refine lv_names N hc ?_
    have hlt : c ≠ s.heap.objs.size := Nat.ne_of_lt hl.lt
    with_reducible refine wpAny_pyIter_list hl.isList ?_
    refine ⟨_, _, _, _, _, _, rfl, Walks.list (prog := prg) (w := w) hh s.heap.objs.size c hlt ys.toArray, szOk (by simp; omega), ⟨⟨_, Heap.get?_push_size _ rfl, rfl, rfl⟩, hl.isList.push _⟩, ?_, ?_, ?_⟩
    · intro b hb
      simp only [List.mem_cons, List.not_mem_nil, or_false] at hb
      rw [Heap.size_push]
      rcases hb with rfl | rfl
      · exact Nat.lt_succ_self _
      · exact Nat.lt_succ_of_lt hl.lt
    · have old : ∀ b o, s.heap.get? b = some o → b ∉ [s.heap.objs.size] := fun b o e hm => by
        rw [List.mem_singleton.mp hm] at e
        exact Nat.lt_irrefl _ (Heap.lt_size e)
      constructor
      · intro C i v s₃ m₃ E' hC hv hn3 hm3 hk3 htk
        have up : ∀ b o, s.heap.get? b = some o → s₃.heap.get? b = some o := fun b o e => hk3 b o (old b o e) (Heap.get?_push_of_some _ e)
        have G3 := G.keeps up
        have ht3 : s₃.heap.IsCell (L + 3) (some (.str top tt)) := let ⟨o, e, r⟩ := ht; ⟨o, up _ _ e, r⟩
        replace hv : ys[i]? = some v := by simpa using hv
        obtain ⟨n, _, t, rfl⟩ := hn.get i v hv
        with_reducible refine wpAny_tests_one (wpAny_isTrue_Not ?_)
        walk_at "m istrue"
        walk_at "m call"
        with_reducible refine Name_function_global ?k1 ?k2 (loadGlobal_global (mg := mg) ?kg (mg_of G3.X G3.g ns_under) ?_) ?k3
        case kg => exact G3.g
        case k1 => exact e3
        case k2 => exact e6 C
        case k3 => decide
        with_reducible refine callWith_F (fn28 G3) ?k5 ?k6 ?k7
        case k6 => rfl
        case k7 => rfl
        walk_at "m arg"
        with_reducible refine wpAny_Name (wpAny_loadName_local (m := m₃) ?k8 ?k9 ?kn hm3 ?_) ?k10
        case kn => exact hn3
        case k8 => exact e3
        case k9 => exact e7 C
        case k10 => decide
        walk_at "m arg"
        with_reducible refine wpAny_Name (wpAny_loadName_cell ?k8 ?k9 ?k11 ht3 ?_) ?k10
        case k8 => exact e3
        case k9 => exact e8 C
        case k10 => decide
        case k11 => rfl
        with_reducible refine args_nil ⟨fn28 G3, ?_⟩
        refine under_spec G3 hroom ?_
        intro h' tk kp
        refine wpAny_truthy_bool ⟨rfl, h', tk, rfl, kp⟩
      · intro C i v s₃ m₃ E' hC hv hp hn3 hm3 hk3 htk
        with_reducible refine wpAny_Name (wpAny_loadName_local (m := m₃) ?k8 ?k9 ?kn hm3 ?_) ?k10
        case kn => exact hn3
        case k8 => exact e3
        case k9 => exact e7 C
        case k10 => decide
        exact ⟨rfl, s₃.heap, s₃.toks, rfl, fun _ _ e => e⟩
    · intro D h' tk items vs hD hlD hpD hlen hP hF hk
      have e : vs = ys := same_list (by simpa using hlen) fun j v e => by simpa using hP j v e
      subst e
      refine h D h' tk items hlD ?_ fun b o e => hk b o ?_ (Heap.get?_push_of_some _ e)
      · rw [hF.length]; simp
      · intro hm
        rw [List.mem_singleton.mp hm] at e
        exact Nat.lt_irrefl _ (Heap.lt_size e)
end

/-- what the asking leaves: all but the frame, the cell of top and the table of codes -/
structure FRel (L : Addr) (s s' : Shared) : Prop where
  same : ∃ h' tk gs, s' = { s with heap := h', toks := tk, gens := gs }
  keep : ∀ b o, b ≠ L → b ≠ L + 3 → b ≠ 16 → s.heap.get? b = some o → s'.heap.get? b = some o
  tab : TabOk s'.heap
  grow : TabGrow s.heap s'.heap
  gens : GExt s.gens s'.gens
theorem FRel.trans {L : Addr} {s s' s'' : Shared} (x : FRel L s s') (y : FRel L s' s'') : FRel L s s'' := by
  obtain ⟨h', tk, gs, rfl⟩ := x.same
  obtain ⟨h'', tk', gs', rfl⟩ := y.same
  exact ⟨⟨h'', tk', gs', rfl⟩, fun b o h1 h2 h3 e => y.keep b o h1 h2 h3 (x.keep b o h1 h2 h3 e), y.tab, x.grow.trans y.grow, x.gens.trans y.gens⟩
theorem FRel.heap {L : Addr} {s : Shared} {h' : Heap} {tk : Nat} (T : TabOk s.heap) (hL : @LT.lt Nat _ 40 L) (k : ∀ b o, b ≠ L → b ≠ L + 3 → s.heap.get? b = some o → h'.get? b = some o) : FRel L s { s with heap := h', toks := tk } := by
  have n1 : (16 : Addr) ≠ L := Nat.ne_of_lt (Nat.lt_trans (by decide) hL)
  have n2 : (16 : Addr) ≠ L + 3 := Nat.ne_of_lt (Nat.lt_of_lt_of_le (Nat.lt_trans (by decide) hL) (Nat.le_add_right _ _))
  exact ⟨⟨h', tk, s.gens, rfl⟩, fun b o h1 h2 _ e => k b o h1 h2 e, T.at fun o e => k _ o n1 n2 e, .of fun o e => k _ o n1 n2 e, .refl _⟩
theorem FRel.of {L : Addr} {s s' : Shared} (x : Kept s s') : FRel L s s' := ⟨x.same, fun b o _ _ h3 e => x.heap b o (.inl h3) e, x.tab, x.grow, x.gens⟩
theorem FRel.hi {L : Addr} {s s' : Shared} (x : FRel L s s') (hL : @LT.lt Nat _ 40 L) {b : Addr} {o : Obj} (hb : @LT.lt Nat _ (L + 3) b) (e : s.heap.get? b = some o) : s'.heap.get? b = some o :=
  x.keep b o (Nat.ne_of_gt (lt3 hb)) (Nat.ne_of_gt hb) (Nat.ne_of_gt (Nat.lt_trans (Nat.lt_trans (by decide) hL) (lt3 hb))) e
theorem FRel.G {w : World} {mg mb : Str → Option Value} {L : Addr} {s s' : Shared} (x : FRel L s s') (hL : @LT.lt Nat _ 40 L) (G : Gd w mg mb s.heap) : Gd w mg mb s'.heap :=
  G.low fun b o h1 h2 e => x.keep b o (Nat.ne_of_lt (Nat.lt_of_le_of_lt h2 hL)) (Nat.ne_of_lt (Nat.lt_of_lt_of_le (Nat.lt_of_le_of_lt h2 hL) (Nat.le_add_right _ _))) h1 e
theorem FRel.whole {L : Addr} {s s' : Shared} (x : FRel L s s') (hL : @LT.lt Nat _ 40 L) {k : Nat} {v : Value} (W : WholeIn (L + 3) k s.heap [] v) : WholeIn (L + 3) k s'.heap [] v := by
  obtain ⟨p, y, c, ys, ns, e, hp, hc, hm, tp, th, lc, nm⟩ := W
  refine ⟨p, y, c, ys, ns, e, hp, hc, hm, ?_, th.ext fun b o hb _ e => x.hi hL hb e, lc.at fun o e => x.hi hL hc e, nm⟩
  obtain ⟨o, e, r⟩ := tp
  exact ⟨o, x.hi hL hp e, r⟩

section
variable {w : World} {mg mb : Str → Option Value} {A : Around} {E : Value → Shared → Prop} {s : Shared} {L : Addr} {m : Str → Option Value}
theorem lv_thing {pos : Pos} {v : Value} {Q : Value → Shared → Prop} (N : s.heap.Ns L m) (hv : m "thing" = some v) (h : Q v s) : wpAny (model prg w) A (eval (.Name "thing" pos) (lawEnv L)) Q E s := nmL N hv h
theorem lv_base {pos : Pos} {v : Value} {Q : Value → Shared → Prop} (N : s.heap.Ns L m) (hv : m "base" = some v) (h : Q v s) : wpAny (model prg w) A (eval (.Name "base" pos) (lawEnv L)) Q E s := nmL N hv h
theorem lv_due {pos : Pos} {v : Value} {Q : Value → Shared → Prop} (N : s.heap.Ns L m) (hv : m "due" = some v) (h : Q v s) : wpAny (model prg w) A (eval (.Name "due" pos) (lawEnv L)) Q E s := nmL N hv h
theorem lv_sub {pos : Pos} {Q : Value → Shared → Prop} (G : Gd w mg mb s.heap) (h : Q (.ref 21) s) : wpAny (model prg w) A (eval (.Name "_is_subtype" pos) (lawEnv L)) Q E s := nmG G ns_sub h
theorem ls_due {v : Value} {Q : Unit → Shared → Prop} (F : s.heap.Ns L m) (h : ∀ h', h'.Ns L (fun y => if y = "due" then some v else m y) → Heap.SameBut L s.heap h' → Q () { s with heap := h', toks := s.toks + 1 }) : wpAny (model prg w) A (storeName (lawEnv L) "due" v) Q E s := stL F h

def askB : List Stmt := match (finB[0]? : Option Stmt) with
  | some (Stmt.For _ _ [Stmt.For _ _ b _ _] _ _) => b
  | _ => []

/-- one asking: the table's word and the code's word are one -/
theorem ask_spec {x : Value} {c : Addr} {ys : List Value} {ns : List Str} {Bs : String} {tt : Tok} {k : Nat} {Q : Flow → Shared → Prop} (hL : @LT.lt Nat _ 40 L) (hh : A.handled = none) (hroom : A.depth + 3 * k + 3 < recursionLimit) (hB : Bs ∈ bases)
    (G : Gd w mg mb s.heap) (T : TabOk s.heap) (N : s.heap.Ns L m) (mt : m "thing" = some x) (mn : m "names" = some (.ref c)) (mb' : m "base" = some (.type Bs)) (ct : s.heap.IsCell (L + 3) (some (.str (Str.ofString Bs) tt)))
    (th : ThingIn (L + 3) k s.heap x ns) (lc : Lst s.heap c ys) (nm : F2 IsName ys ns) (hz : ys.length ≤ 10000)
    (h : ∀ s' v, FRel L s s' → s'.heap.Ns L (fun y => if y = "due" then some v else m y) → s'.heap.IsCell (L + 3) (some (.str (Str.ofString Bs) tt)) → Q .next s') :
    Wp (model prg w) A (execs askB (lawEnv L)) Q E s := by
  constructor
  rw [show askB = [_, _] from rfl]
  have hLs : L < s.heap.objs.size := N.lt
  walk_at "m cons"
  with_reducible refine wpAny_Assign_Name ?hc ?hs
  case hs => rfl
  walk_at "m cmpv"
  walk_at "m call"
  with_reducible refine lv_len G ?_
  walk_at "m with"
  walk_at "m arg"
  with_reducible refine comp_spec (ns := ns) ?e1 ?e2 ?e3 ?e4 ?e5 ?e6 ?e7 ?e8 G hh (Nat.lt_of_le_of_lt (Nat.le_trans (Nat.le_add_right _ _) (Nat.le_add_right _ _)) hroom) N mn lc hz nm ct ?_
  case e1 => rfl
  case e2 => decide
  case e3 => rfl
  case e4 => decide
  case e5 => rfl
  case e6 => intro _; rfl
  case e7 => intro _; rfl
  case e8 => intro _; rfl
  intro D h₁ tk₁ items hD hsz k1
  with_reducible refine args_nil ?_
  have hzz : (ys.filter (undP (Str.ofString Bs))).length ≤ ys.length := List.length_filter_le _ _
  refine len_list hD (by rw [hsz]; omega) ?_
  with_reducible refine wpAny_Constant_int (eq_int ?_)
  rw [hsz, undP_all nm]
  generalize hd : (ns.all fun n => und n (Str.ofString Bs)) = due
  with_reducible refine ls_due (N.keeps k1) ?_
  intro h₂ N2 s2
  dsimp only
  have k2 : ∀ b o, b ≠ L → s.heap.get? b = some o → h₂.get? b = some o := fun b o hb e => (s2.2 b hb).trans (k1 b o e)
  have hLc : ∀ b : Addr, @LT.lt Nat _ (L + 3) b → b ≠ L := fun b hb => Nat.ne_of_gt (lt3 hb)
  have F2' : ∀ tk, FRel L s { s with heap := h₂, toks := tk } := fun tk => FRel.heap T hL fun b o h1 _ e => k2 b o h1 e
  have G2 : Gd w mg mb h₂ := (F2' 0).G hL G
  have ct2 : h₂.IsCell (L + 3) (some (.str (Str.ofString Bs) tt)) := let ⟨o, e, r⟩ := ct; ⟨o, k2 _ o (Nat.ne_of_gt (Nat.lt_add_of_pos_right (by decide))) e, r⟩
  have m1 : (fun y => if y = Str.ofString "due" then some (Value.bool due) else m y) "thing" = some x := (if_neg (by decide)).trans mt
  have m2 : (fun y => if y = Str.ofString "due" then some (Value.bool due) else m y) "base" = some (.type Bs) := (if_neg (by decide)).trans mb'
  have m3 : (fun y => if y = Str.ofString "due" then some (Value.bool due) else m y) "due" = some (.bool due) := if_pos rfl
  walk_at "m cons"
  walk_at "m if"
  walk_at "m cmp"
  walk_at "m call"
  with_reducible refine lv_sub G2 ?_
  with_reducible refine callWith_F (fn21 G2) ?k5 ?k6 ?k7
  case k6 => rfl
  case k7 => rfl
  walk_at "m arg"
  with_reducible refine lv_thing N2 m1 ?_
  walk_at "m arg"
  with_reducible refine lv_base N2 m2 ?_
  with_reducible refine args_nil ⟨fn21 G2, ?_⟩
  have h16 : 16 ≤ L + 3 := Nat.le_trans (Nat.le_of_lt (Nat.lt_trans (by decide) hL)) (Nat.le_add_right _ _)
  refine sub_spec (lo := L + 3) h16 k A _ _ x ns Bs _ hB G2 (F2' 0).tab (th.ext fun b o hb _ e => k2 b o (hLc b hb) e) hh hroom ?_
  intro s₃ kp
  have N3 : s₃.heap.Ns L (fun y => if y = Str.ofString "due" then some (Value.bool due) else m y) := N2.at fun o e => kp.heap _ o (.inl (Nat.ne_of_gt (Nat.lt_trans (by decide) hL))) e
  have ct3 : s₃.heap.IsCell (L + 3) (some (.str (Str.ofString Bs) tt)) := let ⟨o, e, r⟩ := ct2; ⟨o, kp.heap _ o (.inl (Nat.ne_of_gt (Nat.lt_of_lt_of_le (Nat.lt_trans (by decide) hL) (Nat.le_add_right _ _)))) e, r⟩
  with_reducible refine lv_due N3 m3 ?_
  rw [hd]
  refine wpAny_isNot_self (by cases due <;> rfl) (wpAny_truthy_bool ?_)
  simp only [Bool.false_eq_true, if_false]
  walk_at "m nil"
  dsimp only
  walk_at "m nil"
  exact h s₃ _ ((F2' _).trans (FRel.of kp)) N3 ct3
end

def outB : List Stmt := match (finB[0]? : Option Stmt) with
  | some (Stmt.For _ _ b _ _) => b
  | _ => []

theorem own_tupleiter {prog : Program} {w : World} {A : Around} {E : Value → Shared → Prop} {s : Shared} {elts : List Expr} {x1} {pos : Pos} {I l T : Addr} {i : Nat} {Q : Unit → Shared → Prop} (hit : s.heap.IsTupleIter I l i) (hQ : Q () s) :
    wpAny (model prog w) A (letOwnedTupleGo (.Tuple elts x1 pos) (.ref I) (.ref T)) Q E s := by
  obtain ⟨o, ho, hc, hd⟩ := hit
  unfold letOwnedTupleGo
  refine wpAny_bind (wpAny_load ho ?_)
  rw [hc, hd]
  show wpAny _ A (if (["enumerate", "zip", "dict_itemiterator", "dict_reverseitemiterator", "odict_iterator", "itertools.zip_longest", "itertools.pairwise"].contains "tuple_iterator" &&
      (#[.ref l, .int i 0] : Array Value)[0]? == some (rawInt T)) = true then _ else _) Q E s
  rw [show (["enumerate", "zip", "dict_itemiterator", "dict_reverseitemiterator", "odict_iterator", "itertools.zip_longest", "itertools.pairwise"].contains "tuple_iterator") = false from by decide, Bool.false_and]
  exact wpAny_pure hQ

section
variable {w : World} {mg mb : Str → Option Value} {A : Around} {E : Value → Shared → Prop} {s : Shared} {L : Addr} {m : Str → Option Value}
theorem bt_Exception : bootBuiltins "Exception" = some (.type "Exception") := by decide +kernel
theorem bt_BaseException : bootBuiltins "BaseException" = some (.type "BaseException") := by decide +kernel
theorem bt_LookupError : bootBuiltins "LookupError" = some (.type "LookupError") := by decide +kernel
theorem ns_Exception : nsIn (hd.heap_39 w.params) mainGlobals "Exception" = some none := rfl
theorem ns_BaseException : nsIn (hd.heap_39 w.params) mainGlobals "BaseException" = some none := rfl
theorem ns_LookupError : nsIn (hd.heap_39 w.params) mainGlobals "LookupError" = some none := rfl
theorem lv_Exception {pos : Pos} {Q : Value → Shared → Prop} (G : Gd w mg mb s.heap) (h : Q (.type "Exception") s) : wpAny (model prg w) A (eval (.Name "Exception" pos) (lawEnv L)) Q E s := nmB G ns_Exception bt_Exception (by decide) h
theorem lv_BaseException {pos : Pos} {Q : Value → Shared → Prop} (G : Gd w mg mb s.heap) (h : Q (.type "BaseException") s) : wpAny (model prg w) A (eval (.Name "BaseException" pos) (lawEnv L)) Q E s := nmB G ns_BaseException bt_BaseException (by decide) h
theorem lv_LookupError {pos : Pos} {Q : Value → Shared → Prop} (G : Gd w mg mb s.heap) (h : Q (.type "LookupError") s) : wpAny (model prg w) A (eval (.Name "LookupError" pos) (lawEnv L)) Q E s := nmB G ns_LookupError bt_LookupError (by decide) h
theorem ls_base {v : Value} {Q : Unit → Shared → Prop} (F : s.heap.Ns L m) (h : ∀ h', h'.Ns L (fun y => if y = "base" then some v else m y) → Heap.SameBut L s.heap h' → Q () { s with heap := h', toks := s.toks + 1 }) : wpAny (model prg w) A (storeName (lawEnv L) "base" v) Q E s := stL F h
theorem ls_top {v : Value} {v₀ : Option Value} {Q : Unit → Shared → Prop} (hc : s.heap.IsCell (L + 3) v₀) (h : ∀ h', h'.IsCell (L + 3) (some v) → Heap.SameBut (L + 3) s.heap h' → Q () { s with heap := h' }) : wpAny (model prg w) A (storeName (lawEnv L) "top" v) Q E s :=
  wpAny_storeName_cell rfl rfl (by rfl) hc h

/-- the pair (kind, its name) -/
def PairAt (h : Heap) (L : Addr) (u : Value) (Bs : String) : Prop := ∃ p t, u = .ref p ∧ @LT.lt Nat _ (L + 3) p ∧ IsTup h p #[.type Bs, .str (Str.ofString Bs) t]

/-- a thing asked against the three kinds -/
theorem inner_spec {x : Value} {c : Addr} {ys : List Value} {ns : List Str} {k : Nat} {Q : Flow → Shared → Prop} (hL : @LT.lt Nat _ 40 L) (hh : A.handled = none) (hroom : A.depth + 3 * k + 3 < recursionLimit)
    (G : Gd w mg mb s.heap) (T : TabOk s.heap) (N : s.heap.Ns L m) (mt : m "thing" = some x) (mn : m "names" = some (.ref c)) (ct : ∃ v, s.heap.IsCell (L + 3) v) (hcL : @LT.lt Nat _ (L + 3) c)
    (th : ThingIn (L + 3) k s.heap x ns) (lc : Lst s.heap c ys) (nm : F2 IsName ys ns) (hz : ys.length ≤ 10000)
    (h : ∀ s' m', FRel L s s' → s'.heap.Ns L m' → (∀ y : Str, y ≠ Str.ofString "due" → y ≠ Str.ofString "base" → m' y = m y) → (∃ v, s'.heap.IsCell (L + 3) v) → Q .next s') :
    Wp (model prg w) A (execs outB (lawEnv L)) Q E s := by
  constructor
  rw [show outB = [_] from rfl]
  have hL3 : @LT.lt Nat _ (L + 3) s.heap.objs.size := let ⟨_, o, e, _⟩ := ct; Heap.lt_size e
  walk_at "m cons"
  walk_at "m for"
  with_reducible refine Tuple_ ?_
  walk_at "m arg"
  with_reducible refine Tuple_ ?_
  walk_at "m arg"
  with_reducible refine lv_Exception G ?_
  walk_at "m arg"
  with_reducible refine Calls.Constant_str (args_nil (new_tuple (by simp) ?_))
  intro h₁ u0 k1 T0 f0
  have G1 := G.keeps k1
  walk_at "m arg"
  with_reducible refine Tuple_ ?_
  walk_at "m arg"
  with_reducible refine lv_BaseException G1 ?_
  walk_at "m arg"
  with_reducible refine Calls.Constant_str (args_nil (new_tuple (by simp) ?_))
  intro h₂ u1 k2 T1 f1
  have G2 := G1.keeps k2
  walk_at "m arg"
  with_reducible refine Tuple_ ?_
  walk_at "m arg"
  with_reducible refine lv_LookupError G2 ?_
  walk_at "m arg"
  with_reducible refine Calls.Constant_str (args_nil (new_tuple (by simp) ?_))
  intro h₃ u2 k3 T2 f2
  with_reducible refine args_nil (new_tuple (by simp) ?_)
  intro h₄ Tt k4 TT f4
  have k04 : ∀ b o, s.heap.get? b = some o → h₄.get? b = some o := fun b o e => k4 b o (k3 b o (k2 b o (k1 b o e)))
  have hi : ∀ {q : Addr}, (∀ b o, s.heap.get? b = some o → b < q) → @LT.lt Nat _ (L + 3) q := fun f => let ⟨_, o, e, _⟩ := ct; f _ o e
  have P0 : PairAt h₄ L (.ref u0) "Exception" := ⟨u0, _, rfl, hi f0, (T0.keeps k2).keeps k3 |>.keeps k4⟩
  have P1 : PairAt h₄ L (.ref u1) "BaseException" := ⟨u1, _, rfl, hi fun b o e => f1 b o (k1 b o e), (T1.keeps k3).keeps k4⟩
  have P2 : PairAt h₄ L (.ref u2) "LookupError" := ⟨u2, _, rfl, hi fun b o e => f2 b o (k2 b o (k1 b o e)), T2.keeps k4⟩
  have hTt : @LT.lt Nat _ (L + 3) Tt := hi fun b o e => f4 b o (k3 b o (k2 b o (k1 b o e)))
  have TT' : h₄.IsTuple Tt #[.ref u0, .ref u1, .ref u2] := TT
  clear T0 T1 T2 f0 f1 f2 f4 k1 k2 k3 k4 G1 G2 TT
  with_reducible refine wpAny_pyIter_tuple TT' ?_
  have hTtlt : Tt < h₄.objs.size := let ⟨_, e, _⟩ := TT'; Heap.lt_size e
  have hI3 : @LT.lt Nat _ (L + 3) h₄.objs.size := Nat.lt_trans hTt hTtlt
  have k5 : ∀ b o, h₄.get? b = some o → (h₄.push { cls := .type "tuple_iterator", data := .fields #[.ref Tt, .int 0 0] }).get? b = some o := fun b o e => Heap.get?_push_of_some _ e
  have it5 : (h₄.push { cls := .type "tuple_iterator", data := .fields #[.ref Tt, .int 0 0] }).IsTupleIter h₄.objs.size Tt 0 := ⟨_, Heap.get?_push_size _ rfl, rfl, rfl⟩
  have hTI : Tt ≠ h₄.objs.size := Nat.ne_of_lt hTtlt
  have fI : ∀ b o, s.heap.get? b = some o → b ≠ h₄.objs.size := fun b o e => Nat.ne_of_lt (Heap.lt_size (k04 b o e))
  have lt4 : ∀ {u Bs}, PairAt h₄ L u Bs → ∃ p, u = .ref p ∧ p ≠ h₄.objs.size := fun {u Bs} ⟨p, t, e, _, o, e', _⟩ => ⟨p, e, Nat.ne_of_lt (Heap.lt_size e')⟩
  obtain ⟨q0, e0, n0⟩ := lt4 P0
  obtain ⟨q1, e1, n1⟩ := lt4 P1
  obtain ⟨q2, e2, n2⟩ := lt4 P2
  cases e0; cases e1; cases e2
  generalize h₄.objs.size = I at it5 hTI hI3 fI n0 n1 n2
  have P05 : PairAt (h₄.push { cls := .type "tuple_iterator", data := .fields #[.ref Tt, .int 0 0] }) L (.ref u0) "Exception" := let ⟨p, t, e, a, b⟩ := P0; ⟨p, t, e, a, b.keeps k5⟩
  have P15 : PairAt (h₄.push { cls := .type "tuple_iterator", data := .fields #[.ref Tt, .int 0 0] }) L (.ref u1) "BaseException" := let ⟨p, t, e, a, b⟩ := P1; ⟨p, t, e, a, b.keeps k5⟩
  have P25 : PairAt (h₄.push { cls := .type "tuple_iterator", data := .fields #[.ref Tt, .int 0 0] }) L (.ref u2) "LookupError" := let ⟨p, t, e, a, b⟩ := P2; ⟨p, t, e, a, b.keeps k5⟩
  have TT5 : (h₄.push { cls := .type "tuple_iterator", data := .fields #[.ref Tt, .int 0 0] }).IsTuple Tt #[.ref u0, .ref u1, .ref u2] := let ⟨o, e, r⟩ := TT'; ⟨o, k5 _ o e, r⟩
  have k05 : ∀ b o, s.heap.get? b = some o → (h₄.push { cls := .type "tuple_iterator", data := .fields #[.ref Tt, .int 0 0] }).get? b = some o := fun b o e => k5 b o (k04 b o e)
  generalize h₄.push { cls := .type "tuple_iterator", data := .fields #[.ref Tt, .int 0 0] } = h₅ at it5 P05 P15 P25 TT5 k05
  clear P0 P1 P2 k5 TT' hTtlt k04
  refine codeAny_forLoop_any (fun n s' => ∃ i m', n = 3 - i ∧ i ≤ 3 ∧ FRel L s s' ∧ s'.heap.Ns L m' ∧ (∀ y : Str, y ≠ Str.ofString "due" → y ≠ Str.ofString "base" → m' y = m y) ∧ (∃ v, s'.heap.IsCell (L + 3) v) ∧ s'.heap.IsTupleIter I Tt i ∧ s'.heap.IsTuple Tt #[.ref u0, .ref u1, .ref u2] ∧
    PairAt s'.heap L (.ref u0) "Exception" ∧ PairAt s'.heap L (.ref u1) "BaseException" ∧ PairAt s'.heap L (.ref u2) "LookupError") ?_ 3
    ⟨0, m, rfl, by decide, FRel.heap T hL fun b o _ _ e => k05 b o e, N.keeps k05, fun _ _ _ => rfl, (let ⟨v, o, e, r⟩ := ct; ⟨v, o, k05 _ o e, r⟩), it5, TT5, P05, P15, P25⟩
  clear it5 TT5 P05 P15 P25 k05
  rintro n s₁ ⟨i, m₁, rfl, hi3, R1, N1, M1, ⟨v1, C1⟩, it1, T1, Q0, Q1, Q2⟩
  have hsz : (#[Value.ref u0, .ref u1, .ref u2] : Array Value).size = 3 := rfl
  have hIL : I ≠ L := Nat.ne_of_gt (lt3 hI3)
  have hIL3 : I ≠ L + 3 := Nat.ne_of_gt hI3
  have h16L : (16 : Addr) < L := Nat.lt_trans (by decide) hL
  -- the walk moves the iterator alone
  have step : ∀ (h' : Heap) (tk : Nat), (∀ b o, b ∉ [I] → s₁.heap.get? b = some o → h'.get? b = some o) → FRel L s { s₁ with heap := h', toks := tk } ∧ h'.Ns L m₁ ∧ h'.IsCell (L + 3) v1 ∧ h'.IsTuple Tt #[.ref u0, .ref u1, .ref u2] ∧ PairAt h' L (.ref u0) "Exception" ∧ PairAt h' L (.ref u1) "BaseException" ∧ PairAt h' L (.ref u2) "LookupError" := by
    intro h' tk k'
    have kk : ∀ b o, b ≠ I → s₁.heap.get? b = some o → h'.get? b = some o := fun b o hb e => k' b o (by simpa using hb) e
    obtain ⟨⟨h1, tk1, gs1, rfl⟩, kp, tb, gr, ge⟩ := R1
    have t16 : (16 : Addr) ≠ I := Nat.ne_of_lt (Nat.lt_trans h16L (lt3 hI3))
    have pk : ∀ {u Bs}, u ≠ I → PairAt h1 L (.ref u) Bs → PairAt h' L (.ref u) Bs := fun {u Bs} hn ⟨p, t, e, a, o, e', r⟩ => by
      cases e
      exact ⟨u, t, rfl, a, o, kk _ o hn e', r⟩
    exact ⟨⟨⟨h', tk, gs1, rfl⟩, fun b o a1 a2 a3 e => kk b o (fI b o e) (kp b o a1 a2 a3 e), tb.at fun o e => kk _ o t16 e, gr.trans (.of fun o e => kk _ o t16 e), ge⟩,
      N1.at fun o e => kk _ o hIL.symm e, (let ⟨o, e, r⟩ := C1; ⟨o, kk _ o hIL3.symm e, r⟩), (let ⟨o, e, r⟩ := T1; ⟨o, kk _ o hTI e, r⟩), pk n0 Q0, pk n1 Q1, pk n2 Q2⟩
  rcases Nat.lt_or_ge i 3 with hlt | hge
  · refine (Walks.tuple (prog := prg) (w := w) hh I Tt hTI #[.ref u0, .ref u1, .ref u2]).item i _ _ _ (by rw [hsz]; exact hlt) ⟨it1, T1⟩ fun v h₂ tk₂ hv st₂ k₂ => ?_
    obtain ⟨R2, N2, C2, T2, q0, q1, q2⟩ := step h₂ tk₂ k₂
    have it2 := st₂.1
    obtain ⟨u, Bs, rfl, hBs, hP⟩ : ∃ u Bs, v = .ref u ∧ Bs ∈ bases ∧ PairAt h₂ L (.ref u) Bs := by
      have : i = 0 ∨ i = 1 ∨ i = 2 := by omega
      rcases this with rfl | rfl | rfl
      · simp at hv; exact ⟨u0, _, hv.symm, by decide, q0⟩
      · simp at hv; exact ⟨u1, _, hv.symm, by decide, q1⟩
      · simp at hv; exact ⟨u2, _, hv.symm, by decide, q2⟩
    clear step k₂ st₂ hv
    refine own_tupleiter it2 ?_
    obtain ⟨p, tt, ep, hpL, tp⟩ := hP
    cases ep
    with_reducible refine assign_Tuple_tuple hh tp ?hn ?hst ?_
    case hn => rfl
    case hst => rfl
    intro h₃ x3
    have k3 : ∀ b o, h₂.get? b = some o → h₃.get? b = some o := fun b o e => x3 b o (Nat.ne_of_lt (Heap.lt_size e)) e
    show wpAny _ A (assignInOrder [assign (.Name "base" _) (lawEnv L), assign (.Name "top" _) (lawEnv L)] [.type Bs, .str (Str.ofString Bs) tt]) _ _ _
    refine assignInOrder_cons (wpAny_assign_Name (ls_base (N2.keeps k3) ?_))
    intro h₆ N6 s6
    have C6 : h₆.IsCell (L + 3) v1 := let ⟨o, e, r⟩ := C2; ⟨o, (s6.2 _ (Nat.ne_of_gt (Nat.lt_add_of_pos_right (by decide)))).trans (k3 _ o e), r⟩
    refine assignInOrder_cons (wpAny_assign_Name (ls_top C6 ?_))
    intro h₇ C7 s7
    refine assignInOrder_nil ?_
    have k7 : ∀ b o, b ≠ L → b ≠ L + 3 → h₂.get? b = some o → h₇.get? b = some o := fun b o a1 a2 e => (s7.2 b a2).trans ((s6.2 b a1).trans (k3 b o e))
    have N7 := N6.at fun o e => (s7.2 L (Nat.ne_of_lt (Nat.lt_add_of_pos_right (by decide)))).trans e
    have R7 : ∀ tk, FRel L s { s₁ with heap := h₇, toks := tk } := fun tk => R2.trans (FRel.heap (tk := tk) R2.tab hL k7)
    have hk : ∀ {b : Addr} {o : Obj}, @LT.lt Nat _ (L + 3) b → h₂.get? b = some o → h₇.get? b = some o := fun {b o} hb e => k7 b o (Nat.ne_of_gt (lt3 hb)) (Nat.ne_of_gt hb) e
    refine Wp.out (ask_spec (mg := mg) (mb := mb) (x := x) (ns := ns) (k := k) (Bs := Bs) (tt := tt) (c := c) hL hh hroom hBs ?g1 ?g2 N7 ?a1 ?a2 ?a3 C7 ?g3 ?g4 nm hz ?_)
    case g1 => exact (R7 0).G hL G
    case g2 => exact (R7 0).tab
    case g3 => exact th.ext fun b o hb _ e => (R7 0).hi hL hb e
    case g4 => exact lc.at fun o e => (R7 0).hi hL hcL e
    case a1 => exact (if_neg (by decide)).trans ((M1 _ (by decide) (by decide)).trans mt)
    case a2 => exact (if_neg (by decide)).trans ((M1 _ (by decide) (by decide)).trans mn)
    case a3 => exact if_pos rfl
    intro s₈ v8 R8 N8 C8
    have hk8 : ∀ {b : Addr} {o : Obj}, @LT.lt Nat _ (L + 3) b → h₂.get? b = some o → s₈.heap.get? b = some o := fun {b o} hb e => R8.hi hL hb (hk hb e)
    have pk : ∀ {u Bs}, PairAt h₂ L (.ref u) Bs → PairAt s₈.heap L (.ref u) Bs := fun {u Bs} ⟨p, t, e, a, o, e', r⟩ => ⟨p, t, e, a, o, hk8 a e', r⟩
    dsimp only
    refine ⟨2 - i, by omega, i + 1, _, by omega, hlt, (R7 _).trans R8, N8, ?_, ⟨_, C8⟩, (let ⟨o, e, r⟩ := it2; ⟨o, hk8 hI3 e, r⟩), (let ⟨o, e, r⟩ := T2; ⟨o, hk8 hTt e, r⟩), pk q0, pk q1, pk q2⟩
    intro y h1 h2
    exact (if_neg h1).trans ((if_neg h2).trans (M1 y h1 h2))
  · have hii : i = 3 := by omega
    subst hii
    refine (Walks.tuple (prog := prg) (w := w) hh I Tt hTI #[.ref u0, .ref u1, .ref u2]).done _ _ _ ⟨it1, T1⟩ fun h₂ tk₂ k₂ => ?_
    obtain ⟨R2, N2, C2, _⟩ := step h₂ tk₂ k₂
    refine wpAny_execs_nil ?_
    dsimp only
    walk_at "m nil"
    exact h _ m₁ R2 N2 M1 ⟨_, C2⟩
end

section
variable {w : World} {mg mb : Str → Option Value} {A : Around} {E : Value → Shared → Prop} {s : Shared} {L W : Addr} {m : Str → Option Value} {ws : List Value}
theorem ls_thing {v : Value} {Q : Unit → Shared → Prop} (F : s.heap.Ns L m) (h : ∀ h', h'.Ns L (fun y => if y = "thing" then some v else m y) → Heap.SameBut L s.heap h' → Q () { s with heap := h', toks := s.toks + 1 }) : wpAny (model prg w) A (storeName (lawEnv L) "thing" v) Q E s := stL F h
theorem ls_names {v : Value} {Q : Unit → Shared → Prop} (F : s.heap.Ns L m) (h : ∀ h', h'.Ns L (fun y => if y = "names" then some v else m y) → Heap.SameBut L s.heap h' → Q () { s with heap := h', toks := s.toks + 1 }) : wpAny (model prg w) A (storeName (lawEnv L) "names" v) Q E s := stL F h

/-- the asking, whole: each thing against each kind; the answer is True -/
theorem fin_spec {Q : Flow → Shared → Prop} (hL : @LT.lt Nat _ 40 L) (hh : A.handled = none) (hroom : A.depth + 3 * 50 + 3 < recursionLimit)
    (F : FSt w mg mb L W 50 s.heap m ws) (h : ∀ s', FRel L s s' → Q (.ret (.bool true)) s') :
    Wp (model prg w) A (execs finB (lawEnv L)) Q E s := by
  constructor
  rw [show finB = [_, _] from rfl]
  walk_at "m cons"
  walk_at "m for"
  with_reducible refine lv_wholes F.N F.mW ?_
  with_reducible refine wpAny_pyIter_list F.lw.isList ?_
  have hWlt : W < s.heap.objs.size := F.lw.lt
  have hI3 : @LT.lt Nat _ (L + 3) s.heap.objs.size := Nat.lt_trans F.hW hWlt
  have hWI : W ≠ s.heap.objs.size := Nat.ne_of_lt hWlt
  have fI : ∀ b o, s.heap.get? b = some o → b ≠ s.heap.objs.size := fun b o e => Nat.ne_of_lt (Heap.lt_size e)
  have k5 : ∀ b o, s.heap.get? b = some o → (s.heap.push { cls := .type "list_iterator", data := .fields #[.ref W, .int 0 0] }).get? b = some o := fun b o e => Heap.get?_push_of_some _ e
  have it5 : (s.heap.push { cls := .type "list_iterator", data := .fields #[.ref W, .int 0 0] }).IsListIter s.heap.objs.size W 0 := ⟨_, Heap.get?_push_size _ rfl, rfl, rfl⟩
  have l5 : Lst (s.heap.push { cls := .type "list_iterator", data := .fields #[.ref W, .int 0 0] }) W ws := F.lw.at fun o e => k5 _ o e
  generalize hII : s.heap.objs.size = I at it5 hWI hI3 fI
  generalize s.heap.push { cls := .type "list_iterator", data := .fields #[.ref W, .int 0 0] } = h₅ at it5 l5 k5
  have hIL : I ≠ L := Nat.ne_of_gt (lt3 hI3)
  have hIL3 : I ≠ L + 3 := Nat.ne_of_gt hI3
  have h16L : (16 : Addr) < L := Nat.lt_trans (by decide) hL
  have t16 : (16 : Addr) ≠ I := Nat.ne_of_lt (Nat.lt_trans h16L (lt3 hI3))
  refine codeAny_forLoop_any (fun n s' => ∃ i m', n = ws.length - i ∧ i ≤ ws.length ∧ FRel L s s' ∧ s'.heap.Ns L m' ∧ (∃ v, s'.heap.IsCell (L + 3) v) ∧ s'.heap.IsListIter I W i ∧ Lst s'.heap W ws) ?_ ws.length
    ⟨0, m, rfl, Nat.zero_le _, FRel.heap F.tab hL fun b o _ _ e => k5 b o e, F.N.keeps k5, (let ⟨v, o, e, r⟩ := F.ct; ⟨v, o, k5 _ o e, r⟩), it5, l5⟩
  clear it5 l5 k5
  rintro n s₁ ⟨i, m₁, rfl, hi, R1, N1, ⟨v1, C1⟩, it1, l1⟩
  have hsz : ws.toArray.size = ws.length := List.size_toArray ..
  have step : ∀ (h' : Heap) (tk : Nat), (∀ b o, b ∉ [I] → s₁.heap.get? b = some o → h'.get? b = some o) → FRel L s { s₁ with heap := h', toks := tk } ∧ h'.Ns L m₁ ∧ h'.IsCell (L + 3) v1 ∧ Lst h' W ws := by
    intro h' tk k'
    have kk : ∀ b o, b ≠ I → s₁.heap.get? b = some o → h'.get? b = some o := fun b o hb e => k' b o (by simpa using hb) e
    obtain ⟨⟨h1, tk1, gs1, rfl⟩, kp, tb, gr, ge⟩ := R1
    exact ⟨⟨⟨h', tk, gs1, rfl⟩, fun b o a1 a2 a3 e => kk b o (fI b o e) (kp b o a1 a2 a3 e), tb.at fun o e => kk _ o t16 e, gr.trans (.of fun o e => kk _ o t16 e), ge⟩,
      N1.at fun o e => kk _ o hIL.symm e, (let ⟨o, e, r⟩ := C1; ⟨o, kk _ o hIL3.symm e, r⟩), l1.at fun o e => kk _ o hWI e⟩
  rcases Nat.lt_or_ge i ws.length with hlt | hge
  · refine (Walks.list (prog := prg) (w := w) hh I W hWI ws.toArray).item i _ _ _ (by rw [hsz]; exact hlt) ⟨it1, l1.isList⟩ fun v h₂ tk₂ hv st₂ k₂ => ?_
    obtain ⟨R2, N2, C2, l2⟩ := step h₂ tk₂ k₂
    have it2 := st₂.1
    rw [List.getElem?_toArray] at hv
    obtain ⟨p, x, c, ys, ns, rfl, hp, hc, _, tp, th, lc, nm, hz⟩ := R2.whole hL (F.wh v (List.mem_of_getElem? hv))
    clear step k₂ st₂ hv
    refine wpAny_letOwnedTupleGo_listiter it2 ?_
    with_reducible refine assign_Tuple_tuple hh tp ?hn ?hst ?_
    case hn => rfl
    case hst => rfl
    intro h₃ x3
    have k3 : ∀ b o, h₂.get? b = some o → h₃.get? b = some o := fun b o e => x3 b o (Nat.ne_of_lt (Heap.lt_size e)) e
    show wpAny _ A (assignInOrder [assign (.Name "thing" _) (lawEnv L), assign (.Name "names" _) (lawEnv L)] [x, .ref c]) _ _ _
    refine assignInOrder_cons (wpAny_assign_Name (ls_thing (N2.keeps k3) ?_))
    intro h₆ N6 s6
    refine assignInOrder_cons (wpAny_assign_Name (ls_names N6 ?_))
    intro h₇ N7 s7
    refine assignInOrder_nil ?_
    have k7 : ∀ b o, b ≠ L → h₂.get? b = some o → h₇.get? b = some o := fun b o a1 e => (s7.2 b a1).trans ((s6.2 b a1).trans (k3 b o e))
    have R7 : ∀ tk, FRel L s { s₁ with heap := h₇, toks := tk } := fun tk => R2.trans (FRel.heap (tk := tk) R2.tab hL fun b o a1 _ e => k7 b o a1 e)
    have hk : ∀ {b : Addr} {o : Obj}, @LT.lt Nat _ (L + 3) b → h₂.get? b = some o → h₇.get? b = some o := fun {b o} hb e => k7 b o (Nat.ne_of_gt (lt3 hb)) e
    have C7 : h₇.IsCell (L + 3) v1 := let ⟨o, e, r⟩ := C2; ⟨o, k7 _ o (Nat.ne_of_gt (Nat.lt_add_of_pos_right (by decide))) e, r⟩
    refine Wp.out (inner_spec (mg := mg) (mb := mb) (x := x) (ns := ns) (k := 50) (c := c) hL hh hroom ?g1 ?g2 N7 ?a1 ?a2 ⟨v1, C7⟩ hc ?g3 ?g4 nm (Nat.le_trans hz (by decide)) ?_)
    case g1 => exact (R7 0).G hL F.G
    case g2 => exact (R7 0).tab
    case g3 => exact th.ext fun b o hb _ e => hk hb e
    case g4 => exact lc.at fun o e => hk hc e
    case a1 => exact (if_neg (by decide)).trans (if_pos rfl)
    case a2 => exact if_pos rfl
    intro s₈ m₈ R8 N8 _ C8
    have hk8 : ∀ {b : Addr} {o : Obj}, @LT.lt Nat _ (L + 3) b → h₂.get? b = some o → s₈.heap.get? b = some o := fun {b o} hb e => R8.hi hL hb (hk hb e)
    dsimp only
    exact ⟨ws.length - (i + 1), by omega, i + 1, m₈, rfl, hlt, (R7 _).trans R8, N8, C8, (let ⟨o, e, r⟩ := it2; ⟨o, hk8 hI3 e, r⟩), l2.at fun o e => hk8 F.hW e⟩
  · have hii : i = ws.length := by omega
    subst hii
    refine (Walks.list (prog := prg) (w := w) hh I W hWI ws.toArray).done _ _ _ ⟨by rw [hsz]; exact it1, l1.isList⟩ fun h₂ tk₂ k₂ => ?_
    obtain ⟨R2, N2, C2, _⟩ := step h₂ tk₂ k₂
    refine wpAny_execs_nil ?_
    dsimp only
    walk_at "m cons"
    exact wpAny_Return_some (wpAny_Constant_bool (h _ R2))
end

section
variable {prog : Program} {w : World} {A : Around} {E : Value → Shared → Prop} {s : Shared} {env : Env}
theorem block_own {elt iter : Expr} {x : Str} {px : Pos} {scope : Scope} {cl : List (Str × Addr)} {pos : Pos} {s₂ : Shared} {I : Addr} {fp : List Addr} {n : Nat} {P : Nat → Value → Prop} {St : Nat → Heap → Prop}
    {RR : Value → Addr → Result → Shared → Prop} (W : Walks prog w A I fp [I] n P St) (hsz : n ≤ 1000)
    (hcell : ∀ y ∈ scope.names, y.2 ≠ .cell) (hkind : scope.kind = .function) (hx : scope.names.lookup x = some .local) (hst : St 0 s₂.heap) (hfp : ∀ b ∈ fp, b < s₂.heap.objs.size)
    (El : Addr → Heap → Nat → Value → Prop) (hEl : ∀ C h h' i v, El C h i v → (∀ b o, @LT.lt Nat _ C b → h.get? b = some o → h'.get? b = some o) → El C h' i v)
    (helt : ∀ C i v s₃ m₃ E', s₂.heap.objs.size ≤ C → i < n → P i v → s₃.heap.Ns C m₃ → m₃ x = some v → (∀ b o, b ≠ I → s₂.heap.get? b = some o → s₃.heap.get? b = some o) →
      wpAny (model prog w) A (eval elt (compEnvC scope cl C env)) (fun y s₄ => Keeps s₃ s₄ ∧ El C s₄.heap i y) E' s₃)
    (hRR : ∀ D C h' tk m' ys, s₂.heap.objs.size ≤ D → @LT.lt Nat _ D C → h'.Ns C m' → Lst h' D ys → ys.length = n → (∀ i v, ys[i]? = some v → El C h' i v) →
      (∀ b o, b ≠ I → s₂.heap.get? b = some o → h'.get? b = some o) → RR (.ref D) C (.ok .next) { s₂ with heap := h', toks := tk }) :
    wpAny (model prog w) A (newList []) (fun acc s₃ => wpAny (model prog w) A (newFunctionEnv scope env.globals cl [] env.qual none .none (some env)) (fun cenv s₄ =>
      codeAny (model prog w) A (.compStart (.ListComp elt [⟨.Name x px, iter, [], 0⟩] scope pos) 0 (.ref I) acc { cenv with scope := relabel scope env }) (RR acc cenv.locals) s₄) E s₃) E s₂ := by
  refine wpAny_newObj_type (wpAny_newFunctionEnv hcell (by intro y hy; simp at hy) (fun h₁ hns₁ hsb₁ => ?_) hkind)
  dsimp only at hns₁ hsb₁ ⊢
  generalize hH2 : s₂.heap.push { cls := .type "list", dict := none, data := .seq ([] : List Value).toArray } = H2 at hns₁ hsb₁ ⊢
  have hC : H2.objs.size = s₂.heap.objs.size + 1 := by rw [← hH2, Heap.size_push]
  have hDltC : @LT.lt Nat _ s₂.heap.objs.size H2.objs.size := by rw [hC]; exact Nat.lt_succ_self _
  have hDC : s₂.heap.objs.size ≠ H2.objs.size := Nat.ne_of_lt hDltC
  have below : ∀ b, b < s₂.heap.objs.size → b ≠ H2.objs.size ∧ b ≠ s₂.heap.objs.size := fun b hb => ⟨by rw [hC]; exact Nat.ne_of_lt (Nat.lt_succ_of_lt hb), Nat.ne_of_lt hb⟩
  have hDf : s₂.heap.objs.size ∉ fp := fun hm => Nat.lt_irrefl _ (hfp _ hm)
  have hCf : H2.objs.size ∉ fp := fun hm => by have := hfp _ hm; rw [hC] at this; exact Nat.lt_irrefl _ (Nat.lt_of_succ_lt this)
  have hIf : I ∈ fp := W.sub I (List.mem_singleton.mpr rfl)
  have hIlt : I < s₂.heap.objs.size := hfp I hIf
  have old : ∀ b o, s₂.heap.get? b = some o → h₁.get? b = some o := fun b o e => hsb₁.extBut b o (below b (Heap.lt_size e)).1 (Heap.get?_push_of_some _ (hH2 ▸ Heap.get?_push_of_some _ e))
  have hacc : Lst h₁ s₂.heap.objs.size [] := ⟨_, hsb₁.extBut _ _ hDC (Heap.get?_push_of_some _ (hH2 ▸ Heap.get?_push_size _ rfl))⟩
  have hst₁ : St 0 h₁ := W.frame _ _ _ hst fun b _ o e => old b o e
  have hCI : I ≠ H2.objs.size := (below I hIlt).1
  have hDI : I ≠ s₂.heap.objs.size := (below I hIlt).2
  generalize hDd : s₂.heap.objs.size = D at *
  generalize H2.objs.size = C at *
  have upI : ∀ b : Addr, @LT.lt Nat _ C b → b ≠ I ∧ b ≠ C ∧ b ≠ D := fun b hb => ⟨Nat.ne_of_gt (Nat.lt_trans hIlt (Nat.lt_trans hDltC hb)), Nat.ne_of_gt hb, Nat.ne_of_gt (Nat.lt_trans hDltC hb)⟩
  have loop : ∀ s₃ : Shared, s₃ = { s₂ with heap := h₁, toks := s₂.toks + ([] : List (Str × Value)).length } →
      codeAny (model prog w) A (.compLoop (.ListComp elt [⟨.Name x px, iter, [], 0⟩] scope pos) 0 (.ref I) (.ref D) (compEnvC scope cl C env))
        (RR (.ref D) C) s₃ := by
    rintro s₃ rfl
    refine codeAny_compLoop_tests
      (fun k s' => ∃ h' tk i ys m', s' = { s₂ with heap := h', toks := tk } ∧ i ≤ n ∧ k = n + 1 - i ∧ ys.length = i ∧ St i h' ∧ h'.Ns C m' ∧ Lst h' D ys ∧ (∀ i v, ys[i]? = some v → El C h' i v) ∧
        (∀ b o, b ≠ I → s₂.heap.get? b = some o → h'.get? b = some o)) ?_ (n + 1)
      ⟨h₁, _, 0, [], _, rfl, Nat.zero_le _, rfl, rfl, hst₁, hns₁, hacc, fun i v e => by simp at e, fun b o _ e => old b o e⟩
    rintro k s' ⟨h', tk, i, ys, m', rfl, hi, rfl, hyl, hst', hn', hl', hE', hk'⟩
    by_cases hlt : i < n
    · refine W.item i _ _ _ hlt hst' fun v h₂ tk₂ hPv hst₂ hk₂ => ?_
      replace hk₂ : ∀ b o, b ≠ I → h'.get? b = some o → h₂.get? b = some o := fun b o hb e => hk₂ b o (by simpa using hb) e
      refine wpAny_assign_Name (wpAny_storeName_local (lookup_relabel_local hx) (hn'.at' fun o e => hk₂ _ o (Ne.symm hCI) e) (fun h₃ hn₃ hs₃ => ?_) (by simp [compEnvC, relabel, hkind]))
      refine wpAny_tests_nil ?_
      simp only [if_true]
      have hst₃ : St (i + 1) h₃ := W.frame _ _ _ hst₂ fun b hb o e => hs₃.extBut b o (fun q => hCf (by have q' : b = C := q; rw [← q']; exact hb)) e
      have hk₃ : ∀ b o, b ≠ I → b ≠ C → h'.get? b = some o → h₃.get? b = some o := fun b o h1 h2 e => hs₃.extBut b o h2 (hk₂ b o h1 e)
      refine wpAny_mono (helt C i v _ _ _ (Nat.le_of_lt hDltC) hlt hPv hn₃ (by simp) fun b o hb e => hk₃ b o hb (below b (hDd ▸ Heap.lt_size e)).1 (hk' b o hb e)) (fun y s₄ h₄ => ?_) fun _ _ e => e
      obtain ⟨⟨h₄, tk₄, rfl, hk₄⟩, hEy⟩ := h₄
      have hl₄ : Lst h₄ D ys := hl'.at fun o e => hk₄ _ o (hk₃ _ o (Ne.symm hDI) hDC e)
      refine lst_append hl₄ (by omega) fun h₅ hl₅ hs₅ => ?_
      have hk₅ : ∀ b o, b ≠ I → b ≠ C → b ≠ D → h'.get? b = some o → h₅.get? b = some o := fun b o h1 h2 h3 e => hs₅.extBut b o h3 (hk₄ b o (hk₃ b o h1 h2 e))
      refine ⟨n + 1 - (i + 1), by omega, h₅, tk₄, i + 1, ys ++ [y], _, rfl, hlt, rfl, by simp [hyl], W.frame _ _ _ hst₃ fun b hb o e => hs₅.extBut b o (fun q => hDf (q ▸ hb)) (hk₄ b o e), (hn₃.keeps hk₄).sameBut hs₅ (Ne.symm hDC), hl₅, ?_, fun b o hb e => ?_⟩
      · intro j u hj
        rcases Nat.lt_trichotomy j ys.length with hjl | hjl | hjl
        · rw [List.getElem?_append_left hjl] at hj
          exact hEl _ _ _ _ _ (hE' j u hj) fun b o hb e => hk₅ b o (upI b hb).1 (upI b hb).2.1 (upI b hb).2.2 e
        · subst hjl
          simp at hj
          subst hj
          rw [hyl]
          exact hEl _ _ _ _ _ hEy fun b o hb e => hs₅.extBut b o (upI b hb).2.2 e
        · have hnone : (ys ++ [y])[j]? = none := List.getElem?_eq_none (by rw [List.length_append, List.length_singleton]; omega)
          rw [hnone] at hj; cases hj
      · have hb' := below b (hDd ▸ Heap.lt_size e)
        exact hk₅ b o hb hb'.1 hb'.2 (hk' b o hb e)
    · obtain rfl : i = n := Nat.le_antisymm hi (Nat.not_lt.mp hlt)
      refine W.done _ _ _ hst' fun h₂ tk₂ hk₂ => ?_
      replace hk₂ : ∀ b o, b ≠ I → h'.get? b = some o → h₂.get? b = some o := fun b o hb e => hk₂ b o (by simpa using hb) e
      exact hRR D C h₂ tk₂ m' ys (Nat.le_refl _) hDltC (hn'.at' fun o e => hk₂ _ o (Ne.symm hCI) e) (hl'.at fun o e => hk₂ _ o (Ne.symm hDI) e) hyl (fun i v e => hEl _ _ _ _ _ (hE' i v e) fun b o hb e => hk₂ b o (upI b hb).1 e) fun b o hb e => hk₂ b o hb (hk' b o hb e)
  exact codeAny_compStart_list (loop _ rfl) (W.self 0 _ _ _ hst₁ (loop _ rfl))

theorem range_own {n : Int} {t : Tok} {Q : Value → Shared → Prop}
    (h : ∀ h' tk r t u v, IsRange h' r 0 n 1 t u v → (∀ b o, s.heap.get? b = some o → h'.get? b = some o) → s.heap.objs.size ≤ h'.objs.size → Q (.ref r) { s with heap := h', toks := tk }) :
    wpAny (model prog w) A (call (.type "range") [.int n t]) Q E s :=
  call_range_1 (h _ _ _ _ _ _ (IsRange.new ..) (fun b o e => Heap.get?_push_of_some _ e) (by rw [Heap.size_push]; exact Nat.le_succ _))
theorem range_iter_own {r : Addr} {a b : Int} {t u v : Tok} {Q : Value → Shared → Prop} (hr : IsRange s.heap r a b 1 t u v) (hs : Builtin.Range.small a b 1 = true)
    (h : ∀ h' I, IsRangeIter h' I a (Builtin.Range.rangeSize a b 1) 1 → (∀ b o, s.heap.get? b = some o → h'.get? b = some o) → s.heap.objs.size ≤ I → @LT.lt Nat _ I h'.objs.size → Q (.ref I) { s with heap := h' }) :
    wpAny (model prog w) A (pyIter (.ref r)) Q E s :=
  wpAny_pyIter_range hr hs (h _ _ (Heap.get?_push_size _ rfl) (fun b o e => Heap.get?_push_of_some _ e) (Nat.le_refl _) (by rw [Heap.size_push]; exact Nat.lt_succ_self _))

theorem assign_comp {elt iter : Expr} {x y : Str} {px py : Pos} {scope : Scope} {cl : List (Str × Addr)} {pos spos : Pos} {Q : Flow → Shared → Prop}
    (hsw : swapsWith (.ListComp elt [⟨.Name x px, iter, [], 0⟩] scope pos) (some (.Name y py)) spos.line env = pure true)
    (hclos : closureFor scope env = pure cl) (hkind : scope.kind = .function)
    (hnames : ∀ z ∈ scope.names, z.2 = .local → scope.names.lookup z.1 = some .local) (hs : ∀ x, foldedSetIterable iter env x = pure x)
    (h : wpAny (model prog w) A (eval iter env) (fun xv s₁ => wpAny (model prog w) A (pyIter xv) (fun it s₂ => wpAny (model prog w) A (newList []) (fun acc s₃ => wpAny (model prog w) A (newFunctionEnv scope env.globals cl [] env.qual none .none (some env)) (fun cenv s₄ =>
      codeAny (model prog w) A (.compStart (.ListComp elt [⟨.Name x px, iter, [], 0⟩] scope pos) 0 it acc { cenv with scope := relabel scope env }) (compPost (model prog w) A E (some (assign (.Name y py) env)) (fun _ s' => Q .next s') acc cenv.locals) s₄) E s₃) E s₂) E s₁) E s) :
    wpAny (model prog w) A (exec (.Assign [.Name y py] (.ListComp elt [⟨.Name x px, iter, [], 0⟩] scope pos) spos) env) Q E s := by
  rw [exec_Assign_Name_used _ _ _ _ hsw]
  refine wpAny_bind (wpAny_standAt (wpAny_bind ?_))
  show wpAny _ A (do let _ ← comprehension (.ListComp elt [⟨.Name x px, iter, [], 0⟩] scope pos) scope env _ (newList []) false (eval iter env) (some (assign (.Name y py) env))) _ _ s
  exact wpAny_bind (wpAny_mono (wpAny_comprehension_free (use := some (assign (.Name y py) env)) (Q := fun _ s' => Q .next s') rfl hs hclos hkind hnames h) (fun _ s' hq => wpAny_pure (wpAny_pure hq)) fun _ _ e => e)
end

section
variable {w : World} {mg mb : Str → Option Value} {A : Around} {E : Value → Shared → Prop} {s : Shared} {L : Addr} {m : Str → Option Value}
/-- one of the ten pairs: the thing and the list of its one name -/
def EltAt (kv sv : List Value) (C : Addr) (h : Heap) (i : Nat) (v : Value) : Prop :=
  ∃ p c x y, v = .ref p ∧ @LT.lt Nat _ C p ∧ @LT.lt Nat _ C c ∧ IsTup h p #[x, .ref c] ∧ Lst h c [y] ∧ kv[i]? = some x ∧ sv[i]? = some y
theorem bt_range : bootBuiltins "range" = some (.type "range") := by decide +kernel
theorem ns_range : nsIn (hd.heap_39 w.params) mainGlobals "range" = some none := rfl
theorem lv_range {pos : Pos} {Q : Value → Shared → Prop} (G : Gd w mg mb s.heap) (h : Q (.type "range") s) : wpAny (model prg w) A (eval (.Name "range" pos) (lawEnv L)) Q E s := nmB G ns_range bt_range (by decide) h

theorem wholes_spec {Kd Sp : Addr} {kv sv : List Value} {py p1 p2 p3 p4 p5 p6 p7 p8 px q1 q2 q3 pos spos : Pos} {sc : Scope} {Q : Flow → Shared → Prop}
    (e0 : swapsWith (.ListComp (.Tuple [.Subscript (.Name "kinds" p1) (.Name "k" p2) p3, .List [.Subscript (.Name "spelled" p4) (.Name "k" p5) p6] p7] 0 p8) [⟨.Name "k" px, .Call (.Name "range" q1) [.Constant (.int 10) 0 q2] [] q3, [], 0⟩] sc pos) (some (.Name "wholes" py)) spos.line (lawEnv L) = pure true)
    (e1 : closureFor sc (lawEnv L) = pure [(Str.ofString "spelled", L + 2), (Str.ofString "kinds", L + 1)]) (e2 : ∀ y ∈ sc.names, y.2 ≠ .cell) (e3 : sc.kind = .function) (e4 : ∀ y ∈ sc.names, y.2 = .local → sc.names.lookup y.1 = some .local) (e5 : sc.names.lookup (Str.ofString "k") = some .local)
    (e6 : ∀ C, (compEnvC sc [(Str.ofString "spelled", L + 2), (Str.ofString "kinds", L + 1)] C (lawEnv L)).kindOf "kinds" = some .cell) (e7 : ∀ C, (compEnvC sc [(Str.ofString "spelled", L + 2), (Str.ofString "kinds", L + 1)] C (lawEnv L)).kindOf "k" = some .local) (e8 : ∀ C, (compEnvC sc [(Str.ofString "spelled", L + 2), (Str.ofString "kinds", L + 1)] C (lawEnv L)).kindOf "spelled" = some .cell)
    (e9 : (lawEnv L).kindOf "wholes" = some .local)
    (G : Gd w mg mb s.heap) (hh : A.handled = none) (N : s.heap.Ns L m) (ck : s.heap.IsCell (L + 1) (some (.ref Kd))) (cs : s.heap.IsCell (L + 2) (some (.ref Sp))) (lk : Lst s.heap Kd kv) (ls : Lst s.heap Sp sv) (zk : kv.length = 10) (zs : sv.length = 10)
    (h : ∀ D h' tk ys, h'.Ns L (fun z => if z = "wholes" then some (.ref D) else m z) → s.heap.objs.size ≤ D → Lst h' D ys → ys.length = 10 → (∀ i v, ys[i]? = some v → EltAt kv sv D h' i v) → (∀ b o, b ≠ L → s.heap.get? b = some o → h'.get? b = some o) → Q .next { s with heap := h', toks := tk }) :
    wpAny (model prg w) A (exec (.Assign [.Name "wholes" py] (.ListComp (.Tuple [.Subscript (.Name "kinds" p1) (.Name "k" p2) p3, .List [.Subscript (.Name "spelled" p4) (.Name "k" p5) p6] p7] 0 p8) [⟨.Name "k" px, .Call (.Name "range" q1) [.Constant (.int 10) 0 q2] [] q3, [], 0⟩] sc pos) spos) (lawEnv L)) Q E s := by
  with_reducible refine assign_comp e0 e1 e3 e4 ?hs ?_
  case hs => intro _; rfl
  with_reducible refine Call_ ?hc ?he
  case he => rfl
  with_reducible refine lv_range G ?_
  walk_at "m t1"
  walk_at "m arg"
  with_reducible refine wpAny_Constant_int (args_nil ?_)
  refine range_own ?_
  intro h₁ tk₁ r t1 t2 t3 r1 k1 z1
  refine range_iter_own r1 (by decide) ?_
  intro h₂ I i2 k2 zI z2
  have nI : ∀ b o, s.heap.get? b = some o → b ≠ I := fun b o e => Nat.ne_of_lt (Nat.lt_of_lt_of_le (Heap.lt_size (k1 b o e)) zI)
  replace z1 := Nat.le_trans z1 zI
  refine block_own (LCg.range_walks (I := I) hh 0 10) (by decide) e2 e3 e5 i2 (fun b hb => ?_) (EltAt kv sv) ?hEl ?helt ?hRR
  · rw [List.mem_singleton.mp hb]; exact z2
  case hEl =>
    intro C h h' i v ⟨p, c, x, y, e, hp, hc, tp, lc, r⟩ k
    exact ⟨p, c, x, y, e, hp, hc, (let ⟨o, e', r'⟩ := tp; ⟨o, k _ o hp e', r'⟩), lc.at fun o e => k _ o hc e, r⟩
  case helt =>
    intro C i v s₃ m₃ E' hC hi ⟨t, hv⟩ hn hm hk
    subst hv
    have up : ∀ b o, s.heap.get? b = some o → s₃.heap.get? b = some o := fun b o e => hk b o (nI b o e) (k2 b o (k1 b o e))
    have ck3 : s₃.heap.IsCell (L + 1) (some (.ref Kd)) := let ⟨o, e, r⟩ := ck; ⟨o, up _ _ e, r⟩
    have cs3 : s₃.heap.IsCell (L + 2) (some (.ref Sp)) := let ⟨o, e, r⟩ := cs; ⟨o, up _ _ e, r⟩
    have lk3 : Lst s₃.heap Kd kv := lk.at fun o e => up _ o e
    have ls3 : Lst s₃.heap Sp sv := ls.at fun o e => up _ o e
    have hC3 : ∀ {h' : Heap} {q : Addr}, (∀ b o, s₃.heap.get? b = some o → b < q) → @LT.lt Nat _ C q := fun {h' q} f => let ⟨o, _, _, e, _⟩ := hn; f _ o e
    have hki : (kv[i]? : Option Value) = some kv[i] := List.getElem?_eq_getElem (by omega)
    have hsi : (sv[i]? : Option Value) = some sv[i] := List.getElem?_eq_getElem (by omega)
    have hz : (0 + (i : Int)) = i := Int.zero_add _
    rw [hz] at hm
    with_reducible refine Tuple_ ?_
    walk_at "m arg"
    with_reducible refine Subscript_ ?_
    with_reducible refine wpAny_Name (wpAny_loadName_cell ?k1 ?k2 ?k3 ck3 ?_) ?k4
    case k1 => exact e3
    case k2 => exact e6 C
    case k3 => rfl
    case k4 => decide
    with_reducible refine wpAny_Name (wpAny_loadName_local (m := m₃) ?k1 ?k2 ?k3 hm ?_) ?k4
    case k1 => exact e3
    case k2 => exact e7 C
    case k3 => exact hn
    case k4 => decide
    refine lst_item lk3 (Int.natCast_nonneg i) (by omega) (y := kv[i]) hki ?_ (by with_unfolding_all rfl)
    walk_at "m arg"
    with_reducible refine List_ ?_
    walk_at "m arg"
    with_reducible refine Subscript_ ?_
    with_reducible refine wpAny_Name (wpAny_loadName_cell ?k1 ?k2 ?k3 cs3 ?_) ?k4
    case k1 => exact e3
    case k2 => exact e8 C
    case k3 => rfl
    case k4 => decide
    with_reducible refine wpAny_Name (wpAny_loadName_local (m := m₃) ?k1 ?k2 ?k3 hm ?_) ?k4
    case k1 => exact e3
    case k2 => exact e7 C
    case k3 => exact hn
    case k4 => decide
    refine lst_item ls3 (Int.natCast_nonneg i) (by omega) (y := sv[i]) hsi ?_ (by with_unfolding_all rfl)
    with_reducible refine args_nil (new_list (by simp) ?_)
    intro h₄ c k4 lc fc
    with_reducible refine args_nil (new_tuple (by simp) ?_)
    intro h₅ p k5 tp fp
    refine ⟨⟨h₅, _, rfl, fun b o e => k5 b o (k4 b o e)⟩, p, c, kv[i], sv[i], rfl, hC3 (h' := h₅) fun b o e => fp b o (k4 b o e), hC3 (h' := h₅) fc, tp, lc.at fun o e => k5 _ o e, hki, hsi⟩
  case hRR =>
    intro D C h' tk m' ys hD hDC hn hl hlen hE hk
    have up : ∀ b o, s.heap.get? b = some o → h'.get? b = some o := fun b o e => hk b o (nI b o e) (k2 b o (k1 b o e))
    have hLlt : @LT.lt Nat _ L D := Nat.lt_of_lt_of_le N.lt (Nat.le_trans z1 (Nat.le_trans (Nat.le_of_lt z2) hD))
    have hLC : L ≠ C := Nat.ne_of_lt (Nat.lt_trans hLlt hDC)
    show wpAny _ A (assign (.Name "wholes" py) (lawEnv L) (.ref D)) _ _ _
    refine wpAny_assign_Name (stL (N.keeps up) ?_)
    intro h₃ N3 s3
    refine ⟨m', hn.sameBut s3 (Ne.symm hLC), fun h₄ s4 => ?_⟩
    have hk4 : ∀ b o, b ≠ L → b ≠ C → h'.get? b = some o → h₄.get? b = some o := fun b o h1 h2 e => s4.extBut b o h2 (s3.extBut b o h1 e)
    refine h D h₄ _ ys (N3.sameBut s4 hLC) (Nat.le_trans z1 (Nat.le_trans (Nat.le_of_lt z2) hD)) (hl.at fun o e => hk4 _ o (Nat.ne_of_gt hLlt) (Nat.ne_of_lt hDC) e) hlen ?_ fun b o hb e => hk4 b o hb (Nat.ne_of_lt (Nat.lt_trans (Nat.lt_of_lt_of_le (Heap.lt_size e) (Nat.le_trans z1 (Nat.le_trans (Nat.le_of_lt z2) hD))) hDC)) (up b o e)
    intro i v e
    obtain ⟨p, c, x, y, e, hp, hc, tp, lc, r⟩ := hE i v e
    have nl : ∀ {q : Addr}, @LT.lt Nat _ C q → q ≠ L ∧ q ≠ C := fun {q} hq => ⟨Nat.ne_of_gt (Nat.lt_trans (Nat.lt_trans hLlt hDC) hq), Nat.ne_of_gt hq⟩
    exact ⟨p, c, x, y, e, Nat.lt_trans hDC hp, Nat.lt_trans hDC hc, (let ⟨o, e', r'⟩ := tp; ⟨o, hk4 _ o (nl hp).1 (nl hp).2 e', r'⟩), lc.at fun o e => hk4 _ o (nl hc).1 (nl hc).2 e, r⟩
end

section
variable {prog : Program} {w : World} {A : Around} {E : Value → Shared → Prop} {s : Shared} {X N I : String}
/-- a new error's place lies above all that there was -/
theorem exc_above (hc : ExcClass X N I) {rest : List Value} {Q : Value → Shared → Prop}
    (h : ∀ h' e, Heap.NewExc s.heap h' e X → s.heap.objs.size ≤ e → Q (.ref e) { s with heap := h' }) (hrest : rest.length ≤ sizeLine) :
    wpAny (model prog w) A (call (.type X) rest) Q E s := by
  refine wpAny_call (codeAny_of_tree ?_)
  show wpAny _ _ (callAny (.type X) ⟨rest, []⟩) _ _ s
  simp only [callAny]
  refine wpAny_pure ⟨Code.quiet_builtin _ (by decide +kernel), codeAny_builtin entry_type_call ?_⟩
  rw [Around.under_plain (weight_type_call X _ _) (by first | rfl | kernel_rfl | decide +kernel)]
  unfold Builtin.«type.__call__»
  dsimp only
  rw [if_neg (by rw [hc.notType]; exact Bool.false_ne_true), if_neg (by rw [hc.canNew]; exact Bool.false_ne_true)]
  obtain ⟨l, hl, hle⟩ := hc.mro
  refine wpAny_bind (wpAny_of_eq (hc.typeCall rest) (wpAny_bind (wpAny_of_eq hl ?_)))
  rw [if_neg (by rw [hle]; exact Bool.false_ne_true)]
  refine wpAny_bind (wpAny_of_eq hc.madeBy ?_)
  dsimp only
  refine wpAny_bind (wpAny_pure (wpAny_bind (wpAny_holding (new_exc hc ?_ hrest))))
  refine wpAny_bind (wpAny_isInstance (T := X) ⟨_, Heap.get?_push_size _ rfl, rfl⟩ hc.self ?_)
  simp only [Bool.not_true, Bool.false_eq_true, if_false]
  refine wpAny_bind (wpAny_holding (wpAny_callSpecial?_slot (name := Str.ofString "__init__") (T := X) ⟨_, Heap.get?_push_size _ rfl, rfl⟩ hc.init
    (init_exc hc (Heap.get?_push_size _ rfl) rfl rfl rfl ?_ hrest)))
  dsimp only
  rw [if_neg (by simp)]
  have hle : s.heap.objs.size ≤ (s.heap.push { cls := .type "tuple", data := .seq rest.toArray }).objs.size := by simp
  refine wpAny_pure (h _ _ ⟨fun b o hb => ?_, Heap.get?_none_of_le hle, _, _,
    Heap.get?_update_self _ (Heap.get?_push_of_some _ (Heap.get?_push_size _ rfl)) (Obj.isFreed_of_fields (Obj.data_mapFields rfl _)), Obj.cls_mapFields _ _, by rw [Obj.data_mapFields rfl]; rfl⟩ hle)
  rw [Heap.get?_update_other _ _ (Nat.ne_of_gt (Nat.lt_of_lt_of_le (Heap.lt_size hb) hle))]
  exact Heap.get?_push_of_some _ (Heap.get?_push_of_some _ (Heap.get?_push_of_some _ hb))
end
section
variable {w : World} {mg mb : Str → Option Value} {A : Around} {E : Value → Shared → Prop} {s : Shared} {L : Addr} {m : Str → Option Value}
theorem bt_ValueError : bootBuiltins "ValueError" = some (.type "ValueError") := by decide +kernel
theorem bt_KeyError : bootBuiltins "KeyError" = some (.type "KeyError") := by decide +kernel
theorem bt_KeyboardInterrupt : bootBuiltins "KeyboardInterrupt" = some (.type "KeyboardInterrupt") := by decide +kernel
theorem bt_int : bootBuiltins "int" = some (.type "int") := by decide +kernel
theorem ns_ValueError : nsIn (hd.heap_39 w.params) mainGlobals "ValueError" = some none := rfl
theorem ns_KeyError : nsIn (hd.heap_39 w.params) mainGlobals "KeyError" = some none := rfl
theorem ns_KeyboardInterrupt : nsIn (hd.heap_39 w.params) mainGlobals "KeyboardInterrupt" = some none := rfl
theorem ns_int : nsIn (hd.heap_39 w.params) mainGlobals "int" = some none := rfl
theorem lv_ValueError {pos : Pos} {Q : Value → Shared → Prop} (G : Gd w mg mb s.heap) (h : Q (.type "ValueError") s) : wpAny (model prg w) A (eval (.Name "ValueError" pos) (lawEnv L)) Q E s := nmB G ns_ValueError bt_ValueError (by decide) h
theorem lv_KeyError {pos : Pos} {Q : Value → Shared → Prop} (G : Gd w mg mb s.heap) (h : Q (.type "KeyError") s) : wpAny (model prg w) A (eval (.Name "KeyError" pos) (lawEnv L)) Q E s := nmB G ns_KeyError bt_KeyError (by decide) h
theorem lv_KeyboardInterrupt {pos : Pos} {Q : Value → Shared → Prop} (G : Gd w mg mb s.heap) (h : Q (.type "KeyboardInterrupt") s) : wpAny (model prg w) A (eval (.Name "KeyboardInterrupt" pos) (lawEnv L)) Q E s := nmB G ns_KeyboardInterrupt bt_KeyboardInterrupt (by decide) h
theorem lv_int {pos : Pos} {Q : Value → Shared → Prop} (G : Gd w mg mb s.heap) (h : Q (.type "int") s) : wpAny (model prg w) A (eval (.Name "int" pos) (lawEnv L)) Q E s := nmB G ns_int bt_int (by decide) h
theorem ls_kinds {v : Value} {v₀ : Option Value} {Q : Unit → Shared → Prop} (hc : s.heap.IsCell (L + 1) v₀) (h : ∀ h', h'.IsCell (L + 1) (some v) → Heap.SameBut (L + 1) s.heap h' → Q () { s with heap := h' }) : wpAny (model prg w) A (storeName (lawEnv L) "kinds" v) Q E s :=
  wpAny_storeName_cell rfl rfl (by rfl) hc h
theorem ls_spelled {v : Value} {v₀ : Option Value} {Q : Unit → Shared → Prop} (hc : s.heap.IsCell (L + 2) v₀) (h : ∀ h', h'.IsCell (L + 2) (some v) → Heap.SameBut (L + 2) s.heap h' → Q () { s with heap := h' }) : wpAny (model prg w) A (storeName (lawEnv L) "spelled" v) Q E s :=
  wpAny_storeName_cell rfl rfl (by rfl) hc h

/-- the ten things and their names stand -/
structure PSt (w : World) (mg mb : Str → Option Value) (L Kd Sp : Addr) (kv sv : List Value) (h : Heap) (m : Str → Option Value) : Prop where
  N : h.Ns L m
  G : Gd w mg mb h
  tab : TabOk h
  ck : h.IsCell (L + 1) (some (.ref Kd))
  cs : h.IsCell (L + 2) (some (.ref Sp))
  ct : ∃ v, h.IsCell (L + 3) v
  lk : Lst h Kd kv
  ls : Lst h Sp sv
  kvs : F2 (Leaf (L + 3) h) kv nm10
  svs : F2 IsName sv nm10
  hKd : @LT.lt Nat _ (L + 3) Kd
  hSp : @LT.lt Nat _ (L + 3) Sp

theorem pro1 {Q : Flow → Shared → Prop} (hL : @LT.lt Nat _ 40 L) (G : Gd w mg mb s.heap) (T : TabOk s.heap) (N : s.heap.Ns L m) (c1 : ∃ v, s.heap.IsCell (L + 1) v) (c2 : ∃ v, s.heap.IsCell (L + 2) v) (c3 : ∃ v, s.heap.IsCell (L + 3) v)
    (h : ∀ h' tk Kd Sp kv sv, PSt w mg mb L Kd Sp kv sv h' m → (∀ b o, @LT.lt Nat _ b L → s.heap.get? b = some o → h'.get? b = some o) → Wp (model prg w) A (execs (lawB.drop 2) (lawEnv L)) Q E { s with heap := h', toks := tk }) :
    Wp (model prg w) A (execs lawB (lawEnv L)) Q E s := by
  constructor
  obtain ⟨v1, c1⟩ := c1
  obtain ⟨v2, c2⟩ := c2
  obtain ⟨v3, c3⟩ := c3
  rw [show lawB = [_, _, _, _, _, _, _, _, _] from rfl]
  walk_at "m cons"
  with_reducible refine wpAny_Assign_Name ?hc ?hs
  case hs => rfl
  with_reducible refine List_ ?_
  walk_at "m arg"
  with_reducible refine lv_ValueError G ?_
  walk_at "m arg"
  with_reducible refine lv_KeyError G ?_
  walk_at "m arg"
  with_reducible refine lv_LookupError G ?_
  walk_at "m arg"
  with_reducible refine lv_Exception G ?_
  walk_at "m arg"
  with_reducible refine lv_BaseException G ?_
  walk_at "m arg"
  with_reducible refine lv_KeyboardInterrupt G ?_
  walk_at "m arg"
  with_reducible refine lv_int G ?_
  walk_at "m arg"
  with_reducible refine Calls.Constant_str ?_
  walk_at "m arg"
  with_reducible refine wpAny_Constant_none ?_
  walk_at "m arg"
  walk_at "m call"
  with_reducible refine lv_ValueError G ?_
  walk_at "m t1"
  walk_at "m arg"
  with_reducible refine Calls.Constant_str (args_nil ?_)
  refine exc_above excClass_ValueError ?_ (szOk (by simp))
  intro h₁ e X hge
  have k1 := X.keeps
  obtain ⟨ob, tt, he, hcl, _⟩ := X.there
  clear X
  with_reducible refine args_nil (new_list (by simp) ?_)
  intro h₂ Kd k2 lk2 fK
  have k02 : ∀ b o, s.heap.get? b = some o → h₂.get? b = some o := fun b o e => k2 b o (k1 b o e)
  have C2 : h₂.IsCell (L + 1) v1 := let ⟨o, e, r⟩ := c1; ⟨o, k02 _ o e, r⟩
  with_reducible refine ls_kinds C2 ?_
  intro h₃ C3 s3
  have k3 : ∀ b o, b ≠ L + 1 → s.heap.get? b = some o → h₃.get? b = some o := fun b o hb e => (s3.2 b hb).trans (k02 b o e)
  have n1 : @LT.lt Nat _ L (L + 1) := Nat.lt_succ_self _
  have hL3 : @LT.lt Nat _ (L + 3) s.heap.objs.size := let ⟨o, e, _⟩ := c3; Heap.lt_size e
  have heL : @LT.lt Nat _ (L + 3) e := Nat.lt_of_lt_of_le hL3 hge
  have hKd : @LT.lt Nat _ (L + 3) Kd := let ⟨o, e, _⟩ := c3; fK _ o (k1 _ o e)
  have hi1 : ∀ {b : Addr}, @LT.lt Nat _ (L + 3) b → b ≠ L + 1 := fun {b} hb => Nat.ne_of_gt (Nat.lt_trans (Nat.add_lt_add_left (by decide) _) hb)
  have hi2 : ∀ {b : Addr}, @LT.lt Nat _ (L + 3) b → b ≠ L + 2 := fun {b} hb => Nat.ne_of_gt (Nat.lt_trans (Nat.add_lt_add_left (by decide) _) hb)
  have he3 : h₃.get? e = some ob := (s3.2 _ (hi1 heL)).trans (k2 _ _ he)
  have lk3 := lk2.at fun o e => (s3.2 _ (hi1 hKd)).trans e
  have C23 : h₃.IsCell (L + 2) v2 := let ⟨o, e, r⟩ := c2; ⟨o, k3 _ o (Nat.ne_of_gt (Nat.add_lt_add_left (by decide) _)) e, r⟩
  clear fK he k1 k2 k02 s3 lk2 C2
  dsimp only
  walk_at "m cons"
  with_reducible refine wpAny_Assign_Name ?_ ?hs2
  case hs2 => rfl
  with_reducible refine List_ ?_
  walk_at "m arg"
  with_reducible refine Calls.Constant_str ?_
  walk_at "m arg"
  with_reducible refine Calls.Constant_str ?_
  walk_at "m arg"
  with_reducible refine Calls.Constant_str ?_
  walk_at "m arg"
  with_reducible refine Calls.Constant_str ?_
  walk_at "m arg"
  with_reducible refine Calls.Constant_str ?_
  walk_at "m arg"
  with_reducible refine Calls.Constant_str ?_
  walk_at "m arg"
  with_reducible refine Calls.Constant_str ?_
  walk_at "m arg"
  with_reducible refine Calls.Constant_str ?_
  walk_at "m arg"
  with_reducible refine Calls.Constant_str ?_
  walk_at "m arg"
  with_reducible refine Calls.Constant_str (args_nil (new_list (by simp) ?_))
  intro h₄ Sp k4 ls4 fS
  have C24 : h₄.IsCell (L + 2) v2 := let ⟨o, e, r⟩ := C23; ⟨o, k4 _ o e, r⟩
  with_reducible refine ls_spelled C24 ?_
  intro h₅ C5 s5
  have k5 : ∀ b o, b ≠ L + 2 → h₃.get? b = some o → h₅.get? b = some o := fun b o hb e => (s5.2 b hb).trans (k4 b o e)
  have k05 : ∀ b o, b ≠ L + 1 → b ≠ L + 2 → s.heap.get? b = some o → h₅.get? b = some o := fun b o h1 h2 e => k5 b o h2 (k3 b o h1 e)
  have lt1 : ∀ {b : Addr}, @LT.lt Nat _ b L → b ≠ L + 1 ∧ b ≠ L + 2 := fun {b} hb => ⟨Nat.ne_of_lt (Nat.lt_trans hb n1), Nat.ne_of_lt (Nat.lt_trans hb (Nat.lt_add_of_pos_right (by decide)))⟩
  have hC3 : h₃.get? (L + 3) ≠ none := by
    obtain ⟨o, e, _⟩ := c3
    rw [k3 _ o (Nat.ne_of_gt (Nat.add_lt_add_left (by decide) _)) e]; exact fun e => nomatch e
  have hSp : @LT.lt Nat _ (L + 3) Sp := by
    obtain ⟨o, e, _⟩ := c3
    exact fS _ o (k3 _ o (Nat.ne_of_gt (Nat.add_lt_add_left (by decide) _)) e)
  dsimp only
  refine (h h₅ _ Kd Sp _ _ ⟨?_, ?_, ?_, ?_, C5, ?_, lk3.at fun o e => k5 _ o (hi2 hKd) e, ls4.at fun o e => (s5.2 _ (hi2 hSp)).trans e, ?_, ?_, hKd, hSp⟩ fun b o hb e => k05 b o (lt1 hb).1 (lt1 hb).2 e).out
  · exact N.at fun o e => k05 _ o (Nat.ne_of_lt n1) (Nat.ne_of_lt (Nat.lt_add_of_pos_right (by decide))) e
  · exact G.low fun b o _ hb e => k05 b o (lt1 (Nat.lt_of_le_of_lt hb hL)).1 (lt1 (Nat.lt_of_le_of_lt hb hL)).2 e
  · exact T.at fun o e => k05 _ o (lt1 (Nat.lt_trans (by decide) hL)).1 (lt1 (Nat.lt_trans (by decide) hL)).2 e
  · obtain ⟨o, e, r⟩ := C3
    exact ⟨o, k5 _ o (Nat.ne_of_lt (Nat.add_lt_add_left (by decide) _)) e, r⟩
  · obtain ⟨o, e, r⟩ := c3
    exact ⟨v3, o, k05 _ o (Nat.ne_of_gt (Nat.add_lt_add_left (by decide) _)) (Nat.ne_of_gt (Nat.add_lt_add_left (by decide) _)) e, r⟩
  · have kl : ∀ C : String, C ∈ kindNames → Leaf (L + 3) h₅ (.type C) (Str.ofString C) := fun C hC => .inl ⟨C, hC, rfl, rfl⟩
    exact .cons (kl _ (by decide)) (.cons (kl _ (by decide)) (.cons (kl _ (by decide)) (.cons (kl _ (by decide)) (.cons (kl _ (by decide)) (.cons (kl _ (by decide)) (.cons (kl _ (by decide))
      (.cons (.inr (.inl ⟨_, _, rfl, rfl⟩)) (.cons (.inr (.inr (.inl ⟨rfl, rfl⟩))) (.cons (.inr (.inr (.inr ⟨e, ob, rfl, heL, k5 _ _ (hi2 heL) he3, hcl, rfl⟩))) .nil)))))))))
  · exact .cons ⟨_, rfl⟩ (.cons ⟨_, rfl⟩ (.cons ⟨_, rfl⟩ (.cons ⟨_, rfl⟩ (.cons ⟨_, rfl⟩ (.cons ⟨_, rfl⟩ (.cons ⟨_, rfl⟩ (.cons ⟨_, rfl⟩ (.cons ⟨_, rfl⟩ (.cons ⟨_, rfl⟩ .nil)))))))))
end

section
variable {w : World} {mg mb : Str → Option Value} {A : Around} {E : Value → Shared → Prop} {s : Shared} {L : Addr} {m : Str → Option Value}
theorem lv_script {pos : Pos} {v : Value} {Q : Value → Shared → Prop} (N : s.heap.Ns L m) (hv : m "script" = some v) (h : Q v s) : wpAny (model prg w) A (eval (.Name "script" pos) (lawEnv L)) Q E s := nmL N hv h
theorem ls_boxes {v : Value} {Q : Unit → Shared → Prop} (F : s.heap.Ns L m) (h : ∀ h', h'.Ns L (fun y => if y = "boxes" then some v else m y) → Heap.SameBut L s.heap h' → Q () { s with heap := h', toks := s.toks + 1 }) : wpAny (model prg w) A (storeName (lawEnv L) "boxes" v) Q E s := stL F h

/-- the deeds: the first forty, or four of the law's own -/
theorem script_spec {ax : Addr} {vals : List Value} {p1 p2 p3 p4 p5 p6 p7 p8 p9 p0 : Pos} {Q : Value → Shared → Prop} (N : s.heap.Ns L m) (ms : m "script" = some (.ref ax)) (hl : s.heap.IsList ax vals.toArray) (hlen : vals.length ≤ 63) (allI : ∀ v ∈ vals, ∃ z t, v = Value.int z t)
    (h : ∀ h' tk r items, (∀ b o, s.heap.get? b = some o → h'.get? b = some o) → (∀ b o, s.heap.get? b = some o → b < r) → h'.IsList r (List.toArray items) → items.length ≤ 40 → (∀ v ∈ items, ∃ z t, v = Value.int z t) → Q (.ref r) { s with heap := h', toks := tk }) :
    wpAny (model prg w) A (eval (.BoolOp .Or [.Subscript (.Name "script" p1) (.Slice none (some (.Constant (.int 40) 0 p2)) none p3) p4, .List [.Constant (.int 0) 0 p5, .Constant (.int 10) 0 p6, .Constant (.int 1) 0 p7, .Constant (.int 7) 0 p8] p9] p0) (lawEnv L)) Q E s := by
  with_reducible refine wpAny_Or2 (wpAny_Subscript_list_slice ?_ ?ht)
  case ht => intro _ _; rfl
  with_reducible refine lv_script N ms (wpAny_evalPart_none (wpAny_evalPart_some (wpAny_Constant_int ?_)))
  refine ⟨ax, vals.toArray, none, some 40, rfl, hl, szOk (by simp; omega), .none, .int _ _, ?_⟩
  have hpick : slicePick vals.toArray none (some 40) none = (vals.take 40).toArray := by
    have := slicePick_upto' vals.toArray 40
    simpa using this
  rw [hpick]
  have hz : (vals.take 40).length ≤ 40 := by rw [List.length_take]; omega
  have k1 : ∀ b o, s.heap.get? b = some o → ((s.heap.push { cls := .type "slice", data := .fields #[.none, .int 40 s.toks, .none] }).push { cls := .type "list", data := .seq (vals.take 40).toArray }).get? b = some o := fun b o e => Heap.get?_push_of_some _ (Heap.get?_push_of_some _ e)
  have f1 : ∀ b o, s.heap.get? b = some o → b < s.heap.objs.size + 1 := fun b o e => Nat.lt_succ_of_lt (Heap.lt_size e)
  have l1 : ((s.heap.push { cls := .type "slice", data := .fields #[.none, .int 40 s.toks, .none] }).push { cls := .type "list", data := .seq (vals.take 40).toArray }).IsList (s.heap.objs.size + 1) (vals.take 40).toArray := by
    have e : s.heap.objs.size + 1 = (s.heap.push { cls := .type "slice", data := .fields #[.none, .int 40 s.toks, .none] }).objs.size := by rw [Heap.size_push]
    rw [e]
    exact ⟨_, Heap.get?_push_size _ rfl, rfl, _, rfl⟩
  dsimp only
  generalize (s.heap.push { cls := .type "slice", data := .fields #[.none, .int 40 s.toks, .none] }).push { cls := .type "list", data := .seq (vals.take 40).toArray } = h₁ at k1 l1
  refine wpAny_truthy_list l1 (by simp; omega) ?_
  cases hv : vals.take 40 with
  | nil =>
    simp only [List.isEmpty_toArray, List.isEmpty_nil, Bool.not_true, Bool.false_eq_true, if_false]
    with_reducible refine List_ ?_
    walk_at "m arg"
    with_reducible refine wpAny_Constant_int ?_
    walk_at "m arg"
    with_reducible refine wpAny_Constant_int ?_
    walk_at "m arg"
    with_reducible refine wpAny_Constant_int ?_
    walk_at "m arg"
    with_reducible refine wpAny_Constant_int (args_nil (new_list (by simp) ?_))
    intro h₂ r k2 l2 f2
    refine h h₂ _ r _ (fun b o e => k2 b o (k1 b o e)) (fun b o e => f2 b o (k1 b o e)) l2.isList (by simp) ?_
    intro v hv
    simp only [List.mem_cons, List.not_mem_nil, or_false] at hv
    rcases hv with rfl | rfl | rfl | rfl <;> exact ⟨_, _, rfl⟩
  | cons a r =>
    simp only [List.isEmpty_toArray, List.isEmpty_cons, Bool.not_false, if_true]
    refine h h₁ _ _ (vals.take 40) k1 f1 l1 hz fun v hv => allI v (List.mem_of_mem_take hv)

/-- wholes and boxes stand: the loop may begin -/
theorem pro2 {Kd Sp : Addr} {kv sv : List Value} {Q : Flow → Shared → Prop} (hL : @LT.lt Nat _ 40 L) (hh : A.handled = none) (S : PSt w mg mb L Kd Sp kv sv s.heap m)
    (h : ∀ h' tk m' B W bxs ws, LSt w mg mb L B W Kd Sp kv sv 0 h' m' bxs ws → m' "script" = m "script" → (∀ b o, b ≠ L → s.heap.get? b = some o → h'.get? b = some o) → (∀ a ∈ muts B W bxs, s.heap.objs.size ≤ a) → Wp (model prg w) A (execs (lawB.drop 4) (lawEnv L)) Q E { s with heap := h', toks := tk }) :
    Wp (model prg w) A (execs (lawB.drop 2) (lawEnv L)) Q E s := by
  constructor
  rw [show lawB.drop 2 = [_, _, _, _, _, _, _] from rfl]
  have zk : kv.length = 10 := S.kvs.length
  have zs : sv.length = 10 := S.svs.length
  walk_at "m cons"
  with_reducible refine wholes_spec ?e0 ?e1 ?e2 ?e3 ?e4 ?e5 ?e6 ?e7 ?e8 ?e9 S.G hh S.N S.ck S.cs S.lk S.ls zk zs ?_
  case e0 => rfl
  case e1 => rfl
  case e2 => decide
  case e3 => rfl
  case e4 => decide
  case e5 => rfl
  case e6 => intro _; rfl
  case e7 => intro _; rfl
  case e8 => intro _; rfl
  case e9 => rfl
  intro W h₁ tk₁ ys N1 hW lW hyl hE k1
  dsimp only
  walk_at "m cons"
  with_reducible refine wpAny_Assign_Name ?_ ?hs
  case hs => rfl
  with_reducible refine List_ ?_
  walk_at "m arg"
  with_reducible refine Tuple_ ?_
  walk_at "m arg"
  with_reducible refine List_ (args_nil (new_list (by simp) ?_))
  intro h₂ a k2 la fa
  walk_at "m arg"
  with_reducible refine List_ (args_nil (new_list (by simp) ?_))
  intro h₃ b k3 lb fb
  with_reducible refine args_nil (new_tuple (by simp) ?_)
  intro h₄ t k4 tt ft
  with_reducible refine args_nil (new_list (by simp) ?_)
  intro h₅ B k5 lB fB
  have k15 : ∀ b o, h₁.get? b = some o → h₅.get? b = some o := fun b o e => k5 b o (k4 b o (k3 b o (k2 b o e)))
  with_reducible refine ls_boxes (N1.keeps k15) ?_
  intro h₆ N6 s6
  dsimp only
  have hLW : @LT.lt Nat _ L W := Nat.lt_of_lt_of_le S.N.lt hW
  have hL3 : @LT.lt Nat _ (L + 3) s.heap.objs.size := let ⟨_, o, e, _⟩ := S.ct; Heap.lt_size e
  have hWl : ∃ o, h₁.get? W = some o := let ⟨n, e⟩ := lW; ⟨_, e⟩
  have hWa : @LT.lt Nat _ W a := let ⟨o, e⟩ := hWl; fa _ o e
  have hab : @LT.lt Nat _ a b := let ⟨n, e⟩ := la; fb _ _ e
  have hbt : @LT.lt Nat _ b t := let ⟨n, e⟩ := lb; ft _ _ e
  have htB : @LT.lt Nat _ t B := let ⟨o, e, _⟩ := tt; fB _ _ e
  have hsW : s.heap.objs.size ≤ W := hW
  have k6 : ∀ c o, c ≠ L → h₅.get? c = some o → h₆.get? c = some o := fun c o hc e => (s6.2 c hc).trans e
  have k16 : ∀ c o, c ≠ L → h₁.get? c = some o → h₆.get? c = some o := fun c o hc e => k6 c o hc (k15 c o e)
  have k06 : ∀ c o, c ≠ L → s.heap.get? c = some o → h₆.get? c = some o := fun c o hc e => k16 c o hc (k1 c o hc e)
  have nL : ∀ {c : Nat}, @LT.lt Nat _ L c → c ≠ L := fun h => Nat.ne_of_gt h
  have l3 : ∀ {c : Nat}, W ≤ c → @LT.lt Nat _ (L + 3) c := fun hc => Nat.lt_of_lt_of_le hL3 (Nat.le_trans hsW hc)
  have hWB : @LT.lt Nat _ W B := Nat.lt_trans hWa (Nat.lt_trans hab (Nat.lt_trans hbt htB))
  have hWb : @LT.lt Nat _ W b := Nat.lt_trans hWa hab
  have haB : @LT.lt Nat _ a B := Nat.lt_trans hab (Nat.lt_trans hbt htB)
  have hbB : @LT.lt Nat _ b B := Nat.lt_trans hbt htB
  have mm : ∀ c, c ∈ muts B W [⟨t, a, b, [], [], []⟩] → c = B ∨ c = W ∨ c = a ∨ c = b := fun c hc => by
    have : c ∈ [B, W, a, b] := hc
    simpa using this
  have old : ∀ c, @LT.lt Nat _ c W → c ∉ muts B W [⟨t, a, b, [], [], []⟩] := fun c hc hm => by
    rcases mm c hm with rfl | rfl | rfl | rfl
    · exact Nat.lt_irrefl _ (Nat.lt_trans hc hWB)
    · exact Nat.lt_irrefl _ hc
    · exact Nat.lt_irrefl _ (Nat.lt_trans hc hWa)
    · exact Nat.lt_irrefl _ (Nat.lt_trans hc hWb)
  have kvs6 : F2 (Leaf (L + 3) h₆) kv nm10 := f2_mono (fun _ _ x => x.ext fun c o hc _ e => k06 c o (nL (lt3 hc)) e) S.kvs
  refine (h h₆ _ _ B W [⟨t, a, b, [], [], []⟩] ys ⟨N6, if_pos rfl, (if_neg (by decide)).trans (if_pos rfl), ?_, by simp, ?_, by simp, by omega, by simp⟩ ((if_neg (by decide)).trans (if_neg (by decide))) k06 ?_).out
  · refine ⟨?_, ?_, ?_, ?_, ?_, S.lk.at fun o e => k06 _ o (nL (lt3 S.hKd)) e, S.ls.at fun o e => k06 _ o (nL (lt3 S.hSp)) e, kvs6, S.svs, lt3 S.hKd, lt3 S.hSp, ?_, ?_, ?_, ?_, ?_, ?_, ?_, ?_⟩
    · exact S.G.low fun c o _ hc e => k06 c o (Nat.ne_of_lt (Nat.lt_of_le_of_lt hc hL)) e
    · exact S.tab.at fun o e => k06 _ o (Nat.ne_of_lt (Nat.lt_trans (by decide) hL)) e
    · exact let ⟨o, e, r⟩ := S.ck; ⟨o, k06 _ o (nL (Nat.lt_succ_self _)) e, r⟩
    · exact let ⟨o, e, r⟩ := S.cs; ⟨o, k06 _ o (nL (Nat.lt_add_of_pos_right (by decide))) e, r⟩
    · exact let ⟨v, o, e, r⟩ := S.ct; ⟨v, o, k06 _ o (nL (Nat.lt_add_of_pos_right (by decide))) e, r⟩
    · exact lB.at fun o e => k6 _ o (nL (Nat.lt_trans hLW hWB)) e
    · intro x hx
      rw [List.mem_singleton.mp hx]
      refine ⟨l3 (Nat.le_of_lt (Nat.lt_trans hWb hbt)), ?_, ?_, ?_, .nil, .nil⟩
      · exact let ⟨o, e, r⟩ := tt; ⟨o, k6 _ o (nL (Nat.lt_trans hLW (Nat.lt_trans hWb hbt))) (k5 _ o e), r⟩
      · exact la.at fun o e => k6 _ o (nL (Nat.lt_trans hLW hWa)) (k5 _ o (k4 _ o (k3 _ o e)))
      · exact lb.at fun o e => k6 _ o (nL (Nat.lt_trans hLW hWb)) (k5 _ o (k4 _ o e))
    · exact lW.at fun o e => k16 _ o (nL hLW) e
    · intro v hv
      obtain ⟨i, hi⟩ := List.getElem?_of_mem hv
      obtain ⟨p, c, x, y, ev, hp, hc, tp, lc, hx, hy⟩ := hE i v hi
      obtain ⟨n, hn, lf⟩ := kvs6.get i x hx
      obtain ⟨n', hn', ny⟩ := S.svs.get i y hy
      rw [hn] at hn'
      cases hn'
      have hca : @LT.lt Nat _ c a := let ⟨_, e⟩ := lc; fa _ _ e
      refine ⟨p, x, c, [y], [n], ev, l3 (Nat.le_of_lt hp), l3 (Nat.le_of_lt hc), ?_, ?_, thing_leaf lf, lc.at fun o e => k16 _ o (nL (Nat.lt_trans hLW hc)) e, .cons ny .nil, by simp⟩
      · intro hm
        rcases mm c hm with rfl | rfl | rfl | rfl
        · exact Nat.lt_irrefl _ (Nat.lt_trans hca haB)
        · exact Nat.lt_irrefl _ hc
        · exact Nat.lt_irrefl _ hca
        · exact Nat.lt_irrefl _ (Nat.lt_trans hca hab)
      · exact let ⟨o, e, r⟩ := tp; ⟨o, k16 _ o (nL (Nat.lt_trans hLW hp)) e, r⟩
    · show [B, W, a, b].Nodup
      simp only [List.nodup_cons, List.mem_cons, List.not_mem_nil, or_false, not_or, List.nodup_nil, and_true, not_false_eq_true]
      exact ⟨⟨Nat.ne_of_gt hWB, Nat.ne_of_gt haB, Nat.ne_of_gt hbB⟩, ⟨Nat.ne_of_lt hWa, Nat.ne_of_lt hWb⟩, Nat.ne_of_lt hab⟩
    · exact old Kd (Nat.lt_of_lt_of_le S.lk.lt hsW)
    · exact old Sp (Nat.lt_of_lt_of_le S.ls.lt hsW)
    · intro c hc
      rcases mm c hc with rfl | rfl | rfl | rfl
      · exact l3 (Nat.le_of_lt hWB)
      · exact l3 (Nat.le_refl _)
      · exact l3 (Nat.le_of_lt hWa)
      · exact l3 (Nat.le_of_lt hWb)
  · intro x hx
    rw [List.mem_singleton.mp hx]
    simp
  · intro c hc
    rcases mm c hc with rfl | rfl | rfl | rfl
    · exact Nat.le_trans hsW (Nat.le_of_lt hWB)
    · exact hsW
    · exact Nat.le_trans hsW (Nat.le_of_lt hWa)
    · exact Nat.le_trans hsW (Nat.le_of_lt hWb)
end

/-- what the law leaves of what was there -/
structure LRel (L : Addr) (s s' : Shared) : Prop where
  same : ∃ h' tk gs, s' = { s with heap := h', toks := tk, gens := gs }
  keep : ∀ b o, @LT.lt Nat _ b L → b ≠ 16 → s.heap.get? b = some o → s'.heap.get? b = some o
  tab : TabOk s'.heap
  grow : TabGrow s.heap s'.heap
  gens : GExt s.gens s'.gens
section
variable {w : World} {mg mb : Str → Option Value} {A : Around} {E : Value → Shared → Prop} {s : Shared} {L : Addr} {m : Str → Option Value}
theorem law_spec {ax : Addr} {vals : List Value} {Q : Flow → Shared → Prop} (hL : @LT.lt Nat _ 40 L) (hh : A.handled = none) (hroom : A.depth + 3 * 50 + 3 < recursionLimit) (G : Gd w mg mb s.heap) (T : TabOk s.heap) (N : s.heap.Ns L m) (ms : m "script" = some (.ref ax))
    (c1 : ∃ v, s.heap.IsCell (L + 1) v) (c2 : ∃ v, s.heap.IsCell (L + 2) v) (c3 : ∃ v, s.heap.IsCell (L + 3) v) (hl : s.heap.IsList ax vals.toArray) (hax : @LT.lt Nat _ ax L) (hlen : vals.length ≤ 63) (allI : ∀ v ∈ vals, ∃ z t, v = Value.int z t)
    (h : ∀ s', LRel L s s' → Q (.ret (.bool true)) s') :
    Wp (model prg w) A (execs lawB (lawEnv L)) Q E s := by
  have room0 : A.depth < recursionLimit := Nat.lt_of_le_of_lt (Nat.le_trans (Nat.le_add_right _ _) (Nat.le_add_right _ _)) hroom
  refine pro1 hL G T N c1 c2 c3 ?_
  intro h₁ tk₁ Kd Sp kv sv P o1
  refine pro2 hL hh P ?_
  intro h₂ tk₂ m₂ B W bxs ws S ms2 k2 new2
  have o2 : ∀ b o, @LT.lt Nat _ b L → s.heap.get? b = some o → h₂.get? b = some o := fun b o hb e => k2 b o (Nat.ne_of_lt hb) (o1 b o hb e)
  constructor
  rw [show lawB.drop 4 = [_, _, _, _, _] from rfl]
  walk_at "m cons"
  walk_at "m for"
  have hl2 : h₂.IsList ax vals.toArray := let ⟨o, e, r⟩ := hl; ⟨o, o2 _ o hax e, r⟩
  have ms3 : m₂ "script" = some (.ref ax) := ms2.trans ms
  with_reducible refine script_spec S.N ms3 hl2 hlen allI ?_
  intro h₃ tk₃ r items k3 f3 l3 z3 a3
  with_reducible refine wpAny_pyIter_list l3 ?_
  have hr : @LT.lt Nat _ r h₃.objs.size := let ⟨o, e, _⟩ := l3; Heap.lt_size e
  have k4 : ∀ b o, h₃.get? b = some o → (h₃.push { cls := .type "list_iterator", data := .fields #[.ref r, .int 0 0] }).get? b = some o := fun b o e => Heap.get?_push_of_some _ e
  have it4 : (h₃.push { cls := .type "list_iterator", data := .fields #[.ref r, .int 0 0] }).IsListIter h₃.objs.size r 0 := ⟨_, Heap.get?_push_size _ rfl, rfl, rfl⟩
  have l4 : (h₃.push { cls := .type "list_iterator", data := .fields #[.ref r, .int 0 0] }).IsList r items.toArray := let ⟨o, e, q⟩ := l3; ⟨o, k4 _ o e, q⟩
  have S4 := (S.keep hL k3).keep hL k4
  have live : ∀ a ∈ muts B W bxs, @LT.lt Nat _ a r := fun a ha => let ⟨_, _, e⟩ := mut_lst S.I a ha; f3 _ _ e
  have hI3 : @LT.lt Nat _ (L + 3) h₃.objs.size := let ⟨_, o, e, _⟩ := S.I.ct; Heap.lt_size (k3 _ o e)
  have hLr : @LT.lt Nat _ L r := let ⟨_, o, e, _⟩ := S.I.ct; lt3 (f3 _ o e)
  have o4 : ∀ b o, @LT.lt Nat _ b L → s.heap.get? b = some o → (h₃.push { cls := .type "list_iterator", data := .fields #[.ref r, .int 0 0] }).get? b = some o := fun b o hb e => k4 b o (k3 b o (o2 b o hb e))
  generalize h₃.push { cls := .type "list_iterator", data := .fields #[.ref r, .int 0 0] } = h₄ at k4 it4 l4 S4 o4
  generalize h₃.objs.size = I at it4 hr hI3
  dsimp only
  refine loop_spec hL hh room0 S4 z3 a3 it4 l4 (fun hm => Nat.lt_irrefl _ (Nat.lt_trans (live I hm) hr)) (fun hm => Nat.lt_irrefl _ (live r hm)) hI3 (Nat.ne_of_gt hLr) (Nat.ne_of_lt hr) ?_
  intro h₅ tk₅ m₅ bxs₅ ws₅ S5 o5
  dsimp only
  refine Wp.out (tail_spec hL hh room0 S5 z3 ?_)
  intro h₆ tk₆ ws₆ F6 o6
  refine fin_spec hL hh hroom F6 ?_
  intro s₇ R
  have o06 : ∀ b o, @LT.lt Nat _ b L → s.heap.get? b = some o → h₆.get? b = some o := fun b o hb e => o6 b o hb (o5 b o hb (o4 b o hb e))
  obtain ⟨h₇, tk₇, gs₇, e7⟩ := R.same
  refine h s₇ ⟨⟨h₇, tk₇, gs₇, e7⟩, fun b o hb h16 e => R.keep b o (Nat.ne_of_lt hb) (Nat.ne_of_lt (Nat.lt_trans hb (Nat.lt_add_of_pos_right (by decide)))) h16 (o06 b o hb e), R.tab, ?_, R.gens⟩
  exact TabGrow.trans (.of fun o e => o06 _ o (Nat.lt_trans (by decide) hL) e) R.grow
end

section
variable {w : World} {mg mb : Str → Option Value} {A : Around} {s : Shared}
/-- the call of the law -/
theorem enterLaw {R : Result → Shared → Prop} {v : Value} (G : Gd w mg mb s.heap) (hroom : A.depth < recursionLimit)
    (h : ∀ h₁ tk m, h₁.Ns s.heap.objs.size m → m "script" = some v → (∃ u, h₁.IsCell (s.heap.objs.size + 1) u) → (∃ u, h₁.IsCell (s.heap.objs.size + 2) u) → (∃ u, h₁.IsCell (s.heap.objs.size + 3) u) → (∀ b o, s.heap.get? b = some o → h₁.get? b = some o) →
      Wp (model prg w) (A.deeper (lawEnv s.heap.objs.size)) (execs lawB (lawEnv s.heap.objs.size))
        (fun fl s' => R (.ok (.ret (match fl with | .ret v => v | _ => .none))) s')
        (fun e s' => wpAny (model prg w) (A.deeper (lawEnv s.heap.objs.size)) (leaving (lawEnv s.heap.objs.size) e) (fun _ s'' => R (.error e) s'') (fun e' s'' => R (.error e') s'') s')
        { s with heap := h₁, toks := tk }) : codeAny (model prg w) A (.call (.ref 40) ⟨[v], []⟩) R s := by
  refine codeAny_call_cells (binds := [("script", v)]) hroom (G.X 40 _ rfl) rfl G.lim (codeRec_of G.X (by rfl)) rfl rfl rfl ?_ ?_
  · intro x hx
    rw [List.mem_singleton.mp hx]; exact .inl rfl
  · intro s₁ x
    obtain ⟨h₁, tk, e, k⟩ := x.done
    have hn := x.toInCall.ns
    have hc1 := x.cell "kinds" (s.heap.objs.size + 1) rfl
    have hc2 := x.cell "spelled" (s.heap.objs.size + 2) rfl
    have hc3 := x.cell "top" (s.heap.objs.size + 3) rfl
    subst e
    exact (h h₁ tk _ hn rfl ⟨_, hc1⟩ ⟨_, hc2⟩ ⟨_, hc3⟩ k).out

theorem tab16 {p : Program} {loose : List Str} {mean : ExcName → Option Value} {h : Heap} (hp : ∃ d, d ∈ recsOf p ∧ d.name = "_is_subtype") (KX : (hd.heap_39 w.params).In h) (T : Top p loose mean mg mb h) : h.TableAt 20 16 #[] := by
  obtain ⟨d, hd, hn⟩ := hp
  obtain ⟨a, o, fd, c, P, h1, h2, h3, h4, h5, h6⟩ := T.tab d hd
  rw [hn] at h1
  have e1 : mg "_is_subtype" = some (.ref 21) := mg_of KX T.g (by rfl)
  rw [e1] at h1
  injection h1 with h1
  injection h1 with h1
  subst h1
  have e2 := KX 21 _ rfl
  rw [h2] at e2
  injection e2 with e2
  subst e2
  injection h3 with h3
  subst h3
  injection h4 with h4
  subst h4
  obtain ⟨⟨o', vs, q1, q2, q3, q4⟩, q5⟩ := h6
  have e3 := KX 20 _ rfl
  have e3' := e3
  rw [q1] at e3
  injection e3 with e3
  subst e3
  injection q3 with q3
  subst q3
  injection q4 with q4
  injection q4 with q4
  subst q4
  exact ⟨⟨_, _, e3', rfl, rfl, rfl⟩, q5⟩
theorem rec_sub : ∃ d, d ∈ recsOf hd.view_39 ∧ d.name = "_is_subtype" := ⟨(recsOf hd.view_39)[0], List.getElem_mem _, rfl⟩
theorem ns_builtins : nsIn (hd.heap_39 w.params) mainGlobals "__builtins__" = some (some (.ref 4)) := rfl
end

theorem good {cl : Str → Option Addr} {mean : ExcName → Option Value} {args : List WData} {s₁ s' : Shared} {h₁ : Heap} {tk : Nat} (hg : s₁.gens = #[]) (k : ∀ b o, s₁.heap.get? b = some o → h₁.get? b = some o) (TB : s₁.heap.TableAt 20 16 #[])
    (R : LRel s₁.heap.objs.size { s₁ with heap := h₁, toks := tk } s') (hpost : PySem.Challenge.rw_ki0109_01.row.claim.post args (.bool true) args = true) : GoodWG PySem.Challenge.rw_ki0109_01.row.claim cl mean args s₁ (.ok (.ret (.bool true))) s' := by
  have t16 := TB.2
  obtain ⟨more, hm⟩ := R.grow #[] (k _ _ t16)
  refine ⟨.inl ⟨.bool true, .bool true, [], rfl, fun _ => rfl, .bool _, hpost, fun _ => ⟨List.nodup_nil, fun _ h => nomatch h⟩⟩, ⟨fun b o e => ?_, fun b o e => ?_⟩, ?_, ?_⟩
  · by_cases hb : b = 16
    · subst hb
      rw [t16] at e
      injection e with e
      subst e
      exact .inr (.inl ⟨TB.isCodeTable, rfl, #[], more, rfl, hm⟩)
    · exact .inl (R.keep b o (Heap.lt_size e) hb (k b o e))
  · by_cases hb : b = 16
    · subst hb
      exact ⟨_, hm⟩
    · exact ⟨o, R.keep b o (Heap.lt_size e) hb (k b o e)⟩
  · obtain ⟨h', tk', gs, e⟩ := R.same
    rw [e]
  · intro y hy
    obtain ⟨i, hi, e⟩ := Array.mem_iff_getElem.mp hy
    refine R.gens.bare i y ?_ (by rw [Array.getElem?_eq_getElem hi, e])
    show s₁.gens.size ≤ i
    rw [hg]
    exact Nat.zero_le _

theorem ints_all {vs : List Value} {ns : List Int} (h : IntsAre vs ns) : ∀ v ∈ vs, ∃ z t, v = Value.int z t := by
  induction h with
  | nil => intro v hv; cases hv
  | cons n t _ ih =>
    intro v hv
    rcases List.mem_cons.mp hv with rfl | hv
    · exact ⟨n, t, rfl⟩
    · exact ih v hv

theorem fin : PySem.Challenge.rw_ki0109_01.Holds := by
  with_reducible refine hd ?_
  intro w s₀ s₁ mg mb G Y fa o pm cd doc dV kV ho hd hcd hD hmg hg args vals as hpre hlay hrd hwl hlo
  have KX := kIn_of Y
  refine Ground.open G ?_
  intro T B D TE TW
  clear D TE TW hD hcd hd ho
  obtain ⟨bm, ob, M⟩ := bmod_of_top T
  have e40 : mg "law" = some (.ref 40) := mg_of KX T.g (by rfl)
  have e41 := hmg.symm.trans e40
  have e42 : fa = 40 := by injection e41 with e; injection e
  clear e41 hmg G Y
  subst e42
  have e4 : mg "__builtins__" = some (.ref 4) := mg_of KX T.g ns_builtins
  have ebm : bm = 4 := by have := M.name.symm.trans e4; injection this with e; injection e
  have G : Gd w mg mb s₁.heap := ⟨KX, T.g, T.b, T.nolimit, T.builtins, bm, ob, M, by rw [ebm]; decide, by rw [ebm]; decide⟩
  have TB := tab16 rec_sub KX T
  have T0 : TabOk s₁.heap := ⟨#[], TB.2, trivial⟩
  have hL : @LT.lt Nat _ 40 s₁.heap.objs.size := Heap.lt_size (KX 40 _ rfl)
  clear B M T e4 e40
  wrow_args hpre hlay hrd hwl hlo
  rename_i ns _ _ _ _ _ _ _ ax vs _ hl _ _ _ hI _ hlen _
  have hvl : vs.length ≤ 63 := by have := hI.length; omega
  have allI := ints_all hI
  have hax : @LT.lt Nat _ ax s₁.heap.objs.size := let ⟨o, e, _⟩ := hl; Heap.lt_size e
  show wpAny (model prg w) callerA (call (.ref 40) [.ref ax]) _ _ s₁
  refine wpAny_call (enterLaw G (by decide) ?_)
  intro h₁ tk m N ms c1 c2 c3 k
  refine law_spec (L := s₁.heap.objs.size) hL rfl (by show 1 + 300 + 1 + 3 * 50 + 3 < 1000; decide) (G.keeps k) (T0.at fun o e => k _ o e) N ms c1 c2 c3 (let ⟨o, e, r⟩ := hl; ⟨o, k _ o e, r⟩) hax hvl allI ?_
  intro s' R
  refine good hg k TB R ?_
  wrow_post

end Mine

theorem PySem.Challenge.cw_ki0109_01_holds : PySem.Challenge.rw_ki0109_01.Holds :=
  Mine.fin
