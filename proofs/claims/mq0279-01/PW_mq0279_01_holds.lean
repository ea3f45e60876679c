import PyProof.Rows.All
import Wide.All
import OpenK.AllK
import Wide.FinOn
import PySem.Challenge.RW_mq0279_01
set_option Elab.async false
set_option maxRecDepth 100000
namespace Mine
section
variable {K : Type} [DecidableEq K]

/-- one turn of unorderable_list_difference upon (missing, actual) -/
def ustep (p : List K × List K) (x : K) : List K × List K := if x ∈ p.2 then (p.1, p.2.erase x) else (p.1 ++ [x], p.2)
/-- the whole, the last item first -/
def uld : List K → List K → List K × List K
  | [], A => ([], A)
  | x :: E, A => ustep (uld E A) x
theorem uld_eq (A : List K) : ∀ E : List K, uld E A = E.reverse.foldl ustep ([], A)
  | [] => rfl
  | x :: E => by rw [List.reverse_cons, List.foldl_append, ← uld_eq A E]; rfl

/-- what _law_apart tells of the first list, in its order -/
def lostL : List K → List K → List K
  | [], _ => []
  | x :: H, T => (if T.count x < (x :: H).count x then [x] else []) ++ lostL H T
/-- what _law_apart tells of the second list -/
def leftG (H : List K) : List K → List K → List K
  | _, [] => []
  | pre, x :: T => (if H.count x < (pre ++ [x]).count x then [x] else []) ++ leftG H (pre ++ [x]) T

theorem left_past (x : K) (E : List K) : ∀ (A pre : List K), E.count x < pre.count x → leftG (x :: E) pre A = leftG E pre A
  | [], _, _ => rfl
  | y :: A, pre, h => by
    have h' : E.count x < (pre ++ [y]).count x := by rw [List.count_append]; omega
    unfold leftG
    rw [left_past x E A _ h']
    congr 1
    by_cases hy : y = x
    · subst hy
      have e1 : E.count y < (pre ++ [y]).count y := h'
      have e2 : (y :: E).count y < (pre ++ [y]).count y := by simp [List.count_append]; omega
      rw [if_pos e1, if_pos e2]
    · have : (x :: E).count y = E.count y := by rw [List.count_cons]; simp [Ne.symm hy]
      rw [this]
theorem left_erase (x : K) (E : List K) : ∀ (A pre : List K), pre.count x ≤ E.count x → (leftG E pre A).erase x = leftG (x :: E) pre A
  | [], _, _ => rfl
  | y :: A, pre, h => by
    unfold leftG
    by_cases hy : y = x
    · subst hy
      by_cases hc : E.count y < (pre ++ [y]).count y
      · have e2 : ¬ (y :: E).count y < (pre ++ [y]).count y := by simp [List.count_append]; omega
        rw [if_pos hc, if_neg e2, List.singleton_append, List.nil_append, List.erase_cons_head, left_past y E A _ hc]
      · have e2 : ¬ (y :: E).count y < (pre ++ [y]).count y := by simp [List.count_append] at *; omega
        rw [if_neg hc, if_neg e2, List.nil_append, List.nil_append]
        exact left_erase y E A _ (by omega)
    · have e : (x :: E).count y = E.count y := by rw [List.count_cons]; simp [Ne.symm hy]
      have h' : (pre ++ [y]).count x ≤ E.count x := by rw [List.count_append]; simp [hy]; omega
      have ih := left_erase x E A _ h'
      rw [e]
      by_cases hc : E.count y < (pre ++ [y]).count y
      · rw [if_pos hc, List.singleton_append, List.singleton_append, List.erase_cons_tail (by simpa using hy), ih]
      · rw [if_neg hc, List.nil_append, List.nil_append, ih]

theorem uld_snd (A : List K) : ∀ E : List K, (uld E A).2 = leftG E [] A
  | [] => by
    show A = leftG [] [] A
    have : ∀ (A pre : List K), leftG ([] : List K) pre A = A := by
      intro A
      induction A with
      | nil => intro _; rfl
      | cons y A ih =>
        intro pre
        unfold leftG
        rw [ih, if_pos (by simp [List.count_append])]
        rfl
    exact (this A []).symm
  | x :: E => by
    rw [← left_erase x E A [] (by simp), ← uld_snd A E]
    show (ustep (uld E A) x).2 = _
    unfold ustep
    split
    · rfl
    · rename_i h
      exact (List.erase_of_not_mem h).symm

theorem uld_count (A : List K) (y : K) : ∀ E : List K, (uld E A).2.count y = A.count y - E.count y
  | [] => by simp [uld]
  | x :: E => by
    have ih := uld_count A y E
    show (ustep (uld E A) x).2.count y = _
    unfold ustep
    split
    · rename_i h
      show ((uld E A).2.erase x).count y = _
      rw [List.count_erase, ih, List.count_cons]
      omega
    · rename_i h
      show ((uld E A).2).count y = _
      rw [ih, List.count_cons]
      by_cases hx : x = y
      · subst hx
        have := List.count_eq_zero_of_not_mem h
        rw [ih] at this
        simp
        omega
      · simp [hx]

theorem uld_fst (A : List K) : ∀ E : List K, (uld E A).1 = (lostL E A).reverse
  | [] => rfl
  | x :: E => by
    have ih := uld_fst A E
    have hc := uld_count A x E
    show (ustep (uld E A) x).1 = _
    unfold ustep lostL
    split
    · rename_i h
      have : 0 < (uld E A).2.count x := List.count_pos_iff.mpr h
      rw [if_neg (by rw [List.count_cons]; simp; omega)]
      exact ih
    · rename_i h
      have := List.count_eq_zero_of_not_mem h
      rw [if_pos (by rw [List.count_cons]; simp; omega), ih, List.singleton_append, List.reverse_cons]

/-- nothing lies in both behind it -/
theorem uld_apart (A : List K) : ∀ E : List K, ∀ x ∈ (uld E A).1, x ∉ (uld E A).2
  | [] => fun x h => nomatch h
  | x :: E => by
    have ih := uld_apart A E
    show ∀ z ∈ (ustep (uld E A) x).1, z ∉ (ustep (uld E A) x).2
    unfold ustep
    split
    · intro z hz h
      exact ih z hz (List.mem_of_mem_erase h)
    · rename_i h
      intro z hz
      rcases List.mem_append.mp hz with hz | hz
      · exact ih z hz
      · rw [List.mem_singleton.mp hz]; exact h

theorem uld_sum {B : Type} [DecidableEq B] (g : K → List B) (y : B) (A : List K) : ∀ E : List K,
    ((uld E A).1.flatMap g).count y + (A.flatMap g).count y = (E.flatMap g).count y + ((uld E A).2.flatMap g).count y
  | [] => by simp [uld]
  | x :: E => by
    have ih := uld_sum g y A E
    show ((ustep (uld E A) x).1.flatMap g).count y + _ = _ + ((ustep (uld E A) x).2.flatMap g).count y
    unfold ustep
    split
    · rename_i h
      have hp : ((uld E A).2.flatMap g).count y = ((x :: (uld E A).2.erase x).flatMap g).count y := ((List.perm_cons_erase h).flatMap_right g).count_eq y
      rw [List.flatMap_cons, List.count_append] at hp
      rw [List.flatMap_cons, List.count_append]
      dsimp only
      omega
    · dsimp only
      rw [List.flatMap_append, List.count_append, List.flatMap_cons, List.flatMap_cons, List.count_append]
      simp
      omega
theorem uld_len (A : List K) : ∀ E : List K, (uld E A).1.length ≤ E.length ∧ (uld E A).2.length ≤ A.length
  | [] => ⟨Nat.le_refl _, Nat.le_refl _⟩
  | x :: E => by
    have ih := uld_len A E
    show (ustep (uld E A) x).1.length ≤ _ ∧ (ustep (uld E A) x).2.length ≤ _
    unfold ustep
    split
    · refine ⟨Nat.le_succ_of_le ih.1, ?_⟩
      exact Nat.le_trans List.length_erase_le ih.2
    · refine ⟨?_, ih.2⟩
      simp only [List.length_append, List.length_cons, List.length_nil]
      omega
theorem uld_sub (A : List K) : ∀ E : List K, (∀ x ∈ (uld E A).1, x ∈ E) ∧ (∀ x ∈ (uld E A).2, x ∈ A)
  | [] => ⟨(fun x h => nomatch h), (fun _ h => h)⟩
  | x :: E => by
    have ih := uld_sub A E
    show (∀ z ∈ (ustep (uld E A) x).1, z ∈ x :: E) ∧ (∀ z ∈ (ustep (uld E A) x).2, z ∈ A)
    unfold ustep
    split
    · exact ⟨fun z hz => List.mem_cons_of_mem _ (ih.1 z hz), fun z hz => ih.2 z (List.mem_of_mem_erase hz)⟩
    · refine ⟨fun z hz => ?_, ih.2⟩
      rcases List.mem_append.mp hz with hz | hz
      · exact List.mem_cons_of_mem _ (ih.1 z hz)
      · rw [List.mem_singleton.mp hz]; exact List.mem_cons_self
end
end Mine

namespace Mine
open PySem PySem.W PySem.Calls PyProof.Rows

/-- the text's i-th statement, and a def's parts -/
def stm (i : Nat) : Stmt := PySem.Challenge.pw_mq0279_01.main.body.getD i (.Pass default)
def fN : Stmt → Str | .FunctionDef n _ _ _ _ _ _ _ _ _ => n | _ => Str.empty
def fP : Stmt → Arguments | .FunctionDef _ a _ _ _ _ _ _ _ _ => a | _ => ⟨[], [], none, [], [], none, []⟩
def fB : Stmt → List Stmt | .FunctionDef _ _ b _ _ _ _ _ _ _ => b | _ => []
def fS : Stmt → Scope | .FunctionDef _ _ _ _ _ _ s _ _ _ => s | _ => default

/-- heaps that only grow -/
def Kp (h h' : Heap) : Prop := ∀ b o, h.get? b = some o → h'.get? b = some o
theorem Kp.rfl' {h : Heap} : Kp h h := fun _ _ e => e
theorem Kp.trans {a b c : Heap} (x : Kp a b) (y : Kp b c) : Kp a c := fun i o e => y i o (x i o e)

/-- room in the machine's own measures -/
structure Room (A : Around) (n : Nat) : Prop where
  depth : A.depth + n ≤ 400
  units : A.units + 10 * n ≤ 2000
  handled : A.handled = none
theorem Room.deeper {A : Around} {n : Nat} (r : Room A (n + 1)) (env : Env) : Room (A.deeper env) n := by
  obtain ⟨a, b, c⟩ := r
  exact ⟨by show A.depth + 1 + n ≤ 400; omega, by show A.units + 3 + 10 * n ≤ 2000; omega, c⟩
theorem Room.lim {A : Around} {n : Nat} (r : Room A n) : A.depth < recursionLimit := by have := r.depth; show A.depth < 1000; omega
theorem Room.line {A : Around} {n : Nat} (r : Room A n) : A.units < cLine := by have := r.units; show A.units < 9900; omega

/-- the signs of table B.1 -/
def b1L : List Int := [173, 847, 6150, 6155, 6156, 6157, 8203, 8204, 8205, 8288, 65279, 65024, 65025, 65026, 65027, 65028, 65029, 65030, 65031, 65032, 65033, 65034, 65035, 65036, 65037, 65038, 65039]
/-- the written pairs of b3_exceptions -/
def d3 : List (PyData × PyData) := match stm 6 with
  | .Assign _ (.Dict ks vs _) _ => (litPairs ks vs).getD []
  | _ => []

def defIdx : List Nat := [1, 2, 5, 7, 9, 10, 11, 12, 13, 14, 15]
def usedBuiltins : List Str := ["set", "list", "range", "ord", "chr", "len", "zip", "max", "int", "sum", "sorted", "ValueError"]

/-- what stands in the globals behind the top -/
structure Gl (mg mb : Str → Option Value) (h : Heap) : Prop where
  g : h.Ns mainGlobals mg
  b : h.Ns builtinsNs mb
  bb : ∀ x : Str, x ≠ "__name__" → mb x = bootBuiltins x
  free : ∀ x ∈ usedBuiltins, mg x = none
  lim : h.NoLimit
  fn : ∀ i ∈ defIdx, ∃ a o pm cd doc, mg (fN (stm i)) = some (.ref a) ∧ h.get? a = some o ∧ o.data = .func (docDef (fN (stm i)) (fP (stm i)) (fB (stm i)) (fS (stm i)) pm cd doc) ∧ h.CodeRec cd (fN (stm i))
  b1 : ∃ a o S n, mg "b1_set" = some (.ref a) ∧ h.get? a = some o ∧ o.IntSetOf S n ∧ n < 4096 ∧ ∀ k, S k = b1L.contains k
  b3 : ∃ a, mg "b3_exceptions" = some (.ref a) ∧ ∀ (prog : Program) (w : World), IntTab prog w h a d3
theorem Gl.keeps {mg mb : Str → Option Value} {h h' : Heap} (G : Gl mg mb h) (k : Kp h h') : Gl mg mb h' where
  g := G.g.keeps k
  b := G.b.keeps k
  bb := G.bb
  free := G.free
  lim := G.lim.keeps k
  fn := fun i hi => let ⟨a, o, pm, cd, doc, h1, h2, h3, h4⟩ := G.fn i hi; ⟨a, o, pm, cd, doc, h1, k _ _ h2, h3, h4.keeps k⟩
  b1 := let ⟨a, o, S, n, h1, h2, r⟩ := G.b1; ⟨a, o, S, n, h1, k _ _ h2, r⟩
  b3 := let ⟨a, h1, h2⟩ := G.b3; ⟨a, h1, fun p w => TabAt.keep (h2 p w) k⟩

section
variable {prog : Program} {w : World} {A : Around} {E : Value → Shared → Prop} {s : Shared} {mg mb : Str → Option Value} {env : Env} {Q : Value → Shared → Prop}

/-- an env of a def of the text, or of a comprehension in it -/
structure FEnv (env : Env) : Prop where
  kind : env.scope.kind = .function
  globals : env.globals = mainGlobals
  builtins : env.builtins = builtinsNs

theorem name_builtin {x : Str} {v : Value} {pos : Pos} (G : Gl mg mb s.heap) (fe : FEnv env) (hx : env.kindOf x = some .globalImplicit) (hm : x ∈ usedBuiltins) (hv : bootBuiltins x = some v)
    (h : Q v s) (hn : x ≠ "__name__" := by decide +kernel) (hd : (x == ("__debug__" : Str)) = false := by decide) : wpAny (model prog w) A (eval (.Name x pos) env) Q E s :=
  Name_function_global fe.kind hx (loadGlobal_builtin (mg := mg) (mb := mb) (by rw [fe.globals]; exact G.g) (G.free x hm) (by rw [fe.builtins]; exact G.b) ((G.bb x hn).trans hv) h) hd
theorem name_global {x : Str} {v : Value} {pos : Pos} (G : Gl mg mb s.heap) (fe : FEnv env) (hx : env.kindOf x = some .globalImplicit) (hv : mg x = some v)
    (h : Q v s) (hd : (x == ("__debug__" : Str)) = false := by decide) : wpAny (model prog w) A (eval (.Name x pos) env) Q E s :=
  Name_function_global fe.kind hx (loadGlobal_global (mg := mg) (by rw [fe.globals]; exact G.g) hv h) hd

/-- a call of one of the text's defs, by its name -/
theorem call_fn {i : Nat} {x : Str} {np pos : Pos} {e : Expr} {rest : List Expr} (G : Gl mg mb s.heap) (fe : FEnv env) (hi : i ∈ defIdx) (hx : fN (stm i) = x) (hk : env.kindOf x = some .globalImplicit)
    (h : wpAny (model prog w) A (spliced (backTo pos (starEach (e :: rest) env))) (fun vs s₁ => Kp s.heap s₁.heap ∧ ∀ a, mg x = some (.ref a) → wpAny (model prog w) A (call (.ref a) vs) Q E s₁) E s)
    (hse : starEach (e :: rest) env = (false, eval e env) :: starEach rest env := by rfl) (hd : (x == ("__debug__" : Str)) = false := by decide) :
    wpAny (model prog w) A (eval (.Call (.Name x np) (e :: rest) [] pos) env) Q E s := by
  obtain ⟨a, o, pm, cd, doc, h1, h2, h3, h4⟩ := G.fn i hi
  rw [hx] at h1
  refine wpAny_Call_NameR (name_global G fe hk h1 ?_ hd)
  exact callWith_def h3 (wpAny_mono h (fun vs s₁ h' => ⟨h'.1 _ _ h2, h'.2 a h1⟩) fun _ _ x => x) hse

/-- a call of a built-in function with one argument, by its name -/
theorem call_bi {x : Str} {id : String} {np pos : Pos} {e : Expr} (G : Gl mg mb s.heap) (fe : FEnv env) (hk : env.kindOf x = some .globalImplicit) (hm : x ∈ usedBuiltins) (hv : bootBuiltins x = some (.builtin id))
    (h : wpAny (model prog w) A (eval e env) (fun v s₁ => wpAny (model prog w) A (call (.builtin id) [v]) Q E s₁) E s) (hse : starEach [e] env = [(false, eval e env)] := by rfl)
    (hn : x ≠ "__name__" := by decide +kernel) (hd : (x == ("__debug__" : Str)) = false := by decide) : wpAny (model prog w) A (eval (.Call (.Name x np) [e] [] pos) env) Q E s :=
  wpAny_Call_NameR (name_builtin G fe hk hm hv (callWith_builtin1 (args_cons (wpAny_mono h (fun _ _ q => args_nil q) fun _ _ x => x) hse) hse (by rfl)) hn hd)
/-- a name of an enclosing def, met through its cell -/
theorem name_cell {x : Str} {v : Value} {c : Addr} {pos : Pos} (fe : FEnv env) (hc : env.cells.lookup x = some c) (hv : s.heap.IsCell c (some v)) (h : Q v s) (hl : env.kindOf x = some .cell := by rfl) (hd : (x == ("__debug__" : Str)) = false := by decide) :
    wpAny (model prog w) A (eval (.Name x pos) env) Q E s := wpAny_Name (wpAny_loadName_cell fe.kind hl hc hv h) hd
/-- into a def without cells -/
theorem enter {i : Nat} {a : Addr} {args : List Value} {binds : List (Str × Value)} {n : Nat} (G : Gl mg mb s.heap) (hi : i ∈ defIdx) (hf : mg (fN (stm i)) = some (.ref a)) (r : Room A (n + 1))
    (hb : ∀ pm cd doc, bindArgs (docDef (fN (stm i)) (fP (stm i)) (fB (stm i)) (fS (stm i)) pm cd doc) ⟨args, []⟩ = pure binds)
    (hl : (binds.all fun x => decide ((fS (stm i)).names.lookup x.1 = some .local)) = true) (hc : ((fS (stm i)).names.all fun x => decide (x.2 ≠ .cell)) = true)
    (hk : ((fS (stm i)).isCoroutine, (fS (stm i)).isGenerator, (fS (stm i)).kind) = (false, false, .function))
    (h : ∀ h₁ cd, Fr s.heap s.heap.objs.size h₁ (fun x => binds.reverse.lookup x) →
      wpAny (model prog w) (A.deeper (envOf (fN (stm i)) (fS (stm i)) s.heap.objs.size a cd)) (execs (fB (stm i)) (envOf (fN (stm i)) (fS (stm i)) s.heap.objs.size a cd))
        (fun f s' => Q (match f with | .ret v => v | _ => .none) s') (fun _ _ => False) { s with heap := h₁, toks := s.toks + binds.length }) :
    wpAny (model prog w) A (call (.ref a) args) Q E s := by
  obtain ⟨a', o, pm, cd, doc, h1, h2, h3, h4⟩ := G.fn i hi
  obtain rfl : a' = a := by rw [hf] at h1; cases h1; rfl
  simp only [Prod.mk.injEq] at hk
  refine wpAny_call (call_plain_ret r.lim h2 h3 G.lim h4 (hb pm cd doc) (locs hl) (fun h₁ F => h h₁ cd F) hk.1 hk.2.1 hk.2.2 fun x hx => of_decide_eq_true (List.all_eq_true.mp hc x hx))
/-- into a def with cells -/
theorem enterC {i : Nat} {a : Addr} {args : List Value} {binds : List (Str × Value)} {n : Nat} (G : Gl mg mb s.heap) (hi : i ∈ defIdx) (hf : mg (fN (stm i)) = some (.ref a)) (r : Room A (n + 1))
    (hb : ∀ pm cd doc, bindArgs (docDef (fN (stm i)) (fP (stm i)) (fB (stm i)) (fS (stm i)) pm cd doc) ⟨args, []⟩ = pure binds)
    (hl : (binds.all fun x => decide ((fS (stm i)).names.lookup x.1 = some .local) || (decide ((fS (stm i)).names.lookup x.1 = some .cell) && ((cellsFrom (s.heap.objs.size + 1) (fS (stm i)).names []).lookup x.1).isSome)) = true)
    (hk : ((fS (stm i)).isCoroutine, (fS (stm i)).isGenerator, (fS (stm i)).kind) = (false, false, .function))
    (h : ∀ h₁ tk cd, Fr s.heap s.heap.objs.size h₁ (bindL (envOfC (fN (stm i)) (fS (stm i)) s.heap.objs.size a cd).kindOf binds fun _ => none) →
      Cl s.heap.objs.size (cellsFrom (s.heap.objs.size + 1) (fS (stm i)).names []) h₁ (bindC (envOfC (fN (stm i)) (fS (stm i)) s.heap.objs.size a cd).kindOf binds fun _ => none) →
      wpAny (model prog w) (A.deeper (envOfC (fN (stm i)) (fS (stm i)) s.heap.objs.size a cd)) (execs (fB (stm i)) (envOfC (fN (stm i)) (fS (stm i)) s.heap.objs.size a cd))
        (fun f s' => Q (match f with | .ret v => v | _ => .none) s') (fun _ _ => False) { s with heap := h₁, toks := tk }) :
    wpAny (model prog w) A (call (.ref a) args) Q E s := by
  obtain ⟨a', o, pm, cd, doc, h1, h2, h3, h4⟩ := G.fn i hi
  obtain rfl : a' = a := by rw [hf] at h1; cases h1; rfl
  simp only [Prod.mk.injEq] at hk
  refine wpAny_call (call_cells_ret r.lim h2 h3 G.lim h4 (hb pm cd doc) (fun x hx => ?_) (fun h₁ tk F X => h h₁ tk cd F X) hk.1 hk.2.1 hk.2.2)
  have := List.all_eq_true.mp hl x hx
  simpa only [Bool.or_eq_true, Bool.and_eq_true, decide_eq_true_eq] using this
theorem fenvC {name : Str} {scope : Scope} {L a : Addr} {cd : Value} (hk : scope.kind = .function) : FEnv (envOfC name scope L a cd) := ⟨hk, rfl, rfl⟩
theorem fenv {name : Str} {scope : Scope} {L a : Addr} {cd : Value} (hk : scope.kind = .function) : FEnv (envOf name scope L a cd) := ⟨hk, rfl, rfl⟩

end
end Mine

namespace Mine
open PySem PySem.W PySem.Calls PyProof.Rows
section
variable {prog : Program} {w : World} {A : Around} {E : Value → Shared → Prop} {s : Shared} {mg mb : Str → Option Value} {Q : Value → Shared → Prop}

def cmpI (x y : Str) : Int := b2i (decide (y.cps.toList < x.cps.toList)) - b2i (decide (x.cps.toList < y.cps.toList))

theorem cmp_spec {a : Addr} {x y : Str} {t u : Tok} {n : Nat} (G : Gl mg mb s.heap) (hf : mg "three_way_cmp" = some (.ref a)) (r : Room A (n + 1))
    (h : ∀ h' tk tk', Kp s.heap h' → Q (.int (cmpI x y) tk) { s with heap := h', toks := tk' }) :
    wpAny (model prog w) A (call (.ref a) [.str x t, .str y u]) Q E s := by
  refine enter (i := 2) (binds := [("x", .str x t), ("y", .str y u)]) G (by decide) hf r (by intros; rfl) rfl rfl rfl fun h₁ cd F => ?_
  refine wpAny_execs_cons (wpAny_Return_some (wpAny_BinOp (wpAny_Compare1 (ld F rfl (ld F rfl (PySem.P.gt_str ?_))))))
  refine wpAny_Compare1 (ld F rfl (ld F rfl (PySem.P.lt_str (PyProof.Rows.sub_bool ?_))))
  exact h _ _ _ F.keep

/-- one sign -/
abbrev sg (c : Nat) : Str := ⟨#[c]⟩

theorem in_ints {k : Int} {t : Tok} {S : Int → Bool} {n : Nat} {o : Obj} {b : Addr} (hS : o.SetObjOf (intKind prog w) S n) (ho : s.heap.get? b = some o) (hk : n < 4096) (h : Q (.bool (S k)) { s with toks := s.toks + 1 }) :
    wpAny (model prog w) A (compareOp .In (.int k t) (.ref b)) Q E s := wpAny_inSet_of (isInt_self k t) rfl (hS.setOf ho hk) h
theorem b1_spec {a : Addr} {c : Nat} {t : Tok} {n : Nat} (G : Gl mg mb s.heap) (hf : mg "in_table_b1" = some (.ref a)) (r : Room A (n + 1))
    (h : ∀ h' tk', Kp s.heap h' → Q (.bool (b1L.contains (c : Int))) { s with heap := h', toks := tk' }) :
    wpAny (model prog w) A (call (.ref a) [.str (sg c) t]) Q E s := by
  refine enter (i := 5) (binds := [("code", .str (sg c) t)]) G (by decide) hf r (by intros; rfl) rfl rfl rfl fun h₁ cd F => ?_
  have G₁ : Gl mg mb h₁ := G.keeps F.keep
  obtain ⟨b, o, S, k, hb, ho, hS, hk, hSk⟩ := G₁.b1
  refine wpAny_execs_cons (wpAny_Return_some (wpAny_Compare1 (wpAny_Call_NameR (name_builtin (v := .builtin "ord") G₁ (fenv rfl) rfl (by decide +kernel) (by kernel_rfl) ?_))))
  refine callWith_builtin1 (args_cons (ld F rfl (args_nil (PySem.P.ord_of_char ?_))))
  refine name_global (v := .ref b) (G₁) (fenv rfl) rfl hb ?_
  refine in_ints (hS.kind prog w) ho hk ?_
  rw [hSk]
  exact h _ _ F.keep

/-- the signs that mean letters, and the letters -/
def stock14 : List (Nat × Str) := [(70, "f"), (8497, "f"), (64256, "ff"), (64257, "fi"), (64259, "ffi"), (8464, "i"), (8466, "l"), (64258, "fl"), (64260, "ffl"), (8481, "tel"), (8482, "tm"), (84, "t"), (8496, "e"), (8499, "m")]
def b3Says (p : Nat × Str) : Bool := match Spec.lookup (.int (p.1 : Int)) d3 with
  | some (.str x) => x == p.2
  | none => Txt.lower (sg p.1) == p.2 && !Builtin.Str.tooLong (Str.length (Txt.lower (sg p.1)))
  | _ => false
theorem b3_says : stock14.all b3Says = true := by kernel_rfl

theorem b3_spec {a : Addr} {c : Nat} {m : Str} {t : Tok} {n : Nat} (G : Gl mg mb s.heap) (hf : mg "map_table_b3" = some (.ref a)) (r : Room A (n + 1)) (hc : (c, m) ∈ stock14)
    (h : ∀ h' tk tk', Kp s.heap h' → Q (.str m tk) { s with heap := h', toks := tk' }) :
    wpAny (model prog w) A (call (.ref a) [.str (sg c) t]) Q E s := by
  refine enter (i := 7) (binds := [("code", .str (sg c) t)]) G (by decide) hf r (by intros; rfl) rfl rfl rfl fun h₁ cd F => ?_
  have G₁ : Gl mg mb h₁ := G.keeps F.keep
  have hs : b3Says (c, m) = true := List.all_eq_true.mp b3_says _ hc
  obtain ⟨b, hb, hT⟩ := G₁.b3
  refine wpAny_execs_cons (wpAny_Assign_Name (MethodCall_ (name_global (v := .ref b) G₁ (fenv rfl) rfl hb (getMethod_intTab_get (hT prog w) ?_))))
  refine callWith_method1 (args_cons (wpAny_Call_NameR (name_builtin (v := .builtin "ord") G₁ (fenv rfl) rfl (by decide +kernel) (by kernel_rfl) ?_)))
  refine callWith_builtin1 (args_cons (ld F rfl (args_nil (PySem.P.ord_of_char (args_nil ?_)))))
  refine call_get1_intTab (hT prog w) fun v hv => ?_
  refine st F fun h₂ F₂ => ?_
  refine wpAny_execs_cons (wpAny_If (wpAny_isTrue_Compare1 (ld F₂ rfl (wpAny_Constant_none ?_))))
  unfold b3Says at hs
  split at hs
  · rename_i x hx
    rw [hx] at hv
    obtain ⟨tv, rfl⟩ := PyProof.V.Flat.str_inv hv
    have hm : x = m := by simpa using hs
    subst hm
    refine isnot_str_none (wpAny_truthy_bool ?_)
    exact wpAny_execs_cons (wpAny_Return_some (ld F₂ rfl (h _ _ _ F₂.keep)))
  · rename_i hx
    rw [hx] at hv
    obtain rfl := PyProof.V.Flat.none_inv hv
    obtain ⟨e1, e2⟩ := Bool.and_eq_true_iff.mp hs
    refine isnot_none_none (wpAny_truthy_bool (wpAny_execs_nil ?_))
    refine wpAny_execs_cons (wpAny_Return_some (MethodCall_ (ld F₂ rfl (PySem.GM.lower (callWith_method0 (PySem.SC.lower ?_ ?_))))))
    · simpa using e2
    · have := eq_of_beq e1
      dsimp only at this ⊢
      rw [this]
      exact h _ _ _ F₂.keep
  · cases hs
end
end Mine

namespace Mine
open PySem PySem.W PySem.Calls PyProof.Rows

/-- a value without its mark: what == looks at -/
def ky : Value → Value
  | .str x _ => .str x 0
  | .int i _ => .int i 0
  | v => v
def Strs (vs : List Value) : Prop := ∀ v ∈ vs, ∃ x t, v = .str x t
def Ints (vs : List Value) : Prop := ∀ v ∈ vs, ∃ i t, v = .int i t
/-- two lists whose items can be told apart -/
def Homo (vs us : List Value) : Prop := (Strs vs ∧ Strs us) ∨ (Ints vs ∧ Ints us)
theorem Homo.symm {vs us : List Value} (h : Homo vs us) : Homo us vs := h.imp And.symm And.symm
theorem Homo.sub {vs us vs' us' : List Value} (h : Homo vs us) (h1 : ∀ v ∈ vs', v ∈ vs) (h2 : ∀ v ∈ us', v ∈ us) : Homo vs' us' :=
  h.imp (fun ⟨a, b⟩ => ⟨fun v hv => a v (h1 v hv), fun v hv => b v (h2 v hv)⟩) (fun ⟨a, b⟩ => ⟨fun v hv => a v (h1 v hv), fun v hv => b v (h2 v hv)⟩)
theorem Homo.self {vs us : List Value} (h : Homo vs us) : Homo vs vs := h.imp (fun ⟨a, _⟩ => ⟨a, a⟩) (fun ⟨a, _⟩ => ⟨a, a⟩)
theorem Homo.eq {vs us : List Value} (h : Homo vs us) {v u : Value} (hv : v ∈ vs) (hu : u ∈ us) : MeetsSeq.EqGives v u (decide (ky v = ky u)) := by
  rcases h with ⟨a, b⟩ | ⟨a, b⟩
  · obtain ⟨x, t, rfl⟩ := a v hv
    obtain ⟨y, t', rfl⟩ := b u hu
    have := eqGives_str x y t t'
    have e : (x == y) = decide (ky (.str x t) = ky (.str y t')) := by
      rw [Bool.eq_iff_iff]; simp [ky]
    rwa [e] at this
  · obtain ⟨x, t, rfl⟩ := a v hv
    obtain ⟨y, t', rfl⟩ := b u hu
    have := MeetsSeq.EqGives.int x y t t'
    have e : (x == y) = decide (ky (.int x t) = ky (.int y t')) := by
      rw [Bool.eq_iff_iff]; simp [ky]
    rwa [e] at this

/-- a list of the call's own -/
abbrev PL (h : Heap) (a : Addr) (vs : List Value) : Prop := h.PlainList a vs.toArray
theorem PL.keep {h h' : Heap} {a : Addr} {vs : List Value} (x : PL h a vs) (k : Kp h h') : PL h' a vs := x.at fun _ e => k _ _ e
theorem PL.but {h h' : Heap} {a b : Addr} {vs : List Value} (x : PL h a vs) (k : Heap.SameBut b h h') (hn : a ≠ b) : PL h' a vs := x.at fun _ e => (k.2 a hn).trans e

section
variable {prog : Program} {w : World} {A : Around} {E : Value → Shared → Prop} {s : Shared} {Q : Value → Shared → Prop} {a : Addr}

theorem pl_type {vs : List Value} (x : PL s.heap a vs) : s.TypeIs (.ref a) "list" := let ⟨_, e⟩ := x; ⟨_, e, rfl⟩
theorem pl_nodict {vs : List Value} (x : PL s.heap a vs) : ∀ b, Value.ref a = .ref b → ∃ o, s.heap.get? b = some o ∧ o.dict = none := fun b e => by
  cases e; obtain ⟨_, e⟩ := x; exact ⟨_, e, rfl⟩
theorem pl_method {vs : List Value} {name : Str} {id : String} {pl : Sem Bool} {Q : Value × List Value → Shared → Prop} (x : PL s.heap a vs) (slot : Slot "list" name id) (hty : typeOf (.builtin id) = pure (.type "method_descriptor"))
    (h : Q (.builtin id, [.ref a]) s) : wpAny (model prog w) A (getMethod (.ref a) name pl) Q E s :=
  getMethod_builtin (pl_type x) PySem.F.plainAttrs_list slot hty (pl_nodict x) h

theorem pl_truthy {vs : List Value} {Q : Bool → Shared → Prop} (x : PL s.heap a vs) (hz : vs.length ≤ 1000) (h : ∀ tk, Q (!vs.isEmpty) { s with toks := tk }) : wpAny (model prog w) A (truthy (.ref a)) Q E s := by
  refine wpAny_truthy_list x.isList (by simp; omega) ?_
  have := h (s.toks + 1 + 1)
  cases vs <;> simpa using this

theorem pl_pop {vs : List Value} {v : Value} (x : PL s.heap a (vs ++ [v])) (hz : vs.length ≤ 1000)
    (h : ∀ h', PL h' a vs → Heap.SameBut a s.heap h' → Q v { s with heap := h' }) : wpAny (model prog w) A (call (.builtin "list.pop") [.ref a]) Q E s := by
  obtain ⟨n, e⟩ := x
  refine call_meets PySem.F.slot_list_pop ⟨_, e, rfl⟩ PySem.F.entry_list_pop (PySem.F.args_list_pop_1 _) (MeetsSeq.list_pop_last a _ n v (by simp) (by rw [sizeLine_eq]; simp; omega)) ⟨e, h _ ⟨n + 1, ?_⟩ (Heap.SameBut.update ..)⟩
  have he : (Obj.mapSeq (fun xs => xs.eraseIdxIfInBounds ((vs ++ [v]).toArray.size - 1)) { cls := .type "list", data := .seq (vs ++ [v]).toArray n }) = { cls := .type "list", data := .seq vs.toArray (n + 1) } := by
    have e1 : (vs ++ [v]).toArray.eraseIdxIfInBounds ((vs ++ [v]).toArray.size - 1) = vs.toArray := by
      apply Array.toList_inj.mp
      simp [List.eraseIdx_append_of_length_le]
    unfold Obj.mapSeq
    dsimp only
    rw [e1]
    simp
  rw [Heap.get?_update_self _ e (by rw [he]; rfl), he]

theorem pl_remove {vs ws : List Value} {v u : Value} (x : PL s.heap a (vs ++ v :: ws)) (hz : (vs ++ v :: ws).length ≤ 1000) (hq : Homo (vs ++ v :: ws) [u]) (h1 : ∀ y ∈ vs, ky y ≠ ky u) (h2 : ky v = ky u)
    (h : ∀ h', PL h' a (vs ++ ws) → Heap.SameBut a s.heap h' → Q .none { s with heap := h' }) : wpAny (model prog w) A (call (.builtin "list.remove") [.ref a, u]) Q E s := by
  obtain ⟨n, e⟩ := x
  refine call_meets PySem.F.slot_list_remove ⟨_, e, rfl⟩ PySem.F.entry_list_remove (PySem.F.args_list_remove_2 _ _)
    (MeetsSeq.list_remove a _ n u (fun y => decide (ky y = ky u)) (fun y hy => hq.eq (by simpa using hy) (.head _)) vs.length (by simp) (by simpa using h2)
      (fun m hm hlt => ?_) (by rw [sizeLine_eq]; simp at hz ⊢; omega)) ⟨e, h _ ⟨n + 1, ?_⟩ (Heap.SameBut.update ..)⟩
  · have : (vs ++ v :: ws).toArray[m] = vs[m] := by simp [List.getElem_append_left hlt]
    rw [this]
    simpa using h1 _ (List.getElem_mem hlt)
  have he : (Obj.mapSeq (fun xs => xs.eraseIdxIfInBounds vs.length) { cls := .type "list", data := .seq (vs ++ v :: ws).toArray n }) = { cls := .type "list", data := .seq (vs ++ ws).toArray (n + 1) } := by
    have e1 : (vs ++ v :: ws).toArray.eraseIdxIfInBounds vs.length = (vs ++ ws).toArray := by
      apply Array.toList_inj.mp
      simp [List.eraseIdx_append_of_length_le]
    unfold Obj.mapSeq
    dsimp only
    rw [e1]
    simp
  rw [Heap.get?_update_self _ e (by rw [he]; rfl), he]

theorem pl_remove_none {vs : List Value} {u : Value} (x : PL s.heap a vs) (hq : Homo vs [u]) (h1 : ∀ y ∈ vs, ky y ≠ ky u) (hh : A.handled = none)
    (h : ∀ h' tk e, Heap.NewExc s.heap h' e "ValueError" → E (.ref e) { s with heap := h', toks := tk }) : wpAny (model prog w) A (call (.builtin "list.remove") [.ref a, u]) Q E s := by
  obtain ⟨n, e⟩ := x
  refine call_meets PySem.F.slot_list_remove ⟨_, e, rfl⟩ PySem.F.entry_list_remove (PySem.F.args_list_remove_2 _ _)
    (MeetsSeq.list_remove_none a _ n u (fun y => decide (ky y = ky u)) (fun y hy => hq.eq (by simpa using hy) (.head _)) (fun m hm => ?_)) ⟨e, hh, h⟩
  have hm' : m < vs.length := by simpa using hm
  have : vs.toArray[m] = vs[m] := by simp
  rw [this]
  simpa using h1 _ (List.getElem_mem hm')

theorem pl_count {vs : List Value} {u : Value} (x : PL s.heap a vs) (hq : Homo vs [u])
    (h : ∀ tk tk', Q (.int ((vs.map ky).count (ky u)) tk) { s with toks := tk' }) : wpAny (model prog w) A (call (.builtin "list.count") [.ref a, u]) Q E s := by
  obtain ⟨n, e⟩ := x
  refine call_meets PySem.F.slot_list_count ⟨_, e, rfl⟩ PySem.F.entry_list_count (PySem.F.args_list_count_2 _ _)
    (MeetsSeq.list_count a vs.toArray n u (fun y => decide (ky y = ky u)) (fun y hy => hq.eq (by simpa using hy) (.head _))) ?_
  refine ⟨e, ?_⟩
  have := h s.toks (s.toks + 1)
  have hc : (vs.map ky).count (ky u) = vs.countP (fun y => decide (ky y = ky u)) := by
    rw [List.count_eq_countP, List.countP_map]
    congr 1
  rw [hc] at this
  simpa using this

theorem pl_append {vs : List Value} {v : Value} (x : PL s.heap a vs) (hz : vs.length ≤ 1000)
    (h : ∀ h', PL h' a (vs ++ [v]) → Heap.SameBut a s.heap h' → Q .none { s with heap := h' }) : wpAny (model prog w) A (call (.builtin "list.append") [.ref a, v]) Q E s :=
  wpAny_list_append_plain x (fun h' hp hs => h h' (by simpa using hp) hs) (by rw [sizeLine_eq]; simp; omega)

theorem pl_new {vs : List Value} (hz : vs.length ≤ 1000) (h : ∀ h', Kp s.heap h' → PL h' s.heap.objs.size vs → h'.objs.size = s.heap.objs.size + 1 → Q (.ref s.heap.objs.size) { s with heap := h' }) : wpAny (model prog w) A (newList vs) Q E s :=
  wpAny_newObj_type (h _ (fun _ _ e => Heap.get?_push_of_some _ e) ⟨0, Heap.get?_push_size _ rfl⟩ (Heap.size_push ..)) (by show vs.toArray.size ≤ sizeLine; rw [sizeLine_eq]; simp; omega)

/-- a tuple of the call's own -/
abbrev TP (h : Heap) (a : Addr) (vs : List Value) : Prop := h.get? a = some { cls := .type "tuple", data := .seq vs.toArray }
theorem tp_new {vs : List Value} (hz : vs.length ≤ 1000) (h : ∀ h', Kp s.heap h' → TP h' s.heap.objs.size vs → h'.objs.size = s.heap.objs.size + 1 → Q (.ref s.heap.objs.size) { s with heap := h' }) : wpAny (model prog w) A (newTuple vs) Q E s :=
  wpAny_newObj_type (h _ (fun _ _ e => Heap.get?_push_of_some _ e) (Heap.get?_push_size _ rfl) (Heap.size_push ..)) (by show vs.toArray.size ≤ sizeLine; rw [sizeLine_eq]; simp; omega)

theorem fresh_none {h : Heap} : h.get? h.objs.size = none := Heap.get?_none_of_le (Nat.le_refl _)
theorem fresh_ne {h : Heap} {b : Addr} {o : Obj} (e : h.get? b = some o) : b ≠ h.objs.size := Nat.ne_of_lt (Heap.lt_size e)
theorem ne_none {h : Heap} {b : Addr} {o : Obj} (e : h.get? b = some o) {d : Addr} (hd : h.get? d = none) : b ≠ d := fun q => by rw [q, hd] at e; cases e

variable {env : Env} {m : Str → Option Value}
theorem ld1 {x : Str} {v : Value} {pos : Pos} (fe : FEnv env) (hn : s.heap.Ns env.locals m) (hv : m x = some v) (h : Q v s) (hl : env.kindOf x = some .local := by rfl) (hd : (x == ("__debug__" : Str)) = false := by decide) :
    wpAny (model prog w) A (eval (.Name x pos) env) Q E s := wpAny_Name (wpAny_loadName_local fe.kind hl hn hv h) hd
theorem st1 {x : Str} {v : Value} {Q : Unit → Shared → Prop} (fe : FEnv env) (hn : s.heap.Ns env.locals m)
    (h : ∀ h', h'.Ns env.locals (fun y => if y = x then some v else m y) → Heap.SameBut env.locals s.heap h' → Q () { s with heap := h', toks := s.toks + 1 }) (hl : env.kindOf x = some .local := by rfl) :
    wpAny (model prog w) A (storeName env x v) Q E s := wpAny_storeName_local hl hn h (by rw [fe.kind]; rfl)
end
end Mine

namespace Mine
open PySem PySem.W PySem.Calls PyProof.Rows
section
variable {prog : Program} {w : World} {A : Around} {E : Value → Shared → Prop} {s : Shared} {env : Env} {Q : Value → Shared → Prop} {value lo hi : Expr} {p pos : Pos}

theorem push2 {h : Heap} {o₁ o₂ : Obj} (h₁ : o₂.isFreed = false) : Kp h ((h.push o₁).push o₂) ∧ h.get? (h.objs.size + 1) = none ∧ ((h.push o₁).push o₂).get? (h.objs.size + 1) = some o₂ := by
  refine ⟨fun _ _ e => Heap.get?_push_of_some _ (Heap.get?_push_of_some _ e), Heap.get?_none_of_le (Nat.le_succ _), ?_⟩
  have := Heap.get?_push_size (h.push o₁) h₁
  rwa [Heap.size_push] at this

/-- xs[k:] -/
theorem sub_from (h : wpAny (model prog w) A (eval value env) (fun o s₁ => wpAny (model prog w) A (eval lo env) (fun v s₂ => ∃ l vs k t, o = .ref l ∧ v = .int ((k : Nat) : Int) t ∧ PL s₂.heap l vs ∧ vs.length ≤ 1000 ∧
      ∀ D h', Kp s₂.heap h' → s₂.heap.get? D = none → PL h' D (vs.drop k) → Q (.ref D) { s₂ with heap := h' }) E s₁) E s)
    (ht : ∀ o r, letTemporaryGo value o r = pure () := by intro _ _; rfl) : wpAny (model prog w) A (eval (.Subscript value (.Slice (some lo) none none p) pos) env) Q E s := by
  refine wpAny_Subscript_list_slice (wpAny_mono h (fun o s₁ h₁ => wpAny_mono h₁ (fun v s₂ h₂ => ?_) fun _ _ x => x) fun _ _ x => x) ht
  obtain ⟨l, vs, k, t, rfl, rfl, pl, hz, hQ⟩ := h₂
  rw [evalPart_none]
  refine wpAny_pure ⟨l, vs.toArray, some k, none, rfl, pl.isList, by rw [sizeLine_eq]; simp; omega, .int _ _, .none, ?_⟩
  rw [slicePick_from']
  obtain ⟨a, b, c⟩ := push2 (h := s₂.heap) (o₁ := { cls := .type "slice", data := .fields #[.int (k : Int) t, .none, .none] }) (o₂ := { cls := .type "list", data := .seq (vs.toArray.toList.drop k).toArray }) rfl
  exact hQ _ _ a b ⟨0, by simpa using c⟩
/-- xs[:k] -/
theorem sub_upto (h : wpAny (model prog w) A (eval value env) (fun o s₁ => wpAny (model prog w) A (eval hi env) (fun v s₂ => ∃ l vs k t, o = .ref l ∧ v = .int ((k : Nat) : Int) t ∧ PL s₂.heap l vs ∧ vs.length ≤ 1000 ∧
      ∀ D h', Kp s₂.heap h' → s₂.heap.get? D = none → PL h' D (vs.take k) → Q (.ref D) { s₂ with heap := h' }) E s₁) E s)
    (ht : ∀ o r, letTemporaryGo value o r = pure () := by intro _ _; rfl) : wpAny (model prog w) A (eval (.Subscript value (.Slice none (some hi) none p) pos) env) Q E s := by
  refine wpAny_Subscript_list_slice (wpAny_mono h (fun o s₁ h₁ => ?_) fun _ _ x => x) ht
  rw [evalPart_none]
  refine wpAny_pure (wpAny_mono h₁ (fun v s₂ h₂ => ?_) fun _ _ x => x)
  obtain ⟨l, vs, k, t, rfl, rfl, pl, hz, hQ⟩ := h₂
  refine ⟨l, vs.toArray, none, some k, rfl, pl.isList, by rw [sizeLine_eq]; simp; omega, .none, .int _ _, ?_⟩
  rw [slicePick_upto']
  obtain ⟨a, b, c⟩ := push2 (h := s₂.heap) (o₁ := { cls := .type "slice", data := .fields #[.none, .int (k : Int) t, .none] }) (o₂ := { cls := .type "list", data := .seq (vs.toArray.toList.take k).toArray }) rfl
  exact hQ _ _ a b ⟨0, by simpa using c⟩
/-- xs[:] -/
theorem sub_all (h : wpAny (model prog w) A (eval value env) (fun o s₂ => ∃ l vs, o = .ref l ∧ PL s₂.heap l vs ∧ vs.length ≤ 1000 ∧
      ∀ D h', Kp s₂.heap h' → s₂.heap.get? D = none → PL h' D vs → Q (.ref D) { s₂ with heap := h' }) E s)
    (ht : ∀ o r, letTemporaryGo value o r = pure () := by intro _ _; rfl) : wpAny (model prog w) A (eval (.Subscript value (.Slice none none none p) pos) env) Q E s := by
  refine wpAny_Subscript_list_slice (wpAny_mono h (fun o s₂ h₂ => ?_) fun _ _ x => x) ht
  rw [evalPart_none]
  refine wpAny_pure (wpAny_pure ?_)
  obtain ⟨l, vs, rfl, pl, hz, hQ⟩ := h₂
  refine ⟨l, vs.toArray, none, none, rfl, pl.isList, by rw [sizeLine_eq]; simp; omega, .none, .none, ?_⟩
  rw [slicePick_all]
  obtain ⟨a, b, c⟩ := push2 (h := s₂.heap) (o₁ := { cls := .type "slice", data := .fields #[.none, .none, .none] }) (o₂ := { cls := .type "list", data := .seq vs.toArray }) rfl
  exact hQ _ _ a b ⟨0, by simpa using c⟩
/-- xs[::-1] -/
theorem sub_rev {st : Expr} (h : wpAny (model prog w) A (eval value env) (fun o s₁ => wpAny (model prog w) A (eval st env) (fun v s₂ => ∃ l vs t, o = .ref l ∧ v = .int (-1) t ∧ PL s₂.heap l vs ∧ vs.length ≤ 1000 ∧
      ∀ D h', Kp s₂.heap h' → s₂.heap.get? D = none → PL h' D vs.reverse → Q (.ref D) { s₂ with heap := h' }) E s₁) E s)
    (ht : ∀ o r, letTemporaryGo value o r = pure () := by intro _ _; rfl) : wpAny (model prog w) A (eval (.Subscript value (.Slice none none (some st) p) pos) env) Q E s := by
  refine wpAny_Subscript_Slice_step (T := "list") slot_list_getitem.lookup (wpAny_mono h (fun o s₁ h₁ => wpAny_Slice ?_) fun _ _ x => x) ht
  rw [evalPart_none, evalPart_some]
  refine wpAny_pure (wpAny_pure (wpAny_mono h₁ (fun v s₂ h₂ => ?_) fun _ _ x => x))
  obtain ⟨l, vs, t, rfl, rfl, pl, hz, hQ⟩ := h₂
  have k : Kp s₂.heap (s₂.heap.push { cls := .type "slice", data := .fields #[.none, .none, .int (-1) t] }) := fun _ _ e => Heap.get?_push_of_some _ e
  refine ⟨pl_type (s := { s₂ with heap := s₂.heap.push { cls := .type "slice", data := .fields #[.none, .none, .int (-1) t] } }) (PL.keep pl k), ?_⟩
  refine wpAny_getItem_list_slice (PL.keep pl k).isList ⟨_, Heap.get?_push_size _ rfl, rfl, rfl⟩ .none .none (.int _ _) (by decide) ?_ (by rw [sizeLine_eq]; simp; omega)
  rw [krv_pick, Heap.size_push]
  obtain ⟨a, b, c⟩ := push2 (h := s₂.heap) (o₁ := { cls := .type "slice", data := .fields #[.none, .none, .int (-1) t] }) (o₂ := { cls := .type "list", data := .seq vs.toArray.toList.reverse.toArray }) rfl
  exact hQ _ _ a b ⟨0, by simpa using c⟩

theorem on_list {l : Addr} {vs : List Value} {k : Nat} {t : Tok} {v : Value} (pl : PL s.heap l vs) (hz : vs.length ≤ 1000) (hv : vs[k]? = some v) (h : Q v s) : SubscriptOn (model prog w) A (.ref l) (.int (k : Nat) t) Q E s :=
  ⟨"list", "list.__getitem__", slot_list_getitem.lookup, pl_type pl, wpAny_getItem_list pl.isList (by omega) (by have := (List.getElem?_eq_some_iff.mp hv).1; omega) (by simpa using hv) h⟩

theorem pl_len {l : Addr} {vs : List Value} (pl : PL s.heap l vs) (hz : vs.length ≤ 1000) (h : ∀ t tk, Q (.int vs.length t) { s with toks := tk }) : wpAny (model prog w) A (call (.builtin "len") [.ref l]) Q E s :=
  len_list pl.isList (by simp; omega) (by simpa using h _ _)
end
end Mine

namespace Mine
open PySem PySem.W PySem.Calls PyProof.Rows

theorem Keeps.kp {s s' : Shared} (k : Keeps s s') : Kp s.heap s'.heap := let ⟨_, _, e, q⟩ := k; by rw [e]; exact q
theorem keeps_refl {s : Shared} : Keeps s s := ⟨s.heap, s.toks, rfl, fun _ _ e => e⟩
theorem keeps_to {s : Shared} {h : Heap} {tk : Nat} (k : Kp s.heap h) : Keeps s { s with heap := h, toks := tk } := ⟨h, tk, rfl, k⟩

def pOf (T : Nat → Bool) : Value → Bool | .int i _ => T i.toNat | _ => false
def fOf (f : Nat → Value) : Value → Value → Prop | .int i _, y => y = f i.toNat | _, _ => False

/-- what a comprehension's source hands on, item by item -/
theorem paired_range {T : Nat → Bool} {f : Nat → Value} {n : Nat} {vs : List Value} {ys : List Value} (hl : vs.length = n) (hp : ∀ (j : Nat) v, vs[j]? = some v → ∃ t, v = Value.int (0 + (j : Int) * 1) t)
    (h : Paired (fOf f) (vs.filter (pOf T)) ys) : ys = ((List.range n).filter T).map f := by
  have key : ∀ (vs : List Value) (k : Nat), (∀ j v, vs[j]? = some v → ∃ t, v = Value.int ((k + j : Nat) : Int) t) → ∀ ys,
      Paired (fOf f) (vs.filter (pOf T)) ys → ys = ((List.range' k vs.length).filter T).map f := by
    intro vs
    induction vs with
    | nil => intro k _ ys h; cases h; rfl
    | cons v vs ih =>
      intro k hp ys h
      obtain ⟨t, rfl⟩ := hp 0 v rfl
      have hp' : ∀ j v, vs[j]? = some v → ∃ t, v = Value.int ((k + 1 + j : Nat) : Int) t := fun j v e => by
        have := hp (j + 1) v (by simpa using e)
        rwa [show k + (j + 1) = k + 1 + j by omega] at this
      rw [List.length_cons, List.range'_succ]
      have e0 : pOf T (Value.int ((k + 0 : Nat) : Int) t) = T k := by simp [pOf]
      cases hT : T k with
      | true =>
        rw [List.filter_cons_of_pos (by rw [e0, hT])] at h
        rw [List.filter_cons_of_pos hT]
        cases h with
        | cons e t =>
          have e : _ = f ((k + 0 : Nat) : Int).toNat := e
          rw [List.map_cons, ← ih (k + 1) hp' _ t, e]
          simp
      | false =>
        rw [List.filter_cons_of_neg (by rw [e0, hT]; decide)] at h
        rw [List.filter_cons_of_neg (by rw [hT]; decide)]
        exact ih (k + 1) hp' _ h
  have := key vs 0 (fun j v e => by simpa using hp j v e) ys h
  rw [hl] at this
  rw [this, List.range_eq_range']

section
variable {prog : Program} {w : World} {A : Around} {E : Value → Shared → Prop} {s : Shared} {mg mb : Str → Option Value} {env : Env} {elt e : Expr} {x y : Str} {px rp rpos pos py spos : Pos} {ifs : List Expr} {scope : Scope} {cl : List (Str × Addr)}

/-- the tests and the element of a comprehension over a range -/
structure OnRange (prog : Program) (w : World) (A : Around) (env : Env) (scope : Scope) (cl : List (Str × Addr)) (x : Str) (ifs : List Expr) (elt : Expr) (h : Heap) (n : Nat) (T : Nat → Bool) (f : Nat → Value) : Prop where
  tests : ∀ C k s₃ m₃ E' t, h.objs.size ≤ C → k < n → s₃.heap.Ns C m₃ → m₃ x = some (.int (k : Nat) t) → Kp h s₃.heap →
    wpAny (model prog w) A (forIn ifs true fun c r => if r = true then do let ok ← isTrue c (compEnvC scope cl C env) (eval c (compEnvC scope cl C env)); pure (ForInStep.yield ok) else pure (ForInStep.yield r))
      (fun ok s₄ => ok = T k ∧ Keeps s₃ s₄) E' s₃
  elt : ∀ C k s₃ m₃ E' t, h.objs.size ≤ C → k < n → T k = true → s₃.heap.Ns C m₃ → m₃ x = some (.int (k : Nat) t) → Kp h s₃.heap →
    wpAny (model prog w) A (eval elt (compEnvC scope cl C env)) (fun y s₄ => y = f k ∧ Keeps s₃ s₄) E' s₃

/-- range(n) and its iterator -/
theorem src_range {n : Nat} {t : Tok} {Q : Value → Shared → Prop} (hn : n ≤ 1000)
    (h : ∀ h' tk, Kp s.heap h' → s.heap.objs.size + 1 < h'.objs.size → IsRangeIter h' (s.heap.objs.size + 1) 0 n 1 → Q (.ref (s.heap.objs.size + 1)) { s with heap := h', toks := tk }) :
    wpAny (model prog w) A (call (.type "range") [.int n t]) (fun xv s₁ => wpAny (model prog w) A (pyIter xv) Q E s₁) E s := by
  refine call_range_1 (wpAny_pyIter_range (IsRange.new ..) (small_one (by decide) (by decide) (by omega) (by omega)) ?_)
  have hs : Builtin.Range.rangeSize 0 n 1 = n := by rw [rangeSize_nat]; omega
  dsimp only
  rw [hs, Heap.size_push]
  refine h _ _ (fun b o e => Heap.get?_push_of_some _ (Heap.get?_push_of_some _ e)) (by simp [Heap.size_push]) ?_
  have := Heap.get?_push_size (s.heap.push { cls := .type "range", data := .fields #[.int 0 s.toks, .int n t, .int 1 (s.toks + 1)] }) (o := { cls := .type "range_iterator", data := .fields #[rawInt 0, rawInt n, rawInt 1] }) rfl
  rw [Heap.size_push] at this
  exact this

theorem quiet_range {n : Nat} {T : Nat → Bool} {f : Nat → Value} {h : Heap} {I : Addr} {s₂ : Shared} (O : OnRange prog w A env scope cl x ifs elt h n T f) (k : Kp h s₂.heap) (hz : h.objs.size ≤ s₂.heap.objs.size) (hI : h.get? I = none) :
    QuietOnC prog w A env scope cl x ifs elt [I] (fun i v => i < n ∧ ∃ t, v = .int (0 + i * 1) t) (pOf T) (fOf f) s₂ where
  tests := fun C i v s₃ m₃ E' hC hP hn hm hk _ => by
    obtain ⟨hi, t, rfl⟩ := hP
    refine wpAny_mono (O.tests C i s₃ m₃ E' t (Nat.le_trans hz hC) hi hn (by simpa using hm) fun b o e => hk b o (fun q => ?_) (k b o e)) (fun ok s₄ q => ⟨?_, q.2⟩) fun _ _ x => x
    · rw [List.mem_singleton.mp q, hI] at e; cases e
    · rw [q.1]; simp [pOf]
  elt := fun C i v s₃ m₃ E' hC hP hp hn hm hk _ => by
    obtain ⟨hi, t, rfl⟩ := hP
    refine wpAny_mono (O.elt C i s₃ m₃ E' t (Nat.le_trans hz hC) hi (by simpa [pOf] using hp) hn (by simpa using hm) fun b o e => hk b o (fun q => ?_) (k b o e)) (fun y s₄ q => ⟨?_, q.2⟩) fun _ _ x => x
    · rw [List.mem_singleton.mp q, hI] at e; cases e
    · rw [q.1]; simp [fOf]

theorem call_range {rp rpos : Pos} {Q : Value → Shared → Prop} (fe : FEnv env) (G : Gl mg mb s.heap) (hkr : env.kindOf "range" = some .globalImplicit)
    (h : wpAny (model prog w) A (eval e env) (fun v s₁ => wpAny (model prog w) A (call (.type "range") [v]) Q E s₁) E s) (hse : starEach [e] env = [(false, eval e env)] := by rfl) :
    wpAny (model prog w) A (eval (.Call (.Name "range" rp) [e] [] rpos) env) Q E s :=
  wpAny_Call_NameR (name_builtin (v := .type "range") G fe hkr (by decide +kernel) (by kernel_rfl) (callWith_type1 (args_cons (wpAny_mono h (fun _ _ q => args_nil q) fun _ _ x => x) hse) hse (by rfl)))

theorem lc_range {Q : Value → Shared → Prop} (T : Nat → Bool) (f : Nat → Value) (fe : FEnv env) (G : Gl mg mb s.heap) (hkr : env.kindOf "range" = some .globalImplicit) (hh : A.handled = none)
    (hclos : closureFor scope env = pure cl) (hcell : (scope.names.all fun y => decide (y.2 ≠ .cell)) = true) (hkind : scope.kind = .function)
    (hnames : (scope.names.all fun y => decide (y.2 = .local → scope.names.lookup y.1 = some .local)) = true) (hx : scope.names.lookup x = some .local)
    (he : wpAny (model prog w) A (eval e env) (fun v s₁ => ∃ (n : Nat) (t : Tok), v = .int n t ∧ n ≤ 1000 ∧ OnRange prog w A env scope cl x ifs elt s₁.heap n T f ∧
      ∀ D h' tk, s₁.heap.get? D = none → PL h' D (((List.range n).filter T).map f) → Kp s₁.heap h' → Q (.ref D) { s₁ with heap := h', toks := tk }) E s)
    (hse : starEach [e] env = [(false, eval e env)] := by rfl) :
    wpAny (model prog w) A (eval (.ListComp elt [⟨.Name x px, .Call (.Name "range" rp) [e] [] rpos, ifs, 0⟩] scope pos) env) Q E s := by
  refine wpAny_ListComp_free (pOf T) (fOf f) hclos (fun y hy => of_decide_eq_true (List.all_eq_true.mp hcell y hy)) hkind (fun y hy => of_decide_eq_true (List.all_eq_true.mp hnames y hy)) hx (call_range fe G hkr (wpAny_mono he (fun v s₁ h₁ => ?_) fun _ _ x => x) hse)
  obtain ⟨n, t, rfl, hn, O, hQ⟩ := h₁
  refine src_range hn fun h' tk k z hI => ?_
  have nI : s₁.heap.get? (s₁.heap.objs.size + 1) = none := Heap.get?_none_of_le (Nat.le_succ _)
  refine ⟨_, _, _, n, _, _, rfl, (Walks.range hh (s₁.heap.objs.size + 1) 0 1 n).bound, by rw [sizeLine_eq]; omega, by simpa using hI, fun b hb => by rw [List.mem_singleton.mp hb]; exact z, quiet_range O k (by dsimp only; omega) nI, ?_⟩
  intro D h'' tk' ys vs hD _ hPL hl hP hF hk
  have hys := paired_range hl (fun j v e => (hP j v e).2) hF
  refine hQ D h'' tk' ?_ ?_ fun b o e => hk b o (fun q => ?_) (k b o e)
  · cases q : s₁.heap.get? D with
    | none => rfl
    | some o => have := k _ _ q; dsimp only at hD; rw [hD] at this; cases this
  · rw [← hys]; simpa using hPL
  · rw [List.mem_singleton.mp q, nI] at e; cases e

theorem lc_range_assign {Q : Flow → Shared → Prop} {m : Str → Option Value} (T : Nat → Bool) (f : Nat → Value) (fe : FEnv env) (G : Gl mg mb s.heap) (hkr : env.kindOf "range" = some .globalImplicit) (hh : A.handled = none)
    (hsw : swapsWith (.ListComp elt [⟨.Name x px, .Call (.Name "range" rp) [e] [] rpos, ifs, 0⟩] scope pos) (some (.Name y py)) spos.line env = pure true)
    (hclos : closureFor scope env = pure cl) (hcell : (scope.names.all fun y => decide (y.2 ≠ .cell)) = true) (hkind : scope.kind = .function)
    (hnames : (scope.names.all fun y => decide (y.2 = .local → scope.names.lookup y.1 = some .local)) = true) (hx : scope.names.lookup x = some .local) (hy : env.kindOf y = some .local)
    (he : wpAny (model prog w) A (eval e env) (fun v s₁ => ∃ (n : Nat) (t : Tok), v = .int n t ∧ n ≤ 1000 ∧ s₁.heap.Ns env.locals m ∧ OnRange prog w A env scope cl x ifs elt s₁.heap n T f ∧
      ∀ D h' tk, s₁.heap.get? D = none → PL h' D (((List.range n).filter T).map f) → h'.Ns env.locals (fun z => if z = y then some (.ref D) else m z) → (∀ b o, b ≠ env.locals → s₁.heap.get? b = some o → h'.get? b = some o) →
        Q .next { s₁ with heap := h', toks := tk }) E s)
    (hse : starEach [e] env = [(false, eval e env)] := by rfl) :
    wpAny (model prog w) A (exec (.Assign [.Name y py] (.ListComp elt [⟨.Name x px, .Call (.Name "range" rp) [e] [] rpos, ifs, 0⟩] scope pos) spos) env) Q E s := by
  refine wpAny_Assign_ListComp_free (pOf T) (fOf f) hsw hclos (fun y hy => of_decide_eq_true (List.all_eq_true.mp hcell y hy)) hkind (fun y hy => of_decide_eq_true (List.all_eq_true.mp hnames y hy)) hx hy (by rw [fe.kind]; rfl) (call_range fe G hkr (wpAny_mono he (fun v s₁ h₁ => ?_) fun _ _ x => x) hse)
  obtain ⟨n, t, rfl, hn, hNs, O, hQ⟩ := h₁
  refine src_range hn fun h' tk k z hI => ?_
  have nI : s₁.heap.get? (s₁.heap.objs.size + 1) = none := Heap.get?_none_of_le (Nat.le_succ _)
  refine ⟨_, _, _, n, _, _, m, rfl, (Walks.range hh (s₁.heap.objs.size + 1) 0 1 n).bound, by rw [sizeLine_eq]; omega, by simpa using hI, fun b hb => by rw [List.mem_singleton.mp hb]; exact z, ?_, hNs.keeps k, quiet_range O k (by dsimp only; omega) nI, ?_⟩
  · intro q
    obtain ⟨_, _, _, e, _⟩ := hNs
    rw [List.mem_singleton.mp q, nI] at e; cases e
  intro D h'' tk' ys vs hD _ hPL hl hP hF hn'' hk
  have hys := paired_range hl (fun j v e => (hP j v e).2) hF
  refine hQ D h'' tk' ?_ ?_ hn'' fun b o hb e => hk b o hb (fun q => ?_) (k b o e)
  · cases q : s₁.heap.get? D with
    | none => rfl
    | some o => have := k _ _ q; dsimp only at hD; rw [hD] at this; cases this
  · rw [← hys]; simpa using hPL
  · rw [List.mem_singleton.mp q, nI] at e; cases e

/-- the tests and the element of a comprehension over values -/
structure OnVals (prog : Program) (w : World) (A : Around) (env : Env) (scope : Scope) (cl : List (Str × Addr)) (x : Str) (ifs : List Expr) (elt : Expr) (h : Heap) (P : Value → Prop) (T : Value → Bool) (F : Value → Value → Prop) : Prop where
  tests : ∀ C v s₃ m₃ E', h.objs.size ≤ C → P v → s₃.heap.Ns C m₃ → m₃ x = some v → Kp h s₃.heap →
    wpAny (model prog w) A (forIn ifs true fun c r => if r = true then do let ok ← isTrue c (compEnvC scope cl C env) (eval c (compEnvC scope cl C env)); pure (ForInStep.yield ok) else pure (ForInStep.yield r))
      (fun ok s₄ => ok = T v ∧ Keeps s₃ s₄) E' s₃
  elt : ∀ C v s₃ m₃ E', h.objs.size ≤ C → P v → T v = true → s₃.heap.Ns C m₃ → m₃ x = some v → Kp h s₃.heap →
    wpAny (model prog w) A (eval elt (compEnvC scope cl C env)) (fun y s₄ => F v y ∧ Keeps s₃ s₄) E' s₃

theorem lc_list {Q : Value → Shared → Prop} {iter : Expr} (T : Value → Bool) (F : Value → Value → Prop) (hh : A.handled = none)
    (hclos : closureFor scope env = pure cl) (hcell : (scope.names.all fun y => decide (y.2 ≠ .cell)) = true) (hkind : scope.kind = .function)
    (hnames : (scope.names.all fun y => decide (y.2 = .local → scope.names.lookup y.1 = some .local)) = true) (hx : scope.names.lookup x = some .local)
    (he : wpAny (model prog w) A (eval iter env) (fun v s₁ => ∃ l vs, v = .ref l ∧ PL s₁.heap l vs ∧ vs.length ≤ 1000 ∧ OnVals prog w A env scope cl x ifs elt s₁.heap (· ∈ vs) T F ∧
      ∀ D h' tk ys, s₁.heap.get? D = none → PL h' D ys → Paired F (vs.filter T) ys → Kp s₁.heap h' → Q (.ref D) { s₁ with heap := h', toks := tk }) E s)
    (hs : ∀ x, foldedSetIterable iter env x = pure x := by intro _; rfl) :
    wpAny (model prog w) A (eval (.ListComp elt [⟨.Name x px, iter, ifs, 0⟩] scope pos) env) Q E s := by
  refine wpAny_ListComp_free T F hclos (fun y hy => of_decide_eq_true (List.all_eq_true.mp hcell y hy)) hkind (fun y hy => of_decide_eq_true (List.all_eq_true.mp hnames y hy)) hx (wpAny_mono he (fun v s₁ h₁ => ?_) fun _ _ x => x) hs
  obtain ⟨l, vs, rfl, pl, hn, O, hQ⟩ := h₁
  refine wpAny_pyIter_list pl.isList ?_
  have nI : s₁.heap.get? s₁.heap.objs.size = none := fresh_none
  have k : Kp s₁.heap (s₁.heap.push { cls := .type "list_iterator", data := .fields #[.ref l, .int 0 0] }) := fun b o e => Heap.get?_push_of_some _ e
  have hl : l ≠ s₁.heap.objs.size := let ⟨_, e⟩ := pl; fresh_ne e
  refine ⟨_, _, _, _, _, _, rfl, Walks.list hh s₁.heap.objs.size l hl vs.toArray, by rw [sizeLine_eq]; simp; omega, ⟨⟨_, Heap.get?_push_size _ rfl, rfl, rfl⟩, (PL.keep pl k).isList⟩, fun b hb => ?_, ⟨?_, ?_⟩, ?_⟩
  · rw [Heap.size_push]
    rcases List.mem_cons.mp hb with rfl | hb
    · exact Nat.lt_succ_self _
    · rw [List.mem_singleton.mp hb]
      obtain ⟨_, e⟩ := pl
      exact Nat.lt_succ_of_lt (Heap.lt_size e)
  · intro C i v s₃ m₃ E' hC hP hN hm hk _
    have hv : v ∈ vs := by
      have : vs[i]? = some v := by simpa using hP
      exact List.mem_of_getElem? this
    exact O.tests C v s₃ m₃ E' (Nat.le_trans (by dsimp only; rw [Heap.size_push]; omega) hC) hv hN hm fun b o e => hk b o (fun q => by rw [List.mem_singleton.mp q, nI] at e; cases e) (k b o e)
  · intro C i v s₃ m₃ E' hC hP hT hN hm hk _
    have hv : v ∈ vs := by
      have : vs[i]? = some v := by simpa using hP
      exact List.mem_of_getElem? this
    exact O.elt C v s₃ m₃ E' (Nat.le_trans (by dsimp only; rw [Heap.size_push]; omega) hC) hv hT hN hm fun b o e => hk b o (fun q => by rw [List.mem_singleton.mp q, nI] at e; cases e) (k b o e)
  · intro D h'' tk' ys us hD _ hPL hl' hP hF hk
    have hus : us = vs := by
      apply List.ext_getElem?
      intro i
      cases e : us[i]? with
      | none =>
        have := List.getElem?_eq_none_iff.mp e
        exact (List.getElem?_eq_none_iff.mpr (by simp at hl'; omega)).symm
      | some v =>
        have := hP i v e
        simpa using this.symm
    subst hus
    refine hQ D h'' tk' ys.toList ?_ (by simpa using hPL) hF fun b o e => hk b o (fun q => ?_) (k b o e)
    · cases q : s₁.heap.get? D with
      | none => rfl
      | some o => have := k _ _ q; dsimp only at hD; rw [hD] at this; cases this
    · rw [List.mem_singleton.mp q, nI] at e; cases e
end
end Mine

namespace Mine
open PySem PySem.W PySem.Calls PyProof.Rows

/-- a heap with some places emptied -/
def hole (h : Heap) (X : List Addr) : Heap := ⟨h.objs.mapIdx fun i o => if i ∈ X then { o with data := .freed } else o, h.life⟩
theorem hole_get {h : Heap} {X : List Addr} {b : Addr} : (hole h X).get? b = if b ∈ X then none else h.get? b := by
  unfold hole Heap.get?
  dsimp only
  rw [Array.getElem?_mapIdx]
  cases e : h.objs[b]? with
  | none => simp
  | some o =>
    by_cases hb : b ∈ X
    · simp [hb]
    · simp [hb]

section
variable {prog : Program} {w : World} {A : Around} {E : Value → Shared → Prop} {s : Shared}

/-- a new exception of a built-in, caught in the frame that it was raised in, one def's frame below it -/
theorem caught {mg mb : Str → Option Value} {env envO : Env} {L Lo e : Addr} {m mo : Str → Option Value} {h : Heap} {np pos : Pos} {b₀ : Stmt} {suite : List Stmt} {rest : List ExceptHandler} {Q : Flow → Shared → Prop}
    (hfr : A.frames = some [env, envO]) (fe : FEnv env) (hf : env.frame = some L) (hfo : envO.frame = some Lo) (hko : envO.scope.kind = .function) (hk : env.kindOf "ValueError" = some .globalImplicit)
    (hL : h.Ns L m) (hLo : h.Ns Lo mo) (hgL : L ≠ mainGlobals ∧ L ≠ builtinsNs ∧ Lo ≠ mainGlobals ∧ Lo ≠ builtinsNs) (Gg : h.Ns mainGlobals mg) (Gb : h.Ns builtinsNs mb) (Gf : mg "ValueError" = none) (Gv : mb "ValueError" = some (.type "ValueError")) (hx : Heap.NewExc h s.heap e "ValueError")
    (k : ∀ h', (∀ b o, b ≠ L → b ≠ Lo → h.get? b = some o → h'.get? b = some o) → h'.Ns L m → h'.Ns Lo mo →
      wpAny (model prog w) (A.mark (some (.ref e))) (execs (b₀ :: suite) env) Q (fun _ _ => False) { s with heap := h' }) :
    wpAny (model prog w) A (noteFrame (.ref e) env) (fun _ s₂ => wpAny (model prog w) A (setFlight (.ref e) none) (fun _ s₃ => wpAny (model prog w) A (handleBy (.ref e) env (.ExceptHandler (some (.Name "ValueError" np)) none (b₀ :: suite) pos :: rest)) Q E s₃) E s₂) E s := by
  obtain ⟨hxk, hxn, ob, tp, he, hcls, hd⟩ := hx
  have hb0 : ∀ b o, (hole h [L, Lo]).get? b = some o → h.get? b = some o ∧ b ≠ L ∧ b ≠ Lo := fun b o q => by
    rw [hole_get] at q
    split at q
    · cases q
    · rename_i hn
      exact ⟨q, fun z => hn (by simp [z]), fun z => hn (by simp [z])⟩
  have hb1 : ∀ b o, b ≠ L → b ≠ Lo → h.get? b = some o → (hole h [L, Lo]).get? b = some o := fun b o h1 h2 q => by
    rw [hole_get, if_neg (by simp [h1, h2])]; exact q
  have hbL : (hole h [L, Lo]).get? L = none := by rw [hole_get, if_pos (by simp)]
  have hbLo : (hole h [L, Lo]).get? Lo = none := by rw [hole_get, if_pos (by simp)]
  have hbe : (hole h [L, Lo]).get? e = none := by
    cases q : (hole h [L, Lo]).get? e with
    | none => rfl
    | some o => have := (hb0 e o q).1; rw [hxn] at this; cases this
  have kf : env.scope.kind ≠ .module := by rw [fe.kind]; decide
  have kfo : envO.scope.kind ≠ .module := by rw [hko]; decide
  have hFF : s.heap.FunFrames (hole h [L, Lo]) [env, envO] := Heap.FunFrames.cons kf hf (hL.keeps hxk) hbL (Heap.FunFrames.cons kfo hfo (hLo.keeps hxk) hbLo trivial)
  have hst : (hole h [L, Lo]).StaysIn s.heap := fun b o q => hxk b o (hb0 b o q).1
  have up : ∀ {h₁ h₂ : Heap} {a : Addr} {n : Str → Option Value}, (∀ b o, h₁.get? b = some o → (∀ vs, o.data ≠ .fields vs) → ∃ sl, h₂.get? b = some { o with slots := sl }) → h₁.Ns a n → h₂.Ns a n := fun hu hn => by
    obtain ⟨o, es, ep, ho, hd, r⟩ := hn
    obtain ⟨sl, e⟩ := hu _ _ ho (fun vs q => by rw [hd] at q; cases q)
    exact ⟨_, es, ep, e, hd, r⟩
  unfold noteFrame
  simp only [hf]
  refine wpAny_bind (wpAny_field (x := .none) he hd (by simp) ?_)
  rw [if_neg (by decide)]
  refine wpAny_entryW hfr hFF hf he hst hbe hd (by simp) (a0 := tp) (by simp) fun h₁ hN => ?_
  obtain ⟨n1, n2, n3, n4⟩ := hN
  refine wpAny_setFlight_noneW n1 n2 n3 fun h₂ p1 p2 p3 p4 => ?_
  obtain ⟨oe, vs, T, oT, ts, q1, q2, q3, q4, q5, q6, q7, q8, q9⟩ := p3
  have gG : h₂.Ns mainGlobals mg := Gg.at fun o q => p1 _ o (hb1 _ o hgL.1.symm hgL.2.2.1.symm q)
  have gB : h₂.Ns builtinsNs mb := Gb.at fun o q => p1 _ o (hb1 _ o hgL.2.1.symm hgL.2.2.2.symm q)
  refine wpAny_handleBy_builtin (X := "ValueError") (T := "ValueError") (b := true) (isSubtype_of_subB (by decide +kernel)) (isSubtype_of_subB (by decide +kernel)) (isSubtype_of_subB (by decide +kernel)) ?_
  refine Name_function_global fe.kind hk (loadGlobal_builtin (mg := mg) (mb := mb) (v := .type "ValueError") (by rw [fe.globals]; exact gG) Gf (by rw [fe.builtins]; exact gB)
    Gv ⟨rfl, ⟨oe, q1, q2.1.trans hcls⟩, ?_⟩)
  rw [if_pos rfl]
  have ht : h₂.TracedAtW (hole h [L, Lo]) e ob.cls tp .none := ⟨oe, vs, T, oT, ts, q1, q2, q3, q4, q5, q6, q7, q8, q9⟩
  refine wpAny_setFlight_noneW p1 p2 ht fun h₃ r1 r2 r3 r4 => ?_
  refine wpAny_mono (k h₃ (fun b o h1 h2 q => r1 b o (hb1 b o h1 h2 q)) ?_ ?_) (fun _ _ x => x) fun _ _ x => x.elim
  · exact up (fun b o q hn => ⟨o.slots, r4 b o q hn⟩) (up (fun b o q hn => ⟨o.slots, p4 b o q hn⟩) (up n4 (hL.keeps hxk)))
  · exact up (fun b o q hn => ⟨o.slots, r4 b o q hn⟩) (up (fun b o q hn => ⟨o.slots, p4 b o q hn⟩) (up n4 (hLo.keeps hxk)))

theorem uld_snoc {K : Type} [DecidableEq K] (E : List K) (x : K) (p : List K × List K) : (E ++ [x]).reverse.foldl ustep p = E.reverse.foldl ustep (ustep p x) := by
  rw [List.reverse_append]; rfl
theorem erase_split {K : Type} [DecidableEq K] {x : K} : ∀ {l : List K}, x ∈ l → ∃ a b, l = a ++ x :: b ∧ x ∉ a ∧ l.erase x = a ++ b
  | y :: l, h => by
    by_cases e : y = x
    · subst e; exact ⟨[], l, rfl, by simp, by simp⟩
    · obtain ⟨a, b, h1, h2, h3⟩ := erase_split (l := l) (by rcases List.mem_cons.mp h with q | q; exact absurd q.symm e; exact q)
      refine ⟨y :: a, b, by rw [h1]; rfl, by simp [h2, Ne.symm e], ?_⟩
      rw [List.erase_cons_tail (by simpa using e), h3]; rfl
/-- the same, of values by what == looks at -/
theorem split_vals {u : Value} : ∀ {vs : List Value}, ky u ∈ vs.map ky → ∃ xs v ys, vs = xs ++ v :: ys ∧ (∀ y ∈ xs, ky y ≠ ky u) ∧ ky v = ky u
  | [], h => by simp at h
  | y :: vs, h => by
    by_cases e : ky y = ky u
    · exact ⟨[], y, vs, rfl, (fun _ q => nomatch q), e⟩
    · obtain ⟨xs, v, ys, h1, h2, h3⟩ := split_vals (vs := vs) (by rw [List.map_cons] at h; rcases List.mem_cons.mp h with q | q; exact absurd q.symm e; exact q)
      refine ⟨y :: xs, v, ys, by rw [h1]; rfl, fun z hz => ?_, h3⟩
      rcases List.mem_cons.mp hz with rfl | hz
      · exact e
      · exact h2 z hz

/-- what stands at the loop's head -/
structure UInv (h₀ : Heap) (L Lo e a d : Addr) (mo : Str → Option Value) (vE vA : List Value) (k : Nat) (h : Heap) : Prop where
  ns : ∃ m, h.Ns L m ∧ m "expected" = some (.ref e) ∧ m "actual" = some (.ref a) ∧ m "missing" = some (.ref d)
  no : h.Ns Lo mo
  keep : ∀ b o, b ≠ e → b ≠ a → b ≠ Lo → h₀.get? b = some o → h.get? b = some o
  st : ∃ vE' vM vA', PL h e vE' ∧ PL h d vM ∧ PL h a vA' ∧ vE'.length = k ∧ (∀ v ∈ vE', v ∈ vE) ∧ (∀ v ∈ vM, v ∈ vE) ∧ (∀ v ∈ vA', v ∈ vA) ∧ vE'.length + vM.length ≤ vE.length ∧ vA'.length ≤ vA.length ∧
    (vE'.map ky).reverse.foldl ustep (vM.map ky, vA'.map ky) = uld (vE.map ky) (vA.map ky)

theorem uld_spec {mg mb : Str → Option Value} {f e a : Addr} {vE vA : List Value} {envO : Env} {Lo : Addr} {mo : Str → Option Value} {n : Nat} {Q : Value → Shared → Prop}
    (G : Gl mg mb s.heap) (hf : mg "unorderable_list_difference" = some (.ref f)) (r : Room A (n + 1)) (hfr : A.frames = some [envO]) (hfo : envO.frame = some Lo) (hko : envO.scope.kind = .function)
    (hLo : s.heap.Ns Lo mo) (hlow : Lo ≠ mainGlobals ∧ Lo ≠ builtinsNs) (hE : PL s.heap e vE) (hA : PL s.heap a vA) (hne : e ≠ a) (hq : Homo vE vA) (hz : vE.length ≤ 500) (hz' : vA.length ≤ 500)
    (h : ∀ h' tk d t vM vA', (∀ b o, b ≠ e → b ≠ a → b ≠ Lo → s.heap.get? b = some o → h'.get? b = some o) → h'.Ns Lo mo → s.heap.get? d = none → s.heap.get? t = none → d ≠ t → PL h' d vM → PL h' a vA' → TP h' t [.ref d, .ref a] →
      (vM.map ky, vA'.map ky) = uld (vE.map ky) (vA.map ky) → (∀ v ∈ vM, v ∈ vE) → (∀ v ∈ vA', v ∈ vA) → Q (.ref t) { s with heap := h', toks := tk }) :
    wpAny (model prog w) A (call (.ref f) [.ref e, .ref a]) Q E s := by
  refine enter (i := 1) (binds := [("expected", .ref e), ("actual", .ref a)]) G (by decide) hf r (by intros; rfl) rfl rfl rfl fun h₁ cd F => ?_
  generalize hL : s.heap.objs.size = L at F ⊢
  have nL : s.heap.get? L = none := by rw [← hL]; exact fresh_none
  obtain ⟨nE, oE⟩ := id hE
  obtain ⟨nA, oA⟩ := id hA
  obtain ⟨oo, _, _, oLo, _⟩ := id hLo
  obtain ⟨og, _, _, oG, _⟩ := id G.g
  obtain ⟨ob, _, _, oB, _⟩ := id G.b
  have eL : e ≠ L := ne_none oE nL
  have aL : a ≠ L := ne_none oA nL
  have oL : Lo ≠ L := ne_none oLo nL
  have eo : e ≠ Lo := fun q => by obtain ⟨_, _, _, z, hd, _⟩ := hLo; rw [← q, oE] at z; cases z; cases hd
  have ao : a ≠ Lo := fun q => by obtain ⟨_, _, _, z, hd, _⟩ := hLo; rw [← q, oA] at z; cases z; cases hd
  -- missing = []
  refine wpAny_execs_cons (wpAny_Assign_Name (List_ (args_nil (pl_new (by simp) fun h₂ k₂ pD z₂ => ?_))))
  dsimp only at k₂ pD z₂ ⊢
  generalize hd : h₁.objs.size = d at pD z₂ ⊢
  have nd : h₁.get? d = none := by rw [← hd]; exact fresh_none
  have nd' : s.heap.get? d = none := by
    cases q : s.heap.get? d with
    | none => rfl
    | some o => have := F.keep _ _ q; rw [nd] at this; cases this
  have ed : e ≠ d := ne_none (F.keep _ _ oE) nd
  have ad : a ≠ d := ne_none (F.keep _ _ oA) nd
  have od : Lo ≠ d := ne_none (F.keep _ _ oLo) nd
  have dL : d ≠ L := fun q => by obtain ⟨_, _, _, z, _⟩ := F.ns; rw [← q, nd] at z; cases z
  refine st1 (fenv rfl) (F.ns.keeps k₂) fun h₃ n₃ b₃ => ?_
  change Heap.SameBut L h₂ h₃ at b₃
  change h₃.Ns L _ at n₃
  refine wpAny_execs_cons (wpAny_While (codeAny_whileLoop (fun k s' => ∃ h tk, s' = { s with heap := h, toks := tk } ∧ UInv s.heap L Lo e a d mo vE vA k h) ?turn vE.length ⟨h₃, _, rfl, ?start⟩))
  case start =>
    refine ⟨⟨_, n₃, rfl, rfl, rfl⟩, (hLo.keeps (fun b o q => k₂ b o (F.keep b o q))).sameBut b₃ oL, fun b o _ _ _ q => (b₃.2 b (ne_none q nL)).trans (k₂ b o (F.keep b o q)), vE, [], vA, ?_, ?_, ?_, rfl, fun _ q => q, (fun _ q => nomatch q), fun _ q => q, by simp, Nat.le_refl _, ?_⟩
    · exact PL.but (PL.keep hE (fun b o q => k₂ b o (F.keep b o q))) b₃ eL
    · exact PL.but pD b₃ dL
    · exact PL.but (PL.keep hA (fun b o q => k₂ b o (F.keep b o q))) b₃ aL
    · rw [uld_eq]; rfl
  case turn =>
    rintro k s' ⟨h', tk, rfl, I⟩
    obtain ⟨⟨m, hns, me, ma, md⟩, hno, hkeep, vE', vM, vA', pE, pM, pA, hlen, hs1, hs2, hs3, hl1, hl2, hu⟩ := I
    refine isTrue_plain (ld1 (fenv rfl) hns me (pl_truthy pE (by omega) fun tk₁ => ?_))
    rcases List.eq_nil_or_concat vE' with rfl | ⟨xs, x, rfl⟩
    · rw [if_neg (by simp)]
      refine wpAny_execs_nil ?_
      refine wpAny_execs_cons (wpAny_Return_some (Tuple_ (args_cons (ld1 (fenv rfl) hns md (args_cons (ld1 (fenv rfl) hns ma (args_nil (tp_new (by simp) fun h₄ k₄ t₄ z₄ => ?_))))))))
      dsimp only at k₄ t₄ z₄ ⊢
      have nt : h'.get? h'.objs.size = none := fresh_none
      refine h h₄ _ d h'.objs.size vM vA' (fun b o h1 h2 h3 q => k₄ b o (hkeep b o h1 h2 h3 q)) (hno.keeps k₄) nd' ?_ ?_ (PL.keep pM k₄) (PL.keep pA k₄) t₄ ?_ hs2 hs3
      · cases q : s.heap.get? h'.objs.size with
        | none => rfl
        | some o =>
          exfalso
          by_cases h1 : h'.objs.size = e
          · obtain ⟨_, z⟩ := pE; rw [← h1, nt] at z; cases z
          by_cases h2 : h'.objs.size = a
          · obtain ⟨_, z⟩ := pA; rw [← h2, nt] at z; cases z
          by_cases h3 : h'.objs.size = Lo
          · obtain ⟨_, _, _, z, _⟩ := hno; rw [← h3, nt] at z; cases z
          have := hkeep _ _ h1 h2 h3 q
          rw [nt] at this; cases this
      · obtain ⟨_, z⟩ := pM; exact ne_none z nt
      · rw [← hu]; rfl
    · rw [if_pos (by simp)]
      simp only [List.concat_eq_append] at *
      refine wpAny_execs_cons (wpAny_Assign_Name (MethodCall_ (ld1 (fenv rfl) hns me (pl_method pE PySem.F.slot_list_pop PySem.F.type_list_pop (callWith_method0 (pl_pop pE (by simp at hl1; omega) fun h₄ pE₄ b₄ => ?_))))))
      dsimp only at pE₄ b₄ ⊢
      have pM₄ : PL h₄ d vM := PL.but pM b₄ (Ne.symm ed)
      have pA₄ : PL h₄ a vA' := PL.but pA b₄ (Ne.symm hne)
      refine st1 (fenv rfl) (m := m) (hns.sameBut b₄ (Ne.symm eL)) fun h₅ n₅ b₅ => ?_
      change Heap.SameBut L h₄ h₅ at b₅
      change h₅.Ns L _ at n₅
      have pE₅ : PL h₅ e xs := PL.but pE₄ b₅ eL
      have pM₅ : PL h₅ d vM := PL.but pM₄ b₅ dL
      have pA₅ : PL h₅ a vA' := PL.but pA₄ b₅ aL
      have no₅ : h₅.Ns Lo mo := (hno.sameBut b₄ (Ne.symm eo)).sameBut b₅ oL
      have kp₅ : ∀ b o, b ≠ e → b ≠ a → b ≠ Lo → s.heap.get? b = some o → h₅.get? b = some o := fun b o h1 h2 h3 q => (b₅.2 b (ne_none q nL)).trans ((b₄.2 b h1).trans (hkeep b o h1 h2 h3 q))
      have lx : xs.length + 1 + vM.length ≤ vE.length := by simpa using hl1
      have hxE : x ∈ vE := hs1 x (by simp)
      have hqa : Homo vA' [x] := hq.symm.sub hs3 (fun v hv => by rw [List.mem_singleton.mp hv]; exact hxE)
      rw [List.map_append, List.map_cons, List.map_nil, uld_snoc] at hu
      refine wpAny_execs_cons (wpAny_Try_except (wpAny_execs_cons (wpAny_Expr_any (MethodCall_ (ld1 (fenv rfl) n₅ ma (pl_method pA₅ PySem.F.slot_list_remove PySem.F.type_list_remove (callWith_method1 (args_cons (ld1 (fenv rfl) n₅ rfl (args_nil ?_))))))))))
      by_cases hm : ky x ∈ vA'.map ky
      · obtain ⟨as, v, bs, rfl, hn, hv⟩ := split_vals hm
        refine pl_remove pA₅ (by omega) hqa hn hv fun h₆ pA₆ b₆ => ?_
        dsimp only at pA₆ b₆ ⊢
        refine wpAny_execs_nil (wpAny_execs_nil (wpAny_execs_nil ⟨xs.length, by simp at hlen; omega, h₆, _, rfl, ⟨_, n₅.sameBut b₆ (Ne.symm aL), me, ma, md⟩, no₅.sameBut b₆ (Ne.symm ao),
          fun b o h1 h2 h3 q => (b₆.2 b h2).trans (kp₅ b o h1 h2 h3 q), xs, vM, as ++ bs, PL.but pE₅ b₆ hne, PL.but pM₅ b₆ (Ne.symm ad), pA₆, rfl,
          fun z hz => hs1 z (by simp [hz]), hs2, fun z hz => hs3 z (by rcases List.mem_append.mp hz with q | q <;> simp [q]), by omega, by simp at hl2 ⊢; omega, ?_⟩))
        rw [← hu]
        congr 1
        unfold ustep
        rw [if_pos hm]
        congr 1
        rw [List.map_append, List.map_append, List.map_cons, ← hv, List.erase_append_right _ (fun q => ?_), List.erase_cons_head]
        obtain ⟨y, hy, e'⟩ := List.mem_map.mp q
        exact hn y hy (e'.trans hv)
      · refine pl_remove_none pA₅ hqa (fun y hy q => hm (q ▸ List.mem_map.mpr ⟨y, hy, rfl⟩)) r.handled fun h₆ tk₆ ex hx => ?_
        have nsNe : ∀ {c : Addr} {mm : Str → Option Value}, s.heap.Ns c mm → c ≠ e ∧ c ≠ a := fun hn => by
          obtain ⟨_, _, _, z, hdd, _⟩ := hn
          refine ⟨fun q => ?_, fun q => ?_⟩
          · rw [q, oE] at z; cases z; cases hdd
          · rw [q, oA] at z; cases z; cases hdd
        refine caught (L := L) (Lo := Lo) (h := h₅) (mg := mg) (mb := mb) (mo := mo) (Around.frames_deeper hfr) (fenv rfl) rfl hfo hko rfl n₅ no₅ ⟨?_, ?_, hlow⟩
          (G.g.at fun o => kp₅ _ o (nsNe G.g).1 (nsNe G.g).2 hlow.1.symm) (G.b.at fun o => kp₅ _ o (nsNe G.b).1 (nsNe G.b).2 hlow.2.symm) (G.free _ (by decide +kernel)) ((G.bb _ (by decide +kernel)).trans (by kernel_rfl)) hx fun h₇ k₇ n₇ no₇ => ?_
        · exact fun q => ne_none oG nL q.symm
        · exact fun q => ne_none oB nL q.symm
        · have pM₇ : PL h₇ d vM := pM₅.at fun o => k₇ d o dL (Ne.symm od)
          refine wpAny_execs_cons (wpAny_Expr_any (MethodCall_ (ld1 (fenv rfl) n₇ md (pl_method pM₇ PySem.F.slot_list_append PySem.F.type_list_append (callWith_method1 (args_cons (ld1 (fenv rfl) n₇ rfl (args_nil (pl_append pM₇ (by omega) fun h₈ pM₈ b₈ => ?_)))))))))
          dsimp only at pM₈ b₈ ⊢
          refine wpAny_execs_nil (wpAny_execs_nil ⟨xs.length, by simp at hlen; omega, h₈, _, rfl, ⟨_, n₇.sameBut b₈ (Ne.symm dL), me, ma, md⟩, no₇.sameBut b₈ od,
            fun b o h1 h2 h3 q => (b₈.2 b (ne_none q nd')).trans (k₇ b o (ne_none q nL) h3 (kp₅ b o h1 h2 h3 q)), xs, vM ++ [x], vA', PL.but (pE₅.at fun o => k₇ e o eL eo) b₈ ed, pM₈, PL.but (pA₅.at fun o => k₇ a o aL ao) b₈ ad, rfl,
            fun z hz => hs1 z (by simp [hz]), fun z hz => ?_, hs3, by simp; omega, hl2, ?_⟩)
          · rcases List.mem_append.mp hz with q | q
            · exact hs2 z q
            · rw [List.mem_singleton.mp q]; exact hxE
          · rw [← hu]
            congr 1
            unfold ustep
            rw [if_neg hm, List.map_append]
            rfl
end
end Mine

namespace Mine
open PySem PySem.W PySem.Calls PyProof.Rows
section
variable {prog : Program} {w : World} {A : Around} {E : Value → Shared → Prop} {s : Shared} {mg mb : Str → Option Value} {Q : Value → Shared → Prop}

def lostT (vH vT : List Value) (k : Nat) : Bool := match vH[k]? with
  | some v => decide ((vT.map ky).count (ky v) < ((vH.drop k).map ky).count (ky v))
  | none => false
def leftT (vH vT : List Value) (k : Nat) : Bool := match vT[k]? with
  | some v => decide ((vH.map ky).count (ky v) < ((vT.take (k + 1)).map ky).count (ky v))
  | none => false
def itemOf (vs : List Value) (k : Nat) : Value := vs.getD k .none

theorem apart_spec {f h t : Addr} {vH vT : List Value} {n : Nat} (G : Gl mg mb s.heap) (hf : mg "_law_apart" = some (.ref f)) (r : Room A (n + 1))
    (hH : PL s.heap h vH) (hT : PL s.heap t vT) (hq : Homo vH vT) (hz : vH.length ≤ 500) (hz' : vT.length ≤ 500)
    (hQ : ∀ h' tk T a b, Kp s.heap h' → TP h' T [.ref a, .ref b] → s.heap.get? T = none → s.heap.get? a = none → s.heap.get? b = none →
      PL h' a (((List.range vH.length).filter (lostT vH vT)).map (itemOf vH)).reverse → PL h' b (((List.range vT.length).filter (leftT vH vT)).map (itemOf vT)) → Q (.ref T) { s with heap := h', toks := tk }) :
    wpAny (model prog w) A (call (.ref f) [.ref h, .ref t]) Q E s := by
  refine enterC (i := 13) (binds := [("here", .ref h), ("there", .ref t)]) G (by decide) hf r (by intros; rfl) rfl rfl fun h₁ tk cd F X => ?_
  generalize hL : s.heap.objs.size = L at F X ⊢
  have pH₁ : PL h₁ h vH := PL.keep hH F.keep
  have pT₁ : PL h₁ t vT := PL.keep hT F.keep
  have G₁ : Gl mg mb h₁ := G.keeps F.keep
  have cH : h₁.IsCell (L + 1) (some (.ref h)) := X.cell "here" (L + 1) rfl
  have cT : h₁.IsCell (L + 2) (some (.ref t)) := X.cell "there" (L + 2) rfl
  have hd : (A.deeper (envOfC (fN (stm 13)) (fS (stm 13)) L f cd)).handled = none := (r.deeper _).handled
  refine wpAny_execs_cons (lc_range_assign (m := bindL (envOfC (fN (stm 13)) (fS (stm 13)) L f cd).kindOf [("here", .ref h), ("there", .ref t)] fun _ => none) (cl := [("there", L + 2), ("here", L + 1)]) (lostT vH vT) (itemOf vH) (fenvC rfl) G₁ rfl hd rfl rfl rfl rfl rfl rfl rfl ?_)
  refine call_bi G₁ (fenvC rfl) rfl (by decide +kernel) (by kernel_rfl) (name_cell (c := L + 1) (fenvC rfl) rfl cH (pl_len pH₁ (by omega) fun tl tk₁ => ?_))
  refine ⟨vH.length, tl, rfl, by omega, F.ns, ⟨?_, ?_⟩, ?_⟩
  · intro C k s₃ m₃ E' tk hC hk hn hm hk3
    dsimp only at hC hk3
    have hv : vH[k]? = some vH[k] := List.getElem?_eq_getElem hk
    have hvm : vH[k] ∈ vH := List.getElem_mem hk
    have q1 : Homo (vH.drop k) [vH[k]] := hq.self.sub (fun v hv => List.mem_of_mem_drop hv) (fun v hv => by rw [List.mem_singleton.mp hv]; exact hvm)
    have q2 : Homo vT [vH[k]] := hq.symm.sub (fun v hv => hv) (fun v hv => by rw [List.mem_singleton.mp hv]; exact hvm)
    refine wpAny_tests_one (wpAny_isTrue_Compare1 (MethodCall_ (sub_from (name_cell (c := L + 1) ⟨rfl, rfl, rfl⟩ rfl (cH.keeps hk3) (ld1 ⟨rfl, rfl, rfl⟩ hn hm ⟨h, vH, k, tk, rfl, rfl, PL.keep pH₁ hk3, by omega, fun D h₄ k₄ nD pD => ?_⟩)))))
    have k34 : Kp h₁ h₄ := hk3.trans k₄
    refine pl_method pD PySem.F.slot_list_count PySem.F.type_list_count (callWith_method1 (args_cons (wpAny_Subscript_Name_late (name_cell (c := L + 1) ⟨rfl, rfl, rfl⟩ rfl (cH.keeps k34) (ld1 ⟨rfl, rfl, rfl⟩ (hn.keeps k₄) hm (on_list (PL.keep pH₁ k34) (by omega) hv (args_nil (pl_count pD q1 fun t1 tk1 => ?_))))))))
    refine MethodCall_ (name_cell (c := L + 2) ⟨rfl, rfl, rfl⟩ rfl (cT.keeps k34) (pl_method (PL.keep pT₁ k34) PySem.F.slot_list_count PySem.F.type_list_count (callWith_method1 (args_cons (wpAny_Subscript_Name_late (name_cell (c := L + 1) ⟨rfl, rfl, rfl⟩ rfl (cH.keeps k34) (ld1 ⟨rfl, rfl, rfl⟩ (hn.keeps k₄) hm (on_list (PL.keep pH₁ k34) (by omega) hv (args_nil (pl_count (PL.keep pT₁ k34) q2 fun t2 tk2 => ?_))))))))))
    refine PyProof.Rows.gt_int (wpAny_truthy_bool ⟨?_, keeps_to k₄⟩)
    unfold lostT
    rw [hv]
    rw [Bool.eq_iff_iff]
    simp
  · intro C k s₃ m₃ E' tk hC hk _ hn hm hk3
    dsimp only at hC hk3
    have hv : vH[k]? = some vH[k] := List.getElem?_eq_getElem hk
    refine wpAny_Subscript_Name_late (name_cell (c := L + 1) ⟨rfl, rfl, rfl⟩ rfl (cH.keeps hk3) (ld1 ⟨rfl, rfl, rfl⟩ hn hm (on_list (PL.keep pH₁ hk3) (by omega) hv ⟨?_, keeps_refl⟩)))
    unfold itemOf
    rw [List.getD_eq_getElem?_getD, hv]; rfl
  · intro D h₂ tk₂ nD pD n₂ k₂
    dsimp only at nD k₂
    change h₂.Ns L _ at n₂
    change ∀ b o, b ≠ L → h₁.get? b = some o → h₂.get? b = some o at k₂
    have nL : s.heap.get? L = none := by rw [← hL]; exact fresh_none
    have kp₂ : Kp s.heap h₂ := fun b o e => k₂ b o (ne_none e nL) (F.keep b o e)
    have pH₂ : PL h₂ h vH := PL.keep hH kp₂
    have pT₂ : PL h₂ t vT := PL.keep hT kp₂
    have G₂ : Gl mg mb h₂ := G.keeps kp₂
    have cH₂ : h₂.IsCell (L + 1) (some (.ref h)) := let ⟨o, e, d⟩ := cH; ⟨o, k₂ _ o (by simp) e, d⟩
    have cT₂ : h₂.IsCell (L + 2) (some (.ref t)) := let ⟨o, e, d⟩ := cT; ⟨o, k₂ _ o (by simp) e, d⟩
    refine wpAny_execs_cons (lc_range_assign (m := fun z => if z = "lost" then some (.ref D) else bindL (envOfC (fN (stm 13)) (fS (stm 13)) L f cd).kindOf [("here", .ref h), ("there", .ref t)] (fun _ => none) z) (cl := [("there", L + 2), ("here", L + 1)]) (leftT vH vT) (itemOf vT) (fenvC rfl) G₂ rfl hd rfl rfl rfl rfl rfl rfl rfl ?_)
    refine call_bi G₂ (fenvC rfl) rfl (by decide +kernel) (by kernel_rfl) (name_cell (c := L + 2) (fenvC rfl) rfl cT₂ (pl_len pT₂ (by omega) fun tl tk₁ => ?_))
    refine ⟨vT.length, tl, rfl, by omega, n₂, ⟨?_, ?_⟩, ?_⟩
    · intro C k s₃ m₃ E' tk hC hk hn hm hk3
      dsimp only at hC hk3
      have hv : vT[k]? = some vT[k] := List.getElem?_eq_getElem hk
      have hvm : vT[k] ∈ vT := List.getElem_mem hk
      have q1 : Homo (vT.take (k + 1)) [vT[k]] := hq.symm.self.sub (fun v hv => List.mem_of_mem_take hv) (fun v hv => by rw [List.mem_singleton.mp hv]; exact hvm)
      have q2 : Homo vH [vT[k]] := hq.sub (fun v hv => hv) (fun v hv => by rw [List.mem_singleton.mp hv]; exact hvm)
      refine wpAny_tests_one (wpAny_isTrue_Compare1 (MethodCall_ (sub_upto (name_cell (c := L + 2) ⟨rfl, rfl, rfl⟩ rfl (cT₂.keeps hk3) (wpAny_BinOp (ld1 ⟨rfl, rfl, rfl⟩ hn hm (wpAny_Constant_int (PyProof.Rows.add_int ⟨t, vT, k + 1, _, rfl, by push_cast; rfl, PL.keep pT₂ hk3, by omega, fun D h₄ k₄ nD pD => ?_⟩))))))))
      have k34 : Kp h₂ h₄ := hk3.trans k₄
      refine pl_method pD PySem.F.slot_list_count PySem.F.type_list_count (callWith_method1 (args_cons (wpAny_Subscript_Name_late (name_cell (c := L + 2) ⟨rfl, rfl, rfl⟩ rfl (cT₂.keeps k34) (ld1 ⟨rfl, rfl, rfl⟩ (hn.keeps k₄) hm (on_list (PL.keep pT₂ k34) (by omega) hv (args_nil (pl_count pD q1 fun t1 tk1 => ?_))))))))
      refine MethodCall_ (name_cell (c := L + 1) ⟨rfl, rfl, rfl⟩ rfl (cH₂.keeps k34) (pl_method (PL.keep pH₂ k34) PySem.F.slot_list_count PySem.F.type_list_count (callWith_method1 (args_cons (wpAny_Subscript_Name_late (name_cell (c := L + 2) ⟨rfl, rfl, rfl⟩ rfl (cT₂.keeps k34) (ld1 ⟨rfl, rfl, rfl⟩ (hn.keeps k₄) hm (on_list (PL.keep pT₂ k34) (by omega) hv (args_nil (pl_count (PL.keep pH₂ k34) q2 fun t2 tk2 => ?_))))))))))
      refine PyProof.Rows.gt_int (wpAny_truthy_bool ⟨?_, keeps_to k₄⟩)
      unfold leftT
      rw [hv]
      rw [Bool.eq_iff_iff]
      simp
    · intro C k s₃ m₃ E' tk hC hk _ hn hm hk3
      dsimp only at hC hk3
      have hv : vT[k]? = some vT[k] := List.getElem?_eq_getElem hk
      refine wpAny_Subscript_Name_late (name_cell (c := L + 2) ⟨rfl, rfl, rfl⟩ rfl (cT₂.keeps hk3) (ld1 ⟨rfl, rfl, rfl⟩ hn hm (on_list (PL.keep pT₂ hk3) (by omega) hv ⟨?_, keeps_refl⟩)))
      unfold itemOf
      rw [List.getD_eq_getElem?_getD, hv]; rfl
    · intro D' h₃ tk₃ nD' pD' n₃ k₃
      dsimp only at nD' k₃
      change h₃.Ns L _ at n₃
      change ∀ b o, b ≠ L → h₂.get? b = some o → h₃.get? b = some o at k₃
      have DL : D ≠ L := fun q => by obtain ⟨_, _, _, z, _⟩ := F.ns; rw [← q, nD] at z; cases z
      have pD₃ : PL h₃ D _ := pD.at fun o e => k₃ D o DL e
      have kp₃ : Kp s.heap h₃ := fun b o e => k₃ b o (ne_none e nL) (kp₂ b o e)
      have up : ∀ {a : Addr} {h' : Heap}, Kp s.heap h' → h'.get? a = none → s.heap.get? a = none := fun {a h'} k e => by
        cases q : s.heap.get? a with
        | none => rfl
        | some o => have := k _ _ q; rw [e] at this; cases this
      have l1 : (((List.range vH.length).filter (lostT vH vT)).map (itemOf vH)).length ≤ 1000 := by
        rw [List.length_map]
        exact Nat.le_trans (List.length_filter_le _ _) (by rw [List.length_range]; omega)
      refine wpAny_execs_cons (wpAny_Return_some (Tuple_ (args_cons (sub_rev (ld1 (fenvC rfl) n₃ rfl (wpAny_UnaryOp (wpAny_Constant_int (PyProof.Rows.neg_int ⟨D, _, _, rfl, rfl, pD₃, l1, fun D₂ h₄ k₄ nD₂ pD₂ => ?_⟩))))))))
      dsimp only at k₄ nD₂ ⊢
      refine args_cons (ld1 (fenvC rfl) (n₃.keeps k₄) rfl (args_nil (tp_new (by simp) fun h₅ k₅ t₅ z₅ => ?_)))
      dsimp only at k₅ t₅ z₅ ⊢
      refine hQ h₅ _ _ D₂ D' (kp₃.trans (k₄.trans k₅)) t₅ (up (kp₃.trans k₄) fresh_none) (up kp₃ nD₂) (up kp₂ nD') (PL.keep pD₂ k₅) (PL.keep pD' (k₄.trans k₅))
end

theorem lost_keys (vH vT : List Value) : (((List.range vH.length).filter (lostT vH vT)).map (itemOf vH)).map ky = lostL (vH.map ky) (vT.map ky) := by
  have key : ∀ (suf pre : List Value), vH = pre ++ suf → (((List.range' pre.length suf.length).filter (lostT vH vT)).map (itemOf vH)).map ky = lostL (suf.map ky) (vT.map ky) := by
    intro suf
    induction suf with
    | nil => intro pre _; rfl
    | cons v suf ih =>
      intro pre e
      have ih' := ih (pre ++ [v]) (by rw [e]; simp)
      rw [List.length_append, List.length_cons, List.length_nil] at ih'
      have hv : vH[pre.length]? = some v := by rw [e]; simp
      have hi : itemOf vH pre.length = v := by unfold itemOf; rw [List.getD_eq_getElem?_getD, hv]; rfl
      have hd : vH.drop pre.length = v :: suf := by rw [e]; simp
      have hT : lostT vH vT pre.length = decide ((vT.map ky).count (ky v) < ((v :: suf).map ky).count (ky v)) := by
        unfold lostT
        rw [hv, hd]
      rw [List.length_cons, List.range'_succ, List.map_cons]
      unfold lostL
      by_cases hc : (vT.map ky).count (ky v) < ((v :: suf).map ky).count (ky v)
      · rw [List.filter_cons_of_pos (by rw [hT]; exact decide_eq_true hc)]
        rw [List.map_cons] at hc
        rw [List.map_cons, List.map_cons, hi, if_pos hc, ← ih']
        rfl
      · rw [List.filter_cons_of_neg (by rw [hT]; simpa using hc)]
        rw [List.map_cons] at hc
        rw [if_neg hc, ← ih']
        rfl
  have := key vH [] rfl
  rw [List.range_eq_range']
  exact this
theorem left_keys (vH vT : List Value) : (((List.range vT.length).filter (leftT vH vT)).map (itemOf vT)).map ky = leftG (vH.map ky) [] (vT.map ky) := by
  have key : ∀ (suf pre : List Value), vT = pre ++ suf → (((List.range' pre.length suf.length).filter (leftT vH vT)).map (itemOf vT)).map ky = leftG (vH.map ky) (pre.map ky) (suf.map ky) := by
    intro suf
    induction suf with
    | nil => intro pre _; rfl
    | cons v suf ih =>
      intro pre e
      have ih' := ih (pre ++ [v]) (by rw [e]; simp)
      rw [List.length_append, List.length_cons, List.length_nil, List.map_append, List.map_cons, List.map_nil] at ih'
      have hv : vT[pre.length]? = some v := by rw [e]; simp
      have hi : itemOf vT pre.length = v := by unfold itemOf; rw [List.getD_eq_getElem?_getD, hv]; rfl
      have hd : vT.take (pre.length + 1) = pre ++ [v] := by rw [e, show pre ++ v :: suf = (pre ++ [v]) ++ suf by simp]; exact List.take_left' (by simp)
      have hT : leftT vH vT pre.length = decide ((vH.map ky).count (ky v) < ((pre ++ [v]).map ky).count (ky v)) := by
        unfold leftT
        rw [hv, hd]
      rw [List.length_cons, List.range'_succ, List.map_cons]
      unfold leftG
      by_cases hc : (vH.map ky).count (ky v) < ((pre ++ [v]).map ky).count (ky v)
      · rw [List.filter_cons_of_pos (by rw [hT]; exact decide_eq_true hc)]
        rw [List.map_append, List.map_cons, List.map_nil] at hc
        rw [List.map_cons, List.map_cons, hi, if_pos hc, ← ih']
        rfl
      · rw [List.filter_cons_of_neg (by rw [hT]; simpa using hc)]
        rw [List.map_append, List.map_cons, List.map_nil] at hc
        rw [if_neg hc, ← ih']
        rfl
  have := key vT [] rfl
  rw [List.range_eq_range']
  exact this
end Mine

namespace Mine
open PySem PySem.W PySem.Calls PyProof.Rows

/-- a text's signs, as == sees them -/
def sgs (x : Str) : List Value := x.cps.toList.map fun c => .str (sg1 c) 0
where sg1 (c : Nat) : Str := ⟨#[c]⟩

section
variable {prog : Program} {w : World} {A : Around} {E : Value → Shared → Prop} {R : Result → Shared → Prop} {s : Shared} {x y : Str} {px py py' : Pos} {iter iter2 : Expr} {scope : Scope} {pos : Pos} {cenv : Env}

theorem turn_inner (g0 : Comprehension) (it acc : Value) : compTurn (.ListComp (.Name y py) [g0, ⟨.Name y py', iter2, [], 0⟩] scope pos) 1 it acc cenv = (standAt iter2.pos >>= fun _ => pyNext it >>= fun r => match r with
      | none => pure (.done .next)
      | some v => letOwnedTupleGo (.Name y py') it v >>= fun _ => assign (.Name y py') cenv v >>= fun _ =>
        (eval (.Name y py) cenv >>= fun x => call (.builtin "list.append") [acc, x] >>= fun _ => pure ()) >>= fun _ =>
          again (.compLoop (.ListComp (.Name y py) [g0, ⟨.Name y py', iter2, [], 0⟩] scope pos) 1 it acc cenv)) := by rfl

theorem turn_outer (elt : Expr) (g1 : Comprehension) (h1 : g1.is_async = 0) (it acc : Value) : compTurn (.ListComp elt [⟨.Name x px, iter, [], 0⟩, g1] scope pos) 0 it acc cenv = (standAt iter.pos >>= fun _ => pyNext it >>= fun r => match r with
      | none => pure (.done .next)
      | some v => letOwnedTupleGo (.Name x px) it v >>= fun _ => assign (.Name x px) cenv v >>= fun _ =>
        (eval g1.iter cenv >>= fun z => standAt g1.iter.pos >>= fun _ => foldedSetIterable g1.iter cenv z >>= fun z => holding [z] (pyIter z) >>= fun i =>
          runOwn (.compStart (.ListComp elt [⟨.Name x px, iter, [], 0⟩, g1] scope pos) 1 i acc cenv) cenv >>= fun _ =>
          again (.compLoop (.ListComp elt [⟨.Name x px, iter, [], 0⟩, g1] scope pos) 0 it acc cenv))) := by
  obtain ⟨a, b, c, d⟩ := g1
  obtain rfl : d = 0 := h1
  rfl

theorem inner_start {elt : Expr} {g0 : Comprehension} {it acc : Value}
    (h0 : codeAny (model prog w) A (.compLoop (.ListComp elt [g0, ⟨.Name y py', iter2, [], 0⟩] scope pos) 1 it acc cenv) R s)
    (h : wpAny (model prog w) A (pyIter it) (fun it' s' => codeAny (model prog w) A (.compLoop (.ListComp elt [g0, ⟨.Name y py', iter2, [], 0⟩] scope pos) 1 it' acc cenv) R s')
      (notedBy (model prog w) A cenv fun x s' => R (.error x) s') s) :
    codeAny (model prog w) A (.compStart (.ListComp elt [g0, ⟨.Name y py', iter2, [], 0⟩] scope pos) 1 it acc cenv) R s := by
  refine codeAny_of_tree ?_
  show wpAny _ A ((compStart (.ListComp elt [g0, ⟨.Name y py', iter2, [], 0⟩] scope pos) 1 it acc cenv).onRaise (fun x => do noteFrame x cenv; standAt theWindowsPlace)) _ _ s
  refine wpAny_notedAt ?_
  unfold compStart
  show wpAny _ _ (ask >>= _) _ _ s
  refine wpAny_bind (wpAny_askSetting (wpAny_ite ?_))
  split
  · first
      | exact wpAny_bind (wpAny_pure (wpAny_pure (And.intro rfl h0)))
      | exact wpAny_pure (And.intro rfl h0)
  · first
      | exact wpAny_bind (wpAny_rule (wpAny_bind (wpAny_standAt (wpAny_bind (wpAny_mono h (fun it' s' h' => wpAny_pure (And.intro rfl h')) fun _ _ x => x)))))
      | (refine wpAny_bind (wpAny_rule ?_); show wpAny _ _ (standAt iter2.pos >>= _) _ _ s; exact wpAny_bind (wpAny_standAt (wpAny_bind (wpAny_mono h (fun it' s' h' => wpAny_pure (And.intro rfl h')) fun _ _ x => x))))

theorem inner_loop {g0 : Comprehension} {I D : Addr} {z : Str} {St : Nat → Heap → Prop} {m : Str → Option Value} {ys : List Value}
    (W : Walks prog w A I [I] [I] z.cps.size (SignAt z) St) (hy : cenv.kindOf y = some .local) (hk : cenv.scope.kind = .function) (hdb : (y == ("__debug__" : Str)) = false)
    (hDC : D ≠ cenv.locals) (hDI : D ≠ I) (hCI : cenv.locals ≠ I) (hst : St 0 s.heap) (hacc : PL s.heap D ys) (hn : s.heap.Ns cenv.locals m) (hz : ys.length + z.cps.size ≤ 1000)
    (hR : ∀ h' tk m' zs, h'.Ns cenv.locals m' → PL h' D (ys ++ zs) → zs.map ky = sgs z → Strs zs → (∀ b o, b ≠ cenv.locals → b ≠ I → b ≠ D → s.heap.get? b = some o → h'.get? b = some o) → R (.ok .next) { s with heap := h', toks := tk }) :
    codeAny (model prog w) A (.compLoop (.ListComp (.Name y py) [g0, ⟨.Name y py', iter2, [], 0⟩] scope pos) 1 (.ref I) (.ref D) cenv) R s := by
  refine codeAny_loop rfl (fun k s' => ∃ h' tk m' zs, s' = { s with heap := h', toks := tk } ∧ St zs.length h' ∧ PL h' D (ys ++ zs) ∧ h'.Ns cenv.locals m' ∧ zs.map ky = (sgs z).take zs.length ∧ Strs zs ∧ zs.length + k = z.cps.size ∧
    ∀ b o, b ≠ cenv.locals → b ≠ I → b ≠ D → s.heap.get? b = some o → h'.get? b = some o) ?_ z.cps.size ⟨s.heap, s.toks, m, [], rfl, hst, by simpa using hacc, hn, rfl, (fun _ q => nomatch q), by simp, fun _ _ _ _ _ e => e⟩
  rintro k s' ⟨H, tk, m', zs, rfl, hst', hacc', hn', hF, hS, hi, hkp⟩
  show wpAny _ A ((compTurn (.ListComp (.Name y py) [g0, ⟨.Name y py', iter2, [], 0⟩] scope pos) 1 (.ref I) (.ref D) cenv).onRaise (fun x => do noteFrame x cenv; theTreesLotGoes x)) _ _ _
  refine wpAny_noted ?_
  rw [turn_inner]
  refine wpAny_bind (wpAny_standAt (wpAny_bind ?_))
  have hsl : (sgs z).length = z.cps.size := by simp [sgs]
  by_cases hlt : zs.length < z.cps.size
  · refine W.item zs.length _ _ _ hlt hst' fun v h₁ tk₁ hPv hst₁ hk₁ => ?_
    obtain ⟨c, u, hc, rfl⟩ := hPv
    refine wpAny_bind (wpAny_of_eq (by rfl) (wpAny_bind (wpAny_assign_Name (wpAny_storeName_local hy (hn'.at' fun o e => hk₁ _ o (by simpa using hCI) e) (fun h₂ hn₂ hs₂ => ?_) (by rw [hk]; rfl)))))
    refine wpAny_bind (wpAny_bind (wpAny_Name (wpAny_loadName_local hk hy hn₂ (by rw [if_pos rfl]) (wpAny_bind ?_)) hdb))
    have hacc₂ : PL h₂ D (ys ++ zs) := hacc'.at fun o e => hs₂.extBut D o hDC (hk₁ D o (by simpa using hDI) e)
    refine pl_append hacc₂ (by simp; omega) fun h₃ p₃ b₃ => wpAny_pure (wpAny_pure ⟨rfl, k - 1, by omega, h₃, _, _, zs ++ [.str ⟨#[c]⟩ u], rfl, ?_, by simpa using p₃, hn₂.sameBut b₃ (Ne.symm hDC), ?_, ?_, by simp; omega, ?_⟩)
    · have := W.frame _ _ h₃ hst₁ fun b hb o e => b₃.extBut b o (fun q => hDI ((List.mem_singleton.mp hb).symm.trans q).symm) (hs₂.extBut b o (fun q => hCI ((List.mem_singleton.mp hb).symm.trans q).symm) e)
      simpa using this
    · rw [List.map_append, hF, List.length_append, List.length_singleton, List.take_add_one]
      congr 1
      unfold sgs
      rw [List.getElem?_map]
      have : z.cps.toList[zs.length]? = some c := by simpa using hc
      rw [this]; rfl
    · intro v hv
      rcases List.mem_append.mp hv with q | q
      · exact hS v q
      · rw [List.mem_singleton.mp q]; exact ⟨_, _, rfl⟩
    · intro b o h1 h2 h3 e
      exact b₃.extBut b o h3 (hs₂.extBut b o h1 (hk₁ b o (by simpa using h2) (hkp b o h1 h2 h3 e)))
  · have hin : zs.length = z.cps.size := by omega
    refine W.done _ _ _ (hin ▸ hst') fun h₁ tk₁ hk₁ => wpAny_pure ?_
    refine hR h₁ tk₁ m' zs (hn'.at' fun o e => hk₁ _ o (by simpa using hCI) e) (hacc'.at fun o e => hk₁ _ o (by simpa using hDI) e) ?_ hS fun b o h1 h2 h3 e => hk₁ b o (by simpa using h2) (hkp b o h1 h2 h3 e)
    rw [hF, List.take_of_length_le (by omega)]
end

section
variable {prog : Program} {w : World} {A : Around} {E : Value → Shared → Prop} {s : Shared} {x y : Str} {px py py' : Pos} {iter iter2 : Expr} {scope : Scope} {pos : Pos} {env : Env} {cl : List (Str × Addr)}

/-- [y for x in ROW for y in TEXT(x)] -/
theorem lc_two {Q : Value → Shared → Prop} (g : Value → Str) (hh : A.handled = none)
    (hclos : closureFor scope env = pure cl) (hcell : (scope.names.all fun y => decide (y.2 ≠ .cell)) = true) (hkind : scope.kind = .function)
    (hnames : (scope.names.all fun y => decide (y.2 = .local → scope.names.lookup y.1 = some .local)) = true) (hx : scope.names.lookup x = some .local) (hy : scope.names.lookup y = some .local)
    (he : wpAny (model prog w) A (eval iter env) (fun v s₁ => ∃ l vs, v = .ref l ∧ PL s₁.heap l vs ∧ (vs.flatMap fun v => sgs (g v)).length ≤ 1000 ∧
      (∀ C v s₃ m₃ E', s₁.heap.objs.size ≤ C → v ∈ vs → s₃.heap.Ns C m₃ → m₃ x = some v → Kp s₁.heap s₃.heap → wpAny (model prog w) A (eval iter2 (compEnvC scope cl C env)) (fun y s₄ => (∃ t, y = .str (g v) t) ∧ Keeps s₃ s₄) E' s₃) ∧
      ∀ D h' tk ys, s₁.heap.get? D = none → PL h' D ys → ys.map ky = vs.flatMap (fun v => sgs (g v)) → Strs ys → Kp s₁.heap h' → Q (.ref D) { s₁ with heap := h', toks := tk }) E s)
    (hdy : (y == ("__debug__" : Str)) = false := by decide)
    (hs : ∀ x, foldedSetIterable iter env x = pure x := by intro _; rfl) (hs2 : ∀ e x, foldedSetIterable iter2 e x = pure x := by intro _ _; rfl) :
    wpAny (model prog w) A (eval (.ListComp (.Name y py) [⟨.Name x px, iter, [], 0⟩, ⟨.Name y py', iter2, [], 0⟩] scope pos) env) Q E s := by
  rw [eval_ListComp]
  refine wpAny_comprehension_free (use := none) rfl hs hclos hkind (fun y hy => of_decide_eq_true (List.all_eq_true.mp hnames y hy)) (wpAny_mono he (fun v s₁ h₁ => ?_) fun _ _ e => e)
  obtain ⟨l, vs, rfl, pl, hz, hit2, hQ⟩ := h₁
  refine wpAny_pyIter_list pl.isList ?_
  generalize hI : s₁.heap.objs.size = I
  have nI : s₁.heap.get? I = none := by rw [← hI]; exact fresh_none
  have kI : Kp s₁.heap (s₁.heap.push { cls := .type "list_iterator", data := .fields #[.ref l, .int 0 0] }) := fun b o e => Heap.get?_push_of_some _ e
  have gI : (s₁.heap.push { cls := .type "list_iterator", data := .fields #[.ref l, .int 0 0] }).get? I = some { cls := .type "list_iterator", data := .fields #[.ref l, .int 0 0] } := by rw [← hI]; exact Heap.get?_push_size _ rfl
  have zI : (s₁.heap.push { cls := .type "list_iterator", data := .fields #[.ref l, .int 0 0] }).objs.size = I + 1 := by rw [Heap.size_push, hI]
  generalize s₁.heap.push { cls := .type "list_iterator", data := .fields #[.ref l, .int 0 0] } = H1 at kI gI zI ⊢
  have hl : l ≠ I := let ⟨_, e⟩ := pl; ne_none e nI
  refine pl_new (vs := []) (by simp) fun h₂ k₂ pD z₂ => ?_
  dsimp only at k₂ pD z₂ ⊢
  generalize hD : H1.objs.size = D at pD z₂ ⊢
  have nD : H1.get? D = none := by rw [← hD]; exact fresh_none
  refine wpAny_newFunctionEnv (fun y hy => of_decide_eq_true (List.all_eq_true.mp hcell y hy)) (by intro y hy; simp at hy) (fun h₃ n₃ b₃ => ?_) hkind
  dsimp only at n₃ b₃ ⊢
  generalize hC : h₂.objs.size = C at n₃ b₃ ⊢
  have nC : h₂.get? C = none := by rw [← hC]; exact fresh_none
  have DC : D ≠ C := let ⟨_, e⟩ := pD; ne_none e nC
  have IC : I ≠ C := ne_none (k₂ _ _ gI) nC
  have ID : I ≠ D := ne_none gI nD
  have k₃ : ∀ b o, h₂.get? b = some o → h₃.get? b = some o := fun b o e => b₃.extBut b o (ne_none e nC) (Heap.get?_push_of_some _ e)
  have k03 : Kp s₁.heap h₃ := fun b o e => k₃ b o (k₂ b o (kI b o e))
  have pl₃ : PL h₃ l vs := PL.keep pl k03
  have lC : l ≠ C := let ⟨_, e⟩ := pl; ne_none (k₂ _ _ (kI _ _ e)) nC
  have lD : l ≠ D := let ⟨_, e⟩ := pl; ne_none (kI _ _ e) nD
  have pD₃ : PL h₃ D [] := PL.keep pD k₃
  have W := Walks.list (prog := prog) (w := w) hh I l hl vs.toArray
  have st₃ : h₃.IsListIter I l 0 ∧ h₃.IsList l vs.toArray := ⟨⟨_, k₃ _ _ (k₂ _ _ gI), rfl, rfl⟩, pl₃.isList⟩
  have sC : s₁.heap.objs.size ≤ C := by omega
  have hCk : (compEnvC scope cl C env).scope.kind = .function := by simp [compEnvC, relabel, hkind]
  show codeAny (model prog w) A (.compStart _ 0 (.ref I) (.ref D) (compEnvC scope cl C env)) _ _
  have loop : ∀ s₄ : Shared, s₄ = { s₁ with heap := h₃, toks := s₁.toks + ([] : List (Str × Value)).length } →
      codeAny (model prog w) A (.compLoop (.ListComp (.Name y py) [⟨.Name x px, iter, [], 0⟩, ⟨.Name y py', iter2, [], 0⟩] scope pos) 0 (.ref I) (.ref D) (compEnvC scope cl C env)) (compPost (model prog w) A E none Q (.ref D) C) s₄ := by
    rintro s₄ rfl
    refine codeAny_loop rfl (fun k s' => ∃ h' tk m' ys i, s' = { s₁ with heap := h', toks := tk } ∧ (h'.IsListIter I l i ∧ h'.IsList l vs.toArray) ∧ PL h' D ys ∧ h'.Ns C m' ∧ ys.map ky = (vs.take i).flatMap (fun v => sgs (g v)) ∧ Strs ys ∧ i + k = vs.length ∧ Kp s₁.heap h')
      ?_ vs.length ⟨h₃, _, _, [], 0, rfl, st₃, pD₃, n₃, rfl, (fun _ q => nomatch q), by simp, k03⟩
    rintro k s' ⟨H, tk, m', ys, i, rfl, hst', hacc', hn', hF, hS, hi, hkp⟩
    show wpAny _ A ((compTurn (.ListComp (.Name y py) [⟨.Name x px, iter, [], 0⟩, ⟨.Name y py', iter2, [], 0⟩] scope pos) 0 (.ref I) (.ref D) (compEnvC scope cl C env)).onRaise (fun x => do noteFrame x (compEnvC scope cl C env); theTreesLotGoes x)) _ _ _
    refine wpAny_noted ?_
    rw [turn_outer _ _ rfl]
    refine wpAny_bind (wpAny_standAt (wpAny_bind ?_))
    by_cases hlt : i < vs.length
    · refine W.item i _ _ _ (by simpa using hlt) hst' fun v h₅ tk₅ hPv hst₅ hk₅ => ?_
      have hv : vs[i]? = some v := by simpa using hPv
      have hvm : v ∈ vs := List.mem_of_getElem? hv
      have kp5 : Kp s₁.heap h₅ := fun b o e => hk₅ b o (by simpa using ne_none e nI) (hkp b o e)
      refine wpAny_bind (wpAny_of_eq (by rfl) (wpAny_bind (wpAny_assign_Name (wpAny_storeName_local (env := compEnvC scope cl C env) (m := m') (lookup_relabel_local hx) (hn'.at' fun o e => hk₅ _ o (by simpa using Ne.symm IC) e) (fun h₆ hn₆ hs₆ => ?_) (by rw [hCk]; rfl)))))
      change h₆.Ns C _ at hn₆
      change Heap.SameBut C h₅ h₆ at hs₆
      have nC1 : s₁.heap.get? C = none := Heap.get?_none_of_le sC
      have kp6 : Kp s₁.heap h₆ := fun b o e => hs₆.extBut b o (ne_none e nC1) (kp5 b o e)
      refine wpAny_bind (wpAny_mono (hit2 C v _ _ _ sC hvm hn₆ (by rw [if_pos rfl]) kp6) (fun r s₇ h₇ => ?_) fun _ _ e => e)
      obtain ⟨⟨t, rfl⟩, h₇, tk₇, rfl, k₇⟩ := h₇
      dsimp only at k₇ ⊢
      refine wpAny_bind (wpAny_standAt (wpAny_bind (wpAny_of_eq (hs2 _ _) (wpAny_bind (wpAny_holding (wpAny_pyIter_str fun o St hW hst => ?_))))))
      have pD₇ : PL h₇ D ys := hacc'.at fun o e => k₇ _ o (hs₆.extBut D o DC (hk₅ _ o (by simpa using Ne.symm ID) e))
      obtain ⟨_, eD⟩ := id pD₇
      obtain ⟨_, _, _, eC, _⟩ := hn₆.keeps k₇
      have J1 : D ≠ h₇.objs.size := fresh_ne eD
      have J2 : C ≠ h₇.objs.size := fresh_ne eC
      have ph : Kp h₇ (h₇.push o) := fun b o' e => Heap.get?_push_of_some _ e
      have hfl : ys.length + (g v).cps.size ≤ 1000 := by
        have e1 : ys.length = ((vs.take i).flatMap fun v => sgs (g v)).length := by rw [← hF, List.length_map]
        have e2 : vs = vs.take i ++ v :: vs.drop (i + 1) := by
          have h1 := (List.getElem?_eq_some_iff.mp hv).2
          have h2 := List.take_append_drop i vs
          rw [List.drop_eq_getElem_cons hlt, h1] at h2
          exact h2.symm
        rw [e2, List.flatMap_append, List.flatMap_cons, List.length_append, List.length_append] at hz
        have e3 : (sgs (g v)).length = (g v).cps.size := by simp [sgs]
        omega
      refine wpAny_bind (wpAny_runOwn ?_)
      have inn : ∀ R : Result → Shared → Prop, (∀ h' tk m' zs, h'.Ns C m' → PL h' D (ys ++ zs) → zs.map ky = sgs (g v) → Strs zs → (∀ b o', b ≠ C → b ≠ h₇.objs.size → b ≠ D → (h₇.push o).get? b = some o' → h'.get? b = some o') → R (.ok .next) { s₁ with heap := h', toks := tk }) →
          codeAny (model prog w) A (.compLoop (.ListComp (.Name y py) [⟨.Name x px, iter, [], 0⟩, ⟨.Name y py', iter2, [], 0⟩] scope pos) 1 (.ref h₇.objs.size) (.ref D) (compEnvC scope cl C env)) R { s₁ with heap := h₇.push o, toks := tk₇ } := fun R hR =>
        inner_loop (hW A hh) (lookup_relabel_local hy) hCk hdy DC J1 J2 hst (PL.keep pD₇ ph) ((hn₆.keeps k₇).keeps ph) hfl hR
      refine (fun hp => inner_start (inn _ hp) ((hW A hh).self 0 _ _ _ hst (inn _ hp))) ?_
      · intro h₈ tk₈ m₈ zs n₈ p₈ e₈ S₈ k₈
        refine wpAny_pure ⟨rfl, k - 1, by omega, h₈, tk₈, m₈, ys ++ zs, i + 1, rfl, ?_, p₈, n₈, ?_, ?_, by omega, ?_⟩
        · refine W.frame _ _ h₈ hst₅ fun b hb o' e => ?_
          have hbC : b ≠ C := by
            rcases List.mem_cons.mp hb with rfl | hb
            · exact IC
            · rw [List.mem_singleton.mp hb]; exact lC
          have hbD : b ≠ D := by
            rcases List.mem_cons.mp hb with rfl | hb
            · exact ID
            · rw [List.mem_singleton.mp hb]; exact lD
          have e7 := k₇ b o' (hs₆.extBut b o' hbC e)
          exact k₈ b o' hbC (fresh_ne e7) hbD (ph b o' e7)
        · rw [List.map_append, hF, e₈, List.take_add_one, hv, List.flatMap_append]
          congr 1
          simp
        · intro z hz'
          rcases List.mem_append.mp hz' with q | q
          · exact hS z q
          · exact S₈ z q
        · intro b o' e
          have e7 := k₇ b o' (kp6 b o' e)
          exact k₈ b o' (ne_none e nC1) (fresh_ne e7) (fun q => by have := kI _ _ e; rw [q, nD] at this; cases this) (ph b o' e7)
    · have hin : i = vs.length := by omega
      subst hin
      refine W.done _ _ _ (by simpa using hst') fun h₅ tk₅ hk₅ => wpAny_pure ?_
      refine ⟨m', hn'.at' fun o e => hk₅ _ o (by simpa using Ne.symm IC) e, fun h₆ b₆ => ?_⟩
      have nC1 : s₁.heap.get? C = none := Heap.get?_none_of_le sC
      refine hQ D h₆ tk₅ ys ?_ (hacc'.at fun o e => b₆.extBut D o DC (hk₅ _ o (by simpa using Ne.symm ID) e)) ?_ hS fun b o e => b₆.extBut b o (ne_none e nC1) (hk₅ b o (by simpa using ne_none e nI) (hkp b o e))
      · cases q : s₁.heap.get? D with
        | none => rfl
        | some o => have := kI _ _ q; rw [nD] at this; cases this
      · rw [hF, List.take_of_length_le (Nat.le_refl _)]
  exact codeAny_compStart_list (loop _ rfl) (W.self 0 _ _ _ st₃ (loop _ rfl))
end
end Mine

namespace Mine
open PySem PySem.W PySem.Calls PyProof.Rows

/-- a one-sign text's number -/
def cpOf (x : Str) : Nat := x.cps.getD 0 0
def meantOf (x : Str) : Str := (stock14.lookup (cpOf x)).getD Str.empty
/-- what one item becomes at a stage -/
def stK : Nat → Str → Value → List Value
  | 1, _, .str x t => if b1L.contains (cpOf x : Int) then [] else [.str x t]
  | 2, _, .str x _ => sgs (meantOf x)
  | 3, l, .str x _ => [.int (cmpI x l) 0]
  | _, _, k => [k]
/-- what a stage takes -/
def Dom : Nat → Value → Prop
  | 1, k => ∃ c, k = .str (sg c) 0
  | 2, k => ∃ c m, k = .str (sg c) 0 ∧ (c, m) ∈ stock14
  | 3, k => ∃ x, k = .str x 0
  | _, _ => True
theorem meant_of {c : Nat} {m : Str} (h : (c, m) ∈ stock14) : meantOf (sg c) = m := by
  have : stock14.all (fun p => decide (stock14.lookup p.1 = some p.2)) = true := by decide
  have := of_decide_eq_true (List.all_eq_true.mp this _ h)
  show (stock14.lookup c).getD Str.empty = m
  rw [this]; rfl
theorem ky_str {v : Value} {x : Str} (h : ky v = .str x 0) : ∃ t, v = .str x t := by
  cases v <;> simp [ky] at h
  subst h
  exact ⟨_, rfl⟩
theorem ky_int {v : Value} {i : Int} (h : ky v = .int i 0) : ∃ t, v = .int i t := by
  cases v <;> simp [ky] at h
  subst h
  exact ⟨_, rfl⟩
theorem meant_short : stock14.all (fun p => decide ((sgs p.2).length ≤ 3)) = true := by decide
theorem flat_len {α β : Type} {f : α → List β} {n : Nat} : ∀ {l : List α}, (∀ x ∈ l, (f x).length ≤ n) → (l.flatMap f).length ≤ n * l.length
  | [], _ => by simp
  | x :: l, h => by
    rw [List.flatMap_cons, List.length_append, List.length_cons, Nat.mul_succ]
    have := flat_len (f := f) (n := n) (l := l) fun y hy => h y (.tail _ hy)
    have := h x (.head _)
    omega

section
variable {prog : Program} {w : World} {A : Around} {E : Value → Shared → Prop} {s : Shared} {mg mb : Str → Option Value} {env : Env}

theorem if_stage {x : Str} {n k : Int} {t : Tok} {m : Str → Option Value} {p p2 p3 pos : Pos} {knd : Nat} {body orelse : List Stmt} {Q : Flow → Shared → Prop} (fe : FEnv env) (hn : s.heap.Ns env.locals m) (hv : m x = some (.int n t))
    (h : ∀ tk, (n = k → wpAny (model prog w) A (execs body env) Q E { s with toks := tk }) ∧ (n ≠ k → wpAny (model prog w) A (execs orelse env) Q E { s with toks := tk })) (hl : env.kindOf x = some .local := by rfl) (hd : (x == ("__debug__" : Str)) = false := by decide) :
    wpAny (model prog w) A (exec (.If (.Compare (.Name x p) [.Eq] [.Constant (.int k) knd p2] p3) body orelse pos) env) Q E s := by
  refine wpAny_If (wpAny_isTrue_Compare1 (ld1 fe hn hv (wpAny_Constant_int (PyProof.Rows.eq_int (wpAny_truthy_bool ?_))) hl hd))
  by_cases e : n = k
  · subst e; simpa using (h _).1 rfl
  · rw [if_neg (by simpa using e)]; exact (h _).2 e

theorem stage_spec {f l : Addr} {vs : List Value} {n : Nat} {t u : Tok} {ltr : Str} {rm : Nat} {Q : Value → Shared → Prop} (G : Gl mg mb s.heap) (hf : mg "_law_stage" = some (.ref f)) (r : Room A (rm + 2))
    (pl : PL s.heap l vs) (hz : vs.length ≤ 300) (hn : n < 4) (hdom : ∀ v ∈ vs, Dom n (ky v))
    (hQ : ∀ D h' tk ys, s.heap.get? D = none → PL h' D ys → ys.map ky = (vs.map ky).flatMap (stK n ltr) → Kp s.heap h' → Q (.ref D) { s with heap := h', toks := tk }) :
    wpAny (model prog w) A (call (.ref f) [.ref l, .int n t, .str ltr u]) Q E s := by
  refine enterC (i := 14) (binds := [("row", .ref l), ("stage", .int n t), ("letter", .str ltr u)]) G (by decide) hf r (by intros; rfl) rfl rfl fun h₁ tk cd F X => ?_
  generalize hL : s.heap.objs.size = L at F X ⊢
  have pl₁ : PL h₁ l vs := PL.keep pl F.keep
  have G₁ : Gl mg mb h₁ := G.keeps F.keep
  have cL : h₁.IsCell (L + 1) (some (.str ltr u)) := X.cell "letter" (L + 1) rfl
  have hd : (A.deeper (envOfC (fN (stm 14)) (fS (stm 14)) L f cd)).handled = none := (r.deeper _).handled
  have rd : Room (A.deeper (envOfC (fN (stm 14)) (fS (stm 14)) L f cd)) (rm + 1) := r.deeper _
  have up : ∀ {D : Addr}, h₁.get? D = none → s.heap.get? D = none := fun {D} e => by
    cases q : s.heap.get? D with
    | none => rfl
    | some o => have := F.keep _ _ q; rw [e] at this; cases this
  refine wpAny_execs_cons (if_stage (fenvC rfl) F.ns rfl fun tk₁ => ⟨fun e => ?_, fun e1 => wpAny_execs_nil ?_⟩)
  · obtain rfl : n = 1 := by omega
    refine wpAny_execs_cons (wpAny_Return_some (lc_list (cl := []) (fun v => !b1L.contains (match v with | .str x _ => (cpOf x : Int) | _ => 0)) (fun v y => y = v) hd rfl rfl rfl rfl rfl (ld1 (fenvC rfl) F.ns rfl ⟨l, vs, rfl, pl₁, by omega, ⟨?_, ?_⟩, ?_⟩)))
    · intro C v s₃ m₃ E' hC hv hn3 hm hk
      obtain ⟨c, hc⟩ : ∃ c, ky v = .str (sg c) 0 := hdom v hv
      obtain ⟨tv, rfl⟩ := ky_str hc
      dsimp only at hk
      have G₃ : Gl mg mb s₃.heap := G₁.keeps hk
      refine wpAny_tests_one (isTrue_not (isTrue_plain (call_fn (i := 5) G₃ ⟨rfl, rfl, rfl⟩ (by decide) rfl rfl (args_cons (ld1 ⟨rfl, rfl, rfl⟩ hn3 hm (args_nil ⟨Kp.rfl', fun a ha => b1_spec G₃ ha rd fun h' tk' k' => wpAny_truthy_bool ⟨rfl, keeps_to k'⟩⟩))))))
    · intro C v s₃ m₃ E' hC hv _ hn3 hm hk
      exact ld1 ⟨rfl, rfl, rfl⟩ hn3 hm ⟨rfl, keeps_refl⟩
    · intro D h' tk' ys nD pD hF hk
      refine hQ D h' tk' ys (up nD) pD ?_ (Kp.trans F.keep hk)
      have e : ys = vs.filter fun v => !b1L.contains (match v with | .str x _ => (cpOf x : Int) | _ => 0) := by
        clear hQ pD
        generalize vs.filter (fun v => !b1L.contains (match v with | .str x _ => (cpOf x : Int) | _ => 0)) = ws at hF
        induction hF with
        | nil => rfl
        | cons a _ ih => rw [ih, a]
      rw [e]
      clear hQ pD hF e pl pl₁ hz
      induction vs with
      | nil => rfl
      | cons v vs ih =>
        obtain ⟨c, hc⟩ : ∃ c, ky v = .str (sg c) 0 := hdom v (.head _)
        obtain ⟨tv, rfl⟩ := ky_str hc
        have ih := ih fun v hv => hdom v (.tail _ hv)
        rw [List.map_cons, List.flatMap_cons, ← ih]
        by_cases hb : b1L.contains (cpOf (sg c) : Int) = true
        · rw [List.filter_cons_of_neg (by rw [hb]; decide)]
          show _ = (if b1L.contains (cpOf (sg c) : Int) then [] else _) ++ _
          rw [if_pos hb]; rfl
        · rw [List.filter_cons_of_pos (by simpa using hb)]
          show _ = (if b1L.contains (cpOf (sg c) : Int) then [] else _) ++ _
          rw [if_neg hb]; rfl
  refine wpAny_execs_cons (if_stage (fenvC rfl) F.ns rfl fun tk₂ => ⟨fun e => ?_, fun e2 => wpAny_execs_nil ?_⟩)
  · obtain rfl : n = 2 := by omega
    refine wpAny_execs_cons (wpAny_Return_some (lc_two (cl := []) (fun v => meantOf (match v with | .str x _ => x | _ => Str.empty)) hd rfl rfl rfl rfl rfl rfl (ld1 (fenvC rfl) F.ns rfl ⟨l, vs, rfl, pl₁, ?_, ?_, ?_⟩)))
    · refine Nat.le_trans (flat_len (n := 3) fun v hv => ?_) (by omega)
      obtain ⟨c, m, hc, hm⟩ : ∃ c m, ky v = .str (sg c) 0 ∧ (c, m) ∈ stock14 := hdom v hv
      obtain ⟨tv, rfl⟩ := ky_str hc
      dsimp only
      rw [meant_of hm]
      exact of_decide_eq_true (List.all_eq_true.mp meant_short _ hm)
    · intro C v s₃ m₃ E' hC hv hn3 hm hk
      obtain ⟨c, m, hc, hcm⟩ : ∃ c m, ky v = .str (sg c) 0 ∧ (c, m) ∈ stock14 := hdom v hv
      obtain ⟨tv, rfl⟩ := ky_str hc
      dsimp only at hk
      have G₃ : Gl mg mb s₃.heap := G₁.keeps hk
      refine call_fn (i := 7) G₃ ⟨rfl, rfl, rfl⟩ (by decide) rfl rfl (args_cons (ld1 ⟨rfl, rfl, rfl⟩ hn3 hm (args_nil ⟨Kp.rfl', fun a ha => b3_spec G₃ ha rd hcm fun h' tk' tk'' k' => ⟨⟨tk', ?_⟩, keeps_to k'⟩⟩)))
      dsimp only
      rw [meant_of hcm]
    · intro D h' tk' ys nD pD hF hS hk
      refine hQ D h' tk' ys (up nD) pD ?_ (Kp.trans F.keep hk)
      rw [hF]
      clear hQ pD hF pl pl₁ hz
      induction vs with
      | nil => rfl
      | cons v vs ih =>
        obtain ⟨c, m, hc, hm⟩ : ∃ c m, ky v = .str (sg c) 0 ∧ (c, m) ∈ stock14 := hdom v (.head _)
        obtain ⟨tv, rfl⟩ := ky_str hc
        have ih := ih fun v hv => hdom v (.tail _ hv)
        rw [List.map_cons, List.flatMap_cons, List.flatMap_cons, ← ih]
        rfl
  refine wpAny_execs_cons (if_stage (fenvC rfl) F.ns rfl fun tk₂ => ⟨fun e => ?_, fun e3 => wpAny_execs_nil ?_⟩)
  · obtain rfl : n = 3 := by omega
    refine wpAny_execs_cons (wpAny_Return_some (lc_list (cl := [("letter", L + 1)]) (fun _ => true) (fun v y => ∃ tk, y = .int (cmpI (match v with | .str x _ => x | _ => Str.empty) ltr) tk) hd rfl rfl rfl rfl rfl (ld1 (fenvC rfl) F.ns rfl ⟨l, vs, rfl, pl₁, by omega, ⟨?_, ?_⟩, ?_⟩)))
    · intro C v s₃ m₃ E' hC hv hn3 hm hk
      exact wpAny_tests_nil ⟨rfl, keeps_refl⟩
    · intro C v s₃ m₃ E' hC hv _ hn3 hm hk
      obtain ⟨x, hc⟩ : ∃ x, ky v = .str x 0 := hdom v hv
      obtain ⟨tv, rfl⟩ := ky_str hc
      dsimp only at hk
      have G₃ : Gl mg mb s₃.heap := G₁.keeps hk
      refine call_fn (i := 2) G₃ ⟨rfl, rfl, rfl⟩ (by decide) rfl rfl (args_cons (ld1 ⟨rfl, rfl, rfl⟩ hn3 hm (args_cons (name_cell (c := L + 1) ⟨rfl, rfl, rfl⟩ rfl (cL.keeps hk) (args_nil ⟨Kp.rfl', fun a ha => cmp_spec G₃ ha rd fun h' tk' tk'' k' => ⟨⟨tk', rfl⟩, keeps_to k'⟩⟩)))))
    · intro D h' tk' ys nD pD hF hk
      refine hQ D h' tk' ys (up nD) pD ?_ (Kp.trans F.keep hk)
      clear hQ pD pl pl₁ hz
      rw [List.filter_eq_self.mpr (fun _ _ => rfl)] at hF
      induction hF with
      | nil => rfl
      | cons a _ ih =>
        rename_i v y vs ys _
        obtain ⟨x, hc⟩ : ∃ x, ky v = .str x 0 := hdom v (.head _)
        obtain ⟨tv, rfl⟩ := ky_str hc
        obtain ⟨ty, rfl⟩ := a
        have ih := ih fun v hv => hdom v (.tail _ hv)
        rw [List.map_cons, List.map_cons, List.flatMap_cons, ← ih]
        rfl
  · obtain rfl : n = 0 := by omega
    refine wpAny_execs_cons (wpAny_Return_some (sub_all (ld1 (fenvC rfl) F.ns rfl ⟨l, vs, rfl, pl₁, by omega, fun D h' k' nD pD => ?_⟩)))
    refine hQ D h' _ vs (up nD) pD ?_ (Kp.trans F.keep k')
    clear hQ pD pl pl₁ hz hdom
    induction vs with
    | nil => rfl
    | cons v vs ih =>
      rw [List.map_cons, List.flatMap_cons, ← ih]
      unfold stK
      rfl
end
end Mine

namespace Mine
open PySem PySem.W PySem.Calls PyProof.Rows
section
variable {prog : Program} {w : World} {A : Around} {E : Value → Shared → Prop} {s : Shared} {Q : Value → Shared → Prop}

theorem fold_rep (n : Nat) (v : Value) : List.foldl (fun x1 x2 => x1 ++ x2) (#[] : Array Value) (List.replicate n #[v]) = (List.replicate n v).toArray := by
  have : ∀ n (a : List Value), List.foldl (fun x1 x2 => x1 ++ x2) a.toArray (List.replicate n #[v]) = (a ++ List.replicate n v).toArray := by
    intro n
    induction n with
    | zero => intro a; simp
    | succ n ih =>
      intro a
      rw [List.replicate_succ, List.foldl_cons, List.replicate_succ]
      have : a.toArray ++ #[v] = (a ++ [v]).toArray := by simp
      rw [this, ih]
      simp
  simpa using this n []
/-- [v] * n -/
theorem pl_mul1 {l : Addr} {v : Value} {n : Nat} {i : Int} {u : Tok} (pl : PL s.heap l [v]) (hi : i = (n : Int)) (hz : n ≤ 500)
    (h : ∀ D h', Kp s.heap h' → s.heap.get? D = none → PL h' D (List.replicate n v) → Q (.ref D) { s with heap := h' }) : wpAny (model prog w) A (binaryOp .Mult (.ref l) (.int i u)) Q E s := by
  obtain ⟨k, hl⟩ := pl
  have e2 : ((if [v].toArray.isEmpty = true then 0 else i.toNat)) = n := by simp; omega
  refine wpAny_binaryOp_repeat_ref (T := "list") (U := "int") (by decide) ⟨_, hl, rfl⟩ (fun s' => typeIs_int s' i u) noFill_list_mul PySem.F.fills_int_mul PySem.F.slot_int_rmul repeat_list PySem.F.slot_int_index.lookup
    (call_meets PySem.F.slot_int_rmul (typeIs_int s i u) PySem.F.entry_int_rmul (PySem.F.args_int_rmul_2 _ _) (int___rmul___int_list i u l _ k)
      ⟨hl, rfl, ⟨_, hl, rfl⟩, call_meets PySem.F.slot_list_mul ⟨_, hl, rfl⟩ PySem.F.entry_list_mul (PySem.F.args_list_mul_2 _ _)
        (AutoListH.list___mul___list_int_3 l [v].toArray k i u ?a1 ?a2 ?a3) ⟨hl, ?a4⟩⟩)
  case a1 => simp [Builtin.List.listFitsIndex]; omega
  case a2 => rw [show #[v].size = 1 from rfl]; omega
  case a3 => simp [Builtin.List.listTooLong, sizeLine]; omega
  case a4 =>
    refine h _ _ (fun _ _ e => Heap.get?_push_of_some _ e) fresh_none ⟨0, ?_⟩
    rw [Heap.get?_push_size _ rfl, e2, ← fold_rep n v]
/-- a += b, of lists -/
theorem pl_iadd {l b : Addr} {vs ws : List Value} (pl : PL s.heap l vs) (pb : PL s.heap b ws) (hz : vs.length + ws.length ≤ 1000)
    (h : ∀ h', PL h' l (vs ++ ws) → Heap.SameBut l s.heap h' → Q (.ref l) { s with heap := h' }) : wpAny (model prog w) A (inplaceOp .Add (.ref l) (.ref b)) Q E s := by
  have tl := pl_type pl
  have tb := pl_type pb
  unfold inplaceOp
  refine wpAny_holding ?_
  have hfi : fillsInplaceSlot (.type "list") "add" (Operator.Add == .Add) = pure false := by
    unfold fillsInplaceSlot
    show (typeLookup (.type "list") (dunderI "add") >>= fun fi => pure (fi.isSome && !isSeqSlot fi)) = pure false
    rw [PySem.F.slot_list_iadd.lookup]
    rw [pure_bind, show isSeqSlot (some (.builtin "list.__iadd__")) = true by decide +kernel]
    rfl
  have hsi : seqSlot? (.type "list") (dunderI "add") = pure (some (.builtin "list.__iadd__"))   := PySem.seqSlot_of PySem.F.slot_list_iadd.lookup (by decide +kernel)
  refine wpAny_bind (wpAny_typeOf tl (wpAny_bind (wpAny_of_eq hfi ?_)))
  show wpAny _ A (if false = true then _ else _) Q E s
  rw [if_neg Bool.false_ne_true]
  refine wpAny_bind (wpAny_binaryOp1_none (nm := "add") tl tb noFill_list_add ?_)
  refine wpAny_bind (wpAny_of_eq hsi ?_)
  refine wpAny_bind (wpAny_rule ?_)
  obtain ⟨n, hl⟩ := pl
  obtain ⟨n2, hb⟩ := pb
  refine call_meets PySem.F.slot_list_iadd tl PySem.F.entry_list_iadd (PySem.F.args_list_iadd_2 _ _) (AutoSeq1.list___iadd___list_list_0 l _ n b _ n2 (by simp [Builtin.List.listTooLong, sizeLine]; omega) (by rw [sizeLine_eq]; simp; omega) (by rw [sizeLine_eq]; simp; omega)) ⟨hl, hb, h _ ?_ (Heap.SameBut.update ..)⟩
  rcases ws with _ | ⟨y, ws⟩
  · refine ⟨n, ?_⟩
    rw [Heap.get?_update_self _ hl (by rfl)]
    unfold Obj.mapSeq
    simp
  · refine ⟨n + 1, ?_⟩
    rw [Heap.get?_update_self _ hl (by rfl)]
    unfold Obj.mapSeq
    simp
/-- a + b, of lists -/
theorem pl_add {l b : Addr} {vs ws : List Value} (pl : PL s.heap l vs) (pb : PL s.heap b ws) (hz : vs.length + ws.length ≤ 1000)
    (h : ∀ D h', Kp s.heap h' → s.heap.get? D = none → PL h' D (vs ++ ws) → Q (.ref D) { s with heap := h' }) : wpAny (model prog w) A (binaryOp .Add (.ref l) (.ref b)) Q E s := by
  obtain ⟨n, hl⟩ := pl
  obtain ⟨n2, hb⟩ := pb
  refine P.add_list hl hb (h _ _ (fun _ _ e => Heap.get?_push_of_some _ e) fresh_none ⟨0, ?_⟩) (by rw [sizeLine_eq]; simp; omega)
  rw [Heap.get?_push_size _ rfl]
  simp
/-- list(range(a, b)) -/
theorem pl_list_range {a b : Int} {n : Nat} {t u : Tok} (hh : A.handled = none) (hn : b = a + n) (hz : n ≤ 1000) (ha : 0 ≤ a ∧ a ≤ 1000000)
    (h : ∀ D h' tk vs, Kp s.heap h' → s.heap.get? D = none → PL h' D vs → vs.map ky = (List.range n).map (fun i : Nat => Value.int (a + (i : Int)) 0) → Q (.ref D) { s with heap := h', toks := tk }) :
    wpAny (model prog w) A (call (.type "range") [.int a t, .int b u]) (fun r s₁ => wpAny (model prog w) A (call (.type "list") [r]) Q E s₁) E s := by
  subst hn
  refine call_range_2 ?_
  refine call_list_range (n := n) hh (IsRange.new ..) (small_one (by omega) (by omega) (by omega) (by omega)) ?_ (by omega) ?_
  · unfold Builtin.Range.rangeSize
    rw [if_pos (by decide)]
    split
    · rw [Int.ediv_one]; omega
    · omega
  · intro h' tk acc' c' k g it
    dsimp only at k g it ⊢
    refine h _ h' tk acc'.toList (fun b o e => k b o (Heap.get?_push_of_some _ e)) ?_ ⟨c', by simpa using g⟩ ?_
    · exact Heap.get?_none_of_le (by rw [Heap.size_push]; omega)
    · obtain ⟨z, hP⟩ := it
      apply List.ext_getElem?
      intro i
      rw [List.getElem?_map, List.getElem?_map]
      by_cases hi : i < n
      · have hi' : i < acc'.size := by omega
        obtain ⟨t', e⟩ := hP i acc'[i] (by simp [hi'])
        rw [List.getElem?_range hi]
        have : acc'.toList[i]? = some acc'[i] := by simp [hi']
        rw [this, e]
        simp [ky]
      · rw [List.getElem?_eq_none (by simp; omega), List.getElem?_eq_none (by simp; omega)]
        rfl
end
end Mine

namespace Mine
open PySem PySem.W PySem.Calls PyProof.Rows

/-- the sign that a number stands for, and what it means -/
def signOf (v : Nat) : Nat × Str := if v % 16 < 14 then stock14.getD (v % 16) (0, Str.empty) else ((b1L.getD (v / 64 % 27) 0).toNat, Str.empty)

theorem up_none {h h' : Heap} {D : Addr} (k : Kp h h') (e : h'.get? D = none) : h.get? D = none := by
  cases q : h.get? D with
  | none => rfl
  | some o => have := k _ _ q; rw [e] at this; cases this

section
variable {prog : Program} {w : World} {A : Around} {E : Value → Shared → Prop} {s : Shared} {mg mb : Str → Option Value} {env : Env} {Q : Value → Shared → Prop}

def IsPair (h : Heap) (v : Value) (p : Nat × Str) : Prop := ∃ a t u, v = .ref a ∧ TP h a [.str (sg p.1) t, .str p.2 u]
theorem IsPair.keep {h h' : Heap} {v : Value} {p : Nat × Str} (x : IsPair h v p) (k : Kp h h') : IsPair h' v p := let ⟨a, t, u, e, r⟩ := x; ⟨a, t, u, e, k _ _ r⟩
def MakesPair (prog : Program) (w : World) (A : Around) (mg mb : Str → Option Value) (env : Env) (e : Expr) (p : Nat × Str) : Prop :=
  (∀ rest, starEach (e :: rest) env = (false, eval e env) :: starEach rest env) ∧ ∀ (s : Shared) (Q E : Value → Shared → Prop), Gl mg mb s.heap → (∀ v h' tk, Kp s.heap h' → IsPair h' v p → Q v { s with heap := h', toks := tk }) → wpAny (model prog w) A (eval e env) Q E s

theorem args_pairs {es : List Expr} {ps : List (Nat × Str)} {pos : Pos} (P : Paired (MakesPair prog w A mg mb env) es ps) : ∀ {s : Shared} {Q : List Value → Shared → Prop}, Gl mg mb s.heap →
    (∀ h' tk vs, Kp s.heap h' → Paired (IsPair h') vs ps → Q vs { s with heap := h', toks := tk }) → wpAny (model prog w) A (spliced (backTo pos (starEach es env))) Q E s := by
  induction P with
  | nil => intro s Q _ h; exact args_nil (h s.heap s.toks [] Kp.rfl' .nil)
  | cons a _ ih =>
    intro s Q G h
    refine args_cons (a.2 s _ _ G fun v h' tk k hv => ?_) (a.1 _)
    refine ih (G.keeps k) fun h'' tk' vs k' hvs => ?_
    exact h h'' tk' (v :: vs) (k.trans k') (.cons (hv.keep k') hvs)

theorem makes_chr {i : Int} {c : Nat} {m : Str} {np p1 p2 p3 pos : Pos} {k1 k2 k : Nat} (fe : FEnv env) (hk : env.kindOf "chr" = some .globalImplicit) (hi : 0 ≤ i ∧ i ≤ 1114111) (hc : i.toNat = c) :
    MakesPair prog w A mg mb env (.Tuple [.Call (.Name "chr" np) [.Constant (.int i) k1 p1] [] p2, .Constant (.str m) k2 p3] k pos) (c, m) := by
  refine ⟨fun _ => rfl, fun s Q E G h => ?_⟩
  subst hc
  refine Tuple_ (args_cons (call_bi G fe hk (by decide +kernel) (by kernel_rfl) (wpAny_Constant_int (chr_of_range hi.1 hi.2 ?_))))
  refine args_cons (wpAny_Constant_str (args_nil (tp_new (by simp) fun h' k' t' z' => ?_)))
  exact h _ _ _ k' ⟨_, _, _, rfl, t'⟩
theorem makes_two {c : Nat} {x m : Str} {p1 p3 pos : Pos} {k1 k2 k : Nat} (hx : x = sg c) :
    MakesPair prog w A mg mb env (.Tuple [.Constant (.str x) k1 p1, .Constant (.str m) k2 p3] k pos) (c, m) := by
  refine ⟨fun _ => rfl, fun s Q E G h => ?_⟩
  subst hx
  refine Tuple_ (args_cons (wpAny_Constant_str (args_cons (wpAny_Constant_str (args_nil (tp_new (by simp) fun h' k' t' z' => ?_))))))
  exact h _ _ _ k' ⟨_, _, _, rfl, t'⟩

/-- a display of written numbers -/
def intsOf : List Expr → Option (List Int)
  | [] => some []
  | .Constant (.int n) _ _ :: r => (intsOf r).map (n :: ·)
  | _ => none
theorem args_ints {pos : Pos} : ∀ {es : List Expr} {ns : List Int}, intsOf es = some ns → ∀ {s : Shared} {Q : List Value → Shared → Prop},
    (∀ tk vs, vs.map ky = ns.map (fun n => Value.int n 0) → Q vs { s with toks := tk }) → wpAny (model prog w) A (spliced (backTo pos (starEach es env))) Q E s := by
  intro es
  induction es with
  | nil => intro ns h s Q hQ; cases h; exact args_nil (hQ s.toks [] rfl)
  | cons e r ih =>
    intro ns h s Q hQ
    unfold intsOf at h
    split at h
    · rename_i heq; cases heq
    · rename_i n k p r' heq
      cases heq
      obtain ⟨ms, hm, rfl⟩ := Option.map_eq_some_iff.mp h
      refine args_cons (wpAny_Constant_int (ih hm fun tk vs hv => hQ _ _ ?_))
      rw [List.map_cons, List.map_cons, hv]; rfl
    · cases h

theorem paired_get {α β : Type} {F : α → β → Prop} : ∀ {l : List α} {r : List β}, Paired F l r → ∀ (i : Nat) (b : β), r[i]? = some b → ∃ a, l[i]? = some a ∧ F a b
  | _, _, .nil, i, b, h => by simp at h
  | _, _, .cons h0 t, 0, b, h => by simp at h; subst h; exact ⟨_, rfl, h0⟩
  | _, _, .cons h0 t, i + 1, b, h => paired_get t i b (by simpa using h)

set_option maxHeartbeats 2000000 in
theorem sign_spec {f : Addr} {v : Nat} {t : Tok} {rm : Nat} (G : Gl mg mb s.heap) (hf : mg "_law_sign" = some (.ref f)) (r : Room A (rm + 1)) (hv : v < 1000000)
    (hQ : ∀ a h' tk t u, TP h' a [.str (sg (signOf v).1) t, .str (signOf v).2 u] → Kp s.heap h' → Q (.ref a) { s with heap := h', toks := tk }) :
    wpAny (model prog w) A (call (.ref f) [.int v t]) Q E s := by
  refine enter (i := 9) (binds := [("v", .int v t)]) G (by decide) hf r (by intros; rfl) rfl rfl rfl fun h₁ cd F => ?_
  generalize hL : s.heap.objs.size = L at F ⊢
  have nL : s.heap.get? L = none := by rw [← hL]; exact fresh_none
  have G₁ : Gl mg mb h₁ := G.keeps F.keep
  have hd : (A.deeper (envOf (fN (stm 9)) (fS (stm 9)) L f cd)).handled = none := (r.deeper _).handled
  -- stock
  refine wpAny_execs_cons (wpAny_Assign_Name (List_ (args_pairs (ps := stock14) ?_ G₁ fun h₂ tk₂ vs k₂ P₂ => ?_)))
  · have ch : ∀ {i : Int} {c : Nat} {m : Str} {np p1 p2 p3 pos : Pos} {k1 k2 k : Nat}, (0 ≤ i ∧ i ≤ 1114111) → i.toNat = c → MakesPair prog w (A.deeper (envOf (fN (stm 9)) (fS (stm 9)) L f cd)) mg mb (envOf (fN (stm 9)) (fS (stm 9)) L f cd) (.Tuple [.Call (.Name "chr" np) [.Constant (.int i) k1 p1] [] p2, .Constant (.str m) k2 p3] k pos) (c, m) := fun hi hc => makes_chr (fenv rfl) rfl hi hc
    refine .cons (makes_two rfl) ?_
    refine .cons (ch (by decide) rfl) ?_
    refine .cons (ch (by decide) rfl) ?_
    refine .cons (ch (by decide) rfl) ?_
    refine .cons (ch (by decide) rfl) ?_
    refine .cons (ch (by decide) rfl) ?_
    refine .cons (ch (by decide) rfl) ?_
    refine .cons (ch (by decide) rfl) ?_
    refine .cons (ch (by decide) rfl) ?_
    refine .cons (ch (by decide) rfl) ?_
    refine .cons (ch (by decide) rfl) ?_
    refine .cons (makes_two rfl) ?_
    refine .cons (ch (by decide) rfl) ?_
    refine .cons (ch (by decide) rfl) ?_
    exact .nil
  have hvl : vs.length = 14 := P₂.length
  refine pl_new (by omega) fun h₃ k₃ pS z₃ => ?_
  dsimp only at k₂ k₃ pS z₃ ⊢
  generalize hS : h₂.objs.size = S at pS z₃ ⊢
  have nS : h₂.get? S = none := by rw [← hS]; exact fresh_none
  have SL : S ≠ L := fun q => by obtain ⟨_, _, _, z, _⟩ := F.ns.keeps k₂; rw [← q, nS] at z; cases z
  refine st1 (fenv rfl) ((F.ns.keeps k₂).keeps k₃) fun h₄ n₄ b₄ => ?_
  change Heap.SameBut L h₃ h₄ at b₄
  change h₄.Ns L _ at n₄
  have kp₄ : Kp s.heap h₄ := fun b o e => (b₄.2 b (ne_none e nL)).trans (k₃ b o (k₂ b o (F.keep b o e)))
  have pS₄ : PL h₄ S vs := PL.but pS b₄ SL
  have G₄ : Gl mg mb h₄ := G.keeps kp₄
  have P₄ : Paired (IsPair h₄) vs stock14 := by
    clear hvl pS pS₄
    generalize stock14 = ps at P₂ ⊢
    induction P₂ with
    | nil => exact .nil
    | cons a _ ih =>
      refine .cons ?_ ih
      obtain ⟨a, t, u, e, x⟩ := a.keep k₃
      refine ⟨a, t, u, e, (b₄.2 a fun q => ?_).trans x⟩
      obtain ⟨_, _, _, z, hdd, _⟩ := (F.ns.keeps k₂).keeps k₃
      rw [← q, x] at z; cases z; cases hdd
  -- nothing
  refine wpAny_execs_cons ?_
  refine wpAny_Assign_Name ?_
  refine wpAny_BinOp ?_
  refine List_ ?_
  refine args_ints (ns := b1L.take 11) rfl fun tk₄ us₀ e₀ => pl_new ?_ fun h₅ k₅ p₅ z₅ => ?_
  · have := congrArg List.length e₀
    rw [List.length_map, List.length_map] at this
    rw [this]; decide
  dsimp only at k₅ p₅ z₅ ⊢
  generalize h₄.objs.size = N1 at p₅ z₅ ⊢
  have G₅ : Gl mg mb h₅ := G₄.keeps k₅
  refine wpAny_Call_NameR (name_builtin (v := .type "list") G₅ (fenv rfl) rfl (by decide +kernel) (by kernel_rfl) (PyProof.Rows.callWith_type1 (args_cons ?_)))
  refine wpAny_Call_NameR (name_builtin (v := .type "range") G₅ (fenv rfl) rfl (by decide +kernel) (by kernel_rfl) (PyProof.Rows.callWith_type1 (args_cons (wpAny_Constant_int (args_cons (wpAny_Constant_int (args_nil ?_)))))))
  refine wpAny_mono (pl_list_range (n := 16) hd (by decide) (by decide) (by decide) fun D h₆ tk₆ ws k₆ nD p₆ e₆ => ?_) (fun r s₁ x => args_nil x) fun _ _ x => x
  dsimp only at k₆ nD ⊢
  refine pl_add (PL.keep p₅ k₆) p₆ ?_ fun D' h₇ k₇ nD' p₇ => ?_
  · have h1 := congrArg List.length e₆
    have h2 := congrArg List.length e₀
    rw [List.length_map, List.length_map] at h1 h2
    rw [h1, h2]; decide
  dsimp only at k₇ nD' ⊢
  have k47 : Kp h₄ h₇ := k₅.trans (k₆.trans k₇)
  have D'L : D' ≠ L := fun q => by obtain ⟨_, _, _, z, _⟩ := n₄.keeps (k₅.trans k₆); rw [← q, nD'] at z; cases z
  refine st1 (fenv rfl) (n₄.keeps k47) fun h₈ n₈ b₈ => ?_
  change Heap.SameBut L h₇ h₈ at b₈
  change h₈.Ns L _ at n₈
  have kp₈ : Kp s.heap h₈ := fun b o e => (b₈.2 b (ne_none e nL)).trans (k47 b o (kp₄ b o e))
  have pS₈ : PL h₈ S vs := PL.but (PL.keep pS₄ k47) b₈ SL
  have G₈ : Gl mg mb h₈ := G.keeps kp₈
  have p₈ := PL.but p₇ b₈ D'L
  have q₈ : (us₀ ++ ws).map ky = b1L.map (fun i => Value.int i 0) := by rw [List.map_append, e₀, e₆]; rfl
  generalize us₀ ++ ws = us at p₈ q₈
  refine wpAny_execs_cons (wpAny_If (wpAny_isTrue_Compare1 (wpAny_BinOp (ld1 (fenv rfl) n₈ rfl (wpAny_Constant_int (PyProof.Rows.mod_int (by decide) (wpAny_Constant_int (PyProof.Rows.lt_int (wpAny_truthy_bool ?_)))))))))
  have m16 : Int.fmod (v : Int) 16 = ((v % 16 : Nat) : Int) := by rw [Int.fmod_eq_emod_of_nonneg _ (by decide)]; omega
  by_cases hc : v % 16 < 14
  · rw [if_pos (by rw [m16]; exact decide_eq_true (by omega))]
    obtain ⟨x, hx, hP⟩ := paired_get P₄ (v % 16) (stock14.getD (v % 16) (0, Str.empty)) (by
      have : v % 16 < stock14.length := hc
      rw [List.getD_eq_getElem?_getD, List.getElem?_eq_getElem this]; rfl)
    refine wpAny_execs_cons (wpAny_Return_some (wpAny_Subscript_BinOp_late (ld1 (fenv rfl) n₈ rfl (wpAny_BinOp (ld1 (fenv rfl) n₈ rfl (wpAny_Constant_int (PyProof.Rows.mod_int (by decide) ?_)))))))
    rw [m16]
    obtain ⟨a, t1, t2, rfl, ha⟩ := hP
    refine on_list pS₈ (by omega) hx (hQ a h₈ _ t1 t2 ?_ kp₈)
    have hsg : signOf v = stock14.getD (v % 16) (0, Str.empty) := by unfold signOf; rw [if_pos hc]
    rw [hsg]
    refine (b₈.2 a fun q => ?_).trans (k47 _ _ ha)
    obtain ⟨_, _, _, z, hdd, _⟩ := n₄
    rw [← q, ha] at z; cases z; cases hdd
  · rw [if_neg (by rw [m16]; simp only [decide_eq_true_eq]; omega)]
    refine wpAny_execs_nil (wpAny_execs_cons (wpAny_Return_some (Tuple_ (args_cons (call_bi (id := "chr") G₈ (fenv rfl) rfl (by decide +kernel) (by kernel_rfl) ?_)))))
    refine wpAny_Subscript_BinOp_late (ld1 (fenv rfl) n₈ rfl (wpAny_BinOp (wpAny_BinOp (ld1 (fenv rfl) n₈ rfl (wpAny_Constant_int (PyProof.Rows.floordiv_int (by decide) (wpAny_Constant_int (PyProof.Rows.mod_int (by decide) ?_)) ?_))))))
    · have e27 : Int.fmod (Int.fdiv (v : Int) 64) 27 = ((v / 64 % 27 : Nat) : Int) := by
        rw [Int.fdiv_eq_ediv_of_nonneg _ (by decide), Int.fmod_eq_emod_of_nonneg _ (by decide)]; omega
      rw [e27]
      have hlt : v / 64 % 27 < us.length := by
        have := congrArg List.length q₈
        rw [List.length_map, List.length_map] at this
        rw [this]; exact Nat.mod_lt _ (by decide)
      have hu : us[v / 64 % 27]? = some us[v / 64 % 27] := List.getElem?_eq_getElem hlt
      have hk : ky us[v / 64 % 27] = .int (b1L.getD (v / 64 % 27) 0) 0 := by
        have := congrArg (fun l => l[v / 64 % 27]?) q₈
        simp only [List.getElem?_map, hu, Option.map_some] at this
        have h27 : v / 64 % 27 < b1L.length := Nat.mod_lt _ (by decide)
        rw [List.getElem?_eq_getElem h27] at this
        rw [List.getD_eq_getElem?_getD, List.getElem?_eq_getElem h27]
        simpa using this
      obtain ⟨tu, eu⟩ : ∃ t, us[v / 64 % 27] = .int (b1L.getD (v / 64 % 27) 0) t := by
        generalize us[v / 64 % 27] = z at hk
        cases z <;> simp [ky] at hk
        subst hk; exact ⟨_, rfl⟩
      rw [eu] at hu
      have hb : ∀ x ∈ b1L, 0 ≤ x ∧ x ≤ 1114111 := by decide
      have h27 : v / 64 % 27 < b1L.length := Nat.mod_lt _ (by decide)
      have hr := hb (b1L.getD (v / 64 % 27) 0) (by rw [List.getD_eq_getElem?_getD, List.getElem?_eq_getElem h27]; exact List.getElem_mem h27)
      refine on_list p₈ ?_ hu (chr_of_range hr.1 hr.2 ?_)
      · have := congrArg List.length q₈
        rw [List.length_map, List.length_map] at this
        rw [this]; decide
      refine args_cons (wpAny_Constant_str (args_nil (tp_new (by simp) fun h₉ k₉ t₉ z₉ => ?_)))
      have hsg : signOf v = ((b1L.getD (v / 64 % 27) 0).toNat, Str.empty) := by unfold signOf; rw [if_neg hc]
      have t₉' : ∀ x y : Nat × Str, x = y → ∀ {a t u}, TP h₉ a [.str (sg y.1) t, .str y.2 u] → TP h₉ a [.str (sg x.1) t, .str x.2 u] := fun _ _ e _ _ _ z => e ▸ z
      exact hQ _ h₉ _ _ _ (t₉' _ _ hsg t₉) (kp₈.trans k₉)
    · left
      rfl
end
end Mine

namespace Mine
open PySem PySem.W PySem.Calls PyProof.Rows

/-- names set one after the other -/
def setL (m : Str → Option Value) : List (Str × Value) → Str → Option Value
  | [] => m
  | (x, v) :: r => setL (fun z => if z = x then some v else m z) r
def namesOf : List Expr → Option (List Str)
  | [] => some []
  | .Name x _ :: r => (namesOf r).map (x :: ·)
  | _ => none

section
variable {prog : Program} {w : World} {A : Around} {E : Value → Shared → Prop} {s : Shared} {mg mb : Str → Option Value} {env : Env} {m : Str → Option Value}

theorem store_all (fe : FEnv env) : ∀ {elts : List Expr} {xs : List Str} {vs : List Value} {s : Shared} {m : Str → Option Value} {Q : Unit → Shared → Prop}, namesOf elts = some xs → (∀ x ∈ xs, env.kindOf x = some .local) → vs.length = xs.length → s.heap.Ns env.locals m →
    (∀ h' tk, h'.Ns env.locals (setL m (xs.zip vs)) → (∀ b o, b ≠ env.locals → s.heap.get? b = some o → h'.get? b = some o) → Q () { s with heap := h', toks := tk }) →
    wpAny (model prog w) A (assignInOrder (List.map (fun x => x.2) (assignEach elts env)) vs) Q E s := by
  intro elts
  induction elts with
  | nil =>
    intro xs vs s m Q hx _ hl hn h
    cases hx
    exact assignInOrder_nil (h s.heap s.toks hn fun _ _ _ e => e)
  | cons e r ih =>
    intro xs vs s m Q hx hk hl hn h
    unfold namesOf at hx
    split at hx
    · rename_i heq; cases heq
    · rename_i x p r' heq
      cases heq
      obtain ⟨ys, hy, rfl⟩ := Option.map_eq_some_iff.mp hx
      rcases vs with _ | ⟨v, vs⟩
      · simp at hl
      show wpAny _ A (assignInOrder (assign (.Name x p) env :: List.map (fun x => x.2) (assignEach r env)) (v :: vs)) Q E s
      refine assignInOrder_cons (wpAny_assign_Name (st1 fe hn (fun h₁ n₁ b₁ => ?_) (hk x (.head _))))
      refine ih hy (fun y hy => hk y (.tail _ hy)) (by simpa using hl) n₁ fun h₂ tk n₂ k₂ => ?_
      exact h h₂ tk n₂ fun b o hb e => k₂ b o hb (b₁.extBut b o hb e)
    · cases hx
theorem assignEach_len : ∀ {elts : List Expr} {xs : List Str}, namesOf elts = some xs → (assignEach elts env).length = xs.length ∧ (assignEach elts env).findIdx? (fun x => x.1) = none := by
  intro elts
  induction elts with
  | nil => intro xs hx; cases hx; exact ⟨rfl, rfl⟩
  | cons e r ih =>
    intro xs hx
    unfold namesOf at hx
    split at hx
    · rename_i heq; cases heq
    · rename_i x p r' heq
      cases heq
      obtain ⟨ys, hy, rfl⟩ := Option.map_eq_some_iff.mp hx
      obtain ⟨h1, h2⟩ := ih hy
      refine ⟨?_, ?_⟩
      · show (assignEach r env).length + 1 = ys.length + 1
        rw [h1]
      · show List.findIdx? (fun x => x.1) ((false, assign (.Name x p) env) :: assignEach r env) = none
        rw [List.findIdx?_cons, if_neg (by simp), h2]; rfl
    · cases hx
/-- x, y, .. = a tuple -/
theorem un_tuple {elts : List Expr} {xs : List Str} {k : Nat} {pos : Pos} {t : Addr} {vs : List Value} {Q : Unit → Shared → Prop} (fe : FEnv env) (hh : A.handled = none) (ht : TP s.heap t vs) (hx : namesOf elts = some xs) (hk : (xs.all fun x => decide (env.kindOf x = some .local)) = true) (hl : vs.length = xs.length)
    (hn : s.heap.Ns env.locals m) (h : ∀ h' tk, h'.Ns env.locals (setL m (xs.zip vs)) → (∀ b o, b ≠ env.locals → s.heap.get? b = some o → h'.get? b = some o) → Q () { s with heap := h', toks := tk }) :
    wpAny (model prog w) A (assign (.Tuple elts k pos) env (.ref t)) Q E s := by
  have hs : ∀ h' : Heap, Heap.ExtBut s.heap.objs.size s.heap h' → Kp s.heap h' := fun h' he b o e => he b o (fresh_ne e) e
  refine wpAny_assign_Tuple (items := vs.toArray) hh ⟨_, ht, rfl, _, rfl⟩ ?_ (assignEach_len hx).2 fun h' he => ?_
  · rw [(assignEach_len hx).1, ← hl]; simp
  · refine store_all fe (vs := vs.toArray.toList) hx (fun x q => of_decide_eq_true (List.all_eq_true.mp hk x q)) (by simpa using hl) (hn.keeps (hs h' he)) fun h₂ tk n₂ k₂ => ?_
    exact h h₂ tk (by simpa using n₂) fun b o hb e => k₂ b o hb (hs h' he b o e)
/-- the same, with the stores swapped -/
theorem un_swapped {names : List Str} {t : Addr} {vs : List Value} {Q : Unit → Shared → Prop} (fe : FEnv env) (hh : A.handled = none) (ht : TP s.heap t vs) (hk : (names.all fun x => decide (env.kindOf x = some .local)) = true) (hl : vs.length = names.length)
    (hn : s.heap.Ns env.locals m) (h : ∀ h' tk, h'.Ns env.locals (setL m (names.reverse.zip vs.reverse)) → (∀ b o, b ≠ env.locals → s.heap.get? b = some o → h'.get? b = some o) → Q () { s with heap := h', toks := tk }) :
    wpAny (model prog w) A (unpackItems (.ref t) names.length none) (fun items s₂ => wpAny (model prog w) A (assignInOrder (List.map (fun n => bindName env n) names.reverse) items.reverse) Q E s₂) E s := by
  have hs : ∀ h' : Heap, Heap.ExtBut s.heap.objs.size s.heap h' → Kp s.heap h' := fun h' he b o e => he b o (fresh_ne e) e
  have key : ∀ (ns : List Str) (us : List Value) (s : Shared) (m : Str → Option Value) (Q : Unit → Shared → Prop), us.length = ns.length → (∀ x ∈ ns, env.kindOf x = some .local) → s.heap.Ns env.locals m →
      (∀ h' tk, h'.Ns env.locals (setL m (ns.zip us)) → (∀ b o, b ≠ env.locals → s.heap.get? b = some o → h'.get? b = some o) → Q () { s with heap := h', toks := tk }) → wpAny (model prog w) A (assignInOrder (List.map (fun n => bindName env n) ns) us) Q E s := by
    intro ns
    induction ns with
    | nil => intro us s m Q _ _ hn h; exact assignInOrder_nil (h s.heap s.toks hn fun _ _ _ e => e)
    | cons x ns ih =>
      intro us s m Q hl hk hn h
      rcases us with _ | ⟨v, us⟩
      · simp at hl
      refine assignInOrder_cons ?_
      show wpAny _ A (bindName env x v) _ E s
      refine wpAny_bindName (st1 fe hn (fun h₁ n₁ b₁ => ?_) (hk x (.head _)))
      refine ih us _ _ _ (by simpa using hl) (fun y hy => hk y (.tail _ hy)) n₁ fun h₂ tk n₂ k₂ => ?_
      exact h h₂ tk n₂ fun b o hb e => k₂ b o hb (b₁.extBut b o hb e)
  have e : names.length = vs.toArray.size := by simp [hl]
  rw [e]
  refine wpAny_unpackItems_tuple hh ⟨_, ht, rfl, _, rfl⟩ fun h' he => ?_
  refine key _ _ _ _ _ (by simpa using hl) (fun x q => of_decide_eq_true (List.all_eq_true.mp hk x (by simpa using q))) (hn.keeps (hs h' he)) fun h₂ tk n₂ k₂ => ?_
  exact h h₂ tk (by simpa using n₂) fun b o hb e => k₂ b o hb (hs h' he b o e)

theorem on_tuple {l : Addr} {vs : List Value} {k : Nat} {t : Tok} {v : Value} {Q : Value → Shared → Prop} (tp : TP s.heap l vs) (hz : vs.length ≤ 1000) (hv : vs[k]? = some v) (h : Q v s) : SubscriptOn (model prog w) A (.ref l) (.int (k : Nat) t) Q E s := by
  have hk := (List.getElem?_eq_some_iff.mp hv).1
  refine ⟨"tuple", "tuple.__getitem__", PySem.F.slot_tuple_getitem.lookup, ⟨_, tp, rfl⟩, PyProof.Rows.getItem_tuple (j := k) (x := v) ⟨_, tp, rfl, _, rfl⟩ (by omega) (by omega) ?_ (by simpa using hv) h⟩
  unfold seqIndex?
  simp
  omega

/-- a subscript on a value that the walk keeps no name of -/
theorem sub_tmp {value l r : Expr} {op : Operator} {p pos : Pos} {Q : Value → Shared → Prop} (h : wpAny (model prog w) A (eval value env) (fun o s₁ => wpAny (model prog w) A (eval (.BinOp l op r p) env) (fun i s₂ => SubscriptOn (model prog w) A o i Q E s₂) E s₁) E s) :
    wpAny (model prog w) A (eval (.Subscript value (.BinOp l op r p) pos) env) Q E s := by
  rw [eval_Subscript]
  refine wpAny_bind (wpAny_mono h (fun o s₁ h₁ => wpAny_bind (wpAny_holding (wpAny_mono h₁ (fun i s₂ h₂ => wpAny_bind (wpAny_standAt ?_)) fun _ _ x => x))) fun _ _ x => x)
  obtain ⟨T, id, hl, hT, hg⟩ := h₂
  refine wpAny_bind ?_
  rw [getitemInPython_of_ne hT.not_modules]
  refine wpAny_bind (wpAny_specialOf hT hl ?_)
  have fin : wpAny (model prog w) A (operate [o, i] (getItem o i)) (fun r s₃ => wpAny (model prog w) A (letTemporaryGo value o r >>= fun _ => pure r) Q E s₃) E s₂ :=
    wpAny_operating (wpAny_mono hg (fun r s₃ h₃ => wpAny_bind (wpAny_letTemporaryGo (wpAny_pure h₃))) fun _ _ x => x)
  first
    | exact wpAny_pure (wpAny_bind fin)
    | exact wpAny_bind (wpAny_pure (wpAny_bind fin))

/-- a for loop over an iterator of the list's kind -/
theorem for_walk {R : Result → Shared → Prop} {target : Expr} {body : List Stmt} {I : Addr} {fp wr : List Addr} {n : Nat} {P : Nat → Value → Prop} {St : Nat → Heap → Prop} (W : Walks prog w A I fp wr n P St) (J : Nat → Shared → Prop) (hJ : J 0 s) (hst : St 0 s.heap)
    (turn : ∀ i s v h' tk E', i < n → J i s → P i v → (∀ b o, b ∉ wr → s.heap.get? b = some o → h'.get? b = some o) → wpAny (model prog w) A (assign target env v) (fun _ s₂ => wpAny (model prog w) A (execs body env) (fun f s₃ => match f with
      | .next | .cont => J (i + 1) s₃ ∧ ∀ b ∈ fp, ∀ o, h'.get? b = some o → s₃.heap.get? b = some o
      | .brk => R (.ok .next) s₃
      | .ret v => R (.ok (.ret v)) s₃) E' s₂) E' { s with heap := h', toks := tk })
    (done : ∀ s h' tk, J n s → (∀ b o, b ∉ wr → s.heap.get? b = some o → h'.get? b = some o) → R (.ok .next) { s with heap := h', toks := tk })
    (ht : ∀ v, letOwnedTupleGo target (.ref I) v = pure () := by intro _; rfl) :
    codeAny (model prog w) A (.forLoop target (.ref I) body [] env) R s := by
  refine codeAny_forLoop (fun k s' => ∃ i, i + k = n ∧ J i s' ∧ St i s'.heap) ?_ n ⟨0, by omega, hJ, hst⟩ ht
  rintro k s' ⟨i, hi, hj, hs⟩
  by_cases hlt : i < n
  · refine W.item i _ _ _ hlt hs fun v h' tk hP hs' hk => ?_
    refine wpAny_mono (turn i s' v h' tk _ hlt hj hP hk) (fun _ s₂ h₂ => wpAny_mono h₂ (fun f s₃ h₃ => ?_) fun _ _ x => x) fun _ _ x => x
    cases f with
    | next => exact ⟨k - 1, by omega, i + 1, by omega, h₃.1, W.frame _ _ _ hs' h₃.2⟩
    | cont => exact ⟨k - 1, by omega, i + 1, by omega, h₃.1, W.frame _ _ _ hs' h₃.2⟩
    | brk => exact h₃
    | ret v => exact h₃
  · obtain rfl : i = n := by omega
    exact W.done _ _ _ hs fun h' tk hk => wpAny_execs_nil (done s' h' tk hj hk)
end
end Mine

namespace Mine
open PySem PySem.W PySem.Calls PyProof.Rows

def manyOf (v : Nat) : Nat := [1, 0, 1, 2].getD (v / 16 % 4) 0
def fewOf (v : Nat) : Nat := [0, 1, 1, 1].getD (v / 16 % 4) 0
/-- a number's share of a bag of signs, and of the letters that they mean -/
def bagS (f : Nat → Nat) (v : Nat) : List Value := List.replicate (f v) (.str (sg (signOf v).1) 0)
def bagL (f : Nat → Nat) (v : Nat) : List Nat := (List.replicate (f v) (signOf v).2.cps.toList).flatten
theorem many_le (v : Nat) : manyOf v ≤ 2 := by
  unfold manyOf
  have : ∀ k < 4, [1, 0, 1, 2].getD k 0 ≤ 2 := by decide
  exact this _ (Nat.mod_lt _ (by decide))
theorem few_le (v : Nat) : fewOf v ≤ 2 := by
  unfold fewOf
  have : ∀ k < 4, [0, 1, 1, 1].getD k 0 ≤ 2 := by decide
  exact this _ (Nat.mod_lt _ (by decide))
theorem meant_le (v : Nat) : (signOf v).2.cps.toList.length ≤ 3 := by
  unfold signOf
  split
  · rename_i h
    have : ∀ k < 14, (stock14.getD k (0, Str.empty)).2.cps.toList.length ≤ 3 := by decide
    exact this _ h
  · exact Nat.zero_le _
theorem bagL_len {f : Nat → Nat} (hf : ∀ v, f v ≤ 2) (v : Nat) : (bagL f v).length ≤ 6 := by
  unfold bagL
  have h1 := hf v
  have h2 := meant_le v
  rw [List.length_flatten, List.map_replicate, List.sum_replicate_nat]
  exact Nat.le_trans (Nat.mul_le_mul h1 h2) (by decide)
theorem bagS_len {f : Nat → Nat} (hf : ∀ v, f v ≤ 2) (v : Nat) : (bagS f v).length ≤ 2 := by
  unfold bagS; rw [List.length_replicate]; exact hf v
theorem flat_le {α β : Type} {f : α → List β} {n : Nat} : ∀ {l : List α}, (∀ x ∈ l, (f x).length ≤ n) → (l.flatMap f).length ≤ n * l.length
  | [], _ => by simp
  | x :: l, h => by
    rw [List.flatMap_cons, List.length_append, List.length_cons, Nat.mul_succ]
    have := flat_le (f := f) (n := n) (l := l) fun y hy => h y (.tail _ hy)
    have := h x (.head _)
    omega
theorem mul_ok {x : Str} {n : Nat} (hx : x.cps.toList.length ≤ 3) (hn : n ≤ 2) : MulOk x (n : Int) := by
  have hl : x.length ≤ 3 := by simpa [Str.length] using hx
  refine ⟨by simp; omega, fun h1 _ => ?_, fun h1 _ => ?_⟩
  · obtain rfl | rfl : n = 1 ∨ n = 2 := by omega
    · simp; omega
    · simp; omega
  · have : x.length * ((n : Int)).toNat ≤ 3 * 2 := Nat.mul_le_mul hl (by simpa using hn)
    unfold Builtin.Str.tooLong
    simp [sizeLine]
    simp at this
    omega
theorem mul_text {x : Str} {n : Nat} : (Txt.mul x (n : Int)).cps.toList = (List.replicate n x.cps.toList).flatten := by
  unfold Txt.mul
  have key : ∀ n (a : Array Nat), (List.foldl (· ++ ·) a (List.replicate n x.cps)).toList = a.toList ++ (List.replicate n x.cps.toList).flatten := by
    intro n
    induction n with
    | zero => intro a; simp
    | succ n ih => intro a; rw [List.replicate_succ, List.foldl_cons, ih, List.replicate_succ, List.flatten_cons]; simp
  split
  · obtain rfl : n = 0 := by omega
    rfl
  · split
    · rename_i h1 h2
      rw [Bool.or_eq_true] at h2
      rcases h2 with h2 | h2
      · obtain rfl : n = 1 := by have := eq_of_beq h2; omega
        simp
      · have : x.cps.toList = [] := by
          have := eq_of_beq h2
          unfold Str.length at this
          simpa using this
        rw [this]; simp
    · have := key n #[]
      simpa using this
theorem add_text (x y : Str) : (x ++ y).cps.toList = x.cps.toList ++ y.cps.toList := by
  show (x.cps ++ y.cps).toList = _
  simp

section
variable {prog : Program} {w : World} {A : Around} {E : Value → Shared → Prop} {s : Shared} {mg mb : Str → Option Value}

structure BInv (h₀ : Heap) (L a b : Addr) (ns : List Nat) (h : Heap) : Prop where
  loc : ∃ m mi ot tm to, h.Ns L m ∧ m "first" = some (.ref a) ∧ m "second" = some (.ref b) ∧ m "mine" = some (.str mi tm) ∧ m "others" = some (.str ot to) ∧ mi.cps.toList = ns.flatMap (bagL manyOf) ∧ ot.cps.toList = ns.flatMap (bagL fewOf)
  first : ∃ vF, PL h a vF ∧ vF.map ky = ns.flatMap (bagS manyOf)
  second : ∃ vS, PL h b vS ∧ vS.map ky = ns.flatMap (bagS fewOf)
  keep : Kp h₀ h

theorem ky_rep {n : Nat} {v : Value} : (List.replicate n v).map ky = List.replicate n (ky v) := by simp
theorem two_of {us : List Value} {i j : Int} (h : us.map ky = [.int i 0, .int j 0]) : ∃ t u, us = [.int i t, .int j u] := by
  rcases us with _ | ⟨x, _ | ⟨y, _ | ⟨z, us⟩⟩⟩
  · simp at h
  · simp at h
  · simp at h
    obtain ⟨h1, h2⟩ := h
    cases x <;> simp [ky] at h1
    cases y <;> simp [ky] at h2
    subst h1; subst h2
    exact ⟨_, _, rfl⟩
  · simp at h

/-- a += [v] * n -/
theorem aug_list {env : Env} {m : Str → Option Value} {x y z : Str} {a : Addr} {vs : List Value} {v : Value} {n : Nat} {tn : Tok} {p1 p2 p3 p4 p5 p6 : Pos} {Q : Flow → Shared → Prop} (fe : FEnv env) (hn : s.heap.Ns env.locals m) (ha : m x = some (.ref a)) (hv : m y = some v) (hz : m z = some (.int n tn)) (pl : PL s.heap a vs)
    (hl : vs.length + n ≤ 500) (h : ∀ h' tk, h'.Ns env.locals (fun q => if q = x then some (.ref a) else m q) → PL h' a (vs ++ List.replicate n v) → (∀ b o, b ≠ env.locals → b ≠ a → s.heap.get? b = some o → h'.get? b = some o) → Q .next { s with heap := h', toks := tk })
    (hx : env.kindOf x = some .local := by rfl) (hy : env.kindOf y = some .local := by rfl) (hkz : env.kindOf z = some .local := by rfl) (hd : (y == ("__debug__" : Str)) = false := by decide) (hd2 : (z == ("__debug__" : Str)) = false := by decide) (hse : starEach [.Name y p3] env = [(false, eval (.Name y p3) env)] := by rfl) :
    wpAny (model prog w) A (exec (.AugAssign (.Name x p1) .Add (.BinOp (.List [.Name y p3] p2) .Mult (.Name z p4) p5) p6) env) Q E s := by
  have aL : a ≠ env.locals := fun q => by obtain ⟨_, e⟩ := pl; obtain ⟨_, _, _, z, hdd, _⟩ := hn; rw [← q, e] at z; cases z; cases hdd
  refine wpAny_AugAssign_Name (wpAny_loadName_local fe.kind hx hn ha (wpAny_BinOp (List_ (args_cons (ld1 fe hn hv (args_nil (pl_new (by simp) fun h₁ k₁ p₁ z₁ => ?_)) hy hd) hse))))
  refine ld1 fe (hn.keeps k₁) hz (pl_mul1 p₁ rfl (by omega) fun D h₂ k₂ nD p₂ => ?_) hkz hd2
  dsimp only at k₂ nD ⊢
  have k02 : Kp s.heap h₂ := k₁.trans k₂
  refine pl_iadd (PL.keep pl k02) p₂ (by rw [List.length_replicate]; omega) fun h₃ p₃ b₃ => ?_
  dsimp only at b₃ ⊢
  refine st1 fe ((hn.keeps k02).sameBut b₃ (Ne.symm aL)) (fun h₄ n₄ b₄ => ?_) hx
  exact h h₄ _ n₄ (PL.but p₃ b₄ aL) fun b o h1 h2 e => (b₄.2 b h1).trans ((b₃.2 b h2).trans (k02 b o e))
/-- t += u * n -/
theorem aug_text {env : Env} {m : Str → Option Value} {x y z : Str} {u v : Str} {n : Nat} {tn tu tv : Tok} {p1 p2 p3 p4 p5 : Pos} {Q : Flow → Shared → Prop} (fe : FEnv env) (hn : s.heap.Ns env.locals m) (ha : m x = some (.str u tu)) (hv : m y = some (.str v tv)) (hz : m z = some (.int n tn))
    (hn2 : n ≤ 2) (hl3 : v.cps.toList.length ≤ 3) (hl : u.cps.toList.length ≤ 900) (h : ∀ h' tk tu' u', u'.cps.toList = u.cps.toList ++ (List.replicate n v.cps.toList).flatten → h'.Ns env.locals (fun q => if q = x then some (.str u' tu') else m q) → (∀ b o, b ≠ env.locals → s.heap.get? b = some o → h'.get? b = some o) → Q .next { s with heap := h', toks := tk })
    (hx : env.kindOf x = some .local := by rfl) (hy : env.kindOf y = some .local := by rfl) (hkz : env.kindOf z = some .local := by rfl) (hd : (y == ("__debug__" : Str)) = false := by decide) (hd2 : (z == ("__debug__" : Str)) = false := by decide) :
    wpAny (model prog w) A (exec (.AugAssign (.Name x p1) .Add (.BinOp (.Name y p2) .Mult (.Name z p3) p4) p5) env) Q E s := by
  refine wpAny_AugAssign_Name (wpAny_loadName_local fe.kind hx hn ha (wpAny_BinOp (ld1 fe hn hv (ld1 fe hn hz (SB.mul (mul_ok hl3 hn2) fun t' k => ?_) hkz hd2) hy hd)))
  have hm : (Txt.mul v (n : Int)).cps.toList.length ≤ 6 := by
    rw [mul_text, List.length_flatten, List.map_replicate, List.sum_replicate_nat]
    exact Nat.le_trans (Nat.mul_le_mul hn2 hl3) (by decide)
  refine SB.iadd (fun t'' k' => ?_) (by rw [sizeLine_eq]; simp [Str.length] at hm hl ⊢; omega)
  refine st1 fe hn (fun h₄ n₄ b₄ => ?_) hx
  exact h h₄ _ _ _ (by rw [add_text, mul_text]) n₄ fun b o h1 e => (b₄.2 b h1).trans e

set_option maxHeartbeats 4000000 in
theorem bags_spec {f l : Addr} {vs : List Value} {ns : List Nat} {rm : Nat} {Q : Value → Shared → Prop} (G : Gl mg mb s.heap) (hf : mg "_law_bags" = some (.ref f)) (r : Room A (rm + 2)) (pl : PL s.heap l vs) (hns : vs.map ky = ns.map (fun n : Nat => Value.int (n : Int) 0)) (hz : ns.length ≤ 100) (hlt : ∀ n ∈ ns, n < 1000000)
    (hQ : ∀ T a b h' tk vF vS mi ot tm to, TP h' T [.ref a, .ref b, .str mi tm, .str ot to] → Kp s.heap h' → s.heap.get? a = none → s.heap.get? b = none → a ≠ b → PL h' a vF → PL h' b vS → vF.map ky = ns.flatMap (bagS manyOf) → vS.map ky = ns.flatMap (bagS fewOf) →
      mi.cps.toList = ns.flatMap (bagL manyOf) → ot.cps.toList = ns.flatMap (bagL fewOf) → Q (.ref T) { s with heap := h', toks := tk }) :
    wpAny (model prog w) A (call (.ref f) [.ref l]) Q E s := by
  have hvl : vs.length = ns.length := by have := congrArg List.length hns; simpa using this
  refine enter (i := 10) (binds := [("numbers", .ref l)]) G (by decide) hf r (by intros; rfl) rfl rfl rfl fun h₁ cd F => ?_
  generalize hL : s.heap.objs.size = L at F ⊢
  have nL : s.heap.get? L = none := by rw [← hL]; exact fresh_none
  have hd : (A.deeper (envOf (fN (stm 10)) (fS (stm 10)) L f cd)).handled = none := (r.deeper _).handled
  have rd : Room (A.deeper (envOf (fN (stm 10)) (fS (stm 10)) L f cd)) (rm + 1) := r.deeper _
  -- first, second, mine, others = ([], [], '', '')
  refine wpAny_execs_cons ?_
  refine Assign_Tuple ?_
  refine Tuple_ (args_cons (List_ (args_nil (pl_new (by simp) fun h₂ k₂ pa z₂ => ?_))))
  dsimp only at k₂ pa z₂ ⊢
  generalize ha : h₁.objs.size = a at pa z₂ ⊢
  have na : h₁.get? a = none := by rw [← ha]; exact fresh_none
  refine args_cons (List_ (args_nil (pl_new (by simp) fun h₃ k₃ pb z₃ => ?_)))
  dsimp only at k₃ pb z₃ ⊢
  generalize hb : h₂.objs.size = b at pb z₃ ⊢
  have nb : h₂.get? b = none := by rw [← hb]; exact fresh_none
  have ab : a ≠ b := let ⟨_, e⟩ := pa; ne_none e nb
  refine args_cons (wpAny_Constant_str (args_cons (wpAny_Constant_str (args_nil (tp_new (by simp) fun h₄ k₄ t₄ z₄ => ?_)))))
  dsimp only at k₄ t₄ z₄ ⊢
  have k14 : Kp h₁ h₄ := k₂.trans (k₃.trans k₄)
  refine un_tuple (fenv rfl) hd t₄ rfl rfl rfl (F.ns.keeps k14) fun h₅ tk₅ n₅ k₅ => ?_
  change h₅.Ns L _ at n₅
  change ∀ b o, b ≠ L → h₄.get? b = some o → h₅.get? b = some o at k₅
  have aL : a ≠ L := fun q => by obtain ⟨_, _, _, z, _⟩ := F.ns; rw [← q, na] at z; cases z
  have bL : b ≠ L := fun q => by obtain ⟨_, _, _, z, _⟩ := F.ns.keeps k₂; rw [← q, nb] at z; cases z
  have I₅ : BInv s.heap L a b [] h₅ := ⟨⟨_, Str.empty, Str.empty, _, _, n₅, rfl, rfl, rfl, rfl, rfl, rfl⟩, ⟨[], (PL.keep pa (k₃.trans k₄)).at fun o e => k₅ a o aL e, rfl⟩, ⟨[], (PL.keep pb k₄).at fun o e => k₅ b o bL e, rfl⟩,
    fun c o e => k₅ c o (ne_none e nL) (k14 c o (F.keep c o e))⟩
  have na0 : s.heap.get? a = none := up_none F.keep na
  have nb0 : s.heap.get? b = none := up_none (Kp.trans F.keep k₂) nb
  have pl₅ : PL h₅ l vs := PL.keep pl I₅.keep
  have lne : l ≠ a ∧ l ≠ b ∧ l ≠ L := let ⟨_, e⟩ := pl; ⟨ne_none e na0, ne_none e nb0, ne_none e nL⟩
  refine wpAny_execs_cons (wpAny_For (ld1 (fenv rfl) n₅ rfl (wpAny_pyIter_list pl₅.isList ?_)))
  have lI : l ≠ h₅.objs.size := let ⟨_, e⟩ := pl₅; fresh_ne e
  have aI : a ≠ h₅.objs.size := let ⟨_, x, _⟩ := I₅.first; let ⟨_, e⟩ := x; fresh_ne e
  have bI : b ≠ h₅.objs.size := let ⟨_, x, _⟩ := I₅.second; let ⟨_, e⟩ := x; fresh_ne e
  have LI : L ≠ h₅.objs.size := let ⟨_, _, _, e, _⟩ := n₅; fresh_ne e
  have nI0 : s.heap.get? h₅.objs.size = none := up_none I₅.keep fresh_none
  have kI : Kp h₅ (h₅.push { cls := .type "list_iterator", data := .fields #[.ref l, .int 0 0] }) := fun _ _ e => Heap.get?_push_of_some _ e
  have gI : (h₅.push { cls := .type "list_iterator", data := .fields #[.ref l, .int 0 0] }).get? h₅.objs.size = some _ := Heap.get?_push_size _ rfl
  dsimp only
  generalize h₅.push { cls := .type "list_iterator", data := .fields #[.ref l, .int 0 0] } = h₆ at kI gI ⊢
  generalize h₅.objs.size = I at lI aI bI LI nI0 gI ⊢
  -- what an untouched step keeps
  have move : ∀ {ns' : List Nat} {h h' : Heap}, BInv s.heap L a b ns' h → (∀ b o, b ∉ [I] → h.get? b = some o → h'.get? b = some o) → BInv s.heap L a b ns' h' := by
    rintro ns' h h' ⟨⟨m, mi, ot, tm, to, n, x⟩, ⟨vF, pF, eF⟩, ⟨vS, pS, eS⟩, k⟩ kk
    exact ⟨⟨m, mi, ot, tm, to, n.at' fun o e => kk L o (by simpa using LI) e, x⟩, ⟨vF, pF.at fun o e => kk a o (by simpa using aI) e, eF⟩, ⟨vS, pS.at fun o e => kk b o (by simpa using bI) e, eS⟩,
      fun c o e => kk c o (by simpa using ne_none e nI0) (k c o e)⟩
  refine for_walk (Walks.list hd I l lI vs.toArray) (fun i s' => ∃ h tk, s' = { s with heap := h, toks := tk } ∧ BInv s.heap L a b (ns.take i) h) ⟨h₆, _, rfl, move I₅ fun b o _ e => kI b o e⟩ ⟨⟨_, gI, rfl, rfl⟩, (PL.keep pl₅ kI).isList⟩ ?_ ?_
  · rintro i s' v h' tk E' hi ⟨h, tk', rfl, J⟩ hP hk
    dsimp only at hk ⊢
    have J' := move J hk
    obtain ⟨⟨m, mi, ot, tm, to, n', m1, m2, m3, m4, emi, eot⟩, ⟨vF, pF, eF⟩, ⟨vS, pS, eS⟩, kp⟩ := J'
    have hi' : i < ns.length := by simpa [hvl] using hi
    have hv : vs[i]? = some v := by simpa using hP
    have hkv : ky v = .int (ns[i] : Int) 0 := by
      have := congrArg (fun l => l[i]?) hns
      simp only [List.getElem?_map, hv, List.getElem?_eq_getElem hi', Option.map_some] at this
      simpa using this
    obtain ⟨tv, rfl⟩ : ∃ t, v = .int (ns[i] : Int) t := by
      cases v <;> simp [ky] at hkv
      subst hkv; exact ⟨_, rfl⟩
    have hnm : ns[i] ∈ ns := List.getElem_mem hi'
    have take1 : ns.take (i + 1) = ns.take i ++ [ns[i]] := by rw [List.take_add_one, List.getElem?_eq_getElem hi']; rfl
    rw [take1]
    generalize ns[i] = nv at hkv hnm take1 ⊢
    have htl : (ns.take i).length ≤ 100 := by rw [List.length_take]; omega
    generalize ns.take i = ns' at *
    have lF : vF.length ≤ 200 := by
      have e1 := congrArg List.length eF
      have e2 := flat_le (f := bagS manyOf) (n := 2) (l := ns') fun x _ => bagS_len many_le x
      rw [List.length_map] at e1; omega
    have lS : vS.length ≤ 200 := by
      have e1 := congrArg List.length eS
      have e2 := flat_le (f := bagS fewOf) (n := 2) (l := ns') fun x _ => bagS_len few_le x
      rw [List.length_map] at e1; omega
    have lM : mi.cps.toList.length ≤ 600 := by
      have e2 := flat_le (f := bagL manyOf) (n := 6) (l := ns') fun x _ => bagL_len many_le x
      rw [emi]; omega
    have lO : ot.cps.toList.length ≤ 600 := by
      have e2 := flat_le (f := bagL fewOf) (n := 6) (l := ns') fun x _ => bagL_len few_le x
      rw [eot]; omega
    have fpk : ∀ h'' : Heap, (∀ c o, c ≠ L → c ≠ a → c ≠ b → h'.get? c = some o → h''.get? c = some o) → ∀ c ∈ [I, l], ∀ o, h'.get? c = some o → h''.get? c = some o := by
      intro h'' kk c hc o e
      rcases List.mem_cons.mp hc with rfl | hc
      · exact kk _ o (Ne.symm LI) (Ne.symm aI) (Ne.symm bI) e
      · rw [List.mem_singleton.mp hc] at e ⊢
        exact kk _ o lne.2.2 lne.1 lne.2.1 e
    refine wpAny_assign_Name (st1 (fenv rfl) (m := m) n' fun g₁ n₁ b₁ => ?_)
    change g₁.Ns L _ at n₁
    change Heap.SameBut L h' g₁ at b₁
    dsimp only
    have kp₁ : Kp s.heap g₁ := fun c o e => (b₁.2 c (ne_none e nL)).trans (kp c o e)
    have G₁ : Gl mg mb g₁ := G.keeps kp₁
    -- sign, meant = _law_sign(v)
    refine wpAny_execs_cons ?_
    refine Assign_Tuple ?_
    refine call_fn (i := 9) G₁ (fenv rfl) (by decide) rfl rfl (args_cons (ld1 (fenv rfl) n₁ rfl (args_nil ⟨Kp.rfl', fun fa hfa => sign_spec G₁ hfa rd (hlt _ hnm) fun T g₂ tk₂ ts tu T₂ k₂ => ?_⟩)))
    dsimp only at k₂ ⊢
    refine un_tuple (fenv rfl) hd T₂ rfl rfl rfl (n₁.keeps k₂) fun g₃ tk₃ n₃ k₃ => ?_
    change g₃.Ns L _ at n₃
    change ∀ b o, b ≠ L → g₂.get? b = some o → g₃.get? b = some o at k₃
    have k13 : ∀ c o, c ≠ L → h'.get? c = some o → g₃.get? c = some o := fun c o hc e => k₃ c o hc (k₂ c o ((b₁.2 c hc).trans e))
    -- many, few = (..)[..]
    dsimp only
    refine wpAny_execs_cons ?_
    refine Assign_Tuple ?_
    refine sub_tmp ?_
    refine Tuple_ ?_
    refine args_cons (Tuple_ (args_ints (ns := [1, 0]) rfl fun tk₄ u1 e1 => tp_new (by have := congrArg List.length e1; simp at this; omega) fun g₄ k₄ T₄ z₄ => ?_))
    dsimp only at k₄ T₄ z₄ ⊢
    refine args_cons (Tuple_ (args_ints (ns := [0, 1]) rfl fun tk₅ u2 e2 => tp_new (by have := congrArg List.length e2; simp at this; omega) fun g₅ k₅ T₅ z₅ => ?_))
    dsimp only at k₅ T₅ z₅ ⊢
    refine args_cons (Tuple_ (args_ints (ns := [1, 1]) rfl fun tk₆ u3 e3 => tp_new (by have := congrArg List.length e3; simp at this; omega) fun g₆ k₆ T₆ z₆ => ?_))
    dsimp only at k₆ T₆ z₆ ⊢
    refine args_cons (Tuple_ (args_ints (ns := [2, 1]) rfl fun tk₇ u4 e4 => tp_new (by have := congrArg List.length e4; simp at this; omega) fun g₇ k₇ T₇ z₇ => ?_))
    dsimp only at k₇ T₇ z₇ ⊢
    refine args_nil (tp_new (by simp) fun g₈ k₈ T₈ z₈ => ?_)
    dsimp only at k₈ T₈ z₈ ⊢
    have k38 : Kp g₃ g₈ := k₄.trans (k₅.trans (k₆.trans (k₇.trans k₈)))
    have n₈ := n₃.keeps k38
    refine wpAny_BinOp (wpAny_BinOp (ld1 (fenv rfl) n₈ rfl (wpAny_Constant_int (PyProof.Rows.floordiv_int (by decide) (wpAny_Constant_int (PyProof.Rows.mod_int (by decide) ?_)) (.inl rfl)))))
    have em : Int.fmod (Int.fdiv (nv : Int) 16) 4 = ((nv / 16 % 4 : Nat) : Int) := by
      rw [Int.fdiv_eq_ediv_of_nonneg _ (by decide), Int.fmod_eq_emod_of_nonneg _ (by decide)]; omega
    rw [em]
    have pick : ∃ T x y, ([Value.ref g₃.objs.size, .ref g₄.objs.size, .ref g₅.objs.size, .ref g₆.objs.size] : List Value)[nv / 16 % 4]? = some (.ref T) ∧ TP g₈ T [.int (manyOf nv) x, .int (fewOf nv) y] := by
      obtain ⟨x1, y1, rfl⟩ := two_of e1
      obtain ⟨x2, y2, rfl⟩ := two_of e2
      obtain ⟨x3, y3, rfl⟩ := two_of e3
      obtain ⟨x4, y4, rfl⟩ := two_of e4
      unfold manyOf fewOf
      have hlt4 : nv / 16 % 4 < 4 := Nat.mod_lt _ (by decide)
      generalize nv / 16 % 4 = q at hlt4
      rcases q with _ | _ | _ | _ | q
      · exact ⟨_, x1, y1, rfl, k₈ _ _ (k₇ _ _ (k₆ _ _ (k₅ _ _ T₄)))⟩
      · exact ⟨_, x2, y2, rfl, k₈ _ _ (k₇ _ _ (k₆ _ _ T₅))⟩
      · exact ⟨_, x3, y3, rfl, k₈ _ _ (k₇ _ _ T₆)⟩
      · exact ⟨_, x4, y4, rfl, k₈ _ _ T₇⟩
      · omega
    obtain ⟨T, tx, ty, hT, hTP⟩ := pick
    refine on_tuple T₈ (by simp) hT ?_
    refine un_tuple (fenv rfl) hd hTP rfl rfl rfl n₈ fun g₉ tk₉ n₉ k₉ => ?_
    change g₉.Ns L _ at n₉
    change ∀ b o, b ≠ L → g₈.get? b = some o → g₉.get? b = some o at k₉
    have k19 : ∀ c o, c ≠ L → h'.get? c = some o → g₉.get? c = some o := fun c o hc e => k₉ c o hc (k38 c o (k13 c o hc e))
    have pF₉ : PL g₉ a vF := pF.at fun o e => k19 a o aL e
    have pS₉ : PL g₉ b vS := pS.at fun o e => k19 b o bL e
    dsimp only
    -- first += [sign] * many
    refine wpAny_execs_cons ?_
    refine aug_list (fenv rfl) n₉ m1 rfl rfl pF₉ (by have := many_le nv; omega) fun q₁ tq₁ nq₁ pq₁ kq₁ => ?_
    change q₁.Ns L _ at nq₁
    change ∀ c o, c ≠ L → c ≠ a → g₉.get? c = some o → q₁.get? c = some o at kq₁
    dsimp only
    refine wpAny_execs_cons ?_
    refine aug_list (fenv rfl) nq₁ m2 rfl rfl (pS₉.at fun o e => kq₁ b o bL (Ne.symm ab) e) (by have := few_le nv; omega) fun q₂ tq₂ nq₂ pq₂ kq₂ => ?_
    change q₂.Ns L _ at nq₂
    change ∀ c o, c ≠ L → c ≠ b → q₁.get? c = some o → q₂.get? c = some o at kq₂
    dsimp only
    refine wpAny_execs_cons ?_
    refine aug_text (fenv rfl) nq₂ m3 rfl rfl (many_le nv) (meant_le nv) (by omega) fun q₃ tq₃ t₃ mi' emi' nq₃ kq₃ => ?_
    change q₃.Ns L _ at nq₃
    change ∀ c o, c ≠ L → q₂.get? c = some o → q₃.get? c = some o at kq₃
    dsimp only
    refine wpAny_execs_cons ?_
    refine aug_text (fenv rfl) nq₃ m4 rfl rfl (few_le nv) (meant_le nv) (by omega) fun q₄ tq₄ t₄' ot' eot' nq₄ kq₄ => ?_
    change q₄.Ns L _ at nq₄
    change ∀ c o, c ≠ L → q₃.get? c = some o → q₄.get? c = some o at kq₄
    dsimp only
    have kz : ∀ c o, c ≠ L → c ≠ a → c ≠ b → h'.get? c = some o → q₄.get? c = some o := fun c o h1 h2 h3 e => kq₄ c o h1 (kq₃ c o h1 (kq₂ c o h1 h3 (kq₁ c o h1 h2 (k19 c o h1 e))))
    refine wpAny_execs_nil ⟨⟨q₄, _, rfl, ⟨_, mi', ot', _, _, nq₄, rfl, rfl, rfl, rfl, ?_, ?_⟩, ⟨_, pq₁.at fun o e => kq₄ a o aL (kq₃ a o aL (kq₂ a o aL ab e)), ?_⟩, ⟨_, pq₂.at fun o e => kq₄ b o bL (kq₃ b o bL e), ?_⟩, ?_⟩, fpk _ kz⟩
    · rw [emi', emi, List.flatMap_append]; simp [bagL]
    · rw [eot', eot, List.flatMap_append]; simp [bagL]
    · rw [List.map_append, eF, List.flatMap_append, ky_rep]; simp [bagS, ky]
    · rw [List.map_append, eS, List.flatMap_append, ky_rep]; simp [bagS, ky]
    · exact fun c o e => kz c o (ne_none e nL) (ne_none e na0) (ne_none e nb0) (kp c o e)
  · rintro s' h' tk ⟨h, tk', rfl, J⟩ hk
    dsimp only at hk ⊢
    have J' := move J hk
    obtain ⟨⟨m, mi, ot, tm, to, n', m1, m2, m3, m4, emi, eot⟩, ⟨vF, pF, eF⟩, ⟨vS, pS, eS⟩, kp⟩ := J'
    have et : ns.take vs.toArray.size = ns := by rw [List.take_of_length_le (by simp [hvl])]
    rw [et] at emi eot eF eS
    refine wpAny_execs_cons (wpAny_Return_some (Tuple_ (args_cons (ld1 (fenv rfl) n' m1 (args_cons (ld1 (fenv rfl) n' m2 (args_cons (ld1 (fenv rfl) n' m3 (args_cons (ld1 (fenv rfl) n' m4 (args_nil (tp_new (by simp) fun g k t z => ?_))))))))))))
    dsimp only at k t ⊢
    exact hQ _ a b g _ vF vS mi ot tm to t (kp.trans k) na0 nb0 ab (PL.keep pF k) (PL.keep pS k) eF eS emi eot
end
end Mine

namespace Mine
open PySem PySem.W PySem.Calls PyProof.Rows

/-- the six letters -/
def six : List Nat := [101, 102, 105, 108, 109, 116]
def idx (c : Nat) : Nat := six.idxOf c
abbrev sixS : Str := "efilmt"
theorem six_at : (six.all fun c => decide (Builtin.Str.occurrences sixS (sg c) 0 sixS.length 1 = [idx c])) = true := by decide +kernel
theorem at_six {c : Nat} (h : c ∈ six) : Builtin.Str.occurrences sixS (sg c) 0 sixS.length 1 = [idx c] := of_decide_eq_true (List.all_eq_true.mp six_at c h)
theorem count_one (x : Str) (c : Nat) : Txt.count x (sg c) = (x.cps.toList.count c : Nat) := by
  rw [show sg c = ⟨#[c]⟩ from rfl, count_cnt]
  generalize x.cps.toList = l
  unfold cnt
  induction l with
  | nil => rfl
  | cons d l ih =>
    rw [List.map_cons]
    unfold Spec.countIn
    rw [ih, List.count_cons]
    have e : Spec.same (.str ⟨#[d]⟩) (.str ⟨#[c]⟩) = (d == c) := by
      rw [Bool.eq_iff_iff]; simp [Spec.same]
    rw [e]
    cases d == c <;> simp <;> omega
def aheadN (c : Nat) (l : List Nat) : Nat := l.countP fun d => decide (idx d < idx c)

section
variable {prog : Program} {w : World} {A : Around} {E : Value → Shared → Prop} {s : Shared} {mg mb : Str → Option Value} {env : Env} {elt : Expr} {x : Str} {px pos : Pos} {ifs : List Expr} {scope : Scope} {cl : List (Str × Addr)}

theorem lc_str {Q : Value → Shared → Prop} {iter : Expr} (T : Value → Bool) (F : Value → Value → Prop) (hh : A.handled = none)
    (hclos : closureFor scope env = pure cl) (hcell : (scope.names.all fun y => decide (y.2 ≠ .cell)) = true) (hkind : scope.kind = .function)
    (hnames : (scope.names.all fun y => decide (y.2 = .local → scope.names.lookup y.1 = some .local)) = true) (hx : scope.names.lookup x = some .local)
    (he : wpAny (model prog w) A (eval iter env) (fun v s₁ => ∃ z t, v = .str z t ∧ z.cps.toList.length ≤ 1000 ∧ OnVals prog w A env scope cl x ifs elt s₁.heap (fun v => ∃ c u, c ∈ z.cps.toList ∧ v = .str (sg c) u) T F ∧
      ∀ D h' tk ys (vs : List Value), s₁.heap.get? D = none → PL h' D ys → vs.map ky = sgs z → Paired F (vs.filter T) ys → Kp s₁.heap h' → Q (.ref D) { s₁ with heap := h', toks := tk }) E s)
    (hs : ∀ x, foldedSetIterable iter env x = pure x := by intro _; rfl) :
    wpAny (model prog w) A (eval (.ListComp elt [⟨.Name x px, iter, ifs, 0⟩] scope pos) env) Q E s := by
  refine wpAny_ListComp_free T F hclos (fun y hy => of_decide_eq_true (List.all_eq_true.mp hcell y hy)) hkind (fun y hy => of_decide_eq_true (List.all_eq_true.mp hnames y hy)) hx (wpAny_mono he (fun v s₁ h₁ => ?_) fun _ _ x => x) hs
  obtain ⟨z, t, rfl, hn, O, hQ⟩ := h₁
  refine wpAny_pyIter_str fun o St hW hst => ?_
  have nI : s₁.heap.get? s₁.heap.objs.size = none := fresh_none
  have k : Kp s₁.heap (s₁.heap.push o) := fun b o' e => Heap.get?_push_of_some _ e
  have mem : ∀ i v, SignAt z i v → ∃ c u, c ∈ z.cps.toList ∧ v = .str (sg c) u := by
    rintro i v ⟨c, u, hc, rfl⟩
    exact ⟨c, u, List.mem_of_getElem? (i := i) (by simpa using hc), rfl⟩
  refine ⟨_, _, _, _, _, _, rfl, hW A hh, by rw [sizeLine_eq]; simp at hn; omega, hst, fun b hb => ?_, ⟨?_, ?_⟩, ?_⟩
  · rw [List.mem_singleton.mp hb]
    dsimp only
    rw [Heap.size_push]
    exact Nat.lt_succ_self _
  · intro C i v s₃ m₃ E' hC hP hN hm hk _
    exact O.tests C v s₃ m₃ E' (Nat.le_trans (by dsimp only; rw [Heap.size_push]; omega) hC) (mem i v hP) hN hm fun b o' e => hk b o' (fun q => by rw [List.mem_singleton.mp q, nI] at e; cases e) (k b o' e)
  · intro C i v s₃ m₃ E' hC hP hT hN hm hk _
    exact O.elt C v s₃ m₃ E' (Nat.le_trans (by dsimp only; rw [Heap.size_push]; omega) hC) (mem i v hP) hT hN hm fun b o' e => hk b o' (fun q => by rw [List.mem_singleton.mp q, nI] at e; cases e) (k b o' e)
  · intro D h'' tk' ys us hD _ hPL hl' hP hF hk
    refine hQ D h'' tk' ys.toList us ?_ (by simpa using hPL) ?_ hF fun b o' e => hk b o' (fun q => ?_) (k b o' e)
    · cases q : s₁.heap.get? D with
      | none => rfl
      | some o' => have := k _ _ q; dsimp only at hD; rw [hD] at this; cases this
    · apply List.ext_getElem?
      intro i
      rw [List.getElem?_map]
      unfold sgs
      rw [List.getElem?_map]
      cases e : us[i]? with
      | none =>
        have := List.getElem?_eq_none_iff.mp e
        rw [List.getElem?_eq_none (by simp; omega)]; rfl
      | some v =>
        obtain ⟨c, u, hc, rfl⟩ := hP i v e
        have : z.cps.toList[i]? = some c := by simpa using hc
        rw [this]; rfl
    · rw [List.mem_singleton.mp q, nI] at e; cases e

theorem index_six {c : Nat} {t u : Tok} {Q : Value → Shared → Prop} (hc : c ∈ six) (h : ∀ tk tk', Q (.int (idx c : Nat) tk) { s with toks := tk' }) : wpAny (model prog w) A (call (.builtin "str.index") [.str "efilmt" t, .str (sg c) u]) Q E s := PySem.SC.index (at_six hc) (h _ _)

set_option maxHeartbeats 1000000 in
theorem counts_spec {f : Addr} {z : Str} {c : Nat} {t u : Tok} {rm : Nat} {Q : Value → Shared → Prop} (G : Gl mg mb s.heap) (hf : mg "_law_counts" = some (.ref f)) (r : Room A (rm + 1)) (hz : z.cps.toList.length ≤ 1000) (h6 : ∀ d ∈ z.cps.toList, d ∈ six) (hc : c ∈ six)
    (hQ : ∀ D h' tk t1 t2 t3, Kp s.heap h' → PL h' D [.int (aheadN c z.cps.toList : Nat) t1, .int (z.cps.toList.count c : Nat) t2, .int ((z.cps.toList.length : Int) - (aheadN c z.cps.toList : Nat) - (z.cps.toList.count c : Nat)) t3] → s.heap.get? D = none → Q (.ref D) { s with heap := h', toks := tk }) :
    wpAny (model prog w) A (call (.ref f) [.str z t, .str (sg c) u]) Q E s := by
  refine enterC (i := 11) (binds := [("text", .str z t), ("letter", .str (sg c) u)]) G (by decide) hf r (by intros; rfl) rfl rfl fun h₁ tk cd F X => ?_
  generalize hL : s.heap.objs.size = L at F X ⊢
  have nL : s.heap.get? L = none := by rw [← hL]; exact fresh_none
  have hd : (A.deeper (envOfC (fN (stm 11)) (fS (stm 11)) L f cd)).handled = none := (r.deeper _).handled
  have G₁ : Gl mg mb h₁ := G.keeps F.keep
  have c₀ := X.cell "spot" (L + 1) rfl
  refine wpAny_execs_cons ?_
  refine wpAny_Assign_Name ?_
  refine MethodCall_ ?_
  refine wpAny_Constant_str ?_
  refine PySem.GM.index ?_
  refine callWith_method1 ?_
  refine args_cons ?_
  refine ld1 (fenvC rfl) F.ns rfl ?_
  refine args_nil ?_
  refine index_six hc fun tk₁ tk₂ => ?_
  refine wpAny_storeName_cell (c := L + 1) rfl rfl rfl c₀ fun h₂ c₂ b₂ => ?_
  dsimp only at b₂ ⊢
  have nL1 : s.heap.get? (L + 1) = none := Heap.get?_none_of_le (by omega)
  have kp₂ : Kp s.heap h₂ := fun b o e => (b₂.2 b (ne_none e nL1)).trans (F.keep b o e)
  have G₂ : Gl mg mb h₂ := G.keeps kp₂
  have n₂ := F.ns.sameBut b₂ (Nat.ne_of_lt (Nat.lt_succ_self L))
  refine wpAny_execs_cons ?_
  refine wpAny_Assign_Name ?_
  refine call_bi (id := "len") G₂ (fenvC rfl) rfl (by decide +kernel) (by kernel_rfl) ?_
  refine lc_str (cl := [("spot", L + 1)]) (fun v => match v with | .str x _ => decide (idx (x.cps.getD 0 0) < idx c) | _ => false) (fun v y => y = v) hd rfl rfl rfl rfl rfl (ld1 (fenvC rfl) n₂ rfl ⟨z, t, rfl, hz, ⟨?_, ?_⟩, ?_⟩)
  · rintro C v s₃ m₃ E' hC ⟨d, td, hdm, rfl⟩ hn3 hm hk
    dsimp only at hk
    refine wpAny_tests_one ?_
    refine wpAny_isTrue_Compare1 ?_
    refine MethodCall_ ?_
    refine wpAny_Constant_str ?_
    refine PySem.GM.index ?_
    refine callWith_method1 ?_
    refine args_cons ?_
    refine ld1 ⟨rfl, rfl, rfl⟩ hn3 hm ?_
    refine args_nil ?_
    refine index_six (h6 d hdm) fun tk₃ tk₄ => ?_
    refine name_cell (c := L + 1) ⟨rfl, rfl, rfl⟩ rfl (c₂.keeps hk) (PyProof.Rows.lt_int (wpAny_truthy_bool ⟨?_, keeps_to Kp.rfl'⟩))
    show decide (((idx d : Nat) : Int) < ((idx c : Nat) : Int)) = decide (idx d < idx c)
    rw [Bool.eq_iff_iff]; simp
  · rintro C v s₃ m₃ E' hC _ _ hn3 hm hk
    exact ld1 ⟨rfl, rfl, rfl⟩ hn3 hm ⟨rfl, keeps_refl⟩
  · intro D h₃ tk₃ ys vs nD pD evs hF k₃
    dsimp only at nD k₃ ⊢
    have eys : ys.length = aheadN c z.cps.toList := by
      rw [← hF.length]
      unfold aheadN
      clear hF pD
      have : ∀ (l : List Nat) (vs : List Value), vs.map ky = l.map (fun c => Value.str (sgs.sg1 c) 0) → (vs.filter fun v => match v with | .str x _ => decide (idx (x.cps.getD 0 0) < idx c) | _ => false).length = l.countP fun d => decide (idx d < idx c) := by
        intro l
        induction l with
        | nil => intro vs e; rw [List.map_nil, List.map_eq_nil_iff] at e; subst e; rfl
        | cons d l ih =>
          intro vs e
          rcases vs with _ | ⟨v, vs⟩
          · simp at e
          rw [List.map_cons, List.map_cons, List.cons.injEq] at e
          obtain ⟨tv, rfl⟩ := ky_str e.1
          have := ih vs e.2
          rw [List.countP_cons, ← this]
          by_cases hc : idx d < idx c
          · rw [List.filter_cons_of_pos (by exact decide_eq_true hc), List.length_cons, if_pos (by exact decide_eq_true hc)]
          · rw [List.filter_cons_of_neg (by show ¬ decide (idx d < idx c) = true; simpa using hc), if_neg (by simpa using hc)]; rfl
      exact this _ vs evs
    have hyl : ys.length ≤ 1000 := by rw [eys]; exact Nat.le_trans List.countP_le_length hz
    refine pl_len pD hyl fun tl tk₄ => ?_
    rw [eys]
    refine st1 (fenvC rfl) (n₂.keeps k₃) fun h₄ n₄ b₄ => ?_
    change h₄.Ns L _ at n₄
    change Heap.SameBut L h₃ h₄ at b₄
    dsimp only
    have kp₄ : Kp s.heap h₄ := fun b o e => (b₄.2 b (ne_none e nL)).trans (k₃ b o (kp₂ b o e))
    have G₄ : Gl mg mb h₄ := G.keeps kp₄
    refine wpAny_execs_cons (wpAny_Return_some ?_)
    refine List_ ?_
    refine args_cons (ld1 (fenvC rfl) n₄ rfl ?_)
    refine args_cons (MethodCall_ (ld1 (fenvC rfl) n₄ rfl (PySem.GM.count (callWith_method1 (args_cons (ld1 (fenvC rfl) n₄ rfl (args_nil (PySem.SC.count ?_))))))))
    rw [count_one]
    refine args_cons (wpAny_BinOp (wpAny_BinOp ?_))
    refine call_bi (id := "len") G₄ (fenvC rfl) rfl (by decide +kernel) (by kernel_rfl) (ld1 (fenvC rfl) n₄ rfl (PySem.P.len_str ?_ ?_))
    · have : z.length = z.cps.toList.length := by simp [Str.length]
      omega
    refine ld1 (fenvC rfl) n₄ rfl (PyProof.Rows.sub_int ?_)
    refine MethodCall_ (ld1 (fenvC rfl) n₄ rfl (PySem.GM.count (callWith_method1 (args_cons (ld1 (fenvC rfl) n₄ rfl (args_nil (PySem.SC.count ?_)))))))
    rw [count_one]
    refine PyProof.Rows.sub_int (args_nil (pl_new (by simp) fun h₅ k₅ p₅ z₅ => ?_))
    dsimp only at k₅ p₅ ⊢
    have hl : z.length = z.cps.toList.length := by simp [Str.length]
    rw [hl] at p₅
    exact hQ _ h₅ _ _ _ _ (kp₄.trans k₅) p₅ (up_none kp₄ fresh_none)
end
end Mine

namespace Mine
open PySem PySem.W PySem.Calls PyProof.Rows
section
variable {prog : Program} {w : World} {A : Around} {E : Value → Shared → Prop} {s : Shared}

theorem next_tuple {it t : Addr} {i : Nat} {items : Array Value} {x : Value} {Q : Value → Shared → Prop} (hit : s.heap.IsTupleIter it t i) (ht : s.heap.IsTuple t items) (hx : items[i]? = some x)
    (hQ : ∀ h', h'.IsTupleIter it t (i + 1) → Heap.SameBut it s.heap h' → Q x { s with heap := h' }) : wpAny (model prog w) A (Builtin.SmallTypes.nextOf (.ref it)) Q E s := by
  obtain ⟨o, ho, hc, hd⟩ := id hit
  obtain ⟨ol, hol, _, nl, hdl⟩ := ht
  unfold Builtin.SmallTypes.nextOf
  refine wpAny_bind (wpAny_callSpecial?_slot (name := Str.ofString "__next__") hit.typeIs PySem.F.slot_tuple_iterator_next
    (wpAny_call_entry PySem.F.slot_tuple_iterator_next hit.typeIs PySem.F.entry_tuple_iterator_next ?_ (PySem.F.args_tuple_iterator_next_1 _)))
  show wpAny _ _ (field (.ref it) 0 >>= _) _ _ s
  refine wpAny_bind (wpAny_field ho hd (x := .ref t) rfl ?_)
  show wpAny _ _ (if (Value.ref t == Value.none) = true then _ else _) _ _ s
  rw [if_neg (show ¬ ((Value.ref t == Value.none) = true) from Bool.false_ne_true)]
  show wpAny _ _ (field (.ref it) 1 >>= _) _ _ s
  refine wpAny_bind (wpAny_field ho hd (x := .int i 0) rfl ?_)
  show wpAny _ _ (seqItems? (.ref t) >>= _) _ _ s
  refine wpAny_bind (wpAny_seqItems hol hdl ?_)
  simp only [Int.toNat_natCast, hx]
  refine wpAny_bind (wpAny_setField ho hd (by simp) (wpAny_pure ⟨x, rfl, wpAny_pure (hQ _ ?_ (Heap.SameBut.update ..))⟩))
  exact ⟨_, Heap.get?_update_self _ ho (Obj.isFreed_of_fields (Obj.data_mapFields hd _)), (Obj.cls_mapFields ..).trans hc, by
    rw [Obj.data_mapFields hd]; simp [rawInt]⟩
theorem end_tuple {it t : Addr} {i : Nat} {items : Array Value} {Q : Value → Shared → Prop} (hh : A.handled = none) (hit : s.heap.IsTupleIter it t i) (ht : s.heap.IsTuple t items) (hx : items[i]? = none)
    (hE : ∀ h' e, Heap.ExtBut it s.heap h' → (∃ o, h'.get? e = some o ∧ o.cls = .type "StopIteration") → E (.ref e) { s with heap := h' }) : wpAny (model prog w) A (Builtin.SmallTypes.nextOf (.ref it)) Q E s := by
  obtain ⟨o, ho, hc, hd⟩ := id hit
  obtain ⟨ol, hol, _, nl, hdl⟩ := ht
  unfold Builtin.SmallTypes.nextOf
  refine wpAny_bind (wpAny_callSpecial?_slot (name := Str.ofString "__next__") hit.typeIs PySem.F.slot_tuple_iterator_next
    (wpAny_call_entry PySem.F.slot_tuple_iterator_next hit.typeIs PySem.F.entry_tuple_iterator_next ?_ (PySem.F.args_tuple_iterator_next_1 _)))
  show wpAny _ _ (field (.ref it) 0 >>= _) _ _ s
  refine wpAny_bind (wpAny_field ho hd (x := .ref t) rfl ?_)
  show wpAny _ _ (if (Value.ref t == Value.none) = true then _ else _) _ _ s
  rw [if_neg (show ¬ ((Value.ref t == Value.none) = true) from Bool.false_ne_true)]
  show wpAny _ _ (field (.ref it) 1 >>= _) _ _ s
  refine wpAny_bind (wpAny_field ho hd (x := .int i 0) rfl ?_)
  show wpAny _ _ (seqItems? (.ref t) >>= _) _ _ s
  refine wpAny_bind (wpAny_seqItems hol hdl ?_)
  simp only [Int.toNat_natCast, hx]
  refine wpAny_bind (wpAny_rule (wpAny_bind (wpAny_setField ho hd (by simp) ?_)))
  show wpAny _ _ (newExc (.type "StopIteration") [] >>= _) _ _ _
  refine wpAny_bind ?_
  simp only [newExc, newTuple]
  refine wpAny_bind (wpAny_newObj_type ?_ (by size_fits))
  refine wpAny_bind (m := firstArgMember _ _) (wpAny_of_eq (a := Value.none) (by first | rfl | (simp only [firstArgMember]; rfl)) ?_)
  refine wpAny_newObj_type ?_ (by size_fits)
  simp only [raiseNew]
  refine wpAny_bind (wpAny_handled ?_)
  first | rw [show A.in1.handled = none from hh] | rw [hh]
  refine wpAny_bind (wpAny_pure (wpAny_throw ?_))
  exact hE _ _ (((Heap.SameBut.update ..).extBut.push _).push _) ⟨_, Heap.get?_push_size _ rfl, rfl⟩
theorem draws_tuple (hh : A.handled = none) (it t : Addr) (hne : t ≠ it) (items : Array Value) :
    Draws prog w A it [it, t] items.size (fun i v => items[i]? = some v) (fun i h => h.IsTupleIter it t i ∧ h.IsTuple t items) where
  live := fun _ _ st => let ⟨o, ho, _⟩ := st.1; ⟨o, ho⟩
  frame := fun _ _ _ st hk => ⟨let ⟨o, ho, r⟩ := st.1; ⟨o, hk it (by simp) o ho, r⟩, let ⟨o, ho, r⟩ := st.2; ⟨o, hk t (by simp) o ho, r⟩⟩
  item := fun i s Q E hi st hQ => by
    refine next_tuple st.1 st.2 (x := items[i]) (by simp [hi]) fun h' hit' hs' => ?_
    exact hQ _ h' s.toks (by simp [hi]) ⟨hit', st.2.extBut hs'.extBut hne⟩ hs'
  done := fun s Q E st hE => end_tuple hh st.1 st.2 (by simp) hE

abbrev IsTri (h : Heap) (T : Addr) (a b c : Value) : Prop := h.get? T = some { cls := .type "tuple", data := .seq #[a, b, c] }

theorem set_tri {T : Addr} {a b c x : Value} {k : Nat} {Q : Unit → Shared → Prop} (hT : IsTri s.heap T a b c)
    (h : ∀ h', h'.get? T = some { cls := .type "tuple", data := .seq ((#[a, b, c] : Array Value).setIfInBounds k x) } → Heap.SameBut T s.heap h' → Q () { s with heap := h' }) :
    wpAny (model prog w) A (updateSeq T (·.setIfInBounds k x)) Q E s := by
  refine wpAny_updateSeq hT rfl (h _ ?_ (Heap.SameBut.update ..))
  rw [Heap.get?_update_self _ hT rfl]
  simp [Obj.mapSeq]

/-- three sources that are apart -/
structure Apart3 (z TI TO i1 i2 i3 : Addr) (f1 f2 f3 : List Addr) : Prop where
  TIz : TI ≠ z
  TOz : TO ≠ z
  TITO : TI ≠ TO
  in1 : i1 ∈ f1
  in2 : i2 ∈ f2
  in3 : i3 ∈ f3
  z1 : z ∉ f1
  z2 : z ∉ f2
  z3 : z ∉ f3
  O1 : TO ∉ f1
  O2 : TO ∉ f2
  O3 : TO ∉ f3
  I1 : TI ≠ i1
  I2 : TI ≠ i2
  I3 : TI ≠ i3
  a12 : i1 ∉ f2
  a13 : i1 ∉ f3
  a21 : i2 ∉ f1
  a23 : i2 ∉ f3
  a31 : i3 ∉ f1
  a32 : i3 ∉ f2

/-- the zip's state ahead of turn i -/
structure Zip3 (z TI TO i1 i2 i3 : Addr) (S1 S2 S3 : Nat → Heap → Prop) (f0 : Value) (i : Nat) (h : Heap) : Prop where
  z : IsZip h z TI TO f0
  ti : IsTri h TI (.ref i1) (.ref i2) (.ref i3)
  to : ∃ a b c, IsTri h TO a b c
  s1 : S1 i h
  s2 : S2 i h
  s3 : S3 i h

theorem Zip3.keep {z TI TO i1 i2 i3 : Addr} {f1 f2 f3 : List Addr} {S1 S2 S3 : Nat → Heap → Prop} {f0 : Value} {i n : Nat} {h h' : Heap} {P1 P2 P3 : Nat → Value → Prop} (Z : Zip3 z TI TO i1 i2 i3 S1 S2 S3 f0 i h)
    (D1 : Draws prog w A i1 f1 n P1 S1) (D2 : Draws prog w A i2 f2 n P2 S2) (D3 : Draws prog w A i3 f3 n P3 S3) (k : ∀ b ∈ z :: TI :: TO :: (f1 ++ f2 ++ f3), ∀ o, h.get? b = some o → h'.get? b = some o) : Zip3 z TI TO i1 i2 i3 S1 S2 S3 f0 i h' where
  z := k z (by simp) _ Z.z
  ti := k TI (by simp) _ Z.ti
  to := let ⟨a, b, c, e⟩ := Z.to; ⟨a, b, c, k TO (by simp) _ e⟩
  s1 := D1.frame _ _ _ Z.s1 fun b hb o e => k b (by simp [hb]) o e
  s2 := D2.frame _ _ _ Z.s2 fun b hb o e => k b (by simp [hb]) o e
  s3 := D3.frame _ _ _ Z.s3 fun b hb o e => k b (by simp [hb]) o e

theorem zip3_item {z TI TO i1 i2 i3 : Addr} {f1 f2 f3 : List Addr} {n i : Nat} {P1 P2 P3 : Nat → Value → Prop} {S1 S2 S3 : Nat → Heap → Prop} {Q : Value → Shared → Prop} (X : Apart3 z TI TO i1 i2 i3 f1 f2 f3)
    (D1 : Draws prog w A i1 f1 n P1 S1) (D2 : Draws prog w A i2 f2 n P2 S2) (D3 : Draws prog w A i3 f3 n P3 S3) (hi : i < n) (Z : Zip3 z TI TO i1 i2 i3 S1 S2 S3 .none i s.heap)
    (hQ : ∀ x y u (T : Addr) h' tk, P1 i x → P2 i y → P3 i u → Zip3 z TI TO i1 i2 i3 S1 S2 S3 (rawInt T) (i + 1) h' → IsTri h' T x y u → s.heap.get? T = none → T ≠ z → (∀ c o, c ≠ z → c ≠ TO → c ≠ i1 → c ≠ i2 → c ≠ i3 → s.heap.get? c = some o → h'.get? c = some o) → Q (.ref T) { s with heap := h', toks := tk }) :
    wpAny (model prog w) A (Builtin.«zip.__next__» ⟨[.ref z], []⟩) (fun fin s' => ∃ v, fin = .done (.ret v) ∧ Q v s') E s := by
  obtain ⟨hz, hTI, ⟨a, b, c, hTO⟩, h1, h2, h3⟩ := Z
  have iz1 : i1 ≠ z := fun q => X.z1 (q ▸ X.in1)
  have iz2 : i2 ≠ z := fun q => X.z2 (q ▸ X.in2)
  have iz3 : i3 ≠ z := fun q => X.z3 (q ▸ X.in3)
  have io1 : i1 ≠ TO := fun q => X.O1 (q ▸ X.in1)
  have io2 : i2 ≠ TO := fun q => X.O2 (q ▸ X.in2)
  have io3 : i3 ≠ TO := fun q => X.O3 (q ▸ X.in3)
  show wpAny _ _ (field (.ref z) 2 >>= _) _ _ _
  refine wpAny_bind (wpAny_field hz rfl (x := .bool false) rfl ?_)
  show wpAny _ _ (field (.ref z) 3 >>= _) _ _ _
  refine wpAny_bind (wpAny_field hz rfl (x := .ref TI) rfl ?_)
  refine wpAny_bind (wpAny_seqItems hTI rfl ?_)
  show wpAny _ _ (Builtin.SmallTypes.ownedTupleIsFree (.ref z) >>= _) _ _ _
  refine wpAny_bind ?_
  unfold Builtin.SmallTypes.ownedTupleIsFree
  refine wpAny_bind (wpAny_field hz rfl (x := .none) rfl (wpAny_pure ?_))
  simp only [if_true]
  refine wpAny_bind (wpAny_rule ?_)
  refine wpAny_bind (wpAny_field hz rfl (x := .ref TO) rfl ?_)
  refine wpAny_bind (wpAny_setField_rec hz (by simp) fun g₁ hz₁ b₁ => ?_)
  replace hz₁ : IsZip g₁ z TI TO .ellipsis := hz₁
  refine wpAny_bind ?_
  simp only [List.zipIdx_cons, List.zipIdx_nil, List.forIn_cons, List.forIn_nil]
  -- the first
  refine wpAny_bind (wpAny_bind (wpAny_onRaise ?_))
  show wpAny _ _ (Builtin.SmallTypes.nextOf (.ref i1) >>= _) _ _ _
  refine wpAny_bind (D1.item i _ _ _ hi (D1.frame _ _ _ h1 fun c hc o e => (b₁.2 c (fun q => X.z1 (q ▸ hc))).trans e) fun x g₂ tk₂ px s1₂ b₂ => wpAny_pure ?_)
  dsimp only at b₂ ⊢
  have hTO₂ : IsTri g₂ TO a b c := (b₂.2 _ io1.symm).trans ((b₁.2 _ X.TOz).trans hTO)
  refine wpAny_bind (wpAny_seqItems hTO₂ rfl ?_)
  refine wpAny_bind (set_tri hTO₂ fun g₃ hTO₃ b₃ => ?_)
  replace hTO₃ : IsTri g₃ TO x b c := hTO₃
  refine wpAny_bind (wpAny_letGo (wpAny_pure ?_))
  dsimp only at b₃ ⊢
  have k13 : ∀ c o, c ≠ z → c ≠ TO → c ≠ i1 → s.heap.get? c = some o → g₃.get? c = some o := fun c o c1 c2 c3 e => (b₃.2 c c2).trans ((b₂.2 c c3).trans ((b₁.2 c c1).trans e))
  -- the second
  refine wpAny_bind (wpAny_bind (wpAny_onRaise ?_))
  show wpAny _ _ (Builtin.SmallTypes.nextOf (.ref i2) >>= _) _ _ _
  refine wpAny_bind (D2.item i _ _ _ hi (D2.frame _ _ _ h2 fun c hc o e => k13 c o (fun q => X.z2 (q ▸ hc)) (fun q => X.O2 (q ▸ hc)) (fun q => X.a12 (q ▸ hc)) e) fun y g₄ tk₄ py s2₄ b₄ => wpAny_pure ?_)
  dsimp only at b₄ ⊢
  have hTO₄ : IsTri g₄ TO x b c := (b₄.2 _ io2.symm).trans hTO₃
  refine wpAny_bind (wpAny_seqItems hTO₄ rfl ?_)
  refine wpAny_bind (set_tri hTO₄ fun g₅ hTO₅ b₅ => ?_)
  replace hTO₅ : IsTri g₅ TO x y c := hTO₅
  refine wpAny_bind (wpAny_letGo (wpAny_pure ?_))
  dsimp only at b₅ ⊢
  have k15 : ∀ c o, c ≠ z → c ≠ TO → c ≠ i1 → c ≠ i2 → s.heap.get? c = some o → g₅.get? c = some o := fun c o c1 c2 c3 c4 e => (b₅.2 c c2).trans ((b₄.2 c c4).trans (k13 c o c1 c2 c3 e))
  -- the third
  refine wpAny_bind (wpAny_bind (wpAny_onRaise ?_))
  show wpAny _ _ (Builtin.SmallTypes.nextOf (.ref i3) >>= _) _ _ _
  refine wpAny_bind (D3.item i _ _ _ hi (D3.frame _ _ _ h3 fun c hc o e => k15 c o (fun q => X.z3 (q ▸ hc)) (fun q => X.O3 (q ▸ hc)) (fun q => X.a13 (q ▸ hc)) (fun q => X.a23 (q ▸ hc)) e) fun u g₆ tk₆ pu s3₆ b₆ => wpAny_pure ?_)
  dsimp only at b₆ ⊢
  have hTO₆ : IsTri g₆ TO x y c := (b₆.2 _ io3.symm).trans hTO₅
  refine wpAny_bind (wpAny_seqItems hTO₆ rfl ?_)
  refine wpAny_bind (set_tri hTO₆ fun g₇ hTO₇ b₇ => ?_)
  replace hTO₇ : IsTri g₇ TO x y u := hTO₇
  refine wpAny_bind (wpAny_letGo (wpAny_pure (wpAny_pure ?_)))
  dsimp only at b₇ ⊢
  have k17 : ∀ c o, c ≠ z → c ≠ TO → c ≠ i1 → c ≠ i2 → c ≠ i3 → s.heap.get? c = some o → g₇.get? c = some o := fun c o c1 c2 c3 c4 c5 e => (b₇.2 c c2).trans ((b₆.2 c c5).trans (k15 c o c1 c2 c3 c4 e))
  have hz₇ : IsZip g₇ z TI TO .ellipsis := (b₇.2 _ X.TOz.symm).trans ((b₆.2 _ iz3.symm).trans ((b₅.2 _ X.TOz.symm).trans ((b₄.2 _ iz2.symm).trans ((b₃.2 _ X.TOz.symm).trans ((b₂.2 _ iz1.symm).trans hz₁)))))
  have hTI₇ : IsTri g₇ TI (.ref i1) (.ref i2) (.ref i3) := k17 _ _ X.TIz X.TITO X.I1 X.I2 X.I3 hTI
  have s1₇ : S1 (i + 1) g₇ := D1.frame _ _ _ s1₂ fun c hc o e => by
    have cT : c ≠ TO := fun q => X.O1 (q ▸ hc)
    have c2 : c ≠ i2 := fun q => X.a21 (q ▸ hc)
    have c3 : c ≠ i3 := fun q => X.a31 (q ▸ hc)
    exact (b₇.2 c cT).trans ((b₆.2 c c3).trans ((b₅.2 c cT).trans ((b₄.2 c c2).trans ((b₃.2 c cT).trans e))))
  have s2₇ : S2 (i + 1) g₇ := D2.frame _ _ _ s2₄ fun c hc o e => by
    have cT : c ≠ TO := fun q => X.O2 (q ▸ hc)
    have c3 : c ≠ i3 := fun q => X.a32 (q ▸ hc)
    exact (b₇.2 c cT).trans ((b₆.2 c c3).trans ((b₅.2 c cT).trans e))
  have s3₇ : S3 (i + 1) g₇ := D3.frame _ _ _ s3₆ fun c hc o e => (b₇.2 c (fun q => X.O3 (q ▸ hc))).trans e
  refine wpAny_bind (wpAny_seqItems hTO₇ rfl ?_)
  refine wpAny_bind (wpAny_newTuple ?_)
  show wpAny _ _ (Builtin.SmallTypes.ownedTupleHandOut (.ref z) (.ref g₇.objs.size) >>= _) _ _ _
  refine wpAny_bind ?_
  unfold Builtin.SmallTypes.ownedTupleHandOut
  have hz₈ : IsZip (g₇.push { cls := .type "tuple", data := .seq #[x, y, u] }) z TI TO .ellipsis := Heap.get?_push_of_some _ hz₇
  have nz : g₇.objs.size ≠ z := Nat.ne_of_gt (Heap.lt_size hz₇)
  refine wpAny_bind (wpAny_setField_rec hz₈ (by simp) fun g₈ hz₈' b₈ => ?_)
  replace hz₈' : IsZip g₈ z TI TO (rawInt g₇.objs.size) := hz₈'
  refine wpAny_setField_rec hz₈' (by simp) fun g₉ hz₉ b₉ => ?_
  replace hz₉ : IsZip g₉ z TI TO (rawInt g₇.objs.size) := hz₉
  have up : ∀ c o, c ≠ z → g₇.get? c = some o → g₉.get? c = some o := fun c o c1 e => (b₉.2 c c1).trans ((b₈.2 c c1).trans (Heap.get?_push_of_some _ e))
  have hT₉ : IsTri g₉ g₇.objs.size x y u := (b₉.2 _ nz).trans ((b₈.2 _ nz).trans (Heap.get?_push_size _ rfl))
  refine wpAny_pure ⟨_, rfl, ?_⟩
  refine hQ x y u g₇.objs.size g₉ _ px py pu ⟨hz₉, up _ _ X.TIz hTI₇, ⟨_, _, _, up _ _ X.TOz hTO₇⟩, D1.frame _ _ _ s1₇ fun c hc o e => up c o (fun q => X.z1 (q ▸ hc)) e, D2.frame _ _ _ s2₇ fun c hc o e => up c o (fun q => X.z2 (q ▸ hc)) e, D3.frame _ _ _ s3₇ fun c hc o e => up c o (fun q => X.z3 (q ▸ hc)) e⟩
    hT₉ ?_ nz fun c o c1 c2 c3 c4 c5 e => up c o c1 (k17 c o c1 c2 c3 c4 c5 e)
  have zs : g₇.objs.size = s.heap.objs.size := by rw [b₇.1, b₆.1, b₅.1, b₄.1, b₃.1, b₂.1, b₁.1]
  rw [zs]; exact fresh_none

theorem zip3_end {z TI TO i1 i2 i3 : Addr} {f1 f2 f3 : List Addr} {n : Nat} {P1 : Nat → Value → Prop} {S1 S2 S3 : Nat → Heap → Prop} {Q : Fin → Shared → Prop} (X : Apart3 z TI TO i1 i2 i3 f1 f2 f3)
    (D1 : Draws prog w A i1 f1 n P1 S1) (Z : Zip3 z TI TO i1 i2 i3 S1 S2 S3 .none n s.heap)
    (hE : ∀ h' e, (∀ c o, c ≠ z → c ≠ i1 → s.heap.get? c = some o → h'.get? c = some o) → (∃ o, h'.get? e = some o ∧ o.cls = .type "StopIteration") → E (.ref e) { s with heap := h' }) :
    wpAny (model prog w) A (Builtin.«zip.__next__» ⟨[.ref z], []⟩) Q E s := by
  obtain ⟨hz, hTI, ⟨a, b, c, hTO⟩, h1, h2, h3⟩ := Z
  have iz1 : i1 ≠ z := fun q => X.z1 (q ▸ X.in1)
  show wpAny _ _ (field (.ref z) 2 >>= _) _ _ _
  refine wpAny_bind (wpAny_field hz rfl (x := .bool false) rfl ?_)
  show wpAny _ _ (field (.ref z) 3 >>= _) _ _ _
  refine wpAny_bind (wpAny_field hz rfl (x := .ref TI) rfl ?_)
  refine wpAny_bind (wpAny_seqItems hTI rfl ?_)
  show wpAny _ _ (Builtin.SmallTypes.ownedTupleIsFree (.ref z) >>= _) _ _ _
  refine wpAny_bind ?_
  unfold Builtin.SmallTypes.ownedTupleIsFree
  refine wpAny_bind (wpAny_field hz rfl (x := .none) rfl (wpAny_pure ?_))
  simp only [if_true]
  refine wpAny_bind (wpAny_rule ?_)
  refine wpAny_bind (wpAny_field hz rfl (x := .ref TO) rfl ?_)
  refine wpAny_bind (wpAny_setField_rec hz (by simp) fun g₁ hz₁ b₁ => ?_)
  replace hz₁ : IsZip g₁ z TI TO .ellipsis := hz₁
  refine wpAny_bind ?_
  simp only [List.zipIdx_cons, List.zipIdx_nil, List.forIn_cons, List.forIn_nil]
  refine wpAny_bind (wpAny_bind (wpAny_onRaise ?_))
  show wpAny _ _ (Builtin.SmallTypes.nextOf (.ref i1) >>= _) _ _ _
  refine wpAny_bind (D1.done _ _ _ (D1.frame _ _ _ h1 fun c hc o e => (b₁.2 c (fun q => X.z1 (q ▸ hc))).trans e) fun g₂ e b₂ he => ?_)
  obtain ⟨oe, hoe, hce⟩ := he
  dsimp only at b₂ ⊢
  have hz₂ : IsZip g₂ z TI TO .ellipsis := b₂ _ _ iz1.symm hz₁
  have hez : e ≠ z := fun x => by subst x; rw [hz₂] at hoe; cases hoe; simp at hce
  exact wpAny_setField_rec hz₂ (by simp) fun g₃ _ b₃ => hE g₃ e (fun c o c1 c3 x => (b₃.2 c c1).trans (b₂ _ _ c3 ((b₁.2 c c1).trans x))) ⟨oe, (b₃.2 _ hez).trans hoe, hce⟩

/-- a for loop over a zip of three, with a tuple of names as its target -/
theorem for_zip3 {env : Env} {R : Result → Shared → Prop} {elts : List Expr} {k : Nat} {tpos : Pos} {body : List Stmt} {z TI TO i1 i2 i3 : Addr} {f1 f2 f3 : List Addr} {n : Nat} {P1 P2 P3 : Nat → Value → Prop} {S1 S2 S3 : Nat → Heap → Prop} (X : Apart3 z TI TO i1 i2 i3 f1 f2 f3)
    (D1 : Draws prog w A.in1 i1 f1 n P1 S1) (D2 : Draws prog w A.in1 i2 f2 n P2 S2) (D3 : Draws prog w A.in1 i3 f3 n P3 S3) (J : Nat → Shared → Prop) (hJ : J 0 s) (Z : Zip3 z TI TO i1 i2 i3 S1 S2 S3 .none 0 s.heap)
    (turn : ∀ i s x y u T h' tk E', i < n → J i s → P1 i x → P2 i y → P3 i u → TP h' T [x, y, u] → (∀ c o, c ≠ z → c ≠ TO → c ≠ i1 → c ≠ i2 → c ≠ i3 → s.heap.get? c = some o → h'.get? c = some o) →
      wpAny (model prog w) A (assign (.Tuple elts k tpos) env (.ref T)) (fun _ s₂ => wpAny (model prog w) A (execs body env) (fun f s₃ => match f with
        | .next | .cont => J (i + 1) s₃ ∧ ∀ b ∈ z :: TI :: TO :: (f1 ++ f2 ++ f3), ∀ o, h'.get? b = some o → s₃.heap.get? b = some o
        | .brk => R (.ok .next) s₃
        | .ret v => R (.ok (.ret v)) s₃) E' s₂) E' { s with heap := h', toks := tk })
    (done : ∀ s h' tk, J n s → (∀ c o, c ≠ z → c ≠ i1 → s.heap.get? c = some o → h'.get? c = some o) → R (.ok .next) { s with heap := h', toks := tk }) :
    codeAny (model prog w) A (.forLoop (.Tuple elts k tpos) (.ref z) body [] env) R s := by
  refine codeAny_forLoop_any (fun q s' => ∃ i, i + q = n ∧ J i s' ∧ Zip3 z TI TO i1 i2 i3 S1 S2 S3 .none i s'.heap) ?_ n ⟨0, by omega, hJ, Z⟩
  rintro q s' ⟨i, hi, hj, Zi⟩
  have hT : s'.TypeIs (.ref z) "zip" := ⟨_, Zi.z, rfl⟩
  by_cases hlt : i < n
  · unfold pyNext
    refine wpAny_bind (wpAny_attempt (wpAny_callSpecial?_slot (name := Str.ofString "__next__") hT PySem.F.slot_zip_next
      (wpAny_call_entry PySem.F.slot_zip_next hT PySem.F.entry_zip_next (zip3_item X D1 D2 D3 hlt Zi fun x y u T h₁ tk₁ px py pu Z₁ T₁ nT Tz k₁ => wpAny_pure ?_) (PySem.F.args_zip_next_1 _))))
    dsimp only
    refine wpAny_letOwnedTupleGo_zip Z₁.z fun h₂ z₂ b₂ => ?_
    dsimp only at b₂ ⊢
    have T₂ : TP h₂ T [x, y, u] := (b₂.2 T Tz).trans T₁
    refine wpAny_mono (turn i s' x y u T h₂ tk₁ _ hlt hj px py pu T₂ fun c o c1 c2 c3 c4 c5 e => (b₂.2 c c1).trans (k₁ c o c1 c2 c3 c4 c5 e)) (fun _ s₂ hw => wpAny_mono hw (fun f s₃ h₃ => ?_) fun _ _ x => x) fun _ _ x => x
    have Z₂ : Zip3 z TI TO i1 i2 i3 S1 S2 S3 .none (i + 1) h₂ := ⟨z₂, (b₂.2 _ X.TIz).trans Z₁.ti, let ⟨a, b, c, e⟩ := Z₁.to; ⟨a, b, c, (b₂.2 _ X.TOz).trans e⟩, D1.frame _ _ _ Z₁.s1 fun c hc o e => (b₂.2 c (fun q => X.z1 (q ▸ hc))).trans e, D2.frame _ _ _ Z₁.s2 fun c hc o e => (b₂.2 c (fun q => X.z2 (q ▸ hc))).trans e, D3.frame _ _ _ Z₁.s3 fun c hc o e => (b₂.2 c (fun q => X.z3 (q ▸ hc))).trans e⟩
    cases f with
    | next => exact ⟨q - 1, by omega, i + 1, by omega, h₃.1, Z₂.keep D1 D2 D3 h₃.2⟩
    | cont => exact ⟨q - 1, by omega, i + 1, by omega, h₃.1, Z₂.keep D1 D2 D3 h₃.2⟩
    | brk => exact h₃
    | ret v => exact h₃
  · obtain rfl : i = n := by omega
    unfold pyNext
    refine wpAny_bind (wpAny_attempt (wpAny_callSpecial?_slot (name := Str.ofString "__next__") hT PySem.F.slot_zip_next
      (wpAny_call_entry PySem.F.slot_zip_next hT PySem.F.entry_zip_next (zip3_end X D1 Zi fun h₁ e k₁ he => ?_) (PySem.F.args_zip_next_1 _))))
    obtain ⟨o, ho, hc⟩ := he
    refine wpAny_bind (wpAny_isInstance (T := "StopIteration") (b := true) ⟨o, ho, hc⟩ isSubtype_stop ?_)
    exact wpAny_pure (wpAny_execs_nil (done s' h₁ _ hj k₁))
end
end Mine

namespace Mine
open PySem PySem.W PySem.Calls PyProof.Rows

theorem typeCall_zip3 (a b c : Value) : checkTypeCall "zip" ⟨[a, b, c], []⟩ = pure () := by kernel_rfl
theorem newCall_zip3 (a b c : Value) : checkBuiltinCall "zip.__new__" ⟨[.type "zip", a, b, c], []⟩ = pure () := by kernel_rfl
theorem args_init4 (a b c d : Value) : argsOk "object.__init__" ⟨[a, b, c, d], []⟩ := by
  unfold argsOk; rw [signature?_of (id := "object.__init__") (n := ['_', '_', 't', 'i', 'n', 'i', '_', '_']) (o := ['t', 'c', 'e', 'j', 'b', 'o']) (by kernel_rfl) PySem.F.owner_object]; kernel_rfl

abbrev zH1 (h : Heap) (t : Addr) : Heap := h.push { cls := .type "tuple_iterator", data := .fields #[.ref t, .int 0 0] }
abbrev zH2 (h : Heap) (t l1 : Addr) : Heap := (zH1 h t).push { cls := .type "list_iterator", data := .fields #[.ref l1, .int 0 0] }
abbrev zH3 (h : Heap) (t l1 l2 : Addr) : Heap := (zH2 h t l1).push { cls := .type "list_iterator", data := .fields #[.ref l2, .int 0 0] }
abbrev zH4 (h : Heap) (t l1 l2 : Addr) : Heap := (zH3 h t l1 l2).push { cls := .type "tuple", data := .seq #[.ref h.objs.size, .ref (zH1 h t).objs.size, .ref (zH2 h t l1).objs.size] }
abbrev zH5 (h : Heap) (t l1 l2 : Addr) : Heap := (zH4 h t l1 l2).push { cls := .type "tuple", data := .seq #[.none, .none, .none] }
abbrev zH6 (h : Heap) (t l1 l2 : Addr) : Heap := (zH5 h t l1 l2).push { cls := .type "zip", data := .fields #[.none, .bool false, .bool false, .ref (zH3 h t l1 l2).objs.size, .ref (zH4 h t l1 l2).objs.size] }

set_option maxHeartbeats 4000000 in
theorem zip3_new (t l1 l2 : Addr) (ts xs ys : Array Value) :
    Meets (Builtin.«zip.__new__» ⟨[.type "zip", .ref t, .ref l1, .ref l2], []⟩) (fun _ R s => s.heap.IsTuple t ts ∧ s.heap.IsList l1 xs ∧ s.heap.IsList l2 ys ∧
      R (.ok (.ret (.ref (zH5 s.heap t l1 l2).objs.size))) { s with heap := zH6 s.heap t l1 l2 }) :=
  .of_wp fun prog w A R s h => by
    obtain ⟨hp, g, d, tk, os⟩ := s; obtain ⟨ht, hl1, hl2, h⟩ := h
    have hsub := sub_zip
    have hT : Heap.IsTuple (Shared.heap ⟨hp, g, d, tk, os⟩) t ts := ht
    have hL1 : Heap.IsList (Shared.heap ⟨hp.push { cls := .type "tuple_iterator", data := .fields #[.ref t, .int 0 0] }, g, d, tk, os⟩) l1 xs := Heap.IsList.push hl1 _
    have hL2 : Heap.IsList (Shared.heap ⟨(hp.push { cls := .type "tuple_iterator", data := .fields #[.ref t, .int 0 0] }).push { cls := .type "list_iterator", data := .fields #[.ref l1, .int 0 0] }, g, d, tk, os⟩) l2 ys := Heap.IsList.push (Heap.IsList.push hl2 _) _
    wp_walk using wpAny_pyIter_tuple hT, wpAny_pyIter_list hL1, wpAny_pyIter_list hL2
    exact ⟨_, rfl, h⟩

theorem apart3_new {n t l1 l2 : Nat} (tl : t < n) (h1 : l1 < n) (h2 : l2 < n) : Apart3 (n + 5) (n + 3) (n + 4) n (n + 1) (n + 2) [n, t] [n + 1, l1] [n + 2, l2] := by
  have ne : ∀ a b : Nat, a < b ∨ b < a → @Ne Addr a b := fun a b h q => by
    have q : a = b := q
    omega
  have nm : ∀ a b c : Nat, (a < b ∨ b < a) → (a < c ∨ c < a) → ¬ (List.Mem (α := Addr) a [b, c]) := fun a b c h1 h2 q => by
    rcases List.mem_cons.mp q with q | q
    · exact ne a b h1 q
    · exact ne a c h2 (List.mem_singleton.mp q)
  exact ⟨ne _ _ (by omega), ne _ _ (by omega), ne _ _ (by omega), .head _, .head _, .head _, nm _ _ _ (by omega) (by omega), nm _ _ _ (by omega) (by omega), nm _ _ _ (by omega) (by omega), nm _ _ _ (by omega) (by omega), nm _ _ _ (by omega) (by omega), nm _ _ _ (by omega) (by omega),
    ne _ _ (by omega), ne _ _ (by omega), ne _ _ (by omega), nm _ _ _ (by omega) (by omega), nm _ _ _ (by omega) (by omega), nm _ _ _ (by omega) (by omega), nm _ _ _ (by omega) (by omega), nm _ _ _ (by omega) (by omega), nm _ _ _ (by omega) (by omega)⟩
section
variable {prog : Program} {w : World} {A : Around} {E : Value → Shared → Prop} {s : Shared}
theorem call_zip3 {t l1 l2 : Addr} {ts xs ys : List Value} {Q : Value → Shared → Prop} (ht : TP s.heap t ts) (h1 : PL s.heap l1 xs) (h2 : PL s.heap l2 ys)
    (h : ∀ h' n, n = s.heap.objs.size → Zip3 (n + 5) (n + 3) (n + 4) n (n + 1) (n + 2) (fun i h => h.IsTupleIter n t i ∧ h.IsTuple t ts.toArray) (fun i h => h.IsListIter (n + 1) l1 i ∧ h.IsList l1 xs.toArray) (fun i h => h.IsListIter (n + 2) l2 i ∧ h.IsList l2 ys.toArray) .none 0 h' →
      Apart3 (n + 5) (n + 3) (n + 4) n (n + 1) (n + 2) [n, t] [n + 1, l1] [n + 2, l2] → t ≠ n → l1 ≠ n + 1 → l2 ≠ n + 2 → Kp s.heap h' → Q (.ref (n + 5)) { s with heap := h' }) :
    wpAny (model prog w) A (call (.type "zip") [.ref t, .ref l1, .ref l2]) Q E s := by
  have ht' : s.heap.IsTuple t ts.toArray := ⟨_, ht, rfl, _, rfl⟩
  refine callType_new PySem.F.called_zip (by decide) (typeCall_zip3 _ _ _) (newCall_zip3 _ _ _) (fun obj => args_init4 obj _ _ _) PySem.F.entry_zip_new (zip3_new t l1 l2 ts.toArray xs.toArray ys.toArray) ⟨ht', h1.isList, h2.isList, ?_⟩
  have z1 : (zH1 s.heap t).objs.size = s.heap.objs.size + 1 := Heap.size_push ..
  have z2 : (zH2 s.heap t l1).objs.size = s.heap.objs.size + 2 := by rw [Heap.size_push, z1]
  have z3 : (zH3 s.heap t l1 l2).objs.size = s.heap.objs.size + 3 := by rw [Heap.size_push, z2]
  have z4 : (zH4 s.heap t l1 l2).objs.size = s.heap.objs.size + 4 := by rw [Heap.size_push, z3]
  have z5 : (zH5 s.heap t l1 l2).objs.size = s.heap.objs.size + 5 := by rw [Heap.size_push, z4]
  have p : ∀ {h : Heap} {a : Addr} {o o' : Obj}, h.get? a = some o → (h.push o').get? a = some o := fun e => Heap.get?_push_of_some _ e
  have g6 : (zH6 s.heap t l1 l2).get? (zH5 s.heap t l1 l2).objs.size = some _ := Heap.get?_push_size _ rfl
  have g5 : (zH6 s.heap t l1 l2).get? (zH4 s.heap t l1 l2).objs.size = some _ := p (Heap.get?_push_size _ rfl)
  have g4 : (zH6 s.heap t l1 l2).get? (zH3 s.heap t l1 l2).objs.size = some _ := p (p (Heap.get?_push_size _ rfl))
  have g3 : (zH6 s.heap t l1 l2).get? (zH2 s.heap t l1).objs.size = some _ := p (p (p (Heap.get?_push_size _ rfl)))
  have g2 : (zH6 s.heap t l1 l2).get? (zH1 s.heap t).objs.size = some _ := p (p (p (p (Heap.get?_push_size _ rfl))))
  have g1 : (zH6 s.heap t l1 l2).get? s.heap.objs.size = some _ := p (p (p (p (p (Heap.get?_push_size _ rfl)))))
  have kp : Kp s.heap (zH6 s.heap t l1 l2) := fun c o x => p (p (p (p (p (p x)))))
  have tl : t < s.heap.objs.size := Heap.lt_size ht
  have l1l : l1 < s.heap.objs.size := let ⟨_, e⟩ := h1; Heap.lt_size e
  have l2l : l2 < s.heap.objs.size := let ⟨_, e⟩ := h2; Heap.lt_size e
  show _ ∧ _
  rw [z5, z3, z4] at g6
  rw [z4] at g5
  rw [z3, z1, z2] at g4
  rw [z2] at g3
  rw [z1] at g2
  rw [z5]
  refine ⟨⟨_, g6, rfl⟩, h _ _ rfl ⟨g6, g4, ⟨_, _, _, g5⟩, ⟨⟨_, g1, rfl, rfl⟩, ⟨_, kp _ _ ht, rfl, _, rfl⟩⟩, ⟨⟨_, g2, rfl, rfl⟩, (PL.keep h1 kp).isList⟩, ⟨⟨_, g3, rfl, rfl⟩, (PL.keep h2 kp).isList⟩⟩ (apart3_new tl l1l l2l) (Nat.ne_of_lt tl) (Nat.ne_of_lt (Nat.lt_succ_of_lt l1l)) (Nat.ne_of_lt (Nat.lt_succ_of_lt (Nat.lt_succ_of_lt l2l))) kp⟩
end
end Mine

namespace Mine
open PySem PySem.W PySem.Calls PyProof.Rows

/-- how many letters stand ahead of, at and behind a letter -/
def cnt3 (c : Nat) (l : List Nat) : List Int := [(aheadN c l : Nat), (l.count c : Nat), (l.length : Int) - (aheadN c l : Nat) - (l.count c : Nat)]
def dueK (H T : List Int) (i : Nat) : List Value := (List.range i).flatMap fun k => List.replicate ((H.getD k 0) - (T.getD k 0)).toNat (.int ((k : Int) - 1) 0)
theorem dueK_succ (H T : List Int) (i : Nat) : dueK H T (i + 1) = dueK H T i ++ List.replicate ((H.getD i 0) - (T.getD i 0)).toNat (.int ((i : Int) - 1) 0) := by
  unfold dueK
  rw [List.range_succ, List.flatMap_append]
  simp

section
variable {prog : Program} {w : World} {A : Around} {E : Value → Shared → Prop} {s : Shared} {mg mb : Str → Option Value}

/-- a += [v] * max(p - q, 0) -/
theorem aug_max {env : Env} {m : Str → Option Value} {x y p q : Str} {a : Addr} {vs : List Value} {v : Value} {i j : Int} {ti tj : Tok} {p1 p2 p3 p4 p5 p6 p7 p8 p9 p10 p11 : Pos} {kk : Nat} {Q : Flow → Shared → Prop} (G : Gl mg mb s.heap) (fe : FEnv env) (hh : A.handled = none) (hn : s.heap.Ns env.locals m) (ha : m x = some (.ref a)) (hv : m y = some v)
    (hp : m p = some (.int i ti)) (hq : m q = some (.int j tj)) (pl : PL s.heap a vs) (hl : vs.length + (i - j).toNat ≤ 500)
    (h : ∀ h' tk, h'.Ns env.locals (fun q => if q = x then some (.ref a) else m q) → PL h' a (vs ++ List.replicate (i - j).toNat v) → (∀ b o, b ≠ env.locals → b ≠ a → s.heap.get? b = some o → h'.get? b = some o) → Q .next { s with heap := h', toks := tk })
    (hkm : env.kindOf "max" = some .globalImplicit := by rfl) (hx : env.kindOf x = some .local := by rfl) (hy : env.kindOf y = some .local := by rfl) (hkp : env.kindOf p = some .local := by rfl) (hkq : env.kindOf q = some .local := by rfl)
    (hd : (y == ("__debug__" : Str)) = false := by decide) (hd2 : (p == ("__debug__" : Str)) = false := by decide) (hd3 : (q == ("__debug__" : Str)) = false := by decide) :
    wpAny (model prog w) A (exec (.AugAssign (.Name x p1) .Add (.BinOp (.List [.Name y p3] p2) .Mult (.Call (.Name "max" p4) [.BinOp (.Name p p5) .Sub (.Name q p6) p7, .Constant (.int 0) kk p8] [] p9) p10) p11) env) Q E s := by
  have aL : a ≠ env.locals := fun q => by obtain ⟨_, e⟩ := pl; obtain ⟨_, _, _, z, hdd, _⟩ := hn; rw [← q, e] at z; cases z; cases hdd
  refine wpAny_AugAssign_Name (wpAny_loadName_local fe.kind hx hn ha (wpAny_BinOp (List_ (args_cons (ld1 fe hn hv (args_nil (pl_new (by simp) fun h₁ k₁ p₁ z₁ => ?_)) hy hd) rfl))))
  have n₁ := hn.keeps k₁
  refine wpAny_Call_NameR (name_builtin (v := .builtin "max") (G.keeps k₁) fe hkm (by decide +kernel) (by kernel_rfl) ?_)
  refine PyProof.Rows.callWith_builtin1 (args_cons ?_)
  refine wpAny_BinOp (ld1 fe n₁ hp (ld1 fe n₁ hq (PyProof.Rows.sub_int ?_) hkq hd3) hkp hd2)
  refine args_cons (wpAny_Constant_int (args_nil ?_))
  refine max_two_ints hh fun h₂ tk₂ k₂ => ?_
  dsimp only at k₂ ⊢
  have k02 : Kp s.heap h₂ := k₁.trans k₂
  have fin : ∀ (e : Int) (t : Tok), e = ((i - j).toNat : Int) → wpAny (model prog w) A (binaryOp .Mult (.ref s.heap.objs.size) (.int e t)) (fun v s₂ => wpAny (model prog w) A (inplaceOp .Add (.ref a) v) (fun r s₃ => wpAny (model prog w) A (storeName env x r) (fun _ => Q .next) E s₃) E s₂) E { s with heap := h₂, toks := tk₂ } := by
    intro e t he
    refine pl_mul1 (PL.keep p₁ k₂) he (by omega) fun D h₃ k₃ nD p₃ => ?_
    dsimp only at k₃ nD ⊢
    have k03 : Kp s.heap h₃ := k02.trans k₃
    refine pl_iadd (PL.keep pl k03) p₃ (by rw [List.length_replicate]; omega) fun h₄ p₄ b₄ => ?_
    dsimp only at b₄ ⊢
    refine st1 fe ((hn.keeps k03).sameBut b₄ (Ne.symm aL)) (fun h₅ n₅ b₅ => ?_) hx
    exact h h₅ _ n₅ (PL.but p₄ b₅ aL) fun b o h1 h2 e => (b₅.2 b h1).trans ((b₄.2 b h2).trans (k03 b o e))
  by_cases hc : (0 : Int) > i - j
  · rw [if_pos hc]; exact fin _ _ (by omega)
  · rw [if_neg hc]; exact fin _ _ (by omega)

structure DInv (h₀ : Heap) (L a b : Addr) (H T : List Int) (i : Nat) (h : Heap) : Prop where
  loc : ∃ m, h.Ns L m ∧ m "lost" = some (.ref a) ∧ m "left" = some (.ref b)
  lost : ∃ vs, PL h a vs ∧ vs.map ky = dueK H T i
  left : ∃ vs, PL h b vs ∧ vs.map ky = dueK T H i
  keep : Kp h₀ h

theorem cnt_le {c : Nat} {l : List Nat} (h : l.length ≤ 40) (k : Nat) : -80 ≤ (cnt3 c l).getD k 0 ∧ (cnt3 c l).getD k 0 ≤ 40 := by
  have h1 : aheadN c l ≤ l.length := List.countP_le_length
  have h2 : l.count c ≤ l.length := List.count_le_length
  unfold cnt3
  rcases k with _ | _ | _ | k
  · simp; omega
  · simp; omega
  · simp; omega
  · simp
theorem dueK_len {H T : List Int} (h : ∀ k, (H.getD k 0 - T.getD k 0).toNat ≤ 120) (i : Nat) : (dueK H T i).length ≤ 120 * i := by
  unfold dueK
  have := flat_len (f := fun k : Nat => List.replicate ((H.getD k 0) - (T.getD k 0)).toNat (Value.int ((k : Int) - 1) 0)) (n := 120) (l := List.range i) fun k _ => by rw [List.length_replicate]; exact h k
  rwa [List.length_range] at this

set_option maxHeartbeats 4000000 in
theorem due_spec {f : Addr} {z1 z2 : Str} {c : Nat} {t1 t2 u : Tok} {rm : Nat} {Q : Value → Shared → Prop} (G : Gl mg mb s.heap) (hf : mg "_law_due" = some (.ref f)) (r : Room A (rm + 2)) (hz1 : z1.cps.toList.length ≤ 40) (hz2 : z2.cps.toList.length ≤ 40) (h61 : ∀ d ∈ z1.cps.toList, d ∈ six) (h62 : ∀ d ∈ z2.cps.toList, d ∈ six) (hc : c ∈ six)
    (hQ : ∀ T a b h' tk vL vR, TP h' T [.ref a, .ref b] → Kp s.heap h' → s.heap.get? T = none → s.heap.get? a = none → s.heap.get? b = none → PL h' a vL → PL h' b vR → vL.map ky = dueK (cnt3 c z1.cps.toList) (cnt3 c z2.cps.toList) 3 → vR.map ky = dueK (cnt3 c z2.cps.toList) (cnt3 c z1.cps.toList) 3 → Q (.ref T) { s with heap := h', toks := tk }) :
    wpAny (model prog w) A (call (.ref f) [.str z1 t1, .str z2 t2, .str (sg c) u]) Q E s := by
  refine enter (i := 12) (binds := [("mine", .str z1 t1), ("others", .str z2 t2), ("letter", .str (sg c) u)]) G (by decide) hf r (by intros; rfl) rfl rfl rfl fun h₁ cd F => ?_
  generalize hL : s.heap.objs.size = L at F ⊢
  have nL : s.heap.get? L = none := by rw [← hL]; exact fresh_none
  have hd : (A.deeper (envOf (fN (stm 12)) (fS (stm 12)) L f cd)).handled = none := (r.deeper _).handled
  have rd : Room (A.deeper (envOf (fN (stm 12)) (fS (stm 12)) L f cd)) (rm + 1) := r.deeper _
  -- lost, left = ([], [])
  refine wpAny_execs_cons ?_
  refine Assign_Tuple_swapped (names := ["lost", "left"]) ?_
  refine Tuple_ (args_cons (List_ (args_nil (pl_new (by simp) fun h₂ k₂ pa z₂ => ?_))))
  dsimp only at k₂ pa z₂ ⊢
  generalize ha : h₁.objs.size = a at pa z₂ ⊢
  have na : h₁.get? a = none := by rw [← ha]; exact fresh_none
  refine args_cons (List_ (args_nil (pl_new (by simp) fun h₃ k₃ pb z₃ => ?_)))
  dsimp only at k₃ pb z₃ ⊢
  generalize hb : h₂.objs.size = b at pb z₃ ⊢
  have nb : h₂.get? b = none := by rw [← hb]; exact fresh_none
  have ab : a ≠ b := let ⟨_, e⟩ := pa; ne_none e nb
  refine args_nil (tp_new (by simp) fun h₄ k₄ t₄ z₄ => ?_)
  dsimp only at k₄ t₄ z₄ ⊢
  have k14 : Kp h₁ h₄ := k₂.trans (k₃.trans k₄)
  refine un_swapped (fenv rfl) hd t₄ rfl rfl (F.ns.keeps k14) fun h₅ tk₅ n₅ k₅ => ?_
  change h₅.Ns L _ at n₅
  change ∀ b o, b ≠ L → h₄.get? b = some o → h₅.get? b = some o at k₅
  have aL : a ≠ L := fun q => by obtain ⟨_, _, _, z, _⟩ := F.ns; rw [← q, na] at z; cases z
  have bL : b ≠ L := fun q => by obtain ⟨_, _, _, z, _⟩ := F.ns.keeps k₂; rw [← q, nb] at z; cases z
  have I₅ : DInv s.heap L a b (cnt3 c z1.cps.toList) (cnt3 c z2.cps.toList) 0 h₅ := ⟨⟨_, n₅, rfl, rfl⟩, ⟨[], (PL.keep pa (k₃.trans k₄)).at fun o e => k₅ a o aL e, rfl⟩, ⟨[], (PL.keep pb k₄).at fun o e => k₅ b o bL e, rfl⟩,
    fun c o e => k₅ c o (ne_none e nL) (k14 c o (F.keep c o e))⟩
  have na0 : s.heap.get? a = none := up_none F.keep na
  have nb0 : s.heap.get? b = none := up_none (Kp.trans F.keep k₂) nb
  have G₅ : Gl mg mb h₅ := G.keeps I₅.keep
  dsimp only
  -- the sources
  refine wpAny_execs_cons ?_
  refine wpAny_For ?_
  refine wpAny_Call_NameR (name_builtin (v := .type "zip") G₅ (fenv rfl) rfl (by decide +kernel) (by kernel_rfl) ?_)
  refine PyProof.Rows.callWith_type1 ?_
  refine args_cons ?_
  refine Tuple_ ?_
  refine args_cons (wpAny_UnaryOp (wpAny_Constant_int (PyProof.Rows.neg_int ?_)))
  refine args_cons (wpAny_Constant_int (args_cons (wpAny_Constant_int (args_nil (tp_new (by simp) fun h₆ k₆ t₆ z₆ => ?_)))))
  dsimp only at k₆ t₆ z₆ ⊢
  have nT₁ : h₅.get? h₅.objs.size = none := fresh_none
  generalize h₅.objs.size = T₁ at t₆ z₆ nT₁ ⊢
  have G₆ : Gl mg mb h₆ := G₅.keeps k₆
  have n₆ := n₅.keeps k₆
  refine args_cons ?_
  refine call_fn (i := 11) G₆ (fenv rfl) (by decide) rfl rfl (args_cons (ld1 (fenv rfl) n₆ rfl (args_cons (ld1 (fenv rfl) n₆ rfl (args_nil ⟨Kp.rfl', fun fa hfa => counts_spec G₆ hfa rd (by omega) h61 hc fun D₁ h₇ tk₇ a1 a2 a3 k₇ p₇ nD₁ => ?_⟩)))))
  dsimp only at k₇ nD₁ ⊢
  have G₇ : Gl mg mb h₇ := G₆.keeps k₇
  have n₇ := n₆.keeps k₇
  refine args_cons ?_
  refine call_fn (i := 11) G₇ (fenv rfl) (by decide) rfl rfl (args_cons (ld1 (fenv rfl) n₇ rfl (args_cons (ld1 (fenv rfl) n₇ rfl (args_nil ⟨Kp.rfl', fun fa hfa => counts_spec G₇ hfa rd (by omega) h62 hc fun D₂ h₈ tk₈ b1 b2 b3 k₈ p₈ nD₂ => ?_⟩)))))
  dsimp only at k₈ nD₂ ⊢
  refine args_nil ?_
  have k58 : Kp h₅ h₈ := k₆.trans (k₇.trans k₈)
  refine call_zip3 (k₈ _ _ (k₇ _ _ t₆)) (PL.keep p₇ k₈) p₈ fun h₉ n hn Z X tn l1n l2n k₉ => ?_
  dsimp only at hn k₉ ⊢
  refine wpAny_pyIter_zip Z.z ?_
  have k59 : Kp h₅ h₉ := k58.trans k₉
  have below : ∀ {c : Addr} {o : Obj}, h₈.get? c = some o → c < n := fun e => hn ▸ Heap.lt_size e
  have fresh : ∀ {c : Addr} {o : Obj} (d : Nat), h₈.get? c = some o → c ≠ n + d := fun d e => Nat.ne_of_lt (Nat.lt_of_lt_of_le (below e) (Nat.le_add_right _ _))
  have oL : ∃ o, h₈.get? L = some o := let ⟨o, _, _, e, _⟩ := n₅.keeps k58; ⟨o, e⟩
  have oa : ∃ o, h₈.get? a = some o := let ⟨_, x, _⟩ := I₅.lost; let ⟨_, e⟩ := x; ⟨_, k58 _ _ e⟩
  have ob : ∃ o, h₈.get? b = some o := let ⟨_, x, _⟩ := I₅.left; let ⟨_, e⟩ := x; ⟨_, k58 _ _ e⟩
  have old5 : ∀ {c : Addr} {o : Obj}, s.heap.get? c = some o → h₈.get? c = some o := fun e => k58 _ _ (I₅.keep _ _ e)
  -- what an untouched step keeps
  have move : ∀ {i : Nat} {h h' : Heap}, DInv s.heap L a b (cnt3 c z1.cps.toList) (cnt3 c z2.cps.toList) i h → (∀ c o, c ≠ n + 5 → c ≠ n + 4 → c ≠ n → c ≠ n + 1 → c ≠ n + 2 → h.get? c = some o → h'.get? c = some o) → DInv s.heap L a b (cnt3 c z1.cps.toList) (cnt3 c z2.cps.toList) i h' := by
    rintro i h h' ⟨⟨m, n', x⟩, ⟨vF, pF, eF⟩, ⟨vS, pS, eS⟩, k⟩ kk
    obtain ⟨_, eL⟩ := oL
    obtain ⟨_, ea⟩ := oa
    obtain ⟨_, eb⟩ := ob
    exact ⟨⟨m, n'.at' fun o e => kk L o (fresh 5 eL) (fresh 4 eL) (fresh 0 eL) (fresh 1 eL) (fresh 2 eL) e, x⟩, ⟨vF, pF.at fun o e => kk a o (fresh 5 ea) (fresh 4 ea) (fresh 0 ea) (fresh 1 ea) (fresh 2 ea) e, eF⟩,
      ⟨vS, pS.at fun o e => kk b o (fresh 5 eb) (fresh 4 eb) (fresh 0 eb) (fresh 1 eb) (fresh 2 eb) e, eS⟩, fun c o e => kk c o (fresh 5 (old5 e)) (fresh 4 (old5 e)) (fresh 0 (old5 e)) (fresh 1 (old5 e)) (fresh 2 (old5 e)) (k c o e)⟩
  have dif : ∀ k, ((cnt3 c z1.cps.toList).getD k 0 - (cnt3 c z2.cps.toList).getD k 0).toNat ≤ 120 := fun k => by have := cnt_le (c := c) hz1 k; have := cnt_le (c := c) hz2 k; omega
  have dif' : ∀ k, ((cnt3 c z2.cps.toList).getD k 0 - (cnt3 c z1.cps.toList).getD k 0).toNat ≤ 120 := fun k => by have := cnt_le (c := c) hz1 k; have := cnt_le (c := c) hz2 k; omega
  refine for_zip3 (n := 3) X (draws_tuple (by exact hd) n T₁ tn #[_, _, _]) (Draws.list (by exact hd) (n + 1) D₁ l1n #[_, _, _]) (Draws.list (by exact hd) (n + 2) D₂ l2n #[_, _, _]) (fun i s' => ∃ h tk, s' = { s with heap := h, toks := tk } ∧ DInv s.heap L a b (cnt3 c z1.cps.toList) (cnt3 c z2.cps.toList) i h) ⟨h₉, _, rfl, move I₅ fun c o _ _ _ _ _ e => k59 c o e⟩ Z ?_ ?_
  · rintro i s' x y v T h' tk E' hi ⟨h, tk', rfl, J⟩ hx hy hv hT hk
    dsimp only at hk ⊢
    have hi3 : i < 3 := hi
    have J' := move J hk
    obtain ⟨⟨m, n', m1, m2⟩, ⟨vL, pL, eL⟩, ⟨vR, pR, eR⟩, kp⟩ := J'
    have hvals : ∃ tx ty tv, x = .int ((i : Int) - 1) tx ∧ y = .int ((cnt3 c z1.cps.toList).getD i 0) ty ∧ v = .int ((cnt3 c z2.cps.toList).getD i 0) tv := by
      rcases i with _ | _ | _ | i
      · injection (show some _ = some x from hx) with hx; injection (show some _ = some y from hy) with hy; injection (show some _ = some v from hv) with hv; subst hx; subst hy; subst hv; exact ⟨_, _, _, rfl, rfl, rfl⟩
      · injection (show some _ = some x from hx) with hx; injection (show some _ = some y from hy) with hy; injection (show some _ = some v from hv) with hv; subst hx; subst hy; subst hv; exact ⟨_, _, _, rfl, rfl, rfl⟩
      · injection (show some _ = some x from hx) with hx; injection (show some _ = some y from hy) with hy; injection (show some _ = some v from hv) with hv; subst hx; subst hy; subst hv; exact ⟨_, _, _, rfl, rfl, rfl⟩
      · omega
    obtain ⟨tx, ty, tv, rfl, rfl, rfl⟩ := hvals
    have lL : vL.length ≤ 120 * i := by have e1 := congrArg List.length eL; have e2 := dueK_len dif i; rw [List.length_map] at e1; omega
    have lR : vR.length ≤ 120 * i := by have e1 := congrArg List.length eR; have e2 := dueK_len dif' i; rw [List.length_map] at e1; omega
    have G₁ : Gl mg mb h' := G.keeps kp
    refine un_tuple (fenv rfl) hd hT rfl rfl rfl n' fun g₁ tg₁ ng₁ kg₁ => ?_
    change g₁.Ns L _ at ng₁
    change ∀ b o, b ≠ L → h'.get? b = some o → g₁.get? b = some o at kg₁
    dsimp only
    have kp₁ : Kp s.heap g₁ := fun c o e => kg₁ c o (ne_none e nL) (kp c o e)
    refine wpAny_execs_cons ?_
    refine aug_max (G.keeps kp₁) (fenv rfl) hd ng₁ m1 rfl rfl rfl (pL.at fun o e => kg₁ a o aL e) (by have := dif i; omega) fun g₂ tg₂ ng₂ pg₂ kg₂ => ?_
    change g₂.Ns L _ at ng₂
    change ∀ c o, c ≠ L → c ≠ a → g₁.get? c = some o → g₂.get? c = some o at kg₂
    dsimp only
    have kp₂ : Kp s.heap g₂ := fun c o e => kg₂ c o (ne_none e nL) (ne_none e na0) (kp₁ c o e)
    refine wpAny_execs_cons ?_
    refine aug_max (G.keeps kp₂) (fenv rfl) hd ng₂ m2 rfl rfl rfl (pR.at fun o e => kg₂ b o bL (Ne.symm ab) (kg₁ b o bL e)) (by have := dif' i; omega) fun g₃ tg₃ ng₃ pg₃ kg₃ => ?_
    change g₃.Ns L _ at ng₃
    change ∀ c o, c ≠ L → c ≠ b → g₂.get? c = some o → g₃.get? c = some o at kg₃
    dsimp only
    have kz : ∀ c o, c ≠ L → c ≠ a → c ≠ b → h'.get? c = some o → g₃.get? c = some o := fun c o h1 h2 h3 e => kg₃ c o h1 h3 (kg₂ c o h1 h2 (kg₁ c o h1 e))
    refine wpAny_execs_nil ⟨⟨g₃, _, rfl, ⟨_, ng₃, rfl, rfl⟩, ⟨_, pg₂.at fun o e => kg₃ a o aL ab e, ?_⟩, ⟨_, pg₃, ?_⟩, fun c o e => kz c o (ne_none e nL) (ne_none e na0) (ne_none e nb0) (kp c o e)⟩, ?_⟩
    · rw [List.map_append, eL, dueK_succ]; simp [ky]
    · rw [List.map_append, eR, dueK_succ]; simp [ky]
    · intro q hq o e
      obtain ⟨_, eL'⟩ := oL
      obtain ⟨_, ea⟩ := oa
      obtain ⟨_, eb⟩ := ob
      have big : ∀ d : Nat, @Ne Addr (n + d) L ∧ @Ne Addr (n + d) a ∧ @Ne Addr (n + d) b := fun d => ⟨(fresh d eL').symm, (fresh d ea).symm, (fresh d eb).symm⟩
      have dis : ∀ {q : Addr} {o : Obj}, h₈.get? q = some o → (∀ xs k, o ≠ { cls := .type "list", data := .seq xs k }) → True := fun _ _ => trivial
      have small : ∀ {q : Addr}, h₅.get? q = none → @Ne Addr q L ∧ @Ne Addr q a ∧ @Ne Addr q b := fun {q} hq => by
        obtain ⟨_, _, _, e1, _⟩ := n₅
        obtain ⟨_, x1, _⟩ := I₅.lost
        obtain ⟨_, e2⟩ := x1
        obtain ⟨_, x2, _⟩ := I₅.left
        obtain ⟨_, e3⟩ := x2
        exact ⟨(ne_none e1 hq).symm, (ne_none e2 hq).symm, (ne_none e3 hq).symm⟩
      have go : @Ne Addr q L ∧ @Ne Addr q a ∧ @Ne Addr q b := by
        simp only [List.cons_append, List.nil_append, List.mem_cons, List.not_mem_nil, or_false] at hq
        rcases hq with rfl | rfl | rfl | rfl | rfl | rfl | rfl | rfl | rfl
        · exact big 5
        · exact big 3
        · exact big 4
        · exact big 0
        · exact small nT₁
        · exact big 1
        · exact small (up_none k₆ nD₁)
        · exact big 2
        · exact small (up_none (k₆.trans k₇) nD₂)
      exact kz q o go.1 go.2.1 go.2.2 e
  · rintro s' h' tk ⟨h, tk', rfl, J⟩ hk
    dsimp only at hk ⊢
    have J' := move J fun c o h1 _ h3 _ _ e => hk c o h1 h3 e
    obtain ⟨⟨m, n', m1, m2⟩, ⟨vL, pL, eL⟩, ⟨vR, pR, eR⟩, kp⟩ := J'
    refine wpAny_execs_cons (wpAny_Return_some (Tuple_ (args_cons (ld1 (fenv rfl) n' m1 (args_cons (ld1 (fenv rfl) n' m2 (args_nil (tp_new (by simp) fun g k t z => ?_))))))))
    dsimp only at k t ⊢
    exact hQ _ a b g _ vL vR t (kp.trans k) (up_none kp fresh_none) na0 nb0 (PL.keep pL k) (PL.keep pR k) eL eR
end
end Mine

namespace Mine
open PySem PySem.W PySem.Calls PyProof.Rows

/-- what a value reads as -/
def toD : Value → PyData
  | .str x _ => .str x
  | .int i _ => .int i
  | _ => .none
def Plain (v : Value) : Prop := (∃ x t, v = .str x t ∧ PyData.strOk x = true) ∨ ∃ i t, v = .int i t
theorem toD_ky {v : Value} (h : Plain v) : toD v = toD (ky v) := by
  rcases h with ⟨x, t, rfl, _⟩ | ⟨i, t, rfl⟩ <;> rfl
theorem reads_plain {h : Heap} {v : Value} (p : Plain v) : Reads h v (toD v) [] := by
  rcases p with ⟨x, t, rfl, _⟩ | ⟨i, t, rfl⟩
  · exact .str x t
  · exact .int i t
theorem reads_all {h : Heap} : ∀ {vs : List Value}, (∀ v ∈ vs, Plain v) → ReadsAll h vs (vs.map toD) []
  | [], _ => .nil
  | v :: vs, hp => .cons (as := []) (bs := []) (reads_plain (hp v (.head _))) (reads_all fun u hu => hp u (.tail _ hu))
theorem lay_all : ∀ {vs : List Value}, (∀ v ∈ vs, Plain v) → PyData.canLayAll0 (vs.map toD) = true
  | [], _ => by simp [PyData.canLayAll0]
  | v :: vs, hp => by
    rw [List.map_cons, PyData.canLayAll0, lay_all fun u hu => hp u (.tail _ hu), Bool.and_true]
    rcases hp v (.head _) with ⟨x, t, rfl, hx⟩ | ⟨i, t, rfl⟩
    · show PyData.canLay0 (.str x) = true
      rw [PyData.canLay0]; exact hx
    · show PyData.canLay0 (.int i) = true
      rw [PyData.canLay0]
theorem depth_all : ∀ (vs : List Value), PyData.depthAll (vs.map toD) = 0
  | [] => by simp [PyData.depthAll]
  | v :: vs => by
    rw [List.map_cons, PyData.depthAll, depth_all vs]
    cases v <;> simp [toD, PyData.depth]
theorem same_data {vs us : List Value} (hv : ∀ v ∈ vs, Plain v) (hu : ∀ v ∈ us, Plain v) (e : vs.map ky = us.map ky) : vs.map toD = us.map toD := by
  have key : ∀ {ws : List Value}, (∀ v ∈ ws, Plain v) → ws.map toD = (ws.map ky).map toD := fun {ws} h => by
    rw [List.map_map]
    apply List.map_congr_left
    intro v hv
    exact toD_ky (h v hv)
  rw [key hv, key hu, e]

section
variable {prog : Program} {w : World} {A : Around} {E : Value → Shared → Prop} {s : Shared}

theorem reads_list {h : Heap} {a : Addr} {vs : List Value} (pl : PL h a vs) (hp : ∀ v ∈ vs, Plain v) : Reads h (.ref a) (.list (vs.map toD)) [a] := by
  obtain ⟨n, e⟩ := pl
  exact .list e rfl rfl (by simpa using reads_all hp)
/-- (a, b) != (c, d), of lists that are alike -/
theorem ne_pairs {T T' a b a' b' : Addr} {va vb va' vb' : List Value} {Q : Value → Shared → Prop} (ht : TP s.heap T [.ref a, .ref b]) (ht' : TP s.heap T' [.ref a', .ref b']) (pa : PL s.heap a va) (pb : PL s.heap b vb) (pa' : PL s.heap a' va') (pb' : PL s.heap b' vb')
    (ha : ∀ v ∈ va, Plain v) (hb : ∀ v ∈ vb, Plain v) (ha' : ∀ v ∈ va', Plain v) (hb' : ∀ v ∈ vb', Plain v) (ea : va.map ky = va'.map ky) (eb : vb.map ky = vb'.map ky) (hu : A.units + 10 < cLine) (h : Q (.bool false) s) :
    wpAny (model prog w) A (compareOp .NotEq (.ref T) (.ref T')) Q E s := by
  have r1 : Reads s.heap (.ref T) (.tuple [.list (va.map toD), .list (vb.map toD)]) ([a] ++ ([b] ++ [])) := .tuple ht rfl rfl (.cons (reads_list pa ha) (.cons (reads_list pb hb) .nil))
  have r2 : Reads s.heap (.ref T') (.tuple [.list (va.map toD), .list (vb.map toD)]) ([a'] ++ ([b'] ++ [])) := by
    rw [same_data ha ha' ea, same_data hb hb' eb]
    exact .tuple ht' rfl rfl (.cons (reads_list pa' ha') (.cons (reads_list pb' hb') .nil))
  have hl : PyData.canLay0 (.tuple [.list (va.map toD), .list (vb.map toD)]) = true := by
    simp [PyData.canLay0, PyData.canLayAll0, lay_all ha, lay_all hb]
  refine SeqAt.compareNe_reads r1 r2 hl hl ?_ ?_
  · simp [PyData.depth, PyData.depthAll, depth_all]
    omega
  · rw [SeqAt.eqv_refl _ hl]; exact h

theorem intsAre_of : ∀ {vs : List Value} {ns : List Int}, vs.map ky = ns.map (fun n => Value.int n 0) → IntsAre vs ns
  | [], [], _ => .nil
  | v :: vs, n :: ns, h => by
    rw [List.map_cons, List.map_cons, List.cons.injEq] at h
    obtain ⟨t, rfl⟩ := ky_int h.1
    exact .cons n t (intsAre_of h.2)
  | [], _ :: _, h => by simp at h
  | _ :: _, [], h => by simp at h
theorem of_intsAre {vs : List Value} {ns : List Int} (h : IntsAre vs ns) : vs.map ky = ns.map (fun n => Value.int n 0) := by
  induction h with
  | nil => rfl
  | cons n t _ ih => rw [List.map_cons, List.map_cons, ih]; rfl
theorem pl_sorted {l : Addr} {vs : List Value} {ns : List Int} {Q : Value → Shared → Prop} (pl : PL s.heap l vs) (hn : vs.map ky = ns.map (fun n => Value.int n 0)) (hz : vs.length < 64)
    (h : ∀ D h' (vs' : List Value) (ns' : List Int), Kp s.heap h' → s.heap.get? D = none → PL h' D vs' → vs'.map ky = ns'.map (fun n => Value.int n 0) → ns'.Perm ns → ns'.Pairwise (· ≤ ·) → Q (.ref D) { s with heap := h' }) :
    wpAny (model prog w) A (call (.builtin "sorted") [.ref l]) Q E s := by
  refine sorted_ints pl.isList (intsAre_of hn) hz fun out ns' hi hp hs => ?_
  obtain ⟨e, he⟩ := sortedAll_at s.heap vs out
  refine h _ _ out.toList ns' (fun b o q => sortedAll_old q) (Heap.get?_none_of_le (Nat.le_succ _)) ⟨e, ?_⟩ (of_intsAre hi) hp hs
  rw [he]

theorem pl_sum {l : Addr} {vs : List Value} {ns : List Nat} {Q : Value → Shared → Prop} (hh : A.handled = none) (pl : PL s.heap l vs) (hn : vs.map ky = ns.map (fun n : Nat => Value.int (n : Int) 0)) (hlt : ∀ n ∈ ns, n < 1000000) (hz : ns.length ≤ 100)
    (h : ∀ h' tk t (S : Int), Kp s.heap h' → Q (.int S t) { s with heap := h', toks := tk }) : wpAny (model prog w) A (call (.builtin "sum") [.ref l]) Q E s := by
  let xs : Array (Int × Tok) := (vs.map fun v => match v with | .int i t => (i, t) | _ => (0, 0)).toArray
  have hint : ∀ v ∈ vs, ∃ n t, v = Value.int ((n : Nat) : Int) t ∧ n < 1000000 := fun v hv => by
    have : ky v ∈ ns.map (fun n : Nat => Value.int (n : Int) 0) := hn ▸ List.mem_map.mpr ⟨v, hv, rfl⟩
    obtain ⟨n, hnm, e⟩ := List.mem_map.mp this
    obtain ⟨t, rfl⟩ := ky_int e.symm
    exact ⟨n, t, rfl, hlt n hnm⟩
  have hvl : vs.length ≤ 100 := by have := congrArg List.length hn; simp at this; omega
  have hx : intItems xs = vs.toArray := by
    apply Array.ext'
    simp only [intItems, xs]
    simp
    conv => rhs; rw [← List.map_id vs]
    apply List.map_congr_left
    intro v hv
    obtain ⟨n, t, rfl, _⟩ := hint v hv
    rfl
  have hnum : ∀ j, j < xs.size → 0 ≤ numAt xs j ∧ numAt xs j < 1000000 := fun j hj => by
    have hj' : j < vs.length := by simpa [xs] using hj
    obtain ⟨n, t, e, hn⟩ := hint vs[j] (List.getElem_mem hj')
    have : numAt xs j = n := by simp [numAt, xs, hj', e]
    omega
  have hpre : ∀ j, j ≤ xs.size → 0 ≤ preSum (numAt xs) j ∧ preSum (numAt xs) j ≤ 1000000 * j := by
    intro j
    induction j with
    | zero => intro _; simp [preSum]
    | succ j ih =>
      intro hj
      have h1 := ih (by omega)
      have h2 := hnum j (by omega)
      rw [preSum]
      omega
  have hxs : xs.size ≤ 100 := by simpa [xs] using hvl
  refine sum_intList (xs := xs) hh (by rw [hx]; exact pl.isList) (fun j hj => ?_) fun h' tk t' k => h h' tk t' _ k
  have h1 := hnum j hj
  have h2 := hpre (j + 1) (by omega)
  unfold InLong
  refine ⟨?_, ?_⟩ <;> omega

theorem six_item {i : Nat} {t u : Tok} {Q : Value → Shared → Prop} (hi : i < 6) (h : ∀ tk tk' c, c ∈ six → Q (.str (sg c) tk) { s with toks := tk' }) : SubscriptOn (model prog w) A (.str "efilmt" t) (.int (i : Nat) u) Q E s := by
  have hc : ((seqIndex? (i : Int) (Str.length "efilmt")).bind fun x => (Str.cps "efilmt")[x]?) = some (six.getD i 0) ∧ six.getD i 0 ∈ six := by
    have : ∀ i : Nat, i < 6 → ((seqIndex? (i : Int) (Str.length "efilmt")).bind fun x => (Str.cps "efilmt")[x]?) = some (six.getD i 0) ∧ six.getD i 0 ∈ six := by decide +kernel
    exact this i hi
  exact ⟨"str", "str.__getitem__", PySem.F.slot_str_getitem.lookup, typeIs_str _ _ _, PyProof.Rows.getItem_str (by simp; omega) hc.1 (h _ _ _ hc.2)⟩
end
end Mine

namespace Mine
open PySem PySem.W PySem.Calls PyProof.Rows

/-- what an item becomes through the last r stages -/
def finR (l : Str) : Nat → Value → List Value
  | 0, k => [k]
  | r + 1, k => (stK (3 - r) l k).flatMap (finR l r)
theorem fin_step {l : Str} {r : Nat} {K : List Value} : (K.flatMap (stK (3 - r) l)).flatMap (finR l r) = K.flatMap (finR l (r + 1)) := by
  rw [List.flatMap_assoc]; rfl
theorem fin_zero {l : Str} (K : List Value) : K.flatMap (finR l 0) = K := by
  induction K with
  | nil => rfl
  | cons k K ih => rw [List.flatMap_cons, ih]; rfl

/-- the kinds of items, stage by stage -/
def SigA (k : Value) : Prop := ∃ c, k = .str (sg c) 0 ∧ c < 0x110000 ∧ (b1L.contains (c : Int) = true ∨ ∃ m, (c, m) ∈ stock14)
def DI : Nat → Value → Prop
  | 0, k => SigA k
  | 1, k => SigA k
  | 2, k => ∃ c m, k = .str (sg c) 0 ∧ (c, m) ∈ stock14
  | 3, k => ∃ d, d ∈ six ∧ k = .str (sg d) 0
  | _, k => ∃ i : Int, k = .int i 0 ∧ (i = -1 ∨ i = 0 ∨ i = 1)
theorem stock_facts : (stock14.all fun p => decide (p.1 < 0x110000) && !b1L.contains (p.1 : Int) && p.2.cps.toList.all (fun d => decide (d ∈ six)) && decide (p.2.cps.toList.length ≤ 3)) = true := by decide
theorem stock_at {c : Nat} {m : Str} (h : (c, m) ∈ stock14) : c < 0x110000 ∧ b1L.contains (c : Int) = false ∧ (∀ d ∈ m.cps.toList, d ∈ six) ∧ m.cps.toList.length ≤ 3 := by
  have := List.all_eq_true.mp stock_facts _ h
  simp only [Bool.and_eq_true, decide_eq_true_eq, List.all_eq_true, Bool.not_eq_true'] at this
  exact ⟨this.1.1.1, this.1.1.2, this.1.2, this.2⟩
theorem six_small : ∀ d ∈ six, d < 0x110000 := by decide
theorem cmp_six : (six.all fun d => six.all fun c => (decide (cmpI (sg d) (sg c) = -1) == decide (idx d < idx c)) && (decide (cmpI (sg d) (sg c) = 0) == decide (d = c)) && (decide (cmpI (sg d) (sg c) = 1) == decide (¬ idx d < idx c ∧ ¬ d = c))) = true := by decide
theorem cmp_at {d c : Nat} (hd : d ∈ six) (hc : c ∈ six) : (cmpI (sg d) (sg c) = -1 ↔ idx d < idx c) ∧ (cmpI (sg d) (sg c) = 0 ↔ d = c) ∧ (cmpI (sg d) (sg c) = 1 ↔ ¬ idx d < idx c ∧ ¬ d = c) := by
  have := List.all_eq_true.mp (List.all_eq_true.mp cmp_six d hd) c hc
  simp only [Bool.and_eq_true, beq_iff_eq, decide_eq_decide] at this
  exact ⟨this.1.1, this.1.2, this.2⟩
theorem idx_ne {d c : Nat} (h : idx d < idx c) : d ≠ c := fun q => by rw [q] at h; exact Nat.lt_irrefl _ h
theorem DI.dom {i : Nat} {k : Value} (h : DI i k) (hi : i < 4) : Dom i k := by
  match i, h with
  | 0, _ => exact trivial
  | 1, h => obtain ⟨c, e, _⟩ := h; exact ⟨c, e⟩
  | 2, h => obtain ⟨c, m, e, hm⟩ := h; exact ⟨c, m, e, hm⟩
  | 3, h => obtain ⟨d, _, e⟩ := h; exact ⟨_, e⟩
  | i + 4, _ => omega
theorem DI.step {i : Nat} {k k' : Value} {c : Nat} (hc : c ∈ six) (h : DI i k) (hi : i < 4) (hk : k' ∈ stK i (sg c) k) : DI (i + 1) k' := by
  match i, h with
  | 0, h =>
    have e : stK 0 (sg c) k = [k] := by unfold stK; rfl
    rw [e, List.mem_singleton] at hk; subst hk; exact h
  | 1, h =>
    obtain ⟨s, rfl, hs, ho⟩ := h
    change k' ∈ (if b1L.contains (cpOf (sg s) : Int) then [] else [Value.str (sg s) 0]) at hk
    have hcp : cpOf (sg s) = s := rfl
    rw [hcp] at hk
    rcases ho with ho | ⟨m, hm⟩
    · rw [if_pos ho] at hk; cases hk
    · rw [if_neg (by rw [(stock_at hm).2.1]; decide), List.mem_singleton] at hk
      subst hk
      exact ⟨s, m, rfl, hm⟩
  | 2, h =>
    obtain ⟨s, m, rfl, hm⟩ := h
    change k' ∈ sgs (meantOf (sg s)) at hk
    rw [meant_of hm] at hk
    obtain ⟨d, hd, rfl⟩ := List.mem_map.mp hk
    exact ⟨d, (stock_at hm).2.2.1 d hd, rfl⟩
  | 3, h =>
    obtain ⟨d, hd, rfl⟩ := h
    change k' ∈ [Value.int (cmpI (sg d) (sg c)) 0] at hk
    rw [List.mem_singleton] at hk
    subst hk
    refine ⟨_, rfl, ?_⟩
    obtain ⟨h1, h2, h3⟩ := cmp_at hd hc
    by_cases h : idx d < idx c
    · exact .inl (h1.mpr h)
    · by_cases e : d = c
      · exact .inr (.inl (h2.mpr e))
      · exact .inr (.inr (h3.mpr ⟨h, e⟩))
  | i + 4, _ => omega
theorem DI.len {i : Nat} {k : Value} {l : Str} (h : DI i k) (hi : i < 4) : (stK i l k).length ≤ 3 ∧ (i ≠ 2 → (stK i l k).length ≤ 1) := by
  match i, h with
  | 0, h => unfold stK; simp
  | 1, h =>
    obtain ⟨s, rfl, hs, ho⟩ := h
    change (if b1L.contains (cpOf (sg s) : Int) then [] else [Value.str (sg s) 0]).length ≤ 3 ∧ (_ → (if b1L.contains (cpOf (sg s) : Int) then [] else [Value.str (sg s) 0]).length ≤ 1)
    split <;> simp
  | 2, h =>
    obtain ⟨s, m, rfl, hm⟩ := h
    change (sgs (meantOf (sg s))).length ≤ 3 ∧ _
    rw [meant_of hm]
    refine ⟨?_, fun q => absurd rfl q⟩
    have := (stock_at hm).2.2.2
    simpa [sgs] using this
  | 3, h =>
    obtain ⟨d, hd, rfl⟩ := h
    change ([Value.int (cmpI (sg d) l) 0] : List Value).length ≤ 3 ∧ (_ → ([Value.int (cmpI (sg d) l) 0] : List Value).length ≤ 1)
    simp
  | i + 4, _ => omega
theorem plain_of {i : Nat} {v : Value} (h : DI i (ky v)) : Plain v := by
  have st : ∀ {c : Nat}, ky v = .str (sg c) 0 → c < 0x110000 → Plain v := fun {c} e hc => by
    obtain ⟨t, rfl⟩ := ky_str e
    refine .inl ⟨_, t, rfl, ?_⟩
    unfold PyData.strOk
    simpa using hc
  match i, h with
  | 0, ⟨c, e, hc, _⟩ => exact st e hc
  | 1, ⟨c, e, hc, _⟩ => exact st e hc
  | 2, ⟨c, m, e, hm⟩ => exact st e (stock_at hm).1
  | 3, ⟨d, hd, e⟩ => exact st e (six_small d hd)
  | i + 4, ⟨j, e, _⟩ =>
    obtain ⟨t, rfl⟩ := ky_int e
    exact .inr ⟨j, t, rfl⟩
theorem homo_of {i : Nat} {vs us : List Value} (h1 : ∀ v ∈ vs, DI i (ky v)) (h2 : ∀ v ∈ us, DI i (ky v)) : Homo vs us := by
  have one : ∀ {ws : List Value}, (∀ v ∈ ws, DI i (ky v)) → i < 4 → Strs ws := fun {ws} h hi v hv => by
    have := h v hv
    match i, this with
    | 0, ⟨c, e, _⟩ => obtain ⟨t, rfl⟩ := ky_str e; exact ⟨_, _, rfl⟩
    | 1, ⟨c, e, _⟩ => obtain ⟨t, rfl⟩ := ky_str e; exact ⟨_, _, rfl⟩
    | 2, ⟨c, m, e, _⟩ => obtain ⟨t, rfl⟩ := ky_str e; exact ⟨_, _, rfl⟩
    | 3, ⟨d, _, e⟩ => obtain ⟨t, rfl⟩ := ky_str e; exact ⟨_, _, rfl⟩
    | i + 4, _ => omega
  have two : ∀ {ws : List Value}, (∀ v ∈ ws, DI i (ky v)) → 4 ≤ i → Ints ws := fun {ws} h hi v hv => by
    have := h v hv
    match i, this with
    | 0, _ => omega
    | 1, _ => omega
    | 2, _ => omega
    | 3, _ => omega
    | i + 4, ⟨j, e, _⟩ => obtain ⟨t, rfl⟩ := ky_int e; exact ⟨_, _, rfl⟩
  by_cases hi : i < 4
  · exact .inl ⟨one h1 hi, one h2 hi⟩
  · exact .inr ⟨two h1 (by omega), two h2 (by omega)⟩

/-- the balance that every stage and every call keeps -/
def Bal (l : Str) (r : Nat) (H0 T0 KH KT : List Value) : Prop := ∀ y, (KH.flatMap (finR l r)).count y + T0.count y = H0.count y + (KT.flatMap (finR l r)).count y
theorem Bal.step {l : Str} {r : Nat} {H0 T0 KH KT : List Value} (h : Bal l (r + 1) H0 T0 KH KT) : Bal l r H0 T0 (KH.flatMap (stK (3 - r) l)) (KT.flatMap (stK (3 - r) l)) := fun y => by
  rw [fin_step, fin_step]; exact h y
theorem Bal.uld {l : Str} {r : Nat} {H0 T0 KH KT : List Value} (h : Bal l r H0 T0 KH KT) : Bal l r H0 T0 (uld KH KT).1 (uld KH KT).2 := fun y => by
  have h1 := h y
  have h2 := uld_sum (finR l r) y KT KH
  omega

/-- the signs' bag, all the way down -/
theorem sign_cases (v : Nat) : ((signOf v).1, (signOf v).2) ∈ stock14 ∨ ((signOf v).1 < 0x110000 ∧ b1L.contains ((signOf v).1 : Int) = true ∧ (signOf v).2 = Str.empty) := by
  unfold signOf
  split
  · rename_i h
    left
    have h' : v % 16 < stock14.length := h
    rw [List.getD_eq_getElem?_getD, List.getElem?_eq_getElem h']
    exact List.getElem_mem h'
  · right
    have h27 : v / 64 % 27 < 27 := Nat.mod_lt _ (by decide)
    have : ∀ k < 27, (b1L.getD k 0).toNat < 0x110000 ∧ b1L.contains (((b1L.getD k 0).toNat : Nat) : Int) = true := by decide
    exact ⟨(this _ h27).1, (this _ h27).2, rfl⟩
theorem sigA_of (v : Nat) : SigA (.str (sg (signOf v).1) 0) := by
  rcases sign_cases v with h | ⟨h1, h2, _⟩
  · exact ⟨_, rfl, (stock_at h).1, .inr ⟨_, h⟩⟩
  · exact ⟨_, rfl, h1, .inl h2⟩
def cmpK (c d : Nat) : Value := .int (cmpI (sg d) (sg c)) 0
theorem fin_sign (c v : Nat) : finR (sg c) 4 (.str (sg (signOf v).1) 0) = (signOf v).2.cps.toList.map (cmpK c) := by
  have e0 : finR (sg c) 4 (.str (sg (signOf v).1) 0) = (if b1L.contains ((signOf v).1 : Int) then [] else [Value.str (sg (signOf v).1) 0]).flatMap (finR (sg c) 2) := by
    show ([Value.str (sg (signOf v).1) 0] : List Value).flatMap (finR (sg c) 3) = _
    rw [List.flatMap_singleton]
    rfl
  rw [e0]
  rcases sign_cases v with h | ⟨_, h2, h3⟩
  · rw [(stock_at h).2.1, if_neg (by decide), List.flatMap_singleton]
    show (sgs (meantOf (sg (signOf v).1))).flatMap (finR (sg c) 1) = _
    rw [meant_of h]
    unfold sgs
    generalize (signOf v).2.cps.toList = l
    induction l with
    | nil => rfl
    | cons d l ih => rw [List.map_cons, List.flatMap_cons, ih, List.map_cons]; rfl
  · rw [h2, h3]; rfl
theorem bag_fin (f : Nat → Nat) (c : Nat) (ns : List Nat) : (ns.flatMap (bagS f)).flatMap (finR (sg c) 4) = (ns.flatMap (bagL f)).map (cmpK c) := by
  rw [List.flatMap_assoc, List.map_flatMap]
  congr 1
  funext v
  unfold bagS bagL
  generalize f v = n
  induction n with
  | zero => rfl
  | succ n ih => rw [List.replicate_succ, List.flatMap_cons, ih, fin_sign, List.replicate_succ, List.flatten_cons, List.map_append]
theorem bagL_six {f : Nat → Nat} {ns : List Nat} : ∀ d ∈ ns.flatMap (bagL f), d ∈ six := by
  intro d hd
  obtain ⟨v, _, hv⟩ := List.mem_flatMap.mp hd
  obtain ⟨l, hl, hd⟩ := List.mem_flatten.mp hv
  rw [(List.mem_replicate.mp hl).2] at hd
  rcases sign_cases v with h | ⟨_, _, h3⟩
  · exact (stock_at h).2.2.1 d hd
  · rw [h3] at hd; cases hd
theorem bagS_sig {f : Nat → Nat} {ns : List Nat} : ∀ k ∈ ns.flatMap (bagS f), SigA k := by
  intro k hk
  obtain ⟨v, _, hv⟩ := List.mem_flatMap.mp hk
  rw [(List.mem_replicate.mp hv).2]
  exact sigA_of v

/-- the counts of a compared text -/
theorem cmp_counts {c : Nat} (hc : c ∈ six) : ∀ {l : List Nat}, (∀ d ∈ l, d ∈ six) → (l.map (cmpK c)).count (.int (-1) 0) = aheadN c l ∧ (l.map (cmpK c)).count (.int 0 0) = l.count c ∧ (l.map (cmpK c)).count (.int 1 0) + aheadN c l + l.count c = l.length
  | [], _ => ⟨rfl, rfl, rfl⟩
  | d :: l, h => by
    obtain ⟨i1, i2, i3⟩ := cmp_counts hc (l := l) fun x hx => h x (.tail _ hx)
    obtain ⟨h1, h2, h3⟩ := cmp_at (h d (.head _)) hc
    unfold aheadN at *
    rw [List.map_cons, List.count_cons, List.count_cons, List.count_cons, List.countP_cons, List.count_cons, List.length_cons]
    have b : ∀ i : Int, (cmpK c d == Value.int i 0) = decide (cmpI (sg d) (sg c) = i) := fun i => by
      rw [Bool.eq_iff_iff]; simp [cmpK]
    rw [b, b, b]
    by_cases hlt : idx d < idx c
    · have hne := idx_ne hlt
      have e := h1.mpr hlt
      simp [e, hlt, hne]
      omega
    · by_cases he : d = c
      · have e := h2.mpr he
        subst he
        simp [e]
        omega
      · have e := h3.mpr ⟨hlt, he⟩
        simp [e, hlt, he]
        omega

def dueI (H T : List Int) : List Int := List.replicate (H.getD 0 0 - T.getD 0 0).toNat (-1) ++ (List.replicate (H.getD 1 0 - T.getD 1 0).toNat 0 ++ List.replicate (H.getD 2 0 - T.getD 2 0).toNat 1)
theorem due_int (H T : List Int) : dueK H T 3 = (dueI H T).map (fun n => Value.int n 0) := by
  unfold dueK dueI
  simp [List.range_succ, List.flatMap_append]
theorem due_sorted (H T : List Int) : (dueI H T).Pairwise (· ≤ ·) := by
  unfold dueI
  rw [List.pairwise_append, List.pairwise_append]
  have rep : ∀ (n : Nat) (x : Int), (List.replicate n x).Pairwise (· ≤ ·) := fun n x => by
    rw [List.pairwise_replicate]; right; exact Int.le_refl _
  refine ⟨rep _ _, ⟨rep _ _, rep _ _, ?_⟩, ?_⟩
  · intro a ha b hb
    rw [(List.mem_replicate.mp ha).2, (List.mem_replicate.mp hb).2]; decide
  · intro a ha b hb
    rw [(List.mem_replicate.mp ha).2]
    rcases List.mem_append.mp hb with hb | hb
    · rw [(List.mem_replicate.mp hb).2]; decide
    · rw [(List.mem_replicate.mp hb).2]; decide
theorem int_inj : ∀ {ns ms : List Int}, ns.map (fun n => Value.int n 0) = ms.map (fun n => Value.int n 0) → ns = ms
  | [], [], _ => rfl
  | n :: ns, m :: ms, h => by
    rw [List.map_cons, List.map_cons, List.cons.injEq] at h
    have h1 : n = m := by have := h.1; simpa using this
    rw [h1, int_inj h.2]
  | [], _ :: _, h => by simp at h
  | _ :: _, [], h => by simp at h
theorem count_int (i : Int) : ∀ ns : List Int, (ns.map (fun n => Value.int n 0)).count (.int i 0) = ns.count i
  | [] => rfl
  | n :: ns => by
    rw [List.map_cons, List.count_cons, List.count_cons, count_int i ns]
    have : (Value.int n 0 == Value.int i 0) = (n == i) := by rw [Bool.eq_iff_iff]; simp
    rw [this]
/-- what is left of two texts, sorted, is what is due -/
theorem sorted_due {c : Nat} {LH LT : List Nat} {KH KT : List Value} {ns ns' : List Int} (hc : c ∈ six) (hH : ∀ d ∈ LH, d ∈ six) (hT : ∀ d ∈ LT, d ∈ six) (hb : ∀ y, KH.count y + (LT.map (cmpK c)).count y = (LH.map (cmpK c)).count y + KT.count y)
    (hap : ∀ y ∈ KH, y ∉ KT) (hdi : ∀ k ∈ KH, DI 4 k) (hn : KH = ns.map (fun n => Value.int n 0)) (hp : ns'.Perm ns) (hs : ns'.Pairwise (· ≤ ·)) : ns'.map (fun n => Value.int n 0) = dueK (cnt3 c LH) (cnt3 c LT) 3 := by
  rw [due_int]
  congr 1
  refine List.Perm.eq_of_pairwise (le := (· ≤ ·)) (fun a b _ _ h1 h2 => Int.le_antisymm h1 h2) hs (due_sorted _ _) (hp.trans (List.perm_iff_count.mpr fun i => ?_))
  have hk : ns.count i = KH.count (.int i 0) := by rw [hn, count_int]
  rw [hk]
  have key : ∀ y, KH.count y = (LH.map (cmpK c)).count y - (LT.map (cmpK c)).count y := fun y => by
    have := hb y
    by_cases hy : y ∈ KH
    · have := List.count_eq_zero.mpr (hap y hy)
      omega
    · have := List.count_eq_zero.mpr hy
      omega
  obtain ⟨a1, a2, a3⟩ := cmp_counts hc hH
  obtain ⟨b1, b2, b3⟩ := cmp_counts hc hT
  have g0 : ∀ l : List Nat, (cnt3 c l).getD 0 0 = (aheadN c l : Nat) := fun _ => rfl
  have g1 : ∀ l : List Nat, (cnt3 c l).getD 1 0 = (l.count c : Nat) := fun _ => rfl
  have g2 : ∀ l : List Nat, (cnt3 c l).getD 2 0 = (l.length : Int) - (aheadN c l : Nat) - (l.count c : Nat) := fun _ => rfl
  unfold dueI
  rw [List.count_append, List.count_append, List.count_replicate, List.count_replicate, List.count_replicate, g0, g0, g1, g1, g2, g2]
  by_cases h1 : i = -1
  · subst h1
    rw [key, a1, b1]; simp
  · by_cases h2 : i = 0
    · subst h2
      rw [key, a2, b2]; simp
    · by_cases h3 : i = 1
      · subst h3
        rw [key]; simp
        omega
      · have : KH.count (.int i 0) = 0 := List.count_eq_zero.mpr fun hm => by
          obtain ⟨j, e, hj⟩ := hdi _ hm
          have : i = j := by simpa using e
          omega
        rw [this]
        have e1 : ((-1 : Int) == i) = false := by simpa using Ne.symm h1
        have e2 : ((0 : Int) == i) = false := by simpa using Ne.symm h2
        have e3 : ((1 : Int) == i) = false := by simpa using Ne.symm h3
        rw [e1, e2, e3]; rfl
end Mine

namespace Mine
open PySem PySem.W PySem.Calls PyProof.Rows

def forB : Stmt → List Stmt | .For _ _ b _ _ => b | _ => []
/-- the loop over the choices, and the loop over the stages in it -/
def lawOut : Stmt := (fB (stm 15)).getD 4 (.Pass default)
def lawIn : Stmt := (forB lawOut).getD 1 (.Pass default)

section
variable {prog : Program} {w : World} {A : Around} {E : Value → Shared → Prop} {s : Shared} {mg mb : Str → Option Value} {env : Env}

theorem for_walk' {R : Result → Shared → Prop} {target : Expr} {body : List Stmt} {I : Addr} {fp wr : List Addr} {n : Nat} {P : Nat → Value → Prop} {St : Nat → Heap → Prop} (W : Walks prog w A I fp wr n P St) (J : Nat → Shared → Prop) (hJ : J 0 s) (hst : St 0 s.heap)
    (turn : ∀ i s v h' tk E', i < n → J i s → P i v → St (i + 1) h' → (∀ b o, b ∉ wr → s.heap.get? b = some o → h'.get? b = some o) → wpAny (model prog w) A (assign target env v) (fun _ s₂ => wpAny (model prog w) A (execs body env) (fun f s₃ => match f with
      | .next | .cont => J (i + 1) s₃ ∧ ∀ b ∈ fp, ∀ o, h'.get? b = some o → s₃.heap.get? b = some o
      | .brk => R (.ok .next) s₃
      | .ret v => R (.ok (.ret v)) s₃) E' s₂) E' { s with heap := h', toks := tk })
    (done : ∀ s h' tk, J n s → (∀ b o, b ∉ wr → s.heap.get? b = some o → h'.get? b = some o) → R (.ok .next) { s with heap := h', toks := tk })
    (ht : ∀ v, letOwnedTupleGo target (.ref I) v = pure () := by intro _; rfl) :
    codeAny (model prog w) A (.forLoop target (.ref I) body [] env) R s := by
  refine codeAny_forLoop (fun k s' => ∃ i, i + k = n ∧ J i s' ∧ St i s'.heap) ?_ n ⟨0, by omega, hJ, hst⟩ ht
  rintro k s' ⟨i, hi, hj, hs⟩
  by_cases hlt : i < n
  · refine W.item i _ _ _ hlt hs fun v h' tk hP hs' hk => ?_
    refine wpAny_mono (turn i s' v h' tk _ hlt hj hP hs' hk) (fun _ s₂ h₂ => wpAny_mono h₂ (fun f s₃ h₃ => ?_) fun _ _ x => x) fun _ _ x => x
    cases f with
    | next => exact ⟨k - 1, by omega, i + 1, by omega, h₃.1, W.frame _ _ _ hs' h₃.2⟩
    | cont => exact ⟨k - 1, by omega, i + 1, by omega, h₃.1, W.frame _ _ _ hs' h₃.2⟩
    | brk => exact h₃
    | ret v => exact h₃
  · obtain rfl : i = n := by omega
    exact W.done _ _ _ hs fun h' tk hk => wpAny_execs_nil (done s' h' tk hj hk)

def bnd (i : Nat) : Nat := if i ≤ 2 then 12 else 36
/-- two rows at a stage -/
structure Rows2 (c : Nat) (H0 T0 : List Value) (i : Nat) (vH vT : List Value) : Prop where
  lH : vH.length ≤ bnd i
  lT : vT.length ≤ bnd i
  dH : ∀ v ∈ vH, DI i (ky v)
  dT : ∀ v ∈ vT, DI i (ky v)
  bal : Bal (sg c) (4 - i) H0 T0 (vH.map ky) (vT.map ky)
theorem bnd_le (i : Nat) : bnd i ≤ 36 := by unfold bnd; split <;> omega

theorem Rows2.stage {c : Nat} {H0 T0 : List Value} {i : Nat} {vH vT uH uT : List Value} (hc : c ∈ six) (hi : i < 4) (X : Rows2 c H0 T0 i vH vT) (eH : uH.map ky = (vH.map ky).flatMap (stK i (sg c))) (eT : uT.map ky = (vT.map ky).flatMap (stK i (sg c))) : Rows2 c H0 T0 (i + 1) uH uT := by
  have len : ∀ {vs us : List Value}, vs.length ≤ bnd i → (∀ v ∈ vs, DI i (ky v)) → us.map ky = (vs.map ky).flatMap (stK i (sg c)) → us.length ≤ bnd (i + 1) := fun {vs us} hl hd e => by
    have e1 : us.length = ((vs.map ky).flatMap (stK i (sg c))).length := by rw [← e, List.length_map]
    rw [e1]
    by_cases h2 : i = 2
    · subst h2
      refine Nat.le_trans (flat_le (n := 3) fun k hk => ?_) ?_
      · obtain ⟨v, hv, rfl⟩ := List.mem_map.mp hk
        exact ((hd v hv).len hi).1
      · rw [List.length_map]; unfold bnd at *; simp at *; omega
    · refine Nat.le_trans (flat_le (n := 1) fun k hk => ?_) ?_
      · obtain ⟨v, hv, rfl⟩ := List.mem_map.mp hk
        exact ((hd v hv).len hi).2 h2
      · rw [List.length_map]; unfold bnd at *; split at hl <;> split <;> omega
  have dom : ∀ {vs us : List Value}, (∀ v ∈ vs, DI i (ky v)) → us.map ky = (vs.map ky).flatMap (stK i (sg c)) → ∀ v ∈ us, DI (i + 1) (ky v) := fun {vs us} hd e v hv => by
    have : ky v ∈ (vs.map ky).flatMap (stK i (sg c)) := e ▸ List.mem_map.mpr ⟨v, hv, rfl⟩
    obtain ⟨k, hk, hv'⟩ := List.mem_flatMap.mp this
    obtain ⟨u, hu, rfl⟩ := List.mem_map.mp hk
    exact (hd u hu).step hc hi hv'
  refine ⟨len X.lH X.dH eH, len X.lT X.dT eT, dom X.dH eH, dom X.dT eT, ?_⟩
  rw [eH, eT]
  have b := X.bal
  rw [show 4 - i = (4 - (i + 1)) + 1 by omega] at b
  have := b.step
  rwa [show 3 - (4 - (i + 1)) = i by omega] at this
theorem Rows2.uld {c : Nat} {H0 T0 : List Value} {i : Nat} {vH vT uH uT : List Value} (X : Rows2 c H0 T0 i vH vT) (e : (uH.map ky, uT.map ky) = Mine.uld (vH.map ky) (vT.map ky)) : Rows2 c H0 T0 i uH uT := by
  have e1 : uH.map ky = (Mine.uld (vH.map ky) (vT.map ky)).1 := congrArg Prod.fst e
  have e2 : uT.map ky = (Mine.uld (vH.map ky) (vT.map ky)).2 := congrArg Prod.snd e
  have l := uld_len (vT.map ky) (vH.map ky)
  have sb := uld_sub (vT.map ky) (vH.map ky)
  refine ⟨?_, ?_, fun v hv => ?_, fun v hv => ?_, ?_⟩
  · have := congrArg List.length e1; rw [List.length_map] at this; have h1 := l.1; rw [List.length_map] at h1; have := X.lH; omega
  · have := congrArg List.length e2; rw [List.length_map] at this; have h1 := l.2; rw [List.length_map] at h1; have := X.lT; omega
  · have : ky v ∈ vH.map ky := sb.1 _ (e1 ▸ List.mem_map.mpr ⟨v, hv, rfl⟩)
    obtain ⟨u, hu, eu⟩ := List.mem_map.mp this
    rw [← eu]; exact X.dH u hu
  · have : ky v ∈ vT.map ky := sb.2 _ (e2 ▸ List.mem_map.mpr ⟨v, hv, rfl⟩)
    obtain ⟨u, hu, eu⟩ := List.mem_map.mp this
    rw [← eu]; exact X.dT u hu
  · rw [e1, e2]; exact X.bal.uld

/-- the names that a turn leaves alone -/
structure Names (m : Str → Option Value) (a b T : Addr) (c ch : Nat) : Prop where
  first : m "first" = some (.ref a)
  second : m "second" = some (.ref b)
  due : m "due" = some (.ref T)
  letter : ∃ t, m "letter" = some (.str (sg c) t)
  choice : ∃ t, m "choice" = some (.int (ch : Nat) t)

/-- the state ahead of stage i -/
structure SInv (h₁ : Heap) (L I a b T : Addr) (c ch : Nat) (H0 T0 : List Value) (i : Nat) (h : Heap) : Prop where
  st : ∃ m x y vH vT, h.Ns L m ∧ Names m a b T c ch ∧ m "here" = some (.ref x) ∧ m "there" = some (.ref y) ∧ x ≠ I ∧ y ≠ I ∧ PL h x vH ∧ PL h y vT ∧ Rows2 c H0 T0 i vH vT ∧ (i = 4 → ∀ k ∈ vH.map ky, k ∉ vT.map ky)
  keep : ∀ b o, b ≠ L → h₁.get? b = some o → h.get? b = some o

set_option maxHeartbeats 4000000 in
theorem inner_body {f L I a b T : Addr} {cd : Value} {c ch i : Nat} {H0 T0 : List Value} {h₀ h₁ h : Heap} {m : Str → Option Value} {x y : Addr} {vH vT : List Value} {tg : Nat} {ts : Tok} {rm : Nat} {R : Flow → Shared → Prop} (r : Room A (rm + 3)) (hfr : A.frames = some [])
    (G : Gl mg mb h₀) (nL0 : h₀.get? L = none) (kp : Kp h₀ h) (hc : c ∈ six) (hi : i < 4) (hch : ch < 8)
    (n : h.Ns L m) (hs : m "stage" = some (.int (i : Nat) ts)) (nm : Names m a b T c ch) (mh : m "here" = some (.ref x)) (mt : m "there" = some (.ref y)) (oI : ∃ o, h.get? I = some o) (pH : PL h x vH) (pT : PL h y vT) (X : Rows2 c H0 T0 i vH vT)
    (kk : ∀ b o, b ≠ L → h₁.get? b = some o → h.get? b = some o)
    (hR : ∀ h' tk, SInv h₁ L I a b T c ch H0 T0 (i + 1) h' → Kp h₀ h' → (∀ b o, b ≠ L → h.get? b = some o → h'.get? b = some o) → R .next { s with heap := h', toks := tk }) :
    wpAny (model prog w) (A.deeper (envOf (fN (stm 15)) (fS (stm 15)) L f cd)) (execs (forB lawIn) (envOf (fN (stm 15)) (fS (stm 15)) L f cd)) R E { s with heap := h, toks := tg } := by
  have hd : (A.deeper (envOf (fN (stm 15)) (fS (stm 15)) L f cd)).handled = none := (r.deeper _).handled
  have rd : Room (A.deeper (envOf (fN (stm 15)) (fS (stm 15)) L f cd)) (rm + 2) := r.deeper _
  have G₁ : Gl mg mb h := G.keeps kp
  obtain ⟨tl, hlet⟩ := nm.letter
  obtain ⟨tch, hcho⟩ := nm.choice
  have lH := Nat.le_trans X.lH (bnd_le i)
  have lT := Nat.le_trans X.lT (bnd_le i)
  -- here, there = (stage, stage)
  refine wpAny_execs_cons ?_
  refine Assign_Tuple_swapped (names := ["here", "there"]) ?_
  refine Tuple_ ?_
  refine args_cons ?_
  refine call_fn (i := 14) G₁ (fenv rfl) (by decide) rfl rfl (args_cons (ld1 (fenv rfl) n mh (args_cons (ld1 (fenv rfl) n hs (args_cons (ld1 (fenv rfl) n hlet (args_nil ⟨Kp.rfl', fun fa hfa => stage_spec G₁ hfa rd pH (by omega) hi (fun v hv => (X.dH v hv).dom hi) fun D₁ g₁ tk₁ us₁ nD₁ p₁ e₁ k₁ => ?_⟩)))))))
  dsimp only at nD₁ k₁ ⊢
  have G₂ : Gl mg mb g₁ := G₁.keeps k₁
  refine args_cons ?_
  refine call_fn (i := 14) G₂ (fenv rfl) (by decide) rfl rfl (args_cons (ld1 (fenv rfl) (n.keeps k₁) mt (args_cons (ld1 (fenv rfl) (n.keeps k₁) hs (args_cons (ld1 (fenv rfl) (n.keeps k₁) hlet (args_nil ⟨Kp.rfl', fun fa hfa => stage_spec G₂ hfa rd (PL.keep pT k₁) (by omega) hi (fun v hv => (X.dT v hv).dom hi) fun D₂ g₂ tk₂ us₂ nD₂ p₂ e₂ k₂ => ?_⟩)))))))
  dsimp only at nD₂ k₂ ⊢
  refine args_nil (tp_new (by simp) fun g₃ k₃ t₃ z₃ => ?_)
  dsimp only at k₃ t₃ z₃ ⊢
  have k03 : Kp h g₃ := k₁.trans (k₂.trans k₃)
  refine un_swapped (fenv rfl) hd t₃ rfl rfl (n.keeps k03) fun g₄ tk₄ n₄ k₄ => ?_
  change g₄.Ns L _ at n₄
  change ∀ b o, b ≠ L → g₃.get? b = some o → g₄.get? b = some o at k₄
  dsimp only
  have DL₁ : D₁ ≠ L := fun q => by obtain ⟨_, _, _, z, _⟩ := n; rw [← q, nD₁] at z; cases z
  have DL₂ : D₂ ≠ L := fun q => by obtain ⟨_, _, _, z, _⟩ := n.keeps k₁; rw [← q, nD₂] at z; cases z
  have D12 : D₁ ≠ D₂ := let ⟨_, e⟩ := p₁; ne_none e nD₂
  have DI₁ : D₁ ≠ I := let ⟨_, e⟩ := oI; (ne_none e nD₁).symm
  have DI₂ : D₂ ≠ I := let ⟨_, e⟩ := oI; (ne_none (k₁ _ _ e) nD₂).symm
  have P₁ : PL g₄ D₁ us₁ := (PL.keep p₁ (k₂.trans k₃)).at fun o e => k₄ _ o DL₁ e
  have P₂ : PL g₄ D₂ us₂ := (PL.keep p₂ k₃).at fun o e => k₄ _ o DL₂ e
  have k4 : ∀ b o, b ≠ L → h.get? b = some o → g₄.get? b = some o := fun b o hb e => k₄ b o hb (k03 b o e)
  have kp₄ : Kp h₀ g₄ := fun b o e => k4 b o (ne_none e nL0) (kp b o e)
  have G₄ : Gl mg mb g₄ := G.keeps kp₄
  have X₁ : Rows2 c H0 T0 (i + 1) us₁ us₂ := X.stage hc hi e₁ e₂
  have l₁ := Nat.le_trans X₁.lH (bnd_le _)
  have l₂ := Nat.le_trans X₁.lT (bnd_le _)
  -- the body of the if
  have body : ∀ (tk : Nat) (Q : Flow → Shared → Prop), (∀ h' tk, SInv h₁ L I a b T c ch H0 T0 (i + 1) h' → Kp h₀ h' → (∀ b o, b ≠ L → h.get? b = some o → h'.get? b = some o) → Q .next { s with heap := h', toks := tk }) →
      wpAny (model prog w) (A.deeper (envOf (fN (stm 15)) (fS (stm 15)) L f cd)) (execs (match (forB lawIn).getD 1 (.Pass default) with | .If _ b _ _ => b | _ => []) (envOf (fN (stm 15)) (fS (stm 15)) L f cd)) Q E { s with heap := g₄, toks := tk } := by
    intro tk Q hQ
    refine wpAny_execs_cons ?_
    refine wpAny_Assign_Name ?_
    have hq : Homo us₁ us₂ := homo_of X₁.dH X₁.dT
    refine call_fn (i := 13) G₄ (fenv rfl) (by decide) rfl rfl (args_cons (ld1 (fenv rfl) n₄ rfl (args_cons (ld1 (fenv rfl) n₄ rfl (args_nil ⟨Kp.rfl', fun fa hfa => apart_spec G₄ hfa rd P₁ P₂ hq (by omega) (by omega) fun g₅ tk₅ W wa wb k₅ t₅ nW nwa nwb pwa pwb => ?_⟩)))))
    dsimp only at k₅ nW nwa nwb ⊢
    have e1 := lost_keys us₁ us₂
    have e2 := left_keys us₁ us₂
    refine st1 (fenv rfl) (n₄.keeps k₅) fun g₆ n₆ b₆ => ?_
    change g₆.Ns L _ at n₆
    change Heap.SameBut L g₅ g₆ at b₆
    dsimp only
    have nNone : ∀ {q : Addr}, g₄.get? q = none → q ≠ L := fun {q} e z => by obtain ⟨_, _, _, z', _⟩ := n₄; rw [← z, e] at z'; cases z'
    have WL := nNone nW
    have waL := nNone nwa
    have wbL := nNone nwb
    have k6 : ∀ b o, b ≠ L → g₄.get? b = some o → g₆.get? b = some o := fun b o hb e => (b₆.2 b hb).trans (k₅ b o e)
    have kp₆ : Kp h₀ g₆ := fun b o e => k6 b o (ne_none e nL0) (kp₄ b o e)
    have G₆ : Gl mg mb g₆ := G.keeps kp₆
    have P₁₆ : PL g₆ D₁ us₁ := P₁.at fun o e => k6 _ o DL₁ e
    have P₂₆ : PL g₆ D₂ us₂ := P₂.at fun o e => k6 _ o DL₂ e
    have low1 : L ≠ mainGlobals := fun q => by
      obtain ⟨_, _, _, z, _⟩ := G.g
      rw [← q, nL0] at z
      cases z
    have low2 : L ≠ builtinsNs := fun q => by
      obtain ⟨_, _, _, z, _⟩ := G.b
      rw [← q, nL0] at z
      cases z
    have lowL : L ≠ mainGlobals ∧ L ≠ builtinsNs := ⟨low1, low2⟩
    refine wpAny_execs_cons ?_
    refine Assign_Tuple ?_
    refine call_fn (i := 1) G₆ (fenv rfl) (by decide) rfl rfl (args_cons (ld1 (fenv rfl) n₆ rfl (args_cons (ld1 (fenv rfl) n₆ rfl (args_nil ⟨Kp.rfl', fun fa hfa => uld_spec (envO := envOf (fN (stm 15)) (fS (stm 15)) L f cd) (Lo := L) G₆ hfa rd (Around.frames_deeper hfr) rfl rfl n₆ lowL P₁₆ P₂₆ D12 hq (by omega) (by omega) fun g₇ tk₇ d t vM vA k₇ n₇ nd nt dt pd pA tp eu sM sA => ?_⟩)))))
    dsimp only at k₇ nd nt ⊢
    refine un_tuple (fenv rfl) hd tp rfl rfl rfl n₇ fun g₈ tk₈ n₈ k₈ => ?_
    change g₈.Ns L _ at n₈
    change ∀ b o, b ≠ L → g₇.get? b = some o → g₈.get? b = some o at k₈
    dsimp only
    have dL : d ≠ L := fun q => by obtain ⟨_, _, _, z, _⟩ := n₆; rw [← q, nd] at z; cases z
    have X₂ : Rows2 c H0 T0 (i + 1) vM vA := X₁.uld eu
    have k48 : ∀ b o, b ≠ L → b ≠ D₁ → b ≠ D₂ → g₆.get? b = some o → g₈.get? b = some o := fun b o h1 h2 h3 e => k₈ b o h1 (k₇ b o h2 h3 h1 e)
    have P₃ : PL g₈ d vM := pd.at fun o e => k₈ _ o dL e
    have P₄ : PL g₈ D₂ vA := pA.at fun o e => k₈ _ o DL₂ e
    have WD : ∀ {q : Addr} {o : Obj}, g₄.get? q = none → g₆.get? q = some o → g₈.get? q = some o := fun {q o} hq e => by
      refine k48 q o (nNone hq) ?_ ?_ e
      · obtain ⟨_, e'⟩ := P₁; exact (ne_none e' hq).symm
      · obtain ⟨_, e'⟩ := P₂; exact (ne_none e' hq).symm
    have t₈ : TP g₈ W [.ref wa, .ref wb] := WD nW ((b₆.2 W WL).trans t₅)
    have pwa₈ : PL g₈ wa _ := pwa.at fun o e => WD nwa ((b₆.2 wa waL).trans e)
    have pwb₈ : PL g₈ wb _ := pwb.at fun o e => WD nwb ((b₆.2 wb wbL).trans e)
    refine wpAny_execs_cons ?_
    refine wpAny_If ?_
    refine wpAny_isTrue_Compare1 ?_
    refine Tuple_ (args_cons (ld1 (fenv rfl) n₈ rfl (args_cons (ld1 (fenv rfl) n₈ rfl (args_nil (tp_new (by simp) fun g₉ k₉ t₉ z₉ => ?_))))))
    dsimp only at k₉ t₉ z₉ ⊢
    refine ld1 (fenv rfl) (n₈.keeps k₉) rfl ?_
    have plainL : ∀ v ∈ (((List.range us₁.length).filter (lostT us₁ us₂)).map (itemOf us₁)).reverse, Plain v := fun v hv => by
      have : ky v ∈ (((List.range us₁.length).filter (lostT us₁ us₂)).map (itemOf us₁)).map ky := List.mem_map.mpr ⟨v, List.mem_reverse.mp hv, rfl⟩
      rw [e1] at this
      have := (uld_sub (us₂.map ky) (us₁.map ky)).1 (ky v) (by rw [uld_fst]; exact List.mem_reverse.mpr this)
      obtain ⟨u, hu, eu⟩ := List.mem_map.mp this
      exact plain_of (i := i + 1) (eu ▸ X₁.dH u hu)
    have plainR : ∀ v ∈ ((List.range us₂.length).filter (leftT us₁ us₂)).map (itemOf us₂), Plain v := fun v hv => by
      have : ky v ∈ (((List.range us₂.length).filter (leftT us₁ us₂)).map (itemOf us₂)).map ky := List.mem_map.mpr ⟨v, hv, rfl⟩
      rw [e2] at this
      have := (uld_sub (us₂.map ky) (us₁.map ky)).2 (ky v) (by rw [uld_snd]; exact this)
      obtain ⟨u, hu, eu⟩ := List.mem_map.mp this
      exact plain_of (i := i + 1) (eu ▸ X₁.dT u hu)
    refine ne_pairs t₉ (k₉ _ _ t₈) (PL.keep P₃ k₉) (PL.keep P₄ k₉) (PL.keep pwa₈ k₉) (PL.keep pwb₈ k₉) (fun v hv => plain_of (X₂.dH v hv)) (fun v hv => plain_of (X₂.dT v hv)) plainL plainR ?_ ?_ ?_ (wpAny_truthy_bool ?_)
    · have : vM.map ky = _ := congrArg Prod.fst eu
      rw [this, uld_fst, List.map_reverse, e1]
    · have : vA.map ky = _ := congrArg Prod.snd eu
      rw [this, uld_snd, e2]
    · have := rd.units
      show _ < 9900
      omega
    rw [if_neg (by decide)]
    refine wpAny_execs_nil (wpAny_execs_nil (hQ g₉ _ ⟨⟨_, d, D₂, vM, vA, n₈.keeps k₉, ⟨nm.first, nm.second, nm.due, ⟨tl, hlet⟩, ⟨tch, hcho⟩⟩, rfl, rfl, ?_, DI₂, PL.keep P₃ k₉, PL.keep P₄ k₉, X₂, ?_⟩, ?_⟩ ?_ ?_))
    · obtain ⟨o, e⟩ := oI
      by_cases hIL : I = L
      · rw [hIL]; exact dL
      · exact (ne_none (k6 _ _ hIL (k4 _ _ hIL e)) nd).symm
    · intro _ k hk
      have e1 : vM.map ky = _ := congrArg Prod.fst eu
      have e2 : vA.map ky = _ := congrArg Prod.snd eu
      rw [e2]; rw [e1] at hk
      exact uld_apart (us₂.map ky) (us₁.map ky) k hk
    · intro b o hb e
      have eh := kk b o hb e
      exact k₉ _ _ (k48 b o hb (ne_none eh nD₁) (ne_none (k₁ _ _ eh) nD₂) (k6 b o hb (k4 b o hb eh)))
    · intro b o e
      have hb := ne_none e nL0
      have eh := kp b o e
      exact k₉ _ _ (k48 b o hb (ne_none eh nD₁) (ne_none (k₁ _ _ eh) nD₂) (k6 b o hb (k4 b o hb eh)))
    · intro b o hb eh
      exact k₉ _ _ (k48 b o hb (ne_none eh nD₁) (ne_none (k₁ _ _ eh) nD₂) (k6 b o hb (k4 b o hb eh)))
  -- the test
  have skip : i ≠ 3 → SInv h₁ L I a b T c ch H0 T0 (i + 1) g₄ := fun h3 => ⟨⟨_, D₁, D₂, us₁, us₂, n₄, ⟨nm.first, nm.second, nm.due, ⟨tl, hlet⟩, ⟨tch, hcho⟩⟩, rfl, rfl, DI₁, DI₂, P₁, P₂, X₁, fun q => by omega⟩, fun b o hb e => k4 b o hb (kk b o hb e)⟩
  refine wpAny_execs_cons ?_
  refine wpAny_If ?_
  refine isTrue_or ?_
  refine wpAny_isTrue_Compare1 (ld1 (fenv rfl) n₄ hs (wpAny_Constant_int (PyProof.Rows.eq_int (wpAny_truthy_bool ?_))))
  by_cases h3 : i = 3
  · rw [if_pos (by subst h3; rfl), if_pos rfl]
    exact body _ _ fun h' tk S k1 k2 => wpAny_execs_nil (hR h' tk S k1 k2)
  · have hb3 : (((i : Nat) : Int) == 3) = false := by
      rw [beq_eq_false_iff_ne]; omega
    rw [hb3, if_neg (by decide)]
    refine isTrue_or ?_
    refine wpAny_isTrue_Compare1 ?_
    refine wpAny_BinOp (wpAny_BinOp (ld1 (fenv rfl) n₄ hcho (wpAny_BinOp (wpAny_Constant_int (ld1 (fenv rfl) n₄ hs (pow_int_small (by omega) (by omega) (by decide) ?_))))))
    have p2 : ((2 : Int) ^ ((i : Nat) : Int).toNat) = ((2 ^ i : Nat) : Int) := by simp
    rw [p2]
    have pos2 : ((2 ^ i : Nat) : Int) ≠ 0 := by have := Nat.two_pow_pos i; omega
    refine PyProof.Rows.floordiv_int pos2 ?_ ?_
    · refine wpAny_Constant_int (PyProof.Rows.mod_int (by decide) (wpAny_Constant_int (PyProof.Rows.eq_int (wpAny_truthy_bool ?_))))
      dsimp only
      split
      · rw [if_pos rfl]
        exact body _ _ fun h' tk S k1 k2 => wpAny_execs_nil (hR h' tk S k1 k2)
      · refine isTrue_or_nil ?_
        rw [if_neg (by decide)]
        exact wpAny_execs_nil (wpAny_execs_nil (hR g₄ _ (skip h3) kp₄ k4))
    · left
      obtain rfl | rfl | rfl : i = 0 ∨ i = 1 ∨ i = 2 := by omega
      · rfl
      · rfl
      · rfl
end
end Mine

namespace Mine
open PySem PySem.W PySem.Calls PyProof.Rows

section
variable {prog : Program} {w : World} {A : Around} {E : Value → Shared → Prop} {s : Shared} {mg mb : Str → Option Value}

theorem sinv_move {h₁ h h' : Heap} {L I a b T : Addr} {c ch : Nat} {H0 T0 : List Value} {i : Nat} (S : SInv h₁ L I a b T c ch H0 T0 i h) (hLI : L ≠ I) (nI : h₁.get? I = none) (k : ∀ b o, b ∉ [I] → h.get? b = some o → h'.get? b = some o) : SInv h₁ L I a b T c ch H0 T0 i h' := by
  obtain ⟨⟨m, x, y, vH, vT, n, nm, mh, mt, xI, yI, pH, pT, X, ap⟩, kp⟩ := S
  exact ⟨⟨m, x, y, vH, vT, n.at' fun o e => k L o (by simpa using hLI) e, nm, mh, mt, xI, yI, pH.at fun o e => k x o (by simpa using xI) e, pT.at fun o e => k y o (by simpa using yI) e, X, ap⟩,
    fun b o hb e => k b o (by simpa using ne_none e nI) (kp b o hb e)⟩

/-- what stands at the outer loop's head -/
structure OInv (h₁ : Heap) (L a b T : Addr) (c : Nat) (h : Heap) : Prop where
  st : ∃ m t, h.Ns L m ∧ m "first" = some (.ref a) ∧ m "second" = some (.ref b) ∧ m "due" = some (.ref T) ∧ m "letter" = some (.str (sg c) t)
  keep : ∀ b o, b ≠ L → h₁.get? b = some o → h.get? b = some o

set_option maxHeartbeats 4000000 in
theorem outer_body {f L a b T d1 d2 : Addr} {cd : Value} {c ch : Nat} {LH LT : List Nat} {h₀ h₁ h : Heap} {m : Str → Option Value} {vF vS v1 v2 : List Value} {tg : Nat} {tl tc : Tok} {rm : Nat} {R : Flow → Shared → Prop} (r : Room A (rm + 3)) (hfr : A.frames = some [])
    (G : Gl mg mb h₀) (nL0 : h₀.get? L = none) (kp : Kp h₀ h₁) (hc : c ∈ six) (hch : ch < 8) (hLH : ∀ d ∈ LH, d ∈ six) (hLT : ∀ d ∈ LT, d ∈ six)
    (pF : PL h₁ a vF) (pS : PL h₁ b vS) (aL : a ≠ L) (bL : b ≠ L) (XF : Rows2 c (LH.map (cmpK c)) (LT.map (cmpK c)) 0 vF vS)
    (tT : TP h₁ T [.ref d1, .ref d2]) (TL : T ≠ L) (p1 : PL h₁ d1 v1) (p2 : PL h₁ d2 v2) (d1L : d1 ≠ L) (d2L : d2 ≠ L) (e1 : v1.map ky = dueK (cnt3 c LH) (cnt3 c LT) 3) (e2 : v2.map ky = dueK (cnt3 c LT) (cnt3 c LH) 3)
    (n : h.Ns L m) (m1 : m "first" = some (.ref a)) (m2 : m "second" = some (.ref b)) (m3 : m "due" = some (.ref T)) (m4 : m "letter" = some (.str (sg c) tl)) (m5 : m "choice" = some (.int (ch : Nat) tc))
    (kk : ∀ b o, b ≠ L → h₁.get? b = some o → h.get? b = some o)
    (hR : ∀ h' tk, OInv h₁ L a b T c h' → (∀ b o, b ≠ L → h.get? b = some o → h'.get? b = some o) → R .next { s with heap := h', toks := tk }) :
    wpAny (model prog w) (A.deeper (envOf (fN (stm 15)) (fS (stm 15)) L f cd)) (execs (forB lawOut) (envOf (fN (stm 15)) (fS (stm 15)) L f cd)) R E { s with heap := h, toks := tg } := by
  have hd : (A.deeper (envOf (fN (stm 15)) (fS (stm 15)) L f cd)).handled = none := (r.deeper _).handled
  have kp0 : Kp h₀ h := fun b o e => kk b o (ne_none e nL0) (kp b o e)
  -- here, there = (first, second)
  refine wpAny_execs_cons ?_
  refine Assign_Tuple_swapped (names := ["here", "there"]) ?_
  refine Tuple_ (args_cons (ld1 (fenv rfl) n m1 (args_cons (ld1 (fenv rfl) n m2 (args_nil (tp_new (by simp) fun g₁ k₁ t₁ z₁ => ?_))))))
  dsimp only at k₁ t₁ z₁ ⊢
  refine un_swapped (fenv rfl) hd t₁ rfl rfl (n.keeps k₁) fun g₂ tk₂ n₂ k₂ => ?_
  change g₂.Ns L _ at n₂
  change ∀ b o, b ≠ L → g₁.get? b = some o → g₂.get? b = some o at k₂
  dsimp only
  have k02 : ∀ b o, b ≠ L → h.get? b = some o → g₂.get? b = some o := fun b o hb e => k₂ b o hb (k₁ b o e)
  have kp₂ : Kp h₀ g₂ := fun b o e => k02 b o (ne_none e nL0) (kp0 b o e)
  have G₂ : Gl mg mb g₂ := G.keeps kp₂
  have k12 : ∀ b o, b ≠ L → h₁.get? b = some o → g₂.get? b = some o := fun b o hb e => k02 b o hb (kk b o hb e)
  -- for stage in range(4)
  refine wpAny_execs_cons ?_
  refine wpAny_For ?_
  refine call_range (fenv rfl) G₂ rfl ?_
  refine wpAny_Constant_int ?_
  refine src_range (n := 4) (by decide) fun g₃ tk₃ k₃ z₃ hI => ?_
  dsimp only at k₃ z₃ hI ⊢
  have nI : g₂.get? (g₂.objs.size + 1) = none := Heap.get?_none_of_le (Nat.le_succ _)
  generalize g₂.objs.size + 1 = I at z₃ hI nI ⊢
  have LI : L ≠ I := let ⟨_, _, _, e, _⟩ := n₂; ne_none e nI
  have aI : a ≠ I := let ⟨_, e⟩ := pF; ne_none (k12 _ _ aL e) nI
  have bI : b ≠ I := let ⟨_, e⟩ := pS; ne_none (k12 _ _ bL e) nI
  have S₀ : SInv g₂ L I a b T c ch (LH.map (cmpK c)) (LT.map (cmpK c)) 0 g₃ := ⟨⟨_, a, b, vF, vS, n₂.keeps k₃, ⟨m1, m2, m3, ⟨tl, m4⟩, ⟨tc, m5⟩⟩, rfl, rfl, aI, bI, pF.at fun o e => k₃ _ _ (k12 _ o aL e), pS.at fun o e => k₃ _ _ (k12 _ o bL e), XF, fun q => by omega⟩, fun b o _ e => k₃ b o e⟩
  refine for_walk' (Walks.range hd I 0 1 4) (fun i s' => ∃ g tk, s' = { s with heap := g, toks := tk } ∧ SInv g₂ L I a b T c ch (LH.map (cmpK c)) (LT.map (cmpK c)) i g) ⟨g₃, tk₃, rfl, S₀⟩ (by simpa using hI) ?_ ?_
  · rintro i s' v g' tk' E' hi ⟨g, tk, rfl, S⟩ ⟨tv, rfl⟩ hst hk
    dsimp only at hk ⊢
    have S' := sinv_move S LI nI hk
    obtain ⟨⟨m', x, y, vH, vT, n', nm, mh, mt, xI, yI, pH, pT, X, ap⟩, ks⟩ := S'
    have hv : (0 : Int) + (i : Int) * 1 = ((i : Nat) : Int) := by omega
    rw [hv]
    refine wpAny_assign_Name (st1 (fenv rfl) (m := m') n' fun q₁ nq₁ b₁ => ?_)
    change q₁.Ns L _ at nq₁
    change Heap.SameBut L g' q₁ at b₁
    dsimp only
    have xL : x ≠ L := fun q => by obtain ⟨_, e⟩ := pH; obtain ⟨_, _, _, z, hdd, _⟩ := n'; rw [← q, e] at z; cases z; cases hdd
    have yL : y ≠ L := fun q => by obtain ⟨_, e⟩ := pT; obtain ⟨_, _, _, z, hdd, _⟩ := n'; rw [← q, e] at z; cases z; cases hdd
    have oI : ∃ o, q₁.get? I = some o := ⟨_, (b₁.2 I (Ne.symm LI)).trans hst⟩
    obtain ⟨tl', hl'⟩ := nm.letter
    obtain ⟨tc', hc'⟩ := nm.choice
    have kq : ∀ b o, b ≠ L → g₂.get? b = some o → q₁.get? b = some o := fun b o hb e => (b₁.2 b hb).trans (ks b o hb e)
    refine inner_body (h₁ := g₂) (I := I) (a := a) (b := b) (T := T) (ch := ch) (x := x) (y := y) (vH := vH) (vT := vT) r hfr G nL0 (fun b o e => kq b o (ne_none e nL0) (kp₂ b o e)) hc hi hch nq₁ rfl ⟨nm.first, nm.second, nm.due, ⟨tl', hl'⟩, ⟨tc', hc'⟩⟩ mh mt oI (PL.but pH b₁ xL) (PL.but pT b₁ yL) X kq ?_
    intro g'' tk'' S'' _ k''
    refine ⟨⟨g'', tk'', rfl, S''⟩, fun b hb o e => ?_⟩
    rw [List.mem_singleton.mp hb] at e ⊢
    exact k'' I o (Ne.symm LI) ((b₁.2 I (Ne.symm LI)).trans e)
  · rintro s' g' tk' ⟨g, tk, rfl, S⟩ hk
    dsimp only at hk ⊢
    have S' := sinv_move S LI nI hk
    obtain ⟨⟨m', x, y, vH, vT, n', nm, mh, mt, xI, yI, pH, pT, X, ap⟩, ks⟩ := S'
    have kg : ∀ b o, b ≠ L → h₁.get? b = some o → g'.get? b = some o := fun b o hb e => ks b o hb (k12 b o hb e)
    have kph : Kp h₀ g' := fun b o e => ks b o (ne_none e nL0) (kp₂ b o e)
    have Gg : Gl mg mb g' := G.keeps kph
    have intL : ∀ {vs : List Value}, (∀ v ∈ vs, DI 4 (ky v)) → ∃ ns : List Int, vs.map ky = ns.map (fun n => Value.int n 0) := by
      intro vs
      induction vs with
      | nil => intro _; exact ⟨[], rfl⟩
      | cons v vs ih =>
        intro hv
        obtain ⟨ns, e⟩ := ih fun u hu => hv u (.tail _ hu)
        obtain ⟨i, ei, _⟩ := hv v (.head _)
        exact ⟨i :: ns, by rw [List.map_cons, List.map_cons, e, ei]⟩
    obtain ⟨nsH, eH⟩ := intL X.dH
    obtain ⟨nsT, eT⟩ := intL X.dT
    have lH : vH.length ≤ 36 := X.lH
    have lT : vT.length ≤ 36 := X.lT
    have bal : ∀ y, (vH.map ky).count y + (LT.map (cmpK c)).count y = (LH.map (cmpK c)).count y + (vT.map ky).count y := fun y => by
      have := X.bal y
      rw [show 4 - 4 = 0 from rfl, fin_zero, fin_zero] at this
      exact this
    have apart := ap rfl
    refine wpAny_execs_cons ?_
    refine wpAny_If ?_
    refine wpAny_isTrue_Compare1 ?_
    refine Tuple_ ?_
    refine args_cons ?_
    refine call_bi (id := "sorted") Gg (fenv rfl) rfl (by decide +kernel) (by kernel_rfl) (ld1 (fenv rfl) n' mh (pl_sorted pH eH (by omega) fun D₁ q₁ us₁ ms₁ k₁ nD₁ pD₁ eu₁ pm₁ so₁ => ?_))
    dsimp only at k₁ nD₁ ⊢
    refine args_cons ?_
    refine call_bi (id := "sorted") (Gg.keeps k₁) (fenv rfl) rfl (by decide +kernel) (by kernel_rfl) (ld1 (fenv rfl) (n'.keeps k₁) mt (pl_sorted (PL.keep pT k₁) eT (by omega) fun D₂ q₂ us₂ ms₂ k₂ nD₂ pD₂ eu₂ pm₂ so₂ => ?_))
    dsimp only at k₂ nD₂ ⊢
    refine args_nil (tp_new (by simp) fun q₃ k₃ t₃ z₃ => ?_)
    dsimp only at k₃ t₃ z₃ ⊢
    have kq : Kp g' q₃ := k₁.trans (k₂.trans k₃)
    refine ld1 (fenv rfl) (n'.keeps kq) nm.due ?_
    have plainI : ∀ {vs : List Value} {ns : List Int}, vs.map ky = ns.map (fun n => Value.int n 0) → ∀ v ∈ vs, Plain v := fun {vs ns} e v hv => by
      have : ky v ∈ ns.map (fun n => Value.int n 0) := e ▸ List.mem_map.mpr ⟨v, hv, rfl⟩
      obtain ⟨i, _, ei⟩ := List.mem_map.mp this
      obtain ⟨t, rfl⟩ := ky_int ei.symm
      exact .inr ⟨i, t, rfl⟩
    refine ne_pairs t₃ (kq _ _ (kg _ _ TL tT)) (PL.keep pD₁ (k₂.trans k₃)) (PL.keep pD₂ k₃) ((p1.at fun o e => kq _ _ (kg _ o d1L e))) ((p2.at fun o e => kq _ _ (kg _ o d2L e))) (plainI eu₁) (plainI eu₂) (plainI (e1.trans (due_int _ _))) (plainI (e2.trans (due_int _ _))) ?_ ?_ ?_ (wpAny_truthy_bool ?_)
    · rw [eu₁, e1]
      exact sorted_due hc hLH hLT bal apart (fun k hk => by obtain ⟨v, hv, rfl⟩ := List.mem_map.mp hk; exact X.dH v hv) eH pm₁ so₁
    · rw [eu₂, e2]
      exact sorted_due hc hLT hLH (fun y => by have := bal y; omega) (fun y hy hy' => apart y hy' hy) (fun k hk => by obtain ⟨v, hv, rfl⟩ := List.mem_map.mp hk; exact X.dT v hv) eT pm₂ so₂
    · have := (r.deeper (envOf (fN (stm 15)) (fS (stm 15)) L f cd)).units
      show _ < 9900
      omega
    rw [if_neg (by decide)]
    obtain ⟨tl', hl'⟩ := nm.letter
    refine wpAny_execs_nil (wpAny_execs_nil (hR q₃ _ ⟨⟨m', tl', n'.keeps kq, nm.first, nm.second, nm.due, hl'⟩, fun b o hb e => kq _ _ (kg b o hb e)⟩ fun b o hb e => kq _ _ (ks b o hb (k02 b o hb e))))
end
end Mine

namespace Mine
open PySem PySem.W PySem.Calls PyProof.Rows

def modN (v : Value) : Nat := match v with | .int i _ => (Int.fmod i 1000000).toNat | _ => 0

section
variable {prog : Program} {w : World} {A : Around} {E : Value → Shared → Prop} {s : Shared} {mg mb : Str → Option Value}

/-- xs[:k], of any list -/
theorem sub_uptoI {env : Env} {Q : Value → Shared → Prop} {value hi : Expr} {p pos : Pos} (h : wpAny (model prog w) A (eval value env) (fun o s₁ => wpAny (model prog w) A (eval hi env) (fun v s₂ => ∃ l vs k t, o = .ref l ∧ v = .int ((k : Nat) : Int) t ∧ s₂.heap.IsList l (List.toArray vs) ∧ vs.length ≤ 1000 ∧
      ∀ D h', Kp s₂.heap h' → s₂.heap.get? D = none → PL h' D (vs.take k) → Q (.ref D) { s₂ with heap := h' }) E s₁) E s)
    (ht : ∀ o r, letTemporaryGo value o r = pure () := by intro _ _; rfl) : wpAny (model prog w) A (eval (.Subscript value (.Slice none (some hi) none p) pos) env) Q E s := by
  refine wpAny_Subscript_list_slice (wpAny_mono h (fun o s₁ h₁ => ?_) fun _ _ x => x) ht
  rw [evalPart_none]
  refine wpAny_pure (wpAny_mono h₁ (fun v s₂ h₂ => ?_) fun _ _ x => x)
  obtain ⟨l, vs, k, t, rfl, rfl, pl, hz, hQ⟩ := h₂
  refine ⟨l, vs.toArray, none, some k, rfl, pl, by rw [sizeLine_eq]; simp; omega, .none, .int _ _, ?_⟩
  rw [slicePick_upto']
  obtain ⟨a, b, c⟩ := push2 (h := s₂.heap) (o₁ := { cls := .type "slice", data := .fields #[.none, .int (k : Int) t, .none] }) (o₂ := { cls := .type "list", data := .seq (vs.toArray.toList.take k).toArray }) rfl
  exact hQ _ _ a b ⟨0, by simpa using c⟩

set_option maxHeartbeats 4000000 in
theorem law_spec {f l : Addr} {vs : List Value} {rm : Nat} {Q : Value → Shared → Prop} (G : Gl mg mb s.heap) (hf : mg "law" = some (.ref f)) (r : Room A (rm + 3)) (hfr : A.frames = some []) (pl : s.heap.IsList l (List.toArray vs)) (hint : Ints vs) (hz : vs.length ≤ 63)
    (hQ : ∀ h' tk, Kp s.heap h' → Q (.bool true) { s with heap := h', toks := tk }) :
    wpAny (model prog w) A (call (.ref f) [.ref l]) Q E s := by
  refine enter (i := 15) (binds := [("script", .ref l)]) G (by decide) hf r (by intros; rfl) rfl rfl rfl fun h₁ cd F => ?_
  generalize hL : s.heap.objs.size = L at F ⊢
  have nL : s.heap.get? L = none := by rw [← hL]; exact fresh_none
  have hd : (A.deeper (envOf (fN (stm 15)) (fS (stm 15)) L f cd)).handled = none := (r.deeper _).handled
  have rd : Room (A.deeper (envOf (fN (stm 15)) (fS (stm 15)) L f cd)) (rm + 2) := r.deeper _
  have G₁ : Gl mg mb h₁ := G.keeps F.keep
  have pl₁ : h₁.IsList l (List.toArray vs) := Heap.IsList.at pl fun o e => F.keep _ o e
  -- numbers
  refine wpAny_execs_cons ?_
  refine wpAny_Assign_Name ?_
  refine wpAny_BinOp ?_
  refine lc_list (cl := []) (fun _ => true) (fun v y => ∃ tk, y = .int (modN v : Nat) tk) hd rfl rfl rfl rfl rfl ?_
  refine sub_uptoI ?_
  refine ld1 (fenv rfl) F.ns rfl ?_
  refine wpAny_Constant_int ?_
  refine ⟨l, vs, 2, _, rfl, rfl, pl₁, by omega, fun D₁ h₂ k₂ nD₁ pD₁ => ?_⟩
  dsimp only at k₂ nD₁ ⊢
  have hint2 : ∀ v ∈ vs.take 2, ∃ i t, v = Value.int i t := fun v hv => hint v (List.mem_of_mem_take hv)
  refine ⟨D₁, vs.take 2, rfl, pD₁, by rw [List.length_take]; omega, ⟨?_, ?_⟩, ?_⟩
  · intro C v s₃ m₃ E' hC hv hn3 hm hk
    exact wpAny_tests_nil ⟨rfl, keeps_refl⟩
  · intro C v s₃ m₃ E' hC hv _ hn3 hm hk
    obtain ⟨i, t, rfl⟩ := hint2 v hv
    try dsimp only at hk
    have G₃ : Gl mg mb s₃.heap := (G₁.keeps k₂).keeps hk
    refine wpAny_BinOp ?_
    refine wpAny_Call_NameR (name_builtin (v := .type "int") G₃ ⟨rfl, rfl, rfl⟩ rfl (by decide +kernel) (by kernel_rfl) ?_)
    refine PyProof.Rows.callWith_type1 ?_
    refine args_cons (ld1 ⟨rfl, rfl, rfl⟩ hn3 hm (args_nil (call_int_int ?_)))
    refine wpAny_BinOp (wpAny_Constant_int (wpAny_Constant_int (pow_int_small (by decide) (by decide) (by decide) ?_)))
    rw [show ((10 : Int) ^ (6 : Int).toNat) = 1000000 by decide]
    have h0 : 0 ≤ Int.fmod i 1000000 := Int.fmod_nonneg_of_pos _ (by decide)
    have hm : Int.fmod i 1000000 = ((modN (.int i t) : Nat) : Int) := (Int.toNat_of_nonneg h0).symm
    refine PyProof.Rows.mod_int (by decide) ?_
    rw [hm]
    exact ⟨⟨_, rfl⟩, keeps_to Kp.rfl'⟩
  intro D₂ h₃ tk₃ ys nD₂ pD₂ hF k₃
  try dsimp only at nD₂ k₃ ⊢
  have eys : ys.map ky = ((vs.take 2).map modN).map (fun n : Nat => Value.int (n : Int) 0) := by
    rw [List.filter_eq_self.mpr (fun _ _ => rfl)] at hF
    clear hint2 pD₁ pD₂
    generalize vs.take 2 = us at hF
    induction hF with
    | nil => rfl
    | cons a _ ih =>
      obtain ⟨t, rfl⟩ := a
      rw [List.map_cons, List.map_cons, List.map_cons, ih]
      rfl
  have lys : ys.length ≤ 2 := by have := congrArg List.length eys; simp at this; omega
  have n₃ := (F.ns.keeps k₂).keeps k₃
  refine List_ ?_
  refine args_ints (ns := [4, 18, 19, 11]) rfl fun tk₄ us e₄ => pl_new ?_ fun h₄ k₄ p₄ z₄ => ?_
  · have := congrArg List.length e₄; rw [List.length_map] at this; rw [this]; decide
  dsimp only at k₄ p₄ z₄ ⊢
  refine pl_add (PL.keep pD₂ k₄) p₄ ?_ fun D₃ h₅ k₅ nD₃ p₅ => ?_
  · have := congrArg List.length e₄; rw [List.length_map] at this; rw [this]; simp; omega
  dsimp only at k₅ nD₃ ⊢
  generalize hns : (vs.take 2).map modN ++ [4, 18, 19, 11] = ns
  have ens : (ys ++ us).map ky = ns.map (fun n : Nat => Value.int (n : Int) 0) := by
    rw [← hns, List.map_append, List.map_append, eys, e₄]; rfl
  have lns : ns.length ≤ 6 := by rw [← hns]; simp; omega
  have ltn : ∀ n ∈ ns, n < 1000000 := by
    rw [← hns]
    intro n hn
    rcases List.mem_append.mp hn with hn | hn
    · obtain ⟨v, hv, rfl⟩ := List.mem_map.mp hn
      obtain ⟨i, t, rfl⟩ := hint2 v hv
      have h1 : Int.fmod i 1000000 < 1000000 := Int.fmod_lt_of_pos _ (by decide)
      show (Int.fmod i 1000000).toNat < 1000000
      omega
    · simp at hn; omega
  generalize ys ++ us = ws at p₅ ens
  have k35 : Kp h₃ h₅ := k₄.trans k₅
  have DL₃ : D₃ ≠ L := fun q => by obtain ⟨_, _, _, z, _⟩ := n₃.keeps k₄; rw [← q, nD₃] at z; cases z
  refine st1 (fenv rfl) (n₃.keeps k35) fun h₆ n₆ b₆ => ?_
  change h₆.Ns L _ at n₆
  change Heap.SameBut L h₅ h₆ at b₆
  dsimp only
  have kp₆ : Kp s.heap h₆ := fun b o e => (b₆.2 b (ne_none e nL)).trans (k35 b o (k₃ b o (k₂ b o (F.keep b o e))))
  have G₆ : Gl mg mb h₆ := G.keeps kp₆
  have p₆ : PL h₆ D₃ ws := PL.but p₅ b₆ DL₃
  -- letter
  refine wpAny_execs_cons ?_
  refine wpAny_Assign_Name ?_
  refine sub_tmp ?_
  refine wpAny_Constant_str ?_
  refine wpAny_BinOp ?_
  refine call_bi (id := "sum") G₆ (fenv rfl) rfl (by decide +kernel) (by kernel_rfl) (ld1 (fenv rfl) n₆ rfl (pl_sum hd p₆ ens ltn (by omega) fun h₇ tk₇ t₇ S k₇ => ?_))
  dsimp only at k₇ ⊢
  refine wpAny_Constant_int (PyProof.Rows.mod_int (by decide) ?_)
  have hS : ∃ i : Nat, i < 6 ∧ Int.fmod S 6 = (i : Int) := ⟨(Int.fmod S 6).toNat, by have h1 : Int.fmod S 6 < 6 := Int.fmod_lt_of_pos _ (by decide); omega, by have h0 : 0 ≤ Int.fmod S 6 := Int.fmod_nonneg_of_pos _ (by decide); omega⟩
  obtain ⟨i6, hi6, e6⟩ := hS
  rw [e6]
  refine six_item hi6 fun tk₈ tk₉ c hc => ?_
  refine st1 (fenv rfl) (n₆.keeps k₇) fun h₈ n₈ b₈ => ?_
  change h₈.Ns L _ at n₈
  change Heap.SameBut L h₇ h₈ at b₈
  dsimp only
  have kp₈ : Kp s.heap h₈ := fun b o e => (b₈.2 b (ne_none e nL)).trans (k₇ b o (kp₆ b o e))
  have G₈ : Gl mg mb h₈ := G.keeps kp₈
  have p₈ : PL h₈ D₃ ws := PL.but (PL.keep p₆ k₇) b₈ DL₃
  -- bags
  refine wpAny_execs_cons ?_
  refine Assign_Tuple ?_
  refine call_fn (i := 10) G₈ (fenv rfl) (by decide) rfl rfl (args_cons (ld1 (fenv rfl) n₈ rfl (args_nil ⟨Kp.rfl', fun fa hfa => bags_spec G₈ hfa rd p₈ ens (by omega) ltn fun TB a b g₁ tg₁ vF vS mi ot tm to tB kB na nb ab pF pS eF eS eM eO => ?_⟩)))
  dsimp only at kB na nb ⊢
  refine un_tuple (fenv rfl) hd tB rfl rfl rfl (n₈.keeps kB) fun g₂ tg₂ n₂' k₂' => ?_
  change g₂.Ns L _ at n₂'
  change ∀ b o, b ≠ L → g₁.get? b = some o → g₂.get? b = some o at k₂'
  dsimp only
  have nNone : ∀ {q : Addr}, h₈.get? q = none → q ≠ L := fun {q} e z => by obtain ⟨_, _, _, z', _⟩ := n₈; rw [← z, e] at z'; cases z'
  have aL := nNone na
  have bL := nNone nb
  have kp₉ : Kp s.heap g₂ := fun b o e => k₂' b o (ne_none e nL) (kB b o (kp₈ b o e))
  have G₉ : Gl mg mb g₂ := G.keeps kp₉
  have pF₂ : PL g₂ a vF := pF.at fun o e => k₂' a o aL e
  have pS₂ : PL g₂ b vS := pS.at fun o e => k₂' b o bL e
  -- due
  have lM : mi.cps.toList.length ≤ 36 := by
    rw [eM]
    have := flat_le (f := bagL manyOf) (n := 6) (l := ns) fun x _ => bagL_len many_le x
    omega
  have lO : ot.cps.toList.length ≤ 36 := by
    rw [eO]
    have := flat_le (f := bagL fewOf) (n := 6) (l := ns) fun x _ => bagL_len few_le x
    omega
  have sM : ∀ d ∈ mi.cps.toList, d ∈ six := by rw [eM]; exact bagL_six
  have sO : ∀ d ∈ ot.cps.toList, d ∈ six := by rw [eO]; exact bagL_six
  refine wpAny_execs_cons ?_
  refine wpAny_Assign_Name ?_
  refine call_fn (i := 12) G₉ (fenv rfl) (by decide) rfl rfl (args_cons (ld1 (fenv rfl) n₂' rfl (args_cons (ld1 (fenv rfl) n₂' rfl (args_cons (ld1 (fenv rfl) n₂' rfl (args_nil ⟨Kp.rfl', fun fa hfa => due_spec G₉ hfa rd (by omega) (by omega) sM sO hc fun T d1 d2 g₃ tg₃ v1 v2 tT kT nT nd1 nd2 p1 p2 e1 e2 => ?_⟩)))))))
  dsimp only at kT nT nd1 nd2 ⊢
  refine st1 (fenv rfl) (n₂'.keeps kT) fun g₄ n₄ b₄ => ?_
  change g₄.Ns L _ at n₄
  change Heap.SameBut L g₃ g₄ at b₄
  dsimp only
  have nNone2 : ∀ {q : Addr}, g₂.get? q = none → q ≠ L := fun {q} e z => by obtain ⟨_, _, _, z', _⟩ := n₂'; rw [← z, e] at z'; cases z'
  have TL := nNone2 nT
  have d1L := nNone2 nd1
  have d2L := nNone2 nd2
  have kg₄ : Kp s.heap g₄ := fun b o e => (b₄.2 b (ne_none e nL)).trans (kT b o (kp₉ b o e))
  have G₄ : Gl mg mb g₄ := G.keeps kg₄
  have pF₄ : PL g₄ a vF := PL.but (PL.keep pF₂ kT) b₄ aL
  have pS₄ : PL g₄ b vS := PL.but (PL.keep pS₂ kT) b₄ bL
  have t₄ : TP g₄ T [.ref d1, .ref d2] := (b₄.2 T TL).trans tT
  have p1₄ : PL g₄ d1 v1 := PL.but p1 b₄ d1L
  have p2₄ : PL g₄ d2 v2 := PL.but p2 b₄ d2L
  have XF : Rows2 c (mi.cps.toList.map (cmpK c)) (ot.cps.toList.map (cmpK c)) 0 vF vS := by
    refine ⟨?_, ?_, fun v hv => ?_, fun v hv => ?_, fun y => ?_⟩
    · have h1 := congrArg List.length eF
      have h2 := flat_le (f := bagS manyOf) (n := 2) (l := ns) fun x _ => bagS_len many_le x
      rw [List.length_map] at h1
      show _ ≤ 12
      omega
    · have h1 := congrArg List.length eS
      have h2 := flat_le (f := bagS fewOf) (n := 2) (l := ns) fun x _ => bagS_len few_le x
      rw [List.length_map] at h1
      show _ ≤ 12
      omega
    · exact bagS_sig (f := manyOf) (ns := ns) _ (eF ▸ List.mem_map.mpr ⟨v, hv, rfl⟩)
    · exact bagS_sig (f := fewOf) (ns := ns) _ (eS ▸ List.mem_map.mpr ⟨v, hv, rfl⟩)
    · rw [show 4 - 0 = 4 from rfl, eF, eS, bag_fin, bag_fin, eM, eO]
  -- the loop
  refine wpAny_execs_cons ?_
  refine wpAny_For ?_
  refine call_range (fenv rfl) G₄ rfl ?_
  refine wpAny_Constant_int ?_
  refine src_range (n := 8) (by decide) fun g₅ tg₅ k₅' z₅ hI => ?_
  dsimp only at k₅' z₅ hI ⊢
  have nI : g₄.get? (g₄.objs.size + 1) = none := Heap.get?_none_of_le (Nat.le_succ _)
  generalize g₄.objs.size + 1 = I at z₅ hI nI ⊢
  have LI : L ≠ I := let ⟨_, _, _, e, _⟩ := n₄; ne_none e nI
  refine for_walk' (Walks.range hd I 0 1 8) (fun i s' => ∃ g tk, s' = { s with heap := g, toks := tk } ∧ OInv g₄ L a b T c g) ⟨g₅, tg₅, rfl, ⟨_, _, n₄.keeps k₅', rfl, rfl, rfl, rfl⟩, fun b o _ e => k₅' b o e⟩ (by simpa using hI) ?_ ?_
  · rintro i s' v g' tk' E' hi ⟨g, tk, rfl, ⟨⟨m', tl, n', m1, m2, m3, m4⟩, kO⟩⟩ ⟨tv, rfl⟩ hst hk
    dsimp only at hk ⊢
    have hv : (0 : Int) + (i : Int) * 1 = ((i : Nat) : Int) := by omega
    rw [hv]
    have n'' : g'.Ns L m' := n'.at' fun o e => hk L o (by simpa using LI) e
    refine wpAny_assign_Name (st1 (fenv rfl) (m := m') n'' fun q₁ nq₁ b₁ => ?_)
    change q₁.Ns L _ at nq₁
    change Heap.SameBut L g' q₁ at b₁
    dsimp only
    have kq : ∀ b o, b ≠ L → g₄.get? b = some o → q₁.get? b = some o := fun b o hb e => (b₁.2 b hb).trans (hk b o (by simpa using ne_none e nI) (kO b o hb e))
    refine outer_body (h₁ := g₄) (a := a) (b := b) (T := T) (ch := i) r hfr G nL kg₄ hc hi sM sO pF₄ pS₄ aL bL XF t₄ TL p1₄ p2₄ d1L d2L e1 e2 nq₁ m1 m2 m3 m4 rfl kq ?_
    intro g'' tk'' O'' k''
    refine ⟨⟨g'', tk'', rfl, O''⟩, fun b hb o e => ?_⟩
    rw [List.mem_singleton.mp hb] at e ⊢
    exact k'' I o (Ne.symm LI) ((b₁.2 I (Ne.symm LI)).trans e)
  · rintro s' g' tk' ⟨g, tk, rfl, ⟨_, kO⟩⟩ hk
    dsimp only at hk ⊢
    refine wpAny_execs_cons (wpAny_Return_some (wpAny_Constant_bool ?_))
    exact hQ g' _ fun b o e => hk b o (by simpa using ne_none (kg₄ _ _ e) nI) (kO b o (ne_none e nL) (kg₄ b o e))
end
end Mine

namespace Mine
open PySem PySem.W PySem.Calls PyProof.Rows

section
variable {den : Code → Sem Fin} {p : Program} {w : World}

/-- a thread halts done only where it is through -/
theorem step_done {s s' : Shared} {t : Thread} {f : Flow} (h : step den p w s t = .halt (.done f) s') : through t = true ∧ s' = s := by
  refine ⟨?_, step_halt_same den p w s s' t _ h⟩
  obtain ⟨heap, gens, drawn, toks, os⟩ := s
  obtain ⟨cur, code, pos, stack⟩ := t
  cases cur <;> simp only [step, finish] at h <;> (repeat' split at h) <;> first | (cases h; done) | (cases h; simp_all [through])

theorem sched_through : ∀ {n : Nat} {s s' : Shared} {t : Thread} {f : Flow}, runN den p w n s t = .halted (.done f) s' → (∀ k s₁ t₁, runN den p w k s t = .running s₁ t₁ → t₁.calm = true) → s.asleep →
    ∃ m t₁, schedN den p w m (.single s t) = .running (.single s' t₁) ∧ through t₁ = true
  | 0, _, _, _, _, h, _, _ => by cases h
  | n + 1, s, s', t, f, h, hc, hz => by
    have e := sstep_single den p w s t (hc 0 s t rfl) hz
    simp only [runN] at h
    cases hs : step den p w s t with
    | go s₂ t₂ =>
      rw [hs] at h e
      obtain ⟨m, t₁, hm, ht⟩ := sched_through h (fun k s₁ t₁ q => hc (k + 1) s₁ t₁ (by simp only [runN, hs]; exact q)) (Shared.asleep_of_life (step_life den p w s s₂ t t₂ hs) hz)
      rcases e with e | e
      · exact ⟨m + 1, t₁, by simp only [schedN, e, Step.lift]; exact hm, ht⟩
      · cases e
    | halt o₂ s₂ =>
      rw [hs] at h
      cases h
      obtain ⟨h1, rfl⟩ := step_done hs
      exact ⟨0, t, rfl, h1⟩
end

/-- a run that the wp logic knows comes through -/
theorem top_of_wp {p : Program} {w : World} {t : Sem Fin} {s : Shared} {R : Shared → Prop} (hz : s.asleep)
    (h : wpAny (model p w) callerA t (fun fin s' => ∃ f, fin = .done f ∧ (R s' ∧ s'.gens = #[])) (fun _ _ => False) s) :
    ∃ n t₁ s', schedN (denote table) p w n (.single s ⟨t, .builtin "claim.caller" {}, default, []⟩) = .running (.single s' t₁) ∧ through t₁ = true ∧ s'.heap.life = s.heap.life ∧ R s' ∧ s'.gens = #[] := by
  have h' := wp_of_wpAny_done (R := fun r s' => ((∃ f, r = .ok f) ∧ R s' ∧ s'.gens = #[]) ∧ leftWithCleanup s'.gens = false) caller_in
    (wpAny_mono h (fun _ _ ⟨f, e, a, b⟩ => ⟨f, e, ⟨⟨f, rfl⟩, a, b⟩, by rw [b]; simp [leftWithCleanup]⟩) fun _ _ x => x.elim) default
  obtain ⟨n, r, s₁, hn, ⟨f, rfl⟩, hR⟩ := (wp_iff_halts (M := model p w) (R := fun r s' => (∃ f, r = .ok f) ∧ R s' ∧ s'.gens = #[]) ..).mp h'
  obtain ⟨s₂, hr, hf, hc⟩ := runNI_real _ _ _ hn (outcomeOf_ends (.ok f))
  obtain rfl : s₂ = s₁ := Shared.eq_of_forget_eq hf hR.2
  obtain ⟨m, t₁, hm, ht⟩ := sched_through hr hc hz
  exact ⟨m, t₁, s₂, hm, ht, runN_life _ _ _ hr, hR⟩
end Mine

namespace Mine
open PySem PySem.W PySem.Calls PyProof.Rows PyProof.V

section
variable {prog : Program} {w : World} {A : Around} {E : Value → Shared → Prop} {s : Shared}

theorem put_new {d : Addr} {kvs : List (Int × Value)} {k : Int} {key v : Value} {Q : Unit → Shared → Prop} (hkey : (intKind prog w).is k key = true) (hm : s.heap.DictOf (intKind prog w) d kvs) (hnot : k ∉ kvs.map (·.1)) (hsz : kvs.length ≤ 1000)
    (hQ : ∀ h', h'.DictOf (intKind prog w) d (kvs ++ [(k, v)]) → Heap.SameBut d s.heap h' → Q () { s with heap := h' }) : wpAny (model prog w) A (dictPut d ((intKind prog w).hash k) key v) Q E s := by
  obtain ⟨o, es, ep, ho, hc, hd, hk, hp, hn⟩ := hm
  have hes : es.size ≤ sizeLine := by have e1 := hp.length; have e2 : es.toList.length = es.size := by simp
                                      rw [sizeLine_eq]; omega
  unfold dictPut
  refine wpAny_bind (wpAny_dictFind_of hkey ho hd hk ?_)
  have hidx : (es.findIdx? fun e => (intKind prog w).is k e.key) = kvs.findIdx? fun kv => decide (kv.1 = k) := by
    rw [← hp.findIdx k]; obtain ⟨l⟩ := es; simp
  have hnone : (es.findIdx? fun e => (intKind prog w).is k e.key) = none := by
    rw [hidx, List.findIdx?_eq_none_iff]
    intro x hx
    exact decide_eq_false fun q => hnot (List.mem_map.mpr ⟨x, hx, q⟩)
  rw [hnone]
  refine wpAny_updateDictKeys (hz := hes) ho hd (hQ _ ⟨_, _, ep + 1, Heap.get?_update_self _ ho (Obj.isFreed_of_dict (Obj.data_mapDictKeys hd _)), hc.mapDictKeys _, Obj.data_mapDictKeys hd _, hk.push hkey _, ?_, ?_⟩ (Heap.SameBut.update ..))
  · have := hp.append hkey ((intKind prog w).hash k) v
    obtain ⟨l⟩ := es
    simpa using this
  · rw [List.map_append, List.nodup_append]
    refine ⟨hn, by simp, ?_⟩
    intro a ha b hb
    simp only [List.map_cons, List.map_nil, List.mem_singleton] at hb
    subst hb
    exact fun e => hnot (e ▸ ha)
theorem set_new {d : Addr} {kvs : List (Int × Value)} {k : Int} {t : Tok} {v : Value} {Q : Unit → Shared → Prop} (hm : s.heap.DictOf (intKind prog w) d kvs) (hnot : k ∉ kvs.map (·.1)) (hsz : kvs.length ≤ 1000)
    (hQ : ∀ h' tk, h'.DictOf (intKind prog w) d (kvs ++ [(k, v)]) → Heap.SameBut d s.heap h' → Q () { s with heap := h', toks := tk }) : wpAny (model prog w) A (dictSet d (.int k t) v) Q E s := by
  unfold dictSet
  refine wpAny_holding (wpAny_bind ((intKind prog w).pyHash (isInt_self k t) ?_))
  refine wpAny_dictSetHashed_pairs (knd := intKind prog w) (isInt_self k t) (s := { s with toks := s.toks + 1 }) hm (fun h' hm' hb' => ?_) (by rw [sizeLine_eq]; omega)
  have e : stored kvs k v = kvs ++ [(k, v)] := by
    unfold stored
    rw [if_neg]
    rw [List.any_eq_true]; rintro ⟨kv, hkv, he⟩
    exact hnot (List.mem_map.mpr ⟨kv, hkv, of_decide_eq_true he⟩)
  rw [e] at hm'
  exact hQ h' _ hm' hb'

/-- a written value's tree -/
def LitSem (prog : Program) (w : World) (A : Around) (t : Sem Value) (d : PyData) : Prop := ∀ (s : Shared) (Q E : Value → Shared → Prop), (∀ v tk, Flat v d → Q v { s with toks := tk }) → wpAny (model prog w) A t Q E s
/-- a run of written pairs -/
inductive LitRun (prog : Program) (w : World) (A : Around) : List (Sem Value × Sem Value) → List (PyData × PyData) → Prop
  | nil : LitRun prog w A [] []
  | cons {k v : Sem Value} {i : Int} {d : PyData} {r : List (Sem Value × Sem Value)} {D : List (PyData × PyData)} : LitSem prog w A k (.int i) → LitSem prog w A v d → LitRun prog w A r D → LitRun prog w A ((k, v) :: r) ((.int i, d) :: D)
theorem LitRun.snoc {prog : Program} {w : World} {A : Around} {r : List (Sem Value × Sem Value)} {D : List (PyData × PyData)} (h : LitRun prog w A r D) {k v : Sem Value} {i : Int} {d : PyData} (hk : LitSem prog w A k (.int i)) (hv : LitSem prog w A v d) : LitRun prog w A (r ++ [(k, v)]) (D ++ [(.int i, d)]) := by
  induction h with
  | nil => exact .cons hk hv .nil
  | cons a b _ ih => exact .cons a b ih
theorem LitRun.length {prog : Program} {w : World} {A : Around} {r : List (Sem Value × Sem Value)} {D : List (PyData × PyData)} (h : LitRun prog w A r D) : r.length = D.length := by
  induction h with
  | nil => rfl
  | cons _ _ _ ih => simp [ih]
theorem fp_snoc {kvs : List (Int × Value)} {D : List (PyData × PyData)} (h : FlatPairs PyData.int kvs D) {i : Int} {v : Value} {d : PyData} (hv : Flat v d) : FlatPairs PyData.int (kvs ++ [(i, v)]) (D ++ [(.int i, d)]) := by
  induction h with
  | nil => exact .cons hv .nil
  | cons a _ ih => exact .cons a ih
theorem fp_app {kvs ks : List (Int × Value)} {D F : List (PyData × PyData)} (h : FlatPairs PyData.int kvs D) (h' : FlatPairs PyData.int ks F) : FlatPairs PyData.int (kvs ++ ks) (D ++ F) := by
  induction h with
  | nil => exact h'
  | cons a _ ih => exact .cons a ih
theorem fp_keys {kvs : List (Int × Value)} {D : List (PyData × PyData)} (h : FlatPairs PyData.int kvs D) : kvs.map (·.1) = intKeysOf D := by
  induction h with
  | nil => rfl
  | cons _ _ ih => rw [List.map_cons, ih]; rfl
theorem keysOf_app : ∀ {D F : List (PyData × PyData)}, intKeyed D = true → intKeysOf (D ++ F) = intKeysOf D ++ intKeysOf F
  | [], _, _ => rfl
  | (.int i, _) :: D, F, h => by
    have : intKeyed D = true := h
    show i :: intKeysOf (D ++ F) = _
    rw [keysOf_app this]; rfl
theorem fp_keyed {kvs : List (Int × Value)} {D : List (PyData × PyData)} (h : FlatPairs PyData.int kvs D) : intKeyed D = true := by
  induction h with
  | nil => rfl
  | cons _ _ ih => exact ih

/-- the pairs of a run, one after the other -/
theorem store_run {r : List (Sem Value × Sem Value)} {D : List (PyData × PyData)} (hr : LitRun prog w A r D) : ∀ {s : Shared} {d : Addr} {kvs : List (Int × Value)} {D₀ : List (PyData × PyData)} {Q : Unit → Shared → Prop},
    s.heap.DictOf (intKind prog w) d kvs → FlatPairs PyData.int kvs D₀ → (intKeysOf (D₀ ++ D)).Nodup → kvs.length + D.length ≤ 1000 →
    (∀ h' tk kvs', h'.DictOf (intKind prog w) d kvs' → FlatPairs PyData.int kvs' (D₀ ++ D) → Heap.SameBut d s.heap h' → Q () { s with heap := h', toks := tk }) →
    wpAny (model prog w) A (forIn r PUnit.unit fun x (_ : PUnit) => (match x with | (k, v) => do let kv ← k; let vv ← holding [kv] v; holding [kv, vv] (dictSet d kv vv); pure (ForInStep.yield PUnit.unit) : Sem (ForInStep PUnit))) Q E s := by
  induction hr with
  | nil =>
    intro s d kvs D₀ Q hm hF _ _ h
    exact wpAny_pure (h s.heap s.toks kvs hm (by simpa using hF) (Heap.SameBut.refl _ _))
  | cons hk hv hr ih =>
    rename_i k v i dv r D
    intro s d kvs D₀ Q hm hF hn hz h
    rw [List.forIn_cons]
    refine wpAny_bind (wpAny_bind (hk _ _ _ fun kv tk fk => ?_))
    obtain ⟨t, rfl⟩ := fk.int_inv
    refine wpAny_bind (wpAny_holding (hv _ _ _ fun vv tk' fv => ?_))
    have hnot : i ∉ kvs.map (·.1) := by
      rw [fp_keys hF]
      rw [keysOf_app (fp_keyed hF)] at hn
      intro q
      exact (List.nodup_append.mp hn).2.2 i q i (by show i ∈ i :: _; exact List.mem_cons_self) rfl
    refine wpAny_bind (wpAny_holding (set_new hm hnot (by omega) fun h₁ tk₁ hm₁ b₁ => wpAny_pure ?_))
    refine ih hm₁ (fp_snoc hF fv) (by simpa using hn) (by simp at hz ⊢; omega) fun h' tk'' kvs' hm' hF' b' => ?_
    exact h h' tk'' kvs' hm' (by simpa using hF') (b₁.trans b')
theorem eval_run {r : List (Sem Value × Sem Value)} {D : List (PyData × PyData)} (hr : LitRun prog w A r D) : ∀ {s : Shared} {Q : List (Value × Value) → Shared → Prop}, (∀ vs tk, ReadAs vs D → Q vs { s with toks := tk }) → wpAny (model prog w) A (evalPairs r) Q E s := by
  induction hr with
  | nil => intro s Q h; exact wpAny_pure (h [] s.toks .nil)
  | cons hk hv hr ih =>
    intro s Q h
    unfold evalPairs
    refine wpAny_bind (hk _ _ _ fun kv tk fk => wpAny_bind (wpAny_holding (hv _ _ _ fun vv tk' fv => wpAny_bind (wpAny_holding (ih fun vs tk'' hvs => wpAny_pure (h _ _ (.cons fk fv hvs)))))))
theorem sub_dict {r : List (Sem Value × Sem Value)} {D : List (PyData × PyData)} {Q : Addr → Shared → Prop} (hr : LitRun prog w A r D) (hk : intKeyed D = true) (hn : (intKeysOf D).Nodup) (hz : D.length ≤ 100)
    (h : ∀ h' tk kvs, h'.DictOf (intKind prog w) s.heap.objs.size kvs → FlatPairs PyData.int kvs D → Kp s.heap h' → Q s.heap.objs.size { s with heap := h', toks := tk }) : wpAny (model prog w) A (subDict r) Q E s := by
  by_cases hl : r.length ≤ 15
  · refine wpAny_subDict (knd := intKind prog w) hl (eval_run hr fun vs tk fr => ?_)
    obtain ⟨h1, h2, h3⟩ := fr.int hk
    refine display_done_int h1 (h2 ▸ hn) (Heap.DictOf.new _) fun h' hm hsb => ?_
    exact h h' _ _ hm h3 fun b o' e => (hsb.2 b (Nat.ne_of_lt (Heap.lt_size e))).trans (Heap.get?_push_of_some _ e)
  · unfold subDict
    refine wpAny_bind (wpAny_alloc (wpAny_bind (wpAny_holding ?_)))
    rw [if_neg hl]
    refine wpAny_bind (wpAny_rule ?_)
    have hnew : (s.heap.push { cls := .type "dict", data := .dict #[] }).DictOf (intKind prog w) s.heap.objs.size [] := Heap.DictOf.new _
    have key := fun Q' hQ' => store_run (E := E) hr (s := { s with heap := s.heap.push { cls := .type "dict", data := .dict #[] } }) (d := s.heap.objs.size) (D₀ := []) (kvs := []) (Q := Q') hnew .nil (by simpa using hn) (by simp; omega) hQ'
    refine wpAny_bind (key _ fun h' tk kvs hm hF hsb => ?_)
    refine wpAny_pure (wpAny_pure ?_)
    exact h h' tk kvs hm (by simpa using hF) fun b o' e => (hsb.2 b (Nat.ne_of_lt (Heap.lt_size e))).trans (Heap.get?_push_of_some _ e)
end
end Mine

namespace Mine
open PySem PySem.W PySem.Calls PyProof.Rows PyProof.V
section
variable {prog : Program} {w : World} {A : Around} {E : Value → Shared → Prop} {s : Shared}

theorem sub_dict_dict : isSubtype (.type "dict") (.type "dict") = pure true := by rw [isSubtype_type]; kernel_rfl

theorem merge_new {d o : Addr} {kvs more : List (Int × Value)} {Q : Unit → Shared → Prop} (hdo : d ≠ o) (hoS : (o == sysModules) = false)
    (hd : s.heap.DictOf (intKind prog w) d kvs) (ho : s.heap.DictOf (intKind prog w) o more) (hne : kvs ≠ []) (hn : ((kvs ++ more).map (·.1)).Nodup) (hz : kvs.length + more.length ≤ 1000)
    (hQ : ∀ h', h'.DictOf (intKind prog w) d (kvs ++ more) → Heap.SameBut d s.heap h' → Q () { s with heap := h' }) : wpAny (model prog w) A (mergeMapping d (.ref o) false) Q E s := by
  obtain ⟨od, esd, epd, hod, hcd, hdd, hkd, hpd, hnd⟩ := id hd
  obtain ⟨oo, eso, epo, hoo, hco, hdo', hko, hpo, hno⟩ := id ho
  have hT : s.TypeIs (.ref o) "dict" := ⟨oo, hoo, hco.1⟩
  have hlen : more.length = eso.size := by rw [← hpo.length]; simp
  have hend : esd.isEmpty = false := by
    have := hpd.length
    rcases kvs with _ | ⟨a, b⟩
    · exact absurd rfl hne
    · cases h : esd.isEmpty with
      | false => rfl
      | true => rw [Array.isEmpty_iff] at h; subst h; simp at this
  unfold mergeMapping
  refine wpAny_bind (wpAny_isInstance (T := "dict") (b := true) hT sub_dict_dict ?_)
  rw [if_pos rfl]
  refine wpAny_bind (wpAny_specialOf hT PySem.F.slot_dict_iter.lookup ?_)
  rw [show ((some (Value.builtin "dict.__iter__")) == some (.builtin "dict.__iter__")) = true by rfl]
  refine wpAny_bind (wpAny_pure ?_)
  dsimp only
  rw [if_neg (by rw [hoS]; exact Bool.false_ne_true)]
  refine wpAny_bind (wpAny_dictEntries hod hdd ?_)
  rw [if_neg (by rw [hend]; exact Bool.false_ne_true)]
  refine wpAny_bind (wpAny_dictEntries hoo hdo' ?_)
  refine wpAny_bind (wpAny_dictEpoch hoo hdo' ?_)
  refine wpAny_bind ?_
  refine wpAny_forIn_list _ (fun rest _ s' => ∃ h' i, s' = { s with heap := h' } ∧ rest = List.range' i (eso.size - i) ∧ i ≤ eso.size ∧ h'.DictOf (intKind prog w) d (kvs ++ more.take i) ∧ h'.get? o = some oo ∧ Heap.SameBut d s.heap h')
      _ ?_ ?_ _ _ ⟨s.heap, 0, rfl, by rw [List.range_eq_range']; simp, Nat.zero_le _, by simpa using hd, hoo, Heap.SameBut.refl _ _⟩
  · rintro x rest b s' ⟨h', i, rfl, hr, hi, hd', hoo', hs'⟩
    have hlt : i < eso.size := by
      rcases Nat.lt_or_ge i eso.size with h | h
      · exact h
      · rw [Nat.sub_eq_zero_of_le h] at hr; simp at hr
    obtain ⟨rfl, hrest⟩ : x = i ∧ rest = List.range' (i + 1) (eso.size - (i + 1)) := by
      have e : eso.size - i = (eso.size - (i + 1)) + 1 := by omega
      rw [e, List.range'_succ] at hr
      injection hr with h1 h2
      exact ⟨h1, h2⟩
    refine wpAny_bind (wpAny_dictEntries hoo' hdo' ?_)
    have hx : eso[x]? = some eso[x] := by simp [hlt]
    rw [hx]
    dsimp only
    have hxl : x < more.length := by omega
    have hpair : ∀ {es : List DictEntry} {ms : List (Int × Value)}, Pairs (intKind prog w) es ms → ∀ (j : Nat) (h1 : j < es.length) (h2 : j < ms.length), (intKind prog w).is ms[j].1 es[j].key = true ∧ es[j].val = ms[j].2 := by
      intro es ms hp
      induction hp with
      | nil => intro j h1; simp at h1
      | cons a b _ ih =>
        intro j h1 h2
        cases j with
        | zero => exact ⟨a, b⟩
        | succ j => exact ih j (by simpa using h1) (by simpa using h2)
    obtain ⟨p1, p2⟩ := hpair hpo x (by simpa using hlt) hxl
    have p1' : (intKind prog w).is more[x].1 eso[x].key = true := by simpa using p1
    have p2' : eso[x].val = more[x].2 := by simpa using p2
    have hh : eso[x].hash = (intKind prog w).hash more[x].1 := by
      obtain ⟨k, hk1, hk2⟩ := hko eso[x] (Array.getElem_mem hlt)
      rw [hk2, (intKind prog w).inj _ _ _ hk1 p1']
    have htake : more.take (x + 1) = more.take x ++ [more[x]] := by rw [List.take_add_one, List.getElem?_eq_getElem hxl]; rfl
    have hnot : more[x].1 ∉ (kvs ++ more.take x).map (·.1) := by
      intro q
      have hsplit : kvs ++ more = (kvs ++ more.take x) ++ more[x] :: more.drop (x + 1) := by
        rw [List.append_assoc]
        congr 1
        have := List.take_append_drop x more
        rw [List.drop_eq_getElem_cons hxl] at this
        exact this.symm
      rw [hsplit, List.map_append, List.map_cons] at hn
      exact (List.nodup_append.mp hn).2.2 _ q _ List.mem_cons_self rfl
    refine wpAny_bind (wpAny_holding ?_)
    rw [if_neg Bool.false_ne_true, hh, p2']
    refine put_new (s := { s with heap := h' }) p1' hd' hnot (by simp; omega) fun h'' hm'' hb'' => ?_
    have hoo'' : h''.get? o = some oo := (hb''.2 o (Ne.symm hdo)).trans hoo'
    refine wpAny_bind (wpAny_dictEpoch hoo'' hdo' ?_)
    rw [if_neg (by simp)]
    refine wpAny_pure ⟨h'', x + 1, rfl, hrest, hlt, ?_, hoo'', hs'.trans hb''⟩
    rw [htake, ← List.append_assoc]
    exact hm''
  · rintro b s' ⟨h', i, rfl, hr, hi, hd', hoo', hs'⟩
    have : i = eso.size := by
      rcases Nat.lt_or_ge i eso.size with h | h
      · have e : eso.size - i = (eso.size - (i + 1)) + 1 := by omega
        rw [e, List.range'_succ] at hr; cases hr
      · omega
    refine wpAny_pure (hQ h' ?_ hs')
    rw [this, ← hlen, List.take_of_length_le (Nat.le_refl _)] at hd'
    exact hd'
end
end Mine

namespace Mine
open PySem PySem.W PySem.Calls PyProof.Rows PyProof.V
section
variable {prog : Program} {w : World} {A : Around} {E : Value → Shared → Prop} {s : Shared}

/-- written items of a display -/
inductive LitItems (prog : Program) (w : World) (A : Around) : List (Option (Sem Value) × Sem Value) → List (PyData × PyData) → Prop
  | nil : LitItems prog w A [] []
  | cons {k v : Sem Value} {i : Int} {d : PyData} {r : List (Option (Sem Value) × Sem Value)} {D : List (PyData × PyData)} : LitSem prog w A k (.int i) → LitSem prog w A v d → LitItems prog w A r D → LitItems prog w A ((some k, v) :: r) ((.int i, d) :: D)

def flushS (run : List (Sem Value × Sem Value)) (main : Option Addr) : Sem (Option Addr) := do
    if run.isEmpty then return main
    match main with
    | none => return some (← subDict run)
    | some d =>
      let sub ← holding [.ref d] (subDict run)
      (holding [.ref d, .ref sub] (mergeMapping d (.ref sub) false)).onRaise fun x => do let _ ← holding [.ref d, x] (runValue (.builtin "proto.let_go" {}))
      return some d

/-- what a display's dict holds so far -/
def DSt (prog : Program) (w : World) (n₀ : Nat) (h : Heap) (main : Option Addr) (D : List (PyData × PyData)) : Prop :=
  (main = none ∧ D = []) ∨ ∃ d kvs, main = some d ∧ n₀ ≤ d ∧ h.DictOf (intKind prog w) d kvs ∧ FlatPairs PyData.int kvs D ∧ kvs ≠ []

theorem flush_ok {run : List (Sem Value × Sem Value)} {main : Option Addr} {D₀ D : List (PyData × PyData)} {n₀ : Nat} {Q : Option Addr → Shared → Prop} (hn₀ : n₀ ≤ s.heap.objs.size) (h2 : 2 ≤ n₀) (hm : DSt prog w n₀ s.heap main D₀) (hr : LitRun prog w A run D) (hne : D ≠ []) (hk : intKeyed (D₀ ++ D) = true) (hn : (intKeysOf (D₀ ++ D)).Nodup) (hz : D₀.length + D.length ≤ 1000) (hz' : D.length ≤ 17)
    (hQ : ∀ h' tk main', DSt prog w n₀ h' main' (D₀ ++ D) → (∀ b o, b < n₀ → s.heap.get? b = some o → h'.get? b = some o) → s.heap.objs.size ≤ h'.objs.size → main'.isSome = true → Q main' { s with heap := h', toks := tk }) :
    wpAny (model prog w) A (flushS run main) Q E s := by
  have hlen := hr.length
  have hkD : intKeyed D = true ∧ intKeyed D₀ = true := by
    clear hm hr hne hn hz hz' hlen hQ
    induction D₀ with
    | nil => exact ⟨hk, rfl⟩
    | cons p D₀ ih =>
      obtain ⟨p1, p2⟩ := p
      cases p1 with
      | int i => exact ih hk
      | none | bool _ | str _ | list _ | tuple _ | dict _ => cases hk
  have hne' : run.isEmpty = false := by
    cases run with
    | nil => exact absurd (List.length_eq_zero_iff.mp hlen.symm) hne
    | cons _ _ => rfl
  have hnD : (intKeysOf D).Nodup := by
    rw [keysOf_app hkD.2] at hn
    exact (List.nodup_append.mp hn).2.1
  unfold flushS
  rw [if_neg (by rw [hne']; exact Bool.false_ne_true)]
  rcases hm with ⟨rfl, rfl⟩ | ⟨d, kvs, rfl, hd0, hd, hF, hkv⟩
  · refine wpAny_bind (sub_dict hr hkD.1 hnD (by omega) fun h' tk kvs hm hF hk' => wpAny_pure ?_)
    refine hQ h' tk _ (.inr ⟨_, kvs, rfl, hn₀, hm, by simpa using hF, ?_⟩) (fun b o _ e => hk' b o e) ?_ rfl
    · rintro rfl; cases hF; exact hne rfl
    · obtain ⟨o, _, _, e, _⟩ := hm; exact Nat.le_of_lt (Heap.lt_size e)
  · refine wpAny_bind (wpAny_holding (sub_dict hr hkD.1 hnD (by omega) fun h' tk more hm hF' hk' => ?_))
    have hd' : h'.DictOf (intKind prog w) d kvs := let ⟨o, es, ep, e, r⟩ := hd; ⟨o, es, ep, hk' _ _ e, r⟩
    have hdl : d < s.heap.objs.size := let ⟨o, _, _, e, _⟩ := hd; Heap.lt_size e
    have l1 := hF.length
    have l2 := hF'.length
    refine wpAny_bind (wpAny_onRaise (wpAny_holding (merge_new (s := { s with heap := h', toks := tk }) (Nat.ne_of_lt hdl) ?_ hd' hm hkv ?_ (by omega) fun h'' hm'' hb'' => ?_)))
    · rw [beq_eq_false_iff_ne]
      intro q
      have : (1 : Nat) = s.heap.objs.size := q.symm
      omega
    · rw [fp_keys (fp_app hF hF')]; exact hn
    · dsimp only at hb'' ⊢
      refine wpAny_pure (hQ h'' tk _ (.inr ⟨d, kvs ++ more, rfl, hd0, hm'', fp_app hF hF', ?_⟩) (fun b o hb e => (hb''.2 b ?_).trans (hk' b o e)) ?_ rfl)
      · intro q; exact hkv (List.append_eq_nil_iff.mp q).1
      · exact Nat.ne_of_lt (Nat.lt_of_lt_of_le hb hd0)
      · rw [hb''.1]
        obtain ⟨o, _, _, e, _⟩ := hm
        exact Nat.le_of_lt (Heap.lt_size e)

theorem display_ok {items : List (Option (Sem Value) × Sem Value)} {D : List (PyData × PyData)} {Q : Value → Shared → Prop} (hi : LitItems prog w A items D) (hne : D ≠ []) (hk : intKeyed D = true) (hn : (intKeysOf D).Nodup) (hz : D.length ≤ 1000) (h2 : 2 ≤ s.heap.objs.size)
    (hQ : ∀ d h' tk o, h'.get? d = some o → TabObj (intKind prog w) PyData.int D o → s.heap.objs.size ≤ d → Kp s.heap h' → Q (.ref d) { s with heap := h', toks := tk }) : wpAny (model prog w) A (dictDisplay items) Q E s := by
  unfold dictDisplay
  dsimp only
  refine wpAny_bind ?_
  refine wpAny_forIn_list _ (fun rest b s' => ∃ h tk D₀ Dr Ds, s' = { s with heap := h, toks := tk } ∧ LitItems prog w A rest Ds ∧ LitRun prog w A b.2 Dr ∧ Dr.length < 17 ∧ D = D₀ ++ Dr ++ Ds ∧ DSt prog w s.heap.objs.size h b.1 D₀ ∧ Kp s.heap h ∧ s.heap.objs.size ≤ h.objs.size)
    _ ?_ ?_ _ _ ⟨s.heap, s.toks, [], [], D, rfl, hi, .nil, by decide, rfl, .inl ⟨rfl, rfl⟩, Kp.rfl', Nat.le_refl _⟩
  · rintro x rest ⟨main, run⟩ s' ⟨h, tk, D₀, Dr, Ds, rfl, hit, hr, hl, hD, hm, hk', hsz⟩
    dsimp only at hr hm ⊢
    cases hit with
    | cons lk lv hrest =>
      rename_i k v i d Ds
      dsimp only
      have hr' := hr.snoc lk lv
      have hrl := hr'.length
      have hDl := congrArg List.length hD
      simp only [List.length_append, List.length_cons, List.length_nil] at hrl hDl
      by_cases h17 : (run ++ [(k, v)]).length = 17
      · rw [if_pos (by rw [h17]; rfl)]
        refine wpAny_bind ?_
        have hpre : intKeyed (D₀ ++ (Dr ++ [(.int i, d)])) = true ∧ (intKeysOf (D₀ ++ (Dr ++ [(.int i, d)]))).Nodup := by
          have e : D = (D₀ ++ (Dr ++ [(.int i, d)])) ++ Ds := by rw [hD]; simp
          have pre : ∀ {a b : List (PyData × PyData)}, intKeyed (a ++ b) = true → intKeyed a = true := by
            intro a b
            induction a with
            | nil => intro _; rfl
            | cons p a ih =>
              obtain ⟨p1, p2⟩ := p
              cases p1 with
              | int i => intro q; exact ih q
              | none | bool _ | str _ | list _ | tuple _ | dict _ => intro q; cases q
          rw [e] at hk hn
          refine ⟨pre hk, ?_⟩
          rw [keysOf_app (pre hk)] at hn
          exact (List.nodup_append.mp hn).1
        have key := fun Q' hQ' => flush_ok (E := E) (s := { s with heap := h, toks := tk }) (Q := Q') (n₀ := s.heap.objs.size) hsz h2 hm hr' (by simp) hpre.1 hpre.2 (by simp only [List.length_append, List.length_cons, List.length_nil]; omega) (by simp only [List.length_append, List.length_cons, List.length_nil]; omega) hQ'
        refine key _ fun h' tk' main' hm' hkk hs' hsome => ?_
        exact wpAny_pure ⟨h', tk', D₀ ++ (Dr ++ [(.int i, d)]), [], Ds, rfl, hrest, .nil, by decide, by rw [hD]; simp, hm', fun b o e => hkk b o (Heap.lt_size e) (hk' b o e), Nat.le_trans hsz hs'⟩
      · rw [if_neg (by simpa using h17)]
        exact wpAny_pure ⟨h, tk, D₀, Dr ++ [(.int i, d)], Ds, rfl, hrest, hr', by simp only [List.length_append, List.length_cons, List.length_nil] at h17 ⊢; omega, by rw [hD]; simp, hm, hk', hsz⟩
  · rintro ⟨main, run⟩ s' ⟨h, tk, D₀, Dr, Ds, rfl, hit, hr, hl, hD, hm, hk', hsz⟩
    cases hit
    dsimp only at hr hm ⊢
    rw [List.append_nil] at hD
    have fin : ∀ (main' : Option Addr) (h' : Heap) (tk' : Nat), DSt prog w s.heap.objs.size h' main' D → Kp s.heap h' → wpAny (model prog w) A (match main' with | some d => pure (Value.ref d) | none => newDict) Q E { s with heap := h', toks := tk' } := by
      rintro main' h' tk' (⟨rfl, e⟩ | ⟨d, kvs, rfl, hd0, hd, hF, _⟩) kk
      · exact absurd e hne
      · obtain ⟨o, ho, r⟩ := Heap.dictOf_iff.mp hd
        exact wpAny_pure (hQ d h' tk' o ho ⟨kvs, r, hF⟩ hd0 kk)
    refine wpAny_bind ?_
    by_cases hr0 : Dr = []
    · subst hr0
      have : run = [] := List.length_eq_zero_iff.mp hr.length
      subst this
      rw [if_pos (show ([] : List (Sem Value × Sem Value)).isEmpty = true from rfl)]
      refine wpAny_pure ?_
      rw [List.append_nil] at hD
      subst hD
      exact fin main h tk hm hk'
    · have key := fun Q' hQ' => flush_ok (E := E) (s := { s with heap := h, toks := tk }) (Q := Q') (n₀ := s.heap.objs.size) hsz h2 hm hr hr0 (hD ▸ hk) (hD ▸ hn) (by have := congrArg List.length hD; simp at this; omega) (by omega) hQ'
      refine key _ fun h' tk' main' hm' hkk hs' hsome => ?_
      rw [← hD] at hm'
      exact fin main' h' tk' hm' fun b o e => hkk b o (Heap.lt_size e) (hk' b o e)

theorem lit_items {env : Env} {pos : Pos} : ∀ {keys : List (Option Expr)} {values : List Expr} {D : List (PyData × PyData)}, litPairs keys values = some D → intKeyed D = true →
    LitItems prog w A ((evalEachOpt keys env).zip ((evalEach values env).map fun v => do let x ← v; standAt pos; pure x)) D
  | [], [], D, h, _ => by
    have : D = [] := by simpa [litPairs] using h.symm
    subst this; exact .nil
  | some k :: ks, v :: vs, D, h, hk => by
    cases h1 : tabLit k with
    | none => simp [litPairs, h1] at h
    | some dk =>
      cases h2 : tabLit v with
      | none => simp [litPairs, h1, h2] at h
      | some dv =>
        cases h3 : litPairs ks vs with
        | none => simp [litPairs, h1, h2, h3] at h
        | some r =>
          have e : D = (dk, dv) :: r := by simpa [litPairs, h1, h2, h3] using h.symm
          subst e
          cases dk with
          | int i =>
            refine .cons (fun s Q E hQ => eval_lit h1 hQ) (fun s Q E hQ => ?_) (lit_items h3 hk)
            exact wpAny_bind (eval_lit h2 fun x tk f => wpAny_bind (wpAny_standAt (wpAny_pure (hQ x tk f))))
          | none | bool _ | str _ | list _ | tuple _ | dict _ => cases hk
  | [], _ :: _, D, h, _ => by simp [litPairs] at h
  | none :: _, _, D, h, _ => by simp [litPairs] at h
  | some _ :: _, [], D, h, _ => by simp [litPairs] at h

theorem dict_long {env : Env} {keys : List (Option Expr)} {values : List Expr} {pos : Pos} {D : List (PyData × PyData)} {Q : Value → Shared → Prop} (hD : litPairs keys values = some D) (hne : D ≠ []) (hk : intKeyed D = true) (hn : (intKeysOf D).Nodup) (hz : D.length ≤ 1000) (h2 : 2 ≤ s.heap.objs.size)
    (hQ : ∀ d h' tk o, h'.get? d = some o → TabObj (intKind prog w) PyData.int D o → s.heap.objs.size ≤ d → Kp s.heap h' → Q (.ref d) { s with heap := h', toks := tk }) : wpAny (model prog w) A (eval (.Dict keys values pos) env) Q E s := by
  show wpAny _ A (standAt pos >>= fun _ => dictDisplay ((evalEachOpt keys env).zip ((evalEach values env).map fun v => do let x ← v; standAt pos; pure x))) Q E s
  exact wpAny_bind (wpAny_standAt (display_ok (lit_items hD hk) hne hk hn hz h2 hQ))
end
end Mine

namespace Mine
open PySem PySem.W PySem.Calls PyProof.Rows PyProof.V

abbrev pw : Program := PySem.Challenge.pw_mq0279_01

/-- the module's state: no written constants are kept track of -/
abbrev MI (h₀ : Heap) (mg₀ : Str → Option Value) (c Pl : Addr) (h : Heap) (mg : Str → Option Value) (ps : Array Value) (defs : List DefItem) (objs : List (Str × (Obj → Prop))) (names : List Str) : Prop := Mod h₀ mg₀ c Pl h mg ps defs [] objs names

section
variable {M : Model} {w : World} {A : Around} {E : Value → Shared → Prop} {s : Shared} {prog : Program} {c Pl F : Addr} {h₀ : Heap} {mg₀ mg mb : Str → Option Value} {ps : Array Value} {defs : List DefItem} {objs : List (Str × (Obj → Prop))} {names : List Str} {Q : Flow → Shared → Prop}

/-- a name that is no def's and no object's, set (again) -/
theorem mi_set {h' : Heap} {x : Str} {v : Value} (X : MI h₀ mg₀ c Pl s.heap mg ps defs objs names) (hd : ∀ d ∈ defs, d.name ≠ x) (ho : ∀ p ∈ objs, p.1 ≠ x) (hnb : x ≠ "__builtins__")
    (hg : h'.Ns mainGlobals (fun y => if y = x then some v else mg y)) (hs : Heap.SameBut mainGlobals s.heap h') : MI h₀ mg₀ c Pl h' (fun y => if y = x then some v else mg y) ps defs objs (x :: names) := by
  obtain ⟨bm, o, hbm, hne0, hneG, hneP, hbo, hrest⟩ := X.main.bmod
  have keep : ∀ b o, b ≠ Pl → b ≠ mainGlobals → s.heap.get? b = some o → h'.get? b = some o := fun b o _ hG e => (hs.2 b hG).trans e
  have up : ∀ {b : Addr}, h₀.objs.size ≤ b → b ≠ Pl ∧ b ≠ mainGlobals := fun hb => ⟨Nat.ne_of_gt (Nat.lt_of_lt_of_le X.lowP hb), Nat.ne_of_gt (Nat.lt_of_lt_of_le X.lowG hb)⟩
  refine ⟨⟨hg, X.main.code.sameBut hs (Nat.ne_of_gt X.main.low.1) (Nat.ne_of_gt X.main.low.2), X.main.low, ⟨bm, o, ?_, hne0, hneG, hneP, (hs.2 _ hneG).trans hbo, hrest⟩⟩,
    fun b o hP hG e => keep b o hP hG (X.keep b o hP hG e), ?_, (fun _ hp => nomatch hp), ?_, fun d hd => List.mem_cons_of_mem _ (X.dnames d hd), (fun _ hp => nomatch hp), ?_, fun p hp => List.mem_cons_of_mem _ (X.onames p hp), Nat.le_trans X.grows (Nat.le_of_eq hs.1.symm), X.lowP, X.lowG, ?_⟩
  · show (if _ = x then _ else _) = _
    rw [if_neg (Ne.symm hnb)]; exact hbm
  · intro e he
    obtain ⟨a₁, c₁, o₁, pm₁, doc₁, dV₁, h1, h2, h3, h4, h5, h6, h7⟩ := X.made e he
    refine ⟨a₁, c₁, o₁, pm₁, doc₁, dV₁, h1, h2, ?_, keep _ _ (up h1).1 (up h1).2 h4, h5, h6.at fun o => keep _ o (up h2).1 (up h2).2, h7.above fun b o hb => keep b o (up hb).1 (up hb).2⟩
    show (if e.name = x then _ else mg e.name) = _
    rw [if_neg (hd e he)]; exact h3
  · intro y hy
    show (if y = x then _ else mg y) = _
    rw [if_neg (fun q => hy (by rw [q]; exact List.mem_cons_self))]
    exact X.others y (fun q => hy (List.mem_cons_of_mem _ q))
  · intro p hp
    obtain ⟨a, o, hN, hb, ho', hq⟩ := X.held p hp
    refine ⟨a, o, hN, ?_, keep _ _ (up hN).1 (up hN).2 ho', hq⟩
    show (if p.1 = x then _ else mg p.1) = _
    rw [if_neg (ho p hp)]; exact hb
  · intro e he
    obtain ⟨a₁, o₁, fd₁, c₁, P₁, h1, r⟩ := (X.tabs e he).above (h' := h') fun b o hb => keep b o (up hb).1 (up hb).2
    refine ⟨a₁, o₁, fd₁, c₁, P₁, ?_, r⟩
    show (if e.name = x then _ else mg e.name) = _
    rw [if_neg (hd e he)]; exact h1
theorem mi_str {x t : Str} {p1 p2 pos : Pos} {kk : Nat} (X : MI h₀ mg₀ c Pl s.heap mg ps defs objs names) (hd : ∀ d ∈ defs, d.name ≠ x) (ho : ∀ p ∈ objs, p.1 ≠ x) (hnb : x ≠ "__builtins__") (hloc : prog.main.scope.names.lookup x = some .local)
    (k : ∀ h' mg' tk, MI h₀ mg₀ c Pl h' mg' ps defs objs (x :: names) → Q .next { s with heap := h', toks := tk }) (hmod : prog.main.scope.kind = .module := by rfl) :
    wpAny M A (exec (.Assign [.Name x p1] (.Constant (.str t) kk p2) pos) (mainEnv prog c F)) Q E s := by
  refine wpAny_Assign_Name (wpAny_Constant_str ?_)
  refine wpAny_storeName_local (env := mainEnv prog c F) hloc X.main.g (fun h' hg' hs' => ?_) (by show (prog.main.scope.kind == .class || (prog.main.scope.kind == .module && mainGlobals != mainGlobals)) = false; rw [hmod]; rfl)
  exact k h' _ _ (mi_set X hd ho hnb hg' hs')

theorem mname {x : Str} {v : Value} {pos : Pos} {Q : Value → Shared → Prop} (hmod : prog.main.scope.kind = .module) (hg : s.heap.Ns mainGlobals mg) (hmiss : mg x = none) (hb : s.heap.Ns builtinsNs mb) (hv : mb x = some v) (h : Q v s) (hd : (x == ("__debug__" : Str)) = false := by decide) :
    wpAny M A (eval (.Name x pos) (mainEnv prog c F)) Q E s := Name_module hmod rfl (loadGlobal_builtin hg hmiss hb hv h) hd
end

def P1 (o : Obj) : Prop := ∃ S n, o.IntSetOf S n ∧ n < 4096 ∧ ∀ k, S k = b1L.contains k
def P3 (prog : Program) (w : World) (o : Obj) : Prop := TabObj (intKind prog w) PyData.int d3 o

section
variable {w : World} {A : Around} {E : Value → Shared → Prop} {s : Shared} {c F : Addr} {mg mb : Str → Option Value}

theorem b1_first : firstMet (fun i => b1L.getD i 0) 27 = b1L := by decide
/-- set([..] + list(range(..))) at the top -/
theorem b1_val {Q : Value → Shared → Prop} (hh : A.handled = none) (hg : s.heap.Ns mainGlobals mg) (hb : s.heap.Ns builtinsNs mb) (hm : ∀ x ∈ (["set", "list", "range"] : List Str), mg x = none) (hv : ∀ x ∈ (["set", "list", "range"] : List Str), mb x = bootBuiltins x)
    (h : ∀ a o h₁ tk, s.heap.objs.size ≤ a → h₁.get? a = some o → P1 o → (∀ b o', s.heap.get? b = some o' → h₁.get? b = some o') → Q (.ref a) { s with heap := h₁, toks := tk }) :
    wpAny (model pw w) A (eval (match stm 4 with | .Assign _ v _ => v | _ => .Constant .none 0 default) (mainEnv pw c F)) Q E s := by
  refine wpAny_Call_NameR (mname (v := .type "set") rfl hg (hm _ (by decide)) hb ((hv _ (by decide)).trans (by kernel_rfl)) ?_)
  refine PyProof.Rows.callWith_type1 ?_
  refine args_cons ?_
  refine wpAny_BinOp ?_
  refine List_ ?_
  refine args_ints (ns := b1L.take 11) rfl fun tk₄ us₀ e₀ => pl_new ?_ fun h₅ k₅ p₅ z₅ => ?_
  · have := congrArg List.length e₀
    rw [List.length_map, List.length_map] at this
    rw [this]; decide
  dsimp only at k₅ p₅ z₅ ⊢
  refine wpAny_Call_NameR (mname (v := .type "list") rfl (hg.keeps k₅) (hm _ (by decide)) (hb.keeps k₅) ((hv _ (by decide)).trans (by kernel_rfl)) ?_)
  refine PyProof.Rows.callWith_type1 ?_
  refine args_cons ?_
  refine wpAny_Call_NameR (mname (v := .type "range") rfl (hg.keeps k₅) (hm _ (by decide)) (hb.keeps k₅) ((hv _ (by decide)).trans (by kernel_rfl)) ?_)
  refine PyProof.Rows.callWith_type1 ?_
  refine args_cons (wpAny_Constant_int (args_cons (wpAny_Constant_int (args_nil ?_))))
  refine wpAny_mono (pl_list_range (n := 16) hh (by decide) (by decide) (by decide) fun D h₆ tk₆ ws k₆ nD p₆ e₆ => ?_) (fun r s₁ x => args_nil x) fun _ _ x => x
  dsimp only at k₆ nD ⊢
  refine pl_add (PL.keep p₅ k₆) p₆ ?_ fun D' h₇ k₇ nD' p₇ => ?_
  · have h1 := congrArg List.length e₆
    have h2 := congrArg List.length e₀
    rw [List.length_map, List.length_map] at h1 h2
    rw [h1, h2]; decide
  dsimp only at k₇ nD' ⊢
  have q₇ : (us₀ ++ ws).map ky = b1L.map (fun i => Value.int i 0) := by rw [List.map_append, e₀, e₆]; rfl
  have l₇ : (us₀ ++ ws).length = 27 := by have := congrArg List.length q₇; rw [List.length_map, List.length_map] at this; rw [this]; decide
  generalize us₀ ++ ws = us at p₇ q₇ l₇
  have k07 : Kp s.heap h₇ := k₅.trans (k₆.trans k₇)
  have big : s.heap.objs.size ≤ h₇.objs.size := let ⟨_, e⟩ := p₅; Nat.le_of_lt (Heap.lt_size (k₇ _ _ (k₆ _ _ e)))
  refine args_nil ?_
  refine call_set_list (ns := b1L) hh p₇.isList (by simpa using intsAre_of q₇) (by rw [show us.toArray.size = 27 by simpa using l₇]; decide) fun h' tk hS hk => ?_
  obtain ⟨o, ho, hso⟩ := hS.objOf
  refine h _ o h' tk big ho ⟨_, _, hso.intSetOf, ?_, ?_⟩ fun b o' e => hk b o' (Heap.lt_size (k07 _ _ e)) (k07 _ _ e)
  · rw [show us.toArray.size = 27 by simpa using l₇, b1_first]; decide
  · intro k
    rw [show us.toArray.size = 27 by simpa using l₇, b1_first, List.contains_eq_any_beq]
    congr 1
    funext x
    rw [Bool.eq_iff_iff]
    simp only [beq_iff_eq]
    exact eq_comm
end
end Mine

namespace Mine
open PySem PySem.W PySem.Calls PyProof.Rows PyProof.V

def fPos : Stmt → Pos | .FunctionDef _ _ _ _ _ _ _ _ _ p => p | _ => default
def itm (i : Nat) : DefItem := ⟨fN (stm i), fP (stm i), fB (stm i), fS (stm i), fPos (stm i)⟩
def k3 : List (Option Expr) := match stm 6 with | .Assign _ (.Dict ks _ _) _ => ks | _ => []
def v3 : List Expr := match stm 6 with | .Assign _ (.Dict _ vs _) _ => vs | _ => []
theorem d3_some : (litPairs k3 v3).isSome = true := by kernel_rfl
theorem d3_eq : litPairs k3 v3 = some d3 := by
  have e : d3 = (litPairs k3 v3).getD [] := rfl
  rw [e]
  have := d3_some
  cases h : litPairs k3 v3 with
  | none => rw [h] at this; cases this
  | some D => rfl
def incr : List Int → Bool
  | a :: b :: r => decide (a < b) && incr (b :: r)
  | _ => true
theorem incr_nodup : ∀ {l : List Int}, incr l = true → l.Pairwise (· < ·)
  | [], _ => .nil
  | [a], _ => by simp
  | a :: b :: r, h => by
    rw [incr, Bool.and_eq_true, decide_eq_true_eq] at h
    have ih := incr_nodup h.2
    refine .cons (fun x hx => ?_) ih
    rcases List.mem_cons.mp hx with rfl | hx
    · exact h.1
    · exact Int.lt_trans h.1 ((List.pairwise_cons.mp ih).1 x hx)
theorem d3_facts : (intKeyed d3 && incr (intKeysOf d3) && decide (d3.length ≤ 1000) && !d3.isEmpty) = true := by kernel_rfl
theorem d3_keyed : intKeyed d3 = true := by have := d3_facts; simp only [Bool.and_eq_true] at this; exact this.1.1.1
theorem d3_nodup : (intKeysOf d3).Nodup := by
  have := d3_facts
  simp only [Bool.and_eq_true] at this
  exact (incr_nodup this.1.1.2).imp fun h => Int.ne_of_lt h
theorem d3_len : d3.length ≤ 1000 := by have := d3_facts; simp only [Bool.and_eq_true, decide_eq_true_eq] at this; exact this.1.2
theorem d3_ne : d3 ≠ [] := by
  have := d3_facts
  simp only [Bool.and_eq_true] at this
  intro q
  rw [q] at this
  exact absurd this.2 (by decide)

def q1 : Pos := match stm 6 with | .Assign [.Name _ p] _ _ => p | _ => default
def q2 : Pos := match stm 6 with | .Assign _ (.Dict _ _ p) _ => p | _ => default
def q3 : Pos := match stm 6 with | .Assign _ _ p => p | _ => default
theorem stm6_eq : stm 6 = .Assign [.Name "b3_exceptions" q1] (.Dict k3 v3 q2) q3 := by kernel_rfl
theorem swaps_no {ks : List (Option Expr)} {vs : List Expr} {p : Pos} {t : Option Expr} {n : Nat} {env : Env} : swapsWith (.Dict ks vs p) t n env = pure false := rfl

section
variable {w : World} {A : Around} {E : Value → Shared → Prop} {s : Shared} {c Pl F : Addr} {h₀ : Heap} {mg₀ mb : Str → Option Value} {Q : Flow → Shared → Prop}

theorem b3_gen {K : List (Option Expr)} {V : List Expr} {r1 r2 r3 : Pos} {D : List (PyData × PyData)} {P : Obj → Prop} {mg : Str → Option Value} {ps : Array Value} {defs : List DefItem} {objs : List (Str × (Obj → Prop))} {names : List Str}
    (hD : litPairs K V = some D) (hne : D ≠ []) (hk : intKeyed D = true) (hn : (intKeysOf D).Nodup) (hz : D.length ≤ 1000) (hP : ∀ o, TabObj (intKind pw w) PyData.int D o → P o)
    (X : MI h₀ mg₀ c Pl s.heap mg ps defs objs names) (hnew : ("b3_exceptions" : Str) ∉ names) (h2 : 2 ≤ s.heap.objs.size) (loc : pw.main.scope.names.lookup ("b3_exceptions" : Str) = some NameKind.local) (mod : pw.main.scope.kind = .module)
    (k : ∀ h' mg' tk, MI h₀ mg₀ c Pl h' mg' ps defs (("b3_exceptions", P) :: objs) ("b3_exceptions" :: names) → Q .next { s with heap := h', toks := tk }) : wpAny (model pw w) A (exec (.Assign [.Name "b3_exceptions" r1] (.Dict K V r2) r3) (mainEnv pw c F)) Q E s :=
  Mod.assign_obj (P := P) X loc hnew (fun _ hq => dict_long hD hne hk hn hz h2 fun d h' tk o ho hT hd hkk => hq d o h' tk hd ho (hP o hT) hkk) k (by decide) mod swaps_no
theorem b3_loc : pw.main.scope.names.lookup ("b3_exceptions" : Str) = some NameKind.local := by kernel_rfl
theorem b3_mod : pw.main.scope.kind = .module := by kernel_rfl
theorem b3_P {w : World} : ∀ o, TabObj (intKind pw w) PyData.int d3 o → P3 pw w o := fun _ h => h
theorem b3_step {mg : Str → Option Value} {ps : Array Value} {defs : List DefItem} {objs : List (Str × (Obj → Prop))} {names : List Str} (X : MI h₀ mg₀ c Pl s.heap mg ps defs objs names) (hnew : ("b3_exceptions" : Str) ∉ names) (h2 : 2 ≤ s.heap.objs.size)
    (k : ∀ h' mg' tk, MI h₀ mg₀ c Pl h' mg' ps defs (("b3_exceptions", P3 pw w) :: objs) ("b3_exceptions" :: names) → Q .next { s with heap := h', toks := tk }) : wpAny (model pw w) A (exec (stm 6) (mainEnv pw c F)) Q E s := by
  have hD := d3_eq
  have h1 := d3_ne
  have h3 := d3_keyed
  have h4 := d3_nodup
  have h5 := d3_len
  have h6 := b3_P (w := w)
  rw [stm6_eq]
  generalize P3 pw w = P at k h6
  generalize d3 = D at hD h1 h3 h4 h5 h6
  generalize k3 = K at hD ⊢
  generalize v3 = V at hD ⊢
  exact b3_gen hD h1 h3 h4 h5 h6 X hnew h2 b3_loc b3_mod k

def defsL : List DefItem := [itm 15, itm 14, itm 13, itm 12, itm 11, itm 10, itm 9, itm 7, itm 5, itm 2, itm 1]
def objsL (w : World) : List (Str × (Obj → Prop)) := [("b3_exceptions", P3 pw w), ("b1_set", P1)]
def namesL : List Str := ["law", "_law_stage", "_law_apart", "_law_due", "_law_counts", "_law_bags", "_law_sign", "__name__", "map_table_b3", "b3_exceptions", "in_table_b1", "b1_set", "__name__", "three_way_cmp", "unorderable_list_difference", "__name__"]

theorem body_eq : behindTheImports pw = [stm 0, stm 1, stm 2, stm 3, stm 4, stm 5, stm 6, stm 7, stm 8, stm 9, stm 10, stm 11, stm 12, stm 13, stm 14, stm 15] := by kernel_rfl
def nm0 (i : Nat) : Stmt := match stm i with | .Assign [.Name x p] (.Constant (.str t) k p2) p3 => .Assign [.Name "__name__" p] (.Constant (.str t) k p2) p3 | st => st
def mkDef (i : Nat) : Stmt := .FunctionDef (fN (stm i)) (fP (stm i)) (fB (stm i)) [] none [] (fS (stm i)) none (fN (stm i)) (fPos (stm i))
theorem def_1 : stm 1 = mkDef 1 := by kernel_rfl
theorem def_2 : stm 2 = mkDef 2 := by kernel_rfl
theorem def_5 : stm 5 = mkDef 5 := by kernel_rfl
theorem def_7 : stm 7 = mkDef 7 := by kernel_rfl
theorem def_9 : stm 9 = mkDef 9 := by kernel_rfl
theorem def_10 : stm 10 = mkDef 10 := by kernel_rfl
theorem def_11 : stm 11 = mkDef 11 := by kernel_rfl
theorem def_12 : stm 12 = mkDef 12 := by kernel_rfl
theorem def_13 : stm 13 = mkDef 13 := by kernel_rfl
theorem def_14 : stm 14 = mkDef 14 := by kernel_rfl
theorem def_15 : stm 15 = mkDef 15 := by kernel_rfl
def chk (i : Nat) : Bool := (fS (stm i)).names.all (fun x => decide (x.2 ≠ .free)) && decide (docOf (fB (stm i)) = none) && decide (pw.main.scope.names.lookup (fN (stm i)) = some .local) &&
  decide (qualnameIn { scope := pw.main.scope, locals := mainGlobals, globals := mainGlobals, cells := [] } (fN (stm i)) (fN (stm i)) = fN (stm i)) && decide (fN (stm i) ≠ "__builtins__") && (fP (stm i)).defaults.isEmpty
theorem chk_1 : chk 1 = true := by kernel_rfl
theorem tree_1 : PlainDefTree (fN (stm 1)) (fP (stm 1)) (fB (stm 1)) (fS (stm 1)) (fPos (stm 1)) := fun _ => by kernel_rfl
theorem chk_2 : chk 2 = true := by kernel_rfl
theorem tree_2 : PlainDefTree (fN (stm 2)) (fP (stm 2)) (fB (stm 2)) (fS (stm 2)) (fPos (stm 2)) := fun _ => by kernel_rfl
theorem chk_5 : chk 5 = true := by kernel_rfl
theorem tree_5 : PlainDefTree (fN (stm 5)) (fP (stm 5)) (fB (stm 5)) (fS (stm 5)) (fPos (stm 5)) := fun _ => by kernel_rfl
theorem chk_7 : chk 7 = true := by kernel_rfl
theorem tree_7 : PlainDefTree (fN (stm 7)) (fP (stm 7)) (fB (stm 7)) (fS (stm 7)) (fPos (stm 7)) := fun _ => by kernel_rfl
theorem chk_9 : chk 9 = true := by kernel_rfl
theorem tree_9 : PlainDefTree (fN (stm 9)) (fP (stm 9)) (fB (stm 9)) (fS (stm 9)) (fPos (stm 9)) := fun _ => by kernel_rfl
theorem chk_10 : chk 10 = true := by kernel_rfl
theorem tree_10 : PlainDefTree (fN (stm 10)) (fP (stm 10)) (fB (stm 10)) (fS (stm 10)) (fPos (stm 10)) := fun _ => by kernel_rfl
theorem chk_11 : chk 11 = true := by kernel_rfl
theorem tree_11 : PlainDefTree (fN (stm 11)) (fP (stm 11)) (fB (stm 11)) (fS (stm 11)) (fPos (stm 11)) := fun _ => by kernel_rfl
theorem chk_12 : chk 12 = true := by kernel_rfl
theorem tree_12 : PlainDefTree (fN (stm 12)) (fP (stm 12)) (fB (stm 12)) (fS (stm 12)) (fPos (stm 12)) := fun _ => by kernel_rfl
theorem chk_13 : chk 13 = true := by kernel_rfl
theorem tree_13 : PlainDefTree (fN (stm 13)) (fP (stm 13)) (fB (stm 13)) (fS (stm 13)) (fPos (stm 13)) := fun _ => by kernel_rfl
theorem chk_14 : chk 14 = true := by kernel_rfl
theorem tree_14 : PlainDefTree (fN (stm 14)) (fP (stm 14)) (fB (stm 14)) (fS (stm 14)) (fPos (stm 14)) := fun _ => by kernel_rfl
theorem chk_15 : chk 15 = true := by kernel_rfl
theorem tree_15 : PlainDefTree (fN (stm 15)) (fP (stm 15)) (fB (stm 15)) (fS (stm 15)) (fPos (stm 15)) := fun _ => by kernel_rfl
theorem pw_mod : pw.main.scope.kind = .module := by kernel_rfl
theorem def_step {i : Nat} {mg : Str → Option Value} {ps : Array Value} {defs : List DefItem} {objs : List (Str × (Obj → Prop))} {names : List Str} (X : MI h₀ mg₀ c Pl s.heap mg ps defs objs names) (hi : stm i = mkDef i) (hc : chk i = true) (ht : PlainDefTree (fN (stm i)) (fP (stm i)) (fB (stm i)) (fS (stm i)) (fPos (stm i))) (hnew : fN (stm i) ∉ names) (hnf : codeAmong (fPos (stm i)) ps.toList = none)
    (k : ∀ h' mg' c' tk, MI h₀ mg₀ c Pl h' mg' (ps ++ #[rawInt (fPos (stm i)).line, rawInt (fPos (stm i)).col, .ref c']) (itm i :: defs) objs (fN (stm i) :: names) → Q .next { s with heap := h', toks := tk }) : wpAny (model pw w) A (exec (stm i) (mainEnv pw c F)) Q E s := by
  unfold chk at hc
  simp only [Bool.and_eq_true, decide_eq_true_eq, List.isEmpty_iff] at hc
  obtain ⟨⟨⟨⟨⟨h1, h2⟩, h3⟩, h4⟩, h5⟩, h6⟩ := hc
  rw [hi]
  exact Mod.def_plain X ht (fun x hx => of_decide_eq_true (List.all_eq_true.mp h1 x hx)) h2 h3 h4 hnew k h5 pw_mod hnf h6
end
end Mine

namespace Mine
open PySem PySem.W PySem.Calls PyProof.Rows PyProof.V

def a1 (i : Nat) : Pos := match stm i with | .Assign [.Name _ p] _ _ => p | _ => default
def a2 (i : Nat) : Str := match stm i with | .Assign _ (.Constant (.str t) _ _) _ => t | _ => Str.empty
def a3 (i : Nat) : Nat := match stm i with | .Assign _ (.Constant _ k _) _ => k | _ => 0
def a4 (i : Nat) : Pos := match stm i with | .Assign _ (.Constant _ _ p) _ => p | _ => default
def a5 (i : Nat) : Pos := match stm i with | .Assign _ _ p => p | _ => default
def mkName (i : Nat) : Stmt := .Assign [.Name "__name__" (a1 i)] (.Constant (.str (a2 i)) (a3 i) (a4 i)) (a5 i)
theorem nam_0 : stm 0 = mkName 0 := by kernel_rfl
theorem nam_3 : stm 3 = mkName 3 := by kernel_rfl
theorem nam_8 : stm 8 = mkName 8 := by kernel_rfl
theorem name_loc : pw.main.scope.names.lookup ("__name__" : Str) = some NameKind.local := by kernel_rfl
def v4 : Expr := match stm 4 with | .Assign _ v _ => v | _ => .Constant .none 0 default
theorem stm4_eq : stm 4 = .Assign [.Name "b1_set" (a1 4)] v4 (a5 4) := by kernel_rfl
theorem b1_loc : pw.main.scope.names.lookup ("b1_set" : Str) = some NameKind.local := by kernel_rfl
theorem swaps4 {t : Option Expr} {n : Nat} {env : Env} : swapsWith v4 t n env = pure false := by kernel_rfl

section
variable {w : World} {A : Around} {E : Value → Shared → Prop} {s : Shared} {c Pl F : Addr} {h₀ : Heap} {mg₀ mb : Str → Option Value} {Q : Flow → Shared → Prop} {mg : Str → Option Value} {ps : Array Value} {defs : List DefItem} {objs : List (Str × (Obj → Prop))} {names : List Str}

theorem name_step {i : Nat} (X : MI h₀ mg₀ c Pl s.heap mg ps defs objs names) (hi : stm i = mkName i) (hd : ∀ d ∈ defs, d.name ≠ "__name__") (ho : ∀ p ∈ objs, p.1 ≠ "__name__")
    (k : ∀ h' mg' tk, MI h₀ mg₀ c Pl h' mg' ps defs objs ("__name__" :: names) → Q .next { s with heap := h', toks := tk }) : wpAny (model pw w) A (exec (stm i) (mainEnv pw c F)) Q E s := by
  rw [hi]
  exact mi_str X hd ho (by decide) name_loc k pw_mod
theorem b1_step (hh : A.handled = none) (hb : s.heap.Ns builtinsNs mb) (bb : ∀ x : Str, x ≠ "__name__" → mb x = bootBuiltins x) (hf : ∀ x ∈ (["set", "list", "range"] : List Str), mg x = none) (X : MI h₀ mg₀ c Pl s.heap mg ps defs objs names) (hnew : ("b1_set" : Str) ∉ names)
    (k : ∀ h' mg' tk, MI h₀ mg₀ c Pl h' mg' ps defs (("b1_set", P1) :: objs) ("b1_set" :: names) → Q .next { s with heap := h', toks := tk }) : wpAny (model pw w) A (exec (stm 4) (mainEnv pw c F)) Q E s := by
  rw [stm4_eq]
  have val : ∀ Q' : Value → Shared → Prop, (∀ a o h₁ tk, s.heap.objs.size ≤ a → h₁.get? a = some o → P1 o → (∀ b o', s.heap.get? b = some o' → h₁.get? b = some o') → Q' (.ref a) { s with heap := h₁, toks := tk }) →
      wpAny (model pw w) A (eval v4 (mainEnv pw c F)) Q' E s := fun Q' hq => b1_val hh X.main.g hb hf (fun x hx => bb x (by revert x; decide)) hq
  exact Mod.assign_obj (P := P1) X b1_loc hnew val k (by decide) pw_mod swaps4

theorem b3_stepG {st : Stmt} {P : Obj → Prop} (hst : stm 6 = st) (hP : P3 pw w = P) (X : MI h₀ mg₀ c Pl s.heap mg ps defs objs names) (hnew : (("b3_exceptions" : Str) ∉ names)) (h2 : 2 ≤ s.heap.objs.size)
    (k : ∀ h' mg' tk, MI h₀ mg₀ c Pl h' mg' ps defs (("b3_exceptions", P) :: objs) ("b3_exceptions" :: names) → Q .next { s with heap := h', toks := tk }) : wpAny (model pw w) A (exec st (mainEnv pw c F)) Q E s := by
  have hD := d3_eq
  have h1 := d3_ne
  have h3 := d3_keyed
  have h4 := d3_nodup
  have h5 := d3_len
  have h6 := b3_P (w := w)
  have e := stm6_eq
  rw [hst] at e
  rw [hP] at h6
  clear hst hP
  rw [e]
  generalize d3 = D at hD h1 h3 h4 h5 h6
  generalize k3 = K at hD ⊢
  generalize v3 = V at hD ⊢
  exact b3_gen hD h1 h3 h4 h5 h6 X hnew h2 b3_loc b3_mod k
theorem fN_eq : (fN (stm 1), fN (stm 2), fN (stm 5), fN (stm 7), fN (stm 9), fN (stm 10), fN (stm 11), fN (stm 12), fN (stm 13), fN (stm 14), fN (stm 15)) = (("unorderable_list_difference" : Str), ("three_way_cmp" : Str), ("in_table_b1" : Str), ("map_table_b3" : Str), ("_law_sign" : Str), ("_law_bags" : Str), ("_law_counts" : Str), ("_law_due" : Str), ("_law_apart" : Str), ("_law_stage" : Str), ("law" : Str)) := by kernel_rfl
end
section
variable {w : World} {A : Around} {E : Value → Shared → Prop} {s : Shared} {c Pl F : Addr} {mg₀ mb : Str → Option Value} {Q : Flow → Shared → Prop}

def namesF : List Str := [fN (stm 15), fN (stm 14), fN (stm 13), fN (stm 12), fN (stm 11), fN (stm 10), fN (stm 9), "__name__", fN (stm 7), "b3_exceptions", fN (stm 5), "b1_set", "__name__", fN (stm 2), fN (stm 1), "__name__"]
set_option maxHeartbeats 4000000 in
theorem top_walk (hh : A.handled = none) (X₀ : MI s.heap mg₀ c Pl s.heap mg₀ #[] [] [] []) (hb : s.heap.Ns builtinsNs mb) (bb : ∀ x : Str, x ≠ "__name__" → mb x = bootBuiltins x) (hf : ∀ x ∈ (["set", "list", "range"] : List Str), mg₀ x = none) (hPb : builtinsNs ≠ Pl)
    (k : ∀ h' mg' tk ps, MI s.heap mg₀ c Pl h' mg' ps defsL (objsL w) namesF → Q .next { s with heap := h', toks := tk }) :
    wpAny (model pw w) A (execs (behindTheImports pw) (mainEnv pw c F)) Q E s := by
  have two : 2 ≤ s.heap.objs.size := Nat.lt_of_lt_of_le (by decide) (Nat.le_of_lt X₀.lowG)
  have bld : ∀ {h : Heap} {mg : Str → Option Value} {ps : Array Value} {defs : List DefItem} {objs : List (Str × (Obj → Prop))} {names : List Str}, MI s.heap mg₀ c Pl h mg ps defs objs names → h.Ns builtinsNs mb := fun X => hb.at fun o e => X.keep _ o hPb (by decide) e
  rw [body_eq]
  unfold objsL at k
  generalize hP3 : P3 pw w = P at k
  generalize h6 : stm 6 = st6
  refine wpAny_execs_cons ?_
  refine name_step (s := s) X₀ nam_0 (by decide +kernel) (by decide +kernel) fun h₁ m₁ t₁ X₁ => ?_
  dsimp only
  refine wpAny_execs_cons ?_
  refine def_step (s := { s with heap := h₁, toks := t₁ }) X₁ def_1 chk_1 tree_1 (by decide +kernel) (by kernel_rfl) fun h₂ m₂ c₂ t₂ X₂ => ?_
  dsimp only
  refine wpAny_execs_cons ?_
  refine def_step (s := { s with heap := h₂, toks := t₂ }) X₂ def_2 chk_2 tree_2 (by decide +kernel) (by kernel_rfl) fun h₃ m₃ c₃ t₃ X₃ => ?_
  dsimp only
  refine wpAny_execs_cons ?_
  refine name_step (s := { s with heap := h₃, toks := t₃ }) X₃ nam_3 (by decide +kernel) (by decide +kernel) fun h₄ m₄ t₄ X₄ => ?_
  dsimp only
  refine wpAny_execs_cons ?_
  refine b1_step (s := { s with heap := h₄, toks := t₄ }) hh (bld X₄) bb (fun x hx => (X₄.others x (by revert x; decide +kernel)).trans (hf x hx)) X₄ (by decide +kernel) fun h₅ m₅ t₅ X₅ => ?_
  dsimp only
  refine wpAny_execs_cons ?_
  refine def_step (s := { s with heap := h₅, toks := t₅ }) X₅ def_5 chk_5 tree_5 (by decide +kernel) (by kernel_rfl) fun h₆ m₆ c₆ t₆ X₆ => ?_
  dsimp only
  refine wpAny_execs_cons ?_
  refine b3_stepG (s := { s with heap := h₆, toks := t₆ }) h6 hP3 X₆ (by decide +kernel) (Nat.le_trans two X₆.grows) fun h₇ m₇ t₇ X₇ => ?_
  dsimp only
  refine wpAny_execs_cons ?_
  refine def_step (s := { s with heap := h₇, toks := t₇ }) X₇ def_7 chk_7 tree_7 (by decide +kernel) (by kernel_rfl) fun h₈ m₈ c₈ t₈ X₈ => ?_
  dsimp only
  refine wpAny_execs_cons ?_
  refine name_step (s := { s with heap := h₈, toks := t₈ }) X₈ nam_8 (by decide +kernel) (by intro p hp; simp only [List.mem_cons, List.not_mem_nil, or_false] at hp; rcases hp with rfl | rfl <;> (dsimp only; decide +kernel)) fun h₉ m₉ t₉ X₉ => ?_
  dsimp only
  refine wpAny_execs_cons ?_
  refine def_step (s := { s with heap := h₉, toks := t₉ }) X₉ def_9 chk_9 tree_9 (by decide +kernel) (by kernel_rfl) fun h₁₀ m₁₀ c₁₀ t₁₀ X₁₀ => ?_
  dsimp only
  refine wpAny_execs_cons ?_
  refine def_step (s := { s with heap := h₁₀, toks := t₁₀ }) X₁₀ def_10 chk_10 tree_10 (by decide +kernel) (by kernel_rfl) fun h₁₁ m₁₁ c₁₁ t₁₁ X₁₁ => ?_
  dsimp only
  refine wpAny_execs_cons ?_
  refine def_step (s := { s with heap := h₁₁, toks := t₁₁ }) X₁₁ def_11 chk_11 tree_11 (by decide +kernel) (by kernel_rfl) fun h₁₂ m₁₂ c₁₂ t₁₂ X₁₂ => ?_
  dsimp only
  refine wpAny_execs_cons ?_
  refine def_step (s := { s with heap := h₁₂, toks := t₁₂ }) X₁₂ def_12 chk_12 tree_12 (by decide +kernel) (by kernel_rfl) fun h₁₃ m₁₃ c₁₃ t₁₃ X₁₃ => ?_
  dsimp only
  refine wpAny_execs_cons ?_
  refine def_step (s := { s with heap := h₁₃, toks := t₁₃ }) X₁₃ def_13 chk_13 tree_13 (by decide +kernel) (by kernel_rfl) fun h₁₄ m₁₄ c₁₄ t₁₄ X₁₄ => ?_
  dsimp only
  refine wpAny_execs_cons ?_
  refine def_step (s := { s with heap := h₁₄, toks := t₁₄ }) X₁₄ def_14 chk_14 tree_14 (by decide +kernel) (by kernel_rfl) fun h₁₅ m₁₅ c₁₅ t₁₅ X₁₅ => ?_
  dsimp only
  refine wpAny_execs_cons ?_
  refine def_step (s := { s with heap := h₁₅, toks := t₁₅ }) X₁₅ def_15 chk_15 tree_15 (by decide +kernel) (by kernel_rfl) fun h₁₆ m₁₆ c₁₆ t₁₆ X₁₆ => ?_
  dsimp only
  refine wpAny_execs_nil ?_
  exact k h₁₆ m₁₆ t₁₆ _ X₁₆
end
end Mine

namespace Mine
open PySem PySem.W PySem.Calls PyProof.Rows PyProof.V

theorem no_anns : hasAnns (behindTheImports pw) = false := by kernel_rfl
theorem no_doc : docOf (behindTheImports pw) = none := by kernel_rfl

/-- what stands behind the top -/
structure TopEnd (w : World) (s₀ : Shared) (mg₀ mb : Str → Option Value) (s' : Shared) : Prop where
  mi : ∃ h₁ c Pl mg ps, MI h₁ mg₀ c Pl s'.heap mg ps defsL (objsL w) namesF ∧ Kp s₀.heap h₁ ∧ s₀.heap.objs.size ≤ Pl ∧ s₀.heap.objs.size ≤ h₁.objs.size
  os : s'.os = s₀.os

theorem stub_wp {w : World} {s : Shared} {mg₀ mb : Str → Option Value} (hg : s.heap.Ns mainGlobals mg₀) (hb : s.heap.Ns builtinsNs mb) (bb : ∀ x : Str, x ≠ "__name__" → mb x = bootBuiltins x) (hf : ∀ x ∈ (["set", "list", "range"] : List Str), mg₀ x = none)
    (bm : ∃ bm o, mg₀ "__builtins__" = some (.ref bm) ∧ bm ≠ builtinsNs ∧ bm ≠ mainGlobals ∧ s.heap.get? bm = some o ∧ o.cls = .type "module" ∧ o.dict = some builtinsNs ∧ o.data = .plain) (hgen : s.gens = #[]) :
    wpAny (model pw w) callerA (topStub pw).cur (fun fin s' => ∃ f, fin = .done f ∧ (TopEnd w s mg₀ mb s' ∧ s'.gens = #[])) (fun _ _ => False) s := by
  show wpAny _ callerA (do
    let code ← moduleCode pw.main
    let frame ← newBodyFrame code mainNs mainNs
    let _ ← run (.body (behindTheImports pw) { scope := pw.main.scope, locals := mainNs, globals := mainNs, cells := [], code, frame := some frame })
    ret .none) _ _ s
  refine wpAny_bind (wpAny_moduleCode fun c Pl h₁ tk₁ k₁ hc hPl hcode => ?_)
  unfold newBodyFrame
  refine wpAny_bind (wpAny_bind (wpAny_nsGet (hg.keeps k₁) (wpAny_alloc ?_)))
  refine wpAny_bind (wpAny_run ?_)
  show codeAny (model pw w) callerA (.body (behindTheImports pw) (mainEnv pw c h₁.objs.size)) _ _
  refine codeAny_body no_anns no_doc ?_
  obtain ⟨bm, ob, b1, b2, b3, b4, b5⟩ := bm
  have gl : mainGlobals < s.heap.objs.size := hg.lt
  have kk : ∀ {h' : Heap}, Kp h₁ h' → Kp s.heap h' := fun k b o e => k b o (k₁ b o e)
  refine top_walk (mg₀ := mg₀) (mb := mb) (Pl := Pl) rfl ?_ ?_ bb hf ?_ fun h' mg' tk ps X => ?_
  · refine ⟨⟨(hg.keeps k₁).push _, hcode.push _, ⟨Nat.lt_of_lt_of_le gl hc, Nat.lt_of_lt_of_le gl hPl⟩, ⟨bm, ob, b1, b2, b3, Nat.ne_of_lt (Nat.lt_of_lt_of_le (Heap.lt_size b4) hPl), Heap.get?_push_of_some _ (k₁ _ _ b4), b5⟩⟩, fun _ _ _ _ e => e, (fun _ hd => nomatch hd), (fun _ hp => nomatch hp), fun _ _ => rfl, (fun _ hd => nomatch hd), (fun _ hp => nomatch hp), (fun _ hp => nomatch hp), (fun _ hp => nomatch hp), Nat.le_refl _, ?_, ?_, (fun _ hd => nomatch hd)⟩
    · show Pl < (h₁.push _).objs.size
      rw [Heap.size_push]; exact Nat.lt_succ_of_lt hcode.lt.2
    · show mainGlobals < (h₁.push _).objs.size
      rw [Heap.size_push]; exact Nat.lt_succ_of_lt (hg.keeps k₁).lt
  · exact (hb.keeps k₁).push _
  · exact Nat.ne_of_lt (Nat.lt_of_lt_of_le (Nat.lt_of_le_of_lt (by decide) gl) hPl)
  · refine wpAny_pure ⟨_, rfl, ⟨⟨_, c, Pl, mg', ps, X, fun b o e => Heap.get?_push_of_some _ (k₁ b o e), hPl, ?_⟩, rfl⟩, hgen⟩
    show s.heap.objs.size ≤ (h₁.push _).objs.size
    rw [Heap.size_push]
    exact Nat.le_succ_of_le (Nat.le_trans hPl (Nat.le_of_lt hcode.lt.2))
end Mine

namespace Mine
open PySem PySem.W PySem.Calls PyProof.Rows PyProof.V

/-- the kind of a table's keys asks no program and no world -/
theorem pairs_any {p p' : Program} {w w' : World} {es : List DictEntry} {kvs : List (Int × Value)} (h : Pairs (intKind p w) es kvs) : Pairs (intKind p' w') es kvs := by
  induction h with
  | nil => exact .nil
  | cons a b _ ih => exact .cons a b ih
theorem tab_any {p p' : Program} {w w' : World} {D : List (PyData × PyData)} {h : Heap} {a : Addr} {o : Obj} (ha : (a == sysModules) = false) (ho : h.get? a = some o) (T : TabObj (intKind p w) PyData.int D o) : IntTab p' w' h a D := by
  obtain ⟨kvs, ⟨es, ep, h1, h2, h3, h4, h5⟩, hF⟩ := T
  exact ⟨ha, kvs, ⟨o, es, ep, ho, h1, h2, h3, pairs_any h4, h5⟩, hF⟩

theorem free_ok : (usedBuiltins.all fun x => decide (x ∉ namesF) && decide (x ∉ bootMainNames)) = true := by kernel_rfl
theorem in_defs : (defIdx.all fun i => decide (i ∈ [15, 14, 13, 12, 11, 10, 9, 7, 5, 2, 1])) = true := by decide
theorem no_dflt : (defIdx.all fun i => (fP (stm i)).defaults.isEmpty) = true := by kernel_rfl
theorem itm_mem {i : Nat} (hi : i ∈ defIdx) : itm i ∈ defsL := by
  have := of_decide_eq_true (List.all_eq_true.mp in_defs i hi)
  exact List.mem_map.mpr ⟨i, this, rfl⟩

theorem gl_of {w : World} {h₀ h₁ h : Heap} {mg₀ mg mb : Str → Option Value} {c Pl : Addr} {ps : Array Value} (X : MI h₁ mg₀ c Pl h mg ps defsL (objsL w) namesF) (k : Kp h₀ h₁) (hPl : h₀.objs.size ≤ Pl)
    (hb : h₀.Ns builtinsNs mb) (bb : ∀ x : Str, x ≠ "__name__" → mb x = bootBuiltins x) (hst : h₀.Ns cStatics (fun _ => none)) (hoth : ∀ x, x ∉ bootMainNames → mg₀ x = none) : Gl mg mb h := by
  have low : ∀ {a : Addr} {o : Obj}, a ≠ mainGlobals → h₀.get? a = some o → h.get? a = some o := fun {a o} hm e => X.keep a o (Nat.ne_of_lt (Nat.lt_of_lt_of_le (Heap.lt_size e) hPl)) hm (k _ _ e)
  refine ⟨X.main.g, hb.at fun o e => low (by decide) e, bb, fun x hx => ?_, ⟨_, hst.at fun o e => low (by decide) e, rfl⟩, fun i hi => ?_, ?_, ?_⟩
  · have := List.all_eq_true.mp free_ok x hx
    simp only [Bool.and_eq_true, decide_eq_true_eq] at this
    exact (X.others x this.1).trans (hoth x this.2)
  · obtain ⟨a, c', o, pm, doc, _, _, h3, h4, h5, h6⟩ := (X.made (itm i) (itm_mem hi)).plain (List.isEmpty_iff.mp (List.all_eq_true.mp no_dflt i hi))
    exact ⟨a, o, pm, _, doc, h3, h4, h5, h6⟩
  · obtain ⟨a, o, _, hb1, ho, S, n, h1, h2, h3⟩ := X.held ("b1_set", P1) (by unfold objsL; exact .tail _ (.head _))
    exact ⟨a, o, S, n, hb1, ho, h1, h2, h3⟩
  · obtain ⟨a, o, ha, hb3, ho, hP⟩ := X.held ("b3_exceptions", P3 pw w) (by unfold objsL; exact .head _)
    refine ⟨a, hb3, fun p' w' => tab_any (p := pw) (w := w) ?_ ho hP⟩
    rw [beq_eq_false_iff_ne]
    intro q
    have h1 : mainGlobals < h₁.objs.size := X.lowG
    rw [q] at ha
    exact absurd (Nat.lt_of_lt_of_le h1 ha) (by decide)
end Mine

namespace Mine
open PySem PySem.W PySem.Calls PyProof.Rows PyProof.V

theorem names_ok : (namesF.all fun x => decide (x ∈ startupNames) || decide (x ∈ pw.boundNames)) = true := by kernel_rfl
theorem laid_ok : (laidNames.all fun x => decide (x ∉ namesF)) = true := by kernel_rfl
theorem boot_start : (bootMainNames.all fun x => decide (x ∈ startupNames)) = true := by decide

theorem the_def : pw.theDef "law" = some (fP (stm 15), fB (stm 15), fS (stm 15)) := by kernel_rfl
theorem law_name : fN (stm 15) = "law" := by kernel_rfl
theorem law_dflt : (fP (stm 15)).defaults = [] := by kernel_rfl
theorem law_kw : kwWritten? (fP (stm 15)).kwonlyargs (fP (stm 15)).kw_defaults = some [] := by kernel_rfl
theorem law_pin {h : Heap} {mg mb : Str → Option Value} (G : Gl mg mb h) : isTheDefsW pw h "law" := by
  obtain ⟨a, o, pm, cd, doc, h1, h2, h3, _⟩ := G.fn 15 (by decide)
  have en := law_name
  have ed := law_dflt
  have ek := law_kw
  have et := the_def
  generalize stm 15 = x at h1 h2 h3 en ed ek et
  rw [en] at h1
  exact ⟨a, o, _, _, _, _, (PySem.Claim2Try.globalOf_of_ns G.g _).trans h1, h2, h3, et, en, en, rfl, rfl, rfl, rfl, rfl, rfl, .inl ⟨ed, rfl⟩, [], ek, .inl ⟨rfl, rfl⟩⟩

/-- what the opening leaves -/
structure Opened (s : Shared) (mb mg₀ : Str → Option Value) : Prop where
  left : ∃ c Pl, BootLeft s.heap mb mg₀ c Pl
  gens : s.gens = #[]

theorem top_ran {w : World} {s₀ : Shared} {mb mg₀ : Str → Option Value} (O : Opened s₀ mb mg₀) (hz : s₀.asleep) : ∃ s₁, TopRan pw w s₀ s₁ ∧ s₁.asleep ∧ s₁.gens = #[] ∧ ∃ mg, Gl mg mb s₁.heap ∧ isTheDefsW pw s₁.heap "law" := by
  obtain ⟨⟨c₀, Pl₀, B⟩, hgen⟩ := O
  have hbm : ∃ bm o, mg₀ "__builtins__" = some (.ref bm) ∧ bm ≠ builtinsNs ∧ bm ≠ mainGlobals ∧ s₀.heap.get? bm = some o ∧ o.cls = .type "module" ∧ o.dict = some builtinsNs ∧ o.data = .plain :=
    let ⟨bm, o, h1, h2, h3, _, h5, h6⟩ := B.bmod; ⟨bm, o, h1, h2, h3, h5, h6⟩
  obtain ⟨n, t₁, s₁, hs, ht, hl, ⟨⟨h₁, c, Pl, mg, ps, X, k, hPl, _⟩, hos⟩, hg⟩ := top_of_wp hz (stub_wp (w := w) B.g B.b B.builtins (fun x hx => B.others x (by revert x; decide +kernel)) hbm hgen)
  have G : Gl mg mb s₁.heap := gl_of X k hPl B.b B.builtins B.statics B.others
  have low : ∀ {a : Addr} {o : Obj}, a ≠ mainGlobals → s₀.heap.get? a = some o → s₁.heap.get? a = some o := fun {a o} hm e => X.keep a o (Nat.ne_of_lt (Nat.lt_of_lt_of_le (Heap.lt_size e) hPl)) hm (k _ _ e)
  have st₁ : s₁.heap.Ns cStatics (fun _ => none) := B.statics.at fun o e => low (by decide) e
  refine ⟨s₁, ⟨⟨n, t₁, hs, ht⟩, hl, Shared.rest_eq hos, fun b o e hb => low (fun q => hb (.inl q)) e, ?_, ?_, ?_, ?_, ?_, ?_, ?_, ?_⟩, Shared.asleep_of_life hl hz, hg, mg, G, ?_⟩
  · intro key v hv
    rw [PySem.Pin.staticOf_of_ns st₁] at hv; cases hv
  · intro key
    left
    rw [PySem.Pin.staticOf_of_ns st₁, PySem.Pin.staticOf_of_ns B.statics]
  · obtain ⟨o, es, ep, h1, h2, h3, _⟩ := G.g
    exact ⟨o, es, ep, h1, h2, h3⟩
  · intro x hx
    rw [PySem.Pin.builtinOf_of_ns G.b, B.builtins x hx]
    rfl
  · obtain ⟨bm, o, h1, _, _, _, h5, h6, h7, _⟩ := X.main.bmod
    exact ⟨bm, o, (PySem.Claim2Try.globalOf_of_ns G.g _).trans h1, h5, h6, h7⟩
  · intro g hgm
    rw [hg] at hgm
    exact absurd hgm (by simp)
  · intro x v hv
    rw [PySem.Claim2Try.globalOf_of_ns G.g] at hv
    by_cases hx : x ∈ namesF
    · have := List.all_eq_true.mp names_ok x hx
      simpa only [Bool.or_eq_true, decide_eq_true_eq] using this
    · rw [X.others x hx] at hv
      by_cases hb : x ∈ bootMainNames
      · exact .inl (of_decide_eq_true (List.all_eq_true.mp boot_start x hb))
      · rw [B.others x hb] at hv; cases hv
  · intro x hx
    rw [PySem.Claim2Try.globalOf_of_ns G.g, PySem.Claim2Try.globalOf_of_ns B.g]
    exact X.others x (of_decide_eq_true (List.all_eq_true.mp laid_ok x hx))
  · exact law_pin G
end Mine

namespace Mine
open PySem PySem.W PySem.Calls PyProof.Rows PyProof.V

theorem bears_none : bearImports pw.main.body = false := by kernel_rfl
theorem open_body : (opening pw).main.body = [] := by kernel_rfl
theorem opened (w : World) : (∃ s, AfterImport (opening pw) w s) ∧ ∀ s, AfterImport (opening pw) w s → (∃ mb mg₀, Opened s mb mg₀) := by
  refine AfterImport.of_wp (wpAny_boot (M := model (opening pw) w) (A := {}) (E := fun _ _ => False) (opening pw) (fun s' => (∃ mb mg₀, Opened s' mb mg₀) ∧ s'.gens = #[]) (fun hp tk mb mg c Pl F hB => ?_) rfl _ default boot_in)
  rw [open_body]
  exact codeAny_body rfl rfl (wpAny_execs_nil ⟨⟨_, rfl⟩, ⟨mb, mg, ⟨c, Pl, hB⟩, rfl⟩, rfl⟩)

abbrev lawRow : RowW := PySem.Challenge.rw_mq0279_01.row.toRowW

theorem ints_of {R : WRecords} : ∀ {xs : List WData}, WShape.hasItems R xs .int = true → ∀ x ∈ xs, ∃ i, x = .int i
  | x :: xs, h, y, hy => by
    simp only [WShape.hasItems, Bool.and_eq_true] at h
    rcases List.mem_cons.mp hy with rfl | hy
    · cases y <;> first | exact ⟨_, rfl⟩ | (exact absurd h.1 (by simp [WShape.has, WShape.arms]))
    · exact ints_of h.2 y hy

theorem args_of {args : List WData} (h : lawRow.claim.pre args = true) : ∃ xs, args = [.list xs] ∧ xs.length ≤ 63 ∧ ∀ x ∈ xs, ∃ i, x = .int i := by
  obtain ⟨h1, h2⟩ := pre_splitW h
  match args, h1, h2 with
  | [d], h1, h2 =>
    have h1 : (WShape.has [] d (.list .int) && WShape.hasAll [] [] []) = true := h1
    have h1 := (Bool.and_eq_true_iff.mp h1).1
    cases d with
    | list xs =>
      refine ⟨xs, rfl, ?_, ints_of (R := []) (by simpa [WShape.has, WShape.arms] using h1)⟩
      by_cases hl : (63 : Int) < xs.length
      · exfalso
        have : (WTm.holds [] (.and (.not (.lt (.lit (.int 63)) (.len (.arg 0)))) (.lit (.bool true))) { args := [.list xs] }) = true := h2
        simp [WTm.holds, WTm.value, less?, Num.less?, hl] at this
      · omega
    | _ => exact absurd h1 (by simp [WShape.has, WShape.arms])
  | [], h1, _ => cases h1
  | _ :: _ :: _, h1, _ =>
    have h1 : (_ && false) = true := h1
    simp at h1

theorem wells {P : Params} {h : Heap} : ∀ {vs : List Value} {xs : List WData}, WellAll P h vs xs → (∀ x ∈ xs, ∃ i, x = .int i) → Ints vs ∧ vs.length = xs.length
  | _, _, .nil, _ => ⟨(fun _ hv => nomatch hv), rfl⟩
  | _, _, .cons (v := v) (vs := vs) a b, hx => by
    obtain ⟨h1, h2⟩ := wells b fun x hm => hx x (List.mem_cons_of_mem _ hm)
    obtain ⟨i, rfl⟩ := hx _ List.mem_cons_self
    refine ⟨fun y hy => ?_, by simp [h2]⟩
    rcases List.mem_cons.mp hy with rfl | hy
    · cases a; exact ⟨_, _, rfl⟩
    · exact h1 y hy
end Mine

namespace Mine
open PySem PySem.W PySem.Calls PyProof.Rows PyProof.V

theorem pw_bare : pw.bare := ⟨rfl, rfl, rfl, rfl, rfl, by decide +kernel⟩
theorem pw_opens : opensWell pw = true := by decide +kernel
theorem pw_promised : lawRow.promised := ⟨[.list []], by decide +kernel, by decide +kernel⟩
theorem rw_frees : (frees lawRow && lawRow.within.isEmpty) = true := by rfl

theorem post_true (args ds : List WData) : lawRow.claim.post args (.bool true) ds = true := by
  show (WShape.has [] (.bool true) .bool && WTm.holds [] (.eq .res (.lit (.bool true))) { args := args, res := some (.bool true), after := ds }) = true
  have e : same (.bool true) (.bool true) = true := by decide +kernel
  simp [WShape.has, WShape.arms, WTm.holds, WTm.value, e]

theorem holds_row (said : PySem.Challenge.rw_mq0279_01.row.wellSaid = true) : PySem.Challenge.rw_mq0279_01.row.Holds := by
  refine ⟨said, pw_promised, ?_⟩
  show lawRow.claim.HoldsOpenBy (fun vs => ⟨(do match ← nsGet mainNs "law" with
      | some f => do ret (← PySem.call f vs)
      | none => unsupported "claim.caller:no-such-global"), .builtin "claim.caller" {}, default, []⟩) ["law"] _ false
  obtain ⟨hsame, hu, ha, hap, hm⟩ := frees_parts (Bool.and_eq_true_iff.mp rw_frees).1
  refine ⟨⟨pw_bare, pw_opens, rfl⟩, pw_promised.witness, fun w => ⟨(opened w).1, fun s hs => ?_⟩⟩
  obtain ⟨mb, mg₀, O⟩ := (opened w).2 s hs
  obtain ⟨s₁, T, hz, hg, mg, G, D⟩ := top_ran (w := w) O (AfterImport.life hs)
  refine ⟨s, fenceModules_id pw bears_none s, O.gens, s₁, T, ?_, (fun x hx => nomatch hx), (fun x hx => nomatch hx), ?_⟩
  · intro n hn
    obtain rfl := List.mem_singleton.mp hn
    exact D
  refine ClaimW.callFrom_of_specN (c := lawRow.claim) hz (by rw [hg]; simp [leftWithCleanup]) fun args hpre hlay ord hord => ?_
  obtain ⟨⟨vs, s₂⟩, hlaid⟩ := Option.isSome_iff_exists.mp (layAllW_isSome (R := lawRow.records) (cl := classAt s₁.heap) (P := w.params) (ord := ord) (fun c hc => by cases hc) args lawRow.args s₁ (pre_splitW hpre).1)
  have keeps := layAllW_keeps _ _ _ hlaid
  have hal := layAllW_rest _ _ _ hlaid
  obtain ⟨as, hrd, hin, hold⟩ := reads_layAllW hord _ _ _ hlaid hlay s₂.heap (fun _ _ e => e)
  have hwl := well_layAllW hord args s₁ _ hlaid s₂.heap fun _ _ e => e
  have G₂ : Gl mg mb s₂.heap := G.keeps keeps
  refine ⟨vs, s₂, hlaid, ?_⟩
  obtain ⟨xs, rfl, hxl, hxi⟩ := args_of hpre
  obtain ⟨f, o, pm, cd, doc, h1, h2, h3, h4⟩ := G₂.fn 15 (by decide)
  rw [law_name] at h1
  have hi := ident_freeW (r := lawRow) hu ha hap
  dsimp only at hwl
  cases hwl with
  | cons a b =>
    cases b
    cases a with
    | list hl hws =>
      obtain ⟨hI, hL⟩ := wells hws hxi
      refine wpAny_bind (wpAny_nsGet G₂.g ?_)
      rw [h1]
      refine wpAny_bind ?_
      refine law_spec (s := { s₂ with gens := #[] }) (rm := 10) (G := G₂) h1 ⟨by decide, by decide, rfl⟩ rfl ⟨_, hl, rfl, _, rfl⟩ hI (hL ▸ hxl) fun h' tk k => ?_
      refine wpAny_pure ⟨_, rfl, ?_⟩
      have g : GoodW lawRow.claim (classAt s₁.heap) (ExcName.means s₁.heap) [.list xs] { s₂ with gens := #[] } (.ok (.ret (.bool true))) { s₂ with gens := #[], heap := h', toks := tk } :=
        ⟨.inl ⟨_, .bool true, [], rfl, fun _ => rfl, .bool true, ?_, fun _ => ⟨List.nodup_nil, fun _ h => nomatch h⟩⟩, k, rfl, rfl⟩
      · have z := g.endsN (c := lawRow.claim) hsame rfl hi hrd hold hal.2.2.1
        exact ⟨z.1, z.2.1, z.2.2, fun q => nomatch q⟩
      · exact post_true _ _
end Mine

open PySem PySem.W PyProof.Rows
set_option maxRecDepth 100000 in
set_option maxHeartbeats 8000000 in
theorem PySem.Challenge.cw_mq0279_01_holds : PySem.Challenge.rw_mq0279_01.Holds := by
  o_law
  refine Mine.holds_row ?_
  assumption
