import PyProof.Rows.All
import Wide.All
import OpenK.AllK
import Wide.FinOn
import PySem.Challenge.RW_bg0004_01
open PySem PySem.W PyProof.Rows
set_option Elab.async false
set_option linter.unusedVariables false
set_option maxRecDepth 100000
set_option maxHeartbeats 8000000
namespace Mine
section
local macro_rules | `(tactic| o_head $_) => `(tactic| (exfalso; assumption))
theorem hd : False → True := by
  intro h
  have : PySem.Challenge.rw_bg0004_01.Holds := by
    w_on
    o_law
    k_head
  trivial
end
abbrev PG : Program := PySem.Challenge.pw_bg0004_01
theorem fill_all : (fun (_ : OpenLaw) (_ : Params → Frag) => True) PySem.Challenge.rw_bg0004_01 hd.heap_39 := by
  k_fill
  trivial
open PySem.Calls
section
/-- winners: those of a list that no other outdoes -/
def tops (l : List (List Nat)) (f : List Nat → Int) : List (List Nat) := l.filter fun c => decide (∀ c' ∈ l, f c' ≤ f c)
theorem mem_tops {l : List (List Nat)} {f : List Nat → Int} {c : List Nat} : c ∈ tops l f ↔ c ∈ l ∧ ∀ c' ∈ l, f c' ≤ f c := by simp [tops]
theorem tops_congr {l : List (List Nat)} {f g : List Nat → Int} (h : ∀ c ∈ l, f c = g c) : tops l f = tops l g := by
  unfold tops
  refine List.filter_congr fun c hc => ?_
  rw [decide_eq_decide]
  constructor
  · intro q c' hc'; rw [← h c hc, ← h c' hc']; exact q c' hc'
  · intro q c' hc'; rw [h c hc, h c' hc']; exact q c' hc'
/-- some one is best -/
theorem tops_ne {l : List (List Nat)} {f : List Nat → Int} (h : l ≠ []) : ∃ c ∈ l, ∀ c' ∈ l, f c' ≤ f c := by
  induction l with
  | nil => exact absurd rfl h
  | cons a r ih =>
    by_cases hr : r = []
    · subst hr; exact ⟨a, .head _, by simp⟩
    · obtain ⟨c, hc, hm⟩ := ih hr
      by_cases q : f c ≤ f a
      · refine ⟨a, .head _, fun c' hc' => ?_⟩
        rcases List.mem_cons.mp hc' with rfl | hc'
        · exact Int.le_refl _
        · exact Int.le_trans (hm c' hc') q
      · refine ⟨c, .tail _ hc, fun c' hc' => ?_⟩
        rcases List.mem_cons.mp hc' with rfl | hc'
        · omega
        · exact hm c' hc'
/-- the heavy electorate first -/
theorem heavy_law (l : List (List Nat)) (a b : List Nat → Int) (H : Int) (hb0 : ∀ c ∈ l, 0 ≤ b c) (hb1 : ∀ c ∈ l, b c < H) :
    tops l (fun c => b c + H * a c) = (tops l a).filter (fun c => decide (∀ c' ∈ tops l a, b c' ≤ b c)) := by
  unfold tops
  rw [List.filter_filter]
  refine List.filter_congr fun c hc => ?_
  rw [← Bool.decide_and, decide_eq_decide]
  show (∀ c' ∈ l, b c' + H * a c' ≤ b c + H * a c) ↔ _
  constructor
  · intro h
    have top : ∀ c' ∈ l, a c' ≤ a c := by
      intro c' hc'
      have h1 := h c' hc'
      by_cases q : a c' ≤ a c
      · exact q
      · have h2 := hb0 c' hc'
        have h3 := hb1 c hc
        have h4 := hb0 c hc
        have h5 : H * (a c + 1) ≤ H * a c' := Int.mul_le_mul_of_nonneg_left (by omega) (by omega)
        rw [Int.mul_add, Int.mul_one] at h5
        omega
    refine ⟨fun c' hc' => ?_, top⟩
    obtain ⟨h1, h2⟩ := List.mem_filter.mp hc'
    have h2 := of_decide_eq_true h2
    have e : a c' = a c := Int.le_antisymm (top c' h1) (h2 c hc)
    have := h c' h1
    rw [e] at this
    omega
  · rintro ⟨h1, h2⟩ c' hc'
    by_cases q : a c' = a c
    · have := h1 c' (List.mem_filter.mpr ⟨hc', decide_eq_true fun d hd => by rw [q]; exact h2 d hd⟩)
      rw [q]; omega
    · have h3 := h2 c' hc'
      have h4 := hb1 c' hc'
      have h5 := hb0 c hc
      have h6 := hb0 c' hc'
      have h7 : H * (a c' + 1) ≤ H * a c := Int.mul_le_mul_of_nonneg_left (by omega) (by omega)
      rw [Int.mul_add, Int.mul_one] at h7
      omega
theorem cont_law (l : List (List Nat)) (a b : List Nat → Int) (h : (tops l a).filter (fun c => decide (c ∈ tops l b)) ≠ []) :
    tops l (fun c => a c + b c) = (tops l a).filter (fun c => decide (c ∈ tops l b)) := by
  obtain ⟨z, hz⟩ := List.exists_mem_of_ne_nil _ h
  obtain ⟨z1, z2⟩ := List.mem_filter.mp hz
  obtain ⟨z0, z1⟩ := mem_tops.mp z1
  obtain ⟨_, z2⟩ := mem_tops.mp (of_decide_eq_true z2)
  unfold tops
  rw [List.filter_filter]
  refine List.filter_congr fun c hc => ?_
  rw [← Bool.decide_and, decide_eq_decide]
  show (∀ c' ∈ l, a c' + b c' ≤ a c + b c) ↔ _
  constructor
  · intro q
    have h1 := q z z0
    have h2 := z1 c hc
    have h3 := z2 c hc
    refine ⟨List.mem_filter.mpr ⟨hc, decide_eq_true fun d hd => ?_⟩, fun d hd => ?_⟩
    · have := z2 d hd; omega
    · have := z1 d hd; omega
  · rintro ⟨h1, h2⟩ d hd
    have h3 := of_decide_eq_true (List.mem_filter.mp h1).2 d hd
    have h4 := h2 d hd
    omega
end
section
/-- two names stored anew -/
def set2 (m : Str → Option Value) (x y : Str) (vx vy : Value) : Str → Option Value := fun z => if z = y then some vy else if z = x then some vx else m z
theorem set2_set2 (m : Str → Option Value) (x y : Str) (a b c d : Value) : (fun z => if z = y then some d else if z = x then some c else set2 m x y a b z) = set2 m x y c d := by
  funext z
  unfold set2
  by_cases h : z = y
  · simp [h]
  · by_cases h2 : z = x <;> simp [h, h2]
theorem set2_of {m : Str → Option Value} {x y : Str} {a b : Value} (ha : m x = some a) (hb : m y = some b) : m = set2 m x y a b := by
  funext z
  unfold set2
  by_cases h : z = y
  · simp [h, hb]
  · by_cases h2 : z = x
    · subst h2; rw [if_neg h, if_pos rfl, ha]
    · simp [h, h2]
section
variable {prog : Program} {w : World} {A : Around} {E : Value → Shared → Prop} {Q : Flow → Shared → Prop} {s : Shared} {env : Env} {h₀ : Heap} {L : Addr}
theorem While_dr {test : Expr} {body : List Stmt} {pos : Pos} {m : Str → Option Value} {news : List (Addr × Obj)} (x y : Str) (P : Int → Int → Prop) (μ : Int → Int → Nat)
    (F : Fr h₀ L s.heap m) (N : News h₀ L s.heap news) {d r : Int} {td tr : Tok} (hx : m x = some (.int d td)) (hy : m y = some (.int r tr)) (hP : P d r)
    (turn : ∀ d r td tr h tk, P d r → Fr h₀ L h (set2 m x y (.int d td) (.int r tr)) → News h₀ L h news →
      wpAny (model prog w) A (isTrue test env (eval test env)) (fun b s₂ =>
        if b = true then wpAny (model prog w) A (execs body env) (fun f s₃ => f = .next ∧ ∃ d' r' td' tr' h' tk', s₃ = { s with heap := h', toks := tk' } ∧ P d' r' ∧ μ d' r' < μ d r ∧ Fr h₀ L h' (set2 m x y (.int d' td') (.int r' tr')) ∧ News h₀ L h' news) E s₂
        else Q .next s₂) E { s with heap := h, toks := tk })
    (hE : PassesOwn (model prog w) A env E) :
    wpAny (model prog w) A (exec (.While test body [] pos) env) Q E s := by
  refine While_inv (fun n m₁ news₁ => ∃ d r td tr, m₁ = set2 m x y (.int d td) (.int r tr) ∧ news₁ = news ∧ P d r ∧ n = μ d r) F N ⟨d, r, td, tr, set2_of hx hy, rfl, hP, rfl⟩ ?_ hE
  rintro n m₁ news₁ h₁ tk₁ F₁ N₁ ⟨d, r, td, tr, rfl, rfl, hp, rfl⟩
  refine wpAny_mono (turn d r td tr h₁ tk₁ hp F₁ N₁) (fun b s₂ q => ?_) fun _ _ e => e
  cases b with
  | false => simpa using q
  | true =>
    simp only [if_true] at q ⊢
    refine wpAny_mono q (fun f s₃ z => ?_) fun _ _ e => e
    obtain ⟨rfl, d', r', td', tr', h', tk', rfl, hp', hlt, F', N'⟩ := z
    exact ⟨rfl, h', tk', _, _, _, rfl, F', N', hlt, d', r', td', tr', rfl, rfl, hp', rfl⟩
end
end
section
/-- a frame's names and their values, by place -/
def vec : List Str → List (Option Value) → Str → Option Value
  | n :: ns, v :: vs, y => if y = n then v else vec ns vs y
  | _, _, _ => none
inductive At2 : List Str → List (Option Value) → Str → Value → Prop
  | z {x ns v vs} : At2 (x :: ns) (some v :: vs) x v
  | s {n ns o vs x v} : At2 ns vs x v → At2 (n :: ns) (o :: vs) x v
inductive Put2 : List Str → List (Option Value) → Str → Value → List (Option Value) → Prop
  | z {x ns o v vs} : Put2 (x :: ns) (o :: vs) x v (some v :: vs)
  | s {n ns o vs x v vs'} : Put2 ns vs x v vs' → Put2 (n :: ns) (o :: vs) x v (o :: vs')
theorem At2.mem {ns : List Str} {vs : List (Option Value)} {x : Str} {v : Value} (h : At2 ns vs x v) : x ∈ ns := by
  induction h with
  | z => exact .head _
  | s _ ih => exact .tail _ ih
theorem Put2.mem {ns : List Str} {vs vs' : List (Option Value)} {x : Str} {v : Value} (h : Put2 ns vs x v vs') : x ∈ ns := by
  induction h with
  | z => exact .head _
  | s _ ih => exact .tail _ ih
theorem At2.get {ns : List Str} {vs : List (Option Value)} {x : Str} {v : Value} (h : At2 ns vs x v) (nd : ns.Nodup) : vec ns vs x = some v := by
  induction h with
  | z => exact if_pos rfl
  | @s n ns o vs x v h ih =>
    rw [List.nodup_cons] at nd
    have e : ¬ x = n := fun e => nd.1 (by rw [← e]; exact h.mem)
    exact (if_neg e).trans (ih nd.2)
theorem Put2.put {ns : List Str} {vs vs' : List (Option Value)} {x : Str} {v : Value} (h : Put2 ns vs x v vs') (nd : ns.Nodup) : (fun y => if y = x then some v else vec ns vs y) = vec ns vs' := by
  induction h with
  | @z x ns o v vs =>
    funext y
    simp only [vec]
    by_cases e : y = x
    · rw [if_pos e, if_pos e]
    · rw [if_neg e, if_neg e, if_neg e]
  | @s n ns o vs x v vs' h ih =>
    rw [List.nodup_cons] at nd
    have ih := ih nd.2
    funext y
    have q := congrFun ih y
    simp only [vec] at q ⊢
    by_cases e : y = n
    · have e2 : ¬ y = x := fun e2 => nd.1 (by rw [← e, e2]; exact h.mem)
      rw [if_neg e2, if_pos e, if_pos e]
    · rw [if_neg e, if_neg e]; exact q
/-- what holds of a def's names -/
structure FnL (ns gs : List Str) (cs : Scope) : Prop where
  nd : ns.Nodup
  kind : cs.kind = .function
  loc : ∀ x ∈ ns, cs.names.lookup x = some .local
  nb : ∀ x ∈ ns, (x == ("__debug__" : Str)) = false
  glob : ∀ x ∈ gs, cs.names.lookup x = some .globalImplicit
  nbg : ∀ x ∈ gs, (x == ("__debug__" : Str)) = false
def fnl (ns gs : List Str) (cs : Scope) : Bool := decide ns.Nodup && (cs.kind == .function) && ns.all (fun x => cs.names.lookup x == some .local && !(x == ("__debug__" : Str))) && gs.all (fun x => cs.names.lookup x == some .globalImplicit && !(x == ("__debug__" : Str)))
theorem FnL.of {ns gs : List Str} {cs : Scope} (h : fnl ns gs cs = true) : FnL ns gs cs := by
  simp only [fnl, Bool.and_eq_true, decide_eq_true_eq, beq_iff_eq, List.all_eq_true, Bool.not_eq_true'] at h
  exact ⟨h.1.1.1, h.1.1.2, fun x hx => (h.1.2 x hx).1, fun x hx => (h.1.2 x hx).2, fun x hx => (h.2 x hx).1, fun x hx => (h.2 x hx).2⟩
section
variable {M : Model} {A : Around} {E : Value → Shared → Prop} {s : Shared} {K : Frag} {h₀ : Heap} {L a : Addr} {m mg mb : Str → Option Value} {cn : Str} {cs : Scope} {ccd : Value} {cl : List (Str × Addr)} {p : Program} {loose : List Str} {mean : ExcName → Option Value}
  {x : Str} {pos : Pos} {v : Value} {news : List (Addr × Obj)} {c : Addr} {o : Obj} {ns gs : List Str} {vs vs' : List (Option Value)}
theorem ldV {Q : Value → Shared → Prop} (F : Fr h₀ L s.heap (vec ns vs)) (fl : FnL ns gs cs) (h2 : At2 ns vs x v) (h : Q v s) : wpAny M A (eval (.Name x pos) (envX cn cs L a ccd cl)) Q E s :=
  nameX_L F (h2.get fl.nd) h fl.kind (by show (cs.names.lookup x) = _; exact fl.loc x h2.mem) (fl.nb x h2.mem)
theorem stV {Q : Unit → Shared → Prop} (F : Fr h₀ L s.heap (vec ns vs)) (N : News h₀ L s.heap news) (fl : FnL ns gs cs) (h2 : Put2 ns vs x v vs')
    (h : ∀ h', Fr h₀ L h' (vec ns vs') → News h₀ L h' news → Q () { s with heap := h', toks := s.toks + 1 }) : wpAny M A (storeName (envX cn cs L a ccd cl) x v) Q E s :=
  storeX_L F N (fun h' F' N' => h h' (by rw [← h2.put fl.nd]; exact F') N') fl.kind (by show (cs.names.lookup x) = _; exact fl.loc x h2.mem)
theorem ldG {Q : Value → Shared → Prop} (F : Fr h₀ L s.heap m) (X : K.In h₀) (T : Top p loose mean mg mb h₀) (fl : FnL ns gs cs) (hx : x ∈ gs) (e : nsIn K mainGlobals x = some (some v)) (h : Q v s) : wpAny M A (eval (.Name x pos) (envX cn cs L a ccd cl)) Q E s :=
  nameX_K F X (topRead_of T) e h fl.kind (by show (cs.names.lookup x) = _; exact fl.glob x hx) (fl.nbg x hx)
theorem ldB {Q : Value → Shared → Prop} (F : Fr h₀ L s.heap m) (X : K.In h₀) (T : Top p loose mean mg mb h₀) (fl : FnL ns gs cs) (hx : x ∈ gs) (e : nsIn K mainGlobals x = some none) (hv : bootBuiltins x = some v) (hn : x ≠ "__name__") (h : Q v s) : wpAny M A (eval (.Name x pos) (envX cn cs L a ccd cl)) Q E s :=
  nameX_B F X (topRead_of T) e hv hn h fl.kind (by show (cs.names.lookup x) = _; exact fl.glob x hx) (fl.nbg x hx)
end
/-- the names' values at the start: the parameters bound, the rest not -/
theorem lookup_rev : ∀ (l : List (Str × Value)), (l.map (·.1)).Nodup → ∀ y, l.reverse.lookup y = l.lookup y := by
  intro l hl y
  induction l with
  | nil => rfl
  | cons b l ih =>
    obtain ⟨k, v⟩ := b
    rw [List.map_cons, List.nodup_cons] at hl
    rw [List.reverse_cons, List.lookup_append, ih hl.2, List.lookup_cons]
    by_cases e : y = k
    · subst e
      have : l.lookup y = none := by
        rw [List.lookup_eq_none_iff]
        intro p hp
        have : y ≠ p.1 := fun q => hl.1 (List.mem_map.mpr ⟨p, hp, q.symm⟩)
        simpa using this
      rw [this]; simp [List.lookup]
    · have : (y == k) = false := by simpa using e
      simp only [this]
      cases q : l.lookup y <;> simp [List.lookup, this] <;> exact q.symm
theorem vec_start : ∀ (binds : List (Str × Value)) (rest : List Str), (binds.map (·.1)).Nodup → (fun y => binds.reverse.lookup y) = vec (binds.map (·.1) ++ rest) (binds.map (fun b => some b.2) ++ rest.map fun _ => none) := by
  intro binds rest hn
  funext y
  rw [lookup_rev binds hn y]
  clear hn
  induction binds with
  | nil =>
    simp only [List.lookup, List.map_nil, List.nil_append]
    induction rest with
    | nil => rfl
    | cons r rest ih => 
      simp only [List.map_cons, vec]; split
      · rfl
      · exact ih
  | cons b l ih =>
    obtain ⟨k, v⟩ := b
    simp only [List.map_cons, List.cons_append, vec, List.lookup_cons]
    by_cases e : y = k
    · subst e; simp
    · have : (y == k) = false := by simpa using e
      rw [if_neg e]; simp only [this]; exact ih
end
section
/-- the top's names -/
def gl : List (Str × Value) := [("CandidateSet", .ref 75), ("sorted_committees", .ref 85), ("str_set_of_candidates", .ref 93), ("_is_int", .ref 100), ("_whole", .ref 107), ("_picked", .ref 114), ("combinations", .ref 147), ("fraction_parts", .ref 161), ("Fraction", .ref 305),
  ("get_marginal_scorefct", .ref 339), ("thiele_score", .ref 346), ("geometric_marginal_score_fct", .ref 353), ("pav_score_fct", .ref 360), ("slav_score_fct", .ref 374), ("av_score_fct", .ref 381), ("cc_score_fct", .ref 388), ("Rule", .ref 437), ("available_algorithms", .ref 508),
  ("compute_thiele_method", .ref 516), ("_thiele_methods_bruteforce", .ref 524), ("compute_separable_rule", .ref 545), ("_separable_rule_algorithm", .ref 551), ("compute_av", .ref 559), ("Profile", .ref 695), ("Voter", .ref 732), ("_law_at", .ref 743), ("_law_profile", .ref 748), ("_law_winners", .ref 753)]
theorem gl_ok (w : World) : gl.all (fun q => nsIn (hd.heap_39 w.params) mainGlobals q.1 == some (some q.2)) = true := by kernel_rfl!
theorem gtab (w : World) {x : Str} {v : Value} (h : (x, v) ∈ gl) : nsIn (hd.heap_39 w.params) mainGlobals x = some (some v) := by
  have := List.all_eq_true.mp (gl_ok w) _ h
  simpa using this
def bl : List (Str × Value) := [("isinstance", .builtin "isinstance"), ("int", .type "int"), ("bool", .type "bool"), ("len", .builtin "len"), ("set", .type "set"), ("str", .type "str"), ("tuple", .type "tuple"), ("list", .type "list"), ("range", .type "range"), ("sorted", .builtin "sorted"), ("all", .builtin "all"), ("any", .builtin "any"), ("iter", .builtin "iter"), ("max", .builtin "max"), ("abs", .builtin "abs"), ("sum", .builtin "sum"), ("enumerate", .type "enumerate"), ("type", .type "type")]
theorem bl_ok (w : World) : bl.all (fun q => nsIn (hd.heap_39 w.params) mainGlobals q.1 == some none && !(q.1 == ("__name__" : Str))) = true := by kernel_rfl!
theorem bl_ok2 : ∀ q ∈ bl, bootBuiltins q.1 = some q.2 := by
  intro q hq
  simp only [bl, List.mem_cons, List.not_mem_nil, or_false] at hq
  rcases hq with rfl | rfl | rfl | rfl | rfl | rfl | rfl | rfl | rfl | rfl | rfl | rfl | rfl | rfl | rfl | rfl | rfl | rfl <;> (dsimp only; boot_fast)
theorem btab (w : World) {x : Str} {v : Value} (h : (x, v) ∈ bl) : nsIn (hd.heap_39 w.params) mainGlobals x = some none ∧ bootBuiltins x = some v ∧ x ≠ "__name__" := by
  have := List.all_eq_true.mp (bl_ok w) _ h
  simp only [Bool.and_eq_true, beq_iff_eq, Bool.not_eq_true', beq_eq_false_iff_ne, ne_eq] at this
  exact ⟨this.1, bl_ok2 _ h, this.2⟩
section
variable {M : Model} {A : Around} {E : Value → Shared → Prop} {s : Shared} {w : World} {h₀ : Heap} {L a : Addr} {m mg mb : Str → Option Value} {cn : Str} {cs : Scope} {ccd : Value} {cl : List (Str × Addr)} {p : Program} {loose : List Str} {mean : ExcName → Option Value}
  {x : Str} {pos : Pos} {v : Value} {ns gs : List Str}
theorem ldGt {Q : Value → Shared → Prop} (F : Fr h₀ L s.heap m) (X : (hd.heap_39 w.params).In h₀) (T : Top p loose mean mg mb h₀) (fl : FnL ns gs cs) (hx : x ∈ gs) (e : (x, v) ∈ gl) (h : Q v s) : wpAny M A (eval (.Name x pos) (envX cn cs L a ccd cl)) Q E s := ldG F X T fl hx (gtab w e) h
theorem ldBt {Q : Value → Shared → Prop} (F : Fr h₀ L s.heap m) (X : (hd.heap_39 w.params).In h₀) (T : Top p loose mean mg mb h₀) (fl : FnL ns gs cs) (hx : x ∈ gs) (e : (x, v) ∈ bl) (h : Q v s) : wpAny M A (eval (.Name x pos) (envX cn cs L a ccd cl)) Q E s :=
  let ⟨a, b, c⟩ := btab w e; ldB F X T fl hx a b c h
end
end
section
open PySem.W.X (Led)
/-- where a def's body runs: the stack below, the top's part, the room left -/
structure Cx (w : World) (A : Around) (env : Env) (h₀ : Heap) (n : Nat) : Prop where
  bel : ∀ l, A.frames = some l → (env.frame = some env.locals ∧ ∃ (A₀ : Around) (base : Heap) (outer : List Env), Below A₀ base outer h₀ ∧ l = env :: outer) ∨ ∃ A₀ base, Below A₀ base l h₀
  glo : env.globals = mainGlobals
  bui : env.builtins = builtinsNs
  kind : env.scope.kind = .function
  X : (hd.heap_39 w.params).In h₀
  top : ∃ (p : Program) (loose : List Str) (mean : ExcName → Option Value) (mg mb : Str → Option Value), Top p loose mean mg mb h₀
  hand : A.handled = none
  room : A.depth + n < recursionLimit
  units : A.units + 40 * n < cLine
theorem Cx.le {w : World} {A : Around} {env : Env} {h₀ : Heap} {n k : Nat} (C : Cx w A env h₀ n) (h : k ≤ n) : Cx w A env h₀ k :=
  ⟨C.bel, C.glo, C.bui, C.kind, C.X, C.top, C.hand, Nat.lt_of_le_of_lt (Nat.add_le_add_left h _) C.room, Nat.lt_of_le_of_lt (Nat.add_le_add_left (Nat.mul_le_mul_left _ h) _) C.units⟩
theorem under_make (A : Around) (C : Addr) (rest : List Value) (kw : List (Str × Value)) : A.under (.builtin "type.__call__" ⟨.ref C :: rest, kw⟩) = ⟨A.handled, A.depth + 1, A.frames, A.guards, A.units + 1⟩ := by
  unfold Around.under
  have h1 : (Code.builtin "type.__call__" ⟨.ref C :: rest, kw⟩).weight = 1 := by kernel_rfl
  have h2 : (Code.builtin "type.__call__" ⟨.ref C :: rest, kw⟩).envs = [] := by kernel_rfl
  have h3 : (Code.builtin "type.__call__" ⟨.ref C :: rest, kw⟩).guards = [] := by kernel_rfl
  have h4 : (Code.builtin "type.__call__" ⟨.ref C :: rest, kw⟩).cUnits = 1 := by kernel_rfl
  rw [h1, h2, h3, h4]
  rfl
theorem Cx.make {w : World} {A : Around} {env : Env} {h₀ : Heap} {n : Nat} (Cc : Cx w A env h₀ (n + 1)) (C : Addr) (rest : List Value) (kw : List (Str × Value)) : Cx w (A.under (.builtin "type.__call__" ⟨.ref C :: rest, kw⟩)) env h₀ n := by
  rw [under_make]
  obtain ⟨B, a2, a3, a4, a5, a6, a7, a8, a9⟩ := Cc
  exact ⟨B, a2, a3, a4, a5, a6, a7, by show A.depth + 1 + n < _; omega, by show A.units + 1 + 40 * n < _; omega⟩
/-- the static part below a call -/
theorem groundY {h₀ h : Heap} {L : Addr} {m : Str → Option Value} {news : List (Addr × Obj)} {R : Result → Shared → Prop} (F : Fr h₀ L h m) (N : News h₀ L h news) :
    Fr h₀ L (hideAll h (news.map (·.1))) m ∧ h₀.StaysIn (hideAll h (news.map (·.1))) ∧ ∀ v s', LeaveK h₀ L m (hideAll h (news.map (·.1))) R v s' → R (.ok (.ret v)) s' := by
  have hnot : ∀ b, b ∈ news.map (·.1) → h₀.get? b = none ∧ b ≠ L := by
    intro b hb
    obtain ⟨q, hq, rfl⟩ := List.mem_map.mp hb
    exact ⟨(N q hq).2.2, (N q hq).2.1⟩
  have st : h₀.StaysIn (hideAll h (news.map (·.1))) := by
    intro b o e
    refine hideAll_get _ (F.keep b o e) fun hb => ?_
    rw [(hnot b hb).1] at e; cases e
  obtain ⟨oL, es, ep, hL, r⟩ := F.ns
  have hLg : (hideAll h (news.map (·.1))).get? L = some oL := hideAll_get _ hL fun hb => (hnot L hb).2 rfl
  refine ⟨⟨⟨oL, es, ep, hLg, r⟩, st, F.above⟩, st, ?_⟩
  rintro v s' ⟨L', m', news', F', N', k⟩
  refine k ⟨⟨oL, es, ep, F'.keep _ _ hLg, r⟩, fun b o e => F'.keep _ _ (st b o e), F.above⟩ ?_
  intro q hq
  obtain ⟨q1, q2, q3⟩ := N' q hq
  refine ⟨q1, ?_, ?_⟩
  · intro e; rw [e, hLg] at q3; cases q3
  · cases z : h₀.get? q.1 with
    | none => rfl
    | some o => rw [st _ _ z] at q3; cases q3
theorem belowMono {A : Around} {base h₀ g : Heap} {l : List Env} (B : Below A base l h₀) (st : h₀.StaysIn g) : Below A base l g :=
  ⟨B.stack, fun b o e => st b o (B.stays b o e), B.frames.of_keeps fun b o hb _ => ⟨o, st b o hb, rfl⟩⟩
theorem Cx.ground {w : World} {A : Around} {env : Env} {h₀ h : Heap} {n : Nat} {m : Str → Option Value} {news : List (Addr × Obj)} (C : Cx w A env h₀ n) (D : Led h₀ env.locals m h news) (l : List Env) (hl : A.frames = some l) : ∃ base, Below A base l (hideAll h (news.map (·.1))) := by
  rcases C.bel l hl with ⟨hf, A₀, base, outer, B, rfl⟩ | ⟨A₀, base, B⟩
  · exact ⟨base, (groundX (s := ⟨h, #[], ({} : Drawn), 0, ({} : OsState)⟩) (R := fun _ _ => True) B D.fr D.nw hl hf C.kind).2.1⟩
  · exact ⟨base, ⟨hl, (belowMono B (groundY (R := fun _ _ => True) D.fr D.nw).2.1).stays, (belowMono B (groundY (R := fun _ _ => True) D.fr D.nw).2.1).frames⟩⟩
theorem Cx.pushed {w : World} {A : Around} {env : Env} {h₀ h : Heap} {n : Nat} {m : Str → Option Value} {news : List (Addr × Obj)} (C : Cx w A env h₀ n) (D : Led h₀ env.locals m h news) (env' : Env) (hf : env'.frame = some env'.locals) (l : List Env) (hl : (A.deeper env').frames = some l) :
    (env'.frame = some env'.locals ∧ ∃ (A₀ : Around) (base : Heap) (outer : List Env), Below A₀ base outer (hideAll h (news.map (·.1))) ∧ l = env' :: outer) ∨ ∃ A₀ base, Below A₀ base l (hideAll h (news.map (·.1))) := by
  refine .inl ⟨hf, A, ?_⟩
  cases hA : A.frames with
  | none => rw [Around.deeper, hA] at hl; cases hl
  | some l0 =>
    rw [Around.deeper, hA] at hl
    obtain ⟨base, B⟩ := C.ground D l0 hA
    exact ⟨base, l0, B, (Option.some.inj hl).symm⟩
def retOf : Flow → Value
  | .ret v => v
  | _ => .none
section
variable {w : World} {A : Around} {env : Env} {h₀ h : Heap} {g₀ : Array GenState} {d : Drawn} {t : Nat} {os : OsState} {m : Str → Option Value} {news : List (Addr × Obj)} {n : Nat}
theorem enterC {R : Result → Shared → Prop} {name qual : Str} {params : Arguments} {body : List Stmt} {scope : Scope} {dV kV doc pm cdv ct oc : Value} {an od : Option Addr} {osl : Array (Option Value)} {f : Addr} {args : Args} (binds : List (Str × Value)) (rest gs : List Str)
    (C : Cx w A env h₀ (n + 1)) (D : Led h₀ env.locals m h news)
    (ho : (hd.heap_39 w.params).lookup f = some ⟨oc, od, .func (fnOf name qual params body scope dV kV doc pm an cdv ct), osl⟩) (hcd : codeIn (hd.heap_39 w.params) cdv qual = true)
    (hbind : (hd.heap_39 w.params).In h → BindsTo ⟨h, g₀, d, t, os⟩ (fnOf name qual params body scope dV kV doc pm an cdv ct) args binds) (hfl : fnl (binds.map (·.1) ++ rest) gs scope = true)
    (hco : scope.isCoroutine = false) (hgen : scope.isGenerator = false) (hcell : ∀ x ∈ scope.names, x.2 ≠ .cell)
    (hb : ∀ A' env' g h₁ t' Q', Cx w A' env' g n → FnL (binds.map (·.1) ++ rest) gs env'.scope → Led g env'.locals (vec (binds.map (·.1) ++ rest) (binds.map (fun b => some b.2) ++ rest.map fun _ => none)) h₁ news →
      (∀ fl h' t' g' m' news', Led g env'.locals m' h' news' → (Led h₀ env.locals m h' news' → R (.ok (.ret (retOf fl))) ⟨h', g', d, t', os⟩) → Q' fl ⟨h', g', d, t', os⟩) →
      wpAny (model PG w) A' (execs body env') Q' (fun _ _ => False) ⟨h₁, g₀, d, t', os⟩) :
    codeAny (model PG w) A (.call (.ref f) args) R ⟨h, g₀, d, t, os⟩ := by
  obtain ⟨p, loose, mean, mg, mb, T⟩ := C.top
  have fl := FnL.of hfl
  have X := C.X.keeps D.fr.keep
  obtain ⟨FG, st, lv⟩ := groundY (R := R) D.fr D.nw
  have nd : (binds.map (·.1)).Nodup := (List.nodup_append.mp fl.nd).1
  refine codeAny_call_def (s := ⟨h, g₀, d, t, os⟩) (fd := fnOf name qual params body scope dV kV doc pm an cdv ct) (body := body) (binds := binds) (Nat.lt_of_le_of_lt (Nat.le_add_right _ _) C.room) (X _ _ ho) rfl (T.nolimit.keeps D.fr.keep) (codeRec_of X hcd) rfl (hbind X) hcell (fun y hy => fl.loc _ (List.mem_append_left _ (List.mem_map_of_mem hy))) (fun h₁ hns hk₁ => ?_) hco hgen fl.kind
  have hLs : ∀ p ∈ news, p.1 < h.objs.size := fun p hp => Heap.lt_size (D.nw p hp).1
  refine wpAny_mono (hb (A.deeper (envOf qual scope h.objs.size f cdv)) (envOf qual scope h.objs.size f cdv) (hideAll h (news.map (·.1))) h₁ (t + binds.length) (fun fl s' => R (.ok (.ret (match fl with | .ret v => v | _ => .none))) s')
    ⟨?_, rfl, rfl, fl.kind, C.X.keeps st, ⟨p, loose, mean, mg, mb, T.keeps st⟩, C.hand, ?_, ?_⟩ fl ⟨⟨?_, fun b o e => hk₁ b o (of_hideAll _ e), Nat.le_of_eq (hideAll_size _ _)⟩, fun p hp => ⟨hk₁ _ _ (D.nw p hp).1, Nat.ne_of_lt (hLs p hp), hideAll_none _ (List.mem_map_of_mem hp)⟩, D.ord⟩ ?_) (fun fl s' q => q) (fun _ _ q => q.elim)
  · exact C.pushed D _ rfl
  · have := C.room; show A.depth + 1 + n < _; omega
  · have := C.units; show A.units + 3 + 40 * n < _; omega
  · rw [← vec_start binds rest nd]; exact hns
  · intro fl h' t' g' m' news' D' k
    have k2 := lv (retOf fl) ⟨h', g', d, t', os⟩ (leaveK_ (h₀ := h₀) (g := hideAll h (news.map (·.1))) (L := env.locals) (m := m) (R := R) (v := retOf fl) (s' := ⟨h', g', d, t', os⟩) D'.fr D'.nw fun F N => k ⟨F, N, D'.ord⟩)
    cases fl <;> exact k2
theorem enterF {Q E : Value → Shared → Prop} {name qual : Str} {params : Arguments} {body : List Stmt} {scope : Scope} {dV kV doc pm cdv ct oc : Value} {an od : Option Addr} {osl : Array (Option Value)} {f : Addr} {vs : List Value} {kw : List (Str × Value)} (binds : List (Str × Value)) (rest gs : List Str)
    (C : Cx w A env h₀ (n + 1)) (D : Led h₀ env.locals m h news)
    (ho : (hd.heap_39 w.params).lookup f = some ⟨oc, od, .func (fnOf name qual params body scope dV kV doc pm an cdv ct), osl⟩) (hcd : codeIn (hd.heap_39 w.params) cdv qual = true)
    (hbind : (hd.heap_39 w.params).In h → BindsTo ⟨h, g₀, d, t, os⟩ (fnOf name qual params body scope dV kV doc pm an cdv ct) ⟨vs, kw⟩ binds) (hfl : fnl (binds.map (·.1) ++ rest) gs scope = true)
    (hco : scope.isCoroutine = false) (hgen : scope.isGenerator = false) (hcell : ∀ x ∈ scope.names, x.2 ≠ .cell)
    (hb : ∀ A' env' g h₁ t' Q', Cx w A' env' g n → FnL (binds.map (·.1) ++ rest) gs env'.scope → Led g env'.locals (vec (binds.map (·.1) ++ rest) (binds.map (fun b => some b.2) ++ rest.map fun _ => none)) h₁ news →
      (∀ fl h' t' g' m' news', Led g env'.locals m' h' news' → (Led h₀ env.locals m h' news' → Q (retOf fl) ⟨h', g', d, t', os⟩) → Q' fl ⟨h', g', d, t', os⟩) →
      wpAny (model PG w) A' (execs body env') Q' (fun _ _ => False) ⟨h₁, g₀, d, t', os⟩) :
    wpAny (model PG w) A (call (.ref f) vs kw) Q E ⟨h, g₀, d, t, os⟩ :=
  wpAny_call (enterC binds rest gs C D ho hcd hbind hfl hco hgen hcell fun A' env' g h₁ t' Q' C' fl D' k => hb A' env' g h₁ t' Q' C' fl D' k)
theorem makeF {Q E : Value → Shared → Prop} {name qual : Str} {params : Arguments} {body : List Stmt} {scope : Scope} {dV kV doc pm cdv ct oc : Value} {an od : Option Addr} {osl : Array (Option Value)} {Cl fI : Addr} {vs : List Value} {kw : List (Str × Value)} (self : Str) (binds : List (Str × Value)) (rest gs : List Str)
    (C : Cx w A env h₀ (n + 2)) (D : Led h₀ env.locals m h news)
    (hm : makesIn (hd.heap_39 w.params) Cl = true) (hi : findIn (hd.heap_39 w.params) (.ref Cl) "__init__" = some (some (.ref fI))) (hf : isFn (hd.heap_39 w.params) (.ref fI) = true)
    (ho : (hd.heap_39 w.params).lookup fI = some ⟨oc, od, .func (fnOf name qual params body scope dV kV doc pm an cdv ct), osl⟩) (hcd : codeIn (hd.heap_39 w.params) cdv qual = true)
    (hbind : ∀ x h', (hd.heap_39 w.params).In h' → BindsTo ⟨h', g₀, d, t, os⟩ (fnOf name qual params body scope dV kV doc pm an cdv ct) ⟨.ref x :: vs, kw⟩ ((self, .ref x) :: binds)) (hfl : fnl (self :: (binds.map (·.1) ++ rest)) gs scope = true)
    (hco : scope.isCoroutine = false) (hgen : scope.isGenerator = false) (hcell : ∀ x ∈ scope.names, x.2 ≠ .cell)
    (hb : ∀ x dx A' env' g h₁ t' Q', Cx w A' env' g n → FnL (self :: (binds.map (·.1) ++ rest)) gs env'.scope →
      Led g env'.locals (vec (self :: (binds.map (·.1) ++ rest)) (some (.ref x) :: (binds.map (fun b => some b.2) ++ rest.map fun _ => none))) h₁ ((x, instObj Cl dx) :: (dx, dictOf [] 0) :: news) →
      (∀ fl h' t' g' m' news', Led g env'.locals m' h' news' → (Led h₀ env.locals m h' news' → retOf fl = .none ∧ Q (.ref x) ⟨h', g', d, t', os⟩) → Q' fl ⟨h', g', d, t', os⟩) →
      wpAny (model PG w) A' (execs body env') Q' (fun _ _ => False) ⟨h₁, g₀, d, t', os⟩) :
    wpAny (model PG w) A (call (.ref Cl) vs kw) Q E ⟨h, g₀, d, t, os⟩ := by
  refine call_cls (s := ⟨h, g₀, d, t, os⟩) D.fr C.X D.nw hm hi hf (fun x dx h' F' N' l1 l2 => ?_)
  have D' : Led h₀ env.locals m h' ((x, instObj Cl dx) :: (dx, dictOf [] 0) :: news) := by
    refine ⟨F', N', ?_⟩
    simp only [List.map_cons]
    refine List.Pairwise.cons (fun b hb => ?_) (List.Pairwise.cons (fun b hb => ?_) D.ord)
    · rcases List.mem_cons.mp hb with rfl | hb
      · exact l2
      · obtain ⟨p, hp, rfl⟩ := List.mem_map.mp hb
        exact Nat.lt_trans (l1 p hp) l2
    · obtain ⟨p, hp, rfl⟩ := List.mem_map.mp hb
      exact l1 p hp
  refine enterC (h := h') ((self, .ref x) :: binds) rest gs (C.make Cl vs kw) D' ho hcd (hbind x h') hfl hco hgen hcell fun A' env' g h₁ t' Q' C' fl D'' k => ?_
  exact hb x dx A' env' g h₁ t' Q' C' fl D'' fun fl h' t' g' m' news' D₃ q => k fl h' t' g' m' news' D₃ fun D₄ => q D₄
end
end
section
open PySem.W.X (Led)
theorem gk_ok (w : World) : gl.all (fun q => q.1 == ("available_algorithms" : Str) || keepIn (hd.heap_39 w.params) q.2) = true := by kernel_rfl!
theorem gkeep (w : World) {x : Str} {v : Value} (h : (x, v) ∈ gl) (hx : (x == ("available_algorithms" : Str)) = false) : keepIn (hd.heap_39 w.params) v = true := by
  have := List.all_eq_true.mp (gk_ok w) _ h
  simpa [hx] using this
/-- one object of the ledger turned -/
inductive UpdA (a : Addr) (o o' : Obj) : List (Addr × Obj) → List (Addr × Obj) → Prop
  | z {l} : UpdA a o o' ((a, o) :: l) ((a, o') :: l)
  | s {p l l'} : UpdA a o o' l l' → UpdA a o o' (p :: l) (p :: l')
theorem UpdA.addr {a : Addr} {o o' : Obj} {l l' : List (Addr × Obj)} (u : UpdA a o o' l l') : l.map (·.1) = l'.map (·.1) := by
  induction u with
  | z => rfl
  | s _ ih => simp [ih]
theorem UpdA.mem {a : Addr} {o o' : Obj} {l l' : List (Addr × Obj)} (u : UpdA a o o' l l') : (a, o) ∈ l := by
  induction u with
  | z => exact .head _
  | s _ ih => exact .tail _ ih
theorem UpdA.upd {a : Addr} {o o' : Obj} {l l' : List (Addr × Obj)} (u : UpdA a o o' l l') (h : (l.map (·.1)).Pairwise (· > ·)) : Upd a o o' l l' := by
  induction u with
  | z =>
    simp only [List.map_cons, List.pairwise_cons] at h
    exact .head fun p hp => Nat.ne_of_lt (h.1 p.1 (List.mem_map_of_mem hp))
  | @s p l l' u ih =>
    simp only [List.map_cons, List.pairwise_cons] at h
    exact .tail (Nat.ne_of_gt (h.1 a (List.mem_map.mpr ⟨_, u.mem, rfl⟩))) (ih h.2)
theorem UpdA.split {a : Addr} {o o' : Obj} : ∀ {l l' : List (Addr × Obj)}, UpdA a o o' l l' → ∃ pre post, l = pre ++ (a, o) :: post ∧ l' = pre ++ (a, o') :: post
  | _, _, .z => ⟨[], _, rfl, rfl⟩
  | _, _, .s (p := p) u => let ⟨pre, post, e1, e2⟩ := u.split; ⟨p :: pre, post, by rw [e1]; rfl, by rw [e2]; rfl⟩
inductive UpdG (a : Addr) (o : Obj) : List (Addr × Obj) → (Obj → List (Addr × Obj)) → Prop
  | z {l} : UpdG a o ((a, o) :: l) (fun o' => (a, o') :: l)
  | s {p l g} : UpdG a o l g → UpdG a o (p :: l) (fun o' => p :: g o')
theorem UpdG.at {a : Addr} {o : Obj} {l : List (Addr × Obj)} {g : Obj → List (Addr × Obj)} (u : UpdG a o l g) (o' : Obj) : UpdA a o o' l (g o') := by
  induction u with
  | z => exact .z
  | s _ ih => exact .s ih
theorem ledUpd {h₀ h h' : Heap} {L a : Addr} {m m' : Str → Option Value} {o o' : Obj} {l l' : List (Addr × Obj)} (D : Led h₀ L m h l) (u : UpdA a o o' l l') (F : Fr h₀ L h' m') (N : News h₀ L h' l') : Led h₀ L m' h' l' :=
  ⟨F, N, by rw [← u.addr]; exact D.ord⟩
theorem ledCons {h₀ h h' : Heap} {L a : Addr} {m m' : Str → Option Value} {o : Obj} {l : List (Addr × Obj)} (D : Led h₀ L m h l) (F : Fr h₀ L h' m') (N : News h₀ L h' ((a, o) :: l)) (lt : ∀ p ∈ l, p.1 < a) : Led h₀ L m' h' ((a, o) :: l) :=
  ⟨F, N, by rw [List.map_cons]; exact List.Pairwise.cons (fun b hb => by obtain ⟨p, hp, rfl⟩ := List.mem_map.mp hb; exact lt p hp) D.ord⟩
theorem ledSame {h₀ h h' : Heap} {L : Addr} {m m' : Str → Option Value} {l : List (Addr × Obj)} (D : Led h₀ L m h l) (F : Fr h₀ L h' m') (N : News h₀ L h' l) : Led h₀ L m' h' l := ⟨F, N, D.ord⟩
/-- a part of the ledger alone -/
theorem ledTail {h₀ h : Heap} {L : Addr} {m : Str → Option Value} {p : Addr × Obj} {l : List (Addr × Obj)} (D : Led h₀ L m h (p :: l)) : Led h₀ L m h l :=
  ⟨D.fr, fun q hq => D.nw q (.tail _ hq), (List.pairwise_cons.mp (by simpa using D.ord)).2⟩
theorem ledDrop2 {h₀ h : Heap} {L : Addr} {m : Str → Option Value} {p q : Addr × Obj} {l : List (Addr × Obj)} (D : Led h₀ L m h (p :: q :: l)) : Led h₀ L m h (p :: l) :=
  ⟨D.fr, fun r hr => D.nw r (by rcases List.mem_cons.mp hr with rfl | hr; exact .head _; exact .tail _ (.tail _ hr)), by
    have := D.ord; simp only [List.map_cons, List.pairwise_cons] at this ⊢
    exact ⟨fun a ha => this.1 a (.tail _ ha), this.2.2⟩⟩
theorem ledApp {h₀ h : Heap} {L : Addr} {m : Str → Option Value} {t l : List (Addr × Obj)} (D : Led h₀ L m h (t ++ l)) : Led h₀ L m h l :=
  ⟨D.fr, fun q hq => D.nw q (List.mem_append_right _ hq), by have := D.ord; rw [List.map_append, List.pairwise_append] at this; exact this.2.1⟩
/-- a contract -/
def Spec (w : World) (f : Value) (vs : List Value) (kw : List (Str × Value)) (n : Nat) (Pre : List (Addr × Obj) → Prop) (Out : List (Addr × Obj) → Value → List (Addr × Obj) → Prop) : Prop :=
  ∀ (A : Around) (env : Env) (h₀ : Heap) (m : Str → Option Value) (news : List (Addr × Obj)) (h : Heap) (g : Array GenState) (d : Drawn) (t : Nat) (os : OsState) (Q E : Value → Shared → Prop), Cx w A env h₀ n → Led h₀ env.locals m h news → Pre news →
    (∀ r tl h' t', Led h₀ env.locals m h' (tl ++ news) → Out news r tl → Q r ⟨h', g, d, t', os⟩) → wpAny (model PG w) A (call f vs kw) Q E ⟨h, g, d, t, os⟩
theorem Spec.use {w : World} {f : Value} {vs : List Value} {kw : List (Str × Value)} {n k : Nat} {Pre : List (Addr × Obj) → Prop} {Out : List (Addr × Obj) → Value → List (Addr × Obj) → Prop} {A : Around} {env : Env} {h₀ : Heap} {m : Str → Option Value} {news : List (Addr × Obj)} {h : Heap} {g : Array GenState} {d : Drawn} {t : Nat} {os : OsState} {Q E : Value → Shared → Prop}
    (S : Spec w f vs kw n Pre Out) (C : Cx w A env h₀ k) (hk : n ≤ k) (D : Led h₀ env.locals m h news) (P : Pre news) (hq : ∀ r tl h' t', Led h₀ env.locals m h' (tl ++ news) → Out news r tl → Q r ⟨h', g, d, t', os⟩) : wpAny (model PG w) A (call f vs kw) Q E ⟨h, g, d, t, os⟩ :=
  S A env h₀ m news h g d t os Q E (C.le hk) D P hq
section
variable {w : World} {A : Around} {env : Env} {h₀ h : Heap} {g : Array GenState} {d : Drawn} {t : Nat} {os : OsState} {m : Str → Option Value} {news : List (Addr × Obj)} {n : Nat} {ns gs : List Str} {vs vs' : List (Option Value)} {x : Str} {v : Value} {pos fp : Pos} {E : Value → Shared → Prop}
theorem rLoc {Q : Value → Shared → Prop} (C : Cx w A env h₀ n) (fl : FnL ns gs env.scope) (D : Led h₀ env.locals (vec ns vs) h news) (h2 : At2 ns vs x v) (hq : Q v ⟨h, g, d, t, os⟩) : wpAny (model PG w) A (eval (.Name x pos) env) Q E ⟨h, g, d, t, os⟩ :=
  wpAny_Name (wpAny_loadName_local C.kind (by show env.scope.names.lookup x = _; exact fl.loc x h2.mem) D.fr.ns (h2.get fl.nd) hq) (fl.nb x h2.mem)
theorem rLdn {Q : Value → Shared → Prop} (C : Cx w A env h₀ n) (fl : FnL ns gs env.scope) (D : Led h₀ env.locals (vec ns vs) h news) (h2 : At2 ns vs x v) (hq : Q v ⟨h, g, d, t, os⟩) : wpAny (model PG w) A (loadName env x) Q E ⟨h, g, d, t, os⟩ :=
  wpAny_loadName_local C.kind (by show env.scope.names.lookup x = _; exact fl.loc x h2.mem) D.fr.ns (h2.get fl.nd) hq
theorem rGlob {Q : Value → Shared → Prop} (C : Cx w A env h₀ n) (fl : FnL ns gs env.scope) (D : Led h₀ env.locals m h news) (hx : x ∈ gs) (e : (x, v) ∈ gl) (hq : Q v ⟨h, g, d, t, os⟩) : wpAny (model PG w) A (eval (.Name x pos) env) Q E ⟨h, g, d, t, os⟩ := by
  obtain ⟨p, loose, mean, mg, mb, T⟩ := C.top
  exact Name_function_global C.kind (by show env.scope.names.lookup x = _; exact fl.glob x hx) (loadGlobal_global (env := env) (by rw [C.glo]; exact T.g.keeps D.fr.keep) (mg_of C.X T.g (gtab w e)) hq) (fl.nbg x hx)
theorem rBi {Q : Value → Shared → Prop} (C : Cx w A env h₀ n) (fl : FnL ns gs env.scope) (D : Led h₀ env.locals m h news) (hx : x ∈ gs) (e : (x, v) ∈ bl) (hq : Q v ⟨h, g, d, t, os⟩) : wpAny (model PG w) A (eval (.Name x pos) env) Q E ⟨h, g, d, t, os⟩ := by
  obtain ⟨p, loose, mean, mg, mb, T⟩ := C.top
  obtain ⟨a, b, c⟩ := btab w e
  exact Name_function_global C.kind (by show env.scope.names.lookup x = _; exact fl.glob x hx) (loadGlobal_builtin (env := env) (by rw [C.glo]; exact T.g.keeps D.fr.keep) (mg_none_of C.X T.g a) (by rw [C.bui]; exact T.b.keeps D.fr.keep) ((T.builtins x c).trans b) hq) (fl.nbg x hx)
theorem rSto {Q : Unit → Shared → Prop} (C : Cx w A env h₀ n) (fl : FnL ns gs env.scope) (D : Led h₀ env.locals (vec ns vs) h news) (h2 : Put2 ns vs x v vs')
    (hq : ∀ h' t', Led h₀ env.locals (vec ns vs') h' news → Q () ⟨h', g, d, t', os⟩) : wpAny (model PG w) A (storeName env x v) Q E ⟨h, g, d, t, os⟩ :=
  wpAny_storeName_local (by show env.scope.names.lookup x = _; exact fl.loc x h2.mem) D.fr.ns (fun h' hn hs => hq h' _ (ledSame D (by have := D.fr.set hn hs; rwa [h2.put fl.nd] at this) (D.nw.set hs))) (by rw [C.kind]; rfl)
/-- a call's callee: a def or a class of the top -/
theorem rCallK {Q : Value → Shared → Prop} {e : Expr} {rest : List Expr} (C : Cx w A env h₀ n) (fl : FnL ns gs env.scope) (D : Led h₀ env.locals m h news) (hx : x ∈ gs) (e1 : (x, v) ∈ gl) (hx2 : (x == ("available_algorithms" : Str)) = false)
    (he : starEach (e :: rest) env = (false, eval e env) :: starEach rest env) (hplain : (backTo pos (starEach rest env)).any (·.1) = false)
    (hq : wpAny (model PG w) A (spliced (backTo pos (starEach (e :: rest) env))) (fun vs s₁ => (hd.heap_39 w.params).In s₁.heap ∧ wpAny (model PG w) A (call v vs) Q E s₁) E ⟨h, g, d, t, os⟩) :
    wpAny (model PG w) A (eval (.Call (.Name x fp) (e :: rest) [] pos) env) Q E ⟨h, g, d, t, os⟩ :=
  wpAny_Call_Name_kw (rGlob C fl D hx e1 (callWith_K C.X (gkeep w e1 hx2) hq he hplain))
theorem rCallKW {Q : Value → Shared → Prop} {e : Expr} {rest : List Expr} {kws : List Keyword} (C : Cx w A env h₀ n) (fl : FnL ns gs env.scope) (D : Led h₀ env.locals m h news) (hx : x ∈ gs) (e1 : (x, v) ∈ gl) (hx2 : (x == ("available_algorithms" : Str)) = false)
    (hall : (backToKw pos (keywordEach kws env)).all (·.1.isSome) = true) (hplain : ((backTo pos (starEach (e :: rest) env)).any (·.1) || (backToKw pos (keywordEach kws env)).any (·.1.isNone)) = false) (he : starEach (e :: rest) env = (false, eval e env) :: starEach rest env)
    (hq : wpAny (model PG w) A (spliced (backTo pos (starEach (e :: rest) env))) (fun vs s₁ => wpAny (model PG w) A (evalAll ((backToKw pos (keywordEach kws env)).map (·.2)))
      (fun ks s₂ => (hd.heap_39 w.params).In s₂.heap ∧ wpAny (model PG w) A (call v vs (((backToKw pos (keywordEach kws env)).filterMap (·.1)).zip ks)) Q E s₂) E s₁) E ⟨h, g, d, t, os⟩) :
    wpAny (model PG w) A (eval (.Call (.Name x fp) (e :: rest) kws pos) env) Q E ⟨h, g, d, t, os⟩ :=
  wpAny_Call_Name_kw (rGlob C fl D hx e1 (callWith_KW C.X (gkeep w e1 hx2) hall hq hplain he))
theorem rCallKW0 {Q : Value → Shared → Prop} {kws : List Keyword} (C : Cx w A env h₀ n) (fl : FnL ns gs env.scope) (D : Led h₀ env.locals m h news) (hx : x ∈ gs) (e1 : (x, v) ∈ gl) (hx2 : (x == ("available_algorithms" : Str)) = false)
    (hall : (backToKw pos (keywordEach kws env)).all (·.1.isSome) = true) (hplain : ((backTo pos (starEach [] env)).any (·.1) || (backToKw pos (keywordEach kws env)).any (·.1.isNone)) = false)
    (hq : wpAny (model PG w) A (evalAll ((backToKw pos (keywordEach kws env)).map (·.2)))
      (fun ks s₂ => (hd.heap_39 w.params).In s₂.heap ∧ wpAny (model PG w) A (call v [] (((backToKw pos (keywordEach kws env)).filterMap (·.1)).zip ks)) Q E s₂) E ⟨h, g, d, t, os⟩) :
    wpAny (model PG w) A (eval (.Call (.Name x fp) [] kws pos) env) Q E ⟨h, g, d, t, os⟩ :=
  wpAny_Call_Name_kw (rGlob C fl D hx e1 (callWith_KW0 C.X (gkeep w e1 hx2) hall hq hplain))
/-- a call of a built-in function, of a built-in type -/
theorem rCallB {Q : Value → Shared → Prop} {id : String} {e : Expr} {rest : List Expr} (C : Cx w A env h₀ n) (fl : FnL ns gs env.scope) (D : Led h₀ env.locals m h news) (hx : x ∈ gs) (e1 : (x, .builtin id) ∈ bl)
    (he : starEach (e :: rest) env = (false, eval e env) :: starEach rest env) (hplain : (backTo pos (starEach rest env)).any (·.1) = false)
    (hq : wpAny (model PG w) A (spliced (backTo pos (starEach (e :: rest) env))) (fun vs s₁ => wpAny (model PG w) A (call (.builtin id) vs) Q E s₁) E ⟨h, g, d, t, os⟩) :
    wpAny (model PG w) A (eval (.Call (.Name x fp) (e :: rest) [] pos) env) Q E ⟨h, g, d, t, os⟩ :=
  wpAny_Call_Name_kw (rBi C fl D hx e1 (callWith_builtin1 hq he hplain))
theorem rCallT {Q : Value → Shared → Prop} {T : String} {e : Expr} {rest : List Expr} (C : Cx w A env h₀ n) (fl : FnL ns gs env.scope) (D : Led h₀ env.locals m h news) (hx : x ∈ gs) (e1 : (x, .type T) ∈ bl)
    (he : starEach (e :: rest) env = (false, eval e env) :: starEach rest env) (hplain : (backTo pos (starEach rest env)).any (·.1) = false)
    (hq : wpAny (model PG w) A (spliced (backTo pos (starEach (e :: rest) env))) (fun vs s₁ => wpAny (model PG w) A (call (.type T) vs) Q E s₁) E ⟨h, g, d, t, os⟩) :
    wpAny (model PG w) A (eval (.Call (.Name x fp) (e :: rest) [] pos) env) Q E ⟨h, g, d, t, os⟩ :=
  wpAny_Call_Name_kw (rBi C fl D hx e1 (PyProof.Rows.callWith_type1 hq he hplain))
/-- the arguments' end -/
theorem rEnd {Q : List Value → Shared → Prop} (C : Cx w A env h₀ n) (D : Led h₀ env.locals m h news) (hq : Q [] ⟨h, g, d, t, os⟩) : wpAny (model PG w) A (spliced (backTo pos (starEach [] env))) (fun vs s₁ => (hd.heap_39 w.params).In s₁.heap ∧ Q vs s₁) E ⟨h, g, d, t, os⟩ :=
  args_nil ⟨C.X.keeps D.fr.keep, hq⟩
theorem rCI {i : Int} {k : Nat} {Q : Value → Shared → Prop} (hq : ∀ tk t', Q (.int i tk) ⟨h, g, d, t', os⟩) : wpAny (model PG w) A (eval (.Constant (.int i) k pos) env) Q E ⟨h, g, d, t, os⟩ := wpAny_Constant_int (hq _ _)
theorem rCS {i : Str} {k : Nat} {Q : Value → Shared → Prop} (hq : ∀ tk t', Q (.str i tk) ⟨h, g, d, t', os⟩) : wpAny (model PG w) A (eval (.Constant (.str i) k pos) env) Q E ⟨h, g, d, t, os⟩ := Calls.Constant_str (hq _ _)
theorem rCB {b : Bool} {k : Nat} {Q : Value → Shared → Prop} (hq : Q (.bool b) ⟨h, g, d, t, os⟩) : wpAny (model PG w) A (eval (.Constant (.bool b) k pos) env) Q E ⟨h, g, d, t, os⟩ := fun _ _ _ => hq
theorem rCN {k : Nat} {Q : Value → Shared → Prop} (hq : Q .none ⟨h, g, d, t, os⟩) : wpAny (model PG w) A (eval (.Constant .none k pos) env) Q E ⟨h, g, d, t, os⟩ := fun _ _ _ => hq
theorem oMul {a b : Int} {ta tb : Tok} {Q : Value → Shared → Prop} (hm : IntMulOk a b) (hq : ∀ tk t', Q (.int (a * b) tk) ⟨h, g, d, t', os⟩) : wpAny (model PG w) A (binaryOp .Mult (.int a ta) (.int b tb)) Q E ⟨h, g, d, t, os⟩ := P.mul_int (hq _ _) hm
theorem oAdd {a b : Int} {ta tb : Tok} {Q : Value → Shared → Prop} (hq : ∀ tk t', Q (.int (a + b) tk) ⟨h, g, d, t', os⟩) : wpAny (model PG w) A (binaryOp .Add (.int a ta) (.int b tb)) Q E ⟨h, g, d, t, os⟩ := P.add_int (hq _ _)
theorem oSub {a b : Int} {ta tb : Tok} {Q : Value → Shared → Prop} (hq : ∀ tk t', Q (.int (a - b) tk) ⟨h, g, d, t', os⟩) : wpAny (model PG w) A (binaryOp .Sub (.int a ta) (.int b tb)) Q E ⟨h, g, d, t, os⟩ := P.sub_int (hq _ _)
theorem oMod {a b : Int} {ta tb : Tok} {Q : Value → Shared → Prop} (hb : b ≠ 0) (hq : ∀ tk t', Q (.int (a.fmod b) tk) ⟨h, g, d, t', os⟩) : wpAny (model PG w) A (binaryOp .Mod (.int a ta) (.int b tb)) Q E ⟨h, g, d, t, os⟩ := mod_int' hb (hq _ _)
theorem oDiv {a b : Int} {ta tb : Tok} {Q : Value → Shared → Prop} (hb : b ≠ 0) (hs : b.natAbs < 1073741824) (hq : ∀ tk t', Q (.int (a.fdiv b) tk) ⟨h, g, d, t', os⟩) : wpAny (model PG w) A (binaryOp .FloorDiv (.int a ta) (.int b tb)) Q E ⟨h, g, d, t, os⟩ := floordiv_int hb (hq _ _) (.inl (PyProof.noPylong_small hs))
theorem oIAdd {a b : Int} {ta tb : Tok} {Q : Value → Shared → Prop} (hq : ∀ tk t', Q (.int (a + b) tk) ⟨h, g, d, t', os⟩) : wpAny (model PG w) A (inplaceOp .Add (.int a ta) (.int b tb)) Q E ⟨h, g, d, t, os⟩ := P.iadd_int (hq _ _)
theorem oISub {a b : Int} {ta tb : Tok} {Q : Value → Shared → Prop} (hq : ∀ tk t', Q (.int (a - b) tk) ⟨h, g, d, t', os⟩) : wpAny (model PG w) A (inplaceOp .Sub (.int a ta) (.int b tb)) Q E ⟨h, g, d, t, os⟩ := P.isub_int (hq _ _)
theorem oNeg {a : Int} {ta : Tok} {Q : Value → Shared → Prop} (hq : ∀ tk t', Q (.int (-a) tk) ⟨h, g, d, t', os⟩) : wpAny (model PG w) A (unaryOp .USub (.int a ta)) Q E ⟨h, g, d, t, os⟩ := P.neg_int (hq _ _)
end
end
section
open PySem.W.X (Led)
abbrev tupO (vs : List Value) : Obj := { cls := .type "tuple", data := .seq vs.toArray }
section
variable {w : World} {A : Around} {env : Env} {h₀ h : Heap} {g : Array GenState} {d : Drawn} {t : Nat} {os : OsState} {m : Str → Option Value} {news : List (Addr × Obj)} {n : Nat} {ns gs : List Str} {vs vs' : List (Option Value)} {x : Str} {v : Value} {pos fp : Pos} {E : Value → Shared → Prop}
theorem rTup {l : List Value} {Q : Value → Shared → Prop} (D : Led h₀ env.locals m h news) (hz : l.length ≤ sizeLine)
    (hq : ∀ a h', Led h₀ env.locals m h' ((a, tupO l) :: news) → Q (.ref a) ⟨h', g, d, t, os⟩) : wpAny (model PG w) A (newTuple l) Q E ⟨h, g, d, t, os⟩ :=
  kup_newTuple D.fr D.nw (fun a h' F N lt => hq a h' (ledCons D F N lt)) hz
/-- a, b = (ea, eb): the tuple goes -/
def SwapEnd (h₀ : Heap) (L : Addr) (a b : Str) (Q : Flow → Shared → Prop) (v1 v2 : Value) (s : Shared) : Prop :=
  ∃ ns vs vs1 vs2 news, ns.Nodup ∧ Led h₀ L (vec ns vs) s.heap news ∧ Put2 ns vs b v2 vs1 ∧ Put2 ns vs1 a v1 vs2 ∧ ∀ h' tk, Led h₀ L (vec ns vs2) h' news → Q .next ⟨h', s.gens, s.drawn, tk, s.os⟩
theorem SwapEnd.mk {L : Addr} {a b : Str} {Q : Flow → Shared → Prop} {v1 v2 : Value} {vs1 vs2 : List (Option Value)} {cs : Scope} (fl : FnL ns gs cs) (D : Led h₀ L (vec ns vs) h news) (p1 : Put2 ns vs b v2 vs1) (p2 : Put2 ns vs1 a v1 vs2)
    (hq : ∀ h' t', Led h₀ L (vec ns vs2) h' news → Q .next ⟨h', g, d, t', os⟩) : SwapEnd h₀ L a b Q v1 v2 ⟨h, g, d, t, os⟩ := ⟨ns, vs, vs1, vs2, news, fl.nd, D, p1, p2, hq⟩
theorem sto2 {L : Addr} {Q : Unit → Shared → Prop} (hkd : env.scope.kind = .function) (hL : L = env.locals) (hx : env.kindOf x = some .local) (nd : ns.Nodup) (D : Led h₀ L (vec ns vs) h news) (h2 : Put2 ns vs x v vs')
    (hq : ∀ h' t', Led h₀ L (vec ns vs') h' news → Q () ⟨h', g, d, t', os⟩) : wpAny (model PG w) A (storeName env x v) Q E ⟨h, g, d, t, os⟩ := by
  subst hL
  exact wpAny_storeName_local hx D.fr.ns (fun h' hn hs => hq h' _ (ledSame D (by have := D.fr.set hn hs; rwa [h2.put nd] at this) (D.nw.set hs))) (by rw [hkd]; rfl)
theorem unp2 {L : Addr} {Q : Unit → Shared → Prop} {a b : Str} {v1 v2 : Value} {vs1 vs2 : List (Option Value)} (hkd : env.scope.kind = .function) (hL : L = env.locals) (ha : env.kindOf a = some .local) (hb : env.kindOf b = some .local) (nd : ns.Nodup) (D : Led h₀ L (vec ns vs) h news)
    (p1 : Put2 ns vs b v2 vs1) (p2 : Put2 ns vs1 a v1 vs2) (hq : ∀ h' t', Led h₀ L (vec ns vs2) h' news → Q () ⟨h', g, d, t', os⟩) :
    wpAny (model PG w) A (assignInOrder [fun v => bindName env b v, fun v => bindName env a v] [v2, v1]) Q E ⟨h, g, d, t, os⟩ :=
  assignInOrder_cons (bindName_ (sto2 hkd hL hb nd D p1 fun h3 _ D3 => assignInOrder_cons (bindName_ (sto2 hkd hL ha nd D3 p2 fun h4 _ D4 => assignInOrder_nil (hq _ _ D4)))))
theorem rSwap {Q : Flow → Shared → Prop} {a b : Str} {pa pb : Pos} {k k2 : Nat} {tp tp2 : Pos} {ea eb : Expr} (C : Cx w A env h₀ n) (fl : FnL ns gs env.scope) (ha : a ∈ ns) (hb : b ∈ ns) (hab : a ≠ b) (hl : pa.line = pb.line)
    (hsa : isStarred ea = false) (hsb : isStarred eb = false) (hf : ([ea, eb] : List Expr).all (foldedForSure 8) = false) (hc : ([ea, eb] : List Expr).all (constantsAlone 8) = false)
    (hs : swapsWithSole [.Tuple [.Name a pa, .Name b pb] k tp] (.Tuple [ea, eb] k2 tp2) pos.line env = pure false)
    (he1 : starEach [ea, eb] env = (false, eval ea env) :: starEach [eb] env) (he2 : starEach [eb] env = (false, eval eb env) :: starEach [] env)
    (hq : wpAny (model PG w) A (eval ea env) (fun v1 s1 => wpAny (model PG w) A (eval eb env) (fun v2 s2 => SwapEnd h₀ env.locals a b Q v1 v2 s2) E s1) E ⟨h, g, d, t, os⟩) :
    wpAny (model PG w) A (exec (.Assign [.Tuple [.Name a pa, .Name b pb] k tp] (.Tuple [ea, eb] k2 tp2) pos) env) Q E ⟨h, g, d, t, os⟩ := by
  have ka : env.kindOf a = some .local := by show env.scope.names.lookup a = _; exact fl.loc a ha
  have kb : env.kindOf b = some .local := by show env.scope.names.lookup b = _; exact fl.loc b hb
  have hw : swappedStores [.Tuple [.Name a pa, .Name b pb] k tp] (.Tuple [ea, eb] k2 tp2) env = pure (some [a, b]) := by
    simp only [swappedStores]
    simp only [List.length_cons, List.length_nil, Env.blockKind, C.kind, hf, hc, List.head?_cons, Option.map_some, Option.getD_some, List.filterMap_cons, List.filterMap_nil, ka, kb, hl]
    have h1 : ∀ e : Expr, isStarred e = (match e with | .Starred .. => true | _ => false) := fun e => rfl
    rw [h1] at hsa hsb
    simp [Expr.pos, hl, List.eraseDups_cons, hab.symm]
    intro q
    rcases q with q | q
    · exact absurd (q.symm.trans hsa) (by decide)
    · exact absurd (q.symm.trans hsb) (by decide)
  refine Assign_Tuple_swapped (names := [a, b]) ?_ hs hw
  refine Tuple_ (args_cons (wpAny_mono hq (fun v1 s1 h1 => args_cons (wpAny_mono h1 (fun v2 s2 h2 => args_nil ?_) fun _ _ e => e) he2) fun _ _ e => e) he1)
  obtain ⟨ns', vs0, vs1, vs2, news', nd, D, p1, p2, hq⟩ := h2
  obtain ⟨h2, g2, d2, t2, o2⟩ := s2
  refine rTup (env := env) D (by simp [sizeLine_eq]) fun tt h' D' => ?_
  refine unpackItemsN_ (s := ⟨h', g2, d2, t2, o2⟩) D'.fr D'.nw (items := #[v1, v2]) (News.isTup D'.nw (.head _)) C.hand rfl fun h'' F N => ?_
  have D2 := ledTail (ledSame D' F N)
  exact unp2 (vs1 := vs1) C.kind rfl ka kb nd D2 p1 p2 fun h4 t4 D4 => hq _ _ D4
/-- a, b = f(..): a tuple of two comes back -/
def UnpEnd (h₀ : Heap) (L : Addr) (a b : Str) (Q : Flow → Shared → Prop) (v : Value) (s : Shared) : Prop :=
  ∃ r v1 v2 ns vs vs1 vs2 news, v = .ref r ∧ (r, tupO [v1, v2]) ∈ news ∧ ns.Nodup ∧ Led h₀ L (vec ns vs) s.heap news ∧ Put2 ns vs a v1 vs1 ∧ Put2 ns vs1 b v2 vs2 ∧ ∀ h' tk, Led h₀ L (vec ns vs2) h' news → Q .next ⟨h', s.gens, s.drawn, tk, s.os⟩
theorem UnpEnd.mk {L r : Addr} {a b : Str} {Q : Flow → Shared → Prop} {v1 v2 : Value} {vs1 vs2 : List (Option Value)} {cs : Scope} (fl : FnL ns gs cs) (D : Led h₀ L (vec ns vs) h news) (hr : (r, tupO [v1, v2]) ∈ news) (p1 : Put2 ns vs a v1 vs1) (p2 : Put2 ns vs1 b v2 vs2)
    (hq : ∀ h' t', Led h₀ L (vec ns vs2) h' news → Q .next ⟨h', g, d, t', os⟩) : UnpEnd h₀ L a b Q (.ref r) ⟨h, g, d, t, os⟩ := ⟨r, v1, v2, ns, vs, vs1, vs2, news, rfl, hr, fl.nd, D, p1, p2, hq⟩
theorem rUnp {Q : Flow → Shared → Prop} {a b : Str} {pa pb : Pos} {k : Nat} {tp : Pos} {value : Expr} (C : Cx w A env h₀ n) (fl : FnL ns gs env.scope) (ha : a ∈ ns) (hb : b ∈ ns)
    (hs : swapsWithSole [.Tuple [.Name a pa, .Name b pb] k tp] value pos.line env = pure false) (hw : swappedStores [.Tuple [.Name a pa, .Name b pb] k tp] value env = pure none)
    (hq : wpAny (model PG w) A (eval value env) (fun v s1 => UnpEnd h₀ env.locals a b Q v s1) E ⟨h, g, d, t, os⟩) :
    wpAny (model PG w) A (exec (.Assign [.Tuple [.Name a pa, .Name b pb] k tp] value pos) env) Q E ⟨h, g, d, t, os⟩ := by
  have ka : env.kindOf a = some .local := by show env.scope.names.lookup a = _; exact fl.loc a ha
  have kb : env.kindOf b = some .local := by show env.scope.names.lookup b = _; exact fl.loc b hb
  refine Assign_Tuple (wpAny_mono hq (fun v s1 h1 => ?_) fun _ _ e => e) hs hw
  obtain ⟨r, v1, v2, ns', vs0, vs1, vs2, news', rfl, hr, nd, D, p1, p2, hq⟩ := h1
  obtain ⟨h2, g2, d2, t2, o2⟩ := s1
  show wpAny _ _ (do standAt tp; unpack (.ref r) (assignEach [.Name a pa, .Name b pb] env)) _ _ _
  refine wpAny_bind (wpAny_standAt ?_)
  show wpAny _ _ (do assignInOrder [assign (.Name a pa) env, assign (.Name b pb) env] (← holding [.ref r] (unpackItems (.ref r) 2 none))) _ _ _
  refine wpAny_bind (wpAny_holding (unpackItemsN_ (s := ⟨h2, g2, d2, t2, o2⟩) D.fr D.nw (items := #[v1, v2]) (News.isTup D.nw hr) C.hand rfl fun h'' F N => ?_))
  have D2 := ledSame D F N
  exact assignInOrder_cons (assign_Name (sto2 C.kind rfl ka nd D2 p1 fun h3 _ D3 => assignInOrder_cons (assign_Name (sto2 C.kind rfl kb nd D3 p2 fun h4 _ D4 => assignInOrder_nil (hq _ _ D4)))))
end
end
section
open PySem.W.X (Led)
/-- a dict object that holds just these names -/
def Flds (o : Obj) (l : List (Str × Value)) : Prop := ∃ es n, o = dictOf es n ∧ es.length = l.length ∧ (l.map (·.1)).Nodup ∧ es.any (·.refKey) = false ∧ ∀ nm, (es.find? (·.key.isStr nm)).map (·.val) = l.lookup nm
theorem lookup_none {l : List (Str × Value)} {nm : Str} (h : nm ∉ l.map (·.1)) : l.lookup nm = none := by
  rw [List.lookup_eq_none_iff]
  intro p hp
  have : nm ≠ p.1 := fun q => h (List.mem_map.mpr ⟨p, hp, q.symm⟩)
  simpa using this
theorem lookup_mem {l : List (Str × Value)} {nm : Str} {v : Value} (hn : (l.map (·.1)).Nodup) (h : (nm, v) ∈ l) : l.lookup nm = some v := by
  induction l with
  | nil => cases h
  | cons p l ih =>
    obtain ⟨k, u⟩ := p
    rw [List.map_cons, List.nodup_cons] at hn
    rw [List.lookup_cons]
    rcases List.mem_cons.mp h with e | h
    · cases e; simp
    · have : nm ≠ k := fun q => hn.1 (List.mem_map.mpr ⟨_, h, q⟩)
      have : (nm == k) = false := by simpa using this
      simp only [this]; exact ih hn.2 h
theorem Flds.get {o : Obj} {l : List (Str × Value)} {nm : Str} {v : Value} (F : Flds o l) (h : (nm, v) ∈ l) : ∃ es n, o = dictOf es n ∧ getL nm es = some (some v) := by
  obtain ⟨es, n, e, hl, hn, hr, hf⟩ := F
  refine ⟨es, n, e, ?_⟩
  have := hf nm
  rw [lookup_mem hn h] at this
  unfold getL
  cases q : es.find? (·.key.isStr nm) with
  | none => rw [q] at this; cases this
  | some x => rw [q] at this; simp only [Option.map_some, Option.some.injEq] at this; simp [this]
theorem Flds.miss {o : Obj} {l : List (Str × Value)} {nm : Str} (F : Flds o l) (h : nm ∉ l.map (·.1)) : ∃ es n, o = dictOf es n ∧ getL nm es = some none ∧ es.length = l.length := by
  obtain ⟨es, n, e, hl, hn, hr, hf⟩ := F
  refine ⟨es, n, e, ?_, hl⟩
  have := hf nm
  rw [lookup_none h] at this
  unfold getL
  cases q : es.find? (·.key.isStr nm) with
  | none => simp only [hr]; rfl
  | some x => rw [q] at this; cases this
theorem Flds.nil : Flds (dictOf [] 0) [] := ⟨[], 0, rfl, rfl, List.nodup_nil, rfl, fun _ => rfl⟩
theorem putL_len (name : Str) (hsh : Int) (key v : Value) : ∀ es : List DictEntry, getL name es = some none → putL name hsh key v es = es ++ [⟨hsh, key, v⟩]
  | [], _ => rfl
  | e :: r, h => by
    unfold getL at h
    rw [List.find?_cons] at h
    cases q : e.key.isStr name with
    | true => rw [q] at h; cases h
    | false =>
      rw [q] at h
      have h2 : getL name r = some none := by
        unfold getL
        cases z : r.find? (·.key.isStr name) with
        | some x => simp only [z] at h; cases h
        | none =>
          simp only [z] at h
          split at h
          · cases h
          · rename_i hr
            rw [List.any_cons, Bool.or_eq_true, not_or] at hr
            rw [if_neg hr.2]
      simp only [putL, q, Bool.false_eq_true, if_false, List.cons_append, List.cons.injEq, true_and]
      exact putL_len name hsh key v r h2
theorem putN_len (name : Str) (es : List DictEntry) (n : Nat) (h : getL name es = some none) : putN name es n = n + 1 := by
  unfold putN
  have : es.any (·.key.isStr name) = false := by
    unfold getL at h
    cases z : es.find? (·.key.isStr name) with
    | some x => rw [z] at h; cases h
    | none =>
      rw [List.find?_eq_none] at z
      cases q : es.any (·.key.isStr name) with
      | false => rfl
      | true =>
        obtain ⟨x, hx, hq⟩ := List.any_eq_true.mp q
        exact absurd hq (z x hx)
  rw [this]; rfl
theorem isStr_eq {a b : Str} {t : Tok} : (Value.str a t).isStr b = (b == a) := by
  show (a == b) = (b == a)
  by_cases h : a = b
  · simp [h]
  · have h2 : ¬ b = a := fun e => h e.symm
    have e1 : (a == b) = false := by simpa using h
    have e2 : (b == a) = false := by simpa using h2
    rw [e1, e2]
theorem Flds.set {es : List DictEntry} {n : Nat} {l : List (Str × Value)} {nm : Str} {v : Value} (hsh : Int) (tk : Tok) (F : Flds (dictOf es n) l) (h : nm ∉ l.map (·.1)) : getL nm es = some none ∧ es.length = l.length ∧ Flds (dictOf (putL nm hsh (.str nm tk) v es) (putN nm es n)) ((nm, v) :: l) := by
  obtain ⟨es', n', e, hg, hlen⟩ := F.miss h
  obtain ⟨es2, n2, e2, hl, hn, hr, hf⟩ := F
  have q := congrArg Obj.data e
  have q2 := congrArg Obj.data e2
  simp only [Data.dict.injEq] at q q2
  have q1 : es = es' := by have := congrArg Array.toList q.1; simpa using this
  have q3 : es = es2 := by have := congrArg Array.toList q2.1; simpa using this
  subst q1; subst q3
  refine ⟨hg, hlen, _, _, rfl, ?_, ?_, ?_, ?_⟩
  · rw [putL_len _ _ _ _ _ hg]; simp [hlen]
  · rw [List.map_cons, List.nodup_cons]; exact ⟨h, hn⟩
  · rw [putL_len _ _ _ _ _ hg, List.any_append, hr]; rfl
  · intro nm'
    rw [putL_len _ _ _ _ _ hg, List.find?_append, List.lookup_cons]
    have hf' := hf nm'
    by_cases e : nm' = nm
    · subst e
      have : l.lookup nm' = none := lookup_none h
      rw [this] at hf'
      cases z : es.find? (·.key.isStr nm') with
      | some x => rw [z] at hf'; cases hf'
      | none => simp [List.find?_cons, isStr_eq]
    · have e1 : (nm' == nm) = false := by simpa using e
      simp only [e1]
      rw [← hf']
      cases z : es.find? (·.key.isStr nm') with
      | some x => simp
      | none => simp [List.find?_cons, isStr_eq, e1]
/-- an instance of an own class: its names -/
def InstA (news : List (Addr × Obj)) (x C : Addr) (l : List (Str × Value)) : Prop := ∃ dx o, (x, instObj C dx) ∈ news ∧ (dx, o) ∈ news ∧ Flds o l
theorem InstA.mono {news news' : List (Addr × Obj)} {x C : Addr} {l : List (Str × Value)} (I : InstA news x C l) (h : ∀ p ∈ news, p ∈ news') : InstA news' x C l := let ⟨dx, o, a, b, c⟩ := I; ⟨dx, o, h _ a, h _ b, c⟩
def clsGet (K : Frag) (C : Addr) (nm : Str) : Bool := plainGet K C nm && hasDictIn K C && (match findIn K (.ref C) nm with | some a => noGet K a | none => false)
def clsSet (K : Frag) (C : Addr) (nm : Str) : Bool := findIn K (.ref C) "__setattr__" == some (some (.builtin "object.__setattr__")) && plainOver K C && takerIn K C nm == some none && hasDictIn K C
section
variable {w : World} {A : Around} {env : Env} {h₀ h : Heap} {g : Array GenState} {d : Drawn} {t : Nat} {os : OsState} {m : Str → Option Value} {news : List (Addr × Obj)} {n : Nat} {ns gs : List Str} {vs vs' : List (Option Value)} {x nm : Str} {v : Value} {pos xp : Pos} {E : Value → Shared → Prop} {a Cl dx : Addr} {l : List (Str × Value)} {o : Obj}
theorem gAttr {Q : Value → Shared → Prop} {b : Bool} (C : Cx w A env h₀ n) (D : Led h₀ env.locals m h news) (I : InstA news a Cl l) (hv : (nm, v) ∈ l) (hc : clsGet (hd.heap_39 w.params) Cl nm = true) (hh : handedIn v = true) (hq : ∀ t', Q v ⟨h, g, d, t', os⟩) :
    wpAny (model PG w) A (getAttr (.ref a) nm b) Q E ⟨h, g, d, t, os⟩ := by
  obtain ⟨dx, o, h1, h2, F⟩ := I
  obtain ⟨es, k, e, hg⟩ := F.get hv
  subst e
  simp only [clsGet, Bool.and_eq_true] at hc
  obtain ⟨⟨c1, c2⟩, c3⟩ := hc
  split at c3
  · rename_i at' hat
    exact get_own (s := ⟨h, g, d, t, os⟩) D.fr C.X (InstAt.of_news D.nw h1 h2) c1 c2 hat c3 hg hh (hq _)
  · cases c3
theorem attr_name (xp pos : Pos) (x nm : Str) (env : Env) : eval (.Attribute (.Name x xp) nm pos) env = (do
      let o ← eval (.Name x xp) env
      standAt pos.atName
      let r ← holding [o] (getAttr o nm true)
      letTemporaryGo (.Name x xp) o r
      pure r) := by with_unfolding_all rfl
theorem rAttr {Q : Value → Shared → Prop} (C : Cx w A env h₀ n) (fl : FnL ns gs env.scope) (D : Led h₀ env.locals (vec ns vs) h news) (h2 : At2 ns vs x (.ref a)) (I : InstA news a Cl l) (hv : (nm, v) ∈ l) (hc : clsGet (hd.heap_39 w.params) Cl nm = true) (hh : handedIn v = true)
    (hq : ∀ t', Q v ⟨h, g, d, t', os⟩) : wpAny (model PG w) A (eval (.Attribute (.Name x xp) nm pos) env) Q E ⟨h, g, d, t, os⟩ :=
  Attribute_Name_ (rLoc C fl D h2 (gAttr C D I hv hc hh hq)) (attr_name _ _ _ _ _)
theorem rSetA {Q : Unit → Shared → Prop} {news' : Obj → List (Addr × Obj)} (C : Cx w A env h₀ n) (D : Led h₀ env.locals m h news) (h1 : (a, instObj Cl dx) ∈ news) (F : Flds o l) (u : UpdG dx o news news') (hn : nm ∉ l.map (·.1)) (hlen : l.length < 900) (hc : clsSet (hd.heap_39 w.params) Cl nm = true)
    (hq : ∀ h' o' t', Flds o' ((nm, v) :: l) → Led h₀ env.locals m h' (news' o') → Q () ⟨h', g, d, t', os⟩) : wpAny (model PG w) A (setAttr (.ref a) nm v) Q E ⟨h, g, d, t, os⟩ := by
  obtain ⟨es, k, e, hg, hlen2⟩ := F.miss hn
  subst e
  simp only [clsSet, Bool.and_eq_true, beq_iff_eq] at hc
  obtain ⟨⟨⟨c1, c2⟩, c3⟩, c4⟩ := hc
  have hF := F.set (nm := nm) (v := v) (PyData.keyHash w.params nm) (t + 1) hn
  refine set_dict (s := ⟨h, g, d, t, os⟩) (es' := putL nm (PyData.keyHash w.params nm) (.str nm (t + 1)) v es) (n' := putN nm es k) D.fr C.X D.nw (InstAt.of_news D.nw h1 (u.at (dictOf [] 0)).mem) rfl c1 c2 c3 c4 (by rw [hg]; rfl) rfl ((u.at _).upd D.ord) (by rw [putL_len _ _ _ _ _ hg]; simp [hlen2]; omega) fun h' F' N' => ?_
  exact hq h' _ _ hF.2.2 (ledUpd D (u.at _) F' N')
/-- rSetA in the walker's form -/
theorem rSetA' {Q : Unit → Shared → Prop} {news' : Obj → List (Addr × Obj)} (C : Cx w A env h₀ n) (D : Led h₀ env.locals m h news) (h1 : (a, instObj Cl dx) ∈ news) (u : UpdG dx o news news') (F : Flds o l) (hn : l.all (fun p => !(p.1 == nm)) = true) (hlen : decide (l.length < 900) = true) (hc : clsSet (hd.heap_39 w.params) Cl nm = true)
    (hq : ∀ h' o' t', Flds o' ((nm, v) :: l) → Led h₀ env.locals m h' (news' o') → Q () ⟨h', g, d, t', os⟩) : wpAny (model PG w) A (setAttr (.ref a) nm v) Q E ⟨h, g, d, t, os⟩ :=
  rSetA C D h1 F u (fun q => by
    obtain ⟨p, hp, e⟩ := List.mem_map.mp q
    have := List.all_eq_true.mp hn p hp
    rw [e] at this; simp at this) (of_decide_eq_true hlen) hc hq
theorem rAttr2 {Q : Value → Shared → Prop} (C : Cx w A env h₀ n) (fl : FnL ns gs env.scope) (D : Led h₀ env.locals (vec ns vs) h news) (h2 : At2 ns vs x (.ref a)) (i1 : (a, instObj Cl dx) ∈ news) (i2 : (dx, o) ∈ news) (F : Flds o l) (hv : (nm, v) ∈ l) (hc : clsGet (hd.heap_39 w.params) Cl nm = true) (hh : handedIn v = true)
    (hq : ∀ t', Q v ⟨h, g, d, t', os⟩) : wpAny (model PG w) A (eval (.Attribute (.Name x xp) nm pos) env) Q E ⟨h, g, d, t, os⟩ :=
  rAttr C fl D h2 ⟨dx, o, i1, i2, F⟩ hv hc hh hq
end
end
section
open PySem.W.X (Led)
def Seq (M : Model) (A : Around) (rest : List Stmt) (env : Env) (Q : Flow → Shared → Prop) (E : Value → Shared → Prop) (f : Flow) (s : Shared) : Prop :=
  match f with
  | .next => wpAny M A (execs rest env) Q E s
  | f => Q f s
section
variable {M : Model} {A : Around} {env : Env} {rest : List Stmt} {st : Stmt} {Q : Flow → Shared → Prop} {E : Value → Shared → Prop} {s : Shared} {v : Value}
theorem rCons (h : wpAny M A (exec st env) (Seq M A rest env Q E) E s) : wpAny M A (execs (st :: rest) env) Q E s :=
  wpAny_execs_cons (wpAny_mono h (fun f s' q => by cases f <;> exact q) fun _ _ e => e)
theorem Seq.nx (h : wpAny M A (execs rest env) Q E s) : Seq M A rest env Q E .next s := h
theorem Seq.nil (h : Q .next s) : Seq M A [] env Q E .next s := wpAny_execs_nil h
theorem Seq.rt (h : Q (.ret v) s) : Seq M A rest env Q E (.ret v) s := h
def Br (b : Bool) (T F : Prop) : Prop := if b = true then T else F
theorem Br.y {b : Bool} {T F : Prop} (hb : b = true) (h : T) : Br b T F := by rw [Br, if_pos hb]; exact h
theorem Br.n {b : Bool} {T F : Prop} (hb : b = false) (h : F) : Br b T F := by rw [Br, if_neg (by rw [hb]; decide)]; exact h
theorem Br.sp {b : Bool} {T F : Prop} (h1 : b = true → T) (h2 : b = false → F) : Br b T F := by
  cases b with
  | true => exact h1 rfl
  | false => exact h2 rfl
theorem rIf {test : Expr} {body orelse : List Stmt} {pos : Pos} (h : wpAny M A (isTrue test env (eval test env)) (fun b s₂ => Br b (wpAny M A (execs body env) Q E s₂) (wpAny M A (execs orelse env) Q E s₂)) E s) : wpAny M A (exec (.If test body orelse pos) env) Q E s := wpAny_If h
theorem rIfE {test body orelse : Expr} {pos : Pos} {Q : Value → Shared → Prop} (h : wpAny M A (isTrue test env (eval test env)) (fun b s₂ => Br b (wpAny M A (eval body env) Q E s₂) (wpAny M A (eval orelse env) Q E s₂)) E s) : wpAny M A (eval (.IfExp test body orelse pos) env) Q E s := wpAny_IfExp h
theorem rAnd {x : Expr} {rest : List Expr} {pos : Pos} {whole : Sem Value} {Q : Bool → Shared → Prop} (h : wpAny M A (isTrue x env (eval x env)) (fun c s' => Br c (wpAny M A (isTrue (.BoolOp .And rest pos) env whole) Q E s') (Q false s')) E s) : wpAny M A (isTrue (.BoolOp .And (x :: rest) pos) env whole) Q E s := isTrue_and h
theorem rOr {x : Expr} {rest : List Expr} {pos : Pos} {whole : Sem Value} {Q : Bool → Shared → Prop} (h : wpAny M A (isTrue x env (eval x env)) (fun c s' => Br c (Q true s') (wpAny M A (isTrue (.BoolOp .Or rest pos) env whole) Q E s')) E s) : wpAny M A (isTrue (.BoolOp .Or (x :: rest) pos) env whole) Q E s := isTrue_or h
theorem rTr {x : Str} {p : Pos} {Q : Bool → Shared → Prop} (h : wpAny M A (eval (.Name x p) env) (fun v s₁ => wpAny M A (truthy v) Q E s₁) E s) : wpAny M A (isTrue (.Name x p) env (eval (.Name x p) env)) Q E s := isTrue_plain h
theorem rTrC {f : Expr} {as : List Expr} {ks : List Keyword} {p : Pos} {Q : Bool → Shared → Prop} (h : wpAny M A (eval (.Call f as ks p) env) (fun v s₁ => wpAny M A (truthy v) Q E s₁) E s) : wpAny M A (isTrue (.Call f as ks p) env (eval (.Call f as ks p) env)) Q E s := isTrue_plain h
end
section
variable {w : World} {A : Around} {env : Env} {h₀ h : Heap} {g : Array GenState} {d : Drawn} {t : Nat} {os : OsState} {m : Str → Option Value} {news : List (Addr × Obj)} {n : Nat} {E : Value → Shared → Prop} {Q : Value → Shared → Prop} {i : Int} {ti : Tok} {x : Addr} {Cl : Addr} {l : List (Str × Value)}
theorem nfrac (w : World) : isNotIn (hd.heap_39 w.params) "int" 305 = true := by kernel_rfl!
theorem isiI (C : Cx w A env h₀ n) (D : Led h₀ env.locals m h news) (hq : ∀ t', Q (.bool false) ⟨h, g, d, t', os⟩) : wpAny (model PG w) A (call (.builtin "isinstance") [.int i ti, .ref 305]) Q E ⟨h, g, d, t, os⟩ :=
  isn_call (s := ⟨h, g, d, t, os⟩) (P := fun _ => True) (C.X.keeps D.fr.keep) (by intro M; exact Looks.of_pure rfl) (nfrac w) (by intro e; cases e) trivial int_cls (hq _)
theorem isiO2 {dx : Addr} {o : Obj} (C : Cx w A env h₀ n) (D : Led h₀ env.locals m h news) (i1 : (x, instObj Cl dx) ∈ news) (i2 : (dx, o) ∈ news) (hi : isIn (hd.heap_39 w.params) (.ref Cl) Cl = true) (hq : Q (.bool true) ⟨h, g, d, t, os⟩) : wpAny (model PG w) A (call (.builtin "isinstance") [.ref x, .ref Cl]) Q E ⟨h, g, d, t, os⟩ :=
  isi_call (s := ⟨h, g, d, t, os⟩) (C.X.keeps D.fr.keep) (by intro M; exact InstAt.type (InstAt.of_news D.nw i1 i2)) hi (by intro e; cases e) hq
theorem isiO (C : Cx w A env h₀ n) (D : Led h₀ env.locals m h news) (I : InstA news x Cl l) (hi : isIn (hd.heap_39 w.params) (.ref Cl) Cl = true) (hq : Q (.bool true) ⟨h, g, d, t, os⟩) : wpAny (model PG w) A (call (.builtin "isinstance") [.ref x, .ref Cl]) Q E ⟨h, g, d, t, os⟩ := by
  obtain ⟨dx, o, h1, h2, _⟩ := I
  exact isi_call (s := ⟨h, g, d, t, os⟩) (C.X.keeps D.fr.keep) (by intro M; exact InstAt.type (InstAt.of_news D.nw h1 h2)) hi (by intro e; cases e) hq
theorem isiII (hq : ∀ t', Q (.bool true) ⟨h, g, d, t', os⟩) : wpAny (model PG w) A (call (.builtin "isinstance") [.int i ti, .type "int"]) Q E ⟨h, g, d, t, os⟩ := IsiPair.int_int (by first | exact hq _ | exact fun _ => hq _)
end
/-- a Fraction object that tells the ratio q -/
def FracV (news : List (Addr × Obj)) (v : Value) (q : Rat) : Prop := ∃ x dx o t1 t2, v = .ref x ∧ (x, instObj 305 dx) ∈ news ∧ (dx, o) ∈ news ∧ Flds o [("denominator", .int q.den t2), ("numerator", .int q.num t1)]
theorem FracV.mono {news news' : List (Addr × Obj)} {v : Value} {q : Rat} (F : FracV news v q) (h : ∀ p ∈ news, p ∈ news') : FracV news' v q := let ⟨x, dx, o, t1, t2, e, a, b, c⟩ := F; ⟨x, dx, o, t1, t2, e, h _ a, h _ b, c⟩
/-- a number: an int or a Fraction object -/
def NumV (news : List (Addr × Obj)) (v : Value) (q : Rat) : Prop := (∃ i t, v = .int i t ∧ q = ((i : Int) : Rat)) ∨ FracV news v q
theorem NumV.mono {news news' : List (Addr × Obj)} {v : Value} {q : Rat} (F : NumV news v q) (h : ∀ p ∈ news, p ∈ news') : NumV news' v q := F.imp id fun F => F.mono h
/-- what a computation gives -/
def SpecT (w : World) (c : Sem Value) (n : Nat) (Pre : List (Addr × Obj) → Prop) (Out : List (Addr × Obj) → Value → List (Addr × Obj) → Prop) : Prop :=
  ∀ (A : Around) (env : Env) (h₀ : Heap) (m : Str → Option Value) (news : List (Addr × Obj)) (h : Heap) (g : Array GenState) (d : Drawn) (t : Nat) (os : OsState) (Q E : Value → Shared → Prop), Cx w A env h₀ n → Led h₀ env.locals m h news → Pre news →
    (∀ r tl h' t', Led h₀ env.locals m h' (tl ++ news) → Out news r tl → Q r ⟨h', g, d, t', os⟩) → wpAny (model PG w) A c Q E ⟨h, g, d, t, os⟩
theorem SpecT.use {w : World} {c : Sem Value} {n k : Nat} {Pre : List (Addr × Obj) → Prop} {Out : List (Addr × Obj) → Value → List (Addr × Obj) → Prop} {A : Around} {env : Env} {h₀ : Heap} {m : Str → Option Value} {news : List (Addr × Obj)} {h : Heap} {g : Array GenState} {d : Drawn} {t : Nat} {os : OsState} {Q E : Value → Shared → Prop}
    (S : SpecT w c n Pre Out) (C : Cx w A env h₀ k) (D : Led h₀ env.locals m h news) (hk : n ≤ k) (P : Pre news) (hq : ∀ r tl h' t', Led h₀ env.locals m h' (tl ++ news) → Out news r tl → Q r ⟨h', g, d, t', os⟩) : wpAny (model PG w) A c Q E ⟨h, g, d, t, os⟩ :=
  S A env h₀ m news h g d t os Q E (C.le hk) D P hq
theorem Spec.t {w : World} {f : Value} {vs : List Value} {kw : List (Str × Value)} {n : Nat} {Pre : List (Addr × Obj) → Prop} {Out : List (Addr × Obj) → Value → List (Addr × Obj) → Prop} (S : Spec w f vs kw n Pre Out) : SpecT w (call f vs kw) n Pre Out := S
end
section
open PySem.W.X (Led)
/-- a turn's end: the loop's word holds anew, the measure fell -/
def WEnd (h₀ : Heap) (L : Addr) (ns : List Str) (g : Array GenState) (d : Drawn) (os : OsState) (J : Nat → List (Option Value) → List (Addr × Obj) → Prop) (Q : Flow → Shared → Prop) (k : Nat) (f : Flow) (s : Shared) : Prop :=
  match f with
  | .next | .cont => ∃ h' t' vs' news' k', s = ⟨h', g, d, t', os⟩ ∧ Led h₀ L (vec ns vs') h' news' ∧ k' < k ∧ J k' vs' news'
  | .brk => Q .next s
  | .ret v => Q (.ret v) s
theorem WEnd.mk {h₀ h : Heap} {L : Addr} {ns : List Str} {g : Array GenState} {d : Drawn} {t : Nat} {os : OsState} {J : Nat → List (Option Value) → List (Addr × Obj) → Prop} {Q : Flow → Shared → Prop} {k k' : Nat} {vs : List (Option Value)} {news : List (Addr × Obj)}
    (D : Led h₀ L (vec ns vs) h news) (hk : k' < k) (hJ : J k' vs news) : WEnd h₀ L ns g d os J Q k .next ⟨h, g, d, t, os⟩ := ⟨h, t, vs, news, k', rfl, D, hk, hJ⟩
section
variable {w : World} {A : Around} {env : Env} {h₀ h : Heap} {g : Array GenState} {d : Drawn} {t : Nat} {os : OsState} {news : List (Addr × Obj)} {ns : List Str} {vs : List (Option Value)} {pos : Pos} {Q : Flow → Shared → Prop}
theorem rWhile {test : Expr} {body : List Stmt} (J : Nat → List (Option Value) → List (Addr × Obj) → Prop) (k₀ : Nat) (D : Led h₀ env.locals (vec ns vs) h news) (hJ : J k₀ vs news)
    (turn : ∀ k vs news h t, Led h₀ env.locals (vec ns vs) h news → J k vs news →
      wpAny (model PG w) A (isTrue test env (eval test env)) (fun b s₂ => Br b (wpAny (model PG w) A (execs body env) (WEnd h₀ env.locals ns g d os J Q k) (fun _ _ => False) s₂) (Q .next s₂)) (fun _ _ => False) ⟨h, g, d, t, os⟩) :
    wpAny (model PG w) A (exec (.While test body [] pos) env) Q (fun _ _ => False) ⟨h, g, d, t, os⟩ := by
  refine wpAny_While (codeAny_whileLoop (fun k s' => ∃ h₁ t₁ vs₁ news₁, s' = ⟨h₁, g, d, t₁, os⟩ ∧ Led h₀ env.locals (vec ns vs₁) h₁ news₁ ∧ J k vs₁ news₁) ?_ k₀ ⟨h, t, vs, news, rfl, D, hJ⟩)
  rintro k s' ⟨h₁, t₁, vs₁, news₁, rfl, D₁, J₁⟩
  refine wpAny_mono (turn k vs₁ news₁ h₁ t₁ D₁ J₁) (fun b s₂ h₂ => ?_) (fun _ _ e => e.elim)
  cases b with
  | false =>
    simp only [Br, Bool.false_eq_true, if_false] at h₂ ⊢
    exact wpAny_execs_nil h₂
  | true =>
    simp only [Br, if_true] at h₂ ⊢
    refine wpAny_mono h₂ (fun f s₃ h₃ => ?_) (fun _ _ e => e.elim)
    cases f with
    | next =>
      obtain ⟨h', t', vs', news', k', rfl, D', hk, hJ'⟩ := h₃
      exact ⟨k', hk, h', t', vs', news', rfl, D', hJ'⟩
    | cont =>
      obtain ⟨h', t', vs', news', k', rfl, D', hk, hJ'⟩ := h₃
      exact ⟨k', hk, h', t', vs', news', rfl, D', hJ'⟩
    | brk => exact h₃
    | ret v => exact h₃
end
end
section
open PySem.W.X (Led)
open PyProof.Rows PySem.Calls PySem.Spec
section
variable {M : Model} {A : Around} {E : Value → Shared → Prop} {s : Shared} {env : Env}
theorem oNot {b : Bool} {Q : Value → Shared → Prop} (h : Q (.bool (!b)) s) : wpAny M A (unaryOp .Not (.bool b)) Q E s := by
  unfold unaryOp
  exact wpAny_holding (wpAny_bind (wpAny_truthy_bool (wpAny_pure h)))
theorem rAndV {e₁ e₂ rest pos} {Q : Value → Shared → Prop}
    (h : wpAny M A (eval e₁ env) (fun v s₁ => wpAny M A (truthy v) (fun c s₂ => Br c (wpAny M A (eval (.BoolOp .And (e₂ :: rest) pos) env) Q E s₂) (Q v s₂)) E s₁) E s) :
    wpAny M A (eval (.BoolOp .And (e₁ :: e₂ :: rest) pos) env) Q E s := BoolOp_and h
theorem rOrV {e₁ e₂ rest pos} {Q : Value → Shared → Prop}
    (h : wpAny M A (eval e₁ env) (fun v s₁ => wpAny M A (truthy v) (fun c s₂ => Br c (Q v s₂) (wpAny M A (eval (.BoolOp .Or (e₂ :: rest) pos) env) Q E s₂)) E s₁) E s) :
    wpAny M A (eval (.BoolOp .Or (e₁ :: e₂ :: rest) pos) env) Q E s := BoolOp_or h
theorem rOneV {op e pos} {Q : Value → Shared → Prop} (h : wpAny M A (eval e env) Q E s) : wpAny M A (eval (.BoolOp op [e] pos) env) Q E s := h
end
section
variable {w : World} {A : Around} {env : Env} {h₀ h : Heap} {g : Array GenState} {d : Drawn} {t : Nat} {os : OsState} {m : Str → Option Value} {news : List (Addr × Obj)} {n : Nat} {E : Value → Shared → Prop} {Q : Value → Shared → Prop}
theorem isiTI {i : Int} {ti : Tok} {tp : Addr} {its : List Value} (C : Cx w A env h₀ n) (D : Led h₀ env.locals m h news) (ht : (tp, tupO its) ∈ news) (e : kitAny (hd.heap_39 w.params) (.type "int") its = some true) (hq : ∀ t', Q (.bool true) ⟨h, g, d, t', os⟩) :
    wpAny (model PG w) A (call (.builtin "isinstance") [.int i ti, .ref tp]) Q E ⟨h, g, d, t, os⟩ :=
  kia_tup kitx_int (C.X.keeps D.fr.keep) trivial (D.nw.get ht) e (by intro q; cases q) fun tk => hq tk
theorem isiTO {x dx : Addr} {o : Obj} {tp : Addr} {its : List Value} (C : Cx w A env h₀ n) (D : Led h₀ env.locals m h news) (i1 : (x, instObj 305 dx) ∈ news) (i2 : (dx, o) ∈ news) (ht : (tp, tupO its) ∈ news) (e : kitAny (hd.heap_39 w.params) (.ref 305) its = some true) (hq : ∀ t', Q (.bool true) ⟨h, g, d, t', os⟩) :
    wpAny (model PG w) A (call (.builtin "isinstance") [.ref x, .ref tp]) Q E ⟨h, g, d, t, os⟩ :=
  kia_tup (kitx_own (by kernel_rfl!) (by kernel_rfl!) (by kernel_rfl!) (by kernel_rfl!) (by kernel_rfl!) (by kernel_rfl!)) (C.X.keeps D.fr.keep) (InstAt.of_news D.nw i1 i2) (D.nw.get ht) e (by intro q; cases q) fun tk => hq tk
theorem eqTup2 {a b : Addr} {x1 x2 y1 y2 : Int} {s1 s2 s3 s4 : Tok} (C : Cx w A env h₀ (n + 2)) (D : Led h₀ env.locals m h news) (ha : (a, tupO [.int x1 s1, .int x2 s2]) ∈ news) (hb : (b, tupO [.int y1 s3, .int y2 s4]) ∈ news) (hq : Q (.bool (decide (x1 = y1 ∧ x2 = y2))) ⟨h, g, d, t, os⟩) :
    wpAny (model PG w) A (compareOp .Eq (.ref a) (.ref b)) Q E ⟨h, g, d, t, os⟩ := by
  refine eq_dataH (s := ⟨h, g, d, t, os⟩) (reads_tuple_at (xs := [.int x1, .int x2]) (D.nw.get ha) rfl rfl (.cons (.int _ _) (.cons (.int _ _) .nil))) (reads_tuple_at (xs := [.int y1, .int y2]) (D.nw.get hb) rfl rfl (.cons (.int _ _) (.cons (.int _ _) .nil))) rfl rfl (by have := C.units; omega) ?_
  have e : PyData.eqv (.tuple [.int x1, .int x2]) (.tuple [.int y1, .int y2]) = decide (x1 = y1 ∧ x2 = y2) := by
    simp only [PyData.eqv, PyData.eqvAll]
    by_cases h1 : x1 = y1 <;> by_cases h2 : x2 = y2 <;> simp [h1, h2]
  rw [e]; exact hq
end
end
section
open PySem.W.X (Led)
open PyProof.Rows PySem.Calls PySem.Spec
theorem ledAt {h₀ h h' : Heap} {L I : Addr} {m : Str → Option Value} {pre post : List (Addr × Obj)} {o o' : Obj} (D : Led h₀ L m h (pre ++ (I, o) :: post)) (hx : ∀ b o, b ≠ I → h.get? b = some o → h'.get? b = some o) (ho : h'.get? I = some o') : Led h₀ L m h' (pre ++ (I, o') :: post) := by
  have hm : (I, o) ∈ pre ++ (I, o) :: post := List.mem_append_right _ (.head _)
  obtain ⟨hP1, hP2, hP3⟩ := D.nw _ hm
  have hne : ∀ p ∈ pre ++ (I, o) :: post, p = (I, o) ∨ p.1 ≠ I := fun p hp => by
    by_cases e : p.1 = I
    · left
      have h1 := (D.nw p hp).1
      rw [e, hP1] at h1
      obtain ⟨a, b⟩ := p
      simp only at e h1
      cases e; cases h1; rfl
    · exact .inr e
  have dpre : ∀ p ∈ pre, p.1 ≠ I := fun p hp e => by
    have := D.ord
    rw [List.map_append, List.pairwise_append] at this
    have := this.2.2 p.1 (List.mem_map_of_mem hp) I (by simp)
    rw [e] at this; exact Nat.lt_irrefl _ this
  have dpost : ∀ p ∈ post, p.1 ≠ I := fun p hp e => by
    have := D.ord
    rw [List.map_append, List.pairwise_append, List.map_cons, List.pairwise_cons] at this
    have := this.2.1.1 p.1 (List.mem_map_of_mem hp)
    rw [e] at this; exact Nat.lt_irrefl _ this
  refine ⟨⟨?_, fun b o e => hx b o (fun q => by rw [q, hP3] at e; cases e) (D.fr.keep b o e), D.fr.above⟩, fun p hp => ?_, ?_⟩
  · obtain ⟨oL, es, ep, hL, r⟩ := D.fr.ns
    exact ⟨oL, es, ep, hx _ _ (fun q => hP2 q.symm) hL, r⟩
  · rcases List.mem_append.mp hp with hp | hp
    · have := D.nw p (List.mem_append_left _ hp); exact ⟨hx _ _ (dpre p hp) this.1, this.2⟩
    · rcases List.mem_cons.mp hp with rfl | hp
      · exact ⟨ho, hP2, hP3⟩
      · have := D.nw p (List.mem_append_right _ (.tail _ hp)); exact ⟨hx _ _ (dpost p hp) this.1, this.2⟩
  · have := D.ord; simpa using this
theorem ledDel {h₀ h h' : Heap} {L I : Addr} {m : Str → Option Value} {pre post : List (Addr × Obj)} {o : Obj} (D : Led h₀ L m h (pre ++ (I, o) :: post)) (hx : ∀ b o, b ≠ I → h.get? b = some o → h'.get? b = some o) : Led h₀ L m h' (pre ++ post) := by
  have hm : (I, o) ∈ pre ++ (I, o) :: post := List.mem_append_right _ (.head _)
  obtain ⟨hP1, hP2, hP3⟩ := D.nw _ hm
  have dpre : ∀ p ∈ pre, p.1 ≠ I := fun p hp e => by
    have := D.ord
    rw [List.map_append, List.pairwise_append] at this
    have := this.2.2 p.1 (List.mem_map_of_mem hp) I (by simp)
    rw [e] at this; exact Nat.lt_irrefl _ this
  have dpost : ∀ p ∈ post, p.1 ≠ I := fun p hp e => by
    have := D.ord
    rw [List.map_append, List.pairwise_append, List.map_cons, List.pairwise_cons] at this
    have := this.2.1.1 p.1 (List.mem_map_of_mem hp)
    rw [e] at this; exact Nat.lt_irrefl _ this
  refine ⟨⟨?_, fun b o e => hx b o (fun q => by rw [q, hP3] at e; cases e) (D.fr.keep b o e), D.fr.above⟩, fun p hp => ?_, ?_⟩
  · obtain ⟨oL, es, ep, hL, r⟩ := D.fr.ns
    exact ⟨oL, es, ep, hx _ _ (fun q => hP2 q.symm) hL, r⟩
  · rcases List.mem_append.mp hp with hp | hp
    · have := D.nw p (List.mem_append_left _ hp); exact ⟨hx _ _ (dpre p hp) this.1, this.2⟩
    · have := D.nw p (List.mem_append_right _ (.tail _ hp)); exact ⟨hx _ _ (dpost p hp) this.1, this.2⟩
  · have := D.ord
    rw [List.map_append, List.map_cons, List.pairwise_append, List.pairwise_cons] at this
    rw [List.map_append, List.pairwise_append]
    exact ⟨this.1, this.2.1.2, fun a ha b hb => this.2.2 a ha b (List.mem_cons_of_mem _ hb)⟩
end
section
open PySem.W.X (Led)
open PyProof.Rows PySem.Calls PySem.Spec
set_option pp.deepTerms false
/-- a comprehension's word: how far, the list so far, the names, the ledger over and under the list, the generators -/
abbrev CInv := Nat → List Value → List (Option Value) → List (Addr × Obj) → List (Addr × Obj) → Array GenState → Prop
abbrev lstO (ys : List Value) (e : Nat) : Obj := { cls := .type "list", data := .seq ys.toArray e }
theorem vecN (rest : List Str) : vec rest (rest.map fun _ => none) = fun _ => none := by
  funext y
  induction rest with
  | nil => rfl
  | cons r rest ih =>
    simp only [List.map_cons, vec]
    split
    · rfl
    · exact ih
def CSt (gB : Heap) (C D : Addr) (xs : List Str) (d : Drawn) (os : OsState) (k : Nat) (ys : List Value) (P : Nat → List (Option Value) → List (Addr × Obj) → List (Addr × Obj) → Array GenState → Prop) (s : Shared) : Prop :=
  ∃ h g t vs pre post e k', s = ⟨h, g, d, t, os⟩ ∧ Led gB C (vec xs vs) h (pre ++ (D, lstO ys e) :: post) ∧ k' < k ∧ P k' vs pre post g
section
variable {w : World} {A : Around} {R : Result → Shared → Prop} {s : Shared}
theorem compLoopG {elt target iter : Expr} {ifs : List Expr} {scope : Scope} {pos : Pos} {it acc : Value} {env : Env} (I : Nat → Shared → Prop)
    (turn : ∀ n s, I n s → wpAny (model PG w) A (pyNext it) (fun r s₁ => match r with
      | none => R (.ok .next) s₁
      | some v => wpAny (model PG w) A (letOwnedTupleGo target it v) (fun _ s₁' => wpAny (model PG w) A (assign target env v) (fun _ s₂ =>
          wpAny (model PG w) A (forIn ifs true fun c r => if r = true then do let ok ← isTrue c env (eval c env); pure (ForInStep.yield ok) else pure (ForInStep.yield r)) (fun ok s₃ =>
            if ok = true then wpAny (model PG w) A (eval elt env) (fun x s₄ =>
              wpAny (model PG w) A (call (.builtin "list.append") [acc, x]) (fun _ s₅ => ∃ m, m < n ∧ I m s₅) (fun _ _ => False) s₄) (fun _ _ => False) s₃
            else ∃ m, m < n ∧ I m s₃) (fun _ _ => False) s₂) (fun _ _ => False) s₁') (fun _ _ => False) s₁) (fun _ _ => False) s)
    (n : Nat) (h : I n s) : codeAny (model PG w) A (.compLoop (.ListComp elt [⟨target, iter, ifs, 0⟩] scope pos) 0 it acc env) R s := by
  refine codeAny_loop rfl I (fun n s hI => ?_) n h
  show wpAny _ A ((compTurn (.ListComp elt [⟨target, iter, ifs, 0⟩] scope pos) 0 it acc env).onRaise (fun x => do noteFrame x env; theTreesLotGoes x)) _ _ s
  refine wpAny_noted ?_
  rw [compTurn_list]
  refine wpAny_bind (wpAny_standAt (wpAny_bind (wpAny_mono (turn n s hI) (fun r s₁ h₁ => ?_) fun _ _ e => e.elim)))
  cases r with
  | none => exact wpAny_pure h₁
  | some v =>
    refine wpAny_bind (wpAny_mono h₁ (fun _ s₁' h₁' => ?_) fun _ _ e => e.elim)
    refine wpAny_bind (wpAny_mono h₁' (fun _ s₂ h₂ => wpAny_bind (wpAny_mono h₂ (fun ok s₃ h₃ => ?_) fun _ _ e => e.elim)) fun _ _ e => e.elim)
    cases ok with
    | false => exact wpAny_pure ⟨rfl, h₃⟩
    | true =>
      exact wpAny_bind (wpAny_bind (wpAny_mono h₃ (fun x s₄ h₄ => wpAny_bind (wpAny_mono h₄ (fun _ s₅ h₅ => wpAny_pure (wpAny_pure ⟨rfl, h₅⟩)) fun _ _ e => e.elim)) fun _ _ e => e.elim))
end
/-- a turn of the comprehension -/
def CTurn (w : World) (A : Around) (gB : Heap) (C D : Addr) (xs : List Str) (d : Drawn) (os : OsState) (target elt : Expr) (ifs : List Expr) (env' : Env) (I : Addr) (J : CInv) (Fin : List Value → List (Addr × Obj) → List (Addr × Obj) → Array GenState → Prop) (k : Nat) (ys : List Value) (s : Shared) : Prop :=
  wpAny (model PG w) A (pyNext (.ref I)) (fun r s₁ => match r with
      | none => CSt gB C D xs d os 1 ys (fun _ _ pre post g => Fin ys pre post g) s₁
      | some v => wpAny (model PG w) A (letOwnedTupleGo target (.ref I) v) (fun _ s₁' => wpAny (model PG w) A (assign target env' v) (fun _ s₂ =>
          wpAny (model PG w) A (forIn ifs true fun c r => if r = true then do let ok ← isTrue c env' (eval c env'); pure (ForInStep.yield ok) else pure (ForInStep.yield r)) (fun ok s₃ =>
            Br ok (wpAny (model PG w) A (eval elt env') (fun x s₄ => ys.length < 1000000 ∧ CSt gB C D xs d os k ys (fun k' vs pre post g => J k' (ys ++ [x]) vs pre post g) s₄) (fun _ _ => False) s₃)
              (CSt gB C D xs d os k ys (fun k' vs pre post g => J k' ys vs pre post g) s₃)) (fun _ _ => False) s₂) (fun _ _ => False) s₁') (fun _ _ => False) s₁) (fun _ _ => False) s
section
variable {w : World} {A : Around} {env : Env} {h₀ h : Heap} {g : Array GenState} {d : Drawn} {t : Nat} {os : OsState} {m : Str → Option Value} {news : List (Addr × Obj)} {n : Nat} {E : Value → Shared → Prop}
theorem ledApp1 {gB h : Heap} {C D : Addr} {m : Str → Option Value} {pre post : List (Addr × Obj)} {ys : List Value} {e : Nat} {x : Value} {g : Array GenState} {d : Drawn} {t : Nat} {os : OsState} {Q : Value → Shared → Prop} {E : Value → Shared → Prop} (DL : Led gB C m h (pre ++ (D, lstO ys e) :: post)) (hsz : ys.length < 1000000)
    (hq : ∀ h', Led gB C m h' (pre ++ (D, lstO (ys ++ [x]) (e + 1)) :: post) → Q .none ⟨h', g, d, t, os⟩) : wpAny (model PG w) A (call (.builtin "list.append") [.ref D, x]) Q E ⟨h, g, d, t, os⟩ := by
  refine append_at (s := ⟨h, g, d, t, os⟩) (its := ys.toArray) (n := e) (DL.nw (D, lstO ys e) (List.mem_append_right _ (.head _))).1 (fun h' hs ho' => ?_) (by rw [List.size_toArray, sizeLine_eq]; omega)
  have := ledAt DL hs.extBut ho'
  refine hq h' ?_
  simpa [lstO] using this
/-- the block of a comprehension: its frame, its loop -/
theorem compBlock {elt target iter : Expr} {ifs : List Expr} {scope : Scope} {cl : List (Str × Addr)} {pos : Pos} {xs gs : List Str} {I : Addr} (J : CInv) (Fin : List Value → List (Addr × Obj) → List (Addr × Obj) → Array GenState → Prop) (k₀ : Nat) {RR : Value → Addr → Result → Shared → Prop}
    (Cx0 : Cx w A env h₀ n) (DL : Led h₀ env.locals m h news) (hcell : ∀ y ∈ scope.names, y.2 ≠ .cell) (hkind : scope.kind = .function) (hfl : fnl xs gs (relabel scope env) = true)
    (hself : ∀ (h : Heap) (g : Array GenState) (t : Nat) {Q : Value → Shared → Prop} {E : Value → Shared → Prop}, (∀ p ∈ news, h.get? p.1 = some p.2) → (∀ b o, h₀.get? b = some o → h.get? b = some o) → Q (.ref I) ⟨h, g, d, t, os⟩ → wpAny (model PG w) A (pyIter (.ref I)) Q E ⟨h, g, d, t, os⟩)
    (hJ : J k₀ [] (xs.map fun _ => none) [] news g)
    (turn : ∀ gB C D env' k ys vs pre post e h g t, env' = compEnvC scope cl C env → (∀ p ∈ news, p.1 < D) → D < C → Cx w A env' gB n → FnL xs gs env'.scope → J k ys vs pre post g → Led gB env'.locals (vec xs vs) h (pre ++ (D, lstO ys e) :: post) →
      CTurn w A gB env'.locals D xs d os target elt ifs env' I J Fin k ys ⟨h, g, d, t, os⟩)
    (hRR : ∀ D C h' t' g' mC ys pre post e, (∀ p ∈ news, p.1 < D) → D < C → h'.Ns C mC → Fin ys pre post g' → Led h₀ env.locals m h' (pre ++ (D, lstO ys e) :: post) → (∀ p ∈ pre ++ (D, lstO ys e) :: post, p.1 ≠ C) → C ≠ env.locals → h₀.get? C = none → RR (.ref D) C (.ok .next) ⟨h', g', d, t', os⟩) :
    wpAny (model PG w) A (newList []) (fun acc s₃ => wpAny (model PG w) A (newFunctionEnv scope env.globals cl [] env.qual none .none (some env)) (fun cenv s₄ =>
      codeAny (model PG w) A (.compStart (.ListComp elt [⟨target, iter, ifs, 0⟩] scope pos) 0 (.ref I) acc { cenv with scope := relabel scope env }) (RR acc cenv.locals) s₄) E s₃) E ⟨h, g, d, t, os⟩ := by
  refine newList_K (s := ⟨h, g, d, t, os⟩) (vs := []) DL.fr DL.nw (fun D h1 F1 N1 lt => ?_) (by simp)
  have D1 : Led h₀ env.locals m h1 ((D, lstO [] 0) :: news) := ledCons DL F1 N1 lt
  have st := (groundY (R := fun _ _ => True) D1.fr D1.nw).2.1
  obtain ⟨p, loose, mean, mg, mb, T⟩ := Cx0.top
  have fl := FnL.of hfl
  refine wpAny_newFunctionEnv hcell (by intro y hy; simp at hy) (fun h2 hns hsb => ?_) hkind
  dsimp only at hns hsb ⊢
  have hDlt : ∀ p ∈ (D, lstO [] 0) :: news, p.1 < h1.objs.size := fun p hp => Heap.lt_size (D1.nw p hp).1
  have keep : ∀ b o, h1.get? b = some o → h2.get? b = some o := fun b o e => hsb.extBut b o (Nat.ne_of_lt (Heap.lt_size e)) (Heap.get?_push_of_some _ e)
  generalize hgB : hideAll h1 (((D, lstO [] 0) :: news).map (·.1)) = gB at st
  have hL1 : env.locals < h1.objs.size := by obtain ⟨oL, es, ep, hL, r⟩ := D1.fr.ns; exact Heap.lt_size hL
  have hD2 : Led gB h1.objs.size (vec xs (xs.map fun _ => none)) h2 ([] ++ (D, lstO [] 0) :: news) := by
    refine ⟨⟨by rw [vecN]; exact hns, fun b o e => keep b o (of_hideAll _ (hgB ▸ e)), by rw [← hgB]; exact Nat.le_of_eq (hideAll_size _ _)⟩, fun p hp => ⟨keep _ _ (D1.nw p hp).1, Nat.ne_of_lt (hDlt p hp), by rw [← hgB]; exact hideAll_none _ (List.mem_map_of_mem hp)⟩, D1.ord⟩
  have hC : Cx w A (compEnvC scope cl h1.objs.size env) gB n := by
    refine ⟨fun l hl => ?_, Cx0.glo, Cx0.bui, fl.kind, Cx0.X.keeps st, ⟨p, loose, mean, mg, mb, T.keeps st⟩, Cx0.hand, Cx0.room, Cx0.units⟩
    obtain ⟨base, B⟩ := Cx0.ground D1 l hl
    exact .inr ⟨A, base, hgB ▸ B⟩
  have loop : codeAny (model PG w) A (.compLoop (.ListComp elt [⟨target, iter, ifs, 0⟩] scope pos) 0 (.ref I) (.ref D) (compEnvC scope cl h1.objs.size env)) (RR (.ref D) h1.objs.size) ⟨h2, g, d, t, os⟩ := by
    refine compLoopG (fun k s' => ∃ h g t vs pre post e ys, s' = ⟨h, g, d, t, os⟩ ∧ Led gB h1.objs.size (vec xs vs) h (pre ++ (D, lstO ys e) :: post) ∧ J k ys vs pre post g) ?_ k₀ ⟨h2, g, t, _, [], news, 0, [], rfl, hD2, hJ⟩
    rintro k s' ⟨h3, g3, t3, vs, pre, post, e, ys, rfl, D3, J3⟩
    refine wpAny_mono (turn gB h1.objs.size D _ k ys vs pre post e h3 g3 t3 rfl (fun p hp => lt p hp) (hDlt _ (.head _)) hC fl J3 D3) (fun r s₁ q => ?_) fun _ _ e => e.elim
    cases r with
    | none =>
      obtain ⟨h4, g4, t4, vs4, pre4, post4, e4, k4, rfl, D4, _, f4⟩ := q
      refine (groundY (R := fun _ _ => RR (.ref D) h1.objs.size (.ok .next) ⟨h4, g4, d, t4, os⟩) D1.fr D1.nw).2.2 .none ⟨h4, g4, d, t4, os⟩ ⟨h1.objs.size, _, _, hgB ▸ D4.fr, hgB ▸ D4.nw, fun F N => ?_⟩
      refine hRR D h1.objs.size h4 t4 g4 _ ys pre4 post4 e4 (fun p hp => lt p hp) (hDlt _ (.head _)) D4.fr.ns f4 ⟨F, N, D4.ord⟩ (fun p hp => (D4.nw p hp).2.1) (Nat.ne_of_gt hL1) ?_
      cases q : h₀.get? h1.objs.size with
      | none => rfl
      | some o => exact absurd (Heap.lt_size (D1.fr.keep _ _ q)) (Nat.lt_irrefl _)
    | some v =>
      refine wpAny_mono q (fun _ s2 q => wpAny_mono q (fun _ s3 q => wpAny_mono q (fun ok s4 q => ?_) fun _ _ e => e.elim) fun _ _ e => e.elim) fun _ _ e => e.elim
      cases ok with
      | false =>
        obtain ⟨h5, g5, t5, vs5, pre5, post5, e5, k5, rfl, D5, l5, j5⟩ := (q : CSt _ _ _ _ _ _ _ _ _ _)
        exact ⟨k5, l5, h5, g5, t5, vs5, pre5, post5, e5, _, rfl, D5, j5⟩
      | true =>
        refine wpAny_mono (q : wpAny _ _ _ _ _ _) (fun x s5 q => ?_) fun _ _ e => e.elim
        obtain ⟨hz, h5, g5, t5, vs5, pre5, post5, e5, k5, rfl, D5, l5, j5⟩ := q
        refine ledApp1 D5 hz fun h6 D6 => ?_
        exact ⟨k5, l5, h6, g5, t5, vs5, pre5, post5, _, _, rfl, D6, j5⟩
  exact codeAny_compStart_list loop (hself h2 g t (fun p hp => keep _ _ (D1.nw p (.tail _ hp)).1) (fun b o e => keep _ _ (D1.fr.keep b o e)) loop)
end
end
section
open PySem.W.X (Led)
open PyProof.Rows PySem.Calls PySem.Spec
set_option pp.deepTerms false
theorem ledBut {h₀ h h' : Heap} {L C : Addr} {m : Str → Option Value} {news : List (Addr × Obj)} (D : Led h₀ L m h news) (hs : Heap.SameBut C h h') (hC : C ≠ L) (h0 : h₀.get? C = none) (hn : ∀ p ∈ news, p.1 ≠ C) : Led h₀ L m h' news :=
  ⟨⟨D.fr.ns.sameBut hs hC.symm, fun b o e => (hs.2 b fun q => by rw [q, h0] at e; cases e).trans (D.fr.keep b o e), D.fr.above⟩, fun p hp => ⟨(hs.2 p.1 (hn p hp)).trans (D.nw p hp).1, (D.nw p hp).2⟩, D.ord⟩
/-- what a comprehension starts from: an iterator, its word, its turn, its end -/
def CompAt (w : World) (A : Around) (env : Env) (h₀ : Heap) (n : Nat) (d : Drawn) (os : OsState) (m : Str → Option Value) (cl : List (Str × Addr)) (scope : Scope) (xs gs : List Str) (target elt : Expr) (ifs : List Expr) (K : Addr → List Value → Nat → List (Addr × Obj) → List (Addr × Obj) → Heap → Array GenState → Nat → Prop) (it : Value) (s : Shared) : Prop :=
  ∃ (I : Addr) (news : List (Addr × Obj)) (J : CInv) (Fin : List Value → List (Addr × Obj) → List (Addr × Obj) → Array GenState → Prop) (k₀ : Nat) (h : Heap) (g : Array GenState) (t : Nat), s = ⟨h, g, d, t, os⟩ ∧ it = .ref I ∧ Led h₀ env.locals m h news ∧
    (∀ (h : Heap) (g : Array GenState) (t : Nat) {Q : Value → Shared → Prop} {E : Value → Shared → Prop}, (∀ p ∈ news, h.get? p.1 = some p.2) → (∀ b o, h₀.get? b = some o → h.get? b = some o) → Q (.ref I) ⟨h, g, d, t, os⟩ → wpAny (model PG w) A (pyIter (.ref I)) Q E ⟨h, g, d, t, os⟩) ∧
    J k₀ [] (xs.map fun _ => none) [] news g ∧
    (∀ gB C D env' k ys vs pre post e h g t, env' = compEnvC scope cl C env → (∀ p ∈ news, p.1 < D) → D < C → Cx w A env' gB n → FnL xs gs env'.scope → J k ys vs pre post g → Led gB env'.locals (vec xs vs) h (pre ++ (D, lstO ys e) :: post) →
      CTurn w A gB env'.locals D xs d os target elt ifs env' I J Fin k ys ⟨h, g, d, t, os⟩) ∧
    ∀ D ys e pre post h' g' t', (∀ p ∈ news, p.1 < D) → Fin ys pre post g' → Led h₀ env.locals m h' (pre ++ (D, lstO ys e) :: post) → K D ys e pre post h' g' t'
section
variable {w : World} {A : Around} {env : Env} {h₀ : Heap} {d : Drawn} {os : OsState} {m : Str → Option Value} {n : Nat} {E : Value → Shared → Prop} {s : Shared}
theorem rComp {elt target iter : Expr} {ifs : List Expr} {scope : Scope} {cl : List (Str × Addr)} {pos : Pos} {xs gs : List Str} {Q : Value → Shared → Prop} (C : Cx w A env h₀ n)
    (hs : ∀ x, foldedSetIterable iter env x = pure x) (hclos : closureFor scope env = pure cl) (hcell : ∀ y ∈ scope.names, y.2 ≠ .cell) (hkind : scope.kind = .function) (hnames : ∀ y ∈ scope.names, y.2 = .local → scope.names.lookup y.1 = some .local) (hfl : fnl xs gs (relabel scope env) = true)
    (h : wpAny (model PG w) A (eval iter env) (fun xv s₁ => wpAny (model PG w) A (pyIter xv) (CompAt w A env h₀ n d os m cl scope xs gs target elt ifs (fun D ys e pre post h' g' t' => Q (.ref D) ⟨h', g', d, t', os⟩)) E s₁) E s) :
    wpAny (model PG w) A (eval (.ListComp elt [⟨target, iter, ifs, 0⟩] scope pos) env) Q E s := by
  rw [eval_ListComp]
  refine wpAny_comprehension_free (use := none) rfl hs hclos hkind hnames (wpAny_mono h (fun xv s₁ h₁ => wpAny_mono h₁ (fun it s₂ h₂ => ?_) fun _ _ e => e) fun _ _ e => e)
  obtain ⟨I, news, J, Fin, k₀, h, g, t, rfl, rfl, DL, hself, hJ, turn, fin⟩ := h₂
  refine compBlock (RR := fun acc C => compPost (model PG w) A E none Q acc C) J Fin k₀ C DL hcell hkind hfl hself hJ turn ?_
  intro D C' h' t' g' mC ys pre post e hlt hDC hns hfin D' hne hCL hC0
  exact ⟨mC, hns, fun h'' hs'' => fin D ys e pre post h'' g' t' hlt hfin (ledBut D' hs'' hCL hC0 hne)⟩
theorem rCompA {elt target iter : Expr} {ifs : List Expr} {scope : Scope} {cl : List (Str × Addr)} {y : Str} {py pos spos : Pos} {xs gs gs' ns : List Str} {vs : List (Option Value)} {Q : Flow → Shared → Prop} (C : Cx w A env h₀ n) (fl : FnL ns gs' env.scope)
    (hsw : swapsWith (.ListComp elt [⟨target, iter, ifs, 0⟩] scope pos) (some (.Name y py)) spos.line env = pure true) (hy : y ∈ ns)
    (hs : ∀ x, foldedSetIterable iter env x = pure x) (hclos : closureFor scope env = pure cl) (hcell : ∀ y ∈ scope.names, y.2 ≠ .cell) (hkind : scope.kind = .function) (hnames : ∀ y ∈ scope.names, y.2 = .local → scope.names.lookup y.1 = some .local) (hfl : fnl xs gs (relabel scope env) = true)
    (h : wpAny (model PG w) A (eval iter env) (fun xv s₁ => wpAny (model PG w) A (pyIter xv) (CompAt w A env h₀ n d os (vec ns vs) cl scope xs gs target elt ifs (fun D ys e pre post h' g' t' => Led h₀ env.locals (vec ns vs) h' (pre ++ (D, lstO ys e) :: post) → ∃ vs', Put2 ns vs y (.ref D) vs' ∧ ∀ h'' t'', Led h₀ env.locals (vec ns vs') h'' (pre ++ (D, lstO ys e) :: post) → Q .next ⟨h'', g', d, t'', os⟩)) E s₁) E s) :
    wpAny (model PG w) A (exec (.Assign [.Name y py] (.ListComp elt [⟨target, iter, ifs, 0⟩] scope pos) spos) env) Q E s := by
  rw [exec_Assign_Name_used _ _ _ _ hsw]
  refine wpAny_bind (wpAny_standAt (wpAny_bind ?_))
  show wpAny _ A (do let _ ← comprehension (.ListComp elt [⟨target, iter, ifs, 0⟩] scope pos) scope env _ (newList []) false (eval iter env) (some (assign (.Name y py) env))) _ _ s
  refine wpAny_bind (wpAny_mono (wpAny_comprehension_free (use := some (assign (.Name y py) env)) (Q := fun _ s' => Q .next s') rfl hs hclos hkind hnames
    (wpAny_mono h (fun xv s₁ h₁ => wpAny_mono h₁ (fun it s₂ h₂ => ?_) fun _ _ e => e) fun _ _ e => e)) (fun _ s' hq => wpAny_pure (wpAny_pure hq)) fun _ _ e => e)
  obtain ⟨I, news, J, Fin, k₀, h, g, t, rfl, rfl, DL, hself, hJ, turn, fin⟩ := h₂
  refine compBlock (RR := fun acc C => compPost (model PG w) A E (some (assign (.Name y py) env)) (fun _ s' => Q .next s') acc C) J Fin k₀ C DL hcell hkind hfl hself hJ turn ?_
  intro D C' h' t' g' mC ys pre post e hlt hDC hns hfin D' hne hCL hC0
  obtain ⟨vs', hput, hq⟩ := fin D ys e pre post h' g' t' hlt hfin D' D'
  show wpAny _ A (assign (.Name y py) env (.ref D)) _ _ _
  refine wpAny_assign_Name (wpAny_storeName_local (by show env.scope.names.lookup y = _; exact fl.loc y hy) D'.fr.ns (fun h2 hn hs2 => ?_) (by rw [C.kind]; rfl))
  refine ⟨mC, hns.sameBut hs2 hCL, fun h3 hs3 => ?_⟩
  refine hq h3 _ (ledBut (ledSame D' (by have := D'.fr.set hn hs2; rwa [hput.put fl.nd] at this) (D'.nw.set hs2)) hs3 hCL hC0 hne)
end
end
section
open PySem.W.X (Led)
open PyProof.Rows PySem.Calls PySem.Spec
set_option pp.deepTerms false
/-- an iterator whose object alone turns -/
structure ItG (w : World) (I : Addr) (Ct : Heap → Prop) (n : Nat) (V : Nat → Value → Prop) (P : Nat → Obj → Prop) : Prop where
  item : ∀ (A : Around) (i : Nat) (s : Shared) (o : Obj) (Q : Option Value → Shared → Prop) (E : Value → Shared → Prop), i < n → s.heap.get? I = some o → P i o → Ct s.heap →
    (∀ v h' o' tk, V i v → h'.get? I = some o' → P (i + 1) o' → (∀ b o, b ≠ I → s.heap.get? b = some o → h'.get? b = some o) → Q (some v) { s with heap := h', toks := tk }) → wpAny (model PG w) A (pyNext (.ref I)) Q E s
  done : ∀ (A : Around) (s : Shared) (o : Obj) (Q : Option Value → Shared → Prop) (E : Value → Shared → Prop), A.handled = none → s.heap.get? I = some o → P n o → Ct s.heap →
    (∀ h', (∀ b o, b ≠ I → s.heap.get? b = some o → h'.get? b = some o) → Q none { s with heap := h' }) → wpAny (model PG w) A (pyNext (.ref I)) Q E s
  self : ∀ (A : Around) (s : Shared) (o : Obj) (Q : Value → Shared → Prop) (E : Value → Shared → Prop), s.heap.get? I = some o → P 0 o → Ct s.heap → Q (.ref I) s → wpAny (model PG w) A (pyIter (.ref I)) Q E s
  own : ∀ (A : Around) (s : Shared) (o : Obj) (i : Nat) (es : List Expr) (k : Nat) (p : Pos) (v : Value) (Q : Unit → Shared → Prop) (E : Value → Shared → Prop), s.heap.get? I = some o → P i o → Q () s → wpAny (model PG w) A (letOwnedTupleGo (.Tuple es k p) (.ref I) v) Q E s
theorem wpAny_notOwn {M : Model} {A : Around} {s : Shared} {I : Addr} {o : Obj} {T : String} {vs : Array Value} {es : List Expr} {k : Nat} {p : Pos} {v : Value} {Q : Unit → Shared → Prop} {E : Value → Shared → Prop} (ho : s.heap.get? I = some o) (hc : o.cls = .type T) (hd : o.data = .fields vs)
    (hT : ["enumerate", "zip", "dict_itemiterator", "dict_reverseitemiterator", "odict_iterator", "itertools.zip_longest", "itertools.pairwise"].contains T = false) (hq : Q () s) : wpAny M A (letOwnedTupleGo (.Tuple es k p) (.ref I) v) Q E s := by
  unfold letOwnedTupleGo
  cases v with
  | ref a =>
    refine wpAny_bind (wpAny_load ho ?_)
    rw [hc, hd]
    dsimp only
    rw [hT]
    simp only [Bool.false_and, Bool.false_eq_true, if_false]
    exact wpAny_pure hq
  | _ => exact wpAny_pure hq
theorem ItG.list (w : World) (I a : Addr) (hne : a ≠ I) (vs : List Value) : ItG w I (fun h => h.IsList a vs.toArray) vs.length (fun i v => vs[i]? = some v) (fun i o => o.cls = .type "list_iterator" ∧ o.data = .fields #[.ref a, .int (i : Int) 0]) where
  item := fun A i s o Q E hi hI hP hc hq => by
    refine wpAny_pyNext_list_item (l := a) (i := i) (items := vs.toArray) ⟨o, hI, hP.1, hP.2⟩ hc (x := vs[i]) (by simp [hi]) fun h' hit' hs' => ?_
    obtain ⟨o', e1, e2, e3⟩ := hit'
    exact hq _ h' o' _ (by simp [hi]) e1 ⟨e2, e3⟩ fun b o hb e => hs'.extBut b o hb e
  done := fun A s o Q E hh hI hP hc hq => by
    exact wpAny_pyNext_list_end hh (l := a) (i := vs.length) (items := vs.toArray) ⟨o, hI, hP.1, hP.2⟩ hc (by simp) fun h' he' => hq h' he'
  self := fun A s o Q E hI hP hc hq => wpAny_pyIter_listiter ⟨o, hI, hP.1, hP.2⟩ hq
  own := fun A s o i es k p v Q E hI hP hq => wpAny_notOwn hI hP.1 hP.2 (by decide) hq
def rngO (x left : Int) : Obj := { cls := .type "range_iterator", dict := none, data := .fields #[rawInt x, rawInt left, rawInt 1], slots := #[] }
theorem ItG.range (w : World) (I : Addr) (n : Nat) : ItG w I (fun _ => True) n (fun i v => ∃ t, v = .int (i : Int) t) (fun i o => o = rngO (i : Int) ((n : Int) - (i : Int))) where
  item := fun A i s o Q E hi hI hP hc hq => by
    subst hP
    refine wpAny_pyNext_range_item (x := (i : Int)) (left := (n : Int) - (i : Int)) (step := 1) hI (by omega) fun h' hit' hs' => ?_
    refine hq _ h' _ _ ⟨_, rfl⟩ hit' ?_ fun b o hb e => hs'.extBut b o hb e
    show rngO _ _ = rngO _ _
    congr 1
    rw [Int.natCast_add]; show _ = (n : Int) - ((i : Int) + 1); omega
  done := fun A s o Q E hh hI hP hc hq => by
    subst hP
    exact wpAny_pyNext_range_end hh (x := (n : Int)) (left := (n : Int) - (n : Int)) (step := 1) hI (by omega) fun h' he' => hq h' he'
  self := fun A s o Q E hI hP hc hq => by
    subst hP
    exact wpAny_pyIter_rangeiter hI hq
  own := fun A s o i es k p v Q E hI hP hq => by
    subst hP
    exact wpAny_notOwn hI rfl rfl (by decide) hq
section
variable {w : World} {A : Around} {env : Env} {h₀ h : Heap} {g : Array GenState} {d : Drawn} {t : Nat} {os : OsState} {m : Str → Option Value} {news : List (Addr × Obj)} {n : Nat} {E : Value → Shared → Prop} {a : Addr} {oa : Obj} {vs : List Value}
/-- an object more, at the heap's end -/
theorem ledPushed {h' : Heap} {o : Obj} (D : Led h₀ env.locals m h news) (hf : o.cls ≠ .none ∨ True) (ho : h'.get? h.objs.size = some o) (hk : ∀ b o, h.get? b = some o → h'.get? b = some o) : Led h₀ env.locals m h' ((h.objs.size, o) :: news) := by
  obtain ⟨oL, es, ep, hL, r⟩ := D.fr.ns
  have hLlt := Heap.lt_size hL
  refine ⟨⟨⟨oL, es, ep, hk _ _ hL, r⟩, fun b o e => hk _ _ (D.fr.keep b o e), D.fr.above⟩, fun p hp => ?_, ?_⟩
  · rcases List.mem_cons.mp hp with rfl | hp
    · refine ⟨ho, Nat.ne_of_gt hLlt, ?_⟩
      cases q : h₀.get? h.objs.size with
      | none => rfl
      | some o => exact absurd (Heap.lt_size (D.fr.keep _ _ q)) (Nat.lt_irrefl _)
    · exact ⟨hk _ _ (D.nw p hp).1, (D.nw p hp).2⟩
  · rw [List.map_cons]
    exact List.Pairwise.cons (fun b hb => by obtain ⟨q, hq, rfl⟩ := List.mem_map.mp hb; exact Heap.lt_size (D.nw q hq).1) D.ord
def ItOn (w : World) (A : Around) (env : Env) (h₀ : Heap) (m : Str → Option Value) (d : Drawn) (os : OsState) (news : List (Addr × Obj)) (n : Nat) (V : Nat → Value → Prop) (it : Value) (s : Shared) : Prop :=
  ∃ I oI h g t Ct P, s = ⟨h, g, d, t, os⟩ ∧ it = .ref I ∧ ItG w I Ct n V P ∧ P 0 oI ∧ (∀ h, (∀ p ∈ news, h.get? p.1 = some p.2) → Ct h) ∧ Led h₀ env.locals m h ((I, oI) :: news)
/-- a list's iterator -/
theorem itList (D : Led h₀ env.locals m h news) {e : Nat} {od : Option Addr} {sl : Array (Option Value)} (hm : (a, { cls := .type "list", dict := od, data := .seq vs.toArray e, slots := sl }) ∈ news) {Q : Value → Shared → Prop}
    (hq : ∀ I oI h' Ct P, ItG w I Ct vs.length (fun i v => vs[i]? = some v) P → P 0 oI → (∀ h, (∀ p ∈ news, h.get? p.1 = some p.2) → Ct h) → Led h₀ env.locals m h' ((I, oI) :: news) → Q (.ref I) ⟨h', g, d, t, os⟩) : wpAny (model PG w) A (pyIter (.ref a)) Q E ⟨h, g, d, t, os⟩ := by
  have ho := (D.nw _ hm).1
  have hne : a ≠ h.objs.size := Nat.ne_of_lt (Heap.lt_size ho)
  refine wpAny_pyIter_list (s := ⟨h, g, d, t, os⟩) ⟨_, ho, rfl, _, rfl⟩ ?_
  exact hq _ _ _ _ _ (ItG.list w h.objs.size a hne vs) ⟨rfl, rfl⟩ (fun h hh => ⟨_, hh _ hm, rfl, _, rfl⟩) (ledPushed D (.inr trivial) (Heap.get?_push_size _ rfl) fun b o e => Heap.get?_push_of_some _ e)
/-- range(n) and its iterator -/
theorem itRange (D : Led h₀ env.locals m h news) {i : Int} {ti : Tok} (h0 : 0 ≤ i) (h1 : i < 1000000) {Q : Value → Shared → Prop}
    (hq : ∀ I oI rg og h' t' Ct P, ItG w I Ct i.toNat (fun i v => ∃ t, v = .int (i : Int) t) P → P 0 oI → (∀ h, Ct h) → Led h₀ env.locals m h' ((I, oI) :: (rg, og) :: news) → Q (.ref I) ⟨h', g, d, t', os⟩) :
    wpAny (model PG w) A (call (.type "range") [.int i ti]) (fun xv s₁ => wpAny (model PG w) A (pyIter xv) Q E s₁) E ⟨h, g, d, t, os⟩ := by
  refine call_range_1 (s := ⟨h, g, d, t, os⟩) ?_
  dsimp only
  have D1 : Led h₀ env.locals m _ ((h.objs.size, { cls := .type "range", data := .fields #[.int 0 t, .int i ti, .int 1 (t + 1)] }) :: news) := ledPushed D (.inr trivial) (Heap.get?_push_size _ rfl) fun b o e => Heap.get?_push_of_some _ e
  have e : (Builtin.Range.rangeSize 0 i 1 : Int) = i := by
    unfold Builtin.Range.rangeSize
    simp
    omega
  have hfit : ∀ j : Int, 0 ≤ j → j < 1000001 → Builtin.Range.rangeFitsLong j = true := fun j h0 h1 => by
    unfold Builtin.Range.rangeFitsLong
    simp only [Bool.and_eq_true, decide_eq_true_eq]
    omega
  refine wpAny_pyIter_range (s := ⟨_, g, d, _, os⟩) (IsRange.new h 0 i 1 t ti (t + 1)) ?_ ?_
  · unfold Builtin.Range.small
    simp only [Bool.and_eq_true, e]
    refine ⟨⟨⟨⟨hfit 0 (by omega) (by omega), hfit i h0 (by omega)⟩, hfit 1 (by omega) (by omega)⟩, hfit i h0 (by omega)⟩, ?_⟩
    rw [if_pos (by decide), hfit (i + (1 - 1)) (by omega) (by omega), Bool.or_true]
  refine hq _ (rngO 0 i) _ _ _ _ (fun _ => True) (fun j o => o = rngO (j : Int) ((i.toNat : Int) - (j : Int))) (ItG.range w _ i.toNat) ?_ (fun _ => trivial) (ledPushed D1 (.inr trivial) ?_ fun b o e => Heap.get?_push_of_some _ e)
  · show rngO 0 i = rngO _ _
    congr 1
    omega
  · refine (Heap.get?_push_size _ rfl).trans ?_
    rw [e]; rfl
end
end
section
open PySem.W.X (Led)
open PyProof.Rows PySem.Calls PySem.Spec
set_option pp.deepTerms false
/-- a target: a name or a tuple -/
def Tgt (e : Expr) : Prop := (∃ x p, e = .Name x p) ∨ ∃ es k p, e = .Tuple es k p
theorem ItG.ownT {w : World} {I : Addr} {Ct : Heap → Prop} {n : Nat} {V : Nat → Value → Prop} {P : Nat → Obj → Prop} (It : ItG w I Ct n V P) {A : Around} {s : Shared} {o : Obj} {i : Nat} {target : Expr} {v : Value} {Q : Unit → Shared → Prop} {E : Value → Shared → Prop} (ht : Tgt target) (hI : s.heap.get? I = some o) (hP : P i o) (hq : Q () s) :
    wpAny (model PG w) A (letOwnedTupleGo target (.ref I) v) Q E s := by
  rcases ht with ⟨x, p, rfl⟩ | ⟨es, k, p, rfl⟩
  · exact wpAny_pure hq
  · exact It.own A s o i es k p v Q E hI hP hq
/-- a turn of a comprehension over an iterator has ended -/
def CIt (gB : Heap) (C D : Addr) (xs : List Str) (g : Array GenState) (d : Drawn) (os : OsState) (I : Addr) (P : Nat → Obj → Prop) (news : List (Addr × Obj)) (ys : List Value) (i : Nat) (J : List (Addr × Obj) → Prop) (s : Shared) : Prop :=
  ∃ h t vs pre e oI, s = ⟨h, g, d, t, os⟩ ∧ Led gB C (vec xs vs) h (pre ++ (D, lstO ys e) :: (I, oI) :: news) ∧ P i oI ∧ J pre
theorem CIt.mk {gB h : Heap} {C D : Addr} {xs : List Str} {g : Array GenState} {d : Drawn} {t : Nat} {os : OsState} {I : Addr} {P : Nat → Obj → Prop} {news : List (Addr × Obj)} {ys : List Value} {i : Nat} {J : List (Addr × Obj) → Prop} {vs : List (Option Value)} {e : Nat} {oI : Obj} (pre : List (Addr × Obj))
    (DL : Led gB C (vec xs vs) h (pre ++ (D, lstO ys e) :: (I, oI) :: news)) (hP : P i oI) (hJ : J pre) : CIt gB C D xs g d os I P news ys i J ⟨h, g, d, t, os⟩ := ⟨h, t, vs, pre, e, oI, rfl, DL, hP, hJ⟩
section
variable {w : World} {A : Around} {env : Env} {h₀ h : Heap} {g : Array GenState} {d : Drawn} {t : Nat} {os : OsState} {m : Str → Option Value} {news : List (Addr × Obj)} {n : Nat}
theorem compIt {elt target : Expr} {ifs : List Expr} {scope : Scope} {cl : List (Str × Addr)} {xs gs : List Str} {K : Addr → List Value → Nat → List (Addr × Obj) → List (Addr × Obj) → Heap → Array GenState → Nat → Prop} {I : Addr} {oI : Obj} {Ct : Heap → Prop} {N : Nat} {V : Nat → Value → Prop} {P : Nat → Obj → Prop}
    (J : Nat → List Value → List (Addr × Obj) → Prop) (hh : A.handled = none) (It : ItG w I Ct N V P) (hP : P 0 oI) (hct : ∀ h, (∀ p ∈ news, h.get? p.1 = some p.2) → Ct h) (DL : Led h₀ env.locals m h ((I, oI) :: news)) (ht : Tgt target) (hN : N < 1000000) (hJ : J 0 [] []) (hlen : ∀ i ys pre, J i ys pre → ys.length ≤ i)
    (turn : ∀ gB C D env' i ys vs pre e oI h t v, i < N → V i v → env' = compEnvC scope cl C env → (∀ p ∈ (I, oI) :: news, p.1 < D) → D < C → Cx w A env' gB n → FnL xs gs env'.scope → J i ys pre → P (i + 1) oI → Led gB env'.locals (vec xs vs) h (pre ++ (D, lstO ys e) :: (I, oI) :: news) →
      wpAny (model PG w) A (assign target env' v) (fun _ s₂ => wpAny (model PG w) A (forIn ifs true fun c r => if r = true then do let ok ← isTrue c env' (eval c env'); pure (ForInStep.yield ok) else pure (ForInStep.yield r)) (fun ok s₃ =>
            Br ok (wpAny (model PG w) A (eval elt env') (fun x s₄ => CIt gB env'.locals D xs g d os I P news ys (i + 1) (J (i + 1) (ys ++ [x])) s₄) (fun _ _ => False) s₃)
              (CIt gB env'.locals D xs g d os I P news ys (i + 1) (J (i + 1) ys) s₃)) (fun _ _ => False) s₂) (fun _ _ => False) ⟨h, g, d, t, os⟩)
    (fin : ∀ D ys e pre h' t', (∀ p ∈ news, p.1 < D) → J N ys pre → Led h₀ env.locals m h' (pre ++ (D, lstO ys e) :: news) → K D ys e pre news h' g t') :
    CompAt w A env h₀ n d os m cl scope xs gs target elt ifs K (.ref I) ⟨h, g, d, t, os⟩ := by
  refine ⟨I, (I, oI) :: news, fun k ys vs pre post g' => ∃ i oI, k = N - i ∧ i ≤ N ∧ post = (I, oI) :: news ∧ P i oI ∧ J i ys pre ∧ g' = g, fun ys pre post g' => post = news ∧ g' = g ∧ J N ys pre, N, h, g, t, rfl, rfl, DL, ?_, ⟨0, oI, rfl, Nat.zero_le _, rfl, hP, hJ, rfl⟩, ?_, ?_⟩
  · intro h g t Q E hm _ hq
    exact It.self A ⟨h, g, d, t, os⟩ oI Q E (hm _ (.head _)) hP (hct _ fun p hp => hm p (.tail _ hp)) hq
  · rintro gB C D env' k ys vs pre post e h g' t he hlt hDC Cx' fl ⟨i, o1, rfl, hi, rfl, hPi, hJi, rfl⟩ D'
    have hI : h.get? I = some o1 := (D'.nw _ (List.mem_append_right _ (.tail _ (.head _)))).1
    have hc : Ct h := hct _ fun p hp => (D'.nw _ (List.mem_append_right _ (.tail _ (.tail _ hp)))).1
    have eA : ∀ (pre : List (Addr × Obj)) (ys : List Value) (e : Nat) (o : Obj), pre ++ (D, lstO ys e) :: (I, o) :: news = (pre ++ [(D, lstO ys e)]) ++ (I, o) :: news := fun pre ys e o => by simp
    unfold CTurn
    by_cases hlt' : i < N
    · refine It.item A i ⟨h, g', d, t, os⟩ o1 _ _ hlt' hI hPi hc fun v h2 o2 tk hV e1 e2 e3 => ?_
      dsimp only
      refine It.ownT ht e1 e2 ?_
      have D2 : Led gB env'.locals (vec xs vs) h2 (pre ++ (D, lstO ys e) :: (I, o2) :: news) := by
        rw [eA] at D' ⊢; exact ledAt D' e3 e1
      refine wpAny_mono (turn gB C D env' i ys vs pre e o2 h2 tk v hlt' hV he (fun p hp => ?_) hDC Cx' fl hJi e2 D2) (fun _ s2 q => wpAny_mono q (fun ok s3 q => ?_) fun _ _ e => e.elim) fun _ _ e => e.elim
      · rcases List.mem_cons.mp hp with rfl | hp
        · exact hlt (I, oI) List.mem_cons_self
        · exact hlt p (List.mem_cons_of_mem _ hp)
      have conv : ∀ ys' s', (ys'.length ≤ i + 1) → CIt gB env'.locals D xs g' d os I P news ys (i + 1) (J (i + 1) ys') s' → CSt gB env'.locals D xs d os (N - i) ys (fun k' vs pre post g => ∃ i oI, k' = N - i ∧ i ≤ N ∧ post = (I, oI) :: news ∧ P i oI ∧ J i ys' pre ∧ g = g') s' := by
        rintro ys' s' _ ⟨h4, t4, vs4, pre4, e4, o4, rfl, D4, P4, J4⟩
        exact ⟨h4, g', t4, vs4, pre4, (I, o4) :: news, e4, N - (i + 1), rfl, D4, by omega, i + 1, o4, rfl, hlt', rfl, P4, J4, rfl⟩
      have hl := hlen _ _ _ hJi
      cases ok with
      | false => exact conv ys s3 (by omega) q
      | true =>
        refine wpAny_mono (q : wpAny _ _ _ _ _ _) (fun x s4 q => ⟨by omega, conv (ys ++ [x]) s4 (by simp; omega) q⟩) fun _ _ e => e.elim
    · obtain rfl : i = N := by omega
      refine It.done A ⟨h, g', d, t, os⟩ o1 _ _ hh hI hPi hc fun h2 e3 => ?_
      refine ⟨h2, g', t, vs, pre, news, e, 0, rfl, ?_, Nat.zero_lt_one, rfl, rfl, hJi⟩
      have := ledDel (by rw [eA] at D'; exact D') e3
      rw [List.append_assoc] at this
      exact this
  · rintro D ys e pre post h' g' t' hlt ⟨rfl, rfl, hJ⟩ D'
    exact fin D ys e pre h' t' (fun p hp => hlt p (.tail _ hp)) hJ D'
end
section
variable {w : World} {A : Around} {s : Shared}
theorem forLoopX {target it : _} {body : List Stmt} {env : Env} {Q : Flow → Shared → Prop} (I : Nat → Shared → Prop)
    (turn : ∀ n s, I n s → wpAny (model PG w) A (pyNext it) (fun r s₁ => match r with
      | none => Q .next s₁
      | some v => wpAny (model PG w) A (letOwnedTupleGo target it v) (fun _ s₁' => wpAny (model PG w) A (assign target env v) (fun _ s₂ => wpAny (model PG w) A (execs body env) (fun f s₃ => match f with
          | .next | .cont => ∃ m, m < n ∧ I m s₃
          | .brk => Q .next s₃
          | .ret v => Q (.ret v) s₃) (fun _ _ => False) s₂) (fun _ _ => False) s₁') (fun _ _ => False) s₁) (fun _ _ => False) s)
    (n : Nat) (h : I n s) : codeAny (model PG w) A (.forLoop target it body [] env) (fun r s' => match r with | .ok f => Q f s' | .error _ => False) s := by
  refine codeAny_loop' rfl I (fun n s hI => ?_) n h
  show wpAny _ _ ((forTurn target it body [] env).onRaise (fun x => do noteFrame x env; theTreesLotGoes x)) _ _ s
  refine wpAny_noted ?_
  simp only [forTurn]
  refine wpAny_bind (wpAny_standAt (wpAny_bind (wpAny_onRaise (wpAny_mono (turn n s hI) (fun r s₁ h₁ => ?_) fun _ _ h' => h'.elim))))
  cases r with
  | none => exact wpAny_pure (.inr ⟨rfl, codeAny_block (wpAny_execs_nil h₁)⟩)
  | some v =>
    refine wpAny_bind (wpAny_mono h₁ (fun _ s₁' h₁' => ?_) fun _ _ e => e.elim)
    refine wpAny_bind (wpAny_mono h₁' (fun _ s₂ h₂ => wpAny_bind (wpAny_mono h₂ (fun f s₃ h₃ => ?_) fun _ _ e => e.elim)) fun _ _ e => e.elim)
    cases f with
    | next => exact wpAny_pure (.inl ⟨rfl, h₃⟩)
    | cont => exact wpAny_pure (.inl ⟨rfl, h₃⟩)
    | brk => exact wpAny_pure h₃
    | ret v => exact wpAny_pure h₃
end
end
section
open PySem.W.X (Led)
open PyProof.Rows PySem.Calls PySem.Spec
/-- a set of candidates: which of the four stand in it, by their tokens -/
structure S4 where
  a : Option Tok
  b : Option Tok
  c : Option Tok
  d : Option Tok
def ent (v : Nat) (o : Option Tok) : List (Int × Value) := match o with
  | some t => [((v : Int), Value.int (v : Int) t)]
  | none => []
def vof (v : Nat) (o : Option Tok) : List Nat := match o with
  | some _ => [v]
  | none => []
def S4.es (s : S4) : List (Int × Value) := ent 0 s.a ++ (ent 1 s.b ++ (ent 2 s.c ++ ent 3 s.d))
def S4.vs (s : S4) : List Nat := vof 0 s.a ++ (vof 1 s.b ++ (vof 2 s.c ++ vof 3 s.d))
def S4.get (s : S4) : Nat → Option Tok
  | 0 => s.a
  | 1 => s.b
  | 2 => s.c
  | 3 => s.d
  | _ => none
def S4.put (s : S4) (v : Nat) (t : Tok) : S4 := match v with
  | 0 => { s with a := some t }
  | 1 => { s with b := some t }
  | 2 => { s with c := some t }
  | 3 => { s with d := some t }
  | _ => s
def S4.nil : S4 := ⟨none, none, none, none⟩
def S4.tab (led : Bool) (s : S4) : SetTable := { mask := 7, place := s.vs.toArray, dummies := #[], finger := 0, led, moves := 0, plain := true }
def ledW (w : World) : Bool := !(w.params.followText "set-order")
def setO (w : World) (cl : Value) (dd : Option Addr) (s : S4) (ep : Nat) : Obj := { cls := cl, dict := dd, data := .set s.es.toArray ep (s.tab (ledW w)) }
theorem S4.fits (s : S4) (led : Bool) : (s.tab led).fits s.es.toArray.size = true := by
  rcases s with ⟨_ | _, _ | _, _ | _, _ | _⟩ <;> rfl
theorem S4.lay (s : S4) (led : Bool) (v : Nat) (t : Tok) (hv : v < 4) (hn : s.get v = none) : layNew (s.tab led) s.es.toArray (v : Int) (.int (v : Int) t) = ((s.put v t).es.toArray, (s.put v t).tab led, false, false) := by
  have : v = 0 ∨ v = 1 ∨ v = 2 ∨ v = 3 := by omega
  rcases s with ⟨_ | _, _ | _, _ | _, _ | _⟩ <;> rcases this with rfl | rfl | rfl | rfl <;> first | (cases hn; done) | kernel_rfl
theorem S4.room (s : S4) (led : Bool) : (s.tab led).tooFull = false := by
  rcases s with ⟨_ | _, _ | _, _ | _, _ | _⟩ <;> rfl
theorem S4.len (s : S4) : s.es.toArray.size = s.vs.length := by
  rcases s with ⟨_ | _, _ | _, _ | _, _ | _⟩ <;> rfl
theorem S4.len4 (s : S4) : s.vs.length ≤ 4 := by
  rcases s with ⟨_ | _, _ | _, _ | _, _ | _⟩ <;> simp [S4.vs, vof]
theorem S4.mem (s : S4) (v : Nat) : v ∈ s.vs ↔ (s.get v).isSome = true := by
  have : v = 0 ∨ v = 1 ∨ v = 2 ∨ v = 3 ∨ 4 ≤ v := by omega
  rcases this with rfl | rfl | rfl | rfl | h
  · rcases s with ⟨_ | _, _ | _, _ | _, _ | _⟩ <;> simp [S4.vs, vof, S4.get]
  · rcases s with ⟨_ | _, _ | _, _ | _, _ | _⟩ <;> simp [S4.vs, vof, S4.get]
  · rcases s with ⟨_ | _, _ | _, _ | _, _ | _⟩ <;> simp [S4.vs, vof, S4.get]
  · rcases s with ⟨_ | _, _ | _, _ | _, _ | _⟩ <;> simp [S4.vs, vof, S4.get]
  · have e : s.get v = none := by
      match v, h with
      | v + 4, _ => rfl
    rw [e]
    rcases s with ⟨_ | _, _ | _, _ | _, _ | _⟩ <;> simp [S4.vs, vof] <;> omega
section
variable {prog : Program} {w : World} {A : Around} {E : Value → Shared → Prop} {s : Shared}
theorem S4.elems (x : S4) : ElemsOf (intKind prog w) x.es.toArray.toList := by
  intro e he
  have : ∃ (v : Nat) (t : Tok), e = ((v : Int), .int (v : Int) t) ∧ v < 4 := by
    rcases x with ⟨_ | _, _ | _, _ | _, _ | _⟩ <;> simp [S4.es, ent] at he <;> first | (subst he; exact ⟨_, _, rfl, by decide⟩) | (rcases he with rfl | rfl <;> exact ⟨_, _, rfl, by decide⟩) | (rcases he with rfl | rfl | rfl <;> exact ⟨_, _, rfl, by decide⟩) | (rcases he with rfl | rfl | rfl | rfl <;> exact ⟨_, _, rfl, by decide⟩)
  obtain ⟨v, t, rfl, hv⟩ := this
  refine ⟨⟨(v : Int), intKind_is _ _ _ _, ?_⟩, rfl⟩
  have : v = 0 ∨ v = 1 ∨ v = 2 ∨ v = 3 := by omega
  rcases this with rfl | rfl | rfl | rfl <;> rfl
theorem S4.find (x : S4) (v : Nat) (hv : v < 4) : (x.es.toArray.toList.findIdx? (fun e => (intKind prog w).is (v : Int) e.2)).isSome = (x.get v).isSome := by
  have : v = 0 ∨ v = 1 ∨ v = 2 ∨ v = 3 := by omega
  rcases x with ⟨_ | _, _ | _, _ | _, _ | _⟩ <;> rcases this with rfl | rfl | rfl | rfl <;> rfl
theorem ihash (v : Nat) (hv : v < 4) : (intKind prog w).hash (v : Int) = (v : Int) := by
  have : v = 0 ∨ v = 1 ∨ v = 2 ∨ v = 3 := by omega
  rcases this with rfl | rfl | rfl | rfl <;> rfl
theorem wpAny_add4 {a : Addr} {cl : Value} {dd : Option Addr} {x : S4} {ep v : Nat} {tk : Tok} {Q : Bool → Shared → Prop} (hv : v < 4) (ho : s.heap.get? a = some (setO w cl dd x ep))
    (h1 : (x.get v).isSome = true → Q false s)
    (h2 : x.get v = none → ∀ h', Heap.SameBut a s.heap h' → h'.get? a = some (setO w cl dd (x.put v tk) (ep + 1)) → Q true { s with heap := h' }) :
    wpAny (model prog w) A (setAddHashed a (.int (v : Int) tk) (v : Int)) Q E s := by
  have hd : (setO w cl dd x ep).data = .set x.es.toArray ep (x.tab (ledW w)) := rfl
  have hf := x.fits (ledW w)
  have hsz : x.es.toArray.size < scanBound := by rw [x.len]; have := x.len4; unfold scanBound; omega
  unfold setAddHashed setAddHashedIn
  refine wpAny_holding (wpAny_bind (wpAny_setState_of ho hd hf ?_))
  dsimp only
  rw [byScan_of (prog := prog) (w := w) rfl hsz x.elems]
  simp only [↓reduceIte]
  unfold setAddByScan
  refine wpAny_bind ?_
  refine wpAny_bind (wpAny_rule ?_)
  have hscan := fun {Q : ScanMet → Shared → Prop} h => wpAny_setScan_of (prog := prog) (A := A) (E := E) (adding := true) (Q := Q) (intKind_is prog w (v : Int) tk) ho hd hf x.elems h
  rw [ihash v hv] at hscan
  refine wpAny_bind (hscan ?_)
  have hfind := S4.find (prog := prog) (w := w) x v hv
  cases hr : List.findIdx? (fun e => (intKind prog w).is (v : Int) e.2) x.es.toArray.toList with
  | some j =>
    rw [hr] at hfind
    dsimp only
    exact wpAny_pure (wpAny_pure (h1 hfind.symm))
  | none =>
    rw [hr] at hfind
    have hn : x.get v = none := by
      cases q : x.get v with
      | none => rfl
      | some y => rw [q] at hfind; cases hfind
    dsimp only
    rw [x.lay (ledW w) v tk hv hn]
    dsimp only
    refine wpAny_bind (wpAny_pure ?_)
    have hp : ((x.put v tk).tab (ledW w)).plain = true := rfl
    simp only [hp, if_true]
    refine wpAny_bind ?_
    rw [hashByValue_scannable 8 (show (Value.int (v : Int) tk).scannable = true from rfl)]
    refine wpAny_pure ?_
    simp only [plainKind, if_true]
    have hz2 : (x.put v tk).es.toArray.size ≤ sizeLine := by rw [S4.len, sizeLine_eq]; have := (x.put v tk).len4; omega
    refine wpAny_bind (wpAny_storeSet_of ho hd ?_ hz2)
    simp only [S4.room, Bool.and_false, Bool.false_eq_true, if_false]
    have hg : (s.heap.update a (Obj.putSet (x.put v tk).es.toArray ((x.put v tk).tab (ledW w)))).get? a = some (setO w cl dd (x.put v tk) (ep + 1)) := by
      have := Heap.get?_update_self (Obj.putSet (x.put v tk).es.toArray ((x.put v tk).tab (ledW w))) ho (by rw [putSet_of _ _ hd]; rfl)
      rw [putSet_of _ _ hd] at this; exact this
    exact wpAny_pure (wpAny_pure (h2 hn _ (Heap.SameBut.update s.heap a _) hg))
theorem wpAny_find4 {a : Addr} {cl : Value} {dd : Option Addr} {x : S4} {ep v : Nat} {tk : Tok} {Q : Option Nat → Shared → Prop} (hv : v < 4) (ho : s.heap.get? a = some (setO w cl dd x ep))
    (h : ∀ r : Option Nat, r.isSome = (x.get v).isSome → Q r s) : wpAny (model prog w) A (setFind a (.int (v : Int) tk) (v : Int)) Q E s := by
  have hd : (setO w cl dd x ep).data = .set x.es.toArray ep (x.tab (ledW w)) := rfl
  have hf := x.fits (ledW w)
  have hsz : x.es.toArray.size < scanBound := by rw [x.len]; have := x.len4; unfold scanBound; omega
  unfold setFind setFindIn
  refine wpAny_bind (wpAny_setState_of ho hd hf ?_)
  dsimp only
  rw [byScan_of (prog := prog) (w := w) rfl hsz x.elems]
  simp only [↓reduceIte]
  refine wpAny_bind (wpAny_rule ?_)
  have hscan := fun {Q : ScanMet → Shared → Prop} h => wpAny_setScan_of (prog := prog) (A := A) (E := E) (adding := false) (Q := Q) (intKind_is prog w (v : Int) tk) ho hd hf x.elems h
  rw [ihash v hv] at hscan
  refine wpAny_bind (hscan ?_)
  have hfind := S4.find (prog := prog) (w := w) x v hv
  cases hr : List.findIdx? (fun e => (intKind prog w).is (v : Int) e.2) x.es.toArray.toList with
  | some j =>
    rw [hr] at hfind
    dsimp only
    exact wpAny_pure (h _ hfind)
  | none =>
    rw [hr] at hfind
    dsimp only
    exact wpAny_pure (h _ hfind)
theorem cons_erase {α : Type} : ∀ (l : List α) (i : Nat) (h : i < l.length), (l[i] :: l.eraseIdx i).Perm l
  | a :: r, 0, _ => .refl _
  | a :: r, i + 1, h => (List.Perm.swap a _ _).trans (List.Perm.cons a (cons_erase r i (Nat.lt_of_succ_lt_succ h)))
/-- the walk's order: some order of the elements -/
theorem pick_perm {α : Type} (next : Nat → Nat) : ∀ (fuel k : Nat) (l : List α) (out : Array α), l.length ≤ fuel → (pickOrder.go next fuel k l out).toList.Perm (out.toList ++ l) := by
  intro fuel
  induction fuel with
  | zero =>
    intro k l out h
    have : l = [] := List.eq_nil_of_length_eq_zero (Nat.le_zero.mp h)
    subst this
    show out.toList.Perm (out.toList ++ [])
    rw [List.append_nil]
  | succ fuel ih =>
    intro k l out h
    unfold pickOrder.go
    cases hq : l[next k % l.length]? with
    | none =>
      have : l = [] := by
        rw [List.getElem?_eq_none_iff] at hq
        cases l with
        | nil => rfl
        | cons a r => exact absurd (Nat.mod_lt (next k) (show 0 < (a :: r).length by simp)) (Nat.not_lt.mpr hq)
      subst this
      show out.toList.Perm (out.toList ++ [])
      rw [List.append_nil]
    | some y =>
      have hlt : next k % l.length < l.length := by
        rw [List.getElem?_eq_some_iff] at hq; exact hq.1
      have hl := List.length_eraseIdx_of_lt hlt
      refine (ih (k + 1) (l.eraseIdx (next k % l.length)) (out.push y) (by omega)).trans ?_
      rw [Array.toList_push, List.append_assoc]
      refine List.Perm.append_left _ ?_
      have e : l[next k % l.length] = y := by
        rw [List.getElem?_eq_some_iff] at hq; exact hq.2
      rw [← e]
      exact cons_erase l _ hlt
theorem wpAny_walk4 {a : Addr} {cl : Value} {dd : Option Addr} {x : S4} {ep : Nat} {Q : Array (Int × Value) → Shared → Prop} (ho : s.heap.get? a = some (setO w cl dd x ep))
    (h : ∀ es : Array (Int × Value), es.toList.Perm x.es → Q es s) : wpAny (model prog w) A (setWalk a) Q E s := by
  have hd : (setO w cl dd x ep).data = .set x.es.toArray ep (x.tab (ledW w)) := rfl
  have hf := x.fits (ledW w)
  unfold setWalk
  refine wpAny_bind (wpAny_setState_of ho hd hf ?_)
  dsimp only
  unfold setsByText
  refine wpAny_bind (wpAny_bind (wpAny_askSetting (wpAny_pure ?_)))
  cases hb : w.params.followText "set-order" with
  | true =>
    simp only [show (model prog w).w = w from rfl, hb, if_true]
    refine wpAny_bind (wpAny_askSetting (wpAny_pure (h _ ?_)))
    have := pick_perm ((model prog w).w.params.setOrder a ep) x.es.toArray.size 0 x.es.toArray.toList #[] (by simp)
    unfold pickOrder
    refine this.trans ?_
    simp
  | false =>
    simp only [show (model prog w).w = w from rfl, hb, Bool.false_eq_true, if_false]
    have hl : ledW w = true := by unfold ledW; rw [hb]; rfl
    rw [hl]
    have hp : (S4.tab true x).plain = true := rfl
    show wpAny (model prog w) A (if (!(S4.tab true x).plain && decide (x.es.toArray.size > 1)) = true then _ else _) Q E s
    simp only [hp, Bool.not_true, Bool.false_and, Bool.false_eq_true, if_false]
    refine wpAny_bind (wpAny_of_eq (rfl : _ = pure ()) (wpAny_pure (h _ ?_)))
    exact .refl _
end
end
section
open PySem.W.X (Led)
open PyProof.Rows PySem.Calls PySem.Spec
/-- a slot of a value, found where it stands -/
structure SL (M : Model) (h : Heap) (sv : Value) (name : Str) (id : String) : Prop where
  look : Looks M h (specialOf sv name) (some (.builtin id))
  bind : bindSpecial (.builtin id) sv = pure (.builtin id, [sv])
  check : ∀ (A : Around) (E : Value → Shared → Prop) (s : Shared) (rest : List Value) (Q : Unit → Shared → Prop), (∀ b o, h.get? b = some o → s.heap.get? b = some o) → argsOk id ⟨sv :: rest, []⟩ → Q () s → wpAny M A (checkBuiltinCall id ⟨sv :: rest, []⟩) Q E s
  plain : plainId id = true
theorem SL.ofT {M : Model} {h : Heap} {x : Addr} {o : Obj} {T : String} {name : Str} {id : String} (S : Slot T name id) (ho : h.get? x = some o) (hc : o.cls = .type T) : SL M h (.ref x) name id :=
  ⟨fun A Q E s k q => wpAny_specialOf ⟨o, k _ _ ho, hc⟩ S.lookup q, S.bind _, fun A E s rest Q k a q => S.check _ _ _ _ _ _ _ _ ⟨o, k _ _ ho, hc⟩ a q, S.plain⟩
section
variable {M : Model} {A : Around} {E : Value → Shared → Prop} {s : Shared} {self : Value} {name : Str} {id : String}
theorem SL.special {Q : Option Value → Shared → Prop} {args : List Value} (S : SL M s.heap self name id) (h : wpAny M A (call (.builtin id) (self :: args)) (fun v => Q (some v)) E s) : wpAny M A (callSpecial? self name args) Q E s := by
  simp only [callSpecial?]
  refine wpAny_bind (S.look.here ?_)
  simp only [S.bind]
  exact wpAny_holding (wpAny_bind (wpAny_pure (wpAny_bind (wpAny_mono h (fun v s' h' => wpAny_pure h') fun _ _ h' => h'))))
theorem SL.ifb {refuse : Sem Value} {Q : Option Value → Shared → Prop} (S : SL M s.heap self name id) (hc : wpAny M A (call (.builtin id) [self]) (fun v => Q (some v)) E s) : wpAny M A (callSpecialIfBoundUnlessNone? self name refuse) Q E s := by
  simp only [callSpecialIfBoundUnlessNone?, bindSpecialIfBound?]
  refine wpAny_holding (wpAny_bind (wpAny_bind (S.look.here ?_)))
  simp only [S.bind]
  refine wpAny_bind (wpAny_askSetting (wpAny_ite ?_))
  have fin : wpAny M A (if (Value.builtin id == Value.none) = true then (refuse >>= fun v => pure (some v)) else (call (.builtin id) [self] >>= fun v => pure (some v))) Q E s := by
    simp only [builtin_beq_none, Bool.false_eq_true, if_false]
    exact wpAny_bind (wpAny_mono hc (fun v s' h' => wpAny_pure h') fun _ _ h' => h')
  split
  · exact wpAny_bind (wpAny_pure (wpAny_pure fin))
  · exact wpAny_tryCatch (wpAny_bind (wpAny_pure (wpAny_pure fin)))
theorem SL.iter {Q : Value → Shared → Prop} (S : SL M s.heap self "__iter__" id)
    (hc : wpAny M A (call (.builtin id) [self]) (fun it s' => ∃ T' r, s'.TypeIs it T' ∧ typeLookup (.type T') "__next__" = pure (some r) ∧ Q it s') E s) : wpAny M A (pyIter self) Q E s := by
  unfold pyIter
  refine wpAny_bind (S.look.here ?_)
  show wpAny M A (callSpecialIfBoundUnlessNone? self "__iter__" _ >>= _) Q E s
  refine wpAny_bind (S.ifb (wpAny_mono hc (fun it s' h' => ?_) fun _ _ x => x))
  obtain ⟨T', r, hT', hl, hQ⟩ := h'
  exact wpAny_bind (wpAny_specialOf hT' hl (wpAny_pure hQ))
end
section
variable {prog : Program} {w : World} {A : Around} {E : Value → Shared → Prop} {s : Shared} {self : Value} {name : Str} {id : String}
theorem SL.call {B : Builtin} {rest : List Value} {Q : Value → Shared → Prop} (S : SL (model prog w) s.heap self name id) (entry : entryFor table id = some B) (args : argsOk id ⟨self :: rest, []⟩)
    (h : wpAny (model prog w) A.in1 (B ⟨self :: rest, []⟩) (fun fin s' => ∃ v, fin = .done (.ret v) ∧ Q v s') E s) : wpAny (model prog w) A (call (.builtin id) (self :: rest)) Q E s :=
  wpAny_call (codeAny_call_builtin S.plain entry (S.check _ _ _ _ _ (fun _ _ e => e) args (wpAny_mono h (fun fin s' h' => by obtain ⟨v, rfl, hv⟩ := h'; exact hv) fun _ _ e => e)))
end
theorem slot_setiter_next : Slot "set_iterator" "__next__" "set_iterator.__next__" :=
  .of (owner := "set_iterator") (n := "__next__") (by rw [typeLookup_type, builtinLookup_eq_fast]; kernel_rfl) (by decide +kernel) (by decide +kernel) (by decide +kernel)
    (by first | exact .inl (by decide +kernel) | exact .inr (by decide +kernel)) (by rw [isSubtype_type]; kernel_rfl)
theorem slot_setiter_iter : Slot "set_iterator" "__iter__" "set_iterator.__iter__" :=
  .of (owner := "set_iterator") (n := "__iter__") (by rw [typeLookup_type, builtinLookup_eq_fast]; kernel_rfl) (by decide +kernel) (by decide +kernel) (by decide +kernel)
    (by first | exact .inl (by decide +kernel) | exact .inr (by decide +kernel)) (by rw [isSubtype_type]; kernel_rfl)
theorem slot_set_iter : Slot "set" "__iter__" "set.__iter__" :=
  .of (owner := "set") (n := "__iter__") (by rw [typeLookup_type, builtinLookup_eq_fast]; kernel_rfl) (by decide +kernel) (by decide +kernel) (by decide +kernel)
    (by first | exact .inl (by decide +kernel) | exact .inr (by decide +kernel)) (by rw [isSubtype_type]; kernel_rfl)
theorem entry_setiter_next : entryFor table "set_iterator.__next__" = some Builtin.«set_iterator.__next__» := entryFor_of_tree (by kernel_rfl)
theorem entry_set_iter : entryFor table "set.__iter__" = some Builtin.«frozenset.__iter__» :=
  entryFor_alias (id' := "frozenset.__iter__") (by kernel_rfl) rfl (by decide +kernel) (by kernel_rfl)
theorem args_set_iter (a : Value) : argsOk "set.__iter__" ⟨[a], []⟩ := by unfold argsOk; kernel_rfl
theorem args_setiter_next (a : Value) : argsOk "set_iterator.__next__" ⟨[a], []⟩ := by unfold argsOk; kernel_rfl
theorem entry_setiter_iter : entryFor table "set_iterator.__iter__" = some Builtin.«dict_keyiterator.__iter__» :=
  entryFor_alias (id' := "dict_keyiterator.__iter__") (by kernel_rfl) rfl (by decide +kernel) (by kernel_rfl)
theorem args_setiter_iter (a : Value) : argsOk "set_iterator.__iter__" ⟨[a], []⟩ := by unfold argsOk; kernel_rfl
/-- the walk's order -/
def ordW (w : World) (a : Addr) (x : S4) (ep : Nat) : List Value := (if w.params.followText "set-order" then (pickOrder (w.params.setOrder a ep) x.es.toArray).toList else x.es).map (·.2)
theorem ordW_perm (w : World) (a : Addr) (x : S4) (ep : Nat) : (ordW w a x ep).Perm (x.es.map (·.2)) := by
  unfold ordW
  refine List.Perm.map _ ?_
  split
  · unfold pickOrder
    refine (pick_perm _ _ _ _ _ (by simp)).trans ?_
    simp
  · exact .refl _
def slotAt (w : World) (x : S4) (i : Nat) : Nat := if w.params.followText "set-order" then 0 else match i with
  | 0 => 0
  | j + 1 => x.vs.getD j 0 + 1
theorem S4.below (x : S4) (w : World) (hb : w.params.followText "set-order" = false) (led : Bool) (i : Nat) (hi : i ≤ x.vs.length) : SetTable.below (x.tab led).place (slotAt w x i) = i := by
  unfold slotAt
  rw [hb]
  simp only [Bool.false_eq_true, if_false]
  have h4 := x.len4
  have : i = 0 ∨ i = 1 ∨ i = 2 ∨ i = 3 ∨ i = 4 := by omega
  rcases x with ⟨_ | _, _ | _, _ | _, _ | _⟩ <;> rcases this with rfl | rfl | rfl | rfl | rfl <;> first | (exfalso; simp [S4.vs, vof] at hi; done) | kernel_rfl
/-- a set's iterator -/
def SIter (w : World) (h : Heap) (it a : Addr) (x : S4) (ep i : Nat) : Prop := h.get? it = some { cls := .type "set_iterator", data := .fields #[rawInt (slotAt w x i), rawInt i, .ref a, rawInt x.vs.length, rawInt ep] }
theorem es_len (x : S4) : x.es.length = x.vs.length := by have := x.len; simpa using this
theorem ordW_len (w : World) (a : Addr) (x : S4) (ep : Nat) : (ordW w a x ep).length = x.vs.length := by
  rw [(ordW_perm w a x ep).length_eq, List.length_map, es_len]
section
variable {prog : Program} {w : World} {A : Around} {E : Value → Shared → Prop} {s : Shared} {a it : Addr} {cl : Value} {dd : Option Addr} {x : S4} {ep : Nat}
theorem pyIter4 {Q : Value → Shared → Prop} (S : SL (model prog w) s.heap (.ref a) "__iter__" "set.__iter__") (ho : s.heap.get? a = some (setO w cl dd x ep))
    (hq : ∀ h', SIter w h' s.heap.objs.size a x ep 0 → (∀ b o, s.heap.get? b = some o → h'.get? b = some o) → h'.objs.size = s.heap.objs.size + 1 → Q (.ref s.heap.objs.size) { s with heap := h' }) : wpAny (model prog w) A (pyIter (.ref a)) Q E s := by
  have hd : (setO w cl dd x ep).data = .set x.es.toArray ep (x.tab (ledW w)) := rfl
  have hf := x.fits (ledW w)
  refine S.iter (S.call entry_set_iter (args_set_iter _) ?_)
  show wpAny _ _ (do
    let s ← Builtin.Frozenset.slot0 "__iter__" ⟨[.ref a], []⟩
    let n ← Builtin.Frozenset.sizeOf s
    let first ← if ← setDrawn s then newTuple ((← drawOrder n (List.range n)).map fun (i : Nat) => rawInt i) else pure (rawInt 0)
    ret (← newFields "set_iterator" [first, rawInt 0, .ref s, rawInt n, rawInt (← setEpoch s)])) _ _ s
  refine wpAny_bind (wpAny_of_eq (a := a) (by rfl) ?_)
  refine wpAny_bind ?_
  unfold Builtin.Frozenset.sizeOf
  refine wpAny_bind (wpAny_setEntries_of ho hd hf (wpAny_pure ?_))
  refine wpAny_bind ?_
  unfold setDrawn setsByText
  refine wpAny_bind (wpAny_setState_of ho hd hf ?_)
  refine wpAny_bind (wpAny_bind (wpAny_askSetting (wpAny_pure ?_)))
  refine wpAny_of_eq (a := false) (by show (pure (!_ && false) : Sem Bool) = pure false; rw [Bool.and_false]) ?_
  simp only [Bool.false_eq_true, if_false]
  refine wpAny_bind (wpAny_pure ?_)
  refine wpAny_bind (wpAny_setEpoch_of ho hd hf ?_)
  refine wpAny_bind ?_
  simp only [newFields]
  refine wpAny_newObj_type (wpAny_pure ⟨_, rfl, "set_iterator", _, ⟨_, Heap.get?_push_size _ rfl, rfl⟩, slot_setiter_next.lookup, ?_⟩) (by size_fits)
  refine hq _ ?_ (fun b o e => Heap.get?_push_of_some _ e) (Heap.size_push ..)
  unfold SIter
  rw [x.len, Heap.get?_push_size _ rfl]
  have e0 : slotAt w x 0 = 0 := by unfold slotAt; split <;> rfl
  rw [e0]; rfl
theorem S4.at (x : S4) (led : Bool) (i : Nat) (hi : i ≤ x.vs.length) : (match x.es.toArray[i]?, (x.tab led).place[i]? with
    | some (_, v), some j => some (v, j + 1)
    | _, _ => none) = (match (x.es.map (·.2))[i]? with
    | some v => some (v, x.vs.getD i 0 + 1)
    | none => none) := by
  have h4 := x.len4
  have : i = 0 ∨ i = 1 ∨ i = 2 ∨ i = 3 ∨ i = 4 := by omega
  rcases x with ⟨_ | _, _ | _, _ | _, _ | _⟩ <;> rcases this with rfl | rfl | rfl | rfl | rfl <;> first | (exfalso; simp [S4.vs, vof] at hi; done) | kernel_rfl
theorem wpAny_next4 {i : Nat} {Q : Option (Value × Nat) → Shared → Prop} (ho : s.heap.get? a = some (setO w cl dd x ep)) (hi : i ≤ x.vs.length)
    (h : Q (match (ordW w a x ep)[i]? with | some v => some (v, slotAt w x (i + 1)) | none => none) s) : wpAny (model prog w) A (setNext a (slotAt w x i) i ep) Q E s := by
  have hd : (setO w cl dd x ep).data = .set x.es.toArray ep (x.tab (ledW w)) := rfl
  have hf := x.fits (ledW w)
  unfold setNext
  refine wpAny_bind (wpAny_setState_of ho hd hf ?_)
  unfold setsByText
  refine wpAny_bind (wpAny_bind (wpAny_askSetting (wpAny_pure ?_)))
  cases hb : w.params.followText "set-order" with
  | true =>
    simp only [show (model prog w).w = w from rfl, hb, if_true, bne_self_eq_false, Bool.false_eq_true, if_false]
    unfold setWalk
    refine wpAny_bind (wpAny_bind (wpAny_setState_of ho hd hf ?_))
    dsimp only
    unfold setsByText
    refine wpAny_bind (wpAny_bind (wpAny_askSetting (wpAny_pure ?_)))
    simp only [show (model prog w).w = w from rfl, hb, if_true]
    refine wpAny_bind (wpAny_askSetting (wpAny_pure (wpAny_pure ?_)))
    have e : (ordW w a x ep)[i]? = ((pickOrder ((model prog w).w.params.setOrder a ep) x.es.toArray)[i]?).map (·.2) := by
      unfold ordW
      rw [if_pos hb, List.getElem?_map, Array.getElem?_toList]; rfl
    rw [e] at h
    have e2 : ∀ j, slotAt w x j = 0 := fun j => by unfold slotAt; rw [hb]; rfl
    simp only [e2] at h ⊢
    cases hq : (pickOrder ((model prog w).w.params.setOrder a ep) x.es.toArray)[i]? with
    | none => rw [hq] at h; exact h
    | some y => rw [hq] at h; exact h
  | false =>
    simp only [show (model prog w).w = w from rfl, hb, Bool.false_eq_true, if_false]
    have e3 : slotAt w x (i + 1) = x.vs.getD i 0 + 1 := by unfold slotAt; rw [hb]; rfl
    rw [e3] at h
    have e : ordW w a x ep = x.es.map (·.2) := by unfold ordW; rw [if_neg (by rw [hb]; decide)]
    rw [e, ← x.at (ledW w) i hi] at h
    have hl : ledW w = true := by unfold ledW; rw [hb]; rfl
    have hbel := x.below w hb true i hi
    rw [hl] at h ⊢
    split
    · rename_i hq
      exact absurd (show false = true from hq) Bool.false_ne_true
    · refine wpAny_bind (wpAny_of_eq (rfl : _ = pure ()) ?_)
      simp only [hbel]
      exact wpAny_pure h
theorem pyNext4_item {i : Nat} {Q : Option Value → Shared → Prop} (hit : SIter w s.heap it a x ep i) (ho : s.heap.get? a = some (setO w cl dd x ep)) (hi : i < x.vs.length)
    (hq : ∀ v h', (ordW w a x ep)[i]? = some v → SIter w h' it a x ep (i + 1) → (∀ b o, b ≠ it → s.heap.get? b = some o → h'.get? b = some o) → Q (some v) { s with heap := h' }) : wpAny (model prog w) A (pyNext (.ref it)) Q E s := by
  have hd : (setO w cl dd x ep).data = .set x.es.toArray ep (x.tab (ledW w)) := rfl
  have hf := x.fits (ledW w)
  have hT : s.TypeIs (.ref it) "set_iterator" := ⟨_, hit, rfl⟩
  unfold pyNext
  refine wpAny_bind (wpAny_attempt (wpAny_callSpecial?_slot (name := Str.ofString "__next__") hT slot_setiter_next
    (wpAny_call_entry slot_setiter_next hT entry_setiter_next ?_ (args_setiter_next _))))
  unfold Builtin.«set_iterator.__next__»
  refine wpAny_bind (wpAny_of_eq (a := (Value.ref it, [])) (by rfl) ?_)
  refine wpAny_bind (wpAny_fieldsOf hit rfl ?_)
  simp only [rawInt]
  refine wpAny_bind (wpAny_setEntries_of ho hd hf ?_)
  simp only [x.len, bne_self_eq_false, Bool.false_eq_true, if_false, Int.toNat_natCast]
  refine wpAny_bind (wpAny_next4 ho (Nat.le_of_lt hi) ?_)
  have hlt : i < (ordW w a x ep).length := by rw [ordW_len]; exact hi
  rw [List.getElem?_eq_getElem hlt]
  dsimp only
  refine wpAny_bind (wpAny_setField_rec hit (by simp) fun h1 e1 k1 => ?_)
  refine wpAny_bind (wpAny_setField_rec e1 (by simp) fun h2 e2 k2 => ?_)
  refine wpAny_pure ⟨_, rfl, wpAny_pure (hq _ _ (List.getElem?_eq_getElem hlt) ?_ fun b o hb e => (k2.extBut b o hb (k1.extBut b o hb e)))⟩
  unfold SIter
  rw [e2]
  rfl
theorem pyNext4_end {Q : Option Value → Shared → Prop} (hh : A.handled = none) (hit : SIter w s.heap it a x ep x.vs.length) (ho : s.heap.get? a = some (setO w cl dd x ep))
    (hq : ∀ h', (∀ b o, b ≠ it → s.heap.get? b = some o → h'.get? b = some o) → Q none { s with heap := h' }) : wpAny (model prog w) A (pyNext (.ref it)) Q E s := by
  have hd : (setO w cl dd x ep).data = .set x.es.toArray ep (x.tab (ledW w)) := rfl
  have hf := x.fits (ledW w)
  have hT : s.TypeIs (.ref it) "set_iterator" := ⟨_, hit, rfl⟩
  unfold pyNext
  refine wpAny_bind (wpAny_attempt (wpAny_callSpecial?_slot (name := Str.ofString "__next__") hT slot_setiter_next
    (wpAny_call_entry slot_setiter_next hT entry_setiter_next ?_ (args_setiter_next _))))
  unfold Builtin.«set_iterator.__next__»
  refine wpAny_bind (wpAny_of_eq (a := (Value.ref it, [])) (by rfl) ?_)
  refine wpAny_bind (wpAny_fieldsOf hit rfl ?_)
  simp only [rawInt]
  refine wpAny_bind (wpAny_setEntries_of ho hd hf ?_)
  simp only [x.len, bne_self_eq_false, Bool.false_eq_true, if_false, Int.toNat_natCast]
  refine wpAny_bind (wpAny_next4 ho (Nat.le_refl _) ?_)
  rw [List.getElem?_eq_none (by rw [ordW_len]; exact Nat.le_refl _)]
  dsimp only
  refine wpAny_bind (wpAny_setField_rec hit (by simp) fun h1 e1 k1 => ?_)
  show wpAny _ _ (newExc (.type "StopIteration") [] >>= _) _ _ _
  refine wpAny_bind ?_
  simp only [newExc, newTuple]
  refine wpAny_bind (wpAny_newObj_type ?_ (by size_fits))
  refine wpAny_bind (m := firstArgMember _ _) (wpAny_of_eq (a := Value.none) (by first | rfl | (simp only [firstArgMember]; rfl)) ?_)
  refine wpAny_newObj_type ?_ (by size_fits)
  simp only [raiseNew]
  refine wpAny_bind (wpAny_handled ?_)
  rw [show A.in1.handled = none from hh]
  refine wpAny_bind (wpAny_pure (wpAny_throw ?_))
  refine wpAny_bind (wpAny_isInstance (T := "StopIteration") (b := true) ⟨_, Heap.get?_push_size _ rfl, rfl⟩ isSubtype_stop ?_)
  exact wpAny_pure (hq _ fun b o hb e => ((k1.extBut.push _).push _) b o hb e)
end
theorem Walks.set4 {prog : Program} {w : World} {A : Around} (hh : A.handled = none) (I a : Addr) (hne : a ≠ I) (cl : Value) (dd : Option Addr) (x : S4) (ep : Nat) :
    Walks prog w A I [I, a] [I] x.vs.length (fun i v => (ordW w a x ep)[i]? = some v) (fun i h => SIter w h I a x ep i ∧ h.get? a = some (setO w cl dd x ep)) where
  sub := fun b hb => by simp at hb; simp [hb]
  frame := fun _ _ _ st hk => ⟨hk I (by simp) _ st.1, hk a (by simp) _ st.2⟩
  item := fun i s Q E hi st hQ => pyNext4_item st.1 st.2 hi fun v h' hv hit' hk => hQ v h' s.toks hv ⟨hit', hk _ _ hne st.2⟩ fun b o hb e => hk b o (fun h => hb (by simp [h])) e
  done := fun s Q E st hQ => pyNext4_end hh st.1 st.2 fun h' hk => hQ h' s.toks fun b o hb e => hk b o (fun h => hb (by simp [h])) e
  self := fun i s Q E st hQ => by
    have hT : s.TypeIs (.ref I) "set_iterator" := ⟨_, st.1, rfl⟩
    refine wpAny_pyIter_slot hT slot_setiter_iter (wpAny_call_entry slot_setiter_iter hT entry_setiter_iter ?_ (args_setiter_iter _))
    show wpAny _ _ (ret (.ref I)) _ _ s
    exact wpAny_pure ⟨_, rfl, "set_iterator", _, hT, slot_setiter_next.lookup, hQ⟩
end
section
open PySem.W.X (Led)
open PyProof.Rows PySem.Calls PySem.Spec
def S4.putAll (x : S4) (val : Nat → Nat) (tks : Nat → Tok) : Nat → S4
  | 0 => x
  | i + 1 => let y := putAll x val tks i; match y.get (val i) with
    | some _ => y
    | none => y.put (val i) (tks i)
theorem S4.get_put (x : S4) (v u : Nat) (t : Tok) (hv : v < 4) : ((x.put v t).get u).isSome = ((x.get u).isSome || decide (u = v)) := by
  have : v = 0 ∨ v = 1 ∨ v = 2 ∨ v = 3 := by omega
  have h2 : u = 0 ∨ u = 1 ∨ u = 2 ∨ u = 3 ∨ 4 ≤ u := by omega
  rcases this with rfl | rfl | rfl | rfl <;> rcases h2 with rfl | rfl | rfl | rfl | h2 <;> first | (cases x; simp [S4.put, S4.get]; done) | (obtain ⟨u, rfl⟩ : ∃ k, u = k + 4 := ⟨u - 4, by omega⟩; simp [S4.put, S4.get])
theorem S4.vs_filter (x : S4) : x.vs = [0, 1, 2, 3].filter (fun v => (x.get v).isSome) := by
  rcases x with ⟨_ | _, _ | _, _ | _, _ | _⟩ <;> rfl
/-- a set's elements, told by a list -/
def Holds4 (x : S4) (ns : List Nat) : Prop := ∀ u, (x.get u).isSome = decide (u ∈ ns)
theorem Holds4.vs {x : S4} {ns : List Nat} (h : Holds4 x ns) : x.vs = [0, 1, 2, 3].filter (fun v => decide (v ∈ ns)) := by
  rw [x.vs_filter]; congr 1; funext v; exact h v
theorem Holds4.nil : Holds4 S4.nil [] := fun u => by
  match u with
  | 0 | 1 | 2 | 3 => rfl
  | u + 4 => rfl
theorem Holds4.add {x : S4} {ns : List Nat} (h : Holds4 x ns) (v : Nat) (t : Tok) (hv : v < 4) : Holds4 (x.put v t) (ns ++ [v]) := fun u => by
  rw [S4.get_put _ _ _ _ hv, h u]; simp only [List.mem_append, List.mem_singleton]
  by_cases a : u ∈ ns <;> by_cases b : u = v <;> simp [a, b]
theorem Holds4.same {x : S4} {ns : List Nat} (h : Holds4 x ns) (v : Nat) (hs : (x.get v).isSome = true) : Holds4 x (ns ++ [v]) := fun u => by
  rw [h u]; simp only [List.mem_append, List.mem_singleton]
  by_cases b : u = v
  · subst b; rw [h u] at hs; simp at hs; simp [hs]
  · by_cases a : u ∈ ns <;> simp [a, b]
section
variable {prog : Program} {w : World} {A : Around} {R : Result → Shared → Prop} {I : Addr} {fp wr : List Addr} {n : Nat} {P : Nat → Value → Prop} {St : Nat → Heap → Prop} {cl : Value} {dd : Option Addr}
theorem upd_loop4 (W : Walks prog w A.in1 I fp wr n P St) (S : Addr) (hSf : S ∉ fp) (ns : List Nat) (hval : ∀ i v, P i v → ∃ t u, ns[i]? = some u ∧ u < 4 ∧ v = .int (u : Int) t) (hn : ns.length = n) :
    ∀ (k i : Nat) (x : S4) (ep : Nat) (s : Shared), n - i = k → i ≤ n → St i s.heap → s.heap.get? S = some (setO w cl dd x ep) → Holds4 x (ns.take i) →
      (∀ x' ep' h' tk, h'.get? S = some (setO w cl dd x' ep') → Holds4 x' ns → (∀ b o, b ≠ S → b ∉ wr → s.heap.get? b = some o → h'.get? b = some o) → R (.ok (.ret .none)) { s with heap := h', toks := tk }) →
      codeAny (model prog w) A (.builtin "set.update.loop" ⟨[.ref S, .ref I], []⟩) R s := by
  have hSw : S ∉ wr := fun h => hSf (W.sub _ h)
  intro k
  induction k with
  | zero =>
    intro i x ep s hk hi hst hS hH hR
    have hin : i = n := by omega
    subst hin
    refine codeAny_builtin F.entry_set_update_loop ?_
    rw [Around.under_plainId F.plain_set_update_loop _]
    show wpAny _ A.in1 (pyNext (.ref I) >>= _) _ _ s
    refine wpAny_bind (W.done s _ _ hst fun h' tk hk => ?_)
    show wpAny _ A.in1 (ret Value.none) _ _ _
    refine wpAny_pure (hR x ep h' tk (hk _ _ hSw hS) ?_ fun b o _ hb e => hk b o hb e)
    rwa [← hn, List.take_length] at hH
  | succ k ih =>
    intro i x ep s hk hi hst hS hH hR
    have hlt : i < n := by omega
    refine codeAny_builtin F.entry_set_update_loop ?_
    rw [Around.under_plainId F.plain_set_update_loop _]
    show wpAny _ A.in1 (pyNext (.ref I) >>= _) _ _ s
    refine wpAny_bind (W.item i s _ _ hlt hst fun v h1 tk1 hP hst1 hk1 => ?_)
    obtain ⟨t, u, hu, hu4, rfl⟩ := hval i v hP
    have hS1 := hk1 _ _ hSw hS
    show wpAny _ A.in1 (holding [Value.int (u : Int) t] (setAdd S (.int (u : Int) t)) >>= _) _ _ _
    refine wpAny_bind (wpAny_holding ?_)
    unfold setAdd
    refine wpAny_holding ?_
    refine wpAny_bind ((intKind prog w).pyHash (k := (u : Int)) (intKind_is _ _ _ _) ?_)
    have htake : ns.take (i + 1) = ns.take i ++ [u] := by
      rw [List.take_add_one, hu]; rfl
    rw [ihash u hu4]
    refine wpAny_add4 (s := { s with heap := h1, toks := tk1 + 1 }) (tk := t) hu4 hS1 (fun hs => ?_) (fun hs h2 hsb hS2 => ?_)
    · refine wpAny_pure ⟨plainId_quiet F.plain_set_update_loop _, ih (i + 1) x ep _ (by omega) hlt hst1 hS1 (by rw [htake]; exact hH.same u hs) fun x' ep' h' tk' e1 e2 e3 => ?_⟩
      exact hR x' ep' h' tk' e1 e2 fun b o hb hb2 e => e3 b o hb hb2 (hk1 b o hb2 e)
    · have keep : ∀ b o, b ≠ S → h1.get? b = some o → h2.get? b = some o := fun b o hb e => (hsb.2 b hb).trans e
      refine wpAny_pure ⟨plainId_quiet F.plain_set_update_loop _, ih (i + 1) (x.put u t) (ep + 1) _ (by omega) hlt (W.frame _ _ _ hst1 fun b hb o e => keep b o (fun h => hSf (h ▸ hb)) e) hS2 (by rw [htake]; exact hH.add u t hu4) fun x' ep' h' tk' e1 e2 e3 => ?_⟩
      exact hR x' ep' h' tk' e1 e2 fun b o hb hb2 e => e3 b o hb hb2 (keep b o hb (hk1 b o hb2 e))
end
end
section
open PySem.W.X (Led)
open PyProof.Rows PySem.Calls PySem.Spec
theorem SL.keeps {M : Model} {h h' : Heap} {v : Value} {name : Str} {id : String} (S : SL M h v name id) (k : ∀ b o, h.get? b = some o → h'.get? b = some o) : SL M h' v name id :=
  ⟨S.look.keeps k, S.bind, fun A E s rest Q k2 => S.check A E s rest Q fun b o e => k2 b o (k b o e), S.plain⟩
structure SetLike (M : Model) (h : Heap) (a : Addr) : Prop where
  inst : Looks M h (isInstance (.ref a) (.type "set")) true
  cut : ∀ (A : Around) (E : Value → Shared → Prop) (s : Shared) (Q : String → Shared → Prop), (∀ b o, h.get? b = some o → s.heap.get? b = some o) → (∀ n, Q n s) → wpAny M A (typeNameOfCut 200 (.ref a)) Q E s
  iter : SL M h (.ref a) "__iter__" "set.__iter__"
  len : SL M h (.ref a) "__len__" "set.__len__"
theorem SetLike.keeps {M : Model} {h h' : Heap} {a : Addr} (S : SetLike M h a) (k : ∀ b o, h.get? b = some o → h'.get? b = some o) : SetLike M h' a :=
  ⟨S.inst.keeps k, fun A E s Q k2 => S.cut A E s Q fun b o e => k2 b o (k b o e), S.iter.keeps k, S.len.keeps k⟩
theorem SL.own {w : World} {h : Heap} {a : Addr} {o : Obj} {name : Str} {id owner n : String} (X : (hd.heap_39 w.params).In h) (ho : h.get? a = some o) (hc : o.cls = .ref 75) (hl : findIn (hd.heap_39 w.params) (.ref 75) name = some (some (.builtin id)))
    (hsplit : splitId id = some (owner, n)) (hop : withoutEnding? id "#opaque" = none) (hdat : withoutEnding? id "#data" = none)
    (hkind : (Manifest.find? owner).bind (·.attrs.lookup n) = some .slot ∨ (Manifest.find? owner).bind (·.attrs.lookup n) = some .method)
    (hsub : subIn (hd.heap_39 w.params) (.ref 75) (.type owner) = some true) (hq : plainId id = true) : SL (model PG w) h (.ref a) name id := by
  have hk : builtinKind id = (Manifest.find? owner).bind (·.attrs.lookup n) := by simp only [builtinKind, hsplit]
  have L1 : Looks (model PG w) h (typeOf (.ref a)) (.ref 75) := hc ▸ (Looks.ld ho).andThen .now
  refine ⟨L1.andThen (looks_findIn X hl), ?_, fun A E s rest Q k ha hQ => ?_, hq⟩
  · rcases hkind with h | h <;> (simp only [bindSpecial, typeOf, builtinType, hop, hdat, hk, h]; rfl)
  · have L2 : Looks (model PG w) h (isInstance (.ref a) (.type owner)) true := L1.andThen (looks_subIn X hsub)
    rcases hkind with h | h <;>
    · simp only [checkBuiltinCall, hk, h, hsplit]
      refine wpAny_bind (L2 A _ E s k ?_)
      simp only [Bool.not_true, Bool.false_eq_true, if_false]
      cases hsig : Manifest.signature? id with
      | none => exact wpAny_pure hQ
      | some sig =>
        simp only [argsOk, hsig] at ha
        have h2 : Bind.checkArgs id sig ⟨.ref a :: rest, []⟩ = pure () := ha
        show wpAny _ A (Bind.checkArgs id sig ⟨.ref a :: rest, []⟩) Q E s
        rw [h2]; exact wpAny_pure hQ
theorem SetLike.cs {w : World} {h : Heap} {a : Addr} {dd : Option Addr} {x : S4} {ep : Nat} (X : (hd.heap_39 w.params).In h) (ho : h.get? a = some (setO w (.ref 75) dd x ep)) : SetLike (model PG w) h a := by
  have L1 : Looks (model PG w) h (typeOf (.ref a)) (.ref 75) := (Looks.ld ho).andThen .now
  refine ⟨L1.andThen (looks_subIn X (by kernel_rfl!)), fun A E s Q k q => ?_, SL.own (owner := "set") (n := "__iter__") X ho rfl (by kernel_rfl!) (by decide +kernel) (by decide +kernel) (by decide +kernel) (by first | exact .inl (by decide +kernel) | exact .inr (by decide +kernel)) (by kernel_rfl!) (by decide +kernel),
    SL.own (owner := "set") (n := "__len__") X ho rfl (by kernel_rfl!) (by decide +kernel) (by decide +kernel) (by decide +kernel) (by first | exact .inl (by decide +kernel) | exact .inr (by decide +kernel)) (by kernel_rfl!) (by decide +kernel)⟩
  have hcls : (clsIn (hd.heap_39 w.params) 75).map (·.name) = some "CandidateSet" := by kernel_rfl!
  obtain ⟨cd, hc, hn⟩ := Option.map_eq_some_iff.mp hcls
  unfold typeNameOfCut shownTypeOf
  refine wpAny_bind (wpAny_bind (L1 A _ E s k ?_))
  rw [if_neg (show ¬ ((Value.ref 75 == Value.type "builtin_function_or_method") = true) from by decide)]
  refine wpAny_pure ?_
  have hld : ∃ o, s.heap.get? 75 = some o ∧ o.data = .cls cd := by
    unfold clsIn at hc
    split at hc
    · rename_i ho; cases hc; exact ⟨_, k _ _ (X _ _ ho), rfl⟩
    · cases hc
  obtain ⟨o, h1, h2⟩ := hld
  show wpAny _ _ (classData 75 >>= _) _ _ _
  unfold classData
  refine wpAny_bind (wpAny_bind (wpAny_load h1 ?_))
  rw [h2]
  refine wpAny_pure ?_
  rw [hn]
  exact wpAny_pure (q _)
theorem SetLike.set {w : World} {h : Heap} {a : Addr} {x : S4} {ep : Nat} (ho : h.get? a = some (setO w (.type "set") none x ep)) : SetLike (model PG w) h a := by
  have L1 : Looks (model PG w) h (typeOf (.ref a)) (.type "set") := (Looks.ld ho).andThen .now
  refine ⟨L1.andThen (Looks.of_pure sub_set_self), fun A E s Q k q => ?_, SL.ofT slot_set_iter ho rfl, SL.ofT F.slot_set_len ho rfl⟩
  unfold typeNameOfCut shownTypeOf
  refine wpAny_bind (wpAny_bind (L1 A _ E s k ?_))
  rw [if_neg (show ¬ ((Value.type "set" == Value.type "builtin_function_or_method") = true) from by decide)]
  refine wpAny_pure ?_
  exact wpAny_pure (q _)
end
section
open PySem.W.X (Led)
open PyProof.Rows PySem.Calls PySem.Spec
/-- a source of small ints: a list, a tuple, a set -/
inductive Src (w : World) (h : Heap) (a : Addr) (vs : List Value) : Prop
  | list : h.IsList a vs.toArray → Src w h a vs
  | tup : h.IsTuple a vs.toArray → Src w h a vs
  | set {cl dd x ep} : h.get? a = some (setO w cl dd x ep) → SetLike (model PG w) h a → vs = ordW w a x ep → Src w h a vs
theorem Src.keeps {w : World} {h h' : Heap} {a : Addr} {vs : List Value} (S : Src w h a vs) (k : ∀ b o, h.get? b = some o → h'.get? b = some o) : Src w h' a vs := by
  cases S with
  | list x => obtain ⟨o, e, r⟩ := x; exact .list ⟨o, k _ _ e, r⟩
  | tup x => obtain ⟨o, e, r⟩ := x; exact .tup ⟨o, k _ _ e, r⟩
  | set x y z => exact .set (k _ _ x) (y.keeps k) z
theorem Src.lt {w : World} {h : Heap} {a : Addr} {vs : List Value} (S : Src w h a vs) : a < h.objs.size := by
  cases S with
  | list x => obtain ⟨o, e, r⟩ := x; exact Heap.lt_size e
  | tup x => obtain ⟨o, e, r⟩ := x; exact Heap.lt_size e
  | set x y z => exact Heap.lt_size x
section
variable {w : World} {A : Around} {E : Value → Shared → Prop} {s : Shared} {a S : Addr} {cl : Value} {dd : Option Addr} {x : S4} {ep : Nat} {vs : List Value}
theorem Src.iter {Q : Value → Shared → Prop} (Z : Src w s.heap a vs)
    (hq : ∀ h' St, (∀ A' : Around, A'.handled = none → Walks (model PG w).prog w A' s.heap.objs.size [s.heap.objs.size, a] [s.heap.objs.size] vs.length (fun i v => vs[i]? = some v) St) → St 0 h' → (∀ b o, s.heap.get? b = some o → h'.get? b = some o) → h'.objs.size = s.heap.objs.size + 1 → (∃ o, h'.get? s.heap.objs.size = some o) →
      Q (.ref s.heap.objs.size) { s with heap := h' }) : wpAny (model PG w) A (pyIter (.ref a)) Q E s := by
  have hne : a ≠ s.heap.objs.size := Nat.ne_of_lt Z.lt
  cases Z with
  | list x =>
    refine wpAny_pyIter_list x ?_
    refine hq _ (fun i h => h.IsListIter s.heap.objs.size a i ∧ h.IsList a vs.toArray) (fun A' hA => ?_) ?_ (fun b o e => Heap.get?_push_of_some _ e) (Heap.size_push ..) ⟨_, Heap.get?_push_size _ rfl⟩
    · have := Walks.list (prog := (model PG w).prog) (w := w) hA s.heap.objs.size a hne vs.toArray
      simpa using this
    · exact And.intro ⟨_, Heap.get?_push_size _ rfl, rfl, rfl⟩ (x.push _)
  | tup x =>
    refine wpAny_pyIter_tuple x ?_
    refine hq _ (fun i h => h.IsTupleIter s.heap.objs.size a i ∧ h.IsTuple a vs.toArray) (fun A' hA => ?_) ?_ (fun b o e => Heap.get?_push_of_some _ e) (Heap.size_push ..) ⟨_, Heap.get?_push_size _ rfl⟩
    · have := Walks.tuple (prog := (model PG w).prog) (w := w) hA s.heap.objs.size a hne vs.toArray
      simpa using this
    · exact And.intro ⟨_, Heap.get?_push_size _ rfl, rfl, rfl⟩ (x.push _)
  | set x y z =>
    subst z
    refine pyIter4 y.iter x fun h' h1 h2 h3 => ?_
    refine hq h' (fun i h => SIter w h s.heap.objs.size a _ _ i ∧ h.get? a = some (setO w _ _ _ _)) (fun A' hA => ?_) (And.intro h1 (h2 _ _ x)) h2 h3 ⟨_, h1⟩
    rw [ordW_len]
    exact Walks.set4 (prog := (model PG w).prog) (w := w) hA s.heap.objs.size a hne _ _ _ _
end
end
section
open PySem.W.X (Led)
open PyProof.Rows PySem.Calls PySem.Spec
theorem S4.nil_of {x : S4} (h : x.es.toArray.isEmpty = true) : x = S4.nil := by
  rcases x with ⟨_ | _, _ | _, _ | _, _ | _⟩ <;> first | rfl | (exfalso; simp [S4.es, ent] at h; done)
theorem S4.room0 (x : S4) (led : Bool) : ((S4.nil).tab led).roomFor x.es.toArray.size = none := by
  rw [x.len]
  have := x.len4
  have h : x.vs.length = 0 ∨ x.vs.length = 1 ∨ x.vs.length = 2 ∨ x.vs.length = 3 ∨ x.vs.length = 4 := by omega
  rcases h with h | h | h | h | h <;> rw [h] <;> kernel_rfl
section
variable {w : World} {A : Around} {E : Value → Shared → Prop} {s : Shared} {a S : Addr} {cl cl' : Value} {dd dd' : Option Addr} {x : S4} {ep ep' : Nat} {vs : List Value}
theorem setMerge4 {each : Sem Unit} {Q : Unit → Shared → Prop} (hne : S ≠ a) (hS : s.heap.get? S = some (setO w cl dd S4.nil ep)) (ho : s.heap.get? a = some (setO w cl' dd' x ep'))
    (hq : ∀ h' e, h'.get? S = some (setO w cl dd x e) → Heap.SameBut S s.heap h' → Q () { s with heap := h' }) : wpAny (model PG w) A (setMerge S a each) Q E s := by
  unfold setMerge
  rw [if_neg (by simpa using hne)]
  refine wpAny_bind (wpAny_setState_of ho rfl (x.fits _) ?_)
  dsimp only
  split
  · rename_i he
    have := S4.nil_of he
    subst this
    exact wpAny_pure (hq s.heap ep hS (Heap.SameBut.refl S s.heap))
  · refine wpAny_bind ?_
    unfold setRoomFor
    refine wpAny_bind (wpAny_setState_of hS rfl (S4.nil.fits _) ?_)
    dsimp only
    rw [S4.room0]
    refine wpAny_pure ?_
    refine wpAny_bind (wpAny_setState_of hS rfl (S4.nil.fits _) ?_)
    dsimp only
    have hroad : ((S4.nil).tab (ledW w)).road (x.tab (ledW w)) = .slotForSlot := by
      unfold SetTable.road
      rw [if_neg (by show ¬ ((0 + 0 != 0) = true); decide), if_pos (by rfl)]
    rw [hroad]
    dsimp only
    have ht : ({ x.tab (ledW w) with finger := (S4.nil.tab (ledW w)).finger, led := (S4.nil.tab (ledW w)).led && (x.tab (ledW w)).led, moves := (S4.nil.tab (ledW w)).moves, plain := (S4.nil.tab (ledW w)).plain && (x.tab (ledW w)).plain } : SetTable) = x.tab (ledW w) := by
      show ({ x.tab (ledW w) with finger := 0, led := (ledW w && ledW w), moves := 0, plain := true } : SetTable) = _
      rw [Bool.and_self]; rfl
    rw [ht]
    have hz2 : x.es.toArray.size ≤ sizeLine := by rw [S4.len, sizeLine_eq]; have := x.len4; omega
    refine wpAny_storeSet_of hS rfl ?_ hz2
    have hg := Heap.get?_update_self (Obj.putSet x.es.toArray (x.tab (ledW w))) hS (by rw [putSet_of _ _ (rfl : (setO w cl dd S4.nil ep).data = .set _ ep _)]; rfl)
    rw [putSet_of _ _ (rfl : (setO w cl dd S4.nil ep).data = .set _ ep _)] at hg
    exact hq _ (ep + 1) hg (Heap.SameBut.update ..)
/-- the ints of a source -/
def IntsN (vs : List Value) (ns : List Nat) : Prop := vs.length = ns.length ∧ ∀ (i : Nat) (v : Value), vs[i]? = some v → ∃ (t : Tok) (u : Nat), ns[i]? = some u ∧ u < 4 ∧ v = .int (u : Int) t
theorem not_set_list {h : Heap} {a : Addr} {its : Array Value} (x : h.IsList a its) : Looks (model PG w) h (isInstance (.ref a) (.type "set")) false ∧ Looks (model PG w) h (isInstance (.ref a) (.type "frozenset")) false ∧ Looks (model PG w) h (typeOf (.ref a)) (.type "list") := by
  obtain ⟨o, e, hc, _⟩ := x
  have L1 : Looks (model PG w) h (typeOf (.ref a)) (.type "list") := hc ▸ (Looks.ld e).andThen .now
  exact ⟨L1.andThen (Looks.of_pure F.sub_list_set), L1.andThen (Looks.of_pure F.sub_list_frozenset), L1⟩
theorem not_set_tup {h : Heap} {a : Addr} {its : Array Value} (x : h.IsTuple a its) : Looks (model PG w) h (isInstance (.ref a) (.type "set")) false ∧ Looks (model PG w) h (isInstance (.ref a) (.type "frozenset")) false ∧ Looks (model PG w) h (typeOf (.ref a)) (.type "tuple") := by
  obtain ⟨o, e, hc, _⟩ := x
  have L1 : Looks (model PG w) h (typeOf (.ref a)) (.type "tuple") := hc ▸ (Looks.ld e).andThen .now
  exact ⟨L1.andThen (Looks.of_pure F.sub_tuple_set), L1.andThen (Looks.of_pure F.sub_tuple_frozenset), L1⟩
theorem ent_mem (k : Nat) (o : Option Tok) (v : Value) : v ∈ (ent k o).map (·.2) ↔ ∃ t : Tok, o = some t ∧ v = .int (k : Int) t := by
  cases o with
  | none => simp [ent]
  | some t => simp [ent]
theorem S4.es_mem (x : S4) (v : Value) : v ∈ x.es.map (·.2) ↔ ∃ (u : Nat) (t : Tok), x.get u = some t ∧ v = .int (u : Int) t := by
  simp only [S4.es, List.map_append, List.mem_append, ent_mem]
  constructor
  · rintro (⟨t, h, e⟩ | ⟨t, h, e⟩ | ⟨t, h, e⟩ | ⟨t, h, e⟩)
    · exact ⟨0, t, h, e⟩
    · exact ⟨1, t, h, e⟩
    · exact ⟨2, t, h, e⟩
    · exact ⟨3, t, h, e⟩
  · rintro ⟨u, t, h, e⟩
    have h2 : u = 0 ∨ u = 1 ∨ u = 2 ∨ u = 3 ∨ 4 ≤ u := by omega
    rcases h2 with rfl | rfl | rfl | rfl | h2
    · exact .inl ⟨t, h, e⟩
    · exact .inr (.inl ⟨t, h, e⟩)
    · exact .inr (.inr (.inl ⟨t, h, e⟩))
    · exact .inr (.inr (.inr ⟨t, h, e⟩))
    · obtain ⟨u, rfl⟩ : ∃ k, u = k + 4 := ⟨u - 4, by omega⟩
      cases h
theorem holds_ord {a : Addr} {x : S4} {ep : Nat} {ns : List Nat} (h : IntsN (ordW w a x ep) ns) : Holds4 x ns := by
  have hp := ordW_perm w a x ep
  intro u
  have key : (x.get u).isSome = true ↔ u ∈ ns := by
    constructor
    · intro hs
      obtain ⟨t, ht⟩ := Option.isSome_iff_exists.mp hs
      have hm := hp.mem_iff.mpr ((x.es_mem (.int (u : Int) t)).mpr ⟨u, t, ht, rfl⟩)
      obtain ⟨i, hi⟩ := List.getElem?_of_mem hm
      obtain ⟨t', u', h1, _, h3⟩ := h.2 i _ hi
      have : (u : Int) = (u' : Int) := by injection h3
      rw [Int.ofNat_inj.mp this]
      exact List.mem_of_getElem? h1
    · intro hm
      obtain ⟨i, hi⟩ := List.getElem?_of_mem hm
      have hlt : i < (ordW w a x ep).length := by
        rw [h.1]; exact (List.getElem?_eq_some_iff.mp hi).1
      obtain ⟨t', u', h1, _, h3⟩ := h.2 i _ (List.getElem?_eq_getElem hlt)
      rw [hi] at h1; cases h1
      have hm2 := hp.mem_iff.mp (List.getElem_mem hlt)
      rw [h3] at hm2
      obtain ⟨u2, t2, e1, e2⟩ := (x.es_mem _).mp hm2
      have : (u : Int) = (u2 : Int) := by injection e2
      rw [Int.ofNat_inj.mp this, e1]; rfl
  cases q : (x.get u).isSome with
  | true => rw [q] at key; exact (decide_eq_true (key.mp rfl)).symm
  | false => 
    rw [q] at key
    exact (decide_eq_false (fun hm => by cases key.mpr hm)).symm
theorem setUpd4 {id : String} {ns : List Nat} {Q : Unit → Shared → Prop} (hh : A.handled = none) (hne : S ≠ a) (hS : s.heap.get? S = some (setO w cl dd S4.nil ep)) (Z : Src w s.heap a vs) (hi : IntsN vs ns)
    (hq : ∀ h' tk e x', h'.get? S = some (setO w cl dd x' e) → Holds4 x' ns → (∀ b o, b ≠ S → s.heap.get? b = some o → h'.get? b = some o) → Q () { s with heap := h', toks := tk }) : wpAny (model PG w) A (Builtin.Frozenset.updateFrom id S (.ref a)) Q E s := by
  unfold Builtin.Frozenset.updateFrom Builtin.Frozenset.isAnySet
  have loop : ∀ (Z : Src w s.heap a vs), wpAny (model PG w) A (pyIter (.ref a)) (fun it s' => wpAny (model PG w) A (do let _ ← runValue (.builtin "set.update.loop" ⟨[.ref S, it], []⟩)) Q E s') E s := fun Z => by
    refine Z.iter fun h' St W st hk hsz _ => ?_
    refine wpAny_bind (wpAny_runValue ?_)
    have hSl : S < s.heap.objs.size := Heap.lt_size hS
    refine upd_loop4 (W A.in1 hh) S (by simp; exact ⟨Nat.ne_of_lt hSl, hne⟩) ns (fun i v hv => ?_) hi.1.symm _ 0 S4.nil ep _ rfl (Nat.zero_le _) st (hk _ _ hS) Holds4.nil fun x' ep' h2 tk e1 e2 e3 => ?_
    · obtain ⟨t, u, h1, h2, h3⟩ := hi.2 i v hv; exact ⟨t, u, h1, h2, h3⟩
    · refine wpAny_pure (hq h2 tk ep' x' e1 e2 fun b o hb e => e3 b o hb (fun hm => ?_) (hk _ _ e))
      rw [List.mem_singleton] at hm; subst hm
      exact Nat.lt_irrefl _ (Heap.lt_size e)
  obtain ⟨hh0, g, d, tt, os⟩ := s
  cases Z with
  | list y =>
    have hloop := loop (.list y)
    obtain ⟨h1, h2, h3⟩ := not_set_list (w := w) y
    generalize pyIter = PI at hloop ⊢
    repeat lk
    exact hloop
  | tup y =>
    have hloop := loop (.tup y)
    obtain ⟨h1, h2, h3⟩ := not_set_tup (w := w) y
    generalize pyIter = PI at hloop ⊢
    repeat lk
    exact hloop
  | set y1 y2 y3 => 
    have h1 := y2.inst
    have hm : wpAny (model PG w) A (Builtin.Frozenset.merge id S a) Q E ⟨hh0, g, d, tt, os⟩ := by
      unfold Builtin.Frozenset.merge
      refine wpAny_bind (wpAny_setEpoch_of y1 rfl (S4.fits _ _) ?_)
      refine setMerge4 hne hS y1 fun h' e e1 e2 => ?_
      subst y3
      exact hq h' tt e _ e1 (holds_ord hi) fun b o hb e => (e2.2 b hb).trans e
    generalize Builtin.Frozenset.merge = MG at hm ⊢
    repeat lk
    exact hm
end
end
section
open PySem.W.X (Led)
open PyProof.Rows PySem.Calls PySem.Spec
section
variable {w : World} {A : Around} {E : Value → Shared → Prop} {s : Shared} {a S : Addr} {cl cl' : Value} {dd dd' : Option Addr} {x : S4} {ep ep' : Nat} {vs : List Value}
theorem setInitB {ns : List Nat} {Q : Fin → Shared → Prop} (hh : A.handled = none) (L : SetLike (model PG w) s.heap S) (hne : S ≠ a) (hS : s.heap.get? S = some (setO w cl dd S4.nil ep)) (Z : Src w s.heap a vs) (hi : IntsN vs ns)
    (hq : ∀ h' tk e x', h'.get? S = some (setO w cl dd x' e) → Holds4 x' ns → (∀ b o, b ≠ S → s.heap.get? b = some o → h'.get? b = some o) → Q (.done (.ret .none)) { s with heap := h', toks := tk }) :
    wpAny (model PG w) A (Builtin.«set.__init__» ⟨[.ref S, .ref a], []⟩) Q E s := by
  unfold Builtin.«set.__init__»
  refine wpAny_bind (wpAny_of_eq (rfl : noKeywords "set" ⟨[.ref S, .ref a], []⟩ = pure ()) ?_)
  dsimp only
  refine wpAny_bind (L.cut _ _ _ _ (fun _ _ e => e) fun n => ?_)
  refine wpAny_bind (wpAny_of_eq (by rfl : checkCount n 0 1 [Value.ref a].length = pure ()) ?_)
  refine wpAny_bind (wpAny_of_eq (by rfl : Builtin.Frozenset.addrOf (.ref S) = pure S) ?_)
  refine wpAny_bind ?_
  unfold setUsed
  refine wpAny_bind (wpAny_setState_of hS rfl (S4.nil.fits _) (wpAny_pure ?_))
  rw [if_neg (by show ¬ ((0 + 0 != 0) = true); decide)]
  refine wpAny_bind (setUpd4 hh hne hS Z hi fun h' tk e x' e1 e2 e3 => ?_)
  exact wpAny_pure (hq h' tk e x' e1 e2 e3)
theorem newSet4 {cl : Value} {Q : Value → Shared → Prop} (hc : cl = .type "set")
    (hq : ∀ h', h' = s.heap.push (setO w (.type "set") none S4.nil 0) → Q (.ref s.heap.objs.size) { s with heap := h' }) : wpAny (model PG w) A (newSet cl) Q E s := by
  subst hc
  unfold newSet setsByText
  refine wpAny_bind (wpAny_bind (wpAny_askSetting (wpAny_pure ?_)))
  dsimp only
  simp only [newObj]
  exact wpAny_bind (wpAny_alloc (wpAny_pure (hq _ rfl)))
theorem walkUnseen4 {L : List Addr} {f : Option Addr} {Q : Array (Int × Value) → Shared → Prop} (ho : s.heap.get? a = some (setO w cl dd x ep))
    (h : ∀ es : Array (Int × Value), es.toList.Perm x.es → Q es s) : wpAny (model PG w) A (setWalkUnseen a L f) Q E s := by
  unfold setWalkUnseen
  refine wpAny_bind (wpAny_setState_of ho rfl (x.fits _) ?_)
  dsimp only
  unfold setsByText
  refine wpAny_bind (wpAny_bind (wpAny_askSetting (wpAny_pure ?_)))
  have hc : ((({ program := (model PG w).prog, params := (model PG w).w.params } : Setting).params.followText "set-order" || ((x.tab (ledW w)).led && (x.tab (ledW w)).plain)) || decide (x.es.toArray.size ≤ 1)) = true := by
    show ((w.params.followText "set-order" || ((!(w.params.followText "set-order")) && true)) || _) = true
    cases w.params.followText "set-order" <;> rfl
  rw [if_pos hc]
  first | exact wpAny_walk4 ho h | exact wpAny_bind (wpAny_walk4 ho fun es he => wpAny_pure (h es he))
theorem interLoop {b r wk : Addr} {y : S4} {id : String} {clw : Value} {ddw : Option Addr} {xw : S4} {epw : Nat} (hb : b ≠ r) (hw : wk ≠ r) : ∀ (l : List (Int × Value)) (s : Shared) (z : S4) (e : Nat) (Q : PUnit → Shared → Prop),
    (∀ p ∈ l, ∃ (u : Nat) (t : Tok), u < 4 ∧ p = ((u : Int), .int (u : Int) t)) → s.heap.get? b = some (setO w cl' dd' y ep') → s.heap.get? wk = some (setO w clw ddw xw epw) → s.heap.get? r = some (setO w (.type "set") none z e) →
    (∀ h' z' e', h'.get? r = some (setO w (.type "set") none z' e') → (∀ u, (z'.get u).isSome = ((z.get u).isSome || (l.any (fun p => p.1 == (u : Int)) && (y.get u).isSome))) → Heap.SameBut r s.heap h' → Q PUnit.unit { s with heap := h' }) →
    wpAny (model PG w) A (forIn l PUnit.unit fun q _ => do
      holding [q.2] do
        if (← setFind b q.2 q.1).isSome then
          let _ ← setAddHashed r q.2 q.1
      Builtin.Frozenset.unchanged id wk epw
      pure (ForInStep.yield PUnit.unit)) Q E s
  | [], s, z, e, Q, _, _, _, h3, hq => by
    refine wpAny_pure (hq s.heap z e h3 (fun u => by simp) (Heap.SameBut.refl r s.heap))
  | p :: l, s, z, e, Q, hl, h1, h2, h3, hq => by
    obtain ⟨u, t, hu, rfl⟩ := hl p (.head _)
    rw [List.forIn_cons]
    refine wpAny_bind (wpAny_bind (wpAny_mono (Q := fun _ s1 => ∃ h' z' e', s1 = { s with heap := h' } ∧ h'.get? r = some (setO w (.type "set") none z' e') ∧ (∀ v, (z'.get v).isSome = ((z.get v).isSome || (decide (v = u) && (y.get v).isSome))) ∧ Heap.SameBut r s.heap h') (E := E) ?_ ?_ fun _ _ e => e))
    · refine wpAny_holding (wpAny_bind (wpAny_find4 hu h1 fun ro hro => ?_))
      split
      · rename_i hs
        rw [hro] at hs
        refine wpAny_bind (wpAny_add4 hu h3 (fun hz => ?_) fun hz h' hsb hg => ?_)
        · refine wpAny_pure ⟨s.heap, z, e, rfl, h3, (fun v => ?_), (Heap.SameBut.refl r s.heap)⟩
          by_cases q : v = u
          · subst q; simp [hz]
          · simp [q]
        · refine wpAny_pure ⟨h', (z.put u t), (e + 1), rfl, hg, (fun v => ?_), hsb⟩
          rw [S4.get_put _ _ _ _ hu]
          by_cases q : v = u
          · subst q; simp [hs]
          · simp [q]
      · rename_i hs
        rw [hro] at hs
        refine wpAny_pure ⟨s.heap, z, e, rfl, h3, (fun v => ?_), (Heap.SameBut.refl r s.heap)⟩
        by_cases q : v = u
        · subst q
          have : (y.get v).isSome = false := by cases q : (y.get v).isSome <;> simp_all
          simp [this]
        · simp [q]
    · rintro _ _ ⟨h', z', e', rfl, g1, g2, g3⟩
      have k2 : h'.get? wk = some (setO w clw ddw xw epw) := (g3.2 wk hw).trans h2
      refine wpAny_bind ?_
      unfold Builtin.Frozenset.unchanged
      refine wpAny_bind (wpAny_setEpoch_of k2 rfl (xw.fits _) ?_)
      rw [if_neg (by simp)]
      refine wpAny_pure (wpAny_pure ?_)
      dsimp only
      refine interLoop hb hw l { s with heap := h' } z' e' Q (fun p hp => hl p (.tail _ hp)) ((g3.2 b hb).trans h1) k2 g1 fun h2' z2 e2 f1 f2 f3 => ?_
      refine hq h2' z2 e2 f1 (fun v => ?_) (g3.trans f3)
      rw [f2 v, g2 v]
      rw [List.any_cons]
      by_cases q : v = u
      · subst q; cases (z.get v).isSome <;> cases (y.get v).isSome <;> simp
      · have q' : (((u : Int), Value.int (u : Int) t).1 == (v : Int)) = false := by
          simp only [beq_eq_false_iff_ne, ne_eq]; exact fun e => q (Int.ofNat_inj.mp e).symm
        rw [q']; simp [q]
theorem anySet {h : Heap} {b : Addr} (L : SetLike (model PG w) h b) : Looks (model PG w) h (Builtin.Frozenset.isAnySet (.ref b)) true := by
  intro A Q E s k q
  have h1 := L.inst.keeps k
  obtain ⟨hh, g, d, t, os⟩ := s
  unfold Builtin.Frozenset.isAnySet
  repeat lk
  exact q
theorem sizeOf4 {Q : Nat → Shared → Prop} (ho : s.heap.get? a = some (setO w cl dd x ep)) (hq : Q x.vs.length s) : wpAny (model PG w) A (Builtin.Frozenset.sizeOf a) Q E s := by
  unfold Builtin.Frozenset.sizeOf
  refine wpAny_bind (wpAny_setEntries_of ho rfl (x.fits _) (wpAny_pure ?_))
  rw [x.len]; exact hq
theorem S4.es_ok (x : S4) {l : List (Int × Value)} (hp : l.Perm x.es) : ∀ p ∈ l, ∃ (u : Nat) (t : Tok), u < 4 ∧ p = ((u : Int), .int (u : Int) t) := by
  intro p h
  have h := hp.mem_iff.mp h
  have em : ∀ (k : Nat) (o : Option Tok), k < 4 → p ∈ ent k o → ∃ (u : Nat) (t : Tok), u < 4 ∧ p = ((u : Int), .int (u : Int) t) := by
    intro k o hk h
    cases o with
    | none => cases h
    | some t => exact ⟨k, t, hk, List.mem_singleton.mp h⟩
  simp only [S4.es, List.mem_append] at h
  rcases h with h | h | h | h
  · exact em 0 _ (by decide) h
  · exact em 1 _ (by decide) h
  · exact em 2 _ (by decide) h
  · exact em 3 _ (by decide) h
theorem S4.es_any (x : S4) {l : List (Int × Value)} (hp : l.Perm x.es) (u : Nat) : l.any (fun p => p.1 == (u : Int)) = (x.get u).isSome := by
  rw [hp.any_eq]
  have em : ∀ (k : Nat) (o : Option Tok), (ent k o).any (fun p => p.1 == (u : Int)) = (decide (k = u) && o.isSome) := by
    intro k o
    cases o with
    | none => simp [ent]
    | some t =>
      by_cases h : k = u
      · subst h; simp [ent]
      · have : ¬ ((k : Int) = (u : Int)) := fun e => h (Int.ofNat_inj.mp e)
        simp [ent, h, this]
  simp only [S4.es, List.any_append, em]
  have h2 : u = 0 ∨ u = 1 ∨ u = 2 ∨ u = 3 ∨ 4 ≤ u := by omega
  rcases h2 with rfl | rfl | rfl | rfl | h2
  · simp [S4.get]
  · simp [S4.get]
  · simp [S4.get]
  · simp [S4.get]
  · obtain ⟨u, rfl⟩ : ∃ k, u = k + 4 := ⟨u - 4, by omega⟩
    have e1 : ¬ (0 = u + 4) := by omega
    have e2 : ¬ (1 = u + 4) := by omega
    have e3 : ¬ (2 = u + 4) := by omega
    have e4 : ¬ (3 = u + 4) := by omega
    simp [S4.get, e1, e2, e3, e4]
/-- set & set -/
theorem inter4 {b : Addr} {y : S4} {id : String} {Q : Value → Shared → Prop} (ha : s.heap.get? a = some (setO w (.type "set") none x ep)) (hb : s.heap.get? b = some (setO w cl' dd' y ep')) (hab : b ≠ a) (Lb : SetLike (model PG w) s.heap b)
    (hq : ∀ h' z e, h'.get? s.heap.objs.size = some (setO w (.type "set") none z e) → (∀ u, (z.get u).isSome = ((x.get u).isSome && (y.get u).isSome)) → (∀ c o, s.heap.get? c = some o → h'.get? c = some o) → s.heap.objs.size < h'.objs.size → Q (.ref s.heap.objs.size) { s with heap := h' }) :
    wpAny (model PG w) A (Builtin.Frozenset.intersection id a (.ref b)) Q E s := by
  unfold Builtin.Frozenset.intersection
  rw [if_neg (by simpa using hab)]
  have La : SetLike (model PG w) s.heap a := SetLike.set ha
  refine wpAny_bind ?_
  unfold Builtin.Frozenset.baseOf
  refine wpAny_bind (La.inst.here ?_)
  refine wpAny_pure ?_
  refine wpAny_bind (newSet4 (w := w) (by rfl) fun h1 e1 => ?_)
  subst e1
  refine wpAny_bind (wpAny_of_eq (by rfl : Builtin.Frozenset.addrOf (.ref s.heap.objs.size) = pure _) ?_)
  have k1 : ∀ c o, s.heap.get? c = some o → (s.heap.push (setO w (.type "set") none S4.nil 0)).get? c = some o := fun c o e => Heap.get?_push_of_some _ e
  have hr : (s.heap.push (setO w (.type "set") none S4.nil 0)).get? s.heap.objs.size = some (setO w (.type "set") none S4.nil 0) := Heap.get?_push_size _ rfl
  have Lb' := Lb.keeps k1
  have h1 := Lb'.inst
  have ha1 := k1 _ _ ha
  have hb1 := k1 _ _ hb
  have hsz : s.heap.objs.size < (s.heap.push (setO w (.type "set") none S4.nil 0)).objs.size := by rw [Heap.size_push]; exact Nat.lt_succ_self _
  have nr : ∀ {c : Addr} {o : Obj}, s.heap.get? c = some o → c ≠ s.heap.objs.size := fun e q => Nat.lt_irrefl _ (q ▸ Heap.lt_size e)
  have fin : ∀ (h' : Heap) (z : S4) (e : Nat), h'.get? s.heap.objs.size = some (setO w (.type "set") none z e) → (∀ u, (z.get u).isSome = ((x.get u).isSome && (y.get u).isSome)) → Heap.SameBut s.heap.objs.size (s.heap.push (setO w (.type "set") none S4.nil 0)) h' → Q (.ref s.heap.objs.size) { s with heap := h' } := fun h' z e g1 g2 g3 =>
    hq h' z e g1 g2 (fun c o e => (g3.2 c (nr e)).trans (k1 c o e)) (Heap.lt_size g1)
  refine wpAny_bind (wpAny_holding (wpAny_bind ((anySet Lb').here ?_)))
  simp only [if_true]
  refine wpAny_bind (wpAny_of_eq (by rfl : Builtin.Frozenset.addrOf (.ref b) = pure b) ?_)
  refine wpAny_bind (sizeOf4 hb1 (wpAny_bind (sizeOf4 ha1 ?_)))
  by_cases hc : y.vs.length > x.vs.length
  · rw [if_pos hc]
    dsimp only
    refine wpAny_bind (wpAny_setEpoch_of ha1 rfl (x.fits _) ?_)
    refine wpAny_bind (walkUnseen4 ha1 fun es hes => ?_)
    refine wpAny_bind ?_
    rw [← Array.forIn_toList]
    refine interLoop (r := s.heap.objs.size) (b := b) (wk := a) (nr hb) (nr ha) es.toList _ S4.nil 0 _ (x.es_ok hes) hb1 ha1 hr fun h' z e g1 g2 g3 => ?_
    refine wpAny_pure (wpAny_pure (fin h' z e g1 (fun u => ?_) g3))
    rw [g2 u, x.es_any hes]
    have : (S4.nil.get u).isSome = false := by
      match u with
      | 0 | 1 | 2 | 3 => rfl
      | u + 4 => rfl
    rw [this, Bool.false_or]
  · rw [if_neg hc]
    dsimp only
    refine wpAny_bind (wpAny_setEpoch_of hb1 rfl (y.fits _) ?_)
    refine wpAny_bind (walkUnseen4 hb1 fun es hes => ?_)
    refine wpAny_bind ?_
    rw [← Array.forIn_toList]
    refine interLoop (r := s.heap.objs.size) (b := a) (wk := b) (nr ha) (nr hb) es.toList _ S4.nil 0 _ (y.es_ok hes) ha1 hb1 hr fun h' z e g1 g2 g3 => ?_
    refine wpAny_pure (wpAny_pure (fin h' z e g1 (fun u => ?_) g3))
    rw [g2 u, y.es_any hes]
    have : (S4.nil.get u).isSome = false := by
      match u with
      | 0 | 1 | 2 | 3 => rfl
      | u + 4 => rfl
    rw [this, Bool.false_or, Bool.and_comm]
end
end
open PySem.W.X (Led)
open PyProof.Rows PySem.Calls PySem.Spec
local macro_rules | `(tactic| kaf_pre) => `(tactic| with_reducible ((repeat' (first | apply At2.z | refine' At2.s ?_)); done))
local macro_rules | `(tactic| kaf_suf) => `(tactic| with_reducible ((repeat' (first | apply Put2.z | refine' Put2.s ?_)); done))
local macro_rules | `(tactic| kas_types) => `(tactic| with_reducible ((repeat' (first | apply UpdG.z | refine' UpdG.s ?_)); done))
local macro_rules | `(tactic| kat_tups) => `(tactic| with_reducible ((repeat' (first | apply List.mem_cons_self | assumption | refine' List.mem_cons_of_mem _ ?_)); done))
local macro_rules | `(tactic| kba_ints) => `(tactic| (unfold gl; with_reducible ((repeat' (first | apply List.mem_cons_self | refine' List.mem_cons_of_mem _ ?_)); done)))
local macro_rules | `(tactic| kbo_bools) => `(tactic| (unfold bl; with_reducible ((repeat' (first | apply List.mem_cons_self | refine' List.mem_cons_of_mem _ ?_)); done)))
local macro_rules | `(tactic| kbt_split) => `(tactic| first | (with_reducible rfl) | apply Bool.not_true | apply Bool.not_false | (simp only [decide_eq_true_eq, decide_eq_false_iff_not, beq_iff_eq, beq_eq_false_iff_ne, bne_iff_ne, bne_eq_false_iff_eq, ne_eq]; omega))
local macro_rules | `(tactic| kc_close) => `(tactic| with_reducible first
  | ((with_reducible show wpAny _ _ (eval _ _) _ _ _); first
      | ((with_reducible show wpAny _ _ (eval (Expr.Name _ _) _) _ _ _); first
          | refine rLoc (by assumption) (by assumption) (by assumption) (by kaf_pre) ?_
          | refine rGlob (by assumption) (by assumption) (by assumption) (by kat_tups) (by kba_ints) ?_
          | refine rBi (by assumption) (by assumption) (by assumption) (by kat_tups) (by kbo_bools) ?_)
      | ((with_reducible show wpAny _ _ (eval (Expr.Constant _ _ _) _) _ _ _); first
          | (refine rCI ?_; intro tk t')
          | (refine rCS ?_; intro tk t')
          | refine rCB ?_
          | refine rCN ?_)
      | ((with_reducible show wpAny _ _ (eval (Expr.Attribute (Expr.Name _ _) _ _) _) _ _ _); (refine rAttr2 (by assumption) (by assumption) (by assumption) (by kaf_pre) (by kat_tups) (by kat_tups) (by assumption) (by kat_tups) (by kernel_rfl!) (by with_unfolding_all rfl) ?_; intro t'))
      | ((with_reducible show wpAny _ _ (eval (Expr.Call (Expr.Name _ _) (_ :: _) [] _) _) _ _ _); first
          | refine rCallK (by assumption) (by assumption) (by assumption) (by kat_tups) (by kba_ints) (by kernel_rfl!) (by with_unfolding_all rfl) (by with_unfolding_all rfl) ?_
          | refine rCallB (by assumption) (by assumption) (by assumption) (by kat_tups) (by kbo_bools) (by with_unfolding_all rfl) (by with_unfolding_all rfl) ?_
          | refine rCallT (by assumption) (by assumption) (by assumption) (by kat_tups) (by kbo_bools) (by with_unfolding_all rfl) (by with_unfolding_all rfl) ?_)
      | ((with_reducible show wpAny _ _ (eval (Expr.BinOp _ _ _ _) _) _ _ _); refine wpAny_BinOp ?_)
      | ((with_reducible show wpAny _ _ (eval (Expr.Tuple _ _ _) _) _ _ _); refine Tuple_ ?_)
      | ((with_reducible show wpAny _ _ (eval (Expr.Compare _ _ _ _) _) _ _ _); refine wpAny_Compare1 ?_ (by with_unfolding_all rfl))
      | ((with_reducible show wpAny _ _ (eval (Expr.UnaryOp _ _ _) _) _ _ _); refine wpAny_UnaryOp ?_)
      | ((with_reducible show wpAny _ _ (eval (Expr.IfExp _ _ _ _) _) _ _ _); refine rIfE ?_)
      | ((with_reducible show wpAny _ _ (eval (Expr.BoolOp _ _ _) _) _ _ _); first
          | refine rAndV ?_
          | refine rOrV ?_
          | refine rOneV ?_))
  | ((with_reducible show wpAny _ _ (spliced _) _ _ _); first
      | refine args_cons ?_ (by with_unfolding_all rfl)
      | refine rEnd (by assumption) (by assumption) ?_
      | refine args_nil ?_)
  | ((with_reducible show wpAny _ _ (exec _ _) _ _ _); first
      | ((with_reducible show wpAny _ _ (exec (Stmt.Return _ _) _) _ _ _); refine wpAny_Return_some ?_)
      | ((with_reducible show wpAny _ _ (exec (Stmt.If _ _ _ _) _) _ _ _); refine rIf ?_)
      | ((with_reducible show wpAny _ _ (exec (Stmt.Assign [Expr.Name _ _] _ _) _) _ _ _); refine wpAny_Assign_Name ?_ (by with_unfolding_all rfl))
      | ((with_reducible show wpAny _ _ (exec (Stmt.Assign [Expr.Tuple _ _ _] (Expr.Tuple _ _ _) _) _) _ _ _); refine rSwap (by assumption) (by assumption) (by kat_tups) (by kat_tups) (by decide +kernel) (by with_unfolding_all rfl) (by with_unfolding_all rfl) (by with_unfolding_all rfl) (by with_unfolding_all rfl) (by with_unfolding_all rfl) (by with_unfolding_all rfl) (by with_unfolding_all rfl) (by with_unfolding_all rfl) ?_)
      | ((with_reducible show wpAny _ _ (exec (Stmt.Assign [Expr.Tuple _ _ _] _ _) _) _ _ _); refine rUnp (by assumption) (by assumption) (by kat_tups) (by kat_tups) (by with_unfolding_all rfl) (by with_unfolding_all rfl) ?_)
      | ((with_reducible show wpAny _ _ (exec (Stmt.Assign [Expr.Attribute _ _ _] _ _) _) _ _ _); refine plainObj_wpAny_Assign_Attribute ?_ (by with_unfolding_all rfl))
      | ((with_reducible show wpAny _ _ (exec (Stmt.AugAssign (Expr.Name _ _) _ _ _) _) _ _ _); refine wpAny_AugAssign_Name ?_))
  | ((with_reducible show wpAny _ _ (execs _ _) _ _ _); first
      | refine rCons ?_
      | refine wpAny_execs_nil ?_)
  | ((with_reducible show wpAny _ _ (storeName _ _ _) _ _ _); (refine rSto (by assumption) (by assumption) (by assumption) (by kaf_suf) ?_; intro h' t' D'))
  | ((with_reducible show wpAny _ _ (loadName _ _) _ _ _); refine rLdn (by assumption) (by assumption) (by assumption) (by kaf_pre) ?_)
  | ((with_reducible show wpAny _ _ (isTrue _ _ _) _ _ _); first
      | refine rTrC ?_
      | refine wpAny_isTrue_Compare1 ?_ (by with_unfolding_all rfl)
      | refine rTr ?_
      | refine rAnd ?_
      | refine rOr ?_
      | refine isTrue_and_nil ?_
      | refine isTrue_or_nil ?_
      | refine isTrue_not ?_)
  | ((with_reducible show wpAny _ _ (truthy _) _ _ _); first
      | refine wpAny_truthy_bool ?_
      | refine P.truthy_int ?_)
  | ((with_reducible show wpAny _ _ (binaryOp _ _ _) _ _ _); first
      | (refine oMul (by first | exact IntMulOk.of_left (by kd_addW) | exact IntMulOk.of_right (by kd_addW)) ?_; intro tk t')
      | (refine oAdd ?_; intro tk t')
      | (refine oSub ?_; intro tk t')
      | (refine oMod (by kbt_split) ?_; intro tk t')
      | (refine oDiv (by kbt_split) (by kbt_split) ?_; intro tk t'))
  | ((with_reducible show wpAny _ _ (inplaceOp _ _ _) _ _ _); first
      | (refine oIAdd ?_; intro tk t')
      | (refine oISub ?_; intro tk t'))
  | ((with_reducible show wpAny _ _ (unaryOp _ _) _ _ _); first
      | (refine oNeg ?_; intro tk t')
      | refine oNot ?_)
  | ((with_reducible show wpAny _ _ (compareOp _ _ _) _ _ _); first
      | refine P.eq_int ?_
      | refine P.lt_int ?_
      | refine P.le_int ?_
      | refine P.gt_int ?_
      | refine P.ge_int ?_
      | refine P.ne_int ?_
      | refine eqTup2 (by assumption) (by assumption) (by kat_tups) (by kat_tups) ?_)
  | ((with_reducible show wpAny _ _ (setAttr _ _ _) _ _ _); (refine rSetA' (by assumption) (by assumption) (by kat_tups) (by kas_types) (by first | assumption | exact Flds.nil) (by with_unfolding_all rfl) (by with_unfolding_all rfl) (by kernel_rfl!) ?_; intro h' o' t' F' D'))
  | ((with_reducible show wpAny _ _ (newTuple _) _ _ _); (refine rTup (by assumption) (by simp [sizeLine_eq]) ?_; intro a' h' D'))
  | ((with_reducible show wpAny _ _ (call (Value.builtin "isinstance") _ _) _ _ _); first
      | (refine isiI (by assumption) (by assumption) ?_; intro t')
      | refine isiO2 (by assumption) (by assumption) (by kat_tups) (by kat_tups) (by kernel_rfl!) ?_
      | (refine isiII ?_; intro t')
      | (refine isiTI (by assumption) (by assumption) (by kat_tups) (by kernel_rfl!) ?_; intro t')
      | (refine isiTO (by assumption) (by assumption) (by kat_tups) (by kat_tups) (by kat_tups) (by kernel_rfl!) ?_; intro t'))
  | ((with_reducible show Seq _ _ _ _ _ _ _ _); first
    | refine Seq.nil ?_
    | refine Seq.nx ?_
    | refine Seq.rt ?_)
  | ((with_reducible show Br _ _ _); first
    | refine Br.y (by kbt_split) ?_
    | refine Br.n (by kbt_split) ?_)
  | (refine UnpEnd.mk (by assumption) (by assumption) (by kat_tups) (by kaf_suf) (by kaf_suf) ?_; intro h' t' D')
  | (refine SwapEnd.mk (by assumption) (by assumption) (by kaf_suf) (by kaf_suf) ?_; intro h' t' D')
  | kcj_in)
local macro_rules | `(tactic| kd_addW) => `(tactic| first | decide +kernel | exact intBits_le_64 (by omega) (by omega))
local macro_rules | `(tactic| kcf_m) => `(tactic| (
  (case C => assumption); (case D => assumption); (case o => k_is); (case c => k_is); (case b => (intro hK; first | exact BindsTo.of_eq rfl | exact binds_K hK rfl (by k_is) rfl rfl rfl | fail "ENT: no rule for these arguments")); (case f => kernel_rfl!); (case g => exact rfl); (case i => exact rfl); (case j => decide)))
local macro_rules | `(tactic| kcf_all) => `(tactic| repeat' (first | kc_close | (dsimp only; kc_close)))
local macro_rules | `(tactic| kd_adr) => `(tactic| (
  (case C => assumption); (case D => assumption); (case m => k_is); (case i => k_is); (case f => k_is); (case o => k_is); (case c => k_is); (case b => (intro x' h' hK; first | exact BindsTo.of_eq rfl | exact binds_K hK rfl (by k_is) rfl rfl rfl | fail "MKE: no rule for these arguments")); (case fl => kernel_rfl!); (case g => exact rfl); (case k => exact rfl); (case j => decide)))

section
open PySem.W.X (Led)
set_option pp.deepTerms false
/-- fraction_parts of an int, of a Fraction -/
theorem fpI (w : World) (i : Int) (ti : Tok) : Spec w (.ref 161) [.int i ti] [] 3 (fun _ => True) (fun _ r tl => ∃ D t', r = .ref D ∧ tl = [(D, tupO [.int i ti, .int 1 t'])]) := by
  intro A env h₀ m news h g d t os Q E C D hP hret
  k_dflt (refine' enterF [("number", .int i ti)] [] ["isinstance", "Fraction", "int", "TypeError"] ?C ?D ?o ?c ?b ?f ?g ?i ?j ?_)
  kcf_m
  intro A' env' g h₁ t' Q' C' fl D' hQ
  dsimp only [List.map, List.append_nil, List.cons_append, List.nil_append] at fl D'
  kcf_all
  refine hQ _ _ _ _ _ _ (by assumption) fun D2 => hret _ [_] _ _ D2 ⟨_, _, rfl, rfl⟩
theorem fpF (w : World) (x dx : Addr) (o : Obj) (q : Rat) (ta tb : Tok) : Spec w (.ref 161) [.ref x] [] 3 (fun news => (x, instObj 305 dx) ∈ news ∧ (dx, o) ∈ news ∧ Flds o [("denominator", .int q.den ta), ("numerator", .int q.num tb)]) (fun _ r tl => ∃ D, r = .ref D ∧ tl = [(D, tupO [.int q.num tb, .int q.den ta])]) := by
  rintro A env h₀ m news h g d t os Q E C D ⟨i1, i2, F⟩ hret
  k_dflt (refine' enterF [("number", .ref x)] [] ["isinstance", "Fraction", "int", "TypeError"] ?C ?D ?o ?c ?b ?f ?g ?i ?j ?_)
  kcf_m
  intro A' env' g h₁ t' Q' C' fl D' hQ
  dsimp only [List.map, List.append_nil, List.cons_append, List.nil_append] at fl D'
  kcf_all
  refine hQ _ _ _ _ _ _ (by assumption) fun D2 => hret _ [_] _ _ D2 ⟨_, rfl, rfl⟩
theorem rat_int (i : Int) : ((i : Int) : Rat).num = i ∧ ((i : Int) : Rat).den = 1 := ⟨rfl, rfl⟩
/-- of a number -/
theorem fpN (w : World) (v : Value) (q : Rat) : Spec w (.ref 161) [v] [] 3 (fun news => NumV news v q) (fun _ r tl => ∃ D ta tb, r = .ref D ∧ tl = [(D, tupO [.int q.num ta, .int q.den tb])]) := by
  rintro A env h₀ m news h g d t os Q E C D (⟨i, ti, rfl, rfl⟩ | ⟨x, dx, o, t1, t2, rfl, a, b, c⟩) hret
  · refine fpI w i ti A env h₀ m news h g d t os Q E C D trivial fun r tl h' t' D' ⟨a, b, c, d⟩ => hret r tl h' t' D' ⟨a, ti, b, c, d⟩
  · refine fpF w x dx o q t2 t1 A env h₀ m news h g d t os Q E C D ⟨a, b, c⟩ fun r tl h' t' D' ⟨a, b, c⟩ => hret r tl h' t' D' ⟨a, _, _, b, c⟩
end
section
open PySem.W.X (Led)
theorem gcd_first (a b : Int) (hb : 0 < b) : Int.gcd b (a.fmod b) = Int.gcd b a := by
  rw [Int.fmod_eq_emod_of_nonneg _ (by omega)]
  rw [← Int.gcd_add_mul_right_right b (a % b) (a / b)]
  congr 1
  rw [Int.mul_comm]; exact Int.emod_add_mul_ediv a b
theorem mk_num (i1 i2 dv : Int) (h0 : 0 < i2) (hd : 0 < dv) (hg : dv.gcd 0 = i2.gcd i1) : (i1 * 1).fdiv dv = (mkRat i1 i2.toNat).num ∧ (i2 * 1).fdiv dv = ((mkRat i1 i2.toNat).den : Int) := by
  obtain ⟨a, rfl⟩ := Int.eq_ofNat_of_zero_le (Int.le_of_lt hd)
  obtain ⟨b, rfl⟩ := Int.eq_ofNat_of_zero_le (Int.le_of_lt h0)
  rw [Int.gcd_zero_right, Int.natAbs_natCast] at hg
  have hb : b ≠ 0 := by omega
  simp only [Int.toNat_natCast, Rat.num_mkRat, Rat.den_mkRat, if_neg hb, Int.mul_one]
  have : b.gcd i1.natAbs = a := by rw [hg]; rfl
  rw [this, Int.fdiv_eq_ediv_of_nonneg _ (by omega), Int.fdiv_eq_ediv_of_nonneg _ (by omega)]
  exact ⟨rfl, by simp⟩
set_option pp.deepTerms false
/-- Fraction(i1, i2) of ints, i2 above nought and not huge -/
theorem frNew (w : World) (i1 i2 : Int) (ta tb : Tok) (h0 : 0 < i2) (h2 : i2 < 1000000) : Spec w (.ref 305) [.int i1 ta, .int i2 tb] [] 8 (fun _ => True) (fun _ r tl => FracV tl r (mkRat i1 i2.toNat)) := by
  intro A env h₀ m news h g d t os Q E C D hP hret
  k_dflt (refine' makeF "self" [("numerator", .int i1 ta), ("denominator", .int i2 tb)] ["upper", "below", "lower", "above", "divisor", "rest"] ["fraction_parts", "ZeroDivisionError"] ?C ?D ?m ?i ?f ?o ?c ?b ?fl ?g ?k ?j ?_)
  kd_adr
  intro x dx A' env' g' h₁ t' Q' C' fl D' hQ
  dsimp only [List.map, List.append_nil, List.cons_append, List.nil_append] at fl D'
  kcf_all
  refine (fpI w _ _).t.use (by assumption) (by assumption) (by decide) trivial ?_
  rintro _ _ h2 t2 D2 ⟨a2, k2, rfl, rfl⟩
  dsimp only [List.cons_append, List.nil_append] at D2
  kcf_all
  refine (fpI w _ _).t.use (by assumption) (by assumption) (by decide) trivial ?_
  rintro _ _ h3 t3 D3 ⟨a3, k3, rfl, rfl⟩
  dsimp only [List.cons_append, List.nil_append] at D3
  kcf_all
  refine rWhile (fun k vs l => ∃ (D R : Int) (tD tR tu tl : Tok), l = (x, instObj 305 dx) :: (dx, dictOf [] 0) :: news ∧ 0 < D ∧ D ≤ i2 ∧ R < D ∧ 0 ≤ R ∧ Int.gcd D R = Int.gcd i2 i1 ∧ k = R.toNat ∧
      vs = [some (.ref x), some (.int i1 ta), some (.int i2 tb), some (.int (i1 * 1) tu), some (.int 1 k2), some (.int (i2 * 1) tl), some (.int 1 k3), some (.int D tD), some (.int R tR)]) _ (ledApp (t := [_, _]) (by assumption)) ⟨_, _, _, _, _, _, rfl, ?_, ?_, ?_, ?_, ?_, rfl, rfl⟩ ?_
  · omega
  · omega
  · have := Int.fmod_lt_of_pos (i1 * 1) (show 0 < i2 * 1 by omega); omega
  · exact Int.fmod_nonneg_of_pos _ (by omega)
  · rw [Int.mul_one, Int.mul_one]; exact gcd_first _ _ h0
  rintro k _ _ h4 t4 D4 ⟨dv, rs, tD, tR, tu, tl, rfl, hd0, hd1, hrd, hr0, hg, rfl, rfl⟩
  kcf_all
  refine Br.sp (fun hc => ?_) (fun hc => ?_)
  · have hr1 : rs ≠ 0 := by simpa using hc
    kcf_all
    have := Int.fmod_lt_of_pos dv (show 0 < rs by omega)
    have := Int.fmod_nonneg_of_pos dv (show 0 < rs by omega)
    have e := gcd_first dv rs (by omega)
    refine WEnd.mk (by assumption) ?_ ⟨rs, _, _, _, _, _, rfl, ?_, ?_, ?_, ?_, ?_, rfl, rfl⟩
    · omega
    · omega
    · omega
    · omega
    · omega
    · rw [e, Int.gcd_comm]; exact hg
  · have hr1 : rs = 0 := by simpa using hc
    have hd1 : dv ≠ 0 := by omega
    subst hr1
    obtain ⟨e1, e2⟩ := mk_num i1 i2 dv h0 hd0 hg
    kcf_all
    refine hQ _ _ _ _ _ _ (by assumption) fun D9 => ⟨rfl, ?_⟩
    refine hret _ [_, _] _ _ D9 ⟨x, dx, _, _, _, rfl, .head _, .tail _ (.head _), by rw [← e1, ← e2]; assumption⟩
end
section
open PySem.W.X (Led)
set_option pp.deepTerms false
theorem mk_mul (p q : Rat) : mkRat (p.num * q.num) ((p.den : Int) * (q.den : Int)).toNat = p * q := by
  rw [← Int.natCast_mul, Int.toNat_natCast, ← Rat.mkRat_mul_mkRat, Rat.mkRat_self, Rat.mkRat_self]
theorem mk_add (p q : Rat) : mkRat (p.num * q.den + q.num * p.den) ((p.den : Int) * (q.den : Int)).toNat = p + q := by
  rw [← Int.natCast_mul, Int.toNat_natCast, ← Rat.mkRat_add_mkRat _ _ p.den_nz q.den_nz, Rat.mkRat_self, Rat.mkRat_self]
theorem den_pos (p q : Rat) (h : p.den * q.den < 1000000) : 0 < (p.den : Int) * (q.den : Int) ∧ (p.den : Int) * (q.den : Int) < 1000000 ∧ (p.den : Int) < 1000000 ∧ (q.den : Int) < 1000000 := by
  have h1 := Nat.pos_of_ne_zero p.den_nz
  have h2 := Nat.pos_of_ne_zero q.den_nz
  have h3 : p.den ≤ p.den * q.den := Nat.le_mul_of_pos_right _ h2
  have h4 : q.den ≤ p.den * q.den := Nat.le_mul_of_pos_left _ h1
  refine ⟨?_, ?_, by omega, by omega⟩
  · rw [← Int.natCast_mul]; exact Int.ofNat_lt.mpr (Nat.mul_pos h1 h2)
  · rw [← Int.natCast_mul]; omega
/-- Fraction * number: the left one is small -/
theorem fMul (w : World) (x : Addr) (v : Value) (p q : Rat) : Spec w (.ref 246) [.ref x, v] [] 12 (fun news => FracV news (.ref x) p ∧ NumV news v q ∧ p.den * q.den < 1000000 ∧ -1000000 < p.num ∧ p.num < 1000000) (fun _ r tl => FracV tl r (p * q)) := by
  rintro A env h₀ m news h g d t os Q E C D ⟨⟨x, dx, o, t1, t2, ⟨⟩, i1, i2, F⟩, hv, hd, hp1, hp2⟩ hret
  obtain ⟨hd1, hd2, hd3, hd4⟩ := den_pos p q hd
  k_dflt (refine' enterF [("self", .ref x), ("other", v)] ["upper", "lower"] ["fraction_parts", "Fraction"] ?C ?D ?o ?c ?b ?f ?g ?i ?j ?_)
  kcf_m
  intro A' env' g' h₁ t' Q' C' fl D' hQ
  dsimp only [List.map, List.append_nil, List.cons_append, List.nil_append] at fl D'
  kcf_all
  refine (fpN w v q).t.use (by assumption) (by assumption) (by decide) hv ?_
  rintro _ _ h2 t2' D2 ⟨a2, k2, k3, rfl, rfl⟩
  dsimp only [List.cons_append, List.nil_append] at D2
  kcf_all
  refine (frNew w _ _ _ _ hd1 hd2).t.use (by assumption) (by assumption) (by decide) trivial ?_
  intro r tl h3 t3 D3 fr
  rw [mk_mul] at fr
  kcf_all
  refine hQ _ _ _ _ _ _ (by assumption) fun D9 => hret _ (tl ++ [_]) _ _ (by rw [List.append_assoc]; exact D9) (fr.mono fun _ h => List.mem_append_left _ h)
theorem fAdd (w : World) (x : Addr) (v : Value) (p q : Rat) : Spec w (.ref 218) [.ref x, v] [] 12 (fun news => FracV news (.ref x) p ∧ NumV news v q ∧ p.den * q.den < 1000000) (fun _ r tl => FracV tl r (p + q)) := by
  rintro A env h₀ m news h g d t os Q E C D ⟨⟨x, dx, o, t1, t2, ⟨⟩, i1, i2, F⟩, hv, hd⟩ hret
  obtain ⟨hd1, hd2, hd3, hd4⟩ := den_pos p q hd
  k_dflt (refine' enterF [("self", .ref x), ("other", v)] ["upper", "lower"] ["fraction_parts", "Fraction"] ?C ?D ?o ?c ?b ?f ?g ?i ?j ?_)
  kcf_m
  intro A' env' g' h₁ t' Q' C' fl D' hQ
  dsimp only [List.map, List.append_nil, List.cons_append, List.nil_append] at fl D'
  kcf_all
  refine (fpN w v q).t.use (by assumption) (by assumption) (by decide) hv ?_
  rintro _ _ h2 t2' D2 ⟨a2, k2, k3, rfl, rfl⟩
  dsimp only [List.cons_append, List.nil_append] at D2
  kcf_all
  refine (frNew w _ _ _ _ hd1 hd2).t.use (by assumption) (by assumption) (by decide) trivial ?_
  intro r tl h3 t3 D3 fr
  rw [mk_add] at fr
  kcf_all
  refine hQ _ _ _ _ _ _ (by assumption) fun D9 => hret _ (tl ++ [_]) _ _ (by rw [List.append_assoc]; exact D9) (fr.mono fun _ h => List.mem_append_left _ h)
theorem le_dec (p q : Rat) : decide (p.num * (q.den : Int) ≤ q.num * (p.den : Int)) = decide (p ≤ q) := by rw [decide_eq_decide]; exact (Rat.le_iff p q).symm
theorem lt_dec (p q : Rat) : decide (p.num * (q.den : Int) < q.num * (p.den : Int)) = decide (p < q) := by rw [decide_eq_decide]; exact (Rat.lt_iff p q).symm
theorem fLe (w : World) (x : Addr) (v : Value) (p q : Rat) : Spec w (.ref 288) [.ref x, v] [] 12 (fun news => FracV news (.ref x) p ∧ NumV news v q ∧ p.den * q.den < 1000000) (fun news r tl => r = .bool (decide (p ≤ q))) := by
  rintro A env h₀ m news h g d t os Q E C D ⟨⟨x, dx, o, t1, t2, ⟨⟩, i1, i2, F⟩, hv, hd⟩ hret
  obtain ⟨hd1, hd2, hd3, hd4⟩ := den_pos p q hd
  k_dflt (refine' enterF [("self", .ref x), ("other", v)] ["upper", "lower"] ["fraction_parts"] ?C ?D ?o ?c ?b ?f ?g ?i ?j ?_)
  kcf_m
  intro A' env' g' h₁ t' Q' C' fl D' hQ
  dsimp only [List.map, List.append_nil, List.cons_append, List.nil_append] at fl D'
  kcf_all
  refine (fpN w v q).t.use (by assumption) (by assumption) (by decide) hv ?_
  rintro _ _ h2 t2' D2 ⟨a2, k2, k3, rfl, rfl⟩
  dsimp only [List.cons_append, List.nil_append] at D2
  kcf_all
  refine hQ _ _ _ _ _ _ (by assumption) fun D9 => hret _ [_] _ _ D9 (by show Value.bool _ = _; rw [← le_dec])
theorem fLt (w : World) (x : Addr) (v : Value) (p q : Rat) : Spec w (.ref 281) [.ref x, v] [] 12 (fun news => FracV news (.ref x) p ∧ NumV news v q ∧ p.den * q.den < 1000000) (fun news r tl => r = .bool (decide (p < q))) := by
  rintro A env h₀ m news h g d t os Q E C D ⟨⟨x, dx, o, t1, t2, ⟨⟩, i1, i2, F⟩, hv, hd⟩ hret
  obtain ⟨hd1, hd2, hd3, hd4⟩ := den_pos p q hd
  k_dflt (refine' enterF [("self", .ref x), ("other", v)] ["upper", "lower"] ["fraction_parts"] ?C ?D ?o ?c ?b ?f ?g ?i ?j ?_)
  kcf_m
  intro A' env' g' h₁ t' Q' C' fl D' hQ
  dsimp only [List.map, List.append_nil, List.cons_append, List.nil_append] at fl D'
  kcf_all
  refine (fpN w v q).t.use (by assumption) (by assumption) (by decide) hv ?_
  rintro _ _ h2 t2' D2 ⟨a2, k2, k3, rfl, rfl⟩
  dsimp only [List.cons_append, List.nil_append] at D2
  kcf_all
  refine hQ _ _ _ _ _ _ (by assumption) fun D9 => hret _ [_] _ _ D9 (by show Value.bool _ = _; rw [← lt_dec])
end
section
open PySem.W.X (Led)
open PyProof.Rows PySem.Calls
section
variable {prog : Program} {w : World} {A : Around} {E : Value → Shared → Prop} {s : Shared} {K : Frag} {x C L f f2 : Addr} {h₀ : Heap} {m : Str → Option Value} {ox : Obj} {od : Option Obj}
/-- an own object on the left, an int or one of its own class on the right: the first half -/
theorem bin1_own {nm : String} {b : Value} {Q : Value → Shared → Prop} (F : Fr h₀ L s.heap m) (X₀ : K.In h₀) (I : InstAt s.heap x ox C od) (hb : Looks (model prog w) s.heap (typeOf b) (.ref C)) (hc : selfFirst K C = true)
    (hs : findIn K (.ref C) (PySem.dunder nm) = some (some (.ref f))) (hf : isFn K (.ref f) = true)
    (h : wpAny (model prog w) A (call (.ref f) [.ref x, b]) (W.CmpBack Q) E s) : wpAny (model prog w) A (binaryOp1 nm (.ref x) b) (fun r s' => ∃ v, r = some v ∧ Q v s') E s := by
  have X := X₀.keeps F.keep
  obtain ⟨cd, rest, hcd, hm⟩ := ksp_first hc
  unfold binaryOp1
  refine wpAny_bind (I.type.here (wpAny_bind (hb.here (wpAny_bind ((fills_K X hcd hm hs).here ?_)))))
  simp only [beq_self_eq_true, if_true]
  refine wpAny_bind (wpAny_pure ?_)
  simp only [Bool.and_false, Bool.false_eq_true, if_false, Bool.false_and]
  refine wpAny_bind (wpAny_pure ?_)
  simp only [Bool.false_eq_true, if_false]
  refine wpAny_bind (m := tryMethod (.ref x) _ b) ?_
  unfold tryMethod
  refine wpAny_bind (special_fn X I hs (beq_iff_eq.mp hf) (wpAny_mono h (fun v s' hv => ?_) fun _ _ e => e))
  cases v <;> first | exact hv.elim | exact wpAny_pure (wpAny_pure ⟨_, rfl, hv⟩)
theorem bin1_ownI {nm : String} {a : Int} {t : Tok} {rc : Option Value} {Q : Value → Shared → Prop} (F : Fr h₀ L s.heap m) (X₀ : K.In h₀) (I : InstAt s.heap x ox C od) (hc : selfFirst K C = true)
    (hs : findIn K (.ref C) (PySem.dunder nm) = some (some (.ref f))) (hf : isFn K (.ref f) = true) (hr : findIn K (.ref C) (dunderR nm) = some rc) (hp : rc = none ∨ ∃ g : Addr, rc = some (.ref g))
    (h2 : typeLookup (.type "int") (dunderR nm) = pure ro) (h1 : fillsNumberSlot (.type "int") nm = pure true) (hsub : subIn K (.type "int") (.ref C) = some false)
    (h : wpAny (model prog w) A (call (.ref f) [.ref x, .int a t]) (W.CmpBack Q) E s) : wpAny (model prog w) A (binaryOp1 nm (.ref x) (.int a t)) (fun r s' => ∃ v, r = some v ∧ Q v s') E s := by
  have X := X₀.keeps F.keep
  obtain ⟨cd, rest, hcd, hm⟩ := ksp_first hc
  have one := ksp_try X I hs hf h
  obtain ⟨hh, g, d, tt, os⟩ := s
  have L1 : Looks (model prog w) hh (typeOf (.ref x)) (.ref C) := I.type
  have L2 : Looks (model prog w) hh (typeOf (.int a t)) (.type "int") := Looks.of_pure rfl
  have L3 : Looks (model prog w) hh (fillsNumberSlot (.ref C) nm) true := fills_K X hcd hm hs
  have L4 : Looks (model prog w) hh (fillsNumberSlot (.type "int") nm) true := Looks.of_pure h1
  have L5 : Looks (model prog w) hh (isSubtype (.type "int") (.ref C)) false := looks_subIn X hsub
  have L6 : Looks (model prog w) hh (numberSlotInPython (.ref C) nm) true := ksp_inPy X hs hr hp
  have L7 : Looks (model prog w) hh (numberSlotInPython (.type "int") nm) false := Looks.of_pure rfl
  have L8 : Looks (model prog w) hh (typeLookup (.type "int") (dunderR nm)) ro := Looks.of_pure h2
  have hne : (Value.ref C == Value.type "int") = false := Bool.eq_false_iff.mpr fun q => by cases beq_iff_eq.mp q
  unfold binaryOp1
  refine wpAny_bind (L1.at (wpAny_bind (L2.at (wpAny_bind (L3.at ?_)))))
  simp only [hne, Bool.false_eq_true, if_false]
  ksp_lk
  refine wpAny_mono one (fun r s' hr' => ?_) fun _ _ e => e
  obtain ⟨v, rfl, hq⟩ := hr'
  ksp_lk
  exact ⟨_, rfl, hq⟩
/-- an int on the left: it declines -/
theorem bin1_refl {nm idl : String} {a : Int} {t : Tok} {Q : Value → Shared → Prop} (F : Fr h₀ L s.heap m) (X₀ : K.In h₀) (I : InstAt s.heap x ox C od) (hc : selfFirst K C = true)
    (hs : findIn K (.ref C) (PySem.dunder nm) = some (some (.ref f2))) (hr : findIn K (.ref C) (dunderR nm) = some (some (.ref f))) (hf : isFn K (.ref f) = true)
    (h1 : fillsNumberSlot (.type "int") nm = pure true) (hsub : subIn K (.ref C) (.type "int") = some false) (hl : Slot "int" (dunder nm) idl)
    (hd : ∀ Q', Q' .notImplemented s → wpAny (model prog w) A (call (.builtin idl) [.int a t, .ref x]) Q' E s)
    (h : wpAny (model prog w) A (call (.ref f) [.ref x, .int a t]) (W.CmpBack Q) E s) : wpAny (model prog w) A (binaryOp1 nm (.int a t) (.ref x)) (fun r s' => ∃ v, r = some v ∧ Q v s') E s := by
  have X := X₀.keeps F.keep
  obtain ⟨cd, rest, hcd, hm⟩ := ksp_first hc
  have one := ksp_try X I hr hf h
  have decl : wpAny (model prog w) A (tryMethod (.int a t) (PySem.dunder nm) (.ref x)) (fun r s' => r = none ∧ s' = s) E s := wpAny_tryMethod_declines (typeIs_int s a t) hl (hd _ ⟨rfl, rfl, rfl⟩)
  obtain ⟨hh, g, d, tt, os⟩ := s
  have L1 : Looks (model prog w) hh (typeOf (.ref x)) (.ref C) := I.type
  have L2 : Looks (model prog w) hh (typeOf (.int a t)) (.type "int") := Looks.of_pure rfl
  have L3 : Looks (model prog w) hh (fillsNumberSlot (.ref C) nm) true := fills_K X hcd hm hs
  have L4 : Looks (model prog w) hh (fillsNumberSlot (.type "int") nm) true := Looks.of_pure h1
  have L5 : Looks (model prog w) hh (isSubtype (.ref C) (.type "int")) false := looks_subIn X hsub
  have L7 : Looks (model prog w) hh (numberSlotInPython (.type "int") nm) false := Looks.of_pure rfl
  have hne : (Value.type "int" == Value.ref C) = false := Bool.eq_false_iff.mpr fun q => by cases beq_iff_eq.mp q
  unfold binaryOp1
  refine wpAny_bind (L2.at (wpAny_bind (L1.at (wpAny_bind (L4.at ?_)))))
  simp only [hne, Bool.false_eq_true, if_false]
  ksp_lk
  refine wpAny_mono decl (fun r s' hr' => ?_) fun _ _ e => e
  obtain ⟨rfl, rfl⟩ := hr'
  ksp_lk
  refine wpAny_mono one (fun r s' hr' => ?_) fun _ _ e => e
  obtain ⟨v, rfl, hq⟩ := hr'
  ksp_lk
  first | exact ⟨_, rfl, hq⟩ | exact wpAny_bind (wpAny_rule (wpAny_pure ⟨_, rfl, hq⟩))
theorem binOp_of {op : Operator} {a b : Value} {Q : Value → Shared → Prop} (h : wpAny (model prog w) A (binaryOp1 op.info.2 a b) (fun r s' => ∃ v, r = some v ∧ Q v s') E s) : wpAny (model prog w) A (binaryOp op a b) Q E s := by
  rcases hi : op.info with ⟨sym, nm⟩
  rw [hi] at h
  simp only [binaryOp, hi]
  refine wpAny_holding (wpAny_bind (wpAny_mono h (fun r s' hr => ?_) fun _ _ e => e))
  obtain ⟨v, rfl, hq⟩ := hr
  exact wpAny_pure hq
theorem inOp_of {op : Operator} {a b : Value} {ta : Value} {Q : Value → Shared → Prop} (h1 : Looks (model prog w) s.heap (typeOf a) ta) (h2 : Looks (model prog w) s.heap (fillsInplaceSlot ta op.info.2 (op == .Add)) false)
    (h : wpAny (model prog w) A (binaryOp1 op.info.2 a b) (fun r s' => ∃ v, r = some v ∧ Q v s') E s) : wpAny (model prog w) A (inplaceOp op a b) Q E s := by
  unfold inplaceOp
  refine wpAny_holding (wpAny_bind (h1.here (wpAny_bind (h2.here ?_))))
  simp only [Bool.false_eq_true, if_false]
  refine wpAny_bind (wpAny_mono h (fun r s' hr => ?_) fun _ _ e => e)
  obtain ⟨v, rfl, hq⟩ := hr
  exact wpAny_pure hq
/-- comparisons of an int with an own object -/
theorem cmp_refl {op : CmpOp} {ida : String} {a : Int} {t : Tok} {Q : Value → Shared → Prop} (hu : A.units < cLine) (F : Fr h₀ L s.heap m) (X₀ : K.In h₀) (I : InstAt s.heap x ox C od) (hsub : subIn K (.ref C) (.type "int") = some false)
    (hr : findIn K (.ref C) (cmpInfo op).2.2 = some (some (.ref f))) (hf : isFn K (.ref f) = true) (hl : Slot "int" (cmpInfo op).2.1 ida)
    (hd : ∀ Q', Q' .notImplemented s → wpAny (model prog w) A (call (.builtin ida) [.int a t, .ref x]) Q' E s)
    (h : wpAny (model prog w) A (call (.ref f) [.ref x, .int a t]) (W.CmpBack Q) E s) : wpAny (model prog w) A (richCompare op (.int a t) (.ref x)) Q E s := by
  have X := X₀.keeps F.keep
  have one : wpAny (model prog w) A (tryCompare (.ref x) (cmpInfo op).2.2 (.int a t)) (fun r s' => ∃ v, r = some v ∧ Q v s') E s := by
    unfold tryCompare
    refine wpAny_bind (ifBound_K X I hr hf (wpAny_mono h (fun v s' hv => ?_) fun _ _ e => e))
    cases v <;> first | exact hv.elim | exact wpAny_pure ⟨_, rfl, hv⟩
  have hne : (Value.type "int" != Value.ref C) = true := by
    have : (Value.type "int" == Value.ref C) = false := Bool.eq_false_iff.mpr fun q => by cases beq_iff_eq.mp q
    simp [bne, this]
  unfold richCompare
  simp only [(typeIs_int s a t).oneThing_none]
  refine wpAny_holding (wpAny_bind (wpAny_cRoomFor hu ?_))
  refine wpAny_bind ((Looks.of_pure (t := typeOf (.int a t)) (r := .type "int") rfl).here (wpAny_bind (I.type.here ?_)))
  simp only [hne, if_true]
  refine wpAny_bind ((looks_subIn X hsub).here ?_)
  simp only [Bool.false_eq_true, if_false, Bool.not_false, if_true]
  refine wpAny_bind (m := tryCompare (.int a t) _ _) (wpAny_tryCompare_declines (typeIs_int s a t) hl (hd _ ⟨rfl, ?_⟩))
  refine wpAny_bind (m := tryCompare (.ref x) _ _) (wpAny_mono one (fun r s' z => ?_) fun _ _ e => e)
  obtain ⟨v, rfl, hq⟩ := z
  exact wpAny_pure hq
end
theorem d_mul (a : Int) (t : Tok) (x : Addr) (C dx : Addr) : Meets (Builtin.«int.__mul__» ⟨[.int a t, .ref x], []⟩) (fun _ R s => s.heap.get? x = some (instObj C dx) ∧ R (.ok (.ret .notImplemented)) s) :=
  .of_wp fun prog w A R s h => by obtain ⟨hp, g, d, tk, os⟩ := s; obtain ⟨hl, h⟩ := h; wp_walk using wpAny_loadPart' hl, wpAny_load hl; exact ⟨_, rfl, h⟩
theorem d_add (a : Int) (t : Tok) (x : Addr) (C dx : Addr) : Meets (Builtin.«int.__add__» ⟨[.int a t, .ref x], []⟩) (fun _ R s => s.heap.get? x = some (instObj C dx) ∧ R (.ok (.ret .notImplemented)) s) :=
  .of_wp fun prog w A R s h => by obtain ⟨hp, g, d, tk, os⟩ := s; obtain ⟨hl, h⟩ := h; wp_walk using wpAny_loadPart' hl, wpAny_load hl; exact ⟨_, rfl, h⟩
theorem d_gt (a : Int) (t : Tok) (x : Addr) (C dx : Addr) : Meets (Builtin.«int.__gt__» ⟨[.int a t, .ref x], []⟩) (fun _ R s => s.heap.get? x = some (instObj C dx) ∧ R (.ok (.ret .notImplemented)) s) :=
  .of_wp fun prog w A R s h => by obtain ⟨hp, g, d, tk, os⟩ := s; obtain ⟨hl, h⟩ := h; wp_walk using wpAny_loadPart' hl, wpAny_load hl; exact ⟨_, rfl, h⟩
theorem d_eq (a : Int) (t : Tok) (x : Addr) (C dx : Addr) : Meets (Builtin.«int.__eq__» ⟨[.int a t, .ref x], []⟩) (fun _ R s => s.heap.get? x = some (instObj C dx) ∧ R (.ok (.ret .notImplemented)) s) :=
  .of_wp fun prog w A R s h => by obtain ⟨hp, g, d, tk, os⟩ := s; obtain ⟨hl, h⟩ := h; wp_walk using wpAny_loadPart' hl, wpAny_load hl; exact ⟨_, rfl, h⟩
end
section
open PySem.W.X (Led)
set_option pp.deepTerms false
theorem frFacts (w : World) : selfFirst (hd.heap_39 w.params) 305 = true ∧ subIn (hd.heap_39 w.params) (.ref 305) (.type "int") = some false ∧ subIn (hd.heap_39 w.params) (.type "int") (.ref 305) = some false
  ∧ findIn (hd.heap_39 w.params) (.ref 305) (PySem.dunder "mul") = some (some (.ref 246)) ∧ findIn (hd.heap_39 w.params) (.ref 305) (dunderR "mul") = some (some (.ref 253))
  ∧ findIn (hd.heap_39 w.params) (.ref 305) (PySem.dunder "add") = some (some (.ref 218)) ∧ findIn (hd.heap_39 w.params) (.ref 305) (dunderR "add") = some (some (.ref 225))
  ∧ isFn (hd.heap_39 w.params) (.ref 246) = true ∧ isFn (hd.heap_39 w.params) (.ref 253) = true ∧ isFn (hd.heap_39 w.params) (.ref 218) = true ∧ isFn (hd.heap_39 w.params) (.ref 225) = true := by
  refine ⟨?_, ?_, ?_, ?_, ?_, ?_, ?_, ?_, ?_, ?_, ?_⟩ <;> kernel_rfl!
theorem frFacts2 (w : World) : notFirst (hd.heap_39 w.params) 305 (.type "int") = true ∧ notFirst (hd.heap_39 w.params) 305 (.ref 305) = true
  ∧ findIn (hd.heap_39 w.params) (.ref 305) (cmpInfo .Gt).2.1 = some (some (.ref 295)) ∧ findIn (hd.heap_39 w.params) (.ref 305) (cmpInfo .Gt).2.2 = some (some (.ref 281)) ∧ findIn (hd.heap_39 w.params) (.ref 305) (cmpInfo .LtE).2.1 = some (some (.ref 288)) ∧ findIn (hd.heap_39 w.params) (.ref 305) (cmpInfo .Eq).2.1 = some (some (.ref 274))
  ∧ isFn (hd.heap_39 w.params) (.ref 295) = true ∧ isFn (hd.heap_39 w.params) (.ref 281) = true ∧ isFn (hd.heap_39 w.params) (.ref 288) = true ∧ isFn (hd.heap_39 w.params) (.ref 274) = true
  ∧ findIn (hd.heap_39 w.params) (.ref 305) (dunderI "add") = some none := by
  refine ⟨?_, ?_, ?_, ?_, ?_, ?_, ?_, ?_, ?_, ?_, ?_⟩ <;> kernel_rfl!
theorem no_iadd (w : World) {h : Heap} {M : Model} (X : (hd.heap_39 w.params).In h) : Looks M h (fillsInplaceSlot (.ref 305) "add" true) false := by
  have e : (clsIn (hd.heap_39 w.params) 305).map (·.mro) = some [.ref 305, .type "object"] := by kernel_rfl!
  obtain ⟨cd, hcd, hm⟩ := Option.map_eq_some_iff.mp e
  have e2 : findIn (hd.heap_39 w.params) (.ref 305) (dunderI "add") = some none := by kernel_rfl!
  have e3 : findIn (hd.heap_39 w.params) (.type "object") (dunderI "add") = some none := by kernel_rfl!
  intro A Q E s k q
  have Lm : Looks M h (mroOf (.ref 305)) cd.mro := (looks_clsIn X hcd).andThen (f := fun cd => pure cd.mro) .now
  have Lm' := Lm.keeps k
  obtain ⟨hh, g, d, tt, os⟩ := s
  have X' : (hd.heap_39 w.params).In hh := X.keeps k
  have L1 : Looks M hh (typeLookup (.ref 305) (dunderI "add")) none := looks_findIn X' e2
  have L2 : Looks M hh (typeLookup (.type "object") (dunderI "add")) none := looks_findIn X' e3
  unfold fillsInplaceSlot
  refine wpAny_bind (Lm'.at ?_)
  rw [hm, List.anyM_cons]
  refine wpAny_bind (wpAny_bind (L1.at (wpAny_pure ?_)))
  simp only [Bool.false_eq_true, if_false]
  rw [List.anyM_cons]
  refine wpAny_bind (wpAny_bind (L2.at (wpAny_pure ?_)))
  simp only [Bool.false_eq_true, if_false]
  exact wpAny_pure q
/-- a Fraction times an int -/
theorem opMulF (w : World) (x : Addr) (a : Int) (ta : Tok) (p : Rat) : SpecT w (binaryOp .Mult (.ref x) (.int a ta)) 12 (fun news => FracV news (.ref x) p ∧ p.den < 1000000 ∧ -1000000 < p.num ∧ p.num < 1000000) (fun _ r tl => FracV tl r (p * (a : Rat))) := by
  rintro A env h₀ m news h g d t os Q E C D ⟨fr, hd, hp1, hp2⟩ hret
  obtain ⟨c1, c2, c3, c4, c5, c6, c7, c8, c9, c10, c11⟩ := frFacts w
  have fr' := fr
  obtain ⟨x, dx, o, t1, t2, ⟨⟩, i1, i2, fF⟩ := fr
  refine binOp_of (bin1_ownI (s := ⟨h, g, d, t, os⟩) D.fr C.X (InstAt.of_news D.nw i1 i2) c1 c4 c8 c5 (.inr ⟨_, rfl⟩) F.slot_int_rmul.lookup F.fills_int_mul c3 ?_)
  refine (fMul w x (.int a ta) p (a : Rat)).t.use C D (by decide) ⟨fr', .inl ⟨a, ta, rfl, rfl⟩, by rw [(rat_int a).2]; omega, hp1, hp2⟩ ?_
  intro r tl h' t' D' fr
  obtain ⟨y, rest⟩ := fr
  obtain ⟨dy, oy, t1', t2', rfl, rest⟩ := rest
  exact hret _ _ _ _ D' ⟨y, dy, oy, t1', t2', rfl, rest⟩
theorem fRMul (w : World) (x : Addr) (a : Int) (ta : Tok) (p : Rat) : Spec w (.ref 253) [.ref x, .int a ta] [] 14 (fun news => FracV news (.ref x) p ∧ p.den < 1000000 ∧ -1000000 < p.num ∧ p.num < 1000000) (fun _ r tl => FracV tl r (p * (a : Rat))) := by
  rintro A env h₀ m news h g d t os Q E C D hpre hret
  k_dflt (refine' enterF [("self", .ref x), ("other", .int a ta)] [] [] ?C ?D ?o ?c ?b ?f ?g ?i ?j ?_)
  kcf_m
  intro A' env' g' h₁ t' Q' C' fl D' hQ
  dsimp only [List.map, List.append_nil, List.cons_append, List.nil_append] at fl D'
  kcf_all
  refine (opMulF w x a ta p).use (by assumption) (by assumption) (by decide) hpre ?_
  intro r tl h3 t3 D3 fr
  kcf_all
  exact hQ _ _ _ _ _ _ (by assumption) fun D9 => hret _ _ _ _ D9 fr
/-- an int times a Fraction -/
theorem opMulI (w : World) (v : Value) (a : Int) (ta : Tok) (p : Rat) : SpecT w (binaryOp .Mult (.int a ta) v) 16 (fun news => FracV news v p ∧ p.den < 1000000 ∧ -1000000 < p.num ∧ p.num < 1000000) (fun _ r tl => FracV tl r (p * (a : Rat))) := by
  rintro A env h₀ m news h g d t os Q E C D ⟨fr, hd, hp1, hp2⟩ hret
  obtain ⟨c1, c2, c3, c4, c5, c6, c7, c8, c9, c10, c11⟩ := frFacts w
  have fr' := fr
  obtain ⟨x, dx, o, t1, t2, rfl, i1, i2, fF⟩ := fr
  have I := InstAt.of_news D.nw i1 i2
  refine binOp_of (bin1_refl (s := ⟨h, g, d, t, os⟩) (idl := "int.__mul__") D.fr C.X I c1 c4 c5 c9 F.fills_int_mul c2 F.slot_int_mul (fun Q' hq => call_meets F.slot_int_mul (typeIs_int _ _ _) F.entry_int_mul (F.args_int_mul_2 _ _) (d_mul a ta x 305 dx) ⟨I.at_, hq⟩) ?_)
  refine (fRMul w x a ta p).t.use C D (by decide) ⟨fr', hd, hp1, hp2⟩ ?_
  intro r tl h' t' D' fr
  obtain ⟨y, rest⟩ := fr
  obtain ⟨dy, oy, t1', t2', rfl, rest⟩ := rest
  exact hret _ _ _ _ D' ⟨y, dy, oy, t1', t2', rfl, rest⟩
theorem opAddI (w : World) (x : Addr) (a : Int) (ta : Tok) (p : Rat) : SpecT w (binaryOp .Add (.ref x) (.int a ta)) 12 (fun news => FracV news (.ref x) p ∧ p.den < 1000000) (fun _ r tl => FracV tl r (p + (a : Rat))) := by
  rintro A env h₀ m news h g d t os Q E C D ⟨fr, hd⟩ hret
  obtain ⟨c1, c2, c3, c4, c5, c6, c7, c8, c9, c10, c11⟩ := frFacts w
  have fr' := fr
  obtain ⟨x, dx, o, t1, t2, ⟨⟩, i1, i2, fF⟩ := fr
  refine binOp_of (bin1_ownI (s := ⟨h, g, d, t, os⟩) D.fr C.X (InstAt.of_news D.nw i1 i2) c1 c6 c10 c7 (.inr ⟨_, rfl⟩) F.slot_int_radd.lookup F.fills_int_add c3 ?_)
  refine (fAdd w x (.int a ta) p (a : Rat)).t.use C D (by decide) ⟨fr', .inl ⟨a, ta, rfl, rfl⟩, by rw [(rat_int a).2]; omega⟩ ?_
  intro r tl h' t' D' fr
  obtain ⟨y, dy, oy, t1', t2', rfl, rest⟩ := fr
  exact hret _ _ _ _ D' ⟨y, dy, oy, t1', t2', rfl, rest⟩
theorem fRAdd (w : World) (x : Addr) (a : Int) (ta : Tok) (p : Rat) : Spec w (.ref 225) [.ref x, .int a ta] [] 14 (fun news => FracV news (.ref x) p ∧ p.den < 1000000) (fun _ r tl => FracV tl r (p + (a : Rat))) := by
  rintro A env h₀ m news h g d t os Q E C D hpre hret
  k_dflt (refine' enterF [("self", .ref x), ("other", .int a ta)] [] [] ?C ?D ?o ?c ?b ?f ?g ?i ?j ?_)
  kcf_m
  intro A' env' g' h₁ t' Q' C' fl D' hQ
  dsimp only [List.map, List.append_nil, List.cons_append, List.nil_append] at fl D'
  kcf_all
  refine (opAddI w x a ta p).use (by assumption) (by assumption) (by decide) hpre ?_
  intro r tl h3 t3 D3 fr
  kcf_all
  exact hQ _ _ _ _ _ _ (by assumption) fun D9 => hret _ _ _ _ D9 fr
/-- a sum grows by a Fraction -/
theorem opIAdd (w : World) (u v : Value) (p q : Rat) : SpecT w (inplaceOp .Add u v) 16 (fun news => NumV news u p ∧ FracV news v q ∧ p.den * q.den < 1000000) (fun _ r tl => FracV tl r (p + q)) := by
  rintro A env h₀ m news h g d t os Q E C D ⟨fu, fv, hd⟩ hret
  obtain ⟨c1, c2, c3, c4, c5, c6, c7, c8, c9, c10, c11⟩ := frFacts w
  obtain ⟨e1, e2, e3, e4, e5, e6, e7, e8, e9, e10, e11⟩ := frFacts2 w
  have fv' := fv
  obtain ⟨x, dx, o, t1, t2, rfl, i1, i2, fF⟩ := fv
  have I := InstAt.of_news D.nw i1 i2
  rcases fu with ⟨i, ti, rfl, rfl⟩ | fu
  · have nosl : Looks (model PG w) h (fillsInplaceSlot (.type "int") "add" true) false := by
      refine Looks.of_pure ?_
      unfold fillsInplaceSlot
      show (do let fi ← typeLookup (.type "int") (dunderI "add"); return fi.isSome && !isSeqSlot fi) = pure false
      rw [F.noI_int_add]; rfl
    refine inOp_of (s := ⟨h, g, d, t, os⟩) (op := .Add) (ta := .type "int") (Looks.of_pure rfl) nosl ?_
    refine bin1_refl (nm := "add") (s := ⟨h, g, d, t, os⟩) (idl := "int.__add__") D.fr C.X I c1 c6 c7 c11 F.fills_int_add c2 F.slot_int_add (fun Q' hq => call_meets F.slot_int_add (typeIs_int _ _ _) F.entry_int_add (F.args_int_add_2 _ _) (d_add i ti x 305 dx) ⟨I.at_, hq⟩) ?_
    refine (fRAdd w x i ti q).t.use C D (by decide) ⟨fv', ?_⟩ ?_
    · rw [(rat_int i).2] at hd; omega
    intro r tl h' t' D' fr
    rw [Rat.add_comm] at fr
    obtain ⟨y, dy, oy, t1', t2', rfl, rest⟩ := fr
    exact hret _ _ _ _ D' ⟨y, dy, oy, t1', t2', rfl, rest⟩
  · have fu' := fu
    obtain ⟨y, dy, oy, t1', t2', rfl, j1, j2, fG⟩ := fu
    have J := InstAt.of_news D.nw j1 j2
    have X := C.X.keeps D.fr.keep
    have nosl : Looks (model PG w) h (fillsInplaceSlot (.ref 305) "add" true) false := no_iadd w X
    refine inOp_of (s := ⟨h, g, d, t, os⟩) (ta := .ref 305) J.type nosl (bin1_own (s := ⟨h, g, d, t, os⟩) D.fr C.X J I.type c1 c6 c10 ?_)
    refine (fAdd w y (.ref x) p q).t.use C D (by decide) ⟨fu', .inr fv', hd⟩ ?_
    intro r tl h' t' D' fr
    obtain ⟨z, dz, oz, t1'', t2'', rfl, rest⟩ := fr
    exact hret _ _ _ _ D' ⟨z, dz, oz, t1'', t2'', rfl, rest⟩
end
section
open PySem.W.X (Led)
set_option pp.deepTerms false
theorem numT {news : List (Addr × Obj)} {v : Value} {q : Rat} (n : NumV news v q) {h₀ h : Heap} {L : Addr} {w : World} (N : News h₀ L h news) : ∃ tb, Looks (model PG w) h (typeOf v) tb ∧ (tb = .type "int" ∨ tb = .ref 305) := by
  rcases n with ⟨i, t, rfl, rfl⟩ | ⟨x, dx, o, t1, t2, rfl, i1, i2, fF⟩
  · exact ⟨_, Looks.of_pure rfl, .inl rfl⟩
  · exact ⟨_, (InstAt.of_news N i1 i2).type, .inr rfl⟩
theorem cUnit {w : World} {A : Around} {env : Env} {h₀ : Heap} {n : Nat} (C : Cx w A env h₀ n) : A.units < cLine := Nat.lt_of_le_of_lt (Nat.le_add_right _ _) C.units
theorem opLe (w : World) (x : Addr) (v : Value) (p q : Rat) : SpecT w (compareOp .LtE (.ref x) v) 12 (fun news => FracV news (.ref x) p ∧ NumV news v q ∧ p.den * q.den < 1000000) (fun _ r tl => r = .bool (decide (p ≤ q))) := by
  rintro A env h₀ m news h g d t os Q E C D ⟨fr, fv, hd⟩ hret
  obtain ⟨e1, e2, e3, e4, e5, e6, e7, e8, e9, e10, e11⟩ := frFacts2 w
  have fr' := fr
  obtain ⟨x, dx, o, t1, t2, ⟨⟩, i1, i2, fF⟩ := fr
  obtain ⟨tb, hl, ht⟩ := numT fv D.nw (w := w)
  refine cmp_ofLtE (cmp_K (s := ⟨h, g, d, t, os⟩) (cUnit C) D.fr C.X (InstAt.of_news D.nw i1 i2) hl (by rcases ht with rfl | rfl <;> assumption) e5 e9 ?_)
  refine (fLe w x v p q).t.use C D (by decide) ⟨fr', fv, hd⟩ ?_
  rintro r tl h' t' D' rfl
  exact hret _ _ _ _ D' rfl
theorem fGt (w : World) (x : Addr) (v : Value) (p q : Rat) : Spec w (.ref 295) [.ref x, v] [] 14 (fun news => FracV news (.ref x) p ∧ NumV news v q ∧ p.den * q.den < 1000000) (fun _ r tl => r = .bool (decide (p > q))) := by
  rintro A env h₀ m news h g d t os Q E C D hpre hret
  k_dflt (refine' enterF [("self", .ref x), ("other", v)] [] [] ?C ?D ?o ?c ?b ?f ?g ?i ?j ?_)
  kcf_m
  intro A' env' g' h₁ t' Q' C' fl D' hQ
  dsimp only [List.map, List.append_nil, List.cons_append, List.nil_append] at fl D'
  kcf_all
  refine (opLe w x v p q).use (by assumption) (by assumption) (by decide) hpre ?_
  rintro _ tl h3 t3 D3 rfl
  kcf_all
  exact hQ _ _ _ _ _ _ (by assumption) fun D9 => hret _ _ _ _ D9 (by show Value.bool _ = _; rw [show (!decide (p ≤ q)) = decide (p > q) by rw [← decide_not, decide_eq_decide]; exact Rat.not_le])
theorem fEq (w : World) (x : Addr) (v : Value) (p q : Rat) : Spec w (.ref 274) [.ref x, v] [] 14 (fun news => FracV news (.ref x) p ∧ NumV news v q) (fun _ r tl => r = .bool (decide (p = q))) := by
  rintro A env h₀ m news h g d t os Q E C D ⟨fr, hv⟩ hret
  have fr' := fr
  have hv' := hv
  obtain ⟨x, dx, o, t1, t2, ⟨⟩, i1, i2, fF⟩ := fr
  k_dflt (refine' enterF [("self", .ref x), ("other", v)] [] ["isinstance", "int", "Fraction", "fraction_parts"] ?C ?D ?o ?c ?b ?f ?g ?i ?j ?_)
  kcf_m
  intro A' env' g' h₁ t' Q' C' fl D' hQ
  dsimp only [List.map, List.append_nil, List.cons_append, List.nil_append] at fl D'
  have fin : ∀ b : Int, Value.bool (decide (p.num = q.num ∧ (p.den : Int) = (q.den : Int))) = .bool (decide (p = q)) := fun _ => by
    congr 1; rw [decide_eq_decide]
    constructor
    · rintro ⟨h1, h2⟩; exact Rat.ext h1 (Int.ofNat_inj.mp h2)
    · rintro rfl; exact ⟨rfl, rfl⟩
  obtain ⟨i, ti, rfl, rfl⟩ | ⟨y, dy, oy, t1', t2', rfl, j1, j2, fG⟩ := hv
  · kcf_all
    refine (fpN w (.ref x) p).t.use (by assumption) (by assumption) (by decide) (.inr (fr'.mono fun _ h => .tail _ h)) ?_
    rintro _ _ h2 t2' D2 ⟨a2, k2, k3, rfl, rfl⟩
    dsimp only [List.cons_append, List.nil_append] at D2
    kcf_all
    refine (fpN w _ _).t.use (by assumption) (by assumption) (by decide) (hv'.mono fun _ h => .tail _ (.tail _ h)) ?_
    rintro _ _ h2 t2' D2 ⟨a3, k4, k5, rfl, rfl⟩
    dsimp only [List.cons_append, List.nil_append] at D2
    kcf_all
    exact hQ _ _ _ _ _ _ (by assumption) fun D9 => hret _ [_, _, _] _ _ D9 (fin 0)
  · kcf_all
    refine (fpN w (.ref x) p).t.use (by assumption) (by assumption) (by decide) (.inr (fr'.mono fun _ h => .tail _ h)) ?_
    rintro _ _ h2 t2' D2 ⟨a2, k2, k3, rfl, rfl⟩
    dsimp only [List.cons_append, List.nil_append] at D2
    kcf_all
    refine (fpN w _ _).t.use (by assumption) (by assumption) (by decide) (hv'.mono fun _ h => .tail _ (.tail _ h)) ?_
    rintro _ _ h2 t2' D2 ⟨a3, k4, k5, rfl, rfl⟩
    dsimp only [List.cons_append, List.nil_append] at D2
    kcf_all
    exact hQ _ _ _ _ _ _ (by assumption) fun D9 => hret _ [_, _, _] _ _ D9 (fin 0)
/-- a > b of numbers -/
theorem opGt (w : World) (u v : Value) (p q : Rat) : SpecT w (compareOp .Gt u v) 16 (fun news => NumV news u p ∧ NumV news v q ∧ p.den * q.den < 1000000) (fun _ r tl => r = .bool (decide (p > q))) := by
  rintro A env h₀ m news h g d t os Q E C D ⟨fu, fv, hd⟩ hret
  obtain ⟨c1, c2, c3, c4, c5, c6, c7, c8, c9, c10, c11⟩ := frFacts w
  obtain ⟨e1, e2, e3, e4, e5, e6, e7, e8, e9, e10, e11⟩ := frFacts2 w
  have fu' := fu
  obtain ⟨i, ti, rfl, rfl⟩ | ⟨x, dx, o, t1, t2, rfl, i1, i2, fF⟩ := fu
  · have fv' := fv
    obtain ⟨j, tj, rfl, rfl⟩ | fv := fv
    · refine P.gt_int ?_
      refine hret _ [] _ _ D ?_
      show Value.bool _ = _
      congr 1; rw [decide_eq_decide]; exact Rat.intCast_lt_intCast.symm
    · have fv2 := fv
      obtain ⟨y, dy, oy, t1', t2', rfl, j1, j2, fG⟩ := fv
      have J := InstAt.of_news D.nw j1 j2
      refine cmp_ofGt (cmp_refl (s := ⟨h, g, d, t, os⟩) (ida := "int.__gt__") (cUnit C) D.fr C.X J c2 e4 e8 F.slot_int_gt (fun Q' hq => call_meets F.slot_int_gt (typeIs_int _ _ _) F.entry_int_gt (F.args_int_gt_2 _ _) (d_gt i ti y 305 dy) ⟨J.at_, hq⟩) ?_)
      refine (fLt w y (.int i ti) q (i : Rat)).t.use C D (by decide) ⟨fv2, fu', by rw [Nat.mul_comm]; exact hd⟩ ?_
      rintro _ tl h' t' D' rfl
      exact hret _ _ _ _ D' rfl
  · obtain ⟨tb, hl, ht⟩ := numT fv D.nw (w := w)
    refine cmp_ofGt (cmp_K (s := ⟨h, g, d, t, os⟩) (cUnit C) D.fr C.X (InstAt.of_news D.nw i1 i2) hl (by rcases ht with rfl | rfl <;> assumption) e3 e7 ?_)
    refine (fGt w x v p q).t.use C D (by decide) ⟨by rcases fu' with ⟨_, _, ⟨⟩, _⟩ | fu; exact fu, fv, hd⟩ ?_
    rintro r tl h' t' D' rfl
    exact hret _ _ _ _ D' rfl
theorem opEq (w : World) (u v : Value) (p q : Rat) : SpecT w (compareOp .Eq u v) 16 (fun news => NumV news u p ∧ NumV news v q) (fun _ r tl => r = .bool (decide (p = q))) := by
  rintro A env h₀ m news h g d t os Q E C D ⟨fu, fv⟩ hret
  obtain ⟨c1, c2, c3, c4, c5, c6, c7, c8, c9, c10, c11⟩ := frFacts w
  obtain ⟨e1, e2, e3, e4, e5, e6, e7, e8, e9, e10, e11⟩ := frFacts2 w
  have fu' := fu
  obtain ⟨i, ti, rfl, rfl⟩ | ⟨x, dx, o, t1, t2, rfl, i1, i2, fF⟩ := fu
  · have fv' := fv
    obtain ⟨j, tj, rfl, rfl⟩ | fv := fv
    · refine P.eq_int ?_
      refine hret _ [] _ _ D ?_
      show Value.bool _ = _
      congr 1
      by_cases hij : i = j
      · simp [hij]
      · have : ¬ ((i : Rat) = (j : Rat)) := fun q => hij (Rat.intCast_inj.mp q)
        simp [hij, this]
    · have fv2 := fv
      obtain ⟨y, dy, oy, t1', t2', rfl, j1, j2, fG⟩ := fv
      have J := InstAt.of_news D.nw j1 j2
      refine cmp_ofEq (cmp_refl (s := ⟨h, g, d, t, os⟩) (ida := "int.__eq__") (cUnit C) D.fr C.X J c2 e6 e10 F.slot_int_eq (fun Q' hq => call_meets F.slot_int_eq (typeIs_int _ _ _) F.entry_int_eq (F.args_int_eq_2 _ _) (d_eq i ti y 305 dy) ⟨J.at_, hq⟩) ?_)
      refine (fEq w y (.int i ti) q (i : Rat)).t.use C D (by decide) ⟨fv2, fu'⟩ ?_
      rintro _ tl h' t' D' rfl
      exact hret _ _ _ _ D' (by rw [show decide (q = (i : Rat)) = decide ((i : Rat) = q) by rw [decide_eq_decide]; exact eq_comm])
  · obtain ⟨tb, hl, ht⟩ := numT fv D.nw (w := w)
    refine cmp_ofEq (cmp_K (s := ⟨h, g, d, t, os⟩) (cUnit C) D.fr C.X (InstAt.of_news D.nw i1 i2) hl (by rcases ht with rfl | rfl <;> assumption) e6 e10 ?_)
    refine (fEq w x v p q).t.use C D (by decide) ⟨by rcases fu' with ⟨_, _, ⟨⟩, _⟩ | fu; exact fu, fv⟩ ?_
    rintro r tl h' t' D' rfl
    exact hret _ _ _ _ D' rfl
end
section
open PySem.W.X (Led)
set_option pp.deepTerms false
theorem pavS (w : World) (i : Int) (ti : Tok) (h1 : 1 ≤ i) (h2 : i ≤ 4) : Spec w (.ref 360) [.int i ti] [] 10 (fun _ => True) (fun _ r tl => FracV tl r (mkRat 1 i.toNat)) := by
  intro A env h₀ m news h g d t os Q E C D hP hret
  k_dflt (refine' enterF [("i", .int i ti)] [] ["Fraction"] ?C ?D ?o ?c ?b ?f ?g ?i ?j ?_)
  kcf_m
  intro A' env' g h₁ t' Q' C' fl D' hQ
  dsimp only [List.map, List.append_nil, List.cons_append, List.nil_append] at fl D'
  kcf_all
  refine (frNew w _ _ _ _ (show 0 < i by omega) (by omega)).t.use (by assumption) (by assumption) (by decide) trivial ?_
  intro r tl h3 t3 D3 fr
  kcf_all
  exact hQ _ _ _ _ _ _ (by assumption) fun D9 => hret _ _ _ _ D9 fr
theorem slavS (w : World) (i : Int) (ti : Tok) (h1 : 1 ≤ i) (h2 : i ≤ 4) : Spec w (.ref 374) [.int i ti] [] 10 (fun _ => True) (fun _ r tl => FracV tl r (mkRat 1 (2 * i - 1).toNat)) := by
  intro A env h₀ m news h g d t os Q E C D hP hret
  k_dflt (refine' enterF [("i", .int i ti)] [] ["Fraction"] ?C ?D ?o ?c ?b ?f ?g ?i ?j ?_)
  kcf_m
  intro A' env' g h₁ t' Q' C' fl D' hQ
  dsimp only [List.map, List.append_nil, List.cons_append, List.nil_append] at fl D'
  kcf_all
  refine (frNew w _ _ _ _ (show 0 < 2 * i - 1 by omega) (by omega)).t.use (by assumption) (by assumption) (by decide) trivial ?_
  intro r tl h3 t3 D3 fr
  kcf_all
  exact hQ _ _ _ _ _ _ (by assumption) fun D9 => hret _ _ _ _ D9 fr
/-- Fraction(i1) of an int -/
theorem frNew1 (w : World) (i1 : Int) (ta : Tok) : Spec w (.ref 305) [.int i1 ta] [] 8 (fun _ => True) (fun _ r tl => FracV tl r (mkRat i1 (1 : Int).toNat)) := by
  have h0 : (0 : Int) < 1 := by decide
  have h2 : (1 : Int) < 1000000 := by decide
  intro A env h₀ m news h g d t os Q E C D hP hret
  k_dflt (refine' makeF "self" [("numerator", .int i1 ta), ("denominator", .int 1 470)] ["upper", "below", "lower", "above", "divisor", "rest"] ["fraction_parts", "ZeroDivisionError"] ?C ?D ?m ?i ?f ?o ?c ?b ?fl ?g ?k ?j ?_)
  kd_adr
  intro x dx A' env' g' h₁ t' Q' C' fl D' hQ
  dsimp only [List.map, List.append_nil, List.cons_append, List.nil_append] at fl D'
  kcf_all
  refine (fpI w _ _).t.use (by assumption) (by assumption) (by decide) trivial ?_
  rintro _ _ h2 t2 D2 ⟨a2, k2, rfl, rfl⟩
  dsimp only [List.cons_append, List.nil_append] at D2
  kcf_all
  refine (fpI w _ _).t.use (by assumption) (by assumption) (by decide) trivial ?_
  rintro _ _ h3 t3 D3 ⟨a3, k3, rfl, rfl⟩
  dsimp only [List.cons_append, List.nil_append] at D3
  kcf_all
  refine rWhile (fun k vs l => ∃ (D R : Int) (tD tR tu tl : Tok), l = (x, instObj 305 dx) :: (dx, dictOf [] 0) :: news ∧ 0 < D ∧ D ≤ 1 ∧ R < D ∧ 0 ≤ R ∧ Int.gcd D R = Int.gcd 1 i1 ∧ k = R.toNat ∧
      vs = [some (.ref x), some (.int i1 ta), some (.int 1 470), some (.int (i1 * 1) tu), some (.int 1 k2), some (.int (1 * 1) tl), some (.int 1 k3), some (.int D tD), some (.int R tR)]) _ (ledApp (t := [_, _]) (by assumption)) ⟨_, _, _, _, _, _, rfl, ?_, ?_, ?_, ?_, ?_, rfl, rfl⟩ ?_
  · omega
  · omega
  · have := Int.fmod_lt_of_pos (i1 * 1) (show (0 : Int) < 1 * 1 by omega); omega
  · exact Int.fmod_nonneg_of_pos _ (by omega)
  · rw [Int.mul_one, Int.mul_one]; exact gcd_first _ _ h0
  rintro k _ _ h4 t4 D4 ⟨dv, rs, tD, tR, tu, tl, rfl, hd0, hd1, hrd, hr0, hg, rfl, rfl⟩
  have hr1 : rs = 0 := by omega
  have hd2 : dv ≠ 0 := by omega
  kcf_all
  subst hr1
  obtain ⟨e1, e2⟩ := mk_num i1 1 dv h0 hd0 hg
  refine hQ _ _ _ _ _ _ (by assumption) fun D9 => ⟨rfl, ?_⟩
  refine hret _ [_, _] _ _ D9 ⟨x, dx, _, _, _, rfl, .head _, .tail _ (.head _), by rw [← e1, ← e2]; assumption⟩
end
section
open PySem.W.X (Led)
set_option pp.deepTerms false
theorem ccS (w : World) (i : Int) (ti : Tok) : Spec w (.ref 388) [.int i ti] [] 12 (fun _ => True) (fun _ r tl => FracV tl r (if i = 1 then 1 else 0)) := by
  intro A env h₀ m news h g d t os Q E C D hP hret
  k_dflt (refine' enterF [("i", .int i ti)] [] ["Fraction"] ?C ?D ?o ?c ?b ?f ?g ?i ?j ?_)
  kcf_m
  intro A' env' g h₁ t' Q' C' fl D' hQ
  dsimp only [List.map, List.append_nil, List.cons_append, List.nil_append] at fl D'
  kcf_all
  refine Br.sp (fun hc => ?_) (fun hc => ?_)
  · have hi : i = 1 := by simpa using hc
    kcf_all
    refine (frNew1 w _ _).t.use (by assumption) (by assumption) (by decide) trivial ?_
    intro r tl h3 t3 D3 fr
    kcf_all
    rw [if_pos hi] at hret
    exact hQ _ _ _ _ _ _ (by assumption) fun D9 => hret _ _ _ _ D9 fr
  · have hi : i ≠ 1 := by simpa using hc
    kcf_all
    refine (frNew1 w _ _).t.use (by assumption) (by assumption) (by decide) trivial ?_
    intro r tl h3 t3 D3 fr
    kcf_all
    rw [if_neg hi] at hret
    exact hQ _ _ _ _ _ _ (by assumption) fun D9 => hret _ _ _ _ D9 fr
theorem avS (w : World) (i : Int) (ti : Tok) (h1 : 1 ≤ i) : Spec w (.ref 381) [.int i ti] [] 12 (fun _ => True) (fun _ r tl => FracV tl r 1) := by
  intro A env h₀ m news h g d t os Q E C D hP hret
  k_dflt (refine' enterF [("i", .int i ti)] [] ["Fraction"] ?C ?D ?o ?c ?b ?f ?g ?i ?j ?_)
  kcf_m
  intro A' env' g h₁ t' Q' C' fl D' hQ
  dsimp only [List.map, List.append_nil, List.cons_append, List.nil_append] at fl D'
  kcf_all
  refine (frNew1 w _ _).t.use (by assumption) (by assumption) (by decide) trivial ?_
  intro r tl h3 t3 D3 fr
  kcf_all
  exact hQ _ _ _ _ _ _ (by assumption) fun D9 => hret _ _ _ _ D9 fr
end
section
open PySem.W.X (Led)
set_option pp.deepTerms false
theorem oPow {A : Around} {g : Array GenState} {d : Drawn} {os : OsState} {h : Heap} {w : World} {E : Value → Shared → Prop} {t : Nat} {a b : Int} {ta tb : Tok} {Q : Value → Shared → Prop} (h0 : 0 ≤ b) (h1 : b ≤ 1000000) (h2 : a.natAbs < 2 ^ 64) (hq : ∀ tk t', Q (.int (a ^ b.toNat) tk) ⟨h, g, d, t', os⟩) : wpAny (model PG w) A (binaryOp .Pow (.int a ta) (.int b tb)) Q E ⟨h, g, d, t, os⟩ := PyProof.Rows.pow_int_small h0 h1 h2 (hq _ _)
theorem geomS (w : World) (i : Int) (ti tb : Tok) (h1 : 1 ≤ i) (h2 : i ≤ 4) : Spec w (.ref 353) [.int i ti] [(Str.ofString "base", .int 2 tb)] 12 (fun _ => True) (fun _ r tl => FracV tl r (mkRat 1 (2 ^ (i - 1).toNat))) := by
  intro A env h₀ m news h g d t os Q E C D hP hret
  k_dflt (refine' enterF [("i", .int i ti), ("base", .int 2 tb)] [] ["Fraction"] ?C ?D ?o ?c ?b ?f ?g ?i ?j ?_)
  kcf_m
  intro A' env' g h₁ t' Q' C' fl D' hQ
  dsimp only [List.map, List.append_nil, List.cons_append, List.nil_append] at fl D'
  kcf_all
  refine oPow (by omega) (by omega) (by decide) ?_
  intro tk t4
  kcf_all
  have e : ((2 : Int) ^ (i - 1).toNat) = ((2 ^ (i - 1).toNat : Nat) : Int) := by rw [Int.natCast_pow]; rfl
  have hp : 0 < 2 ^ (i - 1).toNat := Nat.two_pow_pos _
  have hq : 2 ^ (i - 1).toNat ≤ 2 ^ 3 := Nat.pow_le_pow_right (by decide) (by omega)
  refine (frNew w _ _ _ _ (by rw [e]; omega) (by rw [e]; omega)).t.use (by assumption) (by assumption) (by decide) trivial ?_
  intro r tl h3 t3 D3 fr
  kcf_all
  rw [e, Int.toNat_natCast] at fr
  exact hQ _ _ _ _ _ _ (by assumption) fun D9 => hret _ _ _ _ D9 fr
end
section
open PySem.W.X (Led)
open PyProof.Rows PySem.Calls PySem.Spec
theorem entry_set_and : entryFor table "set.__and__" = some Builtin.«frozenset.__and__» :=
  entryFor_alias (id' := "frozenset.__and__") (by kernel_rfl) rfl (by decide +kernel) (by kernel_rfl)
theorem cs_and (w : World) {h : Heap} {M : Model} (X : (hd.heap_39 w.params).In h) : Looks M h (fillsNumberSlot (.ref 75) "and") true := by
  have e : (clsIn (hd.heap_39 w.params) 75).map (·.mro) = some [.ref 75, .type "set", .type "object"] := by kernel_rfl!
  obtain ⟨cd, hcd, hm⟩ := Option.map_eq_some_iff.mp e
  have e2 : findIn (hd.heap_39 w.params) (.ref 75) (PySem.dunder "and") = some (some (.builtin "set.__and__")) := by kernel_rfl!
  have e3 : findIn (hd.heap_39 w.params) (.type "object") (PySem.dunder "and") = some none := by kernel_rfl!
  have e4 : findIn (hd.heap_39 w.params) (.type "set") (PySem.dunder "and") = some (some (.builtin "set.__and__")) := by kernel_rfl!
  intro A Q E s k q
  have Lm : Looks M h (mroOf (.ref 75)) cd.mro := (looks_clsIn X hcd).andThen (f := fun cd => pure cd.mro) .now
  have Lm' := Lm.keeps k
  obtain ⟨hh, g, d, tt, os⟩ := s
  have X' : (hd.heap_39 w.params).In hh := X.keeps k
  have L1 : Looks M hh (typeLookup (.ref 75) (PySem.dunder "and")) (some (.builtin "set.__and__")) := looks_findIn X' e2
  have L2 : Looks M hh (typeLookup (.type "object") (PySem.dunder "and")) none := looks_findIn X' e3
  have L3 : Looks M hh (typeLookup (.type "set") (PySem.dunder "and")) (some (.builtin "set.__and__")) := looks_findIn X' e4
  unfold fillsNumberSlot
  refine wpAny_bind (Lm'.at ?_)
  rw [hm, List.anyM_cons]
  refine wpAny_bind ?_
  show wpAny M A (List.anyM _ [PySem.dunder "and", dunderR "and"]) _ _ _
  rw [List.anyM_cons]
  refine wpAny_bind (wpAny_bind (L1.at ?_))
  show wpAny M A (if (!ownNameWrapper (.builtin "set.__and__") (PySem.dunder "and")) = true then pure true else _) _ _ _
  rw [if_neg (by decide +kernel)]
  refine wpAny_bind ?_
  unfold inheritsSeqSlot
  refine wpAny_bind (Lm'.at ?_)
  rw [hm, List.anyM_cons]
  refine wpAny_bind (wpAny_pure ?_)
  simp only [Bool.false_eq_true, if_false]
  rw [List.anyM_cons]
  refine wpAny_bind (wpAny_bind (L3.at (wpAny_pure ?_)))
  rw [show isSeqSlot (some (.builtin "set.__and__")) = false by decide +kernel]
  simp only [Bool.false_eq_true, if_false]
  rw [List.anyM_cons]
  refine wpAny_bind (wpAny_bind (L2.at (wpAny_pure ?_)))
  exact wpAny_pure (wpAny_pure (wpAny_pure (wpAny_pure q)))
section
variable {w : World} {A : Around} {E : Value → Shared → Prop} {s : Shared} {a b : Addr} {dd' : Option Addr} {x y : S4} {ep ep' : Nat}
theorem opAnd4 {Q : Value → Shared → Prop} (X : (hd.heap_39 w.params).In s.heap) (ha : s.heap.get? a = some (setO w (.type "set") none x ep)) (hb : s.heap.get? b = some (setO w (.ref 75) dd' y ep')) (hab : b ≠ a)
    (hq : ∀ h' z e, h'.get? s.heap.objs.size = some (setO w (.type "set") none z e) → (∀ u, (z.get u).isSome = ((x.get u).isSome && (y.get u).isSome)) → (∀ c o, s.heap.get? c = some o → h'.get? c = some o) → s.heap.objs.size < h'.objs.size → Q (.ref s.heap.objs.size) { s with heap := h' }) :
    wpAny (model PG w) A (binaryOp .BitAnd (.ref a) (.ref b)) Q E s := by
  have Lb := SetLike.cs X hb
  have La := SetLike.set ha
  refine binOp_of ?_
  have hT : s.TypeIs (.ref a) "set" := ⟨_, ha, rfl⟩
  have one : wpAny (model PG w) A (tryMethod (.ref a) (PySem.dunder "and") (.ref b)) (fun r s' => ∃ v, r = some v ∧ Q v s') E s := by
    unfold tryMethod
    refine wpAny_bind (wpAny_callSpecial?_slot hT F.slot_set_and ?_)
    refine SL.call (SL.ofT F.slot_set_and ha rfl) entry_set_and (F.args_set_and_2 _ _) ?_
    show wpAny _ _ (do
      let (self, other) ← Builtin.Frozenset.slot1 "__and__" ⟨[.ref a, .ref b], []⟩
      let (l, r) := if false then (other, self) else (self, other)
      if !(← Builtin.Frozenset.isAnySet l <&&> Builtin.Frozenset.isAnySet r) then rule s!"frozenset.__and__.declined"; return ← ret .notImplemented
      ret (← Builtin.Frozenset.intersection s!"frozenset.__and__" (← Builtin.Frozenset.addrOf l) r)) _ _ s
    refine wpAny_bind (wpAny_of_eq (by rfl : Builtin.Frozenset.slot1 "__and__" ⟨[.ref a, .ref b], []⟩ = pure (.ref a, .ref b)) ?_)
    show wpAny _ _ (do
      if !(← Builtin.Frozenset.isAnySet (.ref a) <&&> Builtin.Frozenset.isAnySet (.ref b)) then rule s!"frozenset.__and__.declined"; return ← ret .notImplemented
      ret (← Builtin.Frozenset.intersection s!"frozenset.__and__" (← Builtin.Frozenset.addrOf (.ref a)) (.ref b))) _ _ s
    have hin : ∀ (id : String) (P : Value → Shared → Prop) (E : Value → Shared → Prop), (∀ h' z e, h'.get? s.heap.objs.size = some (setO w (.type "set") none z e) → (∀ u, (z.get u).isSome = ((x.get u).isSome && (y.get u).isSome)) → (∀ c o, s.heap.get? c = some o → h'.get? c = some o) → s.heap.objs.size < h'.objs.size → P (.ref s.heap.objs.size) { s with heap := h' }) →
      wpAny (model PG w) A.in1 (Builtin.Frozenset.intersection id a (.ref b)) P E s := fun id P E hp => inter4 ha hb hab Lb hp
    have g1 := anySet La
    have g2 := anySet Lb
    generalize Builtin.Frozenset.intersection = IN at hin ⊢
    obtain ⟨hh, g, d, tt, os⟩ := s
    generalize Builtin.Frozenset.isAnySet = AS at g1 g2 ⊢
    repeat lk
    exact hin _ _ _ fun h' z e f1 f2 f3 f4 => wpAny_pure ⟨_, rfl, wpAny_pure ⟨_, rfl, hq h' z e f1 f2 f3 f4⟩⟩
  have e1 : findIn (hd.heap_39 w.params) (.ref 75) (dunderR "and") = some (some (.builtin "set.__rand__")) := by kernel_rfl!
  have e2 : findIn (hd.heap_39 w.params) (.type "set") (dunderR "and") = some (some (.builtin "set.__rand__")) := by kernel_rfl!
  obtain ⟨hh, g, d, tt, os⟩ := s
  have L1 : Looks (model PG w) hh (typeOf (.ref a)) (.type "set") := (Looks.ld ha).andThen .now
  have L2 : Looks (model PG w) hh (typeOf (.ref b)) (.ref 75) := (Looks.ld hb).andThen .now
  have L3 : Looks (model PG w) hh (fillsNumberSlot (.type "set") "and") true := Looks.of_pure F.fills_set_and
  have L4 : Looks (model PG w) hh (fillsNumberSlot (.ref 75) "and") true := cs_and w X
  have L5 : Looks (model PG w) hh (isSubtype (.ref 75) (.type "set")) true := looks_subIn X (by kernel_rfl!)
  have L6 : Looks (model PG w) hh (numberSlotInPython (.type "set") "and") false := Looks.of_pure rfl
  have L7 : Looks (model PG w) hh (typeLookup (.ref 75) (dunderR "and")) (some (.builtin "set.__rand__")) := looks_findIn X e1
  have L8 : Looks (model PG w) hh (typeLookup (.type "set") (dunderR "and")) (some (.builtin "set.__rand__")) := looks_findIn X e2
  have hne : (Value.type "set" == Value.ref 75) = false := Bool.eq_false_iff.mpr fun q => by cases beq_iff_eq.mp q
  show wpAny _ _ (binaryOp1 "and" (.ref a) (.ref b)) _ _ _
  unfold binaryOp1
  refine wpAny_bind (L1.at (wpAny_bind (L2.at (wpAny_bind (L3.at ?_)))))
  simp only [hne, Bool.false_eq_true, if_false]
  unfold reflectedDiffers
  ksp_lk
  refine wpAny_mono one (fun r s' hr' => ?_) fun _ _ e => e
  obtain ⟨v, rfl, hq⟩ := hr'
  exact wpAny_pure ⟨_, rfl, hq⟩
end
end
section
open PySem.W.X (Led)
open PyProof.Rows PySem.Calls PySem.Spec
section
variable {w : World} {A : Around} {E : Value → Shared → Prop} {s : Shared} {a : Addr} {vs : List Value}
theorem setNew1 (a : Value) {Q₁ : Value → Shared → Prop} (h : Q₁ (.ref s.heap.objs.size) { s with heap := s.heap.push (setO w (.type "set") none S4.nil 0) }) :
    codeAny (model PG w) A (.call (.builtin "set.__new__") ⟨[.type "set", a], []⟩) (wants Q₁ E) s := by
  refine codeAny_of_tree ?_
  show wpAny _ A.in1 (do checkBuiltinCall "set.__new__" ⟨[.type "set", a], []⟩; again (.builtin "set.__new__" ⟨[.type "set", a], []⟩)) _ _ s
  refine wpAny_bind (wpAny_of_eq (F.newCall_set_1 a) (wpAny_pure ⟨plainId_quiet F.plain_set_new _, codeAny_builtin F.entry_set_new ?_⟩))
  rw [Around.under_plainId F.plain_set_new _]
  unfold Builtin.«set.__new__»
  have hcl : wpAny (model PG w) A.in1 (Builtin.Frozenset.newClass "set" ⟨[.type "set", a], []⟩) (fun r s' => r.1 = .type "set" ∧ s' = s) (fun _ _ => False) s := by
    unfold Builtin.Frozenset.newClass
    have hsub := sub_set_self
    obtain ⟨hp, g, d, tk, os⟩ := s
    dsimp only
    wp_walk
    exact ⟨rfl, rfl⟩
  refine wpAny_bind (wpAny_mono hcl (fun r s' hr => ?_) fun _ _ e => e.elim)
  obtain ⟨e, rfl⟩ := hr
  refine wpAny_bind (newSet4 (w := w) e fun h' e' => ?_)
  subst e'
  exact wpAny_pure h
theorem callSet {ns : List Nat} {Q : Value → Shared → Prop} (hh : A.handled = none) (Z : Src w s.heap a vs) (hi : IntsN vs ns)
    (hq : ∀ h' tk e x', h'.get? s.heap.objs.size = some (setO w (.type "set") none x' e) → Holds4 x' ns → (∀ b o, s.heap.get? b = some o → h'.get? b = some o) → Q (.ref s.heap.objs.size) { s with heap := h', toks := tk }) :
    wpAny (model PG w) A (call (.type "set") [.ref a]) Q E s := by
  obtain ⟨c, tl, hmro⟩ := F.called_set.mro
  have hmade := F.called_set.made
  have hsub := F.called_set.sub
  refine wpAny_call (codeAny_of_tree ?_)
  show wpAny _ _ (callAny (.type "set") _) _ _ _
  refine wpAny_pure ⟨Code.quiet_builtin _ (by decide +kernel), codeAny_builtin F.entry_type_call ?_⟩
  rw [Around.under_plain (weight_type_call_type "set" [.ref a] []) rfl]
  have h1 := F.called_set.notType
  have h2 := F.called_set.canCreate
  have hct := F.typeCall_set_1 (.ref a)
  repeat (any_goals (first | assumption | wp_step))
  refine codeAny_mono (setNew1 (.ref a) (w := w) (E := E) (Q₁ := fun obj s₁ => obj = .ref s.heap.objs.size ∧ s₁ = { s with heap := s.heap.push (setO w (.type "set") none S4.nil 0) }) ⟨rfl, rfl⟩) fun r s₁ hr => ?_
  cases r with
  | error e => exact hr
  | ok fl =>
    cases fl with
    | ret obj =>
      obtain ⟨rfl, rfl⟩ := hr
      have hS : (s.heap.push (setO w (.type "set") none S4.nil 0)).get? s.heap.objs.size = some (setO w (.type "set") none S4.nil 0) := Heap.get?_push_size _ rfl
      have hT : Shared.TypeIs { s with heap := s.heap.push (setO w (.type "set") none S4.nil 0) } (.ref s.heap.objs.size) "set" := ⟨_, hS, rfl⟩
      have hli := F.called_set.init.lookup
      have hbi := F.called_set.init.bind (.ref s.heap.objs.size)
      repeat (any_goals (first | assumption | wp_step))
      have Z' := Z.keeps (h' := s.heap.push (setO w (.type "set") none S4.nil 0)) fun b o e => Heap.get?_push_of_some _ e
      have hne : s.heap.objs.size ≠ a := fun q => Nat.lt_irrefl _ (q ▸ Z.lt)
      refine codeAny_call_builtin F.called_set.init.plain F.entry_set_init (check_set_init_1 hT ?_)
      refine setInitB (s := { s with heap := s.heap.push (setO w (.type "set") none S4.nil 0) }) (by simp [hh]) (SetLike.set hS) hne hS Z' hi fun h' tk e x' e1 e2 e3 => ?_
      show wpAny _ _ (pure (some Value.none)) _ _ _
      refine wpAny_pure ?_
      show wpAny _ _ (ret (Value.ref s.heap.objs.size)) _ _ _
      exact wpAny_pure (hq h' tk e x' e1 e2 fun b o eb => e3 b o (fun q => Nat.lt_irrefl _ (q ▸ Heap.lt_size eb)) (Heap.get?_push_of_some _ eb))
    | _ => exact hr.elim
/-- len of a set -/
theorem len4 {cl : Value} {dd : Option Addr} {x : S4} {ep : Nat} {Q : Value → Shared → Prop} (L : SetLike (model PG w) s.heap a) (ho : s.heap.get? a = some (setO w cl dd x ep)) (hq : ∀ tk t', Q (.int (x.vs.length : Int) tk) { s with toks := t' }) :
    wpAny (model PG w) A (call (.builtin "len") [.ref a]) Q E s := by
  refine Calls.call_function_entry kind_len plain_len entry_len (args_len1 _) ?_
  have hb : (x.vs.length : Int) ≤ 4 := by have := x.len4; omega
  unfold Builtin.«len»
  refine wpAny_bind (m := oneArg "len" _) (wpAny_pure ?_)
  refine wpAny_bind (m := callSpecial? (.ref a) (Str.ofString "__len__")) (L.len.special (L.len.call entry_set_len (F.args_set_len_1 _) ?_))
  show wpAny _ _ (do retInt (← Builtin.Frozenset.sizeOf (← Builtin.Frozenset.slot0 "__len__" ⟨[.ref a], []⟩))) _ _ _
  refine wpAny_bind (wpAny_of_eq (by rfl : Builtin.Frozenset.slot0 "__len__" ⟨[.ref a], []⟩ = pure a) ?_)
  refine wpAny_bind (sizeOf4 ho ?_)
  unfold retInt
  refine wpAny_bind (wpAny_mkInt (wpAny_pure ⟨_, rfl, ?_⟩))
  refine wpAny_bind (wpAny_holding (wpAny_pure ?_))
  refine wpAny_bind (wpAny_letGo ?_)
  show wpAny _ _ (if (x.vs.length : Int) < 0 then _ else _) _ _ _
  rw [if_neg (by omega)]
  show wpAny _ _ (if (x.vs.length : Int) ≥ 2 ^ 63 then _ else _) _ _ _
  rw [if_neg (by omega)]
  exact wpAny_bind (wpAny_mkInt (wpAny_pure ⟨_, rfl, hq _ _⟩))
end
end
section
open PySem.W.X (Led)
open PyProof.Rows PySem.Calls PySem.Spec
theorem sn_sig : Manifest.signature? "set.__new__" = some ⟨.any, "set", "set", .cls, [⟨"args", .varPos, false⟩, ⟨"kwargs", .varKw, false⟩]⟩ := by kernel_rfl
theorem sn_args (rest : List Value) (kw : List (Str × Value)) : Bind.checkArgs "set.__new__" ⟨.any, "set", "set", .cls, [⟨"args", .varPos, false⟩, ⟨"kwargs", .varKw, false⟩]⟩ ⟨.ref 75 :: rest, kw⟩ = pure () := by kernel_rfl
theorem sn_kind : builtinKind "set.__new__" = some .builtinFn := by decide +kernel
theorem sn_split : splitId "set.__new__" = some ("set", "__new__") := by decide +kernel
structure CsFacts (w : World) (h : Heap) : Prop where
  obj : ∃ oc od cd sl, h.get? 75 = some ⟨oc, od, .cls cd, sl⟩ ∧ cd.abstract = false ∧ cd.hasDel = false ∧ cd.mro.isEmpty = false
  made : Looks (model PG w) h (Bind.madeBy (.ref 75)) (some "set.__new__")
  base : Looks (model PG w) h (Bind.staticBase (.ref 75)) (.ref 75)
  self : Looks (model PG w) h (isSubtype (.ref 75) (.ref 75)) true
  top : Looks (model PG w) h (isSubtype (.ref 75) (.type "set")) true
  call : Looks (model PG w) h (specialOf (.ref 75) "__call__") (some (.builtin "type.__call__"))
  typ : Looks (model PG w) h (isInstance (.ref 75) (.type "type")) true
def csIn (K : Frag) : Bool := match K.lookup 75 with
  | some ⟨_, _, .cls cd, sl⟩ => !cd.abstract && !cd.hasDel && (sl.toList[4]?).join == some (.builtin "set.__new__") && !cd.mro.isEmpty && cd.mro.contains (.ref 75) && cd.mro.contains (.type "set") &&
      specialIn K (.ref 75) "__call__" == some (some (.builtin "type.__call__")) && instIn K (.ref 75) (.type "type") == some true
  | _ => false
theorem cs_in (w : World) : csIn (hd.heap_39 w.params) = true := by kernel_rfl!
theorem csFacts {w : World} {h : Heap} (X : (hd.heap_39 w.params).In h) : CsFacts w h := by
  have e := cs_in w
  unfold csIn at e
  split at e
  · rename_i oc od cd sl ho
    simp only [Bool.and_eq_true, Bool.not_eq_true', beq_iff_eq] at e
    obtain ⟨⟨⟨⟨⟨⟨⟨e1, e2⟩, e3⟩, e4⟩, e5⟩, e6⟩, e7⟩, e8⟩ := e
    have hc : clsIn (hd.heap_39 w.params) 75 = some cd := by unfold clsIn; rw [ho]
    have hm : Looks (model PG w) h (mroOf (.ref 75)) cd.mro := (looks_clsIn X hc).andThen .now
    obtain ⟨c, l, hl⟩ : ∃ c l, cd.mro = c :: l := by cases q : cd.mro with | nil => rw [q] at e4; cases e4 | cons c l => exact ⟨c, l, rfl⟩
    have made : Looks (model PG w) h (Bind.madeBy (.ref 75)) (some "set.__new__") := by
      intro A Q E s k q
      unfold Bind.madeBy
      refine wpAny_bind (hm A _ E s k ?_)
      rw [hl, List.forIn_cons]
      refine wpAny_bind (wpAny_bind (wpAny_bind (wpAny_bind (wpAny_loadPart (k _ _ (X _ _ ho)) (wpAny_pure ?_)))))
      dsimp only
      rw [← Array.getElem?_toList, e3]
      exact wpAny_pure (wpAny_pure (wpAny_pure q))
    refine ⟨⟨oc, od, cd, sl, X _ _ ho, e1, e2, e4⟩, made, ?_, looks_mroIn X ?_, looks_mroIn X ?_, looks_specialIn X e7, looks_instIn X e8⟩
    · intro A Q E s k q
      unfold Bind.staticBase
      refine wpAny_bind (hm A _ E s k ?_)
      rw [hl, List.forIn_cons]
      exact wpAny_bind (wpAny_bind (wpAny_bind (made A _ E s k (wpAny_pure (wpAny_pure (wpAny_pure q))))))
    · unfold mroIn; rw [hc, Option.bind_some, if_neg (by rw [e4]; decide), e5]
    · unfold mroIn; rw [hc, Option.bind_some, if_neg (by rw [e4]; decide), e6]
  · cases e
section
variable {w : World} {A : Around} {R : Result → Shared → Prop} {h : Heap} {g : Array GenState} {d : Drawn} {t : Nat} {os : OsState}
theorem csNew {rest : List Value} {kw : List (Str × Value)} (Y : CsFacts w h) (hq : R (.ok (.ret (.ref (h.objs.size + 1)))) ⟨(h.push emptyDict).push (setO w (.ref 75) (some h.objs.size) S4.nil 0), g, d, t, os⟩) :
    codeAny (model PG w) A (.call (.builtin "set.__new__") ⟨.ref 75 :: rest, kw⟩) R ⟨h, g, d, t, os⟩ := by
  obtain ⟨⟨oc, od, cd, sl, hC, e1, e2, e4⟩, made, base, self, top, call, typ⟩ := Y
  have hT : Looks (model PG w) h (isType (.ref 75)) true := by
    intro A Q E s k q
    exact ks_wpAny_isType_cls (h := s.heap) (g := s.gens) (d := s.drawn) (t := s.toks) (os := s.os) (k _ _ hC) rfl q
  refine codeAny_call_builtin_code (Code.quiet_builtin _ (by decide +kernel)) ?_
  simp only [checkBuiltinCall, sn_kind, sn_split, sn_sig]
  rw [sn_args]
  repeat (first | simp only [bne_self_eq_false, Bool.false_eq_true, if_false, Bool.not_true, beq_self_eq_true, if_true] | lk)
  refine codeAny_builtin F.entry_set_new ?_
  unfold Builtin.«set.__new__»
  have hcl : ∀ A', wpAny (model PG w) A' (Builtin.Frozenset.newClass "set" ⟨.ref 75 :: rest, kw⟩) (fun r s' => r.1 = .ref 75 ∧ s' = ⟨h, g, d, t, os⟩) (fun _ _ => False) ⟨h, g, d, t, os⟩ := by
    intro A'
    unfold Builtin.Frozenset.newClass
    dsimp only
    repeat (first | simp only [Bool.false_eq_true, if_false, Bool.not_true] | lk)
    first | exact ⟨rfl, rfl⟩ | exact ⟨rfl, trivial⟩ | exact ⟨trivial, trivial⟩ | trivial | exact wpAny_pure ⟨rfl, rfl⟩
  refine wpAny_bind (wpAny_mono (hcl _) (fun r s' hr => ?_) fun _ _ e => e.elim)
  obtain ⟨er, rfl⟩ := hr
  rw [er]
  unfold newSet setsByText
  refine wpAny_bind (wpAny_bind (wpAny_bind (wpAny_askSetting (wpAny_pure ?_))))
  dsimp only
  show wpAny _ _ ((alloc { cls := .type "dict", data := .dict #[] }) >>= _) _ _ _
  refine wpAny_bind (wpAny_alloc ?_)
  unfold newObj
  dsimp only
  rw [if_neg (by simp)]
  unfold newObjAsIs classHasDel
  refine wpAny_bind (wpAny_alloc ?_)
  dsimp only
  refine wpAny_bind (wpAny_bind (wpAny_load (Heap.get?_push_of_some _ (Heap.get?_push_of_some _ hC)) (wpAny_pure ?_)))
  rw [e2]
  refine wpAny_pure (wpAny_pure ?_)
  show R _ _
  rw [Heap.size_push]
  exact hq
/-- an own set made and begun -/
theorem csMake {rest : List Value} {kw : List (Str × Value)} (X : (hd.heap_39 w.params).In h)
    (hq : codeAny (model PG w) (A.under (.builtin "type.__call__" ⟨.ref 75 :: rest, kw⟩)) (.call (.ref 57) ⟨.ref (h.objs.size + 1) :: rest, kw⟩) (InitBack (h.objs.size + 1) R) ⟨(h.push emptyDict).push (setO w (.ref 75) (some h.objs.size) S4.nil 0), g, d, t, os⟩) :
    codeAny (model PG w) A (.call (.ref 75) ⟨rest, kw⟩) R ⟨h, g, d, t, os⟩ := by
  have Y := csFacts X
  have Y' := Y
  obtain ⟨⟨oc, od, cd, sl, hC, e1, e2, e4⟩, made, base, self, top, call, typ⟩ := Y
  have hi : Looks (model PG w) h (typeLookup (.ref 75) "__init__") (some (.ref 57)) := looks_findIn X (by kernel_rfl!)
  have hf : typeIn (hd.heap_39 w.params) (.ref 57) = some (.type "function") := by kernel_rfl!
  refine codeAny_of_tree ?_
  show wpAny _ _ (callAny (.ref 75) _) _ _ _
  refine nd_load hC ?_
  show wpAny _ _ (callAny.viaDunder (.ref 75) _) _ _ _
  unfold callAny.viaDunder
  refine wpAny_bind (call.at ?_)
  dsimp only
  rw [tc_bind]
  refine wpAny_bind (wpAny_pure (wpAny_bind (wpAny_pure ?_)))
  refine wpAny_pure (a := Fin.again (.call (.builtin "type.__call__") ⟨.ref 75 :: rest, kw⟩)) (And.intro rfl ?_)
  refine codeAny_call_builtin_at (Code.quiet_builtin _ (by decide +kernel)) entry_typeCall (check_slot tc_kind tc_split typ (tc_args _ _ _) ?_)
  unfold Builtin.«type.__call__»
  have hm : Looks (model PG w) h (mroOf (.ref 75)) cd.mro := ((Looks.ld (part := none) hC).andThen .now).andThen .now
  repeat (first | simp only [e4, Bool.false_eq_true, if_false] | with_reducible refine wpAny_call ?_ | lk)
  refine csNew Y' ?_
  have k : ∀ b o, h.get? b = some o → ((h.push emptyDict).push (setO w (.ref 75) (some h.objs.size) S4.nil 0)).get? b = some o := fun b o e => Heap.get?_push_of_some _ (Heap.get?_push_of_some _ e)
  have hx : ((h.push emptyDict).push (setO w (.ref 75) (some h.objs.size) S4.nil 0)).get? (h.objs.size + 1) = some (setO w (.ref 75) (some h.objs.size) S4.nil 0) := by
    rw [← Heap.size_push h emptyDict]; exact Heap.get?_push_size _ rfl
  have t1 : Looks (model PG w) ((h.push emptyDict).push (setO w (.ref 75) (some h.objs.size) S4.nil 0)) (typeOf (.ref (h.objs.size + 1))) (.ref 75) := (Looks.ld hx).andThen .now
  have s1 := self.keeps k
  have i1 := hi.keeps k
  have b1 := (bind_fn X (.ref (h.objs.size + 1)) hf (M := model PG w)).keeps k
  unfold isInstance callSpecial? specialOf
  repeat (first | with_reducible refine wpAny_call ?_ | lk)
  refine codeAny_mono hq fun r s' z => ?_
  rcases r with e | (v | _ | _ | _) <;> first | exact z | exact z.elim | skip
  obtain ⟨rfl, z⟩ := z
  exact wpAny_pure (wpAny_pure z)
end
end
section
open PySem.W.X (Led)
open PyProof.Rows PySem.Calls PySem.Spec
theorem bindL_eq (k : Str → Option NameKind) : ∀ (binds : List (Str × Value)) (m : Str → Option Value) (y : Str), bindL k binds m y = (((binds.filter fun b => decide (k b.1 = some .local)).reverse.lookup y).orElse fun _ => m y)
  | [], m, y => rfl
  | (n, v) :: r, m, y => by
    show bindL k r _ y = _
    rw [bindL_eq k r]
    by_cases h : k n = some .local
    · rw [if_pos h, List.filter_cons, if_pos (show decide (k (n, v).fst = some .local) = true from decide_eq_true h), List.reverse_cons, List.lookup_append]
      cases q : (List.filter (fun b => decide (k b.1 = some NameKind.local)) r).reverse.lookup y with
      | some z => simp
      | none =>
        by_cases e : y = n
        · subst e; simp [List.lookup]
        · have : (y == n) = false := by simpa using e
          simp [List.lookup, this, e]
    · rw [if_neg h, List.filter_cons, if_neg (show ¬ (decide (k (n, v).fst = some .local) = true) from fun q => h (of_decide_eq_true q))]
theorem bindL_vec {scope : Scope} {qual : Str} {L f : Addr} {cdv : Value} (binds lb : List (Str × Value)) (rest : List Str) (hf : binds.filter (fun b => scope.names.lookup b.1 == some .local) = lb) (hn : (lb.map (·.1)).Nodup) :
    bindL (envOfC qual scope L f cdv).kindOf binds (fun _ => none) = vec (lb.map (·.1) ++ rest) (lb.map (fun b => some b.2) ++ rest.map fun _ => none) := by
  rw [← vec_start lb rest hn]
  funext y
  rw [bindL_eq]
  have e : (binds.filter fun b => decide ((envOfC qual scope L f cdv).kindOf b.1 = some .local)) = lb := by
    rw [← hf]; congr 1
    funext b
    show decide (scope.names.lookup b.1 = some .local) = _
    rw [Bool.eq_iff_iff, decide_eq_true_eq, beq_iff_eq]
  rw [e]
  cases lb.reverse.lookup y <;> rfl
/-- what a call starts from: the frame, its cells -/
structure Ent (w : World) (A' : Around) (env' : Env) (g : Heap) (n : Nat) (qual : Str) (scope : Scope) (f : Addr) (cdv : Value) (L' : Addr) : Prop where
  cx : Cx w A' env' g n
  env : env' = envOfC qual scope L' f cdv
section
variable {w : World} {A : Around} {env : Env} {h₀ h : Heap} {g₀ : Array GenState} {d : Drawn} {t : Nat} {os : OsState} {m : Str → Option Value} {news : List (Addr × Obj)} {n : Nat}
theorem enterE {R : Result → Shared → Prop} {name qual : Str} {params : Arguments} {body : List Stmt} {scope : Scope} {dV kV doc pm cdv ct oc : Value} {an od : Option Addr} {osl : Array (Option Value)} {f : Addr} {args : Args} (binds lb : List (Str × Value)) (rest gs : List Str)
    (C : Cx w A env h₀ (n + 1)) (D : Led h₀ env.locals m h news)
    (ho : (hd.heap_39 w.params).lookup f = some ⟨oc, od, .func (fnOf name qual params body scope dV kV doc pm an cdv ct), osl⟩) (hcd : codeIn (hd.heap_39 w.params) cdv qual = true)
    (hbind : (hd.heap_39 w.params).In h → BindsTo ⟨h, g₀, d, t, os⟩ (fnOf name qual params body scope dV kV doc pm an cdv ct) args binds)
    (hkind : (binds.all fun y => scope.names.lookup y.1 == some .local || scope.names.lookup y.1 == some .cell) = true)
    (hnd : decide ((cellsFrom 0 scope.names []).map (·.1)).Nodup = true) (hlb : binds.filter (fun b => scope.names.lookup b.1 == some .local) = lb)
    (hfl : fnl (lb.map (·.1) ++ rest) gs scope = true) (hco : scope.isCoroutine = false) (hgen : scope.isGenerator = false)
    (hb : ∀ A' L' env' g h₁ t' Q' cells, Ent w A' env' g n qual scope f cdv L' → (∀ p ∈ news, p.1 < L') → CellsAre (bindC (envOfC qual scope L' f cdv).kindOf binds fun _ => none) (cellsFrom (L' + 1) scope.names []) cells →
      FnL (lb.map (·.1) ++ rest) gs env'.scope → Fr g env'.locals h₁ (vec (lb.map (·.1) ++ rest) (lb.map (fun b => some b.2) ++ rest.map fun _ => none)) → News g env'.locals h₁ (cells ++ news) →
      (∀ fl h' t' g' m' news', Led g env'.locals m' h' news' → (Led h₀ env.locals m h' news' → R (.ok (.ret (retOf fl))) ⟨h', g', d, t', os⟩) → Q' fl ⟨h', g', d, t', os⟩) →
      wpAny (model PG w) A' (execs body env') Q' (fun _ _ => False) ⟨h₁, g₀, d, t', os⟩) :
    codeAny (model PG w) A (.call (.ref f) args) R ⟨h, g₀, d, t, os⟩ := by
  obtain ⟨p, loose, mean, mg, mb, T⟩ := C.top
  have fl := FnL.of hfl
  have X := C.X.keeps D.fr.keep
  obtain ⟨FG, st, lv⟩ := groundY (R := R) D.fr D.nw
  have hLs : ∀ p ∈ news, p.1 < h.objs.size := fun p hp => Heap.lt_size (D.nw p hp).1
  refine codeAny_call_function (s := ⟨h, g₀, d, t, os⟩) (Nat.lt_of_le_of_lt (Nat.le_add_right _ _) C.room) (X _ _ ho) rfl hco hgen rfl (codeRec_of X hcd) (hbind X _ _ _ _ ?_)
  refine wpAny_newFunctionEnv_cells fl.kind (kindsX hkind _) fun env' he s' x => ?_
  subst he
  refine ⟨(T.nolimit.keeps D.fr.keep).keeps x.toInCall.keep, codeAny_func ?_⟩
  obtain ⟨h₁, tk, rfl, _⟩ := x.done
  have hk₁ := x.toInCall.keep
  obtain ⟨cells, NC, Y⟩ := Cl.news (h₀ := h) (Nat.le_refl _) fun n c hm => ⟨x.cell n c (lookup_of_mem_nodup (cellsFrom_names scope.names 0 (h.objs.size + 1) [] [] rfl ▸ of_decide_eq_true hnd) hm), x.above n c hm⟩
  have hns := x.toInCall.ns
  refine wpAny_mono (hb (A.deeper (envOfC qual scope h.objs.size f cdv)) h.objs.size (envOfC qual scope h.objs.size f cdv) (hideAll h (news.map (·.1))) h₁ tk (fun fl s' => R (.ok (.ret (match fl with | .ret v => v | _ => .none))) s') cells
    ⟨⟨?_, rfl, rfl, fl.kind, C.X.keeps st, ⟨p, loose, mean, mg, mb, T.keeps st⟩, C.hand, ?_, ?_⟩, rfl⟩ hLs Y fl ⟨?_, fun b o e => hk₁ b o (of_hideAll _ e), Nat.le_of_eq (hideAll_size _ _)⟩ (fun p hp => ?_) ?_) (fun fl s' q => q) (fun _ _ q => q.elim)
  · exact C.pushed D _ rfl
  · have := C.room; show A.depth + 1 + n < _; omega
  · have := C.units; show A.units + 3 + 40 * n < _; omega
  · rw [← bindL_vec (f := f) (cdv := cdv) (qual := qual) (L := h.objs.size) binds lb rest hlb (List.nodup_append.mp fl.nd).1]; exact hns
  · rcases List.mem_append.mp hp with hp | hp
    · refine ⟨(NC p hp).1, (NC p hp).2.1, ?_⟩
      cases q : (hideAll h (news.map (·.1))).get? p.1 with
      | none => rfl
      | some o => have := of_hideAll _ q; rw [(NC p hp).2.2] at this; cases this
    · exact ⟨hk₁ _ _ (D.nw p hp).1, Nat.ne_of_lt (hLs p hp), hideAll_none _ (List.mem_map_of_mem hp)⟩
  · intro fl h' t' g' m' news' D' k
    have k2 := lv (retOf fl) ⟨h', g', d, t', os⟩ (leaveK_ (h₀ := h₀) (g := hideAll h (news.map (·.1))) (L := env.locals) (m := m) (R := R) (v := retOf fl) (s' := ⟨h', g', d, t', os⟩) D'.fr D'.nw fun F N => k ⟨F, N, D'.ord⟩)
    cases fl <;> exact k2
end
/-- the code tables that the text's generator expressions grow -/
structure Tabs where
  a : Obj
  b : Obj
  c : Obj
def Tabs.l (T : Tabs) : List (Addr × Obj) := [(88, T.c), (80, T.b), (52, T.a)]
def TabO (o : Obj) : Prop := ∃ ps, o = tabObj ps ∧ TriplesOk ps.toList
def Tabs.ok (T : Tabs) : Prop := TabO T.a ∧ TabO T.b ∧ TabO T.c
/-- all generators are bare, and the first gk are as they were -/
structure GB (gk : Nat) (g0 g : Array GenState) : Prop where
  bare : AllBare g
  le : gk ≤ g.size
  keep : ∀ i, i < gk → g[i]? = g0[i]?
theorem GB.push {gk : Nat} {g0 g : Array GenState} {x : GenState} (G : GB gk g0 g) (h : x.bare = true) : GB gk g0 (g.push x) :=
  ⟨G.bare.push h, by rw [Array.size_push]; exact Nat.le_succ_of_le G.le, fun i hi => by rw [Array.getElem?_push_lt (Nat.lt_of_lt_of_le hi G.le), ← G.keep i hi, Array.getElem?_eq_getElem (Nat.lt_of_lt_of_le hi G.le)]⟩
theorem GB.moved {gk gi : Nat} {g0 a b : Array GenState} (G : GB gk g0 a) (hg : gk ≤ gi) (hm : GenOnlyQ gi a b) : GB gk g0 b := by
  refine ⟨G.bare.moved hm, ?_, fun i hi => ?_⟩
  · rcases hm with rfl | ⟨⟨hs, _⟩, _⟩
    · exact G.le
    · have := G.le; omega
  · rcases hm with rfl | ⟨⟨_, ho⟩, _⟩
    · exact G.keep i hi
    · rw [ho i (Nat.ne_of_lt (Nat.lt_of_lt_of_le hi hg))]; exact G.keep i hi
/-- a contract that makes generators -/
def TSpecG (gk : Nat) (g0 : Array GenState) (w : World) (c : Sem Value) (n : Nat) (Pre : List (Addr × Obj) → Prop) (Out : List (Addr × Obj) → Value → List (Addr × Obj) → Prop) : Prop :=
  ∀ (A : Around) (env : Env) (h₀ : Heap) (m : Str → Option Value) (dyn : List (Addr × Obj)) (T : Tabs) (h : Heap) (g : Array GenState) (d : Drawn) (t : Nat) (os : OsState) (Q E : Value → Shared → Prop), Cx w A env h₀ n → GB gk g0 g → T.ok → Led h₀ env.locals m h (dyn ++ T.l) → Pre dyn →
    (∀ r tl (T' : Tabs) g' h' t', GB gk g0 g' → T'.ok → Led h₀ env.locals m h' (tl ++ (dyn ++ T'.l)) → Out dyn r tl → Q r ⟨h', g', d, t', os⟩) → wpAny (model PG w) A c Q E ⟨h, g, d, t, os⟩
end
section
open PySem.W.X (Led)
open PyProof.Rows PySem.Calls PySem.Spec
def Tabs.set (T : Tabs) (P : Addr) (o : Obj) : Tabs := if P = 88 then { T with c := o } else if P = 80 then { T with b := o } else { T with a := o }
def Tabs.at (T : Tabs) (P : Addr) : Obj := if P = 88 then T.c else if P = 80 then T.b else T.a
def isTab (c P : Addr) : Prop := (c = 92 ∧ P = 88) ∨ (c = 84 ∧ P = 80) ∨ (c = 56 ∧ P = 52)
theorem isTab.p {c P : Addr} (h : isTab c P) : P = 88 ∨ P = 80 ∨ P = 52 := by rcases h with ⟨_, h⟩ | ⟨_, h⟩ | ⟨_, h⟩ <;> simp [h]
theorem Tabs.mem {T : Tabs} {P : Addr} (h : P = 88 ∨ P = 80 ∨ P = 52) : (P, T.at P) ∈ T.l := by
  rcases h with rfl | rfl | rfl
  · exact .head _
  · exact .tail _ (.head _)
  · exact .tail _ (.tail _ (.head _))
theorem Tabs.ok_at {T : Tabs} {P : Addr} (h : P = 88 ∨ P = 80 ∨ P = 52) (k : T.ok) : TabO (T.at P) := by
  rcases h with rfl | rfl | rfl
  · exact k.2.2
  · exact k.2.1
  · exact k.1
theorem Tabs.ok_set {T : Tabs} {P : Addr} {o : Obj} (k : T.ok) (ho : TabO o) : (T.set P o).ok := by
  unfold Tabs.set
  split
  · exact ⟨k.1, k.2.1, ho⟩
  · split
    · exact ⟨k.1, ho, k.2.2⟩
    · exact ⟨ho, k.2⟩
theorem Tabs.set_addr (T : Tabs) (P : Addr) (o : Obj) : (T.set P o).l.map (·.1) = T.l.map (·.1) := by
  unfold Tabs.set
  split
  · rfl
  · split <;> rfl
theorem Tabs.set_mem {T : Tabs} {P : Addr} {o : Obj} (h : P = 88 ∨ P = 80 ∨ P = 52) {p : Addr × Obj} (hp : p ∈ (T.set P o).l) : p = (P, o) ∨ (p.1 ≠ P ∧ p ∈ T.l) := by
  rcases h with rfl | rfl | rfl
  · simp [Tabs.set, Tabs.l] at hp ⊢; rcases hp with rfl | rfl | rfl <;> simp
  · simp [Tabs.set, Tabs.l] at hp ⊢; rcases hp with rfl | rfl | rfl <;> simp
  · simp [Tabs.set, Tabs.l] at hp ⊢; rcases hp with rfl | rfl | rfl <;> simp
theorem ledTab {h₀ h h' : Heap} {L : Addr} {m : Str → Option Value} {dyn : List (Addr × Obj)} {T : Tabs} {P : Addr} {o' : Obj} (hP : P = 88 ∨ P = 80 ∨ P = 52) (D : Led h₀ L m h (dyn ++ T.l)) (hx : ∀ b o, b ≠ P → h.get? b = some o → h'.get? b = some o) (ho : h'.get? P = some o') :
    Led h₀ L m h' (dyn ++ (T.set P o').l) := by
  have hm : (P, T.at P) ∈ dyn ++ T.l := List.mem_append_right _ (Tabs.mem hP)
  obtain ⟨hP1, hP2, hP3⟩ := D.nw _ hm
  have hdyn : ∀ p ∈ dyn, p.1 ≠ P := fun p hp e => by
    have := D.ord
    rw [List.map_append, List.pairwise_append] at this
    have := this.2.2 p.1 (List.mem_map_of_mem hp) P (List.mem_map_of_mem (Tabs.mem (T := T) hP))
    rw [e] at this; exact Nat.lt_irrefl _ this
  refine ⟨⟨?_, fun b o e => hx b o (fun q => by rw [q, hP3] at e; cases e) (D.fr.keep b o e), D.fr.above⟩, fun p hp => ?_, ?_⟩
  · obtain ⟨oL, es, ep, hL, r⟩ := D.fr.ns
    exact ⟨oL, es, ep, hx _ _ (fun q => hP2 q.symm) hL, r⟩
  · rcases List.mem_append.mp hp with hp | hp
    · have := D.nw p (List.mem_append_left _ hp)
      exact ⟨hx _ _ (hdyn p hp) this.1, this.2⟩
    · rcases Tabs.set_mem hP hp with rfl | ⟨hne, hp⟩
      · exact ⟨ho, hP2, hP3⟩
      · have := D.nw p (List.mem_append_right _ hp)
        exact ⟨hx _ _ hne this.1, this.2⟩
  · have := D.ord
    rw [List.map_append] at this ⊢
    rwa [Tabs.set_addr]
theorem codeHd_in {w : World} {h : Heap} {c P : Addr} (X : (hd.heap_39 w.params).In h) (hT : isTab c P) : CodeHd h c P := by
  rcases hT with ⟨rfl, rfl⟩ | ⟨rfl, rfl⟩ | ⟨rfl, rfl⟩ <;> exact codeHd_of_K X (by kernel_rfl!)
theorem CodeHd.isCode {h : Heap} {c P : Addr} {o : Obj} (x : CodeHd h c P) (ho : h.get? P = some o) (hT : TabO o) : ∃ ps, h.IsCode c P ps ∧ h.TableAt c P ps := by
  obtain ⟨ps, rfl, ht⟩ := hT
  have y := CodeHd.tab x ho
  obtain ⟨o1, vs, file, tf, flags, tg, inF, text, tt, e1, _, e3, _, f3, f4, f5, f6, f7, f11⟩ := x
  exact ⟨ps, ⟨o1, vs, file, tf, flags, tg, inF, text, tt, _, e1, e3, f3, f4, f5, f6, f7, ho, rfl, ht, f11⟩, y⟩
/-- a generator expression's code, out of its table or new -/
theorem genexprT {M : Model} {A : Around} {E : Value → Shared → Prop} {s : Shared} {env : Env} {c P : Addr} {ps : Array Value} {pos : Pos} {qualname : Str} {scope : Scope} {Q : Value → Shared → Prop} (hc : env.code = .ref c) (hok : s.heap.IsCode c P ps) (htab : s.heap.TableAt c P ps)
    (hQ : ∀ code h' tk o', Heap.ExtBut P s.heap h' → h'.get? P = some o' → TabO o' → Q code { s with heap := h', toks := tk }) :
    wpAny M A (genexprCode env pos qualname scope) Q E s := by
  have tri : ∀ {h : Heap} {ps : Array Value}, h.IsCode c P ps → h.TableAt c P ps → TabO (tabObj ps) := fun {h ps} x y => by
    obtain ⟨_, _, _, _, _, _, _, _, _, op, _, _, _, _, _, _, _, hop, hpd, htr, _⟩ := x
    exact ⟨ps, rfl, htr⟩
  cases hnf : codeAmong pos ps.toList with
  | some cv => exact wpAny_genexprCode_hit hc hok hnf (hQ cv s.heap s.toks _ (Heap.ExtBut.refl _ _) htab.2 (tri hok htab))
  | none => exact wpAny_genexprCodeX hc hok htab hnf fun c' h' tk hx _ _ i1 _ t1 _ => hQ _ h' tk _ hx t1.2 (tri i1 t1)
end
section
open PySem.W.X (Led)
open PyProof.Rows PySem.Calls PySem.Spec
/-- a generator at hand that yields n values -/
def GenG (gk : Nat) (w : World) (A : Around) (K r : Addr) (n : Nat) (F : Nat → Value → Prop) (s : Shared) : Prop :=
  ∃ fp wr gi St, gk ≤ gi ∧ WalksS PG w A.in4 r fp wr (GenOnlyQ gi) n F St ∧ St 0 s ∧ (∀ i s', St i s' → s'.TypeIs (.ref r) "generator") ∧ r ∈ fp ∧ (∀ b ∈ fp, b < s.heap.objs.size) ∧ ∀ b ∈ wr, K < b
theorem GenG.imp {gk : Nat} {w : World} {A : Around} {K a : Addr} {n : Nat} {F F' : Nat → Value → Prop} {s : Shared} (X : GenG gk w A K a n F s) (h : ∀ j y, F j y → F' j y) : GenG gk w A K a n F' s :=
  let ⟨fp, wr, g, St, hk, W, r⟩ := X; ⟨fp, wr, g, St, hk, W.imp h, r⟩
theorem led_keeps {h₀ h h' : Heap} {L : Addr} {m : Str → Option Value} {news : List (Addr × Obj)} (D : Led h₀ L m h news) (k : ∀ b o, h.get? b = some o → h'.get? b = some o) : Led h₀ L m h' news :=
  ⟨D.fr.keeps k, fun p hp => ⟨k _ _ (D.nw p hp).1, (D.nw p hp).2⟩, D.ord⟩
theorem passing_all (n : Nat) : passing (fun _ => true) n 0 = List.range n := by simp [passing]
theorem Src.notTab {w : World} {h : Heap} {a P : Addr} {vs : List Value} {o : Obj} (Z : Src w h a vs) (ho : h.get? P = some o) (hT : TabO o) : a ≠ P := by
  rintro rfl
  obtain ⟨ps, rfl, _⟩ := hT
  cases Z with
  | list x => obtain ⟨o', e, _, n, hd'⟩ := x; rw [ho] at e; cases e; cases hd'
  | tup x => obtain ⟨o', e, _, n, hd'⟩ := x; rw [ho] at e; cases e; cases hd'
  | set x y z => rw [ho] at x; cases x
section
variable {w : World} {A : Around} {env : Env} {h₀ h : Heap} {g : Array GenState} {d : Drawn} {t : Nat} {os : OsState} {dyn : List (Addr × Obj)} {n : Nat} {E : Value → Shared → Prop} {ns gs : List Str} {vs0 : List (Option Value)} {T : Tabs} {elt : Expr} {y x : Str} {yp px pos : Pos} {scope : Scope} {cl : List (Str × Addr)} {c P a : Addr} {vs : List Value} {F : Value → Value → Prop} {Q : Value → Shared → Prop}
theorem rGen (C : Cx w A env h₀ n) (fl : FnL ns gs env.scope) (D : Led h₀ env.locals (vec ns vs0) h (dyn ++ T.l)) (G : GB gk g0 g) (hT : T.ok) (hc : env.code = .ref c) (hcp : isTab c P)
    (hco : scope.isCoroutine = false) (hclos : closureFor scope env = pure cl) (hcell : ∀ y ∈ scope.names, y.2 ≠ .cell) (h0 : scope.names.lookup (".0" : Str) = some NameKind.local) (hx : scope.names.lookup x = some .local) (hkind : scope.kind = .function)
    (hroom : A.depth < recursionLimit) (h2 : At2 ns vs0 y (.ref a)) (Z : Src w h a vs)
    (elts : ∀ code C' A' E' v (u : Shared) m₂, A'.handled = none → A'.depth ≤ A.depth + 1 → A'.units ≤ A.units + 8 → v ∈ vs → u.heap.Ns C' m₂ → m₂ x = some v → (∀ b o, b ≠ P → h.get? b = some o → u.heap.get? b = some o) →
      wpAny (model PG w) A' (eval elt (genEnv scope cl C' code builtinsNs env)) (fun r s₃ => F v r ∧ Keeps u s₃) E' u)
    (hq : ∀ r (T' : Tabs) g' h' t' K, GB gk g0 g' → T'.ok → Led h₀ env.locals (vec ns vs0) h' (dyn ++ T'.l) → (∀ p ∈ dyn ++ T'.l, p.1 ≤ K) → env.locals ≤ K → GenG gk w A K r vs.length (fun j y => ∃ v, vs[j]? = some v ∧ F v y) ⟨h', g', d, t', os⟩ → Q (.ref r) ⟨h', g', d, t', os⟩) :
    wpAny (model PG w) A (eval (.GeneratorExp elt [⟨.Name x px, .Name y yp, [], 0⟩] scope pos) env) Q E ⟨h, g, d, t, os⟩ := by
  obtain ⟨p, loose, mean, mg, mb, Tp⟩ := C.top
  obtain ⟨bm, ob, b1, b2, b3, b4, b5, b6⟩ := Tp.bmain
  have hPin : (P, T.at P) ∈ dyn ++ T.l := List.mem_append_right _ (Tabs.mem hcp.p)
  have hPg := D.nw _ hPin
  have haP := Z.notTab hPg.1 (Tabs.ok_at hcp.p hT)
  refine wpAny_GeneratorExp_walksQD C.hand hco hclos hcell h0 hx hkind hroom (rLoc C fl D h2 ?_) (fun x => by rfl)
  refine Z.iter fun h1 St W st hk hsz hIo => ⟨(Tp.nolimit.keeps D.fr.keep).keeps hk, ?_⟩
  have D1 := led_keeps D hk
  obtain ⟨ps, hIC, hTA⟩ := CodeHd.isCode (codeHd_in (C.X.keeps D1.fr.keep) hcp) (D1.nw _ hPin).1 (Tabs.ok_at hcp.p hT)
  refine genexprT hc hIC hTA fun code h3 tk3 op' hx3 hop' htO => ?_
  have hT' : (T.set P op').ok := Tabs.ok_set hT htO
  have D3 := ledTab hcp.p D1 hx3 hop'
  have hL : env.locals < h.objs.size := by obtain ⟨oL, es, ep, hL, r⟩ := D.fr.ns; exact Heap.lt_size hL
  have hpos : 0 < h.objs.size := Nat.lt_of_le_of_lt (Nat.zero_le _) hL
  have hsz3 : h.objs.size + 1 ≤ h3.objs.size := by
    obtain ⟨oI, hI⟩ := hIo
    have := Heap.lt_size (hx3 h.objs.size oI (fun q => by
      have := Heap.lt_size hPg.1
      exact Nat.lt_irrefl _ (q ▸ this)) hI)
    exact this
  have k03 : ∀ b o, b ≠ P → h.get? b = some o → h3.get? b = some o := fun b o hb e => hx3 b o hb (hk b o e)
  have hbmP : ∀ {b : Addr} {o : Obj}, h₀.get? b = some o → b ≠ P := fun e q => by rw [q, hPg.2.2] at e; cases e
  refine wpAny_builtinsFor (bm := bm) (m := mg) (o := ob) ?_ b1 b2 (k03 _ _ (hbmP b3) (D.fr.keep _ _ b3)) b4 b5 b6 ?_
  · rw [C.glo]; exact Tp.g.keeps D3.fr.keep
  have hlim3 : h3.NoLimit := Tp.nolimit.keeps D3.fr.keep
  have hPlt : P < h.objs.size := Heap.lt_size hPg.1
  refine ⟨h.objs.size, [h.objs.size, a], [h.objs.size], vs.length, (fun i v => vs[i]? = some v), St, (fun _ => true), (fun i r => ∃ v, vs[i]? = some v ∧ F v r), rfl, W, (W A C.hand).frame _ _ _ st (fun b hb o e => hx3 b o ?_ e), ?_, hlim3, ?_, fun href hhref => ?_, fun r h5 tk gs hgb hag hsz5 hk5 WS hat => ?_⟩
  · rcases List.mem_cons.mp hb with rfl | hb
    · exact Nat.ne_of_gt hPlt
    · rcases List.mem_cons.mp hb with rfl | hb
      · exact haP
      · cases hb
  · intro b hb
    rcases List.mem_cons.mp hb with rfl | hb
    · exact hsz3
    · rcases List.mem_cons.mp hb with rfl | hb
      · exact Nat.lt_of_lt_of_le Z.lt (Nat.le_of_succ_le hsz3)
      · cases hb
  · intro hm
    rw [List.mem_singleton] at hm
    obtain ⟨_, ⟨o, es, ep, ho, _⟩, _⟩ := Tp.nolimit
    exact Nat.lt_irrefl _ (hm ▸ Heap.lt_size (D.fr.keep _ _ ho))
  · constructor
    · intro A' E' i v s2 m2 hA hD hU hv hn hm hkp
      exact wpAny_pure ⟨rfl, s2.heap, s2.toks, rfl, fun _ _ e => e⟩
    · intro A' E' i v s2 m2 hA hD hU hv _ hn hm hkp
      refine wpAny_mono (elts code _ A' E' v s2 m2 hA hD hU (List.mem_of_getElem? hv) hn hm fun b o hb e => ?_) (fun r s3 q => ⟨⟨v, hv, q.1⟩, q.2⟩) fun _ _ e => e
      have hb3 := k03 b o hb e
      exact hkp b (List.mem_range.mpr (Heap.lt_size hb3)) (fun hm => by
        rw [List.mem_singleton] at hm; subst hm; exact Nat.lt_irrefl _ (Heap.lt_size e)) o (hhref _ _ hb3)
  · have D5 := led_keeps D3 hk5
    have G5 : GB gk g0 (g.push gs) := G.push hgb
    have hKm : ∀ p ∈ dyn ++ (T.set P op').l, p.1 ≤ h.objs.size - 1 := fun p hp => by
      have hadd : p.1 ∈ (dyn ++ T.l).map (·.1) := by
        have e := Tabs.set_addr T P op'
        have : p.1 ∈ (dyn ++ (T.set P op').l).map (·.1) := List.mem_map_of_mem hp
        rw [List.map_append, e, ← List.map_append] at this; exact this
      obtain ⟨q, hq, e⟩ := List.mem_map.mp hadd
      have := Heap.lt_size (D.nw q hq).1
      exact Nat.le_sub_one_of_lt (e ▸ this)
    refine hq r (T.set P op') (g.push gs) h5 tk (h.objs.size - 1) G5 hT' D5 hKm (Nat.le_sub_one_of_lt hL) ?_
    have hlen : (passing (fun _ => true) vs.length 0).length = vs.length := by rw [passing_all]; exact List.length_range
    rw [hlen] at WS
    refine GenG.imp (F := fun j y => ∃ i, (passing (fun _ => true) vs.length 0)[j]? = some i ∧ ∃ v, vs[i]? = some v ∧ F v y) ⟨_, _, _, _, G.le, WS, hat, (fun i s' st => st.1.typeIs), List.mem_cons_self, ?_, ?_⟩ fun j y hy => ?_
    · intro b hb
      show b < h5.objs.size
      rw [hsz5]
      rcases List.mem_cons.mp hb with rfl | hb
      · exact Nat.lt_succ_self _
      · rcases List.mem_cons.mp hb with rfl | hb
        · exact Nat.lt_succ_of_lt hag
        · exact Nat.lt_succ_of_lt (Nat.lt_trans (List.mem_range.mp hb) hag)
    · intro b hb
      rcases List.mem_cons.mp hb with rfl | hb
      · exact Nat.lt_of_le_of_lt (Nat.sub_le _ _) (Nat.lt_of_succ_le hsz3)
      · rw [List.mem_singleton] at hb; subst hb; exact Nat.sub_lt hpos Nat.one_pos
    · obtain ⟨i, hi, v, hv, hF⟩ := hy
      rw [passing_all] at hi
      have : i = j := by
        rw [List.getElem?_eq_some_iff] at hi
        obtain ⟨_, e⟩ := hi
        simpa using e.symm
      subst this
      exact ⟨v, hv, hF⟩
end
end
section
open PySem.W.X (Led)
open PyProof.Rows PySem.Calls PySem.Spec
theorem ledBelow {h₀ h h' : Heap} {L K : Addr} {m : Str → Option Value} {news : List (Addr × Obj)} (D : Led h₀ L m h news) (hL : L ≤ K) (hK : ∀ p ∈ news, p.1 ≤ K) (k : ∀ b o, b ≤ K → h.get? b = some o → h'.get? b = some o) : Led h₀ L m h' news := by
  refine ⟨⟨?_, fun b o e => k b o ?_ (D.fr.keep b o e), D.fr.above⟩, fun p hp => ⟨k _ _ (hK p hp) (D.nw p hp).1, (D.nw p hp).2⟩, D.ord⟩
  · obtain ⟨oL, es, ep, ho, r⟩ := D.fr.ns
    exact ⟨oL, es, ep, k _ _ hL ho, r⟩
  · exact Nat.le_trans (Nat.le_of_lt (Nat.lt_of_lt_of_le (Heap.lt_size e) D.fr.above)) hL
section
variable {w : World} {A : Around} {h₀ h : Heap} {L K r : Addr} {m : Str → Option Value} {g : Array GenState} {d : Drawn} {t k : Nat} {os : OsState} {news : List (Addr × Obj)} {E Q : Value → Shared → Prop} {F : Nat → Value → Prop}
theorem rAllG (D : Led h₀ L m h news) (G : GB gk g0 g) (hL : L ≤ K) (hK : ∀ p ∈ news, p.1 ≤ K) (X : GenG gk w A K r k F ⟨h, g, d, t, os⟩) (tr : Nat → Bool) (htr : ∀ j v, F j v → v = .bool (tr j))
    (hq : ∀ g' h' t', GB gk g0 g' → Led h₀ L m h' news → Q (.bool ((List.range k).all tr)) ⟨h', g', d, t', os⟩) : wpAny (model PG w) A (call (.builtin "all") [.ref r]) Q E ⟨h, g, d, t, os⟩ := by
  obtain ⟨fp, wr, gi, St, hge, W, hst, _, _, hfp, hwr⟩ := X
  have W := W.in4_1
  refine call_all_walkS (W.self 0 _ _ _ hst ⟨r, _, _, _, _, _, _, tr, rfl, W, hst, (fun j v s Q E hv hQ => by rw [htr j v hv]; exact wpAny_truthy_bool hQ), fun s' hm => ?_⟩)
  have G' := G.moved hge hm.gens
  obtain ⟨h', g', d', t', o'⟩ := s'
  obtain rfl : d' = d := hm.drawn
  obtain rfl : o' = os := hm.os
  exact hq g' h' t' G' (ledBelow D hL hK fun b o hb e => hm.heap b o (fun hmem => Nat.lt_irrefl _ (Nat.lt_of_lt_of_le (hwr b hmem) hb)) e)
theorem rAnyG (D : Led h₀ L m h news) (G : GB gk g0 g) (hL : L ≤ K) (hK : ∀ p ∈ news, p.1 ≤ K) (X : GenG gk w A K r k F ⟨h, g, d, t, os⟩) (tr : Nat → Bool) (htr : ∀ j v, F j v → v = .bool (tr j))
    (hq : ∀ g' h' t', GB gk g0 g' → Led h₀ L m h' news → Q (.bool ((List.range k).any tr)) ⟨h', g', d, t', os⟩) : wpAny (model PG w) A (call (.builtin "any") [.ref r]) Q E ⟨h, g, d, t, os⟩ := by
  obtain ⟨fp, wr, gi, St, hge, W, hst, _, _, hfp, hwr⟩ := X
  have W := W.in4_1
  refine call_any_walkS (W.self 0 _ _ _ hst ⟨r, _, _, _, _, _, _, tr, rfl, W, hst, (fun j v s Q E hv hQ => by rw [htr j v hv]; exact wpAny_truthy_bool hQ), fun s' hm => ?_⟩)
  have G' := G.moved hge hm.gens
  obtain ⟨h', g', d', t', o'⟩ := s'
  obtain rfl : d' = d := hm.drawn
  obtain rfl : o' = os := hm.os
  exact hq g' h' t' G' (ledBelow D hL hK fun b o hb e => hm.heap b o (fun hmem => Nat.lt_irrefl _ (Nat.lt_of_lt_of_le (hwr b hmem) hb)) e)
end
end
section
open PySem.W.X (Led)
open PyProof.Rows PySem.Calls PySem.Spec
/-- an iterator's object, place by place -/
structure ItFam (w : World) (I : Addr) (Ct : Heap → Prop) (vs : List Value) (P : Nat → Obj → Prop) : Prop where
  item : ∀ (A : Around) (i : Nat) (s : Shared) (o : Obj) (Q : Option Value → Shared → Prop) (E : Value → Shared → Prop) (hi : i < vs.length), s.heap.get? I = some o → P i o → Ct s.heap →
    (∀ h' o', h'.get? I = some o' → P (i + 1) o' → (∀ b o, b ≠ I → s.heap.get? b = some o → h'.get? b = some o) → Q (some vs[i]) { s with heap := h' }) → wpAny (model PG w) A (pyNext (.ref I)) Q E s
  done : ∀ (A : Around) (s : Shared) (o : Obj) (Q : Option Value → Shared → Prop) (E : Value → Shared → Prop), A.handled = none → s.heap.get? I = some o → P vs.length o → Ct s.heap →
    (∀ h', (∀ b o, b ≠ I → s.heap.get? b = some o → h'.get? b = some o) → Q none { s with heap := h' }) → wpAny (model PG w) A (pyNext (.ref I)) Q E s
theorem ItFam.list (w : World) (I a : Addr) (hne : a ≠ I) (vs : List Value) : ItFam w I (fun h => h.IsList a vs.toArray) vs (fun i o => o.cls = .type "list_iterator" ∧ o.data = .fields #[.ref a, .int (i : Int) 0]) where
  item := fun A i s o Q E hi hI hP hc hq => by
    refine wpAny_pyNext_list_item (l := a) (i := i) (items := vs.toArray) ⟨o, hI, hP.1, hP.2⟩ hc (x := vs[i]) (by simp [hi]) fun h' hit' hs' => ?_
    obtain ⟨o', e1, e2, e3⟩ := hit'
    exact hq h' o' e1 ⟨e2, e3⟩ fun b o hb e => hs'.extBut b o hb e
  done := fun A s o Q E hh hI hP hc hq => by
    exact wpAny_pyNext_list_end hh (l := a) (i := vs.length) (items := vs.toArray) ⟨o, hI, hP.1, hP.2⟩ hc (by simp) fun h' he' => hq h' he'
theorem ItFam.tup (w : World) (I a : Addr) (hne : a ≠ I) (vs : List Value) : ItFam w I (fun h => h.IsTuple a vs.toArray) vs (fun i o => o.cls = .type "tuple_iterator" ∧ o.data = .fields #[.ref a, .int (i : Int) 0]) where
  item := fun A i s o Q E hi hI hP hc hq => by
    refine wpAny_pyNext_tuple_item (t := a) (i := i) (items := vs.toArray) ⟨o, hI, hP.1, hP.2⟩ hc (x := vs[i]) (by simp [hi]) fun h' hit' hs' => ?_
    obtain ⟨o', e1, e2, e3⟩ := hit'
    exact hq h' o' e1 ⟨e2, e3⟩ fun b o hb e => hs'.extBut b o hb e
  done := fun A s o Q E hh hI hP hc hq => by
    exact wpAny_pyNext_tuple_end hh (t := a) (i := vs.length) (items := vs.toArray) ⟨o, hI, hP.1, hP.2⟩ hc (by simp) fun h' he' => hq h' he'
theorem ItFam.set4 (w : World) (I a : Addr) (hne : a ≠ I) (cl : Value) (dd : Option Addr) (x : S4) (ep : Nat) : ItFam w I (fun h => h.get? a = some (setO w cl dd x ep)) (ordW w a x ep) (fun i o => o = { cls := .type "set_iterator", data := .fields #[rawInt (slotAt w x i), rawInt i, .ref a, rawInt x.vs.length, rawInt ep] }) where
  item := fun A i s o Q E hi hI hP hc hq => by
    subst hP
    refine pyNext4_item (prog := (model PG w).prog) (w := w) hI hc (by rw [← ordW_len w a x ep]; exact hi) fun v h' hv hit' hk => ?_
    rw [List.getElem?_eq_getElem hi] at hv
    cases hv
    exact hq h' _ hit' rfl hk
  done := fun A s o Q E hh hI hP hc hq => by
    subst hP
    refine pyNext4_end (prog := (model PG w).prog) (w := w) hh (x := x) ?_ hc hq
    rw [ordW_len] at hI; exact hI
/-- a turn's end -/
def FEnd (w : World) (h₀ : Heap) (L : Addr) (ns : List Str) (d : Drawn) (os : OsState) (I : Addr) (P : Nat → Obj → Prop) (J : Nat → List (Option Value) → List (Addr × Obj) → List (Addr × Obj) → Array GenState → Prop) (Q : Flow → Shared → Prop) (i : Nat) (f : Flow) (s : Shared) : Prop :=
  match f with
  | .next | .cont => ∃ h' g' t' vs' pre post o, s = ⟨h', g', d, t', os⟩ ∧ Led h₀ L (vec ns vs') h' (pre ++ (I, o) :: post) ∧ P i o ∧ J i vs' pre post g'
  | .brk => Q .next s
  | .ret v => Q (.ret v) s
theorem FEnd.mk {w : World} {h₀ h : Heap} {L : Addr} {ns : List Str} {g : Array GenState} {d : Drawn} {t : Nat} {os : OsState} {I : Addr} {P : Nat → Obj → Prop} {J : Nat → List (Option Value) → List (Addr × Obj) → List (Addr × Obj) → Array GenState → Prop} {Q : Flow → Shared → Prop} {i : Nat} {vs : List (Option Value)} {o : Obj} (pre post : List (Addr × Obj))
    (D : Led h₀ L (vec ns vs) h (pre ++ (I, o) :: post)) (hP : P i o) (hJ : J i vs pre post g) : FEnd w h₀ L ns d os I P J Q i .next ⟨h, g, d, t, os⟩ := ⟨h, g, t, vs, pre, post, o, rfl, D, hP, hJ⟩
section
variable {w : World} {A : Around} {env : Env} {h₀ h : Heap} {g : Array GenState} {d : Drawn} {t : Nat} {os : OsState} {ns : List Str} {vs0 : List (Option Value)} {n : Nat} {Q : Flow → Shared → Prop} {target : Expr} {body : List Stmt} {I : Addr} {Ct : Heap → Prop} {vs : List Value} {P : Nat → Obj → Prop} {pre post : List (Addr × Obj)} {o : Obj}
theorem forLoop4 (hh : A.handled = none) (Fm : ItFam w I Ct vs P) (J : Nat → List (Option Value) → List (Addr × Obj) → List (Addr × Obj) → Array GenState → Prop)
    (D : Led h₀ env.locals (vec ns vs0) h (pre ++ (I, o) :: post)) (hP : P 0 o) (hJ : J 0 vs0 pre post g) (hct : ∀ i v pre post o g h, J i v pre post g → Led h₀ env.locals (vec ns v) h (pre ++ (I, o) :: post) → Ct h)
    (turn : ∀ i (hi : i < vs.length) vs1 pre post o g h t, J i vs1 pre post g → Led h₀ env.locals (vec ns vs1) h (pre ++ (I, o) :: post) → P (i + 1) o →
      wpAny (model PG w) A (assign target env vs[i]) (fun _ s₂ => wpAny (model PG w) A (execs body env) (FEnd w h₀ env.locals ns d os I P J Q (i + 1)) (fun _ _ => False) s₂) (fun _ _ => False) ⟨h, g, d, t, os⟩)
    (fin : ∀ vs1 pre post g h t, J vs.length vs1 pre post g → Led h₀ env.locals (vec ns vs1) h (pre ++ post) → Q .next ⟨h, g, d, t, os⟩)
    (ht : ∀ v, letOwnedTupleGo target (.ref I) v = pure ()) :
    codeAny (model PG w) A (.forLoop target (.ref I) body [] env) (fun r s' => match r with | .ok f => Q f s' | .error _ => False) ⟨h, g, d, t, os⟩ := by
  refine codeAny_forLoop (R := fun r s' => match r with | .ok f => Q f s' | .error _ => False) (fun k s' => ∃ i vs1 pre post o g' h' t', s' = ⟨h', g', d, t', os⟩ ∧ i ≤ vs.length ∧ k = vs.length - i ∧ Led h₀ env.locals (vec ns vs1) h' (pre ++ (I, o) :: post) ∧ P i o ∧ J i vs1 pre post g') ?_ vs.length ⟨0, vs0, pre, post, o, g, h, t, rfl, Nat.zero_le _, rfl, D, hP, hJ⟩ ht
  rintro k s' ⟨i, vs1, pre, post, o, g', h', t', rfl, hi, rfl, D', hP', hJ'⟩
  have hI : h'.get? I = some o := (D'.nw _ (List.mem_append_right _ (.head _))).1
  have hc := hct i vs1 pre post o g' h' hJ' D'
  by_cases hlt : i < vs.length
  · refine Fm.item A i ⟨h', g', d, t', os⟩ o _ _ hlt hI hP' hc fun h2 o2 e1 e2 e3 => ?_
    refine wpAny_mono (turn i hlt vs1 pre post o2 g' h2 t' hJ' (ledAt D' e3 e1) e2) (fun _ s2 h3 => wpAny_mono h3 (fun f s3 h4 => ?_) fun _ _ e => e.elim) fun _ _ e => e.elim
    cases f with
    | next =>
      obtain ⟨h5, g5, t5, vs5, pre5, post5, o5, rfl, q1, q2, q3⟩ := h4
      exact ⟨vs.length - (i + 1), by omega, i + 1, vs5, pre5, post5, o5, g5, h5, t5, rfl, hlt, rfl, q1, q2, q3⟩
    | cont =>
      obtain ⟨h5, g5, t5, vs5, pre5, post5, o5, rfl, q1, q2, q3⟩ := h4
      exact ⟨vs.length - (i + 1), by omega, i + 1, vs5, pre5, post5, o5, g5, h5, t5, rfl, hlt, rfl, q1, q2, q3⟩
    | brk => exact h4
    | ret v => exact h4
  · obtain rfl : i = vs.length := by omega
    refine Fm.done A ⟨h', g', d, t', os⟩ o _ _ hh hI hP' hc fun h2 e => ?_
    exact wpAny_execs_nil (fin vs1 pre post g' h2 t' hJ' (ledDel D' e))
end
end
section
open PySem.W.X (Led)
open PyProof.Rows PySem.Calls PySem.Spec
/-- what a for runs over, as an object -/
inductive SrcO (w : World) (a : Addr) (o : Obj) (vs : List Value) : Prop
  | list {n} : o.cls = .type "list" → o.data = .seq vs.toArray n → SrcO w a o vs
  | tup {n} : o.cls = .type "tuple" → o.data = .seq vs.toArray n → SrcO w a o vs
  | set {x ep} : o = setO w (.type "set") none x ep → vs = ordW w a x ep → SrcO w a o vs
  | cs {dd x ep} : o = setO w (.ref 75) dd x ep → vs = ordW w a x ep → SrcO w a o vs
theorem SrcO.src {w : World} {h : Heap} {a : Addr} {o : Obj} {vs : List Value} (S : SrcO w a o vs) (X : (hd.heap_39 w.params).In h) (ho : h.get? a = some o) : Src w h a vs := by
  cases S with
  | list e1 e2 => exact .list ⟨o, ho, e1, _, e2⟩
  | tup e1 e2 => exact .tup ⟨o, ho, e1, _, e2⟩
  | set e1 e2 => subst e1; exact .set ho (SetLike.set ho) e2
  | cs e1 e2 => subst e1; exact .set ho (SetLike.cs X ho) e2
section
variable {w : World} {A : Around} {env : Env} {h₀ h : Heap} {g : Array GenState} {d : Drawn} {t : Nat} {os : OsState} {m : Str → Option Value} {news : List (Addr × Obj)} {n : Nat} {E : Value → Shared → Prop} {a : Addr} {oa : Obj} {vs : List Value}
theorem pyIterS {Q : Value → Shared → Prop} (C : Cx w A env h₀ n) (D : Led h₀ env.locals m h news) (hm : (a, oa) ∈ news) (S : SrcO w a oa vs)
    (hq : ∀ I oI h' (P : Nat → Obj → Prop), ItFam w I (fun h => h.get? a = some oa) vs P → P 0 oI → Led h₀ env.locals m h' ((I, oI) :: news) → Q (.ref I) ⟨h', g, d, t, os⟩) : wpAny (model PG w) A (pyIter (.ref a)) Q E ⟨h, g, d, t, os⟩ := by
  have ho := (D.nw _ hm).1
  have hne : a ≠ h.objs.size := Nat.ne_of_lt (Heap.lt_size ho)
  have pushed : ∀ {h' : Heap} {o : Obj}, h'.get? h.objs.size = some o → (∀ b o, h.get? b = some o → h'.get? b = some o) → Led h₀ env.locals m h' ((h.objs.size, o) :: news) := fun ho' hk => by
    obtain ⟨F', N', lt⟩ := ks_newsPush (s := ⟨h, g, d, t, os⟩) D.fr D.nw rfl ho' hk
    exact ledCons D F' N' lt
  cases S with
  | list e1 e2 =>
    refine wpAny_pyIter_list (s := ⟨h, g, d, t, os⟩) ⟨oa, ho, e1, _, e2⟩ ?_
    refine hq _ _ _ (fun i o => o.cls = .type "list_iterator" ∧ o.data = .fields #[.ref a, .int (i : Int) 0]) ?_ ?_ (pushed (Heap.get?_push_size _ rfl) fun b o e => Heap.get?_push_of_some _ e)
    · have := ItFam.list w h.objs.size a hne vs
      exact ⟨fun A i s o Q E hi hI hP hc hq => this.item A i s o Q E hi hI hP ⟨oa, hc, e1, _, e2⟩ hq, fun A s o Q E hh hI hP hc hq => this.done A s o Q E hh hI hP ⟨oa, hc, e1, _, e2⟩ hq⟩
    · exact ⟨rfl, rfl⟩
  | tup e1 e2 =>
    refine wpAny_pyIter_tuple (s := ⟨h, g, d, t, os⟩) ⟨oa, ho, e1, _, e2⟩ ?_
    refine hq _ _ _ (fun i o => o.cls = .type "tuple_iterator" ∧ o.data = .fields #[.ref a, .int (i : Int) 0]) ?_ ?_ (pushed (Heap.get?_push_size _ rfl) fun b o e => Heap.get?_push_of_some _ e)
    · have := ItFam.tup w h.objs.size a hne vs
      exact ⟨fun A i s o Q E hi hI hP hc hq => this.item A i s o Q E hi hI hP ⟨oa, hc, e1, _, e2⟩ hq, fun A s o Q E hh hI hP hc hq => this.done A s o Q E hh hI hP ⟨oa, hc, e1, _, e2⟩ hq⟩
    · exact ⟨rfl, rfl⟩
  | set e1 e2 =>
    subst e1; subst e2
    refine pyIter4 (s := ⟨h, g, d, t, os⟩) (SetLike.set ho).iter ho fun h' h1 h2 h3 => ?_
    exact hq _ _ _ _ (ItFam.set4 w h.objs.size a hne _ _ _ _) rfl (pushed h1 h2)
  | cs e1 e2 =>
    subst e1; subst e2
    refine pyIter4 (s := ⟨h, g, d, t, os⟩) (SetLike.cs (C.X.keeps D.fr.keep) ho).iter ho fun h' h1 h2 h3 => ?_
    exact hq _ _ _ _ (ItFam.set4 w h.objs.size a hne _ _ _ _) rfl (pushed h1 h2)
end
abbrev Inv := Nat → List (Option Value) → List (Addr × Obj) → List (Addr × Obj) → Array GenState → Prop
/-- the loop's head: what it runs over, its word, a turn, the end -/
def ForAt (w : World) (A : Around) (env : Env) (h₀ : Heap) (d : Drawn) (os : OsState) (target : Expr) (body : List Stmt) (Q : Flow → Shared → Prop) (xv : Value) (s : Shared) : Prop :=
  ∃ (a : Addr) (oa : Obj) (vs : List Value) (ns : List Str) (vs0 : List (Option Value)) (news : List (Addr × Obj)) (J : Inv) (h : Heap) (g : Array GenState) (t : Nat), s = ⟨h, g, d, t, os⟩ ∧ xv = .ref a ∧ SrcO w a oa vs ∧ (a, oa) ∈ news ∧ Led h₀ env.locals (vec ns vs0) h news ∧ J 0 vs0 [] news g ∧
    (∀ i v pre post g, J i v pre post g → (a, oa) ∈ pre ++ post) ∧
    (∀ I P i (hi : i < vs.length) vs1 pre post o g h t, J i vs1 pre post g → Led h₀ env.locals (vec ns vs1) h (pre ++ (I, o) :: post) → P (i + 1) o →
      wpAny (model PG w) A (assign target env vs[i]) (fun _ s₂ => wpAny (model PG w) A (execs body env) (FEnd w h₀ env.locals ns d os I P J Q (i + 1)) (fun _ _ => False) s₂) (fun _ _ => False) ⟨h, g, d, t, os⟩) ∧
    (∀ vs1 pre post g h t, J vs.length vs1 pre post g → Led h₀ env.locals (vec ns vs1) h (pre ++ post) → Q .next ⟨h, g, d, t, os⟩)
section
variable {w : World} {A : Around} {env : Env} {h₀ : Heap} {d : Drawn} {os : OsState} {n : Nat} {s : Shared}
theorem rFor4 {Q : Flow → Shared → Prop} {iter : Expr} {x : Str} {px pos : Pos} {body : List Stmt} (C : Cx w A env h₀ n) (hs : ∀ x, foldedSetIterable iter env x = pure x)
    (h : wpAny (model PG w) A (eval iter env) (fun xv s₁ => ForAt w A env h₀ d os (.Name x px) body Q xv s₁) (fun _ _ => False) s) :
    wpAny (model PG w) A (exec (.For (.Name x px) iter body [] pos) env) Q (fun _ _ => False) s := by
  refine wpAny_For (wpAny_mono h (fun xv s₁ h₁ => ?_) fun _ _ e => e) hs
  obtain ⟨a, oa, vs, ns, vs0, news, J, h, g, t, rfl, rfl, S, hm, D, hJ, hct, turn, fin⟩ := h₁
  refine pyIterS C D hm S fun I oI h' P Fm hP D' => ?_
  refine codeAny_mono (forLoop4 (pre := []) C.hand Fm J D' hP hJ (fun i v pre post o g h hj Dj => ?_) (turn I P) fin (fun _ => rfl)) fun r s' hr => ?_
  · have := hct i v pre post g hj
    refine (Dj.nw (a, oa) ?_).1
    rcases List.mem_append.mp this with q | q
    · exact List.mem_append_left _ q
    · exact List.mem_append_right _ (.tail _ q)
  · cases r with
    | ok f => exact hr
    | error e => exact hr.elim
end
end
section
open PySem.W.X (Led)
open PyProof.Rows PySem.Calls PySem.Spec
set_option pp.deepTerms false
/-- a loop over an iterator: its word, its turn, its end -/
def ForIt (w : World) (A : Around) (env : Env) (h₀ : Heap) (d : Drawn) (os : OsState) (target : Expr) (body : List Stmt) (Q : Flow → Shared → Prop) (it : Value) (s : Shared) : Prop :=
  ∃ (I : Addr) (oI : Obj) (ns : List Str) (vs0 : List (Option Value)) (news : List (Addr × Obj)) (J : Nat → List (Option Value) → List (Addr × Obj) → List (Addr × Obj) → Array GenState → Prop) (h : Heap) (g : Array GenState) (t : Nat) (Ct : Heap → Prop) (N : Nat) (V : Nat → Value → Prop) (P : Nat → Obj → Prop),
    s = ⟨h, g, d, t, os⟩ ∧ it = .ref I ∧ A.handled = none ∧ ItG w I Ct N V P ∧ P 0 oI ∧ Tgt target ∧ Led h₀ env.locals (vec ns vs0) h ((I, oI) :: news) ∧ J 0 vs0 [] news g ∧
    (∀ i vs pre post g h, J i vs pre post g → (∀ p ∈ pre ++ post, h.get? p.1 = some p.2) → Ct h) ∧
    (∀ i vs pre post oI g h t v, i < N → V i v → J i vs pre post g → Led h₀ env.locals (vec ns vs) h (pre ++ (I, oI) :: post) → P (i + 1) oI →
      wpAny (model PG w) A (assign target env v) (fun _ s₂ => wpAny (model PG w) A (execs body env) (FEnd w h₀ env.locals ns d os I P J Q (i + 1)) (fun _ _ => False) s₂) (fun _ _ => False) ⟨h, g, d, t, os⟩) ∧
    (∀ vs pre post g h t, J N vs pre post g → Led h₀ env.locals (vec ns vs) h (pre ++ post) → Q .next ⟨h, g, d, t, os⟩)
section
variable {w : World} {A : Around} {env : Env} {h₀ h : Heap} {g : Array GenState} {d : Drawn} {t : Nat} {os : OsState} {m : Str → Option Value} {news : List (Addr × Obj)} {n : Nat} {E : Value → Shared → Prop} {s : Shared}
theorem rForIt {target iter : Expr} {body : List Stmt} {pos : Pos} {Q : Flow → Shared → Prop} (hs : ∀ x, foldedSetIterable iter env x = pure x)
    (h : wpAny (model PG w) A (eval iter env) (fun xv s₁ => wpAny (model PG w) A (pyIter xv) (ForIt w A env h₀ d os target body Q) (fun _ _ => False) s₁) (fun _ _ => False) s) :
    wpAny (model PG w) A (exec (.For target iter body [] pos) env) Q (fun _ _ => False) s := by
  refine wpAny_For (wpAny_mono h (fun xv s₁ h₁ => wpAny_mono h₁ (fun it s₂ h₂ => ?_) fun _ _ e => e.elim) fun _ _ e => e) hs
  obtain ⟨I, oI, ns, vs0, news, J, h, g, t, Ct, N, V, P, rfl, rfl, hh, It, hP, ht, D, hJ, hct, turn, fin⟩ := h₂
  refine codeAny_mono (forLoopX (Q := Q) (fun k s' => ∃ i vs pre post oI h' g' t', s' = ⟨h', g', d, t', os⟩ ∧ i ≤ N ∧ k = N - i ∧ Led h₀ env.locals (vec ns vs) h' (pre ++ (I, oI) :: post) ∧ P i oI ∧ J i vs pre post g') ?_ N ⟨0, vs0, [], news, oI, h, g, t, rfl, Nat.zero_le _, rfl, D, hP, hJ⟩) fun r s' hr => ?_
  · rintro k s' ⟨i, vs, pre, post, o1, h', g', t', rfl, hi, rfl, D', P', J'⟩
    have hI : h'.get? I = some o1 := (D'.nw _ (List.mem_append_right _ (.head _))).1
    have hc : Ct h' := hct i vs pre post g' h' J' fun p hp => (D'.nw p (by
      rcases List.mem_append.mp hp with q | q
      · exact List.mem_append_left _ q
      · exact List.mem_append_right _ (.tail _ q))).1
    by_cases hlt : i < N
    · refine It.item A i ⟨h', g', d, t', os⟩ o1 _ _ hlt hI P' hc fun v h2 o2 tk hV e1 e2 e3 => ?_
      dsimp only
      refine It.ownT ht e1 e2 ?_
      refine wpAny_mono (turn i vs pre post o2 g' h2 tk v hlt hV J' (ledAt D' e3 e1) e2) (fun _ s2 q => wpAny_mono q (fun f s3 q => ?_) fun _ _ e => e.elim) fun _ _ e => e.elim
      cases f with
      | next =>
        obtain ⟨h4, g4, t4, vs4, pre4, post4, o4, rfl, q1, q2, q3⟩ := q
        exact ⟨N - (i + 1), by omega, i + 1, vs4, pre4, post4, o4, h4, g4, t4, rfl, hlt, rfl, q1, q2, q3⟩
      | cont =>
        obtain ⟨h4, g4, t4, vs4, pre4, post4, o4, rfl, q1, q2, q3⟩ := q
        exact ⟨N - (i + 1), by omega, i + 1, vs4, pre4, post4, o4, h4, g4, t4, rfl, hlt, rfl, q1, q2, q3⟩
      | brk => exact q
      | ret v => exact q
    · obtain rfl : i = N := by omega
      refine It.done A ⟨h', g', d, t', os⟩ o1 _ _ hh hI P' hc fun h2 e3 => ?_
      exact fin vs pre post g' h2 t' J' (ledDel D' e3)
  · cases r with
    | ok f => exact hr
    | error e => exact hr.elim
theorem rCellLd {x : Str} {pos : Pos} {c : Addr} {o : Obj} {v : Value} {Q : Value → Shared → Prop} {L : Addr} (hk : env.scope.kind = .function) (D : Led h₀ L m h news) (hx : env.scope.names.lookup x = some .cell) (hc : env.cells.lookup x = some c) (hm : (c, o) ∈ news) (hd : o.data = .cell (some v)) (hn : (x == ("__debug__" : Str)) = false) (hq : Q v ⟨h, g, d, t, os⟩) :
    wpAny (model PG w) A (eval (.Name x pos) env) Q E ⟨h, g, d, t, os⟩ :=
  wpAny_Name (wpAny_loadName_cell (c := c) hk hx hc ⟨o, (D.nw _ hm).1, hd⟩ hq) hn
theorem ledUpdAt {h₀ h h' : Heap} {L c : Addr} {m : Str → Option Value} {o o' : Obj} {l l' : List (Addr × Obj)} (D : Led h₀ L m h l) (u : UpdA c o o' l l') (hx : ∀ b o, b ≠ c → h.get? b = some o → h'.get? b = some o) (ho : h'.get? c = some o') : Led h₀ L m h' l' := by
  obtain ⟨pre, post, rfl, rfl⟩ := u.split
  exact ledAt D hx ho
theorem rCellSto {x : Str} {c : Addr} {o : Obj} {v : Value} {v0 : Option Value} {Q : Unit → Shared → Prop} {L : Addr} {news' : Obj → List (Addr × Obj)} (hk : env.scope.kind = .function) (D : Led h₀ L m h news) (hx : env.scope.names.lookup x = some .cell) (hc : env.cells.lookup x = some c) (u : UpdG c o news news') (hd : o.data = .cell v0)
    (hq : ∀ h' o', o'.data = .cell (some v) → Led h₀ L m h' (news' o') → Q () ⟨h', g, d, t, os⟩) : wpAny (model PG w) A (storeName env x v) Q E ⟨h, g, d, t, os⟩ := by
  refine wpAny_storeName_cell (s := ⟨h, g, d, t, os⟩) (c := c) hk hx hc ⟨o, (D.nw _ (u.at o).mem).1, hd⟩ fun h' hv hs => ?_
  obtain ⟨o', e1, e2⟩ := hv
  exact hq h' o' e2 (ledUpdAt D (u.at o') hs.extBut e1)
end
end
section
open PySem.W.X (Led)
open PyProof.Rows PySem.Calls PySem.Spec
section
variable {M : Model} {A : Around} {E : Value → Shared → Prop} {s : Shared}
theorem newEnv3 {scope : Scope} {globals : Addr} {cl0 : List (Str × Addr)} {n1 n2 n3 : Str} {v1 v2 v3 : Value} {qual : Str} {func : Option Addr} {code : Value} {builtins : Addr} {Q : Env → Shared → Prop}
    (hk : scope.kind = .function) (h1 : scope.names.lookup n1 = some .local) (h2 : scope.names.lookup n2 = some .local) (h3 : scope.names.lookup n3 = some .cell)
    (hc : ∀ k, cellsFrom k scope.names cl0 = (n3, k) :: cl0) (hp : ∀ h : Heap, pushCells h scope.names = h.push { cls := .type "cell", data := .cell none })
    (hQ : ∀ h' tk, h'.Ns s.heap.objs.size (fun y => if y = n2 then some v2 else if y = n1 then some v1 else none) → (∃ o, h'.get? (s.heap.objs.size + 1) = some o ∧ o.data = .cell (some v3)) → (∀ b o, s.heap.get? b = some o → h'.get? b = some o) →
      Q (newEnv scope s.heap.objs.size globals ((n3, s.heap.objs.size + 1) :: cl0) qual func code none builtins) { s with heap := h', toks := tk }) :
    wpAny M A (newFunctionEnv scope globals cl0 [(n1, v1), (n2, v2), (n3, v3)] qual func code none builtins) Q E s := by
  simp only [newFunctionEnv, Option.isSome_none, Bool.false_eq_true, if_false]
  refine wpAny_bind (wpAny_alloc ?_)
  refine wpAny_bind (wpAny_layCells _ (fun name kind cells => by cases hkc : kind == NameKind.cell <;> simp [hkc]) _ _ _ _ ?_)
  rw [hc, hp]
  rw [show ({ s with heap := s.heap.push { cls := .type "frame", data := .dict #[] } } : Shared).heap.objs.size = s.heap.objs.size + 1 from Heap.size_push ..]
  generalize henv : newEnv scope s.heap.objs.size globals ((n3, s.heap.objs.size + 1) :: cl0) qual func code none builtins = env at hQ
  have hnsE : (s.heap.push { cls := .type "frame", data := .dict #[] }).Ns s.heap.objs.size (fun _ => none) := Heap.Ns.new s.heap (.type "frame")
  have hns0 : ((s.heap.push { cls := .type "frame", data := .dict #[] }).push { cls := .type "cell", data := .cell none }).Ns s.heap.objs.size (fun _ => none) := hnsE.keeps fun b o e => Heap.get?_push_of_some _ e
  have hcell0 : ((s.heap.push { cls := .type "frame", data := .dict #[] }).push { cls := .type "cell", data := .cell none }).get? (s.heap.objs.size + 1) = some { cls := .type "cell", data := .cell none } := by
    have := Heap.get?_push_size (s.heap.push { cls := .type "frame", data := .dict #[] }) (o := { cls := .type "cell", data := .cell none }) rfl
    rwa [Heap.size_push] at this
  have k0 : ∀ b o, s.heap.get? b = some o → ((s.heap.push { cls := .type "frame", data := .dict #[] }).push { cls := .type "cell", data := .cell none }).get? b = some o := fun b o e => Heap.get?_push_of_some _ (Heap.get?_push_of_some _ e)
  have kd1 : env.kindOf n1 = some .local := by rw [← henv]; exact h1
  have kd2 : env.kindOf n2 = some .local := by rw [← henv]; exact h2
  have kd3 : env.kindOf n3 = some .cell := by rw [← henv]; exact h3
  have kk : env.scope.kind = .function := by rw [← henv]; exact hk
  have kl : env.locals = s.heap.objs.size := by rw [← henv]; rfl
  have kc : env.cells.lookup n3 = some (s.heap.objs.size + 1) := by rw [← henv]; show List.lookup n3 ((n3, _) :: cl0) = _; simp [List.lookup]
  have hloc : (env.scope.kind == .class || (env.scope.kind == .module && env.locals != env.globals)) = false := by rw [kk]; rfl
  have hne : s.heap.objs.size + 1 ≠ s.heap.objs.size := Nat.succ_ne_self _
  have body : wpAny M A (do
      for (name, v) in [(n1, v1), (n2, v2), (n3, v3)] do storeName env name v
      return env) Q E { s with heap := (s.heap.push { cls := .type "frame", data := .dict #[] }).push { cls := .type "cell", data := .cell none } } := by
    refine wpAny_bind ?_
    rw [List.forIn_cons]
    refine wpAny_bind (wpAny_bind (wpAny_storeName_local kd1 (by rw [kl]; exact hns0) (fun g1 hn1 hs1 => ?_) hloc))
    rw [kl] at hn1 hs1
    refine wpAny_pure ?_
    dsimp only
    rw [List.forIn_cons]
    refine wpAny_bind (wpAny_bind (wpAny_storeName_local kd2 (by rw [kl]; exact hn1) (fun g2 hn2 hs2 => ?_) hloc))
    rw [kl] at hn2 hs2
    refine wpAny_pure ?_
    dsimp only
    rw [List.forIn_cons]
    have hcell2 := (hs2.2 _ hne).trans ((hs1.2 _ hne).trans hcell0)
    refine wpAny_bind (wpAny_bind (wpAny_storeName_cell kk kd3 kc ⟨_, hcell2, rfl⟩ fun g3 hv3 hs3 => ?_))
    refine wpAny_pure ?_
    dsimp only
    rw [List.forIn_nil]
    refine wpAny_pure (wpAny_pure ?_)
    refine hQ g3 _ (hn2.sameBut hs3 (Ne.symm hne)) hv3 fun b o e => ?_
    have hb := Heap.lt_size e
    have b1 : b ≠ s.heap.objs.size := Nat.ne_of_lt hb
    have b2 : b ≠ s.heap.objs.size + 1 := Nat.ne_of_lt (Nat.lt_succ_of_lt hb)
    exact (hs3.2 b b2).trans ((hs2.2 b b1).trans ((hs1.2 b b1).trans (k0 b o e)))
  rw [← henv] at body
  exact body
end
end
section
open PySem.W.X (Led)
open PyProof.Rows PySem.Calls PySem.Spec
theorem vec_none (rest : List Str) (y : Str) : vec rest (rest.map fun _ => none) y = none := by
  induction rest with
  | nil => rfl
  | cons r rest ih =>
    simp only [List.map_cons, vec]
    split
    · rfl
    · exact ih
section
variable {w : World} {A : Around} {env : Env} {h₀ h : Heap} {g₀ : Array GenState} {d : Drawn} {t : Nat} {os : OsState} {m : Str → Option Value} {news : List (Addr × Obj)} {n : Nat}
/-- the call of a method with a cell and the free name of its class -/
theorem enterS {R : Result → Shared → Prop} {name qual : Str} {params : Arguments} {body : List Stmt} {scope : Scope} {dV kV doc pm cdv ct oc : Value} {an od : Option Addr} {osl : Array (Option Value)} {f : Addr} {args : Args} {cl0 : List (Str × Addr)} {n1 n2 n3 : Str} {v1 v2 v3 : Value} (rest gs : List Str)
    (C : Cx w A env h₀ (n + 1)) (D : Led h₀ env.locals m h news)
    (ho : (hd.heap_39 w.params).lookup f = some ⟨oc, od, .func (fnX name qual params body scope cl0 dV kV doc pm an cdv ct), osl⟩) (hcd : codeIn (hd.heap_39 w.params) cdv qual = true)
    (hbind : (hd.heap_39 w.params).In h → BindsTo ⟨h, g₀, d, t, os⟩ (fnX name qual params body scope cl0 dV kV doc pm an cdv ct) args [(n1, v1), (n2, v2), (n3, v3)])
    (h12 : n1 ≠ n2) (hfl : fnl (n1 :: n2 :: rest) gs scope = true) (h3 : scope.names.lookup n3 = some .cell)
    (hc : ∀ k, cellsFrom k scope.names cl0 = (n3, k) :: cl0) (hp : ∀ h : Heap, pushCells h scope.names = h.push { cls := .type "cell", data := .cell none }) (hco : scope.isCoroutine = false) (hgen : scope.isGenerator = false)
    (hb : ∀ A' L' env' g h₁ t' Q' ocl, Cx w A' env' g n → env' = envX qual scope L' f cdv ((n3, L' + 1) :: cl0) → FnL (n1 :: n2 :: rest) gs env'.scope →
      Led g env'.locals (vec (n1 :: n2 :: rest) (some v1 :: some v2 :: rest.map fun _ => none)) h₁ ((L' + 1, ocl) :: news) → ocl.data = .cell (some v3) → (∀ p ∈ news, p.1 < L') →
      (∀ fl h' t' g' m' news', Led g env'.locals m' h' news' → (Led h₀ env.locals m h' news' → R (.ok (.ret (retOf fl))) ⟨h', g', d, t', os⟩) → Q' fl ⟨h', g', d, t', os⟩) →
      PySem.wpAt (model PG w) A' (.func body env') (execs body env') Q' (fun _ _ => False) ⟨h₁, g₀, d, t', os⟩) :
    codeAny (model PG w) A (.call (.ref f) args) R ⟨h, g₀, d, t, os⟩ := by
  obtain ⟨p, loose, mean, mg, mb, T⟩ := C.top
  have fl := FnL.of hfl
  have X := C.X.keeps D.fr.keep
  obtain ⟨FG, st, lv⟩ := groundY (R := R) D.fr D.nw
  have l1 := fl.loc n1 (.head _)
  have l2 := fl.loc n2 (.tail _ (.head _))
  refine codeAny_call_function (s := ⟨h, g₀, d, t, os⟩) (Nat.lt_of_le_of_lt (Nat.le_add_right _ _) C.room) (X _ _ ho) rfl hco hgen rfl (codeRec_of X hcd) (hbind X _ _ _ _ ?_)
  refine newEnv3 fl.kind l1 l2 h3 hc hp fun h₁ tk hns hcl hk => ?_
  obtain ⟨ocl, hocl, hocd⟩ := hcl
  refine ⟨(T.nolimit.keeps D.fr.keep).keeps hk, ks_codeAny_funcAt ?_⟩
  have hLs : ∀ p ∈ news, p.1 < h.objs.size := fun p hp => Heap.lt_size (D.nw p hp).1
  have F1 : Fr (hideAll h (news.map (·.1))) h.objs.size h₁ (vec (n1 :: n2 :: rest) (some v1 :: some v2 :: rest.map fun _ => none)) := by
    refine ⟨?_, fun b o e => hk b o (of_hideAll _ e), Nat.le_of_eq (hideAll_size _ _)⟩
    have e : (fun y => if y = n2 then some v2 else if y = n1 then some v1 else none) = vec (n1 :: n2 :: rest) (some v1 :: some v2 :: rest.map fun _ => none) := by
      funext y
      have hrest := vec_none rest y
      simp only [vec]
      by_cases e2 : y = n2
      · have : ¬ y = n1 := fun e1 => h12 (e1.symm.trans e2)
        rw [if_pos e2, if_neg this, if_pos e2]
      · by_cases e1 : y = n1
        · rw [if_neg e2, if_pos e1, if_pos e1]
        · rw [if_neg e2, if_neg e1, if_neg e1, if_neg e2, hrest]
    rw [← e]; exact hns
  have N1 : News (hideAll h (news.map (·.1))) h.objs.size h₁ ((h.objs.size + 1, ocl) :: news) := fun p hp => by
    rcases List.mem_cons.mp hp with rfl | hp
    · refine ⟨hocl, Nat.succ_ne_self _, ?_⟩
      cases q : (hideAll h (news.map (·.1))).get? (h.objs.size + 1) with
      | none => rfl
      | some o => exact absurd (Heap.lt_size (of_hideAll _ q)) (Nat.lt_asymm (Nat.lt_succ_self _))
    · exact ⟨hk _ _ (D.nw p hp).1, Nat.ne_of_lt (hLs p hp), hideAll_none _ (List.mem_map_of_mem hp)⟩
  refine ks_wpAt_mono (hb (A.deeper (envX qual scope h.objs.size f cdv ((n3, h.objs.size + 1) :: cl0))) h.objs.size _ (hideAll h (news.map (·.1))) h₁ tk (fun fl s' => LeaveK h₀ env.locals m (hideAll h (news.map (·.1))) R (match fl with | .ret v => v | _ => .none) s') ocl
    ⟨?_, rfl, rfl, fl.kind, C.X.keeps st, ⟨p, loose, mean, mg, mb, T.keeps st⟩, C.hand, ?_, ?_⟩ rfl fl ⟨F1, N1, ?_⟩ hocd hLs ?_) (fun fl s' q => lv _ _ q) (fun _ _ q => q.elim)
  · exact C.pushed D _ rfl
  · have := C.room; show A.depth + 1 + n < _; omega
  · have := C.units; show A.units + 3 + 40 * n < _; omega
  · rw [List.map_cons]
    exact List.Pairwise.cons (fun b hb => by obtain ⟨q, hq, rfl⟩ := List.mem_map.mp hb; exact Nat.lt_succ_of_lt (hLs q hq)) D.ord
  · intro fl h' t' g' m' news' D' k
    have k2 := leaveK_ (h₀ := h₀) (g := hideAll h (news.map (·.1))) (L := env.locals) (m := m) (R := R) (v := retOf fl) (s' := ⟨h', g', d, t', os⟩) D'.fr D'.nw fun F N => k ⟨F, N, D'.ord⟩
    cases fl <;> exact k2
end
end
section
open PySem.W.X (Led)
open PyProof.Rows PySem.Calls PySem.Spec
theorem slot_wd_get : Slot "wrapper_descriptor" "__get__" "wrapper_descriptor.__get__" :=
  .of (owner := "wrapper_descriptor") (n := "__get__") (by rw [typeLookup_type, builtinLookup_eq_fast]; kernel_rfl) (by decide +kernel) (by decide +kernel) (by decide +kernel)
    (by first | exact .inl (by decide +kernel) | exact .inr (by decide +kernel)) (by rw [isSubtype_type]; kernel_rfl)
theorem entry_wd_get : entryFor table "wrapper_descriptor.__get__" = some Builtin.«wrapper_descriptor.__get__» := entryFor_of_tree (by kernel_rfl)
theorem args_wd_get (a b c : Value) : argsOk "wrapper_descriptor.__get__" ⟨[a, b, c], []⟩ := by unfold argsOk; kernel_rfl
theorem si_kind : builtinKind "set.__init__" = some .slot := by decide +kernel
theorem type_si : typeOf (.builtin "set.__init__") = pure (.type "wrapper_descriptor") := by kernel_rfl
section
variable {w : World} {A : Around} {E : Value → Shared → Prop} {h : Heap} {g : Array GenState} {d : Drawn} {t : Nat} {os : OsState} {so x : Addr} {dd : Option Addr} {y : S4} {ep : Nat}
theorem wdGet {s : Shared} {Q : Fin → Shared → Prop} (hin : Looks (model PG w) s.heap (isInstance (.ref x) (.type "set")) true)
    (hq : Q (.done (.ret (.ref s.heap.objs.size))) { s with heap := s.heap.push { cls := .type "method-wrapper", data := .fields #[.builtin "set.__init__", .ref x] } }) :
    wpAny (model PG w) A (Builtin.«wrapper_descriptor.__get__» ⟨[.builtin "set.__init__", .ref x, .ref 75], []⟩) Q E s := by
  unfold Builtin.«wrapper_descriptor.__get__»
  refine wpAny_bind (wpAny_of_eq (a := (Value.builtin "set.__init__", some (.ref x), some (.ref 75))) (by rfl) ?_)
  dsimp only
  k_delta "bindBuiltin"
  k_delta "checkInstance"
  dsimp only
  refine wpAny_bind ?_
  refine wpAny_bind (wpAny_of_eq (a := (("__init__" : Str), Value.type "set")) (by kernel_rfl) ?_)
  dsimp only
  refine wpAny_bind (hin.here ?_)
  simp only [Bool.not_true, Bool.false_eq_true, if_false]
  refine wpAny_pure ?_
  refine wpAny_bind ?_
  simp only [newFields]
  exact wpAny_newObj_type (wpAny_pure hq) (by size_fits)
theorem superGa {tk : Tok} {Q : Fin → Shared → Prop} (X : (hd.heap_39 w.params).In h)
    (hso : h.get? so = some (ks_superObj 75 x 75)) (hx : h.get? x = some (setO w (.ref 75) dd y ep))
    (hq : Q (.done (.ret (.ref h.objs.size))) ⟨h.push { cls := .type "method-wrapper", data := .fields #[.builtin "set.__init__", .ref x] }, g, d, t, os⟩) :
    wpAny (model PG w) A (Builtin.«super.__getattribute__» ⟨[.ref so, .str "__init__" tk], []⟩) Q E ⟨h, g, d, t, os⟩ := by
  have hmro : (clsIn (hd.heap_39 w.params) 75).map (·.mro) = some [.ref 75, .type "set", .type "object"] := by kernel_rfl!
  obtain ⟨cd, hcd, hm⟩ := Option.map_eq_some_iff.mp hmro
  have Lm : Looks (model PG w) h (mroOf (.ref 75)) cd.mro := (looks_clsIn X hcd).andThen (f := fun cd => pure cd.mro) .now
  rw [hm] at Lm
  have hxC : x ≠ 75 := fun q => by
    unfold clsIn at hcd
    split at hcd
    · rename_i ho
      have e := X _ _ ho
      rw [← q, hx] at e
      cases e
    · cases hcd
  have hne : (Value.ref x == Value.ref 75) = false := by simp [hxC]
  have hno : Looks (model PG w) h (opaqueClassAbove (.ref 75)) none := looks_opaque X (by kernel_rfl!)
  have hlk := slot_wd_get.lookup
  have hT : (⟨h, g, d, t, os⟩ : Shared).TypeIs (.builtin "set.__init__") "wrapper_descriptor" := type_si
  have hdt : (ks_superObj 75 x 75).data = .fields #[.ref 75, .ref x, .ref 75] := rfl
  have f0 : (#[.ref 75, .ref x, .ref 75] : Array Value)[0]? = some (.ref 75) := rfl
  have f1 : (#[.ref 75, .ref x, .ref 75] : Array Value)[1]? = some (.ref x) := rfl
  have f2 : (#[.ref 75, .ref x, .ref 75] : Array Value)[2]? = some (.ref 75) := rfl
  have hn : (("__init__" : Str) == ("__class__" : Str)) = false := by decide
  unfold Builtin.«super.__getattribute__»
  repeat (first
    | (with_reducible refine wpAny_field hso hdt f0 ?_) | (with_reducible refine wpAny_field hso hdt f1 ?_) | (with_reducible refine wpAny_field hso hdt f2 ?_)
    | (with_reducible refine ks_wpAny_notOpaque hno ?_)
    | (with_reducible refine Looks.at Lm ?_)
    | (simp only [hn, hne, Bool.or_false, Bool.false_eq_true, if_false])
    | wp_step
    | dsimp only)
  rw [show (toString "set" ++ toString "." ++ toString (Str.ofString "__init__").toString) = "set.__init__" by decide +kernel]
  rw [si_kind]
  dsimp only
  refine wpAny_of_eq hlk ?_
  dsimp only
  refine wpAny_bind (wpAny_holding (wpAny_call_entry slot_wd_get hT entry_wd_get ?_ (args_wd_get _ _ _)))
  have hin : Looks (model PG w) h (isInstance (.ref x) (.type "set")) true := (SetLike.cs X hx).inst
  refine wdGet (s := ⟨h, g, d, t, os⟩) hin ⟨_, rfl, ?_⟩
  refine wpAny_bind (wpAny_pure (wpAny_pure ?_))
  exact wpAny_pure (wpAny_pure hq)
end
end
section
open PySem.W.X (Led)
open PyProof.Rows PySem.Calls PySem.Spec
section
variable {w : World} {A : Around} {E : Value → Shared → Prop} {h : Heap} {g : Array GenState} {d : Drawn} {t : Nat} {os : OsState} {so x : Addr} {dd : Option Addr} {y : S4} {ep : Nat}
abbrev mwObj (x : Addr) : Obj := { cls := .type "method-wrapper", data := .fields #[.builtin "set.__init__", .ref x] }
theorem superMeth {pl : Sem Bool} {Q : Value × List Value → Shared → Prop} (X : (hd.heap_39 w.params).In h) (hso : h.get? so = some (ks_superObj 75 x 75)) (hx : h.get? x = some (setO w (.ref 75) dd y ep))
    (hq : Q (.ref h.objs.size, []) ⟨h.push (mwObj x), g, d, t + 1, os⟩) :
    wpAny (model PG w) A (getMethod (.ref so) "__init__" pl) Q E ⟨h, g, d, t, os⟩ := by
  have hlk := F.ks_slot_super_ga.lookup
  have hcan := F.ks_canon_super_ga
  have hT : ∀ t', (⟨h, g, d, t', os⟩ : Shared).TypeIs (.ref so) "super" := fun _ => ⟨_, hso, rfl⟩
  unfold getMethod
  refine wpAny_bind (wpAny_specialOf (hT _) hlk ?_)
  show wpAny _ _ (if (Manifest.canonical "super.__getattribute__" != "object.__getattribute__") = true then _ else _) _ _ _
  rw [if_pos hcan]
  unfold getAttr getAttrBy
  refine wpAny_bind (wpAny_bind (wpAny_mkText (wpAny_holding (wpAny_bind (wpAny_typeOf (hT _) (wpAny_bind (wpAny_of_eq hlk ?_)))))))
  show wpAny _ _ (getAttrByItsOwn (.ref so) (.str "__init__" t) (.type "super") (.builtin "super.__getattribute__") true false) _ _ _
  unfold getAttrByItsOwn hookBefore callGetattribute boundAndCalled
  refine wpAny_bind (wpAny_of_eq (show (if onTheHeap (.type "super") then typeLookup (.type "super") "__getattr__" else pure none) = pure none from rfl) ?_)
  refine wpAny_bind (wpAny_attempt (wpAny_holding ?_))
  show wpAny _ _ (bindSpecial (.builtin "super.__getattribute__") (.ref so) >>= _) _ _ _
  refine wpAny_bind (wpAny_of_eq (F.ks_slot_super_ga.bind _) ?_)
  refine wpAny_mono (Q := fun v s' => v = .ref h.objs.size ∧ s' = ⟨h.push (mwObj x), g, d, t + 1, os⟩) (E := fun _ _ => False)
    (wpAny_call_entry F.ks_slot_super_ga (hT _) F.ks_entry_super_ga (superGa X hso hx ⟨_, rfl, rfl, rfl⟩) (F.ks_gaArgs_super _ _)) (fun v s' hv => ?_) fun _ _ z => z.elim
  obtain ⟨rfl, rfl⟩ := hv
  exact wpAny_pure (wpAny_pure hq)
theorem csCheck {s : Shared} {a : Value} {Q : Unit → Shared → Prop} (X : (hd.heap_39 w.params).In s.heap) (hx : s.heap.get? x = some (setO w (.ref 75) dd y ep)) (hQ : Q () s) :
    wpAny (model PG w) A (checkBoundCall "set.__init__" ⟨[.ref x, a], []⟩) Q E s := by
  have L1 : Looks (model PG w) s.heap (typeOf (.ref x)) (.ref 75) := (Looks.ld hx).andThen .now
  unfold checkBoundCall
  simp only [sig_set_init, kind_set_init]
  rw [if_pos (by decide)]
  unfold Bind.checkArgs
  dsimp only
  refine wpAny_bind (m := Bind.printed "set" true _ _) (PyProof.Rows.printed_name (by decide) ?_)
  refine wpAny_bind (m := Bind.printed "*" false _ _) ?_
  unfold Bind.printed
  rw [if_neg (by decide)]
  have hrn : (Manifest.Receiver.self == Manifest.Receiver.none) = false := by decide
  have hn : (if (Manifest.Receiver.self == Manifest.Receiver.none) = true then [Value.ref x, a].length else [Value.ref x, a].length - 1) = 1 := by simp [hrn]
  have hr : (if (Manifest.Receiver.self == Manifest.Receiver.none) = true then none else [Value.ref x, a].head?) = some (Value.ref x) := by simp [hrn]
  rw [hr]
  dsimp only
  refine wpAny_bind (m := Bind.receiverType _ _) ?_
  unfold Bind.receiverType
  rw [if_neg (by decide)]
  refine L1.here ?_
  have hcls : (clsIn (hd.heap_39 w.params) 75).map (·.name) = some "CandidateSet" := by kernel_rfl!
  obtain ⟨cd, hc, hnm⟩ := Option.map_eq_some_iff.mp hcls
  have hld : ∃ o, s.heap.get? 75 = some o ∧ o.data = .cls cd := by
    unfold clsIn at hc
    split at hc
    · rename_i ho; cases hc; exact ⟨_, X _ _ ho, rfl⟩
    · cases hc
  obtain ⟨o, h1, h2⟩ := hld
  refine wpAny_bind (m := typeNameWhole _) ?_
  show wpAny _ _ (classData 75 >>= _) _ _ _
  unfold classData
  refine wpAny_bind (wpAny_bind (wpAny_load h1 ?_))
  rw [h2]
  refine wpAny_pure (wpAny_pure (wpAny_pure ?_))
  rw [hn]
  simp only [List.map_nil]
  have hk1 : (Manifest.ParamKind.posOnly == Manifest.ParamKind.posOnly) = true := by decide
  have hk2 : (Manifest.ParamKind.posOnly == Manifest.ParamKind.posOrKw) = false := by decide
  have hk3 : (Manifest.ParamKind.posOnly == Manifest.ParamKind.varPos) = false := by decide
  have hch : ∀ short, Bind.check ⟨.positional, "set", "*", .self, [⟨"iterable", .posOnly, false⟩]⟩ "set" short 1 [] = pure () := fun short => by
    simp [Bind.check, Bind.checkCount, Bind.isPositional, hk1, hk2, hk3]
  rw [hch]
  exact wpAny_onRaise (wpAny_pure hQ)
theorem callMw {q a S : Addr} {vs : List Value} {ns : List Nat} {Q : Value → Shared → Prop} (hh : A.handled = none) (X : (hd.heap_39 w.params).In h) (hq : h.get? q = some (mwObj x)) (hx : h.get? x = some (setO w (.ref 75) dd S4.nil ep)) (hne : x ≠ a) (Z : Src w h a vs) (hi : IntsN vs ns)
    (hQ : ∀ h' tk e x', h'.get? x = some (setO w (.ref 75) dd x' e) → Holds4 x' ns → (∀ b o, b ≠ x → h.get? b = some o → h'.get? b = some o) → Q .none ⟨h', g, d, tk, os⟩) : wpAny (model PG w) A (call (.ref q) [.ref a]) Q E ⟨h, g, d, t, os⟩ := by
  refine wpAny_call (codeAny_of_tree ?_)
  show wpAny _ A.in1 (callAny (.ref q) ⟨[.ref a], []⟩) _ _ _
  unfold callAny
  refine wpAny_bind (wpAny_load hq ?_)
  show wpAny _ _ (do checkBoundCall "set.__init__" ⟨[.ref x, .ref a], []⟩; again (.builtin "set.__init__" ⟨[.ref x, .ref a], []⟩)) _ _ _
  refine wpAny_bind (csCheck X hx (wpAny_pure ⟨plainId_quiet F.called_set.init.plain _, codeAny_builtin F.entry_set_init ?_⟩))
  rw [Around.under_plainId F.called_set.init.plain _]
  refine setInitB (s := ⟨h, g, d, t, os⟩) (by simpa using hh) (SetLike.cs X hx) hne hx Z hi fun h' tk e x' e1 e2 e3 => ?_
  exact hQ h' tk e x' e1 e2 e3
end
end
section
open PySem.W.X (Led)
open PyProof.Rows PySem.Calls PySem.Spec
section
variable {w : World} {A : Around} {env : Env} {h₀ h : Heap} {g : Array GenState} {d : Drawn} {t : Nat} {os : OsState} {news : List (Addr × Obj)} {n : Nat} {ns gs : List Str} {vs0 : List (Option Value)} {E : Value → Shared → Prop}
theorem superBase {body : List Stmt} {scope : Scope} {qual : Str} {L' x c1 dx : Addr} {y : S4} {ep : Nat} {p0 p1 : Pos} {whole : Sem Value} {Q : Value → Shared → Prop} (C : Cx w A env h₀ n) (he : env = envX qual scope L' 57 (.ref 56) [("num_cand", c1), ("__class__", 43)])
    (fl : FnL ns gs env.scope) (D : Led h₀ env.locals (vec ns vs0) h news) (h2 : At2 ns vs0 "self" (.ref x)) (hx : (x, setO w (.ref 75) (some dx) y ep) ∈ news)
    (k1 : scope.names.lookup ("super" : Str) = some .globalImplicit) (k2 : scope.names.lookup ("__class__" : Str) = some .free)
    (hq : ∀ so h', Led h₀ env.locals (vec ns vs0) h' ((so, ks_superObj 75 x 75) :: news) → Q (.ref so) ⟨h', g, d, t, os⟩) :
    PySem.wpAt (model PG w) A (.func body env) (attributeBase (.Call (.Name "super" p0) [] [] p1) "__init__" env whole) Q E ⟨h, g, d, t, os⟩ := by
  have X := C.X.keeps D.fr.keep
  obtain ⟨p, loose, mean, mg, mb, T⟩ := C.top
  have f57 : ((hd.heap_39 w.params).lookup 57).bind (fun o => match o.data with | .func fd => (fd.params.posonlyargs ++ fd.params.args).head?.map (·.arg) | _ => none) = some "self" := by kernel_rfl!
  obtain ⟨of, hof, hof2⟩ := Option.bind_eq_some_iff.mp f57
  have c56 : ((hd.heap_39 w.params).lookup 56).bind (fun o => match o.data with | .fields vs => (match (vs[2]? : Option Value) with | some (.str f _) => some ((PG.main.file : Str) == f) | _ => none) | _ => none) = some true := by kernel_rfl!
  obtain ⟨oc, hoc, hoc2⟩ := Option.bind_eq_some_iff.mp c56
  have l43 : ((hd.heap_39 w.params).lookup 43).bind (fun o => match o.data with | .cell (some v) => some v | _ => none) = some (.ref 75) := by kernel_rfl!
  obtain ⟨o43, ho43, ho432⟩ := Option.bind_eq_some_iff.mp l43
  cases hofd : of.data with
  | func fd =>
    rw [hofd] at hof2
    obtain ⟨ar, har, harg⟩ := Option.map_eq_some_iff.mp hof2
    cases hocd : oc.data with
    | fields vsc =>
      rw [hocd] at hoc2
      dsimp only at hoc2
      split at hoc2
      · rename_i file tf hvs
        simp only [Option.some.injEq] at hoc2
        have hctx := csFacts X
        obtain ⟨⟨occ, odd, cd, sl, hC, _, _, _⟩, made, base, self, top, call, typ⟩ := hctx
        refine ks_wpAt_super_base (by rw [he]; exact k1) (by rw [he]; exact k2) (by decide) (by rw [he]) (X _ _ hof) hofd har (by rw [he]) (X _ _ hoc) hocd hvs hoc2 (by kernel_rfl) ?_
        refine ks_loadName_global C.kind (by rw [he]; exact k1) (loadGlobal_builtin (env := env) (by rw [C.glo]; exact T.g.keeps D.fr.keep) (mg_none_of C.X T.g (by kernel_rfl!)) (by rw [C.bui]; exact T.b.keeps D.fr.keep) ((T.builtins _ (by decide +kernel)).trans (by first | boot_by_name | rfl | kernel_rfl)) ⟨rfl, ?_⟩)
        refine wpAny_loadName_free (v := .ref 75) (c := 43) C.kind (by rw [he]; exact k2) (by rw [he]; rfl) ⟨o43, X _ _ ho43, ?_⟩ ?_
        · revert ho432
          cases o43.data with
          | cell v => cases v with
            | some v => intro e; cases e; rfl
            | none => intro e; cases e
          | _ => intro e; cases e
        rw [harg]
        refine rLdn C fl D h2 ?_
        refine ks_wpAny_isType_cls hC rfl ⟨rfl, ?_⟩
        have hxo := (D.nw _ hx).1
        refine ks_wpAny_call_super hC rfl hxo rfl (fun c e => by cases e) self fun h' e k => ?_
        obtain ⟨F', N', l'⟩ := ks_newsPush (s := ⟨h, g, d, t, os⟩) D.fr D.nw rfl e k
        exact hq _ _ (ledCons D F' N' l')
      · cases hoc2
    | _ => rw [hocd] at hoc2; cases hoc2
  | _ => rw [hofd] at hof2; cases hof2
end
end
section
open PySem.W.X (Led)
open PyProof.Rows PySem.Calls PySem.Spec
set_option pp.deepTerms false
theorem led_push {h₀ h : Heap} {L : Addr} {m : Str → Option Value} {news : List (Addr × Obj)} (D : Led h₀ L m h news) (o : Obj) (hf : o.isFreed = false) : Led h₀ L m (h.push o) ((h.objs.size, o) :: news) :=
  ledCons D (D.fr.push o) (D.nw.push D.fr o (hfree := hf)) (fun p hp => Heap.lt_size (D.nw p hp).1)
theorem keeper_mw {M : Model} {h : Heap} {q x : Addr} (hq : h.get? q = some (mwObj x)) : Looks M h (keeperOf (.ref q)) .machine :=
  (Looks.ld (part := none) hq).andThen .now
theorem rCallMw {M : Model} {A : Around} {env : Env} {E : Value → Shared → Prop} {s : Shared} {mw x : Addr} {e : Expr} {rest : List Expr} {pos : Pos} {Q : Value → Shared → Prop}
    (he : starEach (e :: rest) env = (false, eval e env) :: starEach rest env) (hplain : (backTo pos (starEach rest env)).any (·.1) = false)
    (h : wpAny M A (spliced (backTo pos (starEach (e :: rest) env))) (fun vs s₁ => s₁.heap.get? mw = some (mwObj x) ∧ wpAny M A (call (.ref mw) vs) Q E s₁) E s) :
    wpAny M A (callWith pos (.ref mw) [] (backTo pos (starEach (e :: rest) env)) []) Q E s := by
  rw [he] at h ⊢
  exact callWith_of (P := fun h => h.get? mw = some (mwObj x)) (by show ((false || (backTo pos (starEach rest env)).any (·.1)) || false) = false; rw [hplain]; rfl) (fun h hp => ⟨.machine, .inr (.inl rfl), keeper_mw hp⟩) (evalArgs_plain h)
end
section
open PySem.W.X (Led)
open PyProof.Rows PySem.Calls PySem.Spec
set_option pp.deepTerms false
section
variable {w : World} {A : Around} {env : Env} {h₀ h : Heap} {g : Array GenState} {d : Drawn} {t : Nat} {os : OsState} {m : Str → Option Value} {news : List (Addr × Obj)} {n : Nat} {E : Value → Shared → Prop} {ns gs : List Str} {vs vs' : List (Option Value)} {pos : Pos} {a Cl dx f : Addr} {o : Obj} {l : List (Str × Value)} {nm : Str} {s : Shared}
/-- a method of an own instance -/
theorem rMeth {pl : Sem Bool} {Q : Value × List Value → Shared → Prop} (C : Cx w A env h₀ n) (D : Led h₀ env.locals m h news) (i1 : (a, instObj Cl dx) ∈ news) (i2 : (dx, o) ∈ news) (F : Flds o l) (hn : l.all (fun p => !(p.1 == nm)) = true) (hg : plainGet (hd.heap_39 w.params) Cl nm = true)
    (hf : findIn (hd.heap_39 w.params) (.ref Cl) nm = some (some (.ref f))) (ht : isFn (hd.heap_39 w.params) (.ref f) = true) (hq : Q (.ref f, [.ref a]) ⟨h, g, d, t, os⟩) : wpAny (model PG w) A (getMethod (.ref a) nm pl) Q E ⟨h, g, d, t, os⟩ := by
  obtain ⟨es, k, rfl, hm, _⟩ := F.miss (nm := nm) (fun q => by
    obtain ⟨p, hp, e⟩ := List.mem_map.mp q
    have := List.all_eq_true.mp hn p hp
    rw [e] at this; simp at this)
  exact method_inst (s := ⟨h, g, d, t, os⟩) D.fr C.X (InstAt.of_news D.nw i1 i2) hg hf ht hm hq
theorem rMethL {ys : List Value} {e : Nat} {id : String} {pl : Sem Bool} {Q : Value × List Value → Shared → Prop} (D : Led h₀ env.locals m h news) (hm : (a, lstO ys e) ∈ news) (slot : Slot "list" nm id) (hty : typeOf (.builtin id) = pure (.type "method_descriptor")) (hq : Q (.builtin id, [.ref a]) ⟨h, g, d, t, os⟩) :
    wpAny (model PG w) A (getMethod (.ref a) nm pl) Q E ⟨h, g, d, t, os⟩ := listMethod_K (s := ⟨h, g, d, t, os⟩) D.nw hm slot hty hq
/-- the callee found, its arguments -/
theorem rCW {first : List Value} {e : Expr} {rest : List Expr} {Q : Value → Shared → Prop} (C : Cx w A env h₀ n) (hk : keepIn (hd.heap_39 w.params) (.ref f) = true) (he : starEach (e :: rest) env = (false, eval e env) :: starEach rest env) (hplain : (backTo pos (starEach rest env)).any (·.1) = false)
    (hq : wpAny (model PG w) A (spliced (backTo pos (starEach (e :: rest) env))) (fun vs s₁ => (hd.heap_39 w.params).In s₁.heap ∧ wpAny (model PG w) A (call (.ref f) (first ++ vs)) Q E s₁) E s) :
    wpAny (model PG w) A (callWith pos (.ref f) first (backTo pos (starEach (e :: rest) env)) []) Q E s := callWith_K C.X hk hq he hplain
theorem rCW0 {first : List Value} {Q : Value → Shared → Prop} (C : Cx w A env h₀ n) (D : Led h₀ env.locals m h news) (hk : keepIn (hd.heap_39 w.params) (.ref f) = true) (hq : wpAny (model PG w) A (call (.ref f) (first ++ [])) Q E ⟨h, g, d, t, os⟩) :
    wpAny (model PG w) A (callWith pos (.ref f) first (backTo pos (starEach [] env)) []) Q E ⟨h, g, d, t, os⟩ := callWith_K0 (s := ⟨h, g, d, t, os⟩) (C.X.keeps D.fr.keep) hk hq
theorem rCWKW {first : List Value} {e : Expr} {rest : List Expr} {kws : List Keyword} {Q : Value → Shared → Prop} (C : Cx w A env h₀ n) (hk : keepIn (hd.heap_39 w.params) (.ref f) = true)
    (hall : (backToKw pos (keywordEach kws env)).all (·.1.isSome) = true) (hplain : ((backTo pos (starEach (e :: rest) env)).any (·.1) || (backToKw pos (keywordEach kws env)).any (·.1.isNone)) = false) (he : starEach (e :: rest) env = (false, eval e env) :: starEach rest env)
    (hq : wpAny (model PG w) A (spliced (backTo pos (starEach (e :: rest) env))) (fun vs s₁ => wpAny (model PG w) A (evalAll ((backToKw pos (keywordEach kws env)).map (·.2)))
      (fun ks s₂ => (hd.heap_39 w.params).In s₂.heap ∧ wpAny (model PG w) A (call (.ref f) (first ++ vs) (((backToKw pos (keywordEach kws env)).filterMap (·.1)).zip ks)) Q E s₂) E s₁) E s) :
    wpAny (model PG w) A (callWith pos (.ref f) first (backTo pos (starEach (e :: rest) env)) (backToKw pos (keywordEach kws env))) Q E s := callWith_KW C.X hk hall hq hplain he
theorem rCWKW0 {first : List Value} {kws : List Keyword} {Q : Value → Shared → Prop} (C : Cx w A env h₀ n) (hk : keepIn (hd.heap_39 w.params) (.ref f) = true)
    (hall : (backToKw pos (keywordEach kws env)).all (·.1.isSome) = true) (hplain : ((backTo pos (starEach [] env)).any (·.1) || (backToKw pos (keywordEach kws env)).any (·.1.isNone)) = false)
    (hq : wpAny (model PG w) A (evalAll ((backToKw pos (keywordEach kws env)).map (·.2)))
      (fun ks s₂ => (hd.heap_39 w.params).In s₂.heap ∧ wpAny (model PG w) A (call (.ref f) (first ++ []) (((backToKw pos (keywordEach kws env)).filterMap (·.1)).zip ks)) Q E s₂) E s) :
    wpAny (model PG w) A (callWith pos (.ref f) first (backTo pos (starEach [] env)) (backToKw pos (keywordEach kws env))) Q E s := callWith_KW0 C.X hk hall hq hplain
theorem rCWB {id : String} {first : List Value} {e : Expr} {rest : List Expr} {Q : Value → Shared → Prop} (he : starEach (e :: rest) env = (false, eval e env) :: starEach rest env) (hplain : (backTo pos (starEach rest env)).any (·.1) = false)
    (hq : wpAny (model PG w) A (spliced (backTo pos (starEach (e :: rest) env))) (fun vs s₁ => wpAny (model PG w) A (call (.builtin id) (first ++ vs)) Q E s₁) E s) :
    wpAny (model PG w) A (callWith pos (.builtin id) first (backTo pos (starEach (e :: rest) env)) []) Q E s := by
  rw [he] at hq ⊢
  exact callWith_of (P := fun _ => True) (by show ((false || (backTo pos (starEach rest env)).any (·.1)) || false) = false; rw [hplain]; rfl) (fun _ _ => ⟨.machine, .inr (.inl rfl), Looks.of_pure rfl⟩) (evalArgs_plain (wpAny_mono hq (fun _ _ q => ⟨trivial, q⟩) fun _ _ e => e))
/-- append to a list of the ledger -/
theorem rApp {ys : List Value} {e : Nat} {x : Value} {L : Addr} {news' : Obj → List (Addr × Obj)} {Q : Value → Shared → Prop} (D : Led h₀ L m h news) (u : UpdG a (lstO ys e) news news') (hsz : ys.length < 1000000)
    (hq : ∀ h', Led h₀ L m h' (news' (lstO (ys ++ [x]) (e + 1))) → Q .none ⟨h', g, d, t, os⟩) : wpAny (model PG w) A (call (.builtin "list.append") [.ref a, x]) Q E ⟨h, g, d, t, os⟩ := by
  refine append_at (s := ⟨h, g, d, t, os⟩) (its := ys.toArray) (n := e) (D.nw _ (u.at (lstO ys e)).mem).1 (fun h' hs ho' => ?_) (by rw [List.size_toArray, sizeLine_eq]; omega)
  refine hq h' (ledUpdAt D (u.at _) hs.extBut ?_)
  simpa [lstO] using ho'
theorem UpdG.app {a : Addr} {o : Obj} {l : List (Addr × Obj)} {g : Obj → List (Addr × Obj)} (u : UpdG a o l g) : ∀ (pre : List (Addr × Obj)), UpdG a o (pre ++ l) (fun o' => pre ++ g o')
  | [] => u
  | p :: pre => .s (UpdG.app u pre)
end
end
section
open PySem.W.X (Led)
open PyProof.Rows PySem.Calls PySem.Spec
set_option pp.deepTerms false
theorem carriedAt : ∀ {vs : List Value} {ds : List PyData} {j : Nat} {v : Value}, CarriedAll vs ds → vs[j]? = some v → ∃ d, ds[j]? = some d ∧ Carried v d
  | _, _, 0, v, .cons h _, e => by cases e; exact ⟨_, rfl, h⟩
  | _, _, j + 1, v, .cons _ r, e => carriedAt (j := j) r e
def rgO (n : Int) (t u v : Tok) : Obj := { cls := .type "range", data := .fields #[.int 0 t, .int n u, .int 1 v] }
theorem rgSmall (i : Int) (h0 : 0 ≤ i) (h1 : i < 1000000) : Builtin.Range.small 0 i 1 = true ∧ (Builtin.Range.rangeSize 0 i 1 : Int) = i := by
  have e : (Builtin.Range.rangeSize 0 i 1 : Int) = i := by
    unfold Builtin.Range.rangeSize
    simp
    omega
  have hfit : ∀ j : Int, 0 ≤ j → j < 1000001 → Builtin.Range.rangeFitsLong j = true := fun j h0 h1 => by
    unfold Builtin.Range.rangeFitsLong
    simp only [Bool.and_eq_true, decide_eq_true_eq]
    omega
  refine ⟨?_, e⟩
  unfold Builtin.Range.small
  simp only [Bool.and_eq_true, e]
  refine ⟨⟨⟨⟨hfit 0 (by omega) (by omega), hfit i h0 (by omega)⟩, hfit 1 (by omega) (by omega)⟩, hfit i h0 (by omega)⟩, ?_⟩
  rw [if_pos (by decide), hfit (i + (1 - 1)) (by omega) (by omega), Bool.or_true]
section
variable {w : World} {A : Around} {env : Env} {h₀ h : Heap} {g : Array GenState} {d : Drawn} {t : Nat} {os : OsState} {m : Str → Option Value} {news : List (Addr × Obj)} {n : Nat} {E : Value → Shared → Prop} {ns gs : List Str} {vs vs' : List (Option Value)} {pos : Pos} {s : Shared}
theorem rLstD {M : Model} {es : List Expr} {Q : Value → Shared → Prop} (hq : wpAny M A (spliced (backTo pos (starEach es env))) (fun vs s₁ => wpAny M A (newList vs) Q E s₁) E s) : wpAny M A (eval (.List es pos) env) Q E s := by
  show wpAny M A (do standAt pos; newList (← spliced (backTo pos (starEach es env)))) Q E s
  exact wpAny_bind (wpAny_standAt (wpAny_bind hq))
theorem rNewL {ys : List Value} {Q : Value → Shared → Prop} (D : Led h₀ env.locals m h news) (hz : ys.length < 1000000) (hq : ∀ a h', Led h₀ env.locals m h' ((a, lstO ys 0) :: news) → Q (.ref a) ⟨h', g, d, t, os⟩) : wpAny (model PG w) A (newList ys) Q E ⟨h, g, d, t, os⟩ :=
  newList_K (s := ⟨h, g, d, t, os⟩) D.fr D.nw (fun a h' F N lt => hq a h' (ledCons D F N lt)) (by rw [sizeLine_eq]; omega)
theorem rRange {i : Int} {ti : Tok} {Q : Value → Shared → Prop} (D : Led h₀ env.locals m h news) (hq : ∀ rg h' t' u v, Led h₀ env.locals m h' ((rg, rgO i u ti v) :: news) → Q (.ref rg) ⟨h', g, d, t', os⟩) : wpAny (model PG w) A (call (.type "range") [.int i ti]) Q E ⟨h, g, d, t, os⟩ := by
  refine call_range_1 (s := ⟨h, g, d, t, os⟩) ?_
  exact hq _ _ _ _ _ (ledPushed D (.inr trivial) (Heap.get?_push_size _ rfl) fun b o e => Heap.get?_push_of_some _ e)
theorem rItRange {i : Int} {u ti v : Tok} {rg : Addr} {Q : Value → Shared → Prop} (D : Led h₀ env.locals m h news) (hm : (rg, rgO i u ti v) ∈ news) (h0 : 0 ≤ i) (h1 : i < 1000000)
    (hq : ∀ I oI h' Ct P, ItG w I Ct i.toNat (fun i v => ∃ t, v = .int (i : Int) t) P → P 0 oI → (∀ h, (∀ p ∈ news, h.get? p.1 = some p.2) → Ct h) → Led h₀ env.locals m h' ((I, oI) :: news) → Q (.ref I) ⟨h', g, d, t, os⟩) : wpAny (model PG w) A (pyIter (.ref rg)) Q E ⟨h, g, d, t, os⟩ := by
  obtain ⟨hs, e⟩ := rgSmall i h0 h1
  refine wpAny_pyIter_range (s := ⟨h, g, d, t, os⟩) (D.nw _ hm).1 hs ?_
  refine hq _ (rngO 0 i) _ (fun _ => True) (fun j o => o = rngO (j : Int) ((i.toNat : Int) - (j : Int))) (ItG.range w _ i.toNat) ?_ (fun _ _ => trivial) (ledPushed D (.inr trivial) ?_ fun b o e => Heap.get?_push_of_some _ e)
  · show rngO 0 i = rngO _ _
    congr 1
    omega
  · refine (Heap.get?_push_size _ rfl).trans ?_
    rw [e]; rfl
/-- list(range(n)) -/
theorem rListRange {i : Int} {u ti v : Tok} {rg : Addr} {Q : Value → Shared → Prop} (C : Cx w A env h₀ n) (D : Led h₀ env.locals m h news) (hm : (rg, rgO i u ti v) ∈ news) (h0 : 0 ≤ i) (h1 : i ≤ 4)
    (hq : ∀ l h' t' ys e, Led h₀ env.locals m h' ((l, lstO ys e) :: news) → IntsN ys (List.range i.toNat) → Q (.ref l) ⟨h', g, d, t', os⟩) : wpAny (model PG w) A (call (.type "list") [.ref rg]) Q E ⟨h, g, d, t, os⟩ := by
  obtain ⟨hs, e⟩ := rgSmall i h0 (by omega)
  refine list_rangeD (s := ⟨h, g, d, t, os⟩) (n := i.toNat) C.hand D.fr D.nw (D.nw _ hm).1 hs (by rw [e]; omega) (by omega) fun h' tk ys F N hk h0 hl hp hc => ?_
  obtain ⟨⟨k, hd⟩, _⟩ := hp
  refine hq _ h' tk ys k (ledPushed D (.inr trivial) hd hk) ⟨?_, fun j v hj => ?_⟩
  · have := hc.length_eq
    rw [this, List.length_map, rangeInts_length, List.length_range]
  · obtain ⟨d, hd2, hc2⟩ := carriedAt hc hj
    have hjl : j < i.toNat := by
      have := (List.getElem?_eq_some_iff.mp hj).1
      rw [hc.length_eq, List.length_map, rangeInts_length] at this
      exact this
    rw [List.getElem?_map, rangeInts_get hjl] at hd2
    cases hd2
    cases hc2
    rename_i tk0
    exact ⟨tk0, j, by rw [List.getElem?_range hjl], by omega, by simp⟩
theorem rStrI {i : Int} {ti : Tok} {Q : Value → Shared → Prop} (h0 : 0 ≤ i) (h1 : i ≤ 4) (hq : ∀ tk t', Q (.str (toString i) tk) ⟨h, g, d, t', os⟩) : wpAny (model PG w) A (call (.type "str") [.int i ti]) Q E ⟨h, g, d, t, os⟩ := by
  refine P.str_of_int (s := ⟨h, g, d, t, os⟩) ?_ (hq _ _)
  have : i = 0 ∨ i = 1 ∨ i = 2 ∨ i = 3 ∨ i = 4 := by omega
  rcases this with rfl | rfl | rfl | rfl | rfl <;> decide +kernel
end
end
section
open PySem.W.X (Led)
open PyProof.Rows PySem.Calls PySem.Spec
section
variable {w : World} {A : Around} {env : Env} {h₀ h : Heap} {g : Array GenState} {d : Drawn} {t : Nat} {os : OsState} {m : Str → Option Value} {news : List (Addr × Obj)} {n : Nat} {E Q : Value → Shared → Prop} {a : Addr} {oa : Obj} {vs : List Value}
theorem rLenS (C : Cx w A env h₀ n) (D : Led h₀ env.locals m h news) (hm : (a, oa) ∈ news) (S : SrcO w a oa vs) (hz : vs.length < 1000000) (hq : ∀ tk t', Q (.int (vs.length : Int) tk) ⟨h, g, d, t', os⟩) :
    wpAny (model PG w) A (call (.builtin "len") [.ref a]) Q E ⟨h, g, d, t, os⟩ := by
  have ho := (D.nw _ hm).1
  have X := C.X.keeps D.fr.keep
  cases S with
  | list e1 e2 =>
    refine call_len_list (s := ⟨h, g, d, t, os⟩) ⟨oa, ho, e1, _, e2⟩ (by simp only [List.size_toArray]; omega) ?_
    exact hq _ _
  | tup e1 e2 =>
    refine len_tuple (s := ⟨h, g, d, t, os⟩) ⟨oa, ho, e1, _, e2⟩ (by simp only [List.size_toArray]; omega) ?_
    exact hq _ _
  | set e1 e2 =>
    subst e1; subst e2
    refine len4 (s := ⟨h, g, d, t, os⟩) (SetLike.set ho) ho fun tk t' => ?_
    rw [← ordW_len w a]; exact hq _ _
  | cs e1 e2 =>
    subst e1; subst e2
    refine len4 (s := ⟨h, g, d, t, os⟩) (SetLike.cs X ho) ho fun tk t' => ?_
    rw [← ordW_len w a]; exact hq _ _
end
theorem holds_len {x : S4} {ns : List Nat} (h : Holds4 x ns) (hn : ns.Nodup) (h4 : ∀ u ∈ ns, u < 4) : x.vs.length = ns.length := by
  rw [h.vs]
  have hp : ([0, 1, 2, 3].filter (fun v => decide (v ∈ ns))).Perm ns := by
    refine (List.perm_ext_iff_of_nodup ?_ hn).mpr fun u => ?_
    · exact List.Pairwise.filter _ (by decide : [0, 1, 2, 3].Nodup)
    · rw [List.mem_filter, decide_eq_true_eq]
      constructor
      · exact fun q => q.2
      · intro q
        have := h4 u q
        exact ⟨by simp; omega, q⟩
  exact hp.length_eq
theorem IntsN.lt {vs : List Value} {ns : List Nat} (h : IntsN vs ns) : ∀ u ∈ ns, u < 4 := by
  intro u hu
  obtain ⟨i, hi⟩ := List.getElem?_of_mem hu
  have hlt : i < vs.length := by rw [h.1]; exact (List.getElem?_eq_some_iff.mp hi).1
  obtain ⟨t, u', h1, h2, _⟩ := h.2 i _ (List.getElem?_eq_getElem hlt)
  rw [hi] at h1; cases h1; exact h2
end
section
open PySem.W.X (Led)
open PyProof.Rows PySem.Calls PySem.Spec
set_option pp.deepTerms false
theorem oIsNN {M : Model} {A : Around} {E : Value → Shared → Prop} {s : Shared} {Q : Value → Shared → Prop} (h : Q (.bool false) s) : wpAny M A (compareOp .IsNot .none .none) Q E s := wpAny_isNot_plain rfl h
/-- CandidateSet(source) -/
theorem csSpec (w : World) (a : Addr) (oa : Obj) (vs : List Value) (nsl : List Nat) : TSpecG gk g0 w (call (.ref 75) [.ref a]) 24 (fun dyn => (a, oa) ∈ dyn ∧ SrcO w a oa vs ∧ IntsN vs nsl ∧ nsl.Nodup)
    (fun _ r tl => ∃ x dx x' ep, r = .ref x ∧ tl = [(x, setO w (.ref 75) (some dx) x' ep), (dx, emptyDict)] ∧ Holds4 x' nsl) := by
  rintro A env h₀ m dyn T h g d t os Q E C G hT D ⟨hm, S, hi, hnd⟩ hret
  refine wpAny_call (csMake (C.X.keeps D.fr.keep) ?_)
  have D1 := led_push (led_push D emptyDict rfl) (setO w (.ref 75) (some h.objs.size) S4.nil 0) rfl
  rw [Heap.size_push] at D1
  generalize hxe : h.objs.size + 1 = x at D1 ⊢
  generalize h.objs.size = dx at D1 hxe ⊢
  k_dflt (refine' enterS (n1 := "self") (n2 := "candidates") (n3 := "num_cand") (v1 := .ref x) (v2 := .ref a) (v3 := .none) ["cand"] ["super", "len", "ValueError", "isinstance", "int", "TypeError", "str", "type", "all", "any"] (C.make 75 _ _) D1 ?z1 ?z2 ?z3 ?z4 ?z5 ?z6 ?z7 ?z8 ?z9 ?z10 ?_)
  (case z1 => k_is); (case z2 => k_is); (case z3 => (intro hK; exact binds_K hK rfl (by k_is) rfl rfl rfl)); (case z4 => decide); (case z5 => kernel_rfl!); (case z6 => rfl); (case z7 => intro k; rfl); (case z8 => intro h; rfl); (case z9 => exact rfl); (case z10 => exact rfl)
  intro A' L' env' g' h1 t' Q' ocl C' he fl D' hocl hlt hQ
  dsimp only [List.map] at fl D'
  refine ks_wpAt_execs_cons (ks_wpAt_Expr_any (ks_wpAt_MethodCall (superBase C' he fl D' (by kaf_pre) (by kat_tups) rfl rfl fun so h2 D2 => ?_)) (hi := by rw [he]; rfl))
  have X2 := C'.X.keeps D2.fr.keep
  refine superMeth X2 (D2.nw _ (.head _)).1 (D2.nw (x, setO w (.ref 75) (some dx) S4.nil 0) (by kat_tups)).1 ?_
  have D3 := led_push D2 (mwObj x) rfl
  generalize h2.objs.size = mw at D3 ⊢
  generalize h2.push (mwObj x) = h3 at D3 ⊢
  dsimp only
  refine rCallMw (x := x) (by with_unfolding_all rfl) (by with_unfolding_all rfl) ?_
  kcf_all
  refine And.intro (D3.nw _ (.head _)).1 ?_
  have hx3 := (D3.nw (x, setO w (.ref 75) (some dx) S4.nil 0) (by kat_tups)).1
  have ha3 := (D3.nw (a, oa) (by refine .tail _ (.tail _ (.tail _ (.tail _ (.tail _ (List.mem_append_left _ hm))))))).1
  have hxa : x ≠ a := fun q => by
    have := D1.ord
    rw [List.map_cons, List.pairwise_cons] at this
    have := this.1 a (by rw [List.map_cons]; exact List.mem_cons_of_mem _ (List.mem_map_of_mem (List.mem_append_left _ hm)))
    exact Nat.lt_irrefl _ (q ▸ this)
  have Z3 := S.src (C'.X.keeps D3.fr.keep) ha3
  refine callMw (S := x) C'.hand (C'.X.keeps D3.fr.keep) (D3.nw _ (.head _)).1 hx3 hxa Z3 hi fun h4 t4 e4 x' f1 f2 f3 => ?_
  have D4 := ledAt (pre := [_, _, _]) (I := x) (post := (dx, emptyDict) :: (dyn ++ T.l)) D3 f3 f1
  dsimp only [List.cons_append, List.nil_append] at D4
  refine wpAt_of_wpAny ?_
  have hlen : nsl.length = x'.vs.length := (holds_len f2 hnd hi.lt).symm
  have hsm : vs.length < 1000000 := by rw [hi.1, hlen]; have := x'.len4; omega
  have hxm : (x, setO w (.ref 75) (some dx) x' e4) ∈ (mw, mwObj x) :: (so, ks_superObj 75 x 75) :: (L' + 1, ocl) :: (x, setO w (.ref 75) (some dx) x' e4) :: (dx, emptyDict) :: (dyn ++ T.l) := by kat_tups
  have ham : (a, oa) ∈ (mw, mwObj x) :: (so, ks_superObj 75 x 75) :: (L' + 1, ocl) :: (x, setO w (.ref 75) (some dx) x' e4) :: (dx, emptyDict) :: (dyn ++ T.l) := .tail _ (.tail _ (.tail _ (.tail _ (.tail _ (List.mem_append_left _ hm)))))
  clear ha3 hx3 Z3 D3 D2 D1 D X2
  obtain ⟨M, hM⟩ : ∃ M, M = (mw, mwObj x) :: (so, ks_superObj 75 x 75) :: (L' + 1, ocl) :: (x, setO w (.ref 75) (some dx) x' e4) :: (dx, emptyDict) :: dyn := ⟨_, rfl⟩
  have eM : (mw, mwObj x) :: (so, ks_superObj 75 x 75) :: (L' + 1, ocl) :: (x, setO w (.ref 75) (some dx) x' e4) :: (dx, emptyDict) :: (dyn ++ T.l) = M ++ T.l := by rw [hM]; rfl
  rw [eM] at D4 hxm ham
  have haM : (a, oa) ∈ M := by rw [hM]; exact .tail _ (.tail _ (.tail _ (.tail _ (.tail _ hm))))
  kcf_all
  refine rLenS C' D4 ham S hsm fun tk1 t5 => ?_
  kcf_all
  refine rLenS C' D4 hxm (.cs rfl rfl) (by rw [ordW_len]; have := x'.len4; omega) fun tk2 t6 => ?_
  kcf_all
  refine Br.n (by rw [ordW_len, ← hlen, ← hi.1]; simp) ?_
  kcf_all
  refine rFor4 (d := d) (os := os) C' (fun _ => by rfl) (rLoc C' fl D4 (by kaf_pre) ?_)
  refine ⟨a, oa, vs, _, _, _, (fun i v pre post g1 => g1 = g ∧ pre = [] ∧ post = M ++ T.l ∧ ∃ c, v = [some (.ref x), some (.ref a), c]), _, _, _, rfl, rfl, S, ham, D4, ⟨rfl, rfl, rfl, none, rfl⟩, ?_, ?_, ?_⟩
  · rintro i v pre post g1 ⟨rfl, rfl, rfl, _⟩
    exact ham
  · rintro I P i hil vs1 pre post o g1 h5 t7 ⟨rfl, rfl, rfl, c, rfl⟩ Dj hP
    dsimp only [List.nil_append] at Dj
    obtain ⟨tk, u, h1, h2, e⟩ := hi.2 i _ (List.getElem?_eq_getElem hil)
    rw [e]
    refine wpAny_assign_Name (rSto C' fl Dj (by kaf_suf) fun h6 t8 D6 => ?_)
    kcf_all
    refine FEnd.mk [] _ D6 hP ?_
    exact ⟨rfl, rfl, rfl, _, rfl⟩
  rintro vs1 pre post g1 h5 t7 ⟨rfl, rfl, rfl, c, rfl⟩ D7
  dsimp only [List.nil_append] at D7
  kcf_all
  have hroom : A'.depth < recursionLimit := Nat.lt_of_le_of_lt (Nat.le_add_right _ _) C'.room
  have Z7 := S.src (C'.X.keeps D7.fr.keep) (D7.nw _ ham).1
  refine rGen (F := fun _ r => r = .bool true) C' fl D7 G hT (c := 56) (P := 52) (by rw [he]) (.inr (.inr ⟨rfl, rfl⟩)) rfl (cl := []) (by rfl) (by decide) rfl rfl rfl hroom (by kaf_pre) Z7 ?_ ?_
  · rintro code C2 A2 E2 v ⟨hu, gu, du, tu, ou⟩ m₂ hh hdp hun hv hns hmx hk
    obtain ⟨i, hil⟩ := List.getElem?_of_mem hv
    obtain ⟨tk, u, h1, h2, rfl⟩ := hi.2 i v hil
    refine wpAny_Compare1 (wpAny_Name (wpAny_loadName_local rfl rfl hns hmx ?_) (by decide)) (by with_unfolding_all rfl)
    refine wpAny_Constant_int (P.ge_int ⟨?_, hu, _, rfl, fun _ _ e => e⟩)
    exact congrArg Value.bool (decide_eq_true (Int.natCast_nonneg u))
  intro r2 T2 g2 h8 t8 K2 G2 hT2 D8 hK2 hL2 X8
  kcf_all
  refine rAllG D8 G2 hL2 hK2 X8 (fun _ => true) (fun j v hv => by obtain ⟨_, _, e⟩ := hv; exact e) fun g3 h9 t9 G3 D9 => ?_
  kcf_all
  refine Br.n (by simp) ?_
  kcf_all
  have hcl9 : (L' + 1, ocl) ∈ M ++ T2.l := by rw [hM]; exact .tail _ (.tail _ (.head _))
  refine wpAny_Name (wpAny_loadName_cell (c := L' + 1) C'.kind (by rw [he]; rfl) (by rw [he]; rfl) ⟨ocl, (D9.nw _ hcl9).1, hocl⟩ ?_) (by decide)
  kcf_all
  refine oIsNN ?_
  kcf_all
  refine hQ _ _ _ _ _ _ D9 fun D10 => ⟨rfl, ?_⟩
  rw [hM] at D10
  exact hret (.ref x) [(x, setO w (.ref 75) (some dx) x' e4), (dx, emptyDict)] T2 g3 h9 t9 G3 hT2 (ledApp (t := [_, _, _]) D10) ⟨x, dx, x', e4, rfl, rfl, f2⟩
end
section
open PySem.W.X (Led)
open PyProof.Rows PySem.Calls PySem.Spec
set_option pp.deepTerms false
theorem oIsIN {M : Model} {A : Around} {E : Value → Shared → Prop} {s : Shared} {i : Int} {tk : Tok} {Q : Value → Shared → Prop} (h : Q (.bool true) s) : wpAny M A (compareOp .IsNot (.int i tk) .none) Q E s := wpAny_isNot_plain rfl h
/-- CandidateSet(source, num_cand=..) -/
theorem csSpecK (w : World) (a : Addr) (oa : Obj) (vs : List Value) (nsl : List Nat) (nc : Value) : TSpecG gk g0 w (call (.ref 75) [.ref a] [("num_cand", nc)]) 24 (fun dyn => (a, oa) ∈ dyn ∧ SrcO w a oa vs ∧ IntsN vs nsl ∧ nsl.Nodup ∧ (nc = .none ∨ ∃ (k : Nat) (tk : Tok), nc = .int (k : Int) tk ∧ ∀ u ∈ nsl, u < k))
    (fun _ r tl => ∃ x dx x' ep, r = .ref x ∧ tl = [(x, setO w (.ref 75) (some dx) x' ep), (dx, emptyDict)] ∧ Holds4 x' nsl) := by
  rintro A env h₀ m dyn T h g d t os Q E C G hT D ⟨hm, S, hi, hnd, hnc⟩ hret
  refine wpAny_call (csMake (C.X.keeps D.fr.keep) ?_)
  have D1 := led_push (led_push D emptyDict rfl) (setO w (.ref 75) (some h.objs.size) S4.nil 0) rfl
  rw [Heap.size_push] at D1
  generalize hxe : h.objs.size + 1 = x at D1 ⊢
  generalize h.objs.size = dx at D1 hxe ⊢
  k_dflt (refine' enterS (n1 := "self") (n2 := "candidates") (n3 := "num_cand") (v1 := .ref x) (v2 := .ref a) (v3 := nc) ["cand"] ["super", "len", "ValueError", "isinstance", "int", "TypeError", "str", "type", "all", "any"] (C.make 75 _ _) D1 ?z1 ?z2 ?z3 ?z4 ?z5 ?z6 ?z7 ?z8 ?z9 ?z10 ?_)
  (case z1 => k_is); (case z2 => k_is); (case z3 => (intro hK; exact binds_K hK rfl (by k_is) rfl rfl rfl)); (case z4 => decide); (case z5 => kernel_rfl!); (case z6 => rfl); (case z7 => intro k; rfl); (case z8 => intro h; rfl); (case z9 => exact rfl); (case z10 => exact rfl)
  intro A' L' env' g' h1 t' Q' ocl C' he fl D' hocl hlt hQ
  dsimp only [List.map] at fl D'
  refine ks_wpAt_execs_cons (ks_wpAt_Expr_any (ks_wpAt_MethodCall (superBase C' he fl D' (by kaf_pre) (by kat_tups) rfl rfl fun so h2 D2 => ?_)) (hi := by rw [he]; rfl))
  have X2 := C'.X.keeps D2.fr.keep
  refine superMeth X2 (D2.nw _ (.head _)).1 (D2.nw (x, setO w (.ref 75) (some dx) S4.nil 0) (by kat_tups)).1 ?_
  have D3 := led_push D2 (mwObj x) rfl
  generalize h2.objs.size = mw at D3 ⊢
  generalize h2.push (mwObj x) = h3 at D3 ⊢
  dsimp only
  refine rCallMw (x := x) (by with_unfolding_all rfl) (by with_unfolding_all rfl) ?_
  kcf_all
  refine And.intro (D3.nw _ (.head _)).1 ?_
  have hx3 := (D3.nw (x, setO w (.ref 75) (some dx) S4.nil 0) (by kat_tups)).1
  have ha3 := (D3.nw (a, oa) (by refine .tail _ (.tail _ (.tail _ (.tail _ (.tail _ (List.mem_append_left _ hm))))))).1
  have hxa : x ≠ a := fun q => by
    have := D1.ord
    rw [List.map_cons, List.pairwise_cons] at this
    have := this.1 a (by rw [List.map_cons]; exact List.mem_cons_of_mem _ (List.mem_map_of_mem (List.mem_append_left _ hm)))
    exact Nat.lt_irrefl _ (q ▸ this)
  have Z3 := S.src (C'.X.keeps D3.fr.keep) ha3
  refine callMw (S := x) C'.hand (C'.X.keeps D3.fr.keep) (D3.nw _ (.head _)).1 hx3 hxa Z3 hi fun h4 t4 e4 x' f1 f2 f3 => ?_
  have D4 := ledAt (pre := [_, _, _]) (I := x) (post := (dx, emptyDict) :: (dyn ++ T.l)) D3 f3 f1
  dsimp only [List.cons_append, List.nil_append] at D4
  refine wpAt_of_wpAny ?_
  have hlen : nsl.length = x'.vs.length := (holds_len f2 hnd hi.lt).symm
  have hsm : vs.length < 1000000 := by rw [hi.1, hlen]; have := x'.len4; omega
  have hxm : (x, setO w (.ref 75) (some dx) x' e4) ∈ (mw, mwObj x) :: (so, ks_superObj 75 x 75) :: (L' + 1, ocl) :: (x, setO w (.ref 75) (some dx) x' e4) :: (dx, emptyDict) :: (dyn ++ T.l) := by kat_tups
  have ham : (a, oa) ∈ (mw, mwObj x) :: (so, ks_superObj 75 x 75) :: (L' + 1, ocl) :: (x, setO w (.ref 75) (some dx) x' e4) :: (dx, emptyDict) :: (dyn ++ T.l) := .tail _ (.tail _ (.tail _ (.tail _ (.tail _ (List.mem_append_left _ hm)))))
  clear ha3 hx3 Z3 D3 D2 D1 D X2
  obtain ⟨M, hM⟩ : ∃ M, M = (mw, mwObj x) :: (so, ks_superObj 75 x 75) :: (L' + 1, ocl) :: (x, setO w (.ref 75) (some dx) x' e4) :: (dx, emptyDict) :: dyn := ⟨_, rfl⟩
  have eM : (mw, mwObj x) :: (so, ks_superObj 75 x 75) :: (L' + 1, ocl) :: (x, setO w (.ref 75) (some dx) x' e4) :: (dx, emptyDict) :: (dyn ++ T.l) = M ++ T.l := by rw [hM]; rfl
  rw [eM] at D4 hxm ham
  have haM : (a, oa) ∈ M := by rw [hM]; exact .tail _ (.tail _ (.tail _ (.tail _ (.tail _ hm))))
  kcf_all
  refine rLenS C' D4 ham S hsm fun tk1 t5 => ?_
  kcf_all
  refine rLenS C' D4 hxm (.cs rfl rfl) (by rw [ordW_len]; have := x'.len4; omega) fun tk2 t6 => ?_
  kcf_all
  refine Br.n (by rw [ordW_len, ← hlen, ← hi.1]; simp) ?_
  kcf_all
  refine rFor4 (d := d) (os := os) C' (fun _ => by rfl) (rLoc C' fl D4 (by kaf_pre) ?_)
  refine ⟨a, oa, vs, _, _, _, (fun i v pre post g1 => g1 = g ∧ pre = [] ∧ post = M ++ T.l ∧ ∃ c, v = [some (.ref x), some (.ref a), c]), _, _, _, rfl, rfl, S, ham, D4, ⟨rfl, rfl, rfl, none, rfl⟩, ?_, ?_, ?_⟩
  · rintro i v pre post g1 ⟨rfl, rfl, rfl, _⟩
    exact ham
  · rintro I P i hil vs1 pre post o g1 h5 t7 ⟨rfl, rfl, rfl, c, rfl⟩ Dj hP
    dsimp only [List.nil_append] at Dj
    obtain ⟨tk, u, h1, h2, e⟩ := hi.2 i _ (List.getElem?_eq_getElem hil)
    rw [e]
    refine wpAny_assign_Name (rSto C' fl Dj (by kaf_suf) fun h6 t8 D6 => ?_)
    kcf_all
    refine FEnd.mk [] _ D6 hP ?_
    exact ⟨rfl, rfl, rfl, _, rfl⟩
  rintro vs1 pre post g1 h5 t7 ⟨rfl, rfl, rfl, c, rfl⟩ D7
  dsimp only [List.nil_append] at D7
  kcf_all
  have hroom : A'.depth < recursionLimit := Nat.lt_of_le_of_lt (Nat.le_add_right _ _) C'.room
  have Z7 := S.src (C'.X.keeps D7.fr.keep) (D7.nw _ ham).1
  refine rGen (F := fun _ r => r = .bool true) C' fl D7 G hT (c := 56) (P := 52) (by rw [he]) (.inr (.inr ⟨rfl, rfl⟩)) rfl (cl := []) (by rfl) (by decide) rfl rfl rfl hroom (by kaf_pre) Z7 ?_ ?_
  · rintro code C2 A2 E2 v ⟨hu, gu, du, tu, ou⟩ m₂ hh hdp hun hv hns hmx hk
    obtain ⟨i, hil⟩ := List.getElem?_of_mem hv
    obtain ⟨tk, u, h1, h2, rfl⟩ := hi.2 i v hil
    refine wpAny_Compare1 (wpAny_Name (wpAny_loadName_local rfl rfl hns hmx ?_) (by decide)) (by with_unfolding_all rfl)
    refine wpAny_Constant_int (P.ge_int ⟨?_, hu, _, rfl, fun _ _ e => e⟩)
    exact congrArg Value.bool (decide_eq_true (Int.natCast_nonneg u))
  intro r2 T2 g2 h8 t8 K2 G2 hT2 D8 hK2 hL2 X8
  kcf_all
  refine rAllG D8 G2 hL2 hK2 X8 (fun _ => true) (fun j v hv => by obtain ⟨_, _, e⟩ := hv; exact e) fun g3 h9 t9 G3 D9 => ?_
  kcf_all
  refine Br.n (by simp) ?_
  kcf_all
  have hcl9 : (L' + 1, ocl) ∈ M ++ T2.l := by rw [hM]; exact .tail _ (.tail _ (.head _))
  refine wpAny_Name (wpAny_loadName_cell (c := L' + 1) C'.kind (by rw [he]; rfl) (by rw [he]; rfl) ⟨ocl, (D9.nw _ hcl9).1, hocl⟩ ?_) (by decide)
  kcf_all
  have fin : ∀ (T2 : Tabs) g3 h9 t9, GB gk g0 g3 → T2.ok → Led g' env'.locals (vec [Str.ofString "self", Str.ofString "candidates", Str.ofString "cand"] [some (Value.ref x), some (Value.ref a), c]) h9 (M ++ T2.l) → Q' Flow.next ⟨h9, g3, d, t9, os⟩ := fun T2 g3 h9 t9 G3 hT2 D9 => by
    refine hQ _ _ _ _ _ _ D9 fun D10 => ⟨rfl, ?_⟩
    rw [hM] at D10
    exact hret (.ref x) [(x, setO w (.ref 75) (some dx) x' e4), (dx, emptyDict)] T2 g3 h9 t9 G3 hT2 (ledApp (t := [_, _, _]) D10) ⟨x, dx, x', e4, rfl, rfl, f2⟩
  rcases hnc with rfl | ⟨k, tk3, rfl, hk4⟩
  · refine oIsNN ?_
    kcf_all
    exact fin _ _ _ _ G3 hT2 D9
  · refine oIsIN ?_
    kcf_all
    have Z9 := S.src (C'.X.keeps D9.fr.keep) (D9.nw _ (List.mem_append_left _ haM)).1
    have hne : L' + 1 ≠ 52 := fun q => by
      have := D9.ord
      rw [List.map_append, List.pairwise_append] at this
      have := this.2.2 (L' + 1) (List.mem_map_of_mem (f := Prod.fst) (by rw [hM]; exact .tail _ (.tail _ (.head _)) : (L' + 1, ocl) ∈ M)) 52 (List.mem_map_of_mem (f := Prod.fst) (Tabs.mem (T := T2) (.inr (.inr rfl))))
      rw [q] at this; exact Nat.lt_irrefl _ this
    refine rGen (F := fun _ r => r = .bool false) C' fl D9 G3 hT2 (c := 56) (P := 52) (by rw [he]) (.inr (.inr ⟨rfl, rfl⟩)) rfl (cl := [("num_cand", L' + 1)]) (by rw [he]; rfl) (by decide) rfl rfl rfl hroom (by kaf_pre) Z9 ?_ ?_
    · rintro code C2 A2 E2 v ⟨hu, gu, du, tu, ou⟩ m₂ hh hdp hun hv hns hmx hk
      obtain ⟨i, hil⟩ := List.getElem?_of_mem hv
      obtain ⟨tk, u, h1, h2, rfl⟩ := hi.2 i v hil
      refine wpAny_Compare1 (wpAny_Name (wpAny_loadName_local rfl rfl hns hmx ?_) (by decide)) (by with_unfolding_all rfl)
      refine wpAny_Name (wpAny_loadName_free (c := L' + 1) rfl rfl rfl ⟨ocl, hk _ _ hne (D9.nw _ hcl9).1, hocl⟩ ?_) (by decide)
      refine P.ge_int ⟨?_, hu, _, rfl, fun _ _ e => e⟩
      have hu4 := hk4 u (List.mem_of_getElem? h1)
      exact congrArg Value.bool (decide_eq_false (by omega))
    intro r3 T3 g4 h10 t10 K3 G4 hT3 D11 hK3 hL3 X9
    kcf_all
    refine rAnyG D11 G4 hL3 hK3 X9 (fun _ => false) (fun j v hv => by obtain ⟨_, _, e⟩ := hv; exact e) fun g5 h12 t12 G5 D12 => ?_
    kcf_all
    refine Br.n (by simp) ?_
    kcf_all
    exact fin _ _ _ _ G5 hT3 D12
end
section
open PySem.W.X (Led)
open PyProof.Rows PySem.Calls PySem.Spec
set_option pp.deepTerms false
section
variable {w : World} {A : Around} {env : Env} {h₀ h : Heap} {g : Array GenState} {d : Drawn} {t : Nat} {os : OsState} {m : Str → Option Value} {news : List (Addr × Obj)} {n : Nat} {ns gs : List Str} {vs vs' : List (Option Value)} {x : Str} {v : Value} {pos xp : Pos} {E : Value → Shared → Prop}
theorem keptLed {h₀ : Heap} {L : Addr} {m : Str → Option Value} {news : List (Addr × Obj)} : KeptH (fun h => Led h₀ L m h news) := fun _ _ D => led_keeps D fun _ _ e => Heap.get?_push_of_some _ e
theorem rSliNS {sv : Str} {ts : Tok} {j : Int} {k : Nat} {p1 p2 : Pos} {Q : Value → Shared → Prop} (C : Cx w A env h₀ n) (fl : FnL ns gs env.scope) (D : Led h₀ env.locals (vec ns vs) h news) (h2 : At2 ns vs x (.str sv ts)) (hsz : sv.length ≤ sizeLine)
    (hq : ∀ h' tk t', Led h₀ env.locals (vec ns vs) h' news → Q (.str (Txt.slice sv none (some j)) tk) ⟨h', g, d, t', os⟩) : wpAny (model PG w) A (eval (.Subscript (.Name x xp) (.Slice none (some (.Constant (.int j) k p1)) none p2) pos) env) Q E ⟨h, g, d, t, os⟩ :=
  Subscript_Slice (rLoc C fl D h2 (wpAny_Slice (evalPart_none_step (evalPart_some_step (rCI fun tk t' => evalPart_none_step (SBH.sliceItem_ns (s := ⟨h, g, d, t', os⟩) keptLed D (fun h' tk t'' D' => hq h' tk t'' D') hsz))))))
theorem rSliSN {sv : Str} {ts : Tok} {j : Int} {k : Nat} {p1 p2 : Pos} {Q : Value → Shared → Prop} (C : Cx w A env h₀ n) (fl : FnL ns gs env.scope) (D : Led h₀ env.locals (vec ns vs) h news) (h2 : At2 ns vs x (.str sv ts)) (hsz : sv.length ≤ sizeLine)
    (hq : ∀ h' tk t', Led h₀ env.locals (vec ns vs) h' news → Q (.str (Txt.slice sv (some j) none) tk) ⟨h', g, d, t', os⟩) : wpAny (model PG w) A (eval (.Subscript (.Name x xp) (.Slice (some (.Constant (.int j) k p1)) none none p2) pos) env) Q E ⟨h, g, d, t, os⟩ :=
  Subscript_Slice (rLoc C fl D h2 (wpAny_Slice (evalPart_some_step (rCI fun tk t' => evalPart_none_step (evalPart_none_step (SBH.sliceItem_sn (s := ⟨h, g, d, t', os⟩) keptLed D (fun h' tk t'' D' => hq h' tk t'' D') hsz))))))
theorem oEqS {a b : Str} {ta tb : Tok} {Q : Value → Shared → Prop} (h : Q (.bool (a == b)) ⟨‹Heap›, g, d, t, os⟩) : wpAny (model PG w) A (compareOp .Eq (.str a ta) (.str b tb)) Q E ⟨‹Heap›, g, d, t, os⟩ := PyProof.Rows.eq_str h
end
end
section
open PySem.W.X (Led)
open PyProof.Rows PySem.Calls PySem.Spec
set_option pp.deepTerms false
theorem mro_part : mroOf (.type "functools.partial") = pure [.type "functools.partial", .type "object"] := by rw [mroOf_type]; kernel_rfl
theorem lookup_part_new : typeLookup (.type "functools.partial") "__new__" = pure (some (.builtin "functools.partial.__new__")) := by rw [typeLookup_type, builtinLookup_eq_fast]; kernel_rfl
theorem slot_part_init : Slot "functools.partial" "__init__" "object.__init__" :=
  .of (owner := "object") (n := "__init__") (by rw [typeLookup_type, builtinLookup_eq_fast]; kernel_rfl) (by decide +kernel) (by decide +kernel) (by decide +kernel)
    (by first | exact .inl (by decide +kernel) | exact .inr (by decide +kernel)) (by rw [isSubtype_type]; kernel_rfl)
theorem called_part : TypeCalled "functools.partial" "functools.partial.__new__" "object.__init__" :=
  ⟨by decide +kernel, by decide +kernel, ⟨_, _, mro_part⟩, madeBy_type mro_part lookup_part_new (by decide +kernel), by decide +kernel, by rw [isSubtype_type]; kernel_rfl, slot_part_init⟩
theorem typeCall_part (a v : Value) (k : Str) : checkTypeCall "functools.partial" ⟨[a], [(k, v)]⟩ = pure () := by kernel_rfl
theorem newCall_part (a v : Value) (k : Str) : checkBuiltinCall "functools.partial.__new__" ⟨[.type "functools.partial", a], [(k, v)]⟩ = pure () := by kernel_rfl
theorem entry_part_new : entryFor table "functools.partial.__new__" = some Builtin.«functools.partial.__new__» := entryFor_of_tree (by kernel_rfl)
theorem plain_part_new : plainId "functools.partial.__new__" = true := by decide +kernel
theorem entry_part_call : entryFor table "functools.partial.__call__" = some Builtin.«functools.partial.__call__» := entryFor_of_tree (by kernel_rfl)
theorem part_call_lookup : typeLookup (.type "functools.partial") "__call__" = pure (some (.builtin "functools.partial.__call__")) := by rw [typeLookup_type, builtinLookup_eq_fast]; kernel_rfl
theorem part_call_kind : builtinKind "functools.partial.__call__" = some .slot := by
  have hsplit : splitId "functools.partial.__call__" = some ("functools.partial", "__call__") := by decide +kernel
  have hk : builtinKind "functools.partial.__call__" = (Manifest.find? "functools.partial").bind (·.attrs.lookup "__call__") := by simp only [builtinKind, hsplit]
  rw [hk]; decide +kernel
theorem part_call_bind (self : Value) : bindSpecial (.builtin "functools.partial.__call__") self = pure (.builtin "functools.partial.__call__", [self]) := by
  have hop : withoutEnding? "functools.partial.__call__" "#opaque" = none := by decide +kernel
  have hdat : withoutEnding? "functools.partial.__call__" "#data" = none := by decide +kernel
  simp only [bindSpecial, typeOf, builtinType, hop, hdat, part_call_kind]; rfl
theorem part_call_check {M : Model} {A : Around} {E : Value → Shared → Prop} {s : Shared} {self v : Value} {Q : Unit → Shared → Prop} (hT : s.TypeIs self "functools.partial") (hQ : Q () s) : wpAny M A (checkBuiltinCall "functools.partial.__call__" ⟨[self, v], []⟩) Q E s := by
  have hsplit : splitId "functools.partial.__call__" = some ("functools.partial", "__call__") := by decide +kernel
  have hsub : isSubtype (.type "functools.partial") (.type "functools.partial") = pure true := by rw [isSubtype_type]; kernel_rfl
  simp only [checkBuiltinCall, part_call_kind, hsplit]
  refine wpAny_bind (wpAny_isInstance hT hsub ?_)
  simp only [Bool.not_true, Bool.false_eq_true, if_false]
  have ha : argsOk "functools.partial.__call__" ⟨[self, v], []⟩ := by unfold argsOk; kernel_rfl
  cases hsig : Manifest.signature? "functools.partial.__call__" with
  | none => exact wpAny_pure hQ
  | some sig =>
    simp only [argsOk, hsig] at ha
    have h2 : Bind.checkArgs "functools.partial.__call__" sig ⟨[self, v], []⟩ = pure () := ha
    show wpAny M A (Bind.checkArgs "functools.partial.__call__" sig ⟨[self, v], []⟩) Q E s
    rw [h2]; exact wpAny_pure hQ
theorem geom_call (w : World) (S : Setting) : peek (hd.heap_39 w.params) S (specialOf (.ref 353) "__call__") = some (some (.builtin "function.__call__")) := by kernel_rfl!
theorem geom_inst (w : World) (S : Setting) : peek (hd.heap_39 w.params) S (isInstance (.ref 353) (.type "functools.partial")) = some false := by kernel_rfl!
end
section
open PySem.W.X (Led)
open PyProof.Rows PySem.Calls PySem.Spec
set_option pp.deepTerms false
def partO (f : Value) (td kd : Addr) : Obj := { cls := .type "functools.partial", data := .fields #[f, .ref td, .ref kd] }
theorem under_part (A : Around) (args : Args) : ∃ gu, A.under (.builtin "functools.partial.__call__" args) = ⟨A.handled, A.depth + 1, A.frames, gu, A.units + 1⟩ := by
  unfold Around.under
  have h1 : (Code.builtin "functools.partial.__call__" args).weight = 1 := by kernel_rfl
  have h2 : (Code.builtin "functools.partial.__call__" args).envs = [] := by kernel_rfl
  have h4 : (Code.builtin "functools.partial.__call__" args).cUnits = 1 := by kernel_rfl
  rw [h1, h2, h4]
  cases A.frames <;> exact ⟨_, rfl⟩
theorem Cx.under {w : World} {A A' : Around} {env : Env} {h₀ : Heap} {n : Nat} {gu : Option (List Code)} (C : Cx w A env h₀ (n + 2)) (e : A' = ⟨A.handled, A.depth + 1, A.frames, gu, A.units + 2⟩) : Cx w A' env h₀ n := by
  subst e
  obtain ⟨B, a2, a3, a4, a5, a6, a7, a8, a9⟩ := C
  exact ⟨B, a2, a3, a4, a5, a6, a7, by show A.depth + 1 + n < _; omega, by show A.units + 2 + 40 * n < _; omega⟩
section
variable {w : World} {A : Around} {env : Env} {h₀ h : Heap} {g : Array GenState} {d : Drawn} {t : Nat} {os : OsState} {m : Str → Option Value} {news : List (Addr × Obj)} {n : Nat} {E : Value → Shared → Prop}
theorem partCall {p td kd : Addr} {f v bv : Value} {hsh : Int} {key : Str} {tk : Tok} {e1 e2 : Nat} {Q : Value → Shared → Prop} (C : Cx w A env h₀ (n + 2)) (D : Led h₀ env.locals m h news)
    (hkd : kd ≠ sysModules) (hp : (p, partO f td kd) ∈ news) (ht : (td, tupO []) ∈ news) (hk : (kd, dictOf [⟨hsh, .str key tk, bv⟩] e2) ∈ news)
    (hq : ∀ A', Cx w A' env h₀ n → wpAny (model PG w) A' (call f [v] [(key, bv)]) Q E ⟨h, g, d, t, os⟩) :
    wpAny (model PG w) A (call (.ref p) [v]) Q E ⟨h, g, d, t, os⟩ := by
  have ho := (D.nw _ hp).1
  have hT : Shared.TypeIs ⟨h, g, d, t, os⟩ (.ref p) "functools.partial" := ⟨_, ho, rfl⟩
  refine wpAny_call (codeAny_of_tree ?_)
  show wpAny _ _ (callAny (.ref p) ⟨[v], []⟩) _ _ _
  unfold callAny
  refine wpAny_bind (wpAny_load ho ?_)
  show wpAny _ _ (if ((Value.type "functools.partial" == .type "method" || Value.type "functools.partial" == .type "builtin_function_or_method" || Value.type "functools.partial" == .type "method-wrapper") = true) then _ else _) _ _ _
  rw [if_neg (by decide +kernel)]
  unfold callAny.viaDunder
  refine wpAny_bind (wpAny_specialOf hT part_call_lookup ?_)
  dsimp only
  rw [part_call_bind]
  refine wpAny_bind (wpAny_pure ?_)
  dsimp only
  refine wpAny_bind (wpAny_pure ?_)
  rw [if_neg (by decide +kernel)]
  have hT2 := hT
  refine wpAny_bind (wpAny_cRoom (by show A.units + 1 < _; have := C.units; omega) ?_)
  refine wpAny_bind (wpAny_runValue (codeAny_call_builtin_code (Code.quiet_builtin _ (by decide +kernel)) (part_call_check hT (codeAny_builtin entry_part_call ?_))))
  obtain ⟨gu, hgu⟩ := under_part (A.under (Code.call (Value.ref p) { pos := [v] })) ⟨[Value.ref p, v], []⟩
  have hun : A.under (Code.call (Value.ref p) { pos := [v] }) = A.in1 := rfl
  show wpAny _ (Around.under (A.under (Code.call (Value.ref p) { pos := [v] })) (Code.builtin "functools.partial.__call__" ⟨[Value.ref p, v], []⟩)) _ _ _ _
  have C2 : Cx w (Around.under (A.under (Code.call (Value.ref p) { pos := [v] })) (Code.builtin "functools.partial.__call__" ⟨[Value.ref p, v], []⟩)) env h₀ n := Cx.under C (by rw [hgu, hun])
  generalize Around.under (A.under (Code.call (Value.ref p) { pos := [v] })) (Code.builtin "functools.partial.__call__" ⟨[Value.ref p, v], []⟩) = A2 at C2 ⊢
  unfold Builtin.«functools.partial.__call__»
  dsimp only [List.cons_append, List.nil_append]
  refine wpAny_bind (wpAny_cRoom (by have := C2.units; omega) ?_)
  refine wpAny_bind (wpAny_field ho rfl rfl ?_)
  refine wpAny_bind ?_
  show wpAny _ _ (notTheModulesDict "functools.partial:keywords" kd >>= fun _ => dictEntries kd) _ _ _
  unfold notTheModulesDict
  rw [if_neg (by simpa using hkd)]
  refine wpAny_bind (wpAny_pure (wpAny_dictEntries (D.nw _ hk).1 rfl ?_))
  refine wpAny_bind ?_
  have hl : ∀ (f : DictEntry → List (Str × Value) → Sem (ForInStep (List (Str × Value)))) (x : DictEntry) (b : List (Str × Value)), forIn (#[x] : Array DictEntry) b f = forIn [x] b f := fun f x b => by simp
  rw [hl, List.forIn_cons]
  refine wpAny_bind (wpAny_pure ?_)
  dsimp only
  rw [List.forIn_nil]
  refine wpAny_pure ?_
  refine wpAny_bind (wpAny_field ho rfl (x := .ref td) rfl ?_)
  refine wpAny_bind (wpAny_seqItems (D.nw _ ht).1 rfl ?_)
  refine wpAny_bind (wpAny_field ho rfl (x := f) rfl ?_)
  refine wpAny_bind (wpAny_holding ?_)
  refine wpAny_mono (hq A2 C2) (fun r s' hr => ?_) fun _ _ e => e
  refine wpAny_pure ?_
  show wpAny _ _ (ret r) _ _ _
  exact wpAny_pure hr
end
end
section
open PySem.W.X (Led)
open PyProof.Rows PySem.Calls PySem.Spec
set_option pp.deepTerms false
theorem kwEnd {w : World} {A : Around} {env : Env} {h₀ h : Heap} {g : Array GenState} {d : Drawn} {t : Nat} {os : OsState} {m : Str → Option Value} {news : List (Addr × Obj)} {n : Nat} {E : Value → Shared → Prop} {pos : Pos} {Q : List Value → Shared → Prop} (C : Cx w A env h₀ n) (D : Led h₀ env.locals m h news) (hq : Q [] ⟨h, g, d, t, os⟩) :
    wpAny (model PG w) A (evalAll ((backToKw pos (keywordEach [] env)).map (·.2))) (fun vs s₁ => (hd.heap_39 w.params).In s₁.heap ∧ Q vs s₁) E ⟨h, g, d, t, os⟩ := kwAll_nil ⟨C.X.keeps D.fr.keep, hq⟩
end
open PySem.W.X (Led)
open PyProof.Rows PySem.Calls PySem.Spec
local macro_rules | `(tactic| kc_close) => `(tactic| with_reducible first
  | ((with_reducible show wpAny _ _ (eval (Expr.Call (Expr.Name _ _) (_ :: _) (_ :: _) _) _) _ _ _); refine rCallKW (by assumption) (by assumption) (by assumption) (by kat_tups) (by kba_ints) (by kernel_rfl!) (by with_unfolding_all rfl) (by with_unfolding_all rfl) (by with_unfolding_all rfl) ?_)
  | ((with_reducible show wpAny _ _ (eval (Expr.Call (Expr.Name _ _) [] (_ :: _) _) _) _ _ _); refine rCallKW0 (by assumption) (by assumption) (by assumption) (by kat_tups) (by kba_ints) (by kernel_rfl!) (by with_unfolding_all rfl) (by with_unfolding_all rfl) ?_)
  | ((with_reducible show wpAny _ _ (evalAll _) _ _ _); first
      | refine kwAll_cons ?_
      | refine kwEnd (by assumption) (by assumption) ?_)
  | ((with_reducible show wpAny _ _ (compareOp CmpOp.Eq (Value.str _ _) (Value.str _ _)) _ _ _); refine PyProof.Rows.eq_str ?_)
  | ((with_reducible show Br (_ == _) _ _); first
      | refine Br.y (by decide +kernel) ?_
      | refine Br.n (by decide +kernel) ?_)
  | ((with_reducible show wpAny _ _ (eval (Expr.Subscript (Expr.Name _ _) (Expr.Slice none (some _) none _) _) _) _ _ _); (refine rSliNS (by assumption) (by assumption) (by assumption) (by kaf_pre) (by decide +kernel) ?_; intro h' tk t' D'))
  | ((with_reducible show wpAny _ _ (eval (Expr.Subscript (Expr.Name _ _) (Expr.Slice (some _) none none _) _) _) _ _ _); (refine rSliSN (by assumption) (by assumption) (by assumption) (by kaf_pre) (by decide +kernel) ?_; intro h' tk t' D')))

section
open PySem.W.X (Led)
open PyProof.Rows PySem.Calls PySem.Spec
set_option pp.deepTerms false
theorem TSpecG.use {w : World} {c : Sem Value} {n k : Nat} {Pre : List (Addr × Obj) → Prop} {Out : List (Addr × Obj) → Value → List (Addr × Obj) → Prop} {A : Around} {env : Env} {h₀ : Heap} {m : Str → Option Value} {T : Tabs} {h : Heap} {g : Array GenState} {d : Drawn} {t : Nat} {os : OsState} {Q E : Value → Shared → Prop}
    (S : TSpecG gk g0 w c n Pre Out) (dyn : List (Addr × Obj)) (C : Cx w A env h₀ k) (hk : n ≤ k) (G : GB gk g0 g) (hT : T.ok) (D : Led h₀ env.locals m h (dyn ++ T.l)) (P : Pre dyn)
    (hq : ∀ r tl (T' : Tabs) g' h' t', GB gk g0 g' → T'.ok → Led h₀ env.locals m h' (tl ++ (dyn ++ T'.l)) → Out dyn r tl → Q r ⟨h', g', d, t', os⟩) : wpAny (model PG w) A c Q E ⟨h, g, d, t, os⟩ :=
  S A env h₀ m dyn T h g d t os Q E (C.le hk) G hT D P hq
/-- a set's walk as numbers -/
theorem ordN (w : World) (a : Addr) (x : S4) (ep : Nat) : ∃ ns, IntsN (ordW w a x ep) ns ∧ ns.Nodup ∧ ∀ u, u ∈ ns ↔ (x.get u).isSome = true := by
  have hp := ordW_perm w a x ep
  let nv : Value → Nat := fun v => match v with | .int i _ => i.toNat | _ => 0
  have hv : ∀ v ∈ ordW w a x ep, ∃ (u : Nat) (t : Tok), x.get u = some t ∧ v = .int (u : Int) t ∧ u < 4 := fun v hm => by
    obtain ⟨u, t, h1, h2⟩ := (x.es_mem v).mp (hp.mem_iff.mp hm)
    refine ⟨u, t, h1, h2, ?_⟩
    by_cases q : u < 4
    · exact q
    · obtain ⟨k, rfl⟩ : ∃ k, u = k + 4 := ⟨u - 4, by omega⟩
      cases h1
  have hmem : ∀ u, u ∈ (ordW w a x ep).map nv ↔ (x.get u).isSome = true := fun u => by
    rw [List.mem_map]
    constructor
    · rintro ⟨v, hm, rfl⟩
      obtain ⟨u', t, h1, rfl, _⟩ := hv v hm
      show (x.get (Int.toNat (u' : Int))).isSome = true
      rw [Int.toNat_natCast, h1]; rfl
    · intro hs
      obtain ⟨t, ht⟩ := Option.isSome_iff_exists.mp hs
      exact ⟨.int (u : Int) t, hp.mem_iff.mpr ((x.es_mem _).mpr ⟨u, t, ht, rfl⟩), by show Int.toNat (u : Int) = u; exact Int.toNat_natCast u⟩
  refine ⟨(ordW w a x ep).map nv, ⟨by simp, fun i v hi => ?_⟩, ?_, hmem⟩
  · obtain ⟨u, t, h1, rfl, h2⟩ := hv v (List.mem_of_getElem? hi)
    refine ⟨t, u, ?_, h2, rfl⟩
    rw [List.getElem?_map, hi]; show some (Int.toNat (u : Int)) = _; rw [Int.toNat_natCast]
  · have h1 : ((ordW w a x ep).map nv).Perm x.vs := by
      refine (hp.map nv).trans ?_
      have : (x.es.map (·.2)).map nv = x.vs := by
        rcases x with ⟨_ | _, _ | _, _ | _, _ | _⟩ <;> rfl
      rw [this]
    refine h1.nodup_iff.mpr ?_
    rw [x.vs_filter]
    exact List.Pairwise.filter _ (by decide : [0, 1, 2, 3].Nodup)
theorem Holds4.congr {x : S4} {ns ns' : List Nat} (h : Holds4 x ns) (e : ∀ u, u ∈ ns ↔ u ∈ ns') : Holds4 x ns' := fun u => by
  rw [h u]; exact decide_eq_decide.mpr (e u)
theorem Holds4.memI {x : S4} {ns : List Nat} (h : Holds4 x ns) (u : Nat) : (x.get u).isSome = true ↔ u ∈ ns := by
  rw [h u, decide_eq_true_eq]
/-- a voter that stands in the ledger: whom it approves, its weight -/
def VoterIn (w : World) (news : List (Addr × Obj)) (v : Value) (nsl : List Nat) (wt : Int) : Prop := ∃ vo vdx o cs dd x ep tw, v = .ref vo ∧ (vo, instObj 732 vdx) ∈ news ∧ (vdx, o) ∈ news ∧ Flds o [("weight", .int wt tw), ("approved", .ref cs)] ∧ (cs, setO w (.ref 75) dd x ep) ∈ news ∧ Holds4 x nsl
theorem VoterIn.mono {w : World} {news news' : List (Addr × Obj)} {v : Value} {nsl : List Nat} {wt : Int} (V : VoterIn w news v nsl wt) (h : ∀ p ∈ news, p ∈ news') : VoterIn w news' v nsl wt :=
  let ⟨vo, vdx, o, cs, dd, x, ep, tw, a, b, c, d, e, f⟩ := V; ⟨vo, vdx, o, cs, dd, x, ep, tw, a, h _ b, h _ c, d, h _ e, f⟩
/-- Voter(approved, weight) -/
theorem voterT (w : World) (a : Addr) (oa : Obj) (vs : List Value) (nsl : List Nat) (wt : Int) (tw : Tok) : TSpecG gk g0 w (call (.ref 732) [.ref a, .int wt tw]) 30 (fun dyn => (a, oa) ∈ dyn ∧ SrcO w a oa vs ∧ IntsN vs nsl ∧ nsl.Nodup ∧ 0 < wt)
    (fun dyn r tl => VoterIn w (tl ++ dyn) r nsl wt) := by
  rintro A env h₀ m dyn T h g d t os Q E C G hT D ⟨hm, S, hi, hnd, hw⟩ hret
  k_dflt (refine' makeF "self" [("approved", .ref a), ("weight", .int wt tw), ("num_cand", .none)] [] ["CandidateSet", "ValueError"] ?C ?D ?m ?i ?f ?o ?c ?b ?fl ?g ?k ?j ?_)
  kd_adr
  intro x dx A' env' g' h₁ t' Q' C' fl D' hQ
  dsimp only [List.map, List.append_nil, List.cons_append, List.nil_append] at fl D'
  kcf_all
  refine (csSpecK w a oa vs nsl .none).use ((x, instObj 732 dx) :: (dx, dictOf [] 0) :: dyn) (by assumption) (by decide) G hT D' ⟨.tail _ (.tail _ hm), S, hi, hnd, .inl rfl⟩ ?_
  rintro _ _ T2 g2 h2 t2 G2 hT2 D2 ⟨cs, ds, xs, ep, rfl, rfl, hx⟩
  dsimp only [List.cons_append, List.nil_append] at D2
  kcf_all
  refine hQ _ _ _ _ _ _ (by assumption) fun D9 => ⟨rfl, ?_⟩
  exact hret _ [_, _, _, _] T2 _ _ _ G2 hT2 D9 ⟨x, dx, _, cs, some ds, xs, ep, _, rfl, List.mem_append_left _ (by kat_tups), List.mem_append_left _ (by kat_tups), by assumption, List.mem_append_left _ (by kat_tups), hx⟩
/-- Voter(v.approved, weight=.., num_cand=..) -/
theorem voterK (w : World) (a : Addr) (oa : Obj) (vs : List Value) (nsl : List Nat) (wt : Int) (tw tn : Tok) (k : Nat) : TSpecG gk g0 w (call (.ref 732) [.ref a] [("weight", .int wt tw), ("num_cand", .int (k : Int) tn)]) 30 (fun dyn => (a, oa) ∈ dyn ∧ SrcO w a oa vs ∧ IntsN vs nsl ∧ nsl.Nodup ∧ 0 < wt ∧ ∀ u ∈ nsl, u < k)
    (fun dyn r tl => VoterIn w (tl ++ dyn) r nsl wt) := by
  rintro A env h₀ m dyn T h g d t os Q E C G hT D ⟨hm, S, hi, hnd, hw, hk⟩ hret
  k_dflt (refine' makeF "self" [("approved", .ref a), ("weight", .int wt tw), ("num_cand", .int (k : Int) tn)] [] ["CandidateSet", "ValueError"] ?C ?D ?m ?i ?f ?o ?c ?b ?fl ?g ?k ?j ?_)
  kd_adr
  intro x dx A' env' g' h₁ t' Q' C' fl D' hQ
  dsimp only [List.map, List.append_nil, List.cons_append, List.nil_append] at fl D'
  kcf_all
  refine (csSpecK w a oa vs nsl (.int (k : Int) tn)).use ((x, instObj 732 dx) :: (dx, dictOf [] 0) :: dyn) (by assumption) (by decide) G hT D' ⟨.tail _ (.tail _ hm), S, hi, hnd, .inr ⟨k, tn, rfl, hk⟩⟩ ?_
  rintro _ _ T2 g2 h2 t2 G2 hT2 D2 ⟨cs, ds, xs, ep, rfl, rfl, hx⟩
  dsimp only [List.cons_append, List.nil_append] at D2
  kcf_all
  refine hQ _ _ _ _ _ _ (by assumption) fun D9 => ⟨rfl, ?_⟩
  exact hret _ [_, _, _, _] T2 _ _ _ G2 hT2 D9 ⟨x, dx, _, cs, some ds, xs, ep, _, rfl, List.mem_append_left _ (by kat_tups), List.mem_append_left _ (by kat_tups), by assumption, List.mem_append_left _ (by kat_tups), hx⟩
end
section
open PySem.W.X (Led)
open PyProof.Rows PySem.Calls PySem.Spec
set_option pp.deepTerms false
section
variable {w : World} {A : Around} {env : Env} {h₀ h : Heap} {g : Array GenState} {d : Drawn} {t : Nat} {os : OsState} {m : Str → Option Value} {news : List (Addr × Obj)} {n : Nat} {E : Value → Shared → Prop}
theorem nslow (w : World) (a : Addr) : (hd.heap_39 w.params).lookup sysModules = none ∨ True := .inr trivial
/-- partial.__new__ -/
theorem partNewB {bv : Value} {Q : Fin → Shared → Prop} (C : Cx w A env h₀ n) (D : Led h₀ env.locals m h news)
    (hq : ∀ p td kd hsh tk e h' t', kd ≠ sysModules → Led h₀ env.locals m h' ((p, partO (.ref 353) td kd) :: (td, tupO []) :: (kd, dictOf [⟨hsh, .str "base" tk, bv⟩] e) :: news) → Q (.done (.ret (.ref p))) ⟨h', g, d, t', os⟩) :
    wpAny (model PG w) A (Builtin.«functools.partial.__new__» ⟨[.type "functools.partial", .ref 353], [("base", bv)]⟩) Q E ⟨h, g, d, t, os⟩ := by
  have hsub : isSubtype (.type "functools.partial") (.type "functools.partial") = pure true := by rw [isSubtype_type]; kernel_rfl
  have X := C.X.keeps D.fr.keep
  unfold Builtin.«functools.partial.__new__»
  dsimp only
  refine wpAny_bind (wpAny_of_eq (show isType (.type "functools.partial") = pure true from rfl) ?_)
  try dsimp only [Bool.not_true, Bool.false_eq_true, if_false]
  simp only [Bool.not_true, Bool.false_eq_true, if_false]
  refine wpAny_bind ?_
  show wpAny _ _ (isSubtype (.type "functools.partial") (.type "functools.partial")) _ _ _
  refine wpAny_of_eq hsub ?_
  simp only [Bool.not_true, Bool.false_eq_true, if_false]
  refine wpAny_bind ?_
  show wpAny _ _ (isInstance (.ref 353) (.type "functools.partial")) _ _ _
  refine (Looks.of_peek (M := model PG w) X (geom_inst w ⟨PG, w.params⟩)).here ?_
  simp only [Bool.false_eq_true, if_false]
  refine wpAny_bind ?_
  show wpAny _ _ (specialOf (.ref 353) "__call__" >>= fun r => pure r.isSome) _ _ _
  refine wpAny_bind ((Looks.of_peek (M := model PG w) X (geom_call w ⟨PG, w.params⟩)).here (wpAny_pure ?_))
  simp only [Option.isSome_some, Bool.not_true, Bool.false_eq_true, if_false]
  rw [if_neg (by simp)]
  unfold newDict
  refine wpAny_bind (wpAny_newObj_type ?_)
  dsimp only
  have hbig : 353 < h.objs.size := by
    have e : ((hd.heap_39 w.params).lookup 353).isSome = true := by kernel_rfl!
    obtain ⟨o, ho⟩ := Option.isSome_iff_exists.mp e
    exact Heap.lt_size (X 353 o ho)
  generalize hk1 : h.push { cls := .type "dict", data := .dict #[] } = h1
  have D1 : Led h₀ env.locals m h1 ((h.objs.size, dictOf [] 0) :: news) := by
    rw [← hk1]
    exact ledPushed D (.inr trivial) (Heap.get?_push_size _ rfl) fun b o e => Heap.get?_push_of_some _ e
  have hkd : h.objs.size ≠ sysModules := by show h.objs.size ≠ 1; omega
  generalize h.objs.size = kd at D1 hkd ⊢
  clear hk1 D
  have ho := (D1.nw _ (.head _)).1
  rw [List.forIn_cons]
  refine wpAny_bind (wpAny_bind (wpAny_bind ?_))
  unfold nsSetByValue nsSet strHash
  refine wpAny_bind (wpAny_loadPart ho ?_)
  show wpAny _ _ (if ((#[] : Array DictEntry).size > sizeLine && noSuchName "base" #[]) = true then _ else _) _ _ _
  rw [if_neg (by simp)]
  refine wpAny_bind (wpAny_bind (wpAny_askSetting (wpAny_pure ?_)))
  refine wpAny_bind (wpAny_mkText ?_)
  refine wpAny_bind (wpAny_loadPart ho ?_)
  show wpAny _ _ (if aRefKeyMayBeTheName "base" #[] = true then _ else _) _ _ _
  rw [if_neg (by decide +kernel)]
  refine wpAny_updatePart ho ?_
  generalize (if (Str.ofString "base").cps.isEmpty = true then (0 : Int) else reduceHash ((model PG w).w.params.strHash (Str.ofString "base").cps)) = hsh
  dsimp only
  have hg := Heap.get?_update_self (Obj.putName "base" hsh (.str "base" t) bv) ho (by rw [putName_dict]; rfl)
  rw [putName_dict] at hg
  have D2 := ledUpdAt D1 (.z : UpdA kd (dictOf [] 0) _ ((kd, dictOf [] 0) :: news) _) (fun b o hb e => (Heap.get?_update_other _ _ (Ne.symm hb)).trans e) hg
  generalize h1.update kd (Obj.putName "base" hsh (.str "base" t) bv) = h2 at D2 ⊢
  refine wpAny_pure ?_
  dsimp only
  rw [List.forIn_nil]
  refine wpAny_pure ?_
  refine wpAny_bind (rTup (l := []) (env := env) D2 (by decide) fun td h3 D3 => ?_)
  refine wpAny_bind (wpAny_newObj_type ?_)
  refine wpAny_pure ?_
  exact hq _ td kd hsh t _ _ _ hkd (ledPushed D3 (.inr trivial) (Heap.get?_push_size _ rfl) fun b o e => Heap.get?_push_of_some _ e)
end
theorem Cx.in1 {w : World} {A : Around} {env : Env} {h₀ : Heap} {n : Nat} (C : Cx w A env h₀ (n + 1)) : Cx w A.in1 env h₀ n := by
  obtain ⟨B, a2, a3, a4, a5, a6, a7, a8, a9⟩ := C
  refine ⟨B, a2, a3, a4, a5, a6, a7, ?_, ?_⟩
  · show A.depth + n < _; omega
  · show A.units + 1 + 40 * n < _; omega
section
variable {w : World} {A : Around} {env : Env} {h₀ h : Heap} {g : Array GenState} {d : Drawn} {t : Nat} {os : OsState} {m : Str → Option Value} {news : List (Addr × Obj)} {n : Nat} {E : Value → Shared → Prop}
theorem callPart {bv : Value} {Q : Value → Shared → Prop} (C : Cx w A env h₀ (n + 3)) (D : Led h₀ env.locals m h news)
    (hq : ∀ p td kd hsh tk e h' t', kd ≠ sysModules → Led h₀ env.locals m h' ((p, partO (.ref 353) td kd) :: (td, tupO []) :: (kd, dictOf [⟨hsh, .str "base" tk, bv⟩] e) :: news) → Q (.ref p) ⟨h', g, d, t', os⟩) :
    wpAny (model PG w) A (call (.type "functools.partial") [.ref 353] [("base", bv)]) Q E ⟨h, g, d, t, os⟩ := by
  obtain ⟨c, tl, hmro⟩ := called_part.mro
  have hmade := called_part.made
  have hsub := called_part.sub
  have hct := typeCall_part (.ref 353) bv "base"
  have h1 := called_part.notType
  have h2 := called_part.canCreate
  refine wpAny_call (codeAny_of_tree ?_)
  show wpAny _ _ (callAny (.type "functools.partial") _) _ _ _
  refine wpAny_pure ⟨Code.quiet_builtin _ (by decide +kernel), codeAny_builtin F.entry_type_call ?_⟩
  rw [Around.under_plain (weight_type_call_type "functools.partial" [.ref 353] [("base", bv)]) (units_type_call_type "functools.partial" [.ref 353] [("base", bv)])]
  repeat (any_goals (first | assumption | wp_step))
  refine codeAny_call_builtin called_part.plain entry_part_new (wpAny_of_eq (newCall_part (.ref 353) bv "base") (partNewB (A := A.in1.in1) (C.in1.in1) D fun p td kd hsh tk e h' t' hkd D' => ?_))
  have hT : Shared.TypeIs ⟨h', g, d, t', os⟩ (.ref p) "functools.partial" := ⟨_, (D'.nw _ (.head _)).1, rfl⟩
  refine wpAny_bind (wpAny_isInstance hT hsub ?_)
  have hli := called_part.init.lookup
  have hbi := called_part.init.bind (.ref p)
  have fin := hq p td kd hsh tk e h' t' hkd D'
  repeat (any_goals (first | assumption | wp_step))
  refine codeAny_call_builtin called_part.init.plain F.entry_object_init ?_
  refine called_part.init.check _ _ _ _ (.ref p) [.ref 353] [("base", bv)] _ hT (by unfold argsOk; kernel_rfl) ?_
  have hne : (some "functools.partial.__new__" != some "object.__new__") = true := by decide
  dsimp only [List.cons_append, List.nil_append]
  repeat (any_goals (first | assumption | wp_step))
end
end
section
open PySem.W.X (Led)
open PyProof.Rows PySem.Calls PySem.Spec
set_option pp.deepTerms false
/-- the five rules -/
inductive Ru where
  | pav
  | slav
  | cc
  | geom
  | av
def Ru.str : Ru → Str
  | .pav => "pav"
  | .slav => "slav"
  | .cc => "cc"
  | .geom => "geom2"
  | .av => "av"
/-- a step's gain, in sixths -/
def Ru.six : Ru → Nat → Int
  | .pav, i => if i = 1 then 6 else 3
  | .slav, i => if i = 1 then 6 else 2
  | .cc, i => if i = 1 then 6 else 0
  | .geom, i => if i = 1 then 6 else 3
  | .av, _ => 6
/-- the rule's function, as a value -/
def MargV (news : List (Addr × Obj)) (r : Ru) (fv : Value) : Prop := match r with
  | .pav => fv = .ref 360
  | .slav => fv = .ref 374
  | .cc => fv = .ref 388
  | .av => fv = .ref 381
  | .geom => ∃ p td kd hsh tk e tb, fv = .ref p ∧ kd ≠ sysModules ∧ (p, partO (.ref 353) td kd) ∈ news ∧ (td, tupO []) ∈ news ∧ (kd, dictOf [⟨hsh, .str "base" tk, .int 2 tb⟩] e) ∈ news
theorem MargV.mono {news news' : List (Addr × Obj)} {r : Ru} {fv : Value} (M : MargV news r fv) (h : ∀ p ∈ news, p ∈ news') : MargV news' r fv := by
  cases r with
  | geom => obtain ⟨p, td, kd, hsh, tk, e, tb, a, b, c, d, f⟩ := M; exact ⟨p, td, kd, hsh, tk, e, tb, a, b, h _ c, h _ d, h _ f⟩
  | _ => exact M
def ptl : List (Str × Value) := [("partial", .type "functools.partial")]
theorem ptl_ok (w : World) : nsIn (hd.heap_39 w.params) mainGlobals "partial" = some (some (.type "functools.partial")) := by kernel_rfl!
section
variable {w : World} {A : Around} {env : Env} {h₀ h : Heap} {g : Array GenState} {d : Drawn} {t : Nat} {os : OsState} {m : Str → Option Value} {news : List (Addr × Obj)} {n : Nat} {E : Value → Shared → Prop} {ns gs : List Str} {vs vs' : List (Option Value)} {pos xp fp : Pos}
theorem rCallIntT {sv : Str} {ts : Tok} {i : Int} {Q : Value → Shared → Prop} (hn : PySem.intText? sv = some i) (hl : sv.length ≤ 640) (hq : ∀ tk t', Q (.int i tk) ⟨h, g, d, t', os⟩) : wpAny (model PG w) A (call (.type "int") [.str sv ts]) Q E ⟨h, g, d, t, os⟩ := KIN.call_text (s := ⟨h, g, d, t, os⟩) hn hl (hq _ _)
/-- partial(f, base=..): the call's tree -/
theorem rCallPart {e : Expr} {kws : List Keyword} {Q : Value → Shared → Prop} (C : Cx w A env h₀ n) (fl : FnL ns gs env.scope) (D : Led h₀ env.locals m h news) (hx : ("partial" : Str) ∈ gs)
    (hall : (backToKw pos (keywordEach kws env)).all (·.1.isSome) = true) (hplain : ((backTo pos (starEach [e] env)).any (·.1) || (backToKw pos (keywordEach kws env)).any (·.1.isNone)) = false) (he : starEach [e] env = (false, eval e env) :: starEach [] env)
    (hq : wpAny (model PG w) A (spliced (backTo pos (starEach [e] env))) (fun vs s₁ => wpAny (model PG w) A (evalAll ((backToKw pos (keywordEach kws env)).map (·.2)))
      (fun ks s₂ => (hd.heap_39 w.params).In s₂.heap ∧ wpAny (model PG w) A (call (.type "functools.partial") vs (((backToKw pos (keywordEach kws env)).filterMap (·.1)).zip ks)) Q E s₂) E s₁) E ⟨h, g, d, t, os⟩) :
    wpAny (model PG w) A (eval (.Call (.Name "partial" fp) [e] kws pos) env) Q E ⟨h, g, d, t, os⟩ := by
  obtain ⟨p, loose, mean, mg, mb, T⟩ := C.top
  refine wpAny_Call_Name_kw (Name_function_global C.kind (by show env.scope.names.lookup _ = _; exact fl.glob _ hx) (loadGlobal_global (env := env) (by rw [C.glo]; exact T.g.keeps D.fr.keep) (mg_of C.X T.g (ptl_ok w)) ?_) (fl.nbg _ hx))
  refine callWith_of (P := fun _ => True) hplain (fun h _ => ⟨.machine, .inr (.inl rfl), Looks.of_pure rfl⟩) (evalArgs_kw2 hall (wpAny_mono hq (fun vs s₁ q => wpAny_mono q (fun ks s₂ q => ⟨trivial, q.2⟩) fun _ _ e => e) fun _ _ e => e) he)
end
theorem marg_pav (w : World) (ts tc : Tok) (k : Int) : Spec w (.ref 339) [.str Ru.pav.str ts, .int k tc] [] 12 (fun _ => True) (fun news fv tl => MargV (tl ++ news) .pav fv) := by
  intro A env h₀ m news h g d t os Q E C D hP hret
  k_dflt (refine' enterF [("scorefct_id", .str Ru.pav.str ts), ("committeesize", .int k tc)] ["base", "param"] ["pav_score_fct", "slav_score_fct", "cc_score_fct", "av_score_fct", "int", "partial", "geometric_marginal_score_fct"] ?C ?D ?o ?c ?b ?f ?g ?i ?j ?_)
  kcf_m
  intro A' env' g h₁ t' Q' C' fl D' hQ
  dsimp only [List.map, List.append_nil, List.cons_append, List.nil_append] at fl D'
  kcf_all
  exact hQ _ _ _ _ _ _ (by assumption) fun D9 => hret _ [] _ _ D9 rfl
theorem marg_slav (w : World) (ts tc : Tok) (k : Int) : Spec w (.ref 339) [.str Ru.slav.str ts, .int k tc] [] 12 (fun _ => True) (fun news fv tl => MargV (tl ++ news) .slav fv) := by
  intro A env h₀ m news h g d t os Q E C D hP hret
  k_dflt (refine' enterF [("scorefct_id", .str Ru.slav.str ts), ("committeesize", .int k tc)] ["base", "param"] ["pav_score_fct", "slav_score_fct", "cc_score_fct", "av_score_fct", "int", "partial", "geometric_marginal_score_fct"] ?C ?D ?o ?c ?b ?f ?g ?i ?j ?_)
  kcf_m
  intro A' env' g h₁ t' Q' C' fl D' hQ
  dsimp only [List.map, List.append_nil, List.cons_append, List.nil_append] at fl D'
  kcf_all
  exact hQ _ _ _ _ _ _ (by assumption) fun D9 => hret _ [] _ _ D9 rfl
theorem marg_cc (w : World) (ts tc : Tok) (k : Int) : Spec w (.ref 339) [.str Ru.cc.str ts, .int k tc] [] 12 (fun _ => True) (fun news fv tl => MargV (tl ++ news) .cc fv) := by
  intro A env h₀ m news h g d t os Q E C D hP hret
  k_dflt (refine' enterF [("scorefct_id", .str Ru.cc.str ts), ("committeesize", .int k tc)] ["base", "param"] ["pav_score_fct", "slav_score_fct", "cc_score_fct", "av_score_fct", "int", "partial", "geometric_marginal_score_fct"] ?C ?D ?o ?c ?b ?f ?g ?i ?j ?_)
  kcf_m
  intro A' env' g h₁ t' Q' C' fl D' hQ
  dsimp only [List.map, List.append_nil, List.cons_append, List.nil_append] at fl D'
  kcf_all
  exact hQ _ _ _ _ _ _ (by assumption) fun D9 => hret _ [] _ _ D9 rfl
theorem marg_geom (w : World) (ts tc : Tok) (k : Int) : Spec w (.ref 339) [.str Ru.geom.str ts, .int k tc] [] 12 (fun _ => True) (fun news fv tl => MargV (tl ++ news) .geom fv) := by
  intro A env h₀ m news h g d t os Q E C D hP hret
  k_dflt (refine' enterF [("scorefct_id", .str Ru.geom.str ts), ("committeesize", .int k tc)] ["base", "param"] ["pav_score_fct", "slav_score_fct", "cc_score_fct", "av_score_fct", "int", "partial", "geometric_marginal_score_fct"] ?C ?D ?o ?c ?b ?f ?g ?i ?j ?_)
  kcf_m
  intro A' env' g h₁ t' Q' C' fl D' hQ
  dsimp only [List.map, List.append_nil, List.cons_append, List.nil_append] at fl D'
  kcf_all
  refine rCallIntT (i := 2) (by decide +kernel) (by decide +kernel) fun tk2 t2 => ?_
  kcf_all
  refine rCallPart (by assumption) (by assumption) (by assumption) (by kat_tups) (by with_unfolding_all rfl) (by with_unfolding_all rfl) (by with_unfolding_all rfl) ?_
  kcf_all
  refine callPart (by assumption) (by assumption) fun p td kd hsh tk e h4 t4 hkd D4 => ?_
  kcf_all
  exact hQ _ _ _ _ _ _ (by assumption) fun D9 => hret _ [_, _, _] _ _ D9 ⟨p, td, kd, hsh, tk, e, _, rfl, hkd, .head _, .tail _ (.head _), .tail _ (.tail _ (.head _))⟩
theorem marg_av (w : World) (ts tc : Tok) (k : Int) : Spec w (.ref 339) [.str Ru.av.str ts, .int k tc] [] 12 (fun _ => True) (fun news fv tl => MargV (tl ++ news) .av fv) := by
  intro A env h₀ m news h g d t os Q E C D hP hret
  k_dflt (refine' enterF [("scorefct_id", .str Ru.av.str ts), ("committeesize", .int k tc)] ["base", "param"] ["pav_score_fct", "slav_score_fct", "cc_score_fct", "av_score_fct", "int", "partial", "geometric_marginal_score_fct"] ?C ?D ?o ?c ?b ?f ?g ?i ?j ?_)
  kcf_m
  intro A' env' g h₁ t' Q' C' fl D' hQ
  dsimp only [List.map, List.append_nil, List.cons_append, List.nil_append] at fl D'
  kcf_all
  exact hQ _ _ _ _ _ _ (by assumption) fun D9 => hret _ [] _ _ D9 rfl
/-- get_marginal_scorefct -/
theorem margT (w : World) (r : Ru) (ts tc : Tok) (k : Int) : Spec w (.ref 339) [.str r.str ts, .int k tc] [] 12 (fun _ => True) (fun news fv tl => MargV (tl ++ news) r fv) := by
  cases r with
  | pav => exact marg_pav w ts tc k
  | slav => exact marg_slav w ts tc k
  | cc => exact marg_cc w ts tc k
  | geom => exact marg_geom w ts tc k
  | av => exact marg_av w ts tc k
end
section
open PySem.W.X (Led)
open PyProof.Rows PySem.Calls PySem.Spec
set_option pp.deepTerms false
theorem cellsDesc (lo : Nat) : ∀ (names : List (Str × NameKind)) (n : Nat) (acc : List (Str × Addr)), (acc.map (·.2)).Pairwise (· > ·) → (∀ c ∈ acc, lo < c.2 ∧ c.2 < n) → lo < n → ((cellsFrom n names acc).map (·.2)).Pairwise (· > ·) ∧ ∀ c ∈ cellsFrom n names acc, lo < c.2
  | [], n, acc, h1, h2, _ => ⟨h1, fun c hc => (h2 c hc).1⟩
  | (x, k) :: r, n, acc, h1, h2, hn => by
    unfold cellsFrom
    split
    · refine cellsDesc lo r (n + 1) ((x, n) :: acc) ?_ ?_ (Nat.lt_succ_of_lt hn)
      · rw [List.map_cons]
        exact List.Pairwise.cons (fun b hb => by obtain ⟨c, hc, rfl⟩ := List.mem_map.mp hb; exact (h2 c hc).2) h1
      · intro c hc
        rcases List.mem_cons.mp hc with rfl | hc
        · exact ⟨hn, Nat.lt_succ_self n⟩
        · exact ⟨(h2 c hc).1, Nat.lt_succ_of_lt (h2 c hc).2⟩
    · exact cellsDesc lo r n acc h1 h2 hn
theorem cellsAddr {cm : Str → Option Value} : ∀ {cs : List (Str × Addr)} {cells : List (Addr × Obj)}, CellsAre cm cs cells → cells.map (·.1) = cs.map (·.2)
  | _, _, .nil => rfl
  | _, _, .cons _ r => by rw [List.map_cons, List.map_cons, cellsAddr r]
section
variable {w : World} {A : Around} {env : Env} {h₀ h : Heap} {g₀ : Array GenState} {d : Drawn} {t : Nat} {os : OsState} {m : Str → Option Value} {news : List (Addr × Obj)} {n : Nat}
/-- the call of a def with cells -/
theorem enterL {R : Result → Shared → Prop} {name qual : Str} {params : Arguments} {body : List Stmt} {scope : Scope} {dV kV doc pm cdv ct oc : Value} {an od : Option Addr} {osl : Array (Option Value)} {f : Addr} {args : Args} (binds lb : List (Str × Value)) (rest gs : List Str)
    (C : Cx w A env h₀ (n + 1)) (D : Led h₀ env.locals m h news)
    (ho : (hd.heap_39 w.params).lookup f = some ⟨oc, od, .func (fnOf name qual params body scope dV kV doc pm an cdv ct), osl⟩) (hcd : codeIn (hd.heap_39 w.params) cdv qual = true)
    (hbind : (hd.heap_39 w.params).In h → BindsTo ⟨h, g₀, d, t, os⟩ (fnOf name qual params body scope dV kV doc pm an cdv ct) args binds)
    (hkind : (binds.all fun y => scope.names.lookup y.1 == some .local || scope.names.lookup y.1 == some .cell) = true)
    (hnd : decide ((cellsFrom 0 scope.names []).map (·.1)).Nodup = true) (hlb : binds.filter (fun b => scope.names.lookup b.1 == some .local) = lb)
    (hfl : fnl (lb.map (·.1) ++ rest) gs scope = true) (hco : scope.isCoroutine = false) (hgen : scope.isGenerator = false)
    (hb : ∀ A' L' env' g h₁ t' Q' cells, Cx w A' env' g n → env' = envOfC qual scope L' f cdv → (∀ p ∈ news, p.1 < L') → CellsAre (bindC (envOfC qual scope L' f cdv).kindOf binds fun _ => none) (cellsFrom (L' + 1) scope.names []) cells →
      FnL (lb.map (·.1) ++ rest) gs env'.scope → Led g env'.locals (vec (lb.map (·.1) ++ rest) (lb.map (fun b => some b.2) ++ rest.map fun _ => none)) h₁ (cells ++ news) →
      (∀ fl h' t' g' m' news', Led g env'.locals m' h' news' → (Led h₀ env.locals m h' news' → R (.ok (.ret (retOf fl))) ⟨h', g', d, t', os⟩) → Q' fl ⟨h', g', d, t', os⟩) →
      wpAny (model PG w) A' (execs body env') Q' (fun _ _ => False) ⟨h₁, g₀, d, t', os⟩) :
    codeAny (model PG w) A (.call (.ref f) args) R ⟨h, g₀, d, t, os⟩ := by
  refine enterE binds lb rest gs C D ho hcd hbind hkind hnd hlb hfl hco hgen fun A' L' env' g h₁ t' Q' cells E hlt Y fl F N hret => ?_
  refine hb A' L' env' g h₁ t' Q' cells E.cx E.env hlt Y fl ⟨F, N, ?_⟩ hret
  obtain ⟨d1, d2⟩ := cellsDesc L' scope.names (L' + 1) [] List.Pairwise.nil (fun _ hc => nomatch hc) (Nat.lt_succ_self L')
  rw [List.map_append, cellsAddr Y, List.pairwise_append]
  refine ⟨d1, D.ord, fun a ha b hb => ?_⟩
  obtain ⟨c, hc, rfl⟩ := List.mem_map.mp ha
  obtain ⟨p, hp, rfl⟩ := List.mem_map.mp hb
  exact Nat.lt_trans (hlt p hp) (d2 c hc)
theorem makeL {Q E : Value → Shared → Prop} {name qual : Str} {params : Arguments} {body : List Stmt} {scope : Scope} {dV kV doc pm cdv ct oc : Value} {an od : Option Addr} {osl : Array (Option Value)} {Cl fI : Addr} {vs : List Value} {kw : List (Str × Value)} (self : Str) (binds lb : List (Str × Value)) (rest gs : List Str)
    (C : Cx w A env h₀ (n + 2)) (D : Led h₀ env.locals m h news)
    (hm : makesIn (hd.heap_39 w.params) Cl = true) (hi : findIn (hd.heap_39 w.params) (.ref Cl) "__init__" = some (some (.ref fI))) (hf : isFn (hd.heap_39 w.params) (.ref fI) = true)
    (ho : (hd.heap_39 w.params).lookup fI = some ⟨oc, od, .func (fnOf name qual params body scope dV kV doc pm an cdv ct), osl⟩) (hcd : codeIn (hd.heap_39 w.params) cdv qual = true)
    (hbind : ∀ x h', (hd.heap_39 w.params).In h' → BindsTo ⟨h', g₀, d, t, os⟩ (fnOf name qual params body scope dV kV doc pm an cdv ct) ⟨.ref x :: vs, kw⟩ ((self, .ref x) :: binds))
    (hkind : (((self, Value.none) :: binds).all fun y => scope.names.lookup y.1 == some .local || scope.names.lookup y.1 == some .cell) = true)
    (hnd : decide ((cellsFrom 0 scope.names []).map (·.1)).Nodup = true) (hlb : ∀ x : Addr, ((self, Value.ref x) :: binds).filter (fun b => scope.names.lookup b.1 == some .local) = (self, .ref x) :: lb)
    (hfl : fnl (self :: (lb.map (·.1) ++ rest)) gs scope = true) (hco : scope.isCoroutine = false) (hgen : scope.isGenerator = false)
    (hb : ∀ x dx A' L' env' g h₁ t' Q' cells, Cx w A' env' g n → env' = envOfC qual scope L' fI cdv → CellsAre (bindC (envOfC qual scope L' fI cdv).kindOf ((self, .ref x) :: binds) fun _ => none) (cellsFrom (L' + 1) scope.names []) cells →
      FnL (self :: (lb.map (·.1) ++ rest)) gs env'.scope → Led g env'.locals (vec (self :: (lb.map (·.1) ++ rest)) (some (.ref x) :: (lb.map (fun b => some b.2) ++ rest.map fun _ => none))) h₁ (cells ++ (x, instObj Cl dx) :: (dx, dictOf [] 0) :: news) →
      (∀ fl h' t' g' m' news', Led g env'.locals m' h' news' → (Led h₀ env.locals m h' news' → retOf fl = .none ∧ Q (.ref x) ⟨h', g', d, t', os⟩) → Q' fl ⟨h', g', d, t', os⟩) →
      wpAny (model PG w) A' (execs body env') Q' (fun _ _ => False) ⟨h₁, g₀, d, t', os⟩) :
    wpAny (model PG w) A (call (.ref Cl) vs kw) Q E ⟨h, g₀, d, t, os⟩ := by
  refine call_cls (s := ⟨h, g₀, d, t, os⟩) D.fr C.X D.nw hm hi hf (fun x dx h' F' N' l1 l2 => ?_)
  have D' : Led h₀ env.locals m h' ((x, instObj Cl dx) :: (dx, dictOf [] 0) :: news) := by
    refine ⟨F', N', ?_⟩
    simp only [List.map_cons]
    refine List.Pairwise.cons (fun b hb => ?_) (List.Pairwise.cons (fun b hb => ?_) D.ord)
    · rcases List.mem_cons.mp hb with rfl | hb
      · exact l2
      · obtain ⟨p, hp, rfl⟩ := List.mem_map.mp hb
        exact Nat.lt_trans (l1 p hp) l2
    · obtain ⟨p, hp, rfl⟩ := List.mem_map.mp hb
      exact l1 p hp
  refine enterL (h := h') ((self, .ref x) :: binds) ((self, .ref x) :: lb) rest gs (C.make Cl vs kw) D' ho hcd (hbind x h') hkind hnd (hlb x) hfl hco hgen fun A' L' env' g h₁ t' Q' cells C' he hlt Y fl D'' k => ?_
  exact hb x dx A' L' env' g h₁ t' Q' cells C' he Y fl D'' fun fl h' t' g' m' news' D₃ q => k fl h' t' g' m' news' D₃ fun D₄ => q D₄
end
theorem interF {w : World} {A : Around} {env : Env} {h₀ : Heap} {n : Nat} (C : Cx w A env h₀ n) : interactive env = false := by unfold interactive; rw [C.kind]; rfl
section
variable {w : World} {A : Around} {env : Env} {h₀ h : Heap} {g : Array GenState} {d : Drawn} {t : Nat} {os : OsState} {m : Str → Option Value} {news : List (Addr × Obj)} {n : Nat} {E : Value → Shared → Prop}
theorem rCompD {elt target iter : Expr} {ifs : List Expr} {scope : Scope} {pos : Pos} {Q : Value → Shared → Prop} (xs gs : List Str) (cl : List (Str × Addr)) (C : Cx w A env h₀ n) (_D : Led h₀ env.locals m h news)
    (hs : ∀ x, foldedSetIterable iter env x = pure x) (hclos : closureFor scope env = pure cl) (hcell : scope.names.all (fun y => !(y.2 == .cell)) = true) (hkind : scope.kind = .function) (hnames : scope.names.all (fun y => !(y.2 == .local) || scope.names.lookup y.1 == some .local) = true) (hfl : fnl xs gs (relabel scope env) = true)
    (hh : wpAny (model PG w) A (eval iter env) (fun xv s₁ => wpAny (model PG w) A (pyIter xv) (CompAt w A env h₀ n d os m cl scope xs gs target elt ifs (fun D ys e pre post h' g' t' => Q (.ref D) ⟨h', g', d, t', os⟩)) E s₁) E ⟨h, g, d, t, os⟩) :
    wpAny (model PG w) A (eval (.ListComp elt [⟨target, iter, ifs, 0⟩] scope pos) env) Q E ⟨h, g, d, t, os⟩ :=
  rComp C hs hclos (fun y hy => by simpa using List.all_eq_true.mp hcell y hy) hkind (fun y hy hl => by have := List.all_eq_true.mp hnames y hy; rw [hl] at this; simpa using this) hfl hh
theorem rCompAD {elt target iter : Expr} {ifs : List Expr} {scope : Scope} {y : Str} {py pos spos : Pos} {gs' ns : List Str} {vs : List (Option Value)} {Q : Flow → Shared → Prop} (xs gs : List Str) (cl : List (Str × Addr)) (C : Cx w A env h₀ n) (fl : FnL ns gs' env.scope) (_D : Led h₀ env.locals (vec ns vs) h news)
    (hsw : swapsWith (.ListComp elt [⟨target, iter, ifs, 0⟩] scope pos) (some (.Name y py)) spos.line env = pure true) (hy : y ∈ ns)
    (hs : ∀ x, foldedSetIterable iter env x = pure x) (hclos : closureFor scope env = pure cl) (hcell : scope.names.all (fun y => !(y.2 == .cell)) = true) (hkind : scope.kind = .function) (hnames : scope.names.all (fun y => !(y.2 == .local) || scope.names.lookup y.1 == some .local) = true) (hfl : fnl xs gs (relabel scope env) = true)
    (hh : wpAny (model PG w) A (eval iter env) (fun xv s₁ => wpAny (model PG w) A (pyIter xv) (CompAt w A env h₀ n d os (vec ns vs) cl scope xs gs target elt ifs (fun D ys e pre post h' g' t' => Led h₀ env.locals (vec ns vs) h' (pre ++ (D, lstO ys e) :: post) → ∃ vs', Put2 ns vs y (.ref D) vs' ∧ ∀ h'' t'', Led h₀ env.locals (vec ns vs') h'' (pre ++ (D, lstO ys e) :: post) → Q .next ⟨h'', g', d, t'', os⟩)) E s₁) E ⟨h, g, d, t, os⟩) :
    wpAny (model PG w) A (exec (.Assign [.Name y py] (.ListComp elt [⟨target, iter, ifs, 0⟩] scope pos) spos) env) Q E ⟨h, g, d, t, os⟩ :=
  rCompA C fl hsw hy hs hclos (fun y hy => by simpa using List.all_eq_true.mp hcell y hy) hkind (fun y hy hl => by have := List.all_eq_true.mp hnames y hy; rw [hl] at this; simpa using this) hfl hh
end
theorem vec1 (x : Str) (vs : List (Option Value)) : ∃ c, vec [x] vs = vec [x] [c] := by
  cases vs with
  | nil => exact ⟨none, by funext y; simp [vec]⟩
  | cons c r => exact ⟨c, by funext y; simp [vec]⟩
theorem vec2 (x x' : Str) (vs : List (Option Value)) : ∃ c c', vec [x, x'] vs = vec [x, x'] [c, c'] := by
  rcases vs with _ | ⟨c, _ | ⟨c', r⟩⟩
  · exact ⟨none, none, by funext y; simp [vec]⟩
  · exact ⟨c, none, by funext y; simp [vec]⟩
  · exact ⟨c, c', by funext y; simp [vec]⟩
/-- a name that stands in a cell -/
def CellAt (env : Env) (x : Str) (c : Addr) : Prop := env.scope.names.lookup x = some .cell ∧ env.cells.lookup x = some c
theorem rCellN {w : World} {A : Around} {env : Env} {h₀ h : Heap} {g : Array GenState} {d : Drawn} {t : Nat} {os : OsState} {m : Str → Option Value} {news : List (Addr × Obj)} {n : Nat} {E : Value → Shared → Prop} {x : Str} {pos : Pos} {c : Addr} {o : Obj} {v : Value} {Q : Value → Shared → Prop}
    (C : Cx w A env h₀ n) (D : Led h₀ env.locals m h news) (hc : CellAt env x c) (hm : (c, o) ∈ news) (hd : o.data = .cell (some v)) (hn : (x == ("__debug__" : Str)) = false) (hq : Q v ⟨h, g, d, t, os⟩) :
    wpAny (model PG w) A (eval (.Name x pos) env) Q E ⟨h, g, d, t, os⟩ := rCellLd C.kind D hc.1 hc.2 hm hd hn hq
end
section
open PySem.W.X (Led)
open PyProof.Rows PySem.Calls PySem.Spec
set_option pp.deepTerms false
theorem FracV.to {news : List (Addr × Obj)} {v : Value} {p q : Rat} (F : FracV news v p) (e : p = q) : FracV news v q := e ▸ F
/-- a call of the rule's function -/
theorem margCall (w : World) (r : Ru) (fv : Value) (i : Nat) (ti : Tok) (h1 : 1 ≤ i) (h2 : i ≤ 2) : SpecT w (call fv [.int (i : Int) ti]) 16 (fun news => MargV news r fv) (fun _ res tl => FracV tl res (mkRat (r.six i) 6)) := by
  intro A env h₀ m news h g d t os Q E C D hM hret
  have hi : i = 1 ∨ i = 2 := by omega
  cases r with
  | pav =>
    obtain rfl := hM
    refine (pavS w i ti (by omega) (by omega)).t.use C D (by decide) trivial fun r tl h' t' D' fr => hret r tl h' t' D' (fr.to ?_)
    rcases hi with rfl | rfl <;> decide +kernel
  | slav =>
    obtain rfl := hM
    refine (slavS w i ti (by omega) (by omega)).t.use C D (by decide) trivial fun r tl h' t' D' fr => hret r tl h' t' D' (fr.to ?_)
    rcases hi with rfl | rfl <;> decide +kernel
  | cc =>
    obtain rfl := hM
    refine (ccS w i ti).t.use C D (by decide) trivial fun r tl h' t' D' fr => hret r tl h' t' D' (fr.to ?_)
    rcases hi with rfl | rfl <;> decide +kernel
  | av =>
    obtain rfl := hM
    refine (avS w i ti (by omega)).t.use C D (by decide) trivial fun r tl h' t' D' fr => hret r tl h' t' D' (fr.to ?_)
    show (1 : Rat) = mkRat 6 6
    decide +kernel
  | geom =>
    obtain ⟨p, td, kd, hsh, tk, e, tb, rfl, hkd, m1, m2, m3⟩ := hM
    refine partCall (n := 14) (e1 := 0) C D hkd m1 m2 m3 fun A' C' => ?_
    refine (geomS w i ti tb (by omega) (by omega)).t.use C' D (by decide) trivial fun r tl h' t' D' fr => hret r tl h' t' D' (fr.to ?_)
    rcases hi with rfl | rfl <;> decide +kernel
def liO (lv : Addr) (i : Nat) : Obj := { cls := .type "list_iterator", data := .fields #[.ref lv, .int (i : Int) 0] }
theorem callIter {w : World} {A : Around} {h : Heap} {g : Array GenState} {d : Drawn} {t : Nat} {os : OsState} {E : Value → Shared → Prop} {lv : Addr} {vs : List Value} {ev : Nat} {Q : Value → Shared → Prop} (ho : h.get? lv = some (lstO vs ev))
    (hq : Q (.ref h.objs.size) ⟨h.push (liO lv 0), g, d, t, os⟩) : wpAny (model PG w) A (call (.builtin "iter") [.ref lv]) Q E ⟨h, g, d, t, os⟩ := by
  refine call_function_entry (by decide +kernel) (by decide +kernel) kdk_entry_iter (kdk_args_iter _) ?_
  unfold Builtin.«iter»
  refine wpAny_bind (m := someArgs "iter" 1 2 _) (wpAny_of_eq (a := [Value.ref lv]) (by first | rfl | kernel_rfl!) ?_)
  show wpAny _ _ (pyIter (.ref lv) >>= _) _ _ _
  refine wpAny_bind (wpAny_pyIter_list ⟨_, ho, rfl, _, rfl⟩ ?_)
  exact wpAny_pure ⟨_, rfl, hq⟩
/-- Profile.__iter__ -/
theorem profIter (w : World) (pf pdx lv : Addr) (o : Obj) (l : List (Str × Value)) (vs : List Value) (ev : Nat) : Spec w (.ref 650) [.ref pf] [] 6 (fun news => (pf, instObj 695 pdx) ∈ news ∧ (pdx, o) ∈ news ∧ Flds o l ∧ (("_voters" : Str), Value.ref lv) ∈ l ∧ (lv, lstO vs ev) ∈ news)
    (fun news r tl => ∃ I, r = .ref I ∧ tl = [(I, liO lv 0)]) := by
  rintro A env h₀ m news h g d t os Q E C D ⟨i1, i2, F, hl, hv⟩ hret
  k_dflt (refine' enterF [("self", .ref pf)] [] ["iter"] ?C ?D ?o ?c ?b ?f ?g ?i ?j ?_)
  kcf_m
  intro A' env' g h₁ t' Q' C' fl D' hQ
  dsimp only [List.map, List.append_nil, List.cons_append, List.nil_append] at fl D'
  kcf_all
  rename_i t8
  refine callIter (D'.nw _ hv).1 ?_
  have D2 := ledPushed D' (.inr trivial) (Heap.get?_push_size (o := liO lv 0) _ rfl) fun b o e => Heap.get?_push_of_some _ e
  kcf_all
  exact hQ _ _ _ _ _ _ D2 fun D9 => hret _ [_] _ _ D9 ⟨_, rfl, rfl⟩
end
section
open PySem.W.X (Led)
open PyProof.Rows PySem.Calls PySem.Spec
set_option pp.deepTerms false
/-- a profile that stands in the ledger -/
def ProfIn (w : World) (news : List (Addr × Obj)) (pf : Addr) (size : Nat) (el : List (List Nat × Int)) : Prop :=
  ∃ pdx o lv lc lnm vvs ev cvs ec, (pf, instObj 695 pdx) ∈ news ∧ (pdx, o) ∈ news ∧ Flds o [("_voters", .ref lv), ("cand_names", .ref lnm), ("candidates", .ref lc)] ∧ (lv, lstO vvs ev) ∈ news ∧ (lc, lstO cvs ec) ∈ news ∧
    IntsN cvs (List.range size) ∧ vvs.length = el.length ∧ ∀ (i : Nat) (v : Value) (e : List Nat × Int), vvs[i]? = some v → el[i]? = some e → VoterIn w news v e.1 e.2
theorem ProfIn.mono {w : World} {news news' : List (Addr × Obj)} {pf : Addr} {size : Nat} {el : List (List Nat × Int)} (P : ProfIn w news pf size el) (h : ∀ p ∈ news, p ∈ news') : ProfIn w news' pf size el :=
  let ⟨pdx, o, lv, lc, lnm, vvs, ev, cvs, ec, a, b, c, d, e, f, g, k⟩ := P; ⟨pdx, o, lv, lc, lnm, vvs, ev, cvs, ec, h _ a, h _ b, c, h _ d, h _ e, f, g, fun i v e h1 h2 => (k i v e h1 h2).mono h⟩
section
variable {w : World} {A : Around} {env : Env} {h₀ h : Heap} {g : Array GenState} {d : Drawn} {t : Nat} {os : OsState} {m : Str → Option Value} {news : List (Addr × Obj)} {n : Nat} {E : Value → Shared → Prop} {ns gs : List Str} {vs vs' : List (Option Value)} {pos xp fp : Pos}
theorem profFacts (w : World) : findIn (hd.heap_39 w.params) (.ref 695) "__iter__" = some (some (.ref 650)) ∧ isFn (hd.heap_39 w.params) (.ref 650) = true := by
  refine ⟨?_, ?_⟩ <;> kernel_rfl!
/-- the iterator over a profile's voters -/
theorem itProf {pf : Addr} {pdx lv : Addr} {o : Obj} {l : List (Str × Value)} {vvs : List Value} {ev : Nat} (C : Cx w A env h₀ (n + 7)) (D : Led h₀ env.locals m h news) (i1 : (pf, instObj 695 pdx) ∈ news) (i2 : (pdx, o) ∈ news) (F : Flds o l) (hl : (("_voters" : Str), Value.ref lv) ∈ l) (hv : (lv, lstO vvs ev) ∈ news) {Q : Value → Shared → Prop}
    (hq : ∀ I oI h' t' Ct P, ItG w I Ct vvs.length (fun i v => vvs[i]? = some v) P → P 0 oI → (∀ h, (∀ p ∈ news, h.get? p.1 = some p.2) → Ct h) → Led h₀ env.locals m h' ((I, oI) :: news) → Q (.ref I) ⟨h', g, d, t', os⟩) : wpAny (model PG w) A (pyIter (.ref pf)) Q E ⟨h, g, d, t, os⟩ := by
  refine owit_iter (s := ⟨h, g, d, t, os⟩) D.fr C.X (InstAt.of_news D.nw i1 i2) (profFacts w).1 (profFacts w).2 ?_
  refine (profIter w pf pdx lv o l vvs ev).t.use C D (by omega) ⟨i1, i2, F, hl, hv⟩ ?_
  rintro _ _ h' t' D' ⟨I, rfl, rfl⟩
  have hI := (D'.nw _ (.head _)).1
  have hne : lv ≠ I := fun q => by
    have h1 := (D'.nw _ (.tail _ hv)).1
    rw [q, hI] at h1
    injection h1 with h1
    have := congrArg Obj.cls h1
    simp [liO, lstO] at this
  refine wpAny_specialOf (r := some (.builtin "list_iterator.__next__")) ⟨_, hI, rfl⟩ slot_listiter_next.lookup ?_
  exact hq I _ h' t' _ _ (ItG.list w I lv hne vvs) ⟨rfl, rfl⟩ (fun h hh => ⟨_, hh _ hv, rfl, _, rfl⟩) D'
end
def hits (a com : List Nat) : Nat := (com.filter fun c => decide (c ∈ a)).length
def Ru.cum (r : Ru) : Nat → Int
  | 0 => 0
  | k + 1 => r.cum k + r.six (k + 1)
def sc (r : Ru) (com : List Nat) (el : List (List Nat × Int)) : Int := (el.map fun e => e.2 * r.cum (hits e.1 com)).sum
theorem sixMul (b c : Int) : mkRat b 6 * (c : Rat) = mkRat (b * c) 6 := by
  have e : ((c : Int) : Rat) = mkRat c 1 := by rw [Rat.mkRat_one]
  rw [e, Rat.mkRat_mul_mkRat]
theorem sixAdd (a b : Int) : mkRat a 6 + mkRat b 6 = mkRat (a + b) 6 := by
  rw [Rat.mkRat_add_mkRat _ _ (by decide) (by decide)]
  have : a * ((6 : Nat) : Int) + b * ((6 : Nat) : Int) = (a + b) * ((6 : Nat) : Int) := by rw [Int.add_mul]
  rw [this]
  exact Rat.mkRat_mul_right (by decide)
theorem sixDen (a : Int) : (mkRat a 6).den ≤ 6 := by
  rw [Rat.den_mkRat]
  simp only [show ¬ ((6 : Nat) = 0) by decide, if_false]
  exact Nat.div_le_self _ _
theorem six1 (a : Int) : mkRat a 6 = mkRat 1 6 * (a : Rat) := by rw [sixMul, Int.one_mul]
theorem sixLt (a b : Int) : decide (mkRat a 6 > mkRat b 6) = decide (a > b) := by
  rw [decide_eq_decide]
  show mkRat b 6 < mkRat a 6 ↔ _
  rw [six1 a, six1 b, Rat.mul_lt_mul_left (by decide +kernel), Rat.intCast_lt_intCast]
theorem sixEq (a b : Int) : decide (mkRat a 6 = mkRat b 6) = decide (a = b) := by
  rw [decide_eq_decide, Rat.mkRat_eq_iff (by decide) (by decide)]; omega
theorem sixOr (r : Ru) (i : Nat) : r.six i = 6 ∨ r.six i = 3 ∨ r.six i = 2 ∨ r.six i = 0 := by
  cases r <;> simp only [Ru.six] <;> (try split) <;> simp
theorem sixB (r : Ru) (i : Nat) : (mkRat (r.six i) 6).den < 1000000 ∧ -1000000 < (mkRat (r.six i) 6).num ∧ (mkRat (r.six i) 6).num < 1000000 := by
  rcases sixOr r i with e | e | e | e <;> rw [e] <;> decide +kernel
end
section
open PySem.W.X (Led)
open PyProof.Rows PySem.Calls PySem.Spec
set_option pp.deepTerms false
section
variable {w : World} {A : Around} {env : Env} {h₀ h : Heap} {g : Array GenState} {d : Drawn} {t : Nat} {os : OsState} {m : Str → Option Value} {news : List (Addr × Obj)} {n : Nat} {E : Value → Shared → Prop} {ns gs : List Str} {vs vs' : List (Option Value)} {pos xp fp yp : Pos}
theorem callWith_any {M : Model} {s : Shared} {f : Value} {k : Keeper} {first : List Value} {Q : Value → Shared → Prop} {P : Heap → Prop} {args : List (Bool × Sem Value)} {keywords : List (Option Str × Sem Value)} (hplain : (args.any (·.1) || keywords.any (·.1.isNone)) = false)
    (hk : ∀ h, P h → Looks M h (keeperOf f) k) (h : wpAny M A (evalArgs f true args keywords) (fun a s₁ => P s₁.heap ∧ wpAny M A (call f (first ++ a.pos) a.kw) Q E s₁) E s) : wpAny M A (callWith pos f first args keywords) Q E s := by
  unfold callWith
  refine wpAny_bind (wpAny_holding (wpAny_mono h (fun a s₁ h₁ => wpAny_bind (wpAny_standAt ?_)) fun _ _ x => x))
  simp only [hplain]
  refine wpAny_bind ((hk _ h₁.1).here ?_)
  have fin : ∀ {t : Sem Value}, wpAny M A t Q E s₁ → wpAny M A (t >>= fun r => holding [r] point >>= fun _ => pure r) Q E s₁ :=
    fun ht => wpAny_bind (wpAny_mono ht (fun r s₂ hr => wpAny_bind (wpAny_holding (wpAny_point (wpAny_pure hr)))) fun _ _ x => x)
  have mk : ∀ mk : Value, wpAny M A (callMarked mk f (first ++ a.pos) a.kw) Q E s₁ := fun mk => by unfold callMarked; exact Calls.wpAny_keep h₁.2
  have op : ∀ vs, wpAny M A (operate vs (call f (first ++ a.pos) a.kw)) Q E s₁ := fun vs => wpAny_operate' h₁.2
  cases k <;> dsimp only <;> first | exact fin h₁.2 | exact fin (op _) | (split <;> first | exact fin h₁.2 | exact fin (mk _) | exact fin (op _))
theorem margKeep {r : Ru} {fv : Value} (C : Cx w A env h₀ n) (D : Led h₀ env.locals m h news) (M : MargV news r fv) : ∃ k, Looks (model PG w) h (keeperOf fv) k := by
  have X := C.X.keeps D.fr.keep
  cases r with
  | geom =>
    obtain ⟨p, td, kd, hsh, tk, e, tb, rfl, hkd, m1, m2, m3⟩ := M
    refine ⟨.caller, (Looks.ld (part := none) (D.nw _ m1).1).andThen ?_⟩
    exact .now
  | pav => obtain rfl := M; obtain ⟨k, _, b⟩ := keeps_K (M := model PG w) (gkeep w (x := "pav_score_fct") (v := .ref 360) (by kba_ints) (by kernel_rfl!)) h X; exact ⟨k, b⟩
  | slav => obtain rfl := M; obtain ⟨k, _, b⟩ := keeps_K (M := model PG w) (gkeep w (x := "slav_score_fct") (v := .ref 374) (by kba_ints) (by kernel_rfl!)) h X; exact ⟨k, b⟩
  | cc => obtain rfl := M; obtain ⟨k, _, b⟩ := keeps_K (M := model PG w) (gkeep w (x := "cc_score_fct") (v := .ref 388) (by kba_ints) (by kernel_rfl!)) h X; exact ⟨k, b⟩
  | av => obtain rfl := M; obtain ⟨k, _, b⟩ := keeps_K (M := model PG w) (gkeep w (x := "av_score_fct") (v := .ref 381) (by kba_ints) (by kernel_rfl!)) h X; exact ⟨k, b⟩
theorem rCallMarg {r : Ru} {fv v : Value} {x y : Str} {Q : Value → Shared → Prop} (C : Cx w A env h₀ n) (fl : FnL ns gs env.scope) (D : Led h₀ env.locals (vec ns vs) h news) (M : MargV news r fv) (h2 : At2 ns vs x fv) (h3 : At2 ns vs y v)
    (hq : wpAny (model PG w) A (call fv [v]) Q E ⟨h, g, d, t, os⟩) : wpAny (model PG w) A (eval (.Call (.Name x fp) [.Name y yp] [] pos) env) Q E ⟨h, g, d, t, os⟩ := by
  obtain ⟨k, hk⟩ := margKeep C D M
  refine wpAny_Call_Name_kw (rLoc C fl D h2 (callWith_any (P := fun h' => h' = h) (k := k) rfl (fun h' e => e ▸ hk) (evalArgs_plain (args_cons (rLoc C fl D h3 (args_nil ?_)) (by rfl)))))
  exact ⟨rfl, hq⟩
end
end
section
open PySem.W.X (Led)
open PyProof.Rows PySem.Calls PySem.Spec
set_option pp.deepTerms false
theorem thieleS (w : World) (r : Ru) (ts : Tok) (pf a : Addr) (size : Nat) (el : List (List Nat × Int)) (oa : Obj) (vs : List Value) (com : List Nat) (hnd : com.Nodup) (h2 : com.length ≤ 2) :
    Spec w (.ref 346) [.str r.str ts, .ref pf, .ref a] [] 40 (fun news => ProfIn w news pf size el ∧ (a, oa) ∈ news ∧ SrcO w a oa vs ∧ IntsN vs com) (fun news res tl => NumV tl res (mkRat (sc r com el) 6)) := by
  rintro A env h₀ m news h g d t os Q E C D ⟨hP, ha, S, hi⟩ hret
  k_dflt (refine' enterF [("scorefct_id", .str r.str ts), ("profile", .ref pf), ("committee", .ref a)] ["marginal_scorefct", "score", "vote", "cand_in_com", "_"] ["get_marginal_scorefct", "len", "set"] ?C ?D ?o ?c ?b ?f ?g ?i ?j ?_)
  kcf_m
  intro A' env' gb h₁ t' Q' C' fl D' hQ
  dsimp only [List.map, List.append_nil, List.cons_append, List.nil_append] at fl D'
  kcf_all
  refine rLenS C' D' ha S (by rw [hi.1]; omega) fun tk1 t1 => ?_
  kcf_all
  refine (margT w r ts tk1 _).t.use (by assumption) (by assumption) (by decide) trivial ?_
  intro fv tl h3 t3 D3 hM
  kcf_all
  rename_i t9 h9 D9
  clear D3 D'
  have hP2 := hP
  obtain ⟨pdx, ob, lv, lc, lnm, vvs, ev, cvs, ec, i1, i2, F, m1, m2, hcv, hlen, hvot⟩ := hP2
  have hB : ∀ p ∈ news, p ∈ tl ++ news := fun p hp => List.mem_append_right _ hp
  generalize hBe : tl ++ news = B at D9 hM hB
  have haB := hB _ ha
  refine rForIt (h₀ := gb) (d := d) (os := os) (fun _ => by rfl) (rLoc C' fl D9 (by kaf_pre) ?_)
  refine itProf (n := 32) C' D9 (hB _ i1) (hB _ i2) F (by kat_tups) (hB _ m1) fun I oI h5 t5 Ct P It hP0 hct D5 => ?_
  refine ⟨I, oI, _, _, B, (fun i v pre post g1 => g1 = g ∧ post = B ∧ ∃ scv v5 v6 v7, v = [some (.str r.str ts), some (.ref pf), some (.ref a), some fv, some scv, v5, v6, v7] ∧ NumV pre scv (mkRat (sc r com (el.take i)) 6)), _, _, _, Ct, _, _, P, rfl, rfl, C'.hand, It, hP0, .inl ⟨_, _, rfl⟩, D5, ⟨rfl, rfl, _, _, _, _, rfl, ?_⟩, ?_, ?_, ?_⟩
  · exact .inl ⟨0, _, rfl, by rw [List.take_zero]; show mkRat 0 6 = ((0 : Int) : Rat); decide +kernel⟩
  · rintro i vs pre post g h ⟨rfl, rfl, _⟩ hh
    exact hct h fun p hp => hh p (List.mem_append_right _ hp)
  · rintro i vsx pre post oI' g1 h6 t6 v hlt hV ⟨rfl, rfl, scv, v5, v6, v7, rfl, hN⟩ D6 hPi
    refine wpAny_assign_Name (rSto C' fl D6 (by kaf_suf) fun h7 t7 D7 => ?_)
    kcf_all
    rename_i h8 t8 D8
    clear D7 D6
    have hie : i < el.length := by rw [← hlen]; exact hlt
    obtain ⟨vo, vdx, vob, cs, dd, x, ep, tw, rfl, j1, j2, F2, j3, hx⟩ := hvot i v el[i] hV (List.getElem?_eq_getElem hie)
    have hB2 : ∀ p ∈ news, p ∈ pre ++ (I, oI') :: post := fun p hp => List.mem_append_right _ (.tail _ (hB p hp))
    have hM2 : MargV (pre ++ (I, oI') :: post) r fv := hM.mono fun p hp => List.mem_append_right _ (.tail _ hp)
    have hS2 : ∀ p ∈ pre ++ post, p ∈ pre ++ (I, oI') :: post := fun p hp => by
      rcases List.mem_append.mp hp with q | q
      · exact List.mem_append_left _ q
      · exact List.mem_append_right _ (.tail _ q)
    have k1 := hB2 _ j1
    have k2 := hB2 _ j2
    have k3 := hB2 _ j3
    have ka := hB2 _ ha
    refine rFor4 (d := d) (os := os) C' (fun _ => by rfl) ?_
    kcf_all
    generalize hB2e : pre ++ (I, oI') :: post = B2 at D8 k1 k2 k3 ka hM2 hS2 hB2
    refine callSet (s := ⟨_, _, _, _, _⟩) C'.hand (S.src (C'.X.keeps D8.fr.keep) (D8.nw _ ka).1) hi fun h10 t10 e10 y ey hy ky => ?_
    have D10 := ledPushed D8 (.inr trivial) ey ky
    dsimp only at D10 ey hy ⊢
    have hcn : cs ≠ h8.objs.size := Nat.ne_of_lt (Heap.lt_size (D8.nw _ k3).1)
    clear D8
    generalize h8.objs.size = s0 at D10 ey hcn ⊢
    kcf_all
    refine opAnd4 (s := ⟨h10, g1, d, _, os⟩) (C'.X.keeps D10.fr.keep) ey (D10.nw _ (.tail _ k3)).1 hcn fun h11 z ez e1 e2 e3 _ => ?_
    have D11 := ledPushed D10 (.inr trivial) e1 e3
    dsimp only at D11 e1 ⊢
    clear D10
    generalize h10.objs.size = s1 at D11 e1 ⊢
    have hz : Holds4 z (com.filter fun c => decide (c ∈ el[i].1)) := fun u => by
      rw [e2 u, hy u, hx u]
      by_cases q1 : u ∈ com <;> by_cases q2 : u ∈ el[i].1 <;> simp [q1, q2]
    have hzl : z.vs.length = hits el[i].1 com := holds_len hz (hnd.filter _) fun u hu => hi.lt u (List.mem_filter.mp hu).1
    refine ⟨s1, _, _, _, _, _, (fun j v pre' post' g2 => g2 = g1 ∧ post' = (s1, setO w (.type "set") none z ez) :: (s0, setO w (.type "set") none y e10) :: B2 ∧ ∃ scv' tk' u7, v = [some (.str r.str ts), some (.ref pf), some (.ref a), some fv, some scv', some (.ref vo), some (.int (j : Int) tk'), u7] ∧
      NumV (pre' ++ pre) scv' (mkRat (sc r com (el.take i) + el[i].2 * r.cum j) 6)), _, _, _, rfl, rfl, .set rfl rfl, .head _, D11, ⟨rfl, rfl, _, _, _, rfl, ?_⟩, ?_, ?_, ?_⟩
    · rw [show r.cum 0 = 0 from rfl, Int.mul_zero, Int.add_zero]
      exact hN
    · rintro j v pre' post' g2 ⟨rfl, rfl, _⟩
      exact List.mem_append_right _ (.head _)
    · rintro I2 P2 j hj vs2 pre' post' o2 g2 h12 t12 ⟨rfl, rfl, scv', tk', u7, rfl, hN3⟩ D12 hP2
      refine wpAny_assign_Name (rSto C' fl D12 (by kaf_suf) fun h13 t13 D13 => ?_)
      clear D12 D11
      have hj2 : j + 1 ≤ 2 := by
        rw [ordW_len, hzl] at hj
        have := List.length_filter_le (fun c => decide (c ∈ el[i].1)) com
        unfold hits at hj; omega
      have hB3 : ∀ p ∈ B2, p ∈ pre' ++ (I2, o2) :: (s1, setO w (.type "set") none z ez) :: (s0, setO w (.type "set") none y e10) :: B2 := fun p hp => List.mem_append_right _ (.tail _ (.tail _ (.tail _ hp)))
      have hM3 := hM2.mono hB3
      have q1 := hB3 _ k1
      have q2 := hB3 _ k2
      have hN4 : NumV (pre' ++ (I2, o2) :: (s1, setO w (.type "set") none z ez) :: (s0, setO w (.type "set") none y e10) :: B2) scv' (mkRat (sc r com (el.take i) + el[i].2 * r.cum j) 6) := hN3.mono fun p hp => by
        rcases List.mem_append.mp hp with q | q
        · exact List.mem_append_left _ q
        · exact hB3 _ (hS2 _ (List.mem_append_left _ q))
      clear k1 k2 k3 ka hN3
      obtain ⟨L3, hL3⟩ : ∃ L3, L3 = pre' ++ (I2, o2) :: (s1, setO w (.type "set") none z ez) :: (s0, setO w (.type "set") none y e10) :: B2 := ⟨_, rfl⟩
      rw [← hL3] at D13 hM3 q1 q2 hN4
      kcf_all
      refine rCallMarg C' fl (by assumption) hM3 (by kaf_pre) (by kaf_pre) ?_
      refine (margCall w r fv (j + 1) _ (by omega) hj2).use C' (by assumption) (by decide) hM3 ?_
      intro r1 tl1 h14 t14 D14 f1
      kcf_all
      refine (opMulI w r1 _ _ _).use C' (by assumption) (by decide) ⟨f1.mono fun p hp => List.mem_append_left _ hp, sixB r (j + 1)⟩ ?_
      intro r2 tl2 h15 t15 D15 f2
      rw [sixMul] at f2
      kcf_all
      refine (opIAdd w scv' r2 _ _).use C' (by assumption) (by decide) ⟨hN4.mono fun p hp => List.mem_append_right _ (List.mem_append_right _ hp), f2.mono fun p hp => List.mem_append_left _ hp, ?_⟩ ?_
      · have a1 := sixDen (sc r com (el.take i) + el[i].2 * r.cum j)
        have a2 := sixDen (r.six (j + 1) * el[i].2)
        have := Nat.mul_le_mul a1 a2
        omega
      intro r3 tl3 h16 t16 D16 f3
      rw [sixAdd] at f3
      kcf_all
      rename_i h17 t17 D17
      rw [hL3] at D17
      have eL : tl3 ++ (tl2 ++ (tl1 ++ (pre' ++ (I2, o2) :: (s1, setO w (.type "set") none z ez) :: (s0, setO w (.type "set") none y e10) :: B2))) = (tl3 ++ (tl2 ++ (tl1 ++ pre'))) ++ (I2, o2) :: (s1, setO w (.type "set") none z ez) :: (s0, setO w (.type "set") none y e10) :: B2 := by simp only [List.append_assoc]
      rw [eL] at D17
      refine FEnd.mk _ _ D17 hP2 ⟨rfl, rfl, r3, _, _, rfl, ?_⟩
      have e6 : sc r com (el.take i) + el[i].2 * r.cum j + r.six (j + 1) * el[i].2 = sc r com (el.take i) + el[i].2 * r.cum (j + 1) := by
        rw [show r.cum (j + 1) = r.cum j + r.six (j + 1) from rfl, Int.mul_add, Int.mul_comm (r.six (j + 1)), Int.add_assoc]
      rw [e6] at f3
      exact .inr (f3.mono fun p hp => List.mem_append_left _ (List.mem_append_left _ hp))
    · rintro vs2 pre' post' g2 h12 t12 ⟨rfl, rfl, scv', tk', u7, rfl, hN3⟩ D12
      clear D11
      kcf_all
      subst hB2e
      have eL : pre' ++ (s1, setO w (.type "set") none z ez) :: (s0, setO w (.type "set") none y e10) :: (pre ++ (I, oI') :: post) = (pre' ++ (s1, setO w (.type "set") none z ez) :: (s0, setO w (.type "set") none y e10) :: pre) ++ (I, oI') :: post := by simp only [List.append_assoc, List.cons_append]
      rw [eL] at D12
      refine FEnd.mk _ _ D12 hPi ⟨rfl, rfl, scv', _, _, _, rfl, ?_⟩
      rw [ordW_len, hzl] at hN3
      have e6 : sc r com (el.take i) + el[i].2 * r.cum (hits el[i].1 com) = sc r com (el.take (i + 1)) := by
        unfold sc
        rw [List.take_succ_eq_append_getElem hie, List.map_append, List.sum_append, List.map_cons, List.map_nil, List.sum_cons, List.sum_nil, Int.add_zero]
      rw [e6] at hN3
      refine hN3.mono fun p hp => ?_
      rcases List.mem_append.mp hp with q | q
      · exact List.mem_append_left _ q
      · exact List.mem_append_right _ (.tail _ (.tail _ q))
  · rintro vsx pre post g1 h6 t6 ⟨rfl, rfl, scv, v5, v6, v7, rfl, hN⟩ D6
    kcf_all
    refine hQ _ _ _ _ _ _ D6 fun D9 => ?_
    subst hBe
    rw [← List.append_assoc] at D9
    rw [show vvs.length = el.length from hlen, List.take_length] at hN
    exact hret scv (pre ++ tl) _ _ D9 (hN.mono fun p hp => List.mem_append_left _ hp)
end
open PySem.W.X (Led)
open PyProof.Rows PySem.Calls PySem.Spec
local macro_rules | `(tactic| kc_close) => `(tactic| with_reducible first
  | ((with_reducible show wpAny _ _ (eval (Expr.Call (Expr.Attribute _ _ _) _ _ _) _) _ _ _); first
      | refine MethodCall_ ?_ (by with_unfolding_all rfl)
      | refine methodCall_KW ?_ (by with_unfolding_all rfl))
  | ((with_reducible show wpAny _ _ (getMethod (Value.ref _) _ _) _ _ _); first
      | refine rMethL (by assumption) (by kat_tups) slot_list_append PySem.F.type_list_append ?_
      | refine rMeth (by assumption) (by assumption) (by kat_tups) (by kat_tups) (by assumption) (by with_unfolding_all rfl) (by kernel_rfl!) (by k_is) (by kernel_rfl!) ?_)
  | ((with_reducible show wpAny _ _ (callWith _ (Value.ref _) _ (backTo _ (starEach [] _)) []) _ _ _); refine rCW0 (by assumption) (by assumption) (by kernel_rfl!) ?_)
  | ((with_reducible show wpAny _ _ (callWith _ (Value.ref _) _ _ []) _ _ _); refine rCW (by assumption) (by kernel_rfl!) (by with_unfolding_all rfl) (by with_unfolding_all rfl) ?_)
  | ((with_reducible show wpAny _ _ (callWith _ (Value.ref _) _ (backTo _ (starEach [] _)) _) _ _ _); refine rCWKW0 (by assumption) (by kernel_rfl!) (by with_unfolding_all rfl) (by with_unfolding_all rfl) ?_)
  | ((with_reducible show wpAny _ _ (callWith _ (Value.ref _) _ _ _) _ _ _); refine rCWKW (by assumption) (by kernel_rfl!) (by with_unfolding_all rfl) (by with_unfolding_all rfl) (by with_unfolding_all rfl) ?_)
  | ((with_reducible show wpAny _ _ (callWith _ (Value.builtin _) _ _ []) _ _ _); refine rCWB (by with_unfolding_all rfl) (by with_unfolding_all rfl) ?_)
  | ((with_reducible show wpAny _ _ (exec (Stmt.Expr _ _) _) _ _ _); refine wpAny_Expr_any ?_ (interF (by assumption)) (by with_unfolding_all rfl))
  | ((with_reducible show wpAny _ _ (eval (Expr.List _ _) _) _ _ _); refine rLstD ?_)
  | ((with_reducible show wpAny _ _ (newList _) _ _ _); (refine rNewL (by assumption) (by first | decide | simp) ?_; intro a' h' D'))
  | ((with_reducible show wpAny _ _ (call (Value.type "range") [Value.int _ _] _) _ _ _); (refine rRange (by assumption) ?_; intro rg' h' t' u' v' D'))
  | ((with_reducible show wpAny _ _ (eval (Expr.Name _ _) _) _ _ _); refine rCellN (by assumption) (by assumption) (by assumption) (by kat_tups) (by assumption) (by decide) ?_))

section
open PySem.W.X (Led)
open PyProof.Rows PySem.Calls PySem.Spec
set_option pp.deepTerms false
set_option pp.deepTerms false
/-- Profile(n) -/
theorem profMake (w : World) (n : Int) (tn : Tok) (h0 : 0 < n) (h1 : n ≤ 4) : Spec w (.ref 695) [.int n tn] [] 14 (fun _ => True) (fun _ r tl => ∃ pf pdx o lv lc lnm cvs ec B, r = .ref pf ∧ tl = (lv, lstO [] 0) :: B ∧ (pf, instObj 695 pdx) ∈ B ∧ (pdx, o) ∈ B ∧
    Flds o [("_voters", .ref lv), ("cand_names", .ref lnm), ("candidates", .ref lc)] ∧ (lc, lstO cvs ec) ∈ B ∧ IntsN cvs (List.range n.toNat)) := by
  intro A env h₀ m news h g d t os Q E C D _ hret
  k_dflt (refine' makeL (n := 12) "self" [("num_cand", .int n tn), ("cand_names", .none)] [("num_cand", .int n tn)] [] ["ValueError", "str", "list", "range", "len"] ?C ?D ?m ?i ?f ?o ?c ?b ?kd ?nd ?lb ?fl ?g ?k ?_)
  (case C => assumption); (case D => assumption); (case m => k_is); (case i => k_is); (case f => k_is); (case o => k_is); (case c => k_is); (case b => (intro x' h' hK; first | exact BindsTo.of_eq rfl | exact binds_K hK rfl (by k_is) rfl rfl rfl | fail "ENT: no rule for these arguments"))
  (case kd => rfl); (case nd => decide +kernel); (case lb => (intro x; rfl)); (case fl => kernel_rfl!); (case g => rfl); (case k => rfl)
  intro x dx A' L' env' gb h₁ t' Q' cells C' he Y fl D' hQ
  dsimp only [List.map, List.append_nil, List.cons_append, List.nil_append] at fl D'
  obtain ⟨oc, rfl, hoc⟩ := CellsAre.one (show CellsAre _ [(Str.ofString "cand_names", L' + 1)] cells from Y)
  have hoc : oc.data = .cell (some .none) := hoc
  dsimp only [List.cons_append, List.nil_append] at D'
  kcf_all
  refine rListRange C' (by assumption) (by kat_tups) (by omega) h1 fun lc h2 t2 cvs ec D2 hcv => ?_
  kcf_all
  refine rCompD ["cand"] ["str"] [] C' (by assumption) (fun _ => by rfl) (by rfl) (by rfl) rfl (by rfl) (by kernel_rfl!) ?_
  kcf_all
  refine rItRange (by assumption) (.head _) (by omega) (by omega) fun I oI h3 Ct P It hP0 hct D3 => ?_
  refine compIt (fun i ys pre => pre = [] ∧ ys.length = i) C'.hand It hP0 hct D3 (.inl ⟨_, _, rfl⟩) (by omega) ⟨rfl, rfl⟩ (fun i ys pre q => by omega) ?_ ?_
  · rintro gB C2 D2 env2 i ys vs2 pre e2 o2 h4 t4 v hi ⟨tv, rfl⟩ he2 _ _ Cc flc ⟨rfl, hl⟩ hP2 D4
    obtain ⟨c1, e1⟩ := vec1 "cand" vs2
    rw [e1] at D4
    refine wpAny_assign_Name (rSto Cc flc D4 (by kaf_suf) fun h5 t5 D5 => ?_)
    refine wpAny_tests_nil (Br.y rfl ?_)
    kcf_all
    refine rStrI (by omega) (by omega) fun tk6 t6 => ?_
    exact CIt.mk [] (by assumption) hP2 ⟨rfl, by rw [List.length_append, hl]; rfl⟩
  · rintro D2 ys e2 pre h4 t4 _ ⟨rfl, hl⟩ D4
    dsimp only [List.nil_append] at D4
    clear D3
    kcf_all
    refine rCellLd (o := oc) C'.kind (by assumption) (by rw [he]; rfl) (c := L' + 1) (by rw [he]; rfl) (by kat_tups) hoc (by decide) ?_
    refine wpAny_pure ?_
    kcf_all
    refine hQ _ _ _ _ _ _ (by assumption) fun D9 => ⟨rfl, ?_⟩
    exact hret _ (_ :: [_, _, _, _, _, _, _]) _ _ D9 ⟨x, dx, _, _, lc, _, cvs, ec, _, rfl, rfl, by kat_tups, by kat_tups, by assumption, by kat_tups, hcv⟩
end
section
open PySem.W.X (Led)
open PyProof.Rows PySem.Calls PySem.Spec
set_option pp.deepTerms false
theorem ncFacts (w : World) : plainGet (hd.heap_39 w.params) 695 "num_cand" = true ∧ hasDictIn (hd.heap_39 w.params) 695 = true ∧ (∃ p rest, findIn (hd.heap_39 w.params) (.ref 695) "num_cand" = some (some (.ref p)) ∧ specialIn (hd.heap_39 w.params) (.ref p) "__get__" = some (some (.builtin "property.__get__")) ∧ takesIn (hd.heap_39 w.params) (.ref p) = some true ∧ recIn (hd.heap_39 w.params) p "property" = some (.ref 579 :: rest)) := by
  refine ⟨by kernel_rfl!, by kernel_rfl!, ?_⟩
  refine ⟨580, [.none, .none, .none, .str "num_cand" 1052, .bool false], ?_, ?_, ?_, ?_⟩ <;> kernel_rfl!
section
variable {w : World} {A : Around} {env : Env} {h₀ h : Heap} {g : Array GenState} {d : Drawn} {t : Nat} {os : OsState} {m : Str → Option Value} {news : List (Addr × Obj)} {n : Nat} {E : Value → Shared → Prop} {ns gs : List Str} {vs vs' : List (Option Value)} {pos xp : Pos} {pf pdx lc : Addr} {o : Obj} {l : List (Str × Value)} {x : Str} {cvs : List Value} {ec : Nat}
theorem rNumCand {Q : Value → Shared → Prop} (C : Cx w A env h₀ (n + 4)) (fl : FnL ns gs env.scope) (D : Led h₀ env.locals (vec ns vs) h news) (h2 : At2 ns vs x (.ref pf)) (i1 : (pf, instObj 695 pdx) ∈ news) (i2 : (pdx, o) ∈ news) (F : Flds o l) (hl : (("candidates" : Str), Value.ref lc) ∈ l) (hv : (lc, lstO cvs ec) ∈ news) (hz : cvs.length < 1000000)
    (hq : ∀ tk h' t', Led h₀ env.locals (vec ns vs) h' news → Q (.int (cvs.length : Int) tk) ⟨h', g, d, t', os⟩) : wpAny (model PG w) A (eval (.Attribute (.Name x xp) "num_cand" pos) env) Q E ⟨h, g, d, t, os⟩ := by
  refine Attribute_Name_ (rLoc C fl D h2 ?_) (attr_name _ _ _ _ _)
  obtain ⟨f1, f2, p, rest, f3, f4, f5, f6⟩ := ncFacts w
  have F' := F
  obtain ⟨es, n', rfl, _⟩ := F'
  refine get_prop (s := ⟨h, g, d, t, os⟩) D.fr C.X (InstAt.of_news D.nw i1 i2) f1 f2 f3 f4 f5 f6 ?_
  have C1 : Cx w A.in1 env h₀ 3 := (C.le (by omega : 4 ≤ n + 4)).in1
  k_dflt (refine' enterC (A := A.in1) (n := 2) [("self", .ref pf)] [] ["len"] ?C ?D ?o ?c ?b ?f ?g ?i ?j ?_)
  (case C => exact C1); (case D => exact D); (case o => k_is); (case c => k_is); (case b => (intro hK; first | exact BindsTo.of_eq rfl | exact binds_K hK rfl (by k_is) rfl rfl rfl)); (case f => kernel_rfl!); (case g => exact rfl); (case i => exact rfl); (case j => decide)
  intro A' env' gb h₁ t' Q' C' fl' D' hQ
  dsimp only [List.map, List.append_nil, List.cons_append, List.nil_append] at fl' D'
  clear fl D
  kcf_all
  refine rLenS C' D' hv (.list rfl rfl) hz fun tk1 t1 => ?_
  kcf_all
  refine hQ _ _ _ _ _ _ D' fun D9 => ?_
  show wpAny _ _ (handedOut (.int _ _)) _ _ _
  rw [handedOut_of rfl]
  exact wpAny_pure (hq tk1 _ _ D9)
end
theorem VoterIn.congr {w : World} {news : List (Addr × Obj)} {v : Value} {nsl nsl' : List Nat} {wt : Int} (V : VoterIn w news v nsl wt) (e : ∀ u, u ∈ nsl ↔ u ∈ nsl') : VoterIn w news v nsl' wt :=
  let ⟨vo, vdx, o, cs, dd, x, ep, tw, a, b, c, d, e1, f⟩ := V; ⟨vo, vdx, o, cs, dd, x, ep, tw, a, b, c, d, e1, f.congr e⟩
/-- Profile._unique_voter -/
theorem uniqT (w : World) (pf pdx lc vo vdx cs : Addr) (o vob : Obj) (l : List (Str × Value)) (dd : Option Addr) (x : S4) (ep : Nat) (cvs : List Value) (ec size : Nat) (nsl : List Nat) (wt : Int) (tw : Tok) (hw : 0 < wt) (hs : ∀ u ∈ nsl, u < size) :
    TSpecG gk g0 w (call (.ref 601) [.ref pf, .ref vo]) 40 (fun dyn => (pf, instObj 695 pdx) ∈ dyn ∧ (pdx, o) ∈ dyn ∧ Flds o l ∧ (("candidates" : Str), Value.ref lc) ∈ l ∧ (lc, lstO cvs ec) ∈ dyn ∧ cvs.length = size ∧ size < 1000000 ∧
      (vo, instObj 732 vdx) ∈ dyn ∧ (vdx, vob) ∈ dyn ∧ Flds vob [("weight", .int wt tw), ("approved", .ref cs)] ∧ (cs, setO w (.ref 75) dd x ep) ∈ dyn ∧ Holds4 x nsl)
    (fun dyn r tl => VoterIn w (tl ++ dyn) r nsl wt) := by
  rintro A env h₀ m dyn T h g d t os Q E C G hT D ⟨i1, i2, F, hl, hv, hsz, hsz2, j1, j2, F2, j3, hx⟩ hret
  k_dflt (refine' wpAny_call (enterC [("self", .ref pf), ("voter", .ref vo)] ["_voter"] ["isinstance", "Voter"] ?C ?D ?o ?c ?b ?f ?g ?i ?j ?_))
  kcf_m
  intro A' env' gb h₁ t' Q' C' fl D' hQ
  dsimp only [List.map, List.append_nil, List.cons_append, List.nil_append] at fl D'
  have k1 : ∀ p ∈ dyn, p ∈ dyn ++ T.l := fun p hp => List.mem_append_left _ hp
  have m1 := k1 _ i1
  have m2 := k1 _ i2
  have m3 := k1 _ hv
  have n1 := k1 _ j1
  have n2 := k1 _ j2
  have n3 := k1 _ j3
  kcf_all
  refine rNumCand (n := 35) C' fl D' (by kaf_pre) m1 m2 F hl m3 (by omega) fun tk h2 t2 D2 => ?_
  clear D'
  kcf_all
  obtain ⟨nsl', hi', hnd', hmem'⟩ := ordN w cs x ep
  have hme : ∀ u, u ∈ nsl' ↔ u ∈ nsl := fun u => (hmem' u).trans (hx.memI u)
  refine (voterK w cs _ _ nsl' wt tw tk cvs.length).use dyn C' (by decide) G hT D2 ⟨j3, .cs rfl rfl, hi', hnd', hw, fun u hu => by rw [hsz]; exact hs u ((hme u).mp hu)⟩ ?_
  intro r tl T3 g3 h3 t3 G3 hT3 D3 hv3
  kcf_all
  exact hQ _ _ _ _ _ _ (by assumption) fun D9 => hret _ tl T3 _ _ _ G3 hT3 D9 (hv3.congr hme)
theorem notLst {a lv : Addr} {o : Obj} {vvs : List Value} {ev : Nat} {A B : List (Addr × Obj)} (h : (a, o) ∈ A ++ (lv, lstO vvs ev) :: B) (hc : o.cls ≠ .type "list") : (a, o) ∈ A ++ B := by
  rcases List.mem_append.mp h with q | q
  · exact List.mem_append_left _ q
  · rcases List.mem_cons.mp q with q | q
    · cases q; exact absurd rfl hc
    · exact List.mem_append_right _ q
theorem Flds.cls {o : Obj} {l : List (Str × Value)} (F : Flds o l) : o.cls ≠ .type "list" := by
  obtain ⟨es, n, rfl, _⟩ := F
  intro q
  have : (Value.type "dict") = .type "list" := q
  injection this with this
  exact absurd this (by decide)
theorem VoterIn.drop {w : World} {lv : Addr} {vvs : List Value} {ev : Nat} {A B : List (Addr × Obj)} {v : Value} {nsl : List Nat} {wt : Int} (V : VoterIn w (A ++ (lv, lstO vvs ev) :: B) v nsl wt) : VoterIn w (A ++ B) v nsl wt := by
  obtain ⟨vo, vdx, o, cs, dd, x, ep, tw, a, b, c, d, e, f⟩ := V
  exact ⟨vo, vdx, o, cs, dd, x, ep, tw, a, notLst b (by intro q; cases q), notLst c d.cls, d, notLst e (by intro q; cases q), f⟩
/-- profile.add_voter(voter) -/
theorem addVoter {w : World} {A : Around} {env : Env} {h₀ h : Heap} {g : Array GenState} {d : Drawn} {t : Nat} {os : OsState} {m : Str → Option Value} {Q E : Value → Shared → Prop} {T : Tabs} {pf pdx lv lc vo vdx cs : Addr} {o vob : Obj} {l : List (Str × Value)} {dd : Option Addr} {x : S4} {ep ev : Nat} {vvs cvs : List Value} {ec size : Nat} {nsl : List Nat} {wt : Int} {tw : Tok} {P1 P2 : List (Addr × Obj)}
    (C : Cx w A env h₀ 44) (G : GB gk g0 g) (hT : T.ok) (D : Led h₀ env.locals m h ((P1 ++ (lv, lstO vvs ev) :: P2) ++ T.l)) (i1 : (pf, instObj 695 pdx) ∈ P1 ++ P2) (i2 : (pdx, o) ∈ P1 ++ P2) (F : Flds o l) (hl : (("candidates" : Str), Value.ref lc) ∈ l) (hlv : (("_voters" : Str), Value.ref lv) ∈ l) (hn : l.all (fun p => !(p.1 == Str.ofString "_unique_voter")) = true) (hv : (lc, lstO cvs ec) ∈ P1 ++ P2) (hsz : cvs.length = size) (hsz2 : size < 1000000)
    (j1 : (vo, instObj 732 vdx) ∈ P1 ++ P2) (j2 : (vdx, vob) ∈ P1 ++ P2) (F2 : Flds vob [("weight", .int wt tw), ("approved", .ref cs)]) (j3 : (cs, setO w (.ref 75) dd x ep) ∈ P1 ++ P2) (hx : Holds4 x nsl) (hw : 0 < wt) (hs : ∀ u ∈ nsl, u < size) (hvl : vvs.length < 1000)
    (hq : ∀ v' tl (T' : Tabs) g' h' t', GB gk g0 g' → T'.ok → Led h₀ env.locals m h' ((tl ++ P1 ++ (lv, lstO (vvs ++ [v']) (ev + 1)) :: P2) ++ T'.l) → VoterIn w (tl ++ (P1 ++ P2)) v' nsl wt → Q .none ⟨h', g', d, t', os⟩) :
    wpAny (model PG w) A (call (.ref 608) [.ref pf, .ref vo]) Q E ⟨h, g, d, t, os⟩ := by
  k_dflt (refine' wpAny_call (enterC (n := 43) [("self", .ref pf), ("voter", .ref vo)] [] [] ?C ?D ?o ?c ?b ?f ?g ?i ?j ?_))
  kcf_m
  intro A' env' gb h₁ t' Q' C' fl D' hQ
  dsimp only [List.map, List.append_nil, List.cons_append, List.nil_append] at fl D'
  have k0 : ∀ p ∈ P1 ++ P2, p ∈ P1 ++ (lv, lstO vvs ev) :: P2 := fun p hp => by
    rcases List.mem_append.mp hp with q | q
    · exact List.mem_append_left _ q
    · exact List.mem_append_right _ (.tail _ q)
  have k1 : ∀ p ∈ P1 ++ P2, p ∈ (P1 ++ (lv, lstO vvs ev) :: P2) ++ T.l := fun p hp => List.mem_append_left _ (k0 p hp)
  have m1 := k1 _ i1
  have m2 := k1 _ i2
  have m4 : (lv, lstO vvs ev) ∈ (P1 ++ (lv, lstO vvs ev) :: P2) ++ T.l := List.mem_append_left _ (List.mem_append_right _ (.head _))
  kcf_all
  refine rMeth C' D' m1 m2 F hn (by kernel_rfl!) (by k_is) (by kernel_rfl!) ?_
  kcf_all
  refine (uniqT w pf pdx lc vo vdx cs o vob l dd x ep cvs ec size nsl wt tw hw hs).use (P1 ++ (lv, lstO vvs ev) :: P2) C' (by decide) G hT D' ⟨k0 _ i1, k0 _ i2, F, hl, k0 _ hv, hsz, hsz2, k0 _ j1, k0 _ j2, F2, k0 _ j3, hx⟩ ?_
  intro v' tl T3 g3 h3 t3 G3 hT3 D3 hv3
  have e1 : ∀ o', tl ++ ((P1 ++ (lv, o') :: P2) ++ T3.l) = (tl ++ P1) ++ (lv, o') :: (P2 ++ T3.l) := fun o' => by simp only [List.append_assoc, List.cons_append]
  rw [e1] at D3
  rw [← List.append_assoc] at hv3
  have hv4 := hv3.drop
  rw [List.append_assoc] at hv4
  kcf_all
  refine rApp D3 (UpdG.z.app (tl ++ P1)) (by omega) fun h4 D4 => ?_
  kcf_all
  have e2 : (tl ++ P1) ++ (lv, lstO (vvs ++ [v']) (ev + 1)) :: (P2 ++ T3.l) = (tl ++ P1 ++ (lv, lstO (vvs ++ [v']) (ev + 1)) :: P2) ++ T3.l := by simp only [List.append_assoc, List.cons_append]
  rw [e2] at D4
  exact hQ _ _ _ _ _ _ D4 fun D9 => hq v' tl T3 _ _ _ G3 hT3 D9 hv4
end
section
open PySem.W.X (Led)
open PyProof.Rows PySem.Calls PySem.Spec
set_option pp.deepTerms false
section
variable {w : World} {A : Around} {env : Env} {h₀ h : Heap} {g : Array GenState} {d : Drawn} {t : Nat} {os : OsState} {m : Str → Option Value} {news : List (Addr × Obj)} {n : Nat} {E : Value → Shared → Prop} {ns gs : List Str} {vs vs' : List (Option Value)} {pos xp : Pos} {a : Addr} {ys : List Value} {e : Nat} {value slice : Expr}
/-- an item of a list, of a tuple -/
theorem rItem {k : Int} {u : Tok} {v : Value} {Q : Value → Shared → Prop} {L : Addr} (D : Led h₀ L m h news) (hm : (a, lstO ys e) ∈ news) (h0 : 0 ≤ k) (hz : k < 1000000) (hx : ys[k.toNat]? = some v) (hs : subscripted slice false (.ref a) (.int k u) = operate [.ref a, .int k u] (getItem (.ref a) (.int k u))) (hq : Q v ⟨h, g, d, t, os⟩) :
    wpAny (model PG w) A (subscriptTail value slice (.ref a) (.int k u)) Q E ⟨h, g, d, t, os⟩ := by
  have hl : h.IsList a ys.toArray := ⟨_, (D.nw _ hm).1, rfl, _, rfl⟩
  exact tail_any (s := ⟨h, g, d, t, os⟩) hl.typeIs slot_list_getitem.lookup (wpAny_getItem_list hl h0 (by omega) (by simpa using hx) hq) hs
theorem rGetI {k : Int} {u : Tok} {v : Value} {Q : Value → Shared → Prop} {L : Addr} (D : Led h₀ L m h news) (hm : (a, lstO ys e) ∈ news) (h0 : 0 ≤ k) (hz : k < 1000000) (hx : ys[k.toNat]? = some v) (hq : Q v ⟨h, g, d, t, os⟩) :
    wpAny (model PG w) A (getItem (.ref a) (.int k u)) Q E ⟨h, g, d, t, os⟩ := by
  have hl : h.IsList a ys.toArray := ⟨_, (D.nw _ hm).1, rfl, _, rfl⟩
  exact wpAny_getItem_list (s := ⟨h, g, d, t, os⟩) hl h0 (by omega) (by simpa using hx) hq
theorem rItemT {k : Int} {u : Tok} {v : Value} {Q : Value → Shared → Prop} {L : Addr} (D : Led h₀ L m h news) (hm : (a, tupO ys) ∈ news) (h0 : 0 ≤ k) (hz : k < 1000000) (hx : ys[k.toNat]? = some v) (hs : subscripted slice false (.ref a) (.int k u) = operate [.ref a, .int k u] (getItem (.ref a) (.int k u))) (hg : ∀ r, letTemporaryGo value (.ref a) r = pure ()) (hq : Q v ⟨h, g, d, t, os⟩) :
    wpAny (model PG w) A (subscriptTail value slice (.ref a) (.int k u)) Q E ⟨h, g, d, t, os⟩ := by
  have hlt : k.toNat < ys.length := (List.getElem?_eq_some_iff.mp hx).1
  refine item_tupleL (s := ⟨h, g, d, t, os⟩) (j := k.toNat) (News.isTup D.nw hm) (by omega) (by omega) ?_ hx hq hs hg
  exact seqIndex_of h0 (by omega)
/-- ys[k] = an int -/
theorem rSetI {k x : Int} {u u2 : Tok} {is : List Int} {L : Addr} {news' : Obj → List (Addr × Obj)} {Q : Unit → Shared → Prop} (D : Led h₀ L m h news) (up : UpdG a (lstO ys e) news news') (hi : IntsAre ys is) (h0 : 0 ≤ k) (h1 : k < is.length) (hz : k < 1000000)
    (hq : ∀ h' t', Led h₀ L m h' (news' (lstO (ys.set k.toNat (.int x u)) e)) → Q () ⟨h', g, d, t', os⟩) : wpAny (model PG w) A (setItem (.ref a) (.int k u2) (.int x u)) Q E ⟨h, g, d, t, os⟩ := by
  refine ksa_set (s := ⟨h, g, d, t, os⟩) D.fr D.nw ((up.at _).upd D.ord) hi h0 h1 (by omega) fun h' F N _ _ _ => ?_
  exact hq h' _ (ledUpd D (up.at _) F N)
/-- a loop's turn on its own -/
def WLoop (w : World) (A : Around) (env : Env) (test : Expr) (body : List Stmt) (Q : Flow → Shared → Prop) (s : Shared) : Prop :=
  codeAny (model PG w) A (.whileLoop test body [] env) (fun r s' => match r with | .ok f => Q f s' | .error _ => False) s
theorem wIn {test : Expr} {body : List Stmt} {Q : Flow → Shared → Prop} {s : Shared} (hw : WLoop w A env test body Q s) : wpAny (model PG w) A (exec (.While test body [] pos) env) Q (fun _ _ => False) s := by
  refine wpAny_While (codeAny_mono hw fun r s' hr => ?_)
  cases r with
  | ok f => exact hr
  | error e => exact hr.elim
end
end
section
open PySem.W.X (Led)
open PyProof.Rows PySem.Calls PySem.Spec
set_option pp.deepTerms false
/-- the stack of calls is known, over a ground that holds the text's own objects -/
structure Kn (w : World) (A : Around) (env : Env) (base h₀ : Heap) (fs : List Addr) : Prop where
  X : (hd.heap_39 w.params).In base
  top : ∃ (p : Program) (loose : List Str) (mean : ExcName → Option Value) (mg mb : Str → Option Value), Top p loose mean mg mb base
  st : base.StaysIn h₀
  at_ : ∃ outer, h₀.FunFrames base outer ∧ fs = outer.filterMap (·.frame) ∧ (A.frames = some outer ∨ (A.frames = some (env :: outer) ∧ env.frame = some env.locals))
theorem turnUps {fs : List Addr} {g g' : Heap} (T : KtsTurn fs g g') : g.UpToSlots g' := fun b o e _ => T.up e
theorem turnStays {base h₀ h₁ : Heap} {outer : List Env} (st : base.StaysIn h₀) (ff : h₀.FunFrames base outer) (T : KtsTurn (outer.filterMap (·.frame)) h₀ h₁) : base.StaysIn h₁ := fun b o e => T.other b o (st b o e) fun hm => by
  rw [(ff.mem hm).1] at e; cases e
theorem turnFrames {base h₀ h₁ : Heap} {fs : List Addr} {outer : List Env} (ff : h₀.FunFrames base outer) (T : KtsTurn fs h₀ h₁) : h₁.FunFrames base outer :=
  ff.of_keeps fun b o e _ => let ⟨_, e'⟩ := T.up e; ⟨_, e', rfl⟩
section
variable {w : World} {A : Around} {env : Env} {base h₀ h₁ h : Heap} {fs : List Addr} {n : Nat} {m : Str → Option Value} {news : List (Addr × Obj)} {g₀ : Array GenState} {d : Drawn} {t : Nat} {os : OsState}
theorem Kn.turn (K : Kn w A env base h₀ fs) (T : KtsTurn fs h₀ h₁) : Kn w A env base h₁ fs := by
  obtain ⟨outer, ff, rfl, hA⟩ := K.at_
  exact ⟨K.X, K.top, turnStays K.st ff T, outer, turnFrames ff T, rfl, hA⟩
theorem Kn.cx (K : Kn w A env base h₀ fs) (C : Cx w A env h₀ n) (T : KtsTurn fs h₀ h₁) : Cx w A env h₁ n := by
  have K' := K.turn T
  obtain ⟨p, loose, mean, mg, mb, TB⟩ := K.top
  obtain ⟨outer, ff, rfl, hA⟩ := K'.at_
  refine ⟨fun l hl => ?_, C.glo, C.bui, C.kind, K.X.keeps K'.st, ⟨p, loose, mean, mg, mb, TB.keeps K'.st⟩, C.hand, C.room, C.units⟩
  rcases hA with hA | ⟨hA, hf⟩
  · obtain rfl : outer = l := Option.some.inj (hA.symm.trans hl)
    exact .inr ⟨A, base, ⟨hA, K'.st, ff⟩⟩
  · obtain rfl : env :: outer = l := Option.some.inj (hA.symm.trans hl)
    exact .inl ⟨hf, { A with frames := some outer }, base, outer, ⟨rfl, K'.st, ff⟩, rfl⟩
/-- the stack below a call -/
theorem Kn.below (K : Kn w A env base h₀ fs) (C : Cx w A env h₀ n) (D : Led h₀ env.locals m h news) :
    ∃ l, Below A base l (hideAll h (news.map (·.1))) ∧ ∀ b ∈ l.filterMap (·.frame), b = env.locals ∨ b ∈ fs := by
  obtain ⟨outer, ff, rfl, hA⟩ := K.at_
  obtain ⟨FG, st, _⟩ := groundY (R := fun _ _ => True) D.fr D.nw
  have st' : base.StaysIn (hideAll h (news.map (·.1))) := fun b o e => st b o (K.st b o e)
  have ff' : (hideAll h (news.map (·.1))).FunFrames base outer := ff.of_keeps fun b o e _ => ⟨o, st b o e, rfl⟩
  rcases hA with hA | ⟨hA, hf⟩
  · exact ⟨outer, ⟨hA, st', ff'⟩, fun b hb => .inr hb⟩
  · refine ⟨env :: outer, ⟨hA, st', Heap.FunFrames.cons (by rw [C.kind]; decide) hf FG.ns ?_ ff'⟩, fun b hb => ?_⟩
    · exact fresh_of_stays K.st (kts_self D.fr)
    · rw [List.filterMap_cons, hf] at hb
      rcases List.mem_cons.mp hb with e | e
      · exact .inl e
      · exact .inr e
/-- below a call, after a turn: the caller's own ledger -/
theorem Kn.back {g₂ h' : Heap} {fs' : List Addr} {news' : List (Addr × Obj)} (K : Kn w A env base h₀ fs) (D : Led h₀ env.locals m h news) (hf' : ∀ b ∈ fs', b = env.locals ∨ b ∈ fs) (T : KtsTurn fs' (hideAll h (news.map (·.1))) g₂)
    (k : ∀ b o, g₂.get? b = some o → h'.get? b = some o) (N : ∀ q ∈ news', h'.get? q.1 = some q.2 ∧ g₂.get? q.1 = none) (ord : (news'.map (·.1)).Pairwise (· > ·)) :
    ∃ h₂, KtsTurn fs h₀ h₂ ∧ Led h₂ env.locals m h' news' := by
  obtain ⟨outer, ff, hfs, hA⟩ := K.at_
  obtain ⟨FG, st, _⟩ := groundY (R := fun _ _ => True) D.fr D.nw
  have hL0 : h₀.get? env.locals = none := kts_self D.fr
  obtain ⟨T2, S⟩ := kts_turn_at (h := h') (fs := fs) (g := h₀) (fun b hb => by
      rw [hfs] at hb
      obtain ⟨_, o, ho, _⟩ := ff.mem hb
      exact ⟨o, ho⟩) (fun b o e nm => k b o (T.other b o (st b o e) fun hm => by
        rcases hf' b hm with z | z
        · rw [z, hL0] at e; cases e
        · exact nm z)) (fun b o e hm => by
      obtain ⟨sl, hs⟩ := T.up (st b o e)
      exact ⟨sl, k b _ hs⟩)
  have hns : h'.Ns env.locals m := by
    obtain ⟨oL, es, ep, hL, r⟩ := (turnUps T).ns FG.ns
    exact ⟨oL, es, ep, k _ _ hL, r⟩
  have hLg : ∃ o, g₂.get? env.locals = some o := by
    obtain ⟨oL, es, ep, hL, r⟩ := (turnUps T).ns FG.ns
    exact ⟨oL, hL⟩
  refine ⟨_, T2, ⟨hns, S, by rw [T2.size]; exact D.fr.above⟩, fun q hq => ⟨(N q hq).1, fun e => ?_, T2.none_ _ ?_⟩, ord⟩
  · obtain ⟨o, ho⟩ := hLg
    have := (N q hq).2
    rw [e, ho] at this; cases this
  · cases z : h₀.get? q.1 with
    | none => rfl
    | some o =>
      obtain ⟨sl, hs⟩ := T.up (st _ _ z)
      rw [(N q hq).2] at hs; cases hs
theorem Kn.pushed {env' : Env} {l : List Env} (B : Below A base l h) (X : (hd.heap_39 w.params).In base) (top : ∃ (p : Program) (loose : List Str) (mean : ExcName → Option Value) (mg mb : Str → Option Value), Top p loose mean mg mb base) (hf : env'.frame = some env'.locals) : Kn w (A.deeper env') env' base h (l.filterMap (·.frame)) :=
  ⟨X, top, B.stays, l, B.frames, rfl, .inr ⟨Around.frames_deeper B.stack, hf⟩⟩
/-- a call that may turn the frames below, and that may end in StopIteration -/
theorem enterX {R : Result → Shared → Prop} {name qual : Str} {params : Arguments} {body : List Stmt} {scope : Scope} {dV kV doc pm cdv ct oc : Value} {an od : Option Addr} {osl : Array (Option Value)} {f : Addr} {args : Args} (binds : List (Str × Value)) (rest gs : List Str)
    (C : Cx w A env h₀ (n + 1)) (Kk : Kn w A env base h₀ fs) (D : Led h₀ env.locals m h news)
    (ho : (hd.heap_39 w.params).lookup f = some ⟨oc, od, .func (fnOf name qual params body scope dV kV doc pm an cdv ct), osl⟩) (hcd : codeIn (hd.heap_39 w.params) cdv qual = true)
    (hbind : (hd.heap_39 w.params).In h → BindsTo ⟨h, g₀, d, t, os⟩ (fnOf name qual params body scope dV kV doc pm an cdv ct) args binds) (hfl : fnl (binds.map (·.1) ++ rest) gs scope = true)
    (hco : scope.isCoroutine = false) (hgen : scope.isGenerator = false) (hcell : ∀ x ∈ scope.names, x.2 ≠ .cell)
    (hb : ∀ A' env' g h₁ t' Q' E', Cx w A' env' g n → FnL (binds.map (·.1) ++ rest) gs env'.scope → Led g env'.locals (vec (binds.map (·.1) ++ rest) (binds.map (fun b => some b.2) ++ rest.map fun _ => none)) h₁ news →
      (∀ fl h' t' g' m' news', Led g env'.locals m' h' news' → (Led h₀ env.locals m h' news' → R (.ok (.ret (retOf fl))) ⟨h', g', d, t', os⟩) → Q' fl ⟨h', g', d, t', os⟩) →
      (∀ e hx h' t' g' m' news', Led g env'.locals m' hx news' → Heap.MadeExc hx h' e "StopIteration" [] → (∀ h₂ h'' o, KtsTurn fs h₀ h₂ → Led h₂ env.locals m h'' news' → h''.get? e = some o → o.cls = .type "StopIteration" → R (.error (.ref e)) ⟨h'', g', d, t', os⟩) → E' (.ref e) ⟨h', g', d, t', os⟩) →
      wpAny (model PG w) A' (execs body env') Q' E' ⟨h₁, g₀, d, t', os⟩) :
    codeAny (model PG w) A (.call (.ref f) args) R ⟨h, g₀, d, t, os⟩ := by
  obtain ⟨p, loose, mean, mg, mb, T⟩ := C.top
  have fl := FnL.of hfl
  have X := C.X.keeps D.fr.keep
  obtain ⟨FG, st, lv⟩ := groundY (R := R) D.fr D.nw
  obtain ⟨l, B, hlf⟩ := Kk.below C D
  have nd : (binds.map (·.1)).Nodup := (List.nodup_append.mp fl.nd).1
  refine codeAny_call_def (s := ⟨h, g₀, d, t, os⟩) (fd := fnOf name qual params body scope dV kV doc pm an cdv ct) (body := body) (binds := binds) (Nat.lt_of_le_of_lt (Nat.le_add_right _ _) C.room) (X _ _ ho) rfl (T.nolimit.keeps D.fr.keep) (codeRec_of X hcd) rfl (hbind X) hcell (fun y hy => fl.loc _ (List.mem_append_left _ (List.mem_map_of_mem hy))) (fun h₁ hns hk₁ => ?_) hco hgen fl.kind
  have hLs : ∀ p ∈ news, p.1 < h.objs.size := fun p hp => Heap.lt_size (D.nw p hp).1
  refine hb (A.deeper (envOf qual scope h.objs.size f cdv)) (envOf qual scope h.objs.size f cdv) (hideAll h (news.map (·.1))) h₁ (t + binds.length) (fun fl s' => R (.ok (.ret (match fl with | .ret v => v | _ => .none))) s') _
    ⟨?_, rfl, rfl, fl.kind, C.X.keeps st, ⟨p, loose, mean, mg, mb, T.keeps st⟩, C.hand, ?_, ?_⟩ fl ⟨⟨?_, fun b o e => hk₁ b o (of_hideAll _ e), Nat.le_of_eq (hideAll_size _ _)⟩, fun p hp => ⟨hk₁ _ _ (D.nw p hp).1, Nat.ne_of_lt (hLs p hp), hideAll_none _ (List.mem_map_of_mem hp)⟩, D.ord⟩ ?_ ?_
  · exact C.pushed D _ rfl
  · have := C.room; show A.depth + 1 + n < _; omega
  · have := C.units; show A.units + 3 + 40 * n < _; omega
  · rw [← vec_start binds rest nd]; exact hns
  · intro fl h' t' g' m' news' D' k
    have k2 := lv (retOf fl) ⟨h', g', d, t', os⟩ (leaveK_ (h₀ := h₀) (g := hideAll h (news.map (·.1))) (L := env.locals) (m := m) (R := R) (v := retOf fl) (s' := ⟨h', g', d, t', os⟩) D'.fr D'.nw fun F N => k ⟨F, N, D'.ord⟩)
    cases fl <;> exact k2
  · intro e hx h' t' g' m' news' D' hmade k
    have hmadeO : Heap.MadeExcOf hx h' e (.type "StopIteration") [] := ⟨hmade.keeps, hmade.new, hmade.there⟩
    refine leave_raiseS (s' := ⟨h', g', d, t', os⟩) B hmadeO D'.fr D'.nw (fun h'' tt RS _ up => ?_) fl.kind
    obtain ⟨⟨BB, hBB, hBG, hl, hfly, hnew⟩, htup⟩ := RS
    obtain ⟨ob, hob, hobc⟩ := hfly.there
    obtain ⟨T2, S2⟩ := kts_turn_at (h := h'') (fs := l.filterMap (·.frame)) (g := hideAll h (news.map (·.1))) (fun b hb => by
        obtain ⟨_, o, ho, _⟩ := B.frames.mem hb
        exact ⟨o, ho⟩) (fun b o e nm => hfly.1 b o (hBG b o e nm)) (fun b o e hm => by
        obtain ⟨_, o', ho', hd⟩ := B.frames.mem hm
        rw [e] at ho'
        cases ho'
        exact up b o e hd)
    obtain ⟨h₂, T3, D3⟩ := Kk.back D hlf T2 S2 (news' := news') (fun q hq => ⟨hfly.1 _ _ (hl q hq).1, T2.none_ _ (hl q hq).2.1⟩) D'.ord
    exact k h₂ h'' ob T3 D3 hob hobc
/-- a call of a def (with cells or none) that may turn the frames below -/
theorem enterLY {R : Result → Shared → Prop} {name qual : Str} {params : Arguments} {body : List Stmt} {scope : Scope} {dV kV doc pm cdv ct oc : Value} {an od : Option Addr} {osl : Array (Option Value)} {f : Addr} {args : Args} (binds lb : List (Str × Value)) (rest gs : List Str)
    (C : Cx w A env h₀ (n + 1)) (Kk : Kn w A env base h₀ fs) (D : Led h₀ env.locals m h news)
    (ho : (hd.heap_39 w.params).lookup f = some ⟨oc, od, .func (fnOf name qual params body scope dV kV doc pm an cdv ct), osl⟩) (hcd : codeIn (hd.heap_39 w.params) cdv qual = true)
    (hbind : (hd.heap_39 w.params).In h → BindsTo ⟨h, g₀, d, t, os⟩ (fnOf name qual params body scope dV kV doc pm an cdv ct) args binds)
    (hkind : (binds.all fun y => scope.names.lookup y.1 == some .local || scope.names.lookup y.1 == some .cell) = true)
    (hnd : decide ((cellsFrom 0 scope.names []).map (·.1)).Nodup = true) (hlb : binds.filter (fun b => scope.names.lookup b.1 == some .local) = lb)
    (hfl : fnl (lb.map (·.1) ++ rest) gs scope = true) (hco : scope.isCoroutine = false) (hgen : scope.isGenerator = false)
    (hb : ∀ A' L' env' g h₁ t' Q' cells fs', Cx w A' env' g n → Kn w A' env' base g fs' → env' = envOfC qual scope L' f cdv → (∀ p ∈ news, p.1 < L') → CellsAre (bindC (envOfC qual scope L' f cdv).kindOf binds fun _ => none) (cellsFrom (L' + 1) scope.names []) cells →
      FnL (lb.map (·.1) ++ rest) gs env'.scope → Led g env'.locals (vec (lb.map (·.1) ++ rest) (lb.map (fun b => some b.2) ++ rest.map fun _ => none)) h₁ (cells ++ news) →
      (∀ fl h' t' g' m' news' g₂, KtsTurn fs' g g₂ → Led g₂ env'.locals m' h' news' → (∀ h₂, KtsTurn fs h₀ h₂ → Led h₂ env.locals m h' news' → R (.ok (.ret (retOf fl))) ⟨h', g', d, t', os⟩) → Q' fl ⟨h', g', d, t', os⟩) →
      wpAny (model PG w) A' (execs body env') Q' (fun _ _ => False) ⟨h₁, g₀, d, t', os⟩) :
    codeAny (model PG w) A (.call (.ref f) args) R ⟨h, g₀, d, t, os⟩ := by
  obtain ⟨p, loose, mean, mg, mb, T⟩ := C.top
  have fl := FnL.of hfl
  have X := C.X.keeps D.fr.keep
  obtain ⟨FG, st, lv⟩ := groundY (R := R) D.fr D.nw
  obtain ⟨l, B, hlf⟩ := Kk.below C D
  have hLs : ∀ p ∈ news, p.1 < h.objs.size := fun p hp => Heap.lt_size (D.nw p hp).1
  refine codeAny_call_function (s := ⟨h, g₀, d, t, os⟩) (Nat.lt_of_le_of_lt (Nat.le_add_right _ _) C.room) (X _ _ ho) rfl hco hgen rfl (codeRec_of X hcd) (hbind X _ _ _ _ ?_)
  refine wpAny_newFunctionEnv_cells fl.kind (kindsX hkind _) fun env' he s' x => ?_
  subst he
  refine ⟨(T.nolimit.keeps D.fr.keep).keeps x.toInCall.keep, codeAny_func ?_⟩
  obtain ⟨h₁, tk, rfl, _⟩ := x.done
  have hk₁ := x.toInCall.keep
  obtain ⟨cells, NC, Y⟩ := Cl.news (h₀ := h) (Nat.le_refl _) fun n c hm => ⟨x.cell n c (lookup_of_mem_nodup (cellsFrom_names scope.names 0 (h.objs.size + 1) [] [] rfl ▸ of_decide_eq_true hnd) hm), x.above n c hm⟩
  have hns := x.toInCall.ns
  have hord : ((cells ++ news).map (·.1)).Pairwise (· > ·) := by
    obtain ⟨d1, d2⟩ := cellsDesc h.objs.size scope.names (h.objs.size + 1) [] List.Pairwise.nil (fun _ hc => nomatch hc) (Nat.lt_succ_self _)
    rw [List.map_append, cellsAddr Y, List.pairwise_append]
    refine ⟨d1, D.ord, fun a ha b hb => ?_⟩
    obtain ⟨c, hc, rfl⟩ := List.mem_map.mp ha
    obtain ⟨p, hp, rfl⟩ := List.mem_map.mp hb
    exact Nat.lt_trans (hLs p hp) (d2 c hc)
  refine wpAny_mono (hb (A.deeper (envOfC qual scope h.objs.size f cdv)) h.objs.size (envOfC qual scope h.objs.size f cdv) (hideAll h (news.map (·.1))) h₁ tk (fun fl s' => R (.ok (.ret (match fl with | .ret v => v | _ => .none))) s') cells (l.filterMap (·.frame))
    ⟨?_, rfl, rfl, fl.kind, C.X.keeps st, ⟨p, loose, mean, mg, mb, T.keeps st⟩, C.hand, ?_, ?_⟩ (Kn.pushed B Kk.X Kk.top rfl) rfl hLs Y fl ⟨⟨?_, fun b o e => hk₁ b o (of_hideAll _ e), Nat.le_of_eq (hideAll_size _ _)⟩, fun p hp => ?_, hord⟩ ?_) (fun fl s' q => q) (fun _ _ q => q.elim)
  · exact C.pushed D _ rfl
  · have := C.room; show A.depth + 1 + n < _; omega
  · have := C.units; show A.units + 3 + 40 * n < _; omega
  · rw [← bindL_vec (f := f) (cdv := cdv) (qual := qual) (L := h.objs.size) binds lb rest hlb (List.nodup_append.mp fl.nd).1]; exact hns
  · rcases List.mem_append.mp hp with hp | hp
    · refine ⟨(NC p hp).1, (NC p hp).2.1, ?_⟩
      cases q : (hideAll h (news.map (·.1))).get? p.1 with
      | none => rfl
      | some o => have := of_hideAll _ q; rw [(NC p hp).2.2] at this; cases this
    · exact ⟨hk₁ _ _ (D.nw p hp).1, Nat.ne_of_lt (hLs p hp), hideAll_none _ (List.mem_map_of_mem hp)⟩
  · intro fl h' t' g' m' news' g₂ T2 D' k
    obtain ⟨h₂, T3, D3⟩ := Kk.back D hlf T2 D'.fr.keep (news' := news') (fun q hq => ⟨(D'.nw q hq).1, (D'.nw q hq).2.2⟩) D'.ord
    have k2 := k h₂ T3 D3
    cases fl <;> exact k2
end
/-- a contract that makes generators and may turn the frames below -/
def YSpecG (gk : Nat) (g0 : Array GenState) (w : World) (c : Sem Value) (n : Nat) (Pre : List (Addr × Obj) → Prop) (Out : List (Addr × Obj) → Value → List (Addr × Obj) → Prop) : Prop :=
  ∀ (A : Around) (env : Env) (base h₀ : Heap) (fs : List Addr) (m : Str → Option Value) (dyn : List (Addr × Obj)) (T : Tabs) (h : Heap) (g : Array GenState) (d : Drawn) (t : Nat) (os : OsState) (Q E : Value → Shared → Prop), Cx w A env h₀ n → Kn w A env base h₀ fs → GB gk g0 g → T.ok → Led h₀ env.locals m h (dyn ++ T.l) → Pre dyn →
    (∀ r tl (T' : Tabs) g' h' t' h₂, KtsTurn fs h₀ h₂ → GB gk g0 g' → T'.ok → Led h₂ env.locals m h' (tl ++ (dyn ++ T'.l)) → Out dyn r tl → Q r ⟨h', g', d, t', os⟩) → wpAny (model PG w) A c Q E ⟨h, g, d, t, os⟩
theorem YSpecG.use {w : World} {c : Sem Value} {n k : Nat} {Pre : List (Addr × Obj) → Prop} {Out : List (Addr × Obj) → Value → List (Addr × Obj) → Prop} {A : Around} {env : Env} {base h₀ : Heap} {fs : List Addr} {m : Str → Option Value} {T : Tabs} {h : Heap} {g : Array GenState} {d : Drawn} {t : Nat} {os : OsState} {Q E : Value → Shared → Prop}
    (S : YSpecG gk g0 w c n Pre Out) (dyn : List (Addr × Obj)) (C : Cx w A env h₀ k) (hk : n ≤ k) (K : Kn w A env base h₀ fs) (G : GB gk g0 g) (hT : T.ok) (D : Led h₀ env.locals m h (dyn ++ T.l)) (P : Pre dyn)
    (hq : ∀ r tl (T' : Tabs) g' h' t' h₂, KtsTurn fs h₀ h₂ → Cx w A env h₂ k → Kn w A env base h₂ fs → GB gk g0 g' → T'.ok → Led h₂ env.locals m h' (tl ++ (dyn ++ T'.l)) → Out dyn r tl → Q r ⟨h', g', d, t', os⟩) : wpAny (model PG w) A c Q E ⟨h, g, d, t, os⟩ :=
  S A env base h₀ fs m dyn T h g d t os Q E (C.le hk) K G hT D P fun r tl T' g' h' t' h₂ T2 G' hT' D' o => hq r tl T' g' h' t' h₂ T2 (K.cx C T2) (K.turn T2) G' hT' D' o
end
section
open PySem.W.X (Led)
open PyProof.Rows PySem.Calls PySem.Spec
set_option pp.deepTerms false
abbrev slObj (Cl dx : Addr) (sl : List (Option Value)) : Obj := ⟨.ref Cl, some dx, .plain, sl.toArray⟩
def slGet (K : Frag) (Cl : Addr) (nm : Str) : Option Nat := match findIn K (.ref Cl) nm with
  | some (some (.ref p)) => if plainGet K Cl nm && isClsIn K Cl && specialIn K (.ref p) "__get__" == some (some (.builtin "member_descriptor.__get__")) && takesIn K (.ref p) == some true then slotIn K p Cl else none
  | _ => none
def slSet (K : Frag) (Cl : Addr) (nm : Str) : Option Nat := match takerIn K Cl nm with
  | some (some (.ref p)) => if findIn K (.ref Cl) "__setattr__" == some (some (.builtin "object.__setattr__")) && plainOver K Cl && typeIn K (.ref p) == some (.type "member_descriptor") then slotIn K p Cl else none
  | _ => none
section
variable {w : World} {A : Around} {env : Env} {h₀ h : Heap} {g : Array GenState} {d : Drawn} {t : Nat} {os : OsState} {m : Str → Option Value} {news : List (Addr × Obj)} {n : Nat} {E : Value → Shared → Prop} {ns gs : List Str} {vs vs' : List (Option Value)} {pos xp : Pos} {a dx Cl : Addr} {sl : List (Option Value)} {nm x : Str} {i : Nat} {v : Value} {od : Obj}
theorem gSlot {Q : Value → Shared → Prop} {b : Bool} (C : Cx w A env h₀ n) (D : Led h₀ env.locals m h news) (i1 : (a, slObj Cl dx sl) ∈ news) (i2 : (dx, od) ∈ news) (hs : slGet (hd.heap_39 w.params) Cl nm = some i) (hv : (sl[i]?).join = some v) (hh : handedIn v = true) (hq : ∀ t', Q v ⟨h, g, d, t', os⟩) :
    wpAny (model PG w) A (getAttr (.ref a) nm b) Q E ⟨h, g, d, t, os⟩ := by
  unfold slGet at hs
  split at hs
  · rename_i p hf
    split at hs
    · rename_i hc
      simp only [Bool.and_eq_true, beq_iff_eq] at hc
      obtain ⟨⟨⟨c1, c2⟩, c3⟩, c4⟩ := hc
      exact get_slot (s := ⟨h, g, d, t, os⟩) D.fr C.X (InstAt.of_news D.nw i1 i2) c1 c2 hf c3 c4 hs (by simpa using hv) hh (hq _)
    · cases hs
  · cases hs
theorem rSlotN {Q : Value → Shared → Prop} (C : Cx w A env h₀ n) (fl : FnL ns gs env.scope) (D : Led h₀ env.locals (vec ns vs) h news) (h2 : At2 ns vs x (.ref a)) (i1 : (a, slObj Cl dx sl) ∈ news) (i2 : (dx, od) ∈ news) (hs : slGet (hd.heap_39 w.params) Cl nm = some i) (hv : (sl[i]?).join = some v) (hh : handedIn v = true)
    (hq : ∀ t', Q v ⟨h, g, d, t', os⟩) : wpAny (model PG w) A (eval (.Attribute (.Name x xp) nm pos) env) Q E ⟨h, g, d, t, os⟩ :=
  Attribute_Name_ (rLoc C fl D h2 (gSlot C D i1 i2 hs hv hh hq)) (attr_name _ _ _ _ _)
theorem sSlot {Q : Unit → Shared → Prop} {news' : Obj → List (Addr × Obj)} {sl' : List (Option Value)} (C : Cx w A env h₀ n) (D : Led h₀ env.locals m h news) (i2 : (dx, od) ∈ news) (up : UpdG a (slObj Cl dx sl) news news') (hs : slSet (hd.heap_39 w.params) Cl nm = some i) (hi : i < 1000)
    (e : (sl ++ List.replicate (i + 1 - sl.length) none).set i (some v) = sl') (hq : ∀ h' t', Led h₀ env.locals m h' (news' (slObj Cl dx sl')) → Q () ⟨h', g, d, t', os⟩) :
    wpAny (model PG w) A (setAttr (.ref a) nm v) Q E ⟨h, g, d, t, os⟩ := by
  unfold slSet at hs
  split at hs
  · rename_i p hf
    split at hs
    · rename_i hc
      simp only [Bool.and_eq_true, beq_iff_eq] at hc
      obtain ⟨⟨c1, c2⟩, c3⟩ := hc
      refine set_slot (s := ⟨h, g, d, t, os⟩) (ox' := slObj Cl dx sl') D.fr C.X D.nw (InstAt.of_news D.nw (up.at (slObj Cl dx sl)).mem i2) c1 c2 hf c3 hs hi ?_ rfl ((up.at _).upd D.ord) fun h' F' N' => ?_
      · subst e
        simp only [slObj, Obj.mk.injEq, true_and]
        apply Array.ext'
        simp
      · exact hq h' _ (ledUpd D (up.at _) F' N')
    · cases hs
  · cases hs
end
theorem slFacts (w : World) : (slGet (hd.heap_39 w.params) 147 "_stopped" = some 4 ∧ slGet (hd.heap_39 w.params) 147 "_r" = some 3 ∧ slGet (hd.heap_39 w.params) 147 "_pool" = some 2 ∧ slGet (hd.heap_39 w.params) 147 "_indices" = some 1 ∧ slGet (hd.heap_39 w.params) 147 "_first" = some 0) ∧
    (slSet (hd.heap_39 w.params) 147 "_stopped" = some 4 ∧ slSet (hd.heap_39 w.params) 147 "_r" = some 3 ∧ slSet (hd.heap_39 w.params) 147 "_pool" = some 2 ∧ slSet (hd.heap_39 w.params) 147 "_indices" = some 1 ∧ slSet (hd.heap_39 w.params) 147 "_first" = some 0) := by
  refine ⟨⟨?_, ?_, ?_, ?_, ?_⟩, ?_, ?_, ?_, ?_, ?_⟩ <;> kernel_rfl!
section
variable {w : World} {A : Around} {env : Env} {h₀ h : Heap} {g : Array GenState} {d : Drawn} {t : Nat} {os : OsState} {m : Str → Option Value} {news : List (Addr × Obj)} {E : Value → Shared → Prop} {ys : List Value} {e : Nat} {a L : Addr}
theorem rTupL {Q : Value → Shared → Prop} (D : Led h₀ env.locals m h news) (hm : (a, lstO ys e) ∈ news) (hz : ys.length < 1000000) (hq : ∀ q h', Led h₀ env.locals m h' ((q, tupO ys) :: news) → Q (.ref q) ⟨h', g, d, t, os⟩) : wpAny (model PG w) A (call (.type "tuple") [.ref a]) Q E ⟨h, g, d, t, os⟩ := by
  have hl : h.IsList a ys.toArray := ⟨_, (D.nw _ hm).1, rfl, _, rfl⟩
  refine call_tuple_list (s := ⟨h, g, d, t, os⟩) hl (fun h' k => ?_) (by rw [List.size_toArray, sizeLine_eq]; omega)
  obtain ⟨oL, es, ep, hL, r⟩ := D.fr.ns
  have D' : Led h₀ env.locals m h' news := ⟨⟨⟨oL, es, ep, k _ _ hL, r⟩, fun b o e => k _ _ (D.fr.keep b o e), D.fr.above⟩, fun p hp => ⟨k _ _ (D.nw p hp).1, (D.nw p hp).2⟩, D.ord⟩
  exact hq _ _ (ledPushed D' (.inr trivial) (Heap.get?_push_size _ rfl) fun b o e => Heap.get?_push_of_some _ e)
theorem idx_at {iv : List Value} {is : List Nat} {k x : Nat} (hi : IntsN iv is) (e : is[k]? = some x) : ∃ tk, iv[k]? = some (.int (x : Int) tk) := by
  have hk : k < is.length := (List.getElem?_eq_some_iff.mp e).1
  have hk' : k < iv.length := by rw [hi.1]; exact hk
  obtain ⟨tt, u, h1, _, h2⟩ := hi.2 k iv[k] (List.getElem?_eq_getElem hk')
  rw [e] at h1
  cases h1
  exact ⟨tt, by rw [List.getElem?_eq_getElem hk', h2]⟩
end
/-- _is_int(an int) -/
theorem isIntT (w : World) (i : Int) (ti : Tok) : Spec w (.ref 100) [.int i ti] [] 2 (fun _ => True) (fun _ r tl => tl = [] ∧ r = .bool true) := by
  rintro A env h₀ m news h g d t os Q E C D - hret
  k_dflt (refine' enterF [("x", .int i ti)] ["t"] ["type", "int", "bool"] ?C ?D ?o ?c ?b ?f ?g ?i ?j ?_)
  kcf_m
  intro A' env' gb h₁ t' Q' C' fl D' hQ
  dsimp only [List.map, List.append_nil, List.cons_append, List.nil_append] at fl D'
  kcf_all
  refine call_type_of (Tx := "int") rfl (by decide) ?_
  kcf_all
  refine wpAny_is_plain (by rfl) ?_
  kcf_all
  exact hQ _ _ _ _ _ _ (by assumption) fun D9 => hret _ [] _ _ D9 ⟨rfl, rfl⟩
/-- _whole(an int within the bounds) -/
theorem wholeT (w : World) (i top : Int) (ti tt tw : Tok) (what : Str) (h1 : i ≤ top) (h2 : -999999 ≤ i) : Spec w (.ref 107) [.int i ti, .int top tt, .str what tw] [] 4 (fun _ => True) (fun _ r tl => tl = [] ∧ r = .none) := by
  rintro A env h₀ m news h g d t os Q E C D - hret
  k_dflt (refine' enterF [("x", .int i ti), ("top", .int top tt), ("what", .str what tw)] [] ["_is_int", "_wall"] ?C ?D ?o ?c ?b ?f ?g ?i ?j ?_)
  kcf_m
  intro A' env' gb h₁ t' Q' C' fl D' hQ
  dsimp only [List.map, List.append_nil, List.cons_append, List.nil_append] at fl D'
  kcf_all
  refine (isIntT w i ti).use C' (by decide) D' trivial ?_
  rintro _ _ h2 t2 D2 ⟨rfl, rfl⟩
  dsimp only [List.nil_append] at D2
  kcf_all
  exact hQ _ _ _ _ _ _ (by assumption) fun D9 => hret _ [] _ _ D9 ⟨rfl, rfl⟩
/-- _picked(pool, indices, r) -/
theorem pickedT (w : World) (p a : Addr) (ps : List Value) (iv : List Value) (e : Nat) (is : List Nat) (out : List Value) (tr : Tok) (hi : IntsN iv is) (hlen : out.length = is.length) (hz : is.length < 1000) (hps : ps.length < 1000) (ho : ∀ (k x : Nat), is[k]? = some x → ps[x]? = out[k]? ∧ x < ps.length) :
    Spec w (.ref 114) [.ref p, .ref a, .int (is.length : Int) tr] [] 4 (fun news => (p, tupO ps) ∈ news ∧ (a, lstO iv e) ∈ news) (fun _ r tl => ∃ q l o, r = .ref q ∧ tl = [(q, tupO out), (l, o)]) := by
  rintro A env h₀ m news h g d t os Q E C D ⟨m1, m2⟩ hret
  k_dflt (refine' enterF [("pool", .ref p), ("indices", .ref a), ("r", .int (is.length : Int) tr)] ["result", "i"] ["tuple"] ?C ?D ?o ?c ?b ?f ?g ?i ?j ?_)
  kcf_m
  intro A' env' gb h₁ t' Q' C' fl D' hQ
  dsimp only [List.map, List.append_nil, List.cons_append, List.nil_append] at fl D'
  kcf_all
  rename_i t4 h4 t5 D5
  refine rWhile (fun k vs nw => ∃ (l : Addr) (le i : Nat) (ti : Tok), i ≤ is.length ∧ k = is.length - i ∧ vs = [some (.ref p), some (.ref a), some (.int (is.length : Int) tr), some (.ref l), some (.int (i : Int) ti)] ∧ nw = (l, lstO (out.take i) le) :: news) is.length (by assumption) ⟨_, 0, 0, _, Nat.zero_le _, by simp, by rfl, by simp⟩ ?_
  rintro k vs nw h5 t5 D6 ⟨l, le, i, ti, hi1, rfl, rfl, rfl⟩
  by_cases hlt : i < is.length
  · kcf_all
    obtain ⟨x, hx⟩ : ∃ x, is[i]? = some x := ⟨_, List.getElem?_eq_getElem hlt⟩
    obtain ⟨ht1, ht2⟩ := ho i x hx
    obtain ⟨tk, hiv⟩ := idx_at hi hx
    have m1' : (p, tupO ps) ∈ (l, lstO (out.take i) le) :: news := .tail _ m1
    have m2' : (a, lstO iv e) ∈ (l, lstO (out.take i) le) :: news := .tail _ m2
    have hov : out[i]? = some out[i] := List.getElem?_eq_getElem (by omega)
    refine Subscript_ ?_
    kcf_all
    refine Subscript_ ?_
    kcf_all
    refine rItem D6 m2' (by omega) (by omega) (by simpa using hiv) (by rfl) ?_
    refine rItemT D6 m1' (by omega) (by omega) (v := out[i]) (by rw [← hov, ← ht1]; simp) (by rfl) (fun _ => rfl) ?_
    kcf_all
    refine rApp D6 .z (by simp; omega) fun h7 D7 => ?_
    kcf_all
    refine WEnd.mk (by assumption) (k' := is.length - (i + 1)) (by omega) ⟨l, le + 1, i + 1, _, hlt, rfl, by rfl, ?_⟩
    rw [List.take_add_one, hov]
    rfl
  · kcf_all
    refine rTupL D6 (.head _) (by simp; omega) fun q h7 D7 => ?_
    kcf_all
    have : out.take i = out := List.take_of_length_le (by omega)
    rw [this] at D7
    exact hQ _ _ _ _ _ _ D7 fun D9 => hret _ [_, _] _ _ D9 ⟨_, _, _, rfl, rfl⟩
end
section
open PySem.W.X (Led)
open PyProof.Rows PySem.Calls PySem.Spec
set_option pp.deepTerms false
/-- the objects of a combinations iterator -/
def CBl (a rg p c dx : Addr) (ob : Obj) (ps iv : List Value) (e : Nat) (f st : Bool) (r : Int) (tr : Tok) : List (Addr × Obj) :=
  [(a, lstO iv e), (rg, ob), (p, tupO ps), (c, slObj 147 dx [some (.bool f), some (.ref a), some (.ref p), some (.int r tr), some (.bool st)]), (dx, dictOf [] 0)]
theorem combMake (w : World) (it : Addr) (ps : List Value) (e r : Nat) (tr : Tok) (hr : r ≤ ps.length) (hp : ps.length ≤ 4) (hr2 : r ≤ 2) : Spec w (.ref 147) [.ref it, .int (r : Int) tr] [] 20 (fun news => (it, lstO ps e) ∈ news)
    (fun _ v tl => ∃ a rg p c dx ob iv e tr', v = .ref c ∧ tl = CBl a rg p c dx ob ps iv e true false (r : Int) tr' ∧ IntsN iv (List.range r)) := by
  rintro A env h₀ m news h g d t os Q E C D hm hret
  k_dflt (refine' makeF "self" [("iterable", .ref it), ("r", .int (r : Int) tr)] ["pool"] ["_whole", "tuple", "list", "range", "len", "ValueError"] ?C ?D ?m ?i ?f ?o ?c ?b ?fl ?g ?k ?j ?_)
  kd_adr
  intro x dx A' env' gb h₁ t' Q' C' fl D' hQ
  dsimp only [List.map, List.append_nil, List.cons_append, List.nil_append] at fl D'
  obtain ⟨_, s4, s3, s2, s1, s0⟩ := slFacts w
  have hm2 : (it, lstO ps e) ∈ (x, instObj 147 dx) :: (dx, dictOf [] 0) :: news := .tail _ (.tail _ hm)
  kcf_all
  refine (wholeT w r 999999 tr _ _ _ (by omega) (by omega)).use C' (by decide) (by assumption) trivial ?_
  rintro _ _ h2 t2 D2 ⟨rfl, rfl⟩
  dsimp only [List.nil_append] at D2
  kcf_all
  refine rTupL D2 hm2 (by omega) fun p h3 D3 => ?_
  kcf_all
  refine sSlot (Cl := 147) (sl := []) (news' := fun o => (p, tupO ps) :: (x, o) :: (dx, dictOf [] 0) :: news) C' (by assumption) (.tail _ (.tail _ (.head _))) (.s .z) (sl' := [none, none, some (.ref p)]) s2 (by decide) (by rfl) fun h4 t4 D4 => ?_
  kcf_all
  refine rListRange C' (by assumption) (.head _) (by omega) (by omega) fun l h5 t5 ys e5 D5 hys => ?_
  kcf_all
  refine sSlot C' (by assumption) (.tail _ (.tail _ (.tail _ (.tail _ (.head _))))) (.s (.s (.s .z))) (sl' := [none, some (.ref l), some (.ref p)]) s1 (by decide) (by rfl) fun h6 t6 D6 => ?_
  kcf_all
  refine sSlot C' (by assumption) (.tail _ (.tail _ (.tail _ (.tail _ (.head _))))) (.s (.s (.s .z))) (sl' := [none, some (.ref l), some (.ref p), some (.int (r : Int) _)]) s3 (by decide) (by rw [Int.add_zero]; rfl) fun h7 t7 D7 => ?_
  kcf_all
  refine sSlot C' (by assumption) (.tail _ (.tail _ (.tail _ (.tail _ (.head _))))) (.s (.s (.s .z))) (sl' := [some (.bool true), some (.ref l), some (.ref p), some (.int (r : Int) _)]) s0 (by decide) (by rfl) fun h8 t8 D8 => ?_
  kcf_all
  refine rLenS C' (by assumption) (.tail _ (.tail _ (.head _))) (.tup rfl rfl) (by omega) fun tk9 t9 => ?_
  kcf_all
  refine sSlot C' (by assumption) (.tail _ (.tail _ (.tail _ (.tail _ (.head _))))) (.s (.s (.s .z))) (sl' := [some (.bool true), some (.ref l), some (.ref p), some (.int (r : Int) _), some (.bool false)]) s4 (by decide) (by rw [show decide ((r : Int) > (ps.length : Int)) = false from decide_eq_false (by omega)]; rfl) fun h8 t8 D8 => ?_
  kcf_all
  exact hQ _ _ _ _ _ _ D8 fun D9 => ⟨rfl, hret _ (CBl _ _ _ _ _ _ ps _ _ true false (r : Int) _) _ _ D9 ⟨_, _, _, _, _, _, _, _, _, rfl, rfl, hys⟩⟩
/-- iter(combinations) is itself -/
theorem combIter {w : World} {A : Around} {env : Env} {h₀ h : Heap} {g : Array GenState} {d : Drawn} {t : Nat} {os : OsState} {m : Str → Option Value} {news : List (Addr × Obj)} {n : Nat} {E Q : Value → Shared → Prop} {c dx : Addr} {od : Obj} {sl : List (Option Value)}
    (C : Cx w A env h₀ (n + 1)) (D : Led h₀ env.locals m h news) (i1 : (c, slObj 147 dx sl) ∈ news) (i2 : (dx, od) ∈ news) (hq : ∀ h' t', Led h₀ env.locals m h' news → Q (.ref c) ⟨h', g, d, t', os⟩) : wpAny (model PG w) A (pyIter (.ref c)) Q E ⟨h, g, d, t, os⟩ := by
  have hs : findIn (hd.heap_39 w.params) (.ref 147) "__iter__" = some (some (.ref 136)) := by kernel_rfl!
  have hf : isFn (hd.heap_39 w.params) (.ref 136) = true := by kernel_rfl!
  have hs2 : findIn (hd.heap_39 w.params) (.ref 147) "__next__" = some (some (.ref 143)) := by kernel_rfl!
  refine owit_iter (s := ⟨h, g, d, t, os⟩) D.fr C.X (InstAt.of_news D.nw i1 i2) hs hf ?_
  k_dflt (refine' enterF (n := n) [("self", .ref c)] [] [] ?C ?D ?o ?c ?b ?f ?g ?i ?j ?_)
  kcf_m
  intro A' env' gb h₁ t' Q' C' fl D' hQ
  dsimp only [List.map, List.append_nil, List.cons_append, List.nil_append] at fl D'
  kcf_all
  refine hQ _ _ _ _ _ _ D' fun D9 => ?_
  exact owit_it (s := ⟨_, g, d, _, os⟩) D9.fr C.X (InstAt.of_news D9.nw i1 i2) hs2 (hq _ _ D9)
end
section
open PySem.W.X (Led)
open PyProof.Rows PySem.Calls PySem.Spec
set_option pp.deepTerms false
def nextIdx (n : Nat) : List Nat → Option (List Nat)
  | [a] => if a + 1 < n then some [a + 1] else none
  | [a, b] => if b + 1 < n then some [a, b + 1] else if a + 2 < n then some [a + 1, a + 2] else none
  | _ => none
theorem nextIdx_1 (n a : Nat) : nextIdx n [a] = if a + 1 < n then some [a + 1] else none := rfl
theorem nextIdx_2 (n a b : Nat) : nextIdx n [a, b] = if b + 1 < n then some [a, b + 1] else if a + 2 < n then some [a + 1, a + 2] else none := rfl
def pickV (ps : List Value) (is : List Nat) : List Value := is.map fun i => (ps[i]?).getD .none
section
variable {w : World} {A : Around} {env : Env} {h₀ h : Heap} {g : Array GenState} {d : Drawn} {t : Nat} {os : OsState} {m : Str → Option Value} {news : List (Addr × Obj)} {n : Nat} {E : Value → Shared → Prop} {ns gs : List Str} {vs vs' : List (Option Value)} {pos xp : Pos}
/-- raise StopIteration -/
theorem rStop {Q : Flow → Shared → Prop} (C : Cx w A env h₀ n) (fl : FnL ns gs env.scope) (D : Led h₀ env.locals m h news) (hx : ("StopIteration" : Str) ∈ gs) (hq : ∀ h' e, Heap.MadeExc h h' e "StopIteration" [] → E (.ref e) ⟨h', g, d, t, os⟩) :
    wpAny (model PG w) A (exec (.Raise (some (.Name "StopIteration" xp)) none pos) env) Q E ⟨h, g, d, t, os⟩ := by
  obtain ⟨p, loose, mean, mg, mb, T⟩ := C.top
  have a : nsIn (hd.heap_39 w.params) mainGlobals "StopIteration" = some none := by kernel_rfl!
  refine owsi_raiseC (s := ⟨h, g, d, t, os⟩) C.hand ?_ hq
  exact Name_function_global C.kind (by show env.scope.names.lookup _ = _; exact fl.glob _ hx) (loadGlobal_builtin (env := env) (by rw [C.glo]; exact T.g.keeps D.fr.keep) (mg_none_of C.X T.g a) (by rw [C.bui]; exact T.b.keeps D.fr.keep) ((T.builtins _ (by decide)).trans (show bootBuiltins "StopIteration" = some (.type "StopIteration") by rfl)) ⟨rfl, rfl⟩) (fl.nbg _ hx)
abbrev WLoop' (w : World) (A : Around) (env : Env) (test : Expr) (body : List Stmt) (Q : Flow → Shared → Prop) (s : Shared) : Prop := WhlRest PG w A (fun _ _ => False) env test body [] Q 0 s
theorem wIn' {test : Expr} {body : List Stmt} {Q : Flow → Shared → Prop} {s : Shared} (hw : WLoop' w A env test body Q s) : wpAny (model PG w) A (exec (.While test body [] pos) env) Q E s :=
  wpAny_mono (whl_start 0 hw) (fun _ _ q => q) fun _ _ e => e.elim
theorem wStep {test : Expr} {body : List Stmt} {Q : Flow → Shared → Prop} {s : Shared}
    (hw : wpAny (model PG w) A (isTrue test env (eval test env)) (fun b s₂ => Br b (wpAny (model PG w) A (execs body env) (fun f s₃ => match f with | .next => WLoop' w A env test body Q s₃ | .cont => WLoop' w A env test body Q s₃ | .brk => Q .next s₃ | .ret v => Q (.ret v) s₃) (fun _ _ => False) s₂) (Q .next s₂)) (fun _ _ => False) s) : WLoop' w A env test body Q s := by
  refine whl_turn (k := 0) PassesOwn.never (wpAny_mono hw (fun b s₂ q => ?_) fun _ _ e => e)
  cases b with
  | false => exact WhlIf.no rfl (wpAny_execs_nil q)
  | true => exact WhlIf.yes rfl q
end
/-- an index list is in order below n -/
def IdxOk (n : Nat) : List Nat → Prop
  | [] => True
  | [a] => a < n
  | [a, b] => a < b ∧ b < n
  | _ => False
theorem IdxOk.len {n : Nat} : ∀ {is : List Nat}, IdxOk n is → is.length ≤ 2
  | [], _ => by simp
  | [_], _ => by simp
  | [_, _], _ => by simp
  | _ :: _ :: _ :: _, h => h.elim
theorem IdxOk.lt {n : Nat} : ∀ {is : List Nat}, IdxOk n is → ∀ (k x : Nat), is[k]? = some x → x < n
  | [], _, k, x, e => by simp at e
  | [a], h, 0, x, e => by simp at e; subst e; exact h
  | [a], h, k + 1, x, e => by simp at e
  | [a, b], h, 0, x, e => by simp at e; subst e; exact Nat.lt_trans h.1 h.2
  | [a, b], h, 1, x, e => by simp at e; subst e; exact h.2
  | [a, b], h, k + 2, x, e => by simp at e
theorem nextNone {n : Nat} : ∀ {is : List Nat}, (∀ j x : Nat, is[j]? = some x → (x : Int) = j + n - is.length) → nextIdx n is = none
  | [], _ => rfl
  | [a], h => by
    have := h 0 a rfl
    simp at this
    simp only [nextIdx_1, nextIdx_2]
    rw [if_neg (by omega)]
  | [a, b], h => by
    have h1 := h 0 a rfl
    have h2 := h 1 b rfl
    simp at h1 h2
    simp only [nextIdx_1, nextIdx_2]
    rw [if_neg (by omega), if_neg (by omega)]
  | _ :: _ :: _ :: _, _ => rfl
theorem nextA {n : Nat} : ∀ {is : List Nat} {k x : Nat}, IdxOk n is → is[k]? = some x → k + 1 = is.length → (x : Int) ≠ k + n - is.length → nextIdx n is = some (is.set k (x + 1)) ∧ x + 1 < n
  | [a], 0, x, h, e, _, hx => by
    simp at e hx; subst e
    have : a < n := h
    simp only [nextIdx_1, nextIdx_2]
    rw [if_pos (by omega)]
    exact ⟨rfl, by omega⟩
  | [a, b], 1, x, h, e, _, hx => by
    simp at e hx; subst e
    have := h.2
    simp only [nextIdx_1, nextIdx_2]
    rw [if_pos (by omega)]
    exact ⟨rfl, by omega⟩
  | [], k, x, h, e, _, _ => by simp at e
  | [a], k + 1, x, h, e, _, _ => by simp at e
  | [a, b], 0, x, h, e, hl, _ => by simp at hl
  | [a, b], k + 2, x, h, e, hl, _ => by simp at e
  | _ :: _ :: _ :: _, _, _, h, _, _, _ => h.elim
theorem nextB {n : Nat} : ∀ {is : List Nat} {k x : Nat}, IdxOk n is → is[k]? = some x → k + 2 = is.length → (x : Int) ≠ k + n - is.length → (∀ j x : Nat, k < j → is[j]? = some x → (x : Int) = j + n - is.length) → nextIdx n is = some ((is.set k (x + 1)).set (k + 1) (x + 2)) ∧ x + 2 < n
  | [a, b], 0, x, h, e, _, hx, hj => by
    have h2 := hj 1 b (by omega) rfl
    simp at e hx h2; subst e
    have := h.1
    have := h.2
    simp only [nextIdx_1, nextIdx_2]
    rw [if_neg (by omega), if_pos (by omega)]
    exact ⟨rfl, by omega⟩
  | [], k, x, h, e, _, _, _ => by simp at e
  | [a], k, x, h, e, hl, _, _ => by simp at hl
  | [a, b], k + 1, x, h, e, hl, _, _ => by simp at hl
  | _ :: _ :: _ :: _, _, _, h, _, _, _, _ => h.elim
theorem nextOk {n : Nat} : ∀ {is is' : List Nat}, IdxOk n is → nextIdx n is = some is' → IdxOk n is' ∧ is'.length = is.length
  | [], is', h, e => by cases e
  | [a], is', h, e => by
    simp only [nextIdx_1, nextIdx_2] at e
    split at e
    · cases e; exact ⟨by assumption, rfl⟩
    · cases e
  | [a, b], is', h, e => by
    simp only [nextIdx_1, nextIdx_2] at e
    split at e
    · cases e; exact ⟨⟨Nat.lt_succ_of_lt h.1, by assumption⟩, rfl⟩
    · split at e
      · cases e; exact ⟨⟨Nat.lt_succ_self _, by assumption⟩, rfl⟩
      · cases e
  | _ :: _ :: _ :: _, _, h, _ => h.elim
theorem pick_ok {ps : List Value} {is : List Nat} (h : IdxOk ps.length is) (k x : Nat) (e : is[k]? = some x) : ps[x]? = (pickV ps is)[k]? ∧ x < ps.length := by
  have hx := h.lt k x e
  refine ⟨?_, hx⟩
  unfold pickV
  rw [List.getElem?_map, e]
  simp [List.getElem?_eq_getElem hx]
theorem intsN_are : ∀ {vs : List Value} {ns : List Nat}, IntsN vs ns → IntsAre vs (ns.map fun u : Nat => (u : Int))
  | [], [], _ => .nil
  | [], _ :: _, h => by have := h.1; simp at this
  | _ :: _, [], h => by have := h.1; simp at this
  | v :: vs, u :: ns, h => by
    obtain ⟨t, u', h1, _, h2⟩ := h.2 0 v rfl
    simp at h1; subst h1; subst h2
    refine .cons _ _ (intsN_are ⟨by simpa using h.1, fun i v' e => h.2 (i + 1) v' (by simpa using e)⟩)
theorem intsN_set {vs : List Value} {ns : List Nat} {k x : Nat} {t : Tok} (h : IntsN vs ns) (hx : x < 4) : IntsN (vs.set k (.int (x : Int) t)) (ns.set k x) := by
  refine ⟨by simpa using h.1, fun i v e => ?_⟩
  by_cases hk : k = i
  · subst hk
    have hl : k < vs.length := by have := (List.getElem?_eq_some_iff.mp e).1; simpa using this
    rw [List.getElem?_set_self (by simpa using hl)] at e
    cases e
    exact ⟨t, x, by rw [List.getElem?_set_self (by rw [← h.1]; exact hl)], hx, rfl⟩
  · rw [List.getElem?_set_ne hk] at e
    obtain ⟨t', u, h1, h2, h3⟩ := h.2 i v e
    exact ⟨t', u, by rw [List.getElem?_set_ne hk]; exact h1, h2, h3⟩
def NextY (w : World) (A : Around) (env : Env) (h₀ : Heap) (g : Array GenState) (d : Drawn) (os : OsState) (m : Str → Option Value) (pre post : List (Addr × Obj)) (a rg p c dx : Addr) (ob : Obj) (ps : List Value) (e r : Nat) (tr : Tok) (Q : Option Value → Shared → Prop) (is : List Nat) : Prop :=
  ∀ iv q l o h' t', IntsN iv is → Led h₀ env.locals m h' ((q, tupO (pickV ps is)) :: (l, o) :: (pre ++ (CBl a rg p c dx ob ps iv e false false (r : Int) tr ++ post))) → Q (some (.ref q)) ⟨h', g, d, t', os⟩
/-- combinations.__next__ -/
theorem nextT {w : World} {A : Around} {env : Env} {base h₀ h : Heap} {fs : List Addr} {g : Array GenState} {d : Drawn} {t : Nat} {os : OsState} {m : Str → Option Value} {n : Nat} {E : Value → Shared → Prop} {Q : Option Value → Shared → Prop} {pre post : List (Addr × Obj)} {a rg p c dx : Addr} {ob : Obj} {ps iv : List Value} {e r : Nat} {tr : Tok} {is : List Nat}
    (C : Cx w A env h₀ 20) (Kk : Kn w A env base h₀ fs) (D : Led h₀ env.locals m h (pre ++ (CBl a rg p c dx ob ps iv e false false (r : Int) tr ++ post))) (hi : IntsN iv is) (hr : r = is.length) (hok : IdxOk ps.length is) (hp : ps.length ≤ 4)
    (hy : ∀ is', nextIdx ps.length is = some is' → NextY w A env h₀ g d os m pre post a rg p c dx ob ps e r tr Q is')
    (hn : nextIdx ps.length is = none → ∀ h₂ h' t', KtsTurn fs h₀ h₂ → Led h₂ env.locals m h' (pre ++ (CBl a rg p c dx ob ps iv e false true (r : Int) tr ++ post)) → Q none ⟨h', g, d, t', os⟩) :
    wpAny (model PG w) A (pyNext (.ref c)) Q E ⟨h, g, d, t, os⟩ := by
  have hs : findIn (hd.heap_39 w.params) (.ref 147) "__next__" = some (some (.ref 143)) := by kernel_rfl!
  have hf : isFn (hd.heap_39 w.params) (.ref 143) = true := by kernel_rfl!
  obtain ⟨⟨g4, g3, g2, g1, g0⟩, s4, s3, s2, s1, s0⟩ := slFacts w
  have ma : ∀ {f st : Bool} {iv : List Value}, (a, lstO iv e) ∈ pre ++ (CBl a rg p c dx ob ps iv e f st (r : Int) tr ++ post) := List.mem_append_right _ (.head _)
  have mp : ∀ {f st : Bool} {iv : List Value}, (p, tupO ps) ∈ pre ++ (CBl a rg p c dx ob ps iv e f st (r : Int) tr ++ post) := List.mem_append_right _ (.tail _ (.tail _ (.head _)))
  have mc : ∀ {f st : Bool} {iv : List Value}, (c, slObj 147 dx [some (.bool f), some (.ref a), some (.ref p), some (.int (r : Int) tr), some (.bool st)]) ∈ pre ++ (CBl a rg p c dx ob ps iv e f st (r : Int) tr ++ post) := List.mem_append_right _ (.tail _ (.tail _ (.tail _ (.head _))))
  have md : ∀ {f st : Bool} {iv : List Value}, (dx, dictOf [] 0) ∈ pre ++ (CBl a rg p c dx ob ps iv e f st (r : Int) tr ++ post) := List.mem_append_right _ (.tail _ (.tail _ (.tail _ (.tail _ (.head _)))))
  refine owit_next (s := ⟨h, g, d, t, os⟩) D.fr C.X (InstAt.of_news D.nw mc md) hs hf ?_
  k_dflt (refine' wpAny_call (enterX (n := 19) [("self", .ref c)] ["pool", "indices", "n", "r", "i", "j"] ["StopIteration", "len", "_picked"] ?C Kk ?D ?o ?c ?b ?f ?g ?i ?j ?_))
  kcf_m
  intro A' env' gb h₁ t' Q' E' C' fl D' hQ hE
  dsimp only [List.map, List.append_nil, List.cons_append, List.nil_append] at fl D'
  kcf_all
  refine isTrue_plain ?_
  refine rSlotN C' fl D' (by kaf_pre) mc md g4 (by rfl) (by rfl) fun t2 => ?_
  kcf_all
  refine rSlotN C' fl D' (by kaf_pre) mc md g2 (by rfl) (by rfl) fun t2 => ?_
  kcf_all
  refine rSlotN C' fl (by assumption) (by kaf_pre) mc md g1 (by rfl) (by rfl) fun t2 => ?_
  kcf_all
  refine rLenS C' (by assumption) mp (.tup rfl rfl) (by omega) fun tk9 t9 => ?_
  kcf_all
  refine rSlotN C' fl (by assumption) (by kaf_pre) mc md g3 (by rfl) (by rfl) fun t2 => ?_
  kcf_all
  refine isTrue_plain ?_
  refine rSlotN C' fl (by assumption) (by kaf_pre) mc md g0 (by rfl) (by rfl) fun t2 => ?_
  kcf_all
  rename_i tkn t5 tki t6 h6 t7 D6
  have hl2 := hok.len
  have hir : (r : Int) = is.length := by omega
  refine wpAny_mono (rWhile (fun k vs nw => ∃ (i : Int) (ti : Tok), -1 ≤ i ∧ i < is.length ∧ k = (i + 1).toNat ∧ vs = [some (.ref c), some (.ref p), some (.ref a), some (.int (ps.length : Int) tk9), some (.int (r : Int) tr), some (.int i ti), none] ∧ nw = pre ++ (CBl a rg p c dx ob ps iv e false false (r : Int) tr ++ post) ∧
    ∀ j x : Nat, i < j → is[j]? = some x → (x : Int) = j + ps.length - is.length) r D6 ⟨(r : Int) - 1, tki, by omega, by omega, by omega, by rfl, rfl, fun j x h1 h2 => absurd (List.getElem?_eq_some_iff.mp h2).1 (by omega)⟩ ?_) (fun _ _ q => q) fun _ _ e => e.elim
  rintro k vs nw h7 t7 D7 ⟨i, ti, hi0, hi1, rfl, rfl, rfl, hj⟩
  by_cases h0 : i < 0
  · kcf_all
    refine sSlot C' (by assumption) md (UpdG.app (show UpdG c (slObj 147 dx [some (.bool false), some (.ref a), some (.ref p), some (.int (r : Int) tr), some (.bool false)]) (CBl a rg p c dx ob ps iv e false false (r : Int) tr ++ post) _ from .s (.s (.s .z))) pre) (sl' := [some (.bool false), some (.ref a), some (.ref p), some (.int (r : Int) tr), some (.bool true)]) s4 (by decide) (by rfl) fun h8 t8 D8 => ?_
    kcf_all
    refine rStop C' fl D8 (.head _) fun h9 ex hm => ?_
    refine hE ex _ _ _ _ _ _ D8 hm fun h₂ h' o T2 D9 ho hc => ?_
    refine wpAny_isInstance (T := "StopIteration") (b := true) ⟨o, ho, hc⟩ isSubtype_stop ?_
    rw [if_pos rfl]
    exact hn (nextNone fun j x e => hj j x (by omega) e) h₂ h' _ T2 D9
  · obtain ⟨k, rfl⟩ : ∃ k : Nat, i = k := ⟨i.toNat, by omega⟩
    obtain ⟨x, hx⟩ : ∃ x, is[k]? = some x := ⟨_, List.getElem?_eq_getElem (by omega)⟩
    obtain ⟨tx, hiv⟩ := idx_at hi hx
    kcf_all
    refine Subscript_ ?_
    kcf_all
    refine rItem D7 ma (by omega) (by omega) (by simpa using hiv) (by rfl) ?_
    by_cases he : (x : Int) = (k : Int) + ps.length - r
    · kcf_all
      refine WEnd.mk (by assumption) (k' := k) (by omega) ⟨(k : Int) - 1, _, by omega, by omega, by omega, by rfl, rfl, fun j y h1 h2 => ?_⟩
      by_cases hjk : j = k
      · subst hjk
        rw [hx] at h2; cases h2
        rw [← hir]; exact he
      · exact hj j y (by omega) h2
    · kcf_all
      have he' : (x : Int) ≠ k + ps.length - is.length := by rw [← hir]; exact he
      refine wpAny_AugAssign_SubscriptAny ?_
      kcf_all
      refine rGetI D7 ma (by omega) (by omega) (by simpa using hiv) ?_
      kcf_all
      refine rSetI (is := is.map fun u : Nat => (u : Int)) D7 (UpdG.app (show UpdG a (lstO iv e) (CBl a rg p c dx ob ps iv e false false (r : Int) tr ++ post) _ from .z) pre) (intsN_are hi) (by omega) (by rw [List.length_map]; omega) (by omega) fun h8 t8 D8 => ?_
      rename_i ux tux
      have D9 : Led gb env'.locals _ h8 (pre ++ (CBl a rg p c dx ob ps (iv.set k (.int ((x + 1 : Nat) : Int) ux)) e false false (r : Int) tr ++ post)) := D8
      clear D8 D7 D6
      have hk4 : k < is.length := (List.getElem?_eq_some_iff.mp hx).1
      have hk5 : k < iv.length := by rw [hi.1]; exact hk4
      kcf_all
      refine wIn' (wStep ?_)
      by_cases hk : k + 1 = is.length
      · obtain ⟨hnx, hx1⟩ := nextA hok hx hk he'
        obtain ⟨ok2, len2⟩ := nextOk hok hnx
        have hi2 := intsN_set (t := ux) (k := k) hi (show x + 1 < 4 by omega)
        kcf_all
        rename_i h12 t12 D12
        have hr3 : r = (is.set k (x + 1)).length := by rw [hr, len2]
        subst hr3
        refine (pickedT w p a ps _ e _ (pickV ps (is.set k (x + 1))) tr hi2 (by simp [pickV]) (by omega) (by omega) (pick_ok ok2)).use C' (by decide) D12 ⟨mp, ma⟩ ?_
        rintro _ _ h13 t13 D13 ⟨q, l, o, rfl, rfl⟩
        kcf_all
        exact hQ _ _ _ _ _ _ D13 fun D14 => hy _ hnx _ _ _ _ _ _ hi2 D14
      · obtain ⟨hnx, hx1⟩ := nextB hok hx (by omega) he' (fun j y h1 h2 => hj j y (by omega) h2)
        obtain ⟨ok2, len2⟩ := nextOk hok hnx
        have hi1 := intsN_set (t := ux) (k := k) hi (show x + 1 < 4 by omega)
        have hr3 : r = ((is.set k (x + 1)).set (k + 1) (x + 2)).length := by rw [hr, len2]
        kcf_all
        rename_i h12 t12 D12
        refine wpAny_Assign_Subscript ?_ rfl
        kcf_all
        refine Subscript_ ?_
        kcf_all
        refine rItem (v := .int ((x + 1 : Nat) : Int) ux) D12 ma (by omega) (by omega) ?_ (by rfl) ?_
        · rw [show ((k : Int) + 1 - 1).toNat = k by omega, List.getElem?_set_self hk5]
        kcf_all
        refine rSetI (is := (is.set k (x + 1)).map fun u : Nat => (u : Int)) D12 (UpdG.app (show UpdG a (lstO (iv.set k (.int ((x + 1 : Nat) : Int) ux)) e) (CBl a rg p c dx ob ps (iv.set k (.int ((x + 1 : Nat) : Int) ux)) e false false (r : Int) tr ++ post) _ from .z) pre) (intsN_are hi1) (by omega) (by rw [List.length_map, List.length_set]; omega) (by omega) fun h14 t14 D14 => ?_
        rename_i uy tuy
        have D15 : Led gb env'.locals _ h14 (pre ++ (CBl a rg p c dx ob ps ((iv.set k (.int ((x + 1 : Nat) : Int) ux)).set (k + 1) (.int ((x + 2 : Nat) : Int) uy)) e false false (r : Int) tr ++ post)) := D14
        clear D14 D12 D9
        have hi2 := intsN_set (t := uy) (k := k + 1) hi1 (show x + 2 < 4 by omega)
        kcf_all
        refine wStep ?_
        kcf_all
        rename_i h16 t16 D16
        subst hr3
        refine (pickedT w p a ps _ e _ (pickV ps ((is.set k (x + 1)).set (k + 1) (x + 2))) tr hi2 (by simp [pickV]) (by omega) (by omega) (pick_ok ok2)).use C' (by decide) D16 ⟨mp, ma⟩ ?_
        rintro _ _ h13 t13 D13 ⟨q, l, o, rfl, rfl⟩
        kcf_all
        exact hQ _ _ _ _ _ _ D13 fun D14 => hy _ hnx _ _ _ _ _ _ hi2 D14
end
section
open PySem.W.X (Led)
open PyProof.Rows PySem.Calls PySem.Spec
set_option pp.deepTerms false
/-- combinations.__next__, the first time -/
theorem nextF {w : World} {A : Around} {env : Env} {base h₀ h : Heap} {fs : List Addr} {g : Array GenState} {d : Drawn} {t : Nat} {os : OsState} {m : Str → Option Value} {n : Nat} {E : Value → Shared → Prop} {Q : Option Value → Shared → Prop} {pre post : List (Addr × Obj)} {a rg p c dx : Addr} {ob : Obj} {ps iv : List Value} {e r : Nat} {tr : Tok} {is : List Nat}
    (C : Cx w A env h₀ 20) (Kk : Kn w A env base h₀ fs) (D : Led h₀ env.locals m h (pre ++ (CBl a rg p c dx ob ps iv e true false (r : Int) tr ++ post))) (hi : IntsN iv is) (hr : r = is.length) (hok : IdxOk ps.length is) (hp : ps.length ≤ 4)
    (hy : NextY w A env h₀ g d os m pre post a rg p c dx ob ps e r tr Q is) :
    wpAny (model PG w) A (pyNext (.ref c)) Q E ⟨h, g, d, t, os⟩ := by
  have hs : findIn (hd.heap_39 w.params) (.ref 147) "__next__" = some (some (.ref 143)) := by kernel_rfl!
  have hf : isFn (hd.heap_39 w.params) (.ref 143) = true := by kernel_rfl!
  obtain ⟨⟨g4, g3, g2, g1, g0⟩, s4, s3, s2, s1, s0⟩ := slFacts w
  have ma : ∀ {f st : Bool} {iv : List Value}, (a, lstO iv e) ∈ pre ++ (CBl a rg p c dx ob ps iv e f st (r : Int) tr ++ post) := List.mem_append_right _ (.head _)
  have mp : ∀ {f st : Bool} {iv : List Value}, (p, tupO ps) ∈ pre ++ (CBl a rg p c dx ob ps iv e f st (r : Int) tr ++ post) := List.mem_append_right _ (.tail _ (.tail _ (.head _)))
  have mc : ∀ {f st : Bool} {iv : List Value}, (c, slObj 147 dx [some (.bool f), some (.ref a), some (.ref p), some (.int (r : Int) tr), some (.bool st)]) ∈ pre ++ (CBl a rg p c dx ob ps iv e f st (r : Int) tr ++ post) := List.mem_append_right _ (.tail _ (.tail _ (.tail _ (.head _))))
  have md : ∀ {f st : Bool} {iv : List Value}, (dx, dictOf [] 0) ∈ pre ++ (CBl a rg p c dx ob ps iv e f st (r : Int) tr ++ post) := List.mem_append_right _ (.tail _ (.tail _ (.tail _ (.tail _ (.head _)))))
  refine owit_next (s := ⟨h, g, d, t, os⟩) D.fr C.X (InstAt.of_news D.nw mc md) hs hf ?_
  k_dflt (refine' wpAny_call (enterX (n := 19) [("self", .ref c)] ["pool", "indices", "n", "r", "i", "j"] ["StopIteration", "len", "_picked"] ?C Kk ?D ?o ?c ?b ?f ?g ?i ?j ?_))
  kcf_m
  intro A' env' gb h₁ t' Q' E' C' fl D' hQ hE
  dsimp only [List.map, List.append_nil, List.cons_append, List.nil_append] at fl D'
  clear hE
  kcf_all
  refine isTrue_plain ?_
  refine rSlotN C' fl D' (by kaf_pre) mc md g4 (by rfl) (by rfl) fun t2 => ?_
  kcf_all
  refine rSlotN C' fl D' (by kaf_pre) mc md g2 (by rfl) (by rfl) fun t2 => ?_
  kcf_all
  refine rSlotN C' fl (by assumption) (by kaf_pre) mc md g1 (by rfl) (by rfl) fun t2 => ?_
  kcf_all
  refine rLenS C' (by assumption) mp (.tup rfl rfl) (by omega) fun tk9 t9 => ?_
  kcf_all
  refine rSlotN C' fl (by assumption) (by kaf_pre) mc md g3 (by rfl) (by rfl) fun t2 => ?_
  kcf_all
  refine isTrue_plain ?_
  refine rSlotN C' fl (by assumption) (by kaf_pre) mc md g0 (by rfl) (by rfl) fun t2 => ?_
  kcf_all
  refine sSlot C' (by assumption) md (UpdG.app (show UpdG c (slObj 147 dx [some (.bool true), some (.ref a), some (.ref p), some (.int (r : Int) tr), some (.bool false)]) (CBl a rg p c dx ob ps iv e true false (r : Int) tr ++ post) _ from .s (.s (.s .z))) pre) (sl' := [some (.bool false), some (.ref a), some (.ref p), some (.int (r : Int) tr), some (.bool false)]) s0 (by decide) (by rfl) fun h8 t8 D8 => ?_
  have D9 : Led gb env'.locals _ h8 (pre ++ (CBl a rg p c dx ob ps iv e false false (r : Int) tr ++ post)) := D8
  clear D8
  kcf_all
  have hl2 := hok.len
  subst hr
  refine (pickedT w p a ps iv e is (pickV ps is) tr hi (by simp [pickV]) (by omega) (by omega) (pick_ok hok)).use C' (by decide) D9 ⟨mp, ma⟩ ?_
  rintro _ _ h13 t13 D13 ⟨q, l, o, rfl, rfl⟩
  kcf_all
  exact hQ _ _ _ _ _ _ D13 fun D14 => hy _ _ _ _ _ _ hi D14
/-- the committees of a size, in order -/
def coms (n : Nat) : Nat → List (List Nat)
  | 0 => [[]]
  | 1 => (List.range n).map fun a => [a]
  | _ => (List.range n).flatMap fun a => ((List.range n).filter fun b => decide (a < b)).map fun b => [a, b]
def idxOkB (n : Nat) : List Nat → Bool
  | [] => true
  | [a] => decide (a < n)
  | [a, b] => decide (a < b) && decide (b < n)
  | _ => false
theorem idxOk_iff {n : Nat} {is : List Nat} (h : idxOkB n is = true) : IdxOk n is := by
  match is, h with
  | [], _ => trivial
  | [a], h => exact (of_decide_eq_true (p := a < n) h : a < n)
  | [a, b], h =>
    simp only [idxOkB, Bool.and_eq_true, decide_eq_true_eq] at h
    exact h
theorem coms_chain : ∀ n < 5, ∀ r < 3, r ≤ n → (coms n r)[0]? = some (List.range r) ∧ ∀ i < (coms n r).length, (match (coms n r)[i]? with | some is => decide (nextIdx n is = (coms n r)[i + 1]?) && idxOkB n is && decide (is.length = r) | none => false) = true := by decide +kernel
theorem coms_at {n r i : Nat} {is : List Nat} (hn : n ≤ 4) (hr : r ≤ 2) (hrn : r ≤ n) (h : (coms n r)[i]? = some is) : nextIdx n is = (coms n r)[i + 1]? ∧ IdxOk n is ∧ is.length = r := by
  have := (coms_chain n (by omega) r (by omega) hrn).2 i (List.getElem?_eq_some_iff.mp h).1
  rw [h] at this
  simp only [Bool.and_eq_true, decide_eq_true_eq] at this
  exact ⟨this.1.1, idxOk_iff this.1.2, this.2⟩
/-- a combinations iterator that has i items behind it -/
def CombI (a rg p c dx : Addr) (ob : Obj) (ps : List Value) (e r : Nat) (tr : Tok) (i : Nat) (l : List (Addr × Obj)) : Prop :=
  ∃ iv is, l = CBl a rg p c dx ob ps iv e (i == 0) false (r : Int) tr ∧ IntsN iv is ∧ (coms ps.length r)[i - 1]? = some is
theorem combNext {w : World} {A : Around} {env : Env} {base h₀ h : Heap} {fs : List Addr} {g : Array GenState} {d : Drawn} {t : Nat} {os : OsState} {m : Str → Option Value} {n : Nat} {E : Value → Shared → Prop} {Q : Option Value → Shared → Prop} {pre post cb : List (Addr × Obj)} {a rg p c dx : Addr} {ob : Obj} {ps : List Value} {e r : Nat} {tr : Tok} {i : Nat}
    (C : Cx w A env h₀ n) (hn20 : 20 ≤ n) (Kk : Kn w A env base h₀ fs) (hc : CombI a rg p c dx ob ps e r tr i cb) (D : Led h₀ env.locals m h (pre ++ (cb ++ post))) (hp : ps.length ≤ 4) (hr : r ≤ 2) (hrp : r ≤ ps.length)
    (hy : ∀ is, (coms ps.length r)[i]? = some is → ∀ cb' q l o h' t', CombI a rg p c dx ob ps e r tr (i + 1) cb' → Led h₀ env.locals m h' ((q, tupO (pickV ps is)) :: (l, o) :: (pre ++ (cb' ++ post))) → Q (some (.ref q)) ⟨h', g, d, t', os⟩)
    (hn : (coms ps.length r)[i]? = none → ∀ h₂ h' t' cb', KtsTurn fs h₀ h₂ → Led h₂ env.locals m h' (pre ++ (cb' ++ post)) → Q none ⟨h', g, d, t', os⟩) :
    wpAny (model PG w) A (pyNext (.ref c)) Q E ⟨h, g, d, t, os⟩ := by
  obtain ⟨iv, is, rfl, hi, hat⟩ := hc
  obtain ⟨hnx, hok, hlen⟩ := coms_at hp hr hrp hat
  cases i with
  | zero =>
    refine nextF (n := n) (C.le hn20) Kk D hi hlen.symm hok hp ?_
    intro iv' q l o h' t' hi' D'
    exact hy is hat _ q l o h' t' ⟨iv', is, rfl, hi', hat⟩ D'
  | succ i =>
    refine nextT (n := n) (C.le hn20) Kk D hi hlen.symm hok hp ?_ ?_
    · intro is' e' iv' q l o h' t' hi' D'
      rw [hnx] at e'
      exact hy is' e' _ q l o h' t' ⟨iv', is', rfl, hi', e'⟩ D'
    · intro e' h₂ h' t' T D'
      rw [hnx] at e'
      exact hn e' h₂ h' t' _ T D'
end
section
open PySem.W.X (Led)
open PyProof.Rows PySem.Calls PySem.Spec
set_option pp.deepTerms false
section
variable {w : World} {A : Around} {env : Env} {h₀ h : Heap} {g : Array GenState} {d : Drawn} {t : Nat} {os : OsState} {m : Str → Option Value} {news : List (Addr × Obj)} {n : Nat} {E : Value → Shared → Prop}
theorem itListA {a : Addr} {ys : List Value} {e : Nat} (D : Led h₀ env.locals m h news) (hm : (a, lstO ys e) ∈ news) {Q : Value → Shared → Prop}
    (hq : ∀ I oI h' Ct P, ItG w I Ct ys.length (fun i v => ys[i]? = some v) P → P 0 oI → (∀ i o, P i o → o.cls = .type "list_iterator") → (∀ h, h.get? a = some (lstO ys e) → Ct h) → Led h₀ env.locals m h' ((I, oI) :: news) → Q (.ref I) ⟨h', g, d, t, os⟩) : wpAny (model PG w) A (pyIter (.ref a)) Q E ⟨h, g, d, t, os⟩ := by
  have ho := (D.nw _ hm).1
  have hne : a ≠ h.objs.size := Nat.ne_of_lt (Heap.lt_size ho)
  refine wpAny_pyIter_list (s := ⟨h, g, d, t, os⟩) ⟨_, ho, rfl, _, rfl⟩ ?_
  exact hq _ _ _ _ _ (ItG.list w h.objs.size a hne ys) ⟨rfl, rfl⟩ (fun i o q => q.1) (fun h hh => ⟨_, hh, rfl, _, rfl⟩) (ledPushed D (.inr trivial) (Heap.get?_push_size _ rfl) fun b o e => Heap.get?_push_of_some _ e)
/-- a, b = a tuple of two -/
theorem asTup2 {a b : Str} {pa pb tp : Pos} {k : Nat} {r : Addr} {v1 v2 : Value} {Q : Unit → Shared → Prop} (C : Cx w A env h₀ n) (D : Led h₀ env.locals m h news) (hr : (r, tupO [v1, v2]) ∈ news)
    (hq : ∀ h', Led h₀ env.locals m h' news → wpAny (model PG w) A (assign (.Name a pa) env v1) (fun _ s => wpAny (model PG w) A (assign (.Name b pb) env v2) Q E s) E ⟨h', g, d, t, os⟩) :
    wpAny (model PG w) A (assign (.Tuple [.Name a pa, .Name b pb] k tp) env (.ref r)) Q E ⟨h, g, d, t, os⟩ := by
  show wpAny _ _ (do standAt tp; unpack (.ref r) (assignEach [.Name a pa, .Name b pb] env)) _ _ _
  refine wpAny_bind (wpAny_standAt ?_)
  show wpAny _ _ (do assignInOrder [assign (.Name a pa) env, assign (.Name b pb) env] (← holding [.ref r] (unpackItems (.ref r) 2 none))) _ _ _
  refine wpAny_bind (wpAny_holding (unpackItemsN_ (s := ⟨h, g, d, t, os⟩) D.fr D.nw (items := #[v1, v2]) (News.isTup D.nw hr) C.hand rfl fun h'' F N => ?_))
  exact assignInOrder_cons (wpAny_mono (hq h'' (ledSame D F N)) (fun _ s q => assignInOrder_cons (wpAny_mono q (fun _ s q => assignInOrder_nil q) fun _ _ e => e)) fun _ _ e => e)
end
def BalIn (news : List (Addr × Obj)) (v : Value) (num : Nat) (wt : Int) : Prop := ∃ r t1 t2, v = .ref r ∧ (r, tupO [.int (num : Int) t1, .int wt t2]) ∈ news
theorem BalIn.mono {news news' : List (Addr × Obj)} {v : Value} {num : Nat} {wt : Int} (B : BalIn news v num wt) (h : ∀ p ∈ news, p ∈ news') : BalIn news' v num wt := let ⟨r, t1, t2, a, b⟩ := B; ⟨r, t1, t2, a, h _ b⟩
/-- a list of ballots in the ledger -/
def BalsIn (news : List (Addr × Obj)) (bl : Addr) (bs : List (Nat × Int)) : Prop := ∃ bvs be, (bl, lstO bvs be) ∈ news ∧ bvs.length = bs.length ∧ ∀ (i : Nat) (v : Value) (b : Nat × Int), bvs[i]? = some v → bs[i]? = some b → BalIn news v b.1 b.2
theorem BalsIn.mono {news news' : List (Addr × Obj)} {bl : Addr} {bs : List (Nat × Int)} (B : BalsIn news bl bs) (h : ∀ p ∈ news, p ∈ news') : BalsIn news' bl bs := let ⟨bvs, be, a, b, c⟩ := B; ⟨bvs, be, h _ a, b, fun i v b h1 h2 => (c i v b h1 h2).mono h⟩
/-- whom a ballot's number approves -/
def appr (size num : Nat) : List Nat := (List.range size).filter fun c => num / 2 ^ c % 2 == 1
theorem IntsN.snoc {vs : List Value} {ns : List Nat} (h : IntsN vs ns) {u : Nat} (t : Tok) (hu : u < 4) : IntsN (vs ++ [.int (u : Int) t]) (ns ++ [u]) := by
  refine ⟨by simp [h.1], fun i v hi => ?_⟩
  by_cases q : i < vs.length
  · rw [List.getElem?_append_left q] at hi
    obtain ⟨t', u', h1, h2, h3⟩ := h.2 i v hi
    exact ⟨t', u', by rw [List.getElem?_append_left (by rw [← h.1]; exact q)]; exact h1, h2, h3⟩
  · have hl := (List.getElem?_eq_some_iff.mp hi).1
    simp at hl
    obtain rfl : i = vs.length := by omega
    simp at hi
    exact ⟨t, u, by rw [h.1]; simp, hu, hi.symm⟩
theorem VoterIn.dropG {w : World} {b : Addr} {ob : Obj} {A B : List (Addr × Obj)} {v : Value} {nsl : List Nat} {wt : Int} (V : VoterIn w (A ++ (b, ob) :: B) v nsl wt) (h1 : ∀ dx, instObj 732 dx ≠ ob) (h2 : ∀ es n, dictOf es n ≠ ob) (h3 : ∀ dd x ep, setO w (.ref 75) dd x ep ≠ ob) : VoterIn w (A ++ B) v nsl wt := by
  have key : ∀ {a : Addr} {o : Obj}, (a, o) ∈ A ++ (b, ob) :: B → o ≠ ob → (a, o) ∈ A ++ B := fun h hne => by
    rcases List.mem_append.mp h with q | q
    · exact List.mem_append_left _ q
    · rcases List.mem_cons.mp q with q | q
      · cases q; exact absurd rfl hne
      · exact List.mem_append_right _ q
  obtain ⟨vo, vdx, o, cs, dd, x, ep, tw, a, b, c, d, e, f⟩ := V
  have d' := d
  obtain ⟨es, n, rfl, _⟩ := d'
  exact ⟨vo, vdx, _, cs, dd, x, ep, tw, a, key b (h1 _), key c (h2 _ _), d, key e (h3 _ _ _), f⟩
theorem bitTest (num u : Nat) : ((((num : Int).fdiv ((2 : Int) ^ ((u : Int)).toNat)).fmod 2) == 1) = (num / 2 ^ u % 2 == 1) := by
  have e1 : ((2 : Int) ^ ((u : Int)).toNat) = ((2 ^ u : Nat) : Int) := by rw [Int.toNat_natCast, Int.natCast_pow]; rfl
  rw [e1, Int.fdiv_eq_ediv_of_nonneg _ (Int.natCast_nonneg _), ← Int.natCast_ediv, Int.fmod_eq_emod_of_nonneg _ (by omega)]
  have e2 : (((num / 2 ^ u : Nat) : Int) % 2) = ((num / 2 ^ u % 2 : Nat) : Int) := by omega
  rw [e2]
  by_cases q : num / 2 ^ u % 2 = 1
  · simp [q]
  · have q2 : ¬ ((num / 2 ^ u % 2 : Nat) : Int) = 1 := by omega
    rw [beq_eq_false_iff_ne.mpr q2]; simp [q]
theorem lawProf (w : World) (size : Nat) (ts : Tok) (bl : Addr) (bs : List (Nat × Int)) (hs0 : 0 < size) (hs1 : size ≤ 4) (hbl : bs.length < 900) (hb : ∀ b ∈ bs, 0 < b.2) : TSpecG gk g0 w (call (.ref 748) [.int (size : Int) ts, .ref bl]) 60 (fun dyn => BalsIn dyn bl bs)
    (fun dyn r tl => ∃ pf, r = .ref pf ∧ ProfIn w (tl ++ dyn) pf size (bs.map fun b => (appr size b.1, b.2))) := by
  rintro A env h₀ m dyn T h g d t os Q E C G hT D ⟨bvs, be, hbm, hblen, hbal⟩ hret
  k_dflt (refine' wpAny_call (enterL (n := 59) [("size", .int (size : Int) ts), ("ballots", .ref bl)] [("size", .int (size : Int) ts), ("ballots", .ref bl)] ["profile", "weight"] ["Profile", "Voter", "range"] ?C ?D ?o ?c ?b ?kd ?nd ?lb ?fl ?g ?k ?_))
  (case C => assumption); (case D => assumption); (case o => k_is); (case c => k_is); (case b => (intro hK; first | exact BindsTo.of_eq rfl | exact binds_K hK rfl (by k_is) rfl rfl rfl | fail "ENT: no rule for these arguments"))
  (case kd => rfl); (case nd => decide +kernel); (case lb => rfl); (case fl => kernel_rfl!); (case g => rfl); (case k => rfl)
  intro A' L' env' gb h₁ t' Q' cells C' he hlt Y fl D' hQ
  dsimp only [List.map, List.append_nil, List.cons_append, List.nil_append] at fl D'
  obtain ⟨oc, rfl, hoc⟩ := CellsAre.one (show CellsAre _ [(Str.ofString "number", L' + 1)] cells from Y)
  dsimp only [List.cons_append, List.nil_append] at D'
  kcf_all
  refine (profMake w size ts (by omega) (by omega)).t.use C' (by assumption) (by decide) trivial ?_
  rintro _ _ h2 t2 D2 ⟨pf, pdx, o, lv, lc, lnm, cvs, ec, B, rfl, rfl, i1, i2, F, hv, hcv⟩
  kcf_all
  rename_i h3 t3 D3
  clear D2 D'
  refine rForIt (h₀ := gb) (d := d) (os := os) (fun _ => by rfl) (rLoc C' fl D3 (by kaf_pre) ?_)
  have hbm3 : (bl, lstO bvs be) ∈ (lv, lstO [] 0) :: B ++ (L' + 1, oc) :: (dyn ++ T.l) := List.mem_append_right _ (.tail _ (List.mem_append_left _ hbm))
  refine itListA D3 hbm3 fun I oI h4 Ct P It hP0 hPc hct D4 => ?_
  refine ⟨I, oI, _, _, _, (fun i v pre post g1 => GB gk g0 g1 ∧ ∃ (T2 : Tabs) (vvs : List Value) (ev : Nat) (oc' : Obj) (c4 : Option Value) (ov : Option Value), T2.ok ∧ v = [some (.int (size : Int) ts), some (.ref bl), some (.ref pf), c4] ∧ post = (lv, lstO vvs ev) :: (B ++ (L' + 1, oc') :: (dyn ++ T2.l)) ∧ oc'.data = .cell ov ∧ vvs.length = i ∧
    ∀ (j : Nat) (v : Value) (b : Nat × Int), vvs[j]? = some v → bs[j]? = some b → VoterIn w (pre ++ (B ++ dyn)) v (appr size b.1) b.2), _, _, _, Ct, _, _, P, rfl, rfl, C'.hand, It, hP0, .inr ⟨_, _, _, rfl⟩, D4, ⟨G, T, [], 0, oc, none, _, hT, rfl, rfl, hoc, rfl, fun j v b h => by cases h⟩, ?_, ?_, ?_⟩
  · rintro i vs pre post g2 h5 ⟨_, T2, vvs, ev, oc', c4, ov, _, _, rfl, _⟩ hh
    exact hct h5 (hh _ (List.mem_append_right _ (.tail _ (List.mem_append_right _ (.tail _ (List.mem_append_left _ hbm))))))
  · rintro i vsx pre post oI2 g2 h5 t5 v hi hV ⟨G2, T2, vvs, ev, oc', c4, ov, hT2, rfl, rfl, hov, hvl, hvot⟩ D5 hP2
    have hib : i < bs.length := by rw [← hblen]; exact hi
    obtain ⟨r, t1, t2', rfl, hr⟩ := hbal i v bs[i] hV (List.getElem?_eq_getElem hib)
    refine asTup2 C' D5 (List.mem_append_right _ (.tail _ (.tail _ (List.mem_append_right _ (.tail _ (List.mem_append_left _ hr)))))) fun h6 D6 => ?_
    clear D5
    have e1 : ∀ o', pre ++ (I, oI2) :: ((lv, lstO vvs ev) :: (B ++ (L' + 1, o') :: (dyn ++ T2.l))) = (pre ++ (I, oI2) :: (lv, lstO vvs ev) :: B) ++ (L' + 1, o') :: (dyn ++ T2.l) := fun o' => by simp only [List.append_assoc, List.cons_append]
    rw [e1] at D6
    refine wpAny_assign_Name (rCellSto C'.kind D6 (by rw [he]; rfl) (c := L' + 1) (by rw [he]; rfl) (UpdG.z.app _) hov fun h7 o7 hd7 D7 => ?_)
    clear D6
    refine wpAny_assign_Name (rSto C' fl D7 (by kaf_suf) fun h8 t8 D8 => ?_)
    clear D7
    have e2 : (pre ++ (I, oI2) :: (lv, lstO vvs ev) :: B) ++ (L' + 1, o7) :: (dyn ++ T2.l) = ((pre ++ [(I, oI2)]) ++ (lv, lstO vvs ev) :: (B ++ (L' + 1, o7) :: dyn)) ++ T2.l := by simp only [List.append_assoc, List.cons_append, List.nil_append]
    rw [e2] at D8
    have hBm : ∀ p ∈ B, p ∈ (pre ++ [(I, oI2)]) ++ (B ++ (L' + 1, o7) :: dyn) := fun p hp => List.mem_append_right _ (List.mem_append_left _ hp)
    have hin : ∀ p, p ∈ (pre ++ [(I, oI2)]) ++ (B ++ (L' + 1, o7) :: dyn) → p ∈ ((pre ++ [(I, oI2)]) ++ (lv, lstO vvs ev) :: (B ++ (L' + 1, o7) :: dyn)) ++ T2.l := fun p hp => by
      rcases List.mem_append.mp hp with q | q
      · exact List.mem_append_left _ (List.mem_append_left _ q)
      · exact List.mem_append_left _ (List.mem_append_right _ (.tail _ q))
    have m1 := hin _ (hBm _ i1)
    have m2 := hin _ (hBm _ i2)
    have mc : (L' + 1, o7) ∈ ((pre ++ [(I, oI2)]) ++ (lv, lstO vvs ev) :: (B ++ (L' + 1, o7) :: dyn)) ++ T2.l := hin _ (List.mem_append_right _ (List.mem_append_right _ (.head _)))
    generalize hP1 : pre ++ [(I, oI2)] = P1 at D8 hBm hin m1 m2 mc
    generalize hP3 : B ++ (L' + 1, o7) :: dyn = P3 at D8 hBm hin m1 m2 mc
    kcf_all
    refine rCompD ["cand"] [] [("number", L' + 1)] C' (by assumption) (fun _ => by rfl) (by rw [he]; rfl) (by rfl) rfl (by rfl) (by rw [he]; kernel_rfl!) ?_
    kcf_all
    rename_i rg t9 rt1 rt2 h9 D9
    clear D8
    refine rItRange D9 (.head _) (by omega) (by omega) fun I3 oI3 h10 Ct3 P4 It3 hP30 hct3 D10 => ?_
    clear D9
    refine compIt (fun k ys pre => pre = [] ∧ IntsN ys ((List.range k).filter fun c => bs[i].1 / 2 ^ c % 2 == 1) ∧ ys.length ≤ k) C'.hand It3 hP30 hct3 D10 (.inl ⟨_, _, rfl⟩) (by omega) ⟨rfl, ⟨rfl, fun j v h => by cases h⟩, Nat.le_refl _⟩ (fun k ys pre q => q.2.2) ?_ ?_
    · rintro gB C2 D2 env2 k ys vs2 pre2 e3 o2 h4 t4 v hk ⟨tv, rfl⟩ he2 _ _ Cc flc ⟨rfl, hys, hyl⟩ hP5 D11
      clear D10
      obtain ⟨c1, ec1⟩ := vec1 "cand" vs2
      rw [ec1] at D11
      refine wpAny_assign_Name (rSto Cc flc D11 (by kaf_suf) fun h5 t5 D12 => ?_)
      clear D11
      dsimp only [List.nil_append] at D12
      have hcell : CellAt env2 "number" (L' + 1) := by rw [he2, he]; exact ⟨rfl, rfl⟩
      refine wpAny_tests_one ?_
      kcf_all
      have hk4 : k < 4 := by omega
      have hp1 : ((2 : Int) ^ ((k : Int)).toNat) = ((2 ^ k : Nat) : Int) := by rw [Int.toNat_natCast, Int.natCast_pow]; rfl
      have hp2 : 2 ^ k ≤ 2 ^ 3 := Nat.pow_le_pow_right (by decide) (by omega)
      have hp3 : 0 < 2 ^ k := Nat.two_pow_pos k
      refine oPow (by omega) (by omega) (by decide) fun tk4 t4' => ?_
      refine oDiv (by rw [hp1]; omega) (by rw [hp1]; omega) fun tk5 t5' => ?_
      kcf_all
      rw [bitTest]
      have hr1 : List.range (k + 1) = List.range k ++ [k] := List.range_succ
      refine Br.sp (fun hc => ?_) (fun hc => ?_)
      · kcf_all
        refine CIt.mk [] D12 hP5 ⟨rfl, ?_, by rw [List.length_append]; simp; omega⟩
        rw [hr1, List.filter_append, List.filter_cons_of_pos (by simpa using hc), List.filter_nil]
        exact hys.snoc tv hk4
      · refine CIt.mk [] D12 hP5 ⟨rfl, ?_, by omega⟩
        rw [hr1, List.filter_append, List.filter_cons_of_neg (by simpa using hc), List.filter_nil, List.append_nil]
        exact hys
    · rintro D2 ys e3 pre2 h4 t4 _ ⟨rfl, hys, hyl⟩ D11
      clear D10
      dsimp only [List.nil_append] at D11
      kcf_all
      have hnd : (appr size bs[i].1).Nodup := List.Pairwise.filter _ List.nodup_range
      have eT : ∀ (l : List (Addr × Obj)), (D2, lstO ys e3) :: (rg, rgO (size : Int) rt2 ts h9) :: (l ++ T2.l) = ((D2, lstO ys e3) :: (rg, rgO (size : Int) rt2 ts h9) :: l) ++ T2.l := fun l => rfl
      rw [eT] at D11
      refine (voterT w D2 _ ys (appr size bs[i].1) bs[i].2 t2').use _ C' (by decide) G2 hT2 D11 ⟨.head _, .list rfl rfl, hys, hnd, hb _ (List.getElem_mem hib)⟩ ?_
      intro r3 tl3 T3 g3 h5 t5 G3 hT3 D12 hv3
      clear D11
      kcf_all
      have e5 : tl3 ++ (((D2, lstO ys e3) :: (rg, rgO (size : Int) rt2 ts h9) :: (P1 ++ (lv, lstO vvs ev) :: P3)) ++ T3.l) = ((tl3 ++ (D2, lstO ys e3) :: (rg, rgO (size : Int) rt2 ts h9) :: P1) ++ (lv, lstO vvs ev) :: P3) ++ T3.l := by simp only [List.append_assoc, List.cons_append]
      have e6 : tl3 ++ (D2, lstO ys e3) :: (rg, rgO (size : Int) rt2 ts h9) :: (P1 ++ (lv, lstO vvs ev) :: P3) = (tl3 ++ (D2, lstO ys e3) :: (rg, rgO (size : Int) rt2 ts h9) :: P1) ++ (lv, lstO vvs ev) :: P3 := by simp only [List.append_assoc, List.cons_append]
      rw [e5] at D12
      rw [e6] at hv3
      have hv4 := hv3.drop
      obtain ⟨vo, vdx, vob, cs, dd, x, ep, tw, rfl, j1, j2, F2, j3, hx⟩ := hv4
      have hup : ∀ p ∈ P1 ++ P3, p ∈ (tl3 ++ (D2, lstO ys e3) :: (rg, rgO (size : Int) rt2 ts h9) :: P1) ++ P3 := fun p hp => by
        rcases List.mem_append.mp hp with q | q
        · exact List.mem_append_left _ (List.mem_append_right _ (.tail _ (.tail _ q)))
        · exact List.mem_append_right _ q
      refine addVoter (C'.le (by decide)) G3 hT3 D12 (hup _ (hBm _ i1)) (hup _ (hBm _ i2)) F (by kat_tups) (by kat_tups) (by rfl) (hup _ (hBm _ hv)) (size := size) (by rw [hcv.1]; simp) (by omega) j1 j2 F2 j3 hx (hb _ (List.getElem_mem hib)) (fun u hu => List.mem_range.mp (List.mem_filter.mp hu).1) (by omega) ?_
      intro v' tl4 T4 g4 h13 t13 G4 hT4 D13 hv5
      clear D12
      kcf_all
      subst hP1 hP3
      have e7 : (tl4 ++ (tl3 ++ (D2, lstO ys e3) :: (rg, rgO (size : Int) rt2 ts h9) :: (pre ++ [(I, oI2)])) ++ (lv, lstO (vvs ++ [v']) (ev + 1)) :: (B ++ (L' + 1, o7) :: dyn)) ++ T4.l = (tl4 ++ (tl3 ++ (D2, lstO ys e3) :: (rg, rgO (size : Int) rt2 ts h9) :: pre)) ++ (I, oI2) :: ((lv, lstO (vvs ++ [v']) (ev + 1)) :: (B ++ (L' + 1, o7) :: (dyn ++ T4.l))) := by simp only [List.append_assoc, List.cons_append, List.nil_append]
      rw [e7] at D13
      refine FEnd.mk _ _ D13 hP2 ⟨G4, T4, vvs ++ [v'], ev + 1, o7, _, _, hT4, rfl, rfl, hd7, by simp [hvl], ?_⟩
      intro j vj b hj hbj
      by_cases q : j < vvs.length
      · rw [List.getElem?_append_left q] at hj
        refine (hvot j vj b hj hbj).mono fun p hp => ?_
        rcases List.mem_append.mp hp with q | q
        · exact List.mem_append_left _ (List.mem_append_right _ (List.mem_append_right _ (.tail _ (.tail _ q))))
        · exact List.mem_append_right _ q
      · have hl := (List.getElem?_eq_some_iff.mp hj).1
        simp at hl
        obtain rfl : j = i := by omega
        rw [List.getElem?_append_right (by omega), hvl] at hj
        simp at hj
        subst hj
        rw [List.getElem?_eq_getElem hib] at hbj
        cases hbj
        have e8 : tl4 ++ ((tl3 ++ (D2, lstO ys e3) :: (rg, rgO (size : Int) rt2 ts h9) :: (pre ++ [(I, oI2)])) ++ (B ++ (L' + 1, o7) :: dyn)) = (tl4 ++ (tl3 ++ (D2, lstO ys e3) :: (rg, rgO (size : Int) rt2 ts h9) :: pre)) ++ (I, oI2) :: (B ++ (L' + 1, o7) :: dyn) := by simp only [List.append_assoc, List.cons_append, List.nil_append]
        rw [e8] at hv5
        have hcl := hPc _ _ hP2
        have hv6 := hv5.dropG (fun dx q => by rw [← q] at hcl; cases hcl) (fun es n q => by rw [← q] at hcl; exact absurd hcl (by intro z; injection z with z; exact absurd z (by decide))) (fun dd x ep q => by rw [← q] at hcl; cases hcl)
        rw [← List.append_assoc] at hv6
        have hv7 := hv6.dropG (fun dx q => by rw [← q] at hd7; cases hd7) (fun es n q => by rw [← q] at hd7; cases hd7) (fun dd x ep q => by rw [← q] at hd7; cases hd7)
        rw [List.append_assoc] at hv7
        exact hv7
  · rintro vsx pre post g2 h5 t5 ⟨G2, T2, vvs, ev, oc', c4, ov, hT2, rfl, rfl, hov, hvl, hvot⟩ D5
    kcf_all
    have e9 : pre ++ (lv, lstO vvs ev) :: (B ++ (L' + 1, oc') :: (dyn ++ T2.l)) = (pre ++ (lv, lstO vvs ev) :: (B ++ [(L' + 1, oc')])) ++ (dyn ++ T2.l) := by simp only [List.append_assoc, List.cons_append, List.nil_append]
    rw [e9] at D5
    have hB3 : ∀ p ∈ B, p ∈ (pre ++ (lv, lstO vvs ev) :: (B ++ [(L' + 1, oc')])) ++ dyn := fun p hp => List.mem_append_left _ (List.mem_append_right _ (.tail _ (List.mem_append_left _ hp)))
    rw [Int.toNat_natCast] at hcv
    refine hQ _ _ _ _ _ _ D5 fun D9 => hret _ _ T2 _ _ _ G2 hT2 D9 ⟨pf, rfl, pdx, o, lv, lc, lnm, vvs, ev, cvs, ec, hB3 _ i1, hB3 _ i2, F, List.mem_append_left _ (List.mem_append_right _ (.head _)), hB3 _ hv, hcv, by rw [hvl, hblen, List.length_map], fun j v e h1 h2 => ?_⟩
    rw [List.getElem?_map] at h2
    obtain ⟨b, hb1, rfl⟩ := Option.map_eq_some_iff.mp h2
    refine (hvot j v b h1 hb1).mono fun p hp => ?_
    rcases List.mem_append.mp hp with q | q
    · exact List.mem_append_left _ (List.mem_append_left _ q)
    · rcases List.mem_append.mp q with q | q
      · exact hB3 _ q
      · exact List.mem_append_right _ q
end
section
open PySem.W.X (Led)
open PyProof.Rows PySem.Calls PySem.Spec
set_option pp.deepTerms false
theorem ItG.tup (w : World) (I a : Addr) (vs : List Value) : ItG w I (fun h => h.IsTuple a vs.toArray) vs.length (fun i v => vs[i]? = some v) (fun i o => o.cls = .type "tuple_iterator" ∧ o.data = .fields #[.ref a, .int (i : Int) 0]) where
  item := fun A i s o Q E hi hI hP hc hq => by
    refine wpAny_pyNext_tuple_item (t := a) (i := i) (items := vs.toArray) ⟨o, hI, hP.1, hP.2⟩ hc (x := vs[i]) (by simp [hi]) fun h' hit' hs' => ?_
    obtain ⟨o', e1, e2, e3⟩ := hit'
    exact hq _ h' o' _ (by simp [hi]) e1 ⟨e2, e3⟩ fun b o hb e => hs'.extBut b o hb e
  done := fun A s o Q E hh hI hP hc hq => by
    exact wpAny_pyNext_tuple_end hh (t := a) (i := vs.length) (items := vs.toArray) ⟨o, hI, hP.1, hP.2⟩ hc (by simp) fun h' he' => hq h' he'
  self := fun A s o Q E hI hP hc hq => wpAny_pyIter_tupleiter ⟨o, hI, hP.1, hP.2⟩ hq
  own := fun A s o i es k p v Q E hI hP hq => wpAny_notOwn hI hP.1 hP.2 (by decide) hq
section
variable {w : World} {A : Around} {env : Env} {h₀ h : Heap} {g : Array GenState} {d : Drawn} {t : Nat} {os : OsState} {m : Str → Option Value} {news : List (Addr × Obj)} {n : Nat} {E : Value → Shared → Prop} {ns gs : List Str} {vs vs' : List (Option Value)} {pos xp : Pos} {a dx Cl : Addr} {nm x : Str} {v : Value} {o : Obj} {l : List (Str × Value)}
/-- a class's own value read on an instance -/
theorem rClsN {Q : Value → Shared → Prop} (C : Cx w A env h₀ n) (fl : FnL ns gs env.scope) (D : Led h₀ env.locals (vec ns vs) h news) (h2 : At2 ns vs x (.ref a)) (i1 : (a, instObj Cl dx) ∈ news) (i2 : (dx, o) ∈ news) (F : Flds o l) (hn : l.all (fun p => !(p.1 == nm)) = true)
    (hg : plainGet (hd.heap_39 w.params) Cl nm = true) (hh : hasDictIn (hd.heap_39 w.params) Cl = true) (ha : findIn (hd.heap_39 w.params) (.ref Cl) nm = some (some v)) (hs : specialIn (hd.heap_39 w.params) v "__get__" = some none) (hv : handedIn v = true) (hc : copiedNames.contains nm = false)
    (hq : ∀ t', Q v ⟨h, g, d, t', os⟩) : wpAny (model PG w) A (eval (.Attribute (.Name x xp) nm pos) env) Q E ⟨h, g, d, t, os⟩ := by
  refine Attribute_Name_ (rLoc C fl D h2 ?_) (attr_name _ _ _ _ _)
  obtain ⟨es, k, rfl, hm, _⟩ := F.miss (nm := nm) (fun q => by
    obtain ⟨p, hp, e⟩ := List.mem_map.mp q
    have := List.all_eq_true.mp hn p hp
    rw [e] at this; simp at this)
  exact get_cls (s := ⟨h, g, d, t, os⟩) D.fr C.X (InstAt.of_news D.nw i1 i2) hg hh ha hs hv hc hm (hq _)
theorem itTupA {ys : List Value} (D : Led h₀ env.locals m h news) (ht : h.IsTuple a ys.toArray) {Q : Value → Shared → Prop}
    (hq : ∀ I oI h' Ct P, ItG w I Ct ys.length (fun i v => ys[i]? = some v) P → P 0 oI → (∀ h, h.IsTuple a ys.toArray → Ct h) → Led h₀ env.locals m h' ((I, oI) :: news) → Q (.ref I) ⟨h', g, d, t, os⟩) : wpAny (model PG w) A (pyIter (.ref a)) Q E ⟨h, g, d, t, os⟩ := by
  refine wpAny_pyIter_tuple (s := ⟨h, g, d, t, os⟩) ht ?_
  exact hq _ _ _ _ _ (ItG.tup w h.objs.size a ys) ⟨rfl, rfl⟩ (fun h hh => hh) (ledPushed D (.inr trivial) (Heap.get?_push_size _ rfl) fun b o e => Heap.get?_push_of_some _ e)
end
def ForItK (w : World) (A : Around) (env : Env) (h₀ : Heap) (d : Drawn) (os : OsState) (target : Expr) (body : List Stmt) (Q : Flow → Shared → Prop) (it : Value) (s : Shared) : Prop :=
  ∃ (I : Addr) (oI : Obj) (ns : List Str) (vs0 : List (Option Value)) (news : List (Addr × Obj)) (J : Nat → List (Option Value) → List (Addr × Obj) → List (Addr × Obj) → Array GenState → Prop) (h : Heap) (g : Array GenState) (t : Nat) (Ct : Heap → Prop) (N : Nat) (V : Nat → Value → Prop) (P : Nat → Obj → Prop),
    s = ⟨h, g, d, t, os⟩ ∧ it = .ref I ∧ A.handled = none ∧ ItG w I Ct N V P ∧ P 0 oI ∧ Tgt target ∧ Led h₀ env.locals (vec ns vs0) h ((I, oI) :: news) ∧ J 0 vs0 [] news g ∧
    (∀ i vs pre post g h, J i vs pre post g → (∀ p ∈ pre ++ post, h.get? p.1 = some p.2) → (∀ b o, h₀.get? b = some o → h.get? b = some o) → Ct h) ∧
    (∀ i vs pre post oI g h t v, i < N → V i v → J i vs pre post g → Led h₀ env.locals (vec ns vs) h (pre ++ (I, oI) :: post) → P (i + 1) oI →
      wpAny (model PG w) A (assign target env v) (fun _ s₂ => wpAny (model PG w) A (execs body env) (FEnd w h₀ env.locals ns d os I P J Q (i + 1)) (fun _ _ => False) s₂) (fun _ _ => False) ⟨h, g, d, t, os⟩) ∧
    (∀ vs pre post g h t, J N vs pre post g → Led h₀ env.locals (vec ns vs) h (pre ++ post) → Q .next ⟨h, g, d, t, os⟩)
section
variable {w : World} {A : Around} {env : Env} {h₀ h : Heap} {g : Array GenState} {d : Drawn} {t : Nat} {os : OsState} {m : Str → Option Value} {news : List (Addr × Obj)} {n : Nat} {E : Value → Shared → Prop} {s : Shared}
theorem rForItK {target iter : Expr} {body : List Stmt} {pos : Pos} {Q : Flow → Shared → Prop} (hs : ∀ x, foldedSetIterable iter env x = pure x)
    (h : wpAny (model PG w) A (eval iter env) (fun xv s₁ => wpAny (model PG w) A (pyIter xv) (ForItK w A env h₀ d os target body Q) (fun _ _ => False) s₁) (fun _ _ => False) s) :
    wpAny (model PG w) A (exec (.For target iter body [] pos) env) Q (fun _ _ => False) s := by
  refine wpAny_For (wpAny_mono h (fun xv s₁ h₁ => wpAny_mono h₁ (fun it s₂ h₂ => ?_) fun _ _ e => e.elim) fun _ _ e => e) hs
  obtain ⟨I, oI, ns, vs0, news, J, h, g, t, Ct, N, V, P, rfl, rfl, hh, It, hP, ht, D, hJ, hct, turn, fin⟩ := h₂
  refine codeAny_mono (forLoopX (Q := Q) (fun k s' => ∃ i vs pre post oI h' g' t', s' = ⟨h', g', d, t', os⟩ ∧ i ≤ N ∧ k = N - i ∧ Led h₀ env.locals (vec ns vs) h' (pre ++ (I, oI) :: post) ∧ P i oI ∧ J i vs pre post g') ?_ N ⟨0, vs0, [], news, oI, h, g, t, rfl, Nat.zero_le _, rfl, D, hP, hJ⟩) fun r s' hr => ?_
  · rintro k s' ⟨i, vs, pre, post, o1, h', g', t', rfl, hi, rfl, D', P', J'⟩
    have hI : h'.get? I = some o1 := (D'.nw _ (List.mem_append_right _ (.head _))).1
    have hc : Ct h' := hct i vs pre post g' h' J' (fun p hp => (D'.nw p (by
      rcases List.mem_append.mp hp with q | q
      · exact List.mem_append_left _ q
      · exact List.mem_append_right _ (.tail _ q))).1) D'.fr.keep
    by_cases hlt : i < N
    · refine It.item A i ⟨h', g', d, t', os⟩ o1 _ _ hlt hI P' hc fun v h2 o2 tk hV e1 e2 e3 => ?_
      dsimp only
      refine It.ownT ht e1 e2 ?_
      refine wpAny_mono (turn i vs pre post o2 g' h2 tk v hlt hV J' (ledAt D' e3 e1) e2) (fun _ s2 q => wpAny_mono q (fun f s3 q => ?_) fun _ _ e => e.elim) fun _ _ e => e.elim
      cases f with
      | next =>
        obtain ⟨h4, g4, t4, vs4, pre4, post4, o4, rfl, q1, q2, q3⟩ := q
        exact ⟨N - (i + 1), by omega, i + 1, vs4, pre4, post4, o4, h4, g4, t4, rfl, hlt, rfl, q1, q2, q3⟩
      | cont =>
        obtain ⟨h4, g4, t4, vs4, pre4, post4, o4, rfl, q1, q2, q3⟩ := q
        exact ⟨N - (i + 1), by omega, i + 1, vs4, pre4, post4, o4, h4, g4, t4, rfl, hlt, rfl, q1, q2, q3⟩
      | brk => exact q
      | ret v => exact q
    · obtain rfl : i = N := by omega
      refine It.done A ⟨h', g', d, t', os⟩ o1 _ _ hh hI P' hc fun h2 e3 => ?_
      exact fin vs pre post g' h2 t' J' (ledDel D' e3)
  · cases r with
    | ok f => exact hr
    | error e => exact hr.elim
end
theorem strs_len2 : ∀ {vs : List Value} {ys : List Str}, StrsAre vs ys → vs.length = ys.length
  | _, _, .nil => rfl
  | _, _, .cons _ _ h => by simp [strs_len2 h]
theorem strs_snoc2 {t : Tok} {y : Str} : ∀ {vs : List Value} {ys : List Str}, StrsAre vs ys → StrsAre (vs ++ [.str y t]) (ys ++ [y])
  | _, _, .nil => .cons y t .nil
  | _, _, .cons y' t' h => .cons y' t' (strs_snoc2 h)
def availS : List Str := ["branch-and-bound", "brute-force", "standard", "standard-fractions"]
theorem availAt (w : World) : ∃ vs n cl dd sl, (hd.heap_39 w.params).lookup 508 = some ⟨cl, dd, .seq vs n, sl⟩ ∧ cl = .type "list" ∧ StrsAre vs.toList availS := by
  refine ⟨_, _, _, _, _, by k_is, rfl, ?_⟩
  exact .cons _ _ (.cons _ _ (.cons _ _ (.cons _ _ .nil)))
abbrev ruleNs : List Str := ["self", "rule_id", "parameter", "scorefct_id", "error", "optrule", "algorithm"]
abbrev ruleGs : List Str := ["get_marginal_scorefct", "UnknownScoreFunctionError", "UnknownRuleIDError", "Rule", "available_algorithms"]
theorem strs_filter {f : Str → Bool} : ∀ {vs : List Value} {ys : List Str} (i : Nat) (x : Value) (y : Str), StrsAre vs ys → vs[i]? = some x → ys[i]? = some y → ∃ tk, x = .str y tk
  | _, _, i, x, y, .nil, h, _ => by simp at h
  | _, _, 0, x, y, .cons y' t' _, h1, h2 => by simp at h1 h2; subst h1; subst h2; exact ⟨t', rfl⟩
  | _, _, i + 1, x, y, .cons y' t' h, h1, h2 => strs_filter (f := f) i x y h (by simpa using h1) (by simpa using h2)
/-- the end of Rule.__init__: the algorithms at hand -/
theorem ruleLoop {w : World} {A : Around} {env : Env} {h₀ h : Heap} {g : Array GenState} {d : Drawn} {t : Nat} {os : OsState} {news : List (Addr × Obj)} {n : Nat} {Q : Flow → Shared → Prop} {x dx av ta : Addr} {o : Obj} {l : List (Str × Value)} {tvs : List Value} {ss : List Str} {c0 c1 c2 c3 c4 c5 : Option Value} {p1 p2 p3 p4 p5 p6 p7 p8 p9 p10 p11 p12 p13 : Pos}
    (C : Cx w A env h₀ n) (fl : FnL ruleNs ruleGs env.scope) (D : Led h₀ env.locals (vec ruleNs [some (.ref x), c0, c1, c2, c3, c4, c5]) h ((av, lstO [] 0) :: news)) (i1 : (x, instObj 437 dx) ∈ news) (i2 : (dx, o) ∈ news) (F : Flds o l) (hl1 : (("algorithms" : Str), Value.ref ta) ∈ l) (hl2 : (("available_algorithms" : Str), Value.ref av) ∈ l)
    (ht : ∀ h' : Heap, (∀ b o, h₀.get? b = some o → h'.get? b = some o) → (∀ p ∈ news, h'.get? p.1 = some p.2) → h'.IsTuple ta tvs.toArray) (hS : StrsAre tvs ss) (hz : tvs.length < 1000) {pl : Sem Bool}
    (hmc : eval (.Call (.Attribute (.Attribute (.Name "self" p7) "available_algorithms" p8) "append" p9) [.Name "algorithm" p10] [] p11) env = (do
      let ov ← eval (.Attribute (.Name "self" p7) "available_algorithms" p8) env
      standAt p9.atName
      let (f, first) ← holding [ov] (getMethod ov "append" pl)
      callWith p11 f first (backTo p11 (starEach [.Name "algorithm" p10] env)) []))
    (hq : ∀ h' t' c5' ys e, Led h₀ env.locals (vec ruleNs [some (.ref x), c0, c1, c2, c3, c4, c5']) h' ((av, lstO ys e) :: news) → StrsAre ys (ss.filter fun s => availS.any (· == s)) → Q .next ⟨h', g, d, t', os⟩) :
    wpAny (model PG w) A (exec (.For (.Name "algorithm" p1) (.Attribute (.Name "self" p2) "algorithms" p3)
      [.If (.Compare (.Name "algorithm" p4) [.In] [.Name "available_algorithms" p5] p6)
        [.Expr (.Call (.Attribute (.Attribute (.Name "self" p7) "available_algorithms" p8) "append" p9) [.Name "algorithm" p10] [] p11) p12] [] p13] [] pos) env) Q (fun _ _ => False) ⟨h, g, d, t, os⟩ := by
  refine rForItK (h₀ := h₀) (d := d) (os := os) (fun _ => by rfl) ?_
  kcf_all
  have htD : ∀ {m : Str → Option Value} {h' : Heap} {pre : List (Addr × Obj)}, Led h₀ env.locals m h' (pre ++ news) → h'.IsTuple ta tvs.toArray := fun D' => ht _ D'.fr.keep fun p hp => (D'.nw p (List.mem_append_right _ hp)).1
  refine itTupA D (htD (pre := [_]) D) fun I oI h2 Ct P It hP0 hct D2 => ?_
  refine ⟨I, oI, _, _, _, (fun i vs pre post g1 => g1 = g ∧ pre = [] ∧ ∃ c5' ys e, vs = [some (.ref x), c0, c1, c2, c3, c4, c5'] ∧ post = (av, lstO ys e) :: news ∧ StrsAre ys ((ss.take i).filter fun s => availS.any (· == s))), h2, g, _, Ct, _, _, P, rfl, rfl, C.hand, It, hP0, .inl ⟨_, _, rfl⟩, D2, ⟨rfl, rfl, _, [], 0, rfl, rfl, by simpa using StrsAre.nil⟩, ?_, ?_, ?_⟩
  · rintro i vs pre post g1 h3 ⟨rfl, rfl, c5', ys, e, rfl, rfl, hy⟩ hp hk
    refine hct _ (ht _ hk ?_)
    · exact fun p hp' => hp p (.tail _ hp')
  · rintro i vs pre post oI2 g1 h3 t3 v hi hv ⟨rfl, rfl, c5', ys, e, rfl, rfl, hy⟩ D3 hP3
    obtain ⟨sv, hsv⟩ : ∃ sv, ss[i]? = some sv := ⟨_, List.getElem?_eq_getElem (by rw [← strs_len2 hS]; exact hi)⟩
    obtain ⟨tk, rfl⟩ := strs_filter (f := fun _ => true) i v sv hS hv hsv
    rw [List.nil_append] at D3
    refine wpAny_assign_Name (rSto C fl D3 (by kaf_suf) fun h4 t4 D4 => ?_)
    kcf_all
    obtain ⟨avs, an, acl, add, asl, ak, rfl, aS⟩ := availAt w
    have ha508 := (C.X.keeps D4.fr.keep) _ _ ak
    refine in_list_strs (vs := avs.toList) ⟨_, ha508, rfl, _, by simp; rfl⟩ aS ?_
    have hnext : (ss.take (i + 1)).filter (fun s => availS.any (· == s)) = (ss.take i).filter (fun s => availS.any (· == s)) ++ (if availS.any (· == sv) then [sv] else []) := by
      rw [List.take_add_one, hsv, List.filter_append]
      simp only [Option.toList_some, List.filter_cons, List.filter_nil]
    cases hb : (availS.any (· == sv)) with
    | false =>
      rw [hb] at hnext
      simp only [Bool.false_eq_true, if_false, List.append_nil] at hnext
      kcf_all
      exact FEnd.mk [] _ D4 hP3 ⟨rfl, rfl, _, ys, e, rfl, rfl, by rw [hnext]; exact hy⟩
    | true =>
      rw [hb] at hnext
      simp only [if_true] at hnext
      kcf_all
      refine MethodCall_ ?_ hmc
      kcf_all
      refine rApp D4 (.s .z) (by have h1 := strs_len2 hy; have h2 := List.length_filter_le (fun s => availS.any (· == s)) (ss.take i); have h3 := strs_len2 hS; rw [List.length_take] at h2; omega) fun h5 D5 => ?_
      kcf_all
      exact FEnd.mk [] _ D5 hP3 ⟨rfl, rfl, _, ys ++ [.str sv tk], e + 1, rfl, rfl, by rw [hnext]; exact strs_snoc2 hy⟩
  · rintro vs pre post g1 h3 t3 ⟨rfl, rfl, c5', ys, e, rfl, rfl, hy⟩ D3
    rw [List.take_of_length_le (Nat.le_of_eq (strs_len2 hS).symm)] at hy
    exact hq _ _ _ _ _ D3 hy
end
section
open PySem.W.X (Led)
open PyProof.Rows PySem.Calls PySem.Spec
set_option pp.deepTerms false
section
variable {w : World} {A : Around} {env : Env} {h₀ h : Heap} {g : Array GenState} {d : Drawn} {t : Nat} {os : OsState} {news : List (Addr × Obj)} {n : Nat} {E : Value → Shared → Prop} {ns gs : List Str} {vs : List (Option Value)} {x : Str}
theorem execs_one {st : Stmt} {Q : Flow → Shared → Prop} {s : Shared} (h : wpAny (model PG w) A (exec st env) Q E s) : wpAny (model PG w) A (execs [st] env) Q E s :=
  rCons (wpAny_mono h (fun f s' q => by
    cases f with
    | next => exact Seq.nil q
    | cont => exact q
    | brk => exact q
    | ret v => exact q) fun _ _ e => e)
/-- an elif that does not hold: a text against a written one -/
theorem rElif {s sv : Str} {ts : Tok} {k : Nat} {p1 p2 p3 pos : Pos} {body : List Stmt} {st : Stmt} {Q : Flow → Shared → Prop} (C : Cx w A env h₀ n) (fl : FnL ns gs env.scope) (D : Led h₀ env.locals (vec ns vs) h news) (h2 : At2 ns vs x (.str sv ts)) (hn : (sv == s) = false)
    (hq : ∀ t', wpAny (model PG w) A (exec st env) Q E ⟨h, g, d, t', os⟩) :
    wpAny (model PG w) A (exec (.If (.Compare (.Name x p1) [.Eq] [.Constant (.str s) k p2] p3) body [st] pos) env) Q E ⟨h, g, d, t, os⟩ := by
  refine rIf ?_
  refine wpAny_isTrue_Compare1 ?_ (by with_unfolding_all rfl)
  refine rLoc C fl D h2 ?_
  refine rCS ?_
  intro tk t'
  refine PyProof.Rows.eq_str ?_
  refine wpAny_truthy_bool ?_
  exact Br.n hn (execs_one (hq _))
end
end
section
open PySem.W.X (Led)
open PyProof.Rows PySem.Calls PySem.Spec
set_option pp.deepTerms false
/-- a tuple of texts, of the ledger or of the text's own objects -/
def TupS (w : World) (news : List (Addr × Obj)) (ta : Addr) (ss : List Str) : Prop := ∃ tvs, StrsAre tvs ss ∧ ((ta, tupO tvs) ∈ news ∨ (hd.heap_39 w.params).lookup ta = some (tupO tvs))
theorem TupS.at {w : World} {news : List (Addr × Obj)} {ta : Addr} {ss : List Str} (T : TupS w news ta ss) : ∃ tvs, StrsAre tvs ss ∧ ∀ h : Heap, (hd.heap_39 w.params).In h → (∀ p ∈ news, h.get? p.1 = some p.2) → h.IsTuple ta tvs.toArray := by
  obtain ⟨tvs, hS, h | h⟩ := T
  · exact ⟨tvs, hS, fun hp X hn => ⟨_, hn _ h, rfl, _, rfl⟩⟩
  · exact ⟨tvs, hS, fun hp X hn => ⟨_, X _ _ h, rfl, _, rfl⟩⟩
/-- a rule that stands in the ledger -/
def RuleIn (w : World) (news : List (Addr × Obj)) (v : Value) (ss : List Str) : Prop := ∃ x dx o l av ys e ta, v = .ref x ∧ (x, instObj 437 dx) ∈ news ∧ (dx, o) ∈ news ∧ Flds o l ∧ (("available_algorithms" : Str), Value.ref av) ∈ l ∧ (av, lstO ys e) ∈ news ∧ StrsAre ys (ss.filter fun s => availS.any (· == s)) ∧
  (("algorithms" : Str), Value.ref ta) ∈ l ∧ TupS w news ta ss ∧ (("resolute_values" : Str), Value.ref 411) ∈ l ∧ l.all (fun p => !(p.1 == ("fastest_available_algorithm" : Str)) && !(p.1 == ("verify_compute_parameters" : Str))) = true
abbrev thieleAlgs : List Str := ["gurobi", "pulp-highs", "pulp-cbc", "branch-and-bound", "brute-force"]
theorem algs410 (w : World) : ∃ tvs, (hd.heap_39 w.params).lookup 410 = some (tupO tvs) ∧ StrsAre tvs thieleAlgs := by
  refine ⟨_, by k_is, ?_⟩
  exact .cons _ _ (.cons _ _ (.cons _ _ (.cons _ _ (.cons _ _ .nil))))
theorem rulePav (w : World) (ts : Tok) : Spec w (.ref 437) [.str "pav" ts] [] 20 (fun _ => True) (fun news r tl => RuleIn w (tl ++ news) r thieleAlgs) := by
  rintro A env h₀ m news h g d t os Q E C D - hret
  k_dflt (refine' makeF "self" [("rule_id", .str "pav" ts)] ["parameter", "scorefct_id", "error", "optrule", "algorithm"] ["get_marginal_scorefct", "UnknownScoreFunctionError", "UnknownRuleIDError", "Rule", "available_algorithms"] ?C ?D ?m ?i ?f ?o ?c ?b ?fl ?g ?k ?j ?_)
  kd_adr
  intro x dx A' env' gb h₁ t' Q' C' fl D' hQ
  dsimp only [List.map, List.append_nil, List.cons_append, List.nil_append] at fl D'
  kcf_all
  refine rClsN C' fl (by assumption) (by kaf_pre) (by kat_tups) (by kat_tups) (by assumption) (by rfl) (by kernel_rfl!) (by kernel_rfl!) (by k_is) (by kernel_rfl!) (by rfl) (by decide +kernel) fun t2 => ?_
  kcf_all
  refine rClsN C' fl (by assumption) (by kaf_pre) (by kat_tups) (by kat_tups) (by assumption) (by rfl) (by kernel_rfl!) (by kernel_rfl!) (by k_is) (by kernel_rfl!) (by rfl) (by decide +kernel) fun t3 => ?_
  kcf_all
  obtain ⟨tvs, htk, hts⟩ := algs410 w
  rename_i av h8 D8 h9 o9 t9 F9 D9
  refine ruleLoop C' fl D9 (by kat_tups) (by kat_tups) F9 (by kat_tups) (.head _) (fun h' k _ => ⟨_, k _ _ (C'.X _ _ htk), rfl, _, rfl⟩) hts (by rw [strs_len2 hts]; decide) (by with_unfolding_all rfl) fun h10 t10 c5 ys e D10 hys => ?_
  kcf_all
  exact hQ _ _ _ _ _ _ D10 fun D11 => ⟨rfl, hret _ [_, _, _] _ _ D11 ⟨x, dx, o9, _, av, ys, e, 410, rfl, .tail _ (.head _), .tail _ (.tail _ (.head _)), F9, .head _, .head _, hys, by kat_tups, ⟨tvs, hts, .inr htk⟩, by kat_tups, by rfl⟩⟩
end
section
open PySem.W.X (Led)
open PyProof.Rows PySem.Calls PySem.Spec
set_option pp.deepTerms false
abbrev ccAlgs : List Str := ["gurobi", "pulp-highs", "ortools-cp", "branch-and-bound", "brute-force", "pulp-cbc"]
theorem ruleSlav (w : World) (ts : Tok) : Spec w (.ref 437) [.str "slav" ts] [] 20 (fun _ => True) (fun news r tl => RuleIn w (tl ++ news) r thieleAlgs) := by
  rintro A env h₀ m news h g d t os Q E C D - hret
  k_dflt (refine' makeF "self" [("rule_id", .str "slav" ts)] ["parameter", "scorefct_id", "error", "optrule", "algorithm"] ["get_marginal_scorefct", "UnknownScoreFunctionError", "UnknownRuleIDError", "Rule", "available_algorithms"] ?C ?D ?m ?i ?f ?o ?c ?b ?fl ?g ?k ?j ?_)
  kd_adr
  intro x dx A' env' gb h₁ t' Q' C' fl D' hQ
  dsimp only [List.map, List.append_nil, List.cons_append, List.nil_append] at fl D'
  kcf_all
  refine rClsN C' fl (by assumption) (by kaf_pre) (by kat_tups) (by kat_tups) (by assumption) (by rfl) (by kernel_rfl!) (by kernel_rfl!) (by k_is) (by kernel_rfl!) (by rfl) (by decide +kernel) fun t2 => ?_
  kcf_all
  refine rClsN C' fl (by assumption) (by kaf_pre) (by kat_tups) (by kat_tups) (by assumption) (by rfl) (by kernel_rfl!) (by kernel_rfl!) (by k_is) (by kernel_rfl!) (by rfl) (by decide +kernel) fun t3 => ?_
  kcf_all
  obtain ⟨tvs, htk, hts⟩ := algs410 w
  rename_i av h8 D8 h9 o9 t9 F9 D9
  refine ruleLoop C' fl D9 (by kat_tups) (by kat_tups) F9 (by kat_tups) (.head _) (fun h' k _ => ⟨_, k _ _ (C'.X _ _ htk), rfl, _, rfl⟩) hts (by rw [strs_len2 hts]; decide) (by with_unfolding_all rfl) fun h10 t10 c5 ys e D10 hys => ?_
  kcf_all
  exact hQ _ _ _ _ _ _ D10 fun D11 => ⟨rfl, hret _ [_, _, _] _ _ D11 ⟨x, dx, o9, _, av, ys, e, 410, rfl, .tail _ (.head _), .tail _ (.tail _ (.head _)), F9, .head _, .head _, hys, by kat_tups, ⟨tvs, hts, .inr htk⟩, by kat_tups, by rfl⟩⟩
theorem ruleCc (w : World) (ts : Tok) : Spec w (.ref 437) [.str "cc" ts] [] 20 (fun _ => True) (fun news r tl => RuleIn w (tl ++ news) r ccAlgs) := by
  rintro A env h₀ m news h g d t os Q E C D - hret
  k_dflt (refine' makeF "self" [("rule_id", .str "cc" ts)] ["parameter", "scorefct_id", "error", "optrule", "algorithm"] ["get_marginal_scorefct", "UnknownScoreFunctionError", "UnknownRuleIDError", "Rule", "available_algorithms"] ?C ?D ?m ?i ?f ?o ?c ?b ?fl ?g ?k ?j ?_)
  kd_adr
  intro x dx A' env' gb h₁ t' Q' C' fl D' hQ
  dsimp only [List.map, List.append_nil, List.cons_append, List.nil_append] at fl D'
  kcf_all
  refine rClsN C' fl (by assumption) (by kaf_pre) (by kat_tups) (by kat_tups) (by assumption) (by rfl) (by kernel_rfl!) (by kernel_rfl!) (by k_is) (by kernel_rfl!) (by rfl) (by decide +kernel) fun t3 => ?_
  kcf_all
  rename_i av h8 D8 h9 o9 t9 F9 D9
  refine ruleLoop C' fl D9 (by kat_tups) (by kat_tups) F9 (by kat_tups) (.head _) (fun h' _ k => ⟨_, k _ (.head _), rfl, _, rfl⟩) (ss := ccAlgs) (by (repeat' (first | exact StrsAre.nil | refine StrsAre.cons _ _ ?_))) (by simp) (by with_unfolding_all rfl) fun h10 t10 c5 ys e D10 hys => ?_
  kcf_all
  exact hQ _ _ _ _ _ _ D10 fun D11 => ⟨rfl, hret _ [_, _, _, _] _ _ D11 ⟨x, dx, o9, _, av, ys, e, _, rfl, .tail _ (.tail _ (.head _)), .tail _ (.tail _ (.tail _ (.head _))), F9, .head _, .head _, hys, by kat_tups, ⟨_, by (repeat' (first | exact StrsAre.nil | refine StrsAre.cons _ _ ?_)), .inl (.tail _ (.head _))⟩, by kat_tups, by rfl⟩⟩
theorem ruleAv (w : World) (ts : Tok) : Spec w (.ref 437) [.str "av" ts] [] 20 (fun _ => True) (fun news r tl => RuleIn w (tl ++ news) r ["standard"]) := by
  rintro A env h₀ m news h g d t os Q E C D - hret
  k_dflt (refine' makeF "self" [("rule_id", .str "av" ts)] ["parameter", "scorefct_id", "error", "optrule", "algorithm"] ["get_marginal_scorefct", "UnknownScoreFunctionError", "UnknownRuleIDError", "Rule", "available_algorithms"] ?C ?D ?m ?i ?f ?o ?c ?b ?fl ?g ?k ?j ?_)
  kd_adr
  intro x dx A' env' gb h₁ t' Q' C' fl D' hQ
  dsimp only [List.map, List.append_nil, List.cons_append, List.nil_append] at fl D'
  kcf_all
  refine rClsN C' fl (by assumption) (by kaf_pre) (by kat_tups) (by kat_tups) (by assumption) (by rfl) (by kernel_rfl!) (by kernel_rfl!) (by k_is) (by kernel_rfl!) (by rfl) (by decide +kernel) fun t3 => ?_
  kcf_all
  rename_i av h8 D8 h9 o9 t9 F9 D9
  refine ruleLoop C' fl D9 (by kat_tups) (by kat_tups) F9 (by kat_tups) (.head _) (fun h' _ k => ⟨_, k _ (.head _), rfl, _, rfl⟩) (ss := ["standard"]) (by (repeat' (first | exact StrsAre.nil | refine StrsAre.cons _ _ ?_))) (by simp) (by with_unfolding_all rfl) fun h10 t10 c5 ys e D10 hys => ?_
  kcf_all
  exact hQ _ _ _ _ _ _ D10 fun D11 => ⟨rfl, hret _ [_, _, _, _] _ _ D11 ⟨x, dx, o9, _, av, ys, e, _, rfl, .tail _ (.tail _ (.head _)), .tail _ (.tail _ (.tail _ (.head _))), F9, .head _, .head _, hys, by kat_tups, ⟨_, by (repeat' (first | exact StrsAre.nil | refine StrsAre.cons _ _ ?_)), .inl (.tail _ (.head _))⟩, by kat_tups, by rfl⟩⟩
end
section
open PySem.W.X (Led)
open PyProof.Rows PySem.Calls PySem.Spec
set_option pp.deepTerms false
local macro_rules | `(tactic| ke_reads) => `(tactic| repeat' (first | (refine rElif (by assumption) (by assumption) (by assumption) (by kaf_pre) (by decide +kernel) ?_; intro t') | kc_close | (dsimp only; kc_close)))
theorem ruleGeom (w : World) (ts : Tok) : Spec w (.ref 437) [.str "geom2" ts] [] 20 (fun _ => True) (fun news r tl => RuleIn w (tl ++ news) r thieleAlgs) := by
  rintro A env h₀ m news h g d t os Q E C D - hret
  k_dflt (refine' makeF "self" [("rule_id", .str "geom2" ts)] ["parameter", "scorefct_id", "error", "optrule", "algorithm"] ["get_marginal_scorefct", "UnknownScoreFunctionError", "UnknownRuleIDError", "Rule", "available_algorithms"] ?C ?D ?m ?i ?f ?o ?c ?b ?fl ?g ?k ?j ?_)
  kd_adr
  intro x dx A' env' gb h₁ t' Q' C' fl D' hQ
  dsimp only [List.map, List.append_nil, List.cons_append, List.nil_append] at fl D'
  ke_reads
  rename_i a21 h21 D21
  refine in_list_strs (s := ⟨_, _, _, _, _⟩) (ys := ["rule-x", "equal-shares", "equal-shares-with-seqphragmen-completion"]) ⟨_, (D21.nw _ (.head _)).1, rfl, _, rfl⟩ (by (repeat' (first | exact StrsAre.nil | refine StrsAre.cons _ _ ?_))) ?_
  kcf_all
  refine Br.n (by decide +kernel) ?_
  kcf_all
  rename_i a22 h22 D22
  refine in_list_strs (s := ⟨_, _, _, _, _⟩) (ys := ["equal-shares-with-av-completion"]) ⟨_, (D22.nw _ (.head _)).1, rfl, _, rfl⟩ (by (repeat' (first | exact StrsAre.nil | refine StrsAre.cons _ _ ?_))) ?_
  kcf_all
  refine Br.n (by decide +kernel) ?_
  kcf_all
  rename_i a23 h23 D23
  refine in_list_strs (s := ⟨_, _, _, _, _⟩) (ys := ["equal-shares-with-increment-completion"]) ⟨_, (D23.nw _ (.head _)).1, rfl, _, rfl⟩ (by (repeat' (first | exact StrsAre.nil | refine StrsAre.cons _ _ ?_))) ?_
  kcf_all
  refine Br.n (by decide +kernel) ?_
  kcf_all
  rename_i a24 h24 D24
  refine in_list_strs (s := ⟨_, _, _, _, _⟩) (ys := ["rule-x-without-phragmen-phase", "equal-shares-without-completion", "equal-shares-without-completion"]) ⟨_, (D24.nw _ (.head _)).1, rfl, _, rfl⟩ (by (repeat' (first | exact StrsAre.nil | refine StrsAre.cons _ _ ?_))) ?_
  kcf_all
  refine Br.n (by decide +kernel) ?_
  kcf_all
  refine PySem.GM.startswith ?_
  kcf_all
  refine PySem.SC.startswith (s := ⟨_, _, _, _, _⟩) ?_
  kcf_all
  refine Br.y (by decide +kernel) ?_
  kcf_all
  refine JoinedStr_many (joinParts_cons ?_)
  refine FormattedValue_plain ?_
  kcf_all
  refine formatField_str (s := ⟨_, _, _, _, _⟩) (fun tk31 t31 => ⟨by decide +kernel, ?_⟩) (by decide +kernel)
  refine joinParts_cons ?_
  kcf_all
  refine ⟨by decide +kernel, joinParts_nil (s := ⟨_, _, _, _, _⟩) ?_ (by decide +kernel)⟩
  kcf_all
  refine JoinedStr_many (joinParts_cons ?_)
  refine FormattedValue_plain ?_
  kcf_all
  refine formatField_str (s := ⟨_, _, _, _, _⟩) (fun tk32 t32 => ⟨by decide +kernel, ?_⟩) (by decide +kernel)
  refine joinParts_cons ?_
  kcf_all
  refine ⟨by decide +kernel, joinParts_nil (s := ⟨_, _, _, _, _⟩) ?_ (by decide +kernel)⟩
  kcf_all
  refine rClsN C' fl (by assumption) (by kaf_pre) (by kat_tups) (by kat_tups) (by assumption) (by rfl) (by kernel_rfl!) (by kernel_rfl!) (by k_is) (by kernel_rfl!) (by rfl) (by decide +kernel) fun t33 => ?_
  kcf_all
  refine rClsN C' fl (by assumption) (by kaf_pre) (by kat_tups) (by kat_tups) (by assumption) (by rfl) (by kernel_rfl!) (by kernel_rfl!) (by k_is) (by kernel_rfl!) (by rfl) (by decide +kernel) fun t34 => ?_
  kcf_all
  rename_i av h8 D8 h9 o9 t9 F9 D9
  obtain ⟨tvs, htk, hts⟩ := algs410 w
  refine ruleLoop C' fl D9 (by kat_tups) (by kat_tups) F9 (by kat_tups) (.head _) (fun h' k _ => ⟨_, k _ _ (C'.X _ _ htk), rfl, _, rfl⟩) hts (by rw [strs_len2 hts]; decide) (by with_unfolding_all rfl) fun h10 t10 c5 ys e D10 hys => ?_
  kcf_all
  exact hQ _ _ _ _ _ _ D10 fun D11 => ⟨rfl, hret _ [_, _, _, _, _, _, _] _ _ D11 ⟨x, dx, o9, _, av, ys, e, 410, rfl, .tail _ (.tail _ (.tail _ (.tail _ (.tail _ (.head _))))), .tail _ (.tail _ (.tail _ (.tail _ (.tail _ (.tail _ (.head _)))))), F9, .head _, .head _, hys, by kat_tups, ⟨tvs, hts, .inr htk⟩, by kat_tups, by rfl⟩⟩
end
section
open PySem.W.X (Led)
open PyProof.Rows PySem.Calls PySem.Spec
set_option pp.deepTerms false
section
variable {w : World} {A : Around} {env : Env} {h₀ h : Heap} {g g0 : Array GenState} {gk : Nat} {d : Drawn} {t : Nat} {os : OsState} {m : Str → Option Value} {news : List (Addr × Obj)} {n : Nat} {E : Value → Shared → Prop} {L K r a : Addr} {k : Nat} {F : Nat → Value → Prop}
/-- what sorting a list of texts leaves -/
theorem rSortTail {vs : List Value} {ss : List Str} {Q : Value → Shared → Prop} (D : Led h₀ L m h news) (hS : StrsAre vs ss) (h64 : vs.length < 64)
    (hq : ∀ l h' ys e ss', Led h₀ L m h' ((l, lstO ys e) :: news) → StrsAre ys ss' → ss'.Perm ss → sortedS ss' = true → Q (.ref l) ⟨h', g, d, t, os⟩) :
    wpAny (model PG w) A (do let l ← newList vs; let _ ← holding [l] (call (.builtin "list.sort") [l] []); ret l) (fun fin s' => ∃ v, fin = Fin.done (Flow.ret v) ∧ Q v s') E ⟨h, g, d, t, os⟩ := by
  refine wpAny_bind (wpAny_newList ?_ (by rw [sizeLine_eq]; omega))
  have hoL : (h.push (seqObj "list" vs.toArray 0)).get? h.objs.size = some (seqObj "list" vs.toArray 0) := Heap.get?_push_size _ rfl
  refine wpAny_bind (wpAny_holding (wpAny_call_entry slot_list_sort ⟨_, hoL, rfl⟩ entry_list_sort (list_sort_treeK strKind_oneLt hoL hS.keysOf (fun v₁ v₂ rest e => keyKind_strs (by rw [← e]; exact hS)) h64 fun st' hp hs => ⟨_, rfl, wpAny_pure ⟨_, rfl, ?_⟩⟩) (args_list_sort _)))
  obtain ⟨ss', a1, a2, a3⟩ := sorted_out_str hS hp hs
  obtain ⟨e, he⟩ := sortedHeap_at (vs := vs) (out := (arrOf st').map (·.2)) hoL
  have hold : ∀ b o, h.get? b = some o → (sortedHeap (h.push (seqObj "list" vs.toArray 0)) h.objs.size vs ((arrOf st').map (·.2))).get? b = some o := fun b o q => by
    have hlt := Heap.lt_size q
    rw [sortedHeap_old (Nat.ne_of_lt hlt) (by rw [size_push']; exact Nat.lt_succ_of_lt hlt)]
    exact Heap.get?_push_of_some _ q
  refine hq h.objs.size _ ((arrOf st').map (·.2)).toList e ss' ⟨D.fr.kept hold, fun p hp => ?_, ?_⟩ a1 a2 a3
  · rcases List.mem_cons.mp hp with rfl | hp
    · obtain ⟨oL, es, ep, hL, _⟩ := D.fr.ns
      refine ⟨by show _ = some (lstO _ e); rw [he], Nat.ne_of_gt (Heap.lt_size hL), ?_⟩
      cases q : h₀.get? h.objs.size with
      | none => rfl
      | some o => exact absurd (Heap.lt_size (D.fr.keep _ _ q)) (Nat.lt_irrefl _)
    · exact ⟨hold _ _ (D.nw p hp).1, (D.nw p hp).2⟩
  · rw [List.map_cons]
    refine List.Pairwise.cons (fun b hb => ?_) D.ord
    obtain ⟨p, hp, rfl⟩ := List.mem_map.mp hb
    exact Heap.lt_size (D.nw p hp).1
theorem strs_of {acc : List Value} {ss : List Str} (hl : acc.length = ss.length) (h : ∀ (j : Nat) (v : Value), acc[j]? = some v → ∃ (s : Str) (tk : Tok), ss[j]? = some s ∧ v = Value.str s tk) : StrsAre acc ss := by
  induction acc generalizing ss with
  | nil => cases ss with
    | nil => exact .nil
    | cons _ _ => simp at hl
  | cons v acc ih => cases ss with
    | nil => simp at hl
    | cons s ss =>
      obtain ⟨s', tk, h1, rfl⟩ := h 0 v rfl
      simp at h1; subst h1
      exact .cons _ _ (ih (by simpa using hl) fun j v e => h (j + 1) v (by simpa using e))
/-- sorted(a generator of texts) -/
theorem rSortG {Q : Value → Shared → Prop} {ss : List Str} (D : Led h₀ L m h news) (G : GB gk g0 g) (hL : L ≤ K) (hK : ∀ p ∈ news, p.1 ≤ K) (X : GenG gk w A K r ss.length F ⟨h, g, d, t, os⟩) (hF : ∀ (j : Nat) (v : Value), F j v → ∃ (s : Str) (tk : Tok), ss[j]? = some s ∧ v = Value.str s tk) (h64 : ss.length < 64)
    (hq : ∀ l g' h' t' ys e ss', GB gk g0 g' → Led h₀ L m h' ((l, lstO ys e) :: news) → StrsAre ys ss' → ss'.Perm ss → sortedS ss' = true → Q (.ref l) ⟨h', g', d, t', os⟩) : wpAny (model PG w) A (call (.builtin "sorted") [.ref r]) Q E ⟨h, g, d, t, os⟩ := by
  obtain ⟨fp, wr, gi, St, hge, W, hst, hT, hI, hfp, hwr⟩ := X
  refine Calls.call_function_entry kind_sorted plain_sorted entry_sorted (args_sorted1 _) ?_
  unfold Builtin.«sorted»
  refine wpAny_bind (m := checkCount "sorted" 1 1 _) (wpAny_pure ?_)
  have W1 := W.in4_1
  have W2 := W.in4_2
  refine wpAny_bind (wpAny_collect_gen W2 hT hst hfp hI (fun s' acc hm hacc => ?_) (by rw [sizeLine_eq]; omega))
  have G' := G.moved hge hm.gens
  obtain ⟨h', g', d', t', o'⟩ := s'
  obtain rfl : d' = d := hm.drawn
  obtain rfl : o' = os := hm.os
  have D' : Led h₀ L m h' news := ledBelow D hL hK fun b o hb e => hm.heap b o (fun hmem => Nat.lt_irrefl _ (Nat.lt_of_lt_of_le (hwr b hmem) hb)) e
  refine rSortTail D' (strs_of (by simpa using hacc.1) fun j v hv => hF j v (hacc.2 j v (by simpa using hv))) (by have := hacc.1; simp; omega) fun l h2 ys e ss' D2 a1 a2 a3 => ?_
  exact hq l g' h2 t' ys e ss' G' D2 a1 a2 a3
theorem rBiG {env cenv : Env} {x : Str} {v : Value} {pos : Pos} {A A2 : Around} {u : Shared} {Q : Value → Shared → Prop} (C : Cx w A env h₀ n) (hg : cenv.globals = mainGlobals) (hb : cenv.builtins = builtinsNs) (hk : cenv.scope.kind = .function) (hl : cenv.scope.names.lookup x = some .globalImplicit) (k : ∀ b o, h₀.get? b = some o → u.heap.get? b = some o)
    (e : (x, v) ∈ bl) (hx : (x == ("__debug__" : Str)) = false) (hq : Q v u) : wpAny (model PG w) A2 (eval (.Name x pos) cenv) Q E u := by
  obtain ⟨p, loose, mean, mg, mb, T⟩ := C.top
  obtain ⟨a, b, c⟩ := btab w e
  exact Name_function_global hk hl (loadGlobal_builtin (env := cenv) (by rw [hg]; exact T.g.keeps k) (mg_none_of C.X T.g a) (by rw [hb]; exact T.b.keeps k) ((T.builtins x c).trans b) hq) hx
end
/-- a candidate's text -/
def digit (u : Nat) : Str := Str.ofString (toString (u : Int))
def keyOf (l : List Nat) : Str := (("{" : Str) ++ Txt.join ", " (l.map digit)) ++ ("}" : Str)
theorem dig_one : ∀ a < 4, ([digit a].map (·.length)).sum + [digit a].length ≤ 1048576 ∧ (Txt.join ", " [digit a]).length ≤ 100 := by decide +kernel
theorem dig_two : ∀ a < 4, ∀ b < 4, (([digit a, digit b].map (·.length)).sum + [digit a, digit b].length ≤ 1048576 ∧ (Txt.join ", " [digit a, digit b]).length ≤ 100) ∧ (a < b → sortedS [digit b, digit a] = false) := by decide +kernel
theorem dig_len : ∀ {nsl : List Nat}, (∀ u ∈ nsl, u < 4) → nsl.length ≤ 2 → ((nsl.map digit).map (·.length)).sum + (nsl.map digit).length ≤ 1048576 ∧ (Txt.join ", " (nsl.map digit)).length ≤ 100
  | [], _, _ => by decide +kernel
  | [a], h, _ => dig_one a (h a (.head _))
  | [a, b], h, _ => (dig_two a (h a (.head _)) b (h b (.tail _ (.head _)))).1
  | _ :: _ :: _ :: _, _, h => by simp at h
theorem dig_sort : ∀ {nsl : List Nat} {ss' : List Str}, (∀ u ∈ nsl, u < 4) → nsl.length ≤ 2 → nsl.Pairwise (· < ·) → ss'.Perm (nsl.map digit) → sortedS ss' = true → ss' = nsl.map digit
  | [], ss', _, _, _, h, _ => List.perm_nil.mp h
  | [a], ss', _, _, _, h, _ => List.perm_singleton.mp h
  | [a, b], ss', h4, _, hp, h, hs => by
    rcases ksk_perm2 h with rfl | rfl
    · rfl
    · have := (dig_two a (h4 a (.head _)) b (h4 b (.tail _ (.head _)))).2 (List.rel_of_pairwise_cons hp (.head _))
      rw [this] at hs; cases hs
  | _ :: _ :: _ :: _, _, _, h, _, _, _ => by simp at h
theorem strSet (gk : Nat) (g0 : Array GenState) (w : World) (x : Addr) (dd : Option Addr) (x' : S4) (ep : Nat) (nsl : List Nat) (hh : Holds4 x' nsl) (hs : nsl.Pairwise (· < ·)) (hl : nsl.length ≤ 2) :
    TSpecG gk g0 w (call (.ref 93) [.ref x, .none]) 20 (fun dyn => (x, setO w (.ref 75) dd x' ep) ∈ dyn) (fun _ r tl => ∃ tk, r = .str (keyOf nsl) tk) := by
  rintro A env h₀ m dyn T h g d t os Q E C G hT D hm hret
  k_dflt (refine' wpAny_call (enterL (n := 19) [("candset", .ref x), ("cand_names", .none)] [("candset", .ref x)] ["named"] ["sorted"] ?C ?D ?o ?c ?b ?kd ?nd ?lb ?fl ?g ?k ?_))
  (case C => assumption); (case D => assumption); (case o => k_is); (case c => k_is); (case b => (intro hK; first | exact BindsTo.of_eq rfl | exact binds_K hK rfl (by k_is) rfl rfl rfl | fail "ENT: no rule for these arguments"))
  (case kd => rfl); (case nd => decide +kernel); (case lb => rfl); (case fl => kernel_rfl!); (case g => rfl); (case k => rfl)
  intro A' L' env' gb h₁ t' Q' cells C' he hlt Y fl D' hQ
  dsimp only [List.map, List.append_nil, List.cons_append, List.nil_append] at fl D'
  obtain ⟨oc, rfl, hoc⟩ := CellsAre.one (show CellsAre _ [(Str.ofString "cand_names", L' + 1)] cells from Y)
  dsimp only [List.cons_append, List.nil_append] at D'
  kcf_all
  refine rCellLd C'.kind D' (by rw [he]; rfl) (by rw [he]; rfl) (c := L' + 1) (v := .none) (.head _) (hoc.trans rfl) (by decide) ?_
  kcf_all
  refine wpAny_is_plain (by rfl) ?_
  kcf_all
  have hroom : A'.depth < recursionLimit := Nat.lt_of_le_of_lt (Nat.le_add_right _ _) C'.room
  have hmM : (x, setO w (.ref 75) dd x' ep) ∈ ((L' + 1, oc) :: dyn) ++ T.l := List.mem_append_left _ (.tail _ hm)
  obtain ⟨nsl', hi', hnd', hmem'⟩ := ordN w x x' ep
  have Z7 := (SrcO.cs (w := w) (a := x) (o := setO w (.ref 75) dd x' ep) rfl rfl).src (C'.X.keeps D'.fr.keep) (D'.nw _ hmM).1
  have hP : ∀ b o, gb.get? b = some o → b ≠ 88 := fun b o e q => by
    have := (D'.nw (88, T.c) (.tail _ (List.mem_append_right _ (.head _)))).2.2
    rw [← q, e] at this; cases this
  refine rGen (dyn := (L' + 1, oc) :: dyn) (F := fun v r => ∃ (u : Nat) (tk tk' : Tok), v = .int (u : Int) tk ∧ r = .str (digit u) tk') C' fl D' G hT (c := 92) (P := 88) (by rw [he]; rfl) (.inl ⟨rfl, rfl⟩) rfl (cl := []) (by rfl) (by decide) rfl rfl rfl hroom (by kaf_pre) Z7 ?_ ?_
  · rintro code C2 A2 E2 v ⟨hu, gu, du, tu, ou⟩ m₂ hh hdp hun hv hns hmx hk
    obtain ⟨i, hil⟩ := List.getElem?_of_mem hv
    obtain ⟨tk, u, h1, h2, rfl⟩ := hi'.2 i v hil
    refine wpAny_Call_Name_kw (rBiG (v := .type "str") C' C'.glo rfl rfl rfl (fun b o e => hk b o (hP b o e) (D'.fr.keep b o e)) (by kbo_bools) (by decide) (PyProof.Rows.callWith_type1 ?_ (by with_unfolding_all rfl) (by with_unfolding_all rfl)))
    refine args_cons ?_ (by with_unfolding_all rfl)
    refine wpAny_Name (wpAny_loadName_local rfl rfl hns hmx ?_) (by decide)
    refine args_nil ?_
    refine rStrI (by omega) (by omega) fun tk2 t2 => ?_
    exact ⟨⟨u, tk, tk2, rfl, rfl⟩, hu, _, rfl, fun _ _ e => e⟩
  intro r2 T2 g2 h8 t8 K2 G2 hT2 D8 hK2 hL2 X8
  kcf_all
  have hlen : (ordW w x x' ep).length = (nsl'.map digit).length := by rw [List.length_map]; exact hi'.1
  rw [hlen] at X8
  refine rSortG D8 G2 hL2 hK2 X8 (fun j v hv => ?_) (by rw [List.length_map, ← hi'.1, ordW_len]; have := x'.len4; omega) fun l g3 h9 t9 ys e ss' G3 D9 hS hp hsd => ?_
  · obtain ⟨v', hv', u, tk, tk', rfl, rfl⟩ := hv
    obtain ⟨tk3, u', h1, _, h2⟩ := hi'.2 j _ hv'
    cases h2
    exact ⟨digit u, tk', by rw [List.getElem?_map, h1]; rfl, rfl⟩
  kcf_all
  rename_i hX tX DX tkb tb tkc tc
  have hnd : nsl.Nodup := hs.imp fun h => Nat.ne_of_lt h
  have hpn : nsl'.Perm nsl := (List.perm_ext_iff_of_nodup hnd' hnd).mpr fun u => (hmem' u).trans (hh.memI u)
  have h4 : ∀ u ∈ nsl, u < 4 := fun u hu => by
    obtain ⟨i, hil⟩ := List.getElem?_of_mem (hpn.mem_iff.mpr hu)
    have hi1 : i < (ordW w x x' ep).length := by rw [hi'.1]; exact (List.getElem?_eq_some_iff.mp hil).1
    obtain ⟨_, u', e1, e2, _⟩ := hi'.2 i _ (List.getElem?_eq_getElem hi1)
    rw [hil] at e1; cases e1
    exact e2
  obtain rfl := dig_sort h4 hl hs (hp.trans (hpn.map _)) hsd
  obtain ⟨w1, w2⟩ := dig_len h4 hl
  refine PySem.GM.join ?_
  kcf_all
  refine join_listW (s := ⟨_, _, _, _, _⟩) (items := ys.toArray) ⟨_, (DX.nw _ (.head _)).1, rfl, _, rfl⟩ (by simpa using hS) (by decide) w1 fun tk5 t10 => ?_
  kcf_all
  refine PySem.SB.add (s := ⟨_, _, _, _, _⟩) (fun tk6 t11 => ?_) (by rw [sizeLine_eq]; have : ("{" : Str).length = 1 := (by decide); omega)
  kcf_all
  refine PySem.SB.add (s := ⟨_, _, _, _, _⟩) (fun tk8 t13 => ?_) (by rw [sizeLine_eq, PySem.Str.length_append]; have : ("{" : Str).length = 1 := (by decide); have : ("}" : Str).length = 1 := (by decide); omega)
  kcf_all
  exact hQ _ _ _ _ _ _ DX fun D11 => hret _ [_, _] T2 g3 _ _ G3 hT2 D11 ⟨_, rfl⟩
end
section
open PySem.W.X (Led)
open PyProof.Rows PySem.Calls PySem.Spec
set_option pp.deepTerms false
section
variable {w : World} {A : Around} {env : Env} {h₀ h : Heap} {g : Array GenState} {d : Drawn} {t : Nat} {os : OsState} {m : Str → Option Value} {news : List (Addr × Obj)} {n : Nat} {E : Value → Shared → Prop} {a dx f : Addr} {nm : Str} {x' : S4} {ep : Nat}
theorem setInst {L : Addr} (D : Led h₀ L m h news) (i1 : (a, setO w (.ref 75) (some dx) x' ep) ∈ news) (i2 : (dx, emptyDict) ∈ news) : InstAt h a (setO w (.ref 75) (some dx) x' ep) 75 (some (dictOf [] 0)) :=
  ⟨(D.nw _ i1).1, rfl, rfl, (D.nw _ i2).1⟩
theorem rMethS {pl : Sem Bool} {Q : Value × List Value → Shared → Prop} (C : Cx w A env h₀ n) (D : Led h₀ env.locals m h news) (i1 : (a, setO w (.ref 75) (some dx) x' ep) ∈ news) (i2 : (dx, emptyDict) ∈ news) (hga : findIn (hd.heap_39 w.params) (.ref 75) "__getattribute__" = some (some (.builtin "set.__getattribute__"))) (hk : findIn (hd.heap_39 w.params) (.ref 75) "__getattr__" = some none)
    (hf : findIn (hd.heap_39 w.params) (.ref 75) nm = some (some (.ref f))) (ht : typeIn (hd.heap_39 w.params) (.ref f) = some (.type "function")) (hq : Q (.ref f, [.ref a]) ⟨h, g, d, t, os⟩) : wpAny (model PG w) A (getMethod (.ref a) nm pl) Q E ⟨h, g, d, t, os⟩ := by
  have hcan : (Manifest.canonical "set.__getattribute__" != "object.__getattribute__") = false := by decide +kernel
  have X := C.X.keeps D.fr.keep
  have I := setInst D i1 i2
  unfold getMethod specialOf
  refine wpAny_bind (wpAny_bind (I.type.here ((looks_findIn X hga).here ?_)))
  dsimp only
  rw [hcan, if_neg (by decide)]
  refine wpAny_bind (wpAny_bind (I.type.here ((looks_findIn X hk).here ?_)))
  refine wpAny_bind (wpAny_bind (I.type.here ((looks_findIn X hf).here (wpAny_bind ((looks_typeIn X ht).here ?_)))))
  rw [if_neg (by decide +kernel)]
  refine wpAny_bind (wpAny_loadPart I.at_ ?_)
  show wpAny _ _ (_ >>= _) _ _ _
  have hs : (lookIn nm (dictOf [] 0)).map Option.isSome = some false := by rfl
  obtain ⟨r, e1, e2⟩ := Option.map_eq_some_iff.mp hs
  refine wpAny_bind (wpAny_bind (wpAny_loadPart (D.nw _ i2).1 ?_))
  rw [nsLook_of e1]
  refine wpAny_pure ?_
  rw [e2]
  exact wpAny_bind (wpAny_rule (wpAny_pure hq))
end
/-- CandidateSet.str_with_names -/
theorem strNames (gk : Nat) (g0 : Array GenState) (w : World) (x dx : Addr) (x' : S4) (ep : Nat) (nsl : List Nat) (hh : Holds4 x' nsl) (hs : nsl.Pairwise (· < ·)) (hl : nsl.length ≤ 2) :
    TSpecG gk g0 w (call (.ref 72) [.ref x]) 22 (fun dyn => (x, setO w (.ref 75) (some dx) x' ep) ∈ dyn) (fun _ r tl => ∃ tk, r = .str (keyOf nsl) tk) := by
  rintro A env h₀ m dyn T h g d t os Q E C G hT D hm hret
  k_dflt (refine' wpAny_call (enterC (n := 21) [("self", .ref x), ("cand_names", .none)] [] ["str_set_of_candidates"] ?C ?D ?o ?c ?b ?f ?g ?i ?j ?_))
  kcf_m
  intro A' env' gb h₁ t' Q' C' fl D' hQ
  dsimp only [List.map, List.append_nil, List.cons_append, List.nil_append] at fl D'
  kcf_all
  refine (strSet gk g0 w x (some dx) x' ep nsl hh hs hl).use dyn C' (by decide) G hT D' hm ?_
  rintro _ tl T2 g2 h2 t2 G2 hT2 D2 ⟨tk, rfl⟩
  kcf_all
  exact hQ _ _ _ _ _ _ D2 fun D9 => hret _ tl T2 g2 _ _ G2 hT2 D9 ⟨tk, rfl⟩
/-- CandidateSet.__str__ -/
theorem strDunder (gk : Nat) (g0 : Array GenState) (w : World) (x dx : Addr) (x' : S4) (ep : Nat) (nsl : List Nat) (hh : Holds4 x' nsl) (hs : nsl.Pairwise (· < ·)) (hl : nsl.length ≤ 2) :
    TSpecG gk g0 w (call (.ref 64) [.ref x]) 24 (fun dyn => (x, setO w (.ref 75) (some dx) x' ep) ∈ dyn ∧ (dx, emptyDict) ∈ dyn) (fun _ r tl => ∃ tk, r = .str (keyOf nsl) tk) := by
  rintro A env h₀ m dyn T h g d t os Q E C G hT D ⟨hm, hm2⟩ hret
  k_dflt (refine' wpAny_call (enterC (n := 23) [("self", .ref x)] [] [] ?C ?D ?o ?c ?b ?f ?g ?i ?j ?_))
  kcf_m
  intro A' env' gb h₁ t' Q' C' fl D' hQ
  dsimp only [List.map, List.append_nil, List.cons_append, List.nil_append] at fl D'
  kcf_all
  refine rMethS C' D' (List.mem_append_left _ hm) (List.mem_append_left _ hm2) (by kernel_rfl!) (by kernel_rfl!) (by k_is) (by kernel_rfl!) ?_
  kcf_all
  refine (strNames gk g0 w x dx x' ep nsl hh hs hl).use dyn C' (by decide) G hT D' hm ?_
  rintro _ tl T2 g2 h2 t2 G2 hT2 D2 ⟨tk, rfl⟩
  kcf_all
  exact hQ _ _ _ _ _ _ D2 fun D9 => hret _ tl T2 g2 _ _ G2 hT2 D9 ⟨tk, rfl⟩
/-- str(a CandidateSet) -/
theorem strCS (gk : Nat) (g0 : Array GenState) (w : World) (x dx : Addr) (x' : S4) (ep : Nat) (nsl : List Nat) (hh : Holds4 x' nsl) (hs : nsl.Pairwise (· < ·)) (hl : nsl.length ≤ 2) :
    TSpecG gk g0 w (call (.type "str") [.ref x]) 28 (fun dyn => (x, setO w (.ref 75) (some dx) x' ep) ∈ dyn ∧ (dx, emptyDict) ∈ dyn) (fun _ r tl => ∃ tk, r = .str (keyOf nsl) tk) := by
  rintro A env h₀ m dyn T h g d t os Q E C G hT D ⟨hm, hm2⟩ hret
  have C1 := ((C.le (by decide : 27 ≤ 28)).in1.le (by decide : 26 ≤ 26)).in1
  have hf : isFn (hd.heap_39 w.params) (.ref 64) = true := by kernel_rfl!
  have hs' : findIn (hd.heap_39 w.params) (.ref 75) "__str__" = some (some (.ref 64)) := by kernel_rfl!
  refine kso_call (s := ⟨h, g, d, t, os⟩) (by have := C1.units; omega) (C.X.keeps D.fr.keep) (setInst D (List.mem_append_left _ hm) (List.mem_append_left _ hm2)) hs' hf ?_
  refine (strDunder gk g0 w x dx x' ep nsl hh hs hl).use dyn C1 (by decide) G hT D ⟨hm, hm2⟩ ?_
  rintro _ tl T2 g2 h2 t2 G2 hT2 D2 ⟨tk, rfl⟩
  exact hret _ tl T2 g2 _ _ G2 hT2 D2 ⟨tk, rfl⟩
end
section
open PySem.W.X (Led)
open PyProof.Rows PySem.Calls PySem.Spec
set_option pp.deepTerms false
theorem GB.set {gk gi : Nat} {g0 g : Array GenState} {x : GenState} (G : GB gk g0 g) (hg : gk ≤ gi) (hb : x.bare = true) : GB gk g0 (g.setIfInBounds gi x) := by
  refine ⟨fun y hy => ?_, by rw [Array.size_setIfInBounds]; exact G.le, fun i hi => ?_⟩
  · rcases Array.mem_or_eq_of_mem_setIfInBounds hy with h | h
    · exact G.bare y h
    · rw [h]; exact hb
  · rw [Array.getElem?_setIfInBounds_ne (Nat.ne_of_gt (Nat.lt_of_lt_of_le hi hg))]
    exact G.keep i hi
theorem vecPad : ∀ (xs : List Str) (vs : List (Option Value)), ∃ vs', vs'.length = xs.length ∧ vec xs vs = vec xs vs'
  | [], vs => ⟨[], rfl, by funext y; simp [vec]⟩
  | x :: xs, [] => by
    obtain ⟨vs', hl, e⟩ := vecPad xs []
    refine ⟨none :: vs', by simp [hl], ?_⟩
    funext y
    have e0 : vec (x :: xs) [] y = none := rfl
    rw [e0]
    show none = if y = x then none else vec xs vs' y
    rw [← e]
    cases xs <;> simp [vec]
  | x :: xs, v :: vs => by
    obtain ⟨vs', hl, e⟩ := vecPad xs vs
    refine ⟨v :: vs', by simp [hl], ?_⟩
    funext y
    show (if y = x then v else vec xs vs y) = if y = x then v else vec xs vs' y
    rw [e]
theorem putAt : ∀ {xs : List Str} {vs : List (Option Value)} {x : Str} (v : Value), vs.length = xs.length → x ∈ xs → ∃ vs2, Put2 xs vs x v vs2 ∧ At2 xs vs2 x v
  | [], _, _, _, _, h => by cases h
  | y :: xs, [], _, _, h, _ => by simp at h
  | y :: xs, o :: vs, x, v, hl, hm => by
    by_cases e : x = y
    · subst e; exact ⟨_, .z, .z⟩
    · obtain ⟨vs2, a, b⟩ := putAt v (by simpa using hl) ((List.mem_cons.mp hm).resolve_left e)
      exact ⟨_, .s a, .s b⟩
/-- a generator's word: so many items behind it; what it gave; what the list holds so far -/
def GSt (gB : Heap) (C : Addr) (xs : List Str) (S a I : Addr) (og : Obj) (dyn : List (Addr × Obj)) (PI : Nat → Obj → Prop) (J : Nat → List Value → List (Addr × Obj) → Prop) (gi gk : Nat) (g0 : Array GenState) (d : Drawn) (os : OsState) (j : Nat) (acc accS : List Value) (gst : GenState) (s : Shared) : Prop :=
  ∃ h g t, ∃ T : Tabs, ∃ vs pre e oI, s = ⟨h, g, d, t, os⟩ ∧ Led gB C (vec xs vs) h (pre ++ (S, lstO accS e) :: (a, og) :: (I, oI) :: (dyn ++ T.l)) ∧ T.ok ∧ GB gk g0 g ∧ g[gi]? = some gst ∧ PI j oI ∧ J j acc pre
def GFin (gB : Heap) (C : Addr) (xs : List Str) (S a : Addr) (og : Obj) (dyn : List (Addr × Obj)) (J : Nat → List Value → List (Addr × Obj) → Prop) (gk : Nat) (g0 : Array GenState) (d : Drawn) (os : OsState) (N : Nat) (acc : List Value) (s : Shared) : Prop :=
  ∃ h g t, ∃ T : Tabs, ∃ vs pre e, s = ⟨h, g, d, t, os⟩ ∧ Led gB C (vec xs vs) h (pre ++ (S, lstO acc e) :: (a, og) :: (dyn ++ T.l)) ∧ T.ok ∧ GB gk g0 g ∧ J N acc pre
section
variable {w : World} {gB : Heap} {xs gs : List Str} {S a I : Addr} {og : Obj} {dyn : List (Addr × Obj)} {PI : Nat → Obj → Prop} {J : Nat → List Value → List (Addr × Obj) → Prop} {gi gk : Nat} {g0 : Array GenState} {d : Drawn} {os : OsState} {N n : Nat} {V : Nat → Value → Prop} {Ct : Heap → Prop} {A : Around} {cenv : Env} {elt iter : Expr} {x : Str} {px pos : Pos} {scope : Scope}
abbrev GYp (gB : Heap) (C : Addr) (xs : List Str) (S a I : Addr) (og : Obj) (dyn : List (Addr × Obj)) (PI : Nat → Obj → Prop) (J : Nat → List Value → List (Addr × Obj) → Prop) (gi gk : Nat) (g0 : Array GenState) (d : Drawn) (os : OsState) (N : Nat) : Protocol := fun n _ v s kap =>
  ∃ j acc, j + 1 + n = N ∧ GSt gB C xs S a I og dyn PI J gi gk g0 d os (j + 1) (acc ++ [v]) acc .running s ∧ ∀ s'', GSt gB C xs S a I og dyn PI J gi gk g0 d os (j + 1) (acc ++ [v]) (acc ++ [v]) .running s'' → kap (.send .none) s''
abbrev GRp (gB : Heap) (C : Addr) (xs : List Str) (S a : Addr) (og : Obj) (dyn : List (Addr × Obj)) (J : Nat → List Value → List (Addr × Obj) → Prop) (gk : Nat) (g0 : Array GenState) (d : Drawn) (os : OsState) (N : Nat) : GenEnd := fun n _ r s =>
  r = .ok .next ∧ n = 0 ∧ ∃ acc, GFin gB C xs S a og dyn J gk g0 d os N acc s
theorem eA3 (pre : List (Addr × Obj)) (S a : Addr) (o1 og : Obj) (I : Addr) (oI : Obj) (l : List (Addr × Obj)) : pre ++ (S, o1) :: (a, og) :: (I, oI) :: l = (pre ++ [(S, o1), (a, og)]) ++ (I, oI) :: l := by simp
theorem segLoopI (hh : A.handled = none) (It : ItG w I Ct N V PI) (hct : ∀ h : Heap, (∀ p ∈ dyn, h.get? p.1 = some p.2) → Ct h) (fl : FnL xs gs cenv.scope) (hx : x ∈ xs) (hco : cenv.scope.isCoroutine = false)
    (hCx : Cx w (A.over (.compLoop (.GeneratorExp elt [⟨.Name x px, iter, [], 0⟩] scope pos) 0 (.ref I) .none cenv) []) cenv gB n)
    (elts : ∀ A2 j acc v vs pre e oI (T : Tabs) h g t gk' g0', j < N → V j v → At2 xs vs x v → Cx w A2 cenv gB n → J j acc pre → PI (j + 1) oI → T.ok → GB gk' g0' g → Led gB cenv.locals (vec xs vs) h (pre ++ (S, lstO acc e) :: (a, og) :: (I, oI) :: (dyn ++ T.l)) →
      wpAny (model PG w) A2 (eval elt cenv) (fun y s => ∃ h' g' t', ∃ T' : Tabs, ∃ vs' pre', s = ⟨h', g', d, t', os⟩ ∧ Led gB cenv.locals (vec xs vs') h' (pre' ++ (S, lstO acc e) :: (a, og) :: (I, oI) :: (dyn ++ T'.l)) ∧ T'.ok ∧ GB gk' g0' g' ∧ J (j + 1) (acc ++ [y]) pre') (fun _ _ => False) ⟨h, g, d, t, os⟩) (hgi : gk ≤ gi) :
    ∀ (k j : Nat) (acc : List Value) (s₀ s : Shared), N - j = k → j ≤ N → GSt gB cenv.locals xs S a I og dyn PI J gi gk g0 d os j acc acc .running s →
      Seg (model PG w) A (GRp gB cenv.locals xs S a og dyn J gk g0 d os N) (GYp gB cenv.locals xs S a I og dyn PI J gi gk g0 d os N) k s₀
        (.compLoop (.GeneratorExp elt [⟨.Name x px, iter, [], 0⟩] scope pos) 0 (.ref I) .none cenv)
        ((model PG w).den (.compLoop (.GeneratorExp elt [⟨.Name x px, iter, [], 0⟩] scope pos) 0 (.ref I) .none cenv)) [] s := by
  have hh' : (A.over (.compLoop (.GeneratorExp elt [⟨.Name x px, iter, [], 0⟩] scope pos) 0 (.ref I) .none cenv) []).handled = none := hh
  intro k
  induction k with
  | zero =>
    rintro j acc s₀ _ hk hj ⟨h, g, t, T, vs, pre, e, oI, rfl, D, hT, G, hg, hP, hJ⟩
    obtain rfl : j = N := by omega
    show Seg _ A _ _ _ s₀ _ ((compTurn (.GeneratorExp elt [⟨.Name x px, iter, [], 0⟩] scope pos) 0 (.ref I) .none cenv).onRaise (leaving cenv)) [] _
    rw [compTurn_gen, Sem.onRaise_eq_wrap]
    refine seg_bind_wrap (wpAny_standAt ?_)
    have hI := (D.nw (I, oI) (List.mem_append_right _ (.tail _ (.tail _ (.head _))))).1
    refine seg_bind_wrap (It.done _ _ oI _ _ hh' hI hP (hct _ fun p hp => (D.nw p (List.mem_append_right _ (.tail _ (.tail _ (.tail _ (List.mem_append_left _ hp)))))).1) fun h' hk' => ?_)
    refine seg_end (.ok .next) ⟨rfl, rfl, acc, h', g, t, T, vs, pre, e, rfl, ?_, hT, G, hJ⟩
    rw [eA3] at D
    have := ledDel D hk'
    simpa using this
  | succ k ih =>
    rintro j acc s₀ _ hk hj ⟨h, g, t, T, vs, pre, e, oI, rfl, D, hT, G, hg, hP, hJ⟩
    have hlt : j < N := by omega
    show Seg _ A _ _ _ s₀ _ ((compTurn (.GeneratorExp elt [⟨.Name x px, iter, [], 0⟩] scope pos) 0 (.ref I) .none cenv).onRaise (leaving cenv)) [] _
    rw [compTurn_gen, Sem.onRaise_eq_wrap]
    refine seg_bind_wrap (wpAny_standAt ?_)
    have hI := (D.nw (I, oI) (List.mem_append_right _ (.tail _ (.tail _ (.head _))))).1
    refine seg_bind_wrap (It.item _ j _ oI _ _ hlt hI hP (hct _ fun p hp => (D.nw p (List.mem_append_right _ (.tail _ (.tail _ (.tail _ (List.mem_append_left _ hp)))))).1) fun v h₁ o' tk hV hI' hP' hk' => ?_)
    rw [eA3] at D
    have D1 := ledAt D hk' hI'
    rw [← eA3] at D1
    refine seg_bind_wrap (wpAny_of_eq (rfl : letOwnedTupleGo (.Name x px) (.ref I) v = pure ()) ?_)
    obtain ⟨vsP, hpl, ev⟩ := vecPad xs vs
    rw [ev] at D1
    obtain ⟨vs2, hput, hat⟩ := putAt v hpl hx
    refine seg_bind_wrap (wpAny_assign_Name (rSto hCx fl D1 hput fun h2 t2 D2 => ?_))
    refine seg_bind_wrap (wpAny_pure ?_)
    simp only [if_true]
    have hy : ∀ v, yieldOut cenv v = yieldValue v := fun v => by simp only [yieldOut, hco, Bool.false_eq_true, if_false]
    simp only [hy]
    rw [Sem.bind_eq_wrap', Sem.bind_eq_wrap', Sem.wrap_wrap, Sem.wrap_wrap]
    have hsz : gi + 1 ≤ g.size := (Array.getElem?_eq_some_iff.mp hg).1
    refine seg_wrap (wpAny_mono (elts _ j acc v vs2 pre e o' T h2 g t2 (gi + 1) g hlt hV hat hCx hJ hP' hT ⟨G.bare, hsz, fun _ _ => rfl⟩ D2) (fun y s₄ h₄ => ?_) fun _ _ e => e.elim)
    obtain ⟨h4, g4, t4, T4, vs4, pre4, rfl, D4, hT4, G4, J4⟩ := h₄
    have hg4 : g4[gi]? = some .running := (G4.keep gi (Nat.lt_succ_self _)).trans hg
    have G4' : GB gk g0 g4 := ⟨G4.bare, Nat.le_trans hgi (Nat.le_trans (Nat.le_succ _) G4.le), fun i hi => (G4.keep i (by omega)).trans (G.keep i hi)⟩
    refine seg_at (seg_yield rfl rfl rfl ⟨j, acc, by omega, ⟨h4, g4, t4, T4, vs4, pre4, e, o', rfl, D4, hT4, G4', hg4, hP', J4⟩, fun s'' hst => ?_⟩)
    exact seg_again rfl (ih (j + 1) (acc ++ [y]) s'' s'' (by omega) hlt hst)
end
end
section
open PySem.W.X (Led)
open PyProof.Rows PySem.Calls PySem.Spec
set_option pp.deepTerms false
/-- a generator at rest -/
def GSus (w : World) (A : Around) (gB : Heap) (C : Addr) (xs : List Str) (S a I : Addr) (og : Obj) (dyn : List (Addr × Obj)) (PI : Nat → Obj → Prop) (J : Nat → List Value → List (Addr × Obj) → Prop) (gi gk : Nat) (g0 : Array GenState) (d : Drawn) (os : OsState) (N : Nat) (j : Nat) (acc accS : List Value) (s : Shared) : Prop :=
  ∃ gs, gs.bare = true ∧ GSt gB C xs S a I og dyn PI J gi gk g0 d os j acc accS gs s ∧ ∀ s'', GSt gB C xs S a I og dyn PI J gi gk g0 d os j acc acc .running s'' → gs.Goes (model PG w) A.in1 (GRp gB C xs S a og dyn J gk g0 d os N) (GYp gB C xs S a I og dyn PI J gi gk g0 d os N) (N - j) (.send .none) s''
section
variable {w : World} {gB : Heap} {C : Addr} {xs gs : List Str} {S a I : Addr} {og : Obj} {dyn : List (Addr × Obj)} {PI : Nat → Obj → Prop} {J : Nat → List Value → List (Addr × Obj) → Prop} {gi gk : Nat} {g0 : Array GenState} {d : Drawn} {os : OsState} {N n : Nat} {V : Nat → Value → Prop} {Ct : Heap → Prop} {A : Around} {cenv : Env} {elt iter : Expr} {x : Str} {px pos : Pos} {scope : Scope} {E : Value → Shared → Prop}
theorem GSt.running {j : Nat} {acc accS : List Value} {g1 g2 : GenState} {s : Shared} (h : GSt gB C xs S a I og dyn PI J gi gk g0 d os j acc accS g1 s) (hgi : gk ≤ gi) (hb : g2.bare = true) : GSt gB C xs S a I og dyn PI J gi gk g0 d os j acc accS g2 (s.setGen gi g2) := by
  obtain ⟨h, g, t, T, vs, pre, e, oI, rfl, D, hT, G, hg, hP, hJ⟩ := h
  exact ⟨h, g.setIfInBounds gi g2, t, T, vs, pre, e, oI, rfl, D, hT, G.set hgi hb, setGen_self (s := ⟨h, g, d, t, os⟩) hg, hP, hJ⟩
theorem GSt.push {j : Nat} {acc accS : List Value} {v : Value} {g1 : GenState} {s : Shared} (h : GSt gB C xs S a I og dyn PI J gi gk g0 d os j acc accS g1 s) : GSt gB C xs S a I og dyn PI J gi gk g0 d os j acc (accS ++ [v]) g1 { s with heap := s.heap.update S (Obj.mapSeq (·.push v)) } := by
  obtain ⟨h, g, t, T, vs, pre, e, oI, rfl, D, hT, G, hg, hP, hJ⟩ := h
  have ho := (D.nw (S, lstO accS e) (List.mem_append_right _ (.head _))).1
  have h2 := get?_update_seq (c := "list") (xs := accS.toArray) (n := e) ho (·.push v)
  have D2 := ledAt D (h' := h.update S (Obj.mapSeq (·.push v))) (fun b o hb q => (Heap.get?_update_other _ _ (Ne.symm hb)).trans q) h2
  have e1 : seqObj "list" (accS.toArray.push v) (if (accS.toArray.push v).size == accS.toArray.size then e else e + 1) = lstO (accS ++ [v]) (e + 1) := by
    simp [lstO, seqObj]
  rw [e1] at D2
  exact ⟨_, g, t, T, vs, pre, e + 1, oI, rfl, D2, hT, G, hg, hP, hJ⟩
theorem genNext {j : Nat} {acc : List Value} {s : Shared} {Q : Option Value → Shared → Prop} (hh : A.handled = none) (hroom : A.depth < recursionLimit) (hlim : gB.NoLimit) (hog : ∀ h : Heap, h.get? a = some og → h.IsGen a gi) (hgi : gk ≤ gi)
    (hs : GSus w A gB C xs S a I og dyn PI J gi gk g0 d os N j acc acc s) (hj : j ≤ N)
    (hy : j < N → ∀ v acc' s', GSus w A gB C xs S a I og dyn PI J gi gk g0 d os N (j + 1) (acc' ++ [v]) acc' s' → Q (some v) s')
    (hn : j = N → ∀ acc' s', GFin gB C xs S a og dyn J gk g0 d os N acc' s' → Q none s') : wpAny (model PG w) A (pyNext (.ref a)) Q E s := by
  obtain ⟨gs, hb, hst, hgo⟩ := hs
  have hst0 := hst
  obtain ⟨h, g, t, T, vs, pre, e, oI, rfl, D, hT, G, hg, hP, hJ⟩ := hst
  have ha := (D.nw (a, og) (List.mem_append_right _ (.tail _ (.head _)))).1
  refine wpAny_pyNext_genexpQ (P := fun n s₀ s₁ => n = 0 ∧ ∃ acc, GFin gB C xs S a og dyn J gk g0 d os N acc s₁) hh (hlim.keeps D.fr.keep) hroom (hog _ ha) hg (hgo _ (hst0.running hgi rfl)) (fun v s₁ gs' hb' hv => ?_) (fun s₁ hp h' hk => ?_)
  · obtain ⟨j', acc', hjn, hst1, hkap⟩ := hv
    cases q : N - j with
    | zero =>
      exfalso
      rw [q] at hkap
      have : j' + 1 = N := by omega
      subst this
      exact hkap _ hst1.push
    | succ m =>
      rw [q] at hjn hkap
      obtain rfl : j' = j := by omega
      refine hy (by omega) v acc' _ ⟨gs', hb', hst1.running hgi hb', fun s'' hs'' => ?_⟩
      have := hkap s'' hs''
      rw [show N - (j' + 1) = m by omega]
      exact this
  · obtain ⟨hz, acc', h1, g1, t1, T1, vs1, pre1, e1, rfl, D1, hT1, G1, J1⟩ := hp
    refine hn (by omega) acc' _ ⟨h', g1.setIfInBounds gi .finished, t1, T1, vs1, pre1, e1, rfl, led_keeps D1 hk, hT1, G1.set hgi rfl, J1⟩
theorem segStartI (hh : A.handled = none) (It : ItG w I Ct N V PI) (hct : ∀ h : Heap, (∀ p ∈ dyn, h.get? p.1 = some p.2) → Ct h) {s₀ s : Shared}
    (hs : GSt gB cenv.locals xs S a I og dyn PI J gi gk g0 d os 0 [] [] .running s)
    (loop : Seg (model PG w) A (GRp gB cenv.locals xs S a og dyn J gk g0 d os N) (GYp gB cenv.locals xs S a I og dyn PI J gi gk g0 d os N) N s₀
        (.compLoop (.GeneratorExp elt [⟨.Name x px, iter, [], 0⟩] scope pos) 0 (.ref I) .none cenv)
        ((model PG w).den (.compLoop (.GeneratorExp elt [⟨.Name x px, iter, [], 0⟩] scope pos) 0 (.ref I) .none cenv)) [] s) :
    Seg (model PG w) A (GRp gB cenv.locals xs S a og dyn J gk g0 d os N) (GYp gB cenv.locals xs S a I og dyn PI J gi gk g0 d os N) N s₀
      (.compStart (.GeneratorExp elt [⟨.Name x px, iter, [], 0⟩] scope pos) 0 (.ref I) .none cenv)
      ((model PG w).den (.compStart (.GeneratorExp elt [⟨.Name x px, iter, [], 0⟩] scope pos) 0 (.ref I) .none cenv)) [] s := by
  obtain ⟨h, g, t, T, vs, pre, e, oI, rfl, D, hT, G, hg, hP, hJ⟩ := hs
  have hI := (D.nw (I, oI) (List.mem_append_right _ (.tail _ (.tail _ (.head _))))).1
  have hc := hct _ fun p hp => (D.nw p (List.mem_append_right _ (.tail _ (.tail _ (.tail _ (List.mem_append_left _ hp)))))).1
  show Seg _ A _ _ _ s₀ _ ((compStart (.GeneratorExp elt [⟨.Name x px, iter, [], 0⟩] scope pos) 0 (.ref I) .none cenv).onRaise (leaving cenv)) [] _
  unfold compStart
  rw [Sem.onRaise_eq_wrap]
  show Seg _ A _ _ _ s₀ _ ((ask >>= _).wrap _ _ _ _) [] _
  refine seg_bind_wrap (wpAny_askSetting ?_)
  split
  · exact seg_again rfl loop
  · first
      | exact seg_bind_wrap (wpAny_rule (seg_bind_wrap (wpAny_standAt (seg_bind_wrap (It.self _ _ _ _ _ hI hP hc (seg_again rfl loop))))))
      | (refine seg_bind_wrap (wpAny_rule ?_); show Seg _ A _ _ _ s₀ _ ((standAt iter.pos >>= _).wrap _ _ _ _) [] _; exact seg_bind_wrap (wpAny_standAt (seg_bind_wrap (It.self _ _ _ _ _ hI hP hc (seg_again rfl loop)))))
end
end
section
open PySem.W.X (Led)
open PyProof.Rows PySem.Calls PySem.Spec
set_option pp.deepTerms false
section
variable {w : World} {gB : Heap} {C : Addr} {xs gs : List Str} {S a I : Addr} {og : Obj} {dyn : List (Addr × Obj)} {PI : Nat → Obj → Prop} {J : Nat → List Value → List (Addr × Obj) → Prop} {gi gk : Nat} {g0 : Array GenState} {d : Drawn} {os : OsState} {N n : Nat} {V : Nat → Value → Prop} {Ct : Heap → Prop} {A : Around} {cenv : Env} {elt iter : Expr} {x : Str} {px pos : Pos} {scope : Scope} {E : Value → Shared → Prop}
theorem extLoop {R : Result → Shared → Prop} {res : Value} (hh : A.handled = none) (hroom : A.depth < recursionLimit) (hlim : gB.NoLimit) (hog : ∀ h : Heap, h.get? a = some og → h.IsGen a gi) (hgi : gk ≤ gi) (hN : N < 1000) (hJl : ∀ j acc pre, J j acc pre → acc.length = j)
    (hR : ∀ acc s', GFin gB C xs S a og dyn J gk g0 d os N acc s' → R (.ok (.ret res)) s') :
    ∀ (k j : Nat) (acc : List Value) (s : Shared), N - j = k → j ≤ N → GSus w A.in1 gB C xs S a I og dyn PI J gi gk g0 d os N j acc acc s → codeAny (model PG w) A (.builtin "list.extend.loop" ⟨[.ref S, .ref a, res], []⟩) R s := by
  intro k
  induction k with
  | zero =>
    intro j acc s hk hj hs
    obtain rfl : j = N := by omega
    refine codeAny_builtin PySem.F.entry_extend_loop ?_
    rw [Around.under_plainId PySem.F.plain_extend_loop _]
    show wpAny _ A.in1 (pyNext (.ref a) >>= _) _ _ s
    refine wpAny_bind (genNext hh hroom hlim hog hgi hs hj (fun h => absurd h (Nat.lt_irrefl _)) fun _ acc' s' hf => ?_)
    exact wpAny_pure (hR acc' s' hf)
  | succ k ih =>
    intro j acc s hk hj hs
    refine codeAny_builtin PySem.F.entry_extend_loop ?_
    rw [Around.under_plainId PySem.F.plain_extend_loop _]
    show wpAny _ A.in1 (pyNext (.ref a) >>= _) _ _ s
    refine wpAny_bind (genNext hh hroom hlim hog hgi hs hj (fun hlt v acc' s' hs' => ?_) fun e => by omega)
    obtain ⟨gs', hb, hst, hgo⟩ := hs'
    have hst0 := hst.push (v := v)
    obtain ⟨h, g, t, T, vs, pre, e, oI, rfl, D, hT, G, hg, hP, hJ⟩ := hst
    have hal : acc'.length = j := by have := hJl _ _ _ hJ; simpa using this
    have ho := (D.nw (S, lstO acc' e) (List.mem_append_right _ (.head _))).1
    show wpAny _ A.in1 (updateSeq S (·.push v) >>= _) _ _ _
    refine wpAny_bind (wpAny_updateSeq ho rfl (wpAny_pure ⟨plainId_quiet PySem.F.plain_extend_loop _, ih (j + 1) (acc' ++ [v]) _ (by omega) hlt ⟨gs', hb, hst0, hgo⟩⟩) ?_ ?_)
    · rw [List.size_toArray, hal, sizeLine_eq]; omega
    · rw [Array.size_push, List.size_toArray, hal, sizeLine_eq]; omega
/-- list(a fresh generator): what collect gives -/
theorem genCollect {Q : List Value → Shared → Prop} {h : Heap} {g : Array GenState} {t : Nat} {vs : List (Option Value)} {oI : Obj} {T : Tabs} (hh : A.handled = none) (hroom : A.depth < recursionLimit) (hlim : gB.NoLimit) (hog : ∀ h : Heap, h.get? a = some og → h.IsGen a gi) (hgi : gk ≤ gi) (hN : N < 1000) (hJl : ∀ j acc pre, J j acc pre → acc.length = j)
    (It : ItG w I Ct N V PI) (hct : ∀ h : Heap, (∀ p ∈ dyn, h.get? p.1 = some p.2) → Ct h) (fl : FnL xs gs cenv.scope) (hx : x ∈ xs) (hco : cenv.scope.isCoroutine = false)
    (hCx : ∀ c : Code, c.envs = [cenv] → c.weight ≤ 1 → c.cUnits ≤ 3 → Cx w (A.in1.in1.over c []) cenv gB n)
    (elts : ∀ S A2 j acc v vs pre e oI (T : Tabs) h g t gk' g0', j < N → V j v → At2 xs vs x v → Cx w A2 cenv gB n → J j acc pre → PI (j + 1) oI → T.ok → GB gk' g0' g → Led gB cenv.locals (vec xs vs) h (pre ++ (S, lstO acc e) :: (a, og) :: (I, oI) :: (dyn ++ T.l)) →
      wpAny (model PG w) A2 (eval elt cenv) (fun y s => ∃ h' g' t', ∃ T' : Tabs, ∃ vs' pre', s = ⟨h', g', d, t', os⟩ ∧ Led gB cenv.locals (vec xs vs') h' (pre' ++ (S, lstO acc e) :: (a, og) :: (I, oI) :: (dyn ++ T'.l)) ∧ T'.ok ∧ GB gk' g0' g' ∧ J (j + 1) (acc ++ [y]) pre') (fun _ _ => False) ⟨h, g, d, t, os⟩)
    (D : Led gB cenv.locals (vec xs vs) h ((a, og) :: (I, oI) :: (dyn ++ T.l))) (hT : T.ok) (G : GB gk g0 g) (hg : g[gi]? = some (.fresh (.compStart (.GeneratorExp elt [⟨.Name x px, iter, [], 0⟩] scope pos) 0 (.ref I) .none cenv))) (hP : PI 0 oI) (hJ : J 0 [] [])
    (hogc : og.cls = .type "generator")
    (hq : ∀ S acc s', (∀ p ∈ (a, og) :: (I, oI) :: (dyn ++ T.l), p.1 < S) → GFin gB cenv.locals xs S a og dyn J gk g0 d os N acc s' → Q acc s') : wpAny (model PG w) A (collect (.ref a)) Q E ⟨h, g, d, t, os⟩ := by
  unfold collect
  refine wpAny_bind (wpAny_runValue (codeAny_builtin PySem.F.entry_proto_collect ?_))
  rw [Around.under_plainId PySem.F.plain_proto_collect _]
  show wpAny _ A.in1 (newList [] >>= fun l => again (.builtin "list.__iadd__" ⟨[l, .ref a], []⟩)) _ _ _
  refine wpAny_bind (newList_K (s := ⟨h, g, d, t, os⟩) (vs := []) D.fr D.nw (fun S h1 F1 N1 lt => ?_) (by simp))
  have D1 : Led gB cenv.locals (vec xs vs) h1 ((S, lstO [] 0) :: (a, og) :: (I, oI) :: (dyn ++ T.l)) := ledCons D F1 N1 lt
  refine wpAny_pure ⟨plainId_quiet PySem.F.plain_list_iadd _, codeAny_builtin PySem.F.entry_list_iadd ?_⟩
  rw [Around.under_plainId PySem.F.plain_list_iadd _]
  show wpAny _ A.in1 (Builtin.List.listExtendWith (.ref S) (.ref a) (.ref S)) _ _ _
  unfold Builtin.List.listExtendWith
  have hTa : ∀ {h' : Heap} {l : List (Addr × Obj)}, Led gB cenv.locals (vec xs vs) h' l → (a, og) ∈ l → ∀ t, (⟨h', g, d, t, os⟩ : Shared).TypeIs (.ref a) "generator" := fun D' hm _ => ⟨og, (D'.nw _ hm).1, hogc⟩
  have hSa : S ≠ a := Nat.ne_of_gt (lt (a, og) (.head _))
  refine wpAny_bind (wpAny_typeOf (hTa D1 (.tail _ (.head _)) _) ?_)
  have h1 : Builtin.List.listSameRef (.ref S) (.ref a) = false := by simp [Builtin.List.listSameRef, hSa]
  have h2 : (Value.type "generator" == Value.type "list") = false := by decide
  have h3 : (Value.type "generator" == Value.type "tuple") = false := by decide
  simp only [h1, h2, h3, Bool.or_false, Bool.false_eq_true, if_false]
  refine wpAny_bind (wpAny_pyIter_gen (s := ⟨_, g, d, t, os⟩) (hog _ (D1.nw (a, og) (.tail _ (.head _))).1) ?_)
  refine wpAny_bind (wpAny_holding ?_)
  unfold Builtin.List.listLengthHint
  refine wpAny_bind (wpAny_specialOf (hTa D1 (.tail _ (.head _)) _) PySem.F.gen_no_len ?_)
  show wpAny _ A.in1 (specialOf (Value.ref a) (Str.ofString "__length_hint__") >>= _) _ _ _
  refine wpAny_bind (wpAny_specialOf (hTa D1 (.tail _ (.head _)) _) PySem.F.gen_no_hint ?_)
  refine wpAny_pure ?_
  show wpAny _ A.in1 (rule "list.extend.makes-room" >>= fun _ => Builtin.List.listTouch (.ref S) >>= fun _ =>
    again (.builtin "list.extend.loop" ⟨[.ref S, .ref a, .ref S], []⟩)) _ _ _
  refine wpAny_bind (wpAny_rule ?_)
  have hS₁ := (D1.nw (S, lstO [] 0) (.head _)).1
  refine wpAny_bind ?_
  show wpAny _ A.in1 (updateSeq S (·.push .none) >>= fun _ => updateSeq S (·.pop)) _ _ _
  refine wpAny_bind (wpAny_updateSeq hS₁ rfl ?_)
  have hS₂ := get?_update_seq (c := "list") hS₁ (·.push Value.none)
  refine wpAny_updateSeq hS₂ rfl ?_
  have hS₃ := get?_update_seq (c := "list") hS₂ (·.pop)
  have D3 := ledAt (pre := []) D1 (fun b o hb q => (Heap.get?_update_other _ _ (Ne.symm hb)).trans ((Heap.get?_update_other _ _ (Ne.symm hb)).trans q)) hS₃
  have hsus : GSus w A.in1 gB cenv.locals xs S a I og dyn PI J gi gk g0 d os N 0 [] [] ⟨_, g, d, t, os⟩ :=
    ⟨_, rfl, ⟨_, g, t, T, vs, [], _, oI, rfl, D3, hT, G, hg, hP, hJ⟩, fun s'' hs'' => ⟨rfl, segStartI (A := A.in1.in1) hh It hct hs'' (segLoopI (A := A.in1.in1) hh It hct fl hx hco (hCx _ rfl (Nat.le_of_eq rfl) (Nat.le_of_eq rfl)) (elts S) hgi N 0 [] _ _ (Nat.sub_zero _) (Nat.zero_le _) hs'')⟩⟩
  refine wpAny_pure ⟨plainId_quiet PySem.F.plain_extend_loop _, extLoop hh hroom hlim hog hgi hN hJl (fun acc s' hf => ?_) N 0 [] _ (Nat.sub_zero _) (Nat.zero_le _) hsus⟩
  obtain ⟨h4, g4, t4, T4, vs4, pre4, e4, rfl, D4, r⟩ := id hf
  show wpAny _ A (load S >>= _) _ _ _
  refine wpAny_bind (wpAny_load (D4.nw (S, lstO acc e4) (List.mem_append_right _ (.head _))).1 ?_)
  exact wpAny_pure (hq S acc _ lt hf)
end
end
section
open PySem.W.X (Led)
open PyProof.Rows PySem.Calls PySem.Spec
set_option pp.deepTerms false
/-- keys that rise: the sort keeps the order -/
theorem sortId {kv vs : List Value} {ss : List Str} {xs : Array Keyed} (hS : StrsAre kv ss) (hlen : kv.length = vs.length) (hasc : ss.Pairwise (fun a b => a.cps.toList < b.cps.toList)) (hp : xs.Perm (kv.toArray.zip vs.toArray)) (hs : SortedToK strKind xs xs.size) : (xs.map (·.2)).toList = vs := by
  have hl : xs.toList.Perm (kv.zip vs) := by
    have := Array.perm_iff_toList_perm.mp hp
    simpa using this
  have hke : ∀ p ∈ xs.toList, ∃ x t, p.1 = Value.str x t := fun p hm => by
    have := hl.mem_iff.mp hm
    exact hS.all _ (List.of_mem_zip this).1
  have h1 : xs.toList.Pairwise (fun p q => ¬ ((PyProof.Rows.strOf q.1).cps.toList < (PyProof.Rows.strOf p.1).cps.toList)) := by
    rw [List.pairwise_iff_getElem]
    intro i j hi hj hij
    have hi' : i < xs.size := by simpa using hi
    have hj' : j < xs.size := by simpa using hj
    have h1 := hs i j (Nat.le_of_lt hij) hj'
    obtain ⟨x, t, ex⟩ := hke xs[i] (by simp)
    obtain ⟨y, u, ey⟩ := hke xs[j] (by simp)
    rw [KK_str hi' (x := x) (t := t) (q := xs[i].2) (Prod.ext ex rfl), KK_str hj' (x := y) (t := u) (q := xs[j].2) (Prod.ext ey rfl)] at h1
    change decide (y.cps.toList < x.cps.toList) = false at h1
    simp only [Array.getElem_toList]
    rw [show PyProof.Rows.strOf xs[i].1 = x by rw [ex]; rfl, show PyProof.Rows.strOf xs[j].1 = y by rw [ey]; rfl]
    exact of_decide_eq_false h1
  have h2 : (kv.zip vs).Pairwise (fun p q => (PyProof.Rows.strOf p.1).cps.toList < (PyProof.Rows.strOf q.1).cps.toList) := by
    have e : (kv.zip vs).map (fun p => PyProof.Rows.strOf p.1) = ss := by
      have : (kv.zip vs).map (fun p => PyProof.Rows.strOf p.1) = ((kv.zip vs).map Prod.fst).map PyProof.Rows.strOf := by rw [List.map_map]; rfl
      rw [this, List.map_fst_zip (Nat.le_of_eq hlen), hS.strs]
    rw [← e, List.pairwise_map] at hasc
    exact hasc
  have irr : ∀ a b : List Nat, a < b → ¬ b < a := fun a b h q => absurd (List.lt_trans h q) (List.lt_irrefl a)
  have h3 : xs.toList = kv.zip vs := by
    refine List.Perm.eq_of_pairwise (fun a b ha hb r1 r2 => ?_) h1 (h2.imp fun h => irr _ _ h) hl
    have ha' := hl.mem_iff.mp ha
    obtain ⟨i, hi, rfl⟩ := List.getElem_of_mem ha'
    obtain ⟨j, hj, rfl⟩ := List.getElem_of_mem hb
    rw [List.pairwise_iff_getElem] at h2
    rcases Nat.lt_trichotomy i j with hij | hij | hij
    · exact absurd (h2 i j hi hj hij) r2
    · subst hij; rfl
    · exact absurd (h2 j i hj hi hij) r1
  rw [Array.toList_map, h3]
  exact List.map_snd_zip (Nat.le_of_eq hlen.symm)
section
variable {w : World} {A : Around} {h₀ h : Heap} {L : Addr} {m : Str → Option Value} {g g0 : Array GenState} {gk : Nat} {d : Drawn} {t : Nat} {os : OsState} {E : Value → Shared → Prop} {vs kv : List Value} {ss : List Str} {kS l : Addr} {pre mid post : List (Addr × Obj)} {e1 e2 : Nat}
/-- the end of a sort by risen keys -/
theorem kEnd {P : PySem.Fin → Shared → Prop} (D : Led h₀ L m h (pre ++ (kS, lstO kv e2) :: (mid ++ (l, lstO [] e1) :: post))) (hS : StrsAre kv ss) (hlen : kv.length = vs.length) (hasc : ss.Pairwise (fun a b => a.cps.toList < b.cps.toList)) (h64 : vs.length < 64)
    (hq : ∀ h' kv' e2' e, Led h₀ L m h' (pre ++ (kS, lstO kv' e2') :: (mid ++ (l, lstO vs e) :: post)) → P (.done (.ret .none)) ⟨h', g, d, t, os⟩) :
    wpAny (model PG w) A (ksk_end l false vs.toArray e1 (.ref kS) kv.toArray) P E ⟨h, g, d, t, os⟩ := by
  have tail : ∀ st : SortSt, (arrOf st).Perm (kv.toArray.zip vs.toArray) → SortedToK strKind (arrOf st) (arrOf st).size → failedOf st = none → wpAny (model PG w) A (ksk_tail l false e1 (.ref kS) st) P E ⟨h, g, d, t, os⟩ := by
    intro st hp hs hf
    have hout := sortId hS hlen hasc hp hs
    have hos : ((arrOf st).map (·.2)).size = vs.length := by rw [← Array.length_toList, hout]
    have nk := (D.nw (kS, lstO kv e2) (List.mem_append_right _ (.head _))).1
    have D1 := ledAt D (h' := h.update kS (Obj.mapSeq fun _ => (#[] : Array Value))) (fun b o hb q => (Heap.get?_update_other _ _ (Ne.symm hb)).trans q) (get?_update_seq (c := "list") nk fun _ => #[])
    have eA : ∀ o1 o2, pre ++ (kS, o1) :: (mid ++ (l, o2) :: post) = (pre ++ (kS, o1) :: mid) ++ (l, o2) :: post := fun o1 o2 => by simp
    have na := (D1.nw (l, lstO [] e1) (List.mem_append_right _ (.tail _ (List.mem_append_right _ (.head _))))).1
    rw [eA] at D1
    have D2 := ledAt D1 (h' := (h.update kS (Obj.mapSeq fun _ => (#[] : Array Value))).update l (Obj.mapSeq fun _ => (arrOf st).map (·.2))) (fun b o hb q => (Heap.get?_update_other _ _ (Ne.symm hb)).trans q) (get?_update_seq (c := "list") na fun _ => (arrOf st).map (·.2))
    rw [← eA] at D2
    unfold ksk_tail
    try dsimp only
    refine wpAny_bind (listUpdate_at nk rfl ?_ (by rw [List.size_toArray, hlen, sizeLine_eq]; omega) (Nat.zero_le _))
    refine wpAny_bind (wpAny_letGo ?_)
    refine wpAny_bind (seqEpoch_at na rfl ?_)
    simp only [Bool.false_eq_true, if_false]
    refine wpAny_bind (listUpdate_at na rfl ?_ (Nat.zero_le _) (by rw [hos, sizeLine_eq]; omega))
    rw [hf]
    simp only [bne_self_eq_false, Bool.false_eq_true, if_false]
    have e9 : ∀ n, seqObj "list" ((arrOf st).map (·.2)) n = lstO vs n := fun n => by
      have : (arrOf st).map (·.2) = vs.toArray := by rw [← hout]
      rw [this]
    rw [e9] at D2
    refine wpAny_pure (hq _ [] _ _ D2)
  have hsz : kv.toArray.size = vs.length := by rw [List.size_toArray]; exact hlen
  have hzs : (kv.toArray.zip vs.toArray).size = vs.length := by rw [Array.size_zip, hsz, List.size_toArray, Nat.min_self]
  unfold ksk_end
  try dsimp only
  simp only [Bool.false_eq_true, if_false]
  by_cases h2 : vs.toArray.size < 2
  · rw [if_pos h2, if_pos h2]
    refine wpAny_bind (wpAny_pure ?_)
    rw [StateT.run_pure]
    refine wpAny_bind (wpAny_pure ?_)
    try dsimp only
    refine tail (SortSt.mk' general' (kv.toArray.zip vs.toArray) #[] 7 none) (Array.Perm.refl _) ?_ rfl
    intro i j hij hj
    have hj2 : j < (kv.toArray.zip vs.toArray).size := hj
    rw [hzs] at hj2
    rw [List.size_toArray] at h2
    obtain rfl : i = j := by omega
    exact KeyOrd.kle_refl _
  · rw [if_neg h2, if_neg h2]
    rw [List.size_toArray] at h2
    have hkind : keyKind' kv.toArray = pure oneType' := by
      match kv, hlen, hS with
      | [], hl, _ => simp at hl; omega
      | [_], hl, _ => simp at hl; omega
      | v₁ :: v₂ :: rest, _, hS => exact keyKind_strs hS
    rw [hkind]
    refine wpAny_bind (wpAny_pure ?_)
    have hko : PyProof.Rows.KeysOf strKind (kv.toArray.zip vs.toArray) := by
      intro p hp
      rw [ksk_zip] at hp
      obtain ⟨x, t, e⟩ := hS.all _ (List.of_mem_zip (by simpa using hp) : p.1 ∈ kv ∧ p.2 ∈ vs).1
      exact ⟨x.cps.toList, by rw [e]⟩
    refine wpAny_bind (wpAny_mono (wpS_sortRunsK (κ := strKind) strKind_oneLt (a₀ := kv.toArray.zip vs.toArray) (st := SortSt.mk' oneType' (kv.toArray.zip vs.toArray) #[] 7 none)
      (Q := fun _ st' => (arrOf st').Perm (kv.toArray.zip vs.toArray) ∧ failedOf st' = none ∧ SortedToK strKind (arrOf st') (kv.toArray.zip vs.toArray).size)
      hko ⟨Array.Perm.refl _, rfl, rfl, rfl⟩ (by rw [hzs]; omega) (by rw [hzs]; exact h64) fun st' a1 a2 a3 => ⟨a1, a2, a3⟩) ?_ fun _ _ e => e)
    rintro ⟨⟨⟩, st'⟩ s' ⟨rfl, hp, hf, hs⟩
    try dsimp only
    exact tail st' hp (by rw [hp.size_eq]; exact hs) hf
end
end
section
open PySem.W.X (Led)
open PyProof.Rows PySem.Calls PySem.Spec
set_option pp.deepTerms false
/-- a candidate set that stands in the ledger -/
def CsIn (w : World) (news : List (Addr × Obj)) (v : Value) (nsl : List Nat) : Prop := ∃ x dx x' ep, v = .ref x ∧ (x, setO w (.ref 75) (some dx) x' ep) ∈ news ∧ (dx, emptyDict) ∈ news ∧ Holds4 x' nsl
theorem CsIn.mono {w : World} {news news' : List (Addr × Obj)} {v : Value} {nsl : List Nat} (V : CsIn w news v nsl) (h : ∀ p ∈ news, p ∈ news') : CsIn w news' v nsl :=
  let ⟨x, dx, x', ep, a, b, c, e⟩ := V; ⟨x, dx, x', ep, a, h _ b, h _ c, e⟩
theorem strs_snoc {t : Tok} {y : Str} : ∀ {vs : List Value} {ys : List Str}, StrsAre vs ys → StrsAre (vs ++ [.str y t]) (ys ++ [y])
  | _, _, .nil => .cons y t .nil
  | _, _, .cons y' t' h => .cons y' t' (strs_snoc h)
theorem strs_length : ∀ {vs : List Value} {ys : List Str}, StrsAre vs ys → vs.length = ys.length
  | _, _, .nil => rfl
  | _, _, .cons _ _ h => by simp [strs_length h]
section
variable {w : World} {A : Around} {env : Env} {h₀ h : Heap} {m : Str → Option Value} {g g0 : Array GenState} {gk : Nat} {d : Drawn} {t : Nat} {os : OsState} {E : Value → Shared → Prop} {vs : List Value} {coml : List (List Nat)} {kS l : Addr} {dyn own : List (Addr × Obj)} {e1 n : Nat} {tp : Addr} {T : Tabs}
theorem kRest {P : PySem.Fin → Shared → Prop} (C : Cx w A env h₀ n) (hn : 28 ≤ n) (D : Led h₀ env.locals m h (((kS, lstO [] 0) :: (tp, tupO vs) :: (l, lstO [] e1) :: dyn) ++ T.l)) (hT : T.ok) (G : GB gk g0 g) (hlen : vs.length = coml.length) (h64 : vs.length < 64)
    (hcs : ∀ (i : Nat) (v : Value) (c : List Nat), vs[i]? = some v → coml[i]? = some c → CsIn w dyn v c) (hok : ∀ c ∈ coml, c.Pairwise (· < ·) ∧ c.length ≤ 2) (hasc : (coml.map keyOf).Pairwise (fun a b => a.cps.toList < b.cps.toList))
    (hq : ∀ h' g' t' (T' : Tabs) tl e, GB gk g0 g' → T'.ok → Led h₀ env.locals m h' ((tl ++ (l, lstO vs e) :: dyn) ++ T'.l) → P (.done (.ret .none)) ⟨h', g', d, t', os⟩) :
    wpAny (model PG w) A (ksk_rest l (.type "str") false vs.toArray e1 (.ref kS)) P E ⟨h, g, d, t, os⟩ := by
  unfold ksk_rest
  refine wpAny_bind (wpAny_rule ?_)
  first
    | rw [List.forIn_toArray]
    | (rw [← Array.forIn_toList]; simp only [List.toList_toArray])
    | rw [← Array.forIn_toList]
  refine wpAny_bind (ksk_fold (fun i s' => ∃ h' g' t', ∃ T' : Tabs, ∃ own kv e2, s' = ⟨h', g', d, t', os⟩ ∧ GB gk g0 g' ∧ T'.ok ∧ Led h₀ env.locals m h' ((own ++ (kS, lstO kv e2) :: (tp, tupO vs) :: (l, lstO [] e1) :: dyn) ++ T'.l) ∧ StrsAre kv ((coml.map keyOf).take i)) vs 0 _
    ⟨h, g, t, T, [], [], 0, rfl, G, hT, D, by simpa using StrsAre.nil⟩ ?step ?done)
  case step =>
    rintro j x s' hx ⟨h', g', t', T', own, kv, e2, rfl, G', hT', D', hS⟩
    simp only [Nat.zero_add] at hS ⊢
    have hj : j < vs.length := (List.getElem?_eq_some_iff.mp hx).1
    obtain ⟨c, hc⟩ : ∃ c, coml[j]? = some c := ⟨_, List.getElem?_eq_getElem (by omega)⟩
    obtain ⟨hc1, hc2⟩ := hok c (List.mem_of_getElem? hc)
    obtain ⟨xs, dx, x', ep, rfl, i1, i2, hH⟩ := (hcs j x c hx hc).mono (news' := own ++ (kS, lstO kv e2) :: (tp, tupO vs) :: (l, lstO [] e1) :: dyn) fun p hp => List.mem_append_right _ (.tail _ (.tail _ (.tail _ hp)))
    refine wpAny_bind (wpAny_attempt ((strCS gk g0 w xs dx x' ep c hH hc1 hc2).use _ C hn G' hT' D' ⟨i1, i2⟩ ?_))
    rintro _ tl T2 g2 h2 t2 G2 hT2 D2 ⟨tk, rfl⟩
    try dsimp only
    have e4 : tl ++ ((own ++ (kS, lstO kv e2) :: (tp, tupO vs) :: (l, lstO [] e1) :: dyn) ++ T2.l) = (tl ++ own) ++ (kS, lstO kv e2) :: ((tp, tupO vs) :: (l, lstO [] e1) :: dyn ++ T2.l) := by simp
    rw [e4] at D2
    have nk := (D2.nw (kS, lstO kv e2) (List.mem_append_right _ (.head _))).1
    have hkl : kv.length ≤ vs.length := by rw [strs_length hS, List.length_take]; omega
    have D3 := ledAt D2 (h' := h2.update kS (Obj.mapSeq (·.push (.str (keyOf c) tk)))) (fun b o hb q => (Heap.get?_update_other _ _ (Ne.symm hb)).trans q) (get?_update_seq (c := "list") nk (·.push (.str (keyOf c) tk)))
    have e5 : seqObj "list" (kv.toArray.push (.str (keyOf c) tk)) (if (kv.toArray.push (.str (keyOf c) tk)).size == kv.toArray.size then e2 else e2 + 1) = lstO (kv ++ [.str (keyOf c) tk]) (e2 + 1) := by
      simp [lstO, seqObj]
    rw [e5] at D3
    refine wpAny_bind (listUpdate_at nk rfl ?_ (by rw [List.size_toArray, sizeLine_eq]; omega) (by rw [Array.size_push, List.size_toArray, sizeLine_eq]; omega))
    refine wpAny_pure ⟨rfl, _, g2, t2, T2, tl ++ own, kv ++ [.str (keyOf c) tk], e2 + 1, rfl, G2, hT2, ?_, ?_⟩
    · simpa using D3
    · have : (coml.map keyOf).take (j + 1) = (coml.map keyOf).take j ++ [keyOf c] := by
        rw [List.take_add_one, List.getElem?_map, hc]; simp
      rw [this]
      exact strs_snoc hS
  case done =>
    rintro s' ⟨h', g', t', T', own, kv, e2, rfl, G', hT', D', hS⟩
    have hS' : StrsAre kv (coml.map keyOf) := by
      have : (coml.map keyOf).take (0 + vs.length) = coml.map keyOf := List.take_of_length_le (by rw [List.length_map]; omega)
      rwa [this] at hS
    have e4 : (own ++ (kS, lstO kv e2) :: (tp, tupO vs) :: (l, lstO [] e1) :: dyn) ++ T'.l = own ++ (kS, lstO kv e2) :: ([(tp, tupO vs)] ++ (l, lstO [] e1) :: (dyn ++ T'.l)) := by simp
    rw [e4] at D'
    have nk := (D'.nw (kS, lstO kv e2) (List.mem_append_right _ (.head _))).1
    try dsimp only
    refine wpAny_bind (listItems_at nk rfl ?_)
    refine kEnd D' hS' (by rw [strs_length hS', List.length_map]; exact hlen.symm) hasc h64 fun h2 kv' e2' e D2 => ?_
    refine hq h2 g' t' T' (own ++ [(kS, lstO kv' e2'), (tp, tupO vs)]) e G' hT' ?_
    simpa using D2
/-- list.sort(key=str) of a fresh list of candidate sets whose texts rise -/
theorem kSort {Q : Value → Shared → Prop} (C : Cx w A env h₀ n) (hn : 32 ≤ n) (D : Led h₀ env.locals m h (dyn ++ T.l)) (hT : T.ok) (G : GB gk g0 g) (hlen : vs.length = coml.length) (h64 : vs.length < 64)
    (hcs : ∀ (i : Nat) (v : Value) (c : List Nat), vs[i]? = some v → coml[i]? = some c → CsIn w dyn v c) (hok : ∀ c ∈ coml, c.Pairwise (· < ·) ∧ c.length ≤ 2) (hasc : (coml.map keyOf).Pairwise (fun a b => a.cps.toList < b.cps.toList))
    (hq : ∀ l h' g' t' (T' : Tabs) tl e, GB gk g0 g' → T'.ok → Led h₀ env.locals m h' ((tl ++ (l, lstO vs e) :: dyn) ++ T'.l) → Q (.ref l) ⟨h', g', d, t', os⟩) :
    wpAny (model PG w) A (do let l ← newList vs; let _ ← holding [l] (call (.builtin "list.sort") [l] [(Str.ofString "key", .type "str")]); ret l) (fun fin s' => ∃ v, fin = Fin.done (Flow.ret v) ∧ Q v s') E ⟨h, g, d, t, os⟩ := by
  refine wpAny_bind (newList_K (s := ⟨h, g, d, t, os⟩) D.fr D.nw (fun l h1 F1 N1 lt => ?_) (by rw [sizeLine_eq]; omega))
  have D1 : Led h₀ env.locals m h1 ((l, lstO vs 0) :: (dyn ++ T.l)) := ledCons D F1 N1 lt
  have ho := (D1.nw (l, lstO vs 0) (.head _)).1
  refine wpAny_bind (wpAny_holding (wpAny_call_entry_kw slot_list_sort ⟨_, ho, rfl⟩ entry_list_sort ?body (ksk_l1 _ _)))
  case body =>
    have C2 : Cx w A.in1 env h₀ 31 := (C.le hn).in1
    show wpAny _ _ (Builtin.«list.sort» ⟨[.ref l], [(Str.ofString "key", .type "str")]⟩) _ _ _
    rw [show Builtin.«list.sort» ⟨[.ref l], [(Str.ofString "key", .type "str")]⟩ = ksk_tree l (.type "str") false from rfl]
    unfold ksk_tree
    refine wpAny_bind (listItems_at ho rfl ?_)
    have D2 := ledAt (pre := []) D1 (h' := h1.update l (Obj.mapSeq fun _ => (#[] : Array Value))) (fun b o hb q => (Heap.get?_update_other _ _ (Ne.symm hb)).trans q) (get?_update_seq (c := "list") ho fun _ => #[])
    refine wpAny_bind (listUpdate_at ho rfl ?_ (by rw [List.size_toArray, sizeLine_eq]; omega) (Nat.zero_le _))
    rw [List.nil_append] at D2
    have ho2 := (D2.nw _ (.head _)).1
    refine wpAny_bind (seqEpoch_at ho2 rfl ?_)
    refine wpAny_bind (rTup D2 (by rw [sizeLine_eq]; simp; omega) fun tp h3 D3 => ?_)
    refine wpAny_bind (newList_K (s := ⟨h3, g, d, t, os⟩) (vs := []) D3.fr D3.nw (fun kS h4 F4 N4 lt4 => ?_) (by simp))
    have D4 := ledCons D3 F4 N4 lt4
    refine wpAny_holding ?_
    refine kRest (tp := tp) C2 (by decide) (by exact D4) hT G hlen h64 hcs hok hasc fun h5 g5 t5 T5 tl e G5 hT5 D5 => ⟨_, rfl, ?_⟩
    exact wpAny_pure ⟨_, rfl, hq l h5 g5 t5 T5 tl e G5 hT5 D5⟩
end
end
section
open PySem.W.X (Led)
open PyProof.Rows PySem.Calls PySem.Spec
set_option pp.deepTerms false
section
variable {w : World} {A : Around} {env : Env} {h₀ h : Heap} {g : Array GenState} {d : Drawn} {t : Nat} {os : OsState} {m : Str → Option Value} {news : List (Addr × Obj)} {n : Nat} {E : Value → Shared → Prop} {ns gs : List Str} {vs vs' : List (Option Value)} {x : Str} {fp pos : Pos}
theorem rCallBKW {Q : Value → Shared → Prop} {id : String} {e : Expr} {rest : List Expr} {kws : List Keyword} (C : Cx w A env h₀ n) (fl : FnL ns gs env.scope) (D : Led h₀ env.locals m h news) (hx : x ∈ gs) (e1 : (x, .builtin id) ∈ bl)
    (hall : (backToKw pos (keywordEach kws env)).all (·.1.isSome) = true) (hplain : ((backTo pos (starEach (e :: rest) env)).any (·.1) || (backToKw pos (keywordEach kws env)).any (·.1.isNone)) = false) (he : starEach (e :: rest) env = (false, eval e env) :: starEach rest env)
    (hq : wpAny (model PG w) A (spliced (backTo pos (starEach (e :: rest) env))) (fun vs s₁ => wpAny (model PG w) A (evalAll ((backToKw pos (keywordEach kws env)).map (·.2)))
      (fun ks s₂ => wpAny (model PG w) A (call (.builtin id) vs (((backToKw pos (keywordEach kws env)).filterMap (·.1)).zip ks)) Q E s₂) E s₁) E ⟨h, g, d, t, os⟩) :
    wpAny (model PG w) A (eval (.Call (.Name x fp) (e :: rest) kws pos) env) Q E ⟨h, g, d, t, os⟩ :=
  wpAny_Call_Name_kw (rBi C fl D hx e1 (callWith_of (P := fun _ => True) (first := []) hplain (fun _ _ => ⟨.machine, .inr (.inl rfl), Looks.of_pure rfl⟩) (evalArgs_kw2 hall (wpAny_mono hq (fun _ _ q => wpAny_mono q (fun _ _ q => ⟨trivial, q⟩) fun _ _ e => e) fun _ _ e => e) he)))
end
/-- the ledger above a comprehension's, back to its owner -/
theorem ledBack {h₀ h1 h' gB : Heap} {L C : Addr} {m m' : Str → Option Value} {news1 news' : List (Addr × Obj)} (D1 : Led h₀ L m h1 news1) (e : gB = hideAll h1 (news1.map (·.1))) (D' : Led gB C m' h' news') : Led h₀ L m h' news' := by
  subst e
  exact (groundY (R := fun _ s => Led h₀ L m s.heap news') D1.fr D1.nw).2.2 .none ⟨h', #[], ({} : Drawn), 0, ({} : OsState)⟩ ⟨C, m', news', D'.fr, D'.nw, fun F N => ⟨F, N, D'.ord⟩⟩
section
variable {w : World} {A : Around} {env : Env} {h₀ h : Heap} {g g0 : Array GenState} {gk : Nat} {d : Drawn} {t : Nat} {os : OsState} {dyn : List (Addr × Obj)} {n : Nat} {E : Value → Shared → Prop} {ns gs : List Str} {vs0 : List (Option Value)} {T : Tabs} {elt : Expr} {y x : Str} {yp px pos : Pos} {scope : Scope} {c P a : Addr} {cvs : List Value} {ec : Nat} {Q : Value → Shared → Prop}
/-- a generator over a list, whose elements may make objects -/
theorem rGenI (xs gs2 : List Str) (C : Cx w A env h₀ (n + 3)) (fl : FnL ns gs env.scope) (D : Led h₀ env.locals (vec ns vs0) h (dyn ++ T.l)) (G : GB gk g0 g) (hT : T.ok) (hc : env.code = .ref c) (hcp : isTab c P) (ha : (a, lstO cvs ec) ∈ dyn)
    (hco : scope.isCoroutine = false) (hclos : closureFor scope env = pure []) (hcell : ∀ y ∈ scope.names, y.2 ≠ .cell) (h0 : scope.names.lookup (".0" : Str) = some NameKind.local) (hkind : scope.kind = .function) (hfl : fnl xs gs2 scope = true) (h0x : vec xs (some (.ref 0) :: xs.tail.map fun _ => none) (".0" : Str) = some (.ref 0) ∧ xs = (".0" : Str) :: xs.tail)
    (h2 : At2 ns vs0 y (.ref a))
    (hq : ∀ r og I oI (T' : Tabs) g' h' t' (Ct : Heap → Prop) (PI : Nat → Obj → Prop) cenv gB vs1, ItG w I Ct cvs.length (fun i v => cvs[i]? = some v) PI → PI 0 oI → (∀ h : Heap, (∀ p ∈ dyn, h.get? p.1 = some p.2) → Ct h) → T'.ok → GB gk g0 g' → gk ≤ g.size →
      g'[g.size]? = some (.fresh (.compStart (.GeneratorExp elt [⟨.Name x px, .Name y yp, [], 0⟩] scope pos) 0 (.ref I) .none cenv)) → og.cls = .type "generator" → (∀ h : Heap, h.get? r = some og → h.IsGen r g.size) → cenv.scope = scope →
      (∀ m' h'' news'', Led gB cenv.locals m' h'' news'' → Led h₀ env.locals (vec ns vs0) h'' news'') → gB.NoLimit → (∀ A1 : Around, A1.frames = A.frames → A1.handled = none → A1.depth ≤ A.depth → A1.units ≤ A.units + 40 → ∀ c : Code, c.envs = [cenv] → c.weight ≤ 1 → c.cUnits ≤ 3 → Cx w (A1.over c []) cenv gB n) →
      Led gB cenv.locals (vec xs vs1) h' ((r, og) :: (I, oI) :: (dyn ++ T'.l)) → Q (.ref r) ⟨h', g', d, t', os⟩) :
    wpAny (model PG w) A (eval (.GeneratorExp elt [⟨.Name x px, .Name y yp, [], 0⟩] scope pos) env) Q E ⟨h, g, d, t, os⟩ := by
  obtain ⟨p, loose, mean, mg, mb, Tp⟩ := C.top
  obtain ⟨bm, ob, b1, b2, b3, b4, b5, b6⟩ := Tp.bmain
  have hroom : A.depth < recursionLimit := Nat.lt_of_le_of_lt (Nat.le_add_right _ _) C.room
  refine wpAny_GeneratorExp_make hco hclos hcell h0 hkind hroom (rLoc C fl D h2 ?_) (fun x => by rfl)
  refine itListA D (List.mem_append_left _ ha) fun I oI h1 Ct PI It hP0 _ hct D1 => ⟨Tp.nolimit.keeps D1.fr.keep, ?_⟩
  have hPin : (P, T.at P) ∈ dyn ++ T.l := List.mem_append_right _ (Tabs.mem hcp.p)
  obtain ⟨ps, hIC, hTA⟩ := CodeHd.isCode (codeHd_in (C.X.keeps D1.fr.keep) hcp) (D1.nw _ (.tail _ hPin)).1 (Tabs.ok_at hcp.p hT)
  refine genexprT hc hIC hTA fun code h3 tk3 op' hx3 hop' htO => ?_
  have hT' : (T.set P op').ok := Tabs.ok_set hT htO
  have D3 : Led h₀ env.locals (vec ns vs0) h3 (((I, oI) :: dyn) ++ (T.set P op').l) := ledTab (dyn := (I, oI) :: dyn) hcp.p D1 hx3 hop'
  have hbmP : ∀ {b : Addr} {o : Obj}, h₀.get? b = some o → b ≠ P := fun e q => by rw [q, (D.nw _ hPin).2.2] at e; cases e
  refine wpAny_builtinsFor (bm := bm) (m := mg) (o := ob) ?_ b1 b2 (D3.fr.keep _ _ b3) b4 b5 b6 ?_
  · rw [C.glo]; exact Tp.g.keeps D3.fr.keep
  intro h' hns hsb
  dsimp only at hns hsb ⊢
  have st := (groundY (R := fun _ _ => True) D3.fr D3.nw).2.1
  have fl2 := FnL.of hfl
  have hsz : h'.objs.size = h3.objs.size + 1 := by rw [hsb.1, Heap.size_push]
  have keep : ∀ b o, h3.get? b = some o → h'.get? b = some o := fun b o e => hsb.extBut b o (Nat.ne_of_lt (Heap.lt_size e)) (Heap.get?_push_of_some _ e)
  have hlt3 : ∀ p ∈ ((I, oI) :: dyn) ++ (T.set P op').l, p.1 < h3.objs.size := fun p hp => Heap.lt_size (D3.nw p hp).1
  obtain ⟨gB, hgB⟩ : ∃ gB, gB = hideAll h3 ((((I, oI) :: dyn) ++ (T.set P op').l).map (·.1)) := ⟨_, rfl⟩
  rw [← hgB] at st
  have hmv : (fun y : Str => if y = (".0" : Str) then some (Value.ref I) else none) = vec xs (some (.ref I) :: xs.tail.map fun _ => none) := by
    rw [h0x.2]
    funext z
    show _ = if z = (".0" : Str) then some (Value.ref I) else vec xs.tail (xs.tail.map fun _ => none) z
    rw [vecN]
  have D5 : Led gB h3.objs.size (vec xs (some (.ref I) :: xs.tail.map fun _ => none)) h' (((I, oI) :: dyn) ++ (T.set P op').l) := by
    refine ⟨⟨by rw [← hmv]; exact hns, fun b o e => keep b o (of_hideAll _ (hgB ▸ e)), by rw [hgB]; exact Nat.le_of_eq (hideAll_size _ _)⟩, fun p hp => ⟨keep _ _ (D3.nw p hp).1, Nat.ne_of_lt (hlt3 p hp), by rw [hgB]; exact hideAll_none _ (List.mem_map_of_mem hp)⟩, D3.ord⟩
  have D6 := led_push D5 { cls := .type "generator", data := .fields #[.int g.size 0, .str "<genexpr>" (tk3 + 1), .str (env.qual ++ "<genexpr>") (tk3 + 1 + 1)] } rfl
  refine hq h'.objs.size _ I oI (T.set P op') _ _ _ Ct PI (genEnv scope [] h3.objs.size code builtinsNs env) gB _ It hP0 (fun h hh => hct h (hh _ ha)) hT' (G.push rfl) G.le (Array.getElem?_push_size ..) rfl (fun h hg => ⟨_, _, _, hg, rfl, rfl, rfl⟩) rfl (fun m' h'' news'' D' => ledBack D3 hgB D') (Tp.nolimit.keeps st) (fun A1 hf1 hh1 hd1 hu1 c he1 hw1 hcu1 => ?_) D6
  refine ⟨fun l hl => ?_, C.glo, rfl, hkind, C.X.keeps st, ⟨p, loose, mean, mg, mb, Tp.keeps st⟩, hh1, ?_, ?_⟩
  · obtain ⟨l1, hl1, rfl⟩ := pushEnvs_some (show pushEnvs c.envs (pushEnvs [] A1.frames) = some l from hl)
    have hl1' : A.frames = some l1 := by rw [← hf1]; exact hl1
    obtain ⟨base, B⟩ := C.ground D3 l1 hl1'
    rw [he1]
    exact .inl ⟨rfl, A, base, l1, hgB ▸ B, rfl⟩
  · have := C.room
    show A1.depth + frameCount [] + c.weight + n < _
    have : frameCount [] = 0 := rfl
    omega
  · have := C.units
    show A1.units + unitsOf [] + c.cUnits + 40 * n < _
    have : unitsOf [] = 0 := rfl
    omega
end
end
section
open PySem.W.X (Led)
open PyProof.Rows PySem.Calls PySem.Spec
set_option pp.deepTerms false
/-- a committee as it comes: a list or a tuple of small ints -/
def SrcCom (w : World) (news : List (Addr × Obj)) (v : Value) (c : List Nat) : Prop := ∃ a oa vs nsl, v = .ref a ∧ (a, oa) ∈ news ∧ SrcO w a oa vs ∧ IntsN vs nsl ∧ nsl.Nodup ∧ ∀ u, u ∈ nsl ↔ u ∈ c
theorem SrcCom.mono {w : World} {news news' : List (Addr × Obj)} {v : Value} {nsl : List Nat} (V : SrcCom w news v nsl) (h : ∀ p ∈ news, p ∈ news') : SrcCom w news' v nsl :=
  let ⟨a, oa, vs, l, e, b, r⟩ := V; ⟨a, oa, vs, l, e, h _ b, r⟩
/-- sorted_committees -/
theorem sortedComs (gk : Nat) (g0 : Array GenState) (w : World) (cl : Addr) (cvs : List Value) (ec : Nat) (coml : List (List Nat)) (hlen : cvs.length = coml.length) (h64 : cvs.length < 64) (hok : ∀ c ∈ coml, c.Pairwise (· < ·) ∧ c.length ≤ 2) (hasc : (coml.map keyOf).Pairwise (fun a b => a.cps.toList < b.cps.toList)) :
    TSpecG gk g0 w (call (.ref 85) [.ref cl]) 50 (fun dyn => (cl, lstO cvs ec) ∈ dyn ∧ ∀ (i : Nat) (v : Value) (c : List Nat), cvs[i]? = some v → coml[i]? = some c → SrcCom w dyn v c)
      (fun dyn r tl => ∃ l ys e, r = .ref l ∧ (l, lstO ys e) ∈ tl ∧ ys.length = coml.length ∧ ∀ (i : Nat) (v : Value) (c : List Nat), ys[i]? = some v → coml[i]? = some c → CsIn w (tl ++ dyn) v c) := by
  rintro A env h₀ m dyn T h g d t os Q E C G hT D ⟨hm, hsrc⟩ hret
  k_dflt (refine' wpAny_call (enterL (n := 49) [("committees", .ref cl)] [("committees", .ref cl)] [] ["sorted", "str"] ?C ?D ?o ?c ?b ?kd ?nd ?lb ?fl ?g ?k ?_))
  (case C => assumption); (case D => assumption); (case o => k_is); (case c => k_is); (case b => (intro hK; first | exact BindsTo.of_eq rfl | exact binds_K hK rfl (by k_is) rfl rfl rfl | fail "ENT: no rule for these arguments"))
  (case kd => rfl); (case nd => decide +kernel); (case lb => rfl); (case fl => kernel_rfl!); (case g => rfl); (case k => rfl)
  intro A' L' env' gb h₁ t' Q' cells C' he hlt Y fl D' hQ
  dsimp only [List.map, List.append_nil, List.cons_append, List.nil_append] at fl D'
  obtain rfl : cells = [] := by cases Y; rfl
  rw [List.nil_append] at D'
  kcf_all
  refine rCallBKW C' fl D' (by kat_tups) (by kbo_bools) (by with_unfolding_all rfl) (by with_unfolding_all rfl) (by with_unfolding_all rfl) ?_
  kcf_all
  refine rGenI (n := 46) [".0", "committee"] ["CandidateSet"] C' fl D' G hT (c := 84) (P := 80) (by rw [he]; rfl) (.inr (.inl ⟨rfl, rfl⟩)) hm rfl (by rfl) (by decide) rfl rfl (by kernel_rfl!) ⟨by simp [vec], rfl⟩ (by kaf_pre) ?_
  intro r og I oI T2 g2 h2 t2 Ct PI cenv gB vs1 It hP0 hct hT2 G2 hle hg2 hogc hog hsc hback hlim hcx D2
  have D3 := hback _ _ _ D2
  kcf_all
  refine wpAny_evalAll_nil ?_
  show wpAny _ _ (call (.builtin "sorted") [.ref r] [(Str.ofString "key", .type "str")]) _ _ _
  refine call_function_entry_kw kind_sorted plain_sorted entry_sorted (ksk_s1 _ _) ?_
  unfold Builtin.«sorted»
  refine wpAny_bind (m := checkCount "sorted" 1 1 _) (wpAny_pure ?_)
  have C1 : Cx w A'.in1 env' gb 48 := C'.in1
  have hroom : A'.in1.depth < recursionLimit := Nat.lt_of_le_of_lt (Nat.le_add_right _ _) C1.room
  have fl2 : FnL [Str.ofString ".0", Str.ofString "committee"] [Str.ofString "CandidateSet"] cenv.scope := by rw [hsc]; exact FnL.of (by kernel_rfl!)
  refine wpAny_bind (genCollect (A := A'.in1) (n := 46) (N := cvs.length) (J := fun j acc pre => acc.length = j ∧ ∀ (i : Nat) (v : Value) (c : List Nat), acc[i]? = some v → coml[i]? = some c → CsIn w pre v c) (dyn := dyn) C1.hand hroom hlim hog hle (by omega) (fun j acc pre q => q.1) It hct fl2 (by simp) (by rw [hsc]) (fun c q1 q2 q3 => hcx A'.in1.in1.in1 rfl C'.hand (Nat.le_refl _) (by show A'.units + 1 + 1 + 1 ≤ _; omega) c q1 q2 q3) ?_ D2 hT2 G2 hg2 hP0 ⟨rfl, fun i v c e _ => by simp at e⟩ hogc ?_)
  · intro S A2 j acc v vs pre e oI T3 h3 g3 t3 gk' g0' hj hv hat Cx2 hJ hP3 hT3 G3 D4
    obtain ⟨c, hc⟩ : ∃ c, coml[j]? = some c := ⟨_, List.getElem?_eq_getElem (by omega)⟩
    obtain ⟨ca, coa, cvs2, nsl, rfl, i1, SO, hi, hnd, hme⟩ := hsrc j v c hv hc
    kcf_all
    refine rLoc Cx2 fl2 D4 hat ?_
    kcf_all
    have e4 : pre ++ (S, lstO acc e) :: (r, og) :: (I, oI) :: (dyn ++ T3.l) = (pre ++ (S, lstO acc e) :: (r, og) :: (I, oI) :: dyn) ++ T3.l := by simp
    rw [e4] at D4
    refine (csSpec w ca coa cvs2 nsl).use _ Cx2 (by decide) G3 hT3 D4 ⟨List.mem_append_right _ (.tail _ (.tail _ (.tail _ i1))), SO, hi, hnd⟩ ?_
    rintro _ _ T4 g4 h4 t4 G4 hT4 D5 ⟨x, dx, x', ep, rfl, rfl, hH⟩
    refine ⟨h4, g4, t4, T4, vs, [(x, setO w (.ref 75) (some dx) x' ep), (dx, emptyDict)] ++ pre, rfl, by simpa using D5, hT4, G4, by simp [hJ.1], ?_⟩
    intro i v c' hiv hic
    rw [List.getElem?_append] at hiv
    split at hiv
    · exact (hJ.2 i v c' hiv hic).mono fun p hp => List.mem_append_right _ hp
    · rename_i hge
      have hj1 := hJ.1
      obtain rfl : i = j := by
        have := (List.getElem?_eq_some_iff.mp hiv).1
        simp at this; omega
      rw [hj1, Nat.sub_self] at hiv
      simp at hiv
      subst hiv
      rw [hc] at hic
      cases hic
      exact ⟨x, dx, x', ep, rfl, .head _, .tail _ (.head _), hH.congr hme⟩
  · rintro S acc s' hS ⟨h4, g4, t4, T4, vs4, pre4, e4, rfl, D4, hT4, G4, J4⟩
    have D5 := hback _ _ _ D4
    have e5 : pre4 ++ (S, lstO acc e4) :: (r, og) :: (dyn ++ T4.l) = (pre4 ++ (S, lstO acc e4) :: (r, og) :: dyn) ++ T4.l := by simp
    rw [e5] at D5
    refine kSort (A := A'.in1) (coml := coml) C1 (by decide) D5 hT4 G4 (J4.1.trans hlen) (by rw [J4.1]; exact h64) (fun i v c a b => (J4.2 i v c a b).mono fun p hp => List.mem_append_left _ hp) hok hasc fun l h5 g5 t5 T5 tl e G5 hT5 D6 => ?_
    kcf_all
    refine hQ _ _ _ _ _ _ D6 fun D9 => ?_
    have e6 : (tl ++ (l, lstO acc e) :: (pre4 ++ (S, lstO acc e4) :: (r, og) :: dyn)) ++ T5.l = (tl ++ (l, lstO acc e) :: (pre4 ++ [(S, lstO acc e4), (r, og)])) ++ (dyn ++ T5.l) := by simp
    rw [e6] at D9
    refine hret _ _ T5 g5 _ _ G5 hT5 D9 ⟨l, acc, e, rfl, List.mem_append_right _ (.head _), J4.1.trans hlen, fun i v c a b => (J4.2 i v c a b).mono fun p hp => ?_⟩
    exact List.mem_append_left _ (List.mem_append_right _ (.tail _ (List.mem_append_left _ hp)))
end
section
open PySem.W.X (Led)
open PyProof.Rows PySem.Calls PySem.Spec
set_option pp.deepTerms false
/-- a turn's end, over combinations -/
def FEndC (h₀ : Heap) (L : Addr) (ns : List Str) (d : Drawn) (os : OsState) (IB : Nat → List (Addr × Obj) → Prop) (J : Nat → List (Option Value) → List (Addr × Obj) → List (Addr × Obj) → Array GenState → Prop) (Q : Flow → Shared → Prop) (i : Nat) (f : Flow) (s : Shared) : Prop :=
  match f with
  | .next | .cont => ∃ h' g' t' vs' pre cb post, s = ⟨h', g', d, t', os⟩ ∧ Led h₀ L (vec ns vs') h' (pre ++ (cb ++ post)) ∧ IB i cb ∧ J i vs' pre post g'
  | .brk => Q .next s
  | .ret v => Q (.ret v) s
theorem FEndC.mk {h₀ h : Heap} {L : Addr} {ns : List Str} {g : Array GenState} {d : Drawn} {t : Nat} {os : OsState} {IB : Nat → List (Addr × Obj) → Prop} {J : Nat → List (Option Value) → List (Addr × Obj) → List (Addr × Obj) → Array GenState → Prop} {Q : Flow → Shared → Prop} {i : Nat} {vs : List (Option Value)} (pre cb post : List (Addr × Obj))
    (D : Led h₀ L (vec ns vs) h (pre ++ (cb ++ post))) (hI : IB i cb) (hJ : J i vs pre post g) : FEndC h₀ L ns d os IB J Q i .next ⟨h, g, d, t, os⟩ := ⟨h, g, t, vs, pre, cb, post, rfl, D, hI, hJ⟩
/-- a loop over combinations: its word, its turn, its end (which turns the ground) -/
def ForComb (w : World) (A : Around) (env : Env) (h₀ : Heap) (fs : List Addr) (d : Drawn) (os : OsState) (target : Expr) (body : List Stmt) (Q : Flow → Shared → Prop) (xv : Value) (s : Shared) : Prop :=
  ∃ (a rg p c dx : Addr) (ob : Obj) (ps iv : List Value) (e r : Nat) (tr : Tok) (ns : List Str) (vs0 : List (Option Value)) (news : List (Addr × Obj)) (J : Nat → List (Option Value) → List (Addr × Obj) → List (Addr × Obj) → Array GenState → Prop) (h : Heap) (g : Array GenState) (t : Nat),
    s = ⟨h, g, d, t, os⟩ ∧ xv = .ref c ∧ ps.length ≤ 4 ∧ r ≤ 2 ∧ r ≤ ps.length ∧ IntsN iv (List.range r) ∧ Led h₀ env.locals (vec ns vs0) h (CBl a rg p c dx ob ps iv e true false (r : Int) tr ++ news) ∧ J 0 vs0 [] news g ∧
    (∀ i is vs pre cb post g h t q l o, (coms ps.length r)[i]? = some is → J i vs pre post g → CombI a rg p c dx ob ps e r tr (i + 1) cb → Led h₀ env.locals (vec ns vs) h ((q, tupO (pickV ps is)) :: (l, o) :: (pre ++ (cb ++ post))) →
      wpAny (model PG w) A (assign target env (.ref q)) (fun _ s₂ => wpAny (model PG w) A (execs body env) (FEndC h₀ env.locals ns d os (CombI a rg p c dx ob ps e r tr) J Q (i + 1)) (fun _ _ => False) s₂) (fun _ _ => False) ⟨h, g, d, t, os⟩) ∧
    (∀ vs pre cb post g h t h₂, J (coms ps.length r).length vs pre post g → KtsTurn fs h₀ h₂ → Led h₂ env.locals (vec ns vs) h (pre ++ (cb ++ post)) → Q .next ⟨h, g, d, t, os⟩)
theorem coms_zero {n r : Nat} (hn : n ≤ 4) (hr : r ≤ 2) (hrn : r ≤ n) : (coms n r)[0]? = some (List.range r) := (coms_chain n (by omega) r (by omega) hrn).1
section
variable {w : World} {A : Around} {env : Env} {base h₀ : Heap} {fs : List Addr} {d : Drawn} {os : OsState} {n : Nat} {s : Shared}
theorem rForComb {x : Str} {px pos : Pos} {iter : Expr} {body : List Stmt} {Q : Flow → Shared → Prop} (C : Cx w A env h₀ n) (hn : 21 ≤ n) (Kk : Kn w A env base h₀ fs) (hs : ∀ x, foldedSetIterable iter env x = pure x)
    (h : wpAny (model PG w) A (eval iter env) (ForComb w A env h₀ fs d os (.Name x px) body Q) (fun _ _ => False) s) :
    wpAny (model PG w) A (exec (.For (.Name x px) iter body [] pos) env) Q (fun _ _ => False) s := by
  refine wpAny_For (wpAny_mono h (fun xv s₁ h₁ => ?_) fun _ _ e => e) hs
  obtain ⟨a, rg, p, c, dx, ob, ps, iv, e, r, tr, ns, vs0, news, J, h, g, t, rfl, rfl, hp, hr, hrp, hi, D, hJ, turn, fin⟩ := h₁
  refine combIter (n := 0) (C.le (by omega)) D (List.mem_append_left _ (.tail _ (.tail _ (.tail _ (.head _))))) (List.mem_append_left _ (.tail _ (.tail _ (.tail _ (.tail _ (.head _)))))) fun h' t' D' => ?_
  refine codeAny_mono (forLoopX (Q := Q) (fun k s' => ∃ i vs pre cb post h' g' t', s' = ⟨h', g', d, t', os⟩ ∧ i ≤ (coms ps.length r).length ∧ k = (coms ps.length r).length - i ∧ Led h₀ env.locals (vec ns vs) h' (pre ++ (cb ++ post)) ∧ CombI a rg p c dx ob ps e r tr i cb ∧ J i vs pre post g') ?_ (coms ps.length r).length ⟨0, vs0, [], _, news, h', g, t', rfl, Nat.zero_le _, rfl, D', ⟨iv, List.range r, rfl, hi, coms_zero hp hr hrp⟩, hJ⟩) fun r s' hr => ?_
  · rintro k s' ⟨i, vs, pre, cb, post, h', g', t', rfl, hi, rfl, D', hc, J'⟩
    refine combNext C (by omega) Kk hc D' hp hr hrp ?_ ?_
    · intro is hat cb' q l o h2 t2 hc' D2
      have hlt := (List.getElem?_eq_some_iff.mp hat).1
      refine wpAny_pure ?_
      refine wpAny_mono (turn i is vs pre cb' post g' h2 t2 q l o hat J' hc' D2) (fun _ s2 q => wpAny_mono q (fun f s3 q => ?_) fun _ _ e => e.elim) fun _ _ e => e.elim
      cases f with
      | next =>
        obtain ⟨h4, g4, t4, vs4, pre4, cb4, post4, rfl, q1, q2, q3⟩ := q
        exact ⟨(coms ps.length r).length - (i + 1), by omega, i + 1, vs4, pre4, cb4, post4, h4, g4, t4, rfl, hlt, rfl, q1, q2, q3⟩
      | cont =>
        obtain ⟨h4, g4, t4, vs4, pre4, cb4, post4, rfl, q1, q2, q3⟩ := q
        exact ⟨(coms ps.length r).length - (i + 1), by omega, i + 1, vs4, pre4, cb4, post4, h4, g4, t4, rfl, hlt, rfl, q1, q2, q3⟩
      | brk => exact q
      | ret v => exact q
    · intro hnone h₂ h2 t2 cb' T D2
      obtain rfl : i = (coms ps.length r).length := by
        have := List.getElem?_eq_none_iff.mp hnone
        omega
      exact fin vs pre cb' post g' h2 t2 h₂ J' T D2
  · cases r with
    | ok f => exact hr
    | error e => exact hr.elim
end
/-- the best so far -/
def BestAt (f : List Nat → Int) (l : List (List Nat)) (b : Int) (best : List (List Nat)) : Prop :=
  (∀ c ∈ l, f c ≤ b) ∧ best = l.filter (fun c => decide (f c = b)) ∧ (l ≠ [] → ∃ c ∈ l, f c = b) ∧ (l = [] → b = -6)
theorem BestAt.nil (f : List Nat → Int) : BestAt f [] (-6) [] := ⟨by simp, rfl, fun h => absurd rfl h, fun _ => rfl⟩
theorem BestAt.up {f : List Nat → Int} {l best : List (List Nat)} {b : Int} {c : List Nat} (B : BestAt f l b best) (h : b < f c) : BestAt f (l ++ [c]) (f c) [c] := by
  obtain ⟨h1, h2, h3, h4⟩ := B
  refine ⟨fun d hd => ?_, ?_, fun _ => ⟨c, by simp, rfl⟩, fun q => by simp at q⟩
  · rcases List.mem_append.mp hd with q | q
    · have := h1 d q; omega
    · rw [List.mem_singleton] at q; subst q; exact Int.le_refl _
  · rw [List.filter_append]
    have : l.filter (fun d => decide (f d = f c)) = [] := by
      rw [List.filter_eq_nil_iff]
      intro d hd
      have := h1 d hd
      simp only [decide_eq_true_eq]
      omega
    rw [this]; simp
theorem BestAt.same {f : List Nat → Int} {l best : List (List Nat)} {b : Int} {c : List Nat} (B : BestAt f l b best) (h : f c = b) (hne : l ≠ []) : BestAt f (l ++ [c]) b (best ++ [c]) := by
  obtain ⟨h1, h2, h3, h4⟩ := B
  refine ⟨fun d hd => ?_, ?_, fun _ => ⟨c, by simp, h⟩, fun q => by simp at q⟩
  · rcases List.mem_append.mp hd with q | q
    · exact h1 d q
    · rw [List.mem_singleton] at q; subst q; omega
  · rw [List.filter_append, h2]; simp [h]
theorem BestAt.less {f : List Nat → Int} {l best : List (List Nat)} {b : Int} {c : List Nat} (B : BestAt f l b best) (h : f c < b) (hne : l ≠ []) : BestAt f (l ++ [c]) b best := by
  obtain ⟨h1, h2, h3, h4⟩ := B
  refine ⟨fun d hd => ?_, ?_, fun _ => ?_, fun q => by simp at q⟩
  · rcases List.mem_append.mp hd with q | q
    · exact h1 d q
    · rw [List.mem_singleton] at q; subst q; omega
  · rw [List.filter_append, h2]
    have : ¬ f c = b := by omega
    simp [this]
  · obtain ⟨d, hd, e⟩ := h3 hne
    exact ⟨d, List.mem_append_left _ hd, e⟩
end
section
open PySem.W.X (Led)
open PyProof.Rows PySem.Calls PySem.Spec
set_option pp.deepTerms false
theorem BestAt.tops {f : List Nat → Int} {l best : List (List Nat)} {b : Int} (B : BestAt f l b best) (hne : l ≠ []) : best = Mine.tops l f := by
  obtain ⟨h1, h2, h3, h4⟩ := B
  obtain ⟨d, hd, e⟩ := h3 hne
  rw [h2]
  unfold Mine.tops
  refine List.filter_congr fun c hc => ?_
  rw [decide_eq_decide]
  constructor
  · intro q c' hc'; have := h1 c' hc'; omega
  · intro q; have := q d hd; have := h1 c hc; omega
/-- the facts of the committees -/
theorem coms_facts : ∀ n ∈ [3, 4], ∀ r ∈ [1, 2], (∀ c ∈ coms n r, c.Pairwise (· < ·) ∧ c.length ≤ 2 ∧ c.Nodup ∧ c.length = r) ∧ ((coms n r).map keyOf).Pairwise (fun a b => a.cps.toList < b.cps.toList) ∧ coms n r ≠ [] ∧ (coms n r).length < 10 ∧ r ≤ n := by decide +kernel
theorem tops_sub (l : List (List Nat)) (f : List Nat → Int) : (tops l f).Sublist l := List.filter_sublist
theorem tops_key {n r : Nat} (hn : n ∈ [3, 4]) (hr : r ∈ [1, 2]) (f : List Nat → Int) : ((tops (coms n r) f).map keyOf).Pairwise (fun a b => a.cps.toList < b.cps.toList) :=
  (coms_facts n hn r hr).2.1.sublist ((tops_sub _ _).map _)
theorem Ru.cum_nonneg (r : Ru) : ∀ k, 0 ≤ r.cum k
  | 0 => Int.le_refl _
  | k + 1 => by
    show 0 ≤ r.cum k + r.six (k + 1)
    have h1 := r.cum_nonneg k
    rcases sixOr r (k + 1) with e | e | e | e <;> rw [e] <;> omega
theorem sc_nonneg (r : Ru) (com : List Nat) : ∀ {el : List (List Nat × Int)}, (∀ e ∈ el, 0 < e.2) → 0 ≤ sc r com el
  | [], _ => Int.le_refl _
  | e :: el, h => by
    show 0 ≤ (((e :: el).map fun e => e.2 * r.cum (hits e.1 com)).sum)
    rw [List.map_cons, List.sum_cons]
    have h1 : 0 ≤ sc r com el := sc_nonneg r com fun e' h' => h e' (.tail _ h')
    have h2 := Int.mul_nonneg (Int.le_of_lt (h e (.head _))) (r.cum_nonneg (hits e.1 com))
    unfold sc at h1
    omega
/-- committees that stand in the ledger, as a list of candidate sets -/
def ComsIn (w : World) (news : List (Addr × Obj)) (v : Value) (coml : List (List Nat)) : Prop := ∃ l ys e, v = .ref l ∧ (l, lstO ys e) ∈ news ∧ ys.length = coml.length ∧ ∀ (i : Nat) (v : Value) (c : List Nat), ys[i]? = some v → coml[i]? = some c → CsIn w news v c
theorem ComsIn.mono {w : World} {news news' : List (Addr × Obj)} {v : Value} {coml : List (List Nat)} (V : ComsIn w news v coml) (h : ∀ p ∈ news, p ∈ news') : ComsIn w news' v coml :=
  let ⟨l, ys, e, a, b, c, r⟩ := V; ⟨l, ys, e, a, h _ b, c, fun i v c' h1 h2 => (r i v c' h1 h2).mono h⟩
theorem pickN {cvs : List Value} {n : Nat} (h : IntsN cvs (List.range n)) {is : List Nat} (hlt : ∀ u ∈ is, u < n) : IntsN (pickV cvs is) is := by
  refine ⟨by simp [pickV], fun i v hi => ?_⟩
  unfold pickV at hi
  rw [List.getElem?_map] at hi
  obtain ⟨u, hu, rfl⟩ := Option.map_eq_some_iff.mp hi
  have hn := hlt u (List.mem_of_getElem? hu)
  have hl : u < cvs.length := by rw [h.1, List.length_range]; exact hn
  obtain ⟨t, u', e1, e2, e3⟩ := h.2 u cvs[u] (List.getElem?_eq_getElem hl)
  rw [List.getElem?_range hn] at e1
  cases e1
  exact ⟨t, u, hu, e2, by rw [List.getElem?_eq_getElem hl]; exact e3⟩
theorem SrcCom.dropL {w : World} {lo : Addr} {lvs : List Value} {le : Nat} {A B : List (Addr × Obj)} {v : Value} {c : List Nat} (V : SrcCom w (A ++ (lo, lstO lvs le) :: B) v c) (h : ∀ a oa, v = .ref a → (a, oa) ∈ A ++ (lo, lstO lvs le) :: B → oa.cls = .type "tuple") : SrcCom w (A ++ B) v c := by
  obtain ⟨a, oa, vs, l, e, b, r⟩ := V
  refine ⟨a, oa, vs, l, e, notLst b ?_, r⟩
  rw [h a oa e b]
  intro q
  injection q with q
  exact absurd q (by decide)
/-- a committee as a tuple of the ledger -/
def TupCom (news : List (Addr × Obj)) (v : Value) (c : List Nat) : Prop := ∃ q vs, v = .ref q ∧ (q, tupO vs) ∈ news ∧ IntsN vs c
theorem TupCom.mono {news news' : List (Addr × Obj)} {v : Value} {c : List Nat} (V : TupCom news v c) (h : ∀ p ∈ news, p ∈ news') : TupCom news' v c := let ⟨q, vs, a, b, r⟩ := V; ⟨q, vs, a, h _ b, r⟩
theorem TupCom.dropL {lo : Addr} {lvs : List Value} {le : Nat} {A B : List (Addr × Obj)} {v : Value} {c : List Nat} (V : TupCom (A ++ (lo, lstO lvs le) :: B) v c) : TupCom (A ++ B) v c := by
  obtain ⟨q, vs, a, b, r⟩ := V
  exact ⟨q, vs, a, notLst b (by intro z; injection z with z; exact absurd z (by decide)), r⟩
theorem TupCom.src {w : World} {news : List (Addr × Obj)} {v : Value} {c : List Nat} (V : TupCom news v c) (hnd : c.Nodup) : SrcCom w news v c := by
  obtain ⟨q, vs, rfl, b, r⟩ := V
  exact ⟨q, _, vs, c, rfl, b, .tup rfl rfl, r, hnd, fun u => Iff.rfl⟩
theorem NumV.dropL {lo : Addr} {lvs : List Value} {le : Nat} {A B : List (Addr × Obj)} {v : Value} {q : Rat} (V : NumV (A ++ (lo, lstO lvs le) :: B) v q) : NumV (A ++ B) v q := by
  rcases V with V | ⟨x, dx, o, t1, t2, e, a, b, F⟩
  · exact .inl V
  · exact .inr ⟨x, dx, o, t1, t2, e, notLst a (by intro z; cases z), notLst b F.cls, F⟩
end
section
open PySem.W.X (Led)
open PyProof.Rows PySem.Calls PySem.Spec
set_option pp.deepTerms false
/-- _thiele_methods_bruteforce -/
theorem bruteT (gk : Nat) (g0 : Array GenState) (w : World) (r : Ru) (ts tc : Tok) (pf : Addr) (size seats : Nat) (el : List (List Nat × Int)) (hsz : size ∈ [3, 4]) (hse : seats ∈ [1, 2]) (hel : ∀ e ∈ el, 0 < e.2) :
    YSpecG gk g0 w (call (.ref 524) [] [("scorefct_id", .str r.str ts), ("profile", .ref pf), ("committeesize", .int (seats : Int) tc), ("resolute", .bool false), ("max_num_of_committees", .none)]) 70 (fun dyn => ProfIn w dyn pf size el)
      (fun dyn res tl => ∃ q cv dd, res = .ref q ∧ (q, tupO [cv, dd]) ∈ tl ∧ ComsIn w (tl ++ dyn) cv (tops (coms size seats) (fun c => sc r c el))) := by
  rintro A env base h₀ fs m dyn T h g d t os Q E C Kk G hT D hP hret
  k_dflt (refine' wpAny_call (enterLY (n := 69) [("scorefct_id", .str r.str ts), ("profile", .ref pf), ("committeesize", .int (seats : Int) tc), ("resolute", .bool false), ("max_num_of_committees", .none)] [("scorefct_id", .str r.str ts), ("profile", .ref pf), ("committeesize", .int (seats : Int) tc), ("resolute", .bool false), ("max_num_of_committees", .none)] ["opt_committees", "opt_thiele_score", "committee", "score", "committees", "detailed_info"] ["combinations", "thiele_score", "sorted_committees"] ?C Kk ?D ?o ?c ?b ?kd ?nd ?lb ?fl ?g ?k ?_))
  (case C => assumption); (case D => assumption); (case o => k_is); (case c => k_is); (case b => (intro hK; first | exact BindsTo.of_eq rfl | exact binds_K hK rfl (by k_is) rfl rfl rfl | fail "ENT: no rule for these arguments"))
  (case kd => rfl); (case nd => decide +kernel); (case lb => rfl); (case fl => kernel_rfl!); (case g => rfl); (case k => rfl)
  intro A' L' env' gb h₁ t' Q' cells fs' C' K' he hlt Y fl D' hQ
  dsimp only [List.map, List.append_nil, List.cons_append, List.nil_append] at fl D'
  obtain rfl : cells = [] := by cases Y; rfl
  rw [List.nil_append] at D'
  obtain ⟨cf1, cf2, cf3, cf4, cf5⟩ := coms_facts size hsz seats hse
  have hP0 := hP
  obtain ⟨pdx, ob, lv, lc, lnm, vvs, ev, cvs, ec, i1, i2, F, m1, m2, hcv, hlen, hvot⟩ := hP0
  have hl : size = cvs.length := by rw [hcv.1, List.length_range]
  subst hl
  have k1 := List.mem_append_left T.l i1
  have k2 := List.mem_append_left T.l i2
  have k3 := List.mem_append_left T.l m2
  have h4 : cvs.length ≤ 4 := by simp at hsz; omega
  have hs2 : seats ≤ 2 := by simp at hse; omega
  kcf_all
  obtain ⟨POST, hPOST⟩ : ∃ POST, POST = dyn ++ T.l := ⟨_, rfl⟩
  refine rForComb (d := d) (os := os) C' (by decide) K' (fun _ => by rfl) ?_
  rename_i lo0 hA DA hB tB DB tk1 t1 tk2 t2 hC tC DF
  clear DA DB
  rw [← hPOST] at k1 k2 k3 DF
  clear D'
  kcf_all
  refine (combMake w lc cvs ec seats tc cf5 h4 hs2).t.use C' DF (by decide) (.tail _ k3) ?_
  rintro _ _ h5 t5 D5 ⟨a, rg, p, c, dx, cob, iv, e5, tr, rfl, rfl, hiv⟩
  clear DF
  refine ⟨a, rg, p, c, dx, cob, cvs, iv, e5, seats, tr, _, _, _, (fun i v pre post g1 => g1 = g ∧ post = (lo0, lstO [] 0) :: POST ∧ ∃ (lo : Addr) (lvs : List Value) (le : Nat) (scv : Value) (b : Int) (best : List (List Nat)) (c7 c8 : Option Value),
    v = [some (.str r.str ts), some (.ref pf), some (.int (seats : Int) tc), some (.bool false), some .none, some (.ref lo), some scv, c7, c8, none, none] ∧ NumV pre scv (mkRat b 6) ∧ BestAt (fun c => sc r c el) ((coms cvs.length seats).take i) b best ∧
    (i = 0 ∨ ∃ p1 p2, pre = p1 ++ (lo, lstO lvs le) :: p2 ∧ lvs.length = best.length ∧ ∀ (j : Nat) (v : Value) (c : List Nat), lvs[j]? = some v → best[j]? = some c → TupCom (p1 ++ p2) v c)), _, _, _, rfl, rfl, h4, hs2, cf5, hiv, D5, ⟨rfl, rfl, lo0, [], 0, _, -6, [], _, _, rfl, .inl ⟨-1, _, rfl, by decide +kernel⟩, BestAt.nil _, .inl rfl⟩, ?_, ?_⟩
  · rintro i is vs pre cb post g1 h6 t6 q l o hat ⟨rfl, rfl, lo, lvs, le, scv, b, best, c7, c8, rfl, hN, hB, hlist⟩ hcb D6
    refine wpAny_assign_Name (rSto C' fl D6 (by kaf_suf) fun h7 t7 D7 => ?_)
    clear D6 D5
    have hmem := List.mem_of_getElem? hat
    obtain ⟨o1, o2, o3, o4⟩ := cf1 is hmem
    have hislt : ∀ u ∈ is, u < cvs.length := fun u hu => by
      obtain ⟨k, hk⟩ := List.getElem?_of_mem hu
      exact (coms_at h4 hs2 cf5 hat).2.1.lt k u hk
    have hpi := pickN hcv hislt
    have hsub : ∀ p ∈ dyn, p ∈ (q, tupO (pickV cvs is)) :: (l, o) :: (pre ++ (cb ++ (lo0, lstO [] 0) :: POST)) := fun p hp => .tail _ (.tail _ (List.mem_append_right _ (List.mem_append_right _ (.tail _ (hPOST ▸ List.mem_append_left _ hp)))))
    have hNs : ∀ p ∈ pre, p ∈ (q, tupO (pickV cvs is)) :: (l, o) :: (pre ++ (cb ++ (lo0, lstO [] 0) :: POST)) := fun p hp => .tail _ (.tail _ (List.mem_append_left _ hp))
    have hP2 := hP.mono hsub
    have hN2 := hN.mono hNs
    have hqm : (q, tupO (pickV cvs is)) ∈ (q, tupO (pickV cvs is)) :: (l, o) :: (pre ++ (cb ++ (lo0, lstO [] 0) :: POST)) := .head _
    obtain ⟨L2, hL2⟩ : ∃ L2, L2 = (q, tupO (pickV cvs is)) :: (l, o) :: (pre ++ (cb ++ (lo0, lstO [] 0) :: POST)) := ⟨_, rfl⟩
    rw [← hL2] at D7 hP2 hN2 hqm
    have htk : (coms cvs.length seats).take (i + 1) = (coms cvs.length seats).take i ++ [is] := by rw [List.take_add_one, hat]; rfl
    have hi0 : i ≠ 0 → (coms cvs.length seats).take i ≠ [] := fun hi e => by
      have := congrArg List.length e
      rw [List.length_take, List.length_nil] at this
      have hlt := (List.getElem?_eq_some_iff.mp hat).1
      omega
    have hsc0 := sc_nonneg r is hel
    kcf_all
    refine (thieleS w r ts pf q cvs.length el (tupO (pickV cvs is)) (pickV cvs is) is o3 o2).t.use C' (by assumption) (by decide) ⟨hP2, hqm, .tup rfl rfl, hpi⟩ ?_
    intro sv tl h8 t8 D8 hN8
    kcf_all
    refine (opGt w sv scv _ _).use C' (by assumption) (by decide) ⟨hN8.mono fun p hp => List.mem_append_left _ hp, hN2.mono fun p hp => List.mem_append_right _ hp, by
      have a1 := sixDen (sc r is el)
      have a2 := sixDen b
      have := Nat.mul_le_mul a1 a2
      omega⟩ ?_
    rintro _ tl9 h9 t9 D9 rfl
    rw [sixLt]
    kcf_all
    refine Br.sp (fun hc => ?_) (fun hc => ?_)
    · have hc := of_decide_eq_true hc
      kcf_all
      rename_i lo2 h10 D10 h11 t11 D11 h12 t12 D12
      subst hL2
      have eL : (lo2, lstO [.ref q] 0) :: (tl9 ++ (tl ++ (q, tupO (pickV cvs is)) :: (l, o) :: (pre ++ (cb ++ (lo0, lstO [] 0) :: POST)))) = ((lo2, lstO [.ref q] 0) :: (tl9 ++ (tl ++ (q, tupO (pickV cvs is)) :: (l, o) :: pre))) ++ (cb ++ (lo0, lstO [] 0) :: POST) := by simp only [List.append_assoc, List.cons_append]
      rw [eL] at D12
      refine FEndC.mk _ cb _ D12 hcb ⟨rfl, rfl, lo2, [.ref q], 0, sv, sc r is el, [is], _, _, rfl, hN8.mono fun p hp => .tail _ (List.mem_append_right _ (List.mem_append_left _ hp)), ?_, .inr ⟨[], _, rfl, rfl, ?_⟩⟩
      · rw [htk]; exact hB.up hc
      · intro j v c hv hcj
        cases j with
        | zero => simp at hv hcj; subst hv; subst hcj; exact ⟨q, _, rfl, List.mem_append_right _ (List.mem_append_right _ (List.mem_append_right _ (.head _))), hpi⟩
        | succ j => simp at hv
    · have hc := of_decide_eq_false hc
      have hi : i ≠ 0 := fun e => by
        subst e
        have := hB.2.2.2 rfl
        omega
      obtain ⟨p1, p2, rfl, hlen2, hall⟩ := hlist.resolve_left hi
      kcf_all
      refine (opEq w sv scv _ _).use C' (by assumption) (by decide) ⟨hN8.mono fun p hp => List.mem_append_right _ (List.mem_append_left _ hp), hN2.mono fun p hp => List.mem_append_right _ (List.mem_append_right _ hp)⟩ ?_
      rintro _ tl10 h10 t10 D10 rfl
      rw [sixEq]
      kcf_all
      refine Br.sp (fun hc2 => ?_) (fun hc2 => ?_)
      · have hc2 := of_decide_eq_true hc2
        have hbl : best.length ≤ 10 := by
          rw [hB.2.1]
          refine Nat.le_trans (List.length_filter_le _ _) ?_
          rw [List.length_take]
          omega
        subst hL2
        have eL : ∀ o', tl10 ++ (tl9 ++ (tl ++ (q, tupO (pickV cvs is)) :: (l, o) :: ((p1 ++ (lo, o') :: p2) ++ (cb ++ (lo0, lstO [] 0) :: POST)))) = (tl10 ++ (tl9 ++ (tl ++ (q, tupO (pickV cvs is)) :: (l, o) :: p1))) ++ (lo, o') :: (p2 ++ (cb ++ (lo0, lstO [] 0) :: POST)) := fun o' => by simp only [List.append_assoc, List.cons_append]
        rw [eL] at D10
        have mlo : (lo, lstO lvs le) ∈ (tl10 ++ (tl9 ++ (tl ++ (q, tupO (pickV cvs is)) :: (l, o) :: p1))) ++ (lo, lstO lvs le) :: (p2 ++ (cb ++ (lo0, lstO [] 0) :: POST)) := List.mem_append_right _ (.head _)
        kcf_all
        refine rApp D10 (UpdG.z.app _) (by omega) fun h11 D11 => ?_
        kcf_all
        have eL2 : (tl10 ++ (tl9 ++ (tl ++ (q, tupO (pickV cvs is)) :: (l, o) :: p1))) ++ (lo, lstO (lvs ++ [.ref q]) (le + 1)) :: (p2 ++ (cb ++ (lo0, lstO [] 0) :: POST)) = ((tl10 ++ (tl9 ++ (tl ++ (q, tupO (pickV cvs is)) :: (l, o) :: p1))) ++ (lo, lstO (lvs ++ [.ref q]) (le + 1)) :: p2) ++ (cb ++ (lo0, lstO [] 0) :: POST) := by simp only [List.append_assoc, List.cons_append]
        have D11 : Led _ _ _ _ ((tl10 ++ (tl9 ++ (tl ++ (q, tupO (pickV cvs is)) :: (l, o) :: p1))) ++ (lo, lstO (lvs ++ [.ref q]) (le + 1)) :: (p2 ++ (cb ++ (lo0, lstO [] 0) :: POST))) := D11
        rw [eL2] at D11
        have hup : ∀ p ∈ p1 ++ p2, p ∈ (tl10 ++ (tl9 ++ (tl ++ (q, tupO (pickV cvs is)) :: (l, o) :: p1))) ++ p2 := fun p hp => by
          rcases List.mem_append.mp hp with z | z
          · exact List.mem_append_left _ (List.mem_append_right _ (List.mem_append_right _ (List.mem_append_right _ (.tail _ (.tail _ z)))))
          · exact List.mem_append_right _ z
        refine FEndC.mk _ cb _ D11 hcb ⟨rfl, rfl, lo, lvs ++ [.ref q], le + 1, scv, b, best ++ [is], _, _, rfl, hN.dropL.mono fun p hp => ?_, ?_, .inr ⟨_, p2, rfl, by simp [hlen2], ?_⟩⟩
        · rcases List.mem_append.mp (hup p hp) with z | z
          · exact List.mem_append_left _ z
          · exact List.mem_append_right _ (.tail _ z)
        · rw [htk]; exact hB.same hc2 (hi0 hi)
        · intro j v c hv hcj
          by_cases hj : j < lvs.length
          · rw [List.getElem?_append_left hj] at hv
            rw [List.getElem?_append_left (by omega)] at hcj
            exact (hall j v c hv hcj).mono hup
          · have hl := (List.getElem?_eq_some_iff.mp hv).1
            simp at hl
            obtain rfl : j = lvs.length := by omega
            rw [List.getElem?_append_right (Nat.le_refl _)] at hv
            rw [List.getElem?_append_right (by omega), hlen2] at hcj
            simp at hv hcj
            subst hv; subst hcj
            exact ⟨q, _, rfl, List.mem_append_left _ (List.mem_append_right _ (List.mem_append_right _ (List.mem_append_right _ (.head _)))), hpi⟩
      · have hc2 := of_decide_eq_false hc2
        kcf_all
        subst hL2
        have eL : tl10 ++ (tl9 ++ (tl ++ (q, tupO (pickV cvs is)) :: (l, o) :: ((p1 ++ (lo, lstO lvs le) :: p2) ++ (cb ++ (lo0, lstO [] 0) :: POST)))) = ((tl10 ++ (tl9 ++ (tl ++ (q, tupO (pickV cvs is)) :: (l, o) :: p1))) ++ (lo, lstO lvs le) :: p2) ++ (cb ++ (lo0, lstO [] 0) :: POST) := by simp only [List.append_assoc, List.cons_append]
        rw [eL] at D10
        have hup : ∀ p ∈ p1 ++ p2, p ∈ (tl10 ++ (tl9 ++ (tl ++ (q, tupO (pickV cvs is)) :: (l, o) :: p1))) ++ p2 := fun p hp => by
          rcases List.mem_append.mp hp with z | z
          · exact List.mem_append_left _ (List.mem_append_right _ (List.mem_append_right _ (List.mem_append_right _ (.tail _ (.tail _ z)))))
          · exact List.mem_append_right _ z
        refine FEndC.mk _ cb _ D10 hcb ⟨rfl, rfl, lo, lvs, le, scv, b, best, _, _, rfl, hN.dropL.mono fun p hp => ?_, ?_, .inr ⟨_, p2, rfl, hlen2, fun j v c hv hcj => (hall j v c hv hcj).mono hup⟩⟩
        · rcases List.mem_append.mp (hup p hp) with z | z
          · exact List.mem_append_left _ z
          · exact List.mem_append_right _ (.tail _ z)
        · rw [htk]; exact hB.less (by omega) (hi0 hi)
  · rintro vs pre cb post g1 h6 t6 h₂ ⟨rfl, rfl, lo, lvs, le, scv, b, best, c7, c8, rfl, hN, hB, hlist⟩ T2 D6
    have C2 := K'.cx C' T2
    clear C' hP
    rw [List.take_length] at hB
    have hbest := hB.tops cf3
    obtain ⟨p1, p2, rfl, hlen2, hall⟩ := hlist.resolve_left (fun e => cf3 (List.length_eq_zero_iff.mp e))
    have hsub := tops_sub (coms cvs.length seats) (fun c => sc r c el)
    rw [← hbest] at hsub
    have hbl := hsub.length_le
    subst hPOST
    have eL : (p1 ++ (lo, lstO lvs le) :: p2) ++ (cb ++ (lo0, lstO [] 0) :: (dyn ++ T.l)) = ((p1 ++ (lo, lstO lvs le) :: p2) ++ (cb ++ (lo0, lstO [] 0) :: dyn)) ++ T.l := by simp only [List.append_assoc, List.cons_append]
    rw [eL] at D6
    have mlo : (lo, lstO lvs le) ∈ (p1 ++ (lo, lstO lvs le) :: p2) ++ (cb ++ (lo0, lstO [] 0) :: dyn) := List.mem_append_left _ (List.mem_append_right _ (.head _))
    have hup : ∀ p ∈ p1 ++ p2, p ∈ (p1 ++ (lo, lstO lvs le) :: p2) ++ (cb ++ (lo0, lstO [] 0) :: dyn) := fun p hp => List.mem_append_left _ (by
      rcases List.mem_append.mp hp with z | z
      · exact List.mem_append_left _ z
      · exact List.mem_append_right _ (.tail _ z))
    have hdy : ∀ p ∈ dyn, p ∈ (p1 ++ (lo, lstO lvs le) :: p2) ++ (cb ++ (lo0, lstO [] 0) :: dyn) := fun p hp => List.mem_append_right _ (List.mem_append_right _ (.tail _ hp))
    obtain ⟨DY, hDY⟩ : ∃ DY, DY = (p1 ++ (lo, lstO lvs le) :: p2) ++ (cb ++ (lo0, lstO [] 0) :: dyn) := ⟨_, rfl⟩
    have eDY : DY = (p1 ++ (lo, lstO lvs le) :: p2 ++ (cb ++ [(lo0, lstO [] 0)])) ++ dyn := by rw [hDY]; simp only [List.append_assoc, List.cons_append, List.nil_append]
    rw [← hDY] at D6 mlo hup hdy
    kcf_all
    refine (sortedComs gk g0 w lo lvs le best hlen2 (by omega) (fun c hc => ⟨(cf1 c (hsub.subset hc)).1, (cf1 c (hsub.subset hc)).2.1⟩) (hbest ▸ tops_key hsz hse _)).use DY C2 (by decide) G hT D6 ⟨mlo, fun i v c hv hc => ((hall i v c hv hc).mono hup).src (cf1 c (hsub.subset (List.mem_of_getElem? hc))).2.2.1⟩ ?_
    rintro _ tl3 T3 g3 h8 t8 G3 hT3 D8 ⟨l2, ys, e6, rfl, m3, hly, hcs⟩
    clear D6
    kcf_all
    refine oIsNN ?_
    kcf_all
    obtain ⟨pp, loose, mean, mg, mb, TT⟩ := C2.top
    rename_i h9 t9 D9
    refine newDict_K (s := ⟨_, _, _, _, _⟩) D9.fr D9.nw TT.nolimit fun d2 h10 o10 F10 N10 lt10 _ _ _ _ _ => ?_
    have D10 := ledCons D9 F10 N10 lt10
    clear D8 D9
    kcf_all
    rename_i h11 t11 D11 q12 h12 D12
    refine hQ _ _ _ _ _ _ h₂ T2 D12 fun h₂' T4 D13 => ?_
    have e13 : (q12, tupO [.ref l2, .ref d2]) :: (d2, o10) :: (tl3 ++ (DY ++ T3.l)) = ((q12, tupO [.ref l2, .ref d2]) :: (d2, o10) :: (tl3 ++ (p1 ++ (lo, lstO lvs le) :: p2 ++ (cb ++ [(lo0, lstO [] 0)])))) ++ (dyn ++ T3.l) := by rw [eDY]; simp only [List.append_assoc, List.cons_append, List.nil_append]
    rw [e13] at D13
    refine hret _ _ T3 g3 _ _ h₂' T4 G3 hT3 D13 ⟨q12, .ref l2, .ref d2, rfl, .head _, ?_⟩
    rw [← hbest]
    have eup : ∀ p ∈ tl3 ++ DY, p ∈ ((q12, tupO [.ref l2, .ref d2]) :: (d2, o10) :: (tl3 ++ (p1 ++ (lo, lstO lvs le) :: p2 ++ (cb ++ [(lo0, lstO [] 0)])))) ++ dyn := fun p hp => by
      rw [eDY, ← List.append_assoc] at hp
      exact .tail _ (.tail _ hp)
    exact ⟨l2, ys, e6, rfl, eup _ (List.mem_append_left _ m3), hly, fun i v c hv hc => (hcs i v c hv hc).mono eup⟩
end
section
open PySem.W.X (Led)
open PyProof.Rows PySem.Calls PySem.Spec
set_option pp.deepTerms false
/-- a comprehension over combinations: what it starts from -/
def CompComb (w : World) (A : Around) (env : Env) (h₀ : Heap) (fs : List Addr) (n : Nat) (d : Drawn) (os : OsState) (m : Str → Option Value) (cl : List (Str × Addr)) (scope : Scope) (xs gs : List Str) (target elt : Expr) (Q : Value → Shared → Prop) (xv : Value) (s : Shared) : Prop :=
  ∃ (a rg p c dx : Addr) (ob : Obj) (ps iv : List Value) (e r : Nat) (tr : Tok) (news : List (Addr × Obj)) (J : Nat → List Value → List (Addr × Obj) → Array GenState → Prop) (h : Heap) (g : Array GenState) (t : Nat),
    s = ⟨h, g, d, t, os⟩ ∧ xv = .ref c ∧ ps.length ≤ 4 ∧ r ≤ 2 ∧ r ≤ ps.length ∧ IntsN iv (List.range r) ∧ Led h₀ env.locals m h (CBl a rg p c dx ob ps iv e true false (r : Int) tr ++ news) ∧ J 0 [] [] g ∧ (∀ i ys pre g, J i ys pre g → ys.length ≤ i) ∧
    (∀ gB C D env' i is ys vs pre cb e2 h g t q l o, (coms ps.length r)[i]? = some is → env' = compEnvC scope cl C env → Cx w A env' gB n → FnL xs gs env'.scope → J i ys pre g → CombI a rg p c dx ob ps e r tr (i + 1) cb → Led gB env'.locals (vec xs vs) h ((q, tupO (pickV ps is)) :: (l, o) :: (pre ++ (D, lstO ys e2) :: (cb ++ news))) →
      wpAny (model PG w) A (assign target env' (.ref q)) (fun _ s₂ => wpAny (model PG w) A (eval elt env') (fun v s₄ => ∃ h' g' t' vs' pre' cb', s₄ = ⟨h', g', d, t', os⟩ ∧ Led gB env'.locals (vec xs vs') h' (pre' ++ (D, lstO ys e2) :: (cb' ++ news)) ∧ CombI a rg p c dx ob ps e r tr (i + 1) cb' ∧ J (i + 1) (ys ++ [v]) pre' g') (fun _ _ => False) s₂) (fun _ _ => False) ⟨h, g, d, t, os⟩) ∧
    (∀ D ys e2 pre cb h g t h₂, J (coms ps.length r).length ys pre g → KtsTurn fs h₀ h₂ → Led h₂ env.locals m h (pre ++ (D, lstO ys e2) :: (cb ++ news)) → Q (.ref D) ⟨h, g, d, t, os⟩)
theorem coms_len : ∀ n < 5, ∀ r < 3, r ≤ n → (coms n r).length < 10 := by decide +kernel
section
variable {w : World} {A : Around} {env : Env} {base h₀ : Heap} {fs : List Addr} {d : Drawn} {os : OsState} {m : Str → Option Value} {n : Nat} {E : Value → Shared → Prop} {s : Shared}
theorem rCompComb {elt iter : Expr} {x : Str} {px pos : Pos} {scope : Scope} {Q : Value → Shared → Prop} (xs gs : List Str) (cl : List (Str × Addr)) (Cx0 : Cx w A env h₀ n) (hn : 22 ≤ n) (Kk : Kn w A env base h₀ fs) {h₉ : Heap} {news₉ : List (Addr × Obj)} (_D : Led h₀ env.locals m h₉ news₉)
    (hs : ∀ x, foldedSetIterable iter env x = pure x) (hclos : closureFor scope env = pure cl) (hcell : scope.names.all (fun y => !(y.2 == .cell)) = true) (hkind : scope.kind = .function) (hnames : scope.names.all (fun y => !(y.2 == .local) || scope.names.lookup y.1 == some .local) = true) (hfl : fnl xs gs (relabel scope env) = true)
    (h : wpAny (model PG w) A (eval iter env) (CompComb w A env h₀ fs n d os m cl scope xs gs (.Name x px) elt Q) E s) :
    wpAny (model PG w) A (eval (.ListComp elt [⟨.Name x px, iter, [], 0⟩] scope pos) env) Q E s := by
  rw [eval_ListComp]
  refine wpAny_comprehension_free (use := none) rfl hs hclos hkind (fun y hy hl => by have := List.all_eq_true.mp hnames y hy; rw [hl] at this; simpa using this) (wpAny_mono h (fun xv s₁ h₁ => ?_) fun _ _ e => e)
  obtain ⟨a, rg, p, c, dx, ob, ps, iv, e, r, tr, news, J, h, g, t, rfl, rfl, hp, hr, hrp, hi, DL, hJ, hlen, turn, fin⟩ := h₁
  have hN := coms_len ps.length (by omega) r (by omega) hrp
  refine combIter (n := 0) (Cx0.le (by omega)) DL (List.mem_append_left _ (.tail _ (.tail _ (.tail _ (.head _))))) (List.mem_append_left _ (.tail _ (.tail _ (.tail _ (.tail _ (.head _)))))) fun h0 t0 D0 => ?_
  clear DL
  refine newList_K (s := ⟨h0, g, d, t0, os⟩) (vs := []) D0.fr D0.nw (fun D h1 F1 N1 lt => ?_) (by simp)
  have D1 : Led h₀ env.locals m h1 ((D, lstO [] 0) :: (CBl a rg p c dx ob ps iv e true false (r : Int) tr ++ news)) := ledCons D0 F1 N1 lt
  have st := (groundY (R := fun _ _ => True) D1.fr D1.nw).2.1
  obtain ⟨pp, loose, mean, mg, mb, T⟩ := Cx0.top
  have fl := FnL.of hfl
  refine wpAny_newFunctionEnv (fun y hy => by simpa using List.all_eq_true.mp hcell y hy) (by intro y hy; simp at hy) (fun h2 hns hsb => ?_) hkind
  dsimp only at hns hsb ⊢
  have hDlt : ∀ q ∈ (D, lstO [] 0) :: (CBl a rg p c dx ob ps iv e true false (r : Int) tr ++ news), q.1 < h1.objs.size := fun q hq => Heap.lt_size (D1.nw q hq).1
  have keep : ∀ b o, h1.get? b = some o → h2.get? b = some o := fun b o e => hsb.extBut b o (Nat.ne_of_lt (Heap.lt_size e)) (Heap.get?_push_of_some _ e)
  have hL1 : env.locals < h1.objs.size := by obtain ⟨oL, es, ep, hL, r⟩ := D1.fr.ns; exact Heap.lt_size hL
  obtain ⟨l, B, hlf⟩ := Kk.below Cx0 D1
  obtain ⟨gB, hgB⟩ : ∃ gB, gB = hideAll h1 (((D, lstO [] 0) :: (CBl a rg p c dx ob ps iv e true false (r : Int) tr ++ news)).map (·.1)) := ⟨_, rfl⟩
  have hD2 : Led gB h1.objs.size (vec xs (xs.map fun _ => none)) h2 ([] ++ (D, lstO [] 0) :: (CBl a rg p c dx ob ps iv e true false (r : Int) tr ++ news)) := by
    refine ⟨⟨by rw [vecN]; exact hns, fun b o e => keep b o (of_hideAll _ (hgB ▸ e)), by rw [hgB]; exact Nat.le_of_eq (hideAll_size _ _)⟩, fun q hq => ⟨keep _ _ (D1.nw q hq).1, Nat.ne_of_lt (hDlt q hq), by rw [hgB]; exact hideAll_none _ (List.mem_map_of_mem hq)⟩, D1.ord⟩
  have hC : Cx w A (compEnvC scope cl h1.objs.size env) gB n := by
    refine ⟨fun l hl => ?_, Cx0.glo, Cx0.bui, fl.kind, hgB ▸ Cx0.X.keeps st, ⟨pp, loose, mean, mg, mb, hgB ▸ T.keeps st⟩, Cx0.hand, Cx0.room, Cx0.units⟩
    obtain ⟨base, B⟩ := Cx0.ground D1 l hl
    exact .inr ⟨A, base, hgB ▸ B⟩
  have hK : Kn w A (compEnvC scope cl h1.objs.size env) base gB (l.filterMap (·.frame)) := ⟨Kk.X, Kk.top, hgB ▸ B.stays, l, hgB ▸ B.frames, rfl, .inl B.stack⟩
  have hC0 : h₀.get? h1.objs.size = none := by
    cases q : h₀.get? h1.objs.size with
    | none => rfl
    | some o => exact absurd (Heap.lt_size (D1.fr.keep _ _ q)) (Nat.lt_irrefl _)
  have loop : ∀ h3 t3, Led gB h1.objs.size (vec xs (xs.map fun _ => none)) h3 ([] ++ (D, lstO [] 0) :: (CBl a rg p c dx ob ps iv e true false (r : Int) tr ++ news)) →
      codeAny (model PG w) A (.compLoop (.ListComp elt [⟨.Name x px, iter, [], 0⟩] scope pos) 0 (.ref c) (.ref D) (compEnvC scope cl h1.objs.size env)) (compPost (model PG w) A E none Q (.ref D) h1.objs.size) ⟨h3, g, d, t3, os⟩ := by
    intro h3 t3 D3
    refine compLoopG (fun k s' => ∃ i h g t vs pre cb e2 ys, s' = ⟨h, g, d, t, os⟩ ∧ i ≤ (coms ps.length r).length ∧ k = (coms ps.length r).length - i ∧ Led gB h1.objs.size (vec xs vs) h (pre ++ (D, lstO ys e2) :: (cb ++ news)) ∧ CombI a rg p c dx ob ps e r tr i cb ∧ J i ys pre g) ?_ (coms ps.length r).length ⟨0, h3, g, t3, _, [], _, 0, [], rfl, Nat.zero_le _, rfl, D3, ⟨iv, List.range r, rfl, hi, coms_zero hp hr hrp⟩, hJ⟩
    rintro k s' ⟨i, h4, g4, t4, vs, pre, cb, e2, ys, rfl, hi4, rfl, D4, hc4, J4⟩
    have eA : ∀ (cb : List (Addr × Obj)), pre ++ (D, lstO ys e2) :: (cb ++ news) = (pre ++ [(D, lstO ys e2)]) ++ (cb ++ news) := fun cb => by simp
    rw [eA] at D4
    refine combNext hC (by omega) hK hc4 D4 hp hr hrp ?_ ?_
    · intro is hat cb' q l' o h5 t5 hc5 D5
      rw [← eA] at D5
      have hlt := (List.getElem?_eq_some_iff.mp hat).1
      refine wpAny_pure ?_
      refine wpAny_mono (turn gB h1.objs.size D _ i is ys vs pre cb' e2 h5 g4 t5 q l' o hat rfl hC fl J4 hc5 D5) (fun _ s2 q => wpAny_tests_nil ?_) fun _ _ e => e.elim
      rw [if_pos rfl]
      refine wpAny_mono q (fun v s4 q => ?_) fun _ _ e => e.elim
      obtain ⟨h6, g6, t6, vs6, pre6, cb6, rfl, D6, hc6, J6⟩ := q
      have hl := hlen _ _ _ _ J4
      refine ledApp1 D6 (by omega) fun h7 D7 => ?_
      exact ⟨(coms ps.length r).length - (i + 1), by omega, i + 1, h7, g6, t6, vs6, pre6, cb6, _, _, rfl, hlt, rfl, D7, hc6, J6⟩
    · intro hnone g₂ h5 t5 cb' T2 D5
      rw [← eA] at D5
      obtain rfl : i = (coms ps.length r).length := by
        have := List.getElem?_eq_none_iff.mp hnone
        omega
      obtain ⟨h₂, T3, D6⟩ := Kk.back D1 hlf (hgB ▸ T2) D5.fr.keep (news' := pre ++ (D, lstO ys e2) :: (cb' ++ news)) (fun q hq => ⟨(D5.nw q hq).1, (D5.nw q hq).2.2⟩) D5.ord
      exact ⟨_, D5.fr.ns, fun h'' hs'' => fin D ys e2 pre cb' h'' g4 t5 h₂ J4 T3 (ledBut D6 hs'' (Nat.ne_of_gt hL1) (T3.none_ _ hC0) fun q hq => (D5.nw q hq).2.1)⟩
  refine codeAny_compStart_list (loop h2 t0 hD2) ?_
  refine combIter (n := 0) (hC.le (by omega)) hD2 (.tail _ (List.mem_append_left _ (.tail _ (.tail _ (.tail _ (.head _)))))) (.tail _ (List.mem_append_left _ (.tail _ (.tail _ (.tail _ (.tail _ (.head _))))))) fun h3 t3 D3 => ?_
  exact loop h3 t3 D3
end
end
section
/-- what stands at a place of a sorted list: few lie above it, enough lie at or above it -/
theorem sortedAt {js : List Int} (hs : js.Pairwise (· ≤ ·)) {i : Nat} {x : Int} (hx : js[i]? = some x) : (js.filter (fun y => decide (x < y))).length + i + 1 ≤ js.length ∧ js.length ≤ (js.filter (fun y => decide (x ≤ y))).length + i := by
  obtain ⟨hi, e0⟩ := List.getElem?_eq_some_iff.mp hx
  rw [List.pairwise_iff_getElem] at hs
  have e : js.take (i + 1) ++ js.drop (i + 1) = js := List.take_append_drop _ _
  have e' : js.take i ++ js.drop i = js := List.take_append_drop _ _
  constructor
  · have h1 : (js.take (i + 1)).filter (fun y => decide (x < y)) = [] := by
      rw [List.filter_eq_nil_iff]
      intro y hy
      obtain ⟨j, hj, rfl⟩ := List.mem_iff_getElem.mp hy
      rw [List.length_take] at hj
      rw [List.getElem_take]
      simp only [decide_eq_true_eq]
      by_cases q : j = i
      · subst q; omega
      · have := hs j i (by omega) hi (by omega); omega
    have h2 : (js.filter (fun y => decide (x < y))).length ≤ (js.drop (i + 1)).length := by
      have e2 := congrArg (fun l => (List.filter (fun y => decide (x < y)) l).length) e
      rw [← e2, List.filter_append, h1, List.nil_append]
      exact List.length_filter_le _ _
    rw [List.length_drop] at h2
    omega
  · have h1 : (js.drop i).filter (fun y => decide (x ≤ y)) = js.drop i := by
      rw [List.filter_eq_self]
      intro y hy
      obtain ⟨j, hj, rfl⟩ := List.mem_iff_getElem.mp hy
      rw [List.length_drop] at hj
      rw [List.getElem_drop]
      simp only [decide_eq_true_eq]
      by_cases q : j = 0
      · subst q; simp [e0]
      · have := hs i (i + j) hi (by omega) (by omega); omega
    have h2 : (js.drop i).length ≤ (js.filter (fun y => decide (x ≤ y))).length := by
      have e2 := congrArg (fun l => (List.filter (fun y => decide (x ≤ y)) l).length) e'
      rw [← e2, List.filter_append, List.length_append, h1]
      omega
    rw [List.length_drop] at h2
    omega
/-- the same of a list of scores that the sorted one was made of -/
theorem cutAt {s : Nat → Int} {n k : Nat} {js : List Int} (hp : js.Perm ((List.range n).map s)) (hs : js.Pairwise (· ≤ ·)) {x : Int} (hk : 1 ≤ k) (hkn : k ≤ n) (hx : js[n - k]? = some x) :
    ((List.range n).filter (fun u => decide (x < s u))).length < k ∧ k ≤ ((List.range n).filter (fun u => decide (x ≤ s u))).length := by
  obtain ⟨h1, h2⟩ := sortedAt hs hx
  have hl : js.length = n := by rw [hp.length_eq]; simp
  have e1 := (hp.filter (fun y => decide (x < y))).length_eq
  have e2 := (hp.filter (fun y => decide (x ≤ y))).length_eq
  rw [List.filter_map, List.length_map] at e1 e2
  have f1 : ((List.range n).filter (fun u => decide (x < s u))).length = ((List.range n).filter ((fun y => decide (x < y)) ∘ s)).length := rfl
  have f2 : ((List.range n).filter (fun u => decide (x ≤ s u))).length = ((List.range n).filter ((fun y => decide (x ≤ y)) ∘ s)).length := rfl
  rw [f1, f2]
  omega
/-- below the line, on it, above it -/
def cl3 (x y : Int) : Nat := if y < x then 0 else if y = x then 1 else 2
/-- the separable rule's committees, as they are put together -/
def sepList (certain possible : List Nat) (missing : Nat) : List (List Nat) := (coms possible.length missing).map fun is => certain ++ is.map fun i => possible.getD i 0
def sepCert (c p : List Nat) (k : Nat) : List Nat := if p.length = k - c.length then (List.range 4).filter (fun u => decide (u ∈ c ++ p)) else c
def sepPoss (c p : List Nat) (k : Nat) : List Nat := if p.length = k - c.length then [] else p
def sepMiss (c p : List Nat) (k : Nat) : Nat := if p.length = k - c.length then 0 else k - c.length
/-- the best committees, told by where each one stands to the line -/
def thrB (n : Nat) (q : Nat → Nat) (c : List Nat) : Bool := (List.range n).all fun u => if u ∈ c then decide (1 ≤ q u) else decide (q u ≤ 1)
def sepOkB (n k : Nat) (q : Nat → Nat) : Bool :=
  let c := (List.range n).filter fun u => q u == 2
  let p := (List.range n).filter fun u => q u == 1
  let L := sepList (sepCert c p k) (sepPoss c p k) (sepMiss c p k)
  let B := (coms n k).filter (thrB n q)
  !(decide (c.length < k) && decide (k ≤ c.length + p.length)) || (decide (L.length = B.length) && (L.zip B).all (fun ab => decide ab.1.Nodup && (List.range 4).all (fun u => decide (u ∈ ab.1 ↔ u ∈ ab.2)) && ab.1.all (fun u => decide (u < 4)) && ab.2.all (fun u => decide (u < 4))) && decide (sepMiss c p k ≤ 2) && decide (sepMiss c p k ≤ (sepPoss c p k).length))
theorem sep_all : ∀ n ∈ [3, 4], ∀ k ∈ [1, 2], ∀ a ∈ [0, 1, 2], ∀ b ∈ [0, 1, 2], ∀ c ∈ [0, 1, 2], ∀ d ∈ [0, 1, 2], sepOkB n k (fun u => if u = 0 then a else if u = 1 then b else if u = 2 then c else d) = true := by decide +kernel
theorem mem_coms1 {n : Nat} {c : List Nat} : c ∈ coms n 1 ↔ ∃ a, a < n ∧ c = [a] := by
  simp only [coms, List.mem_map, List.mem_range]
  exact ⟨fun ⟨a, h, e⟩ => ⟨a, h, e.symm⟩, fun ⟨a, h, e⟩ => ⟨a, h, e.symm⟩⟩
theorem mem_coms2 {n : Nat} {c : List Nat} : c ∈ coms n 2 ↔ ∃ a b, a < b ∧ b < n ∧ c = [a, b] := by
  simp only [coms, List.mem_flatMap, List.mem_map, List.mem_filter, List.mem_range, decide_eq_true_eq]
  constructor
  · rintro ⟨a, ha, b, ⟨hb, hab⟩, e⟩
    exact ⟨a, b, hab, hb, e.symm⟩
  · rintro ⟨a, b, hab, hb, e⟩
    exact ⟨a, by omega, b, ⟨hb, hab⟩, e.symm⟩
theorem pair2 {n : Nat} {p : Nat → Bool} (h : 2 ≤ ((List.range n).filter p).length) : ∃ u v, u < v ∧ v < n ∧ p u = true ∧ p v = true := by
  have hp : ((List.range n).filter p).Pairwise (· < ·) := List.Pairwise.filter _ List.pairwise_lt_range
  match hl : (List.range n).filter p, h, hp with
  | a :: b :: r, _, hp =>
    have ha : a ∈ (List.range n).filter p := by rw [hl]; exact .head _
    have hb : b ∈ (List.range n).filter p := by rw [hl]; exact .tail _ (.head _)
    rw [List.mem_filter] at ha hb
    exact ⟨a, b, (List.pairwise_cons.mp hp).1 b (.head _), List.mem_range.mp hb.1, ha.2, hb.2⟩
theorem one2 {n : Nat} {p : Nat → Bool} (h : ((List.range n).filter p).length < 2) {u v : Nat} (hu : u < n) (hv : v < n) (pu : p u = true) (pv : p v = true) : u = v := by
  have ha : u ∈ (List.range n).filter p := List.mem_filter.mpr ⟨List.mem_range.mpr hu, pu⟩
  have hb : v ∈ (List.range n).filter p := List.mem_filter.mpr ⟨List.mem_range.mpr hv, pv⟩
  match hl : (List.range n).filter p, h with
  | [], _ => rw [hl] at ha; cases ha
  | [a], _ => rw [hl, List.mem_singleton] at ha hb; rw [ha, hb]
theorem thrEq (s : Nat → Int) (x : Int) (n : Nat) (c : List Nat) : thrB n (fun u => cl3 x (s u)) c = true ↔ ∀ u < n, (u ∈ c → x ≤ s u) ∧ (u ∉ c → s u ≤ x) := by
  have hq : ∀ y : Int, (1 ≤ cl3 x y ↔ x ≤ y) ∧ (cl3 x y ≤ 1 ↔ y ≤ x) := fun y => by
    unfold cl3
    by_cases h1 : y < x
    · rw [if_pos h1]; constructor <;> constructor <;> intro <;> omega
    · rw [if_neg h1]
      by_cases h2 : y = x
      · rw [if_pos h2]; constructor <;> constructor <;> intro <;> omega
      · rw [if_neg h2]; constructor <;> constructor <;> intro <;> omega
  unfold thrB
  rw [List.all_eq_true]
  constructor
  · intro h u hu
    have := h u (List.mem_range.mpr hu)
    by_cases q : u ∈ c
    · rw [if_pos q, decide_eq_true_eq] at this
      exact ⟨fun _ => (hq _).1.mp this, fun z => absurd q z⟩
    · rw [if_neg q, decide_eq_true_eq] at this
      exact ⟨fun z => absurd z q, fun _ => (hq _).2.mp this⟩
  · intro h u hu
    have := h u (List.mem_range.mp hu)
    by_cases q : u ∈ c
    · rw [if_pos q, decide_eq_true_eq]; exact (hq _).1.mpr (this.1 q)
    · rw [if_neg q, decide_eq_true_eq]; exact (hq _).2.mpr (this.2 q)
theorem thr_iff {s : Nat → Int} {x : Int} (f : List Nat → Int) (hf : ∀ c, f c = (c.map s).sum) {n k : Nat} (hk : k ∈ [1, 2]) (h1 : ((List.range n).filter (fun u => decide (x < s u))).length < k) (h2 : k ≤ ((List.range n).filter (fun u => decide (x ≤ s u))).length) :
    tops (coms n k) f = (coms n k).filter (thrB n fun u => cl3 x (s u)) := by
  unfold tops
  refine List.filter_congr fun c hc => ?_
  rw [Bool.eq_iff_iff, decide_eq_true_eq, thrEq]
  simp only [List.mem_cons, List.not_mem_nil, or_false] at hk
  rcases hk with rfl | rfl
  · obtain ⟨a, ha, rfl⟩ := mem_coms1.mp hc
    have low : ∀ u < n, s u ≤ x := fun u hu => by
      have e : (List.range n).filter (fun u => decide (x < s u)) = [] := List.length_eq_zero_iff.mp (by omega)
      have := List.filter_eq_nil_iff.mp e u (List.mem_range.mpr hu)
      simp only [decide_eq_true_eq] at this
      omega
    constructor
    · intro h u hu
      refine ⟨fun hm => ?_, fun _ => low u hu⟩
      rw [List.mem_singleton] at hm
      subst hm
      obtain ⟨v, hv⟩ : ∃ v, v ∈ (List.range n).filter (fun u => decide (x ≤ s u)) := by
        cases q : (List.range n).filter (fun u => decide (x ≤ s u)) with
        | nil => rw [q] at h2; simp at h2
        | cons v r => exact ⟨v, .head _⟩
      rw [List.mem_filter, List.mem_range, decide_eq_true_eq] at hv
      have := h [v] (mem_coms1.mpr ⟨v, hv.1, rfl⟩)
      rw [hf, hf] at this
      simp at this
      omega
    · intro h c' hc'
      obtain ⟨b, hb, rfl⟩ := mem_coms1.mp hc'
      rw [hf, hf]
      simp
      have := (h a ha).1 (by simp)
      have := low b hb
      omega
  · obtain ⟨a, b, hab, hbn, rfl⟩ := mem_coms2.mp hc
    have two : ∀ u < n, ∀ v < n, u ≠ v → x < s u → s v ≤ x := fun u hu v hv huv h => by
      by_cases q : s v ≤ x
      · exact q
      · exact absurd (one2 h1 hu hv (decide_eq_true h) (decide_eq_true (by omega))) huv
    constructor
    · intro h
      have pr : ∀ p < n, ∀ q < n, p ≠ q → s p + s q ≤ s a + s b := fun p hp q hq hpq => by
        rcases Nat.lt_or_gt_of_ne hpq with z | z
        · have := h [p, q] (mem_coms2.mpr ⟨p, q, z, hq, rfl⟩)
          rw [hf, hf] at this
          simp at this
          omega
        · have := h [q, p] (mem_coms2.mpr ⟨q, p, z, hp, rfl⟩)
          rw [hf, hf] at this
          simp at this
          omega
      obtain ⟨u, v, huv, hvn, pu, pv⟩ := pair2 h2
      rw [decide_eq_true_eq] at pu pv
      have ua : x ≤ s a := by
        by_cases q1 : u = a
        · subst q1; exact pu
        · by_cases q2 : v = a
          · subst q2; exact pv
          · by_cases q3 : u = b
            · have := pr v hvn b hbn (by omega); omega
            · have := pr u (by omega) b hbn q3; omega
      have ub : x ≤ s b := by
        by_cases q1 : u = b
        · subst q1; exact pu
        · by_cases q2 : v = b
          · subst q2; exact pv
          · by_cases q3 : u = a
            · have := pr v hvn a (by omega) (by omega); omega
            · have := pr u (by omega) a (by omega) q3; omega
      intro w hw
      refine ⟨fun hm => ?_, fun hm => ?_⟩
      · simp only [List.mem_cons, List.not_mem_nil, or_false] at hm
        rcases hm with rfl | rfl
        · exact ua
        · exact ub
      · simp only [List.mem_cons, List.not_mem_nil, or_false, not_or] at hm
        have w1 := pr w hw b hbn hm.2
        by_cases q : s w ≤ x
        · exact q
        · have := two w hw a (by omega) hm.1 (by omega)
          omega
    · intro h c' hc'
      obtain ⟨p, q, hpq, hqn, rfl⟩ := mem_coms2.mp hc'
      rw [hf, hf]
      simp
      have ha := (h a (by omega)).1 (by simp)
      have hb := (h b hbn).1 (by simp)
      have hp := (h p (by omega)).2
      have hq := (h q hqn).2
      simp only [List.mem_cons, List.not_mem_nil, or_false, not_or] at hp hq
      by_cases q1 : p = a
      · subst q1
        by_cases q2 : q = b
        · subst q2; omega
        · have := hq ⟨by omega, q2⟩; omega
      · by_cases q2 : p = b
        · subst q2
          have := hq ⟨by omega, by omega⟩; omega
        · have := hp ⟨q1, q2⟩
          by_cases q3 : q = a
          · subst q3; omega
          · by_cases q4 : q = b
            · subst q4; omega
            · have := hq ⟨q3, q4⟩; omega
/-- the separable rule's list against the best committees -/
theorem sepLaw {s : Nat → Int} {f : List Nat → Int} (hf : ∀ c, f c = (c.map s).sum) {n k : Nat} (hn : n ∈ [3, 4]) (hk : k ∈ [1, 2]) {x : Int} (h1 : ((List.range n).filter (fun u => decide (x < s u))).length < k) (h2 : k ≤ ((List.range n).filter (fun u => decide (x ≤ s u))).length) {c p : List Nat}
    (hc : c = (List.range n).filter (fun u => decide (s u > x))) (hp : p = (List.range n).filter (fun u => decide (s u = x))) :
    (sepList (sepCert c p k) (sepPoss c p k) (sepMiss c p k)).length = (tops (coms n k) f).length ∧
    (∀ (i : Nat) (a b : List Nat), (sepList (sepCert c p k) (sepPoss c p k) (sepMiss c p k))[i]? = some a → (tops (coms n k) f)[i]? = some b → a.Nodup ∧ ∀ u, u ∈ a ↔ u ∈ b) ∧ sepMiss c p k ≤ 2 ∧ sepMiss c p k ≤ (sepPoss c p k).length := by
  have hcl : ∀ y : Int, cl3 x y < 3 ∧ (cl3 x y = 2 ↔ x < y) ∧ (cl3 x y = 1 ↔ y = x) := fun y => by
    unfold cl3
    by_cases h1 : y < x
    · rw [if_pos h1]; omega
    · rw [if_neg h1]
      by_cases h2 : y = x
      · rw [if_pos h2]; omega
      · rw [if_neg h2]; omega
  have hm : ∀ u, cl3 x (s u) ∈ [0, 1, 2] := fun u => by
    have := (hcl (s u)).1
    simp; omega
  have key := sep_all n hn k hk _ (hm 0) _ (hm 1) _ (hm 2) _ (hm 3)
  have ln : n ≤ 4 := by simp at hn; omega
  have eq : ∀ u < n, (if u = 0 then cl3 x (s 0) else if u = 1 then cl3 x (s 1) else if u = 2 then cl3 x (s 2) else cl3 x (s 3)) = cl3 x (s u) := fun u hu => by
    by_cases a0 : u = 0
    · subst a0; rfl
    · by_cases a1 : u = 1
      · subst a1; rfl
      · by_cases a2 : u = 2
        · subst a2; rfl
        · obtain rfl : u = 3 := by omega
          rfl
  have ec : (List.range n).filter (fun u => (if u = 0 then cl3 x (s 0) else if u = 1 then cl3 x (s 1) else if u = 2 then cl3 x (s 2) else cl3 x (s 3)) == 2) = c := by
    rw [hc]
    refine List.filter_congr fun u hu => ?_
    rw [eq u (List.mem_range.mp hu), Bool.eq_iff_iff, beq_iff_eq, decide_eq_true_eq]
    exact (hcl _).2.1
  have ep : (List.range n).filter (fun u => (if u = 0 then cl3 x (s 0) else if u = 1 then cl3 x (s 1) else if u = 2 then cl3 x (s 2) else cl3 x (s 3)) == 1) = p := by
    rw [hp]
    refine List.filter_congr fun u hu => ?_
    rw [eq u (List.mem_range.mp hu), Bool.eq_iff_iff, beq_iff_eq, decide_eq_true_eq]
    exact (hcl _).2.2
  have eB : (coms n k).filter (thrB n fun u => if u = 0 then cl3 x (s 0) else if u = 1 then cl3 x (s 1) else if u = 2 then cl3 x (s 2) else cl3 x (s 3)) = tops (coms n k) f := by
    rw [thr_iff f hf hk h1 h2]
    refine List.filter_congr fun d _ => ?_
    unfold thrB
    rw [Bool.eq_iff_iff, List.all_eq_true, List.all_eq_true]
    constructor <;> intro h u hu <;> have := h u hu <;> simp only [eq u (List.mem_range.mp hu)] at this ⊢ <;> exact this
  have cnt : c.length < k ∧ k ≤ c.length + p.length := by
    refine ⟨by rw [hc]; exact h1, Nat.le_trans h2 ?_⟩
    rw [hc, hp]
    have : ∀ l : List Nat, (l.filter fun u => decide (x ≤ s u)).length ≤ (l.filter fun u => decide (s u > x)).length + (l.filter fun u => decide (s u = x)).length := by
      intro l
      induction l with
      | nil => simp
      | cons u l ih =>
        simp only [List.filter_cons]
        by_cases q1 : s u > x
        · have q2 : ¬ s u = x := by omega
          have q3 : x ≤ s u := by omega
          rw [if_pos (decide_eq_true q3), if_pos (decide_eq_true q1), if_neg (by rw [decide_eq_true_eq]; exact q2), List.length_cons, List.length_cons]; omega
        · by_cases q2 : s u = x
          · have q3 : x ≤ s u := by omega
            rw [if_pos (decide_eq_true q3), if_neg (by rw [decide_eq_true_eq]; exact q1), if_pos (decide_eq_true q2), List.length_cons, List.length_cons]; omega
          · have q3 : ¬ x ≤ s u := by omega
            rw [if_neg (by rw [decide_eq_true_eq]; exact q3), if_neg (by rw [decide_eq_true_eq]; exact q1), if_neg (by rw [decide_eq_true_eq]; exact q2)]; omega
    exact this _
  unfold sepOkB at key
  simp only [ec, ep, eB] at key
  rw [decide_eq_true cnt.1, decide_eq_true cnt.2] at key
  simp only [Bool.and_self, Bool.not_true, Bool.false_or, Bool.and_eq_true, decide_eq_true_eq] at key
  obtain ⟨⟨⟨k1, k2⟩, k3⟩, k4⟩ := key
  refine ⟨k1, fun i a b ha hb => ?_, k3, k4⟩
  rw [List.all_eq_true] at k2
  have hz : (a, b) ∈ (sepList (sepCert c p k) (sepPoss c p k) (sepMiss c p k)).zip (tops (coms n k) f) := List.mem_of_getElem? (i := i) (by rw [List.getElem?_zip_eq_some]; exact ⟨ha, hb⟩)
  have := k2 _ hz
  simp only [Bool.and_eq_true, decide_eq_true_eq, List.all_eq_true, List.mem_range] at this
  obtain ⟨⟨⟨z1, z2⟩, z3⟩, z4⟩ := this
  refine ⟨z1, fun u => ?_⟩
  by_cases q : u < 4
  · exact z2 u q
  · exact ⟨fun hm => absurd (z3 u hm) q, fun hm => absurd (z4 u hm) q⟩
end
section
open PySem.W.X (Led)
theorem sc_app (r : Ru) (c : List Nat) (a b : List (List Nat × Int)) : sc r c (a ++ b) = sc r c a + sc r c b := by
  unfold sc
  rw [List.map_append, List.sum_append_int]
theorem sc_scale (r : Ru) (c : List Nat) (H : Int) : ∀ el : List (List Nat × Int), sc r c (el.map fun e => (e.1, e.2 * H)) = H * sc r c el
  | [] => by simp [sc]
  | e :: el => by
    have ih := sc_scale r c H el
    unfold sc at ih ⊢
    rw [List.map_cons, List.map_cons, List.map_cons, List.sum_cons, List.sum_cons, ih, Int.mul_add]
    congr 1
    show e.2 * H * _ = H * (e.2 * _)
    rw [Int.mul_comm e.2 H, Int.mul_assoc]
theorem hits_le (a com : List Nat) : hits a com ≤ com.length := List.length_filter_le _ _
theorem Ru.cum_le (r : Ru) : ∀ k, k ≤ 2 → r.cum k ≤ 12 := by
  cases r <;> decide +kernel
theorem sc_le (r : Ru) {c : List Nat} (hc : c.length ≤ 2) : ∀ {el : List (List Nat × Int)}, (∀ e ∈ el, 0 < e.2) → sc r c el ≤ 12 * (el.map (·.2)).sum
  | [], _ => by simp [sc]
  | e :: el, h => by
    have ih := sc_le r hc (el := el) fun e' h' => h e' (.tail _ h')
    unfold sc at ih ⊢
    rw [List.map_cons, List.map_cons, List.sum_cons, List.sum_cons, Int.mul_add]
    have h1 := r.cum_le (hits e.1 c) (Nat.le_trans (hits_le _ _) hc)
    have h2 := h e (.head _)
    have h3 := Int.mul_le_mul_of_nonneg_left h1 (Int.le_of_lt h2)
    rw [Int.mul_comm e.2 12] at h3
    omega
theorem sum_pos : ∀ {el : List (List Nat × Int)}, (∀ e ∈ el, 0 < e.2) → el ≠ [] → 0 < (el.map (·.2)).sum
  | [e], h, _ => by simpa using h e (.head _)
  | e :: e' :: el, h, _ => by
    have := sum_pos (el := e' :: el) (fun x hx => h x (.tail _ hx)) (by simp)
    rw [List.map_cons, List.sum_cons]
    have := h e (.head _)
    omega
/-- the heavy electorate first: what the law compares -/
theorem law_one (r : Ru) {size seats : Nat} (hsz : size ∈ [3, 4]) (hse : seats ∈ [1, 2]) {F S : List (List Nat × Int)} (hS : ∀ e ∈ S, 0 < e.2) (hne : S ≠ []) :
    tops (coms size seats) (fun c => sc r c (S ++ F.map fun e => (e.1, e.2 * (100 * (S.map (·.2)).sum)))) =
      (tops (coms size seats) (fun c => sc r c F)).filter (fun c => decide (∀ c' ∈ tops (coms size seats) (fun c => sc r c F), sc r c' S ≤ sc r c S)) := by
  have h := heavy_law (coms size seats) (fun c => sc r c F) (fun c => sc r c S) (100 * (S.map (·.2)).sum) (fun c _ => sc_nonneg r c hS) fun c hc => by
    have h1 := sc_le r ((coms_facts size hsz seats hse).1 c hc).2.1 hS
    have h2 := sum_pos hS hne
    show sc r c S < _
    omega
  rw [← h]
  refine tops_congr fun c _ => ?_
  rw [sc_app, sc_scale]
/-- both electorates: what the law compares -/
theorem law_two (r : Ru) {size seats : Nat} {F S : List (List Nat × Int)} (h : (tops (coms size seats) (fun c => sc r c F)).filter (fun c => decide (c ∈ tops (coms size seats) (fun c => sc r c S))) ≠ []) :
    tops (coms size seats) (fun c => sc r c (F ++ S)) = (tops (coms size seats) (fun c => sc r c F)).filter (fun c => decide (c ∈ tops (coms size seats) (fun c => sc r c S))) := by
  rw [← cont_law (coms size seats) (fun c => sc r c F) (fun c => sc r c S) h]
  exact tops_congr fun c _ => sc_app r c F S
end
section
open PySem.W.X (Led)
open PyProof.Rows PySem.Calls PySem.Spec
set_option pp.deepTerms false
/-- the algorithms that a rule names -/
def algsOf : Ru → List Str
  | .cc => ccAlgs
  | .av => ["standard"]
  | _ => thieleAlgs
theorem ruleR (w : World) (r : Ru) (ts : Tok) : Spec w (.ref 437) [.str r.str ts] [] 20 (fun _ => True) (fun news v tl => RuleIn w (tl ++ news) v (algsOf r)) := by
  cases r with
  | pav => exact rulePav w ts
  | slav => exact ruleSlav w ts
  | cc => exact ruleCc w ts
  | geom => exact ruleGeom w ts
  | av => exact ruleAv w ts
theorem resAt (w : World) : (hd.heap_39 w.params).lookup 411 = some (tupO [.bool false, .bool true]) := by k_is
section
variable {w : World} {A : Around} {env : Env} {h₀ h : Heap} {g : Array GenState} {d : Drawn} {t : Nat} {os : OsState} {m : Str → Option Value} {news : List (Addr × Obj)} {n : Nat} {E : Value → Shared → Prop} {s : Shared}
theorem notInStrs {ta : Addr} {k : Str} {tk : Tok} {tvs : List Value} {ss : List Str} {Q : Value → Shared → Prop} (ht : s.heap.IsTuple ta tvs.toArray) (hS : StrsAre tvs ss) (hq : Q (.bool (!ss.any (· == k))) s) :
    wpAny (model PG w) A (compareOp .NotIn (.str k tk) (.ref ta)) Q E s :=
  PySem.SeqAt.notIn_tupleAt (isStrOf k) ht (fun y hy => (eq_isStrOf k tk hS y (by simpa using hy)).at _ _) (by rw [← Array.any_toList, show tvs.toArray.toList = tvs from rfl, any_isStrOf k hS]; exact hq)
theorem notInRes {Q : Value → Shared → Prop} (X : (hd.heap_39 w.params).In s.heap) (hq : Q (.bool false) s) : wpAny (model PG w) A (compareOp .NotIn (.bool false) (.ref 411)) Q E s :=
  PySem.SeqAt.notIn_tupleAt (items := [Value.bool false, Value.bool true].toArray) (fun y => match y with | .bool b => !b | _ => false) ⟨_, X _ _ (resAt w), rfl, _, rfl⟩ (fun y hy => by
    simp at hy
    rcases hy with rfl | rfl
    · exact PySem.SeqAt.EqAt.bool_bool false false
    · exact PySem.SeqAt.EqAt.bool_bool true false) (by simpa using hq)
theorem rLenProf {pf pdx lv : Addr} {o : Obj} {l : List (Str × Value)} {vvs : List Value} {ev : Nat} {Q : Value → Shared → Prop} (C : Cx w A env h₀ (n + 8)) (D : Led h₀ env.locals m h news) (i1 : (pf, instObj 695 pdx) ∈ news) (i2 : (pdx, o) ∈ news) (F : Flds o l) (hl : (("_voters" : Str), Value.ref lv) ∈ l) (hv : (lv, lstO vvs ev) ∈ news) (hz : vvs.length < 1000000)
    (hq : ∀ tk h' t', Led h₀ env.locals m h' news → Q (.int (vvs.length : Int) tk) ⟨h', g, d, t', os⟩) : wpAny (model PG w) A (call (.builtin "len") [.ref pf]) Q E ⟨h, g, d, t, os⟩ := by
  refine len_K (s := ⟨h, g, d, t, os⟩) D.fr C.X (InstAt.of_news D.nw i1 i2) (show findIn (hd.heap_39 w.params) (.ref 695) "__len__" = some (some (.ref 594)) by kernel_rfl!) (by kernel_rfl!) ?_
  have C1 : Cx w A.in1 env h₀ (n + 7) := C.in1
  k_dflt (refine' wpAny_call (enterC (A := A.in1) (n := n + 6) [("self", .ref pf)] [] ["len"] ?C ?D ?o ?c ?b ?f ?g ?i ?j ?_))
  (case C => exact C1); (case D => exact D); (case o => k_is); (case c => k_is); (case b => (intro hK; first | exact BindsTo.of_eq rfl | exact binds_K hK rfl (by k_is) rfl rfl rfl)); (case f => kernel_rfl!); (case g => exact rfl); (case i => exact rfl); (case j => decide)
  intro A' env' gb h₁ t' Q' C' fl' D' hQ
  dsimp only [List.map, List.append_nil, List.cons_append, List.nil_append] at fl' D'
  clear D
  kcf_all
  refine rLenS C' D' hv (.list rfl rfl) hz fun tk1 t1 => ?_
  kcf_all
  refine hQ _ _ _ _ _ _ D' fun D9 => ⟨⟨by omega, by omega⟩, hq _ _ _ D9⟩
end
/-- Rule.verify_compute_parameters -/
theorem verifyT (w : World) (x pf : Addr) (ss : List Str) (seats size : Nat) (el : List (List Nat × Int)) (alg : Str) (tc ta : Tok) (h1 : 1 ≤ seats) (h2 : seats ≤ size) (h3 : size ≤ 4) (hel : 0 < el.length) (hel2 : el.length < 1000) (ha : ss.any (· == alg) = true) :
    Spec w (.ref 434) [.ref x] [("profile", .ref pf), ("committeesize", .int (seats : Int) tc), ("algorithm", .str alg ta), ("resolute", .bool false), ("max_num_of_committees", .none)] 24 (fun news => RuleIn w news (.ref x) ss ∧ ProfIn w news pf size el) (fun _ r tl => r = .none) := by
  rintro A env h₀ m news h g d t os Q E C D ⟨hR, hP⟩ hret
  obtain ⟨x', dx, o, l, av, ys, e, tp, e', i1, i2, F, l1, a1, hys, l2, hT, l3, hn⟩ := hR
  cases e'
  obtain ⟨pdx, ob, lv, lc, lnm, vvs, ev, cvs, ec, j1, j2, F2, m1, m2, hcv, hlen, hvot⟩ := hP
  have hl : cvs.length = size := by rw [hcv.1, List.length_range]
  k_dflt (refine' enterF (n := 23) [("self", .ref x), ("profile", .ref pf), ("committeesize", .int (seats : Int) tc), ("algorithm", .str alg ta), ("resolute", .bool false), ("max_num_of_committees", .none)] [] ["ValueError", "len", "UnknownAlgorithm", "NotImplementedError", "isinstance", "int"] ?C ?D ?o ?c ?b ?f ?g ?i ?j ?_)
  kcf_m
  intro A' env' gb h₁ t' Q' C' fl D' hQ
  dsimp only [List.map, List.append_nil, List.cons_append, List.nil_append] at fl D'
  kcf_all
  refine rNumCand (n := 19) C' fl (by assumption) (by kaf_pre) j1 j2 F2 (by kat_tups) m2 (by omega) fun tk2 hh2 t2 D2 => ?_
  clear D'
  kcf_all
  refine rLenProf (n := 15) C' (by assumption) j1 j2 F2 (by kat_tups) m1 (by omega) fun tk3 hh3 t3 D3 => ?_
  clear D2
  kcf_all
  obtain ⟨tvs, hS, hat⟩ := hT.at
  refine notInStrs (s := ⟨_, _, _, _, _⟩) (hat _ (C'.X.keeps D3.fr.keep) fun p hp => (D3.nw p hp).1) hS ?_
  rw [ha]
  kcf_all
  refine notInRes (s := ⟨_, _, _, _, _⟩) (C'.X.keeps D3.fr.keep) ?_
  kcf_all
  refine oIsNN ?_
  kcf_all
  refine oIsNN ?_
  kcf_all
  refine oIsNN ?_
  kcf_all
  exact hQ _ _ _ _ _ _ D3 fun D9 => hret _ [] _ _ D9 rfl
end
section
open PySem.W.X (Led)
open PyProof.Rows PySem.Calls PySem.Spec
set_option pp.deepTerms false
section
variable {w : World} {A : Around} {env : Env} {h₀ h : Heap} {g : Array GenState} {d : Drawn} {t : Nat} {os : OsState} {m : Str → Option Value} {news : List (Addr × Obj)} {n : Nat} {ns gs : List Str} {E : Value → Shared → Prop}
/-- a, b = f(..), where the call may turn the ground -/
theorem rUnpY {Q : Flow → Shared → Prop} {a b : Str} {pa pb : Pos} {k : Nat} {tp pos : Pos} {value : Expr} (C : Cx w A env h₀ n) (fl : FnL ns gs env.scope) (ha : a ∈ ns) (hb : b ∈ ns)
    (hs : swapsWithSole [.Tuple [.Name a pa, .Name b pb] k tp] value pos.line env = pure false) (hw : swappedStores [.Tuple [.Name a pa, .Name b pb] k tp] value env = pure none)
    (hq : wpAny (model PG w) A (eval value env) (fun v s1 => ∃ h₂, UnpEnd h₂ env.locals a b Q v s1) E ⟨h, g, d, t, os⟩) :
    wpAny (model PG w) A (exec (.Assign [.Tuple [.Name a pa, .Name b pb] k tp] value pos) env) Q E ⟨h, g, d, t, os⟩ := by
  have ka : env.kindOf a = some .local := by show env.scope.names.lookup a = _; exact fl.loc a ha
  have kb : env.kindOf b = some .local := by show env.scope.names.lookup b = _; exact fl.loc b hb
  refine Assign_Tuple (wpAny_mono hq (fun v s1 h1 => ?_) fun _ _ e => e) hs hw
  obtain ⟨h₂, r, v1, v2, ns', vs0, vs1, vs2, news', rfl, hr, nd, D, p1, p2, hq⟩ := h1
  obtain ⟨h2, g2, d2, t2, o2⟩ := s1
  show wpAny _ _ (do standAt tp; unpack (.ref r) (assignEach [.Name a pa, .Name b pb] env)) _ _ _
  refine wpAny_bind (wpAny_standAt ?_)
  show wpAny _ _ (do assignInOrder [assign (.Name a pa) env, assign (.Name b pb) env] (← holding [.ref r] (unpackItems (.ref r) 2 none))) _ _ _
  refine wpAny_bind (wpAny_holding (unpackItemsN_ (s := ⟨h2, g2, d2, t2, o2⟩) D.fr D.nw (items := #[v1, v2]) (News.isTup D.nw hr) C.hand rfl fun h'' F N => ?_))
  have D2 := ledSame D F N
  exact assignInOrder_cons (assign_Name (sto2 C.kind rfl ka nd D2 p1 fun h3 _ D3 => assignInOrder_cons (assign_Name (sto2 C.kind rfl kb nd D3 p2 fun h4 _ D4 => assignInOrder_nil (hq _ _ D4)))))
end
end
open PySem.W.X (Led)
open PyProof.Rows PySem.Calls PySem.Spec
local macro_rules | `(tactic| kc_close) => `(tactic| with_reducible ((with_reducible show wpAny _ _ (exec (Stmt.Assign [Expr.Tuple _ _ _] _ _) _) _ _ _); refine rUnpY (by assumption) (by assumption) (by kat_tups) (by kat_tups) (by with_unfolding_all rfl) (by with_unfolding_all rfl) ?_))

section
open PySem.W.X (Led)
open PyProof.Rows PySem.Calls PySem.Spec
set_option pp.deepTerms false
theorem all_and {α : Type} {l : List α} {p q : α → Bool} (h : l.all (fun x => p x && q x) = true) : l.all p = true ∧ l.all q = true := by
  rw [List.all_eq_true] at h
  exact ⟨List.all_eq_true.mpr fun x hx => (Bool.and_eq_true_iff.mp (h x hx)).1, List.all_eq_true.mpr fun x hx => (Bool.and_eq_true_iff.mp (h x hx)).2⟩
theorem RuleIn.mono {w : World} {news news' : List (Addr × Obj)} {v : Value} {ss : List Str} (V : RuleIn w news v ss) (h : ∀ p ∈ news, p ∈ news') : RuleIn w news' v ss := by
  obtain ⟨x, dx, o, l, av, ys, e, ta, q1, q2, q3, q4, q5, q6, q7, q8, ⟨tvs, z1, z2⟩, q10, q11⟩ := V
  exact ⟨x, dx, o, l, av, ys, e, ta, q1, h _ q2, h _ q3, q4, q5, h _ q6, q7, q8, ⟨tvs, z1, z2.imp (h _) id⟩, q10, q11⟩
theorem algs_brute (r : Ru) (hr : r ≠ .av) : (algsOf r).any (· == ("brute-force" : Str)) = true := by
  cases r with
  | av => exact absurd rfl hr
  | _ => decide +kernel
theorem tops_nonempty {l : List (List Nat)} {f : List Nat → Int} (h : l ≠ []) : tops l f ≠ [] := by
  obtain ⟨c, hc, hm⟩ := tops_ne (f := f) h
  exact List.ne_nil_of_mem (mem_tops.mpr ⟨hc, hm⟩)
/-- compute_thiele_method, brute force -/
theorem thieleM (gk : Nat) (g0 : Array GenState) (w : World) (r : Ru) (hr : r ≠ .av) (ts tc ta : Tok) (pf : Addr) (size seats : Nat) (el : List (List Nat × Int)) (hsz : size ∈ [3, 4]) (hse : seats ∈ [1, 2]) (hel : ∀ e ∈ el, 0 < e.2) (hel1 : 0 < el.length) (hel2 : el.length < 1000) :
    YSpecG gk g0 w (call (.ref 516) [.str r.str ts, .ref pf, .int (seats : Int) tc] [("algorithm", .str "brute-force" ta), ("resolute", .bool false)]) 80 (fun dyn => ProfIn w dyn pf size el)
      (fun dyn res tl => ComsIn w (tl ++ dyn) res (tops (coms size seats) (fun c => sc r c el))) := by
  rintro A env base h₀ fs m dyn T h g d t os Q E C Kk G hT D hP hret
  k_dflt (refine' wpAny_call (enterLY (n := 79) [("scorefct_id", .str r.str ts), ("profile", .ref pf), ("committeesize", .int (seats : Int) tc), ("algorithm", .str "brute-force" ta), ("resolute", .bool false), ("max_num_of_committees", .none), ("lexicographic_tiebreaking", .bool false)] [("scorefct_id", .str r.str ts), ("profile", .ref pf), ("committeesize", .int (seats : Int) tc), ("algorithm", .str "brute-force" ta), ("resolute", .bool false), ("max_num_of_committees", .none), ("lexicographic_tiebreaking", .bool false)] ["rule", "committees", "detailed_info"] ["Rule", "_thiele_methods_bruteforce", "UnknownAlgorithm"] ?C Kk ?D ?o ?c ?b ?kd ?nd ?lb ?fl ?g ?k ?_))
  (case C => assumption); (case D => assumption); (case o => k_is); (case c => k_is); (case b => (intro hK; first | exact BindsTo.of_eq rfl | exact binds_K hK rfl (by k_is) rfl rfl rfl | fail "ENT: no rule for these arguments"))
  (case kd => rfl); (case nd => decide +kernel); (case lb => rfl); (case fl => kernel_rfl!); (case g => rfl); (case k => rfl)
  intro A' L' env' gb h₁ t' Q' cells fs' C' K' he hlt Y fl D' hQ
  dsimp only [List.map, List.append_nil, List.cons_append, List.nil_append] at fl D'
  obtain rfl : cells = [] := by cases Y; rfl
  rw [List.nil_append] at D'
  clear Y
  kcf_all
  refine (ruleR w r ts).t.use C' (by assumption) (by decide) trivial ?_
  intro rv tl h3 t3 D3 hR
  clear D'
  have e1 : tl ++ (dyn ++ T.l) = (tl ++ dyn) ++ T.l := (List.append_assoc _ _ _).symm
  have hR0 := hR
  obtain ⟨x, dx, o, l, av, ys, e, tp, rfl, i1, i2, F, l1, a1, hys, l2, hTp, l3, hn⟩ := hR
  have hPa : ProfIn w (tl ++ (dyn ++ T.l)) pf size el := hP.mono fun p hp => List.mem_append_right _ (List.mem_append_left _ hp)
  obtain ⟨DY, hDY⟩ : ∃ DY, DY = tl ++ (dyn ++ T.l) := ⟨_, rfl⟩
  rw [← hDY] at D3 hR0 i1 i2 hPa
  kcf_all
  refine rMeth C' (by assumption) i1 i2 F (all_and hn).2 (by kernel_rfl!) (by k_is) (by kernel_rfl!) ?_
  kcf_all
  refine (verifyT w x pf (algsOf r) seats size el "brute-force" tc ta (by simp at hse; omega) (coms_facts size hsz seats hse).2.2.2.2 (by simp at hsz; omega) hel1 hel2 (algs_brute r hr)).t.use C' (by assumption) (by decide) ⟨hR0, hPa⟩ ?_
  rintro _ tl4 h4 t4 D4 rfl
  kcf_all
  subst hDY
  have e2 : tl4 ++ (tl ++ (dyn ++ T.l)) = (tl4 ++ (tl ++ dyn)) ++ T.l := by simp only [List.append_assoc]
  rw [e2] at D4
  refine (bruteT gk g0 w r ts tc pf size seats el hsz hse hel).use (tl4 ++ (tl ++ dyn)) C' (by decide) K' G hT D4 (hP.mono fun p hp => List.mem_append_right _ (List.mem_append_right _ hp)) ?_
  rintro _ tl5 T5 g5 h5 t5 h₂ T2 C2 K2 G5 hT5 D5 ⟨q, cv, dd, rfl, mq, hcm⟩
  clear D4 D3
  have mq2 : (q, tupO [cv, dd]) ∈ tl5 ++ (tl4 ++ (tl ++ dyn) ++ T5.l) := List.mem_append_left _ mq
  refine ⟨h₂, UnpEnd.mk fl D5 mq2 (by kaf_suf) (by kaf_suf) fun h6 t6 D6 => ?_⟩
  clear D5 C' K'
  obtain ⟨lc, ys2, ec, rfl, mlc, hlen, hcs⟩ := hcm
  have hpos : 0 < ys2.length := by
    rw [hlen]
    exact List.length_pos_iff.mpr (tops_nonempty (coms_facts size hsz seats hse).2.2.1)
  have mlc2 : (lc, lstO ys2 ec) ∈ tl5 ++ (tl4 ++ (tl ++ dyn) ++ T5.l) := by
    rcases List.mem_append.mp mlc with z | z
    · exact List.mem_append_left _ z
    · exact List.mem_append_right _ (List.mem_append_left _ z)
  kcf_all
  refine Subscript_ ?_
  kcf_all
  refine rItem D6 mlc2 (by omega) (by omega) (List.getElem?_eq_getElem hpos) (by rfl) ?_
  kcf_all
  refine hQ _ _ _ _ _ _ h₂ T2 D6 fun h₃ T4 D9 => ?_
  have e3 : tl5 ++ (tl4 ++ (tl ++ dyn) ++ T5.l) = (tl5 ++ (tl4 ++ tl)) ++ (dyn ++ T5.l) := by simp only [List.append_assoc]
  rw [e3] at D9
  refine hret _ _ T5 g5 _ _ h₃ T4 G5 hT5 D9 ⟨lc, ys2, ec, rfl, ?_, hlen, ?_⟩
  · simpa only [List.append_assoc] using mlc
  · simpa only [List.append_assoc] using hcs
end
section
open PySem.W.X (Led)
open PyProof.Rows PySem.Calls PySem.Spec
set_option pp.deepTerms false
theorem foldRep (v : Value) : ∀ (k : Nat) (acc : Array Value), List.foldl (fun x1 x2 => x1 ++ x2) acc (List.replicate k #[v]) = acc ++ (List.replicate k v).toArray
  | 0, acc => by simp
  | k + 1, acc => by
    rw [List.replicate_succ, List.foldl_cons, foldRep v k, List.replicate_succ]
    apply Array.toList_inj.mp
    simp
section
variable {w : World} {A : Around} {env : Env} {h₀ h : Heap} {g : Array GenState} {d : Drawn} {t : Nat} {os : OsState} {m : Str → Option Value} {news : List (Addr × Obj)} {n : Nat} {E : Value → Shared → Prop} {ns gs : List Str} {vs vs' : List (Option Value)} {pos xp : Pos} {a b : Addr} {ys zs : List Value} {e e2 : Nat} {value slice : Expr} {L : Addr}
/-- [v] * k -/
theorem rMulL {k : Int} {u : Tok} {v : Value} {Q : Value → Shared → Prop} (D : Led h₀ L m h news) (hm : (a, lstO [v] e) ∈ news) (h0 : 0 ≤ k) (h1 : k < 1000000) (hq : ∀ b h', Led h₀ L m h' ((b, lstO (List.replicate k.toNat v) 0) :: news) → Q (.ref b) ⟨h', g, d, t, os⟩) :
    wpAny (model PG w) A (binaryOp .Mult (.ref a) (.int k u)) Q E ⟨h, g, d, t, os⟩ := by
  refine mul_list (s := ⟨h, g, d, t, os⟩) D.fr D.nw (D.nw _ hm).1 (by omega) (by omega) (by simp; omega) fun h' F' N' => ?_
  have e0 : List.foldl (fun x1 x2 => x1 ++ x2) #[] (List.replicate (if [v].toArray.isEmpty = true then 0 else k.toNat) [v].toArray) = (List.replicate k.toNat v).toArray := by
    rw [if_neg (by simp)]
    exact (foldRep v k.toNat #[]).trans (by simp)
  have N2 : News h₀ L h' ((h.objs.size, lstO (List.replicate k.toNat v) 0) :: news) := by
    simp only [e0] at N'
    exact N'
  exact hq _ h' (ledCons D F' N2 fun p hp => Heap.lt_size (D.nw p hp).1)
/-- an item from behind -/
theorem rItemN {k : Int} {u : Tok} {v : Value} {Q : Value → Shared → Prop} (D : Led h₀ L m h news) (hm : (a, lstO ys e) ∈ news) (h0 : k < 0) (h1 : -(ys.length : Int) ≤ k) (hz : -1000000 ≤ k) (hx : ys[(k + ys.length).toNat]? = some v) (hs : subscripted slice false (.ref a) (.int k u) = operate [.ref a, .int k u] (getItem (.ref a) (.int k u))) (hq : Q v ⟨h, g, d, t, os⟩) :
    wpAny (model PG w) A (subscriptTail value slice (.ref a) (.int k u)) Q E ⟨h, g, d, t, os⟩ := by
  have hl : h.IsList a ys.toArray := ⟨_, (D.nw _ hm).1, rfl, _, rfl⟩
  exact tail_any (s := ⟨h, g, d, t, os⟩) hl.typeIs slot_list_getitem.lookup (wpAny_getItem_list_neg hl h0 (by simpa using h1) (by omega) (by simpa using hx) hq) hs
/-- a sorted list of ints -/
theorem rSortI {is : List Int} {Q : Value → Shared → Prop} (D : Led h₀ L m h news) (hm : (a, lstO ys e) ∈ news) (hi : IntsAre ys is) (h64 : ys.length < 64)
    (hq : ∀ b h' zs js e', Led h₀ L m h' ((b, lstO zs e') :: news) → IntsAre zs js → js.Perm is → js.Pairwise (· ≤ ·) → Q (.ref b) ⟨h', g, d, t, os⟩) : wpAny (model PG w) A (call (.builtin "sorted") [.ref a]) Q E ⟨h, g, d, t, os⟩ := by
  refine sorted_N (s := ⟨h, g, d, t, os⟩) D.fr D.nw ⟨_, (D.nw _ hm).1, rfl, _, rfl⟩ hi h64 fun h' zs js e' F' N' a1 a2 a3 => ?_
  exact hq _ h' zs js e' (ledCons D F' N' fun p hp => Nat.lt_succ_of_lt (Heap.lt_size (D.nw p hp).1)) a1 a2 a3
/-- two lists put together -/
theorem rAddL {Q : Value → Shared → Prop} (D : Led h₀ L m h news) (ha : (a, lstO ys e) ∈ news) (hb : (b, lstO zs e2) ∈ news) (hz : ys.length + zs.length < 1000000) (hq : ∀ c h', Led h₀ L m h' ((c, lstO (ys ++ zs) 0) :: news) → Q (.ref c) ⟨h', g, d, t, os⟩) :
    wpAny (model PG w) A (binaryOp .Add (.ref a) (.ref b)) Q E ⟨h, g, d, t, os⟩ :=
  add_lists (s := ⟨h, g, d, t, os⟩) (hsz := by rw [sizeLine_eq]; omega) D.fr D.nw ⟨_, (D.nw _ ha).1, rfl, _, rfl⟩ ⟨_, (D.nw _ hb).1, rfl, _, rfl⟩ fun h' F' N' => hq _ h' (ledCons D F' N' fun p hp => Heap.lt_size (D.nw p hp).1)
/-- list(a tuple) -/
theorem rLstTup {Q : Value → Shared → Prop} (D : Led h₀ L m h news) (ha : (a, tupO ys) ∈ news) (hz : ys.length < 1000000) (hq : ∀ c h' e', Led h₀ L m h' ((c, lstO ys e') :: news) → Q (.ref c) ⟨h', g, d, t, os⟩) :
    wpAny (model PG w) A (call (.type "list") [.ref a]) Q E ⟨h, g, d, t, os⟩ :=
  kup_listOfT (s := ⟨h, g, d, t, os⟩) D.fr D.nw ha (zs := ys) rfl (fun D' c h' F' N' lt => hq _ h' c (ledCons D F' N' lt)) (by rw [sizeLine_eq]; simp; omega)
/-- a list's truth -/
theorem ledNotIn {h₀ h h' : Heap} {L c : Addr} {m : Str → Option Value} {news : List (Addr × Obj)} (D : Led h₀ L m h news) (hs : Heap.SameBut c h h') (hC : c ≠ L) (h0 : h₀.get? c = none) (hn : ∀ p ∈ news, p.1 ≠ c) : Led h₀ L m h' news := ledBut D hs hC h0 hn
end
/-- who stands for the ints of a list of small numbers -/
theorem IntsN.are {vs : List Value} {ns : List Nat} (h : IntsN vs ns) : IntsAre vs (ns.map fun u : Nat => (u : Int)) := intsN_are h
theorem IntsN.app {vs ws : List Value} {ns ms : List Nat} (h : IntsN vs ns) (k : IntsN ws ms) : IntsN (vs ++ ws) (ns ++ ms) := by
  refine ⟨by simp [h.1, k.1], fun i v hi => ?_⟩
  by_cases q : i < vs.length
  · rw [List.getElem?_append_left q] at hi
    obtain ⟨t', u', h1, h2, h3⟩ := h.2 i v hi
    exact ⟨t', u', by rw [List.getElem?_append_left (by rw [← h.1]; exact q)]; exact h1, h2, h3⟩
  · rw [List.getElem?_append_right (by omega)] at hi
    obtain ⟨t', u', h1, h2, h3⟩ := k.2 _ v hi
    exact ⟨t', u', by rw [List.getElem?_append_right (by have := h.1; omega), ← h.1]; exact h1, h2, h3⟩
theorem intsAt : ∀ {vs : List Value} {js : List Int} {i : Nat} {v : Value} {j : Int}, IntsAre vs js → vs[i]? = some v → js[i]? = some j → ∃ t, v = .int j t
  | _, _, _, _, _, .nil, h, _ => by simp at h
  | _, _, 0, _, _, .cons n t _, h1, h2 => by simp at h1 h2; subst h1; subst h2; exact ⟨t, rfl⟩
  | _, _, i + 1, _, _, .cons n t r, h1, h2 => intsAt (i := i) r (by simpa using h1) (by simpa using h2)
theorem IntsN.of_are {vs : List Value} {js : List Int} (h : IntsAre vs js) {ns : List Nat} (e : js = ns.map fun u : Nat => (u : Int)) (h4 : ∀ u ∈ ns, u < 4) : IntsN vs ns := by
  have hlen : vs.length = ns.length := by rw [h.length, e, List.length_map]
  refine ⟨hlen, fun i v hi => ?_⟩
  have hl2 : i < ns.length := by rw [← hlen]; exact (List.getElem?_eq_some_iff.mp hi).1
  obtain ⟨t, ht⟩ := intsAt (j := ((ns[i] : Nat) : Int)) h hi (by rw [e, List.getElem?_map, List.getElem?_eq_getElem hl2]; rfl)
  exact ⟨t, ns[i], List.getElem?_eq_getElem hl2, h4 _ (List.getElem_mem hl2), ht⟩
end
section
open PySem.W.X (Led)
open PyProof.Rows PySem.Calls PySem.Spec
set_option pp.deepTerms false
/-- the weight that approves a candidate -/
def avs (el : List (List Nat × Int)) (u : Nat) : Int := (el.map fun e => if u ∈ e.1 then e.2 else 0).sum
theorem avs_snoc (el : List (List Nat × Int)) (e : List Nat × Int) (u : Nat) : avs (el ++ [e]) u = avs el u + if u ∈ e.1 then e.2 else 0 := by
  unfold avs
  rw [List.map_append, List.sum_append]
  simp
theorem avCum : ∀ k, Ru.av.cum k = 6 * (k : Int)
  | 0 => rfl
  | k + 1 => by
    show Ru.av.cum k + 6 = _
    rw [avCum k]; omega
theorem hits_cons (a : List Nat) (u : Nat) (c : List Nat) : hits a (u :: c) = (if u ∈ a then 1 else 0) + hits a c := by
  unfold hits
  rw [List.filter_cons]
  by_cases q : u ∈ a
  · rw [if_pos (decide_eq_true q), if_pos q, List.length_cons]; omega
  · rw [if_neg (by rw [decide_eq_true_eq]; exact q), if_neg q]; omega
theorem sc_av (el : List (List Nat × Int)) : ∀ c, sc .av c el = 6 * (c.map (avs el)).sum
  | [] => by
    unfold sc
    induction el with
    | nil => rfl
    | cons e el ih =>
      rw [List.map_cons, List.sum_cons, ih]
      show e.2 * Ru.av.cum 0 + _ = _
      rw [show Ru.av.cum 0 = 0 from rfl]; simp
  | u :: c => by
    rw [List.map_cons, List.sum_cons, Int.mul_add, ← sc_av el c]
    unfold sc avs
    induction el with
    | nil => rfl
    | cons e el ih =>
      simp only [List.map_cons, List.sum_cons] at ih ⊢
      rw [ih, avCum, avCum, hits_cons]
      by_cases q : u ∈ e.1
      · rw [if_pos q, if_pos q]
        have : e.2 * (6 * ((1 + hits e.1 c : Nat) : Int)) = 6 * e.2 + e.2 * (6 * (hits e.1 c : Int)) := by
          rw [Int.natCast_add, Int.mul_add, Int.mul_add]; simp; rw [Int.mul_comm]
        rw [this]; omega
      · rw [if_neg q, if_neg q, Nat.zero_add]; omega
theorem tops_six {l : List (List Nat)} {f g : List Nat → Int} (h : ∀ c, f c = 6 * g c) : tops l f = tops l g := by
  unfold tops
  refine List.filter_congr fun c _ => ?_
  rw [decide_eq_decide]
  constructor <;> intro q c' hc' <;> have := q c' hc'
  · rw [h, h] at this; omega
  · rw [h, h]; omega
end
section
open PySem.W.X (Led)
open PyProof.Rows PySem.Calls PySem.Spec
set_option pp.deepTerms false
section
variable {w : World} {A : Around} {env : Env} {h₀ h : Heap} {g : Array GenState} {d : Drawn} {t : Nat} {os : OsState} {m : Str → Option Value} {news : List (Addr × Obj)} {n : Nat} {E : Value → Shared → Prop}
theorem itProfA {pf : Addr} {pdx lv : Addr} {o : Obj} {l : List (Str × Value)} {vvs : List Value} {ev : Nat} (C : Cx w A env h₀ (n + 7)) (D : Led h₀ env.locals m h news) (i1 : (pf, instObj 695 pdx) ∈ news) (i2 : (pdx, o) ∈ news) (F : Flds o l) (hl : (("_voters" : Str), Value.ref lv) ∈ l) (hv : (lv, lstO vvs ev) ∈ news) {Q : Value → Shared → Prop}
    (hq : ∀ I oI h' t' Ct P, ItG w I Ct vvs.length (fun i v => vvs[i]? = some v) P → P 0 oI → (∀ h : Heap, h.get? lv = some (lstO vvs ev) → Ct h) → Led h₀ env.locals m h' ((I, oI) :: news) → Q (.ref I) ⟨h', g, d, t', os⟩) : wpAny (model PG w) A (pyIter (.ref pf)) Q E ⟨h, g, d, t, os⟩ := by
  refine owit_iter (s := ⟨h, g, d, t, os⟩) D.fr C.X (InstAt.of_news D.nw i1 i2) (profFacts w).1 (profFacts w).2 ?_
  refine (profIter w pf pdx lv o l vvs ev).t.use C D (by omega) ⟨i1, i2, F, hl, hv⟩ ?_
  rintro _ _ h' t' D' ⟨I, rfl, rfl⟩
  have hI := (D'.nw _ (.head _)).1
  have hne : lv ≠ I := fun q => by
    have h1 := (D'.nw _ (.tail _ hv)).1
    rw [q, hI] at h1
    injection h1 with h1
    have := congrArg Obj.cls h1
    simp [liO, lstO] at this
  refine wpAny_specialOf (r := some (.builtin "list_iterator.__next__")) ⟨_, hI, rfl⟩ slot_listiter_next.lookup ?_
  exact hq I _ h' t' _ _ (ItG.list w I lv hne vvs) ⟨rfl, rfl⟩ (fun h hh => ⟨_, hh, rfl, _, rfl⟩) D'
end
theorem intsRep (t : Tok) : ∀ k, IntsAre (List.replicate k (.int 0 t)) (List.replicate k 0)
  | 0 => .nil
  | k + 1 => .cons 0 t (intsRep t k)
theorem mapSet (f : Nat → Int) (n u : Nat) (x : Int) : ((List.range n).map f).set u x = (List.range n).map (fun v => if v = u then x else f v) := by
  refine List.ext_getElem (by simp) fun i h1 h2 => ?_
  rw [List.getElem_set]
  simp only [List.getElem_map, List.getElem_range]
  by_cases q : u = i
  · subst q; simp
  · rw [if_neg q, if_neg (fun e => q e.symm)]
theorem intsRange {ys : List Value} {n u : Nat} {f : Nat → Int} (h : IntsAre ys ((List.range n).map f)) (hu : u < n) : ys.length = n ∧ ∃ t, ys[u]? = some (.int (f u) t) := by
  have hl : ys.length = n := by rw [h.length]; simp
  refine ⟨hl, ?_⟩
  have hul : u < ys.length := by omega
  obtain ⟨t, e⟩ := intsAt (j := f u) h (List.getElem?_eq_getElem hul) (by rw [List.getElem?_map, List.getElem?_range hu]; rfl)
  exact ⟨t, by rw [List.getElem?_eq_getElem hul, e]⟩
theorem Br.join {M : Model} {A : Around} {b : Bool} {B1 B2 : List Stmt} {env : Env} {S : Flow → Shared → Prop} {E : Value → Shared → Prop} {s : Shared} (P : Shared → Prop) (hs : ∀ s, P s → S .next s) (h1 : b = true → wpAny M A (execs B1 env) (fun f s => f = .next ∧ P s) E s) (h2 : b = false → wpAny M A (execs B2 env) (fun f s => f = .next ∧ P s) E s) :
    Br b (wpAny M A (execs B1 env) S E s) (wpAny M A (execs B2 env) S E s) :=
  Br.sp (fun hb => wpAny_mono (h1 hb) (fun f s q => by obtain ⟨rfl, q⟩ := q; exact hs s q) fun _ _ e => e) (fun hb => wpAny_mono (h2 hb) (fun f s q => by obtain ⟨rfl, q⟩ := q; exact hs s q) fun _ _ e => e)
theorem sortN {ws : List Value} {l : List Nat} {js : List Int} (hw : IntsN ws l) (hn : l.Nodup) (hp : js.Perm (l.map fun u : Nat => (u : Int))) (hs : js.Pairwise (· ≤ ·)) : js = ((List.range 4).filter fun u => decide (u ∈ l)).map fun u : Nat => (u : Int) := by
  have hT : ((List.range 4).filter fun u => decide (u ∈ l)).Pairwise (· < ·) := List.Pairwise.filter _ List.pairwise_lt_range
  have hlT : l.Perm ((List.range 4).filter fun u => decide (u ∈ l)) := (List.perm_ext_iff_of_nodup hn (hT.imp fun h => Nat.ne_of_lt h)).mpr fun u => by
    rw [List.mem_filter, List.mem_range, decide_eq_true_eq]
    exact ⟨fun h => ⟨hw.lt u h, h⟩, fun h => h.2⟩
  refine List.Perm.eq_of_pairwise (le := (· ≤ ·)) (fun a b _ _ h1 h2 => Int.le_antisymm h1 h2) hs ?_ (hp.trans (hlT.map _))
  rw [List.pairwise_map]
  exact hT.imp fun h => by omega
abbrev sepNs : List Str := ["rule_id", "profile", "committeesize", "resolute", "max_num_of_committees", "voter", "cand", "possible_cands", "missing", "committees", "selection", "detailed_info"]
theorem oIsN {M : Model} {A : Around} {E : Value → Shared → Prop} {s : Shared} {Q : Value → Shared → Prop} (h : Q (.bool true) s) : wpAny M A (compareOp .Is .none .none) Q E s := wpAny_is_plain rfl h
theorem pickG {pvs : List Value} {P : List Nat} (h : IntsN pvs P) {is : List Nat} (hlt : ∀ u ∈ is, u < pvs.length) : IntsN (pickV pvs is) (is.map fun i => P.getD i 0) := by
  refine ⟨by simp [pickV], fun i v hi => ?_⟩
  unfold pickV at hi
  rw [List.getElem?_map] at hi
  obtain ⟨u, hu, rfl⟩ := Option.map_eq_some_iff.mp hi
  have hl := hlt u (List.mem_of_getElem? hu)
  obtain ⟨t, u', e1, e2, e3⟩ := h.2 u pvs[u] (List.getElem?_eq_getElem hl)
  refine ⟨t, u', ?_, e2, by rw [List.getElem?_eq_getElem hl]; exact e3⟩
  rw [List.getElem?_map, hu]
  show some (P.getD u 0) = some u'
  rw [List.getD_eq_getElem?_getD, e1]; rfl
/-- a dict display is made, and not looked at again -/
theorem ledDict {h₀ h h' : Heap} {L : Addr} {m : Str → Option Value} {news : List (Addr × Obj)} {o : Obj} (D : Led h₀ L m h news) (hs : Heap.SameBut h.objs.size (h.push o) h') : Led h₀ L m h' news := by
  have hL : L < h.objs.size := by obtain ⟨oL, es, ep, hL, r⟩ := D.fr.ns; exact Heap.lt_size hL
  refine ledBut (led_keeps D fun b o' e => Heap.get?_push_of_some _ e) hs (Nat.ne_of_gt hL) ?_ fun p hp => Nat.ne_of_lt (Heap.lt_size (D.nw p hp).1)
  cases q : h₀.get? h.objs.size with
  | none => rfl
  | some o' => exact absurd (Heap.lt_size (D.fr.keep _ _ q)) (Nat.lt_irrefl _)
/-- _separable_rule_algorithm -/
theorem sepT (gk : Nat) (g0 : Array GenState) (w : World) (ts tc : Tok) (pf : Addr) (size seats : Nat) (el : List (List Nat × Int)) (hsz : size ∈ [3, 4]) (hse : seats ∈ [1, 2]) (hlt : ∀ e ∈ el, ∀ u ∈ e.1, u < size) :
    YSpecG gk g0 w (call (.ref 551) [] [("rule_id", .str "av" ts), ("profile", .ref pf), ("committeesize", .int (seats : Int) tc), ("resolute", .bool false), ("max_num_of_committees", .none)]) 70 (fun dyn => ProfIn w dyn pf size el)
      (fun dyn res tl => ∃ q cv dd, res = .ref q ∧ (q, tupO [cv, dd]) ∈ tl ∧ ComsIn w (tl ++ dyn) cv (tops (coms size seats) (fun c => sc .av c el))) := by
  rintro A env base h₀ fs m dyn T h g d t os Q E C Kk G hT D hP hret
  k_dflt (refine' wpAny_call (enterLY (n := 69) [("rule_id", .str "av" ts), ("profile", .ref pf), ("committeesize", .int (seats : Int) tc), ("resolute", .bool false), ("max_num_of_committees", .none)] [("rule_id", .str "av" ts), ("profile", .ref pf), ("committeesize", .int (seats : Int) tc), ("resolute", .bool false), ("max_num_of_committees", .none)] ["voter", "cand", "possible_cands", "missing", "committees", "selection", "detailed_info"] ["len", "UnknownRuleIDError", "sorted", "sorted_committees", "combinations", "list"] ?C Kk ?D ?o ?c ?b ?kd ?nd ?lb ?fl ?g ?k ?_))
  (case C => assumption); (case D => assumption); (case o => k_is); (case c => k_is); (case b => (intro hK; first | exact BindsTo.of_eq rfl | exact binds_K hK rfl (by k_is) rfl rfl rfl | fail "ENT: no rule for these arguments"))
  (case kd => rfl); (case nd => decide +kernel); (case lb => rfl); (case fl => kernel_rfl!); (case g => rfl); (case k => rfl)
  intro A' L' env' gb h₁ t' Q' cells fs' C' K' he hlt' Y fl D' hQ
  dsimp only [List.map, List.append_nil, List.cons_append, List.nil_append] at fl D'
  have Y' : CellsAre _ [(Str.ofString "certain_cands", L' + 1 + 1 + 1), (Str.ofString "cutoff", L' + 1 + 1), (Str.ofString "score", L' + 1)] cells := Y
  clear Y
  obtain ⟨o3, o2, o1, rfl, ho3, ho2, ho1⟩ : ∃ o3 o2 o1 : Obj, cells = [(L' + 1 + 1 + 1, o3), (L' + 1 + 1, o2), (L' + 1, o1)] ∧ o3.data = .cell none ∧ o2.data = .cell none ∧ o1.data = .cell none := by
    cases Y' with | cons a1 r => cases r with | cons a2 r => cases r with | cons a3 r => cases r with | nil => exact ⟨_, _, _, rfl, a1, a2, a3⟩
  clear Y'
  dsimp only [List.cons_append, List.nil_append] at D'
  have hc1 : CellAt env' "score" (L' + 1) := by rw [he]; exact ⟨rfl, rfl⟩
  have hc2 : CellAt env' "cutoff" (L' + 1 + 1) := by rw [he]; exact ⟨rfl, rfl⟩
  have hc3 : CellAt env' "certain_cands" (L' + 1 + 1 + 1) := by rw [he]; exact ⟨rfl, rfl⟩
  obtain ⟨cf1, cf2, cf3, cf4, cf5⟩ := coms_facts size hsz seats hse
  have hP0 := hP
  obtain ⟨pdx, ob, lv, lc, lnm, vvs, ev, cvs, ec, i1, i2, F, m1, m2, hcv, hlen, hvot⟩ := hP0
  have hl : size = cvs.length := by rw [hcv.1, List.length_range]
  subst hl
  have h4 : cvs.length ≤ 4 := by simp at hsz; omega
  have h3 : 3 ≤ cvs.length := by simp at hsz; omega
  have hs2 : seats ≤ 2 := by simp at hse; omega
  have hs1 : 1 ≤ seats := by simp at hse; omega
  obtain ⟨POST, hPOST⟩ : ∃ POST, POST = dyn ++ T.l := ⟨_, rfl⟩
  have k0 : ∀ p ∈ dyn, p ∈ POST := fun p hp => by rw [hPOST]; exact List.mem_append_left _ hp
  have k1 := k0 _ i1
  have k2 := k0 _ i2
  have k3 := k0 _ m2
  rw [← hPOST] at D'
  kcf_all
  rename_i tk1 t1 a0 h2 D2
  refine rNumCand (n := 65) C' fl D2 (by kaf_pre) (by kat_tups) (by kat_tups) F (by kat_tups) (by kat_tups) (by omega) fun tk3 hh3 t3 D3 => ?_
  clear D2 D'
  kcf_all
  refine rMulL D3 (by kat_tups) (by omega) (by omega) fun ls h4' D4 => ?_
  clear D3
  refine rCellSto C'.kind D4 hc1.1 hc1.2 (by kas_types) ho1 fun h5 o1' ho1' D5 => ?_
  clear D4
  kcf_all
  have k4 := k0 _ m1
  refine rForIt (h₀ := gb) (d := d) (os := os) (fun _ => by rfl) (rLoc C' fl D5 (by kaf_pre) ?_)
  refine itProfA (n := 62) C' D5 (by kat_tups) (by kat_tups) F (by kat_tups) (by kat_tups) fun I oI h6 t6 Ct P It hP0 hct D6 => ?_
  clear D5
  refine ⟨I, oI, _, _, _, (fun i v pre post g1 => g1 = g ∧ pre = [] ∧ ∃ (ys : List Value) (e : Nat) (c5 c6 : Option Value), v = [some (.str "av" ts), some (.ref pf), some (.int (seats : Int) tc), some (.bool false), some .none, c5, c6, none, none, none, none, none] ∧
    post = (ls, lstO ys e) :: (a0, lstO [Value.int 0 tk1] 0) :: (L' + 1 + 1 + 1, o3) :: (L' + 1 + 1, o2) :: (L' + 1, o1') :: POST ∧ IntsAre ys ((List.range cvs.length).map (avs (el.take i)))), _, _, _, Ct, _, _, P, rfl, rfl, C'.hand, It, hP0, .inl ⟨_, _, rfl⟩, D6, ⟨rfl, rfl, _, _, _, _, rfl, rfl, ?_⟩, ?_, ?_, ?_⟩
  · rw [Int.toNat_natCast]
    have : (List.range cvs.length).map (avs (el.take 0)) = List.replicate cvs.length 0 := by
      rw [List.take_zero]
      show (List.range cvs.length).map (fun _ => (0 : Int)) = _
      rw [List.map_const', List.length_range]
    rw [this]
    exact intsRep _ _
  · rintro i v pre post g1 hh ⟨rfl, rfl, ys, e, c5, c6, rfl, rfl, _⟩ hhh
    exact hct hh (hhh _ (.tail _ (.tail _ (.tail _ (.tail _ (.tail _ k4))))))
  · rintro i vsx pre post oI' g1 h7 t7 v hlt2 hV ⟨rfl, rfl, ys, e, c5, c6, rfl, rfl, hI⟩ D7 hPi
    rw [List.nil_append] at D7
    refine wpAny_assign_Name (rSto C' fl D7 (by kaf_suf) fun h8 t8 D8 => ?_)
    clear D7 D6
    have hie : i < el.length := by rw [← hlen]; exact hlt2
    obtain ⟨vo, vdx, vob, cs, dd, x, ep, tw, rfl, j1, j2, F2, j3, hx⟩ := hvot i v el[i] hV (List.getElem?_eq_getElem hie)
    have q1 := k0 _ j1
    have q2 := k0 _ j2
    have q3 := k0 _ j3
    obtain ⟨nsl, hns, hnd, hme⟩ := ordN w cs x ep
    have hme2 : ∀ u, u ∈ nsl ↔ u ∈ el[i].1 := fun u => (hme u).trans (hx.memI u)
    kcf_all
    refine rFor4 (d := d) (os := os) C' (fun _ => by rfl) ?_
    kcf_all
    rename_i tA
    refine ⟨cs, setO w (.ref 75) dd x ep, ordW w cs x ep, _, _, _, (fun j v pre' post' g2 => g2 = g1 ∧ pre' = [] ∧ ∃ (ys' : List Value) (e' : Nat) (c6' : Option Value), v = [some (.str "av" ts), some (.ref pf), some (.int (seats : Int) tc), some (.bool false), some .none, some (.ref vo), c6', none, none, none, none, none] ∧
      post' = (I, oI') :: (ls, lstO ys' e') :: (a0, lstO [Value.int 0 tk1] 0) :: (L' + 1 + 1 + 1, o3) :: (L' + 1 + 1, o2) :: (L' + 1, o1') :: POST ∧ IntsAre ys' ((List.range cvs.length).map fun u => avs (el.take i) u + if u ∈ nsl.take j then el[i].2 else 0)), _, _, _, rfl, rfl, .cs rfl rfl, by kat_tups, D8, ⟨rfl, rfl, _, _, _, rfl, rfl, by simpa using hI⟩, ?_, ?_, ?_⟩
    · rintro j v pre' post' g2 ⟨rfl, rfl, ys', e', c6', rfl, rfl, _⟩
      exact .tail _ (.tail _ (.tail _ (.tail _ (.tail _ (.tail _ q3)))))
    · rintro I2 P2 j hj vs2 pre' post' oI2 g2 h9 t9 ⟨rfl, rfl, ys', e', c6', rfl, rfl, hI2⟩ D9 hP2
      obtain ⟨tku, u, hu1, hu2, hu3⟩ := hns.2 j _ (List.getElem?_eq_getElem hj)
      rw [hu3]
      rw [List.nil_append] at D9
      refine wpAny_assign_Name (rSto C' fl D9 (by kaf_suf) fun h10 t10 D10 => ?_)
      clear D9 D8
      have hun : u < cvs.length := hlt _ (List.getElem_mem hie) u ((hme2 u).mp (List.mem_of_getElem? hu1))
      obtain ⟨hyl, tkv, hyu⟩ := intsRange hI2 hun
      kcf_all
      refine wpAny_AugAssign_SubscriptAny ?_
      kcf_all
      refine rGetI (by assumption) (by kat_tups) (by omega) (by omega) (by rw [Int.toNat_natCast]; exact hyu) ?_
      kcf_all
      refine rSetI (by assumption) (by kas_types) hI2 (by omega) (by simp; omega) (by omega) fun h11 t11 D11 => ?_
      kcf_all
      refine FEnd.mk [] _ D11 hP2 ⟨rfl, rfl, _, _, _, rfl, rfl, ?_⟩
      have htk : nsl.take (j + 1) = nsl.take j ++ [u] := by rw [List.take_add_one, hu1]; rfl
      have hnot : u ∉ nsl.take j := fun hm => by
        have h1 : (nsl.take (j + 1)).Nodup := hnd.sublist (List.take_sublist _ _)
        rw [htk, List.nodup_append] at h1
        exact h1.2.2 u hm u (by simp) rfl
      have hset : ((List.range cvs.length).map fun v => avs (el.take i) v + if v ∈ nsl.take (j + 1) then el[i].2 else 0) = ((List.range cvs.length).map fun v => avs (el.take i) v + if v ∈ nsl.take j then el[i].2 else 0).set ((u : Int)).toNat (avs (el.take i) u + (if u ∈ nsl.take j then el[i].2 else 0) + el[i].2) := by
        rw [Int.toNat_natCast, mapSet]
        refine List.map_congr_left fun v _ => ?_
        by_cases q : v = u
        · subst q
          rw [if_pos rfl, htk, if_pos (by simp), if_neg hnot]; omega
        · rw [if_neg q, htk]
          simp [q]
      rw [hset]
      exact ints_set hI2 _
    · rintro vs2 pre' post' g2 h9 t9 ⟨rfl, rfl, ys', e', c6', rfl, rfl, hI2⟩ D9
      rw [List.nil_append] at D9
      kcf_all
      refine FEnd.mk [] _ D9 hPi ⟨rfl, rfl, ys', e', _, _, rfl, rfl, ?_⟩
      have hfull : nsl.take (ordW w cs x ep).length = nsl := by rw [hns.1]; exact List.take_length
      rw [hfull] at hI2
      have : (List.range cvs.length).map (avs (el.take (i + 1))) = (List.range cvs.length).map fun u => avs (el.take i) u + if u ∈ nsl then el[i].2 else 0 := by
        refine List.map_congr_left fun u _ => ?_
        rw [List.take_succ_eq_append_getElem hie, avs_snoc]
        simp only [hme2]
      rw [this]; exact hI2
  · rintro vsx pre post g1 h7 t7 ⟨rfl, rfl, ys, e, c5, c6, rfl, rfl, hI⟩ D7
    rw [List.nil_append] at D7
    rw [show vvs.length = el.length from hlen, List.take_length] at hI
    have hyl : ys.length = cvs.length := by rw [hI.length]; simp
    kcf_all
    refine Subscript_ ?_
    kcf_all
    refine rSortI D7 (.head _) hI (by omega) fun b h8 zs js e' D8 hjs hperm hsort => ?_
    clear D7
    have hjl : js.length = cvs.length := by rw [hperm.length_eq]; simp
    have hzl : zs.length = cvs.length := by rw [hjs.length, hjl]
    obtain ⟨cut, hcut⟩ : ∃ cut, js[cvs.length - seats]? = some cut := ⟨_, List.getElem?_eq_getElem (by omega)⟩
    obtain ⟨tkc, htkc⟩ := intsAt hjs (List.getElem?_eq_getElem (show cvs.length - seats < zs.length by omega)) hcut
    obtain ⟨hcA, hcB⟩ := cutAt hperm hsort hs1 cf5 hcut
    kcf_all
    refine rItemN D8 (.head _) (by omega) (by omega) (by omega) (v := .int cut tkc) (by
      rw [hzl, show (-(seats : Int) + (cvs.length : Int)).toNat = cvs.length - seats by omega, List.getElem?_eq_getElem (show cvs.length - seats < zs.length by omega), htkc]) (by rfl) ?_
    kcf_all
    refine rCellSto C'.kind D8 hc2.1 hc2.2 (by kas_types) ho2 fun h9 o2' ho2' D9 => ?_
    clear D8
    kcf_all
    have hk4 : ∀ k, k < cvs.length → k < 4 := fun k hk => by omega
    refine wpAny_Assign_Name ?_ (by rw [he]; with_unfolding_all rfl)
    refine rCompD ["cand"] [] [("score", L' + 1), ("cutoff", L' + 1 + 1)] C' D9 (fun _ => by rfl) (by rw [he]; rfl) (by rfl) rfl (by rfl) (by rw [he]; kernel_rfl!) ?_
    kcf_all
    rename_i t10
    refine itListA D9 (ys := cvs) (e := ec) (by kat_tups) fun I2 oI2 h10 Ct2 P2 It2 hP20 _ hct2 D10 => ?_
    refine compIt (fun k ys pre => pre = [] ∧ IntsN ys ((List.range k).filter fun u => decide (avs el u > cut)) ∧ ys.length ≤ k) C'.hand It2 hP20 (fun h hh => hct2 h (hh (lc, lstO cvs ec) (by kat_tups))) D10 (.inl ⟨_, _, rfl⟩) (by omega) ⟨rfl, ⟨rfl, fun j v h => by cases h⟩, Nat.le_refl _⟩ (fun k ys pre q => q.2.2) ?_ ?_
    · rintro gB C2 D2 env2 k ys2 vs2 pre2 e3 oI3 h11 t11 v hk hv he2 _ _ Cc flc ⟨rfl, hys, hyl2⟩ hP3 D11
      clear D10 D9
      obtain ⟨tv, u, hu1, hu2, rfl⟩ := hcv.2 k v hv
      rw [List.getElem?_range hk] at hu1
      cases hu1
      obtain ⟨c1, ec1⟩ := vec1 "cand" vs2
      rw [ec1] at D11
      refine wpAny_assign_Name (rSto Cc flc D11 (by kaf_suf) fun h12 t12 D12 => ?_)
      clear D11
      dsimp only [List.nil_append] at D12
      have hl1 : CellAt env2 "score" (L' + 1) := by rw [he2, he]; exact ⟨rfl, rfl⟩
      have hl2 : CellAt env2 "cutoff" (L' + 1 + 1) := by rw [he2, he]; exact ⟨rfl, rfl⟩
      obtain ⟨_, tkv, hyv⟩ := intsRange hI hk
      refine wpAny_tests_one ?_
      kcf_all
      refine Subscript_ ?_
      kcf_all
      refine rItem D12 (ys := ys) (e := e) (by kat_tups) (by omega) (by omega) (by rw [Int.toNat_natCast]; exact hyv) (by rfl) ?_
      kcf_all
      refine Br.sp (fun hc => ?_) (fun hc => ?_)
      · kcf_all
        refine CIt.mk [] D12 hP3 ⟨rfl, ?_, by rw [List.length_append]; simp; omega⟩
        rw [List.range_succ, List.filter_append, List.filter_cons_of_pos (by simpa using hc), List.filter_nil]
        exact hys.snoc tv hu2
      · refine CIt.mk [] D12 hP3 ⟨rfl, ?_, by omega⟩
        rw [List.range_succ, List.filter_append, List.filter_cons_of_neg (by simpa using hc), List.filter_nil, List.append_nil]
        exact hys
    · rintro lcc ccv ecc pre2 h11 t11 _ ⟨rfl, hccv, hccl⟩ D11
      clear D10 D9
      dsimp only [List.nil_append] at D11
      refine rCellSto C'.kind D11 hc3.1 hc3.2 (by kas_types) ho3 fun h12 o3' ho3' D12 => ?_
      clear D11
      kcf_all
      refine rCompAD ["cand"] [] [("score", L' + 1), ("cutoff", L' + 1 + 1)] C' fl D12 (by rw [he]; with_unfolding_all rfl) (by kat_tups) (fun _ => by rfl) (by rw [he]; rfl) (by rfl) rfl (by rfl) (by rw [he]; kernel_rfl!) ?_
      kcf_all
      rename_i t13
      refine itListA D12 (ys := cvs) (e := ec) (by kat_tups) fun I3 oI3 h13 Ct3 P3 It3 hP30 _ hct3 D13 => ?_
      refine compIt (fun k ys pre => pre = [] ∧ IntsN ys ((List.range k).filter fun u => decide (avs el u = cut)) ∧ ys.length ≤ k) C'.hand It3 hP30 (fun h hh => hct3 h (hh (lc, lstO cvs ec) (by kat_tups))) D13 (.inl ⟨_, _, rfl⟩) (by omega) ⟨rfl, ⟨rfl, fun j v h => by cases h⟩, Nat.le_refl _⟩ (fun k ys pre q => q.2.2) ?_ ?_
      · rintro gB C2 D2 env2 k ys2 vs2 pre2 e3 oI3 h14 t14 v hk hv he2 _ _ Cc flc ⟨rfl, hys, hyl2⟩ hP3 D14
        clear D13 D12
        obtain ⟨tv, u, hu1, hu2, rfl⟩ := hcv.2 k v hv
        rw [List.getElem?_range hk] at hu1
        cases hu1
        obtain ⟨c1, ec1⟩ := vec1 "cand" vs2
        rw [ec1] at D14
        refine wpAny_assign_Name (rSto Cc flc D14 (by kaf_suf) fun h15 t15 D15 => ?_)
        clear D14
        dsimp only [List.nil_append] at D15
        have hl1 : CellAt env2 "score" (L' + 1) := by rw [he2, he]; exact ⟨rfl, rfl⟩
        have hl2 : CellAt env2 "cutoff" (L' + 1 + 1) := by rw [he2, he]; exact ⟨rfl, rfl⟩
        obtain ⟨_, tkv, hyv⟩ := intsRange hI hk
        refine wpAny_tests_one ?_
        kcf_all
        refine Subscript_ ?_
        kcf_all
        refine rItem D15 (ys := ys) (e := e) (by kat_tups) (by omega) (by omega) (by rw [Int.toNat_natCast]; exact hyv) (by rfl) ?_
        kcf_all
        refine Br.sp (fun hc => ?_) (fun hc => ?_)
        · kcf_all
          refine CIt.mk [] D15 hP3 ⟨rfl, ?_, by rw [List.length_append]; simp; omega⟩
          rw [List.range_succ, List.filter_append, List.filter_cons_of_pos (by simpa using hc), List.filter_nil]
          exact hys.snoc tv hu2
        · refine CIt.mk [] D15 hP3 ⟨rfl, ?_, by omega⟩
          rw [List.range_succ, List.filter_append, List.filter_cons_of_neg (by simpa using hc), List.filter_nil, List.append_nil]
          exact hys
      · rintro lpc pcv epc pre3 h14 t14 _ ⟨rfl, hpcv, hpcl⟩ D14 _
        clear D13 D12
        dsimp only [List.nil_append] at D14
        refine ⟨_, by kaf_suf, fun h15 t15 D15 => ?_⟩
        clear D14
        dsimp only [List.nil_append] at D15
        kcf_all
        refine rLenS C' D15 (oa := lstO ccv ecc) (by kat_tups) (.list rfl rfl) (by omega) fun tkl tl => ?_
        kcf_all
        rename_i tk16 t16 h16 t17 D16
        clear D15
        obtain ⟨cC, hcC⟩ : ∃ c, c = (List.range cvs.length).filter fun u => decide (avs el u > cut) := ⟨_, rfl⟩
        obtain ⟨pP, hpP⟩ : ∃ c, c = (List.range cvs.length).filter fun u => decide (avs el u = cut) := ⟨_, rfl⟩
        rw [← hcC] at hccv
        rw [← hpP] at hpcv
        have hcl : cC.length < seats := by rw [hcC]; exact hcA
        have hmis : ((seats : Int) - (ccv.length : Int)) = ((seats - cC.length : Nat) : Int) := by rw [hccv.1]; omega
        rw [hmis] at D16
        refine rLenS C' D16 (oa := lstO pcv epc) (by kat_tups) (.list rfl rfl) (by omega) fun tkl2 tl2 => ?_
        kcf_all
        refine Br.join (fun s => ∃ (h' : Heap) (g' : Array GenState) (t' : Nat) (X : List (Addr × Obj)) (lcc' : Addr) (ccv' : List Value) (ecc' : Nat) (lpc' : Addr) (pcv' : List Value) (epc' mi : Nat) (tkm : Tok) (o3'' : Obj) (c5' c6' : Option Value), s = ⟨h', g', d, t', os⟩ ∧ GB gk g0 g' ∧
          Led gb env'.locals (vec sepNs [some (.str "av" ts), some (.ref pf), some (.int (seats : Int) tc), some (.bool false), some .none, c5', c6', some (.ref lpc'), some (.int (mi : Int) tkm), none, none, none]) h' (X ++ (L' + 1 + 1 + 1, o3'') :: (L' + 1 + 1, o2') :: (L' + 1, o1') :: POST) ∧
          (lcc', lstO ccv' ecc') ∈ X ∧ (lpc', lstO pcv' epc') ∈ X ∧ (ls, lstO ys e) ∈ X ∧ o3''.data = .cell (some (.ref lcc')) ∧ IntsN ccv' (sepCert cC pP seats) ∧ IntsN pcv' (sepPoss cC pP seats) ∧ mi = sepMiss cC pP seats) ?_ ?_ ?_
        · rintro s ⟨h', g', t', X, lcc', ccv', ecc', lpc', pcv', epc', mi, tkm, o3'', c5', c6', rfl, G', D17, x1, x2, x3, ho3'', hA, hB, hmi⟩
          clear D16 D ho3 ho3'
          have hcl' : cC.length < seats := hcl
          obtain ⟨s1, s2, s3, s4⟩ := sepLaw (s := avs el) (f := fun c => (c.map (avs el)).sum) (fun _ => rfl) hsz hse hcA hcB hcC hpP
          rw [← tops_six (f := fun c => sc .av c el) (fun c => sc_av el c)] at s1 s2
          rw [← hmi] at s3 s4
          rw [← hB.1] at s4
          have hpl : pcv'.length ≤ 4 := by
            rw [hB.1]
            have : pP.length ≤ 4 := by
              rw [hpP]
              exact Nat.le_trans (List.length_filter_le _ _) (by rw [List.length_range]; omega)
            unfold sepPoss
            split
            · simp
            · exact this
          kcf_all
          refine oIsN ?_
          kcf_all
          obtain ⟨NW, hNW⟩ : ∃ NW, NW = X ++ (L' + 1 + 1 + 1, o3'') :: (L' + 1 + 1, o2') :: (L' + 1, o1') :: POST := ⟨_, rfl⟩
          have w1 : (lpc', lstO pcv' epc') ∈ NW := by rw [hNW]; exact List.mem_append_left _ x2
          have w2 : (lcc', lstO ccv' ecc') ∈ NW := by rw [hNW]; exact List.mem_append_left _ x1
          have w3 : (L' + 1 + 1 + 1, o3'') ∈ NW := by rw [hNW]; exact List.mem_append_right _ (.head _)
          have w4 : (L' + 1 + 1, o2') ∈ NW := by rw [hNW]; exact List.mem_append_right _ (.tail _ (.head _))
          have w5 : (L' + 1, o1') ∈ NW := by rw [hNW]; exact List.mem_append_right _ (.tail _ (.tail _ (.head _)))
          rw [← hNW] at D17
          have hcl2 : ccv'.length ≤ 8 := by
            rw [hA.1]
            unfold sepCert
            split
            · exact Nat.le_trans (List.length_filter_le _ _) (by rw [List.length_range]; omega)
            · omega
          refine rCompComb (d := d) (os := os) ["selection"] ["list"] [("certain_cands", L' + 1 + 1 + 1)] C' (by decide) K' D17 (fun _ => by rfl) (by rw [he]; rfl) (by rfl) rfl (by rfl) (by rw [he]; kernel_rfl!) ?_
          kcf_all
          refine (combMake w lpc' pcv' epc' mi tkm s4 hpl s3).t.use C' D17 (by decide) w1 ?_
          rintro _ _ h18 t18 D18 ⟨a, rg, p, c, dx, cob, iv, e5, tr, rfl, rfl, hiv⟩
          clear D17
          refine ⟨a, rg, p, c, dx, cob, pcv', iv, e5, mi, tr, NW, (fun i ys2 pre g1 => g1 = g' ∧ ys2.length = i ∧ ∀ (j : Nat) (v : Value) (l : List Nat), ys2[j]? = some v → (sepList (sepCert cC pP seats) (sepPoss cC pP seats) (sepMiss cC pP seats))[j]? = some l → ∃ la lv le, v = .ref la ∧ (la, lstO lv le) ∈ pre ∧ IntsN lv l), _, _, _, rfl, rfl, hpl, s3, s4, hiv, D18, ⟨rfl, rfl, fun j v l h => by cases h⟩, (fun i ys pre g q => Nat.le_of_eq q.2.1), ?_, ?_⟩
          · rintro gB C2 D2 env2 i is ys2 vs2 pre2 cb e3 h19 g19 t19 q l o hat he2 Cc flc ⟨rfl, hyl2, hall⟩ hcb D19
            clear D18
            obtain ⟨c1, ec1⟩ := vec1 "selection" vs2
            rw [ec1] at D19
            refine wpAny_assign_Name (rSto Cc flc D19 (by kaf_suf) fun h20 t20 D20 => ?_)
            clear D19
            have hl3 : CellAt env2 "certain_cands" (L' + 1 + 1 + 1) := by rw [he2, he]; exact ⟨rfl, rfl⟩
            have hisl := (coms_at hpl s3 s4 hat).2.1.lt
            have hisl2 := (coms_at hpl s3 s4 hat).2.1.len
            have hpk := pickG hB (is := is) fun u hu => by
              obtain ⟨k, hk⟩ := List.getElem?_of_mem hu
              exact hisl k u hk
            have hup : ∀ p ∈ NW, p ∈ (q, tupO (pickV pcv' is)) :: (l, o) :: (pre2 ++ (D2, lstO ys2 e3) :: (cb ++ NW)) := fun p hp => .tail _ (.tail _ (List.mem_append_right _ (.tail _ (List.mem_append_right _ hp))))
            have u3 := hup _ w3
            have u2 := hup _ w2
            have uq : (q, tupO (pickV pcv' is)) ∈ (q, tupO (pickV pcv' is)) :: (l, o) :: (pre2 ++ (D2, lstO ys2 e3) :: (cb ++ NW)) := .head _
            obtain ⟨L2, hL2⟩ : ∃ L2, L2 = (q, tupO (pickV pcv' is)) :: (l, o) :: (pre2 ++ (D2, lstO ys2 e3) :: (cb ++ NW)) := ⟨_, rfl⟩
            rw [← hL2] at D20 u3 u2 uq
            have hpl2 : (pickV pcv' is).length ≤ 2 := by simp [pickV]; exact hisl2
            kcf_all
            refine rLstTup D20 uq (by omega) fun ll h21 e21 D21 => ?_
            kcf_all
            refine rAddL D21 (ys := ccv') (e := ecc') (zs := pickV pcv' is) (e2 := e21) (.tail _ u2) (.head _) (by omega) fun la h22 D22 => ?_
            subst hL2
            refine ⟨h22, _, _, _, (la, lstO (ccv' ++ pickV pcv' is) 0) :: (ll, lstO (pickV pcv' is) e21) :: (q, tupO (pickV pcv' is)) :: (l, o) :: pre2, cb, rfl, D22, hcb, rfl, by simp [hyl2], ?_⟩
            intro j v lj hv hlj
            by_cases hj : j < ys2.length
            · rw [List.getElem?_append_left hj] at hv
              obtain ⟨la', lv, le, z1, z2, z3⟩ := hall j v lj hv hlj
              exact ⟨la', lv, le, z1, .tail _ (.tail _ (.tail _ (.tail _ z2))), z3⟩
            · have hl := (List.getElem?_eq_some_iff.mp hv).1
              simp at hl
              obtain rfl : j = i := by omega
              rw [List.getElem?_append_right (by omega), hyl2] at hv
              simp at hv
              subst hv
              unfold sepList at hlj
              rw [List.getElem?_map, ← hmi, ← hB.1, hat] at hlj
              simp at hlj
              subst hlj
              exact ⟨la, _, 0, rfl, .head _, by simpa using hA.app hpk⟩
          · rintro D2 ys2 e3 pre2 cb h19 g19 t19 h₂ ⟨rfl, hyl2, hall⟩ T2 D19
            clear D18
            have C2 := K'.cx C' T2
            clear C' hP
            have hyt : ys2.length = (tops (coms cvs.length seats) (fun c => sc .av c el)).length := by
              rw [← s1, hyl2]
              unfold sepList
              rw [List.length_map, ← hmi, hB.1]
            have hsub := tops_sub (coms cvs.length seats) (fun c => sc .av c el)
            have hbl := hsub.length_le
            subst hPOST
            obtain ⟨DY, hDY⟩ : ∃ DY, DY = (pre2 ++ (D2, lstO ys2 e3) :: (cb ++ (X ++ [(L' + 1 + 1 + 1, o3''), (L' + 1 + 1, o2'), (L' + 1, o1')]))) ++ dyn := ⟨_, rfl⟩
            have eDY : pre2 ++ (D2, lstO ys2 e3) :: (cb ++ NW) = DY ++ T.l := by rw [hDY, hNW]; simp only [List.append_assoc, List.cons_append, List.nil_append]
            have hup : ∀ p ∈ X ++ [(L' + 1 + 1 + 1, o3''), (L' + 1 + 1, o2'), (L' + 1, o1')], p ∈ DY := fun p hp => by rw [hDY]; exact List.mem_append_left _ (List.mem_append_right _ (.tail _ (List.mem_append_right _ hp)))
            have v3 : (L' + 1 + 1 + 1, o3'') ∈ DY := hup _ (List.mem_append_right _ (.head _))
            have v4 : (L' + 1 + 1, o2') ∈ DY := hup _ (List.mem_append_right _ (.tail _ (.head _)))
            have v5 : (L' + 1, o1') ∈ DY := hup _ (List.mem_append_right _ (.tail _ (.tail _ (.head _))))
            have vD : (D2, lstO ys2 e3) ∈ DY := by rw [hDY]; exact List.mem_append_left _ (List.mem_append_right _ (.head _))
            have vp : ∀ p ∈ pre2, p ∈ DY := fun p hp => by rw [hDY]; exact List.mem_append_left _ (List.mem_append_left _ hp)
            rw [eDY] at D19
            kcf_all
            refine (sortedComs gk g0 w D2 ys2 e3 (tops (coms cvs.length seats) (fun c => sc .av c el)) hyt (by omega) (fun c hc => ⟨(cf1 c (hsub.subset hc)).1, (cf1 c (hsub.subset hc)).2.1⟩) (tops_key hsz hse _)).use DY C2 (by decide) G' hT D19 ⟨vD, fun i v c hv hc => ?_⟩ ?_
            · obtain ⟨a', ha'⟩ : ∃ a', (sepList (sepCert cC pP seats) (sepPoss cC pP seats) (sepMiss cC pP seats))[i]? = some a' := ⟨_, List.getElem?_eq_getElem (by rw [s1]; exact (List.getElem?_eq_some_iff.mp hc).1)⟩
              obtain ⟨la, lv, le, rfl, z2, z3⟩ := hall i v a' hv ha'
              obtain ⟨n1, n2⟩ := s2 i a' c ha' hc
              exact ⟨la, _, lv, a', rfl, vp _ z2, .list rfl rfl, z3, n1, n2⟩
            rintro _ tl3 T3 g3 h20 t20 G3 hT3 D20 ⟨l2, ys3, e6, rfl, m3, hly, hcs⟩
            clear D19
            kcf_all
            rename_i h21 t21 D21
            clear D20
            have up2 : ∀ p ∈ DY, p ∈ tl3 ++ (DY ++ T3.l) := fun p hp => List.mem_append_right _ (List.mem_append_left _ hp)
            have y3 := up2 _ v3
            have y4 := up2 _ v4
            have y5 := up2 _ v5
            have D22 : Led h₂ env'.locals _ (h21.push { cls := .type "dict", data := .dict #[] }) _ := led_keeps D21 fun b o' e => Heap.get?_push_of_some _ e
            refine wpAny_Dict_walk (knd := strKind PG w) (by rfl) (by rfl) (by simp) (by decide) ?_
            refine pairTrees_cons_walk ?_
            refine rCS ?_
            intro tk31 t31
            refine rCellN C2 D22 hc3 y3 ho3'' (by decide) ?_
            refine pairTrees_cons_walk ?_
            refine rCS ?_
            intro tk32 t32
            refine rLoc C2 fl D22 (by kaf_pre) ?_
            refine pairTrees_cons_walk ?_
            refine rCS ?_
            intro tk33 t33
            refine rLoc C2 fl D22 (by kaf_pre) ?_
            refine pairTrees_cons_walk ?_
            refine rCS ?_
            intro tk34 t34
            refine rCellN C2 D22 hc2 y4 ho2' (by decide) ?_
            refine pairTrees_cons_walk ?_
            refine rCS ?_
            intro tk35 t35
            refine rCellN C2 D22 hc1 y5 ho1' (by decide) ?_
            refine pairTrees_nil_walk ?_
            refine display_done_str (by rfl) (by show (["certain_cands", "possible_cands", "missing", "cutoff", "score"] : List Str).Nodup; decide +kernel) (Heap.DictOf.new h21) fun h23 _ hs23 => ?_
            have D23 := ledDict D21 hs23
            clear D22 D21
            kcf_all
            rename_i h24 t24 D24 q12 h25 D25
            refine hQ _ _ _ _ _ _ h₂ T2 D25 fun h₂' T4 D26 => ?_
            have e26 : (q12, tupO [.ref l2, .ref h21.objs.size]) :: (tl3 ++ (DY ++ T3.l)) = ((q12, tupO [.ref l2, .ref h21.objs.size]) :: (tl3 ++ (pre2 ++ (D2, lstO ys2 e3) :: (cb ++ (X ++ [(L' + 1 + 1 + 1, o3''), (L' + 1 + 1, o2'), (L' + 1, o1')]))))) ++ (dyn ++ T3.l) := by rw [hDY]; simp only [List.append_assoc, List.cons_append, List.nil_append]
            rw [e26] at D26
            refine hret _ _ T3 g3 _ _ h₂' T4 G3 hT3 D26 ⟨q12, .ref l2, .ref h21.objs.size, rfl, .head _, ?_⟩
            have eup : ∀ p ∈ tl3 ++ DY, p ∈ ((q12, tupO [.ref l2, .ref h21.objs.size]) :: (tl3 ++ (pre2 ++ (D2, lstO ys2 e3) :: (cb ++ (X ++ [(L' + 1 + 1 + 1, o3''), (L' + 1 + 1, o2'), (L' + 1, o1')]))))) ++ dyn := fun p hp => by
              rw [hDY, ← List.append_assoc] at hp
              exact .tail _ hp
            exact ⟨l2, ys3, e6, rfl, eup _ (List.mem_append_left _ m3), hly, fun i v c hv hc => (hcs i v c hv hc).mono eup⟩
        · intro hb
          have hb2 : pP.length = seats - cC.length := by
            have := eq_of_beq hb
            rw [hpcv.1] at this
            omega
          kcf_all
          refine rAddL D16 (ys := ccv) (e := ecc) (zs := pcv) (e2 := epc) (by kat_tups) (by kat_tups) (by omega) fun lab h17 D17 => ?_
          clear D16
          kcf_all
          have happ := hccv.app hpcv
          have hnd : (cC ++ pP).Nodup := by
            rw [hcC, hpP, List.nodup_append]
            refine ⟨List.Pairwise.filter _ List.nodup_range, List.Pairwise.filter _ List.nodup_range, fun a ha b hb e => ?_⟩
            subst e
            simp only [List.mem_filter, decide_eq_true_eq] at ha hb
            omega
          refine rSortI D17 (.head _) happ.are (by rw [List.length_append]; omega) fun lso h18 zs2 js2 e18 D18 hjs2 hp2 hs2' => ?_
          clear D17
          kcf_all
          refine rCellSto C'.kind D18 hc3.1 hc3.2 (by kas_types) ho3' fun h19 o3b ho3b D19 => ?_
          clear D18
          kcf_all
          rename_i lpn h20 D20 h21 t21 D21 tk22 t22 h22 t23 D22
          refine ⟨rfl, h22, _, _, [(lpn, lstO [] 0), (lso, lstO zs2 e18), (lab, lstO (ccv ++ pcv) 0), (lpc, lstO pcv epc), (lcc, lstO ccv ecc), (b, lstO zs e'), (ls, lstO ys e), (a0, lstO [Value.int 0 tk1] 0)], lso, zs2, e18, lpn, [], 0, 0, _, o3b, _, _, rfl, G, D22, by kat_tups, by kat_tups, by kat_tups, ho3b, ?_, ?_, ?_⟩
          · unfold sepCert
            rw [if_pos hb2]
            exact IntsN.of_are hjs2 (sortN happ hnd hp2 hs2') fun u hu => List.mem_range.mp (List.mem_filter.mp hu).1
          · unfold sepPoss; rw [if_pos hb2]; exact ⟨rfl, fun j v h => by cases h⟩
          · unfold sepMiss; rw [if_pos hb2]
        · intro hb
          have hb2 : ¬ pP.length = seats - cC.length := fun q => by
            have : ((pcv.length : Int) == ((seats - cC.length : Nat) : Int)) = true := by rw [hpcv.1, q]; simp
            rw [hb] at this; cases this
          kcf_all
          refine ⟨rfl, h16, _, _, [(lpc, lstO pcv epc), (lcc, lstO ccv ecc), (b, lstO zs e'), (ls, lstO ys e), (a0, lstO [Value.int 0 tk1] 0)], lcc, ccv, ecc, lpc, pcv, epc, seats - cC.length, _, o3', _, _, rfl, G, D16, by kat_tups, by kat_tups, by kat_tups, ho3', ?_, ?_, ?_⟩
          · unfold sepCert; rw [if_neg hb2]; exact hccv
          · unfold sepPoss; rw [if_neg hb2]; exact hpcv
          · unfold sepMiss; rw [if_neg hb2]
end
section
open PySem.W.X (Led)
open PyProof.Rows PySem.Calls PySem.Spec
set_option pp.deepTerms false
/-- Rule.fastest_available_algorithm -/
theorem fastT (w : World) (x : Addr) : Spec w (.ref 426) [.ref x] [] 8 (fun news => RuleIn w news (.ref x) ["standard"]) (fun _ r tl => ∃ tk, r = .str "standard" tk) := by
  rintro A env h₀ m news h g d t os Q E C D hR hret
  obtain ⟨x', dx, o, l, av, ys, e, tp, e', i1, i2, F, l1, a1, hys, l2, hT, l3, hn⟩ := hR
  cases e'
  have hys2 : StrsAre ys ["standard"] := by
    have e : (["standard"] : List Str).filter (fun s => availS.any (· == s)) = (["standard"] : List Str) := by decide +kernel
    rwa [e] at hys
  obtain ⟨tk, rfl⟩ : ∃ tk, ys = [.str "standard" tk] := by
    cases hys2 with | cons n t r => cases r with | nil => exact ⟨_, rfl⟩
  k_dflt (refine' enterF (n := 7) [("self", .ref x)] [] ["NoAvailableAlgorithm"] ?C ?D ?o ?c ?b ?f ?g ?i ?j ?_)
  kcf_m
  intro A' env' gb h₁ t' Q' C' fl D' hQ
  dsimp only [List.map, List.append_nil, List.cons_append, List.nil_append] at fl D'
  kcf_all
  refine isTrue_plain ?_
  kcf_all
  refine wpAny_truthy_list (s := ⟨_, _, _, _, _⟩) ⟨_, (D'.nw _ a1).1, rfl, _, rfl⟩ (by simp) ?_
  refine Br.y (by simp) ?_
  kcf_all
  refine Subscript_ ?_
  kcf_all
  refine rItem D' a1 (by decide) (by decide) (v := .str "standard" tk) rfl (by rfl) ?_
  kcf_all
  exact hQ _ _ _ _ _ _ D' fun D9 => hret _ [] _ _ D9 ⟨tk, rfl⟩
/-- compute_separable_rule('av', ..) -/
theorem sepM (gk : Nat) (g0 : Array GenState) (w : World) (ts tc ta : Tok) (pf : Addr) (size seats : Nat) (el : List (List Nat × Int)) (hsz : size ∈ [3, 4]) (hse : seats ∈ [1, 2]) (hlt : ∀ e ∈ el, ∀ u ∈ e.1, u < size) (hel1 : 0 < el.length) (hel2 : el.length < 1000) :
    YSpecG gk g0 w (call (.ref 545) [] [("rule_id", .str "av" ts), ("profile", .ref pf), ("committeesize", .int (seats : Int) tc), ("algorithm", .str "fastest" ta), ("resolute", .bool false), ("max_num_of_committees", .none)]) 80 (fun dyn => ProfIn w dyn pf size el)
      (fun dyn res tl => ComsIn w (tl ++ dyn) res (tops (coms size seats) (fun c => sc .av c el))) := by
  rintro A env base h₀ fs m dyn T h g d t os Q E C Kk G hT D hP hret
  k_dflt (refine' wpAny_call (enterLY (n := 79) [("rule_id", .str "av" ts), ("profile", .ref pf), ("committeesize", .int (seats : Int) tc), ("algorithm", .str "fastest" ta), ("resolute", .bool false), ("max_num_of_committees", .none)] [("rule_id", .str "av" ts), ("profile", .ref pf), ("committeesize", .int (seats : Int) tc), ("algorithm", .str "fastest" ta), ("resolute", .bool false), ("max_num_of_committees", .none)] ["rule", "committees", "detailed_info"] ["Rule", "_separable_rule_algorithm", "UnknownAlgorithm"] ?C Kk ?D ?o ?c ?b ?kd ?nd ?lb ?fl ?g ?k ?_))
  (case C => assumption); (case D => assumption); (case o => k_is); (case c => k_is); (case b => (intro hK; first | exact BindsTo.of_eq rfl | exact binds_K hK rfl (by k_is) rfl rfl rfl | fail "ENT: no rule for these arguments"))
  (case kd => rfl); (case nd => decide +kernel); (case lb => rfl); (case fl => kernel_rfl!); (case g => rfl); (case k => rfl)
  intro A' L' env' gb h₁ t' Q' cells fs' C' K' he hlt' Y fl D' hQ
  dsimp only [List.map, List.append_nil, List.cons_append, List.nil_append] at fl D'
  obtain rfl : cells = [] := by cases Y; rfl
  rw [List.nil_append] at D'
  clear Y
  kcf_all
  refine (ruleR w .av ts).t.use C' (by assumption) (by decide) trivial ?_
  intro rv tl h3 t3 D3 hR
  clear D'
  have hR0 := hR
  obtain ⟨x, dx, o, l, av, ys, e, tp, rfl, i1, i2, F, l1, a1, hys, l2, hTp, l3, hn⟩ := hR
  have hPa : ProfIn w (tl ++ (dyn ++ T.l)) pf size el := hP.mono fun p hp => List.mem_append_right _ (List.mem_append_left _ hp)
  obtain ⟨DY, hDY⟩ : ∃ DY, DY = tl ++ (dyn ++ T.l) := ⟨_, rfl⟩
  rw [← hDY] at D3 hR0 i1 i2 hPa
  kcf_all
  refine rMeth C' (by assumption) i1 i2 F (all_and hn).1 (by kernel_rfl!) (by k_is) (by kernel_rfl!) ?_
  kcf_all
  refine (fastT w x).t.use C' (by assumption) (by decide) hR0 ?_
  rintro _ tl4 h4 t4 D4 ⟨tk4, rfl⟩
  kcf_all
  have u1 : ∀ p ∈ DY, p ∈ tl4 ++ DY := fun p hp => List.mem_append_right _ hp
  refine rMeth C' (by assumption) (u1 _ i1) (u1 _ i2) F (all_and hn).2 (by kernel_rfl!) (by k_is) (by kernel_rfl!) ?_
  kcf_all
  refine (verifyT w x pf ["standard"] seats size el "standard" tc tk4 (by simp at hse; omega) (coms_facts size hsz seats hse).2.2.2.2 (by simp at hsz; omega) hel1 hel2 (by decide +kernel)).t.use C' (by assumption) (by decide) ⟨hR0.mono u1, hPa.mono u1⟩ ?_
  rintro _ tl5 h5 t5 D5 rfl
  kcf_all
  subst hDY
  have e2 : tl5 ++ (tl4 ++ (tl ++ (dyn ++ T.l))) = (tl5 ++ (tl4 ++ (tl ++ dyn))) ++ T.l := by simp only [List.append_assoc]
  rw [e2] at D5
  refine (sepT gk g0 w ts tc pf size seats el hsz hse hlt).use (tl5 ++ (tl4 ++ (tl ++ dyn))) C' (by decide) K' G hT D5 (hP.mono fun p hp => List.mem_append_right _ (List.mem_append_right _ (List.mem_append_right _ hp))) ?_
  rintro _ tl6 T6 g6 h6 t6 h₂ T2 C2 K2 G6 hT6 D6 ⟨q, cv, dd, rfl, mq, hcm⟩
  clear D5 D4 D3
  have mq2 : (q, tupO [cv, dd]) ∈ tl6 ++ (tl5 ++ (tl4 ++ (tl ++ dyn)) ++ T6.l) := List.mem_append_left _ mq
  refine ⟨h₂, UnpEnd.mk fl D6 mq2 (by kaf_suf) (by kaf_suf) fun h7 t7 D7 => ?_⟩
  clear D6 C' K'
  kcf_all
  refine hQ _ _ _ _ _ _ h₂ T2 D7 fun h₃ T4 D9 => ?_
  have e3 : tl6 ++ (tl5 ++ (tl4 ++ (tl ++ dyn)) ++ T6.l) = (tl6 ++ (tl5 ++ (tl4 ++ tl))) ++ (dyn ++ T6.l) := by simp only [List.append_assoc]
  rw [e3] at D9
  refine hret _ _ T6 g6 _ _ h₃ T4 G6 hT6 D9 ?_
  show ComsIn w ((tl6 ++ (tl5 ++ (tl4 ++ tl))) ++ dyn) cv _
  simpa only [List.append_assoc] using hcm
/-- compute_av -/
theorem avM (gk : Nat) (g0 : Array GenState) (w : World) (tc : Tok) (pf : Addr) (size seats : Nat) (el : List (List Nat × Int)) (hsz : size ∈ [3, 4]) (hse : seats ∈ [1, 2]) (hlt : ∀ e ∈ el, ∀ u ∈ e.1, u < size) (hel1 : 0 < el.length) (hel2 : el.length < 1000) :
    YSpecG gk g0 w (call (.ref 559) [.ref pf, .int (seats : Int) tc] [("resolute", .bool false)]) 84 (fun dyn => ProfIn w dyn pf size el)
      (fun dyn res tl => ComsIn w (tl ++ dyn) res (tops (coms size seats) (fun c => sc .av c el))) := by
  rintro A env base h₀ fs m dyn T h g d t os Q E C Kk G hT D hP hret
  k_dflt (refine' wpAny_call (enterLY (n := 83) [("profile", .ref pf), ("committeesize", .int (seats : Int) tc), ("algorithm", .str "fastest" 1013), ("resolute", .bool false), ("max_num_of_committees", .none)] [("profile", .ref pf), ("committeesize", .int (seats : Int) tc), ("algorithm", .str "fastest" 1013), ("resolute", .bool false), ("max_num_of_committees", .none)] [] ["compute_separable_rule"] ?C Kk ?D ?o ?c ?b ?kd ?nd ?lb ?fl ?g ?k ?_))
  (case C => assumption); (case D => assumption); (case o => k_is); (case c => k_is); (case b => (intro hK; first | exact BindsTo.of_eq rfl | exact binds_K hK rfl (by k_is) rfl rfl rfl | fail "ENT: no rule for these arguments"))
  (case kd => rfl); (case nd => decide +kernel); (case lb => rfl); (case fl => kernel_rfl!); (case g => rfl); (case k => rfl)
  intro A' L' env' gb h₁ t' Q' cells fs' C' K' he hlt' Y fl D' hQ
  dsimp only [List.map, List.append_nil, List.cons_append, List.nil_append] at fl D'
  obtain rfl : cells = [] := by cases Y; rfl
  rw [List.nil_append] at D'
  clear Y
  kcf_all
  refine (sepM gk g0 w _ tc _ pf size seats el hsz hse hlt hel1 hel2).use dyn C' (by decide) K' G hT D' hP ?_
  rintro rv tl6 T6 g6 h6 t6 h₂ T2 C2 K2 G6 hT6 D6 hcm
  kcf_all
  exact hQ _ _ _ _ _ _ h₂ T2 D6 fun h₃ T4 D9 => hret _ _ T6 g6 _ _ h₃ T4 G6 hT6 D9 hcm
end
section
open PySem.W.X (Led)
open PyProof.Rows PySem.Calls PySem.Spec
set_option pp.deepTerms false
section
variable {w : World} {A : Around} {env : Env} {h₀ h : Heap} {g : Array GenState} {d : Drawn} {t : Nat} {os : OsState} {m : Str → Option Value} {news : List (Addr × Obj)} {n : Nat} {E : Value → Shared → Prop} {L x : Addr} {dd : Option Addr} {x' : S4} {ep : Nat}
theorem rHintCs {s : Shared} {Q : Bool → Shared → Prop} (SLk : SetLike (model PG w) s.heap x) (ho : s.heap.get? x = some (setO w (.ref 75) dd x' ep)) (hq : ∀ b t', Q b { s with toks := t' }) : wpAny (model PG w) A (Builtin.List.listLengthHint (.ref x)) Q E s := by
  unfold Builtin.List.listLengthHint
  have L1 : Looks (model PG w) s.heap (typeOf (.ref x)) (.ref 75) := (Looks.ld ho).andThen .now
  refine wpAny_bind (SLk.len.look.here ?_)
  generalize hid : ("set.__len__" : String) = id0
  wp_delta
  rw [show splitId id0 = some ("set", "__len__") from by subst hid; decide +kernel]
  subst hid
  refine wpAny_bind (SLk.inst.here ?_)
  refine wpAny_ite_split (fun hab => absurd hab (by decide)) (fun _ => ?_)
  refine wpAny_ite_split (fun _ => ?_) (fun hab => absurd (by decide +kernel) hab)
  refine wpAny_bind (L1.here ?_)
  refine wpAny_bind (len4 SLk ho fun tk t' => ?_)
  exact wpAny_bind (m := asInt? (.int _ tk)) (wpAny_pure (wpAny_pure (hq _ _)))
theorem collectCs {Q : List Value → Shared → Prop} (hh : A.handled = none) (X : (hd.heap_39 w.params).In h₀) (D : Led h₀ L m h news) (hm : (x, setO w (.ref 75) dd x' ep) ∈ news)
    (hq : ∀ h' t', Led h₀ L m h' news → Q (ordW w x x' ep) ⟨h', g, d, t', os⟩) : wpAny (model PG w) A (collect (.ref x)) Q E ⟨h, g, d, t, os⟩ := by
  unfold collect
  refine wpAny_bind (wpAny_runValue (codeAny_builtin PySem.F.entry_proto_collect ?_))
  rw [Around.under_plainId PySem.F.plain_proto_collect _]
  show wpAny _ A.in1 (newList [] >>= fun l => again (.builtin "list.__iadd__" ⟨[l, .ref x], []⟩)) _ _ _
  refine wpAny_bind (newList_K (s := ⟨h, g, d, t, os⟩) (vs := []) D.fr D.nw (fun S h1 F1 N1 lt => ?_) (by simp))
  have D1 : Led h₀ L m h1 ((S, lstO [] 0) :: news) := ledCons D F1 N1 lt
  refine wpAny_pure ⟨plainId_quiet PySem.F.plain_list_iadd _, codeAny_builtin PySem.F.entry_list_iadd ?_⟩
  rw [Around.under_plainId PySem.F.plain_list_iadd _]
  show wpAny _ A.in1 (Builtin.List.listExtendWith (.ref S) (.ref x) (.ref S)) _ _ _
  unfold Builtin.List.listExtendWith
  have hx := (D1.nw _ (.tail _ hm)).1
  have SLk : SetLike (model PG w) h1 x := SetLike.cs (X.keeps D1.fr.keep) hx
  have L1 : Looks (model PG w) h1 (typeOf (.ref x)) (.ref 75) := (Looks.ld hx).andThen .now
  refine wpAny_bind (L1.here (s := ⟨h1, g, d, t, os⟩) ?_)
  have hSx : S ≠ x := Nat.ne_of_gt (lt _ hm)
  have h1' : Builtin.List.listSameRef (.ref S) (.ref x) = false := by simp [Builtin.List.listSameRef, hSx]
  have h2 : (Value.ref 75 == Value.type "list") = false := by decide
  have h3 : (Value.ref 75 == Value.type "tuple") = false := by decide
  simp only [h1', h2, h3, Bool.or_false, Bool.false_eq_true, if_false]
  have Z : Src w h1 x (ordW w x x' ep) := .set hx SLk rfl
  refine wpAny_bind (Z.iter (s := ⟨h1, g, d, t, os⟩) fun h4 St W st hk hsz _ => ?_)
  refine wpAny_bind (wpAny_holding ?_)
  refine rHintCs (s := ⟨h4, g, d, t, os⟩) (SLk.keeps hk) (hk _ _ hx) fun b t5 => ?_
  have hS1 := (D1.nw (S, lstO [] 0) (.head _)).1
  have hSl : S < h1.objs.size := Heap.lt_size hS1
  have fin : ∀ (h5 : Heap) (t5 : Nat) (c₁ : Nat), St 0 h5 → (∀ b o, b ≠ S → h1.get? b = some o → h5.get? b = some o) → h5.get? S = some { cls := .type "list", data := .seq #[] c₁ } →
      codeAny (model PG w) A (.builtin "list.extend.loop" ⟨[.ref S, .ref h1.objs.size, .ref S], []⟩) (fun r s' => match r with | .ok (.ret v) => v = Value.ref S ∧ wpAny (model PG w) A (load S >>= fun o => match o.data with | .seq xs _ => pure xs.toList | _ => unsupported "internal:collect") Q E s' | .ok _ => False | .error e => E e s') ⟨h5, g, d, t5, os⟩ := by
    intro h5 t5 c₁ st5 k5 hS5
    refine codeAny_extend_loopS (W A.in1 hh).toS (by rw [ordW_len, sizeLine_eq]; have := x'.len4; omega) S (by simp; exact ⟨Nat.ne_of_lt hSl, hSx⟩) (.ref S) _ 0 _ #[] c₁ rfl (Nat.zero_le _) st5 hS5 (ItemsOf.nil _) fun s' acc c' hmv hS' hacc => ?_
    obtain ⟨h6, g6, d6, t6, o6⟩ := s'
    obtain rfl : g6 = g := hmv.gens
    obtain rfl : d6 = d := hmv.drawn
    obtain rfl : o6 = os := hmv.os
    refine ⟨rfl, wpAny_bind (wpAny_load hS' (wpAny_pure ?_))⟩
    have e : acc.toList = ordW w x x' ep := by
      apply List.ext_getElem?
      intro i
      by_cases hi : i < acc.size
      · have := hacc.2 i acc[i] (Array.getElem?_eq_getElem hi)
        rw [this]
        simp [hi]
      · have h7 := hacc.1
        rw [List.getElem?_eq_none (by simpa using hi), List.getElem?_eq_none (by omega)]
    rw [e]
    refine hq h6 t6 ?_
    have hb : ∀ b o, b ≠ S → b ≠ h1.objs.size → h1.get? b = some o → h6.get? b = some o := fun b o q1 q2 q => hmv.heap b o (by simp; exact ⟨q1, q2⟩) (k5 b o q1 q)
    refine ⟨⟨?_, fun b o q => hb b o ?_ ?_ (D1.fr.keep b o q), D.fr.above⟩, fun p hp => ⟨hb _ _ (Nat.ne_of_lt (lt p hp)) ?_ (D1.nw p (.tail _ hp)).1, (D.nw p hp).2⟩, D.ord⟩
    · obtain ⟨oL, es, ep', ho, r⟩ := D1.fr.ns
      exact ⟨oL, es, ep', hb _ _ (fun q => (D1.nw (S, lstO [] 0) (.head _)).2.1 (by rw [q])) (Nat.ne_of_lt (Heap.lt_size ho)) ho, r⟩
    · rintro rfl
      rw [(D1.nw (b, lstO [] 0) (.head _)).2.2] at q; cases q
    · exact Nat.ne_of_lt (Heap.lt_size (D1.fr.keep b o q))
    · exact Nat.ne_of_lt (Heap.lt_size (D1.nw p (.tail _ hp)).1)
  refine wpAny_ite_split (fun _ => ?_) (fun _ => ?_)
  · refine wpAny_bind (wpAny_rule ?_)
    refine wpAny_bind ?_
    show wpAny _ A.in1 (updateSeq S (·.push .none) >>= fun _ => updateSeq S (·.pop)) _ _ _
    refine wpAny_bind (wpAny_updateSeq (hk _ _ hS1) rfl ?_)
    have hS₂ := get?_update_seq (c := "list") (hk _ _ hS1) (·.push Value.none)
    refine wpAny_updateSeq hS₂ rfl ?_
    have hS₃ := get?_update_seq (c := "list") hS₂ (·.pop)
    have hne : ∀ b ∈ [h1.objs.size, x], S ≠ b := fun b hb => by
      simp at hb
      rcases hb with rfl | rfl
      · exact Nat.ne_of_lt hSl
      · exact hSx
    have kk : ∀ b o, b ≠ S → h1.get? b = some o → _ := fun b o q e => (Heap.get?_update_other (h4.update S (Obj.mapSeq (·.push Value.none))) (Obj.mapSeq (·.pop)) (Ne.symm q)).trans ((Heap.get?_update_other h4 (Obj.mapSeq (·.push Value.none)) (Ne.symm q)).trans (hk b o e))
    refine wpAny_pure ⟨plainId_quiet PySem.F.plain_extend_loop _, ?_⟩
    refine codeAny_mono (fin _ _ _ ((W A.in1 hh).frame _ _ _ st fun b hb o e => (Heap.get?_update_other _ _ (hne b hb)).trans ((Heap.get?_update_other _ _ (hne b hb)).trans e)) kk hS₃) fun r s' hr => ?_
    cases r with
    | error e => exact hr
    | ok f => cases f with
      | ret v => obtain ⟨rfl, hr⟩ := hr; exact hr
      | _ => exact hr.elim
  · refine wpAny_pure ⟨plainId_quiet PySem.F.plain_extend_loop _, ?_⟩
    refine codeAny_mono (fin _ _ _ st (fun b o _ e => hk b o e) (hk _ _ hS1)) fun r s' hr => ?_
    cases r with
    | error e => exact hr
    | ok f => cases f with
      | ret v => obtain ⟨rfl, hr⟩ := hr; exact hr
      | _ => exact hr.elim
/-- what sorting a list of ints leaves -/
theorem rSortTailI {vs : List Value} {is : List Int} {Q : Value → Shared → Prop} (D : Led h₀ L m h news) (hS : IntsAre vs is) (h64 : vs.length < 64)
    (hq : ∀ l h' ys e js, Led h₀ L m h' ((l, lstO ys e) :: news) → IntsAre ys js → js.Perm is → js.Pairwise (· ≤ ·) → Q (.ref l) ⟨h', g, d, t, os⟩) :
    wpAny (model PG w) A (do let l ← newList vs; let _ ← holding [l] (call (.builtin "list.sort") [l] []); ret l) (fun fin s' => ∃ v, fin = Fin.done (Flow.ret v) ∧ Q v s') E ⟨h, g, d, t, os⟩ := by
  refine wpAny_bind (wpAny_newList ?_ (by rw [sizeLine_eq]; omega))
  have hoL : (h.push (seqObj "list" vs.toArray 0)).get? h.objs.size = some (seqObj "list" vs.toArray 0) := Heap.get?_push_size _ rfl
  refine wpAny_bind (wpAny_holding (wpAny_call_entry slot_list_sort ⟨_, hoL, rfl⟩ entry_list_sort (list_sort_tree hoL hS h64 fun out js a1 a2 a3 => ⟨_, rfl, wpAny_pure ⟨_, rfl, ?_⟩⟩) (args_list_sort _)))
  obtain ⟨e, he⟩ := sortedHeap_at (vs := vs) (out := out) hoL
  have hold : ∀ b o, h.get? b = some o → (sortedHeap (h.push (seqObj "list" vs.toArray 0)) h.objs.size vs out).get? b = some o := fun b o q => by
    have hlt := Heap.lt_size q
    rw [sortedHeap_old (Nat.ne_of_lt hlt) (by rw [size_push']; exact Nat.lt_succ_of_lt hlt)]
    exact Heap.get?_push_of_some _ q
  refine hq h.objs.size _ out.toList e js ⟨D.fr.kept hold, fun p hp => ?_, ?_⟩ a1 a2 a3
  · rcases List.mem_cons.mp hp with rfl | hp
    · obtain ⟨oL, es, ep, hL, _⟩ := D.fr.ns
      refine ⟨by show _ = some (lstO _ e); rw [he], Nat.ne_of_gt (Heap.lt_size hL), ?_⟩
      cases q : h₀.get? h.objs.size with
      | none => rfl
      | some o => exact absurd (Heap.lt_size (D.fr.keep _ _ q)) (Nat.lt_irrefl _)
    · exact ⟨hold _ _ (D.nw p hp).1, (D.nw p hp).2⟩
  · rw [List.map_cons]
    refine List.Pairwise.cons (fun b hb => ?_) D.ord
    obtain ⟨p, hp, rfl⟩ := List.mem_map.mp hb
    exact Heap.lt_size (D.nw p hp).1
theorem asc_filter : ∀ {c : List Nat} {n : Nat}, c.Pairwise (· < ·) → (∀ u ∈ c, u < n) → (List.range n).filter (fun u => decide (u ∈ c)) = c
  | c, n, hp, h4 => by
    refine List.Perm.eq_of_pairwise (le := (· < ·)) (fun a b _ _ h1 h2 => absurd (Nat.lt_trans h1 h2) (Nat.lt_irrefl _)) (List.pairwise_lt_range.filter _) hp ?_
    refine (List.perm_ext_iff_of_nodup (List.nodup_range.filter _) (hp.imp fun h => Nat.ne_of_lt h)).mpr fun u => ?_
    rw [List.mem_filter, List.mem_range, decide_eq_true_eq]
    exact ⟨fun q => q.2, fun q => ⟨h4 u q, q⟩⟩
/-- sorted(a candidate set) -/
theorem rSortCs {c : List Nat} {Q : Value → Shared → Prop} (hh : A.handled = none) (X : (hd.heap_39 w.params).In h₀) (D : Led h₀ L m h news) (hm : (x, setO w (.ref 75) dd x' ep) ∈ news) (hH : Holds4 x' c) (hc : c.Pairwise (· < ·))
    (hq : ∀ b h' t' zs e, Led h₀ L m h' ((b, lstO zs e) :: news) → IntsN zs c → Q (.ref b) ⟨h', g, d, t', os⟩) : wpAny (model PG w) A (call (.builtin "sorted") [.ref x]) Q E ⟨h, g, d, t, os⟩ := by
  refine Calls.call_function_entry kind_sorted plain_sorted entry_sorted (args_sorted1 _) ?_
  unfold Builtin.«sorted»
  refine wpAny_bind (m := checkCount "sorted" 1 1 _) (wpAny_pure ?_)
  refine wpAny_bind (collectCs (by simp [hh]) X D hm fun h1 t1 D1 => ?_)
  obtain ⟨ns, hi, hnd, hme⟩ := ordN w x x' ep
  have h4 : (ordW w x x' ep).length < 64 := by rw [ordW_len]; have := x'.len4; omega
  have hmem : ∀ u, u ∈ ns ↔ u ∈ c := fun u => (hme u).trans (hH.memI u)
  refine rSortTailI D1 hi.are h4 fun l h2 ys e js D2 a1 a2 a3 => ?_
  refine hq l h2 _ ys e D2 (IntsN.of_are a1 ?_ fun u hu => hi.lt u ((hmem u).mpr hu))
  rw [sortN hi hnd a2 a3]
  have : ((List.range 4).filter fun u => decide (u ∈ ns)) = c := by
    rw [show (fun u => decide (u ∈ ns)) = (fun u => decide (u ∈ c)) from funext fun u => by rw [decide_eq_decide]; exact hmem u]
    exact asc_filter hc fun u hu => hi.lt u ((hmem u).mpr hu)
  rw [this]
end
end
section
open PySem.W.X (Led)
open PyProof.Rows PySem.Calls PySem.Spec
set_option pp.deepTerms false
/-- a committee as the law sees it: a list of ints -/
def LstN (news : List (Addr × Obj)) (v : Value) (c : List Nat) : Prop := ∃ a vs e, v = .ref a ∧ (a, lstO vs e) ∈ news ∧ IntsN vs c
theorem LstN.mono {news news' : List (Addr × Obj)} {v : Value} {c : List Nat} (V : LstN news v c) (h : ∀ p ∈ news, p ∈ news') : LstN news' v c := let ⟨a, vs, e, q, b, r⟩ := V; ⟨a, vs, e, q, h _ b, r⟩
def WinIn (news : List (Addr × Obj)) (v : Value) (coml : List (List Nat)) : Prop := ∃ l ys e, v = .ref l ∧ (l, lstO ys e) ∈ news ∧ ys.length = coml.length ∧ ∀ (i : Nat) (v : Value) (c : List Nat), ys[i]? = some v → coml[i]? = some c → LstN news v c
theorem WinIn.mono {news news' : List (Addr × Obj)} {v : Value} {coml : List (List Nat)} (V : WinIn news v coml) (h : ∀ p ∈ news, p ∈ news') : WinIn news' v coml :=
  let ⟨l, ys, e, a, b, c, r⟩ := V; ⟨l, ys, e, a, h _ b, c, fun i v c' h1 h2 => (r i v c' h1 h2).mono h⟩
theorem ruStr_av (r : Ru) (h : r ≠ .av) : (r.str == ("av" : Str)) = false := by
  cases r with
  | av => exact absurd rfl h
  | _ => decide +kernel
/-- _law_winners -/
theorem winM (gk : Nat) (g0 : Array GenState) (w : World) (r : Ru) (ts tc : Tok) (pf : Addr) (size seats : Nat) (el : List (List Nat × Int)) (hsz : size ∈ [3, 4]) (hse : seats ∈ [1, 2]) (hlt : ∀ e ∈ el, ∀ u ∈ e.1, u < size) (hel : ∀ e ∈ el, 0 < e.2) (hel1 : 0 < el.length) (hel2 : el.length < 1000) :
    YSpecG gk g0 w (call (.ref 753) [.str r.str ts, .ref pf, .int (seats : Int) tc]) 90 (fun dyn => ProfIn w dyn pf size el)
      (fun dyn res tl => WinIn (tl ++ dyn) res (tops (coms size seats) (fun c => sc r c el))) := by
  rintro A env base h₀ fs m dyn T h g d t os Q E C Kk G hT D hP hret
  k_dflt (refine' wpAny_call (enterLY (n := 89) [("rule", .str r.str ts), ("profile", .ref pf), ("seats", .int (seats : Int) tc)] [("rule", .str r.str ts), ("profile", .ref pf), ("seats", .int (seats : Int) tc)] ["told"] ["compute_av", "compute_thiele_method"] ?C Kk ?D ?o ?c ?b ?kd ?nd ?lb ?fl ?g ?k ?_))
  (case C => assumption); (case D => assumption); (case o => k_is); (case c => k_is); (case b => (intro hK; first | exact BindsTo.of_eq rfl | exact binds_K hK rfl (by k_is) rfl rfl rfl | fail "ENT: no rule for these arguments"))
  (case kd => rfl); (case nd => decide +kernel); (case lb => rfl); (case fl => kernel_rfl!); (case g => rfl); (case k => rfl)
  intro A' L' env' gb h₁ t' Q' cells fs' C' K' he hlt' Y fl D' hQ
  dsimp only [List.map, List.append_nil, List.cons_append, List.nil_append] at fl D'
  obtain rfl : cells = [] := by cases Y; rfl
  rw [List.nil_append] at D'
  clear Y
  have hTop : ∀ c ∈ tops (coms size seats) (fun c => sc r c el), c.Pairwise (· < ·) ∧ c.length ≤ 2 := fun c hc => ⟨((coms_facts size hsz seats hse).1 c (mem_tops.mp hc).1).1, ((coms_facts size hsz seats hse).1 c (mem_tops.mp hc).1).2.1⟩
  have hTl : (tops (coms size seats) (fun c => sc r c el)).length < 10 := Nat.lt_of_le_of_lt (tops_sub _ _).length_le (coms_facts size hsz seats hse).2.2.2.1
  kcf_all
  refine Br.join (fun s => ∃ (h₂ : Heap) (tl : List (Addr × Obj)) (T2 : Tabs) (g' : Array GenState) (h' : Heap) (t' : Nat) (rv : Value), s = ⟨h', g', d, t', os⟩ ∧ KtsTurn fs' gb h₂ ∧ Cx w A' env' h₂ 89 ∧ GB gk g0 g' ∧ T2.ok ∧
      Led h₂ env'.locals (vec ["rule", "profile", "seats", "told"] [some (.str r.str ts), some (.ref pf), some (.int (seats : Int) tc), some rv]) h' (tl ++ (dyn ++ T2.l)) ∧ ComsIn w (tl ++ dyn) rv (tops (coms size seats) (fun c => sc r c el))) ?_ (fun hb => ?_) (fun hb => ?_)
  · rintro s ⟨h₂, tl, T2, g2, h2, t2, _, rfl, KT, C2, G2, hT2, D2, lt, tvs, te, rfl, htl, hlt2, hcs⟩
    clear D' C' K'
    obtain ⟨coml, hcl⟩ : ∃ c, c = tops (coms size seats) (fun c => sc r c el) := ⟨_, rfl⟩
    rw [← hcl] at hTop hTl hlt2 hcs
    kcf_all
    refine rCompD ["one"] ["sorted"] [] C2 D2 (fun _ => by rfl) (by rw [he]; rfl) (by rfl) rfl (by rfl) (by rw [he]; kernel_rfl!) ?_
    kcf_all
    have mlt : (lt, lstO tvs te) ∈ tl ++ (dyn ++ T2.l) := by
      rcases List.mem_append.mp htl with z | z
      · exact List.mem_append_left _ z
      · exact List.mem_append_right _ (List.mem_append_left _ z)
    refine itListA D2 mlt fun I oI h3 Ct P It hP0 _ hct D3 => ?_
    clear D2
    refine compIt (fun i ys pre => ys.length = i ∧ ∀ (j : Nat) (v : Value) (c : List Nat), ys[j]? = some v → coml[j]? = some c → LstN pre v c) C2.hand It hP0 (fun h hh => hct h (hh _ mlt)) D3 (.inl ⟨_, _, rfl⟩) (by omega) ⟨rfl, fun j v c h => by cases h⟩ (fun i ys pre q => Nat.le_of_eq q.1) ?_ ?_
    · rintro gB Cc DD env2 i ys vs pre e o2 h4 t4 v hi hV he2 _ _ Cc flc ⟨hyl, hys⟩ hP5 D4
      clear D3
      obtain ⟨c, hc⟩ : ∃ c, coml[i]? = some c := ⟨_, List.getElem?_eq_getElem (by omega)⟩
      obtain ⟨x, dx, x', ep, rfl, i1, i2, hH⟩ := hcs i v c hV hc
      obtain ⟨c1, e1⟩ := vec1 "one" vs
      rw [e1] at D4
      refine wpAny_assign_Name (rSto Cc flc D4 (by kaf_suf) fun h5 t5 D5 => ?_)
      clear D4
      refine wpAny_tests_nil (Br.y rfl ?_)
      kcf_all
      have mx : (x, setO w (.ref 75) (some dx) x' ep) ∈ pre ++ (DD, lstO ys e) :: (I, o2) :: (tl ++ (dyn ++ T2.l)) := by
        refine List.mem_append_right _ (.tail _ (.tail _ ?_))
        rcases List.mem_append.mp i1 with z | z
        · exact List.mem_append_left _ z
        · exact List.mem_append_right _ (List.mem_append_left _ z)
      refine rSortCs Cc.hand Cc.X D5 mx hH (hTop c (List.mem_of_getElem? hc)).1 fun b h6 t6 zs e6 D6 hz => ?_
      clear D5
      refine CIt.mk (_ :: pre) D6 hP5 ⟨by rw [List.length_append, hyl]; rfl, fun j v c' hj hc' => ?_⟩
      by_cases q : j < ys.length
      · rw [List.getElem?_append_left q] at hj
        exact (hys j v c' hj hc').mono fun p hp => .tail _ hp
      · have hjl := (List.getElem?_eq_some_iff.mp hj).1
        simp at hjl
        obtain rfl : j = ys.length := by omega
        rw [List.getElem?_append_right (Nat.le_refl _), Nat.sub_self] at hj
        cases hj
        rw [hyl, hc] at hc'
        cases hc'
        exact ⟨b, zs, e6, rfl, .head _, hz⟩
    · rintro DD ys e pre h4 t4 _ ⟨hyl, hys⟩ D4
      kcf_all
      refine hQ _ _ _ _ _ _ h₂ KT D4 fun h₃ T4 D9 => ?_
      have e3 : pre ++ (DD, lstO ys e) :: (tl ++ (dyn ++ T2.l)) = (pre ++ (DD, lstO ys e) :: tl) ++ (dyn ++ T2.l) := by simp only [List.append_assoc, List.cons_append]
      rw [e3] at D9
      refine hret _ _ T2 g2 _ _ h₃ T4 G2 hT2 D9 ?_
      show WinIn ((pre ++ (DD, lstO ys e) :: tl) ++ dyn) _ (tops (coms size seats) (fun c => sc r c el))
      rw [← hcl]
      refine ⟨DD, ys, e, rfl, List.mem_append_left _ (List.mem_append_right _ (.head _)), by rw [hyl, hlt2], fun i v c h1 h2 => (hys i v c h1 h2).mono fun p hp => List.mem_append_left _ (List.mem_append_left _ hp)⟩
  · have hr : r = .av := by
      cases r with
      | av => rfl
      | _ => exact absurd hb (by decide +kernel)
    subst hr
    kcf_all
    refine (avM gk g0 w tc pf size seats el hsz hse hlt hel1 hel2).use dyn C' (by decide) K' G hT D' hP ?_
    rintro rv tl6 T6 g6 h6 t6 h₂ T2 C2 K2 G6 hT6 D6 hcm
    clear D' C' K'
    kcf_all
    rename_i h7 t7 D7
    exact ⟨rfl, h₂, tl6, T6, g6, h7, t7, rv, rfl, T2, C2, G6, hT6, D7, hcm⟩
  · have hr : r ≠ .av := by
      rintro rfl
      exact absurd hb (by decide +kernel)
    kcf_all
    refine (thieleM gk g0 w r hr ts tc _ pf size seats el hsz hse hel hel1 hel2).use dyn C' (by decide) K' G hT D' hP ?_
    rintro rv tl6 T6 g6 h6 t6 h₂ T2 C2 K2 G6 hT6 D6 hcm
    clear D' C' K'
    kcf_all
    rename_i h7 t7 D7
    exact ⟨rfl, h₂, tl6, T6, g6, h7, t7, rv, rfl, T2, C2, G6, hT6, D7, hcm⟩
end
section
open PySem.W.X (Led)
open PyProof.Rows PySem.Calls PySem.Spec
set_option pp.deepTerms false
theorem ledKept {h₀ h h' : Heap} {L : Addr} {m : Str → Option Value} {news : List (Addr × Obj)} (D : Led h₀ L m h news) (k : ∀ b o, h.get? b = some o → h'.get? b = some o) : Led h₀ L m h' news :=
  ⟨D.fr.kept k, fun p hp => ⟨k _ _ (D.nw p hp).1, (D.nw p hp).2⟩, D.ord⟩
section
variable {w : World} {A : Around} {env : Env} {h₀ h : Heap} {g : Array GenState} {d : Drawn} {t : Nat} {os : OsState} {m : Str → Option Value} {news : List (Addr × Obj)} {n : Nat} {E : Value → Shared → Prop} {L : Addr} {ys : List Value} {e : Nat} {a : Addr}
theorem rMax2 {i j : Int} {ti tj : Tok} {Q : Value → Shared → Prop} (hh : A.handled = none) (D : Led h₀ L m h news) (hq : ∀ h' t' tk, Led h₀ L m h' news → Q (.int (if j > i then j else i) tk) ⟨h', g, d, t', os⟩) :
    wpAny (model PG w) A (call (.builtin "max") [.int i ti, .int j tj]) Q E ⟨h, g, d, t, os⟩ :=
  max_two_N (s := ⟨h, g, d, t, os⟩) hh D.fr D.nw fun h' tk F N => hq h' tk _ (ledSame D F N)
theorem rAbs {i : Int} {ti : Tok} {Q : Value → Shared → Prop} (hq : ∀ t' tk, Q (.int (if i < 0 then -i else i) tk) ⟨h, g, d, t', os⟩) :
    wpAny (model PG w) A (call (.builtin "abs") [.int i ti]) Q E ⟨h, g, d, t, os⟩ := call_abs_int fun u tk => hq tk u
theorem rSumI {is : List Int} {Q : Value → Shared → Prop} (hh : A.handled = none) (D : Led h₀ L m h news) (hm : (a, lstO ys e) ∈ news) (hi : IntsAre ys is) (hq : ∀ h' t' tk, Led h₀ L m h' news → Q (.int is.sum tk) ⟨h', g, d, t', os⟩) :
    wpAny (model PG w) A (call (.builtin "sum") [.ref a]) Q E ⟨h, g, d, t, os⟩ := by
  obtain ⟨xs, hxs⟩ := hi.allInts.items
  have hl : h.IsList a ys.toArray := ⟨_, (D.nw _ hm).1, rfl, _, rfl⟩
  rw [hxs] at hl
  refine sum_intListG (s := ⟨h, g, d, t, os⟩) hh hl fun h' tk t' hk => ?_
  have e : preSum (numAt xs) xs.size = is.sum := by
    rw [preSum_eq, List.take_of_length_le (by simp), ← hi.numsOf, ← nums_intItems, ← hxs]
  rw [e]
  exact hq h' tk t' (ledKept D hk)
/-- a part of a list -/
def SliEnd (h₀ : Heap) (L : Addr) (Q : Value → Shared → Prop) (o vl vu : Value) (s : Shared) : Prop :=
  ∃ l ys e lo hi m news h g d t os, s = ⟨h, g, d, t, os⟩ ∧ o = .ref l ∧ Led h₀ L m h news ∧ (l, lstO ys e) ∈ news ∧ ys.length < 1000000 ∧ IsPart vl lo ∧ IsPart vu hi ∧
    ∀ b h', Led h₀ L m h' ((b, lstO (slicePick ys.toArray lo hi none).toList 0) :: news) → Q (.ref b) ⟨h', g, d, t, os⟩
theorem rSliL {value : Expr} {lower upper : Option Expr} {p pos : Pos} {Q : Value → Shared → Prop} {s : Shared} (h : wpAny (model PG w) A (eval value env) (fun o s₁ => wpAny (model PG w) A (evalPart lower env) (fun vl s₂ => wpAny (model PG w) A (evalPart upper env) (fun vu s₃ => SliEnd h₀ L Q o vl vu s₃) E s₂) E s₁) E s)
    (ht : ∀ o r, letTemporaryGo value o r = pure ()) : wpAny (model PG w) A (eval (.Subscript value (.Slice lower upper none p) pos) env) Q E s := by
  refine wpAny_Subscript_list_slice (wpAny_mono h (fun o s₁ h₁ => wpAny_mono h₁ (fun vl s₂ h₂ => wpAny_mono h₂ (fun vu s₃ h₃ => ?_) fun _ _ e => e) fun _ _ e => e) fun _ _ e => e) ht
  obtain ⟨l, ys, e, lo, hi, m, news, h, g, d, t, os, rfl, rfl, D, hm, hz, p1, p2, hq⟩ := h₃
  refine ⟨l, ys.toArray, lo, hi, rfl, ⟨_, (D.nw _ hm).1, rfl, _, rfl⟩, by rw [sizeLine_eq]; simp; omega, p1, p2, ?_⟩
  obtain ⟨oL, es, ep, hL, r⟩ := D.fr.ns
  have hLlt := Heap.lt_size hL
  have key : ∀ (h h' : Heap) (o : Obj) (news : List (Addr × Obj)), Led h₀ L m h news → h'.get? h.objs.size = some o → (∀ b o, h.get? b = some o → h'.get? b = some o) → Led h₀ L m h' ((h.objs.size, o) :: news) := fun h h' o news D ho hk => by
    obtain ⟨F', N', lt⟩ := ks_newsPush (s := ⟨h, g, d, t, os⟩) D.fr D.nw rfl ho hk
    exact ledCons D F' N' lt
  have D1 := key h (h.push { cls := .type "slice", data := .fields #[vl, vu, .none] }) _ news D (Heap.get?_push_size _ rfl) fun b o e => Heap.get?_push_of_some _ e
  have D2 := key _ ((h.push { cls := .type "slice", data := .fields #[vl, vu, .none] }).push (lstO (slicePick ys.toArray lo hi none).toList 0)) _ _ D1 (Heap.get?_push_size _ rfl) fun b o e => Heap.get?_push_of_some _ e
  rw [Heap.size_push] at D2
  have := hq _ _ (ledDrop2 D2)
  exact this
end
section
variable {w : World} {A : Around} {env : Env} {h₀ h : Heap} {g₀ : Array GenState} {d : Drawn} {t : Nat} {os : OsState} {m : Str → Option Value} {news : List (Addr × Obj)} {n : Nat}
theorem enterCk {R : Result → Shared → Prop} {name qual : Str} {params : Arguments} {body : List Stmt} {scope : Scope} {dV kV doc pm cdv ct oc : Value} {an od : Option Addr} {osl : Array (Option Value)} {f : Addr} {args : Args} (binds : List (Str × Value)) (rest gs : List Str)
    (C : Cx w A env h₀ (n + 1)) (D : Led h₀ env.locals m h news)
    (ho : (hd.heap_39 w.params).lookup f = some ⟨oc, od, .func (fnOf name qual params body scope dV kV doc pm an cdv ct), osl⟩) (hcd : codeIn (hd.heap_39 w.params) cdv qual = true)
    (hbind : (hd.heap_39 w.params).In h → BindsTo ⟨h, g₀, d, t, os⟩ (fnOf name qual params body scope dV kV doc pm an cdv ct) args binds) (hfl : fnl (binds.map (·.1) ++ rest) gs scope = true)
    (hco : scope.isCoroutine = false) (hgen : scope.isGenerator = false) (hcell : ∀ x ∈ scope.names, x.2 ≠ .cell)
    (hb : ∀ A' env' g h₁ t' Q', (∀ b o, h₀.get? b = some o → g.get? b = some o) → Cx w A' env' g n → FnL (binds.map (·.1) ++ rest) gs env'.scope → Led g env'.locals (vec (binds.map (·.1) ++ rest) (binds.map (fun b => some b.2) ++ rest.map fun _ => none)) h₁ news →
      (∀ fl h' t' g' m' news', Led g env'.locals m' h' news' → (Led h₀ env.locals m h' news' → R (.ok (.ret (retOf fl))) ⟨h', g', d, t', os⟩) → Q' fl ⟨h', g', d, t', os⟩) →
      wpAny (model PG w) A' (execs body env') Q' (fun _ _ => False) ⟨h₁, g₀, d, t', os⟩) :
    codeAny (model PG w) A (.call (.ref f) args) R ⟨h, g₀, d, t, os⟩ := by
  obtain ⟨p, loose, mean, mg, mb, T⟩ := C.top
  have fl := FnL.of hfl
  have X := C.X.keeps D.fr.keep
  obtain ⟨FG, st, lv⟩ := groundY (R := R) D.fr D.nw
  have nd : (binds.map (·.1)).Nodup := (List.nodup_append.mp fl.nd).1
  refine codeAny_call_def (s := ⟨h, g₀, d, t, os⟩) (fd := fnOf name qual params body scope dV kV doc pm an cdv ct) (body := body) (binds := binds) (Nat.lt_of_le_of_lt (Nat.le_add_right _ _) C.room) (X _ _ ho) rfl (T.nolimit.keeps D.fr.keep) (codeRec_of X hcd) rfl (hbind X) hcell (fun y hy => fl.loc _ (List.mem_append_left _ (List.mem_map_of_mem hy))) (fun h₁ hns hk₁ => ?_) hco hgen fl.kind
  have hLs : ∀ p ∈ news, p.1 < h.objs.size := fun p hp => Heap.lt_size (D.nw p hp).1
  refine wpAny_mono (hb (A.deeper (envOf qual scope h.objs.size f cdv)) (envOf qual scope h.objs.size f cdv) (hideAll h (news.map (·.1))) h₁ (t + binds.length) (fun fl s' => R (.ok (.ret (match fl with | .ret v => v | _ => .none))) s')
    st ⟨?_, rfl, rfl, fl.kind, C.X.keeps st, ⟨p, loose, mean, mg, mb, T.keeps st⟩, C.hand, ?_, ?_⟩ fl ⟨⟨?_, fun b o e => hk₁ b o (of_hideAll _ e), Nat.le_of_eq (hideAll_size _ _)⟩, fun p hp => ⟨hk₁ _ _ (D.nw p hp).1, Nat.ne_of_lt (hLs p hp), hideAll_none _ (List.mem_map_of_mem hp)⟩, D.ord⟩ ?_) (fun fl s' q => q) (fun _ _ q => q.elim)
  · exact C.pushed D _ rfl
  · have := C.room; show A.depth + 1 + n < _; omega
  · have := C.units; show A.units + 3 + 40 * n < _; omega
  · rw [← vec_start binds rest nd]; exact hns
  · intro fl h' t' g' m' news' D' k
    have k2 := lv (retOf fl) ⟨h', g', d, t', os⟩ (leaveK_ (h₀ := h₀) (g := hideAll h (news.map (·.1))) (L := env.locals) (m := m) (R := R) (v := retOf fl) (s' := ⟨h', g', d, t', os⟩) D'.fr D'.nw fun F N => k ⟨F, N, D'.ord⟩)
    cases fl <;> exact k2
end
/-- what stands in the script, or the other -/
theorem lawAt {w : World} {A : Around} {env : Env} {h₀ h : Heap} {g : Array GenState} {d : Drawn} {t : Nat} {os : OsState} {m : Str → Option Value} {news : List (Addr × Obj)} {n : Nat} {Q E : Value → Shared → Prop} {a : Addr} {vs : List Value} {sc : List Int} {k : Nat} {o : Int} {tk to : Tok} (C : Cx w A env h₀ n) (hn : 8 ≤ n) (D : Led h₀ env.locals m h news)
    (hs : h₀.IsList a vs.toArray) (hi : IntsAre vs sc) (h64 : vs.length < 100) (hk : k < 1000) (hq : ∀ h' t' tk, Led h₀ env.locals m h' news → Q (.int (sc.getD k o) tk) ⟨h', g, d, t', os⟩) :
    wpAny (model PG w) A (call (.ref 743) [.ref a, .int (k : Int) tk, .int o to]) Q E ⟨h, g, d, t, os⟩ := by
  k_dflt (refine' wpAny_call (enterCk (n := 7) [("script", .ref a), ("k", .int (k : Int) tk), ("other", .int o to)] [] ["len"] ?C ?D ?o ?c ?b ?f ?g ?i ?j ?_))
  (case C => exact C.le hn); (case D => assumption); (case o => k_is); (case c => k_is); (case b => (intro hK; first | exact BindsTo.of_eq rfl | exact binds_K hK rfl (by k_is) rfl rfl rfl | fail "ENT: no rule for these arguments")); (case f => kernel_rfl!); (case g => exact rfl); (case i => exact rfl); (case j => decide)
  intro A' env' gb h₁ t' Q' st C' fl D' hQ
  dsimp only [List.map, List.append_nil, List.cons_append, List.nil_append] at fl D'
  have hl : h₁.IsList a vs.toArray := by
    obtain ⟨ob, ho, r⟩ := hs
    exact ⟨ob, D'.fr.keep _ _ (st _ _ ho), r⟩
  kcf_all
  refine call_len_list (s := ⟨_, _, _, _, _⟩) hl (by simp only [List.size_toArray]; omega) ?_
  kcf_all
  rw [show (vs.toArray.size : Int) = (vs.length : Int) from by simp]
  refine Br.sp (fun hc => ?_) (fun hc => ?_)
  · have hc : (k : Int) < (vs.length : Int) := by simpa using hc
    kcf_all
    refine Subscript_ ?_
    kcf_all
    obtain ⟨tv, htv⟩ := intsAt (j := sc[k]'(by rw [← hi.length]; omega)) hi (List.getElem?_eq_getElem (show k < vs.length by omega)) (List.getElem?_eq_getElem _)
    refine tail_any (s := ⟨_, _, _, _, _⟩) hl.typeIs slot_list_getitem.lookup (wpAny_getItem_list hl (by omega) (by omega) (x := .int (sc[k]'(by rw [← hi.length]; omega)) tv) (by
      have : vs[k]? = some (.int (sc[k]'(by rw [← hi.length]; omega)) tv) := by rw [List.getElem?_eq_getElem (show k < vs.length by omega), htv]
      simpa using this) ?_) (by rfl)
    kcf_all
    have e : sc.getD k o = sc[k]'(by rw [← hi.length]; omega) := by rw [List.getD_eq_getElem?_getD, List.getElem?_eq_getElem (by rw [← hi.length]; omega)]; rfl
    rw [e] at hq
    exact hQ _ _ _ _ _ _ D' fun D9 => hq _ _ tv D9
  · have hc : ¬ (k : Int) < (vs.length : Int) := by simpa using hc
    kcf_all
    have e : sc.getD k o = o := by rw [List.getD_eq_getElem?_getD, List.getElem?_eq_none (by rw [← hi.length]; omega)]; rfl
    rw [e] at hq
    exact hQ _ _ _ _ _ _ D' fun D9 => hq _ _ to D9
end
section
open PySem.W.X (Led)
open PyProof.Rows PySem.Calls PySem.Spec PySem.SeqAt
set_option pp.deepTerms false
theorem LstN.uniq {h₀ h : Heap} {L : Addr} {m : Str → Option Value} {news : List (Addr × Obj)} (D : Led h₀ L m h news) {v : Value} {c1 c2 : List Nat} (V1 : LstN news v c1) (V2 : LstN news v c2) : c1 = c2 := by
  obtain ⟨a, vs, e, rfl, b, r⟩ := V1
  obtain ⟨a', vs', e', q, b', r'⟩ := V2
  cases q
  have h1 := (D.nw _ b).1
  rw [(D.nw _ b').1] at h1
  simp only [lstO, Option.some.injEq, Obj.mk.injEq, Data.seq.injEq] at h1
  have hv : vs' = vs := by simpa using h1.2.2.1.1
  subst hv
  have hl : c1.length = c2.length := by rw [← r.1, ← r'.1]
  refine List.ext_getElem hl fun i h1 h2 => ?_
  have hi : i < vs'.length := by rw [r.1]; exact h1
  obtain ⟨t1, u1, e1, _, e2⟩ := r.2 i _ (List.getElem?_eq_getElem hi)
  obtain ⟨t2, u2, e3, _, e4⟩ := r'.2 i _ (List.getElem?_eq_getElem hi)
  rw [e2] at e4
  injection e4 with e4 _
  have e4 : u1 = u2 := Int.ofNat_inj.mp e4
  rw [List.getElem?_eq_getElem h1] at e1
  rw [List.getElem?_eq_getElem h2] at e3
  rw [Option.some.inj e1, Option.some.inj e3, e4]
theorem all_eq {α : Type} [DecidableEq α] {l1 l2 : List α} {n : Nat} {e : Nat → Bool} (h1 : l1.length = n) (h2 : l2.length = n) (he : ∀ i (a : α) (b : α), l1[i]? = some a → l2[i]? = some b → e i = decide (a = b)) : (List.range n).all e = decide (l1 = l2) := by
  rw [Bool.eq_iff_iff, List.all_eq_true, decide_eq_true_eq]
  constructor
  · intro q
    refine List.ext_getElem (h1.trans h2.symm) fun i hi1 hi2 => ?_
    have := q i (List.mem_range.mpr (h1 ▸ hi1))
    rw [he i _ _ (List.getElem?_eq_getElem hi1) (List.getElem?_eq_getElem hi2)] at this
    exact of_decide_eq_true this
  · rintro rfl i hi
    have hi1 : i < l1.length := h1 ▸ List.mem_range.mp hi
    rw [he i _ _ (List.getElem?_eq_getElem hi1) (List.getElem?_eq_getElem hi1)]
    exact decide_eq_true rfl
theorem len_ne {α : Type} [DecidableEq α] {l1 l2 : List α} (h : l1.length ≠ l2.length) : decide (l1 = l2) = false := decide_eq_false fun q => h (by rw [q])
section
variable {w : World} {A : Around} {env : Env} {h₀ h : Heap} {g : Array GenState} {d : Drawn} {t : Nat} {os : OsState} {m : Str → Option Value} {news : List (Addr × Obj)} {n : Nat} {E : Value → Shared → Prop} {L : Addr} {ys : List Value} {e : Nat} {a : Addr} {v1 v2 : Value}
theorem LstN.eqAt {c1 c2 : List Nat} (D : Led h₀ L m h news) (V1 : LstN news v1 c1) (V2 : LstN news v2 c2) (hu : A.units < cLine) : EqAt A ⟨h, g, d, t, os⟩ v1 v2 (decide (c1 = c2)) := by
  by_cases hv : v1 = v2
  · subst hv
    rw [decide_eq_true (V1.uniq D V2)]
    exact EqAt.same _
  obtain ⟨a, vs, e, rfl, b, r⟩ := V1
  obtain ⟨a', vs', e', rfl, b', r'⟩ := V2
  have l1 : h.IsList a vs.toArray := ⟨_, (D.nw _ b).1, rfl, _, rfl⟩
  have l2 : h.IsList a' vs'.toArray := ⟨_, (D.nw _ b').1, rfl, _, rfl⟩
  refine EqAt.of_refs (fun q => hv (by rw [q])) ?_
  by_cases hl : vs.length = vs'.length
  · have := RcAt.lists (A := A) (s := ⟨h, g, d, t, os⟩) (e := fun i => decide (c1[i]? = c2[i]?)) l1 l2 (by simpa using hl) hu (fun j h1 h2 => ?_)
    · rw [show (List.range vs.toArray.size).all (fun i => decide (c1[i]? = c2[i]?)) = decide (c1 = c2) from all_eq (by rw [List.size_toArray]; exact r.1.symm) (by rw [List.size_toArray, hl]; exact r'.1.symm) fun i a b q1 q2 => by rw [q1, q2]; simp] at this
      exact this
    · have h1 : j < vs.length := by simpa using h1
      have h2 : j < vs'.length := by simpa using h2
      obtain ⟨t1, u1, e1, _, e2⟩ := r.2 j _ (List.getElem?_eq_getElem h1)
      obtain ⟨t2, u2, e3, _, e4⟩ := r'.2 j _ (List.getElem?_eq_getElem h2)
      rw [e1, e3]
      have e5 : vs.toArray[j] = .int (u1 : Int) t1 := by simpa using e2
      have e6 : vs'.toArray[j] = .int (u2 : Int) t2 := by simpa using e4
      rw [e5, e6]
      have := EqAt.int_int (A := A.in1) (s := ⟨h, g, d, t, os⟩) (u1 : Int) t1 (u2 : Int) t2
      rw [show ((u1 : Int) == (u2 : Int)) = decide (some u1 = some u2) from by
        by_cases q : u1 = u2
        · subst q; simp
        · have : ¬ ((u1 : Int) = (u2 : Int)) := fun z => q (Int.ofNat_inj.mp z)
          simp [q, this]] at this
      exact this
  · rw [len_ne (by rw [← r.1, ← r'.1]; exact hl)]
    exact RcAt.lists_lengths l1 l2 (by simpa using hl) hu
theorem winEq {coml1 coml2 : List (List Nat)} {Q : Value → Shared → Prop} (D : Led h₀ L m h news) (V1 : WinIn news v1 coml1) (V2 : WinIn news v2 coml2) (hu : A.units + 10 < cLine) (hq : Q (.bool (decide (coml1 = coml2))) ⟨h, g, d, t, os⟩) : wpAny (model PG w) A (compareOp .Eq v1 v2) Q E ⟨h, g, d, t, os⟩ := by
  obtain ⟨l, ys, e, rfl, b, r, s⟩ := V1
  obtain ⟨l', ys', e', rfl, b', r', s'⟩ := V2
  have l1 : h.IsList l ys.toArray := ⟨_, (D.nw _ b).1, rfl, _, rfl⟩
  have l2 : h.IsList l' ys'.toArray := ⟨_, (D.nw _ b').1, rfl, _, rfl⟩
  by_cases hl : ys.length = ys'.length
  · refine eq_listAt (s := ⟨h, g, d, t, os⟩) (e := fun i => decide (coml1[i]? = coml2[i]?)) l1 l2 (by simpa using hl) (by omega) (fun j h1 h2 => ?_) ?_
    · have h1 : j < ys.length := by simpa using h1
      have h2 : j < ys'.length := by simpa using h2
      obtain ⟨c1, hc1⟩ : ∃ c, coml1[j]? = some c := ⟨_, List.getElem?_eq_getElem (by omega)⟩
      obtain ⟨c2, hc2⟩ : ∃ c, coml2[j]? = some c := ⟨_, List.getElem?_eq_getElem (by omega)⟩
      have := LstN.eqAt (A := A.in1) (g := g) (d := d) (t := t) (os := os) D (s j ys[j] c1 (List.getElem?_eq_getElem h1) hc1) (s' j ys'[j] c2 (List.getElem?_eq_getElem h2) hc2) (by show A.units + 1 < _; omega)
      rw [hc1, hc2, show decide (some c1 = some c2) = decide (c1 = c2) from by simp]
      simpa using this
    · rw [show (List.range ys.toArray.size).all (fun i => decide (coml1[i]? = coml2[i]?)) = decide (coml1 = coml2) from all_eq (by rw [List.size_toArray]; exact r.symm) (by rw [List.size_toArray, hl]; exact r'.symm) fun i a b q1 q2 => by rw [q1, q2]; simp]
      exact hq
  · rw [len_ne (by rw [← r, ← r']; exact hl)] at hq
    exact eq_list_lengthsAt (s := ⟨h, g, d, t, os⟩) l1 l2 (by simpa using hl) (by omega) hq
theorem winNe {coml1 coml2 : List (List Nat)} {Q : Value → Shared → Prop} (D : Led h₀ L m h news) (V1 : WinIn news v1 coml1) (V2 : WinIn news v2 coml2) (hu : A.units + 10 < cLine) (hq : Q (.bool (!decide (coml1 = coml2))) ⟨h, g, d, t, os⟩) : wpAny (model PG w) A (compareOp .NotEq v1 v2) Q E ⟨h, g, d, t, os⟩ := by
  obtain ⟨l, ys, e, rfl, b, r, s⟩ := V1
  obtain ⟨l', ys', e', rfl, b', r', s'⟩ := V2
  have l1 : h.IsList l ys.toArray := ⟨_, (D.nw _ b).1, rfl, _, rfl⟩
  have l2 : h.IsList l' ys'.toArray := ⟨_, (D.nw _ b').1, rfl, _, rfl⟩
  refine cmp_ofNotEq ?_
  by_cases hl : ys.length = ys'.length
  · refine RcNeAt.lists (A := A) (s := ⟨h, g, d, t, os⟩) (e := fun i => decide (coml1[i]? = coml2[i]?)) l1 l2 (by simpa using hl) (by omega) (fun j h1 h2 => ?_) _ w E Q ?_
    · have h1 : j < ys.length := by simpa using h1
      have h2 : j < ys'.length := by simpa using h2
      obtain ⟨c1, hc1⟩ : ∃ c, coml1[j]? = some c := ⟨_, List.getElem?_eq_getElem (by omega)⟩
      obtain ⟨c2, hc2⟩ : ∃ c, coml2[j]? = some c := ⟨_, List.getElem?_eq_getElem (by omega)⟩
      have := LstN.eqAt (A := A.in1) (g := g) (d := d) (t := t) (os := os) D (s j ys[j] c1 (List.getElem?_eq_getElem h1) hc1) (s' j ys'[j] c2 (List.getElem?_eq_getElem h2) hc2) (by show A.units + 1 < _; omega)
      rw [hc1, hc2, show decide (some c1 = some c2) = decide (c1 = c2) from by simp]
      simpa using this
    · rw [show (List.range ys.toArray.size).all (fun i => decide (coml1[i]? = coml2[i]?)) = decide (coml1 = coml2) from all_eq (by rw [List.size_toArray]; exact r.symm) (by rw [List.size_toArray, hl]; exact r'.symm) fun i a b q1 q2 => by rw [q1, q2]; simp]
      exact hq
  · rw [len_ne (by rw [← r, ← r']; exact hl)] at hq
    exact RcNeAt.lists_lengths (A := A) (s := ⟨h, g, d, t, os⟩) l1 l2 (by simpa using hl) (by omega) _ w E Q hq
open Classical in
theorem winHas {coml : List (List Nat)} {c : List Nat} {Q : Value → Shared → Prop} (D : Led h₀ L m h news) (V1 : LstN news v1 c) (V2 : WinIn news v2 coml) (hu : A.units + 10 < cLine) (hq : Q (.bool (decide (c ∈ coml))) ⟨h, g, d, t, os⟩) : wpAny (model PG w) A (compareOp .In v1 v2) Q E ⟨h, g, d, t, os⟩ := by
  obtain ⟨l, ys, e, rfl, b, r, s⟩ := V2
  have l1 : h.IsList l ys.toArray := ⟨_, (D.nw _ b).1, rfl, _, rfl⟩
  have at_ : ∀ y ∈ ys, ∃ c' ∈ coml, LstN news y c' := fun y hy => by
    obtain ⟨i, hi, rfl⟩ := List.getElem_of_mem hy
    exact ⟨coml[i], List.getElem_mem _, s i _ _ (List.getElem?_eq_getElem hi) (List.getElem?_eq_getElem (by omega))⟩
  refine in_listAt (s := ⟨h, g, d, t, os⟩) (fun y => decide (LstN news y c)) l1 (fun y hy => ?_) ?_
  · obtain ⟨c', hc', V⟩ := at_ y (by simpa using hy)
    have := LstN.eqAt (A := A.in1) (g := g) (d := d) (t := t) (os := os) D V V1 (by show A.units + 1 < _; omega)
    rw [show decide (LstN news y c) = decide (c' = c) from by
      rw [Bool.eq_iff_iff, decide_eq_true_eq, decide_eq_true_eq]
      exact ⟨fun q => V.uniq D q, fun q => q ▸ V⟩]
    exact this
  · rw [show ys.toArray.any (fun y => decide (LstN news y c)) = decide (c ∈ coml) from by
      rw [Bool.eq_iff_iff, decide_eq_true_eq, List.any_toArray, List.any_eq_true]
      constructor
      · rintro ⟨y, hy, q⟩
        obtain ⟨c', hc', V⟩ := at_ y hy
        rw [← V.uniq D (of_decide_eq_true q)]
        exact hc'
      · intro q
        obtain ⟨i, hi, rfl⟩ := List.getElem_of_mem q
        exact ⟨ys[i], List.getElem_mem (by omega), decide_eq_true (s i _ _ (List.getElem?_eq_getElem (by omega)) (List.getElem?_eq_getElem hi))⟩]
    exact hq
end
end
section
open PySem.W.X (Led)
open PyProof.Rows PySem.Calls PySem.Spec
set_option pp.deepTerms false
section
variable {w : World} {A : Around} {env : Env} {h₀ : Heap} {g : Array GenState} {d : Drawn} {os : OsState} {m : Str → Option Value} {news : List (Addr × Obj)} {n : Nat} {E : Value → Shared → Prop} {a I S : Addr} {ys : List Value} {e : Nat} {fs : List Int} {Ct : Heap → Prop} {P : Nat → Obj → Prop}
theorem maxLoopN {R : Result → Shared → Prop} (C : Cx w A.in1 env h₀ n) (hn : 16 ≤ n) (It : ItG w I Ct ys.length (fun i v => ys[i]? = some v) P) (hct : ∀ h : Heap, (∀ p ∈ news, h.get? p.1 = some p.2) → Ct h) (hz : ys.length = fs.length) (hv : ∀ (i : Nat) (v : Value) (f : Int), ys[i]? = some v → fs[i]? = some f → NumV news v (mkRat f 6))
    (hR : ∀ v f tl h' t', Led h₀ env.locals m h' (tl ++ news) → NumV news v (mkRat f 6) → f ∈ fs → (∀ f' ∈ fs, f' ≤ f) → R (.ok (.ret v)) ⟨h', g, d, t', os⟩) :
    ∀ (k j : Nat) (h : Heap) (t : Nat) (pre : List (Addr × Obj)) (vb : Value) (fb : Int) (c : Nat) (oI : Obj), ys.length - (j + 1) = k → j + 1 ≤ ys.length → Led h₀ env.locals m h (pre ++ (S, lstO [vb, vb] c) :: (I, oI) :: news) → P (j + 1) oI → NumV news vb (mkRat fb 6) → fb ∈ fs → (∀ f' ∈ fs.take (j + 1), f' ≤ fb) →
      codeAny (model PG w) A (.builtin "max.loop" ⟨[.ref I, .none, .ref S], []⟩) R ⟨h, g, d, t, os⟩ := by
  have hname : (toString "max" ++ toString ".loop" : String) = "max.loop" := by decide
  intro k
  induction k with
  | zero =>
    intro j h t pre vb fb c oI hk hj D hP hN hf hm
    have hin : j + 1 = ys.length := by omega
    refine codeAny_builtin PySem.F.entry_max_loop ?_
    rw [Around.under_plainId PySem.F.plain_max_loop _]
    have hS := (D.nw (S, lstO [vb, vb] c) (List.mem_append_right _ (.head _))).1
    have hI := (D.nw (I, oI) (List.mem_append_right _ (.tail _ (.head _)))).1
    have hc : Ct h := hct _ fun p hp => (D.nw _ (List.mem_append_right _ (.tail _ (.tail _ hp)))).1
    show wpAny _ A.in1 (seqItems? (.ref S) >>= _) _ _ _
    refine wpAny_bind (wpAny_seqItems hS rfl ?_)
    show wpAny _ A.in1 (tryCatch (pyNext (.ref I)) _ >>= _) _ _ _
    refine wpAny_bind (wpAny_tryCatch (It.done A.in1 ⟨h, g, d, t, os⟩ oI _ _ C.hand hI (hin ▸ hP) hc fun h' hk' => ?_))
    have D1 : Led h₀ env.locals m h' ((pre ++ [(S, lstO [vb, vb] c)]) ++ news) := ledDel (by rw [List.append_assoc]; exact D) hk'
    rw [List.append_assoc] at D1
    have hS' := (D1.nw (S, lstO [vb, vb] c) (List.mem_append_right _ (.head _))).1
    show wpAny _ A.in1 (updateSeq S (fun _ => #[]) >>= _) _ _ _
    refine wpAny_bind ?_
    refine wpAny_updateSeq hS' rfl (wpAny_bind (wpAny_letGo (wpAny_pure ?_)))
    have D2 : Led h₀ env.locals m _ (pre ++ (S, lstO [] _) :: news) := ledAt D1 (fun b o hb q => (Heap.get?_update_other _ _ (Ne.symm hb)).trans q) (get?_update_seq (c := "list") hS' (fun _ => #[]))
    rw [List.append_cons] at D2
    refine hR vb fb _ _ _ D2 hN hf fun f' hf' => hm f' ?_
    rw [List.take_of_length_le (by omega)]; exact hf'
  | succ k ih =>
    intro j h t pre vb fb c oI hk hj D hP hN hf hm
    have hlt : j + 1 < ys.length := by omega
    refine codeAny_builtin PySem.F.entry_max_loop ?_
    rw [Around.under_plainId PySem.F.plain_max_loop _]
    have hS := (D.nw (S, lstO [vb, vb] c) (List.mem_append_right _ (.head _))).1
    have hI := (D.nw (I, oI) (List.mem_append_right _ (.tail _ (.head _)))).1
    have hc : Ct h := hct _ fun p hp => (D.nw _ (List.mem_append_right _ (.tail _ (.tail _ hp)))).1
    show wpAny _ A.in1 (seqItems? (.ref S) >>= _) _ _ _
    refine wpAny_bind (wpAny_seqItems hS rfl ?_)
    show wpAny _ A.in1 (tryCatch (pyNext (.ref I)) _ >>= _) _ _ _
    refine wpAny_bind (wpAny_tryCatch (It.item A.in1 (j + 1) ⟨h, g, d, t, os⟩ oI _ _ hlt hI hP hc fun v h1 o1 t1 hV e1 e2 e3 => ?_))
    have D1 : Led h₀ env.locals m h1 (pre ++ (S, lstO [vb, vb] c) :: (I, o1) :: news) := by
      have := ledAt (pre := pre ++ [(S, lstO [vb, vb] c)]) (post := news) (by rw [List.append_assoc]; exact D) e3 e1
      rw [List.append_assoc] at this
      exact this
    have hjf : j + 1 < fs.length := by omega
    have hNv := hv (j + 1) v fs[j + 1] hV (List.getElem?_eq_getElem hjf)
    have hup : ∀ p ∈ news, p ∈ pre ++ (S, lstO [vb, vb] c) :: (I, o1) :: news := fun p hp => List.mem_append_right _ (.tail _ (.tail _ hp))
    show wpAny _ A.in1 (tryCatch (holding [v, v] (richCompare .Gt v vb >>= _)) _ >>= _) _ _ _
    refine wpAny_bind (wpAny_tryCatch (wpAny_holding (wpAny_bind ?_)))
    show wpAny _ A.in1 (compareOp .Gt v vb) _ _ _
    refine (opGt w v vb _ _).use C D1 hn ⟨hNv.mono hup, hN.mono hup, by
      have a1 := sixDen fs[j + 1]
      have a2 := sixDen fb
      have := Nat.mul_le_mul a1 a2
      omega⟩ ?_
    rintro _ tl h2 t2 D2 rfl
    rw [sixLt]
    refine wpAny_bind (wpAny_holding (wpAny_truthy_bool ?_))
    refine wpAny_bind (wpAny_letGo (wpAny_pure ?_))
    have e4 : ∀ o, tl ++ (pre ++ (S, o) :: (I, o1) :: news) = (tl ++ pre) ++ (S, o) :: (I, o1) :: news := fun o => by simp only [List.append_assoc]
    rw [e4] at D2
    have htk : fs.take (j + 1 + 1) = fs.take (j + 1) ++ [fs[j + 1]] := List.take_succ_eq_append_getElem hjf
    cases hb : decide (fs[j + 1] > fb) with
    | true =>
      simp only [if_true]
      have hb := of_decide_eq_true hb
      have hS2 := (D2.nw (S, lstO [vb, vb] c) (List.mem_append_right _ (.head _))).1
      refine wpAny_bind ?_
      refine wpAny_updateSeq hS2 rfl (wpAny_bind (wpAny_letGo ?_))
      rw [hname]
      have D3 : Led h₀ env.locals m _ ((tl ++ pre) ++ (S, lstO [v, v] _) :: (I, o1) :: news) := ledAt D2 (fun b o hb q => (Heap.get?_update_other _ _ (Ne.symm hb)).trans q) (get?_update_seq (c := "list") hS2 (fun _ => #[v, v]))
      refine wpAny_pure ⟨plainId_quiet PySem.F.plain_max_loop _, ih (j + 1) _ _ _ v fs[j + 1] _ o1 (by omega) hlt D3 e2 hNv (List.getElem_mem hjf) fun f' hf' => ?_⟩
      rw [htk] at hf'
      rcases List.mem_append.mp hf' with q | q
      · have := hm f' q; omega
      · rw [List.mem_singleton.mp q]; exact Int.le_refl _
    | false =>
      simp only [Bool.false_eq_true, if_false]
      have hb := of_decide_eq_false hb
      refine wpAny_bind (wpAny_letGo ?_)
      rw [hname]
      refine wpAny_pure ⟨plainId_quiet PySem.F.plain_max_loop _, ih (j + 1) _ _ _ vb fb c o1 (by omega) hlt D2 e2 hN hf fun f' hf' => ?_⟩
      rw [htk] at hf'
      rcases List.mem_append.mp hf' with q | q
      · exact hm f' q
      · rw [List.mem_singleton.mp q]; omega
/-- max of a list of numbers -/
theorem rMaxN {h : Heap} {t : Nat} {Q : Value → Shared → Prop} (C : Cx w A env h₀ (n + 2)) (hn : 16 ≤ n) (D : Led h₀ env.locals m h news) (ha : (a, lstO ys e) ∈ news) (hy : ys ≠ []) (hz : ys.length = fs.length) (hv : ∀ (i : Nat) (v : Value) (f : Int), ys[i]? = some v → fs[i]? = some f → NumV news v (mkRat f 6))
    (hR : ∀ v f tl h' t', Led h₀ env.locals m h' (tl ++ news) → NumV news v (mkRat f 6) → f ∈ fs → (∀ f' ∈ fs, f' ≤ f) → Q v ⟨h', g, d, t', os⟩) : wpAny (model PG w) A (call (.builtin "max") [.ref a]) Q E ⟨h, g, d, t, os⟩ := by
  have hname : (toString "max" ++ toString ".loop" : String) = "max.loop" := by decide
  have C1 : Cx w A.in1 env h₀ (n + 1) := C.in1
  refine call_function_tree PySem.F.kind_max PySem.F.plain_max PySem.F.entry_max (PySem.F.args_max1 _) ?_
  show wpAny _ A.in1 (Builtin.Builtins.bindParams "max" ["key", "default"] 0 ⟨[], []⟩ >>= _) _ _ _
  refine wpAny_bind (wpAny_of_eq (show Builtin.Builtins.bindParams "max" ["key", "default"] 0 ⟨[], []⟩ = pure [none, none] from rfl) ?_)
  refine wpAny_bind (wpAny_pure ?_)
  refine wpAny_bind (itListA D ha fun I oI h1 Ct P It hP0 _ hct D1 => ?_)
  refine wpAny_bind ?_
  refine newList_K (s := ⟨h1, g, d, t, os⟩) (vs := []) D1.fr D1.nw (fun S h2 F2 N2 lt => ?_) (by simp)
  have D2 : Led h₀ env.locals m h2 ((S, lstO [] 0) :: (I, oI) :: news) := ledCons D1 F2 N2 lt
  rw [hname]
  have hpos : 0 < ys.length := List.length_pos_iff.mpr hy
  refine wpAny_pure ⟨plainId_quiet PySem.F.plain_max_loop _, ?_⟩
  refine codeAny_builtin PySem.F.entry_max_loop ?_
  rw [Around.under_plainId PySem.F.plain_max_loop _]
  have hS := (D2.nw (S, lstO [] 0) (.head _)).1
  have hI := (D2.nw (I, oI) (.tail _ (.head _))).1
  have hctn : ∀ h : Heap, (∀ p ∈ news, h.get? p.1 = some p.2) → Ct h := fun h hh => hct h (hh _ ha)
  have hc : Ct h2 := hctn _ fun p hp => (D2.nw _ (.tail _ (.tail _ hp))).1
  show wpAny _ A.in1 (seqItems? (.ref S) >>= _) _ _ _
  refine wpAny_bind (wpAny_seqItems hS rfl ?_)
  show wpAny _ A.in1 (tryCatch (pyNext (.ref I)) _ >>= _) _ _ _
  refine wpAny_bind (wpAny_tryCatch (It.item A.in1 0 ⟨h2, g, d, t, os⟩ oI _ _ hpos hI hP0 hc fun v h3 o1 t1 hV e1 e2 e3 => ?_))
  have D3 : Led h₀ env.locals m h3 ((S, lstO [] 0) :: (I, o1) :: news) := ledAt (pre := [(S, lstO [] 0)]) D2 e3 e1
  have hS3 := (D3.nw (S, lstO [] 0) (.head _)).1
  show wpAny _ A.in1 (updateSeq S (fun _ => #[v, v]) >>= _) _ _ _
  refine wpAny_bind ?_
  refine wpAny_updateSeq hS3 rfl ?_
  have D4 : Led h₀ env.locals m _ ([] ++ (S, lstO [v, v] _) :: (I, o1) :: news) := ledAt (pre := []) D3 (fun b o hb q => (Heap.get?_update_other _ _ (Ne.symm hb)).trans q) (get?_update_seq (c := "list") hS3 (fun _ => #[v, v]))
  rw [hname]
  have hf0 : 0 < fs.length := by omega
  refine wpAny_pure ⟨plainId_quiet PySem.F.plain_max_loop _, maxLoopN C1 (by omega) It hctn hz hv (fun v f tl h' t' D' a1 a2 a3 => hR v f tl h' t' D' a1 a2 a3) _ 0 _ _ [] v fs[0] _ o1 rfl hpos D4 e2 (hv 0 v fs[0] hV (List.getElem?_eq_getElem hf0)) (List.getElem_mem hf0) fun f' hf' => ?_⟩
  have : fs.take (0 + 1) = [fs[0]] := by
    cases fs with
    | nil => simp at hf0
    | cons x r => rfl
  rw [this] at hf'
  rw [List.mem_singleton.mp hf']
  exact Int.le_refl _
end
end
section
open PySem.W.X (Led)
open PyProof.Rows PySem.Calls PySem.Spec
set_option pp.deepTerms false
/-- some objects of the ledger have changed, in their places -/
theorem ledRe {h₀ h h' : Heap} {L : Addr} {m : Str → Option Value} {news news' : List (Addr × Obj)} (X : List Addr) (D : Led h₀ L m h news) (hk : ∀ b o, b ∉ X → h.get? b = some o → h'.get? b = some o) (hX : ∀ b ∈ X, b ∈ news.map (·.1)) (hn : ∀ p ∈ news', h'.get? p.1 = some p.2) (ha : news'.map (·.1) = news.map (·.1)) : Led h₀ L m h' news' := by
  have hin : ∀ b ∈ news.map (·.1), b ≠ L ∧ h₀.get? b = none := fun b hb => by
    obtain ⟨p, hp, rfl⟩ := List.mem_map.mp hb
    exact (D.nw p hp).2
  refine ⟨⟨?_, fun b o e => hk b o (fun hb => ?_) (D.fr.keep b o e), D.fr.above⟩, fun p hp => ⟨hn p hp, hin _ (ha ▸ List.mem_map_of_mem hp)⟩, ha ▸ D.ord⟩
  · obtain ⟨oL, es, ep, hL, r⟩ := D.fr.ns
    exact ⟨oL, es, ep, hk _ _ (fun hb => (hin _ (hX _ hb)).1 rfl) hL, r⟩
  · rw [(hin _ (hX _ hb)).2] at e; cases e
abbrev enuO (it : Addr) (i : Nat) (old : Value) : Obj := { cls := .type "enumerate", dict := none, data := .fields #[.none, .bool false, .ref it, rawInt (i : Int), .none, old], slots := #[] }
/-- a turn of a comprehension over enumerate has ended -/
def CEn (gB : Heap) (C D : Addr) (xs : List Str) (g : Array GenState) (d : Drawn) (os : OsState) (PO : List (Addr × Obj)) (ys : List Value) (J : List (Addr × Obj) → Prop) (s : Shared) : Prop :=
  ∃ h t vs pre e, s = ⟨h, g, d, t, os⟩ ∧ Led gB C (vec xs vs) h (pre ++ (D, lstO ys e) :: PO) ∧ J pre
theorem CEn.mk {gB h : Heap} {C D : Addr} {xs : List Str} {g : Array GenState} {d : Drawn} {t : Nat} {os : OsState} {PO : List (Addr × Obj)} {ys : List Value} {J : List (Addr × Obj) → Prop} {vs : List (Option Value)} {e : Nat} (pre : List (Addr × Obj))
    (DL : Led gB C (vec xs vs) h (pre ++ (D, lstO ys e) :: PO)) (hJ : J pre) : CEn gB C D xs g d os PO ys J ⟨h, g, d, t, os⟩ := ⟨h, t, vs, pre, e, rfl, DL, hJ⟩
section
variable {w : World} {A : Around} {env : Env} {h₀ h : Heap} {g : Array GenState} {d : Drawn} {t : Nat} {os : OsState} {m : Str → Option Value} {news : List (Addr × Obj)} {n : Nat}
theorem compEnum {elt : Expr} {es : List Expr} {k : Nat} {tp : Pos} {ifs : List Expr} {scope : Scope} {cl : List (Str × Addr)} {xs gs : List Str} {K : Addr → List Value → Nat → List (Addr × Obj) → List (Addr × Obj) → Heap → Array GenState → Nat → Prop} {en it l : Addr} {oI : Obj} {vsl : List Value} {el : Nat}
    (J : Nat → List Value → List (Addr × Obj) → Prop) (hh : A.handled = none) (DL : Led h₀ env.locals m h ((en, enuO it 0 .none) :: (it, oI) :: news)) (hI0 : oI.cls = .type "list_iterator" ∧ oI.data = .fields #[.ref l, .int 0 0]) (hl : (l, lstO vsl el) ∈ news) (hN : vsl.length < 1000000) (hJ : J 0 [] []) (hlen : ∀ i ys pre, J i ys pre → ys.length ≤ i)
    (turn : ∀ gB C D env' i ys vs pre e PO q tk h t v, vsl[i]? = some v → env' = compEnvC scope cl C env → (∀ p ∈ news, p ∈ PO) → (∀ p ∈ PO, p.1 < D) → D < C → Cx w A env' gB n → FnL xs gs env'.scope → J i ys pre → Led gB env'.locals (vec xs vs) h ((q, tupO [.int (i : Int) tk, v]) :: (pre ++ (D, lstO ys e) :: PO)) →
      wpAny (model PG w) A (assign (.Tuple es k tp) env' (.ref q)) (fun _ s₂ => wpAny (model PG w) A (forIn ifs true fun c r => if r = true then do let ok ← isTrue c env' (eval c env'); pure (ForInStep.yield ok) else pure (ForInStep.yield r)) (fun ok s₃ =>
            Br ok (wpAny (model PG w) A (eval elt env') (fun x s₄ => CEn gB env'.locals D xs g d os PO ys (J (i + 1) (ys ++ [x])) s₄) (fun _ _ => False) s₃)
              (CEn gB env'.locals D xs g d os PO ys (J (i + 1) ys) s₃)) (fun _ _ => False) s₂) (fun _ _ => False) ⟨h, g, d, t, os⟩)
    (fin : ∀ D ys e pre oE h' t', (∀ p ∈ news, p.1 < D) → J vsl.length ys pre → Led h₀ env.locals m h' (pre ++ (D, lstO ys e) :: (en, oE) :: news) → K D ys e pre ((en, oE) :: news) h' g t') :
    CompAt w A env h₀ n d os m cl scope xs gs (.Tuple es k tp) elt ifs K (.ref en) ⟨h, g, d, t, os⟩ := by
  refine ⟨en, (en, enuO it 0 .none) :: (it, oI) :: news, fun k ys vs pre post g' => ∃ i old oI, k = vsl.length - i ∧ i ≤ vsl.length ∧ post = (en, enuO it i old) :: (it, oI) :: news ∧ oI.cls = .type "list_iterator" ∧ oI.data = .fields #[.ref l, .int (i : Int) 0] ∧ J i ys pre ∧ g' = g,
    fun ys pre post g' => (∃ oE, post = (en, oE) :: news) ∧ g' = g ∧ J vsl.length ys pre, vsl.length, h, g, t, rfl, rfl, DL, ?_, ⟨0, .none, oI, rfl, Nat.zero_le _, rfl, hI0.1, hI0.2, hJ, rfl⟩, ?_, ?_⟩
  · intro h g t Q E hm _ hq
    exact wpAny_pyIter_enum (s := ⟨h, g, d, t, os⟩) (hm (en, enuO it 0 .none) (.head _)) hq
  · rintro gB C D env' k ys vs pre post e h g' t he hlt hDC Cx' fl ⟨i, old, oI, rfl, hi, rfl, hI1, hI2, hJi, rfl⟩ D'
    have hE : h.get? en = some (enuO it i old) := (D'.nw _ (List.mem_append_right _ (.tail _ (.head _)))).1
    have hI : h.get? it = some oI := (D'.nw _ (List.mem_append_right _ (.tail _ (.tail _ (.head _))))).1
    have hL : h.get? l = some (lstO vsl el) := (D'.nw _ (List.mem_append_right _ (.tail _ (.tail _ (.tail _ hl))))).1
    have hIt : h.IsListIter it l i := ⟨oI, hI, hI1, hI2⟩
    have hLl : h.IsList l vsl.toArray := ⟨_, hL, rfl, _, rfl⟩
    have hne : en ≠ it := fun q => by rw [q, hI] at hE; cases hE; exact absurd hI1 (by show ¬ (Value.type "enumerate" = Value.type "list_iterator"); decide)
    have eA : ∀ (pre : List (Addr × Obj)) (ys : List Value) (e : Nat) (oE oI : Obj), pre ++ (D, lstO ys e) :: (en, oE) :: (it, oI) :: news = (pre ++ [(D, lstO ys e), (en, oE)]) ++ (it, oI) :: news := fun pre ys e oE oI => by simp
    unfold CTurn
    by_cases hlt' : i < vsl.length
    · refine wpAny_pyNext_enum_item (s := ⟨h, g', d, t, os⟩) hE hIt hLl (x := vsl[i]) (by simp [hlt']) hne fun h1 a1 a2 a3 a4 a5 => ?_
      dsimp only
      refine wpAny_letOwnedTupleGo_enum (s := ⟨h1, g', d, t + 1, os⟩) a1 fun h2 b1 b2 => ?_
      obtain ⟨o2, c1, c2, c3⟩ := a2
      have hq2 : h2.get? h.objs.size = some (tupO [.int (i : Int) t, vsl[i]]) := (b2.2 _ (Nat.ne_of_gt (Heap.lt_size hE))).trans a3
      have hi2 : h2.get? it = some o2 := (b2.2 _ hne.symm).trans c1
      have hk2 : ∀ b o, b ∉ [en, it] → h.get? b = some o → h2.get? b = some o := fun b o hb q => by
        simp only [List.mem_cons, List.not_mem_nil, or_false, not_or] at hb
        exact (b2.2 b hb.1).trans (a5 b o hb.1 hb.2 q)
      have D2 : Led gB env'.locals (vec xs vs) h2 (pre ++ (D, lstO ys e) :: (en, enuO it (i + 1) vsl[i]) :: (it, o2) :: news) := by
        have hord := D'.ord
        rw [eA, List.map_append, List.pairwise_append] at hord
        have hnd : ∀ p ∈ pre ++ (D, lstO ys e) :: news, p.1 ∉ [en, it] := fun p hp => by
          have ho := D'.ord
          rw [List.map_append, List.map_cons, List.map_cons, List.map_cons, List.pairwise_append] at ho
          obtain ⟨_, o2, o3⟩ := ho
          rw [List.pairwise_cons, List.pairwise_cons, List.pairwise_cons] at o2
          simp only [List.mem_cons, List.not_mem_nil, or_false, not_or]
          rcases List.mem_append.mp hp with z | z
          · exact ⟨Nat.ne_of_gt (o3 p.1 (List.mem_map_of_mem z) en (by simp)), Nat.ne_of_gt (o3 p.1 (List.mem_map_of_mem z) it (by simp))⟩
          · rcases List.mem_cons.mp z with rfl | z
            · exact ⟨Nat.ne_of_gt (o2.1 en (by simp)), Nat.ne_of_gt (o2.1 it (by simp))⟩
            · exact ⟨Nat.ne_of_lt (o2.2.1 p.1 (.tail _ (List.mem_map_of_mem z))), Nat.ne_of_lt (o2.2.2.1 p.1 (List.mem_map_of_mem z))⟩
        refine ledRe [en, it] D' hk2 (fun b hb => ?_) (fun p hp => ?_) (by simp)
        · simp only [List.mem_cons, List.not_mem_nil, or_false] at hb
          rcases hb with rfl | rfl <;> simp
        · have keep : ∀ p ∈ pre ++ (D, lstO ys e) :: news, h2.get? p.1 = some p.2 := fun p hp => hk2 _ _ (hnd p hp) (D'.nw p (by
            rcases List.mem_append.mp hp with z | z
            · exact List.mem_append_left _ z
            · rcases List.mem_cons.mp z with rfl | z
              · exact List.mem_append_right _ (.head _)
              · exact List.mem_append_right _ (.tail _ (.tail _ (.tail _ z))))).1
          rcases List.mem_append.mp hp with z | z
          · exact keep p (List.mem_append_left _ z)
          · rcases List.mem_cons.mp z with rfl | z
            · exact keep _ (List.mem_append_right _ (.head _))
            · rcases List.mem_cons.mp z with rfl | z
              · exact b1
              · rcases List.mem_cons.mp z with rfl | z
                · exact hi2
                · exact keep p (List.mem_append_right _ (.tail _ z))
      have hqs : ∀ p ∈ pre ++ (D, lstO ys e) :: (en, enuO it (i + 1) vsl[i]) :: (it, o2) :: news, p.1 < h.objs.size := fun p hp => by
        have : p.1 ∈ (pre ++ (D, lstO ys e) :: (en, enuO it i old) :: (it, oI) :: news).map (·.1) := by
          have := List.mem_map_of_mem (f := (·.1)) hp
          simpa using this
        obtain ⟨p', hp', e'⟩ := List.mem_map.mp this
        rw [← e']
        exact Heap.lt_size (D'.nw p' hp').1
      have D3 : Led gB env'.locals (vec xs vs) h2 ((h.objs.size, tupO [.int (i : Int) t, vsl[i]]) :: (pre ++ (D, lstO ys e) :: (en, enuO it (i + 1) vsl[i]) :: (it, o2) :: news)) := by
        refine ⟨D2.fr, fun p hp => ?_, ?_⟩
        · rcases List.mem_cons.mp hp with rfl | hp
          · obtain ⟨oL, _, _, hLo, _⟩ := D'.fr.ns
            refine ⟨hq2, Nat.ne_of_gt (Heap.lt_size hLo), ?_⟩
            cases q : gB.get? h.objs.size with
            | none => rfl
            | some o => exact absurd (Heap.lt_size (D'.fr.keep _ _ q)) (Nat.lt_irrefl _)
          · exact D2.nw p hp
        · rw [List.map_cons]
          refine List.Pairwise.cons (fun b hb => ?_) D2.ord
          obtain ⟨p, hp, rfl⟩ := List.mem_map.mp hb
          exact hqs p hp
      refine wpAny_mono (turn gB C D env' i ys vs pre e ((en, enuO it (i + 1) vsl[i]) :: (it, o2) :: news) h.objs.size t h2 (t + 1) vsl[i] (List.getElem?_eq_getElem hlt') he (fun p hp => .tail _ (.tail _ hp)) (fun p hp => ?_) hDC Cx' fl hJi D3) (fun _ s2 q => wpAny_mono q (fun ok s3 q => ?_) fun _ _ e => e.elim) fun _ _ e => e.elim
      · have ho := D2.ord
        rw [List.map_append, List.map_cons, List.pairwise_append, List.pairwise_cons] at ho
        exact ho.2.1.1 p.1 (List.mem_map_of_mem hp)
      have conv : ∀ ys' s', CEn gB env'.locals D xs g' d os ((en, enuO it (i + 1) vsl[i]) :: (it, o2) :: news) ys (J (i + 1) ys') s' → CSt gB env'.locals D xs d os (vsl.length - i) ys (fun k' vs pre post g => ∃ i old oI, k' = vsl.length - i ∧ i ≤ vsl.length ∧ post = (en, enuO it i old) :: (it, oI) :: news ∧ oI.cls = .type "list_iterator" ∧ oI.data = .fields #[.ref l, .int (i : Int) 0] ∧ J i ys' pre ∧ g = g') s' := by
        rintro ys' s' ⟨h4, t4, vs4, pre4, e4, rfl, D4, J4⟩
        exact ⟨h4, g', t4, vs4, pre4, _, e4, vsl.length - (i + 1), rfl, D4, by omega, i + 1, _, o2, rfl, hlt', rfl, c2, c3, J4, rfl⟩
      have hl := hlen _ _ _ hJi
      cases ok with
      | false => exact conv ys s3 q
      | true =>
        refine wpAny_mono (q : wpAny _ _ _ _ _ _) (fun x s4 q => ⟨by omega, conv (ys ++ [x]) s4 q⟩) fun _ _ e => e.elim
    · obtain rfl : i = vsl.length := by omega
      refine wpAny_pyNext_enum_end (s := ⟨h, g', d, t, os⟩) hh hE hIt hLl (by simp) fun h2 e3 => ?_
      refine ⟨h2, g', t, vs, pre, (en, enuO it vsl.length old) :: news, e, 0, rfl, ?_, Nat.zero_lt_one, ⟨_, rfl⟩, rfl, hJi⟩
      have := ledDel (by rw [eA] at D'; exact D') (fun b o q q' => e3 b o q q')
      simpa using this
  · rintro D ys e pre post h' g' t' hlt ⟨⟨oE, rfl⟩, rfl, hJ⟩ D'
    exact fin D ys e pre oE h' t' (fun p hp => hlt p (.tail _ (.tail _ hp))) hJ D'
/-- enumerate(a list) -/
theorem rEnum {a : Addr} {ys : List Value} {e : Nat} {Q E : Value → Shared → Prop} (D : Led h₀ env.locals m h news) (hm : (a, lstO ys e) ∈ news)
    (hq : ∀ en it oI h', Led h₀ env.locals m h' ((en, enuO it 0 .none) :: (it, oI) :: news) → oI.cls = .type "list_iterator" ∧ oI.data = .fields #[.ref a, .int 0 0] → Q (.ref en) ⟨h', g, d, t, os⟩) : wpAny (model PG w) A (call (.type "enumerate") [.ref a]) Q E ⟨h, g, d, t, os⟩ := by
  refine call_enumerate_list (s := ⟨h, g, d, t, os⟩) ⟨_, (D.nw _ hm).1, rfl, _, rfl⟩ fun h' e1 e2 e3 e4 => ?_
  obtain ⟨oI, f1, f2, f3⟩ := e2
  refine hq (h.objs.size + 1) h.objs.size oI h' ?_ ⟨f2, f3⟩
  have D1 := ledKept D e4
  have hs : ∀ p ∈ news, p.1 < h.objs.size := fun p hp => Heap.lt_size (D.nw p hp).1
  have hn0 : ∀ k, h.objs.size ≤ k → h₀.get? k = none := fun k hk => by
    cases q : h₀.get? k with
    | none => rfl
    | some o => exact absurd (Heap.lt_size (D.fr.keep _ _ q)) (Nat.not_lt.mpr hk)
  obtain ⟨oL, _, _, hLo, _⟩ := D.fr.ns
  have hLs := Heap.lt_size hLo
  refine ⟨D1.fr, fun p hp => ?_, ?_⟩
  · rcases List.mem_cons.mp hp with rfl | hp
    · exact ⟨e1, Nat.ne_of_gt (Nat.lt_succ_of_lt hLs), hn0 _ (Nat.le_succ _)⟩
    · rcases List.mem_cons.mp hp with rfl | hp
      · exact ⟨f1, Nat.ne_of_gt hLs, hn0 _ (Nat.le_refl _)⟩
      · exact D1.nw p hp
  · rw [List.map_cons, List.map_cons]
    refine List.Pairwise.cons (fun b hb => ?_) (List.Pairwise.cons (fun b hb => ?_) D1.ord)
    · rcases List.mem_cons.mp hb with rfl | hb
      · exact Nat.lt_succ_self _
      · obtain ⟨p, hp, rfl⟩ := List.mem_map.mp hb
        exact Nat.lt_succ_of_lt (hs p hp)
    · obtain ⟨p, hp, rfl⟩ := List.mem_map.mp hb
      exact hs p hp
end
end
section
open PySem.W.X (Led)
open PyProof.Rows PySem.Calls PySem.Spec
set_option pp.deepTerms false
/-- the law's text from a statement on, and its frame -/
noncomputable def lawTail (w : World) (k : Nat) : List Stmt := match (hd.heap_39 w.params).lookup 758 with
  | some ⟨_, _, .func fd, _⟩ => (match fd.body with | .stmts b => b.drop k | _ => [])
  | _ => []
noncomputable def lawEnv (w : World) (L f : Addr) (cd : Value) : Env := match (hd.heap_39 w.params).lookup 758 with
  | some ⟨_, _, .func fd, _⟩ => envOfC fd.qualname fd.scope L f cd
  | _ => envOfC "" ⟨.function, [], false, false, []⟩ L f cd
section
variable {w : World} {A : Around} {env : Env} {s : Shared} {E : Value → Shared → Prop}
theorem lawGo {k : Nat} {name qual : Str} {params : Arguments} {body : List Stmt} {scope : Scope} {dV kV doc pm cdv ct oc : Value} {an od : Option Addr} {osl : Array (Option Value)} {Q : Flow → Shared → Prop} (ho : (hd.heap_39 w.params).lookup 758 = some ⟨oc, od, .func (fnOf name qual params body scope dV kV doc pm an cdv ct), osl⟩)
    (h : wpAny (model PG w) A (execs (body.drop k) env) Q E s) : wpAny (model PG w) A (execs (lawTail w k) env) Q E s := by
  unfold lawTail
  rw [ho]
  exact h
theorem lawEnv_eq {L f : Addr} {cd : Value} {name qual : Str} {params : Arguments} {body : List Stmt} {scope : Scope} {dV kV doc pm cdv ct oc : Value} {an od : Option Addr} {osl : Array (Option Value)} (ho : (hd.heap_39 w.params).lookup 758 = some ⟨oc, od, .func (fnOf name qual params body scope dV kV doc pm an cdv ct), osl⟩) : lawEnv w L f cd = envOfC qual scope L f cd := by
  unfold lawEnv
  rw [ho]
end
abbrev lawNs : List Str := ["script", "head", "size", "seats", "ballots", "k", "number", "first", "second", "by_first", "best", "common"]
abbrev lawGs : List Str := ["_law_at", "range", "max", "abs", "len", "_law_profile", "_law_winners", "sum", "enumerate"]
abbrev lawCells (L : Addr) (o5 o4 o3 o2 o1 : Obj) : List (Addr × Obj) := [(L + 1 + 1 + 1 + 1 + 1, o5), (L + 1 + 1 + 1 + 1, o4), (L + 1 + 1 + 1, o3), (L + 1 + 1, o2), (L + 1, o1)]
/-- what is asked at the law's end -/
def LawEnd (gk : Nat) (g0 : Array GenState) (fs : List Addr) (gb : Heap) (L : Addr) (d : Drawn) (os : OsState) (Q : Flow → Shared → Prop) : Prop :=
  ∀ h' g' t' gb₂ m' X' T', KtsTurn fs gb gb₂ → Led gb₂ L m' h' (X' ++ Tabs.l T') → T'.ok → GB gk g0 g' → Q (.ret (.bool true)) ⟨h', g', d, t', os⟩
theorem LawEnd.turn {gk : Nat} {g0 : Array GenState} {fs : List Addr} {gb gb' : Heap} {L : Addr} {d : Drawn} {os : OsState} {Q : Flow → Shared → Prop} (k : LawEnd gk g0 fs gb L d os Q) (T : KtsTurn fs gb gb') : LawEnd gk g0 fs gb' L d os Q :=
  fun h' g' t' gb₂ m' X' T' KT D hT G => k h' g' t' gb₂ m' X' T' (T.trans KT) D hT G
/-- a list of ballots as an electorate -/
def elOf (size : Nat) (bs : List (Nat × Int)) : List (List Nat × Int) := bs.map fun b => (appr size b.1, b.2)
theorem elOf_app (size : Nat) (a b : List (Nat × Int)) : elOf size (a ++ b) = elOf size a ++ elOf size b := List.map_append
theorem appr_lt {size num : Nat} : ∀ u ∈ appr size num, u < size := fun u h => List.mem_range.mp (List.mem_filter.mp h).1
theorem elOf_lt {size : Nat} {bs : List (Nat × Int)} : ∀ e ∈ elOf size bs, ∀ u ∈ e.1, u < size := fun e he u hu => by
  obtain ⟨b, _, rfl⟩ := List.mem_map.mp he
  exact appr_lt u hu
theorem elOf_pos {size : Nat} {bs : List (Nat × Int)} (h : ∀ b ∈ bs, 0 < b.2) : ∀ e ∈ elOf size bs, 0 < e.2 := fun e he => by
  obtain ⟨b, hb, rfl⟩ := List.mem_map.mp he
  exact h b hb
/-- committees' lists that a list of values holds -/
def LstsN (news : List (Addr × Obj)) (ys : List Value) (cl : List (List Nat)) : Prop := ys.length = cl.length ∧ ∀ (i : Nat) (v : Value) (c : List Nat), ys[i]? = some v → cl[i]? = some c → LstN news v c
theorem LstsN.mono {news news' : List (Addr × Obj)} {ys : List Value} {cl : List (List Nat)} (V : LstsN news ys cl) (h : ∀ p ∈ news, p ∈ news') : LstsN news' ys cl := ⟨V.1, fun i v c h1 h2 => (V.2 i v c h1 h2).mono h⟩
theorem LstsN.snoc {news : List (Addr × Obj)} {ys : List Value} {cl : List (List Nat)} (V : LstsN news ys cl) {v : Value} {c : List Nat} (hv : LstN news v c) : LstsN news (ys ++ [v]) (cl ++ [c]) := by
  refine ⟨by simp [V.1], fun i v' c' h1 h2 => ?_⟩
  have h := V.1
  by_cases q : i < ys.length
  · rw [List.getElem?_append_left q] at h1
    rw [List.getElem?_append_left (by omega)] at h2
    exact V.2 i v' c' h1 h2
  · have hl := (List.getElem?_eq_some_iff.mp h1).1
    simp at hl
    obtain rfl : i = ys.length := by omega
    rw [List.getElem?_append_right (Nat.le_refl _), Nat.sub_self] at h1
    rw [List.getElem?_append_right (by omega), h, Nat.sub_self] at h2
    cases h1; cases h2
    exact hv
theorem LstsN.nil (news : List (Addr × Obj)) : LstsN news [] [] := ⟨rfl, fun i v c h _ => by cases h⟩
theorem take_filter {α : Type} {l : List α} {i : Nat} (h : i < l.length) (p : α → Bool) : (l.take (i + 1)).filter p = (l.take i).filter p ++ if p l[i] = true then [l[i]] else [] := by
  rw [List.take_succ_eq_append_getElem h, List.filter_append]
  congr 1
  by_cases q : p l[i] = true
  · rw [if_pos q, List.filter_cons_of_pos q]; rfl
  · rw [if_neg q, List.filter_cons_of_neg q]; rfl
/-- ballots that a list of values holds -/
def BalsN (news : List (Addr × Obj)) (ys : List Value) (bs : List (Nat × Int)) : Prop := ys.length = bs.length ∧ ∀ (i : Nat) (v : Value) (b : Nat × Int), ys[i]? = some v → bs[i]? = some b → BalIn news v b.1 b.2
theorem BalsN.mono {news news' : List (Addr × Obj)} {ys : List Value} {bs : List (Nat × Int)} (V : BalsN news ys bs) (h : ∀ p ∈ news, p ∈ news') : BalsN news' ys bs := ⟨V.1, fun i v c h1 h2 => (V.2 i v c h1 h2).mono h⟩
theorem BalsN.app {news : List (Addr × Obj)} {ys zs : List Value} {bs cs : List (Nat × Int)} (V : BalsN news ys bs) (W : BalsN news zs cs) : BalsN news (ys ++ zs) (bs ++ cs) := by
  refine ⟨by simp [V.1, W.1], fun i v b h1 h2 => ?_⟩
  have h := V.1
  by_cases q : i < ys.length
  · rw [List.getElem?_append_left q] at h1
    rw [List.getElem?_append_left (by omega)] at h2
    exact V.2 i v b h1 h2
  · rw [List.getElem?_append_right (by omega)] at h1
    rw [List.getElem?_append_right (by omega), ← h] at h2
    exact W.2 _ v b h1 h2
theorem BalsN.snoc {news : List (Addr × Obj)} {ys : List Value} {bs : List (Nat × Int)} (V : BalsN news ys bs) {v : Value} {b : Nat × Int} (hv : BalIn news v b.1 b.2) : BalsN news (ys ++ [v]) (bs ++ [b]) :=
  V.app ⟨rfl, fun i v' b' h1 h2 => by
    cases i with
    | zero => cases h1; cases h2; exact hv
    | succ i => cases h1⟩
end
section
open PySem.W.X (Led)
open PyProof.Rows PySem.Calls PySem.Spec
set_option pp.deepTerms false
section
variable {w : World} {A : Around} {env : Env} {base gb h : Heap} {fs : List Addr} {L f : Addr} {cd : Value} {gk : Nat} {g0 g : Array GenState} {d : Drawn} {t : Nat} {os : OsState} {T : Tabs} {Q : Flow → Shared → Prop}
/-- the law's last statements: the heavy electorate first -/
theorem lawF (C : Cx w A env gb 95) (K : Kn w A env base gb fs) (he : env = lawEnv w L f cd) (fl : FnL lawNs lawGs env.scope) (G : GB gk g0 g) (hT : T.ok) (hE : LawEnd gk g0 fs gb env.locals d os Q)
    {X : List (Addr × Obj)} {o1 o2 o3 o4 o5 : Obj} {r : Ru} {ts th tz tse tH : Tok} {sl lF lS l1 l2 lb : Addr} {hd0 H : Int} {size seats : Nat} {cb ck cn : Option Value} {F S : List (Nat × Int)} {Fv Sv : List Value} {eF eS : Nat}
    (D : Led gb env.locals (vec lawNs [some (.ref sl), some (.int hd0 th), some (.int (size : Int) tz), some (.int (seats : Int) tse), cb, ck, cn, some (.ref lF), some (.ref lS), some (.ref l1), some (.ref lb), none]) h ((X ++ lawCells L o5 o4 o3 o2 o1) ++ T.l))
    (ho1 : o1.data = .cell (some (.str r.str ts))) (ho3 : o3.data = .cell (some (.ref l2))) (ho4 : o4.data = .cell (some (.int H tH)))
    (hsz : size ∈ [3, 4]) (hse : seats ∈ [1, 2]) (hF : ∀ b ∈ F, 0 < b.2) (hS : ∀ b ∈ S, 0 < b.2) (hF1 : F ≠ []) (hS1 : S ≠ []) (hFl : F.length < 10) (hSl : S.length < 10) (hmul : ∀ b ∈ F, IntMulOk b.2 H) (hH : H = 100 * ((elOf size S).map (·.2)).sum)
    (mF : (lF, lstO Fv eF) ∈ X) (bF : BalsN X Fv F) (mS : (lS, lstO Sv eS) ∈ X) (bS : BalsN X Sv S)
    (w1 : WinIn X (.ref l1) (tops (coms size seats) (fun c => sc r c (elOf size F)))) (w2 : WinIn X (.ref l2) (tops (coms size seats) (fun c => sc r c (elOf size S))))
    (wb : WinIn X (.ref lb) ((tops (coms size seats) (fun c => sc r c (elOf size F))).filter (fun c => decide (∀ c' ∈ tops (coms size seats) (fun c => sc r c (elOf size F)), sc r c' (elOf size S) ≤ sc r c (elOf size S))))) :
    wpAny (model PG w) A (execs (lawTail w 13) env) Q (fun _ _ => False) ⟨h, g, d, t, os⟩ := by
  have he := he.trans (lawEnv_eq (by k_is))
  have hl1 : CellAt env "rule" (L + 1) := by rw [he]; exact ⟨rfl, rfl⟩
  have hl3 : CellAt env "by_second" (L + 1 + 1 + 1) := by rw [he]; exact ⟨rfl, rfl⟩
  have hl4 : CellAt env "heavy" (L + 1 + 1 + 1 + 1) := by rw [he]; exact ⟨rfl, rfl⟩
  have mc1 : ∀ Y, (L + 1, o1) ∈ Y ++ ((X ++ lawCells L o5 o4 o3 o2 o1) ++ T.l) := fun Y => List.mem_append_right _ (List.mem_append_left _ (List.mem_append_right _ (by simp)))
  k_dflt (refine' lawGo ?o ?_)
  (case o => k_is)
  dsimp only [List.drop]
  have m1 := mc1 []
  dsimp only [List.nil_append] at m1
  have hst : ∀ Y, (∀ p ∈ X ++ lawCells L o5 o4 o3 o2 o1, p ∈ Y ++ (X ++ lawCells L o5 o4 o3 o2 o1)) := fun Y p hp => List.mem_append_right _ hp
  kcf_all
  refine rCompD ["number", "weight"] [] [("heavy", L + 1 + 1 + 1 + 1)] C D (fun _ => by rfl) (by rw [he]; rfl) (by rfl) rfl (by rfl) (by rw [he]; kernel_rfl!) ?_
  kcf_all
  have mF0 : (lF, lstO Fv eF) ∈ (X ++ lawCells L o5 o4 o3 o2 o1) ++ T.l := List.mem_append_left _ (List.mem_append_left _ mF)
  refine itListA D mF0 fun I oI h1 Ct P It hP0 _ hct D1 => ?_
  refine compIt (fun i ys pre => BalsN pre ys ((F.map fun b => (b.1, b.2 * H)).take i)) C.hand It hP0 (fun h hh => hct h (hh _ mF0)) D1 (.inr ⟨_, _, _, rfl⟩) (by rw [bF.1]; omega) ⟨rfl, fun i v b h _ => by cases h⟩ (fun i ys pre q => by rw [q.1]; exact List.length_take_le _ _) ?_ ?_
  · rintro gB Cc DD env2 i ys vs pre e o6 h2 t2 v hi hV he2 _ _ Cc flc hJ hP2 D2
    clear D1
    have hib : i < F.length := by rw [← bF.1]; exact hi
    obtain ⟨q, t5, t6, rfl, hq⟩ := bF.2 i v F[i] hV (List.getElem?_eq_getElem hib)
    obtain ⟨c1, c2, ec⟩ := vec2 "number" "weight" vs
    rw [ec] at D2
    refine asTup2 Cc D2 (List.mem_append_right _ (.tail _ (.tail _ (List.mem_append_left _ (List.mem_append_left _ hq))))) fun h3 D3 => ?_
    clear D2
    refine wpAny_assign_Name (rSto Cc flc D3 (by kaf_suf) fun h4 t4 D4 => ?_)
    refine wpAny_assign_Name (rSto Cc flc D4 (by kaf_suf) fun h5 t5 D5 => ?_)
    clear D4 D3
    refine wpAny_tests_nil (Br.y rfl ?_)
    have hc4 : CellAt env2 "heavy" (L + 1 + 1 + 1 + 1) := by rw [he2, he]; exact ⟨rfl, rfl⟩
    have mc4 : (L + 1 + 1 + 1 + 1, o4) ∈ pre ++ (DD, lstO ys e) :: (I, o6) :: ((X ++ lawCells L o5 o4 o3 o2 o1) ++ T.l) := List.mem_append_right _ (.tail _ (.tail _ (List.mem_append_left _ (List.mem_append_right _ (by simp)))))
    kcf_all
    refine oMul (hmul _ (List.getElem_mem hib)) fun tk t7 => ?_
    kcf_all
    rename_i qn h6 D6
    clear D5
    refine CIt.mk (_ :: pre) D6 hP2 ?_
    have hm : i < (F.map fun b => (b.1, b.2 * H)).length := by rw [List.length_map]; exact hib
    rw [List.take_succ_eq_append_getElem hm, List.getElem_map]
    exact (hJ.mono fun p hp => .tail _ hp).snoc ⟨qn, _, _, rfl, .head _⟩
  · rintro DD ys e pre h2 t2 _ hJ D2
    clear D1
    rw [List.take_of_length_le (by rw [List.length_map, bF.1]; exact Nat.le_refl _)] at hJ
    have mS2 : (lS, lstO Sv eS) ∈ pre ++ (DD, lstO ys e) :: ((X ++ lawCells L o5 o4 o3 o2 o1) ++ T.l) := List.mem_append_right _ (.tail _ (List.mem_append_left _ (List.mem_append_left _ mS)))
    refine rAddL D2 mS2 (List.mem_append_right _ (.head _)) (by rw [bS.1, hJ.1, List.length_map]; omega) fun ln h3 D3 => ?_
    clear D2
    have bN : BalsN ((ln, lstO (Sv ++ ys) 0) :: (pre ++ (DD, lstO ys e) :: (X ++ lawCells L o5 o4 o3 o2 o1))) (Sv ++ ys) (S ++ F.map fun b => (b.1, b.2 * H)) :=
      (bS.mono fun p hp => .tail _ (List.mem_append_right _ (.tail _ (List.mem_append_left _ hp)))).app (hJ.mono fun p hp => .tail _ (List.mem_append_left _ hp))
    have e3 : (ln, lstO (Sv ++ ys) 0) :: (pre ++ (DD, lstO ys e) :: ((X ++ lawCells L o5 o4 o3 o2 o1) ++ T.l)) = ((ln, lstO (Sv ++ ys) 0) :: (pre ++ (DD, lstO ys e) :: (X ++ lawCells L o5 o4 o3 o2 o1))) ++ T.l := by simp only [List.append_assoc, List.cons_append]
    rw [e3] at D3
    have uX : ∀ p ∈ X ++ lawCells L o5 o4 o3 o2 o1, p ∈ (ln, lstO (Sv ++ ys) 0) :: (pre ++ (DD, lstO ys e) :: (X ++ lawCells L o5 o4 o3 o2 o1)) := fun p hp => .tail _ (List.mem_append_right _ (.tail _ hp))
    obtain ⟨DY, hDY⟩ : ∃ DY, DY = (ln, lstO (Sv ++ ys) 0) :: (pre ++ (DD, lstO ys e) :: (X ++ lawCells L o5 o4 o3 o2 o1)) := ⟨_, rfl⟩
    have mln : (ln, lstO (Sv ++ ys) 0) ∈ DY := by rw [hDY]; exact .head _
    rw [← hDY] at D3 bN uX
    clear hDY e3 hJ
    have hpos : ∀ b ∈ S ++ F.map fun b => (b.1, b.2 * H), 0 < b.2 := fun b hb => by
      rcases List.mem_append.mp hb with z | z
      · exact hS b z
      · obtain ⟨b', hb', rfl⟩ := List.mem_map.mp z
        refine Int.mul_pos (hF b' hb') ?_
        rw [hH]
        have := sum_pos (elOf_pos (size := size) hS) (by simpa [elOf] using hS1)
        omega
    have hlen : (S ++ F.map fun b => (b.1, b.2 * H)).length < 900 := by rw [List.length_append, List.length_map]; omega
    kcf_all
    refine (lawProf (gk := gk) (g0 := g0) w size tz ln _ (by simp at hsz; omega) (by simp at hsz; omega) hlen hpos).use DY C (by decide) G hT D3 ⟨_, _, mln, bN.1, bN.2⟩ ?_
    rintro _ tl T4 g4 h4 t4 G4 hT4 D4 ⟨pf, rfl, hP⟩
    clear D3
    kcf_all
    have e4 : tl ++ (DY ++ T4.l) = (tl ++ DY) ++ T4.l := (List.append_assoc _ _ _).symm
    rw [e4] at D4
    have hel1 : 0 < (elOf size (S ++ F.map fun b => (b.1, b.2 * H))).length := by
      unfold elOf
      rw [List.length_map, List.length_append]
      have := List.length_pos_iff.mpr hS1
      omega
    refine (winM gk g0 w r ts tse pf size seats (elOf size (S ++ F.map fun b => (b.1, b.2 * H))) hsz hse elOf_lt (elOf_pos hpos) hel1 (by unfold elOf; rw [List.length_map]; omega)).use (tl ++ DY) C (by decide) K G4 hT4 D4 hP ?_
    rintro wv tl6 T6 g6 h6 t6 h₂ KT C2 K2 G6 hT6 D6 hW
    clear D4 C K
    have hE2 := hE.turn KT
    kcf_all
    have u6 : ∀ p ∈ X ++ lawCells L o5 o4 o3 o2 o1, p ∈ tl6 ++ ((tl ++ DY) ++ T6.l) := fun p hp => List.mem_append_right _ (List.mem_append_left _ (List.mem_append_right _ (uX p hp)))
    have e5 : ∀ b ∈ F, (fun e : List Nat × Int => (e.1, e.2 * (100 * ((elOf size S).map (·.2)).sum))) (appr size b.1, b.2) = (appr size b.1, b.2 * H) := fun b _ => by rw [hH]
    have e6 : elOf size (S ++ F.map fun b => (b.1, b.2 * H)) = elOf size S ++ (elOf size F).map fun e => (e.1, e.2 * (100 * ((elOf size S).map (·.2)).sum)) := by
      rw [elOf_app]
      unfold elOf
      rw [List.map_map, List.map_map]
      congr 1
      refine List.map_congr_left fun b hb => ?_
      show (appr size b.1, b.2 * H) = (appr size b.1, b.2 * _)
      rw [hH]; rfl
    rw [e6, law_one r hsz hse (elOf_pos hS) (by simpa [elOf] using hS1)] at hW
    refine winNe D6 (hW.mono fun p hp => ?_) (wb.mono fun p hp => u6 p (List.mem_append_left _ hp)) (by have := C2.units; omega) ?_
    · rcases List.mem_append.mp hp with z | z
      · exact List.mem_append_left _ z
      · exact List.mem_append_right _ (List.mem_append_left _ z)
    rw [decide_eq_true rfl]
    kcf_all
    refine rCompAD ["committee"] [] [("by_second", L + 1 + 1 + 1)] C2 fl D6 (by rw [he]; with_unfolding_all rfl) (by kat_tups) (fun _ => by rfl) (by rw [he]; rfl) (by rfl) rfl (by rfl) (by rw [he]; kernel_rfl!) ?_
    kcf_all
    obtain ⟨l1', y1, e1, q1, mW1, hW1⟩ := w1
    cases q1
    have mW1' := u6 _ (List.mem_append_left _ mW1)
    refine itListA D6 mW1' fun I oI h7 Ct P It hP0 _ hct D7 => ?_
    clear D6
    obtain ⟨l, hl⟩ : ∃ l, l = tops (coms size seats) (fun c => sc r c (elOf size F)) := ⟨_, rfl⟩
    obtain ⟨l', hl'⟩ : ∃ l, l = tops (coms size seats) (fun c => sc r c (elOf size S)) := ⟨_, rfl⟩
    rw [← hl] at hW1
    rw [← hl'] at w2
    have hll : l.length < 10 := by rw [hl]; exact Nat.lt_of_le_of_lt (tops_sub _ _).length_le (coms_facts size hsz seats hse).2.2.2.1
    refine compIt (fun i ys pre => pre = [] ∧ LstsN X ys ((l.take i).filter fun c => decide (c ∈ l'))) C2.hand It hP0 (fun h hh => hct h (hh _ mW1')) D7 (.inl ⟨_, _, rfl⟩) (by rw [hW1.1]; omega) ⟨rfl, LstsN.nil X⟩ (fun i ys pre q => by
      rw [q.2.1]
      exact Nat.le_trans (List.length_filter_le _ _) (List.length_take_le _ _)) ?_ ?_
    · rintro gB Cc DD2 env2 i ys2 vs pre2 e7 o6 h8 t8 v hi hV he2 _ _ Cc flc ⟨rfl, hJ⟩ hP2 D8
      clear D7
      have hil : i < l.length := by rw [← hW1.1]; exact hi
      have hv := hW1.2 i v l[i] hV (List.getElem?_eq_getElem hil)
      obtain ⟨c1, ec⟩ := vec1 "committee" vs
      rw [ec] at D8
      refine wpAny_assign_Name (rSto Cc flc D8 (by kaf_suf) fun h9 t9 D9 => ?_)
      clear D8
      dsimp only [List.nil_append] at D9
      have hc3 : CellAt env2 "by_second" (L + 1 + 1 + 1) := by rw [he2, he]; exact ⟨rfl, rfl⟩
      have u9 : ∀ p ∈ X ++ lawCells L o5 o4 o3 o2 o1, p ∈ (DD2, lstO ys2 e7) :: (I, o6) :: (tl6 ++ ((tl ++ DY) ++ T6.l)) := fun p hp => .tail _ (.tail _ (u6 p hp))
      have mc3 := u9 (L + 1 + 1 + 1, o3) (List.mem_append_right _ (by simp))
      refine wpAny_tests_one ?_
      kcf_all
      refine winHas D9 (hv.mono fun p hp => u9 p (List.mem_append_left _ hp)) (w2.mono fun p hp => u9 p (List.mem_append_left _ hp)) (by have := Cc.units; omega) ?_
      kcf_all
      refine Br.sp (fun hc => ?_) (fun hc => ?_)
      · kcf_all
        refine CIt.mk [] D9 hP2 ⟨rfl, ?_⟩
        rw [take_filter hil, if_pos hc]
        exact hJ.snoc hv
      · refine CIt.mk [] D9 hP2 ⟨rfl, ?_⟩
        rw [take_filter hil, if_neg (by rw [hc]; exact Bool.false_ne_true), List.append_nil]
        exact hJ
    · rintro lc cvs ec pre2 h8 t8 _ ⟨rfl, hJ⟩ D8 _
      clear D7
      rw [List.take_of_length_le (by rw [hW1.1]; exact Nat.le_refl _)] at hJ
      refine ⟨_, by kaf_suf, fun h9 t9 D9 => ?_⟩
      clear D8
      dsimp only [List.nil_append] at D9
      kcf_all
      rename_i a10 h10 D10
      have u10 : ∀ p ∈ X ++ lawCells L o5 o4 o3 o2 o1, p ∈ (a10, lstO [] 0) :: (lc, lstO cvs ec) :: (tl6 ++ ((tl ++ DY) ++ T6.l)) := fun p hp => .tail _ (.tail _ (u6 p hp))
      have hJ10 := hJ.mono fun p hp => u10 p (List.mem_append_left _ hp)
      refine winEq D10 (v1 := .ref lc) (v2 := .ref a10) (coml2 := []) ⟨lc, cvs, ec, rfl, .tail _ (.head _), hJ10.1, hJ10.2⟩ ⟨a10, [], 0, rfl, .head _, rfl, fun i v c h _ => by cases h⟩ (by have := C2.units; omega) ?_
      kcf_all
      refine Br.sp (fun hc => ?_) (fun hc => ?_)
      · rw [hc]
        kcf_all
        have e10 : (a10, lstO [] 0) :: (lc, lstO cvs ec) :: (tl6 ++ ((tl ++ DY) ++ T6.l)) = ((a10, lstO [] 0) :: (lc, lstO cvs ec) :: (tl6 ++ (tl ++ DY))) ++ T6.l := by simp only [List.append_assoc, List.cons_append]
        rw [e10] at D10
        exact hE2 _ _ _ _ _ _ T6 KtsTurn.refl D10 hT6 G6
      · have hne : (l.filter fun c => decide (c ∈ l')) ≠ [] := of_decide_eq_false hc
        clear D9
        have m6 := u6 (L + 1, o1) (List.mem_append_right _ (by simp))
        kcf_all
        refine rAddL D10 (u10 _ (List.mem_append_left _ mF)) (u10 _ (List.mem_append_left _ mS)) (by rw [bF.1, bS.1]; omega) fun ln2 h11 D11 => ?_
        clear D10
        have e11 : (ln2, lstO (Fv ++ Sv) 0) :: (a10, lstO [] 0) :: (lc, lstO cvs ec) :: (tl6 ++ ((tl ++ DY) ++ T6.l)) = ((ln2, lstO (Fv ++ Sv) 0) :: (a10, lstO [] 0) :: (lc, lstO cvs ec) :: (tl6 ++ (tl ++ DY))) ++ T6.l := by simp only [List.append_assoc, List.cons_append]
        rw [e11] at D11
        have uX2 : ∀ p ∈ X ++ lawCells L o5 o4 o3 o2 o1, p ∈ (ln2, lstO (Fv ++ Sv) 0) :: (a10, lstO [] 0) :: (lc, lstO cvs ec) :: (tl6 ++ (tl ++ DY)) := fun p hp => .tail _ (.tail _ (.tail _ (List.mem_append_right _ (List.mem_append_right _ (uX p hp)))))
        have bN2 := (bF.app bS).mono fun p hp => uX2 p (List.mem_append_left _ hp)
        have mln2 : (ln2, lstO (Fv ++ Sv) 0) ∈ (ln2, lstO (Fv ++ Sv) 0) :: (a10, lstO [] 0) :: (lc, lstO cvs ec) :: (tl6 ++ (tl ++ DY)) := .head _
        have mlc2 : (lc, lstO cvs ec) ∈ (ln2, lstO (Fv ++ Sv) 0) :: (a10, lstO [] 0) :: (lc, lstO cvs ec) :: (tl6 ++ (tl ++ DY)) := .tail _ (.tail _ (.head _))
        obtain ⟨DZ, hDZ⟩ : ∃ DZ, DZ = (ln2, lstO (Fv ++ Sv) 0) :: (a10, lstO [] 0) :: (lc, lstO cvs ec) :: (tl6 ++ (tl ++ DY)) := ⟨_, rfl⟩
        rw [← hDZ] at D11 bN2 uX2 mln2 mlc2
        clear hDZ e11
        have hpos2 : ∀ b ∈ F ++ S, 0 < b.2 := fun b hb => (List.mem_append.mp hb).elim (hF b) (hS b)
        have hlen2 : (F ++ S).length < 900 := by rw [List.length_append]; omega
        kcf_all
        refine (lawProf (gk := gk) (g0 := g0) w size tz ln2 _ (by simp at hsz; omega) (by simp at hsz; omega) hlen2 hpos2).use DZ C2 (by decide) G6 hT6 D11 ⟨_, _, mln2, bN2.1, bN2.2⟩ ?_
        rintro _ tl12 T12 g12 h12 t12 G12 hT12 D12 ⟨pf2, rfl, hP2⟩
        clear D11
        kcf_all
        have e12 : tl12 ++ (DZ ++ T12.l) = (tl12 ++ DZ) ++ T12.l := (List.append_assoc _ _ _).symm
        rw [e12] at D12
        refine (winM gk g0 w r ts tse pf2 size seats (elOf size (F ++ S)) hsz hse elOf_lt (elOf_pos hpos2) (by
          unfold elOf
          rw [List.length_map, List.length_append]
          have := List.length_pos_iff.mpr hS1
          omega) (by unfold elOf; rw [List.length_map]; omega)).use (tl12 ++ DZ) C2 (by decide) K2 G12 hT12 D12 hP2 ?_
        rintro wv2 tl13 T13 g13 h13 t13 h₃ KT2 C3 K3 G13 hT13 D13 hW2
        clear D12 C2 K2
        have hE3 := hE2.turn KT2
        kcf_all
        rw [elOf_app, law_two r (by rw [← hl, ← hl']; exact hne), ← hl, ← hl'] at hW2
        refine winEq D13 (hW2.mono fun p hp => ?_) (v2 := .ref lc) ⟨lc, cvs, ec, rfl, List.mem_append_right _ (List.mem_append_left _ (List.mem_append_right _ mlc2)), hJ.1, fun i v c h1 h2 => (hJ.2 i v c h1 h2).mono fun p hp => List.mem_append_right _ (List.mem_append_left _ (List.mem_append_right _ (uX2 p (List.mem_append_left _ hp))))⟩ (by have := C3.units; omega) ?_
        · rcases List.mem_append.mp hp with z | z
          · exact List.mem_append_left _ z
          · exact List.mem_append_right _ (List.mem_append_left _ z)
        rw [decide_eq_true rfl]
        kcf_all
        have e13 : tl13 ++ ((tl12 ++ DZ) ++ T13.l) = (tl13 ++ (tl12 ++ DZ)) ++ T13.l := (List.append_assoc _ _ _).symm
        rw [e13] at D13
        exact hE3 _ _ _ _ _ _ T13 KtsTurn.refl D13 hT13 G13
end
end
section
open PySem.W.X (Led)
open PyProof.Rows PySem.Calls PySem.Spec
set_option pp.deepTerms false
theorem lawTail_eq {w : World} {k : Nat} {name qual : Str} {params : Arguments} {body : List Stmt} {scope : Scope} {dV kV doc pm cdv ct oc : Value} {an od : Option Addr} {osl : Array (Option Value)} (ho : (hd.heap_39 w.params).lookup 758 = some ⟨oc, od, .func (fnOf name qual params body scope dV kV doc pm an cdv ct), osl⟩) : lawTail w k = body.drop k := by
  unfold lawTail
  rw [ho]
/-- the second electorate's scores of the first one's winners -/
def NumsN (news : List (Addr × Obj)) (sv : List Value) (fs : List Int) : Prop := sv.length = fs.length ∧ ∀ (i : Nat) (v : Value) (f : Int), sv[i]? = some v → fs[i]? = some f → NumV news v (mkRat f 6)
theorem NumsN.mono {news news' : List (Addr × Obj)} {sv : List Value} {fs : List Int} (V : NumsN news sv fs) (h : ∀ p ∈ news, p ∈ news') : NumsN news' sv fs := ⟨V.1, fun i v f h1 h2 => (V.2 i v f h1 h2).mono h⟩
theorem NumsN.snoc {news : List (Addr × Obj)} {ys : List Value} {fs : List Int} (V : NumsN news ys fs) {v : Value} {f : Int} (hv : NumV news v (mkRat f 6)) : NumsN news (ys ++ [v]) (fs ++ [f]) := by
  refine ⟨by simp [V.1], fun i v' c' h1 h2 => ?_⟩
  have h := V.1
  by_cases q : i < ys.length
  · rw [List.getElem?_append_left q] at h1
    rw [List.getElem?_append_left (by omega)] at h2
    exact V.2 i v' c' h1 h2
  · have hl := (List.getElem?_eq_some_iff.mp h1).1
    simp at hl
    obtain rfl : i = ys.length := by omega
    rw [List.getElem?_append_right (Nat.le_refl _), Nat.sub_self] at h1
    rw [List.getElem?_append_right (by omega), h, Nat.sub_self] at h2
    cases h1; cases h2
    exact hv
section
variable {w : World} {A : Around} {env : Env} {base gb h : Heap} {fs : List Addr} {L f : Addr} {cd : Value} {gk : Nat} {g0 g : Array GenState} {d : Drawn} {t : Nat} {os : OsState} {T : Tabs} {Q : Flow → Shared → Prop}
/-- the best of the first one's winners -/
theorem lawE2 (C : Cx w A env gb 95) (K : Kn w A env base gb fs) (he : env = lawEnv w L f cd) (fl : FnL lawNs lawGs env.scope) (G : GB gk g0 g) (hT : T.ok) (hE : LawEnd gk g0 fs gb env.locals d os Q)
    {X : List (Addr × Obj)} {o1 o2 o3 o4 o5 : Obj} {r : Ru} {ts th tz tse tH : Tok} {sl lF lS l1 l2 ls : Addr} {hd0 H : Int} {size seats : Nat} {cb ck cn : Option Value} {F S : List (Nat × Int)} {Fv Sv sv : List Value} {eF eS es : Nat}
    (D : Led gb env.locals (vec lawNs [some (.ref sl), some (.int hd0 th), some (.int (size : Int) tz), some (.int (seats : Int) tse), cb, ck, cn, some (.ref lF), some (.ref lS), some (.ref l1), none, none]) h ((X ++ lawCells L o5 o4 o3 o2 o1) ++ T.l))
    (ho1 : o1.data = .cell (some (.str r.str ts))) (ho3 : o3.data = .cell (some (.ref l2))) (ho4 : o4.data = .cell (some (.int H tH))) (ho5 : o5.data = .cell (some (.ref ls)))
    (hsz : size ∈ [3, 4]) (hse : seats ∈ [1, 2]) (hF : ∀ b ∈ F, 0 < b.2) (hS : ∀ b ∈ S, 0 < b.2) (hF1 : F ≠ []) (hS1 : S ≠ []) (hFl : F.length < 10) (hSl : S.length < 10) (hmul : ∀ b ∈ F, IntMulOk b.2 H) (hH : H = 100 * ((elOf size S).map (·.2)).sum)
    (mF : (lF, lstO Fv eF) ∈ X) (bF : BalsN X Fv F) (mS : (lS, lstO Sv eS) ∈ X) (bS : BalsN X Sv S)
    (w1 : WinIn X (.ref l1) (tops (coms size seats) (fun c => sc r c (elOf size F)))) (w2 : WinIn X (.ref l2) (tops (coms size seats) (fun c => sc r c (elOf size S))))
    (ms : (ls, lstO sv es) ∈ X) (ns : NumsN X sv ((tops (coms size seats) (fun c => sc r c (elOf size F))).map fun c => sc r c (elOf size S))) :
    wpAny (model PG w) A (execs (lawTail w 12) env) Q (fun _ _ => False) ⟨h, g, d, t, os⟩ := by
  have he0 := he
  have he := he.trans (lawEnv_eq (by k_is))
  have e13 := lawTail_eq (w := w) (k := 13) (by k_is)
  dsimp only [List.drop] at e13
  k_dflt (refine' lawGo ?o ?_)
  (case o => k_is)
  dsimp only [List.drop]
  refine rCons ?_
  refine rCompAD ["k", "committee"] ["max"] [("sums", L + 1 + 1 + 1 + 1 + 1)] C fl D (by rw [he]; with_unfolding_all rfl) (by kat_tups) (fun _ => by rfl) (by rw [he]; rfl) (by rfl) rfl (by rfl) (by rw [he]; kernel_rfl!) ?_
  kcf_all
  obtain ⟨l, hl⟩ : ∃ l, l = tops (coms size seats) (fun c => sc r c (elOf size F)) := ⟨_, rfl⟩
  have w1' := w1
  obtain ⟨l1', y1, e1, q1, mW1, hW1⟩ := w1
  cases q1
  rw [← hl] at hW1 ns
  have hll : l.length < 10 := by rw [hl]; exact Nat.lt_of_le_of_lt (tops_sub _ _).length_le (coms_facts size hsz seats hse).2.2.2.1
  have mW1' : (l1, lstO y1 e1) ∈ (X ++ lawCells L o5 o4 o3 o2 o1) ++ T.l := List.mem_append_left _ (List.mem_append_left _ mW1)
  refine rEnum D mW1' fun en it oI h1 D1 hI0 => ?_
  refine wpAny_pyIter_enum (s := ⟨_, _, _, _, _⟩) (D1.nw _ (.head _)).1 ?_
  refine compEnum (fun i ys pre => LstsN X ys ((l.take i).filter fun c => decide (∀ c' ∈ l, sc r c' (elOf size S) ≤ sc r c (elOf size S)))) C.hand D1 hI0 mW1' (by rw [hW1.1]; omega) (LstsN.nil X) (fun i ys pre q => by
      rw [q.1]
      exact Nat.le_trans (List.length_filter_le _ _) (List.length_take_le _ _)) ?_ ?_
  · rintro gB Cc DD env2 i ys vs pre e7 PO q tk h2 t2 v hV he2 hPO _ _ Cc2 flc hJ D2
    clear D1 D
    have hil : i < l.length := by rw [← hW1.1]; exact (List.getElem?_eq_some_iff.mp hV).1
    have hv := hW1.2 i v l[i] hV (List.getElem?_eq_getElem hil)
    obtain ⟨c1, c2, ec⟩ := vec2 "k" "committee" vs
    rw [ec] at D2
    refine asTup2 Cc2 D2 (.head _) fun h3 D3 => ?_
    clear D2
    refine wpAny_assign_Name (rSto Cc2 flc D3 (by kaf_suf) fun h4 t4 D4 => ?_)
    refine wpAny_assign_Name (rSto Cc2 flc D4 (by kaf_suf) fun h5 t5 D5 => ?_)
    clear D4 D3
    have hc5 : CellAt env2 "sums" (L + 1 + 1 + 1 + 1 + 1) := by rw [he2, he]; exact ⟨rfl, rfl⟩
    have u5 : ∀ p ∈ X ++ lawCells L o5 o4 o3 o2 o1, p ∈ (q, tupO [.int (i : Int) tk, v]) :: (pre ++ (DD, lstO ys e7) :: PO) := fun p hp => .tail _ (List.mem_append_right _ (.tail _ (hPO p (List.mem_append_left _ hp))))
    have mc5 := u5 (L + 1 + 1 + 1 + 1 + 1, o5) (List.mem_append_right _ (by simp))
    have ms5 := u5 _ (List.mem_append_left _ ms)
    have ns5 := ns.mono fun p hp => u5 p (List.mem_append_left _ hp)
    obtain ⟨NW, hNW⟩ : ∃ NW, NW = (q, tupO [.int (i : Int) tk, v]) :: (pre ++ (DD, lstO ys e7) :: PO) := ⟨_, rfl⟩
    rw [← hNW] at D5 u5 mc5 ms5 ns5
    have hsl : i < sv.length := by rw [ns.1, List.length_map]; exact hil
    have hns : NumV NW sv[i] (mkRat (sc r l[i] (elOf size S)) 6) := ns5.2 i _ _ (List.getElem?_eq_getElem hsl) (by rw [List.getElem?_map, List.getElem?_eq_getElem hil]; rfl)
    refine wpAny_tests_one ?_
    kcf_all
    refine Subscript_ ?_
    kcf_all
    refine rItem D5 ms5 (by omega) (by omega) (v := sv[i]) (by rw [Int.toNat_natCast]; exact List.getElem?_eq_getElem hsl) (by rfl) ?_
    kcf_all
    refine rMaxN (n := 93) Cc2 (by decide) D5 ms5 (fun q => by rw [q] at hsl; exact absurd hsl (Nat.not_lt_zero _)) ns5.1 ns5.2 fun mv fm tl h6 t6 D6 hmv hfm hmax => ?_
    clear D5
    kcf_all
    refine (opEq w sv[i] mv _ _).use Cc2 D6 (by decide) ⟨hns.mono fun p hp => List.mem_append_right _ hp, hmv.mono fun p hp => List.mem_append_right _ hp⟩ ?_
    rintro _ tl7 h7 t7 D7 rfl
    clear D6
    rw [sixEq]
    have hP : decide (sc r l[i] (elOf size S) = fm) = decide (∀ c' ∈ l, sc r c' (elOf size S) ≤ sc r l[i] (elOf size S)) := by
      rw [decide_eq_decide]
      constructor
      · intro q c' hc'
        rw [q]
        exact hmax _ (List.mem_map_of_mem hc')
      · intro q
        obtain ⟨c', hc', e'⟩ := List.mem_map.mp hfm
        have h1 := q c' hc'
        have h2 := hmax _ (List.mem_map_of_mem (f := fun c => sc r c (elOf size S)) (List.getElem_mem hil))
        rw [e'] at h1
        exact Int.le_antisymm h2 h1
    rw [hP]
    have e8 : tl7 ++ (tl ++ NW) = (tl7 ++ (tl ++ (q, tupO [.int (i : Int) tk, v]) :: pre)) ++ (DD, lstO ys e7) :: PO := by rw [hNW]; simp only [List.append_assoc, List.cons_append]
    rw [e8] at D7
    kcf_all
    refine Br.sp (fun hc => ?_) (fun hc => ?_)
    · kcf_all
      refine CEn.mk _ D7 ?_
      rw [take_filter hil, if_pos hc]
      exact hJ.snoc hv
    · refine CEn.mk _ D7 ?_
      rw [take_filter hil, if_neg (by rw [hc]; exact Bool.false_ne_true), List.append_nil]
      exact hJ
  · rintro DD ys e7 pre oE h2 t2 _ hJ D2 _
    clear D1 D
    rw [List.take_of_length_le (by rw [hW1.1]; exact Nat.le_refl _)] at hJ
    refine ⟨_, by kaf_suf, fun h9 t9 D9 => ?_⟩
    clear D2
    refine Seq.nx ?_
    rw [← e13]
    have e9 : pre ++ (DD, lstO ys e7) :: (en, oE) :: ((X ++ lawCells L o5 o4 o3 o2 o1) ++ T.l) = ((pre ++ (DD, lstO ys e7) :: (en, oE) :: X) ++ lawCells L o5 o4 o3 o2 o1) ++ T.l := by simp only [List.append_assoc, List.cons_append]
    rw [e9] at D9
    have u9 : ∀ p ∈ X, p ∈ pre ++ (DD, lstO ys e7) :: (en, oE) :: X := fun p hp => List.mem_append_right _ (.tail _ (.tail _ hp))
    have hJ9 := hJ.mono u9
    refine lawF C K he0 fl G hT hE D9 ho1 ho3 ho4 hsz hse hF hS hF1 hS1 hFl hSl hmul hH (u9 _ mF) (bF.mono u9) (u9 _ mS) (bS.mono u9) (w1'.mono u9) (w2.mono u9) ⟨DD, ys, e7, rfl, List.mem_append_right _ (.head _), ?_, ?_⟩
    · rw [← hl]; exact hJ9.1
    · rw [← hl]; exact hJ9.2
end
end
section
open PySem.W.X (Led)
open PyProof.Rows PySem.Calls PySem.Spec
set_option pp.deepTerms false
section
variable {w : World} {A : Around} {env : Env} {base gb h : Heap} {fs : List Addr} {L f : Addr} {cd : Value} {gk : Nat} {g0 g : Array GenState} {d : Drawn} {t : Nat} {os : OsState} {T : Tabs} {Q : Flow → Shared → Prop}
/-- the second electorate's scores -/
theorem lawE1 (C : Cx w A env gb 95) (K : Kn w A env base gb fs) (he : env = lawEnv w L f cd) (fl : FnL lawNs lawGs env.scope) (G : GB gk g0 g) (hT : T.ok) (hE : LawEnd gk g0 fs gb env.locals d os Q)
    {X : List (Addr × Obj)} {o1 o2 o3 o4 o5 : Obj} {r : Ru} {ts th tz tse tH : Tok} {sl lF lS l1 l2 pf : Addr} {hd0 H : Int} {size seats : Nat} {cb ck cn v5 : Option Value} {F S : List (Nat × Int)} {Fv Sv : List Value} {eF eS : Nat}
    (D : Led gb env.locals (vec lawNs [some (.ref sl), some (.int hd0 th), some (.int (size : Int) tz), some (.int (seats : Int) tse), cb, ck, cn, some (.ref lF), some (.ref lS), some (.ref l1), none, none]) h ((X ++ lawCells L o5 o4 o3 o2 o1) ++ T.l))
    (ho1 : o1.data = .cell (some (.str r.str ts))) (ho2 : o2.data = .cell (some (.ref pf))) (ho3 : o3.data = .cell (some (.ref l2))) (ho4 : o4.data = .cell (some (.int H tH))) (ho5 : o5.data = .cell v5)
    (hsz : size ∈ [3, 4]) (hse : seats ∈ [1, 2]) (hF : ∀ b ∈ F, 0 < b.2) (hS : ∀ b ∈ S, 0 < b.2) (hF1 : F ≠ []) (hS1 : S ≠ []) (hFl : F.length < 10) (hSl : S.length < 10) (hmul : ∀ b ∈ F, IntMulOk b.2 H) (hH : H = 100 * ((elOf size S).map (·.2)).sum)
    (mF : (lF, lstO Fv eF) ∈ X) (bF : BalsN X Fv F) (mS : (lS, lstO Sv eS) ∈ X) (bS : BalsN X Sv S) (hP : ProfIn w X pf size (elOf size S))
    (w1 : WinIn X (.ref l1) (tops (coms size seats) (fun c => sc r c (elOf size F)))) (w2 : WinIn X (.ref l2) (tops (coms size seats) (fun c => sc r c (elOf size S)))) :
    wpAny (model PG w) A (execs (lawTail w 11) env) Q (fun _ _ => False) ⟨h, g, d, t, os⟩ := by
  have he0 := he
  have he := he.trans (lawEnv_eq (by k_is))
  have e12 := lawTail_eq (w := w) (k := 12) (by k_is)
  dsimp only [List.drop] at e12
  have hl5 : CellAt env "sums" (L + 1 + 1 + 1 + 1 + 1) := by rw [he]; exact ⟨rfl, rfl⟩
  k_dflt (refine' lawGo ?o ?_)
  (case o => k_is)
  dsimp only [List.drop]
  refine rCons ?_
  refine wpAny_Assign_Name ?_ (by rw [he]; with_unfolding_all rfl)
  refine rCompD ["committee"] ["thiele_score"] [("rule", L + 1), ("other", L + 1 + 1)] C D (fun _ => by rfl) (by rw [he]; rfl) (by rfl) rfl (by rfl) (by rw [he]; kernel_rfl!) ?_
  kcf_all
  obtain ⟨l, hl⟩ : ∃ l, l = tops (coms size seats) (fun c => sc r c (elOf size F)) := ⟨_, rfl⟩
  have w1' := w1
  obtain ⟨l1', y1, e1, q1, mW1, hW1⟩ := w1
  cases q1
  rw [← hl] at hW1
  have hll : l.length < 10 := by rw [hl]; exact Nat.lt_of_le_of_lt (tops_sub _ _).length_le (coms_facts size hsz seats hse).2.2.2.1
  have hcf : ∀ c ∈ l, c.Nodup ∧ c.length ≤ 2 := fun c hc => by
    rw [hl] at hc
    have := (coms_facts size hsz seats hse).1 c (mem_tops.mp hc).1
    exact ⟨this.2.2.1, this.2.1⟩
  have mW1' : (l1, lstO y1 e1) ∈ (X ++ lawCells L o5 o4 o3 o2 o1) ++ T.l := List.mem_append_left _ (List.mem_append_left _ mW1)
  refine itListA D mW1' fun I oI h1 Ct P It hP0 _ hct D1 => ?_
  refine compIt (fun i ys pre => NumsN pre ys ((l.take i).map fun c => sc r c (elOf size S))) C.hand It hP0 (fun h hh => hct h (hh _ mW1')) D1 (.inl ⟨_, _, rfl⟩) (by rw [hW1.1]; omega) ⟨rfl, fun i v f h _ => by cases h⟩ (fun i ys pre q => by rw [q.1, List.length_map]; exact List.length_take_le _ _) ?_ ?_
  · rintro gB Cc DD env2 i ys vs pre e7 o6 h2 t2 v hi hV he2 _ _ Cc2 flc hJ hP2 D2
    clear D1 D
    have hil : i < l.length := by rw [← hW1.1]; exact hi
    obtain ⟨a, avs, ae, rfl, ma, hav⟩ := hW1.2 i v l[i] hV (List.getElem?_eq_getElem hil)
    obtain ⟨c1, ec⟩ := vec1 "committee" vs
    rw [ec] at D2
    refine wpAny_assign_Name (rSto Cc2 flc D2 (by kaf_suf) fun h3 t3 D3 => ?_)
    clear D2
    refine wpAny_tests_nil (Br.y rfl ?_)
    have hc1 : CellAt env2 "rule" (L + 1) := by rw [he2, he]; exact ⟨rfl, rfl⟩
    have hc2 : CellAt env2 "other" (L + 1 + 1) := by rw [he2, he]; exact ⟨rfl, rfl⟩
    have u5 : ∀ p ∈ X ++ lawCells L o5 o4 o3 o2 o1, p ∈ pre ++ (DD, lstO ys e7) :: (I, o6) :: ((X ++ lawCells L o5 o4 o3 o2 o1) ++ T.l) := fun p hp => List.mem_append_right _ (.tail _ (.tail _ (List.mem_append_left _ hp)))
    have mc1 := u5 (L + 1, o1) (List.mem_append_right _ (by simp))
    have mc2 := u5 (L + 1 + 1, o2) (List.mem_append_right _ (by simp))
    kcf_all
    refine (thieleS w r ts pf a size (elOf size S) (lstO avs ae) avs l[i] (hcf _ (List.getElem_mem hil)).1 (hcf _ (List.getElem_mem hil)).2).t.use Cc2 D3 (by decide) ⟨hP.mono fun p hp => u5 p (List.mem_append_left _ hp), u5 _ (List.mem_append_left _ ma), .list rfl rfl, hav⟩ ?_
    intro rv tl h4 t4 D4 hN
    clear D3
    rw [← List.append_assoc] at D4
    refine CIt.mk _ D4 hP2 ?_
    rw [List.take_succ_eq_append_getElem hil, List.map_append]
    exact (hJ.mono fun p hp => List.mem_append_right _ hp).snoc (hN.mono fun p hp => List.mem_append_left _ hp)
  · rintro DD ys e7 pre h2 t2 _ hJ D2
    clear D1 D
    rw [List.take_of_length_le (by rw [hW1.1]; exact Nat.le_refl _)] at hJ
    have e9 : ∀ o', pre ++ (DD, lstO ys e7) :: ((X ++ lawCells L o' o4 o3 o2 o1) ++ T.l) = (pre ++ (DD, lstO ys e7) :: X) ++ (L + 1 + 1 + 1 + 1 + 1, o') :: ([(L + 1 + 1 + 1 + 1, o4), (L + 1 + 1 + 1, o3), (L + 1 + 1, o2), (L + 1, o1)] ++ T.l) := fun o' => by simp only [List.append_assoc, List.cons_append, List.nil_append]
    rw [e9] at D2
    refine rCellSto C.kind D2 hl5.1 hl5.2 (UpdG.z.app _) ho5 fun h3 o5' ho5' D3 => ?_
    clear D2
    have e10 : (pre ++ (DD, lstO ys e7) :: X) ++ (L + 1 + 1 + 1 + 1 + 1, o5') :: ([(L + 1 + 1 + 1 + 1, o4), (L + 1 + 1 + 1, o3), (L + 1 + 1, o2), (L + 1, o1)] ++ T.l) = ((pre ++ (DD, lstO ys e7) :: X) ++ lawCells L o5' o4 o3 o2 o1) ++ T.l := by simp only [List.append_assoc, List.cons_append, List.nil_append]
    have D3 : Led _ _ _ _ ((pre ++ (DD, lstO ys e7) :: X) ++ (L + 1 + 1 + 1 + 1 + 1, o5') :: ([(L + 1 + 1 + 1 + 1, o4), (L + 1 + 1 + 1, o3), (L + 1 + 1, o2), (L + 1, o1)] ++ T.l)) := D3
    rw [e10] at D3
    refine Seq.nx ?_
    rw [← e12]
    have u9 : ∀ p ∈ X, p ∈ pre ++ (DD, lstO ys e7) :: X := fun p hp => List.mem_append_right _ (.tail _ hp)
    refine lawE2 C K he0 fl G hT hE D3 ho1 ho3 ho4 ho5' hsz hse hF hS hF1 hS1 hFl hSl hmul hH (u9 _ mF) (bF.mono u9) (u9 _ mS) (bS.mono u9) (w1'.mono u9) (w2.mono u9) (List.mem_append_right _ (.head _)) ?_
    rw [← hl]
    exact hJ.mono fun p hp => List.mem_append_left _ hp
end
end
section
open PySem.W.X (Led)
open PyProof.Rows PySem.Calls PySem.Spec
set_option pp.deepTerms false
theorem ProfIn.mono2 {w : World} {news news' : List (Addr × Obj)} {pf : Addr} {size : Nat} {el : List (List Nat × Int)} (P : ProfIn w news pf size el) (h : ∀ p ∈ news, (∀ v, p.2.data ≠ .cell v) → p ∈ news') : ProfIn w news' pf size el := by
  obtain ⟨pdx, o, lv, lc, lnm, vvs, ev, cvs, ec, a, b, c, d, e, f, g, k⟩ := P
  have hf : ∀ {o : Obj} {l : List (Str × Value)}, Flds o l → ∀ v, o.data ≠ .cell v := fun F v q => by
    obtain ⟨es, n, rfl, _⟩ := F
    cases q
  refine ⟨pdx, o, lv, lc, lnm, vvs, ev, cvs, ec, h _ a fun v q => (by cases q), h _ b (hf c), c, h _ d fun v q => (by cases q), h _ e fun v q => (by cases q), f, g, fun i v e h1 h2 => ?_⟩
  obtain ⟨vo, vdx, o, cs, dd, x, ep, tw, a, b, c, d, e, f⟩ := k i v e h1 h2
  exact ⟨vo, vdx, o, cs, dd, x, ep, tw, a, h _ b fun v q => (by cases q), h _ c (hf d), d, h _ e fun v q => (by cases q), f⟩
theorem WinIn.mono2 {news news' : List (Addr × Obj)} {v : Value} {coml : List (List Nat)} (V : WinIn news v coml) (h : ∀ p ∈ news, (∀ v, p.2.data ≠ .cell v) → p ∈ news') : WinIn news' v coml := by
  obtain ⟨l, ys, e, a, b, c, r⟩ := V
  refine ⟨l, ys, e, a, h _ b fun v q => (by cases q), c, fun i v c' h1 h2 => ?_⟩
  obtain ⟨a, vs, e, q, b, r⟩ := r i v c' h1 h2
  exact ⟨a, vs, e, q, h _ b fun v q => (by cases q), r⟩
theorem noCell {tl X : List (Addr × Obj)} {L : Addr} {o5 o4 o3 o2 o1 : Obj} {v1 v2 v3 v4 v5 : Option Value} (h1 : o1.data = .cell v1) (h2 : o2.data = .cell v2) (h3 : o3.data = .cell v3) (h4 : o4.data = .cell v4) (h5 : o5.data = .cell v5) : ∀ p ∈ tl ++ (X ++ lawCells L o5 o4 o3 o2 o1), (∀ v, p.2.data ≠ .cell v) → p ∈ tl ++ X := fun p hp hn => by
  rcases List.mem_append.mp hp with q | q
  · exact List.mem_append_left _ q
  · rcases List.mem_append.mp q with q | q
    · exact List.mem_append_right _ q
    · simp only [List.mem_cons, List.not_mem_nil, or_false] at q
      rcases q with rfl | rfl | rfl | rfl | rfl
      · exact absurd h5 (hn _)
      · exact absurd h4 (hn _)
      · exact absurd h3 (hn _)
      · exact absurd h2 (hn _)
      · exact absurd h1 (hn _)
section
variable {w : World} {A : Around} {env : Env} {base gb h : Heap} {fs : List Addr} {L f : Addr} {cd : Value} {gk : Nat} {g0 g : Array GenState} {d : Drawn} {t : Nat} {os : OsState} {T : Tabs} {Q : Flow → Shared → Prop}
/-- what unpacking into a local and a cell asks -/
def UnpCEnd (ns : List Str) (L : Addr) (a : Str) (c : Addr) (Q : Flow → Shared → Prop) (v : Value) (s : Shared) : Prop :=
  ∃ (h₂ : Heap) (r : Addr) (v1 v2 : Value) (vs0 vs1 : List (Option Value)) (news : List (Addr × Obj)) (news' : Obj → List (Addr × Obj)) (o : Obj) (v0 : Option Value) (h : Heap) (g : Array GenState) (d : Drawn) (t : Nat) (os : OsState), s = ⟨h, g, d, t, os⟩ ∧ v = .ref r ∧ Led h₂ L (vec ns vs0) h news ∧ (r, tupO [v1, v2]) ∈ news ∧ Put2 ns vs0 a v1 vs1 ∧ UpdG c o news news' ∧ o.data = .cell v0 ∧
    ∀ h' o' t', o'.data = .cell (some v2) → Led h₂ L (vec ns vs1) h' (news' o') → Q .next ⟨h', g, d, t', os⟩
theorem rUnpC {n : Nat} {ns gs : List Str} {a b : Str} {pa pb tp pos : Pos} {k : Nat} {value : Expr} {c : Addr} {E : Value → Shared → Prop} {s : Shared} {h₀ : Heap} (C : Cx w A env h₀ n) (fl : FnL ns gs env.scope) (ha : a ∈ ns) (hb : CellAt env b c)
    (hs : swapsWithSole [.Tuple [.Name a pa, .Name b pb] k tp] value pos.line env = pure false) (hw : swappedStores [.Tuple [.Name a pa, .Name b pb] k tp] value env = pure none)
    (hq : wpAny (model PG w) A (eval value env) (UnpCEnd ns env.locals a c Q) E s) :
    wpAny (model PG w) A (exec (.Assign [.Tuple [.Name a pa, .Name b pb] k tp] value pos) env) Q E s := by
  have ka : env.kindOf a = some .local := by show env.scope.names.lookup a = _; exact fl.loc a ha
  refine Assign_Tuple (wpAny_mono hq (fun v s1 h1 => ?_) fun _ _ e => e) hs hw
  obtain ⟨h₂, r, v1, v2, vs0, vs1, news, news', o, v0, h, g, d, t, os, rfl, rfl, D, hr, p1, u, hd0, hq⟩ := h1
  show wpAny _ _ (do standAt tp; unpack (.ref r) (assignEach [.Name a pa, .Name b pb] env)) _ _ _
  refine wpAny_bind (wpAny_standAt ?_)
  show wpAny _ _ (do assignInOrder [assign (.Name a pa) env, assign (.Name b pb) env] (← holding [.ref r] (unpackItems (.ref r) 2 none))) _ _ _
  refine wpAny_bind (wpAny_holding (unpackItemsN_ (s := ⟨h, g, d, t, os⟩) D.fr D.nw (items := #[v1, v2]) (News.isTup D.nw hr) C.hand rfl fun h'' F N => ?_))
  have D2 := ledSame D F N
  exact assignInOrder_cons (assign_Name (sto2 C.kind rfl ka fl.nd D2 p1 fun h3 _ D3 => assignInOrder_cons (assign_Name (rCellSto C.kind D3 hb.1 hb.2 u hd0 fun h4 o' ho' D4 => assignInOrder_nil (hq _ _ _ ho' D4)))))
/-- the winners of both electorates -/
theorem lawD (C : Cx w A env gb 95) (K : Kn w A env base gb fs) (he : env = lawEnv w L f cd) (fl : FnL lawNs lawGs env.scope) (G : GB gk g0 g) (hT : T.ok) (hE : LawEnd gk g0 fs gb env.locals d os Q)
    {X : List (Addr × Obj)} {o1 o2 o3 o4 o5 : Obj} {r : Ru} {ts th tz tse : Tok} {sl lF lS : Addr} {hd0 : Int} {size seats : Nat} {cb ck cn v2 v3 v4 v5 : Option Value} {F S : List (Nat × Int)} {Fv Sv : List Value} {eF eS : Nat}
    (D : Led gb env.locals (vec lawNs [some (.ref sl), some (.int hd0 th), some (.int (size : Int) tz), some (.int (seats : Int) tse), cb, ck, cn, some (.ref lF), some (.ref lS), none, none, none]) h ((X ++ lawCells L o5 o4 o3 o2 o1) ++ T.l))
    (ho1 : o1.data = .cell (some (.str r.str ts))) (ho2 : o2.data = .cell v2) (ho3 : o3.data = .cell v3) (ho4 : o4.data = .cell v4) (ho5 : o5.data = .cell v5)
    (hsz : size ∈ [3, 4]) (hse : seats ∈ [1, 2]) (hF : ∀ b ∈ F, 0 < b.2) (hS : ∀ b ∈ S, 0 < b.2) (hF1 : F ≠ []) (hS1 : S ≠ []) (hFl : F.length < 10) (hSl : S.length < 10) (hmul : ∀ b ∈ F, IntMulOk b.2 (100 * (S.map (·.2)).sum))
    (mF : (lF, lstO Fv eF) ∈ X) (bF : BalsN X Fv F) (mS : (lS, lstO Sv eS) ∈ X) (bS : BalsN X Sv S) :
    wpAny (model PG w) A (execs (lawTail w 8) env) Q (fun _ _ => False) ⟨h, g, d, t, os⟩ := by
  have he0 := he
  have he := he.trans (lawEnv_eq (by k_is))
  have e11 := lawTail_eq (w := w) (k := 11) (by k_is)
  dsimp only [List.drop] at e11
  have hl1 : CellAt env "rule" (L + 1) := by rw [he]; exact ⟨rfl, rfl⟩
  have hl2 : CellAt env "other" (L + 1 + 1) := by rw [he]; exact ⟨rfl, rfl⟩
  have hl3 : CellAt env "by_second" (L + 1 + 1 + 1) := by rw [he]; exact ⟨rfl, rfl⟩
  have hl4 : CellAt env "heavy" (L + 1 + 1 + 1 + 1) := by rw [he]; exact ⟨rfl, rfl⟩
  have mem1 : ∀ (Y : List (Addr × Obj)) (T : Tabs) (o5 o4 o3 o2 : Obj), (L + 1, o1) ∈ Y ++ (lawCells L o5 o4 o3 o2 o1 ++ T.l) := fun Y T _ _ _ _ => List.mem_append_right _ (List.mem_append_left _ (by simp))
  k_dflt (refine' lawGo ?o ?_)
  (case o => k_is)
  dsimp only [List.drop]
  refine rCons ?_
  refine wpAny_Assign_Name ?_ (by rw [he]; with_unfolding_all rfl)
  kcf_all
  have hszn : 0 < size ∧ size ≤ 4 := by simp at hsz; omega
  refine (lawProf (gk := gk) (g0 := g0) w size tz lS S hszn.1 hszn.2 (by omega) hS).use (X ++ lawCells L o5 o4 o3 o2 o1) C (by decide) G hT D ⟨_, _, List.mem_append_left _ mS, bS.1, fun i v b h1 h2 => (bS.2 i v b h1 h2).mono fun p hp => List.mem_append_left _ hp⟩ ?_
  rintro _ tl T1 g1 h1 t1 G1 hT1 D1 ⟨pf, rfl, hP⟩
  clear D
  replace hP := hP.mono2 (noCell ho1 ho2 ho3 ho4 ho5)
  have ex : ∀ (Y : List (Addr × Obj)) (T : Tabs) (o5 o4 o3 o2 o1 : Obj), Y ++ ((X ++ lawCells L o5 o4 o3 o2 o1) ++ T.l) = (Y ++ X ++ [(L + 1 + 1 + 1 + 1 + 1, o5), (L + 1 + 1 + 1 + 1, o4), (L + 1 + 1 + 1, o3)]) ++ (L + 1 + 1, o2) :: ([(L + 1, o1)] ++ T.l) := fun Y T o5 o4 o3 o2 o1 => by simp only [List.append_assoc, List.cons_append, List.nil_append]
  rw [ex] at D1
  refine rCellSto C.kind D1 hl2.1 hl2.2 (UpdG.z.app _) ho2 fun h2 o2' ho2' D2 => ?_
  clear D1
  replace D2 : Led _ _ _ _ ((tl ++ X ++ [(L + 1 + 1 + 1 + 1 + 1, o5), (L + 1 + 1 + 1 + 1, o4), (L + 1 + 1 + 1, o3)]) ++ (L + 1 + 1, o2') :: ([(L + 1, o1)] ++ T1.l)) := D2
  rw [← ex, ← List.append_assoc, ← List.append_assoc] at D2
  have uX : ∀ p ∈ X, p ∈ tl ++ X := fun p hp => List.mem_append_right _ hp
  replace mF := uX _ mF
  replace mS := uX _ mS
  replace bF := bF.mono uX
  replace bS := bS.mono uX
  obtain ⟨X1, hX1⟩ : ∃ X1, X1 = tl ++ X := ⟨_, rfl⟩
  rw [← hX1] at D2 hP mF mS bF bS
  clear hX1 uX ex ho2
  refine Seq.nx ?_
  refine rCons ?_
  refine rUnpC C fl (by kat_tups) hl3 (by rw [he]; with_unfolding_all rfl) (by rw [he]; with_unfolding_all rfl) ?_
  have m1 : (L + 1, o1) ∈ (X1 ++ lawCells L o5 o4 o3 o2' o1) ++ T1.l := List.mem_append_left _ (List.mem_append_right _ (by simp))
  kcf_all
  refine (lawProf (gk := gk) (g0 := g0) w size tz lF F hszn.1 hszn.2 (by omega) hF).use (X1 ++ lawCells L o5 o4 o3 o2' o1) C (by decide) G1 hT1 D2 ⟨_, _, List.mem_append_left _ mF, bF.1, fun i v b h1 h2 => (bF.2 i v b h1 h2).mono fun p hp => List.mem_append_left _ hp⟩ ?_
  rintro _ tl2 T2 g2 h3 t3 G2 hT2 D3 ⟨pf1, rfl, hP1⟩
  clear D2
  kcf_all
  have e3 : tl2 ++ ((X1 ++ lawCells L o5 o4 o3 o2' o1) ++ T2.l) = (tl2 ++ (X1 ++ lawCells L o5 o4 o3 o2' o1)) ++ T2.l := (List.append_assoc _ _ _).symm
  rw [e3] at D3
  have hne : ∀ {bs : List (Nat × Int)}, bs ≠ [] → bs.length < 10 → 0 < (elOf size bs).length ∧ (elOf size bs).length < 1000 := fun {bs} q1 q2 => by
    unfold elOf
    rw [List.length_map]
    have := List.length_pos_iff.mpr q1
    omega
  refine (winM gk g0 w r ts tse pf1 size seats (elOf size F) hsz hse elOf_lt (elOf_pos hF) (hne hF1 hFl).1 (hne hF1 hFl).2).use (tl2 ++ (X1 ++ lawCells L o5 o4 o3 o2' o1)) C (by decide) K G2 hT2 D3 hP1 ?_
  rintro wv tl3 T3 g3 h4 t4 gb2 KT C2 K2 G3 hT3 D4 hW1
  clear D3 C K
  have hE2 := hE.turn KT
  have e4 : tl3 ++ ((tl2 ++ (X1 ++ lawCells L o5 o4 o3 o2' o1)) ++ T3.l) = (((tl3 ++ tl2) ++ X1) ++ lawCells L o5 o4 o3 o2' o1) ++ T3.l := by simp only [List.append_assoc]
  rw [e4] at D4
  replace hW1 := hW1.mono2 (news' := (tl3 ++ tl2) ++ X1) fun p hp hn => noCell ho1 ho2' ho3 ho4 ho5 p (by rw [List.append_assoc]; exact hp) hn
  have uX : ∀ p ∈ X1, p ∈ (tl3 ++ tl2) ++ X1 := fun p hp => List.mem_append_right _ hp
  replace mF := uX _ mF
  replace mS := uX _ mS
  replace bF := bF.mono uX
  replace bS := bS.mono uX
  replace hP := hP.mono uX
  obtain ⟨X2, hX2⟩ : ∃ X2, X2 = (tl3 ++ tl2) ++ X1 := ⟨_, rfl⟩
  rw [← hX2] at D4 hP mF mS bF bS hW1
  clear hX2 uX e4 e3 m1 hP1
  have m1 : (L + 1, o1) ∈ (X2 ++ lawCells L o5 o4 o3 o2' o1) ++ T3.l := List.mem_append_left _ (List.mem_append_right _ (by simp))
  have m2 : (L + 1 + 1, o2') ∈ (X2 ++ lawCells L o5 o4 o3 o2' o1) ++ T3.l := List.mem_append_left _ (List.mem_append_right _ (by simp))
  kcf_all
  refine (winM gk g0 w r ts tse pf size seats (elOf size S) hsz hse elOf_lt (elOf_pos hS) (hne hS1 hSl).1 (hne hS1 hSl).2).use (X2 ++ lawCells L o5 o4 o3 o2' o1) C2 (by decide) K2 G3 hT3 D4 (hP.mono fun p hp => List.mem_append_left _ hp) ?_
  rintro wv2 tl4 T4 g4 h5 t5 gb3 KT2 C3 K3 G4 hT4 D5 hW2
  clear D4 C2 K2
  have hE3 := hE2.turn KT2
  kcf_all
  rename_i a9 h9 D6
  clear D5
  have ex9 : ∀ o', (a9, tupO [wv, wv2]) :: (tl4 ++ ((X2 ++ lawCells L o5 o4 o' o2' o1) ++ T4.l)) = ((a9, tupO [wv, wv2]) :: (tl4 ++ (X2 ++ [(L + 1 + 1 + 1 + 1 + 1, o5), (L + 1 + 1 + 1 + 1, o4)]))) ++ (L + 1 + 1 + 1, o') :: ([(L + 1 + 1, o2'), (L + 1, o1)] ++ T4.l) := fun o' => by simp only [List.append_assoc, List.cons_append, List.nil_append]
  replace hW2 := hW2.mono2 (noCell ho1 ho2' ho3 ho4 ho5)
  rw [ex9] at D6
  refine ⟨gb3, a9, wv, wv2, _, _, _, _, o3, v3, h9, g4, d, t5, os, rfl, rfl, D6, .head _, by kaf_suf, UpdG.z.app _, ho3, fun h10 o3' t10 ho3' D7 => ?_⟩
  clear D6
  replace D7 : Led _ _ _ _ (((a9, tupO [wv, wv2]) :: (tl4 ++ (X2 ++ [(L + 1 + 1 + 1 + 1 + 1, o5), (L + 1 + 1 + 1 + 1, o4)]))) ++ (L + 1 + 1 + 1, o3') :: ([(L + 1 + 1, o2'), (L + 1, o1)] ++ T4.l)) := D7
  rw [← ex9] at D7
  clear ex9
  have e9 : (a9, tupO [wv, wv2]) :: (tl4 ++ ((X2 ++ lawCells L o5 o4 o3' o2' o1) ++ T4.l)) = (((a9, tupO [wv, wv2]) :: (tl4 ++ X2)) ++ lawCells L o5 o4 o3' o2' o1) ++ T4.l := by simp only [List.append_assoc, List.cons_append]
  rw [e9] at D7
  have uX : ∀ p ∈ tl4 ++ X2, p ∈ (a9, tupO [wv, wv2]) :: (tl4 ++ X2) := fun p hp => .tail _ hp
  have uX2 : ∀ p ∈ X2, p ∈ (a9, tupO [wv, wv2]) :: (tl4 ++ X2) := fun p hp => .tail _ (List.mem_append_right _ hp)
  replace mF := uX2 _ mF
  replace mS := uX2 _ mS
  replace bF := bF.mono uX2
  replace bS := bS.mono uX2
  replace hP := hP.mono uX2
  replace hW1 := hW1.mono uX2
  replace hW2 := hW2.mono uX
  obtain ⟨X3, hX3⟩ : ∃ X3, X3 = (a9, tupO [wv, wv2]) :: (tl4 ++ X2) := ⟨_, rfl⟩
  rw [← hX3] at D7 hP mF mS bF bS hW1 hW2
  clear hX3 uX uX2 e9 m1 m2 ho3
  obtain ⟨l1, y1, z1, rfl, mw1, hw1⟩ := hW1
  obtain ⟨l2, y2, z2, rfl, mw2, hw2⟩ := hW2
  refine Seq.nx ?_
  refine rCons ?_
  refine wpAny_Assign_Name ?_ (by rw [he]; with_unfolding_all rfl)
  kcf_all
  refine rCompD ["number", "weight"] [] [] C3 D7 (fun _ => by rfl) (by rw [he]; rfl) (by rfl) rfl (by rfl) (by rw [he]; kernel_rfl!) ?_
  kcf_all
  have mS0 : (lS, lstO Sv eS) ∈ (X3 ++ lawCells L o5 o4 o3' o2' o1) ++ T4.l := List.mem_append_left _ (List.mem_append_left _ mS)
  refine itListA D7 mS0 fun I oI h11 Ct P It hP0 _ hct D8 => ?_
  refine compIt (fun i ys pre => pre = [] ∧ IntsAre ys ((S.map (·.2)).take i)) C3.hand It hP0 (fun h hh => hct h (hh _ mS0)) D8 (.inr ⟨_, _, _, rfl⟩) (by rw [bS.1]; omega) ⟨rfl, .nil⟩ (fun i ys pre q => by rw [q.2.length]; exact List.length_take_le _ _) ?_ ?_
  · rintro gB Cc DD env2 i ys vs pre e6 o6 h2 t2 v hi hV he2 _ _ Cc2 flc ⟨rfl, hJ⟩ hP2 D2
    clear D8 D7
    have hib : i < S.length := by rw [← bS.1]; exact hi
    obtain ⟨q, t7, t8, rfl, hq⟩ := bS.2 i v S[i] hV (List.getElem?_eq_getElem hib)
    obtain ⟨c1, c2, ec⟩ := vec2 "number" "weight" vs
    rw [ec] at D2
    refine asTup2 Cc2 D2 (.tail _ (.tail _ (List.mem_append_left _ (List.mem_append_left _ hq)))) fun h3 D3 => ?_
    clear D2
    refine wpAny_assign_Name (rSto Cc2 flc D3 (by kaf_suf) fun h4 t4 D4 => ?_)
    refine wpAny_assign_Name (rSto Cc2 flc D4 (by kaf_suf) fun h5 t5 D5 => ?_)
    clear D4 D3
    refine wpAny_tests_nil (Br.y rfl ?_)
    kcf_all
    refine CIt.mk [] D5 hP2 ⟨rfl, ?_⟩
    have hm : i < (S.map (·.2)).length := by rw [List.length_map]; exact hib
    rw [List.take_succ_eq_append_getElem hm, List.getElem_map]
    exact hJ.append (.cons _ _ .nil)
  · rintro DD ys e6 pre h2 t2 _ ⟨rfl, hJ⟩ D2
    clear D8 D7
    rw [List.take_of_length_le (by rw [List.length_map, bS.1]; exact Nat.le_refl _)] at hJ
    dsimp only [List.nil_append] at D2
    kcf_all
    refine rSumI C3.in1.hand D2 (.head _) hJ fun h12 t12 tk12 D9 => ?_
    clear D2
    kcf_all
    rename_i tkH tH
    have ex10 : ∀ o', (DD, lstO ys e6) :: ((X3 ++ lawCells L o5 o' o3' o2' o1) ++ T4.l) = ((DD, lstO ys e6) :: (X3 ++ [(L + 1 + 1 + 1 + 1 + 1, o5)])) ++ (L + 1 + 1 + 1 + 1, o') :: ([(L + 1 + 1 + 1, o3'), (L + 1 + 1, o2'), (L + 1, o1)] ++ T4.l) := fun o' => by simp only [List.append_assoc, List.cons_append, List.nil_append]
    rw [ex10] at D9
    refine rCellSto C3.kind D9 hl4.1 hl4.2 (UpdG.z.app _) ho4 fun h13 o4' ho4' D10 => ?_
    clear D9
    replace D10 : Led _ _ _ _ (((DD, lstO ys e6) :: (X3 ++ [(L + 1 + 1 + 1 + 1 + 1, o5)])) ++ (L + 1 + 1 + 1 + 1, o4') :: ([(L + 1 + 1 + 1, o3'), (L + 1 + 1, o2'), (L + 1, o1)] ++ T4.l)) := D10
    rw [← ex10] at D10
    have e11' : (DD, lstO ys e6) :: ((X3 ++ lawCells L o5 o4' o3' o2' o1) ++ T4.l) = (((DD, lstO ys e6) :: X3) ++ lawCells L o5 o4' o3' o2' o1) ++ T4.l := by simp only [List.append_assoc, List.cons_append]
    rw [e11'] at D10
    have u : ∀ p ∈ X3, p ∈ (DD, lstO ys e6) :: X3 := fun p hp => .tail _ hp
    refine Seq.nx ?_
    rw [← e11]
    have hH : 100 * (S.map (·.2)).sum = 100 * ((elOf size S).map (·.2)).sum := by unfold elOf; rw [List.map_map]; rfl
    refine lawE1 C3 K3 he0 fl G4 hT4 hE3 D10 ho1 ho2' ho3' ho4' ho5 hsz hse hF hS hF1 hS1 hFl hSl hmul hH (u _ mF) (bF.mono u) (u _ mS) (bS.mono u) (hP.mono u) ⟨l1, y1, z1, rfl, u _ mw1, hw1.1, fun i v c h1 h2 => (hw1.2 i v c h1 h2).mono u⟩ ⟨l2, y2, z2, rfl, u _ mw2, hw2.1, fun i v c h1 h2 => (hw2.2 i v c h1 h2).mono u⟩
end
end
section
open PySem.W.X (Led)
open PyProof.Rows PySem.Calls PySem.Spec
set_option pp.deepTerms false
theorem sum_abs : ∀ {S : List (Nat × Int)} {M : Nat}, (∀ b ∈ S, b.2.natAbs < M) → (S.map fun b : Nat × Int => b.2).sum.natAbs ≤ S.length * M
  | [], M, _ => by simp
  | b :: S, M, h => by
    have ih := sum_abs (S := S) (M := M) fun b' h' => h b' (.tail _ h')
    have h1 := h b (.head _)
    rw [List.map_cons, List.sum_cons, List.length_cons, Nat.add_mul, Nat.one_mul]
    have h2 := Int.natAbs_add_le b.2 (S.map fun b : Nat × Int => b.2).sum
    omega
theorem mulOk {F S : List (Nat × Int)} {k : Nat} (hk : k ≤ 1048600) (hF : ∀ b ∈ F, b.2.natAbs < 2 ^ k) (hS : ∀ b ∈ S, b.2.natAbs < 2 ^ k) (hl : S.length < 10) : ∀ b ∈ F, IntMulOk b.2 (100 * (S.map (·.2)).sum) := fun b hb => by
  have h1 := intBits_le (hF b hb)
  have h2 : Builtin.Int.intBits (100 * (S.map (·.2)).sum) ≤ k + 10 := by
    refine intBits_le ?_
    have h3 := sum_abs hS
    rw [Int.natAbs_mul]
    have h4 : S.length * 2 ^ k ≤ 9 * 2 ^ k := Nat.mul_le_mul_right _ (by omega)
    have h5 : 2 ^ (k + 10) = 1024 * 2 ^ k := by rw [Nat.pow_add]; omega
    have h6 : 0 < 2 ^ k := Nat.two_pow_pos k
    rw [h5]
    show (100 : Int).natAbs * _ < _
    have : (100 : Int).natAbs = 100 := rfl
    rw [this]
    generalize 2 ^ k = M at *
    omega
  have h : Builtin.Int.intTooBig (Builtin.Int.intBits b.2 + Builtin.Int.intBits (100 * (S.map (·.2)).sum)) = false := by
    unfold Builtin.Int.intTooBig bitsLine
    exact decide_eq_false (by omega)
  unfold IntMulOk
  rw [h]
  simp
section
variable {w : World} {A : Around} {env : Env} {base gb h : Heap} {fs : List Addr} {L f : Addr} {cd : Value} {gk : Nat} {g0 g : Array GenState} {d : Drawn} {t : Nat} {os : OsState} {T : Tabs} {Q : Flow → Shared → Prop}
/-- the two halves -/
theorem lawC (C : Cx w A env gb 95) (K : Kn w A env base gb fs) (he : env = lawEnv w L f cd) (fl : FnL lawNs lawGs env.scope) (G : GB gk g0 g) (hT : T.ok) (hE : LawEnd gk g0 fs gb env.locals d os Q)
    {X : List (Addr × Obj)} {o1 o2 o3 o4 o5 : Obj} {r : Ru} {ts th tz tse : Tok} {sl lb : Addr} {hd0 : Int} {size seats m k : Nat} {ck cn v2 v3 v4 v5 : Option Value} {bs : List (Nat × Int)} {Bv svs : List Value} {eB : Nat} {scr : List Int}
    (D : Led gb env.locals (vec lawNs [some (.ref sl), some (.int hd0 th), some (.int (size : Int) tz), some (.int (seats : Int) tse), some (.ref lb), ck, cn, none, none, none, none, none]) h ((X ++ lawCells L o5 o4 o3 o2 o1) ++ T.l))
    (ho1 : o1.data = .cell (some (.str r.str ts))) (ho2 : o2.data = .cell v2) (ho3 : o3.data = .cell v3) (ho4 : o4.data = .cell v4) (ho5 : o5.data = .cell v5)
    (hsl : gb.IsList sl svs.toArray) (hsi : IntsAre svs scr) (hs64 : svs.length < 100)
    (hsz : size ∈ [3, 4]) (hse : seats ∈ [1, 2]) (hb : ∀ b ∈ bs, 0 < b.2) (hm : m = 1 ∨ m = 2) (hbl : bs.length = 2 * m) (hk : k ≤ 1048600) (hbits : ∀ b ∈ bs, b.2.natAbs < 2 ^ k)
    (mB : (lb, lstO Bv eB) ∈ X) (bB : BalsN X Bv bs) :
    wpAny (model PG w) A (execs (lawTail w 6) env) Q (fun _ _ => False) ⟨h, g, d, t, os⟩ := by
  have he0 := he
  have he := he.trans (lawEnv_eq (by k_is))
  have e8 := lawTail_eq (w := w) (k := 8) (by k_is)
  dsimp only [List.drop] at e8
  k_dflt (refine' lawGo ?o ?_)
  (case o => k_is)
  dsimp only [List.drop]
  have mB0 : (lb, lstO Bv eB) ∈ (X ++ lawCells L o5 o4 o3 o2 o1) ++ T.l := List.mem_append_left _ (List.mem_append_left _ mB)
  have hBl : Bv.length = 2 * m := by rw [bB.1, hbl]
  kcf_all
  refine rSliL (h₀ := gb) (L := env.locals) ?_ (fun _ _ => by rfl)
  kcf_all
  refine wpAny_evalPart_none ?_
  refine wpAny_evalPart_some ?_
  kcf_all
  have em : ((Bv.length : Int)).fdiv 2 = (m : Int) := by
    rw [Int.fdiv_eq_ediv_of_nonneg _ (by decide), hBl]
    omega
  refine rLenS C D mB0 (.list rfl rfl) (by omega) fun tkl tl => ?_
  kcf_all
  rw [em]
  refine ⟨lb, Bv, eB, none, some (m : Int), _, _, _, _, _, _, _, rfl, rfl, D, mB0, by omega, .none, .int _ _, fun b1 h1 D1 => ?_⟩
  clear D
  rw [slicePick_upto'] at D1
  have mB1 : (lb, lstO Bv eB) ∈ (b1, lstO (Bv.toArray.toList.take m).toArray.toList 0) :: ((X ++ lawCells L o5 o4 o3 o2 o1) ++ T.l) := .tail _ mB0
  refine rSliL (h₀ := gb) (L := env.locals) ?_ (fun _ _ => by rfl)
  kcf_all
  refine wpAny_evalPart_some ?_
  kcf_all
  refine rLenS C D1 mB1 (.list rfl rfl) (by omega) fun tkl tl => ?_
  kcf_all
  refine wpAny_evalPart_none ?_
  rw [em]
  refine ⟨lb, Bv, eB, some (m : Int), none, _, _, _, _, _, _, _, rfl, rfl, D1, mB1, by omega, .int _ _, .none, fun b2 h2 D2 => ?_⟩
  clear D1
  rw [slicePick_from'] at D2
  have e1 : (Bv.toArray.toList.take m).toArray.toList = Bv.take m := rfl
  have e2 : (Bv.toArray.toList.drop m).toArray.toList = Bv.drop m := rfl
  rw [e1, e2] at D2
  clear mB1 e1 e2
  kcf_all
  rename_i h3 t3 D3 tk4 t4 tk5 t5
  clear D2
  refine lawAt (k := 1) C (by decide) D3 hsl hsi hs64 (by decide) fun h4 t6 tk6 D4 => ?_
  clear D3
  kcf_all
  have bF0 : BalsN ((b2, lstO (Bv.drop m) 0) :: (b1, lstO (Bv.take m) 0) :: X) (Bv.take m) (bs.take m) := ⟨by rw [List.length_take, List.length_take, bB.1], fun i v b h1 h2 => by
    rw [List.getElem?_take] at h1 h2
    split at h1
    · rename_i hi
      rw [if_pos hi] at h2
      exact (bB.2 i v b h1 h2).mono fun p hp => .tail _ (.tail _ hp)
    · cases h1⟩
  have bS0 : BalsN ((b2, lstO (Bv.drop m) 0) :: (b1, lstO (Bv.take m) 0) :: X) (Bv.drop m) (bs.drop m) := ⟨by rw [List.length_drop, List.length_drop, bB.1], fun i v b h1 h2 => by
    rw [List.getElem?_drop] at h1 h2
    exact (bB.2 _ v b h1 h2).mono fun p hp => .tail _ (.tail _ hp)⟩
  have cF : (∀ b ∈ bs.take m, b ∈ bs) ∧ bs.take m ≠ [] ∧ (bs.take m).length < 10 := ⟨fun b hb => List.mem_of_mem_take hb, fun q => by
    have := congrArg List.length q
    rw [List.length_take, List.length_nil] at this
    omega, by rw [List.length_take]; omega⟩
  have cS : (∀ b ∈ bs.drop m, b ∈ bs) ∧ bs.drop m ≠ [] ∧ (bs.drop m).length < 10 := ⟨fun b hb => List.mem_of_mem_drop hb, fun q => by
    have := congrArg List.length q
    rw [List.length_drop, List.length_nil] at this
    omega, by rw [List.length_drop]; omega⟩
  refine Br.join (fun s => ∃ (h' : Heap) (t' : Nat) (lF lS : Addr) (Fv Sv : List Value) (F S : List (Nat × Int)), s = ⟨h', g, d, t', os⟩ ∧
    Led gb env.locals (vec lawNs [some (.ref sl), some (.int hd0 th), some (.int (size : Int) tz), some (.int (seats : Int) tse), some (.ref lb), ck, cn, some (.ref lF), some (.ref lS), none, none, none]) h' ((b2, lstO (Bv.drop m) 0) :: (b1, lstO (Bv.take m) 0) :: ((X ++ lawCells L o5 o4 o3 o2 o1) ++ T.l)) ∧
    (lF, lstO Fv 0) ∈ (b2, lstO (Bv.drop m) 0) :: (b1, lstO (Bv.take m) 0) :: X ∧ (lS, lstO Sv 0) ∈ (b2, lstO (Bv.drop m) 0) :: (b1, lstO (Bv.take m) 0) :: X ∧ BalsN ((b2, lstO (Bv.drop m) 0) :: (b1, lstO (Bv.take m) 0) :: X) Fv F ∧ BalsN ((b2, lstO (Bv.drop m) 0) :: (b1, lstO (Bv.take m) 0) :: X) Sv S ∧
    ((∀ b ∈ F, b ∈ bs) ∧ F ≠ [] ∧ F.length < 10) ∧ ((∀ b ∈ S, b ∈ bs) ∧ S ≠ [] ∧ S.length < 10)) ?_ (fun hb => ?_) (fun hb => ?_)
  · rintro s ⟨h', t', lF, lS, Fv, Sv, F, S, rfl, D5, mF, mS, bF, bS, ⟨f1, f2, f3⟩, s1, s2, s3⟩
    clear D4
    refine Seq.nx ?_
    rw [← e8]
    have e9 : (b2, lstO (Bv.drop m) 0) :: (b1, lstO (Bv.take m) 0) :: ((X ++ lawCells L o5 o4 o3 o2 o1) ++ T.l) = (((b2, lstO (Bv.drop m) 0) :: (b1, lstO (Bv.take m) 0) :: X) ++ lawCells L o5 o4 o3 o2 o1) ++ T.l := by simp only [List.append_assoc, List.cons_append]
    rw [e9] at D5
    exact lawD C K he0 fl G hT hE D5 ho1 ho2 ho3 ho4 ho5 hsz hse (fun b q => hb b (f1 b q)) (fun b q => hb b (s1 b q)) f2 s2 f3 s3 (mulOk hk (fun b q => hbits b (f1 b q)) (fun b q => hbits b (s1 b q)) s3) mF bF mS bS
  · kcf_all
    rename_i h7 t7 D7
    exact ⟨rfl, h7, t7, b2, b1, _, _, _, _, rfl, D7, .head _, .tail _ (.head _), bS0, bF0, cS, cF⟩
  · kcf_all
    exact ⟨rfl, h4, _, b1, b2, _, _, _, _, rfl, D4, .tail _ (.head _), .head _, bF0, bS0, cF, cS⟩
end
end
section
open PySem.W.X (Led)
open PyProof.Rows PySem.Calls PySem.Spec
set_option pp.deepTerms false
theorem Br.val {M : Model} {A : Around} {b : Bool} {e1 e2 : Expr} {env : Env} {Q : Value → Shared → Prop} {E : Value → Shared → Prop} {s : Shared} (P : Value → Shared → Prop) (hP : ∀ v s, P v s → Q v s) (h1 : b = true → wpAny M A (eval e1 env) P E s) (h2 : b = false → wpAny M A (eval e2 env) P E s) :
    Br b (wpAny M A (eval e1 env) Q E s) (wpAny M A (eval e2 env) Q E s) :=
  Br.sp (fun hb => wpAny_mono (h1 hb) (fun v s q => hP v s q) fun _ _ e => e) (fun hb => wpAny_mono (h2 hb) (fun v s q => hP v s q) fun _ _ e => e)
theorem rItemE {w : World} {A : Around} {h₀ h : Heap} {g : Array GenState} {d : Drawn} {t : Nat} {os : OsState} {m : Str → Option Value} {news : List (Addr × Obj)} {E : Value → Shared → Prop} {L a : Addr} {ys : List Value} {e k : Nat} {u : Tok} {value slice : Expr} {Q : Value → Shared → Prop} (D : Led h₀ L m h news) (hm : (a, lstO ys e) ∈ news) (hk : k < ys.length) (hz : ys.length < 1000000)
    (hs : subscripted slice false (.ref a) (.int (k : Int) u) = operate [.ref a, .int (k : Int) u] (getItem (.ref a) (.int (k : Int) u))) (hq : ∀ v, v ∈ ys → Q v ⟨h, g, d, t, os⟩) : wpAny (model PG w) A (subscriptTail value slice (.ref a) (.int (k : Int) u)) Q E ⟨h, g, d, t, os⟩ :=
  rItem D hm (by omega) (by omega) (v := ys[k]) (by rw [Int.toNat_natCast]; exact List.getElem?_eq_getElem hk) hs (hq _ (List.getElem_mem hk))
theorem getD_abs {scr : List Int} {k j : Nat} {o : Int} (h : ∀ x ∈ scr, x.natAbs < 2 ^ k) (h1 : 1 ≤ k) (ho : o.natAbs ≤ 1) : (scr.getD j o).natAbs < 2 ^ k := by
  rw [List.getD_eq_getElem?_getD]
  cases q : scr[j]? with
  | none =>
    show o.natAbs < _
    have : 2 ^ 1 ≤ 2 ^ k := Nat.pow_le_pow_right (by decide) h1
    omega
  | some x => exact h x (List.mem_of_getElem? q)
section
variable {w : World} {A : Around} {env : Env} {base gb h : Heap} {fs : List Addr} {L f : Addr} {cd : Value} {gk : Nat} {g0 g : Array GenState} {d : Drawn} {t : Nat} {os : OsState} {T : Tabs} {Q : Flow → Shared → Prop}
theorem rItRangeT {i : Int} {u ti v : Tok} {rg : Addr} {m : Str → Option Value} {news : List (Addr × Obj)} {Q E : Value → Shared → Prop} {h₀ : Heap} (D : Led h₀ env.locals m h news) (hm : (rg, rgO i u ti v) ∈ news) (h0 : 0 ≤ i) (h1 : i < 1000000)
    (hq : ∀ I oI h' P, ItG w I (fun _ => True) i.toNat (fun i v => ∃ t, v = .int (i : Int) t) P → P 0 oI → Led h₀ env.locals m h' ((I, oI) :: news) → Q (.ref I) ⟨h', g, d, t, os⟩) : wpAny (model PG w) A (pyIter (.ref rg)) Q E ⟨h, g, d, t, os⟩ := by
  obtain ⟨hs, e⟩ := rgSmall i h0 h1
  refine wpAny_pyIter_range (s := ⟨h, g, d, t, os⟩) (D.nw _ hm).1 hs ?_
  refine hq _ (rngO 0 i) _ (fun j o => o = rngO (j : Int) ((i.toNat : Int) - (j : Int))) (ItG.range w _ i.toNat) ?_ (ledPushed D (.inr trivial) ?_ fun b o e => Heap.get?_push_of_some _ e)
  · show rngO 0 i = rngO _ _
    congr 1
    omega
  · refine (Heap.get?_push_size _ rfl).trans ?_
    rw [e]; rfl
/-- the ballots -/
theorem lawB (C : Cx w A env gb 95) (K : Kn w A env base gb fs) (he : env = lawEnv w L f cd) (fl : FnL lawNs lawGs env.scope) (G : GB gk g0 g) (hT : T.ok) (hE : LawEnd gk g0 fs gb env.locals d os Q)
    {X : List (Addr × Obj)} {o1 o2 o3 o4 o5 : Obj} {r : Ru} {ts th tz tse : Tok} {sl lb : Addr} {hd0 : Int} {size seats k : Nat} {v2 v3 v4 v5 : Option Value} {svs : List Value} {scr : List Int}
    (D : Led gb env.locals (vec lawNs [some (.ref sl), some (.int hd0 th), some (.int (size : Int) tz), some (.int (seats : Int) tse), some (.ref lb), none, none, none, none, none, none, none]) h ((lb, lstO [] 0) :: ((X ++ lawCells L o5 o4 o3 o2 o1) ++ T.l)))
    (ho1 : o1.data = .cell (some (.str r.str ts))) (ho2 : o2.data = .cell v2) (ho3 : o3.data = .cell v3) (ho4 : o4.data = .cell v4) (ho5 : o5.data = .cell v5)
    (hsl : gb.IsList sl svs.toArray) (hsi : IntsAre svs scr) (hs64 : svs.length < 100)
    (hsz : size ∈ [3, 4]) (hse : seats ∈ [1, 2]) (hk : k + 1 ≤ 1048600) (hk1 : 1 ≤ k) (hbits : ∀ x ∈ scr, x.natAbs < 2 ^ k) :
    wpAny (model PG w) A (execs (lawTail w 5) env) Q (fun _ _ => False) ⟨h, g, d, t, os⟩ := by
  have he0 := he
  have he := he.trans (lawEnv_eq (by k_is))
  have e6 := lawTail_eq (w := w) (k := 6) (by k_is)
  dsimp only [List.drop] at e6
  k_dflt (refine' lawGo ?o ?_)
  (case o => k_is)
  dsimp only [List.drop]
  obtain ⟨m, hm, hm2⟩ : ∃ m, (m = 1 ∨ m = 2) ∧ (if (size : Int) == 3 then (4 : Int) else 2) = ((2 * m : Nat) : Int) := by
    simp only [List.mem_cons, List.not_mem_nil, or_false] at hsz
    rcases hsz with rfl | rfl
    · exact ⟨2, .inr rfl, rfl⟩
    · exact ⟨1, .inl rfl, rfl⟩
  refine rCons ?_
  refine rForIt (h₀ := gb) (d := d) (os := os) (fun _ => by rfl) ?_
  kcf_all
  refine Br.val (fun v s => ∃ tk t', v = .int ((2 * m : Nat) : Int) tk ∧ s = ⟨h, g, d, t', os⟩) ?_ (fun hb => ?_) (fun hb => ?_)
  · rintro _ _ ⟨tk3, t3, rfl, rfl⟩
    kcf_all
    rename_i rg h5 t5 u5 u6 D5
    refine rItRangeT D5 (.head _) (by omega) (by omega) fun I oI h6 P It hP0 D6 => ?_
    clear D5 D
    refine ⟨I, oI, _, _, _, (fun i v pre post g1 => g1 = g ∧ ∃ (Bv : List Value) (e : Nat) (bs : List (Nat × Int)) (ck cn : Option Value), v = [some (.ref sl), some (.int hd0 th), some (.int (size : Int) tz), some (.int (seats : Int) tse), some (.ref lb), ck, cn, none, none, none, none, none] ∧ post = (rg, rgO ((2 * m : Nat) : Int) u5 tk3 u6) :: (lb, lstO Bv e) :: ((X ++ lawCells L o5 o4 o3 o2 o1) ++ T.l) ∧ bs.length = i ∧ BalsN pre Bv bs ∧ ∀ b ∈ bs, 0 < b.2 ∧ b.2.natAbs < 2 ^ (k + 1)), _, _, _, (fun _ => True), _, _, P, rfl, rfl, C.hand, It, hP0, .inl ⟨_, _, rfl⟩, D6, ⟨rfl, [], 0, [], none, none, rfl, rfl, rfl, ⟨rfl, fun j v b h => by cases h⟩, fun b hb => by cases hb⟩, ?_, ?_, ?_⟩
    · exact fun _ _ _ _ _ _ _ _ => trivial
    · rintro i vs pre post oI2 g2 h7 t7 v hi ⟨tv, rfl⟩ ⟨rfl, Bv, e, bs, ck, cn, rfl, rfl, hbl, hbn, hbp⟩ D7 hP2
      clear D6
      rw [Int.toNat_natCast] at hi
      refine wpAny_assign_Name (rSto C fl D7 (by kaf_suf) fun h8 t8 D8 => ?_)
      clear D7
      have mlb : (lb, lstO Bv e) ∈ pre ++ (I, oI2) :: (rg, rgO ((2 * m : Nat) : Int) u5 tk3 u6) :: (lb, lstO Bv e) :: ((X ++ lawCells L o5 o4 o3 o2 o1) ++ T.l) := List.mem_append_right _ (.tail _ (.tail _ (.head _)))
      kcf_all
      refine Subscript_ ?_
      kcf_all
      rename_i a9 h9 D9
      clear D8
      refine rItemE D9 (.head _) (k := i) (by simp; omega) (by simp) (by rfl) fun v hv => ?_
      obtain ⟨oo, to, rfl⟩ : ∃ oo to, v = .int oo to := by
        simp only [List.mem_cons, List.not_mem_nil, or_false] at hv
        rcases hv with rfl | rfl | rfl | rfl <;> exact ⟨_, _, rfl⟩
      kcf_all
      rw [show (2 + 2 * (i : Int)) = ((2 + 2 * i : Nat) : Int) by omega]
      refine lawAt C (by decide) D9 hsl hsi hs64 (by omega) fun h10 t10 tk10 D10 => ?_
      clear D9
      kcf_all
      refine oPow (by omega) (by simp only [List.mem_cons, List.not_mem_nil, or_false] at hsz; omega) (by decide) fun tk11 t11 => ?_
      have hpw : 0 < ((2 : Int) ^ ((size : Int)).toNat) := Int.pow_pos (by decide)
      kcf_all
      rename_i tkN tN h13 t13 D13 tk14 t14
      clear D10
      obtain ⟨nb, hnb⟩ : ∃ nb : Nat, (scr.getD (2 + 2 * i) oo).fmod (2 ^ ((size : Int)).toNat) = (nb : Int) := ⟨((scr.getD (2 + 2 * i) oo).fmod (2 ^ ((size : Int)).toNat)).toNat, by
        have := Int.fmod_nonneg_of_pos (scr.getD (2 + 2 * i) oo) hpw
        omega⟩
      rw [hnb] at D13
      obtain ⟨NW, hNW, D14⟩ : ∃ NW, NW = _ ∧ Led gb env.locals _ h13 NW := ⟨_, rfl, D13⟩
      clear D13
      have D13 := D14
      clear D14
      refine Br.val (fun v s => ∃ (nv : Nat) (tk : Tok) (h' : Heap) (t' : Nat), v = .int (nv : Int) tk ∧ s = ⟨h', g2, d, t', os⟩ ∧ Led gb env.locals (vec lawNs [some (.ref sl), some (.int hd0 th), some (.int (size : Int) tz), some (.int (seats : Int) tse), some (.ref lb), some (.int (i : Int) tv), some (.int (nb : Int) tkN), none, none, none, none, none]) h' NW) ?_ (fun hb => ?_) (fun hb => ?_)
      · rintro _ _ ⟨nv, tk15, h15, t15, rfl, rfl, D15⟩
        clear D13
        kcf_all
        rw [show (3 + 2 * (i : Int)) = ((3 + 2 * i : Nat) : Int) by omega]
        refine lawAt C (by decide) D15 hsl hsi hs64 (by omega) fun h16 t16 tk16 D16 => ?_
        clear D15
        have hx := getD_abs (j := 3 + 2 * i) (o := ((i : Int)).fmod 2) hbits hk1 (by
          have h1 := Int.fmod_nonneg_of_pos (i : Int) (b := 2) (by decide)
          have h2 := Int.fmod_lt_of_pos (i : Int) (b := 2) (by decide)
          omega)
        generalize scr.getD (3 + 2 * i) (((i : Int)).fmod 2) = xv at hx ⊢
        kcf_all
        refine rAbs fun t17 tk17 => ?_
        kcf_all
        rename_i tk18 t18 a18 h18 D18
        clear D16
        have hw : 0 < 1 + (if xv < 0 then -xv else xv) ∧ (1 + (if xv < 0 then -xv else xv)).natAbs < 2 ^ (k + 1) := by
          have h3 : 2 ^ (k + 1) = 2 * 2 ^ k := by rw [Nat.pow_succ]; omega
          have h4 : 2 ^ 1 ≤ 2 ^ k := Nat.pow_le_pow_right (by decide) hk1
          rw [h3]
          generalize 2 ^ k = M at *
          split <;> omega
        rw [hNW] at D18
        refine rApp D18 (UpdG.s (UpdG.s ((UpdG.s (UpdG.s UpdG.z)).app _))) (by have := hbn.1; omega) fun h19 D19 => ?_
        clear D18
        kcf_all
        refine FEnd.mk (_ :: _ :: pre) _ D19 hP2 ⟨rfl, Bv ++ [.ref a18], e + 1, bs ++ [(nv, 1 + (if xv < 0 then -xv else xv))], _, _, rfl, rfl, by rw [List.length_append, hbl]; rfl, (hbn.mono fun p hp => .tail _ (.tail _ hp)).snoc ⟨a18, _, _, rfl, .head _⟩, fun b hb => ?_⟩
        rcases List.mem_append.mp hb with q | q
        · exact hbp b q
        · rw [List.mem_singleton.mp q]; exact hw
      · kcf_all
        refine rMax2 C.hand D13 fun h15 t15 tk15 D15 => ?_
        refine ⟨(if (1 : Int) > (nb : Int) then 1 else (nb : Int)).toNat, tk15, h15, t15, ?_, rfl, D15⟩
        congr 1
        split <;> omega
      · kcf_all
        exact ⟨nb, _, _, _, rfl, rfl, D13⟩
    · rintro vs pre post g2 h7 t7 ⟨rfl, Bv, e, bs, ck, cn, rfl, rfl, hbl, hbn, hbp⟩ D7
      clear D6
      refine Seq.nx ?_
      rw [← e6]
      rw [Int.toNat_natCast] at hbl
      have e9 : pre ++ (rg, rgO ((2 * m : Nat) : Int) u5 tk3 u6) :: (lb, lstO Bv e) :: ((X ++ lawCells L o5 o4 o3 o2 o1) ++ T.l) = ((pre ++ (rg, rgO ((2 * m : Nat) : Int) u5 tk3 u6) :: (lb, lstO Bv e) :: X) ++ lawCells L o5 o4 o3 o2 o1) ++ T.l := by simp only [List.append_assoc, List.cons_append]
      rw [e9] at D7
      exact lawC C K he0 fl G hT hE D7 ho1 ho2 ho3 ho4 ho5 hsl hsi hs64 hsz hse (fun b q => (hbp b q).1) hm hbl hk (fun b q => (hbp b q).2) (List.mem_append_right _ (.tail _ (.head _))) (hbn.mono fun p hp => List.mem_append_left _ hp)
  · rw [if_pos hb] at hm2
    kcf_all
    exact ⟨_, _, by rw [hm2], rfl⟩
  · rw [if_neg (by rw [hb]; exact Bool.false_ne_true)] at hm2
    kcf_all
    exact ⟨_, _, by rw [hm2], rfl⟩
end
end
section
open PySem.W.X (Led)
open PyProof.Rows PySem.Calls PySem.Spec
set_option pp.deepTerms false
section
variable {w : World} {A : Around} {env : Env} {base gb h : Heap} {fs : List Addr} {L f : Addr} {cd : Value} {gk : Nat} {g0 g : Array GenState} {d : Drawn} {t : Nat} {os : OsState} {T : Tabs} {Q : Flow → Shared → Prop}
theorem natOf {x : Int} (h : 0 ≤ x) : ∃ n : Nat, x = (n : Int) := ⟨x.toNat, by omega⟩
/-- the law, whole -/
theorem lawA (C : Cx w A env gb 95) (K : Kn w A env base gb fs) (he : env = lawEnv w L f cd) (fl : FnL lawNs lawGs env.scope) (G : GB gk g0 g) (hT : T.ok) (hE : LawEnd gk g0 fs gb env.locals d os Q)
    {o1 o2 o3 o4 o5 : Obj} {sl : Addr} {k : Nat} {v1 v2 v3 v4 v5 : Option Value} {svs : List Value} {scr : List Int}
    (D : Led gb env.locals (vec lawNs [some (.ref sl), none, none, none, none, none, none, none, none, none, none, none]) h (lawCells L o5 o4 o3 o2 o1 ++ T.l))
    (ho1 : o1.data = .cell v1) (ho2 : o2.data = .cell v2) (ho3 : o3.data = .cell v3) (ho4 : o4.data = .cell v4) (ho5 : o5.data = .cell v5)
    (hsl : gb.IsList sl svs.toArray) (hsi : IntsAre svs scr) (hs64 : svs.length < 100) (hk : k + 1 ≤ 1048600) (hk1 : 1 ≤ k) (hbits : ∀ x ∈ scr, x.natAbs < 2 ^ k) :
    wpAny (model PG w) A (execs (lawTail w 0) env) Q (fun _ _ => False) ⟨h, g, d, t, os⟩ := by
  have he0 := he
  have he := he.trans (lawEnv_eq (by k_is))
  have e4 := lawTail_eq (w := w) (k := 4) (by k_is)
  have e5 := lawTail_eq (w := w) (k := 5) (by k_is)
  dsimp only [List.drop] at e4 e5
  have hl1 : CellAt env "rule" (L + 1) := by rw [he]; exact ⟨rfl, rfl⟩
  have fin : ∀ (h : Heap) (t : Nat) (r : Ru) (ts th tz tse : Tok) (hd0 : Int) (size seats : Nat) (o1 : Obj) (X : List (Addr × Obj)), size ∈ [3, 4] → seats ∈ [1, 2] → o1.data = .cell (some (.str r.str ts)) →
      Led gb env.locals (vec lawNs [some (.ref sl), some (.int hd0 th), some (.int (size : Int) tz), some (.int (seats : Int) tse), none, none, none, none, none, none, none, none]) h ((X ++ lawCells L o5 o4 o3 o2 o1) ++ T.l) →
      wpAny (model PG w) A (execs (lawTail w 4) env) Q (fun _ _ => False) ⟨h, g, d, t, os⟩ := by
    intro h t r ts th tz tse hd0 size seats o1 X hsz hse ho1 D
    rw [e4, ← e5]
    refine rCons ?_
    refine wpAny_Assign_Name ?_ (by rw [he]; with_unfolding_all rfl)
    refine rLstD ?_
    refine args_nil ?_
    refine rNewL D (by simp) fun lb h2 D2 => ?_
    refine rSto C fl D2 (by kaf_suf) fun h3 t3 D3 => ?_
    refine Seq.nx ?_
    exact lawB C K he0 fl G hT hE D3 ho1 ho2 ho3 ho4 ho5 hsl hsi hs64 hsz hse hk hk1 hbits
  k_dflt (refine' lawGo ?oLaw ?_)
  (case oLaw => k_is)
  dsimp only [List.drop]
  rw [← e4]
  kcf_all
  refine lawAt (k := 0) C (by decide) D hsl hsi hs64 (by omega) fun h1 t1 tk1 D1 => ?_
  clear D
  kcf_all
  rename_i h2 t2 D2
  clear D1
  refine Subscript_ ?_
  kcf_all
  rename_i a3 h3 D3 tk4 t4 tk5 t5
  clear D2
  obtain ⟨k5, hk5⟩ := natOf (Int.fmod_nonneg_of_pos (scr.getD 0 7) (b := 5) (by decide))
  have hk5l := Int.fmod_lt_of_pos (scr.getD 0 7) (b := 5) (by decide)
  rw [hk5] at hk5l ⊢
  refine rItemE D3 (.head _) (k := k5) (by simp; omega) (by simp) (by rfl) fun v hv => ?_
  obtain ⟨r, ts, rfl⟩ : ∃ (r : Ru) (ts : Tok), v = .str r.str ts := by
    simp only [List.mem_cons, List.not_mem_nil, or_false] at hv
    rcases hv with rfl | rfl | rfl | rfl | rfl
    · exact ⟨.pav, _, rfl⟩
    · exact ⟨.slav, _, rfl⟩
    · exact ⟨.cc, _, rfl⟩
    · exact ⟨.geom, _, rfl⟩
    · exact ⟨.av, _, rfl⟩
  clear hv
  obtain ⟨OL, hOL, D4⟩ : ∃ OL : Obj, OL = _ ∧ Led gb env.locals _ h3 ((a3, OL) :: (lawCells L o5 o4 o3 o2 o1 ++ T.l)) := ⟨_, rfl, D3⟩
  clear D3 hOL
  refine rCellSto C.kind D4 hl1.1 hl1.2 (UpdG.s (UpdG.s (UpdG.s (UpdG.s (UpdG.s UpdG.z))))) ho1 fun h5 o1' ho1' D5 => ?_
  clear D4
  replace D5 : Led gb env.locals (vec lawNs [some (.ref sl), some (.int (scr.getD 0 7) tk1), none, none, none, none, none, none, none, none, none, none]) h5 ((a3, OL) :: (lawCells L o5 o4 o3 o2 o1' ++ T.l)) := D5
  kcf_all
  rename_i tz h6 t6 D6 tk7 t7 tk8 t8 tk9 t9
  clear D5
  obtain ⟨size, hsz, hsize⟩ : ∃ size ∈ [3, 4], 3 + ((scr.getD 0 7).fdiv 5).fmod 2 = ((size : Nat) : Int) := by
    have h1 := Int.fmod_nonneg_of_pos ((scr.getD 0 7).fdiv 5) (b := 2) (by decide)
    have h2 := Int.fmod_lt_of_pos ((scr.getD 0 7).fdiv 5) (b := 2) (by decide)
    rcases (show ((scr.getD 0 7).fdiv 5).fmod 2 = 0 ∨ ((scr.getD 0 7).fdiv 5).fmod 2 = 1 by omega) with e | e
    · exact ⟨3, by simp, by rw [e]; rfl⟩
    · exact ⟨4, by simp, by rw [e]; rfl⟩
  rw [hsize] at D6
  refine lawAt (k := 1) C (by decide) D6 hsl hsi hs64 (by omega) fun h10 t10 tk10 D10 => ?_
  clear D6
  kcf_all
  rename_i tse h11 t11 D11
  clear D10
  obtain ⟨seats, hse, hseats⟩ : ∃ seats ∈ [1, 2], 1 + (scr.getD 1 1).fmod 2 = ((seats : Nat) : Int) := by
    have h1 := Int.fmod_nonneg_of_pos (scr.getD 1 1) (b := 2) (by decide)
    have h2 := Int.fmod_lt_of_pos (scr.getD 1 1) (b := 2) (by decide)
    rcases (show (scr.getD 1 1).fmod 2 = 0 ∨ (scr.getD 1 1).fmod 2 = 1 by omega) with e | e
    · exact ⟨1, by simp, by rw [e]; rfl⟩
    · exact ⟨2, by simp, by rw [e]; rfl⟩
  rw [hseats] at D11
  exact fin _ _ r ts _ _ _ _ size seats o1' [(a3, OL)] hsz hse ho1' D11
end
end
section
open PySem.W.X (Led)
open PyProof.Rows PySem.Calls PySem.Spec
set_option pp.deepTerms false
theorem bitsAbs {x : Int} {k : Nat} (h : Builtin.Int.intBits x ≤ k) : x.natAbs < 2 ^ k := by
  unfold Builtin.Int.intBits at h
  by_cases q : x = 0
  · subst q
    exact Nat.two_pow_pos k
  · have h0 : x.natAbs ≠ 0 := fun z => q (Int.natAbs_eq_zero.mp z)
    have h1 : x.natAbs < 2 ^ (x.natAbs.log2 + 1) := Nat.lt_log2_self
    split at h
    · rename_i z
      exact absurd (by simpa using z) q
    · exact Nat.lt_of_lt_of_le h1 (Nat.pow_le_pow_right (by decide) (by omega))
theorem ordFive (n : Nat) (h : 88 < n) : ([n + 1 + 1 + 1 + 1 + 1, n + 1 + 1 + 1 + 1, n + 1 + 1 + 1, n + 1 + 1, n + 1, 88, 80, 52] : List Nat).Pairwise (· > ·) := by
  simp only [List.pairwise_cons, List.mem_cons, List.not_mem_nil, or_false]
  refine ⟨?_, ?_, ?_, ?_, ?_, ?_, ?_, ?_, .nil⟩ <;> (intro a ha; first | omega | exact ha.elim | cases ha)
theorem lawTop {w : World} {s₁ : Shared} {p : Program} {loose : List Str} {mean : ExcName → Option Value} {mg mb : Str → Option Value} (T : Top p loose mean mg mb s₁.heap) (KX : (hd.heap_39 w.params).In s₁.heap) (hT8 : ∀ P ∈ [52, 80, 88], s₁.heap.get? P = some (tabObj #[])) {l : Addr} {svs : List Value} {scr : List Int}
    (hL : s₁.heap.IsList l svs.toArray) (hI : IntsAre svs scr) (hlen : scr.length ≤ 63) (hlay : PyData.layable0 (.list (scr.map .int)) = true) (hg : s₁.gens = #[]) {h₁ : Heap} {tk₁ : Nat} {o5 o4 o3 o2 o1 : Obj} {v1 v2 v3 v4 v5 : Option Value} {fa : Addr} {cd : Value} {m : Str → Option Value}
    (F : Fr s₁.heap s₁.heap.objs.size h₁ m) (hm : m = vec lawNs [some (.ref l), none, none, none, none, none, none, none, none, none, none, none]) (N0 : News s₁.heap s₁.heap.objs.size h₁ (lawCells s₁.heap.objs.size o5 o4 o3 o2 o1))
    (ho1 : o1.data = .cell v1) (ho2 : o2.data = .cell v2) (ho3 : o3.data = .cell v3) (ho4 : o4.data = .cell v4) (ho5 : o5.data = .cell v5) {Q : Flow → Shared → Prop} (hQ : ∀ h' g' t', OldK s₁.heap h' → AllBare g' → Q (.ret (.bool true)) ⟨h', g', s₁.drawn, t', s₁.os⟩) :
    wpAny (model PG w) (callerA.deeper (lawEnv w s₁.heap.objs.size fa cd)) (execs (lawTail w 0) (lawEnv w s₁.heap.objs.size fa cd)) Q (fun _ _ => False) ⟨h₁, s₁.gens, s₁.drawn, tk₁, s₁.os⟩ := by
  have he := lawEnv_eq (w := w) (L := s₁.heap.objs.size) (f := fa) (cd := cd) (by k_is)
  obtain ⟨tabs, htabs⟩ : ∃ tabs : List (Addr × Addr), tabs = [(92, 88), (84, 80), (56, 52)] := ⟨_, rfl⟩
  have hTA : TabsAt tabs s₁.heap := fun q hq => by
    rw [htabs] at hq
    simp only [List.mem_cons, List.not_mem_nil, or_false] at hq
    rcases hq with rfl | rfl | rfl
    · exact ⟨codeHd_in KX (.inl ⟨rfl, rfl⟩), hT8 88 (by simp)⟩
    · exact ⟨codeHd_in KX (.inr (.inl ⟨rfl, rfl⟩)), hT8 80 (by simp)⟩
    · exact ⟨codeHd_in KX (.inr (.inr ⟨rfl, rfl⟩)), hT8 52 (by simp)⟩
  have T2 := ghost_top hTA T
  have X2 := ghost_K hTA KX (by kernel_rfl!)
  have F2 := ghost_fr hTA F
  have N2 := ghost_news hTA F N0
  have hsl := ghost_list hTA hL
  have hlt := ghost_lt hTA F
  have h88 : 88 < s₁.heap.objs.size := hlt (88, tabObj #[]) (by rw [htabs]; simp)
  have D : Led (ghostOf s₁.heap tabs) (lawEnv w s₁.heap.objs.size fa cd).locals (vec lawNs [some (.ref l), none, none, none, none, none, none, none, none, none, none, none]) h₁ (lawCells s₁.heap.objs.size o5 o4 o3 o2 o1 ++ Tabs.l ⟨tabObj #[], tabObj #[], tabObj #[]⟩) := by
    have hloc : (lawEnv w s₁.heap.objs.size fa cd).locals = s₁.heap.objs.size := by rw [he]; rfl
    rw [hloc, ← hm]
    refine ⟨F2, ?_, ?_⟩
    · rw [htabs] at N2 ⊢; exact N2
    · exact ordFive _ h88
  have hfr : (callerA.deeper (lawEnv w s₁.heap.objs.size fa cd)).frames = some [lawEnv w s₁.heap.objs.size fa cd] := Around.frames_deeper (outer := []) rfl
  have hself : (lawEnv w s₁.heap.objs.size fa cd).frame = some (lawEnv w s₁.heap.objs.size fa cd).locals := by rw [he]; rfl
  have C : Cx w (callerA.deeper (lawEnv w s₁.heap.objs.size fa cd)) (lawEnv w s₁.heap.objs.size fa cd) (ghostOf s₁.heap tabs) 95 := by
    refine ⟨fun l hl => .inl ⟨hself, callerA, ghostOf s₁.heap tabs, [], below_caller _, ?_⟩, by rw [he]; rfl, by rw [he]; rfl, by rw [he]; rfl, X2, ⟨_, _, _, _, _, T2⟩, rfl, ?_, ?_⟩
    · rw [hfr] at hl; exact (Option.some.inj hl).symm
    · show 1 + claimMargin + 1 + 95 < recursionLimit
      decide
    · show 4 + 3 + 40 * 95 < cLine
      decide
  have K : Kn w (callerA.deeper (lawEnv w s₁.heap.objs.size fa cd)) (lawEnv w s₁.heap.objs.size fa cd) (ghostOf s₁.heap tabs) (ghostOf s₁.heap tabs) [] :=
    ⟨X2, ⟨_, _, _, _, _, T2⟩, fun b o e => e, [], trivial, rfl, .inr ⟨hfr, hself⟩⟩
  have fl : FnL lawNs lawGs (lawEnv w s₁.heap.objs.size fa cd).scope := by rw [he]; exact FnL.of (by kernel_rfl!)
  have G : GB 0 #[] s₁.gens := ⟨.of_eq hg, Nat.zero_le _, fun i hi => absurd hi (Nat.not_lt_zero _)⟩
  have hTo : Tabs.ok ⟨tabObj #[], tabObj #[], tabObj #[]⟩ := ⟨⟨#[], rfl, trivial⟩, ⟨#[], rfl, trivial⟩, ⟨#[], rfl, trivial⟩⟩
  have hE : LawEnd 0 #[] [] (ghostOf s₁.heap tabs) (lawEnv w s₁.heap.objs.size fa cd).locals s₁.drawn s₁.os Q := by
    intro h' g' t' gb₂ m' X' T' KT D' hT' G'
    refine hQ h' g' t' ?_ G'.bare
    have keep : ∀ b o, b ∉ tabs.map (·.2) → s₁.heap.get? b = some o → h'.get? b = some o := fun b o hb e => D'.fr.keep _ _ (KT.other b o (ghost_ne e hb) (by simp))
    have grown : ∀ b o, b ∈ tabs.map (·.2) → s₁.heap.get? b = some o → isCodeTable s₁.heap b ∧ o = tabObj #[] ∧ ∃ ps, h'.get? b = some (tabObj ps) := fun b o hb e => by
      obtain ⟨q, hq, rfl⟩ := List.mem_map.mp hb
      have e2 := (hTA q hq).2
      rw [e] at e2
      refine ⟨((hTA q hq).1.tab (hTA q hq).2).isCodeTable, Option.some.inj e2, ?_⟩
      obtain ⟨⟨pa, ea, _⟩, ⟨pb, eb, _⟩, ⟨pc, ec, _⟩⟩ := hT'
      rw [htabs] at hq
      simp only [List.mem_cons, List.not_mem_nil, or_false] at hq
      rcases hq with rfl | rfl | rfl
      · exact ⟨pc, ec ▸ (D'.nw (88, T'.c) (List.mem_append_right _ (by simp [Tabs.l]))).1⟩
      · exact ⟨pb, eb ▸ (D'.nw (80, T'.b) (List.mem_append_right _ (by simp [Tabs.l]))).1⟩
      · exact ⟨pa, ea ▸ (D'.nw (52, T'.a) (List.mem_append_right _ (by simp [Tabs.l]))).1⟩
    refine ⟨fun b o e => ?_, fun b o e => ?_⟩
    · by_cases hb : b ∈ tabs.map (·.2)
      · obtain ⟨ht, rfl, ps, hP⟩ := grown b o hb e
        exact .inr (.inl ⟨ht, rfl, #[], ps, rfl, by rw [Array.empty_append]; exact hP⟩)
      · exact .inl (keep b o hb e)
    · by_cases hb : b ∈ tabs.map (·.2)
      · obtain ⟨_, _, ps, hP⟩ := grown b o hb e
        exact ⟨_, hP⟩
      · exact ⟨o, keep b o hb e⟩
  obtain ⟨k, hk, hk1, hbits⟩ : ∃ k, k + 1 ≤ 1048600 ∧ 1 ≤ k ∧ ∀ x ∈ scr, x.natAbs < 2 ^ k := ⟨1048576, by decide, by decide, fun x hx => bitsAbs (PyData.bits_item_of_ints hlay hx)⟩
  have h64 : svs.length < 100 := by rw [hI.length]; omega
  exact lawA C K rfl fl G hTo hE D ho1 ho2 ho3 ho4 ho5 hsl hI h64 hk hk1 hbits
end
section
open PySem.W.X (Led)
open PyProof.Rows PySem.Calls PySem.Spec
set_option pp.deepTerms false
theorem goodEnd {s₀ s₁ s' : Shared} {scr : List Int} (hk : OldK s₁.heap s'.heap) (hg : AllBare s'.gens) (hos : s'.os = s₁.os) : GoodWG PySem.Challenge.rw_bg0004_01.row.claim (classAt s₀.heap) (ExcName.means s₀.heap) [ofPy (.list (scr.map .int))] s₁ (.ok (.ret (.bool true))) s' := by
  refine ⟨.inl ⟨.bool true, .bool true, [], rfl, raisesW_false (by wrow_none_raised), ?_, ?_, ?_⟩, hk, hos, hg⟩
  · constructor
  · exact postW_of (by wrow_shape) (by wtm_val) (by first | rfl | decide | (str_meet; first | done | w_fin))
  · exact fun _ => ⟨List.nodup_nil, fun a h => by cases h⟩
end
section
local macro_rules | `(tactic| o_head ($f $k $a $p)) => `(tactic| o_head (kmHook hd.heap_39 $a $p [52, 80, 88]))
theorem fin.tw16435942981769928114 : True := trivial
theorem fin.tw12665672349470115190 : True := trivial
theorem fin.tw949932430038749412 : True := trivial
theorem fin.tw5679099882944968924 : True := trivial
theorem fin.tw10091472473664355585 : True := trivial
theorem fin.tw8671480901056585513 : True := trivial
theorem fin.tw7547047758968236256 : True := trivial
theorem fin.tw2102669950071634345 : True := trivial
theorem fin.tw14200846221685118158 : True := trivial
theorem fin.tw6908414473391612839 : True := trivial
theorem fin.tw9820160600239596351 : True := trivial
theorem fin.tw5180509491417610544 : True := trivial
theorem fin.tw7571310556579135677 : True := trivial
theorem fin.tw2615832979981673497 : True := trivial
theorem fin.tw5852929570735518896 : True := trivial
theorem fin.tw3295330759430124240 : True := trivial
theorem fin.tw8095671495550467383 : True := trivial
theorem fin.tw8675091656894970577 : True := trivial
theorem fin.tw5396570910746303229 : True := trivial
theorem fin.tw16889484823980962733 : True := trivial
theorem fin.tw12751662967071866640 : True := trivial
theorem fin.tw16804729900671245928 : True := trivial
theorem fin.tw3767668005915308995 : True := trivial
theorem fin.tw14853689601478235412 : True := trivial
theorem fin.tw5197429887770726281 : True := trivial
theorem fin.tw7124489656525647094 : True := trivial
theorem fin.tw4393048785426320070 : True := trivial
theorem fin.tw8944131129743331011 : True := trivial
theorem fin.tw8919258383269951722 : True := trivial
theorem fin.tw17574537471632929243 : True := trivial
theorem fin.tw9243742377548540118 : True := trivial
theorem fin.tw14385621788602975538 : True := trivial
theorem fin.tw16926796629830329345 : True := trivial
theorem fin.tw9161791706068219497 : True := trivial
theorem fin.tw8049200186387820366 : True := trivial
theorem fin.tw14699980421589514571 : True := trivial
theorem fin.tw9631822208382451983 : True := trivial
theorem fin.tw10990032568701086477 : True := trivial
theorem fin.tw7072226402447830129 : True := trivial
theorem fin.tw4144327980666785601 : True := trivial
theorem fin.tw8571225120067170953 : True := trivial
theorem fin.tw16438337174889455408 : True := trivial
theorem fin.tw15299827366602050161 : True := trivial
theorem fin.tw7677989512736204526 : True := trivial
theorem fin.tw4483283096427182818 : True := trivial
theorem fin.tw13948639791554836966 : True := trivial
theorem fin.tw2375283059286425376 : True := trivial
theorem fin.tw9361326884244611343 : True := trivial
theorem fin.tw824001488490597953 : True := trivial
theorem fin.tw269333189391991747 : True := trivial
theorem fin.tw61126523188619509 : True := trivial
theorem fin.tw12572496214493544662 : True := trivial
theorem fin.tw1306319669024162852 : True := trivial
theorem fin.tw8383791847781177783 : True := trivial
theorem fin.tw15408508732894643574 : True := trivial
theorem fin.tw15845795089162586078 : True := trivial
theorem fin.tw6671992857765853949 : True := trivial
theorem fin.tw8428012753101459865 : True := trivial
theorem fin.tw11012325845432612231 : True := trivial
theorem fin.tw9769781190251519463 : True := trivial
theorem fin.tw8462624477310905004 : True := trivial
theorem fin.tw8823646848978868743 : True := trivial
theorem fin.tw12115274675524347972 : True := trivial
theorem fin.tw9954630488482974247 : True := trivial
theorem fin.tw8248535277808744294 : True := trivial
theorem fin.tw2302991567755704267 : True := trivial
theorem fin.tw15513600669972384820 : True := trivial
theorem fin.tw12754828620847295776 : True := trivial
theorem fin.tw17255194148957602839 : True := trivial
theorem fin.tw2322129550691110565 : True := trivial
theorem fin.tw8942474457413960924 : True := trivial
theorem fin.tw14665711169546490834 : True := trivial
theorem fin.tw10860463890562471742 : True := trivial
theorem fin.tw15473448878953726420 : True := trivial
theorem fin.tw7783950685163080668 : True := trivial
theorem fin.tw15692133788150570983 : True := trivial
theorem fin.tw4722470732077146444 : True := trivial
theorem fin.tw10422873002695632711 : True := trivial
theorem fin.tw4232310507111121658 : True := trivial
theorem fin.tw6606841291872302138 : True := trivial
theorem fin.tw16791966757467664075 : True := trivial
theorem fin.tw14232876856209179772 : True := trivial
theorem fin.tw5934825339627483726 : True := trivial
theorem fin.tw3865143581525485936 : True := trivial
theorem fin.tw10783113805558436046 : True := trivial
theorem fin.tw3229026465367968156 : True := trivial
theorem fin.tw12261892603037129033 : True := trivial
theorem fin.tw4131476155260995623 : True := trivial
theorem fin.tw1581765525528360354 : True := trivial
theorem fin.tw2409761835889866131 : True := trivial
theorem fin.tw6091149213335829167 : True := trivial
theorem fin.tw10553568164054440022 : True := trivial
theorem fin.tw2242104933262866289 : True := trivial
theorem fin.tw1909631409943697231 : True := trivial
theorem fin.tw9324835427924229859 : True := trivial
theorem fin.tw4721520146441956175 : True := trivial
theorem fin.tw17682806996416514929 : True := trivial
theorem fin.tw10257115557388464752 : True := trivial
theorem fin.tw15369801792274130322 : True := trivial
theorem fin.tw9462194772922662784 : True := trivial
theorem fin.tw9490671372518146187 : True := trivial
theorem fin.tw17044926110692905683 : True := trivial
theorem fin.tw6061414135305444539 : True := trivial
theorem fin.tw6131478504467597330 : True := trivial
theorem fin.tw8701127448935683631 : True := trivial
theorem fin.tw1420267162992608975 : True := trivial
theorem fin.tw4364739922812499138 : True := trivial
theorem fin.tw17923595913812447142 : True := trivial
theorem fin.tw17407121136558984578 : True := trivial
theorem fin.tw10036218272323018037 : True := trivial
theorem fin.tw3817654288837886093 : True := trivial
theorem fin.tw15902474097002855567 : True := trivial
theorem fin.tw3753180429921760817 : True := trivial
theorem fin.tw14252395601589030595 : True := trivial
theorem fin.tw13976060690808697030 : True := trivial
theorem fin.tw11010746924391106928 : True := trivial
theorem fin.tw1859308991734951218 : True := trivial
theorem fin.tw2956437714754956180 : True := trivial
theorem fin.tw5385697406680118197 : True := trivial
theorem fin.tw9626000013912565594 : True := trivial
theorem fin.tw4293786561075639285 : True := trivial
theorem fin.tw6462460787818161330 : True := trivial
theorem fin.tw8787514255330546292 : True := trivial
theorem fin.tw6213507637468552686 : True := trivial
theorem fin.tw15337241588996526812 : True := trivial
theorem fin.tw2117135873502361916 : True := trivial
theorem fin.tw15873037696872328925 : True := trivial
theorem fin.tw2729849653624723377 : True := trivial
theorem fin.tw5943015340162610155 : True := trivial
theorem fin.tw8579464783283622109 : True := trivial
theorem fin.tw12462277635255122978 : True := trivial
theorem fin.tw11114201836340432214 : True := trivial
theorem fin.tw12751978205869830748 : True := trivial
theorem fin.tw5526285376183310788 : True := trivial
theorem fin.tw14785452698993717334 : True := trivial
theorem fin.tw5680927227877331926 : True := trivial
theorem fin.tw7911910378639958867 : True := trivial
theorem fin.tw9986246043035802443 : True := trivial
theorem fin.tw11147166982614438869 : True := trivial
theorem fin.tw16022077011142191858 : True := trivial
theorem fin.tw13249466497337379595 : True := trivial
theorem fin.tw5167944902070249906 : True := trivial
theorem fin.tw12304228606943202825 : True := trivial
theorem fin.tw9643181986401743491 : True := trivial
theorem fin.tw3002321193647473803 : True := trivial
theorem fin.tw7550245348697819606 : True := trivial
theorem fin.tw904038334739938222 : True := trivial
theorem fin.tw10631971776571026366 : True := trivial
theorem fin.tw8947306829407289620 : True := trivial
theorem fin.tw16397172805816577565 : True := trivial
theorem fin.tw7193554124847589615 : True := trivial
theorem fin.tw3026937380112023659 : True := trivial
theorem fin.tw5899999196529652853 : True := trivial
theorem fin.tw4561644853628799399 : True := trivial
theorem fin.tw13304683364951064367 : True := trivial
theorem fin.tw16312722795656489095 : True := trivial
theorem fin.tw14044469162090103172 : True := trivial
theorem fin.tw2386126689217763390 : True := trivial
theorem fin.tw7850562315557810565 : True := trivial
theorem fin.tw7163653591271443685 : True := trivial
theorem fin.tw2030070087189672399 : True := trivial
theorem fin.tw13862168760111960861 : True := trivial
theorem fin.tw1717465138777567415 : True := trivial
theorem fin.tw12449532186833594164 : True := trivial
theorem fin.tw17540681841349276257 : True := trivial
theorem fin.tw18402297824864622187 : True := trivial
theorem fin.tw17243792726441971503 : True := trivial
theorem fin.tw16253985831419840915 : True := trivial
theorem fin.tw2568082538462786552 : True := trivial
theorem fin.tw9426385660899528898 : True := trivial
theorem fin.tw14283316867120891796 : True := trivial
theorem fin.tw17406935352234504861 : True := trivial
theorem fin.tw9735532206896235867 : True := trivial
theorem fin.tw16217512577083177488 : True := trivial
theorem fin.tw9350803574570262184 : True := trivial
theorem fin.tw2893357389468907917 : True := trivial
theorem fin.tw15225133998822677059 : True := trivial
theorem fin.tw5853953084782111080 : True := trivial
theorem fin.tw12030731908666236713 : True := trivial
theorem fin.tw15715027068662055690 : True := trivial
theorem fin.tw1412459407091105835 : True := trivial
theorem fin.tw4985728507212818316 : True := trivial
theorem fin.tw7157640920977549476 : True := trivial
theorem fin.tw9402104104316801022 : True := trivial
theorem fin.tw3787236866625580758 : True := trivial
theorem fin.tw1350296273916458551 : True := trivial
theorem fin.tw60464790676949430 : True := trivial
theorem fin.tw16972231081977784176 : True := trivial
theorem fin.tw6064701143388160986 : True := trivial
theorem fin.tw12541794841394677847 : True := trivial
theorem fin.tw9265913902213222685 : True := trivial
theorem fin.tw4464511205940221809 : True := trivial
theorem fin.tw15382195815909974631 : True := trivial
theorem fin.tw14830759852652495907 : True := trivial
theorem fin.tw18227358768178573685 : True := trivial
theorem fin.tw8651105995357262798 : True := trivial
theorem fin.tw6219821813347048094 : True := trivial
theorem fin.tw13739837740158868884 : True := trivial
theorem fin.tw8765753201070270437 : True := trivial
theorem fin.tw4676172222709878277 : True := trivial
theorem fin.tw15662818152136180567 : True := trivial
theorem fin.tw5484381540288093027 : True := trivial
theorem fin.tw13035599975385658867 : True := trivial
theorem fin.tw12478083643672913404 : True := trivial
theorem fin.tw2702453644462896505 : True := trivial
theorem fin.tw442791263610627237 : True := trivial
theorem fin.tw14133218525414686852 : True := trivial
theorem fin.tw3878703499912299887 : True := trivial
theorem fin.tw997887282184280819 : True := trivial
theorem fin.tw6562880678746004778 : True := trivial
theorem fin.tw10773260603588190666 : True := trivial
theorem fin.tw11351276838400808062 : True := trivial
theorem fin.tw662289804386252013 : True := trivial
theorem fin.tw12631824708648523144 : True := trivial
theorem fin.tw1363357906365418915 : True := trivial
theorem fin.tw569009481244475362 : True := trivial
theorem fin.tw7740688021903297510 : True := trivial
theorem fin.tw12081984404985207810 : True := trivial
theorem fin.tw2407141182789545092 : True := trivial
theorem fin.tw1422966713223162853 : True := trivial
theorem fin.tw12563120071689314576 : True := trivial
theorem fin.tw17685202221306038883 : True := trivial
theorem fin.tw13900826808889991057 : True := trivial
theorem fin.tw16980078003425100165 : True := trivial
theorem fin.tw222281983936395090 : True := trivial
theorem fin.tw6680449411054574569 : True := trivial
theorem fin.tw15438501128563792933 : True := trivial
theorem fin.tw17379621104745772108 : True := trivial
theorem fin.tw2989254645394197230 : True := trivial
theorem fin.tw17187931989925639037 : True := trivial
theorem fin.tw18146393551852786479 : True := trivial
theorem fin.tw15848608825648355132 : True := trivial
theorem fin.tw13643112422759008143 : True := trivial
theorem fin.tw9472922817969101911 : True := trivial
theorem fin.tw5693570994084861151 : True := trivial
theorem fin.tw15551256590758128950 : True := trivial
theorem fin.tw13518305853011088802 : True := trivial
theorem fin.tw4874078926933368279 : True := trivial
theorem fin.tw13627670469117876373 : True := trivial
theorem fin.tw4365726373996958463 : True := trivial
theorem fin.tw11875381402373810866 : True := trivial
theorem fin.tw14995081694147124713 : True := trivial
theorem fin.tw14319609925084042718 : True := trivial
theorem fin.tw4054584095202114086 : True := trivial
theorem fin.tw6062834198873617280 : True := trivial
theorem fin.tw18369391614165826267 : True := trivial
theorem fin.tw992978070628427713 : True := trivial
theorem fin.tw3246350570373987254 : True := trivial
theorem fin.tw16231027417747320569 : True := trivial
theorem fin.tw12070456110188982452 : True := trivial
theorem fin.tw6508024398460485763 : True := trivial
theorem fin.tw18436533439404975701 : True := trivial
theorem fin.tw17593727381932232133 : True := trivial
theorem fin.tw8696043007264867210 : True := trivial
theorem fin.tw13555052205485462865 : True := trivial
theorem fin.tw7259804445196553303 : True := trivial
theorem fin.tw6164689225882684132 : True := trivial
theorem fin.tw3043470669826465760 : True := trivial
theorem fin.tw12618628272322735060 : True := trivial
theorem fin.tw4045063636675602948 : True := trivial
theorem fin.tw6538063002256693761 : True := trivial
theorem fin.tw3360299479672498598 : True := trivial
theorem fin.tw10282170144249904454 : True := trivial
theorem fin.tw2573468785561726633 : True := trivial
theorem fin.tw15217787229448665029 : True := trivial
theorem fin.tw636147427821483999 : True := trivial
theorem fin.tw12734109005792716843 : True := trivial
theorem fin.tw14495431336439861174 : True := trivial
theorem fin.tw12392709999904029283 : True := trivial
theorem fin.tw9872098268082577147 : True := trivial
theorem fin.tw7961031255313012050 : True := trivial
theorem fin.tw16815562551286985801 : True := trivial
theorem fin.tw9173603110224643122 : True := trivial
theorem fin.tw14370480293751589867 : True := trivial
theorem fin.tw6461409362072667662 : True := trivial
theorem fin.tw3380676343658781899 : True := trivial
theorem fin.tw1405897622057794425 : True := trivial
theorem fin.tw17361756636278455780 : True := trivial
theorem fin.tw6642559287125252708 : True := trivial
theorem fin.tw14332859949639240327 : True := trivial
theorem fin.tw2442088684621408810 : True := trivial
theorem fin.tw5706633472411557712 : True := trivial
theorem fin.tw8135384322697869596 : True := trivial
theorem fin.tw14242707590111362544 : True := trivial
theorem fin.tw13307197567491690592 : True := trivial
theorem fin.tw2408960939061249870 : True := trivial
theorem fin.tw10084629386211731818 : True := trivial
theorem fin.tw8642956591928162124 : True := trivial
theorem fin.tw10038379707316165122 : True := trivial
theorem fin.tw11839362037839518811 : True := trivial
theorem fin.tw12983272501757255842 : True := trivial
theorem fin.tw2247918092100627776 : True := trivial
theorem fin.tw6147431913426189103 : True := trivial
theorem fin.tw14831621372327356649 : True := trivial
theorem fin.tw12578018394657142640 : True := trivial
theorem fin.tw13292075086201901296 : True := trivial
theorem fin.tw15585992441012015184 : True := trivial
theorem fin.tw5820466710098277491 : True := trivial
theorem fin.tw9742363153465304961 : True := trivial
theorem fin.tw11000843779679162291 : True := trivial
theorem fin.tw5820950964695864369 : True := trivial
theorem fin.tw4608180175031412068 : True := trivial
theorem fin.tw1547877587097197411 : True := trivial
theorem fin.tw13812085545017642741 : True := trivial
theorem fin.tw14715893982664842847 : True := trivial
theorem fin.tw7917548285769128609 : True := trivial
theorem fin.tw6758663317606660650 : True := trivial
theorem fin.tw4652505110207094938 : True := trivial
theorem fin.tw12705809211386939416 : True := trivial
theorem fin.tw13232076499608113247 : True := trivial
theorem fin.tw2752091986183467555 : True := trivial
theorem fin.tw7507374322917041583 : True := trivial
theorem fin.tw5609857593399385479 : True := trivial
theorem fin.tw12507174853811176531 : True := trivial
theorem fin.tw12045513705589894635 : True := trivial
theorem fin.tw14055123535094080273 : True := trivial
theorem fin.tw18157943996522908948 : True := trivial
theorem fin.tw2570306585012207593 : True := trivial
theorem fin.tw17770108898307270200 : True := trivial
theorem fin.tw8432929667963758897 : True := trivial
theorem fin.tw17748852888720816928 : True := trivial
theorem fin.tw7420950352456461681 : True := trivial
theorem fin.tw6475907746497074004 : True := trivial
theorem fin.tw7270069303462367756 : True := trivial
theorem fin.tw2034896404403200777 : True := trivial
theorem fin.tw15664837188838724 : True := trivial
theorem fin.tw16939121089588816534 : True := trivial
theorem fin.tw15830942623838425631 : True := trivial
theorem fin.tw997375206573745069 : True := trivial
theorem fin.tw9646449454120195008 : True := trivial
theorem fin.tw18198143704209324747 : True := trivial
theorem fin.tw10036989727400386234 : True := trivial
theorem fin.tw3704125596732779340 : True := trivial
theorem fin.tw2692977207878642823 : True := trivial
theorem fin.tw14746900525979965132 : True := trivial
theorem fin.tw4485317993302519759 : True := trivial
theorem fin.tw7515607724385617133 : True := trivial
theorem fin.tw13491076748231791703 : True := trivial
theorem fin.tw3523121762093710863 : True := trivial
theorem fin.tw16282903010242473213 : True := trivial
theorem fin.tw6310204854330606434 : True := trivial
theorem fin.tw7397593355873017396 : True := trivial
theorem fin.tw14472538251370321583 : True := trivial
theorem fin.tw8793901588540234292 : True := trivial
theorem fin.tw14781754792826865377 : True := trivial
theorem fin.tw1601457331334615783 : True := trivial
theorem fin.tw1918936178134766702 : True := trivial
theorem fin.tw7504672751866623191 : True := trivial
theorem fin.tw8817917830631561492 : True := trivial
theorem fin.tw8548596234210943161 : True := trivial
theorem fin.tw15925861663654237186 : True := trivial
theorem fin.tw9198068984511786323 : True := trivial
theorem fin.tw4945295690982557895 : True := trivial
theorem fin.tw7365056926209779143 : True := trivial
theorem fin.tw5878754860050825413 : True := trivial
theorem fin.tw5152106690913108900 : True := trivial
theorem fin.tw18435385816712660198 : True := trivial
theorem fin.tw4240707202206361892 : True := trivial
theorem fin.tw6262540009607760666 : True := trivial
theorem fin.tw8271830853098614596 : True := trivial
theorem fin.tw3493451186050813340 : True := trivial
theorem fin.tw7237211504229103197 : True := trivial
theorem fin.tw3404870402558255397 : True := trivial
theorem fin.tw2094609674877317812 : True := trivial
theorem fin.tw5212833665933091111 : True := trivial
theorem fin.tw3627196117584932430 : True := trivial
theorem fin.tw12310189802903077762 : True := trivial
theorem fin.tw3405849902219781004 : True := trivial
theorem fin.tw16729419359221583628 : True := trivial
theorem fin.tw17090520950648628573 : True := trivial
theorem fin.tw15785070820105401965 : True := trivial
theorem fin.tw12952338173627110967 : True := trivial
theorem fin.tw17013622689778091987 : True := trivial
theorem fin.tw15378324215563815083 : True := trivial
theorem fin.tw13846785618639409469 : True := trivial
theorem fin.tw1893775799952434370 : True := trivial
theorem fin.tw369849053350000909 : True := trivial
theorem fin.tw6607577572179491035 : True := trivial
theorem fin.tw9069840293148575407 : True := trivial
theorem fin.tw9441421087911713525 : True := trivial
theorem fin.tw8581152291734615759 : True := trivial
theorem fin.tw149615312289124715 : True := trivial
theorem fin.tw18034386255983310008 : True := trivial
theorem fin.tw16169705700103281134 : True := trivial
theorem fin.tw14263957293746721715 : True := trivial
theorem fin.tw10899164206762424578 : True := trivial
theorem fin.tw14721812458927722005 : True := trivial
theorem fin.tw17056725699370234308 : True := trivial
theorem fin.tw10265298075086482230 : True := trivial
theorem fin.tw6548487228075310757 : True := trivial
theorem fin.tw17625846879899499143 : True := trivial
theorem fin.tw2487397417799325339 : True := trivial
theorem fin.tw12213959854548171597 : True := trivial
theorem fin.tw16023699612770772548 : True := trivial
theorem fin.tw13366669301387172479 : True := trivial
theorem fin.tw17979336073066592388 : True := trivial
theorem fin.tw16601923200889442756 : True := trivial
theorem fin.tw7047351209531925555 : True := trivial
theorem fin.tw3451608074906578034 : True := trivial
theorem fin.tw9453698228708602487 : True := trivial
theorem fin.tw9828147506342744091 : True := trivial
theorem fin.tw10212952176985394431 : True := trivial
theorem fin.tw9659716664097621076 : True := trivial
theorem fin.tw89727545237131050 : True := trivial
theorem fin.tw1374033575008642842 : True := trivial
theorem fin.tw10683609927848735152 : True := trivial
theorem fin.tw3093831735333795905 : True := trivial
theorem fin.tw4215105727341614360 : True := trivial
theorem fin.tw3780939710592286428 : True := trivial
theorem fin.tw11955029692104226857 : True := trivial
theorem fin.tw12930728656936017687 : True := trivial
theorem fin.tw13930682555001673579 : True := trivial
theorem fin.tw7468869467488854307 : True := trivial
theorem fin.tw15573402996174437187 : True := trivial
theorem fin.tw15390876026934756114 : True := trivial
theorem fin.tw1404142985491790438 : True := trivial
theorem fin.tw6342058667729863793 : True := trivial
theorem fin.tw484438559230344658 : True := trivial
theorem fin.tw2889549343368979185 : True := trivial
theorem fin.tw13663712653956307005 : True := trivial
theorem fin.tw17820772662048170168 : True := trivial
theorem fin.tw9308921965027447612 : True := trivial
theorem fin.tw15328865355794929244 : True := trivial
theorem fin.tw2063516282011729924 : True := trivial
theorem fin.tw4664219291091312563 : True := trivial
theorem fin.tw4693250869231261295 : True := trivial
theorem fin.tw11145116741125064720 : True := trivial
theorem fin.tw6753334127964713920 : True := trivial
theorem fin.tw1258539651640232252 : True := trivial
theorem fin.tw7416316457308741088 : True := trivial
theorem fin.tw15215344080130319848 : True := trivial
theorem fin.tw13460346998686769423 : True := trivial
theorem fin.tw9158639710788327270 : True := trivial
theorem fin.tw5067848676765434645 : True := trivial
theorem fin.tw11392279219771409646 : True := trivial
theorem fin.tw5843104343964092018 : True := trivial
theorem fin.tw2266156473880313826 : True := trivial
theorem fin.tw6207007084455232516 : True := trivial
theorem fin.tw3457577295273247993 : True := trivial
theorem fin.tw4753843848204660379 : True := trivial
theorem fin.tw13438661932697077489 : True := trivial
theorem fin.tw9350873072053368622 : True := trivial
theorem fin.tw4099142471793051199 : True := trivial
theorem fin.tw1164577103729627557 : True := trivial
theorem fin.tw15999677408137564007 : True := trivial
theorem fin.tw4684362782114478032 : True := trivial
theorem fin.tw17904447066158130043 : True := trivial
theorem fin.tw12580147959424536363 : True := trivial
theorem fin.tw1330371912301358842 : True := trivial
theorem fin.tw8915204878667863452 : True := trivial
theorem fin.tw13981231130595552247 : True := trivial
theorem fin.tw12771476991046638928 : True := trivial
theorem fin.tw16950834130490642947 : True := trivial
theorem fin.tw8876522627823719623 : True := trivial
theorem fin.tw8097746696377561657 : True := trivial
theorem fin.tw7555844199166984167 : True := trivial
theorem fin.tw5784358593452591249 : True := trivial
theorem fin.tw11764640858105366932 : True := trivial
theorem fin.tw17573806044959458389 : True := trivial
theorem fin.tw10410560824262274312 : True := trivial
theorem fin.tw15718796082602202473 : True := trivial
theorem fin.tw10780969087567948381 : True := trivial
theorem fin.tw8113439584364656439 : True := trivial
theorem fin.tw1828535557547266763 : True := trivial
theorem fin.tw16008352439218843909 : True := trivial
theorem fin.tw6452079792526151285 : True := trivial
theorem fin.tw11540268431951176639 : True := trivial
theorem fin.tw5697329851534765875 : True := trivial
theorem fin.tw16935703041343069523 : True := trivial
theorem fin.tw16013192336732917361 : True := trivial
theorem fin.tw10222835580655202222 : True := trivial
theorem fin.tw1398678351311079855 : True := trivial
theorem fin.tw4971108026486305614 : True := trivial
theorem fin.tw17434812882584663159 : True := trivial
theorem fin.tw4325191162776509182 : True := trivial
theorem fin.tw12422904734792385405 : True := trivial
theorem fin.tw13229561489293539574 : True := trivial
theorem fin.tw15593647358623071937 : True := trivial
theorem fin.tw9632653540210603081 : True := trivial
theorem fin.tw4725460767093446600 : True := trivial
theorem fin.tw9285502775097883379 : True := trivial
theorem fin.tw10910768022184060351 : True := trivial
theorem fin.tw3301814573070591000 : True := trivial
theorem fin.tw10686063539569895109 : True := trivial
theorem fin.tw6303907929938155814 : True := trivial
theorem fin.tw3573219210906474937 : True := trivial
theorem fin.tw14517564959769073929 : True := trivial
theorem fin.tw2553443387124881028 : True := trivial
theorem fin.tw1368195344287089692 : True := trivial
theorem fin.tw16854768282035348493 : True := trivial
theorem fin.tw1740874975398060312 : True := trivial
theorem fin.tw3321985987820145931 : True := trivial
theorem fin.tw10162525131873970293 : True := trivial
theorem fin.tw822015909906219429 : True := trivial
theorem fin.tw11921126211628179364 : True := trivial
theorem fin.tw9477409154765175549 : True := trivial
theorem fin.tw3253779708953594987 : True := trivial
theorem fin.tw1852177515930521313 : True := trivial
theorem fin.tw7369631188824622823 : True := trivial
theorem fin.tw3559112108877197975 : True := trivial
theorem fin.tw13921157682446629093 : True := trivial
theorem fin.tw5363697172341562315 : True := trivial
theorem fin.tw11457267096318591117 : True := trivial
theorem fin.tw2754943632571594478 : True := trivial
theorem fin.tw8801175099496975769 : True := trivial
theorem fin.tw8148452431379509912 : True := trivial
theorem fin.tw5895586426549231531 : True := trivial
theorem fin.tw6295955727852119378 : True := trivial
theorem fin.tw11179749977279314779 : True := trivial
theorem fin.tw15885020149984375850 : True := trivial
theorem fin.tw2149071653572219070 : True := trivial
theorem fin.tw15986660976379625817 : True := trivial
theorem fin.tw12983801754500030112 : True := trivial
theorem fin.tw1387329636951720631 : True := trivial
theorem fin.tw5045657052860052415 : True := trivial
theorem fin.tw11191030772368836008 : True := trivial
theorem fin.tw9809262029127557175 : True := trivial
theorem fin.tw16336886248293087572 : True := trivial
theorem fin.tw13246099349013045253 : True := trivial
theorem fin.tw8648030909004020460 : True := trivial
theorem fin.tw17357819248375132326 : True := trivial
theorem fin.tw16362522531035040037 : True := trivial
theorem fin.tw3261639445485040436 : True := trivial
theorem fin.tw16826406512741365924 : True := trivial
theorem fin.tw9066832849938120067 : True := trivial
theorem fin.tw1969125764957023869 : True := trivial
theorem fin.tw12963641456419337283 : True := trivial
theorem fin.tw17571561675222187055 : True := trivial
theorem fin.tw4459888030888754104 : True := trivial
theorem fin.tw9073980366463248952 : True := trivial
theorem fin.tw12861812720495223942 : True := trivial
theorem fin.tw578981761147807489 : True := trivial
theorem fin.tw11511206133448055489 : True := trivial
theorem fin.tw775568199269383549 : True := trivial
theorem fin.tw15673718555088775484 : True := trivial
theorem fin.tw14173521551259286414 : True := trivial
theorem fin.tw12451337195149819577 : True := trivial
theorem fin.tw13579942742706757279 : True := trivial
theorem fin.tw8230447384471266700 : True := trivial
theorem fin.tw3424896355996376007 : True := trivial
theorem fin.tw5736607870324714639 : True := trivial
theorem fin.tw11690121570812576641 : True := trivial
theorem fin.tw3344697578079055931 : True := trivial
theorem fin.tw16203985538906393301 : True := trivial
theorem fin.tw13220255540997464481 : True := trivial
theorem fin.tw14836742988278344780 : True := trivial
theorem fin.tw13489014295062590020 : True := trivial
theorem fin.tw17991543422978543339 : True := trivial
theorem fin.tw13170543777164387458 : True := trivial
theorem fin.tw3865570984851337102 : True := trivial
theorem fin.tw15803647335775096318 : True := trivial
theorem fin.tw13174711987866584785 : True := trivial
theorem fin.tw15006197148634694070 : True := trivial
theorem fin.tw6185243705505196265 : True := trivial
theorem fin.tw13791057837349099244 : True := trivial
theorem fin.tw11851890942404295115 : True := trivial
theorem fin.tw3117844165210426507 : True := trivial
theorem fin.tw6303891360052152732 : True := trivial
theorem fin.tw8992845922051357378 : True := trivial
theorem fin.tw2106611856725232918 : True := trivial
theorem fin.tw1243297681173986017 : True := trivial
theorem fin.tw10604582924909496153 : True := trivial
theorem fin.tw4766646471141125751 : True := trivial
theorem fin.tw3594789781646251078 : True := trivial
theorem fin.tw3147549801543308875 : True := trivial
theorem fin.tw16598111837705310476 : True := trivial
theorem fin.tw831961903226767527 : True := trivial
theorem fin.tw12493683874285629370 : True := trivial
theorem fin.tw13055093582681917713 : True := trivial
theorem fin.tw11230343331521827048 : True := trivial
theorem fin.tw1990540858682834173 : True := trivial
theorem fin.tw3489028014049869031 : True := trivial
theorem fin.tw12117995768123871891 : True := trivial
theorem fin.tw15747829448912871831 : True := trivial
theorem fin.tw17087244250289142419 : True := trivial
theorem fin.tw16606509081716145538 : True := trivial
theorem fin.tw1881686670891119088 : True := trivial
theorem fin.tw3176595516384178990 : True := trivial
theorem fin.tw5512386811668895730 : True := trivial
theorem fin.tw1344375218359569892 : True := trivial
theorem fin.tw2450771740759361737 : True := trivial
theorem fin.tw13978881771629798769 : True := trivial
theorem fin.tw18114745165547003644 : True := trivial
theorem fin.tw874550610444849409 : True := trivial
theorem fin.tw15136586368373999184 : True := trivial
theorem fin.tw14408327079746127557 : True := trivial
theorem fin.tw12027501170831983790 : True := trivial
theorem fin.tw2994468132688296799 : True := trivial
theorem fin.tw10429149229420230397 : True := trivial
theorem fin.tw7605189527823165946 : True := trivial
theorem fin.tw10292438255575353310 : True := trivial
theorem fin.tw3690602729102031155 : True := trivial
theorem fin.tw17950615807805380434 : True := trivial
theorem fin.tw9140638768418085583 : True := trivial
theorem fin.tw10227155944627111938 : True := trivial
theorem fin.tw18127450450818009317 : True := trivial
theorem fin.tw8331262601564567269 : True := trivial
theorem fin.tw9784035478835068403 : True := trivial
theorem fin.tw7123708324430900378 : True := trivial
theorem fin.tw761067018842006894 : True := trivial
theorem fin.tw11996611482909092674 : True := trivial
theorem fin.tw830653844747074499 : True := trivial
theorem fin.tw15930114225705120221 : True := trivial
theorem fin.tw9021679743303943473 : True := trivial
theorem fin.tw13837196957636545989 : True := trivial
theorem fin.tw4576743580672133640 : True := trivial
theorem fin.tw5883936552280850330 : True := trivial
theorem fin.tw2558945936534525144 : True := trivial
theorem fin.tw11960621293216590010 : True := trivial
theorem fin.tw1641944201790157704 : True := trivial
theorem fin.tw2759383124583688699 : True := trivial
theorem fin.tw14229723833446254615 : True := trivial
theorem fin.tw16328414832103592811 : True := trivial
theorem fin.tw12654196716992830316 : True := trivial
theorem fin.tw4704539128875821333 : True := trivial
theorem fin.tw10265358394273191937 : True := trivial
theorem fin.tw5842823148477693208 : True := trivial
theorem fin.tw6236690082080353467 : True := trivial
theorem fin.tw12687515536451416734 : True := trivial
theorem fin.tw13295147552845187661 : True := trivial
theorem fin.tw1200994318089340631 : True := trivial
theorem fin.tw1513882299299856519 : True := trivial
theorem fin.tw1701879167463685435 : True := trivial
theorem fin.tw8110510569099292851 : True := trivial
theorem fin.tw4487510444934403244 : True := trivial
theorem fin.tw4452947585259280486 : True := trivial
theorem fin.tw7249363103750906088 : True := trivial
theorem fin.tw17334501490640209979 : True := trivial
theorem fin.tw16471564285230226018 : True := trivial
theorem fin.tw11207943238679085509 : True := trivial
theorem fin.tw12101641454282484092 : True := trivial
theorem fin.tw4657515543247647793 : True := trivial
theorem fin.tw274485646020346020 : True := trivial
theorem fin.tw4504814632618958902 : True := trivial
theorem fin.tw17411212529522378858 : True := trivial
theorem fin.tw7191174187006588948 : True := trivial
theorem fin.tw1830487165695529041 : True := trivial
theorem fin.tw3978396750661626250 : True := trivial
theorem fin.tw6855842070160138184 : True := trivial
theorem fin.tw3294737048268681048 : True := trivial
theorem fin.tw10072776222593835123 : True := trivial
theorem fin.tw11872632619743157287 : True := trivial
theorem fin.tw13804985430223577035 : True := trivial
theorem fin.tw12628658579444766952 : True := trivial
theorem fin.tw16633560776699885744 : True := trivial
theorem fin.tw9378806716732408928 : True := trivial
theorem fin.tw15031237850222361648 : True := trivial
theorem fin.tw7355374195879946696 : True := trivial
theorem fin.tw6310021211740372508 : True := trivial
theorem fin.tw16887700694756565908 : True := trivial
theorem fin.tw14315063267606007404 : True := trivial
theorem fin.tw5409113828100790563 : True := trivial
theorem fin.tw13921985058705105876 : True := trivial
theorem fin.tw9795238472383900393 : True := trivial
theorem fin.tw6310958089706085282 : True := trivial
theorem fin.tw16066392570959152268 : True := trivial
theorem fin.tw13493312018539604184 : True := trivial
theorem fin.tw3748057295260388753 : True := trivial
theorem fin.tw3718673584147652008 : True := trivial
theorem fin.tw16363194186817777481 : True := trivial
theorem fin.tw11683991459385727643 : True := trivial
theorem fin.tw9869977641006610649 : True := trivial
theorem fin.tw1065152208204246454 : True := trivial
theorem fin.tw7368436901872290425 : True := trivial
theorem fin.tw368081365477574425 : True := trivial
theorem fin.tw6358069152663178829 : True := trivial
theorem fin.tw2075801320445439918 : True := trivial
theorem fin.tw25104660705969849 : True := trivial
theorem fin.tw6930370732313082385 : True := trivial
theorem fin.tw1338992324998018327 : True := trivial
theorem fin.tw14652247202126665213 : True := trivial
theorem fin.tw586611431856377603 : True := trivial
theorem fin.tw7210813102946781322 : True := trivial
theorem fin.tw3193646187698272336 : True := trivial
theorem fin.tw11438153723390932928 : True := trivial
theorem fin.tw8614576103881278808 : True := trivial
theorem fin.tw18231855731146511509 : True := trivial
theorem fin.tw12925203785973401461 : True := trivial
theorem fin.tw1854604321948931237 : True := trivial
theorem fin.tw9627145371687314957 : True := trivial
theorem fin.tw7252610826061872596 : True := trivial
theorem fin.tw13775552575860308106 : True := trivial
theorem fin.tw9335943379023604384 : True := trivial
theorem fin.tw4896368396260917170 : True := trivial
theorem fin.tw17724625539836693508 : True := trivial
theorem fin.tw17625713231706202144 : True := trivial
theorem fin.tw3321323780527890162 : True := trivial
theorem fin.tw18396743280269149055 : True := trivial
theorem fin.tw1204137644300099425 : True := trivial
theorem fin.tw14818152549033184611 : True := trivial
theorem fin.tw3918537446871395327 : True := trivial
theorem fin.tw4344318183482643105 : True := trivial
theorem fin.tw7077062725725365638 : True := trivial
theorem fin.tw294590611059691863 : True := trivial
theorem fin.tw7090946254666370152 : True := trivial
theorem fin.tw15796644347841267316 : True := trivial
theorem fin.tw5194711676709984005 : True := trivial
theorem fin.tw16349080303461131819 : True := trivial
theorem fin.tw2470701777523257804 : True := trivial
theorem fin.tw17291772828845049457 : True := trivial
theorem fin.tw13922000549015970409 : True := trivial
theorem fin.tw2854405671339224846 : True := trivial
theorem fin.tw18115140415614742170 : True := trivial
theorem fin.tw2411128774134946634 : True := trivial
theorem fin.tw6990884831612359659 : True := trivial
theorem fin.tw11340514758150383591 : True := trivial
theorem fin.tw5089917419754994551 : True := trivial
theorem fin.tw2425492596529983466 : True := trivial
theorem fin.tw261821256539638927 : True := trivial
theorem fin.tw17201370528100623181 : True := trivial
theorem fin.tw10457929159882727643 : True := trivial
theorem fin.tw12396209658082332994 : True := trivial
theorem fin.tw8777577687540504277 : True := trivial
theorem fin.tw8587751116856628383 : True := trivial
theorem fin.tw7661403858562826886 : True := trivial
theorem fin.tw2452473623474585517 : True := trivial
theorem fin.tw10852213800648313614 : True := trivial
theorem fin.tw4711720602628399502 : True := trivial
theorem fin.tw2469472546353832535 : True := trivial
theorem fin.tw14615019622866441550 : True := trivial
theorem fin.tw2632913303063955942 : True := trivial
theorem fin.tw3155025711638693126 : True := trivial
theorem fin.tw7431150777340633575 : True := trivial
theorem fin.tw15004460743027406467 : True := trivial
theorem fin.tw9672863017350055546 : True := trivial
theorem fin.tw1651139742643630008 : True := trivial
theorem fin.tw5198509831827884692 : True := trivial
theorem fin.tw6824927888599367310 : True := trivial
theorem fin.tw13839243275824719745 : True := trivial
theorem fin.tw4363097732510720579 : True := trivial
theorem fin.tw4559090275420619719 : True := trivial
theorem fin.tw17452367336126373401 : True := trivial
theorem fin.tw14514328414990077680 : True := trivial
theorem fin.tw13279176329777687005 : True := trivial
theorem fin.tw1424984389478407809 : True := trivial
theorem fin.tw9528985875602171006 : True := trivial
theorem fin.tw366058408888768381 : True := trivial
theorem fin.tw3489958942724408121 : True := trivial
theorem fin.tw14081967897634698039 : True := trivial
theorem fin.tw17675083149728249629 : True := trivial
theorem fin.tw13020374749053594496 : True := trivial
theorem fin.tw14914217322324264805 : True := trivial
theorem fin.tw11299426161043911516 : True := trivial
theorem fin.tw11285562928464862498 : True := trivial
theorem fin.tw12019880667157327137 : True := trivial
theorem fin.tw10236323999418985608 : True := trivial
theorem fin.tw17553906217969281993 : True := trivial
theorem fin.tw14477317618158010618 : True := trivial
theorem fin.tw1845520602892408824 : True := trivial
theorem fin.tw8761137362585489571 : True := trivial
theorem fin.tw17618388459422557440 : True := trivial
theorem fin.tw10758798044831683879 : True := trivial
theorem fin.tw7843845063235661564 : True := trivial
theorem fin.tw6033984107891203105 : True := trivial
theorem fin.tw9925549525861308849 : True := trivial
theorem fin.tw4298771454809522405 : True := trivial
theorem fin.tw1441791068598166062 : True := trivial
theorem fin.tw1199375362500212583 : True := trivial
theorem fin.tw12491093143988871188 : True := trivial
theorem fin.tw17919918891262416023 : True := trivial
theorem fin.tw12565506697774309597 : True := trivial
theorem fin.tw8548668551022101604 : True := trivial
theorem fin.tw6630238822075159231 : True := trivial
theorem fin.tw16167742904778537219 : True := trivial
theorem fin.tw6720137858965882657 : True := trivial
theorem fin.tw12098396389469041702 : True := trivial
theorem fin.tw18410453964071753068 : True := trivial
theorem fin.tw530942456007800501 : True := trivial
theorem fin.tw9054491467902792193 : True := trivial
theorem fin.tw13195652464574155409 : True := trivial
theorem fin.tw3766824979987422198 : True := trivial
theorem fin.tw7714121686441148433 : True := trivial
theorem fin.tw4767076936496275246 : True := trivial
theorem fin.tw5288508072860488516 : True := trivial
theorem fin.tw8475450037671875130 : True := trivial
theorem fin.tw14910094642431902129 : True := trivial
theorem fin.tw17656101222014497103 : True := trivial
theorem fin.tw7514471295317783743 : True := trivial
theorem fin.tw11000662240677023480 : True := trivial
theorem fin.tw16324811567482535334 : True := trivial
theorem fin.tw16031195705374502067 : True := trivial
theorem fin.tw13854051674832040791 : True := trivial
theorem fin.tw17786886280402632565 : True := trivial
theorem fin.tw11063084058668902294 : True := trivial
theorem fin.tw2370865312241312149 : True := trivial
theorem fin.tw12521281409816086865 : True := trivial
theorem fin.tw10211831134021081526 : True := trivial
theorem fin.tw12725317397777252941 : True := trivial
theorem fin.tw11767963949779043074 : True := trivial
theorem fin.tw11865206325595545938 : True := trivial
theorem fin.tw13038489570750748267 : True := trivial
theorem fin.tw6102995592393555260 : True := trivial
theorem fin.tw1330895965241398056 : True := trivial
theorem fin.tw380305296373880662 : True := trivial
theorem fin.tw5439856956781641882 : True := trivial
theorem fin.tw1175797741021282275 : True := trivial
theorem fin.tw14519396842308637621 : True := trivial
theorem fin.tw819006710299763400 : True := trivial
theorem fin.tw17403971828025965722 : True := trivial
theorem fin.tw9889324208269585163 : True := trivial
theorem fin.tw5039317509523767388 : True := trivial
theorem fin.tw13080691656616876880 : True := trivial
theorem fin.tw15419367331146119574 : True := trivial
theorem fin.tw6731721471150111524 : True := trivial
theorem fin.tw11943558641347587417 : True := trivial
theorem fin.tw13878482944431775262 : True := trivial
theorem fin.tw16333132771603127549 : True := trivial
theorem fin.tw17094098614095602278 : True := trivial
theorem fin.tw11291055956478989865 : True := trivial
theorem fin.tw2712075402843721462 : True := trivial
theorem fin.tw13344547666831973936 : True := trivial
theorem fin.tw18170920659351250691 : True := trivial
theorem fin.tw12996020384478257796 : True := trivial
theorem fin.tw428014402822848102 : True := trivial
theorem fin.tw8955670345854654668 : True := trivial
theorem fin.tw15022689638015026569 : True := trivial
theorem fin.tw3608497781368158658 : True := trivial
theorem fin.tw16487227588615754580 : True := trivial
theorem fin.tw8008456589898918760 : True := trivial
theorem fin.tw7400909301719242167 : True := trivial
theorem fin.tw11521345823390182780 : True := trivial
theorem fin.tw1715541996479690173 : True := trivial
theorem fin.tw5785445841746577598 : True := trivial
theorem fin.tw1449275182749790890 : True := trivial
theorem fin.tw16347667439062276707 : True := trivial
theorem fin.tw4628727887606495547 : True := trivial
theorem fin.tw10448327353866166691 : True := trivial
theorem fin.tw790563181739299272 : True := trivial
theorem fin.tw9004976519901817620 : True := trivial
theorem fin.tw4366301051000244953 : True := trivial
theorem fin.tw6690489665496590462 : True := trivial
theorem fin.tw2013287529726405682 : True := trivial
theorem fin.tw13424794424186185174 : True := trivial
theorem fin.tw247857538857077266 : True := trivial
theorem fin.tw3552647275934945196 : True := trivial
theorem fin.tw5621590273571313616 : True := trivial
theorem fin.tw12584419674405407636 : True := trivial
theorem fin.tw1384865410414898306 : True := trivial
theorem fin.tw17266133344714474547 : True := trivial
theorem fin.tw5591854670512749752 : True := trivial
theorem fin.tw3885248768697722918 : True := trivial
theorem fin.tw6750434219466228224 : True := trivial
theorem fin.tw7088825912723829459 : True := trivial
theorem fin.tw11416045235686555636 : True := trivial
theorem fin.tw2375109187002396184 : True := trivial
theorem fin.tw15536082293821462391 : True := trivial
theorem fin.tw9677097701277522146 : True := trivial
theorem fin.tw10742034389588894741 : True := trivial
theorem fin.tw17263742613038848106 : True := trivial
theorem fin.tw5301724877180848507 : True := trivial
theorem fin.tw4626051127714620452 : True := trivial
theorem fin.tw16440192479323422020 : True := trivial
theorem fin.tw16635916599214957972 : True := trivial
theorem fin.tw11680868892795747873 : True := trivial
theorem fin.tw7059206480184210394 : True := trivial
theorem fin.tw6154935397547163710 : True := trivial
theorem fin.tw5336081398051302239 : True := trivial
theorem fin.tw13337950209408610978 : True := trivial
theorem fin.tw18175891135622765450 : True := trivial
theorem fin.tw4756999144959642058 : True := trivial
theorem fin.tw17564156322311648840 : True := trivial
theorem fin.tw13815260356272028711 : True := trivial
theorem fin.tw14968146878001746339 : True := trivial
theorem fin.tw7716114777777550902 : True := trivial
theorem fin.tw8034619117866495337 : True := trivial
theorem fin.tw13638058401785410041 : True := trivial
theorem fin.tw7048416603414373122 : True := trivial
theorem fin.tw2649650637942755703 : True := trivial
theorem fin.tw15064564345150801925 : True := trivial
theorem fin.tw17646890857270763491 : True := trivial
theorem fin.tw1106176220301512725 : True := trivial
theorem fin.tw5426787948642142622 : True := trivial
theorem fin.tw12439320284757896884 : True := trivial
theorem fin.tw8005726834566476038 : True := trivial
theorem fin.tw6290623462959505600 : True := trivial
theorem fin.tw4870930685315347237 : True := trivial
theorem fin.tw12911448478612175764 : True := trivial
theorem fin.tw7321151492052790545 : True := trivial
theorem fin.tw14928537320452000456 : True := trivial
theorem fin.tw4511179659842756495 : True := trivial
theorem fin.tw7151564717611723775 : True := trivial
theorem fin.tw17597299252120027202 : True := trivial
theorem fin.tw13558135923588603398 : True := trivial
theorem fin.tw11405829667761130271 : True := trivial
theorem fin.tw2343408646645782852 : True := trivial
theorem fin.tw11942065890942069322 : True := trivial
theorem fin.tw12741695128897337906 : True := trivial
theorem fin.tw16317669136782259649 : True := trivial
theorem fin.tw12481256567119627825 : True := trivial
theorem fin.tw13411834968724099454 : True := trivial
theorem fin.tw15051934890740787821 : True := trivial
theorem fin.tw11988471511801350261 : True := trivial
theorem fin.tw13088972798415178761 : True := trivial
theorem fin.tw17849949230095905368 : True := trivial
theorem fin.tw2468895432071198214 : True := trivial
theorem fin.tw15389202070628895743 : True := trivial
theorem fin.tw15235020665287969520 : True := trivial
theorem fin.tw9117211531625538017 : True := trivial
theorem fin.tw5963367719907323682 : True := trivial
theorem fin.tw3865018537681380705 : True := trivial
theorem fin.tw15245463254525300185 : True := trivial
theorem fin.tw11097697723646530662 : True := trivial
theorem fin.tw15969936937844967239 : True := trivial
theorem fin.tw7948143752976310698 : True := trivial
theorem fin.tw7686031327580914635 : True := trivial
theorem fin.tw8136971069072432458 : True := trivial
theorem fin.tw18409359817912677925 : True := trivial
theorem fin.tw3082291461369035730 : True := trivial
theorem fin.tw11444690641640478808 : True := trivial
theorem fin.tw9780314144483045009 : True := trivial
theorem fin.tw2371015234213354712 : True := trivial
theorem fin.tw10345386302632584704 : True := trivial
theorem fin.tw8269984357339966278 : True := trivial
theorem fin.tw4186765022290513162 : True := trivial
theorem fin.tw14025591186717675392 : True := trivial
theorem fin.tw9386498954711160213 : True := trivial
theorem fin.tw5154890786765418311 : True := trivial
theorem fin.tw11223671482858915282 : True := trivial
theorem fin.tw3575972384910704435 : True := trivial
theorem fin.tw15886021513359416878 : True := trivial
theorem fin.tw5969918560705584894 : True := trivial
theorem fin.tw12535412967699285497 : True := trivial
theorem fin.tw1966325123556360236 : True := trivial
theorem fin.tw9211984394303360695 : True := trivial
theorem fin.tw6123109741601151476 : True := trivial
theorem fin.tw15554130134151525895 : True := trivial
theorem fin.tw18029292227714294213 : True := trivial
theorem fin.tw6385329355845366916 : True := trivial
theorem fin.tw4422475190196591312 : True := trivial
theorem fin.tw7267729161648907132 : True := trivial
theorem fin.tw3346760285246115863 : True := trivial
theorem fin.tw1456946892656080507 : True := trivial
theorem fin.tw1859519496874115143 : True := trivial
theorem fin.tw1744686355166459157 : True := trivial
theorem fin.tw12293742463762156499 : True := trivial
theorem fin.tw6429839374017115023 : True := trivial
theorem fin.tw14872106190475913134 : True := trivial
theorem fin.tw10876839388296200046 : True := trivial
theorem fin.tw16822780692221762383 : True := trivial
theorem fin.tw4968522996984000669 : True := trivial
theorem fin.tw10915353552643012185 : True := trivial
theorem fin.tw10515829024174352722 : True := trivial
theorem fin.tw2239505237256157432 : True := trivial
theorem fin.tw12530066569554026 : True := trivial
theorem fin.tw17172084203037148939 : True := trivial
theorem fin.tw16773223264757773090 : True := trivial
theorem fin.tw1895432623050710601 : True := trivial
theorem fin.tw3466313707914092776 : True := trivial
theorem fin.tw8265160217746909728 : True := trivial
theorem fin.tw15159686522183576571 : True := trivial
theorem fin.tw6419422868335773534 : True := trivial
theorem fin.tw12410837543502791230 : True := trivial
theorem fin.tw18298288384779628655 : True := trivial
theorem fin.tw1543294149939326886 : True := trivial
theorem fin.tw18109506681006227737 : True := trivial
theorem fin.tw4843274313021992185 : True := trivial
theorem fin.tw9891439469210409403 : True := trivial
theorem fin.tw97368372922498418 : True := trivial
theorem fin.tw1574770246917906893 : True := trivial
theorem fin.tw2851285353239245817 : True := trivial
theorem fin.tw6155014221062140678 : True := trivial
theorem fin.tw9986001381515337334 : True := trivial
theorem fin.tw8913462315527854416 : True := trivial
theorem fin.tw18327860734227268776 : True := trivial
theorem fin.tw7030313789851482727 : True := trivial
theorem fin.tw17191238791401643569 : True := trivial
theorem fin.tw2440973044437348689 : True := trivial
theorem fin.tw2898190748469675645 : True := trivial
theorem fin.tw13117949683575043331 : True := trivial
theorem fin.tw123234157970512446 : True := trivial
theorem fin.tw7176250435117146913 : True := trivial
theorem fin.tw14086284462176596401 : True := trivial
theorem fin.tw9037986018336918726 : True := trivial
theorem fin.tw2750655786130786038 : True := trivial
theorem fin.tw8322235082377077079 : True := trivial
theorem fin.tw6232347890915433282 : True := trivial
theorem fin.tw2936171257187844640 : True := trivial
theorem fin.tw10869451131243483092 : True := trivial
theorem fin.tw11973965694773539919 : True := trivial
theorem fin.tw3156113574721468864 : True := trivial
theorem fin.tw4601297077472903248 : True := trivial
theorem fin.tw3151172120727522172 : True := trivial
theorem fin.tw7022945440632979249 : True := trivial
theorem fin.tw15800686558219035442 : True := trivial
theorem fin.tw8704624038853536458 : True := trivial
theorem fin.tw7382902558829825099 : True := trivial
theorem fin.tw770229294807277713 : True := trivial
theorem fin.tw14292227056630452653 : True := trivial
theorem fin.tw500622144378874697 : True := trivial
theorem fin.tw16642777115724313691 : True := trivial
theorem fin.tw930286699578186380 : True := trivial
theorem fin.tw17108825476961403852 : True := trivial
theorem fin.tw7264449967068730529 : True := trivial
theorem fin.tw1182119200473726946 : True := trivial
theorem fin.tw13914550268434102353 : True := trivial
theorem fin.tw8872632525308872419 : True := trivial
theorem fin.tw10786816325642055092 : True := trivial
theorem fin.tw3398459133770639095 : True := trivial
theorem fin.tw8849200832355698828 : True := trivial
theorem fin.tw9121043022734553068 : True := trivial
theorem fin.tw12173344413390296007 : True := trivial
theorem fin.tw7852281542323078104 : True := trivial
theorem fin.tw18095500247069054504 : True := trivial
theorem fin.tw7677684348871783188 : True := trivial
theorem fin.tw200081086486822901 : True := trivial
theorem fin.tw1881614406697306222 : True := trivial
theorem fin.tw9248383584355603086 : True := trivial
theorem fin.tw10086002268436598013 : True := trivial
theorem fin.tw6651625778643082143 : True := trivial
theorem fin.tw4421931194908609290 : True := trivial
theorem fin.tw2512656995228094474 : True := trivial
theorem fin.tw7927938804260303160 : True := trivial
theorem fin.tw12606444067920007082 : True := trivial
theorem fin.tw14502687432519799793 : True := trivial
theorem fin.tw1442704474878671159 : True := trivial
theorem fin.tw15546734744730236744 : True := trivial
theorem fin.tw2200430274651515461 : True := trivial
theorem fin.tw4387387207436060869 : True := trivial
theorem fin.tw100019079996392636 : True := trivial
theorem fin.tw2722460877978443859 : True := trivial
theorem fin.tw15650915377899612710 : True := trivial
theorem fin.tw8390831502574719070 : True := trivial
theorem fin.tw12881290281617182787 : True := trivial
theorem fin.tw38752086844241237 : True := trivial
theorem fin.tw12485446684511872657 : True := trivial
theorem fin.tw10140723164733095892 : True := trivial
theorem fin.tw17128923287250906831 : True := trivial
theorem fin.tw14985738868943578735 : True := trivial
theorem fin.tw8229280919750910831 : True := trivial
theorem fin.tw2897469654327413593 : True := trivial
theorem fin.tw112852004243025320 : True := trivial
theorem fin.tw10236435369959278647 : True := trivial
theorem fin.tw17740121861209819447 : True := trivial
theorem fin.tw298397394146778935 : True := trivial
theorem fin.tw12224593762806869607 : True := trivial
theorem fin.tw11546005567788455524 : True := trivial
theorem fin.tw10376902747789645270 : True := trivial
theorem fin.tw16294308237570839144 : True := trivial
theorem fin.tw15230725903242942194 : True := trivial
theorem fin.tw86355103088764483 : True := trivial
theorem fin.tw5562056527597589974 : True := trivial
theorem fin.tw3985327509046959707 : True := trivial
theorem fin.tw16237536361812096015 : True := trivial
theorem fin.tw10321465584754027392 : True := trivial
theorem fin.tw17052207901416151967 : True := trivial
theorem fin.tw9555069581779275309 : True := trivial
theorem fin.tw7391530912831192763 : True := trivial
theorem fin.tw460232116077737472 : True := trivial
theorem fin.tw12459997322948050343 : True := trivial
theorem fin.tw17682765994108652647 : True := trivial
theorem fin.tw590977347552249749 : True := trivial
theorem fin.tw1455505514002282744 : True := trivial
theorem fin.tw1281508129160725349 : True := trivial
theorem fin.tw11110167737620775922 : True := trivial
theorem fin.tw6658608349896680230 : True := trivial
theorem fin.tw3379372136864362475 : True := trivial
theorem fin.tw1861090446693028046 : True := trivial
theorem fin.tw11974381102001781029 : True := trivial
theorem fin.tw2814048010897355373 : True := trivial
theorem fin.tw9445559094776383557 : True := trivial
theorem fin.tw15004891522334308739 : True := trivial
theorem fin.tw6523849695675985821 : True := trivial
theorem fin.tw8751360410257954724 : True := trivial
theorem fin.tw168734516215260654 : True := trivial
theorem fin.tw7745856077459368553 : True := trivial
theorem fin.tw10851699356735100626 : True := trivial
theorem fin.tw11441799203461103154 : True := trivial
theorem fin.tw8565290460314519963 : True := trivial
theorem fin.tw4802677328712013787 : True := trivial
theorem fin.tw669413358953340691 : True := trivial
theorem fin.tw18202893699072658464 : True := trivial
theorem fin.tw8072650851142261329 : True := trivial
theorem fin.tw9816385916770278981 : True := trivial
theorem fin.tw9067505768117513796 : True := trivial
theorem fin.tw15114908524866926969 : True := trivial
theorem fin.tw2125920467083275554 : True := trivial
theorem fin.tw4332662261183661746 : True := trivial
theorem fin.tw17397722594826920862 : True := trivial
theorem fin.tw13517861393478233062 : True := trivial
theorem fin.tw7995886139640120779 : True := trivial
theorem fin.tw9056289119845095086 : True := trivial
theorem fin.tw4438853406884378958 : True := trivial
theorem fin.tw7386570322257807503 : True := trivial
theorem fin.tw4506717390985533547 : True := trivial
theorem fin.tw14076657172327124019 : True := trivial
theorem fin.tw4823206849294739432 : True := trivial
theorem fin.tw5782341202761589562 : True := trivial
theorem fin.tw2964988769813109755 : True := trivial
theorem fin.tw1974265435074436891 : True := trivial
theorem fin.tw16257006766810470504 : True := trivial
theorem fin.tw10285146525805488131 : True := trivial
theorem fin.tw15069911252903409602 : True := trivial
theorem fin.tw112292556549264900 : True := trivial
theorem fin.tw361035604874199890 : True := trivial
theorem fin.tw2178173450622086005 : True := trivial
theorem fin.tw1672599382541234373 : True := trivial
theorem fin.tw17534331521010606689 : True := trivial
theorem fin.tw11633738316731847189 : True := trivial
theorem fin.tw4670869317917120991 : True := trivial
theorem fin.tw17429335288619726731 : True := trivial
theorem fin.tw3778355754618434398 : True := trivial
theorem fin.tw4012365380447623193 : True := trivial
theorem fin.tw7958656308138224309 : True := trivial
theorem fin.tw16945993272681586004 : True := trivial
theorem fin.tw2268585320463933504 : True := trivial
theorem fin.tw1329516651043801609 : True := trivial
theorem fin.tw11663039097344592544 : True := trivial
theorem fin.tw14830976185689739500 : True := trivial
theorem fin.tw9008328682386939008 : True := trivial
theorem fin.tw9586859900450588724 : True := trivial
theorem fin.tw5572144937794347808 : True := trivial
theorem fin.tw14694715824638086994 : True := trivial
theorem fin.tw10833488656513752136 : True := trivial
theorem fin.tw9559279548270351932 : True := trivial
theorem fin.tw7271575661252642932 : True := trivial
theorem fin.tw17855985611008963666 : True := trivial
theorem fin.tw8565992815009980504 : True := trivial
theorem fin.tw3235409559921688938 : True := trivial
theorem fin.tw17770090219853071139 : True := trivial
theorem fin.tw4122907390845394795 : True := trivial
theorem fin.tw14392565418785260567 : True := trivial
theorem fin.tw5441098919838894875 : True := trivial
theorem fin.tw4103503433429328375 : True := trivial
theorem fin.tw5051728191471039663 : True := trivial
theorem fin.tw11051787891403770335 : True := trivial
theorem fin.tw9294901622127406270 : True := trivial
theorem fin.tw10698206235045645625 : True := trivial
theorem fin.tw16850070695522812950 : True := trivial
theorem fin.tw8722819303679683989 : True := trivial
theorem fin.tw5618030596445204404 : True := trivial
theorem fin.tw2482862131528870093 : True := trivial
theorem fin.tw7797302091888645540 : True := trivial
theorem fin.tw7607138965815808125 : True := trivial
theorem fin.tw5329245277424854924 : True := trivial
theorem fin.tw12543204113148890425 : True := trivial
theorem fin.tw16659079832710639524 : True := trivial
theorem fin.tw1644649347749552245 : True := trivial
theorem fin.tw13103233898742916415 : True := trivial
theorem fin.tw4411510778772043319 : True := trivial
theorem fin.tw6663213766160265480 : True := trivial
theorem fin.tw18346527787481704737 : True := trivial
theorem fin.tw2869470957731451306 : True := trivial
theorem fin.tw4531112791926085239 : True := trivial
theorem fin.tw12116782908497331312 : True := trivial
theorem fin.tw887640844795575485 : True := trivial
theorem fin.tw9946051765432881847 : True := trivial
theorem fin.tw5957579065447256440 : True := trivial
theorem fin.tw17217364151609574900 : True := trivial
theorem fin.tw1460400764649792497 : True := trivial
theorem fin.tw10737153585581570528 : True := trivial
theorem fin.tw2876225254002972970 : True := trivial
theorem fin.tw16905736096574564791 : True := trivial
theorem fin.tw3261303653638233018 : True := trivial
theorem fin.tw11355096331844908127 : True := trivial
theorem fin.tw3856545807833339768 : True := trivial
theorem fin.tw9553896542059129145 : True := trivial
theorem fin.tw14850650259996053977 : True := trivial
theorem fin.tw5785741296808679897 : True := trivial
theorem fin.tw3660406347489222663 : True := trivial
theorem fin.tw4065864959823689327 : True := trivial
theorem fin.tw8812237683474074378 : True := trivial
theorem fin.tw7744638963089574857 : True := trivial
theorem fin.tw7666965831269449694 : True := trivial
theorem fin.tw10645374340479401304 : True := trivial
theorem fin.tw17711809231857519709 : True := trivial
theorem fin.tw7587310582194923969 : True := trivial
theorem fin.tw1546243492296503966 : True := trivial
theorem fin.tw15058867576650485473 : True := trivial
theorem fin.tw1401552955624765511 : True := trivial
theorem fin.tw16353100147900101894 : True := trivial
theorem fin.tw3589883111303514152 : True := trivial
theorem fin.tw17262010152355108521 : True := trivial
theorem fin.tw12288121979804285070 : True := trivial
theorem fin.tw14725627842794607879 : True := trivial
theorem fin.tw17859585220513698429 : True := trivial
theorem fin.tw7498588830097874631 : True := trivial
theorem fin.tw68103585410052425 : True := trivial
theorem fin.tw14098271647195046588 : True := trivial
theorem fin.tw10311094648879725595 : True := trivial
theorem fin.tw16692385670020474056 : True := trivial
theorem fin.tw525081883488478812 : True := trivial
theorem fin.tw15816946075076230584 : True := trivial
theorem fin.tw13456609555794383414 : True := trivial
theorem fin.tw15159235610863683477 : True := trivial
theorem fin.tw11720749710161274422 : True := trivial
theorem fin.tw9736651319565520547 : True := trivial
theorem fin.tw11699068803175764151 : True := trivial
theorem fin.tw10786564309618210282 : True := trivial
theorem fin.tw10757257652253845687 : True := trivial
theorem fin.tw10850024434813570267 : True := trivial
theorem fin.tw15266865178764295395 : True := trivial
theorem fin.tw882229546687200357 : True := trivial
theorem fin.tw6297923105729883065 : True := trivial
theorem fin.tw4452668606851996553 : True := trivial
theorem fin.tw9048754184107898063 : True := trivial
theorem fin.tw6562912343797345749 : True := trivial
theorem fin.tw4732526961311071422 : True := trivial
theorem fin.tw12173321032593012951 : True := trivial
theorem fin.tw7398949559235478019 : True := trivial
theorem fin.tw7257210337447514844 : True := trivial
theorem fin.tw5486787888639706255 : True := trivial
theorem fin.tw9867996020854141265 : True := trivial
theorem fin.tw7725211532557792117 : True := trivial
theorem fin.tw8590733266024683488 : True := trivial
theorem fin.tw7010700571239850742 : True := trivial
theorem fin.tw6516028526337807626 : True := trivial
theorem fin.tw9734985587670227224 : True := trivial
theorem fin.tw12809410207679226206 : True := trivial
theorem fin.tw15877430182644039558 : True := trivial
theorem fin.tw15055785864379705185 : True := trivial
theorem fin.tw5444480395482356781 : True := trivial
theorem fin.tw2525272714858461216 : True := trivial
theorem fin.tw211719950756417650 : True := trivial
theorem fin.tw2378318776638149794 : True := trivial
theorem fin.tw9125557395965075044 : True := trivial
theorem fin.tw1529199254417127398 : True := trivial
theorem fin.tw12944629010276490489 : True := trivial
theorem fin.tw2454898758905216591 : True := trivial
theorem fin.tw4424253650628682720 : True := trivial
theorem fin.tw12393332404316516545 : True := trivial
theorem fin.tw5027696067683432769 : True := trivial
theorem fin.tw7328319027491403953 : True := trivial
theorem fin.tw10073977809333041883 : True := trivial
theorem fin.tw15079063101861285332 : True := trivial
theorem fin.tw7737926413151401099 : True := trivial
theorem fin.tw51198977663298064 : True := trivial
theorem fin.tw16450996847057812989 : True := trivial
theorem fin.tw16309489839839639319 : True := trivial
theorem fin.tw3958558347699838469 : True := trivial
theorem fin.tw18152608476058428544 : True := trivial
theorem fin.tw246663957177538137 : True := trivial
theorem fin.tw4999976784356698722 : True := trivial
theorem fin.tw498578158421859097 : True := trivial
theorem fin.tw10144169830291642181 : True := trivial
theorem fin.tw8379834409929925481 : True := trivial
theorem fin.tw6377791627220607289 : True := trivial
theorem fin.tw16731239203872501182 : True := trivial
theorem fin.tw700881626014478936 : True := trivial
theorem fin.tw11674549203457463015 : True := trivial
theorem fin.tw13126215724349283391 : True := trivial
theorem fin.tw15586635513377288250 : True := trivial
theorem fin.tw1902942337985142182 : True := trivial
theorem fin.tw9546755369729450077 : True := trivial
theorem fin.tw16769634257176014844 : True := trivial
theorem fin.tw4997895960566837665 : True := trivial
theorem fin.tw15552080780155618435 : True := trivial
theorem fin.tw8655646744010813594 : True := trivial
theorem fin.tw10672219206031818361 : True := trivial
theorem fin.tw5521917771749826135 : True := trivial
theorem fin.tw16217277249462268651 : True := trivial
theorem fin.tw6560880442271920882 : True := trivial
theorem fin.tw3854390350396481053 : True := trivial
theorem fin.tw941778838749223483 : True := trivial
theorem fin.tw11702798387573874328 : True := trivial
theorem fin.tw8987301866362308397 : True := trivial
theorem fin.tw1924366516517290285 : True := trivial
theorem fin.tw8988609984688815122 : True := trivial
theorem fin.tw3237108443990459271 : True := trivial
theorem fin.tw4451965254759203245 : True := trivial
theorem fin.tw7896819004226892074 : True := trivial
theorem fin.tw3514788679795192954 : True := trivial
theorem fin.tw28610508524755597 : True := trivial
theorem fin.tw1542987894549481493 : True := trivial
theorem fin.tw641037197622139111 : True := trivial
theorem fin.tw15793834936537873036 : True := trivial
theorem fin.tw2221031049598723623 : True := trivial
theorem fin.tw10110943583436000818 : True := trivial
theorem fin.tw13187940939104306128 : True := trivial
theorem fin.tw6221664213096130689 : True := trivial
theorem fin.tw17563752340892591022 : True := trivial
theorem fin.tw9132949221653458326 : True := trivial
theorem fin.tw6632227920169315210 : True := trivial
theorem fin.tw15339986037287941318 : True := trivial
theorem fin.tw9533689181817740915 : True := trivial
theorem fin.tw17997861401227608161 : True := trivial
theorem fin.tw708467373582411398 : True := trivial
theorem fin.tw3234617262889384517 : True := trivial
theorem fin.tw15055924774835342177 : True := trivial
theorem fin.tw2263571820477515134 : True := trivial
theorem fin.tw904816624758314771 : True := trivial
theorem fin.tw17729355410381543849 : True := trivial
theorem fin.tw4909586736807865834 : True := trivial
theorem fin.tw4467005487932551463 : True := trivial
theorem fin.tw16420921616511860818 : True := trivial
theorem fin.tw857934483824242906 : True := trivial
theorem fin.tw5063726193072054017 : True := trivial
theorem fin.tw10486510370667922881 : True := trivial
theorem fin.tw4627244014456355915 : True := trivial
theorem fin.tw16403452427326974585 : True := trivial
theorem fin.tw7296780508233580517 : True := trivial
theorem fin.tw17891713445791499765 : True := trivial
theorem fin.tw2663457608201413729 : True := trivial
theorem fin.tw3456042362506885009 : True := trivial
theorem fin.tw5088230279433774376 : True := trivial
theorem fin.tw9278797282906578619 : True := trivial
theorem fin.tw17622691694729293047 : True := trivial
theorem fin.tw2572142936914100558 : True := trivial
theorem fin.tw3105175515909391553 : True := trivial
theorem fin.tw1527943408940781309 : True := trivial
theorem fin.tw14927272650478649227 : True := trivial
theorem fin.tw4449396528415186086 : True := trivial
theorem fin.tw9585542561074548185 : True := trivial
theorem fin.tw1598341052017786649 : True := trivial
theorem fin.tw662515614575290659 : True := trivial
theorem fin.tw6428570456693835231 : True := trivial
theorem fin.tw341977252434672482 : True := trivial
theorem fin.tw15467236401686821338 : True := trivial
theorem fin.tw10574413029139833120 : True := trivial
theorem fin.tw12047629152542347871 : True := trivial
theorem fin.tw2978454261637248588 : True := trivial
theorem fin.tw5847706183508112541 : True := trivial
theorem fin.tw18167785863839189355 : True := trivial
theorem fin.tw6641818097780446089 : True := trivial
theorem fin.tw9551043870331490142 : True := trivial
theorem fin.tw13268927375209892000 : True := trivial
theorem fin.tw11961955853967168185 : True := trivial
theorem fin.tw16053909478246549127 : True := trivial
theorem fin.tw10647953323591357797 : True := trivial
theorem fin.tw3715642891792259534 : True := trivial
theorem fin.tw9815595741840572813 : True := trivial
theorem fin.tw12058999863238235576 : True := trivial
theorem fin.tw10276943205272765804 : True := trivial
theorem fin.tw753013575271274544 : True := trivial
theorem fin.tw12325474877785266644 : True := trivial
theorem fin.tw6917571655448491826 : True := trivial
theorem fin.tw12210466140353823008 : True := trivial
theorem fin.tw11747006929383446923 : True := trivial
theorem fin.tw7031396743117075745 : True := trivial
theorem fin.tw15384982806981959386 : True := trivial
theorem fin.tw18018894694188156756 : True := trivial
theorem fin.tw14244018765226131881 : True := trivial
theorem fin.tw4574646560413761274 : True := trivial
theorem fin.tw17369338930233693676 : True := trivial
theorem fin.tw16818362963998352121 : True := trivial
theorem fin.tw6112554374029143345 : True := trivial
theorem fin.tw11355742712683848303 : True := trivial
theorem fin.tw16012905174849582945 : True := trivial
theorem fin.tw9598831640731518760 : True := trivial
theorem fin.tw12536930496624205243 : True := trivial
theorem fin.tw15949651314277469655 : True := trivial
theorem fin.tw8886570605780902959 : True := trivial
theorem fin.tw3898922527390543921 : True := trivial
theorem fin.tw14553418023105699938 : True := trivial
theorem fin.tw13877108905867024889 : True := trivial
theorem fin.tw334077466435057004 : True := trivial
theorem fin.tw14943462868360830045 : True := trivial
theorem fin.tw4004081019099129491 : True := trivial
theorem fin.tw1486421059917325877 : True := trivial
theorem fin.tw3632715957076647386 : True := trivial
theorem fin.tw5974056929361315477 : True := trivial
theorem fin.tw14427238299343005794 : True := trivial
theorem fin.tw17784527898012482489 : True := trivial
theorem fin.tw13087818121259532385 : True := trivial
theorem fin.tw10224034634752313691 : True := trivial
theorem fin.tw3329611508953050534 : True := trivial
theorem fin.tw16782428092192650604 : True := trivial
theorem fin.tw513067699536845763 : True := trivial
theorem fin.tw2753606299293771369 : True := trivial
theorem fin.tw15039351253510075141 : True := trivial
theorem fin.tw13570982121442981779 : True := trivial
theorem fin.tw9659783329406020206 : True := trivial
theorem fin.tw11490118577351646653 : True := trivial
theorem fin.tw11964344344900223510 : True := trivial
theorem fin.tw7051938536551795499 : True := trivial
theorem fin.tw170242057164969149 : True := trivial
theorem fin.tw9853134723201361832 : True := trivial
theorem fin.tw5235635437763446565 : True := trivial
theorem fin.tw2006496064100786886 : True := trivial
theorem fin.tw4032790784574079153 : True := trivial
theorem fin.tw4389204052729760994 : True := trivial
theorem fin.tw1528736212228031279 : True := trivial
theorem fin.tw2804200413302274126 : True := trivial
theorem fin.tw44702607321931799 : True := trivial
theorem fin.tw9665228994431320566 : True := trivial
theorem fin.tw16532226135829014752 : True := trivial
theorem fin.tw8815599890526661330 : True := trivial
theorem fin.tw15759976433443312800 : True := trivial
theorem fin.tw15385001996706855111 : True := trivial
theorem fin.tw11400946184040237891 : True := trivial
theorem fin.tw6061600486808282762 : True := trivial
theorem fin.tw13874079823792681176 : True := trivial
theorem fin.tw10481351872475567657 : True := trivial
theorem fin.tw6045264306055608272 : True := trivial
theorem fin.tw233012149711028610 : True := trivial
theorem fin.tw12272180582564018144 : True := trivial
theorem fin.tw1406972312251940927 : True := trivial
theorem fin.tw8814601379904202097 : True := trivial
theorem fin.tw11282757955723203034 : True := trivial
theorem fin.tw9295765498400993787 : True := trivial
theorem fin.tw373685471862237783 : True := trivial
theorem fin.tw3706988870004670408 : True := trivial
theorem fin.tw7455454000316970089 : True := trivial
theorem fin.tw13582077840034278421 : True := trivial
theorem fin.tw7657597186636893039 : True := trivial
theorem fin.tw6633762415303027512 : True := trivial
theorem fin.tw6909061752840164688 : True := trivial
theorem fin.tw12568572309912463007 : True := trivial
theorem fin.tw1418428372064284889 : True := trivial
theorem fin.tw11277748728045681456 : True := trivial
theorem fin.tw16915313034071050588 : True := trivial
theorem fin.tw4166438441408048924 : True := trivial
theorem fin.tw6465087995229339503 : True := trivial
theorem fin.tw10798782587035866656 : True := trivial
theorem fin.tw12350581946172681186 : True := trivial
theorem fin.tw13573187932842079109 : True := trivial
theorem fin.tw3022154612531502960 : True := trivial
theorem fin.tw15694102408757989348 : True := trivial
theorem fin.tw5285277914750055796 : True := trivial
theorem fin.tw7288205281559712503 : True := trivial
theorem fin.tw10872397246287728275 : True := trivial
theorem fin.tw10612683527823439260 : True := trivial
theorem fin.tw12276745561336949143 : True := trivial
theorem fin.tw12589670196122351997 : True := trivial
theorem fin.tw16783689384488664491 : True := trivial
theorem fin.tw10693510317507073584 : True := trivial
theorem fin.tw11961341676693744385 : True := trivial
theorem fin.tw12381811126194858234 : True := trivial
theorem fin.tw8649246358833038949 : True := trivial
theorem fin.tw2744560038669123642 : True := trivial
theorem fin.tw6017753213400034592 : True := trivial
theorem fin.tw14839783657541687759 : True := trivial
theorem fin.tw479971921054034720 : True := trivial
theorem fin.tw11454467527831197509 : True := trivial
theorem fin.tw10535826623716364347 : True := trivial
theorem fin.tw9692033213478993262 : True := trivial
theorem fin.tw10751348567258003314 : True := trivial
theorem fin.tw4674456431469326615 : True := trivial
theorem fin.tw13973727878476123208 : True := trivial
theorem fin.tw9049469480370625664 : True := trivial
theorem fin.tw421546210505593014 : True := trivial
theorem fin.tw17658426064362872238 : True := trivial
theorem fin.tw808746534970190088 : True := trivial
theorem fin.tw6737520561861471854 : True := trivial
theorem fin.tw7537857581138020614 : True := trivial
theorem fin.tw5028633752323302797 : True := trivial
theorem fin.tw17981427995400809623 : True := trivial
theorem fin.tw206414883223394889 : True := trivial
theorem fin.tw5013364124269291530 : True := trivial
theorem fin.tw7965404720022450415 : True := trivial
theorem fin.tw14990085265798552049 : True := trivial
theorem fin.tw1586998542226590588 : True := trivial
theorem fin.tw2731342861975221083 : True := trivial
theorem fin.tw14055090598441857195 : True := trivial
theorem fin.tw2641348287534843581 : True := trivial
theorem fin.tw10811910608181006450 : True := trivial
theorem fin.tw18178061775844214461 : True := trivial
theorem fin.tw1126724587774242626 : True := trivial
theorem fin.tw2380197715357643618 : True := trivial
theorem fin.tw3566906360513015687 : True := trivial
theorem fin.tw16374260693392654092 : True := trivial
theorem fin.tw15670795748149154135 : True := trivial
theorem fin.tw1751385221623440608 : True := trivial
theorem fin.tw10595721530447638783 : True := trivial
theorem fin.tw4195768998831642170 : True := trivial
theorem fin.tw8703061191407866534 : True := trivial
theorem fin.tw10151970191465855075 : True := trivial
theorem fin.tw2974800882744238520 : True := trivial
theorem fin.tw16152417411096417531 : True := trivial
theorem fin.tw10621736160906352906 : True := trivial
theorem fin.tw3003565203795452416 : True := trivial
theorem fin.tw9222990478301709570 : True := trivial
theorem fin.tw3769860873261412726 : True := trivial
theorem fin.tw13504924499219165658 : True := trivial
theorem fin.tw16922881622266854325 : True := trivial
theorem fin.tw11514181776216685801 : True := trivial
theorem fin.tw5989678634342641329 : True := trivial
theorem fin.tw5781599014336599664 : True := trivial
theorem fin.tw8975510632715645602 : True := trivial
theorem fin.tw15025162193370018880 : True := trivial
theorem fin.tw1348792121849160066 : True := trivial
theorem fin.tw13354535512065874735 : True := trivial
theorem fin.tw7579778632817114481 : True := trivial
theorem fin.tw8980843037027560227 : True := trivial
theorem fin.tw17741121359538443402 : True := trivial
theorem fin.tw6206343384075532694 : True := trivial
theorem fin.tw14956995274347115384 : True := trivial
theorem fin.tw13634672401205738313 : True := trivial
theorem fin.tw16044333920037328846 : True := trivial
theorem fin.tw12294472589948531212 : True := trivial
theorem fin.tw10667954736273491653 : True := trivial
theorem fin.tw11377210764305915745 : True := trivial
theorem fin.tw3608791010136025162 : True := trivial
theorem fin.tw8691745571656592820 : True := trivial
theorem fin.tw3821876464996496014 : True := trivial
theorem fin.tw1727718253982206300 : True := trivial
theorem fin.tw8903337728126618674 : True := trivial
theorem fin.tw8349816111163730856 : True := trivial
theorem fin.tw9847379120153875467 : True := trivial
theorem fin.tw3490346186058924836 : True := trivial
theorem fin.tw18264917757891460293 : True := trivial
theorem fin.tw3928622092967425950 : True := trivial
theorem fin.tw5788931203393929449 : True := trivial
theorem fin.tw2779017015416580161 : True := trivial
theorem fin.tw9547090948293880497 : True := trivial
theorem fin.tw13590081485041013156 : True := trivial
theorem fin.tw659979608895458405 : True := trivial
theorem fin.tw8207118854860795264 : True := trivial
theorem fin.tw18279985842677030620 : True := trivial
theorem fin.tw17712578221296540129 : True := trivial
theorem fin.tw6156201039377005180 : True := trivial
theorem fin.tw484350061071316803 : True := trivial
theorem fin.tw16948775210384412649 : True := trivial
theorem fin.tw1372670767554574562 : True := trivial
theorem fin.tw2057258144947145940 : True := trivial
theorem fin.tw10940443321740389902 : True := trivial
theorem fin.tw16006416644388472618 : True := trivial
theorem fin.tw9633307655685798712 : True := trivial
theorem fin.tw7886059657514288370 : True := trivial
theorem fin.tw1877137531934924055 : True := trivial
theorem fin.tw3402418331902475636 : True := trivial
theorem fin.tw15795946964660611747 : True := trivial
theorem fin.tw7882022332313055773 : True := trivial
theorem fin.tw13683423599408068100 : True := trivial
theorem fin.tw10728128557693967875 : True := trivial
theorem fin.tw14400918117955226215 : True := trivial
theorem fin.tw12086517769067075315 : True := trivial
theorem fin.tw12267368210116302334 : True := trivial
theorem fin.tw15754905863263447472 : True := trivial
theorem fin.tw17116148930023313233 : True := trivial
theorem fin.tw7654423036977960731 : True := trivial
theorem fin.tw8387394007586571548 : True := trivial
theorem fin.tw13925753278045989742 : True := trivial
theorem fin.tw12606801432508238639 : True := trivial
theorem fin.tw15922291527687519406 : True := trivial
theorem fin.tw16410262382029559616 : True := trivial
theorem fin.tw9788789356439026726 : True := trivial
theorem fin.tw13390024671104990736 : True := trivial
theorem fin.tw10268123487219965781 : True := trivial
theorem fin.tw1806399646732349832 : True := trivial
theorem fin.tw5367151597262376332 : True := trivial
theorem fin.tw10989956992688333472 : True := trivial
theorem fin.tw8128606706587561476 : True := trivial
theorem fin.tw8169384887411136895 : True := trivial
theorem fin.tw4925215195511852089 : True := trivial
theorem fin.tw5349421798823076446 : True := trivial
theorem fin.tw5718966736387255652 : True := trivial
theorem fin.tw10102063374858605092 : True := trivial
theorem fin.tw11834258748809927678 : True := trivial
theorem fin.tw6202268758345898429 : True := trivial
theorem fin.tw7326014570880366355 : True := trivial
theorem fin.tw15438656175709858668 : True := trivial
theorem fin.tw5857713569706991126 : True := trivial
theorem fin.tw3551507055995391657 : True := trivial
theorem fin.tw4015109272649925146 : True := trivial
theorem fin.tw4455337504741720470 : True := trivial
theorem fin.tw14606407108301273284 : True := trivial
theorem fin.tw11968675892027870661 : True := trivial
theorem fin.tw3630017471516054277 : True := trivial
theorem fin.tw17743668101378047708 : True := trivial
theorem fin.tw3436716395572628724 : True := trivial
theorem fin.tw7424971500488177027 : True := trivial
theorem fin.tw11222092862439006559 : True := trivial
theorem fin.tw8971008033035484846 : True := trivial
theorem fin.tw2178755596499058570 : True := trivial
theorem fin.tw5095465957477561007 : True := trivial
theorem fin.tw9923659232810863276 : True := trivial
theorem fin.tw2387675530469349090 : True := trivial
theorem fin.tw15713789672149168467 : True := trivial
theorem fin.tw3311302379362391217 : True := trivial
theorem fin.tw9889690113192245051 : True := trivial
theorem fin.tw5640364355438344051 : True := trivial
theorem fin.tw7975819024919382422 : True := trivial
theorem fin.tw8208611227826487309 : True := trivial
theorem fin.tw11582835608085118017 : True := trivial
theorem fin.tw16505282411515157033 : True := trivial
theorem fin.tw12154577841772885543 : True := trivial
theorem fin.tw11075919538302703457 : True := trivial
theorem fin.tw7637696054297135423 : True := trivial
theorem fin.tw5745490236042633324 : True := trivial
theorem fin.tw2371314746671379965 : True := trivial
theorem fin.tw16933296117710563784 : True := trivial
theorem fin.tw617867574512869943 : True := trivial
theorem fin.tw246733409787447054 : True := trivial
theorem fin.tw1144103232599966560 : True := trivial
theorem fin.tw816598489432992685 : True := trivial
theorem fin.tw15505495618439405306 : True := trivial
theorem fin.tw17630064658123774995 : True := trivial
theorem fin.tw17179199361013266164 : True := trivial
theorem fin.tw7598674487821620104 : True := trivial
theorem fin.tw14990673780242578049 : True := trivial
theorem fin.tw1787933308636578194 : True := trivial
theorem fin.tw1315957677227919724 : True := trivial
theorem fin.tw18410818740583025777 : True := trivial
theorem fin.tw1127711031997120929 : True := trivial
theorem fin.tw662689690069583660 : True := trivial
theorem fin.tw13172877274883927778 : True := trivial
theorem fin.tw13042475410441436583 : True := trivial
theorem fin.tw5968449044575604998 : True := trivial
theorem fin.tw16715797254995859699 : True := trivial
theorem fin.tw8969341397648954592 : True := trivial
theorem fin.tw14221063635747506198 : True := trivial
theorem fin.tw12500965701997863000 : True := trivial
theorem fin.tw1036955049243178473 : True := trivial
theorem fin.tw16169032603126398484 : True := trivial
theorem fin.tw98553393211865811 : True := trivial
theorem fin.tw2760226374270580995 : True := trivial
theorem fin.tw12258713342031046340 : True := trivial
theorem fin.tw5217252722610286148 : True := trivial
theorem fin.tw16624880361471800301 : True := trivial
theorem fin.tw4796223745577572993 : True := trivial
theorem fin.tw3531081724771541340 : True := trivial
theorem fin.tw10068495289648550190 : True := trivial
theorem fin.tw12492502966520627609 : True := trivial
theorem fin.tw6445146227031901693 : True := trivial
theorem fin.tw16147027265791298709 : True := trivial
theorem fin.tw18217285465918703632 : True := trivial
theorem fin.tw13293690776392380103 : True := trivial
theorem fin.tw8907265382710506865 : True := trivial
theorem fin.tw3637590407939505676 : True := trivial
theorem fin.tw7491182448956257063 : True := trivial
theorem fin.tw7946318963205481814 : True := trivial
theorem fin.tw5788416341639647570 : True := trivial
theorem fin.tw1193141217415413629 : True := trivial
theorem fin.tw16019321060022070591 : True := trivial
theorem fin.tw6862817241057344220 : True := trivial
theorem fin.tw6025711447160051655 : True := trivial
theorem fin.tw3697433596969434972 : True := trivial
theorem fin.tw4805141124396665732 : True := trivial
theorem fin.tw3780296668697618207 : True := trivial
theorem fin.tw14309164063621131312 : True := trivial
theorem fin.tw563294389227150449 : True := trivial
theorem fin.tw16875865932675789141 : True := trivial
theorem fin.tw16546656358848096551 : True := trivial
theorem fin.tw3817458785150146111 : True := trivial
theorem fin.tw12410823087434513220 : True := trivial
theorem fin.tw2247222625464228481 : True := trivial
theorem fin.tw10328275494565321245 : True := trivial
theorem fin.tw5946191146445654705 : True := trivial
theorem fin.tw756527961433467440 : True := trivial
theorem fin.tw1513044666772879202 : True := trivial
theorem fin.tw3241281386985415112 : True := trivial
theorem fin.tw11309083907500574960 : True := trivial
theorem fin.tw15770521769646832610 : True := trivial
theorem fin.tw9403738629785196806 : True := trivial
theorem fin.tw4224308546021852310 : True := trivial
theorem fin.tw11864339518362113445 : True := trivial
theorem fin.tw15981353236607295258 : True := trivial
theorem fin.tw11709859216853179116 : True := trivial
theorem fin.tw12084240738221469968 : True := trivial
theorem fin.tw16213276813213504806 : True := trivial
theorem fin.tw5968359057606875437 : True := trivial
theorem fin.tw17399117809856219128 : True := trivial
theorem fin.tw370690142496794499 : True := trivial
theorem fin.tw786296062532584308 : True := trivial
theorem fin.tw10175461156968685604 : True := trivial
theorem fin.tw1160777771453142900 : True := trivial
theorem fin.tw14463140109411143002 : True := trivial
theorem fin.tw12831473297724430218 : True := trivial
theorem fin.tw12966970473674965702 : True := trivial
theorem fin.tw4149160772632289752 : True := trivial
theorem fin.tw5941629366810379141 : True := trivial
theorem fin.tw10527889516933675988 : True := trivial
theorem fin.tw1312527854150223580 : True := trivial
theorem fin.tw15929403908097842146 : True := trivial
theorem fin.tw11988028935798975731 : True := trivial
theorem fin.tw467342320047116630 : True := trivial
theorem fin.tw8938108435946344683 : True := trivial
theorem fin.tw2556632772196292095 : True := trivial
theorem fin.tw1597165430269721322 : True := trivial
theorem fin.tw12357751588821509365 : True := trivial
theorem fin.tw8349263583264083618 : True := trivial
theorem fin.tw2415475843249994037 : True := trivial
theorem fin.tw17042547190273235257 : True := trivial
theorem fin.tw5675147526512446129 : True := trivial
theorem fin.tw17900258698950098056 : True := trivial
theorem fin.tw9125282164686405579 : True := trivial
theorem fin.tw7903912401623315573 : True := trivial
theorem fin.tw702021160572704810 : True := trivial
theorem fin.tw406598741948820158 : True := trivial
theorem fin.tw8169082495282818500 : True := trivial
theorem fin.tw12610300192393256167 : True := trivial
theorem fin.tw17717299680395071089 : True := trivial
theorem fin.tw14132750550173504768 : True := trivial
theorem fin.tw5398008978233090244 : True := trivial
theorem fin.tw3810989074702782665 : True := trivial
theorem fin.tw14505490851141900875 : True := trivial
theorem fin.tw1791596844848571184 : True := trivial
theorem fin.tw1226349721261305375 : True := trivial
theorem fin.tw16702738460557929074 : True := trivial
theorem fin.tw8880535184912700076 : True := trivial
theorem fin.tw7553808151365312028 : True := trivial
theorem fin.tw6715002988004291299 : True := trivial
theorem fin.tw2964700346469691502 : True := trivial
theorem fin.tw999291008493638402 : True := trivial
theorem fin.tw6206292024108989621 : True := trivial
theorem fin.tw5082258962264957214 : True := trivial
theorem fin.tw2174725783273058574 : True := trivial
theorem fin.tw931799592433642449 : True := trivial
theorem fin.tw12485401873359792321 : True := trivial
theorem fin.tw8112342406445404053 : True := trivial
theorem fin.tw3027513429996773946 : True := trivial
theorem fin.tw16777119545893690589 : True := trivial
theorem fin.tw6556238697035694151 : True := trivial
theorem fin.tw4950736361350456504 : True := trivial
theorem fin.tw18196214853173127763 : True := trivial
theorem fin.tw7477657826748868100 : True := trivial
theorem fin.tw8489600047857652803 : True := trivial
theorem fin.tw6499394784129109178 : True := trivial
theorem fin.tw11745976925392790435 : True := trivial
theorem fin.tw5806383467808433534 : True := trivial
theorem fin.tw18399558460784304433 : True := trivial
theorem fin.tw1977013936901165279 : True := trivial
theorem fin.tw12784880750161639565 : True := trivial
theorem fin.tw12439277593645081106 : True := trivial
theorem fin.tw10256101310626535576 : True := trivial
theorem fin.tw18201116698514274637 : True := trivial
theorem fin.tw3254839946465036958 : True := trivial
theorem fin.tw11927731756648088640 : True := trivial
theorem fin.tw8846200557414777925 : True := trivial
theorem fin.tw7968669107452482717 : True := trivial
theorem fin.tw4787997005119286204 : True := trivial
theorem fin.tw2041405810891396524 : True := trivial
theorem fin.tw4587330991941948582 : True := trivial
theorem fin.tw18404656902745969476 : True := trivial
theorem fin.tw15146036851840647965 : True := trivial
theorem fin.tw15054787227266829974 : True := trivial
theorem fin.tw10384231601296899189 : True := trivial
theorem fin.tw13150847772790630550 : True := trivial
theorem fin.tw13041243941292117665 : True := trivial
theorem fin.tw11936755411468726184 : True := trivial
theorem fin.tw8549639610504329135 : True := trivial
theorem fin.tw18159266103543290812 : True := trivial
theorem fin.tw17538419714821153213 : True := trivial
theorem fin.tw5531635066713198299 : True := trivial
theorem fin.tw11711533825721736757 : True := trivial
theorem fin.tw15137136261161374831 : True := trivial
theorem fin.tw5642815228605828648 : True := trivial
theorem fin.tw121859540036172928 : True := trivial
theorem fin.tw10456396371040111524 : True := trivial
theorem fin.tw563115534012734297 : True := trivial
theorem fin.tw11566568455952317595 : True := trivial
theorem fin.tw17681531770643345802 : True := trivial
theorem fin.tw5000573051906804749 : True := trivial
theorem fin.tw17118069213667285396 : True := trivial
theorem fin.tw16123948775096530202 : True := trivial
theorem fin.tw8238888592487435024 : True := trivial
theorem fin.tw14651650979744625456 : True := trivial
theorem fin.tw9077248953676867198 : True := trivial
theorem fin.tw4812408814562278517 : True := trivial
theorem fin.tw37974709266304410 : True := trivial
theorem fin.tw10456600918590797832 : True := trivial
theorem fin.tw11888164476128670995 : True := trivial
theorem fin.tw3730582901703359517 : True := trivial
theorem fin.tw2945455263651049796 : True := trivial
theorem fin.tw6452532426372516880 : True := trivial
theorem fin.tw2877469583378766706 : True := trivial
theorem fin.tw13906929948557353473 : True := trivial
theorem fin.tw4353171971629469526 : True := trivial
theorem fin.tw362155375927984995 : True := trivial
theorem fin.tw11528407830433306057 : True := trivial
theorem fin.tw16141122054238463822 : True := trivial
theorem fin.tw10195302807878076386 : True := trivial
theorem fin.tw13010706747162630551 : True := trivial
theorem fin.tw5477374078176267439 : True := trivial
theorem fin.tw13088753326537844187 : True := trivial
theorem fin.tw14320637844461150879 : True := trivial
theorem fin.tw1879713472145903805 : True := trivial
theorem fin.tw4894773093014018030 : True := trivial
theorem fin.tw4777045971251154917 : True := trivial
theorem fin.tw4691012458477467206 : True := trivial
theorem fin.tw7353725770089743914 : True := trivial
theorem fin.tw5505769153048506118 : True := trivial
theorem fin.tw907297384909815549 : True := trivial
theorem fin.tw13395240726490302941 : True := trivial
theorem fin.tw2666261459334253956 : True := trivial
theorem fin.tw8192878713610304444 : True := trivial
theorem fin.tw387197065367955961 : True := trivial
theorem fin.tw4858763130241649796 : True := trivial
theorem fin.tw9085458242915938503 : True := trivial
theorem fin.tw3801815708498427935 : True := trivial
theorem fin.tw782041207887639015 : True := trivial
theorem fin.tw12052053160797278735 : True := trivial
theorem fin.tw581644072696156806 : True := trivial
theorem fin.tw17937012434151125747 : True := trivial
theorem fin.tw13747863224741641934 : True := trivial
theorem fin.tw13262291832027670710 : True := trivial
theorem fin.tw15332728702492283754 : True := trivial
theorem fin.tw1553857107976235781 : True := trivial
theorem fin.tw16022603046944732808 : True := trivial
theorem fin.tw951841015469905035 : True := trivial
theorem fin.tw5924977676246405030 : True := trivial
theorem fin.tw13319950985668415232 : True := trivial
theorem fin.tw8948082482371116004 : True := trivial
theorem fin.tw12684638731096902351 : True := trivial
theorem fin.tw8774423053150036078 : True := trivial
theorem fin.tw9318294746258892094 : True := trivial
theorem fin.tw14313058710542081148 : True := trivial
theorem fin.tw3053775974466177803 : True := trivial
theorem fin.tw17073521150699930348 : True := trivial
theorem fin.tw456497026922275142 : True := trivial
theorem fin.tw10613419860793038486 : True := trivial
theorem fin.tw8811419440430183311 : True := trivial
theorem fin.tw17833446028884970581 : True := trivial
theorem fin.tw2455891585120977084 : True := trivial
theorem fin.tw8295822388934419359 : True := trivial
theorem fin.tw10721686264169414401 : True := trivial
theorem fin.tw2281691990164264209 : True := trivial
theorem fin.tw17623110547696280872 : True := trivial
theorem fin.tw11518276659447837388 : True := trivial
theorem fin.tw10987966643145659604 : True := trivial
theorem fin.tw11670171637854455947 : True := trivial
theorem fin.tw16345503306794049569 : True := trivial
theorem fin.tw13734805304564776865 : True := trivial
theorem fin.tw8161823921066727019 : True := trivial
theorem fin.tw16077102511918307223 : True := trivial
theorem fin.tw432171182686300163 : True := trivial
theorem fin.tw14677182658610763493 : True := trivial
theorem fin.tw3271193230314801069 : True := trivial
theorem fin.tw17310940212320268804 : True := trivial
theorem fin.tw11612566809172187382 : True := trivial
theorem fin.tw8075348116070888544 : True := trivial
theorem fin.tw5476648086353665964 : True := trivial
theorem fin.tw14142875367947013482 : True := trivial
theorem fin.tw3167183471751025118 : True := trivial
theorem fin.tw2776169478573207547 : True := trivial
theorem fin.tw2820047697435664933 : True := trivial
theorem fin.tw3261364829277279692 : True := trivial
theorem fin.tw10076233477246307759 : True := trivial
theorem fin.tw15358655349643102941 : True := trivial
theorem fin.tw8107153140892200516 : True := trivial
theorem fin.tw8533159285411921280 : True := trivial
theorem fin.tw13879568558055985932 : True := trivial
theorem fin.tw17722430620577515514 : True := trivial
theorem fin.tw4697322977845988149 : True := trivial
theorem fin.tw7889522931496932812 : True := trivial
theorem fin.tw1214465162884449954 : True := trivial
theorem fin.tw14101441631810041930 : True := trivial
theorem fin.tw8186693109541954100 : True := trivial
theorem fin.tw16071255782172575270 : True := trivial
theorem fin.tw12233294007400601026 : True := trivial
theorem fin.tw18051784609298091288 : True := trivial
theorem fin.tw8552757294332051327 : True := trivial
theorem fin.tw10465353738632370879 : True := trivial
theorem fin.tw5573383576414990121 : True := trivial
theorem fin.tw5298258943528374886 : True := trivial
theorem fin.tw11509431095044912603 : True := trivial
theorem fin.tw7459852932507521130 : True := trivial
theorem fin.tw4068401320071693988 : True := trivial
theorem fin.tw15027083690902535064 : True := trivial
theorem fin.tw870778256678953025 : True := trivial
theorem fin.tw8097398482135776802 : True := trivial
theorem fin.tw12801209884102306481 : True := trivial
theorem fin.tw16092755524620622596 : True := trivial
theorem fin.tw16735098170627491363 : True := trivial
theorem fin.tw14817887814502766619 : True := trivial
theorem fin.tw13711392985837988174 : True := trivial
theorem fin.tw12255757338387190731 : True := trivial
theorem fin.tw6562447515495100241 : True := trivial
theorem fin.tw1068741623966526534 : True := trivial
theorem fin.tw1650294860305305861 : True := trivial
theorem fin.tw8037877746863743178 : True := trivial
theorem fin.tw15358007446579112691 : True := trivial
theorem fin.tw6476621452994342126 : True := trivial
theorem fin.tw10467081300608839592 : True := trivial
theorem fin.tw8966399934052050101 : True := trivial
theorem fin.tw890527565437366785 : True := trivial
theorem fin.tw10124412743370872174 : True := trivial
theorem fin.tw13878660928505274080 : True := trivial
theorem fin.tw17577323638646983459 : True := trivial
theorem fin.tw2949083716209701241 : True := trivial
theorem fin.tw17130907099823920574 : True := trivial
theorem fin.tw17045952569796771426 : True := trivial
theorem fin.tw11999170816449804248 : True := trivial
theorem fin.tw13642432811112093973 : True := trivial
theorem fin.tw1978503887675442307 : True := trivial
theorem fin.tw275683360105820455 : True := trivial
theorem fin.tw1720992647703071227 : True := trivial
theorem fin.tw17796396348601850525 : True := trivial
theorem fin.tw8460545530114359947 : True := trivial
theorem fin.tw18113355975499427266 : True := trivial
theorem fin.tw12306989338960592432 : True := trivial
theorem fin.tw13518849000356369796 : True := trivial
theorem fin.tw16204390971005281902 : True := trivial
theorem fin.tw280882038504829708 : True := trivial
theorem fin.tw16875380932360479284 : True := trivial
theorem fin.tw2464690865241067045 : True := trivial
theorem fin.tw2612436106435537007 : True := trivial
theorem fin.tw16503392343100775846 : True := trivial
theorem fin.tw17481191897100789555 : True := trivial
theorem fin.tw12436427839529681402 : True := trivial
theorem fin.tw8160195586192091870 : True := trivial
theorem fin.tw4195818015435361801 : True := trivial
theorem fin.tw1161961563836750704 : True := trivial
theorem fin.tw16150374604360669372 : True := trivial
theorem fin.tw16855236635592421996 : True := trivial
theorem fin.tw6048889483203986258 : True := trivial
theorem fin.tw512362448938679510 : True := trivial
theorem fin.tw7703613880005643906 : True := trivial
theorem fin.tw17461221369840167147 : True := trivial
theorem fin.tw6508838511205595906 : True := trivial
theorem fin.tw1233836292828479317 : True := trivial
theorem fin.tw2407351125046336998 : True := trivial
theorem fin.tw11344942452408234144 : True := trivial
theorem fin.tw15026921177056164812 : True := trivial
theorem fin.tw8302490408057873481 : True := trivial
theorem fin.tw1337127559812453558 : True := trivial
theorem fin.tw15582164370216967941 : True := trivial
theorem fin.tw7505534610505367599 : True := trivial
theorem fin.tw12672004616006561488 : True := trivial
theorem fin.tw8199304669895826132 : True := trivial
theorem fin.tw12677196941869163599 : True := trivial
theorem fin.tw18276799573023057951 : True := trivial
theorem fin.tw5842937131148452889 : True := trivial
theorem fin.tw15693502820340492890 : True := trivial
theorem fin.tw10091377666771873470 : True := trivial
theorem fin.tw9978674136983459489 : True := trivial
theorem fin.tw12816641642650085220 : True := trivial
theorem fin.tw17288763785679394609 : True := trivial
theorem fin.tw17008496765254423596 : True := trivial
theorem fin.tw875497445429811121 : True := trivial
theorem fin.tw16789920028208791032 : True := trivial
theorem fin.tw11080182825746026374 : True := trivial
theorem fin.tw4291972030237388669 : True := trivial
theorem fin.tw7092122677942013459 : True := trivial
theorem fin.tw11061742794955253968 : True := trivial
theorem fin.tw7225337069166933836 : True := trivial
theorem fin.tw16114604120586301232 : True := trivial
theorem fin.tw4654797585301640988 : True := trivial
theorem fin.tw16519314499842130176 : True := trivial
theorem fin.tw13613429266334757664 : True := trivial
theorem fin.tw14157909767741711759 : True := trivial
theorem fin.tw6851677819854392338 : True := trivial
theorem fin.tw4742174488199075821 : True := trivial
theorem fin.tw5022566987457665802 : True := trivial
theorem fin.tw12963961992107969541 : True := trivial
theorem fin.tw9850454764542262262 : True := trivial
theorem fin.tw1802532699307937772 : True := trivial
theorem fin.tw230389472620081408 : True := trivial
theorem fin.tw15989435377618270824 : True := trivial
theorem fin.tw12275235136134260886 : True := trivial
theorem fin.tw14469055230986258147 : True := trivial
theorem fin.tw16615323097195427757 : True := trivial
theorem fin.tw16586822773959333840 : True := trivial
theorem fin.tw7538498055306678234 : True := trivial
theorem fin.tw8995268590231590 : True := trivial
theorem fin.tw5321860904382189155 : True := trivial
theorem fin.tw1516358309126140391 : True := trivial
theorem fin.tw794284108625991895 : True := trivial
theorem fin.tw1631270676176458055 : True := trivial
theorem fin.tw828222152378157998 : True := trivial
theorem fin.tw4268281883732071844 : True := trivial
theorem fin.tw6069756809112808137 : True := trivial
theorem fin.tw15453075300338644187 : True := trivial
theorem fin.tw5157701520617785377 : True := trivial
theorem fin.tw11305693915281639984 : True := trivial
theorem fin.tw5387379312593203855 : True := trivial
theorem fin.tw249879639373754849 : True := trivial
theorem fin.tw5626579304388812979 : True := trivial
theorem fin.tw14357055686423364220 : True := trivial
theorem fin.tw5958527080175009861 : True := trivial
theorem fin.tw17192666358687483591 : True := trivial
theorem fin.tw3336204670088126494 : True := trivial
theorem fin.tw4351831782709460306 : True := trivial
theorem fin.tw8523553605622376528 : True := trivial
theorem fin.tw16656568197272618210 : True := trivial
theorem fin.tw1565324497585612084 : True := trivial
theorem fin.tw12551128901473410239 : True := trivial
theorem fin.tw10914387741955989184 : True := trivial
theorem fin.tw155181743262439425 : True := trivial
theorem fin.tw13758964883583194658 : True := trivial
theorem fin.tw2359611168595311935 : True := trivial
theorem fin.tw2219329133408399761 : True := trivial
theorem fin.tw10984160014929966075 : True := trivial
theorem fin.tw5955432347835434579 : True := trivial
theorem fin.tw12019801309898966784 : True := trivial
theorem fin.tw18031825718738064524 : True := trivial
theorem fin.tw3980487038375331479 : True := trivial
theorem fin.tw17783602753346782025 : True := trivial
theorem fin.tw9435011829822157766 : True := trivial
theorem fin.tw2724830004243051390 : True := trivial
open PySem.W.X (Led)
open PyProof.Rows PySem.Calls PySem.Spec
set_option Elab.async true in
theorem fin : PySem.Challenge.rw_bg0004_01.Holds := by
  w_on
  o_law
  k_head
  (case hw => w_witness2)
  intro w s₀ s₁ mg mb G Y fa o pm cd doc dV kV ho hd0 hcd hD hmg hg args vals as hpre hlay hrd hwl hlo
  have KX := km_in_of Y
  have hT8 := km_tabs_of Y
  have X := (Ground.X G).1
  have V := (Ground.X G).2
  refine Ground.open G ?_
  intro T B D TE TW
  try (refine guard_noD D (by decide +kernel) ?_; clear D)
  clear hmg
  wrow_args hpre hlay hrd hwl hlo
  rename_i scr _ _ hL0 _ _ _ _ la svs _ hL ra w1 r0 hI _ hcond _
  refine enter_call ?_
  have he := Dflts.none hD rfl
  subst he
  have he := Dflts.noKw hD
  subst he
  refine call_cellsN (by decide) ho (fd_plain hd0) (Top.nolimit T) hcd rfl (kinds_of (by kinds_ok)) (by decide) fun h₁ tk₁ cells F N0 X0 => ?_
  have Y' : CellsAre _ [(Str.ofString "sums", s₁.heap.objs.size + 1 + 1 + 1 + 1 + 1), (Str.ofString "heavy", s₁.heap.objs.size + 1 + 1 + 1 + 1), (Str.ofString "by_second", s₁.heap.objs.size + 1 + 1 + 1), (Str.ofString "other", s₁.heap.objs.size + 1 + 1), (Str.ofString "rule", s₁.heap.objs.size + 1)] cells := X0
  clear X0
  obtain ⟨o5, o4, o3, o2, o1, rfl, ho5, ho4, ho3, ho2, ho1⟩ : ∃ o5 o4 o3 o2 o1 : Obj, cells = lawCells s₁.heap.objs.size o5 o4 o3 o2 o1 ∧ o5.data = .cell none ∧ o4.data = .cell none ∧ o3.data = .cell none ∧ o2.data = .cell none ∧ o1.data = .cell none := by
    cases Y' with | cons a1 r => cases r with | cons a2 r => cases r with | cons a3 r => cases r with | cons a4 r => cases r with | cons a5 r => cases r with | nil => exact ⟨_, _, _, _, _, rfl, a1, a2, a3, a4, a5⟩
  clear Y'
  have he := lawEnv_eq (w := w) (L := s₁.heap.objs.size) (f := fa) (cd := cd) (by k_is)
  have e0 := lawTail_eq (w := w) (k := 0) (by k_is)
  dsimp only [List.drop] at e0
  have main := lawTop (w := w) T KX hT8 hL hI (by omega) hL0 hg (fa := fa) (cd := cd) (tk₁ := tk₁) F (bindL_vec (f := fa) (L := s₁.heap.objs.size) [(Str.ofString "script", Value.ref la)] [(Str.ofString "script", Value.ref la)] ["head", "size", "seats", "ballots", "k", "number", "first", "second", "by_first", "best", "common"] (by rfl) (List.nodup_cons.mpr ⟨List.not_mem_nil, List.nodup_nil⟩)) N0 ho1 ho2 ho3 ho4 ho5
    (Q := fun f s' => GoodWG PySem.Challenge.rw_bg0004_01.row.claim (classAt s₀.heap) (ExcName.means s₀.heap) [ofPy (.list (scr.map .int))] s₁ (.ok (.ret (match f with | .ret v => v | _ => .none))) s') (fun h' g' t' hk hb => goodEnd hk hb rfl)
  rw [he, e0] at main
  exact wpAny_mono main (fun _ _ q => q) fun _ _ e => e.elim
end
end Mine
theorem PySem.Challenge.cw_bg0004_01_holds : PySem.Challenge.rw_bg0004_01.Holds :=
  Mine.fin
