import PyProof.Rows.All
import Wide.All
import OpenK.AllK
import Wide.FinOn
import PySem.Challenge.RW_ph0136_01
set_option Elab.async false

section
open PySem PySem.W PyProof.Rows PySem.Calls
set_option Elab.async false
set_option maxRecDepth 100000
namespace Mine
abbrev pr : Program := PySem.Challenge.pw_ph0136_01
def q : Program := view pr [2, 4, 6, 8, 9, 10, 11, 12, 13, 14]
def loose : List Str := ["b1_set", "b3_exceptions"]
abbrev TopQ (mean : ExcName → Option Value) (mg mb : Str → Option Value) (h : Heap) : Prop := Top q (looseW q loose) mean mg mb h
theorem fn_at {mean mg mb h} (T : TopQ mean mg mb h) {x : Str} {d : DefRec} {f : Addr} (hfind : (recsOf q).find? (fun e => e.name == x) = some d) (hmg : mg x = some (.ref f)) :
   ∃ o pm code doc, h.get? f = some o ∧ o.data = .func (docDef d.name d.params d.body d.scope pm code doc) ∧ h.CodeRec code d.name := by
  have hn : d.name = x := beq_iff_eq.mp (List.find?_some (p := fun e : DefRec => e.name == x) hfind)
  obtain ⟨f', o, pm, code, doc, h1, h2, h3, h4⟩ := T.fn d (List.mem_of_find?_eq_some hfind)
  rw [hn, hmg] at h1
  cases h1
  exact ⟨o, pm, code, doc, h2, h3, h4⟩

/-- every object stands as it stood -/
abbrev Kp (h h' : Heap) : Prop := ∀ b o, h.get? b = some o → h'.get? b = some o

/-- the signs of table B.1 -/
def b1L : List Int := [173, 847, 6150, 6155, 6156, 6157, 8203, 8204, 8205, 8288, 65279] ++ (List.range 16).map fun (i : Nat) => 65024 + (i : Int)
def b1S (i : Int) : Bool := b1L.contains i
/-- the pairs that the text writes in its dict display -/
def pairsIn : List (Option Expr) → List Expr → List (Int × Str)
  | some (.Constant (.int i) _ _) :: ks, .Constant (.str x) _ _ :: vs => (i, x) :: pairsIn ks vs
  | _, _ => []
def tabOf : Option Stmt → List (Int × Str)
  | some (.Assign _ (.Dict ks vs _) _) => pairsIn ks vs
  | _ => []
def b3L : List (Int × Str) := tabOf pr.main.body[3]?
def b3D : List (PyData × PyData) := b3L.map fun p => (.int p.1, .str p.2)

structure Gd (w : World) (mean : ExcName → Option Value) (mg mb : Str → Option Value) (h : Heap) : Prop where
  T : TopQ mean mg mb h
  b1 : ∃ a, mg "b1_set" = some (.ref a) ∧ h.SetOf (intKind pr w) a b1S 27
  b3 : ∃ d, mg "b3_exceptions" = some (.ref d) ∧ IntTab pr w h d b3D
theorem Heap_SetOf_keep {K : Type} [DecidableEq K] {prog : Program} {w : World} {knd : KeyKind prog w K} {h h' : Heap} {a : Addr} {S : K → Bool} {n : Nat} (x : h.SetOf knd a S n) (hk : ∀ b o, h.get? b = some o → h'.get? b = some o) : h'.SetOf knd a S n :=
  let ⟨o, es, ep, t, ho, r⟩ := x; ⟨o, es, ep, t, hk _ _ ho, r⟩
theorem Gd.keeps {w mean mg mb} {h h' : Heap} (G : Gd w mean mg mb h) (hk : ∀ b o, h.get? b = some o → h'.get? b = some o) : Gd w mean mg mb h' :=
  ⟨G.T.keeps hk, let ⟨a, h1, h2⟩ := G.b1; ⟨a, h1, Heap_SetOf_keep h2 hk⟩, let ⟨d, h1, h2⟩ := G.b3; ⟨d, h1, h2.keep hk⟩⟩

/-- a call of one of the text's defs, entered -/
theorem enter {w : World} {A : Around} {s : Shared} {mean mg mb} {E : Value → Shared → Prop} {Q : Value → Shared → Prop} {x : Str} {d : DefRec} {f : Addr} {vals : List Value} {binds : List (Str × Value)}
   (T : TopQ mean mg mb s.heap) (hfind : (recsOf q).find? (fun e => e.name == x) = some d) (hmg : mg x = some (.ref f)) (hroom : A.depth < recursionLimit)
   (hbind : ∀ pm cd doc, bindArgs (docDef d.name d.params d.body d.scope pm cd doc) ⟨vals, []⟩ = pure binds)
   (hloc : ∀ y ∈ binds.map (·.1), d.scope.names.lookup y = some .local)
   (h : ∀ h₁ cd, Fr s.heap s.heap.objs.size h₁ (fun x => binds.reverse.lookup x) →
      wpAny (model pr w) (A.deeper (envOf d.name d.scope s.heap.objs.size f cd)) (execs d.body (envOf d.name d.scope s.heap.objs.size f cd))
        (fun fl s' => Q (match fl with | .ret v => v | _ => .none) s')
        (fun e s' => wpAny (model pr w) (A.deeper (envOf d.name d.scope s.heap.objs.size f cd)) (leaving (envOf d.name d.scope s.heap.objs.size f cd) e)
          (fun _ s'' => E e s'') (fun e' s'' => E e' s'') s')
        { s with heap := h₁, toks := s.toks + binds.length })
   (hp : (d.scope.isCoroutine, d.scope.isGenerator, d.scope.kind) = (false, false, .function) := by rfl)
   (hcell : ∀ x ∈ d.scope.names, x.2 ≠ .cell := by decide) :
   wpAny (model pr w) A (call (.ref f) vals) Q E s := by
  obtain ⟨o, pm, code, doc, ho, hda, hcd⟩ := fn_at T hfind hmg
  have h1 : d.scope.isCoroutine = false := congrArg Prod.fst hp
  have h2 : d.scope.isGenerator = false := congrArg (fun x => x.2.1) hp
  have h3 : d.scope.kind = .function := congrArg (fun x => x.2.2) hp
  refine wpAny_call (call_plain hroom ho hda T.nolimit hcd (hbind pm code doc) (fun y hy => hloc _ (List.mem_map_of_mem hy)) (fun h₁ F => ?_) h1 h2 h3 hcell)
  exact h h₁ code F
theorem fn_addr {mean mg mb h} (T : TopQ mean mg mb h) {x : Str} {d : DefRec} (hfind : (recsOf q).find? (fun e => e.name == x) = some d) : ∃ f, mg x = some (.ref f) := by
  have hn : d.name = x := beq_iff_eq.mp (List.find?_some (p := fun e : DefRec => e.name == x) hfind)
  obtain ⟨f, o, pm, code, doc, h1, _⟩ := T.fn d (List.mem_of_find?_eq_some hfind)
  exact ⟨f, hn ▸ h1⟩
section
variable {w : World} {A : Around} {s : Shared} {mean : ExcName → Option Value} {mg mb : Str → Option Value} {E : Value → Shared → Prop} {Q : Value → Shared → Prop} {env : Env} {x : Str}
theorem nm_loc {m : Str → Option Value} {v : Value} {pos : Pos} (hn : s.heap.Ns env.locals m) (hv : m x = some v) (h : Q v s)
    (hk : env.scope.kind = .function := by rfl) (hl : env.kindOf x = some .local := by rfl) (hd : (x == ("__debug__" : Str)) = false := by decide) : wpAny (model pr w) A (eval (.Name x pos) env) Q E s :=
  wpAny_Name (wpAny_loadName_local hk hl hn hv h) hd
theorem nm_glob {v : Value} {pos : Pos} (hg : s.heap.Ns mainGlobals mg) (hv : mg x = some v) (h : Q v s)
    (hgl : env.globals = mainGlobals := by rfl) (hk : env.scope.kind = .function := by rfl) (hx : env.kindOf x = some .globalImplicit := by rfl) (hd : (x == ("__debug__" : Str)) = false := by decide) : wpAny (model pr w) A (eval (.Name x pos) env) Q E s :=
  Name_function_global hk hx (loadGlobal_global (hgl ▸ hg) hv h) hd
theorem nm_blt {v : Value} {pos : Pos} (T : TopQ mean mg mb s.heap) (hv : bootBuiltins x = some v) (h : Q v s)
    (hgl : env.globals = mainGlobals := by rfl) (hbl : env.builtins = builtinsNs := by rfl)
    (h1 : x ∉ startupNames := by decide +kernel) (h2 : x ∉ looseW q loose := by decide +kernel) (h3 : x ∉ (recsOf q).map (·.name) := by decide +kernel) (h4 : x ∉ (litsOf q).map (·.1) := by decide +kernel) (h4c : x ∉ (clssOf q (looseW q loose)).map (·.name) := by decide +kernel) (hn : x ≠ "__name__" := by decide +kernel)
    (hk : env.scope.kind = .function := by rfl) (hx : env.kindOf x = some .globalImplicit := by rfl) (hd : (x == ("__debug__" : Str)) = false := by decide) : wpAny (model pr w) A (eval (.Name x pos) env) Q E s :=
  Name_function_global hk hx (loadGlobal_builtin (hgl ▸ T.g) (T.free x h1 h2 h3 h4 h4c) (hbl ▸ T.b) ((T.builtins x hn).trans hv) h) hd
theorem call_def {px pos : Pos} {e : Expr} {rest : List Expr} {d : DefRec} (T : TopQ mean mg mb s.heap) (hfind : (recsOf q).find? (fun e => e.name == x) = some d)
    (h : ∀ f, mg x = some (.ref f) → wpAny (model pr w) A (spliced (backTo pos (starEach (e :: rest) env))) (fun vs s₁ => Kp s.heap s₁.heap ∧ wpAny (model pr w) A (call (.ref f) vs) Q E s₁) E s)
    (he : starEach (e :: rest) env = (false, eval e env) :: starEach rest env := by rfl)
    (hgl : env.globals = mainGlobals := by rfl) (hk : env.scope.kind = .function := by rfl) (hx : env.kindOf x = some .globalImplicit := by rfl) (hd : (x == ("__debug__" : Str)) = false := by decide)
    (hc : eval (.Call (.Name x px) (e :: rest) [] pos) env = (do callWith pos (← eval (.Name x px) env) [] (backTo pos (starEach (e :: rest) env)) (backToKw pos (keywordEach [] env))) := by rfl) :
    wpAny (model pr w) A (eval (.Call (.Name x px) (e :: rest) [] pos) env) Q E s := by
  obtain ⟨f, hf⟩ := fn_addr T hfind
  obtain ⟨o, pm, code, doc, ho, hda, hcd⟩ := fn_at T hfind hf
  refine Call_ (nm_glob T.g hf ?_ hgl hk hx hd) hc
  exact callWith_def (o := o) hda (wpAny_mono (h f hf) (fun vs s₁ h₁ => ⟨h₁.1 _ _ ho, h₁.2⟩) fun _ _ x => x) he
end
end Mine
end

section
open PySem PySem.W PyProof.Rows PySem.Calls
set_option Elab.async false
set_option maxRecDepth 100000
namespace Mine
local macro_rules | `(tactic| walk_at "eval Name") => `(tactic| refine tp_builtin (by assumption) (by assumption) (by boot_fast) ?_)
set_option maxHeartbeats 400000 in
theorem in_b1 {w : World} {A : Around} {s : Shared} {mean mg mb} {E : Value → Shared → Prop} {Q : Value → Shared → Prop} (G : Gd w mean mg mb s.heap) {f : Addr} (hmg : mg (Str.ofString "in_table_b1") = some (.ref f)) 
   (hroom : A.depth < recursionLimit) {c : Nat} {t : Tok} (h : ∀ h' tk, Kp s.heap h' → Q (.bool (b1S c)) { s with heap := h', toks := tk }) : wpAny (model pr w) A (call (.ref f) [.str ⟨#[c]⟩ t]) Q E s := by
  have T := G.T
  refine enter (binds := [(Str.ofString "code", .str ⟨#[c]⟩ t)]) T (by rfl) hmg hroom (fun _ _ _ => by rfl) (by simp) ?_
  intro h₁ cd F
  have N : News s.heap s.heap.objs.size h₁ [] := News.nil
  dsimp only
  repeat' walk1
  obtain ⟨b, hb, hS⟩ := G.b1
  refine ld_global_at F T.g hb ?_
  refine wpAny_inSet_of (k := (c : Int)) (intKind_is pr w _ _) rfl (Heap_SetOf_keep hS F.keep) ?_
  exact h _ _ F.keep

def b3At (c : Int) : Option Str := (b3L.find? fun p => decide (p.1 = c)).map (·.2)
theorem lookup_pairs (c : Int) : ∀ l : List (Int × Str), Spec.lookup (.int c) (l.map fun p => ((.int p.1 : PyData), (.str p.2 : PyData))) = ((l.find? fun p => decide (p.1 = c)).map (·.2)).map PyData.str
  | [] => rfl
  | p :: l => by
    have ih := lookup_pairs c l
    simp only [List.map_cons, Spec.lookup, List.find?_cons, PyProof.V.same_int]
    by_cases e : p.1 = c
    · simp [e]
    · simp only [e, decide_false, Bool.false_eq_true, if_false]; exact ih
/-- what map_table_b3 makes of one sign -/
def b3 (c : Nat) : Str := (b3At c).getD (Txt.lower ⟨#[c]⟩)
set_option maxHeartbeats 400000 in
theorem map_b3 {w : World} {A : Around} {s : Shared} {mean mg mb} {E : Value → Shared → Prop} {Q : Value → Shared → Prop} (G : Gd w mean mg mb s.heap) {f : Addr} (hmg : mg (Str.ofString "map_table_b3") = some (.ref f)) 
   (hroom : A.depth < recursionLimit) {c : Nat} {t : Tok} (h : ∀ t' h' tk, Kp s.heap h' → Q (.str (b3 c) t') { s with heap := h', toks := tk }) : wpAny (model pr w) A (call (.ref f) [.str ⟨#[c]⟩ t]) Q E s := by
  have T := G.T
  refine enter (binds := [(Str.ofString "code", .str ⟨#[c]⟩ t)]) T (by rfl) hmg hroom (fun _ _ _ => by rfl) (by simp) ?_
  intro h₁ cd F
  have N : News s.heap s.heap.objs.size h₁ [] := News.nil
  dsimp only
  repeat' walk1
  obtain ⟨d, hd, hD⟩ := G.b3
  refine ld_global_at F T.g hd ?_
  have D : IntTab pr w h₁ d b3D := hD.keep F.keep
  repeat' walk1
  rename_i v hv h2 F2 N2
  have e : Spec.lookup (PyData.int c) b3D = (b3At c).map PyData.str := lookup_pairs c b3L
  rw [e] at hv
  cases hb : b3At c with
  | none =>
    rw [hb] at hv
    obtain ⟨rfl, _⟩ := reads_none_inv (hv s.heap)
    repeat' walk1
    refine SCL.lower (by show 1 ≤ 5592405; decide) ?_
    intro _
    have e3 : b3 c = Txt.lower ⟨#[c]⟩ := by unfold b3; rw [hb]; rfl
    exact e3 ▸ h _ _ _ F2.keep
  | some x =>
    rw [hb] at hv
    obtain ⟨tv, rfl, _⟩ := reads_str_inv (hv s.heap)
    repeat' walk1
    have e3 : b3 c = x := by unfold b3; rw [hb]; rfl
    exact e3 ▸ h _ _ _ F2.keep
end Mine
end

section
open PySem PySem.W PyProof.Rows PySem.Calls
set_option Elab.async false
set_option maxRecDepth 100000
namespace Mine
section
variable {w : World} {A : Around} {s : Shared} {E : Value → Shared → Prop} {Q : Value → Shared → Prop} {env : Env}
theorem fresh_none (h : Heap) : h.get? h.objs.size = none := by
  cases e : h.get? h.objs.size with
  | none => rfl
  | some o => exact absurd (Heap.lt_size e) (Nat.lt_irrefl _)
theorem paired_all {α β : Type} {F : α → β → Prop} {vs : List α} {ys : List β} (h : Paired F vs ys) : vs.length = ys.length := by
  induction h with
  | nil => rfl
  | cons _ _ ih => simp [ih]
/-- a list comprehension over a list, its test and its element by contracts -/
theorem comp_list {elt iter : Expr} {x : Str} {px : Pos} {ifs : List Expr} {scope : Scope} {cl : List (Str × Addr)} {pos : Pos} (p : Value → Bool) (F : Value → Value → Prop)
    (hh : A.handled = none)
    (h : wpAny (model pr w) A (eval iter env) (fun xv s₁ => ∃ l items, xv = .ref l ∧ s₁.heap.IsList l items ∧ items.size ≤ sizeLine ∧
      (∀ C v s₃ m₃ E', v ∈ items.toList → s₃.heap.Ns C m₃ → m₃ x = some v → Kp s₁.heap s₃.heap →
        wpAny (model pr w) A (forIn ifs true fun c r => if r = true then do let ok ← isTrue c (compEnvC scope cl C env) (eval c (compEnvC scope cl C env)); pure (ForInStep.yield ok) else pure (ForInStep.yield r))
          (fun ok s₄ => ok = p v ∧ Keeps s₃ s₄) E' s₃) ∧
      (∀ C v s₃ m₃ E', v ∈ items.toList → p v = true → s₃.heap.Ns C m₃ → m₃ x = some v → Kp s₁.heap s₃.heap →
        wpAny (model pr w) A (eval elt (compEnvC scope cl C env)) (fun y s₄ => F v y ∧ Keeps s₃ s₄) E' s₃) ∧
      (∀ D h' tk ys, s₁.heap.get? D = none → h'.IsList D ys → h'.PlainList D ys → Paired F (items.toList.filter p) ys.toList → Kp s₁.heap h' → Q (.ref D) { s₁ with heap := h', toks := tk })) E s)
    (hclos : closureFor scope env = pure cl := by rfl) (hcell : ∀ y ∈ scope.names, y.2 ≠ .cell := by decide) (hkind : scope.kind = .function := by rfl)
    (hnames : ∀ y ∈ scope.names, y.2 = .local → scope.names.lookup y.1 = some .local := by decide) (hx : scope.names.lookup x = some .local := by decide)
    (hs : ∀ x, foldedSetIterable iter env x = pure x := by intro _; rfl) :
    wpAny (model pr w) A (eval (.ListComp elt [⟨.Name x px, iter, ifs, 0⟩] scope pos) env) Q E s := by
  refine wpAny_ListComp_free (cl := cl) p F hclos hcell hkind hnames hx (wpAny_mono h (fun xv s₁ h₁ => ?_) fun _ _ e => e) hs
  obtain ⟨l, items, rfl, hl, hsz, ht, he, hQ⟩ := h₁
  have hne : l ≠ s₁.heap.objs.size := by obtain ⟨o, ho, _⟩ := id hl; exact Nat.ne_of_lt (Heap.lt_size ho)
  refine wpAny_pyIter_list hl ?_
  have W := Walks.list (prog := pr) (w := w) hh s₁.heap.objs.size l hne items
  have old : ∀ b o, s₁.heap.get? b = some o → b ∉ [s₁.heap.objs.size] := fun b o e hb => by
    rw [List.mem_singleton.mp hb, fresh_none] at e; cases e
  refine ⟨_, _, _, _, _, _, rfl, W, hsz, ⟨⟨_, Heap.get?_push_size _ rfl, rfl, rfl⟩, hl.at fun o e => Heap.get?_push_of_some _ e⟩, ?_, ⟨?_, ?_⟩, ?_⟩
  · intro b hb
    show b < (s₁.heap.push _).objs.size
    rw [Heap.size_push]
    rcases List.mem_cons.mp hb with rfl | hb
    · exact Nat.lt_succ_self _
    · obtain ⟨o, ho, _⟩ := id hl
      rw [List.mem_singleton.mp hb]
      exact Nat.lt_succ_of_lt (Heap.lt_size ho)
  · intro C i v s₃ m₃ E' _ hP hn hm hk _
    exact ht C v s₃ m₃ E' (Array.mem_toList_iff.mpr (Array.mem_of_getElem? hP)) hn hm fun b o e => hk b o (old b o e) (Heap.get?_push_of_some _ e)
  · intro C i v s₃ m₃ E' _ hP hp hn hm hk _
    exact he C v s₃ m₃ E' (Array.mem_toList_iff.mpr (Array.mem_of_getElem? hP)) hp hn hm fun b o e => hk b o (old b o e) (Heap.get?_push_of_some _ e)
  · intro D h' tk ys vs hD hl' hpl hlen hP hF hk
    have hv : vs = items.toList := by
      apply List.ext_getElem?
      intro j
      by_cases hj : j < items.size
      · have h1 := hP j vs[j] (by simp [hlen, hj])
        rw [List.getElem?_eq_getElem (by rw [hlen]; exact hj)]
        rw [← h1]; simp
      · rw [List.getElem?_eq_none (by omega), List.getElem?_eq_none (by simp; omega)]
    subst hv
    refine hQ D h' tk ys ?_ hl' hpl hF fun b o e => hk b o (old b o e) (Heap.get?_push_of_some _ e)
    cases e : s₁.heap.get? D with
    | none => rfl
    | some o => have := Heap.get?_push_of_some { cls := .type "list_iterator", data := .fields #[.ref l, .int 0 0] } e; rw [this] at hD; cases hD
end
end Mine
end

section
open PySem PySem.W PyProof.Rows PySem.Calls
set_option Elab.async false
set_option maxRecDepth 100000
namespace Mine
local macro_rules | `(tactic| walk_at "eval Name") => `(tactic| refine tp_builtin (by assumption) (by assumption) (by boot_fast) ?_)
/-- texts of one sign each, by their numbers -/
abbrev Signs (vs : List Value) (cs : List Nat) : Prop := Paired (fun v c => ∃ t, v = Value.str ⟨#[c]⟩ t) vs cs
/-- the signs that are not left out, as map_table_b3 makes them -/
def preps (cs : List Nat) : List Str := (cs.filter fun (c : Nat) => !b1S (c : Int)).map b3
def signOf : Value → Nat
  | .str x _ => x.cps.getD 0 0
  | _ => 0
set_option maxHeartbeats 400000 in
theorem b3_len (c : Nat) : (b3 c).length ≤ 4 := by
  unfold b3
  cases hb : b3At c with
  | none => exact Nat.le_trans (len_lower _) (by show 3 * 1 ≤ 4; decide)
  | some x =>
    have hall : b3L.all (fun p => decide (p.2.length ≤ 4)) = true := by decide +kernel
    unfold b3At at hb
    obtain ⟨p, hp, rfl⟩ := Option.map_eq_some_iff.mp hb
    exact of_decide_eq_true (List.all_eq_true.mp hall p (List.mem_of_find?_eq_some hp))
theorem preps_len (cs : List Nat) : ((preps cs).map (·.length)).sum ≤ 4 * cs.length := by
  unfold preps
  induction cs with
  | nil => simp
  | cons c cs ih =>
    simp only [List.filter_cons, List.length_cons]
    split
    · simp only [List.map_cons, List.sum_cons]; have := b3_len c; omega
    · omega
theorem signs_filter {vs : List Value} {cs : List Nat} (h : Signs vs cs) : ∀ {ys : List Value}, Paired (fun v y => ∀ c t, v = Value.str ⟨#[c]⟩ t → ∃ t', y = Value.str (b3 c) t') (vs.filter fun v => !b1S (signOf v)) ys → StrsAre ys (preps cs) := by
  induction h with
  | nil => intro ys h; cases h; exact .nil
  | cons hv _ ih =>
    intro ys h
    obtain ⟨t, rfl⟩ := hv
    rename_i c l₁ l₂ hh
    unfold preps
    simp only [List.filter_cons] at h ⊢
    have e : signOf (Value.str ⟨#[c]⟩ t) = c := rfl
    rw [e] at h
    split
    · rename_i hc
      rw [if_pos hc] at h
      cases h with
      | cons h1 h2 =>
        obtain ⟨t', rfl⟩ := h1 c t rfl
        exact .cons _ _ (ih h2)
    · rename_i hc
      rw [if_neg hc] at h
      exact ih h
set_option maxHeartbeats 400000 in
theorem prepared {w : World} {A : Around} {s : Shared} {mean mg mb} {E : Value → Shared → Prop} {Q : Value → Shared → Prop} (G : Gd w mean mg mb s.heap) {f : Addr} (hmg : mg (Str.ofString "_law_prepared") = some (.ref f)) 
   (hh : A.handled = none) (hroom : A.depth + 5 < recursionLimit) {l : Addr} {vs : Array Value} {cs : List Nat} (hl : s.heap.IsList l vs) (hs : Signs vs.toList cs) (hn : cs.length ≤ 1000)
   (h : ∀ t' h' tk, Kp s.heap h' → Q (.str (Txt.join (Str.ofString "") (preps cs)) t') { s with heap := h', toks := tk }) : wpAny (model pr w) A (call (.ref f) [.ref l]) Q E s := by
  have T := G.T
  refine enter (binds := [(Str.ofString "signs", .ref l)]) T (by rfl) hmg (by omega) (fun _ _ _ => by rfl) (by simp) ?_
  intro h₁ cd F
  have N : News s.heap s.heap.objs.size h₁ [] := News.nil
  dsimp only
  iterate 7 walk1
  have G₁ : Gd w mean mg mb h₁ := G.keeps F.keep
  have hl₁ : h₁.IsList l vs := hl.at fun o e => F.keep l o e
  have hsgn : ∀ v ∈ vs.toList, ∃ c t, v = Value.str ⟨#[c]⟩ t := by
    intro v hv
    clear h hl hl₁
    generalize vs.toList = xs at hs hv
    induction hs with
    | nil => cases hv
    | cons hx _ ih =>
      rcases List.mem_cons.mp hv with rfl | hv
      · obtain ⟨t, rfl⟩ := hx; exact ⟨_, _, rfl⟩
      · exact ih (by simp at hn; omega) hv
  refine comp_list (cl := []) (fun v => !b1S (signOf v)) (fun v y => ∀ c t, v = Value.str ⟨#[c]⟩ t → ∃ t', y = Value.str (b3 c) t') (by exact hh) ?_
  refine ld F rfl ⟨l, vs, rfl, hl₁, ?_, ?_, ?_, ?_⟩
  · have := paired_all hs
    rw [Array.length_toList] at this
    rw [sizeLine_eq]; omega
  · intro C v s₃ m₃ E' hv hns hm hk
    obtain ⟨c, t, rfl⟩ := hsgn v hv
    refine wpAny_tests_one (isTrue_not (isTrue_plain ?_))
    have G₃ := G₁.keeps hk
    refine call_def G₃.T (by rfl) fun f' hf' => ?_
    refine args_cons (nm_loc hns hm (args_nil ⟨fun _ _ e => e, ?_⟩))
    refine in_b1 G₃ hf' (by show A.depth + 1 < _; omega) fun h' tk hk' => ?_
    refine wpAny_truthy_bool ⟨rfl, _, _, rfl, hk'⟩
  · intro C v s₃ m₃ E' hv _ hns hm hk
    obtain ⟨c, t, rfl⟩ := hsgn v hv
    have G₃ := G₁.keeps hk
    refine call_def G₃.T (by rfl) fun f' hf' => ?_
    refine args_cons (nm_loc hns hm (args_nil ⟨fun _ _ e => e, ?_⟩))
    refine map_b3 G₃ hf' (by show A.depth + 1 < _; omega) fun t' h' tk hk' => ?_
    exact ⟨fun c' t₀ e => by cases e; exact ⟨_, rfl⟩, _, _, rfl, hk'⟩
  · intro D h' tk ys hD hli hpl hF hk
    refine args_nil ?_
    refine join_list hli (signs_filter hs hF) ?_ ?_
    · have := preps_len cs
      show _ + _ * 0 ≤ _
      omega
    · intro t' k
      exact h t' h' k fun b o e => hk b o (F.keep b o e)
end Mine
end

section
open PySem PySem.W PyProof.Rows PySem.Calls
open Sem (wp)
set_option Elab.async false
set_option maxRecDepth 100000
namespace Mine
/-- the codes by which a bytearray may be held: what bytearray.__init__ asks of the stack -/
def holdCode : Code → Bool
  | .builtin id _ => (["bytearray.__contains__", "bytearray.__mod__", "bytearray.__rmod__", "_struct.pack_into.held", "bytearray.find.held"] ++ Builtin.Bytes.decodersThatHold).contains id
  | _ => false
def Clean (Γ : Ctx) : Prop := holdCode Γ.code = false ∧ ∀ x ∈ Γ.below, holdCode x.1 = false
/-- a set of contexts that a quiet code leaves -/
structure Pk (P : Ctx → Prop) : Prop where
  enter : ∀ Γ c h p, P Γ → holdCode c = false → P (Γ.enter c h p)
  goto : ∀ Γ c, P Γ → holdCode c = false → P (Γ.goto c)
theorem Pk.clean : Pk Clean where
  enter := fun Γ c h p x hc => ⟨hc, fun y hy => by
    rcases List.mem_cons.mp hy with rfl | hy
    · exact x.1
    · exact x.2 y hy⟩
  goto := fun Γ c x hc => ⟨hc, x.2⟩
theorem Pk.all : Pk fun _ => True := ⟨fun _ _ _ _ _ _ => trivial, fun _ _ _ _ => trivial⟩

def wpP {α : Type} (P : Ctx → Prop) (M : Model) (A : Around) (t : Sem α) (Q : α → Shared → Prop) (E : Value → Shared → Prop) (s : Shared) : Prop :=
  ∀ Γ p, Γ.In A → P Γ → wp M Γ t (fun a _ s' => Q a s') (fun e _ s' => E e s') p s
def codeP (P : Ctx → Prop) (M : Model) (A : Around) (c : Code) (R : Result → Shared → Prop) (s : Shared) : Prop :=
  ∀ Γ p, Γ.code = c → Γ.Below A → P Γ → wpCode M Γ R p s

section
variable {α β : Type} {P : Ctx → Prop} {M : Model} {A : Around} {E : Value → Shared → Prop} {s : Shared} {env : Env}
theorem wpP_of {t : Sem α} {Q : α → Shared → Prop} (h : wpAny M A t Q E s) : wpP P M A t Q E s := fun Γ p hΓ _ => h Γ p hΓ
theorem wpAny_ofP {t : Sem α} {Q : α → Shared → Prop} (h : wpP (fun _ => True) M A t Q E s) : wpAny M A t Q E s := fun Γ p hΓ => h Γ p hΓ trivial
theorem codeP_of {c : Code} {R : Result → Shared → Prop} (h : codeAny M A c R s) : codeP P M A c R s := fun Γ p hc hΓ _ => h Γ p hc hΓ
theorem codeAny_ofP {c : Code} {R : Result → Shared → Prop} (h : codeP (fun _ => True) M A c R s) : codeAny M A c R s := fun Γ p hc hΓ => h Γ p hc hΓ trivial
theorem wpP_pure {a : α} {Q : α → Shared → Prop} (h : Q a s) : wpP P M A (pure a) Q E s := wpP_of (wpAny_pure h)
theorem wpP_mono {t : Sem α} {Q Q' : α → Shared → Prop} {E' : Value → Shared → Prop} (h : wpP P M A t Q E s) (hQ : ∀ a s, Q a s → Q' a s) (hE : ∀ e s, E e s → E' e s) : wpP P M A t Q' E' s :=
  fun Γ p hΓ hP => Sem.wp_mono M Γ t (fun a _ s => hQ a s) (fun e _ s => hE e s) p s (h Γ p hΓ hP)
theorem wpP_bind {m : Sem α} {f : α → Sem β} {Q : β → Shared → Prop} (h : wpP P M A m (fun a s' => wpP P M A (f a) Q E s') E s) : wpP P M A (m >>= f) Q E s := fun Γ p hΓ hP => by
  rw [Sem.wp_bind']
  exact Sem.wp_mono M Γ m (fun a p' s' h' => h' Γ p' hΓ hP) (fun _ _ _ h' => h') p s (h Γ p hΓ hP)
theorem wpP_onRaise {m : Sem α} {k : Value → Sem Unit} {Q : α → Shared → Prop} (h : wpP P M A m Q (fun e s' => wpP P M A (k e) (fun _ s'' => E e s'') E s') s) : wpP P M A (m.onRaise k) Q E s := fun Γ p hΓ hP => by
  rw [Sem.wp_onRaise]
  exact Sem.wp_mono M Γ m (fun _ _ _ h' => h') (fun e p' s' h' => h' Γ p' hΓ hP) p s (h Γ p hΓ hP)
theorem wpP_attempt {m : Sem α} {Q : Except Value α → Shared → Prop} (h : wpP P M A m (fun a => Q (.ok a)) (fun e => Q (.error e)) s) : wpP P M A m.attempt Q E s := fun Γ p hΓ hP => by
  rw [Sem.wp_attempt]; exact h Γ p hΓ hP
theorem wpP_holding {vs : List Value} {m : Sem α} {Q : α → Shared → Prop} (h : wpP P M A m Q E s) : wpP P M A (holding vs m) Q E s := fun Γ p hΓ hP => by
  rw [Sem.wp_holding]; exact h Γ p hΓ hP
theorem wpP_standAt {pos : Pos} {Q : Unit → Shared → Prop} (h : Q () s) : wpP P M A (standAt pos) Q E s := wpP_of (wpAny_standAt h)
theorem wpP_run (K : Pk P) {c : Code} {h : Option Value} {Q : Flow → Shared → Prop} (hc : codeP P M (A.mark h) c (fun r s' => match r with | .ok f => Q f s' | .error e => E e s') s)
    (hq : holdCode c = false := by rfl) (hnb : h ≠ some byPass := by intro x; cases x) : wpP P M A (run c h) Q E s :=
  fun Γ p hΓ hP => by rw [Sem.wp_run]; exact hc _ p rfl (hΓ.enter c h p hnb) (K.enter Γ c h p hP hq)
theorem wpP_runValue (K : Pk P) {c : Code} {Q : Value → Shared → Prop}
    (hc : codeP P M A c (fun r s' => match r with | .ok (.ret v) => Q v s' | .ok _ => False | .error e => E e s') s) (hq : holdCode c = false := by rfl) : wpP P M A (runValue c) Q E s :=
  fun Γ p hΓ hP => by rw [Sem.wp_runValue]; exact hc _ p rfl (hΓ.enter c none p (by intro x; cases x)) (K.enter Γ c none p hP hq)
theorem wpP_call (K : Pk P) {f : Value} {pos : List Value} {kw : List (Str × Value)} {Q : Value → Shared → Prop}
    (hc : codeP P M A (.call f ⟨pos, kw⟩) (fun r s' => match r with | .ok (.ret v) => Q v s' | .ok _ => False | .error e => E e s') s) : wpP P M A (call f pos kw) Q E s := wpP_runValue K hc
theorem codeP_mono {c : Code} {R R' : Result → Shared → Prop} (h : codeP P M A c R s) (hR : ∀ r s, R r s → R' r s) : codeP P M A c R' s :=
  fun Γ p hc hΓ hP => wpCode_mono hR (h Γ p hc hΓ hP)
theorem codeP_of_tree (K : Pk P) {c : Code} {R : Result → Shared → Prop}
    (h : wpP P M (A.under c) (M.den c) (fun fin s' => match fin with | .done f => R (.ok f) s' | .again c' => (c'.quiet = true ∧ holdCode c' = false) ∧ codeP P M A c' R s')
      (fun e s' => R (.error e) s') s) : codeP P M A c R s := fun Γ p hc hΓ hP => by
  rw [wpCode_iff_wp, hc]
  refine Sem.wp_mono M Γ _ (fun fin p' s' h' => ?_) (fun _ _ _ h' => h') p s (h Γ p (hc ▸ hΓ.in) hP)
  cases fin with
  | done f => exact h'
  | again c' => exact ⟨h'.1.1, h'.2 (Γ.goto c') p' rfl (hΓ.goto c') (K.goto Γ c' hP h'.1.2)⟩
theorem codeP_loop (K : Pk P) {c : Code} {R : Result → Shared → Prop} (hq : c.quiet = true) (hh : holdCode c = false) (I : Nat → Shared → Prop)
    (turn : ∀ n s, I n s → wpP P M (A.under c) (M.den c) (fun fin s' => match fin with
        | .done f => R (.ok f) s'
        | .again c' => (c' = c ∧ ∃ m, m < n ∧ I m s') ∨ ((c'.quiet = true ∧ holdCode c' = false) ∧ codeP P M A c' R s')) (fun e s' => R (.error e) s') s)
    (n : Nat) (h : I n s) : codeP P M A c R s := by
  induction n using Nat.strongRecOn generalizing s with
  | ind n ih =>
    refine codeP_of_tree K (wpP_mono (turn n s h) (fun fin s' hf => ?_) fun _ _ h' => h')
    cases fin with
    | done f => exact hf
    | again c' =>
      rcases hf with ⟨rfl, m, hm, hI⟩ | hf
      · exact ⟨⟨hq, hh⟩, ih m hm hI⟩
      · exact hf

theorem wpP_execs_nil {Q : Flow → Shared → Prop} (h : Q .next s) : wpP P M A (execs [] env) Q E s := wpP_of (wpAny_execs_nil h)
theorem wpP_execs_cons {st rest} {Q : Flow → Shared → Prop} (h : wpP P M A (exec st env) (fun f s' => match f with | .next => wpP P M A (execs rest env) Q E s' | f => Q f s') E s) :
    wpP P M A (execs (st :: rest) env) Q E s := fun Γ p hΓ hP => by
  rw [execs_cons, Sem.wp_bind']
  refine Sem.wp_mono M Γ _ (fun f p' s' h' => ?_) (fun _ _ _ h' => h') _ _ (h Γ p hΓ hP)
  cases f <;> first | exact h' Γ p' hΓ hP | exact h'
theorem wpP_Assign_Name {x pos' value pos} {Q : Flow → Shared → Prop} (h : wpP P M A (eval value env) (fun v s₁ => wpP P M A (storeName env x v) (fun _ => Q .next) E s₁) E s)
    (hs : swapsWith value (some (.Name x pos')) pos.line env = pure false := by rfl) : wpP P M A (exec (.Assign [.Name x pos'] value pos) env) Q E s := fun Γ p hΓ hP => by
  simp only [exec_Assign_Name env x pos' value pos hs, Sem.wp_bind', Sem.wp_cmd_standAt, Sem.wp_bindName, Sem.wp_pure']
  exact Sem.wp_mono M Γ _ (fun v _ s₁ h₁ => h₁ Γ _ hΓ hP) (fun _ _ _ h' => h') _ _ (h Γ _ hΓ hP)
theorem wpP_If {test body orelse pos} {Q : Flow → Shared → Prop}
    (h : wpP P M A (isTrue test env (eval test env)) (fun b s₂ => if b then wpP P M A (execs body env) Q E s₂ else wpP P M A (execs orelse env) Q E s₂) E s) :
    wpP P M A (exec (.If test body orelse pos) env) Q E s := fun Γ p hΓ hP => by
  simp only [exec_If, Sem.wp_bind', Sem.wp_cmd_standAt]
  refine Sem.wp_mono M Γ _ (fun b p₂ s₂ h₂ => ?_) (fun _ _ _ h' => h') _ _ (h Γ _ hΓ hP)
  cases b <;> exact h₂ Γ p₂ hΓ hP
theorem wpP_isTrue_Compare1 {l op r pos whole} {Q : Bool → Shared → Prop}
    (h : wpP P M A (eval l env) (fun a s₁ => wpP P M A (eval r env) (fun b s₂ => wpP P M A (compareOp op a b) (fun c s₃ => wpP P M A (truthy c) Q E s₃) E s₂) E s₁) E s)
    (hm : behindInMarks op r = false := by with_unfolding_all rfl) : wpP P M A (isTrue (.Compare l [op] [r] pos) env whole) Q E s := fun Γ p hΓ hP => by
  simp only [isTrue_Compare1, markedBehindIn_of_false hm, Sem.wp_bind', Sem.wp_holding, Sem.wp_cmd_standAt, Sem.wp_operate]
  exact Sem.wp_mono M Γ _ (fun a p₁ s₁ h₁ => Sem.wp_mono M Γ _ (fun b _ s₂ h₂ => Sem.wp_mono M Γ _ (fun c p₃ s₃ h₃ => h₃ Γ p₃ hΓ hP)
    (fun _ _ _ h' => h') _ _ (h₂ Γ _ hΓ hP)) (fun _ _ _ h' => h') _ _ (h₁ Γ p₁ hΓ hP)) (fun _ _ _ h' => h') _ _ (h Γ p hΓ hP)
theorem wpP_runOwn (K : Pk P) {c : Code} {h : Option Value} {Q : Flow → Shared → Prop}
    (hc : codeP P M (A.mark h) c (fun r s' => match r with | .ok f => Q f s' | .error e => cameBackBy M A env E e s') s) (hq : holdCode c = false := by rfl) (hnb : h ≠ some byPass := by intro x; cases x) :
    wpP P M A (runOwn c env h) Q E s := by
  unfold runOwn
  exact wpP_onRaise (wpP_mono (wpP_run K (E := fun e s' => cameBackBy M A env E e s') hc hq hnb) (fun _ _ x => x) fun _ _ x => wpP_of x)
theorem wpP_While (K : Pk P) {test body orelse pos} {Q : Flow → Shared → Prop}
    (h : codeP P M A (.whileLoop test body orelse env) (fun r s' => match r with | .ok f => Q f s' | .error e => cameBackBy M A env E e s') s) :
    wpP P M A (exec (.While test body orelse pos) env) Q E s := by
  rw [exec_While]; exact wpP_bind (wpP_standAt (wpP_runOwn K h))
theorem wpP_For (K : Pk P) {target iter body orelse pos} {Q : Flow → Shared → Prop}
    (h : wpP P M A (eval iter env) (fun x s₁ => wpP P M A (pyIter x) (fun it s₂ =>
      codeP P M A (.forLoop target it body orelse env) (fun r s' => match r with | .ok f => Q f s' | .error e => cameBackBy M A env E e s') s₂) E s₁) E s)
    (hs : ∀ x, foldedSetIterable iter env x = pure x := by intro _; rfl) :
    wpP P M A (exec (.For target iter body orelse pos) env) Q E s := by
  rw [exec_For]
  exact wpP_bind (wpP_standAt (wpP_bind (wpP_mono h (fun x s₁ h₁ => wpP_bind (wpP_of (wpAny_of_eq (hs x) (wpP_bind (wpP_standAt (wpP_bind (wpP_holding
    (wpP_mono h₁ (fun it s₂ h₂ => wpP_runOwn K h₂) fun _ _ h' => h')))))))) fun _ _ h' => h')))
theorem wpP_noted {m : Sem α} {Q : α → Shared → Prop} (h : wpP P M A m Q (notedBy M A env E) s) : wpP P M A (m.onRaise fun x => do noteFrame x env; theTreesLotGoes x) Q E s :=
  wpP_onRaise (wpP_mono h (fun _ _ q => q) fun _ _ hx => wpP_of (wpAny_bind (wpAny_mono hx (fun _ _ e => wpAny_theTreesLotGoes e) fun _ _ e => e)))
theorem wpP_args_cons {e : Expr} {rest : List Expr} {pos : Pos} {Q : List Value → Shared → Prop}
    (h : wpP P M A (eval e env) (fun v s₁ => wpP P M A (spliced (backTo pos (starEach rest env))) (fun vs s₂ => Q (v :: vs) s₂) E s₁) E s)
    (he : starEach (e :: rest) env = (false, eval e env) :: starEach rest env := by rfl) : wpP P M A (spliced (backTo pos (starEach (e :: rest) env))) Q E s := by
  rw [he]
  show wpP P M A (spliced ((false, _) :: _)) Q E s
  rw [spliced]
  refine wpP_bind (wpP_mono h (fun v s₁ h₁ => ?_) fun _ _ x => x)
  simp only [Bool.false_eq_true, if_false]
  exact wpP_bind (wpP_pure (wpP_bind (wpP_holding (wpP_mono h₁ (fun vs s₂ h₂ => wpP_pure h₂) fun _ _ x => x))))
end
end Mine
end

section
open PySem PySem.W PyProof.Rows PySem.Calls
open Sem (wp)
set_option Elab.async false
set_option maxRecDepth 100000
namespace Mine
section
variable {α β : Type} {P : Ctx → Prop} {M : Model} {A : Around} {E : Value → Shared → Prop} {s : Shared} {env : Env}
theorem wpP_keep {vs : List Value} {m : Sem α} {Q : α → Shared → Prop} (h : wpP P M A m Q E s) : wpP P M A (m.keep vs) Q E s := fun Γ p hΓ hP => by
  rw [Sem.wp_keep]; exact h Γ p hΓ hP
theorem wpP_evalArgs {f : Value} {x : Sem Value} {rest : List (Bool × Sem Value)} {Q : Args → Shared → Prop}
    (h : wpP P M A (spliced ((false, x) :: rest)) (fun vs s' => Q ⟨vs, []⟩ s') E s) : wpP P M A (evalArgs f true ((false, x) :: rest) []) Q E s := by
  unfold evalArgs
  show wpP P M A (spliced ((false, x) :: rest) >>= _) Q E s
  refine wpP_bind (wpP_mono h (fun vs s' h' => ?_) fun _ _ x => x)
  refine wpP_holding ?_
  exact wpP_bind (wpP_pure (wpP_bind (wpP_pure (wpP_pure h'))))
theorem wpP_callWith_function {pos : Pos} {a : Addr} {o : Obj} {fd : FuncData} {first : List Value} {args : List (Bool × Sem Value)} {Q : Value → Shared → Prop}
    (h : wpP P M A (evalArgs (.ref a) true args []) (fun x s₁ => (s₁.heap.get? a = some o ∧ o.data = .func fd) ∧ wpP P M A (call (.ref a) (first ++ x.pos) x.kw) Q E s₁) E s) :
    wpP P M A (callWith pos (.ref a) first args []) Q E s := by
  unfold callWith
  refine wpP_bind (wpP_holding (wpP_mono h (fun x s₁ h₁ => wpP_bind (wpP_standAt ?_)) fun _ _ x => x))
  have tail : ∀ {t : Sem Value}, wpP P M A t Q E s₁ → wpP P M A (t >>= fun r => holding [r] point >>= fun _ => pure r) Q E s₁ :=
    fun ht => wpP_bind (wpP_mono ht (fun r s₂ hr => wpP_of (wpAny_bind (wpAny_holding (wpAny_point (wpAny_pure hr))))) fun _ _ x => x)
  cases hs : args.any (·.1) <;> simp only [List.any_nil, Bool.or_false] <;>
    refine wpP_bind (m := keeperOf (.ref a)) (wpP_of ?_) <;> unfold keeperOf <;>
    refine wpAny_bind (wpAny_load h₁.1.1 ?_) <;> rw [h₁.1.2] <;> refine wpAny_pure ?_
  all_goals (repeat' split)
  all_goals first
    | exact tail h₁.2
    | (refine tail ?_; unfold callMarked; exact wpP_keep h₁.2)
theorem wpP_IfExp {test body orelse : Expr} {pos : Pos} {Q : Value → Shared → Prop}
    (h : wpP P M A (isTrue test env (eval test env)) (fun b s₁ => if b then wpP P M A (eval body env) Q E s₁ else wpP P M A (eval orelse env) Q E s₁) E s) :
    wpP P M A (eval (.IfExp test body orelse pos) env) Q E s := by
  rw [arm_eval_IfExp]
  refine wpP_bind (wpP_mono h (fun b s₁ h₁ => ?_) fun _ _ x => x)
  cases b <;> exact h₁
end
section
variable {P : Ctx → Prop} {w : World} {A : Around} {E : Value → Shared → Prop} {s : Shared} {env : Env} {R : Result → Shared → Prop}
theorem codeP_func (K : Pk P) {body : List Stmt} {env : Env}
    (h : wpP P (model pr w) (A.deeper env) (execs body env) (fun f s' => R (.ok (.ret (match f with | .ret v => v | _ => .none))) s')
      (fun e s' => wpAny (model pr w) (A.deeper env) (leaving env e) (fun _ s'' => R (.error e) s'') (fun e' s'' => R (.error e') s'') s') s) :
    codeP P (model pr w) A (.func body env) R s := by
  refine codeP_of_tree K ?_
  show wpP P _ (A.deeper env) (do point; match ← (execs body env).onRaise (leaving env) with | .ret v => ret v | _ => ret .none) _ _ s
  refine wpP_bind (wpP_of (wpAny_point (wpP_bind (wpP_onRaise (wpP_mono h (fun f s' h' => ?_) fun _ _ h' => wpP_of h')))))
  cases f <;> exact wpP_pure h'
theorem codeP_call_function (K : Pk P) {a : Addr} {args : Args} {o : Obj} {fd : FuncData} {body : List Stmt} (hroom : A.depth < recursionLimit)
    (ho : s.heap.get? a = some o)
    (hd' : o.data = .func fd) (hco : fd.scope.isCoroutine = false) (hgen : fd.scope.isGenerator = false) (hbody : fd.body = .stmts body) (hcd : s.heap.CodeRec fd.code fd.qualname)
    (h : wpAny (model pr w) A.in1 (bindArgs fd args) (fun binds s₁ =>
      wpAny (model pr w) A.in1 (newFunctionEnv fd.scope fd.globals fd.closure binds (fd.qualname ++ ".<locals>.") (some a) fd.code none fd.builtins)
        (fun env s₂ => s₂.heap.NoLimit ∧ codeP P (model pr w) A (.func body env) R s₂) (fun e s' => R (.error e) s') s₁) (fun e s' => R (.error e) s') s) :
    codeP P (model pr w) A (.call (.ref a) args) R s := by
  refine codeP_of_tree K (wpP_of ?_)
  show wpAny _ A.in1 (callAny (.ref a) args) _ _ s
  simp only [callAny]
  refine wpAny_bind (wpAny_load ho ?_)
  obtain ⟨c, oc, vs, tq, hc, hoc, hdc, hq⟩ := hcd
  simp only [hd', callFunction, hco, hgen, hbody, hc]
  rw [hc] at h
  refine wpAny_bind (m := field (.ref c) 1) (wpAny_field hoc hdc hq (wpAny_bind (wpAny_pure ?_)))
  exact wpAny_bind (wpAny_mono h (fun binds s₁ h₁ => wpAny_bind (wpAny_mono h₁ (fun env s₂ h₂ => wpAny_bind (wpAny_enterFrame h₂.1 hroom
    (wpAny_pure (And.intro ⟨rfl, rfl⟩ h₂.2)))) fun _ _ h' => h')) fun _ _ h' => h')
/-- a call of one of the text's defs, entered -/
theorem enterP (K : Pk P) {mean mg mb} {Q : Value → Shared → Prop} {x : Str} {d : DefRec} {f : Addr} {vals : List Value} {binds : List (Str × Value)}
   (T : TopQ mean mg mb s.heap) (hfind : (recsOf q).find? (fun e => e.name == x) = some d) (hmg : mg x = some (.ref f)) (hroom : A.depth < recursionLimit)
   (hbind : ∀ pm cd doc, bindArgs (docDef d.name d.params d.body d.scope pm cd doc) ⟨vals, []⟩ = pure binds)
   (hloc : ∀ y ∈ binds.map (·.1), d.scope.names.lookup y = some .local)
   (h : ∀ h₁ cd, Fr s.heap s.heap.objs.size h₁ (fun x => binds.reverse.lookup x) →
      wpP P (model pr w) (A.deeper (envOf d.name d.scope s.heap.objs.size f cd)) (execs d.body (envOf d.name d.scope s.heap.objs.size f cd))
        (fun fl s' => Q (match fl with | .ret v => v | _ => .none) s')
        (fun e s' => wpAny (model pr w) (A.deeper (envOf d.name d.scope s.heap.objs.size f cd)) (leaving (envOf d.name d.scope s.heap.objs.size f cd) e)
          (fun _ s'' => E e s'') (fun e' s'' => E e' s'') s')
        { s with heap := h₁, toks := s.toks + binds.length })
   (hp : (d.scope.isCoroutine, d.scope.isGenerator, d.scope.kind) = (false, false, .function) := by rfl)
   (hcell : ∀ x ∈ d.scope.names, x.2 ≠ .cell := by decide) :
   wpP P (model pr w) A (call (.ref f) vals) Q E s := by
  obtain ⟨o, pm, code, doc, ho, hda, hcd⟩ := fn_at T hfind hmg
  have h1 : d.scope.isCoroutine = false := congrArg Prod.fst hp
  have h2 : d.scope.isGenerator = false := congrArg (fun x => x.2.1) hp
  have h3 : d.scope.kind = .function := congrArg (fun x => x.2.2) hp
  refine wpP_call K (codeP_call_function K hroom ho hda h1 h2 rfl hcd ?_)
  rw [hbind pm code doc]
  refine wpAny_pure (wpAny_newFunctionEnv hcell (fun y hy => hloc _ (List.mem_map_of_mem hy)) (fun h₁ hns hsb => ⟨T.nolimit.fresh _ hsb, ?_⟩) h3)
  show codeP P _ _ (.func d.body (envOf d.name d.scope s.heap.objs.size f code)) _ _
  exact codeP_func K (h h₁ code ⟨hns, fun b o e => hsb.extBut b o (Nat.ne_of_lt (Heap.lt_size e)) (Heap.get?_push_of_some _ e), Nat.le_refl _⟩)
theorem call_defP {mean mg mb} {Q : Value → Shared → Prop} {x : Str} {px pos : Pos} {e : Expr} {rest : List Expr} {d : DefRec} (T : TopQ mean mg mb s.heap) (hfind : (recsOf q).find? (fun e => e.name == x) = some d)
    (h : ∀ f, mg x = some (.ref f) → wpP P (model pr w) A (spliced (backTo pos (starEach (e :: rest) env))) (fun vs s₁ => Kp s.heap s₁.heap ∧ wpP P (model pr w) A (call (.ref f) vs) Q E s₁) E s)
    (he : starEach (e :: rest) env = (false, eval e env) :: starEach rest env := by rfl)
    (hgl : env.globals = mainGlobals := by rfl) (hk : env.scope.kind = .function := by rfl) (hx : env.kindOf x = some .globalImplicit := by rfl) (hd : (x == ("__debug__" : Str)) = false := by decide)
    (hc : eval (.Call (.Name x px) (e :: rest) [] pos) env = (do callWith pos (← eval (.Name x px) env) [] (backTo pos (starEach (e :: rest) env)) (backToKw pos (keywordEach [] env))) := by rfl) :
    wpP P (model pr w) A (eval (.Call (.Name x px) (e :: rest) [] pos) env) Q E s := by
  obtain ⟨f, hf⟩ := fn_addr T hfind
  obtain ⟨o, pm, code, doc, ho, hda, hcd⟩ := fn_at T hfind hf
  rw [hc]
  refine wpP_bind (wpP_of (nm_glob T.g hf ?_ hgl hk hx hd))
  have hh := h f hf
  rw [he] at hh ⊢
  exact wpP_callWith_function (o := o) (wpP_evalArgs (wpP_mono hh (fun vs s₁ h₁ => ⟨⟨h₁.1 _ _ ho, hda⟩, h₁.2⟩) fun _ _ x => x))
theorem codeP_block (K : Pk P) {stmts : List Stmt}
    (h : wpP P (model pr w) A (execs stmts env) (fun f s' => R (.ok f) s') (notedBy (model pr w) A env fun e s' => R (.error e) s') s) : codeP P (model pr w) A (.block stmts env) R s := by
  refine codeP_of_tree K ?_
  show wpP P _ _ (do return Fin.done (← (execs stmts env).onRaise (fun x => do noteFrame x env; theTreesLotGoes x))) _ _ s
  exact wpP_bind (wpP_noted (wpP_mono h (fun f s' h' => wpP_pure h') fun _ _ h' => h'))
theorem codeP_forLoop (K : Pk P) {target it body orelse env} (I : Nat → Shared → Prop)
    (turn : ∀ n s, I n s → wpP P (model pr w) A (pyNext it) (fun r s₁ => match r with
      | none => wpP P (model pr w) A (execs orelse env) (fun f s₃ => R (.ok f) s₃) (notedBy (model pr w) A env fun e s' => R (.error e) s') s₁
      | some v => wpP P (model pr w) A (letOwnedTupleGo target it v) (fun _ s₂ => wpP P (model pr w) A (assign target env v) (fun _ s₂ => wpP P (model pr w) A (execs body env) (fun f s₃ => match f with
          | .next | .cont => ∃ m, m < n ∧ I m s₃
          | .brk => R (.ok .next) s₃
          | .ret v => R (.ok (.ret v)) s₃) (notedBy (model pr w) A env fun e s' => R (.error e) s') s₂) (notedBy (model pr w) A env fun e s' => R (.error e) s') s₂) (notedBy (model pr w) A env fun e s' => R (.error e) s') s₁) (notedBy (model pr w) A env fun e s' => R (.error e) s') s)
    (n : Nat) (h : I n s) : codeP P (model pr w) A (.forLoop target it body orelse env) R s := by
  refine codeP_loop K rfl rfl I (fun n s hI => ?_) n h
  show wpP P _ _ ((forTurn target it body orelse env).onRaise (fun x => do noteFrame x env; theTreesLotGoes x)) _ _ s
  refine wpP_noted ?_
  simp only [forTurn]
  refine wpP_bind (wpP_standAt (wpP_bind (wpP_onRaise (wpP_mono (turn n s hI) (fun r s₁ h₁ => ?_) fun _ _ h' => wpP_standAt h'))))
  cases r with
  | none => exact wpP_pure (.inr ⟨⟨rfl, rfl⟩, codeP_block K h₁⟩)
  | some v =>
    refine wpP_bind (wpP_mono h₁ (fun _ s₂ h₂ => ?_) fun _ _ h' => h')
    refine wpP_bind (wpP_mono h₂ (fun _ s₂ h₂ => wpP_bind (wpP_mono h₂ (fun f s₃ h₃ => ?_) fun _ _ h' => h')) fun _ _ h' => h')
    cases f with
    | next => exact wpP_pure (.inl ⟨rfl, h₃⟩)
    | cont => exact wpP_pure (.inl ⟨rfl, h₃⟩)
    | brk => exact wpP_pure h₃
    | ret v => exact wpP_pure h₃
theorem codeP_whileLoop (K : Pk P) {test body orelse env} (I : Nat → Shared → Prop)
    (turn : ∀ n s, I n s →
      wpP P (model pr w) A (isTrue test env (eval test env)) (fun b s₂ =>
        if b then wpP P (model pr w) A (execs body env) (fun f s₃ => match f with
            | .next | .cont => ∃ m, m < n ∧ I m s₃
            | .brk => R (.ok .next) s₃
            | .ret v => R (.ok (.ret v)) s₃) (notedBy (model pr w) A env fun e s' => R (.error e) s') s₂
        else wpP P (model pr w) A (execs orelse env) (fun f s₃ => R (.ok f) s₃) (notedBy (model pr w) A env fun e s' => R (.error e) s') s₂)
        (notedBy (model pr w) A env fun e s' => R (.error e) s') s)
    (n : Nat) (h : I n s) : codeP P (model pr w) A (.whileLoop test body orelse env) R s := by
  refine codeP_loop K rfl rfl I (fun n s hI => ?_) n h
  show wpP P _ A ((whileTurn test body orelse env).onRaise (fun x => do noteFrame x env; theTreesLotGoes x)) _ _ s
  refine wpP_noted ?_
  simp only [whileTurn]
  refine wpP_bind (wpP_mono (turn n s hI) (fun b s₂ h₂ => ?_) fun _ _ h' => h')
  cases b with
  | false =>
    simp only [Bool.false_eq_true, if_false] at h₂ ⊢
    exact wpP_bind (wpP_mono h₂ (fun f s₃ h₃ => wpP_pure h₃) fun _ _ h' => h')
  | true =>
    simp only [if_true] at h₂ ⊢
    refine wpP_bind (wpP_mono h₂ (fun f s₃ h₃ => ?_) fun _ _ h' => h')
    cases f with
    | next => exact wpP_pure (.inl ⟨rfl, h₃⟩)
    | cont => exact wpP_pure (.inl ⟨rfl, h₃⟩)
    | brk => exact wpP_pure h₃
    | ret v => exact wpP_pure h₃
theorem wpP_Try_except {body orelse : List Stmt} {h₀ : ExceptHandler} {hs : List ExceptHandler} {pos : Pos} {Q : Flow → Shared → Prop}
    (h : wpP P (model pr w) A (execs body env) (fun f s₁ => match f with | .next => wpP P (model pr w) A (execs orelse env) Q E s₁ | f => Q f s₁)
      (fun e s₁ => wpAny (model pr w) A (noteFrame e env) (fun _ s₂ => wpAny (model pr w) A (setFlight e none) (fun _ s₃ => wpAny (model pr w) A (handleBy e env (h₀ :: hs)) Q E s₃) E s₂) E s₁) s) :
    wpP P (model pr w) A (exec (.Try body (h₀ :: hs) orelse [] pos) env) Q E s := by
  rw [arm_exec_Try]
  refine wpP_bind (wpP_standAt ?_)
  unfold tryStmt
  simp only [List.isEmpty_nil, if_true, List.isEmpty_cons, Bool.false_and, Bool.false_eq_true, if_false]
  refine wpP_bind (wpP_attempt (wpP_mono h (fun f s₁ h₁ => ?_) fun e s₁ h₁ => ?_))
  · cases f <;> first | exact h₁ | exact wpP_pure h₁
  · exact wpP_of (wpAny_bind (wpAny_mono h₁ (fun _ _ h₂ => wpAny_bind h₂) fun _ _ x => x))
end
end Mine
end

section
open PySem PySem.W PyProof.Rows PySem.Calls
open Sem (wp)
set_option Elab.async false
set_option maxRecDepth 100000
namespace Mine
theorem ba_mro : mroOf (.type "bytearray") = pure [.type "bytearray", .type "object"] := by rw [mroOf_type]; kernel_rfl
theorem ba_lookup_new : typeLookup (.type "bytearray") "__new__" = pure (some (.builtin "bytearray.__new__")) := by rw [typeLookup_type, builtinLookup_eq_fast]; kernel_rfl
theorem ba_slot_init : Slot "bytearray" "__init__" "bytearray.__init__" :=
  .of (owner := "bytearray") (n := "__init__") (by rw [typeLookup_type, builtinLookup_eq_fast]; kernel_rfl) (by decide +kernel) (by decide +kernel) (by decide +kernel)
    (by first | exact .inl (by decide +kernel) | exact .inr (by decide +kernel)) (by rw [isSubtype_type]; kernel_rfl)
theorem ba_called : TypeCalled "bytearray" "bytearray.__new__" "bytearray.__init__" :=
  ⟨by decide +kernel, by decide +kernel, ⟨_, _, ba_mro⟩, madeBy_type ba_mro ba_lookup_new (by decide +kernel), by decide +kernel, by rw [isSubtype_type]; kernel_rfl, ba_slot_init⟩
theorem ba_typeCall (a : Value) : checkTypeCall "bytearray" ⟨[a], []⟩ = pure () := by kernel_rfl
theorem ba_newCall (a : Value) : checkBuiltinCall "bytearray.__new__" ⟨[.type "bytearray", a], []⟩ = pure () := by kernel_rfl
theorem ba_entry_new : entryFor table "bytearray.__new__" = some Builtin.«list.__new__» :=
  entryFor_alias (id' := "list.__new__") (by rw [fastTable_eq_tree]; kernel_rfl) (by decide +kernel) (by decide +kernel) (by rw [fastTable_eq_tree]; kernel_rfl)
theorem ba_plain_new : plainId "bytearray.__new__" = true := by decide +kernel
theorem ba_entry_init : entryFor table "bytearray.__init__" = some Builtin.«bytearray.__init__» := by first | exact entryFor_of_tree (by kernel_rfl) | exact entryFor_of_fast (by kernel_rfl)
theorem ba_args_init (a b : Value) : argsOk "bytearray.__init__" ⟨[a, b], []⟩ := by
  unfold argsOk; kernel_rfl
theorem ba_lookup_release : typeLookup (.type "bytearray") "__release_buffer__" = pure (some (.builtin "bytearray.__release_buffer__")) := by rw [typeLookup_type, builtinLookup_eq_fast]; kernel_rfl
theorem ba_sub : isSubtype (.type "bytearray") (.type "bytearray") = pure true := by rw [isSubtype_type]; kernel_rfl
theorem ba_bind (v : Value) : Builtin.Bytes.bindOptional "bytearray.__init__" "bytearray" ["source", "encoding", "errors"] [v] [] = pure [some v, none, none] := by kernel_rfl
set_option maxRecDepth 1000000 in
set_option maxHeartbeats 4000000 in
theorem ba_owner : ("bytearray.__new__".splitOn ".__new__").headD "" = "bytearray" := by simp +decide [String.splitOn, String.splitOnAux]
set_option maxHeartbeats 4000000 in
theorem code_ba_new {w : World} {A : Around} {E : Value → Shared → Prop} {s : Shared} (a : Value) {Q₁ : Value → Shared → Prop}
    (h : Q₁ (.ref s.heap.objs.size) { s with heap := s.heap.push { cls := .type "bytearray", data := .bytearray #[] } }) :
    codeAny (model pr w) A (.call (.builtin "bytearray.__new__") ⟨[.type "bytearray", a], []⟩) (wants Q₁ E) s := by
  refine codeAny_of_tree ?_
  show wpAny _ A.in1 (do checkBuiltinCall "bytearray.__new__" ⟨[.type "bytearray", a], []⟩; again (.builtin "bytearray.__new__" ⟨[.type "bytearray", a], []⟩)) _ _ s
  refine wpAny_bind (wpAny_of_eq (ba_newCall a) (wpAny_pure ⟨plainId_quiet ba_plain_new _, codeAny_builtin_stack ba_entry_new rfl fun p st => ?_⟩))
  rw [Around.under_plainId ba_plain_new _]
  have hsub := ba_sub
  have hown := ba_owner
  obtain ⟨hp, g, d, tk, os⟩ := s
  simp only [hown]
  wp_walk
  exact h
end Mine
end

section
open PySem PySem.W PyProof.Rows PySem.Calls
open Sem (wp)
set_option Elab.async false
set_option maxRecDepth 100000
namespace Mine
section
variable {w : World} {A : Around} {E : Value → Shared → Prop} {s : Shared}
theorem ba_ends1 : "bytearray.__release_buffer__".endsWith ("." ++ "__release_buffer__") = true := by decide +kernel
theorem ba_ends2 : "bytearray.__release_buffer__".dropRight ("__release_buffer__".length + 1) = "bytearray" := by decide +kernel
theorem stackAny_clean {f : Code × Pos → Bool} {Q : Bool → Shared → Prop} (hf : ∀ c p, holdCode c = false → f (c, p) = false) (h : Q false s) :
    wpP Clean (model pr w) A (do return (← stack).any f) Q E s := fun Γ p _ hC => by
  show Q (((Γ.code, p) :: Γ.below).any f) s
  have : ((Γ.code, p) :: Γ.below).any f = false := by
    rw [List.any_eq_false]
    intro x hx
    obtain ⟨c, p'⟩ := x
    rw [hf c p']
    · exact Bool.false_ne_true
    · rcases List.mem_cons.mp hx with e | hx
      · cases e; exact hC.1
      · exact hC.2 _ hx
  rw [this]; exact h
theorem exported_clean {v : Value} {Q : Bool → Shared → Prop} (h : Q false s) : wpP Clean (model pr w) A (Builtin.Bytes.exported v) Q E s := by
  unfold Builtin.Bytes.exported
  refine stackAny_clean (fun c p hc => ?_) h
  unfold holdCode at hc
  split at hc
  · rename_i id args
    simp only [List.contains_eq_mem, List.mem_append, List.mem_cons, List.not_mem_nil, or_false, decide_eq_false_iff_not, not_or] at hc
    obtain ⟨⟨h1, h2, h3, h4, h5⟩, h6⟩ := hc
    split <;> simp_all
  · split <;> simp_all
theorem wpP_bm_false {α : Type} {P : Ctx → Prop} {M : Model} {c : Bool} {a b : Sem α} {Q : α → Shared → Prop} (hc : c = false) (h : wpP P M A b Q E s) : wpP P M A (if c = true then a else b) Q E s := by
  subst hc
  exact h
theorem wpP_bm_true {α : Type} {P : Ctx → Prop} {M : Model} {c : Bool} {a b : Sem α} {Q : α → Shared → Prop} (hc : c = true) (h : wpP P M A a Q E s) : wpP P M A (if c = true then a else b) Q E s := by
  subst hc
  exact h
theorem ba_write {a : Addr} {b : Array UInt8} {f : Array UInt8 → Array UInt8} {Q : Unit → Shared → Prop} (ho : s.heap.get? a = some { cls := .type "bytearray", data := .bytearray b }) (hz : (f b).size ≤ sizeLine)
    (h : ∀ h', h'.get? a = some { cls := .type "bytearray", data := .bytearray (f b) } → Heap.SameBut a s.heap h' → Q () { s with heap := h' }) : wpAny (model pr w) A (Builtin.Bytes.write (.ref a) f) Q E s := by
  show wpAny _ _ (updateBytearray a f) _ _ _
  unfold updateBytearray
  refine wpAny_bind (wpAny_load ho ?_)
  show wpAny _ _ (update a (Obj.mapBytearray f) >>= fun _ => lookBehind a) _ _ _
  refine wpAny_bind (wpAny_update ho ?_)
  have h2 : (s.heap.update a (Obj.mapBytearray f)).get? a = some { cls := .type "bytearray", data := .bytearray (f b) } := Heap.get?_update_self (Obj.mapBytearray f) ho rfl
  refine wpAny_lookBehind h2 ?_ (h _ h2 (Heap.SameBut.update ..))
  show (if (f b).size > sizeLine then some "bytearray:memory" else none) = none
  rw [if_neg (Nat.not_lt.mpr hz)]
theorem ba_payload {a : Addr} {b : Array UInt8} {n : Nat} {Q : Array UInt8 → Shared → Prop} (ho : s.heap.get? a = some { cls := .type "bytearray", data := .bytearray b n }) (h : Q b s) : wpAny (model pr w) A (Builtin.Bytes.payload (.ref a)) Q E s := by
  unfold Builtin.Bytes.payload Builtin.Bytes.payload?
  exact wpAny_bind (wpAny_bind (wpAny_load ho (wpAny_pure (wpAny_pure h))))
theorem asStr_int (i : Int) (t : Tok) : asStr? (.int i t) = pure none := by first | rfl | kernel_rfl
theorem asIndex_int (i : Int) (t : Tok) : asIndex (.int i t) = pure i := by first | rfl | kernel_rfl
theorem attempt_pure' {α : Type} (a : α) : (pure a : Sem α).attempt = pure (.ok a) := rfl
theorem special_int_index (i : Int) (t : Tok) : specialOf (.int i t) "__index__" = pure (some (.builtin "int.__index__")) := by
  show typeLookup (.type "int") "__index__" = _
  rw [typeLookup_type, builtinLookup_eq_fast]; kernel_rfl
theorem int_index : typeLookup (.type "int") "__index__" = pure (some (.builtin "int.__index__")) := by rw [typeLookup_type, builtinLookup_eq_fast]; kernel_rfl
set_option maxHeartbeats 1000000 in
theorem ba_init {a : Addr} {n : Nat} {t : Tok} {Q : Fin → Shared → Prop} (ho : s.heap.get? a = some { cls := .type "bytearray", data := .bytearray #[] }) (hn : n ≤ sizeLine)
    (h : ∀ h', h'.get? a = some { cls := .type "bytearray", data := .bytearray (Array.replicate n 0) } → Heap.SameBut a s.heap h' → Q (.done (.ret .none)) { s with heap := h' }) :
    wpP Clean (model pr w) A (Builtin.«bytearray.__init__» ⟨[.ref a, .int n t], []⟩) Q E s := by
  have hT : s.TypeIs (.ref a) "bytearray" := ⟨_, ho, rfl⟩
  unfold Builtin.«bytearray.__init__»
  refine wpP_bind (wpP_of ?_)
  unfold Builtin.Bytes.ownRelease Builtin.Bytes.slotIsOwn
  refine wpAny_bind (wpAny_bind (wpAny_specialOf hT ba_lookup_release ?_))
  dsimp only
  rw [ba_ends1, ba_ends2]
  refine bm_if_false rfl ?_
  refine wpAny_isInstance hT ba_sub (wpAny_pure ?_)
  refine wpP_bm_false rfl ?_
  refine wpP_bind (wpP_of (wpAny_of_eq (ba_bind _) ?_))
  refine wpP_bind (wpP_of (wpAny_of_eq (a := ()) rfl ?_))
  refine wpP_bind (wpP_of (wpAny_of_eq (a := ()) rfl ?_))
  refine wpP_bind ?_
  unfold orM
  refine wpP_bind (exported_clean ?_)
  show wpP Clean _ _ (Builtin.Bytes.exportsOf (.ref a) >>= fun n => pure (decide (n > 0))) _ _ _
  unfold Builtin.Bytes.exportsOf
  refine wpP_of (wpAny_bind (wpAny_bind (wpAny_load ho (wpAny_pure (wpAny_pure ?_)))))
  refine wpP_bm_false rfl ?_
  refine wpP_bind (wpP_of (ba_write ho (Nat.zero_le _) fun h₁ h1 hs1 => ?_))
  refine wpP_of ?_
  simp only [asStr_int, asIndex_int, pure_bind, Option.isSome_none, Bool.false_eq_true, if_false]
  have hn' : n ≤ 16777216 := by rw [sizeLine_eq] at hn; exact hn
  have e1 : Builtin.Bytes.fitsIndex (n : Int) = true := by
    unfold Builtin.Bytes.fitsIndex
    simp only [Bool.and_eq_true, decide_eq_true_eq]
    omega
  have e2 : ¬ ((n : Int) < 0) := by omega
  have e3 : ((n : Int) == 2 ^ 63 - 1) = false := by
    rw [beq_eq_false_iff_ne]; omega
  have e4 : Builtin.Bytes.tooLong (n : Int).toNat = false := by
    unfold Builtin.Bytes.tooLong
    simp only [Int.toNat_natCast, decide_eq_false_iff_not]
    omega
  simp only [special_int_index, Option.isSome_some, if_true, attempt_pure', pure_bind, e1, e2, e3, e4, Bool.not_true, Bool.false_eq_true, if_false]
  refine wpAny_bind (wpAny_rule ?_)
  by_cases h0 : (n : Int) > 0
  · rw [if_pos h0]
    refine wpAny_bind (ba_write h1 (by rw [Array.size_replicate]; simpa using hn) fun h₂ h2 hs2 => wpAny_pure ?_)
    rw [Int.toNat_natCast] at h2
    exact h h₂ h2 (hs1.trans hs2)
  · rw [if_neg h0]
    have : n = 0 := by omega
    subst this
    exact wpAny_pure (h h₁ h1 hs1)
theorem codeP_builtin {P : Ctx → Prop} (K : Pk P) {R : Result → Shared → Prop} {id : String} {args : Args} {b : Builtin} (hb : entryFor table id = some b)
    (h : wpP P (model pr w) (A.under (.builtin id args)) (b args)
      (fun fin s' => match fin with | .done f => R (.ok f) s' | .again c' => (c'.quiet = true ∧ holdCode c' = false) ∧ codeP P (model pr w) A c' R s') (fun e s' => R (.error e) s') s) :
    codeP P (model pr w) A (.builtin id args) R s := by
  refine codeP_of_tree K ?_
  show wpP P _ _ (match entryFor table id with | some b => b args | none => unsupported ((withoutEnding? id "#data").getD id)) _ _ s
  rw [hb]; exact h
theorem hold_id {id : String} {args : Args} (h : holdCode (.builtin id ⟨[], []⟩) = false) : holdCode (.builtin id args) = false := h
theorem hold_call {args : Args} : holdCode (.builtin "type.__call__" args) = false := hold_id (by decide +kernel)
theorem hold_init {args : Args} : holdCode (.builtin "bytearray.__init__" args) = false := hold_id (by decide +kernel)
set_option maxHeartbeats 1000000 in
theorem call_bytearray {n : Nat} {t : Tok} {Q : Value → Shared → Prop} (hn : n ≤ sizeLine)
    (h : ∀ h', h'.get? s.heap.objs.size = some { cls := .type "bytearray", data := .bytearray (Array.replicate n 0) } → Kp s.heap h' → Q (.ref s.heap.objs.size) { s with heap := h' }) :
    wpP Clean (model pr w) A (call (.type "bytearray") [.int n t]) Q E s := by
  refine wpP_call Pk.clean (codeP_of_tree Pk.clean ?_)
  show wpP Clean _ _ (callAny (.type "bytearray") _) _ _ _
  refine wpP_pure ⟨⟨Code.quiet_builtin _ (by decide +kernel), hold_call⟩, codeP_builtin Pk.clean F.entry_type_call ?_⟩
  rw [Around.under_plain (weight_type_call_type "bytearray" [.int n t] []) rfl]
  obtain ⟨c, tl, hmro⟩ := ba_called.mro
  unfold Builtin.«type.__call__»
  simp only [ba_called.notType, ba_called.canCreate, ba_typeCall, hmro, ba_called.made, pure_bind, Bool.false_eq_true, if_false, List.isEmpty_cons]
  refine wpP_bind (wpP_holding (wpP_of (wpAny_call (code_ba_new _ ?_))))
  have h0 : (s.heap.push { cls := .type "bytearray", data := .bytearray #[] }).get? s.heap.objs.size = some { cls := .type "bytearray", data := .bytearray #[] } := Heap.get?_push_size _ rfl
  have hT : ({ s with heap := s.heap.push { cls := .type "bytearray", data := .bytearray #[] } } : Shared).TypeIs (.ref s.heap.objs.size) "bytearray" := ⟨_, h0, rfl⟩
  refine wpP_bind (wpP_of (wpAny_isInstance hT ba_sub ?_))
  refine wpP_bm_false rfl ?_
  refine wpP_bind (wpP_holding ?_)
  unfold callSpecial?
  refine wpP_bind (wpP_of (wpAny_specialOf hT ba_slot_init.lookup ?_))
  refine wpP_holding ?_
  refine wpP_bind (wpP_of (wpAny_of_eq (ba_slot_init.bind _) ?_))
  refine wpP_bind (wpP_call Pk.clean (codeP_of_tree Pk.clean ?_))
  show wpP Clean _ A.in1.in1 (do checkBuiltinCall "bytearray.__init__" ⟨[.ref s.heap.objs.size, .int n t], []⟩; again (.builtin "bytearray.__init__" ⟨[.ref s.heap.objs.size, .int n t], []⟩)) _ _ _
  refine wpP_bind (wpP_of (ba_slot_init.check _ _ _ _ _ _ _ _ hT (ba_args_init _ _) ?_))
  refine wpP_pure ⟨⟨plainId_quiet ba_slot_init.plain _, hold_init⟩, codeP_builtin Pk.clean ba_entry_init ?_⟩
  rw [Around.under_plainId ba_slot_init.plain _]
  refine ba_init h0 hn fun h' h1 hs1 => ?_
  refine wpP_pure ?_
  refine wpP_bm_false rfl ?_
  refine wpP_pure ?_
  exact h h' h1 fun b o e => hs1.extBut b o (Nat.ne_of_lt (Heap.lt_size e)) (Heap.get?_push_of_some _ e)
end
end Mine
end

section
open PySem PySem.W PyProof.Rows PySem.Calls
open Sem (wp)
set_option Elab.async false
set_option maxRecDepth 100000
namespace Mine
theorem ba_slot_set : Slot "bytearray" "__setitem__" "bytearray.__setitem__" :=
  .of (owner := "bytearray") (n := "__setitem__") (by rw [typeLookup_type, builtinLookup_eq_fast]; kernel_rfl) (by decide +kernel) (by decide +kernel) (by decide +kernel)
    (by first | exact .inl (by decide +kernel) | exact .inr (by decide +kernel)) (by rw [isSubtype_type]; kernel_rfl)
theorem ba_entry_set : entryFor table "bytearray.__setitem__" = some Builtin.«bytearray.__setitem__» := by first | exact entryFor_of_tree (by kernel_rfl) | exact entryFor_of_fast (by kernel_rfl)
theorem ba_args_set (a b c : Value) : argsOk "bytearray.__setitem__" ⟨[a, b, c], []⟩ := by
  unfold argsOk; kernel_rfl
section
variable {w : World} {A : Around} {E : Value → Shared → Prop} {s : Shared}
theorem fits_nat {k : Nat} (h : k ≤ 16777216) : Builtin.Bytes.fitsIndex (k : Int) = true := by
  unfold Builtin.Bytes.fitsIndex
  simp only [Bool.and_eq_true, decide_eq_true_eq]
  omega
theorem subscript_nat {k : Nat} {t : Tok} (h : k ≤ 16777216) : Builtin.Bytes.subscript? (.int k t) = pure (some (k : Int)) := by
  unfold Builtin.Bytes.subscript?
  simp only [special_int_index, pure_bind, Option.isNone_some, Bool.false_eq_true, if_false, asIndex_int, fits_nat h, Bool.not_true]
theorem byteValue_nat {v : Nat} {t : Tok} (h : v < 256) : Builtin.Bytes.byteValue (.int v t) = pure (v.toUInt8) := by
  unfold Builtin.Bytes.byteValue
  have e : (decide ((v : Int) < 0) || decide ((v : Int) ≥ 256)) = false := by
    simp only [Bool.or_eq_false_iff, decide_eq_false_iff_not]; omega
  simp only [asIndex_int, pure_bind, e, Bool.false_eq_true, if_false, Int.toNat_natCast]
set_option maxHeartbeats 1000000 in
theorem ba_setItem {a : Addr} {b : Array UInt8} {k v : Nat} {t tv : Tok} {Q : Unit → Shared → Prop} (ho : s.heap.get? a = some { cls := .type "bytearray", data := .bytearray b }) (hk : k < b.size) (hb : b.size ≤ sizeLine) (hv : v < 256)
    (h : ∀ h', h'.get? a = some { cls := .type "bytearray", data := .bytearray (b.setIfInBounds k v.toUInt8) } → Heap.SameBut a s.heap h' → Q () { s with heap := h' }) :
    wpAny (model pr w) A (setItem (.ref a) (.int k t) (.int v tv)) Q E s := by
  have hT : s.TypeIs (.ref a) "bytearray" := ⟨_, ho, rfl⟩
  have hk' : k ≤ 16777216 := by rw [sizeLine_eq] at hb; omega
  unfold setItem
  try with_reducible refine wpAny_holding ?_
  first | refine wpAny_bind (wpAny_pure ?_) | skip
  refine wpAny_bind (wpAny_sequenceKey hT (by decide) ?_)
  refine wpAny_bind (wpAny_callSpecial?_slot (name := Str.ofString "__setitem__") hT ba_slot_set
    (wpAny_call_entry ba_slot_set hT ba_entry_set ?_ (ba_args_set _ _ _)))
  unfold Builtin.«bytearray.__setitem__»
  have e : seqIndex? (k : Int) b.size = some k := by
    unfold seqIndex?
    have : ¬ ((k : Int) < 0) := by omega
    simp only [this, if_false]
    rw [if_pos (by simp only [Bool.and_eq_true, decide_eq_true_eq]; omega)]
    simp
  simp only [List.isEmpty_nil, Bool.not_true, Bool.false_eq_true, if_false, subscript_nat hk', byteValue_nat hv, pure_bind]
  refine wpAny_bind (ba_payload ho ?_)
  simp only [e]
  refine wpAny_bind (ba_write ho (by rw [Array.size_setIfInBounds]; exact hb) fun h' h1 hs1 => ?_)
  exact wpAny_pure ⟨_, rfl, wpAny_pure (h h' h1 hs1)⟩
set_option maxHeartbeats 1000000 in
theorem ba_setItem_out {a : Addr} {b : Array UInt8} {k v : Nat} {t tv : Tok} {Q : Unit → Shared → Prop} (hh : A.handled = none) (ho : s.heap.get? a = some { cls := .type "bytearray", data := .bytearray b }) (hk : b.size ≤ k) (hk' : k ≤ 16777216) (hv : v < 256)
    (h : ∀ h' tk e, Heap.NewExc s.heap h' e "IndexError" → E (.ref e) { s with heap := h', toks := tk }) :
    wpAny (model pr w) A (setItem (.ref a) (.int k t) (.int v tv)) Q E s := by
  have hT : s.TypeIs (.ref a) "bytearray" := ⟨_, ho, rfl⟩
  unfold setItem
  try with_reducible refine wpAny_holding ?_
  first | refine wpAny_bind (wpAny_pure ?_) | skip
  refine wpAny_bind (wpAny_sequenceKey hT (by decide) ?_)
  refine wpAny_bind (wpAny_callSpecial?_slot (name := Str.ofString "__setitem__") hT ba_slot_set
    (wpAny_call_entry ba_slot_set hT ba_entry_set ?_ (ba_args_set _ _ _)))
  unfold Builtin.«bytearray.__setitem__»
  have e : seqIndex? (k : Int) b.size = none := by
    unfold seqIndex?
    have : ¬ ((k : Int) < 0) := by omega
    simp only [this, if_false]
    rw [if_neg (by simp only [Bool.and_eq_true, decide_eq_true_eq]; omega)]
  simp only [List.isEmpty_nil, Bool.not_true, Bool.false_eq_true, if_false, subscript_nat hk', byteValue_nat hv, pure_bind]
  refine wpAny_bind (ba_payload ho ?_)
  simp only [e]
  show wpAny _ _ ((rule "bytearray.subscript.out-of-range" >>= fun _ => raiseErrorWords "IndexError" "bytearray index out of range") >>= _) _ _ _
  refine wpAny_bind (wpAny_bind (wpAny_rule (wpAny_raiseErrorWords plainExc_IndexError hh ?_)))
  exact h
/-- bytes(a bytearray) -/
theorem bb_no_bytes : typeLookup (.type "bytearray") "__bytes__" = pure none := by rw [typeLookup_type, builtinLookup_eq_fast]; kernel_rfl
theorem bb_no_index : typeLookup (.type "bytearray") "__index__" = pure none := by rw [typeLookup_type, builtinLookup_eq_fast]; kernel_rfl
theorem bb_buffer : typeLookup (.type "bytearray") "__buffer__" = pure (some (.builtin "bytearray.__buffer__")) := by rw [typeLookup_type, builtinLookup_eq_fast]; kernel_rfl
theorem bb_ends1 : "bytearray.__buffer__".endsWith ("." ++ "__buffer__") = true := by decide +kernel
theorem bb_ends2 : "bytearray.__buffer__".dropRight ("__buffer__".length + 1) = "bytearray" := by decide +kernel
theorem ba_slotOwn {a : Addr} {Q : Bool → Shared → Prop} (hT : s.TypeIs (.ref a) "bytearray") (h : Q true s) : wpAny (model pr w) A (Builtin.Bytes.slotIsOwn (.ref a) "__buffer__") Q E s := by
  unfold Builtin.Bytes.slotIsOwn
  refine wpAny_bind (wpAny_specialOf hT bb_buffer ?_)
  dsimp only
  rw [bb_ends1, bb_ends2]
  refine bm_if_false rfl ?_
  exact wpAny_isInstance hT ba_sub h
theorem ba_ownRelease {a : Addr} {Q : Bool → Shared → Prop} (hT : s.TypeIs (.ref a) "bytearray") (h : Q false s) : wpAny (model pr w) A (Builtin.Bytes.ownRelease (.ref a)) Q E s := by
  unfold Builtin.Bytes.ownRelease Builtin.Bytes.slotIsOwn
  refine wpAny_bind (wpAny_bind (wpAny_specialOf hT ba_lookup_release ?_))
  dsimp only
  rw [ba_ends1, ba_ends2]
  refine bm_if_false rfl ?_
  exact wpAny_isInstance hT ba_sub (wpAny_pure h)
theorem ba_buffer {a : Addr} {b : Array UInt8} {Q : Option (Array UInt8) → Shared → Prop} (ho : s.heap.get? a = some { cls := .type "bytearray", data := .bytearray b }) (h : Q (some b) s) : wpAny (model pr w) A (Builtin.Bytes.buffer? "bytes.__new__" (.ref a) true) Q E s := by
  have hT : s.TypeIs (.ref a) "bytearray" := ⟨_, ho, rfl⟩
  unfold Builtin.Bytes.buffer?
  refine wpAny_bind (wpAny_specialOf hT bb_buffer ?_)
  refine wpAny_bind (ba_slotOwn hT ?_)
  refine bm_if_false rfl ?_
  refine wpAny_bind (wpAny_specialOf hT bb_buffer ?_)
  refine wpAny_bind (ba_ownRelease hT ?_)
  refine bm_if_false rfl ?_
  exact wpAny_bind (ba_payload ho (wpAny_pure h))
set_option maxHeartbeats 1000000 in
theorem bb_new {a : Addr} {b : Array UInt8} {Q : Value → Shared → Prop} (ho : s.heap.get? a = some { cls := .type "bytearray", data := .bytearray b }) (hb : b.size ≤ sizeLine)
    (hQ : ∀ t k, Q (.bytes b t) { s with toks := k }) :
    codeAny (model pr w) A (.call (.builtin "bytes.__new__") ⟨[.type "bytes", .ref a], []⟩) (wants Q E) s := by
  refine codeAny_of_tree ?_
  show wpAny _ A.in1 (do checkBuiltinCall "bytes.__new__" ⟨[.type "bytes", .ref a], []⟩; again (.builtin "bytes.__new__" ⟨[.type "bytes", .ref a], []⟩)) _ _ s
  refine wpAny_bind (wpAny_of_eq (F.bm_newCall _) (wpAny_pure ⟨plainId_quiet F.bm_plain _, codeAny_builtin F.bm_entry ?_⟩))
  rw [Around.under_plainId F.bm_plain _]
  have hT : s.TypeIs (.ref a) "bytearray" := ⟨_, ho, rfl⟩
  unfold Builtin.«bytes.__new__»
  refine wpAny_bind (wpAny_of_eq (a := true) rfl ?_)
  refine bm_if_false rfl ?_
  refine wpAny_bind (wpAny_of_eq F.bm_sub ?_)
  refine bm_if_false rfl ?_
  refine wpAny_bind (wpAny_of_eq (F.bm_bind _) ?_)
  refine wpAny_bind (wpAny_of_eq (a := ()) rfl ?_)
  refine wpAny_bind (wpAny_of_eq (a := ()) rfl ?_)
  refine bm_if_false rfl ?_
  refine wpAny_bind (wpAny_specialOf hT bb_no_bytes ?_)
  refine wpAny_bind (wpAny_bind ?_)
  show wpAny _ _ (load a >>= _) _ _ _
  refine wpAny_bind (wpAny_load ho ?_)
  refine wpAny_pure (wpAny_pure ?_)
  refine bm_if_false rfl ?_
  refine wpAny_bind (wpAny_specialOf hT bb_no_index ?_)
  refine bm_if_true rfl ?_
  first
    | show wpAny _ _ (Builtin.Bytes.buffer? "bytes.__new__" (.ref a) true >>= _) _ _ _
    | (refine wpAny_bind ?_; show wpAny _ _ (Builtin.Bytes.buffer? "bytes.__new__" (.ref a) true >>= _) _ _ _)
  refine wpAny_bind (ba_buffer ho ?_)
  refine wpAny_bind (wpAny_rule (wpAny_bind (wpAny_mkBytes ?_ hb)))
  show wpAny _ _ (if (Value.type "bytes" == Value.type "bytes") = true then _ else _) _ _ _
  refine bm_if_true (by decide) ?_
  first
    | exact wpAny_pure (hQ _ _)
    | exact wpAny_bind (wpAny_pure (wpAny_pure (hQ _ _)))
theorem call_bytes_ba {a : Addr} {b : Array UInt8} {Q : Value → Shared → Prop} (ho : s.heap.get? a = some { cls := .type "bytearray", data := .bytearray b }) (hb : b.size ≤ sizeLine)
    (hQ : ∀ t k, Q (.bytes b t) { s with toks := k }) : wpAny (model pr w) A (call (.type "bytes") [.ref a]) Q E s := by
  refine callType_codes (Q₁ := fun obj s₁ => s₁.TypeIs obj "bytes" ∧ Q obj s₁) F.bm_called (F.bm_typeCall _) F.entry_object_init
    (bb_new ho hb fun t k => ⟨PySem.W.typeIs_bytes _ _ _, hQ t k⟩) fun obj s₁ h₁ => ?_
  exact ⟨h₁.1, F.args_object_init_2 obj _, object_init_meets F.bm_called.init.lookup F.bm_called.made (by decide) pr w A.in1 _ s₁ ⟨h₁.1, rfl, h₁.2⟩⟩
end
end Mine
end

section
open PySem PySem.W PyProof.Rows PySem.Calls
open Sem (wp)
set_option Elab.async false
set_option maxRecDepth 100000
namespace Mine
/-- every object but those of X stands as it stood -/
def KpX (X : List Addr) (h h' : Heap) : Prop := ∀ b o, b ∉ X → h.get? b = some o → h'.get? b = some o
theorem KpX.refl (X : List Addr) (h : Heap) : KpX X h h := fun _ _ _ e => e
theorem KpX.trans {X : List Addr} {a b c : Heap} (x : KpX X a b) (y : KpX X b c) : KpX X a c := fun i o hi e => y i o hi (x i o hi e)
theorem KpX.mono {X Y : List Addr} {a b : Heap} (x : KpX X a b) (h : ∀ i, i ∈ X → i ∈ Y) : KpX Y a b := fun i o hi e => x i o (fun hx => hi (h i hx)) e
theorem Kp.x {X : List Addr} {a b : Heap} (x : Kp a b) : KpX X a b := fun i o _ e => x i o e
theorem KpX.of_same {a : Addr} {h h' : Heap} (x : Heap.SameBut a h h') : KpX [a] h h' := fun b o hb e => x.extBut b o (fun q => hb (List.mem_singleton.mpr q)) e
theorem KpX.ns {X : List Addr} {h h' : Heap} {L : Addr} {m : Str → Option Value} (x : KpX X h h') (hL : L ∉ X) (hn : h.Ns L m) : h'.Ns L m := hn.at' fun o e => x L o hL e
/-- what an exception out of a loop's turn meets -/
abbrev LoopE (w : World) (A : Around) (env : Env) (E : Value → Shared → Prop) : Value → Shared → Prop := notedBy (model pr w) A env (fun e s' => cameBackBy (model pr w) A env E e s')
theorem Fr_kpx {h₀ h h' : Heap} {L : Addr} {m : Str → Option Value} {X : List Addr} (F : Fr h₀ L h m) (hk : KpX X h h') (hL : L ∉ X) (hX : ∀ b ∈ X, h₀.get? b = none) : Fr h₀ L h' m :=
  ⟨hk.ns hL F.ns, fun b o e => hk b o (fun hb => by rw [hX b hb] at e; cases e) (F.keep b o e), F.above⟩
theorem Fr_kp {h₀ h h' : Heap} {L : Addr} {m : Str → Option Value} (F : Fr h₀ L h m) (hk : Kp h h') : Fr h₀ L h' m := Fr_kpx (X := []) F hk.x (by simp) (by simp)
theorem News_kpx {h₀ h h' : Heap} {L : Addr} {news : List (Addr × Obj)} {X : List Addr} (N : News h₀ L h news) (hk : KpX X h h') (hX : ∀ p ∈ news, p.1 ∉ X) : News h₀ L h' news :=
  fun p hp => ⟨hk _ _ (hX p hp) (N p hp).1, (N p hp).2⟩
theorem News_kp {h₀ h h' : Heap} {L : Addr} {news : List (Addr × Obj)} (N : News h₀ L h news) (hk : Kp h h') : News h₀ L h' news := News_kpx (X := []) N hk.x (by simp)
theorem none_of_size {h₀ h : Heap} {L : Addr} {m : Str → Option Value} (F : Fr h₀ L h m) {b : Addr} (hb : h.objs.size ≤ b) : h₀.get? b = none := by
  cases e : h₀.get? b with
  | none => rfl
  | some o => exact absurd (Heap.lt_size (F.keep b o e)) (Nat.not_lt.mpr hb)
section
variable {P : Ctx → Prop} {w : World} {A : Around} {E : Value → Shared → Prop} {s : Shared} {env : Env}
/-- a for by an iterator's walk and an invariant over the heap -/
theorem for_walks (K : Pk P) {target : Expr} {body : List Stmt} {I : Addr} {fp wr : List Addr} {n : Nat} {Pv : Nat → Value → Prop} {St : Nat → Heap → Prop} {Q : Flow → Shared → Prop}
    (W : Walks pr w A I fp wr n Pv St) (X : List Addr) (hX : ∀ b ∈ fp, b ∉ X) (J : Nat → Heap → Prop) (hst : St 0 s.heap) (hJ : J 0 s.heap)
    (Jfr : ∀ i h h', J i h → KpX wr h h' → J i h')
    (turn : ∀ i v h tk, i < n → Pv i v → J i h → KpX (X ++ wr) s.heap h → St (i + 1) h →
      wpP P (model pr w) A (assign target env v) (fun _ s₂ => wpP P (model pr w) A (execs body env) (fun f s₃ => match f with
        | .next | .cont => ∃ h' tk', s₃ = { s with heap := h', toks := tk' } ∧ KpX X h h' ∧ J (i + 1) h'
        | .brk => Q .next s₃
        | .ret v => Q (.ret v) s₃) (LoopE w A env E) s₂) (LoopE w A env E) { s with heap := h, toks := tk })
    (done : ∀ h tk, J n h → KpX (X ++ wr) s.heap h → Q .next { s with heap := h, toks := tk })
    (ht : ∀ i v s' (Q' : Unit → Shared → Prop) (E' : Value → Shared → Prop), St i s'.heap → Pv (i - 1) v → Q' () s' → wpAny (model pr w) A (letOwnedTupleGo target (.ref I) v) Q' E' s') :
    codeP P (model pr w) A (.forLoop target (.ref I) body [] env) (fun r s' => match r with | .ok f => Q f s' | .error e => cameBackBy (model pr w) A env E e s') s := by
  refine codeP_forLoop K (fun k s' => ∃ i h tk, i ≤ n ∧ k = n + 1 - i ∧ s' = { s with heap := h, toks := tk } ∧ St i h ∧ J i h ∧ KpX (X ++ wr) s.heap h) ?_ (n + 1) ⟨0, s.heap, s.toks, Nat.zero_le _, by omega, rfl, hst, hJ, KpX.refl _ _⟩
  rintro k s' ⟨i, h, tk, hi, rfl, rfl, hs, hj, hk⟩
  by_cases hlt : i < n
  · refine wpP_of (W.item i _ _ _ hlt hs fun v h₁ tk₁ hv hs₁ hk₁ => ?_)
    have hk2 : KpX (X ++ wr) s.heap h₁ := fun b o hb e => hk₁ b o (fun q => hb (List.mem_append_right _ q)) (hk b o hb e)
    refine wpP_of (ht (i + 1) v _ _ _ hs₁ hv ?_)
    refine wpP_mono (turn i v h₁ tk₁ hlt hv (Jfr i h h₁ hj hk₁) hk2 hs₁) (fun _ s₂ h₂ => ?_) fun _ _ e => e
    refine wpP_mono h₂ (fun f s₃ h₃ => ?_) fun _ _ e => e
    have fin : (∃ h' tk', s₃ = { s with heap := h', toks := tk' } ∧ KpX X h₁ h' ∧ J (i + 1) h') → ∃ m, m < n + 1 - i ∧ ∃ i h tk, i ≤ n ∧ m = n + 1 - i ∧ s₃ = { s with heap := h, toks := tk } ∧ St i h ∧ J i h ∧ KpX (X ++ wr) s.heap h := by
      rintro ⟨h', tk', rfl, hx, hj'⟩
      refine ⟨n + 1 - (i + 1), by omega, i + 1, h', tk', hlt, rfl, rfl, W.frame _ _ _ hs₁ (fun b hb o e => hx b o (hX b hb) e), hj', ?_⟩
      exact fun b o hb e => hx b o (fun q => hb (List.mem_append_left _ q)) (hk2 b o hb e)
    cases f with
    | next => exact fin h₃
    | cont => exact fin h₃
    | brk => exact h₃
    | ret v => exact h₃
  · have e : i = n := by omega
    subst e
    refine wpP_of (W.done _ _ _ hs fun h₁ tk₁ hk₁ => ?_)
    refine wpP_execs_nil ?_
    exact done h₁ tk₁ (Jfr i h h₁ hj hk₁) fun b o hb e => hk₁ b o (fun q => hb (List.mem_append_right _ q)) (hk b o hb e)
theorem range_small {a b c : Int} (ha : 0 ≤ a) (hb : 0 ≤ b) (hc : 0 < c) (ha' : a ≤ 1000000) (hb' : b ≤ 1000000) (hc' : c ≤ 1000000) : Builtin.Range.small a b c = true := by
  have hs : 0 ≤ Builtin.Range.rangeSize a b c ∧ Builtin.Range.rangeSize a b c ≤ 1000000 := by
    unfold Builtin.Range.rangeSize
    rw [if_pos hc]
    split
    · have h1 : (b - a - 1) / c ≤ b - a - 1 := Int.ediv_le_self _ (by omega)
      have h2 : 0 ≤ (b - a - 1) / c := Int.ediv_nonneg (by omega) (by omega)
      omega
    · omega
  have fl : ∀ i : Int, 0 ≤ i → i ≤ 2000000 → Builtin.Range.rangeFitsLong i = true := by
    intro i h1 h2
    unfold Builtin.Range.rangeFitsLong
    simp only [Bool.and_eq_true, decide_eq_true_eq]
    omega
  unfold Builtin.Range.small
  rw [fl a ha (by omega), fl b hb (by omega), fl c (by omega) (by omega), fl _ hs.1 (by omega), if_pos hc, fl (b + (c - 1)) (by omega) (by omega)]
  simp
/-- a for over a range object -/
theorem for_rangeObj (K : Pk P) {x : Str} {px : Pos} {body : List Stmt} {r : Addr} {a b c : Int} {t u v : Tok} {n : Nat} {Q : Flow → Shared → Prop} (hh : A.handled = none)
    (hr : IsRange s.heap r a b c t u v) (hsm : Builtin.Range.small a b c = true) (hn : Builtin.Range.rangeSize a b c = (n : Int))
    (X : List Addr) (hX : ∀ b ∈ X, b < s.heap.objs.size) (J : Nat → Heap → Prop) (hJ : J 0 s.heap)
    (Jkp : ∀ i h h' I, J i h → KpX [I] h h' → s.heap.objs.size ≤ I → J i h')
    (turn : ∀ i ti h tk, i < n → J i h → KpX X s.heap h →
      wpP P (model pr w) A (assign (.Name x px) env (.int (a + i * c) ti)) (fun _ s₂ => wpP P (model pr w) A (execs body env) (fun f s₃ => match f with
        | .next | .cont => ∃ h' tk', s₃ = { s with heap := h', toks := tk' } ∧ KpX X h h' ∧ J (i + 1) h'
        | .brk => Q .next s₃
        | .ret v => Q (.ret v) s₃) (LoopE w A env E) s₂) (LoopE w A env E) { s with heap := h, toks := tk })
    (done : ∀ h tk, J n h → KpX X s.heap h → Q .next { s with heap := h, toks := tk }) :
    wpP P (model pr w) A (pyIter (.ref r)) (fun it s₂ => codeP P (model pr w) A (.forLoop (.Name x px) it body [] env) (fun r s' => match r with | .ok f => Q f s' | .error e => cameBackBy (model pr w) A env E e s') s₂) E s := by
  refine wpP_of (wpAny_pyIter_range hr hsm ?_)
  have W := Walks.range (prog := pr) (w := w) hh s.heap.objs.size a c n
  have old : Kp s.heap (s.heap.push { cls := .type "range_iterator", data := .fields #[rawInt a, rawInt (Builtin.Range.rangeSize a b c), rawInt c] }) := fun b o e => Heap.get?_push_of_some _ e
  have lift : ∀ h, KpX (X ++ [s.heap.objs.size]) (s.heap.push { cls := .type "range_iterator", data := .fields #[rawInt a, rawInt (Builtin.Range.rangeSize a b c), rawInt c] }) h → KpX X s.heap h := by
    intro h hk i o hi e
    refine hk i o (fun q => ?_) (old i o e)
    rcases List.mem_append.mp q with q | q
    · exact hi q
    · rw [List.mem_singleton.mp q, fresh_none] at e; cases e
  refine for_walks K W X ?_ J ?_ ?_ ?_ ?_ ?_ ?_
  · intro b hb hx
    rw [List.mem_singleton.mp hb] at hx
    exact Nat.lt_irrefl _ (hX _ hx)
  · show IsRangeIter _ _ (a + (0 : Nat) * c) ((n : Int) - (0 : Nat)) c
    rw [hn]
    have e1 : a + ((0 : Nat) : Int) * c = a := by simp
    have e2 : (n : Int) - ((0 : Nat) : Int) = n := by simp
    rw [e1, e2]
    exact Heap.get?_push_size _ rfl
  · exact Jkp 0 s.heap _ s.heap.objs.size hJ old.x (Nat.le_refl _)
  · intro i h h' hj hk
    exact Jkp i h h' _ hj hk (Nat.le_refl _)
  · rintro i v h tk hi ⟨ti, rfl⟩ hj hk _
    exact turn i ti h tk hi hj (lift h hk)
  · intro h tk hj hk
    exact done h tk hj (lift h hk)
  · intro i v s' Q' E' _ _ hq
    exact wpAny_of_eq (a := ()) rfl hq
end
end Mine
end

section
open PySem PySem.W PyProof.Rows PySem.Calls
open Sem (wp)
set_option Elab.async false
set_option maxRecDepth 100000
namespace Mine
/-- a frame's names in a row, bound or not -/
def lk : List (Str × Option Value) → Str → Option Value
  | [], _ => none
  | (x, v) :: r, y => if y = x then v else lk r y
def putk : List (Str × Option Value) → Str → Value → List (Str × Option Value)
  | [], x, v => [(x, some v)]
  | (k, u) :: r, x, v => if k = x then (k, some v) :: r else (k, u) :: putk r x v
theorem lk_put : ∀ (l : List (Str × Option Value)) (x : Str) (v : Value), (fun y => if y = x then some v else lk l y) = lk (putk l x v)
  | [], x, v => by funext y; simp [lk, putk]
  | (k, u) :: r, x, v => by
    funext y
    have ih := congrFun (lk_put r x v) y
    simp only [putk]
    by_cases hk : k = x
    · subst hk
      rw [if_pos rfl]
      simp only [lk]
      by_cases hy : y = k
      · simp [hy]
      · simp [hy]
    · rw [if_neg hk]
      simp only [lk]
      by_cases hy : y = k
      · subst hy; simp [hk]
      · simp only [hy, if_false]
        exact ih
theorem lk_binds : ∀ (l : List (Str × Value)) (ns : List Str), (fun y => l.lookup y) = lk (l.map (fun p => (p.1, some p.2)) ++ ns.map fun x => (x, none))
  | [], ns => by
    funext y
    induction ns with
    | nil => rfl
    | cons x ns ih => simp only [List.map_nil, List.nil_append, List.map_cons, lk] at ih ⊢; split; rfl; exact ih
  | (k, u) :: r, ns => by
    funext y
    have ih := congrFun (lk_binds r ns) y
    simp only [List.lookup_cons, List.map_cons, List.cons_append, lk]
    by_cases hy : y = k
    · subst hy; simp
    · have : (y == k) = false := by simpa using hy
      rw [this, if_neg hy]
      exact ih
section
variable {h₀ h : Heap} {L : Addr} {l : List (Str × Option Value)} {a b c d e : Str} {va vb vc vd ve : Value}
theorem Fr_entry {binds : List (Str × Value)} (F : Fr h₀ L h (fun x => binds.reverse.lookup x)) (ns : List Str) : Fr h₀ L h (lk (binds.reverse.map (fun p => (p.1, some p.2)) ++ ns.map fun x => (x, none))) :=
  lk_binds binds.reverse ns ▸ F
theorem Fr_set1 (F : Fr h₀ L h (fun y => if y = a then some va else lk l y)) : Fr h₀ L h (lk (putk l a va)) := lk_put l a va ▸ F
theorem Fr_set2 (F : Fr h₀ L h (fun y => if y = a then some va else if y = b then some vb else lk l y)) : Fr h₀ L h (lk (putk (putk l b vb) a va)) := by
  have e := lk_put l b vb
  exact Fr_set1 (l := putk l b vb) (e ▸ F)
theorem Fr_set3 (F : Fr h₀ L h (fun y => if y = a then some va else if y = b then some vb else if y = c then some vc else lk l y)) : Fr h₀ L h (lk (putk (putk (putk l c vc) b vb) a va)) := by
  have e := lk_put l c vc
  exact Fr_set2 (l := putk l c vc) (e ▸ F)
theorem Fr_set4 (F : Fr h₀ L h (fun y => if y = a then some va else if y = b then some vb else if y = c then some vc else if y = d then some vd else lk l y)) : Fr h₀ L h (lk (putk (putk (putk (putk l d vd) c vc) b vb) a va)) := by
  have e := lk_put l d vd
  exact Fr_set3 (l := putk l d vd) (e ▸ F)
end
end Mine
end

section
open PySem PySem.W PyProof.Rows PySem.Calls
open Sem (wp)
set_option Elab.async false
set_option maxRecDepth 100000
namespace Mine
theorem News_cons {h₀ h : Heap} {L a : Addr} {o : Obj} {news : List (Addr × Obj)} (N : News h₀ L h news) (ha : h.get? a = some o) (hL : a ≠ L) (hn : h₀.get? a = none) : News h₀ L h ((a, o) :: news) := fun p hp => by
  rcases List.mem_cons.mp hp with rfl | hp
  · exact ⟨ha, hL, hn⟩
  · exact N p hp
theorem News_tail {h₀ h : Heap} {L : Addr} {p : Addr × Obj} {news : List (Addr × Obj)} (N : News h₀ L h (p :: news)) : News h₀ L h news := fun q hq => N q (.tail _ hq)
section
variable {P : Ctx → Prop} {w : World} {A : Around} {E : Value → Shared → Prop} {s : Shared} {env : Env}
/-- a for by an iterator's walk and an invariant over the heap -/
theorem for_walksN (K : Pk P) {target : Expr} {body : List Stmt} {I : Addr} {fp wr : List Addr} {n : Nat} {Pv : Nat → Value → Prop} {St : Nat → Heap → Prop} {Q : Flow → Shared → Prop}
    (W : Walks pr w A I fp wr n Pv St) (J : Nat → Heap → Prop) (hst : St 0 s.heap) (hJ : J 0 s.heap)
    (Jfr : ∀ i h h', J i h → KpX wr h h' → J i h')
    (turn : ∀ i v h tk, i < n → Pv i v → J i h → St (i + 1) h →
      wpP P (model pr w) A (assign target env v) (fun _ s₂ => wpP P (model pr w) A (execs body env) (fun f s₃ => match f with
        | .next | .cont => ∃ h' tk', s₃ = { s with heap := h', toks := tk' } ∧ (∀ b ∈ fp, ∀ o, h.get? b = some o → h'.get? b = some o) ∧ J (i + 1) h'
        | .brk => Q .next s₃
        | .ret v => Q (.ret v) s₃) (LoopE w A env E) s₂) (LoopE w A env E) { s with heap := h, toks := tk })
    (done : ∀ h tk, J n h → Q .next { s with heap := h, toks := tk })
    (ht : ∀ i v s' (Q' : Unit → Shared → Prop) (E' : Value → Shared → Prop), St i s'.heap → Pv (i - 1) v → Q' () s' → wpAny (model pr w) A (letOwnedTupleGo target (.ref I) v) Q' E' s') :
    codeP P (model pr w) A (.forLoop target (.ref I) body [] env) (fun r s' => match r with | .ok f => Q f s' | .error e => cameBackBy (model pr w) A env E e s') s := by
  refine codeP_forLoop K (fun k s' => ∃ i h tk, i ≤ n ∧ k = n + 1 - i ∧ s' = { s with heap := h, toks := tk } ∧ St i h ∧ J i h) ?_ (n + 1) ⟨0, s.heap, s.toks, Nat.zero_le _, by omega, rfl, hst, hJ⟩
  rintro k s' ⟨i, h, tk, hi, rfl, rfl, hs, hj⟩
  by_cases hlt : i < n
  · refine wpP_of (W.item i _ _ _ hlt hs fun v h₁ tk₁ hv hs₁ hk₁ => ?_)
    refine wpP_of (ht (i + 1) v _ _ _ hs₁ hv ?_)
    refine wpP_mono (turn i v h₁ tk₁ hlt hv (Jfr i h h₁ hj hk₁) hs₁) (fun _ s₂ h₂ => ?_) fun _ _ e => e
    refine wpP_mono h₂ (fun f s₃ h₃ => ?_) fun _ _ e => e
    have fin : (∃ h' tk', s₃ = { s with heap := h', toks := tk' } ∧ (∀ b ∈ fp, ∀ o, h₁.get? b = some o → h'.get? b = some o) ∧ J (i + 1) h') → ∃ m, m < n + 1 - i ∧ ∃ i h tk, i ≤ n ∧ m = n + 1 - i ∧ s₃ = { s with heap := h, toks := tk } ∧ St i h ∧ J i h := by
      rintro ⟨h', tk', rfl, hx, hj'⟩
      exact ⟨n + 1 - (i + 1), by omega, i + 1, h', tk', hlt, rfl, rfl, W.frame _ _ _ hs₁ hx, hj'⟩
    cases f with
    | next => exact fin h₃
    | cont => exact fin h₃
    | brk => exact h₃
    | ret v => exact h₃
  · have e : i = n := by omega
    subst e
    refine wpP_of (W.done _ _ _ hs fun h₁ tk₁ hk₁ => ?_)
    refine wpP_execs_nil ?_
    exact done h₁ tk₁ (Jfr i h h₁ hj hk₁)
/-- a for over a range object -/
theorem for_rangeN (K : Pk P) {x : Str} {px : Pos} {body : List Stmt} {r : Addr} {a b c : Int} {t u v : Tok} {n : Nat} {Q : Flow → Shared → Prop} (hh : A.handled = none)
    (hr : IsRange s.heap r a b c t u v) (hsm : Builtin.Range.small a b c = true) (hn : Builtin.Range.rangeSize a b c = (n : Int))
    (J : Nat → Heap → Prop) (hJ : J 0 s.heap)
    (Jkp : ∀ i h h' I, J i h → KpX [I] h h' → s.heap.objs.size ≤ I → J i h')
    (turn : ∀ i ti h tk I o, i < n → J i h → s.heap.objs.size ≤ I → h.get? I = some o →
      wpP P (model pr w) A (assign (.Name x px) env (.int (a + i * c) ti)) (fun _ s₂ => wpP P (model pr w) A (execs body env) (fun f s₃ => match f with
        | .next | .cont => ∃ h' tk', s₃ = { s with heap := h', toks := tk' } ∧ h'.get? I = some o ∧ J (i + 1) h'
        | .brk => Q .next s₃
        | .ret v => Q (.ret v) s₃) (LoopE w A env E) s₂) (LoopE w A env E) { s with heap := h, toks := tk })
    (done : ∀ h tk, J n h → Q .next { s with heap := h, toks := tk }) :
    wpP P (model pr w) A (pyIter (.ref r)) (fun it s₂ => codeP P (model pr w) A (.forLoop (.Name x px) it body [] env) (fun r s' => match r with | .ok f => Q f s' | .error e => cameBackBy (model pr w) A env E e s') s₂) E s := by
  refine wpP_of (wpAny_pyIter_range hr hsm ?_)
  have W := Walks.range (prog := pr) (w := w) hh s.heap.objs.size a c n
  have old : Kp s.heap (s.heap.push { cls := .type "range_iterator", data := .fields #[rawInt a, rawInt (Builtin.Range.rangeSize a b c), rawInt c] }) := fun b o e => Heap.get?_push_of_some _ e
  refine for_walksN K W J ?_ ?_ ?_ ?_ ?_ ?_
  · show IsRangeIter _ _ (a + (0 : Nat) * c) ((n : Int) - (0 : Nat)) c
    rw [hn]
    have e1 : a + ((0 : Nat) : Int) * c = a := by simp
    have e2 : (n : Int) - ((0 : Nat) : Int) = n := by simp
    rw [e1, e2]
    exact Heap.get?_push_size _ rfl
  · exact Jkp 0 s.heap _ s.heap.objs.size hJ old.x (Nat.le_refl _)
  · intro i h h' hj hk
    exact Jkp i h h' _ hj hk (Nat.le_refl _)
  · rintro i v h tk hi ⟨ti, rfl⟩ hj hst
    obtain ⟨oI, hoI⟩ : ∃ oI, h.get? s.heap.objs.size = some oI := ⟨_, hst⟩
    refine wpP_mono (turn i ti h tk _ oI hi hj (Nat.le_refl _) hoI) (fun _ s₂ h₂ => wpP_mono h₂ (fun f s₃ h₃ => ?_) fun _ _ e => e) fun _ _ e => e
    have fin : (∃ h' tk', s₃ = { s with heap := h', toks := tk' } ∧ h'.get? s.heap.objs.size = some oI ∧ J (i + 1) h') → ∃ h' tk', s₃ = { s with heap := h', toks := tk' } ∧ (∀ b ∈ [s.heap.objs.size], ∀ o, h.get? b = some o → h'.get? b = some o) ∧ J (i + 1) h' := by
      rintro ⟨h', tk', e, hI, hj'⟩
      refine ⟨h', tk', e, fun b hb o eo => ?_, hj'⟩
      rw [List.mem_singleton.mp hb] at eo ⊢
      rw [hoI] at eo; rw [hI]; exact eo
    cases f with
    | next => exact fin h₃
    | cont => exact fin h₃
    | brk => exact h₃
    | ret v => exact h₃
  · intro h tk hj
    exact done h tk hj
  · intro i v s' Q' E' _ _ hq
    exact wpAny_of_eq (a := ()) rfl hq
/-- Fr and News stand while an iterator steps -/
theorem FN_iter {h₀ h h' : Heap} {L I : Addr} {m : Str → Option Value} {news : List (Addr × Obj)} {N : Nat} (F : Fr h₀ L h m) (Nw : News h₀ L h news) (hk : KpX [I] h h') (hI : N ≤ I) (hL : L < N) (hnews : ∀ p ∈ news, p.1 < N) (h0 : h₀.objs.size ≤ N) : Fr h₀ L h' m ∧ News h₀ L h' news :=
  ⟨Fr_kpx F hk (fun q => Nat.ne_of_lt (Nat.lt_of_lt_of_le hL hI) (List.mem_singleton.mp q)) (fun b hb => by
      rw [List.mem_singleton.mp hb]
      cases e : h₀.get? I with
      | none => rfl
      | some o => exact absurd (Heap.lt_size e) (Nat.not_lt.mpr (Nat.le_trans h0 hI))),
    News_kpx Nw hk fun p hp q => Nat.ne_of_lt (Nat.lt_of_lt_of_le (hnews p hp) hI) (List.mem_singleton.mp q)⟩
theorem news_lt {h₀ h : Heap} {L : Addr} {news : List (Addr × Obj)} (N : News h₀ L h news) : ∀ p ∈ news, p.1 < h.objs.size := fun p hp => Heap.lt_size (N p hp).1
end
end Mine
end

section
open PySem PySem.W PyProof.Rows PySem.Calls
open Sem (wp)
set_option Elab.async false
set_option maxRecDepth 100000
namespace Mine
local macro_rules | `(tactic| walk_at "eval Name") => `(tactic| refine tp_builtin (by assumption) (by assumption) (by boot_fast) ?_)
theorem wpP_callWith_type {P : Ctx → Prop} {M : Model} {A : Around} {E : Value → Shared → Prop} {s : Shared} {pos : Pos} {T : String} {first : List Value} {args : List (Bool × Sem Value)} {Q : Value → Shared → Prop} (hplain : args.any (·.1) = false)
    (h : wpP P M A (evalArgs (.type T) true args []) (fun a s₁ => wpP P M A (call (.type T) (first ++ a.pos) a.kw) Q E s₁) E s) :
    wpP P M A (callWith pos (.type T) first args []) Q E s := by
  unfold callWith
  refine wpP_bind (wpP_holding (wpP_mono h (fun a s₁ h₁ => wpP_bind (wpP_standAt ?_)) fun _ _ x => x))
  simp only [hplain, List.any_nil, Bool.or_false]
  refine wpP_bind (wpP_pure ?_)
  exact wpP_bind (wpP_mono h₁ (fun r s₂ hr => wpP_of (wpAny_bind (wpAny_holding (wpAny_point (wpAny_pure hr))))) fun _ _ x => x)
theorem wpP_callWith_type1 {P : Ctx → Prop} {M : Model} {A : Around} {E : Value → Shared → Prop} {s : Shared} {env : Env} {pos : Pos} {T : String} {e : Expr} {rest : List Expr} {Q : Value → Shared → Prop}
    (h : wpP P M A (spliced (backTo pos (starEach (e :: rest) env))) (fun vs s₁ => wpP P M A (call (.type T) vs) Q E s₁) E s)
    (he : starEach (e :: rest) env = (false, eval e env) :: starEach rest env := by rfl)
    (hplain : (backTo pos (starEach rest env)).any (·.1) = false := by rfl) :
    wpP P M A (callWith pos (.type T) [] (backTo pos (starEach (e :: rest) env)) []) Q E s := by
  rw [he] at h ⊢
  exact wpP_callWith_type (by show (false || (backTo pos (starEach rest env)).any (·.1)) = false; rw [hplain]; rfl) (wpP_evalArgs h)
/-- where the octet at place u goes -/
def mir (W u : Nat) : Nat := u / W * W + (W - 1 - u % W)
theorem mir_eq {W i j : Nat} (hj : j < W) : mir W (i * W + j) = i * W + (W - 1 - j) := by
  unfold mir
  have e : i * W + j = W * i + j := by rw [Nat.mul_comm]
  rw [e, Nat.mul_add_div (by omega), Nat.mul_add_mod, Nat.div_eq_of_lt hj, Nat.mod_eq_of_lt hj, Nat.add_zero]
/-- the bytearray behind t stores -/
def swapTo (d : Array UInt8) (W : Nat) : Nat → Array UInt8
  | 0 => Array.replicate d.size 0
  | t + 1 => (swapTo d W t).setIfInBounds (mir W t) (d.getD t 0)
theorem swapTo_size (d : Array UInt8) (W : Nat) : ∀ t, (swapTo d W t).size = d.size
  | 0 => by simp [swapTo]
  | t + 1 => by simp [swapTo, swapTo_size d W t]
theorem boot_ba : bootBuiltins (Str.ofString "bytearray") = some (.type "bytearray") := by first | decide +kernel | kernel_rfl
abbrev baObj (b : Array UInt8) : Obj := { cls := .type "bytearray", data := .bytearray b }
abbrev S (x : String) : Str := Str.ofString x
abbrev bsL (d : Array UInt8) (td : Tok) (W : Nat) (tw : Tok) (sd vi vj : Option Value) : List (Str × Option Value) :=
  [(Str.ofString "width", some (.int W tw)), (Str.ofString "data", some (.bytes d td)), (Str.ofString "swapped_data", sd), (Str.ofString "i", vi), (Str.ofString "j", vj)]
theorem size_groups {n g W : Nat} (hW : 0 < W) (hg : n = g * W) : (Builtin.Range.rangeSize 0 (n : Int) (W : Int)) = (g : Int) := by
  unfold Builtin.Range.rangeSize
  rw [if_pos (by omega)]
  split
  · rename_i h0
    rw [hg] at h0 ⊢
    have hg1 : 0 < g := by
      rcases Nat.eq_zero_or_pos g with e | e
      · subst e; simp at h0
      · exact e
    have e1 : (((g * W : Nat) : Int) - 0 - 1) = ((W - 1 : Nat) : Int) + ((g - 1 : Nat) : Int) * (W : Int) := by
      obtain ⟨k, rfl⟩ : ∃ k, g = k + 1 := ⟨g - 1, by omega⟩
      simp only [Nat.add_sub_cancel]
      rw [Nat.add_mul, Int.natCast_add, Int.natCast_mul]
      omega
    rw [e1, Int.add_mul_ediv_right _ _ (by omega), Int.ediv_eq_zero_of_lt (by omega) (by omega)]
    omega
  · rename_i h0
    have : n = 0 := by omega
    rw [this] at hg
    rcases Nat.mul_eq_zero.mp hg.symm with e | e <;> omega
theorem size_ones (n : Nat) : (Builtin.Range.rangeSize 0 (n : Int) 1) = (n : Int) := by
  have := size_groups (n := n) (g := n) (W := 1) (by omega) (by omega)
  simpa using this
theorem item_bytes {w : World} {A : Around} {s : Shared} {E : Value → Shared → Prop} {Q : Value → Shared → Prop} {value slice : Expr} {d : Array UInt8} {t ui : Tok} {i : Int} {n : Nat} (hi : i = n) (hn : n < d.size) (hz : d.size ≤ 1000)
    (h : ∀ t' k, Q (.int ((d.getD n 0).toNat : Int) t') { s with toks := k })
    (hs : subscripted slice false (.bytes d t) (.int i ui) = operate [.bytes d t, .int i ui] (getItem (.bytes d t) (.int i ui)) := by with_unfolding_all rfl)
    (ht : ∀ r, letTemporaryGo value (.bytes d t) r = pure () := by intro _; with_unfolding_all rfl) : wpAny (model pr w) A (subscriptTail value slice (.bytes d t) (.int i ui)) Q E s := by
  subst hi
  have e : d.toList.toArray = d := Array.toArray_toList
  have g : wpAny (model pr w) A (getItem (.bytes d.toList.toArray t) (.int n ui)) Q E s := by
    refine getItem_bytes (l := d.toList) (by simp; omega) (by omega) (by simp; omega) ?_
    have e2 : d.toList.getD (n : Int).toNat 0 = d.getD n 0 := by
      simp [Array.getD, hn]
    rw [e2]
    exact h _ _
  rw [e] at g
  exact tail_of_ItemOn ⟨"bytes", _, FB.slot_bytes_getitem.lookup, typeIs_bytes _ _ _, g⟩ hs ht
set_option maxHeartbeats 2000000 in
theorem byteswap {w : World} {A : Around} {s : Shared} {mean mg mb} {E : Value → Shared → Prop} {Q : Value → Shared → Prop} (G : Gd w mean mg mb s.heap) {f : Addr} (hmg : mg (Str.ofString "_byteswap") = some (.ref f))
   (hh : A.handled = none) (hroom : A.depth + 5 < recursionLimit) {d : Array UInt8} {td tw : Tok} {W g : Nat} (hW : 0 < W) (hg : d.size = g * W) (hz : d.size ≤ 1000) (hW' : W ≤ 1000)
   (h : ∀ t' h' tk, Kp s.heap h' → Q (.bytes (swapTo d W d.size) t') { s with heap := h', toks := tk }) : wpP Clean (model pr w) A (call (.ref f) [.bytes d td, .int W tw]) Q E s := by
  have T := G.T
  refine enterP Pk.clean (binds := [(Str.ofString "data", .bytes d td), (Str.ofString "width", .int W tw)]) T (by rfl) hmg (by omega) (fun _ _ _ => by rfl) (by show ∀ y ∈ [Str.ofString "data", Str.ofString "width"], List.lookup y _ = some NameKind.local; decide +kernel) ?_
  intro h₁ cd F0
  have F : Fr s.heap s.heap.objs.size h₁ (lk (bsL d td W tw none none none)) := Fr_entry F0 [Str.ofString "swapped_data", Str.ofString "i", Str.ofString "j"]
  clear F0
  have N : News s.heap s.heap.objs.size h₁ [] := News.nil
  dsimp only
  refine wpP_execs_cons (wpP_Assign_Name ?_)
  refine wpP_bind (m := eval (.Name _ _) _) (wpP_of (tp_builtin (v := .type "bytearray") F T boot_ba (wpP_callWith_type1 (wpP_of ?_))))
  walk1
  walk1
  refine tp_builtin F T (by boot_fast) ?_
  iterate 6 walk1
  have hL : s.heap.objs.size < h₁.objs.size := F.ns.lt
  refine call_bytearray (by rw [sizeLine_eq]; omega) fun h₂ hB hk₂ => ?_
  have hBn : s.heap.get? h₁.objs.size = none := none_of_size F (Nat.le_refl _)
  have F₂ := Fr_kp F hk₂
  have N₂ : News s.heap s.heap.objs.size h₂ [(h₁.objs.size, baObj (swapTo d W 0))] := fun p hp => by
    rw [List.mem_singleton.mp hp]; exact ⟨hB, Nat.ne_of_gt hL, hBn⟩
  dsimp only at F₂ N₂ ⊢
  have hBlt : h₁.objs.size < h₂.objs.size := Heap.lt_size hB
  generalize h₁.objs.size = B at *
  clear hB F N hk₂
  refine wpP_of (stN F₂ N₂ fun h₃ F₃' N₃ => ?_)
  have F₃ : Fr s.heap s.heap.objs.size h₃ (lk (bsL d td W tw (some (.ref B)) none none)) := Fr_set1 F₃'
  clear F₃' F₂ N₂
  have hB3 : B < h₃.objs.size := Heap.lt_size (N₃.get (.head _))
  refine wpP_execs_cons (wpP_For Pk.clean ?_)
  refine wpP_of ?_
  walk1
  refine tp_builtin F₃ T (by boot_fast) ?_
  walk1
  walk1
  walk1
  walk1
  walk1
  refine tp_builtin F₃ T (by boot_fast) ?_
  iterate 8 walk1
  have hWi : (W : Int) ≠ 0 := by omega
  refine call_range_3 hWi ?_ (Or.inl (PyProof.noPylong_small (by omega)))
  have hbase : s.heap.objs.size ≤ (h₃.push { cls := .type "range", data := .fields #[.int 0 0, .int d.size 0, .int W tw] }).objs.size := by rw [Heap.size_push]; exact Nat.le_succ_of_le (Nat.le_of_lt (Nat.lt_trans hL hB3))
  refine for_rangeN Pk.clean (x := Str.ofString "i") (n := g) hh (Heap.get?_push_size _ rfl) (range_small (by omega) (by omega) (by omega) (by omega) (by omega) (by omega)) (size_groups hW hg)
    (fun i h => ∃ vi vj, Fr s.heap s.heap.objs.size h (lk (bsL d td W tw (some (.ref B)) vi vj)) ∧ News s.heap s.heap.objs.size h [(B, baObj (swapTo d W (i * W)))])
    ?_ ?_ ?_ ?_
  · refine ⟨none, none, Fr_kp F₃ fun b o e => Heap.get?_push_of_some _ e, News_kp (by simpa using N₃) fun b o e => Heap.get?_push_of_some _ e⟩
  · rintro i h h' I ⟨vi, vj, Fm, Nm⟩ hk hI
    have hI' : h₃.objs.size + 1 ≤ I := by
      have : (h₃.push _).objs.size ≤ I := hI
      rw [Heap.size_push] at this; exact this
    obtain ⟨a1, a2⟩ := FN_iter (N := h₃.objs.size) Fm Nm hk (Nat.le_of_lt hI') (Nat.lt_trans hL hB3) (fun p hp => by rw [List.mem_singleton.mp hp]; exact hB3) (Nat.le_of_lt (Nat.lt_trans hL hB3))
    exact ⟨vi, vj, a1, a2⟩
  · rintro i ti h tk I oI hi ⟨vi, vj, Fm, Nm⟩ hIle hIo
    have hI' : h₃.objs.size + 1 ≤ I := by
      have : (h₃.push _).objs.size ≤ I := hIle
      rw [Heap.size_push] at this; exact this
    have hLI : s.heap.objs.size < I := Nat.lt_trans (Nat.lt_trans hL hB3) hI'
    have Nm' := News_cons Nm hIo (Nat.ne_of_gt hLI) (none_of_size F₃ (Nat.le_of_lt hI'))
    refine wpP_of (wpAny_assign_Name (stN Fm Nm' fun h' F'' N' => ?_))
    have F' : Fr s.heap s.heap.objs.size h' (lk (bsL d td W tw (some (.ref B)) (some (.int (0 + i * W) ti)) vj)) := Fr_set1 F''
    clear F''
    refine wpP_execs_cons (wpP_For Pk.clean ?_)
    refine wpP_of ?_
    walk1
    refine tp_builtin F' T (by boot_fast) ?_
    iterate 4 walk1
    refine call_range_1 ?_
    have hBh : B < h'.objs.size := Heap.lt_size (N'.get (.tail _ (.head _)))
    have hIh : I < h'.objs.size := Heap.lt_size (N'.get (.head _))
    refine for_rangeN Pk.clean (x := Str.ofString "j") (n := W) hh (Heap.get?_push_size _ rfl) (range_small (by omega) (by omega) (by omega) (by omega) (by omega) (by omega)) (size_ones W)
      (fun j h => ∃ vj, Fr s.heap s.heap.objs.size h (lk (bsL d td W tw (some (.ref B)) (some (.int (0 + i * W) ti)) vj)) ∧ News s.heap s.heap.objs.size h [(I, oI), (B, baObj (swapTo d W (i * W + j)))])
      ?_ ?_ ?_ ?_
    · exact ⟨vj, Fr_kp F' fun b o e => Heap.get?_push_of_some _ e, News_kp N' fun b o e => Heap.get?_push_of_some _ e⟩
    · rintro j h5 h6 I2 ⟨vj', Fj, Nj⟩ hk hI2
      have hI2' : h'.objs.size + 1 ≤ I2 := by
        have : (h'.push _).objs.size ≤ I2 := hI2
        rw [Heap.size_push] at this; exact this
      obtain ⟨a1, a2⟩ := FN_iter (N := h'.objs.size) Fj Nj hk (Nat.le_of_lt hI2') (Nat.lt_trans hLI hIh) (fun p hp => by
        rcases List.mem_cons.mp hp with rfl | hp
        · exact hIh
        · rw [List.mem_singleton.mp hp]; exact hBh) (Nat.le_of_lt (Nat.lt_trans hLI hIh))
      exact ⟨vj', a1, a2⟩
    · rintro j tj h5 tk5 I2 oI2 hj ⟨vj', Fj, Nj⟩ hI2le hI2o
      have hI2' : h'.objs.size + 1 ≤ I2 := by
        have : (h'.push _).objs.size ≤ I2 := hI2le
        rw [Heap.size_push] at this; exact this
      have hLI2 : s.heap.objs.size < I2 := Nat.lt_trans (Nat.lt_trans hLI hIh) hI2'
      have Nj' := News_cons Nj hI2o (Nat.ne_of_gt hLI2) (none_of_size F' (Nat.le_of_lt hI2'))
      refine wpP_of (wpAny_assign_Name (stN Fj Nj' fun h6 F6' N6 => ?_))
      have F6 : Fr s.heap s.heap.objs.size h6 (lk (bsL d td W tw (some (.ref B)) (some (.int (0 + i * W) ti)) (some (.int (0 + j * 1) tj)))) := Fr_set1 F6'
      clear F6'
      refine wpP_of ?_
      repeat' walk1
      have hlt : i * W + j < d.size := by
        rw [hg]
        calc i * W + j < i * W + W := by omega
          _ = (i + 1) * W := by rw [Nat.add_mul, Nat.one_mul]
          _ ≤ g * W := Nat.mul_le_mul_right _ hi
      refine item_bytes (n := i * W + j) (by rw [Int.natCast_add, Int.natCast_mul]; omega) hlt hz fun t7 k7 => ?_
      repeat' walk1
      dsimp only
      have emir : (0 + (i : Int) * (W : Int) + (W : Int) - 1 - (0 + (j : Int) * 1)) = ((mir W (i * W + j) : Nat) : Int) := by
        rw [mir_eq hj, Int.natCast_add, Int.natCast_mul]; omega
      rw [emir]
      have hBo := N6.get (.tail _ (.tail _ (.head _)))
      have hmirlt : mir W (i * W + j) < d.size := by
        rw [mir_eq hj, hg]
        calc i * W + (W - 1 - j) < i * W + W := by omega
          _ = (i + 1) * W := by rw [Nat.add_mul, Nat.one_mul]
          _ ≤ g * W := Nat.mul_le_mul_right _ hi
      refine ba_setItem hBo (by rw [swapTo_size]; exact hmirlt) (by rw [swapTo_size, sizeLine_eq]; omega) (UInt8.toNat_lt _) fun h7 hB7 hs7 => ?_
      have hk7 := KpX.of_same hs7
      have hIB : I ≠ B := Nat.ne_of_gt (Nat.lt_of_lt_of_le hB3 (Nat.le_of_lt hI'))
      have hI2B : I2 ≠ B := Nat.ne_of_gt (Nat.lt_of_lt_of_le hBh (Nat.le_of_lt hI2'))
      refine wpAny_execs_nil ⟨h7, _, rfl, hk7 _ _ (fun q => hI2B (List.mem_singleton.mp q)) (N6.get (.head _)), _, Fr_kpx F6 hk7 (fun q => Nat.ne_of_lt hL (List.mem_singleton.mp q)) (fun b hb => by rw [List.mem_singleton.mp hb]; exact hBn), ?_⟩
      refine News_cons (News_cons News.nil ?_ (Nat.ne_of_gt hL) hBn) (hk7 _ _ (fun q => hIB (List.mem_singleton.mp q)) (N6.get (.tail _ (.head _)))) (Nat.ne_of_gt hLI) (N6.fresh (.tail _ (.head _)))
      rw [hB7]
      show some (baObj _) = some (baObj (swapTo d W (i * W + j + 1)))
      simp only [swapTo, UInt8.ofNat_toNat, Nat.toUInt8]
    · rintro h5 tk5 ⟨vj', Fj, Nj⟩
      refine wpP_execs_nil ⟨h5, tk5, rfl, Nj.get (.head _), _, _, Fj, ?_⟩
      have e : (i + 1) * W = i * W + W := by rw [Nat.add_mul, Nat.one_mul]
      rw [e]
      exact News_tail Nj
  · rintro h5 tk5 ⟨vi, vj, Fm, Nm⟩
    refine wpP_of ?_
    refine wpAny_execs_cons ?_
    refine wpAny_Return_some ?_
    refine Call_ (tp_builtin (v := .type "bytes") Fm T (by boot_fast) ?_)
    repeat' walk1
    have hsz : (swapTo d W (g * W)).size ≤ sizeLine := by rw [swapTo_size, sizeLine_eq]; omega
    refine call_bytes_ba (Nm.get (.head _)) hsz fun t7 k7 => ?_
    rw [← hg]
    exact h t7 h5 k7 Fm.keep
end Mine
end

section
open PySem PySem.W PyProof.Rows PySem.Calls
open Sem (wp)
set_option Elab.async false
set_option maxRecDepth 100000
namespace Mine
local macro_rules | `(tactic| walk_at "eval Name") => `(tactic| refine tp_builtin (by assumption) (by assumption) (by boot_fast) ?_)
/-- a list comprehension over a range object -/
theorem comp_range {w : World} {A : Around} {s : Shared} {E : Value → Shared → Prop} {Q : Value → Shared → Prop} {env : Env} {elt iter : Expr} {x : Str} {px : Pos} {scope : Scope} {cl : List (Str × Addr)} {pos : Pos} (F : Value → Value → Prop)
    (hh : A.handled = none)
    (h : wpAny (model pr w) A (eval iter env) (fun xv s₁ => ∃ r a b c t u v n, xv = .ref r ∧ IsRange s₁.heap r a b c t u v ∧ Builtin.Range.small a b c = true ∧ Builtin.Range.rangeSize a b c = ((n : Nat) : Int) ∧ n ≤ sizeLine ∧
      (∀ C i ti s₃ m₃ E', i < n → s₃.heap.Ns C m₃ → m₃ x = some (.int (a + (i : Nat) * c) ti) → Kp s₁.heap s₃.heap →
        wpAny (model pr w) A (eval elt (compEnvC scope cl C env)) (fun y s₄ => F (.int (a + (i : Nat) * c) ti) y ∧ Keeps s₃ s₄) E' s₃) ∧
      (∀ D h' tk ys (vs : List Value), s₁.heap.get? D = none → h'.IsList D ys → h'.PlainList D ys → vs.length = n → (∀ (j : Nat) (v : Value), vs[j]? = some v → ∃ t, v = Value.int (a + (j : Nat) * c) t) → Paired F vs ys.toList → Kp s₁.heap h' → Q (.ref D) { s₁ with heap := h', toks := tk })) E s)
    (hclos : closureFor scope env = pure cl := by rfl) (hcell : ∀ y ∈ scope.names, y.2 ≠ .cell := by decide) (hkind : scope.kind = .function := by rfl)
    (hnames : ∀ y ∈ scope.names, y.2 = .local → scope.names.lookup y.1 = some .local := by decide) (hx : scope.names.lookup x = some .local := by decide)
    (hs : ∀ x, foldedSetIterable iter env x = pure x := by intro _; rfl) :
    wpAny (model pr w) A (eval (.ListComp elt [⟨.Name x px, iter, [], 0⟩] scope pos) env) Q E s := by
  refine wpAny_ListComp_free (cl := cl) (fun _ => true) F hclos hcell hkind hnames hx (wpAny_mono h (fun xv s₁ h₁ => ?_) fun _ _ e => e) hs
  obtain ⟨r, a, b, c, t, u, v, n, rfl, hr, hsm, hn, hsz, he, hQ⟩ := h₁
  refine wpAny_pyIter_range hr hsm ?_
  have W₀ := Walks.range (prog := pr) (w := w) hh s₁.heap.objs.size a c n
  have W : Walks pr w A s₁.heap.objs.size [s₁.heap.objs.size] [s₁.heap.objs.size] n (fun i v => i < n ∧ ∃ t, v = Value.int (a + (i : Nat) * c) t) (fun i h => IsRangeIter h s₁.heap.objs.size (a + (i : Nat) * c) ((n : Int) - (i : Nat)) c) :=
    ⟨W₀.sub, W₀.frame, fun i s Q E hi st hQ => W₀.item i s Q E hi st fun v h' tk hP => hQ v h' tk ⟨hi, hP⟩, W₀.done, W₀.self⟩
  have old : ∀ b o, s₁.heap.get? b = some o → b ∉ [s₁.heap.objs.size] := fun b o e hb => by
    rw [List.mem_singleton.mp hb, fresh_none] at e; cases e
  refine ⟨_, _, _, _, _, _, rfl, W, hsz, ?_, ?_, ⟨?_, ?_⟩, ?_⟩
  · show IsRangeIter _ _ (a + (0 : Nat) * c) ((n : Int) - (0 : Nat)) c
    rw [hn]
    have e1 : a + ((0 : Nat) : Int) * c = a := by simp
    have e2 : (n : Int) - ((0 : Nat) : Int) = n := by simp
    rw [e1, e2]
    exact Heap.get?_push_size _ rfl
  · intro b hb
    rw [List.mem_singleton.mp hb]
    show s₁.heap.objs.size < (s₁.heap.push _).objs.size
    rw [Heap.size_push]; exact Nat.lt_succ_self _
  · intro C i v s₃ m₃ E' _ hP hn hm hk _
    exact wpAny_tests_nil ⟨rfl, _, _, rfl, fun _ _ e => e⟩
  · rintro C i v s₃ m₃ E' _ ⟨hi, ti, rfl⟩ _ hnn hm hk _
    exact he C i ti s₃ m₃ E' hi hnn hm fun b o e => hk b o (old b o e) (Heap.get?_push_of_some _ e)
  · intro D h' tk ys vs hD hl' hpl hlen hP hF hk
    rw [List.filter_eq_self.mpr (by simp)] at hF
    refine hQ D h' tk ys vs ?_ hl' hpl hlen (fun j v e => (hP j v e).2) hF fun b o e => hk b o (old b o e) (Heap.get?_push_of_some _ e)
    cases e : s₁.heap.get? D with
    | none => rfl
    | some o => have := Heap.get?_push_of_some { cls := .type "range_iterator", data := .fields #[rawInt a, rawInt (Builtin.Range.rangeSize a b c), rawInt c] } e; rw [this] at hD; cases hD
theorem nm_cell {w : World} {A : Around} {s : Shared} {E : Value → Shared → Prop} {Q : Value → Shared → Prop} {env : Env} {x : Str} {pos : Pos} {c : Addr} {v : Value} (hc : env.cells.lookup x = some c) (hv : s.heap.IsCell c (some v)) (h : Q v s)
    (hk : env.scope.kind = .function := by rfl) (hl : env.kindOf x = some .cell := by rfl) (hd : (x == ("__debug__" : Str)) = false := by decide) : wpAny (model pr w) A (eval (.Name x pos) env) Q E s :=
  wpAny_Name (wpAny_loadName_cell hk hl hc hv h) hd
/-- the i-th sign of a tape -/
def signAt (d : Array UInt8) (i : Nat) : Nat := 65536 * (d.getD (3 * i) 0).toNat + 256 * (d.getD (3 * i + 1) 0).toNat + (d.getD (3 * i + 2) 0).toNat
def signsOf (d : Array UInt8) (n : Nat) : List Nat := (List.range n).map (signAt d)
theorem paired_signs {d : Array UInt8} {n : Nat} {vs ys : List Value} (h : Paired (fun v y => ∀ (i : Nat) t, v = Value.int (0 + (i : Nat) * 3) t → i < n → ∃ t', y = Value.str ⟨#[signAt d i]⟩ t') vs ys) :
    ∀ k, (∀ (j : Nat) v, vs[j]? = some v → ∃ t, v = Value.int (0 + ((k + j : Nat) : Int) * 3) t) → k + vs.length ≤ n → Signs ys ((List.range' k vs.length).map (signAt d)) := by
  induction h with
  | nil => intro k _ _; exact .nil
  | cons hf _ ih =>
    intro k hv hk
    simp only [List.length_cons, List.range'_succ, List.map_cons]
    simp only [List.length_cons] at hk
    obtain ⟨t, e⟩ := hv 0 _ rfl
    obtain ⟨t', rfl⟩ := hf k t (by simpa using e) (by omega)
    refine .cons ⟨_, rfl⟩ (ih (k + 1) (fun j v e => ?_) (by omega))
    have := hv (j + 1) v (by simpa using e)
    rw [show k + (j + 1) = k + 1 + j by omega] at this
    exact this
set_option maxHeartbeats 1000000 in
theorem read_tape {w : World} {A : Around} {s : Shared} {mean mg mb} {E : Value → Shared → Prop} {Q : Value → Shared → Prop} (G : Gd w mean mg mb s.heap) {f : Addr} (hmg : mg (Str.ofString "_law_read") = some (.ref f))
   (hh : A.handled = none) (hroom : A.depth + 5 < recursionLimit) {d : Array UInt8} {td : Tok} {n : Nat} (hn : d.size = n * 3) (hz : d.size ≤ 1000) (hok : ∀ i, i < n → signAt d i < 1114112)
   (h : ∀ D h' tk ys, s.heap.get? D = none → h'.IsList D ys → Signs ys.toList (signsOf d n) → Kp s.heap h' → Q (.ref D) { s with heap := h', toks := tk }) : wpAny (model pr w) A (call (.ref f) [.bytes d td]) Q E s := by
  have T := G.T
  obtain ⟨o, pm, code, doc, ho, hda, hcd⟩ := fn_at T (x := Str.ofString "_law_read") (by rfl) hmg
  refine wpAny_call (codeAny_call_cells (binds := [(Str.ofString "tape", .bytes d td)]) (by omega) ho hda T.nolimit hcd rfl (by rfl) rfl ?_ ?_)
  · intro x hx
    rw [List.mem_singleton.mp hx]
    exact .inr ⟨by rfl, by rfl⟩
  intro s₁ X
  have hcell : s₁.heap.IsCell (s.heap.objs.size + 1) (some (.bytes d td)) := X.cell (Str.ofString "tape") (s.heap.objs.size + 1) (by rfl)
  obtain ⟨h₁, tk₁, rfl, hk₁⟩ := X.done
  have T₁ := T.keeps hk₁
  clear X ho hda hcd
  dsimp only at hcell ⊢
  refine wpAny_execs_cons (wpAny_Return_some ?_)
  refine comp_range (cl := [(Str.ofString "tape", s.heap.objs.size + 1)]) (fun v y => ∀ i t, v = .int (0 + (i : Nat) * 3) t → i < n → ∃ t', y = Value.str ⟨#[signAt d i]⟩ t') hh ?_
  · refine Call_ (nm_blt (v := .type "range") T₁ (by boot_fast) ?_)
    iterate 5 walk1
    refine nm_blt (v := .builtin "len") T₁ (by boot_fast) ?_
    iterate 2 walk1
    refine nm_cell (by rfl) hcell ?_
    iterate 5 walk1
    refine call_range_3 (by decide) ?_ (Or.inl (PyProof.noPylong_small (by omega)))
    refine ⟨_, _, _, _, _, _, _, n, rfl, Heap.get?_push_size _ rfl, range_small (by omega) (by omega) (by omega) (by omega) (by omega) (by omega), size_groups (W := 3) (by omega) hn, ?_, ?_, ?_⟩
    · rw [sizeLine_eq]; omega
    · intro C i ti s₃ m₃ E' hi hns hm hk
      have T₃ : TopQ mean mg mb s₃.heap := T₁.keeps fun b o e => hk b o (Heap.get?_push_of_some _ e)
      have hc₃ : s₃.heap.IsCell (s.heap.objs.size + 1) (some (.bytes d td)) := hcell.keeps fun b o e => hk b o (Heap.get?_push_of_some _ e)
      walk1
      refine nm_blt (v := .builtin "chr") T₃ (by boot_fast) ?_
      iterate 6 walk1
      have b0 : (d.getD (3 * i) 0).toNat < 256 := UInt8.toNat_lt _
      have b1 : (d.getD (3 * i + 1) 0).toNat < 256 := UInt8.toNat_lt _
      have b2 : (d.getD (3 * i + 2) 0).toNat < 256 := UInt8.toNat_lt _
      walk1
      refine nm_cell (by rfl) hc₃ (nm_loc (by exact hns) hm ?_)
      refine item_bytes (n := 3 * i) (by omega) (by omega) hz fun t4 k4 => ?_
      iterate 4 walk1
      refine nm_cell (by rfl) hc₃ ?_
      walk1
      refine nm_loc (by exact hns) hm ?_
      iterate 2 walk1
      refine item_bytes (n := 3 * i + 1) (by omega) (by omega) hz fun t5 k5 => ?_
      iterate 3 walk1
      refine nm_cell (by rfl) hc₃ ?_
      walk1
      refine nm_loc (by exact hns) hm ?_
      iterate 2 walk1
      refine item_bytes (n := 3 * i + 2) (by omega) (by omega) hz fun t6 k6 => ?_
      iterate 2 walk1
      have esig : (65536 * ((d.getD (3 * i) 0).toNat : Int) + 256 * ((d.getD (3 * i + 1) 0).toNat : Int) + ((d.getD (3 * i + 2) 0).toNat : Int)) = ((signAt d i : Nat) : Int) := by
        unfold signAt; omega
      rw [esig]
      refine chr_of_range (by omega) (by have := hok i hi; omega) ?_
      refine ⟨fun i' t' e hi' => ?_, _, _, rfl, fun _ _ e => e⟩
      have e1 : (0 + (i : Int) * 3) = (0 + (i' : Int) * 3) := by injection e
      have e2 : i = i' := by omega
      subst e2
      exact ⟨_, rfl⟩
    · intro D h' tk ys vs hD hli hpl hlen hP hF hk
      refine h D h' tk ys ?_ hli ?_ fun b o e => hk b o (Heap.get?_push_of_some _ (hk₁ b o e))
      · cases e : s.heap.get? D with
        | none => rfl
        | some o => exact absurd (hD.symm.trans (Heap.get?_push_of_some _ (hk₁ _ _ e))) (by simp)
      · have := paired_signs hF 0 (fun j v e => by obtain ⟨t, rfl⟩ := hP j v e; exact ⟨t, by rw [Nat.zero_add]⟩) (by omega)
        unfold signsOf
        rw [List.range_eq_range', ← hlen]
        exact this
end Mine
end

section
open PySem PySem.W PyProof.Rows PySem.Calls
open Sem (wp)
set_option Elab.async false
set_option maxRecDepth 100000
namespace Mine
section
variable {P : Ctx → Prop} {w : World} {A : Around} {E : Value → Shared → Prop} {s : Shared} {env : Env} {mean : ExcName → Option Value} {mg mb : Str → Option Value} {Q : Value → Shared → Prop} {x : Str} {px pos : Pos} {e : Expr} {rest : List Expr} {d : DefRec} {h₀ : Heap}
/-- a call of a def of the text, the def standing in the frame's base heap -/
theorem call_defF (T : TopQ mean mg mb h₀) (hk₀ : Kp h₀ s.heap) (hfind : (recsOf q).find? (fun e => e.name == x) = some d)
    (h : ∀ f, mg x = some (.ref f) → wpAny (model pr w) A (spliced (backTo pos (starEach (e :: rest) env))) (fun vs s₁ => Kp h₀ s₁.heap ∧ wpAny (model pr w) A (call (.ref f) vs) Q E s₁) E s)
    (he : starEach (e :: rest) env = (false, eval e env) :: starEach rest env := by rfl)
    (hgl : env.globals = mainGlobals := by rfl) (hk : env.scope.kind = .function := by rfl) (hx : env.kindOf x = some .globalImplicit := by rfl) (hd : (x == ("__debug__" : Str)) = false := by decide)
    (hc : eval (.Call (.Name x px) (e :: rest) [] pos) env = (do callWith pos (← eval (.Name x px) env) [] (backTo pos (starEach (e :: rest) env)) (backToKw pos (keywordEach [] env))) := by rfl) :
    wpAny (model pr w) A (eval (.Call (.Name x px) (e :: rest) [] pos) env) Q E s := by
  obtain ⟨f, hf⟩ := fn_addr T hfind
  obtain ⟨o, pm, code, doc, ho, hda, hcd⟩ := fn_at T hfind hf
  refine Call_ (nm_glob (T.keeps hk₀).g hf ?_ hgl hk hx hd) hc
  exact callWith_def (o := o) hda (wpAny_mono (h f hf) (fun vs s₁ h₁ => ⟨h₁.1 _ _ ho, h₁.2⟩) fun _ _ x => x) he
theorem call_defPF (T : TopQ mean mg mb h₀) (hk₀ : Kp h₀ s.heap) (hfind : (recsOf q).find? (fun e => e.name == x) = some d)
    (h : ∀ f, mg x = some (.ref f) → wpP P (model pr w) A (spliced (backTo pos (starEach (e :: rest) env))) (fun vs s₁ => Kp h₀ s₁.heap ∧ wpP P (model pr w) A (call (.ref f) vs) Q E s₁) E s)
    (he : starEach (e :: rest) env = (false, eval e env) :: starEach rest env := by rfl)
    (hgl : env.globals = mainGlobals := by rfl) (hk : env.scope.kind = .function := by rfl) (hx : env.kindOf x = some .globalImplicit := by rfl) (hd : (x == ("__debug__" : Str)) = false := by decide)
    (hc : eval (.Call (.Name x px) (e :: rest) [] pos) env = (do callWith pos (← eval (.Name x px) env) [] (backTo pos (starEach (e :: rest) env)) (backToKw pos (keywordEach [] env))) := by rfl) :
    wpP P (model pr w) A (eval (.Call (.Name x px) (e :: rest) [] pos) env) Q E s := by
  obtain ⟨f, hf⟩ := fn_addr T hfind
  obtain ⟨o, pm, code, doc, ho, hda, hcd⟩ := fn_at T hfind hf
  rw [hc]
  refine wpP_bind (wpP_of (nm_glob (T.keeps hk₀).g hf ?_ hgl hk hx hd))
  have hh := h f hf
  rw [he] at hh ⊢
  exact wpP_callWith_function (o := o) (wpP_evalArgs (wpP_mono hh (fun vs s₁ h₁ => ⟨⟨h₁.1 _ _ ho, hda⟩, h₁.2⟩) fun _ _ x => x))
end
end Mine
end

section
open PySem PySem.W PyProof.Rows PySem.Calls
open Sem (wp)
set_option Elab.async false
set_option maxRecDepth 100000
namespace Mine
/-- how many signs the prepared text has -/
def plen (cs : List Nat) : Nat := (Txt.join (Str.ofString "") (preps cs)).length
theorem plen_eq (cs : List Nat) : plen cs = ((preps cs).map (·.length)).sum := by
  unfold plen
  show (Builtin.Str.glued (PySem.Str.ofString "") _).length = _
  rw [StrLaws.glued_eq_join]
  cases preps cs with
  | nil => rfl
  | cons a r =>
    have z : (PySem.Str.ofString "").length = 0 := by decide
    rw [len_join_cons, z]
    simp
theorem plen_le (cs : List Nat) : plen cs ≤ 4 * cs.length := by
  rw [plen_eq]; exact preps_len cs
theorem signs_take {vs : List Value} {cs : List Nat} (h : Signs vs cs) : ∀ k, Signs (vs.take k) (cs.take k) := by
  induction h with
  | nil => intro k; simpa using Paired.nil
  | cons a _ ih =>
    intro k
    cases k with
    | zero => simpa using Paired.nil
    | succ k => exact .cons a (ih k)
end Mine
end

section
open PySem PySem.W PyProof.Rows PySem.Calls
open Sem (wp)
set_option Elab.async false
set_option maxRecDepth 100000
namespace Mine
local macro_rules | `(tactic| walk_at "eval Name") => `(tactic| refine tp_builtin (by assumption) (by assumption) (by boot_fast) ?_)
/-- by how much the first k signs are lengthened -/
def gain (cs : List Nat) (k : Nat) : Int := (plen (cs.take k) : Int) - k
def crestTo (cs : List Nat) (least : Int) : Nat → Int × Nat
  | 0 => (0, 0)
  | k + 1 => if gain cs (k + 1) ≥ (crestTo cs least k).1 + least then (gain cs (k + 1), k + 1) else crestTo cs least k
abbrev crL (l : Addr) (least : Int) (tl : Tok) (best place : Value) (vk vm : Option Value) : List (Str × Option Value) :=
  [(Str.ofString "least", some (.int least tl)), (Str.ofString "signs", some (.ref l)), (Str.ofString "best", some best), (Str.ofString "place", some place), (Str.ofString "k", vk), (Str.ofString "more", vm)]
set_option maxHeartbeats 1000000 in
theorem crest {w : World} {A : Around} {s : Shared} {mean mg mb} {E : Value → Shared → Prop} {Q : Value → Shared → Prop} (G : Gd w mean mg mb s.heap) {f : Addr} (hmg : mg (Str.ofString "_law_crest") = some (.ref f))
   (hh : A.handled = none) (hroom : A.depth + 10 < recursionLimit) {l : Addr} {vs : Array Value} {cs : List Nat} {least : Int} {tl : Tok} (hl : s.heap.IsList l vs) (hs : Signs vs.toList cs) (hn : cs.length ≤ 100) (h0 : 0 ≤ least) (h1 : least ≤ 1)
   (h : ∀ t' h' tk, Kp s.heap h' → Q (.int (crestTo cs least cs.length).2 t') { s with heap := h', toks := tk }) : wpAny (model pr w) A (call (.ref f) [.ref l, .int least tl]) Q E s := by
  have T := G.T
  have hlen : vs.size = cs.length := by have := paired_all hs; rw [Array.length_toList] at this; exact this
  refine enter (binds := [(Str.ofString "signs", .ref l), (Str.ofString "least", .int least tl)]) T (by rfl) hmg (by omega) (fun _ _ _ => by rfl) (by show ∀ y ∈ [Str.ofString "signs", Str.ofString "least"], List.lookup y _ = some NameKind.local; decide +kernel) ?_
  intro h₁ cd F0
  have F : Fr s.heap s.heap.objs.size h₁ (lk [(Str.ofString "least", some (.int least tl)), (Str.ofString "signs", some (.ref l)), (Str.ofString "best", none), (Str.ofString "place", none), (Str.ofString "k", none), (Str.ofString "more", none)]) := Fr_entry F0 [Str.ofString "best", Str.ofString "place", Str.ofString "k", Str.ofString "more"]
  clear F0
  have N : News s.heap s.heap.objs.size h₁ [] := News.nil
  dsimp only
  iterate 8 walk1
  rename_i h₂ F₂' N₂ h₃ F₃' N₃
  have F₃ : Fr s.heap s.heap.objs.size h₃ (lk (crL l least tl (.int 0 _) (.int 0 _) none none)) := Fr_set2 F₃'
  clear F₃' F₂' N₂ F N
  dsimp only
  refine wpAny_execs_cons (wpAny_ofP (wpP_For Pk.all (wpP_of ?_)))
  have hl₃ : h₃.IsList l vs := hl.at fun o e => F₃.keep l o e
  iterate 17 walk1
  refine call_range_2 ?_
  have hL : s.heap.objs.size < h₃.objs.size := F₃.ns.lt
  have hsz : Builtin.Range.rangeSize 1 ((vs.size : Int) + 1) 1 = (cs.length : Int) := by
    have := size_ones cs.length
    unfold Builtin.Range.rangeSize at this ⊢
    rw [hlen]
    simp only [show ((1 : Int) > 0) = True by simp, if_true] at this ⊢
    split <;> split at this <;> omega
  refine for_rangeN Pk.all (x := Str.ofString "k") (n := cs.length) hh (Heap.get?_push_size _ rfl) (range_small (by omega) (by omega) (by omega) (by omega) (by omega) (by omega)) (by simpa using hsz)
    (fun i h => ∃ t1 t2 vk vm, Fr s.heap s.heap.objs.size h (lk (crL l least tl (.int (crestTo cs least i).1 t1) (.int (crestTo cs least i).2 t2) vk vm)))
    ?_ ?_ ?_ ?_
  · exact ⟨_, _, none, none, Fr_kp F₃ fun b o e => Heap.get?_push_of_some _ e⟩
  · rintro i h h' I ⟨t1, t2, vk, vm, Fm⟩ hk hI
    have hI' : h₃.objs.size + 1 ≤ I := by
      have : (h₃.push _).objs.size ≤ I := hI
      rw [Heap.size_push] at this; exact this
    obtain ⟨a1, _⟩ := FN_iter (N := h₃.objs.size) Fm News.nil hk (Nat.le_of_lt hI') hL (by simp) (Nat.le_of_lt hL)
    exact ⟨t1, t2, vk, vm, a1⟩
  · rintro i ti h tk I oI hi ⟨t1, t2, vk, vm, Fm⟩ hIle hIo
    have hI' : h₃.objs.size + 1 ≤ I := by
      have : (h₃.push _).objs.size ≤ I := hIle
      rw [Heap.size_push] at this; exact this
    have hLI : s.heap.objs.size < I := Nat.lt_trans hL hI'
    have Nm' := News_cons (news := []) News.nil hIo (Nat.ne_of_gt hLI) (none_of_size F₃ (Nat.le_of_lt hI'))
    refine wpP_of (wpAny_assign_Name (stN Fm Nm' fun h₅ F₅' N₅ => ?_))
    have F₅ : Fr s.heap s.heap.objs.size h₅ (lk (crL l least tl (.int (crestTo cs least i).1 t1) (.int (crestTo cs least i).2 t2) (some (.int (1 + i * 1) ti)) vm)) := Fr_set1 F₅'
    clear F₅'
    have hl₅ : h₅.IsList l vs := hl.at fun o e => F₅.keep l o e
    refine wpP_of ?_
    iterate 7 walk1
    refine call_defF G.T F₅.keep (by rfl) fun f' hf' => ?_
    iterate 9 walk1
    refine args_nil ⟨?_, ?_⟩
    · rename_i F₆ N₆
      exact F₆.keep
    rename_i h₆ F₆ N₆
    clear F₅ N₅
    have G₆ := G.keeps F₆.keep
    have hl₆ : h₆.IsList _ _ := N₆.isList (.head _)
    have e1 : (1 + (i : Int) * 1) = ((i + 1 : Nat) : Int) := by omega
    rw [e1, slicePick_upto'] at hl₆
    refine prepared (cs := cs.take (i + 1)) G₆ hf' (by exact hh) (by show A.depth + 1 + 5 < _; omega) hl₆ (by simpa using signs_take hs (i + 1)) (by rw [List.length_take]; omega) fun t₇ h₇ tk₇ hk₇ => ?_
    have F₇ := Fr_kp F₆ hk₇
    have N₇ := News_kp N₆ hk₇
    clear F₆ N₆
    dsimp only
    have hpl := plen_le (cs.take (i + 1))
    rw [List.length_take] at hpl
    walk1
    refine SBL.len (by show ((plen (cs.take (i + 1)) : Nat) : Int) < _; omega) ?_
    have ek : (((Txt.join (Str.ofString "") (preps (cs.take (i + 1)))).length : Nat) : Int) - (1 + (i : Int) * 1) = gain cs (i + 1) := by
      show ((plen (cs.take (i + 1)) : Nat) : Int) - _ = _
      unfold gain; omega
    iterate 2 walk1
    rw [ek]
    iterate 12 walk1
    · rename_i hc
      iterate 8 walk1
      rename_i F₉ N₉
      refine wpAny_execs_nil (wpAny_execs_nil ⟨_, _, rfl, N₉.get (.tail _ (.head _)), ?_⟩)
      have es : crestTo cs least (i + 1) = (gain cs (i + 1), i + 1) := by
        simp only [crestTo, ge_iff_le, hc, if_true]
      rw [es]
      have e3 : (1 + (i : Int) * 1) = ((i + 1 : Nat) : Int) := by omega
      rw [e3] at F₉
      exact ⟨_, _, _, _, Fr_set3 F₉⟩
    · rename_i F₉ N₉ hc
      refine wpAny_execs_nil (wpAny_execs_nil ⟨_, _, rfl, N₉.get (.tail _ (.head _)), ?_⟩)
      have es : crestTo cs least (i + 1) = crestTo cs least i := by
        simp only [crestTo, ge_iff_le, hc, if_false]
      rw [es]
      exact ⟨_, _, _, _, Fr_set1 F₉⟩
  · rintro h9 tk ⟨t1, t2, vk, vm, Fm⟩
    have N : News s.heap s.heap.objs.size h9 [] := News.nil
    dsimp only
    iterate 3 walk1
    exact h _ _ _ Fm.keep
end Mine
end

section
open PySem PySem.W PyProof.Rows PySem.Calls
open Sem (wp)
set_option Elab.async false
set_option maxRecDepth 100000
namespace Mine
section
variable {P : Ctx → Prop} {w : World} {A : Around} {E : Value → Shared → Prop} {s : Shared} {env : Env}
/-- a for over a list object -/
theorem for_listN (K : Pk P) {target : Expr} {body : List Stmt} {l : Addr} {ol : Obj} {items : Array Value} {Q : Flow → Shared → Prop} (hh : A.handled = none)
    (hol : s.heap.get? l = some ol) (hl : s.heap.IsList l items)
    (J : Nat → Heap → Prop) (hJ : J 0 s.heap)
    (Jkp : ∀ i h h' I, J i h → KpX [I] h h' → s.heap.objs.size ≤ I → J i h')
    (turn : ∀ i v h tk I oI, items[i]? = some v → J i h → s.heap.objs.size ≤ I → h.get? I = some oI → h.get? l = some ol →
      wpP P (model pr w) A (assign target env v) (fun _ s₂ => wpP P (model pr w) A (execs body env) (fun f s₃ => match f with
        | .next | .cont => ∃ h' tk', s₃ = { s with heap := h', toks := tk' } ∧ h'.get? I = some oI ∧ h'.get? l = some ol ∧ J (i + 1) h'
        | .brk => Q .next s₃
        | .ret v => Q (.ret v) s₃) (LoopE w A env E) s₂) (LoopE w A env E) { s with heap := h, toks := tk })
    (done : ∀ h tk, J items.size h → Q .next { s with heap := h, toks := tk })
    (ht : ∀ i v s' (Q' : Unit → Shared → Prop) (E' : Value → Shared → Prop), s'.heap.IsListIter s.heap.objs.size l i → items[i - 1]? = some v → Q' () s' → wpAny (model pr w) A (letOwnedTupleGo target (.ref s.heap.objs.size) v) Q' E' s') :
    wpP P (model pr w) A (pyIter (.ref l)) (fun it s₂ => codeP P (model pr w) A (.forLoop target it body [] env) (fun r s' => match r with | .ok f => Q f s' | .error e => cameBackBy (model pr w) A env E e s') s₂) E s := by
  refine wpP_of (wpAny_pyIter_list hl ?_)
  have hne : l ≠ s.heap.objs.size := Nat.ne_of_lt (Heap.lt_size hol)
  have W := Walks.list (prog := pr) (w := w) hh s.heap.objs.size l hne items
  have old : Kp s.heap (s.heap.push { cls := .type "list_iterator", data := .fields #[.ref l, .int 0 0] }) := fun b o e => Heap.get?_push_of_some _ e
  have hlist : ∀ h : Heap, h.IsList l items → h.get? l = none ∨ ∃ o, h.get? l = some o := fun h _ => by cases h.get? l <;> simp
  refine for_walksN K (St := fun i h => (h.IsListIter s.heap.objs.size l i ∧ h.IsList l items)) (Pv := fun i v => items[i]? = some v) W (fun i h => J i h ∧ h.get? l = some ol) ?_ ?_ ?_ ?_ ?_ ?_
  · exact ⟨⟨_, Heap.get?_push_size _ rfl, rfl, rfl⟩, hl.push _⟩
  · exact ⟨Jkp 0 s.heap _ s.heap.objs.size hJ old.x (Nat.le_refl _), old _ _ hol⟩
  · rintro i h h' ⟨hj, ho⟩ hk
    exact ⟨Jkp i h h' _ hj hk (Nat.le_refl _), hk _ _ (fun q => hne (List.mem_singleton.mp q)) ho⟩
  · rintro i v h tk hi hv ⟨hj, ho⟩ hst
    obtain ⟨oI, hoI, _⟩ := id hst.1
    refine wpP_mono (turn i v h tk _ oI hv hj (Nat.le_refl _) hoI ho) (fun _ s₂ h₂ => wpP_mono h₂ (fun f s₃ h₃ => ?_) fun _ _ e => e) fun _ _ e => e
    have fin : (∃ h' tk', s₃ = { s with heap := h', toks := tk' } ∧ h'.get? s.heap.objs.size = some oI ∧ h'.get? l = some ol ∧ J (i + 1) h') → ∃ h' tk', s₃ = { s with heap := h', toks := tk' } ∧ (∀ b ∈ [s.heap.objs.size, l], ∀ o, h.get? b = some o → h'.get? b = some o) ∧ J (i + 1) h' ∧ h'.get? l = some ol := by
      rintro ⟨h', tk', e, hI, hl', hj'⟩
      refine ⟨h', tk', e, fun b hb o eo => ?_, hj', hl'⟩
      rcases List.mem_cons.mp hb with rfl | hb
      · rw [hoI] at eo; rw [hI]; exact eo
      · rw [List.mem_singleton.mp hb] at eo ⊢
        rw [ho] at eo; rw [hl']; exact eo
    cases f with
    | next => exact fin h₃
    | cont => exact fin h₃
    | brk => exact h₃
    | ret v => exact h₃
  · rintro h tk ⟨hj, _⟩
    exact done h tk hj
  · intro i v s' Q' E' hst hv hq
    exact ht i v s' Q' E' hst.1 hv hq
theorem go_pair {elts : List Expr} {x1} {pos : Pos} {I l T : Addr} {i : Nat} {s' : Shared} {Q' : Unit → Shared → Prop} {E' : Value → Shared → Prop} (hit : s'.heap.IsListIter I l i) (hQ : Q' () s') :
    wpAny (model pr w) A (letOwnedTupleGo (.Tuple elts x1 pos) (.ref I) (.ref T)) Q' E' s' := wpAny_letOwnedTupleGo_listiter hit hQ
end
end Mine
end

section
open PySem PySem.W PyProof.Rows PySem.Calls
open Sem (wp)
set_option Elab.async false
set_option maxRecDepth 100000
namespace Mine
local macro_rules | `(tactic| walk_at "eval Name") => `(tactic| refine tp_builtin (by assumption) (by assumption) (by boot_fast) ?_)
/-- w is what preparing makes of the one sign c -/
def rightB (c : Int) (w : Str) : Bool := decide (0 ≤ c) && decide (c < 1114112) && decide (w = if b1S c then Str.ofString "" else b3 c.toNat)
abbrev Right (c : Int) (w : Str) : Prop := rightB c w = true
def runsL : List (Int × Int) := [(173, 1), (847, 1), (6150, 1), (6155, 3), (8203, 3), (8288, 1), (65024, 16), (65279, 1)]
def runAt (i : Nat) : Int × Int := runsL.getD i (0, 0)
def pre (i : Nat) : Int := ((runsL.take i).map (·.2)).sum
theorem right_run (i : Nat) (hi : i < 8) (p : Int) (h0 : 0 ≤ p) (h1 : p < (runAt i).2) : Right ((runAt i).1 + p) (Str.ofString "") := by
  have all : (List.range 8).all (fun i => (List.range 16).all fun j => !decide ((j : Int) < (runAt i).2) || rightB ((runAt i).1 + (j : Int)) (Str.ofString "")) = true := by decide +kernel
  have a1 := List.all_eq_true.mp all i (List.mem_range.mpr hi)
  have h16 : (runAt i).2 ≤ 16 := by
    have : (List.range 8).all (fun i => decide ((runAt i).2 ≤ 16)) = true := by decide +kernel
    exact of_decide_eq_true (List.all_eq_true.mp this i (List.mem_range.mpr hi))
  have a2 := List.all_eq_true.mp a1 p.toNat (List.mem_range.mpr (by omega))
  have e : ((p.toNat : Nat) : Int) = p := by omega
  rw [e] at a2
  simpa [h1] using a2
theorem right_beside (i : Nat) (hi : i < 8) : Right ((runAt i).1 + (runAt i).2) ⟨#[((runAt i).1 + (runAt i).2).toNat]⟩ ∧ Right ((runAt i).1 - 1) ⟨#[((runAt i).1 - 1).toNat]⟩ := by
  have all : (List.range 8).all (fun i => rightB ((runAt i).1 + (runAt i).2) ⟨#[((runAt i).1 + (runAt i).2).toNat]⟩ && rightB ((runAt i).1 - 1) ⟨#[((runAt i).1 - 1).toNat]⟩) = true := by decide +kernel
  exact Bool.and_eq_true_iff.mp (List.all_eq_true.mp all i (List.mem_range.mpr hi))
def greatAt (i : Nat) : Int := [65, 1040, 65313].getD i 0
def greatB (i : Nat) : Bool := (List.range 26).all fun (l : Nat) => rightB (greatAt i + (l : Int)) ⟨#[(greatAt i + 32 + (l : Int)).toNat]⟩
theorem great_0 : greatB 0 = true := by decide +kernel
theorem great_1 : greatB 1 = true := by decide +kernel
theorem great_2 : greatB 2 = true := by decide +kernel
theorem right_great (i l : Nat) (hi : i < 3) (hl : l < 26) : Right (greatAt i + l) ⟨#[(greatAt i + 32 + l).toNat]⟩ := by
  have all : greatB i = true := by
    rcases (by omega : i = 0 ∨ i = 1 ∨ i = 2) with rfl | rfl | rfl
    · exact great_0
    · exact great_1
    · exact great_2
  exact List.all_eq_true.mp all l (List.mem_range.mpr hl)
def formAt (i : Nat) : Int := [0, 1, 2, 4, 7, 8, 9, 10, 11, 12].getD i 0
def mathsB (i : Nat) : Bool := (List.range 26).all fun (l : Nat) => rightB (119808 + 52 * formAt i + (l : Int)) ⟨#[(97 + (l : Int)).toNat]⟩
theorem maths_0 : mathsB 0 = true := by decide +kernel
theorem maths_1 : mathsB 1 = true := by decide +kernel
theorem maths_2 : mathsB 2 = true := by decide +kernel
theorem maths_3 : mathsB 3 = true := by decide +kernel
theorem maths_4 : mathsB 4 = true := by decide +kernel
theorem maths_5 : mathsB 5 = true := by decide +kernel
theorem maths_6 : mathsB 6 = true := by decide +kernel
theorem maths_7 : mathsB 7 = true := by decide +kernel
theorem maths_8 : mathsB 8 = true := by decide +kernel
theorem maths_9 : mathsB 9 = true := by decide +kernel
theorem right_maths (i l : Nat) (hi : i < 10) (hl : l < 26) : Right (119808 + 52 * formAt i + l) ⟨#[(97 + (l : Int)).toNat]⟩ := by
  have all : mathsB i = true := by
    rcases (by omega : i = 0 ∨ i = 1 ∨ i = 2 ∨ i = 3 ∨ i = 4 ∨ i = 5 ∨ i = 6 ∨ i = 7 ∨ i = 8 ∨ i = 9) with rfl | rfl | rfl | rfl | rfl | rfl | rfl | rfl | rfl | rfl
    · exact maths_0
    · exact maths_1
    · exact maths_2
    · exact maths_3
    · exact maths_4
    · exact maths_5
    · exact maths_6
    · exact maths_7
    · exact maths_8
    · exact maths_9
  exact List.all_eq_true.mp all l (List.mem_range.mpr hl)
def iotaAt (i : Nat) : Int := [7936, 7968, 8032].getD i 0
theorem right_iota (p : Nat) (hp : p < 48) : Right (8064 + p) (⟨#[(iotaAt (p / 16) + (p % 8 : Nat)).toNat]⟩ ++ ⟨#[953]⟩) := by
  have all : (List.range 48).all (fun (p : Nat) => rightB (8064 + (p : Int)) (⟨#[(iotaAt (p / 16) + (p % 8 : Nat)).toNat]⟩ ++ ⟨#[953]⟩)) = true := by decide +kernel
  exact List.all_eq_true.mp all p (List.mem_range.mpr hp)
def wordsL : List (Int × Str) := [(8481, "tel"), (13169, "hpa"), (13201, "khz"), (13202, "mhz"), (13203, "ghz"), (13204, "thz"), (13226, "kpa"), (13227, "mpa"), (13228, "gpa"), (13254, "c" ++ ⟨#[8725]⟩ ++ "kg"), (13255, "co."), (13273, "ppm"), (64259, "ffi"), (64260, "ffl")]
def wordAt (i : Nat) : Int × Str := wordsL.getD i (0, "")
theorem right_word (i : Nat) (hi : i < 14) : Right (wordAt i).1 (wordAt i).2 := by
  have all : (List.range 14).all (fun i => rightB (wordAt i).1 (wordAt i).2) = true := by decide +kernel
  exact List.all_eq_true.mp all i (List.mem_range.mpr hi)
end Mine
end

section
open PySem PySem.W PyProof.Rows PySem.Calls
open Sem (wp)
set_option Elab.async false
set_option maxRecDepth 100000
namespace Mine
local macro_rules | `(tactic| walk_at "eval Name") => `(tactic| refine tp_builtin (by assumption) (by assumption) (by boot_fast) ?_)
abbrev dL (n : Int) (tn : Tok) (kind place runs first size code letter form words : Option Value) : List (Str × Option Value) :=
  [(Str.ofString "number", some (.int n tn)), (Str.ofString "kind", kind), (Str.ofString "place", place), (Str.ofString "runs", runs), (Str.ofString "first", first), (Str.ofString "size", size), (Str.ofString "code", code), (Str.ofString "letter", letter), (Str.ofString "form", form), (Str.ofString "words", words)]
abbrev tupO (xs : Array Value) : Obj := { cls := .type "tuple", data := .seq xs }
theorem pre_succ (i : Nat) (hi : i < 8) : pre (i + 1) = pre i + (runAt i).2 := by
  rcases i with _|_|_|_|_|_|_|_|i <;> first | rfl | omega
theorem item_list {w : World} {A : Around} {s : Shared} {E : Value → Shared → Prop} {Q : Value → Shared → Prop} {value slice : Expr} {l : Addr} {items : Array Value} {k : Int} {u : Tok} {n : Nat} {v : Value} (hl : s.heap.IsList l items) (hk : k = n) (hz : n < 1000) (hx : items[n]? = some v) (h : Q v s)
    (hs : subscripted slice false (.ref l) (.int k u) = operate [.ref l, .int k u] (getItem (.ref l) (.int k u)) := by with_unfolding_all rfl) :
    wpAny (model pr w) A (subscriptTail value slice (.ref l) (.int k u)) Q E s := by
  subst hk
  exact tail_any hl.typeIs slot_list_getitem.lookup (wpAny_getItem_list hl (by omega) (by omega) (by simpa using hx) h) hs
theorem item_listE {w : World} {A : Around} {s : Shared} {E : Value → Shared → Prop} {Q : Value → Shared → Prop} {value slice : Expr} {l : Addr} {items : Array Value} {k : Int} {u : Tok} {n : Nat} {f : Nat → Int} (hl : s.heap.IsList l items) (hk : k = n) (hz : n < 1000) (hx : ∃ t, items[n]? = some (.int (f n) t)) (h : ∀ t, Q (.int (f n) t) s)
    (hs : subscripted slice false (.ref l) (.int k u) = operate [.ref l, .int k u] (getItem (.ref l) (.int k u)) := by with_unfolding_all rfl) :
    wpAny (model pr w) A (subscriptTail value slice (.ref l) (.int k u)) Q E s :=
  let ⟨t, e⟩ := hx
  item_list hl hk hz e (h t) hs
theorem item_listM {w : World} {A : Around} {s : Shared} {E : Value → Shared → Prop} {Q : Value → Shared → Prop} {value slice : Expr} {l : Addr} {items : Array Value} {k : Int} {u : Tok} {n : Nat} {z : Int} {x : Str} {news : List (Addr × Obj)} (hl : s.heap.IsList l items) (hk : k = n) (hz : n < 1000) (hx : ∃ a u1 u2, items[n]? = some (.ref a) ∧ (a, tupO #[.int z u1, .str x u2]) ∈ news) (h : ∀ a u1 u2, (a, tupO #[.int z u1, .str x u2]) ∈ news → Q (.ref a) s)
    (hs : subscripted slice false (.ref l) (.int k u) = operate [.ref l, .int k u] (getItem (.ref l) (.int k u)) := by with_unfolding_all rfl) :
    wpAny (model pr w) A (subscriptTail value slice (.ref l) (.int k u)) Q E s :=
  let ⟨a, u1, u2, e, hm⟩ := hx
  item_list hl hk hz e (h a u1 u2 hm) hs
set_option maxHeartbeats 1000000 in
theorem drawn {w : World} {A : Around} {s : Shared} {mean mg mb} {E : Value → Shared → Prop} {Q : Value → Shared → Prop} (G : Gd w mean mg mb s.heap) {f : Addr} (hmg : mg (Str.ofString "_law_drawn") = some (.ref f))
   (hh : A.handled = none) (hroom : A.depth + 10 < recursionLimit) {n : Int} {tn : Tok} (h0 : 0 ≤ n) (h1 : n < 1000000)
   (h : ∀ a c x t1 t2 h' tk, Kp s.heap h' → s.heap.get? a = none → h'.get? a = some (tupO #[.int c t1, .str x t2]) → Right c x → Q (.ref a) { s with heap := h', toks := tk }) : wpAny (model pr w) A (call (.ref f) [.int n tn]) Q E s := by
  have T := G.T
  refine enter (binds := [(Str.ofString "number", .int n tn)]) T (by rfl) hmg (by omega) (fun _ _ _ => by rfl) (by show ∀ y ∈ [Str.ofString "number"], List.lookup y _ = some NameKind.local; decide +kernel) ?_
  intro h₁ cd F0
  have F : Fr s.heap s.heap.objs.size h₁ (lk (dL n tn none none none none none none none none none)) := Fr_entry F0 [Str.ofString "kind", Str.ofString "place", Str.ofString "runs", Str.ofString "first", Str.ofString "size", Str.ofString "code", Str.ofString "letter", Str.ofString "form", Str.ofString "words"]
  clear F0
  have N : News s.heap s.heap.objs.size h₁ [] := News.nil
  dsimp only
  iterate 84 walk1
  rename_i h₃ F₃ N₃
  obtain ⟨D, newsR, items, t1, t2, F₄, N₄, ⟨ol, hol, hod⟩, hsz, hrows⟩ : ∃ D newsR items t1 t2, Fr s.heap s.heap.objs.size h₃ (lk (dL n tn (some (.int (n.fmod 8) t1)) (some (.int (n.fdiv 8) t2)) (some (.ref D)) none none none none none none)) ∧ News s.heap s.heap.objs.size h₃ newsR ∧ (∃ ol, (D, ol) ∈ newsR ∧ ol.cls = .type "list" ∧ ∃ n, ol.data = .seq items n) ∧ items.size = 8 ∧
      ∀ i, i < 8 → ∃ a t1 t2, items[i]? = some (.ref a) ∧ (a, tupO #[.int (runAt i).1 t1, .int (runAt i).2 t2]) ∈ newsR := by
    refine ⟨_, _, _, _, _, Fr_set3 F₃, N₃, ⟨_, .head _, rfl, _, rfl⟩, rfl, fun i hi => ?_⟩
    rcases i with _|_|_|_|_|_|_|_|i
    all_goals first | omega | (refine' ⟨_, _, _, rfl, ?_⟩; rotate_left 2; (repeat (first | exact List.Mem.head _ | apply List.Mem.tail)))
  clear F₃ N₃ F N
  have hm0 : 0 ≤ n.fmod 8 := by rw [Int.fmod_eq_emod_of_nonneg _ (by decide)]; omega
  have hm8 : n.fmod 8 < 8 := by rw [Int.fmod_eq_emod_of_nonneg _ (by decide)]; omega
  have hd0 : 0 ≤ n.fdiv 8 := by rw [Int.fdiv_eq_ediv_of_nonneg _ (by decide)]; omega
  generalize n.fmod 8 = kind at *
  generalize n.fdiv 8 = place at *
  dsimp only
  iterate 8 walk1
  · rename_i hk
    iterate 7 walk1
    rename_i h₅ F₅' N₅
    have hm0' : 0 ≤ place.fmod 27 := by rw [Int.fmod_eq_emod_of_nonneg _ (by decide)]; omega
    have hm27 : place.fmod 27 < 27 := by rw [Int.fmod_eq_emod_of_nonneg _ (by decide)]; omega
    obtain ⟨t3, F₅⟩ : ∃ t3, Fr s.heap s.heap.objs.size h₅ (lk (dL n tn (some (.int kind t1)) (some (.int (place.fmod 27) t3)) (some (.ref D)) none none none none none none)) := ⟨_, Fr_set1 F₅'⟩
    clear F₅' F₄ N₄
    generalize place.fmod 27 = p0 at *
    walk1
    refine wpAny_ofP (wpP_For Pk.all (wpP_of ?_))
    walk1
    have hL : s.heap.objs.size < h₅.objs.size := F₅.ns.lt
    have hol₅ : h₅.get? D = some ol := N₅.get hol
    have hD₅ : h₅.IsList D items := ⟨ol, hol₅, hod⟩
    refine for_listN Pk.all (by exact hh) hol₅ hD₅ (fun i h => ∃ t vf vs, Fr s.heap s.heap.objs.size h (lk (dL n tn (some (.int kind t1)) (some (.int (p0 - pre i) t)) (some (.ref D)) vf vs none none none none)) ∧ News s.heap s.heap.objs.size h newsR ∧ pre i ≤ p0) ?_ ?_ ?_ ?_ ?_
    · exact ⟨_, none, none, by simpa [pre] using F₅, N₅, by simpa [pre] using hm0'⟩
    · rintro i h h' I ⟨t, vf, vs, Fm, Nm, hp⟩ hk hI
      obtain ⟨a1, a2⟩ := FN_iter (N := h₅.objs.size) Fm Nm hk hI hL (news_lt N₅) (Nat.le_of_lt hL)
      exact ⟨t, vf, vs, a1, a2, hp⟩
    · rintro i v h9 tk I oI hv ⟨t, vf, vs, Fm, Nm, hp⟩ hI hIo hlo
      have hi : i < 8 := by
        have := (Array.getElem?_eq_some_iff.mp hv).1
        omega
      obtain ⟨a, u1, u2, hia, haN⟩ := hrows i hi
      rw [hia] at hv
      cases hv
      have Nm' := News_cons Nm hIo (Nat.ne_of_gt (Nat.lt_of_lt_of_le hL hI)) (none_of_size F₅ hI)
      refine wpP_of (unpackN_ Fm Nm' ⟨_, Nm.get haN, rfl, _, rfl⟩ hh rfl rfl fun h10 F10 N10 => ?_)
      iterate 7 walk1
      refine wpP_of ?_
      iterate 8 walk1
      · rename_i hlt
        iterate 12 walk1
        rename_i F11 N11
        exact h _ _ _ _ _ _ _ F11.keep (N11.fresh (.head _)) (N11.get (.head _)) (right_run i hi _ (by omega) hlt)
      · rename_i hlt
        have ep := pre_succ i hi
        iterate 8 walk1
        rename_i F11 N11
        refine wpAny_execs_nil ⟨_, _, rfl, N11.get (.head _), N11.get (.tail _ hol), ?_⟩
        have e1 : p0 - pre i - (runAt i).2 = p0 - pre (i + 1) := by omega
        rw [e1] at F11
        exact ⟨_, _, _, Fr_set3 F11, News_tail N11, by omega⟩
    · rintro h9 tk ⟨t, vf, vs, Fm, Nm, hp⟩
      exfalso
      rw [hsz] at hp
      have : pre 8 = 27 := by decide
      omega
    · rintro i v s' Q' E' hit hv hq
      have hi : i - 1 < 8 := by
        have := (Array.getElem?_eq_some_iff.mp hv).1
        omega
      obtain ⟨a, u1, u2, hia, haN⟩ := hrows _ hi
      rw [hia] at hv
      cases hv
      exact go_pair hit hq
  · rename_i hk
    iterate 9 walk1
    · rename_i hk3
      iterate 8 walk1
      have hm0' : 0 ≤ place.fmod 8 := by rw [Int.fmod_eq_emod_of_nonneg _ (by decide)]; omega
      have hm8' : place.fmod 8 < 8 := by rw [Int.fmod_eq_emod_of_nonneg _ (by decide)]; omega
      generalize place.fmod 8 = p0 at *
      obtain ⟨a, u1, u2, hia, haN⟩ := hrows p0.toNat (by omega)
      refine item_list (n := p0.toNat) ⟨_, N₄.get hol, hod⟩ (by omega) (by omega) hia ?_
      refine unpackN_ F₄ N₄ ⟨_, N₄.get haN, rfl, _, rfl⟩ hh rfl rfl fun h10 F10 N10 => ?_
      iterate 7 walk1
      rename_i F11' N11
      have F11 := Fr_set2 F11'
      clear F11' F10 N10
      have hrange : 0 ≤ (runAt p0.toNat).1 - 1 ∧ (runAt p0.toNat).1 + (runAt p0.toNat).2 < 1114112 ∧ 0 ≤ (runAt p0.toNat).2 := by
        have : ∀ i, i < 8 → 0 ≤ (runAt i).1 - 1 ∧ (runAt i).1 + (runAt i).2 < 1114112 ∧ 0 ≤ (runAt i).2 := by decide
        exact this _ (by omega)
      obtain ⟨hr1, hr2⟩ := right_beside p0.toNat (by omega)
      generalize (runAt p0.toNat).1 = r1 at *
      generalize (runAt p0.toNat).2 = r2 at *
      iterate 15 walk1
      · iterate 17 walk1
        refine chr_of_range (by omega) (by omega) ?_
        iterate 2 walk1
        rename_i F12 N12
        exact h _ _ _ _ _ _ _ F12.keep (N12.fresh (.head _)) (N12.get (.head _)) hr1
      · iterate 17 walk1
        refine chr_of_range (by omega) (by omega) ?_
        iterate 2 walk1
        rename_i F12 N12
        exact h _ _ _ _ _ _ _ F12.keep (N12.fresh (.head _)) (N12.get (.head _)) hr2
    · rename_i hk3
      iterate 9 walk1
      · rename_i hk4
        iterate 17 walk1
        have hl0 : 0 ≤ place.fmod 26 := by rw [Int.fmod_eq_emod_of_nonneg _ (by decide)]; omega
        have hl26 : place.fmod 26 < 26 := by rw [Int.fmod_eq_emod_of_nonneg _ (by decide)]; omega
        have hq0 : 0 ≤ place.fdiv 26 := by rw [Int.fdiv_eq_ediv_of_nonneg _ (by decide)]; omega
        have hf0 : 0 ≤ (place.fdiv 26).fmod 13 := by rw [Int.fmod_eq_emod_of_nonneg _ (by decide)]; omega
        have hf13 : (place.fdiv 26).fmod 13 < 13 := by rw [Int.fmod_eq_emod_of_nonneg _ (by decide)]; omega
        generalize (place.fdiv 26).fmod 13 = form at *
        generalize place.fmod 26 = letter at *
        iterate 8 walk1
        · rename_i hform
          iterate 16 walk1
          rename_i F12 N12
          have hj3 : (form - 10).toNat < 3 := by omega
          obtain ⟨l, rfl⟩ : ∃ l : Nat, letter = l := ⟨letter.toNat, by omega⟩
          have hr := right_great (form - 10).toNat l hj3 (by omega)
          have hg : 0 ≤ greatAt (form - 10).toNat ∧ greatAt (form - 10).toNat ≤ 65313 := by
            have : ∀ i, i < 3 → 0 ≤ greatAt i ∧ greatAt i ≤ 65313 := by decide
            exact this _ hj3
          refine item_listE (n := (form - 10).toNat) (f := greatAt) (N12.isList (.head _)) (by omega) (by omega) ?_ ?_
          · generalize (form - 10).toNat = j at hj3
            rcases j with _|_|_|j
            all_goals first | exact ⟨_, rfl⟩ | omega
          intro tg
          generalize greatAt (form - 10).toNat = g at *
          iterate 22 walk1
          refine chr_of_range (by omega) (by omega) ?_
          iterate 2 walk1
          rename_i F14 N14
          exact h _ _ _ _ _ _ _ F14.keep (N14.fresh (.head _)) (N14.get (.head _)) hr
        · rename_i hform
          iterate 35 walk1
          rename_i F12 N12
          obtain ⟨j, rfl⟩ : ∃ j : Nat, form = j := ⟨form.toNat, by omega⟩
          obtain ⟨l, rfl⟩ : ∃ l : Nat, letter = l := ⟨letter.toNat, by omega⟩
          have hj10 : j < 10 := by omega
          have hr := right_maths j l hj10 (by omega)
          have hg : 0 ≤ formAt j ∧ formAt j ≤ 12 := by
            have : ∀ i, i < 10 → 0 ≤ formAt i ∧ formAt i ≤ 12 := by decide
            exact this _ hj10
          refine item_listE (n := j) (f := formAt) (N12.isList (.head _)) rfl (by omega) ?_ ?_
          · rcases j with _|_|_|_|_|_|_|_|_|_|j
            all_goals first | exact ⟨_, rfl⟩ | omega
          intro tg
          generalize formAt j = g at *
          iterate 14 walk1
          refine chr_of_range (by omega) (by omega) ?_
          iterate 2 walk1
          rename_i F14 N14
          exact h _ _ _ _ _ _ _ F14.keep (N14.fresh (.head _)) (N14.get (.head _)) hr
      · rename_i hk4
        iterate 9 walk1
        · rename_i hk7
          iterate 7 walk1
          rename_i F11' N11
          obtain ⟨t5, F11⟩ : ∃ t5, Fr s.heap s.heap.objs.size _ (lk (dL n tn (some (.int kind t1)) (some (.int (place.fmod 48) t5)) (some (.ref D)) none none none none none none)) := ⟨_, Fr_set1 F11'⟩
          clear F11'
          have hl0 : 0 ≤ place.fmod 48 := by rw [Int.fmod_eq_emod_of_nonneg _ (by decide)]; omega
          have hl26 : place.fmod 48 < 48 := by rw [Int.fmod_eq_emod_of_nonneg _ (by decide)]; omega
          generalize place.fmod 48 = p0 at *
          obtain ⟨p, rfl⟩ : ∃ l : Nat, p0 = l := ⟨p0.toNat, by omega⟩
          have hr := right_iota p (by omega)
          iterate 29 walk1
          rename_i F12 N12
          have ed : (p : Int).fdiv 16 = ((p / 16 : Nat) : Int) := by rw [Int.fdiv_eq_ediv_of_nonneg _ (by decide)]; omega
          have em : (p : Int).fmod 8 = ((p % 8 : Nat) : Int) := by rw [Int.fmod_eq_emod_of_nonneg _ (by decide)]; omega
          have hj : p / 16 < 3 := by omega
          have hj8 : p % 8 < 8 := by omega
          have hg : 0 ≤ iotaAt (p / 16) ∧ iotaAt (p / 16) ≤ 8032 := by
            have : ∀ i, i < 3 → 0 ≤ iotaAt i ∧ iotaAt i ≤ 8032 := by decide
            exact this _ hj
          refine item_listE (n := p / 16) (f := iotaAt) (N12.isList (.head _)) ed (by omega) ?_ ?_
          · generalize p / 16 = j at hj
            rcases j with _|_|_|j
            all_goals first | exact ⟨_, rfl⟩ | omega
          intro tg
          generalize iotaAt (p / 16) = g at *
          iterate 4 walk1
          rw [em]
          generalize p % 8 = m8 at *
          iterate 2 walk1
          refine chr_of_range (by omega) (by omega) ?_
          iterate 6 walk1
          refine chr_of_range (by omega) (by omega) ?_
          iterate 3 walk1
          rename_i F14 N14
          exact h _ _ _ _ _ _ _ F14.keep (N14.fresh (.head _)) (N14.get (.head _)) hr
        · rename_i hk7
          iterate 90 walk1
          refine chr_of_range (by decide) (by decide) ?_
          iterate 48 walk1
          rename_i F14 N14
          have hl0 : 0 ≤ place.fmod 14 := by rw [Int.fmod_eq_emod_of_nonneg _ (by decide)]; omega
          have hl26 : place.fmod 14 < 14 := by rw [Int.fmod_eq_emod_of_nonneg _ (by decide)]; omega
          obtain ⟨p, hp⟩ : ∃ l : Nat, place.fmod 14 = l := ⟨(place.fmod 14).toNat, by omega⟩
          have hp14 : p < 14 := by omega
          have hr := right_word p hp14
          refine item_listM (n := p) (z := (wordAt p).1) (x := (wordAt p).2) (N14.isList (.head _)) hp (by omega) ?_ (fun a u1 u2 hm => h a _ _ _ _ _ _ F14.keep (N14.fresh hm) (N14.get hm) hr)
          clear hr hp
          rcases p with _|_|_|_|_|_|_|_|_|_|_|_|_|_|p
          all_goals first | omega | (refine' ⟨_, _, _, rfl, ?_⟩; rotate_left 2; (repeat (first | exact List.Mem.head _ | apply List.Mem.tail)))
end Mine
end

section
open PySem PySem.W PyProof.Rows PySem.Calls
open Sem (wp)
set_option Elab.async false
set_option maxRecDepth 100000
namespace Mine
theorem LoopE_mono {w : World} {A : Around} {env : Env} {E E' : Value → Shared → Prop} (h : ∀ e s, E e s → E' e s) {e : Value} {s : Shared} (x : LoopE w A env E e s) : LoopE w A env E' e s :=
  wpAny_mono x (fun _ _ y => wpAny_mono y (fun _ _ z => h _ _ z) fun _ _ z => h _ _ z) fun _ _ y => wpAny_mono y (fun _ _ z => h _ _ z) fun _ _ z => h _ _ z
theorem size_out {n g : Nat} (hg : n = g * 3 + 2) : (Builtin.Range.rangeSize 0 (n : Int) 3) = ((g + 1 : Nat) : Int) := by
  unfold Builtin.Range.rangeSize
  rw [if_pos (by omega), if_pos (by omega)]
  omega
set_option maxHeartbeats 2000000 in
theorem byteswap_out {base : Heap} {outer : List Env} {w : World} {A : Around} {s : Shared} {mean mg mb} {E : Value → Shared → Prop} {Q : Value → Shared → Prop} (G : Gd w mean mg mb s.heap) {f : Addr} (hmg : mg (Str.ofString "_byteswap") = some (.ref f))
   (K : Below A base outer s.heap) (hh : A.handled = none) (hroom : A.depth + 5 < recursionLimit) {d : Array UInt8} {td tw : Tok} {g : Nat} (hg : d.size = g * 3 + 2) (hz : d.size ≤ 1000)
   (hE : ∀ e h' tk, RaisedSN base s.heap outer e (.type "IndexError") [] h' → s.heap.UpToSlots h' → E (.ref e) { s with heap := h', toks := tk }) : wpP Clean (model pr w) A (call (.ref f) [.bytes d td, .int 3 tw]) Q E s := by
  obtain ⟨W, hWe⟩ : ∃ W : Nat, W = 3 := ⟨3, rfl⟩
  have e3 : (3 : Int) = (W : Int) := by omega
  rw [e3]
  have hg' : d.size = g * W + 2 := by rw [hWe]; exact hg
  have hW : 0 < W := by omega
  have hW' : W ≤ 1000 := by omega
  have T := G.T
  refine enterP Pk.clean (binds := [(Str.ofString "data", .bytes d td), (Str.ofString "width", .int W tw)]) T (by rfl) hmg (by omega) (fun _ _ _ => by rfl) (by show ∀ y ∈ [Str.ofString "data", Str.ofString "width"], List.lookup y _ = some NameKind.local; decide +kernel) ?_
  intro h₁ cd F0
  have F : Fr s.heap s.heap.objs.size h₁ (lk (bsL d td W tw none none none)) := Fr_entry F0 [Str.ofString "swapped_data", Str.ofString "i", Str.ofString "j"]
  clear F0
  have N : News s.heap s.heap.objs.size h₁ [] := News.nil
  dsimp only
  refine wpP_execs_cons (wpP_Assign_Name ?_)
  refine wpP_bind (m := eval (.Name _ _) _) (wpP_of (tp_builtin (v := .type "bytearray") F T boot_ba (wpP_callWith_type1 (wpP_of ?_))))
  walk1
  walk1
  refine tp_builtin F T (by boot_fast) ?_
  iterate 6 walk1
  have hL : s.heap.objs.size < h₁.objs.size := F.ns.lt
  refine call_bytearray (by rw [sizeLine_eq]; omega) fun h₂ hB hk₂ => ?_
  have hBn : s.heap.get? h₁.objs.size = none := none_of_size F (Nat.le_refl _)
  have F₂ := Fr_kp F hk₂
  have N₂ : News s.heap s.heap.objs.size h₂ [(h₁.objs.size, baObj (swapTo d W 0))] := fun p hp => by
    rw [List.mem_singleton.mp hp]; exact ⟨hB, Nat.ne_of_gt hL, hBn⟩
  dsimp only at F₂ N₂ ⊢
  have hBlt : h₁.objs.size < h₂.objs.size := Heap.lt_size hB
  generalize h₁.objs.size = B at *
  clear hB F N hk₂
  refine wpP_of (stN F₂ N₂ fun h₃ F₃' N₃ => ?_)
  have F₃ : Fr s.heap s.heap.objs.size h₃ (lk (bsL d td W tw (some (.ref B)) none none)) := Fr_set1 F₃'
  clear F₃' F₂ N₂
  have hB3 : B < h₃.objs.size := Heap.lt_size (N₃.get (.head _))
  refine wpP_execs_cons (wpP_For Pk.clean ?_)
  refine wpP_of ?_
  walk1
  refine tp_builtin F₃ T (by boot_fast) ?_
  walk1
  walk1
  walk1
  walk1
  walk1
  refine tp_builtin F₃ T (by boot_fast) ?_
  iterate 8 walk1
  have hWi : (W : Int) ≠ 0 := by omega
  refine call_range_3 hWi ?_ (Or.inl (PyProof.noPylong_small (by omega)))
  have hbase : s.heap.objs.size ≤ (h₃.push { cls := .type "range", data := .fields #[.int 0 0, .int d.size 0, .int W tw] }).objs.size := by rw [Heap.size_push]; exact Nat.le_succ_of_le (Nat.le_of_lt (Nat.lt_trans hL hB3))
  refine for_rangeN Pk.clean (x := Str.ofString "i") (n := g + 1) hh (Heap.get?_push_size _ rfl) (range_small (by omega) (by omega) (by omega) (by omega) (by omega) (by omega)) (by rw [← e3]; exact size_out hg)
    (fun i h => i ≤ g ∧ ∃ vi vj, Fr s.heap s.heap.objs.size h (lk (bsL d td W tw (some (.ref B)) vi vj)) ∧ News s.heap s.heap.objs.size h [(B, baObj (swapTo d W (i * W)))])
    ?_ ?_ ?_ ?_
  · refine ⟨Nat.zero_le _, none, none, Fr_kp F₃ fun b o e => Heap.get?_push_of_some _ e, News_kp (by simpa using N₃) fun b o e => Heap.get?_push_of_some _ e⟩
  · rintro i h h' I ⟨hig, vi, vj, Fm, Nm⟩ hk hI
    have hI' : h₃.objs.size + 1 ≤ I := by
      have : (h₃.push _).objs.size ≤ I := hI
      rw [Heap.size_push] at this; exact this
    obtain ⟨a1, a2⟩ := FN_iter (N := h₃.objs.size) Fm Nm hk (Nat.le_of_lt hI') (Nat.lt_trans hL hB3) (fun p hp => by rw [List.mem_singleton.mp hp]; exact hB3) (Nat.le_of_lt (Nat.lt_trans hL hB3))
    exact ⟨hig, vi, vj, a1, a2⟩
  · rintro i ti h tk I oI hi ⟨hig, vi, vj, Fm, Nm⟩ hIle hIo
    have hI' : h₃.objs.size + 1 ≤ I := by
      have : (h₃.push _).objs.size ≤ I := hIle
      rw [Heap.size_push] at this; exact this
    have hLI : s.heap.objs.size < I := Nat.lt_trans (Nat.lt_trans hL hB3) hI'
    have Nm' := News_cons Nm hIo (Nat.ne_of_gt hLI) (none_of_size F₃ (Nat.le_of_lt hI'))
    refine wpP_of (wpAny_assign_Name (stN Fm Nm' fun h' F'' N' => ?_))
    have F' : Fr s.heap s.heap.objs.size h' (lk (bsL d td W tw (some (.ref B)) (some (.int (0 + i * W) ti)) vj)) := Fr_set1 F''
    clear F''
    refine wpP_execs_cons (wpP_For Pk.clean ?_)
    refine wpP_of ?_
    walk1
    refine tp_builtin F' T (by boot_fast) ?_
    iterate 4 walk1
    refine call_range_1 ?_
    have hBh : B < h'.objs.size := Heap.lt_size (N'.get (.tail _ (.head _)))
    have hIh : I < h'.objs.size := Heap.lt_size (N'.get (.head _))
    refine for_rangeN Pk.clean (x := Str.ofString "j") (n := W) hh (Heap.get?_push_size _ rfl) (range_small (by omega) (by omega) (by omega) (by omega) (by omega) (by omega)) (size_ones W)
      (fun j h => (i < g ∨ j = 0) ∧ ∃ vj, Fr s.heap s.heap.objs.size h (lk (bsL d td W tw (some (.ref B)) (some (.int (0 + i * W) ti)) vj)) ∧ News s.heap s.heap.objs.size h [(I, oI), (B, baObj (swapTo d W (i * W + j)))])
      ?_ ?_ ?_ ?_
    · exact ⟨.inr rfl, vj, Fr_kp F' fun b o e => Heap.get?_push_of_some _ e, News_kp N' fun b o e => Heap.get?_push_of_some _ e⟩
    · rintro j h5 h6 I2 ⟨hjg, vj', Fj, Nj⟩ hk hI2
      have hI2' : h'.objs.size + 1 ≤ I2 := by
        have : (h'.push _).objs.size ≤ I2 := hI2
        rw [Heap.size_push] at this; exact this
      obtain ⟨a1, a2⟩ := FN_iter (N := h'.objs.size) Fj Nj hk (Nat.le_of_lt hI2') (Nat.lt_trans hLI hIh) (fun p hp => by
        rcases List.mem_cons.mp hp with rfl | hp
        · exact hIh
        · rw [List.mem_singleton.mp hp]; exact hBh) (Nat.le_of_lt (Nat.lt_trans hLI hIh))
      exact ⟨hjg, vj', a1, a2⟩
    · rintro j tj h5 tk5 I2 oI2 hj ⟨hjg, vj', Fj, Nj⟩ hI2le hI2o
      have hI2' : h'.objs.size + 1 ≤ I2 := by
        have : (h'.push _).objs.size ≤ I2 := hI2le
        rw [Heap.size_push] at this; exact this
      have hLI2 : s.heap.objs.size < I2 := Nat.lt_trans (Nat.lt_trans hLI hIh) hI2'
      have Nj' := News_cons Nj hI2o (Nat.ne_of_gt hLI2) (none_of_size F' (Nat.le_of_lt hI2'))
      refine wpP_of (wpAny_assign_Name (stN Fj Nj' fun h6 F6' N6 => ?_))
      have F6 : Fr s.heap s.heap.objs.size h6 (lk (bsL d td W tw (some (.ref B)) (some (.int (0 + i * W) ti)) (some (.int (0 + j * 1) tj)))) := Fr_set1 F6'
      clear F6'
      refine wpP_of ?_
      repeat' walk1
      have hiW : i < g → i * W + W ≤ g * W := fun hi' => by
        have := Nat.mul_le_mul_right W (show i + 1 ≤ g from hi')
        rw [Nat.add_mul, Nat.one_mul] at this; exact this
      have hgW : i * W ≤ g * W := Nat.mul_le_mul_right W hig
      have hlt : i * W + j < d.size := by
        rw [hg']
        rcases hjg with h' | h'
        · have := hiW h'; omega
        · omega
      refine item_bytes (n := i * W + j) (by rw [Int.natCast_add, Int.natCast_mul]; omega) hlt hz fun t7 k7 => ?_
      repeat' walk1
      dsimp only
      have emir : (0 + (i : Int) * (W : Int) + (W : Int) - 1 - (0 + (j : Int) * 1)) = ((mir W (i * W + j) : Nat) : Int) := by
        rw [mir_eq hj, Int.natCast_add, Int.natCast_mul]; omega
      rw [emir]
      have hBo := N6.get (.tail _ (.tail _ (.head _)))
      by_cases hig' : i < g
      case neg =>
        have hie : i = g := by omega
        have hj0 : j = 0 := by omega
        subst hie hj0
        have hmir : mir W (i * W + 0) = d.size := by rw [mir_eq (by omega), hg', hWe]
        refine ba_setItem_out hh hBo (by rw [swapTo_size, hmir]; exact Nat.le_refl _) (by rw [hmir]; omega) (UInt8.toNat_lt _) fun h7 tk7 e hx => ?_
        refine LoopE_mono (fun e s x => PassesOwn.leaving e s x) (PassesOwn.leaving _ _ ?_)
        exact leave_newS K hx F6 (news := []) News.nil fun h8 R8 _ U8 => hE _ _ _ R8 U8
      have hmirlt : mir W (i * W + j) < d.size := by
        rw [mir_eq hj, hg']
        have := hiW hig'
        omega
      refine ba_setItem hBo (by rw [swapTo_size]; exact hmirlt) (by rw [swapTo_size, sizeLine_eq]; omega) (UInt8.toNat_lt _) fun h7 hB7 hs7 => ?_
      have hk7 := KpX.of_same hs7
      have hIB : I ≠ B := Nat.ne_of_gt (Nat.lt_of_lt_of_le hB3 (Nat.le_of_lt hI'))
      have hI2B : I2 ≠ B := Nat.ne_of_gt (Nat.lt_of_lt_of_le hBh (Nat.le_of_lt hI2'))
      refine wpAny_execs_nil ⟨h7, _, rfl, hk7 _ _ (fun q => hI2B (List.mem_singleton.mp q)) (N6.get (.head _)), .inl hig', _, Fr_kpx F6 hk7 (fun q => Nat.ne_of_lt hL (List.mem_singleton.mp q)) (fun b hb => by rw [List.mem_singleton.mp hb]; exact hBn), ?_⟩
      refine News_cons (News_cons News.nil ?_ (Nat.ne_of_gt hL) hBn) (hk7 _ _ (fun q => hIB (List.mem_singleton.mp q)) (N6.get (.tail _ (.head _)))) (Nat.ne_of_gt hLI) (N6.fresh (.tail _ (.head _)))
      rw [hB7]
      show some (baObj _) = some (baObj (swapTo d W (i * W + j + 1)))
      simp only [swapTo, UInt8.ofNat_toNat, Nat.toUInt8]
    · rintro h5 tk5 ⟨hjg, vj', Fj, Nj⟩
      refine wpP_execs_nil ⟨h5, tk5, rfl, Nj.get (.head _), by omega, _, _, Fj, ?_⟩
      have e : (i + 1) * W = i * W + W := by rw [Nat.add_mul, Nat.one_mul]
      rw [e]
      exact News_tail Nj
  · rintro h5 tk5 ⟨hig, _⟩
    omega
end Mine
end

section
open PySem PySem.W PyProof.Rows PySem.Calls
open Sem (wp)
set_option Elab.async false
set_option maxRecDepth 100000
namespace Mine
theorem range_zero {w : World} {A : Around} {E : Value → Shared → Prop} {s : Shared} {a b c : Int} {t u v : Tok} {Q : Value → Shared → Prop} (hc : c = 0) (hh : A.handled = none)
    (h : ∀ h' tk e, Heap.NewExc s.heap h' e "ValueError" → E (.ref e) { s with heap := h', toks := tk }) :
    wpAny (model pr w) A (call (.type "range") [.int a t, .int b u, .int c v]) Q E s :=
  callType_newIn F.called_range (by decide) (F.typeCall_range_3 _ _ _) (F.newCall_range_3 _ _ _) (fun obj => F.initArgs_range_3 obj _ _ _) F.entry_range_new
    ((AutoRange.range___new___type_int_int_int_0 a b c t u v F.called_range.sub (by subst hc; rfl)).inModel pr w) ⟨hh, h⟩
set_option maxHeartbeats 2000000 in
theorem byteswap_zero {base : Heap} {outer : List Env} {w : World} {A : Around} {s : Shared} {mean mg mb} {E : Value → Shared → Prop} {Q : Value → Shared → Prop} (G : Gd w mean mg mb s.heap) {f : Addr} (hmg : mg (Str.ofString "_byteswap") = some (.ref f))
   (K : Below A base outer s.heap) (hh : A.handled = none) (hroom : A.depth + 5 < recursionLimit) {d : Array UInt8} {td tw : Tok} (hz0 : d.size = 0)
   (hE : ∀ e h' tk, RaisedSN base s.heap outer e (.type "ValueError") [] h' → s.heap.UpToSlots h' → E (.ref e) { s with heap := h', toks := tk }) : wpP Clean (model pr w) A (call (.ref f) [.bytes d td, .int 0 tw]) Q E s := by
  obtain ⟨W, hWe⟩ : ∃ W : Nat, W = 0 := ⟨0, rfl⟩
  have e0 : (0 : Int) = (W : Int) := by omega
  show wpP Clean _ _ (call (.ref f) [.bytes d td, .int 0 tw]) _ _ _
  conv => arg 4; rw [e0]
  have hz : d.size ≤ 1000 := by omega
  have T := G.T
  refine enterP Pk.clean (binds := [(Str.ofString "data", .bytes d td), (Str.ofString "width", .int W tw)]) T (by rfl) hmg (by omega) (fun _ _ _ => by rfl) (by show ∀ y ∈ [Str.ofString "data", Str.ofString "width"], List.lookup y _ = some NameKind.local; decide +kernel) ?_
  intro h₁ cd F0
  have F : Fr s.heap s.heap.objs.size h₁ (lk (bsL d td W tw none none none)) := Fr_entry F0 [Str.ofString "swapped_data", Str.ofString "i", Str.ofString "j"]
  clear F0
  have N : News s.heap s.heap.objs.size h₁ [] := News.nil
  dsimp only
  refine wpP_execs_cons (wpP_Assign_Name ?_)
  refine wpP_bind (m := eval (.Name _ _) _) (wpP_of (tp_builtin (v := .type "bytearray") F T boot_ba (wpP_callWith_type1 (wpP_of ?_))))
  walk1
  walk1
  refine tp_builtin F T (by boot_fast) ?_
  iterate 6 walk1
  have hL : s.heap.objs.size < h₁.objs.size := F.ns.lt
  refine call_bytearray (by rw [sizeLine_eq]; omega) fun h₂ hB hk₂ => ?_
  have hBn : s.heap.get? h₁.objs.size = none := none_of_size F (Nat.le_refl _)
  have F₂ := Fr_kp F hk₂
  have N₂ : News s.heap s.heap.objs.size h₂ [(h₁.objs.size, baObj (swapTo d W 0))] := fun p hp => by
    rw [List.mem_singleton.mp hp]; exact ⟨hB, Nat.ne_of_gt hL, hBn⟩
  dsimp only at F₂ N₂ ⊢
  have hBlt : h₁.objs.size < h₂.objs.size := Heap.lt_size hB
  generalize h₁.objs.size = B at *
  clear hB F N hk₂
  refine wpP_of (stN F₂ N₂ fun h₃ F₃' N₃ => ?_)
  have F₃ : Fr s.heap s.heap.objs.size h₃ (lk (bsL d td W tw (some (.ref B)) none none)) := Fr_set1 F₃'
  clear F₃' F₂ N₂
  have hB3 : B < h₃.objs.size := Heap.lt_size (N₃.get (.head _))
  refine wpP_execs_cons (wpP_For Pk.clean ?_)
  refine wpP_of ?_
  walk1
  refine tp_builtin F₃ T (by boot_fast) ?_
  walk1
  walk1
  walk1
  walk1
  walk1
  refine tp_builtin F₃ T (by boot_fast) ?_
  iterate 8 walk1
  refine range_zero (by omega) hh fun h7 tk7 e hx => ?_
  exact leave_newS K hx F₃ (news := []) News.nil fun h8 R8 _ U8 => hE _ _ _ R8 U8
end Mine
end

section
open PySem PySem.W PyProof.Rows PySem.Calls
open Sem (wp)
set_option Elab.async false
set_option maxRecDepth 100000
namespace Mine
section
variable {w : World} {A₀ : Around} {E : Value → Shared → Prop} {s' : Shared} {base g G : Heap} {outer : List Env} {L a e : Addr} {m : Str → Option Value} {name : Str} {scope : Scope} {cd : Value}
  {b₀ : Stmt} {suite : List Stmt} {pos np : Pos} {rest : List ExceptHandler} {Q : Flow → Shared → Prop} {mean : ExcName → Option Value} {mg mb : Str → Option Value} {x : Str} {X T' : String}
/-- an exception of a callee, caught by a clause that names a built-in class -/
theorem caught_M (TB : TopQ mean mg mb base) (K : Below A₀ base outer g) (F : Fr g L G m) (R : RaisedSN base G (envOf name scope L a cd :: outer) e (.type X) [] s'.heap) (hsm : G.UpToSlots s'.heap)
    (hv : bootBuiltins x = some (.type T'))
    (hexc : isSubtype (.type T') (.type "BaseException") = pure true) (hnt : isSubtype (.type ((Manifest.find? T').elim "type" fun y => y.metatype)) (.type "tuple") = pure false) (hsub : isSubtype (.type X) (.type T') = pure true)
    (k : ∀ h' g', KtsTurn (outer.filterMap (·.frame)) g g' → Fr g' L h' m → Below A₀ base outer g' → (∀ b o, G.get? b = some o → b ∉ (envOf name scope L a cd :: outer).filterMap (·.frame) → h'.get? b = some o) →
      wpAny (model pr w) ((A₀.deeper (envOf name scope L a cd)).mark (some (.ref e))) (execs (b₀ :: suite) (envOf name scope L a cd)) Q E { s' with heap := h' })
    (h1 : x ∉ startupNames := by decide +kernel) (h2 : x ∉ looseW q loose := by decide +kernel) (h3 : x ∉ (recsOf q).map (·.name) := by decide +kernel) (h4 : x ∉ (litsOf q).map (·.1) := by decide +kernel) (h4c : x ∉ (clssOf q (looseW q loose)).map (·.name) := by decide +kernel) (hn : x ≠ "__name__" := by decide +kernel)
    (hk : scope.kind = .function := by rfl) (hx : (envOf name scope L a cd).kindOf x = some .globalImplicit := by rfl) (hd : (x == ("__debug__" : Str)) = false := by decide)
    (hE : PassesOwnAt (model pr w) ((A₀.deeper (envOf name scope L a cd)).mark (some (.ref e))) (A₀.deeper (envOf name scope L a cd)) (envOf name scope L a cd) E := by passes_own) :
    wpAny (model pr w) (A₀.deeper (envOf name scope L a cd)) (noteFrame (.ref e) (envOf name scope L a cd))
      (fun _ s₂ => wpAny (model pr w) (A₀.deeper (envOf name scope L a cd)) (setFlight (.ref e) none) (fun _ s₃ =>
        wpAny (model pr w) (A₀.deeper (envOf name scope L a cd)) (handleBy (.ref e) (envOf name scope L a cd) (.ExceptHandler (some (.Name x np)) none (b₀ :: suite) pos :: rest)) Q E s₃) E s₂) E s' := by
  obtain ⟨B, a0, hB, hBG, _, hfly⟩ := R
  refine wpAny_looks_onW (Around.frames_deeper K.stack) rfl hfly fun h4' held4 up4 => ?_
  refine wpAny_landsW held4 fun h5' fly5 up5 => ?_
  have up := up4.trans up5
  have T5 : TopQ mean mg mb h5' := TB.keeps fun b o eb => fly5.1 b o (hB b o eb)
  obtain ⟨ob, hob, hobc⟩ := fly5.there
  refine wpAny_handleBy_builtin (X := X) (T := T') (b := true) hexc hnt hsub (nm_blt (s := { s' with heap := h5' }) T5 hv ⟨rfl, ⟨ob, hob, hobc⟩, ?_⟩ rfl rfl h1 h2 h3 h4 h4c hn hk hx hd)
  refine lands_againW fly5 fun h6' fly6 up6 => ?_
  obtain ⟨g', turn, F', K'⟩ := kts_ground K F hBG fly6.1 ((hsm.trans up).trans up6)
  exact wpAny_passesOwnAt hE (k h6' g' turn F' K' fun b o eb nb => fly6.1 b o (hBG b o eb nb))
end
end Mine
end

section
open PySem PySem.W PyProof.Rows PySem.Calls
open Sem (wp)
set_option Elab.async false
set_option maxRecDepth 100000
namespace Mine
local macro_rules | `(tactic| walk_at "eval Name") => `(tactic| refine tp_builtin (by assumption) (by assumption) (by boot_fast) ?_)
/-- is the front of k + 1 signs longer when prepared -/
def longerB (cs : List Nat) (least : Int) (k : Nat) : Bool := decide (least ≤ gain cs (k + 1))
def octs (c : Nat) : Array UInt8 := #[(c / 65536).toUInt8, (c / 256 % 256).toUInt8, (c % 256).toUInt8]
def octsR (c : Nat) : Array UInt8 := #[(c % 256).toUInt8, (c / 256 % 256).toUInt8, (c / 65536).toUInt8]
/-- the tape, whether it stands turned, whether a turn was refused: behind k signs -/
def wr (cs : List Nat) (least : Int) : Nat → Array UInt8 × Bool × Bool
  | 0 => (#[], false, false)
  | k + 1 =>
    let p := wr cs least k
    let lo := longerB cs least k
    let t := if lo = p.2.1 then p.1 else swapTo p.1 p.1.size p.1.size
    (if lo = true then t ++ octsR (cs.getD k 0) else t ++ octs (cs.getD k 0), lo, p.2.2 || (lo != p.2.1 && p.1.size == 0))
theorem wr_size (cs : List Nat) (least : Int) : ∀ k, (wr cs least k).1.size = 3 * k
  | 0 => rfl
  | k + 1 => by
    have ih := wr_size cs least k
    simp only [wr]
    split <;> split <;> simp [octs, octsR, swapTo_size, ih] <;> omega
abbrev wrL (l : Addr) (least : Int) (tl : Tok) (tape turned refused k longer code : Option Value) : List (Str × Option Value) :=
  [(Str.ofString "least", some (.int least tl)), (Str.ofString "text", some (.ref l)), (Str.ofString "tape", tape), (Str.ofString "turned", turned), (Str.ofString "refused", refused), (Str.ofString "k", k), (Str.ofString "longer", longer), (Str.ofString "code", code)]
theorem octs_eq (c : Nat) : byteArr [(c : Int).fdiv 65536, ((c : Int).fdiv 256).fmod 256, (c : Int).fmod 256] = octs c := by
  have e1 : (c : Int).fdiv 65536 = ((c / 65536 : Nat) : Int) := by rw [Int.fdiv_eq_ediv_of_nonneg _ (by decide)]; omega
  have e2 : ((c : Int).fdiv 256).fmod 256 = ((c / 256 % 256 : Nat) : Int) := by rw [Int.fdiv_eq_ediv_of_nonneg _ (by decide), Int.fmod_eq_emod_of_nonneg _ (by decide)]; omega
  have e3 : (c : Int).fmod 256 = ((c % 256 : Nat) : Int) := by rw [Int.fmod_eq_emod_of_nonneg _ (by decide)]; omega
  rw [e1, e2, e3]; rfl
theorem octsR_eq (c : Nat) : byteArr [(c : Int).fmod 256, ((c : Int).fdiv 256).fmod 256, (c : Int).fdiv 65536] = octsR c := by
  have e1 : (c : Int).fdiv 65536 = ((c / 65536 : Nat) : Int) := by rw [Int.fdiv_eq_ediv_of_nonneg _ (by decide)]; omega
  have e2 : ((c : Int).fdiv 256).fmod 256 = ((c / 256 % 256 : Nat) : Int) := by rw [Int.fdiv_eq_ediv_of_nonneg _ (by decide), Int.fmod_eq_emod_of_nonneg _ (by decide)]; omega
  have e3 : (c : Int).fmod 256 = ((c % 256 : Nat) : Int) := by rw [Int.fmod_eq_emod_of_nonneg _ (by decide)]; omega
  rw [e1, e2, e3]; rfl
theorem octs_range (c : Nat) (hc : c < 1114112) : (0 ≤ (c : Int).fdiv 65536 ∧ (c : Int).fdiv 65536 < 256) ∧ (0 ≤ ((c : Int).fdiv 256).fmod 256 ∧ ((c : Int).fdiv 256).fmod 256 < 256) ∧ 0 ≤ (c : Int).fmod 256 ∧ (c : Int).fmod 256 < 256 := by
  rw [Int.fdiv_eq_ediv_of_nonneg _ (by decide), Int.fdiv_eq_ediv_of_nonneg _ (by decide), Int.fmod_eq_emod_of_nonneg _ (by decide), Int.fmod_eq_emod_of_nonneg _ (by decide)]
  omega
theorem signs_at {vs : List Value} {cs : List Nat} (h : Signs vs cs) : ∀ i, i < cs.length → ∃ t, vs[i]? = some (.str ⟨#[cs.getD i 0]⟩ t) := by
  induction h with
  | nil => intro i hi; simp at hi
  | cons a _ ih =>
    intro i hi
    cases i with
    | zero => obtain ⟨t, rfl⟩ := a; exact ⟨t, rfl⟩
    | succ i => simpa using ih i (by simpa using hi)
abbrev fsOf (outer : List Env) : List Addr := outer.filterMap (·.frame)
theorem list_turn {fs : List Addr} {g g' : Heap} {l : Addr} {vs : Array Value} (T : KtsTurn fs g g') (hl : g.IsList l vs) : g'.IsList l vs := by
  obtain ⟨o, ho, hc, n, hd⟩ := hl
  obtain ⟨sl, hs⟩ := T.up ho
  exact ⟨_, hs, hc, n, hd⟩
set_option maxHeartbeats 2000000 in
theorem written {base : Heap} {outer : List Env} {w : World} {A : Around} {s : Shared} {mean mg mb} {E : Value → Shared → Prop} {Q : Value → Shared → Prop} (Gb : Gd w mean mg mb base) (K : Below A base outer s.heap) {f : Addr} (hmg : mg (Str.ofString "_law_written") = some (.ref f))
   (hh : A.handled = none) (hroom : A.depth + 20 < recursionLimit) {l : Addr} {vs : Array Value} {cs : List Nat} {least : Int} {tl : Tok} (hl : s.heap.IsList l vs) (hs : Signs vs.toList cs) (hn : cs.length ≤ 100) (hpos : 0 < cs.length) (hc : ∀ c ∈ cs, c < 1114112) (h0 : 0 ≤ least) (h1 : least ≤ 1)
   (h : ∀ a g' h' tk t1, KtsTurn (fsOf outer) s.heap g' → Kp g' h' → g'.get? a = none →
      h'.get? a = some (tupO #[.bytes (if (wr cs least cs.length).2.1 = true then swapTo (wr cs least cs.length).1 (wr cs least cs.length).1.size (wr cs least cs.length).1.size else (wr cs least cs.length).1) t1, .bool (wr cs least cs.length).2.2]) →
      Q (.ref a) { s with heap := h', toks := tk }) : wpP Clean (model pr w) A (call (.ref f) [.ref l, .int least tl]) Q E s := by
  have G := Gb.keeps K.stays
  have T := G.T
  have hlen : vs.size = cs.length := by have := paired_all hs; rw [Array.length_toList] at this; exact this
  refine enterP Pk.clean (binds := [(Str.ofString "text", .ref l), (Str.ofString "least", .int least tl)]) T (by rfl) hmg (by omega) (fun _ _ _ => by rfl) (by show ∀ y ∈ [Str.ofString "text", Str.ofString "least"], List.lookup y _ = some NameKind.local; decide +kernel) ?_
  intro h₁ cd F0
  have F : Fr s.heap s.heap.objs.size h₁ (lk (wrL l least tl none none none none none none)) := Fr_entry F0 [Str.ofString "tape", Str.ofString "turned", Str.ofString "refused", Str.ofString "k", Str.ofString "longer", Str.ofString "code"]
  clear F0
  have N : News s.heap s.heap.objs.size h₁ [] := News.nil
  dsimp only
  refine wpP_execs_cons (wpP_of ?_)
  iterate 3 walk1
  refine wpP_execs_cons (wpP_of ?_)
  iterate 3 walk1
  refine wpP_execs_cons (wpP_of ?_)
  iterate 3 walk1
  rename_i h₃ F₃' N₃
  obtain ⟨t0, F₃⟩ : ∃ t0, Fr s.heap s.heap.objs.size h₃ (lk (wrL l least tl (some (.bytes (wr cs least 0).1 t0)) (some (.bool (wr cs least 0).2.1)) (some (.bool (wr cs least 0).2.2)) none none none)) := ⟨_, Fr_set3 F₃'⟩
  clear F₃' F N
  dsimp only
  have hL : s.heap.objs.size < h₃.objs.size := F₃.ns.lt
  refine wpP_execs_cons (wpP_For Pk.clean (wpP_of ?_))
  have hl₃ : h₃.IsList l vs := hl.at fun o e => F₃.keep l o e
  walk1
  refine tp_builtin F₃ T (by boot_fast) ?_
  walk1
  walk1
  walk1
  refine tp_builtin F₃ T (by boot_fast) ?_
  iterate 6 walk1
  refine call_range_1 ?_
  refine for_rangeN Pk.clean (x := Str.ofString "k") (n := cs.length) hh (Heap.get?_push_size _ rfl) (range_small (by omega) (by omega) (by omega) (by omega) (by omega) (by omega)) (by rw [hlen]; exact size_ones _)
    (fun i h => ∃ g' t1 vk vl vc, KtsTurn (fsOf outer) s.heap g' ∧ Below A base outer g' ∧ Fr g' s.heap.objs.size h (lk (wrL l least tl (some (.bytes (wr cs least i).1 t1)) (some (.bool (wr cs least i).2.1)) (some (.bool (wr cs least i).2.2)) vk vl vc)))
    ?_ ?_ ?_ ?_
  · exact ⟨s.heap, t0, none, none, none, KtsTurn.refl, K, Fr_kp F₃ fun b o e => Heap.get?_push_of_some _ e⟩
  · rintro i h h' I ⟨g', t1, vk, vl, vc, turn, K', Fm⟩ hk hI
    have hI' : h₃.objs.size + 1 ≤ I := by
      have : (h₃.push _).objs.size ≤ I := hI
      rw [Heap.size_push] at this; exact this
    obtain ⟨a1, _⟩ := FN_iter (N := h₃.objs.size) Fm News.nil hk (Nat.le_of_lt hI') hL (by simp) (by rw [turn.size]; exact Nat.le_of_lt hL)
    exact ⟨g', t1, vk, vl, vc, turn, K', a1⟩
  · rintro i ti h tk I oI hi ⟨g', t1, vk, vl, vc, turn, K', Fm⟩ hIle hIo
    have hI' : h₃.objs.size + 1 ≤ I := by
      have : (h₃.push _).objs.size ≤ I := hIle
      rw [Heap.size_push] at this; exact this
    have hLI : s.heap.objs.size < I := Nat.lt_trans hL hI'
    have hI0 : g'.get? I = none := by
      cases e : g'.get? I with
      | none => rfl
      | some o => exact absurd (turn.size ▸ Heap.lt_size e) (Nat.not_lt.mpr (Nat.le_of_lt hLI))
    have Nm' := News_cons (news := []) News.nil hIo (Nat.ne_of_gt hLI) hI0
    refine wpP_of (wpAny_assign_Name (stN Fm Nm' fun h₅ F₅' N₅ => ?_))
    have F₅ : Fr g' s.heap.objs.size h₅ (lk (wrL l least tl (some (.bytes (wr cs least i).1 t1)) (some (.bool (wr cs least i).2.1)) (some (.bool (wr cs least i).2.2)) (some (.int (0 + i * 1) ti)) vl vc)) := Fr_set1 F₅'
    clear F₅'
    have G' : Gd w mean mg mb g' := Gb.keeps K'.stays
    have T' := G'.T
    have G₅ : Gd w mean mg mb h₅ := G'.keeps F₅.keep
    have hl₅ : h₅.IsList l vs := (list_turn turn hl).at fun o e => F₅.keep l o e
    refine wpP_execs_cons (wpP_of ?_)
    walk1
    iterate 6 walk1
    refine call_defF G'.T F₅.keep (by rfl) fun f' hf' => ?_
    iterate 12 walk1
    refine args_nil ⟨?_, ?_⟩
    · rename_i F₆ N₆
      exact F₆.keep
    rename_i h₆ F₆ N₆
    clear F₅ N₅
    have G₆ := G'.keeps F₆.keep
    have hl₆ : h₆.IsList _ _ := N₆.isList (.head _)
    have e1 : (0 + (i : Int) * 1 + 1) = ((i + 1 : Nat) : Int) := by omega
    rw [e1, slicePick_upto'] at hl₆
    refine prepared (cs := cs.take (i + 1)) G₆ hf' (by exact hh) (by show A.depth + 1 + 5 < _; omega) hl₆ (by simpa using signs_take hs (i + 1)) (by rw [List.length_take]; omega) fun t₇ h₇ tk₇ hk₇ => ?_
    have F₇ := Fr_kp F₆ hk₇
    have N₇ := News_kp N₆ hk₇
    clear F₆ N₆
    dsimp only
    have hpl := plen_le (cs.take (i + 1))
    rw [List.length_take] at hpl
    walk1
    refine SBL.len (by show ((plen (cs.take (i + 1)) : Nat) : Int) < _; omega) ?_
    have ek : (((Txt.join (Str.ofString "") (preps (cs.take (i + 1)))).length : Nat) : Int) - (0 + (i : Int) * 1 + 1) = gain cs (i + 1) := by
      show ((plen (cs.take (i + 1)) : Nat) : Int) - _ = _
      unfold gain; omega
    iterate 5 walk1
    rw [ek]
    iterate 3 walk1
    rename_i h₈ F₈' N₈'
    have N₈ := News_tail N₈'
    obtain ⟨lo, hlo⟩ : ∃ lo, lo = longerB cs least i := ⟨_, rfl⟩
    have elo : decide (least ≤ gain cs (i + 1)) = lo := hlo.symm
    rw [elo] at F₈'
    have F₈ : Fr g' s.heap.objs.size h₈ (lk (wrL l least tl (some (.bytes (wr cs least i).1 t1)) (some (.bool (wr cs least i).2.1)) (some (.bool (wr cs least i).2.2)) (some (.int (0 + i * 1) ti)) (some (.bool lo)) vc)) := Fr_set1 F₈'
    clear F₈' N₈' F₇ N₇
    have hsz := wr_size cs least i
    obtain ⟨t, ht⟩ : ∃ t, t = (wr cs least i).1 := ⟨_, rfl⟩
    obtain ⟨tu, htu⟩ : ∃ tu, tu = (wr cs least i).2.1 := ⟨_, rfl⟩
    obtain ⟨re, hre⟩ : ∃ re, re = (wr cs least i).2.2 := ⟨_, rfl⟩
    rw [← ht] at F₈ hsz
    rw [← htu, ← hre] at F₈
    dsimp only
    refine wpP_execs_cons (wpP_mono (Q := fun fl s' => fl = Flow.next ∧ ∃ h₉ g₉ tk t2, s' = { s with heap := h₉, toks := tk } ∧ KtsTurn (fsOf outer) s.heap g₉ ∧ Below A base outer g₉ ∧ h₉.get? I = some oI ∧
      Fr g₉ s.heap.objs.size h₉ (lk (wrL l least tl (some (.bytes (if lo = tu then t else swapTo t t.size t.size) t2)) (some (.bool lo)) (some (.bool (re || (lo != tu && t.size == 0)))) (some (.int (0 + i * 1) ti)) (some (.bool lo)) vc))) ?_ ?_ (fun _ _ x => x))
    · refine wpP_If (wpP_of ?_)
      iterate 4 walk1
      refine wpAny_truthy_bool ?_
      by_cases hlt : lo = tu
      · subst hlt
        have e : (lo != lo) = false := by simp
        rw [e]
        simp only [Bool.false_eq_true, if_false]
        refine wpP_execs_nil ⟨rfl, h₈, g', _, t1, rfl, turn, K', N₈.get (.head _), ?_⟩
        simpa using F₈
      · have e : (lo != tu) = true := by simpa using hlt
        rw [e]
        simp only [if_true, hlt, if_false, Bool.true_and]
        refine wpP_execs_cons (wpP_of ?_)
        iterate 3 walk1
        rename_i h₉ F₉' N₉
        have F₉ : Fr g' s.heap.objs.size h₉ (lk (wrL l least tl (some (.bytes t t1)) (some (.bool lo)) (some (.bool re)) (some (.int (0 + i * 1) ti)) (some (.bool lo)) vc)) := Fr_set1 F₉'
        clear F₉'
        have G₉ := G'.keeps F₉.keep
        dsimp only
        refine wpP_execs_cons (wpP_Try_except ?_)
        refine wpP_execs_cons (wpP_Assign_Name ?_)
        refine call_defPF G'.T F₉.keep (by rfl) fun f' hf' => ?_
        refine wpP_of ?_
        iterate 8 walk1
        iterate 2 walk1
        refine args_nil ⟨F₉.keep, ?_⟩
        by_cases hz : t.size = 0
        · have ez : ((t.size : Nat) : Int) = 0 := by omega
          rw [ez]
          refine byteswap_zero G₉ hf' (K'.push F₉) (by exact hh) (by show A.depth + 1 + 5 < _; omega) hz fun e h10 tk10 R10 U10 => ?_
          refine caught_M (T' := "ValueError") Gb.T K' F₉ R10 U10 (by boot_fast) PySem.F.isExc_ValueError PySem.F.notTuple_ValueError PySem.F.self_ValueError fun h11 g11 T11 F11 K11 kp11 => ?_
          have hIf : ∀ env : Env, env.frame = some s.heap.objs.size → I ∉ (env :: outer).filterMap (·.frame) := fun env he hm => by
            obtain ⟨env', hm', hf'⟩ := List.mem_filterMap.mp hm
            rcases List.mem_cons.mp hm' with rfl | hm'
            · rw [he] at hf'; cases hf'; exact Nat.lt_irrefl _ hLI
            · obtain ⟨_, o, ho, _⟩ := K.frames.mem (List.mem_filterMap.mpr ⟨env', hm', hf'⟩)
              exact Nat.lt_irrefl _ (Nat.lt_trans hLI (Heap.lt_size ho))
          have hI11 : h11.get? I = some oI := kp11 _ _ (N₉.get (.head _)) (hIf _ rfl)
          have N11 : News g11 s.heap.objs.size h11 [(I, oI)] := News_cons News.nil hI11 (Nat.ne_of_gt hLI) (T11.none_ _ hI0)
          iterate 4 walk1
          rename_i h12 F12' N12
          have F12 : Fr g11 s.heap.objs.size h12 (lk (wrL l least tl (some (.bytes t t1)) (some (.bool lo)) (some (.bool true)) (some (.int (0 + i * 1) ti)) (some (.bool lo)) vc)) := Fr_set1 F12'
          have ets : swapTo t t.size t.size = t := by
            have et := Array.eq_empty_of_size_eq_zero hz
            rw [et]; rfl
          refine wpAny_execs_nil (wpP_execs_nil ⟨rfl, h12, g11, _, t1, rfl, turn.trans T11, K11, N12.get (.head _), ?_⟩)
          rw [ets, hz]
          simpa using F12
        · refine byteswap (g := 1) G₉ hf' (by exact hh) (by show A.depth + 1 + 5 < _; omega) (by omega) (by omega) (by omega) (by omega) fun t10 h10 tk10 k10 => ?_
          have F10 := Fr_kp F₉ k10
          have N10 := News_kp N₉ k10
          refine wpP_of (stN F10 N10 fun h11 F11' N11 => ?_)
          have F11 : Fr g' s.heap.objs.size h11 (lk (wrL l least tl (some (.bytes (swapTo t t.size t.size) t10)) (some (.bool lo)) (some (.bool re)) (some (.int (0 + i * 1) ti)) (some (.bool lo)) vc)) := Fr_set1 F11'
          refine wpP_execs_nil (wpP_execs_nil (wpP_execs_nil ⟨rfl, h11, g', _, t10, rfl, turn, K', N11.get (.head _), ?_⟩))
          have ezb : (t.size == 0) = false := by simpa using hz
          rw [ezb, Bool.or_false]
          exact F11
    · rintro fl s' ⟨rfl, h₉, g₉, tk9, t2, rfl, turn9, K9, hI9, F9⟩
      have G9' := Gb.keeps K9.stays
      have T9 := G9'.T
      have hI0' : g₉.get? I = none := by
        cases e : g₉.get? I with
        | none => rfl
        | some o => exact absurd (turn9.size ▸ Heap.lt_size e) (Nat.not_lt.mpr (Nat.le_of_lt hLI))
      have N9 : News g₉ s.heap.objs.size h₉ [(I, oI)] := News_cons News.nil hI9 (Nat.ne_of_gt hLI) hI0'
      have hl9 : h₉.IsList l vs := (list_turn turn9 hl).at fun o e => F9.keep l o e
      have ewr : (wr cs least (i + 1)).1 = (if lo = true then (if lo = tu then t else swapTo t t.size t.size) ++ octsR (cs.getD i 0) else (if lo = tu then t else swapTo t t.size t.size) ++ octs (cs.getD i 0)) := by
        rw [hlo, htu, ht]; rfl
      have ewl : (wr cs least (i + 1)).2.1 = lo := by rw [hlo]; rfl
      have ewe : (wr cs least (i + 1)).2.2 = (re || (lo != tu && t.size == 0)) := by rw [hlo, htu, hre, ht]; rfl
      have hszT : (if lo = tu then t else swapTo t t.size t.size).size = 3 * i := by
        split
        · exact hsz
        · rw [swapTo_size]; exact hsz
      generalize (if lo = tu then t else swapTo t t.size t.size) = tp at *
      rw [← ewe] at F9
      clear N₈ F₈
      refine wpP_of ?_
      iterate 9 walk1
      obtain ⟨tc, hat⟩ := signs_at hs i hi
      refine item_list (n := i) hl9 (by omega) (by omega) (show vs[i]? = _ by rw [← Array.getElem?_toList]; exact hat) ?_
      have hcm : cs.getD i 0 < 1114112 := hc _ (by simp [List.getD, hi])
      generalize cs.getD i 0 = c at *
      iterate 8 walk1
      rename_i h₁₀ F10' N10
      obtain ⟨tc', F10⟩ : ∃ tc', Fr g₉ s.heap.objs.size h₁₀ (lk (wrL l least tl (some (.bytes tp t2)) (some (.bool lo)) (some (.bool (wr cs least (i + 1)).2.2)) (some (.int (0 + i * 1) ti)) (some (.bool lo)) (some (.int (c : Int) tc')))) := ⟨_, Fr_set1 F10'⟩
      clear F10'
      clear hlo
      cases lo
      · simp only [Bool.false_eq_true, if_false] at ewr ⊢
        obtain ⟨r1, r2, r3⟩ := octs_range c hcm
        iterate 30 walk1
        rename_i h₁₂ F12 N12
        refine call_bytes_ints (ns := [(c : Int).fdiv 65536, ((c : Int).fdiv 256).fmod 256, (c : Int).fmod 256]) (vs := [_, _, _]) (N12.isList (.head _)) (.cons _ _ (.cons _ _ (.cons _ _ .nil))) ?_ ?_ (by exact hh) fun h₁₃ t13 k13 kp13 => ?_
        · intro n hn
          simp only [List.mem_cons, List.not_mem_nil, or_false] at hn
          rcases hn with rfl | rfl | rfl
          · exact r1
          · exact r2
          · exact r3
        · rw [sizeLine_eq]; show 3 ≤ 16777216; omega
        rw [octs_eq]
        have F13 := Fr_kp F12 kp13
        have N13 := News_kp N12 kp13
        refine KBy.add_bytes (by show tp.size + 3 ≤ _; omega) fun t14 k14 => ?_
        refine stN F13 N13 fun h₁₅ F15' N15 => ?_
        have F15 : Fr g₉ s.heap.objs.size h₁₅ (lk (wrL l least tl (some (.bytes (tp ++ octs c) t14)) (some (.bool false)) (some (.bool (wr cs least (i + 1)).2.2)) (some (.int (0 + i * 1) ti)) (some (.bool false)) (some (.int (c : Int) tc')))) := Fr_set1 F15'
        refine wpAny_execs_nil (wpAny_execs_nil ⟨h₁₅, _, rfl, N15.get (.tail _ (.head _)), g₉, t14, _, _, _, turn9, K9, by rw [ewr, ewl]; exact F15⟩)
      · simp only [if_true] at ewr ⊢
        obtain ⟨r1, r2, r3⟩ := octs_range c hcm
        iterate 30 walk1
        rename_i h₁₂ F12 N12
        refine call_bytes_ints (ns := [(c : Int).fmod 256, ((c : Int).fdiv 256).fmod 256, (c : Int).fdiv 65536]) (vs := [_, _, _]) (N12.isList (.head _)) (.cons _ _ (.cons _ _ (.cons _ _ .nil))) ?_ ?_ (by exact hh) fun h₁₃ t13 k13 kp13 => ?_
        · intro n hn
          simp only [List.mem_cons, List.not_mem_nil, or_false] at hn
          rcases hn with rfl | rfl | rfl
          · exact r3
          · exact r2
          · exact r1
        · rw [sizeLine_eq]; show 3 ≤ 16777216; omega
        rw [octsR_eq]
        have F13 := Fr_kp F12 kp13
        have N13 := News_kp N12 kp13
        refine KBy.add_bytes (by show tp.size + 3 ≤ _; omega) fun t14 k14 => ?_
        refine stN F13 N13 fun h₁₅ F15' N15 => ?_
        have F15 : Fr g₉ s.heap.objs.size h₁₅ (lk (wrL l least tl (some (.bytes (tp ++ octsR c) t14)) (some (.bool true)) (some (.bool (wr cs least (i + 1)).2.2)) (some (.int (0 + i * 1) ti)) (some (.bool true)) (some (.int (c : Int) tc')))) := Fr_set1 F15'
        refine wpAny_execs_nil (wpAny_execs_nil ⟨h₁₅, _, rfl, N15.get (.tail _ (.head _)), g₉, t14, _, _, _, turn9, K9, by rw [ewr, ewl]; exact F15⟩)
  · rintro h9 tk ⟨g', t1, vk, vl, vc, turn, K', Fm⟩
    have G' := Gb.keeps K'.stays
    have T' := G'.T
    have N : News g' s.heap.objs.size h9 [] := News.nil
    have hsz := wr_size cs least cs.length
    generalize (wr cs least cs.length).1 = tp at *
    generalize (wr cs least cs.length).2.1 = tu at *
    generalize (wr cs least cs.length).2.2 = re at *
    clear T G
    dsimp only
    refine wpP_execs_cons ?_
    refine wpP_If (wpP_of ?_)
    iterate 3 walk1
    cases tu
    · simp only [Bool.false_eq_true, if_false] at h ⊢
      refine wpP_execs_nil ?_
      refine wpP_of ?_
      iterate 9 walk1
      rename_i F10 N10
      exact h _ g' _ _ _ turn F10.keep (N10.fresh (.head _)) (N10.get (.head _))
    · simp only [if_true] at h ⊢
      refine wpP_execs_cons (wpP_Assign_Name ?_)
      refine call_defPF T' Fm.keep (by rfl) fun f' hf' => ?_
      refine wpP_of ?_
      iterate 10 walk1
      refine args_nil ⟨Fm.keep, ?_⟩
      refine byteswap (g := 1) (G'.keeps Fm.keep) hf' (by exact hh) (by show A.depth + 1 + 5 < _; omega) (by omega) (by omega) (by omega) (by omega) fun t10 h10 tk10 k10 => ?_
      have F10 := Fr_kp Fm k10
      have N10 := News_kp N k10
      refine wpP_of (stN F10 N10 fun h11 F11' N11 => ?_)
      have F11 : Fr g' s.heap.objs.size h11 (lk (wrL l least tl (some (.bytes (swapTo tp tp.size tp.size) t10)) (some (.bool true)) (some (.bool re)) vk vl vc)) := Fr_set1 F11'
      clear F11' Fm F10 N N10
      refine wpP_execs_nil ?_
      refine wpP_of ?_
      iterate 9 walk1
      rename_i F12 N12
      exact h _ g' _ _ _ turn F12.keep (N12.fresh (.head _)) (N12.get (.head _))
end Mine
end

section
open PySem PySem.W PyProof.Rows PySem.Calls
set_option Elab.async false
set_option maxRecDepth 100000
namespace Mine
/-- one sign's three octets, the high one first; or, turned, the low one first -/
def oct (tu : Bool) (c : Nat) : List UInt8 := if tu = true then (octsR c).toList else (octs c).toList
def encL (tu : Bool) (σ : List Nat) : List UInt8 := σ.flatMap (oct tu)
def enc (tu : Bool) (σ : List Nat) : Array UInt8 := (encL tu σ).toArray
theorem oct_len (tu : Bool) (c : Nat) : (oct tu c).length = 3 := by cases tu <;> rfl
theorem oct_rev (tu : Bool) (c : Nat) : (oct tu c).reverse = oct (!tu) c := by cases tu <;> rfl
theorem encL_len (tu : Bool) : ∀ σ, (encL tu σ).length = 3 * σ.length
  | [] => rfl
  | c :: σ => by
    show (oct tu c ++ encL tu σ).length = _
    rw [List.length_append, oct_len, encL_len tu σ, List.length_cons]; omega
theorem enc_size (tu : Bool) (σ : List Nat) : (enc tu σ).size = 3 * σ.length := by
  unfold enc; rw [List.size_toArray, encL_len]
theorem encL_append (tu : Bool) (σ τ : List Nat) : encL tu (σ ++ τ) = encL tu σ ++ encL tu τ := by
  unfold encL; rw [List.flatMap_append]
theorem enc_snoc (tu : Bool) (σ : List Nat) (c : Nat) : enc tu (σ ++ [c]) = enc tu σ ++ (if tu = true then octsR c else octs c) := by
  unfold enc
  rw [encL_append]
  have : encL tu [c] = oct tu c := by simp [encL]
  rw [this, ← List.append_toArray]
  cases tu <;> simp [oct]
theorem encL_rev (tu : Bool) : ∀ σ, (encL tu σ).reverse = encL (!tu) σ.reverse
  | [] => rfl
  | c :: σ => by
    show (oct tu c ++ encL tu σ).reverse = _
    rw [List.reverse_append, encL_rev tu σ, oct_rev, List.reverse_cons, encL_append]
    simp [encL]
/-- the octet at place 3 i + j -/
theorem encL_at (tu : Bool) (j : Nat) (hj : j < 3) : ∀ (σ : List Nat) (i : Nat), i < σ.length → (encL tu σ)[3 * i + j]? = (oct tu (σ.getD i 0))[j]?
  | [], i, h => by simp at h
  | c :: σ, 0, _ => by
    show (oct tu c ++ encL tu σ)[0 + j]? = _
    rw [Nat.zero_add, List.getElem?_append_left (by rw [oct_len]; exact hj)]
    rfl
  | c :: σ, i + 1, h => by
    show (oct tu c ++ encL tu σ)[3 * (i + 1) + j]? = _
    rw [List.getElem?_append_right (by rw [oct_len]; omega), oct_len, show 3 * (i + 1) + j - 3 = 3 * i + j by omega, encL_at tu j hj σ i (by simpa using h)]
    simp
theorem mir_lt {W g u : Nat} (hW : 0 < W) (hu : u < g * W) : mir W u < g * W := by
  unfold mir
  have h1 : u / W < g := (Nat.div_lt_iff_lt_mul hW).mpr hu
  have h2 : (u / W + 1) * W ≤ g * W := Nat.mul_le_mul_right W h1
  rw [Nat.add_mul, Nat.one_mul] at h2
  have := Nat.mod_lt u hW
  omega
theorem mir_mir {W : Nat} (hW : 0 < W) (u : Nat) : mir W (mir W u) = u := by
  have e : mir W u = u / W * W + (W - 1 - u % W) := rfl
  have hm := Nat.mod_lt u hW
  rw [e, mir_eq (by omega)]
  have := Nat.div_add_mod u W
  rw [Nat.mul_comm] at this
  omega
theorem swapTo_at {d : Array UInt8} {W g : Nat} (hW : 0 < W) (hd : d.size = g * W) : ∀ t, t ≤ d.size → ∀ i, i < d.size → (swapTo d W t)[i]? = some (if mir W i < t then d.getD (mir W i) 0 else 0)
  | 0, _, i, hi => by simp [swapTo, hi]
  | t + 1, ht, i, hi => by
    have ih := swapTo_at hW hd t (by omega) i hi
    have hs := swapTo_size d W t
    simp only [swapTo]
    by_cases h : mir W t = i
    · subst h
      rw [Array.getElem?_setIfInBounds_self_of_lt (by rw [hs]; exact hi), mir_mir hW]
      simp
    · rw [Array.getElem?_setIfInBounds_ne h, ih]
      have hne : mir W i ≠ t := fun q => h (by rw [← q, mir_mir hW])
      by_cases h2 : mir W i < t
      · rw [if_pos h2, if_pos (by omega)]
      · rw [if_neg h2, if_neg (by omega)]
theorem swapTo_full {d : Array UInt8} {W g : Nat} (hW : 0 < W) (hd : d.size = g * W) {i : Nat} (hi : i < d.size) : (swapTo d W d.size)[i]? = d[mir W i]? := by
  have hm : mir W i < d.size := by rw [hd] at hi ⊢; exact mir_lt hW hi
  rw [swapTo_at hW hd _ (Nat.le_refl _) i hi, if_pos hm]
  simp [Array.getD, hm]
/-- the whole tape turned about as one word -/
theorem swap_word (tu : Bool) (σ : List Nat) : swapTo (enc tu σ) (enc tu σ).size (enc tu σ).size = enc (!tu) σ.reverse := by
  rcases Nat.eq_zero_or_pos (enc tu σ).size with h | h
  · have : σ = [] := by
      have := enc_size tu σ
      exact List.eq_nil_of_length_eq_zero (by omega)
    subst this; rfl
  · have hd : (enc tu σ).size = 1 * (enc tu σ).size := by omega
    apply Array.ext_getElem?
    intro i
    by_cases hi : i < (enc tu σ).size
    · rw [swapTo_full h hd hi]
      have hm : mir (enc tu σ).size i = (enc tu σ).size - 1 - i := by
        unfold mir
        rw [Nat.div_eq_of_lt hi, Nat.mod_eq_of_lt hi]; omega
      rw [hm]
      unfold enc
      rw [← encL_rev]
      simp only [List.getElem?_toArray, List.size_toArray]
      rw [List.getElem?_reverse (by simpa [enc] using hi)]
    · rw [Array.getElem?_eq_none (by rw [swapTo_size]; omega), Array.getElem?_eq_none (by rw [enc_size] at hi ⊢; simpa using hi)]
/-- the tape turned about by threes -/
theorem swap_threes (tu : Bool) (σ : List Nat) : swapTo (enc tu σ) 3 (enc tu σ).size = enc (!tu) σ := by
  have hd : (enc tu σ).size = σ.length * 3 := by rw [enc_size]; omega
  apply Array.ext_getElem?
  intro i
  by_cases hi : i < (enc tu σ).size
  · rw [swapTo_full (by decide) hd hi]
    have hlt : i / 3 < σ.length := by omega
    have hm : mir 3 i = 3 * (i / 3) + (2 - i % 3) := by unfold mir; omega
    rw [hm]
    unfold enc
    simp only [List.getElem?_toArray]
    rw [encL_at tu _ (by omega) σ _ hlt]
    have e := encL_at (!tu) (i % 3) (by omega) σ (i / 3) hlt
    rw [show 3 * (i / 3) + i % 3 = i by omega] at e
    rw [e, ← oct_rev, List.getElem?_reverse (by rw [oct_len]; omega), oct_len]
  · rw [Array.getElem?_eq_none (by rw [swapTo_size]; omega), Array.getElem?_eq_none (by rw [enc_size] at hi ⊢; omega)]
theorem signAt_enc (σ : List Nat) (i : Nat) (hi : i < σ.length) (hc : σ.getD i 0 < 1114112) : signAt (enc false σ) i = σ.getD i 0 := by
  have g : ∀ j, j < 3 → (enc false σ).getD (3 * i + j) 0 = ((oct false (σ.getD i 0))[j]?).getD 0 := fun j hj => by
    have e := encL_at false j hj σ i hi
    rw [← e]
    unfold enc
    rw [Array.getD_eq_getD_getElem?, List.getElem?_toArray]
  have g0 := g 0 (by omega)
  have g1 := g 1 (by omega)
  have g2 := g 2 (by omega)
  unfold signAt
  rw [Nat.add_zero] at g0
  rw [g0, g1, g2]
  generalize σ.getD i 0 = c at hc
  have e0 : ((oct false c)[0]?.getD 0).toNat = c / 65536 := by
    show (c / 65536).toUInt8.toNat = _
    simp; omega
  have e1 : ((oct false c)[1]?.getD 0).toNat = c / 256 % 256 := by
    show (c / 256 % 256).toUInt8.toNat = _
    simp
  have e2 : ((oct false c)[2]?.getD 0).toNat = c % 256 := by
    show (c % 256).toUInt8.toNat = _
    simp
  rw [e0, e1, e2]
  omega
theorem signsOf_enc (σ : List Nat) (hc : ∀ c ∈ σ, c < 1114112) : signsOf (enc false σ) σ.length = σ := by
  unfold signsOf
  apply List.ext_getElem?
  intro i
  by_cases hi : i < σ.length
  · have hv : σ.getD i 0 < 1114112 := hc _ (by simp [List.getD, hi])
    rw [List.getElem?_map, List.getElem?_range hi]
    simp only [Option.map_some]
    rw [signAt_enc σ i hi hv]
    simp [List.getD, hi]
  · rw [List.getElem?_eq_none (by simpa using hi), List.getElem?_eq_none (by omega)]
theorem enc_cut (tu : Bool) (σ : List Nat) (c : Nat) : (enc tu (σ ++ [c])).extract 0 (3 * σ.length) = enc tu σ := by
  rw [enc_snoc]
  have h := enc_size tu σ
  rw [← h]
  simp
end Mine
end

section
open PySem PySem.W PyProof.Rows PySem.Calls
set_option Elab.async false
set_option maxRecDepth 100000
namespace Mine
theorem sliced_one (b : Array UInt8) (a k : Nat) (hk : k ≤ b.size) : Builtin.Bytes.sliced b (a : Int) (k : Int) 1 = b.extract a k := by
  unfold Builtin.Bytes.sliced
  rw [sliceRange_one, pick_run]
  apply Array.ext'
  simp [List.extract_eq_take_drop]
theorem bounds_upto (n k : Nat) (hk : k ≤ n) : sliceBounds none (some (k : Int)) none n = (((0 : Nat) : Int), (k : Int), 1) := by
  simp only [sliceBounds, Option.getD_none]
  have h2 : ¬ ((k : Int) < 0) := by omega
  simp only [h2, if_false, show (1 : Int) > 0 by decide, if_true]
  congr 1
  congr 1; omega
theorem bounds_from (n a : Nat) (ha : a ≤ n) : sliceBounds (some (a : Int)) none none n = ((a : Int), (n : Int), 1) := by
  simp only [sliceBounds, Option.getD_none]
  have h1 : ¬ ((a : Int) < 0) := by omega
  simp only [h1, if_false, show (1 : Int) > 0 by decide, if_true]
  congr 1
  omega
theorem picked_upto (b : Array UInt8) (k : Nat) (hk : k ≤ b.size) : KBy.picked b none (some (k : Int)) = b.extract 0 k := by
  unfold KBy.picked
  rw [bounds_upto _ _ hk]
  exact sliced_one b 0 k hk
theorem picked_from (b : Array UInt8) (a : Nat) (ha : a ≤ b.size) : KBy.picked b (some (a : Int)) none = b.extract a b.size := by
  unfold KBy.picked
  rw [bounds_from _ _ ha]
  exact sliced_one b a b.size (Nat.le_refl _)
theorem whole_upto (b : Array UInt8) (k : Nat) (hk : k < b.size) : KBy.whole b none (some (k : Int)) = false := by
  unfold KBy.whole
  rw [bounds_upto _ _ (by omega)]
  have e : (((k : Nat) : Int) == ((b.size : Nat) : Int)) = false := by rw [beq_eq_false_iff_ne]; omega
  simp only [e, Bool.and_false, Bool.false_and]
theorem whole_from (b : Array UInt8) (a : Nat) (h0 : 0 < a) (ha : a ≤ b.size) : KBy.whole b (some (a : Int)) none = false := by
  unfold KBy.whole
  rw [bounds_from _ _ ha]
  have e : (((a : Nat) : Int) == (0 : Int)) = false := by rw [beq_eq_false_iff_ne]; omega
  simp only [e, Bool.false_and]
end Mine
end

section
open PySem PySem.W PyProof.Rows PySem.Calls
open Sem (wp)
set_option Elab.async false
set_option maxRecDepth 100000
namespace Mine
section
variable {w : World} {A : Around} {s : Shared} {mean : ExcName → Option Value} {mg mb : Str → Option Value} {E : Value → Shared → Prop} {Q : Value → Shared → Prop} {env : Env} {m : Str → Option Value}
theorem fresh_of_kp {h h' : Heap} (k : Kp h h') {D : Addr} (e : h'.get? D = none) : h.get? D = none := by
  cases q : h.get? D with
  | none => rfl
  | some o => rw [k _ _ q] at e; cases e
set_option maxHeartbeats 1000000 in
/-- the signs of a tape, read as it stands -/
theorem eval_signs {p1 p2 p3 p4 p5 p6 p7 p8 p9 : Pos} {k5 : Nat} {σ : List Nat} {tu : Bool} {t1 : Tok} (G : Gd w mean mg mb s.heap) (hh : A.handled = none) (hroom : A.depth + 20 < recursionLimit)
    (hns : s.heap.Ns env.locals m) (htape : m (Str.ofString "tape") = some (.bytes (enc tu σ) t1)) (htu : m (Str.ofString "turned") = some (.bool tu)) (hσ : ∀ c ∈ σ, c < 1114112) (hlen : σ.length ≤ 100)
    (h : ∀ D h' tk ys, s.heap.get? D = none → Kp s.heap h' → h'.IsList D ys → Signs ys.toList σ → Q (.ref D) { s with heap := h', toks := tk })
    (hgl : env.globals = mainGlobals := by rfl) (hbl : env.builtins = builtinsNs := by rfl) (hk : env.scope.kind = .function := by rfl)
    (x1 : env.kindOf (Str.ofString "_law_read") = some .globalImplicit := by rfl) (x2 : env.kindOf (Str.ofString "_byteswap") = some .globalImplicit := by rfl)
    (x3 : env.kindOf (Str.ofString "tape") = some .local := by rfl) (x4 : env.kindOf (Str.ofString "turned") = some .local := by rfl) :
    wpP Clean (model pr w) A (eval (.Call (.Name (Str.ofString "_law_read") p1) [.IfExp (.Name (Str.ofString "turned") p2) (.Call (.Name (Str.ofString "_byteswap") p3) [.Name (Str.ofString "tape") p4, .Constant (.int 3) k5 p5] [] p6) (.Name (Str.ofString "tape") p7) p8] [] p9) env) Q E s := by
  have hsz := enc_size tu σ
  refine call_defPF G.T (fun _ _ e => e) (by rfl) (fun f hf => ?_) (by rfl) hgl hk x1
  refine wpP_args_cons (wpP_IfExp (wpP_of (isTrue_plain (nm_loc hns htu ?_ hk x4))))
  refine wpAny_truthy_bool ?_
  cases tu
  · simp only [Bool.false_eq_true, if_false]
    refine wpP_of (nm_loc hns htape (wpP_of (args_nil ⟨fun _ _ e => e, ?_⟩)) hk x3)
    refine wpP_of (read_tape (n := σ.length) G hf hh (by omega) (by omega) (by omega) (fun i hi => ?_) fun D h' tk ys hD hl hsg hkp => ?_)
    · have hv : σ.getD i 0 < 1114112 := hσ _ (by simp [List.getD, hi])
      rw [signAt_enc σ i hi hv]; exact hv
    · rw [signsOf_enc σ hσ] at hsg
      exact h D h' tk ys hD hkp hl hsg
  · simp only [if_true]
    refine call_defPF G.T (fun _ _ e => e) (by rfl) (fun f2 hf2 => ?_) (by rfl) hgl hk x2
    refine wpP_of (args_cons (nm_loc hns htape (args_cons ?_) hk x3))
    walk1
    refine args_nil ⟨fun _ _ e => e, ?_⟩
    refine byteswap (s := { heap := s.heap, gens := s.gens, drawn := s.drawn, toks := s.toks + 1, os := s.os }) (d := enc true σ) (W := 3) (g := σ.length) G hf2 hh (by omega) (by decide) (by omega) (by omega) (by decide) fun t' h' tk kp => ?_
    rw [swap_threes, show (!true) = false from rfl]
    have hsz2 := enc_size false σ
    refine wpP_of (args_nil ⟨kp, ?_⟩)
    refine wpP_of (read_tape (d := enc false σ) (n := σ.length) (G.keeps kp) hf hh (by omega) (by omega) (by omega) (fun i hi => ?_) fun D h'' tk ys hD hl hsg hkp => ?_)
    · have hv : σ.getD i 0 < 1114112 := hσ _ (by simp [List.getD, hi])
      show signAt (enc false σ) i < _
      rw [signAt_enc σ i hi hv]; exact hv
    · have hsg' : Signs ys.toList (signsOf (enc false σ) σ.length) := hsg
      rw [signsOf_enc σ hσ] at hsg'
      exact h D h'' tk ys (fresh_of_kp kp hD) (fun b o e => hkp b o (kp b o e)) hl hsg'
end
end Mine
end

section
open PySem PySem.W PyProof.Rows PySem.Calls
open Sem (wp)
set_option Elab.async false
set_option maxRecDepth 100000
namespace Mine
local macro_rules | `(tactic| walk_at "eval Name") => `(tactic| refine tp_builtin (by assumption) (by assumption) (by boot_fast) ?_)
theorem News_head {h₀ h : Heap} {L : Addr} {p : Addr × Obj} {news : List (Addr × Obj)} (N : News h₀ L h (p :: news)) : News h₀ L h [p] := fun q hq => by rw [List.mem_singleton.mp hq]; exact N p (.head _)
def longerAll (least : Int) (σ : List Nat) : Bool := decide (least ≤ gain σ σ.length)
/-- the signs taken back from a tape of n signs -/
def tk (least : Int) : Nat → List Nat → Bool → List Nat → List Nat
  | 0, _, _, back => back
  | n + 1, σ, tu, back =>
    let σ' := if longerAll least σ = tu then σ else σ.reverse
    tk least n σ'.dropLast (longerAll least σ) (σ'.getD n 0 :: back)
abbrev tkL (least : Int) (tl : Tok) (tape back turned signs : Option Value) : List (Str × Option Value) :=
  [(Str.ofString "least", some (.int least tl)), (Str.ofString "tape", tape), (Str.ofString "back", back), (Str.ofString "turned", turned), (Str.ofString "signs", signs)]
set_option maxHeartbeats 2000000 in
theorem taken {w : World} {A : Around} {s : Shared} {mean mg mb} {E : Value → Shared → Prop} {Q : Value → Shared → Prop} (G : Gd w mean mg mb s.heap) {f : Addr} (hmg : mg (Str.ofString "_law_taken") = some (.ref f))
   (hh : A.handled = none) (hroom : A.depth + 30 < recursionLimit) {σ₀ : List Nat} {tt tl : Tok} {least : Int} (hσ₀ : ∀ c ∈ σ₀, c < 1114112) (hn₀ : σ₀.length ≤ 100) (h0 : 0 ≤ least) (h1 : least ≤ 1)
   (h : ∀ D h' tk' ys, s.heap.get? D = none → Kp s.heap h' → h'.IsList D ys → Signs ys.toList (tk least σ₀.length σ₀ false []) → Q (.ref D) { s with heap := h', toks := tk' }) :
   wpP Clean (model pr w) A (call (.ref f) [.bytes (enc false σ₀) tt, .int least tl]) Q E s := by
  have T := G.T
  refine enterP Pk.clean (binds := [(Str.ofString "tape", .bytes (enc false σ₀) tt), (Str.ofString "least", .int least tl)]) T (by rfl) hmg (by omega) (fun _ _ _ => by rfl) (by show ∀ y ∈ [Str.ofString "tape", Str.ofString "least"], List.lookup y _ = some NameKind.local; decide +kernel) ?_
  intro h₁ cd F0
  have F : Fr s.heap s.heap.objs.size h₁ (lk (tkL least tl (some (.bytes (enc false σ₀) tt)) none none none)) := Fr_entry F0 [Str.ofString "back", Str.ofString "turned", Str.ofString "signs"]
  clear F0
  have N : News s.heap s.heap.objs.size h₁ [] := News.nil
  dsimp only
  refine wpP_execs_cons (wpP_of ?_)
  iterate 5 walk1
  refine wpP_execs_cons (wpP_of ?_)
  iterate 3 walk1
  rename_i h₃ F₃' N₃
  have F₃ : Fr s.heap s.heap.objs.size h₃ (lk (tkL least tl (some (.bytes (enc false σ₀) tt)) (some (.ref h₁.objs.size)) (some (.bool false)) none)) := Fr_set2 F₃'
  clear F₃' F N
  refine wpP_execs_cons (wpP_While Pk.clean ?_)
  refine codeP_whileLoop Pk.clean (fun n s' => ∃ σ tu back t1 bk bvs ob h tk' sg, n = σ.length ∧ s' = { s with heap := h, toks := tk' } ∧ (∀ c ∈ σ, c < 1114112) ∧ σ.length ≤ 100 ∧ back.length + σ.length ≤ 100 ∧
      tk least σ.length σ tu back = tk least σ₀.length σ₀ false [] ∧ Fr s.heap s.heap.objs.size h (lk (tkL least tl (some (.bytes (enc tu σ) t1)) (some (.ref bk)) (some (.bool tu)) sg)) ∧
      News s.heap s.heap.objs.size h [(bk, ob)] ∧ ob.cls = .type "list" ∧ (∃ k, ob.data = .seq bvs k) ∧ Signs bvs.toList back) ?_ σ₀.length ?_
  · rintro n s' ⟨σ, tu, back, t1, bk, bvs, ob, h4, tk4, sg, rfl, rfl, hσ, hlen, hbl, htk, F4, N4, hoc, hod, hbs⟩
    have G4 := G.keeps F4.keep
    have hsz := enc_size tu σ
    refine wpP_of ?_
    iterate 10 walk1
    refine wpAny_truthy_bool ?_
    obtain ⟨n, hn⟩ : ∃ n, n = σ.length := ⟨_, rfl⟩
    cases n with
    | zero =>
      have e : decide (0 < (((enc tu σ).size : Nat) : Int)) = false := by rw [hsz]; simp; omega
      rw [e]
      simp only [Bool.false_eq_true, if_false]
      refine wpP_execs_nil ?_
      refine wpP_of ?_
      iterate 3 walk1
      rw [← hn] at htk
      refine h bk h4 _ bvs (N4.fresh (.head _)) F4.keep ⟨ob, N4.get (.head _), hoc, hod⟩ ?_
      rw [← htk]; exact hbs
    | succ n =>
      have e : decide (0 < (((enc tu σ).size : Nat) : Int)) = true := by rw [hsz]; simp; omega
      rw [e]
      simp only [if_true]
      refine wpP_execs_cons (wpP_Assign_Name ?_)
      refine eval_signs (σ := σ) (tu := tu) (s := { s with heap := h4, toks := _ }) G4 hh (by show A.depth + 1 + 20 < _; omega) F4.ns rfl rfl hσ hlen fun D h5 tk5 ys hD k5 hl5 hs5 => ?_
      have F5 := Fr_kp F4 k5
      have hbk5 : h5.get? bk = some ob := k5 _ _ (N4.get (.head _))
      obtain ⟨oD, hoD⟩ : ∃ oD, h5.get? D = some oD := by obtain ⟨o, ho, _⟩ := hl5; exact ⟨o, ho⟩
      have hDL : D ≠ s.heap.objs.size := fun q => by
        obtain ⟨o, es, ep, ho, _⟩ := F4.ns
        have hD' : h4.get? D = none := hD
        rw [q] at hD'
        have ho' : h4.get? s.heap.objs.size = some o := ho
        rw [hD'] at ho'; cases ho'
      have hDs : s.heap.get? D = none := fresh_of_kp F4.keep hD
      have N5 := News_cons (News_kp N4 k5) hoD hDL hDs
      refine wpP_of (stN F5 N5 fun h6 F6' N6 => ?_)
      have F6 : Fr s.heap s.heap.objs.size h6 (lk (tkL least tl (some (.bytes (enc tu σ) t1)) (some (.ref bk)) (some (.bool tu)) (some (.ref D)))) := Fr_set1 F6'
      clear F6' F5 N5 F4 N4 G4
      obtain ⟨hDc, kD, hDd⟩ : oD.cls = .type "list" ∧ ∃ k, oD.data = .seq ys k := by
        obtain ⟨o, ho, r⟩ := hl5
        rw [hoD] at ho; cases ho
        exact r
      have hl6 : h6.IsList D ys := ⟨oD, N6.get (.head _), hDc, kD, hDd⟩
      obtain ⟨lo, hlo⟩ : ∃ lo, lo = longerAll least σ := ⟨_, rfl⟩
      dsimp only
      refine wpP_execs_cons (wpP_mono (Q := fun fl s' => fl = Flow.next ∧ ∃ h8 tk8 t8 D8 o8 ys8 k8, s' = { s with heap := h8, toks := tk8 } ∧
        Fr s.heap s.heap.objs.size h8 (lk (tkL least tl (some (.bytes (enc lo (if lo = tu then σ else σ.reverse)) t8)) (some (.ref bk)) (some (.bool lo)) (some (.ref D8)))) ∧
        News s.heap s.heap.objs.size h8 [(D8, o8), (bk, ob)] ∧ o8.cls = .type "list" ∧ o8.data = .seq ys8 k8 ∧ Signs ys8.toList (if lo = tu then σ else σ.reverse)) ?_ ?_ (fun _ _ x => x))
      · refine wpP_If (wpP_of ?_)
        iterate 7 walk1
        refine call_defF G.T F6.keep (by rfl) fun f' hf' => ?_
        iterate 2 walk1
        refine args_nil ⟨F6.keep, ?_⟩
        refine prepared (cs := σ) (G.keeps F6.keep) hf' (by exact hh) (by show A.depth + 1 + 5 < _; omega) hl6 hs5 (by omega) fun t7 h7 tk7 k7 => ?_
        have F7 := Fr_kp F6 k7
        have N7 := News_kp N6 k7
        have hpl := plen_le σ
        have hlen5 : ys.size = σ.length := by have := paired_all hs5; rw [Array.length_toList] at this; exact this
        have hl7 : h7.IsList D ys := hl6.at fun o e => k7 _ _ e
        walk1
        refine SBL.len (by show ((plen σ : Nat) : Int) < _; omega) ?_
        iterate 8 walk1
        have ek : (((Txt.join (Str.ofString "") (preps σ)).length : Nat) : Int) - ((ys.size : Nat) : Int) = gain σ σ.length := by
          show ((plen σ : Nat) : Int) - _ = _
          unfold gain; rw [List.take_length]; omega
        rw [ek]
        iterate 4 walk1
        rw [show decide (least ≤ gain σ σ.length) = lo from hlo.symm]
        refine wpAny_truthy_bool ?_
        by_cases hlt : lo = tu
        · subst hlt
          have e : (lo != lo) = false := by simp
          rw [e]
          simp only [Bool.false_eq_true, if_false, if_true]
          exact wpP_execs_nil ⟨rfl, h7, _, t1, D, oD, ys, kD, rfl, F7, N7, hDc, hDd, hs5⟩
        · have e : (lo != tu) = true := by simpa using hlt
          have elt : (!tu) = lo := by cases lo <;> cases tu <;> simp_all
          rw [e]
          simp only [if_true, hlt, if_false]
          refine wpP_execs_cons (wpP_of ?_)
          iterate 5 walk1
          refine stN F7 N7 fun h8 F8' N8 => ?_
          have F8 : Fr s.heap s.heap.objs.size h8 (lk (tkL least tl (some (.bytes (enc tu σ) t1)) (some (.ref bk)) (some (.bool lo)) (some (.ref D)))) := elt ▸ Fr_set1 F8'
          clear F8' F7 N7 F6 N6
          dsimp only
          refine wpP_execs_cons (wpP_Assign_Name ?_)
          refine call_defPF G.T F8.keep (by rfl) fun f8 hf8 => ?_
          refine wpP_of ?_
          iterate 10 walk1
          refine args_nil ⟨F8.keep, ?_⟩
          refine byteswap (d := enc tu σ) (g := 1) (G.keeps F8.keep) hf8 (by exact hh) (by show A.depth + 1 + 5 < _; omega) (by omega) (by omega) (by omega) (by omega) fun t10 h10 tk10 k10 => ?_
          rw [swap_word, elt]
          have F10 := Fr_kp F8 k10
          have N10 := News_kp N8 k10
          refine wpP_of (stN F10 N10 fun h11 F11' N11 => ?_)
          have F11 : Fr s.heap s.heap.objs.size h11 (lk (tkL least tl (some (.bytes (enc lo σ.reverse) t10)) (some (.ref bk)) (some (.bool lo)) (some (.ref D)))) := Fr_set1 F11'
          clear F11' F10 N10 F8 N8
          dsimp only
          refine wpP_execs_cons (wpP_Assign_Name ?_)
          refine eval_signs (σ := σ.reverse) (tu := lo) (s := { s with heap := h11, toks := _ }) (G.keeps F11.keep) hh (by show A.depth + 1 + 20 < _; omega) F11.ns rfl rfl (by simpa using hσ) (by simpa using hlen) fun D2 h12 tk12 ys2 hD2 k12 hl12 hs12 => ?_
          have F12 := Fr_kp F11 k12
          obtain ⟨oD2, hoD2⟩ : ∃ oD, h12.get? D2 = some oD := by obtain ⟨o, ho, _⟩ := hl12; exact ⟨o, ho⟩
          have hDL2 : D2 ≠ s.heap.objs.size := fun q => by
            obtain ⟨o, es, ep, ho, _⟩ := F11.ns
            have hD' : h11.get? D2 = none := hD2
            rw [q] at hD'
            have ho' : h11.get? s.heap.objs.size = some o := ho
            rw [hD'] at ho'; cases ho'
          have hDs2 : s.heap.get? D2 = none := fresh_of_kp F11.keep hD2
          have N12 := News_cons (News_kp (News_tail N11) k12) hoD2 hDL2 hDs2
          refine wpP_of (stN F12 N12 fun h13 F13' N13 => ?_)
          have F13 : Fr s.heap s.heap.objs.size h13 (lk (tkL least tl (some (.bytes (enc lo σ.reverse) t10)) (some (.ref bk)) (some (.bool lo)) (some (.ref D2)))) := Fr_set1 F13'
          obtain ⟨hDc2, kD2, hDd2⟩ : oD2.cls = .type "list" ∧ ∃ k, oD2.data = .seq ys2 k := by
            obtain ⟨o, ho, r⟩ := hl12
            rw [hoD2] at ho; cases ho
            exact r
          exact wpP_execs_nil ⟨rfl, h13, _, t10, D2, oD2, ys2, kD2, rfl, F13, N13, hDc2, hDd2, hs12⟩
      · rintro fl s' ⟨rfl, h8, tk8, t8, D8, o8, ys8, k8, rfl, F8, N8, hc8, hd8, hs8⟩
        obtain ⟨σ', hσ'⟩ : ∃ σ', σ' = (if lo = tu then σ else σ.reverse) := ⟨_, rfl⟩
        rw [← hσ'] at F8 hs8
        have hlen' : σ'.length = n + 1 := by rw [hσ']; split; exact hn.symm; rw [List.length_reverse]; exact hn.symm
        have hval' : ∀ c ∈ σ', c < 1114112 := by rw [hσ']; split <;> simpa using hσ
        have htk' : tk least n σ'.dropLast lo (σ'.getD n 0 :: back) = tk least σ₀.length σ₀ false [] := by
          rw [← htk, ← hn]
          show _ = tk least n (if longerAll least σ = tu then σ else σ.reverse).dropLast (longerAll least σ) ((if longerAll least σ = tu then σ else σ.reverse).getD n 0 :: back)
          rw [← hlo, ← hσ']
        have hys8 : ys8.size = n + 1 := by have := paired_all hs8; rw [Array.length_toList] at this; omega
        have hsz8 := enc_size lo σ'
        have hl8 : h8.IsList D8 ys8 := ⟨o8, N8.get (.head _), hc8, k8, hd8⟩
        clear hσ' hs5 hl6 hl5
        dsimp only
        refine wpP_of ?_
        iterate 17 walk1
        obtain ⟨tc, hat⟩ := signs_at hs8 n (by omega)
        refine item_list (n := n) hl8 (by omega) (by omega) (show ys8[n]? = _ by rw [← Array.getElem?_toList]; exact hat) ?_
        iterate 3 walk1
        rename_i h9 F9 N9
        have hbk9 : h9.IsList bk bvs := ⟨ob, N9.get (.tail _ (.tail _ (.head _))), hoc, hod⟩
        have hbvs : bvs.size = back.length := by have := paired_all hbs; rw [Array.length_toList] at this; exact this
        refine add_arrays F9 N9 (N9.isList (.head _)) hbk9 (fun h10 F10 N10 => ?_) ?_
        · refine stN F10 N10 fun h11 F11' N11 => ?_
          have F11 : Fr s.heap s.heap.objs.size h11 (lk (tkL least tl (some (.bytes (enc lo σ') t8)) (some (.ref _)) (some (.bool lo)) (some (.ref D8)))) := Fr_set1 F11'
          clear F11' F9 F10 N9 N10
          iterate 18 walk1
          have e3 : ((((enc lo σ').size : Nat) : Int) - 3) = ((3 * n : Nat) : Int) := by rw [hsz8, hlen']; omega
          refine KBy.slice_N (s := ⟨h11, _, _, _, _⟩) F11 N11 .none (.int _ _) (by rw [e3]; exact whole_upto _ _ (by omega)) (by rw [e3, picked_upto _ _ (by omega)]; simp; omega) fun h12 t12 k12 F12 N12 => ?_
          rw [e3, picked_upto _ _ (by omega)]
          refine stN F12 N12 fun h13 F13' N13 => ?_
          obtain ⟨τ, c, hτ⟩ : ∃ τ c, σ' = τ ++ [c] := ⟨σ'.dropLast, σ'.getLast (by intro q; rw [q] at hlen'; simp at hlen'), (List.dropLast_concat_getLast _).symm⟩
          have hτl : τ.length = n := by have := hlen'; rw [hτ] at this; simpa using this
          have ecut : (enc lo σ').extract 0 (3 * n) = enc lo τ := by rw [hτ, ← hτl]; exact enc_cut lo τ c
          rw [ecut] at F13'
          have F13 := Fr_set1 F13'
          have hbk13 : Signs ((#[_].toList ++ bvs.toList).toArray).toList (σ'.getD n 0 :: back) := .cons ⟨tc, rfl⟩ (by simpa using hbs)
          refine wpAny_execs_nil ⟨n, by omega, τ, lo, σ'.getD n 0 :: back, t12, _, _, _, h13, _, _, hτl.symm, rfl, ?_, by omega, ?_, ?_, F13, News_head N13, rfl, ⟨_, rfl⟩, hbk13⟩
          · intro x hx; exact hval' x (by rw [hτ]; exact List.mem_append_left _ hx)
          · rw [List.length_cons]; omega
          · rw [hτl, ← htk', hτ]; simp
        · rw [hbvs, sizeLine_eq]; show 1 + back.length ≤ 16777216; omega
  · exact ⟨σ₀, false, [], tt, _, #[], _, h₃, _, none, rfl, rfl, hσ₀, hn₀, by simpa using hn₀, rfl, F₃, N₃, rfl, ⟨_, rfl⟩, .nil⟩
end Mine
end

section
open PySem PySem.W PyProof.Rows PySem.Calls
open Sem (wp)
set_option Elab.async false
set_option maxRecDepth 100000
namespace Mine
section
variable {P : Ctx → Prop} {M : Model} {A : Around} {E : Value → Shared → Prop} {s : Shared} {env : Env}
theorem wpP_Assign_Tuple {elts k tpos value pos} {Q : Flow → Shared → Prop}
    (h : wpP P M A (eval value env) (fun v s₁ => wpP P M A (assign (.Tuple elts k tpos) env v) (fun _ => Q .next) E s₁) E s)
    (hs : swapsWithSole [.Tuple elts k tpos] value pos.line env = pure false := by rfl)
    (hw : swappedStores [.Tuple elts k tpos] value env = pure none := by rfl) :
    wpP P M A (exec (.Assign [.Tuple elts k tpos] value pos) env) Q E s := by
  rw [exec_Assign]
  refine wpP_bind (wpP_standAt ?_)
  rw [hs]
  refine wpP_bind (wpP_pure ?_)
  rw [if_neg (by decide)]
  refine wpP_bind (wpP_mono h (fun v s₁ h₁ => ?_) fun _ _ x => x)
  rw [hw]
  refine wpP_bind (wpP_pure ?_)
  show wpP P M A (do assignAll v [assign (.Tuple elts k tpos) env]; pure .next) Q E s₁
  exact wpP_bind (wpP_mono h₁ (fun _ _ x => wpP_pure x) fun _ _ x => x)
end
section
variable {P : Ctx → Prop} {w : World} {A : Around} {E : Value → Shared → Prop} {s : Shared} {env : Env}
theorem wpP_Expr_any {e pos} {Q : Flow → Shared → Prop} (h : wpP P (model pr w) A (eval e env) (fun _ => Q .next) E s)
    (hi : interactive env = false := by rfl) (hs : swapsWith e none pos.line env = pure false := by rfl) :
    wpP P (model pr w) A (exec (.Expr e pos) env) Q E s := by
  rw [exec_Expr env e pos hi hs]
  exact wpP_bind (wpP_standAt (wpP_bind (wpP_mono h (fun v s' h' => wpP_of (wpAny_dropValue h')) fun _ _ x => x)))
end
/-- a frame and its ledger behind a callee that noted the frames around it -/
theorem FN_turn {h₀ h g' h' : Heap} {L : Addr} {m : Str → Option Value} {news : List (Addr × Obj)} {fs : List Addr} (hfs : ∀ b ∈ fs, b = L) (F : Fr h₀ L h m) (N : News h₀ L h news) (T : KtsTurn fs h g') (k : Kp g' h') : Fr h₀ L h' m ∧ News h₀ L h' news := by
  refine ⟨⟨?_, fun b o e => ?_, F.above⟩, fun p hp => ⟨k _ _ (T.other _ _ (N p hp).1 fun q => (N p hp).2.1 (hfs _ q)), (N p hp).2⟩⟩
  · obtain ⟨o, es, ep, ho, hd, r⟩ := F.ns
    obtain ⟨sl, hs⟩ := T.up ho
    exact ⟨_, es, ep, k _ _ hs, hd, r⟩
  · refine k _ _ (T.other _ _ (F.keep b o e) fun q => ?_)
    have e' := hfs _ q
    subst e'
    exact absurd (Nat.lt_of_lt_of_le (Heap.lt_size e) F.above) (Nat.lt_irrefl _)
end Mine
end

section
open PySem PySem.W PyProof.Rows PySem.Calls
set_option Elab.async false
set_option maxRecDepth 100000
namespace Mine
/-- by how much one sign is lengthened -/
def gv (c : Nat) : Int := ((if b1S (c : Int) = true then 0 else (b3 c).length : Nat) : Int) - 1
def gs (cs : List Nat) : Int := (cs.map gv).sum
theorem gs_nil : gs [] = 0 := rfl
theorem gs_cons (c : Nat) (cs : List Nat) : gs (c :: cs) = gv c + gs cs := by simp [gs]
theorem gs_append (a b : List Nat) : gs (a ++ b) = gs a + gs b := by simp [gs, List.map_append, List.sum_append]
theorem gs_reverse (a : List Nat) : gs a.reverse = gs a := by
  induction a with
  | nil => rfl
  | cons c a ih => rw [List.reverse_cons, gs_append, ih, gs_cons, gs_cons, gs_nil]; omega
theorem plen_gs (cs : List Nat) : (plen cs : Int) - cs.length = gs cs := by
  rw [plen_eq]
  induction cs with
  | nil => rfl
  | cons c cs ih =>
    rw [gs_cons, ← ih]
    unfold gv preps
    simp only [List.filter_cons, List.length_cons]
    cases hb : b1S (c : Int) <;> simp <;> omega
theorem gain_gs (cs : List Nat) (k : Nat) (hk : k ≤ cs.length) : gain cs k = gs (cs.take k) := by
  unfold gain
  rw [← plen_gs, List.length_take, Nat.min_eq_left hk]
theorem gain_all (cs : List Nat) : gain cs cs.length = gs cs := by
  rw [gain_gs _ _ (Nat.le_refl _), List.take_length]
theorem gain_cons (c : Nat) (τ : List Nat) (j : Nat) (hj : j ≤ τ.length) : gain (c :: τ) (j + 1) = gv c + gain τ j := by
  rw [gain_gs _ _ (by simpa using hj), gain_gs _ _ hj, List.take_succ_cons, gs_cons]
theorem gain_append (τ ρ : List Nat) (j : Nat) (hj : j ≤ τ.length) : gain (τ ++ ρ) j = gain τ j := by
  rw [gain_gs _ _ (by rw [List.length_append]; omega), gain_gs _ _ hj, List.take_append_of_le_length hj]
/-- how many fronts are longer -/
def cntTo (cs : List Nat) (least : Int) : Nat → Nat
  | 0 => 0
  | k + 1 => if longerB cs least k = true then cntTo cs least k + 1 else cntTo cs least k
/-- the tape's signs in reading order, behind k signs -/
def tau (cs : List Nat) (least : Int) : Nat → List Nat
  | 0 => []
  | k + 1 => if longerB cs least k = true then cs.getD k 0 :: tau cs least k else tau cs least k ++ [cs.getD k 0]
theorem tau_len (cs : List Nat) (least : Int) : ∀ k, (tau cs least k).length = k
  | 0 => rfl
  | k + 1 => by simp only [tau]; split <;> simp [tau_len cs least k]
theorem take_snoc (cs : List Nat) (k : Nat) (hk : k < cs.length) : cs.take (k + 1) = cs.take k ++ [cs.getD k 0] := by
  rw [List.take_add_one]; simp [List.getD, hk]
theorem gs_tau (cs : List Nat) (least : Int) : ∀ k, k ≤ cs.length → gs (tau cs least k) = gs (cs.take k)
  | 0, _ => by simp [tau]
  | k + 1, hk => by
    have ih := gs_tau cs least k (by omega)
    rw [take_snoc cs k (by omega), gs_append]
    simp only [tau]
    split
    · rw [gs_cons, ih, gs_cons, gs_nil]; omega
    · rw [gs_append, ih]
theorem mem_tau (cs : List Nat) (least : Int) : ∀ k, k ≤ cs.length → ∀ c ∈ tau cs least k, c ∈ cs
  | 0, _, c, h => by simp [tau] at h
  | k + 1, hk, c, h => by
    have ih := mem_tau cs least k (by omega)
    have hm : cs.getD k 0 ∈ cs := by simp [List.getD, show k < cs.length by omega]
    simp only [tau] at h
    split at h
    · rcases List.mem_cons.mp h with rfl | h
      · exact hm
      · exact ih c h
    · rcases List.mem_append.mp h with h | h
      · exact ih c h
      · rw [List.mem_singleton.mp h]; exact hm
/-- what stands on the tape -/
theorem wr_tau (cs : List Nat) (least : Int) : ∀ k, (wr cs least k).1 = enc (wr cs least k).2.1 (if (wr cs least k).2.1 = true then (tau cs least k).reverse else tau cs least k)
  | 0 => rfl
  | k + 1 => by
    have ih := wr_tau cs least k
    have e1 : (wr cs least (k + 1)).2.1 = longerB cs least k := rfl
    have e0 : (wr cs least (k + 1)).1 = (if longerB cs least k = true then (if longerB cs least k = (wr cs least k).2.1 then (wr cs least k).1 else swapTo (wr cs least k).1 (wr cs least k).1.size (wr cs least k).1.size) ++ octsR (cs.getD k 0)
      else (if longerB cs least k = (wr cs least k).2.1 then (wr cs least k).1 else swapTo (wr cs least k).1 (wr cs least k).1.size (wr cs least k).1.size) ++ octs (cs.getD k 0)) := rfl
    rw [e0, e1]
    simp only [tau]
    generalize (wr cs least k).2.1 = lo at *
    generalize (wr cs least k).1 = t at *
    generalize longerB cs least k = l1 at *
    subst ih
    have e : (if l1 = lo then enc lo (if lo = true then (tau cs least k).reverse else tau cs least k) else swapTo (enc lo (if lo = true then (tau cs least k).reverse else tau cs least k)) (enc lo (if lo = true then (tau cs least k).reverse else tau cs least k)).size (enc lo (if lo = true then (tau cs least k).reverse else tau cs least k)).size) =
        enc l1 (if l1 = true then (tau cs least k).reverse else tau cs least k) := by
      cases l1 <;> cases lo <;> simp [swap_word]
    rw [e]
    cases l1
    · simp only [Bool.false_eq_true, if_false]
      rw [enc_snoc]; simp
    · simp only [if_true, List.reverse_cons]
      rw [enc_snoc]; simp
/-- the tape that is handed back -/
theorem tape_end (cs : List Nat) (least : Int) (k : Nat) : (if (wr cs least k).2.1 = true then swapTo (wr cs least k).1 (wr cs least k).1.size (wr cs least k).1.size else (wr cs least k).1) = enc false (tau cs least k) := by
  have h := wr_tau cs least k
  generalize (wr cs least k).2.1 = lo at *
  rw [h]
  cases lo
  · simp
  · simp only [if_true]
    rw [swap_word]; simp
theorem refused_eq (cs : List Nat) (least : Int) : ∀ k, (wr cs least (k + 1)).2.2 = longerB cs least 0
  | 0 => by
    show (false || (longerB cs least 0 != false && (0 == 0))) = _
    simp
  | k + 1 => by
    have ih := refused_eq cs least k
    show ((wr cs least (k + 1)).2.2 || (longerB cs least (k + 1) != (wr cs least (k + 1)).2.1 && (wr cs least (k + 1)).1.size == 0)) = _
    have hz : ((wr cs least (k + 1)).1.size == 0) = false := by rw [wr_size]; simp
    rw [ih, hz, Bool.and_false, Bool.or_false]
theorem crest_append (τ : List Nat) (c : Nat) (least : Int) : ∀ j, j ≤ τ.length → crestTo (τ ++ [c]) least j = crestTo τ least j
  | 0, _ => rfl
  | j + 1, hj => by simp only [crestTo]; rw [crest_append τ c least j (by omega), gain_append τ [c] (j + 1) hj]
theorem crest_nonneg (τ : List Nat) (least : Int) (h0 : 0 ≤ least) : ∀ j, 0 ≤ (crestTo τ least j).1
  | 0 => Int.le_refl 0
  | j + 1 => by
    have ih := crest_nonneg τ least h0 j
    simp only [crestTo]
    split <;> (try simp only) <;> omega
theorem crest_ge (τ : List Nat) (least : Int) (h1 : least ≤ 1) : ∀ j, gain τ j ≤ (crestTo τ least j).1
  | 0 => by simp [crestTo, gain, plen_eq, preps]
  | j + 1 => by
    simp only [crestTo]
    split <;> (try simp only) <;> omega
theorem crest_cons (c : Nat) (τ : List Nat) (least : Int) (h0 : 0 ≤ least) (h1 : least ≤ 1) : ∀ j, j ≤ τ.length →
    crestTo (c :: τ) least (j + 1) = if least ≤ gv c + (crestTo τ least j).1 then (gv c + (crestTo τ least j).1, (crestTo τ least j).2 + 1) else (0, 0)
  | 0, hj => by
    have e := gain_cons c τ 0 (Nat.zero_le _)
    have g0 : gain τ 0 = 0 := by simp [gain, plen_eq, preps]
    simp only [crestTo]
    rw [e, g0]
    simp [ge_iff_le]
  | j + 1, hj => by
    have ih := crest_cons c τ least h0 h1 j (by omega)
    have e := gain_cons c τ (j + 1) hj
    rw [crestTo, ih, e]
    rw [show crestTo τ least (j + 1) = if gain τ (j + 1) ≥ (crestTo τ least j).1 + least then (gain τ (j + 1), j + 1) else crestTo τ least j from rfl]
    generalize crestTo τ least j = p
    generalize gain τ (j + 1) = g
    obtain ⟨m, pl⟩ := p
    simp only
    by_cases a : least ≤ gv c + m <;> by_cases b : g ≥ m + least
    · simp only [a, b, if_true]
      rw [if_pos (by omega), if_pos (by omega)]
    · simp only [a, b, if_true, if_false]
      rw [if_neg (by omega)]
    · simp only [a, b, if_true, if_false]
      by_cases d : least ≤ gv c + g
      · rw [if_pos (by omega), if_pos d]
      · rw [if_neg (by omega), if_neg d]
    · simp only [a, b, if_false]
      rw [if_neg (by omega)]
/-- the crest's place is the number of longer fronts -/
theorem crest_count (cs : List Nat) (least : Int) (h0 : 0 ≤ least) (h1 : least ≤ 1) : ∀ k, k ≤ cs.length → (crestTo (tau cs least k) least k).2 = cntTo cs least k
  | 0, _ => rfl
  | k + 1, hk => by
    have ih := crest_count cs least h0 h1 k (by omega)
    have hl := tau_len cs least k
    have hgt := gs_tau cs least k (by omega)
    have hS : gain cs (k + 1) = gv (cs.getD k 0) + gs (cs.take k) := by
      rw [gain_gs cs (k + 1) hk, take_snoc cs k (by omega), gs_append, gs_cons, gs_nil]; omega
    have hT : gain (tau cs least k) k = gs (cs.take k) := by
      have := gain_all (tau cs least k)
      rw [hl] at this; rw [this, hgt]
    have hM := crest_ge (tau cs least k) least h1 k
    have hN := crest_nonneg (tau cs least k) least h0 k
    simp only [tau, cntTo]
    by_cases lo : longerB cs least k = true
    · have hlo : least ≤ gain cs (k + 1) := of_decide_eq_true lo
      rw [if_pos lo, if_pos lo, crest_cons _ _ _ h0 h1 k (by omega), if_pos (by omega)]
      simp only [ih]
    · have hlo : ¬ least ≤ gain cs (k + 1) := fun q => lo (decide_eq_true q)
      rw [if_neg lo, if_neg lo]
      have hg : gain (tau cs least k ++ [cs.getD k 0]) (k + 1) = gain cs (k + 1) := by
        have := gain_all (tau cs least k ++ [cs.getD k 0])
        rw [List.length_append, hl] at this
        rw [show k + [cs.getD k 0].length = k + 1 from rfl] at this
        rw [this, gs_append, hgt, gs_cons, gs_nil, hS]; omega
      rw [crestTo, crest_append _ _ _ k (by omega), hg, if_neg (by omega), ih]
theorem longerAll_tau (cs : List Nat) (least : Int) (k : Nat) (hk : k < cs.length) : longerAll least (tau cs least (k + 1)) = longerB cs least k ∧ longerAll least (tau cs least (k + 1)).reverse = longerB cs least k := by
  unfold longerAll longerB
  rw [gain_all, gain_all, gs_reverse, gs_tau cs least (k + 1) hk, gain_gs cs (k + 1) hk]
  exact ⟨rfl, rfl⟩
/-- the signs are taken back in order -/
theorem tk_tau (cs : List Nat) (least : Int) : ∀ k, k ≤ cs.length → ∀ (tu : Bool) (back : List Nat), tk least k (if tu = true then (tau cs least k).reverse else tau cs least k) tu back = cs.take k ++ back
  | 0, _, tu, back => by simp [tk]
  | k + 1, hk, tu, back => by
    obtain ⟨l1, l2⟩ := longerAll_tau cs least k (by omega)
    have hl : longerAll least (if tu = true then (tau cs least (k + 1)).reverse else tau cs least (k + 1)) = longerB cs least k := by cases tu <;> simp [l1, l2]
    rw [tk, hl]
    have hσ : (if longerB cs least k = tu then (if tu = true then (tau cs least (k + 1)).reverse else tau cs least (k + 1)) else (if tu = true then (tau cs least (k + 1)).reverse else tau cs least (k + 1)).reverse) =
        (if longerB cs least k = true then (tau cs least k).reverse else tau cs least k) ++ [cs.getD k 0] := by
      simp only [tau]
      cases longerB cs least k <;> cases tu <;> simp
    rw [hσ]
    have hlen : (if longerB cs least k = true then (tau cs least k).reverse else tau cs least k).length = k := by split <;> simp [tau_len]
    have hlast : ((if longerB cs least k = true then (tau cs least k).reverse else tau cs least k) ++ [cs.getD k 0]).getD k 0 = cs.getD k 0 := by
      generalize (if longerB cs least k = true then (tau cs least k).reverse else tau cs least k) = ρ at hlen
      subst hlen
      simp [List.getD]
    rw [hlast, List.dropLast_concat, tk_tau cs least k (by omega), take_snoc cs k (by omega)]
    simp
end Mine
end

section
open PySem PySem.W PyProof.Rows PySem.Calls PyProof.V PySem.Spec
set_option Elab.async false
set_option maxRecDepth 100000
namespace Mine
theorem signs_carried {vs : List Value} {cs : List Nat} (h : Signs vs cs) : CarriedAll vs (cs.map fun c => PyData.str ⟨#[c]⟩) := by
  induction h with
  | nil => exact .nil
  | cons a _ ih => obtain ⟨t, rfl⟩ := a; exact .cons (.str _ t) ih
theorem signs_shaped {cs : List Nat} (hv : ∀ c ∈ cs, c < 1114112) : SeqAt.shaped (.list (cs.map fun c => PyData.str ⟨#[c]⟩)) = true := by
  have h1 : PyData.canLayAll0 (cs.map fun c => PyData.str ⟨#[c]⟩) = true := by
    induction cs with
    | nil => rfl
    | cons c cs ih =>
      have hc := hv c (.head _)
      simp only [List.map_cons, PyData.canLayAll0, PyData.canLay0, ih (fun x hx => hv x (.tail _ hx)), Bool.and_true]
      unfold PyData.strOk
      simp; omega
  have h2 : PyData.depthAll (cs.map fun c => PyData.str ⟨#[c]⟩) = 0 := by
    clear h1 hv
    induction cs with
    | nil => rfl
    | cons c cs ih => simp [PyData.depthAll, PyData.depth, ih]
  simp [SeqAt.shaped, PyData.canLay0, PyData.depth, h1, h2]
theorem ne_signs {w : World} {A : Around} {E : Value → Shared → Prop} {s : Shared} {a b : Addr} {vs ws : List Value} {cs : List Nat} {Q : Value → Shared → Prop} (ha : s.heap.IsList a vs.toArray) (hb : s.heap.IsList b ws.toArray) (h1 : Signs vs cs) (h2 : Signs ws cs)
    (hv : ∀ c ∈ cs, c < 1114112) (hu : A.units + 64 < cLine) (h : Q (.bool false) s) : wpAny (model pr w) A (compareOp .NotEq (.ref a) (.ref b)) Q E s := by
  have hs := signs_shaped hv
  refine ne_dataH (reads_newData ha (signs_carried h1)) (reads_newData hb (signs_carried h2)) hs hs hu ?_
  rw [SeqAt.eqv_refl _ (SeqAt.canLay_of_shaped hs)]
  exact h
theorem join_cps : ∀ (xs : List Str), (Str.join (Str.ofString "") xs).cps.toList = xs.flatMap fun x => x.cps.toList
  | [] => rfl
  | [a] => by simp [Str.join]
  | a :: b :: r => by
    have ih := join_cps (b :: r)
    show ((a ++ Str.ofString "") ++ Str.join (Str.ofString "") (b :: r)).cps.toList = _
    have e : ((a ++ Str.ofString "") ++ Str.join (Str.ofString "") (b :: r)).cps = (a.cps ++ (Str.ofString "").cps) ++ (Str.join (Str.ofString "") (b :: r)).cps := rfl
    rw [e, Array.toList_append, Array.toList_append, ih, List.flatMap_cons]
    have e0 : (Str.ofString "").cps.toList = [] := by decide
    rw [e0, List.append_nil]
    simp
theorem txt_join (xs : List Str) : Txt.join (Str.ofString "") xs = Str.join (Str.ofString "") xs := by
  show Builtin.Str.glued (Str.ofString "") xs = _
  rw [StrLaws.glued_eq_join]
theorem str_ext {a b : Str} (h : a.cps.toList = b.cps.toList) : a = b := by
  cases a; cases b
  simp only at h
  congr
  exact Array.ext' h
/-- the words, joined, are the text prepared -/
theorem words_join {ds : List (Nat × Str)} (h : ∀ d ∈ ds, Right (d.1 : Int) d.2) : Txt.join (Str.ofString "") (ds.map (·.2)) = Txt.join (Str.ofString "") (preps (ds.map (·.1))) := by
  rw [txt_join, txt_join]
  apply str_ext
  rw [join_cps, join_cps]
  induction ds with
  | nil => rfl
  | cons d ds ih =>
    have hd := h d (.head _)
    have ih := ih fun x hx => h x (.tail _ hx)
    unfold Right rightB at hd
    simp only [Bool.and_eq_true, decide_eq_true_eq] at hd
    obtain ⟨_, hx⟩ := hd
    simp only [List.map_cons, List.flatMap_cons, ih]
    unfold preps
    simp only [List.filter_cons]
    cases hb : b1S (d.1 : Int)
    · rw [hb] at hx
      simp only [Bool.not_false, if_true, List.map_cons, List.flatMap_cons]
      rw [hx]; rfl
    · rw [hb] at hx
      simp only [Bool.not_true, Bool.false_eq_true, if_false]
      rw [hx, if_pos rfl, show (Str.ofString "").cps.toList = [] by decide]
      rfl
end Mine
end

section
open PySem PySem.W PyProof.Rows PySem.Calls
open Sem (wp)
open LCg LCp
set_option Elab.async false
set_option maxRecDepth 100000
namespace Mine
local macro_rules | `(tactic| walk_at "eval Name") => `(tactic| refine tp_builtin (by assumption) (by assumption) (by boot_fast) ?_)
/-- pairs of a sign's number and what preparing makes of it, on the ledger -/
abbrev DR (news : List (Addr × Obj)) (ys : List Value) (ds : List (Nat × Str)) : Prop :=
  Paired (fun v (d : Nat × Str) => ∃ T t1 t2, v = Value.ref T ∧ (T, tupO #[.int (d.1 : Int) t1, .str d.2 t2]) ∈ news ∧ Right (d.1 : Int) d.2) ys ds
theorem DR.mono {news news' : List (Addr × Obj)} (hs : ∀ p ∈ news, p ∈ news') {ys : List Value} {ds : List (Nat × Str)} (h : DR news ys ds) : DR news' ys ds := by
  induction h with
  | nil => exact .nil
  | cons a _ ih => obtain ⟨T, t1, t2, e, hm, r⟩ := a; exact .cons ⟨T, t1, t2, e, hs _ hm, r⟩ ih
theorem Paired_snoc {α β : Type} {R : α → β → Prop} {a : α} {b : β} {as : List α} {bs : List β} (h : Paired R as bs) (hab : R a b) : Paired R (as ++ [a]) (bs ++ [b]) := by
  induction h with
  | nil => exact .cons hab .nil
  | cons x _ ih => exact .cons x ih
theorem made_list {h₀ h h' : Heap} {L D : Addr} {m : Str → Option Value} {news : List (Addr × Obj)} {ys : Array Value} (F : Fr h₀ L h m) (N : News h₀ L h news) (hk : Kp h h') (hD : h.get? D = none) (hl : h'.IsList D ys) :
    ∃ oD, News h₀ L h' ((D, oD) :: news) ∧ oD.cls = .type "list" ∧ ∃ k, oD.data = .seq ys k := by
  obtain ⟨oD, hoD, hc, k, hd⟩ := hl
  refine ⟨oD, News_cons (News_kp N hk) hoD (fun q => ?_) (fresh_of_kp F.keep hD), hc, k, hd⟩
  obtain ⟨o, es, ep, ho, _⟩ := F.ns
  rw [q] at hD
  rw [hD] at ho; cases ho
theorem DR.at {news : List (Addr × Obj)} {vs : List Value} {ds : List (Nat × Str)} (h : DR news vs ds) : ∀ (i : Nat) (v : Value), vs[i]? = some v → ∃ d : Nat × Str, ds[i]? = some d ∧ ∃ T t1 t2, v = Value.ref T ∧ (T, tupO #[.int (d.1 : Int) t1, .str d.2 t2]) ∈ news ∧ Right (d.1 : Int) d.2 := by
  induction h with
  | nil => intro i v e; simp at e
  | cons a _ ih =>
    intro i v e
    cases i with
    | zero => simp at e; subst e; exact ⟨_, rfl, a⟩
    | succ i => exact ih i v (by simpa using e)
theorem right_len {c : Nat} {x : Str} (h : Right (c : Int) x) : (x.length : Int) - 1 = gv c ∧ x.length ≤ 4 := by
  unfold Right rightB at h
  simp only [Bool.and_eq_true, decide_eq_true_eq] at h
  obtain ⟨_, hx⟩ := h
  rw [hx]
  unfold gv
  have hl := b3_len c
  cases b1S (c : Int)
  · simp; exact hl
  · simp; decide
theorem DR.all {news : List (Addr × Obj)} {vs : List Value} {ds : List (Nat × Str)} (h : DR news vs ds) : ∀ d ∈ ds, Right (d.1 : Int) d.2 := by
  induction h with
  | nil => intro d hd; cases hd
  | cons a _ ih =>
    intro d hd
    rcases List.mem_cons.mp hd with rfl | hd
    · obtain ⟨_, _, _, _, _, r⟩ := a; exact r
    · exact ih d hd
theorem words_len : ∀ (ds : List (Nat × Str)), (∀ d ∈ ds, Right (d.1 : Int) d.2) → ((ds.map (·.2)).map (·.length)).sum ≤ 4 * ds.length
  | [], _ => by simp
  | d :: ds, h => by
    have ih := words_len ds fun x hx => h x (.tail _ hx)
    have hd := (right_len (h d (.head _))).2
    simp only [List.map_cons, List.sum_cons, List.length_cons]
    omega
theorem gain_snoc (cs : List Nat) (j : Nat) (hj : j < cs.length) : gain cs (j + 1) = gain cs j + gv (cs.getD j 0) := by
  rw [gain_gs cs (j + 1) hj, gain_gs cs j (by omega), take_snoc cs j hj, gs_append, gs_cons, gs_nil]; omega
theorem rest_gen {w : World} {A : Around} {h₀ : Heap} {L : Addr} {m : Str → Option Value} {env : Env} {elt : Expr} {x : Str} {scope : Scope} {cl : List (Str × Addr)} {s : Shared} {S : List (Addr × Obj) → Prop} {P : Nat → Value → Prop}
    {Fin : List Value → List (Addr × Obj) → Prop} {n : Nat} (R : Nat → List Value → List (Addr × Obj) → Prop) (hend : ∀ ys news, R n ys news → Fin ys news)
    (hstep : ∀ i ys news v I oI C oC D m₂ h tk (E' : Value → Shared → Prop), i < n → P i v → R i ys news → NsObj oC m₂ → m₂ x = some v → Fr h₀ L h m → News h₀ L h ((I, oI) :: (C, oC) :: (D, lst ys) :: news) → Off3 I C D news → ((@Ne Nat I C) ∧ (@Ne Nat I D) ∧ (@Ne Nat C D)) →
      wpAny (model pr w) A (eval elt (compEnvC scope cl C env)) (CompEnd h₀ L m { s with heap := h, toks := tk } I oI C oC D (lst ys) S (fun y news' => R (i + 1) (ys ++ [y]) news')) E' { s with heap := h, toks := tk }) :
    ∀ k i ys news, i + k = n → R i ys news → CompRest pr w A h₀ L m env elt x scope cl s S P Fin k i ys news
  | 0, i, ys, news, hi, r => by
    have e : i = n := by omega
    subst e
    exact hend ys news r
  | k + 1, i, ys, news, hi, r => by
    intro v I oI C oC D m₂ h tk E' hv hC hm F N off dis
    refine wpAny_mono (hstep i ys news v I oI C oC D m₂ h tk E' (by omega) hv r hC hm F N off dis) (fun y s₄ h₄ => ?_) fun _ _ e => e
    obtain ⟨h', tk', news', e, F', N', off', hS, r'⟩ := h₄
    exact ⟨h', tk', news', e, F', N', off', hS, rest_gen R hend hstep k (i + 1) (ys ++ [y]) news' (by omega) r'⟩
theorem off_new {I C D a : Addr} {oI oC oD o : Obj} {h₀ h : Heap} {L : Addr} {news : List (Addr × Obj)} (N : News h₀ L h ((I, oI) :: (C, oC) :: (D, oD) :: news)) (off : Off3 I C D news) (ha : h.get? a = none) : Off3 I C D ((a, o) :: news) := by
  have ne : ∀ b ob, h.get? b = some ob → (@Ne Nat a b) := fun b ob hb q => by
    have q' : a = b := q
    rw [q'] at ha; rw [ha] at hb; cases hb
  exact ⟨⟨ne _ _ (N.get (.head _)), ne _ _ (N.get (.tail _ (.head _))), ne _ _ (N.get (.tail _ (.tail _ (.head _))))⟩, off⟩
theorem rest_genP {w : World} {A : Around} {h₀ : Heap} {L : Addr} {m : Str → Option Value} {env : Env} {elt : Expr} {x x₂ : Str} {scope : Scope} {cl : List (Str × Addr)} {s : Shared} {S : List (Addr × Obj) → Prop} {its : Array Value}
    {Fin : List Value → List (Addr × Obj) → Prop} {n : Nat} {news : List (Addr × Obj)} {ds : List (Nat × Str)} (hDR : DR news its.toList ds) (hn : its.size = n) (hS : S news) (R : Nat → List Value → Prop) (hend : ∀ ys, R n ys → Fin ys news)
    (helt : ∀ i ys c w' t1 t2 C m₂ s' (E' : Value → Shared → Prop), i < n → ds[i]? = some (c, w') → R i ys → Right (c : Int) w' → s'.heap.Ns C m₂ → Kp h₀ s'.heap → m₂ x = some (.int (c : Int) t1) → m₂ x₂ = some (.str w' t2) →
      wpAny (model pr w) A (eval elt (compEnvC scope cl C env)) (fun y s₂ => R (i + 1) (ys ++ [y]) ∧ ∃ tk', s₂ = { s' with toks := tk' }) E' s') :
    ∀ k i ys, i + k = n → R i ys → CompRestP pr w A h₀ L m env elt x x₂ scope cl s S (fun i v => its[i]? = some v) Fin k i ys news
  | 0, i, ys, hi, r => by
    have e : i = n := by omega
    subst e
    exact hend ys r
  | k + 1, i, ys, hi, r => by
    intro v hv
    have hpair : ∀ {vs : List Value} {ds : List (Nat × Str)}, DR news vs ds → ∀ (i : Nat) (v : Value), vs[i]? = some v → ∃ d : Nat × Str, ds[i]? = some d ∧ ∃ T t1 t2, v = Value.ref T ∧ (T, tupO #[.int (d.1 : Int) t1, .str d.2 t2]) ∈ news ∧ Right (d.1 : Int) d.2 := by
      intro vs ds h
      induction h with
      | nil => intro i v e; simp at e
      | cons a _ ih =>
        intro i v e
        cases i with
        | zero => simp at e; subst e; exact ⟨_, rfl, a⟩
        | succ i => exact ih i v (by simpa using e)
    obtain ⟨⟨c, w'⟩, hd, T, t1, t2, rfl, hm, hr⟩ := hpair hDR i v (by rw [Array.getElem?_toList]; exact hv)
    refine ⟨T, _, _, _, _, rfl, hm, rfl, rfl, fun I oI C oC D m₂ h tk E' hC h1 h2 F N off dis => ?_⟩
    refine wpAny_mono (helt i ys c w' t1 t2 C m₂ _ E' (by omega) hd r hr (hC.ns (N.get (.tail _ (.head _)))) F.keep h1 h2) (fun y s₂ h₂ => ?_) fun _ _ e => e
    obtain ⟨r', tk', rfl⟩ := h₂
    exact ⟨h, tk', news, rfl, F, N, off, hS, rest_genP hDR hn hS R hend helt k (i + 1) (ys ++ [y]) (by omega) r'⟩
abbrev laL (l : Addr) (drawn text least tape refused more count code word loose : Option Value) : List (Str × Option Value) :=
  [(Str.ofString "script", some (.ref l)), (Str.ofString "drawn", drawn), (Str.ofString "text", text), (Str.ofString "least", least), (Str.ofString "tape", tape), (Str.ofString "refused", refused), (Str.ofString "more", more), (Str.ofString "count", count), (Str.ofString "code", code), (Str.ofString "word", word), (Str.ofString "loose", loose)]
set_option maxHeartbeats 4000000 in
theorem law_runs {w : World} {s : Shared} {mean mg mb} {Q : Value → Shared → Prop} {E : Value → Shared → Prop} (G : Gd w mean mg mb s.heap) {f : Addr} (hmg : mg (Str.ofString "law") = some (.ref f))
   {l : Addr} {vs : List Value} {ns : List Int} (hl : s.heap.IsList l vs.toArray) (hi : IntsAre vs ns) (hn : ns.length ≤ 63)
   (h : ∀ h' tk', Kp s.heap h' → Q (.bool true) { s with heap := h', toks := tk' }) :
   wpP Clean (model pr w) callerA (call (.ref f) [.ref l]) Q E s := by
  have T := G.T
  refine enterP Pk.clean (binds := [(Str.ofString "script", .ref l)]) T (by rfl) hmg (by decide) (fun _ _ _ => by rfl) (by show ∀ y ∈ [Str.ofString "script"], List.lookup y _ = some NameKind.local; decide +kernel) ?_
  intro h₁ cd F0
  have F : Fr s.heap s.heap.objs.size h₁ (lk (laL l none none none none none none none none none none)) := Fr_entry F0 [Str.ofString "drawn", Str.ofString "text", Str.ofString "least", Str.ofString "tape", Str.ofString "refused", Str.ofString "more", Str.ofString "count", Str.ofString "code", Str.ofString "word", Str.ofString "loose"]
  clear F0
  have N : News s.heap s.heap.objs.size h₁ [] := News.nil
  dsimp only
  refine wpP_execs_cons (wpP_of ?_)
  refine Assign_ListComp_U (cl := []) F rfl (by rfl) (by rfl) (by decide) (by rfl) (by decide) (by decide) (by rfl) (by rfl) ?_
  walk1
  have hl₁ : h₁.IsList l vs.toArray := hl.at fun o e => F.keep l o e
  refine comp_list (cl := []) (fun _ => true) (fun _ y => ∃ n t, y = Value.int n t ∧ 0 ≤ n ∧ n < 1000000) (by rfl) ?_
  iterate 8 walk1
  rename_i h₂ F₂ N₂
  have hl₂ : h₂.IsList _ _ := N₂.isList (.head _)
  rw [show (8 : Int) = ((8 : Nat) : Int) from rfl, slicePick_upto'] at hl₂
  have hints : ∀ v ∈ (vs.take 8), ∃ n t, v = Value.int n t := fun v hv => hi.all v (List.mem_of_mem_take hv)
  refine ⟨_, _, rfl, hl₂, ?_, ?_, ?_, ?_⟩
  · rw [sizeLine_eq]; simp; omega
  · intro C v s₃ m₃ E' hv hns hm hk
    exact wpAny_tests_nil ⟨rfl, _, _, rfl, fun _ _ e => e⟩
  · intro C v s₃ m₃ E' hv _ hns hm hk
    obtain ⟨n, t, rfl⟩ := hints v (by simpa using hv)
    walk1
    refine nm_loc hns hm ?_
    iterate 2 walk1
    exact ⟨⟨_, _, rfl, by rw [Int.fmod_eq_emod_of_nonneg _ (by decide)]; omega, by rw [Int.fmod_eq_emod_of_nonneg _ (by decide)]; omega⟩, _, _, rfl, fun _ _ e => e⟩
  · intro D h' tk ys hD hli hpl hF hk
    obtain ⟨oD, N₃, hDc, kD, hDd⟩ := made_list F₂ News.nil hk hD hli
    have F₃ := Fr_kp F₂ hk
    have hnum : ∀ y ∈ ys.toList, ∃ n t, y = Value.int n t ∧ 0 ≤ n ∧ n < 1000000 := fun y hy => let ⟨_, x⟩ := Paired.right hF y hy; x
    have hysz : ys.size ≤ 8 := by
      have := paired_all hF
      rw [List.filter_eq_self.mpr (by simp)] at this
      simp only [List.length_take, Array.length_toList] at this
      omega
    clear N₂ F₂ hk
    iterate 11 walk1
    rename_i h₄ F₄ N₄
    refine add_arrays F₄ N₄ ⟨oD, N₄.get (.tail _ (.head _)), hDc, kD, hDd⟩ (N₄.isList (.head _)) (fun h₅ F₅ N₅ => ?_) (by rw [sizeLine_eq]; show ys.size + 4 ≤ _; omega)
    refine CompSrc.ledger (by rfl) F₅ N₅ (.head _) (by rw [sizeLine_eq]; simp; omega) fun g => ?_
    generalize hits : (ys.toList ++ _ : List Value).toArray = its at N₅ ⊢
    have hnum2 : ∀ y ∈ its.toList, ∃ n t, y = Value.int n t ∧ 0 ≤ n ∧ n < 1000000 := by
      intro y hy
      rw [← hits] at hy
      simp only [List.mem_append, List.mem_cons, List.not_mem_nil, or_false] at hy
      rcases hy with hy | rfl | rfl | rfl | rfl
      · exact hnum y hy
      all_goals exact ⟨_, _, rfl, by decide, by decide⟩
    have hsz1 : its.size = ys.size + 4 := by rw [← hits]; simp
    refine rest_gen (fun i ys' news => SrcAt s.heap _ its news ∧ ∃ ds, ds.length = i ∧ DR news ys' ds) ?_ ?_ its.size 0 [] _ (Nat.zero_add _) ⟨.inr ⟨_, .head _, rfl, _, rfl⟩, [], rfl, .nil⟩
    rotate_left 1
    · rintro i ys' news v I oI C oC D2 m₂ h6 tk6 E' hiN hv ⟨hS, ds, hdl, hDR⟩ hC hm F6 N6 off6 dis
      obtain ⟨n, tn, rfl, hn0, hn1⟩ := hnum2 v (by
        obtain ⟨hlt, e⟩ := Array.getElem?_eq_some_iff.mp hv
        rw [← e]; simp)
      have G6 := G.keeps F6.keep
      refine call_def G6.T (by rfl) fun f' hf' => ?_
      refine args_cons (nm_loc (hC.ns (N6.get (.tail _ (.head _)))) hm (args_nil ⟨fun _ _ e => e, ?_⟩))
      refine drawn G6 hf' rfl (by show callerA.depth + 1 + 10 < recursionLimit; decide) hn0 hn1 fun a c x t1 t2 h7 tk7 k7 hnew hat hr => ?_
      have hcc := hr
      unfold Right rightB at hcc
      simp only [Bool.and_eq_true, decide_eq_true_eq] at hcc
      obtain ⟨c', rfl⟩ : ∃ c' : Nat, c = (c' : Int) := ⟨c.toNat, by omega⟩
      have ha0 : s.heap.get? a = none := fresh_of_kp F6.keep hnew
      have haL : a ≠ s.heap.objs.size := fun q => by
        obtain ⟨o, es, ep, ho, _⟩ := F6.ns
        have hnew' : h6.get? a = none := hnew
        rw [q] at hnew'; rw [hnew'] at ho; cases ho
      have N7 := News_kp N6 k7
      refine CompEnd.intro (Fr_kp F6 k7) (News_cons N7 hat haL ha0) ((a, tupO #[.int (c' : Int) t1, .str x t2]) :: news) ?_ (off_new N6 off6 hnew) ?_ ⟨?_, ds ++ [(c', x)], by rw [List.length_append, hdl]; rfl, Paired_snoc (hDR.mono fun p hp => .tail _ hp) ⟨a, t1, t2, rfl, .head _, hr⟩⟩
      · intro p hp
        rcases List.mem_cons.mp hp with rfl | hp
        · exact .tail _ (.head _)
        rcases List.mem_cons.mp hp with rfl | hp
        · exact .tail _ (.tail _ (.head _))
        rcases List.mem_cons.mp hp with rfl | hp
        · exact .tail _ (.tail _ (.tail _ (.head _)))
        rcases List.mem_cons.mp hp with rfl | hp
        · exact .head _
        · exact .tail _ (.tail _ (.tail _ (.tail _ hp)))
      · rcases hS with hS | ⟨o, hm', r⟩
        · exact .inl hS
        · exact .inr ⟨o, .tail _ hm', r⟩
      · rcases hS with hS | ⟨o, hm', r⟩
        · exact .inl hS
        · exact .inr ⟨o, .tail _ hm', r⟩
    rintro ys' news ⟨_, ds, hdl, hDR⟩
    intro D3 h8 tk8 F8' N8 _
    have F8 : Fr s.heap s.heap.objs.size h8 (lk (laL l (some (.ref D3)) none none none none none none none none none)) := Fr_set1 F8'
    clear F8' N₄ F₄ N₃ F₃ N₅ F₅
    dsimp only
    refine wpP_execs_cons (wpP_of ?_)
    have hlD : ys'.length = its.size := by rw [paired_all hDR]; exact hdl
    refine Assign_ListComp_P (cl := []) F8 rfl (by rfl) (by rfl) (by decide) (by rfl) (by decide) (by decide) (by decide) (by decide) (by rfl) (by rfl) ?_
    walk1
    have T8 : TopQ mean mg mb s.heap := G.T
    refine ⟨D3, ys'.toArray, _, rfl, rfl, F8, N8, .inr ⟨_, .head _, rfl, _, rfl⟩, by rw [sizeLine_eq]; simp; omega, fun s₂ hs₂ => ?_⟩
    obtain ⟨g9, rfl⟩ := hs₂
    refine rest_genP (n := its.size) (ds := ds) (hDR.mono fun p hp => .tail _ hp) (by simp [hlD]) (.inr ⟨_, .head _, rfl, _, rfl⟩) (fun i ys'' => Signs ys'' ((ds.map (·.1)).take i)) ?_ ?_ _ 0 [] (by simp [hlD]) .nil
    rotate_left 1
    · intro i ys'' c w' t1 t2 C m₂ s' E' hiN hd r hr hns hk hm1 hm2
      have hcc := hr
      unfold Right rightB at hcc
      simp only [Bool.and_eq_true, decide_eq_true_eq] at hcc
      walk1
      refine nm_blt (v := .builtin "chr") (G.T.keeps hk) (by boot_fast) ?_
      iterate 2 walk1
      refine nm_loc hns hm1 ?_
      walk1
      refine chr_of_range (by omega) (by omega) ?_
      refine ⟨?_, _, rfl⟩
      have ei : (ds.map (·.1)).take (i + 1) = (ds.map (·.1)).take i ++ [c] := by
        rw [List.take_add_one, List.getElem?_map, hd]; rfl
      rw [ei]
      exact Paired_snoc r ⟨_, rfl⟩
    intro ys'' hsg
    intro D4 h9 tk9 F9' N9 _
    have F9 : Fr s.heap s.heap.objs.size h9 (lk (laL l (some (.ref D3)) (some (.ref D4)) none none none none none none none none)) := Fr_set1 F9'
    obtain ⟨cs, hcs⟩ : ∃ cs, cs = ds.map (·.1) := ⟨_, rfl⟩
    rw [← hcs, List.take_of_length_le (by rw [hcs, List.length_map, hdl]; exact Nat.le_refl _)] at hsg
    have hcl : cs.length = its.size := by rw [hcs, List.length_map, hdl]
    clear F9' F8 N8
    dsimp only
    have hval : ∀ c ∈ cs, c < 1114112 := by
      intro c hc
      rw [hcs] at hc
      obtain ⟨d, hd, rfl⟩ := List.mem_map.mp hc
      have hex : ∀ {vs : List Value} {ds : List (Nat × Str)}, DR news vs ds → ∀ d ∈ ds, Right (d.1 : Int) d.2 := by
        intro vs ds h
        induction h with
        | nil => intro d hd; cases hd
        | cons a _ ih =>
          intro d hd
          rcases List.mem_cons.mp hd with rfl | hd
          · obtain ⟨_, _, _, _, _, r⟩ := a; exact r
          · exact ih d hd
      have hcc := hex hDR d hd
      unfold Right rightB at hcc
      simp only [Bool.and_eq_true, decide_eq_true_eq] at hcc
      omega
    have hN12 : cs.length ≤ 12 := by omega
    have hN4 : 4 ≤ cs.length := by omega
    have hL : s.heap.objs.size < h9.objs.size := F9.ns.lt
    refine wpP_execs_cons (wpP_For Pk.clean (wpP_of ?_))
    iterate 7 walk1
    rename_i h10 F10 N10'
    dsimp only at N10' ⊢
    generalize h9.objs.size = Dl at N10' ⊢
    obtain ⟨ol, N10, holc, kl, tl1, tl2, hold⟩ : ∃ ol, News s.heap s.heap.objs.size h10 ((Dl, ol) :: (D4, lst ys'') :: (D3, lst ys') :: news) ∧ ol.cls = .type "list" ∧ ∃ k t t', ol.data = .seq #[.int 1 t, .int 0 t'] k := ⟨_, N10', rfl, _, _, _, rfl⟩
    clear N10'
    refine for_listN Pk.clean (by rfl) (N10.get (.head _)) ⟨ol, N10.get (.head _), holc, kl, hold⟩ (fun i h => ∃ v1 v2 v3 v4 v5 v6 v7 v8, Fr s.heap s.heap.objs.size h (lk (laL l (some (.ref D3)) (some (.ref D4)) v1 v2 v3 v4 v5 v6 v7 v8)) ∧ News s.heap s.heap.objs.size h ((D4, lst ys'') :: (D3, lst ys') :: news)) ?_ ?_ ?_ ?_ ?_
    · exact ⟨none, none, none, none, none, none, none, none, F10, News_tail N10⟩
    · rintro i h h' I ⟨v1, v2, v3, v4, v5, v6, v7, v8, Fm, Nm⟩ hk hI
      obtain ⟨a1, a2⟩ := FN_iter (N := h10.objs.size) Fm Nm hk hI F10.ns.lt (news_lt (News_tail N10)) (Nat.le_of_lt F10.ns.lt)
      exact ⟨v1, v2, v3, v4, v5, v6, v7, v8, a1, a2⟩
    · rintro i v h11 tk11 I oI hv ⟨v1, v2, v3, v4, v5, v6, v7, v8, Fm, Nm⟩ hI hIo hlo
      obtain ⟨least, tl, rfl, hl0, hl1⟩ : ∃ least tl, v = Value.int least tl ∧ 0 ≤ least ∧ least ≤ 1 := by
        rcases i with _|_|i
        · cases hv; exact ⟨_, _, rfl, by decide, by decide⟩
        · cases hv; exact ⟨_, _, rfl, by decide, by decide⟩
        · simp at hv
      have hIL : I ≠ s.heap.objs.size := Nat.ne_of_gt (Nat.lt_of_lt_of_le F10.ns.lt hI)
      have N11 := News_cons (News_cons Nm hlo (N10 _ (.head _)).2.1 (N10 _ (.head _)).2.2) hIo hIL (none_of_size F10 hI)
      clear N10 F9 N9 Nm
      refine wpP_of (wpAny_assign_Name (stN Fm N11 fun h12 F12' N12 => ?_))
      have F12 : Fr s.heap s.heap.objs.size h12 (lk (laL l (some (.ref D3)) (some (.ref D4)) (some (.int least tl)) v2 v3 v4 v5 v6 v7 v8)) := Fr_set1 F12'
      clear F12' N11 Fm
      have hl12 : h12.IsList D4 ys''.toArray := ⟨_, N12.get (.tail _ (.tail _ (.head _))), rfl, _, rfl⟩
      refine wpP_execs_cons (wpP_Assign_Tuple ?_)
      refine call_defPF G.T F12.keep (by rfl) fun f' hf' => ?_
      refine wpP_of ?_
      iterate 4 walk1
      refine args_nil ⟨F12.keep, ?_⟩
      refine written (base := s.heap) G ((below_caller s.heap).push F12) hf' rfl (by show callerA.depth + 1 + 20 < recursionLimit; decide) hl12 (by simpa using hsg) (by omega) (by omega) hval hl0 hl1 fun a g' h13 tk13 t13 turn kp ha hat => ?_
      rw [tape_end] at hat
      obtain ⟨τ, hτ⟩ : ∃ τ, τ = tau cs least cs.length := ⟨_, rfl⟩
      have href : (wr cs least cs.length).2.2 = longerB cs least 0 := by
        obtain ⟨k, hk⟩ : ∃ k, cs.length = k + 1 := ⟨cs.length - 1, by omega⟩
        rw [hk]; exact refused_eq cs least k
      rw [← hτ, href] at hat
      have hτl : τ.length = cs.length := by rw [hτ]; exact tau_len cs least _
      have hτv : ∀ c ∈ τ, c < 1114112 := fun c hc' => hval c (mem_tau cs least _ (Nat.le_refl _) c (hτ ▸ hc'))
      have hes := enc_size false τ
      obtain ⟨F13, N13⟩ := FN_turn (fun b hb => List.mem_singleton.mp (show b ∈ [s.heap.objs.size] from hb)) F12 N12 turn kp
      clear F12 N12
      refine wpP_of (unpackN_ F13 N13 ⟨_, hat, rfl, _, rfl⟩ rfl rfl rfl fun h14 F14 N14 => ?_)
      refine assignInOrder_cons (wpAny_assign_Name (stN F14 N14 fun h15 F15' N15 => ?_))
      refine assignInOrder_cons (wpAny_assign_Name (stN F15' N15 fun h16 F16' N16 => ?_))
      refine assignInOrder_nil ?_
      have F16 : Fr s.heap s.heap.objs.size h16 (lk (laL l (some (.ref D3)) (some (.ref D4)) (some (.int least tl)) (some (.bytes (enc false τ) t13)) (some (.bool (longerB cs least 0))) v4 v5 v6 v7 v8)) := Fr_set2 F16'
      clear F16' F15' F14 N14 N15 F13 N13
      dsimp only
      refine wpP_execs_cons (wpP_of ?_)
      iterate 3 walk1
      refine wpP_execs_cons (wpP_of ?_)
      iterate 3 walk1
      rename_i h18 F18' N18
      obtain ⟨ta, tb, F18⟩ : ∃ ta tb, Fr s.heap s.heap.objs.size h18 (lk (laL l (some (.ref D3)) (some (.ref D4)) (some (.int least tl)) (some (.bytes (enc false τ) t13)) (some (.bool (longerB cs least 0))) (some (.int 0 ta)) (some (.int 0 tb)) v6 v7 v8)) := ⟨_, _, Fr_set2 F18'⟩
      clear F18' F16 N16
      dsimp only
      refine wpP_execs_cons (wpP_For Pk.clean (wpP_of ?_))
      walk1
      have hL18 : s.heap.objs.size < h18.objs.size := F18.ns.lt
      refine for_listN Pk.clean (by rfl) (N18.get (.tail _ (.tail _ (.tail _ (.head _))))) (⟨_, N18.get (.tail _ (.tail _ (.tail _ (.head _)))), rfl, _, rfl⟩ : h18.IsList D3 ys'.toArray)
        (fun j h => ∃ t1 t2 v6 v7, Fr s.heap s.heap.objs.size h (lk (laL l (some (.ref D3)) (some (.ref D4)) (some (.int least tl)) (some (.bytes (enc false τ) t13)) (some (.bool (longerB cs least 0))) (some (.int (gain cs j) t1)) (some (.int (cntTo cs least j) t2)) v6 v7 v8)) ∧
          News s.heap s.heap.objs.size h ((I, oI) :: (Dl, ol) :: (D4, lst ys'') :: (D3, lst ys') :: news)) ?_ ?_ ?_ ?_ ?_
      · exact ⟨ta, tb, v6, v7, by simpa [gain, plen_eq, preps, cntTo] using F18, N18⟩
      · rintro j h h' I2 ⟨t1, t2, u6, u7, Fm, Nm⟩ hk2 hI2
        obtain ⟨a1, a2⟩ := FN_iter (N := h18.objs.size) Fm Nm hk2 hI2 hL18 (news_lt N18) (Nat.le_of_lt hL18)
        exact ⟨t1, t2, u6, u7, a1, a2⟩
      · rintro j v h19 tk19 I2 oI2 hv2 ⟨t1, t2, u6, u7, Fm, Nm⟩ hI2 hI2o hlo2
        obtain ⟨⟨c, x⟩, hdj, Tj, tj1, tj2, rfl, hmj, hrj⟩ := hDR.at j v (by simpa using hv2)
        obtain ⟨hgv, hx4⟩ := right_len hrj
        simp only at hgv hx4 hmj hrj
        have hjl : j < cs.length := by
          rw [hcs, List.length_map]
          exact (List.getElem?_eq_some_iff.mp hdj).1
        have hcj : cs.getD j 0 = c := by rw [hcs]; simp [List.getD, hdj]
        have hgs := gain_snoc cs j hjl
        rw [hcj] at hgs
        have hI2L : I2 ≠ s.heap.objs.size := Nat.ne_of_gt (Nat.lt_of_lt_of_le hL18 hI2)
        have N19 := News_cons Nm hI2o hI2L (none_of_size F18 hI2)
        refine wpP_of (unpackN_ Fm N19 ⟨_, N19.get (.tail _ (.tail _ (.tail _ (.tail _ (.tail _ hmj))))), rfl, _, rfl⟩ rfl rfl rfl fun h20 F20 N20 => ?_)
        refine assignInOrder_cons (wpAny_assign_Name (stN F20 N20 fun h21 F21' N21 => ?_))
        refine assignInOrder_cons (wpAny_assign_Name (stN F21' N21 fun h22 F22' N22 => ?_))
        refine assignInOrder_nil ?_
        have F22 : Fr s.heap s.heap.objs.size h22 (lk (laL l (some (.ref D3)) (some (.ref D4)) (some (.int least tl)) (some (.bytes (enc false τ) t13)) (some (.bool (longerB cs least 0))) (some (.int (gain cs j) t1)) (some (.int (cntTo cs least j) t2)) (some (.int (c : Int) tj1)) (some (.str x tj2)) v8)) := Fr_set2 F22'
        clear F22' F21' F20 N20 N21 N19 Fm Nm
        refine wpP_of ?_
        iterate 11 walk1
        refine SBL.len (by omega) ?_
        iterate 3 walk1
        have eg : gain cs j + ((x.length : Nat) : Int) - 1 = gain cs (j + 1) := by omega
        rw [eg]
        iterate 9 walk1
        · rename_i hge
          have elo : longerB cs least j = true := decide_eq_true hge
          iterate 7 walk1
          rename_i h24 F24' N24
          refine wpAny_execs_nil (wpAny_execs_nil ⟨h24, _, rfl, N24.get (.head _), N24.get (.tail _ (.tail _ (.tail _ (.tail _ (.head _))))), ?_⟩)
          have ec : ((cntTo cs least j : Nat) : Int) + 1 = ((cntTo cs least (j + 1) : Nat) : Int) := by
            simp only [cntTo, elo, if_true]; omega
          rw [ec] at F24'
          exact ⟨_, _, _, _, Fr_set2 F24', News_tail N24⟩
        · rename_i h24 F24' N24 hge
          have elo : ¬ longerB cs least j = true := fun q => hge (of_decide_eq_true q)
          refine wpAny_execs_nil (wpAny_execs_nil ⟨h24, _, rfl, N24.get (.head _), N24.get (.tail _ (.tail _ (.tail _ (.tail _ (.head _))))), ?_⟩)
          have ec : cntTo cs least j = cntTo cs least (j + 1) := by
            simp only [cntTo, elo]; rfl
          rw [ec] at F24'
          exact ⟨_, _, _, _, Fr_set1 F24', News_tail N24⟩
      · rintro h19 tk19 ⟨t1, t2, u6, u7, Fm, Nm⟩
        have hcnt : (crestTo τ least τ.length).2 = cntTo cs least cs.length := by
          rw [hτl, hτ]; exact crest_count cs least hl0 hl1 cs.length (Nat.le_refl _)
        have hdsl : ys'.toArray.size = cs.length := by rw [hcl]; simpa using hlD
        rw [hdsl] at Fm
        clear F18 N18
        have Nm19 := Nm
        dsimp only
        refine wpP_execs_cons (wpP_If (wpP_of ?_))
        obtain ⟨v0, hv0⟩ : ∃ v0, ys'[0]? = some v0 := ⟨_, List.getElem?_eq_getElem (by omega)⟩
        obtain ⟨⟨c0, x0⟩, hd0, T0, ta0, tb0, rfl, hm0, hr0⟩ := hDR.at 0 v0 hv0
        obtain ⟨hgv0, hx04⟩ := right_len hr0
        simp only at hgv0 hx04 hm0 hr0
        have hc0 : cs.getD 0 0 = c0 := by rw [hcs]; simp [List.getD, hd0]
        have hg1 : gain cs (0 + 1) = ((x0.length : Nat) : Int) - 1 := by
          rw [gain_snoc cs 0 (by omega), hc0, hgv0]
          simp [gain, plen_eq, preps]
        have hT0 := Nm.get (.tail _ (.tail _ (.tail _ (.tail _ hm0))))
        have hlD3 : h19.IsList D3 ys'.toArray := ⟨_, Nm.get (.tail _ (.tail _ (.tail _ (.head _)))), rfl, _, rfl⟩
        iterate 12 walk1
        refine item_list (n := 0) hlD3 rfl (by decide) (by simpa using hv0) ?_
        walk1
        refine item_tupleT (l := [_, _]) (j := 1) ⟨_, hT0, rfl, _, rfl⟩ (by decide) (by decide) (by rfl) rfl ?_
        walk1
        refine SBL.len (by omega) ?_
        iterate 4 walk1
        have elo0 : decide (least ≤ ((x0.length : Nat) : Int) - 1) = longerB cs least 0 := by unfold longerB; rw [hg1]
        rw [elo0]
        walk1
        refine wpAny_truthy_bool ?_
        rw [bne_self_eq_false]
        simp only [Bool.false_eq_true, if_false]
        refine wpP_execs_nil ?_
        refine wpP_execs_cons (wpP_of ?_)
        iterate 3 walk1
        rename_i h24 F24' N24
        have F24 : Fr s.heap s.heap.objs.size h24 (lk (laL l (some (.ref D3)) (some (.ref D4)) (some (.int least tl)) (some (.bytes (enc false τ) t13)) (some (.bool (longerB cs least 0))) (some (.int (gain cs cs.length) t1)) (some (.int (cntTo cs least cs.length) t2)) u6 u7 (some (.bool false)))) := Fr_set1 F24'
        clear F24' Fm Nm Nm19
        dsimp only
        refine wpP_execs_cons (wpP_mono (Q := fun fl s' => fl = Flow.next ∧ ∃ h25 tk25, s' = { s with heap := h25, toks := tk25 } ∧
          Fr s.heap s.heap.objs.size h25 (lk (laL l (some (.ref D3)) (some (.ref D4)) (some (.int least tl)) (some (.bytes (enc false τ) t13)) (some (.bool (longerB cs least 0))) (some (.int (gain cs cs.length) t1)) (some (.int (cntTo cs least cs.length) t2)) u6 u7 (some (.bool true)))) ∧
          News s.heap s.heap.objs.size h25 ((I, oI) :: (Dl, ol) :: (D4, lst ys'') :: (D3, lst ys') :: news)) ?_ ?_ (fun _ _ x => x))
        · refine wpP_Try_except ?_
          refine wpP_execs_cons (wpP_Expr_any ?_)
          refine call_defPF G.T F24.keep (by rfl) fun f' hf' => ?_
          refine wpP_of ?_
          iterate 8 walk1
          have e1 : (1 : Int) = ((1 : Nat) : Int) := rfl
          refine KBy.slice_N (s := ⟨h24, _, _, _, _⟩) F24 N24 (.int _ _) .none (by rw [e1]; exact whole_from _ _ (by decide) (by omega)) (by rw [e1, picked_from _ _ (by omega)]; simp; omega) fun h26 t26 k26 F26 N26 => ?_
          rw [e1, picked_from _ _ (by omega)]
          iterate 2 walk1
          refine args_nil ⟨F26.keep, ?_⟩
          refine byteswap_out (g := cs.length - 1) (G.keeps F26.keep) hf' ((below_caller s.heap).push F26) rfl (by show callerA.depth + 1 + 5 < recursionLimit; decide) (by simp; omega) (by simp; omega) fun e h27 tk27 R27 U27 => ?_
          refine caught_M (T' := "IndexError") G.T (below_caller s.heap) F26 R27 U27 (by boot_fast) PySem.F.isExc_IndexError PySem.F.notTuple_IndexError (by rw [isSubtype_type]; kernel_rfl) fun h28 g28 T28 F28 K28 kp28 => ?_
          have F28' : Fr s.heap s.heap.objs.size h28 (lk (laL l (some (.ref D3)) (some (.ref D4)) (some (.int least tl)) (some (.bytes (enc false τ) t13)) (some (.bool (longerB cs least 0))) (some (.int (gain cs cs.length) t1)) (some (.int (cntTo cs least cs.length) t2)) u6 u7 (some (.bool false)))) :=
            ⟨F28.ns, fun b o eb => F28.keep b o (T28.other b o eb (by simp)), Nat.le_refl _⟩
          have N28 : News s.heap s.heap.objs.size h28 ((I, oI) :: (Dl, ol) :: (D4, lst ys'') :: (D3, lst ys') :: news) := fun p hp =>
            ⟨kp28 _ _ (N26 p hp).1 (fun q => (N26 p hp).2.1 (List.mem_singleton.mp (show p.1 ∈ [s.heap.objs.size] from q))), (N26 p hp).2⟩
          clear F28 F26 N26
          iterate 4 walk1
          rename_i h29 F29' N29
          exact wpAny_execs_nil ⟨rfl, h29, _, rfl, Fr_set1 F29', N29⟩
        · rintro fl s' ⟨rfl, h25, tk25, rfl, F25, N25⟩
          clear F24 N24
          dsimp only
          refine wpP_execs_cons (wpP_If (wpP_of ?_))
          iterate 4 walk1
          rw [show (!true) = false from rfl]
          simp only [Bool.false_eq_true, if_false]
          refine wpP_execs_nil ?_
          refine wpP_execs_cons (wpP_If (wpP_of ?_))
          iterate 11 walk1
          refine call_isinstance_yes (PySem.W.typeIs_bytes _ _ _) (by kernel_rfl) (by rw [isSubtype_type]; kernel_rfl) ?_
          iterate 4 walk1
          refine call_defF G.T F25.keep (by rfl) fun f' hf' => ?_
          walk1
          refine call_defF G.T F25.keep (by rfl) fun f2 hf2 => ?_
          iterate 2 walk1
          refine args_nil ⟨F25.keep, ?_⟩
          refine read_tape (d := enc false τ) (n := τ.length) (G.keeps F25.keep) hf2 rfl (by show callerA.depth + 1 + 5 < recursionLimit; decide) (by omega) (by omega) (fun k hk => ?_) fun D26 h26 tk26 ys26 hD26 hl26 hs26 kp26 => ?_
          · have hv : τ.getD k 0 < 1114112 := hτv _ (by simp [List.getD, hk])
            rw [signAt_enc τ k hk hv]; exact hv
          rw [signsOf_enc τ hτv] at hs26
          have F26 := Fr_kp F25 kp26
          have N26 := News_kp N25 kp26
          iterate 2 walk1
          refine args_nil ⟨F26.keep, ?_⟩
          refine crest (cs := τ) (G.keeps F26.keep) hf' rfl (by show callerA.depth + 1 + 10 < recursionLimit; decide) hl26 hs26 (by omega) hl0 hl1 fun t27 h27 tk27 kp27 => ?_
          rw [hcnt]
          have F27 := Fr_kp F26 kp27
          have N27 := News_kp N26 kp27
          clear F25 N25 F26 N26
          iterate 3 walk1
          rw [bne_self_eq_false]
          simp only [Bool.false_eq_true, if_false]
          walk1
          simp only [Bool.false_eq_true, if_false]
          refine wpP_execs_nil ?_
          refine wpP_execs_cons (wpP_If (wpP_isTrue_Compare1 ?_))
          refine call_defPF G.T F27.keep (by rfl) fun f3 hf3 => ?_
          refine wpP_of ?_
          iterate 4 walk1
          refine args_nil ⟨F27.keep, ?_⟩
          refine taken (σ₀ := τ) (G.keeps F27.keep) hf3 rfl (by show callerA.depth + 1 + 30 < recursionLimit; decide) hτv (by omega) hl0 hl1 fun D28 h28 tk28 ys28 hD28 kp28 hl28 hs28 => ?_
          have htk : Mine.tk least τ.length τ false [] = cs := by
            have := tk_tau cs least cs.length (Nat.le_refl _) false []
            rw [hτl, hτ]
            simpa using this
          rw [htk] at hs28
          have F28 := Fr_kp F27 kp28
          have N28 := News_kp N27 kp28
          clear F27 N27
          refine wpP_of ?_
          walk1
          have hl28' : h28.IsList D28 ys28.toList.toArray := by simpa using hl28
          have hl4 : h28.IsList D4 ys''.toArray := ⟨_, N28.get (.tail _ (.tail _ (.head _))), rfl, _, rfl⟩
          refine wpP_of (ne_signs hl28' hl4 hs28 hsg hval (by show callerA.units + 3 + 64 < cLine; decide) ?_)
          refine wpP_of (wpAny_truthy_bool ?_)
          simp only [Bool.false_eq_true, if_false]
          exact wpP_execs_nil (wpP_execs_nil ⟨h28, _, rfl, N28.get (.head _), N28.get (.tail _ (.head _)), _, _, _, _, _, _, _, _, F28, News_tail (News_tail N28)⟩)
      · intro j v s' Q' E' hit hv2 hq
        obtain ⟨_, _, T, _, _, rfl, _, _⟩ := hDR.at _ v (by simpa using hv2)
        exact go_pair hit hq
    · rintro h30 tk30 ⟨v1, v2, v3, v4, v5, v6, v7, v8, Fm, Nm⟩
      clear F10 N10
      dsimp only
      refine wpP_of ?_
      iterate 3 walk1
      refine call_defF G.T Fm.keep (by rfl) fun f' hf' => ?_
      have hl4 : h30.IsList D4 ys''.toArray := ⟨_, Nm.get (.head _), rfl, _, rfl⟩
      iterate 2 walk1
      refine args_nil ⟨Fm.keep, ?_⟩
      refine prepared (cs := cs) (G.keeps Fm.keep) hf' rfl (by show callerA.depth + 1 + 5 < recursionLimit; decide) hl4 (by simpa using hsg) (by omega) fun t31 h31 tk31 kp31 => ?_
      have F31 := Fr_kp Fm kp31
      have N31 := News_kp Nm kp31
      clear Fm Nm
      iterate 5 walk1
      refine ListComp_P (cl := []) F31 (by rfl) (by decide) (by rfl) (by decide) (by decide) (by decide) (by decide) ?_
      walk1
      refine ⟨D3, ys'.toArray, _, rfl, rfl, F31, N31, .inr ⟨_, .tail _ (.head _), rfl, _, rfl⟩, by rw [sizeLine_eq]; simp; omega, fun s₂ hs₂ => ?_⟩
      obtain ⟨g31, rfl⟩ := hs₂
      refine rest_genP (n := its.size) (ds := ds) (hDR.mono fun p hp => .tail _ (.tail _ hp)) (by simp [hlD]) (.inr ⟨_, .tail _ (.head _), rfl, _, rfl⟩) (fun i yw => StrsAre yw ((ds.map (·.2)).take i)) ?_ ?_ _ 0 [] (by simp [hlD]) .nil
      rotate_left 1
      · intro i yw c w' t1 t2 C m₂ s' E' hiN hd r hr hns hk hm1 hm2
        refine nm_loc hns hm2 ⟨?_, _, rfl⟩
        have ei : (ds.map (·.2)).take (i + 1) = (ds.map (·.2)).take i ++ [w'] := by
          rw [List.take_add_one, List.getElem?_map, hd]; rfl
        rw [ei]
        exact StrsAre.append' r (.cons _ _ .nil)
      intro yw hstr
      intro D32 h32 tk32 F32 N32 _
      rw [List.take_of_length_le (by rw [List.length_map, hdl]; exact Nat.le_refl _)] at hstr
      walk1
      have hw4 := words_len ds hDR.all
      refine join_list (items := yw.toArray) (ys := ds.map (·.2)) ⟨_, N32.get (.head _), rfl, _, rfl⟩ (by simpa using hstr) ?_ fun t33 k33 => ?_
      · show _ + _ * 0 ≤ _
        omega
      rw [words_join hDR.all, ← hcs]
      walk1
      rw [beq_self_eq_true]
      exact h h32 k33 F32.keep
    · intro i v s' Q' E' _ _ hq
      exact wpAny_of_eq (a := ()) rfl hq
end Mine
end

section
open PySem PySem.W PyProof.Rows PySem.Calls
open Sem (wp)
set_option Elab.async false
set_option maxRecDepth 100000
namespace Mine
/-- what the opening leaves -/
structure Booted (s : Shared) (mb mg : Str → Option Value) (c Pl : Addr) : Prop where
  B : BootLeft9 (opening pr) s.heap mb mg c Pl
  gens : s.gens = #[]
theorem opened (w : World) : (∃ s, AfterImport (opening pr) w s) ∧ ∀ s, AfterImport (opening pr) w s → ∃ mb mg c Pl, Booted s mb mg c Pl := by
  refine AfterImport.of_body9 (prog := opening pr) (w := w) (P := fun s => ∃ mb mg c Pl, Booted s mb mg c Pl) (out := #[]) (fun hp tk mb mg c Pl F hB => ?_) rfl
  refine codeAny_body (stmts := (opening pr).main.body) rfl rfl ?_
  show wpAny _ _ (execs [] _) _ _ _
  refine wpAny_execs_nil ⟨⟨_, rfl⟩, ?_, ⟨mb, mg, c, Pl, hB, rfl⟩, rfl⟩
  exact .of hB.toBootLeft (fun _ _ _ _ e => e) hB.g
theorem fenced (s : Shared) : fenceModules? pr s = some s := rfl
end Mine
end

section
open PySem PySem.W PyProof.Rows PySem.Calls
open Sem (wp)
set_option Elab.async false
set_option maxRecDepth 100000
namespace Mine
theorem runN_split {den : Code → Sem Fin} {prog : Program} {w : World} : ∀ (k : Nat) {m : Nat} {s : Shared} {t : Thread} {s₁ : Shared} {t₁ : Thread}, runN den prog w k s t = .running s₁ t₁ → runN den prog w (k + m) s t = runN den prog w m s₁ t₁
  | 0, m, s, t, s₁, t₁, h => by
    have e : Run.running s t = .running s₁ t₁ := h
    injection e with e1 e2
    subst e1 e2
    rw [Nat.zero_add]
  | k + 1, m, s, t, s₁, t₁, h => by
    rw [Nat.add_right_comm]
    simp only [runN] at h ⊢
    cases hs : step den prog w s t with
    | go s₂ t₂ => rw [hs] at h; exact runN_split k h
    | halt o s₂ => rw [hs] at h; cases h
/-- the stub comes to its last leaf, thread by thread -/
theorem reach_top {w : World} {t : Sem Fin} {s : Shared} {R : Shared → Prop} (hreg : s.asleep)
    (h : wp (model pr w) ⟨.builtin "claim.caller" {}, none, none, [], none⟩ t (fun fin _ s' => (∃ f, fin = .done f) ∧ R s' ∧ s'.gens = #[]) (fun _ _ _ => False) default s) :
    ∃ n s₁ t₁, schedN (denote table) pr w n (.single s ⟨t, .builtin "claim.caller" {}, default, []⟩) = .running (.single s₁ t₁) ∧ through t₁ = true ∧ s₁.heap.life = s.heap.life ∧ R s₁ ∧ s₁.gens = #[] := by
  obtain ⟨n, s', σ, p', leaf, hr, hfo, hl, _⟩ := wp_reaches_first (M := model pr w) (c := .builtin "claim.caller" {}) h
  rcases hl with ⟨a, rfl, ⟨⟨f, rfl⟩, hR, hg⟩⟩ | ⟨e, _, hF⟩
  · obtain rfl := Shared.eq_of_forget_eq hfo hg
    have hh : wp (model pr w) ⟨.builtin "claim.caller" {}, none, none, [], none⟩ t (Sem.finPost (model pr w) ⟨.builtin "claim.caller" {}, none, none, [], none⟩ fun r s' => True ∧ leftWithCleanup s'.gens = false) (fun e _ s' => True ∧ leftWithCleanup s'.gens = false) default s := by
      refine Sem.wp_mono _ _ _ (fun fin p s' h' => ?_) (fun _ _ _ x => x.elim) _ _ h
      obtain ⟨⟨f, rfl⟩, _, hg⟩ := h'
      exact ⟨trivial, by rw [hg]; simp [leftWithCleanup]⟩
    obtain ⟨n2, r2, s2, hn2, _⟩ := (wp_iff_halts (M := model pr w) t (fun _ _ => True) default s).mp hh
    obtain ⟨s3, _, _, hcalm⟩ := runNI_real (model pr w).den (model pr w).prog (model pr w).w hn2 (outcomeOf_ends r2)
    refine ⟨n, σ, ⟨.pure (.done f), .builtin "claim.caller" {}, p', []⟩, ?_, rfl, runN_life_running hr, hR, hg⟩
    rw [schedN_prefix (denote table) pr w n s _ hreg (fun k s₁ t₁ hk hk₁ => ⟨hcalm k s₁ t₁ hk₁, fun hx => ?_⟩)]
    · exact congrArg Run.lift hr
    · have e := runN_split (den := denote table) (prog := pr) (w := w) k (m := n - k) hk₁
      rw [show k + (n - k) = n by omega] at e
      obtain ⟨m, hm⟩ : ∃ m, n - k = m + 1 := ⟨n - k - 1, by omega⟩
      rw [hm] at e
      simp only [runN, hx] at e
      have hr' : runN (denote table) pr w n s ⟨t, .builtin "claim.caller" {}, default, []⟩ = _ := hr
      rw [hr'] at e
      cases e
  · exact hF.elim
end Mine
end

section
open PySem PySem.W PyProof.Rows PySem.Calls
open Sem (wp)
set_option Elab.async false
set_option maxRecDepth 100000
namespace Mine
section
variable {prog : Program} {w : World} {K : Type} [DecidableEq K] {knd : KeyKind prog w K} {A : Around} {E : Value → Shared → Prop} {s : Shared}

theorem dictPut_pairs {d : Addr} {kvs : List (K × Value)} {k : K} {key v : Value} {Q : Unit → Shared → Prop} (hkey : knd.is k key = true) (hm : s.heap.DictOf knd d kvs)
    (hQ : ∀ h', h'.DictOf knd d (stored kvs k v) → Heap.SameBut d s.heap h' → Q () { s with heap := h' })
    (hsz : kvs.length ≤ sizeLine) :
    wpAny (model prog w) A (dictPut d (knd.hash k) key v) Q E s := by
  obtain ⟨o, es, ep, ho, hc, hd, hk, hp, hn⟩ := hm
  have hes : es.size ≤ sizeLine := by have e1 := hp.length; have e2 : es.toList.length = es.size := by simp
                                      omega
  unfold dictPut
  refine wpAny_bind (wpAny_dictFind_of hkey ho hd hk ?_)
  have hidx : (es.findIdx? fun e => knd.is k e.key) = kvs.findIdx? fun kv => decide (kv.1 = k) := by
    rw [← hp.findIdx k]; obtain ⟨l⟩ := es; simp
  cases hi : es.findIdx? fun e => knd.is k e.key with
  | some i =>
    refine wpAny_updateDict ho hd (hQ _ ⟨_, _, ep, Heap.get?_update_self _ ho (Obj.isFreed_of_dict (Obj.data_mapDict hd _)),
      hc.mapDict _, Obj.data_mapDict hd _, hk.modify _ _, ?_, ?_⟩ (Heap.SameBut.update ..))
    · rw [stored, if_pos (any_of_findIdx_some (hidx ▸ hi))]
      have hl : (es.toList.findIdx? fun e => knd.is k e.key) = some i := by rw [← hi]; obtain ⟨l⟩ := es; simp
      have := hp.modify hn hl v
      obtain ⟨l⟩ := es
      simpa using this
    · rw [stored, if_pos (any_of_findIdx_some (hidx ▸ hi)), keys_map_store]; exact hn
  | none =>
    have hnot : k ∉ kvs.map (·.1) := not_mem_of_findIdx_none (hidx ▸ hi)
    have hany : ¬ (kvs.any fun kv => decide (kv.1 = k)) = true := by
      rw [List.any_eq_true]; rintro ⟨kv, hkv, he⟩
      exact hnot (List.mem_map.mpr ⟨kv, hkv, of_decide_eq_true he⟩)
    refine wpAny_updateDictKeys (hz := hes) ho hd (hQ _ ⟨_, _, ep + 1, Heap.get?_update_self _ ho (Obj.isFreed_of_dict (Obj.data_mapDictKeys hd _)),
      hc.mapDictKeys _, Obj.data_mapDictKeys hd _, hk.push hkey _, ?_, ?_⟩ (Heap.SameBut.update ..))
    · rw [stored, if_neg hany]
      have := hp.append hkey (knd.hash k) v
      obtain ⟨l⟩ := es
      simpa using this
    · rw [stored, if_neg hany, List.map_append, List.nodup_append]
      refine ⟨hn, by simp, ?_⟩
      intro a ha b hb
      simp only [List.map_cons, List.map_nil, List.mem_singleton] at hb
      subst hb
      exact fun e => hnot (e ▸ ha)

theorem merge_mapping {d o : Addr} {kvs more : List (K × Value)} {Q : Unit → Shared → Prop} (hdo : d ≠ o) (hoS : (o == sysModules) = false) (hne : kvs ≠ [])
    (hd : s.heap.DictOf knd d kvs) (ho : s.heap.DictOf knd o more)
    (hQ : ∀ h', h'.DictOf knd d (merged kvs more) → Heap.SameBut d s.heap h' → Q () { s with heap := h' })
    (hsz : kvs.length + more.length ≤ sizeLine) :
    wpAny (model prog w) A (mergeMapping d (.ref o) false) Q E s := by
  obtain ⟨od, esd, epd, hod, hcd, hdd, hkd, hpd, hnd⟩ := id hd
  obtain ⟨oo, eso, epo, hoo, hco, hdo', hko, hpo, hno⟩ := id ho
  unfold mergeMapping
  refine wpAny_bind (wpAny_isInstance ho.typeIs isSubtype_dict_dict ?_)
  rw [if_pos rfl]
  refine wpAny_bind (wpAny_specialOf ho.typeIs F.slot_dict_iter.lookup (wpAny_bind (wpAny_pure ?_)))
  simp only [beq_self_eq_true]
  rw [hoS]
  simp only [Bool.false_eq_true, if_false]
  have hlen : more.length = eso.size := by rw [← hpo.length]; simp
  refine wpAny_bind (wpAny_dictEntries hod hdd ?_)
  have hemp : esd.isEmpty = false := by
    cases h : esd.isEmpty with
    | false => rfl
    | true =>
      have h0 : esd = #[] := Array.isEmpty_iff.mp h
      have := hpd.length; rw [h0] at this
      exact absurd (List.length_eq_zero_iff.mp (by simpa using this.symm)) hne
  rw [hemp]
  simp only [Bool.false_eq_true, if_false]
  refine wpAny_bind (wpAny_dictEntries hoo hdo' ?_)
  refine wpAny_bind (wpAny_dictEpoch hoo hdo' ?_)
  refine wpAny_bind ?_
  rw [List.range_eq_range']
  refine wpAny_forIn_list _
      (fun rest _ s' => ∃ h' i, s' = { s with heap := h' } ∧ rest = List.range' i (eso.size - i) ∧ i ≤ eso.size ∧ h'.DictOf knd d (merged kvs (more.take i)) ∧ h'.get? o = some oo ∧ Heap.SameBut d s.heap h')
      _ ?_ ?_ _ _ ⟨s.heap, 0, rfl, by simp, Nat.zero_le _, by simpa [merged] using hd, hoo, Heap.SameBut.refl _ _⟩
  · rintro x rest b s' ⟨h', i, rfl, hr, hi, hd', hoo', hs'⟩
    have hlt : i < eso.size := by
      rcases Nat.lt_or_ge i eso.size with h | h
      · exact h
      · rw [Nat.sub_eq_zero_of_le h] at hr; simp at hr
    obtain ⟨rfl, hrest⟩ : x = i ∧ rest = List.range' (i + 1) (eso.size - (i + 1)) := by
      have e : eso.size - i = (eso.size - (i + 1)) + 1 := by omega
      rw [e, List.range'_succ] at hr
      injection hr with h1 h2
      exact ⟨h1, h2⟩
    refine wpAny_bind (wpAny_dictEntries hoo' hdo' ?_)
    rw [Array.getElem?_eq_getElem hlt]
    obtain ⟨kv, hkv⟩ : ∃ kv, more[x]? = some kv := ⟨more[x]'(by rw [hlen]; exact hlt), List.getElem?_eq_getElem _⟩
    obtain ⟨k, v⟩ := kv
    obtain ⟨hkey, hval⟩ := hpo.get? (e := eso[x]) (by simp [hlt]) hkv
    obtain ⟨k', hkey', hhash⟩ := hko eso[x] (Array.getElem_mem hlt)
    obtain rfl : k' = k := knd.inj _ _ _ hkey' hkey
    dsimp only
    rw [hhash, hval]
    have hmx : (merged kvs (more.take x)).length ≤ sizeLine := by
      have e1 := merged_length_le kvs (more.take x)
      have e2 : (more.take x).length ≤ more.length := by rw [List.length_take]; omega
      omega
    refine wpAny_bind (wpAny_holding (dictPut_pairs (hsz := hmx) hkey hd' fun h'' hd'' hs'' => ?_))
    have hoo'' : h''.get? o = some oo := (hs''.2 o (Ne.symm hdo)).trans hoo'
    refine wpAny_bind (wpAny_dictEpoch hoo'' hdo' ?_)
    rw [if_neg (by simp)]
    exact wpAny_pure ⟨h'', x + 1, rfl, hrest, hlt, by rw [merged_take_succ kvs more x (k', v) hkv]; exact hd'', hoo'', hs'.trans hs''⟩
  · rintro b s' ⟨h', i, rfl, hr, hi, hd', hoo', hs'⟩
    have hin : i = eso.size := by
      rcases Nat.lt_or_ge i eso.size with h | h
      · have e : eso.size - i = (eso.size - (i + 1)) + 1 := by omega
        rw [e, List.range'_succ] at hr; exact nomatch hr
      · exact Nat.le_antisymm hi h
    refine wpAny_pure (hQ h' ?_ hs')
    rw [hin, ← hlen, List.take_length] at hd'; exact hd'
end
end Mine
end

section
open PySem PySem.W PyProof.Rows PySem.Calls PySem.Spec PyProof.V
open Sem (wp)
set_option Elab.async false
set_option maxRecDepth 100000
namespace Mine
inductive LitsAre : List (Expr × Expr) → List (Int × PyData) → Prop
  | nil : LitsAre [] []
  | cons {k v : Expr} {i : Int} {d : PyData} {L D} : tabLit k = some (.int i) → tabLit v = some d → LitsAre L D → LitsAre ((k, v) :: L) ((i, d) :: D)
theorem LitsAre.length : ∀ {L D}, LitsAre L D → D.length = L.length
  | _, _, .nil => rfl
  | _, _, .cons _ _ h => by simp [h.length]
theorem LitsAre.split : ∀ (n : Nat) {L D}, LitsAre L D → LitsAre (L.take n) (D.take n) ∧ LitsAre (L.drop n) (D.drop n)
  | 0, _, _, h => by simpa using ⟨LitsAre.nil, h⟩
  | n + 1, _, _, .nil => by simpa using LitsAre.nil
  | n + 1, _, _, .cons a b h => by
    obtain ⟨x, y⟩ := h.split n
    exact ⟨by simpa using LitsAre.cons a b x, by simpa using y⟩
def enc1 (p : Int × PyData) : PyData × PyData := (.int p.1, p.2)
def treesOf (env : Env) (pos : Pos) (L : List (Expr × Expr)) : List (Sem Value × Sem Value) := L.map fun p => (eval p.1 env, do let x ← eval p.2 env; standAt pos; pure x)

theorem fp_keys : ∀ (kvs : List (Int × Value)) (D : List (Int × PyData)), FlatPairs PyData.int kvs (D.map enc1) → kvs.map (·.1) = D.map (·.1)
  | [], [], _ => rfl
  | [], _ :: _, h => by simp [enc1] at h; cases h
  | (k, v) :: kvs, [], h => by simp at h; cases h
  | (k, v) :: kvs, (i, d) :: D, h => by
    rw [List.map_cons] at h
    have h' : FlatPairs PyData.int ((k, v) :: kvs) ((PyData.int i, d) :: D.map enc1) := h
    generalize hx : PyData.int i = x at h'
    cases h' with
    | cons a b =>
      injection hx with hx
      rw [List.map_cons, List.map_cons, fp_keys kvs D b, hx]
theorem fp_app {kvs₁ kvs₂ : List (Int × Value)} {D₁ D₂ : List (PyData × PyData)} (a : FlatPairs PyData.int kvs₁ D₁) (b : FlatPairs PyData.int kvs₂ D₂) : FlatPairs PyData.int (kvs₁ ++ kvs₂) (D₁ ++ D₂) := by
  induction a with
  | nil => exact b
  | cons x _ ih => exact .cons x ih

section
variable {prog : Program} {w : World} {A : Around} {E : Value → Shared → Prop} {env : Env} {pos : Pos}

theorem lits_eval : ∀ {L : List (Expr × Expr)} {D : List (Int × PyData)} (s : Shared) (Q : List (Value × Value) → Shared → Prop), LitsAre L D →
    (∀ vs kvs tk, Carries (intKind prog w) vs kvs → FlatPairs PyData.int kvs (D.map enc1) → Q vs { s with toks := tk }) →
    wpAny (model prog w) A (evalPairs (treesOf env pos L)) Q E s
  | _, _, s, Q, .nil, h => evalPairs_nil (h [] [] s.toks trivial .nil)
  | _, _, s, Q, .cons hk hv r, h => by
    refine evalPairs_cons (eval_lit hk fun kv tk₁ fk => wpAny_bind (eval_lit hv fun vv tk₂ fv => wpAny_bind (wpAny_standAt (wpAny_pure ?_))))
    obtain ⟨t, rfl⟩ := fk.int_inv
    exact lits_eval _ _ r fun vs kvs tk hc hf => h _ (_ :: kvs) tk ⟨intKind_is prog w _ _, rfl, hc⟩ (.cons fv hf)

theorem lits_store {d : Addr} : ∀ {L : List (Expr × Expr)} {D : List (Int × PyData)} (acc : List (Int × Value)) (s : Shared) (Q : PUnit → Shared → Prop), LitsAre L D →
    s.heap.DictOf (intKind prog w) d acc → acc.length + L.length ≤ sizeLine →
    (∀ h' tk kvs, FlatPairs PyData.int kvs (D.map enc1) → h'.DictOf (intKind prog w) d (merged acc kvs) → Heap.SameBut d s.heap h' → Q PUnit.unit { s with heap := h', toks := tk }) →
    wpAny (model prog w) A (forIn (treesOf env pos L) PUnit.unit fun (x : Sem Value × Sem Value) (_ : PUnit) => (do
        let kv ← x.1
        let vv ← holding [kv] x.2
        holding [kv, vv] (dictSet d kv vv)
        pure (ForInStep.yield PUnit.unit) : Sem (ForInStep PUnit))) Q E s
  | _, _, acc, s, Q, .nil, hm, _, h => by
    show wpAny _ _ (forIn [] _ _) _ _ _
    rw [List.forIn_nil]
    exact wpAny_pure (h s.heap s.toks [] .nil hm (Heap.SameBut.refl _ _))
  | _, _, acc, s, Q, .cons (L := L) (D := D) (i := i) hk hv r, hm, hz, h => by
    rw [List.length_cons] at hz
    show wpAny _ _ (forIn (_ :: treesOf env pos L) _ _) _ _ _
    rw [List.forIn_cons]
    refine wpAny_bind (wpAny_bind (eval_lit hk fun kv tk₁ fk => wpAny_bind (wpAny_holding (wpAny_bind (eval_lit hv fun vv tk₂ fv => wpAny_bind (wpAny_standAt (wpAny_pure ?_)))))))
    obtain ⟨t, rfl⟩ := fk.int_inv
    refine wpAny_bind (wpAny_holding (wpAny_dictSet_pairs (knd := intKind prog w) (intKind_is prog w i t) (kvs := acc) hm (fun h₁ hm₁ hs₁ => wpAny_pure ?_) (by omega)))
    refine lits_store _ _ _ r hm₁ (by have e := stored_length_le acc i vv; omega) fun h' tk kvs hf hm' hs' => ?_
    exact h h' tk ((i, vv) :: kvs) (.cons fv hf) (by simpa [merged] using hm') (hs₁.trans hs')

theorem sub_lits {s : Shared} {L : List (Expr × Expr)} {D : List (Int × PyData)} {Q : Addr → Shared → Prop} (hL : LitsAre L D) (hn : (D.map (·.1)).Nodup) (hz : L.length ≤ 1000)
    (h : ∀ h₁ tk kvs, h₁.DictOf (intKind prog w) s.heap.objs.size kvs → FlatPairs PyData.int kvs (D.map enc1) → (∀ b o, s.heap.get? b = some o → h₁.get? b = some o) → Q s.heap.objs.size { s with heap := h₁, toks := tk }) :
    wpAny (model prog w) A (subDict (treesOf env pos L)) Q E s := by
  have hll : (treesOf env pos L).length = L.length := by simp [treesOf]
  have keep : ∀ h', Heap.SameBut s.heap.objs.size (s.heap.push { cls := .type "dict", data := .dict #[] }) h' → ∀ b o, s.heap.get? b = some o → h'.get? b = some o :=
    fun h' hs b o e => (hs.2 b (Nat.ne_of_lt (Heap.lt_size e))).trans (Heap.get?_push_of_some _ e)
  by_cases h15 : L.length ≤ 15
  · refine wpAny_subDict (knd := intKind prog w) (by omega) (lits_eval _ _ hL fun vs kvs tk hc hf => ⟨kvs, hc, Heap.DictOf.new _, fun h' hm hs => ?_⟩)
    rw [merged_nil_of_nodup kvs (by rw [fp_keys kvs D hf]; exact hn)] at hm
    exact h h' _ kvs hm hf (keep h' hs)
  · unfold subDict
    refine wpAny_bind (wpAny_alloc ?_)
    refine wpAny_bind (wpAny_holding ?_)
    rw [if_neg (by omega)]
    refine wpAny_bind (wpAny_rule ?_)
    refine wpAny_bind (lits_store (prog := prog) (w := w) [] _ _ hL (Heap.DictOf.new _) (by rw [sizeLine_eq, List.length_nil]; omega) fun h' tk kvs hf hm hs => wpAny_pure (wpAny_pure ?_))
    rw [merged_nil_of_nodup kvs (by rw [fp_keys kvs D hf]; exact hn)] at hm
    exact h h' _ kvs hm hf (keep h' hs)
end
end Mine
end

section
open PySem PySem.W PyProof.Rows PySem.Calls PySem.Spec PyProof.V
open Sem (wp)
set_option Elab.async false
set_option maxRecDepth 100000
namespace Mine
theorem gather_short (f : (Option (Sem Value) × Sem Value) → (Option Addr × List (Sem Value × Sem Value)) → Sem (ForInStep (Option Addr × List (Sem Value × Sem Value))))
    (hf : ∀ (p : Sem Value × Sem Value) (main : Option Addr) (run : List (Sem Value × Sem Value)), run.length + 1 ≠ 17 → f (some p.1, p.2) (main, run) = pure (.yield (main, run ++ [p])))
    (main : Option Addr) : ∀ (items run : List (Sem Value × Sem Value)), run.length + items.length < 17 → forIn (items.map fun p => (some p.1, p.2)) (main, run) f = pure (main, run ++ items)
  | [], run, _ => by simp
  | p :: rest, run, h => by
    rw [List.map_cons, List.forIn_cons, hf p main run (by simp at h; omega), pure_bind]
    have := gather_short f hf main rest (run ++ [p]) (by simp at h ⊢; omega)
    simpa using this
theorem gather_full (fl : List (Sem Value × Sem Value) → Option Addr → Sem (Option Addr)) (f : (Option (Sem Value) × Sem Value) → (Option Addr × List (Sem Value × Sem Value)) → Sem (ForInStep (Option Addr × List (Sem Value × Sem Value))))
    (hf : ∀ (p : Sem Value × Sem Value) (main : Option Addr) (run : List (Sem Value × Sem Value)), run.length + 1 ≠ 17 → f (some p.1, p.2) (main, run) = pure (.yield (main, run ++ [p])))
    (hg : ∀ (p : Sem Value × Sem Value) (main : Option Addr) (run : List (Sem Value × Sem Value)), run.length + 1 = 17 → f (some p.1, p.2) (main, run) = (do let m ← fl (run ++ [p]) main; pure (.yield (m, []))))
    (main : Option Addr) (more : List (Option (Sem Value) × Sem Value)) : ∀ (items run : List (Sem Value × Sem Value)), items ≠ [] → run.length + items.length = 17 →
     forIn ((items.map fun p => (some p.1, p.2)) ++ more) (main, run) f = (do let m ← fl (run ++ items) main; forIn more (m, []) f)
  | [], run, h, _ => absurd rfl h
  | [p], run, _, h => by
    rw [List.map_cons, List.map_nil, List.cons_append, List.nil_append, List.forIn_cons, hg p main run (by simpa using h)]
    simp only [bind_assoc, pure_bind]
  | p :: p' :: rest, run, _, h => by
    rw [List.map_cons, List.cons_append, List.forIn_cons, hf p main run (by simp at h; omega), pure_bind]
    have := gather_full fl f hf hg main more (p' :: rest) (run ++ [p]) (by simp) (by simp at h ⊢; omega)
    simpa using this

section
variable {prog : Program} {w : World} {A : Around} {E : Value → Shared → Prop} {env : Env} {pos : Pos}

/-- the display so far -/
def Disp (prog : Program) (w : World) (h₀ : Heap) (D : List (Int × PyData)) (main : Option Addr) (h : Heap) : Prop :=
  (∀ b o, h₀.get? b = some o → h.get? b = some o) ∧ h₀.objs.size ≤ h.objs.size ∧ ((main = none ∧ D = []) ∨ ∃ d kvs, main = some d ∧ h₀.objs.size ≤ d ∧ kvs ≠ [] ∧ h.DictOf (intKind prog w) d kvs ∧ FlatPairs PyData.int kvs (D.map enc1))

abbrev flushed (run : List (Sem Value × Sem Value)) (main : Option Addr) : Sem (Option Addr) := do
    if run.isEmpty then return main
    match main with
    | none => return some (← subDict run)
    | some d =>
      let sub ← holding [.ref d] (subDict run)
      (holding [.ref d, .ref sub] (mergeMapping d (.ref sub) false)).onRaise fun x => do let _ ← holding [.ref d, x] (runValue (.builtin "proto.let_go" {}))
      return some d

theorem size_of_keep {h h' : Heap} {a : Addr} {kvs : List (Int × Value)} (m : h'.DictOf (intKind prog w) a kvs) (ha : a = h.objs.size) : h.objs.size ≤ h'.objs.size := by
  obtain ⟨o, es, ep, ho, r⟩ := m
  exact ha ▸ Nat.le_of_lt (Heap.lt_size ho)

theorem flush_lits {h₀ : Heap} {s : Shared} {L : List (Expr × Expr)} {D₁ D₂ : List (Int × PyData)} {main : Option Addr} {Q : Option Addr → Shared → Prop} (hs0 : sysModules < h₀.objs.size)
    (I : Disp prog w h₀ D₁ main s.heap) (hL : LitsAre L D₂) (h0 : L ≠ []) (hn : ((D₁ ++ D₂).map (·.1)).Nodup) (hz : (D₁ ++ D₂).length ≤ 1000)
    (h : ∀ m h' tk, m.isSome = true → Disp prog w h₀ (D₁ ++ D₂) m h' → Q m { s with heap := h', toks := tk }) :
    wpAny (model prog w) A (flushed (treesOf env pos L) main) Q E s := by
  have hl := hL.length
  rw [List.length_append] at hz
  rw [List.map_append] at hn
  obtain ⟨L0, Lr, rfl⟩ : ∃ a b, L = a :: b := List.exists_cons_of_ne_nil h0
  have hne : (treesOf env pos (L0 :: Lr)).isEmpty = false := rfl
  unfold flushed
  rw [hne]
  simp only [Bool.false_eq_true, if_false]
  have big : (D₂.map (·.1)).Nodup := (List.nodup_append.mp hn).2.1
  obtain ⟨hk, hsz, I⟩ := I
  rcases I with ⟨rfl, rfl⟩ | ⟨d, kvs, rfl, hd, hkne, hm, hf⟩
  · refine wpAny_bind (sub_lits hL big (by omega) fun h₁ tk kvs hm hf hk₁ => wpAny_pure (h _ _ tk rfl ⟨fun b o e => hk₁ b o (hk b o e), Nat.le_trans hsz (size_of_keep hm rfl), .inr ⟨_, kvs, rfl, hsz, ?_, hm, hf⟩⟩))
    rintro rfl
    cases hL with
    | cons a b c => cases hf
  · refine wpAny_bind (wpAny_holding (sub_lits hL big (by omega) fun h₁ tk kvs₂ hm₂ hf₂ hk₁ => ?_))
    have hdl : d < s.heap.objs.size := by obtain ⟨o, es, ep, ho, r⟩ := hm; exact Heap.lt_size ho
    have hm₁ : h₁.DictOf (intKind prog w) d kvs := by obtain ⟨o, es, ep, ho, r⟩ := hm; exact ⟨o, es, ep, hk₁ _ _ ho, r⟩
    have k1 : kvs.length = D₁.length := by have := congrArg List.length (fp_keys kvs D₁ hf); simpa using this
    have k2 : kvs₂.length = D₂.length := by have := congrArg List.length (fp_keys kvs₂ D₂ hf₂); simpa using this
    refine wpAny_bind (wpAny_onRaise (wpAny_holding (merge_mapping (knd := intKind prog w) (s := { s with heap := h₁, toks := tk }) (Nat.ne_of_lt hdl) ?_ hkne hm₁ hm₂ (fun h₂ hm₃ hs₃ => wpAny_pure (h _ h₂ tk rfl ⟨?_, ?_, .inr ⟨d, kvs ++ kvs₂, rfl, hd, ?_, ?_, ?_⟩⟩)) ?_)))
    · exact beq_eq_false_iff_ne.mpr (Nat.ne_of_gt (Nat.lt_of_lt_of_le hs0 hsz))
    · intro b o e
      have hb : b ≠ d := Nat.ne_of_lt (Nat.lt_of_lt_of_le (Heap.lt_size e) hd)
      exact (hs₃.2 b hb).trans (hk₁ b o (hk b o e))
    · have e : h₁.objs.size = h₂.objs.size := hs₃.1.symm
      have := size_of_keep hm₂ rfl
      omega
    · simp [hkne]
    · rw [merged_append_of_fresh kvs kvs₂ (by rw [List.map_append, fp_keys kvs D₁ hf, fp_keys kvs₂ D₂ hf₂]; exact hn)] at hm₃
      exact hm₃
    · rw [List.map_append]; exact fp_app hf hf₂
    · rw [sizeLine_eq]; omega

theorem disp_loop {h₀ : Heap} (hs0 : sysModules < h₀.objs.size) (f : (Option (Sem Value) × Sem Value) → (Option Addr × List (Sem Value × Sem Value)) → Sem (ForInStep (Option Addr × List (Sem Value × Sem Value))))
    (hf : ∀ (p : Sem Value × Sem Value) (main : Option Addr) (run : List (Sem Value × Sem Value)), run.length + 1 ≠ 17 → f (some p.1, p.2) (main, run) = pure (.yield (main, run ++ [p])))
    (hg : ∀ (p : Sem Value × Sem Value) (main : Option Addr) (run : List (Sem Value × Sem Value)), run.length + 1 = 17 → f (some p.1, p.2) (main, run) = (do let m ← flushed (run ++ [p]) main; pure (.yield (m, [])))) :
    ∀ (n : Nat) (L : List (Expr × Expr)) (D₁ D₂ : List (Int × PyData)) (main : Option Addr) (s : Shared) (Q : Value → Shared → Prop), L.length ≤ n → (D₁ ≠ [] ∨ L ≠ []) →
      Disp prog w h₀ D₁ main s.heap → LitsAre L D₂ → ((D₁ ++ D₂).map (·.1)).Nodup → (D₁ ++ D₂).length ≤ 1000 →
      (∀ d h' tk kvs, h₀.objs.size ≤ d → (∀ b o, h₀.get? b = some o → h'.get? b = some o) → h'.DictOf (intKind prog w) d kvs → FlatPairs PyData.int kvs ((D₁ ++ D₂).map enc1) → Q (.ref d) { s with heap := h', toks := tk }) →
      wpAny (model prog w) A (forIn ((treesOf env pos L).map fun p => (some p.1, p.2)) (main, ([] : List (Sem Value × Sem Value))) f >>= fun r => flushed r.2 r.1 >>= fun o => match o with | some d => pure (.ref d) | none => newDict) Q E s
  | n, L, D₁, D₂, main, s, Q, hlen, h0, I, hL, hn, hz, h => by
    have fin : ∀ (m : Option Addr) (h' : Heap) (tk : Nat), m.isSome = true → Disp prog w h₀ (D₁ ++ D₂) m h' → wpAny (model prog w) A (match m with | some d => (pure (.ref d) : Sem Value) | none => newDict) Q E { s with heap := h', toks := tk } := by
      rintro m h' tk hm ⟨hk, _, ⟨rfl, _⟩ | ⟨d, kvs, rfl, hd, _, hd2, hf2⟩⟩
      · cases hm
      · exact wpAny_pure (h d h' tk kvs hd hk hd2 hf2)
    by_cases h17 : L.length < 17
    · rw [gather_short f hf main (treesOf env pos L) [] (by simpa [treesOf] using h17), pure_bind, List.nil_append]
      by_cases hnil : L = []
      · subst hnil
        cases hL
        show wpAny _ _ ((pure main : Sem (Option Addr)) >>= _) _ _ _
        rw [pure_bind, ]
        rw [List.append_nil] at fin
        refine fin main s.heap s.toks ?_ I
        obtain ⟨_, _, ⟨_, e⟩ | ⟨d, _, rfl, _⟩⟩ := I
        · rcases h0 with x | x
          · exact absurd e x
          · exact absurd rfl x
        · rfl
      · exact wpAny_bind (flush_lits hs0 I hL hnil hn hz fin)
    · obtain ⟨hL1, hL2⟩ := hL.split 17
      have hsplit : (treesOf env pos L).map (fun p => (some p.1, p.2)) = ((treesOf env pos (L.take 17)).map fun p => (some p.1, p.2)) ++ (treesOf env pos (L.drop 17)).map fun p => (some p.1, p.2) := by
        rw [← List.map_append, treesOf, treesOf, treesOf, ← List.map_append, List.take_append_drop]
      have ht : (L.take 17).length = 17 := by rw [List.length_take]; omega
      rw [hsplit, gather_full flushed f hf hg main _ (treesOf env pos (L.take 17)) [] (by intro e; have := congrArg List.length e; rw [treesOf, List.length_map, ht] at this; exact absurd this (by decide)) (by simp [treesOf]; omega), List.nil_append, bind_assoc]
      have hD : D₁ ++ D₂.take 17 ++ D₂.drop 17 = D₁ ++ D₂ := by rw [List.append_assoc, List.take_append_drop]
      have hz1 : (D₁ ++ D₂.take 17).length ≤ 1000 := by rw [← hD, List.length_append] at hz; exact Nat.le_trans (Nat.le_add_right _ _) hz
      rw [← hD] at hn hz h
      refine wpAny_bind (flush_lits hs0 I hL1 (by intro e; rw [e] at ht; simp at ht) (by rw [List.map_append] at hn; exact (List.nodup_append.mp hn).1) hz1 fun m h' tk hm I' => ?_)
      have hl2 := hL.length
      cases n with
      | zero => omega
      | succ n =>
        refine disp_loop hs0 f hf hg n (L.drop 17) (D₁ ++ D₂.take 17) (D₂.drop 17) m _ Q (by rw [List.length_drop]; omega) (.inl ?_) I' hL2 hn hz fun d h'' tk' kvs a b c e => h d h'' tk' kvs a b c e
        intro e
        have := congrArg List.length e
        rw [List.length_append, List.length_take, List.length_nil] at this
        omega

theorem zip_trees : ∀ (L : List (Expr × Expr)), (evalEachOpt (L.map fun p => some p.1) env).zip ((evalEach (L.map (·.2)) env).map fun v => do let x ← v; standAt pos; pure x) = (treesOf env pos L).map fun p => (some p.1, p.2)
  | [] => rfl
  | p :: L => by
    show _ :: (evalEachOpt (L.map fun p => some p.1) env).zip ((evalEach (L.map (·.2)) env).map fun v => do let x ← v; standAt pos; pure x) = _ :: (treesOf env pos L).map fun p => (some p.1, p.2)
    rw [zip_trees L]
    rfl

theorem Dict_long {s : Shared} {L : List (Expr × Expr)} {D : List (Int × PyData)} {Q : Value → Shared → Prop} (hs0 : sysModules < s.heap.objs.size)
    (hL : LitsAre L D) (h0 : L ≠ []) (hn : (D.map (·.1)).Nodup) (hz : D.length ≤ 1000)
    (h : ∀ a o h₁ tk, s.heap.objs.size ≤ a → h₁.get? a = some o → TabObj (intKind prog w) PyData.int (D.map enc1) o → (∀ b o', s.heap.get? b = some o' → h₁.get? b = some o') → Q (.ref a) { s with heap := h₁, toks := tk }) :
    wpAny (model prog w) A (eval (.Dict (L.map fun p => some p.1) (L.map (·.2)) pos) env) Q E s := by
  rw [arm_eval_Dict, zip_trees]
  refine wpAny_bind (wpAny_standAt ?_)
  unfold dictDisplay
  dsimp only
  refine disp_loop hs0 _ ?_ ?_ L.length L [] D none s Q (Nat.le_refl _) (.inr h0) ⟨fun _ _ e => e, Nat.le_refl _, .inl ⟨rfl, rfl⟩⟩ hL (by simpa using hn) (by simpa using hz) fun d h' tk kvs a b c e => ?_
  · intro p main run hr
    have hne : ((run ++ [(p.1, p.2)]).length == 17) = false := by simp; omega
    simp only [hne, Bool.false_eq_true, if_false]
  · intro p main run hr
    have hne : ((run ++ [(p.1, p.2)]).length == 17) = true := by simp; omega
    simp only [hne, if_true]
    rfl
  · obtain ⟨o, ho, hd⟩ := Heap.dictOf_iff.mp c
    exact h d o h' tk a ho ⟨kvs, hd, e⟩ b
end
end Mine
end

section
open PySem PySem.W PyProof.Rows PySem.Calls PySem.Spec PyProof.V
open Sem (wp)
set_option Elab.async false
set_option maxRecDepth 100000
namespace Mine
/-- the value, the place and the name's place of an assignment -/
def asgV : Option Stmt → Expr
  | some (.Assign _ v _) => v
  | _ => .Constant .none 0 default
def asgP : Option Stmt → Pos
  | some (.Assign _ _ p) => p
  | _ => default
def asgN : Option Stmt → Pos
  | some (.Assign [.Name _ p] _ _) => p
  | _ => default
def dictK : Expr → List (Option Expr)
  | .Dict k _ _ => k
  | _ => []
def dictV : Expr → List Expr
  | .Dict _ v _ => v
  | _ => []
def dictP : Expr → Pos
  | .Dict _ _ p => p
  | _ => default
def up : List (Option Expr) → List Expr → List (Expr × Expr)
  | some k :: ks, v :: vs => (k, v) :: up ks vs
  | _, _ => []
theorem up_fst : ∀ (ks : List (Option Expr)) (vs : List Expr), (up ks vs).length = ks.length → ks = (up ks vs).map fun p => some p.1
  | [], _, _ => by simp [up]
  | none :: ks, [], h => by simp [up] at h
  | none :: ks, _ :: _, h => by simp [up] at h
  | some k :: ks, [], h => by simp [up] at h
  | some k :: ks, v :: vs, h => by
    simp only [up, List.length_cons, Nat.add_right_cancel_iff] at h
    simp only [up, List.map_cons]
    rw [← up_fst ks vs h]
theorem up_snd : ∀ (ks : List (Option Expr)) (vs : List Expr), (up ks vs).length = vs.length → vs = (up ks vs).map (·.2)
  | _, [], h => by cases hx : up _ [] with
    | nil => rfl
    | cons a b => rw [hx] at h; simp at h
  | [], _ :: _, h => by simp [up] at h
  | none :: ks, _ :: _, h => by simp [up] at h
  | some k :: ks, v :: vs, h => by
    simp only [up, List.length_cons, Nat.add_right_cancel_iff] at h
    simp only [up, List.map_cons]
    rw [← up_snd ks vs h]
theorem up_lits : ∀ (ks : List (Option Expr)) (vs : List Expr), (pairsIn ks vs).length = (up ks vs).length → LitsAre (up ks vs) ((pairsIn ks vs).map fun p => (p.1, .str p.2))
  | [], _, _ => by simp [up, pairsIn]; exact .nil
  | none :: ks, vs, h => by simp [up, pairsIn]; exact .nil
  | some k :: ks, [], h => by simp [up, pairsIn]; exact .nil
  | some k :: ks, v :: vs, h => by
    by_cases hx : ∃ i a b x c d, k = .Constant (.int i) a b ∧ v = .Constant (.str x) c d
    · obtain ⟨i, a, b, x, c, d, rfl, rfl⟩ := hx
      simp only [up, pairsIn, List.length_cons, Nat.add_right_cancel_iff] at h
      exact .cons rfl rfl (up_lits ks vs h)
    · have e : pairsIn (some k :: ks) (v :: vs) = [] := by
        unfold pairsIn
        split
        · rename_i h1 h2
          cases h1
          cases h2
          exact absurd ⟨_, _, _, _, _, _, rfl, rfl⟩ hx
        · rfl
      rw [e] at h
      simp [up] at h
def chain : List Int → Bool
  | a :: b :: r => decide (a < b) && chain (b :: r)
  | _ => true
theorem chain_lt : ∀ (a : Int) (r : List Int), chain (a :: r) = true → ∀ x ∈ r, a < x
  | a, [], _, x, hx => by cases hx
  | a, b :: r, h, x, hx => by
    simp only [chain, Bool.and_eq_true, decide_eq_true_eq] at h
    rcases List.mem_cons.mp hx with rfl | hx
    · exact h.1
    · exact Int.lt_trans h.1 (chain_lt b r h.2 x hx)
theorem chain_nodup : ∀ (l : List Int), chain l = true → l.Nodup
  | [], _ => List.nodup_nil
  | [a], _ => by simp
  | a :: b :: r, h => by
    have h' := h
    simp only [chain, Bool.and_eq_true, decide_eq_true_eq] at h
    refine List.nodup_cons.mpr ⟨fun hx => ?_, chain_nodup (b :: r) h.2⟩
    exact Int.lt_irrefl _ (chain_lt a (b :: r) h' a hx)

abbrev d3 : Expr := asgV pr.main.body[3]?
theorem b3_chain : chain (b3L.map (·.1)) = true := by decide +kernel
theorem b3_len650 : b3L.length = 650 := by decide +kernel
theorem d3_len : (up (dictK d3) (dictV d3)).length = 650 ∧ (dictK d3).length = 650 ∧ (dictV d3).length = 650 := by decide +kernel
theorem d3_dict : d3 = .Dict (dictK d3) (dictV d3) (dictP d3) := rfl
theorem b3L_eq : b3L = pairsIn (dictK d3) (dictV d3) := rfl
theorem b3D_eq : (b3L.map fun p => ((p.1, .str p.2) : Int × PyData)).map enc1 = b3D := by
  rw [List.map_map]; rfl

theorem dict_congr {a a' : List (Option Expr)} {b b' : List Expr} {p : Pos} (h1 : a = a') (h2 : b = b') : Expr.Dict a b p = Expr.Dict a' b' p := by rw [h1, h2]
theorem up_lits' (ks : List (Option Expr)) (vs : List Expr) (D : List (Int × Str)) (hD : D = pairsIn ks vs) (h : D.length = (up ks vs).length) : LitsAre (up ks vs) (D.map fun p => (p.1, .str p.2)) := by
  subst hD; exact up_lits ks vs h
theorem eval_dict_gen {w : World} {A : Around} {E : Value → Shared → Prop} {s : Shared} {env : Env} {Q : Value → Shared → Prop} {K : List (Option Expr)} {V : List Expr} {p : Pos} {D : List (Int × Str)} (hs0 : sysModules < s.heap.objs.size)
    (l1 : (up K V).length = K.length) (l2 : (up K V).length = V.length) (hD : D = pairsIn K V) (hl : D.length = (up K V).length) (h0 : D.length ≠ 0) (hc : chain (D.map (·.1)) = true) (hz : D.length ≤ 1000) {DD : List (PyData × PyData)} (hDD : (D.map fun p => ((p.1, .str p.2) : Int × PyData)).map enc1 = DD)
    (h : ∀ a o h₁ tk, s.heap.objs.size ≤ a → h₁.get? a = some o → TabObj (intKind pr w) PyData.int DD o → (∀ b o', s.heap.get? b = some o' → h₁.get? b = some o') → Q (.ref a) { s with heap := h₁, toks := tk }) :
    wpAny (model pr w) A (eval (.Dict K V p) env) Q E s := by
  subst hDD
  have hL := up_lits' K V D hD hl
  rw [dict_congr (up_fst K V l1) (up_snd K V l2)]
  refine Dict_long hs0 hL (fun hx => ?_) ?_ ?_ h
  · exact h0 (hl.trans (congrArg List.length hx))
  · rw [List.map_map]; exact chain_nodup _ hc
  · rw [List.length_map]; exact hz
theorem eval_eq {w : World} {A : Around} {E : Value → Shared → Prop} {s : Shared} {env : Env} {Q : Value → Shared → Prop} {e e' : Expr} (he : e = e') (x : wpAny (model pr w) A (eval e' env) Q E s) : wpAny (model pr w) A (eval e env) Q E s := by
  rw [he]; exact x
theorem cond3 : (up (dictK d3) (dictV d3)).length = (dictK d3).length ∧ (up (dictK d3) (dictV d3)).length = (dictV d3).length ∧ b3L.length = (up (dictK d3) (dictV d3)).length ∧ b3L.length ≠ 0 ∧ b3L.length ≤ 1000 := by decide +kernel
theorem eval_b3 {w : World} {A : Around} {E : Value → Shared → Prop} {s : Shared} {env : Env} {Q : Value → Shared → Prop} (hs0 : sysModules < s.heap.objs.size)
    (h : ∀ a o h₁ tk, s.heap.objs.size ≤ a → h₁.get? a = some o → TabObj (intKind pr w) PyData.int b3D o → (∀ b o', s.heap.get? b = some o' → h₁.get? b = some o') → Q (.ref a) { s with heap := h₁, toks := tk }) :
    wpAny (model pr w) A (eval (.Dict (dictK d3) (dictV d3) (dictP d3)) env) Q E s :=
  @eval_dict_gen w A E s env Q (dictK d3) (dictV d3) (dictP d3) b3L hs0 cond3.1 cond3.2.1 b3L_eq cond3.2.2.1 cond3.2.2.2.1 b3_chain cond3.2.2.2.2 b3D b3D_eq h
end Mine
end

section
open PySem PySem.W PyProof.Rows PySem.Calls PySem.Spec PyProof.V
open Sem (wp)
set_option Elab.async false
set_option maxRecDepth 100000
namespace Mine
def argOf : Expr → Expr
  | .Call _ (a :: _) _ _ => a
  | _ => .Constant .none 0 default
def arg2Of : Expr → Expr
  | .Call _ (_ :: a :: _) _ _ => a
  | _ => .Constant .none 0 default
def eltsOf : Expr → List Expr
  | .BinOp (.List es _) _ _ _ => es
  | _ => []
def rightOf : Expr → Expr
  | .BinOp _ _ r _ => r
  | _ => .Constant .none 0 default
def posOf : Expr → Pos
  | .Call _ _ _ p => p
  | .BinOp _ _ _ p => p
  | .Constant _ _ p => p
  | _ => default
def kOf : Expr → Nat
  | .Constant _ k _ => k
  | _ => default
def lposOf : Expr → Pos
  | .BinOp (.List _ p) _ _ _ => p
  | _ => default
def fposOf : Expr → Pos
  | .Call (.Name _ p) _ _ _ => p
  | _ => default
def s1 : Expr := asgV pr.main.body[1]?
def s1b : Expr := argOf s1
def s1l : Expr := rightOf s1b
def s1r : Expr := argOf s1l
theorem s1_call : s1 = .Call (.Name "set" (fposOf s1)) [.BinOp (.List (eltsOf s1b) (lposOf s1b)) .Add (.Call (.Name "list" (fposOf s1l)) [.Call (.Name "range" (fposOf s1r)) [.Constant (.int 65024) (kOf (argOf s1r)) (posOf (argOf s1r)), .Constant (.int 65040) (kOf (arg2Of s1r)) (posOf (arg2Of s1r))] [] (posOf s1r)] [] (posOf s1l)) (posOf s1b)] [] (posOf s1) := rfl
def intsE : List Expr → List Int
  | .Constant (.int i) _ _ :: es => i :: intsE es
  | _ => []
theorem s1_ints : intsE (eltsOf s1b) = [173, 847, 6150, 6155, 6156, 6157, 8203, 8204, 8205, 8288, 65279] ∧ (eltsOf s1b).length = 11 := by decide +kernel
section
variable {prog : Program} {w : World} {A : Around} {E : Value → Shared → Prop} {env : Env}
theorem spliced_ints {pos : Pos} : ∀ (es : List Expr) (s : Shared) (Q : List Value → Shared → Prop), (intsE es).length = es.length →
    (∀ vs tk, IntsAre vs (intsE es) → Q vs { s with toks := tk }) → wpAny (model prog w) A (spliced (backTo pos (starEach es env))) Q E s
  | [], s, Q, _, h => args_nil (h [] s.toks .nil)
  | e :: es, s, Q, hl, h => by
    by_cases hx : ∃ i a b, e = .Constant (.int i) a b
    · obtain ⟨i, a, b, rfl⟩ := hx
      simp only [intsE, List.length_cons, Nat.add_right_cancel_iff] at hl
      refine args_cons (wpAny_Constant_int ?_)
      exact spliced_ints es _ _ hl fun vs tk hv => h _ tk (.cons i _ hv)
    · have : intsE (e :: es) = [] := by
        unfold intsE
        split
        · rename_i h1
          cases h1
          exact absurd ⟨_, _, _, rfl⟩ hx
        · rfl
      rw [this] at hl
      cases hl
theorem name_builtin {s : Shared} {c F : Addr} {x : Str} {p : Pos} {v : Value} {mg mb : Str → Option Value} {Q : Value → Shared → Prop} (hk : prog.main.scope.kind = .module) (hg : s.heap.Ns mainGlobals mg) (hm : mg x = none) (hb : s.heap.Ns builtinsNs mb) (hv : mb x = some v) (h : Q v s)
    (hd : (x == ("__debug__" : Str)) = false) :
    wpAny (model prog w) A (eval (.Name x p) (mainEnv prog c F)) Q E s :=
  Name_module (env := mainEnv prog c F) hk rfl (loadGlobal_builtin (env := mainEnv prog c F) hg hm hb hv h) hd
end
def SetLike (w : World) (o : Obj) : Prop := ∃ es ep t, o.ExactSet ∧ o.data = .set es ep t ∧ ElemsOf (intKind pr w) es.toList ∧ (∀ k, b1S k = true ↔ ∃ e ∈ es.toList, (intKind pr w).is k e.2 = true) ∧ es.size < scanBound ∧ t.fits es.size = true ∧ es.size = 27
theorem ints_of_items {a : Int} : ∀ (n k : Nat) (vs : List Value), vs.length = n → (∀ (j : Nat) v, vs[j]? = some v → ∃ t, v = Value.int (a + ((k + j : Nat) : Int) * 1) t) → IntsAre vs ((List.range' k n).map fun (i : Nat) => a + (i : Int))
  | 0, _, vs, h, _ => by rw [List.length_eq_zero_iff.mp h]; exact .nil
  | n + 1, k, [], h, _ => by cases h
  | n + 1, k, v :: vs, h, hv => by
    obtain ⟨t, rfl⟩ := hv 0 v rfl
    rw [List.range'_succ, List.map_cons]
    have := IntsAre.cons (a + ((k : Nat) : Int)) t (ints_of_items (a := a) n (k + 1) vs (by simpa using h) fun j v hj => by
      obtain ⟨t, e⟩ := hv (j + 1) v (by simpa using hj)
      exact ⟨t, by rw [e, show k + (j + 1) = k + 1 + j by omega]⟩)
    simpa using this
theorem met27 : firstMet (fun i => b1L.getD i 0) 27 = b1L := by decide +kernel
theorem b1L_len : b1L.length = 27 := by decide
theorem setlike_of {w : World} {h : Heap} {a : Addr} (x : h.SetOf (intKind pr w) a (fun k' => b1L.any (· == k')) 27) : ∃ o, h.get? a = some o ∧ SetLike w o := by
  obtain ⟨o, es, ep, t, ho, h1, h2, h3, h4, h5, h6, h7⟩ := x
  refine ⟨o, ho, es, ep, t, h1, h2, h3, fun k => ?_, h5, h6, h7⟩
  rw [← h4 k, b1S, List.contains_eq_any_beq]
  simp only [Bool.beq_comm]
theorem eval_s1 {w : World} {A : Around} {E : Value → Shared → Prop} {s : Shared} {c F : Addr} {mg mb : Str → Option Value} {Q : Value → Shared → Prop} {es : List Expr} {p1 p2 p3 p4 p5 p6 p7 p8 p9 p10 : Pos} {k1 k2 : Nat} (hh : A.handled = none)
    (he : intsE es = [173, 847, 6150, 6155, 6156, 6157, 8203, 8204, 8205, 8288, 65279]) (hel : es.length = 11)
    (hg : s.heap.Ns mainGlobals mg) (hb : s.heap.Ns builtinsNs mb) (hbb : ∀ x : Str, x ≠ "__name__" → mb x = bootBuiltins x) (m1 : mg "set" = none) (m2 : mg "list" = none) (m3 : mg "range" = none)
    (h : ∀ a o h₁ tk, s.heap.objs.size ≤ a → h₁.get? a = some o → SetLike w o → (∀ b o', s.heap.get? b = some o' → h₁.get? b = some o') → Q (.ref a) { s with heap := h₁, toks := tk }) :
    wpAny (model pr w) A (eval (.Call (.Name "set" p1) [.BinOp (.List es p2) .Add (.Call (.Name "list" p3) [.Call (.Name "range" p4) [.Constant (.int 65024) k1 p5, .Constant (.int 65040) k2 p6] [] p7] [] p8) p9] [] p10) (mainEnv pr c F)) Q E s := by
  have b1 : mb "set" = some (.type "set") := (hbb _ (by decide)).trans boot_set
  have b2 : mb "list" = some (.type "list") := (hbb _ (by decide)).trans (by decide +kernel)
  have b3 : mb "range" = some (.type "range") := (hbb _ (by decide)).trans boot_range
  refine Call_Name1 (name_builtin rfl hg m1 hb b1 ?_ (by decide))
  refine PyProof.Rows.callWith_type rfl (evalArgs_plain (spliced_cons ?_))
  refine wpAny_BinOp ?_
  refine List_ (spliced_ints _ _ _ (by rw [he, hel]; rfl) fun vs tk hv => ?_)
  rw [he] at hv
  have hvl : vs.length = 11 := hv.length
  refine wpAny_newList ?_ (by rw [hvl, sizeLine_eq]; decide)
  refine Call_Name1 (name_builtin (s := ⟨_, _, _, _, _⟩) rfl (hg.push _) m2 (hb.push _) b2 ?_ (by decide))
  refine PyProof.Rows.callWith_type rfl (evalArgs_plain (spliced_cons ?_))
  refine Call_Name2 (name_builtin (s := ⟨_, _, _, _, _⟩) rfl (hg.push _) m3 (hb.push _) b3 ?_ (by decide))
  refine PyProof.Rows.callWith_type rfl (evalArgs_plain (spliced_cons (wpAny_Constant_int (spliced_cons (wpAny_Constant_int (spliced_nil ?_))))))
  refine call_range_2 (spliced_nil ?_)
  refine call_list_range hh (IsRange.new _ _ _ _ _ _ _) (small_one (by decide) (by decide) (by decide) (by decide)) (n := 16) (by rw [rangeSize_one]; decide) (by decide) fun h' tk' acc' c' hk hl hacc => ?_
  have hl1 : IsL h' s.heap.objs.size vs.toArray 0 := hk _ _ (Heap.get?_push_of_some _ (Heap.get?_push_size _ rfl))
  obtain ⟨hacc1, hacc2⟩ := hacc
  refine P.add_list (s := ⟨_, _, _, _, _⟩) hl1 hl ?_ (by rw [hacc1, List.size_toArray, hvl, sizeLine_eq]; decide)
  refine spliced_nil ?_
  have hi2 : IntsAre acc'.toList ((List.range' 0 16).map fun (i : Nat) => (65024 : Int) + (i : Int)) := ints_of_items (a := 65024) 16 0 acc'.toList (by rw [Array.length_toList, hacc1]) fun j v hj => by
    obtain ⟨t, e⟩ := hacc2 j v (by rw [← Array.getElem?_toList]; exact hj)
    exact ⟨t, by rw [e, Nat.zero_add]⟩
  have hi : IntsAre (vs.toArray ++ acc').toList b1L := by
    rw [Array.toList_append]
    exact hv.append hi2
  have hsz : (vs.toArray ++ acc').size = 27 := by rw [Array.size_append, hacc1, List.size_toArray, hvl]
  refine call_set_list (l := h'.objs.size) (items := vs.toArray ++ acc') (ns := b1L) hh ⟨_, Heap.get?_push_size _ rfl, rfl, _, rfl⟩ hi (by rw [hsz]; decide) fun h2 tk2 hS hk2 => ?_
  rw [hsz, met27, b1L_len] at hS
  obtain ⟨o, ho, hs⟩ := setlike_of hS
  have keep : ∀ b o, s.heap.get? b = some o → (h'.push { cls := .type "list", data := .seq (vs.toArray ++ acc') }).get? b = some o := fun b o e =>
    Heap.get?_push_of_some _ (hk _ _ (Heap.get?_push_of_some _ (Heap.get?_push_of_some _ e)))
  have hle : s.heap.objs.size ≤ (h'.push { cls := .type "list", data := .seq (vs.toArray ++ acc') }).objs.size := by
    rw [Heap.size_push]
    have := Heap.lt_size hl1
    exact Nat.le_of_lt (Nat.lt_succ_of_lt this)
  exact h _ o h2 tk2 hle ho hs fun b o e => hk2 b o (Nat.lt_of_lt_of_le (Heap.lt_size e) hle) (keep b o e)
end Mine
end

section
open PySem PySem.W PyProof.Rows PySem.Calls PySem.Spec PyProof.V
open Sem (wp)
set_option Elab.async false
set_option maxRecDepth 100000
namespace Mine
section
variable {c Pl : Addr} {h₀ h : Heap} {mg₀ mg : Str → Option Value} {ps : Array Value} {defs : List DefItem} {consts : List (Str × PyData)} {objs : List (Str × (Obj → Prop))} {names : List Str}
theorem Mod_forget {names' : List Str} (X : Mod h₀ mg₀ c Pl h mg ps defs consts objs names) (x : Str) (hn : ∀ y ∈ names, y = x ∨ y ∈ names') (hd : ∀ d ∈ defs, d.name ∈ names') (hc : ∀ p ∈ objs, p.1 ∈ names') :
    Mod h₀ (fun y => if y = x then mg y else mg₀ y) c Pl h mg ps defs [] objs names' := by
  refine ⟨X.main, X.keep, X.made, (fun _ hp => nomatch hp), fun y hy => ?_, hd, (fun _ hp => nomatch hp), X.held, hc, X.grows, X.lowP, X.lowG, X.tabs⟩
  by_cases e : y = x
  · show mg y = if y = x then mg y else mg₀ y
    rw [if_pos e]
  · show mg y = if y = x then mg y else mg₀ y
    rw [if_neg e]
    exact X.others y fun hy' => (hn y hy').elim e hy
end
def itemOf' : Option Stmt → DefItem
  | some (.FunctionDef name params body _ _ _ scope _ _ pos) => ⟨name, params, body, scope, pos⟩
  | _ => ⟨"", ⟨[], [], none, [], [], none, []⟩, [], default, default⟩
def st (i : Nat) : Option Stmt := pr.main.body[i]?
def strOf : Expr → Str
  | .Constant (.str x) _ _ => x
  | _ => ""
def it2 : DefItem := itemOf' (st 2)
def it4 : DefItem := itemOf' (st 4)
def it6 : DefItem := itemOf' (st 6)
def it8 : DefItem := itemOf' (st 8)
def it9 : DefItem := itemOf' (st 9)
def it10 : DefItem := itemOf' (st 10)
def it11 : DefItem := itemOf' (st 11)
def it12 : DefItem := itemOf' (st 12)
def it13 : DefItem := itemOf' (st 13)
def it14 : DefItem := itemOf' (st 14)
abbrev defStmt (d : DefItem) : Stmt := .FunctionDef d.name d.params d.body [] none [] d.scope none d.name d.pos
abbrev nameStmt (i : Nat) : Stmt := .Assign [.Name "__name__" (asgN (st i))] (.Constant (.str (strOf (asgV (st i)))) (kOf (asgV (st i))) (posOf (asgV (st i)))) (asgP (st i))
def theBody (K : List (Option Expr)) (V : List Expr) (P : Pos) : List Stmt := [
  nameStmt 0,
  .Assign [.Name "b1_set" (asgN (st 1))] (.Call (.Name "set" (fposOf s1)) [.BinOp (.List (eltsOf s1b) (lposOf s1b)) .Add (.Call (.Name "list" (fposOf s1l)) [.Call (.Name "range" (fposOf s1r)) [.Constant (.int 65024) (kOf (argOf s1r)) (posOf (argOf s1r)), .Constant (.int 65040) (kOf (arg2Of s1r)) (posOf (arg2Of s1r))] [] (posOf s1r)] [] (posOf s1l)) (posOf s1b)] [] (posOf s1)) (asgP (st 1)),
  defStmt it2,
  .Assign [.Name "b3_exceptions" (asgN (st 3))] (.Dict K V P) (asgP (st 3)),
  defStmt it4,
  nameStmt 5,
  defStmt it6,
  nameStmt 7,
  defStmt it8,
  defStmt it9,
  defStmt it10,
  defStmt it11,
  defStmt it12,
  defStmt it13,
  defStmt it14]
theorem body_eq : behindTheImports pr = theBody (dictK d3) (dictV d3) (dictP d3) := rfl
end Mine
end

section
open PySem PySem.W PyProof.Rows PySem.Calls PySem.Spec PyProof.V
open Sem (wp)
set_option Elab.async false
set_option maxRecDepth 100000
namespace Mine
abbrev qIn (name : Str) : Prop := qualnameIn { scope := pr.main.scope, locals := mainGlobals, globals := mainGlobals, cells := [] } name name = name
structure DefOk (d : DefItem) : Prop where
  ex : PlainDefTree d.name d.params d.body d.scope d.pos
  free : ∀ x ∈ d.scope.names, x.2 ≠ .free
  doc : docOf d.body = none
  loc : pr.main.scope.names.lookup d.name = some .local
  qn : qIn d.name
  dflt : d.params.defaults = []
  nb : d.name ≠ "__builtins__"
theorem it2_ok : DefOk it2 := ⟨fun _ => rfl, by decide +kernel, rfl, by decide +kernel, rfl, rfl, by decide +kernel⟩
theorem it4_ok : DefOk it4 := ⟨fun _ => rfl, by decide +kernel, rfl, by decide +kernel, rfl, rfl, by decide +kernel⟩
theorem it6_ok : DefOk it6 := ⟨fun _ => rfl, by decide +kernel, rfl, by decide +kernel, rfl, rfl, by decide +kernel⟩
theorem it8_ok : DefOk it8 := ⟨fun _ => rfl, by decide +kernel, rfl, by decide +kernel, rfl, rfl, by decide +kernel⟩
theorem it9_ok : DefOk it9 := ⟨fun _ => rfl, by decide +kernel, rfl, by decide +kernel, rfl, rfl, by decide +kernel⟩
theorem it10_ok : DefOk it10 := ⟨fun _ => rfl, by decide +kernel, rfl, by decide +kernel, rfl, rfl, by decide +kernel⟩
theorem it11_ok : DefOk it11 := ⟨fun _ => rfl, by decide +kernel, rfl, by decide +kernel, rfl, rfl, by decide +kernel⟩
theorem it12_ok : DefOk it12 := ⟨fun _ => rfl, by decide +kernel, rfl, by decide +kernel, rfl, rfl, by decide +kernel⟩
theorem it13_ok : DefOk it13 := ⟨fun _ => rfl, by decide +kernel, rfl, by decide +kernel, rfl, rfl, by decide +kernel⟩
theorem it14_ok : DefOk it14 := ⟨fun _ => rfl, by decide +kernel, rfl, by decide +kernel, rfl, rfl, by decide +kernel⟩
end Mine
end

section
open PySem PySem.W PyProof.Rows PySem.Calls PySem.Spec PyProof.V
open Sem (wp)
set_option Elab.async false
set_option maxRecDepth 100000
namespace Mine
section
variable {w : World} {A : Around} {E : Value → Shared → Prop} {s : Shared} {c Pl F : Addr} {h₀ : Heap} {mg₀ mg : Str → Option Value} {ps : Array Value}
  {defs : List DefItem} {objs : List (Str × (Obj → Prop))} {names : List Str} {Q : Flow → Shared → Prop} {rest : List Stmt}
theorem step_def (d : DefItem) (K : DefOk d) (X : Mod h₀ mg₀ c Pl s.heap mg ps defs [] objs names) (hnew : d.name ∉ names) (hnf : codeAmong d.pos ps.toList = none)
    (k : ∀ h' mg' c' tk, Mod h₀ mg₀ c Pl h' mg' (ps ++ #[rawInt d.pos.line, rawInt d.pos.col, .ref c']) (d :: defs) [] objs (d.name :: names) → wpAny (model pr w) A (execs rest (mainEnv pr c F)) Q E { s with heap := h', toks := tk }) :
    wpAny (model pr w) A (execs (defStmt d :: rest) (mainEnv pr c F)) Q E s :=
  wpAny_execs_cons (Mod.def_plain X K.ex K.free K.doc K.loc K.qn hnew k K.nb rfl hnf K.dflt)
theorem step_name (i : Nat) (X : Mod h₀ mg₀ c Pl s.heap mg ps defs [] objs names) (hnew : ("__name__" : Str) ∉ names)
    (k : ∀ h' mg' mg₁ tk, (∀ x : Str, x ≠ "__name__" → mg₁ x = mg₀ x) → Mod h₀ mg₁ c Pl h' mg' ps defs [] objs names → wpAny (model pr w) A (execs rest (mainEnv pr c F)) Q E { s with heap := h', toks := tk }) :
    wpAny (model pr w) A (execs (nameStmt i :: rest) (mainEnv pr c F)) Q E s := by
  refine wpAny_execs_cons (Mod.assign (d := .str (strOf (asgV (st i)))) X rfl hnew lit_str (fun h' mg' tk Y => ?_) (by decide) rfl rfl)
  refine k h' mg' _ tk ?_ (Mod_forget Y "__name__" (fun y hy => ?_) X.dnames X.onames)
  · intro x hx
    exact if_neg hx
  · rcases List.mem_cons.mp hy with e | e
    · exact .inl e
    · exact .inr e
theorem step_set (hh : A.handled = none) {mb : Str → Option Value} (X : Mod h₀ mg₀ c Pl s.heap mg ps defs [] objs names) (hnew : ("b1_set" : Str) ∉ names) {es : List Expr} {p0 p1 p2 p3 p4 p5 p6 p7 p8 p9 p10 p11 : Pos} {k1 k2 : Nat}
    (he : intsE es = [173, 847, 6150, 6155, 6156, 6157, 8203, 8204, 8205, 8288, 65279]) (hel : es.length = 11)
    (hb : s.heap.Ns builtinsNs mb) (hbb : ∀ x : Str, x ≠ "__name__" → mb x = bootBuiltins x) (m1 : mg "set" = none) (m2 : mg "list" = none) (m3 : mg "range" = none)
    (k : ∀ h' mg' tk, Mod h₀ mg₀ c Pl h' mg' ps defs [] (("b1_set", SetLike w) :: objs) ("b1_set" :: names) → wpAny (model pr w) A (execs rest (mainEnv pr c F)) Q E { s with heap := h', toks := tk }) :
    wpAny (model pr w) A (execs ((.Assign [.Name "b1_set" p0] (.Call (.Name "set" p1) [.BinOp (.List es p2) .Add (.Call (.Name "list" p3) [.Call (.Name "range" p4) [.Constant (.int 65024) k1 p5, .Constant (.int 65040) k2 p6] [] p7] [] p8) p9] [] p10) p11) :: rest) (mainEnv pr c F)) Q E s :=
  wpAny_execs_cons (Mod.assign_obj (P := SetLike w) X rfl hnew (fun _ hq => eval_s1 hh he hel X.main.g hb hbb m1 m2 m3 hq) k (by decide) rfl rfl)
theorem step_dict (X : Mod h₀ mg₀ c Pl s.heap mg ps defs [] objs names) (hnew : ("b3_exceptions" : Str) ∉ names) {p0 p1 p2 : Pos} {K : List (Option Expr)} {V : List Expr}
    (ev : ∀ Q' : Value → Shared → Prop, (∀ a o h₁ tk, s.heap.objs.size ≤ a → h₁.get? a = some o → TabObj (intKind pr w) PyData.int b3D o → (∀ b o', s.heap.get? b = some o' → h₁.get? b = some o') → Q' (.ref a) { s with heap := h₁, toks := tk }) →
      wpAny (model pr w) A (eval (.Dict K V p2) (mainEnv pr c F)) Q' E s)
    (k : ∀ h' mg' tk, Mod h₀ mg₀ c Pl h' mg' ps defs [] (("b3_exceptions", TabObj (intKind pr w) PyData.int b3D) :: objs) ("b3_exceptions" :: names) → wpAny (model pr w) A (execs rest (mainEnv pr c F)) Q E { s with heap := h', toks := tk }) :
    wpAny (model pr w) A (execs ((.Assign [.Name "b3_exceptions" p0] (.Dict K V p2) p1) :: rest) (mainEnv pr c F)) Q E s :=
  wpAny_execs_cons (Mod.assign_obj (P := TabObj (intKind pr w) PyData.int b3D) X rfl hnew ev k (by decide) rfl rfl)
theorem hsys_of (X : Mod h₀ mg₀ c Pl s.heap mg ps defs [] objs names) : sysModules < s.heap.objs.size := Nat.lt_trans (by decide) (Nat.lt_of_lt_of_le X.lowG X.grows)
/-- the dict display, by whatever keys and values -/
def EvB3 (w : World) (K : List (Option Expr)) (V : List Expr) (p : Pos) : Prop :=
  ∀ (A : Around) (E : Value → Shared → Prop) (s : Shared) (env : Env) (Q : Value → Shared → Prop), sysModules < s.heap.objs.size →
    (∀ a o h₁ tk, s.heap.objs.size ≤ a → h₁.get? a = some o → TabObj (intKind pr w) PyData.int b3D o → (∀ b o', s.heap.get? b = some o' → h₁.get? b = some o') → Q (.ref a) { s with heap := h₁, toks := tk }) →
    wpAny (model pr w) A (eval (.Dict K V p) env) Q E s
theorem step_b3 {K : List (Option Expr)} {V : List Expr} {p2 : Pos} (ev : EvB3 w K V p2) (X : Mod h₀ mg₀ c Pl s.heap mg ps defs [] objs names) (hnew : ("b3_exceptions" : Str) ∉ names) {p0 p1 : Pos}
    (k : ∀ h' mg' tk, Mod h₀ mg₀ c Pl h' mg' ps defs [] (("b3_exceptions", TabObj (intKind pr w) PyData.int b3D) :: objs) ("b3_exceptions" :: names) → wpAny (model pr w) A (execs rest (mainEnv pr c F)) Q E { s with heap := h', toks := tk }) :
    wpAny (model pr w) A (execs ((.Assign [.Name "b3_exceptions" p0] (.Dict K V p2) p1) :: rest) (mainEnv pr c F)) Q E s :=
  step_dict X hnew (fun Q' hq => ev A E s (mainEnv pr c F) Q' (hsys_of X) hq) k
end
theorem evB3 (w : World) : EvB3 w (dictK d3) (dictV d3) (dictP d3) := fun A E s env Q a b => @eval_b3 w A E s env Q a b
end Mine
end

section
open PySem PySem.W PyProof.Rows PySem.Calls PySem.Spec PyProof.V
open Sem (wp)
set_option Elab.async false
set_option maxRecDepth 100000
namespace Mine
def flat : List (Pos × Addr) → List Value
  | [] => []
  | p :: r => rawInt p.1.line :: rawInt p.1.col :: .ref p.2 :: flat r
theorem flat_app : ∀ (L : List (Pos × Addr)) (p : Pos) (c : Addr), flat (L ++ [(p, c)]) = flat L ++ [rawInt p.line, rawInt p.col, .ref c]
  | [], p, c => rfl
  | x :: L, p, c => by simp only [List.cons_append, flat, flat_app L p c]
theorem among_none (pos : Pos) : ∀ (L : List (Pos × Addr)), (L.all fun p => !(p.1.line == pos.line && p.1.col == pos.col)) = true → codeAmong pos (flat L) = none
  | [], _ => rfl
  | x :: L, h => by
    simp only [List.all_cons, Bool.and_eq_true, Bool.not_eq_true'] at h
    have e : (((x.1.line : Int) == (pos.line : Int)) && ((x.1.col : Int) == (pos.col : Int))) = false := by
      rw [← h.1]
      congr 1 <;> (rw [Bool.eq_iff_iff, beq_iff_eq, beq_iff_eq]; omega)
    show (if (((x.1.line : Int) == (pos.line : Int)) && ((x.1.col : Int) == (pos.col : Int))) = true then _ else _) = none
    rw [e]
    exact among_none pos L h.2
section
variable {w : World} {A : Around} {E : Value → Shared → Prop} {s : Shared} {c Pl F : Addr} {h₀ : Heap} {mg₀ mg : Str → Option Value} {ps : Array Value}
  {defs : List DefItem} {objs : List (Str × (Obj → Prop))} {names : List Str} {Q : Flow → Shared → Prop} {rest : List Stmt}
theorem step_def' (d : DefItem) (K : DefOk d) (L : List (Pos × Addr)) (Lp : List Pos) (hp : L.map (·.1) = Lp) (X : Mod h₀ mg₀ c Pl s.heap mg ps defs [] objs names) (hL : ps.toList = flat L) (hnew : d.name ∉ names) (hnf : (Lp.all fun p => !(p.line == d.pos.line && p.col == d.pos.col)) = true)
    (k : ∀ h' mg' c' tk ps', ps'.toList = flat (L ++ [(d.pos, c')]) → Mod h₀ mg₀ c Pl h' mg' ps' (d :: defs) [] objs (d.name :: names) → wpAny (model pr w) A (execs rest (mainEnv pr c F)) Q E { s with heap := h', toks := tk }) :
    wpAny (model pr w) A (execs (defStmt d :: rest) (mainEnv pr c F)) Q E s :=
  step_def d K X hnew (by rw [hL]; exact among_none _ _ (by rw [← hp, List.all_map] at hnf; exact hnf)) fun h' mg' c' tk Y => k h' mg' c' tk _ (by rw [Array.toList_append, hL, flat_app]) Y
end
abbrev theDefs : List DefItem := [it14, it13, it12, it11, it10, it9, it8, it6, it4, it2]
abbrev theObjs (w : World) : List (Str × (Obj → Prop)) := [("b3_exceptions", TabObj (intKind pr w) PyData.int b3D), ("b1_set", SetLike w)]
abbrev theNames : List Str := [it14.name, it13.name, it12.name, it11.name, it10.name, it9.name, it8.name, it6.name, it4.name, "b3_exceptions", it2.name, "b1_set"]
set_option maxHeartbeats 400000 in
theorem walk_top {w : World} {K : List (Option Expr)} {V : List Expr} {P : Pos} (ev : EvB3 w K V P) {A : Around} {s : Shared} {c Pl F : Addr} {mg₀ mb : Str → Option Value} {E : Value → Shared → Prop} {Q : Flow → Shared → Prop} (hh : A.handled = none) (hP : builtinsNs ≠ Pl)
    (X : Mod s.heap mg₀ c Pl s.heap mg₀ #[] [] [] [] []) (hb : s.heap.Ns builtinsNs mb) (hbb : ∀ x : Str, x ≠ "__name__" → mb x = bootBuiltins x) (m1 : mg₀ "set" = none) (m2 : mg₀ "list" = none) (m3 : mg₀ "range" = none)
    (k : ∀ h' mg' mg₁ ps' tk, (∀ x : Str, x ≠ "__name__" → mg₁ x = mg₀ x) → Mod s.heap mg₁ c Pl h' mg' ps' theDefs [] (theObjs w) theNames → Q .next { s with heap := h', toks := tk }) :
    wpAny (model pr w) A (execs (theBody K V P) (mainEnv pr c F)) Q E s := by
  rw [theBody]
  refine step_name 0 X (by decide +kernel) fun h0 mg0 mz0 t0 hz0 X => ?_
  refine step_set hh X (by decide +kernel) s1_ints.1 s1_ints.2 (mb := mb) (hb.at fun o => X.keep _ o hP (by decide)) hbb ((X.others _ (by decide +kernel)).trans ((hz0 _ (by decide +kernel)).trans m1)) ((X.others _ (by decide +kernel)).trans ((hz0 _ (by decide +kernel)).trans m2)) ((X.others _ (by decide +kernel)).trans ((hz0 _ (by decide +kernel)).trans m3)) fun h1 mg1 t1 X => ?_
  refine step_def' it2 it2_ok [] [] rfl X rfl (by decide +kernel) (by decide +kernel) fun h2 mg2 c2 t2 ps2 hL2 X => ?_
  refine step_b3 ev X (by decide +kernel) fun h3 mg3 t3 X => ?_
  refine step_def' it4 it4_ok [(it2.pos, c2)] [it2.pos] rfl X hL2 (by decide +kernel) (by decide +kernel) fun h4 mg4 c4 t4 ps4 hL4 X => ?_
  refine step_name 5 X (by decide +kernel) fun h5 mg5 mz5 t5 hz5 X => ?_
  refine step_def' it6 it6_ok [(it2.pos, c2), (it4.pos, c4)] [it2.pos, it4.pos] rfl X hL4 (by decide +kernel) (by decide +kernel) fun h6 mg6 c6 t6 ps6 hL6 X => ?_
  refine step_name 7 X (by decide +kernel) fun h7 mg7 mz7 t7 hz7 X => ?_
  refine step_def' it8 it8_ok [(it2.pos, c2), (it4.pos, c4), (it6.pos, c6)] [it2.pos, it4.pos, it6.pos] rfl X hL6 (by decide +kernel) (by decide +kernel) fun h8 mg8 c8 t8 ps8 hL8 X => ?_
  refine step_def' it9 it9_ok [(it2.pos, c2), (it4.pos, c4), (it6.pos, c6), (it8.pos, c8)] [it2.pos, it4.pos, it6.pos, it8.pos] rfl X hL8 (by decide +kernel) (by decide +kernel) fun h9 mg9 c9 t9 ps9 hL9 X => ?_
  refine step_def' it10 it10_ok [(it2.pos, c2), (it4.pos, c4), (it6.pos, c6), (it8.pos, c8), (it9.pos, c9)] [it2.pos, it4.pos, it6.pos, it8.pos, it9.pos] rfl X hL9 (by decide +kernel) (by decide +kernel) fun h10 mg10 c10 t10 ps10 hL10 X => ?_
  refine step_def' it11 it11_ok [(it2.pos, c2), (it4.pos, c4), (it6.pos, c6), (it8.pos, c8), (it9.pos, c9), (it10.pos, c10)] [it2.pos, it4.pos, it6.pos, it8.pos, it9.pos, it10.pos] rfl X hL10 (by decide +kernel) (by decide +kernel) fun h11 mg11 c11 t11 ps11 hL11 X => ?_
  refine step_def' it12 it12_ok [(it2.pos, c2), (it4.pos, c4), (it6.pos, c6), (it8.pos, c8), (it9.pos, c9), (it10.pos, c10), (it11.pos, c11)] [it2.pos, it4.pos, it6.pos, it8.pos, it9.pos, it10.pos, it11.pos] rfl X hL11 (by decide +kernel) (by decide +kernel) fun h12 mg12 c12 t12 ps12 hL12 X => ?_
  refine step_def' it13 it13_ok [(it2.pos, c2), (it4.pos, c4), (it6.pos, c6), (it8.pos, c8), (it9.pos, c9), (it10.pos, c10), (it11.pos, c11), (it12.pos, c12)] [it2.pos, it4.pos, it6.pos, it8.pos, it9.pos, it10.pos, it11.pos, it12.pos] rfl X hL12 (by decide +kernel) (by decide +kernel) fun h13 mg13 c13 t13 ps13 hL13 X => ?_
  refine step_def' it14 it14_ok [(it2.pos, c2), (it4.pos, c4), (it6.pos, c6), (it8.pos, c8), (it9.pos, c9), (it10.pos, c10), (it11.pos, c11), (it12.pos, c12), (it13.pos, c13)] [it2.pos, it4.pos, it6.pos, it8.pos, it9.pos, it10.pos, it11.pos, it12.pos, it13.pos] rfl X hL13 (by decide +kernel) (by decide +kernel) fun h14 mg14 c14 t14 ps14 hL14 X => ?_
  refine wpAny_execs_nil (k _ _ _ _ _ (fun x hx => ?_) X)
  rw [hz7 x hx, hz5 x hx, hz0 x hx]
end Mine
end

section
open PySem PySem.W PyProof.Rows PySem.Calls PySem.Spec PyProof.V
open Sem (wp)
set_option Elab.async false
set_option maxRecDepth 100000
namespace Mine
/-- what the top leaves -/
structure Left (w : World) (s : Shared) (mb mg : Str → Option Value) (s' : Shared) : Prop where
  ex : ∃ (h₀ h' : Heap) (c Pl : Addr) (mg₁ mg' : Str → Option Value) (ps : Array Value) (tk : Nat), s' = { s with heap := h', toks := tk } ∧ (∀ b o, s.heap.get? b = some o → h₀.get? b = some o) ∧ s.heap.objs.size ≤ Pl ∧
    (∀ x : Str, x ≠ "__name__" → mg₁ x = mg x) ∧ Mod h₀ mg₁ c Pl h' mg' ps theDefs [] (theObjs w) theNames
theorem no_ann (K : List (Option Expr)) (V : List Expr) (P : Pos) : hasAnns (theBody K V P) = false := rfl
theorem no_doc (K : List (Option Expr)) (V : List Expr) (P : Pos) : docOf (theBody K V P) = none := rfl
theorem top_gen {w : World} {s : Shared} {mb mg : Str → Option Value} {c Pl : Addr} (K : Booted s mb mg c Pl) {Kk : List (Option Expr)} {V : List Expr} {P : Pos} (ev : EvB3 w Kk V P) :
    wpAny (model pr w) callerA (do
      let code ← moduleCode pr.main
      let frame ← newBodyFrame code mainNs mainNs
      let _ ← run (.body (theBody Kk V P) { scope := pr.main.scope, locals := mainNs, globals := mainNs, cells := [], code, frame := some frame })
      ret .none) (fun fin s' => (∃ f, fin = .done f) ∧ Left w s mb mg s' ∧ s'.gens = #[]) (fun _ _ => False) s := by
  have B := K.B
  refine wpAny_bind (wpAny_moduleCode fun c' Pl' h₁ tk₁ hk hc hP hcode => ?_)
  unfold newBodyFrame
  refine wpAny_bind (wpAny_bind (wpAny_nsGet (B.g.keeps hk) (wpAny_alloc ?_)))
  have hglt := B.g.lt
  have hblt := B.b.lt
  refine wpAny_bind (wpAny_run (codeAny_body (no_ann _ _ _) (no_doc _ _ _) ?_))
  obtain ⟨bm, o, e1, e2, e3, e4, e5, e6⟩ := B.bmod
  refine walk_top (mg₀ := mg) (mb := mb) ev rfl (Nat.ne_of_lt (Nat.lt_of_lt_of_le hblt hP)) ?_ ((B.b.keeps hk).push _) B.builtins (B.others _ (by decide)) (B.others _ (by decide)) (B.others _ (by decide)) ?_
  · refine ⟨⟨(B.g.keeps hk).push _, hcode.push _, ⟨Nat.lt_of_lt_of_le hglt hc, Nat.lt_of_lt_of_le hglt hP⟩, bm, o, e1, e2, e3, Nat.ne_of_lt (Nat.lt_of_lt_of_le (Heap.lt_size e5) hP), Heap.get?_push_of_some _ (hk _ _ e5), e6⟩,
      fun _ _ _ _ e => e, (fun _ hd => nomatch hd), (fun _ hp => nomatch hp), fun _ _ => rfl, (fun _ hd => nomatch hd), (fun _ hp => nomatch hp), (fun _ hp => nomatch hp), (fun _ hp => nomatch hp), Nat.le_refl _, ?_, ?_, (fun _ hd => nomatch hd)⟩
    · exact (hcode.push _).lt.2
    · exact ((B.g.keeps hk).push _).lt
  · intro h' mg' mg₁ ps' tk hz X
    exact wpAny_pure ⟨⟨_, rfl⟩, ⟨_, h', c', Pl', mg₁, mg', ps', tk, rfl, fun b o e => Heap.get?_push_of_some _ (hk b o e), hP, hz, X⟩, K.gens⟩
end Mine
end

section
open PySem PySem.W PyProof.Rows PySem.Calls PySem.Spec PyProof.V
open Sem (wp)
set_option Elab.async false
set_option maxRecDepth 100000
namespace Mine
def stubT (K : List (Option Expr)) (V : List Expr) (P : Pos) : Sem Fin := do
      let code ← moduleCode pr.main
      let frame ← newBodyFrame code mainNs mainNs
      let _ ← run (.body (theBody K V P) { scope := pr.main.scope, locals := mainNs, globals := mainNs, cells := [], code, frame := some frame })
      ret .none
theorem stub_eq : topStub pr = ⟨stubT (dictK d3) (dictV d3) (dictP d3), .builtin "claim.caller" {}, default, []⟩ := by
  unfold topStub stubT
  rw [body_eq]
theorem names_bound : ∀ x ∈ theNames, x ∈ pr.boundNames := by decide +kernel
theorem laid_apart : ∀ x ∈ laidNames, x ∉ theNames ∧ x ≠ "__name__" := by decide +kernel
theorem boot_startup : ∀ x ∈ bootMainNames, x ∈ startupNames := by decide +kernel
theorem no_imports : importedModules pr.main.body = [] := by decide +kernel
theorem Left.keeps {w : World} {s s' : Shared} {mb mg : Str → Option Value} (L : Left w s mb mg s') : ∀ b o, b ≠ mainGlobals → s.heap.get? b = some o → s'.heap.get? b = some o := by
  obtain ⟨h₀, h', c, Pl, mg₁, mg', ps, tk, rfl, hk, hP, hz, X⟩ := L.ex
  intro b o hb e
  exact X.keep b o (Nat.ne_of_lt (Nat.lt_of_lt_of_le (Heap.lt_size e) hP)) hb (hk b o e)
theorem top_ran {w : World} {s s₁ : Shared} {mb mg : Str → Option Value} {c Pl : Addr} (K : Booted s mb mg c Pl) (L : Left w s mb mg s₁) (hg : s₁.gens = #[]) (hl : s₁.heap.life = s.heap.life)
    (hr : ∃ n t, schedN (denote table) pr w n (.single s (topStub pr)) = .running (.single s₁ t) ∧ through t = true) : TopRan pr w s s₁ := by
  have keep := L.keeps
  obtain ⟨h₀, h', c', Pl', mg₁, mg', ps, tk, rfl, hk, hP, hz, X⟩ := L.ex
  have B := K.B
  have hst : h'.Ns cStatics (fun _ => none) := B.statics.at fun o => keep _ o (by decide)
  have hbu : h'.Ns builtinsNs mb := B.b.at fun o => keep _ o (by decide)
  have hgl : ∀ x, globalOf h' x = mg' x := fun x => PySem.Claim2Try.globalOf_of_ns X.main.g x
  refine ⟨hr, hl, Shared.rest_eq rfl, fun b o e hn => keep b o (fun q => hn (.inl q)) e, ?_, fun key => .inl ?_, Pin.keysAreStrs_of_ns X.main.g, fun x hx => (Pin.builtinOf_of_ns hbu x).trans (B.builtins x hx), ?_, ?_, ?_, ?_⟩
  · intro key v hv
    rw [Pin.staticOf_of_ns hst key] at hv
    cases hv
  · rw [Pin.staticOf_of_ns hst key, Pin.staticOf_of_ns B.statics key]
  · obtain ⟨bm, o, h1, h2, h3, h4, h5, h6, h7, h8⟩ := X.main.bmod
    exact ⟨bm, o, (hgl _).trans h1, h5, h6, h7⟩
  · intro g hgm
    rw [hg] at hgm
    simp at hgm
  · intro x v hv
    rw [hgl] at hv
    by_cases hx : x ∈ theNames
    · exact .inr (names_bound x hx)
    · rw [X.others x hx] at hv
      by_cases hn : x = "__name__"
      · rw [hn]; exact .inl (by decide)
      · rw [hz x hn] at hv
        by_cases hb : x ∈ bootMainNames
        · exact .inl (boot_startup x hb)
        · rw [B.others x hb] at hv; cases hv
  · intro x hx
    obtain ⟨h1, h2⟩ := laid_apart x hx
    rw [hgl, PySem.Claim2Try.globalOf_of_ns B.g, X.others x h1, hz x h2]
theorem there_gen {w : World} {s : Shared} {mb mg : Str → Option Value} {c Pl : Addr} (K : Booted s mb mg c Pl) (hz : s.asleep) {Kk : List (Option Expr)} {V : List Expr} {P : Pos} (ev : EvB3 w Kk V P)
    (he : topStub pr = ⟨stubT Kk V P, .builtin "claim.caller" {}, default, []⟩) :
    ∃ s₁, TopRan pr w s s₁ ∧ Left w s mb mg s₁ ∧ s₁.gens = #[] ∧ s₁.asleep := by
  have h := top_gen K ev
  obtain ⟨n, s₁, t₁, h1, h2, h3, h4, h5⟩ := reach_top (t := stubT Kk V P) (R := Left w s mb mg) hz (h _ default caller_in)
  exact ⟨s₁, top_ran K h4 h5 h3 ⟨n, t₁, by rw [he]; exact h1, h2⟩, h4, h5, Shared.asleep_of_life h3 hz⟩
theorem top_there {w : World} {s : Shared} {mb mg : Str → Option Value} {c Pl : Addr} (K : Booted s mb mg c Pl) (hz : s.asleep) :
    ∃ s₁, TopRan pr w s s₁ ∧ Left w s mb mg s₁ ∧ s₁.gens = #[] ∧ s₁.asleep :=
  @there_gen w s mb mg c Pl K hz (dictK d3) (dictV d3) (dictP d3) (@evB3 w) stub_eq
end Mine
end

section
open PySem PySem.W PyProof.Rows PySem.Calls PySem.Spec PyProof.V
open Sem (wp)
set_option Elab.async false
set_option maxRecDepth 100000
namespace Mine
def recOf (d : DefItem) : DefRec := ⟨d.name, d.params, d.body, d.scope, d.pos⟩
theorem recs_eq : recsOf q = theDefs.reverse.map recOf := rfl
theorem owns_eq : ownsOf q = [] := by decide +kernel
theorem lits_eq : litsOf q = [] := by decide +kernel
theorem names_free : ∀ x ∈ theNames, x ∈ looseW q loose ∨ x ∈ (recsOf q).map (·.name) := by decide +kernel
theorem defs_plain : ∀ d ∈ theDefs, d.params.defaults = [] := by
  intro d hd
  simp only [theDefs, List.mem_cons, List.not_mem_nil, or_false] at hd
  rcases hd with rfl | rfl | rfl | rfl | rfl | rfl | rfl | rfl | rfl | rfl <;> rfl
theorem no_vals (x : Str) : valOf q x = none := rfl
theorem setlike_at {w : World} {h : Heap} {a : Addr} {o : Obj} (ho : h.get? a = some o) (x : SetLike w o) : h.SetOf (intKind pr w) a b1S 27 := by
  obtain ⟨es, ep, t, h1, h2, h3, h4, h5, h6, h7⟩ := x
  exact ⟨o, es, ep, t, ho, h1, h2, h3, h4, h5, h6, h7⟩
theorem gd_of {w : World} {s s₁ : Shared} {mb mg : Str → Option Value} {c Pl : Addr} (K : Booted s mb mg c Pl) (L : Left w s mb mg s₁) :
    ∃ mg', s₁.heap.Ns mainGlobals mg' ∧ (∀ mean, Gd w mean mg' mb s₁.heap) ∧ (∀ d ∈ theDefs, ∃ N, d.Made N mg' s₁.heap) := by
  have keep := L.keeps
  obtain ⟨h₀, h', c', Pl', mg₁, mg', ps, tk, rfl, hk, hP, hz, X⟩ := L.ex
  have B := K.B
  have hst : h'.Ns cStatics (fun _ => none) := B.statics.at fun o => keep _ o (by decide)
  have hbu : h'.Ns builtinsNs mb := B.b.at fun o => keep _ o (by decide)
  have hin : ∀ d ∈ recsOf q, ∃ e ∈ theDefs, recOf e = d := by
    rw [recs_eq]
    intro d hd
    obtain ⟨e, he, rfl⟩ := List.mem_map.mp hd
    exact ⟨e, List.mem_reverse.mp he, rfl⟩
  refine ⟨mg', X.main.g, fun mean => ⟨?_, ?_, ?_⟩, fun d hd => ⟨_, X.made d hd⟩⟩
  · refine {
      g := X.main.g
      b := hbu
      nolimit := Heap.NoLimit.at ⟨_, B.statics, rfl⟩ fun o => keep _ o (by decide)
      nodigits := ⟨_, hst, rfl⟩
      fn := ?_
      own := ?_
      const := ?_
      free := ?_
      builtins := B.builtins
      tab := ?_
      bmain := ?_
      seer := ?_ }
    · intro d hd
      obtain ⟨e, he, rfl⟩ := hin d hd
      obtain ⟨a, c', o, pm, doc, h1, h2, h3, h4, h5, h6⟩ := (X.made e he).plain (defs_plain e he)
      exact ⟨a, o, pm, _, doc, h3, h4, h5, h6⟩
    · intro o ho
      rw [owns_eq] at ho
      simp at ho
    · intro x d hx
      rw [no_vals] at hx
      cases hx
    · intro x h1 h2 h3 _ _
      have hx : x ∉ theNames := fun h => (names_free x h).elim h2 h3
      have hn : x ≠ "__name__" := by rintro rfl; exact h1 (by decide)
      rw [X.others x hx, hz x hn]
      exact B.others x h1
    · intro d hd
      obtain ⟨e, he, rfl⟩ := hin d hd
      obtain ⟨a, o, fd, c', P', h1, h2, h3, h4, _, _, _, h5, h6⟩ := X.tabs e he
      exact ⟨a, o, fd, c', P', h1, h2, h3, h4, h5, h6⟩
    · obtain ⟨bm, o, hbm, hne0, _, _, hbo, r⟩ := X.main.bmod
      exact ⟨bm, o, hbm, hne0, hbo, r⟩
    · intro _
      refine ⟨⟨_, hst, rfl, rfl⟩, ?_, ⟨mb, hbu, B.builtins⟩, ?_⟩
      · obtain ⟨mm, hm, hp⟩ := B.noPylong
        exact ⟨mm, hm.at fun o => keep _ o (by decide), hp⟩
      · obtain ⟨bm, o, hbm, _, _, _, hbo, h1, h2, _⟩ := X.main.bmod
        exact ⟨mg', bm, o, X.main.g, hbm, hbo, h1, h2⟩
  · obtain ⟨a, o, hN, hb, ho, hq⟩ := X.held ("b1_set", SetLike w) (by simp)
    exact ⟨a, hb, setlike_at ho hq⟩
  · obtain ⟨a, o, hN, hb, ho, kvs, hq, hf⟩ := X.held ("b3_exceptions", TabObj (intKind pr w) PyData.int b3D) (by simp)
    exact ⟨a, hb, TabAt.ofObj (beq_eq_false_iff_ne.mpr (Nat.ne_of_gt (Nat.lt_trans (by decide) (Nat.lt_of_lt_of_le X.lowG hN)))) ho hq hf⟩
end Mine
end

section
open PySem PySem.W PyProof.Rows PySem.Calls PySem.Spec PyProof.V
open Sem (wp)
set_option Elab.async false
set_option maxRecDepth 100000
namespace Mine
abbrev R0 : RowW := PySem.Challenge.rw_ph0136_01.row.toRowW
theorem pre_ints {args : List WData} (h : R0.claim.pre args = true) : ∃ ns : List Int, args = [.list (ns.map .int)] ∧ ns.length ≤ 63 := by
  obtain ⟨h1, h2⟩ := pre_splitW h
  obtain ⟨d, r, rfl, hd, hr⟩ := hasAllW_cons (e := .list .int) (es := []) h1
  obtain ⟨xs, rfl, hi⟩ := hasW_list hd
  obtain ⟨ns, rfl⟩ := items_int hi
  cases r with
  | cons a b => cases hr
  | nil =>
    refine ⟨ns, rfl, ?_⟩
    by_cases hn : ns.length ≤ 63
    · exact hn
    · have hlt : (63 : Int) < (ns.length : Int) := by omega
      have h3 : WTm.holds [] (.and (.not (.lt (.lit (.int 63)) (.len (.arg 0)))) (.lit (.bool true))) { args := [.list (ns.map .int)] } = true := h2
      exfalso
      simp [WTm.holds, WTm.value, PySem.W.less?] at h3
      have e : PySem.W.Num.less? (.int 63) (.int (ns.length : Int)) = some true := by simp [PySem.W.Num.less?]; omega
      rw [e] at h3
      cases h3
theorem post_true (args : List WData) : R0.claim.post args (.bool true) args = true := by
  show (WShape.has [] (.bool true) .bool && WTm.holds [] (.eq .res (.lit (.bool true))) { args := args, res := some (.bool true), after := args }) = true
  simp [WTm.holds, WTm.value, PySem.W.same, WShape.has, WShape.arms]
theorem no_raises (args : List WData) (cls) : R0.claim.raises args cls = false := rfl
/-- the heap of a laid list of ints -/
theorem laid_ints {cl : Str → Option Addr} {h : Heap} {vs : List Value} {ns : List Int} {as : List Addr} (x : ReadsAllW [] cl h vs [.list (ns.map .int)] as) : ∃ l its, vs = [.ref l] ∧ h.IsList l its.toArray ∧ IntsAre its ns := by
  cases x with
  | cons a b =>
    cases b
    cases a with
    | list h1 h2 h3 h4 =>
      rename_i l o vs' n as'
      refine ⟨l, vs'.toList, rfl, ⟨o, h1, h2, n, by simpa using h3⟩, ?_⟩
      clear h1 h2 h3
      generalize vs'.toList = us at h4
      clear vs'
      induction ns generalizing us as' with
      | nil => cases h4; exact .nil
      | cons n ns ih =>
        rw [List.map_cons] at h4
        cases h4 with
        | cons c d =>
          cases c
          exact .cons _ _ (ih _ d)
end Mine
end

section
open PySem PySem.W PyProof.Rows PySem.Calls PySem.Spec PyProof.V
open Sem (wp)
set_option Elab.async false
set_option maxRecDepth 100000
namespace Mine
theorem clean0 : Clean ⟨.builtin "claim.caller" {}, none, none, [], none⟩ := ⟨by decide +kernel, fun x hx => by cases hx⟩
theorem call_from {w : World} {s : Shared} {mg mb : Str → Option Value} {f : Addr} (hz : s.asleep) (hgens : s.gens = #[]) (hg : s.heap.Ns mainGlobals mg) (G : ∀ mean, Gd w mean mg mb s.heap) (hf : mg (Str.ofString "law") = some (.ref f))
    {free : Addr → Prop} {gens : Prop} {kept : Heap → Prop} (hkept : ∀ h', kept h') : R0.claim.CallFrom (callStub (Str.ofString "law")) w free gens kept s := by
  intro args hpre hlay ord hord
  have hpre' := hpre
  obtain ⟨ns, rfl, hn⟩ := pre_ints hpre
  obtain ⟨⟨vs, s₁⟩, hlaid⟩ := Option.isSome_iff_exists.mp (layAllW_isSome (R := R0.records) (cl := classAt s.heap) (P := w.params) (ord := ord) (fun c hc => by cases hc) _ R0.args s (pre_splitW hpre').1)
  have keeps := layAllW_keeps _ _ _ hlaid
  have hal := layAllW_rest _ _ _ hlaid
  obtain ⟨as, hrd, hin, hold⟩ := reads_layAllW hord _ _ _ hlaid hlay s₁.heap (fun _ _ e => e)
  have L : Laid R0.records w s s₁ _ vs as := ⟨⟨ord, hord, hlaid⟩, hrd, hin, hold, keeps, hal.1.trans hgens, hal.2.2.1⟩
  obtain ⟨l, its, rfl, hl, hi⟩ := laid_ints hrd
  have hcall : wpP Clean (model pr w) callerA (call (.ref f) [.ref l]) (fun v s' => v = .bool true ∧ (∀ b o, s₁.heap.get? b = some o → s'.heap.get? b = some o) ∧ s'.os = s₁.os ∧ s'.gens = #[]) (fun _ _ => False) s₁ :=
    law_runs ((G (ExcName.means s.heap)).keeps keeps) hf hl hi hn fun h' tk' hk => ⟨rfl, hk, rfl, L.gens⟩
  have hstub : wpP Clean (model pr w) callerA (callStub (Str.ofString "law") [.ref l]).cur (fun fin s' => fin = .done (.ret (.bool true)) ∧ (∀ b o, s₁.heap.get? b = some o → s'.heap.get? b = some o) ∧ s'.os = s₁.os ∧ s'.gens = #[]) (fun _ _ => False) s₁ := by
    show wpP Clean _ _ (nsGet mainNs _ >>= _) _ _ _
    refine wpP_bind (wpP_of (wpAny_nsGet (hg.keeps keeps) ?_))
    rw [hf]
    refine wpP_bind (wpP_mono hcall (fun v s' h => ?_) fun _ _ x => x)
    obtain ⟨rfl, h⟩ := h
    exact wpP_pure ⟨rfl, h⟩
  obtain ⟨n, r, s', s'', hs, hn', hfo, rfl, hkp, hos, hgn⟩ := wp_halts_full (M := model pr w) (c := .builtin "claim.caller" {}) (p := default) (t := (callStub (Str.ofString "law") [.ref l]).cur)
    (R := fun r s' => r = .ok (.ret (.bool true)) ∧ (∀ b o, s₁.heap.get? b = some o → s'.heap.get? b = some o) ∧ s'.os = s₁.os ∧ s'.gens = #[]) (Shared.asleep_of_life hal.2.2.2 hz) (by
      refine Sem.wp_mono _ _ _ (fun fin p s' h' => ?_) (fun _ _ _ x => x.elim) _ _ (hstub _ default caller_in clean0)
      obtain ⟨rfl, h1, h2, h3⟩ := h'
      exact ⟨⟨rfl, h1, h2, h3⟩, by rw [h3]; simp [leftWithCleanup]⟩)
  have g : GoodWG R0.claim (classAt s.heap) (ExcName.means s.heap) [.list (ns.map .int)] s₁ (.ok (.ret (.bool true))) s' :=
    ⟨.inl ⟨.bool true, .bool true, [], rfl, no_raises _, .bool true, post_true _, fun _ => ⟨List.nodup_nil, fun _ h => by cases h⟩⟩, .of_keep hkp, hos, .of_eq hgn⟩
  have hid : ∀ a b, R0.claim.ident a b = true := ident_freeW rfl rfl rfl
  have E := (g.laid (c := R0.claim) rfl rfl hid L).1
  obtain ⟨eh, _, _, eo, _⟩ := Shared.forget_eq hfo
  have E := E.congr eh
  have hlife : s''.heap.life = s.heap.life := (runN_life _ _ _ hn').trans hal.2.2.2
  refine ⟨_, s₁, hlaid, n, _, s'', hs, ?_, (fun _ i x hx => by rw [hgens] at hx; simp at hx), hkept _, by rw [hlife], Shared.rest_eq (eo.trans (hos.trans hal.2.2.1))⟩
  rcases E with ⟨v, e1, d1, d2, d3, d4, d5⟩ | ⟨e, ob, cls, e1, _⟩
  · cases e1
    exact .inl ⟨_, rfl, d1, d2, d3, fun b o y _ => d4 b o y, d5⟩
  · cases e1
end Mine
end

section
open PySem PySem.W PyProof.Rows PySem.Calls
set_option Elab.async false
set_option maxRecDepth 100000
namespace Mine
theorem law_there : pr.theDef (Str.ofString "law") = some (it14.params, it14.body, it14.scope) := rfl
theorem law_name : it14.name = Str.ofString "law" := by decide +kernel
theorem law_dflt : it14.params.defaults = [] := rfl
theorem law_kw : kwWritten? it14.params.kwonlyargs it14.params.kw_defaults = some [] := rfl
theorem pinned {s₁ : Shared} {mg' : Str → Option Value} (hg : s₁.heap.Ns mainGlobals mg') {N : Nat} (M : it14.Made N mg' s₁.heap) : isTheDefsW pr s₁.heap (Str.ofString "law") := by
  obtain ⟨a, c', o, pm, doc, h1, h2, h3, h4, h5, h6⟩ := M.plain law_dflt
  rw [law_name] at h3
  exact ⟨a, o, _, it14.params, it14.body, it14.scope, (PySem.Claim2Try.globalOf_of_ns hg _).trans h3, h4, h5, law_there, law_name, law_name, rfl, rfl, rfl, rfl, rfl, rfl, .inl ⟨law_dflt, rfl⟩, [], law_kw, .inl ⟨rfl, rfl⟩⟩
theorem behind {w : World} {s : Shared} (hs : AfterImport (opening pr) w s) :
    s.gens = #[] ∧ ∃ s₁, TopRan pr w s s₁ ∧ isTheDefsW pr s₁.heap (Str.ofString "law") ∧
      ∀ (free : Addr → Prop) (gens : Prop) (kept : Heap → Prop), (∀ h', kept h') → R0.claim.CallFrom (callStub (Str.ofString "law")) w free gens kept s₁ := by
  obtain ⟨mb, mg, c, Pl, K⟩ := (opened w).2 s hs
  obtain ⟨s₁, hT, L, hg, hz⟩ := top_there K hs.life
  obtain ⟨mg', hn, G, hm⟩ := gd_of K L
  obtain ⟨N, M⟩ := hm it14 (by simp)
  refine ⟨K.gens, s₁, hT, pinned hn M, fun free gens kept hk => ?_⟩
  obtain ⟨a, c', o, pm, doc, h1, h2, h3, h4, h5, h6⟩ := M.plain law_dflt
  rw [law_name] at h3
  exact call_from hz hg hn G h3 hk
theorem both {a b : Bool} (ha : a = true) (hb : b = true) : (a && b) = true := by rw [ha, hb]; rfl
set_option maxHeartbeats 0 in
theorem said_part : OpenRow.partSaid PySem.Challenge.rw_ph0136_01.row = true := by
  unfold OpenRow.partSaid looksOpen
  repeat' (with_reducible refine both ?_ ?_)
  all_goals decide +kernel
set_option maxHeartbeats 0 in
theorem said_row : OpenRow.wellSaid PySem.Challenge.rw_ph0136_01.row = true := by
  unfold OpenRow.wellSaid
  refine both (both said_part ?_) ?_
  all_goals decide +kernel
set_option maxHeartbeats 0 in
theorem said_law : OpenLaw.wellSaid PySem.Challenge.rw_ph0136_01 = true := by
  unfold OpenLaw.wellSaid
  repeat' (with_reducible first | exact said_row | refine both ?_ ?_)
  all_goals decide +kernel
theorem kept_promise : PySem.Challenge.rw_ph0136_01.row.promised := by w_witness2
end Mine
end

open PySem PySem.W PyProof.Rows PySem.Calls
set_option maxRecDepth 100000
set_option maxHeartbeats 0 in
theorem PySem.Challenge.cw_ph0136_01_holds : PySem.Challenge.rw_ph0136_01.Holds := by
  refine ⟨Mine.said_law, Mine.said_row, ?promised, ⟨?bare, ?opensWell, ?makers⟩, ?witness, fun w => ⟨?exAfterRun, fun s hs => ?_⟩⟩
  case promised => exact Mine.kept_promise
  case bare => exact ⟨rfl, rfl, rfl, rfl, rfl, by decide +kernel⟩
  case opensWell => decide +kernel
  case makers => rfl
  case witness => exact Mine.kept_promise.witness
  case exAfterRun => exact (Mine.opened w).1
  obtain ⟨hg, s₁, hT, hp, hc⟩ := Mine.behind hs
  refine ⟨s, Mine.fenced s, hg, s₁, hT, ?_, ?_, ?_, hc _ _ _ ?_⟩
  · intro n hn
    have e : n = Str.ofString "law" := List.mem_singleton.mp hn
    rw [e]
    exact hp
  · intro x hx
    cases hx
  · intro x hx
    cases hx
  · intro h' hw
    cases hw
