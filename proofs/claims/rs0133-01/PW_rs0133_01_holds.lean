import PyProof.Rows.All
import Wide.All
import OpenK.AllK
import Wide.FinOn
import PySem.Challenge.RW_rs0133_01
open PySem PySem.W PyProof.Rows
set_option Elab.async false
set_option maxRecDepth 100000
set_option maxHeartbeats 8000000
namespace RsLaw
open_top hd for PySem.Challenge.rw_rs0133_01
end RsLaw
section
open PySem PySem.Spec PySem.Calls PySem.W PyProof.Rows
set_option maxRecDepth 100000
set_option linter.unusedVariables false
namespace RsLaw

noncomputable abbrev PR : Program := PySem.Challenge.rw_rs0133_01.row.prog
noncomputable abbrev KK (w : World) : Frag := hd.heap_39 w.params

noncomputable def Sub (h h' : Heap) : Prop := ∀ b o, h.get? b = some o → h'.get? b = some o
theorem Sub.refl (h : Heap) : Sub h h := fun _ _ e => e
theorem Sub.trans {a b c : Heap} (x : Sub a b) (y : Sub b c) : Sub a c := fun p o e => y p o (x p o e)
theorem Sub.hide {h h' : Heap} (x : Sub h h') (S : List Addr) : Sub (hideAll h S) (hideAll h' S) := fun b o e => by
  by_cases hb : b ∈ S
  · rw [hideAll_none S hb] at e; cases e
  · exact hideAll_get S (x b o (of_hideAll S e)) hb
theorem Sub.of_hide (h : Heap) (S : List Addr) : Sub (hideAll h S) h := fun _ _ e => of_hideAll S e
theorem Sub.push (h : Heap) (o : Obj) : Sub h (h.push o) := fun _ _ e => Heap.get?_push_of_some _ e
theorem not_mem_of_hide {h : Heap} {S : List Addr} {b : Addr} {o : Obj} (e : (hideAll h S).get? b = some o) : b ∉ S := fun hb => by
  rw [hideAll_none S hb] at e; cases e

/-- all but the addresses W stay -/
noncomputable def Keep (W : List Addr) (h h' : Heap) : Prop := ∀ b o, b ∉ W → h.get? b = some o → h'.get? b = some o
theorem Keep.of_sub {W : List Addr} {h h' : Heap} (x : Sub h h') : Keep W h h' := fun b o _ e => x b o e
theorem Keep.trans {W : List Addr} {a b c : Heap} (x : Keep W a b) (y : Keep W b c) : Keep W a c := fun p o hp e => y p o hp (x p o hp e)
theorem Keep.hide {W S : List Addr} {h h' : Heap} (x : Keep W h h') (hs : ∀ a ∈ W, a ∈ S) : Sub (hideAll h S) (hideAll h' S) := fun b o e => by
  have hb := not_mem_of_hide e
  exact hideAll_get S (x b o (fun hw => hb (hs b hw)) (of_hideAll S e)) hb

theorem vlen1 {vs : List Value} (h : vs.length = 1) : ∃ a, vs = [a] := List.length_eq_one_iff.mp h
theorem vlen2 {vs : List Value} (h : vs.length = 2) : ∃ a b, vs = [a, b] := by
  obtain ⟨a, r, rfl⟩ := List.exists_cons_of_length_eq_add_one h
  obtain ⟨b, rfl⟩ := vlen1 (Nat.succ.inj h)
  exact ⟨a, b, rfl⟩
theorem vlen4 {vs : List Value} (h : vs.length = 4) : ∃ a b c d, vs = [a, b, c, d] := by
  obtain ⟨a, r, rfl⟩ := List.exists_cons_of_length_eq_add_one h
  obtain ⟨b, r, rfl⟩ := List.exists_cons_of_length_eq_add_one (Nat.succ.inj h)
  obtain ⟨c, d, rfl⟩ := vlen2 (Nat.succ.inj (Nat.succ.inj h))
  exact ⟨a, b, c, d, rfl⟩
theorem wpAny_abs {α : Type} {w : World} {A : Around} {t : Sem α} {Q : α → Shared → Prop} {E : Value → Shared → Prop} {s : Shared} (h : ∀ QQ EE, (∀ x s', Q x s' → QQ x s') → wpAny (model PR w) A t QQ EE s) : wpAny (model PR w) A t Q E s := h Q E fun _ _ z => z
structure WD where
  n : Int
  nt : Int
  count : List Int
  b : Int
  simple : Bool

noncomputable def normOf (W : WD) : PyData := .tuple [.tuple (W.count.map PyData.int), .int W.b]

inductive Dat where
  | py (d : PyData)
  | white (W : WD)
  | whites (l : List WD)
  | entry (l : List Str)
  | rng (a b c : Int)
  | ref (a : Addr)
  | half (x dx : Addr) (t : Str)

noncomputable def DP (h : Heap) (v : Value) (d : PyData) : Prop := ∃ as, Reads h v d as
theorem DP.mono {h h' : Heap} {v : Value} {d : PyData} (x : Sub h h') (r : DP h v d) : DP h' v d := let ⟨as, q⟩ := r; ⟨as, Reads.keeps x q⟩

noncomputable def wMethods : List Str := ["less", "equal", "indent_level", "longest_run_of_spaces"]
structure IsWhite (h : Heap) (v : Value) (W : WD) : Prop where
  intro ::
  at_ : ∃ x dx es k, v = .ref x ∧ h.get? x = some (instObj 83 dx) ∧ h.get? dx = some (dictOf es k) ∧ (∃ t, getL "n" es = some (some (.int W.n t))) ∧ (∃ t, getL "nt" es = some (some (.int W.nt t))) ∧
    getL "is_simple" es = some (some (.bool W.simple)) ∧ (∃ u, getL "norm" es = some (some u) ∧ DP h u (normOf W)) ∧ ∀ m ∈ wMethods, getL m es = some none
theorem IsWhite.mono {h h' : Heap} {v : Value} {W : WD} (x : Sub h h') (r : IsWhite h v W) : IsWhite h' v W := by
  obtain ⟨a, dx, es, k, e, h1, h2, h3, h4, h5, ⟨u, h6, h7⟩, h8⟩ := r
  exact ⟨a, dx, es, k, e, x _ _ h1, x _ _ h2, h3, h4, h5, ⟨u, h6, h7.mono x⟩, h8⟩

noncomputable def strsP (l : List Str) : PyData := .list (l.map PyData.str)
structure IsEntry (h : Heap) (v : Value) (l : List Str) : Prop where
  intro ::
  at_ : ∃ x dx es k, v = .ref x ∧ h.get? x = some (instObj 125 dx) ∧ h.get? dx = some (dictOf es k) ∧ (∃ u, getL "useragents" es = some (some u) ∧ DP h u (strsP l)) ∧
    (∃ u, getL "rulelines" es = some (some u) ∧ DP h u (.list [])) ∧ getL "delay" es = some (some .none) ∧ getL "req_rate" es = some (some .none) ∧ getL "applies_to" es = some none
theorem IsEntry.mono {h h' : Heap} {v : Value} {l : List Str} (x : Sub h h') (r : IsEntry h v l) : IsEntry h' v l := by
  obtain ⟨a, dx, es, k, e, h1, h2, ⟨u, h3, h4⟩, ⟨u', h5, h6⟩, h7, h8, h9⟩ := r
  exact ⟨a, dx, es, k, e, x _ _ h1, x _ _ h2, ⟨u, h3, h4.mono x⟩, ⟨u', h5, h6.mono x⟩, h7, h8, h9⟩

inductive AllW (h : Heap) : List Value → List WD → Prop
  | nil : AllW h [] []
  | cons {v vs W Ws} : IsWhite h v W → AllW h vs Ws → AllW h (v :: vs) (W :: Ws)
theorem AllW.mono {h h' : Heap} (x : Sub h h') : ∀ {vs : List Value} {l : List WD}, AllW h vs l → AllW h' vs l
  | _, _, .nil => .nil
  | _, _, .cons a r => .cons (a.mono x) (r.mono x)

noncomputable def D (h : Heap) (v : Value) : Dat → Prop
  | .py d => DP h v d
  | .white W => IsWhite h v W
  | .whites l => ∃ a vs, v = .ref a ∧ h.IsList a vs.toArray ∧ AllW h vs l
  | .entry l => IsEntry h v l
  | .rng a b c => ∃ r t u x, v = .ref r ∧ IsRange h r a b c t u x
  | .ref a => v = .ref a
  | .half x dx t => v = .ref x ∧ h.get? x = some (instObj 83 dx) ∧ ∃ es k, h.get? dx = some (dictOf es k) ∧ ∃ u, getL "raw" es = some (some (.str t u))
theorem D.mono {h h' : Heap} {v : Value} {d : Dat} (x : Sub h h') (r : D h v d) : D h' v d := by
  cases d with
  | py d => exact DP.mono x r
  | white W => exact IsWhite.mono x r
  | whites l =>
    obtain ⟨a, vs, e, ⟨o, ho, q⟩, z⟩ := r
    exact ⟨a, vs, e, ⟨o, x _ _ ho, q⟩, z.mono x⟩
  | entry l => exact IsEntry.mono x r
  | rng a b c =>
    obtain ⟨r', t, u, y, e, q⟩ := r
    exact ⟨r', t, u, y, e, x _ _ q⟩
  | ref a => exact r
  | half a b t =>
    obtain ⟨e, h1, es, k, h2, q⟩ := r
    exact ⟨e, x _ _ h1, es, k, x _ _ h2, q⟩

structure Good (w : World) (h : Heap) : Prop where
  K : (KK w).In h
  top : ∃ mg mb, h.Ns mainGlobals mg ∧ h.Ns builtinsNs mb ∧ h.NoLimit ∧ ∀ x : Str, x ≠ "__name__" → mb x = bootBuiltins x
theorem Good.mono {w : World} {h h' : Heap} (x : Sub h h') (g : Good w h) : Good w h' := by
  obtain ⟨K, mg, mb, a, b, c, d⟩ := g
  exact ⟨fun p o e => x _ _ (K p o e), mg, mb, a.keeps x, b.keeps x, c.keeps x, d⟩

structure okA (n : Nat) (A : Around) : Prop where
  handled : A.handled = none
  depth : A.depth + 2 * n < 1000
  units : A.units + 100 + 10 * n < 9900

inductive VarAt (env : Env) (h : Heap) (x : Str) (v : Value) : Prop
  | loc (m : Str → Option Value) : env.kindOf x = some .local → h.Ns env.locals m → m x = some v → VarAt env h x v
  | cell (c : Addr) : env.kindOf x = some .cell ∨ (env.kindOf x = some .free ∧ (x == ("__classdict__" : Str)) = false) → env.cells.lookup x = some c → h.IsCell c (some v) → VarAt env h x v
theorem VarAt.mono {env : Env} {h h' : Heap} {x : Str} {v : Value} (s : Sub h h') (r : VarAt env h x v) : VarAt env h' x v := by
  cases r with
  | loc m a b c => exact .loc m a (b.keeps s) c
  | cell c a b d => exact .cell c a b (d.keeps s)

noncomputable abbrev Rho := List (Str × Dat)
noncomputable def EnvRel (ρ : Rho) (env : Env) (h : Heap) (S : List Addr) : Prop := ∀ x d, ρ.lookup x = some d → ∃ v, VarAt env h x v ∧ D (hideAll h S) v d
theorem EnvRel.mono {ρ : Rho} {env : Env} {h h' : Heap} {S : List Addr} (s : Sub h h') (r : EnvRel ρ env h S) : EnvRel ρ env h' S := fun x d e =>
  let ⟨v, a, b⟩ := r x d e
  ⟨v, a.mono s, b.mono (s.hide S)⟩

structure EnvOK (N : List (Str × NameKind)) (env : Env) : Prop where
  kind : env.scope.kind = .function
  knd : ∀ x, env.kindOf x = N.lookup x
  glb : env.globals = mainGlobals
  bi : env.builtins = builtinsNs

structure Cx (w : World) (n : Nat) (N : List (Str × NameKind)) (ρ : Rho) (env : Env) (S : List Addr) (A : Around) (h : Heap) : Prop where
  env_ok : EnvOK N env
  live : ∀ a ∈ S, ∃ o, h.get? a = some o
  good : Good w (hideAll h S)
  vars : EnvRel ρ env h S
  room : okA n A
theorem Cx.mono {w : World} {n : Nat} {N : List (Str × NameKind)} {ρ : Rho} {env : Env} {S : List Addr} {A : Around} {h h' : Heap} (s : Sub h h') (c : Cx w n N ρ env S A h) : Cx w n N ρ env S A h' :=
  ⟨c.env_ok, fun a ha => let ⟨o, e⟩ := c.live a ha; ⟨o, s _ _ e⟩, c.good.mono (s.hide S), c.vars.mono s, c.room⟩
noncomputable abbrev Live (S : List Addr) (h : Heap) : Prop := ∀ a ∈ S, ∃ o, h.get? a = some o
theorem Live.mono {S : List Addr} {h h' : Heap} (s : Sub h h') (l : Live S h) : Live S h' := fun a ha => let ⟨o, e⟩ := l a ha; ⟨o, s _ _ e⟩

/-- the tree t ends with a value that is d; nothing that stood is turned -/
noncomputable def To (w : World) (S : List Addr) (A : Around) (s : Shared) (t : Sem Value) (d : Dat) : Prop :=
  ∀ (Q : Value → Shared → Prop) (E : Value → Shared → Prop), (∀ v h' tk, Sub s.heap h' → D (hideAll h' S) v d → Q v { s with heap := h', toks := tk }) → wpAny (model PR w) A t Q E s

noncomputable def EV (w : World) (n : Nat) (N : List (Str × NameKind)) (ρ : Rho) (e : Expr) (d : Dat) : Prop :=
  ∀ (env : Env) (S : List Addr) (A : Around) (s : Shared), Cx w n N ρ env S A s.heap → To w S A s (eval e env) d

/-- the test e ends with the truth b -/
noncomputable def TST (w : World) (n : Nat) (N : List (Str × NameKind)) (ρ : Rho) (e : Expr) (b : Bool) : Prop :=
  ∀ (env : Env) (S : List Addr) (A : Around) (s : Shared), Cx w n N ρ env S A s.heap → ∀ (Q : Bool → Shared → Prop) (E : Value → Shared → Prop),
    (∀ h' tk, Sub s.heap h' → Q b { s with heap := h', toks := tk }) → wpAny (model PR w) A (isTrue e env (eval e env)) Q E s

section
variable {h : Heap} {v : Value}
noncomputable def DPs (h : Heap) (vs : List Value) (ds : List PyData) : Prop := ∃ as, ReadsAll h vs ds as
theorem DPs.nil : DPs h [] [] := ⟨_, .nil⟩
theorem DPs.cons {vs : List Value} {d : PyData} {ds : List PyData} (a : DP h v d) (r : DPs h vs ds) : DPs h (v :: vs) (d :: ds) := let ⟨_, x⟩ := a; let ⟨_, y⟩ := r; ⟨_, .cons x y⟩
theorem DPs.uncons {vs : List Value} {d : PyData} {ds : List PyData} (r : DPs h vs (d :: ds)) : ∃ v vs', vs = v :: vs' ∧ DP h v d ∧ DPs h vs' ds := by
  obtain ⟨_, r⟩ := r; cases r with | cons a b => exact ⟨_, _, rfl, ⟨_, a⟩, ⟨_, b⟩⟩
theorem DPs.unnil {vs : List Value} (r : DPs h vs []) : vs = [] := by obtain ⟨_, r⟩ := r; cases r; rfl
theorem DPs.length : ∀ {ds : List PyData} {vs : List Value}, DPs h vs ds → vs.length = ds.length
  | [], _, r => by rw [r.unnil]; rfl
  | d :: ds, _, r => by obtain ⟨v, vs', rfl, _, r'⟩ := r.uncons; simp [r'.length]
theorem DPs.append : ∀ {ds es : List PyData} {vs us : List Value}, DPs h vs ds → DPs h us es → DPs h (vs ++ us) (ds ++ es)
  | [], _, _, _, r, q => by rw [r.unnil]; exact q
  | d :: ds, _, _, _, r, q => by obtain ⟨v, vs', rfl, a, r'⟩ := r.uncons; exact DPs.cons a (r'.append q)
theorem DPs.get : ∀ {ds : List PyData} {vs : List Value} (i : Nat) {d : PyData}, DPs h vs ds → ds[i]? = some d → ∃ v, vs[i]? = some v ∧ DP h v d
  | [], _, _, _, _, e => by simp at e
  | d :: ds, _, i, _, r, e => by
    obtain ⟨v, vs', rfl, a, r'⟩ := r.uncons
    cases i with
    | zero => simp at e; subst e; exact ⟨v, rfl, a⟩
    | succ i => simp at e; simpa using r'.get i e
theorem DPs.mono {h' : Heap} (s : Sub h h') : ∀ {ds : List PyData} {vs : List Value}, DPs h vs ds → DPs h' vs ds
  | [], _, r => by rw [r.unnil]; exact .nil
  | d :: ds, _, r => by obtain ⟨v, vs', rfl, a, r'⟩ := r.uncons; exact .cons (a.mono s) (r'.mono s)
theorem DP.int (i : Int) (t : Tok) : DP h (.int i t) (.int i) := ⟨_, .int i t⟩
theorem DP.str (x : Str) (t : Tok) : DP h (.str x t) (.str x) := ⟨_, .str x t⟩
theorem DP.bool (b : Bool) : DP h (.bool b) (.bool b) := ⟨_, .bool b⟩
theorem DP.none : DP h .none .none := ⟨_, .none⟩
theorem DP.int_inv {i : Int} (r : DP h v (.int i)) : ∃ t, v = .int i t := by obtain ⟨_, r⟩ := r; cases r; exact ⟨_, rfl⟩
theorem DP.str_inv {x : Str} (r : DP h v (.str x)) : ∃ t, v = .str x t := by obtain ⟨_, r⟩ := r; cases r; exact ⟨_, rfl⟩
theorem DP.bool_inv {b : Bool} (r : DP h v (.bool b)) : v = .bool b := by obtain ⟨_, r⟩ := r; cases r; rfl
theorem DP.none_inv (r : DP h v .none) : v = .none := by obtain ⟨_, r⟩ := r; cases r; rfl
theorem DP.list_inv {ds : List PyData} (r : DP h v (.list ds)) : ∃ a vs, v = .ref a ∧ h.IsList a vs.toArray ∧ DPs h vs ds := by
  obtain ⟨_, r⟩ := r
  cases r with
  | list h1 h2 h3 h4 => exact ⟨_, _, rfl, ⟨_, h1, h2, _, by rw [h3]⟩, ⟨_, h4⟩⟩
theorem DP.tuple_inv {ds : List PyData} (r : DP h v (.tuple ds)) : ∃ a vs, v = .ref a ∧ IsTup h a vs.toArray ∧ DPs h vs ds := by
  obtain ⟨_, r⟩ := r
  cases r with
  | tuple h1 h2 h3 h4 => exact ⟨_, _, rfl, ⟨_, h1, h2, _, by rw [h3]⟩, ⟨_, h4⟩⟩
theorem DP.list {a : Addr} {vs : List Value} {ds : List PyData} (hl : h.IsList a vs.toArray) (r : DPs h vs ds) : DP h (.ref a) (.list ds) := by
  obtain ⟨o, h1, h2, n, h3⟩ := hl
  obtain ⟨as, r⟩ := r
  exact ⟨_, .list h1 h2 h3 (by simpa using r)⟩
theorem DP.tuple {a : Addr} {vs : List Value} {ds : List PyData} (hl : IsTup h a vs.toArray) (r : DPs h vs ds) : DP h (.ref a) (.tuple ds) := by
  obtain ⟨o, h1, h2, n, h3⟩ := hl
  obtain ⟨as, r⟩ := r
  exact ⟨_, .tuple h1 h2 h3 (by simpa using r)⟩
end

theorem get_new {h : Heap} {S : List Addr} {o : Obj} (l : Live S h) (hf : o.isFreed = false) : (hideAll (h.push o) S).get? h.objs.size = some o :=
  hideAll_get S (Heap.get?_push_size _ hf) fun hm => let ⟨_, e⟩ := l _ hm; Nat.lt_irrefl _ (Heap.lt_size e)
theorem get_fresh {h h' : Heap} {S : List Addr} {a : Addr} {o : Obj} (l : Live S h) (hn : h.get? a = none) (e : h'.get? a = some o) : (hideAll h' S).get? a = some o :=
  hideAll_get S e fun hm => let ⟨_, q⟩ := l _ hm; by rw [hn] at q; cases q
theorem get_size {h : Heap} : h.get? h.objs.size = none := Heap.get?_none_of_le (Nat.le_refl _)

section
variable {w : World} {n : Nat} {N : List (Str × NameKind)} {ρ : Rho}

theorem EV.const_int {i : Int} {k : Nat} {pos : Pos} : EV w n N ρ (.Constant (.int i) k pos) (.py (.int i)) := fun _ _ _ _ _ _ _ K =>
  wpAny_Constant_int (K _ _ _ (Sub.refl _) (DP.int _ _))
theorem EV.const_str {x : Str} {k : Nat} {pos : Pos} : EV w n N ρ (.Constant (.str x) k pos) (.py (.str x)) := fun _ _ _ _ _ _ _ K =>
  Constant_str (K _ _ _ (Sub.refl _) (DP.str _ _))
theorem EV.const_bool {b : Bool} {k : Nat} {pos : Pos} : EV w n N ρ (.Constant (.bool b) k pos) (.py (.bool b)) := fun env S A s _ Q E K => by
  have := K (.bool b) s.heap s.toks (Sub.refl _) (DP.bool _)
  exact fun _ _ _ => this
theorem EV.const_none {k : Nat} {pos : Pos} : EV w n N ρ (.Constant .none k pos) (.py .none) := fun env S A s _ Q E K => by
  have := K .none s.heap s.toks (Sub.refl _) DP.none
  exact fun _ _ _ => this

theorem EV.name {x : Str} {pos : Pos} {d : Dat} (hx : ρ.lookup x = some d) (hd : (x == ("__debug__" : Str)) = false := by decide) : EV w n N ρ (.Name x pos) d := fun env S A s C Q E K => by
  obtain ⟨v, r, hv⟩ := C.vars x d hx
  have q := K v s.heap s.toks (Sub.refl _) hv
  refine wpAny_Name ?_ hd
  cases r with
  | loc m a b c => exact wpAny_loadName_local C.env_ok.kind a b c q
  | cell c a b e =>
    rcases a with a | ⟨a, a'⟩
    · exact wpAny_loadName_cell C.env_ok.kind a b e q
    · exact wpAny_loadName_free C.env_ok.kind a b e q a'

/-- a step over one value, over two values -/
noncomputable abbrev Op1 (w : World) (n : Nat) (t : Value → Sem Value) (d₁ d : Dat) : Prop :=
  ∀ (S : List Addr) (A : Around) (s : Shared) (a : Value), okA n A → Live S s.heap → Good w (hideAll s.heap S) → D (hideAll s.heap S) a d₁ → To w S A s (t a) d
noncomputable abbrev Op2 (w : World) (n : Nat) (t : Value → Value → Sem Value) (d₁ d₂ d : Dat) : Prop :=
  ∀ (S : List Addr) (A : Around) (s : Shared) (a b : Value), okA n A → Live S s.heap → Good w (hideAll s.heap S) → D (hideAll s.heap S) a d₁ → D (hideAll s.heap S) b d₂ → To w S A s (t a b) d

theorem EV.binop {e₁ e₂ : Expr} {op : Operator} {pos : Pos} {d₁ d₂ d : Dat} (h₁ : EV w n N ρ e₁ d₁) (h₂ : EV w n N ρ e₂ d₂) (h : Op2 w n (binaryOp op) d₁ d₂ d) :
    EV w n N ρ (.BinOp e₁ op e₂ pos) d := fun env S A s C Q E K =>
  wpAny_BinOp (h₁ env S A s C _ E fun a g₁ t₁ s₁ r₁ => h₂ env S A _ (C.mono s₁) _ E fun b g₂ t₂ s₂ r₂ =>
    h S A _ a b C.room ((C.mono s₁).mono s₂).live ((C.mono s₁).mono s₂).good (r₁.mono (s₂.hide S)) r₂ Q E fun v h' tk s₃ r₃ => K v h' tk ((s₁.trans s₂).trans s₃) r₃)
theorem EV.cmp {e₁ e₂ : Expr} {op : CmpOp} {pos : Pos} {d₁ d₂ d : Dat} (h₁ : EV w n N ρ e₁ d₁) (h₂ : EV w n N ρ e₂ d₂) (h : Op2 w n (compareOp op) d₁ d₂ d)
    (hm : behindInMarks op e₂ = false := by with_unfolding_all rfl) :
    EV w n N ρ (.Compare e₁ [op] [e₂] pos) d := fun env S A s C Q E K =>
  wpAny_Compare1 (h₁ env S A s C _ E fun a g₁ t₁ s₁ r₁ => h₂ env S A _ (C.mono s₁) _ E fun b g₂ t₂ s₂ r₂ =>
    h S A _ a b C.room ((C.mono s₁).mono s₂).live ((C.mono s₁).mono s₂).good (r₁.mono (s₂.hide S)) r₂ Q E fun v h' tk s₃ r₃ => K v h' tk ((s₁.trans s₂).trans s₃) r₃) hm
theorem TST.cmp {e₁ e₂ : Expr} {op : CmpOp} {pos : Pos} {d₁ d₂ : Dat} {b : Bool} (h₁ : EV w n N ρ e₁ d₁) (h₂ : EV w n N ρ e₂ d₂) (h : Op2 w n (compareOp op) d₁ d₂ (.py (.bool b)))
    (hm : behindInMarks op e₂ = false := by with_unfolding_all rfl) :
    TST w n N ρ (.Compare e₁ [op] [e₂] pos) b := fun env S A s C Q E K =>
  wpAny_isTrue_Compare1 (h₁ env S A s C _ E fun a g₁ t₁ s₁ r₁ => h₂ env S A _ (C.mono s₁) _ E fun c g₂ t₂ s₂ r₂ =>
    h S A _ a c C.room ((C.mono s₁).mono s₂).live ((C.mono s₁).mono s₂).good (r₁.mono (s₂.hide S)) r₂ _ E fun v h' tk s₃ r₃ => by
      rw [DP.bool_inv r₃]
      exact wpAny_truthy_bool (K h' tk ((s₁.trans s₂).trans s₃))) hm

theorem EV.ifexp {t a b : Expr} {pos : Pos} {c : Bool} {d : Dat} (ht : TST w n N ρ t c) (ha : c = true → EV w n N ρ a d) (hb : c = false → EV w n N ρ b d) : EV w n N ρ (.IfExp t a b pos) d := fun env S A s C Q E K =>
  wpAny_IfExp (ht env S A s C _ E fun h' tk s₁ => by
    cases c with
    | true => exact ha rfl env S A _ (C.mono s₁) Q E fun v h'' tk' s₂ r => K v h'' tk' (s₁.trans s₂) r
    | false => exact hb rfl env S A _ (C.mono s₁) Q E fun v h'' tk' s₂ r => K v h'' tk' (s₁.trans s₂) r)

/-- the truth of a datum -/
noncomputable def truthOf : PyData → Option Bool
  | .bool b => some b
  | .int i => some (i != 0)
  | _ => none
theorem TST.plain {e : Expr} {d : PyData} {b : Bool} (h : EV w n N ρ e (.py d)) (hb : truthOf d = some b)
    (he : ∀ env whole, isTrue e env whole = (do let v ← whole; standAt e.pos; holding [v] (truthy v)) := by intro _ _; rfl) : TST w n N ρ e b := fun env S A s C Q E K =>
  isTrue_plain (h env S A s C _ E fun v h' tk s₁ r => by
    cases d with
    | bool c => cases hb; rw [DP.bool_inv r]; exact wpAny_truthy_bool (K _ _ s₁)
    | int i => cases hb; obtain ⟨t, rfl⟩ := DP.int_inv r; exact P.truthy_int (K _ _ s₁)
    | _ => cases hb) (he _ _)
theorem TST.not {e : Expr} {pos : Pos} {b : Bool} (h : TST w n N ρ e b) : TST w n N ρ (.UnaryOp .Not e pos) (!b) := fun env S A s C Q E K =>
  isTrue_not (h env S A s C _ E fun h' tk s₁ => K h' tk s₁)
end
end RsLaw
end
section
open PySem PySem.Spec PySem.Calls PySem.W PyProof.Rows PySem.SeqAt
set_option maxRecDepth 100000
set_option linter.unusedVariables false
namespace RsLaw

theorem okA.u64 {n : Nat} {A : Around} (h : okA n A) : A.units + 64 < cLine := by have := h.units; show _ < 9900; omega
theorem okA.u65 {n : Nat} {A : Around} (h : okA n A) : A.units + 65 < cLine := by have := h.units; show _ < 9900; omega
theorem okA.room {n : Nat} {A : Around} (h : okA n A) : A.depth < recursionLimit := by have := h.depth; show _ < 1000; omega
noncomputable abbrev I (i : Int) : Dat := .py (.int i)
noncomputable abbrev B (b : Bool) : Dat := .py (.bool b)
noncomputable abbrev St (x : Str) : Dat := .py (.str x)
noncomputable abbrev Ls (l : List PyData) : Dat := .py (.list l)
noncomputable abbrev Tu (l : List PyData) : Dat := .py (.tuple l)

section
variable {w : World} {n : Nat}

theorem To.int {S : List Addr} {A : Around} {s : Shared} {t : Sem Value} {i : Int} (h : ∀ (Q : Value → Shared → Prop) E, (∀ u k, Q (.int i u) { s with toks := k }) → wpAny (model PR w) A t Q E s) : To w S A s t (I i) :=
  fun Q E K => h Q E fun u k => K _ s.heap k (Sub.refl _) (DP.int _ _)
theorem To.str {S : List Addr} {A : Around} {s : Shared} {t : Sem Value} {i : Str} (h : ∀ (Q : Value → Shared → Prop) E, (∀ u k, Q (.str i u) { s with toks := k }) → wpAny (model PR w) A t Q E s) : To w S A s t (St i) :=
  fun Q E K => h Q E fun u k => K _ s.heap k (Sub.refl _) (DP.str _ _)
theorem To.bool {S : List Addr} {A : Around} {s : Shared} {t : Sem Value} {i : Bool} (h : ∀ (Q : Value → Shared → Prop) E, (∀ k, Q (.bool i) { s with toks := k }) → wpAny (model PR w) A t Q E s) : To w S A s t (B i) :=
  fun Q E K => h Q E fun k => K _ s.heap k (Sub.refl _) (DP.bool _)

theorem op_add_int {a b : Int} : Op2 w n (binaryOp .Add) (I a) (I b) (I (a + b)) := fun S A s x y _ _ _ hx hy => by
  obtain ⟨t, rfl⟩ := DP.int_inv hx; obtain ⟨u, rfl⟩ := DP.int_inv hy
  exact To.int fun Q E K => P.add_int (K _ _)
theorem op_sub_int {a b : Int} : Op2 w n (binaryOp .Sub) (I a) (I b) (I (a - b)) := fun S A s x y _ _ _ hx hy => by
  obtain ⟨t, rfl⟩ := DP.int_inv hx; obtain ⟨u, rfl⟩ := DP.int_inv hy
  exact To.int fun Q E K => P.sub_int (K _ _)
theorem op_mul_int {a b : Int} (ha : -(2 ^ 64) < a) (ha' : a < 2 ^ 64) : Op2 w n (binaryOp .Mult) (I a) (I b) (I (a * b)) := fun S A s x y _ _ _ hx hy => by
  obtain ⟨t, rfl⟩ := DP.int_inv hx; obtain ⟨u, rfl⟩ := DP.int_inv hy
  exact To.int fun Q E K => P.mul_int (K _ _) (IntMulOk.of_left (intBits_le_64 ha ha'))
theorem op_div_int {a b : Int} (hb : b ≠ 0) (hs : b.natAbs < 1073741824) : Op2 w n (binaryOp .FloorDiv) (I a) (I b) (I (a.fdiv b)) := fun S A s x y _ _ _ hx hy => by
  obtain ⟨t, rfl⟩ := DP.int_inv hx; obtain ⟨u, rfl⟩ := DP.int_inv hy
  exact To.int fun Q E K => floordiv_int hb (K _ _) (.inl (PyProof.noPylong_small hs))
theorem op_mod_int {a b : Int} (hb : b ≠ 0) : Op2 w n (binaryOp .Mod) (I a) (I b) (I (a.fmod b)) := fun S A s x y _ _ _ hx hy => by
  obtain ⟨t, rfl⟩ := DP.int_inv hx; obtain ⟨u, rfl⟩ := DP.int_inv hy
  exact To.int fun Q E K => mod_int hb (K _ _)
theorem op_pow_int {a b : Int} (hb : 0 ≤ b) (hb' : b ≤ 1000000) (ha : a.natAbs < 2 ^ 64) : Op2 w n (binaryOp .Pow) (I a) (I b) (I (a ^ b.toNat)) := fun S A s x y _ _ _ hx hy => by
  obtain ⟨t, rfl⟩ := DP.int_inv hx; obtain ⟨u, rfl⟩ := DP.int_inv hy
  exact To.int fun Q E K => pow_int_small hb hb' ha (K _ _)
theorem op_add_str {a b : Str} (hs : a.length + b.length ≤ sizeLine) : Op2 w n (binaryOp .Add) (St a) (St b) (St (a ++ b)) := fun S A s x y _ _ _ hx hy => by
  obtain ⟨t, rfl⟩ := DP.str_inv hx; obtain ⟨u, rfl⟩ := DP.str_inv hy
  exact To.str fun Q E K => SB.add (fun t' k => K _ _) hs
theorem op_mul_str {a : Str} {b : Int} (hs : MulOk a b) : Op2 w n (binaryOp .Mult) (St a) (I b) (St (Txt.mul a b)) := fun S A s x y _ _ _ hx hy => by
  obtain ⟨t, rfl⟩ := DP.str_inv hx; obtain ⟨u, rfl⟩ := DP.int_inv hy
  exact To.str fun Q E K => SB.mul hs (fun t' k => K _ _)

theorem op_eq_int {a b : Int} : Op2 w n (compareOp .Eq) (I a) (I b) (B (a == b)) := fun S A s x y _ _ _ hx hy => by
  obtain ⟨t, rfl⟩ := DP.int_inv hx; obtain ⟨u, rfl⟩ := DP.int_inv hy
  exact To.bool fun Q E K => P.eq_int (K _)
theorem op_lt_int {a b : Int} : Op2 w n (compareOp .Lt) (I a) (I b) (B (decide (a < b))) := fun S A s x y _ _ _ hx hy => by
  obtain ⟨t, rfl⟩ := DP.int_inv hx; obtain ⟨u, rfl⟩ := DP.int_inv hy
  exact To.bool fun Q E K => P.lt_int (K _)
theorem op_le_int {a b : Int} : Op2 w n (compareOp .LtE) (I a) (I b) (B (decide (a ≤ b))) := fun S A s x y _ _ _ hx hy => by
  obtain ⟨t, rfl⟩ := DP.int_inv hx; obtain ⟨u, rfl⟩ := DP.int_inv hy
  exact To.bool fun Q E K => P.le_int (K _)
theorem op_ge_int {a b : Int} : Op2 w n (compareOp .GtE) (I a) (I b) (B (decide (a ≥ b))) := fun S A s x y _ _ _ hx hy => by
  obtain ⟨t, rfl⟩ := DP.int_inv hx; obtain ⟨u, rfl⟩ := DP.int_inv hy
  exact To.bool fun Q E K => P.ge_int (K _)
theorem op_eq_str {a b : Str} : Op2 w n (compareOp .Eq) (St a) (St b) (B (a.cps.toList == b.cps.toList)) := fun S A s x y _ _ _ hx hy => by
  obtain ⟨t, rfl⟩ := DP.str_inv hx; obtain ⟨u, rfl⟩ := DP.str_inv hy
  exact To.bool fun Q E K => P.eq_str (K _)
theorem op_ne_str {a b : Str} : Op2 w n (compareOp .NotEq) (St a) (St b) (B (a.cps.toList != b.cps.toList)) := fun S A s x y _ _ _ hx hy => by
  obtain ⟨t, rfl⟩ := DP.str_inv hx; obtain ⟨u, rfl⟩ := DP.str_inv hy
  exact To.bool fun Q E K => P.ne_str (K _)
theorem op_in_str {a b : Str} : Op2 w n (compareOp .In) (St a) (St b) (B (Txt.contains b a)) := fun S A s x y _ _ _ hx hy => by
  obtain ⟨t, rfl⟩ := DP.str_inv hx; obtain ⟨u, rfl⟩ := DP.str_inv hy
  exact To.bool fun Q E K => SB.contains (K _)
theorem op_isnot_bool {a b : Bool} : Op2 w n (compareOp .IsNot) (B a) (B b) (B (a != b)) := fun S A s x y _ _ _ hx hy => by
  rw [DP.bool_inv hx, DP.bool_inv hy]
  exact To.bool fun Q E K => isnot_bool (K s.toks)
theorem op_is_bool {a b : Bool} : Op2 w n (compareOp .Is) (B a) (B b) (B (a == b)) := fun S A s x y _ _ _ hx hy => by
  rw [DP.bool_inv hx, DP.bool_inv hy]
  exact To.bool fun Q E K => is_bool (K s.toks)
theorem op_is_none_str {a : Str} : Op2 w n (compareOp .Is) (St a) (.py .none) (B false) := fun S A s x y _ _ _ hx hy => by
  obtain ⟨t, rfl⟩ := DP.str_inv hx; rw [DP.none_inv hy]
  exact To.bool fun Q E K => is_str_none (K s.toks)
theorem op_is_none_none : Op2 w n (compareOp .Is) (.py .none) (.py .none) (B true) := fun S A s x y _ _ _ hx hy => by
  rw [DP.none_inv hx, DP.none_inv hy]
  exact To.bool fun Q E K => is_none_none (K s.toks)
theorem op_eq_data {a b : PyData} (ha : shaped a = true) (hb : shaped b = true) : Op2 w n (compareOp .Eq) (.py a) (.py b) (B (PyData.eqv a b)) := fun S A s x y hA _ _ hx hy => by
  obtain ⟨_, rx⟩ := DP.mono (Sub.of_hide _ _) hx
  obtain ⟨_, ry⟩ := DP.mono (Sub.of_hide _ _) hy
  exact To.bool fun Q E K => eq_dataH rx ry ha hb hA.u64 (K s.toks)
theorem op_ne_data {a b : PyData} (ha : shaped a = true) (hb : shaped b = true) : Op2 w n (compareOp .NotEq) (.py a) (.py b) (B (!PyData.eqv a b)) := fun S A s x y hA _ _ hx hy => by
  obtain ⟨_, rx⟩ := DP.mono (Sub.of_hide _ _) hx
  obtain ⟨_, ry⟩ := DP.mono (Sub.of_hide _ _) hy
  exact To.bool fun Q E K => ne_dataH rx ry ha hb hA.u64 (K s.toks)
theorem op_notin_list {d : PyData} {xs : List PyData} (hc : shaped (PyData.list xs) = true) (hd : shaped d = true) (hmix : ∀ y ∈ xs, noMix y d = true) :
    Op2 w n (compareOp .NotIn) (.py d) (Ls xs) (B (!decide (countIn d xs ≠ 0))) := fun S A s x y hA _ _ hx hy => by
  obtain ⟨_, rx⟩ := DP.mono (Sub.of_hide _ _) hx
  obtain ⟨_, ry⟩ := DP.mono (Sub.of_hide _ _) hy
  exact To.bool fun Q E K => notIn_list_dataH ry rx hc hd hA.u65 hmix (K s.toks)

/-- calls of built-ins with values -/
noncomputable abbrev Fn1 (w : World) (n : Nat) (f : Value) (d₁ d : Dat) : Prop := Op1 w n (fun a => call f [a]) d₁ d
noncomputable abbrev Fn2 (w : World) (n : Nat) (f : Value) (d₁ d₂ d : Dat) : Prop := Op2 w n (fun a b => call f [a, b]) d₁ d₂ d

theorem fn_len_list {xs : List PyData} (hs : xs.length < 1000000) : Fn1 w n (.builtin "len") (Ls xs) (I xs.length) := fun S A s x _ _ _ hx => by
  obtain ⟨a, vs, rfl, hl, r⟩ := DP.list_inv (DP.mono (Sub.of_hide _ _) hx)
  have e : vs.toArray.size = xs.length := by simpa using r.length
  exact To.int fun Q E K => len_list hl (by rw [e]; omega) (by rw [e]; exact K _ _)
theorem fn_len_tuple {xs : List PyData} (hs : xs.length < 1000000) : Fn1 w n (.builtin "len") (Tu xs) (I xs.length) := fun S A s x _ _ _ hx => by
  obtain ⟨a, vs, rfl, hl, r⟩ := DP.tuple_inv (DP.mono (Sub.of_hide _ _) hx)
  have e : vs.toArray.size = xs.length := by simpa using r.length
  exact To.int fun Q E K => len_tuple hl (by rw [e]; omega) (by rw [e]; exact K _ _)
theorem fn_len_str {x : Str} (hs : x.length < 1000000) : Fn1 w n (.builtin "len") (St x) (I x.length) := fun S A s y _ _ _ hx => by
  obtain ⟨t, rfl⟩ := DP.str_inv hx
  exact To.int fun Q E K => P.len_str (by omega) (K _ _)
theorem fn_max {a b : Int} : Fn2 w n (.builtin "max") (I a) (I b) (I (if b > a then b else a)) := fun S A s x y hA _ _ hx hy => by
  obtain ⟨t, rfl⟩ := DP.int_inv hx; obtain ⟨u, rfl⟩ := DP.int_inv hy
  intro Q E K
  refine max_two_ints hA.handled fun h' tk hk => ?_
  by_cases hc : b > a
  · rw [if_pos hc]; have := K (.int b u) h' tk hk (by rw [if_pos hc]; exact DP.int _ _); exact this
  · rw [if_neg hc]; have := K (.int a t) h' tk hk (by rw [if_neg hc]; exact DP.int _ _); exact this

theorem newList_to {S : List Addr} {A : Around} {s : Shared} {vs : List Value} {ds : List PyData} (l : Live S s.heap) (r : DPs (hideAll s.heap S) vs ds) (hs : vs.length ≤ sizeLine) : To w S A s (newList vs) (Ls ds) := fun Q E K =>
  wpAny_newList (K _ _ s.toks (Sub.push _ _) (DP.list ⟨_, get_new l rfl, rfl, _, rfl⟩ (r.mono ((Sub.push _ _).hide S)))) hs
theorem newTuple_to {S : List Addr} {A : Around} {s : Shared} {vs : List Value} {ds : List PyData} (l : Live S s.heap) (r : DPs (hideAll s.heap S) vs ds) (hs : vs.length ≤ sizeLine) : To w S A s (newTuple vs) (Tu ds) := fun Q E K =>
  wpAny_newTuple (K _ _ s.toks (Sub.push _ _) (DP.tuple ⟨_, get_new l rfl, rfl, _, rfl⟩ (r.mono ((Sub.push _ _).hide S)))) hs

theorem fn_range1 {b : Int} : Fn1 w n (.type "range") (I b) (.rng 0 b 1) := fun S A s x hA l _ hx => by
  obtain ⟨t, rfl⟩ := DP.int_inv hx
  intro Q E K
  exact call_range_1 (K _ _ _ (Sub.push _ _) ⟨_, _, _, _, rfl, get_new l rfl⟩)
theorem fn_range2 {a b : Int} : Fn2 w n (.type "range") (I a) (I b) (.rng a b 1) := fun S A s x y hA l _ hx hy => by
  obtain ⟨t, rfl⟩ := DP.int_inv hx; obtain ⟨u, rfl⟩ := DP.int_inv hy
  intro Q E K
  exact call_range_2 (K _ _ _ (Sub.push _ _) ⟨_, _, _, _, rfl, get_new l rfl⟩)

/-- lists of data, by values -/
inductive DD (h : Heap) : List Value → List Dat → Prop
  | nil : DD h [] []
  | cons {v vs d ds} : D h v d → DD h vs ds → DD h (v :: vs) (d :: ds)
theorem DD.mono {h h' : Heap} (s : Sub h h') : ∀ {vs : List Value} {ds : List Dat}, DD h vs ds → DD h' vs ds
  | _, _, .nil => .nil
  | _, _, .cons a r => .cons (a.mono s) (r.mono s)

/-- a call of f upon values -/
noncomputable def FNv (w : World) (n : Nat) (f : Value) (ds : List Dat) (d : Dat) : Prop :=
  ∀ (S : List Addr) (A : Around) (s : Shared) (vs : List Value), okA n A → Live S s.heap → Good w (hideAll s.heap S) → DD (hideAll s.heap S) vs ds → To w S A s (call f vs) d
theorem FNv.one {f : Value} {d₁ d : Dat} (h : Fn1 w n f d₁ d) : FNv w n f [d₁] d := fun S A s vs hA l g r => by
  cases r with | cons a r => cases r; exact h S A s _ hA l g a
theorem FNv.two {f : Value} {d₁ d₂ d : Dat} (h : Fn2 w n f d₁ d₂ d) : FNv w n f [d₁, d₂] d := fun S A s vs hA l g r => by
  cases r with | cons a r => cases r with | cons b r => cases r; exact h S A s _ _ hA l g a b

theorem fn_range3 {a b c : Int} (hc : c ≠ 0) (hs : c.natAbs < 1073741824) : FNv w n (.type "range") [I a, I b, I c] (.rng a b c) := fun S A s vs hA l g r => by
  cases r with | cons h1 r => cases r with | cons h2 r => cases r with | cons h3 r =>
  cases r
  obtain ⟨t, rfl⟩ := DP.int_inv h1; obtain ⟨u, rfl⟩ := DP.int_inv h2; obtain ⟨v, rfl⟩ := DP.int_inv h3
  intro Q E K
  exact call_range_3 hc (K _ _ _ (Sub.push _ _) ⟨_, _, _, _, rfl, get_new l rfl⟩) (.inl (PyProof.noPylong_small hs))

variable {N : List (Str × NameKind)} {ρ : Rho}
inductive ARGS (w : World) (n : Nat) (N : List (Str × NameKind)) (ρ : Rho) : List Expr → List Dat → Prop
  | nil : ARGS w n N ρ [] []
  | cons {e es d ds} : EV w n N ρ e d → ARGS w n N ρ es ds → (∀ env rest, starEach (e :: rest) env = (false, eval e env) :: starEach rest env) → ARGS w n N ρ (e :: es) (d :: ds)
theorem ARGS.more {e : Expr} {es : List Expr} {d : Dat} {ds : List Dat} (h : EV w n N ρ e d) (r : ARGS w n N ρ es ds) (he : ∀ env rest, starEach (e :: rest) env = (false, eval e env) :: starEach rest env := by intro _ _; rfl) : ARGS w n N ρ (e :: es) (d :: ds) := .cons h r he
theorem ARGS.run {es : List Expr} {ds : List Dat} (r : ARGS w n N ρ es ds) : ∀ (env : Env) (S : List Addr) (A : Around) (s : Shared) (pos : Pos) (Q : List Value → Shared → Prop) (E : Value → Shared → Prop), Cx w n N ρ env S A s.heap →
    (∀ vs h' tk, Sub s.heap h' → DD (hideAll h' S) vs ds → Q vs { s with heap := h', toks := tk }) → wpAny (model PR w) A (spliced (backTo pos (starEach es env))) Q E s := by
  induction r with
  | nil => intro env S A s pos Q E C K; exact spliced_none (K [] s.heap s.toks (Sub.refl _) .nil)
  | cons h r he ih =>
    intro env S A s pos Q E C K
    exact spliced_more (h env S A s C _ E fun v h₁ t₁ s₁ d₁ => ih env S A _ pos _ E (C.mono s₁) fun vs h₂ t₂ s₂ d₂ => K (v :: vs) h₂ t₂ (s₁.trans s₂) (.cons (d₁.mono (s₂.hide S)) d₂)) (he _ _)
theorem ARGS.plain {es : List Expr} {ds : List Dat} (r : ARGS w n N ρ es ds) (pos : Pos) (env : Env) : (backTo pos (starEach es env)).any (·.1) = false := by
  induction r with
  | nil => rfl
  | cons h r he ih => rw [he]; show (false || _) = false; rw [Bool.false_or]; exact ih

/-- a name that stands for the value f -/
noncomputable def NameTo (w : World) (N : List (Str × NameKind)) (x : Str) (f : Value) : Prop :=
  ∀ (env : Env) (S : List Addr) (s : Shared) (A : Around) (pos : Pos) (Q : Value → Shared → Prop) (E : Value → Shared → Prop), EnvOK N env → Good w (hideAll s.heap S) → Q f s → wpAny (model PR w) A (eval (.Name x pos) env) Q E s
theorem NameTo.global {x : Str} {f : Value} (hx : N.lookup x = some .globalImplicit) (e : nsIn (hd.heap_39 w.params) mainGlobals x = some (some f)) (hd : (x == ("__debug__" : Str)) = false := by decide) : NameTo w N x f := fun env S s A pos Q E O g q => by
  obtain ⟨K, mg, mb, a, b, c, d⟩ := g.mono (Sub.of_hide _ S)
  exact Name_function_global O.kind ((O.knd x).trans hx) (loadGlobal_global (by rw [O.glb]; exact a) (mg_of K a e) q) hd
theorem NameTo.builtin {x : Str} {f : Value} (hx : N.lookup x = some .globalImplicit) (e : nsIn (hd.heap_39 w.params) mainGlobals x = some none) (hb : bootBuiltins x = some f) (hn : x ≠ "__name__" := by decide) (hd : (x == ("__debug__" : Str)) = false := by decide) : NameTo w N x f := fun env S s A pos Q E O g q => by
  obtain ⟨K, mg, mb, a, b, c, d⟩ := g.mono (Sub.of_hide _ S)
  exact Name_function_global O.kind ((O.knd x).trans hx) (loadGlobal_builtin (by rw [O.glb]; exact a) (mg_none_of K a e) (by rw [O.bi]; exact b) ((d x hn).trans hb) q) hd

theorem EV.call_builtin {x : Str} {np pos : Pos} {id : String} {e : Expr} {es : List Expr} {ds : List Dat} {d : Dat} (hx : NameTo w N x (.builtin id)) (r : ARGS w n N ρ (e :: es) ds) (h : FNv w n (.builtin id) ds d)
    (hc : ∀ env, eval (.Call (.Name x np) (e :: es) [] pos) env = (do callWith pos (← eval (.Name x np) env) [] (backTo pos (starEach (e :: es) env)) (backToKw pos (keywordEach [] env))) := by intro _; rfl) :
    EV w n N ρ (.Call (.Name x np) (e :: es) [] pos) d := fun env S A s C Q E K =>
  Call_ (hx env S s A np _ E C.env_ok C.good (by
    cases r with | cons h₁ r' he =>
    exact callWith_builtin1 ((ARGS.cons h₁ r' he).run env S A s pos _ E C fun vs h' tk s₁ dd => h S A _ vs C.room (C.mono s₁).live (C.mono s₁).good dd Q E fun v h'' tk' s₂ r₂ => K v h'' tk' (s₁.trans s₂) r₂) (he _ _) (r'.plain pos env))) (hc env)
theorem EV.call_type {x : Str} {np pos : Pos} {id : String} {e : Expr} {es : List Expr} {ds : List Dat} {d : Dat} (hx : NameTo w N x (.type id)) (r : ARGS w n N ρ (e :: es) ds) (h : FNv w n (.type id) ds d)
    (hc : ∀ env, eval (.Call (.Name x np) (e :: es) [] pos) env = (do callWith pos (← eval (.Name x np) env) [] (backTo pos (starEach (e :: es) env)) (backToKw pos (keywordEach [] env))) := by intro _; rfl) :
    EV w n N ρ (.Call (.Name x np) (e :: es) [] pos) d := fun env S A s C Q E K =>
  Call_ (hx env S s A np _ E C.env_ok C.good (by
    cases r with | cons h₁ r' he =>
    exact PyProof.Rows.callWith_type1 ((ARGS.cons h₁ r' he).run env S A s pos _ E C fun vs h' tk s₁ dd => h S A _ vs C.room (C.mono s₁).live (C.mono s₁).good dd Q E fun v h'' tk' s₂ r₂ => K v h'' tk' (s₁.trans s₂) r₂) (he _ _) (r'.plain pos env))) (hc env)
theorem EV.call_own {x : Str} {np pos : Pos} {f : Value} {e : Expr} {es : List Expr} {ds : List Dat} {d : Dat} (hx : NameTo w N x f) (hk : keepIn (hd.heap_39 w.params) f = true) (r : ARGS w n N ρ (e :: es) ds) (h : FNv w n f ds d)
    (hc : ∀ env, eval (.Call (.Name x np) (e :: es) [] pos) env = (do callWith pos (← eval (.Name x np) env) [] (backTo pos (starEach (e :: es) env)) (backToKw pos (keywordEach [] env))) := by intro _; rfl) :
    EV w n N ρ (.Call (.Name x np) (e :: es) [] pos) d := fun env S A s C Q E K =>
  Call_ (hx env S s A np _ E C.env_ok C.good (by
    cases r with | cons h₁ r' he =>
    exact callWith_K (C.good.mono (Sub.of_hide _ S)).K hk ((ARGS.cons h₁ r' he).run env S A s pos _ E C fun vs h' tk s₁ dd => ⟨((C.mono s₁).good.mono (Sub.of_hide _ S)).K,
      h S A _ vs C.room (C.mono s₁).live (C.mono s₁).good dd Q E fun v h'' tk' s₂ r₂ => K v h'' tk' (s₁.trans s₂) r₂⟩) (he _ _) (r'.plain pos env))) (hc env)
theorem EV.list_disp {es : List Expr} {ds : List PyData} {pos : Pos} (r : ARGS w n N ρ es (ds.map Dat.py)) (hs : ds.length ≤ 1000) : EV w n N ρ (.List es pos) (Ls ds) := fun env S A s C Q E K => by
  show wpAny _ A (do standAt pos; newList (← spliced (backTo pos (starEach es env)))) Q E s
  refine wpAny_bind (wpAny_standAt (wpAny_bind (r.run env S A s pos _ E C fun vs h' tk s₁ dd => ?_)))
  have q : DPs (hideAll h' S) vs ds := by
    clear K
    induction ds generalizing vs es with
    | nil => cases dd; exact .nil
    | cons d ds ih => cases dd with | cons a b => cases r with | cons _ r' _ => exact DPs.cons a (ih r' (by simp at hs; omega) _ b)
  exact newList_to (C.mono s₁).live q (by rw [q.length]; show _ ≤ 2 ^ 24; omega) Q E fun v h'' tk' s₂ r₂ => K v h'' tk' (s₁.trans s₂) r₂
theorem EV.tuple_disp {es : List Expr} {ds : List PyData} {k : Nat} {pos : Pos} (r : ARGS w n N ρ es (ds.map Dat.py)) (hs : ds.length ≤ 1000) : EV w n N ρ (.Tuple es k pos) (Tu ds) := fun env S A s C Q E K => by
  show wpAny _ A (do standAt pos; newTuple (← spliced (backTo pos (starEach es env)))) Q E s
  refine wpAny_bind (wpAny_standAt (wpAny_bind (r.run env S A s pos _ E C fun vs h' tk s₁ dd => ?_)))
  have q : DPs (hideAll h' S) vs ds := by
    clear K
    induction ds generalizing vs es with
    | nil => cases dd; exact .nil
    | cons d ds ih => cases dd with | cons a b => cases r with | cons _ r' _ => exact DPs.cons a (ih r' (by simp at hs; omega) _ b)
  exact newTuple_to (C.mono s₁).live q (by rw [q.length]; show _ ≤ 2 ^ 24; omega) Q E fun v h'' tk' s₂ r₂ => K v h'' tk' (s₁.trans s₂) r₂
end
end RsLaw
end
section
open PySem PySem.Spec PySem.Calls PySem.W PyProof.Rows PySem.SeqAt
set_option maxRecDepth 100000
set_option linter.unusedVariables false
namespace RsLaw
open Builtin Builtin.Str
section
variable {w : World} {n : Nat} {N : List (Str × NameKind)} {ρ : Rho}

theorem EV.neg {e : Expr} {pos : Pos} {i : Int} (h : EV w n N ρ e (I i)) : EV w n N ρ (.UnaryOp .USub e pos) (I (-i)) := fun env S A s C Q E K =>
  UnaryOp_ (h env S A s C _ E fun v h' tk s₁ r => by
    obtain ⟨t, rfl⟩ := DP.int_inv r
    exact P.neg_int (K _ _ _ s₁ (DP.int _ _)))

theorem EV.item_list {e i : Expr} {pos : Pos} {xs : List PyData} {k : Int} {d : PyData} (h₁ : EV w n N ρ e (Ls xs)) (h₂ : EV w n N ρ i (I k)) (h0 : 0 ≤ k) (hk : k < 2 ^ 63) (hx : xs[k.toNat]? = some d)
    (hs : ∀ o k u, subscripted i false o (.int k u) = operate [o, .int k u] (getItem o (.int k u)) := by intro _ _ _; with_unfolding_all rfl) :
    EV w n N ρ (.Subscript e i pos) (.py d) := fun env S A s C Q E K =>
  Subscript_ (h₁ env S A s C _ E fun a g₁ t₁ s₁ r₁ => h₂ env S A _ (C.mono s₁) _ E fun b g₂ t₂ s₂ r₂ => by
    obtain ⟨t, rfl⟩ := DP.int_inv r₂
    obtain ⟨l, vs, rfl, hl, q⟩ := DP.list_inv (r₁.mono (s₂.hide S))
    obtain ⟨v, hv, dv⟩ := q.get _ hx
    obtain ⟨ol, e1, e2⟩ := hl
    have hl' : g₂.IsList l vs.toArray := ⟨ol, Sub.of_hide _ _ _ _ e1, e2⟩
    exact tail_any (s := { s with heap := g₂, toks := t₂ }) (Heap.IsList.typeIs (s := { s with heap := g₂, toks := t₂ }) hl') slot_list_getitem.lookup (wpAny_getItem_list hl' h0 hk (by simpa using hv) (K v g₂ t₂ (s₁.trans s₂) dv)) (hs _ _ _))
theorem EV.item_tuple {e i : Expr} {pos : Pos} {xs : List PyData} {k : Int} {d : PyData} (h₁ : EV w n N ρ e (Tu xs)) (h₂ : EV w n N ρ i (I k)) (h0 : 0 ≤ k) (hk : k < 2 ^ 63) (hx : xs[k.toNat]? = some d)
    (hs : ∀ o k u, subscripted i false o (.int k u) = operate [o, .int k u] (getItem o (.int k u)) := by intro _ _ _; with_unfolding_all rfl) :
    EV w n N ρ (.Subscript e i pos) (.py d) := fun env S A s C Q E K =>
  Subscript_ (h₁ env S A s C _ E fun a g₁ t₁ s₁ r₁ => h₂ env S A _ (C.mono s₁) _ E fun b g₂ t₂ s₂ r₂ => by
    obtain ⟨t, rfl⟩ := DP.int_inv r₂
    obtain ⟨l, vs, rfl, hl, q⟩ := DP.tuple_inv (r₁.mono (s₂.hide S))
    obtain ⟨v, hv, dv⟩ := q.get _ hx
    have hl' : IsTup g₂ l vs.toArray := hl.keeps (Sub.of_hide _ _)
    have hlt : k.toNat < vs.length := by
      rcases Nat.lt_or_ge k.toNat vs.length with h | h
      · exact h
      · rw [List.getElem?_eq_none h] at hv; cases hv
    refine item_tupleT (s := { s with heap := g₂, toks := t₂ }) hl' (by omega) hk (j := k.toNat) ?_ hv (K v g₂ t₂ (s₁.trans s₂) dv) (hs _ _ _)
    unfold seqIndex?
    simp only
    have : ¬ k < 0 := by omega
    simp [this]
    omega)
theorem EV.item_whites {e i : Expr} {pos : Pos} {xs : List WD} {k : Int} {d : WD} (h₁ : EV w n N ρ e (.whites xs)) (h₂ : EV w n N ρ i (I k)) (h0 : 0 ≤ k) (hk : k < 2 ^ 63) (hx : xs[k.toNat]? = some d)
    (hs : ∀ o k u, subscripted i false o (.int k u) = operate [o, .int k u] (getItem o (.int k u)) := by intro _ _ _; with_unfolding_all rfl) :
    EV w n N ρ (.Subscript e i pos) (.white d) := fun env S A s C Q E K =>
  Subscript_ (h₁ env S A s C _ E fun a g₁ t₁ s₁ r₁ => h₂ env S A _ (C.mono s₁) _ E fun b g₂ t₂ s₂ r₂ => by
    obtain ⟨t, rfl⟩ := DP.int_inv r₂
    obtain ⟨l, vs, rfl, hl, q⟩ := r₁.mono (s₂.hide S)
    have get : ∀ (xs : List WD) (vs : List Value) (j : Nat), AllW (hideAll g₂ S) vs xs → xs[j]? = some d → ∃ v, vs[j]? = some v ∧ IsWhite (hideAll g₂ S) v d := by
      intro xs vs j q hx
      induction q generalizing j with
      | nil => simp at hx
      | cons a r ih =>
        cases j with
        | zero => simp at hx; subst hx; exact ⟨_, rfl, a⟩
        | succ j => simp at hx; simpa using ih j hx
    obtain ⟨v, hv, dv⟩ := get _ _ _ q hx
    obtain ⟨ol, e1, e2⟩ := hl
    have hl' : g₂.IsList l vs.toArray := ⟨ol, Sub.of_hide _ _ _ _ e1, e2⟩
    exact tail_any (s := { s with heap := g₂, toks := t₂ }) (Heap.IsList.typeIs (s := { s with heap := g₂, toks := t₂ }) hl') slot_list_getitem.lookup (wpAny_getItem_list hl' h0 hk (by simpa using hv) (K v g₂ t₂ (s₁.trans s₂) dv)) (hs _ _ _))

/-- a slice's part -/
inductive PRT (w : World) (n : Nat) (N : List (Str × NameKind)) (ρ : Rho) : Option Expr → Option Int → Prop
  | none : PRT w n N ρ none none
  | some {e i} : EV w n N ρ e (I i) → PRT w n N ρ (some e) (some i)
theorem PRT.run {e : Option Expr} {i : Option Int} (h : PRT w n N ρ e i) (env : Env) (S : List Addr) (A : Around) (s : Shared) (Q : Value → Shared → Prop) (E : Value → Shared → Prop) (C : Cx w n N ρ env S A s.heap)
    (K : ∀ (p : Option (Int × Tok)) h' tk, Sub s.heap h' → p.map (·.1) = i → IsPart (partValue p) i → Q (partValue p) { s with heap := h', toks := tk }) : wpAny (model PR w) A (evalPart e env) Q E s := by
  cases h with
  | none => exact evalPart_none_step (K Option.none s.heap s.toks (Sub.refl _) rfl .none)
  | some h => exact evalPart_some_step (h env S A s C _ E fun v h' tk s₁ r => by
      obtain ⟨t, rfl⟩ := DP.int_inv r
      exact K (Option.some (_, t)) h' tk s₁ rfl (.int _ _))

theorem EV.slice_str {e : Expr} {lo up : Option Expr} {p pos : Pos} {x : Str} {l u : Option Int} (h : EV w n N ρ e (St x)) (hl : PRT w n N ρ lo l) (hu : PRT w n N ρ up u) (hsz : x.length ≤ sizeLine)
    (hs : ∀ o a, subscripted (.Slice lo up none p) false o (.ref a) = operate [.ref a, o] (getItem o (.ref a)) := by intro _ _; with_unfolding_all rfl) :
    EV w n N ρ (.Subscript e (.Slice lo up none p) pos) (St (Txt.slice x l u)) := fun env S A s C Q E K =>
  Subscript_ (h env S A s C _ E fun a g₁ t₁ s₁ r₁ => wpAny_Slice (hl.run env S A _ _ E (C.mono s₁) fun pl g₂ t₂ s₂ e₂ q₂ => hu.run env S A _ _ E ((C.mono s₁).mono s₂) fun pu g₃ t₃ s₃ e₃ q₃ => evalPart_none_step (by
    obtain ⟨t, rfl⟩ := DP.str_inv r₁
    subst e₂ e₃
    refine tail_any (typeIs_str _ _ _) F.slot_str_getitem.lookup ?_ (hs _ _)
    exact wpAny_getItem_str_slice (l := pl) (u := pu) (st := none) ⟨_, Heap.get?_push_size _ rfl, rfl, rfl⟩ rfl
      (post_val_or_str ⟨Nat.le_trans (Txt.slice_le x _ _) hsz, fun t' k => K _ _ k (((s₁.trans s₂).trans s₃).trans (Sub.push _ _)) (DP.str _ _)⟩))))

noncomputable def pickP (xs : List PyData) (lo hi st : Option Int) : List PyData :=
  (sliceRange (sliceBounds lo hi st xs.length).1 (sliceBounds lo hi st xs.length).2.1 (sliceBounds lo hi st xs.length).2.2).filterMap (xs[·]?)
theorem DPs.pick {h : Heap} {vs : List Value} {ds : List PyData} (r : DPs h vs ds) (lo hi st : Option Int) : DPs h (slicePick vs.toArray lo hi st).toList (pickP ds lo hi st) := by
  unfold slicePick pickP
  have e : vs.toArray.size = ds.length := by simpa using r.length
  rw [e]
  simp only [List.getElem?_toArray]
  generalize sliceRange _ _ _ = js
  induction js with
  | nil => exact .nil
  | cons j js ih =>
    simp only [List.filterMap_cons] at ih ⊢
    rcases Nat.lt_or_ge j ds.length with hj | hj
    · obtain ⟨v, hv, dv⟩ := r.get j (List.getElem?_eq_getElem hj)
      rw [hv, List.getElem?_eq_getElem hj]
      exact .cons dv ih
    · rw [List.getElem?_eq_none hj, List.getElem?_eq_none (by rw [r.length]; exact hj)]
      exact ih
theorem EV.slice_list {e : Expr} {lo up stp : Option Expr} {p pos : Pos} {xs : List PyData} {l u k : Option Int} (h : EV w n N ρ e (Ls xs)) (hl : PRT w n N ρ lo l) (hu : PRT w n N ρ up u) (hk : PRT w n N ρ stp k) (h0 : k ≠ some 0) (hsz : xs.length ≤ 1000000)
    (hs : ∀ o a, ∃ ops, subscripted (.Slice lo up stp p) false o (.ref a) = operate ops (getItem o (.ref a)) := by intro _ _; exact ⟨_, by with_unfolding_all rfl⟩) :
    EV w n N ρ (.Subscript e (.Slice lo up stp p) pos) (Ls (pickP xs l u k)) := fun env S A s C Q E K =>
  Subscript_ (h env S A s C _ E fun a g₁ t₁ s₁ r₁ => wpAny_Slice (hl.run env S A _ _ E (C.mono s₁) fun pl g₂ t₂ s₂ e₂ q₂ => hu.run env S A _ _ E ((C.mono s₁).mono s₂) fun pu g₃ t₃ s₃ e₃ q₃ =>
    hk.run env S A _ _ E (((C.mono s₁).mono s₂).mono s₃) fun pk g₄ t₄ s₄ e₄ q₄ => (by
    have s₅ : Sub g₄ (g₄.push { cls := .type "slice", data := .fields #[partValue pl, partValue pu, partValue pk] }) := Sub.push _ _
    obtain ⟨al, vs, rfl, hL, q⟩ := DP.list_inv (r₁.mono ((((s₂.trans s₃).trans s₄).trans s₅).hide S))
    obtain ⟨ol, e1, e2⟩ := hL
    have hl' := Heap.IsList.typeIs (s := { s with heap := g₄.push { cls := .type "slice", data := .fields #[partValue pl, partValue pu, partValue pk] }, toks := t₄ }) (a := al) (items := vs.toArray) ⟨ol, Sub.of_hide _ _ _ _ e1, e2⟩
    obtain ⟨ops, he⟩ := hs (.ref al) g₄.objs.size
    refine tail_any (ops := ops) hl' slot_list_getitem.lookup ?_ he
    have len : vs.length = xs.length := q.length
    refine wpAny_getItem_list_slice (lo := l) (hi := u) (st := k) ⟨ol, Sub.of_hide _ _ _ _ e1, e2⟩ (Heap.IsSliceOf.new ..) q₂ q₃ q₄ h0 ?_ (by rw [List.size_toArray, len]; show _ ≤ 2 ^ 24; omega)
    have lv : Live S (g₄.push { cls := .type "slice", data := .fields #[partValue pl, partValue pu, partValue pk] }) := (((((C.mono s₁).mono s₂).mono s₃).mono s₄).mono s₅).live
    refine K _ _ _ (((((s₁.trans s₂).trans s₃).trans s₄).trans s₅).trans (Sub.push _ _)) (DP.list (vs := (slicePick vs.toArray l u k).toList) ⟨_, get_new lv rfl, rfl, 0, by simp⟩ ((q.pick l u k).mono ((Sub.push _ _).hide S))))))

/-- a method of a text -/
theorem EV.str_meth1 {o e : Expr} {name : Str} {id : String} {apos pos : Pos} {x : Str} {d₁ d : Dat} (h : EV w n N ρ o (St x)) (r : EV w n N ρ e d₁) (hm : FNv w n (.builtin id) [St x, d₁] d)
    (gm : ∀ {A : Around} {E : Value → Shared → Prop} {s : Shared} {t : Tok} {pl : Sem Bool} {Q : Value × List Value → Shared → Prop}, Q (.builtin id, [.str x t]) s → wpAny (model PR w) A (getMethod (.str x t) name pl) Q E s)
    (hc : ∀ env, eval (.Call (.Attribute o name apos) [e] [] pos) env = (do
      let ov ← eval o env
      standAt apos.atName
      let (f, first) ← holding [ov] (getMethod ov name (do return (← importBound o env).getD true))
      callWith pos f first (backTo pos (starEach [e] env)) []) := by intro _; rfl)
    (he : ∀ env rest, starEach (e :: rest) env = (false, eval e env) :: starEach rest env := by intro _ _; rfl) :
    EV w n N ρ (.Call (.Attribute o name apos) [e] [] pos) d := fun env S A s C Q E K =>
  MethodCall_ (pl := (do return (← importBound o env).getD true)) (h env S A s C _ E fun v g₁ t₁ s₁ r₁ => by
    obtain ⟨t, rfl⟩ := DP.str_inv r₁
    refine gm ?_
    exact callWith_method1 ((ARGS.cons r .nil he).run env S A _ pos _ E (C.mono s₁) fun vs g₂ t₂ s₂ dd => hm S A { s with heap := g₂, toks := t₂ } ([.str x t] ++ vs) C.room ((C.mono s₁).mono s₂).live ((C.mono s₁).mono s₂).good (.cons (show D _ (.str x t) (St x) from DP.str _ _) dd) Q E fun v h' tk s₃ r₃ => K v h' tk ((s₁.trans s₂).trans s₃) r₃) (he _ _) rfl) (hc env)
theorem EV.str_meth0 {o : Expr} {name : Str} {id : String} {apos pos : Pos} {x : Str} {d : Dat} (h : EV w n N ρ o (St x)) (hm : FNv w n (.builtin id) [St x] d)
    (gm : ∀ {A : Around} {E : Value → Shared → Prop} {s : Shared} {t : Tok} {pl : Sem Bool} {Q : Value × List Value → Shared → Prop}, Q (.builtin id, [.str x t]) s → wpAny (model PR w) A (getMethod (.str x t) name pl) Q E s)
    (hc : ∀ env, eval (.Call (.Attribute o name apos) [] [] pos) env = (do
      let ov ← eval o env
      standAt apos.atName
      let (f, first) ← holding [ov] (getMethod ov name (do return (← importBound o env).getD true))
      callWith pos f first (backTo pos (starEach [] env)) []) := by intro _; rfl) :
    EV w n N ρ (.Call (.Attribute o name apos) [] [] pos) d := fun env S A s C Q E K =>
  MethodCall_ (pl := (do return (← importBound o env).getD true)) (h env S A s C _ E fun v g₁ t₁ s₁ r₁ => by
    obtain ⟨t, rfl⟩ := DP.str_inv r₁
    refine gm ?_
    exact callWith_method0 (hm S A { s with heap := g₁, toks := t₁ } [.str x t] C.room (C.mono s₁).live (C.mono s₁).good (.cons (show D _ (.str x t) (St x) from DP.str _ _) .nil) Q E fun v h' tk s₃ r₃ => K v h' tk (s₁.trans s₃) r₃)) (hc env)

theorem strVals {h : Heap} : ∀ (l : List (Str × Tok)), DPs h (strValues l) ((l.map (·.1)).map PyData.str)
  | [] => .nil
  | (x, t) :: r => .cons (DP.str x t) (strVals r)
theorem split_raw {x y : Str} {t u : Tok} {A : Around} {s : Shared} {Q : Value → Shared → Prop} {E : Value → Shared → Prop} (hy : (y.length == 0) = false)
    (hq : ∀ l k, l.map (·.1) = Txt.split x y → Q (.ref s.heap.objs.size) { s with heap := s.heap.push { cls := .type "list", data := .seq (strValues l).toArray }, toks := k })
    (hsz : x.length ≤ sizeLine) (hsz2 : (partsBetween x (occurrences x y 0 x.length (x.length + 1)) y.length).length ≤ sizeLine) : wpAny (model PR w) A (call (.builtin "str.split") [.str x t, .str y u]) Q E s := by
  cases h1 : (decide (x.length < y.length) || decide (Builtin.Str.strKind x < Builtin.Str.strKind y))
  · cases hf : (occurrences x y 0 x.length (x.length + 1)).isEmpty
    · refine call_meets F.slot_str_split (typeIs_str _ _ _) F.entry_str_split (F.args_str_split_2 _ _) (meets_str_split_sep x y t u h1 hy hf hsz hsz2) ?_
      show wants Q E _ { s with toks := _, heap := s.heap.push { cls := .type "list", data := .seq (strsFrom s.toks (partsBetween x (occurrences x y 0 x.length (x.length + 1)) y.length)).toArray } }
      rw [strsFrom_eq]
      exact hq (numbered s.toks _) _ ((numbered_texts _ _).trans ((if_neg (ne_true_of_eq_false h1)).trans (if_neg (ne_true_of_eq_false hf))).symm)
    · exact call_meets F.slot_str_split (typeIs_str _ _ _) F.entry_str_split (F.args_str_split_2 _ _) (meets_str_split_not_found x y t u h1 hy hf)
        (hq [(x, t)] _ ((if_neg (ne_true_of_eq_false h1)).trans (if_pos hf)).symm)
  · exact call_meets F.slot_str_split (typeIs_str _ _ _) F.entry_str_split (F.args_str_split_2 _ _) (meets_str_split_cannot_occur x y t u h1)
      (hq [(x, t)] _ (if_pos h1).symm)
theorem fn_split {x y : Str} (hy : (y.length == 0) = false) (hsz : x.length ≤ sizeLine) (hsz2 : (partsBetween x (occurrences x y 0 x.length (x.length + 1)) y.length).length ≤ sizeLine) :
    FNv w n (.builtin "str.split") [St x, St y] (.py (strsP (Txt.split x y))) := FNv.two fun S A s a b hA l g ha hb => by
  obtain ⟨t, rfl⟩ := DP.str_inv ha; obtain ⟨u, rfl⟩ := DP.str_inv hb
  intro Q E K
  refine split_raw hy (fun l' k e => K _ _ k (Sub.push _ _) ?_) hsz hsz2
  have := strVals (h := hideAll (s.heap.push { cls := .type "list", data := .seq (strValues l').toArray }) S) l'
  rw [e] at this
  exact DP.list ⟨_, get_new l rfl, rfl, _, rfl⟩ this
theorem fn_lower {x : Str} (hf : tooLong (Txt.lower x).length = false) : FNv w n (.builtin "str.lower") [St x] (St (Txt.lower x)) := FNv.one fun S A s a hA l g ha => by
  obtain ⟨t, rfl⟩ := DP.str_inv ha
  exact To.str fun Q E K => SC.lower hf (K _ _)
theorem fn_partition {x y : Str} (hy : (y.length == 0) = false) (hsz : x.length ≤ sizeLine) :
    FNv w n (.builtin "str.partition") [St x, St y] (Tu [.str (Txt.partition x y).1, .str (Txt.partition x y).2.1, .str (Txt.partition x y).2.2]) := FNv.two fun S A s a b hA l g ha hb => by
  obtain ⟨t, rfl⟩ := DP.str_inv ha; obtain ⟨u, rfl⟩ := DP.str_inv hb
  intro Q E K
  have h' : ∀ ta tb tc k, Q (.ref s.heap.objs.size) { s with heap := s.heap.push { cls := .type "tuple", data := .seq [.str (Txt.partition x y).1 ta, .str (Txt.partition x y).2.1 tb, .str (Txt.partition x y).2.2 tc].toArray }, toks := k } := fun ta tb tc k =>
    K _ _ k (Sub.push _ _) (DP.tuple ⟨_, get_new l rfl, rfl, _, rfl⟩ (.cons (DP.str _ _) (.cons (DP.str _ _) (.cons (DP.str _ _) .nil))))
  refine call_meets F.slot_str_partition (typeIs_str _ _ _) F.entry_str_partition (F.args_str_partition_2 _ _) (meets_str_partition x y t u hy hsz) ?_
  unfold Txt.partition at h'
  revert h'
  cases occurrences x y 0 x.length 1 with
  | nil => intro h'; exact h' _ _ _ _
  | cons i r => intro h'; exact h' _ _ _ _
theorem strsAre_of {h : Heap} : ∀ {ss : List Str} {vs : List Value}, DPs h vs (ss.map PyData.str) → StrsAre vs ss
  | [], _, r => by rw [r.unnil]; exact .nil
  | x :: ss, _, r => by obtain ⟨v, vs', rfl, a, r'⟩ := r.uncons; obtain ⟨t, rfl⟩ := DP.str_inv a; exact .cons x t (strsAre_of r')
theorem of_strsAre {h : Heap} : ∀ {ss : List Str} {vs : List Value}, StrsAre vs ss → DPs h vs (ss.map PyData.str)
  | _, _, .nil => .nil
  | _, _, .cons x t r => .cons (DP.str _ _) (of_strsAre r)
theorem fn_join {x : Str} {ys : List Str} (hok : (ys.map (·.length)).sum + ys.length * x.length ≤ 16777216) : FNv w n (.builtin "str.join") [St x, .py (strsP ys)] (St (Txt.join x ys)) := FNv.two fun S A s a b hA l g ha hb => by
  obtain ⟨t, rfl⟩ := DP.str_inv ha
  obtain ⟨al, vs, rfl, hl, q⟩ := DP.list_inv (DP.mono (Sub.of_hide _ _) hb)
  exact To.str fun Q E K => join_list hl (by simpa using strsAre_of q) hok (fun t' k => K _ _)
theorem fn_sorted {ss : List Str} (h64 : ss.length < 64) {r : List Str} (hr : ∀ ss', ss'.Perm ss → sortedS ss' = true → ss' = r) : FNv w n (.builtin "sorted") [.py (strsP ss)] (.py (strsP r)) := FNv.one fun S A s a hA l g ha => by
  obtain ⟨al, vs, rfl, hl, q⟩ := DP.list_inv (DP.mono (Sub.of_hide _ _) ha)
  intro Q E K
  have hs := strsAre_of q
  refine sorted_strs hl hs (by rw [q.length]; simpa using h64) fun out ss' h1 h2 h3 => ?_
  obtain ⟨e, he⟩ := sortedAll_at s.heap vs out
  rw [hr ss' h2 h3] at h1
  refine K _ _ s.toks (fun _ _ => sortedAll_old) (DP.list (vs := out.toList) ⟨_, get_fresh l (Heap.get?_none_of_le (Nat.le_succ _)) he, rfl, e, ?_⟩ (of_strsAre h1))
  simp [seqObj]
theorem op_add_list {xs ys : List PyData} (hsz : xs.length + ys.length ≤ 1000000) : Op2 w n (binaryOp .Add) (Ls xs) (Ls ys) (Ls (xs ++ ys)) := fun S A s a b hA l g ha hb => by
  obtain ⟨al, vs, rfl, ⟨⟨c1, d1, t1, sl1⟩, e1, e2, n1, e3⟩, q⟩ := DP.list_inv ha
  obtain ⟨bl, us, rfl, ⟨⟨c2, d2, t2, sl2⟩, f1, f2, n2, f3⟩, q'⟩ := DP.list_inv hb
  dsimp only at e2 e3 f2 f3
  subst e2 e3 f2 f3
  intro Q E K
  have h1 := Sub.of_hide _ _ _ _ e1
  have h2 := Sub.of_hide _ _ _ _ f1
  have hz : vs.toArray.size + us.toArray.size ≤ sizeLine := by rw [List.size_toArray, List.size_toArray, q.length, q'.length]; show _ ≤ 2 ^ 24; omega
  have fin : Q (.ref s.heap.objs.size) { s with heap := s.heap.push { cls := .type "list", data := .seq (vs.toArray ++ us.toArray) } } :=
    K _ _ s.toks (Sub.push _ _) (DP.list (vs := vs ++ us) ⟨_, get_new l rfl, rfl, 0, by simp⟩ ((q.append q').mono ((Sub.push _ _).hide S)))
  exact concat_meets ⟨_, h1, rfl⟩ ⟨_, h2, rfl⟩ noFill_list_add seq_list_add F.slot_list_add F.entry_list_add (F.args_list_add_2 _ _) (list_addW al bl vs.toArray us.toArray n1 n2 d1 d2 sl1 sl2 hz) ⟨h1, h2, fin⟩
end
end RsLaw
end
section
open PySem PySem.Spec PySem.Calls PySem.W PyProof.Rows PySem.SeqAt
set_option maxRecDepth 100000
set_option linter.unusedVariables false
namespace RsLaw

theorem fill : PySem.Challenge.rw_rs0133_01.prog = PySem.Challenge.rw_rs0133_01.prog ∧ hd.heap_39 = hd.heap_39 := by
  k_fill
  exact ⟨rfl, rfl⟩

section
variable {w : World} {n : Nat} {N : List (Str × NameKind)} {ρ : Rho}

/-- an attribute of an object -/
theorem attr_own {x C dx : Addr} {name : Str} {es : List DictEntry} {k : Nat} {v : Value} {S : List Addr} {A : Around} {s : Shared} {d : Dat} {expr : Bool} (g : Good w (hideAll s.heap S))
    (hx : s.heap.get? x = some (instObj C dx)) (hdx : s.heap.get? dx = some (dictOf es k)) (hl : getL name es = some (some v)) (hv : handedIn v = true) (hD : D (hideAll s.heap S) v d) {at' : Option Value}
    (hg : plainGet (hd.heap_39 w.params) C name = true) (hh : hasDictIn (hd.heap_39 w.params) C = true) (ha : findIn (hd.heap_39 w.params) (.ref C) name = some at') (hn : noGet (hd.heap_39 w.params) at' = true) :
    To w S A s (getAttr (.ref x) name expr) d := fun Q E K =>
  get_value (g.mono (Sub.of_hide _ S)).K ⟨hx, rfl, rfl, hdx⟩ (plainGet_of hg).1 (findObj_own (od := dictOf es k) hh ha hn hl) hv (K v s.heap _ (Sub.refl _) hD)

theorem EV.attr {x : Str} {name : Str} {xp pos : Pos} {d₁ d : Dat} (h : EV w n N ρ (.Name x xp) d₁) (hop : Op1 w n (fun a => getAttr a name true) d₁ d)
    (he : ∀ env, eval (.Attribute (.Name x xp) name pos) env = (do
      let o ← eval (.Name x xp) env
      standAt pos.atName
      let r ← holding [o] (getAttr o name true)
      letTemporaryGo (.Name x xp) o r
      pure r) := by intro _; with_unfolding_all rfl) : EV w n N ρ (.Attribute (.Name x xp) name pos) d := fun env S A s C Q E K =>
  Attribute_Name_ (h env S A s C _ E fun a g₁ t₁ s₁ r₁ => hop S A { s with heap := g₁, toks := t₁ } a C.room (C.mono s₁).live (C.mono s₁).good r₁ Q E fun v h' tk s₂ r₂ => K v h' tk (s₁.trans s₂) r₂) (he env)

theorem white_n {W : WD} {e : Bool} : Op1 w n (fun a => getAttr a "n" e) (.white W) (I W.n) := fun S A s a hA l g r => by
  obtain ⟨x, dx, es, k, rfl, h1, h2, ⟨t, h3⟩, h4, h5, h6, h7⟩ := r
  exact attr_own g (Sub.of_hide _ S _ _ h1) (Sub.of_hide _ S _ _ h2) h3 rfl (DP.int _ _) (by k_is) (by k_is) (by k_is) (by k_is)
theorem white_nt {W : WD} {e : Bool} : Op1 w n (fun a => getAttr a "nt" e) (.white W) (I W.nt) := fun S A s a hA l g r => by
  obtain ⟨x, dx, es, k, rfl, h1, h2, h3, ⟨t, h4⟩, h5, h6, h7⟩ := r
  exact attr_own g (Sub.of_hide _ S _ _ h1) (Sub.of_hide _ S _ _ h2) h4 rfl (DP.int _ _) (by k_is) (by k_is) (by k_is) (by k_is)
theorem white_simple {W : WD} {e : Bool} : Op1 w n (fun a => getAttr a "is_simple" e) (.white W) (B W.simple) := fun S A s a hA l g r => by
  obtain ⟨x, dx, es, k, rfl, h1, h2, h3, h4, h5, h6, h7⟩ := r
  exact attr_own g (Sub.of_hide _ S _ _ h1) (Sub.of_hide _ S _ _ h2) h5 rfl (DP.bool _) (by k_is) (by k_is) (by k_is) (by k_is)
theorem handed_of {h : Heap} {v : Value} {d : PyData} (r : DP h v d) : handedIn v = true := by obtain ⟨_, r⟩ := r; cases r <;> rfl
theorem white_norm {W : WD} {e : Bool} : Op1 w n (fun a => getAttr a "norm" e) (.white W) (.py (normOf W)) := fun S A s a hA l g r => by
  obtain ⟨x, dx, es, k, rfl, h1, h2, h3, h4, h5, ⟨u, h6, h6'⟩, h7⟩ := r
  exact attr_own g (Sub.of_hide _ S _ _ h1) (Sub.of_hide _ S _ _ h2) h6 (handed_of h6') h6' (by k_is) (by k_is) (by k_is) (by k_is)
theorem entry_agents {l : List Str} {e : Bool} : Op1 w n (fun a => getAttr a "useragents" e) (.entry l) (.py (strsP l)) := fun S A s a hA _ g r => by
  obtain ⟨x, dx, es, k, rfl, h1, h2, ⟨u, h3, h3'⟩, h4, h5, h6, h7⟩ := r
  exact attr_own g (Sub.of_hide _ S _ _ h1) (Sub.of_hide _ S _ _ h2) h3 (handed_of h3') h3' (by k_is) (by k_is) (by k_is) (by k_is)
theorem entry_rules {l : List Str} {e : Bool} : Op1 w n (fun a => getAttr a "rulelines" e) (.entry l) (Ls []) := fun S A s a hA _ g r => by
  obtain ⟨x, dx, es, k, rfl, h1, h2, h3, ⟨u, h4, h4'⟩, h5, h6, h7⟩ := r
  exact attr_own g (Sub.of_hide _ S _ _ h1) (Sub.of_hide _ S _ _ h2) h4 (handed_of h4') h4' (by k_is) (by k_is) (by k_is) (by k_is)
theorem entry_delay {l : List Str} {e : Bool} : Op1 w n (fun a => getAttr a "delay" e) (.entry l) (.py .none) := fun S A s a hA _ g r => by
  obtain ⟨x, dx, es, k, rfl, h1, h2, h3, h4, h5, h6, h7⟩ := r
  exact attr_own g (Sub.of_hide _ S _ _ h1) (Sub.of_hide _ S _ _ h2) h5 rfl DP.none (by k_is) (by k_is) (by k_is) (by k_is)
theorem entry_rate {l : List Str} {e : Bool} : Op1 w n (fun a => getAttr a "req_rate" e) (.entry l) (.py .none) := fun S A s a hA _ g r => by
  obtain ⟨x, dx, es, k, rfl, h1, h2, h3, h4, h5, h6, h7⟩ := r
  exact attr_own g (Sub.of_hide _ S _ _ h1) (Sub.of_hide _ S _ _ h2) h6 rfl DP.none (by k_is) (by k_is) (by k_is) (by k_is)

/-- a method of an object -/
theorem EV.meth {o : Expr} {name : Str} {apos pos : Pos} {es : List Expr} {d₁ : Dat} {ds : List Dat} {d : Dat} {f C : Addr} (h : EV w n N ρ o d₁) (r : ARGS w n N ρ es ds) (hf : FNv w n (.ref f) (d₁ :: ds) d)
    (hi : ∀ h v, D h v d₁ → ∃ x dx es k, v = .ref x ∧ h.get? x = some (instObj C dx) ∧ h.get? dx = some (dictOf es k) ∧ getL name es = some none)
    (hg : plainGet (hd.heap_39 w.params) C name = true) (hm : findIn (hd.heap_39 w.params) (.ref C) name = some (some (.ref f))) (ht : isFn (hd.heap_39 w.params) (.ref f) = true) (hk : keepIn (hd.heap_39 w.params) (.ref f) = true)
    (hc : ∀ env, eval (.Call (.Attribute o name apos) es [] pos) env = (do
      let ov ← eval o env
      standAt apos.atName
      let (f, first) ← holding [ov] (getMethod ov name (do return (← importBound o env).getD true))
      callWith pos f first (backTo pos (starEach es env)) []) := by intro _; rfl) :
    EV w n N ρ (.Call (.Attribute o name apos) es [] pos) d := fun env S A s C' Q E K =>
  MethodCall_ (pl := (do return (← importBound o env).getD true)) (h env S A s C' _ E fun v g₁ t₁ s₁ r₁ => by
    obtain ⟨x, dx, ent, k, rfl, h1, h2, h3⟩ := hi _ _ r₁
    have X := ((C'.mono s₁).good.mono (Sub.of_hide _ S)).K
    refine method_fn (s := { s with heap := g₁, toks := t₁ }) (ox := instObj C dx) (od := some (dictOf ent k)) X ⟨Sub.of_hide _ S _ _ h1, rfl, rfl, Sub.of_hide _ S _ _ h2⟩ (plainGet_of hg).1 (plainGet_of hg).2 hm (beq_iff_eq.mp ht)
      (by show (lookIn name (dictOf ent k)).map _ = _; rw [lookIn_dict, h3]; rfl) ?_
    cases r with
    | nil => exact callWith_K0 X hk (hf S A { s with heap := g₁, toks := t₁ } [.ref x] C'.room (C'.mono s₁).live (C'.mono s₁).good (.cons r₁ .nil) Q E fun v h' tk s₂ r₂ => K v h' tk (s₁.trans s₂) r₂)
    | cons e₁ r' he =>
      exact callWith_K (first := [.ref x]) X hk ((ARGS.cons e₁ r' he).run env S A _ pos _ E (C'.mono s₁) fun vs g₂ t₂ s₂ dd => ⟨(((C'.mono s₁).mono s₂).good.mono (Sub.of_hide _ S)).K,
        hf S A { s with heap := g₂, toks := t₂ } (.ref x :: vs) C'.room ((C'.mono s₁).mono s₂).live ((C'.mono s₁).mono s₂).good (.cons (r₁.mono (s₂.hide S)) dd) Q E fun v h' tk s₃ r₃ => K v h' tk ((s₁.trans s₂).trans s₃) r₃⟩) (he _ _) (r'.plain pos env)) (hc env)
theorem white_inst {W : WD} {name : Str} (hm : name ∈ wMethods) : ∀ h v, D h v (.white W) → ∃ x dx es k, v = .ref x ∧ h.get? x = some (instObj 83 dx) ∧ h.get? dx = some (dictOf es k) ∧ getL name es = some none := fun h v r => by
  obtain ⟨x, dx, es, k, e, h1, h2, h3, h4, h5, h6, h7⟩ := r
  exact ⟨x, dx, es, k, e, h1, h2, h7 _ hm⟩
theorem entry_inst {l : List Str} : ∀ h v, D h v (.entry l) → ∃ x dx es k, v = .ref x ∧ h.get? x = some (instObj 125 dx) ∧ h.get? dx = some (dictOf es k) ∧ getL "applies_to" es = some none := fun h v r => by
  obtain ⟨x, dx, es, k, e, h1, h2, h3, h4, h5, h6, h7⟩ := r
  exact ⟨x, dx, es, k, e, h1, h2, h7⟩
end
end RsLaw
end
section
open PySem PySem.Spec PySem.Calls PySem.W PyProof.Rows PySem.SeqAt
set_option maxRecDepth 100000
set_option linter.unusedVariables false
namespace RsLaw

structure FS (N : List (Str × NameKind)) (env : Env) (W V S : List Addr) (h : Heap) : Prop where
  loc : ∃ m, h.Ns env.locals m
  lW : env.locals ∈ W
  cell : ∀ x c, env.cells.lookup x = some c → (∃ v, h.IsCell c v) ∧ c ∈ V ∧ c ≠ env.locals
  own : ∀ x, N.lookup x = some .cell → ∃ c, env.cells.lookup x = some c ∧ c ∈ W
  inj : ∀ x y c, N.lookup x = some .cell → env.cells.lookup x = some c → env.cells.lookup y = some c → x = y
  wV : ∀ a ∈ W, a ∈ V
  wS : ∀ a ∈ W, a ∈ S
  vl : ∀ a ∈ V, ∃ o, h.get? a = some o
theorem FS.wl {N : List (Str × NameKind)} {env : Env} {W V S : List Addr} {h : Heap} (f : FS N env W V S h) : ∀ a ∈ W, ∃ o, h.get? a = some o := fun a ha => f.vl a (f.wV a ha)
theorem FS.mono {N : List (Str × NameKind)} {env : Env} {W V S : List Addr} {h h' : Heap} (s : Sub h h') (f : FS N env W V S h) : FS N env W V S h' :=
  ⟨let ⟨m, q⟩ := f.loc; ⟨m, q.keeps s⟩, f.lW, fun x c e => let ⟨⟨v, q⟩, r⟩ := f.cell x c e; ⟨⟨v, q.keeps s⟩, r⟩, f.own, f.inj, f.wV, f.wS, fun a ha => let ⟨o, e⟩ := f.vl a ha; ⟨o, s _ _ e⟩⟩
theorem FS.bigger {N : List (Str × NameKind)} {env : Env} {W V S S' : List Addr} {h : Heap} (f : FS N env W V S h) (hs : ∀ a ∈ W, a ∈ S') : FS N env W V S' h := ⟨f.loc, f.lW, f.cell, f.own, f.inj, f.wV, hs, f.vl⟩

inductive Out where
  | next (ρ : Rho)
  | ret (d : Dat)
  | brk (ρ : Rho)
noncomputable def OutOK (o : Out) (fl : Flow) (env : Env) (h : Heap) (S : List Addr) : Prop := match o, fl with
  | .next ρ, .next => EnvRel ρ env h S
  | .ret d, .ret v => D (hideAll h S) v d
  | .brk ρ, .brk => EnvRel ρ env h S
  | _, _ => False

section
variable {w : World} {n : Nat} {N : List (Str × NameKind)} {ρ : Rho} {env : Env} {W V S : List Addr} {A : Around} {N₂ : List (Str × NameKind)}

theorem Cx.after {h h' : Heap} {ρ' : Rho} (C : Cx w n N ρ env S A h) (F : FS N₂ env W V S h) (k : Keep W h h') (F' : FS N₂ env W V S h') (r : EnvRel ρ' env h' S) : Cx w n N ρ' env S A h' :=
  ⟨C.env_ok, fun a ha => by
    by_cases hw : a ∈ W
    · exact F'.wl a hw
    · obtain ⟨o, e⟩ := C.live a ha; exact ⟨o, k a o hw e⟩, C.good.mono (k.hide F.wS), r, C.room⟩
theorem Cx.less {h : Heap} {ρ' : Rho} (C : Cx w n N ρ env S A h) (hs : ∀ x d, ρ'.lookup x = some d → ρ.lookup x = some d) : Cx w n N ρ' env S A h :=
  ⟨C.env_ok, C.live, C.good, fun x d e => C.vars x d (hs x d e), C.room⟩

theorem store_run {s : Shared} {x : Str} {v : Value} {d : Dat} (C : Cx w n N ρ env S A s.heap) (F : FS N₂ env W V S s.heap) (hk : N.lookup x = some .local ∨ N.lookup x = some .cell) (hk2 : N₂.lookup x = N.lookup x) (hv : D (hideAll s.heap S) v d)
    {Q : Unit → Shared → Prop} {E : Value → Shared → Prop} (K : ∀ h' tk, Keep W s.heap h' → FS N₂ env W V S h' → EnvRel ((x, d) :: ρ) env h' S → Q () { s with heap := h', toks := tk }) : wpAny (model PR w) A (storeName env x v) Q E s := by
  rcases hk with hk | hk
  · obtain ⟨m, hn⟩ := F.loc
    refine wpAny_storeName_local ((C.env_ok.knd x).trans hk) hn (fun h' hn' hs => ?_) (by rw [C.env_ok.kind]; rfl)
    have kp : Keep W s.heap h' := fun b o hb e => (hs.2 b (fun q => hb (q ▸ F.lW))).trans e
    refine K h' _ kp ⟨⟨_, hn'⟩, F.lW, fun y c e => ?_, F.own, F.inj, F.wV, F.wS, fun a ha => ?_⟩ fun y d' hy => ?_
    · obtain ⟨⟨u, q⟩, r1, r2⟩ := F.cell y c e
      exact ⟨⟨u, q.sameBut hs r2⟩, r1, r2⟩
    · by_cases q : a = env.locals
      · subst q; obtain ⟨o, _, _, e, _⟩ := hn'; exact ⟨o, e⟩
      · obtain ⟨o, e⟩ := F.vl a ha; exact ⟨o, (hs.2 a q).trans e⟩
    · rw [List.lookup_cons] at hy
      cases q : y == x with
      | true =>
        rw [q] at hy
        cases hy
        have q' : y = x := by simpa using q
        exact ⟨v, .loc _ ((C.env_ok.knd y).trans (q' ▸ hk)) hn' (by simp [q']), hv.mono (kp.hide F.wS)⟩
      | false =>
        rw [q] at hy
        have q' : ¬ y = x := by simpa using q
        obtain ⟨u, hu, du⟩ := C.vars y d' hy
        refine ⟨u, ?_, du.mono (kp.hide F.wS)⟩
        cases hu with
        | loc m₂ a b c =>
          have : m₂ = m := b.eq_nsMap.trans hn.eq_nsMap.symm
          subst this
          exact .loc _ a hn' (by simp [q', c])
        | cell c a b e => exact .cell c a b (e.sameBut hs (F.cell y c b).2.2)
  · obtain ⟨c, hc, cW⟩ := F.own x (hk2.trans hk)
    obtain ⟨⟨u, hu⟩, cV, cL⟩ := F.cell x c hc
    refine wpAny_storeName_cell C.env_ok.kind ((C.env_ok.knd x).trans hk) hc hu fun h' hn' hs => ?_
    have kp : Keep W s.heap h' := fun b o hb e => (hs.2 b (fun q => hb (q ▸ cW))).trans e
    refine K h' s.toks kp ⟨?_, F.lW, fun y c' e => ?_, F.own, F.inj, F.wV, F.wS, fun a ha => ?_⟩ fun y d' hy => ?_
    · obtain ⟨m, hm⟩ := F.loc; exact ⟨m, hm.sameBut hs (Ne.symm cL)⟩
    · obtain ⟨⟨u', q⟩, r1, r2⟩ := F.cell y c' e
      by_cases z : c' = c
      · subst z; exact ⟨⟨_, hn'⟩, r1, r2⟩
      · exact ⟨⟨u', q.sameBut hs z⟩, r1, r2⟩
    · by_cases q : a = c
      · subst q; obtain ⟨o, e, _⟩ := hn'; exact ⟨o, e⟩
      · obtain ⟨o, e⟩ := F.vl a ha; exact ⟨o, (hs.2 a q).trans e⟩
    · rw [List.lookup_cons] at hy
      cases q : y == x with
      | true =>
        rw [q] at hy
        cases hy
        have q' : y = x := by simpa using q
        subst q'
        exact ⟨v, .cell c (.inl ((C.env_ok.knd y).trans hk)) hc hn', hv.mono (kp.hide F.wS)⟩
      | false =>
        rw [q] at hy
        have q' : ¬ y = x := by simpa using q
        obtain ⟨u', hu', du⟩ := C.vars y d' hy
        refine ⟨u', ?_, du.mono (kp.hide F.wS)⟩
        cases hu' with
        | loc m₂ a b e => exact .loc _ a (b.sameBut hs (Ne.symm cL)) e
        | cell c' a b e => exact .cell c' a b (e.sameBut hs fun z => q' (F.inj x y c (hk2.trans hk) hc (z ▸ b)).symm)
end

noncomputable def EX (w : World) (n : Nat) (N : List (Str × NameKind)) (ρ : Rho) (st : List Stmt) (o : Out) : Prop :=
  ∀ (env : Env) (W V S : List Addr) (A : Around) (s : Shared), Cx w n N ρ env S A s.heap → FS N env W V S s.heap → ∀ (Q : Flow → Shared → Prop) (E : Value → Shared → Prop),
    (∀ fl h' tk, Keep W s.heap h' → FS N env W V S h' → OutOK o fl env h' S → Q fl { s with heap := h', toks := tk }) → wpAny (model PR w) A (execs st env) Q E s
noncomputable def EX1 (w : World) (n : Nat) (N : List (Str × NameKind)) (ρ : Rho) (st : Stmt) (o : Out) : Prop :=
  ∀ (env : Env) (W V S : List Addr) (A : Around) (s : Shared), Cx w n N ρ env S A s.heap → FS N env W V S s.heap → ∀ (Q : Flow → Shared → Prop) (E : Value → Shared → Prop),
    (∀ fl h' tk, Keep W s.heap h' → FS N env W V S h' → OutOK o fl env h' S → Q fl { s with heap := h', toks := tk }) → wpAny (model PR w) A (exec st env) Q E s

section
variable {w : World} {n : Nat} {N : List (Str × NameKind)} {ρ ρ' : Rho}
theorem EX.nil : EX w n N ρ [] (.next ρ) := fun env W V S A s C F Q E K => wpAny_execs_nil (K .next s.heap s.toks (fun _ _ _ e => e) F C.vars)
theorem EX.cons {st : Stmt} {rest : List Stmt} {o : Out} (h₁ : EX1 w n N ρ st (.next ρ')) (h₂ : EX w n N ρ' rest o) : EX w n N ρ (st :: rest) o := fun env W V S A s C F Q E K =>
  wpAny_execs_cons (h₁ env W V S A s C F _ E fun fl h' tk k F' r => by
    cases fl with
    | next => exact h₂ env W V S A { s with heap := h', toks := tk } (C.after F k F' r) F' Q E fun fl h'' tk' k' F'' r' => K fl h'' tk' (k.trans k') F'' r'
    | _ => exact r.elim)
theorem EX.ret {st : Stmt} {rest : List Stmt} {d : Dat} (h₁ : EX1 w n N ρ st (.ret d)) : EX w n N ρ (st :: rest) (.ret d) := fun env W V S A s C F Q E K =>
  wpAny_execs_cons (h₁ env W V S A s C F _ E fun fl h' tk k F' r => by
    cases fl with
    | ret v => exact K _ h' tk k F' r
    | _ => exact r.elim)
theorem EX.less {st : List Stmt} {o : Out} (hs : ∀ x d, ρ'.lookup x = some d → ρ.lookup x = some d) (h : EX w n N ρ' st o) : EX w n N ρ st o := fun env W V S A s C F Q E K => h env W V S A s (C.less hs) F Q E K
theorem EX1.assign {x : Str} {px pos : Pos} {e : Expr} {d : Dat} (h : EV w n N ρ e d) (hk : N.lookup x = some .local ∨ N.lookup x = some .cell)
    (hs : ∀ env, EnvOK N env → swapsWith e (some (.Name x px)) pos.line env = pure false := by intro _ _; rfl) : EX1 w n N ρ (.Assign [.Name x px] e pos) (.next ((x, d) :: ρ)) := fun env W V S A s C F Q E K =>
  wpAny_Assign_Name (h env S A s C _ E fun v h' tk s₁ r => store_run (C.mono s₁) (F.mono s₁) hk rfl r fun h'' tk' k F' r' => K .next h'' tk' ((Keep.of_sub s₁).trans k) F' r') (hs env C.env_ok)
theorem EX1.ret {e : Expr} {pos : Pos} {d : Dat} (h : EV w n N ρ e d) : EX1 w n N ρ (.Return (some e) pos) (.ret d) := fun env W V S A s C F Q E K =>
  wpAny_Return_some (h env S A s C _ E fun v h' tk s₁ r => K (.ret v) h' tk (Keep.of_sub s₁) (F.mono s₁) r)
theorem EX1.ite {t : Expr} {body orelse : List Stmt} {pos : Pos} {c : Bool} {o : Out} (ht : TST w n N ρ t c) (ha : c = true → EX w n N ρ body o) (hb : c = false → EX w n N ρ orelse o) : EX1 w n N ρ (.If t body orelse pos) o := fun env W V S A s C F Q E K =>
  wpAny_If (ht env S A s C _ E fun h' tk s₁ => by
    cases c with
    | true => exact ha rfl env W V S A _ (C.mono s₁) (F.mono s₁) Q E fun fl h'' tk' k F' r => K fl h'' tk' ((Keep.of_sub s₁).trans k) F' r
    | false => exact hb rfl env W V S A _ (C.mono s₁) (F.mono s₁) Q E fun fl h'' tk' k F' r => K fl h'' tk' ((Keep.of_sub s₁).trans k) F' r)
theorem DD.lookup {h : Heap} : ∀ {ps : List Str} {vs : List Value} {ds : List Dat} {x : Str} {d : Dat}, DD h vs ds → (ps.zip ds).lookup x = some d → ∃ v, (ps.zip vs).lookup x = some v ∧ D h v d
  | [], _, _, _, _, _, e => by simp at e
  | p :: ps, _, _, _, _, .nil, e => by simp at e
  | p :: ps, _, _, x, d, .cons a r, e => by
    simp only [List.zip_cons_cons, List.lookup_cons] at e ⊢
    cases q : x == p with
    | true => rw [q] at e; cases e; exact ⟨_, rfl, a⟩
    | false => rw [q] at e; exact DD.lookup r e
theorem lookup_app {α : Type} (x : Str) : ∀ (l₁ l₂ : List (Str × α)), (l₁ ++ l₂).lookup x = (l₁.lookup x).or (l₂.lookup x)
  | [], _ => by simp
  | (y, v) :: l, l₂ => by
    simp only [List.cons_append, List.lookup_cons]
    cases x == y with
    | true => rfl
    | false => exact lookup_app x l l₂
theorem lookup_none_of {α : Type} {x : Str} : ∀ {l : List (Str × α)}, x ∉ l.map (·.1) → l.lookup x = none
  | [], _ => rfl
  | (y, v) :: l, h => by
    simp only [List.map_cons, List.mem_cons, not_or] at h
    simp only [List.lookup_cons]
    have : (x == y) = false := by simpa using h.1
    rw [this]; exact lookup_none_of h.2
theorem lookup_rev {α : Type} {x : Str} : ∀ {l : List (Str × α)}, (l.map (·.1)).Nodup → l.reverse.lookup x = l.lookup x
  | [], _ => rfl
  | (y, v) :: l, h => by
    obtain ⟨h1, h2⟩ := List.nodup_cons.mp h
    rw [List.reverse_cons, lookup_app, lookup_rev h2]
    simp only [List.lookup_cons, List.lookup_nil]
    cases q : x == y with
    | true =>
      have q' : x = y := by simpa using q
      subst q'
      rw [lookup_none_of h1]; rfl
    | false => simp
theorem zip_keys {α : Type} : ∀ {ps : List Str} {vs : List α}, vs.length = ps.length → (ps.zip vs).map (·.1) = ps
  | [], _, _ => by simp
  | p :: ps, [], h => by simp at h
  | p :: ps, v :: vs, h => by simp at h; simp [zip_keys h]
theorem DD.length {h : Heap} : ∀ {vs : List Value} {ds : List Dat}, DD h vs ds → vs.length = ds.length
  | _, _, .nil => rfl
  | _, _, .cons _ r => by simp [r.length]

/-- a call of a def of the text: by its body -/
theorem FNv.of_def {name qual : Str} {params : Arguments} {body : List Stmt} {scope : Scope} {dV kV doc pm cdv ct oc : Value} {an od : Option Addr} {osl : Array (Option Value)} {f : Addr} {ps : List Str} {ds : List Dat} {d : Dat}
    (ho : (hd.heap_39 w.params).lookup f = some ⟨oc, od, .func (fnOf name qual params body scope dV kV doc pm an cdv ct), osl⟩) (hcd : codeIn (hd.heap_39 w.params) cdv qual = true)
    (hb : ∀ vs : List Value, vs.length = ps.length → bindArgs (fnOf name qual params body scope dV kV doc pm an cdv ct) ⟨vs, []⟩ = pure (ps.zip vs)) (hl : ds.length = ps.length) (hnd : ps.Nodup)
    (hloc : ∀ p ∈ ps, scope.names.lookup p = some .local) (hcell : ∀ x ∈ scope.names, x.2 ≠ .cell)
    (h : EX w n scope.names (ps.zip ds) body (.ret d))
    (hco : scope.isCoroutine = false) (hgen : scope.isGenerator = false) (hk : scope.kind = .function) : FNv w (n + 1) (.ref f) ds d := fun S A s vs hA l g dd => by
  intro Q E K
  have X := g.mono (Sub.of_hide _ S)
  have len : vs.length = ps.length := dd.length.trans hl
  refine wpAny_call (codeAny_call_def (binds := ps.zip vs) hA.room (X.K _ _ ho) rfl (by obtain ⟨_, _, _, _, z, _⟩ := X.top; exact z) (codeRec_of X.K hcd) rfl (BindsTo.of_eq (hb vs len)) hcell (fun x hx => hloc _ (by
    have := List.mem_map_of_mem (f := (·.1)) hx
    rwa [zip_keys len] at this)) (fun h₀ hns hk₁ => ?_) hco hgen hk)
  generalize hL : s.heap.objs.size = L at hns
  have lt : ∀ a ∈ S, a ≠ L := fun a ha e => by obtain ⟨o, q⟩ := l a ha; have z := Heap.lt_size q; rw [hL, e] at z; exact Nat.lt_irrefl _ z
  have sub : Sub (hideAll s.heap S) (hideAll h₀ (L :: S)) := fun b o e => hideAll_get _ (hk₁ b o (of_hideAll _ e)) fun hm => by
    rcases List.mem_cons.mp hm with q | q
    · have z := Heap.lt_size (of_hideAll _ e); rw [hL, q] at z; exact Nat.lt_irrefl _ z
    · exact not_mem_of_hide e q
  have live : Live (L :: S) h₀ := fun a ha => by
    rcases List.mem_cons.mp ha with q | q
    · subst q; obtain ⟨o, _, _, e, _⟩ := hns; exact ⟨o, e⟩
    · obtain ⟨o, e⟩ := l a q; exact ⟨o, hk₁ _ _ e⟩
  refine wpAny_mono (h (callEnv (fnOf name qual params body scope dV kV doc pm an cdv ct) L f) [L] [L] (L :: S) (A.deeper (callEnv (fnOf name qual params body scope dV kV doc pm an cdv ct) L f)) { s with heap := h₀, toks := s.toks + (ps.zip vs).length }
    ⟨⟨hk, fun _ => rfl, rfl, rfl⟩, live, g.mono sub, fun x d' e => ?_, ⟨hA.handled, by have := hA.depth; show A.depth + 1 + 2 * n < 1000; omega, by have := hA.units; show A.units + 3 + 100 + 10 * n < 9900; omega⟩⟩
    ⟨⟨_, hns⟩, List.mem_singleton.mpr rfl, (fun x c e => by cases e), (fun x e => absurd rfl (hcell (x, .cell) (by
      clear h K hb
      generalize scope.names = N' at e
      induction N' with
      | nil => simp at e
      | cons p r ih =>
        obtain ⟨y, k⟩ := p
        simp only [List.lookup_cons] at e
        cases q : x == y with
        | true => rw [q] at e; cases e; have : x = y := by simpa using q
                  subst this; exact .head _
        | false => rw [q] at e; exact .tail _ (ih e)))), (fun x y c _ e => by cases e), (fun a ha => ha), (fun a ha => by rw [List.mem_singleton.mp ha]; exact .head _), (fun a ha => by rw [List.mem_singleton.mp ha]; exact live _ (.head _))⟩ _ (fun _ _ => False)
    fun fl h' tk k F' r => ?_) (fun _ _ z => z) fun _ _ z => z.elim
  · obtain ⟨v, hv, dv⟩ := dd.lookup e
    refine ⟨v, .loc _ (hloc x ?_) hns ?_, dv.mono sub⟩
    · have : x ∈ (ps.zip ds).map (·.1) := by
        by_cases hm : x ∈ (ps.zip ds).map (·.1)
        · exact hm
        · rw [lookup_none_of hm] at e; cases e
      rwa [zip_keys hl] at this
    · rw [lookup_rev (by rw [zip_keys len]; exact hnd)]; exact hv
  · cases fl with
    | ret v =>
      refine K v h' tk (fun b o e => k b o (fun hm => ?_) (hk₁ b o e)) (D.mono (fun b o e => hideAll_get _ (of_hideAll _ e) fun hm => not_mem_of_hide e (.tail _ hm)) r)
      have z := Heap.lt_size e
      rw [hL, List.mem_singleton.mp hm] at z; exact Nat.lt_irrefl _ z
    | _ => exact r.elim
end
end RsLaw
end
section
open PySem PySem.Spec PySem.Calls PySem.W PyProof.Rows PySem.SeqAt
set_option maxRecDepth 100000
set_option linter.unusedVariables false
namespace RsLaw

structure Walker (w : World) (A : Around) (S : List Addr) (h₀ h₂ : Heap) (I : Addr) (items : List Dat) (fp : List Addr) (P : Nat → Value → Prop) (St : Nat → Heap → Prop) : Prop where
  walk : Walks PR w A I fp [I] items.length P St
  start : St 0 h₂
  sub : Sub h₀ h₂
  fresh : h₀.get? I = none
  alive : ∀ i h, St i h → ∃ o, h.get? I = some o
  foot : ∀ b ∈ fp, b = I ∨ ∃ o, (hideAll h₀ S).get? b = some o
  item : ∀ i v, i < items.length → P i v → ∃ d, items[i]? = some d ∧ ∀ h', Sub (hideAll h₀ S) h' → D h' v d
noncomputable def Iters (w : World) (n : Nat) (src : Dat) (items : List Dat) : Prop :=
  ∀ (S : List Addr) (A : Around) (s : Shared) (v : Value), okA n A → Live S s.heap → Good w (hideAll s.heap S) → D (hideAll s.heap S) v src → ∀ (Q : Value → Shared → Prop) (E : Value → Shared → Prop),
    (∀ I fp h₂ tk P St, Walker w A S s.heap h₂ I items fp P St → Q (.ref I) { s with heap := h₂, toks := tk }) → wpAny (model PR w) A (pyIter v) Q E s

section
variable {w : World} {n : Nat}
theorem iters_list {xs : List PyData} : Iters w n (Ls xs) (xs.map Dat.py) := fun S A s v hA l g r Q E K => by
  obtain ⟨a, vs, rfl, hl, q⟩ := DP.list_inv r
  obtain ⟨ol, e1, e2⟩ := hl
  have hl' : s.heap.IsList a vs.toArray := ⟨ol, Sub.of_hide _ _ _ _ e1, e2⟩
  have hlt : a < s.heap.objs.size := Heap.lt_size (Sub.of_hide _ _ _ _ e1)
  refine wpAny_pyIter_list hl' (K _ [s.heap.objs.size, a] _ s.toks (fun i v => vs.toArray[i]? = some v) (fun i h => h.IsListIter s.heap.objs.size a i ∧ h.IsList a vs.toArray) ⟨?_, ?_, Sub.push _ _, get_size, (fun i h st => by obtain ⟨o, e, _⟩ := st.1; exact ⟨o, e⟩), fun b hb => ?_, fun i v hi hp => ?_⟩)
  · have W := Walks.list (prog := PR) (w := w) hA.handled s.heap.objs.size a (Nat.ne_of_lt hlt) vs.toArray
    have e : vs.toArray.size = (xs.map Dat.py).length := by simp [q.length]
    rw [e] at W
    exact W
  · exact ⟨⟨_, Heap.get?_push_size _ rfl, rfl, rfl⟩, hl'.push _⟩
  · rcases List.mem_cons.mp hb with h | h
    · exact .inl h
    · rw [List.mem_singleton.mp h]; exact .inr ⟨ol, e1⟩
  · have hp' : vs[i]? = some v := by simpa using hp
    have hi' : i < xs.length := by simpa using hi
    obtain ⟨u, hu, du⟩ := q.get i (List.getElem?_eq_getElem hi')
    rw [hp'] at hu; cases hu
    exact ⟨.py xs[i], by simp [hi'], fun h' sb => DP.mono sb du⟩
noncomputable def signs (x : Str) : List Str := x.cps.toList.map fun c => ⟨#[c]⟩
theorem iters_str {x : Str} : Iters w n (St x) ((signs x).map St) := fun S A s v hA l g r Q E K => by
  obtain ⟨t, rfl⟩ := DP.str_inv r
  have e : x.cps.size = ((signs x).map St).length := by simp [signs]
  have it : ∀ i v, i < ((signs x).map St).length → SignAt x i v → ∃ d, ((signs x).map St)[i]? = some d ∧ ∀ h', Sub (hideAll s.heap S) h' → D h' v d := fun i v hi hp => by
    obtain ⟨c, u, hc, rfl⟩ := hp
    refine ⟨St ⟨#[c]⟩, ?_, fun h' _ => DP.str _ _⟩
    have : x.cps.toList[i]? = some c := by simpa using hc
    simp [signs, this]
  cases ha : x.cps.all (· < 128)
  · have W := Walks.strWide (prog := PR) (w := w) hA.handled s.heap.objs.size x t
    rw [e] at W
    exact wpAny_pyIter_wide ha (K _ _ _ s.toks _ _ ⟨W, ⟨_, Heap.get?_push_size _ rfl, rfl, rfl⟩, Sub.push _ _, get_size, (fun i h st => by obtain ⟨o, e, _⟩ := st; exact ⟨o, e⟩), fun b hb => .inl (List.mem_singleton.mp hb), it⟩)
  · have W := Walks.strAscii (prog := PR) (w := w) hA.handled s.heap.objs.size x t
    rw [e] at W
    exact wpAny_pyIter_ascii ha (K _ _ _ s.toks _ _ ⟨W, ⟨_, Heap.get?_push_size _ rfl, rfl, rfl⟩, Sub.push _ _, get_size, (fun i h st => by obtain ⟨o, e, _⟩ := st; exact ⟨o, e⟩), fun b hb => .inl (List.mem_singleton.mp hb), it⟩)
noncomputable def rngD (a c : Int) (m : Nat) : List Dat := (List.range m).map fun (i : Nat) => I (a + (i : Int) * c)
theorem iters_range {a b c : Int} {m : Nat} (hs : Builtin.Range.small a b c = true) (hm : Builtin.Range.rangeSize a b c = (m : Int)) : Iters w n (.rng a b c) (rngD a c m) := fun S A s v hA l g r Q E K => by
  obtain ⟨r', t, u, x, rfl, hr⟩ := r
  have hr' : IsRange s.heap r' a b c t u x := Sub.of_hide _ _ _ _ hr
  refine wpAny_pyIter_range hr' hs (K _ [s.heap.objs.size] _ s.toks (fun i v => ∃ t, v = .int (a + i * c) t) (fun i h => IsRangeIter h s.heap.objs.size (a + (i : Nat) * c) ((m : Int) - (i : Nat)) c) ⟨?_, ?_, Sub.push _ _, get_size, (fun i h st => ⟨_, st⟩), fun b hb => .inl (List.mem_singleton.mp hb), fun i v hi hp => ?_⟩)
  · have W := Walks.range (prog := PR) (w := w) hA.handled s.heap.objs.size a c m
    have e : m = (rngD a c m).length := by simp [rngD]
    rw [← e]
    exact W
  · show IsRangeIter _ _ _ _ _
    rw [hm]
    simpa using Heap.get?_push_size _ rfl
  · obtain ⟨t, rfl⟩ := hp
    have hi' : i < m := by simpa [rngD] using hi
    exact ⟨I (a + (i : Int) * c), by simp [rngD, hi'], fun h' _ => DP.int _ _⟩

/-- the iterator's turn: all but J stays -/
theorem FS.turn {N : List (Str × NameKind)} {env : Env} {W V S : List Addr} {h h' : Heap} {J : Addr} (F : FS N env W V S h) (hJV : J ∉ V) (k : Keep [J] h h') : FS N env W V S h' := by
  have ne : ∀ a ∈ V, a ∉ [J] := fun a ha hm => hJV (List.mem_singleton.mp hm ▸ ha)
  refine ⟨let ⟨m, q⟩ := F.loc; ⟨m, q.at' fun o e => k _ o (ne _ (F.wV _ F.lW)) e⟩, F.lW, fun x c e => ?_, F.own, F.inj, F.wV, F.wS, fun a ha => let ⟨o, e⟩ := F.vl a ha; ⟨o, k a o (ne a ha) e⟩⟩
  obtain ⟨⟨v, o, e1, e2⟩, r1, r2⟩ := F.cell x c e
  exact ⟨⟨v, o, k _ o (ne _ r1) e1, e2⟩, r1, r2⟩
theorem EnvRel.turn {N : List (Str × NameKind)} {ρ : Rho} {env : Env} {W V S S' : List Addr} {h h' : Heap} {J : Addr} (r : EnvRel ρ env h S) (F : FS N env W V S h) (hJV : J ∉ V) (k : Keep [J] h h') (sb : Sub (hideAll h S) (hideAll h' S')) : EnvRel ρ env h' S' := fun x d e => by
  have ne : ∀ a ∈ V, a ∉ [J] := fun a ha hm => hJV (List.mem_singleton.mp hm ▸ ha)
  obtain ⟨v, r, dv⟩ := r x d e
  refine ⟨v, ?_, dv.mono sb⟩
  cases r with
  | loc m a b c => exact .loc m a (b.at' fun o e => k _ o (ne _ (F.wV _ F.lW)) e) c
  | cell c a b e => obtain ⟨o, e1, e2⟩ := e; exact .cell c a b ⟨o, k _ o (ne _ (F.cell x c b).2.1) e1, e2⟩
theorem Cx.turn {N N₂ : List (Str × NameKind)} {ρ : Rho} {env : Env} {W V S : List Addr} {A : Around} {h h' : Heap} {J : Addr} (C : Cx w n N ρ env S A h) (F : FS N₂ env W V S h) (hJ : J ∈ S) (hJV : J ∉ V) (k : Keep [J] h h') (al : ∃ o, h'.get? J = some o) :
    Cx w n N ρ env S A h' ∧ FS N₂ env W V S h' := by
  have sb : Sub (hideAll h S) (hideAll h' S) := k.hide fun a ha => List.mem_singleton.mp ha ▸ hJ
  refine ⟨⟨C.env_ok, fun a ha => ?_, C.good.mono sb, C.vars.turn F hJV k sb, C.room⟩, F.turn hJV k⟩
  by_cases q : a = J
  · subst q; exact al
  · obtain ⟨o, e⟩ := C.live a ha; exact ⟨o, k a o (by simpa using q) e⟩
theorem EnvRel.tail {ρ : Rho} {env : Env} {h : Heap} {S : List Addr} {J : Addr} (r : EnvRel ρ env h (J :: S)) : EnvRel ρ env h S := fun x d e =>
  let ⟨v, a, b⟩ := r x d e
  ⟨v, a, b.mono fun b o e => hideAll_get _ (of_hideAll _ e) fun hm => not_mem_of_hide e (.tail _ hm)⟩
theorem sub_fresh {h h' : Heap} {S : List Addr} {J : Addr} (s : Sub h h') (hJ : h.get? J = none) : Sub (hideAll h S) (hideAll h' (J :: S)) := fun b o e => hideAll_get _ (s b o (of_hideAll _ e)) fun hm => by
  rcases List.mem_cons.mp hm with q | q
  · have := of_hideAll _ e; rw [q, hJ] at this; cases this
  · exact not_mem_of_hide e q

noncomputable def ItersG (w : World) (n : Nat) (tgt : Expr) (src : Dat) (items : List Dat) : Prop :=
  ∀ (S : List Addr) (A : Around) (s : Shared) (v : Value), okA n A → Live S s.heap → Good w (hideAll s.heap S) → D (hideAll s.heap S) v src → ∀ (Q : Value → Shared → Prop) (E : Value → Shared → Prop),
    (∀ I fp h₂ tk P St, Walker w A S s.heap h₂ I items fp P St → (∀ i h tk' u (Q' : Unit → Shared → Prop) (E' : Value → Shared → Prop), St i h → Q' () { s with heap := h, toks := tk' } → wpAny (model PR w) A (letOwnedTupleGo tgt (.ref I) u) Q' E' { s with heap := h, toks := tk' }) → Q (.ref I) { s with heap := h₂, toks := tk }) → wpAny (model PR w) A (pyIter v) Q E s
noncomputable def Asg (w : World) (n : Nat) (N : List (Str × NameKind)) (ρ ρ' : Rho) (tgt : Expr) (d : Dat) : Prop :=
  ∀ (env : Env) (W V S : List Addr) (A : Around) (s : Shared) (v : Value), Cx w n N ρ env S A s.heap → FS N env W V S s.heap → D (hideAll s.heap S) v d → ∀ (Q : Unit → Shared → Prop) (E : Value → Shared → Prop),
    (∀ h' tk, Keep W s.heap h' → FS N env W V S h' → EnvRel ρ' env h' S → Q () { s with heap := h', toks := tk }) → wpAny (model PR w) A (PySem.assign tgt env v) Q E s
structure ForI (w : World) (n : Nat) (N : List (Str × NameKind)) (R : Nat → Rho) (env : Env) (W V S : List Addr) (A : Around) (J : Addr) (h₂ : Heap) (St' : Nat → Heap → Prop) (k i : Nat) (h' : Heap) : Prop where
  le : i ≤ k
  st : St' i h'
  kp : ∀ b q, b ∉ W → b ≠ J → h₂.get? b = some q → h'.get? b = some q
  F : FS N env W V (J :: S) h'
  C : Cx w n N (R i) env (J :: S) A h'
theorem for_loop {N : List (Str × NameKind)} {ρ : Rho} {tgt : Expr} {body : List Stmt} {items : List Dat} {o : Out} {env : Env} {W V S : List Addr} {A : Around} {s : Shared} {J : Addr} {fp : List Addr} {h₂ : Heap} {tk₂ : Nat} {P : Nat → Value → Prop} {St' : Nat → Heap → Prop} {R' : Result → Shared → Prop}
    (C : Cx w n N ρ env S A s.heap) (F : FS N env W V S s.heap) (wk : Walker w A S s.heap h₂ J items fp P St') (go : ∀ i h tk' u (Q' : Unit → Shared → Prop) (E' : Value → Shared → Prop), St' i h → Q' () { s with heap := h, toks := tk' } → wpAny (model PR w) A (letOwnedTupleGo tgt (.ref J) u) Q' E' { s with heap := h, toks := tk' })
    (R : Nat → Rho) (B : Nat → Dat → Rho) (k : Nat) (h0 : ∀ y d, (R 0).lookup y = some d → ρ.lookup y = some d) (asg : ∀ i d, items[i]? = some d → Asg w n N (R i) (B i d) tgt d) (turn : ∀ i d, i < k → items[i]? = some d → EX w n N (B i d) body (.next (R (i + 1))))
    (fin : (k = items.length ∧ o = .next (R k)) ∨ (∃ d r, items[k]? = some d ∧ EX w n N (B k d) body (.ret r) ∧ o = .ret r) ∨ (∃ d ρ', items[k]? = some d ∧ EX w n N (B k d) body (.brk ρ') ∧ o = .next ρ'))
    (fins : ∀ (fl : Flow) (h' : Heap) (tk : Nat), (∀ b q, b ∉ W → b ≠ J → h₂.get? b = some q → h'.get? b = some q) → FS N env W V (J :: S) h' → OutOK o fl env h' S → R' (.ok fl) { s with heap := h', toks := tk }) :
    codeAny (model PR w) A (.forLoop tgt (.ref J) body [] env) R' { s with heap := h₂, toks := tk₂ } := by
  have hkl : k ≤ items.length := by
    rcases fin with ⟨e, _⟩ | ⟨d, r, e, _⟩ | ⟨d, r, e, _⟩
    · omega
    · rcases Nat.lt_or_ge k items.length with z | z
      · omega
      · rw [List.getElem?_eq_none z] at e; cases e
    · rcases Nat.lt_or_ge k items.length with z | z
      · omega
      · rw [List.getElem?_eq_none z] at e; cases e
  have hJS : J ∉ S := fun hm => by obtain ⟨q, e⟩ := C.live J hm; rw [wk.fresh] at e; cases e
  have hJV : J ∉ V := fun hm => by obtain ⟨q, e⟩ := F.vl J hm; rw [wk.fresh] at e; cases e
  have hJW : J ∉ W := fun hm => hJS (F.wS J hm)
  have fpW : ∀ b ∈ fp, b ∉ W := fun b hb hw => by
    rcases wk.foot b hb with e | ⟨q, e⟩
    · exact hJW (e ▸ hw)
    · exact not_mem_of_hide e (F.wS b hw)
  have sub₀ : Sub (hideAll s.heap S) (hideAll h₂ (J :: S)) := sub_fresh wk.sub wk.fresh
  have F₂ : FS N env W V (J :: S) h₂ := (F.mono wk.sub).bigger fun a ha => .tail _ (F.wS a ha)
  have C₂ : Cx w n N (R 0) env (J :: S) A h₂ := ⟨C.env_ok, fun a ha => by
      rcases List.mem_cons.mp ha with q | q
      · subst q; exact wk.alive _ _ wk.start
      · obtain ⟨q', e⟩ := C.live a q; exact ⟨q', wk.sub _ _ e⟩, C.good.mono sub₀, fun y d e => by
      obtain ⟨u, a, b⟩ := C.vars y d (h0 y d e)
      exact ⟨u, a.mono wk.sub, b.mono sub₀⟩, C.room⟩
  refine codeAny_forLoop_any (fun m s' => ∃ i h' tk, (m = items.length + 1 - i ∧ s' = { s with heap := h', toks := tk }) ∧ ForI w n N R env W V S A J h₂ St' k i h') ?_ (items.length + 1) ⟨0, h₂, tk₂, ⟨by omega, rfl⟩, Nat.zero_le _, wk.start, (fun _ _ _ _ e => e), F₂, C₂⟩
  rintro m s' ⟨i, h', tk, ⟨rfl, rfl⟩, hi, st, kp, F', C'⟩
  by_cases hlt : i < items.length
  · refine wk.walk.item i _ _ _ hlt st fun v h₃ tk₃ hP st₃ k₃ => ?_
    obtain ⟨C₃, F₃⟩ := C'.turn F' (.head _) hJV (fun b q hb e => k₃ b q hb e) (wk.alive _ _ st₃)
    obtain ⟨d, hd', dv⟩ := wk.item i v hlt hP
    have sub₃ : Sub (hideAll s.heap S) (hideAll h₃ (J :: S)) := fun b q e => hideAll_get _ (k₃ b q (by
        intro hm; have := of_hideAll _ e; rw [List.mem_singleton.mp hm, wk.fresh] at this; cases this) (kp b q (fun hw => not_mem_of_hide e (F.wS b hw)) (fun z => by have := of_hideAll _ e; rw [z, wk.fresh] at this; cases this) (wk.sub _ _ (of_hideAll _ e)))) fun hm => by
      rcases List.mem_cons.mp hm with z | z
      · have := of_hideAll _ e; rw [z, wk.fresh] at this; cases this
      · exact not_mem_of_hide e z
    refine go _ _ _ _ _ _ st₃ ?_
    refine asg i d hd' env W V (J :: S) A { s with heap := h₃, toks := tk₃ } v C₃ F₃ (dv _ sub₃) _ _ fun h₄ tk₄ k₄ F₄ r₄ => ?_
    have C₄ := C₃.after F₃ k₄ F₄ r₄
    have kp₄ : ∀ b q, b ∉ W → b ≠ J → h₂.get? b = some q → h₄.get? b = some q := fun b q hb hn e => k₄ b q hb (k₃ b q (by simpa using hn) (kp b q hb hn e))
    have st₄ : St' (i + 1) h₄ := wk.walk.frame _ _ _ st₃ fun b hb q e => k₄ b q (fpW b hb) e
    rcases Nat.lt_or_ge i k with hik | hik
    · refine turn i d hik hd' env W V (J :: S) A { s with heap := h₄, toks := tk₄ } C₄ F₄ _ _ fun fl h₅ tk₅ k₅ F₅ r₅ => ?_
      cases fl with
      | next => exact ⟨items.length + 1 - (i + 1), by omega, i + 1, h₅, tk₅, ⟨rfl, rfl⟩, hik, wk.walk.frame _ _ _ st₄ fun b hb q e => k₅ b q (fpW b hb) e, fun b q hb hn e => k₅ b q hb (kp₄ b q hb hn e), F₅, C₄.after F₄ k₅ F₅ r₅⟩
      | _ => exact r₅.elim
    · have hik' : i = k := Nat.le_antisymm hi hik
      subst hik'
      rcases fin with ⟨e, _⟩ | ⟨d', r, e, hex, rfl⟩ | ⟨d', ρ', e, hex, rfl⟩
      · omega
      · rw [hd'] at e; cases e
        refine hex env W V (J :: S) A { s with heap := h₄, toks := tk₄ } C₄ F₄ _ _ fun fl h₅ tk₅ k₅ F₅ r₅ => ?_
        cases fl with
        | ret u => exact fins _ h₅ tk₅ (fun b q hb hn e => k₅ b q hb (kp₄ b q hb hn e)) F₅ (D.mono (fun b o e => hideAll_get _ (of_hideAll _ e) fun hm => not_mem_of_hide e (.tail _ hm)) r₅)
        | _ => exact r₅.elim
      · rw [hd'] at e; cases e
        refine hex env W V (J :: S) A { s with heap := h₄, toks := tk₄ } C₄ F₄ _ _ fun fl h₅ tk₅ k₅ F₅ r₅ => ?_
        cases fl with
        | brk => exact fins .next h₅ tk₅ (fun b q hb hn e => k₅ b q hb (kp₄ b q hb hn e)) F₅ (EnvRel.tail r₅)
        | _ => exact r₅.elim
  · have hin : i = items.length := by omega
    subst hin
    refine wk.walk.done _ _ _ st fun h₃ tk₃ k₃ => wpAny_execs_nil ?_
    have F₃ := F'.turn hJV (fun b q hb e => k₃ b q hb e)
    have V₃ : EnvRel (R items.length) env h₃ S := C'.vars.turn F' hJV (fun b q hb e => k₃ b q hb e) fun b q e => by
      have hn := not_mem_of_hide e
      exact hideAll_get _ (k₃ b q (fun hm => hn (by rw [List.mem_singleton.mp hm]; exact .head _)) (of_hideAll _ e)) fun hm => hn (.tail _ hm)
    rcases fin with ⟨e, rfl⟩ | ⟨d', r, e, hex, rfl⟩ | ⟨d', ρ', e, hex, rfl⟩
    · exact fins .next h₃ tk₃ (fun b q hb hn e => k₃ b q (by simpa using hn) (kp b q hb hn e)) F₃ (e ▸ V₃)
    · have : items.length = k := Nat.le_antisymm hi hkl
      rw [← this, List.getElem?_eq_none (Nat.le_refl _)] at e; cases e
    · have : items.length = k := Nat.le_antisymm hi hkl
      rw [← this, List.getElem?_eq_none (Nat.le_refl _)] at e; cases e
theorem for_core {N : List (Str × NameKind)} {ρ : Rho} {tgt : Expr} {pos : Pos} {iter : Expr} {body : List Stmt} {src : Dat} {items : List Dat} {o : Out} (h : EV w n N ρ iter src) (it : ItersG w n tgt src items)
    (R : Nat → Rho) (B : Nat → Dat → Rho) (k : Nat) (h0 : ∀ y d, (R 0).lookup y = some d → ρ.lookup y = some d) (asg : ∀ i d, items[i]? = some d → Asg w n N (R i) (B i d) tgt d) (turn : ∀ i d, i < k → items[i]? = some d → EX w n N (B i d) body (.next (R (i + 1))))
    (fin : (k = items.length ∧ o = .next (R k)) ∨ (∃ d r, items[k]? = some d ∧ EX w n N (B k d) body (.ret r) ∧ o = .ret r) ∨ (∃ d ρ', items[k]? = some d ∧ EX w n N (B k d) body (.brk ρ') ∧ o = .next ρ'))
    (hs : ∀ env x, foldedSetIterable iter env x = pure x) : EX1 w n N ρ (.For tgt iter body [] pos) o := fun env W V S A s C F Q E K => by
  refine wpAny_For (h env S A s C _ E fun v h₁ tk₁ s₁ r₁ => it S A { s with heap := h₁, toks := tk₁ } v C.room (C.mono s₁).live (C.mono s₁).good r₁ _ E fun J fp h₂ tk₂ P St' wk go => ?_) (hs env)
  refine for_loop (s := { s with heap := h₁, toks := tk₁ }) (C.mono s₁) (F.mono s₁) wk go R B k h0 asg turn fin fun fl h' tk kp F' r => ?_
  exact K fl h' tk (fun b q hb e => kp b q hb (fun z => by have z' := s₁ _ _ e; rw [z] at z'; have := wk.fresh; rw [z'] at this; cases this) (wk.sub _ _ (s₁ _ _ e))) (F'.bigger F.wS) r
theorem EX1.for_name {N : List (Str × NameKind)} {ρ : Rho} {x : Str} {px pos : Pos} {iter : Expr} {body : List Stmt} {src : Dat} {items : List Dat} {o : Out} (h : EV w n N ρ iter src) (it : Iters w n src items) (hx : N.lookup x = some .local ∨ N.lookup x = some .cell)
    (R : Nat → Rho) (k : Nat) (h0 : ∀ y d, (R 0).lookup y = some d → ρ.lookup y = some d) (turn : ∀ i d, i < k → items[i]? = some d → EX w n N ((x, d) :: R i) body (.next (R (i + 1))))
    (fin : (k = items.length ∧ o = .next (R k)) ∨ (∃ d r, items[k]? = some d ∧ EX w n N ((x, d) :: R k) body (.ret r) ∧ o = .ret r) ∨ (∃ d ρ', items[k]? = some d ∧ EX w n N ((x, d) :: R k) body (.brk ρ') ∧ o = .next ρ'))
    (hs : ∀ env x, foldedSetIterable iter env x = pure x := by intro _ _; rfl) : EX1 w n N ρ (.For (.Name x px) iter body [] pos) o :=
  for_core h (fun S A s v a b c d Q E K => it S A s v a b c d Q E fun I fp h₂ tk P St wk => K I fp h₂ tk P St wk fun i h tk' u Q' E' _ q => wpAny_pure q) R (fun i d => (x, d) :: R i) k h0
    (fun i d _ env W V S A s v C F dv Q E K => wpAny_assign_Name (store_run C F hx rfl dv K)) turn fin hs
end
end RsLaw
end
section
open PySem PySem.Spec PySem.Calls PySem.W PyProof.Rows PySem.SeqAt
set_option maxRecDepth 100000
set_option linter.unusedVariables false
namespace RsLaw

noncomputable def relN (N names : List (Str × NameKind)) : List (Str × NameKind) := names.map fun p => if (p.2 == .free && N.lookup p.1 == some .cell) = true then (p.1, .cell) else p
theorem relabel_names {N : List (Str × NameKind)} {env : Env} (O : EnvOK N env) (scope : Scope) : (relabel scope env).names = relN N scope.names := by
  unfold relabel relN
  simp only
  refine List.map_congr_left fun p _ => ?_
  obtain ⟨n, k⟩ := p
  simp only [O.kind, O.knd, beq_self_eq_true, Bool.and_true]

theorem forIn_fold {α β : Type} {f : α → β → Sem (ForInStep β)} {g : α → β → β} : ∀ (l : List α) (acc : β), (∀ p ∈ l, ∀ cs, f p cs = pure (.yield (g p cs))) → forIn l acc f = (pure (l.foldl (fun cs p => g p cs) acc) : Sem β)
  | [], acc, _ => by rw [List.forIn_nil]; rfl
  | p :: l, acc, h => by
    rw [List.forIn_cons, h p (.head _)]
    show forIn l (g p acc) f = _
    exact forIn_fold l _ fun q hq => h q (.tail _ hq)
noncomputable def fCell (env : Env) (y : Str) : Addr := (env.cells.lookup y).getD 0
noncomputable def cloS (env : Env) (p : Str × NameKind) (cs : List (Str × Addr)) : List (Str × Addr) := if p.2 == .free then (p.1, fCell env p.1) :: cs else cs
noncomputable def cloL (env : Env) (names : List (Str × NameKind)) (acc : List (Str × Addr)) : List (Str × Addr) := names.foldl (fun cs p => cloS env p cs) acc
theorem closure_of {scope : Scope} {env : Env} (h : ∀ p ∈ scope.names, p.2 = .free → ∃ c, env.cells.lookup p.1 = some c) : closureFor scope env = pure (cloL env scope.names []) := by
  unfold closureFor
  simp only
  rw [forIn_fold (g := cloS env) scope.names [] fun p hp cs => ?_]
  · rfl
  · obtain ⟨y, k⟩ := p
    unfold cloS fCell
    cases q : (k == NameKind.free) with
    | false => simp [q]
    | true =>
      have q' : k = .free := by simpa using q
      obtain ⟨c, hc⟩ := h (y, k) hp q'
      simp only [q, if_true, cellOf, hc, Option.getD_some]
      rfl
theorem clo_inv {env : Env} : ∀ (names : List (Str × NameKind)) (acc : List (Str × Addr)), (∀ z c, acc.lookup z = some c → c = fCell env z) → ∀ z c, (cloL env names acc).lookup z = some c → c = fCell env z
  | [], acc, h => h
  | (y, k) :: r, acc, h => by
    show ∀ z c, (cloL env r (cloS env (y, k) acc)).lookup z = some c → _
    refine clo_inv r _ fun z c e => ?_
    unfold cloS at e
    split at e
    · rw [List.lookup_cons] at e
      cases q : z == y with
      | true => rw [q] at e; cases e; rw [show z = y by simpa using q]
      | false => rw [q] at e; exact h z c e
    · exact h z c e
theorem clo_acc {env : Env} {y : Str} : ∀ (names : List (Str × NameKind)) (acc : List (Str × Addr)), (acc.lookup y).isSome = true → ((cloL env names acc).lookup y).isSome = true
  | [], acc, h => h
  | (z, k) :: r, acc, h => by
    show ((cloL env r (cloS env (z, k) acc)).lookup y).isSome = true
    refine clo_acc r _ ?_
    unfold cloS
    split
    · rw [List.lookup_cons]
      cases q : y == z with
      | true => rfl
      | false => exact h
    · exact h
theorem clo_has {env : Env} {y : Str} : ∀ (names : List (Str × NameKind)) (acc : List (Str × Addr)), (y, NameKind.free) ∈ names → ((cloL env names acc).lookup y).isSome = true
  | (z, k) :: r, acc, h => by
    show ((cloL env r (cloS env (z, k) acc)).lookup y).isSome = true
    rcases List.mem_cons.mp h with e | e
    · cases e
      refine clo_acc r _ ?_
      simp [cloS]
    · exact clo_has r _ e
theorem clo_mem {env : Env} {y : Str} {c : Addr} : ∀ (names : List (Str × NameKind)) (acc : List (Str × Addr)), (y, c) ∈ cloL env names acc → (y, c) ∈ acc ∨ (c = fCell env y ∧ (y, NameKind.free) ∈ names)
  | [], acc, h => .inl h
  | (z, k) :: r, acc, h => by
    have h' : (y, c) ∈ cloL env r (cloS env (z, k) acc) := h
    rcases clo_mem r _ h' with e | ⟨e1, e2⟩
    · unfold cloS at e
      split at e
      · rename_i hk
        have k' : k = .free := by simpa using hk
        subst k'
        rcases List.mem_cons.mp e with e | e
        · cases e; exact .inr ⟨rfl, .head _⟩
        · exact .inl e
      · exact .inl e
    · exact .inr ⟨e1, .tail _ e2⟩
theorem cells_app : ∀ (names : List (Str × NameKind)) (m : Nat) (acc : List (Str × Addr)), cellsFrom m names acc = cellsFrom m names [] ++ acc
  | [], _, _ => rfl
  | (y, k) :: r, m, acc => by
    unfold cellsFrom
    split
    · rw [cells_app r (m + 1) ((y, m) :: acc), cells_app r (m + 1) [(y, m)], List.append_assoc]; rfl
    · exact cells_app r m acc
theorem cells_none {y : Str} : ∀ (names : List (Str × NameKind)) (m : Nat), (y, NameKind.cell) ∉ names → (cellsFrom m names []).lookup y = none
  | [], _, _ => rfl
  | (z, k) :: r, m, h => by
    unfold cellsFrom
    have hr : (y, NameKind.cell) ∉ r := fun q => h (.tail _ q)
    split
    · rename_i hk
      rw [cells_app, lookup_app, cells_none r _ hr, List.lookup_cons]
      cases q : y == z with
      | true =>
        have q' : y = z := by simpa using q
        have k' : k = .cell := by simpa using hk
        subst q' k'
        exact absurd (.head _) h
      | false => rfl
    · exact cells_none r m hr
theorem nodup_one : ∀ {names : List (Str × NameKind)} {y : Str} {k k' : NameKind}, (names.map (·.1)).Nodup → (y, k) ∈ names → (y, k') ∈ names → k = k'
  | p :: r, y, k, k', hn, h, h' => by
    obtain ⟨h1, h2⟩ := List.nodup_cons.mp hn
    rcases List.mem_cons.mp h with e | e <;> rcases List.mem_cons.mp h' with e' | e'
    · rw [← e'] at e; exact (Prod.mk.inj e).2
    · exact absurd (by rw [← e]; exact List.mem_map_of_mem (f := (·.1)) e') h1
    · exact absurd (by rw [← e']; exact List.mem_map_of_mem (f := (·.1)) e) h1
    · exact nodup_one h2 e e'
theorem relN_lookup {N : List (Str × NameKind)} {y : Str} {k : NameKind} : ∀ {names : List (Str × NameKind)}, names.lookup y = some k → (relN N names).lookup y = some (if (k == .free && N.lookup y == some .cell) = true then .cell else k)
  | (z, k') :: r, h => by
    rw [List.lookup_cons] at h
    unfold relN
    rw [List.map_cons]
    have ih := @relN_lookup N y k r
    unfold relN at ih
    cases q : y == z with
    | true =>
      rw [q] at h
      cases h
      have q' : y = z := by simpa using q
      subst q'
      split <;> simp [List.lookup_cons]
    | false =>
      rw [q] at h
      split
      · rw [List.lookup_cons, q]; exact ih h
      · rw [List.lookup_cons, q]; exact ih h

noncomputable def resAt (p : Nat → Bool) (out : Nat → Dat) (k : Nat) : List Dat := ((List.range k).filter p).map out
theorem resAt_succ (p : Nat → Bool) (out : Nat → Dat) (k : Nat) : resAt p out (k + 1) = if p k = true then resAt p out k ++ [out k] else resAt p out k := by
  unfold resAt
  rw [List.range_succ, List.filter_append, List.map_append]
  cases h : p k <;> simp [h]
theorem DD.snoc {h : Heap} {v : Value} {d : Dat} (a : D h v d) : ∀ {vs : List Value} {ds : List Dat}, DD h vs ds → DD h (vs ++ [v]) (ds ++ [d])
  | _, _, .nil => .cons a .nil
  | _, _, .cons b r => .cons b (DD.snoc a r)

structure CompOK (N : List (Str × NameKind)) (ρ ρf : Rho) (scope : Scope) (x : Str) : Prop where
  kind : scope.kind = .function
  nodup : (scope.names.map (·.1)).Nodup
  tgt : scope.names.lookup x = some .local ∨ scope.names.lookup x = some .cell
  free : ∀ p ∈ scope.names, p.2 = .free → (∃ d, ρ.lookup p.1 = some d) ∧ (N.lookup p.1 = some .cell ∨ N.lookup p.1 = some .free)
  cap : ∀ y d, ρf.lookup y = some d → ρ.lookup y = some d ∧ scope.names.lookup y = some .free ∧ (y == ("__classdict__" : Str)) = false

section
variable {w : World} {n : Nat} {N : List (Str × NameKind)} {ρ ρf : Rho}

theorem FS.turns {N : List (Str × NameKind)} {env : Env} {W V S R : List Addr} {h h' : Heap} (F : FS N env W V S h) (ne : ∀ a ∈ V, a ∉ R) (k : Keep R h h') : FS N env W V S h' := by
  refine ⟨let ⟨m, q⟩ := F.loc; ⟨m, q.at' fun o e => k _ o (ne _ (F.wV _ F.lW)) e⟩, F.lW, fun x c e => ?_, F.own, F.inj, F.wV, F.wS, fun a ha => let ⟨o, e⟩ := F.vl a ha; ⟨o, k a o (ne a ha) e⟩⟩
  obtain ⟨⟨v, o, e1, e2⟩, r1, r2⟩ := F.cell x c e
  exact ⟨⟨v, o, k _ o (ne _ r1) e1, e2⟩, r1, r2⟩
theorem EnvRel.turns {N : List (Str × NameKind)} {ρ : Rho} {env : Env} {W V S S' R : List Addr} {h h' : Heap} (r : EnvRel ρ env h S) (F : FS N env W V S h) (ne : ∀ a ∈ V, a ∉ R) (k : Keep R h h') (sb : Sub (hideAll h S) (hideAll h' S')) : EnvRel ρ env h' S' := fun x d e => by
  obtain ⟨v, r, dv⟩ := r x d e
  refine ⟨v, ?_, dv.mono sb⟩
  cases r with
  | loc m a b c => exact .loc m a (b.at' fun o e => k _ o (ne _ (F.wV _ F.lW)) e) c
  | cell c a b e => obtain ⟨o, e1, e2⟩ := e; exact .cell c a b ⟨o, k _ o (ne _ (F.cell x c b).2.1) e1, e2⟩
theorem Cx.turns {N N₂ : List (Str × NameKind)} {ρ : Rho} {env : Env} {W V S R : List Addr} {A : Around} {h h' : Heap} (C : Cx w n N ρ env S A h) (F : FS N₂ env W V S h) (hR : ∀ b ∈ R, b ∈ S) (ne : ∀ a ∈ V, a ∉ R) (k : Keep R h h') (al : ∀ b ∈ R, ∃ o, h'.get? b = some o) :
    Cx w n N ρ env S A h' ∧ FS N₂ env W V S h' := by
  have sb : Sub (hideAll h S) (hideAll h' S) := k.hide hR
  refine ⟨⟨C.env_ok, fun a ha => ?_, C.good.mono sb, C.vars.turns F ne k sb, C.room⟩, F.turns ne k⟩
  by_cases q : a ∈ R
  · exact al a q
  · obtain ⟨o, e⟩ := C.live a ha; exact ⟨o, k a o q e⟩
structure All8 (a b c d e f g h : Prop) : Prop where
  a : a
  b : b
  c : c
  d : d
  e : e
  f : f
  g : g
  h : h
noncomputable abbrev compEnv (scope : Scope) (env : Env) (Cc : Addr) (cells : List (Str × Addr)) : Env := { scope := relabel scope env, locals := Cc, globals := env.globals, cells := cells, qual := env.qual, func := Option.none, code := env.code, frame := env.frame, builtins := env.builtins }
/-- a comprehension's frame, entered: its list a, its locals Cc -/
structure InComp (w : World) (n : Nat) (A : Around) (N : List (Str × NameKind)) (ρf : Rho) (scope : Scope) (env : Env) (S : List Addr) (h₀ h₂ : Heap) (wr : List Addr) (a Cc : Addr) (cells : List (Str × Addr)) (Wc Vc S' : List Addr) (h₅ : Heap) : Prop where
  C₅ : Cx w n (relN N scope.names) ρf (compEnv scope env Cc cells) S' A h₅
  F₅ : FS scope.names (compEnv scope env Cc cells) Wc Vc S' h₅
  s05 : Sub h₀ h₅
  s25 : Sub h₂ h₅
  listA : h₅.get? a = some { cls := .type "list", data := .seq ([] : List Value).toArray }
  CcW : Cc ∈ Wc
  aV : a ∉ Wc
  awr : a ∉ wr
  aJ : a ∉ S
  hSn : ∀ b o, h₀.get? b = some o → b ∉ Wc ∧ b ∉ wr ∧ b ≠ a
  fpn : ∀ b o, h₂.get? b = some o → b ∉ Wc ∧ b ≠ a
  inS' : ∀ b, b ∈ S' ↔ b ∈ Wc ∨ b ∈ wr ∨ b = a ∨ b ∈ S
  wrV' : ∀ b ∈ Vc, b ∉ wr
  aV' : a ∉ Vc
theorem InComp.subS {A : Around} {scope : Scope} {env : Env} {S wr Wc Vc S' : List Addr} {h₀ h₂ h₅ : Heap} {a Cc : Addr} {cells : List (Str × Addr)} (X : InComp w n A N ρf scope env S h₀ h₂ wr a Cc cells Wc Vc S' h₅) (h' : Heap) (sb : Sub h₀ h') : Sub (hideAll h₀ S) (hideAll h' S') := fun b o e => hideAll_get _ (sb b o (of_hideAll _ e)) fun hm => by
  have z := X.hSn b o (of_hideAll _ e)
  rcases (X.inS' b).mp hm with q | q | q | q
  · exact z.1 q
  · exact z.2.1 q
  · exact z.2.2 q
  · exact not_mem_of_hide e q
theorem comp_enter {el : Expr} {J : Addr} {x : Str} {scope : Scope} {env : Env} {S wr : List Addr} {A : Around} {s : Shared} {h₂ : Heap} {tk₂ : Nat} {E : Value → Shared → Prop} {RR : Value → Addr → Result → Shared → Prop}
    (O : CompOK N ρ ρf scope x) (C : Cx w n N ρ env S A s.heap) (sub02 : Sub s.heap h₂) (fresh : ∀ b ∈ wr, s.heap.get? b = none) (alive : ∀ b ∈ wr, ∃ o, h₂.get? b = some o)
    (K : ∀ (a Cc : Addr) cells Wc Vc S' h₅, InComp w n A N ρf scope env S s.heap h₂ wr a Cc cells Wc Vc S' h₅ → codeAny (model PR w) A (.compStart el 0 (.ref J) (.ref a) (compEnv scope env Cc cells)) (RR (.ref a) Cc) { s with heap := h₅, toks := tk₂ }) :
    wpAny (model PR w) A (newList []) (fun acc s₃ => wpAny (model PR w) A (newFunctionEnv scope env.globals (cloL env scope.names []) [] env.qual none .none (some env)) (fun cenv s₄ =>
      codeAny (model PR w) A (.compStart el 0 (.ref J) acc { cenv with scope := relabel scope env }) (RR acc cenv.locals) s₄) E s₃) E { s with heap := h₂, toks := tk₂ } := by
  refine wpAny_newList ?_ (Nat.zero_le _)
  generalize hD2 : h₂.objs.size = a
  dsimp only
  unfold newFunctionEnv
  simp only [Option.isSome_some, if_true]
  refine wpAny_bind (wpAny_alloc ?_)
  refine wpAny_bind (wpAny_layCells _ (fun name kind cells => by cases hkc : kind == NameKind.cell <;> simp [hkc]) _ _ _ _ ?_)
  rw [List.forIn_nil]
  refine wpAny_bind (wpAny_pure (wpAny_pure ?_))
  dsimp only
  generalize hCc : (h₂.push { cls := .type "list", data := .seq ([] : List Value).toArray }).objs.size = Cc
  generalize hH4 : (h₂.push { cls := .type "list", data := .seq ([] : List Value).toArray }).push { cls := .type "dict", data := .dict #[] } = h₄
  have hCa : Cc = a + 1 := by rw [← hCc, Heap.size_push, hD2]
  have h4sz : h₄.objs.size = Cc + 1 := by rw [← hH4, Heap.size_push, hCc]
  rw [h4sz]
  have ok := cellsFrom_ok scope.names h₄ (Cc + 1) [] ⟨fun _ _ hm => (nomatch hm), List.Pairwise.nil⟩ (Nat.le_of_eq h4sz.symm)
  rw [h4sz] at ok
  generalize hH5 : pushCells h₄ scope.names = h₅ at ok
  have s24 : Sub h₂ h₄ := fun b o e => by rw [← hH4]; exact Heap.get?_push_of_some _ (Heap.get?_push_of_some _ e)
  have s45 : Sub h₄ h₅ := fun b o e => by rw [← hH5]; exact pushCells_keeps _ _ b o e
  have s25 : Sub h₂ h₅ := s24.trans s45
  have s05 : Sub s.heap h₅ := sub02.trans s25
  have nsC : h₅.Ns Cc fun _ => none := by
    have q := Heap.Ns.new (h₂.push { cls := .type "list", data := .seq ([] : List Value).toArray }) (.type "dict")
    rw [hCc, hH4] at q
    exact q.keeps s45
  have listA : h₅.get? a = some { cls := .type "list", data := .seq ([] : List Value).toArray } := s45 _ _ (by rw [← hH4]; exact Heap.get?_push_of_some _ (hD2 ▸ Heap.get?_push_size _ rfl))
  have lt2 : ∀ b o, h₂.get? b = some o → b < a := fun b o e => hD2 ▸ Heap.lt_size e
  have lt0 : ∀ b o, s.heap.get? b = some o → b < a := fun b o e => lt2 b o (sub02 _ _ e)
  rw [cells_app]
  generalize hown : cellsFrom (Cc + 1) scope.names [] = own at ok
  have ownC : ∀ y c, (y, c) ∈ own → h₅.IsCell c Option.none ∧ Cc + 1 ≤ c := ok.empty
  generalize hcl : cloL env scope.names [] = cl
  have clo : ∀ y c, (y, c) ∈ cl → env.cells.lookup y = some c ∧ ∃ u, s.heap.IsCell c (some u) := fun y c e => by
    rw [← hcl] at e
    rcases clo_mem scope.names [] e with q | ⟨e1, e2⟩
    · cases q
    obtain ⟨⟨d, hd'⟩, hk⟩ := O.free _ e2 rfl
    obtain ⟨u, r, _⟩ := C.vars y d hd'
    cases r with
    | loc m a b c => rw [C.env_ok.knd] at a; rcases hk with z | z <;> (rw [z] at a; cases a)
    | cell c' a b e' =>
      have : fCell env y = c' := by unfold fCell; rw [b]; rfl
      rw [e1, this]
      exact ⟨b, u, e'⟩
  generalize hWc : Cc :: own.map (·.2) = Wc
  have CcW : Cc ∈ Wc := by rw [← hWc]; exact .head _
  have ownW : ∀ y c, (y, c) ∈ own → c ∈ Wc := fun y c hm => by rw [← hWc]; exact .tail _ (List.mem_map_of_mem (f := (·.2)) hm)
  have wcGe : ∀ b ∈ Wc, Cc ≤ b := fun b hb => by
    rw [← hWc] at hb
    rcases List.mem_cons.mp hb with q | q
    · exact Nat.le_of_eq q.symm
    · obtain ⟨⟨y, c⟩, hm, rfl⟩ := List.mem_map.mp q
      exact Nat.le_of_succ_le (ownC y c hm).2
  have wcL : ∀ b ∈ Wc, ∃ o, h₅.get? b = some o := fun b hb => by
    rw [← hWc] at hb
    rcases List.mem_cons.mp hb with q | q
    · rw [q]; obtain ⟨o, _, _, e, _⟩ := nsC; exact ⟨o, e⟩
    · obtain ⟨⟨y, c⟩, hm, rfl⟩ := List.mem_map.mp q
      obtain ⟨⟨o, e, _⟩, _⟩ := ownC y c hm; exact ⟨o, e⟩
  have notWc : ∀ b, b < a → b ∉ Wc := fun b hb hm => by have := wcGe b hm; rw [hCa] at this; exact Nat.lt_irrefl _ (Nat.lt_trans hb this)
  have wrlt : ∀ b ∈ wr, b < a := fun b hb => by obtain ⟨o, e⟩ := alive b hb; exact lt2 _ _ e
  have aV : a ∉ Wc := fun hm => by have := wcGe a hm; rw [hCa] at this; exact Nat.lt_irrefl _ this
  have awr : a ∉ wr := fun hm => Nat.lt_irrefl _ (wrlt a hm)
  have hJn : ∀ b o, s.heap.get? b = some o → b ∉ wr := fun b o e z => by rw [fresh b z] at e; cases e
  have hSn : ∀ b o, s.heap.get? b = some o → b ∉ Wc ∧ b ∉ wr ∧ b ≠ a := fun b o e => ⟨notWc b (lt0 _ _ e), hJn b o e, Nat.ne_of_lt (lt0 _ _ e)⟩
  have fpn : ∀ b o, h₂.get? b = some o → b ∉ Wc ∧ b ≠ a := fun b o e => ⟨notWc b (lt2 _ _ e), Nat.ne_of_lt (lt2 _ _ e)⟩
  have aJ : a ∉ S := fun hm => by obtain ⟨o, e⟩ := C.live a hm; exact Nat.lt_irrefl _ (lt0 _ _ e)
  have CS : Cc ∉ S := fun hm => by obtain ⟨o, e⟩ := C.live Cc hm; exact (hSn _ _ e).1 CcW
  generalize hS' : Wc ++ (wr ++ (a :: S)) = S'
  have inS' : ∀ b, b ∈ S' ↔ b ∈ Wc ∨ b ∈ wr ∨ b = a ∨ b ∈ S := fun b => by rw [← hS']; simp [List.mem_append, List.mem_cons]
  have subS : ∀ h', Sub s.heap h' → Sub (hideAll s.heap S) (hideAll h' S') := fun h' sb b o e => hideAll_get _ (sb b o (of_hideAll _ e)) fun hm => by
    have z := hSn b o (of_hideAll _ e)
    rcases (inS' b).mp hm with q | q | q | q
    · exact z.1 q
    · exact z.2.1 q
    · exact z.2.2 q
    · exact not_mem_of_hide e q
  have memS : ∀ b ∈ Wc, b ∈ S' := fun b hb => (inS' b).mpr (.inl hb)
  have wrS' : ∀ b ∈ wr, b ∈ S' := fun b hb => (inS' b).mpr (.inr (.inl hb))
  have aS' : a ∈ S' := (inS' a).mpr (.inr (.inr (.inl rfl)))
  have C₅ : Cx w n (relN N scope.names) ρf (compEnv scope env Cc (own ++ cl)) S' A h₅ := ⟨⟨O.kind, fun y => congrArg (List.lookup y) (relabel_names C.env_ok scope), C.env_ok.glb, C.env_ok.bi⟩, fun b hb => by
      rcases (inS' b).mp hb with q | q | q | q
      · exact wcL b q
      · obtain ⟨o, e⟩ := alive b q; exact ⟨o, s25 _ _ e⟩
      · rw [q]; exact ⟨_, listA⟩
      · obtain ⟨o, e⟩ := C.live b q; exact ⟨o, s05 _ _ e⟩, C.good.mono (subS h₅ s05), fun y d e => by
      obtain ⟨e1, e2, e3⟩ := O.cap y d e
      obtain ⟨u, r, du⟩ := C.vars y d e1
      refine ⟨u, ?_, du.mono (subS h₅ s05)⟩
      have hk := (O.free _ (mem_of_lookup e2) rfl).2
      cases r with
      | loc m a b c => rw [C.env_ok.knd] at a; rcases hk with z | z <;> (rw [z] at a; cases a)
      | cell c a' b' e' =>
        refine .cell c ?_ ?_ (e'.keeps s05)
        · have z : (compEnv scope env Cc (own ++ cl)).kindOf y = (relN N scope.names).lookup y := congrArg (List.lookup y) (relabel_names C.env_ok scope)
          rw [relN_lookup e2] at z
          rcases hk with q | q
          · left; rw [z, q]; rfl
          · right; refine ⟨?_, e3⟩; rw [z, q]; rfl
        · show (own ++ cl).lookup y = some c
          rw [lookup_app, ← hown, cells_none scope.names _ (fun hm => by have := nodup_one O.nodup hm (mem_of_lookup e2); cases this)]
          have z := clo_has (env := env) (y := y) scope.names [] (mem_of_lookup e2)
          obtain ⟨c', hc'⟩ := Option.isSome_iff_exists.mp z
          have z2 := clo_inv scope.names [] (fun _ _ q => by cases q) y c' hc'
          rw [hcl] at hc'
          rw [hc', z2]
          unfold fCell; rw [b']; rfl, C.room⟩
  have F₅ : FS scope.names (compEnv scope env Cc (own ++ cl)) Wc (Wc ++ cl.map (·.2)) S' h₅ := ⟨⟨_, nsC⟩, CcW, fun y c e => by
      have e' : (own ++ cl).lookup y = some c := e
      rw [lookup_app] at e'
      cases q : own.lookup y with
      | some c' =>
        rw [q] at e'
        cases e'
        have z := ownC y c (mem_of_lookup q)
        exact ⟨⟨_, z.1⟩, List.mem_append_left _ (ownW y c (mem_of_lookup q)), Nat.ne_of_gt z.2⟩
      | none =>
        rw [q] at e'
        obtain ⟨z1, u, z2⟩ := clo y c (mem_of_lookup e')
        refine ⟨⟨_, z2.keeps s05⟩, List.mem_append_right _ (List.mem_map_of_mem (f := (·.2)) (mem_of_lookup e')), ?_⟩
        obtain ⟨o, z3, _⟩ := z2
        exact fun z => (hSn _ _ z3).1 (z ▸ CcW), fun y e => by
      have z := cellsFrom_some (x := y) scope.names (Cc + 1) [] (.inl e)
      rw [hown] at z
      obtain ⟨c, hc⟩ := Option.isSome_iff_exists.mp z
      refine ⟨c, ?_, ownW y c (mem_of_lookup hc)⟩
      show (own ++ cl).lookup y = some c
      rw [lookup_app, hc]; rfl, fun y z c hy e e' => by
      have e1 : (own ++ cl).lookup y = some c := e
      have e2 : (own ++ cl).lookup z = some c := e'
      have zz := cellsFrom_some (x := y) scope.names (Cc + 1) [] (.inl hy)
      rw [hown] at zz
      obtain ⟨c1, hc1⟩ := Option.isSome_iff_exists.mp zz
      rw [lookup_app, hc1] at e1
      cases e1
      rw [lookup_app] at e2
      cases q : own.lookup z with
      | some c' => rw [q] at e2; cases e2; exact name_of_addr ok.apart (mem_of_lookup hc1) (mem_of_lookup q)
      | none =>
        rw [q] at e2
        obtain ⟨_, u, o, z3, _⟩ := clo z _ (mem_of_lookup e2)
        exact absurd (ownW y _ (mem_of_lookup hc1)) (hSn _ _ z3).1, fun b hb => List.mem_append_left _ hb, memS, fun b hb => by
      rcases List.mem_append.mp hb with q | q
      · exact wcL b q
      · obtain ⟨⟨y, c⟩, hm, rfl⟩ := List.mem_map.mp q
        obtain ⟨_, u, o, z3, _⟩ := clo y c hm
        exact ⟨o, s05 _ _ z3⟩⟩
  have wrV' : ∀ b ∈ Wc ++ cl.map (·.2), b ∉ wr := fun b hm hw => by
    rcases List.mem_append.mp hm with q | q
    · exact notWc b (wrlt b hw) q
    · obtain ⟨⟨y, c⟩, hm', rfl⟩ := List.mem_map.mp q
      obtain ⟨_, u, o, z3, _⟩ := clo y c hm'
      exact (hSn _ _ z3).2.1 hw
  have aV' : a ∉ Wc ++ cl.map (·.2) := fun hm => by
    rcases List.mem_append.mp hm with q | q
    · exact aV q
    · obtain ⟨⟨y, c⟩, hm', rfl⟩ := List.mem_map.mp q
      obtain ⟨_, u, o, z3, _⟩ := clo y c hm'
      exact (hSn _ _ z3).2.2 rfl
  exact K a Cc (own ++ cl) Wc (Wc ++ cl.map (·.2)) S' h₅ ⟨C₅, F₅, s05, s25, listA, CcW, aV, awr, aJ, hSn, fpn, inS', wrV', aV'⟩
theorem comp_core {elt iter : Expr} {ifs : List Expr} {x : Str} {px pos : Pos} {scope : Scope} {src : Dat} {items : List Dat} {p : Nat → Bool} {out : Nat → Dat} {env : Env} {S : List Addr} {A : Around} {s : Shared} {v : Value} {E : Value → Shared → Prop} {RR : Value → Addr → Result → Shared → Prop}
    (O : CompOK N ρ ρf scope x) (it : Iters w n src items) (hlen : items.length ≤ 1000000)
    (tests : ∀ i d, items[i]? = some d → (ifs = [] ∧ p i = true) ∨ ∃ c, ifs = [c] ∧ TST w n (relN N scope.names) ((x, d) :: ρf) c (p i))
    (elts : ∀ i d, items[i]? = some d → p i = true → EV w n (relN N scope.names) ((x, d) :: ρf) elt (out i))
    (C : Cx w n N ρ env S A s.heap) (hv : D (hideAll s.heap S) v src)
    (hRR : ∀ (a Cc : Addr) h' tk vs, Sub s.heap h' → h'.IsList a vs.toArray → (∃ o, (hideAll h' (Cc :: S)).get? a = some o ∧ o.cls = .type "list" ∧ ∃ k, o.data = .seq vs.toArray k) → DD (hideAll h' (Cc :: S)) vs (resAt p out items.length) → (∃ m, h'.Ns Cc m) → s.heap.get? Cc = none → RR (.ref a) Cc (.ok .next) { s with heap := h', toks := tk }) :
    wpAny (model PR w) A (pyIter v) (fun it s₂ => wpAny (model PR w) A (newList []) (fun acc s₃ => wpAny (model PR w) A (newFunctionEnv scope env.globals (cloL env scope.names []) [] env.qual none .none (some env)) (fun cenv s₄ =>
      codeAny (model PR w) A (.compStart (.ListComp elt [⟨.Name x px, iter, ifs, 0⟩] scope pos) 0 it acc { cenv with scope := relabel scope env }) (RR acc cenv.locals) s₄) E s₃) E s₂) E s := by
  refine it S A s v C.room C.live C.good hv _ _ fun J fp h₂ tk₂ P St' wk => ?_
  have fr : ∀ b ∈ [J], s.heap.get? b = none := fun b hb => by rw [List.mem_singleton.mp hb]; exact wk.fresh
  have al : ∀ b ∈ [J], ∃ o, h₂.get? b = some o := fun b hb => by rw [List.mem_singleton.mp hb]; exact wk.alive _ _ wk.start
  refine comp_enter (s := s) O C wk.sub fr al fun a Cc cells Wc Vc S' h₅ X => ?_
  have memS : ∀ b ∈ Wc, b ∈ S' := fun b hb => (X.inS' b).mpr (.inl hb)
  have wrS' : ∀ b ∈ [J], b ∈ S' := fun b hb => (X.inS' b).mpr (.inr (.inl hb))
  have aS' : a ∈ S' := (X.inS' a).mpr (.inr (.inr (.inl rfl)))
  have fpn : ∀ b ∈ fp, b ∉ Wc ∧ b ≠ a := fun b hb => by
    rcases wk.foot b hb with e | ⟨o, e⟩
    · obtain ⟨o, q⟩ := al b (by rw [e]; exact .head _)
      exact X.fpn b o q
    · have z := X.hSn b o (of_hideAll _ e); exact ⟨z.1, z.2.2⟩
  have tgt : (relN N scope.names).lookup x = some .local ∨ (relN N scope.names).lookup x = some .cell := by
    rcases O.tgt with q | q
    · left; rw [relN_lookup q]; rfl
    · right; rw [relN_lookup q]; rfl
  have tgt2 : scope.names.lookup x = (relN N scope.names).lookup x := by
    rcases O.tgt with q | q
    · rw [relN_lookup q, q]; rfl
    · rw [relN_lookup q, q]; rfl
  have loop : codeAny (model PR w) A (.compLoop (.ListComp elt [⟨.Name x px, iter, ifs, 0⟩] scope pos) 0 (.ref J) (.ref a) (compEnv scope env Cc cells)) (RR (.ref a) Cc) { s with heap := h₅, toks := tk₂ } := by
    refine codeAny_compLoop_tests (fun m s' => ∃ i h' tk vs, (m = items.length + 1 - i ∧ s' = { s with heap := h', toks := tk }) ∧ All8 (i ≤ items.length) (St' i h') (Sub s.heap h') (∃ o, h'.get? a = some o ∧ o.cls = .type "list" ∧ ∃ k, o.data = .seq vs.toArray k)
      (DD (hideAll h' S') vs (resAt p out i)) (vs.length ≤ i) (FS scope.names (compEnv scope env Cc cells) Wc Vc S' h') (Cx w n (relN N scope.names) ρf (compEnv scope env Cc cells) S' A h')) ?_ (items.length + 1)
      ⟨0, h₅, tk₂, [], ⟨by omega, rfl⟩, Nat.zero_le _, wk.walk.frame _ _ _ wk.start (fun b _ q e => X.s25 _ _ e), X.s05, ⟨_, X.listA, rfl, 0, rfl⟩, .nil, Nat.le_refl _, X.F₅, X.C₅⟩
    rintro m s' ⟨i, h', tk, vs, ⟨rfl, rfl⟩, hi, st, sb, ⟨oa, ha1, ha2, ka, ha3⟩, dd, vl, F', C'⟩
    by_cases hlt : i < items.length
    · refine wk.walk.item i _ _ _ hlt st fun v h₆ tk₆ hP st₆ k₆ => ?_
      obtain ⟨C₆, F₆⟩ := Cx.turns C' F' wrS' X.wrV' (fun b q hb e => k₆ b q hb e) (fun b hb => by rw [List.mem_singleton.mp hb]; exact wk.alive _ _ st₆)
      obtain ⟨d, hd', dv⟩ := wk.item i v hlt hP
      have sb₆ : Sub s.heap h₆ := fun b q e => k₆ b q (fun hm => (X.hSn b q e).2.1 hm) (sb _ _ e)
      have dd₆ : DD (hideAll h₆ S') vs (resAt p out i) := dd.mono (Keep.hide (W := [J]) (fun b q hb e => k₆ b q hb e) wrS')
      refine wpAny_assign_Name (store_run C₆ F₆ tgt tgt2 (dv _ (X.subS h₆ sb₆)) fun h₇ tk₇ k₇ F₇ r₇ => ?_)
      have C₇ := C₆.after F₆ k₇ F₇ r₇
      have ha₇ : h₇.get? a = some oa := k₇ a oa X.aV (k₆ a oa X.awr ha1)
      have sb₇ : Sub s.heap h₇ := fun b q e => k₇ b q (X.hSn b q e).1 (sb₆ _ _ e)
      have st₇ : St' (i + 1) h₇ := wk.walk.frame _ _ _ st₆ fun b hb q e => k₇ b q (fpn b hb).1 e
      have dd₇ := dd₆.mono (k₇.hide memS)
      -- the tests
      have tst : ∀ (Q' : Bool → Shared → Prop) (E' : Value → Shared → Prop), (∀ h₈ tk₈, Sub h₇ h₈ → Q' (p i) { s with heap := h₈, toks := tk₈ }) →
          wpAny (model PR w) A (forIn ifs true fun c r => if r = true then do let ok ← isTrue c (compEnv scope env Cc cells) (eval c (compEnv scope env Cc cells)); pure (ForInStep.yield ok) else pure (ForInStep.yield r)) Q' E' { s with heap := h₇, toks := tk₇ } := fun Q' E' K' => by
        rcases tests i d hd' with ⟨e1, e2⟩ | ⟨c, e1, e2⟩
        · subst e1; rw [e2] at K'; exact wpAny_tests_nil (K' h₇ tk₇ (Sub.refl _))
        · subst e1; exact wpAny_tests_one (e2 (compEnv scope env Cc cells) _ A { s with heap := h₇, toks := tk₇ } C₇ Q' E' K')
      refine tst _ _ fun h₈ tk₈ s₈ => ?_
      have C₈ := C₇.mono s₈
      have lss : ∀ y d', ρf.lookup y = some d' → ((x, d) :: ρf).lookup y = some d' := fun y d' e => by
        rw [List.lookup_cons]
        cases q : y == x with
        | true =>
          have q' : y = x := by simpa using q
          subst q'
          have z := (O.cap y d' e).2.1
          rcases O.tgt with t' | t' <;> (rw [t'] at z; cases z)
        | false => exact e
      have st₈ : St' (i + 1) h₈ := wk.walk.frame _ _ _ st₇ fun b _ q e => s₈ _ _ e
      by_cases hp : p i = true
      · rw [hp]
        simp only [if_true]
        refine elts i d hd' hp (compEnv scope env Cc cells) _ A { s with heap := h₈, toks := tk₈ } C₈ _ _ fun u h₉ tk₉ s₉ du => ?_
        have sz : vs.toArray.size ≤ sizeLine := by rw [List.size_toArray]; show _ ≤ 2 ^ 24; omega
        refine wpAny_list_append (items := vs.toArray) ⟨oa, s₉ _ _ (s₈ _ _ ha₇), ha2, ka, ha3⟩ (fun h₁₀ hl₁₀ hs₁₀ => ?_) sz
        have kA : Keep [a] h₉ h₁₀ := fun b q hb e => hs₁₀.extBut b q (by simpa using hb) e
        obtain ⟨oA, hA1, hA2⟩ := hl₁₀
        obtain ⟨C₁₀, F₁₀⟩ := Cx.turn (C₈.mono s₉) ((F₇.mono s₈).mono s₉) aS' X.aV' kA ⟨oA, hA1⟩
        have kS : Sub (hideAll h₉ S') (hideAll h₁₀ S') := kA.hide fun b hb => List.mem_singleton.mp hb ▸ aS'
        refine ⟨items.length + 1 - (i + 1), by omega, i + 1, h₁₀, tk₉, vs ++ [u], ⟨rfl, rfl⟩, hlt, wk.walk.frame _ _ _ (wk.walk.frame _ _ _ st₈ fun b _ q e => s₉ _ _ e) fun b hb q e => kA b q (fun hm => (fpn b hb).2 (List.mem_singleton.mp hm)) e,
          fun b q e => kA b q (fun hm => (X.hSn b q e).2.2 (List.mem_singleton.mp hm)) (s₉ _ _ (s₈ _ _ (sb₇ _ _ e))), ⟨oA, hA1, hA2.1, by obtain ⟨k', z⟩ := hA2.2; exact ⟨k', by rw [z]; simp⟩⟩, ?_, by simp; omega, F₁₀, C₁₀.less lss⟩
        rw [resAt_succ, if_pos hp]
        exact DD.snoc (du.mono kS) (((dd₇.mono (s₈.hide _)).mono (s₉.hide _)).mono kS)
      · have hp' : p i = false := by simpa using hp
        rw [hp']
        simp only [Bool.false_eq_true, if_false]
        refine ⟨items.length + 1 - (i + 1), by omega, i + 1, h₈, tk₈, vs, ⟨rfl, rfl⟩, hlt, st₈, fun b q e => s₈ _ _ (sb₇ _ _ e), ⟨oa, s₈ _ _ ha₇, ha2, ka, ha3⟩, ?_, by omega, F₇.mono s₈, C₈.less lss⟩
        rw [resAt_succ, if_neg hp]
        exact dd₇.mono (s₈.hide _)
    · have hin : i = items.length := by omega
      subst hin
      refine wk.walk.done _ _ _ st fun h₆ tk₆ k₆ => ?_
      have ha₆ : h₆.get? a = some oa := k₆ a oa X.awr ha1
      have sb₆ : Sub s.heap h₆ := fun b q e => k₆ b q (fun hm => (X.hSn b q e).2.1 hm) (sb _ _ e)
      have F₆ := F'.turns X.wrV' (fun b q hb e => k₆ b q hb e)
      have big : Sub (hideAll h' S') (hideAll h₆ (Cc :: S)) := fun b q e => by
        have hn := not_mem_of_hide e
        refine hideAll_get _ (k₆ b q (fun hm => hn (wrS' b hm)) (of_hideAll _ e)) fun hm => hn ?_
        rcases List.mem_cons.mp hm with z | z
        · exact z ▸ memS _ X.CcW
        · exact (X.inS' b).mpr (.inr (.inr (.inr z)))
      refine hRR a Cc h₆ tk₆ vs sb₆ ⟨oa, ha₆, ha2, ka, ha3⟩ ⟨oa, hideAll_get _ ha₆ fun hm => ?_, ha2, ka, ha3⟩ (dd.mono big) F₆.loc ?_
      · rcases List.mem_cons.mp hm with z | z
        · exact X.aV (z ▸ X.CcW)
        · exact X.aJ z
      · cases q : s.heap.get? Cc with
        | none => rfl
        | some o => exact absurd X.CcW (X.hSn _ _ q).1
  exact codeAny_compStart_list loop (wk.walk.self 0 { s with heap := h₅, toks := tk₂ } _ _ (wk.walk.frame _ _ _ wk.start (fun b _ q e => X.s25 _ _ e)) loop)

theorem CompOK.cells {env : Env} {S : List Addr} {A : Around} {h : Heap} {scope : Scope} {x : Str} (O : CompOK N ρ ρf scope x) (C : Cx w n N ρ env S A h) : ∀ p ∈ scope.names, p.2 = .free → ∃ c, env.cells.lookup p.1 = some c := fun p hp hf => by
  obtain ⟨⟨d, hd'⟩, hk⟩ := O.free p hp hf
  obtain ⟨u, r, _⟩ := C.vars p.1 d hd'
  cases r with
  | loc m a b c => rw [C.env_ok.knd] at a; rcases hk with z | z <;> (rw [z] at a; cases a)
  | cell c a b e => exact ⟨c, b⟩
theorem CompOK.names {scope : Scope} {x : Str} (O : CompOK N ρ ρf scope x) : ∀ y ∈ scope.names, y.2 = .local → scope.names.lookup y.1 = some .local := fun y hy hl => by
  cases q : scope.names.lookup y.1 with
  | none =>
    exfalso
    have : ∀ (l : List (Str × NameKind)), y ∈ l → l.lookup y.1 ≠ none := by
      intro l hm
      induction l with
      | nil => cases hm
      | cons z r ih =>
        rw [List.lookup_cons]
        rcases List.mem_cons.mp hm with e | e
        · subst e; simp
        · cases y.1 == z.1 with
          | true => simp
          | false => exact ih e
    exact this _ hy q
  | some k => rw [nodup_one O.nodup (mem_of_lookup q) (show (y.1, NameKind.local) ∈ scope.names from hl ▸ hy)]

/-- what a list of values is, as a datum -/
noncomputable def Lists (es : List Dat) (d : Dat) : Prop := ∀ (h : Heap) (a : Addr) (vs : List Value), (∃ o, h.get? a = some o ∧ o.cls = .type "list" ∧ ∃ k, o.data = .seq vs.toArray k) → DD h vs es → D h (.ref a) d
theorem dd_py {h : Heap} : ∀ {ds : List PyData} {vs : List Value}, DD h vs (ds.map Dat.py) → DPs h vs ds
  | [], _, dd => by cases dd; exact .nil
  | d :: ds, _, dd => by cases dd with | cons x r => exact .cons x (dd_py r)
theorem dd_white {h : Heap} : ∀ {ds : List WD} {vs : List Value}, DD h vs (ds.map Dat.white) → AllW h vs ds
  | [], _, dd => by cases dd; exact .nil
  | d :: ds, _, dd => by cases dd with | cons x r => exact .cons x (dd_white r)
theorem lists_py {ds : List PyData} : Lists (ds.map Dat.py) (Ls ds) := fun h a vs hl dd => DP.list hl (dd_py dd)
theorem lists_white {ds : List WD} : Lists (ds.map Dat.white) (.whites ds) := fun h a vs hl dd => ⟨a, vs, rfl, hl, dd_white dd⟩
theorem EV.comp {elt iter : Expr} {ifs : List Expr} {x : Str} {px pos : Pos} {scope : Scope} {src : Dat} {items : List Dat} {p : Nat → Bool} {out : Nat → Dat} {d : Dat} (hit : EV w n N ρ iter src) (O : CompOK N ρ ρf scope x) (it : Iters w n src items) (hlen : items.length ≤ 1000000)
    (tests : ∀ i d, items[i]? = some d → (ifs = [] ∧ p i = true) ∨ ∃ c, ifs = [c] ∧ TST w n (relN N scope.names) ((x, d) :: ρf) c (p i))
    (elts : ∀ i d, items[i]? = some d → p i = true → EV w n (relN N scope.names) ((x, d) :: ρf) elt (out i))
    (hd' : Lists (resAt p out items.length) d) (hs : ∀ env x, foldedSetIterable iter env x = pure x := by intro _ _; rfl) : EV w n N ρ (.ListComp elt [⟨.Name x px, iter, ifs, 0⟩] scope pos) d := fun env S A s C Q E K => by
  rw [eval_ListComp]
  refine wpAny_comprehension_free (use := none) rfl (hs env) (closure_of (O.cells C)) O.kind O.names (hit env S A s C _ E fun v h₁ tk₁ s₁ r₁ => ?_)
  refine comp_core (s := { s with heap := h₁, toks := tk₁ }) O it hlen tests elts (C.mono s₁) r₁ fun a Cc h' tk vs sb hl hl' dd hn hf => ?_
  obtain ⟨m, hm⟩ := hn
  refine ⟨m, hm, fun h'' hs'' => K _ h'' tk (fun b o e => ?_) (D.mono ?_ (hd' _ a vs hl' dd))⟩
  · have e' := s₁ _ _ e
    exact (hs''.2 b (fun z => by rw [z] at e'; rw [hf] at e'; cases e')).trans (sb _ _ e')
  · intro b o e
    have hn := not_mem_of_hide e
    exact hideAll_get _ ((hs''.2 b fun z => hn (z ▸ .head _)).trans (of_hideAll _ e)) fun hm => hn (.tail _ hm)
theorem EX1.comp {elt iter : Expr} {ifs : List Expr} {x y : Str} {px py pos spos : Pos} {scope : Scope} {src : Dat} {items : List Dat} {p : Nat → Bool} {out : Nat → Dat} {d : Dat} (hit : EV w n N ρ iter src) (O : CompOK N ρ ρf scope x) (it : Iters w n src items) (hlen : items.length ≤ 1000000)
    (tests : ∀ i d, items[i]? = some d → (ifs = [] ∧ p i = true) ∨ ∃ c, ifs = [c] ∧ TST w n (relN N scope.names) ((x, d) :: ρf) c (p i))
    (elts : ∀ i d, items[i]? = some d → p i = true → EV w n (relN N scope.names) ((x, d) :: ρf) elt (out i))
    (hd' : Lists (resAt p out items.length) d) (hk : N.lookup y = some .local ∨ N.lookup y = some .cell)
    (hsw : ∀ env, EnvOK N env → swapsWith (.ListComp elt [⟨.Name x px, iter, ifs, 0⟩] scope pos) (some (.Name y py)) spos.line env = pure true)
    (hs : ∀ env x, foldedSetIterable iter env x = pure x := by intro _ _; rfl) : EX1 w n N ρ (.Assign [.Name y py] (.ListComp elt [⟨.Name x px, iter, ifs, 0⟩] scope pos) spos) (.next ((y, d) :: ρ)) := fun env W V S A s C F Q E K => by
  rw [exec_Assign_Name_used _ _ _ _ (hsw env C.env_ok)]
  refine wpAny_bind (wpAny_standAt (wpAny_bind ?_))
  show wpAny _ A (do let _ ← comprehension (.ListComp elt [⟨.Name x px, iter, ifs, 0⟩] scope pos) scope env _ (newList []) false (eval iter env) (some (PySem.assign (.Name y py) env))) _ _ s
  refine wpAny_bind (wpAny_mono (wpAny_comprehension_free (use := some (PySem.assign (.Name y py) env)) (Q := fun _ s' => Q .next s') rfl (hs env) (closure_of (O.cells C)) O.kind O.names (hit env S A s C _ E fun v h₁ tk₁ s₁ r₁ => ?_))
    (fun _ s' hq => wpAny_pure (wpAny_pure hq)) fun _ _ e => e)
  refine comp_core (s := { s with heap := h₁, toks := tk₁ }) O it hlen tests elts (C.mono s₁) r₁ fun a Cc h' tk vs sb hl hl' dd hn hf => ?_
  obtain ⟨m, hm⟩ := hn
  show wpAny _ A (PySem.assign (.Name y py) env (.ref a)) _ _ _
  have s' := s₁.trans sb
  have hfs : s.heap.get? Cc = none := by
    cases q : s.heap.get? Cc with
    | none => rfl
    | some o => have := s₁ _ _ q; rw [hf] at this; cases this
  have CW : Cc ∉ V := fun hmV => by obtain ⟨o, e⟩ := F.vl Cc hmV; rw [hfs] at e; cases e
  have CW' : Cc ∉ W := fun hmW => CW (F.wV _ hmW)
  have C' : Cx w n N ρ env (Cc :: S) A h' := ⟨C.env_ok, fun b hb => by
      rcases List.mem_cons.mp hb with z | z
      · rw [z]; obtain ⟨o, _, _, e, _⟩ := hm; exact ⟨o, e⟩
      · obtain ⟨o, e⟩ := C.live b z; exact ⟨o, s' _ _ e⟩, C.good.mono (sub_fresh s' hfs), fun z d' e => by
      obtain ⟨u, a', b'⟩ := C.vars z d' e
      exact ⟨u, a'.mono s', b'.mono (sub_fresh s' hfs)⟩, C.room⟩
  refine wpAny_assign_Name (store_run (s := { s with heap := h', toks := tk }) C' ((F.mono s').bigger fun b hb => .tail _ (F.wS b hb)) hk rfl (hd' _ a vs hl' dd) fun h₂ tk₂ k₂ F₂ r₂ => ?_)
  refine ⟨m, hm.at' fun o e => k₂ _ o CW' e, fun h'' hs'' => ?_⟩
  have kC : Keep [Cc] h₂ h'' := fun b o hb e => (hs''.2 b (by simpa using hb)).trans e
  refine K .next h'' tk₂ (fun b o hb e => kC b o (fun hmm => ?_) (k₂ b o hb (s' _ _ e))) ((F₂.turn CW kC).bigger F.wS) (r₂.turn F₂ CW kC fun b o e => ?_)
  · rw [List.mem_singleton.mp hmm, hfs] at e; cases e
  · have hn := not_mem_of_hide e
    exact hideAll_get _ (kC b o (fun hmm => hn (List.mem_singleton.mp hmm ▸ .head _)) (of_hideAll _ e)) fun hmm => hn (.tail _ hmm)
end
end RsLaw
end
section
open PySem PySem.Spec PySem.Calls PySem.W PyProof.Rows PySem.SeqAt
set_option maxRecDepth 100000
set_option linter.unusedVariables false
namespace RsLaw
section
variable {w : World} {n : Nat} {N : List (Str × NameKind)} {ρ : Rho}

theorem assign2_run {env : Env} {W V S : List Addr} {A : Around} {s : Shared} {x y : Str} {px py tpos : Pos} {k : Nat} {v : Value} {d₁ d₂ : PyData} {N₂ : List (Str × NameKind)} (C : Cx w n N ρ env S A s.heap) (F : FS N₂ env W V S s.heap) (hv : D (hideAll s.heap S) v (Tu [d₁, d₂]))
    (hx : N.lookup x = some .local ∨ N.lookup x = some .cell) (hy : N.lookup y = some .local ∨ N.lookup y = some .cell) (hx2 : N₂.lookup x = N.lookup x) (hy2 : N₂.lookup y = N.lookup y) {Q : Unit → Shared → Prop} {E : Value → Shared → Prop}
    (K : ∀ h' tk, Keep W s.heap h' → FS N₂ env W V S h' → EnvRel ((y, .py d₂) :: (x, .py d₁) :: ρ) env h' S → Q () { s with heap := h', toks := tk }) :
    wpAny (model PR w) A (assign (.Tuple [.Name x px, .Name y py] k tpos) env v) Q E s := by
  obtain ⟨a, vs, rfl, ht, q⟩ := DP.tuple_inv hv
  obtain ⟨v₁, r₁, rfl, q₁, q'⟩ := q.uncons
  obtain ⟨v₂, r₂, rfl, q₂, q''⟩ := q'.uncons
  have := q''.unnil
  subst this
  refine assign_Tuple_tuple C.room.handled (ht.keeps (Sub.of_hide _ _)) rfl rfl fun h' he => ?_
  have s' : Sub s.heap h' := fun b o e => he b o (Nat.ne_of_lt (Heap.lt_size e)) e
  refine assignInOrder_cons (PyProof.Rows.assign_Name (store_run (d := .py d₁) (s := { s with heap := h' }) (C.mono s') (F.mono s') hx hx2 (DP.mono (s'.hide S) q₁) fun h₁ t₁ k₁ F₁ e₁ => ?_))
  refine assignInOrder_cons (PyProof.Rows.assign_Name (store_run (d := .py d₂) (s := { s with heap := h₁, toks := t₁ }) ((C.mono s').after (F.mono s') k₁ F₁ e₁) F₁ hy hy2 (DP.mono (k₁.hide F.wS) (DP.mono (s'.hide S) q₂)) fun h₂ t₂ k₂ F₂ e₂ => ?_))
  exact assignInOrder_nil (K h₂ t₂ (((Keep.of_sub s').trans k₁).trans k₂) F₂ e₂)
theorem EX1.assign2 {x y : Str} {px py tpos pos : Pos} {k : Nat} {e : Expr} {d₁ d₂ : PyData} (h : EV w n N ρ e (Tu [d₁, d₂])) (hx : N.lookup x = some .local ∨ N.lookup x = some .cell) (hy : N.lookup y = some .local ∨ N.lookup y = some .cell)
    (hs : ∀ env, swapsWithSole [.Tuple [.Name x px, .Name y py] k tpos] e pos.line env = pure false := by intro _; rfl) (hw : ∀ env, swappedStores [.Tuple [.Name x px, .Name y py] k tpos] e env = pure none := by intro _; rfl) :
    EX1 w n N ρ (.Assign [.Tuple [.Name x px, .Name y py] k tpos] e pos) (.next ((y, .py d₂) :: (x, .py d₁) :: ρ)) := fun env W V S A s C F Q E K =>
  Assign_Tuple (h env S A s C _ E fun v h₁ t₁ s₁ r => assign2_run (s := { s with heap := h₁, toks := t₁ }) (C.mono s₁) (F.mono s₁) r hx hy rfl rfl fun h' tk k' F' r' => K .next h' tk ((Keep.of_sub s₁).trans k') F' r') (hs env) (hw env)

theorem nt_len (hx : N.lookup ("len" : Str) = some .globalImplicit) : NameTo w N "len" (.builtin "len") := NameTo.builtin hx (by k_is) (by decide +kernel)
theorem nt_max (hx : N.lookup ("max" : Str) = some .globalImplicit) : NameTo w N "max" (.builtin "max") := NameTo.builtin hx (by k_is) (by decide +kernel)
theorem nt_range (hx : N.lookup ("range" : Str) = some .globalImplicit) : NameTo w N "range" (.type "range") := NameTo.builtin hx (by k_is) (by decide +kernel)

noncomputable def longP (W : WD) : Int := if W.b > (W.count.length : Int) - 1 then W.b else (W.count.length : Int) - 1
theorem fn_longest {W : WD} (hc : W.count.length < 1000) : FNv w (n + 1) (.ref 45) [.white W] (I (longP W)) := by
  refine' FNv.of_def (ps := ["self"]) (ho := ?ho) (hcd := ?hcd) (hb := ?hb) (hl := rfl) (hnd := ?hnd) (hloc := ?hloc) (hcell := ?hcell) (h := ?h) (hco := ?hco) (hgen := ?hgen) (hk := ?hk)
  case ho => k_is
  case hcd => k_is
  case hb => intro vs hv; obtain ⟨a, rfl⟩ := vlen1 hv; rfl
  case hnd => decide
  case hloc => decide
  case hcell => decide
  case hco => rfl
  case hgen => rfl
  case hk => rfl
  case h =>
    refine EX.cons (EX1.assign2 (EV.attr (EV.name (by rfl)) white_norm) (.inl (by rfl)) (.inl (by rfl))) ?_
    refine EX.ret (EX1.ret (EV.call_builtin (nt_max (by rfl)) (.more (EV.binop (EV.call_builtin (nt_len (by rfl)) (.more (EV.name (by rfl)) .nil) (FNv.one (fn_len_tuple (by simpa using Nat.lt_trans hc (by decide))))) EV.const_int op_sub_int) (.more (EV.name (by rfl)) .nil)) (FNv.two ?_)))
    have := @fn_max w n ((W.count.map PyData.int).length - 1) W.b
    unfold longP
    simpa using this

noncomputable def Rle (ρ ρ' : Rho) : Prop := ∀ x d, ρ.lookup x = some d → ρ'.lookup x = some d
theorem Rle.nil {ρ : Rho} : Rle [] ρ := fun _ _ e => by cases e
theorem Rle.cons {ρ ρ' : Rho} {y : Str} {d : Dat} (h : ρ'.lookup y = some d) (r : Rle ρ ρ') : Rle ((y, d) :: ρ) ρ' := fun x d' e => by
  rw [List.lookup_cons] at e
  cases q : x == y with
  | true => rw [q] at e; cases e; rw [show x = y by simpa using q]; exact h
  | false => rw [q] at e; exact r x d' e
theorem Rle.refl (ρ : Rho) : Rle ρ ρ := fun _ _ e => e
theorem EX.weak {st : List Stmt} {ρ₁ ρ₂ : Rho} (h : EX w n N ρ st (.next ρ₁)) (hr : Rle ρ₂ ρ₁) : EX w n N ρ st (.next ρ₂) := fun env W V S A s C F Q E K => h env W V S A s C F Q E fun fl h' tk k F' r => K fl h' tk k F' (by
  cases fl with
  | next => exact fun x d e => r x d (hr x d e)
  | _ => exact r.elim)
theorem EX.one {st : Stmt} {ρ₁ : Rho} (h : EX1 w n N ρ st (.next ρ₁)) : EX w n N ρ [st] (.next ρ₁) := EX.cons h EX.nil

theorem TST.and {a b : Expr} {pos : Pos} {p q : Bool} (ha : TST w n N ρ a p) (hb : p = true → TST w n N ρ b q) : TST w n N ρ (.BoolOp .And [a, b] pos) (p && q) := fun env S A s C Q E K =>
  isTrue_and (ha env S A s C _ E fun h' tk s₁ => by
    cases p with
    | true => exact isTrue_and (hb rfl env S A _ (C.mono s₁) _ E fun h'' tk' s₂ => by
        cases q with
        | true => exact isTrue_and_nil (K h'' tk' (s₁.trans s₂))
        | false => exact K h'' tk' (s₁.trans s₂))
    | false => exact K h' tk s₁)
theorem TST.or {a b : Expr} {pos : Pos} {p q : Bool} (ha : TST w n N ρ a p) (hb : p = false → TST w n N ρ b q) : TST w n N ρ (.BoolOp .Or [a, b] pos) (p || q) := fun env S A s C Q E K =>
  isTrue_or (ha env S A s C _ E fun h' tk s₁ => by
    cases p with
    | false => exact isTrue_or (hb rfl env S A _ (C.mono s₁) _ E fun h'' tk' s₂ => by
        cases q with
        | false => exact isTrue_or_nil (K h'' tk' (s₁.trans s₂))
        | true => exact K h'' tk' (s₁.trans s₂))
    | true => exact K h' tk s₁)

noncomputable def ilP (W : WD) (ts : Int) (m : Nat) : Int := ((List.range m).map fun (i : Nat) => (ts + (i : Int)).fdiv ts * W.count.getD (ts + (i : Int)).toNat 0).sum
theorem ilP_succ (W : WD) (ts : Int) (m : Nat) : ilP W ts (m + 1) = ilP W ts m + (ts + (m : Int)).fdiv ts * W.count.getD (ts + (m : Int)).toNat 0 := by
  unfold ilP
  rw [List.range_succ, List.map_append, List.sum_append]
  simp
noncomputable def indP (W : WD) (ts : Int) : Int := W.b + ts * (ilP W ts ((W.count.length : Int) - ts).toNat + W.nt)
theorem range_small {a b : Int} (ha : -(2 ^ 62) ≤ a) (ha' : a < 2 ^ 62) (hb : -(2 ^ 62) ≤ b) (hb' : b < 2 ^ 62) : Builtin.Range.small a b 1 = true := small_one ha ha' hb hb'
theorem small_in {a b : Int} (ha : 0 ≤ a) (ha' : a ≤ 2000) (hb : 0 ≤ b) (hb' : b ≤ 2000) : Builtin.Range.small a b 1 = true := range_small (by omega) (by omega) (by omega) (by omega)
theorem range_size (a b : Int) : Builtin.Range.rangeSize a b 1 = (((b - a).toNat : Nat) : Int) := by
  rw [rangeSize_one]; split <;> omega
theorem rngD_get {a c : Int} {m i : Nat} {d : Dat} (h : (rngD a c m)[i]? = some d) : i < m ∧ d = I (a + (i : Int) * c) := by
  unfold rngD at h
  rw [List.getElem?_map] at h
  rcases Nat.lt_or_ge i m with hi | hi
  · rw [List.getElem?_range hi] at h
    simp only [Option.map_some, Option.some.injEq] at h
    exact ⟨hi, h.symm⟩
  · rw [List.getElem?_eq_none (by simpa using hi)] at h
    cases h
theorem rngD_at {a c : Int} {m i : Nat} (h : i < m) : (rngD a c m)[i]? = some (I (a + (i : Int) * c)) := by
  unfold rngD
  rw [List.getElem?_map, List.getElem?_range h]; rfl
theorem fdiv_bounds {a b : Int} (ha : 0 ≤ a) (hb : 1 ≤ b) : 0 ≤ a.fdiv b ∧ a.fdiv b ≤ a := by
  rw [Int.fdiv_eq_ediv_of_nonneg a (by omega)]
  exact ⟨Int.ediv_nonneg ha (by omega), Int.ediv_le_self _ ha⟩
theorem fn_indent {W : WD} {ts : Int} (hc : W.count.length < 1000) (h1 : 1 ≤ ts) (h2 : ts < 1000) : FNv w (n + 1) (.ref 52) [.white W, I ts] (I (indP W ts)) := by
  refine' FNv.of_def (ps := ["self", "tabsize"]) (ho := ?ho) (hcd := ?hcd) (hb := ?hb) (hl := rfl) (hnd := ?hnd) (hloc := ?hloc) (hcell := ?hcell) (h := ?h) (hco := ?hco) (hgen := ?hgen) (hk := ?hk)
  case ho => k_is
  case hcd => k_is
  case hb => intro vs hv; obtain ⟨a, b, rfl⟩ := vlen2 hv; rfl
  case hnd => decide
  case hloc => decide
  case hcell => decide
  case hco => rfl
  case hgen => rfl
  case hk => rfl
  case h =>
    refine EX.cons (EX1.assign2 (EV.attr (EV.name (by rfl)) white_norm) (.inl (by rfl)) (.inl (by rfl))) ?_
    refine EX.cons (EX1.assign EV.const_int (.inl (by rfl))) ?_
    refine EX.cons (EX1.for_name (EV.call_type (nt_range (by rfl)) (.more (EV.name (by rfl)) (.more (EV.call_builtin (nt_len (by rfl)) (.more (EV.name (by rfl)) .nil) (FNv.one (fn_len_tuple (by simpa using Nat.lt_trans hc (by decide))))) .nil)) (FNv.two fn_range2))
      (iters_range (small_in (by clear hc; omega) (by clear hc; omega) (Int.natCast_nonneg _) (by rw [List.length_map]; clear h1 h2; omega)) (range_size _ _)) (.inl (by rfl))
      (fun i => [("il", I (ilP W ts i)), ("trailing", I W.b), ("count", Tu (W.count.map PyData.int)), ("self", .white W), ("tabsize", I ts)]) ((W.count.length : Int) - ts).toNat ?_ ?_ (.inl ⟨?_, rfl⟩)) ?_
    · exact Rle.cons (by rfl) (Rle.cons (by rfl) (Rle.cons (by rfl) (Rle.cons (by rfl) (Rle.cons (by rfl) Rle.nil))))
    · intro i d hi hd'
      obtain ⟨_, rfl⟩ := rngD_get hd'
      refine EX.weak (EX.one (EX1.assign (EV.binop (EV.name (by rfl)) (EV.binop (EV.binop (EV.name (by rfl)) (EV.name (by rfl)) (op_div_int (by omega) (by omega))) (EV.item_tuple (d := .int (W.count.getD (ts + (i : Int)).toNat 0)) (EV.name (by rfl)) (EV.name (by rfl)) (by omega) (by omega) ?_) (op_mul_int ?_ ?_)) op_add_int) (.inl (by rfl)))) ?_
      · have hlt : (ts + (i : Int)).toNat < W.count.length := by omega
        rw [Int.mul_one, List.getElem?_map, List.getElem?_eq_getElem hlt, List.getD_eq_getElem?_getD, List.getElem?_eq_getElem hlt]; rfl
      · have := fdiv_bounds (a := ts + (i : Int) * 1) (b := ts) (by omega) h1; omega
      · have := fdiv_bounds (a := ts + (i : Int) * 1) (b := ts) (by omega) h1; omega
      · refine Rle.cons ?_ (Rle.cons (by rfl) (Rle.cons (by rfl) (Rle.cons (by rfl) (Rle.cons (by rfl) Rle.nil))))
        rw [ilP_succ, Int.mul_one]; rfl
    · simp [rngD]
    · refine EX.ret (EX1.ret (EV.binop (EV.name (by rfl)) (EV.binop (EV.name (by rfl)) (EV.binop (EV.name (by rfl)) (EV.attr (EV.name (by rfl)) white_nt) op_add_int) (op_mul_int (by omega) (by omega))) op_add_int))

theorem first_bad (P : Nat → Bool) : ∀ m, (∀ i, i < m → P i = true) ∨ ∃ k, k < m ∧ P k = false ∧ ∀ i, i < k → P i = true
  | 0 => .inl fun _ h => absurd h (Nat.not_lt_zero _)
  | m + 1 => by
    rcases first_bad P m with h | ⟨k, h1, h2, h3⟩
    · cases q : P m with
      | true =>
        refine .inl fun i hi => ?_
        rcases Nat.lt_or_eq_of_le (Nat.le_of_lt_succ hi) with z | z
        · exact h i z
        · rw [z]; exact q
      | false => exact .inr ⟨m, Nat.lt_succ_self _, q, h⟩
    · exact .inr ⟨k, Nat.lt_succ_of_lt h1, h2, h3⟩
noncomputable def topP (A V : WD) : Int := (if longP V > longP A then longP V else longP A) + 1
noncomputable def lessP (A V : WD) : Bool := if A.n ≥ V.n then false else if (A.simple && V.simple) = true then decide (A.nt ≤ V.nt) else (List.range (topP A V - 1).toNat).all fun (i : Nat) => !decide (indP A (2 + (i : Int)) ≥ indP V (2 + (i : Int)))
theorem topP_b {A V : WD} (ha : A.count.length < 100) (hv : V.count.length < 100) (ha' : A.b < 100) (hv' : V.b < 100) (ha0 : 0 ≤ A.b) (hv0 : 0 ≤ V.b) : 0 ≤ topP A V ∧ topP A V ≤ 100 := by
  have la : -1 ≤ longP A ∧ longP A < 100 := by clear hv hv' hv0; unfold longP; split <;> omega
  have lv : -1 ≤ longP V ∧ longP V < 100 := by clear ha ha' ha0; unfold longP; split <;> omega
  clear ha hv ha' hv' ha0 hv0
  unfold topP; split <;> omega
theorem top_eq (t : Int) : ((t + 1) - 2).toNat = (t - 1).toNat := by omega
theorem top_lo {t : Int} (h : 0 ≤ t) : 0 ≤ t + 1 := by omega
theorem top_hi {t : Int} (h : t ≤ 100) : t + 1 ≤ 2000 := by omega
theorem ts_lo (i : Nat) : 1 ≤ 2 + (i : Int) * 1 := by omega
theorem ts_hi {t : Int} {i : Nat} (h : t ≤ 100) (hi : i < (t - 1).toNat) : 2 + (i : Int) * 1 < 1000 := by omega
theorem lt_big {m : Nat} (h : m < 100) : m < 1000 := Nat.lt_trans h (by decide)
theorem fn_less {A V : WD} (ha : A.count.length < 100) (hv : V.count.length < 100) (ha' : A.b < 100) (hv' : V.b < 100) (ha0 : 0 ≤ A.b) (hv0 : 0 ≤ V.b) : FNv w (n + 2) (.ref 73) [.white A, .white V] (B (lessP A V)) := by
  have lt := topP_b ha hv ha' hv' ha0 hv0
  refine' FNv.of_def (ps := ["self", "other"]) (ho := ?ho) (hcd := ?hcd) (hb := ?hb) (hl := rfl) (hnd := ?hnd) (hloc := ?hloc) (hcell := ?hcell) (h := ?h) (hco := ?hco) (hgen := ?hgen) (hk := ?hk)
  case ho => k_is
  case hcd => k_is
  case hb => intro vs hv; obtain ⟨a, b, rfl⟩ := vlen2 hv; rfl
  case hnd => decide
  case hloc => decide
  case hcell => decide
  case hco => rfl
  case hgen => rfl
  case hk => rfl
  case h =>
    have t1 : ∀ (N : List (Str × NameKind)) p1 p2 p3 p4 p5, TST w (n + 1) N [("self", .white A), ("other", .white V)] (.Compare (.Attribute (.Name "self" p1) "n" p2) [.GtE] [.Attribute (.Name "other" p3) "n" p4] p5) (decide (A.n ≥ V.n)) := fun N p1 p2 p3 p4 p5 =>
      TST.cmp (EV.attr (EV.name (by rfl)) white_n) (EV.attr (EV.name (by rfl)) white_n) op_ge_int
    by_cases h1 : A.n ≥ V.n
    · have e : lessP A V = false := by unfold lessP; rw [if_pos h1]
      rw [e]
      exact EX.ret (EX1.ite (c := true) (by simpa [h1] using t1 _ _ _ _ _ _) (fun _ => EX.ret (EX1.ret EV.const_bool)) (fun h => by cases h))
    · refine EX.cons (EX1.ite (c := false) (by simpa [h1] using t1 _ _ _ _ _ _) (fun h => by cases h) (fun _ => EX.nil)) ?_
      have t2 : ∀ (N : List (Str × NameKind)) p1 p2 p3 p4 p5, TST w (n + 1) N [("self", .white A), ("other", .white V)] (.BoolOp .And [.Attribute (.Name "self" p1) "is_simple" p2, .Attribute (.Name "other" p3) "is_simple" p4] p5) (A.simple && V.simple) := fun N p1 p2 p3 p4 p5 =>
        TST.and (TST.plain (EV.attr (EV.name (by rfl)) white_simple) rfl) fun _ => TST.plain (EV.attr (EV.name (by rfl)) white_simple) rfl
      by_cases h2 : (A.simple && V.simple) = true
      · have e : lessP A V = decide (A.nt ≤ V.nt) := by unfold lessP; rw [if_neg h1, if_pos h2]
        rw [e]
        refine EX.ret (EX1.ite (c := true) (h2 ▸ t2 _ _ _ _ _ _) (fun _ => EX.ret (EX1.ret (EV.cmp (EV.attr (EV.name (by rfl)) white_nt) (EV.attr (EV.name (by rfl)) white_nt) op_le_int))) (fun h => by cases h))
      · have h2' : (A.simple && V.simple) = false := by simpa using h2
        refine EX.cons (EX1.ite (c := false) (h2' ▸ t2 _ _ _ _ _ _) (fun h => by cases h) (fun _ => EX.nil)) ?_
        refine EX.cons (EX1.assign (EV.binop (EV.call_builtin (nt_max (by rfl)) (.more (EV.meth (C := 83) (f := 45) (EV.name (by rfl)) .nil (fn_longest (lt_big ha)) (white_inst (by decide)) (by k_is) (by k_is) (by k_is) (by k_is)) (.more (EV.meth (C := 83) (f := 45) (EV.name (by rfl)) .nil (fn_longest (lt_big hv)) (white_inst (by decide)) (by k_is) (by k_is) (by k_is) (by k_is)) .nil)) (FNv.two fn_max)) EV.const_int op_add_int) (.inl (by rfl))) ?_
        have e : lessP A V = (List.range (topP A V - 1).toNat).all fun (i : Nat) => !decide (indP A (2 + (i : Int)) ≥ indP V (2 + (i : Int))) := by unfold lessP; rw [if_neg h1, if_neg h2]
        have hm := top_eq (topP A V)
        rcases first_bad (fun (i : Nat) => !decide (indP A (2 + (i : Int)) ≥ indP V (2 + (i : Int)))) (topP A V - 1).toNat with hall | ⟨k, hk1, hk2, hk3⟩
        · refine EX.cons (EX1.for_name (EV.call_type (nt_range (by rfl)) (.more EV.const_int (.more (EV.binop (EV.name (by rfl)) EV.const_int op_add_int) .nil)) (FNv.two fn_range2))
            (iters_range (small_in (by decide) (by decide) (top_lo lt.1) (top_hi lt.2)) (range_size _ _)) (.inl (by rfl))
            (fun i => [("self", .white A), ("other", .white V)]) (topP A V - 1).toNat ?_ ?_ (.inl ⟨?_, rfl⟩)) ?_
          · exact Rle.cons (by rfl) (Rle.cons (by rfl) Rle.nil)
          · intro i d hi hd'
            obtain ⟨_, rfl⟩ := rngD_get hd'
            have hb := hall i hi
            simp only [Bool.not_eq_true', decide_eq_false_iff_not] at hb
            refine EX.weak (EX.one (EX1.ite (c := false) ?_ (fun h => by cases h) (fun _ => EX.nil))) (Rle.cons (by rfl) (Rle.cons (by rfl) Rle.nil))
            have key : decide (indP A (2 + (i : Int) * 1) ≥ indP V (2 + (i : Int) * 1)) = false := by rw [Int.mul_one]; simpa using hb
            rw [← key]
            exact TST.cmp (EV.meth (C := 83) (f := 52) (EV.name (by rfl)) (.more (EV.name (by rfl)) .nil) (fn_indent (lt_big ha) (ts_lo _) (ts_hi lt.2 hi)) (white_inst (by decide)) (by k_is) (by k_is) (by k_is) (by k_is)) (EV.meth (C := 83) (f := 52) (EV.name (by rfl)) (.more (EV.name (by rfl)) .nil) (fn_indent (lt_big hv) (ts_lo _) (ts_hi lt.2 hi)) (white_inst (by decide)) (by k_is) (by k_is) (by k_is) (by k_is)) op_ge_int
          · simp only [rngD, List.length_map, List.length_range]; exact hm.symm
          · rw [e, List.all_eq_true.mpr (fun i hi => hall i (List.mem_range.mp hi))]
            exact EX.ret (EX1.ret EV.const_bool)
        · have hf : lessP A V = false := by
            rw [e]
            cases q : (List.range (topP A V - 1).toNat).all fun (i : Nat) => !decide (indP A (2 + (i : Int)) ≥ indP V (2 + (i : Int))) with
            | false => rfl
            | true => have := List.all_eq_true.mp q k (List.mem_range.mpr hk1); rw [hk2] at this; cases this
          rw [hf]
          refine EX.ret (EX1.for_name (EV.call_type (nt_range (by rfl)) (.more EV.const_int (.more (EV.binop (EV.name (by rfl)) EV.const_int op_add_int) .nil)) (FNv.two fn_range2))
            (iters_range (small_in (by decide) (by decide) (top_lo lt.1) (top_hi lt.2)) (range_size _ _)) (.inl (by rfl))
            (fun i => [("self", .white A), ("other", .white V)]) k ?_ ?_ (.inr (.inl ⟨I (2 + (k : Int) * 1), B false, ?_, ?_, rfl⟩)))
          · exact Rle.cons (by rfl) (Rle.cons (by rfl) Rle.nil)
          · intro i d hi hd'
            obtain ⟨_, rfl⟩ := rngD_get hd'
            have hb := hk3 i hi
            simp only [Bool.not_eq_true', decide_eq_false_iff_not] at hb
            refine EX.weak (EX.one (EX1.ite (c := false) ?_ (fun h => by cases h) (fun _ => EX.nil))) (Rle.cons (by rfl) (Rle.cons (by rfl) Rle.nil))
            have key : decide (indP A (2 + (i : Int) * 1) ≥ indP V (2 + (i : Int) * 1)) = false := by rw [Int.mul_one]; simpa using hb
            rw [← key]
            exact TST.cmp (EV.meth (C := 83) (f := 52) (EV.name (by rfl)) (.more (EV.name (by rfl)) .nil) (fn_indent (lt_big ha) (ts_lo _) (ts_hi lt.2 (Nat.lt_trans hi hk1))) (white_inst (by decide)) (by k_is) (by k_is) (by k_is) (by k_is)) (EV.meth (C := 83) (f := 52) (EV.name (by rfl)) (.more (EV.name (by rfl)) .nil) (fn_indent (lt_big hv) (ts_lo _) (ts_hi lt.2 (Nat.lt_trans hi hk1))) (white_inst (by decide)) (by k_is) (by k_is) (by k_is) (by k_is)) op_ge_int
          · show (rngD 2 1 ((topP A V + 1) - 2).toNat)[k]? = _
            rw [hm]
            exact rngD_at hk1
          · refine EX.ret (EX1.ite (c := true) ?_ (fun _ => EX.ret (EX1.ret EV.const_bool)) (fun h => by cases h))
            have key : decide (indP A (2 + (k : Int) * 1) ≥ indP V (2 + (k : Int) * 1)) = true := by rw [Int.mul_one]; simpa using hk2
            rw [← key]
            exact TST.cmp (EV.meth (C := 83) (f := 52) (EV.name (by rfl)) (.more (EV.name (by rfl)) .nil) (fn_indent (lt_big ha) (ts_lo _) (ts_hi lt.2 hk1)) (white_inst (by decide)) (by k_is) (by k_is) (by k_is) (by k_is)) (EV.meth (C := 83) (f := 52) (EV.name (by rfl)) (.more (EV.name (by rfl)) .nil) (fn_indent (lt_big hv) (ts_lo _) (ts_hi lt.2 hk1)) (white_inst (by decide)) (by k_is) (by k_is) (by k_is) (by k_is)) op_ge_int

theorem fn_equal {A V : WD} (ha : shaped (normOf A) = true) (hv : shaped (normOf V) = true) : FNv w (n + 1) (.ref 59) [.white A, .white V] (B (PyData.eqv (normOf A) (normOf V))) := by
  refine' FNv.of_def (ps := ["self", "other"]) (ho := ?ho) (hcd := ?hcd) (hb := ?hb) (hl := rfl) (hnd := ?hnd) (hloc := ?hloc) (hcell := ?hcell) (h := ?h) (hco := ?hco) (hgen := ?hgen) (hk := ?hk)
  case ho => k_is
  case hcd => k_is
  case hb => intro vs hv; obtain ⟨a, b, rfl⟩ := vlen2 hv; rfl
  case hnd => decide
  case hloc => decide
  case hcell => decide
  case hco => rfl
  case hgen => rfl
  case hk => rfl
  case h => exact EX.ret (EX1.ret (EV.cmp (EV.attr (EV.name (by rfl)) white_norm) (EV.attr (EV.name (by rfl)) white_norm) (op_eq_data ha hv)))
end
end RsLaw
end
section
open PySem PySem.Spec PySem.Calls PySem.W PyProof.Rows PySem.SeqAt
set_option maxRecDepth 100000
set_option linter.unusedVariables false
namespace RsLaw
section
variable {w : World} {n : Nat} {N : List (Str × NameKind)} {ρ : Rho}

noncomputable def colF (size : Int) (c : Int) (code : Nat) : Int := if (code == 9) = true then c - c.fmod size + size else c + 1
noncomputable def colP (size : Int) (l : List Nat) : Int := l.foldl (colF size) 0
theorem tab_cps : (Str.ofString "\t").cps.toList = [9] := by decide +kernel
theorem fn_column {x : Str} {size : Int} (h1 : 1 ≤ size) : FNv w (n + 1) (.ref 176) [St x, I size] (I (colP size x.cps.toList)) := by
  refine' FNv.of_def (ps := ["line", "size"]) (ho := ?ho) (hcd := ?hcd) (hb := ?hb) (hl := rfl) (hnd := ?hnd) (hloc := ?hloc) (hcell := ?hcell) (h := ?h) (hco := ?hco) (hgen := ?hgen) (hk := ?hk)
  case ho => k_is
  case hcd => k_is
  case hb => intro vs hv; obtain ⟨a, b, rfl⟩ := vlen2 hv; rfl
  case hnd => decide
  case hloc => decide
  case hcell => decide
  case hco => rfl
  case hgen => rfl
  case hk => rfl
  case h =>
    refine EX.cons (EX1.assign EV.const_int (.inl (by rfl))) ?_
    refine EX.cons (EX1.for_name (EV.name (by rfl)) iters_str (.inl (by rfl)) (fun i => [("column", I (colP size (x.cps.toList.take i))), ("line", St x), ("size", I size)]) x.cps.toList.length ?_ ?_ (.inl ⟨?_, rfl⟩)) ?_
    · exact Rle.cons (by rfl) (Rle.cons (by rfl) (Rle.cons (by rfl) Rle.nil))
    · intro i d hi hd'
      have hg : x.cps.toList[i]? = some x.cps.toList[i] := List.getElem?_eq_getElem hi
      have : d = St ⟨#[x.cps.toList[i]]⟩ := by
        have := hd'
        simp only [signs, List.map_map, List.getElem?_map, hg, Option.map_some, Option.some.injEq] at this
        exact this.symm
      subst this
      have hstep : colP size (x.cps.toList.take (i + 1)) = colF size (colP size (x.cps.toList.take i)) x.cps.toList[i] := by
        unfold colP
        rw [List.take_add_one, hg]; simp
      generalize x.cps.toList[i] = c at hstep ⊢
      have tst : ∀ (N : List (Str × NameKind)) (r : Rho) p1 k p2 p3, TST w n N (("sign", St ⟨#[c]⟩) :: r) (.Compare (.Name "sign" p1) [.Eq] [.Constant (.str "\t") k p2] p3) (c == 9) := fun N r p1 k p2 p3 => by
        have := TST.cmp (w := w) (n := n) (N := N) (ρ := ("sign", St ⟨#[c]⟩) :: r) (pos := p3) (EV.name (x := "sign") (pos := p1) (by rfl)) (EV.const_str (x := "\t") (k := k) (pos := p2)) op_eq_str
        rw [tab_cps] at this
        have e : (([c] : List Nat) == [9]) = (c == 9) := by simp
        have e' : ((⟨#[c]⟩ : Str).cps.toList == ([9] : List Nat)) = (c == 9) := e
        rw [e'] at this
        exact this
      refine EX.weak (ρ₁ := (("column", I (colF size (colP size (x.cps.toList.take i)) c)) :: ("sign", St ⟨#[c]⟩) :: [("column", I (colP size (x.cps.toList.take i))), ("line", St x), ("size", I size)])) (EX.one (EX1.ite (tst _ _ _ _ _ _) (fun h => ?_) (fun h => ?_))) ?_
      · unfold colF; rw [if_pos h]
        exact EX.one (EX1.assign (EV.binop (EV.binop (EV.name (by rfl)) (EV.binop (EV.name (by rfl)) (EV.name (by rfl)) (op_mod_int (by omega))) op_sub_int) (EV.name (by rfl)) op_add_int) (.inl (by rfl)))
      · unfold colF; rw [if_neg (by rw [h]; decide)]
        exact EX.one (EX1.assign (EV.binop (EV.name (by rfl)) EV.const_int op_add_int) (.inl (by rfl)))
      · refine Rle.cons ?_ (Rle.cons (by rfl) (Rle.cons (by rfl) Rle.nil))
        rw [hstep]; rfl
    · simp [signs]
    · rw [List.take_length]
      exact EX.ret (EX1.ret (EV.name (by rfl)))

noncomputable def lineP (front : Int) (tail : Str) : Str := if (tail.cps.toList != []) = true then Txt.mul (Str.ofString " ") front ++ tail else Txt.mul (Str.ofString " ") (front + 1)
theorem fn_line {front : Int} {tail : Str} (h1 : MulOk (Str.ofString " ") front) (h2 : MulOk (Str.ofString " ") (front + 1)) (h3 : (Txt.mul (Str.ofString " ") front).length + tail.length ≤ sizeLine) : FNv w (n + 1) (.ref 148) [I front, St tail] (St (lineP front tail)) := by
  refine' FNv.of_def (ps := ["front", "tail"]) (ho := ?ho) (hcd := ?hcd) (hb := ?hb) (hl := rfl) (hnd := ?hnd) (hloc := ?hloc) (hcell := ?hcell) (h := ?h) (hco := ?hco) (hgen := ?hgen) (hk := ?hk)
  case ho => k_is
  case hcd => k_is
  case hb => intro vs hv; obtain ⟨a, b, rfl⟩ := vlen2 hv; rfl
  case hnd => decide
  case hloc => decide
  case hcell => decide
  case hco => rfl
  case hgen => rfl
  case hk => rfl
  case h =>
    have e : (Str.ofString "").cps.toList = [] := by decide +kernel
    refine EX.ret (EX1.ret (EV.ifexp (c := (tail.cps.toList != [])) (e ▸ TST.cmp (EV.name (by rfl)) EV.const_str op_ne_str) (fun h => ?_) (fun h => ?_)))
    · unfold lineP; rw [if_pos h]
      exact EV.binop (EV.binop EV.const_str (EV.name (by rfl)) (op_mul_str h1)) (EV.name (by rfl)) (op_add_str h3)
    · unfold lineP; rw [if_neg (by rw [h]; decide)]
      exact EV.binop EV.const_str (EV.binop (EV.name (by rfl)) EV.const_int op_add_int) (op_mul_str h2)
end
end RsLaw
end
section
open PySem PySem.Spec PySem.Calls PySem.W PyProof.Rows PySem.SeqAt
set_option maxRecDepth 100000
set_option linter.unusedVariables false
namespace RsLaw

noncomputable def flat : PyData → Bool
  | .int _ => true
  | .str _ => true
  | .bool _ => true
  | .none => true
  | _ => false
theorem flat_DP {h h' : Heap} {v : Value} {d : PyData} (hf : flat d = true) (r : DP h v d) : DP h' v d := by
  cases d with
  | int i => obtain ⟨t, rfl⟩ := DP.int_inv r; exact DP.int _ _
  | str i => obtain ⟨t, rfl⟩ := DP.str_inv r; exact DP.str _ _
  | bool i => rw [DP.bool_inv r]; exact DP.bool _
  | none => rw [DP.none_inv r]; exact DP.none
  | _ => cases hf
noncomputable def flats (l : List PyData) : Bool := l.all flat
theorem flat_DPs {h h' : Heap} : ∀ {ds : List PyData} {vs : List Value}, flats ds = true → DPs h vs ds → DPs h' vs ds
  | [], _, _, r => by rw [r.unnil]; exact .nil
  | d :: ds, _, hf, r => by
    obtain ⟨v, vs', rfl, a, r'⟩ := r.uncons
    simp only [flats, List.all_cons, Bool.and_eq_true] at hf
    exact .cons (flat_DP hf.1 a) (flat_DPs (by simpa [flats] using hf.2) r')

/-- a frame whose variable c holds the one list that is being changed -/
structure LS (w : World) (n : Nat) (N : List (Str × NameKind)) (c : Str) (ρ : Rho) (l : List PyData) (env : Env) (W V S : List Addr) (A : Around) (h0 h : Heap) : Prop where
  intro ::
  at_ : ∃ (O : Addr) (vs : List Value), Cx w n N ((c, .ref O) :: ρ) env (O :: S) A h ∧ FS N env W V (O :: S) h ∧ h.PlainList O vs.toArray ∧ (∀ h', DPs h' vs l) ∧ O ∉ V ∧ O ∉ S ∧ h0.get? O = none ∧ Keep W h0 h

inductive OutL where
  | next (ρ : Rho) (l : List PyData)
  | brk (ρ : Rho) (l : List PyData)
  | ret (d : Dat)
noncomputable def OutLOK (w : World) (n : Nat) (N : List (Str × NameKind)) (c : Str) (o : OutL) (fl : Flow) (env : Env) (W V S : List Addr) (A : Around) (h0 h : Heap) : Prop := match o, fl with
  | .next ρ l, .next => LS w n N c ρ l env W V S A h0 h
  | .brk ρ l, .brk => LS w n N c ρ l env W V S A h0 h
  | .ret d, .ret v => D (hideAll h S) v d ∧ FS N env W V S h ∧ Keep W h0 h
  | _, _ => False
noncomputable def EXL (w : World) (n : Nat) (N : List (Str × NameKind)) (c : Str) (ρ : Rho) (l : List PyData) (st : List Stmt) (o : OutL) : Prop :=
  ∀ (env : Env) (W V S : List Addr) (A : Around) (s : Shared) (h0 : Heap), LS w n N c ρ l env W V S A h0 s.heap → ∀ (Q : Flow → Shared → Prop) (E : Value → Shared → Prop),
    (∀ fl h' tk, OutLOK w n N c o fl env W V S A h0 h' → Q fl { s with heap := h', toks := tk }) → wpAny (model PR w) A (execs st env) Q E s
noncomputable def EXL1 (w : World) (n : Nat) (N : List (Str × NameKind)) (c : Str) (ρ : Rho) (l : List PyData) (st : Stmt) (o : OutL) : Prop :=
  ∀ (env : Env) (W V S : List Addr) (A : Around) (s : Shared) (h0 : Heap), LS w n N c ρ l env W V S A h0 s.heap → ∀ (Q : Flow → Shared → Prop) (E : Value → Shared → Prop),
    (∀ fl h' tk, OutLOK w n N c o fl env W V S A h0 h' → Q fl { s with heap := h', toks := tk }) → wpAny (model PR w) A (exec st env) Q E s

section
variable {w : World} {n : Nat} {N : List (Str × NameKind)} {c : Str} {ρ ρ' : Rho} {l l' : List PyData}

theorem hide_more {h : Heap} {S : List Addr} (O : Addr) : Sub (hideAll h (O :: S)) (hideAll h S) := fun b o e => hideAll_get _ (of_hideAll _ e) fun hm => not_mem_of_hide e (.tail _ hm)

theorem LS.frozen {env : Env} {W V S : List Addr} {A : Around} {h0 h : Heap} (L : LS w n N c ρ l env W V S A h0 h) : Cx w n N ((c, Ls l) :: ρ) env S A h := by
  obtain ⟨O, vs, C, F, hl, hf, oV, oS, h0n, k⟩ := L
  refine ⟨C.env_ok, fun a ha => C.live a (.tail _ ha), C.good.mono (hide_more O), fun x d e => ?_, C.room⟩
  rw [List.lookup_cons] at e
  cases q : x == c with
  | true =>
    rw [q] at e; cases e
    have q' : x = c := by simpa using q
    obtain ⟨v, r, dv⟩ := C.vars c (.ref O) (by rw [List.lookup_cons]; simp)
    have dv' : v = .ref O := dv
    subst dv'
    rw [q']
    obtain ⟨o, e1, e2⟩ := hl.isList
    exact ⟨_, r, DP.list ⟨o, hideAll_get _ e1 oS, e2⟩ (hf _)⟩
  | false =>
    rw [q] at e
    obtain ⟨v, r, dv⟩ := C.vars x d (by rw [List.lookup_cons, q]; exact e)
    exact ⟨v, r, dv.mono (hide_more O)⟩
theorem LS.mono {env : Env} {W V S : List Addr} {A : Around} {h0 h h' : Heap} (L : LS w n N c ρ l env W V S A h0 h) (s : Sub h h') : LS w n N c ρ l env W V S A h0 h' := by
  obtain ⟨O, vs, C, F, ⟨o, e1⟩, hf, oV, oS, h0n, k⟩ := L
  exact ⟨O, vs, C.mono s, F.mono s, ⟨o, s _ _ e1⟩, hf, oV, oS, h0n, k.trans (Keep.of_sub s)⟩
theorem LS.fs {env : Env} {W V S : List Addr} {A : Around} {h0 h : Heap} (L : LS w n N c ρ l env W V S A h0 h) : FS N env W V S h ∧ Keep W h0 h := by
  obtain ⟨O, vs, C, F, hl, hf, oV, oS, h0n, k⟩ := L
  exact ⟨F.bigger fun a ha => by
    rcases List.mem_cons.mp (F.wS a ha) with q | q
    · exact absurd (F.wV a ha) (q ▸ oV)
    · exact q, k⟩
theorem LS.less {env : Env} {W V S : List Addr} {A : Around} {h0 h : Heap} (L : LS w n N c ρ l env W V S A h0 h) (hr : Rle ρ' ρ) : LS w n N c ρ' l env W V S A h0 h := by
  obtain ⟨O, vs, C, F, hl, hf, oV, oS, h0n, k⟩ := L
  refine ⟨O, vs, C.less fun x d e => ?_, F, hl, hf, oV, oS, h0n, k⟩
  rw [List.lookup_cons] at e ⊢
  cases q : x == c with
  | true => rw [q] at e; exact e
  | false => rw [q] at e; exact hr x d e

theorem EXL.nil : EXL w n N c ρ l [] (.next ρ l) := fun env W V S A s h0 L Q E K => wpAny_execs_nil (K .next s.heap s.toks L)
theorem EXL.cons {st : Stmt} {rest : List Stmt} {o : OutL} (h₁ : EXL1 w n N c ρ l st (.next ρ' l')) (h₂ : EXL w n N c ρ' l' rest o) : EXL w n N c ρ l (st :: rest) o := fun env W V S A s h0 L Q E K =>
  wpAny_execs_cons (h₁ env W V S A s h0 L _ E fun fl h' tk r => by
    cases fl with
    | next => exact h₂ env W V S A { s with heap := h', toks := tk } h0 r Q E K
    | _ => exact r.elim)
theorem EXL.ret {st : Stmt} {rest : List Stmt} {d : Dat} (h₁ : EXL1 w n N c ρ l st (.ret d)) : EXL w n N c ρ l (st :: rest) (.ret d) := fun env W V S A s h0 L Q E K =>
  wpAny_execs_cons (h₁ env W V S A s h0 L _ E fun fl h' tk r => by
    cases fl with
    | ret v => exact K _ h' tk r
    | _ => exact r.elim)
theorem EXL.brk {st : Stmt} {rest : List Stmt} (h₁ : EXL1 w n N c ρ l st (.brk ρ' l')) : EXL w n N c ρ l (st :: rest) (.brk ρ' l') := fun env W V S A s h0 L Q E K =>
  wpAny_execs_cons (h₁ env W V S A s h0 L _ E fun fl h' tk r => by
    cases fl with
    | brk => exact K _ h' tk r
    | _ => exact r.elim)
theorem EXL.one {st : Stmt} (h₁ : EXL1 w n N c ρ l st (.next ρ' l')) : EXL w n N c ρ l [st] (.next ρ' l') := EXL.cons h₁ EXL.nil
theorem EXL.weak {st : List Stmt} {ρ₂ : Rho} (h : EXL w n N c ρ l st (.next ρ' l')) (hr : Rle ρ₂ ρ') : EXL w n N c ρ l st (.next ρ₂ l') := fun env W V S A s h0 L Q E K => h env W V S A s h0 L Q E fun fl h' tk r => K fl h' tk (by
  cases fl with
  | next => exact LS.less r hr
  | _ => exact r.elim)
theorem EXL1.brk {pos : Pos} : EXL1 w n N c ρ l (.Break pos) (.brk ρ l) := fun env W V S A s h0 L Q E K => wpAny_Break (K .brk s.heap s.toks L)
theorem EXL1.ite {t : Expr} {body orelse : List Stmt} {pos : Pos} {b : Bool} {o : OutL} (ht : TST w n N ((c, Ls l) :: ρ) t b) (ha : b = true → EXL w n N c ρ l body o) (hb : b = false → EXL w n N c ρ l orelse o) : EXL1 w n N c ρ l (.If t body orelse pos) o := fun env W V S A s h0 L Q E K =>
  wpAny_If (ht env S A s L.frozen _ E fun h' tk s₁ => by
    cases b with
    | true => exact ha rfl env W V S A _ h0 (L.mono s₁) Q E K
    | false => exact hb rfl env W V S A _ h0 (L.mono s₁) Q E K)
theorem EXL1.ret {e : Expr} {pos : Pos} {d : Dat} (h : EV w n N ((c, Ls l) :: ρ) e d) : EXL1 w n N c ρ l (.Return (some e) pos) (.ret d) := fun env W V S A s h0 L Q E K =>
  wpAny_Return_some (h env S A s L.frozen _ E fun v h' tk s₁ r => K (.ret v) h' tk ⟨r, (L.mono s₁).fs⟩)

theorem lookup_swap {x : Str} (hx : (x == c) = false) (d : Dat) (O : Addr) : Rle ((c, .ref O) :: (x, d) :: ρ) ((x, d) :: (c, .ref O) :: ρ) := fun y d' e => by
  simp only [List.lookup_cons] at e ⊢
  cases q : y == c with
  | true =>
    rw [q] at e
    have : y = c := by simpa using q
    subst this
    cases q2 : y == x with
    | true =>
      have : y = x := by simpa using q2
      subst this
      simp at hx
    | false => exact e
  | false => rw [q] at e; exact e

/-- a store of a flat value into another variable -/
theorem ls_store {env : Env} {W V S : List Addr} {A : Around} {s : Shared} {h0 : Heap} {x : Str} {v : Value} {d : PyData} (L : LS w n N c ρ l env W V S A h0 s.heap) (hx : N.lookup x = some .local ∨ N.lookup x = some .cell) (hc : (x == c) = false) (hv : ∀ h', DP h' v d)
    {Q : Unit → Shared → Prop} {E : Value → Shared → Prop} (K : ∀ h' tk, LS w n N c ((x, .py d) :: ρ) l env W V S A h0 h' → Q () { s with heap := h', toks := tk }) : wpAny (model PR w) A (storeName env x v) Q E s := by
  obtain ⟨O, vs, C, F, ⟨o, e1⟩, hf, oV, oS, h0n, k⟩ := L
  refine store_run (d := .py d) C F hx rfl (hv _) fun h' tk k' F' r' => K h' tk ?_
  have oW : O ∉ W := fun hm => oV (F.wV _ hm)
  exact ⟨O, vs, (C.after F k' F' r').less (lookup_swap hc _ _), F', ⟨o, k' _ _ oW e1⟩, hf, oV, oS, h0n, k.trans k'⟩

theorem EXL1.assign {x : Str} {px pos : Pos} {e : Expr} {d : PyData} (h : EV w n N ((c, Ls l) :: ρ) e (.py d)) (hf : flat d = true) (hk : N.lookup x = some .local ∨ N.lookup x = some .cell) (hc : (x == c) = false)
    (hs : ∀ env, EnvOK N env → swapsWith e (some (.Name x px)) pos.line env = pure false := by intro _ _; rfl) : EXL1 w n N c ρ l (.Assign [.Name x px] e pos) (.next ((x, .py d) :: ρ) l) := fun env W V S A s h0 L Q E K =>
  wpAny_Assign_Name (h env S A s L.frozen _ E fun v h' tk s₁ r => ls_store (s := { s with heap := h', toks := tk }) (L.mono s₁) hk hc (fun _ => flat_DP hf r) fun h'' tk' L' => K .next h'' tk' L') (hs env L.frozen.env_ok)
theorem EXL1.assign3 {x y z : Str} {px py pz pos : Pos} {e : Expr} {d : PyData} (h : EV w n N ((c, Ls l) :: ρ) e (.py d)) (hf : flat d = true) (hx : N.lookup x = some .local ∨ N.lookup x = some .cell) (hy : N.lookup y = some .local ∨ N.lookup y = some .cell) (hz : N.lookup z = some .local ∨ N.lookup z = some .cell)
    (hcx : (x == c) = false) (hcy : (y == c) = false) (hcz : (z == c) = false)
    (he : ∀ env, (assignEach [.Name x px, .Name y py, .Name z pz] env).map (·.2) = [PySem.assign (.Name x px) env, PySem.assign (.Name y py) env, PySem.assign (.Name z pz) env] := by intro _; rfl)
    (hw : ∀ env, swappedStores [.Name x px, .Name y py, .Name z pz] e env = pure none := by intro _; rfl) :
    EXL1 w n N c ρ l (.Assign [.Name x px, .Name y py, .Name z pz] e pos) (.next ((z, .py d) :: (y, .py d) :: (x, .py d) :: ρ) l) := fun env W V S A s h0 L Q E K =>
  wpAny_Assign_three (h env S A s L.frozen _ E fun v h' tk s₁ r => PyProof.Rows.assign_Name (ls_store (s := { s with heap := h', toks := tk }) (L.mono s₁) hx hcx (fun _ => flat_DP hf r) fun h₁ t₁ L₁ =>
    PyProof.Rows.assign_Name (ls_store (s := { s with heap := h₁, toks := t₁ }) L₁ hy hcy (fun _ => flat_DP hf r) fun h₂ t₂ L₂ =>
      PyProof.Rows.assign_Name (ls_store (s := { s with heap := h₂, toks := t₂ }) L₂ hz hcz (fun _ => flat_DP hf r) fun h₃ t₃ L₃ => K .next h₃ t₃ L₃)))) (he env) (hw env)

/-- the list is turned at its place -/
theorem LS.turn {env : Env} {W V S : List Addr} {A : Around} {h0 h h' : Heap} {O : Addr} {vs : List Value} (C : Cx w n N ((c, .ref O) :: ρ) env (O :: S) A h) (F : FS N env W V (O :: S) h) (oV : O ∉ V) (oS : O ∉ S) (h0n : h0.get? O = none) (k : Keep W h0 h)
    (hs : Heap.SameBut O h h') (hl : h'.PlainList O vs.toArray) (hf : ∀ h', DPs h' vs l) : LS w n N c ρ l env W V S A h0 h' := by
  have kO : Keep [O] h h' := fun b q hb e => (hs.2 b (by simpa using hb)).trans e
  obtain ⟨C', F'⟩ := C.turn F (.head _) oV kO (by obtain ⟨o, e⟩ := hl; exact ⟨_, e⟩)
  refine ⟨O, vs, C', F', hl, hf, oV, oS, h0n, fun b q hb e => kO b q (fun hm => ?_) (k b q hb e)⟩
  rw [List.mem_singleton.mp hm, h0n] at e; cases e

theorem LS.name {env : Env} {W V S : List Addr} {A : Around} {h0 : Heap} {s : Shared} {pos : Pos} (L : LS w n N c ρ l env W V S A h0 s.heap) (hdn : (c == ("__debug__" : Str)) = false) {Q : Value → Shared → Prop} {E : Value → Shared → Prop}
    (K : ∀ (O : Addr) (vs : List Value) tk, Cx w n N ((c, .ref O) :: ρ) env (O :: S) A s.heap → FS N env W V (O :: S) s.heap → s.heap.PlainList O vs.toArray → (∀ h', DPs h' vs l) → O ∉ V → O ∉ S → h0.get? O = none → Keep W h0 s.heap → Q (.ref O) { s with toks := tk }) :
    wpAny (model PR w) A (eval (.Name c pos) env) Q E s := by
  obtain ⟨O, vs, C, F, hl, hf, oV, oS, h0n, k⟩ := L
  obtain ⟨v, r, hv⟩ := C.vars c (.ref O) (by rw [List.lookup_cons]; simp)
  have hv' : v = .ref O := hv
  subst hv'
  have q := K O vs s.toks C F hl hf oV oS h0n k
  refine wpAny_Name ?_ hdn
  cases r with
  | loc m a b c => exact wpAny_loadName_local C.env_ok.kind a b c q
  | cell c a b e =>
    rcases a with a | ⟨a, a'⟩
    · exact wpAny_loadName_cell C.env_ok.kind a b e q
    · exact wpAny_loadName_free C.env_ok.kind a b e q a'

theorem setItem_plain {A : Around} {E : Value → Shared → Prop} {s : Shared} {l : Addr} {items : Array Value} {k : Int} {t : Tok} {v : Value} {Q : Unit → Shared → Prop} (hl' : s.heap.PlainList l items)
    (h0 : 0 ≤ k) (hfit : k < 2 ^ 63) (hn : k < items.size)
    (hQ : ∀ h', h'.PlainList l (items.setIfInBounds k.toNat v) → Heap.SameBut l s.heap h' → Q () { s with heap := h' }) :
    wpAny (model PR w) A (setItem (.ref l) (.int k t) v) Q E s := by
  obtain ⟨m, ho⟩ := hl'
  refine ki_setAt ho h0 hfit hn (hQ _ ?_ (Heap.SameBut.update ..))
  have e : Obj.mapSeq (·.setIfInBounds k.toNat v) { cls := .type "list", data := .seq items m } = { cls := .type "list", data := .seq (items.setIfInBounds k.toNat v) m } := by simp [Obj.mapSeq]
  exact ⟨m, by rw [Heap.get?_update_self _ ho (by rw [e]; rfl), e]⟩

theorem EXL1.setitem {i : Str} {pc pi p' pos : Pos} {e : Expr} {d : PyData} {k : Int} (h : EV w n N ((c, Ls l) :: ρ) e (.py d)) (hf : flat d = true) (hi : EV w n N ((c, Ls l) :: ρ) (.Name i pi) (I k)) (h0 : 0 ≤ k) (hk : k < 2 ^ 62) (hkl : k.toNat < l.length) (hdn : (c == ("__debug__" : Str)) = false)
    (hs : ∀ env, swapsWith e (some (.Subscript (.Name c pc) (.Name i pi) p')) pos.line env = pure false := by intro _; rfl) :
    EXL1 w n N c ρ l (.Assign [.Subscript (.Name c pc) (.Name i pi) p'] e pos) (.next ρ (l.set k.toNat d)) := fun env W V S A s h0' L Q E K =>
  wpAny_Assign_Subscript (h env S A s L.frozen _ E fun v h' tk s₁ r => LS.name (s := { s with heap := h', toks := tk }) (L.mono s₁) hdn fun O vs tk' C F hl hfl oV oS h0n kk => by
    refine hi env S A { s with heap := h', toks := tk' } (L.mono s₁).frozen _ E fun iv h₂ tk₂ s₂ r₂ => ?_
    obtain ⟨t, rfl⟩ := DP.int_inv r₂
    obtain ⟨o, e1⟩ := hl
    have hv : ∀ h', DPs h' (vs.set k.toNat v) (l.set k.toNat d) := fun h' => by
      have := hfl h'
      have aux : ∀ (l : List PyData) (vs : List Value) (j : Nat), DPs h' vs l → DPs h' (vs.set j v) (l.set j d) := by
        intro l
        induction l with
        | nil => intro vs j q; rw [q.unnil]; exact .nil
        | cons a l ih =>
          intro vs j q
          obtain ⟨u, vs', rfl, q1, q2⟩ := q.uncons
          cases j with
          | zero => exact .cons (flat_DP hf r) q2
          | succ j => exact .cons q1 (ih vs' j q2)
      exact aux l vs _ this
    have len : vs.length = l.length := (hfl h').length
    refine setItem_plain (s := { s with heap := h₂, toks := tk₂ }) (items := vs.toArray) ⟨o, s₂ _ _ e1⟩ h0 (by omega) (by rw [List.size_toArray, len]; omega) fun h₃ hl₃ hs₃ => ?_
    refine K .next h₃ tk₂ (LS.turn (C.mono s₂) (F.mono s₂) oV oS h0n (kk.trans (Keep.of_sub s₂)) hs₃ (vs := vs.set k.toNat v) ?_ hv)
    have : vs.toArray.setIfInBounds k.toNat v = (vs.set k.toNat v).toArray := by simp
    rw [← this]; exact hl₃) (hs env)
end
end RsLaw
end
section
open PySem PySem.Spec PySem.Calls PySem.W PyProof.Rows PySem.SeqAt
set_option maxRecDepth 100000
set_option linter.unusedVariables false
namespace RsLaw
section
variable {w : World} {n : Nat} {N : List (Str × NameKind)} {c : Str} {ρ ρ' : Rho} {l l' : List PyData}
theorem inter {env : Env} (O : EnvOK N env) : interactive env = false := by unfold interactive; rw [O.kind]; rfl
theorem EXL1.append {pc ap pos sp : Pos} {e : Expr} {d : PyData} (h : EV w n N ((c, Ls l) :: ρ) e (.py d)) (hf : flat d = true) (hsz : l.length ≤ 1000000) (hdn : (c == ("__debug__" : Str)) = false)
    (hc : ∀ env, eval (.Call (.Attribute (.Name c pc) "append" ap) [e] [] pos) env = (do
      let ov ← eval (.Name c pc) env
      standAt ap.atName
      let (f, first) ← holding [ov] (getMethod ov "append" (do return (← importBound (.Name c pc) env).getD true))
      callWith pos f first (backTo pos (starEach [e] env)) []) := by intro _; rfl)
    (he : ∀ env rest, starEach (e :: rest) env = (false, eval e env) :: starEach rest env := by intro _ _; rfl)
    (hs : ∀ env, swapsWith (.Call (.Attribute (.Name c pc) "append" ap) [e] [] pos) none sp.line env = pure false := by intro _; rfl) :
    EXL1 w n N c ρ l (.Expr (.Call (.Attribute (.Name c pc) "append" ap) [e] [] pos) sp) (.next ρ (l ++ [d])) := fun env W V S A s h0 L Q E K =>
  wpAny_Expr (MethodCall_ (pl := (do return (← importBound (.Name c pc) env).getD true)) (LS.name L hdn fun O vs tk C F hl hfl oV oS h0n kk => by
    obtain ⟨m, ho⟩ := hl
    refine getMethod_list_append ho rfl rfl ?_
    refine callWith_method1 ((ARGS.cons h .nil he).run env S A { s with toks := tk } pos _ E L.frozen fun vs' h' tk' s₁ dd => ?_) (he _ _) rfl
    cases dd with | cons r dd' => cases dd' with | nil =>
    refine wpAny_list_append_plain (s := { s with heap := h', toks := tk' }) ⟨m, s₁ _ _ ho⟩ (fun h₂ hl₂ hs₂ => K .next h₂ tk' (LS.turn (C.mono s₁) (F.mono s₁) oV oS h0n (kk.trans (Keep.of_sub s₁)) hs₂ (vs := vs ++ [_]) (by simpa using hl₂) fun g => (hfl g).append (.cons (flat_DP hf r) .nil))) ?_
    rw [List.size_toArray, (hfl h').length]; show _ ≤ 2 ^ 24; omega) (hc env)) (inter L.frozen.env_ok) (hs env)

theorem list_add_raw {A : Around} {s : Shared} {al bl : Addr} {vs us : List Value} {Q : Value → Shared → Prop} {E : Value → Shared → Prop} (h1 : s.heap.IsList al vs.toArray) (h2 : s.heap.IsList bl us.toArray) (hsz : vs.length + us.length ≤ 1000000)
    (fin : Q (.ref s.heap.objs.size) { s with heap := s.heap.push { cls := .type "list", data := .seq (vs ++ us).toArray } }) : wpAny (model PR w) A (binaryOp .Add (.ref al) (.ref bl)) Q E s := by
  obtain ⟨⟨c1, d1, t1, sl1⟩, e1, e2, n1, e3⟩ := h1
  obtain ⟨⟨c2, d2, t2, sl2⟩, f1, f2, n2, f3⟩ := h2
  dsimp only at e2 e3 f2 f3
  subst e2 e3 f2 f3
  have hz : vs.toArray.size + us.toArray.size ≤ sizeLine := by rw [List.size_toArray, List.size_toArray]; show _ ≤ 2 ^ 24; omega
  have fin' : Q (.ref s.heap.objs.size) { s with heap := s.heap.push { cls := .type "list", data := .seq (vs.toArray ++ us.toArray) } } := by simpa using fin
  exact concat_meets ⟨_, e1, rfl⟩ ⟨_, f1, rfl⟩ noFill_list_add seq_list_add F.slot_list_add F.entry_list_add (F.args_list_add_2 _ _) (list_addW al bl vs.toArray us.toArray n1 n2 d1 d2 sl1 sl2 hz) ⟨e1, f1, fin'⟩

theorem EXL1.grow {pc p1 bp pos : Pos} {e : Expr} {ds : List PyData} (h : EV w n N ((c, Ls l) :: ρ) e (Ls ds)) (hf : flats ds = true) (hsz : l.length + ds.length ≤ 1000000) (hk : N.lookup c = some .local ∨ N.lookup c = some .cell) (hdn : (c == ("__debug__" : Str)) = false)
    (hs : ∀ env, EnvOK N env → swapsWith (.BinOp (.Name c p1) .Add e bp) (some (.Name c pc)) pos.line env = pure false := by intro _ _; rfl) :
    EXL1 w n N c ρ l (.Assign [.Name c pc] (.BinOp (.Name c p1) .Add e bp) pos) (.next ρ (l ++ ds)) := fun env W V S A s h0 L Q E K =>
  wpAny_Assign_Name (wpAny_BinOp (LS.name L hdn fun O vs tk C F hl hfl oV oS h0n kk => h env S A { s with toks := tk } L.frozen _ E fun b h₁ t₁ s₁ r₁ => by
    obtain ⟨bl, us, rfl, hb, q⟩ := DP.list_inv (DP.mono (Sub.of_hide _ _) r₁)
    have lu := q.length
    have lv := (hfl h₁).length
    refine list_add_raw (s := { s with heap := h₁, toks := t₁ }) (by obtain ⟨m, e⟩ := hl; exact ⟨_, s₁ _ _ e, rfl, m, rfl⟩) hb (by rw [lu, lv]; exact hsz) ?_
    dsimp only
    generalize hO : h₁.objs.size = O'
    have s₂ : Sub h₁ (h₁.push { cls := .type "list", data := .seq (vs ++ us).toArray }) := Sub.push _ _
    have new : (h₁.push { cls := .type "list", data := .seq (vs ++ us).toArray }).get? O' = some { cls := .type "list", data := .seq (vs ++ us).toArray } := hO ▸ Heap.get?_push_size _ rfl
    generalize h₁.push { cls := .type "list", data := .seq (vs ++ us).toArray } = h₂ at s₂ new
    have ne : ∀ b o, h₁.get? b = some o → b ≠ O' := fun b o e z => by have := Heap.lt_size e; rw [hO, z] at this; exact Nat.lt_irrefl _ this
    have C₁ := C.mono s₁
    have F₁ := F.mono s₁
    have wS : ∀ a ∈ W, a ∈ S := fun a ha => by
      rcases List.mem_cons.mp (F.wS a ha) with q | q
      · exact absurd (F.wV a ha) (q ▸ oV)
      · exact q
    have sb : Sub (hideAll h₁ (O :: S)) (hideAll h₂ (O' :: S)) := fun b o e => hideAll_get _ (s₂ _ _ (of_hideAll _ e)) fun hm => by
      rcases List.mem_cons.mp hm with z | z
      · exact ne _ _ (of_hideAll _ e) z
      · exact not_mem_of_hide e (.tail _ z)
    have lookc : ∀ x d, ((c, Dat.ref O) :: ρ).lookup x = some d → True := fun _ _ _ => trivial
    have C₂ : Cx w n N ((c, .ref O) :: ρ) env (O' :: S) A h₂ := ⟨C.env_ok, fun a ha => by
        rcases List.mem_cons.mp ha with z | z
        · rw [z]; exact ⟨_, new⟩
        · obtain ⟨o, e⟩ := C₁.live a (.tail _ z); exact ⟨o, s₂ _ _ e⟩, C₁.good.mono sb, fun x d e => by
        obtain ⟨v, a, b⟩ := C₁.vars x d e
        exact ⟨v, a.mono s₂, b.mono sb⟩, C.room⟩
    have F₂ : FS N env W V (O' :: S) h₂ := (F₁.mono s₂).bigger fun a ha => .tail _ (wS a ha)
    have oV' : O' ∉ V := fun hm => by obtain ⟨o, e⟩ := F₁.vl _ hm; exact ne _ _ e rfl
    refine store_run (d := .ref O') (s := { s with heap := h₂, toks := t₁ }) C₂ F₂ hk rfl rfl fun h₃ t₃ k₃ F₃ r₃ => K .next h₃ t₃ ⟨O', vs ++ us, ?_, F₃, ⟨0, k₃ _ _ (fun hm => oV' (F.wV _ hm)) new⟩, fun g => (hfl g).append (flat_DPs hf q), oV', fun hm => ?_, ?_, ?_⟩
    · refine (C₂.after F₂ k₃ F₃ r₃).less fun x d e => ?_
      rw [List.lookup_cons] at e ⊢
      cases z : x == c with
      | true => rw [z] at e; exact e
      | false => rw [z] at e; simp only [List.lookup_cons, z]; exact e
    · obtain ⟨o, e⟩ := C₁.live _ (.tail _ hm); exact ne _ _ e rfl
    · cases z : h0.get? O' with
      | none => rfl
      | some o =>
        have hw : O' ∉ W := fun hm => oV' (F.wV _ hm)
        exact absurd rfl (ne _ _ (s₁ _ _ (kk _ _ hw z)))
    · exact ((kk.trans (Keep.of_sub s₁)).trans (Keep.of_sub s₂)).trans k₃)) (hs env L.frozen.env_ok)

theorem op_mul_list {xs : List PyData} {x : Int} (h0 : 0 ≤ x) (h1 : x < 100000) (hsz : xs.length ≤ 100) : Op2 w n (binaryOp .Mult) (Ls xs) (I x) (Ls (List.replicate x.toNat xs).flatten) := fun S A s a b hA lv g ha hb => by
  obtain ⟨u, rfl⟩ := DP.int_inv hb
  obtain ⟨al, vs, rfl, hl, q⟩ := DP.list_inv ha
  obtain ⟨⟨cls, d, data, sl⟩, ho, hcl, k, hd'⟩ := id hl
  simp only at hcl hd'
  subst hcl hd'
  have ho' := Sub.of_hide _ _ _ _ ho
  have lq := q.length
  have hx : x.toNat ≤ 100000 := by omega
  have hsz' : vs.toArray.size * x.toNat ≤ 2 ^ 24 := by
    rw [List.size_toArray, lq]
    exact Nat.le_trans (Nat.mul_le_mul hsz hx) (by decide)
  intro Q E K
  refine wpAny_binaryOp_repeat_ref (T := "list") (U := "int") (by decide) ⟨_, ho', rfl⟩ (fun s' => typeIs_int s' x u) noFill_list_mul F.fills_int_mul F.slot_int_rmul repeat_list F.slot_int_index.lookup
    (call_meets F.slot_int_rmul (typeIs_int s x u) F.entry_int_rmul (F.args_int_rmul_2 _ _) (lm_int_rmul_list_any x u al vs.toArray k d sl)
      ⟨ho', rfl, ⟨_, ho', rfl⟩, call_meets F.slot_list_mul ⟨_, ho', rfl⟩ F.entry_list_mul (F.args_list_mul_2 _ _)
        (lm_list_mul_any al vs.toArray k d sl x u (by simp [Builtin.List.listFitsIndex]; omega) (by omega) (by simp [Builtin.List.listTooLong, sizeLine]; simp at hsz'; omega))
        ⟨ho', ?_⟩⟩)
  refine K _ _ s.toks (Sub.push _ _) (DP.list (vs := (List.replicate x.toNat vs).flatten) ⟨_, get_new lv rfl, rfl, 0, by rw [listMul_foldl_if]⟩ (DPs.mono ((Sub.push _ _).hide S) ?_))
  generalize x.toNat = m
  clear hx hsz'
  induction m with
  | zero => exact .nil
  | succ m ih => rw [List.replicate_succ, List.replicate_succ, List.flatten_cons, List.flatten_cons]; exact q.append ih
end
end RsLaw
end
section
open PySem PySem.Spec PySem.Calls PySem.W PyProof.Rows PySem.SeqAt
set_option maxRecDepth 100000
set_option linter.unusedVariables false
namespace RsLaw
section
variable {w : World} {n : Nat} {N : List (Str × NameKind)} {c : Str} {ρ ρ' : Rho} {l l' : List PyData}

theorem LS.iterTurn {env : Env} {W V S : List Addr} {A : Around} {h0 h h' : Heap} {J : Addr} (L : LS w n N c ρ l env W V S A h0 h) (hJ : J ∈ S) (hJV : J ∉ V) (k : Keep [J] h h') (al : ∃ o, h'.get? J = some o) (h0J : h0.get? J = none) : LS w n N c ρ l env W V S A h0 h' := by
  obtain ⟨O, vs, C, F, ⟨m, e1⟩, hf, oV, oS, h0n, kk⟩ := L
  have hOJ : O ∉ [J] := fun hm => oS (List.mem_singleton.mp hm ▸ hJ)
  obtain ⟨C', F'⟩ := C.turn F (.tail _ hJ) hJV k al
  refine ⟨O, vs, C', F', ⟨m, k _ _ hOJ e1⟩, hf, oV, oS, h0n, fun b q hb e => k b q (fun hm => ?_) (kk b q hb e)⟩
  rw [List.mem_singleton.mp hm, h0J] at e; cases e

theorem LS.rebase {env : Env} {W V S : List Addr} {A : Around} {h0 h : Heap} (L : LS w n N c ρ l env W V S A h0 h) :
    ∃ H, LS w n N c ρ l env W V S A H h ∧ (∀ b o, b ∈ S → h.get? b = some o → H.get? b = some o) ∧ ∀ {ρ₂ : Rho} {l₂ : List PyData} {h' : Heap}, LS w n N c ρ₂ l₂ env W V S A H h' → LS w n N c ρ₂ l₂ env W V S A h0 h' := by
  obtain ⟨O, vs, C, F, hl, hf, oV, oS, h0n, k⟩ := L
  have HO : (hideAll h [O]).get? O = none := hideAll_none _ (.head _)
  have old : ∀ b o, b ∉ W → h0.get? b = some o → (hideAll h [O]).get? b = some o := fun b o hw e => hideAll_get _ (k b o hw e) fun hm => by rw [List.mem_singleton.mp hm, h0n] at e; cases e
  refine ⟨hideAll h [O], ⟨O, vs, C, F, hl, hf, oV, oS, HO, fun b o _ e => of_hideAll _ e⟩, fun b o hb e => hideAll_get _ e fun hm => oS (List.mem_singleton.mp hm ▸ hb), fun {ρ₂ l₂ h'} L₂ => ?_⟩
  obtain ⟨O', vs', C', F', hl', hf', oV', oS', h0n', k'⟩ := L₂
  refine ⟨O', vs', C', F', hl', hf', oV', oS', ?_, fun b o hw e => k' b o hw (old b o hw e)⟩
  cases z : h0.get? O' with
  | none => rfl
  | some o => have := old O' o (fun hm => oV' (F'.wV _ hm)) z; rw [h0n'] at this; cases this
theorem LS.keep {env : Env} {W V S : List Addr} {A : Around} {h0 h : Heap} (L : LS w n N c ρ l env W V S A h0 h) : Keep W h0 h := L.fs.2

theorem LS.leave {ρ₂ : Rho} {l₂ : List PyData} {env : Env} {W V S : List Addr} {A : Around} {J : Addr} {hb H h' h₃ : Heap} (L₂ : LS w n N c ρ₂ l₂ env W V (J :: S) A H h') (wS : ∀ a ∈ W, a ∈ S) (old : ∀ b o, b ∉ W → hb.get? b = some o → H.get? b = some o)
    (kp : Keep [J] h' h₃) (JV : J ∉ V) (JS : J ∉ S) (hJ0 : hb.get? J = none) : LS w n N c ρ₂ l₂ env W V S A hb h₃ := by
  obtain ⟨O', vs', C', F', ⟨m', e1'⟩, hf', oV', oS', h0n', k'⟩ := L₂
  have OJ : O' ∉ [J] := fun hm => oS' (List.mem_singleton.mp hm ▸ .head _)
  have sb : Sub (hideAll h' (O' :: J :: S)) (hideAll h₃ (O' :: S)) := fun b o e => by
    have hn := not_mem_of_hide e
    refine hideAll_get _ (kp b o (fun hm => hn (List.mem_singleton.mp hm ▸ .tail _ (.head _))) (of_hideAll _ e)) fun hm => hn ?_
    rcases List.mem_cons.mp hm with q | q
    · exact q ▸ .head _
    · exact .tail _ (.tail _ q)
  refine ⟨O', vs', ⟨C'.env_ok, fun a ha => ?_, C'.good.mono sb, C'.vars.turn F' JV kp sb, C'.room⟩, (F'.turn JV kp).bigger fun a ha => .tail _ (wS a ha), ⟨m', kp _ _ OJ e1'⟩, hf', oV', fun hm => oS' (.tail _ hm), ?_, fun b o hw e => kp b o (fun hm => ?_) (k' b o hw (old b o hw e))⟩
  · rcases List.mem_cons.mp ha with q | q
    · rw [q]; exact ⟨_, kp _ _ OJ e1'⟩
    · obtain ⟨o, e⟩ := C'.live a (.tail _ (.tail _ q))
      exact ⟨o, kp a o (fun hm => JS (List.mem_singleton.mp hm ▸ q)) e⟩
  · cases z : hb.get? O' with
    | none => rfl
    | some o => have := old O' o (fun hm => oV' (F'.wV _ hm)) z; rw [h0n'] at this; cases this
  · rw [List.mem_singleton.mp hm, hJ0] at e; cases e
structure ForL (a b c : Prop) : Prop where
  le : a
  st : b
  ls : c
theorem own_loop {x : Str} {px : Pos} {body : List Stmt} {items : List Dat} {o : OutL} {env : Env} {W V S : List Addr} {A : Around} {s : Shared} {hb : Heap} {J : Addr} {fp : List Addr} {h₂ : Heap} {tk₂ : Nat} {P : Nat → Value → Prop} {St' : Nat → Heap → Prop} {R' : Result → Shared → Prop} {O : Addr} {vs : List Value} {m0 : Nat}
    (C : Cx w n N ((c, .ref O) :: ρ) env (O :: S) A s.heap) (F : FS N env W V (O :: S) s.heap) (e1 : s.heap.get? O = some { cls := .type "list", data := .seq vs.toArray m0 }) (hf : ∀ h', DPs h' vs l) (oV : O ∉ V) (oS : O ∉ S) (h0n : hb.get? O = none) (kk : Keep W hb s.heap)
    (wk : Walker w A (O :: S) s.heap h₂ J items fp P St') (hx : N.lookup x = some .local ∨ N.lookup x = some .cell) (hxc : (x == c) = false)
    (hfl : ∀ (i : Nat) (d : Dat), items[i]? = some d → ∃ p : PyData, d = Dat.py p ∧ flat p = true)
    (R : Nat → Rho) (Lf : Nat → List PyData) (k : Nat) (h0 : Rle (R 0) ρ) (hl0 : Lf 0 = l) (turn : ∀ i d, i < k → items[i]? = some d → EXL w n N c ((x, d) :: R i) (Lf i) body (.next (R (i + 1)) (Lf (i + 1))))
    (fin : (k = items.length ∧ o = .next (R k) (Lf k)) ∨ (∃ d ρ' l', items[k]? = some d ∧ EXL w n N c ((x, d) :: R k) (Lf k) body (.brk ρ' l') ∧ o = .next ρ' l'))
    (K : ∀ fl h' tk, OutLOK w n N c o fl env W V S A hb h' → R' (.ok fl) { s with heap := h', toks := tk }) :
    codeAny (model PR w) A (.forLoop (.Name x px) (.ref J) body [] env) R' { s with heap := h₂, toks := tk₂ } := by
  have hkl : k ≤ items.length := by
    rcases fin with ⟨e, _⟩ | ⟨d, r, l', e, _⟩
    · omega
    · rcases Nat.lt_or_ge k items.length with z | z
      · omega
      · rw [List.getElem?_eq_none z] at e; cases e
  have fresh : ∀ b o, s.heap.get? b = some o → b ≠ J := fun b o e z => by rw [z, wk.fresh] at e; cases e
  have JS : J ∉ S := fun hm => by obtain ⟨q, e⟩ := C.live J (.tail _ hm); exact fresh _ _ e rfl
  have JO : J ≠ O := fun z => by subst z; exact fresh _ _ e1 rfl
  have JV : J ∉ V := fun hm => by obtain ⟨q, e⟩ := F.vl J hm; exact fresh _ _ e rfl
  have wS : ∀ a ∈ W, a ∈ S := fun a ha => by
    rcases List.mem_cons.mp (F.wS a ha) with q | q
    · exact absurd (F.wV a ha) (q ▸ oV)
    · exact q
  have hJ0 : hb.get? J = none := by
    cases z : hb.get? J with
    | none => rfl
    | some o => exact absurd rfl (fresh _ _ (kk _ _ (fun hm => JV (F.wV _ hm)) z))
  -- the base of the loop
  generalize hH : hideAll h₂ [O, J] = H
  have Hget : ∀ b o, H.get? b = some o → h₂.get? b = some o ∧ b ≠ O ∧ b ≠ J := fun b o e => by
    rw [← hH] at e
    have := not_mem_of_hide e
    exact ⟨of_hideAll _ e, fun z => this (z ▸ .head _), fun z => this (z ▸ .tail _ (.head _))⟩
  have toH : ∀ b o, h₂.get? b = some o → b ≠ O → b ≠ J → H.get? b = some o := fun b o e z1 z2 => by
    rw [← hH]
    refine hideAll_get _ e fun hm => ?_
    rcases List.mem_cons.mp hm with q | q
    · exact z1 q
    · exact z2 (List.mem_singleton.mp q)
  have HO : H.get? O = none := by cases z : H.get? O with | none => rfl | some o => exact absurd rfl (Hget _ _ z).2.1
  have HJ : H.get? J = none := by cases z : H.get? J with | none => rfl | some o => exact absurd rfl (Hget _ _ z).2.2
  have sub₀ : Sub (hideAll s.heap (O :: S)) (hideAll h₂ (O :: J :: S)) := fun b o e => hideAll_get _ (wk.sub _ _ (of_hideAll _ e)) fun hm => by
    have hn := not_mem_of_hide e
    rcases List.mem_cons.mp hm with q | q
    · exact hn (q ▸ .head _)
    · rcases List.mem_cons.mp q with q | q
      · exact fresh _ _ (of_hideAll _ e) q
      · exact hn (.tail _ q)
  have LS₂ : LS w n N c (R 0) (Lf 0) env W V (J :: S) A H h₂ := by
    refine LS.less (ρ := ρ) ⟨O, vs, ⟨C.env_ok, fun a ha => ?_, C.good.mono sub₀, fun y d e => ?_, C.room⟩, (F.mono wk.sub).bigger fun a ha => .tail _ (.tail _ (wS a ha)), ⟨m0, wk.sub _ _ e1⟩, by rw [hl0]; exact hf, oV, fun hm => ?_, HO, fun b q hb' e => (Hget b q e).1⟩ h0
    · rcases List.mem_cons.mp ha with q | q
      · rw [q]; exact ⟨_, wk.sub _ _ e1⟩
      · rcases List.mem_cons.mp q with q | q
        · rw [q]; exact wk.alive _ _ wk.start
        · obtain ⟨o, e⟩ := C.live a (.tail _ q); exact ⟨o, wk.sub _ _ e⟩
    · obtain ⟨u, a, b⟩ := C.vars y d e
      exact ⟨u, a.mono wk.sub, b.mono sub₀⟩
    · rcases List.mem_cons.mp hm with q | q
      · exact JO q.symm
      · exact oS q
  have old : ∀ b o, b ∉ W → hb.get? b = some o → H.get? b = some o := fun b o hw e => toH b o (wk.sub _ _ (kk b o hw e)) (fun z => by rw [z, h0n] at e; cases e) (fun z => by rw [z, hJ0] at e; cases e)
  -- the iterator's foot under a turn of the body
  have fpH : ∀ b ∈ fp, b = J ∨ ∃ o, H.get? b = some o ∧ b ∉ W := fun b hb' => by
    rcases wk.foot b hb' with e | ⟨q, e⟩
    · exact .inl e
    · have hn := not_mem_of_hide e
      exact .inr ⟨q, toH b q (wk.sub _ _ (of_hideAll _ e)) (fun z => hn (z ▸ .head _)) (fresh _ _ (of_hideAll _ e)), fun hw => hn (.tail _ (wS b hw))⟩
  refine codeAny_forLoop (fun m s' => ∃ i h' tk, (m = items.length + 1 - i ∧ s' = { s with heap := h', toks := tk }) ∧ ForL (i ≤ k) (St' i h') (LS w n N c (R i) (Lf i) env W V (J :: S) A H h')) ?_ (items.length + 1)
    ⟨0, h₂, tk₂, ⟨by omega, rfl⟩, Nat.zero_le _, wk.start, LS₂⟩
  rintro m s' ⟨i, h', tk, ⟨rfl, rfl⟩, hi, st, L₃⟩
  by_cases hlt : i < items.length
  · refine wk.walk.item i _ _ _ hlt st fun v h₃ tk₃ hP st₃ k₃ => ?_
    obtain ⟨d, hd', dv⟩ := wk.item i v hlt hP
    obtain ⟨p, rfl, hp⟩ := hfl i d hd'
    have L₄ := L₃.iterTurn (.head _) JV (fun b q hb' e => k₃ b q hb' e) (wk.alive _ _ st₃) HJ
    have base : ∀ g, DP g v p := fun g => flat_DP hp (dv _ (Sub.refl _))
    obtain ⟨H', L₅, hS', back⟩ := L₄.rebase
    obtain ⟨oJ, eJ⟩ := wk.alive _ _ st₃
    have frame : ∀ {ρ₂ : Rho} {l₂ : List PyData} {h₅ : Heap}, LS w n N c ρ₂ l₂ env W V (J :: S) A H' h₅ → St' (i + 1) h₅ := fun {ρ₂ l₂ h₅} L₆ => wk.walk.frame _ _ _ st₃ fun b hb' q e => by
      rcases fpH b hb' with z | ⟨q', z1, z2⟩
      · subst z; exact L₆.keep b q (fun hw => JV (F.wV _ hw)) (hS' b q (.head _) e)
      · have e2 := L₄.keep b q' z2 z1
        have e' : h₃.get? b = some q := e
        rw [e'] at e2
        cases e2
        exact (back L₆).keep b q z2 z1
    refine wpAny_assign_Name (ls_store (s := { s with heap := h₃, toks := tk₃ }) L₅ hx hxc base fun h₄ tk₄ L₆ => ?_)
    rcases Nat.lt_or_ge i k with hik | hik
    · refine turn i _ hik hd' env W V (J :: S) A { s with heap := h₄, toks := tk₄ } H' L₆ _ _ fun fl h₅ tk₅ r₅ => ?_
      cases fl with
      | next => exact ⟨items.length + 1 - (i + 1), by omega, i + 1, h₅, tk₅, ⟨rfl, rfl⟩, hik, frame r₅, back r₅⟩
      | _ => exact r₅.elim
    · have hik' : i = k := Nat.le_antisymm hi hik
      subst hik'
      rcases fin with ⟨e, _⟩ | ⟨d', ρ', l', e, hex, rfl⟩
      · omega
      · rw [hd'] at e; cases e
        refine hex env W V (J :: S) A { s with heap := h₄, toks := tk₄ } H' L₆ _ _ fun fl h₅ tk₅ r₅ => ?_
        cases fl with
        | brk => exact K .next h₅ tk₅ ((back r₅).leave wS old (fun b q _ e => e) JV JS hJ0)
        | _ => exact r₅.elim
  · have hin : i = items.length := by omega
    subst hin
    refine wk.walk.done _ _ _ st fun h₃ tk₃ k₃ => wpAny_execs_nil ?_
    have L₄ := L₃.leave wS old (fun b q hb' e => k₃ b q hb' e) JV JS hJ0
    rcases fin with ⟨e, rfl⟩ | ⟨d', ρ', l', e, hex, rfl⟩
    · exact K .next h₃ tk₃ (e ▸ L₄)
    · have : items.length = k := Nat.le_antisymm hi hkl
      rw [← this, List.getElem?_eq_none (Nat.le_refl _)] at e; cases e
theorem EXL1.for_name {x : Str} {px pos : Pos} {iter : Expr} {body : List Stmt} {src : Dat} {items : List Dat} {o : OutL} (h : ∀ O, EV w n N ((c, .ref O) :: ρ) iter src) (it : Iters w n src items) (hx : N.lookup x = some .local ∨ N.lookup x = some .cell) (hxc : (x == c) = false)
    (hfl : ∀ (i : Nat) (d : Dat), items[i]? = some d → ∃ p : PyData, d = Dat.py p ∧ flat p = true)
    (R : Nat → Rho) (Lf : Nat → List PyData) (k : Nat) (h0 : Rle (R 0) ρ) (hl0 : Lf 0 = l) (turn : ∀ i d, i < k → items[i]? = some d → EXL w n N c ((x, d) :: R i) (Lf i) body (.next (R (i + 1)) (Lf (i + 1))))
    (fin : (k = items.length ∧ o = .next (R k) (Lf k)) ∨ (∃ d ρ' l', items[k]? = some d ∧ EXL w n N c ((x, d) :: R k) (Lf k) body (.brk ρ' l') ∧ o = .next ρ' l'))
    (hs : ∀ env x, foldedSetIterable iter env x = pure x := by intro _ _; rfl) : EXL1 w n N c ρ l (.For (.Name x px) iter body [] pos) o := fun env W V S A s hb L Q E K => by
  obtain ⟨O, vs, C, F, ⟨m0, e1⟩, hf, oV, oS, h0n, kk⟩ := L
  refine wpAny_For (h O env (O :: S) A s C _ E fun v h₁ tk₁ s₁ r₁ => it (O :: S) A { s with heap := h₁, toks := tk₁ } v C.room (C.mono s₁).live (C.mono s₁).good r₁ _ E fun J fp h₂ tk₂ P St' wk => ?_) (hs env)
  exact own_loop (s := { s with heap := h₁, toks := tk₁ }) (C.mono s₁) (F.mono s₁) (s₁ _ _ e1) hf oV oS h0n (fun b o hb' e => s₁ _ _ (kk b o hb' e)) wk hx hxc hfl R Lf k h0 hl0 turn fin fun fl h' tk r => K fl h' tk r

/-- a list of its own is begun -/
theorem own_run {pc lp pos : Pos} {env : Env} {W V S : List Addr} {A : Around} {s : Shared} (C : Cx w n N ρ env S A s.heap) (F : FS N env W V S s.heap) (hk : N.lookup c = some .local ∨ N.lookup c = some .cell)
    {Q : Flow → Shared → Prop} {E : Value → Shared → Prop} (K : ∀ h' tk, LS w n N c ρ [] env W V S A s.heap h' → Q .next { s with heap := h', toks := tk })
    (hs : ∀ env, EnvOK N env → swapsWith (.List [] lp) (some (.Name c pc)) pos.line env = pure false := by intro _ _; rfl) :
    wpAny (model PR w) A (exec (.Assign [.Name c pc] (.List [] lp) pos) env) Q E s := by
  refine wpAny_Assign_Name ?_ (hs env C.env_ok)
  show wpAny _ A (do standAt lp; newList (← spliced (backTo lp (starEach [] env)))) _ E s
  refine wpAny_bind (wpAny_standAt (wpAny_bind (spliced_none (wpAny_newList ?_ (Nat.zero_le _)))))
  generalize hO : s.heap.objs.size = O
  have s₂ : Sub s.heap (s.heap.push { cls := .type "list", data := .seq ([] : List Value).toArray }) := Sub.push _ _
  have new : (s.heap.push { cls := .type "list", data := .seq ([] : List Value).toArray }).get? O = some { cls := .type "list", data := .seq ([] : List Value).toArray } := hO ▸ Heap.get?_push_size _ rfl
  generalize s.heap.push { cls := .type "list", data := .seq ([] : List Value).toArray } = h₂ at s₂ new
  have ne : ∀ b o, s.heap.get? b = some o → b ≠ O := fun b o e z => by have := Heap.lt_size e; rw [hO, z] at this; exact Nat.lt_irrefl _ this
  have hn : s.heap.get? O = none := by cases z : s.heap.get? O with | none => rfl | some o => exact absurd rfl (ne _ _ z)
  have sb : Sub (hideAll s.heap S) (hideAll h₂ (O :: S)) := sub_fresh s₂ hn
  have C₂ : Cx w n N ρ env (O :: S) A h₂ := ⟨C.env_ok, fun a ha => by
      rcases List.mem_cons.mp ha with z | z
      · rw [z]; exact ⟨_, new⟩
      · obtain ⟨o, e⟩ := C.live a z; exact ⟨o, s₂ _ _ e⟩, C.good.mono sb, fun x d e => by
      obtain ⟨v, a, b⟩ := C.vars x d e
      exact ⟨v, a.mono s₂, b.mono sb⟩, C.room⟩
  have F₂ : FS N env W V (O :: S) h₂ := (F.mono s₂).bigger fun a ha => .tail _ (F.wS a ha)
  have oV : O ∉ V := fun hm => by obtain ⟨o, e⟩ := F.vl _ hm; exact ne _ _ e rfl
  refine store_run (d := .ref O) (s := { s with heap := h₂ }) C₂ F₂ hk rfl rfl fun h₃ t₃ k₃ F₃ r₃ => K h₃ t₃ ⟨O, [], C₂.after F₂ k₃ F₃ r₃, F₃, ⟨0, k₃ _ _ (fun hm => oV (F.wV _ hm)) new⟩, fun g => .nil, oV, fun hm => ?_, hn, (Keep.of_sub s₂).trans k₃⟩
  obtain ⟨o, e⟩ := C.live _ hm; exact ne _ _ e rfl
theorem EX.own {pc lp pos : Pos} {rest : List Stmt} {d : Dat} (hk : N.lookup c = some .local ∨ N.lookup c = some .cell) (h : EXL w n N c ρ [] rest (.ret d))
    (hs : ∀ env, EnvOK N env → swapsWith (.List [] lp) (some (.Name c pc)) pos.line env = pure false := by intro _ _; rfl) :
    EX w n N ρ (.Assign [.Name c pc] (.List [] lp) pos :: rest) (.ret d) := fun env W V S A s C F Q E K =>
  wpAny_execs_cons (own_run C F hk (fun h' tk L => h env W V S A { s with heap := h', toks := tk } s.heap L Q E fun fl h'' tk' r => by
    cases fl with
    | ret v => exact K _ h'' tk' r.2.2 r.2.1 r.1
    | _ => exact r.elim) hs)
end
end RsLaw
end
section
open PySem PySem.Spec PySem.Calls PySem.W PyProof.Rows PySem.SeqAt
set_option maxRecDepth 100000
set_option linter.unusedVariables false
namespace RsLaw
noncomputable def okS (l : List Str) : Bool := l.all PyData.strOk
theorem canLayAll0_strs : ∀ ns : List Str, okS ns = true → PyData.canLayAll0 (ns.map PyData.str) = true
  | [], _ => by simp [PyData.canLayAll0]
  | n :: r, h => by
    simp only [okS, List.all_cons, Bool.and_eq_true] at h
    simp [PyData.canLayAll0, PyData.canLay0, h.1, canLayAll0_strs r (by simpa [okS] using h.2)]
theorem depthAll_strs : ∀ ns : List Str, PyData.depthAll (ns.map PyData.str) ≤ 1
  | [] => by simp [PyData.depthAll]
  | n :: r => by
    have := depthAll_strs r
    simp only [List.map_cons, PyData.depthAll, PyData.depth]
    omega
theorem shaped_strs (ns : List Str) (hok : okS ns = true) : shaped (.list (ns.map PyData.str)) = true := by
  have h1 := depthAll_strs ns
  have h2 : PyData.depth (.list (ns.map PyData.str)) ≤ 64 := by simp only [PyData.depth]; omega
  show (PyData.canLay0 (.list (ns.map PyData.str)) && decide (PyData.depth (.list (ns.map PyData.str)) ≤ 64)) = true
  rw [Bool.and_eq_true]
  exact ⟨by simp only [PyData.canLay0]; exact canLayAll0_strs ns hok, decide_eq_true h2⟩
theorem shaped_str (x : Str) (hok : PyData.strOk x = true) : shaped (.str x) = true := by
  show (PyData.canLay0 (.str x) && decide (PyData.depth (.str x) ≤ 64)) = true
  simp [PyData.canLay0, PyData.depth, hok]
noncomputable def notin (y : Str) (l : List Str) : Bool := !decide (countIn (.str y) (l.map PyData.str) ≠ 0)
section
variable {w : World} {n : Nat} {N : List (Str × NameKind)} {ρ : Rho}
theorem op_notin_strs {y : Str} {l : List Str} (hy : PyData.strOk y = true) (hl : okS l = true) : Op2 w n (compareOp .NotIn) (St y) (Ls (l.map PyData.str)) (B (notin y l)) := op_notin_list (shaped_strs l hl) (shaped_str y hy) fun d hd' => by
  obtain ⟨z, _, rfl⟩ := List.mem_map.mp hd'
  rfl
noncomputable def addP (y : Str) (l : List Str) : List Str := if notin y l = true then l ++ [y] else l
noncomputable def innerP (x : Str) (i : Nat) (l : List Str) : Nat → List Str
  | 0 => l
  | m + 1 => addP (Txt.slice x (some (i : Int)) (some ((i : Int) + (m : Int)))) (innerP x i l m)
noncomputable def outerP (x : Str) : Nat → List Str
  | 0 => []
  | i + 1 => innerP x i (outerP x i) (x.length + 1 - i)
noncomputable def piecesP (x : Str) : List Str := outerP x (x.length + 1)
theorem addP_len (y : Str) (l : List Str) : (addP y l).length ≤ l.length + 1 := by unfold addP; split <;> simp
theorem innerP_len (x : Str) (i : Nat) (l : List Str) : ∀ m, (innerP x i l m).length ≤ l.length + m
  | 0 => Nat.le_refl _
  | m + 1 => by
    have := innerP_len x i l m
    have := addP_len (Txt.slice x (some (i : Int)) (some ((i : Int) + (m : Int)))) (innerP x i l m)
    unfold innerP; omega
theorem outerP_len (x : Str) : ∀ i, (outerP x i).length ≤ i * (x.length + 1)
  | 0 => Nat.zero_le _
  | i + 1 => by
    have h1 := outerP_len x i
    have h2 := innerP_len x i (outerP x i) (x.length + 1 - i)
    unfold outerP
    rw [Nat.add_mul]
    omega
theorem ok_slice {x : Str} {l u : Option Int} (hok : PyData.strOk x = true) : PyData.strOk (Txt.slice x l u) = true := by
  unfold Txt.slice
  split
  · exact hok
  · unfold PyData.strOk at hok ⊢
    simp only [Array.all_eq_true, decide_eq_true_eq] at hok
    simp only [List.all_toArray, List.all_eq_true, List.mem_filterMap, decide_eq_true_eq]
    rintro c ⟨j, _, hj⟩
    obtain ⟨hlt, rfl⟩ := Array.getElem?_eq_some_iff.mp hj
    exact hok j hlt
theorem ok_addP {y : Str} {l : List Str} (h1 : PyData.strOk y = true) (h2 : okS l = true) : okS (addP y l) = true := by
  unfold addP
  split
  · unfold okS at h2 ⊢; simp [h1]; simpa using h2
  · exact h2
theorem ok_inner {x : Str} {i : Nat} {l : List Str} (hok : PyData.strOk x = true) (hl : okS l = true) : ∀ m, okS (innerP x i l m) = true
  | 0 => hl
  | m + 1 => ok_addP (ok_slice hok) (ok_inner hok hl m)
theorem ok_outer {x : Str} (hok : PyData.strOk x = true) : ∀ i, okS (outerP x i) = true
  | 0 => rfl
  | i + 1 => ok_inner hok (ok_outer hok i) _
theorem rng_flat {a c : Int} {m : Nat} : ∀ (i : Nat) (d : Dat), (rngD a c m)[i]? = some d → ∃ p : PyData, d = Dat.py p ∧ flat p = true := fun i d e => by
  obtain ⟨_, rfl⟩ := rngD_get e
  exact ⟨_, rfl, rfl⟩
theorem inner_big {x : Str} {i m : Nat} (hx : x.length ≤ 500) (hi : i ≤ x.length) (hm : m < x.length + 1) : ((innerP x i (outerP x i) m).map PyData.str).length ≤ 1000000 := by
  have L1 := innerP_len x i (outerP x i) m
  have L2 := outerP_len x i
  have L3 : i * (x.length + 1) ≤ 501 * 501 := Nat.mul_le_mul (Nat.le_trans hi (Nat.le_trans hx (by decide))) (Nat.succ_le_succ hx)
  rw [List.length_map]
  omega
theorem fn_pieces {x : Str} (hx : x.length ≤ 500) (hok : PyData.strOk x = true) : FNv w (n + 1) (.ref 155) [St x] (.py (strsP (piecesP x))) := by
  refine' FNv.of_def (ps := ["line"]) (ho := ?ho) (hcd := ?hcd) (hb := ?hb) (hl := rfl) (hnd := ?hnd) (hloc := ?hloc) (hcell := ?hcell) (h := ?h) (hco := ?hco) (hgen := ?hgen) (hk := ?hk)
  case ho => k_is
  case hcd => k_is
  case hb => intro vs hv; obtain ⟨a, rfl⟩ := vlen1 hv; rfl
  case hnd => decide
  case hloc => decide
  case hcell => decide
  case hco => rfl
  case hgen => rfl
  case hk => rfl
  case h =>
    have lsz : x.length ≤ sizeLine := by show _ ≤ 2 ^ 24; omega
    refine EX.own (.inl (by rfl)) ?_
    refine EXL.cons (EXL1.for_name (fun O => EV.call_type (nt_range (by rfl)) (.more (EV.binop (EV.call_builtin (nt_len (by rfl)) (.more (EV.name (by rfl)) .nil) (FNv.one (fn_len_str (by omega)))) EV.const_int op_add_int) .nil) (FNv.one fn_range1))
      (iters_range (range_small (by omega) (by omega) (by omega) (by omega)) (range_size _ _)) (.inl (by rfl)) (by decide) rng_flat
      (fun i => [("line", St x)]) (fun i => (outerP x i).map PyData.str) (x.length + 1) ?_ rfl ?_ (.inl ⟨?_, rfl⟩)) ?_
    · exact Rle.cons (by rfl) Rle.nil
    · intro i d hi hd'
      obtain ⟨_, rfl⟩ := rngD_get hd'
      have e0 : (0 : Int) + (i : Int) * 1 = (i : Int) := by omega
      rw [e0]
      refine EXL.weak (ρ' := [("start", I (i : Int)), ("line", St x)]) (EXL.one (EXL1.for_name (fun O => EV.call_type (nt_range (by rfl)) (.more (EV.name (by rfl)) (.more (EV.binop (EV.call_builtin (nt_len (by rfl)) (.more (EV.name (by rfl)) .nil) (FNv.one (fn_len_str (by omega)))) EV.const_int op_add_int) .nil)) (FNv.two fn_range2))
        (iters_range (range_small (by omega) (by omega) (by omega) (by omega)) (range_size _ _)) (.inl (by rfl)) (by decide) rng_flat
        (fun m => [("start", I (i : Int)), ("line", St x)]) (fun m => (innerP x i (outerP x i) m).map PyData.str) (x.length + 1 - i) ?_ rfl ?_ (.inl ⟨?_, rfl⟩))) ?_
      · exact Rle.cons (by rfl) (Rle.cons (by rfl) Rle.nil)
      · intro m d hm hd''
        obtain ⟨_, rfl⟩ := rngD_get hd''
        have e1 : (i : Int) + (m : Int) * 1 = (i : Int) + (m : Int) := by omega
        rw [e1]
        have L1 := inner_big (m := m) hx (Nat.le_of_lt_succ hi) (Nat.lt_of_lt_of_le hm (Nat.sub_le _ _))
        refine EXL.weak (ρ' := (("end", I ((i : Int) + (m : Int))) :: [("start", I (i : Int)), ("line", St x)])) (EXL.one (EXL1.ite (b := notin (Txt.slice x (some (i : Int)) (some ((i : Int) + (m : Int)))) (innerP x i (outerP x i) m)) (TST.cmp (EV.slice_str (EV.name (by rfl)) (.some (EV.name (by rfl))) (.some (EV.name (by rfl))) lsz) (EV.name (by rfl)) (op_notin_strs (ok_slice hok) (ok_inner hok (ok_outer hok _) _))) (fun h => ?_) (fun h => ?_))) ?_
        · have e : (innerP x i (outerP x i) (m + 1)).map PyData.str = (innerP x i (outerP x i) m).map PyData.str ++ [.str (Txt.slice x (some (i : Int)) (some ((i : Int) + (m : Int))))] := by
            show (addP _ _).map _ = _
            unfold addP; rw [if_pos h]; simp
          rw [e]
          exact EXL.one (EXL1.append (EV.slice_str (EV.name (by rfl)) (.some (EV.name (by rfl))) (.some (EV.name (by rfl))) lsz) rfl L1 (by decide))
        · have e : (innerP x i (outerP x i) (m + 1)).map PyData.str = (innerP x i (outerP x i) m).map PyData.str := by
            show (addP _ _).map _ = _
            unfold addP; rw [if_neg (by rw [h]; decide)]
          rw [e]
          exact EXL.nil
        · exact Rle.cons (by rfl) (Rle.cons (by rfl) Rle.nil)
      · simp only [rngD, List.length_map, List.length_range]; omega
      · exact Rle.cons (by rfl) Rle.nil
    · simp only [rngD, List.length_map, List.length_range]; omega
    · exact EXL.ret (EXL1.ret (EV.name (by rfl)))
end
end RsLaw
end
section
open PySem PySem.Spec PySem.Calls PySem.W PyProof.Rows PySem.SeqAt
set_option maxRecDepth 100000
set_option linter.unusedVariables false
namespace RsLaw

theorem isStr_eq {v : Value} {a b : Str} (ha : v.isStr a = true) (hb : v.isStr b = true) : a = b := by
  cases v with
  | str x t =>
    have h1 : x = a := by simpa [Value.isStr] using ha
    have h2 : x = b := by simpa [Value.isStr] using hb
    rw [← h1, h2]
  | _ => cases ha
theorem isStr_self (a : Str) (t : Tok) : (Value.str a t).isStr a = true := by simp [Value.isStr]
theorem isStr_ne {a b : Str} (t : Tok) (h : b ≠ a) : (Value.str a t).isStr b = false := by
  cases q : (Value.str a t).isStr b with
  | false => rfl
  | true => exact absurd (isStr_eq q (isStr_self a t)) h
theorem putL_len (name : Str) (hsh : Int) (key v : Value) : ∀ es : List DictEntry, (putL name hsh key v es).length ≤ es.length + 1
  | [] => by simp [putL]
  | e :: r => by
    unfold putL
    split
    · simp
    · have := putL_len name hsh key v r; simp; omega
theorem putL_find_self (name : Str) (hsh : Int) (t : Tok) (v : Value) : ∀ es : List DictEntry, ∃ e, (putL name hsh (.str name t) v es).find? (·.key.isStr name) = some e ∧ e.val = v
  | [] => ⟨⟨hsh, .str name t, v⟩, by simp [putL, isStr_self], rfl⟩
  | e :: r => by
    unfold putL
    split
    · rename_i q; exact ⟨⟨e.hash, e.key, v⟩, by simp [q], rfl⟩
    · rename_i q
      obtain ⟨e', h1, h2⟩ := putL_find_self name hsh t v r
      exact ⟨e', by simp [q, h1], h2⟩
theorem putL_find_ne (name m : Str) (hm : m ≠ name) (hsh : Int) (t : Tok) (v : Value) : ∀ es : List DictEntry, (putL name hsh (.str name t) v es).find? (·.key.isStr m) = es.find? (·.key.isStr m)
  | [] => by simp [putL, isStr_ne t hm]
  | e :: r => by
    unfold putL
    split
    · rename_i q
      have : e.key.isStr m = false := by
        cases z : e.key.isStr m with
        | false => rfl
        | true => exact absurd (isStr_eq z q) hm
      simp [this]
    · rename_i q
      simp only [List.find?_cons]
      rw [putL_find_ne name m hm hsh t v r]
theorem putL_any (name : Str) (hsh : Int) (t : Tok) (v : Value) : ∀ es : List DictEntry, (putL name hsh (.str name t) v es).any (·.refKey) = es.any (·.refKey)
  | [] => rfl
  | e :: r => by
    unfold putL
    split
    · simp [DictEntry.refKey]
    · simp [putL_any name hsh t v r]
theorem getL_put_self (name : Str) (hsh : Int) (t : Tok) (v : Value) (es : List DictEntry) : getL name (putL name hsh (.str name t) v es) = some (some v) := by
  obtain ⟨e, h1, h2⟩ := putL_find_self name hsh t v es
  unfold getL; rw [h1, ← h2]
theorem getL_put_ne (name m : Str) (hm : m ≠ name) (hsh : Int) (t : Tok) (v : Value) (es : List DictEntry) : getL m (putL name hsh (.str name t) v es) = getL m es := by
  unfold getL; rw [putL_find_ne name m hm, putL_any]

/-- the dict of an object that is being built -/
structure DictIs (h : Heap) (S : List Addr) (dx : Addr) (AD : List (Str × Dat)) : Prop where
  intro ::
  at_ : ∃ es k, h.get? dx = some (dictOf es k) ∧ es.length ≤ AD.length ∧ ∀ m, (∀ d, AD.lookup m = some d → ∃ v, getL m es = some (some v) ∧ D (hideAll h S) v d) ∧ (AD.lookup m = none → getL m es = some none)
theorem DictIs.mono {h h' : Heap} {S S' : List Addr} {dx : Addr} {AD : List (Str × Dat)} (s : Sub (hideAll h S) (hideAll h' S')) (e : ∀ o, h.get? dx = some o → h'.get? dx = some o) (r : DictIs h S dx AD) : DictIs h' S' dx AD := by
  obtain ⟨es, k, h1, h2, h3⟩ := r
  exact ⟨es, k, e _ h1, h2, fun m => ⟨fun d hd' => let ⟨v, a, b⟩ := (h3 m).1 d hd'; ⟨v, a, b.mono s⟩, (h3 m).2⟩⟩
section
variable {w : World} {n : Nat} {N : List (Str × NameKind)} {ρ : Rho}

theorem setattr_run {A : Around} {s : Shared} {x C dx : Addr} {name : Str} {v : Value} {es : List DictEntry} {k : Nat} {Q : Unit → Shared → Prop} {E : Value → Shared → Prop} (X : (KK w).In s.heap) (hx : s.heap.get? x = some (instObj C dx)) (hdx : s.heap.get? dx = some (dictOf es k))
    (hl : (getL name es).isSome = true) (hz : es.length ≤ 100) (hp : plainOver (hd.heap_39 w.params) C = true) (ht : takerIn (hd.heap_39 w.params) C name = some none) (hh : hasDictIn (hd.heap_39 w.params) C = true) (hs : findIn (hd.heap_39 w.params) (.ref C) "__setattr__" = some (some (.builtin "object.__setattr__")))
    (h : ∀ h' tk hsh t, Heap.SameBut dx s.heap h' → h'.get? dx = some (dictOf (putL name hsh (.str name t) v es) (putN name es k)) → Q () { s with heap := h', toks := tk }) : wpAny (model PR w) A (setAttr (.ref x) name v) Q E s := by
  have I : InstAt s.heap x (instObj C dx) C (some (dictOf es k)) := ⟨hx, rfl, rfl, hdx⟩
  refine set_plain X I hs (osa_open (s := { s with toks := s.toks + 1 }) X I hp ht fun b => ?_)
  obtain ⟨cd, hc, hd'⟩ := any_some hh
  refine wpAny_bind (wpAny_pure (wpAny_bind (wpAny_bind (wpAny_loadPart hx (wpAny_bind (Looks.here (s := { s with toks := s.toks + 1 }) (looks_clsIn X hc) ?_))))))
  rw [hd']
  refine wpAny_pure (a := some dx) (wpAny_bind (wpAny_pure (wpAny_bind ?_)))
  unfold nsSet
  refine wpAny_bind (wpAny_bind (wpAny_askSetting (wpAny_pure (wpAny_bind (wpAny_mkText (wpAny_bind (wpAny_loadPart hdx ?_)))))))
  dsimp only
  have c : (!(es.toArray.any (·.key.isStr name)) && es.toArray.any (·.refKey)) = false := by
    rw [List.any_toArray, List.any_toArray]
    unfold getL at hl
    split at hl
    · rename_i en he
      rw [List.any_eq_true.mpr ⟨en, List.mem_of_find?_eq_some he, List.find?_some he⟩]; rfl
    · split at hl
      · cases hl
      · rename_i z; rw [Bool.not_eq_true] at z; rw [z, Bool.and_false]
  rw [aRefKeyMayBeTheName_at, c]
  refine wpAny_updatePart hdx ?_
  dsimp only
  generalize (if name.cps.isEmpty = true then (0 : Int) else reduceHash ((model PR w).w.params.strHash name.cps)) = hsh
  have e := putName_dict name hsh (.str name (s.toks + 1)) v es k
  have D' : (s.heap.update dx (Obj.putName name hsh (.str name (s.toks + 1)) v)).get? dx = some (dictOf (putL name hsh (.str name (s.toks + 1)) v es) (putN name es k)) := by
    rw [Heap.get?_update_self _ hdx (by rw [e]; rfl), e]
  have len := putL_len name hsh (.str name (s.toks + 1)) v es
  refine wpAny_bind (wpAny_lookBehind (s := { s with heap := s.heap.update dx (Obj.putName name hsh (.str name (s.toks + 1)) v), toks := s.toks + 1 + 1 }) D' (pastItsLine_dict (by rw [List.size_toArray, sizeLine_eq]; omega)) ?_)
  exact wpAny_pure (h _ _ hsh _ (Heap.SameBut.update ..) D')

/-- a value is set as an attribute of self -/
theorem set_value {env : Env} {W V S : List Addr} {A : Around} {s : Shared} {y name : Str} {yp : Pos} {v : Value} {d : Dat} {x C dx : Addr} {AD : List (Str × Dat)} (hy : ρ.lookup y = some (.ref x)) (hdn : (y == ("__debug__" : Str)) = false)
    (hp : plainOver (hd.heap_39 w.params) C = true) (ht : takerIn (hd.heap_39 w.params) C name = some none) (hh : hasDictIn (hd.heap_39 w.params) C = true) (hs : findIn (hd.heap_39 w.params) (.ref C) "__setattr__" = some (some (.builtin "object.__setattr__")))
    (hAD : AD.length ≤ 90) (hv : D (hideAll s.heap S) v d)
    (Cc : Cx w n N ρ env S A s.heap) (F : FS N env W V S s.heap) (dS : dx ∈ S) (dV : dx ∉ V) (xd : x ≠ dx) (hx : s.heap.get? x = some (instObj C dx)) (di : DictIs s.heap S dx AD)
    {Q : Flow → Shared → Prop} {E : Value → Shared → Prop} (K : ∀ h' tk, Keep (dx :: W) s.heap h' → Keep [dx] s.heap h' → FS N env W V S h' → Cx w n N ρ env S A h' → h'.get? x = some (instObj C dx) → DictIs h' S dx ((name, d) :: AD) → Q .next { s with heap := h', toks := tk }) :
    wpAny (model PR w) A (eval (.Name y yp) env) (fun ov s₂ => wpAny (model PR w) A (setAttr ov name v) (fun _ => Q .next) E s₂) E s := by
  refine EV.name hy hdn env S A s Cc _ E fun o h₂ t₂ s₂ r₂ => ?_
  have r₂' : o = .ref x := r₂
  subst r₂'
  have C₂ := Cc.mono s₂
  have F₂ := F.mono s₂
  obtain ⟨es, k, d1, d2, d3⟩ := di.mono (s₂.hide S) (fun o e => s₂ _ _ e)
  refine setattr_run (s := { s with heap := h₂, toks := t₂ }) (C₂.good.mono (Sub.of_hide _ S)).K (s₂ _ _ hx) d1 ?_ (by omega) hp ht hh hs fun h₃ t₃ hsh tt hs₃ hd₃ => ?_
  · cases q : AD.lookup name with
    | none => rw [(d3 name).2 q]; rfl
    | some d => obtain ⟨v, a, _⟩ := (d3 name).1 d q; rw [a]; rfl
  · have kp : Keep [dx] h₂ h₃ := fun b o hb e => (hs₃.2 b (by simpa using hb)).trans e
    obtain ⟨C₃, F₃⟩ := C₂.turn F₂ dS dV kp ⟨_, hd₃⟩
    have sb : Sub (hideAll h₂ S) (hideAll h₃ S) := kp.hide fun a ha => List.mem_singleton.mp ha ▸ dS
    refine K h₃ t₃ (fun b o hb e => kp b o (fun hm => hb (List.mem_singleton.mp hm ▸ .head _)) (s₂ _ _ e)) ((Keep.of_sub s₂).trans kp) F₃ C₃ (kp _ _ (by simpa using xd) (s₂ _ _ hx)) ⟨_, _, hd₃, ?_, fun m => ?_⟩
    · have := putL_len name hsh (.str name tt) v es; simp; omega
    · rw [List.lookup_cons]
      cases q : m == name with
      | true =>
        have q' : m = name := by simpa using q
        subst q'
        exact ⟨fun d' hd'' => by cases hd''; exact ⟨v, getL_put_self _ _ _ _ _, (hv.mono (s₂.hide S)).mono sb⟩, fun z => by cases z⟩
      | false =>
        have q' : m ≠ name := by simpa using q
        rw [getL_put_ne name m q']
        exact ⟨fun d' hd'' => by obtain ⟨u, a, b⟩ := (d3 m).1 d' hd''; exact ⟨u, a, b.mono sb⟩, (d3 m).2⟩
/-- self.name = e -/
theorem set_stmt {env : Env} {W V S : List Addr} {A : Around} {s : Shared} {y name : Str} {yp ap pos : Pos} {e : Expr} {d : Dat} {x C dx : Addr} {AD : List (Str × Dat)} (h : EV w n N ρ e d) (hy : ρ.lookup y = some (.ref x)) (hdn : (y == ("__debug__" : Str)) = false)
    (hp : plainOver (hd.heap_39 w.params) C = true) (ht : takerIn (hd.heap_39 w.params) C name = some none) (hh : hasDictIn (hd.heap_39 w.params) C = true) (hs : findIn (hd.heap_39 w.params) (.ref C) "__setattr__" = some (some (.builtin "object.__setattr__")))
    (hsw : swapsWith e (some (.Attribute (.Name y yp) name ap)) pos.line env = pure false) (hAD : AD.length ≤ 90)
    (Cc : Cx w n N ρ env S A s.heap) (F : FS N env W V S s.heap) (dS : dx ∈ S) (dV : dx ∉ V) (xd : x ≠ dx) (hx : s.heap.get? x = some (instObj C dx)) (di : DictIs s.heap S dx AD)
    {Q : Flow → Shared → Prop} {E : Value → Shared → Prop} (K : ∀ h' tk, Keep (dx :: W) s.heap h' → Keep [dx] s.heap h' → FS N env W V S h' → Cx w n N ρ env S A h' → h'.get? x = some (instObj C dx) → DictIs h' S dx ((name, d) :: AD) → Q .next { s with heap := h', toks := tk }) :
    wpAny (model PR w) A (exec (.Assign [.Attribute (.Name y yp) name ap] e pos) env) Q E s := by
  refine plainObj_wpAny_Assign_Attribute (h env S A s Cc _ E fun v h₁ t₁ s₁ r₁ => ?_) hsw
  exact set_value (s := { s with heap := h₁, toks := t₁ }) hy hdn hp ht hh hs hAD r₁ (Cc.mono s₁) (F.mono s₁) dS dV xd (s₁ _ _ hx) (di.mono (s₁.hide S) fun o e => s₁ _ _ e) fun h' tk k k' F' C' x' d' => K h' tk (fun b o hb e => k b o hb (s₁ _ _ e)) ((Keep.of_sub s₁).trans k') F' C' x' d'
/-- self.name = [] -/
theorem set_empty {env : Env} {W V S : List Addr} {A : Around} {s : Shared} {y name : Str} {yp ap lp pos : Pos} {x C dx : Addr} {AD : List (Str × Dat)} (hy : ρ.lookup y = some (.ref x)) (hdn : (y == ("__debug__" : Str)) = false)
    (hp : plainOver (hd.heap_39 w.params) C = true) (ht : takerIn (hd.heap_39 w.params) C name = some none) (hh : hasDictIn (hd.heap_39 w.params) C = true) (hs : findIn (hd.heap_39 w.params) (.ref C) "__setattr__" = some (some (.builtin "object.__setattr__")))
    (hsw : swapsWith (.List [] lp) (some (.Attribute (.Name y yp) name ap)) pos.line env = pure false) (hAD : AD.length ≤ 90)
    (Cc : Cx w n N ρ env S A s.heap) (F : FS N env W V S s.heap) (dS : dx ∈ S) (dV : dx ∉ V) (xd : x ≠ dx) (hx : s.heap.get? x = some (instObj C dx)) (di : DictIs s.heap S dx AD)
    {Q : Flow → Shared → Prop} {E : Value → Shared → Prop} (K : ∀ u h' tk, s.heap.get? u = none → Keep [dx] s.heap h' → h'.get? u = some { cls := .type "list", data := .seq ([] : List Value).toArray } → FS N env W V (u :: S) h' → Cx w n N ρ env (u :: S) A h' → h'.get? x = some (instObj C dx) → DictIs h' (u :: S) dx ((name, .ref u) :: AD) → Q .next { s with heap := h', toks := tk }) :
    wpAny (model PR w) A (exec (.Assign [.Attribute (.Name y yp) name ap] (.List [] lp) pos) env) Q E s := by
  refine plainObj_wpAny_Assign_Attribute ?_ hsw
  show wpAny _ A (do standAt lp; newList (← spliced (backTo lp (starEach [] env)))) _ E s
  refine wpAny_bind (wpAny_standAt (wpAny_bind (spliced_none (wpAny_newList ?_ (Nat.zero_le _)))))
  generalize hO : s.heap.objs.size = O
  have s₂ : Sub s.heap (s.heap.push { cls := .type "list", data := .seq ([] : List Value).toArray }) := Sub.push _ _
  have new : (s.heap.push { cls := .type "list", data := .seq ([] : List Value).toArray }).get? O = some { cls := .type "list", data := .seq ([] : List Value).toArray } := hO ▸ Heap.get?_push_size _ rfl
  generalize s.heap.push { cls := .type "list", data := .seq ([] : List Value).toArray } = h₂ at s₂ new
  have ne : ∀ b o, s.heap.get? b = some o → b ≠ O := fun b o e z => by have := Heap.lt_size e; rw [hO, z] at this; exact Nat.lt_irrefl _ this
  have hn : s.heap.get? O = none := by cases z : s.heap.get? O with | none => rfl | some o => exact absurd rfl (ne _ _ z)
  have sb : Sub (hideAll s.heap S) (hideAll h₂ (O :: S)) := sub_fresh s₂ hn
  have C₂ : Cx w n N ρ env (O :: S) A h₂ := ⟨Cc.env_ok, fun a ha => by
      rcases List.mem_cons.mp ha with z | z
      · rw [z]; exact ⟨_, new⟩
      · obtain ⟨o, e⟩ := Cc.live a z; exact ⟨o, s₂ _ _ e⟩, Cc.good.mono sb, fun x d e => by
      obtain ⟨v, a, b⟩ := Cc.vars x d e
      exact ⟨v, a.mono s₂, b.mono sb⟩, Cc.room⟩
  have F₂ : FS N env W V (O :: S) h₂ := (F.mono s₂).bigger fun a ha => .tail _ (F.wS a ha)
  have dO : O ≠ dx := fun z => by obtain ⟨es, k, e, _⟩ := di; exact ne _ _ e z.symm
  refine set_value (d := .ref O) (s := { s with heap := h₂ }) hy hdn hp ht hh hs hAD rfl C₂ F₂ (.tail _ dS) dV xd (s₂ _ _ hx) (di.mono sb fun o e => s₂ _ _ e) fun h' tk k k' F' C' x' d' => K O h' tk hn ((Keep.of_sub s₂).trans k') (k' _ _ (by simpa using dO) new) F' C' x' d'

/-- the body of a def, entered -/
theorem call_raw {name qual : Str} {params : Arguments} {body : List Stmt} {scope : Scope} {dV kV doc pm cdv ct oc : Value} {an od : Option Addr} {osl : Array (Option Value)} {f : Addr} {ps : List Str} {ds : List Dat} {S : List Addr} {A : Around} {s : Shared} {vs : List Value} {R : Result → Shared → Prop}
    (ho : (hd.heap_39 w.params).lookup f = some ⟨oc, od, .func (fnOf name qual params body scope dV kV doc pm an cdv ct), osl⟩) (hcd : codeIn (hd.heap_39 w.params) cdv qual = true)
    (hb : bindArgs (fnOf name qual params body scope dV kV doc pm an cdv ct) ⟨vs, []⟩ = pure (ps.zip vs)) (hl : ds.length = ps.length) (hnd : ps.Nodup)
    (hloc : ∀ p ∈ ps, scope.names.lookup p = some .local) (hcell : ∀ x ∈ scope.names, x.2 ≠ .cell) (hA : okA (n + 1) A) (l : Live S s.heap) (g : Good w (hideAll s.heap S)) (dd : DD (hideAll s.heap S) vs ds)
    (h : ∀ env L h₀ tk, Cx w n scope.names (ps.zip ds) env (L :: S) (A.deeper env) h₀ → FS scope.names env [L] [L] (L :: S) h₀ → Sub s.heap h₀ → s.heap.get? L = none →
      wpAny (model PR w) (A.deeper env) (execs body env) (fun f s' => R (.ok (.ret (match f with | .ret v => v | _ => .none))) s') (fun _ _ => False) { s with heap := h₀, toks := tk })
    (hco : scope.isCoroutine = false) (hgen : scope.isGenerator = false) (hk : scope.kind = .function) : codeAny (model PR w) A (.call (.ref f) ⟨vs, []⟩) R s := by
  have X := g.mono (Sub.of_hide _ S)
  have len : vs.length = ps.length := dd.length.trans hl
  refine codeAny_call_def (binds := ps.zip vs) hA.room (X.K _ _ ho) rfl (by obtain ⟨_, _, _, _, z, _⟩ := X.top; exact z) (codeRec_of X.K hcd) rfl (BindsTo.of_eq hb) hcell (fun x hx => hloc _ (by
    have := List.mem_map_of_mem (f := (·.1)) hx
    rwa [zip_keys len] at this)) (fun h₀ hns hk₁ => ?_) hco hgen hk
  generalize hL : s.heap.objs.size = L at hns
  have sub : Sub (hideAll s.heap S) (hideAll h₀ (L :: S)) := fun b o e => hideAll_get _ (hk₁ b o (of_hideAll _ e)) fun hm => by
    rcases List.mem_cons.mp hm with q | q
    · have z := Heap.lt_size (of_hideAll _ e); rw [hL, q] at z; exact Nat.lt_irrefl _ z
    · exact not_mem_of_hide e q
  have live : Live (L :: S) h₀ := fun a ha => by
    rcases List.mem_cons.mp ha with q | q
    · subst q; obtain ⟨o, _, _, e, _⟩ := hns; exact ⟨o, e⟩
    · obtain ⟨o, e⟩ := l a q; exact ⟨o, hk₁ _ _ e⟩
  have hLn : s.heap.get? L = none := by
    cases z : s.heap.get? L with
    | none => rfl
    | some o => have := Heap.lt_size z; rw [hL] at this; exact absurd this (Nat.lt_irrefl _)
  refine wpAny_mono (h (callEnv (fnOf name qual params body scope dV kV doc pm an cdv ct) L f) L h₀ (s.toks + (ps.zip vs).length)
    ⟨⟨hk, fun _ => rfl, rfl, rfl⟩, live, g.mono sub, fun x d' e => ?_, ⟨hA.handled, by have := hA.depth; show A.depth + 1 + 2 * n < 1000; omega, by have := hA.units; show A.units + 3 + 100 + 10 * n < 9900; omega⟩⟩
    ⟨⟨_, hns⟩, List.mem_singleton.mpr rfl, (fun x c e => by cases e), (fun x e => absurd rfl (hcell (x, .cell) (mem_of_lookup e))), (fun x y c _ e => by cases e), (fun a ha => ha), (fun a ha => by rw [List.mem_singleton.mp ha]; exact .head _), (fun a ha => by rw [List.mem_singleton.mp ha]; exact live _ (.head _))⟩ hk₁ hLn) (fun _ _ z => z) fun _ _ z => z.elim
  obtain ⟨v, hv, dv⟩ := dd.lookup e
  refine ⟨v, .loc _ (hloc x ?_) hns ?_, dv.mono sub⟩
  · have : x ∈ (ps.zip ds).map (·.1) := by
      by_cases hm : x ∈ (ps.zip ds).map (·.1)
      · exact hm
      · rw [lookup_none_of hm] at e; cases e
    rwa [zip_keys hl] at this
  · rw [lookup_rev (by rw [zip_keys len]; exact hnd)]; exact hv

theorem okA.under {A : Around} {C : Addr} {rest : List Value} {kw : List (Str × Value)} (h : okA (n + 1) A) : okA n (A.under (.builtin "type.__call__" ⟨.ref C :: rest, kw⟩)) := by
  refine ⟨h.handled, ?_, ?_⟩
  · have := h.depth; show A.depth + (0 + 1 + 0 + 0) + 2 * n < 1000; omega
  · have := h.units; show A.units + (1 + 3 * 0) + 100 + 10 * n < 9900; omega

/-- a new object, as its __init__ begins -/
theorem make_raw {C fI : Addr} {S : List Addr} {A : Around} {s : Shared} {rest : List Value} {R : Result → Shared → Prop} (l : Live S s.heap) (g : Good w (hideAll s.heap S))
    (h1 : makesIn (hd.heap_39 w.params) C = true) (h2 : findIn (hd.heap_39 w.params) (.ref C) "__init__" = some (some (.ref fI))) (h3 : typeIn (hd.heap_39 w.params) (.ref fI) = some (.type "function"))
    (h : ∀ x dx h', s.heap.get? x = none → s.heap.get? dx = none → x ≠ dx → Sub s.heap h' → h'.get? x = some (instObj C dx) → DictIs h' (dx :: S) dx [] → Live (dx :: S) h' → Good w (hideAll h' (dx :: S)) → x ∉ S → dx ∉ S →
      codeAny (model PR w) (A.under (.builtin "type.__call__" ⟨.ref C :: rest, []⟩)) (.call (.ref fI) ⟨.ref x :: rest, []⟩) (InitBack x R) { s with heap := h' }) :
    codeAny (model PR w) A (.call (.ref C) ⟨rest, []⟩) R s := by
  obtain ⟨hh, gg, dr, tk, os⟩ := s
  have X := (g.mono (Sub.of_hide _ S)).K
  refine make_core (makes_of X h1) (looks_findIn X h2) (fun self => bind_fn X self h3) (.inl rfl) ?_
  have sb : Sub hh ((hh.push emptyDict).push (instObj C hh.objs.size)) := (Sub.push _ _).trans (Sub.push _ _)
  have n1 : hh.get? (hh.objs.size + 1) = none := Heap.get?_none_of_le (Nat.le_succ _)
  have n2 : hh.get? hh.objs.size = none := get_size
  have gx : ((hh.push emptyDict).push (instObj C hh.objs.size)).get? (hh.objs.size + 1) = some (instObj C hh.objs.size) := by
    have := Heap.get?_push_size (hh.push emptyDict) (o := instObj C hh.objs.size) rfl
    rwa [Heap.size_push] at this
  have gd : ((hh.push emptyDict).push (instObj C hh.objs.size)).get? hh.objs.size = some emptyDict := Heap.get?_push_of_some _ (Heap.get?_push_size _ rfl)
  refine h _ hh.objs.size _ n1 n2 (Nat.succ_ne_self _) sb gx ⟨[], 0, gd, Nat.zero_le _, fun m => ⟨(fun d e => by cases e), fun _ => rfl⟩⟩ (fun a ha => ?_) (g.mono (sub_fresh sb n2)) (fun hm => ?_) fun hm => ?_
  · rcases List.mem_cons.mp ha with q | q
    · rw [q]; exact ⟨_, gd⟩
    · obtain ⟨o, e⟩ := l a q; exact ⟨o, sb _ _ e⟩
  · obtain ⟨o, e⟩ := l _ hm; dsimp only at e; rw [n1] at e; cases e
  · obtain ⟨o, e⟩ := l _ hm; dsimp only at e; rw [n2] at e; cases e
end
end RsLaw
end
section
open PySem PySem.Spec PySem.Calls PySem.W PyProof.Rows PySem.SeqAt
set_option maxRecDepth 100000
set_option linter.unusedVariables false
namespace RsLaw
noncomputable abbrev nil_ : Obj := { cls := .type "list", data := .seq ([] : List Value).toArray }
structure NewEntry (w : World) (h h' : Heap) (S : List Addr) (x dx u r : Addr) : Prop where
  sub : Sub h h'
  fx : h.get? x = none
  fd : h.get? dx = none
  fu : h.get? u = none
  fr : h.get? r = none
  hx : h'.get? x = some (instObj 125 dx)
  hu : h'.get? u = some nil_
  hr : h'.get? r = some nil_
  di : DictIs h' (r :: u :: dx :: S) dx [("req_rate", .py .none), ("delay", .py .none), ("rulelines", .ref r), ("useragents", .ref u)]
  live : Live (r :: u :: dx :: S) h'
  good : Good w (hideAll h' (r :: u :: dx :: S))
  xd : x ≠ dx
  ud : u ≠ dx
  rd : r ≠ dx
  ru : r ≠ u
  xu : x ≠ u
  xr : x ≠ r
section
variable {w : World} {n : Nat} {N : List (Str × NameKind)} {ρ : Rho}
theorem Keep.sub {W : List Addr} {a b c : Heap} (s : Sub a b) (k : Keep W b c) (hf : ∀ x ∈ W, a.get? x = none) : Sub a c := fun p o e => k p o (fun hm => by rw [hf p hm] at e; cases e) (s p o e)
theorem ne_of_get {h : Heap} {a b : Addr} {o : Obj} (ha : h.get? a = some o) (hb : h.get? b = none) : a ≠ b := fun z => by rw [z, hb] at ha; cases ha
theorem entry_raw {S : List Addr} {A : Around} {s : Shared} (hA : okA (n + 2) A) (l : Live S s.heap) (g : Good w (hideAll s.heap S)) {Q : Value → Shared → Prop} {E : Value → Shared → Prop}
    (K : ∀ x dx u r h' tk, NewEntry w s.heap h' S x dx u r → Q (.ref x) { s with heap := h', toks := tk }) : wpAny (model PR w) A (call (.ref 125) []) Q E s := by
  refine wpAny_call (make_raw l g (by k_is) (by k_is) (by k_is) fun x dx h1 fx fd xd sb hx di lv gd xS dS => ?_)
  refine' call_raw (n := n) (s := { s with heap := h1 }) (ps := ["self"]) (ds := [.ref x]) (ho := ?ho) (hcd := ?hcd) (hb := ?hb) (hl := rfl) (hnd := ?hnd) (hloc := ?hloc) (hcell := ?hcell) (hA := hA.under) (l := lv) (g := gd) (dd := .cons rfl .nil) (h := ?h) (hco := ?hco) (hgen := ?hgen) (hk := ?hk)
  case ho => k_is
  case hcd => k_is
  case hb => rfl
  case hco => rfl
  case hgen => rfl
  case hk => rfl
  case hnd => decide
  case hloc => decide
  case hcell => decide
  case h =>
    intro env L h₀ tk C F sb2 fL
    have s0 : Sub s.heap h₀ := sb.trans sb2
    have dxL : dx ≠ L := by obtain ⟨es, k, e, _⟩ := di; exact ne_of_get e fL
    have dV : dx ∉ [L] := fun hm => dxL (List.mem_singleton.mp hm)
    have subD : Sub (hideAll h1 (dx :: S)) (hideAll h₀ (L :: dx :: S)) := sub_fresh sb2 fL
    have di0 : DictIs h₀ (L :: dx :: S) dx [] := di.mono subD fun o e => sb2 _ _ e
    refine wpAny_execs_cons (set_empty (C := 125) (by rfl) (by decide) (by k_is) (by k_is) (by k_is) (by k_is) (by rfl) (by simp) C F (.tail _ (.head _)) dV xd (sb2 _ _ hx) di0 fun u h₁ t₁ fu k₁ hu F₁ C₁ x₁ d₁ => ?_)
    dsimp only at fu k₁
    refine wpAny_execs_cons (set_empty (s := { s with heap := h₁, toks := t₁ }) (C := 125) (by rfl) (by decide) (by k_is) (by k_is) (by k_is) (by k_is) (by rfl) (by simp) C₁ F₁ (.tail _ (.tail _ (.head _))) dV xd x₁ d₁ fun r h₂ t₂ fr k₂ hr F₂ C₂ x₂ d₂ => ?_)
    dsimp only at fr k₂
    refine wpAny_execs_cons (set_stmt (s := { s with heap := h₂, toks := t₂ }) (C := 125) EV.const_none (by rfl) (by decide) (by k_is) (by k_is) (by k_is) (by k_is) (by rfl) (by simp) C₂ F₂ (.tail _ (.tail _ (.tail _ (.head _)))) dV xd x₂ d₂ fun h₃ t₃ _ k₃ F₃ C₃ x₃ d₃ => ?_)
    refine wpAny_execs_cons (set_stmt (s := { s with heap := h₃, toks := t₃ }) (C := 125) EV.const_none (by rfl) (by decide) (by k_is) (by k_is) (by k_is) (by k_is) (by rfl) (by simp) C₃ F₃ (.tail _ (.tail _ (.tail _ (.head _)))) dV xd x₃ d₃ fun h₄ t₄ _ k₄ F₄ C₄ x₄ d₄ => ?_)
    refine wpAny_execs_nil ⟨rfl, ?_⟩
    have fd' : ∀ a ∈ [dx], s.heap.get? a = none := fun a ha => List.mem_singleton.mp ha ▸ fd
    have sub1 := Keep.sub s0 k₁ fd'
    have sub2 := Keep.sub sub1 k₂ fd'
    have sub3 := Keep.sub sub2 k₃ fd'
    have sub4 := Keep.sub sub3 k₄ fd'
    have none_of : ∀ {h : Heap} {a : Addr}, Sub s.heap h → h.get? a = none → s.heap.get? a = none := fun {h a} sb e => by
      cases z : s.heap.get? a with
      | none => rfl
      | some o => rw [sb _ _ z] at e; cases e
    have ud : u ≠ dx := by obtain ⟨es, k, e, _⟩ := di0; exact (ne_of_get e fu).symm
    have rd : r ≠ dx := by obtain ⟨es, k, e, _⟩ := d₁; exact (ne_of_get e fr).symm
    have ru : r ≠ u := (ne_of_get hu fr).symm
    have kk : ∀ b o, b ≠ dx → h₂.get? b = some o → h₄.get? b = some o := fun b o hb e => k₄ b o (by simpa using hb) (k₃ b o (by simpa using hb) e)
    have less : Sub (hideAll h₄ (r :: u :: L :: dx :: S)) (hideAll h₄ (r :: u :: dx :: S)) := fun b o e => hideAll_get _ (of_hideAll _ e) fun hm => not_mem_of_hide e (by
      rcases List.mem_cons.mp hm with q | q
      · exact q ▸ .head _
      · rcases List.mem_cons.mp q with q | q
        · exact q ▸ .tail _ (.head _)
        · exact .tail _ (.tail _ (.tail _ q)))
    refine K x dx u r h₄ t₄ ⟨sub4, fx, fd, none_of s0 fu, none_of sub1 fr, x₄, kk _ _ ud (k₂ _ _ (by simpa using ud) hu), kk _ _ rd hr, d₄.mono less fun _ e => e, fun a ha => C₄.live a ?_, C₄.good.mono less, xd, ud, rd, ru, ne_of_get (sb2 _ _ hx) fu, ne_of_get x₁ fr⟩
    rcases List.mem_cons.mp ha with q | q
    · exact q ▸ .head _
    · rcases List.mem_cons.mp q with q | q
      · exact q ▸ .tail _ (.head _)
      · exact .tail _ (.tail _ (.tail _ q))
end
end RsLaw
end
section
open PySem PySem.Spec PySem.Calls PySem.W PyProof.Rows PySem.SeqAt
set_option maxRecDepth 100000
set_option linter.unusedVariables false
namespace RsLaw
/-- a new entry in a variable -/
structure HasEntry (h0 h : Heap) (S : List Addr) (x dx u r : Addr) : Prop where
  fx : h0.get? x = none
  fd : h0.get? dx = none
  fu : h0.get? u = none
  fr : h0.get? r = none
  hx : h.get? x = some (instObj 125 dx)
  hu : h.get? u = some nil_
  hr : h.get? r = some nil_
  di : DictIs h (r :: u :: dx :: S) dx [("req_rate", .py .none), ("delay", .py .none), ("rulelines", .ref r), ("useragents", .ref u)]
  xd : x ≠ dx
  ud : u ≠ dx
  rd : r ≠ dx
  ru : r ≠ u
  xu : x ≠ u
  xr : x ≠ r
section
variable {w : World} {n : Nat} {N : List (Str × NameKind)} {ρ : Rho}
theorem nt_Entry (hx : N.lookup ("Entry" : Str) = some .globalImplicit) : NameTo w N "Entry" (.ref 125) := NameTo.global hx (by k_is)
theorem keep_Entry : keepIn (hd.heap_39 w.params) (.ref 125) = true := by k_is
theorem entry_stmt {env : Env} {W V S : List Addr} {A : Around} {s : Shared} {y : Str} {py np cp pos : Pos} (C : Cx w (n + 2) N ρ env S A s.heap) (F : FS N env W V S s.heap) (hk : N.lookup y = some .local ∨ N.lookup y = some .cell) (hE : N.lookup ("Entry" : Str) = some .globalImplicit)
    {Q : Flow → Shared → Prop} {E : Value → Shared → Prop}
    (K : ∀ x dx u r h' tk, HasEntry s.heap h' S x dx u r → Keep W s.heap h' → FS N env W V (r :: u :: dx :: S) h' → Cx w (n + 2) N ((y, .ref x) :: ρ) env (r :: u :: dx :: S) A h' → Q .next { s with heap := h', toks := tk })
    (hs : ∀ env, EnvOK N env → swapsWith (.Call (.Name "Entry" np) [] [] cp) (some (.Name y py)) pos.line env = pure false := by intro _ _; rfl)
    (hc : ∀ env, eval (.Call (.Name "Entry" np) [] [] cp) env = (do callWith cp (← eval (.Name "Entry" np) env) [] (backTo cp (starEach [] env)) (backToKw cp (keywordEach [] env))) := by intro _; rfl) :
    wpAny (model PR w) A (exec (.Assign [.Name y py] (.Call (.Name "Entry" np) [] [] cp) pos) env) Q E s := by
  refine wpAny_Assign_Name (Call_ (nt_Entry hE env S s A np _ E C.env_ok C.good (callWith_K0 (C.good.mono (Sub.of_hide _ S)).K keep_Entry (entry_raw C.room C.live C.good fun x dx u r h₁ t₁ ne => ?_))) (hc env)) (hs env C.env_ok)
  have sb : Sub (hideAll s.heap S) (hideAll h₁ (r :: u :: dx :: S)) := fun b o e => hideAll_get _ (ne.sub _ _ (of_hideAll _ e)) fun hm => by
    have e' := of_hideAll _ e
    rcases List.mem_cons.mp hm with q | q
    · rw [q, ne.fr] at e'; cases e'
    · rcases List.mem_cons.mp q with q | q
      · rw [q, ne.fu] at e'; cases e'
      · rcases List.mem_cons.mp q with q | q
        · rw [q, ne.fd] at e'; cases e'
        · exact not_mem_of_hide e q
  have C₁ : Cx w (n + 2) N ρ env (r :: u :: dx :: S) A h₁ := ⟨C.env_ok, ne.live, ne.good, fun z d e => by
    obtain ⟨v, a, b⟩ := C.vars z d e
    exact ⟨v, a.mono ne.sub, b.mono sb⟩, C.room⟩
  have F₁ : FS N env W V (r :: u :: dx :: S) h₁ := (F.mono ne.sub).bigger fun a ha => .tail _ (.tail _ (.tail _ (F.wS a ha)))
  refine store_run (d := .ref x) (s := { s with heap := h₁, toks := t₁ }) C₁ F₁ hk rfl rfl fun h₂ t₂ k₂ F₂ r₂ => ?_
  have nW : ∀ a, s.heap.get? a = none → a ∉ W := fun a ha hm => by obtain ⟨o, e⟩ := F.wl a hm; rw [ha] at e; cases e
  exact K x dx u r h₂ t₂ ⟨ne.fx, ne.fd, ne.fu, ne.fr, k₂ _ _ (nW _ ne.fx) ne.hx, k₂ _ _ (nW _ ne.fu) ne.hu, k₂ _ _ (nW _ ne.fr) ne.hr, ne.di.mono (k₂.hide F₁.wS) fun o e => k₂ _ _ (nW _ ne.fd) e, ne.xd, ne.ud, ne.rd, ne.ru, ne.xu, ne.xr⟩
    ((Keep.of_sub ne.sub).trans k₂) F₂ (C₁.after F₁ k₂ F₂ r₂)

theorem entry_of {h : Heap} {S S' : List Addr} {x dx : Addr} {AD : List (Str × Dat)} {l : List Str} {da dr : Dat} (hx : h.get? x = some (instObj 125 dx)) (xS : x ∉ S) (dS : dx ∉ S) (di : DictIs h S' dx AD)
    (ha : AD.lookup ("useragents" : Str) = some da) (ha' : ∀ v, D (hideAll h S') v da → DP (hideAll h S) v (strsP l)) (hr : AD.lookup ("rulelines" : Str) = some dr) (hr' : ∀ v, D (hideAll h S') v dr → DP (hideAll h S) v (.list []))
    (h1 : AD.lookup ("delay" : Str) = some (.py .none)) (h2 : AD.lookup ("req_rate" : Str) = some (.py .none)) (h3 : AD.lookup ("applies_to" : Str) = none) : D (hideAll h S) (.ref x) (.entry l) := by
  obtain ⟨es, k, e1, _, e3⟩ := di
  obtain ⟨va, a1, a2⟩ := (e3 "useragents").1 _ ha
  obtain ⟨vr, b1, b2⟩ := (e3 "rulelines").1 _ hr
  obtain ⟨vd, c1, c2⟩ := (e3 "delay").1 _ h1
  obtain ⟨vq, d1, d2⟩ := (e3 "req_rate").1 _ h2
  have c2' := DP.none_inv c2
  have d2' := DP.none_inv d2
  subst c2' d2'
  exact ⟨x, dx, es, k, rfl, hideAll_get _ hx xS, hideAll_get _ e1 dS, ⟨va, a1, ha' _ a2⟩, ⟨vr, b1, hr' _ b2⟩, c1, d1, (e3 "applies_to").2 h3⟩

theorem list_extend_gen (l : Addr) (items : Array Value) (n : Nat) (b : Addr) (items2 : Array Value) (n2 : Nat) (dd : Option Addr) (sl : Array (Option Value)) (hc0 : ¬(!items.isEmpty && Builtin.List.listTooLong (items.size + items2.size)) = true) (hc1 : items.size ≤ sizeLine) (hs2 : items.size + items2.size ≤ sizeLine + 1) :
    Meets (Builtin.«list.extend» ⟨[.ref l, .ref b], []⟩) (fun _ R s => s.heap.get? l = some { cls := .type "list", dict := none, data := .seq items n, slots := #[] } ∧ s.heap.get? b = some { cls := .type "list", dict := dd, data := .seq items2 n2, slots := sl } ∧ R (.ok (.ret Value.none)) { s with heap := s.heap.update l (Obj.mapSeq fun x => x ++ items2), toks := s.toks }) :=
  .of_wp fun prog w A R s h => by
    obtain ⟨hp, g, d, tk, os⟩ := s; obtain ⟨hl, hb, h⟩ := h; have f1 := AutoSeq1.idx_int; have f2 := AutoSeq1.sub_tuple_tuple; have f3 := AutoSeq1.sub_list_list; have f4 := AutoSeq1.sub_tuple_list; have f5 := AutoSeq1.sub_list_tuple;
    have hz' : (items ++ items2).size ≤ sizeLine + 1 := by rw [Array.size_append]; exact hs2
    wp_walk using (wpAny_updateSeq hl rfl (hz := hc1) (_hz' := hz')), wpAny_loadPart' hl, wpAny_loadPart' hb; exact ⟨_, rfl, h⟩
end
end RsLaw
end
section
open PySem PySem.Spec PySem.Calls PySem.W PyProof.Rows PySem.SeqAt
set_option maxRecDepth 100000
set_option linter.unusedVariables false
namespace RsLaw
section
variable {w : World} {n : Nat} {N : List (Str × NameKind)} {ρ : Rho}
theorem hide_three {h : Heap} {S : List Addr} (a b c d : Addr) : Sub (hideAll h (a :: b :: c :: d :: S)) (hideAll h S) := fun p o e => hideAll_get _ (of_hideAll _ e) fun hm => not_mem_of_hide e (.tail _ (.tail _ (.tail _ (.tail _ hm))))
theorem fn_record {l : List Str} (hl : l.length ≤ 1000000) : FNv w (n + 3) (.ref 162) [.py (strsP l)] (.entry l) := fun S A s vs hA lv g dd => by
  intro Q E K
  refine wpAny_call ?_
  have len : vs.length = 1 := dd.length
  refine' call_raw (n := n + 2) (ps := ["agents"]) (ds := [.py (strsP l)]) (ho := ?ho) (hcd := ?hcd) (hb := ?hb) (hl := rfl) (hnd := ?hnd) (hloc := ?hloc) (hcell := ?hcell) (hA := hA) (l := lv) (g := g) (dd := dd) (h := ?h) (hco := ?hco) (hgen := ?hgen) (hk := ?hk)
  case ho => k_is
  case hcd => k_is
  case hb => obtain ⟨a, rfl⟩ := vlen1 len; rfl
  case hco => rfl
  case hgen => rfl
  case hk => rfl
  case hnd => decide
  case hloc => decide
  case hcell => decide
  case h =>
    intro env L h₀ tk C F sb fL
    refine wpAny_abs fun QQ EE qq => ?_
    refine wpAny_execs_cons (entry_stmt C F (.inl (by rfl)) (by rfl) fun x dx u r h₁ t₁ he k₁ F₁ C₁ => ?_)
    dsimp only at he k₁
    refine wpAny_execs_cons ?_
    refine wpAny_Expr (MethodCall_ (pl := (do return (← importBound (.Attribute (.Name "record" _) "useragents" _) env).getD true)) ?_ rfl) (inter C.env_ok) (by rfl)
    refine Attribute_Name_ (EV.name (by rfl) (by decide) env _ _ { s with heap := h₁, toks := t₁ } C₁ _ _ fun o h₂ t₂ s₂ r₂ => ?_) (by with_unfolding_all rfl)
    have r₂' : o = .ref x := r₂
    subst r₂'
    have C₂ := C₁.mono s₂
    have F₂ := F₁.mono s₂
    have di₂ := he.di.mono (s₂.hide _) fun o e => s₂ _ _ e
    have di₂' := di₂
    obtain ⟨es, k, e1, e2, e3⟩ := di₂'
    obtain ⟨va, a1, a2⟩ := (e3 "useragents").1 (.ref u) (by rfl)
    have a2' : va = .ref u := a2
    subst a2'
    refine attr_own (d := .ref u) (S := r :: u :: dx :: L :: S) (s := { s with heap := h₂, toks := t₂ }) C₂.good (s₂ _ _ he.hx) e1 a1 rfl rfl (by k_is) (by k_is) (by k_is) (by k_is) _ _ fun v h₃ t₃ s₃ r₃ => ?_
    have r₃' : v = .ref u := r₃
    subst r₃'
    have hu₃ : h₃.get? u = some nil_ := s₃ _ _ (s₂ _ _ he.hu)
    have C₃ := C₂.mono s₃
    have F₃ := F₂.mono s₃
    refine getMethod_list_of (s := { s with heap := h₃, toks := t₃ }) (items := ([] : List Value).toArray) PySem.F.slot_list_extend PySem.F.type_list_extend ⟨_, hu₃, rfl, 0, rfl⟩ ?_ ?_
    · exact ⟨_, hu₃, rfl⟩
    refine callWith_method1 ((ARGS.cons (EV.name (x := "agents") (d := .py (strsP l)) (by rfl)) .nil (fun _ _ => rfl)).run env _ _ { s with heap := h₃, toks := t₃ } _ _ _ C₃ fun vs' h₄ t₄ s₄ dd' => ?_) rfl rfl
    cases dd' with | cons r₄ dd'' => cases dd'' with | nil =>
    obtain ⟨bl, us, rfl, hb, q⟩ := DP.list_inv r₄
    obtain ⟨⟨cls, d0, data, sl⟩, ho, hcl, k0, hd'⟩ := hb
    simp only at hcl hd'
    subst hcl hd'
    have ho' := of_hideAll _ ho
    have hu₄ : h₄.get? u = some nil_ := s₄ _ _ hu₃
    have lus : us.length = l.length := by rw [q.length]; simp
    have hsz : us.toArray.size ≤ sizeLine := by rw [List.size_toArray, lus]; show _ ≤ 2 ^ 24; omega
    refine call_meets (s := { s with heap := h₄, toks := t₄ }) PySem.F.slot_list_extend ⟨_, hu₄, rfl⟩ PySem.F.entry_list_extend (PySem.F.args_list_extend_2 _ _) (list_extend_gen u _ 0 bl us.toArray k0 d0 sl (by simp) (Nat.zero_le _) (by simpa using Nat.le_succ_of_le hsz)) ⟨hu₄, ho', ?_⟩
    have hmap : Obj.mapSeq (fun x => x ++ us.toArray) nil_ = { cls := .type "list", data := .seq us.toArray (if us.toArray.size == 0 then 0 else 1) } := by simp [Obj.mapSeq]
    have hfin : (h₄.update u (Obj.mapSeq fun x => x ++ us.toArray)).get? u = some { cls := .type "list", data := .seq us.toArray (if us.toArray.size == 0 then 0 else 1) } := by
      rw [Heap.get?_update_self _ hu₄ (by rw [hmap]; rfl), hmap]
    have hs₅ : Heap.SameBut u h₄ (h₄.update u (Obj.mapSeq fun x => x ++ us.toArray)) := Heap.SameBut.update ..
    show wpAny _ _ (execs _ env) _ _ _
    dsimp only
    generalize h₄.update u (Obj.mapSeq fun x => x ++ us.toArray) = h₅ at hfin hs₅
    have kU : Keep [u] h₄ h₅ := fun b o hb e => (hs₅.2 b (by simpa using hb)).trans e
    have uV : u ∉ [L] := fun hm => by
      have := ne_of_get (F.wl L (.head _)).choose_spec he.fu
      exact this (List.mem_singleton.mp hm).symm
    obtain ⟨C₅, F₅⟩ := (C₃.mono s₄).turn (F₃.mono s₄) (.tail _ (.head _)) uV kU ⟨_, hfin⟩
    have sU : Sub (hideAll h₄ (r :: u :: dx :: L :: S)) (hideAll h₅ (r :: u :: dx :: L :: S)) := kU.hide fun a ha => List.mem_singleton.mp ha ▸ .tail _ (.head _)
    have di₅ : DictIs h₅ (r :: u :: dx :: L :: S) dx _ := (di₂.mono ((s₃.trans s₄).hide _) fun o e => s₄ _ _ (s₃ _ _ e)).mono sU fun o e => kU _ _ (by simpa using he.ud.symm) e
    refine wpAny_execs_cons (wpAny_Return_some (EV.name (x := "record") (d := .ref x) (by rfl) (by decide) env _ _ { s with heap := h₅, toks := t₄ } C₅ _ _ fun v h₆ t₆ s₆ r₆ => ?_))
    have r₆' : v = .ref x := r₆
    subst r₆'
    have old : ∀ a, h₀.get? a = none → s.heap.get? a = none := fun a ha => by
      cases z : s.heap.get? a with
      | none => rfl
      | some o => rw [sb _ _ z] at ha; cases ha
    have nS : ∀ a, h₀.get? a = none → a ∉ S := fun a ha hm => by obtain ⟨o, e⟩ := lv a hm; rw [old a ha] at e; cases e
    refine qq _ _ ?_
    refine K _ h₆ t₆ (fun b o e => s₆ _ _ (kU b o (fun hm => ?_) (s₄ _ _ (s₃ _ _ (s₂ _ _ (k₁ b o (fun hm => ?_) (sb _ _ e))))))) ?_
    · rw [List.mem_singleton.mp hm, old _ he.fu] at e; cases e
    · rw [List.mem_singleton.mp hm, fL] at e; cases e
    · refine entry_of (S' := r :: u :: dx :: L :: S) (da := .ref u) (dr := .ref r) (s₆ _ _ (kU _ _ (by simpa using he.xu) (s₄ _ _ (s₃ _ _ (s₂ _ _ he.hx))))) (nS _ he.fx) (nS _ he.fd) (di₅.mono (s₆.hide _) fun o e => s₆ _ _ e) (by rfl) (fun v hv => ?_) (by rfl) (fun v hv => ?_) (by rfl) (by rfl) (by rfl)
      · have hv' : v = .ref u := hv
        subst hv'
        refine DP.list (vs := us) ⟨_, hideAll_get _ (s₆ _ _ hfin) (nS _ he.fu), rfl, _, rfl⟩ ?_
        exact flat_DPs (by simp [flats, flat]) q
      · have hv' : v = .ref r := hv
        subst hv'
        exact DP.list (vs := []) ⟨_, hideAll_get _ (s₆ _ _ (kU _ _ (by simpa using he.ru) (s₄ _ _ (s₃ _ _ (s₂ _ _ he.hr))))) (nS _ he.fr), rfl, _, rfl⟩ .nil
end
end RsLaw
end
section
open PySem PySem.Spec PySem.Calls PySem.W PyProof.Rows PySem.SeqAt
set_option maxRecDepth 100000
set_option linter.unusedVariables false
namespace RsLaw
structure Sc where
  b : Int
  n : Int
  nt : Int
  cnt : List Int
noncomputable def widen (b : Int) (l : List Int) : List Int := if decide (b ≥ (l.length : Int)) = true then l ++ (List.replicate (b - (l.length : Int) + 1).toNat [0]).flatten else l
noncomputable def bump (b : Int) (l : List Int) : List Int := l.set b.toNat (l.getD b.toNat 0 + 1)
noncomputable def scStep (s : Sc) (c : Nat) : Sc := if (c == 32) = true then ⟨s.b + 1, s.n + 1, s.nt, s.cnt⟩ else ⟨0, s.n + 1, s.nt + 1, bump s.b (widen s.b s.cnt)⟩
noncomputable def scan (l : List Nat) : Sc := l.foldl scStep ⟨0, 0, 0, []⟩
noncomputable def wdOf (l : List Nat) : WD := ⟨(scan l).n, (scan l).nt, (scan l).cnt, (scan l).b, decide (((scan l).cnt.length : Int) ≤ 1)⟩
theorem scan_snoc (l : List Nat) (c : Nat) : scan (l ++ [c]) = scStep (scan l) c := by unfold scan; rw [List.foldl_append]; rfl
theorem rep_len (m : Nat) : (List.replicate m [(0 : Int)]).flatten.length = m := by
  induction m with
  | zero => rfl
  | succ m ih => rw [List.replicate_succ, List.flatten_cons, List.length_append, ih]; simp; omega
theorem widen_len (b : Int) (l : List Int) (hb : 0 ≤ b) : b.toNat < (widen b l).length ∧ ((widen b l).length : Int) ≤ max (l.length : Int) (b + 1) := by
  unfold widen
  split
  · rename_i h
    have h' : b ≥ (l.length : Int) := by simpa using h
    rw [List.length_append, rep_len]
    omega
  · rename_i h
    have h' : ¬ b ≥ (l.length : Int) := by simpa using h
    omega
theorem scan_bounds : ∀ (m : Nat) (l : List Nat), l.length = m → 0 ≤ (scan l).b ∧ (scan l).b ≤ m ∧ ((scan l).cnt.length : Int) ≤ m
  | 0, l, h => by rw [List.length_eq_zero_iff.mp h]; simp [scan]
  | m + 1, l, h => by
    obtain ⟨l', c, rfl⟩ : ∃ l' c, l = l' ++ [c] := ⟨l.dropLast, l.getLast (by intro z; rw [z] at h; simp at h), (List.dropLast_concat_getLast _).symm⟩
    have ih := scan_bounds m l' (by simpa using h)
    rw [scan_snoc]
    unfold scStep
    have wl := widen_len (scan l').b (scan l').cnt ih.1
    split
    · dsimp only; omega
    · dsimp only; unfold bump; rw [List.length_set]; omega
section
variable {w : World} {n : Nat} {N : List (Str × NameKind)} {ρ : Rho}
theorem half_raw {x dx : Addr} {t : Str} {e : Bool} : Op1 w n (fun a => getAttr a "raw" e) (.half x dx t) (St t) := fun S A s a hA l g r => by
  obtain ⟨rfl, h1, es, k, h2, u, h3⟩ := r
  exact attr_own g (Sub.of_hide _ S _ _ h1) (Sub.of_hide _ S _ _ h2) h3 rfl (DP.str _ _) (by k_is) (by k_is) (by k_is) (by k_is)
theorem EV.glob {x : Str} {pos : Pos} {a : Addr} (h : NameTo w N x (.ref a)) : EV w n N ρ (.Name x pos) (.ref a) := fun env S A s C Q E K => h env S s A pos Q E C.env_ok C.good (K _ s.heap s.toks (Sub.refl _) rfl)
theorem nt_Whitespace (hx : N.lookup ("Whitespace" : Str) = some .globalImplicit) : NameTo w N "Whitespace" (.ref 83) := NameTo.global hx (by k_is)
theorem cls_S {e : Bool} : Op1 w n (fun a => getAttr a "S" e) (.ref 83) (St " ") := fun S A s a hA l g r => by
  have r' : a = .ref 83 := r
  subst r'
  intro Q E K
  refine cls_value (K := hd.heap_39 w.params) (mc := .type "type") (g.mono (Sub.of_hide _ S)).K (by k_is) (by k_is) rfl (K _ s.heap _ (Sub.refl _) (DP.str _ _))
theorem cls_T {e : Bool} : Op1 w n (fun a => getAttr a "T" e) (.ref 83) (St "\t") := fun S A s a hA l g r => by
  have r' : a = .ref 83 := r
  subst r'
  intro Q E K
  refine cls_value (K := hd.heap_39 w.params) (mc := .type "type") (g.mono (Sub.of_hide _ S)).K (by k_is) (by k_is) rfl (K _ s.heap _ (Sub.refl _) (DP.str _ _))
theorem EX1.swap2 {x y : Str} {px py tpos pos : Pos} {k : Nat} {e : Expr} {d₁ d₂ : PyData} (h : EV w n N ρ e (Tu [d₁, d₂])) (hx : N.lookup x = some .local ∨ N.lookup x = some .cell) (hy : N.lookup y = some .local ∨ N.lookup y = some .cell)
    (hs : ∀ env, swapsWithSole [.Tuple [.Name x px, .Name y py] k tpos] e pos.line env = pure false := by intro _; rfl) (hw : ∀ env, EnvOK N env → swappedStores [.Tuple [.Name x px, .Name y py] k tpos] e env = pure (some [x, y])) :
    EX1 w n N ρ (.Assign [.Tuple [.Name x px, .Name y py] k tpos] e pos) (.next ((x, .py d₁) :: (y, .py d₂) :: ρ)) := fun env W V S A s C F Q E K =>
  Assign_Tuple_swapped (names := [x, y]) (h env S A s C _ E fun v h₁ t₁ s₁ r => by
    obtain ⟨a, vs, rfl, ht, q⟩ := DP.tuple_inv r
    obtain ⟨v₁, r₁, rfl, q₁, q'⟩ := q.uncons
    obtain ⟨v₂, r₂, rfl, q₂, q''⟩ := q'.uncons
    have := q''.unnil
    subst this
    have C₁ := C.mono s₁
    have F₁ := F.mono s₁
    refine unpackItems_tuple (s := { s with heap := h₁, toks := t₁ }) (items := [v₁, v₂].toArray) C.room.handled (ht.keeps (Sub.of_hide _ _)) fun h' he => ?_
    have s' : Sub h₁ h' := fun b o e => he b o (Nat.ne_of_lt (Heap.lt_size e)) e
    refine assignInOrder_cons (bindName_ (store_run (d := .py d₂) (s := { s with heap := h', toks := t₁ }) (C₁.mono s') (F₁.mono s') hy rfl (DP.mono (s'.hide S) q₂) fun h₂ t₂ k₂ F₂ e₂ => ?_))
    refine assignInOrder_cons (bindName_ (store_run (d := .py d₁) (s := { s with heap := h₂, toks := t₂ }) ((C₁.mono s').after (F₁.mono s') k₂ F₂ e₂) F₂ hx rfl (DP.mono (k₂.hide F.wS) (DP.mono (s'.hide S) q₁)) fun h₃ t₃ k₃ F₃ e₃ => ?_))
    exact assignInOrder_nil (K .next h₃ t₃ (((Keep.of_sub (s₁.trans s')).trans k₂).trans k₃) F₃ e₃)) (hs env) (hw env C.env_ok)
theorem fn_tuple {xs : List PyData} (hs : xs.length < 1000000) : FNv w n (.type "tuple") [Ls xs] (Tu xs) := FNv.one fun S A s a hA l g ha => by
  obtain ⟨al, vs, rfl, hl, q⟩ := DP.list_inv ha
  obtain ⟨o, e1, e2⟩ := hl
  intro Q E K
  have len : vs.length = xs.length := q.length
  refine call_tuple_list (l := al) (items := vs.toArray) ⟨o, of_hideAll _ e1, e2⟩ (fun h' hk => ?_) (by rw [List.size_toArray, len]; show _ ≤ 2 ^ 24; omega)
  have sb : Sub s.heap h' := hk
  exact K _ _ s.toks (sb.trans (Sub.push _ _)) (DP.tuple (vs := vs) ⟨_, get_new (l.mono sb) rfl, rfl, 0, rfl⟩ (q.mono ((sb.trans (Sub.push _ _)).hide S)))
theorem nt_tuple (hx : N.lookup ("tuple" : Str) = some .globalImplicit) : NameTo w N "tuple" (.type "tuple") := NameTo.builtin hx (by k_is) (by decide +kernel)
end
end RsLaw
end
section
open PySem PySem.Spec PySem.Calls PySem.W PyProof.Rows PySem.SeqAt
set_option maxRecDepth 100000
set_option linter.unusedVariables false
namespace RsLaw
noncomputable def wR (x dx : Addr) (t : Str) (s : Sc) : Rho := [("b", I s.b), ("n", I s.n), ("nt", I s.nt), ("S", St " "), ("T", St "\t"), ("self", .half x dx t)]
section
variable {w : World} {n : Nat} {N : List (Str × NameKind)} {ρ : Rho}
theorem tst_sign {c k : Nat} {y : Str} {x : Str} {p1 p2 p3 : Pos} {ρ : Rho} (hch : ρ.lookup x = some (St ⟨#[c]⟩)) (hS : ρ.lookup y = some (St ⟨#[k]⟩)) (hx : (x == ("__debug__" : Str)) = false) (hy : (y == ("__debug__" : Str)) = false) : TST w n N ρ (.Compare (.Name x p1) [.Eq] [.Name y p2] p3) (c == k) := by
  have := TST.cmp (w := w) (n := n) (N := N) (ρ := ρ) (pos := p3) (EV.name (pos := p1) hch hx) (EV.name (pos := p2) hS hy) op_eq_str
  have e : (([c] : List Nat) == [k]) = (c == k) := by simp
  have e' : ((⟨#[c]⟩ : Str).cps.toList == (⟨#[k]⟩ : Str).cps.toList) = (c == k) := e
  rw [e'] at this
  exact this
theorem blank_eq : (Str.ofString " ") = ⟨#[32]⟩ := by decide +kernel
theorem tab_eq : (Str.ofString "\t") = ⟨#[9]⟩ := by decide +kernel
theorem map_widen (b : Int) (l : List Int) : (widen b l).map PyData.int = if decide (b ≥ (l.length : Int)) = true then l.map PyData.int ++ (List.replicate (b - (l.length : Int) + 1).toNat [PyData.int 0]).flatten else l.map PyData.int := by
  unfold widen
  split
  · rw [List.map_append, List.map_flatten, List.map_replicate]; rfl
  · rfl
theorem flats_rep (m : Nat) : flats (List.replicate m [PyData.int 0]).flatten = true := by
  induction m with
  | zero => rfl
  | succ m ih => rw [List.replicate_succ, List.flatten_cons]; simp only [flats, List.all_append] at ih ⊢; rw [ih]; rfl
theorem rep_len' (m : Nat) : (List.replicate m [PyData.int 0]).flatten.length = m := by
  induction m with
  | zero => rfl
  | succ m ih => rw [List.replicate_succ, List.flatten_cons, List.length_append, ih]; simp; omega
theorem EnvRel.nil {env : Env} {h : Heap} {S : List Addr} : EnvRel [] env h S := fun _ _ e => by cases e
theorem EnvRel.put {ρ : Rho} {env : Env} {h : Heap} {S : List Addr} {y : Str} {d : Dat} {v : Value} (a : VarAt env h y v) (b : D (hideAll h S) v d) (r : EnvRel ρ env h S) : EnvRel ((y, d) :: ρ) env h S := fun x d' e => by
  rw [List.lookup_cons] at e
  cases q : x == y with
  | true => rw [q] at e; cases e; rw [show x = y by simpa using q]; exact ⟨v, a, b⟩
  | false => rw [q] at e; exact r x d' e
theorem white_of {h : Heap} {S S' : List Addr} {x dx : Addr} {AD : List (Str × Dat)} {W : WD} (hx : h.get? x = some (instObj 83 dx)) (xS : x ∉ S) (dS : dx ∉ S) (di : DictIs h S' dx AD) (sb : Sub (hideAll h S') (hideAll h S))
    (h1 : AD.lookup ("n" : Str) = some (I W.n)) (h2 : AD.lookup ("nt" : Str) = some (I W.nt)) (h3 : AD.lookup ("is_simple" : Str) = some (B W.simple)) (h4 : AD.lookup ("norm" : Str) = some (.py (normOf W))) (h5 : ∀ m ∈ wMethods, AD.lookup m = none) : D (hideAll h S) (.ref x) (.white W) := by
  obtain ⟨es, k, e1, _, e3⟩ := di
  obtain ⟨v1, a1, b1⟩ := (e3 "n").1 _ h1
  obtain ⟨v2, a2, b2⟩ := (e3 "nt").1 _ h2
  obtain ⟨v3, a3, b3⟩ := (e3 "is_simple").1 _ h3
  obtain ⟨v4, a4, b4⟩ := (e3 "norm").1 _ h4
  obtain ⟨t1, rfl⟩ := DP.int_inv b1
  obtain ⟨t2, rfl⟩ := DP.int_inv b2
  have b3' := DP.bool_inv b3
  subst b3'
  exact ⟨x, dx, es, k, rfl, hideAll_get _ hx xS, hideAll_get _ e1 dS, ⟨t1, a1⟩, ⟨t2, a2⟩, a3, ⟨v4, a4, DP.mono sb b4⟩, fun m hm => (e3 m).2 (h5 m hm)⟩
theorem sign_flat {t : Str} : ∀ (i : Nat) (d : Dat), ((signs t).map St)[i]? = some d → ∃ p : PyData, d = Dat.py p ∧ flat p = true := fun i d e => by
  rw [List.getElem?_map] at e
  cases q : (signs t)[i]? with
  | none => rw [q] at e; cases e
  | some z => rw [q] at e; cases e; exact ⟨_, rfl, rfl⟩
theorem sign_get {t : Str} {i : Nat} {c : Nat} (h : t.cps.toList[i]? = some c) : ((signs t).map St)[i]? = some (St ⟨#[c]⟩) := by simp [signs, h]

theorem fn_Whitespace {t : Str} {pre post : List Nat} {c : Nat} (ht : t.cps.toList = pre ++ c :: post) (hpre : ∀ z ∈ pre, z = 9 ∨ z = 32) (hc : c ≠ 9 ∧ c ≠ 32) (hlen : pre.length ≤ 200) : FNv w (n + 2) (.ref 83) [St t] (.white (wdOf pre)) := fun S A s vs hA lv g dd => by
  intro Q E K
  cases dd with | cons dv dd' => cases dd' with | nil =>
  obtain ⟨tt, rfl⟩ := DP.str_inv dv
  refine wpAny_call (make_raw lv g (by k_is) (by k_is) (by k_is) fun x dx h1 fx fd xd sb hx di lv1 gd xS dS => ?_)
  refine' call_raw (n := n) (s := { s with heap := h1 }) (ps := ["self", "ws"]) (ds := [.ref x, St t]) (ho := ?ho) (hcd := ?hcd) (hb := ?hb) (hl := rfl) (hnd := ?hnd) (hloc := ?hloc) (hcell := ?hcell) (hA := hA.under) (l := lv1) (g := gd) (dd := .cons rfl (.cons (DP.str _ _) .nil)) (h := ?h) (hco := ?hco) (hgen := ?hgen) (hk := ?hk)
  case ho => k_is
  case hcd => k_is
  case hb => rfl
  case hco => rfl
  case hgen => rfl
  case hk => rfl
  case hnd => decide
  case hloc => decide
  case hcell => decide
  case h =>
    intro env L h₀ tk C F sb2 fL
    generalize hAA : (A.under (.builtin "type.__call__" ⟨[.ref 83, .str t tt], []⟩)).deeper env = AA at C
    refine wpAny_abs fun QQ EE qq => ?_
    have s0 : Sub s.heap h₀ := sb.trans sb2
    have dxL : dx ≠ L := by obtain ⟨es, k, e, _⟩ := di; exact ne_of_get e fL
    have xL : x ≠ L := ne_of_get hx fL
    have dV : dx ∉ [L] := fun hm => dxL (List.mem_singleton.mp hm)
    have di0 : DictIs h₀ (L :: dx :: S) dx [] := di.mono (sub_fresh sb2 fL) fun o e => sb2 _ _ e
    refine wpAny_execs_cons (set_stmt (C := 83) (EV.name (x := "ws") (d := St t) (by rfl)) (by rfl) (by decide) (by k_is) (by k_is) (by k_is) (by k_is) (by rfl) (by simp) C F (.tail _ (.head _)) dV xd (sb2 _ _ hx) di0 fun h₁ t₁ _ k₁ F₁ C₁ x₁ d₁ => ?_)
    dsimp only at k₁
    have hLS : L ∉ S := fun hm => by obtain ⟨o, e⟩ := lv1 L (.tail _ hm); dsimp only at e fL; rw [fL] at e; cases e
    have less : ∀ h : Heap, Sub (hideAll h (L :: dx :: S)) (hideAll h (L :: S)) := fun h b o e => hideAll_get _ (of_hideAll _ e) fun hm => not_mem_of_hide e (by
      rcases List.mem_cons.mp hm with q | q
      · exact q ▸ .head _
      · exact .tail _ (.tail _ q))
    have xLS : x ∉ L :: S := fun hm => by
      rcases List.mem_cons.mp hm with q | q
      · exact xL q
      · exact xS q
    have dLS : dx ∉ L :: S := fun hm => by
      rcases List.mem_cons.mp hm with q | q
      · exact dxL q
      · exact dS q
    have half₁ : D (hideAll h₁ (L :: S)) (.ref x) (.half x dx t) := by
      obtain ⟨es, k, e1, _, e3⟩ := d₁
      obtain ⟨v, a, b⟩ := (e3 "raw").1 (St t) (by rfl)
      obtain ⟨u, rfl⟩ := DP.str_inv b
      exact ⟨rfl, hideAll_get _ x₁ xLS, es, k, hideAll_get _ e1 dLS, u, a⟩
    have C₁' : Cx w n _ [("self", .half x dx t)] env (L :: S) AA h₁ := ⟨C₁.env_ok, fun a ha => C₁.live a (by
        rcases List.mem_cons.mp ha with q | q
        · exact q ▸ .head _
        · exact .tail _ (.tail _ q)), C₁.good.mono (less h₁), by
        obtain ⟨v, a, b⟩ := C₁.vars "self" (.ref x) (by rfl)
        have b' : v = .ref x := b
        subst b'
        exact EnvRel.put a half₁ EnvRel.nil, C₁.room⟩
    have F₁' : FS _ env [L] [L] (L :: S) h₁ := F₁.bigger fun a ha => by rw [List.mem_singleton.mp ha]; exact .head _
    refine wpAny_execs_cons (EX1.swap2 (EV.tuple_disp (ds := [.str " ", .str "\t"]) (.more (EV.attr (EV.glob (nt_Whitespace (by rfl))) cls_S) (.more (EV.attr (EV.glob (nt_Whitespace (by rfl))) cls_T) .nil)) (by decide)) (.inl (by rfl)) (.inl (by rfl)) (fun _ => rfl) ?sw env [L] [L] (L :: S) AA { s with heap := h₁, toks := t₁ } C₁' F₁' _ _ fun fl h₂ t₂ k₂ F₂ r₂ => ?_)
    case sw =>
      intro env' O
      have bk : env'.blockKind = .function := by unfold Env.blockKind; rw [O.kind]; rfl
      have kf : env'.kindOf = fun x => List.lookup x _ := funext O.knd
      unfold swappedStores
      rw [bk, kf]
      rfl
    cases fl with
    | next =>
      have C₂ := C₁'.after F₁' k₂ F₂ r₂
      refine wpAny_execs_cons (own_run (c := "count") (s := { s with heap := h₂, toks := t₂ }) C₂ F₂ (.inl (by rfl)) fun h₃ t₃ L₃ => ?_)
      refine wpAny_execs_cons (EXL1.assign3 (s := { s with heap := h₃, toks := t₃ }) EV.const_int rfl (.inl (by rfl)) (.inl (by rfl)) (.inl (by rfl)) (by decide) (by decide) (by decide) (fun _ => rfl) (fun _ => rfl) env [L] [L] (L :: S) AA h₂ L₃ _ _ fun fl h₄ t₄ L₄ => ?_)
      cases fl with
      | next =>
        have L₄' : LS w n _ "count" (wR x dx t (scan [])) ((scan []).cnt.map PyData.int) env [L] [L] (L :: S) AA h₂ h₄ := LS.less L₄ (Rle.cons (by rfl) (Rle.cons (by rfl) (Rle.cons (by rfl) (Rle.cons (by rfl) (Rle.cons (by rfl) (Rle.cons (by rfl) Rle.nil))))))
        refine wpAny_execs_cons (EXL1.for_name (s := { s with heap := h₄, toks := t₄ }) (o := .next (("ch", St ⟨#[c]⟩) :: wR x dx t (scan pre)) ((scan pre).cnt.map PyData.int)) (fun O => EV.attr (EV.name (by rfl)) half_raw) iters_str (.inl (by rfl)) (by decide) sign_flat
          (fun i => wR x dx t (scan (pre.take i))) (fun i => (scan (pre.take i)).cnt.map PyData.int) pre.length (Rle.refl _) rfl ?_ (.inr ⟨St ⟨#[c]⟩, _, _, sign_get (by rw [ht]; simp), ?_, rfl⟩) (fun _ _ => rfl) env [L] [L] (L :: S) AA h₂ L₄' _ _ fun fl h₅ t₅ L₅ => ?_)
        · intro i d hi hd'
          have hg : t.cps.toList[i]? = some pre[i] := by rw [ht, List.getElem?_append_left hi]; exact List.getElem?_eq_getElem hi
          have : d = St ⟨#[pre[i]]⟩ := by have z := sign_get hg; rw [hd'] at z; cases z; rfl
          subst this
          have hstep : scan (pre.take (i + 1)) = scStep (scan (pre.take i)) pre[i] := by
            rw [List.take_add_one, List.getElem?_eq_getElem hi]; exact scan_snoc _ _
          have bd := scan_bounds i (pre.take i) (by rw [List.length_take]; omega)
          have hz := hpre pre[i] (List.getElem_mem hi)
          rw [hstep]
          generalize pre[i] = z at hz
          generalize scan (pre.take i) = sc at bd
          obtain ⟨b, nn, nt, cnt⟩ := sc
          dsimp only at bd
          have tS : ∀ (N : List (Str × NameKind)) (q : List PyData) p1 p2 p3, TST w n N (("count", Ls q) :: ("ch", St ⟨#[z]⟩) :: wR x dx t ⟨b, nn, nt, cnt⟩) (.Compare (.Name "ch" p1) [.Eq] [.Name "S" p2] p3) (z == 32) := fun N q p1 p2 p3 => tst_sign (by rfl) (by rw [← blank_eq]; rfl) (by decide) (by decide)
          have tT : ∀ (N : List (Str × NameKind)) (q : List PyData) p1 p2 p3, TST w n N (("count", Ls q) :: ("ch", St ⟨#[z]⟩) :: wR x dx t ⟨b, nn, nt, cnt⟩) (.Compare (.Name "ch" p1) [.Eq] [.Name "T" p2] p3) (z == 9) := fun N q p1 p2 p3 => tst_sign (by rfl) (by rw [← tab_eq]; rfl) (by decide) (by decide)
          by_cases z32 : z = 32
          · subst z32
            refine EXL.weak (EXL.one (EXL1.ite (b := true) (tS _ _ _ _ _) (fun _ => EXL.cons (EXL1.assign (EV.binop (EV.name (by rfl)) EV.const_int op_add_int) rfl (.inl (by rfl)) (by decide)) (EXL.one (EXL1.assign (EV.binop (EV.name (by rfl)) EV.const_int op_add_int) rfl (.inl (by rfl)) (by decide)))) (fun h => by cases h))) ?_
            exact Rle.cons (by rfl) (Rle.cons (by rfl) (Rle.cons (by rfl) (Rle.cons (by rfl) (Rle.cons (by rfl) (Rle.cons (by rfl) Rle.nil)))))
          · have z9 : z = 9 := by rcases hz with q | q; exact q; exact absurd q z32
            subst z9
            have wl := widen_len b cnt bd.1
            have fl := fn_len_list (w := w) (n := n) (xs := cnt.map PyData.int) (by rw [List.length_map]; omega)
            rw [List.length_map] at fl
            have hget : ((widen b cnt).map PyData.int)[b.toNat]? = some (.int ((widen b cnt).getD b.toNat 0)) := by
              rw [List.getElem?_map, List.getElem?_eq_getElem wl.1, List.getD_eq_getElem?_getD, List.getElem?_eq_getElem wl.1]; rfl
            have hset : ((widen b cnt).map PyData.int).set b.toNat (.int ((widen b cnt).getD b.toNat 0 + 1)) = (bump b (widen b cnt)).map PyData.int := by unfold bump; rw [List.map_set]
            show EXL w n _ "count" _ _ _ (.next (wR x dx t ⟨0, nn + 1, nt + 1, bump b (widen b cnt)⟩) ((bump b (widen b cnt)).map PyData.int))
            rw [← hset]
            refine EXL.weak (EXL.one (EXL1.ite (b := false) (tS _ _ _ _ _) (fun h => by cases h) (fun _ => EXL.one (EXL1.ite (b := true) (tT _ _ _ _ _) (fun _ =>
              EXL.cons (EXL1.assign (EV.binop (EV.name (by rfl)) EV.const_int op_add_int) rfl (.inl (by rfl)) (by decide))
              (EXL.cons (EXL1.assign (EV.binop (EV.name (by rfl)) EV.const_int op_add_int) rfl (.inl (by rfl)) (by decide))
              (EXL.cons (ρ' := ("nt", I (nt + 1)) :: ("n", I (nn + 1)) :: ("ch", St ⟨#[9]⟩) :: wR x dx t ⟨b, nn, nt, cnt⟩) (l' := (widen b cnt).map PyData.int) (EXL1.ite (b := decide (b ≥ (cnt.length : Int))) ?t1 (fun h => ?g1) (fun h => ?g2))
              (EXL.cons (EXL1.setitem (EV.binop (EV.item_list (EV.name (by rfl)) (EV.name (by rfl)) bd.1 (by omega) hget) EV.const_int op_add_int) rfl (EV.name (by rfl)) bd.1 (by omega) (by rw [List.length_map]; exact wl.1) (by decide))
              (EXL.one (EXL1.assign EV.const_int rfl (.inl (by rfl)) (by decide))))))) (fun h => by cases h))))) ?_
            case t1 =>
              exact TST.cmp (EV.name (by rfl)) (EV.call_builtin (nt_len (by rfl)) (.more (EV.name (by rfl)) .nil) (FNv.one fl)) op_ge_int
            case g1 =>
              rw [map_widen, if_pos h]
              have h' : b ≥ (cnt.length : Int) := by simpa using h
              refine EXL.one (EXL1.grow (EV.binop (EV.list_disp (ds := [.int 0]) (.more EV.const_int .nil) (by decide)) (EV.binop (EV.binop (EV.name (by rfl)) (EV.call_builtin (nt_len (by rfl)) (.more (EV.name (by rfl)) .nil) (FNv.one fl)) op_sub_int) EV.const_int op_add_int) (op_mul_list (by omega) (by omega) (by decide))) (flats_rep _) (by rw [List.length_map]; simp only [rep_len']; omega) (.inl (by rfl)) (by decide))
            case g2 =>
              rw [map_widen, if_neg (by rw [h]; decide)]
              exact EXL.nil
            exact Rle.cons (by rfl) (Rle.cons (by rfl) (Rle.cons (by rfl) (Rle.cons (by rfl) (Rle.cons (by rfl) (Rle.cons (by rfl) Rle.nil)))))
        · rw [List.take_length]
          have tS : ∀ (N : List (Str × NameKind)) (q : List PyData) p1 p2 p3, TST w n N (("count", Ls q) :: ("ch", St ⟨#[c]⟩) :: wR x dx t (scan pre)) (.Compare (.Name "ch" p1) [.Eq] [.Name "S" p2] p3) (c == 32) := fun N q p1 p2 p3 => tst_sign (by rfl) (by rw [← blank_eq]; rfl) (by decide) (by decide)
          have tT : ∀ (N : List (Str × NameKind)) (q : List PyData) p1 p2 p3, TST w n N (("count", Ls q) :: ("ch", St ⟨#[c]⟩) :: wR x dx t (scan pre)) (.Compare (.Name "ch" p1) [.Eq] [.Name "T" p2] p3) (c == 9) := fun N q p1 p2 p3 => tst_sign (by rfl) (by rw [← tab_eq]; rfl) (by decide) (by decide)
          have e1 : (c == 32) = false := by simpa using hc.2
          have e2 : (c == 9) = false := by simpa using hc.1
          refine EXL.brk (EXL1.ite (b := false) (e1 ▸ tS _ _ _ _ _) (fun h => by cases h) (fun _ => EXL.brk (EXL1.ite (b := false) (e2 ▸ tT _ _ _ _ _) (fun h => by cases h) (fun _ => EXL.brk EXL1.brk))))
        · cases fl with
          | next =>
            obtain ⟨O, vs, C₅, F₅, ⟨m0, e1⟩, hf, oV, oS, h0n, kk⟩ := L₅
            dsimp only at k₂
            have k₁₅ : Keep [L] h₁ h₅ := k₂.trans kk
            have dx₁ : ∃ o, h₁.get? dx = some o := by obtain ⟨es, k, e, _⟩ := d₁; exact ⟨_, e⟩
            have dx₂ : ∃ o, h₂.get? dx = some o := by obtain ⟨o, e⟩ := dx₁; exact ⟨o, k₂ _ _ dV e⟩
            have Odx : O ≠ dx := by obtain ⟨o, e⟩ := dx₂; exact (ne_of_get e h0n).symm
            have sb₅ : Sub (hideAll h₁ (L :: dx :: S)) (hideAll h₅ (L :: dx :: S)) := k₁₅.hide fun a ha => by rw [List.mem_singleton.mp ha]; exact .head _
            have OS : O ∉ L :: dx :: S := fun hm => by
              rcases List.mem_cons.mp hm with q | q
              · exact oS (q ▸ .head _)
              · rcases List.mem_cons.mp q with q | q
                · exact Odx q
                · exact oS (.tail _ q)
            have v1 := C₅.vars "count" (.ref O) (by rfl)
            have v2 := C₅.vars "b" (I (scan pre).b) (by rfl)
            have v3 := C₅.vars "n" (I (scan pre).n) (by rfl)
            have v4 := C₅.vars "nt" (I (scan pre).nt) (by rfl)
            have v5 := C₅.vars "self" (.half x dx t) (by rfl)
            obtain ⟨u1, a1, b1⟩ := v1
            obtain ⟨u2, a2, b2⟩ := v2
            obtain ⟨u3, a3, b3⟩ := v3
            obtain ⟨u4, a4, b4⟩ := v4
            obtain ⟨u5, a5, b5⟩ := v5
            have b1' : u1 = .ref O := b1
            have b5' : u5 = .ref x := b5.1
            subst b1' b5'
            have C₆ : Cx w n _ [("self", .ref x), ("count", Ls ((scan pre).cnt.map PyData.int)), ("b", I (scan pre).b), ("n", I (scan pre).n), ("nt", I (scan pre).nt)] env (L :: dx :: S) AA h₅ := ⟨C₅.env_ok, fun a ha => by
                rcases List.mem_cons.mp ha with q | q
                · rw [q]; exact C₅.live L (.tail _ (.head _))
                · rcases List.mem_cons.mp q with q | q
                  · rw [q]; obtain ⟨o, e⟩ := dx₁; exact ⟨o, k₁₅ _ _ dV e⟩
                  · exact C₅.live a (.tail _ (.tail _ q)), C₁.good.mono sb₅,
              EnvRel.put a5 rfl (EnvRel.put a1 (DP.list ⟨_, hideAll_get _ e1 OS, rfl, m0, rfl⟩ (hf _)) (EnvRel.put a2 (flat_DP rfl b2) (EnvRel.put a3 (flat_DP rfl b3) (EnvRel.put a4 (flat_DP rfl b4) EnvRel.nil)))), C₅.room⟩
            have F₆ : FS _ env [L] [L] (L :: dx :: S) h₅ := F₅.bigger fun a ha => by rw [List.mem_singleton.mp ha]; exact .head _
            have x₅ : h₅.get? x = some (instObj 83 dx) := k₁₅ _ _ (by simpa using xL) x₁
            have d₅ : DictIs h₅ (L :: dx :: S) dx [("raw", St t)] := d₁.mono sb₅ fun o e => k₁₅ _ _ dV e
            have bd := scan_bounds pre.length pre rfl
            refine wpAny_execs_cons (set_stmt (s := { s with heap := h₅, toks := t₅ }) (C := 83) (EV.name (d := I (scan pre).n) (by rfl)) (by rfl) (by decide) (by k_is) (by k_is) (by k_is) (by k_is) (by rfl) (by simp) C₆ F₆ (.tail _ (.head _)) dV xd x₅ d₅ fun h₆ t₆ _ k₆ F₇ C₇ x₆ d₆ => ?_)
            refine wpAny_execs_cons (set_stmt (s := { s with heap := h₆, toks := t₆ }) (C := 83) (EV.name (d := I (scan pre).nt) (by rfl)) (by rfl) (by decide) (by k_is) (by k_is) (by k_is) (by k_is) (by rfl) (by simp) C₇ F₇ (.tail _ (.head _)) dV xd x₆ d₆ fun h₇ t₇ _ k₇ F₈ C₈ x₇ d₇ => ?_)
            refine wpAny_execs_cons (set_stmt (s := { s with heap := h₇, toks := t₇ }) (C := 83) (EV.tuple_disp (ds := [.tuple ((scan pre).cnt.map PyData.int), .int (scan pre).b]) (.more (EV.call_type (nt_tuple (by rfl)) (.more (EV.name (by rfl)) .nil) (fn_tuple (by rw [List.length_map]; omega))) (.more (EV.name (by rfl)) .nil)) (by simp)) (by rfl) (by decide) (by k_is) (by k_is) (by k_is) (by k_is) (by rfl) (by simp) C₈ F₈ (.tail _ (.head _)) dV xd x₇ d₇ fun h₈ t₈ _ k₈ F₉ C₉ x₈ d₈ => ?_)
            have fl := fn_len_list (w := w) (n := n) (xs := (scan pre).cnt.map PyData.int) (by rw [List.length_map]; omega)
            rw [List.length_map] at fl
            refine wpAny_execs_cons (set_stmt (s := { s with heap := h₈, toks := t₈ }) (C := 83) (EV.cmp (EV.call_builtin (nt_len (by rfl)) (.more (EV.name (by rfl)) .nil) (FNv.one fl)) EV.const_int op_le_int) (by rfl) (by decide) (by k_is) (by k_is) (by k_is) (by k_is) (by rfl) (by simp) C₉ F₉ (.tail _ (.head _)) dV xd x₈ d₈ fun h₉ t₉ _ k₉ F₁₀ C₁₀ x₉ d₉ => ?_)
            refine wpAny_execs_nil (qq _ _ ⟨rfl, ?_⟩)
            have fd' : ∀ a ∈ [dx], s.heap.get? a = none := fun a ha => List.mem_singleton.mp ha ▸ fd
            have fL' : ∀ a ∈ [L], s.heap.get? a = none := fun a ha => by
              rw [List.mem_singleton.mp ha]
              cases z : s.heap.get? L with
              | none => rfl
              | some o => dsimp only at fL; rw [sb _ _ z] at fL; cases fL
            have sub9 : Sub s.heap h₉ := Keep.sub (Keep.sub (Keep.sub (Keep.sub (Keep.sub (Keep.sub s0 k₁ fd') k₁₅ fL') k₆ fd') k₇ fd') k₈ fd') k₉ fd'
            refine K _ h₉ t₉ sub9 (white_of x₉ xS dS d₉ (fun b o e => hideAll_get _ (of_hideAll _ e) fun hm => not_mem_of_hide e (.tail _ (.tail _ hm))) (by rfl) (by rfl) (by rfl) (by rfl) (fun m hm => by simp only [wMethods, List.mem_cons, List.not_mem_nil, or_false] at hm; rcases hm with rfl | rfl | rfl | rfl <;> rfl))
          | _ => exact L₅.elim
      | _ => exact L₄.elim
    | _ => exact r₂.elim
end
end RsLaw
end
section
open PySem PySem.Spec PySem.Calls PySem.W PyProof.Rows PySem.SeqAt
set_option maxRecDepth 100000
set_option linter.unusedVariables false
namespace RsLaw
open Builtin Builtin.Str
theorem append_cps (a b : Str) : (a ++ b).cps.toList = a.cps.toList ++ b.cps.toList := by
  show (a.cps ++ b.cps).toList = _
  rw [Array.toList_append]
noncomputable def lineOk (x : Str) : Bool := x.cps.toList.all (fun c => c == 9 || c == 32) && decide (x.cps.toList.length ≤ 90)
theorem lineOk_all {x : Str} (h : lineOk x = true) : ∀ z ∈ x.cps.toList, z = 9 ∨ z = 32 := fun z hz => by
  unfold lineOk at h
  rw [Bool.and_eq_true, List.all_eq_true] at h
  have := h.1 z hz
  simpa using this
theorem lineOk_len {x : Str} (h : lineOk x = true) : x.cps.toList.length ≤ 90 := by
  unfold lineOk at h
  rw [Bool.and_eq_true] at h
  simpa using h.2
theorem lineOk_length {x : Str} (h : lineOk x = true) : x.length ≤ 90 := by
  have := lineOk_len h
  rwa [Array.length_toList] at this
section
variable {w : World} {n : Nat} {N : List (Str × NameKind)} {ρ : Rho}
theorem keep_White : keepIn (hd.heap_39 w.params) (.ref 83) = true := by k_is
theorem fn_white {x : Str} (hx : lineOk x = true) : FNv w (n + 3) (.ref 169) [St x] (.white (wdOf x.cps.toList)) := by
  refine' FNv.of_def (ps := ["text"]) (ho := ?ho) (hcd := ?hcd) (hb := ?hb) (hl := rfl) (hnd := ?hnd) (hloc := ?hloc) (hcell := ?hcell) (h := ?h) (hco := ?hco) (hgen := ?hgen) (hk := ?hk)
  case ho => k_is
  case hcd => k_is
  case hb => intro vs hv; obtain ⟨a, rfl⟩ := vlen1 hv; rfl
  case hnd => decide
  case hloc => decide
  case hcell => decide
  case hco => rfl
  case hgen => rfl
  case hk => rfl
  case h =>
    have l3 : (Str.ofString "x\t ").length = 3 := by decide +kernel
    have hl := lineOk_length hx
    have c3 : (Str.ofString "x\t ").cps.toList = [120, 9, 32] := by decide +kernel
    refine EX.ret (EX1.ret (EV.call_own (nt_Whitespace (by rfl)) keep_White (.more (EV.binop (EV.name (by rfl)) EV.const_str (op_add_str (by rw [l3]; show _ ≤ 2 ^ 24; omega))) .nil) (fn_Whitespace (c := 120) (post := [9, 32]) (by rw [append_cps, c3]) (lineOk_all hx) (by decide) (by have := lineOk_len hx; omega))))

theorem iters_strs {l : List Str} : Iters w n (.py (strsP l)) (l.map St) := by
  have := iters_list (w := w) (n := n) (xs := l.map PyData.str)
  rw [List.map_map] at this
  exact this
noncomputable def agentP (u : Str) : Str := Txt.lower ((Txt.split u (Str.ofString "/")).getD 0 (Str.ofString ""))
noncomputable def appliesP (p u : Str) : Bool := Txt.contains (agentP u) (Txt.lower p)
noncomputable def appOk (p u : Str) : Bool := decide (u.length ≤ 1000) && decide ((Builtin.Str.partsBetween u (Builtin.Str.occurrences u (Str.ofString "/") 0 u.length (u.length + 1)) (Str.ofString "/").length).length ≤ 1000) && decide ((Txt.split u (Str.ofString "/")).length ≠ 0) &&
  decide ((agentP u).length ≤ 1000) && decide ((Txt.lower p).length ≤ 1000) && (p.cps.toList != (Str.ofString "*").cps.toList)
theorem notLong {k : Nat} (h : k ≤ 1000) : tooLong k = false := by unfold tooLong; simp [sizeLine]; omega
theorem fn_applies {p u : Str} (hok : appOk p u = true) : FNv w (n + 1) (.ref 115) [.entry [p], St u] (B (appliesP p u)) := by
  unfold appOk at hok
  simp only [Bool.and_eq_true, decide_eq_true_eq] at hok
  obtain ⟨⟨⟨⟨⟨h1, h2⟩, h3⟩, h4⟩, h5⟩, h6⟩ := hok
  refine' FNv.of_def (ps := ["self", "useragent"]) (ho := ?ho) (hcd := ?hcd) (hb := ?hb) (hl := rfl) (hnd := ?hnd) (hloc := ?hloc) (hcell := ?hcell) (h := ?h) (hco := ?hco) (hgen := ?hgen) (hk := ?hk)
  case ho => k_is
  case hcd => k_is
  case hb => intro vs hv; obtain ⟨a, b, rfl⟩ := vlen2 hv; rfl
  case hnd => decide
  case hloc => decide
  case hcell => decide
  case hco => rfl
  case hgen => rfl
  case hk => rfl
  case h =>
    refine EX.cons (EX1.ite (c := false) (TST.cmp (EV.name (by rfl)) EV.const_none op_is_none_str) (fun h => by cases h) (fun _ => EX.nil)) ?_
    have hg : ((Txt.split u (Str.ofString "/")).map PyData.str)[(0 : Int).toNat]? = some (.str ((Txt.split u (Str.ofString "/")).getD 0 (Str.ofString ""))) := by
      have hlt : 0 < (Txt.split u (Str.ofString "/")).length := Nat.pos_of_ne_zero h3
      show ((Txt.split u (Str.ofString "/")).map PyData.str)[0]? = _
      rw [List.getElem?_map, List.getElem?_eq_getElem hlt, List.getD_eq_getElem?_getD, List.getElem?_eq_getElem hlt]; rfl
    refine EX.cons (EX1.assign (EV.str_meth0 (EV.item_list (EV.str_meth1 (EV.name (by rfl)) EV.const_str (fn_split (by decide +kernel) (by show _ ≤ 2 ^ 24; omega) (by show _ ≤ 2 ^ 24; omega)) GM.split) EV.const_int (by decide) (by decide) hg) (fn_lower (notLong h4)) GM.lower) (.inl (by rfl))) ?_
    have tstar : ∀ (N : List (Str × NameKind)) (r : Rho) p1 k p2 p3, TST w n N (("agent", St p) :: r) (.Compare (.Name "agent" p1) [.NotEq] [.Constant (.str "*") k p2] p3) true := fun N r p1 k p2 p3 => by
      have := TST.cmp (w := w) (n := n) (N := N) (ρ := ("agent", St p) :: r) (pos := p3) (EV.name (x := "agent") (pos := p1) (by rfl)) (EV.const_str (x := "*") (k := k) (pos := p2)) op_ne_str
      rw [h6] at this
      exact this
    cases hc : appliesP p u with
    | true =>
      refine EX.ret (EX1.for_name (EV.attr (EV.name (by rfl)) entry_agents) iters_strs (.inl (by rfl)) (fun _ => [("useragent", St (agentP u))]) 0 (Rle.cons (by rfl) Rle.nil) (fun i d hi => by omega) (.inr (.inl ⟨St p, B true, rfl, ?_, rfl⟩)))
      refine EX.ret (EX1.ite (c := true) (tstar _ _ _ _ _ _) (fun _ => EX.cons (EX1.assign (EV.str_meth0 (EV.name (by rfl)) (fn_lower (notLong h5)) GM.lower) (.inl (by rfl))) (EX.ret (EX1.ite (c := true) ?_ (fun _ => EX.ret (EX1.ret EV.const_bool)) (fun h => by cases h)))) (fun h => by cases h))
      rw [← hc]
      exact TST.cmp (EV.name (by rfl)) (EV.name (by rfl)) op_in_str
    | false =>
      refine EX.cons (EX1.for_name (EV.attr (EV.name (by rfl)) entry_agents) iters_strs (.inl (by rfl)) (fun _ => [("useragent", St (agentP u))]) 1 (Rle.cons (by rfl) Rle.nil) (fun i d hi hd' => ?_) (.inl ⟨rfl, rfl⟩)) (EX.ret (EX1.ret EV.const_bool))
      have hi0 : i = 0 := by omega
      subst hi0
      have : d = St p := by cases hd'; rfl
      subst this
      refine EX.weak (EX.one (EX1.ite (c := true) (tstar _ _ _ _ _ _) (fun _ => EX.cons (EX1.assign (EV.str_meth0 (EV.name (by rfl)) (fn_lower (notLong h5)) GM.lower) (.inl (by rfl))) (EX.one (EX1.ite (c := false) ?_ (fun h => by cases h) (fun _ => EX.nil)))) (fun h => by cases h))) (Rle.cons (by rfl) Rle.nil)
      rw [← hc]
      exact TST.cmp (EV.name (by rfl)) (EV.name (by rfl)) op_in_str

theorem EV.or_bool {a b : Expr} {pos : Pos} {p q : Bool} (ha : EV w n N ρ a (B p)) (hb : EV w n N ρ b (B q)) : EV w n N ρ (.BoolOp .Or [a, b] pos) (B (p || q)) := fun env S A s C Q E K =>
  BoolOp_or (ha env S A s C _ E fun v h₁ t₁ s₁ r₁ => by
    rw [DP.bool_inv r₁]
    refine wpAny_truthy_bool ?_
    cases p with
    | true => exact K _ _ _ s₁ (DP.bool _)
    | false => exact BoolOp_one (hb env S A { s with heap := h₁, toks := t₁ } (C.mono s₁) Q E fun v h₂ t₂ s₂ r₂ => K v h₂ t₂ (s₁.trans s₂) r₂))

noncomputable def agreesOk (p line : Str) (V : WD) (due : Bool) : Bool :=
  lineOk p && lineOk line && decide (V.count.length < 100) && decide (V.b < 100) && decide (0 ≤ V.b) && shaped (normOf (wdOf p.cps.toList)) && shaped (normOf V) &&
  (lessP (wdOf p.cps.toList) V == due) && (PyData.eqv (normOf (wdOf p.cps.toList)) (normOf V) == (p.cps.toList == line.cps.toList)) &&
  decide ((Txt.slice line none (some (-1))).length ≤ 100) && decide ((Txt.partition line (Str.ofString "\t")).2.2.length ≤ 100) &&
  appOk p (Txt.slice line none (some (-1)) ++ Str.ofString "/" ++ line) && appOk p ((Txt.partition line (Str.ofString "\t")).2.2 ++ Str.ofString "/" ++ line) &&
  ((appliesP p (Txt.slice line none (some (-1)) ++ Str.ofString "/" ++ line) || appliesP p ((Txt.partition line (Str.ofString "\t")).2.2 ++ Str.ofString "/" ++ line)) == due)
theorem nt_white (hx : N.lookup ("_law_white" : Str) = some .globalImplicit) : NameTo w N "_law_white" (.ref 169) := NameTo.global hx (by k_is)
theorem nt_record (hx : N.lookup ("_law_record" : Str) = some .globalImplicit) : NameTo w N "_law_record" (.ref 162) := NameTo.global hx (by k_is)
theorem kp_white : keepIn (hd.heap_39 w.params) (.ref 169) = true := by k_is
theorem kp_record : keepIn (hd.heap_39 w.params) (.ref 162) = true := by k_is
theorem fn_agrees {p line : Str} {V : WD} {due : Bool} (hok : agreesOk p line V due = true) : FNv w (n + 4) (.ref 183) [St p, St line, .white V, B due] (B true) := by
  unfold agreesOk at hok
  simp only [Bool.and_eq_true, decide_eq_true_eq, beq_iff_eq] at hok
  obtain ⟨⟨⟨⟨⟨⟨⟨⟨⟨⟨⟨⟨⟨h1, h2⟩, h3⟩, h4⟩, h5⟩, h6⟩, h7⟩, h8⟩, h9⟩, h10⟩, h11⟩, h12⟩, h13⟩, h14⟩ := hok
  have bd := scan_bounds p.cps.toList.length p.cps.toList rfl
  have l1 := lineOk_len h1
  have l2 := lineOk_length h2
  have ls : (Str.ofString "/").length = 1 := by decide +kernel
  refine' FNv.of_def (ps := ["piece", "line", "whole", "due"]) (ho := ?ho) (hcd := ?hcd) (hb := ?hb) (hl := rfl) (hnd := ?hnd) (hloc := ?hloc) (hcell := ?hcell) (h := ?h) (hco := ?hco) (hgen := ?hgen) (hk := ?hk)
  case ho => k_is
  case hcd => k_is
  case hb => intro vs hv; obtain ⟨a, b, c, d, rfl⟩ := vlen4 hv; rfl
  case hnd => decide
  case hloc => decide
  case hcell => decide
  case hco => rfl
  case hgen => rfl
  case hk => rfl
  case h =>
    refine EX.cons (EX1.assign (EV.call_own (nt_white (by rfl)) kp_white (.more (EV.name (by rfl)) .nil) (fn_white (n := n) h1)) (.inl (by rfl))) ?_
    refine EX.cons (EX1.ite (c := (lessP (wdOf p.cps.toList) V != due) || (PyData.eqv (normOf (wdOf p.cps.toList)) (normOf V) != (p.cps.toList == line.cps.toList))) (TST.or (TST.cmp (EV.meth (C := 83) (f := 73) (EV.name (by rfl)) (.more (EV.name (by rfl)) .nil) (fn_less (n := n + 1) (by show (scan _).cnt.length < 100; omega) h3 (by show (scan _).b < 100; omega) h4 bd.1 h5) (white_inst (by decide)) (by k_is) (by k_is) (by k_is) (by k_is)) (EV.name (by rfl)) op_isnot_bool)
      (fun _ => TST.cmp (EV.meth (C := 83) (f := 59) (EV.name (by rfl)) (.more (EV.name (by rfl)) .nil) (fn_equal (n := n + 2) h6 h7) (white_inst (by decide)) (by k_is) (by k_is) (by k_is) (by k_is)) (EV.cmp (EV.name (by rfl)) (EV.name (by rfl)) op_eq_str) op_isnot_bool)) (fun h => ?_) (fun _ => EX.nil)) ?_
    · rw [h8, h9] at h; simp at h
    refine EX.cons (EX1.assign (EV.call_own (nt_record (by rfl)) kp_record (.more (EV.list_disp (ds := [.str p]) (.more (EV.name (by rfl)) .nil) (by simp)) .nil) (fn_record (n := n) (l := [p]) (by simp))) (.inl (by rfl))) ?_
    have sz : ∀ a : Str, a.length ≤ 100 → a.length + (Str.ofString "/").length ≤ sizeLine ∧ (a ++ Str.ofString "/").length + line.length ≤ sizeLine := fun a ha => by
      have e : (a ++ Str.ofString "/").length = a.length + (Str.ofString "/").length := by show (a.cps ++ _).size = _; rw [Array.size_append]; rfl
      rw [e, ls]
      show _ ≤ 2 ^ 24 ∧ _ ≤ 2 ^ 24
      omega
    refine EX.cons (EX1.assign (EV.meth (C := 125) (f := 115) (EV.name (by rfl)) (.more (EV.binop (EV.binop (EV.slice_str (EV.name (by rfl)) .none (.some (EV.neg EV.const_int)) (by show _ ≤ 2 ^ 24; omega)) EV.const_str (op_add_str (sz _ h10).1)) (EV.name (by rfl)) (op_add_str (sz _ h10).2)) .nil) (fn_applies (n := n + 2) h12) entry_inst (by k_is) (by k_is) (by k_is) (by k_is)) (.inl (by rfl))) ?_
    refine EX.cons (EX1.assign (EV.meth (C := 125) (f := 115) (EV.name (by rfl)) (.more (EV.binop (EV.binop (EV.item_tuple (EV.str_meth1 (EV.name (by rfl)) EV.const_str (fn_partition (by decide +kernel) (by show _ ≤ 2 ^ 24; omega)) GM.partition) EV.const_int (by decide) (by decide) (by rfl)) EV.const_str (op_add_str (sz _ h11).1)) (EV.name (by rfl)) (op_add_str (sz _ h11).2)) .nil) (fn_applies (n := n + 2) h13) entry_inst (by k_is) (by k_is) (by k_is) (by k_is)) (.inl (by rfl))) ?_
    refine EX.ret (EX1.ret ?_)
    have e : (B true : Dat) = B ((appliesP p (Txt.slice line none (some (-1)) ++ Str.ofString "/" ++ line) || appliesP p ((Txt.partition line (Str.ofString "\t")).2.2 ++ Str.ofString "/" ++ line)) == due) := by rw [h14, beq_self_eq_true]
    rw [e]
    exact EV.cmp (EV.or_bool (EV.name (by rfl)) (EV.name (by rfl))) (EV.name (by rfl)) op_is_bool
end
end RsLaw
end
section
open PySem PySem.Spec PySem.Calls PySem.W PyProof.Rows PySem.SeqAt
set_option maxRecDepth 100000
set_option linter.unusedVariables false
namespace RsLaw
noncomputable def preS (l : List Str) (i : Nat) (k : Str) : Bool := (l.take i).any fun z => decide (k = z)
theorem preS_succ {l : List Str} {i : Nat} {v : Str} (h : l[i]? = some v) (k : Str) : preS l (i + 1) k = (preS l i k || decide (k = v)) := by
  unfold preS
  rw [List.take_add_one, h, List.any_append]
  simp
section
variable {w : World} {A : Around} {R : Result → Shared → Prop} {I : Addr} {fp wr : List Addr} {G : Array GenState → Array GenState → Prop} {n : Nat} {P : Nat → Value → Prop} {St : Nat → Shared → Prop}
theorem set_loop (W : WalksS PR w A.in1 I fp wr G n P St) (S : Addr) (hSf : S ∉ fp) (l : List Str) (hval : ∀ i v, P i v → ∃ x t, l[i]? = some x ∧ v = .str x t) (hb : n + 1 < scanBound) :
    ∀ (k i : Nat) (s : Shared), n - i = k → i ≤ n → St i s →
      (∃ m, m ≤ i ∧ s.heap.SetOf (strKind PR w) S (preS l i) m) →
      (∀ s', Moved (S :: wr) G s s' → (∃ m, m ≤ n ∧ s'.heap.SetOf (strKind PR w) S (preS l n) m) → R (.ok (.ret .none)) s') →
      codeAny (model PR w) A (.builtin "set.update.loop" ⟨[.ref S, .ref I], []⟩) R s := by
  have hSw : S ∉ wr := fun h => hSf (W.sub _ h)
  have hsub : ∀ b ∈ wr, b ∈ S :: wr := fun b hb => List.mem_cons_of_mem _ hb
  intro k
  induction k with
  | zero =>
    intro i s hk hi hst hS hR
    have hin : i = n := by omega
    subst hin
    refine codeAny_builtin F.entry_set_update_loop ?_
    rw [Around.under_plainId F.plain_set_update_loop _]
    show wpAny _ A.in1 (pyNext (.ref I) >>= _) _ _ s
    refine wpAny_bind (W.done s _ _ hst fun s' hm => ?_)
    show wpAny _ A.in1 (ret Value.none) _ _ s'
    exact wpAny_pure (hR s' (hm.mono hsub) (by
      obtain ⟨m, hm', o, es, ep, t, ho, rest⟩ := hS
      exact ⟨m, hm', o, es, ep, t, hm.heap S _ hSw ho, rest⟩))
  | succ k ih =>
    intro i s hk hi hst hS hR
    have hlt : i < n := by omega
    refine codeAny_builtin F.entry_set_update_loop ?_
    rw [Around.under_plainId F.plain_set_update_loop _]
    show wpAny _ A.in1 (pyNext (.ref I) >>= _) _ _ s
    refine wpAny_bind (W.item i s _ _ hlt hst fun v s' hP hst' hm => ?_)
    obtain ⟨x, t, hx, rfl⟩ := hval i v hP
    obtain ⟨m, hmi, hS⟩ := hS
    have hS' : s'.heap.SetOf (strKind PR w) S (preS l i) m := by
      obtain ⟨o, es, ep, tb, ho, rest⟩ := hS
      exact ⟨o, es, ep, tb, hm.heap S _ hSw ho, rest⟩
    have his : (strKind PR w).is x (.str x t) = true := by show Value.isStrOf x (.str x t) = true; simp [Value.isStrOf]
    show wpAny _ A.in1 (holding [Value.str x t] (setAdd S (.str x t)) >>= _) _ _ s'
    refine wpAny_bind (wpAny_holding ?_)
    unfold setAdd
    refine wpAny_holding ?_
    refine wpAny_bind ((strKind PR w).pyHash (k := x) his ?_)
    refine wpAny_setAddHashed_of (knd := strKind PR w) (s := { s' with toks := s'.toks + 1 }) his rfl hS' (by omega) fun h' hsb hS2 => ?_
    refine wpAny_pure ⟨plainId_quiet F.plain_set_update_loop _, ih (i + 1) _ (by omega) hlt (W.frame _ s' _ _ hst' (Nat.le_succ _) fun b hb o e => ?_) ⟨(if preS l i x = true then m else m + 1), by split <;> omega, SetOf_congr hS2 (fun k' => by rw [preS_succ hx]) rfl⟩ fun s'' hm'' hS'' => ?_⟩
    · rw [hsb.2 b (fun h : b = S => hSf (by rw [← h]; exact hb))]; exact e
    · refine hR s'' (Moved.trans W.gtrans ((hm.mono hsub).then_heap (Nat.le_succ _) fun b o hb e => ?_) hm'') hS''
      rw [hsb.2 b (fun h : b = S => hb (by rw [h]; exact List.mem_cons_self))]; exact e
end
theorem strs_at : ∀ {vs : List Value} {ss : List Str}, StrsAre vs ss → ∀ (i : Nat) (v : Value), vs[i]? = some v → ∃ x t, ss[i]? = some x ∧ v = .str x t
  | _, _, .nil, i, v, h => by simp at h
  | _, _, .cons x t r, 0, v, h => by simp at h; exact ⟨x, t, rfl, h.symm⟩
  | _, _, .cons x t r, i + 1, v, h => by simp only [List.getElem?_cons_succ] at h ⊢; exact strs_at r i v h
section
variable {w : World} {A : Around} {E : Value → Shared → Prop} {s : Shared}
set_option maxHeartbeats 3200000 in
theorem call_set_strs {l : Addr} {items : Array Value} {ss : List Str} {Q : Value → Shared → Prop}
    (hh : A.handled = none) (hl : s.heap.IsList l items) (hi : StrsAre items.toList ss) (hb : items.size + 1 < scanBound)
    (h : ∀ (h' : Heap) (tk : Nat) m, h'.SetOf (strKind PR w) s.heap.objs.size (preS ss items.size) m →
      (∀ b o, b < s.heap.objs.size → s.heap.get? b = some o → h'.get? b = some o) → Q (.ref s.heap.objs.size) { s with heap := h', toks := tk }) :
    wpAny (model PR w) A (call (.type "set") [.ref l]) Q E s := by
  obtain ⟨c, tl, hmro⟩ := PySem.F.called_set.mro
  have hmade := PySem.F.called_set.made
  have hsub := PySem.F.called_set.sub
  refine wpAny_call (codeAny_of_tree ?_)
  show wpAny _ _ (callAny (.type "set") _) _ _ _
  refine wpAny_pure ⟨Code.quiet_builtin _ (by decide +kernel), codeAny_builtin PySem.F.entry_type_call ?_⟩
  rw [Around.under_plain (weight_type_call_type "set" [.ref l] []) rfl]
  have h1 := PySem.F.called_set.notType
  have h2 := PySem.F.called_set.canCreate
  have hct := PySem.F.typeCall_set_1 (.ref l)
  repeat (any_goals (first | assumption | wp_step))
  refine codeAny_mono (code_set_new_1 (.ref l) (E := E) (Q₁ := fun obj s₁ => ∃ led : Bool, obj = .ref s.heap.objs.size ∧ s₁ = { s with heap := s.heap.push { cls := .type "set", dict := none, data := .set #[] 0 (.fresh 0 0 led) } }) fun led => ⟨led, rfl, rfl⟩) fun r s₁ hr => ?_
  cases r with
  | error e => exact hr
  | ok fl =>
    cases fl with
    | ret obj =>
      obtain ⟨led, rfl, rfl⟩ := hr
      have hS : (s.heap.push { cls := .type "set", dict := none, data := .set #[] 0 (.fresh 0 0 led) }).get? s.heap.objs.size = some { cls := .type "set", dict := none, data := .set #[] 0 (.fresh 0 0 led) } := Heap.get?_push_size _ rfl
      have hT : Shared.TypeIs { s with heap := s.heap.push { cls := .type "set", dict := none, data := .set #[] 0 (.fresh 0 0 led) } } (.ref s.heap.objs.size) "set" := ⟨_, hS, rfl⟩
      have hli := PySem.F.called_set.init.lookup
      have hbi := PySem.F.called_set.init.bind (.ref s.heap.objs.size)
      repeat (any_goals (first | assumption | wp_step))
      refine codeAny_mono (codeAny_call_builtin (R := wants (fun r s₂ => r = .none ∧ ∃ h' tk m, s₂ = { s with heap := h', toks := tk } ∧
          h'.SetOf (strKind PR w) s.heap.objs.size (preS ss items.size) m ∧
          (∀ b o, b < s.heap.objs.size → s.heap.get? b = some o → h'.get? b = some o)) E) PySem.F.called_set.init.plain PySem.F.entry_set_init (check_set_init_1 hT ?_)) fun r₂ s₂ hr₂ => ?_
      · obtain ⟨ol, hol, hcl, nl, hdl⟩ := hl
        obtain ⟨ocls, odict, odata, oslots⟩ := ol
        simp only at hcl hdl
        subst hcl; subst hdl
        have hol' : (s.heap.push { cls := .type "set", dict := none, data := .set #[] 0 (.fresh 0 0 led) }).get? l = some { cls := .type "list", dict := odict, data := .seq items nl, slots := oslots } := Heap.get?_push_of_some _ hol
        have hsls := PySem.F.sub_list_set
        have hslf := PySem.F.sub_list_frozenset
        have hne : (Value.type "list" == Value.type "dict") = false := by decide
        have hl1 : (s.heap.push { cls := .type "set", dict := none, data := .set #[] 0 (.fresh 0 0 led) }).IsList l items := ⟨_, hol', rfl, nl, rfl⟩
        unfold Builtin.«set.__init__» noKeywords Builtin.Frozenset.updateFrom
        generalize hPI : pyIter = PI
        wp_walk
        subst hPI
        refine wpAny_pyIter_list hl1 ?_
        refine wpAny_bind (wpAny_runValue ?_)
        have hlS : l < s.heap.objs.size := Heap.lt_size hol
        have hh3 : A.in1.in1.in1.handled = none := by simp [hh]
        have hneI : l ≠ (s.heap.push { cls := .type "set", dict := none, data := .set #[] 0 (.fresh 0 0 led) }).objs.size := by
          rw [Heap.size_push]; exact Nat.ne_of_lt (Nat.lt_succ_of_lt hlS)
        have hSf : s.heap.objs.size ∉ [(s.heap.push { cls := .type "set", dict := none, data := .set #[] 0 (.fresh 0 0 led) }).objs.size, l] := by
          rw [Heap.size_push]; simp only [List.mem_cons, List.mem_singleton, List.not_mem_nil, or_false, not_or]
          exact ⟨Nat.ne_of_lt (Nat.lt_succ_self _), Nat.ne_of_gt hlS⟩
        have hval : ∀ (i : Nat) (v : Value), items[i]? = some v → ∃ x t, ss[i]? = some x ∧ v = .str x t := fun i v hv =>
          strs_at hi i v (by rw [Array.getElem?_toList]; exact hv)
        refine set_loop ((Walks.list hh3 _ l hneI items).toS) s.heap.objs.size
          hSf ss hval hb (items.size - 0) 0 _ (by omega) (Nat.zero_le _)
          ⟨⟨_, Heap.get?_push_size _ rfl, rfl, rfl⟩, (hl1.push _)⟩ ?hS0 ?hR
        case hS0 =>
          have hget : ((s.heap.push { cls := .type "set", dict := none, data := .set #[] 0 (.fresh 0 0 led) }).push { cls := .type "list_iterator", data := .fields #[.ref l, .int 0 0] }).get? s.heap.objs.size
              = some { cls := .type "set", dict := none, data := .set #[] 0 (.fresh 0 0 led) } := Heap.get?_push_of_some _ hS
          exact ⟨0, Nat.le_refl _, SetOf_congr ((setObjOf_fresh (knd := strKind PR w) led).setOf hget (by unfold scanBound; omega)) (fun _ => rfl) rfl⟩
        case hR =>
          intro s' hm hS'
          obtain ⟨h', g', d', tk', os'⟩ := s'
          have eg : g' = s.gens := hm.gens
          have ed : d' = s.drawn := hm.drawn
          have eo : os' = s.os := hm.os
          subst eg; subst ed; subst eo
          obtain ⟨m, _, hS'⟩ := hS'
          show wpAny _ _ _ _ _ _
          refine wpAny_pure ?_
          show wpAny _ _ (ret Value.none) _ _ _
          refine wpAny_pure ⟨rfl, h', tk', m, rfl, hS', fun b o hb e => ?_⟩
          have hb1 : b ≠ s.heap.objs.size := Nat.ne_of_lt hb
          have hb2 : b ≠ (s.heap.push { cls := .type "set", dict := none, data := .set #[] 0 (.fresh 0 0 led) }).objs.size := by
            rw [Heap.size_push]; exact Nat.ne_of_lt (Nat.lt_succ_of_lt hb)
          exact hm.heap b o (by simp only [List.mem_cons, List.mem_singleton, List.not_mem_nil, or_false, not_or]; exact ⟨hb1, hb2⟩) (Heap.get?_push_of_some _ (Heap.get?_push_of_some _ e))
      · cases r₂ with
        | error e => exact hr₂
        | ok fl₂ =>
          cases fl₂ with
          | ret r =>
            obtain ⟨rfl, h', tk, m, rfl, hS', hk'⟩ := hr₂
            repeat (any_goals (first | assumption | wp_step))
            exact h _ _ _ hS' hk'
          | _ => exact hr₂.elim
    | _ => exact hr.elim
end
end RsLaw
end
section
open PySem PySem.Spec PySem.Calls PySem.W PyProof.Rows PySem.SeqAt
set_option maxRecDepth 100000
set_option linter.unusedVariables false
namespace RsLaw
noncomputable abbrev bnd (a : Addr) : Obj := { cls := .type "builtin_function_or_method", data := .fields #[.builtin "set.__contains__", .ref a] }
theorem md_get_lookup : typeLookup (.type "method_descriptor") "__get__" = pure (some (.builtin "method_descriptor.__get__")) := by rw [typeLookup_type, builtinLookup_eq_fast]; kernel_rfl
theorem md_set_lookup : typeLookup (.type "method_descriptor") "__set__" = pure none := by rw [typeLookup_type, builtinLookup_eq_fast]; kernel_rfl
theorem md_del_lookup : typeLookup (.type "method_descriptor") "__delete__" = pure none := by rw [typeLookup_type, builtinLookup_eq_fast]; kernel_rfl
theorem slot_md_get : Slot "method_descriptor" "__get__" "method_descriptor.__get__" :=
  .of (owner := "method_descriptor") (n := "__get__") (by rw [typeLookup_type, builtinLookup_eq_fast]; kernel_rfl) (by decide +kernel) (by decide +kernel) (by decide +kernel)
    (by first | exact .inl (by decide +kernel) | exact .inr (by decide +kernel)) (by rw [isSubtype_type]; kernel_rfl)
theorem entry_md_get : entryFor table "method_descriptor.__get__" = some Builtin.«method_descriptor.__get__» := entryFor_of_tree (by kernel_rfl)
theorem args_md_get (a b c : Value) : argsOk "method_descriptor.__get__" ⟨[a, b, c], []⟩ := by unfold argsOk; kernel_rfl
theorem sub_set_own : isSubtype (.type "set") (.type (".".intercalate ("set.__contains__".cutAt '.').dropLast)) = pure true := by
  rw [show (".".intercalate ("set.__contains__".cutAt '.').dropLast) = "set" by decide +kernel, isSubtype_type]; kernel_rfl
section
variable {w : World} {A : Around} {E : Value → Shared → Prop} {h : Heap} {g : Array GenState} {d : Drawn} {t : Nat} {os : OsState} {a : Addr} {o : Obj}
theorem contains_run {P : Fin → Shared → Prop} (hx : h.get? a = some o) (hc : o.cls = .type "set") (hq : P (.done (.ret (.ref h.objs.size))) ⟨h.push (bnd a), g, d, t, os⟩) :
    wpAny (model PR w) A (Builtin.«method_descriptor.__get__» ⟨[.builtin "set.__contains__", .ref a, .type "set"], []⟩) P E ⟨h, g, d, t, os⟩ := by
  have hT : (⟨h, g, d, t, os⟩ : Shared).TypeIs (.ref a) "set" := ⟨_, hx, hc⟩
  unfold Builtin.«method_descriptor.__get__»
  refine wpAny_bind (wpAny_of_eq (a := (.builtin "set.__contains__", some (.ref a), some (.type "set"))) (by first | rfl | kernel_rfl) ?_)
  refine KFB.if_not (by decide +kernel) ?_
  have f1 := sub_set_own
  repeat (any_goals (first | assumption | wp_step))

theorem contains_get {R : Result → Shared → Prop} (hx : h.get? a = some o) (hc : o.cls = .type "set") (hq : R (.ok (.ret (.ref h.objs.size))) ⟨h.push (bnd a), g, d, t, os⟩) :
    codeAny (model PR w) A (.call (.builtin "method_descriptor.__get__") ⟨[.builtin "set.__contains__", .ref a, .type "set"], []⟩) R ⟨h, g, d, t, os⟩ :=
  codeAny_call_builtin slot_md_get.plain entry_md_get (slot_md_get.check _ _ _ _ _ _ _ _ (show (⟨h, g, d, t, os⟩ : Shared).TypeIs (.builtin "set.__contains__") "method_descriptor" from PySem.F.type_set_contains) (args_md_get _ _ _) (contains_run hx hc hq))

theorem contains_entry {tk : Tok} {Q : Fin → Shared → Prop} (hx : h.get? a = some o) (hc : o.cls = .type "set") (hd' : o.dict = none) (hdat : ∃ es ep tb, o.data = .set es ep tb) (hq : Q (.done (.ret (.ref h.objs.size))) ⟨h.push (bnd a), g, d, t, os⟩) :
    wpAny (model PR w) A (Builtin.«object.__getattribute__» ⟨[.ref a, .str "__contains__" tk], []⟩) Q E ⟨h, g, d, t, os⟩ := by
  obtain ⟨c, dct, dat, sl⟩ := o
  obtain ⟨es, ep, tb, hdat⟩ := hdat
  simp only at hc hd' hdat
  subst hc hd' hdat
  have hT : (⟨h, g, d, t, os⟩ : Shared).TypeIs (.ref a) "set" := ⟨_, hx, rfl⟩
  have hT5 : (⟨h, g, d, t, os⟩ : Shared).TypeIs (.builtin "set.__contains__") "method_descriptor" := PySem.F.type_set_contains
  have f4 := PySem.F.slot_set_contains.lookup
  have f5 := PySem.F.type_set_contains
  have f6 := md_get_lookup
  have f7 := md_set_lookup
  have f8 := md_del_lookup
  repeat (any_goals (first | assumption | wp_step))
  refine contains_get hx rfl ?_
  repeat (any_goals (first | assumption | wp_step))
theorem contains_attr {Q : Value → Shared → Prop} (hx : h.get? a = some o) (hc : o.cls = .type "set") (hd' : o.dict = none) (hdat : ∃ es ep tb, o.data = .set es ep tb) (hq : Q (.ref h.objs.size) ⟨h.push (bnd a), g, d, t + 1, os⟩) :
    wpAny (model PR w) A (getAttr (.ref a) "__contains__" true) Q E ⟨h, g, d, t, os⟩ := by
  obtain ⟨c, dct, dat, sl⟩ := o
  simp only at hc hd'
  subst hc hd'
  have hc : (⟨.type "set", none, dat, sl⟩ : Obj).cls = .type "set" := rfl
  have hT : ∀ tk', (⟨h, g, d, tk', os⟩ : Shared).TypeIs (.ref a) "set" := fun _ => ⟨_, hx, rfl⟩
  have f3 := PySem.F.slot_set_getattribute.lookup
  have f4 := PySem.F.slot_set_getattribute.bind (.ref a)
  unfold getAttr getAttrBy
  repeat (any_goals (first | assumption | exact hT _ | wp_step))
  refine codeAny_call_builtin PySem.F.slot_set_getattribute.plain PySem.F.entry_set_ga (PySem.F.slot_set_getattribute.check _ _ _ _ _ _ _ _ (hT _) (PySem.F.args_set_getattribute_2 _ _) (contains_entry hx rfl rfl hdat ?_))
  repeat (any_goals (first | assumption | wp_step))
theorem sig_contains : Manifest.signature? "set.__contains__" = some ⟨.oneArg, "set.__contains__", "__contains__", .self, [⟨"object", .posOnly, true⟩]⟩ := by
  rw [signature?_of (id := "set.__contains__") (n := ['_', '_', 's', 'n', 'i', 'a', 't', 'n', 'o', 'c', '_', '_']) (o := ['t', 'e', 's']) (by kernel_rfl) PySem.F.owner_set]; kernel_rfl
theorem kind_contains : builtinKind "set.__contains__" = some .method := by kernel_rfl
theorem sub_set_module : isSubtype (.type "set") (.type "module") = pure false := by rw [isSubtype_type]; kernel_rfl
theorem sub_set_type : isSubtype (.type "set") (.type "type") = pure false := by rw [isSubtype_type]; kernel_rfl
theorem bound_contains {M : Model} {s : Shared} {v : Value} {Q : Unit → Shared → Prop} (hT : s.TypeIs (.ref a) "set") (hx : s.heap.get? a = some o) (hdat : ∃ es ep tb, o.data = .set es ep tb) (hq : Q () s) : wpAny M A (checkBoundCall "set.__contains__" ⟨[.ref a, v], []⟩) Q E s := by
  unfold checkBoundCall
  rw [sig_contains, kind_contains]
  dsimp only
  have f1 := sub_set_module
  have f2 := sub_set_type
  refine KFB.if_not (by decide) ?_
  refine wpAny_bind (wpAny_isInstance hT sub_set_module ?_)
  refine KFB.if_not (by decide +kernel) ?_
  refine wpAny_bind ?_
  unfold isType
  obtain ⟨es, ep, tb, hdat⟩ := hdat
  refine wpAny_bind (wpAny_loadPart hx (wpAny_pure ?_))
  rw [hdat]
  refine KFB.if_not rfl ?_
  refine wpAny_bind (wpAny_typeOf hT ?_)
  show wpAny M A (Bind.checkArgs "set.__contains__" _ ⟨[.ref a, v], []⟩) Q E s
  exact wpAny_of_eq (a := ()) (by kernel_rfl) hq
theorem quiet_contains {as : Args} : (Code.builtin "set.__contains__" as).quiet = true := Code.quiet_builtin _ (by decide +kernel)
theorem call_bnd {s : Shared} {x : Addr} {S : Str → Bool} {m : Nat} {k : Str} {u : Tok} {Q : Value → Shared → Prop} (ho : s.heap.get? x = some (bnd a)) (hS : s.heap.SetOf (strKind PR w) a S m)
    (hq : Q (.bool (S k)) { s with toks := s.toks + 1 }) : wpAny (model PR w) A (call (.ref x) [.str k u]) Q E s := by
  have his : (strKind PR w).is k (.str k u) = true := by show Value.isStrOf k (.str k u) = true; simp [Value.isStrOf]
  obtain ⟨oS, esS, epS, tS, hoS, _, hdS, _⟩ := id hS
  refine wpAny_call (codeAny_of_tree ?_)
  show wpAny _ A.in1 (callAny (.ref x) ⟨[.str k u], []⟩) _ _ s
  simp only [callAny]
  refine wpAny_bind (wpAny_load ho ?_)
  show wpAny _ A.in1 (checkBoundCall "set.__contains__" ⟨[.ref a, .str k u], []⟩ >>= fun _ => again (.builtin "set.__contains__" ⟨[.ref a, .str k u], []⟩)) _ _ s
  refine wpAny_bind (bound_contains hS.typeIs hoS ⟨_, _, _, hdS⟩ ?_)
  refine wpAny_pure ⟨quiet_contains, codeAny_builtin entry_set_contains ?_⟩
  unfold Builtin.«frozenset.__contains__» Builtin.Frozenset.oneOther
  simp only [List.isEmpty_nil, bind_assoc]
  unfold Builtin.Frozenset.addrOf Builtin.Frozenset.withSetAsKey setContains
  refine wpAny_bind (wpAny_pure ?_)
  try dsimp only
  refine wpAny_bind (wpAny_pure ?_)
  try dsimp only
  refine wpAny_bind (wpAny_tryCatch ?_)
  refine wpAny_holding ?_
  refine wpAny_bind ((strKind PR w).pyHash his ?_)
  refine wpAny_bind (wpAny_setFind_of (s := { s with toks := s.toks + 1 }) his rfl hS fun r hr => ?_)
  refine wpAny_pure ?_
  show wpAny _ _ (ret (Value.bool r.isSome)) _ _ _
  rw [hr]
  exact wpAny_pure hq
end
end RsLaw
end
section
open PySem PySem.Spec PySem.Calls PySem.W PyProof.Rows PySem.SeqAt
set_option maxRecDepth 100000
set_option linter.unusedVariables false
namespace RsLaw
theorem slot_filter_init : Slot "filter" "__init__" "object.__init__" :=
  .of (owner := "object") (n := "__init__") (by rw [typeLookup_type, builtinLookup_eq_fast]; kernel_rfl) (by decide +kernel) (by decide +kernel) (by decide +kernel)
    (by first | exact .inl (by decide +kernel) | exact .inr (by decide +kernel)) (by rw [isSubtype_type]; kernel_rfl)
theorem slot_filter_next : Slot "filter" "__next__" "filter.__next__" :=
  .of (owner := "filter") (n := "__next__") (by rw [typeLookup_type, builtinLookup_eq_fast]; kernel_rfl) (by decide +kernel) (by decide +kernel) (by decide +kernel)
    (by first | exact .inl (by decide +kernel) | exact .inr (by decide +kernel)) (by rw [isSubtype_type]; kernel_rfl)
theorem slot_filter_iter : Slot "filter" "__iter__" "filter.__iter__" :=
  .of (owner := "filter") (n := "__iter__") (by rw [typeLookup_type, builtinLookup_eq_fast]; kernel_rfl) (by decide +kernel) (by decide +kernel) (by decide +kernel)
    (by first | exact .inl (by decide +kernel) | exact .inr (by decide +kernel)) (by rw [isSubtype_type]; kernel_rfl)
theorem entry_filter_next : entryFor table "filter.__next__" = some Builtin.«filter.__next__» := entryFor_of_tree (by kernel_rfl)
theorem entry_filter_iter : entryFor table "filter.__iter__" = some Builtin.«dict_keyiterator.__iter__» :=
  entryFor_alias (id' := "dict_keyiterator.__iter__") (by kernel_rfl) (by first | rfl | decide +kernel | (unfold String.splitOn; simp +decide [String.splitOnAux])) (by decide +kernel) (by kernel_rfl)
theorem entry_filter_new : entryFor table "filter.__new__" = some Builtin.«filter.__new__» := entryFor_of_tree (by kernel_rfl)
theorem mro_filter : mroOf (.type "filter") = pure [.type "filter", .type "object"] := by rw [mroOf_type]; kernel_rfl
theorem lookup_filter_new : typeLookup (.type "filter") "__new__" = pure (some (.builtin "filter.__new__")) := by rw [typeLookup_type, builtinLookup_eq_fast]; kernel_rfl
theorem called_filter : TypeCalled "filter" "filter.__new__" "object.__init__" :=
  ⟨by decide +kernel, by decide +kernel, ⟨_, _, mro_filter⟩, madeBy_type mro_filter lookup_filter_new (by decide +kernel), by decide +kernel, by rw [isSubtype_type]; kernel_rfl, slot_filter_init⟩
theorem typeCall_filter_2 (a b : Value) : checkTypeCall "filter" ⟨[a, b], []⟩ = pure () := by kernel_rfl
theorem newCall_filter_2 (a b : Value) : checkBuiltinCall "filter.__new__" ⟨[.type "filter", a, b], []⟩ = pure () := by kernel_rfl
theorem sub_filter : isSubtype (.type "filter") (.type "filter") = pure true := by rw [isSubtype_type]; kernel_rfl
noncomputable abbrev liter (l : Addr) : Obj := { cls := .type "list_iterator", data := .fields #[.ref l, .int 0 0] }
noncomputable abbrev filt (f : Value) (it : Addr) : Obj := { cls := .type "filter", data := .fields #[f, .ref it] }
theorem meets_filter_new (f : Value) (l : Addr) (xs : Array Value) :
    Meets (Builtin.«filter.__new__» ⟨[.type "filter", f, .ref l], []⟩) (fun _ R s => s.heap.IsList l xs ∧
      R (.ok (.ret (.ref (s.heap.push (liter l)).objs.size))) { s with heap := (s.heap.push (liter l)).push (filt f s.heap.objs.size) }) :=
  .of_wp fun prog w A R s h => by
    obtain ⟨hp, g, d, tk, os⟩ := s; obtain ⟨hl1, h⟩ := h
    have hsub := sub_filter
    have hL1 : Heap.IsList (Shared.heap ⟨hp, g, d, tk, os⟩) l xs := hl1
    wp_walk using wpAny_pyIter_list hL1
    exact ⟨_, rfl, h⟩
end RsLaw
end
section
open PySem PySem.Spec PySem.Calls PySem.W PyProof.Rows PySem.SeqAt
set_option maxRecDepth 100000
set_option linter.unusedVariables false
namespace RsLaw
theorem plain_filter_next : plainId "filter.__next__" = true := by decide +kernel
theorem owner_filter : Manifest.owners.lookup (String.ofList ['r', 'e', 't', 'l', 'i', 'f'].reverse) = some Manifest.sig_filter := by kernel_rfl
theorem args_filter_next (a : Value) : argsOk "filter.__next__" ⟨[a], []⟩ := by
  unfold argsOk; rw [signature?_of (id := "filter.__next__") (n := ['_', '_', 't', 'x', 'e', 'n', '_', '_']) (o := ['r', 'e', 't', 'l', 'i', 'f']) (by kernel_rfl) owner_filter]; kernel_rfl
theorem args_filter_iter (a : Value) : argsOk "filter.__iter__" ⟨[a], []⟩ := by
  unfold argsOk; rw [signature?_of (id := "filter.__iter__") (n := ['_', '_', 'r', 'e', 't', 'i', '_', '_']) (o := ['r', 'e', 't', 'l', 'i', 'f']) (by kernel_rfl) owner_filter]; kernel_rfl
structure FltAt (w : World) (h : Heap) (z xb sa it l : Addr) (S : Str → Bool) (items : Array Value) (p : Nat) : Prop where
  hz : h.get? z = some (filt (.ref xb) it)
  hb : h.get? xb = some (bnd sa)
  hS : ∃ m, h.SetOf (strKind PR w) sa S m
  hi : h.IsListIter it l p
  hl : h.IsList l items
section
variable {w : World} {A : Around} {E : Value → Shared → Prop} {z xb sa it l : Addr} {S : Str → Bool} {items : Array Value} {ss : List Str}
theorem FltAt.at' {h h' : Heap} {p : Nat} (F : FltAt w h z xb sa it l S items p) (k : ∀ b ∈ [z, xb, sa, it, l], ∀ o, h.get? b = some o → h'.get? b = some o) : FltAt w h' z xb sa it l S items p := by
  obtain ⟨a, b, ⟨m, o, es, ep, t, c, r⟩, d, e⟩ := F
  exact ⟨k _ (by simp) _ a, k _ (by simp) _ b, ⟨m, o, es, ep, t, k _ (by simp) _ c, r⟩, d.at fun o e => k _ (by simp) o e, e.at fun o e => k _ (by simp) o e⟩
theorem cs_item {s : Shared} {i : Nat} {x : Value} {Q : Option Value → Shared → Prop} (hit : s.heap.IsListIter it l i) (hl : s.heap.IsList l items) (hx : items[i]? = some x)
    (hQ : ∀ h', h'.IsListIter it l (i + 1) → Heap.SameBut it s.heap h' → Q (some x) { s with heap := h' }) : wpAny (model PR w) A (callSpecial? (.ref it) "__next__") Q E s := by
  obtain ⟨o, ho, hc, hd⟩ := id hit
  obtain ⟨ol, hol, _, nl, hdl⟩ := hl
  refine wpAny_callSpecial?_slot (name := Str.ofString "__next__") hit.typeIs slot_listiter_next
    (wpAny_call_entry slot_listiter_next hit.typeIs entry_listiter_next ?_ (args_listiter_next _))
  show wpAny _ _ (field (.ref it) 0 >>= _) _ _ s
  refine wpAny_bind (wpAny_field ho hd (x := .ref l) rfl ?_)
  show wpAny _ _ (if (Value.ref l == Value.none) = true then _ else _) _ _ s
  rw [if_neg (show ¬ ((Value.ref l == Value.none) = true) from Bool.false_ne_true)]
  show wpAny _ _ (field (.ref it) 1 >>= _) _ _ s
  refine wpAny_bind (wpAny_field ho hd (x := .int i 0) rfl ?_)
  show wpAny _ _ (seqItems? (.ref l) >>= _) _ _ s
  refine wpAny_bind (wpAny_seqItems hol hdl ?_)
  simp only [Int.toNat_natCast, hx]
  refine wpAny_bind (wpAny_setField ho hd (by simp) (wpAny_pure ⟨x, rfl, hQ _ ?_ (Heap.SameBut.update ..)⟩))
  exact ⟨_, Heap.get?_update_self _ ho (Obj.isFreed_of_fields (Obj.data_mapFields hd _)), (Obj.cls_mapFields ..).trans hc, by
    rw [Obj.data_mapFields hd]; simp [rawInt]⟩
theorem cs_end {s : Shared} {i : Nat} {Q : Option Value → Shared → Prop} (hh : A.handled = none) (hit : s.heap.IsListIter it l i) (hl : s.heap.IsList l items) (hx : items[i]? = none)
    (hE : ∀ h' e, Heap.ExtBut it s.heap h' → (∃ o, h'.get? e = some o ∧ o.cls = .type "StopIteration") → E (.ref e) { s with heap := h' }) : wpAny (model PR w) A (callSpecial? (.ref it) "__next__") Q E s := by
  obtain ⟨o, ho, hc, hd⟩ := id hit
  obtain ⟨ol, hol, _, nl, hdl⟩ := hl
  refine wpAny_callSpecial?_slot (name := Str.ofString "__next__") hit.typeIs slot_listiter_next
    (wpAny_call_entry slot_listiter_next hit.typeIs entry_listiter_next ?_ (args_listiter_next _))
  show wpAny _ _ (field (.ref it) 0 >>= _) _ _ s
  refine wpAny_bind (wpAny_field ho hd (x := .ref l) rfl ?_)
  show wpAny _ _ (if (Value.ref l == Value.none) = true then _ else _) _ _ s
  rw [if_neg (show ¬ ((Value.ref l == Value.none) = true) from Bool.false_ne_true)]
  show wpAny _ _ (field (.ref it) 1 >>= _) _ _ s
  refine wpAny_bind (wpAny_field ho hd (x := .int i 0) rfl ?_)
  show wpAny _ _ (seqItems? (.ref l) >>= _) _ _ s
  refine wpAny_bind (wpAny_seqItems hol hdl ?_)
  simp only [Int.toNat_natCast, hx]
  refine wpAny_bind (wpAny_rule (wpAny_bind (wpAny_setField ho hd (by simp) ?_)))
  show wpAny _ _ (newExc (.type "StopIteration") [] >>= _) _ _ _
  refine wpAny_bind ?_
  simp only [newExc, newTuple]
  refine wpAny_bind (wpAny_newObj_type ?_ (by size_fits))
  refine wpAny_bind (m := firstArgMember _ _) (wpAny_of_eq (a := Value.none) (by first | rfl | (simp only [firstArgMember]; rfl)) ?_)
  refine wpAny_newObj_type ?_ (by size_fits)
  simp only [raiseNew]
  refine wpAny_bind (wpAny_handled ?_)
  first | rw [show A.in1.handled = none from hh] | rw [hh]
  refine wpAny_bind (wpAny_pure (wpAny_throw ?_))
  exact hE _ _ (((Heap.SameBut.update ..).extBut.push _).push _) ⟨_, Heap.get?_push_size _ rfl, rfl⟩
theorem flt_next (ap : it ≠ z ∧ it ≠ xb ∧ it ≠ sa ∧ it ≠ l) (hss : StrsAre items.toList ss) (hh : A.handled = none) {R : Result → Shared → Prop} :
    ∀ (k p : Nat) (s : Shared), items.size - p = k → p ≤ items.size → FltAt w s.heap z xb sa it l S items p →
      (∀ j v x t h' tk, p ≤ j → ss[j]? = some x → v = .str x t → S x = true → (ss.drop p).filter S = x :: (ss.drop (j + 1)).filter S → FltAt w h' z xb sa it l S items (j + 1) → (∀ b o, b ≠ it → s.heap.get? b = some o → h'.get? b = some o) → R (.ok (.ret v)) { s with heap := h', toks := tk }) →
      ((ss.drop p).filter S = [] → ∀ h' e tk, (∀ b o, b ≠ it → s.heap.get? b = some o → h'.get? b = some o) → (∃ o, h'.get? e = some o ∧ o.cls = .type "StopIteration") → R (.error (.ref e)) { s with heap := h', toks := tk }) →
      codeAny (model PR w) A (.builtin "filter.__next__" ⟨[.ref z], []⟩) R s := by
  intro k
  induction k with
  | zero =>
    intro p s hk hp F hit hend
    have hpn : p = items.size := by omega
    have hx : items[p]? = none := by rw [hpn]; simp
    refine codeAny_builtin entry_filter_next ?_
    rw [Around.under_plainId plain_filter_next _]
    show wpAny _ A.in1 (field (.ref z) 0 >>= _) _ _ _
    refine wpAny_bind (wpAny_field F.hz rfl (x := .ref xb) rfl ?_)
    show wpAny _ A.in1 (field (.ref z) 1 >>= _) _ _ _
    refine wpAny_bind (wpAny_field F.hz rfl (x := .ref it) rfl ?_)
    refine wpAny_bind (cs_end (by simpa using hh) F.hi F.hl hx fun h' e hb he => hend ?_ h' e s.toks (fun b o hb' e' => hb b o hb' e') he)
    have : ss.length ≤ p := by have := hss.length; simp at this; omega
    rw [List.drop_eq_nil_of_le this]; rfl
  | succ k ih =>
    intro p s hk hp F hit hend
    have hlt : p < items.size := by omega
    have hx : items[p]? = some items[p] := Array.getElem?_eq_getElem hlt
    obtain ⟨x, t, hsx, hv⟩ := strs_at hss p items[p] (by rw [Array.getElem?_toList]; exact hx)
    have hxl : p < ss.length := by
      rcases Nat.lt_or_ge p ss.length with q | q
      · exact q
      · rw [List.getElem?_eq_none q] at hsx; cases hsx
    have hdrop : ss.drop p = x :: ss.drop (p + 1) := by
      rw [List.drop_eq_getElem_cons hxl]
      rw [List.getElem?_eq_getElem hxl] at hsx
      cases hsx; rfl
    refine codeAny_builtin entry_filter_next ?_
    rw [Around.under_plainId plain_filter_next _]
    show wpAny _ A.in1 (field (.ref z) 0 >>= _) _ _ _
    refine wpAny_bind (wpAny_field F.hz rfl (x := .ref xb) rfl ?_)
    show wpAny _ A.in1 (field (.ref z) 1 >>= _) _ _ _
    refine wpAny_bind (wpAny_field F.hz rfl (x := .ref it) rfl ?_)
    refine wpAny_bind (cs_item F.hi F.hl hx fun h₁ hi₁ hs₁ => ?_)
    have up : ∀ b o, b ≠ it → s.heap.get? b = some o → h₁.get? b = some o := fun b o hb e => (hs₁.2 b hb).trans e
    have F₁ : FltAt w h₁ z xb sa it l S items (p + 1) := by
      obtain ⟨a, b, ⟨m, o, es, ep, tb, c, r⟩, d, e⟩ := F
      exact ⟨up _ _ ap.1.symm a, up _ _ ap.2.1.symm b, ⟨m, o, es, ep, tb, up _ _ ap.2.2.1.symm c, r⟩, hi₁, e.at fun o e => up _ o ap.2.2.2.symm e⟩
    obtain ⟨m, hSm⟩ := F₁.hS
    rw [hv]
    dsimp only
    refine wpAny_bind (wpAny_holding (KFB.if_not rfl (wpAny_bind (call_bnd (s := { s with heap := h₁ }) F₁.hb hSm (wpAny_holding (wpAny_truthy_bool ?_))))))
    cases hSx : S x with
    | true =>
      refine KFB.if_so rfl (wpAny_pure ?_)
      refine hit p (.str x t) x t h₁ _ (Nat.le_refl _) hsx rfl hSx ?_ F₁ up
      rw [hdrop, List.filter_cons, if_pos hSx]
    | false =>
      refine KFB.if_not rfl (wpAny_pure ⟨plainId_quiet plain_filter_next _, ih (p + 1) { s with heap := h₁, toks := s.toks + 1 } (by omega) hlt F₁ ?_ ?_⟩)
      · intro j v x' t' h' tk hj h1 h2 h3 h4 h5 h6
        refine hit j v x' t' h' tk (by omega) h1 h2 h3 ?_ h5 fun b o hb e => h6 b o hb (up b o hb e)
        rw [hdrop, List.filter_cons, if_neg (by rw [hSx]; decide)]; exact h4
      · intro h1 h' e tk h2 h3
        refine hend ?_ h' e tk (fun b o hb e' => h2 b o hb (up b o hb e')) h3
        rw [hdrop, List.filter_cons, if_neg (by rw [hSx]; decide)]; exact h1
end
end RsLaw
end
section
open PySem PySem.Spec PySem.Calls PySem.W PyProof.Rows PySem.SeqAt
set_option maxRecDepth 100000
set_option linter.unusedVariables false
namespace RsLaw
section
variable {w : World} {A : Around} {z xb sa it l : Addr} {S : Str → Bool} {items : Array Value} {ss : List Str}
theorem flt_call {s : Shared} {R : Result → Shared → Prop} (hT : s.TypeIs (.ref z) "filter") (h : codeAny (model PR w) A (.builtin "filter.__next__" ⟨[.ref z], []⟩) R s) : codeAny (model PR w) A (.call (.builtin "filter.__next__") ⟨[.ref z], []⟩) R s := by
  refine codeAny_of_tree ?_
  show wpAny _ A.in1 (checkBuiltinCall "filter.__next__" ⟨[.ref z], []⟩ >>= fun _ => again (.builtin "filter.__next__" ⟨[.ref z], []⟩)) _ _ s
  exact wpAny_bind (slot_filter_next.check _ _ _ _ _ _ _ _ hT (args_filter_next _) (wpAny_pure ⟨plainId_quiet plain_filter_next _, h⟩))
theorem flt_walks (hh : A.handled = none) (ap : it ≠ z ∧ it ≠ xb ∧ it ≠ sa ∧ it ≠ l) (hss : StrsAre items.toList ss) :
    Walks PR w A z [z, xb, sa, it, l] [it] (ss.filter S).length (fun i v => ∃ x t, (ss.filter S)[i]? = some x ∧ v = .str x t) (fun i h => ∃ p, p ≤ items.size ∧ FltAt w h z xb sa it l S items p ∧ (ss.drop p).filter S = (ss.filter S).drop i) where
  sub := fun b hb => by rw [List.mem_singleton.mp hb]; simp
  frame := fun i h h' st k => by
    obtain ⟨p, hp, F, e⟩ := st
    exact ⟨p, hp, F.at' k, e⟩
  item := fun i s Q E hi st hQ => by
    obtain ⟨p, hp, F, e⟩ := st
    have hT : s.TypeIs (.ref z) "filter" := ⟨_, F.hz, rfl⟩
    unfold pyNext
    refine wpAny_bind (wpAny_attempt (wpAny_callSpecial?_slot (name := Str.ofString "__next__") hT slot_filter_next (wpAny_call (flt_call hT (flt_next ap hss hh _ p s rfl hp F (fun j v x t h' tk hj h1 h2 h3 h4 h5 h6 => ?_) (fun h1 => ?_))))))
    · have hd' : (ss.filter S).drop i = x :: (ss.drop (j + 1)).filter S := e.symm.trans h4
      have hx : (ss.filter S)[i]? = some x := by
        have := congrArg (·[0]?) hd'
        simpa using this
      refine wpAny_pure (hQ v h' tk ⟨x, t, hx, h2⟩ ⟨j + 1, ?_, h5, ?_⟩ fun b o hb e' => h6 b o (by simpa using hb) e')
      · have : ss.length = items.size := by have := hss.length; simp at this; omega
        rcases Nat.lt_or_ge j ss.length with q | q
        · omega
        · rw [List.getElem?_eq_none q] at h1; cases h1
      · have := congrArg List.tail hd'
        rw [List.tail_drop] at this
        simpa using this.symm
    · rw [e] at h1
      have := List.drop_eq_nil_iff.mp h1
      omega
  done := fun s Q E st hQ => by
    obtain ⟨p, hp, F, e⟩ := st
    have hT : s.TypeIs (.ref z) "filter" := ⟨_, F.hz, rfl⟩
    unfold pyNext
    refine wpAny_bind (wpAny_attempt (wpAny_callSpecial?_slot (name := Str.ofString "__next__") hT slot_filter_next (wpAny_call (flt_call hT (flt_next ap hss hh _ p s rfl hp F (fun j v x t h' tk hj h1 h2 h3 h4 h5 h6 => ?_) (fun h1 h' e' tk h2 he => ?_))))))
    · rw [h4] at e
      rw [List.drop_length] at e
      cases e
    · obtain ⟨o, ho, hc⟩ := he
      refine wpAny_bind (wpAny_isInstance (T := "StopIteration") (b := true) ⟨o, ho, hc⟩ isSubtype_stop ?_)
      exact wpAny_pure (hQ _ tk fun b o hb e' => h2 b o (by simpa using hb) e')
  self := fun i s Q E st hQ => by
    obtain ⟨p, hp, F, e⟩ := st
    have hT : s.TypeIs (.ref z) "filter" := ⟨_, F.hz, rfl⟩
    refine wpAny_pyIter_slot hT slot_filter_iter (wpAny_call_entry slot_filter_iter hT entry_filter_iter ?_ (args_filter_iter _))
    show wpAny _ _ (ret (.ref z)) _ _ s
    exact wpAny_pure ⟨_, rfl, "filter", _, hT, slot_filter_next.lookup, hQ⟩
end
end RsLaw
end
section
open PySem PySem.Spec PySem.Calls PySem.W PyProof.Rows PySem.SeqAt
set_option maxRecDepth 100000
set_option linter.unusedVariables false
namespace RsLaw
theorem flt_no_len : typeLookup (.type "filter") "__len__" = pure none := by rw [typeLookup_type, builtinLookup_eq_fast]; kernel_rfl
theorem flt_no_hint : typeLookup (.type "filter") "__length_hint__" = pure none := by rw [typeLookup_type, builtinLookup_eq_fast]; kernel_rfl
section
variable {w : World} {A : Around} {s : Shared} {R : Result → Shared → Prop}
variable {I : Addr} {fp wr : List Addr} {G : Array GenState → Array GenState → Prop} {n : Nat} {P : Nat → Value → Prop} {St : Nat → Shared → Prop}
theorem extend_flt (W : WalksS PR w A.in1 I fp wr G n P St) (hT : ∀ i s, St i s → s.TypeIs (.ref I) "filter") (S : Addr) (res : Value) (c₀ : Nat) (hst : St 0 s) (hSf : S ∉ fp) (hI : I ∈ fp)
    (hS : s.heap.get? S = some { cls := .type "list", data := .seq #[] c₀ })
    (hR : ∀ s' acc' c', Moved (S :: wr) G s s' → s'.heap.get? S = some { cls := .type "list", dict := none, data := .seq acc' c', slots := #[] } → ItemsOf P acc' n → R (.ok (.ret res)) s') (hn : n ≤ sizeLine) :
    wpAny (model PR w) A.in1 (Builtin.List.listExtendWith (.ref S) (.ref I) res)
      (fun fin s' => match fin with | .done f => R (.ok f) s' | .again c' => c'.quiet = true ∧ codeAny (model PR w) A c' R s') (fun e s' => R (.error e) s') s := by
  have hSI : S ≠ I := fun e => hSf (e ▸ hI)
  unfold Builtin.List.listExtendWith
  refine wpAny_bind (wpAny_typeOf (hT 0 _ hst) ?_)
  have h1 : Builtin.List.listSameRef (.ref S) (.ref I) = false := by simp [Builtin.List.listSameRef, hSI]
  have h2 : (Value.type "filter" == Value.type "list") = false := by decide
  have h3 : (Value.type "filter" == Value.type "tuple") = false := by decide
  simp only [h1, h2, h3, Bool.or_false, Bool.false_eq_true, if_false]
  refine wpAny_bind (W.self 0 _ _ _ hst ?_)
  refine wpAny_bind (wpAny_holding ?_)
  unfold Builtin.List.listLengthHint
  refine wpAny_bind (wpAny_specialOf (hT 0 _ hst) flt_no_len ?_)
  show wpAny _ A.in1 (specialOf (Value.ref I) (Str.ofString "__length_hint__") >>= _) _ _ _
  refine wpAny_bind (wpAny_specialOf (hT 0 _ hst) flt_no_hint ?_)
  refine wpAny_pure ?_
  show wpAny _ A.in1 (rule "list.extend.makes-room" >>= fun _ => Builtin.List.listTouch (.ref S) >>= fun _ =>
    again (.builtin "list.extend.loop" ⟨[.ref S, .ref I, res], []⟩)) _ _ _
  refine wpAny_bind (wpAny_rule ?_)
  refine wpAny_bind ?_
  show wpAny _ A.in1 (updateSeq S (·.push .none) >>= fun _ => updateSeq S (·.pop)) _ _ _
  refine wpAny_bind (wpAny_updateSeq hS rfl ?_)
  have hS₂ := Heap.get?_update_self (Obj.mapSeq (·.push Value.none)) hS rfl
  refine wpAny_updateSeq (hz := by seq_fits) hS₂ rfl ?_
  have hS₃ := Heap.get?_update_self (Obj.mapSeq (·.pop)) hS₂ rfl
  have oth : ∀ b o, b ≠ S → s.heap.get? b = some o → ((s.heap.update S (Obj.mapSeq (·.push Value.none))).update S (Obj.mapSeq (·.pop))).get? b = some o :=
    fun b o hb e => (Heap.get?_update_other _ _ (Ne.symm hb)).trans ((Heap.get?_update_other _ _ (Ne.symm hb)).trans e)
  refine wpAny_pure ⟨plainId_quiet PySem.F.plain_extend_loop _, codeAny_extend_loopS W hn _ hSf _ n 0 _ _ _ rfl (Nat.zero_le _)
    (W.frame 0 s _ s.toks hst (Nat.le_refl _) fun b hb o e => oth b o (fun h => hSf (h ▸ hb)) e) hS₃ (ItemsOf.nil P) fun s' acc' c' hm hS' hacc => ?_⟩
  exact hR s' acc' c' (Moved.trans W.gtrans ((Moved.refl W.grefl).then_heap (Nat.le_refl _) fun b o hb e => oth b o (fun h => hb (h ▸ List.mem_cons_self)) e) hm) hS' hacc
theorem init_flt (W : WalksS PR w A.in1 I fp wr G n P St) (hT : ∀ i s, St i s → s.TypeIs (.ref I) "filter") (S : Addr) (hst : St 0 s) (hSf : S ∉ fp) (hI : I ∈ fp)
    (hS : s.heap.get? S = some { cls := .type "list", data := .seq #[] })
    (hR : ∀ s' acc' c', Moved (S :: wr) G s s' → s'.heap.get? S = some { cls := .type "list", dict := none, data := .seq acc' c', slots := #[] } → ItemsOf P acc' n → R (.ok (.ret .none)) s') (hn : n ≤ sizeLine) :
    wpAny (model PR w) A.in1 (Builtin.«list.__init__» ⟨[.ref S, .ref I], []⟩)
      (fun fin s' => match fin with | .done f => R (.ok f) s' | .again c' => c'.quiet = true ∧ codeAny (model PR w) A c' R s') (fun e s' => R (.error e) s') s := by
  show wpAny _ A.in1 (do let old ← Builtin.List.listItems (.ref S); Builtin.List.listUpdate (.ref S) (fun _ => #[]); letGo old.toList.reverse; Builtin.List.listExtendWith (.ref S) (.ref I) .none) _ _ s
  refine wpAny_bind ?_
  unfold Builtin.List.listItems
  refine wpAny_bind (wpAny_seqItems hS rfl (wpAny_pure ?_))
  show wpAny _ A.in1 (updateSeq S (fun _ => #[]) >>= fun _ => letGo (#[] : Array Value).toList.reverse >>= fun _ => Builtin.List.listExtendWith (.ref S) (.ref I) .none) _ _ s
  refine wpAny_bind (wpAny_updateSeq hS rfl ?_)
  have hS₂ := Heap.get?_update_self (Obj.mapSeq (fun _ => (#[] : Array Value))) hS rfl
  have oth : ∀ b o, b ≠ S → s.heap.get? b = some o → (s.heap.update S (Obj.mapSeq (fun _ => (#[] : Array Value)))).get? b = some o :=
    fun b o hb e => (Heap.get?_update_other _ _ (Ne.symm hb)).trans e
  refine wpAny_bind (wpAny_letGo ?_)
  refine extend_flt (hn := hn) W hT S .none _ (W.frame 0 s _ s.toks hst (Nat.le_refl _) fun b hb o e => oth b o (fun h => hSf (h ▸ hb)) e) hSf hI hS₂ fun s' acc' c' hm hS' hacc => ?_
  exact hR s' acc' c' (Moved.trans W.gtrans ((Moved.refl W.grefl).then_heap (Nat.le_refl _) fun b o hb e => oth b o (fun h => hb (h ▸ List.mem_cons_self)) e) hm) hS' hacc
variable {E : Value → Shared → Prop}
theorem list_flt {Q : Value → Shared → Prop} (W : WalksS PR w A.in1.in1 I fp wr G n P St) (hT : ∀ i s, St i s → s.TypeIs (.ref I) "filter") (hst : St 0 s) (hfp : ∀ b ∈ fp, b < s.heap.objs.size) (hI : I ∈ fp)
    (hQ : ∀ s' acc' c', Moved (s.heap.objs.size :: wr) G { s with heap := s.heap.push { cls := .type "list", data := .seq #[] } } s' →
      s'.heap.get? s.heap.objs.size = some { cls := .type "list", dict := none, data := .seq acc' c', slots := #[] } → ItemsOf P acc' n → Q (.ref s.heap.objs.size) s') (hn : n ≤ sizeLine) :
    wpAny (model PR w) A (call (.type "list") [.ref I]) Q E s := by
  have hSf : s.heap.objs.size ∉ fp := fun hm => Nat.lt_irrefl _ (hfp _ hm)
  refine callType_codes (Q₁ := fun obj s₁ => obj = .ref s.heap.objs.size ∧ s₁ = { s with heap := s.heap.push { cls := .type "list", data := .seq #[] } }) PySem.F.called_list (PySem.F.typeCall_list_1 _) PySem.F.entry_list_init
    (code_list_new _ ⟨rfl, rfl⟩) fun obj s₁ h₁ => ?_
  obtain ⟨rfl, rfl⟩ := h₁
  have hS : (s.heap.push { cls := .type "list", data := .seq #[] }).get? s.heap.objs.size = some { cls := .type "list", data := .seq #[] } := Heap.get?_push_size _ rfl
  refine ⟨⟨_, hS, rfl⟩, PySem.F.args_list_init_2 _ _, init_flt (hn := hn) W hT _ (W.frame 0 s _ s.toks hst (Nat.le_refl _) fun b _ o e => Heap.get?_push_of_some _ e) hSf hI hS fun s' acc' c' hm hS' hacc => ?_⟩
  exact ⟨rfl, hQ s' acc' c' hm hS' hacc⟩
end
end RsLaw
end
section
open PySem PySem.Spec PySem.Calls PySem.W PyProof.Rows PySem.SeqAt
set_option maxRecDepth 100000
set_option linter.unusedVariables false
namespace RsLaw
section
variable {w : World} {n : Nat} {N : List (Str × NameKind)} {ρ : Rho}
noncomputable def mergeP (l1 l2 : List Str) : List Str := l1.filter (preS l2 l2.length)
theorem nt_set (hx : N.lookup ("set" : Str) = some .globalImplicit) : NameTo w N "set" (.type "set") := NameTo.builtin hx (by k_is) (by decide +kernel)
theorem nt_filter (hx : N.lookup ("filter" : Str) = some .globalImplicit) : NameTo w N "filter" (.type "filter") := NameTo.builtin hx (by k_is) (by decide +kernel)
theorem nt_list (hx : N.lookup ("list" : Str) = some .globalImplicit) : NameTo w N "list" (.type "list") := NameTo.builtin hx (by k_is) (by decide +kernel)

/-- filter(set(l2).__contains__, l1), by values -/
theorem filter_run {S : List Addr} {A : Around} {s : Shared} {v₁ : Value} {xb sa : Addr} {l1 l2 : List Str} (hA : okA n A) (lv : Live S s.heap) (h1 : DP (hideAll s.heap S) v₁ (strsP l1)) (hb : s.heap.get? xb = some (bnd sa)) (hS : ∃ m, s.heap.SetOf (strKind PR w) sa (preS l2 l2.length) m) (hl : l1.length ≤ 1000)
    {Q : Value → Shared → Prop} {E : Value → Shared → Prop} (K : ∀ v h' tk, Sub s.heap h' → D (hideAll h' S) v (.py (strsP (mergeP l1 l2))) → Q v { s with heap := h', toks := tk }) :
    wpAny (model PR w) A (call (.type "filter") [.ref xb, v₁]) (fun f s' => wpAny (model PR w) A (call (.type "list") [f]) Q E s') E s := by
  obtain ⟨al, vs, rfl, hL, q⟩ := DP.list_inv h1
  obtain ⟨o, e1, e2⟩ := hL
  have hl1 : s.heap.IsList al vs.toArray := ⟨o, of_hideAll _ e1, e2⟩
  have hss : StrsAre vs.toArray.toList l1 := by simpa using strsAre_of q
  have len : vs.length = l1.length := by rw [q.length]; simp
  refine callType_new called_filter (by decide) (typeCall_filter_2 _ _) (newCall_filter_2 _ _) (fun obj => PySem.F.args_object_init_3 obj _ _) entry_filter_new (meets_filter_new (.ref xb) al vs.toArray) ⟨hl1, ?_⟩
  generalize hit : s.heap.objs.size = it
  have s1 : Sub s.heap (s.heap.push (liter al)) := Sub.push _ _
  generalize hz : (s.heap.push (liter al)).objs.size = z
  have gi : (s.heap.push (liter al)).get? it = some (liter al) := hit ▸ Heap.get?_push_size _ rfl
  have s2 : Sub (s.heap.push (liter al)) ((s.heap.push (liter al)).push (filt (.ref xb) it)) := Sub.push _ _
  have gz : ((s.heap.push (liter al)).push (filt (.ref xb) it)).get? z = some (filt (.ref xb) it) := hz ▸ Heap.get?_push_size _ rfl
  have zsz : ((s.heap.push (liter al)).push (filt (.ref xb) it)).objs.size = z + 1 := by rw [Heap.size_push, hz]
  have zit : z = it + 1 := by rw [← hz, Heap.size_push, hit]
  generalize (s.heap.push (liter al)).push (filt (.ref xb) it) = h2 at s2 gz zsz
  have s3 : Sub s.heap h2 := s1.trans s2
  refine ⟨⟨_, gz, rfl⟩, ?_⟩
  have lt : ∀ b o, s.heap.get? b = some o → b < it := fun b o e => hit ▸ Heap.lt_size e
  obtain ⟨m, oS, es, ep, tb, c, r⟩ := hS
  have ap : it ≠ z ∧ it ≠ xb ∧ it ≠ sa ∧ it ≠ al := ⟨by rw [zit]; exact (Nat.succ_ne_self _).symm, (Nat.ne_of_lt (lt _ _ hb)).symm, (Nat.ne_of_lt (lt _ _ c)).symm, (Nat.ne_of_lt (lt _ _ (of_hideAll _ e1))).symm⟩
  have F : FltAt w h2 z xb sa it al (preS l2 l2.length) vs.toArray 0 := ⟨gz, s3 _ _ hb, ⟨m, oS, es, ep, tb, s3 _ _ c, r⟩, ⟨_, s2 _ _ gi, rfl, rfl⟩, ⟨o, s3 _ _ (of_hideAll _ e1), e2⟩⟩
  have W := (flt_walks (w := w) (A := A.in1.in1) (S := preS l2 l2.length) (by simpa using hA.handled) ap hss).toS
  refine list_flt (s := { s with heap := h2 }) W (fun i s' st => ?_) ⟨0, Nat.zero_le _, F, rfl⟩ (fun b hb' => ?_) (.head _) (fun s' acc c' hm hget hitems => ?_) ?_
  · obtain ⟨p, _, F', _⟩ := st
    exact ⟨_, F'.hz, rfl⟩
  · show b < h2.objs.size
    rw [zsz]
    simp only [List.mem_cons, List.not_mem_nil, or_false] at hb'
    rcases hb' with rfl | rfl | rfl | rfl | rfl
    · exact Nat.lt_succ_self _
    · exact zsz ▸ Heap.lt_size (s3 _ _ hb)
    · exact zsz ▸ Heap.lt_size (s3 _ _ c)
    · exact zsz ▸ Heap.lt_size (s2 _ _ gi)
    · exact zsz ▸ Heap.lt_size (s3 _ _ (of_hideAll _ e1))
  · obtain ⟨h', g', d', tk', os'⟩ := s'
    have eg : g' = s.gens := hm.gens
    have ed : d' = s.drawn := hm.drawn
    have eo : os' = s.os := hm.os
    subst eg; subst ed; subst eo
    dsimp only at hget
    refine K _ h' tk' (fun b o' e => hm.heap b o' ?_ (Heap.get?_push_of_some _ (s3 _ _ e))) ?_
    · intro hmem
      rcases List.mem_cons.mp hmem with q' | q'
      · have := Heap.lt_size (s3 _ _ e); rw [← q'] at this; exact Nat.lt_irrefl _ this
      · have := lt _ _ e; rw [List.mem_singleton.mp q'] at this; exact Nat.lt_irrefl _ this
    · refine DP.list (vs := acc.toList) ⟨_, hideAll_get _ hget fun hmem => ?_, rfl, c', by simp⟩ ?_
      · obtain ⟨o', e⟩ := lv _ hmem
        have := Heap.lt_size (s3 _ _ e); exact Nat.lt_irrefl _ this
      · have aux : ∀ (ys : List Str) (us : List Value), us.length = ys.length → (∀ (j : Nat) (v : Value), us[j]? = some v → ∃ x t, ys[j]? = some x ∧ v = Value.str x t) → DPs (hideAll h' S) us (ys.map PyData.str) := by
          intro ys
          induction ys with
          | nil => intro us hl _; rw [List.length_eq_zero_iff.mp hl]; exact .nil
          | cons y ys ih =>
            intro us hl hP
            cases us with
            | nil => simp at hl
            | cons u us =>
              obtain ⟨x, t, hx, rfl⟩ := hP 0 u rfl
              simp at hx; subst hx
              exact .cons (DP.str _ _) (ih us (by simpa using hl) fun j v hj => by simpa using hP (j + 1) v (by simpa using hj))
        refine aux (mergeP l1 l2) acc.toList (by rw [Array.length_toList]; exact hitems.1) fun j v hj => hitems.2 j v (by simpa using hj)
  · have : (l1.filter (preS l2 l2.length)).length ≤ l1.length := List.length_filter_le _ _
    show _ ≤ 2 ^ 24; omega
end
end RsLaw
end
section
open PySem PySem.Spec PySem.Calls PySem.W PyProof.Rows PySem.SeqAt
set_option maxRecDepth 100000
set_option linter.unusedVariables false
namespace RsLaw
section
variable {w : World} {n : Nat} {N : List (Str × NameKind)} {ρ : Rho}
theorem EV.merge {a1 a2 : Expr} {lp fp sp cp cl cf cs : Pos} {l1 l2 : List Str} (hl : N.lookup ("list" : Str) = some .globalImplicit) (hf : N.lookup ("filter" : Str) = some .globalImplicit) (hs : N.lookup ("set" : Str) = some .globalImplicit)
    (h1 : EV w n N ρ a1 (.py (strsP l1))) (h2 : EV w n N ρ a2 (.py (strsP l2))) (len1 : l1.length ≤ 1000) (len2 : l2.length ≤ 1000)
    (c1 : ∀ env, eval (.Call (.Name "list" lp) [.Call (.Name "filter" fp) [.Attribute (.Call (.Name "set" sp) [a2] [] cs) "__contains__" cp, a1] [] cf] [] cl) env = (do callWith cl (← eval (.Name "list" lp) env) [] (backTo cl (starEach [.Call (.Name "filter" fp) [.Attribute (.Call (.Name "set" sp) [a2] [] cs) "__contains__" cp, a1] [] cf] env)) (backToKw cl (keywordEach [] env))) := by intro _; rfl)
    (c2 : ∀ env, eval (.Call (.Name "filter" fp) [.Attribute (.Call (.Name "set" sp) [a2] [] cs) "__contains__" cp, a1] [] cf) env = (do callWith cf (← eval (.Name "filter" fp) env) [] (backTo cf (starEach [.Attribute (.Call (.Name "set" sp) [a2] [] cs) "__contains__" cp, a1] env)) (backToKw cf (keywordEach [] env))) := by intro _; rfl)
    (c3 : ∀ env, eval (.Call (.Name "set" sp) [a2] [] cs) env = (do callWith cs (← eval (.Name "set" sp) env) [] (backTo cs (starEach [a2] env)) (backToKw cs (keywordEach [] env))) := by intro _; rfl)
    (c4 : ∀ env, eval (.Attribute (.Call (.Name "set" sp) [a2] [] cs) "__contains__" cp) env = (do
      let o ← eval (.Call (.Name "set" sp) [a2] [] cs) env
      standAt cp.atName
      let r ← holding [o] (getAttr o "__contains__" true)
      letTemporaryGo (.Call (.Name "set" sp) [a2] [] cs) o r
      pure r) := by intro _; with_unfolding_all rfl)
    (s1 : ∀ env rest, starEach (a1 :: rest) env = (false, eval a1 env) :: starEach rest env := by intro _ _; rfl) (s2 : ∀ env rest, starEach (a2 :: rest) env = (false, eval a2 env) :: starEach rest env := by intro _ _; rfl) :
    EV w n N ρ (.Call (.Name "list" lp) [.Call (.Name "filter" fp) [.Attribute (.Call (.Name "set" sp) [a2] [] cs) "__contains__" cp, a1] [] cf] [] cl) (.py (strsP (mergeP l1 l2))) := fun env S A s C Q E K => by
  refine Call_ (nt_list hl env S s A lp _ E C.env_ok C.good (PyProof.Rows.callWith_type1 (spliced_more ?_ rfl) rfl rfl)) (c1 env)
  refine Call_ (nt_filter hf env S s A fp _ E C.env_ok C.good (PyProof.Rows.callWith_type1 (spliced_more ?_ rfl) rfl (by rw [s1]; rfl))) (c2 env)
  refine Attribute_any_ ?_ (c4 env)
  refine Call_ (nt_set hs env S s A sp _ E C.env_ok C.good (PyProof.Rows.callWith_type1 (spliced_more ?_ (s2 _ _)) (s2 _ _) rfl)) (c3 env)
  refine h2 env S A s C _ E fun v₂ h₁ t₁ s₁ r₁ => spliced_none ?_
  obtain ⟨al, vs, rfl, hL, q⟩ := DP.list_inv r₁
  obtain ⟨o, e1, e2⟩ := hL
  have len : vs.length = l2.length := by rw [q.length]; simp
  refine call_set_strs (s := { s with heap := h₁, toks := t₁ }) (l := al) (items := vs.toArray) (ss := l2) C.room.handled ⟨o, of_hideAll _ e1, e2⟩ (by simpa using strsAre_of q) (by rw [List.size_toArray, len]; unfold scanBound; omega) fun h₂ t₂ m hS hk => ?_
  have s₂ : Sub h₁ h₂ := fun b o e => hk b o (Heap.lt_size e) e
  have szv : vs.toArray.size = l2.length := by rw [List.size_toArray, len]
  rw [szv] at hS
  obtain ⟨oS, es, ep, tb, hoS, hex, hdS, rest⟩ := id hS
  refine contains_attr (o := oS) hoS hex.1 hex.2.1 ⟨_, _, _, hdS⟩ ?_
  have s₃ : Sub h₂ (h₂.push (bnd h₁.objs.size)) := Sub.push _ _
  have C₃ := ((C.mono s₁).mono s₂).mono s₃
  refine spliced_more (h1 env S A { s with heap := h₂.push (bnd h₁.objs.size), toks := t₂ + 1 } C₃ _ E fun v₁ h₄ t₄ s₄ r₄ => spliced_none ?_) (s1 _ _)
  refine wpAny_mono (filter_run (s := { s with heap := h₄, toks := t₄ }) (Q := Q) (E := E) (l1 := l1) (l2 := l2) (xb := h₂.objs.size) (sa := h₁.objs.size) C.room (C₃.mono s₄).live r₄ (s₄ _ _ (Heap.get?_push_size _ rfl)) ⟨m, oS, es, ep, tb, s₄ _ _ (s₃ _ _ hoS), hex, hdS, rest⟩ len1 fun v h' tk sb dv => K v h' tk ((((s₁.trans s₂).trans s₃).trans s₄).trans sb) dv) (fun f s' z => spliced_none z) fun _ _ z => z
end
end RsLaw
end
section
open PySem PySem.Spec PySem.Calls PySem.W PyProof.Rows PySem.SeqAt
set_option maxRecDepth 100000
set_option linter.unusedVariables false
namespace RsLaw
section
variable {w : World} {n : Nat} {N : List (Str × NameKind)} {ρ : Rho}
theorem fn_merge {l1 l2 : List Str} (len1 : l1.length ≤ 1000) (len2 : l2.length ≤ 1000) : FNv w (n + 3) (.ref 136) [.entry l1, .entry l2] (.entry (mergeP l1 l2)) := fun S A s vs hA lv g dd => by
  intro Q E K
  refine wpAny_call ?_
  have len : vs.length = 2 := dd.length
  refine' call_raw (n := n + 2) (ps := ["e1", "e2"]) (ds := [.entry l1, .entry l2]) (ho := ?ho) (hcd := ?hcd) (hb := ?hb) (hl := rfl) (hnd := ?hnd) (hloc := ?hloc) (hcell := ?hcell) (hA := hA) (l := lv) (g := g) (dd := dd) (h := ?h) (hco := ?hco) (hgen := ?hgen) (hk := ?hk)
  case ho => k_is
  case hcd => k_is
  case hb => obtain ⟨a, b, rfl⟩ := vlen2 len; rfl
  case hco => rfl
  case hgen => rfl
  case hk => rfl
  case hnd => decide
  case hloc => decide
  case hcell => decide
  case h =>
    intro env L h₀ tk C F sb fL
    refine wpAny_abs fun QQ EE qq => ?_
    refine wpAny_execs_cons (entry_stmt C F (.inl (by rfl)) (by rfl) fun x dx u r h₁ t₁ he k₁ F₁ C₁ => ?_)
    dsimp only at he k₁
    have dV : dx ∉ [L] := fun hm => by
      have := ne_of_get (F.wl L (.head _)).choose_spec he.fd
      exact this (List.mem_singleton.mp hm).symm
    have dS : dx ∈ r :: u :: dx :: L :: S := .tail _ (.tail _ (.head _))
    refine wpAny_execs_cons (set_stmt (s := { s with heap := h₁, toks := t₁ }) (C := 125) (EV.merge (by rfl) (by rfl) (by rfl) (EV.attr (EV.name (by rfl)) entry_agents) (EV.attr (EV.name (by rfl)) entry_agents) len1 len2) (by rfl) (by decide) (by k_is) (by k_is) (by k_is) (by k_is) (by rfl) (by simp) C₁ F₁ dS dV he.xd he.hx he.di fun h₂ t₂ _ k₂ F₂ C₂ x₂ d₂ => ?_)
    refine wpAny_execs_cons (set_stmt (s := { s with heap := h₂, toks := t₂ }) (C := 125) (EV.binop (EV.attr (EV.name (by rfl)) entry_rules) (EV.attr (EV.name (by rfl)) entry_rules) (op_add_list (by simp))) (by rfl) (by decide) (by k_is) (by k_is) (by k_is) (by k_is) (by rfl) (by simp) C₂ F₂ dS dV he.xd x₂ d₂ fun h₃ t₃ _ k₃ F₃ C₃ x₃ d₃ => ?_)
    refine wpAny_execs_cons (set_stmt (s := { s with heap := h₃, toks := t₃ }) (C := 125) (EV.ifexp (c := true) (TST.cmp (EV.attr (EV.name (by rfl)) entry_delay) EV.const_none op_is_none_none) (fun _ => EV.attr (EV.name (by rfl)) entry_delay) (fun h => by cases h)) (by rfl) (by decide) (by k_is) (by k_is) (by k_is) (by k_is) (by rfl) (by simp) C₃ F₃ dS dV he.xd x₃ d₃ fun h₄ t₄ _ k₄ F₄ C₄ x₄ d₄ => ?_)
    refine wpAny_execs_cons (set_stmt (s := { s with heap := h₄, toks := t₄ }) (C := 125) (EV.ifexp (c := true) (TST.cmp (EV.attr (EV.name (by rfl)) entry_rate) EV.const_none op_is_none_none) (fun _ => EV.attr (EV.name (by rfl)) entry_rate) (fun h => by cases h)) (by rfl) (by decide) (by k_is) (by k_is) (by k_is) (by k_is) (by rfl) (by simp) C₄ F₄ dS dV he.xd x₄ d₄ fun h₅ t₅ _ k₅ F₅ C₅ x₅ d₅ => ?_)
    refine wpAny_execs_cons (wpAny_Return_some (EV.name (x := "entry") (d := .ref x) (by rfl) (by decide) env _ _ { s with heap := h₅, toks := t₅ } C₅ _ _ fun v h₆ t₆ s₆ r₆ => ?_))
    have r₆' : v = .ref x := r₆
    subst r₆'
    have old : ∀ a, h₀.get? a = none → s.heap.get? a = none := fun a ha => by
      cases z : s.heap.get? a with
      | none => rfl
      | some o => rw [sb _ _ z] at ha; cases ha
    have nS : ∀ a, h₀.get? a = none → a ∉ S := fun a ha hm => by obtain ⟨o, e⟩ := lv a hm; rw [old a ha] at e; cases e
    have fd' : ∀ a ∈ [dx], s.heap.get? a = none := fun a ha => List.mem_singleton.mp ha ▸ old _ he.fd
    have fL' : ∀ a ∈ [L], s.heap.get? a = none := fun a ha => List.mem_singleton.mp ha ▸ fL
    have sub5 : Sub s.heap h₅ := Keep.sub (Keep.sub (Keep.sub (Keep.sub (Keep.sub sb k₁ fL') k₂ fd') k₃ fd') k₄ fd') k₅ fd'
    have sbh : Sub (hideAll h₆ (r :: u :: dx :: L :: S)) (hideAll h₆ S) := hide_three _ _ _ _
    refine qq _ _ ?_
    refine K _ h₆ t₆ (sub5.trans s₆) (entry_of (S' := r :: u :: dx :: L :: S) (da := .py (strsP (mergeP l1 l2))) (dr := Ls []) (s₆ _ _ x₅) (nS _ he.fx) (nS _ he.fd) (d₅.mono (s₆.hide _) fun o e => s₆ _ _ e) (by rfl) (fun v hv => DP.mono sbh hv) (by rfl) (fun v hv => DP.mono sbh hv) (by rfl) (by rfl) (by rfl))
end
end RsLaw
end
section
open PySem PySem.Spec PySem.Calls PySem.W PyProof.Rows PySem.SeqAt
set_option maxRecDepth 100000
set_option linter.unusedVariables false
namespace RsLaw
theorem bindL_get {kindOf : Str → Option NameKind} {x : Str} (hx : kindOf x = some .local) : ∀ (binds : List (Str × Value)) (m : Str → Option Value), (binds.map (·.1)).Nodup → bindL kindOf binds m x = (binds.lookup x).or (m x)
  | [], m, _ => rfl
  | (n, v) :: r, m, hn => by
    obtain ⟨h1, h2⟩ := List.nodup_cons.mp hn
    unfold bindL
    rw [bindL_get hx r _ h2, List.lookup_cons]
    cases q : x == n with
    | true =>
      have q' : x = n := by simpa using q
      subst q'
      rw [lookup_none_of h1, if_pos hx]; simp
    | false =>
      have q' : ¬ x = n := by simpa using q
      split
      · simp [q']
      · rfl
theorem bindC_get {kindOf : Str → Option NameKind} {x : Str} (hx : kindOf x = some .cell) : ∀ (binds : List (Str × Value)) (m : Str → Option Value), (binds.map (·.1)).Nodup → bindC kindOf binds m x = (binds.lookup x).or (m x)
  | [], m, _ => rfl
  | (n, v) :: r, m, hn => by
    obtain ⟨h1, h2⟩ := List.nodup_cons.mp hn
    unfold bindC
    rw [bindC_get hx r _ h2, List.lookup_cons]
    cases q : x == n with
    | true =>
      have q' : x = n := by simpa using q
      subst q'
      rw [lookup_none_of h1, if_neg (by rw [hx]; decide)]; simp
    | false =>
      have q' : ¬ x = n := by simpa using q
      split
      · rfl
      · simp [q']
section
variable {w : World} {n : Nat} {N : List (Str × NameKind)} {ρ : Rho}
/-- a frame with cells, entered -/
theorem enterC {scope : Scope} {env : Env} {ps : List Str} {vs : List Value} {ds : List Dat} {S : List Addr} {A : Around} {s s₁ : Shared} (hk : scope.kind = .function) (hsc : env.scope = scope) (hg : env.globals = mainGlobals) (hbi : env.builtins = builtinsNs) (hcs : env.cells = cellsFrom (env.locals + 1) scope.names [])
    (hloc : ∀ p ∈ ps, scope.names.lookup p = some .local ∨ scope.names.lookup p = some .cell) (hnd : ps.Nodup) (hl : ds.length = ps.length) (hA : okA n A)
    (l : Live S s.heap) (g : Good w (hideAll s.heap S)) (dd : DD (hideAll s.heap S) vs ds)
    (X : InCallC s env.locals (bindL env.kindOf (ps.zip vs) fun _ => none) env.cells (bindC env.kindOf (ps.zip vs) fun _ => none) s₁) :
    ∃ W h₀ tk, s₁ = { s with heap := h₀, toks := tk } ∧ Cx w n scope.names (ps.zip ds) env (W ++ S) A h₀ ∧ FS scope.names env W W (W ++ S) h₀ ∧ Sub s.heap h₀ ∧ ∀ a ∈ W, s.heap.get? a = none := by
  obtain ⟨h₀, tk, e⟩ := X.toInCall.same
  subst e
  have len : vs.length = ps.length := dd.length.trans hl
  have kp : Sub s.heap h₀ := X.toInCall.keep
  have fresh : ∀ a, env.locals ≤ a → s.heap.get? a = none := fun a ha => Heap.get?_none_of_le (Nat.le_trans X.toInCall.fresh ha)
  generalize hW : env.locals :: scope.names.filterMap (fun p => env.cells.lookup p.1) = W
  have LW : env.locals ∈ W := by rw [← hW]; exact .head _
  have inN : ∀ x c, env.cells.lookup x = some c → (x, NameKind.cell) ∈ scope.names := fun x c e => by
    by_cases q : (x, NameKind.cell) ∈ scope.names
    · exact q
    · rw [hcs, cells_none _ _ q] at e; cases e
  have cW : ∀ x c, env.cells.lookup x = some c → c ∈ W := fun x c e => by rw [← hW]; exact .tail _ (List.mem_filterMap.mpr ⟨_, inN x c e, e⟩)
  have wC : ∀ a ∈ W, a = env.locals ∨ ∃ x, env.cells.lookup x = some a := fun a ha => by
    rw [← hW] at ha
    rcases List.mem_cons.mp ha with q | q
    · exact .inl q
    · obtain ⟨p, _, e⟩ := List.mem_filterMap.mp q; exact .inr ⟨_, e⟩
  have wF : ∀ a ∈ W, s.heap.get? a = none := fun a ha => by
    rcases wC a ha with q | ⟨x, q⟩
    · rw [q]; exact fresh _ (Nat.le_refl _)
    · exact fresh _ (Nat.le_of_lt (X.above x a (mem_of_lookup q)))
  have wL : ∀ a ∈ W, ∃ o, h₀.get? a = some o := fun a ha => by
    rcases wC a ha with q | ⟨x, q⟩
    · rw [q]; obtain ⟨o, _, _, e, _⟩ := X.toInCall.ns; exact ⟨o, e⟩
    · obtain ⟨o, e, _⟩ := X.cell x a q; exact ⟨o, e⟩
  have kd : ∀ x, env.kindOf x = scope.names.lookup x := fun x => by rw [← hsc]; rfl
  have sub : Sub (hideAll s.heap S) (hideAll h₀ (W ++ S)) := fun b o e => hideAll_get _ (kp b o (of_hideAll _ e)) fun hm => by
    rcases List.mem_append.mp hm with q | q
    · have := of_hideAll _ e; rw [wF b q] at this; cases this
    · exact not_mem_of_hide e q
  refine ⟨W, h₀, tk, rfl, ⟨⟨by rw [hsc]; exact hk, kd, hg, hbi⟩, fun a ha => ?_, g.mono sub, fun x d e => ?_, hA⟩, ⟨⟨_, X.toInCall.ns⟩, LW, fun x c e => ⟨⟨_, X.cell x c e⟩, cW x c e, Nat.ne_of_gt (X.above x c (mem_of_lookup e))⟩, fun x e => ?_, fun x y c _ e e' => name_of_addr X.apart (mem_of_lookup e) (mem_of_lookup e'), fun a ha => ha, fun a ha => List.mem_append_left _ ha, wL⟩, kp, wF⟩
  · rcases List.mem_append.mp ha with q | q
    · exact wL a q
    · obtain ⟨o, e⟩ := l a q; exact ⟨o, kp _ _ e⟩
  · obtain ⟨v, hv, dv⟩ := dd.lookup e
    have hxp : x ∈ ps := by
      have : x ∈ (ps.zip ds).map (·.1) := by
        by_cases hm : x ∈ (ps.zip ds).map (·.1)
        · exact hm
        · rw [lookup_none_of hm] at e; cases e
      rwa [zip_keys hl] at this
    have nd : ((ps.zip vs).map (·.1)).Nodup := by rw [zip_keys len]; exact hnd
    refine ⟨v, ?_, dv.mono sub⟩
    rcases hloc x hxp with q | q
    · have q' := (kd x).trans q
      exact .loc _ q' X.toInCall.ns (by rw [bindL_get q' _ _ nd, hv]; rfl)
    · have q' := (kd x).trans q
      have z := cellsFrom_some (x := x) scope.names (env.locals + 1) [] (.inl q)
      rw [← hcs] at z
      obtain ⟨c, hc⟩ := Option.isSome_iff_exists.mp z
      have cc := X.cell x c hc
      rw [bindC_get q' _ _ nd, hv] at cc
      exact .cell c (.inl q') hc cc
  · have z := cellsFrom_some (x := x) scope.names (env.locals + 1) [] (.inl e)
    rw [← hcs] at z
    obtain ⟨c, hc⟩ := Option.isSome_iff_exists.mp z
    exact ⟨c, hc, cW x c hc⟩

/-- a call of a def whose names are cells in part: by its body -/
theorem FNv.of_defC {name qual : Str} {params : Arguments} {body : List Stmt} {scope : Scope} {dV kV doc pm cdv ct oc : Value} {an od : Option Addr} {osl : Array (Option Value)} {f : Addr} {ps : List Str} {ds : List Dat} {d : Dat}
    (ho : (hd.heap_39 w.params).lookup f = some ⟨oc, od, .func (fnOf name qual params body scope dV kV doc pm an cdv ct), osl⟩) (hcd : codeIn (hd.heap_39 w.params) cdv qual = true)
    (hb : ∀ vs : List Value, vs.length = ps.length → bindArgs (fnOf name qual params body scope dV kV doc pm an cdv ct) ⟨vs, []⟩ = pure (ps.zip vs)) (hl : ds.length = ps.length) (hnd : ps.Nodup)
    (hloc : ∀ p ∈ ps, scope.names.lookup p = some .local ∨ scope.names.lookup p = some .cell)
    (h : EX w n scope.names (ps.zip ds) body (.ret d))
    (hco : scope.isCoroutine = false) (hgen : scope.isGenerator = false) (hk : scope.kind = .function) : FNv w (n + 1) (.ref f) ds d := fun S A s vs hA l g dd => by
  intro Q E K
  have X := g.mono (Sub.of_hide _ S)
  have len : vs.length = ps.length := dd.length.trans hl
  refine wpAny_call (codeAny_call_cells (binds := ps.zip vs) hA.room (X.K _ _ ho) rfl (by obtain ⟨_, _, _, _, z, _⟩ := X.top; exact z) (codeRec_of X.K hcd) rfl (hb vs len) rfl (fun x hx => ?_) (fun s₁ Y => ?_) hco hgen hk)
  · have : x.1 ∈ ps := by
      have := List.mem_map_of_mem (f := (·.1)) hx
      rwa [zip_keys len] at this
    rcases hloc _ this with q | q
    · exact .inl q
    · exact .inr ⟨q, cellsFrom_some (x := x.1) scope.names _ [] (.inl q)⟩
  · obtain ⟨W, h₀, tk, rfl, C, F, sb, wF⟩ := enterC (n := n) (A := A.deeper (callEnvC (fnOf name qual params body scope dV kV doc pm an cdv ct) s.heap.objs.size f)) (scope := scope) hk rfl rfl rfl rfl hloc hnd hl ⟨hA.handled, by have := hA.depth; show A.depth + 1 + 2 * n < 1000; omega, by have := hA.units; show A.units + 3 + 100 + 10 * n < 9900; omega⟩ l g dd Y
    refine wpAny_mono (h _ W W (W ++ S) _ { s with heap := h₀, toks := tk } C F _ (fun _ _ => False) fun fl h' tk' k F' r => ?_) (fun _ _ z => z) fun _ _ z => z.elim
    cases fl with
    | ret v => exact K v h' tk' (fun b o e => k b o (fun hm => by rw [wF b hm] at e; cases e) (sb b o e)) (D.mono (fun b o e => hideAll_get _ (of_hideAll _ e) fun hm => not_mem_of_hide e (List.mem_append_right _ hm)) r)
    | _ => exact r.elim
end
end RsLaw
end
section
open PySem PySem.Spec PySem.Calls PySem.W PyProof.Rows PySem.SeqAt
set_option maxRecDepth 100000
set_option linter.unusedVariables false
namespace RsLaw
noncomputable def intsP (l : List Int) : PyData := .list (l.map PyData.int)
noncomputable def boolsP (l : List Bool) : PyData := .list (l.map PyData.bool)
theorem intsAre_of {h : Heap} : ∀ {ss : List Int} {vs : List Value}, DPs h vs (ss.map PyData.int) → IntsAre vs ss
  | [], _, r => by rw [r.unnil]; exact .nil
  | x :: ss, _, r => by obtain ⟨v, vs', rfl, a, r'⟩ := r.uncons; obtain ⟨t, rfl⟩ := DP.int_inv a; exact .cons x t (intsAre_of r')
theorem of_intsAre {h : Heap} : ∀ {ss : List Int} {vs : List Value}, IntsAre vs ss → DPs h vs (ss.map PyData.int)
  | _, _, .nil => .nil
  | _, _, .cons x t r => .cons (DP.int _ _) (of_intsAre r)
theorem bools_of {h : Heap} : ∀ {ss : List Bool} {vs : List Value}, DPs h vs (ss.map PyData.bool) → vs = ss.map Value.bool
  | [], _, r => r.unnil
  | x :: ss, _, r => by obtain ⟨v, vs', rfl, a, r'⟩ := r.uncons; rw [DP.bool_inv a, bools_of r']; rfl
section
variable {w : World} {n : Nat} {N : List (Str × NameKind)} {ρ : Rho}
theorem fn_sum {l : List Int} : FNv w n (.builtin "sum") [.py (intsP l)] (I l.sum) := FNv.one fun S A s a hA lv g ha => by
  obtain ⟨al, vs, rfl, hl, q⟩ := DP.list_inv (DP.mono (Sub.of_hide _ _) ha)
  have hi := intsAre_of q
  intro Q E K
  obtain ⟨xs, e⟩ := hi.allInts.items
  have z := hi.numsOf
  have e2 : numsOf vs = numsOf (intItems xs).toList := by rw [← e]
  rw [nums_intItems, z] at e2
  rw [e] at hl
  refine sum_intListG hA.handled hl fun h' tk t' hk => ?_
  rw [preSum_eq, List.take_of_length_le (by simp), ← e2]
  exact K _ h' tk hk (DP.int _ _)
noncomputable def min2 (a b : Int) : Int := if b < a then b else a
theorem fn_min {a b : Int} : FNv w n (.builtin "min") [.py (intsP [a, b])] (I (min2 a b)) := FNv.one fun S A s x hA lv g ha => by
  obtain ⟨al, vs, rfl, hl, q⟩ := DP.list_inv (DP.mono (Sub.of_hide _ _) ha)
  obtain ⟨v1, r1, rfl, q1, q⟩ := q.uncons
  obtain ⟨v2, r2, rfl, q2, q⟩ := q.uncons
  have := q.unnil; subst this
  obtain ⟨t, rfl⟩ := DP.int_inv q1
  obtain ⟨u, rfl⟩ := DP.int_inv q2
  intro Q E K
  refine min_intList (xs := #[(a, t), (b, u)]) hA.handled (by simpa [intItems] using hl) (by simp) fun v h' tk hv hk => ?_
  refine K v h' tk hk ?_
  unfold min2
  have e : argBest (fun i j => decide (numAt #[(a, t), (b, u)] i < numAt #[(a, t), (b, u)] j)) (#[(a, t), (b, u)].size - 1) = if b < a then 1 else 0 := by
    show (if decide (b < a) = true then 1 else 0) = _
    simp
  rw [e] at hv
  by_cases hc : b < a
  · rw [if_pos hc] at hv ⊢
    have : v = .int b u := by simpa [intItems] using hv.symm
    rw [this]; exact DP.int _ _
  · rw [if_neg hc] at hv ⊢
    have : v = .int a t := by simpa [intItems] using hv.symm
    rw [this]; exact DP.int _ _
theorem fn_all {l : List Bool} : FNv w n (.builtin "all") [.py (boolsP l)] (B (l.all id)) := FNv.one fun S A s x hA lv g ha => by
  obtain ⟨al, vs, rfl, hl, q⟩ := DP.list_inv (DP.mono (Sub.of_hide _ _) ha)
  have := bools_of q
  subst this
  intro Q E K
  have hlt : al < s.heap.objs.size := by obtain ⟨_, e, _⟩ := hl; exact Heap.lt_size e
  refine call_all_walk (wpAny_pyIter_list hl ?_)
  refine ⟨_, _, _, _, _, _, fun i => l.getD i true, rfl, Walks.list (A := A.in1) hA.handled s.heap.objs.size al (Nat.ne_of_lt hlt) (l.map Value.bool).toArray, ⟨⟨_, Heap.get?_push_size _ rfl, rfl, rfl⟩, hl.push _⟩, fun i v s' Q' E' hP hQ => ?_, fun h' tk hk => ?_⟩
  · have hp : (l[i]?).map Value.bool = some v := by simpa using hP
    cases q : l[i]? with
    | none => rw [q] at hp; cases hp
    | some b =>
      rw [q] at hp; cases hp
      refine wpAny_truthy_bool ?_
      dsimp only at hQ
      rw [List.getD_eq_getElem?_getD, q] at hQ
      exact hQ
  · have e : ((List.range (l.map Value.bool).toArray.size).all fun i => l.getD i true) = l.all id := by
      have : ∀ (l : List Bool), ((List.range l.length).all fun i => l.getD i true) = l.all id := by
        intro l
        induction l with
        | nil => rfl
        | cons b l ih => rw [List.length_cons, List.range_succ_eq_map, List.all_cons, List.all_cons, List.all_map]; exact congrArg (b && ·) ih
      simpa using this l
    rw [e]
    exact K _ h' tk (old_kept hk) (DP.bool _)
theorem nt_sum (hx : N.lookup ("sum" : Str) = some .globalImplicit) : NameTo w N "sum" (.builtin "sum") := NameTo.builtin hx (by k_is) (by decide +kernel)
theorem nt_min (hx : N.lookup ("min" : Str) = some .globalImplicit) : NameTo w N "min" (.builtin "min") := NameTo.builtin hx (by k_is) (by decide +kernel)
theorem nt_all (hx : N.lookup ("all" : Str) = some .globalImplicit) : NameTo w N "all" (.builtin "all") := NameTo.builtin hx (by k_is) (by decide +kernel)
theorem nt_sorted (hx : N.lookup ("sorted" : Str) = some .globalImplicit) : NameTo w N "sorted" (.builtin "sorted") := NameTo.builtin hx (by k_is) (by decide +kernel)
theorem nt_zip (hx : N.lookup ("zip" : Str) = some .globalImplicit) : NameTo w N "zip" (.type "zip") := NameTo.builtin hx (by k_is) (by decide +kernel)
end
end RsLaw
end
section
open PySem PySem.Spec PySem.Calls PySem.W PyProof.Rows PySem.SeqAt
set_option maxRecDepth 100000
set_option linter.unusedVariables false
namespace RsLaw
/-- an iterator that hands out pairs -/
structure WalkerT (w : World) (A : Around) (S : List Addr) (h₀ h₂ : Heap) (J : Addr) (items : List (PyData × PyData)) (fp wr : List Addr) (Pt : Nat → Array Value → Prop) (St : Nat → Heap → Prop) (Mid : Nat → Addr → Heap → Prop) : Prop where
  walk : WalksT PR w A J fp wr items.length Pt St Mid
  start : St 0 h₂
  sub : Sub h₀ h₂
  fresh : ∀ b ∈ wr, h₀.get? b = none
  alive : ∀ i h, St i h → ∀ b ∈ wr, ∃ o, h.get? b = some o
  foot : ∀ b ∈ fp, ∃ o, h₂.get? b = some o
  item : ∀ i vals, i < items.length → Pt i vals → ∃ d₁ d₂ v₁ v₂, items[i]? = some (d₁, d₂) ∧ vals = #[v₁, v₂] ∧ ∀ h', Sub (hideAll h₀ S) h' → DP h' v₁ d₁ ∧ DP h' v₂ d₂
noncomputable def IterT (w : World) (n : Nat) (N : List (Str × NameKind)) (ρ : Rho) (iter : Expr) (items : List (PyData × PyData)) : Prop :=
  ∀ (env : Env) (S : List Addr) (A : Around) (s : Shared), Cx w n N ρ env S A s.heap → ∀ (Q : Value → Shared → Prop) (E : Value → Shared → Prop),
    (∀ J fp wr h₂ tk Pt St Mid, WalkerT w A S s.heap h₂ J items fp wr Pt St Mid → Q (.ref J) { s with heap := h₂, toks := tk }) → wpAny (model PR w) A (eval iter env) (fun v s' => wpAny (model PR w) A (pyIter v) Q E s') E s
section
variable {w : World} {n : Nat} {N : List (Str × NameKind)} {ρ ρf : Rho}
open PyProof.Rows.LCp in
theorem comp2_core {elt iter : Expr} {x y : Str} {px py tpos pos : Pos} {tk0 : Nat} {scope : Scope} {items : List (PyData × PyData)} {out : Nat → Dat} {env : Env} {S : List Addr} {A : Around} {s : Shared} {E : Value → Shared → Prop} {RR : Value → Addr → Result → Shared → Prop}
    {J : Addr} {fp wr : List Addr} {h₂ : Heap} {tk₂ : Nat} {Pt : Nat → Array Value → Prop} {St' : Nat → Heap → Prop} {Mid : Nat → Addr → Heap → Prop}
    (O : CompOK N ρ ρf scope x) (Oy : scope.names.lookup y = some .local ∨ scope.names.lookup y = some .cell) (hlen : items.length ≤ 1000000)
    (elts : ∀ i d₁ d₂, items[i]? = some (d₁, d₂) → EV w n (relN N scope.names) ((y, .py d₂) :: (x, .py d₁) :: ρf) elt (out i))
    (C : Cx w n N ρ env S A s.heap) (wk : WalkerT w A S s.heap h₂ J items fp wr Pt St' Mid)
    (hRR : ∀ (a Cc : Addr) h' tk vs, Sub s.heap h' → h'.IsList a vs.toArray → (∃ o, (hideAll h' (Cc :: S)).get? a = some o ∧ o.cls = .type "list" ∧ ∃ k, o.data = .seq vs.toArray k) → DD (hideAll h' (Cc :: S)) vs (resAt (fun _ => true) out items.length) → (∃ m, h'.Ns Cc m) → s.heap.get? Cc = none → RR (.ref a) Cc (.ok .next) { s with heap := h', toks := tk }) :
    wpAny (model PR w) A (newList []) (fun acc s₃ => wpAny (model PR w) A (newFunctionEnv scope env.globals (cloL env scope.names []) [] env.qual none .none (some env)) (fun cenv s₄ =>
      codeAny (model PR w) A (.compStart (.ListComp elt [⟨.Tuple [.Name x px, .Name y py] tk0 tpos, iter, [], 0⟩] scope pos) 0 (.ref J) acc { cenv with scope := relabel scope env }) (RR acc cenv.locals) s₄) E s₃) E { s with heap := h₂, toks := tk₂ } := by
  refine comp_enter (s := s) O C wk.sub wk.fresh (wk.alive _ _ wk.start) fun a Cc cells Wc Vc S' h₅ X => ?_
  have memS : ∀ b ∈ Wc, b ∈ S' := fun b hb => (X.inS' b).mpr (.inl hb)
  have wrS' : ∀ b ∈ wr, b ∈ S' := fun b hb => (X.inS' b).mpr (.inr (.inl hb))
  have aS' : a ∈ S' := (X.inS' a).mpr (.inr (.inr (.inl rfl)))
  have fpn : ∀ b ∈ fp, b ∉ Wc ∧ b ≠ a := fun b hb => by
    obtain ⟨o, e⟩ := wk.foot b hb
    exact X.fpn b o e
  have tgt : ∀ z, (scope.names.lookup z = some .local ∨ scope.names.lookup z = some .cell) → (relN N scope.names).lookup z = some .local ∨ (relN N scope.names).lookup z = some .cell := fun z hz => by
    rcases hz with q | q
    · left; rw [relN_lookup q]; rfl
    · right; rw [relN_lookup q]; rfl
  have tgt2 : ∀ z, (scope.names.lookup z = some .local ∨ scope.names.lookup z = some .cell) → scope.names.lookup z = (relN N scope.names).lookup z := fun z hz => by
    rcases hz with q | q
    · rw [relN_lookup q, q]; rfl
    · rw [relN_lookup q, q]; rfl
  have loop : codeAny (model PR w) A (.compLoop (.ListComp elt [⟨.Tuple [.Name x px, .Name y py] tk0 tpos, iter, [], 0⟩] scope pos) 0 (.ref J) (.ref a) (compEnv scope env Cc cells)) (RR (.ref a) Cc) { s with heap := h₅, toks := tk₂ } := by
    refine codeAny_compLoop_pair (fun m s' => ∃ i h' tk vs, (m = items.length + 1 - i ∧ s' = { s with heap := h', toks := tk }) ∧ All8 (i ≤ items.length) (St' i h') (Sub s.heap h') (∃ o, h'.get? a = some o ∧ o.cls = .type "list" ∧ ∃ k, o.data = .seq vs.toArray k)
      (DD (hideAll h' S') vs (resAt (fun _ => true) out i)) (vs.length ≤ i) (FS scope.names (compEnv scope env Cc cells) Wc Vc S' h') (Cx w n (relN N scope.names) ρf (compEnv scope env Cc cells) S' A h')) ?_ (items.length + 1)
      ⟨0, h₅, tk₂, [], ⟨by omega, rfl⟩, Nat.zero_le _, wk.walk.frame _ _ _ wk.start (fun b _ q e => X.s25 _ _ e), X.s05, ⟨_, X.listA, rfl, 0, rfl⟩, .nil, Nat.le_refl _, X.F₅, X.C₅⟩
    rintro m s' ⟨i, h', tk, vs, ⟨rfl, rfl⟩, hi, st, sb, ⟨oa, ha1, ha2, ka, ha3⟩, dd, vl, F', C'⟩
    by_cases hlt : i < items.length
    · refine wk.walk.item i _ _ _ hlt st fun T vals h₅' tk₆ hP hT hTup hMid k₅' => ?_
      refine wk.walk.go _ _ _ i T _ _ _ hMid fun h₆ st₆ k₆' => ?_
      have k₆ : Keep wr h' h₆ := fun b q hb e => k₆' b q hb (k₅' b q hb e)
      obtain ⟨C₆, F₆⟩ := Cx.turns C' F' wrS' X.wrV' k₆ (wk.alive _ _ st₆)
      obtain ⟨d₁, d₂, v₁, v₂, hd', rfl, dv⟩ := wk.item i vals hlt hP
      have sb₆ : Sub s.heap h₆ := fun b q e => k₆ b q ((X.hSn b q e).2.1) (sb _ _ e)
      have dd₆ : DD (hideAll h₆ S') vs (resAt (fun _ => true) out i) := dd.mono (k₆.hide wrS')
      have dT : D (hideAll h₆ S') (.ref T) (Tu [d₁, d₂]) := by
        obtain ⟨oT, t1, t2, nT, t3⟩ := hTup
        have z := dv _ (X.subS h₆ sb₆)
        refine DP.tuple (vs := [v₁, v₂]) ⟨oT, hideAll_get _ (k₆' T oT (wk.walk.apart _ _ _ hMid) t1) fun hm => ?_, t2, nT, t3⟩ (.cons z.1 (.cons z.2 .nil))
        obtain ⟨o, e⟩ := C'.live T hm
        exact Nat.lt_irrefl _ (Nat.lt_of_lt_of_le (Heap.lt_size e) hT)
      refine assign2_run (s := { s with heap := h₆, toks := tk₆ }) C₆ F₆ dT (tgt x O.tgt) (tgt y Oy) (tgt2 x O.tgt) (tgt2 y Oy) fun h₇ tk₇ k₇ F₇ r₇ => ?_
      have C₇ := C₆.after F₆ k₇ F₇ r₇
      have ha₇ : h₇.get? a = some oa := k₇ a oa X.aV (k₆ a oa X.awr ha1)
      have sb₇ : Sub s.heap h₇ := fun b q e => k₇ b q (X.hSn b q e).1 (sb₆ _ _ e)
      have st₇ : St' (i + 1) h₇ := wk.walk.frame _ _ _ st₆ fun b hb q e => k₇ b q (fpn b hb).1 e
      have dd₇ := dd₆.mono (k₇.hide memS)
      have lss : ∀ z d', ρf.lookup z = some d' → ((y, Dat.py d₂) :: (x, Dat.py d₁) :: ρf).lookup z = some d' := fun z d' e => by
        have zz := (O.cap z d' e).2.1
        rw [List.lookup_cons]
        cases q : z == y with
        | true =>
          have q' : z = y := by simpa using q
          subst q'
          rcases Oy with t' | t' <;> (rw [t'] at zz; cases zz)
        | false =>
          dsimp only
          rw [List.lookup_cons]
          cases q2 : z == x with
          | true =>
            have q' : z = x := by simpa using q2
            subst q'
            rcases O.tgt with t' | t' <;> (rw [t'] at zz; cases zz)
          | false => exact e
      refine elts i d₁ d₂ hd' (compEnv scope env Cc cells) _ A { s with heap := h₇, toks := tk₇ } C₇ _ _ fun u h₉ tk₉ s₉ du => ?_
      have sz : vs.toArray.size ≤ sizeLine := by rw [List.size_toArray]; show _ ≤ 2 ^ 24; omega
      refine wpAny_list_append (items := vs.toArray) ⟨oa, s₉ _ _ ha₇, ha2, ka, ha3⟩ (fun h₁₀ hl₁₀ hs₁₀ => ?_) sz
      have kA : Keep [a] h₉ h₁₀ := fun b q hb e => hs₁₀.extBut b q (by simpa using hb) e
      obtain ⟨oA, hA1, hA2⟩ := hl₁₀
      obtain ⟨C₁₀, F₁₀⟩ := Cx.turn (C₇.mono s₉) (F₇.mono s₉) aS' X.aV' kA ⟨oA, hA1⟩
      have kS : Sub (hideAll h₉ S') (hideAll h₁₀ S') := kA.hide fun b hb => List.mem_singleton.mp hb ▸ aS'
      refine ⟨items.length + 1 - (i + 1), by omega, i + 1, h₁₀, tk₉, vs ++ [u], ⟨rfl, rfl⟩, hlt, wk.walk.frame _ _ _ (wk.walk.frame _ _ _ st₇ fun b _ q e => s₉ _ _ e) fun b hb q e => kA b q (fun hm => (fpn b hb).2 (List.mem_singleton.mp hm)) e,
        fun b q e => kA b q (fun hm => (X.hSn b q e).2.2 (List.mem_singleton.mp hm)) (s₉ _ _ (sb₇ _ _ e)), ⟨oA, hA1, hA2.1, by obtain ⟨k', z⟩ := hA2.2; exact ⟨k', by rw [z]; simp⟩⟩, ?_, by simp; omega, F₁₀, C₁₀.less lss⟩
      rw [resAt_succ, if_pos rfl]
      exact DD.snoc (du.mono kS) ((dd₇.mono (s₉.hide _)).mono kS)
    · have hin : i = items.length := by omega
      subst hin
      refine wk.walk.done _ _ _ st fun h₆ tk₆ k₆ => ?_
      have ha₆ : h₆.get? a = some oa := k₆ a oa X.awr ha1
      have sb₆ : Sub s.heap h₆ := fun b q e => k₆ b q ((X.hSn b q e).2.1) (sb _ _ e)
      have F₆ := F'.turns X.wrV' (fun b q hb e => k₆ b q hb e)
      have big : Sub (hideAll h' S') (hideAll h₆ (Cc :: S)) := fun b q e => by
        have hn := not_mem_of_hide e
        refine hideAll_get _ (k₆ b q (fun hm => hn (wrS' b hm)) (of_hideAll _ e)) fun hm => hn ?_
        rcases List.mem_cons.mp hm with z | z
        · exact z ▸ memS _ X.CcW
        · exact (X.inS' b).mpr (.inr (.inr (.inr z)))
      refine hRR a Cc h₆ tk₆ vs sb₆ ⟨oa, ha₆, ha2, ka, ha3⟩ ⟨oa, hideAll_get _ ha₆ fun hm => ?_, ha2, ka, ha3⟩ (dd.mono big) F₆.loc ?_
      · rcases List.mem_cons.mp hm with z | z
        · exact X.aV (z ▸ X.CcW)
        · exact X.aJ z
      · cases q : s.heap.get? Cc with
        | none => rfl
        | some o => exact absurd X.CcW (X.hSn _ _ q).1
  exact codeAny_compStart_list loop (wk.walk.self 0 { s with heap := h₅, toks := tk₂ } _ _ (wk.walk.frame _ _ _ wk.start (fun b _ q e => X.s25 _ _ e)) loop)

theorem EV.comp2 {elt iter : Expr} {x y : Str} {px py tpos pos : Pos} {tk0 : Nat} {scope : Scope} {items : List (PyData × PyData)} {out : Nat → Dat} {d : Dat} (it : IterT w n N ρ iter items) (O : CompOK N ρ ρf scope x) (Oy : scope.names.lookup y = some .local ∨ scope.names.lookup y = some .cell) (hlen : items.length ≤ 1000000)
    (elts : ∀ i d₁ d₂, items[i]? = some (d₁, d₂) → EV w n (relN N scope.names) ((y, .py d₂) :: (x, .py d₁) :: ρf) elt (out i))
    (hd' : Lists (resAt (fun _ => true) out items.length) d) (hs : ∀ env x, foldedSetIterable iter env x = pure x := by intro _ _; rfl) : EV w n N ρ (.ListComp elt [⟨.Tuple [.Name x px, .Name y py] tk0 tpos, iter, [], 0⟩] scope pos) d := fun env S A s C Q E K => by
  rw [eval_ListComp]
  refine wpAny_comprehension_free (use := none) rfl (hs env) (closure_of (O.cells C)) O.kind O.names (it env S A s C _ E fun J fp wr h₂ tk₂ Pt St' Mid wk => ?_)
  refine comp2_core (s := s) O Oy hlen elts C wk fun a Cc h' tk vs sb hl hl' dd hn hf => ?_
  obtain ⟨m, hm⟩ := hn
  refine ⟨m, hm, fun h'' hs'' => K _ h'' tk (fun b o e => ?_) (D.mono ?_ (hd' _ a vs hl' dd))⟩
  · exact (hs''.2 b (fun z => by rw [z] at e; rw [hf] at e; cases e)).trans (sb _ _ e)
  · intro b o e
    have hn := not_mem_of_hide e
    exact hideAll_get _ ((hs''.2 b fun z => hn (z ▸ .head _)).trans (of_hideAll _ e)) fun hm => hn (.tail _ hm)
end
end RsLaw
end
section
open PySem PySem.Spec PySem.Calls PySem.W PyProof.Rows PySem.SeqAt
set_option maxRecDepth 100000
set_option linter.unusedVariables false
namespace RsLaw
section
variable {w : World} {n : Nat} {N : List (Str × NameKind)} {ρ ρf : Rho}

theorem flats_get {l : List PyData} (hf : flats l = true) {i : Nat} {d : PyData} (h : l[i]? = some d) : flat d = true := by
  unfold flats at hf
  rw [List.all_eq_true] at hf
  exact hf d (List.mem_of_getElem? h)
theorem zip_apart {G l1 l2 : Nat} (h1 : l1 < G) (h2 : l2 < G) : ZipApart (G + 4) (G + 2) (G + 3) G (G + 1) l1 l2 := by
  constructor <;> (intro hq; have hq' : (_ : Nat) = _ := hq; omega)
theorem zip_ge {G : Nat} : ∀ b ∈ [G + 4, G + 3, G, G + 1], G ≤ b := by
  simp only [List.mem_cons, List.not_mem_nil, or_false]
  rintro b (rfl | rfl | rfl | rfl)
  · exact Nat.le_add_right _ _
  · exact Nat.le_add_right _ _
  · exact Nat.le_refl _
  · exact Nat.le_add_right _ _
theorem zip_foot {h : Heap} {z TI TO i1 i2 l1 l2 : Addr} {r p q : Value} {xs ys : Array Value} {i j : Nat} (st : IsZip h z TI TO r ∧ IsPair h TI p q ∧ (∃ a b, IsPair h TO a b) ∧ h.IsListIter i1 l1 i ∧ h.IsListIter i2 l2 j ∧ h.IsList l1 xs ∧ h.IsList l2 ys) :
    ∀ b ∈ [z, TI, TO, i1, i2, l1, l2], ∃ o, h.get? b = some o := by
  obtain ⟨a1, a2, ⟨_, _, a3⟩, ⟨_, a4, _⟩, ⟨_, a5, _⟩, ⟨_, a6, _⟩, ⟨_, a7, _⟩⟩ := st
  simp only [List.mem_cons, List.not_mem_nil, or_false]
  rintro b (rfl | rfl | rfl | rfl | rfl | rfl | rfl)
  · exact ⟨_, a1⟩
  · exact ⟨_, a2⟩
  · exact ⟨_, a3⟩
  · exact ⟨_, a4⟩
  · exact ⟨_, a5⟩
  · exact ⟨_, a6⟩
  · exact ⟨_, a7⟩
theorem zip_item {h h₀ : Heap} {xs ys : List PyData} {v1 v2 : List Value} {i : Nat} {vals : Array Value} (fx : flats xs = true) (fy : flats ys = true) (q1 : DPs h v1 xs) (q2 : DPs h v2 ys) (hi : i < (xs.zip ys).length) (hP : ∃ x y, v1.toArray[i]? = some x ∧ v2.toArray[i]? = some y ∧ vals = #[x, y]) :
    ∃ d₁ d₂ v₁ v₂, (xs.zip ys)[i]? = some (d₁, d₂) ∧ vals = #[v₁, v₂] ∧ ∀ h', Sub h₀ h' → DP h' v₁ d₁ ∧ DP h' v₂ d₂ := by
  obtain ⟨x, y, hx, hy, rfl⟩ := hP
  rw [List.getElem?_toArray] at hx hy
  rw [List.length_zip] at hi
  have gx : xs[i]? = some xs[i] := List.getElem?_eq_getElem (Nat.lt_of_lt_of_le hi (Nat.min_le_left ..))
  have gy : ys[i]? = some ys[i] := List.getElem?_eq_getElem (Nat.lt_of_lt_of_le hi (Nat.min_le_right ..))
  obtain ⟨u1, hu1, du1⟩ := q1.get i gx
  obtain ⟨u2, hu2, du2⟩ := q2.get i gy
  rw [hx] at hu1; cases hu1
  rw [hy] at hu2; cases hu2
  exact ⟨xs[i], ys[i], x, y, List.getElem?_zip_eq_some.mpr ⟨gx, gy⟩, rfl, fun h'' _ => ⟨flat_DP (flats_get fx gx) du1, flat_DP (flats_get fy gy) du2⟩⟩
theorem iterT_zip {e₁ e₂ : Expr} {np pos : Pos} {xs ys : List PyData} (hz : N.lookup ("zip" : Str) = some .globalImplicit) (h₁ : EV w n N ρ e₁ (Ls xs)) (h₂ : EV w n N ρ e₂ (Ls ys)) (fx : flats xs = true) (fy : flats ys = true)
    (hc : ∀ env, eval (.Call (.Name "zip" np) [e₁, e₂] [] pos) env = (do callWith pos (← eval (.Name "zip" np) env) [] (backTo pos (starEach [e₁, e₂] env)) (backToKw pos (keywordEach [] env))) := by intro _; rfl)
    (he : ∀ env rest, starEach (e₁ :: rest) env = (false, eval e₁ env) :: starEach rest env := by intro _ _; rfl) (he₂ : ∀ env rest, starEach (e₂ :: rest) env = (false, eval e₂ env) :: starEach rest env := by intro _ _; rfl) :
    IterT w n N ρ (.Call (.Name "zip" np) [e₁, e₂] [] pos) (xs.zip ys) := fun env S A s C Q E K => by
  have r₂ : ARGS w n N ρ [e₂] [Ls ys] := ARGS.cons h₂ .nil he₂
  refine Call_ (nt_zip hz env S s A np _ _ C.env_ok C.good (PyProof.Rows.callWith_type1 ((ARGS.cons h₁ r₂ he).run env S A s pos _ _ C fun vs h' tk s₁ dd => ?_) (he _ _) (r₂.plain pos env))) (hc env)
  cases dd with | cons a r => cases r with | cons b r =>
  cases r
  obtain ⟨l1, v1, rfl, ⟨o1, e1, f1⟩, q1⟩ := DP.list_inv a
  obtain ⟨l2, v2, rfl, ⟨o2, e2, f2⟩, q2⟩ := DP.list_inv b
  have hl1 : h'.IsList l1 v1.toArray := ⟨o1, of_hideAll _ e1, f1⟩
  have hl2 : h'.IsList l2 v2.toArray := ⟨o2, of_hideAll _ e2, f2⟩
  have lt1 := Heap.lt_size (of_hideAll _ e1)
  have lt2 := Heap.lt_size (of_hideAll _ e2)
  refine call_zip_2 (s := { s with heap := h', toks := tk }) hl1 hl2 fun h₃ z1 z2 z3 z4 z5 z6 kp => ?_
  dsimp only at z1 z2 z3 z4 z5 z6 kp ⊢
  generalize hG : h'.objs.size = G at z1 z2 z3 z4 z5 z6 lt1 lt2 ⊢
  refine wpAny_pyIter_zip z1 ?_
  have ap : ZipApart (G + 4) (G + 2) (G + 3) G (G + 1) l1 l2 := zip_apart lt1 lt2
  have W := WalksT.zip2 (prog := PR) (w := w) (A := A) C.room.handled (G + 4) (G + 2) (G + 3) G (G + 1) l1 l2 ap v1.toArray v2.toArray
  have el : min v1.toArray.size v2.toArray.size = (xs.zip ys).length := by simp [q1.length, q2.length]
  rw [el] at W
  have st0 : IsZip h₃ (G + 4) (G + 2) (G + 3) .none ∧ IsPair h₃ (G + 2) (.ref G) (.ref (G + 1)) ∧ (∃ a b, IsPair h₃ (G + 3) a b) ∧ h₃.IsListIter G l1 0 ∧ h₃.IsListIter (G + 1) l2 0 ∧ h₃.IsList l1 v1.toArray ∧ h₃.IsList l2 v2.toArray :=
    ⟨z1, z2, ⟨_, _, z3⟩, z4, z5, ⟨o1, kp _ _ (of_hideAll _ e1), f1⟩, ⟨o2, kp _ _ (of_hideAll _ e2), f2⟩⟩
  have fr : ∀ b, G ≤ b → s.heap.get? b = none := fun b hb => by
    cases q : s.heap.get? b with
    | none => rfl
    | some o => have := Heap.lt_size (s₁ _ _ q); rw [hG] at this; exact absurd this (Nat.not_lt.mpr hb)
  exact K _ _ _ h₃ tk _ _ _ ⟨W, st0, fun b o e => kp _ _ (s₁ _ _ e), fun b hb => fr b (zip_ge b hb), fun i h st b hb => zip_foot st b (W.sub b hb), zip_foot st0, fun i vals hi hP => zip_item fx fy q1 q2 hi hP⟩

theorem TST.chain2 {e₁ e₂ e₃ : Expr} {op₁ op₂ : CmpOp} {pos : Pos} {d₁ d₂ d₃ : Dat} {b c : Bool} (h₁ : EV w n N ρ e₁ d₁) (h₂ : EV w n N ρ e₂ d₂) (h₃ : EV w n N ρ e₃ d₃) (o₁ : Op2 w n (compareOp op₁) d₁ d₂ (B b)) (o₂ : Op2 w n (compareOp op₂) d₂ d₃ (B c))
    (hm : lastMarks [op₁, op₂] [e₂, e₃] = false := by with_unfolding_all rfl) : TST w n N ρ (.Compare e₁ [op₁, op₂] [e₂, e₃] pos) (b && c) := fun env S A s C Q E K => by
  refine isTrue_chain (h₁ env S A s C _ E fun v₁ g₁ t₁ s₁ r₁ => ?_) hm
  have C₁ := C.mono s₁
  refine test_link (h₂ env S A _ C₁ _ E fun v₂ g₂ t₂ s₂ r₂ => ?_)
  have C₂ := C₁.mono s₂
  refine o₁ S A { s with heap := g₂, toks := t₂ } v₁ v₂ C.room C₂.live C₂.good (r₁.mono (s₂.hide S)) r₂ _ E fun v g₃ t₃ s₃ r₃ => ?_
  rw [DP.bool_inv r₃]
  refine wpAny_truthy_bool ?_
  have C₃ := C₂.mono s₃
  cases b with
  | false => exact K g₃ t₃ ((s₁.trans s₂).trans s₃)
  | true =>
    refine test_last (h₃ env S A { s with heap := g₃, toks := t₃ } C₃ _ E fun v₃ g₄ t₄ s₄ r₄ => ?_)
    have C₄ := C₃.mono s₄
    refine o₂ S A { s with heap := g₄, toks := t₄ } v₂ v₃ C.room C₄.live C₄.good (r₂.mono ((s₃.trans s₄).hide S)) r₄ _ E fun v g₅ t₅ s₅ r₅ => ?_
    rw [DP.bool_inv r₅]
    exact wpAny_truthy_bool (K g₅ t₅ ((((s₁.trans s₂).trans s₃).trans s₄).trans s₅))

theorem itersG_tuple {tgt : Expr} {xs : List PyData} : ItersG w n tgt (Tu xs) (xs.map Dat.py) := fun S A s v hA l g r Q E K => by
  obtain ⟨a, vs, rfl, hl, q⟩ := DP.tuple_inv r
  obtain ⟨ol, e1, e2⟩ := hl
  have hl' : s.heap.IsTuple a vs.toArray := ⟨ol, Sub.of_hide _ _ _ _ e1, e2⟩
  have hlt : a < s.heap.objs.size := Heap.lt_size (Sub.of_hide _ _ _ _ e1)
  refine wpAny_pyIter_tuple hl' (K _ [s.heap.objs.size, a] _ s.toks (fun i v => vs.toArray[i]? = some v) (fun i h => h.IsTupleIter s.heap.objs.size a i ∧ h.IsTuple a vs.toArray) ⟨?_, ?_, Sub.push _ _, get_size, (fun i h st => by obtain ⟨o, e, _⟩ := st.1; exact ⟨o, e⟩), fun b hb => ?_, fun i v hi hp => ?_⟩
    fun i h tk' u Q' E' st q' => letGo_tupleiter st.1 q')
  · have W := Walks.tuple (prog := PR) (w := w) hA.handled s.heap.objs.size a (Nat.ne_of_lt hlt) vs.toArray
    have e : vs.toArray.size = (xs.map Dat.py).length := by simp [q.length]
    rw [e] at W
    exact W
  · exact ⟨⟨_, Heap.get?_push_size _ rfl, rfl, rfl⟩, ⟨ol, Heap.get?_push_of_some _ (Sub.of_hide _ _ _ _ e1), e2⟩⟩
  · rcases List.mem_cons.mp hb with h | h
    · exact .inl h
    · rw [List.mem_singleton.mp h]; exact .inr ⟨ol, e1⟩
  · have hp' : vs[i]? = some v := by simpa using hp
    have hi' : i < xs.length := by simpa using hi
    obtain ⟨u, hu, du⟩ := q.get i (List.getElem?_eq_getElem hi')
    rw [hp'] at hu; cases hu
    exact ⟨.py xs[i], by simp [hi'], fun h' sb => DP.mono sb du⟩
noncomputable def twoB (x y : Str) (ρ : Rho) : Dat → Rho
  | .py (.tuple [d₁, d₂]) => (y, .py d₂) :: (x, .py d₁) :: ρ
  | _ => []
/-- for x, y in a tuple of pairs, to its end -/
theorem EX1.for2 {x y : Str} {px py tpos pos : Pos} {tk0 : Nat} {iter : Expr} {body : List Stmt} {ps : List (PyData × PyData)} (h : EV w n N ρ iter (Tu (ps.map fun p => .tuple [p.1, p.2]))) (hx : N.lookup x = some .local ∨ N.lookup x = some .cell) (hy : N.lookup y = some .local ∨ N.lookup y = some .cell)
    (R : Nat → Rho) (h0 : ∀ y d, (R 0).lookup y = some d → ρ.lookup y = some d) (turn : ∀ i d₁ d₂, ps[i]? = some (d₁, d₂) → EX w n N ((y, .py d₂) :: (x, .py d₁) :: R i) body (.next (R (i + 1))))
    (hs : ∀ env x, foldedSetIterable iter env x = pure x := by intro _ _; rfl) : EX1 w n N ρ (.For (.Tuple [.Name x px, .Name y py] tk0 tpos) iter body [] pos) (.next (R ps.length)) := by
  have key : ∀ i d, ((ps.map fun p => PyData.tuple [p.1, p.2]).map Dat.py)[i]? = some d → ∃ p : PyData × PyData, ps[i]? = some p ∧ d = Dat.py (.tuple [p.1, p.2]) := fun i d e => by
    rw [List.getElem?_map, List.getElem?_map] at e
    cases q : ps[i]? with
    | none => rw [q] at e; cases e
    | some p => rw [q] at e; cases e; exact ⟨p, q, rfl⟩
  have len : ((ps.map fun p => PyData.tuple [p.1, p.2]).map Dat.py).length = ps.length := by rw [List.length_map, List.length_map]
  refine for_core h itersG_tuple R (fun i d => twoB x y (R i) d) ps.length h0 (fun i d e env W V S A s v C F dv Q E K => ?_) (fun i d _ e => ?_) (.inl ⟨len.symm, rfl⟩) hs
  · obtain ⟨p, _, rfl⟩ := key i d e
    exact assign2_run C F dv hx hy rfl rfl K
  · obtain ⟨p, hp, rfl⟩ := key i d e
    exact turn i p.1 p.2 hp
end
end RsLaw
end
section
open PySem PySem.Spec PySem.Calls PySem.W PyProof.Rows PySem.SeqAt
set_option maxRecDepth 100000
set_option linter.unusedVariables false
namespace RsLaw
section
variable {w : World} {n : Nat} {N : List (Str × NameKind)} {ρ ρf : Rho}

theorem CompOK.mk2 {scope : Scope} {x : Str} (ks : List Str) (hks : ρf.map (·.1) = ks) (kind : scope.kind = .function) (sub : ∀ y d, ρf.lookup y = some d → ρ.lookup y = some d)
    (h : (scope.names.map (·.1)).Nodup ∧ (scope.names.lookup x = some .local ∨ scope.names.lookup x = some .cell) ∧ (∀ p ∈ scope.names, p.2 = .free → p.1 ∈ ks ∧ (N.lookup p.1 = some .cell ∨ N.lookup p.1 = some .free)) ∧
      ∀ k ∈ ks, scope.names.lookup k = some .free ∧ (k == ("__classdict__" : Str)) = false) : CompOK N ρ ρf scope x := by
  obtain ⟨h1, h2, h3, h4⟩ := h
  refine ⟨kind, h1, h2, fun p hp hf => ⟨?_, (h3 p hp hf).2⟩, fun y d e => ?_⟩
  · have hm := (h3 p hp hf).1
    rw [← hks] at hm
    cases q : ρf.lookup p.1 with
    | some d => exact ⟨d, sub _ _ q⟩
    | none =>
      exfalso
      obtain ⟨z, hz, ez⟩ := List.mem_map.mp hm
      rw [← ez] at q
      clear hm hks h3 h4 sub
      induction ρf with
      | nil => cases hz
      | cons a r ih =>
        obtain ⟨a1, a2⟩ := a
        rw [List.lookup_cons] at q
        cases qq : z.1 == a1 with
        | true => rw [qq] at q; cases q
        | false =>
          rw [qq] at q
          rcases List.mem_cons.mp hz with e | e
          · subst e; simp at qq
          · exact ih q e
  · have hm : y ∈ ks := by rw [← hks]; exact List.mem_map_of_mem (f := (·.1)) (mem_of_lookup e)
    exact ⟨sub y d e, h4 y hm⟩

noncomputable def bitP (c : Int) (i : Nat) : Str := if (c.fdiv (60 * 2 ^ i)).fmod 2 == 1 then Str.ofString "\t" else Str.ofString " "
noncomputable def tailP (c : Int) : Str := if ((c.fdiv 12).fmod 5 == 0) = true then Str.ofString "" else Str.ofString "\t" ++ Txt.join (Str.ofString "") ((List.range ((c.fdiv 3).fmod 4).toNat).map (bitP c))
theorem fmod_bounds (a : Int) {b : Int} (hb : 0 < b) : 0 ≤ a.fmod b ∧ a.fmod b < b := ⟨Int.fmod_nonneg_of_pos a hb, Int.fmod_lt_of_pos a hb⟩
theorem bitP_len (c : Int) (i : Nat) : (bitP c i).length = 1 := by unfold bitP; split <;> decide +kernel
theorem bits_len (c : Int) : ∀ m, (((List.range m).map (bitP c)).map (·.length)).sum = m
  | 0 => rfl
  | m + 1 => by rw [List.range_succ, List.map_append, List.map_append, List.sum_append, bits_len c m]; simp [bitP_len]
theorem resAt_true (out : Nat → Dat) (k : Nat) : resAt (fun _ => true) out k = (List.range k).map out := by unfold resAt; rw [show (List.range k).filter (fun _ => true) = List.range k from List.filter_eq_self.mpr fun _ _ => rfl]
theorem pow_b : ∀ i : Nat, i < 4 → (2 : Int) ^ i ≤ 8 ∧ 1 ≤ (2 : Int) ^ i := by decide
theorem fn_tail {c : Int} (h0 : 0 ≤ c) (h1 : c < 1000) : FNv w (n + 1) (.ref 141) [I c] (St (tailP c)) := by
  have hm := fmod_bounds (c.fdiv 3) (b := 4) (by decide)
  refine' FNv.of_defC (ps := ["cell"]) (ho := ?ho) (hcd := ?hcd) (hb := ?hb) (hl := rfl) (hnd := ?hnd) (hloc := ?hloc) (h := ?h) (hco := ?hco) (hgen := ?hgen) (hk := ?hk)
  case ho => k_is
  case hcd => k_is
  case hb => intro vs hv; obtain ⟨a, rfl⟩ := vlen1 hv; rfl
  case hnd => decide
  case hloc => decide
  case hco => rfl
  case hgen => rfl
  case hk => rfl
  case h =>
    have t1 : ∀ (N : List (Str × NameKind)) p1 k1 p2 p3 k2 p4 p5 k3 p6 p7, TST w n N [("cell", I c)] (.Compare (.BinOp (.BinOp (.Name "cell" p1) .FloorDiv (.Constant (.int 12) k1 p2) p3) .Mod (.Constant (.int 5) k2 p4) p5) [.Eq] [.Constant (.int 0) k3 p6] p7) ((c.fdiv 12).fmod 5 == 0) := fun N p1 k1 p2 p3 k2 p4 p5 k3 p6 p7 =>
      TST.cmp (EV.binop (EV.binop (EV.name (by rfl)) EV.const_int (op_div_int (by decide) (by decide))) EV.const_int (op_mod_int (by decide))) EV.const_int op_eq_int
    cases hc : ((c.fdiv 12).fmod 5 == 0) with
    | true =>
      have e : tailP c = Str.ofString "" := by unfold tailP; rw [if_pos hc]
      rw [e]
      exact EX.ret (EX1.ite (c := true) (hc ▸ t1 _ _ _ _ _ _ _ _ _ _ _) (fun _ => EX.ret (EX1.ret EV.const_str)) (fun h => by cases h))
    | false =>
      have e : tailP c = Str.ofString "\t" ++ Txt.join (Str.ofString "") ((List.range ((c.fdiv 3).fmod 4).toNat).map (bitP c)) := by unfold tailP; rw [if_neg (by rw [hc]; decide)]
      rw [e]
      refine EX.cons (EX1.ite (c := false) (hc ▸ t1 _ _ _ _ _ _ _ _ _ _ _) (fun h => by cases h) (fun _ => EX.nil)) ?_
      have sz := bits_len c ((c.fdiv 3).fmod 4).toNat
      refine EX.ret (EX1.ret (EV.binop EV.const_str (EV.str_meth1 EV.const_str (EV.comp (ρf := [("cell", I c)]) (p := fun _ => true) (out := fun i => St (bitP c i)) (d := .py (strsP ((List.range ((c.fdiv 3).fmod 4).toNat).map (bitP c))))
        (EV.call_type (nt_range (by rfl)) (.more (EV.binop (EV.binop (EV.name (by rfl)) EV.const_int (op_div_int (by decide) (by decide))) EV.const_int (op_mod_int (by decide))) .nil) (FNv.one fn_range1))
        (CompOK.mk2 ["cell"] rfl rfl (Rle.cons (by rfl) Rle.nil) (by decide +kernel)) (iters_range (range_small (by omega) (by omega) (by omega) (by omega)) (range_size _ _)) ?_ (fun i d _ => .inl ⟨rfl, rfl⟩) (fun i d hd' _ => ?_) ?_) (fn_join ?_) GM.join) (op_add_str ?_)))
      · simp only [rngD, List.length_map, List.length_range]; omega
      · obtain ⟨hi, rfl⟩ := rngD_get hd'
        have e1 : (0 : Int) + (i : Int) * 1 = (i : Int) := by omega
        rw [e1]
        have hi4 : i < 4 := by omega
        have e2 : (2 : Int) ^ ((i : Int)).toNat = 2 ^ i := by rw [Int.toNat_natCast]
        have b2 := pow_b i hi4
        refine EV.ifexp (c := (c.fdiv (60 * 2 ^ i)).fmod 2 == 1) (TST.cmp (EV.binop (EV.binop (EV.name (by rfl)) (EV.binop EV.const_int (EV.binop EV.const_int (EV.name (by rfl)) (e2 ▸ op_pow_int (by omega) (by omega) (by decide))) (op_mul_int (by decide) (by decide))) (op_div_int (by omega) (by omega))) EV.const_int (op_mod_int (by decide))) EV.const_int op_eq_int) (fun h => ?_) (fun h => ?_)
        · unfold bitP; rw [if_pos h]; exact EV.const_str
        · unfold bitP; rw [if_neg (by rw [h]; decide)]; exact EV.const_str
      · have e1 : (rngD 0 1 ((c.fdiv 3).fmod 4 - 0).toNat).length = ((c.fdiv 3).fmod 4).toNat := by simp [rngD]
        rw [e1, resAt_true]
        have := lists_py (ds := ((List.range ((c.fdiv 3).fmod 4).toNat).map (bitP c)).map PyData.str)
        rw [List.map_map, List.map_map] at this
        exact this
      · rw [sz, List.length_map, List.length_range]
        have : (Str.ofString "").length = 0 := by decide +kernel
        rw [this]; omega
      · have e1 : (Str.ofString "\t").length = 1 := by decide +kernel
        rw [e1, KT.join_ones _ (fun a ha => by obtain ⟨i, _, rfl⟩ := List.mem_map.mp ha; exact bitP_len c i), List.length_map, List.length_range]
        show _ ≤ 2 ^ 24; omega
end
end RsLaw
end
section
open PySem PySem.Spec PySem.Calls PySem.W PyProof.Rows PySem.SeqAt
set_option maxRecDepth 100000
set_option linter.unusedVariables false
namespace RsLaw

/-- a slice of a list -/
noncomputable def pickL {α : Type} (xs : List α) (lo hi st : Option Int) : List α :=
  (sliceRange (sliceBounds lo hi st xs.length).1 (sliceBounds lo hi st xs.length).2.1 (sliceBounds lo hi st xs.length).2.2).filterMap (xs[·]?)
theorem pickP_map {α : Type} (f : α → PyData) (xs : List α) (lo hi st : Option Int) : pickP (xs.map f) lo hi st = (pickL xs lo hi st).map f := by
  unfold pickP pickL
  rw [List.length_map, List.map_filterMap]
  congr 1
  funext i
  rw [List.getElem?_map]

/-- a sorting of texts -/
noncomputable def insS (x : Str) : List Str → List Str
  | [] => [x]
  | y :: r => if ltCps y.cps.toList x.cps.toList = true then y :: insS x r else x :: y :: r
noncomputable def sortS : List Str → List Str
  | [] => []
  | x :: r => insS x (sortS r)
noncomputable abbrev leS (a b : Str) : Prop := a.cps.toList ≤ b.cps.toList
theorem leS_of {a b : Str} (h : ltCps b.cps.toList a.cps.toList = false) : leS a b := by
  rw [ltCps_eq, decide_eq_false_iff_not] at h
  exact List.not_lt.mp h
theorem leS_of' {a b : Str} (h : ltCps a.cps.toList b.cps.toList = true) : leS a b := by
  rw [ltCps_eq, decide_eq_true_eq] at h
  exact List.le_of_lt h
theorem leS_trans {a b c : Str} (h : leS a b) (h' : leS b c) : leS a c := List.le_trans h h'
theorem str_eq {a b : Str} (h : a.cps.toList = b.cps.toList) : a = b := by
  cases a; cases b
  rw [Str.mk.injEq]
  exact Array.toList_inj.mp h
theorem leS_anti {a b : Str} (h : leS a b) (h' : leS b a) : a = b := str_eq (List.le_antisymm h h')
theorem risingS_pw : ∀ (l : List Str) (p : Str), risingS p l = true → (p :: l).Pairwise leS
  | [], p, _ => by simp
  | x :: r, p, h => by
    have h' : (!ltCps x.cps.toList p.cps.toList && risingS x r) = true := h
    rw [Bool.and_eq_true, Bool.not_eq_true'] at h'
    have ih := risingS_pw r x h'.2
    have px := leS_of h'.1
    refine List.pairwise_cons.mpr ⟨fun a ha => ?_, ih⟩
    rcases List.mem_cons.mp ha with rfl | ha
    · exact px
    · exact leS_trans px ((List.pairwise_cons.mp ih).1 a ha)
theorem sortedS_pw : ∀ (l : List Str), sortedS l = true → l.Pairwise leS
  | [], _ => .nil
  | x :: r, h => risingS_pw r x h
theorem insS_perm (x : Str) : ∀ l : List Str, (insS x l).Perm (x :: l)
  | [] => .refl _
  | y :: r => by
    unfold insS
    split
    · exact ((insS_perm x r).cons y).trans (.swap x y r)
    · exact .refl _
theorem insS_pw (x : Str) : ∀ l : List Str, l.Pairwise leS → (insS x l).Pairwise leS
  | [], _ => by simp [insS]
  | y :: r, h => by
    obtain ⟨h1, h2⟩ := List.pairwise_cons.mp h
    unfold insS
    split
    · rename_i hc
      refine List.pairwise_cons.mpr ⟨fun a ha => ?_, insS_pw x r h2⟩
      rcases List.mem_cons.mp ((insS_perm x r).mem_iff.mp ha) with rfl | ha
      · exact leS_of' hc
      · exact h1 a ha
    · rename_i hc
      have xy : leS x y := leS_of (by simpa using hc)
      refine List.pairwise_cons.mpr ⟨fun a ha => ?_, h⟩
      rcases List.mem_cons.mp ha with rfl | ha
      · exact xy
      · exact leS_trans xy (h1 a ha)
theorem sortS_perm : ∀ l : List Str, (sortS l).Perm l
  | [] => .refl _
  | x :: r => (insS_perm x (sortS r)).trans ((sortS_perm r).cons x)
theorem sortS_pw : ∀ l : List Str, (sortS l).Pairwise leS
  | [] => .nil
  | x :: r => insS_pw x _ (sortS_pw r)
theorem sortS_only {ss ss' : List Str} (hp : ss'.Perm ss) (hs : sortedS ss' = true) : ss' = sortS ss :=
  List.Perm.eq_of_pairwise (le := leS) (fun _ _ _ _ => leS_anti) (sortedS_pw _ hs) (sortS_pw _) (hp.trans (sortS_perm ss).symm)

theorem res_filter {α : Type} {f : α → Bool} {g : α → Dat} {p : Nat → Bool} {out : Nat → Dat} {l : List α} (h : ∀ i x, l[i]? = some x → p i = f x ∧ out i = g x) : resAt p out l.length = (l.filter f).map g := by
  have key : ∀ k, k ≤ l.length → resAt p out k = ((l.take k).filter f).map g := by
    intro k
    induction k with
    | zero => intro _; rfl
    | succ k ih =>
      intro hk
      have hg : l[k]? = some l[k] := List.getElem?_eq_getElem (by omega)
      obtain ⟨hp, ho⟩ := h k _ hg
      rw [resAt_succ, ih (by omega), hp, ho, List.take_add_one, hg, List.filter_append, List.map_append]
      cases q : f l[k] with
      | true => simp [q]
      | false => simp [q]
  rw [key l.length (Nat.le_refl _), List.take_length]
section
variable {w : World} {n : Nat} {N : List (Str × NameKind)} {ρ ρf : Rho}
theorem swaps_cell {elt : Expr} {gens : List Comprehension} {scope : Scope} {pos px : Pos} {x : Str} {l : Nat} {env : Env} (O : EnvOK N env) (h : N.lookup x = some .cell) : swapsWith (.ListComp elt gens scope pos) (some (.Name x px)) l env = pure false := by
  have e : (env.kindOf x == some .local) = false := by rw [O.knd, h]; decide
  unfold swapsWith
  simp [e]
theorem swaps_local {elt : Expr} {gens : List Comprehension} {scope : Scope} {pos px : Pos} {x : Str} {l : Nat} {env : Env} (O : EnvOK N env) (h : N.lookup x = some .local) (hl : (px.line == pos.line) = true) (hs : (scope.names.any fun (n, k) => n == x && (k == .local || k == .cell)) = false) :
    swapsWith (.ListComp elt gens scope pos) (some (.Name x px)) l env = pure true := by
  have e : (env.kindOf x == some .local) = true := by rw [O.knd, h]; decide
  have b : (env.blockKind == .function) = true := by unfold Env.blockKind; rw [O.kind]; rfl
  have hl' : (px.line == (Expr.ListComp elt gens scope pos).pos.line) = true := hl
  unfold swapsWith
  simp only [e, b, hl', hs]
  rfl
theorem nt_tail (hx : N.lookup ("_law_tail" : Str) = some .globalImplicit) : NameTo w N "_law_tail" (.ref 141) := NameTo.global hx (by k_is)
theorem nt_line (hx : N.lookup ("_law_line" : Str) = some .globalImplicit) : NameTo w N "_law_line" (.ref 148) := NameTo.global hx (by k_is)
theorem nt_pieces (hx : N.lookup ("_law_pieces" : Str) = some .globalImplicit) : NameTo w N "_law_pieces" (.ref 155) := NameTo.global hx (by k_is)
theorem nt_column (hx : N.lookup ("_law_column" : Str) = some .globalImplicit) : NameTo w N "_law_column" (.ref 176) := NameTo.global hx (by k_is)
theorem nt_agrees (hx : N.lookup ("_law_agrees" : Str) = some .globalImplicit) : NameTo w N "_law_agrees" (.ref 183) := NameTo.global hx (by k_is)
theorem nt_merge (hx : N.lookup ("merge_entries" : Str) = some .globalImplicit) : NameTo w N "merge_entries" (.ref 136) := NameTo.global hx (by k_is)
theorem kp_tail : keepIn (hd.heap_39 w.params) (.ref 141) = true := by k_is
theorem kp_line : keepIn (hd.heap_39 w.params) (.ref 148) = true := by k_is
theorem kp_pieces : keepIn (hd.heap_39 w.params) (.ref 155) = true := by k_is
theorem kp_column : keepIn (hd.heap_39 w.params) (.ref 176) = true := by k_is
theorem kp_agrees : keepIn (hd.heap_39 w.params) (.ref 183) = true := by k_is
theorem kp_merge : keepIn (hd.heap_39 w.params) (.ref 136) = true := by k_is
end
end RsLaw
end
section
open PySem PySem.Spec PySem.Calls PySem.W PyProof.Rows PySem.SeqAt
set_option maxRecDepth 100000
set_option linter.unusedVariables false
namespace RsLaw
section
variable {w : World} {n : Nat} {N : List (Str × NameKind)} {ρ ρf : Rho}

theorem EV.slice_ints {e : Expr} {lo up stp : Option Expr} {p pos : Pos} {xs : List Int} {l u k : Option Int} (h : EV w n N ρ e (.py (intsP xs))) (hl : PRT w n N ρ lo l) (hu : PRT w n N ρ up u) (hk : PRT w n N ρ stp k) (h0 : k ≠ some 0) (hsz : xs.length ≤ 1000000)
    (hs : ∀ o a, ∃ ops, subscripted (.Slice lo up stp p) false o (.ref a) = operate ops (getItem o (.ref a)) := by intro _ _; exact ⟨_, by with_unfolding_all rfl⟩) :
    EV w n N ρ (.Subscript e (.Slice lo up stp p) pos) (.py (intsP (pickL xs l u k))) := by
  unfold intsP; rw [← pickP_map]
  exact EV.slice_list h hl hu hk h0 (by rw [List.length_map]; exact hsz) hs
theorem EV.slice_strs {e : Expr} {lo up stp : Option Expr} {p pos : Pos} {xs : List Str} {l u k : Option Int} (h : EV w n N ρ e (.py (strsP xs))) (hl : PRT w n N ρ lo l) (hu : PRT w n N ρ up u) (hk : PRT w n N ρ stp k) (h0 : k ≠ some 0) (hsz : xs.length ≤ 1000000)
    (hs : ∀ o a, ∃ ops, subscripted (.Slice lo up stp p) false o (.ref a) = operate ops (getItem o (.ref a)) := by intro _ _; exact ⟨_, by with_unfolding_all rfl⟩) :
    EV w n N ρ (.Subscript e (.Slice lo up stp p) pos) (.py (strsP (pickL xs l u k))) := by
  unfold strsP; rw [← pickP_map]
  exact EV.slice_list h hl hu hk h0 (by rw [List.length_map]; exact hsz) hs

/-- a comprehension over a list of data -/
theorem EV.compL {α : Type} {l : List α} {src g : α → Dat} {f : α → Bool} {elt iter : Expr} {ifs : List Expr} {x : Str} {px pos : Pos} {scope : Scope} {d₀ d : Dat} (hit : EV w n N ρ iter d₀) (it : Iters w n d₀ (l.map src)) (O : CompOK N ρ ρf scope x) (hlen : l.length ≤ 1000000)
    (tests : ∀ y ∈ l, (ifs = [] ∧ f y = true) ∨ ∃ c, ifs = [c] ∧ TST w n (relN N scope.names) ((x, src y) :: ρf) c (f y))
    (elts : ∀ y ∈ l, f y = true → EV w n (relN N scope.names) ((x, src y) :: ρf) elt (g y))
    (hd' : Lists ((l.filter f).map g) d) (hs : ∀ env x, foldedSetIterable iter env x = pure x := by intro _ _; rfl) : EV w n N ρ (.ListComp elt [⟨.Name x px, iter, ifs, 0⟩] scope pos) d := by
  have key : ∀ i d, (l.map src)[i]? = some d → ∃ y, l[i]? = some y ∧ d = src y := fun i d e => by
    rw [List.getElem?_map] at e
    cases q : l[i]? with
    | none => rw [q] at e; cases e
    | some y => rw [q] at e; cases e; exact ⟨y, q, rfl⟩
  refine EV.comp (p := fun i => match l[i]? with | some y => f y | none => true) (out := fun i => match l[i]? with | some y => g y | none => .py .none) hit O it (by rw [List.length_map]; exact hlen) (fun i d e => ?_) (fun i d e hp => ?_) ?_ hs
  · obtain ⟨y, hy, rfl⟩ := key i d e
    simp only [hy]
    exact tests y (List.mem_of_getElem? hy)
  · obtain ⟨y, hy, rfl⟩ := key i d e
    simp only [hy] at hp ⊢
    exact elts y (List.mem_of_getElem? hy) hp
  · rw [List.length_map, res_filter (l := l) (f := f) (g := g) (fun i y hy => by simp only [hy, and_self])]
    exact hd'
theorem EX1.compL {α : Type} {l : List α} {src g : α → Dat} {f : α → Bool} {elt iter : Expr} {ifs : List Expr} {x y : Str} {px py pos spos : Pos} {scope : Scope} {d₀ d : Dat} (hit : EV w n N ρ iter d₀) (it : Iters w n d₀ (l.map src)) (O : CompOK N ρ ρf scope x) (hlen : l.length ≤ 1000000)
    (tests : ∀ y ∈ l, (ifs = [] ∧ f y = true) ∨ ∃ c, ifs = [c] ∧ TST w n (relN N scope.names) ((x, src y) :: ρf) c (f y))
    (elts : ∀ y ∈ l, f y = true → EV w n (relN N scope.names) ((x, src y) :: ρf) elt (g y))
    (hd' : Lists ((l.filter f).map g) d) (hk : N.lookup y = some .local) (hl : (py.line == pos.line) = true) (hsn : (scope.names.any fun (n, k) => n == y && (k == .local || k == .cell)) = false)
    (hs : ∀ env x, foldedSetIterable iter env x = pure x := by intro _ _; rfl) : EX1 w n N ρ (.Assign [.Name y py] (.ListComp elt [⟨.Name x px, iter, ifs, 0⟩] scope pos) spos) (.next ((y, d) :: ρ)) := by
  have key : ∀ i d, (l.map src)[i]? = some d → ∃ y, l[i]? = some y ∧ d = src y := fun i d e => by
    rw [List.getElem?_map] at e
    cases q : l[i]? with
    | none => rw [q] at e; cases e
    | some y => rw [q] at e; cases e; exact ⟨y, q, rfl⟩
  refine EX1.comp (p := fun i => match l[i]? with | some y => f y | none => true) (out := fun i => match l[i]? with | some y => g y | none => .py .none) hit O it (by rw [List.length_map]; exact hlen) (fun i d e => ?_) (fun i d e hp => ?_) ?_ (.inl hk) (fun env O' => swaps_local O' hk hl hsn) hs
  · obtain ⟨y, hy, rfl⟩ := key i d e
    simp only [hy]
    exact tests y (List.mem_of_getElem? hy)
  · obtain ⟨y, hy, rfl⟩ := key i d e
    simp only [hy] at hp ⊢
    exact elts y (List.mem_of_getElem? hy) hp
  · rw [List.length_map, res_filter (l := l) (f := f) (g := g) (fun i y hy => by simp only [hy, and_self])]
    exact hd'
theorem EV.comp2L {α : Type} {l : List α} {s₁ s₂ : α → PyData} {g : α → Dat} {elt iter : Expr} {x y : Str} {px py tpos pos : Pos} {tk0 : Nat} {scope : Scope} {items : List (PyData × PyData)} {d : Dat} (it : IterT w n N ρ iter items) (hi : items = l.map fun a => (s₁ a, s₂ a)) (O : CompOK N ρ ρf scope x) (Oy : scope.names.lookup y = some .local ∨ scope.names.lookup y = some .cell) (hlen : l.length ≤ 1000000)
    (elts : ∀ a ∈ l, EV w n (relN N scope.names) ((y, .py (s₂ a)) :: (x, .py (s₁ a)) :: ρf) elt (g a))
    (hd' : Lists (l.map g) d) (hs : ∀ env x, foldedSetIterable iter env x = pure x := by intro _ _; rfl) : EV w n N ρ (.ListComp elt [⟨.Tuple [.Name x px, .Name y py] tk0 tpos, iter, [], 0⟩] scope pos) d := by
  subst hi
  refine EV.comp2 (out := fun i => match l[i]? with | some y => g y | none => .py .none) it O Oy (by rw [List.length_map]; exact hlen) (fun i d₁ d₂ e => ?_) ?_ hs
  · rw [List.getElem?_map] at e
    cases q : l[i]? with
    | none => rw [q] at e; cases e
    | some a => rw [q] at e; cases e; simp only; exact elts a (List.mem_of_getElem? q)
  · have := res_filter (l := l) (f := fun _ => true) (g := g) (p := fun _ => true) (out := fun i => match l[i]? with | some y => g y | none => .py .none) (fun i y hy => by simp only [hy, and_self])
    rw [List.length_map, this, show l.filter (fun _ => true) = l from List.filter_eq_self.mpr fun _ _ => rfl]
    exact hd'
theorem filter_all {α : Type} (l : List α) : l.filter (fun _ => true) = l := List.filter_eq_self.mpr fun _ _ => rfl
theorem lists_strs {α : Type} {l : List α} (g : α → Str) : Lists (l.map fun a => St (g a)) (.py (strsP (l.map g))) := by
  have := lists_py (ds := (l.map g).map PyData.str)
  rw [List.map_map, List.map_map] at this
  exact this
theorem lists_ints {α : Type} {l : List α} (g : α → Int) : Lists (l.map fun a => I (g a)) (.py (intsP (l.map g))) := by
  have := lists_py (ds := (l.map g).map PyData.int)
  rw [List.map_map, List.map_map] at this
  exact this
theorem lists_bools {α : Type} {l : List α} (g : α → Bool) : Lists (l.map fun a => B (g a)) (.py (boolsP (l.map g))) := by
  have := lists_py (ds := (l.map g).map PyData.bool)
  rw [List.map_map, List.map_map] at this
  exact this

noncomputable def firstP (ns : List Int) : Int := (140 + (pickL ns none none (some 2)).sum).fmod 480
noncomputable def secondP (ns : List Int) : Int := (496 + (pickL ns (some 1) none (some 2)).sum).fmod 960
noncomputable def keptP (a : Int) (t : Str) : List Str := if (t.cps.toList != []) = true then (List.range (a + 1).toNat).map (fun (i : Nat) => Txt.slice (lineP a t) (some (i : Int)) none) else [lineP a t]
noncomputable def whiteP (x : Str) : WD := wdOf x.cps.toList
noncomputable def stayP (x p : Str) : Bool := lessP (whiteP p) (whiteP x) == false
noncomputable def staysP (x : Str) : List Str := (piecesP x).filter (stayP x)
noncomputable def due1P (a₀ : Int) (t₀ : Str) (a₁ : Int) (t₁ : Str) : List Str := if ((lineP a₀ t₀).cps.toList == (lineP a₁ t₁).cps.toList) = true then [lineP a₀ t₀] else []
noncomputable def sameP (t₀ t₁ : Str) : Bool := t₀.cps.toList == t₁.cps.toList && t₁.cps.toList != []
noncomputable def dueP (a₀ : Int) (t₀ : Str) (a₁ : Int) (t₁ : Str) : List Str := if sameP t₀ t₁ = true then (List.range (min2 a₀ a₁ + 1).toNat).map (fun (i : Nat) => lineP (min2 a₀ a₁ + (i : Int) * (-1)) t₀) else due1P a₀ t₀ a₁ t₁
noncomputable def colsP (x : Str) : List Int := (List.range 4).map fun (i : Nat) => colP (1 + (i : Int) * 1) x.cps.toList
noncomputable def partsP (x : Str) : List Str := Txt.split x (Str.ofString "\t")
noncomputable def rowsP (x : Str) : List Str := sortS (pickL (partsP x) none (some (-1)) none) ++ pickL (partsP x) (some (-1)) none none
noncomputable def smallP (A V : List Int) : Bool := ((A.zip V).map fun p => decide (p.1 < p.2)).all id
noncomputable def mergedP (a₀ : Int) (t₀ : Str) (a₁ : Int) (t₁ : Str) : List Str := mergeP (keptP a₀ t₀) (pickL (staysP (lineP a₁ t₁)) none none (some (-1)))
noncomputable def splitOk (x : Str) : Bool := decide ((Builtin.Str.partsBetween x (Builtin.Str.occurrences x (Str.ofString "\t") 0 x.length (x.length + 1)) (Str.ofString "\t").length).length ≤ 1000) && decide ((partsP x).length ≤ 60) &&
  decide ((pickL (partsP x) none (some (-1)) none).length ≤ 60) && decide ((pickL (partsP x) (some (-1)) none none).length ≤ 60)
noncomputable def lineGood (a : Int) (t : Str) : Bool :=
  lineOk (lineP a t) && PyData.strOk (lineP a t) && splitOk (lineP a t) && okS (keptP a t) && okS (rowsP (lineP a t)) && shaped (normOf (whiteP (lineP a t))) && decide ((keptP a t).length ≤ 1000) && decide ((piecesP (lineP a t)).length ≤ 1000) &&
  ((piecesP (lineP a t)).all fun p => agreesOk p (lineP a t) (whiteP (lineP a t)) (notin p (keptP a t))) && (piecesP (lineP a t)).all lineOk && decide ((pickL (staysP (lineP a t)) none none (some (-1))).length ≤ 1000)
noncomputable def onesGood (x y : Str) : Bool := (lessP (whiteP x) (whiteP y) == smallP (colsP x) (colsP y)) && (PyData.eqv (normOf (whiteP x)) (normOf (whiteP y)) == PyData.eqv (strsP (rowsP x)) (strsP (rowsP y)))
noncomputable def pairGood (a₀ : Int) (t₀ : Str) (a₁ : Int) (t₁ : Str) : Bool :=
  okS (dueP a₀ t₀ a₁ t₁) && PyData.eqv (strsP (mergedP a₀ t₀ a₁ t₁)) (strsP (dueP a₀ t₀ a₁ t₁)) && onesGood (lineP a₀ t₀) (lineP a₁ t₁) && onesGood (lineP a₁ t₁) (lineP a₀ t₀)

theorem okS_filter {l : List Str} (f : Str → Bool) (h : okS l = true) : okS (l.filter f) = true := by
  unfold okS at h ⊢
  rw [List.all_eq_true] at h ⊢
  exact fun x hx => h x ((List.mem_filter.mp hx).1)
theorem fn_line' {a : Int} {t : Str} (h0 : 0 ≤ a) (h1 : a ≤ 3) (ht : t.length ≤ 100) : FNv w (n + 1) (.ref 148) [I a, St t] (St (lineP a t)) := by
  have key : MulOk (Str.ofString " ") a ∧ MulOk (Str.ofString " ") (a + 1) ∧ (Txt.mul (Str.ofString " ") a).length ≤ 3 := by
    have : a = 0 ∨ a = 1 ∨ a = 2 ∨ a = 3 := by omega
    rcases this with rfl | rfl | rfl | rfl <;> (unfold MulOk; decide +kernel)
  exact fn_line key.1 key.2.1 (by have := key.2.2; show _ ≤ 2 ^ 24; omega)
end
end RsLaw
end
section
open PySem PySem.Spec PySem.Calls PySem.W PyProof.Rows PySem.SeqAt
set_option maxRecDepth 100000
set_option linter.unusedVariables false
set_option maxHeartbeats 8000000
namespace RsLaw
noncomputable def frontA (ns : List Int) : Int := (firstP ns).fmod 3
noncomputable def frontB (ns : List Int) : Int := (secondP ns).fmod 3
noncomputable def cellB (ns : List Int) : Int := if ((secondP ns).fdiv 480 == 1) = true then firstP ns else secondP ns
noncomputable def tailA (ns : List Int) : Str := tailP (firstP ns)
noncomputable def tailB (ns : List Int) : Str := tailP (cellB ns)
theorem tailP_len (c : Int) : (tailP c).length ≤ 4 := by
  have hm := fmod_bounds (c.fdiv 3) (b := 4) (by decide)
  unfold tailP
  split
  · decide +kernel
  · have e1 : (Str.ofString "\t").length = 1 := by decide +kernel
    rw [PySem.Str.length_append, e1, KT.join_ones _ (fun a ha => by obtain ⟨i, _, rfl⟩ := List.mem_map.mp ha; exact bitP_len c i), List.length_map, List.length_range]
    omega
theorem empty_cps : (Str.ofString "").cps.toList = [] := by decide +kernel
theorem mem2 {α : Type} {a b c : α} (h : c ∈ [a, b]) : c = a ∨ c = b := by simpa using h
structure Duo (L0 L1 : Str) (d₁ d₂ : PyData) (x y : Int) (X Y : Str) : Prop where
  e1 : d₁ = .int x
  e2 : d₂ = .int y
  b1 : 0 ≤ x
  b2 : x < 2 ^ 63
  b3 : 0 ≤ y
  b4 : y < 2 ^ 63
  a1 : [intsP (colsP L0), intsP (colsP L1)][x.toNat]? = some (intsP (colsP X))
  a2 : [intsP (colsP L0), intsP (colsP L1)][y.toNat]? = some (intsP (colsP Y))
  a3 : [whiteP L0, whiteP L1][x.toNat]? = some (whiteP X)
  a4 : [whiteP L0, whiteP L1][y.toNat]? = some (whiteP Y)
  a5 : [strsP (rowsP L0), strsP (rowsP L1)][x.toNat]? = some (strsP (rowsP X))
  a6 : [strsP (rowsP L0), strsP (rowsP L1)][y.toNat]? = some (strsP (rowsP Y))
  c1 : lineOk X = true
  c1' : shaped (normOf (whiteP X)) = true
  c2 : lineOk Y = true
  c2' : shaped (normOf (whiteP Y)) = true
  c3 : okS (rowsP X) = true
  c4 : okS (rowsP Y) = true
  c5 : lessP (whiteP X) (whiteP Y) = smallP (colsP X) (colsP Y)
  c6 : PyData.eqv (normOf (whiteP X)) (normOf (whiteP Y)) = PyData.eqv (strsP (rowsP X)) (strsP (rowsP Y))
theorem flats_ints (l : List Int) : flats (l.map PyData.int) = true := by
  unfold flats
  rw [List.all_eq_true]
  intro d hd'
  obtain ⟨z, _, rfl⟩ := List.mem_map.mp hd'
  rfl
section
variable {w : World} {n : Nat} {N : List (Str × NameKind)} {ρ ρf : Rho}
theorem whiteP_b {x : Str} (h : lineOk x = true) : (whiteP x).count.length < 100 ∧ (whiteP x).b < 100 ∧ 0 ≤ (whiteP x).b := by
  have bd := scan_bounds x.cps.toList.length x.cps.toList rfl
  have := lineOk_len h
  refine ⟨?_, ?_, bd.1⟩
  · show (scan _).cnt.length < 100; omega
  · show (scan _).b < 100; omega
theorem TST.eq {e : Expr} {b c : Bool} (h : TST w n N ρ e b) (hb : b = c) : TST w n N ρ e c := hb ▸ h
theorem EV.eq {e : Expr} {b c : Dat} (h : EV w n N ρ e b) (hb : b = c) : EV w n N ρ e c := hb ▸ h
theorem fn_sorted' {ss : List Str} (h : ss.length ≤ 60) : FNv w n (.builtin "sorted") [.py (strsP ss)] (.py (strsP (sortS ss))) := fn_sorted (by omega) fun ss' hp hs => sortS_only hp hs
/-- what lineGood says, by parts -/
structure LG (a : Int) (t x : Str) : Prop where
  line : lineOk x = true
  ok : PyData.strOk x = true
  split : splitOk x = true
  okk : okS (keptP a t) = true
  okr : okS (rowsP x) = true
  sh : shaped (normOf (whiteP x)) = true
  lenk : (keptP a t).length ≤ 1000
  lenp : (piecesP x).length ≤ 1000
  ag : ∀ p ∈ piecesP x, agreesOk p x (whiteP x) (notin p (keptP a t)) = true
  all : (piecesP x).all lineOk = true
  lens : (pickL (staysP x) none none (some (-1))).length ≤ 1000
theorem lg_of {a : Int} {t : Str} (h : lineGood a t = true) : LG a t (lineP a t) := by
  unfold lineGood at h
  simp only [Bool.and_eq_true, decide_eq_true_eq] at h
  obtain ⟨⟨⟨⟨⟨⟨⟨⟨⟨⟨p1, p2⟩, p3⟩, p4⟩, p5⟩, p6⟩, p7⟩, p8⟩, p9⟩, p10⟩, p11⟩ := h
  exact ⟨p1, p2, p3, p4, p5, p6, p7, p8, List.all_eq_true.mp p9, p10, p11⟩
structure PG (a₀ : Int) (t₀ : Str) (a₁ : Int) (t₁ x y : Str) : Prop where
  okd : okS (dueP a₀ t₀ a₁ t₁) = true
  eq : PyData.eqv (strsP (mergedP a₀ t₀ a₁ t₁)) (strsP (dueP a₀ t₀ a₁ t₁)) = true
  l1 : lessP (whiteP x) (whiteP y) = smallP (colsP x) (colsP y)
  e1 : PyData.eqv (normOf (whiteP x)) (normOf (whiteP y)) = PyData.eqv (strsP (rowsP x)) (strsP (rowsP y))
  l2 : lessP (whiteP y) (whiteP x) = smallP (colsP y) (colsP x)
  e2 : PyData.eqv (normOf (whiteP y)) (normOf (whiteP x)) = PyData.eqv (strsP (rowsP y)) (strsP (rowsP x))
theorem pg_of {a₀ : Int} {t₀ : Str} {a₁ : Int} {t₁ : Str} (h : pairGood a₀ t₀ a₁ t₁ = true) : PG a₀ t₀ a₁ t₁ (lineP a₀ t₀) (lineP a₁ t₁) := by
  unfold pairGood onesGood at h
  simp only [Bool.and_eq_true, beq_iff_eq] at h
  obtain ⟨⟨⟨r1, r2⟩, r3, r4⟩, r5, r6⟩ := h
  exact ⟨r1, r2, r3, r4, r5, r6⟩
theorem fn_law {ns : List Int} (hns : ns.length ≤ 63) (g₀ : lineGood (frontA ns) (tailA ns) = true) (g₁ : lineGood (frontB ns) (tailB ns) = true) (gp : pairGood (frontA ns) (tailA ns) (frontB ns) (tailB ns) = true) : FNv w (n + 5) (.ref 188) [.py (intsP ns)] (B true) := by
  have bf := fmod_bounds (140 + (pickL ns none none (some 2)).sum) (b := 480) (by decide)
  have bs := fmod_bounds (496 + (pickL ns (some 1) none (some 2)).sum) (b := 960) (by decide)
  have ba := fmod_bounds (firstP ns) (b := 3) (by decide)
  have bb := fmod_bounds (secondP ns) (b := 3) (by decide)
  have lA := tailP_len (firstP ns)
  have lB := tailP_len (cellB ns)
  have bc : 0 ≤ cellB ns ∧ cellB ns < 1000 := by
    unfold cellB firstP secondP
    split <;> omega
  generalize hL0 : lineP (frontA ns) (tailA ns) = L0 at *
  generalize hL1 : lineP (frontB ns) (tailB ns) = L1 at *
  have G0 := lg_of g₀
  have G1 := lg_of g₁
  have GP := pg_of gp
  rw [hL0] at G0 GP
  rw [hL1] at G1 GP
  clear g₀ g₁ gp
  have w0 := whiteP_b G0.line
  have w1 := whiteP_b G1.line
  have l0 := lineOk_length G0.line
  have l1 := lineOk_length G1.line
  refine' FNv.of_defC (ps := ["script"]) (ho := ?ho) (hcd := ?hcd) (hb := ?hb) (hl := rfl) (hnd := ?hnd) (hloc := ?hloc) (h := ?h) (hco := ?hco) (hgen := ?hgen) (hk := ?hk)
  case ho => k_is
  case hcd => k_is
  case hb => intro vs hv; obtain ⟨a, rfl⟩ := vlen1 hv; rfl
  case hnd => decide
  case hloc => decide
  case hco => rfl
  case hgen => rfl
  case hk => rfl
  case h =>
    refine EX.cons (EX1.assign (d := I (firstP ns)) (EV.binop (EV.binop EV.const_int (EV.call_builtin (nt_sum (by rfl)) (.more (EV.slice_ints (EV.name (by rfl)) .none .none (.some EV.const_int) (by decide) (Nat.le_trans hns (by decide))) .nil) fn_sum) op_add_int) EV.const_int (op_mod_int (by decide))) (.inl (by rfl))) ?_
    refine EX.cons (EX1.assign (d := I (secondP ns)) (EV.binop (EV.binop EV.const_int (EV.call_builtin (nt_sum (by rfl)) (.more (EV.slice_ints (EV.name (by rfl)) (.some EV.const_int) .none (.some EV.const_int) (by decide) (Nat.le_trans hns (by decide))) .nil) fn_sum) op_add_int) EV.const_int (op_mod_int (by decide))) (.inl (by rfl))) ?_
    refine EX.cons (EX1.assign (d := .py (strsP [tailA ns, tailB ns])) (EV.list_disp (ds := [.str (tailA ns), .str (tailB ns)]) (.more (EV.call_own (nt_tail (by rfl)) kp_tail (.more (EV.name (by rfl)) .nil) (fn_tail (n := n + 3) (c := firstP ns) bf.1 (by unfold firstP; omega)))
      (.more (EV.call_own (nt_tail (by rfl)) kp_tail (.more (EV.ifexp (c := ((secondP ns).fdiv 480 == 1)) (TST.cmp (EV.binop (EV.name (by rfl)) EV.const_int (op_div_int (by decide) (by decide))) EV.const_int op_eq_int) (fun h => ?_) (fun h => ?_)) .nil) (fn_tail (n := n + 3) (c := cellB ns) bc.1 bc.2)) .nil)) (by simp)) (.inr (by rfl))) ?_
    · unfold cellB; rw [if_pos h]; exact EV.name (by rfl)
    · unfold cellB; rw [if_neg (by rw [h]; decide)]; exact EV.name (by rfl)
    refine EX.cons (EX1.assign (d := .py (intsP [frontA ns, frontB ns])) (EV.list_disp (ds := [.int (frontA ns), .int (frontB ns)]) (.more (EV.binop (EV.name (by rfl)) EV.const_int (op_mod_int (by decide))) (.more (EV.binop (EV.name (by rfl)) EV.const_int (op_mod_int (by decide))) .nil)) (by simp)) (.inl (by rfl))) ?_
    refine EX.cons (EX1.assign (d := .py (strsP [L0, L1])) (EV.comp2L (ρf := []) (l := [(frontA ns, tailA ns), (frontB ns, tailB ns)]) (s₁ := fun p => .int p.1) (s₂ := fun p => .str p.2) (g := fun p => St (lineP p.1 p.2)) (iterT_zip (by rfl) (EV.name (by rfl)) (EV.name (by rfl)) (by rfl) (by rfl)) (by rfl)
      (CompOK.mk2 [] rfl rfl Rle.nil (by decide +kernel)) (.inl (by rfl)) (by simp) (fun p hp => ?_) ?_) (.inr (by rfl)) (fun env O => swaps_cell O (by rfl))) ?_
    · have hb : 0 ≤ p.1 ∧ p.1 ≤ 3 ∧ p.2.length ≤ 100 := by
        rcases mem2 hp with rfl | rfl
        · exact ⟨ba.1, by show frontA ns ≤ 3; have := ba.2; unfold frontA; omega, by show (tailA ns).length ≤ 100; unfold tailA; omega⟩
        · exact ⟨bb.1, by show frontB ns ≤ 3; have := bb.2; unfold frontB; omega, by show (tailB ns).length ≤ 100; unfold tailB; omega⟩
      exact EV.call_own (nt_line (by rfl)) kp_line (.more (EV.name (by rfl)) (.more (EV.name (by rfl)) .nil)) (fn_line' (n := n + 3) hb.1 hb.2.1 hb.2.2)
    · rw [← hL0, ← hL1]
      exact lists_strs (l := [(frontA ns, tailA ns), (frontB ns, tailB ns)]) fun p => lineP p.1 p.2
    refine EX.less (ρ' := [("lines", .py (strsP [L0, L1])), ("fronts", .py (intsP [frontA ns, frontB ns])), ("tails", .py (strsP [tailA ns, tailB ns]))]) (Rle.cons (by rfl) (Rle.cons (by rfl) (Rle.cons (by rfl) Rle.nil))) ?_
    refine EX.cons (EX1.assign (d := .whites [whiteP L0, whiteP L1]) (EV.compL (ρf := []) (l := [L0, L1]) (src := St) (f := fun _ => true) (g := fun x => .white (whiteP x)) (EV.name (by rfl)) iters_strs (CompOK.mk2 [] rfl rfl Rle.nil (by decide +kernel)) (by simp)
      (fun _ _ => .inl ⟨rfl, rfl⟩) (fun x hx _ => ?_) ?_) (.inr (by rfl)) (fun env O => swaps_cell O (by rfl))) ?_
    · have hl : lineOk x = true := by
        rcases mem2 hx with rfl | rfl
        · exact G0.line
        · exact G1.line
      exact EV.call_own (nt_white (by rfl)) kp_white (.more (EV.name (by rfl)) .nil) (fn_white (n := n + 1) hl)
    · exact lists_white (ds := [whiteP L0, whiteP L1])
    refine EX.cons (EX1.assign (d := .py (strsP (keptP (frontA ns) (tailA ns)))) (EV.ifexp (c := ((tailA ns).cps.toList != [])) (empty_cps ▸ TST.cmp (EV.item_list (EV.name (by rfl)) EV.const_int (by decide) (by decide) (by rfl)) EV.const_str op_ne_str) (fun h => ?_) (fun h => ?_)) (.inl (by rfl))) ?_
    · unfold keptP; rw [if_pos h, hL0]
      refine EV.compL (ρf := [("lines", .py (strsP [L0, L1]))]) (l := List.range (frontA ns + 1).toNat) (src := fun (i : Nat) => I (0 + (i : Int) * 1)) (f := fun _ => true) (g := fun (i : Nat) => St (Txt.slice L0 (some (i : Int)) none))
        (EV.call_type (nt_range (by rfl)) (.more (EV.binop (EV.item_list (EV.name (by rfl)) EV.const_int (by decide) (by decide) (by rfl)) EV.const_int op_add_int) .nil) (FNv.one fn_range1)) ?_ (CompOK.mk2 ["lines"] rfl rfl (Rle.cons (by rfl) Rle.nil) (by decide +kernel)) ?_ (fun _ _ => .inl ⟨rfl, rfl⟩) (fun i hi _ => ?_) ?_
      · have := iters_range (w := w) (n := n + 4) (a := 0) (b := frontA ns + 1) (c := 1) (m := (frontA ns + 1).toNat) (range_small (by decide) (by decide) (by have := ba.1; unfold frontA; omega) (by have := ba.2; unfold frontA; omega)) (by rw [range_size, Int.sub_zero])
        exact this
      · rw [List.length_range]; have := ba.2; unfold frontA; omega
      · have e1 : (0 : Int) + (i : Int) * 1 = (i : Int) := by omega
        rw [e1]
        exact EV.slice_str (EV.item_list (EV.name (by rfl)) EV.const_int (by decide) (by decide) (by rfl)) (.some (EV.name (by rfl))) .none (by show _ ≤ 2 ^ 24; omega)
      · rw [filter_all]
        exact lists_strs fun (i : Nat) => Txt.slice L0 (some (i : Int)) none
    · unfold keptP; rw [if_neg (by rw [h]; decide), hL0]
      exact EV.list_disp (ds := [.str L0]) (.more (EV.item_list (EV.name (by rfl)) EV.const_int (by decide) (by decide) (by rfl)) .nil) (by simp)
    have p4 := G0.okk
    have p7 := G0.lenk
    have p9 := G0.ag
    have r2 := GP.eq
    generalize hK : keptP (frontA ns) (tailA ns) = K at p4 p7 p9 ⊢
    refine EX.cons (EX1.for_name (items := (piecesP L0).map St) (EV.call_own (nt_pieces (by rfl)) kp_pieces (.more (EV.item_list (EV.name (by rfl)) EV.const_int (by decide) (by decide) (by rfl)) .nil) (fn_pieces (n := n + 3) (x := L0) (Nat.le_trans l0 (by decide)) G0.ok)) iters_strs (.inl (by rfl))
      (fun _ => [("kept", .py (strsP K)), ("wholes", .whites [whiteP L0, whiteP L1]), ("lines", .py (strsP [L0, L1])), ("fronts", .py (intsP [frontA ns, frontB ns])), ("tails", .py (strsP [tailA ns, tailB ns]))]) (piecesP L0).length
      (Rle.cons (by rfl) (Rle.cons (by rfl) (Rle.cons (by rfl) (Rle.cons (by rfl) (Rle.cons (by rfl) Rle.nil))))) (fun i d hi hd' => ?_) (.inl ⟨by simp, rfl⟩)) ?_
    · have hg : (piecesP L0)[i]? = some (piecesP L0)[i] := List.getElem?_eq_getElem hi
      have hm : (piecesP L0)[i] ∈ piecesP L0 := List.getElem_mem hi
      generalize (piecesP L0)[i] = p at hg hm
      have : d = St p := by rw [List.getElem?_map, hg] at hd'; cases hd'; rfl
      subst this
      have hag := p9 p hm
      have hp : lineOk p = true := List.all_eq_true.mp G0.all p hm
      refine EX.weak (EX.one (EX1.ite (c := false) (TST.not (b := true) (TST.plain (EV.call_own (nt_agrees (by rfl)) kp_agrees (.more (EV.name (by rfl)) (.more (EV.item_list (EV.name (by rfl)) EV.const_int (by decide) (by decide) (by rfl)) (.more (EV.item_whites (EV.name (by rfl)) EV.const_int (by decide) (by decide) (by rfl))
        (.more (EV.cmp (EV.name (by rfl)) (EV.name (by rfl)) (op_notin_strs (y := p) (l := K) ?_ p4)) .nil)))) (fn_agrees (n := n) hag)) rfl)) (fun h => by cases h) (fun _ => EX.nil))) (Rle.cons (by rfl) (Rle.cons (by rfl) (Rle.cons (by rfl) (Rle.cons (by rfl) (Rle.cons (by rfl) Rle.nil)))))
      exact List.all_eq_true.mp (ok_outer (x := L0) G0.ok _) p hm
    refine EX.cons (EX1.compL (ρf := [("wholes", .whites [whiteP L0, whiteP L1])]) (l := piecesP L1) (src := St) (f := stayP L1) (g := St) (d := .py (strsP (staysP L1))) (EV.call_own (nt_pieces (by rfl)) kp_pieces (.more (EV.item_list (EV.name (by rfl)) EV.const_int (by decide) (by decide) (by rfl)) .nil) (fn_pieces (n := n + 3) (x := L1) (Nat.le_trans l1 (by decide)) G1.ok)) iters_strs
      (CompOK.mk2 ["wholes"] rfl rfl (Rle.cons (by rfl) Rle.nil) (by decide +kernel)) (Nat.le_trans G1.lenp (by decide)) (fun p hp => .inr ⟨_, rfl, ?_⟩) (fun p hp _ => EV.name (by rfl)) ?_ (by rfl) (by rfl) (by decide +kernel)) ?_
    · have hpl : lineOk p = true := List.all_eq_true.mp G1.all p hp
      have wp := whiteP_b hpl
      exact TST.cmp (EV.meth (C := 83) (f := 73) (EV.call_own (nt_white (by rfl)) kp_white (.more (EV.name (by rfl)) .nil) (fn_white (n := n + 1) hpl)) (.more (EV.item_whites (EV.name (by rfl)) EV.const_int (by decide) (by decide) (by rfl)) .nil) (fn_less (n := n + 2) wp.1 w1.1 wp.2.1 w1.2.1 wp.2.2 w1.2.2) (white_inst (by decide)) (by k_is) (by k_is) (by k_is) (by k_is)) EV.const_bool op_is_bool
    · have z := lists_strs (l := staysP L1) fun p => p
      rw [List.map_id'] at z
      exact z
    refine EX.cons (EX1.assign (d := .entry (mergedP (frontA ns) (tailA ns) (frontB ns) (tailB ns))) ?_ (.inl (by rfl))) ?_
    · unfold mergedP
      rw [hK, hL1]
      refine EV.call_own (nt_merge (by rfl)) kp_merge (.more (EV.call_own (nt_record (by rfl)) kp_record (.more (EV.name (by rfl)) .nil) (fn_record (n := n + 1) (l := K) (Nat.le_trans p7 (by decide)))) (.more (EV.call_own (nt_record (by rfl)) kp_record (.more (EV.slice_strs (xs := staysP L1) (EV.name (by rfl)) .none .none (.some (EV.neg EV.const_int)) (by decide) ?_) .nil)
        (fn_record (n := n + 1) (Nat.le_trans G1.lens (by decide)))) .nil)) (fn_merge (n := n + 1) p7 G1.lens)
      exact Nat.le_trans (List.length_filter_le _ _) (Nat.le_trans G1.lenp (by decide))
    generalize hM : mergedP (frontA ns) (tailA ns) (frontB ns) (tailB ns) = M at r2 ⊢
    refine EX.less (ρ' := [("merged", .entry M), ("wholes", .whites [whiteP L0, whiteP L1]), ("lines", .py (strsP [L0, L1])), ("fronts", .py (intsP [frontA ns, frontB ns])), ("tails", .py (strsP [tailA ns, tailB ns]))]) (Rle.cons (by rfl) (Rle.cons (by rfl) (Rle.cons (by rfl) (Rle.cons (by rfl) (Rle.cons (by rfl) Rle.nil))))) ?_
    refine EX.cons (EX1.assign (d := .py (strsP (due1P (frontA ns) (tailA ns) (frontB ns) (tailB ns)))) (EV.ifexp (c := (L0.cps.toList == L1.cps.toList)) (TST.cmp (EV.item_list (EV.name (by rfl)) EV.const_int (by decide) (by decide) (by rfl)) (EV.item_list (EV.name (by rfl)) EV.const_int (by decide) (by decide) (by rfl)) op_eq_str) (fun h => ?_) (fun h => ?_)) (.inl (by rfl))) ?_
    · unfold due1P; rw [hL0, hL1, if_pos h]
      exact EV.list_disp (ds := [.str L0]) (.more (EV.item_list (EV.name (by rfl)) EV.const_int (by decide) (by decide) (by rfl)) .nil) (by simp)
    · unfold due1P; rw [hL0, hL1, if_neg (by rw [h]; decide)]
      exact EV.list_disp (ds := []) .nil (by simp)
    refine EX.cons (ρ' := [("due", .py (strsP (dueP (frontA ns) (tailA ns) (frontB ns) (tailB ns)))), ("merged", .entry M), ("wholes", .whites [whiteP L0, whiteP L1]), ("lines", .py (strsP [L0, L1]))]) (EX1.ite (c := sameP (tailA ns) (tailB ns)) ?_ (fun h => ?_) (fun h => ?_)) ?_
    · unfold sameP
      exact empty_cps ▸ TST.chain2 (EV.item_list (EV.name (by rfl)) EV.const_int (by decide) (by decide) (by rfl)) (EV.item_list (EV.name (by rfl)) EV.const_int (by decide) (by decide) (by rfl)) EV.const_str op_eq_str op_ne_str
    · have mb : 0 ≤ min2 (frontA ns) (frontB ns) ∧ min2 (frontA ns) (frontB ns) < 3 := by
        have := ba; have := bb
        unfold min2 frontA frontB
        split <;> omega
      unfold dueP; rw [if_pos h]
      refine EX.weak (EX.one (EX1.compL (ρf := [("tails", .py (strsP [tailA ns, tailB ns]))]) (l := List.range (min2 (frontA ns) (frontB ns) + 1).toNat) (src := fun (i : Nat) => I (min2 (frontA ns) (frontB ns) + (i : Int) * (-1))) (f := fun _ => true) (g := fun (i : Nat) => St (lineP (min2 (frontA ns) (frontB ns) + (i : Int) * (-1)) (tailA ns)))
        (d := .py (strsP ((List.range (min2 (frontA ns) (frontB ns) + 1).toNat).map (fun (i : Nat) => lineP (min2 (frontA ns) (frontB ns) + (i : Int) * (-1)) (tailA ns)))))
        (EV.call_type (nt_range (by rfl)) (.more (EV.call_builtin (nt_min (by rfl)) (.more (EV.name (by rfl)) .nil) fn_min) (.more (EV.neg EV.const_int) (.more (EV.neg EV.const_int) .nil))) (fn_range3 (by decide) (by decide))) ?_ (CompOK.mk2 ["tails"] rfl rfl (Rle.cons (by rfl) Rle.nil) (by decide +kernel)) ?_ (fun _ _ => .inl ⟨rfl, rfl⟩) (fun i hi _ => ?_) ?_ (by rfl) (by rfl) (by decide +kernel)))
        (Rle.cons (by rfl) (Rle.cons (by rfl) (Rle.cons (by rfl) (Rle.cons (by rfl) Rle.nil))))
      · have := iters_range (w := w) (n := n + 4) (a := min2 (frontA ns) (frontB ns)) (b := -1) (c := -1) (m := (min2 (frontA ns) (frontB ns) + 1).toNat) (small_down (by omega) (by omega) (by decide) (by decide)) (by rw [rangeSize_downNat, Int.sub_neg])
        exact this
      · rw [List.length_range]; omega
      · have hi' : i < (min2 (frontA ns) (frontB ns) + 1).toNat := List.mem_range.mp hi
        exact EV.call_own (nt_line (by rfl)) kp_line (.more (EV.name (by rfl)) (.more (EV.item_list (EV.name (by rfl)) EV.const_int (by decide) (by decide) (by rfl)) .nil)) (fn_line' (n := n + 3) (by omega) (by omega) (by unfold tailA; omega))
      · rw [filter_all]
        exact lists_strs fun (i : Nat) => lineP (min2 (frontA ns) (frontB ns) + (i : Int) * (-1)) (tailA ns)
    · unfold dueP; rw [if_neg (by rw [h]; decide)]
      exact EX.less (Rle.cons (by rfl) (Rle.cons (by rfl) (Rle.cons (by rfl) (Rle.cons (by rfl) Rle.nil)))) EX.nil
    have okM : okS M = true := by rw [← hM]; unfold mergedP; rw [hK]; exact okS_filter _ p4
    refine EX.cons (EX1.ite (c := false) ?_ (fun h => by cases h) (fun _ => EX.nil)) ?_
    · exact TST.eq (TST.cmp (EV.attr (EV.name (by rfl)) entry_agents) (EV.name (by rfl)) (op_ne_data (shaped_strs M okM) (shaped_strs _ GP.okd))) (by
        exact congrArg (!·) r2)
    refine EX.less (ρ' := [("wholes", .whites [whiteP L0, whiteP L1]), ("lines", .py (strsP [L0, L1]))]) (Rle.cons (by rfl) (Rle.cons (by rfl) Rle.nil)) ?_
    refine EX.cons (EX1.compL (ρf := []) (l := [L0, L1]) (src := St) (f := fun _ => true) (g := fun x => .py (intsP (colsP x))) (d := .py (.list [intsP (colsP L0), intsP (colsP L1)])) (EV.name (by rfl)) iters_strs (CompOK.mk2 [] rfl rfl Rle.nil (by decide +kernel)) (by simp) (fun _ _ => .inl ⟨rfl, rfl⟩) (fun x hx _ => ?_) ?_ (by rfl) (by rfl) (by decide +kernel)) ?_
    · refine EV.compL (ρf := [("line", St x)]) (l := List.range 4) (src := fun (i : Nat) => I (1 + (i : Int) * 1)) (f := fun _ => true) (g := fun (i : Nat) => I (colP (1 + (i : Int) * 1) x.cps.toList)) (EV.call_type (nt_range (by rfl)) (.more EV.const_int (.more EV.const_int .nil)) (FNv.two fn_range2)) ?_ (CompOK.mk2 ["line"] rfl rfl (Rle.cons (by rfl) Rle.nil) (by decide +kernel)) (by simp) (fun _ _ => .inl ⟨rfl, rfl⟩) (fun i hi _ => ?_) ?_
      · exact iters_range (w := w) (n := n + 4) (a := 1) (b := 5) (c := 1) (m := 4) (range_small (by decide) (by decide) (by decide) (by decide)) (by rw [range_size]; decide)
      · exact EV.call_own (nt_column (by rfl)) kp_column (.more (EV.name (by rfl)) (.more (EV.name (by rfl)) .nil)) (fn_column (n := n + 3) (by omega))
      · rw [filter_all]
        exact lists_ints fun (i : Nat) => colP (1 + (i : Int) * 1) x.cps.toList
    · exact lists_py (ds := [intsP (colsP L0), intsP (colsP L1)])
    refine EX.cons (EX1.compL (ρf := []) (l := [L0, L1]) (src := St) (f := fun _ => true) (g := fun x => .py (strsP (partsP x))) (d := .py (.list [strsP (partsP L0), strsP (partsP L1)])) (EV.name (by rfl)) iters_strs (CompOK.mk2 [] rfl rfl Rle.nil (by decide +kernel)) (by simp) (fun _ _ => .inl ⟨rfl, rfl⟩) (fun x hx _ => ?_) ?_ (by rfl) (by rfl) (by decide +kernel)) ?_
    · have hx' : splitOk x = true ∧ x.length ≤ 90 := by
        rcases mem2 hx with rfl | rfl
        · exact ⟨G0.split, l0⟩
        · exact ⟨G1.split, l1⟩
      have so := hx'.1
      unfold splitOk at so
      simp only [Bool.and_eq_true, decide_eq_true_eq] at so
      exact EV.str_meth1 (EV.name (by rfl)) EV.const_str (fn_split (by decide +kernel) (by have := hx'.2; show _ ≤ 2 ^ 24; omega) (by have := so.1.1.1; show _ ≤ 2 ^ 24; omega)) GM.split
    · exact lists_py (ds := [strsP (partsP L0), strsP (partsP L1)])
    refine EX.cons (EX1.compL (ρf := []) (l := [L0, L1]) (src := fun x => .py (strsP (partsP x))) (f := fun _ => true) (g := fun x => .py (strsP (rowsP x))) (d := .py (.list [strsP (rowsP L0), strsP (rowsP L1)])) (EV.name (by rfl)) (iters_list (xs := [strsP (partsP L0), strsP (partsP L1)])) (CompOK.mk2 [] rfl rfl Rle.nil (by decide +kernel)) (by simp) (fun _ _ => .inl ⟨rfl, rfl⟩) (fun x hx _ => ?_) ?_ (by rfl) (by rfl) (by decide +kernel)) ?_
    · have so : splitOk x = true := by
        rcases mem2 hx with rfl | rfl
        · exact G0.split
        · exact G1.split
      unfold splitOk at so
      simp only [Bool.and_eq_true, decide_eq_true_eq] at so
      obtain ⟨⟨⟨s1, s2⟩, s3⟩, s4⟩ := so
      refine EV.eq (EV.binop (EV.call_builtin (nt_sorted (by rfl)) (.more (EV.slice_strs (EV.name (by rfl)) .none (.some (EV.neg EV.const_int)) .none (by decide) (by omega)) .nil) (fn_sorted' s3)) (EV.slice_strs (EV.name (by rfl)) (.some (EV.neg EV.const_int)) .none .none (by decide) (by omega)) (op_add_list ?_)) ?_
      · rw [List.length_map, List.length_map, (sortS_perm _).length_eq]; omega
      · unfold rowsP strsP; rw [List.map_append]
    · exact lists_py (ds := [strsP (rowsP L0), strsP (rowsP L1)])
    refine EX.less (ρ' := [("rows", .py (.list [strsP (rowsP L0), strsP (rowsP L1)])), ("walks", .py (.list [intsP (colsP L0), intsP (colsP L1)])), ("wholes", .whites [whiteP L0, whiteP L1])]) (Rle.cons (by rfl) (Rle.cons (by rfl) (Rle.cons (by rfl) Rle.nil))) ?_
    refine EX.cons (EX1.for2 (ps := [(.int 0, .int 1), (.int 1, .int 0)]) (EV.tuple_disp (ds := [.tuple [.int 0, .int 1], .tuple [.int 1, .int 0]]) (.more (EV.tuple_disp (ds := [.int 0, .int 1]) (.more EV.const_int (.more EV.const_int .nil)) (by decide)) (.more (EV.tuple_disp (ds := [.int 1, .int 0]) (.more EV.const_int (.more EV.const_int .nil)) (by decide)) .nil)) (by decide)) (.inl (by rfl)) (.inl (by rfl))
      (fun _ => [("rows", .py (.list [strsP (rowsP L0), strsP (rowsP L1)])), ("walks", .py (.list [intsP (colsP L0), intsP (colsP L1)])), ("wholes", .whites [whiteP L0, whiteP L1])]) (Rle.refl _) (fun i d₁ d₂ hi => ?_)) (EX.ret (EX1.ret EV.const_bool))
    obtain ⟨x, y, X, Y, hxy⟩ : ∃ (x y : Int) (X Y : Str), Duo L0 L1 d₁ d₂ x y X Y := by
      match i, hi with
      | 0, hi => cases hi; exact ⟨0, 1, L0, L1, ⟨rfl, rfl, by decide, by decide, by decide, by decide, rfl, rfl, rfl, rfl, rfl, rfl, G0.line, G0.sh, G1.line, G1.sh, G0.okr, G1.okr, GP.l1, GP.e1⟩⟩
      | 1, hi => cases hi; exact ⟨1, 0, L1, L0, ⟨rfl, rfl, by decide, by decide, by decide, by decide, rfl, rfl, rfl, rfl, rfl, rfl, G1.line, G1.sh, G0.line, G0.sh, G1.okr, G0.okr, GP.l2, GP.e2⟩⟩
      | k + 2, hi => cases hi
    obtain ⟨rfl, rfl, b1, b2, b3, b4, a1, a2, a3, a4, a5, a6, c1, c1', c2, c2', c3, c4, c5, c6⟩ := hxy
    have wx := whiteP_b c1
    have wy := whiteP_b c2
    have dx := flats_ints
    refine EX.cons (EX1.assign (d := B (smallP (colsP X) (colsP Y))) (EV.call_builtin (nt_all (by rfl)) (.more (EV.comp2L (ρf := []) (l := (colsP X).zip (colsP Y)) (s₁ := fun p => .int p.1) (s₂ := fun p => .int p.2) (g := fun p => B (decide (p.1 < p.2)))
      (iterT_zip (xs := (colsP X).map PyData.int) (ys := (colsP Y).map PyData.int) (by rfl) (EV.item_list (EV.name (by rfl)) (EV.name (by rfl)) b1 b2 a1) (EV.item_list (EV.name (by rfl)) (EV.name (by rfl)) b3 b4 a2) (dx _) (dx _)) ?_ (CompOK.mk2 [] rfl rfl Rle.nil (by decide +kernel)) (.inl (by rfl)) ?_ (fun p hp => EV.cmp (EV.name (by rfl)) (EV.name (by rfl)) op_lt_int) (lists_bools _)) .nil) fn_all) (.inl (by rfl))) ?_
    · rw [List.zip_map]; rfl
    · rw [List.length_zip]; unfold colsP; simp
    refine EX.cons (EX1.ite (c := false) (TST.eq (TST.cmp (EV.meth (C := 83) (f := 73) (EV.item_whites (EV.name (by rfl)) (EV.name (by rfl)) b1 b2 a3) (.more (EV.item_whites (EV.name (by rfl)) (EV.name (by rfl)) b3 b4 a4) .nil) (fn_less (n := n + 2) wx.1 wy.1 wx.2.1 wy.2.1 wx.2.2 wy.2.2) (white_inst (by decide)) (by k_is) (by k_is) (by k_is) (by k_is)) (EV.name (by rfl)) op_isnot_bool) (by rw [c5]; simp)) (fun h => by cases h) (fun _ => EX.nil)) ?_
    refine EX.weak (EX.one (EX1.ite (c := false) (TST.eq (TST.cmp (EV.meth (C := 83) (f := 59) (EV.item_whites (EV.name (by rfl)) (EV.name (by rfl)) b1 b2 a3) (.more (EV.item_whites (EV.name (by rfl)) (EV.name (by rfl)) b3 b4 a4) .nil) (fn_equal (n := n + 3) c1' c2') (white_inst (by decide)) (by k_is) (by k_is) (by k_is) (by k_is))
      (EV.cmp (EV.item_list (EV.name (by rfl)) (EV.name (by rfl)) b1 b2 a5) (EV.item_list (EV.name (by rfl)) (EV.name (by rfl)) b3 b4 a6) (op_eq_data (shaped_strs _ c3) (shaped_strs _ c4))) op_isnot_bool) ?_) (fun h => by cases h) (fun _ => EX.nil))) (Rle.cons (by rfl) (Rle.cons (by rfl) (Rle.cons (by rfl) Rle.nil)))
    rw [c6]
    exact bne_self_eq_false _
end
end RsLaw
end
section
open PySem PySem.Spec PySem.Calls PySem.W PyProof.Rows PySem.SeqAt
set_option maxRecDepth 100000
set_option linter.unusedVariables false
set_option maxHeartbeats 8000000
namespace RsLaw
noncomputable def codes (l : List Str) : List (List Nat) := l.map fun x => x.cps.toList
theorem codes_inj : ∀ {l m : List Str}, codes l = codes m → l = m
  | [], [], _ => rfl
  | [], _ :: _, h => by cases h
  | _ :: _, [], h => by cases h
  | x :: l, y :: m, h => by
    unfold codes at h
    rw [List.map_cons, List.map_cons, List.cons.injEq] at h
    rw [str_eq h.1, codes_inj (l := l) (m := m) h.2]
theorem eqv_str (x y : Str) : PyData.eqv (.str x) (.str y) = (x.cps.toList == y.cps.toList) := by
  rw [PyData.eqv]
  cases h : (x.cps.toList == y.cps.toList) with
  | true => rw [beq_iff_eq] at h; rw [str_eq h]; simp
  | false =>
    cases q : (x == y) with
    | false => rfl
    | true => rw [beq_iff_eq] at q; rw [q] at h; simp at h
theorem eqvAll_strs : ∀ l m : List Str, PyData.eqvAll (l.map PyData.str) (m.map PyData.str) = (codes l == codes m)
  | [], [] => by simp [PyData.eqvAll, codes]
  | [], _ :: _ => by simp [PyData.eqvAll, codes]
  | _ :: _, [] => by simp [PyData.eqvAll, codes]
  | x :: l, y :: m => by
    rw [List.map_cons, List.map_cons, PyData.eqvAll, eqv_str, eqvAll_strs l m]
    rfl
theorem eqv_strs (l m : List Str) : PyData.eqv (strsP l) (strsP m) = (codes l == codes m) := by
  unfold strsP; rw [PyData.eqv, eqvAll_strs]
theorem eqvAll_ints : ∀ l m : List Int, PyData.eqvAll (l.map PyData.int) (m.map PyData.int) = (l == m)
  | [], [] => by simp [PyData.eqvAll]
  | [], _ :: _ => by simp [PyData.eqvAll]
  | _ :: _, [] => by simp [PyData.eqvAll]
  | x :: l, y :: m => by
    rw [List.map_cons, List.map_cons, PyData.eqvAll, eqvAll_ints l m, PyData.eqv]
    rfl
theorem eqv_norm (A V : WD) : PyData.eqv (normOf A) (normOf V) = (A.count == V.count && A.b == V.b) := by
  unfold normOf
  simp only [PyData.eqv, PyData.eqvAll, eqvAll_ints, Bool.and_true]

structure Inf where
  a : Nat
  t : List Nat
  line : List Nat
  kept : List (List Nat)
  W : WD
  cols : List Int
  rows : List (List Nat)
noncomputable def strT (t : List Nat) : Str := ⟨t.toArray⟩
noncomputable def wEq (A V : WD) : Bool := A.n == V.n && A.nt == V.nt && A.count == V.count && A.b == V.b && A.simple == V.simple
theorem wEq_eq {A V : WD} (h : wEq A V = true) : A = V := by
  unfold wEq at h
  simp only [Bool.and_eq_true, beq_iff_eq] at h
  obtain ⟨⟨⟨⟨h1, h2⟩, h3⟩, h4⟩, h5⟩ := h
  cases A; cases V
  simp only at h1 h2 h3 h4 h5
  subst h1 h2 h3 h4 h5
  rfl
noncomputable def downL (a : Int) (t : Str) (m : Nat) : List Str := (List.range m).map fun (i : Nat) => lineP (a + (i : Int) * (-1)) t
noncomputable def stayR (a : Int) (t : Str) : List Str := pickL (staysP (lineP a t)) none none (some (-1))
noncomputable def chk (i : Inf) : Bool :=
  lineGood i.a (strT i.t) && (codes (keptP i.a (strT i.t)) == i.kept) && wEq (whiteP (lineP i.a (strT i.t))) i.W && (colsP (lineP i.a (strT i.t)) == i.cols) && (codes (rowsP (lineP i.a (strT i.t))) == i.rows) && ((lineP i.a (strT i.t)).cps.toList == i.line) &&
  (codes (stayR i.a (strT i.t))).all (fun k => i.kept.contains k) && i.kept.all (fun k => (codes (stayR i.a (strT i.t))).contains k) && (i.t == [] || codes (downL i.a (strT i.t) (i.a + 1)) == i.kept)
noncomputable def onesI (i j : Inf) : Bool := (lessP i.W j.W == smallP i.cols j.cols) && ((i.W.count == j.W.count && i.W.b == j.W.b) == (i.rows == j.rows))
noncomputable def dueI (i j : Inf) : List (List Nat) := if (i.t == j.t && j.t != []) = true then (if j.a < i.a then j.kept else i.kept) else if (i.line == j.line) = true then [i.line] else []
noncomputable def pairI (i j : Inf) : Bool := (i.kept.filter (fun k => j.kept.contains k) == dueI i j) && onesI i j
theorem strT_cps (t : List Nat) : (strT t).cps.toList = t := by simp [strT]
theorem mem_codes {x : Str} {l : List Str} : x.cps.toList ∈ codes l ↔ x ∈ l := by
  unfold codes
  rw [List.mem_map]
  constructor
  · rintro ⟨y, hy, e⟩; rw [← str_eq e]; exact hy
  · intro h; exact ⟨x, h, rfl⟩
theorem codes_filter {p : Str → Bool} {q : List Nat → Bool} : ∀ {l : List Str}, (∀ x ∈ l, p x = q x.cps.toList) → codes (l.filter p) = (codes l).filter q
  | [], _ => rfl
  | x :: l, h => by
    have hx := h x (.head _)
    have ih := codes_filter (l := l) fun y hy => h y (.tail _ hy)
    show codes ((x :: l).filter p) = (x.cps.toList :: codes l).filter q
    rw [List.filter_cons, List.filter_cons, ← ih, ← hx]
    cases p x with
    | true => rfl
    | false => rfl
structure Chk (i : Inf) : Prop where
  good : lineGood i.a (strT i.t) = true
  kept : codes (keptP i.a (strT i.t)) = i.kept
  W : whiteP (lineP i.a (strT i.t)) = i.W
  cols : colsP (lineP i.a (strT i.t)) = i.cols
  rows : codes (rowsP (lineP i.a (strT i.t))) = i.rows
  line : (lineP i.a (strT i.t)).cps.toList = i.line
  s1 : ∀ k ∈ codes (stayR i.a (strT i.t)), k ∈ i.kept
  s2 : ∀ k ∈ i.kept, k ∈ codes (stayR i.a (strT i.t))
  down : i.t ≠ [] → codes (downL i.a (strT i.t) (i.a + 1)) = i.kept
theorem chk_of {i : Inf} (h : chk i = true) : Chk i := by
  unfold chk at h
  simp only [Bool.and_eq_true, Bool.or_eq_true, beq_iff_eq, List.all_eq_true, List.contains_iff_mem] at h
  obtain ⟨⟨⟨⟨⟨⟨⟨⟨h1, h2⟩, h3⟩, h4⟩, h5⟩, h6⟩, h7⟩, h8⟩, h9⟩ := h
  exact ⟨h1, h2, wEq_eq h3, h4, h5, h6, h7, h8, fun hn => h9.resolve_left hn⟩
theorem ones_of {i j : Inf} (ci : Chk i) (cj : Chk j) (h : onesI i j = true) : onesGood (lineP i.a (strT i.t)) (lineP j.a (strT j.t)) = true := by
  unfold onesGood
  rw [ci.W, cj.W, ci.cols, cj.cols, eqv_norm, eqv_strs, ci.rows, cj.rows]
  exact h
theorem pair_of {i j : Inf} (ci : Chk i) (cj : Chk j) (h : pairI i j = true) (h' : onesI j i = true) : pairGood i.a (strT i.t) j.a (strT j.t) = true := by
  unfold pairI at h
  rw [Bool.and_eq_true, beq_iff_eq] at h
  obtain ⟨hm, ho⟩ := h
  have merged : codes (mergedP i.a (strT i.t) j.a (strT j.t)) = i.kept.filter (fun k => j.kept.contains k) := by
    unfold mergedP mergeP
    rw [← ci.kept]
    refine codes_filter fun x hx => ?_
    show preS (stayR j.a (strT j.t)) (stayR j.a (strT j.t)).length x = _
    unfold preS
    rw [List.take_length, Bool.eq_iff_iff, List.any_eq_true, List.contains_iff_mem]
    constructor
    · rintro ⟨z, hz, e⟩
      rw [decide_eq_true_eq] at e
      exact cj.s1 _ (mem_codes.mpr (e ▸ hz))
    · intro hk
      exact ⟨x, mem_codes.mp (cj.s2 _ hk), by simp⟩
  have due : codes (dueP i.a (strT i.t) j.a (strT j.t)) = dueI i j := by
    unfold dueP due1P sameP dueI
    rw [strT_cps, strT_cps, ci.line, cj.line]
    by_cases hs : (i.t == j.t && j.t != []) = true
    · rw [if_pos hs, if_pos hs]
      simp only [Bool.and_eq_true, beq_iff_eq, bne_iff_ne] at hs
      by_cases hc : j.a < i.a
      · rw [if_pos hc, ← cj.down hs.2, hs.1]
        have e : min2 (i.a : Int) (j.a : Int) = (j.a : Int) := by unfold min2; rw [if_pos (by omega)]
        rw [e]
        rfl
      · rw [if_neg hc, ← ci.down (by rw [hs.1]; exact hs.2)]
        have e : min2 (i.a : Int) (j.a : Int) = (i.a : Int) := by unfold min2; rw [if_neg (by omega)]
        rw [e]
        rfl
    · rw [if_neg hs, if_neg hs]
      split
      · unfold codes; rw [List.map_cons, ci.line]; rfl
      · rfl
  have same : mergedP i.a (strT i.t) j.a (strT j.t) = dueP i.a (strT i.t) j.a (strT j.t) := codes_inj (by rw [merged, due]; exact hm)
  have okk : okS (keptP i.a (strT i.t)) = true := by
    have g := ci.good
    unfold lineGood at g
    simp only [Bool.and_eq_true] at g
    exact g.1.1.1.1.1.1.1.2
  unfold pairGood
  rw [← same, eqv_strs, ones_of ci cj ho, ones_of cj ci h']
  have okm : okS (mergedP i.a (strT i.t) j.a (strT j.t)) = true := okS_filter _ okk
  rw [okm]
  simp
noncomputable def tbl0 : List Inf := [
  ⟨0, [], [32], [[32]], ⟨1, 0, [], 1, true⟩, [1, 1, 1, 1], [[32]]⟩,
  ⟨0, [9], [9], [[9]], ⟨1, 1, [1], 0, true⟩, [1, 2, 3, 4], [[], []]⟩,
  ⟨0, [9, 9], [9, 9], [[9, 9]], ⟨2, 2, [2], 0, true⟩, [2, 4, 6, 8], [[], [], []]⟩,
  ⟨0, [9, 32], [9, 32], [[9, 32]], ⟨2, 1, [1], 1, true⟩, [2, 3, 4, 5], [[], [32]]⟩]
noncomputable def tbl1 : List Inf := [
  ⟨0, [9, 9, 9], [9, 9, 9], [[9, 9, 9]], ⟨3, 3, [3], 0, true⟩, [3, 6, 9, 12], [[], [], [], []]⟩,
  ⟨0, [9, 9, 32], [9, 9, 32], [[9, 9, 32]], ⟨3, 2, [2], 1, true⟩, [3, 5, 7, 9], [[], [], [32]]⟩,
  ⟨0, [9, 32, 9], [9, 32, 9], [[9, 32, 9]], ⟨3, 2, [1, 1], 0, false⟩, [3, 4, 6, 8], [[], [32], []]⟩,
  ⟨0, [9, 32, 32], [9, 32, 32], [[9, 32, 32]], ⟨3, 1, [1], 2, true⟩, [3, 4, 5, 6], [[], [32, 32]]⟩]
noncomputable def tbl2 : List Inf := [
  ⟨0, [9, 9, 9, 9], [9, 9, 9, 9], [[9, 9, 9, 9]], ⟨4, 4, [4], 0, true⟩, [4, 8, 12, 16], [[], [], [], [], []]⟩,
  ⟨0, [9, 9, 9, 32], [9, 9, 9, 32], [[9, 9, 9, 32]], ⟨4, 3, [3], 1, true⟩, [4, 7, 10, 13], [[], [], [], [32]]⟩,
  ⟨0, [9, 9, 32, 9], [9, 9, 32, 9], [[9, 9, 32, 9]], ⟨4, 3, [2, 1], 0, false⟩, [4, 6, 9, 12], [[], [], [32], []]⟩,
  ⟨0, [9, 9, 32, 32], [9, 9, 32, 32], [[9, 9, 32, 32]], ⟨4, 2, [2], 2, true⟩, [4, 6, 8, 10], [[], [], [32, 32]]⟩]
noncomputable def tbl3 : List Inf := [
  ⟨0, [9, 32, 9, 9], [9, 32, 9, 9], [[9, 32, 9, 9]], ⟨4, 3, [2, 1], 0, false⟩, [4, 6, 9, 12], [[], [], [32], []]⟩,
  ⟨0, [9, 32, 9, 32], [9, 32, 9, 32], [[9, 32, 9, 32]], ⟨4, 2, [1, 1], 1, false⟩, [4, 5, 7, 9], [[], [32], [32]]⟩,
  ⟨0, [9, 32, 32, 9], [9, 32, 32, 9], [[9, 32, 32, 9]], ⟨4, 2, [1, 0, 1], 0, false⟩, [4, 6, 6, 8], [[], [32, 32], []]⟩,
  ⟨0, [9, 32, 32, 32], [9, 32, 32, 32], [[9, 32, 32, 32]], ⟨4, 1, [1], 3, true⟩, [4, 5, 6, 7], [[], [32, 32, 32]]⟩]
noncomputable def tbl4 : List Inf := [
  ⟨1, [], [32, 32], [[32, 32]], ⟨2, 0, [], 2, true⟩, [2, 2, 2, 2], [[32, 32]]⟩,
  ⟨1, [9], [32, 9], [[32, 9], [9]], ⟨2, 1, [0, 1], 0, false⟩, [2, 2, 3, 4], [[32], []]⟩,
  ⟨1, [9, 9], [32, 9, 9], [[32, 9, 9], [9, 9]], ⟨3, 2, [1, 1], 0, false⟩, [3, 4, 6, 8], [[], [32], []]⟩,
  ⟨1, [9, 32], [32, 9, 32], [[32, 9, 32], [9, 32]], ⟨3, 1, [0, 1], 1, false⟩, [3, 3, 4, 5], [[32], [32]]⟩]
noncomputable def tbl5 : List Inf := [
  ⟨1, [9, 9, 9], [32, 9, 9, 9], [[32, 9, 9, 9], [9, 9, 9]], ⟨4, 3, [2, 1], 0, false⟩, [4, 6, 9, 12], [[], [], [32], []]⟩,
  ⟨1, [9, 9, 32], [32, 9, 9, 32], [[32, 9, 9, 32], [9, 9, 32]], ⟨4, 2, [1, 1], 1, false⟩, [4, 5, 7, 9], [[], [32], [32]]⟩,
  ⟨1, [9, 32, 9], [32, 9, 32, 9], [[32, 9, 32, 9], [9, 32, 9]], ⟨4, 2, [0, 2], 0, false⟩, [4, 4, 6, 8], [[32], [32], []]⟩,
  ⟨1, [9, 32, 32], [32, 9, 32, 32], [[32, 9, 32, 32], [9, 32, 32]], ⟨4, 1, [0, 1], 2, false⟩, [4, 4, 5, 6], [[32], [32, 32]]⟩]
noncomputable def tbl6 : List Inf := [
  ⟨1, [9, 9, 9, 9], [32, 9, 9, 9, 9], [[32, 9, 9, 9, 9], [9, 9, 9, 9]], ⟨5, 4, [3, 1], 0, false⟩, [5, 8, 12, 16], [[], [], [], [32], []]⟩,
  ⟨1, [9, 9, 9, 32], [32, 9, 9, 9, 32], [[32, 9, 9, 9, 32], [9, 9, 9, 32]], ⟨5, 3, [2, 1], 1, false⟩, [5, 7, 10, 13], [[], [], [32], [32]]⟩,
  ⟨1, [9, 9, 32, 9], [32, 9, 9, 32, 9], [[32, 9, 9, 32, 9], [9, 9, 32, 9]], ⟨5, 3, [1, 2], 0, false⟩, [5, 6, 9, 12], [[], [32], [32], []]⟩,
  ⟨1, [9, 9, 32, 32], [32, 9, 9, 32, 32], [[32, 9, 9, 32, 32], [9, 9, 32, 32]], ⟨5, 2, [1, 1], 2, false⟩, [5, 6, 8, 10], [[], [32], [32, 32]]⟩]
noncomputable def tbl7 : List Inf := [
  ⟨1, [9, 32, 9, 9], [32, 9, 32, 9, 9], [[32, 9, 32, 9, 9], [9, 32, 9, 9]], ⟨5, 3, [1, 2], 0, false⟩, [5, 6, 9, 12], [[], [32], [32], []]⟩,
  ⟨1, [9, 32, 9, 32], [32, 9, 32, 9, 32], [[32, 9, 32, 9, 32], [9, 32, 9, 32]], ⟨5, 2, [0, 2], 1, false⟩, [5, 5, 7, 9], [[32], [32], [32]]⟩,
  ⟨1, [9, 32, 32, 9], [32, 9, 32, 32, 9], [[32, 9, 32, 32, 9], [9, 32, 32, 9]], ⟨5, 2, [0, 1, 1], 0, false⟩, [5, 6, 6, 8], [[32], [32, 32], []]⟩,
  ⟨1, [9, 32, 32, 32], [32, 9, 32, 32, 32], [[32, 9, 32, 32, 32], [9, 32, 32, 32]], ⟨5, 1, [0, 1], 3, false⟩, [5, 5, 6, 7], [[32], [32, 32, 32]]⟩]
noncomputable def tbl8 : List Inf := [
  ⟨2, [], [32, 32, 32], [[32, 32, 32]], ⟨3, 0, [], 3, true⟩, [3, 3, 3, 3], [[32, 32, 32]]⟩,
  ⟨2, [9], [32, 32, 9], [[32, 32, 9], [32, 9], [9]], ⟨3, 1, [0, 0, 1], 0, false⟩, [3, 4, 3, 4], [[32, 32], []]⟩,
  ⟨2, [9, 9], [32, 32, 9, 9], [[32, 32, 9, 9], [32, 9, 9], [9, 9]], ⟨4, 2, [1, 0, 1], 0, false⟩, [4, 6, 6, 8], [[], [32, 32], []]⟩,
  ⟨2, [9, 32], [32, 32, 9, 32], [[32, 32, 9, 32], [32, 9, 32], [9, 32]], ⟨4, 1, [0, 0, 1], 1, false⟩, [4, 5, 4, 5], [[32, 32], [32]]⟩]
noncomputable def tbl9 : List Inf := [
  ⟨2, [9, 9, 9], [32, 32, 9, 9, 9], [[32, 32, 9, 9, 9], [32, 9, 9, 9], [9, 9, 9]], ⟨5, 3, [2, 0, 1], 0, false⟩, [5, 8, 9, 12], [[], [], [32, 32], []]⟩,
  ⟨2, [9, 9, 32], [32, 32, 9, 9, 32], [[32, 32, 9, 9, 32], [32, 9, 9, 32], [9, 9, 32]], ⟨5, 2, [1, 0, 1], 1, false⟩, [5, 7, 7, 9], [[], [32, 32], [32]]⟩,
  ⟨2, [9, 32, 9], [32, 32, 9, 32, 9], [[32, 32, 9, 32, 9], [32, 9, 32, 9], [9, 32, 9]], ⟨5, 2, [0, 1, 1], 0, false⟩, [5, 6, 6, 8], [[32], [32, 32], []]⟩,
  ⟨2, [9, 32, 32], [32, 32, 9, 32, 32], [[32, 32, 9, 32, 32], [32, 9, 32, 32], [9, 32, 32]], ⟨5, 1, [0, 0, 1], 2, false⟩, [5, 6, 5, 6], [[32, 32], [32, 32]]⟩]
noncomputable def tbl10 : List Inf := [
  ⟨2, [9, 9, 9, 9], [32, 32, 9, 9, 9, 9], [[32, 32, 9, 9, 9, 9], [32, 9, 9, 9, 9], [9, 9, 9, 9]], ⟨6, 4, [3, 0, 1], 0, false⟩, [6, 10, 12, 16], [[], [], [], [32, 32], []]⟩,
  ⟨2, [9, 9, 9, 32], [32, 32, 9, 9, 9, 32], [[32, 32, 9, 9, 9, 32], [32, 9, 9, 9, 32], [9, 9, 9, 32]], ⟨6, 3, [2, 0, 1], 1, false⟩, [6, 9, 10, 13], [[], [], [32, 32], [32]]⟩,
  ⟨2, [9, 9, 32, 9], [32, 32, 9, 9, 32, 9], [[32, 32, 9, 9, 32, 9], [32, 9, 9, 32, 9], [9, 9, 32, 9]], ⟨6, 3, [1, 1, 1], 0, false⟩, [6, 8, 9, 12], [[], [32], [32, 32], []]⟩,
  ⟨2, [9, 9, 32, 32], [32, 32, 9, 9, 32, 32], [[32, 32, 9, 9, 32, 32], [32, 9, 9, 32, 32], [9, 9, 32, 32]], ⟨6, 2, [1, 0, 1], 2, false⟩, [6, 8, 8, 10], [[], [32, 32], [32, 32]]⟩]
noncomputable def tbl11 : List Inf := [
  ⟨2, [9, 32, 9, 9], [32, 32, 9, 32, 9, 9], [[32, 32, 9, 32, 9, 9], [32, 9, 32, 9, 9], [9, 32, 9, 9]], ⟨6, 3, [1, 1, 1], 0, false⟩, [6, 8, 9, 12], [[], [32], [32, 32], []]⟩,
  ⟨2, [9, 32, 9, 32], [32, 32, 9, 32, 9, 32], [[32, 32, 9, 32, 9, 32], [32, 9, 32, 9, 32], [9, 32, 9, 32]], ⟨6, 2, [0, 1, 1], 1, false⟩, [6, 7, 7, 9], [[32], [32, 32], [32]]⟩,
  ⟨2, [9, 32, 32, 9], [32, 32, 9, 32, 32, 9], [[32, 32, 9, 32, 32, 9], [32, 9, 32, 32, 9], [9, 32, 32, 9]], ⟨6, 2, [0, 0, 2], 0, false⟩, [6, 8, 6, 8], [[32, 32], [32, 32], []]⟩,
  ⟨2, [9, 32, 32, 32], [32, 32, 9, 32, 32, 32], [[32, 32, 9, 32, 32, 32], [32, 9, 32, 32, 32], [9, 32, 32, 32]], ⟨6, 1, [0, 0, 1], 3, false⟩, [6, 7, 6, 7], [[32, 32], [32, 32, 32]]⟩]
noncomputable def tbl : List Inf := tbl0 ++ tbl1 ++ tbl2 ++ tbl3 ++ tbl4 ++ tbl5 ++ tbl6 ++ tbl7 ++ tbl8 ++ tbl9 ++ tbl10 ++ tbl11
theorem line0 : tbl0.all chk = true := by decide +kernel
theorem line1 : tbl1.all chk = true := by decide +kernel
theorem line2 : tbl2.all chk = true := by decide +kernel
theorem line3 : tbl3.all chk = true := by decide +kernel
theorem line4 : tbl4.all chk = true := by decide +kernel
theorem line5 : tbl5.all chk = true := by decide +kernel
theorem line6 : tbl6.all chk = true := by decide +kernel
theorem line7 : tbl7.all chk = true := by decide +kernel
theorem line8 : tbl8.all chk = true := by decide +kernel
theorem line9 : tbl9.all chk = true := by decide +kernel
theorem line10 : tbl10.all chk = true := by decide +kernel
theorem line11 : tbl11.all chk = true := by decide +kernel
theorem pair0 : (tbl0.all fun i => tbl.all fun j => pairI i j) = true := by decide +kernel
theorem pair1 : (tbl1.all fun i => tbl.all fun j => pairI i j) = true := by decide +kernel
theorem pair2 : (tbl2.all fun i => tbl.all fun j => pairI i j) = true := by decide +kernel
theorem pair3 : (tbl3.all fun i => tbl.all fun j => pairI i j) = true := by decide +kernel
theorem pair4 : (tbl4.all fun i => tbl.all fun j => pairI i j) = true := by decide +kernel
theorem pair5 : (tbl5.all fun i => tbl.all fun j => pairI i j) = true := by decide +kernel
theorem pair6 : (tbl6.all fun i => tbl.all fun j => pairI i j) = true := by decide +kernel
theorem pair7 : (tbl7.all fun i => tbl.all fun j => pairI i j) = true := by decide +kernel
theorem pair8 : (tbl8.all fun i => tbl.all fun j => pairI i j) = true := by decide +kernel
theorem pair9 : (tbl9.all fun i => tbl.all fun j => pairI i j) = true := by decide +kernel
theorem pair10 : (tbl10.all fun i => tbl.all fun j => pairI i j) = true := by decide +kernel
theorem pair11 : (tbl11.all fun i => tbl.all fun j => pairI i j) = true := by decide +kernel
theorem all_line : ∀ i ∈ tbl, chk i = true := fun i hi => by
  have h : tbl.all chk = true := by
    unfold tbl
    simp only [List.all_append, line0, line1, line2, line3, line4, line5, line6, line7, line8, line9, line10, line11, Bool.and_true]
  exact List.all_eq_true.mp h i hi
theorem all_pair : ∀ i ∈ tbl, ∀ j ∈ tbl, pairI i j = true := fun i hi j hj => by
  have h : (tbl.all fun i => tbl.all fun j => pairI i j) = true := by
    have e : ∀ (f : Inf → Bool), tbl.all f = (tbl0.all f && tbl1.all f && tbl2.all f && tbl3.all f && tbl4.all f && tbl5.all f && tbl6.all f && tbl7.all f && tbl8.all f && tbl9.all f && tbl10.all f && tbl11.all f) := fun f => by
      unfold tbl
      simp only [List.all_append]
    rw [e]
    simp only [pair0, pair1, pair2, pair3, pair4, pair5, pair6, pair7, pair8, pair9, pair10, pair11, Bool.and_true]
  exact List.all_eq_true.mp (List.all_eq_true.mp h i hi) j hj
theorem good_of {i j : Inf} (hi : i ∈ tbl) (hj : j ∈ tbl) : lineGood i.a (strT i.t) = true ∧ lineGood j.a (strT j.t) = true ∧ pairGood i.a (strT i.t) j.a (strT j.t) = true := by
  have ci := chk_of (all_line i hi)
  have cj := chk_of (all_line j hj)
  have p := all_pair j hj i hi
  unfold pairI at p
  rw [Bool.and_eq_true] at p
  exact ⟨ci.good, cj.good, pair_of ci cj (all_pair i hi j hj) p.2⟩
end RsLaw
end
section
open PySem PySem.Spec PySem.Calls PySem.W PyProof.Rows PySem.SeqAt
set_option maxRecDepth 100000
set_option linter.unusedVariables false
set_option maxHeartbeats 8000000
namespace RsLaw
noncomputable def tl : List (List Nat) := [[], [9], [9,9],[9,32],[9,9,9],[9,9,32],[9,32,9],[9,32,32],[9,9,9,9],[9,9,9,32],[9,9,32,9],[9,9,32,32],[9,32,9,9],[9,32,9,32],[9,32,32,9],[9,32,32,32]]
theorem bitP_or (c : Int) (i : Nat) : bitP c i = Str.ofString "\t" ∨ bitP c i = Str.ofString " " := by
  unfold bitP
  split
  · exact .inl rfl
  · exact .inr rfl
theorem tailP_mem (c : Int) : ∃ t ∈ tl, tailP c = strT t := by
  have hm := fmod_bounds (c.fdiv 3) (b := 4) (by decide)
  unfold tailP
  split
  · decide +kernel
  · have hn : ((c.fdiv 3).fmod 4).toNat < 4 := by omega
    generalize ((c.fdiv 3).fmod 4).toNat = m at hn
    have hm' : m = 0 ∨ m = 1 ∨ m = 2 ∨ m = 3 := by omega
    rcases hm' with rfl | rfl | rfl | rfl
    · rw [show (List.range 0).map (bitP c) = [] from rfl]; decide +kernel
    · rw [show (List.range 1).map (bitP c) = [bitP c 0] from rfl]
      rcases bitP_or c 0 with e0 | e0 <;> (rw [e0]; decide +kernel)
    · rw [show (List.range 2).map (bitP c) = [bitP c 0, bitP c 1] from rfl]
      rcases bitP_or c 0 with e0 | e0 <;> rcases bitP_or c 1 with e1 | e1 <;> (rw [e0, e1]; decide +kernel)
    · rw [show (List.range 3).map (bitP c) = [bitP c 0, bitP c 1, bitP c 2] from rfl]
      rcases bitP_or c 0 with e0 | e0 <;> rcases bitP_or c 1 with e1 | e1 <;> rcases bitP_or c 2 with e2 | e2 <;> (rw [e0, e1, e2]; decide +kernel)
theorem tbl_has : (([0, 1, 2] : List Nat).all fun a => tl.all fun t => tbl.any fun i => i.a == a && i.t == t) = true := by decide +kernel
theorem tbl_get {a : Int} {c : Int} (h0 : 0 ≤ a) (h1 : a < 3) : ∃ i ∈ tbl, (i.a : Int) = a ∧ strT i.t = tailP c := by
  obtain ⟨t, ht, e⟩ := tailP_mem c
  have ha : a.toNat ∈ ([0, 1, 2] : List Nat) := by
    have : a = 0 ∨ a = 1 ∨ a = 2 := by omega
    rcases this with rfl | rfl | rfl <;> decide
  have h := List.all_eq_true.mp (List.all_eq_true.mp tbl_has _ ha) t ht
  obtain ⟨i, hi, q⟩ := List.any_eq_true.mp h
  rw [Bool.and_eq_true, beq_iff_eq, beq_iff_eq] at q
  exact ⟨i, hi, by omega, by rw [q.2, e]⟩
theorem all_good (ns : List Int) : lineGood (frontA ns) (tailA ns) = true ∧ lineGood (frontB ns) (tailB ns) = true ∧ pairGood (frontA ns) (tailA ns) (frontB ns) (tailB ns) = true := by
  have ba := fmod_bounds (firstP ns) (b := 3) (by decide)
  have bb := fmod_bounds (secondP ns) (b := 3) (by decide)
  obtain ⟨i, hi, e1, e2⟩ := tbl_get (c := firstP ns) ba.1 ba.2
  obtain ⟨j, hj, e3, e4⟩ := tbl_get (c := cellB ns) bb.1 bb.2
  have g := good_of hi hj
  rw [e1, e2, e3, e4] at g
  exact g
theorem ints_reads {h : Heap} : ∀ {vs : List Value} {ns : List Int}, IntsAre vs ns → DPs h vs (ns.map PyData.int)
  | _, _, r => of_intsAre r
theorem run_law {w : World} {s₁ : Shared} {mg mb : Str → Option Value} {ns : List Int} {vs : List Value} {l fa : Addr} (KX : (hd.heap_39 w.params).In s₁.heap) (Tg : s₁.heap.Ns mainGlobals mg) (Tb : s₁.heap.Ns builtinsNs mb) (Tn : s₁.heap.NoLimit)
    (Tm : ∀ x : Str, x ≠ "__name__" → mb x = bootBuiltins x) (hmg : mg ("law" : Str) = some (.ref fa)) (hL : s₁.heap.IsList l vs.toArray) (hI : IntsAre vs ns) (hn : ns.length ≤ 63) {Q E : Value → Shared → Prop}
    (K : ∀ h' tk, Sub s₁.heap h' → Q (.bool true) { s₁ with heap := h', toks := tk }) : wpAny (model PR w) callerA (call (.ref fa) [.ref l]) Q E s₁ := by
  have hfa : mg ("law" : Str) = some (.ref 188) := mg_of KX Tg (by k_is)
  rw [hfa] at hmg
  cases hmg
  have e : hideAll s₁.heap [] = s₁.heap := rfl
  obtain ⟨g0, g1, gp⟩ := all_good ns
  refine fn_law (n := 0) hn g0 g1 gp [] callerA s₁ [.ref l] ⟨rfl, by decide, by decide⟩ (fun a ha => by cases ha) ⟨KX, mg, mb, Tg, Tb, Tn, Tm⟩ (.cons ?_ .nil) Q E fun v h' tk sb dv => ?_
  · exact DP.list hL (ints_reads hI)
  · rw [DP.bool_inv dv]
    exact K h' tk sb
theorem law_holds : PySem.Challenge.rw_rs0133_01.Holds := hd (by
  k_fill
  intro w s₀ s₁ mg mb G Y fa o pm cd doc dV kV ho hdd hcd hD hmg hg args vals as hpre hlay hrd hwl hlo
  have KX := kIn_of Y
  refine Ground.open G ?_
  intro T B D TE TW
  have Tg := T.g
  have Tb := T.b
  have Tn := T.nolimit
  have Tm := T.builtins
  have hmg' : mg (Str.ofString "law") = some (.ref fa) := hmg
  clear ho hdd hcd hD hmg T B TE TW Y G D
  wrow_args hpre hlay hrd hwl hlo
  rename_i ns h1 h2 h3 h4 h5 a1 a2 l vs a3 hL h6 h7 h8 hI h9 hn h10
  refine run_law KX Tg Tb Tn Tm hmg' hL hI (by omega) fun h' tk sb => ?_
  refine GoodW.toG ⟨.inl ⟨.bool true, .bool true, [], rfl, fun _ => rfl, ?_, ?_, ?_⟩, sb, rfl, hg⟩
  · constructor
  · simp only [RowW.claim, OpenLaw.row]
    show (WShape.has _ (WData.bool true) _ && WTm.holds _ (WTm.eq .res (.lit (.bool true))) _) = true
    unfold WTm.holds
    rw [w_eq_bool (w_res rfl) w_lit]
    rw [Bool.and_eq_true]
    refine ⟨?_, rfl⟩
    show WShape.has _ (WData.bool true) WShape.bool = true
    unfold WShape.has
    decide
  · exact fun _ => ⟨.nil, fun a ha => by cases ha⟩)
end RsLaw
end
set_option maxRecDepth 100000 in
set_option maxHeartbeats 8000000 in
theorem PySem.Challenge.cw_rs0133_01_holds : PySem.Challenge.rw_rs0133_01.Holds :=
  RsLaw.law_holds
