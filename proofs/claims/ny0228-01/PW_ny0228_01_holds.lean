import PyProof.Rows.All
import Wide.All
import OpenK.AllK
import Wide.FinOn
import PySem.Challenge.RW_ny0228_01
set_option Elab.async false
set_option maxRecDepth 100000
namespace Ny
open PySem PySem.W PySem.Calls PyProof.Rows

/-! ## The program's parts, by number -/
def stAt (i : Nat) : Option Stmt := PySem.Challenge.pw_ny0228_01.main.body[i]?
def nameAt (i : Nat) : Str := match stAt i with
  | some (.FunctionDef n _ _ _ _ _ _ _ _ _) => n
  | _ => ""
def paramsAt (i : Nat) : Arguments := match stAt i with
  | some (.FunctionDef _ a _ _ _ _ _ _ _ _) => a
  | _ => ⟨[], [], none, [], [], none, []⟩
def bodyAt (i : Nat) : List Stmt := match stAt i with
  | some (.FunctionDef _ _ b _ _ _ _ _ _ _) => b
  | _ => []
def scopeAt (i : Nat) : Scope := match stAt i with
  | some (.FunctionDef _ _ _ _ _ _ sc _ _ _) => sc
  | _ => { kind := .module, names := [], isGenerator := false, isCoroutine := false, more := [] }

/-! ## Growth, readings -/
abbrev Grow (h h' : Heap) : Prop := ∀ b o, h.get? b = some o → h'.get? b = some o
theorem Grow.refl (h : Heap) : Grow h h := fun _ _ e => e
theorem Grow.trans {h h' h'' : Heap} (a : Grow h h') (b : Grow h' h'') : Grow h h'' := fun x o e => b x o (a x o e)
theorem Grow.push (h : Heap) (o : Obj) : Grow h (h.push o) := fun _ _ e => Heap.get?_push_of_some _ e

mutual
/-- data without dicts -/
def nd : PyData → Bool
  | .none | .bool _ | .int _ | .str _ => true
  | .list xs | .tuple xs => ndAll xs
  | .dict _ => false
def ndAll : List PyData → Bool
  | [] => true
  | x :: xs => nd x && ndAll xs
end
/-- what reads as a list or a tuple is kept -/
abbrev SeqGrow (h h' : Heap) : Prop := ∀ b o xs n, h.get? b = some o → o.data = .seq xs n → h'.get? b = some o
theorem Grow.seq {h h' : Heap} (g : Grow h h') : SeqGrow h h' := fun b o _ _ e _ => g b o e
mutual
theorem reads_seq {h h' : Heap} (hk : SeqGrow h h') : ∀ {v : Value} {d : PyData} {as : List Addr}, nd d = true → Reads h v d as → Reads h' v d as
  | _, _, _, _, .none => .none
  | _, _, _, _, .bool b => .bool b
  | _, _, _, _, .int i t => .int i t
  | _, _, _, _, .str x t => .str x t
  | _, _, _, n, .list ho hc hd r => .list (hk _ _ _ _ ho hd) hc hd (readsAll_seq hk (by simpa [nd] using n) r)
  | _, _, _, n, .tuple ho hc hd r => .tuple (hk _ _ _ _ ho hd) hc hd (readsAll_seq hk (by simpa [nd] using n) r)
  | _, _, _, n, .dict _ _ _ _ _ => by simp [nd] at n
theorem readsAll_seq {h h' : Heap} (hk : SeqGrow h h') : ∀ {vs : List Value} {ds : List PyData} {as : List Addr}, ndAll ds = true → ReadsAll h vs ds as → ReadsAll h' vs ds as
  | _, _, _, _, .nil => .nil
  | _, _, _, n, .cons a b => .cons (reads_seq hk (by simp only [ndAll, Bool.and_eq_true] at n; exact n.1) a) (readsAll_seq hk (by simp only [ndAll, Bool.and_eq_true] at n; exact n.2) b)
end

def Is (h : Heap) (v : Value) (d : PyData) : Prop := nd d = true ∧ ∃ as, Reads h v d as
def IsAll (h : Heap) (vs : List Value) (ds : List PyData) : Prop := ndAll ds = true ∧ ∃ as, ReadsAll h vs ds as
theorem Is.seq {h h' : Heap} {v d} (x : Is h v d) (g : SeqGrow h h') : Is h' v d := let ⟨n, as, r⟩ := x; ⟨n, as, reads_seq g n r⟩
theorem IsAll.seq {h h' : Heap} {v d} (x : IsAll h v d) (g : SeqGrow h h') : IsAll h' v d := let ⟨n, as, r⟩ := x; ⟨n, as, readsAll_seq g n r⟩
theorem Is.grow {h h' : Heap} {v d} (x : Is h v d) (g : Grow h h') : Is h' v d := x.seq g.seq
theorem IsAll.grow {h h' : Heap} {v d} (x : IsAll h v d) (g : Grow h h') : IsAll h' v d := x.seq g.seq
theorem Is.int (h : Heap) (i : Int) (t : Tok) : Is h (.int i t) (.int i) := ⟨rfl, _, .int i t⟩
theorem Is.str (h : Heap) (x : Str) (t : Tok) : Is h (.str x t) (.str x) := ⟨rfl, _, .str x t⟩
theorem Is.bool (h : Heap) (b : Bool) : Is h (.bool b) (.bool b) := ⟨rfl, _, .bool b⟩
theorem Is.none (h : Heap) : Is h .none .none := ⟨rfl, _, .none⟩
theorem Is.int_inv {h : Heap} {v : Value} {i : Int} (x : Is h v (.int i)) : ∃ t, v = .int i t := let ⟨_, _, r⟩ := x; let ⟨t, e, _⟩ := reads_int_inv r; ⟨t, e⟩
theorem Is.str_inv {h : Heap} {v : Value} {i : Str} (x : Is h v (.str i)) : ∃ t, v = .str i t := let ⟨_, _, r⟩ := x; let ⟨t, e, _⟩ := reads_str_inv r; ⟨t, e⟩
theorem Is.bool_inv {h : Heap} {v : Value} {b : Bool} (x : Is h v (.bool b)) : v = .bool b := let ⟨_, _, r⟩ := x; (reads_bool_inv r).1
theorem Is.none_inv {h : Heap} {v : Value} (x : Is h v .none) : v = .none := let ⟨_, _, r⟩ := x; (reads_none_inv r).1
theorem IsAll.nil (h : Heap) : IsAll h [] [] := ⟨rfl, _, .nil⟩
theorem IsAll.cons {h : Heap} {v vs d ds} (x : Is h v d) (y : IsAll h vs ds) : IsAll h (v :: vs) (d :: ds) := let ⟨n, _, a⟩ := x; let ⟨m, _, b⟩ := y; ⟨by simp [ndAll, n, m], _, .cons a b⟩
theorem IsAll.cons_inv {h : Heap} {vs d ds} (x : IsAll h vs (d :: ds)) : ∃ v r, vs = v :: r ∧ Is h v d ∧ IsAll h r ds := by
  obtain ⟨n, _, x⟩ := x; simp only [ndAll, Bool.and_eq_true] at n; cases x with | cons a b => exact ⟨_, _, rfl, ⟨n.1, _, a⟩, ⟨n.2, _, b⟩⟩
theorem IsAll.nil_inv {h : Heap} {vs} (x : IsAll h vs []) : vs = [] := by
  obtain ⟨_, _, x⟩ := x; cases x; rfl
theorem IsAll.length {h : Heap} : ∀ {vs ds}, IsAll h vs ds → vs.length = ds.length
  | _, [], x => by rw [x.nil_inv]; rfl
  | _, d :: ds, x => by obtain ⟨v, r, rfl, _, y⟩ := x.cons_inv; simp [y.length]
theorem IsAll.get {h : Heap} : ∀ {vs ds} (_ : IsAll h vs ds) {i : Nat} {d : PyData}, ds[i]? = some d → ∃ v, vs[i]? = some v ∧ Is h v d
  | _, [], x, i, d, e => by simp at e
  | _, d' :: ds, x, 0, d, e => by obtain ⟨v, r, rfl, y, _⟩ := x.cons_inv; simp at e; subst e; exact ⟨v, rfl, y⟩
  | _, d' :: ds, x, i + 1, d, e => by obtain ⟨v, r, rfl, _, y⟩ := x.cons_inv; simp at e; simpa using y.get e
theorem IsAll.app {h : Heap} : ∀ {vs ds us es}, IsAll h vs ds → IsAll h us es → IsAll h (vs ++ us) (ds ++ es)
  | _, [], _, _, x, y => by rw [x.nil_inv]; exact y
  | _, d :: ds, _, _, x, y => by obtain ⟨v, r, rfl, a, b⟩ := x.cons_inv; exact IsAll.cons a (b.app y)
theorem Is.list {h : Heap} {a : Addr} {vs : Array Value} {ds : List PyData} (l : h.IsList a vs) (x : IsAll h vs.toList ds) : Is h (.ref a) (.list ds) := by
  obtain ⟨o, ho, hc, n, hd⟩ := l; obtain ⟨m, as, r⟩ := x; exact ⟨by simpa [nd] using m, _, .list ho hc hd r⟩
theorem Is.list_inv {h : Heap} {v : Value} {ds : List PyData} (x : Is h v (.list ds)) : ∃ a vs, v = .ref a ∧ h.IsList a vs ∧ IsAll h vs.toList ds := by
  obtain ⟨m, as, r⟩ := x; cases r with | list ho hc hd r => exact ⟨_, _, rfl, ⟨_, ho, hc, _, hd⟩, ⟨by simpa [nd] using m, _, r⟩⟩
theorem Is.tuple {h : Heap} {a : Addr} {vs : Array Value} {ds : List PyData} (l : IsTup h a vs) (x : IsAll h vs.toList ds) : Is h (.ref a) (.tuple ds) := by
  obtain ⟨o, ho, hc, n, hd⟩ := l; obtain ⟨m, as, r⟩ := x; exact ⟨by simpa [nd] using m, _, .tuple ho hc hd r⟩
theorem Is.tuple_inv {h : Heap} {v : Value} {ds : List PyData} (x : Is h v (.tuple ds)) : ∃ a vs, v = .ref a ∧ IsTup h a vs ∧ IsAll h vs.toList ds := by
  obtain ⟨m, as, r⟩ := x; cases r with | tuple ho hc hd r => exact ⟨_, _, rfl, ⟨_, ho, hc, _, hd⟩, ⟨by simpa [nd] using m, _, r⟩⟩

def Kp (s s' : Shared) : Prop := PySem.Keeps s s'
theorem Kp.refl (s : Shared) : Kp s s := ⟨s.heap, s.toks, rfl, fun _ _ e => e⟩
theorem Kp.grow {s s' : Shared} (k : Kp s s') : Grow s.heap s'.heap := by obtain ⟨h', tk, rfl, g⟩ := k; exact g
theorem Kp.trans {s s' s'' : Shared} (a : Kp s s') (b : Kp s' s'') : Kp s s'' := by
  obtain ⟨h', tk, rfl, g⟩ := a; obtain ⟨h'', tk', rfl, g'⟩ := b; exact ⟨h'', tk', rfl, fun x o e => g' x o (g x o e)⟩
theorem Kp.tok (s : Shared) (k : Nat) : Kp s { s with toks := k } := ⟨s.heap, k, rfl, fun _ _ e => e⟩
theorem Kp.push (s : Shared) (o : Obj) (k : Nat) : Kp s { s with heap := s.heap.push o, toks := k } := ⟨_, k, rfl, Grow.push _ _⟩
theorem Kp.of {s : Shared} {h' : Heap} {k : Nat} (g : Grow s.heap h') : Kp s { s with heap := h', toks := k } := ⟨h', k, rfl, g⟩
end Ny

namespace Ny
open PySem PySem.W PySem.Calls PyProof.Rows

/-! ## What the top leaves, as the walk needs it -/
def FnAt (mg : Str → Option Value) (h : Heap) (i : Nat) : Prop :=
  ∃ a o pm cd doc, mg (nameAt i) = some (.ref a) ∧ h.get? a = some o ∧ o.data = .func (docDef (nameAt i) (paramsAt i) (bodyAt i) (scopeAt i) pm cd doc) ∧ h.CodeRec cd (nameAt i)
theorem FnAt.grow {mg h h' i} (x : FnAt mg h i) (g : Grow h h') : FnAt mg h' i :=
  let ⟨a, o, pm, cd, doc, h1, h2, h3, h4⟩ := x; ⟨a, o, pm, cd, doc, h1, g _ _ h2, h3, h4.keeps g⟩
def fnsUsed : List Nat := [1, 2, 5, 7, 9, 10, 11, 12, 13, 14, 15, 16, 17, 18]
def bltsUsed : List Str := ["ord", "chr", "len", "range", "list", "isinstance", "str", "ValueError", "IndexError"]

def b1list : List Int := [173, 847, 6150, 6155, 6156, 6157, 8203, 8204, 8205, 8288, 65279] ++ (List.range 16).map fun (i : Nat) => (65024 + (i : Int))
def pairOf : Option Expr × Expr → Option (Int × Str)
  | (some (.Constant (.int k) _ _), .Constant (.str x) _ _) => some (k, x)
  | _ => none
def b3list : List (Int × Str) := match stAt 6 with
  | some (.Assign _ (.Dict ks vs _) _) => (ks.zip vs).filterMap pairOf
  | _ => []
def b3tab (k : Int) : Option Str := b3list.lookup k
def B3At (prog : Program) (w : World) (h : Heap) (a : Addr) : Prop :=
  ∃ f, h.MapOf (intKind prog w) a f ∧ ∀ k, match b3tab k with
    | some x => ∃ t, f k = some (.str x t)
    | none => f k = none
def B1At (prog : Program) (w : World) (h : Heap) (a : Addr) : Prop := ∃ n, h.SetOf (intKind prog w) a (fun k => decide (k ∈ b1list)) n

structure G (prog : Program) (w : World) (mg mb : Str → Option Value) (h : Heap) : Prop where
  g : h.Ns mainGlobals mg
  b : h.Ns builtinsNs mb
  lim : h.NoLimit
  fn : ∀ i ∈ fnsUsed, FnAt mg h i
  bl : ∀ x ∈ bltsUsed, mg x = none ∧ mb x = bootBuiltins x
  b1 : ∃ a, mg "b1_set" = some (.ref a) ∧ B1At prog w h a
  b3 : ∃ a, mg "b3_exceptions" = some (.ref a) ∧ (a == sysModules) = false ∧ B3At prog w h a

section
variable {prog : Program} {w : World} {mg mb : Str → Option Value}
theorem MapOf.grow {K : Type} [DecidableEq K] {knd : KeyKind prog w K} {h h' : Heap} {a : Addr} {f : K → Option Value} (x : h.MapOf knd a f) (g : Grow h h') : h'.MapOf knd a f :=
  let ⟨o, es, ep, ho, r⟩ := x; ⟨o, es, ep, g _ _ ho, r⟩
theorem SetOf.grow {K : Type} [DecidableEq K] {knd : KeyKind prog w K} {h h' : Heap} {a : Addr} {S : K → Bool} {n : Nat} (x : h.SetOf knd a S n) (g : Grow h h') : h'.SetOf knd a S n :=
  let ⟨o, es, ep, t, ho, r⟩ := x; ⟨o, es, ep, t, g _ _ ho, r⟩
theorem G.grow {h h' : Heap} (x : G prog w mg mb h) (g : Grow h h') : G prog w mg mb h' where
  g := x.g.keeps g
  b := x.b.keeps g
  lim := x.lim.keeps g
  fn := fun i hi => (x.fn i hi).grow g
  bl := x.bl
  b1 := let ⟨a, h1, n, h2⟩ := x.b1; ⟨a, h1, n, SetOf.grow h2 g⟩
  b3 := let ⟨a, h1, hs, f, h2, h3⟩ := x.b3; ⟨a, h1, hs, f, MapOf.grow h2 g, h3⟩
end

/-! ## A frame whose names hold data -/
structure Fm (prog : Program) (w : World) (mg mb : Str → Option Value) (env : Env) (ρ κ : List (Str × PyData)) (h : Heap) : Prop where
  gl : G prog w mg mb h
  kind : env.scope.kind = .function
  glo : env.globals = mainGlobals
  blt : env.builtins = builtinsNs
  loc : ∃ m, h.Ns env.locals m ∧ ∀ x d, ρ.lookup x = some d → ∃ v, m x = some v ∧ Is h v d
  cel : ∀ x d, κ.lookup x = some d → ∃ c v, env.cells.lookup x = some c ∧ h.IsCell c (some v) ∧ Is h v d

section
variable {prog : Program} {w : World} {mg mb : Str → Option Value} {env : Env} {ρ κ : List (Str × PyData)}
theorem Fm.grow {h h' : Heap} (x : Fm prog w mg mb env ρ κ h) (g : Grow h h') : Fm prog w mg mb env ρ κ h' where
  gl := x.gl.grow g
  kind := x.kind
  glo := x.glo
  blt := x.blt
  loc := let ⟨m, h1, h2⟩ := x.loc; ⟨m, h1.keeps g, fun y d e => let ⟨v, a, b⟩ := h2 y d e; ⟨v, a, b.grow g⟩⟩
  cel := fun y d e => let ⟨c, v, a, b, i⟩ := x.cel y d e; ⟨c, v, a, b.keeps g, i.grow g⟩

/-- In any state whose frame is so, the expression ends, changes no old object, and its value reads as d. -/
structure EvR (prog : Program) (w : World) (mg mb : Str → Option Value) (A : Around) (env : Env) (ρ κ : List (Str × PyData)) (e : Expr) (R : Value → Heap → Prop) : Prop where
  run : ∀ (s : Shared) (E : Value → Shared → Prop), Fm prog w mg mb env ρ κ s.heap → wpAny (model prog w) A (eval e env) (fun v s' => Kp s s' ∧ R v s'.heap) E s
abbrev EvD (prog : Program) (w : World) (mg mb : Str → Option Value) (A : Around) (env : Env) (ρ κ : List (Str × PyData)) (e : Expr) (d : PyData) : Prop :=
  EvR prog w mg mb A env ρ κ e (fun v h => Is h v d)
structure EvT (prog : Program) (w : World) (mg mb : Str → Option Value) (A : Around) (env : Env) (ρ κ : List (Str × PyData)) (e : Expr) (b : Bool) : Prop where
  run : ∀ (s : Shared) (E : Value → Shared → Prop), Fm prog w mg mb env ρ κ s.heap → wpAny (model prog w) A (isTrue e env (eval e env)) (fun v s' => Kp s s' ∧ v = b) E s
structure EvL (prog : Program) (w : World) (mg mb : Str → Option Value) (A : Around) (env : Env) (ρ κ : List (Str × PyData)) (es : List Expr) (ds : List PyData) : Prop where
  run : ∀ (s : Shared) (pos : Pos) (E : Value → Shared → Prop), Fm prog w mg mb env ρ κ s.heap → wpAny (model prog w) A (spliced (backTo pos (starEach es env))) (fun vs s' => Kp s s' ∧ IsAll s'.heap vs ds) E s

variable {A : Around}
theorem EvR.mono {e : Expr} {R R' : Value → Heap → Prop} (x : EvR prog w mg mb A env ρ κ e R) (h : ∀ v h, R v h → R' v h) : EvR prog w mg mb A env ρ κ e R' := .mk fun s E F => wpAny_mono (x.run s E F) (fun _ _ q => ⟨q.1, h _ _ q.2⟩) fun _ _ q => q

theorem ev_str {x : Str} {k pos} : EvD prog w mg mb A env ρ κ (.Constant (.str x) k pos) (.str x) := .mk fun s _ _ => wpAny_Constant_str ⟨Kp.tok s _, Is.str _ _ _⟩
theorem ev_int {i : Int} {k pos} : EvD prog w mg mb A env ρ κ (.Constant (.int i) k pos) (.int i) := .mk fun s _ _ => wpAny_Constant_int ⟨Kp.tok s _, Is.int _ _ _⟩
theorem ev_none {k pos} : EvD prog w mg mb A env ρ κ (.Constant .none k pos) .none := .mk fun s _ _ => wpAny_Constant_none ⟨Kp.refl s, Is.none _⟩
theorem ev_bool {b k pos} : EvD prog w mg mb A env ρ κ (.Constant (.bool b) k pos) (.bool b) := .mk fun s _ _ => wpAny_Constant_bool ⟨Kp.refl s, Is.bool _ _⟩

theorem ev_local {x : Str} {pos} {d : PyData} (hl : env.kindOf x = some .local) (hd : ρ.lookup x = some d) (hx : (x == ("__debug__" : Str)) = false) : EvD prog w mg mb A env ρ κ (.Name x pos) d := .mk fun s _ F => by
    obtain ⟨m, hn, hm⟩ := F.loc
    obtain ⟨v, hv, hi⟩ := hm x d hd
    exact wpAny_Name (wpAny_loadName_local F.kind hl hn hv ⟨Kp.refl s, hi⟩) hx
theorem ev_cell {x : Str} {pos} {d : PyData} (hl : env.kindOf x = some .cell) (hd : κ.lookup x = some d) (hx : (x == ("__debug__" : Str)) = false) : EvD prog w mg mb A env ρ κ (.Name x pos) d := .mk fun s _ F => by
    obtain ⟨c, v, hc, hv, hi⟩ := F.cel x d hd
    exact wpAny_Name (wpAny_loadName_cell F.kind hl hc hv ⟨Kp.refl s, hi⟩) hx

def notStar : Expr → Bool
  | .Starred .. => false
  | _ => true
theorem star_of {e : Expr} (h : notStar e = true) (es : List Expr) (env : Env) : starEach (e :: es) env = (false, eval e env) :: starEach es env := by
  cases e <;> first | rfl | (simp [notStar] at h)
theorem evl_nil : EvL prog w mg mb A env ρ κ [] [] := .mk fun s _ _ _ => wpAny_items_nil ⟨Kp.refl s, IsAll.nil _⟩
theorem evl_cons {e : Expr} {es : List Expr} {d : PyData} {ds : List PyData} (x : EvD prog w mg mb A env ρ κ e d) (y : EvL prog w mg mb A env ρ κ es ds)
    (he : notStar e = true := by rfl) : EvL prog w mg mb A env ρ κ (e :: es) (d :: ds) := .mk fun s pos E F => by
  refine wpAny_items_cons (wpAny_mono (x.run s E F) (fun v s₁ h₁ => ?_) fun _ _ q => q) (star_of he es env)
  refine wpAny_mono (y.run s₁ pos E (F.grow h₁.1.grow)) (fun vs s₂ h₂ => ⟨h₁.1.trans h₂.1, IsAll.cons (h₁.2.grow h₂.1.grow) h₂.2⟩) fun _ _ q => q
theorem ev_tuple {es : List Expr} {ds : List PyData} {k pos} (x : EvL prog w mg mb A env ρ κ es ds) (hz : ds.length ≤ sizeLine) : EvD prog w mg mb A env ρ κ (.Tuple es k pos) (.tuple ds) := .mk fun s E F => by
  refine wpAny_Tuple (wpAny_mono (x.run s pos E F) (fun vs s₁ h₁ => ⟨by rw [h₁.2.length]; exact hz, h₁.1.trans (Kp.push s₁ _ s₁.toks), ?_⟩) fun _ _ q => q)
  exact Is.tuple (vs := vs.toArray) ⟨_, Heap.get?_push_size _ rfl, rfl, _, rfl⟩ (by simpa using h₁.2.grow (Grow.push _ _))
theorem ev_list {es : List Expr} {ds : List PyData} {pos} (x : EvL prog w mg mb A env ρ κ es ds) (hz : ds.length ≤ sizeLine) : EvD prog w mg mb A env ρ κ (.List es pos) (.list ds) := .mk fun s E F => by
  refine wpAny_List (wpAny_mono (x.run s pos E F) (fun vs s₁ h₁ => ⟨by rw [h₁.2.length]; exact hz, h₁.1.trans (Kp.push s₁ _ s₁.toks), ?_⟩) fun _ _ q => q)
  exact Is.list (vs := vs.toArray) ⟨_, Heap.get?_push_size _ rfl, rfl, _, rfl⟩ (by simpa using h₁.2.grow (Grow.push _ _))

theorem ev_bin {l r : Expr} {op pos} {R₁ R₂ R : Value → Heap → Prop} (x : EvR prog w mg mb A env ρ κ l R₁) (y : EvR prog w mg mb A env ρ κ r R₂) (st : ∀ v h h', Grow h h' → R₁ v h → R₁ v h')
    (h : ∀ a b (s : Shared) (E : Value → Shared → Prop), G prog w mg mb s.heap → R₁ a s.heap → R₂ b s.heap → wpAny (model prog w) A (binaryOp op a b) (fun v s' => Kp s s' ∧ R v s'.heap) E s) :
    EvR prog w mg mb A env ρ κ (.BinOp l op r pos) R := .mk fun s E F => by
  refine wpAny_BinOp (wpAny_mono (x.run s E F) (fun a s₁ h₁ => ?_) fun _ _ q => q)
  refine wpAny_mono (y.run s₁ E (F.grow h₁.1.grow)) (fun b s₂ h₂ => ?_) fun _ _ q => q
  refine wpAny_mono (h a b s₂ E ((F.grow h₁.1.grow).grow h₂.1.grow).gl (st _ _ _ h₂.1.grow h₁.2) h₂.2) (fun v s₃ h₃ => ⟨(h₁.1.trans h₂.1).trans h₃.1, h₃.2⟩) fun _ _ q => q
theorem ev_addS {l r : Expr} {pos} {x y : Str} (hx : EvD prog w mg mb A env ρ κ l (.str x)) (hy : EvD prog w mg mb A env ρ κ r (.str y)) (hz : x.length + y.length ≤ sizeLine) :
    EvD prog w mg mb A env ρ κ (.BinOp l .Add r pos) (.str (x ++ y)) :=
  ev_bin hx hy (fun _ _ _ g i => i.grow g) fun a b s E _ ha hb => by
    obtain ⟨t, rfl⟩ := ha.str_inv; obtain ⟨u, rfl⟩ := hb.str_inv
    exact add_str (fun t' tk => ⟨Kp.tok s tk, Is.str _ _ _⟩) hz
theorem ev_addI {l r : Expr} {pos} {x y : Int} (hx : EvD prog w mg mb A env ρ κ l (.int x)) (hy : EvD prog w mg mb A env ρ κ r (.int y)) : EvD prog w mg mb A env ρ κ (.BinOp l .Add r pos) (.int (x + y)) :=
  ev_bin hx hy (fun _ _ _ g i => i.grow g) fun a b s E _ ha hb => by
    obtain ⟨t, rfl⟩ := ha.int_inv; obtain ⟨u, rfl⟩ := hb.int_inv
    exact add_int ⟨Kp.tok s _, Is.int _ _ _⟩
theorem ev_mod {l r : Expr} {pos} {x y : Int} (hx : EvD prog w mg mb A env ρ κ l (.int x)) (hy : EvD prog w mg mb A env ρ κ r (.int y)) (h0 : 0 < y) : EvD prog w mg mb A env ρ κ (.BinOp l .Mod r pos) (.int (x % y)) :=
  ev_bin hx hy (fun _ _ _ g i => i.grow g) fun a b s E _ ha hb => by
    obtain ⟨t, rfl⟩ := ha.int_inv; obtain ⟨u, rfl⟩ := hb.int_inv
    refine mod_int' (by omega) ⟨Kp.tok s _, ?_⟩
    rw [Int.fmod_eq_emod_of_nonneg _ (by omega)]; exact Is.int _ _ _
theorem ev_div {l r : Expr} {pos} {x y : Int} (hx : EvD prog w mg mb A env ρ κ l (.int x)) (hy : EvD prog w mg mb A env ρ κ r (.int y)) (h0 : 0 < y) (hp : Builtin.divisionGoesByPylong x y = false) : EvD prog w mg mb A env ρ κ (.BinOp l .FloorDiv r pos) (.int (x / y)) :=
  ev_bin hx hy (fun _ _ _ g i => i.grow g) fun a b s E _ ha hb => by
    obtain ⟨t, rfl⟩ := ha.int_inv; obtain ⟨u, rfl⟩ := hb.int_inv
    refine floordiv_int (by omega) ⟨Kp.tok s _, ?_⟩ (.inl hp)
    rw [Int.fdiv_eq_ediv_of_nonneg _ (by omega)]; exact Is.int _ _ _

theorem ev_if {t b o : Expr} {pos} {c : Bool} {R : Value → Heap → Prop} (x : EvT prog w mg mb A env ρ κ t c) (y : c = true → EvR prog w mg mb A env ρ κ b R) (z : c = false → EvR prog w mg mb A env ρ κ o R) :
    EvR prog w mg mb A env ρ κ (.IfExp t b o pos) R := .mk fun s E F => by
  refine wpAny_IfExp (wpAny_mono (x.run s E F) (fun v s₁ h₁ => ?_) fun _ _ q => q)
  obtain ⟨k, rfl⟩ := h₁
  cases v with
  | true => exact wpAny_mono ((y rfl).run s₁ E (F.grow k.grow)) (fun v s₂ h₂ => ⟨k.trans h₂.1, h₂.2⟩) fun _ _ q => q
  | false => exact wpAny_mono ((z rfl).run s₁ E (F.grow k.grow)) (fun v s₂ h₂ => ⟨k.trans h₂.1, h₂.2⟩) fun _ _ q => q

theorem ev_cmp {l r : Expr} {op pos} {R₁ R₂ R : Value → Heap → Prop} (x : EvR prog w mg mb A env ρ κ l R₁) (y : EvR prog w mg mb A env ρ κ r R₂) (st : ∀ v h h', Grow h h' → R₁ v h → R₁ v h')
    (h : ∀ a b (s : Shared) (E : Value → Shared → Prop), G prog w mg mb s.heap → R₁ a s.heap → R₂ b s.heap → wpAny (model prog w) A (compareOp op a b) (fun v s' => Kp s s' ∧ R v s'.heap) E s)
    (hm : behindInMarks op r = false := by with_unfolding_all rfl) :
    EvR prog w mg mb A env ρ κ (.Compare l [op] [r] pos) R := .mk fun s E F => by
  refine wpAny_Compare1 (wpAny_mono (x.run s E F) (fun a s₁ h₁ => ?_) fun _ _ q => q) hm
  refine wpAny_mono (y.run s₁ E (F.grow h₁.1.grow)) (fun b s₂ h₂ => ?_) fun _ _ q => q
  refine wpAny_mono (h a b s₂ E ((F.grow h₁.1.grow).grow h₂.1.grow).gl (st _ _ _ h₂.1.grow h₁.2) h₂.2) (fun v s₃ h₃ => ⟨(h₁.1.trans h₂.1).trans h₃.1, h₃.2⟩) fun _ _ q => q
theorem evt_cmp {l r : Expr} {op pos} {R₁ R₂ : Value → Heap → Prop} {c : Bool} (x : EvR prog w mg mb A env ρ κ l R₁) (y : EvR prog w mg mb A env ρ κ r R₂) (st : ∀ v h h', Grow h h' → R₁ v h → R₁ v h')
    (h : ∀ a b (s : Shared) (E : Value → Shared → Prop), G prog w mg mb s.heap → R₁ a s.heap → R₂ b s.heap → wpAny (model prog w) A (compareOp op a b) (fun v s' => Kp s s' ∧ v = .bool c) E s)
    (hm : behindInMarks op r = false := by with_unfolding_all rfl) :
    EvT prog w mg mb A env ρ κ (.Compare l [op] [r] pos) c := .mk fun s E F => by
  refine wpAny_isTrue_Compare1 (wpAny_mono (x.run s E F) (fun a s₁ h₁ => ?_) fun _ _ q => q) hm
  refine wpAny_mono (y.run s₁ E (F.grow h₁.1.grow)) (fun b s₂ h₂ => ?_) fun _ _ q => q
  refine wpAny_mono (h a b s₂ E ((F.grow h₁.1.grow).grow h₂.1.grow).gl (st _ _ _ h₂.1.grow h₁.2) h₂.2) (fun v s₃ h₃ => ?_) fun _ _ q => q
  obtain ⟨k, rfl⟩ := h₃
  exact wpAny_truthy_bool ⟨(h₁.1.trans h₂.1).trans k, rfl⟩
theorem evt_value {e : Expr} {b : Bool} (x : EvD prog w mg mb A env ρ κ e (.bool b)) (he : ∀ whole, isTrue e env whole = (do let v ← whole; standAt e.pos; holding [v] (truthy v)) := by intro; rfl) : EvT prog w mg mb A env ρ κ e b := .mk fun s E F =>
  wpAny_isTrue_value (wpAny_mono (x.run s E F) (fun v s₁ h₁ => by
    obtain rfl := h₁.2.bool_inv
    exact wpAny_truthy_bool ⟨h₁.1, rfl⟩) fun _ _ q => q) (he _)
theorem evt_not {e : Expr} {b : Bool} {pos} (x : EvT prog w mg mb A env ρ κ e b) : EvT prog w mg mb A env ρ κ (.UnaryOp .Not e pos) (!b) := .mk fun s E F =>
  wpAny_isTrue_Not (wpAny_mono (x.run s E F) (fun v s₁ h₁ => ⟨h₁.1, by rw [h₁.2]⟩) fun _ _ q => q)

theorem evt_eqS {l r : Expr} {pos} {x y : Str} (hx : EvD prog w mg mb A env ρ κ l (.str x)) (hy : EvD prog w mg mb A env ρ κ r (.str y)) (hm : behindInMarks .Eq r = false := by with_unfolding_all rfl) :
    EvT prog w mg mb A env ρ κ (.Compare l [.Eq] [r] pos) (x == y) :=
  evt_cmp hx hy (fun _ _ _ g i => i.grow g) (fun a b s E _ ha hb => by
    obtain ⟨t, rfl⟩ := ha.str_inv; obtain ⟨u, rfl⟩ := hb.str_inv
    exact eq_str ⟨Kp.refl s, rfl⟩) hm
end
end Ny

namespace Ny
open PySem PySem.W PySem.Calls PyProof.Rows

theorem seqGrow_of_sameBut {h h' : Heap} {L : Addr} {m : Str → Option Value} (hn : h.Ns L m) (hs : Heap.SameBut L h h') : SeqGrow h h' := fun b o xs n e hd => by
  have hb : b ≠ L := by
    rintro rfl
    obtain ⟨o', es, ep, ho, hd', _⟩ := hn
    rw [e] at ho; cases ho; rw [hd] at hd'; cases hd'
  exact (hs.2 b hb).trans e
theorem cell_sameBut {h h' : Heap} {L c : Addr} {v : Option Value} {m : Str → Option Value} (hn : h.Ns L m) (hs : Heap.SameBut L h h') (hc : h.IsCell c v) : h'.IsCell c v := by
  refine hc.sameBut hs ?_
  rintro rfl
  obtain ⟨o', es, ep, ho, hd', _⟩ := hn
  obtain ⟨o, e, hd⟩ := hc
  rw [e] at ho; cases ho; rw [hd] at hd'; cases hd'

structure AOk (A : Around) (k : Nat) : Prop where
  handled : A.handled = none
  depth : A.depth + k < recursionLimit
  units : A.units + 3 * k + 200 < cLine
theorem AOk.deeper {A : Around} {k : Nat} (x : AOk A (k + 1)) (env : Env) : AOk (A.deeper env) k where
  handled := x.handled
  depth := by have := x.depth; show A.depth + 1 + k < _; omega
  units := by have := x.units; show A.units + 3 + 3 * k + 200 < _; omega
theorem AOk.le {A : Around} {k j : Nat} (x : AOk A k) (h : j ≤ k) : AOk A j := ⟨x.handled, by have := x.depth; omega, by have := x.units; omega⟩
theorem AOk.room {A : Around} {k : Nat} (x : AOk A k) : A.depth < recursionLimit := by have := x.depth; omega
theorem AOk.unit {A : Around} {k : Nat} (x : AOk A k) : A.units + 64 < cLine := by have := x.units; omega

section
variable {prog : Program} {w : World} {mg mb : Str → Option Value} {env : Env} {ρ κ : List (Str × PyData)} {A : Around}

/-- the state behind a block: only the frame's own names and new objects differ from base -/
def Out (base : Heap) (R : Value → Heap → Prop) (s : Shared) (f : Flow) (s' : Shared) : Prop := ∃ v h' tk, f = .ret v ∧ s' = { s with heap := h', toks := tk } ∧ Grow base h' ∧ R v h'
theorem Out.back {base : Heap} {R : Value → Heap → Prop} {s s₁ s' : Shared} {f : Flow} (k : ∃ h tk, s₁ = { s with heap := h, toks := tk }) (o : Out base R s₁ f s') : Out base R s f s' := by
  obtain ⟨h, tk, rfl⟩ := k
  obtain ⟨v, h', tk', rfl, rfl, g, r⟩ := o
  exact ⟨v, h', tk', rfl, rfl, g, r⟩
theorem Kp.ex {s s' : Shared} (k : Kp s s') : ∃ h tk, s' = { s with heap := h, toks := tk } := by obtain ⟨h, tk, e, _⟩ := k; exact ⟨h, tk, e⟩

/-- a block of a def's: it ends by a return whose value is R -/
structure Ex (prog : Program) (w : World) (mg mb : Str → Option Value) (A : Around) (env : Env) (base : Heap) (ρ κ : List (Str × PyData)) (b : List Stmt) (R : Value → Heap → Prop) : Prop where
  run : G prog w mg mb base → base.objs.size ≤ env.locals → ∀ (s : Shared) (E : Value → Shared → Prop), Fm prog w mg mb env ρ κ s.heap → Grow base s.heap →
    wpAny (model prog w) A (execs b env) (fun f s' => Out base R s f s') E s

variable {base : Heap}
theorem grow_sameBut {h h' : Heap} {L : Addr} (g : Grow base h) (hL : base.objs.size ≤ L) (hs : Heap.SameBut L h h') : Grow base h' := fun b o e => by
  have hb : b ≠ L := by rintro rfl; exact absurd (Heap.lt_size e) (Nat.not_lt.mpr hL)
  exact (hs.2 b hb).trans (g b o e)

theorem ex_ret {e : Expr} {pos rest} {R : Value → Heap → Prop} (x : EvR prog w mg mb A env ρ κ e R) : Ex prog w mg mb A env base ρ κ (.Return (some e) pos :: rest) R := .mk fun _ _ s E F g => by
  refine wpAny_execs_cons (wpAny_Return_some (wpAny_mono (x.run s E F) (fun v s₁ h₁ => ?_) fun _ _ q => q))
  obtain ⟨⟨h', tk, rfl, k⟩, r⟩ := h₁
  exact ⟨v, h', tk, rfl, rfl, g.trans k, r⟩

/-- a store into a local name -/
theorem store {x : Str} {v : Value} {d : PyData} {s : Shared} {E : Value → Shared → Prop} {Q : Unit → Shared → Prop} (gb : G prog w mg mb base) (hL : base.objs.size ≤ env.locals) (F : Fm prog w mg mb env ρ κ s.heap) (g : Grow base s.heap)
    (hl : env.kindOf x = some .local) (hi : Is s.heap v d)
    (h : ∀ h' tk, Fm prog w mg mb env ((x, d) :: ρ) κ h' → Grow base h' → Q () { s with heap := h', toks := tk }) : wpAny (model prog w) A (storeName env x v) Q E s := by
  obtain ⟨m, hn, hm⟩ := F.loc
  refine wpAny_storeName_local hl hn (fun h' hn' hs => ?_) (by rw [F.kind]; rfl)
  have g' := grow_sameBut g hL hs
  have sq := seqGrow_of_sameBut hn hs
  refine h h' _ ⟨gb.grow g', F.kind, F.glo, F.blt, ⟨_, hn', fun y dy e => ?_⟩, fun y dy e => ?_⟩ g'
  · by_cases hy : y = x
    · subst hy
      rw [List.lookup_cons, beq_self_eq_true] at e
      cases e
      exact ⟨v, if_pos rfl, hi.seq sq⟩
    · rw [List.lookup_cons, beq_eq_false_iff_ne.mpr hy] at e
      obtain ⟨v', a, b⟩ := hm y dy e
      exact ⟨v', (if_neg hy).trans a, b.seq sq⟩
  · obtain ⟨c, v', a, b, i⟩ := F.cel y dy e
    exact ⟨c, v', a, cell_sameBut hn hs b, i.seq sq⟩

theorem ex_assign {x : Str} {e : Expr} {pos' pos rest} {d : PyData} {R : Value → Heap → Prop} (hx : EvD prog w mg mb A env ρ κ e d) (hl : env.kindOf x = some .local)
    (y : Ex prog w mg mb A env base ((x, d) :: ρ) κ rest R) (hs : swapsWith e (some (.Name x pos')) pos.line env = pure false := by rfl) :
    Ex prog w mg mb A env base ρ κ (.Assign [.Name x pos'] e pos :: rest) R := .mk fun gb hL s E F g => by
  refine wpAny_execs_cons (wpAny_Assign_Name (wpAny_mono (hx.run s E F) (fun v s₁ h₁ => ?_) fun _ _ q => q) hs)
  refine store gb hL (F.grow h₁.1.grow) (g.trans h₁.1.grow) hl h₁.2 fun h' tk F' g' => ?_
  refine wpAny_mono (y.run gb hL _ E F' g') (fun f s₂ o => ?_) fun _ _ q => q
  exact (o.back ⟨_, _, rfl⟩).back h₁.1.ex

/-- several names stored in order -/
theorem stores : ∀ (xs : List (Str × Pos)) (vs : List Value) (ds : List PyData) (ρ : List (Str × PyData)) (s : Shared) {E : Value → Shared → Prop} {Q : Unit → Shared → Prop}, G prog w mg mb base → base.objs.size ≤ env.locals → Fm prog w mg mb env ρ κ s.heap → Grow base s.heap →
    xs.length = ds.length → (∀ x ∈ xs, env.kindOf x.1 = some .local) → IsAll s.heap vs ds →
    (∀ h' tk, Fm prog w mg mb env (((xs.map (·.1)).zip ds).reverse ++ ρ) κ h' → Grow base h' → Q () { s with heap := h', toks := tk }) →
    wpAny (model prog w) A (assignInOrder (xs.map fun x v => assign (.Name x.1 x.2) env v) vs) Q E s
  | [], vs, ds, ρ, s, E, Q, gb, hL, F, g, hlen, hk, hi, h => by
    obtain rfl : ds = [] := List.eq_nil_of_length_eq_zero hlen.symm
    obtain rfl := hi.nil_inv
    exact assignInOrder_nil (h s.heap s.toks F g)
  | x :: xs, vs, [], ρ, s, E, Q, gb, hL, F, g, hlen, hk, hi, h => by simp at hlen
  | x :: xs, vs, d :: ds, ρ, s, E, Q, gb, hL, F, g, hlen, hk, hi, h => by
    obtain ⟨v, r, rfl, hv, hr⟩ := hi.cons_inv
    refine assignInOrder_cons (wpAny_assign_Name ?_)
    obtain ⟨m, hn, hm⟩ := F.loc
    refine wpAny_storeName_local (hk x (.head _)) hn (fun h' hn' hs => ?_) (by rw [F.kind]; rfl)
    have g' := grow_sameBut g hL hs
    have sq := seqGrow_of_sameBut hn hs
    have F' : Fm prog w mg mb env ((x.1, d) :: ρ) κ h' := by
      refine ⟨gb.grow g', F.kind, F.glo, F.blt, ⟨_, hn', fun y dy e => ?_⟩, fun y dy e => ?_⟩
      · by_cases hy : y = x.1
        · subst hy
          rw [List.lookup_cons, beq_self_eq_true] at e
          cases e
          exact ⟨v, if_pos rfl, hv.seq sq⟩
        · rw [List.lookup_cons, beq_eq_false_iff_ne.mpr hy] at e
          obtain ⟨v', a, b⟩ := hm y dy e
          exact ⟨v', (if_neg hy).trans a, b.seq sq⟩
      · obtain ⟨c, v', a, b, i⟩ := F.cel y dy e
        exact ⟨c, v', a, cell_sameBut hn hs b, i.seq sq⟩
    refine stores xs r ds ((x.1, d) :: ρ) _ gb hL F' g' (by simpa using hlen) (fun y hy => hk y (.tail _ hy)) (hr.seq sq) fun h'' tk F'' g'' => ?_
    refine h h'' tk ?_ g''
    simpa [List.append_assoc] using F''

theorem ex_unpack {xs : List (Str × Pos)} {e : Expr} {k : Nat} {tpos pos rest} {ds : List PyData} {R : Value → Heap → Prop} (hh : A.handled = none) (hx : EvD prog w mg mb A env ρ κ e (.tuple ds)) (hlen : xs.length = ds.length)
    (hl : ∀ x ∈ xs, env.kindOf x.1 = some .local)
    (y : Ex prog w mg mb A env base (((xs.map (·.1)).zip ds).reverse ++ ρ) κ rest R)
    (ha : assignEach (xs.map fun x => .Name x.1 x.2) env = xs.map (fun x => (false, fun v => assign (.Name x.1 x.2) env v)))
    (hs : swapsWithSole [.Tuple (xs.map fun x => .Name x.1 x.2) k tpos] e pos.line env = pure false) (hw : swappedStores [.Tuple (xs.map fun x => .Name x.1 x.2) k tpos] e env = pure none) :
    Ex prog w mg mb A env base ρ κ (.Assign [.Tuple (xs.map fun x => .Name x.1 x.2) k tpos] e pos :: rest) R := .mk fun gb hL s E F g => by
  refine wpAny_execs_cons (Assign_Tuple (wpAny_mono (hx.run s E F) (fun v s₁ h₁ => ?_) fun _ _ q => q) hs hw)
  obtain ⟨a, vs, rfl, ht, hi⟩ := h₁.2.tuple_inv
  have hsz : vs.size = ds.length := by have := hi.length; simpa using this
  refine assign_Tuple_tuple hh ht (by rw [ha, List.length_map, hlen, hsz]) (by rw [ha]; simp [List.findIdx?_eq_none_iff]) fun h' he => ?_
  have gr : Grow s₁.heap h' := fun b o e => he b o (Nat.ne_of_lt (Heap.lt_size e)) e
  have e2 : (assignEach (xs.map fun x => .Name x.1 x.2) env).map (·.2) = xs.map fun x v => assign (.Name x.1 x.2) env v := by rw [ha, List.map_map]; rfl
  rw [e2]
  refine stores xs _ ds ρ _ gb hL ((F.grow h₁.1.grow).grow gr) ((g.trans h₁.1.grow).trans gr) hlen hl (hi.grow gr) fun h'' tk F'' g'' => ?_
  refine wpAny_mono (y.run gb hL _ E F'' g'') (fun f s₂ o => ?_) fun _ _ q => q
  exact ((o.back ⟨_, _, rfl⟩)).back h₁.1.ex

theorem ex_if_ret {t e : Expr} {pos pos' rest} {c : Bool} {R : Value → Heap → Prop} (x : EvT prog w mg mb A env ρ κ t c) (y : c = true → EvR prog w mg mb A env ρ κ e R) (z : c = false → Ex prog w mg mb A env base ρ κ rest R) :
    Ex prog w mg mb A env base ρ κ (.If t [.Return (some e) pos'] [] pos :: rest) R := .mk fun gb hL s E F g => by
  refine wpAny_execs_cons (wpAny_If (wpAny_mono (x.run s E F) (fun v s₁ h₁ => ?_) fun _ _ q => q))
  obtain ⟨k, rfl⟩ := h₁
  cases v with
  | true =>
    simp only [if_true]
    refine wpAny_execs_cons (wpAny_Return_some (wpAny_mono ((y rfl).run s₁ E (F.grow k.grow)) (fun v s₂ h₂ => ?_) fun _ _ q => q))
    obtain ⟨⟨h', tk, rfl, k'⟩, r⟩ := h₂
    exact Out.back k.ex ⟨v, h', tk, rfl, rfl, (g.trans k.grow).trans k', r⟩
  | false =>
    simp only [Bool.false_eq_true, if_false]
    refine wpAny_execs_nil ?_
    exact wpAny_mono ((z rfl).run gb hL s₁ E (F.grow k.grow) (g.trans k.grow)) (fun f s₂ o => o.back k.ex) fun _ _ q => q
theorem ex_if_assign {t e : Expr} {n : Str} {pos pos' pos'' rest} {c : Bool} {d d' : PyData} {R : Value → Heap → Prop} (x : EvT prog w mg mb A env ρ κ t c) (hl : env.kindOf n = some .local) (hd : ρ.lookup n = some d')
    (y : c = true → EvD prog w mg mb A env ρ κ e d) (z : Ex prog w mg mb A env base ((n, if c then d else d') :: ρ) κ rest R) (hs : swapsWith e (some (.Name n pos')) pos''.line env = pure false := by rfl) :
    Ex prog w mg mb A env base ρ κ (.If t [.Assign [.Name n pos'] e pos''] [] pos :: rest) R := .mk fun gb hL s E F g => by
  refine wpAny_execs_cons (wpAny_If (wpAny_mono (x.run s E F) (fun v s₁ h₁ => ?_) fun _ _ q => q))
  obtain ⟨k, rfl⟩ := h₁
  cases v with
  | true =>
    simp only [if_true] at z ⊢
    refine wpAny_execs_cons (wpAny_Assign_Name (wpAny_mono ((y rfl).run s₁ E (F.grow k.grow)) (fun v s₂ h₂ => ?_) fun _ _ q => q) hs)
    refine store gb hL ((F.grow k.grow).grow h₂.1.grow) ((g.trans k.grow).trans h₂.1.grow) hl h₂.2 fun h' tk F' g' => wpAny_execs_nil ?_
    refine wpAny_mono (z.run gb hL _ E F' g') (fun f s₂ o => ?_) fun _ _ q => q
    exact ((o.back ⟨_, _, rfl⟩).back h₂.1.ex).back k.ex
  | false =>
    simp only [Bool.false_eq_true, if_false] at z ⊢
    refine wpAny_execs_nil ?_
    refine wpAny_mono (z.run gb hL s₁ E ?_ (g.trans k.grow)) (fun f s₂ o => o.back k.ex) fun _ _ q => q
    have F' := F.grow k.grow
    obtain ⟨m, hn, hm⟩ := F'.loc
    refine ⟨F'.gl, F'.kind, F'.glo, F'.blt, ⟨m, hn, fun y dy e => ?_⟩, F'.cel⟩
    by_cases hy : y = n
    · subst hy
      rw [List.lookup_cons, beq_self_eq_true] at e
      cases e
      exact hm _ _ hd
    · rw [List.lookup_cons, beq_eq_false_iff_ne.mpr hy] at e
      exact hm _ _ e

/-! ## Contracts -/
structure Con (prog : Program) (w : World) (mg mb : Str → Option Value) (k i : Nat) (ds : List PyData) (R : Value → Heap → Prop) : Prop where
  run : ∀ (A : Around) (s : Shared) (E : Value → Shared → Prop) (vs : List Value) (a : Addr), AOk A k → G prog w mg mb s.heap → IsAll s.heap vs ds → mg (nameAt i) = some (.ref a) →
    wpAny (model prog w) A (call (.ref a) vs) (fun v s' => Kp s s' ∧ R v s'.heap) E s
abbrev ConD (prog : Program) (w : World) (mg mb : Str → Option Value) (k i : Nat) (ds : List PyData) (d : PyData) : Prop := Con prog w mg mb k i ds (fun v h => Is h v d)

theorem con_of {k i : Nat} {ds : List PyData} {R : Value → Heap → Prop} {ps : List Str} (hi : i ∈ fnsUsed)
    (hb : ∀ vs : List Value, vs.length = ds.length → ∀ pm cd doc, bindArgs (docDef (nameAt i) (paramsAt i) (bodyAt i) (scopeAt i) pm cd doc) ⟨vs, []⟩ = pure (ps.zip vs))
    (hp : ps.length = ds.length) (hl : ∀ x ∈ ps, (scopeAt i).names.lookup x = some .local) (hnd : ps.Nodup)
    (hco : (scopeAt i).isCoroutine = false) (hgen : (scopeAt i).isGenerator = false) (hk : (scopeAt i).kind = .function) (hcell : ∀ x ∈ (scopeAt i).names, x.2 ≠ .cell)
    (h : ∀ (A : Around) (base : Heap) (L a : Addr) (cd : Value), AOk A k → Ex prog w mg mb (A.deeper (envOf (nameAt i) (scopeAt i) L a cd)) (envOf (nameAt i) (scopeAt i) L a cd) base (ps.zip ds) [] (bodyAt i) R) :
    Con prog w mg mb k i ds R := by
  refine .mk fun A s E vs a hA hG hv ha => ?_
  obtain ⟨a', o, pm, cd, doc, h1, h2, h3, h4⟩ := hG.fn i hi
  rw [ha] at h1
  cases h1
  have hlen := hv.length
  refine wpAny_call (call_plain hA.room h2 h3 hG.lim h4 (hb vs hlen pm cd doc) (fun x hx => hl _ (List.of_mem_zip hx).1) (fun h₁ F => ?_) hco hgen hk hcell)
  have Fm0 : Fm prog w mg mb (envOf (nameAt i) (scopeAt i) s.heap.objs.size a cd) (ps.zip ds) [] h₁ := by
    refine ⟨hG.grow F.keep, hk, rfl, rfl, ⟨_, F.ns, fun x d e => ?_⟩, fun x d e => by simp at e⟩
    have key : ∀ (ps : List Str) (vs : List Value) (ds : List PyData), ps.Nodup → ps.length = ds.length → IsAll h₁ vs ds → (ps.zip ds).lookup x = some d → ∃ v, (ps.zip vs).reverse.lookup x = some v ∧ Is h₁ v d := by
      intro ps
      induction ps with
      | nil => intro vs ds _ _ _ e; simp at e
      | cons p ps ih =>
        intro vs ds hnd hlen hi e
        cases ds with
        | nil => simp at hlen
        | cons d' ds =>
          obtain ⟨v, r, rfl, hv, hr⟩ := hi.cons_inv
          rw [List.nodup_cons] at hnd
          simp only [List.zip_cons_cons, List.lookup_cons, List.reverse_cons, List.lookup_append] at e ⊢
          by_cases hx : x = p
          · subst hx
            rw [beq_self_eq_true] at e
            cases e
            refine ⟨v, ?_, hv⟩
            have : (ps.zip r).reverse.lookup x = none := by
              rw [List.lookup_eq_none_iff]
              intro q hq
              have := (List.of_mem_zip (List.mem_reverse.mp hq)).1
              simp only [bne_iff_ne, ne_eq]
              rintro rfl
              exact hnd.1 this
            rw [this]; simp
          · rw [beq_eq_false_iff_ne.mpr hx] at e
            obtain ⟨v', a', b'⟩ := ih r ds hnd.2 (by simpa using hlen) hr e
            exact ⟨v', by rw [a']; rfl, b'⟩
    exact key ps vs ds hnd hp (hv.grow F.keep) e
  refine wpAny_mono ((h A s.heap s.heap.objs.size a cd hA).run hG (Nat.le_refl _) _ _ Fm0 F.keep) (fun f s' o => ?_) fun _ _ q => q
  obtain ⟨v, h', tk, rfl, rfl, g, r⟩ := o
  exact ⟨⟨h', tk, rfl, g⟩, r⟩

/-- a call of a def by its name -/
theorem ev_call {f : Str} {p pos : Pos} {e : Expr} {es : List Expr} {ds : List PyData} {k i : Nat} {R : Value → Heap → Prop} (hi : i ∈ fnsUsed) (hf : f = nameAt i) (hA : AOk A k) (hx : env.kindOf f = some .globalImplicit)
    (x : EvL prog w mg mb A env ρ κ (e :: es) ds) (c : Con prog w mg mb k i ds R) (hd : (f == ("__debug__" : Str)) = false := by decide)
    (he : notStar e = true := by rfl) : EvR prog w mg mb A env ρ κ (.Call (.Name f p) (e :: es) [] pos) R := .mk fun s E F => by
  obtain ⟨a, o, pm, cd, doc, h1, h2, h3, h4⟩ := F.gl.fn i hi
  refine wpAny_Call_Name_kw (Name_function_global F.kind hx (loadGlobal_global (mg := mg) (by rw [F.glo]; exact F.gl.g) (hf ▸ h1) ?_) hd)
  refine callWith_def h3 (wpAny_mono (x.run s pos E F) (fun vs s₁ q => ⟨q.1.grow _ _ h2, ?_⟩) fun _ _ q => q) (star_of he es env)
  exact wpAny_mono (c.run A s₁ E vs a hA (F.gl.grow q.1.grow) q.2 h1) (fun v s₂ r => ⟨q.1.trans r.1, r.2⟩) fun _ _ q => q
end
end Ny

namespace Ny
open PySem PySem.W PySem.Calls PyProof.Rows

section
variable {prog : Program} {w : World} {mg mb : Str → Option Value} {env : Env} {ρ κ : List (Str × PyData)} {A : Around}

theorem backTo_star : ∀ {es : List Expr} (_ : es.all notStar = true) (pos : Pos) (env : Env), ((backTo pos (starEach es env)).any fun x => x.fst) = false
  | [], _, pos, env => rfl
  | e :: es, h, pos, env => by
    simp only [List.all_cons, Bool.and_eq_true] at h
    rw [star_of h.1]
    show (((false, eval e env)).1 || (backTo pos (starEach es env)).any fun x => x.fst) = false
    rw [backTo_star h.2]; rfl
theorem ev_neg {e : Expr} {pos} {x : Int} (hx : EvD prog w mg mb A env ρ κ e (.int x)) : EvD prog w mg mb A env ρ κ (.UnaryOp .USub e pos) (.int (-x)) := .mk fun s E F =>
  wpAny_UnaryOp (wpAny_mono (hx.run s E F) (fun v s₁ h₁ => by
    obtain ⟨t, rfl⟩ := h₁.2.int_inv
    exact neg_int ⟨h₁.1.trans (Kp.tok s₁ _), Is.int _ _ _⟩) fun _ _ q => q)

theorem ev_blt {f : Str} {id : String} {p pos : Pos} {e : Expr} {es : List Expr} {ds : List PyData} {R : Value → Heap → Prop} (hf : f ∈ bltsUsed) (hb : bootBuiltins f = some (.builtin id)) (hx : env.kindOf f = some .globalImplicit)
    (x : EvL prog w mg mb A env ρ κ (e :: es) ds)
    (h : ∀ vs (s : Shared) (E : Value → Shared → Prop), G prog w mg mb s.heap → IsAll s.heap vs ds → wpAny (model prog w) A (call (.builtin id) vs) (fun v s' => Kp s s' ∧ R v s'.heap) E s)
    (hd : (f == ("__debug__" : Str)) = false := by decide) (he : notStar e = true := by rfl) (hp : es.all notStar = true := by rfl) :
    EvR prog w mg mb A env ρ κ (.Call (.Name f p) (e :: es) [] pos) R := .mk fun s E F => by
  obtain ⟨h1, h2⟩ := F.gl.bl f hf
  refine wpAny_Call_Name_kw (Name_function_global F.kind hx (loadGlobal_builtin (mg := mg) (mb := mb) (by rw [F.glo]; exact F.gl.g) h1 (by rw [F.blt]; exact F.gl.b) (h2.trans hb) ?_) hd)
  refine PyProof.Rows.callWith_builtin1 (wpAny_mono (x.run s pos E F) (fun vs s₁ q => ?_) fun _ _ q => q) (star_of he es env) (backTo_star hp pos env)
  exact wpAny_mono (h vs s₁ E (F.gl.grow q.1.grow) q.2) (fun v s₂ r => ⟨q.1.trans r.1, r.2⟩) fun _ _ q => q
theorem ev_typ {f : Str} {T : String} {p pos : Pos} {e : Expr} {es : List Expr} {ds : List PyData} {R : Value → Heap → Prop} (hf : f ∈ bltsUsed) (hb : bootBuiltins f = some (.type T)) (hx : env.kindOf f = some .globalImplicit)
    (x : EvL prog w mg mb A env ρ κ (e :: es) ds)
    (h : ∀ vs (s : Shared) (E : Value → Shared → Prop), G prog w mg mb s.heap → IsAll s.heap vs ds → wpAny (model prog w) A (call (.type T) vs) (fun v s' => Kp s s' ∧ R v s'.heap) E s)
    (hd : (f == ("__debug__" : Str)) = false := by decide) (he : notStar e = true := by rfl) (hp : es.all notStar = true := by rfl) :
    EvR prog w mg mb A env ρ κ (.Call (.Name f p) (e :: es) [] pos) R := .mk fun s E F => by
  obtain ⟨h1, h2⟩ := F.gl.bl f hf
  refine wpAny_Call_Name_kw (Name_function_global F.kind hx (loadGlobal_builtin (mg := mg) (mb := mb) (by rw [F.glo]; exact F.gl.g) h1 (by rw [F.blt]; exact F.gl.b) (h2.trans hb) ?_) hd)
  refine PyProof.Rows.callWith_type1 (wpAny_mono (x.run s pos E F) (fun vs s₁ q => ?_) fun _ _ q => q) (star_of he es env) (backTo_star hp pos env)
  exact wpAny_mono (h vs s₁ E (F.gl.grow q.1.grow) q.2) (fun v s₂ r => ⟨q.1.trans r.1, r.2⟩) fun _ _ q => q

def chrS (i : Int) : Str := ⟨#[i.toNat]⟩
theorem ev_chr {p pos : Pos} {e : Expr} {i : Int} (hx : env.kindOf "chr" = some .globalImplicit) (x : EvD prog w mg mb A env ρ κ e (.int i)) (h0 : 0 ≤ i) (h1 : i ≤ 1114111)
    (he : notStar e = true := by rfl) : EvD prog w mg mb A env ρ κ (.Call (.Name "chr" p) [e] [] pos) (.str (chrS i)) :=
  ev_blt (ds := [.int i]) (by decide) rfl hx (evl_cons x evl_nil he) (fun vs s E _ hv => by
    obtain ⟨v, r, rfl, h2, hr⟩ := hv.cons_inv
    obtain rfl := hr.nil_inv
    obtain ⟨t, rfl⟩ := h2.int_inv
    exact chr_of_range h0 h1 ⟨Kp.tok s _, Is.str _ _ _⟩) (by decide) he
theorem ev_ord {p pos : Pos} {e : Expr} {x : Str} (hx : env.kindOf "ord" = some .globalImplicit) (y : EvD prog w mg mb A env ρ κ e (.str x)) (h1 : x.length = 1)
    (he : notStar e = true := by rfl) : EvD prog w mg mb A env ρ κ (.Call (.Name "ord" p) [e] [] pos) (.int (x.cps.getD 0 0)) :=
  ev_blt (ds := [.str x]) (by decide) rfl hx (evl_cons y evl_nil he) (fun vs s E _ hv => by
    obtain ⟨v, r, rfl, h2, hr⟩ := hv.cons_inv
    obtain rfl := hr.nil_inv
    obtain ⟨t, rfl⟩ := h2.str_inv
    exact ord_of_one h1 ⟨Kp.tok s _, Is.int _ _ _⟩) (by decide) he

theorem ev_sub {value slice : Expr} {pos} {R₁ R₂ R : Value → Heap → Prop} (x : EvR prog w mg mb A env ρ κ value R₁) (y : EvR prog w mg mb A env ρ κ slice R₂) (st : ∀ v h h', Grow h h' → R₁ v h → R₁ v h')
    (h : ∀ a b (s : Shared) (E : Value → Shared → Prop), G prog w mg mb s.heap → R₁ a s.heap → R₂ b s.heap → wpAny (model prog w) A (subscriptTail value slice a b) (fun v s' => Kp s s' ∧ R v s'.heap) E s) :
    EvR prog w mg mb A env ρ κ (.Subscript value slice pos) R := .mk fun s E F => by
  refine Subscript_ (wpAny_mono (x.run s E F) (fun a s₁ h₁ => ?_) fun _ _ q => q)
  refine wpAny_mono (y.run s₁ E (F.grow h₁.1.grow)) (fun b s₂ h₂ => ?_) fun _ _ q => q
  refine wpAny_mono (h a b s₂ E ((F.grow h₁.1.grow).grow h₂.1.grow).gl (st _ _ _ h₂.1.grow h₁.2) h₂.2) (fun v s₃ h₃ => ⟨(h₁.1.trans h₂.1).trans h₃.1, h₃.2⟩) fun _ _ q => q

theorem ev_itemL {value slice : Expr} {pos} {ds : List PyData} {d : PyData} {k : Int} (x : EvD prog w mg mb A env ρ κ value (.list ds)) (y : EvD prog w mg mb A env ρ κ slice (.int k)) (h0 : 0 ≤ k) (hk : k < 2 ^ 63) (hd : ds[k.toNat]? = some d)
    (hs : ∀ a u, subscripted slice false (.ref a) (.int k u) = operate [.ref a, .int k u] (getItem (.ref a) (.int k u)) := by intro _ _; with_unfolding_all rfl) : EvD prog w mg mb A env ρ κ (.Subscript value slice pos) d :=
  ev_sub x y (fun _ _ _ g i => i.grow g) fun a b s E _ ha hb => by
    obtain ⟨l, vs, rfl, hl, hi⟩ := ha.list_inv
    obtain ⟨u, rfl⟩ := hb.int_inv
    obtain ⟨v, hv, hvi⟩ := hi.get hd
    exact tail_any hl.typeIs slot_list_getitem.lookup (wpAny_getItem_list hl h0 hk (by simpa using hv) ⟨Kp.refl s, hvi⟩) (hs l u)
theorem ev_lastL {value slice : Expr} {pos} {ds : List PyData} {d : PyData} (x : EvD prog w mg mb A env ρ κ value (.list ds)) (y : EvD prog w mg mb A env ρ κ slice (.int (-1))) (hd : ds.getLast? = some d)
    (hs : ∀ a u, subscripted slice false (.ref a) (.int (-1) u) = operate [.ref a, .int (-1) u] (getItem (.ref a) (.int (-1) u)) := by intro _ _; with_unfolding_all rfl) : EvD prog w mg mb A env ρ κ (.Subscript value slice pos) d :=
  ev_sub x y (fun _ _ _ g i => i.grow g) fun a b s E _ ha hb => by
    obtain ⟨l, vs, rfl, hl, hi⟩ := ha.list_inv
    obtain ⟨u, rfl⟩ := hb.int_inv
    rw [List.getLast?_eq_getElem?] at hd
    obtain ⟨v, hv, hvi⟩ := hi.get hd
    have hlen := hi.length
    have hlt : ds.length - 1 < ds.length := by rw [List.getElem?_eq_some_iff] at hd; exact hd.1
    have hsz : vs.size = ds.length := by simpa using hlen
    refine tail_any hl.typeIs slot_list_getitem.lookup (wpAny_getItem_list_neg hl (by decide) (by omega) (by decide) ?_ ⟨Kp.refl s, hvi⟩) (hs l u)
    have e : (-1 + (vs.size : Int)).toNat = ds.length - 1 := by omega
    rw [e]; simpa using hv
theorem ev_itemT {value slice : Expr} {pos} {ds : List PyData} {d : PyData} {k : Int} (x : EvD prog w mg mb A env ρ κ value (.tuple ds)) (y : EvD prog w mg mb A env ρ κ slice (.int k)) (h0 : 0 ≤ k) (hk : k < 2 ^ 63) (hd : ds[k.toNat]? = some d)
    (hs : ∀ a u, subscripted slice false (.ref a) (.int k u) = operate [.ref a, .int k u] (getItem (.ref a) (.int k u)) := by intro _ _; with_unfolding_all rfl) : EvD prog w mg mb A env ρ κ (.Subscript value slice pos) d :=
  ev_sub x y (fun _ _ _ g i => i.grow g) fun a b s E _ ha hb => by
    obtain ⟨l, vs, rfl, hl, hi⟩ := ha.tuple_inv
    obtain ⟨u, rfl⟩ := hb.int_inv
    obtain ⟨v, hv, hvi⟩ := hi.get hd
    have hlt : k.toNat < ds.length := by rw [List.getElem?_eq_some_iff] at hd; exact hd.1
    have hsz : vs.size = ds.length := by simpa using hi.length
    refine tail_any hl.typeIs slot_tuple_getitem.lookup (getItem_tuple hl (by omega) hk (j := k.toNat) ?_ (by simpa using hv) ⟨Kp.refl s, hvi⟩) (hs l u)
    unfold seqIndex?
    have h1 : ¬ k < 0 := by omega
    simp [h1, hsz]; omega
end
end Ny

namespace Ny
open PySem PySem.W PySem.Calls PyProof.Rows
section
variable {prog : Program} {w : World} {mg mb : Str → Option Value}

def greatCode (n : Int) : Int := (if n / 26 % 3 = 0 then 65 else if n / 26 % 3 = 1 then 119808 else 120432) + n % 26
def letterD (n : Int) : PyData := .tuple [.str (chrS (greatCode n)), .str (chrS (97 + n % 26))]

theorem mod_range (n : Int) (m : Int) (hm : 0 < m) : 0 ≤ n % m ∧ n % m < m := ⟨Int.emod_nonneg n (by omega), Int.emod_lt_of_pos n hm⟩
theorem greatCode_le (n : Int) : 65 ≤ greatCode n ∧ greatCode n ≤ 120457 := by
  have h := mod_range n 26 (by decide)
  unfold greatCode
  repeat' split
  all_goals omega

theorem con_letter (n : Int) : ConD prog w mg mb 0 13 [.int n] (letterD n) := by
  refine con_of (ps := ["n"]) (by decide) (fun vs hv pm cd doc => ?_) rfl (by decide +kernel) (by decide) rfl rfl rfl (by decide +kernel) fun A base L a cd hA => ?_
  · match vs, hv with
    | [v], _ => rfl
  have h26 := mod_range n 26 (by decide)
  have h3 := mod_range (n / 26) 3 (by decide)
  have hg := greatCode_le n
  unfold greatCode at hg
  refine ex_ret (ev_tuple (evl_cons (ev_chr rfl (ev_addI (ev_itemL (ev_list (evl_cons ev_int (evl_cons ev_int (evl_cons ev_int evl_nil))) (Nat.le_of_ble_eq_true rfl)) (ev_mod (ev_div (ev_local rfl rfl (by decide)) ev_int (by decide) (PyProof.noPylong_small (by decide))) ev_int (by decide)) h3.1 ?_ ?_)
    (ev_mod (ev_local rfl rfl (by decide)) ev_int (by decide))) ?_ ?_) (evl_cons (ev_chr rfl (ev_addI ev_int (ev_mod (ev_local rfl rfl (by decide)) ev_int (by decide))) ?_ ?_) evl_nil)) (Nat.le_of_ble_eq_true rfl))
  · omega
  · rcases (show n / 26 % 3 = 0 ∨ n / 26 % 3 = 1 ∨ n / 26 % 3 = 2 by omega) with e | e | e <;> rw [e] <;> rfl
  · exact Int.le_trans (by decide) hg.1
  · exact Int.le_trans hg.2 (by decide)
  · omega
  · omega
end
end Ny

namespace Ny
open PySem PySem.W PySem.Calls PyProof.Rows

mutual
/-- a display of constants alone, as data -/
def lit : Expr → Option PyData
  | .Constant (.str x) _ _ => some (.str x)
  | .Constant (.int i) _ _ => some (.int i)
  | .List es _ => (lits es).map .list
  | .Tuple es _ _ => (lits es).map .tuple
  | _ => none
def lits : List Expr → Option (List PyData)
  | [] => some []
  | e :: es => match lit e, lits es with
    | some d, some ds => some (d :: ds)
    | _, _ => none
end
mutual
/-- no display is longer than a line -/
def litOk : PyData → Bool
  | .list xs | .tuple xs => decide (xs.length ≤ 64) && litsOk xs
  | _ => true
def litsOk : List PyData → Bool
  | [] => true
  | x :: xs => litOk x && litsOk xs
end
theorem lit_notStar {e : Expr} {d : PyData} (h : lit e = some d) : notStar e = true := by
  cases e <;> first | rfl | (simp [lit] at h)

section
variable {prog : Program} {w : World} {mg mb : Str → Option Value} {env : Env} {ρ κ : List (Str × PyData)} {A : Around}
theorem le_line {n : Nat} (h : n ≤ 64) : n ≤ sizeLine := Nat.le_trans h (by rw [sizeLine_eq]; decide)
mutual
theorem ev_lit : ∀ (e : Expr) (d : PyData), lit e = some d → litOk d = true → EvD prog w mg mb A env ρ κ e d
  | .Constant (.str x) _ _, d, h, _ => by simp only [lit, Option.some.injEq] at h; subst h; exact ev_str
  | .Constant (.int x) _ _, d, h, _ => by simp only [lit, Option.some.injEq] at h; subst h; exact ev_int
  | .List es p, d, h, k => by
    simp only [lit, Option.map_eq_some_iff] at h
    obtain ⟨ds, h1, rfl⟩ := h
    simp only [litOk, Bool.and_eq_true, decide_eq_true_eq] at k
    exact ev_list (evl_lits es ds h1 k.2) (le_line k.1)
  | .Tuple es _ p, d, h, k => by
    simp only [lit, Option.map_eq_some_iff] at h
    obtain ⟨ds, h1, rfl⟩ := h
    simp only [litOk, Bool.and_eq_true, decide_eq_true_eq] at k
    exact ev_tuple (evl_lits es ds h1 k.2) (le_line k.1)
  | .Constant .none _ _, _, h, _ | .Constant (.bool _) _ _, _, h, _ | .Constant (.float _) _ _, _, h, _ | .Constant (.complex _ _) _ _, _, h, _ | .Constant (.bytes _) _ _, _, h, _ | .Constant .ellipsis _ _, _, h, _ => by simp [lit] at h
  | .BoolOp .., _, h, _ | .NamedExpr .., _, h, _ | .BinOp .., _, h, _ | .UnaryOp .., _, h, _ | .Lambda .., _, h, _ | .IfExp .., _, h, _ | .Dict .., _, h, _ | .Set .., _, h, _ | .ListComp .., _, h, _ | .SetComp .., _, h, _ | .DictComp .., _, h, _
  | .GeneratorExp .., _, h, _ | .Await .., _, h, _ | .Yield .., _, h, _ | .YieldFrom .., _, h, _ | .Compare .., _, h, _ | .Call .., _, h, _ | .FormattedValue .., _, h, _ | .JoinedStr .., _, h, _ | .Attribute .., _, h, _ | .Subscript .., _, h, _
  | .Starred .., _, h, _ | .Name .., _, h, _ | .Slice .., _, h, _ => by simp [lit] at h
theorem evl_lits : ∀ (es : List Expr) (ds : List PyData), lits es = some ds → litsOk ds = true → EvL prog w mg mb A env ρ κ es ds
  | [], ds, h, _ => by simp only [lits, Option.some.injEq] at h; subst h; exact evl_nil
  | e :: es, ds, h, k => by
    simp only [lits] at h
    cases h1 : lit e with
    | none => simp [h1] at h
    | some d =>
      cases h2 : lits es with
      | none => simp [h1, h2] at h
      | some ds' =>
        simp only [h1, h2, Option.some.injEq] at h
        subst h
        simp only [litsOk, Bool.and_eq_true] at k
        exact evl_cons (ev_lit e d h1 k.1) (evl_lits es ds' h2 k.2) (lit_notStar h1)
end
end
end Ny

namespace Ny
open PySem PySem.W PySem.Calls PyProof.Rows

/-- a text by its signs -/
abbrev S (l : List Nat) : Str := ⟨l.toArray⟩
def waysL : List (List Str) := [[S [115, 115], S [223], S [83, 173, 83], S [383, 115]], [S [102, 105], S [64257], S [70, 73], S [102, 8288, 73]], [S [953], S [890], S [8126], S [65029, 837]], [S [115, 116], S [64261], S [64262], S [119826, 84]], [S [], S [173], S [6156], S [65024, 65039]]]
def namesL : List Str := [S [115, 115], S [102, 105], S [953], S [115, 116], S []]
def spelled (n : Int) : Str := (waysL.getD (n % 5).toNat []).getD (n / 5 % 4).toNat (S [])
def nameS (n : Int) : Str := namesL.getD (n % 5).toNat (S [])
def nameD (n : Int) : PyData := .tuple [.str (spelled n), .str (nameS n)]

theorem map_getD {α β : Type} (f : α → β) (l : List α) (i : Nat) (d : α) (h : i < l.length) : (l.map f)[i]? = some (f (l.getD i d)) := by
  rw [List.getElem?_map, List.getD_eq_getElem?_getD, List.getElem?_eq_getElem h]; rfl

section
variable {prog : Program} {w : World} {mg mb : Str → Option Value}

theorem con_name (n : Int) : ConD prog w mg mb 0 12 [.int n] (nameD n) := by
  refine con_of (ps := ["n"]) (by decide) (fun vs hv pm cd doc => ?_) rfl (by decide +kernel) (by decide) rfl rfl rfl (by decide +kernel) fun A base L a cd hA => ?_
  · match vs, hv with
    | [v], _ => rfl
  have h5 := mod_range n 5 (by decide)
  have h4 := mod_range (n / 5) 4 (by decide)
  have hrow : (waysL.getD (n % 5).toNat []).length = 4 := by
    rcases (show n % 5 = 0 ∨ n % 5 = 1 ∨ n % 5 = 2 ∨ n % 5 = 3 ∨ n % 5 = 4 by omega) with e | e | e | e | e <;> rw [e] <;> rfl
  refine ex_assign (d := .list (waysL.map fun r => .list (r.map .str))) ?l ?k ?_ ?s
  case k => rfl
  case s => rfl
  case l =>
    refine ev_lit _ _ ?_ ?_
    · kernel_rfl
    · decide +kernel
  refine ex_ret (ev_tuple (evl_cons (ev_itemL (ev_itemL (ev_local (by rfl) (by rfl) (by decide)) (ev_mod (ev_local (by rfl) (by rfl) (by decide)) ev_int (by decide)) h5.1 ?_ (map_getD (fun r : List Str => PyData.list (r.map .str)) waysL _ [] ?_))
      (ev_mod (ev_div (ev_local (by rfl) (by rfl) (by decide)) ev_int (by decide) (PyProof.noPylong_small (by decide))) ev_int (by decide)) h4.1 ?_ (map_getD PyData.str _ _ (S []) ?_))
    (evl_cons (ev_itemL (ev_lit _ (.list (namesL.map .str)) ?l1 ?l2) (ev_mod (ev_local (by rfl) (by rfl) (by decide)) ev_int (by decide)) h5.1 ?_ (map_getD PyData.str namesL _ (S []) ?_)) evl_nil)) (Nat.le_of_ble_eq_true rfl))
  case l1 => kernel_rfl
  case l2 => decide +kernel
  · omega
  · show (n % 5).toNat < 5; omega
  · omega
  · rw [hrow]; omega
  · omega
  · show (n % 5).toNat < 5; omega
end
end Ny

set_option linter.unusedVariables false
namespace Ny
open PySem PySem.W PySem.Calls PyProof.Rows

section
variable {prog : Program} {w : World} {mg mb : Str → Option Value} {env : Env} {ρ κ : List (Str × PyData)} {A : Around}

theorem addL {s : Shared} {E : Value → Shared → Prop} {a b : Value} {xs ys : List PyData} (ha : Is s.heap a (.list xs)) (hb : Is s.heap b (.list ys)) (hz : xs.length + ys.length ≤ sizeLine) :
    wpAny (model prog w) A (binaryOp .Add a b) (fun v s' => Kp s s' ∧ Is s'.heap v (.list (xs ++ ys))) E s := by
  obtain ⟨l, vs, rfl, hl, hi⟩ := ha.list_inv
  obtain ⟨m, us, rfl, hm, hj⟩ := hb.list_inv
  have h1 : vs.size = xs.length := by simpa using hi.length
  have h2 : us.size = ys.length := by simpa using hj.length
  obtain ⟨⟨cls, dd, data, sl⟩, ho, hc, n, hd⟩ := hl
  obtain ⟨⟨cls2, dd2, data2, sl2⟩, ho2, hc2, n2, hd2⟩ := hm
  simp only at hc hd hc2 hd2
  subst hc hd hc2 hd2
  refine concat_meets ⟨_, ho, rfl⟩ ⟨_, ho2, rfl⟩ noFill_list_add seq_list_add PySem.F.slot_list_add PySem.F.entry_list_add (PySem.F.args_list_add_2 _ _) (list_addW l m vs us n n2 dd dd2 sl sl2 (by omega)) ⟨ho, ho2, ?_⟩
  refine ⟨Kp.push s _ s.toks, Is.list (vs := vs ++ us) ⟨_, Heap.get?_push_size _ rfl, rfl, _, rfl⟩ ?_⟩
  rw [Array.toList_append]
  exact (hi.app hj).grow (Grow.push _ _)
theorem ev_addL {l r : Expr} {pos} {xs ys : List PyData} (hx : EvD prog w mg mb A env ρ κ l (.list xs)) (hy : EvD prog w mg mb A env ρ κ r (.list ys)) (hz : xs.length + ys.length ≤ sizeLine) :
    EvD prog w mg mb A env ρ κ (.BinOp l .Add r pos) (.list (xs ++ ys)) :=
  ev_bin hx hy (fun _ _ _ g i => i.grow g) fun a b s E _ ha hb => addL ha hb hz

/-- a range's object -/
def IsRg (h : Heap) (v : Value) (a b : Int) : Prop := ∃ r t u x, v = .ref r ∧ IsRange h r a b 1 t u x
theorem IsRg.grow {h h' : Heap} {v a b} (x : IsRg h v a b) (g : Grow h h') : IsRg h' v a b := let ⟨r, t, u, y, e, i⟩ := x; ⟨r, t, u, y, e, g _ _ i⟩
theorem ev_range2 {p pos : Pos} {e f : Expr} {a b : Int} (hx : env.kindOf "range" = some .globalImplicit) (x : EvD prog w mg mb A env ρ κ e (.int a)) (y : EvD prog w mg mb A env ρ κ f (.int b))
    (he : notStar e = true := by rfl) (hf : notStar f = true := by rfl) :
    EvR prog w mg mb A env ρ κ (.Call (.Name "range" p) [e, f] [] pos) (fun v h => IsRg h v a b) :=
  ev_typ (ds := [.int a, .int b]) (T := "range") (by decide) rfl hx (evl_cons x (evl_cons y evl_nil hf) he) (fun vs s E _ hv => by
    obtain ⟨v, r, rfl, h1, hr⟩ := hv.cons_inv
    obtain ⟨v', r', rfl, h2, hr'⟩ := hr.cons_inv
    obtain rfl := hr'.nil_inv
    obtain ⟨t, rfl⟩ := h1.int_inv
    obtain ⟨u, rfl⟩ := h2.int_inv
    exact call_range_2 ⟨Kp.push s _ _, _, _, _, _, rfl, IsRange.new ..⟩) (by decide) he (by simp [hf])
theorem ev_range1 {p pos : Pos} {e : Expr} {b : Int} (hx : env.kindOf "range" = some .globalImplicit) (x : EvD prog w mg mb A env ρ κ e (.int b))
    (he : notStar e = true := by rfl) :
    EvR prog w mg mb A env ρ κ (.Call (.Name "range" p) [e] [] pos) (fun v h => IsRg h v 0 b) :=
  ev_typ (ds := [.int b]) (T := "range") (by decide) rfl hx (evl_cons x evl_nil he) (fun vs s E _ hv => by
    obtain ⟨v, r, rfl, h1, hr⟩ := hv.cons_inv
    obtain rfl := hr.nil_inv
    obtain ⟨t, rfl⟩ := h1.int_inv
    exact call_range_1 ⟨Kp.push s _ _, _, _, _, _, rfl, IsRange.new ..⟩) (by decide) he

theorem ints_of_items {h : Heap} {acc : Array Value} {n : Nat} {a : Int} (x : ItemsOf (fun (i : Nat) (v : Value) => ∃ t, v = Value.int (a + (i : Int) * 1) t) acc n) : IsAll h acc.toList ((List.range n).map fun (i : Nat) => PyData.int (a + i)) := by
  obtain ⟨l⟩ := acc
  have key : ∀ (l : List Value) (k m : Nat), l.length = m → (∀ i v, l[i]? = some v → ∃ t, v = Value.int (a + ((k + i : Nat) : Int)) t) → IsAll h l ((List.range' k m).map fun (i : Nat) => PyData.int (a + i)) := by
    intro l
    induction l with
    | nil => intro k m hm _; simp at hm; subst hm; exact IsAll.nil _
    | cons v l ih =>
      intro k m hm hv
      obtain ⟨m, rfl⟩ : ∃ j, m = j + 1 := ⟨l.length, by simpa using hm.symm⟩
      rw [List.range'_succ, List.map_cons]
      obtain ⟨t, e⟩ := hv 0 v rfl
      refine IsAll.cons ?_ (ih (k + 1) m (by simpa using hm) fun i u hu => ?_)
      · rw [e]; exact Is.int _ _ _
      · obtain ⟨t, e⟩ := hv (i + 1) u (by simpa using hu)
        exact ⟨t, by rw [e]; congr 2; omega⟩
  rw [List.range_eq_range']
  refine key l 0 n ?_ ?_
  · have := x.1; simpa using this
  · intro i v hv
    have := x.2 i v (by simpa using hv)
    simpa using this

/-- list of a range -/
theorem ev_listRange {p pos : Pos} {e : Expr} {a : Int} {n : Nat} (hh : A.handled = none) (hx : env.kindOf "list" = some .globalImplicit) (x : EvR prog w mg mb A env ρ κ e (fun v h => IsRg h v a (a + n))) (hs : Builtin.Range.small a (a + n) 1 = true) (hn : n ≤ 2 ^ 24)
    (he : notStar e = true := by rfl) :
    EvD prog w mg mb A env ρ κ (.Call (.Name "list" p) [e] [] pos) (.list ((List.range n).map fun (i : Nat) => PyData.int (a + i))) := .mk fun s E F => by
  obtain ⟨h1, h2⟩ := F.gl.bl "list" (by decide)
  refine wpAny_Call_Name_kw (Name_function_global F.kind hx (loadGlobal_builtin (mg := mg) (mb := mb) (by rw [F.glo]; exact F.gl.g) h1 (by rw [F.blt]; exact F.gl.b) (h2.trans rfl) ?_) (by decide))
  refine PyProof.Rows.callWith_type1 (T := "list") (wpAny_items_cons (wpAny_mono (x.run s E F) (fun v s₁ q => wpAny_items_nil ?_) fun _ _ q => q) (star_of he [] env)) (star_of he [] env) rfl
  obtain ⟨k, r, t, u, y, rfl, hr⟩ := q
  refine call_list_range (n := n) hh hr hs ?_ hn fun h' tk acc' c' g ho hi => ?_
  · rw [rangeSize_nat]; congr 1; omega
  · refine ⟨k.trans (Kp.of g), Is.list (vs := acc') ⟨_, ho, rfl, _, rfl⟩ ?_⟩
    exact ints_of_items hi

/-- a call of a def without arguments -/
theorem ev_call0 {f : Str} {p pos : Pos} {k i : Nat} {R : Value → Heap → Prop} (hi : i ∈ fnsUsed) (hf : f = nameAt i) (hA : AOk A k) (hx : env.kindOf f = some .globalImplicit)
    (c : Con prog w mg mb k i [] R) (hd : (f == ("__debug__" : Str)) = false := by decide) : EvR prog w mg mb A env ρ κ (.Call (.Name f p) [] [] pos) R := .mk fun s E F => by
  obtain ⟨a, o, pm, cd, doc, h1, h2, h3, h4⟩ := F.gl.fn i hi
  refine wpAny_Call_Name_kw (Name_function_global F.kind hx (loadGlobal_global (mg := mg) (by rw [F.glo]; exact F.gl.g) (hf ▸ h1) ?_) hd)
  exact callWith_function (o := o) (PySem.evalArgs_none ⟨⟨h2, h3⟩, c.run A s E [] a hA F.gl (IsAll.nil _) h1⟩)

def nothingD : PyData := .list (b1list.map .int)
theorem nothingD_eq : nothingD = .list ([.int 173, .int 847, .int 6150, .int 6155, .int 6156, .int 6157, .int 8203, .int 8204, .int 8205, .int 8288, .int 65279] ++ (List.range 16).map fun (i : Nat) => PyData.int (65024 + i)) := by
  simp [nothingD, b1list]
theorem con_nothing : ConD prog w mg mb 0 9 [] nothingD := by
  rw [nothingD_eq]
  refine con_of (ps := []) (by decide) (fun vs hv pm cd doc => ?_) rfl (by decide +kernel) (by decide) rfl rfl rfl (by decide +kernel) fun A base L a cd hA => ?_
  · match vs, hv with
    | [], _ => rfl
  refine ex_ret ?_
  refine ev_addL ?_ ?_ ?z
  case z => exact Nat.le_of_ble_eq_true rfl
  · refine ev_lit _ _ ?_ ?_
    · kernel_rfl
    · decide +kernel
  · refine ev_listRange (a := 65024) (n := 16) hA.handled ?_ ?_ ?_ ?_
    · rfl
    · refine ev_range2 ?_ ev_int ev_int
      rfl
    · decide +kernel
    · decide
end
end Ny

namespace Ny
open PySem PySem.W PySem.Calls PyProof.Rows

section
variable {prog : Program} {w : World} {mg mb : Str → Option Value} {env : Env} {ρ κ : List (Str × PyData)} {A : Around}

theorem ev_b1 {pos : Pos} (hx : env.kindOf "b1_set" = some .globalImplicit) : EvR prog w mg mb A env ρ κ (.Name "b1_set" pos) (fun v h => ∃ a, v = .ref a ∧ B1At prog w h a) := .mk fun s E F => by
  obtain ⟨a, h1, h2⟩ := F.gl.b1
  exact Name_function_global F.kind hx (loadGlobal_global (mg := mg) (by rw [F.glo]; exact F.gl.g) h1 ⟨Kp.refl s, a, rfl, h2⟩) (by decide)
theorem ev_b3 {pos : Pos} (hx : env.kindOf "b3_exceptions" = some .globalImplicit) : EvR prog w mg mb A env ρ κ (.Name "b3_exceptions" pos) (fun v h => ∃ a, v = .ref a ∧ (a == sysModules) = false ∧ B3At prog w h a) := .mk fun s E F => by
  obtain ⟨a, h1, h2⟩ := F.gl.b3
  exact Name_function_global F.kind hx (loadGlobal_global (mg := mg) (by rw [F.glo]; exact F.gl.g) h1 ⟨Kp.refl s, a, rfl, h2⟩) (by decide)

/-- the sign's number -/
def ordS (x : Str) : Int := (x.cps.getD 0 0 : Nat)
def inB1 (x : Str) : Bool := decide (ordS x ∈ b1list)
theorem con_b1 (x : Str) (hx : x.length = 1) : ConD prog w mg mb 0 5 [.str x] (.bool (inB1 x)) := by
  refine con_of (ps := ["code"]) (by decide) (fun vs hv pm cd doc => ?_) rfl (by decide +kernel) (by decide) rfl rfl rfl (by decide +kernel) fun A base L a cd hA => ?_
  · match vs, hv with
    | [v], _ => rfl
  refine ex_ret (ev_cmp (ev_ord (x := x) rfl ?_ hx) (ev_b1 ?_) (fun _ _ _ g i => i.grow g) fun a b s E _ ha hb => ?_)
  · exact ev_local (by rfl) (by rfl) (by decide)
  · rfl
  · obtain ⟨t, rfl⟩ := ha.int_inv
    obtain ⟨c, rfl, n, hS⟩ := hb
    exact wpAny_inSet_of (knd := intKind prog w) (k := ordS x) (by simp [intKind, Value.isInt, ordS]) rfl hS ⟨Kp.tok s _, Is.bool _ _⟩

/-- what map_table_b3 makes of a sign -/
def b3S (x : Str) : Str := match b3tab (ordS x) with
  | some y => y
  | none => Txt.lower x
def b3D (x : Str) : PyData := match b3tab (ordS x) with
  | some y => .str y
  | none => .none

theorem Is.isNone {h : Heap} {v : Value} {x : Str} (i : Is h v (b3D x)) : (v == .none) = (b3tab (ordS x)).isNone := by
  unfold b3D at i
  split at i
  · rename_i y e; obtain ⟨t, rfl⟩ := i.str_inv; rw [e]; rfl
  · rename_i e; obtain rfl := i.none_inv; rw [e]; rfl

theorem lower_fits (x : Str) (hx : x.length = 1) : (Txt.lower x).length ≤ 3 := by
  obtain ⟨l⟩ := x
  obtain ⟨l⟩ := l
  match l, hx with
  | [c], _ =>
    have h1 := StrLaws.lowerAt_le3 #[c] 0
    have e : Txt.lower ⟨#[c]⟩ = ⟨(Unicode.lowerAt #[c] 0).toArray⟩ := by simp [Txt.lower, placed]
    show (Txt.lower ⟨#[c]⟩).length ≤ 3
    rw [e]
    simpa [Str.length] using h1

theorem ev_get {o e : Expr} {apos pos : Pos} {x : Str} (hb : EvR prog w mg mb A env ρ κ o (fun v h => ∃ a, v = .ref a ∧ (a == sysModules) = false ∧ B3At prog w h a)) (he : EvD prog w mg mb A env ρ κ e (.int (ordS x)))
    (h1 : attributeBase o "get" env (eval o env) = eval o env) (h2 : starEach [e] env = [(false, eval e env)]) (h3 : (apos.endLine == pos.line) = true) :
    EvD prog w mg mb A env ρ κ (.Call (.Attribute o "get" apos) [e] [] pos) (b3D x) := .mk fun s E F => by
  refine Call_method1 h1 h2 h3 (wpAny_mono (hb.run s E F) (fun v s₁ h₁ => ?_) fun _ _ q => q)
  obtain ⟨k, a, rfl, hs, f, hm, hf⟩ := h₁
  refine ⟨"dict", "dict.get", PySem.F.plainAttrs_dict, PySem.F.slot_dict_get, PySem.F.type_dict_get, hm.typeIs, hm.noDict, wpAny_dict_get1 (knd := intKind prog w) hs ?_⟩
  refine wpAny_mono (he.run s₁ E (F.grow k.grow)) (fun v s₂ h₂ => ?_) fun _ _ q => q
  obtain ⟨t, rfl⟩ := h₂.2.int_inv
  refine ⟨ordS x, f, by simp [intKind, Value.isInt], MapOf.grow hm h₂.1.grow, (k.trans h₂.1).trans (Kp.tok s₂ _), ?_⟩
  have := hf (ordS x)
  unfold b3D
  split at this <;> rename_i e
  · obtain ⟨t, ht⟩ := this; rw [ht]; (try rw [e]); exact Is.str _ _ _
  · rw [this]; (try rw [e]); exact Is.none _
theorem ev_lower {o : Expr} {apos pos : Pos} {x : Str} (ho : EvD prog w mg mb A env ρ κ o (.str x)) (hx : x.length = 1)
    (h1 : attributeBase o "lower" env (eval o env) = eval o env) (h3 : (apos.endLine == pos.line) = true) :
    EvD prog w mg mb A env ρ κ (.Call (.Attribute o "lower" apos) [] [] pos) (.str (Txt.lower x)) := .mk fun s E F => by
  refine Call_method0 h1 h3 (wpAny_mono (ho.run s E F) (fun v s₁ h₁ => ?_) fun _ _ q => q)
  obtain ⟨t, rfl⟩ := h₁.2.str_inv
  refine SB.lower ?_ ⟨h₁.1.trans (Kp.tok s₁ _), Is.str _ _ _⟩
  have := lower_fits x hx
  simp [Builtin.Str.tooLong, sizeLine]
  omega

theorem con_b3 (x : Str) (hx : x.length = 1) : ConD prog w mg mb 0 7 [.str x] (.str (b3S x)) := by
  refine con_of (ps := ["code"]) (by decide) (fun vs hv pm cd doc => ?_) rfl (by decide +kernel) (by decide) rfl rfl rfl (by decide +kernel) fun A base L b cd hA => ?_
  · match vs, hv with
    | [v], _ => rfl
  refine ex_assign (d := b3D x) ?l ?k ?_ ?s
  case k => rfl
  case s => rfl
  case l =>
    refine ev_get (ev_b3 ?_) (ev_ord (x := x) ?_ ?_ hx) ?_ ?_ ?_
    · rfl
    · rfl
    · exact ev_local (by rfl) (by rfl) (by decide)
    · rfl
    · rfl
    · rfl
  refine ex_if_ret (c := !(b3tab (ordS x)).isNone) ?t (fun hc => ?_) fun hc => ?_
  case t =>
    refine evt_cmp (ev_local (d := b3D x) (by rfl) (by rfl) (by decide)) ev_none (fun _ _ _ g i => i.grow g) fun a b s E _ ha hb => ?_
    obtain rfl := hb.none_inv
    refine isNot_none ⟨Kp.refl s, ?_⟩
    rw [ha.isNone]
  · have : b3D x = .str (b3S x) := by
      unfold b3D b3S
      cases e : b3tab (ordS x) with
      | none => simp [e] at hc
      | some y => rfl
    rw [← this]
    exact ev_local (by rfl) (by rfl) (by decide)
  · have : b3S x = Txt.lower x := by
      unfold b3S
      cases e : b3tab (ordS x) with
      | none => rfl
      | some y => simp [e] at hc
    rw [this]
    refine ex_ret ?_
    refine ev_lower ?_ hx ?_ ?_
    · exact ev_local (by rfl) (by rfl) (by decide)
    · rfl
    · rfl
end
end Ny

namespace Ny
open PySem PySem.W PySem.Calls PyProof.Rows

section
variable {prog : Program} {w : World} {mg mb : Str → Option Value} {env : Env} {ρ κ : List (Str × PyData)} {A : Around}

theorem evt_ltI {l r : Expr} {pos} {x y : Int} (hx : EvD prog w mg mb A env ρ κ l (.int x)) (hy : EvD prog w mg mb A env ρ κ r (.int y)) (hm : behindInMarks .Lt r = false := by with_unfolding_all rfl) :
    EvT prog w mg mb A env ρ κ (.Compare l [.Lt] [r] pos) (decide (x < y)) :=
  evt_cmp hx hy (fun _ _ _ g i => i.grow g) (fun a b s E _ ha hb => by
    obtain ⟨t, rfl⟩ := ha.int_inv; obtain ⟨u, rfl⟩ := hb.int_inv
    exact lt_int ⟨Kp.refl s, rfl⟩) hm
theorem evt_inS {l r : Expr} {pos} {x y : Str} (hx : EvD prog w mg mb A env ρ κ l (.str y)) (hy : EvD prog w mg mb A env ρ κ r (.str x)) (hm : behindInMarks .In r = false := by with_unfolding_all rfl) :
    EvT prog w mg mb A env ρ κ (.Compare l [.In] [r] pos) (Txt.contains x y) :=
  evt_cmp hx hy (fun _ _ _ g i => i.grow g) (fun a b s E _ ha hb => by
    obtain ⟨t, rfl⟩ := ha.str_inv; obtain ⟨u, rfl⟩ := hb.str_inv
    exact SB.contains ⟨Kp.refl s, rfl⟩) hm
theorem evt_inL {l r : Expr} {pos} {k : Nat} {d : PyData} {xs : List PyData} (hA : AOk A k) (hx : EvD prog w mg mb A env ρ κ l d) (hy : EvD prog w mg mb A env ρ κ r (.list xs)) (h1 : PyData.canLayAll0 xs = true) (h2 : d.canLay0 = true) (h3 : d.depth ≤ 64)
    (hm : behindInMarks .In r = false := by with_unfolding_all rfl) : EvT prog w mg mb A env ρ κ (.Compare l [.In] [r] pos) (xs.any fun y => PyData.eqv y d) :=
  evt_cmp hx hy (fun _ _ _ g i => i.grow g) (fun a b s E _ ha hb => by
    obtain ⟨_, as, ra⟩ := ha; obtain ⟨_, bs, rb⟩ := hb
    refine SeqAt.in_list_reads rb ra h1 h2 ?_ ⟨Kp.refl s, rfl⟩
    have := hA.units
    have h4 : min (PyData.depthAll xs) d.depth ≤ d.depth := Nat.min_le_right _ _
    omega) hm
theorem evt_notInL {l r : Expr} {pos} {k : Nat} {d : PyData} {xs : List PyData} (hA : AOk A k) (hx : EvD prog w mg mb A env ρ κ l d) (hy : EvD prog w mg mb A env ρ κ r (.list xs)) (h1 : PyData.canLayAll0 xs = true) (h2 : d.canLay0 = true) (h3 : d.depth ≤ 64)
    (hm : behindInMarks .NotIn r = false := by with_unfolding_all rfl) : EvT prog w mg mb A env ρ κ (.Compare l [.NotIn] [r] pos) (!(xs.any fun y => PyData.eqv y d)) :=
  evt_cmp hx hy (fun _ _ _ g i => i.grow g) (fun a b s E _ ha hb => by
    obtain ⟨_, as, ra⟩ := ha; obtain ⟨_, bs, rb⟩ := hb
    refine SeqAt.notIn_list_reads rb ra h1 h2 ?_ ⟨Kp.refl s, rfl⟩
    have := hA.units
    have h4 : min (PyData.depthAll xs) d.depth ≤ d.depth := Nat.min_le_right _ _
    omega) hm
end

abbrev T3 (t : Str × Str × Str) : PyData := .tuple [.str t.1, .str t.2.1, .str t.2.2]

/-- the sign of a place -/
def placeCode (n : Int) : Int := if n / 13 % 1112064 < 55296 then n / 13 % 1112064 else n / 13 % 1112064 + 2048
def someS (n : Int) : Str := if Txt.contains (S [34, 92]) (chrS (placeCode n)) then S [124] else chrS (placeCode n)
def foldedS (n : Int) : Str := if inB1 (someS n) then S [] else b3S (someS n)
def greatS (n : Int) : Str := chrS (greatCode n)
def smallS (n : Int) : Str := chrS (97 + n % 26)
def sigTab (n : Int) : List (Str × Str × Str) :=
  [(greatS (n / 13), greatS (n / 13), smallS (n / 13)), (S [92] ++ greatS (n / 13), greatS (n / 13), smallS (n / 13)), (S [44], S [44], S [44]), (S [92, 44], S [44], S [44]), (S [92, 34], S [34], S [34]), (S [92, 92], S [92], S [92]),
   (S [32], S [32], S [32]), (S [61], S [61], S [61]), (S [39], S [39], S [39]), (S [890], S [890], S [32, 953]), (S [92, 13255], S [13255], S [99, 111, 46]), (S [65279], S [65279], S []), (someS n, someS n, foldedS n)]
def sig (n : Int) : Str × Str × Str := (sigTab n).getD (n % 13).toNat (S [], S [], S [])

theorem placeCode_le (n : Int) : 0 ≤ placeCode n ∧ placeCode n ≤ 1114111 := by
  have := mod_range (n / 13) 1112064 (by decide)
  unfold placeCode
  split <;> omega
theorem chrS_length (i : Int) : (chrS i).length = 1 := rfl
theorem someS_length (n : Int) : (someS n).length = 1 := by unfold someS; split <;> rfl
theorem any_int (k : Int) : ∀ l : List Int, (l.map PyData.int).any (fun y => PyData.eqv y (.int k)) = decide (k ∈ l)
  | [] => by simp
  | x :: l => by
    rw [List.map_cons, List.any_cons, any_int k l]
    by_cases h : x = k
    · subst h; simp [PyData.eqv]
    · have h' : k ≠ x := fun e => h e.symm
      simp [PyData.eqv, h, h']
theorem canLay_ints : ∀ l : List Int, PyData.canLayAll0 (l.map PyData.int) = true
  | [] => rfl
  | x :: l => by simp [PyData.canLayAll0, PyData.canLay0, canLay_ints l]

section
variable {prog : Program} {w : World} {mg mb : Str → Option Value}
theorem ev_lit3 {A : Around} {env : Env} {ρ κ : List (Str × PyData)} {e : Expr} {t : Str × Str × Str} (h : lit e = some (T3 t)) (h' : litOk (T3 t) = true) : EvD prog w mg mb A env ρ κ e (T3 t) := ev_lit e _ h h'
set_option maxHeartbeats 1000000 in
theorem con_sign (n : Int) : ConD prog w mg mb 1 14 [.int n] (T3 (sig n)) := by
  refine con_of (ps := ["n"]) (by decide) (fun vs hv pm cd doc => ?_) rfl (by decide +kernel) (by decide) rfl rfl rfl (by decide +kernel) fun A base L b cd hA => ?_
  · match vs, hv with
    | [v], _ => rfl
  have hA' := hA.deeper (envOf (nameAt 14) (scopeAt 14) L b cd)
  have hp := placeCode_le n
  have h13 := mod_range n 13 (by decide)
  -- great, small
  refine ex_unpack (xs := [("great", _), ("small", _)]) (ds := [.str (greatS (n / 13)), .str (smallS (n / 13))]) hA.handled ?e rfl ?l ?_ ?a ?s ?w
  case e =>
    refine ev_call (i := 13) (by decide) (by decide +kernel) hA' ?_ (ds := [.int (n / 13)]) (evl_cons (ev_div ?_ ev_int (by decide) (PyProof.noPylong_small (by decide))) evl_nil) (con_letter (n / 13))
    · rfl
    · exact ev_local (by rfl) (by rfl) (by decide)
  case l => exact List.forall_mem_cons.mpr ⟨rfl, List.forall_mem_cons.mpr ⟨rfl, List.forall_mem_nil _⟩⟩
  case a => rfl
  case s => rfl
  case w => rfl
  -- place
  refine ex_assign (d := .int (n / 13 % 1112064)) ?l ?k ?_ ?s
  case k => rfl
  case s => rfl
  case l =>
    refine ev_mod (ev_div ?_ ev_int (by decide) (PyProof.noPylong_small (by decide))) ev_int (by decide)
    exact ev_local (by rfl) (by rfl) (by decide)
  -- some
  refine ex_assign (d := .str (chrS (placeCode n))) ?l ?k ?_ ?s
  case k => rfl
  case s => rfl
  case l =>
    refine ev_chr ?_ (ev_if (c := decide (n / 13 % 1112064 < 55296)) (evt_ltI ?_ ev_int) (fun hc => ?_) fun hc => ?_) hp.1 hp.2
    · rfl
    · exact ev_local (by rfl) (by rfl) (by decide)
    · have : placeCode n = n / 13 % 1112064 := by unfold placeCode; rw [if_pos (by simpa using hc)]
      rw [this]
      exact ev_local (by rfl) (by rfl) (by decide)
    · have : placeCode n = n / 13 % 1112064 + 2048 := by unfold placeCode; rw [if_neg (by simpa using hc)]
      rw [this]
      refine ev_addI ?_ ev_int
      exact ev_local (by rfl) (by rfl) (by decide)
  refine ex_if_assign (c := Txt.contains (S [34, 92]) (chrS (placeCode n))) (d := .str (S [124])) (d' := .str (chrS (placeCode n))) ?t ?k ?h (fun _ => ?e) ?_ ?s
  case k => rfl
  case h => rfl
  case s => rfl
  case e => exact ev_str
  case t =>
    refine evt_inS ?_ ev_str
    exact ev_local (by rfl) (by rfl) (by decide)
  have e1 : (if Txt.contains (S [34, 92]) (chrS (placeCode n)) = true then PyData.str (S [124]) else PyData.str (chrS (placeCode n))) = .str (someS n) := by
    unfold someS; split <;> rfl
  rw [e1]
  -- folded
  refine ex_assign (d := .str (foldedS n)) ?l ?k ?_ ?s
  case k => rfl
  case s => rfl
  case l =>
    refine ev_if (c := inB1 (someS n)) ?_ (fun hc => ?_) fun hc => ?_
    · have e2 : inB1 (someS n) = (b1list.map PyData.int).any (fun y => PyData.eqv y (.int (ordS (someS n)))) := by rw [any_int]; rfl
      rw [e2]
      refine evt_inL hA' (ev_ord (x := someS n) ?_ ?_ (someS_length n)) (ev_call0 (i := 9) (by decide) (by decide +kernel) hA' ?_ con_nothing) (canLay_ints _) rfl (Nat.le_of_ble_eq_true rfl)
      · rfl
      · exact ev_local (by rfl) (by rfl) (by decide)
      · rfl
    · have : foldedS n = S [] := by unfold foldedS; rw [if_pos hc]
      rw [this]
      exact ev_str
    · have : foldedS n = b3S (someS n) := by unfold foldedS; rw [if_neg (by rw [hc]; decide)]
      rw [this]
      refine ev_call (i := 7) (by decide) (by decide +kernel) hA' ?_ (ds := [.str (someS n)]) (evl_cons ?_ evl_nil) (con_b3 _ (someS_length n))
      · rfl
      · exact ev_local (by rfl) (by rfl) (by decide)
  -- the table
  refine ex_ret (ev_itemL (ds := (sigTab n).map T3) (k := n % 13) ?_ ?_ h13.1 ?_ (map_getD T3 _ _ _ ?_))
  · have hz : (S [92]).length + (greatS (n / 13)).length ≤ sizeLine := Nat.le_of_ble_eq_true rfl
    refine ev_list ?_ ?z
    case z => exact Nat.le_of_ble_eq_true rfl
    simp only [sigTab, List.map_cons, List.map_nil]
    refine evl_cons ?e ?_ ?h
    case h => rfl
    case e =>
      refine ev_tuple ?_ ?z
      case z => exact Nat.le_of_ble_eq_true rfl
      refine evl_cons ?e ?_ ?h
      case h => rfl
      case e => exact ev_local (by rfl) (by rfl) (by decide)
      refine evl_cons ?e ?_ ?h
      case h => rfl
      case e => exact ev_local (by rfl) (by rfl) (by decide)
      refine evl_cons ?e ?_ ?h
      case h => rfl
      case e => exact ev_local (by rfl) (by rfl) (by decide)
      exact evl_nil
    refine evl_cons ?e ?_ ?h
    case h => rfl
    case e =>
      refine ev_tuple ?_ ?z
      case z => exact Nat.le_of_ble_eq_true rfl
      refine evl_cons ?e ?_ ?h
      case h => rfl
      case e => exact ev_addS ev_str (ev_local (by rfl) (by rfl) (by decide)) hz
      refine evl_cons ?e ?_ ?h
      case h => rfl
      case e => exact ev_local (by rfl) (by rfl) (by decide)
      refine evl_cons ?e ?_ ?h
      case h => rfl
      case e => exact ev_local (by rfl) (by rfl) (by decide)
      exact evl_nil
    refine evl_cons ?e ?_ ?h
    case h => rfl
    case e =>
      refine ev_lit _ _ ?_ ?_
      · kernel_rfl
      · decide +kernel
    refine evl_cons ?e ?_ ?h
    case h => rfl
    case e =>
      refine ev_lit _ _ ?_ ?_
      · kernel_rfl
      · decide +kernel
    refine evl_cons ?e ?_ ?h
    case h => rfl
    case e =>
      refine ev_lit _ _ ?_ ?_
      · kernel_rfl
      · decide +kernel
    refine evl_cons ?e ?_ ?h
    case h => rfl
    case e =>
      refine ev_lit _ _ ?_ ?_
      · kernel_rfl
      · decide +kernel
    refine evl_cons ?e ?_ ?h
    case h => rfl
    case e =>
      refine ev_lit _ _ ?_ ?_
      · kernel_rfl
      · decide +kernel
    refine evl_cons ?e ?_ ?h
    case h => rfl
    case e =>
      refine ev_lit _ _ ?_ ?_
      · kernel_rfl
      · decide +kernel
    refine evl_cons ?e ?_ ?h
    case h => rfl
    case e =>
      refine ev_lit _ _ ?_ ?_
      · kernel_rfl
      · decide +kernel
    refine evl_cons ?e ?_ ?h
    case h => rfl
    case e =>
      refine ev_lit _ _ ?_ ?_
      · kernel_rfl
      · decide +kernel
    refine evl_cons ?e ?_ ?h
    case h => rfl
    case e =>
      refine ev_lit _ _ ?_ ?_
      · kernel_rfl
      · decide +kernel
    refine evl_cons ?e ?_ ?h
    case h => rfl
    case e =>
      refine ev_lit _ _ ?_ ?_
      · kernel_rfl
      · decide +kernel
    refine evl_cons ?e ?_ ?h
    case h => rfl
    case e =>
      refine ev_tuple ?_ ?z
      case z => exact Nat.le_of_ble_eq_true rfl
      refine evl_cons ?e ?_ ?h
      case h => rfl
      case e => exact ev_local (by rfl) (by rfl) (by decide)
      refine evl_cons ?e ?_ ?h
      case h => rfl
      case e => exact ev_local (by rfl) (by rfl) (by decide)
      refine evl_cons ?e ?_ ?h
      case h => rfl
      case e => exact ev_local (by rfl) (by rfl) (by decide)
      exact evl_nil
    exact evl_nil
  · refine ev_mod ?_ ev_int (by decide)
    exact ev_local (by rfl) (by rfl) (by decide)
  · omega
  · show (n % 13).toNat < 13; omega
end
end Ny

set_option linter.unusedSimpArgs false
namespace Ny
open PySem PySem.W PySem.Calls PyProof.Rows

theorem len_S (l : List Nat) : (S l).length = l.length := rfl
theorem le_line1 {n : Nat} (h : n ≤ 100000) : n ≤ sizeLine := Nat.le_trans h (by rw [sizeLine_eq]; decide)
theorem mem_lookup' {k : Int} {y : Str} : ∀ {l : List (Int × Str)}, l.lookup k = some y → (k, y) ∈ l
  | [], h => by simp at h
  | (a, b) :: l, h => by
    rw [List.lookup_cons] at h
    split at h
    · rename_i e; cases h; rw [beq_iff_eq.mp e]; exact .head _
    · exact .tail _ (mem_lookup' h)
theorem b3_short : (b3list.all fun p => decide (p.2.length ≤ 4)) = true := by decide +kernel
theorem b3S_le (x : Str) (hx : x.length = 1) : (b3S x).length ≤ 4 := by
  unfold b3S
  split
  · rename_i y e
    have := List.all_eq_true.mp b3_short _ (mem_lookup' e)
    simpa using this
  · have := lower_fits x hx
    omega
theorem getD_all {α : Type} {P : α → Prop} {l : List α} {d : α} (h : ∀ x ∈ l, P x) (hd : P d) (i : Nat) : P (l.getD i d) := by
  rw [List.getD_eq_getElem?_getD]
  cases e : l[i]? with
  | none => exact hd
  | some x => exact h x (List.mem_of_getElem? e)
theorem sig_le (n : Int) : (sig n).1.length ≤ 2 ∧ (sig n).2.1.length ≤ 1 ∧ (sig n).2.2.length ≤ 4 := by
  have h1 := someS_length n
  have h2 : (foldedS n).length ≤ 4 := by
    unfold foldedS
    split
    · exact Nat.zero_le _
    · exact b3S_le _ h1
  refine getD_all (P := fun t : Str × Str × Str => t.1.length ≤ 2 ∧ t.2.1.length ≤ 1 ∧ t.2.2.length ≤ 4) (fun t ht => ?_) (by decide) _
  simp only [sigTab, List.mem_cons, List.not_mem_nil, or_false] at ht
  rcases ht with rfl | rfl | rfl | rfl | rfl | rfl | rfl | rfl | rfl | rfl | rfl | rfl | rfl
  case inr.inr.inr.inr.inr.inr.inr.inr.inr.inr.inr.inr => exact ⟨by show (someS n).length ≤ 2; omega, by show (someS n).length ≤ 1; omega, h2⟩
  all_goals exact ⟨Nat.le_of_ble_eq_true rfl, Nat.le_of_ble_eq_true rfl, Nat.le_of_ble_eq_true rfl⟩

def sentS (n : Int) : Str := S [34] ++ (sig (n / 8)).1 ++ (sig (n / 104)).1 ++ S [34]
def toldS (n : Int) : Str := (sig (n / 8)).2.1 ++ (sig (n / 104)).2.1
def meantS (n : Int) : Str := (sig (n / 8)).2.2 ++ (sig (n / 104)).2.2
def valTab (n : Int) : List (Str × Str × Str) :=
  [(sentS n, toldS n, meantS n), (S [8288] ++ sentS n, S [8288, 34] ++ toldS n ++ S [34], meantS n), (sentS n ++ S [65038], S [34] ++ toldS n ++ S [34, 65038], meantS n), (greatS (n / 8) ++ S [6157], greatS (n / 8) ++ S [6157], smallS (n / 8)),
   (S [61] ++ greatS (n / 8), S [61] ++ greatS (n / 8), S [61] ++ smallS (n / 8)), (S [890] ++ greatS (n / 8), S [890] ++ greatS (n / 8), S [32, 953] ++ smallS (n / 8)),
   (greatS (n / 8) ++ sentS n, greatS (n / 8) ++ S [34] ++ toldS n ++ S [34], smallS (n / 8) ++ S [34] ++ meantS n ++ S [34]),
   (S [34] ++ (sig (n / 8)).1 ++ S [34] ++ sentS n, (sig (n / 8)).2.1 ++ S [34, 34] ++ toldS n, (sig (n / 8)).2.2 ++ S [34, 34] ++ meantS n)]
def val (n : Int) : Str × Str × Str := (valTab n).getD (n % 8).toNat (S [], S [], S [])

section
variable {prog : Program} {w : World} {mg mb : Str → Option Value}
theorem ev_t0 {A : Around} {env : Env} {ρ κ : List (Str × PyData)} {value : Expr} {k p pos} {t : Str × Str × Str} (x : EvD prog w mg mb A env ρ κ value (T3 t)) : EvD prog w mg mb A env ρ κ (.Subscript value (.Constant (.int 0) k p) pos) (.str t.1) :=
  ev_itemT x ev_int (by decide) (by decide) rfl
theorem ev_t1 {A : Around} {env : Env} {ρ κ : List (Str × PyData)} {value : Expr} {k p pos} {t : Str × Str × Str} (x : EvD prog w mg mb A env ρ κ value (T3 t)) : EvD prog w mg mb A env ρ κ (.Subscript value (.Constant (.int 1) k p) pos) (.str t.2.1) :=
  ev_itemT x ev_int (by decide) (by decide) rfl
theorem ev_t2 {A : Around} {env : Env} {ρ κ : List (Str × PyData)} {value : Expr} {k p pos} {t : Str × Str × Str} (x : EvD prog w mg mb A env ρ κ value (T3 t)) : EvD prog w mg mb A env ρ κ (.Subscript value (.Constant (.int 2) k p) pos) (.str t.2.2) :=
  ev_itemT x ev_int (by decide) (by decide) rfl
set_option maxHeartbeats 1000000 in
theorem con_value (n : Int) : ConD prog w mg mb 2 15 [.int n] (T3 (val n)) := by
  refine con_of (ps := ["n"]) (by decide) (fun vs hv pm cd doc => ?_) rfl (by decide +kernel) (by decide) rfl rfl rfl (by decide +kernel) fun A base L b cd hA => ?_
  · match vs, hv with
    | [v], _ => rfl
  have hA' := hA.deeper (envOf (nameAt 15) (scopeAt 15) L b cd)
  have h8 := mod_range n 8 (by decide)
  have hs1 := sig_le (n / 8)
  have hs2 := sig_le (n / 104)
  have hg : (greatS (n / 8)).length = 1 := rfl
  have hm : (smallS (n / 8)).length = 1 := rfl
  have hS : (sentS n).length ≤ 6 := by unfold sentS; simp only [Str.length_append, len_S, List.length_cons, List.length_nil]; omega
  have hT : (toldS n).length ≤ 2 := by unfold toldS; simp only [Str.length_append]; omega
  have hM : (meantS n).length ≤ 8 := by unfold meantS; simp only [Str.length_append]; omega
  refine ex_assign (d := T3 (sig (n / 8))) ?l ?k ?_ ?s
  case k => rfl
  case s => rfl
  case l =>
    refine ev_call (i := 14) (by decide) (by decide +kernel) hA' ?_ (ds := [.int (n / 8)]) (evl_cons (ev_div ?_ ev_int (by decide) (PyProof.noPylong_small (by decide))) evl_nil) (con_sign (n / 8))
    · rfl
    · exact ev_local (by rfl) (by rfl) (by decide)
  refine ex_assign (d := T3 (sig (n / 104))) ?l ?k ?_ ?s
  case k => rfl
  case s => rfl
  case l =>
    refine ev_call (i := 14) (by decide) (by decide +kernel) hA' ?_ (ds := [.int (n / 104)]) (evl_cons (ev_div ?_ ev_int (by decide) (PyProof.noPylong_small (by decide))) evl_nil) (con_sign (n / 104))
    · rfl
    · exact ev_local (by rfl) (by rfl) (by decide)
  refine ex_unpack (xs := [("great", _), ("small", _)]) (ds := [.str (greatS (n / 8)), .str (smallS (n / 8))]) hA.handled ?e rfl ?l ?_ ?a ?s ?w
  case e =>
    refine ev_call (i := 13) (by decide) (by decide +kernel) (hA'.le (by decide)) ?_ (ds := [.int (n / 8)]) (evl_cons (ev_div ?_ ev_int (by decide) (PyProof.noPylong_small (by decide))) evl_nil) (con_letter (n / 8))
    · rfl
    · exact ev_local (by rfl) (by rfl) (by decide)
  case l => exact List.forall_mem_cons.mpr ⟨rfl, List.forall_mem_cons.mpr ⟨rfl, List.forall_mem_nil _⟩⟩
  case a => rfl
  case s => rfl
  case w => rfl
  refine ex_assign (d := .str (sentS n)) ?l ?k ?_ ?s
  case k => rfl
  case s => rfl
  case l =>
    refine ev_addS ?_ ?_ ?z
    case z => (try simp only [Str.length_append, len_S, List.length_cons, List.length_nil]); exact le_line1 (by omega)
    · skip
      refine ev_addS ?_ ?_ ?z
      case z => (try simp only [Str.length_append, len_S, List.length_cons, List.length_nil]); exact le_line1 (by omega)
      · skip
        refine ev_addS ?_ ?_ ?z
        case z => (try simp only [Str.length_append, len_S, List.length_cons, List.length_nil]); exact le_line1 (by omega)
        · skip
          exact ev_str
        · skip
          refine ev_t0 ?_
          exact ev_local (by rfl) (by rfl) (by decide)
      · skip
        refine ev_t0 ?_
        exact ev_local (by rfl) (by rfl) (by decide)
    · skip
      exact ev_str
  refine ex_assign (d := .str (toldS n)) ?l ?k ?_ ?s
  case k => rfl
  case s => rfl
  case l =>
    refine ev_addS ?_ ?_ ?z
    case z => (try simp only [Str.length_append, len_S, List.length_cons, List.length_nil]); exact le_line1 (by omega)
    · skip
      refine ev_t1 ?_
      exact ev_local (by rfl) (by rfl) (by decide)
    · skip
      refine ev_t1 ?_
      exact ev_local (by rfl) (by rfl) (by decide)
  refine ex_assign (d := .str (meantS n)) ?l ?k ?_ ?s
  case k => rfl
  case s => rfl
  case l =>
    refine ev_addS ?_ ?_ ?z
    case z => (try simp only [Str.length_append, len_S, List.length_cons, List.length_nil]); exact le_line1 (by omega)
    · skip
      refine ev_t2 ?_
      exact ev_local (by rfl) (by rfl) (by decide)
    · skip
      refine ev_t2 ?_
      exact ev_local (by rfl) (by rfl) (by decide)
  refine ex_ret (ev_itemL (ds := (valTab n).map T3) (k := n % 8) ?_ ?_ h8.1 ?_ (map_getD T3 _ _ _ ?_))
  · refine ev_list ?_ ?z
    case z => exact Nat.le_of_ble_eq_true rfl
    simp only [valTab, List.map_cons, List.map_nil]
    refine evl_cons ?e ?_ ?h
    case h => rfl
    case e =>
      refine ev_tuple ?_ ?z
      case z => exact Nat.le_of_ble_eq_true rfl
      refine evl_cons ?e ?_ ?h
      case h => rfl
      case e =>
        exact ev_local (by rfl) (by rfl) (by decide)
      refine evl_cons ?e ?_ ?h
      case h => rfl
      case e =>
        exact ev_local (by rfl) (by rfl) (by decide)
      refine evl_cons ?e ?_ ?h
      case h => rfl
      case e =>
        exact ev_local (by rfl) (by rfl) (by decide)
      exact evl_nil
    refine evl_cons ?e ?_ ?h
    case h => rfl
    case e =>
      refine ev_tuple ?_ ?z
      case z => exact Nat.le_of_ble_eq_true rfl
      refine evl_cons ?e ?_ ?h
      case h => rfl
      case e =>
        refine ev_addS ?_ ?_ ?z
        case z => (try simp only [Str.length_append, len_S, List.length_cons, List.length_nil]); exact le_line1 (by omega)
        · skip
          exact ev_str
        · skip
          exact ev_local (by rfl) (by rfl) (by decide)
      refine evl_cons ?e ?_ ?h
      case h => rfl
      case e =>
        refine ev_addS ?_ ?_ ?z
        case z => (try simp only [Str.length_append, len_S, List.length_cons, List.length_nil]); exact le_line1 (by omega)
        · skip
          refine ev_addS ?_ ?_ ?z
          case z => (try simp only [Str.length_append, len_S, List.length_cons, List.length_nil]); exact le_line1 (by omega)
          · skip
            exact ev_str
          · skip
            exact ev_local (by rfl) (by rfl) (by decide)
        · skip
          exact ev_str
      refine evl_cons ?e ?_ ?h
      case h => rfl
      case e =>
        exact ev_local (by rfl) (by rfl) (by decide)
      exact evl_nil
    refine evl_cons ?e ?_ ?h
    case h => rfl
    case e =>
      refine ev_tuple ?_ ?z
      case z => exact Nat.le_of_ble_eq_true rfl
      refine evl_cons ?e ?_ ?h
      case h => rfl
      case e =>
        refine ev_addS ?_ ?_ ?z
        case z => (try simp only [Str.length_append, len_S, List.length_cons, List.length_nil]); exact le_line1 (by omega)
        · skip
          exact ev_local (by rfl) (by rfl) (by decide)
        · skip
          exact ev_str
      refine evl_cons ?e ?_ ?h
      case h => rfl
      case e =>
        refine ev_addS ?_ ?_ ?z
        case z => (try simp only [Str.length_append, len_S, List.length_cons, List.length_nil]); exact le_line1 (by omega)
        · skip
          refine ev_addS ?_ ?_ ?z
          case z => (try simp only [Str.length_append, len_S, List.length_cons, List.length_nil]); exact le_line1 (by omega)
          · skip
            exact ev_str
          · skip
            exact ev_local (by rfl) (by rfl) (by decide)
        · skip
          exact ev_str
      refine evl_cons ?e ?_ ?h
      case h => rfl
      case e =>
        exact ev_local (by rfl) (by rfl) (by decide)
      exact evl_nil
    refine evl_cons ?e ?_ ?h
    case h => rfl
    case e =>
      refine ev_tuple ?_ ?z
      case z => exact Nat.le_of_ble_eq_true rfl
      refine evl_cons ?e ?_ ?h
      case h => rfl
      case e =>
        refine ev_addS ?_ ?_ ?z
        case z => (try simp only [Str.length_append, len_S, List.length_cons, List.length_nil]); exact le_line1 (by omega)
        · skip
          exact ev_local (by rfl) (by rfl) (by decide)
        · skip
          exact ev_str
      refine evl_cons ?e ?_ ?h
      case h => rfl
      case e =>
        refine ev_addS ?_ ?_ ?z
        case z => (try simp only [Str.length_append, len_S, List.length_cons, List.length_nil]); exact le_line1 (by omega)
        · skip
          exact ev_local (by rfl) (by rfl) (by decide)
        · skip
          exact ev_str
      refine evl_cons ?e ?_ ?h
      case h => rfl
      case e =>
        exact ev_local (by rfl) (by rfl) (by decide)
      exact evl_nil
    refine evl_cons ?e ?_ ?h
    case h => rfl
    case e =>
      refine ev_tuple ?_ ?z
      case z => exact Nat.le_of_ble_eq_true rfl
      refine evl_cons ?e ?_ ?h
      case h => rfl
      case e =>
        refine ev_addS ?_ ?_ ?z
        case z => (try simp only [Str.length_append, len_S, List.length_cons, List.length_nil]); exact le_line1 (by omega)
        · skip
          exact ev_str
        · skip
          exact ev_local (by rfl) (by rfl) (by decide)
      refine evl_cons ?e ?_ ?h
      case h => rfl
      case e =>
        refine ev_addS ?_ ?_ ?z
        case z => (try simp only [Str.length_append, len_S, List.length_cons, List.length_nil]); exact le_line1 (by omega)
        · skip
          exact ev_str
        · skip
          exact ev_local (by rfl) (by rfl) (by decide)
      refine evl_cons ?e ?_ ?h
      case h => rfl
      case e =>
        refine ev_addS ?_ ?_ ?z
        case z => (try simp only [Str.length_append, len_S, List.length_cons, List.length_nil]); exact le_line1 (by omega)
        · skip
          exact ev_str
        · skip
          exact ev_local (by rfl) (by rfl) (by decide)
      exact evl_nil
    refine evl_cons ?e ?_ ?h
    case h => rfl
    case e =>
      refine ev_tuple ?_ ?z
      case z => exact Nat.le_of_ble_eq_true rfl
      refine evl_cons ?e ?_ ?h
      case h => rfl
      case e =>
        refine ev_addS ?_ ?_ ?z
        case z => (try simp only [Str.length_append, len_S, List.length_cons, List.length_nil]); exact le_line1 (by omega)
        · skip
          exact ev_str
        · skip
          exact ev_local (by rfl) (by rfl) (by decide)
      refine evl_cons ?e ?_ ?h
      case h => rfl
      case e =>
        refine ev_addS ?_ ?_ ?z
        case z => (try simp only [Str.length_append, len_S, List.length_cons, List.length_nil]); exact le_line1 (by omega)
        · skip
          exact ev_str
        · skip
          exact ev_local (by rfl) (by rfl) (by decide)
      refine evl_cons ?e ?_ ?h
      case h => rfl
      case e =>
        refine ev_addS ?_ ?_ ?z
        case z => (try simp only [Str.length_append, len_S, List.length_cons, List.length_nil]); exact le_line1 (by omega)
        · skip
          exact ev_str
        · skip
          exact ev_local (by rfl) (by rfl) (by decide)
      exact evl_nil
    refine evl_cons ?e ?_ ?h
    case h => rfl
    case e =>
      refine ev_tuple ?_ ?z
      case z => exact Nat.le_of_ble_eq_true rfl
      refine evl_cons ?e ?_ ?h
      case h => rfl
      case e =>
        refine ev_addS ?_ ?_ ?z
        case z => (try simp only [Str.length_append, len_S, List.length_cons, List.length_nil]); exact le_line1 (by omega)
        · skip
          exact ev_local (by rfl) (by rfl) (by decide)
        · skip
          exact ev_local (by rfl) (by rfl) (by decide)
      refine evl_cons ?e ?_ ?h
      case h => rfl
      case e =>
        refine ev_addS ?_ ?_ ?z
        case z => (try simp only [Str.length_append, len_S, List.length_cons, List.length_nil]); exact le_line1 (by omega)
        · skip
          refine ev_addS ?_ ?_ ?z
          case z => (try simp only [Str.length_append, len_S, List.length_cons, List.length_nil]); exact le_line1 (by omega)
          · skip
            refine ev_addS ?_ ?_ ?z
            case z => (try simp only [Str.length_append, len_S, List.length_cons, List.length_nil]); exact le_line1 (by omega)
            · skip
              exact ev_local (by rfl) (by rfl) (by decide)
            · skip
              exact ev_str
          · skip
            exact ev_local (by rfl) (by rfl) (by decide)
        · skip
          exact ev_str
      refine evl_cons ?e ?_ ?h
      case h => rfl
      case e =>
        refine ev_addS ?_ ?_ ?z
        case z => (try simp only [Str.length_append, len_S, List.length_cons, List.length_nil]); exact le_line1 (by omega)
        · skip
          refine ev_addS ?_ ?_ ?z
          case z => (try simp only [Str.length_append, len_S, List.length_cons, List.length_nil]); exact le_line1 (by omega)
          · skip
            refine ev_addS ?_ ?_ ?z
            case z => (try simp only [Str.length_append, len_S, List.length_cons, List.length_nil]); exact le_line1 (by omega)
            · skip
              exact ev_local (by rfl) (by rfl) (by decide)
            · skip
              exact ev_str
          · skip
            exact ev_local (by rfl) (by rfl) (by decide)
        · skip
          exact ev_str
      exact evl_nil
    refine evl_cons ?e ?_ ?h
    case h => rfl
    case e =>
      refine ev_tuple ?_ ?z
      case z => exact Nat.le_of_ble_eq_true rfl
      refine evl_cons ?e ?_ ?h
      case h => rfl
      case e =>
        refine ev_addS ?_ ?_ ?z
        case z => (try simp only [Str.length_append, len_S, List.length_cons, List.length_nil]); exact le_line1 (by omega)
        · skip
          refine ev_addS ?_ ?_ ?z
          case z => (try simp only [Str.length_append, len_S, List.length_cons, List.length_nil]); exact le_line1 (by omega)
          · skip
            refine ev_addS ?_ ?_ ?z
            case z => (try simp only [Str.length_append, len_S, List.length_cons, List.length_nil]); exact le_line1 (by omega)
            · skip
              exact ev_str
            · skip
              refine ev_t0 ?_
              exact ev_local (by rfl) (by rfl) (by decide)
          · skip
            exact ev_str
        · skip
          exact ev_local (by rfl) (by rfl) (by decide)
      refine evl_cons ?e ?_ ?h
      case h => rfl
      case e =>
        refine ev_addS ?_ ?_ ?z
        case z => (try simp only [Str.length_append, len_S, List.length_cons, List.length_nil]); exact le_line1 (by omega)
        · skip
          refine ev_addS ?_ ?_ ?z
          case z => (try simp only [Str.length_append, len_S, List.length_cons, List.length_nil]); exact le_line1 (by omega)
          · skip
            refine ev_t1 ?_
            exact ev_local (by rfl) (by rfl) (by decide)
          · skip
            exact ev_str
        · skip
          exact ev_local (by rfl) (by rfl) (by decide)
      refine evl_cons ?e ?_ ?h
      case h => rfl
      case e =>
        refine ev_addS ?_ ?_ ?z
        case z => (try simp only [Str.length_append, len_S, List.length_cons, List.length_nil]); exact le_line1 (by omega)
        · skip
          refine ev_addS ?_ ?_ ?z
          case z => (try simp only [Str.length_append, len_S, List.length_cons, List.length_nil]); exact le_line1 (by omega)
          · skip
            refine ev_t2 ?_
            exact ev_local (by rfl) (by rfl) (by decide)
          · skip
            exact ev_str
        · skip
          exact ev_local (by rfl) (by rfl) (by decide)
      exact evl_nil
    exact evl_nil
  · refine ev_mod ?_ ev_int (by decide)
    exact ev_local (by rfl) (by rfl) (by decide)
  · omega
  · show (n % 8).toNat < 8; omega
end
end Ny

namespace Ny
open PySem PySem.W PySem.Calls PyProof.Rows

theorem val_le (n : Int) : (val n).1.length ≤ 20 ∧ (val n).2.1.length ≤ 20 ∧ (val n).2.2.length ≤ 20 := by
  have hs1 := sig_le (n / 8)
  have hs2 := sig_le (n / 104)
  have hg : (greatS (n / 8)).length = 1 := rfl
  have hm : (smallS (n / 8)).length = 1 := rfl
  refine getD_all (P := fun t : Str × Str × Str => t.1.length ≤ 20 ∧ t.2.1.length ≤ 20 ∧ t.2.2.length ≤ 20) (fun t ht => ?_) (by decide) _
  simp only [valTab, List.mem_cons, List.not_mem_nil, or_false] at ht
  rcases ht with rfl | rfl | rfl | rfl | rfl | rfl | rfl | rfl <;>
    (refine ⟨?_, ?_, ?_⟩ <;> simp only [sentS, toldS, meantS, Str.length_append, len_S, List.length_cons, List.length_nil] <;> omega)
theorem waysL_le : ∀ r ∈ waysL, ∀ x ∈ r, x.length ≤ 3 := by decide +kernel
theorem spelled_le (n : Int) : (spelled n).length ≤ 3 := by
  refine getD_all (P := fun x : Str => x.length ≤ 3) ?_ (by decide) _
  exact getD_all (P := fun r : List Str => ∀ x ∈ r, x.length ≤ 3) waysL_le (by intro x hx; simp at hx) _
theorem namesL_le : ∀ x ∈ namesL, x.length ≤ 2 := by decide +kernel
theorem nameS_le (n : Int) : (nameS n).length ≤ 2 := getD_all (P := fun x : Str => x.length ≤ 2) namesL_le (by decide) _

def whiteL : List Str := [S [], S [32], S [9]]
def whiteS (n : Int) : Str := whiteL.getD (n % 3).toNat (S [])
theorem whiteS_le (n : Int) : (whiteS n).length ≤ 1 := getD_all (P := fun x : Str => x.length ≤ 1) (by decide +kernel) (by decide) _
def lateS (n : Int) : Str := if spelled n == S [890] then S [32] ++ nameS n else nameS n
def wholeS (n : Int) : Str := whiteS n ++ spelled n ++ S [61] ++ (val (n / 20)).1 ++ whiteS n
abbrev P2 (a b : Str) : PyData := .tuple [.str a, .str b]
def pairD (n : Int) : PyData := .tuple [.str (wholeS n), P2 (spelled n) (val (n / 20)).2.1, P2 (nameS n) (val (n / 20)).2.2, P2 (lateS n) (val (n / 20)).2.2]

section
variable {prog : Program} {w : World} {mg mb : Str → Option Value}
theorem ev_p2 {A : Around} {env : Env} {ρ κ : List (Str × PyData)} {e f : Expr} {k pos} {a b : Str} (x : EvD prog w mg mb A env ρ κ e (.str a)) (y : EvD prog w mg mb A env ρ κ f (.str b)) (he : notStar e = true) (hf : notStar f = true) :
    EvD prog w mg mb A env ρ κ (.Tuple [e, f] k pos) (P2 a b) := ev_tuple (evl_cons x (evl_cons y evl_nil hf) he) (Nat.le_of_ble_eq_true rfl)
set_option maxHeartbeats 1000000 in
theorem con_pair (n : Int) : ConD prog w mg mb 3 18 [.int n] (pairD n) := by
  refine con_of (ps := ["n"]) (by decide) (fun vs hv pm cd doc => ?_) rfl (by decide +kernel) (by decide) rfl rfl rfl (by decide +kernel) fun A base L b cd hA => ?_
  · match vs, hv with
    | [v], _ => rfl
  have hA' := hA.deeper (envOf (nameAt 18) (scopeAt 18) L b cd)
  have h3 := mod_range n 3 (by decide)
  have hv := val_le (n / 20)
  have hs := spelled_le n
  have hn := nameS_le n
  have hw := whiteS_le n
  refine ex_unpack (xs := [("spelled", _), ("name", _)]) (ds := [.str (spelled n), .str (nameS n)]) hA.handled ?e rfl ?l ?_ ?a ?s ?w
  case e =>
    refine ev_call (i := 12) (by decide) (by decide +kernel) (hA'.le (by decide)) ?_ (ds := [.int n]) (evl_cons ?_ evl_nil) (con_name n)
    · rfl
    · exact ev_local (by rfl) (by rfl) (by decide)
  case l => exact List.forall_mem_cons.mpr ⟨rfl, List.forall_mem_cons.mpr ⟨rfl, List.forall_mem_nil _⟩⟩
  case a => rfl
  case s => rfl
  case w => rfl
  refine ex_unpack (xs := [("sent", _), ("told", _), ("meant", _)]) (ds := [.str (val (n / 20)).1, .str (val (n / 20)).2.1, .str (val (n / 20)).2.2]) hA.handled ?e rfl ?l ?_ ?a ?s ?w
  case e =>
    refine ev_call (i := 15) (by decide) (by decide +kernel) hA' ?_ (ds := [.int (n / 20)]) (evl_cons (ev_div ?_ ev_int (by decide) (PyProof.noPylong_small (by decide))) evl_nil) (con_value (n / 20))
    · rfl
    · exact ev_local (by rfl) (by rfl) (by decide)
  case l => exact List.forall_mem_cons.mpr ⟨rfl, List.forall_mem_cons.mpr ⟨rfl, List.forall_mem_cons.mpr ⟨rfl, List.forall_mem_nil _⟩⟩⟩
  case a => rfl
  case s => rfl
  case w => rfl
  refine ex_assign (d := .str (whiteS n)) ?l ?k ?_ ?s
  case k => rfl
  case s => rfl
  case l =>
    refine ev_itemL (ds := whiteL.map .str) (k := n % 3) ?_ (ev_mod ?_ ev_int (by decide)) h3.1 ?_ (map_getD PyData.str whiteL _ (S []) ?_)
    · refine ev_lit _ _ ?_ ?_
      · kernel_rfl
      · decide +kernel
    · exact ev_local (by rfl) (by rfl) (by decide)
    · omega
    · show (n % 3).toNat < 3; omega
  refine ex_assign (d := .str (lateS n)) ?l ?k ?_ ?s
  case k => rfl
  case s => rfl
  case l =>
    refine ev_if (c := spelled n == S [890]) (evt_eqS (y := S [890]) ?_ ?_) (fun hc => ?_) fun hc => ?_
    · exact ev_local (by rfl) (by rfl) (by decide)
    · exact ev_str
    · have : lateS n = S [32] ++ nameS n := by unfold lateS; rw [if_pos hc]
      rw [this]
      refine ev_addS ?_ ?_ (le_line1 ?_)
      · exact ev_str
      · exact ev_local (by rfl) (by rfl) (by decide)
      · simp only [len_S, List.length_cons, List.length_nil]; omega
    · have : lateS n = nameS n := by unfold lateS; rw [if_neg (by rw [hc]; decide)]
      rw [this]
      exact ev_local (by rfl) (by rfl) (by decide)
  refine ex_ret ?_
  refine ev_tuple ?_ ?z
  case z => exact Nat.le_of_ble_eq_true rfl
  refine evl_cons ?e ?_ ?h
  case h => rfl
  case e =>
    refine ev_addS (ev_addS (ev_addS (ev_addS ?_ ?_ ?_) ev_str ?_) ?_ ?_) ?_ ?_
    · exact ev_local (by rfl) (by rfl) (by decide)
    · exact ev_local (by rfl) (by rfl) (by decide)
    · exact le_line1 (by omega)
    · simp only [Str.length_append, len_S, List.length_cons, List.length_nil]; exact le_line1 (by omega)
    · exact ev_local (by rfl) (by rfl) (by decide)
    · simp only [Str.length_append, len_S, List.length_cons, List.length_nil]; exact le_line1 (by omega)
    · exact ev_local (by rfl) (by rfl) (by decide)
    · simp only [Str.length_append, len_S, List.length_cons, List.length_nil]; exact le_line1 (by omega)
  iterate 3
    refine evl_cons ?e ?_ ?h
    case h => rfl
    case e =>
      refine ev_p2 ?_ ?_ ?_ ?_
      · exact ev_local (by rfl) (by rfl) (by decide)
      · exact ev_local (by rfl) (by rfl) (by decide)
      · rfl
      · rfl
  exact evl_nil
end
end Ny

namespace Ny
open PySem PySem.W PySem.Calls PyProof.Rows

/-- an outcome of a reading: an error's name, or pairs in order -/
inductive Outc where
  | err (x : Str)
  | ok (l : List (Str × Str))
def Outc.toD : Outc → PyData
  | .err x => .str x
  | .ok l => .list (l.map fun p => P2 p.1 p.2)
abbrev TailRow := Str × Outc × Outc × Outc
def TailRow.toD (r : TailRow) : PyData := .tuple [.str r.1, r.2.1.toD, r.2.2.1.toD, r.2.2.2.toD]
def tailTab : List TailRow :=
  [(S [], .ok [], .ok [], .ok []),
   (S [44], .ok [], .ok [], .ok []),
   (S [44, 173], .err (S [86, 97, 108, 117, 101, 69, 114, 114, 111, 114]), .ok [], .err (S [86, 97, 108, 117, 101, 69, 114, 114, 111, 114])),
   (S [44, 107, 61, 847], .ok [(S [107], S [847])], .err (S [73, 110, 100, 101, 120, 69, 114, 114, 111, 114]), .err (S [73, 110, 100, 101, 120, 69, 114, 114, 111, 114])),
   (S [44, 107], .err (S [86, 97, 108, 117, 101, 69, 114, 114, 111, 114]), .err (S [86, 97, 108, 117, 101, 69, 114, 114, 111, 114]), .err (S [86, 97, 108, 117, 101, 69, 114, 114, 111, 114])),
   (S [44, 107, 61], .err (S [73, 110, 100, 101, 120, 69, 114, 114, 111, 114]), .err (S [73, 110, 100, 101, 120, 69, 114, 114, 111, 114]), .err (S [73, 110, 100, 101, 120, 69, 114, 114, 111, 114])),
   (S [44, 107, 61, 847, 44, 107, 44, 107, 61, 75], .err (S [86, 97, 108, 117, 101, 69, 114, 114, 111, 114]), .err (S [73, 110, 100, 101, 120, 69, 114, 114, 111, 114]), .err (S [73, 110, 100, 101, 120, 69, 114, 114, 111, 114])),
   (S [44, 173, 44, 107, 61, 44, 107, 61, 75], .err (S [86, 97, 108, 117, 101, 69, 114, 114, 111, 114]), .err (S [86, 97, 108, 117, 101, 69, 114, 114, 111, 114]), .err (S [86, 97, 108, 117, 101, 69, 114, 114, 111, 114])),
   (S [44, 75, 61, 34], .ok [(S [75], S [])], .ok [(S [107], S [])], .ok [(S [107], S [])]),
   (S [44, 107, 61, 34, 65025], .ok [(S [107], S [34, 65025])], .ok [(S [107], S [])], .ok [(S [107], S [])]),
   (S [44, 847, 61, 6155, 75], .ok [(S [847], S [6155, 75])], .ok [(S [], S [107])], .ok [(S [], S [107])]),
   (S [44, 107, 32, 61, 32, 75], .ok [(S [107, 32], S [32, 75])], .ok [(S [107, 32], S [32, 107])], .ok [(S [107, 32], S [32, 107])]),
   (S [44, 107, 61, 39, 75, 39], .ok [(S [107], S [39, 75, 39])], .ok [(S [107], S [39, 107, 39])], .ok [(S [107], S [39, 107, 39])]),
   (S [44, 34, 107, 34, 61, 75], .ok [(S [34, 107, 34], S [75])], .ok [(S [34, 107, 34], S [107])], .ok [(S [34, 107, 34], S [107])]),
   (S [44, 34, 107, 61, 75, 34], .ok [(S [34, 107], S [75, 34])], .ok [(S [34, 107], S [107, 34])], .ok [(S [34, 107], S [107, 34])]),
   (S [44, 173, 32, 107, 61, 75, 32, 65038], .ok [(S [173, 32, 107], S [75, 32, 65038])], .ok [(S [107], S [107])], .ok [(S [32, 107], S [107, 32])]),
   (S [44, 107, 61, 34, 75, 34, 32, 65039], .ok [(S [107], S [34, 75, 34, 32, 65039])], .ok [(S [107], S [107])], .ok [(S [107], S [34, 107, 34, 32])])]
def tailRow (n : Int) : TailRow := tailTab.getD (n % 17).toNat (S [], .ok [], .ok [], .ok [])

section
variable {prog : Program} {w : World} {mg mb : Str → Option Value}
set_option maxHeartbeats 400000 in
theorem con_tail (n : Int) : ConD prog w mg mb 0 16 [.int n] (tailRow n).toD := by
  refine con_of (ps := ["n"]) (by decide) (fun vs hv pm cd doc => ?_) rfl (by decide +kernel) (by decide) rfl rfl rfl (by decide +kernel) fun A base L b cd hA => ?_
  · match vs, hv with
    | [v], _ => rfl
  have h17 := mod_range n 17 (by decide)
  have hlt : (n % 17).toNat < tailTab.length := by show (n % 17).toNat < 17; omega
  have key : (tailTab.map TailRow.toD)[(n % 17).toNat]? = some (tailRow n).toD := map_getD TailRow.toD tailTab (n % 17).toNat (S [], .ok [], .ok [], .ok []) hlt
  refine ex_ret ?_
  refine ev_itemL (ds := tailTab.map TailRow.toD) (k := n % 17) ?_ ?_ h17.1 (by omega) key
  · refine ev_lit _ _ ?_ ?_
    · kernel_rfl
    · decide +kernel
  · refine ev_mod ?_ ev_int (by decide)
    exact ev_local (by rfl) (by rfl) (by decide)
end
end Ny

namespace Ny
open PySem PySem.W PySem.Calls PyProof.Rows

/-! ## Data that the growing list of a comprehension cannot touch -/
mutual
def nl : PyData → Bool
  | .none | .bool _ | .int _ | .str _ => true
  | .tuple xs => nlAll xs
  | _ => false
def nlAll : List PyData → Bool
  | [] => true
  | x :: xs => nl x && nlAll xs
end
mutual
theorem reads_nl {h : Heap} : ∀ {v : Value} {d : PyData} {as : List Addr}, nl d = true → Reads h v d as → as = []
  | _, _, _, _, .none => rfl
  | _, _, _, _, .bool b => rfl
  | _, _, _, _, .int i t => rfl
  | _, _, _, _, .str x t => rfl
  | _, _, _, n, .list ho hc hd r => by simp [nl] at n
  | _, _, _, n, .tuple ho hc hd r => readsAll_nl (by simpa [nl] using n) r
  | _, _, _, n, .dict _ _ _ _ _ => by simp [nl] at n
theorem readsAll_nl {h : Heap} : ∀ {vs : List Value} {ds : List PyData} {as : List Addr}, nlAll ds = true → ReadsAll h vs ds as → as = []
  | _, _, _, _, .nil => rfl
  | _, _, _, n, .cons a b => by
    simp only [nlAll, Bool.and_eq_true] at n
    rw [reads_nl n.1 a, readsAll_nl n.2 b]; rfl
end
/-- every list and tuple but D is kept -/
abbrev SeqOff (D : Addr) (h h' : Heap) : Prop := ∀ b o xs n, b ≠ D → h.get? b = some o → o.data = .seq xs n → h'.get? b = some o
theorem SeqGrow.off {h h' : Heap} (g : SeqGrow h h') (D : Addr) : SeqOff D h h' := fun b o xs n _ e d => g b o xs n e d
mutual
theorem reads_off {h h' : Heap} {D : Addr} {ys : Array Value} (hD : h.PlainList D ys) (hk : SeqOff D h h') : ∀ {v : Value} {d : PyData} {as : List Addr}, nd d = true → D ∉ as → Reads h v d as → Reads h' v d as
  | _, _, _, _, _, .none => .none
  | _, _, _, _, _, .bool b => .bool b
  | _, _, _, _, _, .int i t => .int i t
  | _, _, _, _, _, .str x t => .str x t
  | _, _, _, n, m, .list ho hc hd r => .list (hk _ _ _ _ (fun e => m (e ▸ List.mem_cons_self)) ho hd) hc hd (readsAll_off hD hk (by simpa [nd] using n) (fun e => m (List.mem_cons_of_mem _ e)) r)
  | _, _, _, n, m, .tuple ho hc hd r => .tuple (hk _ _ _ _ (fun e => by
      obtain ⟨k, hD⟩ := hD
      rw [e, hD] at ho; cases ho; simp at hc) ho hd) hc hd (readsAll_off hD hk (by simpa [nd] using n) m r)
  | _, _, _, n, _, .dict _ _ _ _ _ => by simp [nd] at n
theorem readsAll_off {h h' : Heap} {D : Addr} {ys : Array Value} (hD : h.PlainList D ys) (hk : SeqOff D h h') : ∀ {vs : List Value} {ds : List PyData} {as : List Addr}, ndAll ds = true → D ∉ as → ReadsAll h vs ds as → ReadsAll h' vs ds as
  | _, _, _, _, _, .nil => .nil
  | _, _, _, n, m, .cons a b => .cons (reads_off hD hk (by simp only [ndAll, Bool.and_eq_true] at n; exact n.1) (fun e => m (List.mem_append_left _ e)) a) (readsAll_off hD hk (by simp only [ndAll, Bool.and_eq_true] at n; exact n.2) (fun e => m (List.mem_append_right _ e)) b)
end
def IsOff (D : Addr) (h : Heap) (v : Value) (d : PyData) : Prop := nd d = true ∧ ∃ as, Reads h v d as ∧ D ∉ as
def IsOffs (D : Addr) (h : Heap) (vs : List Value) (ds : List PyData) : Prop := ndAll ds = true ∧ ∃ as, ReadsAll h vs ds as ∧ D ∉ as
theorem IsOff.is {D h v d} (x : IsOff D h v d) : Is h v d := let ⟨n, as, r, _⟩ := x; ⟨n, as, r⟩
theorem IsOffs.is {D h v d} (x : IsOffs D h v d) : IsAll h v d := let ⟨n, as, r, _⟩ := x; ⟨n, as, r⟩
theorem IsOffs.off {D h h' vs ds ys} (x : IsOffs D h vs ds) (hD : h.PlainList D ys) (g : SeqOff D h h') : IsOffs D h' vs ds := let ⟨n, as, r, m⟩ := x; ⟨n, as, readsAll_off hD g n m r, m⟩
theorem IsOff.off {D h h' vs ds ys} (x : IsOff D h vs ds) (hD : h.PlainList D ys) (g : SeqOff D h h') : IsOff D h' vs ds := let ⟨n, as, r, m⟩ := x; ⟨n, as, reads_off hD g n m r, m⟩
theorem IsOffs.nil {D h} : IsOffs D h [] [] := ⟨rfl, [], .nil, by simp⟩
theorem IsOffs.snoc {D h} : ∀ {vs ds v d}, IsOffs D h vs ds → IsOff D h v d → IsOffs D h (vs ++ [v]) (ds ++ [d])
  | _, _, v, d, ⟨n, as, r, m⟩, ⟨n', bs, r', m'⟩ => by
    have key : ∀ {vs ds as}, ReadsAll h vs ds as → ndAll ds = true → D ∉ as → IsOffs D h (vs ++ [v]) (ds ++ [d]) := by
      intro vs
      induction vs with
      | nil => intro ds as r n m; cases r; exact ⟨by simp [ndAll, n'], bs ++ [], .cons r' .nil, by simpa using m'⟩
      | cons a vs ih =>
        intro ds as r n m
        cases r with
        | cons a b =>
          simp only [ndAll, Bool.and_eq_true] at n
          obtain ⟨n2, cs, r2, m2⟩ := ih b n.2 (fun e => m (List.mem_append_right _ e))
          refine ⟨by simp [ndAll, n.1, n2], _, .cons a r2, ?_⟩
          intro e
          rcases List.mem_append.mp e with e | e
          · exact m (List.mem_append_left _ e)
          · exact m2 e
    exact key r n m
theorem Is.isOff {D h v d} (x : Is h v d) (hn : nl d = true) : IsOff D h v d := let ⟨n, as, r⟩ := x; ⟨n, as, r, by rw [reads_nl hn r]; simp⟩

/-! ## The frame of a comprehension -/
inductive Own (names : List (Str × NameKind)) : Option Str → Prop
  | none (h1 : ∀ n acc, cellsFrom n names acc = acc) (h2 : ∀ h, pushCells h names = h) : Own names none
  | some (x : Str) (h1 : ∀ n acc, cellsFrom n names acc = (x, n) :: acc) (h2 : ∀ h, pushCells h names = h.push { cls := .type "cell", data := .cell .none }) : Own names (some x)

abbrev cEnv (scope : Scope) (cl : List (Str × Addr)) (C : Addr) (env : Env) : Env := compEnvC scope (cellsFrom (C + 1) scope.names cl) C env

theorem newEnvC {M : Model} {A : Around} {E : Value → Shared → Prop} {s : Shared} {scope : Scope} {cl : List (Str × Addr)} {env : Env} {Q : Env → Shared → Prop}
    (hQ : ∀ cenv : Env, ({ cenv with scope := relabel scope env } : Env) = cEnv scope cl s.heap.objs.size env → cenv.locals = s.heap.objs.size →
      Q cenv { s with heap := pushCells (s.heap.push { cls := .type "dict", data := .dict #[] }) scope.names }) :
    wpAny M A (newFunctionEnv scope env.globals cl [] env.qual none .none (some env)) Q E s := by
  simp only [newFunctionEnv, Option.isSome_some, if_true]
  refine wpAny_bind (wpAny_alloc ?_)
  refine wpAny_bind (wpAny_layCells _ (fun name kind cells => by cases hkc : kind == NameKind.cell <;> simp) _ _ _ _ ?_)
  rw [show ({ s with heap := s.heap.push { cls := .type "dict", data := .dict #[] } } : Shared).heap.objs.size = s.heap.objs.size + 1 from Heap.size_push ..]
  simp only [List.forIn_nil]
  exact wpAny_bind (wpAny_pure (wpAny_pure (hQ _ rfl rfl)))

/-- what the frame holds of its own -/
structure Priv (cenv : Env) (own : Option Str) (h : Heap) : Prop where
  ns : ∃ m, h.Ns cenv.locals m
  cell : ∀ x, own = some x → ∃ v, cenv.cells.lookup x = some (cenv.locals + 1) ∧ h.IsCell (cenv.locals + 1) v
theorem Priv.keep {cenv own h h'} (x : Priv cenv own h) (k : ∀ b o, cenv.locals ≤ b → b ≤ cenv.locals + 1 → h.get? b = some o → h'.get? b = some o) : Priv cenv own h' where
  ns := let ⟨m, n⟩ := x.ns; ⟨m, n.at' fun o e => k _ o (Nat.le_refl _) (Nat.le_succ _) e⟩
  cell := fun y e => let ⟨v, a, o, ho, hd⟩ := x.cell y e; ⟨v, a, o, k _ o (Nat.le_succ _) (Nat.le_refl _) ho, hd⟩

/-- a step that touches the frame alone -/
def Touch (C : Addr) (h h' : Heap) : Prop := (∀ b o, b < C → h.get? b = some o → h'.get? b = some o) ∧ SeqGrow h h'
theorem Touch.trans {C h h' h''} (x : Touch C h h') (y : Touch C h' h'') : Touch C h h'' := ⟨fun b o l e => y.1 b o l (x.1 b o l e), fun b o xs n e d => y.2 b o xs n (x.2 b o xs n e d) d⟩
theorem Grow.touch {C h h'} (g : Grow h h') : Touch C h h' := ⟨fun b o _ e => g b o e, g.seq⟩
theorem Touch.grow {C : Addr} {base h h' : Heap} (x : Touch C h h') (g : Grow base h) (hC : base.objs.size ≤ C) : Grow base h' := fun b o e => x.1 b o (Nat.lt_of_lt_of_le (Heap.lt_size e) hC) (g b o e)

section
variable {prog : Program} {w : World} {mg mb : Str → Option Value} {A : Around}

/-- binding a target to an item -/
structure Tgt (prog : Program) (w : World) (mg mb : Str → Option Value) (A : Around) (cenv : Env) (own : Option Str) (base : Heap) (target : Expr) (d : PyData) (κ ρ' κ' : List (Str × PyData)) : Prop where
  run : ∀ (s : Shared) (v : Value) (E : Value → Shared → Prop) (Q : Unit → Shared → Prop), base.objs.size ≤ cenv.locals → Grow base s.heap → Priv cenv own s.heap →
    (∀ h', Grow base h' → Priv cenv own h' → Fm prog w mg mb cenv [] κ h') → Is s.heap v d →
    (∀ h' tk, Touch cenv.locals s.heap h' → Priv cenv own h' → Fm prog w mg mb cenv ρ' κ' h' → Q () { s with heap := h', toks := tk }) →
    wpAny (model prog w) A (assign target cenv v) Q E s

variable {cenv : Env} {own : Option Str} {base : Heap} {κ : List (Str × PyData)}

theorem ns_cell_ne {h : Heap} {L c : Addr} {m : Str → Option Value} {v : Option Value} (hn : h.Ns L m) (hc : h.IsCell c v) : c ≠ L := by
  rintro rfl
  obtain ⟨o', es, ep, ho, hd', _⟩ := hn
  obtain ⟨o, e, hd⟩ := hc
  rw [e] at ho; cases ho; rw [hd] at hd'; cases hd'
theorem touch_ns {h h' : Heap} {L : Addr} {m : Str → Option Value} (hn : h.Ns L m) (hs : Heap.SameBut L h h') : Touch L h h' :=
  ⟨fun b o l e => hs.extBut b o (Nat.ne_of_lt l) e, seqGrow_of_sameBut hn hs⟩

/-- what a store into the frame's names makes of the frame -/
theorem fm_store {x : Str} {v : Value} {d : PyData} {ρ : List (Str × PyData)} {h h' : Heap} {m : Str → Option Value} (gb : Fm prog w mg mb cenv [] κ h') (F : Fm prog w mg mb cenv ρ κ h) (hn : h.Ns cenv.locals m)
    (hn' : h'.Ns cenv.locals (fun y => if y = x then some v else m y)) (sq : SeqGrow h h') (hi : Is h v d) : Fm prog w mg mb cenv ((x, d) :: ρ) κ h' := by
  obtain ⟨m₀, hn₀, hm⟩ := F.loc
  obtain rfl : m₀ = m := funext fun y => Heap.Ns.agree hn₀ hn y
  refine ⟨gb.gl, gb.kind, gb.glo, gb.blt, ⟨_, hn', fun y dy e => ?_⟩, gb.cel⟩
  by_cases hy : y = x
  · subst hy
    rw [List.lookup_cons, beq_self_eq_true] at e
    cases e
    exact ⟨v, if_pos rfl, hi.seq sq⟩
  · rw [List.lookup_cons, beq_eq_false_iff_ne.mpr hy] at e
    obtain ⟨v', a, b⟩ := hm y dy e
    exact ⟨v', (if_neg hy).trans a, b.seq sq⟩
theorem priv_ns {h h' : Heap} {m m' : Str → Option Value} (p : Priv cenv own h) (hn : h.Ns cenv.locals m) (hn' : h'.Ns cenv.locals m') (hs : Heap.SameBut cenv.locals h h') : Priv cenv own h' where
  ns := ⟨_, hn'⟩
  cell := fun y e => let ⟨v, a, hc⟩ := p.cell y e; ⟨v, a, hc.sameBut hs (ns_cell_ne hn hc)⟩

/-- target: a local name -/
theorem tgt_name {x : Str} {pos : Pos} {d : PyData} (hx : cenv.kindOf x = some .local) (hk : cenv.scope.kind = .function) : Tgt prog w mg mb A cenv own base (.Name x pos) d κ [(x, d)] κ := .mk fun s v E Q hL g p fm hi h => by
  have F := fm _ g p
  obtain ⟨m, hn, hm⟩ := F.loc
  refine wpAny_assign_Name (wpAny_storeName_local hx hn (fun h' hn' hs => ?_) (by rw [hk]; rfl))
  have t := touch_ns hn hs
  have p' := priv_ns p hn hn' hs
  exact h h' _ t p' (fm_store (fm h' (t.grow g hL) p') F hn hn' t.2 hi)

/-- target: the frame's own cell -/
theorem tgt_cell {x : Str} {pos : Pos} {d : PyData} (hx : cenv.kindOf x = some .cell) (hk : cenv.scope.kind = .function) (hnew : κ.lookup x = none) : Tgt prog w mg mb A cenv (some x) base (.Name x pos) d κ [] ((x, d) :: κ) := .mk fun s v E Q hL g p fm hi h => by
  have F := fm _ g p
  obtain ⟨m, hn⟩ := p.ns
  obtain ⟨v₀, hc, hv⟩ := p.cell x rfl
  refine wpAny_assign_Name (wpAny_storeName_cell hk hx hc hv fun h' hv' hs => ?_)
  have hne : cenv.locals ≠ cenv.locals + 1 := Nat.ne_of_lt (Nat.lt_succ_self _)
  have t : Touch cenv.locals s.heap h' := ⟨fun b o l e => hs.extBut b o (Nat.ne_of_lt (Nat.lt_succ_of_lt l)) e, fun b o xs n e d => hs.extBut b o (by
    rintro rfl
    obtain ⟨o', ho', hd'⟩ := hv
    rw [e] at ho'; cases ho'; rw [d] at hd'; cases hd') e⟩
  have p' : Priv cenv (some x) h' := ⟨⟨m, hn.sameBut hs hne⟩, fun y e => by cases e; exact ⟨_, hc, hv'⟩⟩
  have F' := fm h' (t.grow g hL) p'
  refine h h' s.toks t p' ⟨F'.gl, F'.kind, F'.glo, F'.blt, F'.loc, fun y dy e => ?_⟩
  by_cases hy : y = x
  · subst hy
    rw [List.lookup_cons, beq_self_eq_true] at e
    cases e
    exact ⟨_, v, hc, hv', hi.seq t.2⟩
  · rw [List.lookup_cons, beq_eq_false_iff_ne.mpr hy] at e
    exact F'.cel y dy e

/-- target: a tuple of local names -/
theorem tgt_stores : ∀ (xs : List (Str × Pos)) (vs : List Value) (ds : List PyData) (ρ : List (Str × PyData)) (s : Shared) {E : Value → Shared → Prop} {Q : Unit → Shared → Prop}, cenv.scope.kind = .function → base.objs.size ≤ cenv.locals → Grow base s.heap → Priv cenv own s.heap →
    (∀ h', Grow base h' → Priv cenv own h' → Fm prog w mg mb cenv [] κ h') → Fm prog w mg mb cenv ρ κ s.heap → xs.length = ds.length → (∀ x ∈ xs, cenv.kindOf x.1 = some .local) → IsAll s.heap vs ds →
    (∀ h' tk, Touch cenv.locals s.heap h' → Priv cenv own h' → Fm prog w mg mb cenv (((xs.map (·.1)).zip ds).reverse ++ ρ) κ h' → Q () { s with heap := h', toks := tk }) →
    wpAny (model prog w) A (assignInOrder (xs.map fun x v => assign (.Name x.1 x.2) cenv v) vs) Q E s
  | [], vs, ds, ρ, s, E, Q, hk, hL, g, p, fm, F, hlen, hx, hi, h => by
    obtain rfl : ds = [] := List.eq_nil_of_length_eq_zero hlen.symm
    obtain rfl := hi.nil_inv
    exact assignInOrder_nil (h s.heap s.toks ⟨fun _ _ _ e => e, fun _ _ _ _ e _ => e⟩ p F)
  | x :: xs, vs, [], ρ, s, E, Q, hk, hL, g, p, fm, F, hlen, hx, hi, h => by simp at hlen
  | x :: xs, vs, d :: ds, ρ, s, E, Q, hk, hL, g, p, fm, F, hlen, hx, hi, h => by
    obtain ⟨v, r, rfl, hv, hr⟩ := hi.cons_inv
    refine assignInOrder_cons (wpAny_assign_Name ?_)
    obtain ⟨m, hn, hm⟩ := F.loc
    refine wpAny_storeName_local (hx x (.head _)) hn (fun h' hn' hs => ?_) (by rw [hk]; rfl)
    have t := touch_ns hn hs
    have p' := priv_ns p hn hn' hs
    have g' := t.grow g hL
    refine tgt_stores xs r ds ((x.1, d) :: ρ) _ hk hL g' p' fm (fm_store (fm h' g' p') F hn hn' t.2 hv) (by simpa using hlen) (fun y hy => hx y (.tail _ hy)) (hr.seq t.2) fun h'' tk t' p'' F'' => ?_
    refine h h'' tk (t.trans t') p'' ?_
    simpa [List.append_assoc] using F''
theorem tgt_tuple {xs : List (Str × Pos)} {k : Nat} {pos : Pos} {ds : List PyData} (hh : A.handled = none) (hlen : xs.length = ds.length) (hx : ∀ x ∈ xs, cenv.kindOf x.1 = some .local) (hk : cenv.scope.kind = .function)
    (ha : assignEach (xs.map fun x => .Name x.1 x.2) cenv = xs.map (fun x => (false, fun v => assign (.Name x.1 x.2) cenv v))) :
    Tgt prog w mg mb A cenv own base (.Tuple (xs.map fun x => .Name x.1 x.2) k pos) (.tuple ds) κ (((xs.map (·.1)).zip ds).reverse ++ []) κ := .mk fun s v E Q hL g p fm hi h => by
  obtain ⟨a, vs, rfl, ht, hv⟩ := hi.tuple_inv
  have hsz : vs.size = ds.length := by simpa using hv.length
  refine assign_Tuple_tuple hh ht (by rw [ha, List.length_map, hlen, hsz]) (by rw [ha]; simp [List.findIdx?_eq_none_iff]) fun h' he => ?_
  have gr : Grow s.heap h' := fun b o e => he b o (Nat.ne_of_lt (Heap.lt_size e)) e
  have e2 : (assignEach (xs.map fun x => .Name x.1 x.2) cenv).map (·.2) = xs.map fun x v => assign (.Name x.1 x.2) cenv v := by rw [ha, List.map_map]; rfl
  rw [e2]
  have p' : Priv cenv own h' := p.keep fun b o _ _ e => gr b o e
  refine tgt_stores xs _ ds [] _ hk hL (g.trans gr) p' fm (fm h' (g.trans gr) p') hlen hx (hv.grow gr) fun h'' tk t p'' F'' => ?_
  exact h h'' tk ((Grow.touch gr).trans t) p'' F''

/-! ## What a source gives -/
/-- the iterators that keep a tuple of their own -/
def owners : List String := ["enumerate", "zip", "dict_itemiterator", "dict_reverseitemiterator", "odict_iterator", "itertools.zip_longest", "itertools.pairwise"]
structure Src (prog : Program) (w : World) (A : Around) (v : Value) (h : Heap) (ds : List PyData) : Prop where
  run : ∀ (s : Shared) (E : Value → Shared → Prop) (Q : Value → Shared → Prop), s.heap = h →
    (∀ (o : Obj) (fp : List Addr) (P : Nat → Value → Prop) (St : Nat → Heap → Prop), Walks prog w A h.objs.size fp [h.objs.size] ds.length P St → (∀ b ∈ fp, b ≤ h.objs.size) → St 0 (h.push o) →
      (∀ i h', St i h' → ∃ o n vs, h'.get? h.objs.size = some o ∧ o.cls = .type n ∧ o.data = .fields vs ∧ owners.contains n = false) → (∀ i v, i < ds.length → P i v → ∃ d, ds[i]? = some d ∧ Is h v d) →
      Q (.ref h.objs.size) { s with heap := h.push o }) → wpAny (model prog w) A (pyIter v) Q E s
theorem src_list {v : Value} {h : Heap} {ds : List PyData} (hh : A.handled = none) (x : Is h v (.list ds)) : Src prog w A v h ds := .mk fun s E Q hs hQ => by
  obtain ⟨a, vs, rfl, hl, hi⟩ := x.list_inv
  subst hs
  have hsz : vs.size = ds.length := by simpa using hi.length
  have hlt : a < s.heap.objs.size := by obtain ⟨o, ho, _⟩ := hl; exact Heap.lt_size ho
  refine wpAny_pyIter_list hl (hQ _ [s.heap.objs.size, a] _ _ (hsz ▸ Walks.list hh s.heap.objs.size a (Nat.ne_of_lt hlt) vs) ?a ⟨⟨_, Heap.get?_push_size _ rfl, rfl, rfl⟩, ?b⟩ ?c ?d)
  case a =>
    intro b hb
    simp only [List.mem_cons, List.not_mem_nil, or_false] at hb
    rcases hb with rfl | rfl
    · exact Nat.le_refl _
    · exact Nat.le_of_lt hlt
  case b => exact hl.at fun o e => Heap.get?_push_of_some _ e
  case c =>
    rintro i h' ⟨⟨o, ho, hc, hd⟩, _⟩
    exact ⟨o, _, _, ho, hc, hd, by decide⟩
  case d =>
    intro i v hlen hv
    obtain ⟨v', e, hi'⟩ := hi.get (i := i) (d := ds[i]) (by simp [hlen])
    refine ⟨ds[i], by simp [hlen], ?_⟩
    have : vs.toList[i]? = vs[i]? := by simp
    rw [this, hv] at e; cases e; exact hi'
theorem src_str {v : Value} {h : Heap} {x : Str} (hh : A.handled = none) (i : Is h v (.str x)) : Src prog w A v h (x.cps.toList.map fun c => .str ⟨#[c]⟩) := .mk fun s E Q hs hQ => by
  obtain ⟨t, rfl⟩ := i.str_inv
  subst hs
  have hsz : x.cps.size = (x.cps.toList.map fun c => PyData.str ⟨#[c]⟩).length := by simp
  have key : ∀ (i : Nat) (v : Value), i < (x.cps.toList.map fun c => PyData.str ⟨#[c]⟩).length → SignAt x i v → ∃ d, (x.cps.toList.map fun c => PyData.str ⟨#[c]⟩)[i]? = some d ∧ Is s.heap v d := by
    rintro i v _ ⟨c, u, hc, rfl⟩
    exact ⟨.str ⟨#[c]⟩, by simp [hc], Is.str _ _ _⟩
  cases ha : x.cps.all (· < 128)
  · refine wpAny_pyIter_wide ha (hQ _ [s.heap.objs.size] _ _ (hsz ▸ Walks.strWide hh _ x t) (by simp) ⟨_, Heap.get?_push_size _ rfl, rfl, rfl⟩ ?_ key)
    rintro i h' ⟨o, ho, hc, hd⟩
    exact ⟨o, _, _, ho, hc, hd, by decide⟩
  · refine wpAny_pyIter_ascii ha (hQ _ [s.heap.objs.size] _ _ (hsz ▸ Walks.strAscii hh _ x t) (by simp) ⟨_, Heap.get?_push_size _ rfl, rfl, rfl⟩ ?_ key)
    rintro i h' ⟨o, ho, hc, hd⟩
    exact ⟨o, _, _, ho, hc, hd, by decide⟩
theorem src_range {v : Value} {h : Heap} {n : Nat} (hh : A.handled = none) (x : IsRg h v 0 n) (hs : Builtin.Range.small 0 n 1 = true) : Src prog w A v h ((List.range n).map fun (i : Nat) => .int i) := .mk fun s E Q hs' hQ => by
  obtain ⟨r, t, u, y, rfl, hr⟩ := x
  subst hs'
  have hsz : n = ((List.range n).map fun (i : Nat) => PyData.int i).length := by simp
  have hz : Builtin.Range.rangeSize 0 n 1 = (n : Int) := by rw [rangeSize_nat]; congr 1
  have W := Walks.range (prog := prog) (w := w) hh s.heap.objs.size 0 1 n
  refine wpAny_pyIter_range hr hs (hQ _ [s.heap.objs.size] _ _ (hsz ▸ W) (by simp) ?_ ?_ ?_)
  · rw [hz]
    show Heap.get? _ _ = _
    rw [Heap.get?_push_size _ rfl]
    simp [rawInt]
  · rintro i h' st
    exact ⟨_, _, _, st, rfl, rfl, by decide⟩
  · rintro i v hi ⟨t, rfl⟩
    have hi' : i < n := by simpa using hi
    refine ⟨.int i, by simp [hi'], ?_⟩
    have e : (0 : Int) + (i : Int) * 1 = i := by omega
    rw [e]; exact Is.int _ _ _
end
end Ny

namespace Ny
open PySem PySem.W PySem.Calls PyProof.Rows

section
variable {prog : Program} {w : World} {mg mb : Str → Option Value} {A : Around} {env cenv : Env} {ρ κ : List (Str × PyData)}

structure EvTs (prog : Program) (w : World) (mg mb : Str → Option Value) (A : Around) (cenv : Env) (ρ κ : List (Str × PyData)) (ifs : List Expr) (b : Bool) : Prop where
  run : ∀ (s : Shared) (E : Value → Shared → Prop), Fm prog w mg mb cenv ρ κ s.heap →
    wpAny (model prog w) A (forIn ifs true fun c r => if r = true then do let ok ← isTrue c cenv (eval c cenv); pure (ForInStep.yield ok) else pure (ForInStep.yield r)) (fun v s' => Kp s s' ∧ v = b) E s
theorem evts_nil : EvTs prog w mg mb A cenv ρ κ [] true := .mk fun s E F => by
  rw [List.forIn_nil]; exact wpAny_pure ⟨Kp.refl s, rfl⟩
theorem evts_one {c : Expr} {b : Bool} (x : EvT prog w mg mb A cenv ρ κ c b) : EvTs prog w mg mb A cenv ρ κ [c] b := .mk fun s E F => wpAny_tests_one (x.run s E F)

structure EltOff (prog : Program) (w : World) (mg mb : Str → Option Value) (A : Around) (cenv : Env) (ρ κ : List (Str × PyData)) (D : Addr) (e : Expr) (d : PyData) : Prop where
  run : ∀ (s : Shared) (E : Value → Shared → Prop) (ys : Array Value), Fm prog w mg mb cenv ρ κ s.heap → s.heap.PlainList D ys → wpAny (model prog w) A (eval e cenv) (fun v s' => Kp s s' ∧ IsOff D s'.heap v d) E s
theorem elt_of {D : Addr} {e : Expr} {d : PyData} (hn : nl d = true) (x : EvD prog w mg mb A cenv ρ κ e d) : EltOff prog w mg mb A cenv ρ κ D e d := .mk fun s E ys F _ =>
  wpAny_mono (x.run s E F) (fun v s' q => ⟨q.1, q.2.isOff hn⟩) fun _ _ q => q

structure CompOk (prog : Program) (w : World) (mg mb : Str → Option Value) (A : Around) (env : Env) (scope : Scope) (cl : List (Str × Addr)) (own : Option Str) (κ : List (Str × PyData)) (elt target : Expr) (ifs : List Expr) (ds : List PyData)
    (p : PyData → Bool) (f : PyData → PyData) : Prop where
  item : ∀ (base : Heap) (C D : Addr) (d : PyData), d ∈ ds → ∃ ρ' κ', Tgt prog w mg mb A (cEnv scope cl C env) own base target d κ ρ' κ' ∧ EvTs prog w mg mb A (cEnv scope cl C env) ρ' κ' ifs (p d) ∧
    (p d = true → EltOff prog w mg mb A (cEnv scope cl C env) ρ' κ' D elt (f d))

theorem take_step (p : PyData → Bool) (f : PyData → PyData) (ds : List PyData) (i : Nat) (d : PyData) (h : ds[i]? = some d) :
    ((ds.take (i + 1)).filter p).map f = ((ds.take i).filter p).map f ++ (if p d then [f d] else []) := by
  rw [take_succ_filter p ds i d h, List.map_append]
  cases p d <;> simp
theorem IsOffs.length {D h vs ds} (x : IsOffs D h vs ds) : vs.length = ds.length := x.is.length

/-- what a target asks of the iterator -/
def TgtGo (target : Expr) : Prop := (∀ it v, letOwnedTupleGo target it v = pure ()) ∨ ∃ es k p, target = .Tuple es k p
theorem go_own {s : Shared} {E : Value → Shared → Prop} {Q : Unit → Shared → Prop} {target : Expr} (ht : TgtGo target) {I : Addr} {v : Value} {o : Obj} {n : String} {vs : Array Value} (ho : s.heap.get? I = some o) (hc : o.cls = .type n) (hd : o.data = .fields vs) (hn : owners.contains n = false) (h : Q () s) :
    wpAny (model prog w) A (letOwnedTupleGo target (.ref I) v) Q E s := by
  rcases ht with ht | ⟨es, k, p, rfl⟩
  · exact wpAny_of_eq (ht _ v) h
  · unfold letOwnedTupleGo
    cases v with
    | ref a =>
      refine wpAny_bind (wpAny_load ho ?_)
      rw [hc, hd]
      show wpAny _ _ (if (owners.contains n && _) = true then _ else _) _ _ _
      rw [hn]
      exact wpAny_pure h
    | _ => exact wpAny_pure h
theorem compLoop_own {R : Result → Shared → Prop} {s : Shared} {elt target iter : Expr} {ifs : List Expr} {scope : Scope} {pos : Pos} {it acc : Value} {env : Env} (I : Nat → Shared → Prop)
    (turn : ∀ n s, I n s → wpAny (model prog w) A (pyNext it) (fun r s₁ => match r with
      | none => R (.ok .next) s₁
      | some v => wpAny (model prog w) A (letOwnedTupleGo target it v) (fun _ s₁' => wpAny (model prog w) A (assign target env v) (fun _ s₂ =>
          wpAny (model prog w) A (forIn ifs true fun c r => if r = true then do let ok ← isTrue c env (eval c env); pure (ForInStep.yield ok) else pure (ForInStep.yield r)) (fun ok s₃ =>
            if ok = true then wpAny (model prog w) A (eval elt env) (fun x s₄ =>
              wpAny (model prog w) A (call (.builtin "list.append") [acc, x]) (fun _ s₅ => ∃ m, m < n ∧ I m s₅) (notedBy (model prog w) A env fun e s' => R (.error e) s') s₄) (notedBy (model prog w) A env fun e s' => R (.error e) s') s₃
            else ∃ m, m < n ∧ I m s₃) (notedBy (model prog w) A env fun e s' => R (.error e) s') s₂) (notedBy (model prog w) A env fun e s' => R (.error e) s') s₁') (notedBy (model prog w) A env fun e s' => R (.error e) s') s₁) (notedBy (model prog w) A env fun e s' => R (.error e) s') s)
    (n : Nat) (h : I n s) : codeAny (model prog w) A (.compLoop (.ListComp elt [⟨target, iter, ifs, 0⟩] scope pos) 0 it acc env) R s := by
  refine codeAny_loop rfl I (fun n s hI => ?_) n h
  show wpAny _ A ((compTurn (.ListComp elt [⟨target, iter, ifs, 0⟩] scope pos) 0 it acc env).onRaise (fun x => do noteFrame x env; theTreesLotGoes x)) _ _ s
  refine wpAny_noted ?_
  rw [compTurn_list]
  refine wpAny_bind (wpAny_standAt (wpAny_bind (wpAny_mono (turn n s hI) (fun r s₁ h₁ => ?_) fun _ _ h' => h')))
  cases r with
  | none => exact wpAny_pure h₁
  | some v =>
    refine wpAny_bind (wpAny_mono h₁ (fun _ s₁' h₁' => ?_) fun _ _ h' => h')
    refine wpAny_bind (wpAny_mono h₁' (fun _ s₂ h₂ => wpAny_bind (wpAny_mono h₂ (fun ok s₃ h₃ => ?_) fun _ _ h' => h')) fun _ _ h' => h')
    cases ok with
    | false => exact wpAny_pure ⟨rfl, h₃⟩
    | true =>
      exact wpAny_bind (wpAny_bind (wpAny_mono h₃ (fun x s₄ h₄ => wpAny_bind (wpAny_mono h₄ (fun _ s₅ h₅ => wpAny_pure (wpAny_pure ⟨rfl, h₅⟩)) fun _ _ h' => h')) fun _ _ h' => h'))

theorem comp_core {scope : Scope} {cl : List (Str × Addr)} {own : Option Str} {elt target iter : Expr} {ifs : List Expr} {pos : Pos} {ds : List PyData} {p : PyData → Bool} {f : PyData → PyData} {s₁ : Shared} {v : Value}
    {E : Value → Shared → Prop} {RR : Value → Addr → Result → Shared → Prop}
    (ho : Own scope.names own) (hF : ∀ C h', Grow s₁.heap h' → Priv (cEnv scope cl C env) own h' → Fm prog w mg mb (cEnv scope cl C env) [] κ h')
    (src : Src prog w A v s₁.heap ds) (hz : ds.length ≤ sizeLine) (ok : CompOk prog w mg mb A env scope cl own κ elt target ifs ds p f) (ht : TgtGo target)
    (hRR : ∀ D C h' tk ys m, s₁.heap.objs.size < D → D < C → Grow s₁.heap h' → h'.Ns C m → h'.PlainList D ys → IsOffs D h' ys.toList ((ds.filter p).map f) → RR (.ref D) C (.ok .next) { s₁ with heap := h', toks := tk }) :
    wpAny (model prog w) A (pyIter v) (fun it s₂ => wpAny (model prog w) A (newList []) (fun acc s₃ => wpAny (model prog w) A (newFunctionEnv scope env.globals cl [] env.qual none .none (some env)) (fun cenv s₄ =>
      codeAny (model prog w) A (.compStart (.ListComp elt [⟨target, iter, ifs, 0⟩] scope pos) 0 it acc { cenv with scope := relabel scope env }) (RR acc cenv.locals) s₄) E s₃) E s₂) E s₁ := by
  refine src.run s₁ E _ rfl fun o fp P St W hfp hst hcl0 hP => ?_
  refine wpAny_newObj_type (newEnvC fun cenv hce hcl => ?_)
  rw [hce, hcl]
  clear hce hcl cenv
  dsimp only
  generalize hH : s₁.heap.push o = H at *
  generalize hH2 : H.push { cls := .type "list", dict := none, data := .seq ([] : List Value).toArray } = H2 at *
  have z1 : H.objs.size = s₁.heap.objs.size + 1 := by rw [← hH, Heap.size_push]
  have z2 : H2.objs.size = H.objs.size + 1 := by rw [← hH2, Heap.size_push]
  generalize hI : s₁.heap.objs.size = I at *
  generalize hD : H.objs.size = D at *
  generalize hC : H2.objs.size = C at *
  have g1 : Grow s₁.heap H := hH ▸ Grow.push _ _
  have g2 : Grow H H2 := hH2 ▸ Grow.push _ _
  have g3 : Grow H2 (pushCells (H2.push { cls := .type "dict", data := .dict #[] }) scope.names) := (Grow.push _ _).trans fun b o e => pushCells_keeps _ _ b o e
  have hns : ∀ i h' o' xs n, St i h' → h'.get? I = some o' → o'.data = .seq xs n → False := fun i h' o' xs n st e d => by
    obtain ⟨o, n', vs, ho, _, hd, _⟩ := hcl0 i h' st
    rw [e] at ho; cases ho; rw [d] at hd; cases hd
  have hID : I < D := by omega
  have hDC : D < C := by omega
  have hDf : D ∉ fp := fun h => by have : (D : Nat) ≤ I := hfp _ h; omega
  have hCf : ∀ b ∈ fp, b < C := fun b h => Nat.lt_of_le_of_lt (hfp _ h) (Nat.lt_trans hID hDC)
  have hacc : (pushCells (H2.push { cls := .type "dict", data := .dict #[] }) scope.names).PlainList D #[] := ⟨_, g3 _ _ (by rw [← hH2, ← hD]; exact Heap.get?_push_size _ rfl)⟩
  have hnsC : (H2.push { cls := .type "dict", data := .dict #[] }).Ns C fun _ => none := hC ▸ Heap.Ns.new H2 (.type "dict")
  have hpriv : Priv (cEnv scope cl C env) own (pushCells (H2.push { cls := .type "dict", data := .dict #[] }) scope.names) := by
    refine ⟨⟨_, hnsC.keeps fun b o e => pushCells_keeps _ _ b o e⟩, fun x hx => ?_⟩
    cases ho with
    | none h1 h2 => cases hx
    | some y h1 h2 =>
      cases hx
      refine ⟨none, ?_, ?_⟩
      · show List.lookup x (cellsFrom (C + 1) scope.names cl) = some (C + 1)
        rw [h1, List.lookup_cons, beq_self_eq_true]
      · rw [h2]
        have e : C + 1 = (H2.push { cls := .type "dict", data := .dict #[] }).objs.size := by rw [Heap.size_push, hC]
        show Heap.IsCell _ (C + 1) _
        rw [e]; exact ⟨_, Heap.get?_push_size _ rfl, rfl⟩
  generalize pushCells (H2.push { cls := .type "dict", data := .dict #[] }) scope.names = h₁ at *
  have hst₁ : St 0 h₁ := W.frame _ _ _ hst fun b _ o e => g3 _ _ (g2 _ _ e)
  have hg : Grow s₁.heap h₁ := (g1.trans g2).trans g3
  have hsz : s₁.heap.objs.size ≤ C := by omega
  have loop : ∀ s₃ : Shared, s₃.heap = h₁ → (∃ tk, s₃ = { s₁ with heap := h₁, toks := tk }) →
      codeAny (model prog w) A (.compLoop (.ListComp elt [⟨target, iter, ifs, 0⟩] scope pos) 0 (.ref I) (.ref D) (cEnv scope cl C env)) (RR (.ref D) C) s₃ := by
    rintro s₃ - ⟨tk₀, rfl⟩
    refine compLoop_own (env := cEnv scope cl C env)
      (fun k s' => ∃ h' tk ys i, s' = { s₁ with heap := h', toks := tk } ∧ St i h' ∧ h'.PlainList D ys ∧ IsOffs D h' ys.toList (((ds.take i).filter p).map f) ∧ Priv (cEnv scope cl C env) own h' ∧ Grow s₁.heap h' ∧ i ≤ ds.length ∧ k = ds.length + 1 - i) ?_ (ds.length + 1)
      ⟨h₁, tk₀, #[], 0, rfl, hst₁, hacc, by simpa using IsOffs.nil, hpriv, hg, Nat.zero_le _, rfl⟩
    rintro k s' ⟨h, tk, ys, i, rfl, hst', hacc', hys, hp', hg', hi, rfl⟩
    by_cases hlt : i < ds.length
    · refine W.item i _ _ _ hlt hst' fun u h₂ tk₂ hPu hst₂ hk₂ => ?_
      obtain ⟨d, hd, hdi⟩ := hP i u hlt hPu
      have keep : ∀ b o, b ≠ I → h.get? b = some o → h₂.get? b = some o := fun b o hb e => hk₂ b o (by simpa using hb) e
      have g₂ : Grow s₁.heap h₂ := fun b o e => keep b o (Nat.ne_of_lt (hI ▸ Heap.lt_size e)) (hg' b o e)
      have sq₂ : SeqGrow h h₂ := fun b o xs n e q => keep b o (by rintro rfl; exact hns i h o xs n hst' e q) e
      have acc₂ : h₂.PlainList D ys := hacc'.at fun o e => keep D o (Nat.ne_of_gt hID) e
      have ys₂ := hys.off hacc' (sq₂.off D)
      have p₂ : Priv (cEnv scope cl C env) own h₂ := hp'.keep fun b o hb _ e => keep b o (Nat.ne_of_gt (Nat.lt_of_lt_of_le (Nat.lt_trans hID hDC) hb)) e
      obtain ⟨ρ', κ', tg, ts, el⟩ := ok.item s₁.heap C D d (List.mem_of_getElem? hd)
      obtain ⟨oI, nI, vsI, hoI, hcI, hdI, hnI⟩ := hcl0 (i + 1) h₂ hst₂
      refine go_own ht (o := oI) hoI hcI hdI hnI ?_
      refine tg.run _ u _ _ hsz g₂ p₂ (fun h' => hF C h') (hdi.grow g₂) fun h₃ tk₃ t₃ p₃ F₃ => ?_
      have g₃ := t₃.grow g₂ hsz
      have acc₃ : h₃.PlainList D ys := acc₂.at fun o e => t₃.1 D o hDC e
      have ys₃ := ys₂.off acc₂ (t₃.2.off D)
      have st₃ : St (i + 1) h₃ := W.frame _ _ _ hst₂ fun b hb o e => t₃.1 b o (hCf b hb) e
      refine wpAny_mono (ts.run _ _ F₃) (fun c s₄ q => ?_) fun _ _ q => q
      obtain ⟨k₄, rfl⟩ := q
      obtain ⟨h₄, tk₄, rfl, gr₄⟩ := k₄
      have hnx := take_step p f ds i d hd
      cases hpd : p d with
      | false =>
        rw [hpd] at hnx
        simp only [Bool.false_eq_true, if_false, List.append_nil] at hnx ⊢
        refine ⟨ds.length + 1 - (i + 1), by omega, h₄, tk₄, ys, i + 1, rfl, W.frame _ _ _ st₃ fun b _ o e => gr₄ b o e, acc₃.at fun o e => gr₄ _ o e, ?_, p₃.keep fun b o _ _ e => gr₄ b o e, g₃.trans gr₄, hlt, rfl⟩
        rw [hnx]; exact ys₃.off acc₃ (Grow.seq gr₄ |>.off D)
      | true =>
        rw [hpd] at hnx
        simp only [if_true] at hnx ⊢
        have acc₄ : h₄.PlainList D ys := acc₃.at fun o e => gr₄ _ o e
        have ys₄ := ys₃.off acc₃ (Grow.seq gr₄ |>.off D)
        refine wpAny_mono ((el hpd).run _ _ ys (F₃.grow gr₄) acc₄) (fun y s₅ q => ?_) fun _ _ q => q
        obtain ⟨⟨h₅, tk₅, rfl, gr₅⟩, hy⟩ := q
        have acc₅ : h₅.PlainList D ys := acc₄.at fun o e => gr₅ _ o e
        have ys₅ := (ys₄.off acc₄ (Grow.seq gr₅ |>.off D)).snoc hy
        have hlen := ys₄.length
        have hys' : ys.size ≤ sizeLine := by
          have e1 : ys.toList.length = ys.size := by simp
          have e2 : (((ds.take i).filter p).map f).length ≤ ds.length := by
            rw [List.length_map]
            exact Nat.le_trans (List.length_filter_le _ _) (by rw [List.length_take]; omega)
          omega
        refine wpAny_list_append_plain (hsz := hys') acc₅ fun h₆ hl₆ hs₆ => ?_
        refine ⟨ds.length + 1 - (i + 1), by omega, h₆, tk₅, ys.push y, i + 1, rfl, ?_, hl₆, ?_, ?_, ?_, hlt, rfl⟩
        · exact W.frame _ _ _ st₃ fun b hb o e => hs₆.extBut b o (fun h => hDf (h ▸ hb)) (gr₅ b o (gr₄ b o e))
        · rw [hnx]
          simp only [Array.toList_push]
          exact ys₅.off acc₅ fun b o xs n hb e _ => hs₆.extBut b o hb e
        · exact p₃.keep fun b o hb _ e => hs₆.extBut b o (Nat.ne_of_gt (Nat.lt_of_lt_of_le hDC hb)) (gr₅ b o (gr₄ b o e))
        · exact fun b o e => hs₆.extBut b o (Nat.ne_of_lt (Nat.lt_trans (hI ▸ Heap.lt_size e) hID)) (gr₅ b o (gr₄ b o (g₃ b o e)))
    · have hin : i = ds.length := by omega
      subst hin
      refine W.done _ _ _ hst' fun h₂ tk₂ hk₂ => ?_
      have keep : ∀ b o, b ≠ I → h.get? b = some o → h₂.get? b = some o := fun b o hb e => hk₂ b o (by simpa using hb) e
      obtain ⟨m, hm⟩ := (hp'.keep (h' := h₂) fun b o hb _ e => keep b o (Nat.ne_of_gt (Nat.lt_of_lt_of_le (Nat.lt_trans hID hDC) hb)) e).ns
      refine hRR D C h₂ tk₂ ys m (by omega) hDC (fun b o e => keep b o (Nat.ne_of_lt (hI ▸ Heap.lt_size e)) (hg' b o e)) hm (hacc'.at fun o e => keep D o (Nat.ne_of_gt hID) e) ?_
      rw [List.take_length] at hys
      exact hys.off hacc' fun b o xs n _ e q => keep b o (by rintro rfl; exact hns _ h o xs n hst' e q) e
  exact codeAny_compStart_list (loop _ rfl ⟨_, rfl⟩) (W.self 0 _ _ _ hst₁ (loop _ rfl ⟨_, rfl⟩))
end
end Ny

namespace Ny
open PySem PySem.W PySem.Calls PyProof.Rows

/-- the cells that a comprehension takes from around it -/
def closGo (env : Env) : List (Str × NameKind) → List (Str × Addr) → List (Str × Addr)
  | [], acc => acc
  | (n, k) :: r, acc => closGo env r (if k == .free then (n, (env.cells.lookup n).getD 0) :: acc else acc)
def closOf (scope : Scope) (env : Env) : List (Str × Addr) := closGo env scope.names []
def closFits (scope : Scope) (env : Env) : Bool := scope.names.all fun x => x.2 != .free || (env.cells.lookup x.1).isSome
theorem closure_eq {scope : Scope} {env : Env} (h : closFits scope env = true) : closureFor scope env = pure (closOf scope env) := by
  unfold closureFor closOf closFits at *
  have key : ∀ (names : List (Str × NameKind)) (acc : List (Str × Addr)) (f : Str × NameKind → List (Str × Addr) → Sem (ForInStep (List (Str × Addr)))),
      (∀ n k cs, f (n, k) cs = if k == .free then (do let c ← cellOf env n; pure (.yield ((n, c) :: cs))) else pure (.yield cs)) →
      (names.all fun x => x.2 != .free || (env.cells.lookup x.1).isSome) = true → (forIn names acc f : Sem (List (Str × Addr))) = pure (closGo env names acc) := by
    intro names
    induction names with
    | nil => intro acc f hf h; simp [closGo]
    | cons x r ih =>
      intro acc f hf h
      obtain ⟨n, k⟩ := x
      simp only [List.all_cons, Bool.and_eq_true] at h
      rw [List.forIn_cons, hf]
      unfold closGo
      cases hk : k == NameKind.free with
      | false => simp only [Bool.false_eq_true, if_false, pure_bind]; exact ih _ f hf h.2
      | true =>
        simp only [if_true]
        have h1 := h.1
        simp only [bne, hk, Bool.not_true, Bool.false_or] at h1
        obtain ⟨c, hc⟩ := Option.isSome_iff_exists.mp h1
        have : cellOf env n = pure c := by unfold cellOf; rw [hc]
        rw [this, hc]
        simp only [pure_bind, Option.getD_some]
        exact ih _ f hf h.2
  dsimp only
  rw [key scope.names [] _ (fun n k cs => by cases hk : k == NameKind.free <;> simp) h]
  rfl

section
variable {prog : Program} {w : World} {mg mb : Str → Option Value} {A : Around} {env : Env} {ρ κ : List (Str × PyData)}

theorem fm_comp {scope : Scope} {cl : List (Str × Addr)} {own : Option Str} {κf : List (Str × PyData)} {h : Heap} (F : Fm prog w mg mb env ρ κ h) (hk : scope.kind = .function)
    (hκ : ∀ x d, κf.lookup x = some d → κ.lookup x = some d ∧ ∀ C, (cellsFrom (C + 1) scope.names cl).lookup x = env.cells.lookup x) :
    ∀ C h', Grow h h' → Priv (cEnv scope cl C env) own h' → Fm prog w mg mb (cEnv scope cl C env) [] κf h' := fun C h' g p => by
  refine ⟨F.gl.grow g, hk, F.glo, F.blt, ?_, fun x d e => ?_⟩
  · obtain ⟨m, hm⟩ := p.ns
    exact ⟨m, hm, fun x d e => by simp at e⟩
  · obtain ⟨h1, h2⟩ := hκ x d e
    obtain ⟨c, v, a, b, i⟩ := F.cel x d h1
    exact ⟨c, v, (h2 C).trans a, b.keeps g, i.grow g⟩

structure CompIs (env : Env) (scope : Scope) (own : Option Str) (κ κf : List (Str × PyData)) : Prop where
  own : Own scope.names own
  kind : scope.kind = .function
  fits : closFits scope env = true
  names : ∀ y ∈ scope.names, y.2 = .local → scope.names.lookup y.1 = some .local
  cells : ∀ x d, κf.lookup x = some d → κ.lookup x = some d ∧ ∀ C, (cellsFrom (C + 1) scope.names (closOf scope env)).lookup x = env.cells.lookup x

theorem comp_run {scope : Scope} {own : Option Str} {κf : List (Str × PyData)} {elt target iter : Expr} {ifs : List Expr} {pos : Pos} {ds : List PyData} {p : PyData → Bool} {f : PyData → PyData} {Rs : Value → Heap → Prop}
    (x : EvR prog w mg mb A env ρ κ iter Rs) (hs : ∀ v h, Rs v h → Src prog w A v h ds) (ci : CompIs env scope own κ κf) (hz : ds.length ≤ sizeLine) (ok : CompOk prog w mg mb A env scope (closOf scope env) own κf elt target ifs ds p f)
    (ht : TgtGo target) (hfs : ∀ x, foldedSetIterable iter env x = pure x) (s : Shared) (E : Value → Shared → Prop) (F : Fm prog w mg mb env ρ κ s.heap) :
    wpAny (model prog w) A (eval (.ListComp elt [⟨target, iter, ifs, 0⟩] scope pos) env) (fun v s' => Kp s s' ∧ Is s'.heap v (.list ((ds.filter p).map f)) ∧ ∃ D, v = .ref D ∧ s.heap.get? D = none) E s := by
  rw [eval_ListComp]
  refine wpAny_comprehension_free (use := none) rfl hfs (closure_eq ci.fits) ci.kind ci.names (wpAny_mono (x.run s E F) (fun v s₁ h₁ => ?_) fun _ _ e => e)
  refine comp_core (κ := κf) (p := p) (f := f) ci.own (fm_comp (F.grow h₁.1.grow) ci.kind ci.cells) (hs v _ h₁.2) hz ok ht fun D C h' tk ys m hD hDC g hn hpl hys => ?_
  refine ⟨m, hn, fun h'' hs'' => ?_⟩
  have g2 : Grow s₁.heap h'' := fun b o e => hs''.extBut b o (Nat.ne_of_lt (Nat.lt_trans (Nat.lt_trans (Heap.lt_size e) hD) hDC)) (g b o e)
  have sq : SeqGrow h' h'' := seqGrow_of_sameBut hn hs''
  refine ⟨h₁.1.trans ⟨h'', tk, rfl, g2⟩, Is.list (vs := ys) (hpl.isList.at fun o e => hs''.extBut D o (Nat.ne_of_lt hDC) e) (hys.is.seq sq), D, rfl, ?_⟩
  cases e : s.heap.get? D with
  | none => rfl
  | some o => exact absurd (Heap.lt_size (h₁.1.grow _ _ e)) (Nat.not_lt.mpr (Nat.le_of_lt hD))

theorem ev_comp {scope : Scope} {own : Option Str} {κf : List (Str × PyData)} {elt target iter : Expr} {ifs : List Expr} {pos : Pos} {ds : List PyData} {p : PyData → Bool} {f : PyData → PyData} {Rs : Value → Heap → Prop}
    (x : EvR prog w mg mb A env ρ κ iter Rs) (hs : ∀ v h, Rs v h → Src prog w A v h ds) (ci : CompIs env scope own κ κf) (hz : ds.length ≤ sizeLine) (ok : CompOk prog w mg mb A env scope (closOf scope env) own κf elt target ifs ds p f)
    (ht : TgtGo target) (hfs : ∀ x, foldedSetIterable iter env x = pure x) :
    EvD prog w mg mb A env ρ κ (.ListComp elt [⟨target, iter, ifs, 0⟩] scope pos) (.list ((ds.filter p).map f)) := .mk fun s E F =>
  wpAny_mono (comp_run x hs ci hz ok ht hfs s E F) (fun v s' q => ⟨q.1, q.2.1⟩) fun _ _ q => q

theorem store' {base : Heap} {x : Str} {v : Value} {d : PyData} {s : Shared} {E : Value → Shared → Prop} {Q : Unit → Shared → Prop} (gb : G prog w mg mb base) (hL : base.objs.size ≤ env.locals) (F : Fm prog w mg mb env ρ κ s.heap) (g : Grow base s.heap)
    (hl : env.kindOf x = some .local) (hi : Is s.heap v d)
    (h : ∀ h' tk, Fm prog w mg mb env ((x, d) :: ρ) κ h' → Grow base h' → Heap.SameBut env.locals s.heap h' → Q () { s with heap := h', toks := tk }) : wpAny (model prog w) A (storeName env x v) Q E s := by
  obtain ⟨m, hn, hm⟩ := F.loc
  refine wpAny_storeName_local hl hn (fun h' hn' hs => ?_) (by rw [F.kind]; rfl)
  have g' := grow_sameBut g hL hs
  have sq := seqGrow_of_sameBut hn hs
  refine h h' _ ⟨gb.grow g', F.kind, F.glo, F.blt, ⟨_, hn', fun y dy e => ?_⟩, fun y dy e => ?_⟩ g' hs
  · by_cases hy : y = x
    · subst hy
      rw [List.lookup_cons, beq_self_eq_true] at e
      cases e
      exact ⟨v, if_pos rfl, hi.seq sq⟩
    · rw [List.lookup_cons, beq_eq_false_iff_ne.mpr hy] at e
      obtain ⟨v', a, b⟩ := hm y dy e
      exact ⟨v', (if_neg hy).trans a, b.seq sq⟩
  · obtain ⟨c, v', a, b, i⟩ := F.cel y dy e
    exact ⟨c, v', a, cell_sameBut hn hs b, i.seq sq⟩
theorem fm_sameBut {h h' : Heap} {C : Addr} {m : Str → Option Value} (F : Fm prog w mg mb env ρ κ h) (gh : G prog w mg mb h') (hn : h.Ns C m) (hs : Heap.SameBut C h h') (hne : env.locals ≠ C) : Fm prog w mg mb env ρ κ h' := by
  have sq := seqGrow_of_sameBut hn hs
  obtain ⟨m', hn', hm⟩ := F.loc
  refine ⟨gh, F.kind, F.glo, F.blt, ⟨m', hn'.sameBut hs hne, fun y dy e => ?_⟩, fun y dy e => ?_⟩
  · obtain ⟨v', a, b⟩ := hm y dy e
    exact ⟨v', a, b.seq sq⟩
  · obtain ⟨c, v', a, b, i⟩ := F.cel y dy e
    exact ⟨c, v', a, cell_sameBut hn hs b, i.seq sq⟩

/-- a comprehension that is stored in a local name at once -/
theorem ex_assign_comp {scope : Scope} {own : Option Str} {κf : List (Str × PyData)} {elt target iter : Expr} {ifs : List Expr} {pos spos : Pos} {ds : List PyData} {p : PyData → Bool} {f : PyData → PyData} {Rs : Value → Heap → Prop}
    {base : Heap} {y : Str} {py : Pos} {rest : List Stmt} {R : Value → Heap → Prop}
    (x : EvR prog w mg mb A env ρ κ iter Rs) (hs : ∀ v h, Rs v h → Src prog w A v h ds) (ci : CompIs env scope own κ κf) (hz : ds.length ≤ sizeLine) (ok : CompOk prog w mg mb A env scope (closOf scope env) own κf elt target ifs ds p f)
    (ht : TgtGo target) (hfs : ∀ x, foldedSetIterable iter env x = pure x) (hy : env.kindOf y = some .local)
    (hsw : swapsWith (.ListComp elt [⟨target, iter, ifs, 0⟩] scope pos) (some (.Name y py)) spos.line env = pure true)
    (z : Ex prog w mg mb A env base ((y, .list ((ds.filter p).map f)) :: ρ) κ rest R) :
    Ex prog w mg mb A env base ρ κ (.Assign [.Name y py] (.ListComp elt [⟨target, iter, ifs, 0⟩] scope pos) spos :: rest) R := .mk fun gb hL s E F g => by
  refine wpAny_execs_cons ?_
  rw [exec_Assign_Name_used _ _ _ _ hsw]
  refine wpAny_bind (wpAny_standAt (wpAny_bind ?_))
  show wpAny _ A (do let _ ← comprehension (.ListComp elt [⟨target, iter, ifs, 0⟩] scope pos) scope env _ (newList []) false (eval iter env) (some (assign (.Name y py) env))) _ _ s
  refine wpAny_bind (wpAny_mono (wpAny_comprehension_free (use := some (assign (.Name y py) env)) (Q := fun _ s' => Fm prog w mg mb env ((y, .list ((ds.filter p).map f)) :: ρ) κ s'.heap ∧ Grow base s'.heap ∧ ∃ h tk, s' = { s with heap := h, toks := tk }) rfl hfs (closure_eq ci.fits) ci.kind ci.names
    (wpAny_mono (x.run s E F) (fun v s₁ h₁ => ?_) fun _ _ e => e)) (fun _ s' q => wpAny_pure (wpAny_pure ?_)) fun _ _ e => e)
  · refine comp_core (κ := κf) (p := p) (f := f) ci.own (fm_comp (F.grow h₁.1.grow) ci.kind ci.cells) (hs v _ h₁.2) hz ok ht fun D C h' tk ys m hD hDC g' hn hpl hys => ?_
    show wpAny _ A (assign (.Name y py) env (.ref D)) _ _ _
    have F₁ := (F.grow h₁.1.grow).grow g'
    have hLs : env.locals < s₁.heap.objs.size := by
      obtain ⟨m', hn', _⟩ := (F.grow h₁.1.grow).loc
      exact hn'.lt
    have hLC : env.locals ≠ C := Nat.ne_of_lt (Nat.lt_trans (Nat.lt_trans hLs hD) hDC)
    refine wpAny_assign_Name (store' (d := .list ((ds.filter p).map f)) gb hL F₁ ((g.trans h₁.1.grow).trans g') hy (Is.list hpl.isList hys.is) fun h'' tk' F' g'' hsb => ?_)
    have hn'' : h''.Ns C m := hn.sameBut hsb (Ne.symm hLC)
    refine ⟨m, hn'', fun h₃ hs₃ => ?_⟩
    have hCb : base.objs.size ≤ C := Nat.le_trans hL (Nat.le_of_lt (Nat.lt_trans (Nat.lt_trans hLs hD) hDC))
    have g₃ := grow_sameBut g'' hCb hs₃
    refine ⟨fm_sameBut F' (gb.grow g₃) hn'' hs₃ hLC, g₃, ?_⟩
    obtain ⟨h, tk₁, rfl, _⟩ := h₁.1
    exact ⟨_, _, rfl⟩
  · obtain ⟨F', g', h', tk', rfl⟩ := q
    exact wpAny_mono (z.run gb hL _ E F' g') (fun f s₂ o => o.back ⟨_, _, rfl⟩) fun _ _ q => q
end
end Ny

namespace Ny
open PySem PySem.W PySem.Calls PyProof.Rows

theorem IsAll.strs {h : Heap} : ∀ {vs : List Value} {ts : List Str}, IsAll h vs (ts.map .str) → ∃ l : List (Str × Tok), vs = strValues l ∧ l.map (·.1) = ts
  | _, [], x => ⟨[], x.nil_inv, rfl⟩
  | _, t :: ts, x => by
    obtain ⟨v, r, rfl, hv, hr⟩ := IsAll.cons_inv (ds := ts.map .str) x
    obtain ⟨u, rfl⟩ := hv.str_inv
    obtain ⟨l, rfl, e⟩ := IsAll.strs hr
    exact ⟨(t, u) :: l, rfl, by simp [e]⟩

/-- what _law_prepared makes of a text -/
def foldC (c : Nat) : List Nat := (b3S ⟨#[c]⟩).cps.toList
def isB1 (c : Nat) : Bool := inB1 ⟨#[c]⟩
def prepC (c : Nat) : List Nat := if isB1 c then [] else foldC c
def prepL (l : List Nat) : List Nat := l.flatMap prepC
def prepS (x : Str) : Str := S (prepL x.cps.toList)

def strOf : PyData → Str
  | .str x => x
  | _ => S []
def intOf : PyData → Int
  | .int x => x
  | _ => 0

theorem join_empty (ts : List Str) : Txt.join ("" : Str) ts = S (ts.flatMap fun t => t.cps.toList) := by
  show Builtin.Str.glued _ _ = _
  rw [StrLaws.glued_eq_join]
  induction ts with
  | nil => rfl
  | cons t ts ih =>
    cases ts with
    | nil => simp [Str.join]
    | cons u r =>
      rw [Str.join, ih]
      · apply Str.ext'
        simp [Str.cps_append]
        rfl
      · simp

section
variable {prog : Program} {w : World} {mg mb : Str → Option Value} {A : Around} {env : Env} {ρ κ : List (Str × PyData)}

theorem ev_join {o e : Expr} {apos pos : Pos} {sep : Str} {ts : List Str} (ho : EvD prog w mg mb A env ρ κ o (.str sep)) (he : EvD prog w mg mb A env ρ κ e (.list (ts.map .str))) (hok : JoinOk sep ts = true)
    (h1 : attributeBase o "join" env (eval o env) = eval o env) (h2 : starEach [e] env = [(false, eval e env)]) (h3 : (apos.endLine == pos.line) = true) :
    EvD prog w mg mb A env ρ κ (.Call (.Attribute o "join" apos) [e] [] pos) (.str (Txt.join sep ts)) := .mk fun s E F => by
  refine Call_method1 h1 h2 h3 (wpAny_mono (ho.run s E F) (fun v s₁ q₁ => ?_) fun _ _ q => q)
  obtain ⟨t, rfl⟩ := q₁.2.str_inv
  refine SB.join (wpAny_mono (he.run s₁ E (F.grow q₁.1.grow)) (fun u s₂ q₂ => ?_) fun _ _ q => q)
  obtain ⟨a, vs, rfl, hl, hi⟩ := q₂.2.list_inv
  obtain ⟨l, e, hts⟩ := hi.strs
  have e' : vs = (strValues l).toArray := by rw [← e]
  exact ⟨a, l, rfl, e' ▸ hl, ts, hts, hok, fun t' k => ⟨(q₁.1.trans q₂.1).trans (Kp.tok s₂ k), Is.str _ _ _⟩⟩

theorem con_prepared (x : Str) (hx : x.length ≤ 100000) : ConD prog w mg mb 1 10 [.str x] (.str (prepS x)) := by
  refine con_of (ps := ["text"]) (by decide) (fun vs hv pm cd doc => ?_) rfl (by decide +kernel) (by decide) rfl rfl rfl (by decide +kernel) fun A base L a cd hA => ?_
  · match vs, hv with
    | [v], _ => rfl
  have key : ((((x.cps.toList.map fun c => PyData.str ⟨#[c]⟩).filter fun d => !inB1 (strOf d)).map fun d => PyData.str (b3S (strOf d)))) = ((x.cps.toList.filter fun c => !isB1 c).map fun c => b3S ⟨#[c]⟩).map PyData.str := by
    rw [List.filter_map, List.map_map, List.map_map]; rfl
  have key2 : prepS x = Txt.join ("" : Str) ((x.cps.toList.filter fun c => !isB1 c).map fun c => b3S ⟨#[c]⟩) := by
    rw [join_empty]
    unfold prepS
    refine congrArg S ?_
    unfold prepL
    generalize x.cps.toList = l
    induction l with
    | nil => rfl
    | cons c l ih =>
      simp only [List.flatMap_cons, List.filter_cons, prepC, ih]
      cases isB1 c <;> simp [foldC]
  rw [key2]
  have hA' := hA.deeper (envOf (nameAt 10) (scopeAt 10) L a cd)
  refine ex_ret (ev_join ev_str ?c ?z ?_ ?_ ?_)
  case z =>
    unfold JoinOk
    rw [Bool.not_eq_true']
    refine StrLaws.joinFits (B := 4) (fun y hy => ?_) ?_
    · obtain ⟨c, _, rfl⟩ := List.mem_map.mp hy
      exact b3S_le _ rfl
    · have h1 : (((x.cps.toList.filter fun c => !isB1 c).map fun c => b3S ⟨#[c]⟩)).length ≤ x.length := by
        rw [List.length_map]
        exact Nat.le_trans (List.length_filter_le _ _) (by simp [Str.length])
      have h2 : Str.length ("" : Str) = 0 := rfl
      rw [h2]; omega
  case c =>
    rw [← key]
    refine ev_comp (own := none) (κf := []) (Rs := fun v h => Is h v (.str x)) (ev_local (by rfl) (by rfl) (by decide)) (fun v h i => src_str hA.handled i) ?ci ?hz ?ok ?ht ?hf
    case hz => rw [List.length_map]; simp only [sizeLine]; have : x.cps.toList.length = x.length := by simp [Str.length]
               omega
    case ht => exact .inl fun _ _ => rfl
    case hf => intro _; rfl
    case ci =>
      refine ⟨.none ?_ ?_, ?_, ?_, ?_, ?_⟩
      · intro _ _; rfl
      · intro _; rfl
      · rfl
      · rfl
      · decide +kernel
      · intro y d e; simp at e
    case ok =>
      refine ⟨fun base C D d hd => ?_⟩
      obtain ⟨c, _, rfl⟩ := List.mem_map.mp hd
      refine ⟨_, _, tgt_name ?t1 ?t2, evts_one (evt_not (evt_value ?b1)), fun hp => elt_of ?n ?b3⟩
      case t1 => rfl
      case t2 => rfl
      case n => rfl
      case b1 =>
        refine ev_call (i := 5) (by decide) (by decide +kernel) hA' ?_ (ds := [.str ⟨#[c]⟩]) (evl_cons (ev_local (by rfl) (by rfl) (by decide)) evl_nil) (con_b1 _ rfl)
        rfl
      case b3 =>
        refine ev_call (i := 7) (by decide) (by decide +kernel) hA' ?_ (ds := [.str ⟨#[c]⟩]) (evl_cons (ev_local (by rfl) (by rfl) (by decide)) evl_nil) (con_b3 _ rfl)
        rfl
  · rfl
  · rfl
  · rfl
end
end Ny

namespace Ny
open PySem PySem.W PySem.Calls PyProof.Rows

/-! ## Blocks of a def that keeps one object of its own growing (a list, a dict) -/
def hf : PyData → Bool
  | .none | .bool _ | .int _ | .str _ => true
  | _ => false
theorem Is.hf {h h' : Heap} {v : Value} {d : PyData} (hd : hf d = true) (x : Is h v d) : Is h' v d := by
  cases d with
  | none => rw [x.none_inv]; exact Is.none _
  | bool b => rw [x.bool_inv]; exact Is.bool _ _
  | int i => obtain ⟨t, rfl⟩ := x.int_inv; exact Is.int _ _ _
  | str i => obtain ⟨t, rfl⟩ := x.str_inv; exact Is.str _ _ _
  | list xs => simp [Ny.hf] at hd
  | tuple xs => simp [Ny.hf] at hd
  | dict xs => simp [Ny.hf] at hd

/-- the frame, the object's place and what the object holds -/
structure Cfg where
  prog : Program
  w : World
  mg : Str → Option Value
  mb : Str → Option Value
  A : Around
  env : Env
  base : Heap
  r : Str
  D : Addr
  τ : Type
  X : τ → Heap → Prop
/-- only the frame's names and the object differ -/
def Keep2 (c : Cfg) (h h' : Heap) : Prop := ∀ b o, b ≠ c.env.locals → b ≠ c.D → h.get? b = some o → h'.get? b = some o
theorem Keep2.refl {c : Cfg} (h : Heap) : Keep2 c h h := fun _ _ _ _ e => e
theorem Keep2.trans {c : Cfg} {h h' h'' : Heap} (x : Keep2 c h h') (y : Keep2 c h' h'') : Keep2 c h h'' := fun b o n m e => y b o n m (x b o n m e)
theorem Grow.keep2 {c : Cfg} {h h' : Heap} (g : Grow h h') : Keep2 c h h' := fun b o _ _ e => g b o e

structure Cfg.Ok (c : Cfg) : Prop where
  gb : G c.prog c.w c.mg c.mb c.base
  hL : c.base.objs.size ≤ c.env.locals
  hD : c.base.objs.size ≤ c.D
  ne : c.D ≠ c.env.locals
  keep : ∀ x h h', (∀ o, h.get? c.D = some o → h'.get? c.D = some o) → c.X x h → c.X x h'
structure At (c : Cfg) (ρ : List (Str × PyData)) (x : c.τ) (h : Heap) : Prop where
  fm : Fm c.prog c.w c.mg c.mb c.env ρ [] h
  gr : Grow c.base h
  ns : ∃ m, h.Ns c.env.locals m ∧ m c.r = some (.ref c.D)
  x : c.X x h
theorem At.grow {c : Cfg} (k : c.Ok) {ρ : List (Str × PyData)} {x : c.τ} {h h' : Heap} (a : At c ρ x h) (g : Grow h h') : At c ρ x h' :=
  ⟨a.fm.grow g, a.gr.trans g, let ⟨m, n, e⟩ := a.ns; ⟨m, n.keeps g, e⟩, k.keep _ _ _ (fun o e => g _ o e) a.x⟩
theorem Fm.weak {prog w mg mb env ρ ρ' κ h} (F : Fm prog w mg mb env ρ κ h) (hr : ∀ x d, ρ'.lookup x = some d → ρ.lookup x = some d) : Fm prog w mg mb env ρ' κ h :=
  ⟨F.gl, F.kind, F.glo, F.blt, let ⟨m, n, q⟩ := F.loc; ⟨m, n, fun x d e => q x d (hr x d e)⟩, F.cel⟩
theorem At.weak {c : Cfg} {ρ ρ' : List (Str × PyData)} {x : c.τ} {h : Heap} (a : At c ρ x h) (hr : ∀ x d, ρ'.lookup x = some d → ρ.lookup x = some d) : At c ρ' x h :=
  ⟨a.fm.weak hr, a.gr, a.ns, a.x⟩

/-- how an error goes on -/
abbrev ErP (c : Cfg) := Value → Heap → Prop
structure Bk (c : Cfg) (ρ : List (Str × PyData)) (x : c.τ) (b : List Stmt) (P : Flow → List (Str × PyData) → c.τ → Prop) (Er : ErP c) : Prop where
  run : c.Ok → ∀ (s : Shared) (E : Value → Shared → Prop), At c ρ x s.heap → (∀ e h' tk, Er e h' → E e { s with heap := h', toks := tk }) → PassesOwn (model c.prog c.w) c.A c.env E →
    wpAny (model c.prog c.w) c.A (execs b c.env) (fun f s' => ∃ ρ' x' h' tk, s' = { s with heap := h', toks := tk } ∧ Keep2 c s.heap h' ∧ P f ρ' x' ∧ At c ρ' x' h') E s

/-- what comes behind a statement -/
def Then (c : Cfg) (rest : List Stmt) (P : Flow → List (Str × PyData) → c.τ → Prop) (Er : ErP c) (f : Flow) (ρ : List (Str × PyData)) (x : c.τ) : Prop := match f with
  | .next => Bk c ρ x rest P Er
  | f => P f ρ x
section
variable {c : Cfg} {ρ : List (Str × PyData)} {x : c.τ} {P : Flow → List (Str × PyData) → c.τ → Prop} {Er : ErP c}

theorem bk_nil (h : P .next ρ x) : Bk c ρ x [] P Er := .mk fun k s E a _ _ => wpAny_execs_nil ⟨ρ, x, s.heap, s.toks, rfl, Keep2.refl _, h, a⟩
theorem bk_cont {pos rest} (h : P .cont ρ x) : Bk c ρ x (.Continue pos :: rest) P Er := .mk fun k s E a _ _ => wpAny_execs_cons (wpAny_Continue ⟨ρ, x, s.heap, s.toks, rfl, Keep2.refl _, h, a⟩)

/-- the rest of a block from a state further on -/
theorem Bk.on {s : Shared} {E : Value → Shared → Prop} {ρ₁ : List (Str × PyData)} {x₁ : c.τ} {b : List Stmt} (y : Bk c ρ₁ x₁ b P Er) (k : c.Ok) {h₁ : Heap} {tk₁ : Nat} (a : At c ρ₁ x₁ h₁) (q : Keep2 c s.heap h₁)
    (hE : ∀ e h' tk, Er e h' → E e { s with heap := h', toks := tk }) (hp : PassesOwn (model c.prog c.w) c.A c.env E) :
    wpAny (model c.prog c.w) c.A (execs b c.env) (fun f s' => ∃ ρ' x' h' tk, s' = { s with heap := h', toks := tk } ∧ Keep2 c s.heap h' ∧ P f ρ' x' ∧ At c ρ' x' h') E { s with heap := h₁, toks := tk₁ } :=
  wpAny_mono (y.run k { s with heap := h₁, toks := tk₁ } E a hE hp) (fun f s' ⟨ρ', x', h', tk, e, q', p, a'⟩ => ⟨ρ', x', h', tk, e, q.trans q', p, a'⟩) fun _ _ q => q

theorem at_store {y : Str} {v : Value} {d : PyData} {s : Shared} {E : Value → Shared → Prop} {Q : Unit → Shared → Prop} (k : c.Ok) (a : At c ρ x s.heap) (hy : c.env.kindOf y = some .local) (hr : c.r ≠ y) (hi : Is s.heap v d)
    (h : ∀ h' tk, At c ((y, d) :: ρ) x h' → Keep2 c s.heap h' → Q () { s with heap := h', toks := tk }) : wpAny (model c.prog c.w) c.A (storeName c.env y v) Q E s := by
  obtain ⟨m, hn, hm⟩ := a.fm.loc
  refine wpAny_storeName_local hy hn (fun h' hn' hs => ?_) (by rw [a.fm.kind]; rfl)
  have sq := seqGrow_of_sameBut hn hs
  have g' := grow_sameBut a.gr k.hL hs
  refine h h' _ ⟨⟨k.gb.grow g', a.fm.kind, a.fm.glo, a.fm.blt, ⟨_, hn', fun z dz e => ?_⟩, fun z dz e => by simp at e⟩, g', ⟨_, hn', ?_⟩, k.keep _ _ _ (fun o e => hs.extBut _ o k.ne e) a.x⟩ fun b o hb _ e => hs.extBut b o hb e
  · by_cases hz : z = y
    · subst hz
      rw [List.lookup_cons, beq_self_eq_true] at e
      cases e
      exact ⟨v, if_pos rfl, hi.seq sq⟩
    · rw [List.lookup_cons, beq_eq_false_iff_ne.mpr hz] at e
      obtain ⟨v', p, q⟩ := hm z dz e
      exact ⟨v', (if_neg hz).trans p, q.seq sq⟩
  · obtain ⟨m', hn'', e⟩ := a.ns
    rw [if_neg hr]
    exact (Heap.Ns.agree hn hn'' c.r).trans e

theorem bk_assign {y : Str} {e : Expr} {d : PyData} {pos' pos rest} (hx : EvD c.prog c.w c.mg c.mb c.A c.env ρ [] e d) (hy : c.env.kindOf y = some .local) (hr : c.r ≠ y) (z : Bk c ((y, d) :: ρ) x rest P Er)
    (hs : swapsWith e (some (.Name y pos')) pos.line c.env = pure false) : Bk c ρ x (.Assign [.Name y pos'] e pos :: rest) P Er := .mk fun k s E a hE hp => by
  refine wpAny_execs_cons (wpAny_Assign_Name (wpAny_mono (hx.run s E a.fm) (fun v s₁ h₁ => ?_) fun _ _ q => q) hs)
  obtain ⟨⟨h, tk, rfl, g⟩, hi⟩ := h₁
  exact at_store k (a.grow k g) hy hr hi fun h' tk a' q => z.on k a' ((Grow.keep2 g).trans q) hE hp
theorem bk_assign2 {y y' : Str} {e : Expr} {d : PyData} {p₁ p₂ pos rest} (hx : EvD c.prog c.w c.mg c.mb c.A c.env ρ [] e d) (hd : hf d = true) (hy : c.env.kindOf y = some .local) (hr : c.r ≠ y) (hy' : c.env.kindOf y' = some .local) (hr' : c.r ≠ y') (z : Bk c ((y', d) :: (y, d) :: ρ) x rest P Er)
    (he : (assignEach [.Name y p₁, .Name y' p₂] c.env).map (·.2) = [assign (.Name y p₁) c.env, assign (.Name y' p₂) c.env]) (hs : swappedStores [.Name y p₁, .Name y' p₂] e c.env = pure none) : Bk c ρ x (.Assign [.Name y p₁, .Name y' p₂] e pos :: rest) P Er := .mk fun k s E a hE hp => by
  refine wpAny_execs_cons (wpAny_Assign_two (wpAny_mono (hx.run s E a.fm) (fun v s₁ h₁ => ?_) fun _ _ q => q) he hs)
  obtain ⟨⟨h, tk, rfl, g⟩, hi⟩ := h₁
  refine wpAny_assign_Name (at_store k (a.grow k g) hy hr hi fun h' tk a' q => ?_)
  refine wpAny_assign_Name (at_store k a' hy' hr' (Is.hf hd hi) fun h'' tk' a'' q' => ?_)
  exact z.on k a'' (((Grow.keep2 g).trans q).trans q') hE hp
theorem bk_aug {y : Str} {e : Expr} {p q : Str} {pos' pos rest} (hpy : ρ.lookup y = some (.str p)) (hx : EvD c.prog c.w c.mg c.mb c.A c.env ρ [] e (.str q)) (hy : c.env.kindOf y = some .local) (hr : c.r ≠ y) (hz : p.length + q.length ≤ sizeLine)
    (z : Bk c ((y, .str (p ++ q)) :: ρ) x rest P Er) : Bk c ρ x (.AugAssign (.Name y pos') .Add e pos :: rest) P Er := .mk fun k s E a hE hp => by
  obtain ⟨m, hn, hm⟩ := a.fm.loc
  obtain ⟨v, hv, hi⟩ := hm y _ hpy
  obtain ⟨t, rfl⟩ := hi.str_inv
  refine wpAny_execs_cons (wpAny_AugAssign_Name (wpAny_loadName_local a.fm.kind hy hn hv (wpAny_mono (hx.run s E a.fm) (fun v s₁ h₁ => ?_) fun _ _ q => q)))
  obtain ⟨⟨h, tk, rfl, g⟩, hi⟩ := h₁
  obtain ⟨u, rfl⟩ := hi.str_inv
  refine PyProof.Rows.iadd_str (fun t' tk' => ?_) hz
  exact at_store k (a.grow k g) hy hr (Is.str _ _ _) fun h' tk a' q => z.on k a' ((Grow.keep2 g).trans q) hE hp
theorem bk_if {t : Expr} {body orelse pos rest} {b : Bool} (hx : EvT c.prog c.w c.mg c.mb c.A c.env ρ [] t b)
    (y : Bk c ρ x (if b then body else orelse) (Then c rest P Er) Er) : Bk c ρ x (.If t body orelse pos :: rest) P Er := .mk fun k s E a hE hp => by
  refine wpAny_execs_cons (wpAny_If (wpAny_mono (hx.run s E a.fm) (fun v s₁ h₁ => ?_) fun _ _ q => q))
  obtain ⟨⟨h, tk, rfl, g⟩, rfl⟩ := h₁
  have y' := y.on (s := s) k (tk₁ := tk) (a.grow k g) (Grow.keep2 g) hE hp
  have fin : ∀ (f : Flow) (s' : Shared), (∃ ρ' x' h' tk, s' = { s with heap := h', toks := tk } ∧ Keep2 c s.heap h' ∧ Then c rest P Er f ρ' x' ∧ At c ρ' x' h') →
      (match f with
        | .next => wpAny (model c.prog c.w) c.A (execs rest c.env) (fun f s' => ∃ ρ' x' h' tk, s' = { s with heap := h', toks := tk } ∧ Keep2 c s.heap h' ∧ P f ρ' x' ∧ At c ρ' x' h') E s'
        | f => ∃ ρ' x' h' tk, s' = { s with heap := h', toks := tk } ∧ Keep2 c s.heap h' ∧ P f ρ' x' ∧ At c ρ' x' h') := by
    rintro f s' ⟨ρ', x', h', tk, rfl, q, p, a'⟩
    cases f with
    | next => exact Bk.on p k a' q hE hp
    | cont => exact ⟨ρ', x', h', tk, rfl, q, p, a'⟩
    | brk => exact ⟨ρ', x', h', tk, rfl, q, p, a'⟩
    | ret v => exact ⟨ρ', x', h', tk, rfl, q, p, a'⟩
  cases v with
  | true =>
    simp only [if_true] at y' ⊢
    exact wpAny_mono y' fin fun _ _ q => q
  | false =>
    simp only [Bool.false_eq_true, if_false] at y' ⊢
    exact wpAny_mono y' fin fun _ _ q => q
end

/-! ## Loops -/
/-- a source whose items are free of the heap, and whose objects are the base's -/
structure SrcB (prog : Program) (w : World) (A : Around) (no : Addr → Prop) (v : Value) (h : Heap) (ds : List PyData) : Prop where
  run : ∀ (s : Shared) (E : Value → Shared → Prop) (Q : Value → Shared → Prop), s.heap = h →
    (∀ (o : Obj) (fp : List Addr) (P : Nat → Value → Prop) (St : Nat → Heap → Prop), Walks prog w A h.objs.size fp [h.objs.size] ds.length P St → (∀ b ∈ fp, b = h.objs.size ∨ ¬ no b) → St 0 (h.push o) →
      (∀ i h' o' xs n, St i h' → h'.get? h.objs.size = some o' → o'.data = .seq xs n → False) → (∀ i v, i < ds.length → P i v → ∃ d, ds[i]? = some d ∧ Is h v d) →
      Q (.ref h.objs.size) { s with heap := h.push o }) → wpAny (model prog w) A (pyIter v) Q E s
theorem srcB_str {prog : Program} {w : World} {A : Around} {no : Addr → Prop} {v : Value} {h : Heap} {x : Str} (hh : A.handled = none) (i : Is h v (.str x)) : SrcB prog w A no v h (x.cps.toList.map fun c => .str ⟨#[c]⟩) := .mk fun s E Q hs hQ => by
  obtain ⟨t, rfl⟩ := i.str_inv
  subst hs
  have hsz : x.cps.size = (x.cps.toList.map fun c => PyData.str ⟨#[c]⟩).length := by simp
  have key : ∀ (i : Nat) (v : Value), i < (x.cps.toList.map fun c => PyData.str ⟨#[c]⟩).length → SignAt x i v → ∃ d, (x.cps.toList.map fun c => PyData.str ⟨#[c]⟩)[i]? = some d ∧ Is s.heap v d := by
    rintro i v _ ⟨c, u, hc, rfl⟩
    exact ⟨.str ⟨#[c]⟩, by simp [hc], Is.str _ _ _⟩
  cases ha : x.cps.all (· < 128)
  · refine wpAny_pyIter_wide ha (hQ _ [s.heap.objs.size] _ _ (hsz ▸ Walks.strWide hh _ x t) (by simp) ⟨_, Heap.get?_push_size _ rfl, rfl, rfl⟩ ?_ key)
    rintro i h' o' xs n ⟨o, ho, _, hd⟩ e d
    rw [e] at ho; cases ho; rw [d] at hd; cases hd
  · refine wpAny_pyIter_ascii ha (hQ _ [s.heap.objs.size] _ _ (hsz ▸ Walks.strAscii hh _ x t) (by simp) ⟨_, Heap.get?_push_size _ rfl, rfl, rfl⟩ ?_ key)
    rintro i h' o' xs n ⟨o, ho, _, hd⟩ e d
    rw [e] at ho; cases ho; rw [d] at hd; cases hd
theorem srcB_list {prog : Program} {w : World} {A : Around} {no : Addr → Prop} {v : Value} {h : Heap} {ds : List PyData} (hh : A.handled = none) (hno : ∀ b o xs n, h.get? b = some o → o.data = .seq xs n → ¬ no b) (x : Is h v (.list ds)) : SrcB prog w A no v h ds := .mk fun s E Q hs hQ => by
  obtain ⟨a, vs', rfl, hl, hi⟩ := x.list_inv
  subst hs
  have hsz : vs'.size = ds.length := by simpa using hi.length
  have hlt : a < s.heap.objs.size := by obtain ⟨o, ho, _⟩ := hl; exact Heap.lt_size ho
  refine wpAny_pyIter_list hl (hQ _ [s.heap.objs.size, a] _ _ (hsz ▸ Walks.list hh s.heap.objs.size a (Nat.ne_of_lt hlt) vs') ?a ⟨⟨_, Heap.get?_push_size _ rfl, rfl, rfl⟩, ?b⟩ ?c ?d)
  case a =>
    intro b hb
    simp only [List.mem_cons, List.not_mem_nil, or_false] at hb
    rcases hb with rfl | rfl
    · exact .inl rfl
    · obtain ⟨o, ho, _, n, hd⟩ := hl
      exact .inr (hno _ _ _ _ ho hd)
  case b => exact hl.at fun o e => Heap.get?_push_of_some _ e
  case c =>
    rintro i h' o' xs n ⟨⟨o, ho, _, hd⟩, _⟩ e d
    rw [e] at ho; cases ho; rw [d] at hd; cases hd
  case d =>
    intro i v hlen hv
    obtain ⟨v', e, hi'⟩ := hi.get (i := i) (d := ds[i]) (by simp [hlen])
    refine ⟨ds[i], by simp [hlen], ?_⟩
    have : vs'.toList[i]? = vs'[i]? := by simp
    rw [this, hv] at e; cases e; exact hi'

section
variable {c : Cfg} {ρ : List (Str × PyData)} {x : c.τ} {P : Flow → List (Str × PyData) → c.τ → Prop} {Er : ErP c}

theorem bk_for {y : Str} {py pos : Pos} {iter : Expr} {body rest : List Stmt} {ds : List PyData} {Rs : Value → Heap → Prop} (Inv : Nat → List (Str × PyData) → c.τ → Prop)
    (hx : EvR c.prog c.w c.mg c.mb c.A c.env ρ [] iter Rs) (hs : ∀ v h, At c ρ x h → Rs v h → SrcB c.prog c.w c.A (fun b => b = c.env.locals ∨ b = c.D) v h ds) (hds : ∀ d ∈ ds, hf d = true) (hy : c.env.kindOf y = some .local) (hr : c.r ≠ y)
    (hDlt : ∀ x h, c.X x h → c.D < h.objs.size)
    (h0 : ∃ ρ', (∀ z d, ρ'.lookup z = some d → ρ.lookup z = some d) ∧ Inv 0 ρ' x)
    (hstep : ∀ i d ρ x, ds[i]? = some d → Inv i ρ x → Bk c ((y, d) :: ρ) x body (fun f ρ' x' => (f = .next ∨ f = .cont) ∧ ∃ ρ'', (∀ z d, ρ''.lookup z = some d → ρ'.lookup z = some d) ∧ Inv (i + 1) ρ'' x') Er)
    (hend : ∀ ρ x, Inv ds.length ρ x → Bk c ρ x rest P Er) (hfs : ∀ x, foldedSetIterable iter c.env x = pure x) :
    Bk c ρ x (.For (.Name y py) iter body [] pos :: rest) P Er := .mk fun k s E a hE hp => by
  refine wpAny_execs_cons (wpAny_For (wpAny_mono (hx.run s E a.fm) (fun v s₁ h₁ => ?_) fun _ _ q => q) hfs)
  obtain ⟨⟨h, tk, rfl, g⟩, hi⟩ := h₁
  have a₁ := a.grow k g
  have hDh : c.D < h.objs.size := hDlt _ _ a₁.x
  have hLh : c.env.locals < h.objs.size := by
    obtain ⟨m, hn, _⟩ := a₁.ns
    exact hn.lt
  refine (hs v _ a₁ hi).run _ E _ rfl fun o fp W St ww hfp hst hns hW => ?_
  dsimp only at *
  generalize hI : h.objs.size = I at *
  have hDI : c.D ≠ I := Nat.ne_of_lt hDh
  have hLI : c.env.locals ≠ I := Nat.ne_of_lt hLh
  have hb : c.base.objs.size ≤ I := Nat.le_trans k.hL (Nat.le_of_lt hLh)
  have gp : Grow h (h.push o) := Grow.push _ _
  have a₂ := a₁.grow k gp
  obtain ⟨ρ₀, hw₀, hI₀⟩ := h0
  -- the objects of the walk are kept by what a body does
  have fr : ∀ i h₁ h₂, St i h₁ → Keep2 c h₁ h₂ → St i h₂ := fun i h₁ h₂ st q => ww.frame _ _ _ st fun b hb o e => by
    rcases hfp b hb with hbI | hno
    · subst hbI; exact q _ o (Ne.symm hLI) (Ne.symm hDI) e
    · exact q b o (fun h => hno (.inl h)) (fun h => hno (.inr h)) e
  -- a turn of the iterator
  have turn : ∀ {ρ x h₁ h₂ i}, St i h₁ → (∀ b o, b ≠ I → h₁.get? b = some o → h₂.get? b = some o) → At c ρ x h₁ → At c ρ x h₂ := fun {ρ x h₁ h₂ i} st kp at₁ => by
    have g₂ : Grow c.base h₂ := fun b o e => kp b o (Nat.ne_of_lt (Nat.lt_of_lt_of_le (Heap.lt_size e) hb)) (at₁.gr b o e)
    have sq : SeqGrow h₁ h₂ := fun b o xs n e q => kp b o (by rintro rfl; exact hns i h₁ o xs n st e q) e
    obtain ⟨m, hn, hm⟩ := at₁.fm.loc
    refine ⟨⟨k.gb.grow g₂, at₁.fm.kind, at₁.fm.glo, at₁.fm.blt, ⟨m, hn.at' fun o e => kp _ o hLI e, fun z d e => let ⟨v, p, q⟩ := hm z d e; ⟨v, p, q.seq sq⟩⟩, fun z d e => by simp at e⟩, g₂, ?_, k.keep _ _ _ (fun o e => kp _ o hDI e) at₁.x⟩
    obtain ⟨m', hn', e⟩ := at₁.ns
    exact ⟨m', hn'.at' fun o e => kp _ o hLI e, e⟩
  refine codeAny_forLoop
    (fun n s' => ∃ h' tk ρ' x' i, s' = { s with heap := h', toks := tk } ∧ (∀ b o, b ≠ c.env.locals → b ≠ c.D → h.get? b = some o → h'.get? b = some o) ∧ St i h' ∧ At c ρ' x' h' ∧ Inv i ρ' x' ∧ i ≤ ds.length ∧ n = ds.length + 1 - i) ?_ (ds.length + 1)
    ⟨h.push o, tk, ρ₀, x, 0, rfl, fun b o' _ _ e => gp b o' e, hst, a₂.weak hw₀, hI₀, Nat.zero_le _, rfl⟩
  rintro n s' ⟨h₁, tk₁, ρ₁, x₁, i, rfl, kp₁, st₁, at₁, inv₁, hi, rfl⟩
  by_cases hlt : i < ds.length
  · refine ww.item i _ _ _ hlt st₁ fun u h₂ tk₂ hPu st₂ hk₂ => ?_
    have kp : ∀ b o, b ≠ I → h₁.get? b = some o → h₂.get? b = some o := fun b o hb e => hk₂ b o (by simpa using hb) e
    obtain ⟨d, hd, hdi⟩ := hW i u hlt hPu
    have at₂ := turn st₁ kp at₁
    refine wpAny_passesOwn hp (wpAny_assign_Name (at_store (d := d) k at₂ hy hr (Is.hf (hds d (List.mem_of_getElem? hd)) hdi) fun h₃ tk₃ at₃ q₃ => ?_))
    refine wpAny_passesOwn hp (wpAny_mono ((hstep i d ρ₁ x₁ hd inv₁).run k _ E at₃ (fun e h' tk r => hE e h' tk r) hp) (fun f s₄ q₄ => ?_) fun _ _ q => q)
    obtain ⟨ρ₄, x₄, h₄, tk₄, rfl, q₄, ⟨hf, ρ₅, hw₅, inv₅⟩, at₄⟩ := q₄
    have st₄ : St (i + 1) h₄ := fr _ _ _ st₂ (q₃.trans q₄)
    have fin : ∃ m, m < ds.length + 1 - i ∧ ∃ h' tk ρ' x' i, ({ s with heap := h₄, toks := tk₄ } : Shared) = { s with heap := h', toks := tk } ∧ (∀ b o, b ≠ c.env.locals → b ≠ c.D → h.get? b = some o → h'.get? b = some o) ∧ St i h' ∧ At c ρ' x' h' ∧ Inv i ρ' x' ∧ i ≤ ds.length ∧ m = ds.length + 1 - i := by
      refine ⟨ds.length + 1 - (i + 1), by omega, h₄, tk₄, ρ₅, x₄, i + 1, rfl, fun b o' hb1 hb2 e => ?_, st₄, at₄.weak hw₅, inv₅, hlt, rfl⟩
      exact q₄ b o' hb1 hb2 (q₃ b o' hb1 hb2 (kp b o' (Nat.ne_of_lt (hI ▸ Heap.lt_size e)) (kp₁ b o' hb1 hb2 e)))
    rcases hf with rfl | rfl <;> exact fin
  · have hin : i = ds.length := by omega
    subst hin
    refine ww.done _ _ _ st₁ fun h₂ tk₂ hk₂ => wpAny_execs_nil ?_
    have kp : ∀ b o, b ≠ I → h₁.get? b = some o → h₂.get? b = some o := fun b o hb e => hk₂ b o (by simpa using hb) e
    have at₂ := turn st₁ kp at₁
    refine (hend ρ₁ x₁ inv₁).on (s := s) k at₂ ?_ hE hp
    intro b o' hb1 hb2 e
    exact kp b o' (Nat.ne_of_lt (hI ▸ Heap.lt_size (g b o' e))) (kp₁ b o' hb1 hb2 (g b o' e))
end
end Ny

namespace Ny
open PySem PySem.W PySem.Calls PyProof.Rows

/-! ## What parse_http_list computes -/
structure Hs where
  part : List Nat
  esc : Bool
  quo : Bool
  res : List (List Nat)
def httpStep (s : Hs) (c : Nat) : Hs :=
  if s.esc then { s with part := s.part ++ [c], esc := false }
  else if s.quo then
    if c = 92 then { s with esc := true }
    else if c = 34 then { s with part := s.part ++ [c], quo := false }
    else { s with part := s.part ++ [c] }
  else if c = 44 then { s with part := [], res := s.res ++ [s.part] }
  else if c = 34 then { s with part := s.part ++ [c], quo := true }
  else { s with part := s.part ++ [c] }
def httpRun (cs : List Nat) : Hs := cs.foldl httpStep ⟨[], false, false, []⟩
def httpEnd (s : Hs) : List (List Nat) := if s.part.isEmpty then s.res else s.res ++ [s.part]
def stripL (l : List Nat) : List Nat := (Txt.strip (S l)).cps.toList
def httpL (cs : List Nat) : List (List Nat) := (httpEnd (httpRun cs)).map stripL

theorem httpRun_snoc (cs : List Nat) (c : Nat) : httpRun (cs ++ [c]) = httpStep (httpRun cs) c := by simp [httpRun]
theorem httpStep_le (s : Hs) (c : Nat) : (httpStep s c).part.length ≤ s.part.length + 1 ∧ (httpStep s c).res.length ≤ s.res.length + 1 := by
  unfold httpStep
  repeat' split
  all_goals simp
theorem httpRun_le (cs : List Nat) : (httpRun cs).part.length ≤ cs.length ∧ (httpRun cs).res.length ≤ cs.length := by
  have key : ∀ (cs : List Nat) (s : Hs) (n : Nat), s.part.length ≤ n ∧ s.res.length ≤ n → (cs.foldl httpStep s).part.length ≤ n + cs.length ∧ (cs.foldl httpStep s).res.length ≤ n + cs.length := by
    intro cs
    induction cs with
    | nil => intro s n h; simpa using h
    | cons c cs ih =>
      intro s n h
      have h1 := httpStep_le s c
      have := ih (httpStep s c) (n + 1) ⟨by omega, by omega⟩
      simp only [List.foldl_cons, List.length_cons]
      omega
  have := key cs ⟨[], false, false, []⟩ 0 ⟨by simp, by simp⟩
  simpa [httpRun] using this

theorem httpRun_parts (cs : List Nat) : ∀ p ∈ (httpRun cs).res, p.length ≤ cs.length := by
  have key : ∀ (cs : List Nat) (s : Hs) (n : Nat), s.part.length ≤ n ∧ (∀ p ∈ s.res, p.length ≤ n) → ∀ p ∈ (cs.foldl httpStep s).res, p.length ≤ n + cs.length := by
    intro cs
    induction cs with
    | nil => intro s n h; simpa using h.2
    | cons c cs ih =>
      intro s n h p hp
      have h1 := (httpStep_le s c).1
      have h2 : ∀ p ∈ (httpStep s c).res, p.length ≤ n + 1 := by
        intro q hq
        unfold httpStep at hq
        repeat' split at hq
        all_goals first
          | (have := h.2 q hq; omega)
          | (rcases List.mem_append.mp hq with hq | hq
             · have := h.2 q hq; omega
             · rw [List.mem_singleton] at hq; subst hq; omega)
      have := ih (httpStep s c) (n + 1) ⟨by omega, h2⟩ p hp
      rw [List.length_cons]; omega
  have := key cs ⟨[], false, false, []⟩ 0 ⟨by simp, by simp⟩
  simpa [httpRun] using this
theorem httpEnd_parts (cs : List Nat) : ∀ p ∈ httpEnd (httpRun cs), p.length ≤ cs.length := by
  intro p hp
  unfold httpEnd at hp
  split at hp
  · exact httpRun_parts cs p hp
  · rcases List.mem_append.mp hp with h | h
    · exact httpRun_parts cs p h
    · rw [List.mem_singleton] at h; subst h; exact (httpRun_le cs).1

theorem S_app (a b : List Nat) : S a ++ S b = S (a ++ b) := by
  apply Str.ext'
  simp [Str.cps_append]
theorem S_toList (x : Str) : S x.cps.toList = x := by cases x; simp [S]

section
variable {prog : Program} {w : World} {mg mb : Str → Option Value} {A : Around} {env : Env} {ρ κ : List (Str × PyData)}
theorem evt_strT {e : Expr} {x : Str} (h : EvD prog w mg mb A env ρ κ e (.str x)) (hz : x.length ≤ sizeLine) (he : ∀ whole, isTrue e env whole = (do let v ← whole; standAt e.pos; holding [v] (truthy v)) := by intro; rfl) :
    EvT prog w mg mb A env ρ κ e (!x.cps.toList.isEmpty) := .mk fun s E F =>
  wpAny_isTrue_value (wpAny_mono (h.run s E F) (fun v s₁ h₁ => by
    obtain ⟨t, rfl⟩ := h₁.2.str_inv
    have e1 : ((x.length : Int) != 0) = !x.cps.toList.isEmpty := by
      cases x with | mk a => cases a with | mk l => cases l <;> simp [Str.length] <;> omega
    refine PySem.P.truthy_str ?_ ⟨h₁.1.trans (Kp.tok s₁ _), e1⟩
    have : sizeLine = 2 ^ 24 := rfl
    omega) fun _ _ q => q) (he _)

theorem ev_strip {o : Expr} {apos pos : Pos} {x : Str} (ho : EvD prog w mg mb A env ρ κ o (.str x)) (hx : x.length ≤ sizeLine)
    (h1 : attributeBase o "strip" env (eval o env) = eval o env) (h3 : (apos.endLine == pos.line) = true) :
    EvD prog w mg mb A env ρ κ (.Call (.Attribute o "strip" apos) [] [] pos) (.str (Txt.strip x)) := .mk fun s E F => by
  refine Call_method0 h1 h3 (wpAny_mono (ho.run s E F) (fun v s₁ h₁ => ?_) fun _ _ q => q)
  obtain ⟨t, rfl⟩ := h₁.2.str_inv
  exact SB.strip (fun t' k => ⟨h₁.1.trans (Kp.tok s₁ _), Is.str _ _ _⟩) hx

/-- res.append(e) -/
theorem bk_append {prog : Program} {w : World} {mg mb : Str → Option Value} {A : Around} {env : Env} {base : Heap} {r : Str} {D : Addr} {ρ : List (Str × PyData)} {x : List Str}
    {P : Flow → List (Str × PyData) → List Str → Prop} {Er : Value → Heap → Prop} {e : Expr} {p : Str} {rp apos cpos epos : Pos} {rest : List Stmt}
    (hρ : ρ.all (fun q => hf q.2) = true) (hx : EvD prog w mg mb A env ρ [] e (.str p)) (hl : env.kindOf r = some .local) (hd : (r == ("__debug__" : Str)) = false) (hz : x.length ≤ sizeLine)
    (y : Bk ⟨prog, w, mg, mb, A, env, base, r, D, List Str, fun l h => ∃ vs : List (Str × Tok), vs.map (·.1) = l ∧ h.PlainList D (strValues vs).toArray⟩ ρ (x ++ [p]) rest P Er)
    (h1 : attributeBase (.Name r rp) "append" env (eval (.Name r rp) env) = eval (.Name r rp) env)
    (h2 : ((backTo cpos (starEach [e] env)).all (fun x => !x.1) && (backToKw cpos (keywordEach [] env)).all (fun x => x.1.isSome) && decide (([e] : List Expr).length + ([] : List Keyword).length + (if ([] : List Keyword).isEmpty then 0 else 1) < 30)) = true)
    (h3 : (apos.endLine == cpos.line) = true) (h4 : backTo cpos (starEach [e] env) = [(false, eval e env)]) (hi : interactive env = false) (hs : swapsWith (.Call (.Attribute (.Name r rp) "append" apos) [e] [] cpos) none epos.line env = pure false) :
    Bk ⟨prog, w, mg, mb, A, env, base, r, D, List Str, fun l h => ∃ vs : List (Str × Tok), vs.map (·.1) = l ∧ h.PlainList D (strValues vs).toArray⟩ ρ x (.Expr (.Call (.Attribute (.Name r rp) "append" apos) [e] [] cpos) epos :: rest) P Er := .mk fun k s E a hE hp => by
  refine wpAny_execs_cons (wpAny_Expr_any (wpAny_Call_append h1 h2 h3 h4 ?_) hi hs)
  obtain ⟨m, hn, hm⟩ := a.ns
  obtain ⟨vs, hvs, hpl⟩ := a.x
  have ⟨n, hob⟩ := hpl
  refine wpAny_Name (wpAny_loadName_local a.fm.kind hl hn hm ⟨D, _, rfl, ⟨_, n, hob, rfl, rfl, rfl⟩, ?_⟩) hd
  refine wpAny_mono (hx.run s E a.fm) (fun v s₁ q₁ => ?_) fun _ _ q => q
  obtain ⟨⟨h, tk, rfl, g⟩, hi⟩ := q₁
  obtain ⟨t, rfl⟩ := hi.str_inv
  have a₁ := a.grow k g
  have hsz : (strValues vs).toArray.size ≤ sizeLine := by
    have : vs.length = x.length := by rw [← hvs]; simp
    simp [strValues, this]; exact hz
  refine wpAny_list_append_plain (hsz := hsz) (hpl.at fun o e => g _ o e) fun h' hpl' hsb => ?_
  have hne : D ≠ env.locals := k.ne
  refine y.on (s := s) k (h₁ := h') ⟨?_, ?_, ?_, ⟨vs ++ [(p, t)], by simp [hvs], ?_⟩⟩ ?_ hE hp
  · have g' : Grow base h' := fun b o e => hsb.extBut b o (Nat.ne_of_lt (Nat.lt_of_lt_of_le (Heap.lt_size e) k.hD)) (a₁.gr b o e)
    obtain ⟨m', hn', hm'⟩ := a₁.fm.loc
    refine ⟨k.gb.grow g', a₁.fm.kind, a₁.fm.glo, a₁.fm.blt, ⟨m', hn'.sameBut hsb (Ne.symm hne), fun z d e => ?_⟩, fun z d e => by simp at e⟩
    obtain ⟨v', e1, e2⟩ := hm' z d e
    refine ⟨v', e1, Is.hf ?_ e2⟩
    rw [List.all_eq_true] at hρ
    exact hρ (z, d) (PySem.mem_of_lookup e)
  · exact fun b o e => hsb.extBut b o (Nat.ne_of_lt (Nat.lt_of_lt_of_le (Heap.lt_size e) k.hD)) (a₁.gr b o e)
  · obtain ⟨m', hn', hm'⟩ := a₁.ns
    exact ⟨m', hn'.sameBut hsb (Ne.symm hne), hm'⟩
  · have e : (strValues (vs ++ [(p, t)])).toArray = (strValues vs).toArray.push (.str p t) := by simp [strValues]
    rw [e]; exact hpl'
  · exact fun b o _ hb2 e => hsb.extBut b o hb2 (g b o e)

theorem beq_sign (c n : Nat) : ((⟨#[c]⟩ : Str) == ⟨#[n]⟩) = decide (c = n) := by
  show (((⟨#[c]⟩ : Str)) == (⟨#[n]⟩ : Str)) = _
  by_cases h : c = n
  · subst h; simp
  · have : ¬ ((⟨#[c]⟩ : Str) = ⟨#[n]⟩) := fun e => h (by injection e with e; simpa using e)
    simp [h, this]

def httpBody : List Stmt := match bodyAt 2 with
  | [_, _, _, .For _ _ b _ _, _, _] => b
  | _ => []

def httpCfg (prog : Program) (w : World) (mg mb : Str → Option Value) (A : Around) (env : Env) (base : Heap) (D : Addr) : Cfg :=
  ⟨prog, w, mg, mb, A, env, base, "res", D, List Str, fun l h => ∃ vs : List (Str × Tok), vs.map (·.1) = l ∧ h.PlainList D (strValues vs).toArray⟩

def hsVars (s : Hs) : List (Str × PyData) := [("part", .str (S s.part)), ("escape", .bool s.esc), ("quote", .bool s.quo)]

def lookupsB (l₁ l₂ : List (Str × PyData)) : Prop := ∀ x ∈ l₁, l₂.lookup x.1 = l₁.lookup x.1
theorem lookups_of (l₁ l₂ : List (Str × PyData)) (h : (l₁.map fun x => l₂.lookup x.1) = (l₁.map fun x => l₁.lookup x.1)) : ∀ z d, l₁.lookup z = some d → l₂.lookup z = some d := by
  intro z d e
  have hm := PySem.mem_of_lookup e
  have key : ∀ (l : List (Str × PyData)), (l.map fun x => l₂.lookup x.1) = (l.map fun x => l₁.lookup x.1) → (z, d) ∈ l → l₂.lookup z = l₁.lookup z := by
    intro l
    induction l with
    | nil => intro _ h; cases h
    | cons x l ih =>
      intro h1 h2
      simp only [List.map_cons, List.cons.injEq] at h1
      rcases List.mem_cons.mp h2 with rfl | h2
      · exact h1.1
      · exact ih h1.2 h2
  exact (key l₁ h hm).trans e

theorem http_step {base : Heap} {D L a : Addr} {cd : Value} (s : Hs) (c : Nat) (hz : s.part.length + 1 ≤ sizeLine) (hz2 : s.res.length ≤ sizeLine) (Er : Value → Heap → Prop) :
    Bk (httpCfg prog w mg mb A (envOf (nameAt 2) (scopeAt 2) L a cd) base D) (("cur", .str ⟨#[c]⟩) :: hsVars s) (s.res.map S) httpBody
      (fun f ρ' x' => (f = .next ∨ f = .cont) ∧ ∃ ρ'', (∀ z d, ρ''.lookup z = some d → ρ'.lookup z = some d) ∧ ρ'' = hsVars (httpStep s c) ∧ x' = (httpStep s c).res.map S) Er := by
  obtain ⟨part, esc, quo, res⟩ := s
  have eS : S part ++ (⟨#[c]⟩ : Str) = S (part ++ [c]) := S_app part [c]
  have hlen : (S part).length + (⟨#[c]⟩ : Str).length ≤ sizeLine := by simpa [S, Str.length] using hz
  have rp : ("res" : Str) ≠ "part" := by decide
  have re : ("res" : Str) ≠ "escape" := by decide
  have rq : ("res" : Str) ≠ "quote" := by decide
  refine bk_if (b := esc) (evt_value ?e1) ?_
  case e1 => exact ev_local (by rfl) (by rfl) (by decide)
  cases esc with
  | true =>
    refine bk_aug (p := S part) (q := ⟨#[c]⟩) ?l ?x ?k rp hlen (bk_assign (d := .bool false) ev_bool ?k2 re (bk_cont ?p) ?s)
    case l => rfl
    case x => exact ev_local (by rfl) (by rfl) (by decide)
    case k => rfl
    case k2 => rfl
    case s => rfl
    case p =>
      refine ⟨.inr rfl, hsVars ⟨part ++ [c], false, quo, res⟩, ?_, by simp [httpStep], by simp [httpStep]; rfl⟩
      rw [eS]
      exact lookups_of _ _ (by rfl)
  | false =>
    refine bk_nil ?_
    show Bk _ _ _ _ _ _
    refine bk_if (b := quo) (evt_value ?e2) ?_
    case e2 => exact ev_local (by rfl) (by rfl) (by decide)
    cases quo with
    | true =>
      refine bk_if (b := decide (c = 92)) ?e3 ?_
      case e3 =>
        rw [← beq_sign]
        exact evt_eqS (ev_local (by rfl) (by rfl) (by decide)) ev_str
      by_cases h92 : c = 92
      · rw [decide_eq_true h92]
        refine bk_assign (d := .bool true) ev_bool ?k3 re (bk_cont ?p3) ?s3
        case k3 => rfl
        case s3 => rfl
        case p3 =>
          refine ⟨.inr rfl, hsVars ⟨part, true, true, res⟩, ?_, by simp [httpStep, h92], by simp [httpStep, h92]; rfl⟩
          exact lookups_of _ _ (by rfl)
      · rw [decide_eq_false h92]
        refine bk_if (b := decide (c = 34)) ?e4 ?_
        case e4 =>
          rw [← beq_sign]
          exact evt_eqS (ev_local (by rfl) (by rfl) (by decide)) ev_str
        by_cases h34 : c = 34
        · rw [decide_eq_true h34]
          refine bk_assign (d := .bool false) ev_bool ?k5 rq (bk_nil ?p5) ?s5
          case k5 => rfl
          case s5 => rfl
          case p5 =>
            show Bk _ _ _ _ _ _
            refine bk_nil ?_
            show Bk _ _ _ _ _ _
            refine bk_aug (p := S part) (q := ⟨#[c]⟩) ?l6 ?x6 ?k6 rp hlen (bk_cont ?p6)
            case l6 => rfl
            case x6 => exact ev_local (by rfl) (by rfl) (by decide)
            case k6 => rfl
            case p6 =>
              refine ⟨.inr rfl, hsVars ⟨part ++ [c], false, false, res⟩, ?_, by simp [httpStep, h34], by simp [httpStep, h34]; rfl⟩
              rw [eS]
              exact lookups_of _ _ (by rfl)
        · rw [decide_eq_false h34]
          refine bk_nil ?_
          show Bk _ _ _ _ _ _
          refine bk_nil ?_
          show Bk _ _ _ _ _ _
          refine bk_aug (p := S part) (q := ⟨#[c]⟩) ?l7 ?x7 ?k7 rp hlen (bk_cont ?p7)
          case l7 => rfl
          case x7 => exact ev_local (by rfl) (by rfl) (by decide)
          case k7 => rfl
          case p7 =>
            refine ⟨.inr rfl, hsVars ⟨part ++ [c], false, true, res⟩, ?_, by simp [httpStep, h34, h92], by simp [httpStep, h34, h92]; rfl⟩
            rw [eS]
            exact lookups_of _ _ (by rfl)
    | false =>
      refine bk_nil ?_
      show Bk _ _ _ _ _ _
      refine bk_if (b := decide (c = 44)) ?e8 ?_
      case e8 =>
        rw [← beq_sign]
        exact evt_eqS (ev_local (by rfl) (by rfl) (by decide)) ev_str
      by_cases h44 : c = 44
      · rw [decide_eq_true h44]
        refine bk_append (p := S part) ?a1 ?a2 ?a3 ?a4 ?a5 (bk_assign (d := .str (S [])) ?a6 ?a7 rp (bk_cont ?a8) ?a9) ?b1 ?b2 ?b3 ?b4 ?b5 ?b6
        case a1 => rfl
        case a2 => exact ev_local (by rfl) (by rfl) (by decide)
        case a3 => rfl
        case a4 => decide
        case a5 => simpa using hz2
        case a6 => exact ev_str
        case a7 => rfl
        case a9 => rfl
        case b1 => rfl
        case b2 => rfl
        case b3 => rfl
        case b4 => rfl
        case b5 => rfl
        case b6 => rfl
        case a8 =>
          refine ⟨.inr rfl, hsVars ⟨[], false, false, res ++ [part]⟩, ?_, by simp [httpStep, h44], by simp [httpStep, h44]; rfl⟩
          exact lookups_of _ _ (by rfl)
      · rw [decide_eq_false h44]
        refine bk_nil ?_
        show Bk _ _ _ _ _ _
        refine bk_if (b := decide (c = 34)) ?e9 ?_
        case e9 =>
          rw [← beq_sign]
          exact evt_eqS (ev_local (by rfl) (by rfl) (by decide)) ev_str
        by_cases h34 : c = 34
        · rw [decide_eq_true h34]
          refine bk_assign (d := .bool true) ev_bool ?k5 rq (bk_nil ?p5) ?s5
          case k5 => rfl
          case s5 => rfl
          case p5 =>
            show Bk _ _ _ _ _ _
            refine bk_aug (p := S part) (q := ⟨#[c]⟩) ?l6 ?x6 ?k6 rp hlen (bk_nil ?p6)
            case l6 => rfl
            case x6 => exact ev_local (by rfl) (by rfl) (by decide)
            case k6 => rfl
            case p6 =>
              refine ⟨.inl rfl, hsVars ⟨part ++ [c], false, true, res⟩, ?_, by simp [httpStep, h34], by simp [httpStep, h34]; rfl⟩
              rw [eS]
              exact lookups_of _ _ (by rfl)
        · rw [decide_eq_false h34]
          refine bk_nil ?_
          show Bk _ _ _ _ _ _
          refine bk_aug (p := S part) (q := ⟨#[c]⟩) ?l7 ?x7 ?k7 rp hlen (bk_nil ?p7)
          case l7 => rfl
          case x7 => exact ev_local (by rfl) (by rfl) (by decide)
          case k7 => rfl
          case p7 =>
            refine ⟨.inl rfl, hsVars ⟨part ++ [c], false, false, res⟩, ?_, by simp [httpStep, h34, h44], by simp [httpStep, h34, h44]; rfl⟩
            rw [eS]
            exact lookups_of _ _ (by rfl)

theorem execs_app (b₁ b₂ : List Stmt) (env : Env) : execs (b₁ ++ b₂) env = (execs b₁ env >>= fun f => match f with | .next => execs b₂ env | f => pure f) := by
  induction b₁ with
  | nil => rw [List.nil_append, execs_nil, pure_bind]
  | cons st r ih =>
    rw [List.cons_append, execs_cons, execs_cons, bind_assoc]
    congr 1
    funext f
    cases f with
    | next => exact ih
    | cont => rw [pure_bind]
    | brk => rw [pure_bind]
    | ret v => rw [pure_bind]
theorem wpAny_execs_app {M : Model} {A : Around} {E : Value → Shared → Prop} {s : Shared} {env : Env} {b₁ b₂ : List Stmt} {Q : Flow → Shared → Prop}
    (h : wpAny M A (execs b₁ env) (fun f s' => match f with | .next => wpAny M A (execs b₂ env) Q E s' | f => Q f s') E s) : wpAny M A (execs (b₁ ++ b₂) env) Q E s := by
  rw [execs_app]
  refine wpAny_bind (wpAny_mono h (fun f s' q => ?_) fun _ _ q => q)
  cases f with
  | next => exact q
  | cont => exact wpAny_pure q
  | brk => exact wpAny_pure q
  | ret v => exact wpAny_pure q

def httpMid : List Stmt := ((bodyAt 2).drop 1).take 4
def httpRet : List Stmt := (bodyAt 2).drop 5
theorem http_body : bodyAt 2 = .Assign [.Name "res" ⟨11, 4, 11, 7⟩] (.List [] ⟨11, 10, 11, 12⟩) ⟨11, 4, 11, 12⟩ :: (httpMid ++ httpRet) := by kernel_rfl

theorem http_mid {base : Heap} {D L a : Addr} {cd : Value} (hh : A.handled = none) (x : Str) (hz : x.length ≤ 100000) (Er : Value → Heap → Prop) :
    Bk (httpCfg prog w mg mb A (envOf (nameAt 2) (scopeAt 2) L a cd) base D) [("s", .str x)] [] httpMid
      (fun f ρ' x' => f = .next ∧ x' = (httpEnd (httpRun x.cps.toList)).map S) Er := by
  have rp : ("res" : Str) ≠ "part" := by decide
  have re : ("res" : Str) ≠ "escape" := by decide
  have rq : ("res" : Str) ≠ "quote" := by decide
  have rc : ("res" : Str) ≠ "cur" := by decide
  have hxl : x.cps.toList.length = x.length := by simp [Str.length]
  have hsl : sizeLine = 16777216 := rfl
  refine bk_assign (d := .str (S [])) ?a1 ?a2 rp (bk_assign2 (d := .bool false) ev_bool ?a3 ?a4 re ?a5 rq ?_ ?a6 ?a7) ?a8
  case a1 => exact ev_str
  case a2 => rfl
  case a3 => rfl
  case a4 => rfl
  case a5 => rfl
  case a6 => rfl
  case a7 => rfl
  case a8 => rfl
  refine bk_for (ds := x.cps.toList.map fun c => .str ⟨#[c]⟩) (fun i ρ l => ρ = hsVars (httpRun (x.cps.toList.take i)) ∧ l = (httpRun (x.cps.toList.take i)).res.map S) (Rs := fun v h => Is h v (.str x)) ?b1 (fun v h _ i => srcB_str hh i) ?b2 ?b3 rc ?b4 ?b5 ?b6 ?b7 ?b8
  case b1 => exact ev_local (by rfl) (by rfl) (by decide)
  case b2 => intro d hd; obtain ⟨c, _, rfl⟩ := List.mem_map.mp hd; rfl
  case b3 => rfl
  case b4 => rintro y h ⟨vs, _, n, e⟩; exact Heap.lt_size e
  case b5 => exact ⟨hsVars (httpRun []), lookups_of _ _ (by rfl), by simp, rfl⟩
  case b8 => intro _; rfl
  case b6 =>
    rintro i d ρ l hd ⟨rfl, rfl⟩
    rw [List.getElem?_map] at hd
    obtain ⟨c, hc, rfl⟩ := Option.map_eq_some_iff.mp hd
    have e : httpRun (x.cps.toList.take (i + 1)) = httpStep (httpRun (x.cps.toList.take i)) c := by
      rw [List.take_add_one, hc]; exact httpRun_snoc _ _
    rw [e]
    have hb := httpRun_le (x.cps.toList.take i)
    have ht : (x.cps.toList.take i).length ≤ x.length := by rw [List.length_take, hxl]; omega
    exact http_step _ c (by omega) (by omega) Er
  case b7 =>
    rintro ρ l ⟨rfl, rfl⟩
    have e : x.cps.toList.take (x.cps.toList.map fun c => PyData.str ⟨#[c]⟩).length = x.cps.toList := by rw [List.length_map]; exact List.take_length
    rw [e]
    have hb := httpRun_le x.cps.toList
    generalize httpRun x.cps.toList = s at *
    obtain ⟨part, esc, quo, res⟩ := s
    dsimp only at hb
    refine bk_if (b := !part.isEmpty) ?c1 ?_
    case c1 =>
      have := evt_strT (prog := prog) (w := w) (mg := mg) (mb := mb) (A := A) (env := envOf (nameAt 2) (scopeAt 2) L a cd) (ρ := hsVars ⟨part, esc, quo, res⟩) (κ := []) (e := .Name "part" ⟨34, 7, 34, 11⟩) (x := S part) (ev_local (by rfl) (by rfl) (by decide)) (by simp [S, Str.length]; omega)
      exact this
    cases part with
    | nil =>
      refine bk_nil ?_
      show Bk _ _ _ _ _ _
      exact bk_nil ⟨rfl, by simp [httpEnd]; rfl⟩
    | cons c part =>
      refine bk_append (p := S (c :: part)) ?a1 ?a2 ?a3 ?a4 ?a5 (bk_nil ?a8) ?b1 ?b2 ?b3 ?b4 ?b5 ?b6
      case a1 => rfl
      case a2 => exact ev_local (by rfl) (by rfl) (by decide)
      case a3 => rfl
      case a4 => decide
      case a5 => simp; omega
      case b1 => rfl
      case b2 => rfl
      case b3 => rfl
      case b4 => rfl
      case b5 => rfl
      case b6 => rfl
      case a8 =>
        show Bk _ _ _ _ _ _
        exact bk_nil ⟨rfl, by simp [httpEnd]; rfl⟩

theorem con_http (x : Str) (hz : x.length ≤ 100000) : ConD prog w mg mb 0 2 [.str x] (.list ((httpL x.cps.toList).map fun l => .str (S l))) := by
  refine con_of (ps := ["s"]) (by decide) (fun vs hv pm cd doc => ?_) rfl (by decide +kernel) (by decide) rfl rfl rfl (by decide +kernel) fun A base L a cd hA => ?_
  · match vs, hv with
    | [v], _ => rfl
  have hxl : x.cps.toList.length = x.length := by simp [Str.length]
  have hsl : sizeLine = 16777216 := rfl
  refine .mk fun gb hL s E F g => ?_
  rw [http_body]
  refine wpAny_execs_cons (wpAny_Assign_Name (wpAny_List (wpAny_items_nil ⟨Nat.zero_le _, ?_⟩)) (by rfl))
  generalize hD : s.heap.objs.size = D
  generalize hH : s.heap.push { cls := .type "list", dict := none, data := .seq ([] : List Value).toArray } = H
  have gp : Grow s.heap H := hH ▸ Grow.push _ _
  have hpl : H.PlainList D #[] := ⟨_, by rw [← hH, ← hD]; exact Heap.get?_push_size _ rfl⟩
  have F₁ := F.grow gp
  obtain ⟨m, hn, hm⟩ := F₁.loc
  refine wpAny_storeName_local (by rfl) hn (fun h' hn' hs => ?_) (by rw [F₁.kind]; rfl)
  have hLlt : (envOf (nameAt 2) (scopeAt 2) L a cd).locals < D := by
    obtain ⟨m₀, hn₀, _⟩ := F.loc
    rw [← hD]; exact hn₀.lt
  have hDb : base.objs.size ≤ D := Nat.le_trans hL (Nat.le_of_lt hLlt)
  have g' : Grow base h' := grow_sameBut (g.trans gp) hL hs
  have sq := seqGrow_of_sameBut hn hs
  obtain ⟨vx, hvx, hix⟩ := hm "s" (.str x) (by rfl)
  have ok : (httpCfg prog w mg mb (A.deeper (envOf (nameAt 2) (scopeAt 2) L a cd)) (envOf (nameAt 2) (scopeAt 2) L a cd) base D).Ok := by
    refine ⟨gb, hL, hDb, Nat.ne_of_gt hLlt, ?_⟩
    rintro y h h'' kp ⟨vs, e1, e2⟩
    exact ⟨vs, e1, e2.at kp⟩
  have at₀ : At (httpCfg prog w mg mb (A.deeper (envOf (nameAt 2) (scopeAt 2) L a cd)) (envOf (nameAt 2) (scopeAt 2) L a cd) base D) [("s", .str x)] [] h' := by
    refine ⟨⟨gb.grow g', F₁.kind, F₁.glo, F₁.blt, ⟨_, hn', fun z d e => ?_⟩, fun z d e => by simp at e⟩, g', ⟨_, hn', if_pos rfl⟩, ⟨[], rfl, hpl.at fun o e => hs.extBut D o (Nat.ne_of_gt hLlt) e⟩⟩
    obtain ⟨v', e1, e2⟩ := hm z d e
    refine ⟨v', ?_, e2.seq sq⟩
    have hz' : z ≠ "res" := by
      rintro rfl
      rw [List.lookup_cons, show (("res" : Str) == "s") = false from by decide] at e
      simp at e
    exact (if_neg hz').trans e1
  refine wpAny_execs_app (wpAny_mono ((http_mid (A := A.deeper (envOf (nameAt 2) (scopeAt 2) L a cd)) hA.handled x hz (fun _ _ => False)).run ok { s with heap := h', toks := _ } (fun _ _ => False) at₀ (fun _ _ _ f => f.elim) PassesOwn.never) (fun f s₂ q => ?_) fun _ _ q => q.elim)
  obtain ⟨ρ', x', h₂, tk₂, rfl, q₂, ⟨rfl, rfl⟩, at₂⟩ := q
  dsimp only
  obtain ⟨m₂, hn₂, hr₂⟩ := at₂.ns
  obtain ⟨vs, hvs, hpl₂⟩ := at₂.x
  have hbig := httpRun_le x.cps.toList
  have hel : (httpEnd (httpRun x.cps.toList)).length ≤ 100001 := by
    unfold httpEnd; split
    · omega
    · rw [List.length_append, List.length_singleton]; omega
  have hres : Is h₂ (.ref D) (.list ((httpEnd (httpRun x.cps.toList)).map fun l => .str (S l))) := by
    refine Is.list hpl₂.isList ?_
    have key : ∀ (vs : List (Str × Tok)), IsAll h₂ (strValues vs) (vs.map fun p => .str p.1) := by
      intro vs
      induction vs with
      | nil => exact IsAll.nil _
      | cons p vs ih => exact IsAll.cons (Is.str _ _ _) ih
    have e : ((httpEnd (httpRun x.cps.toList)).map fun l => PyData.str (S l)) = vs.map fun p => PyData.str p.1 := by
      have := congrArg (List.map PyData.str) hvs
      rw [List.map_map, List.map_map] at this
      exact this.symm
    rw [e]
    simpa using key vs
  have F₂ : Fm prog w mg mb (envOf (nameAt 2) (scopeAt 2) L a cd) [("res", .list ((httpEnd (httpRun x.cps.toList)).map fun l => .str (S l)))] [] h₂ := by
    refine ⟨at₂.fm.gl, at₂.fm.kind, at₂.fm.glo, at₂.fm.blt, ⟨m₂, hn₂, fun z d e => ?_⟩, fun z d e => by simp at e⟩
    rw [List.lookup_cons] at e
    cases hz' : z == ("res" : Str) with
    | true =>
      rw [hz'] at e; cases e
      rw [beq_iff_eq.mp hz']
      exact ⟨_, hr₂, hres⟩
    | false => rw [hz'] at e; simp at e
  have hA' := hA
  have fin : Ex prog w mg mb (A.deeper (envOf (nameAt 2) (scopeAt 2) L a cd)) (envOf (nameAt 2) (scopeAt 2) L a cd) base [("res", .list ((httpEnd (httpRun x.cps.toList)).map fun l => .str (S l)))] [] httpRet
      (fun v h => Is h v (.list ((httpL x.cps.toList).map fun l => .str (S l)))) := by
    have e : ((httpL x.cps.toList).map fun l => PyData.str (S l)) = ((((httpEnd (httpRun x.cps.toList)).map fun l => PyData.str (S l)).filter fun _ => true).map fun d => .str (Txt.strip (strOf d))) := by
      rw [List.filter_eq_self.mpr (fun _ _ => rfl), List.map_map]
      unfold httpL
      rw [List.map_map]
      refine List.map_congr_left fun l _ => ?_
      show PyData.str (S (stripL l)) = .str (Txt.strip (S l))
      unfold stripL
      rw [S_toList]
    rw [e]
    refine ex_ret (ev_comp (own := none) (κf := []) (Rs := fun v h => Is h v (.list ((httpEnd (httpRun x.cps.toList)).map fun l => .str (S l)))) ?s0 (fun v h i => src_list hA.handled i) ?ci ?hz ?ok ?ht ?hf)
    case s0 => exact ev_local (by rfl) (by rfl) (by decide)
    case hz => rw [List.length_map]; omega
    case ht => exact .inl fun _ _ => rfl
    case hf => intro _; rfl
    case ci =>
      refine ⟨.none ?_ ?_, ?_, ?_, ?_, ?_⟩
      · intro _ _; rfl
      · intro _; rfl
      · rfl
      · rfl
      · decide +kernel
      · intro y d e; simp at e
    case ok =>
      refine ⟨fun b C D' d hd => ?_⟩
      obtain ⟨l, hl, rfl⟩ := List.mem_map.mp hd
      have hll : l.length ≤ 100000 := by have := httpEnd_parts _ l hl; omega
      refine ⟨_, _, tgt_name ?t1 ?t2, evts_nil, fun hp => elt_of ?n (ev_strip ?b1 ?b2 ?b3 ?b4)⟩
      case t1 => rfl
      case t2 => rfl
      case n => rfl
      case b1 => exact ev_local (by rfl) (by rfl) (by decide)
      case b2 => show (S l).length ≤ sizeLine; simp [Str.length]; omega
      case b3 => rfl
      case b4 => rfl
  exact wpAny_mono (fin.run gb hL { s with heap := h₂, toks := tk₂ } E F₂ at₂.gr) (fun f s' o => o.back ⟨h₂, tk₂, rfl⟩) fun _ _ q => q
end
end Ny

namespace Ny
open PySem PySem.W PySem.Calls PyProof.Rows

section
variable {prog : Program} {w : World} {A : Around} {E : Value → Shared → Prop} {s : Shared}

theorem notIterable_list {t : Addr} {items : Array Value} {Q : Bool → Shared → Prop} (ht : s.heap.IsList t items) (h : Q false s) : wpAny (model prog w) A (notIterableAtAll (.ref t)) Q E s := by
  unfold notIterableAtAll
  exact wpAny_bind (wpAny_specialOf ht.typeIs slot_list_iter.lookup (wpAny_pure h))

theorem unpack2 {t : Addr} {a b : Value} {f g : Value → Sem Unit} {Q : Unit → Shared → Prop} (hh : A.handled = none) (ht : s.heap.IsList t #[a, b])
    (h : ∀ h', Grow s.heap h' → ∀ tk, wpAny (model prog w) A (assignInOrder [f, g] [a, b]) Q E { s with heap := h', toks := tk }) : wpAny (model prog w) A (unpack (.ref t) [(false, f), (false, g)]) Q E s := by
  have hlt : t < s.heap.objs.size := by obtain ⟨o, ho, _⟩ := ht; exact Heap.lt_size ho
  unfold unpack
  refine wpAny_bind (wpAny_holding ?_)
  show wpAny _ _ (unpackItems (.ref t) 2 none) _ _ _
  unfold unpackItems
  refine wpAny_bind (notIterable_list ht ?_)
  simp only [Bool.false_eq_true, if_false]
  refine wpAny_bind (wpAny_holding (wpAny_pyIter_list ht ?_))
  generalize hI : s.heap.objs.size = I at *
  have W := Walks.list (prog := prog) (w := w) hh I t (Nat.ne_of_lt hlt) #[a, b]
  have gp := Grow.push s.heap { cls := .type "list_iterator", data := .fields #[.ref t, .int 0 0] }
  have st0 : (s.heap.push { cls := .type "list_iterator", data := .fields #[.ref t, .int 0 0] }).IsListIter I t 0 ∧ (s.heap.push { cls := .type "list_iterator", data := .fields #[.ref t, .int 0 0] }).IsList t #[a, b] :=
    ⟨⟨_, by rw [← hI]; exact Heap.get?_push_size _ rfl, rfl, rfl⟩, ht.at fun o e => gp _ o e⟩
  have kpI : ∀ {h₁ h₂ : Heap}, Grow s.heap h₁ → (∀ b o, b ∉ [I] → h₁.get? b = some o → h₂.get? b = some o) → Grow s.heap h₂ := fun g kp b o e => kp b o (by
    have : b < I := hI ▸ Heap.lt_size e
    simpa using Nat.ne_of_lt this) (g b o e)
  refine wpAny_bind (wpAny_holding (?_ : wpAny _ _ (draw (.ref I) 2) _ _ _))
  show wpAny _ _ (pyNext (.ref I) >>= _) _ _ _
  refine wpAny_bind (W.item 0 _ _ _ (Nat.zero_lt_succ _) st0 fun v h₁ tk₁ hv st₁ kp₁ => ?_)
  obtain rfl : a = v := by simpa using hv
  show wpAny _ _ ((holding [a] (draw (.ref I) 1)) >>= _) _ _ _
  refine wpAny_bind (wpAny_holding ?_)
  show wpAny _ _ (pyNext (.ref I) >>= _) _ _ _
  refine wpAny_bind (W.item 1 _ _ _ (Nat.lt_succ_self _) st₁ fun v h₂ tk₂ hv st₂ kp₂ => ?_)
  obtain rfl : b = v := by simpa using hv
  show wpAny _ _ ((holding [b] (draw (.ref I) 0)) >>= _) _ _ _
  refine wpAny_bind (wpAny_holding (wpAny_pure (wpAny_pure (wpAny_pure ?_))))
  rw [if_neg (by simp)]
  refine wpAny_bind (wpAny_holding (W.done _ _ _ st₂ fun h₃ tk₃ kp₃ => ?_))
  simp only [Option.isSome_none, Bool.false_eq_true, if_false]
  exact wpAny_pure (h h₃ (kpI (kpI (kpI gp kp₁) kp₂) kp₃) tk₃)

theorem unpack1 {t : Addr} {a : Value} {f g : Value → Sem Unit} {Q : Unit → Shared → Prop} (hh : A.handled = none) (ht : s.heap.IsList t #[a])
    (h : ∀ h₁ h' tk e, Grow s.heap h₁ → Heap.NewExc h₁ h' e "ValueError" → E (.ref e) { s with heap := h', toks := tk }) : wpAny (model prog w) A (unpack (.ref t) [(false, f), (false, g)]) Q E s := by
  have hlt : t < s.heap.objs.size := by obtain ⟨o, ho, _⟩ := ht; exact Heap.lt_size ho
  unfold unpack
  refine wpAny_bind (wpAny_holding ?_)
  show wpAny _ _ (unpackItems (.ref t) 2 none) _ _ _
  unfold unpackItems
  refine wpAny_bind (notIterable_list ht ?_)
  simp only [Bool.false_eq_true, if_false]
  refine wpAny_bind (wpAny_holding (wpAny_pyIter_list ht ?_))
  generalize hI : s.heap.objs.size = I at *
  have W := Walks.list (prog := prog) (w := w) hh I t (Nat.ne_of_lt hlt) #[a]
  have gp := Grow.push s.heap { cls := .type "list_iterator", data := .fields #[.ref t, .int 0 0] }
  have st0 : (s.heap.push { cls := .type "list_iterator", data := .fields #[.ref t, .int 0 0] }).IsListIter I t 0 ∧ (s.heap.push { cls := .type "list_iterator", data := .fields #[.ref t, .int 0 0] }).IsList t #[a] :=
    ⟨⟨_, by rw [← hI]; exact Heap.get?_push_size _ rfl, rfl, rfl⟩, ht.at fun o e => gp _ o e⟩
  have kpI : ∀ {h₁ h₂ : Heap}, Grow s.heap h₁ → (∀ b o, b ∉ [I] → h₁.get? b = some o → h₂.get? b = some o) → Grow s.heap h₂ := fun g kp b o e => kp b o (by
    have : b < I := hI ▸ Heap.lt_size e
    simpa using Nat.ne_of_lt this) (g b o e)
  refine wpAny_bind (wpAny_holding (?_ : wpAny _ _ (draw (.ref I) 2) _ _ _))
  show wpAny _ _ (pyNext (.ref I) >>= _) _ _ _
  refine wpAny_bind (W.item 0 _ _ _ (Nat.zero_lt_succ _) st0 fun v h₁ tk₁ hv st₁ kp₁ => ?_)
  obtain rfl : a = v := by simpa using hv
  show wpAny _ _ ((holding [a] (draw (.ref I) 1)) >>= _) _ _ _
  refine wpAny_bind (wpAny_holding ?_)
  show wpAny _ _ (pyNext (.ref I) >>= _) _ _ _
  refine wpAny_bind (W.done _ _ _ st₁ fun h₂ tk₂ kp₂ => ?_)
  refine wpAny_pure (wpAny_pure ?_)
  rw [if_pos (by simp)]
  refine wpAny_bind (wpAny_rule (wpAny_bind (wpAny_raiseErrorMade plainExc_ValueError hh (fun h' tk e hx => ?_) ?_)))
  · exact h h₂ h' tk e (kpI (kpI gp kp₁) kp₂) hx
  · show (Str.ofString _).length ≤ sizeLine
    rw [PySem.ofString_length, sizeLine_eq]
    rw [show [a].length = 1 from rfl]
    decide +kernel
end
end Ny

namespace Ny
open PySem PySem.W PySem.Calls PyProof.Rows

def splitEq : List Nat → Option (List Nat × List Nat)
  | [] => none
  | c :: r => if c = 61 then some ([], r) else (splitEq r).map fun p => (c :: p.1, p.2)
theorem splitEq_none : ∀ {l : List Nat}, splitEq l = none → 61 ∉ l
  | [], _ => by simp
  | c :: r, h => by
    unfold splitEq at h
    split at h
    · cases h
    · rename_i hc
      rw [Option.map_eq_none_iff] at h
      have := splitEq_none h
      simp [Ne.symm hc, this]
theorem splitEq_some : ∀ {l k v : List Nat}, splitEq l = some (k, v) → l = k ++ 61 :: v ∧ 61 ∉ k
  | [], _, _, h => by simp [splitEq] at h
  | c :: r, k, v, h => by
    unfold splitEq at h
    split at h
    · rename_i hc
      cases h
      simp [hc]
    · rename_i hc
      obtain ⟨⟨k', v'⟩, e, e'⟩ := Option.map_eq_some_iff.mp h
      cases e'
      obtain ⟨h1, h2⟩ := splitEq_some e
      simp [h1, Ne.symm hc, h2]
theorem splitEq_app {k v : List Nat} (h : 61 ∉ k) : splitEq (k ++ 61 :: v) = some (k, v) := by
  induction k with
  | nil => simp [splitEq]
  | cons c k ih =>
    simp only [List.mem_cons, not_or] at h
    simp [splitEq, Ne.symm h.1, ih h.2]

theorem subAt_sign (l : List Nat) (c i : Nat) : Builtin.Str.subAt (S l) (S [c]) i = true ↔ l[i]? = some c := by
  rw [StrLaws.subAt_eq]
  simp only [S, Str.length, List.size_toArray, List.length_singleton, beq_iff_eq]
  have e : (l.drop i).take 1 = (l[i]?).toList := by
    rw [List.take_one, List.head?_drop]
  rw [e]
  cases l[i]? <;> simp

theorem split_eq (l : List Nat) : Txt.splitMax (S l) (S [61]) 1 = match splitEq l with
    | none => [S l]
    | some (k, v) => [S k, S v] := by
  have hlim : limitOf (S l) 1 = 1 := by simp [limitOf]
  have hlen : (S l).length = l.length := by simp [Str.length]
  have hlen1 : (S [61]).length = 1 := rfl
  unfold Txt.splitMax
  rw [hlim]
  cases h : splitEq l with
  | none =>
    have hn := splitEq_none h
    split
    · rfl
    · rename_i h1
      have : (Builtin.Str.occurrences (S l) (S [61]) 0 (S l).length 1) = [] := by
        rcases StrLaws.occ_head (S l) (S [61]) 1 (Nat.le_refl _) with ⟨h0, _⟩ | ⟨i, r, e, hat, _⟩
        · exact h0
        · exact absurd (List.mem_of_getElem? ((subAt_sign l 61 i).mp hat.2)) hn
      rw [this]; rfl
  | some p =>
    obtain ⟨k, v⟩ := p
    obtain ⟨e, hk⟩ := splitEq_some h
    have hk61 : l[k.length]? = some 61 := by rw [e]; simp
    have c1 : (decide ((S l).length < (S [61]).length) || decide (Builtin.Str.strKind (S l) < Builtin.Str.strKind (S [61]))) = false := by
      have a1 : ¬ (S l).length < (S [61]).length := by rw [hlen, hlen1, e]; simp
      have a2 : ¬ Builtin.Str.strKind (S l) < Builtin.Str.strKind (S [61]) := by
        have : Builtin.Str.strKind (S [61]) = 1 := by simp [Builtin.Str.strKind]
        rw [this]
        unfold Builtin.Str.strKind
        split
        · omega
        · split <;> omega
      simp [a1, a2]
    rw [c1]
    simp only [Bool.false_eq_true, if_false]
    have ho : Builtin.Str.occurrences (S l) (S [61]) 0 (S l).length 1 = [k.length] := by
      rcases StrLaws.occ_head (S l) (S [61]) 1 (Nat.le_refl _) with ⟨_, hno⟩ | ⟨i, r, e', hat, hmin⟩
      · exfalso
        refine hno k.length ⟨?_, (subAt_sign l 61 _).mpr hk61⟩
        rw [hlen, hlen1, e]; simp
      · have hle := StrLaws.occ_length_le (S l) (S [61]) 0 (S l).length 1
        rw [e'] at hle ⊢
        have hr : r = [] := by cases r with | nil => rfl | cons => simp at hle
        rw [hr]
        congr 1
        have hi := (subAt_sign l 61 i).mp hat.2
        rcases Nat.lt_trichotomy i k.length with hlt | heq | hgt
        · exfalso
          rw [e, List.getElem?_append_left hlt] at hi
          exact hk (List.mem_of_getElem? hi)
        · exact heq
        · exfalso
          refine hmin k.length hgt ⟨?_, (subAt_sign l 61 _).mpr hk61⟩
          rw [hlen, hlen1, e]; simp
    rw [ho]
    simp only [List.isEmpty_cons, Bool.false_eq_true, if_false]
    unfold Builtin.Str.partsBetween
    simp only [List.map_cons, List.map_nil, List.cons_append, List.nil_append, List.zip_cons_cons, List.zip_nil_right]
    have q1 : Builtin.Str.strSub (S l) 0 k.length = S k := by
      apply Str.ext'
      rw [← Array.toList_inj, StrLaws.strSub_toList]
      simp [e]
    have q2 : Builtin.Str.strSub (S l) (k.length + (S [61]).length) (S l).length = S v := by
      apply Str.ext'
      rw [← Array.toList_inj, StrLaws.strSub_toList, hlen, hlen1]
      simp only [e]
      have : (k ++ 61 :: v).drop (k.length + 1) = v := by
        rw [show k ++ 61 :: v = (k ++ [61]) ++ v from by simp, show k.length + 1 = (k ++ [61]).length from by simp, List.drop_left]
      rw [this]
      simp only [List.length_append, List.length_cons]
      exact List.take_of_length_le (by omega)
    rw [q1, q2]
end Ny

namespace Ny
open PySem PySem.W PySem.Calls PyProof.Rows

/-! ## What parse_keqv_list computes -/
def unq (v : List Nat) : List Nat := if v.head? = some 34 ∧ v.getLast? = some 34 then (v.drop 1).dropLast else v
def putL (kvs : List (List Nat × List Nat)) (k v : List Nat) : List (List Nat × List Nat) :=
  if kvs.any (fun p => p.1 = k) then kvs.map (fun p => if p.1 = k then (p.1, v) else p) else kvs ++ [(k, v)]
def keqvStep (kvs : List (List Nat × List Nat)) (elt : List Nat) : Except String (List (List Nat × List Nat)) := match splitEq elt with
  | none => .error "ValueError"
  | some (_, []) => .error "IndexError"
  | some (k, v) => .ok (putL kvs k (unq v))
def keqvGo : List (List Nat × List Nat) → List (List Nat) → Except String (List (List Nat × List Nat))
  | kvs, [] => .ok kvs
  | kvs, e :: es => match keqvStep kvs e with
    | .ok kvs' => keqvGo kvs' es
    | .error c => .error c
def keqvL (items : List (List Nat)) : Except String (List (List Nat × List Nat)) := keqvGo [] items

theorem slice_in (l : List Nat) (h : l ≠ []) : Txt.slice (S l) (some 1) (some (-1)) = S ((l.drop 1).dropLast) := by
  have hlen : (S l).length = l.length := by simp [Str.length]
  have hl : 1 ≤ l.length := by cases l with | nil => exact absurd rfl h | cons => simp
  unfold Txt.slice
  rw [StrLaws.sliceIdx_neg_hi _ _ (by decide) (by rw [hlen]; omega), hlen]
  by_cases h2 : l.length = 1
  · match l, h2 with
    | [c], _ => rfl
  · have e : (-1 + (l.length : Int)) = ((l.length - 1 : Nat) : Int) := by omega
    rw [e]
    have hp := StrLaws.sliced_plain (S l) (a := 1) (b := l.length - 1) (by omega) (by rw [hlen]; omega)
    rw [hlen] at hp
    have hidx := StrLaws.strSliceIndices_plain (a := 1) (b := l.length - 1) (len := l.length) (by omega) (by omega)
    have hc : ((1 : Int) == 1 && (Builtin.Str.strSliceIndices (some 1) (some ((l.length - 1 : Nat) : Int)) 1 l.length).length == l.length) = false := by
      have := congrArg List.length hidx
      simp only [List.length_map, List.length_range] at this
      show (true && _) = false
      simp only [Bool.true_and, beq_eq_false_iff_ne]
      intro h'
      have h'' : (Builtin.Str.strSliceIndices (some ((1 : Nat) : Int)) (some ((l.length - 1 : Nat) : Int)) 1 l.length).length = l.length := h'
      omega
    rw [if_neg (by rw [hc]; decide)]
    have hp' : (Builtin.Str.strSliceIndices (some 1) (some ((l.length - 1 : Nat) : Int)) 1 l.length).filterMap ((S l).cps[·]?) = ((S l).cps.toList.drop 1).take (l.length - 1 - 1) := hp
    rw [hp']
    apply congrArg Str.mk
    apply congrArg List.toArray
    rw [List.dropLast_eq_take, List.length_drop]

section
variable {prog : Program} {w : World} {mg mb : Str → Option Value} {A : Around} {env : Env} {ρ κ : List (Str × PyData)}

theorem split_call {E : Value → Shared → Prop} {s : Shared} {x y : Str} {t u v : Tok} {k : Int} {Q : Value → Shared → Prop} (hy : (y.length == 0) = false) (hk : (decide (k < -(2 ^ 63 : Int)) || decide (k ≥ 2 ^ 63)) = false)
    (h : ∀ l o tk, l.map (·.1) = Txt.splitMax x y k → (s.heap.push o).IsList s.heap.objs.size (strValues l).toArray → Q (.ref s.heap.objs.size) { s with heap := s.heap.push o, toks := tk })
    (hsz : x.length + 2 ≤ sizeLine) :
    wpAny (model prog w) A (call (.builtin "str.split") [.str x t, .str y u, .int k v]) Q E s := by
  have hn : (Builtin.Str.partsBetween x (Builtin.Str.occurrences x y 0 x.length (limitOf x k)) y.length).length ≤ sizeLine := by
    have e1 := StrLaws.occ_length_le_len x y 0 x.length (limitOf x k)
    rw [length_partsBetween]; omega
  cases h1 : (decide (x.length < y.length) || decide (Builtin.Str.strKind x < Builtin.Str.strKind y))
  · cases hf : (Builtin.Str.occurrences x y 0 x.length (limitOf x k)).isEmpty
    · refine call_meets PySem.F.slot_str_split (typeIs_str _ _ _) PySem.F.entry_str_split (PySem.F.args_str_split_3 _ _ _) (meets_str_split_sep_max x y k t u v hk h1 hy hf (by omega) hn) ?_
      show wants Q E _ { s with toks := _, heap := s.heap.push { cls := .type "list", data := .seq (strsFrom s.toks (Builtin.Str.partsBetween x (Builtin.Str.occurrences x y 0 x.length (limitOf x k)) y.length)).toArray } }
      rw [strsFrom_eq]
      exact h (numbered s.toks _) _ _ ((numbered_texts _ _).trans ((if_neg (ne_true_of_eq_false h1)).trans (if_neg (ne_true_of_eq_false hf))).symm) ⟨_, Heap.get?_push_size _ rfl, rfl, _, rfl⟩
    · exact call_meets PySem.F.slot_str_split (typeIs_str _ _ _) PySem.F.entry_str_split (PySem.F.args_str_split_3 _ _ _) (meets_str_split_max_not_found x y k t u v hk h1 hy hf)
        (h [(x, t)] _ s.toks ((if_neg (ne_true_of_eq_false h1)).trans (if_pos hf)).symm ⟨_, Heap.get?_push_size _ rfl, rfl, _, rfl⟩)
  · exact call_meets PySem.F.slot_str_split (typeIs_str _ _ _) PySem.F.entry_str_split (PySem.F.args_str_split_3 _ _ _) (meets_str_split_max_cannot_occur x y k t u v hk h1)
      (h [(x, t)] _ s.toks (if_pos h1).symm ⟨_, Heap.get?_push_size _ rfl, rfl, _, rfl⟩)

theorem strs_isAll {h : Heap} : ∀ (l : List (Str × Tok)), IsAll h (strValues l) ((l.map (·.1)).map .str)
  | [] => IsAll.nil _
  | p :: l => IsAll.cons (Is.str _ _ _) (strs_isAll l)

theorem ev_split {o e₁ e₂ : Expr} {apos pos : Pos} {l : List Nat} (ho : EvD prog w mg mb A env ρ κ o (.str (S l))) (h1' : EvD prog w mg mb A env ρ κ e₁ (.str (S [61]))) (h2' : EvD prog w mg mb A env ρ κ e₂ (.int 1)) (hz : l.length ≤ 1000000)
    (h1 : attributeBase o "split" env (eval o env) = eval o env) (h2 : starEach [e₁, e₂] env = [(false, eval e₁ env), (false, eval e₂ env)]) (h3 : (apos.endLine == pos.line) = true) :
    EvD prog w mg mb A env ρ κ (.Call (.Attribute o "split" apos) [e₁, e₂] [] pos) (.list ((Txt.splitMax (S l) (S [61]) 1).map .str)) := .mk fun s E F => by
  refine Call_method2 h1 h2 h3 (wpAny_mono (ho.run s E F) (fun v s₁ q₁ => ?_) fun _ _ q => q)
  obtain ⟨t, rfl⟩ := q₁.2.str_inv
  refine ⟨"str", _, PySem.F.plainAttrs_str, PySem.F.slot_str_split, PySem.F.type_str_split, typeIs_str _ _ _, (fun _ e => nomatch e), ?_⟩
  refine Calls.callWith_builtin rfl (Calls.evalArgs_plain (Calls.spliced_cons (wpAny_mono (h1'.run s₁ E (F.grow q₁.1.grow)) (fun v s₂ q₂ => Calls.spliced_cons (wpAny_mono (h2'.run s₂ E ((F.grow q₁.1.grow).grow q₂.1.grow)) (fun u s₃ q₃ => Calls.spliced_nil ?_) fun _ _ q => q)) fun _ _ q => q)))
  obtain ⟨t', rfl⟩ := q₂.2.str_inv
  obtain ⟨t'', rfl⟩ := q₃.2.int_inv
  refine split_call (by decide) (by decide) (fun l' ob tk e hl => ?_) (by simp [Str.length, sizeLine]; omega)
  refine ⟨((q₁.1.trans q₂.1).trans q₃.1).trans (Kp.push s₃ ob tk), Is.list hl ?_⟩
  rw [← e]
  simpa using strs_isAll l'

theorem ev_itemS {value slice : Expr} {pos} {x : Str} {i : Int} {c : Nat} (hx : EvD prog w mg mb A env ρ κ value (.str x)) (hy : EvD prog w mg mb A env ρ κ slice (.int i)) (hr : (decide (i < -(2 ^ 63 : Int)) || decide (i ≥ 2 ^ 63)) = false)
    (hc : (seqIndex? i x.length).bind (x.cps[·]?) = some c)
    (hs : ∀ t u, subscripted slice false (.str x t) (.int i u) = operate [.str x t, .int i u] (getItem (.str x t) (.int i u)) := by intro _ _; with_unfolding_all rfl) : EvD prog w mg mb A env ρ κ (.Subscript value slice pos) (.str ⟨#[c]⟩) :=
  ev_sub hx hy (fun _ _ _ g i => i.grow g) fun a b s E _ ha hb => by
    obtain ⟨t, rfl⟩ := ha.str_inv
    obtain ⟨u, rfl⟩ := hb.int_inv
    exact tail_any (typeIs_str _ _ _) PySem.F.slot_str_getitem.lookup (PyProof.Rows.getItem_str hr hc ⟨Kp.tok s _, Is.str _ _ _⟩) (hs t u)
end
end Ny

namespace Ny
open PySem PySem.W PySem.Calls PyProof.Rows

theorem S_inj {a b : List Nat} (h : S a = S b) : a = b := by injection h with h; simpa using h
def KvIs (p : List Nat × List Nat) (q : Str × Value) : Prop := q.1 = S p.1 ∧ ∃ t, q.2 = .str (S p.2) t

theorem paired_put {k v : List Nat} {t : Tok} {kvs : List (List Nat × List Nat)} {vs : List (Str × Value)} (h : Paired KvIs kvs vs) : Paired KvIs (putL kvs k v) (stored vs (S k) (.str (S v) t)) := by
  have hany : ∀ {kvs vs}, Paired KvIs kvs vs → (vs.any fun kv => decide (kv.1 = S k)) = (kvs.any fun p => decide (p.1 = k)) := by
    intro kvs vs h
    induction h with
    | nil => rfl
    | @cons a b _ _ hq _ ih =>
      simp only [List.any_cons, ih]
      congr 1
      by_cases e : a.1 = k
      · exact (decide_eq_true (hq.1.trans (congrArg S e))).trans (decide_eq_true e).symm
      · exact (decide_eq_false fun h => e (S_inj (hq.1.symm.trans h))).trans (decide_eq_false e).symm
  have hmap : ∀ {kvs vs}, Paired KvIs kvs vs → Paired KvIs (kvs.map fun p => if p.1 = k then (p.1, v) else p) (vs.map fun kv => if kv.1 = S k then (kv.1, .str (S v) t) else kv) := by
    intro kvs vs h
    induction h with
    | nil => exact .nil
    | @cons a b _ _ hq _ ih =>
      simp only [List.map_cons]
      refine .cons ?_ ih
      by_cases e : a.1 = k
      · rw [if_pos e, if_pos (by rw [hq.1, e])]
        exact ⟨hq.1, t, rfl⟩
      · rw [if_neg e, if_neg (fun h => e (S_inj (hq.1.symm.trans h)))]
        exact hq
  unfold putL stored
  rw [hany h]
  split
  · exact hmap h
  · exact Paired.snoc h ⟨rfl, t, rfl⟩

def keqvX (prog : Program) (w : World) (D : Addr) (kvs : List (List Nat × List Nat)) (h : Heap) : Prop := ∃ vs : List (Str × Value), h.DictOf (PySem.strKind prog w) D vs ∧ Paired KvIs kvs vs
def keqvCfg (prog : Program) (w : World) (mg mb : Str → Option Value) (A : Around) (env : Env) (base : Heap) (D : Addr) : Cfg :=
  ⟨prog, w, mg, mb, A, env, base, "parsed", D, List (List Nat × List Nat), keqvX prog w D⟩

theorem dictOf_at {prog : Program} {w : World} {K : Type} [DecidableEq K] {knd : KeyKind prog w K} {h h' : Heap} {a : Addr} {vs : List (K × Value)} (x : h.DictOf knd a vs) (k : ∀ o, h.get? a = some o → h'.get? a = some o) : h'.DictOf knd a vs :=
  let ⟨o, es, ep, ho, r⟩ := x; ⟨o, es, ep, k o ho, r⟩

section
variable {prog : Program} {w : World} {mg mb : Str → Option Value} {A : Around} {env : Env} {base : Heap} {D : Addr} {ρ κ : List (Str × PyData)} {x : List (List Nat × List Nat)} {P : Flow → List (Str × PyData) → List (List Nat × List Nat) → Prop} {Er : Value → Heap → Prop}

theorem evt_and {e₁ e₂ : Expr} {pos : Pos} {b₁ b₂ : Bool} (h₁ : EvT prog w mg mb A env ρ κ e₁ b₁) (h₂ : b₁ = true → EvT prog w mg mb A env ρ κ e₂ b₂) : EvT prog w mg mb A env ρ κ (.BoolOp .And [e₁, e₂] pos) (b₁ && b₂) := .mk fun s E F => by
  refine isTrue_and (wpAny_mono (h₁.run s E F) (fun c s₁ q => ?_) fun _ _ q => q)
  obtain ⟨k, rfl⟩ := q
  cases c with
  | false => exact ⟨k, rfl⟩
  | true =>
    simp only [if_true]
    refine isTrue_and (wpAny_mono ((h₂ rfl).run s₁ E (F.grow k.grow)) (fun c s₂ q => ?_) fun _ _ q => q)
    obtain ⟨k', rfl⟩ := q
    cases c with
    | false => exact ⟨k.trans k', rfl⟩
    | true => exact isTrue_and_nil ⟨k.trans k', rfl⟩

theorem ev_sliceS {value lo hi : Expr} {p pos : Pos} {x : Str} {i j : Int} (hx : EvD prog w mg mb A env ρ κ value (.str x)) (hi' : EvD prog w mg mb A env ρ κ lo (.int i)) (hj : EvD prog w mg mb A env ρ κ hi (.int j)) (hz : x.length ≤ sizeLine)
    (ht : ∀ o r, letTemporaryGo value o r = pure ()) : EvD prog w mg mb A env ρ κ (.Subscript value (.Slice (some lo) (some hi) none p) pos) (.str (Txt.slice x (some i) (some j))) := .mk fun s E F => by
  refine wpAny_Subscript_str_slice (wpAny_mono (hx.run s E F) (fun o s₁ q₁ => ?_) fun _ _ q => q) ht
  refine wpAny_mono (hi'.run s₁ E (F.grow q₁.1.grow)) (fun vl s₂ q₂ => ?_) fun _ _ q => q
  refine wpAny_mono (hj.run s₂ E ((F.grow q₁.1.grow).grow q₂.1.grow)) (fun vu s₃ q₃ => ?_) fun _ _ q => q
  obtain ⟨t, rfl⟩ := q₁.2.str_inv
  obtain ⟨t₁, rfl⟩ := q₂.2.int_inv
  obtain ⟨t₂, rfl⟩ := q₃.2.int_inv
  refine ⟨x, t, some (i, t₁), some (j, t₂), rfl, rfl, rfl, ?_⟩
  exact post_val_or_str ⟨Nat.le_trans (Txt.slice_le x (some i) (some j)) hz, fun t' k => ⟨((q₁.1.trans q₂.1).trans q₃.1).trans ⟨_, k, rfl, Grow.push _ _⟩, Is.str _ _ _⟩⟩

theorem bk_put {k v : List Nat} {p₁ p₂ p₃ p₄ pos : Pos} {kn vn : Str} {rest : List Stmt} (hρ : ρ.all (fun q => hf q.2) = true) (hk : ρ.lookup kn = some (.str (S k))) (hv : ρ.lookup vn = some (.str (S v))) (lk : env.kindOf kn = some .local) (lv : env.kindOf vn = some .local) (lp : env.kindOf "parsed" = some .local)
    (dk : (kn == ("__debug__" : Str)) = false) (dv : (vn == ("__debug__" : Str)) = false)
    (hz : x.length ≤ sizeLine) (hs : swapsWith (.Name vn p₄) (some (.Subscript (.Name "parsed" p₁) (.Name kn p₂) p₃)) pos.line env = pure false)
    (y : Bk (keqvCfg prog w mg mb A env base D) ρ (putL x k v) rest P Er) :
    Bk (keqvCfg prog w mg mb A env base D) ρ x (.Assign [.Subscript (.Name "parsed" p₁) (.Name kn p₂) p₃] (.Name vn p₄) pos :: rest) P Er := .mk fun ok s E a hE hp => by
  obtain ⟨m, hn, hm⟩ := a.fm.loc
  obtain ⟨vv, hvv, hiv⟩ := hm vn _ hv
  obtain ⟨vk, hvk, hik⟩ := hm kn _ hk
  obtain ⟨m', hn', hr⟩ := a.ns
  obtain ⟨t₁, rfl⟩ := hiv.str_inv
  obtain ⟨t₂, rfl⟩ := hik.str_inv
  obtain ⟨vs, hd, hpa⟩ := a.x
  refine wpAny_execs_cons (wpAny_Assign_Subscript (wpAny_Name (wpAny_loadName_local a.fm.kind lv hn hvv (wpAny_Name (wpAny_loadName_local a.fm.kind lp hn' hr (wpAny_Name (wpAny_loadName_local a.fm.kind lk hn hvk ?_) dk)) (by decide))) dv) hs)
  have hsz : vs.length ≤ sizeLine := by rw [← hpa.length]; exact hz
  refine wpAny_setItem_pairs (hsz := hsz) (knd := PySem.strKind prog w) (k := S k) (by simp [PySem.strKind, Value.isStrOf]) hd fun h' hd' hsb => ?_
  have hne : D ≠ env.locals := ok.ne
  have g' : Grow base h' := fun b o e => hsb.extBut b o (Nat.ne_of_lt (Nat.lt_of_lt_of_le (Heap.lt_size e) ok.hD)) (a.gr b o e)
  refine y.on (s := s) ok (h₁ := h') ⟨?_, g', ⟨m', hn'.sameBut hsb (Ne.symm hne), hr⟩, ⟨_, hd', paired_put hpa⟩⟩ ?_ hE hp
  · refine ⟨ok.gb.grow g', a.fm.kind, a.fm.glo, a.fm.blt, ⟨m, hn.sameBut hsb (Ne.symm hne), fun z d e => ?_⟩, fun z d e => by simp at e⟩
    obtain ⟨v', e1, e2⟩ := hm z d e
    refine ⟨v', e1, Is.hf ?_ e2⟩
    rw [List.all_eq_true] at hρ
    exact hρ (z, d) (PySem.mem_of_lookup e)
  · exact fun b o _ hb2 e => hsb.extBut b o hb2 e

def splitS (l : List Nat) : List Str := match splitEq l with
  | none => [S l]
  | some (k, v) => [S k, S v]
theorem splitS_eq (l : List Nat) : Txt.splitMax (S l) (S [61]) 1 = splitS l := split_eq l
def keqvEr (env : Env) (base : Heap) (items : List (List Nat)) (e : Value) (h' : Heap) : Prop :=
  ∃ cls h₁ a, e = .ref a ∧ keqvL items = .error cls ∧ (cls = "ValueError" ∨ cls = "IndexError") ∧ Heap.NewExc h₁ h' a cls ∧ Grow base h₁ ∧ ∃ m, h₁.Ns env.locals m

theorem bk_unpack2 {l : List Nat} {items : List (List Nat)} {kn vn : Str} {pk pv tp pos : Pos} {q : Nat} {call : Expr} {rest : List Stmt} (hh : A.handled = none)
    (hx : EvD prog w mg mb A env ρ [] call (.list ((splitS l).map .str)))
    (herr : splitEq l = none → keqvL items = .error "ValueError") (lk : env.kindOf kn = some .local) (lv : env.kindOf vn = some .local) (rk : ("parsed" : Str) ≠ kn) (rv : ("parsed" : Str) ≠ vn)
    (ha : assignEach [.Name kn pk, .Name vn pv] env = [(false, fun v => assign (.Name kn pk) env v), (false, fun v => assign (.Name vn pv) env v)])
    (hs : swapsWithSole [.Tuple [.Name kn pk, .Name vn pv] q tp] call pos.line env = pure false) (hw : swappedStores [.Tuple [.Name kn pk, .Name vn pv] q tp] call env = pure none)
    (y : ∀ k v, splitEq l = some (k, v) → Bk (keqvCfg prog w mg mb A env base D) ((vn, .str (S v)) :: (kn, .str (S k)) :: ρ) x rest P (keqvEr env base items)) :
    Bk (keqvCfg prog w mg mb A env base D) ρ x (.Assign [.Tuple [.Name kn pk, .Name vn pv] q tp] call pos :: rest) P (keqvEr env base items) := .mk fun ok s E a hE hp => by
  refine wpAny_execs_cons (Assign_Tuple (wpAny_mono (hx.run s E a.fm) (fun v s₁ q₁ => ?_) fun _ _ q => q) hs hw)
  obtain ⟨⟨h, tk, rfl, g⟩, hi⟩ := q₁
  have a₁ := a.grow ok g
  obtain ⟨t, vs, rfl, hl, hv⟩ := hi.list_inv
  rw [assign_Tuple]
  refine wpAny_bind (wpAny_standAt ?_)
  refine Eq.mpr (congrArg (fun z => wpAny (model prog w) A (unpack (.ref t) z) _ E _) ha) ?_
  cases hsp : splitEq l with
  | none =>
    rw [show splitS l = [S l] from by simp [splitS, hsp]] at hv
    obtain ⟨v₁, r, e, hv₁, hr⟩ := hv.cons_inv
    obtain rfl := hr.nil_inv
    have e' : vs = #[v₁] := by rw [← Array.toList_inj, e]
    refine unpack1 hh (a := v₁) (e' ▸ hl) fun h₁ h' tk' e g₁ hx' => ?_
    refine hE _ h' tk' ⟨"ValueError", h₁, e, rfl, herr hsp, .inl rfl, hx', a₁.gr.trans g₁, ?_⟩
    obtain ⟨m, hn, _⟩ := a₁.ns
    exact ⟨m, hn.keeps g₁⟩
  | some p =>
    obtain ⟨k, v⟩ := p
    rw [show splitS l = [S k, S v] from by simp [splitS, hsp]] at hv
    obtain ⟨v₁, r, e, hv₁, hr⟩ := hv.cons_inv
    obtain ⟨v₂, r', e2, hv₂, hr'⟩ := hr.cons_inv
    obtain rfl := hr'.nil_inv
    subst e2
    have e' : vs = #[v₁, v₂] := by rw [← Array.toList_inj, e]
    refine unpack2 hh (a := v₁) (b := v₂) (e' ▸ hl) fun h' g₁ tk' => ?_
    have a₂ := a₁.grow ok g₁
    refine assignInOrder_cons (wpAny_assign_Name (at_store (d := .str (S k)) ok a₂ lk rk (Is.hf rfl hv₁) fun h₃ tk₃ a₃ q₃ => ?_))
    refine assignInOrder_cons (wpAny_assign_Name (at_store (d := .str (S v)) ok a₃ lv rv (Is.hf rfl hv₂) fun h₄ tk₄ a₄ q₄ => assignInOrder_nil ?_))
    exact (y k v hsp).on (s := s) ok a₄ ((((Grow.keep2 g).trans (Grow.keep2 g₁)).trans q₃).trans q₄) hE hp
end
end Ny

namespace Ny
open PySem PySem.W PySem.Calls PyProof.Rows

section
variable {prog : Program} {w : World} {mg mb : Str → Option Value} {A : Around} {env : Env} {base : Heap} {D : Addr} {ρ κ : List (Str × PyData)} {x : List (List Nat × List Nat)} {P : Flow → List (Str × PyData) → List (List Nat × List Nat) → Prop}

theorem bk_if_index {items : List (List Nat)} {vn : Str} {p p0 ps pc pb pos : Pos} {k0 : Nat} {r e₂ : Expr} {body orelse rest : List Stmt} (hh : A.handled = none) (hv : ρ.lookup vn = some (.str (S []))) (lv : env.kindOf vn = some .local) (dv : (vn == ("__debug__" : Str)) = false)
    (herr : keqvL items = .error "IndexError") (hm : behindInMarks .Eq r = false) :
    Bk (keqvCfg prog w mg mb A env base D) ρ x (.If (.BoolOp .And [.Compare (.Subscript (.Name vn p) (.Constant (.int 0) k0 p0) ps) [.Eq] [r] pc, e₂] pb) body orelse pos :: rest) P (keqvEr env base items) := .mk fun ok s E a hE hp => by
  obtain ⟨m, hn, hmm⟩ := a.fm.loc
  obtain ⟨vv, hvv, hiv⟩ := hmm vn _ hv
  obtain ⟨t, rfl⟩ := hiv.str_inv
  refine wpAny_execs_cons (wpAny_If (isTrue_and (wpAny_isTrue_Compare1 (Subscript_ (wpAny_Name (wpAny_loadName_local a.fm.kind lv hn hvv (wpAny_Constant_int ?_)) dv)) hm)))
  refine tail_any (ops := [.str (S []) t, .int 0 s.toks]) (typeIs_str _ _ _) PySem.F.slot_str_getitem.lookup (getItem_slot (typeIs_str _ _ _) (by decide) PySem.F.slot_str_getitem ?_) (by with_unfolding_all rfl)
  refine call_meets PySem.F.slot_str_getitem (typeIs_str _ _ _) PySem.F.entry_str_getitem (PySem.F.args_str_getitem_2 _ _) (raises_str_getitem (S []) 0 t s.toks (by decide) (by rfl)) ⟨hh, fun h' tk e hx => ?_⟩
  exact hE _ h' tk ⟨"IndexError", s.heap, e, rfl, herr, .inr rfl, hx, a.gr, m, hn⟩

def keqvBody : List Stmt := match bodyAt 1 with
  | [_, .For _ _ b _ _, _] => b
  | _ => []

theorem head_item (c : Nat) (r : List Nat) : (seqIndex? 0 (S (c :: r)).length).bind ((S (c :: r)).cps[·]?) = some c := by
  simp [seqIndex?, Str.length]
theorem last_item (c : Nat) (r : List Nat) : (seqIndex? (-1) (S (c :: r)).length).bind ((S (c :: r)).cps[·]?) = some ((c :: r).getLast (by simp)) := by
  have h1 : (S (c :: r)).length = r.length + 1 := by simp [Str.length]
  unfold seqIndex?
  rw [h1]
  have e1 : (-1 : Int) + ((r.length + 1 : Nat) : Int) = (r.length : Int) := by omega
  simp only [show ((-1 : Int) < 0) = True from by simp, if_true, e1]
  have e2 : ¬ ((r.length : Int) < 0) := by omega
  have e3 : (r.length : Int) < ((r.length + 1 : Nat) : Int) := by omega
  simp only [e2, e3, if_false, if_true, decide_true, decide_false, Int.toNat_natCast]
  simp [List.getLast_eq_getElem]

theorem keqv_step {L a : Addr} {cd : Value} (hh : A.handled = none) (kvs : List (List Nat × List Nat)) (l : List Nat) (items : List (List Nat)) (hz : l.length ≤ 1000000) (hz2 : kvs.length ≤ sizeLine) (herr : ∀ cls, keqvStep kvs l = .error cls → keqvL items = .error cls) :
    Bk (keqvCfg prog w mg mb A (envOf (nameAt 1) (scopeAt 1) L a cd) base D) [("elt", .str (S l))] kvs keqvBody
      (fun f ρ' x' => f = .next ∧ keqvStep kvs l = .ok x') (keqvEr (envOf (nameAt 1) (scopeAt 1) L a cd) base items) := by
  have rk : ("parsed" : Str) ≠ "k" := by decide
  have rv : ("parsed" : Str) ≠ "v" := by decide
  refine bk_unpack2 (l := l) hh ?x (fun h => herr _ (by simp [keqvStep, h])) ?lk ?lv rk rv ?ha ?hs ?hw fun k v hsp => ?_
  case x =>
    rw [← splitS_eq]
    refine ev_split ?_ ?_ ?_ hz ?_ ?_ ?_
    · exact ev_local (by rfl) (by rfl) (by decide)
    · exact ev_str
    · exact ev_int
    · rfl
    · rfl
    · rfl
  case lk => rfl
  case lv => rfl
  case ha => rfl
  case hs => rfl
  case hw => rfl
  have hlv : v.length ≤ l.length := by
    have := (splitEq_some hsp).1
    rw [this]; simp; omega
  cases v with
  | nil =>
    refine bk_if_index hh ?_ ?_ (by decide) (herr _ (by simp [keqvStep, hsp])) ?_
    · rfl
    · rfl
    · with_unfolding_all rfl
  | cons c r =>
    have hvz : (S (c :: r)).length ≤ sizeLine := by
      have : sizeLine = 16777216 := rfl
      rw [show (S (c :: r)).length = (c :: r).length from by simp [Str.length]]
      omega
    refine bk_if (b := decide (c = 34) && decide ((c :: r).getLast (by simp) = 34)) ?t ?_
    case t =>
      refine evt_and ?_ fun _ => ?_
      · rw [← beq_sign]
        refine evt_eqS (ev_itemS (x := S (c :: r)) (i := 0) ?_ ev_int (by decide) (head_item c r)) ev_str
        exact ev_local (by rfl) (by rfl) (by decide)
      · rw [← beq_sign]
        refine evt_eqS (ev_itemS (x := S (c :: r)) (i := -1) ?_ (ev_neg ev_int) (by decide) (last_item c r)) ev_str
        exact ev_local (by rfl) (by rfl) (by decide)
    have hu : unq (c :: r) = if (decide (c = 34) && decide ((c :: r).getLast (by simp) = 34)) = true then ((c :: r).drop 1).dropLast else c :: r := by
      unfold unq
      have e : (c :: r).getLast? = some ((c :: r).getLast (by simp)) := List.getLast?_eq_getLast ..
      rw [e]
      simp
    have hst : keqvStep kvs l = .ok (putL kvs k (unq (c :: r))) := by simp [keqvStep, hsp]
    cases hb : (decide (c = 34) && decide ((c :: r).getLast (by simp) = 34)) with
    | true =>
      rw [hb] at hu
      simp only [if_true] at hu ⊢
      refine bk_assign (d := .str (S (unq (c :: r)))) ?ee ?kk rv (bk_nil ?nn) ?ss
      case ee =>
        rw [hu, ← slice_in _ (by simp)]
        refine ev_sliceS ?_ ev_int (ev_neg ev_int) hvz ?_
        · exact ev_local (by rfl) (by rfl) (by decide)
        · intro _ _; rfl
      case kk => rfl
      case ss => rfl
      case nn =>
        show Bk _ _ _ _ _ _
        refine bk_put (k := k) (v := unq (c :: r)) ?_ ?_ ?_ ?_ ?_ ?_ (by decide) (by decide) hz2 ?_ (bk_nil ⟨rfl, hst⟩)
        all_goals rfl
    | false =>
      rw [hb] at hu
      simp only [Bool.false_eq_true, if_false] at hu ⊢
      refine bk_nil ?_
      show Bk _ _ _ _ _ _
      rw [hu] at hst
      refine bk_put (k := k) (v := c :: r) ?_ ?_ ?_ ?_ ?_ ?_ (by decide) (by decide) hz2 ?_ (bk_nil ⟨rfl, hst⟩)
      all_goals rfl
end
end Ny

namespace Ny
open PySem PySem.W PySem.Calls PyProof.Rows

abbrev IsIt (h : Heap) (it d : Addr) (i n ep : Nat) (f0 f1 ok ov : Value) : Prop :=
  h.get? it = some { cls := .type "dict_itemiterator", dict := none, data := .fields #[f0, f1, .ref d, .int i 0, .int n 0, .int ep 0, ok, ov], slots := #[] }

section
variable {prog : Program} {w : World} {K : Type} [DecidableEq K] {knd : KeyKind prog w K} {A : Around} {E : Value → Shared → Prop} {s : Shared}

theorem next_items_out {it d a : Addr} {ob : Obj} {i ep : Nat} {kvs : List (K × Value)} {k : K} {v f1 ok ov : Value} {Q : Option Value → Shared → Prop} (hit : IsIt s.heap it d i kvs.length ep (rawInt a) f1 ok ov) (hal : s.heap.get? a = some ob) (hai : a ≠ it)
    (hm : s.heap.DictAt knd d kvs ep) (hx : kvs[i]? = some (k, v))
    (hQ : ∀ key h' f1', knd.is k key = true → IsIt h' it d (i + 1) kvs.length ep (rawInt a) f1' ok ov →
      h'.get? s.heap.objs.size = some { cls := .type "tuple", data := .seq #[key, v] } →
      (∀ b o, b ≠ it → s.heap.get? b = some o → h'.get? b = some o) → Q (some (.ref s.heap.objs.size)) { s with heap := h' }) :
    wpAny (model prog w) A (pyNext (.ref it)) Q E s := by
  obtain ⟨hp, g, dr, tk, os⟩ := s
  obtain ⟨od, es, hod, hcd, hdd, hk, hpr, hn⟩ := id hm
  have hT : Shared.TypeIs ⟨hp, g, dr, tk, os⟩ (.ref it) "dict_itemiterator" := ⟨_, hit, rfl⟩
  unfold pyNext
  refine wpAny_bind (wpAny_attempt (wpAny_callSpecial?_slot (name := Str.ofString "__next__") hT PySem.F.slot_dict_itemiterator_next
    (wpAny_call_entry PySem.F.slot_dict_itemiterator_next hT PySem.F.entry_dict_itemiterator_next ?_ (PySem.F.args_dict_itemiterator_next_1 _))))
  refine wpAny_bind (wpAny_pure ?_)
  refine wpAny_bind ?_
  refine wpAny_bind ?_
  first | refine wpAny_bind (wpAny_typeNameOfWhole_itemiter hT (wpAny_pure ?_)) | refine wpAny_bind (wpAny_typeNameOf_itemiter hT (wpAny_pure ?_))
  refine wpAny_bind (wpAny_fieldsOf hit rfl ?_)
  have hown : Builtin.Dict_items.ownsTuple "dict_itemiterator" = true := by decide
  simp only [hown, if_true]
  show wpAny _ _ (if (Value.ref d == Value.none) = true then _ else _) _ _ _
  rw [if_neg (show ¬ ((Value.ref d == Value.none) = true) from Bool.false_ne_true)]
  refine wpAny_bind (wpAny_pure ?_)
  refine wpAny_bind (wpAny_dictEntries hod hdd ?_)
  have hsz : es.size = kvs.length := by rw [← hpr.length]; simp
  rw [if_neg (by rw [hsz]; simp)]
  refine wpAny_bind (wpAny_pure ?_)
  refine wpAny_bind (wpAny_dictEpoch hod hdd ?_)
  rw [if_neg (by simp)]
  refine wpAny_pure ?_
  have hlt : i < kvs.length := by
    rcases Nat.lt_or_ge i kvs.length with h | h
    · exact h
    · simp [List.getElem?_eq_none h] at hx
  have hlt' : i < es.size := by rw [hsz]; exact hlt
  obtain ⟨hkey, hval⟩ := hpr.get? (e := es[i]) (by simp [hlt']) hx
  simp only [show ¬ ((i : Int) < 0) from by omega, if_false, Int.toNat_natCast, Array.getElem?_eq_getElem hlt']
  refine wpAny_bind ?_
  first | refine wpAny_bind (wpAny_typeNameOfWhole_itemiter hT (wpAny_pure ?_)) | refine wpAny_bind (wpAny_typeNameOf_itemiter hT (wpAny_pure ?_))
  refine wpAny_bind (wpAny_isOneOf_itemiter hT ?_)
  show wpAny _ _ (setField (.ref it) 3 (rawInt ((i : Int) + 1)) >>= _) _ _ ⟨hp, g, dr, tk, os⟩
  refine wpAny_bind (wpAny_setField_rec hit (by simp) fun h₁ he₁ hs₁ => ?_)
  replace hs₁ : Heap.SameBut it hp h₁ := hs₁
  replace he₁ : IsIt h₁ it d (i + 1) kvs.length ep (rawInt a) f1 ok ov := by
    have e : ((i + 1 : Nat) : Int) = (i : Int) + 1 := by omega
    unfold IsIt; rw [e]; simpa [rawInt] using he₁
  have hT₁ : Shared.TypeIs ⟨h₁, g, dr, tk, os⟩ (.ref it) "dict_itemiterator" := ⟨_, he₁, rfl⟩
  refine wpAny_bind (wpAny_holding ?_)
  refine wpAny_bind (wpAny_isOneOf_itemiter hT₁ ?_)
  refine wpAny_bind (wpAny_isOneOf_itemiter hT₁ ?_)
  show wpAny _ _ (Builtin.Dict_items.pairFromOwner (.ref it) 6 es[i].key es[i].val) _ _ ⟨h₁, g, dr, tk, os⟩
  unfold Builtin.Dict_items.pairFromOwner
  refine wpAny_bind (wpAny_newTuple ?_)
  have he₂ : IsIt (h₁.push { cls := .type "tuple", data := .seq #[es[i].key, es[i].val] }) it d (i + 1) kvs.length ep (rawInt a) f1 ok ov := Heap.get?_push_of_some _ he₁
  generalize hh₂ : h₁.push { cls := .type "tuple", data := .seq #[es[i].key, es[i].val] } = h₂ at he₂
  have hz₁ : h₁.objs.size = hp.objs.size := hs₁.1
  have hil : it < hp.objs.size := Heap.lt_size hit
  have ht₂ : h₂.get? hp.objs.size = some { cls := .type "tuple", data := .seq #[es[i].key, es[i].val] } := by rw [← hh₂, ← hz₁]; exact Heap.get?_push_size _ rfl
  have hk₂ : ∀ b o, b ≠ it → hp.get? b = some o → h₂.get? b = some o := fun b o hb e => by rw [← hh₂]; exact Heap.get?_push_of_some _ (hs₁.extBut b o hb e)
  show wpAny _ _ (Builtin.Dict_items.ownedTupleIsFree (.ref it) >>= _) _ _ ⟨h₂, g, dr, tk, os⟩
  rw [hz₁]
  have fin : ∀ h₃ f1', IsIt h₃ it d (i + 1) kvs.length ep (rawInt a) f1' ok ov → (∀ b o, b ≠ it → h₂.get? b = some o → h₃.get? b = some o) → Q (some (.ref hp.objs.size)) ⟨h₃, g, dr, tk, os⟩ := fun h₃ f1' he₃ hk₃ =>
    hQ es[i].key h₃ f1' hkey he₃ (by rw [← hval]; exact hk₃ _ _ (Nat.ne_of_gt hil) ht₂) fun b o hb e => hk₃ b o hb (hk₂ b o hb e)
  clear hh₂ he₁ hs₁ hT₁ hz₁ h₁
  refine wpAny_bind ?_
  unfold Builtin.Dict_items.ownedTupleIsFree
  refine wpAny_bind (wpAny_field he₂ rfl (x := rawInt a) rfl ?_)
  show wpAny _ _ (loadIfAlive (Int.toNat (a : Int)) >>= _) _ _ _
  refine wpAny_bind ?_
  have hla : ∀ {A' : Around} {E' : Value → Shared → Prop} {Q' : Option Obj → Shared → Prop}, Q' (h₂.get? a) ⟨h₂, g, dr, tk, os⟩ → wpAny (model prog w) A' (loadIfAlive (Int.toNat (a : Int))) Q' E' ⟨h₂, g, dr, tk, os⟩ := fun h _ _ _ => h
  refine hla ?_
  rw [hk₂ a ob hai hal]
  simp only [Option.isNone_some, Bool.false_eq_true, if_false]
  refine wpAny_bind (wpAny_field he₂ rfl (x := f1) rfl ?_)
  by_cases hf : (f1 != .bool true) = true
  · rw [if_pos hf]
    refine wpAny_bind (wpAny_setField_rec he₂ (by simp) fun h₃ he₃ hs₃ => ?_)
    refine wpAny_pure ?_
    simp only [Bool.false_eq_true, if_false]
    refine wpAny_pure (wpAny_pure ⟨_, rfl, wpAny_pure (fin h₃ (.bool true) he₃ fun b o hb e => hs₃.extBut b o hb e)⟩)
  · rw [if_neg hf]
    refine wpAny_pure ?_
    simp only [Bool.false_eq_true, if_false]
    refine wpAny_pure (wpAny_pure ⟨_, rfl, wpAny_pure (fin h₂ f1 he₂ fun b o hb e => e)⟩)

theorem next_items_end {it d : Addr} {i ep : Nat} {kvs : List (K × Value)} {f0 f1 ok ov : Value} {Q : Option Value → Shared → Prop} (hh : A.handled = none) (hit : IsIt s.heap it d i kvs.length ep f0 f1 ok ov)
    (hm : s.heap.DictAt knd d kvs ep) (hx : kvs[i]? = none)
    (hQ : ∀ h', Heap.ExtBut it s.heap h' → Q none { s with heap := h' }) : wpAny (model prog w) A (pyNext (.ref it)) Q E s := by
  obtain ⟨od, es, hod, hcd, hdd, hk, hpr, hn⟩ := id hm
  have hT : s.TypeIs (.ref it) "dict_itemiterator" := ⟨_, hit, rfl⟩
  unfold pyNext
  refine wpAny_bind (wpAny_attempt (wpAny_callSpecial?_slot (name := Str.ofString "__next__") hT PySem.F.slot_dict_itemiterator_next
    (wpAny_call_entry PySem.F.slot_dict_itemiterator_next hT PySem.F.entry_dict_itemiterator_next ?_ (PySem.F.args_dict_itemiterator_next_1 _))))
  refine wpAny_bind (wpAny_pure ?_)
  refine wpAny_bind ?_
  refine wpAny_bind ?_
  first | refine wpAny_bind (wpAny_typeNameOfWhole_itemiter hT (wpAny_pure ?_)) | refine wpAny_bind (wpAny_typeNameOf_itemiter hT (wpAny_pure ?_))
  refine wpAny_bind (wpAny_fieldsOf hit rfl ?_)
  have hown : Builtin.Dict_items.ownsTuple "dict_itemiterator" = true := by decide
  simp only [hown, if_true]
  show wpAny _ _ (if (Value.ref d == Value.none) = true then _ else _) _ _ s
  rw [if_neg (show ¬ ((Value.ref d == Value.none) = true) from Bool.false_ne_true)]
  refine wpAny_bind (wpAny_pure ?_)
  refine wpAny_bind (wpAny_dictEntries hod hdd ?_)
  have hsz : es.size = kvs.length := by rw [← hpr.length]; simp
  rw [if_neg (by rw [hsz]; simp)]
  refine wpAny_bind (wpAny_pure ?_)
  refine wpAny_bind (wpAny_dictEpoch hod hdd ?_)
  rw [if_neg (by simp)]
  refine wpAny_pure ?_
  have hge : es.size ≤ i := by rw [hsz]; simpa using hx
  simp only [show ¬ ((i : Int) < 0) from by omega, if_false, Int.toNat_natCast, Array.getElem?_eq_none hge]
  refine wpAny_bind ?_
  first | refine wpAny_bind (wpAny_typeNameOfWhole_itemiter hT (wpAny_pure ?_)) | refine wpAny_bind (wpAny_typeNameOf_itemiter hT (wpAny_pure ?_))
  show wpAny _ _ (setField (.ref it) 2 .none >>= _) _ _ s
  refine wpAny_bind (wpAny_setField hit rfl (by simp) ?_)
  show wpAny _ _ (newExc (.type "StopIteration") [] >>= _) _ _ _
  refine wpAny_bind ?_
  simp only [newExc, newTuple]
  refine wpAny_bind (wpAny_newObj_type ?_ (by size_fits))
  refine wpAny_bind (m := firstArgMember _ _) (wpAny_of_eq (a := Value.none) (by first | rfl | (simp only [firstArgMember]; rfl)) ?_)
  refine wpAny_newObj_type ?_ (by size_fits)
  simp only [raiseNew]
  refine wpAny_bind (wpAny_handled ?_)
  rw [show A.in1.handled = none from hh]
  refine wpAny_bind (wpAny_pure (wpAny_throw ?_))
  refine wpAny_bind (wpAny_isInstance (T := "StopIteration") (b := true) ⟨_, Heap.get?_push_size _ rfl, rfl⟩ isSubtype_stop ?_)
  exact wpAny_pure (hQ _ (((Heap.SameBut.update ..).extBut.push _).push _))
end
end Ny

namespace Ny
open PySem PySem.W PySem.Calls PyProof.Rows

def tupD (p : List Nat × List Nat) : PyData := .tuple [.str (S p.1), .str (S p.2)]
theorem nd_tup (p : List Nat × List Nat) : nl (tupD p) = true := rfl

def ItAt (h : Heap) (it d L : Addr) (i n ep : Nat) : Prop :=
  (∃ ok ov, IsIt h it d i n ep .none (.bool false) ok ov) ∨ ∃ (a : Addr) (ob : Obj) (f1 ok ov : Value), IsIt h it d i n ep (rawInt a) f1 ok ov ∧ h.get? a = some ob ∧ a ≠ it ∧ a ≠ L
theorem ItAt.keep {h h' : Heap} {it d L : Addr} {i n ep : Nat} (x : ItAt h it d L i n ep) (hL : it ≠ L) (k : ∀ b o, b ≠ L → h.get? b = some o → h'.get? b = some o) : ItAt h' it d L i n ep := by
  rcases x with ⟨ok, ov, e⟩ | ⟨a, ob, f1, ok, ov, e, e2, n1, n2⟩
  · exact .inl ⟨ok, ov, k _ _ hL e⟩
  · exact .inr ⟨a, ob, f1, ok, ov, k _ _ hL e, k _ _ n2 e2, n1, n2⟩
theorem ItAt.there {h : Heap} {it d L : Addr} {i n ep : Nat} (x : ItAt h it d L i n ep) : ∃ vs, h.get? it = some { cls := .type "dict_itemiterator", dict := none, data := .fields vs, slots := #[] } := by
  rcases x with ⟨ok, ov, e⟩ | ⟨a, ob, f1, ok, ov, e, e2, n1, n2⟩ <;> exact ⟨_, e⟩
theorem ItAt.notSeq {h : Heap} {it d L : Addr} {i n ep : Nat} (x : ItAt h it d L i n ep) {o : Obj} {xs : Array Value} {m : Nat} (e : h.get? it = some o) (hd : o.data = .seq xs m) : False := by
  obtain ⟨vs, e'⟩ := x.there
  rw [e] at e'; cases e'; cases hd
theorem dictAt_at {prog : Program} {w : World} {K : Type} [DecidableEq K] {knd : KeyKind prog w K} {h h' : Heap} {a : Addr} {vs : List (K × Value)} {ep : Nat} (x : h.DictAt knd a vs ep) (k : ∀ o, h.get? a = some o → h'.get? a = some o) : h'.DictAt knd a vs ep :=
  let ⟨o, es, ho, r⟩ := x; ⟨o, es, k o ho, r⟩

theorem paired_get {α β : Type} {F : α → β → Prop} : ∀ {l₁ : List α} {l₂ : List β} {i : Nat} {b : β}, Paired F l₁ l₂ → l₂[i]? = some b → ∃ a, l₁[i]? = some a ∧ F a b
  | _, _, i, b, .nil, e => by simp at e
  | _, _, 0, b, .cons h _, e => by simp at e; subst e; exact ⟨_, rfl, h⟩
  | _, _, i + 1, b, .cons _ t, e => by simpa using paired_get t (by simpa using e)

section
variable {prog : Program} {w : World} {A : Around}

/-- a turn of the items' iterator -/
theorem items_item {E : Value → Shared → Prop} {s : Shared} {it D L : Addr} {i ep : Nat} {kvs : List (Str × Value)} {k : Str} {v : Value} {Q : Option Value → Shared → Prop} (hit : ItAt s.heap it D L i kvs.length ep) (hm : s.heap.DictAt (PySem.strKind prog w) D kvs ep)
    (hx : kvs[i]? = some (k, v)) (hL : L < s.heap.objs.size) (hI : it < s.heap.objs.size)
    (hQ : ∀ t h', ItAt h' it D L (i + 1) kvs.length ep → h'.get? s.heap.objs.size = some { cls := .type "tuple", data := .seq #[.str k t, v] } → (∀ b o, b ≠ it → s.heap.get? b = some o → h'.get? b = some o) → Q (some (.ref s.heap.objs.size)) { s with heap := h' }) :
    wpAny (model prog w) A (pyNext (.ref it)) Q E s := by
  have hkey : ∀ key, (PySem.strKind prog w).is k key = true → ∃ t, key = .str k t := fun key h => by
    obtain ⟨t, rfl⟩ := Value.isStrOf_shape h; exact ⟨t, rfl⟩
  rcases hit with ⟨ok, ov, e⟩ | ⟨a, ob, f1, ok, ov, e, e2, n1, n2⟩
  · refine wpAny_pyNext_items_item (knd := PySem.strKind prog w) e hm hx fun key h' hk he ht hz kp => ?_
    obtain ⟨t, rfl⟩ := hkey key hk
    exact hQ t h' (.inr ⟨_, _, _, _, _, he, ht, Nat.ne_of_gt hI, Nat.ne_of_gt hL⟩) ht kp
  · refine next_items_out (knd := PySem.strKind prog w) e e2 n1 hm hx fun key h' f1' hk he ht kp => ?_
    obtain ⟨t, rfl⟩ := hkey key hk
    exact hQ t h' (.inr ⟨a, ob, f1', ok, ov, he, kp _ _ n1 e2, n1, n2⟩) ht kp
theorem items_done {E : Value → Shared → Prop} {s : Shared} {it D L : Addr} {i ep : Nat} {kvs : List (Str × Value)} {Q : Option Value → Shared → Prop} (hh : A.handled = none) (hit : ItAt s.heap it D L i kvs.length ep) (hm : s.heap.DictAt (PySem.strKind prog w) D kvs ep)
    (hx : kvs[i]? = none) (hQ : ∀ h', Heap.ExtBut it s.heap h' → Q none { s with heap := h' }) : wpAny (model prog w) A (pyNext (.ref it)) Q E s := by
  rcases hit with ⟨ok, ov, e⟩ | ⟨a, ob, f1, ok, ov, e, e2, n1, n2⟩
  · exact next_items_end (knd := PySem.strKind prog w) hh e hm hx hQ
  · exact next_items_end (knd := PySem.strKind prog w) hh e hm hx hQ

theorem items_loop {R : Result → Shared → Prop} {L I D : Addr} {res : Value} {ep : Nat} {pairs : List (List Nat × List Nat)} {kvs : List (Str × Value)} (hh : A.handled = none) (hLI : L ≠ I) (hLD : L ≠ D) (hDI : D ≠ I) (hp : Paired KvIs pairs kvs) (hz : kvs.length ≤ sizeLine) (base : Heap) :
    ∀ (k i : Nat) (s : Shared) (acc : Array Value) (c : Nat), kvs.length - i = k → i ≤ kvs.length → ItAt s.heap I D L i kvs.length ep → s.heap.DictAt (PySem.strKind prog w) D kvs ep →
      s.heap.get? L = some { cls := .type "list", dict := none, data := .seq acc c, slots := #[] } → IsOffs L s.heap acc.toList ((pairs.take i).map tupD) → I < s.heap.objs.size → (∀ b o, b ≠ L → b ≠ I → base.get? b = some o → s.heap.get? b = some o) →
      (∀ h' acc' c', (∀ b o, b ≠ L → b ≠ I → base.get? b = some o → h'.get? b = some o) → h'.get? L = some { cls := .type "list", dict := none, data := .seq acc' c', slots := #[] } → IsOffs L h' acc'.toList (pairs.map tupD) → R (.ok (.ret res)) { s with heap := h' }) →
      codeAny (model prog w) A (.builtin "list.extend.loop" ⟨[.ref L, .ref I, res], []⟩) R s := by
  intro k
  induction k with
  | zero =>
    intro i s acc c hk hi hit hm hS hacc hIlt hkb hR
    have hin : i = kvs.length := by omega
    subst hin
    refine codeAny_builtin PySem.F.entry_extend_loop ?_
    rw [Around.under_plainId PySem.F.plain_extend_loop _]
    show wpAny _ A.in1 (pyNext (.ref I) >>= _) _ _ s
    refine wpAny_bind (items_done hh hit hm (by simp) fun h' hx => ?_)
    have hpl : s.heap.PlainList L acc := ⟨c, hS⟩
    refine wpAny_pure (hR h' acc c (fun b o h1 h2 e => hx b o h2 (hkb b o h1 h2 e)) (hx L _ hLI hS) ?_)
    rw [← hp.length, List.take_length] at hacc
    refine hacc.off hpl fun b o xs n hb e d => hx b o ?_ e
    rintro rfl
    exact hit.notSeq e d
  | succ k ih =>
    intro i s acc c hk hi hit hm hS hacc hIlt hkb hR
    have hlt : i < kvs.length := by omega
    refine codeAny_builtin PySem.F.entry_extend_loop ?_
    rw [Around.under_plainId PySem.F.plain_extend_loop _]
    show wpAny _ A.in1 (pyNext (.ref I) >>= _) _ _ s
    obtain ⟨kk, vv, hx⟩ : ∃ kk vv, kvs[i]? = some (kk, vv) := ⟨kvs[i].1, kvs[i].2, by simp [hlt]⟩
    obtain ⟨p, hpp, hk1, t', hv1⟩ := paired_get hp hx
    have hLlt : L < s.heap.objs.size := Heap.lt_size hS
    refine wpAny_bind (items_item hit hm hx hLlt hIlt fun t h' hit' htup kp => ?_)
    have hS' : h'.get? L = some { cls := .type "list", dict := none, data := .seq acc c, slots := #[] } := kp L _ hLI hS
    have hpl : s.heap.PlainList L acc := ⟨c, hS⟩
    have hpl' : h'.PlainList L acc := ⟨c, hS'⟩
    have hacc' : IsOffs L h' acc.toList ((pairs.take i).map tupD) := hacc.off hpl fun b o xs n hb e d => kp b o (by
      rintro rfl
      exact hit.notSeq e d) e
    have hnew : Is h' (.ref s.heap.objs.size) (tupD p) := by
      refine Is.tuple (vs := #[.str kk t, vv]) ⟨_, htup, rfl, _, rfl⟩ ?_
      dsimp only at hk1 hv1
      subst hk1 hv1
      exact IsAll.cons (Is.str _ _ _) (IsAll.cons (Is.str _ _ _) (IsAll.nil _))
    have hsz : acc.size ≤ kvs.length := by
      have e1 := hacc.length
      have e2 : acc.toList.length = acc.size := by simp
      rw [List.length_map, List.length_take] at e1
      omega
    have haccs : (acc.push (.ref s.heap.objs.size)).toList = acc.toList ++ [.ref s.heap.objs.size] := by simp
    show wpAny _ A.in1 (updateSeq L (·.push (.ref s.heap.objs.size)) >>= _) _ _ _
    refine wpAny_bind ?_
    have oth : ∀ b o, b ≠ L → h'.get? b = some o → (h'.update L (Obj.mapSeq (·.push (.ref s.heap.objs.size)))).get? b = some o := fun b o hb e => (Heap.get?_update_other _ _ (Ne.symm hb)).trans e
    refine wpAny_updateSeq hS' rfl (wpAny_pure ⟨plainId_quiet PySem.F.plain_extend_loop _, ih (i + 1) _ (acc.push (.ref s.heap.objs.size)) _ (by omega) hlt (hit'.keep (Ne.symm hLI) oth) (dictAt_at hm fun o e => oth _ o (Ne.symm hLD) (kp _ o hDI e)) (Heap.get?_update_self _ hS' rfl) ?_ ?_ ?_ ?_⟩) ?_ ?_
    · rw [List.take_add_one, hpp, haccs, List.map_append]
      exact (hacc'.snoc (hnew.isOff (nd_tup p))).off hpl' fun b o xs n hb e _ => oth b o hb e
    · have : (h'.update L (Obj.mapSeq (·.push (.ref s.heap.objs.size)))).objs.size = h'.objs.size := Heap.size_after_update ..
      show I < _
      rw [this]
      obtain ⟨vs, e'⟩ := hit'.there
      exact Heap.lt_size e'
    · exact fun b o h1 h2 e => oth b o h1 (kp b o h2 (hkb b o h1 h2 e))
    · exact fun h'' acc'' c'' h1 h2 h3 => hR h'' acc'' c'' h1 h2 h3
    · omega
    · show (acc.push _).size ≤ sizeLine + 1
      rw [Array.size_push]; omega
end
end Ny

namespace Ny
open PySem PySem.W PySem.Calls PyProof.Rows

section
variable {prog : Program} {w : World} {A : Around} {E : Value → Shared → Prop} {s : Shared}

theorem hint_items {v d : Addr} {Q : Bool → Shared → Prop} (hv : s.heap.IsItemsView v d) (h : Q false s) : wpAny (model prog w) A (Builtin.List.listLengthHint (.ref v)) Q E s := by
  unfold Builtin.List.listLengthHint
  refine wpAny_bind (wpAny_specialOf hv.typeIs PySem.F.slot_dict_items_len.lookup ?_)
  generalize hid : ("dict_items.__len__" : String) = id0
  wp_delta
  rw [show splitId id0 = some ("dict_items", "__len__") from by subst hid; decide +kernel]
  subst hid
  refine wpAny_bind (wpAny_isInstance (T := "dict_items") (b := true) hv.typeIs (by rw [isSubtype_type]; kernel_rfl) ?_)
  refine wpAny_ite_split (fun hab => absurd hab (by decide)) (fun _ => ?_)
  refine wpAny_ite_split (fun _ => ?_) (fun hab => absurd (by decide +kernel) hab)
  refine wpAny_bind (wpAny_typeOf hv.typeIs ?_)
  exact wpAny_pure h

theorem items_extend {R : Result → Shared → Prop} {L V D : Addr} {res : Value} {ep c₀ : Nat} {pairs : List (List Nat × List Nat)} {kvs : List (Str × Value)} (hh : A.handled = none) (hp : Paired KvIs pairs kvs) (hz : kvs.length ≤ sizeLine)
    (hv : s.heap.IsItemsView V D) (hm : s.heap.DictAt (PySem.strKind prog w) D kvs ep) (hLV : L ≠ V) (hLD : L ≠ D) (hS : s.heap.get? L = some { cls := .type "list", data := .seq #[] c₀ })
    (hR : ∀ h' acc' c', (∀ b o, b ≠ L → s.heap.get? b = some o → h'.get? b = some o) → h'.get? L = some { cls := .type "list", dict := none, data := .seq acc' c', slots := #[] } → IsOffs L h' acc'.toList (pairs.map tupD) → R (.ok (.ret res)) { s with heap := h' }) :
    wpAny (model prog w) A.in1 (Builtin.List.listExtendWith (.ref L) (.ref V) res)
      (fun fin s' => match fin with | .done f => R (.ok f) s' | .again c' => c'.quiet = true ∧ codeAny (model prog w) A c' R s') (fun e s' => R (.error e) s') s := by
  have hLlt : L < s.heap.objs.size := Heap.lt_size hS
  have hDlt : D < s.heap.objs.size := by obtain ⟨o, es, ho, _⟩ := hm; exact Heap.lt_size ho
  unfold Builtin.List.listExtendWith
  refine wpAny_bind (wpAny_typeOf hv.typeIs ?_)
  have h1 : Builtin.List.listSameRef (.ref L) (.ref V) = false := by simp [Builtin.List.listSameRef, hLV]
  have h2 : (Value.type "dict_items" == Value.type "list") = false := by decide
  have h3 : (Value.type "dict_items" == Value.type "tuple") = false := by decide
  simp only [h1, h2, h3, Bool.or_false, Bool.false_eq_true, if_false]
  refine wpAny_bind (wpAny_pyIter_items (knd := PySem.strKind prog w) hv hm ?_)
  generalize hI : s.heap.objs.size = I at *
  have hLI : L ≠ I := Nat.ne_of_lt hLlt
  have hDI : D ≠ I := Nat.ne_of_lt hDlt
  generalize hH : s.heap.push { cls := .type "dict_itemiterator", data := .fields #[.none, .bool false, .ref D, .int 0 0, .int kvs.length 0, .int ep 0, .none, .none] } = H
  have gp : Grow s.heap H := hH ▸ Grow.push _ _
  have hit : IsIt H I D 0 kvs.length ep .none (.bool false) .none .none := by
    show H.get? I = _
    rw [← hH, ← hI]; exact Heap.get?_push_size _ rfl
  obtain ⟨ov, hov, hcv, hdv⟩ := id hv
  refine wpAny_bind (wpAny_holding (hint_items (v := V) (d := D) ⟨ov, gp _ _ hov, hcv, hdv⟩ ?_))
  have hS₁ := gp _ _ hS
  have key : ∀ (h : Heap) (c₁ : Nat), IsIt h I D 0 kvs.length ep .none (.bool false) .none .none → (∀ b o, b ≠ L → H.get? b = some o → h.get? b = some o) →
      h.get? L = some { cls := .type "list", data := .seq #[] c₁ } → codeAny (model prog w) A (.builtin "list.extend.loop" ⟨[.ref L, .ref I, res], []⟩) R { s with heap := h } := by
    intro h c₁ hit' hk hS₂
    refine items_loop hh hLI hLD hDI hp hz s.heap kvs.length 0 _ #[] c₁ rfl (Nat.zero_le _) (.inl ⟨_, _, hit'⟩) (dictAt_at hm fun o e => hk D o (Ne.symm hLD) (gp _ _ e)) hS₂ (by simpa using IsOffs.nil) (Heap.lt_size hit') (fun b o h1 h2 e => hk b o h1 (gp _ _ e)) fun h' acc' c' k1 k2 k3 => ?_
    exact hR h' acc' c' (fun b o hb e => k1 b o hb (Nat.ne_of_lt (hI ▸ Heap.lt_size e)) e) k2 k3
  refine wpAny_ite_split (fun _ => ?_) (fun hab => absurd (by decide +kernel) hab)
  refine wpAny_bind (wpAny_rule ?_)
  refine wpAny_bind ?_
  show wpAny _ _ (updateSeq L (·.push .none) >>= fun _ => updateSeq L (·.pop)) _ _ _
  refine wpAny_bind (wpAny_updateSeq hS₁ rfl ?_)
  have hS₂ := Heap.get?_update_self (Obj.mapSeq (·.push Value.none)) hS₁ rfl
  refine wpAny_updateSeq (hz := by seq_fits) hS₂ rfl ?_
  have hS₃ := Heap.get?_update_self (Obj.mapSeq (·.pop)) hS₂ rfl
  refine wpAny_pure ⟨plainId_quiet PySem.F.plain_extend_loop _, key _ _ ?_ (fun b o hb e => ?_) hS₃⟩
  · exact (Heap.get?_update_other _ _ hLI).trans ((Heap.get?_update_other _ _ hLI).trans hit)
  · exact (Heap.get?_update_other _ _ (Ne.symm hb)).trans ((Heap.get?_update_other _ _ (Ne.symm hb)).trans e)

theorem call_list_items {V D : Addr} {ep : Nat} {pairs : List (List Nat × List Nat)} {kvs : List (Str × Value)} {Q : Value → Shared → Prop} (hh : A.handled = none) (hp : Paired KvIs pairs kvs) (hz : kvs.length ≤ sizeLine)
    (hv : s.heap.IsItemsView V D) (hm : s.heap.DictAt (PySem.strKind prog w) D kvs ep)
    (hQ : ∀ h' v, Grow s.heap h' → Is h' v (.list (pairs.map tupD)) → Q v { s with heap := h' }) :
    wpAny (model prog w) A (call (.type "list") [.ref V]) Q E s := by
  refine callType_codes (Q₁ := fun obj s₁ => obj = .ref s.heap.objs.size ∧ s₁ = { s with heap := s.heap.push { cls := .type "list", data := .seq #[] } }) PySem.F.called_list (PySem.F.typeCall_list_1 _) PySem.F.entry_list_init
    (code_list_new _ ⟨rfl, rfl⟩) fun obj s₁ h₁ => ?_
  obtain ⟨rfl, rfl⟩ := h₁
  have hS : (s.heap.push { cls := .type "list", data := .seq #[] }).get? s.heap.objs.size = some { cls := .type "list", data := .seq #[] } := Heap.get?_push_size _ rfl
  have gp := Grow.push s.heap { cls := .type "list", data := .seq #[] }
  obtain ⟨ov, hov, hcv, hdv⟩ := id hv
  have hVlt : V < s.heap.objs.size := Heap.lt_size hov
  have hDlt : D < s.heap.objs.size := by obtain ⟨o, es, ho, _⟩ := hm; exact Heap.lt_size ho
  refine ⟨⟨_, hS, rfl⟩, PySem.F.args_list_init_2 _ _, ?_⟩
  generalize hL : s.heap.objs.size = L at *
  generalize s.heap.push { cls := .type "list", data := .seq #[] } = H at *
  show wpAny _ _ (do let old ← Builtin.List.listItems (.ref L); Builtin.List.listUpdate (.ref L) (fun _ => #[]); letGo old.toList.reverse; Builtin.List.listExtendWith (.ref L) (.ref V) .none) _ _ _
  refine wpAny_bind ?_
  unfold Builtin.List.listItems
  refine wpAny_bind (wpAny_seqItems hS rfl (wpAny_pure ?_))
  show wpAny _ _ (updateSeq L (fun _ => #[]) >>= fun _ => letGo (#[] : Array Value).toList.reverse >>= fun _ => Builtin.List.listExtendWith (.ref L) (.ref V) .none) _ _ _
  refine wpAny_bind (wpAny_updateSeq hS rfl ?_)
  have hS₂ := Heap.get?_update_self (Obj.mapSeq (fun _ => (#[] : Array Value))) hS rfl
  have oth : ∀ b o, b ≠ L → H.get? b = some o → (H.update L (Obj.mapSeq (fun _ => (#[] : Array Value)))).get? b = some o := fun b o hb e => (Heap.get?_update_other _ _ (Ne.symm hb)).trans e
  refine wpAny_bind (wpAny_letGo ?_)
  have hVL : V ≠ L := Nat.ne_of_lt hVlt
  have hDL : D ≠ L := Nat.ne_of_lt hDlt
  refine items_extend hh hp hz (V := V) (D := D) (ep := ep) ⟨ov, oth _ _ hVL (gp _ _ hov), hcv, hdv⟩ (dictAt_at hm fun o e => oth _ o hDL (gp _ _ e)) (Ne.symm hVL) (Ne.symm hDL) hS₂ fun h' acc' c' k1 k2 k3 => ?_
  refine ⟨rfl, hQ h' _ (fun b o e => ?_) (Is.list (vs := acc') ⟨_, k2, rfl, _, rfl⟩ k3.is)⟩
  have hb : b ≠ L := Nat.ne_of_lt (hL ▸ Heap.lt_size e)
  exact k1 b o hb (oth b o hb (gp _ _ e))
end
end Ny

namespace Ny
open PySem PySem.W PySem.Calls PyProof.Rows

/-! ## Errors that leave a def -/
theorem leaves_newU {M : Model} {A : Around} {E : Value → Shared → Prop} {s : Shared} {base h : Heap} {env : Env} {outer : List Env} {L e : Addr} {cls : String} {Q : Unit → Shared → Prop}
    (hfr : A.frames = some (env :: outer)) (hf : env.frame = some L) (hkb : base.StaysIn h) (hl : h.FunFrames base (env :: outer)) (hx : Heap.NewExc h s.heap e cls)
    (hQ : ∀ h' a0, Heap.FlyingW base outer e (.type cls) a0 h' → s.heap.UpToSlots h' → Q () { s with heap := h' }) : wpAny M A (leaving env (.ref e)) Q E s := by
  obtain ⟨ob, tp, he, hcls, hd⟩ := hx.there
  have hen : base.get? e = none := by
    cases hq : base.get? e with
    | none => rfl
    | some o' => have := hkb e o' hq; rw [hx.new] at this; cases this
  refine wpAny_leaving_firstW (a0 := tp) hfr (hl.of_keeps fun b o hb _ => ⟨o, hx.keeps b o hb, rfl⟩) hf he (fun b o hb => hx.keeps b o (hkb b o hb)) hen hd rfl rfl fun h' hL => ?_
  obtain ⟨k1, ⟨_, _, k2⟩, k3, k4⟩ := hL
  exact hQ h' tp ⟨k1, hen, k2, by rw [← hcls]; exact k3⟩ k4

theorem keqvGo_cons (kvs : List (List Nat × List Nat)) (e : List Nat) (es : List (List Nat)) : keqvGo kvs (e :: es) = match keqvStep kvs e with
    | .ok kvs' => keqvGo kvs' es
    | .error c => .error c := rfl
theorem keqvGo_app : ∀ (kvs : List (List Nat × List Nat)) (a b : List (List Nat)), keqvGo kvs (a ++ b) = match keqvGo kvs a with
    | .ok kvs' => keqvGo kvs' b
    | .error c => .error c
  | kvs, [], b => rfl
  | kvs, e :: a, b => by
    rw [List.cons_append, keqvGo_cons, keqvGo_cons]
    cases keqvStep kvs e with
    | error c => rfl
    | ok kvs' => exact keqvGo_app kvs' a b
theorem putL_le (kvs : List (List Nat × List Nat)) (k v : List Nat) : (putL kvs k v).length ≤ kvs.length + 1 := by
  unfold putL; split <;> simp
theorem keqvGo_le : ∀ (items : List (List Nat)) (kvs kvs' : List (List Nat × List Nat)), keqvGo kvs items = .ok kvs' → kvs'.length ≤ kvs.length + items.length
  | [], kvs, kvs', h => by cases h; simp
  | e :: es, kvs, kvs', h => by
    unfold keqvGo at h
    cases hs : keqvStep kvs e with
    | error c => rw [hs] at h; cases h
    | ok kvs₁ =>
      rw [hs] at h
      have h1 := keqvGo_le es kvs₁ kvs' h
      have h2 : kvs₁.length ≤ kvs.length + 1 := by
        unfold keqvStep at hs
        split at hs
        · cases hs
        · cases hs
        · cases hs; exact putL_le _ _ _
      rw [List.length_cons]; omega

theorem keqv_split {items : List (List Nat)} {i : Nat} {l : List Nat} (hc : items[i]? = some l) : items = items.take i ++ (l :: items.drop (i + 1)) := by
  have hlt : i < items.length := by rw [List.getElem?_eq_some_iff] at hc; exact hc.1
  have : items.drop i = l :: items.drop (i + 1) := by
    rw [List.drop_eq_getElem_cons hlt]
    rw [List.getElem?_eq_some_iff] at hc
    rw [hc.2]
  rw [← this, List.take_append_drop]
theorem keqv_err {items : List (List Nat)} {i : Nat} {l : List Nat} {kvs : List (List Nat × List Nat)} (hc : items[i]? = some l) (hg : keqvGo [] (items.take i) = .ok kvs) (cls : String) (h : keqvStep kvs l = .error cls) : keqvL items = .error cls := by
  unfold keqvL
  rw [keqv_split hc, keqvGo_app, hg]
  show keqvGo kvs (l :: _) = _
  rw [keqvGo_cons, h]
theorem keqv_next {items : List (List Nat)} {i : Nat} {l : List Nat} {kvs kvs' : List (List Nat × List Nat)} (hc : items[i]? = some l) (hg : keqvGo [] (items.take i) = .ok kvs) (h : keqvStep kvs l = .ok kvs') : keqvGo [] (items.take (i + 1)) = .ok kvs' := by
  rw [List.take_add_one, hc, keqvGo_app, hg]
  show keqvGo kvs [l] = _
  rw [keqvGo_cons, h]
  rfl
theorem keqv_short {items : List (List Nat)} {i : Nat} {kvs : List (List Nat × List Nat)} (hg : keqvGo [] (items.take i) = .ok kvs) : kvs.length ≤ items.length := by
  have := keqvGo_le _ _ _ hg
  rw [List.length_take, List.length_nil] at this
  omega

section
variable {prog : Program} {w : World} {mg mb : Str → Option Value}

def keqvMid : List Stmt := ((bodyAt 1).drop 1).take 1
def keqvRet : List Stmt := (bodyAt 1).drop 2
theorem keqv_body : bodyAt 1 = .Assign [.Name "parsed" ⟨3, 4, 3, 10⟩] (.Dict [] [] ⟨3, 13, 3, 15⟩) ⟨3, 4, 3, 15⟩ :: (keqvMid ++ keqvRet) := by kernel_rfl


theorem keqv_mid {A : Around} {base : Heap} {D L a : Addr} {cd : Value} (hh : A.handled = none) (items : List (List Nat)) (hz : ∀ l ∈ items, l.length ≤ 1000000) (hz2 : items.length ≤ 1000000) :
    Bk (keqvCfg prog w mg mb A (envOf (nameAt 1) (scopeAt 1) L a cd) base D) [("l", .list (items.map fun l => .str (S l)))] [] keqvMid
      (fun f ρ' x' => f = .next ∧ keqvL items = .ok x') (keqvEr (envOf (nameAt 1) (scopeAt 1) L a cd) base items) := by
  have re : ("parsed" : Str) ≠ "elt" := by decide
  have hsl : sizeLine = 16777216 := rfl
  refine bk_for (ds := items.map fun l => .str (S l)) (fun i ρ kvs => ρ = [] ∧ keqvGo [] (items.take i) = .ok kvs) (Rs := fun v h => Is h v (.list (items.map fun l => .str (S l)))) ?b1 (fun v h at₁ i => srcB_list hh ?b0 i) ?b2 ?b3 re ?b4 ?b5 ?b6 ?b7 ?b8
  case b0 =>
    rintro b o xs n e hd (hb | hb)
    · obtain ⟨m, hn, _⟩ := at₁.ns
      obtain ⟨o', es, ep, ho, hd', _⟩ := hn
      rw [← hb, e] at ho; cases ho; rw [hd] at hd'; cases hd'
    · obtain ⟨vs, hdo, _⟩ := at₁.x
      obtain ⟨o', es, ep, ho, _, hd', _⟩ := hdo
      have hb' : b = D := hb
      rw [← hb', e] at ho; cases ho; rw [hd] at hd'; cases hd'
  case b1 => exact ev_local (by rfl) (by rfl) (by decide)
  case b2 => intro d hd; obtain ⟨c, _, rfl⟩ := List.mem_map.mp hd; rfl
  case b3 => rfl
  case b4 =>
    rintro y h ⟨vs, hdo, _⟩
    obtain ⟨o', es, ep, ho, _⟩ := hdo
    exact Heap.lt_size ho
  case b5 => exact ⟨[], fun z d e => by simp at e, rfl, rfl⟩
  case b8 => intro _; rfl
  case b6 =>
    rintro i d ρ kvs hd ⟨rfl, hg⟩
    rw [List.getElem?_map] at hd
    obtain ⟨l, hc, rfl⟩ := Option.map_eq_some_iff.mp hd
    have hkl : List.length (α := List Nat × List Nat) kvs ≤ sizeLine := Nat.le_trans (keqv_short hg) (by omega)
    have herr := fun cls h => keqv_err hc hg cls h
    have st := keqv_step (prog := prog) (w := w) (mg := mg) (mb := mb) (base := base) (D := D) (L := L) (a := a) (cd := cd) hh kvs l items (hz l (List.mem_of_getElem? hc)) hkl herr
    refine .mk fun ok s E at₁ hE hp => wpAny_mono (st.run ok s E at₁ hE hp) (fun f s' q => ?_) fun _ _ q => q
    obtain ⟨ρ', x', h', tk, rfl, q1, ⟨rfl, hst⟩, at₂⟩ := q
    refine ⟨ρ', x', h', tk, rfl, q1, ⟨.inl rfl, [], fun z d e => by simp at e, rfl, ?_⟩, at₂⟩
    exact keqv_next hc hg hst
  case b7 =>
    rintro ρ kvs ⟨rfl, hg⟩
    rw [List.length_map, List.take_length] at hg
    exact bk_nil ⟨rfl, hg⟩

theorem dictOf_new (h : Heap) : (h.push { cls := .type "dict", data := .dict #[] }).DictOf (PySem.strKind prog w) h.objs.size [] :=
  ⟨_, _, _, Heap.get?_push_size _ rfl, ⟨rfl, rfl, rfl⟩, rfl, fun e he => by simp at he, .nil, by simp⟩

theorem upToSlots_grow {h h' : Heap} (g : Grow h h') : h.UpToSlots h' := Heap.UpToSlots.of_keeps g

theorem call_keqv {A : Around} {s : Shared} {E : Value → Shared → Prop} {Q : Value → Shared → Prop} {a : Addr} {v : Value} {base₀ : Heap} {outer : List Env} {items : List (List Nat)} (hA : AOk A 0) (hG : G prog w mg mb s.heap) (hfr : A.frames = some outer) (hfun : s.heap.FunFrames base₀ outer) (hst : base₀.StaysIn s.heap)
    (hv : Is s.heap v (.list (items.map fun l => .str (S l)))) (hz : ∀ l ∈ items, l.length ≤ 1000000) (hz2 : items.length ≤ 1000000) (ha : mg (nameAt 1) = some (.ref a))
    (hok : ∀ kvs D h' tk, keqvL items = .ok kvs → Grow s.heap h' → s.heap.objs.size ≤ D → keqvX prog w D kvs h' → Q (.ref D) { s with heap := h', toks := tk })
    (herr : ∀ cls e a0 h' tk, keqvL items = .error cls → (cls = "ValueError" ∨ cls = "IndexError") → Heap.FlyingW base₀ outer e (.type cls) a0 h' → s.heap.UpToSlots h' → E (.ref e) { s with heap := h', toks := tk }) :
    wpAny (model prog w) A (call (.ref a) [v]) Q E s := by
  obtain ⟨a', o, pm, cd, doc, h1, h2, h3, h4⟩ := hG.fn 1 (by decide)
  rw [ha] at h1
  cases h1
  refine wpAny_call (call_plain (binds := [("l", v)]) hA.room h2 h3 hG.lim h4 (by rfl) (fun x hx => by rw [List.mem_singleton] at hx; subst hx; rfl) (fun h₁ F => ?_) (by rfl) (by rfl) (by rfl) (by decide +kernel))
  generalize hL : s.heap.objs.size = L at *
  have hk : (envOf (nameAt 1) (scopeAt 1) L a cd).scope.kind = .function := by rfl
  rw [keqv_body]
  refine wpAny_execs_cons (wpAny_Assign_Name (wpAny_Dict_empty ?_) (by rfl))
  dsimp only
  generalize hD : h₁.objs.size = D
  generalize hH : h₁.push { cls := .type "dict", data := .dict #[] } = H
  have gp : Grow h₁ H := hH ▸ Grow.push _ _
  have hdo : H.DictOf (PySem.strKind prog w) D [] := by rw [← hH, ← hD]; exact dictOf_new h₁
  have hn₁ := F.ns.keeps gp
  have hLlt : L < D := by rw [← hD]; exact F.ns.lt
  refine wpAny_storeName_local (by rfl) hn₁ (fun h₂ hn₂ hs₂ => ?_) (by rw [hk]; rfl)
  dsimp only at hn₂ hs₂
  have hbase : s.heap.objs.size ≤ L := Nat.le_of_eq hL
  have g₂ : Grow s.heap h₂ := grow_sameBut (g := fun b o e => gp b o (F.keep b o e)) hbase hs₂
  have sq := seqGrow_of_sameBut hn₁ hs₂
  have hL0 : s.heap.get? L = none := by
    cases e : s.heap.get? L with
    | none => rfl
    | some o' => exact absurd (Heap.lt_size e) (by rw [hL]; exact Nat.lt_irrefl _)
  have ok : (keqvCfg prog w mg mb (A.deeper (envOf (nameAt 1) (scopeAt 1) L a cd)) (envOf (nameAt 1) (scopeAt 1) L a cd) s.heap D).Ok := by
    refine ⟨hG, hbase, Nat.le_trans hbase (Nat.le_of_lt hLlt), Nat.ne_of_gt hLlt, ?_⟩
    rintro y h h'' kp ⟨vs, e1, e2⟩
    exact ⟨vs, dictOf_at e1 kp, e2⟩
  have at₀ : At (keqvCfg prog w mg mb (A.deeper (envOf (nameAt 1) (scopeAt 1) L a cd)) (envOf (nameAt 1) (scopeAt 1) L a cd) s.heap D) [("l", .list (items.map fun l => .str (S l)))] [] h₂ := by
    refine ⟨⟨hG.grow g₂, hk, rfl, rfl, ⟨_, hn₂, fun z d e => ?_⟩, fun z d e => by simp at e⟩, g₂, ⟨_, hn₂, if_pos rfl⟩, ⟨[], dictOf_at hdo fun o e => hs₂.extBut D o (Nat.ne_of_gt hLlt) e, .nil⟩⟩
    rw [List.lookup_cons] at e
    cases hz' : z == ("l" : Str) with
    | false => rw [hz'] at e; simp at e
    | true =>
      rw [hz'] at e; cases e
      rw [beq_iff_eq.mp hz']
      exact ⟨v, (if_neg (by decide)).trans rfl, hv.grow g₂⟩
  have hfrD : (A.deeper (envOf (nameAt 1) (scopeAt 1) L a cd)).frames = some (envOf (nameAt 1) (scopeAt 1) L a cd :: outer) := Around.frames_deeper hfr
  refine wpAny_execs_app (wpAny_mono ((keqv_mid (A := A.deeper (envOf (nameAt 1) (scopeAt 1) L a cd)) hA.handled items hz hz2).run ok { s with heap := h₂, toks := _ } _ at₀ (fun e h' tk hr => ?_) PassesOwn.leaving) (fun f s₂ q => ?_) fun _ _ q => q)
  · obtain ⟨cls, h₃, ae, rfl, hre, hcl, hx, hg₃, m, hn₃⟩ := hr
    have hfun₃ : h₃.FunFrames base₀ (envOf (nameAt 1) (scopeAt 1) L a cd :: outer) := by
      refine Heap.FunFrames.cons (L := L) (by rw [hk]; decide) rfl hn₃ ?_ (hfun.of_keeps fun b o hb _ => ⟨o, hg₃ b o hb, rfl⟩)
      cases e : base₀.get? L with
      | none => rfl
      | some o' => rw [hst L o' e] at hL0; cases hL0
    refine leaves_newU (L := L) (h := h₃) hfrD rfl (fun b o e => hg₃ b o (hst b o e)) hfun₃ hx fun h' a0 hfl hup => ?_
    refine herr cls ae a0 h' _ hre hcl hfl ?_
    exact (upToSlots_grow (fun b o e => hx.keeps b o (hg₃ b o e))).trans hup
  · obtain ⟨ρ', kvs, h₃, tk₃, rfl, q₂, ⟨rfl, hre⟩, at₂⟩ := q
    dsimp only
    obtain ⟨m₂, hn₂', hr₂⟩ := at₂.ns
    refine wpAny_execs_cons (wpAny_Return_some (wpAny_Name (wpAny_loadName_local (by exact hk) (by rfl) hn₂' hr₂ ?_) (by decide)))
    exact hok kvs D h₃ tk₃ hre at₂.gr (Nat.le_of_lt hLlt) at₂.x
end
end Ny

namespace Ny
open PySem PySem.W PySem.Calls PyProof.Rows

def readD (items : List (List Nat)) : PyData := match keqvL items with
  | .ok kvs => .list (kvs.map tupD)
  | .error cls => .str (Str.ofString cls)

/-- all but records is kept, up to what a frame notes of itself; the base is kept whole -/
structure Slots (base₀ : Heap) (outer : List Env) (h h' : Heap) : Prop where
  up : h.UpToSlots h'
  st : base₀.StaysIn h'
  fr : h'.FunFrames base₀ outer

section
variable {prog : Program} {w : World} {mg mb : Str → Option Value}

/-- the call in the try's block -/
theorem read_body {A : Around} {s : Shared} {env : Env} {E : Value → Shared → Prop} {Q : Value → Shared → Prop} {base₀ : Heap} {outer : List Env} {items : List (List Nat)} {p₁ p₂ p₃ p₄ p₅ p₆ p₇ : Pos} (hA : AOk A 1) (hfr : A.frames = some outer) (hfun : s.heap.FunFrames base₀ outer) (hst : base₀.StaysIn s.heap)
    (F : Fm prog w mg mb env [("items", .list (items.map fun l => .str (S l)))] [] s.heap) (hz : ∀ l ∈ items, l.length ≤ 1000000) (hz2 : items.length ≤ 1000000)
    (k1 : env.kindOf "list" = some .globalImplicit) (k2 : env.kindOf "parse_keqv_list" = some .globalImplicit) (k3 : env.kindOf "items" = some .local)
    (hb : attributeBase (.Call (.Name "parse_keqv_list" p₁) [.Name "items" p₂] [] p₃) "items" env (eval (.Call (.Name "parse_keqv_list" p₁) [.Name "items" p₂] [] p₃) env) = eval (.Call (.Name "parse_keqv_list" p₁) [.Name "items" p₂] [] p₃) env) (hl : (p₄.endLine == p₅.line) = true)
    (hok : ∀ kvs v h' tk, keqvL items = .ok kvs → Grow s.heap h' → Is h' v (.list (kvs.map tupD)) → Q v { s with heap := h', toks := tk })
    (herr : ∀ cls e a0 h' tk, keqvL items = .error cls → (cls = "ValueError" ∨ cls = "IndexError") → Heap.FlyingW base₀ outer e (.type cls) a0 h' → s.heap.UpToSlots h' → E (.ref e) { s with heap := h', toks := tk }) :
    wpAny (model prog w) A (eval (.Call (.Name "list" p₆) [.Call (.Attribute (.Call (.Name "parse_keqv_list" p₁) [.Name "items" p₂] [] p₃) "items" p₄) [] [] p₅] [] p₇) env) Q E s := by
  obtain ⟨b1, b2⟩ := F.gl.bl "list" (by decide)
  refine wpAny_Call_Name_kw (Name_function_global F.kind k1 (loadGlobal_builtin (mg := mg) (mb := mb) (by rw [F.glo]; exact F.gl.g) b1 (by rw [F.blt]; exact F.gl.b) (b2.trans rfl) ?_) (by decide))
  refine PyProof.Rows.callWith_type1 (T := "list") (wpAny_items_cons ?_ (star_of rfl [] env)) (star_of rfl [] env) rfl
  refine Call_method0 hb hl ?_
  obtain ⟨a, o, pm, cd, doc, h1, h2, h3, h4⟩ := F.gl.fn 1 (by decide)
  refine wpAny_Call_Name_kw (Name_function_global F.kind k2 (loadGlobal_global (mg := mg) (by rw [F.glo]; exact F.gl.g) (show mg "parse_keqv_list" = some (.ref a) from h1) ?_) (by decide))
  obtain ⟨m, hn, hm⟩ := F.loc
  obtain ⟨v, hv, hi⟩ := hm "items" _ (by rfl)
  refine callWith_def h3 (wpAny_items_cons (wpAny_Name (wpAny_loadName_local F.kind k3 hn hv (wpAny_items_nil ⟨h2, ?_⟩)) (by decide)) (star_of rfl [] env)) (star_of rfl [] env)
  refine call_keqv (hA.le (by decide)) F.gl hfr hfun hst hi hz hz2 h1 (fun kvs D h' tk hre g hD hx => ?_) herr
  obtain ⟨vs, hdo, hp⟩ := hx
  have hm3 : (3 : Nat) < s.heap.objs.size := F.gl.g.lt
  have hDs : (D == sysModules) = false := by
    rw [beq_eq_false_iff_ne]
    intro e
    rw [e] at hD
    have : s.heap.objs.size ≤ 1 := hD
    omega
  refine ⟨"dict", "dict.items", PySem.F.plainAttrs_dict, PySem.F.slot_dict_items, PySem.F.type_dict_items, hdo.typeIs, hdo.mapOf.noDict, ?_⟩
  refine method_meetsIn PySem.F.slot_dict_items PySem.F.entry_dict_items rfl (PySem.evalArgs_none ⟨rfl, hdo.typeIs, PySem.F.args_dict_items_1 _, _, meets_dict_items (PySem.strKind prog w) D hDs, ⟨vs, hdo⟩, ?_⟩)
  refine wpAny_items_nil ?_
  obtain ⟨ep, hat⟩ := hdo.dictAt
  have hkl : kvs.length ≤ items.length := by
    have := keqvGo_le _ _ _ hre
    simpa using this
  have hsz : vs.length ≤ sizeLine := by
    rw [← hp.length]
    have : sizeLine = 16777216 := rfl
    omega
  refine call_list_items hA.handled hp hsz (V := h'.objs.size) (D := D) (ep := ep) ⟨_, Heap.get?_push_size _ rfl, rfl, rfl⟩ (dictAt_at hat fun o e => Heap.get?_push_of_some _ e) fun h₂ v₂ g₂ hi₂ => ?_
  exact hok kvs v₂ h₂ tk hre (fun b o e => g₂ b o (Heap.get?_push_of_some _ (g b o e))) hi₂

/-- an except clause by a class of errors, at an error of class X -/
theorem clause {A : Around} {s : Shared} {env : Env} {E : Value → Shared → Prop} {Q : Flow → Shared → Prop} {base₀ : Heap} {l : List Env} {e : Addr} {a0 : Value} {T : Str} {b : Bool} {p pos p' p'' : Pos} {k : Nat} {x : Str} {rest : List ExceptHandler}
    (XT TT : String) (hT : T = Str.ofString TT) (hG₀ : G prog w mg mb base₀) (hglo : env.globals = mainGlobals) (hblt : env.builtins = builtinsNs) (hkind : env.scope.kind = .function) (hm : T ∈ bltsUsed) (hb : bootBuiltins T = some (.type TT)) (hx : env.kindOf T = some .globalImplicit) (hd : (T == ("__debug__" : Str)) = false)
    (hexc : isSubtype (.type TT) (.type "BaseException") = pure true) (hnt : isSubtype (.type ((Manifest.find? TT).elim "type" fun x => x.metatype)) (.type "tuple") = pure false)
    (hsub : isSubtype (.type XT) (.type TT) = pure b) (hfl : Heap.FlyingW base₀ l e (.type XT) a0 s.heap)
    (hyes : b = true → ∀ v h', base₀.StaysIn h' → h'.FunFrames base₀ l → s.heap.UpToSlots h' → v = .str x s.toks → Q (.ret v) { s with heap := h', toks := s.toks + 1 })
    (hno : b = false → wpAny (model prog w) A (handleBy (.ref e) env rest) Q E s) :
    wpAny (model prog w) A (handleBy (.ref e) env (.ExceptHandler (some (.Name T p)) none [.Return (some (.Constant (.str x) k p'')) p'] pos :: rest)) Q E s := by
  have hG := hG₀.grow hfl.1
  obtain ⟨g1, g2⟩ := hG.bl T hm
  refine wpAny_handleBy_builtin (X := XT) (T := TT) hexc hnt hsub ?_
  refine Name_function_global hkind hx (loadGlobal_builtin (mg := mg) (mb := mb) (by rw [hglo]; exact hG.g) g1 (by rw [hblt]; exact hG.b) (g2.trans hb) ?_) hd
  obtain ⟨ob, ho, hc⟩ := hfl.there
  refine ⟨rfl, ⟨ob, ho, hc⟩, ?_⟩
  cases b with
  | false => exact hno rfl
  | true =>
    simp only [if_true]
    refine wpAny_setFlight_noneW hfl.1 hfl.2.2.1 hfl.2.2.2.at fun h' k1 k2 k3 k4 => ?_
    refine wpAny_execs_cons (wpAny_Return_some (wpAny_Constant_str ?_))
    exact hyes rfl _ h' k1 k2 (fun b o e hn => ⟨o.slots, k4 b o e hn⟩) rfl

theorem call_read {A : Around} {s : Shared} {E : Value → Shared → Prop} {Q : Value → Shared → Prop} {a : Addr} {v : Value} {base₀ : Heap} {outer : List Env} {items : List (List Nat)} (hA : AOk A 2) (hG₀ : G prog w mg mb base₀) (hfr : A.frames = some outer) (hfun : s.heap.FunFrames base₀ outer) (hst : base₀.StaysIn s.heap)
    (hv : Is s.heap v (.list (items.map fun l => .str (S l)))) (hz : ∀ l ∈ items, l.length ≤ 1000000) (hz2 : items.length ≤ 1000000) (ha : mg (nameAt 11) = some (.ref a))
    (hok : ∀ u h' tk, Slots base₀ outer s.heap h' → Is h' u (readD items) → Q u { s with heap := h', toks := tk }) :
    wpAny (model prog w) A (call (.ref a) [v]) Q E s := by
  have hG := hG₀.grow hst
  obtain ⟨a', o, pm, cd, doc, h1, h2, h3, h4⟩ := hG.fn 11 (by decide)
  rw [ha] at h1
  cases h1
  refine wpAny_call (call_plain (binds := [("items", v)]) hA.room h2 h3 hG.lim h4 (by rfl) (fun x hx => by rw [List.mem_singleton] at hx; subst hx; rfl) (fun h₁ F => ?_) (by rfl) (by rfl) (by rfl) (by decide +kernel))
  generalize hL : s.heap.objs.size = L at *
  have hk : (envOf (nameAt 11) (scopeAt 11) L a cd).scope.kind = .function := by rfl
  have F₁ : Fm prog w mg mb (envOf (nameAt 11) (scopeAt 11) L a cd) [("items", .list (items.map fun l => .str (S l)))] [] h₁ := by
    refine ⟨hG.grow F.keep, hk, rfl, rfl, ⟨_, F.ns, fun z d e => ?_⟩, fun z d e => by simp at e⟩
    rw [List.lookup_cons] at e
    cases hz' : z == ("items" : Str) with
    | false => rw [hz'] at e; simp at e
    | true =>
      rw [hz'] at e; cases e
      rw [beq_iff_eq.mp hz']
      exact ⟨v, rfl, hv.grow F.keep⟩
  have hL0 : base₀.get? L = none := by
    cases e : base₀.get? L with
    | none => rfl
    | some o' => exact absurd (Heap.lt_size (hst L o' e)) (by rw [hL]; exact Nat.lt_irrefl _)
  have hfun₁ : h₁.FunFrames base₀ (envOf (nameAt 11) (scopeAt 11) L a cd :: outer) :=
    Heap.FunFrames.cons (L := L) (by rw [hk]; decide) rfl F.ns hL0 (hfun.of_keeps fun b o hb _ => ⟨o, F.keep b o hb, rfl⟩)
  have hst₁ : base₀.StaysIn h₁ := fun b o e => F.keep b o (hst b o e)
  have hfrD : (A.deeper (envOf (nameAt 11) (scopeAt 11) L a cd)).frames = some (envOf (nameAt 11) (scopeAt 11) L a cd :: outer) := Around.frames_deeper hfr
  have up₁ : s.heap.UpToSlots h₁ := upToSlots_grow F.keep
  show wpAny _ _ (execs (bodyAt 11) _) _ _ _
  refine wpAny_execs_cons (wpAny_Try_except (wpAny_execs_cons (wpAny_Return_some (read_body (hA.deeper _) hfrD hfun₁ hst₁ F₁ hz hz2 ?_ ?_ ?_ ?_ ?_ ?_ ?_))))
  · rfl
  · rfl
  · rfl
  · rfl
  · rfl
  · intro kvs u h' tk hre g hi
    refine hok u h' tk ⟨up₁.trans (upToSlots_grow g), fun b o e => g b o (hst₁ b o e), ?_⟩ ?_
    · exact (hfun₁.of_keeps fun b o hb _ => ⟨o, g b o hb, rfl⟩).2.2
    · rw [show readD items = .list (kvs.map tupD) from by simp [readD, hre]]; exact hi
  · intro cls e a0 h' tk hre hcl hfl hup
    refine wpAny_looks_onW (L := L) hfrD rfl hfl fun h₂ hheld up₂ => ?_
    refine wpAny_landsW hheld fun h₃ hfl₃ up₃ => ?_
    have hrd : readD items = .str (Str.ofString cls) := by simp [readD, hre]
    have up : s.heap.UpToSlots h₃ := ((up₁.trans hup).trans up₂).trans up₃
    rcases hcl with rfl | rfl
    · refine clause "ValueError" "ValueError" rfl hG₀ rfl rfl hk (by decide) rfl (by rfl) (by decide) (by rw [isSubtype_type]; kernel_rfl) (by rw [isSubtype_type]; kernel_rfl) (b := true) (by rw [isSubtype_type]; kernel_rfl) hfl₃ (fun _ u h₄ k1 k2 k3 hu => ?_) (fun h => by cases h)
      subst hu
      refine hok _ h₄ _ ⟨up.trans k3, k1, k2.2.2⟩ ?_
      rw [hrd]; exact Is.str _ _ _
    · refine clause "IndexError" "ValueError" rfl hG₀ rfl rfl hk (by decide) rfl (by rfl) (by decide) (by rw [isSubtype_type]; kernel_rfl) (by rw [isSubtype_type]; kernel_rfl) (b := false) (by rw [isSubtype_type]; kernel_rfl) hfl₃ (fun h => by cases h) fun _ => ?_
      refine clause "IndexError" "IndexError" rfl hG₀ rfl rfl hk (by decide) rfl (by rfl) (by decide) (by rw [isSubtype_type]; kernel_rfl) (by rw [isSubtype_type]; kernel_rfl) (b := true) (by rw [isSubtype_type]; kernel_rfl) hfl₃ (fun _ u h₄ k1 k2 k3 hu => ?_) (fun h => by cases h)
      subst hu
      refine hok _ h₄ _ ⟨up.trans k3, k1, k2.2.2⟩ ?_
      rw [hrd]; exact Is.str _ _ _
end
end Ny

namespace Ny
open PySem PySem.W PySem.Calls PyProof.Rows

theorem IsAll.take {h : Heap} : ∀ {vs ds} (n : Nat), IsAll h vs ds → IsAll h (vs.take n) (ds.take n)
  | _, [], n, x => by rw [x.nil_inv]; simpa using IsAll.nil h
  | _, d :: ds, 0, x => by simpa using IsAll.nil h
  | _, d :: ds, n + 1, x => by obtain ⟨v, r, rfl, a, b⟩ := x.cons_inv; simpa using IsAll.cons a (b.take n)

/-- the frame's own cells are alive, apart, and the frame's own -/
structure CellsOk' (base : Heap) (env : Env) (h : Heap) : Prop where
  alive : ∀ n c, env.cells.lookup n = some c → ∃ v, h.IsCell c v
  apart : env.cells.Pairwise fun x y => x.2 ≠ y.2
  above : ∀ n c, (n, c) ∈ env.cells → base.objs.size ≤ c

section
variable {prog : Program} {w : World} {mg mb : Str → Option Value} {A : Around} {env : Env} {ρ κ : List (Str × PyData)} {base : Heap}

structure ExC (prog : Program) (w : World) (mg mb : Str → Option Value) (A : Around) (env : Env) (base : Heap) (ρ κ : List (Str × PyData)) (b : List Stmt) (R : Value → Heap → Prop) : Prop where
  run : G prog w mg mb base → base.objs.size ≤ env.locals → ∀ (s : Shared) (E : Value → Shared → Prop), Fm prog w mg mb env ρ κ s.heap → Grow base s.heap → CellsOk' base env s.heap →
    wpAny (model prog w) A (execs b env) (fun f s' => Out base R s f s') E s
theorem Ex.exc {b : List Stmt} {R : Value → Heap → Prop} (x : Ex prog w mg mb A env base ρ κ b R) : ExC prog w mg mb A env base ρ κ b R := .mk fun gb hL s E F g _ => x.run gb hL s E F g

theorem cells_grow {h h' : Heap} (x : CellsOk' base env h) (g : Grow h h') : CellsOk' base env h' := ⟨fun n c e => let ⟨v, i⟩ := x.alive n c e; ⟨v, i.keeps g⟩, x.apart, x.above⟩
theorem cells_ns {h h' : Heap} {m : Str → Option Value} (x : CellsOk' base env h) (hn : h.Ns env.locals m) (hs : Heap.SameBut env.locals h h') : CellsOk' base env h' := ⟨fun n c e => let ⟨v, i⟩ := x.alive n c e; ⟨v, cell_sameBut hn hs i⟩, x.apart, x.above⟩

theorem exc_assign {x : Str} {e : Expr} {pos' pos rest} {d : PyData} {R : Value → Heap → Prop} (hx : EvD prog w mg mb A env ρ κ e d) (hl : env.kindOf x = some .local)
    (y : ExC prog w mg mb A env base ((x, d) :: ρ) κ rest R) (hs : swapsWith e (some (.Name x pos')) pos.line env = pure false) :
    ExC prog w mg mb A env base ρ κ (.Assign [.Name x pos'] e pos :: rest) R := .mk fun gb hL s E F g co => by
  refine wpAny_execs_cons (wpAny_Assign_Name (wpAny_mono (hx.run s E F) (fun v s₁ h₁ => ?_) fun _ _ q => q) hs)
  obtain ⟨m, hn, _⟩ := (F.grow h₁.1.grow).loc
  refine store' gb hL (F.grow h₁.1.grow) (g.trans h₁.1.grow) hl h₁.2 fun h' tk F' g' hsb => ?_
  refine wpAny_mono (y.run gb hL _ E F' g' (cells_ns (cells_grow co h₁.1.grow) hn hsb)) (fun f s₂ o => ?_) fun _ _ q => q
  exact (o.back ⟨_, _, rfl⟩).back h₁.1.ex

theorem store_cell {x : Str} {v : Value} {d : PyData} {s : Shared} {E : Value → Shared → Prop} {Q : Unit → Shared → Prop} {c : Addr} (gb : G prog w mg mb base) (hL : base.objs.size ≤ env.locals) (F : Fm prog w mg mb env ρ κ s.heap) (g : Grow base s.heap) (co : CellsOk' base env s.heap)
    (hl : env.kindOf x = some .cell) (hc : env.cells.lookup x = some c) (hi : Is s.heap v d)
    (h : ∀ h' tk, Fm prog w mg mb env ρ ((x, d) :: κ) h' → Grow base h' → CellsOk' base env h' → Q () { s with heap := h', toks := tk }) : wpAny (model prog w) A (storeName env x v) Q E s := by
  obtain ⟨v₀, hv₀⟩ := co.alive x c hc
  obtain ⟨m, hn, hm⟩ := F.loc
  have hcL : c ≠ env.locals := ns_cell_ne hn hv₀
  have hcb : base.objs.size ≤ c := co.above x c (PySem.mem_of_lookup hc)
  refine wpAny_storeName_cell F.kind hl hc hv₀ fun h' hv' hs => ?_
  have g' : Grow base h' := fun b o e => hs.extBut b o (Nat.ne_of_lt (Nat.lt_of_lt_of_le (Heap.lt_size e) hcb)) (g b o e)
  have sq : SeqGrow s.heap h' := fun b o xs n e d => hs.extBut b o (by
    rintro rfl
    obtain ⟨o', ho', hd'⟩ := hv₀
    rw [e] at ho'; cases ho'; rw [d] at hd'; cases hd') e
  have oth : ∀ n c', env.cells.lookup n = some c' → n ≠ x → c' ≠ c := fun n c' e hnx q => hnx (name_of_addr co.apart (PySem.mem_of_lookup e) (q ▸ PySem.mem_of_lookup hc))
  refine h h' s.toks ⟨gb.grow g', F.kind, F.glo, F.blt, ⟨m, hn.sameBut hs (Ne.symm hcL), fun y dy e => let ⟨v', a, b⟩ := hm y dy e; ⟨v', a, b.seq sq⟩⟩, fun y dy e => ?_⟩ g' ⟨fun n c' e => ?_, co.apart, co.above⟩
  · by_cases hy : y = x
    · subst hy
      rw [List.lookup_cons, beq_self_eq_true] at e
      cases e
      exact ⟨c, v, hc, hv', hi.seq sq⟩
    · rw [List.lookup_cons, beq_eq_false_iff_ne.mpr hy] at e
      obtain ⟨c', v', a, b, i⟩ := F.cel y dy e
      exact ⟨c', v', a, b.sameBut hs (oth y c' a hy), i.seq sq⟩
  · by_cases hnx : n = x
    · subst hnx; rw [hc] at e; cases e; exact ⟨_, hv'⟩
    · obtain ⟨v', i⟩ := co.alive n c' e
      exact ⟨v', i.sameBut hs (oth n c' e hnx)⟩

theorem exc_assign_cell {x : Str} {e : Expr} {pos' pos rest} {d : PyData} {c : Addr} {R : Value → Heap → Prop} (hx : EvD prog w mg mb A env ρ κ e d) (hl : env.kindOf x = some .cell) (hc : env.cells.lookup x = some c)
    (y : ExC prog w mg mb A env base ρ ((x, d) :: κ) rest R) (hs : swapsWith e (some (.Name x pos')) pos.line env = pure false) :
    ExC prog w mg mb A env base ρ κ (.Assign [.Name x pos'] e pos :: rest) R := .mk fun gb hL s E F g co => by
  refine wpAny_execs_cons (wpAny_Assign_Name (wpAny_mono (hx.run s E F) (fun v s₁ h₁ => ?_) fun _ _ q => q) hs)
  refine store_cell gb hL (F.grow h₁.1.grow) (g.trans h₁.1.grow) (cells_grow co h₁.1.grow) hl hc h₁.2 fun h' tk F' g' co' => ?_
  refine wpAny_mono (y.run gb hL _ E F' g' co') (fun f s₂ o => ?_) fun _ _ q => q
  exact (o.back ⟨_, _, rfl⟩).back h₁.1.ex

theorem exc_if_ret {t e : Expr} {pos pos' rest} {c : Bool} {R : Value → Heap → Prop} (x : EvT prog w mg mb A env ρ κ t c) (y : c = true → EvR prog w mg mb A env ρ κ e R) (z : c = false → ExC prog w mg mb A env base ρ κ rest R) :
    ExC prog w mg mb A env base ρ κ (.If t [.Return (some e) pos'] [] pos :: rest) R := .mk fun gb hL s E F g co => by
  refine wpAny_execs_cons (wpAny_If (wpAny_mono (x.run s E F) (fun v s₁ h₁ => ?_) fun _ _ q => q))
  obtain ⟨k, rfl⟩ := h₁
  cases v with
  | true =>
    simp only [if_true]
    refine wpAny_execs_cons (wpAny_Return_some (wpAny_mono ((y rfl).run s₁ E (F.grow k.grow)) (fun v s₂ h₂ => ?_) fun _ _ q => q))
    obtain ⟨⟨h', tk, rfl, k'⟩, r⟩ := h₂
    exact Out.back k.ex ⟨v, h', tk, rfl, rfl, (g.trans k.grow).trans k', r⟩
  | false =>
    simp only [Bool.false_eq_true, if_false]
    refine wpAny_execs_nil ?_
    exact wpAny_mono ((z rfl).run gb hL s₁ E (F.grow k.grow) (g.trans k.grow) (cells_grow co k.grow)) (fun f s₂ o => o.back k.ex) fun _ _ q => q

/-- a comprehension that is given back: a new list -/
theorem ex_ret_comp {scope : Scope} {own : Option Str} {κf : List (Str × PyData)} {elt target iter : Expr} {ifs : List Expr} {pos rpos : Pos} {ds : List PyData} {p : PyData → Bool} {f : PyData → PyData} {Rs : Value → Heap → Prop} {rest : List Stmt}
    (x : EvR prog w mg mb A env ρ κ iter Rs) (hs : ∀ v h, Rs v h → Src prog w A v h ds) (ci : CompIs env scope own κ κf) (hz : ds.length ≤ sizeLine) (ok : CompOk prog w mg mb A env scope (closOf scope env) own κf elt target ifs ds p f)
    (ht : TgtGo target) (hfs : ∀ x, foldedSetIterable iter env x = pure x) :
    Ex prog w mg mb A env base ρ κ (.Return (some (.ListComp elt [⟨target, iter, ifs, 0⟩] scope pos)) rpos :: rest) (fun v h => Is h v (.list ((ds.filter p).map f)) ∧ ∀ D, v = .ref D → base.get? D = none) := .mk fun gb hL s E F g => by
  refine wpAny_execs_cons (wpAny_Return_some (wpAny_mono (comp_run x hs ci hz ok ht hfs s E F) (fun v s₁ q => ?_) fun _ _ q => q))
  obtain ⟨⟨h', tk, rfl, k⟩, r, D, rfl, hD⟩ := q
  refine ⟨_, h', tk, rfl, rfl, g.trans k, r, fun D' e => ?_⟩
  cases e
  cases e : base.get? D with
  | none => rfl
  | some o => rw [g D o e] at hD; cases hD

/-! ## More expressions -/
theorem ev_len {p pos : Pos} {e : Expr} {ds : List PyData} (hx : env.kindOf "len" = some .globalImplicit) (x : EvD prog w mg mb A env ρ κ e (.list ds)) (hz : ds.length ≤ 1000000)
    (he : notStar e = true := by rfl) : EvD prog w mg mb A env ρ κ (.Call (.Name "len" p) [e] [] pos) (.int ds.length) :=
  ev_blt (ds := [.list ds]) (by decide) rfl hx (evl_cons x evl_nil he) (fun vs s E _ hv => by
    obtain ⟨v, r, rfl, h2, hr⟩ := hv.cons_inv
    obtain rfl := hr.nil_inv
    obtain ⟨a, items, rfl, hl, hi⟩ := h2.list_inv
    have e1 : items.size = ds.length := by simpa using hi.length
    refine call_len_list hl (by omega) ⟨Kp.tok s _, ?_⟩
    rw [e1]; exact Is.int _ _ _) (by decide) he
theorem ev_sliceTo {value hi : Expr} {p pos : Pos} {ds : List PyData} {n : Nat} (hx : EvD prog w mg mb A env ρ κ value (.list ds)) (hj : EvD prog w mg mb A env ρ κ hi (.int n)) (hz : ds.length ≤ sizeLine)
    (ht : ∀ o r, letTemporaryGo value o r = pure ()) : EvD prog w mg mb A env ρ κ (.Subscript value (.Slice none (some hi) none p) pos) (.list (ds.take n)) := .mk fun s E F => by
  refine wpAny_Subscript_list_slice (wpAny_mono (hx.run s E F) (fun o s₁ q₁ => ?_) fun _ _ q => q) ht
  refine evalPart_none_step (wpAny_mono (hj.run s₁ E (F.grow q₁.1.grow)) (fun vu s₃ q₃ => ?_) fun _ _ q => q)
  obtain ⟨l, items, rfl, hl, hi⟩ := q₁.2.list_inv
  obtain ⟨t₂, rfl⟩ := q₃.2.int_inv
  have hsz : items.size = ds.length := by simpa using hi.length
  refine ⟨l, items, none, some n, rfl, hl.at fun o e => q₃.1.grow _ o e, by omega, .none, .int _ _, ?_⟩
  rw [slicePick_upto']
  have hl' : ((s₃.heap.push { cls := .type "slice", data := .fields #[.none, .int n t₂, .none] }).push { cls := .type "list", data := .seq (items.toList.take n).toArray }).IsList (s₃.heap.objs.size + 1) (items.toList.take n).toArray := by
    rw [← Heap.size_push (h := s₃.heap) (o := { cls := .type "slice", data := .fields #[.none, .int n t₂, .none] })]
    exact ⟨_, Heap.get?_push_size _ rfl, rfl, _, rfl⟩
  refine ⟨(q₁.1.trans q₃.1).trans ⟨_, _, rfl, (Grow.push _ _).trans (Grow.push _ _)⟩, Is.list hl' ?_⟩
  have := ((hi.take n).grow q₃.1.grow).grow ((Grow.push s₃.heap { cls := .type "slice", data := .fields #[.none, .int n t₂, .none] }).trans (Grow.push _ { cls := .type "list", data := .seq (items.toList.take n).toArray }))
  simpa using this
end
end Ny

namespace Ny
open PySem PySem.W PySem.Calls PyProof.Rows

abbrev PD (p : Str × Str) : PyData := P2 p.1 p.2
def keysS (told : List (Str × Str)) : List Str := told.map (·.1)
def keyAt (told : List (Str × Str)) (i : Nat) : Str := (keysS told).getD i (S [])
def lastS (told : List (Str × Str)) (k : Str) : Str := ((told.filter fun p => p.1 == k).map (·.2)).getLastD (S [])
def outPlaces (told : List (Str × Str)) : List Nat := (List.range told.length).filter fun i => !((keysS told).take i).any fun y => y == keyAt told i
def outL (told : List (Str × Str)) : List (Str × Str) := (outPlaces told).map fun i => (keyAt told i, lastS told (keyAt told i))
def outcD (ps : List (Str × Str)) : Outc → PyData
  | .err x => .str x
  | .ok l => .list ((outL (ps ++ l)).map PD)

/-- a contract whose value is no old object -/
structure ConF (prog : Program) (w : World) (mg mb : Str → Option Value) (k i : Nat) (ds : List PyData) (d : PyData) : Prop where
  run : ∀ (A : Around) (s : Shared) (E : Value → Shared → Prop) (vs : List Value) (a : Addr), AOk A k → G prog w mg mb s.heap → IsAll s.heap vs ds → mg (nameAt i) = some (.ref a) →
    wpAny (model prog w) A (call (.ref a) vs) (fun v s' => Kp s s' ∧ Is s'.heap v d ∧ ∀ D, v = .ref D → s.heap.get? D = none) E s

theorem eqv_str (a b : Str) : PyData.eqv (.str a) (.str b) = (a == b) := by
  unfold PyData.eqv; rfl

section
variable {prog : Program} {w : World} {mg mb : Str → Option Value} {A : Around}

def scopeC (e : Expr) : Scope := match e with
  | .ListComp _ _ sc _ => sc
  | _ => scopeAt 0

theorem keyAt_get (told : List (Str × Str)) (i : Nat) (h : i < told.length) : ((keysS told).map PyData.str)[i]? = some (.str (keyAt told i)) := map_getD PyData.str (keysS told) i (S []) (by simpa [keysS] using h)

theorem keyAt_mem (told : List (Str × Str)) (i : Nat) (h : i < told.length) : keyAt told i ∈ keysS told := by
  unfold keyAt
  rw [List.getD_eq_getElem?_getD, List.getElem?_eq_getElem (by simpa [keysS] using h)]
  exact List.getElem_mem _
theorem small_of {n : Nat} (h : n ≤ 1000) : Builtin.Range.small 0 (n : Int) 1 = true := by
  unfold Builtin.Range.small
  rw [rangeSize_nat]
  simp [Builtin.Range.rangeFitsLong]
  omega
theorem last_told (told : List (Str × Str)) (i : Nat) (h : i < told.length) :
    (((told.map PD).filter fun d => match d with | .tuple (.str k :: _) => k == keyAt told i | _ => false).map fun d => match d with | .tuple (_ :: v :: _) => v | d => d).getLast? = some (.str (lastS told (keyAt told i))) := by
  have e1 : (((told.map PD).filter fun d => match d with | .tuple (.str k :: _) => k == keyAt told i | _ => false).map fun d => match d with | .tuple (_ :: v :: _) => v | d => d) = ((told.filter fun p => p.1 == keyAt told i).map (·.2)).map PyData.str := by
    rw [List.filter_map, List.map_map, List.map_map]; rfl
  rw [e1, List.getLast?_map]
  unfold lastS
  have hm : told[i] ∈ told.filter fun p => p.1 == keyAt told i := by
    rw [List.mem_filter]
    refine ⟨List.getElem_mem _, ?_⟩
    have : keyAt told i = told[i].1 := by
      unfold keyAt keysS
      rw [List.getD_eq_getElem?_getD, List.getElem?_map, List.getElem?_eq_getElem h]; rfl
    rw [this]; simp
  cases hl : (told.filter fun p => p.1 == keyAt told i).map (·.2) with
  | nil =>
    rw [List.map_eq_nil_iff] at hl
    rw [hl] at hm; cases hm
  | cons x r => simp [List.getLast?_eq_some_getLast, List.getLastD_eq_getLast?]
theorem canLay_strs {l : List Str} (h : ∀ x ∈ l, PyData.canLay0 (.str x) = true) : PyData.canLayAll0 (l.map PyData.str) = true := by
  induction l with
  | nil => rfl
  | cons x l ih => simp [PyData.canLayAll0, h x (List.mem_cons_self ..), ih fun y hy => h y (List.mem_cons_of_mem _ hy)]

theorem ex_out {base : Heap} {L a : Addr} {cd : Value} {k : Nat} (hA : AOk A k) (told : List (Str × Str)) (hz : told.length ≤ 1000) (hlay : ∀ x ∈ keysS told, PyData.canLay0 (.str x) = true) (ρ : List (Str × PyData)) :
    ExC prog w mg mb A (envOfC (nameAt 17) (scopeAt 17) L a cd) base ρ [("told", .list (told.map PD))] ((bodyAt 17).drop 2) (fun v h => Is h v (.list ((outL told).map PD)) ∧ ∀ D, v = .ref D → base.get? D = none) := by
  have hsl : sizeLine = 16777216 := rfl
  have hkl : ((keysS told).map PyData.str).length = told.length := by simp [keysS]
  -- keys
  refine exc_assign_cell (d := .list ((keysS told).map .str)) (c := L + 2) ?k1 ?k2 ?k3 ?_ ?k4
  case k2 => rfl
  case k3 => rfl
  case k4 => rfl
  case k1 =>
    have e : (keysS told).map PyData.str = (((told.map PD).filter fun _ => true).map fun d => match d with | .tuple (x :: _) => x | d => d) := by
      rw [List.filter_eq_self.mpr (fun _ _ => rfl), List.map_map]
      unfold keysS
      rw [List.map_map]; rfl
    rw [e]
    refine ev_comp (own := none) (κf := []) (Rs := fun v h => Is h v (.list (told.map PD))) ?s0 (fun v h i => src_list hA.handled i) ?ci ?hz ?ok ?ht ?hf
    case s0 => exact ev_cell (by rfl) (by rfl) (by decide)
    case hz => rw [List.length_map]; omega
    case ht => exact .inr ⟨_, _, _, rfl⟩
    case hf => intro _; rfl
    case ci =>
      refine ⟨.none ?_ ?_, ?_, ?_, ?_, ?_⟩
      · intro _ _; rfl
      · intro _; rfl
      · rfl
      · rfl
      · decide +kernel
      · intro y d e; simp at e
    case ok =>
      refine ⟨fun b C D' d hd => ?_⟩
      obtain ⟨p, hp, rfl⟩ := List.mem_map.mp hd
      refine ⟨_, _, tgt_tuple (xs := [("key", _), ("value", _)]) (ds := [.str p.1, .str p.2]) hA.handled rfl ?t1 ?t2 ?t3, evts_nil, fun _ => elt_of ?n ?b1⟩
      case t1 => exact List.forall_mem_cons.mpr ⟨rfl, List.forall_mem_cons.mpr ⟨rfl, List.forall_mem_nil _⟩⟩
      case t2 => rfl
      case t3 => rfl
      case n => rfl
      case b1 => exact ev_local (by rfl) (by rfl) (by decide)
  -- places
  have hn : told.length ≤ sizeLine := by omega
  refine Ex.exc (ex_assign_comp (own := none) (κf := [("keys", .list ((keysS told).map .str))]) (Rs := fun v h => IsRg h v 0 (told.length : Nat)) (ds := (List.range told.length).map fun (i : Nat) => .int i)
    (p := fun d => !((keysS told).take (intOf d).toNat).any fun y => y == keyAt told (intOf d).toNat) (f := fun d => d) ?s0 (fun v h i => src_range hA.handled i ?sm) ?ci ?hz ?ok ?ht ?hf ?hy ?hsw ?_)
  case s0 =>
    have e : (told.length : Int) = (((keysS told).map PyData.str).length : Nat) := by rw [hkl]
    rw [e]
    refine ev_range1 ?_ (ev_len ?_ ?_ (by rw [hkl]; omega))
    · rfl
    · rfl
    · exact ev_cell (by rfl) (by rfl) (by decide)
  case sm => exact small_of (by omega)
  case hz => simp; omega
  case ht => exact .inl fun _ _ => rfl
  case hf => intro _; rfl
  case hy => rfl
  case hsw => rfl
  case ci =>
    refine ⟨.none ?_ ?_, ?_, ?_, ?_, ?_⟩
    · intro _ _; rfl
    · intro _; rfl
    · rfl
    · rfl
    · decide +kernel
    · intro y d e
      rw [List.lookup_cons] at e
      cases hy : y == ("keys" : Str) with
      | false => rw [hy] at e; simp at e
      | true =>
        rw [hy] at e; cases e
        rw [beq_iff_eq.mp hy]
        exact ⟨rfl, fun _ => rfl⟩
  case ok =>
    refine ⟨fun b C D' d hd => ?_⟩
    obtain ⟨i, hi, rfl⟩ := List.mem_map.mp hd
    rw [List.mem_range] at hi
    refine ⟨_, _, tgt_name ?t1 ?t2, evts_one ?b0, fun _ => elt_of ?n ?b1⟩
    case t1 => rfl
    case t2 => rfl
    case n => rfl
    case b1 => exact ev_local (by rfl) (by rfl) (by decide)
    case b0 =>
      have ek : (intOf (.int (i : Int))).toNat = i := rfl
      rw [ek]
      have e1 : ((keysS told).take i).any (fun y => y == keyAt told i) = (((keysS told).map PyData.str).take i).any fun y => PyData.eqv y (.str (keyAt told i)) := by
        rw [← List.map_take, List.any_map]
        refine congrArg (fun f => List.any _ f) (funext fun y => ?_)
        exact (eqv_str y _).symm
      rw [e1]
      refine evt_notInL hA (ev_itemL (ds := (keysS told).map .str) (k := (i : Int)) ?_ ?_ (by omega) (by omega) (keyAt_get told i hi)) (ev_sliceTo (n := i) ?_ ?_ (by rw [hkl]; omega) ?_) ?_ ?_ ?_ ?_
      · exact ev_cell (by rfl) (by rfl) (by decide)
      · exact ev_local (by rfl) (by rfl) (by decide)
      · exact ev_cell (by rfl) (by rfl) (by decide)
      · exact ev_local (by rfl) (by rfl) (by decide)
      · intro _ _; rfl
      · rw [← List.map_take]
        exact canLay_strs fun x hx => hlay x (List.mem_of_mem_take hx)
      · exact hlay _ (keyAt_mem told i hi)
      · exact Nat.le_of_ble_eq_true rfl
      · rfl
  -- what is given back
  have hpl : ((((List.range told.length).map fun (i : Nat) => PyData.int i).filter fun d => !((keysS told).take (intOf d).toNat).any fun y => y == keyAt told (intOf d).toNat).map fun d => d) = (outPlaces told).map fun (i : Nat) => PyData.int i := by
    rw [List.map_id', List.filter_map]; rfl
  rw [hpl]
  have hout : (outL told).map PD = ((((outPlaces told).map fun (i : Nat) => PyData.int i).filter fun _ => true).map fun d => PD (keyAt told (intOf d).toNat, lastS told (keyAt told (intOf d).toNat))) := by
    rw [List.filter_eq_self.mpr (fun _ _ => rfl), List.map_map]
    unfold outL
    rw [List.map_map]; rfl
  rw [hout]
  have hol : (outPlaces told).length ≤ told.length := by
    unfold outPlaces
    exact Nat.le_trans (List.length_filter_le _ _) (by simp)
  refine ex_ret_comp (own := some "place") (κf := [("keys", .list ((keysS told).map .str)), ("told", .list (told.map PD))]) (Rs := fun v h => Is h v (.list ((outPlaces told).map fun (i : Nat) => .int i))) ?s0 (fun v h i => src_list hA.handled i) ?ci ?hz ?ok ?ht ?hf
  case s0 => exact ev_local (by rfl) (by rfl) (by decide)
  case hz => rw [List.length_map]; omega
  case ht => exact .inl fun _ _ => rfl
  case hf => intro _; rfl
  case ci =>
    refine ⟨.some "place" ?_ ?_, ?_, ?_, ?_, ?_⟩
    · intro _ _; rfl
    · intro _; rfl
    · rfl
    · rfl
    · decide +kernel
    · intro y d e
      rw [List.lookup_cons] at e
      cases hy : y == ("keys" : Str) with
      | true =>
        rw [hy] at e; cases e
        rw [beq_iff_eq.mp hy]
        exact ⟨rfl, fun _ => rfl⟩
      | false =>
        rw [hy] at e
        dsimp only at e
        rw [List.lookup_cons] at e
        cases hy2 : y == ("told" : Str) with
        | true =>
          rw [hy2] at e; cases e
          rw [beq_iff_eq.mp hy2]
          exact ⟨rfl, fun _ => rfl⟩
        | false => rw [hy2] at e; simp at e
  case ok =>
    refine ⟨fun b C D' d hd => ?_⟩
    obtain ⟨i, hi, rfl⟩ := List.mem_map.mp hd
    have hi' : i < told.length := by
      unfold outPlaces at hi
      exact List.mem_range.mp (List.mem_filter.mp hi).1
    refine ⟨_, _, tgt_cell ?t1 ?t2 ?t3, evts_nil, fun _ => elt_of ?n ?b1⟩
    case t1 => rfl
    case t2 => rfl
    case t3 => rfl
    case n => rfl
    case b1 =>
      have ek : (intOf (.int (i : Int))).toNat = i := rfl
      rw [ek]
      refine ev_tuple (evl_cons (ev_itemL (ds := (keysS told).map .str) (k := (i : Int)) ?c1 ?c2 (by omega) (by omega) (keyAt_get told i hi')) (evl_cons (ev_lastL (ds := (((told.map PD).filter fun d => match d with | .tuple (.str k :: _) => k == keyAt told i | _ => false).map fun d => match d with | .tuple (_ :: v :: _) => v | d => d)) ?c3 (ev_neg ev_int) ?c4) evl_nil)) (Nat.le_of_ble_eq_true rfl)
      case c1 => exact ev_cell (by rfl) (by rfl) (by decide)
      case c2 => exact ev_cell (by rfl) (by rfl) (by decide)
      case c4 => exact last_told told i hi'
      case c3 =>
        refine ev_comp (own := none) (κf := [("keys", .list ((keysS told).map .str)), ("place", .int i)]) (Rs := fun v h => Is h v (.list (told.map PD))) ?s0 (fun v h i => src_list hA.handled i) ?ci ?hz ?ok ?ht ?hf
        case s0 => exact ev_cell (by rfl) (by rfl) (by decide)
        case hz => rw [List.length_map]; omega
        case ht => exact .inr ⟨_, _, _, rfl⟩
        case hf => intro _; rfl
        case ci =>
          refine ⟨.none ?_ ?_, ?_, ?_, ?_, ?_⟩
          · intro _ _; rfl
          · intro _; rfl
          · rfl
          · rfl
          · decide +kernel
          · intro y d e
            rw [List.lookup_cons] at e
            cases hy : y == ("keys" : Str) with
            | true =>
              rw [hy] at e; cases e
              rw [beq_iff_eq.mp hy]
              exact ⟨rfl, fun _ => rfl⟩
            | false =>
              rw [hy] at e
              dsimp only at e
              rw [List.lookup_cons] at e
              cases hy2 : y == ("place" : Str) with
              | true =>
                rw [hy2] at e; cases e
                rw [beq_iff_eq.mp hy2]
                exact ⟨rfl, fun _ => rfl⟩
              | false => rw [hy2] at e; simp at e
        case ok =>
          refine ⟨fun b' C' D'' d hd => ?_⟩
          obtain ⟨p, hp, rfl⟩ := List.mem_map.mp hd
          refine ⟨_, _, tgt_tuple (xs := [("key", _), ("value", _)]) (ds := [.str p.1, .str p.2]) hA.handled rfl ?t1 ?t2 ?t3, evts_one ?b0, fun _ => elt_of ?n ?b1⟩
          case t1 => exact List.forall_mem_cons.mpr ⟨rfl, List.forall_mem_cons.mpr ⟨rfl, List.forall_mem_nil _⟩⟩
          case t2 => rfl
          case t3 => rfl
          case n => rfl
          case b1 => exact ev_local (by rfl) (by rfl) (by decide)
          case b0 =>
            refine evt_eqS (x := p.1) (y := keyAt told i) ?_ (ev_itemL (ds := (keysS told).map .str) (k := (i : Int)) ?_ ?_ (by omega) (by omega) (keyAt_get told i hi'))
            · exact ev_local (by rfl) (by rfl) (by decide)
            · exact ev_cell (by rfl) (by rfl) (by decide)
            · exact ev_cell (by rfl) (by rfl) (by decide)
end
end Ny

namespace Ny
open PySem PySem.W PySem.Calls PyProof.Rows

section
variable {prog : Program} {w : World} {mg mb : Str → Option Value} {A : Around} {env : Env} {ρ κ : List (Str × PyData)}

def isStrD : PyData → Bool
  | .str _ => true
  | _ => false
theorem ev_isi {p p₂ pos : Pos} {e : Expr} {d : PyData} (hd : (∃ x, d = .str x) ∨ ∃ xs, d = .list xs) (hx : env.kindOf "isinstance" = some .globalImplicit) (hs : env.kindOf "str" = some .globalImplicit) (x : EvD prog w mg mb A env ρ κ e d) (he : notStar e = true := by rfl) :
    EvD prog w mg mb A env ρ κ (.Call (.Name "isinstance" p) [e, .Name "str" p₂] [] pos) (.bool (isStrD d)) := .mk fun s E F => by
  obtain ⟨h1, h2⟩ := F.gl.bl "isinstance" (by decide)
  refine wpAny_Call_Name_kw (Name_function_global F.kind hx (loadGlobal_builtin (mg := mg) (mb := mb) (by rw [F.glo]; exact F.gl.g) h1 (by rw [F.blt]; exact F.gl.b) (h2.trans rfl) ?_) (by decide))
  refine PyProof.Rows.callWith_builtin1 (wpAny_items_cons (wpAny_mono (x.run s E F) (fun v s₁ q => ?_) fun _ _ q => q) (star_of he _ env)) (star_of he _ env) (backTo_star (es := [.Name "str" p₂]) rfl pos env)
  have F₁ := F.grow q.1.grow
  obtain ⟨g1, g2⟩ := F₁.gl.bl "str" (by decide)
  refine wpAny_items_cons (Name_function_global F₁.kind hs (loadGlobal_builtin (mg := mg) (mb := mb) (by rw [F₁.glo]; exact F₁.gl.g) g1 (by rw [F₁.blt]; exact F₁.gl.b) (g2.trans rfl) (wpAny_items_nil ?_)) (by decide)) (star_of rfl _ env)
  rcases hd with ⟨y, rfl⟩ | ⟨xs, rfl⟩
  · obtain ⟨t, rfl⟩ := q.2.str_inv
    exact IsiPair.str_str ⟨q.1, Is.bool _ _⟩
  · obtain ⟨a, vs, rfl, hl, _⟩ := q.2.list_inv
    obtain ⟨o, ho, hc, _⟩ := hl
    exact IsiPair.list_str ho hc ⟨q.1.trans (Kp.tok s₁ _), Is.bool _ _⟩

theorem outc_shape (o : Outc) : (∃ x, o.toD = .str x) ∨ ∃ xs, o.toD = .list xs := by
  cases o with
  | err x => exact .inl ⟨x, rfl⟩
  | ok l => exact .inr ⟨_, rfl⟩

theorem con_out (ps : List (Str × Str)) (o : Outc) (hz : ps.length ≤ 500) (hz2 : ∀ l, o = .ok l → l.length ≤ 500) (hlay : ∀ l, o = .ok l → ∀ p ∈ ps ++ l, PyData.canLay0 (.str p.1) = true) :
    ConF prog w mg mb 1 17 [.list (ps.map PD), o.toD] (outcD ps o) := by
  refine .mk fun A s E vs a hA hG hv ha => ?_
  obtain ⟨a', ob, pm, cd, doc, h1, h2, h3, h4⟩ := hG.fn 17 (by decide)
  rw [ha] at h1
  cases h1
  obtain ⟨v₁, r, rfl, hv₁, hr⟩ := hv.cons_inv
  obtain ⟨v₂, r', rfl, hv₂, hr'⟩ := hr.cons_inv
  obtain rfl := hr'.nil_inv
  refine wpAny_call (call_cells (binds := [("pairs", v₁), ("end", v₂)]) hA.room h2 h3 hG.lim h4 (by rfl) (fun x hx => ?_) (fun h₁ tk F X => ?_) (by rfl) (by rfl) (by rfl))
  · simp only [List.mem_cons, List.not_mem_nil, or_false] at hx
    rcases hx with rfl | rfl
    · exact .inl rfl
    · exact .inl rfl
  generalize hL : s.heap.objs.size = L at *
  have hA' := hA.deeper (envOfC (nameAt 17) (scopeAt 17) L a cd)
  have F₁ : Fm prog w mg mb (envOfC (nameAt 17) (scopeAt 17) L a cd) [("pairs", .list (ps.map PD)), ("end", o.toD)] [] h₁ := by
    refine ⟨hG.grow F.keep, rfl, rfl, rfl, ⟨_, F.ns, fun z d e => ?_⟩, fun z d e => by simp at e⟩
    rw [List.lookup_cons] at e
    cases hz' : z == ("pairs" : Str) with
    | true =>
      rw [hz'] at e; cases e
      rw [beq_iff_eq.mp hz']
      exact ⟨v₁, rfl, hv₁.grow F.keep⟩
    | false =>
      rw [hz'] at e
      dsimp only at e
      rw [List.lookup_cons] at e
      cases hz2' : z == ("end" : Str) with
      | false => rw [hz2'] at e; simp at e
      | true =>
        rw [hz2'] at e; cases e
        rw [beq_iff_eq.mp hz2']
        exact ⟨v₂, rfl, hv₂.grow F.keep⟩
  have co : CellsOk' s.heap (envOfC (nameAt 17) (scopeAt 17) L a cd) h₁ :=
    ⟨fun n c e => ⟨_, X.cell n c e⟩, X.apart, fun n c e => Nat.le_of_lt (by rw [hL]; exact X.above n c e)⟩
  have fin : ExC prog w mg mb (A.deeper (envOfC (nameAt 17) (scopeAt 17) L a cd)) (envOfC (nameAt 17) (scopeAt 17) L a cd) s.heap [("pairs", .list (ps.map PD)), ("end", o.toD)] [] (bodyAt 17) (fun v h => Is h v (outcD ps o) ∧ ∀ D, v = .ref D → s.heap.get? D = none) := by
    refine exc_if_ret (c := isStrD o.toD) (evt_value (ev_isi (outc_shape o) ?i1 ?i2 ?i3)) (fun hc => ?_) fun hc => ?_
    case i1 => rfl
    case i2 => rfl
    case i3 => exact ev_local (by rfl) (by rfl) (by decide)
    · cases o with
      | ok l => cases hc
      | err x =>
        refine EvR.mono (ev_local (d := .str x) (by rfl) (by rfl) (by decide)) fun v h i => ⟨i, fun D e => ?_⟩
        obtain ⟨t, rfl⟩ := i.str_inv
        cases e
    · cases o with
      | err x => cases hc
      | ok l =>
        have hl := hz2 l rfl
        have hsl : sizeLine = 16777216 := rfl
        refine exc_assign_cell (d := .list ((ps ++ l).map PD)) (c := L + 1) ?k1 ?k2 ?k3 ?_ ?k4
        case k2 => rfl
        case k3 => rfl
        case k4 => rfl
        case k1 =>
          rw [List.map_append]
          refine ev_addL (xs := ps.map PD) (ys := l.map PD) ?_ ?_ (by simp; omega)
          · exact ev_local (by rfl) (by rfl) (by decide)
          · exact ev_local (by rfl) (by rfl) (by decide)
        refine ex_out hA' (ps ++ l) (by simp; omega) (fun x hx => ?_) _
        obtain ⟨p, hp, rfl⟩ := List.mem_map.mp hx
        exact hlay l rfl p hp
  refine wpAny_mono (fin.run hG (Nat.le_of_eq hL) { s with heap := h₁, toks := tk } _ F₁ F.keep co) (fun f s' out => ?_) fun _ _ q => q
  obtain ⟨v, h', tk', rfl, rfl, g, r⟩ := out
  exact ⟨⟨h', tk', rfl, g⟩, r⟩
end
end Ny

namespace Ny
open PySem PySem.W PySem.Calls PyProof.Rows

/-! ## What a slot's change keeps -/
mutual
theorem reads_up {h h' : Heap} (hk : h.UpToSlots h') : ∀ {v : Value} {d : PyData} {as : List Addr}, nd d = true → Reads h v d as → Reads h' v d as
  | _, _, _, _, .none => .none
  | _, _, _, _, .bool b => .bool b
  | _, _, _, _, .int i t => .int i t
  | _, _, _, _, .str x t => .str x t
  | _, _, _, n, .list ho hc hd r => by
    obtain ⟨sl, e⟩ := hk _ _ ho fun vs q => by rw [hd] at q; cases q
    exact .list e hc hd (readsAll_up hk (by simpa [nd] using n) r)
  | _, _, _, n, .tuple ho hc hd r => by
    obtain ⟨sl, e⟩ := hk _ _ ho fun vs q => by rw [hd] at q; cases q
    exact .tuple e hc hd (readsAll_up hk (by simpa [nd] using n) r)
  | _, _, _, n, .dict _ _ _ _ _ => by simp [nd] at n
theorem readsAll_up {h h' : Heap} (hk : h.UpToSlots h') : ∀ {vs : List Value} {ds : List PyData} {as : List Addr}, ndAll ds = true → ReadsAll h vs ds as → ReadsAll h' vs ds as
  | _, _, _, _, .nil => .nil
  | _, _, _, n, .cons a b => .cons (reads_up hk (by simp only [ndAll, Bool.and_eq_true] at n; exact n.1) a) (readsAll_up hk (by simp only [ndAll, Bool.and_eq_true] at n; exact n.2) b)
end
theorem Is.up {h h' : Heap} {v d} (x : Is h v d) (g : h.UpToSlots h') : Is h' v d := let ⟨n, as, r⟩ := x; ⟨n, as, reads_up g n r⟩
theorem cell_up {h h' : Heap} {c : Addr} {v : Option Value} (x : h.IsCell c v) (g : h.UpToSlots h') : h'.IsCell c v := by
  obtain ⟨o, ho, hd⟩ := x
  obtain ⟨sl, e⟩ := g _ _ ho fun vs q => by rw [hd] at q; cases q
  exact ⟨_, e, hd⟩
theorem fm_up {prog : Program} {w : World} {mg mb : Str → Option Value} {env : Env} {ρ κ : List (Str × PyData)} {base h h' : Heap} (F : Fm prog w mg mb env ρ κ h) (gb : G prog w mg mb base) (up : h.UpToSlots h') (st : base.StaysIn h') : Fm prog w mg mb env ρ κ h' := by
  obtain ⟨m, hn, hm⟩ := F.loc
  refine ⟨gb.grow st, F.kind, F.glo, F.blt, ⟨m, up.ns hn, fun x d e => let ⟨v, a, b⟩ := hm x d e; ⟨v, a, b.up up⟩⟩, fun x d e => ?_⟩
  obtain ⟨c, v, a, b, i⟩ := F.cel x d e
  exact ⟨c, v, a, cell_up b up, i.up up⟩

theorem isOff_fresh {D : Addr} {h : Heap} {v : Value} {ds : List PyData} (x : Is h v (.list ds)) (hn : nlAll ds = true) (hne : ∀ a, v = .ref a → a ≠ D) : IsOff D h v (.list ds) := by
  obtain ⟨n, as, r⟩ := x
  cases r with
  | list ho hc hd r =>
    refine ⟨n, _, .list ho hc hd r, ?_⟩
    rw [readsAll_nl hn r]
    simpa using fun e => hne _ rfl e.symm

/-! ## What the law builds -/
def numsL (ns : List Int) : List Int := [6905, 1707, 5030] ++ ns.take 7
def lastN (ns : List Int) : Int := (numsL ns).getLastD 0
def headS (ns : List Int) : Str := Txt.join (S [44]) ((numsL ns).map wholeS) ++ (tailRow (lastN ns)).1
def headL (ns : List Int) : List Nat := (headS ns).cps.toList
def toldP (n : Int) : Str × Str := (spelled n, (val (n / 20)).2.1)
def meantP (n : Int) : Str × Str := (nameS n, (val (n / 20)).2.2)
def lateP (n : Int) : Str × Str := (lateS n, (val (n / 20)).2.2)
def readsD (ns : List Int) : List PyData := [readD (httpL (headL ns)), readD (httpL (prepL (headL ns))), readD ((httpL (headL ns)).map prepL)]
def outsD (ns : List Int) : List PyData := [outcD ((numsL ns).map toldP) (tailRow (lastN ns)).2.1, outcD ((numsL ns).map meantP) (tailRow (lastN ns)).2.2.1, outcD ((numsL ns).map lateP) (tailRow (lastN ns)).2.2.2]

section
variable {prog : Program} {w : World} {mg mb : Str → Option Value} {A : Around} {env : Env} {ρ κ : List (Str × PyData)} {base : Heap}

/-- one reading, inside the law's frame -/
theorem one_read {s : Shared} {E : Value → Shared → Prop} {Q : Value → Shared → Prop} {e : Expr} {p pos : Pos} {items : List (List Nat)} {L : Addr} (hA : AOk A 2) (gb : G prog w mg mb base) (hfr : A.frames = some [env]) (hfun : s.heap.FunFrames base [env]) (g : Grow base s.heap)
    (F : Fm prog w mg mb env ρ κ s.heap) (hx : env.kindOf "_law_read" = some .globalImplicit) (x : EvD prog w mg mb A env ρ κ e (.list (items.map fun l => .str (S l)))) (he : notStar e = true) (hz : ∀ l ∈ items, l.length ≤ 1000000) (hz2 : items.length ≤ 1000000)
    (hQ : ∀ u h' tk, s.heap.UpToSlots h' → Grow base h' → h'.FunFrames base [env] → Is h' u (readD items) → Q u { s with heap := h', toks := tk }) :
    wpAny (model prog w) A (eval (.Call (.Name "_law_read" p) [e] [] pos) env) Q E s := by
  obtain ⟨a, o, pm, cd, doc, h1, h2, h3, h4⟩ := F.gl.fn 11 (by decide)
  refine wpAny_Call_Name_kw (Name_function_global F.kind hx (loadGlobal_global (mg := mg) (by rw [F.glo]; exact F.gl.g) (show mg "_law_read" = some (.ref a) from h1) ?_) (by decide))
  refine callWith_def h3 (wpAny_items_cons (wpAny_mono (x.run s E F) (fun v s₁ q => wpAny_items_nil ?_) fun _ _ q => q) (star_of he [] env)) (star_of he [] env)
  obtain ⟨⟨h', tk, rfl, k⟩, hi⟩ := q
  refine ⟨k _ _ h2, ?_⟩
  refine call_read hA gb hfr (hfun.of_keeps fun b o hb _ => ⟨o, k b o hb, rfl⟩) (fun b o e => k b o (g b o e)) hi hz hz2 h1 fun u h₂ tk₂ sl hi₂ => ?_
  exact hQ u h₂ tk₂ ((upToSlots_grow k).trans sl.up) sl.st sl.fr hi₂
end
end Ny

namespace Ny
open PySem PySem.W PySem.Calls PyProof.Rows

def sideP (j : Nat) : Int → Str × Str := if j = 1 then toldP else if j = 2 then meantP else lateP
def sideO (j : Nat) (r : TailRow) : Outc := if j = 1 then r.2.1 else if j = 2 then r.2.2.1 else r.2.2.2
theorem outsD_eq (ns : List Int) : outsD ns = [1, 2, 3].map fun j => outcD ((numsL ns).map (sideP j)) (sideO j (tailRow (lastN ns))) := rfl
theorem pair_side (n : Int) (j : Nat) (h1 : 1 ≤ j) (h3 : j ≤ 3) : ∃ l, pairD n = .tuple l ∧ l[j]? = some (PD (sideP j n)) := by
  refine ⟨_, rfl, ?_⟩
  rcases (show j = 1 ∨ j = 2 ∨ j = 3 by omega) with rfl | rfl | rfl <;> rfl
theorem tail_side (r : TailRow) (j : Nat) (h1 : 1 ≤ j) (h3 : j ≤ 3) : ∃ l, r.toD = .tuple l ∧ l[j]? = some (sideO j r).toD := by
  refine ⟨_, rfl, ?_⟩
  rcases (show j = 1 ∨ j = 2 ∨ j = 3 by omega) with rfl | rfl | rfl <;> rfl

def layS (x : Str) : Bool := PyData.canLay0 (.str x)
theorem lay_spelled (n : Int) : layS (spelled n) = true := by
  have h : ∀ r ∈ waysL, ∀ x ∈ r, layS x = true := by decide +kernel
  refine getD_all (P := fun x : Str => layS x = true) ?_ (by decide +kernel) _
  exact getD_all (P := fun r : List Str => ∀ x ∈ r, layS x = true) h (by intro x hx; simp at hx) _
theorem lay_nameS (n : Int) : layS (nameS n) = true := getD_all (P := fun x : Str => layS x = true) (by decide +kernel) (by decide +kernel) _
theorem lay_lateS (n : Int) : layS (lateS n) = true := by
  unfold lateS
  split
  · have h : ∀ x ∈ namesL, layS (S [32] ++ x) = true := by decide +kernel
    exact getD_all (P := fun x : Str => layS (S [32] ++ x) = true) h (by decide +kernel) _
  · exact lay_nameS n
theorem lay_side (j : Nat) (n : Int) : layS (sideP j n).1 = true := by
  unfold sideP
  split
  · exact lay_spelled n
  · split
    · exact lay_nameS n
    · exact lay_lateS n
def outcOk : Outc → Bool
  | .err _ => true
  | .ok l => decide (l.length ≤ 500) && l.all fun p => layS p.1
theorem tail_ok (n : Int) (j : Nat) : outcOk (sideO j (tailRow n)) = true := by
  have h : ∀ r ∈ tailTab, (outcOk r.2.1 && outcOk r.2.2.1 && outcOk r.2.2.2) = true := by decide +kernel
  have : (outcOk (tailRow n).2.1 && outcOk (tailRow n).2.2.1 && outcOk (tailRow n).2.2.2) = true :=
    getD_all (P := fun r : TailRow => (outcOk r.2.1 && outcOk r.2.2.1 && outcOk r.2.2.2) = true) h (d := (S [], .ok [], .ok [], .ok [])) (by decide) (n % 17).toNat
  simp only [Bool.and_eq_true] at this
  unfold sideO
  split
  · exact this.1.1
  · split
    · exact this.1.2
    · exact this.2
theorem nums_len (ns : List Int) : (numsL ns).length ≤ 10 := by
  unfold numsL
  rw [List.length_append, List.length_take]
  simp
  omega
theorem nl_PD (l : List (Str × Str)) : nlAll (l.map PD) = true := by
  induction l with
  | nil => rfl
  | cons p l ih => simp [nlAll, nl, ih]

section
variable {prog : Program} {w : World} {mg mb : Str → Option Value} {A : Around} {env : Env} {ρ κ : List (Str × PyData)} {base : Heap}

theorem con_side (ns : List Int) (j : Nat) : ConF prog w mg mb 1 17 [.list (((numsL ns).map (sideP j)).map PD), (sideO j (tailRow (lastN ns))).toD] (outcD ((numsL ns).map (sideP j)) (sideO j (tailRow (lastN ns)))) := by
  have hok := tail_ok (lastN ns) j
  have hn := nums_len ns
  refine con_out _ _ (by rw [List.length_map]; omega) (fun l h => ?_) fun l h p hp => ?_
  · rw [h] at hok
    simp only [outcOk, Bool.and_eq_true, decide_eq_true_eq] at hok
    exact hok.1
  · rw [h] at hok
    simp only [outcOk, Bool.and_eq_true, List.all_eq_true] at hok
    rcases List.mem_append.mp hp with hp | hp
    · obtain ⟨n, _, rfl⟩ := List.mem_map.mp hp
      exact lay_side j n
    · exact hok.2 p hp

/-- a call whose value is no old object, beside a growing list -/
theorem elt_call {cenv : Env} {f : Str} {p pos : Pos} {e : Expr} {es : List Expr} {ds : List PyData} {d : PyData} {k i : Nat} {D : Addr} (hi : i ∈ fnsUsed) (hf : f = nameAt i) (hA : AOk A k) (hx : cenv.kindOf f = some .globalImplicit)
    (x : EvL prog w mg mb A cenv ρ κ (e :: es) ds) (c : ConF prog w mg mb k i ds d) (hd : (∃ xs, d = .list xs ∧ nlAll xs = true) ∨ nl d = true) (hdb : (f == ("__debug__" : Str)) = false)
    (he : notStar e = true) : EltOff prog w mg mb A cenv ρ κ D (.Call (.Name f p) (e :: es) [] pos) d := .mk fun s E ys F hpl => by
  obtain ⟨a, o, pm, cd, doc, h1, h2, h3, h4⟩ := F.gl.fn i hi
  refine wpAny_Call_Name_kw (Name_function_global F.kind hx (loadGlobal_global (mg := mg) (by rw [F.glo]; exact F.gl.g) (hf ▸ h1) ?_) hdb)
  refine callWith_def h3 (wpAny_mono (x.run s pos E F) (fun vs s₁ q => ⟨q.1.grow _ _ h2, ?_⟩) fun _ _ q => q) (star_of he es cenv)
  refine wpAny_mono (c.run A s₁ E vs a hA (F.gl.grow q.1.grow) q.2 h1) (fun v s₂ r => ⟨q.1.trans r.1, ?_⟩) fun _ _ q => q
  rcases hd with ⟨xs, rfl, hn⟩ | hn
  · refine isOff_fresh r.2.1 hn fun a' e' => ?_
    rintro rfl
    obtain ⟨n, ho⟩ := hpl
    have := r.2.2 _ e'
    rw [q.1.grow _ _ ho] at this
    cases this
  · exact r.2.1.isOff hn

def lawRet : Option Expr := match (bodyAt 19).getLast? with
  | some (.Return e _) => e
  | _ => none

theorem outc_nl (ps : List (Str × Str)) (o : Outc) : (∃ xs, outcD ps o = .list xs ∧ nlAll xs = true) ∨ nl (outcD ps o) = true := by
  cases o with
  | err x => exact .inr rfl
  | ok l => exact .inl ⟨_, rfl, nl_PD _⟩

def lawRhs : Expr := match lawRet with
  | some (.Compare _ _ [r] _) => r
  | _ => .Constant .none 0 ⟨0, 0, 0, 0⟩

theorem ev_outs {L a : Addr} {cd : Value} {k : Nat} (hA : AOk A 1) (ns : List Int) (ρ : List (Str × PyData)) :
    EvD prog w mg mb A (envOfC (nameAt 19) (scopeAt 19) L a cd) ρ [("tail", (tailRow (lastN ns)).toD), ("pairs", .list ((numsL ns).map pairD))] lawRhs (.list (outsD ns)) := by
  have hsl : sizeLine = 16777216 := rfl
  have hn := nums_len ns
  have e0 : outsD ns = ((([1, 2, 3] : List Int).map PyData.int).filter fun _ => true).map fun d => outcD ((numsL ns).map (sideP (intOf d).toNat)) (sideO (intOf d).toNat (tailRow (lastN ns))) := rfl
  rw [e0]
  refine ev_comp (own := some "side") (κf := [("tail", (tailRow (lastN ns)).toD), ("pairs", .list ((numsL ns).map pairD))]) (Rs := fun v h => Is h v (.list (([1, 2, 3] : List Int).map PyData.int))) ?s0 (fun v h i => src_list hA.handled i) ?ci ?hz ?ok ?ht ?hf
  case s0 =>
    refine ev_lit _ _ ?_ ?_
    · kernel_rfl
    · decide +kernel
  case hz => decide
  case ht => exact .inl fun _ _ => rfl
  case hf => intro _; rfl
  case ci =>
    refine ⟨.some "side" ?_ ?_, ?_, ?_, ?_, ?_⟩
    · intro _ _; rfl
    · intro _; rfl
    · rfl
    · rfl
    · decide +kernel
    · intro y d e
      rw [List.lookup_cons] at e
      cases hy : y == ("tail" : Str) with
      | true =>
        rw [hy] at e; cases e
        rw [beq_iff_eq.mp hy]
        exact ⟨rfl, fun _ => rfl⟩
      | false =>
        rw [hy] at e
        dsimp only at e
        rw [List.lookup_cons] at e
        cases hy2 : y == ("pairs" : Str) with
        | true =>
          rw [hy2] at e; cases e
          rw [beq_iff_eq.mp hy2]
          exact ⟨rfl, fun _ => rfl⟩
        | false => rw [hy2] at e; simp at e
  case ok =>
    refine ⟨fun b C D' d hd => ?_⟩
    obtain ⟨j, hj, rfl⟩ := List.mem_map.mp hd
    have hj' : 1 ≤ j ∧ j ≤ 3 := by
      simp only [List.mem_cons, List.not_mem_nil, or_false] at hj
      omega
    obtain ⟨i, rfl⟩ : ∃ i : Nat, j = (i : Int) := ⟨j.toNat, by omega⟩
    have hi1 : 1 ≤ i ∧ i ≤ 3 := by omega
    refine ⟨_, _, tgt_cell ?t1 ?t2 ?t3, evts_nil, fun _ => elt_call (i := 17) (ds := [.list (((numsL ns).map (sideP i)).map PD), (sideO i (tailRow (lastN ns))).toD]) (by decide) (by decide +kernel) hA ?x1 (evl_cons ?x2 (evl_cons ?x3 evl_nil)) (con_side ns i) (outc_nl _ _) (by decide) ?x4⟩
    case t1 => rfl
    case t2 => rfl
    case t3 => rfl
    case x1 => rfl
    case x4 => rfl
    case x3 =>
      obtain ⟨l, e1, e2⟩ := tail_side (tailRow (lastN ns)) i hi1.1 hi1.2
      refine ev_itemT (ds := l) (k := (i : Int)) ?_ ?_ (by omega) (by omega) (by simpa using e2)
      · rw [← e1]; exact ev_cell (by rfl) (by rfl) (by decide)
      · exact ev_cell (by rfl) (by rfl) (by decide)
    case x2 =>
      have e3 : ((numsL ns).map (sideP i)).map PD = ((((numsL ns).map pairD).filter fun _ => true).map fun d => match d with | .tuple l => l.getD i .none | d => d) := by
        rw [List.filter_eq_self.mpr (fun _ _ => rfl), List.map_map, List.map_map]
        refine List.map_congr_left fun n _ => ?_
        obtain ⟨l, e1, e2⟩ := pair_side n i hi1.1 hi1.2
        show PD (sideP i n) = (match pairD n with | .tuple l => l.getD i .none | d => d)
        rw [e1]
        show _ = l.getD i .none
        rw [List.getD_eq_getElem?_getD, e2]; rfl
      rw [e3]
      refine ev_comp (own := none) (κf := [("side", .int i)]) (Rs := fun v h => Is h v (.list ((numsL ns).map pairD))) ?s0 (fun v h i => src_list hA.handled i) ?ci ?hz ?ok ?ht ?hf
      case s0 => exact ev_cell (by rfl) (by rfl) (by decide)
      case hz => rw [List.length_map]; omega
      case ht => exact .inl fun _ _ => rfl
      case hf => intro _; rfl
      case ci =>
        refine ⟨.none ?_ ?_, ?_, ?_, ?_, ?_⟩
        · intro _ _; rfl
        · intro _; rfl
        · rfl
        · rfl
        · decide +kernel
        · intro y d e
          rw [List.lookup_cons] at e
          cases hy : y == ("side" : Str) with
          | true =>
            rw [hy] at e; cases e
            rw [beq_iff_eq.mp hy]
            exact ⟨rfl, fun _ => rfl⟩
          | false => rw [hy] at e; simp at e
      case ok =>
        refine ⟨fun b' C' D'' d hd => ?_⟩
        obtain ⟨n, hn', rfl⟩ := List.mem_map.mp hd
        obtain ⟨l, e1, e2⟩ := pair_side n i hi1.1 hi1.2
        refine ⟨_, _, tgt_name ?t1 ?t2, evts_nil, fun _ => ?b1⟩
        case t1 => rfl
        case t2 => rfl
        case b1 =>
          have e4 : (match pairD n with | .tuple l => l.getD i .none | d => d) = PD (sideP i n) := by
            rw [e1]
            show l.getD i .none = _
            rw [List.getD_eq_getElem?_getD, e2]; rfl
          rw [e4]
          refine elt_of rfl (ev_itemT (ds := l) (k := (i : Int)) ?_ ?_ (by omega) (by omega) (by simpa using e2))
          · rw [← e1]; exact ev_local (by rfl) (by rfl) (by decide)
          · exact ev_cell (by rfl) (by rfl) (by decide)
end
end Ny

namespace Ny
open PySem PySem.W PySem.Calls PyProof.Rows

theorem whole_le (n : Int) : (wholeS n).length ≤ 30 := by
  have h1 := whiteS_le n
  have h2 := spelled_le n
  have h3 := (val_le (n / 20)).1
  unfold wholeS
  simp only [Str.length_append, len_S, List.length_cons, List.length_nil]
  omega
theorem join_le (sep : Str) (ts : List Str) (B : Nat) (h : ∀ t ∈ ts, t.length ≤ B) : (Txt.join sep ts).length ≤ ts.length * B + ts.length * sep.length := by
  show (Builtin.Str.glued sep ts).length ≤ _
  rw [StrLaws.glued_eq_join]
  have h1 := StrLaws.join_length_le sep ts
  have h2 := StrLaws.sumLen_le ts h
  omega
theorem tail_le (n : Int) : (tailRow n).1.length ≤ 20 := getD_all (P := fun r : TailRow => r.1.length ≤ 20) (d := (S [], .ok [], .ok [], .ok [])) (by decide +kernel) (by decide) _
theorem head_le (ns : List Int) : (headS ns).length ≤ 1000 := by
  unfold headS
  have h1 := join_le (S [44]) ((numsL ns).map wholeS) 30 (fun t ht => by obtain ⟨n, _, rfl⟩ := List.mem_map.mp ht; exact whole_le n)
  have h2 := tail_le (lastN ns)
  have h3 := nums_len ns
  rw [List.length_map, show (S [44]).length = 1 from rfl] at h1
  rw [Str.length_append]
  omega

section
variable {prog : Program} {w : World} {mg mb : Str → Option Value} {A : Around} {base : Heap}

def pairsData (ns : List Int) : PyData := .list ((numsL ns).map pairD)
def itemsData (l : List (List Nat)) : PyData := .list (l.map fun l => .str (S l))

theorem exc_law {L a : Addr} {cd : Value} (hA : AOk A 5) (ns : List Int) (hns : ns.length ≤ 63) {R : Value → Heap → Prop}
    (fin : ExC prog w mg mb A (envOfC (nameAt 19) (scopeAt 19) L a cd) base
      [("items", itemsData (httpL (headL ns))), ("header", .str (headS ns)), ("numbers", .list ((numsL ns).map .int)), ("script", .list (ns.map .int))]
      [("tail", (tailRow (lastN ns)).toD), ("pairs", pairsData ns)] ((bodyAt 19).drop 5) R) :
    ExC prog w mg mb A (envOfC (nameAt 19) (scopeAt 19) L a cd) base [("script", .list (ns.map .int))] [] (bodyAt 19) R := by
  have hsl : sizeLine = 16777216 := rfl
  have hnl := nums_len ns
  have hhl := head_le ns
  -- numbers
  refine exc_assign (d := .list ((numsL ns).map .int)) ?a1 ?a2 ?_ ?a3
  case a2 => rfl
  case a3 => rfl
  case a1 =>
    have e : (numsL ns).map PyData.int = [.int 6905, .int 1707, .int 5030] ++ (ns.map PyData.int).take 7 := by
      unfold numsL
      rw [List.map_append, List.map_take]; rfl
    rw [e]
    refine ev_addL ?_ (ev_sliceTo (n := 7) ?_ ev_int ?_ ?_) ?_
    · refine ev_lit _ _ ?_ ?_
      · kernel_rfl
      · decide +kernel
    · exact ev_local (by rfl) (by rfl) (by decide)
    · rw [List.length_map]; omega
    · intro _ _; rfl
    · simp; omega
  -- pairs
  refine exc_assign_cell (d := pairsData ns) (c := L + 1) ?b1 ?b2 ?b3 ?_ ?b4
  case b2 => rfl
  case b3 => rfl
  case b4 => rfl
  case b1 =>
    have e : (numsL ns).map pairD = ((((numsL ns).map PyData.int).filter fun _ => true).map fun d => pairD (intOf d)) := by
      rw [List.filter_eq_self.mpr (fun _ _ => rfl), List.map_map]; rfl
    unfold pairsData
    rw [e]
    refine ev_comp (own := none) (κf := []) (Rs := fun v h => Is h v (.list ((numsL ns).map .int))) ?s0 (fun v h i => src_list hA.handled i) ?ci ?hz ?ok ?ht ?hf
    case s0 => exact ev_local (by rfl) (by rfl) (by decide)
    case hz => rw [List.length_map]; omega
    case ht => exact .inl fun _ _ => rfl
    case hf => intro _; rfl
    case ci =>
      refine ⟨.none ?_ ?_, ?_, ?_, ?_, ?_⟩
      · intro _ _; rfl
      · intro _; rfl
      · rfl
      · rfl
      · decide +kernel
      · intro y d e; simp at e
    case ok =>
      refine ⟨fun b C D' d hd => ?_⟩
      obtain ⟨n, hn, rfl⟩ := List.mem_map.mp hd
      refine ⟨_, _, tgt_name ?t1 ?t2, evts_nil, fun _ => elt_of ?n ?b1⟩
      case t1 => rfl
      case t2 => rfl
      case n => rfl
      case b1 =>
        refine ev_call (i := 18) (by decide) (by decide +kernel) (hA.le (by decide)) ?_ (ds := [.int n]) (evl_cons (ev_local (by rfl) (by rfl) (by decide)) evl_nil) (con_pair n)
        rfl
  -- tail
  refine exc_assign_cell (d := (tailRow (lastN ns)).toD) (c := L + 2) ?c1 ?c2 ?c3 ?_ ?c4
  case c2 => rfl
  case c3 => rfl
  case c4 => rfl
  case c1 =>
    refine ev_call (i := 16) (by decide) (by decide +kernel) (hA.le (by decide)) ?_ (ds := [.int (lastN ns)]) (evl_cons (ev_lastL (ds := (numsL ns).map .int) ?_ (ev_neg ev_int) ?_) evl_nil) (con_tail (lastN ns))
    · rfl
    · exact ev_local (by rfl) (by rfl) (by decide)
    · rw [List.getLast?_map]
      unfold lastN
      have : numsL ns ≠ [] := by unfold numsL; simp
      rw [List.getLastD_eq_getLast?, List.getLast?_eq_some_getLast this]; rfl
  -- header
  refine exc_assign (d := .str (headS ns)) ?d1 ?d2 ?_ ?d3
  case d2 => rfl
  case d3 => rfl
  case d1 =>
    refine ev_addS (ev_join (sep := S [44]) (ts := (numsL ns).map wholeS) ?_ ?_ ?_ ?_ ?_ ?_) (ev_itemT (k := 0) (d := .str (tailRow (lastN ns)).1) (ds := [.str (tailRow (lastN ns)).1, (tailRow (lastN ns)).2.1.toD, (tailRow (lastN ns)).2.2.1.toD, (tailRow (lastN ns)).2.2.2.toD]) ?_ ev_int (by decide) (by decide) ?_) ?_
    · exact ev_str
    · have e : ((numsL ns).map wholeS).map PyData.str = ((((numsL ns).map pairD).filter fun _ => true).map fun d => match d with | .tuple (x :: _) => x | d => d) := by
        rw [List.filter_eq_self.mpr (fun _ _ => rfl), List.map_map, List.map_map]; rfl
      rw [e]
      refine ev_comp (own := none) (κf := []) (Rs := fun v h => Is h v (.list ((numsL ns).map pairD))) ?s0 (fun v h i => src_list hA.handled i) ?ci ?hz ?ok ?ht ?hf
      case s0 => exact ev_cell (by rfl) (by rfl) (by decide)
      case hz => rw [List.length_map]; omega
      case ht => exact .inl fun _ _ => rfl
      case hf => intro _; rfl
      case ci =>
        refine ⟨.none ?_ ?_, ?_, ?_, ?_, ?_⟩
        · intro _ _; rfl
        · intro _; rfl
        · rfl
        · rfl
        · decide +kernel
        · intro y d e; simp at e
      case ok =>
        refine ⟨fun b C D' d hd => ?_⟩
        obtain ⟨n, hn, rfl⟩ := List.mem_map.mp hd
        refine ⟨_, _, tgt_name ?t1 ?t2, evts_nil, fun _ => elt_of ?n (ev_itemT (k := 0) (d := .str (wholeS n)) (ds := [.str (wholeS n), P2 (spelled n) (val (n / 20)).2.1, P2 (nameS n) (val (n / 20)).2.2, P2 (lateS n) (val (n / 20)).2.2]) ?b1 ev_int (by decide) (by decide) ?b2)⟩
        case t1 => rfl
        case t2 => rfl
        case n => rfl
        case b1 => exact ev_local (by rfl) (by rfl) (by decide)
        case b2 => rfl
    · unfold JoinOk
      rw [Bool.not_eq_true']
      refine StrLaws.joinFits (B := 30) (fun y hy => ?_) ?_
      · obtain ⟨n, _, rfl⟩ := List.mem_map.mp hy
        exact whole_le n
      · rw [List.length_map, show (S [44]).length = 1 from rfl]; omega
    · rfl
    · rfl
    · rfl
    · exact ev_cell (by rfl) (by rfl) (by decide)
    · rfl
    · have := hhl
      unfold headS at this
      rw [Str.length_append] at this
      omega
  -- items
  refine exc_assign (d := itemsData (httpL (headL ns))) ?e1 ?e2 ?_ ?e3
  case e2 => rfl
  case e3 => rfl
  case e1 =>
    refine ev_call (i := 2) (by decide) (by decide +kernel) (hA.le (by decide)) ?_ (ds := [.str (headS ns)]) (evl_cons (ev_local (by rfl) (by rfl) (by decide)) evl_nil) (con_http (headS ns) (by omega))
    rfl
  exact fin
end
end Ny

namespace Ny
open PySem PySem.W PySem.Calls PyProof.Rows

theorem stripL_le (l : List Nat) : (stripL l).length ≤ l.length := by
  have h := len_strip (S l)
  unfold stripL
  have e1 : (Txt.strip (S l)).cps.toList.length = (Txt.strip (S l)).length := by simp [Str.length]
  have e2 : (S l).length = l.length := by simp [Str.length]
  omega
theorem httpL_le (cs : List Nat) : (∀ l ∈ httpL cs, l.length ≤ cs.length) ∧ (httpL cs).length ≤ cs.length + 1 := by
  refine ⟨fun l hl => ?_, ?_⟩
  · obtain ⟨p, hp, rfl⟩ := List.mem_map.mp hl
    exact Nat.le_trans (stripL_le p) (httpEnd_parts cs p hp)
  · unfold httpL
    rw [List.length_map]
    have := httpRun_le cs
    unfold httpEnd
    split
    · omega
    · rw [List.length_append, List.length_singleton]; omega
theorem prepC_le (c : Nat) : (prepC c).length ≤ 4 := by
  unfold prepC
  split
  · simp
  · unfold foldC
    have := b3S_le ⟨#[c]⟩ rfl
    simpa [Str.length] using this
theorem prepL_le (l : List Nat) : (prepL l).length ≤ 4 * l.length := by
  unfold prepL
  induction l with
  | nil => simp
  | cons c l ih =>
    have := prepC_le c
    simp only [List.flatMap_cons, List.length_append, List.length_cons]
    omega

section
variable {prog : Program} {w : World} {mg mb : Str → Option Value} {A : Around} {base : Heap}

theorem fin_law {L a : Addr} {cd : Value} (hA : AOk A 5) (hfr : A.frames = some [envOfC (nameAt 19) (scopeAt 19) L a cd]) (hL0 : base.get? L = none) (ns : List Int) (h1 : SeqAt.shaped (.list (readsD ns)) = true) (h2 : SeqAt.shaped (.list (outsD ns)) = true) :
    ExC prog w mg mb A (envOfC (nameAt 19) (scopeAt 19) L a cd) base
      [("items", itemsData (httpL (headL ns))), ("header", .str (headS ns)), ("numbers", .list ((numsL ns).map .int)), ("script", .list (ns.map .int))]
      [("tail", (tailRow (lastN ns)).toD), ("pairs", pairsData ns)] ((bodyAt 19).drop 5) (fun v h => v = .bool (PyData.eqv (.list (readsD ns)) (.list (outsD ns)))) := .mk fun gb hL s E F g co => by
  have hhl := head_le ns
  have hsl : sizeLine = 16777216 := rfl
  have hhl' : (headL ns).length ≤ 1000 := by unfold headL; simpa [Str.length] using hhl
  have hpl := prepL_le (headL ns)
  have b1 := httpL_le (headL ns)
  have b2 := httpL_le (prepL (headL ns))
  obtain ⟨m, hn, _⟩ := F.loc
  have hfun : s.heap.FunFrames base [envOfC (nameAt 19) (scopeAt 19) L a cd] := Heap.FunFrames.cons (L := L) (by show ScopeKind.function ≠ ScopeKind.module; decide) rfl hn hL0 trivial
  have hA2 : AOk A 2 := hA.le (by decide)
  refine wpAny_execs_cons (wpAny_Assign_Name (wpAny_List (wpAny_items_cons (one_read (L := L) (items := httpL (headL ns)) hA2 gb hfr hfun g F ?a1 ?a2 rfl (fun l hl => ?a3) ?a4 fun u₁ h₁ tk₁ up₁ g₁ fun₁ i₁ => ?_) (star_of rfl _ _))) ?sw)
  case a1 => rfl
  case a2 => exact ev_local (by rfl) (by rfl) (by decide)
  case a3 => have := b1.1 l hl; omega
  case a4 => omega
  case sw => rfl
  have F₁ := fm_up F gb up₁ g₁
  refine wpAny_items_cons (one_read (L := L) (items := httpL (prepL (headL ns))) hA2 gb hfr fun₁ g₁ F₁ ?a1 ?a2 rfl (fun l hl => ?a3) ?a4 fun u₂ h₂ tk₂ up₂ g₂ fun₂ i₂ => ?_) (star_of rfl _ _)
  case a1 => rfl
  case a2 =>
    have hx : (prepS (headS ns)).cps.toList = prepL (headL ns) := rfl
    rw [← hx]
    refine ev_call (i := 2) (by decide) (by decide +kernel) (hA.le (by decide)) ?_ (ds := [.str (prepS (headS ns))]) (evl_cons (ev_call (i := 10) (by decide) (by decide +kernel) (hA.le (by decide)) ?_ (ds := [.str (headS ns)]) (evl_cons (ev_local (by rfl) (by rfl) (by decide)) evl_nil) (con_prepared (headS ns) (by omega))) evl_nil) (con_http _ ?_)
    · rfl
    · rfl
    · show (prepL (headL ns)).toArray.size ≤ _
      simp; omega
  case a3 => have := b2.1 l hl; omega
  case a4 => omega
  have F₂ := fm_up F₁ gb up₂ g₂
  refine wpAny_items_cons (one_read (L := L) (items := (httpL (headL ns)).map prepL) hA2 gb hfr fun₂ g₂ F₂ ?a1 ?a2 rfl (fun l hl => ?a3) ?a4 fun u₃ h₃ tk₃ up₃ g₃ fun₃ i₃ => ?_) (star_of rfl _ _)
  case a1 => rfl
  case a2 =>
    have e : (((httpL (headL ns)).map prepL).map fun l => PyData.str (S l)) = ((((httpL (headL ns)).map fun l => PyData.str (S l)).filter fun _ => true).map fun d => .str (prepS (strOf d))) := by
      rw [List.filter_eq_self.mpr (fun _ _ => rfl), List.map_map, List.map_map]
      refine List.map_congr_left fun l _ => ?_
      show PyData.str (S (prepL l)) = .str (S (prepL (S l).cps.toList))
      simp
    rw [e]
    refine ev_comp (own := none) (κf := []) (Rs := fun v h => Is h v (itemsData (httpL (headL ns)))) ?s0 (fun v h i => src_list hA.handled i) ?ci ?hz ?ok ?ht ?hf
    case s0 => exact ev_local (by rfl) (by rfl) (by decide)
    case hz => rw [List.length_map]; omega
    case ht => exact .inl fun _ _ => rfl
    case hf => intro _; rfl
    case ci =>
      refine ⟨.none ?_ ?_, ?_, ?_, ?_, ?_⟩
      · intro _ _; rfl
      · intro _; rfl
      · rfl
      · rfl
      · decide +kernel
      · intro y d e; simp at e
    case ok =>
      refine ⟨fun b C D' d hd => ?_⟩
      obtain ⟨l, hl, rfl⟩ := List.mem_map.mp hd
      have hll := b1.1 l hl
      refine ⟨_, _, tgt_name ?t1 ?t2, evts_nil, fun _ => elt_of ?n ?b1⟩
      case t1 => rfl
      case t2 => rfl
      case n => rfl
      case b1 =>
        refine ev_call (i := 10) (by decide) (by decide +kernel) (hA.le (by decide)) ?_ (ds := [.str (S l)]) (evl_cons (ev_local (by rfl) (by rfl) (by decide)) evl_nil) (con_prepared (S l) (by simp [Str.length]; omega))
        rfl
  case a3 =>
    obtain ⟨p, hp, rfl⟩ := List.mem_map.mp hl
    have h3 := b1.1 p hp
    have h4 := prepL_le p
    omega
  case a4 => rw [List.length_map]; omega
  have F₃ := fm_up F₂ gb up₃ g₃
  refine wpAny_items_nil ⟨Nat.le_of_ble_eq_true rfl, ?_⟩
  have gp := Grow.push h₃ { cls := .type "list", dict := none, data := .seq ([u₁, u₂, u₃] : List Value).toArray }
  have hres : Is (h₃.push { cls := .type "list", dict := none, data := .seq ([u₁, u₂, u₃] : List Value).toArray }) (.ref h₃.objs.size) (.list (readsD ns)) := by
    refine Is.list (vs := #[u₁, u₂, u₃]) ⟨_, Heap.get?_push_size _ rfl, rfl, _, rfl⟩ ?_
    exact IsAll.cons (((i₁.up up₂).up up₃).grow gp) (IsAll.cons ((i₂.up up₃).grow gp) (IsAll.cons (i₃.grow gp) (IsAll.nil _)))
  refine store' (d := .list (readsD ns)) gb hL (F₃.grow gp) (g₃.trans gp) (by rfl) hres fun h₄ tk₄ F₄ g₄ _ => ?_
  have ret : Ex prog w mg mb A (envOfC (nameAt 19) (scopeAt 19) L a cd) base
      [("readings", .list (readsD ns)), ("items", itemsData (httpL (headL ns))), ("header", .str (headS ns)), ("numbers", .list ((numsL ns).map .int)), ("script", .list (ns.map .int))]
      [("tail", (tailRow (lastN ns)).toD), ("pairs", pairsData ns)] ((bodyAt 19).drop 6) (fun v h => v = .bool (PyData.eqv (.list (readsD ns)) (.list (outsD ns)))) := by
    refine ex_ret (ev_cmp (R₁ := fun v h => Is h v (.list (readsD ns))) (R₂ := fun v h => Is h v (.list (outsD ns))) (ev_local (by rfl) (by rfl) (by decide)) (ev_outs (k := 0) (hA.le (by decide)) ns _) (fun _ _ _ g i => i.grow g) (fun x y s' E' _ hx hy => ?_) ?_)
    · obtain ⟨_, as, ra⟩ := hx
      obtain ⟨_, bs, rb⟩ := hy
      exact SeqAt.compareEq_shaped ra rb h1 h2 hA.unit ⟨Kp.refl s', rfl⟩
    · with_unfolding_all rfl
  exact wpAny_mono (ret.run gb hL _ E F₄ g₄) (fun f s' o => o.back ⟨h₄, tk₄, rfl⟩) fun _ _ q => q
end
end Ny

namespace Ny
open PySem PySem.W PySem.Calls PyProof.Rows

section
variable {prog : Program} {w : World} {mg mb : Str → Option Value}

theorem call_law {A : Around} {s : Shared} {E : Value → Shared → Prop} {v : Value} {a : Addr} (hA : AOk A 6) (hG : G prog w mg mb s.heap) (hfn : FnAt mg s.heap 19) (hfr : A.frames = some []) (ns : List Int) (hns : ns.length ≤ 63) (hv : Is s.heap v (.list (ns.map .int)))
    (h1 : SeqAt.shaped (.list (readsD ns)) = true) (h2 : SeqAt.shaped (.list (outsD ns)) = true) (ha : mg (nameAt 19) = some (.ref a)) :
    wpAny (model prog w) A (call (.ref a) [v]) (fun u s' => Kp s s' ∧ u = .bool (PyData.eqv (.list (readsD ns)) (.list (outsD ns)))) E s := by
  obtain ⟨a', ob, pm, cd, doc, e1, e2, e3, e4⟩ := hfn
  rw [ha] at e1
  cases e1
  refine wpAny_call (call_cells (binds := [("script", v)]) hA.room e2 e3 hG.lim e4 (by rfl) (fun x hx => ?_) (fun h₁ tk F X => ?_) (by rfl) (by rfl) (by rfl))
  · rw [List.mem_singleton] at hx
    subst hx
    exact .inl rfl
  generalize hL : s.heap.objs.size = L at *
  have hA' := hA.deeper (envOfC (nameAt 19) (scopeAt 19) L a cd)
  have F₁ : Fm prog w mg mb (envOfC (nameAt 19) (scopeAt 19) L a cd) [("script", .list (ns.map .int))] [] h₁ := by
    refine ⟨hG.grow F.keep, rfl, rfl, rfl, ⟨_, F.ns, fun z d e => ?_⟩, fun z d e => by simp at e⟩
    rw [List.lookup_cons] at e
    cases hz' : z == ("script" : Str) with
    | false => rw [hz'] at e; simp at e
    | true =>
      rw [hz'] at e; cases e
      rw [beq_iff_eq.mp hz']
      exact ⟨v, rfl, hv.grow F.keep⟩
  have co : CellsOk' s.heap (envOfC (nameAt 19) (scopeAt 19) L a cd) h₁ :=
    ⟨fun n c e => ⟨_, X.cell n c e⟩, X.apart, fun n c e => Nat.le_of_lt (by rw [hL]; exact X.above n c e)⟩
  have hL0 : s.heap.get? L = none := by
    cases e : s.heap.get? L with
    | none => rfl
    | some o' => exact absurd (Heap.lt_size e) (by rw [hL]; exact Nat.lt_irrefl _)
  have hfrD : (A.deeper (envOfC (nameAt 19) (scopeAt 19) L a cd)).frames = some [envOfC (nameAt 19) (scopeAt 19) L a cd] := Around.frames_deeper hfr
  have fin := exc_law (prog := prog) (w := w) (mg := mg) (mb := mb) (base := s.heap) (L := L) (a := a) (cd := cd) hA' ns hns (fin_law hA' hfrD hL0 ns h1 h2)
  refine wpAny_mono (fin.run hG (Nat.le_of_eq hL) { s with heap := h₁, toks := tk } _ F₁ F.keep co) (fun f s' out => ?_) fun _ _ q => q
  obtain ⟨u, h', tk', rfl, rfl, g, r⟩ := out
  exact ⟨⟨h', tk', rfl, g⟩, r⟩
end
end Ny

namespace Ny
open PySem

/-! ## Texts that parse_http_list passes whole -/
/-- outside of quotes -/
def Seg (w p : List Nat) : Prop := ∀ part res, w.foldl httpStep ⟨part, false, false, res⟩ = ⟨part ++ p, false, false, res⟩
/-- inside of quotes -/
def QSeg (w p : List Nat) : Prop := ∀ part res, w.foldl httpStep ⟨part, false, true, res⟩ = ⟨part ++ p, false, true, res⟩
theorem Seg.nil : Seg [] [] := fun part res => by simp
theorem QSeg.nil : QSeg [] [] := fun part res => by simp
theorem Seg.app {a b p q : List Nat} (x : Seg a p) (y : Seg b q) : Seg (a ++ b) (p ++ q) := fun part res => by
  rw [List.foldl_append, x, y, List.append_assoc]
theorem QSeg.app {a b p q : List Nat} (x : QSeg a p) (y : QSeg b q) : QSeg (a ++ b) (p ++ q) := fun part res => by
  rw [List.foldl_append, x, y, List.append_assoc]
theorem Seg.one {c : Nat} (h1 : c ≠ 34) (h2 : c ≠ 44) : Seg [c] [c] := fun part res => by
  simp [httpStep, h1, h2]
theorem QSeg.one {c : Nat} (h1 : c ≠ 34) (h2 : c ≠ 92) : QSeg [c] [c] := fun part res => by
  simp [httpStep, h1, h2]
theorem QSeg.esc (c : Nat) : QSeg [92, c] [c] := fun part res => by
  simp [httpStep]
theorem Seg.all {l : List Nat} (h : ∀ c ∈ l, c ≠ 34 ∧ c ≠ 44) : Seg l l := by
  induction l with
  | nil => exact Seg.nil
  | cons c l ih => exact (Seg.one (h c (.head _)).1 (h c (.head _)).2).app (ih fun d hd => h d (.tail _ hd))
theorem QSeg.all {l : List Nat} (h : ∀ c ∈ l, c ≠ 34 ∧ c ≠ 92) : QSeg l l := by
  induction l with
  | nil => exact QSeg.nil
  | cons c l ih => exact (QSeg.one (h c (.head _)).1 (h c (.head _)).2).app (ih fun d hd => h d (.tail _ hd))
theorem Seg.quoted {b p : List Nat} (x : QSeg b p) : Seg (34 :: (b ++ [34])) (34 :: (p ++ [34])) := fun part res => by
  have h1 : httpStep ⟨part, false, false, res⟩ 34 = ⟨part ++ [34], false, true, res⟩ := by simp [httpStep]
  rw [List.foldl_cons, h1, List.foldl_append, x]
  simp [httpStep]

/-- what is told first stands first -/
theorem http_res (w : List Nat) : ∀ (s : Hs) (r : List (List Nat)), w.foldl httpStep { s with res := r ++ s.res } = { w.foldl httpStep s with res := r ++ (w.foldl httpStep s).res } := by
  induction w with
  | nil => intro s r; rfl
  | cons c w ih =>
    intro s r
    have h : httpStep { s with res := r ++ s.res } c = { httpStep s c with res := r ++ (httpStep s c).res } := by
      unfold httpStep
      dsimp only
      repeat' split
      all_goals simp
    rw [List.foldl_cons, List.foldl_cons, h, ih]

def joinL : List (List Nat) → List Nat
  | [] => []
  | [x] => x
  | x :: y :: r => x ++ 44 :: joinL (y :: r)
/-- texts between commas, and a tail behind a comma -/
theorem http_join : ∀ (ws ps : List (List Nat)), ws ≠ [] → Paired Seg ws ps → ∀ (r : List (List Nat)),
    (joinL ws).foldl httpStep ⟨[], false, false, r⟩ = ⟨ps.getLastD [], false, false, r ++ ps.dropLast⟩
  | [], _, h, _, _ => absurd rfl h
  | [w], _, _, .cons x .nil, r => by
    show w.foldl httpStep _ = _
    rw [x [] r]; simp
  | w :: v :: ws, q :: ps', _, .cons x t, r => by
    show (w ++ 44 :: joinL (v :: ws)).foldl httpStep _ = _
    rw [List.foldl_append, x [] r, List.foldl_cons]
    have h : httpStep ⟨[] ++ q, false, false, r⟩ 44 = ⟨[], false, false, r ++ [q]⟩ := by simp [httpStep]
    rw [h, http_join (v :: ws) ps' (by simp) t]
    cases t with
    | cons y t' => simp [List.getLastD_cons]
theorem http_head {ws ps : List (List Nat)} (h : ws ≠ []) (x : Paired Seg ws ps) (hne : ps.getLastD [] ≠ []) : httpEnd (httpRun (joinL ws)) = ps := by
  unfold httpRun
  rw [http_join ws ps h x]
  unfold httpEnd
  have : (ps.getLastD []).isEmpty = false := by
    cases e : ps.getLastD [] with
    | nil => exact absurd e hne
    | cons => rfl
  simp only [this, Bool.false_eq_true, if_false, List.nil_append]
  have hps : ps ≠ [] := by rintro rfl; cases x; exact h rfl
  rw [List.getLastD_eq_getLast?, List.getLast?_eq_some_getLast hps]
  exact List.dropLast_concat_getLast hps
theorem http_tail {ws ps : List (List Nat)} (h : ws ≠ []) (x : Paired Seg ws ps) (t : List Nat) : httpEnd (httpRun (joinL ws ++ 44 :: t)) = ps ++ httpEnd (httpRun t) := by
  have hps : ps ≠ [] := by rintro rfl; cases x; exact h rfl
  have e : httpRun (joinL ws ++ 44 :: t) = { httpRun t with res := ps ++ (httpRun t).res } := by
    unfold httpRun
    rw [List.foldl_append, http_join ws ps h x, List.foldl_cons]
    have h2 : httpStep ⟨ps.getLastD [], false, false, [] ++ ps.dropLast⟩ 44 = { (⟨[], false, false, []⟩ : Hs) with res := ps ++ [] } := by
      simp only [httpStep, Bool.false_eq_true, if_false, if_true, List.nil_append, List.append_nil]
      congr 1
      rw [List.getLastD_eq_getLast?, List.getLast?_eq_some_getLast hps]
      exact List.dropLast_concat_getLast hps
    rw [h2, http_res]
  rw [e]
  unfold httpEnd
  dsimp only
  split <;> simp

/-! ## What parse_keqv_list makes of each item -/
def parse1 (e : List Nat) : Except String (List Nat × List Nat) := match splitEq e with
  | none => .error "ValueError"
  | some (_, []) => .error "IndexError"
  | some (k, v) => .ok (k, unq v)
def parseAll : List (List Nat) → Except String (List (List Nat × List Nat))
  | [] => .ok []
  | e :: es => match parse1 e with
    | .error c => .error c
    | .ok p => match parseAll es with
      | .error c => .error c
      | .ok l => .ok (p :: l)
def putAll (kvs l : List (List Nat × List Nat)) : List (List Nat × List Nat) := l.foldl (fun kvs p => putL kvs p.1 p.2) kvs
theorem keqv_parse : ∀ (items : List (List Nat)) (kvs : List (List Nat × List Nat)), keqvGo kvs items = match parseAll items with
    | .ok l => .ok (putAll kvs l)
    | .error c => .error c
  | [], kvs => rfl
  | e :: es, kvs => by
    have h : keqvStep kvs e = match parse1 e with
        | .ok p => .ok (putL kvs p.1 p.2)
        | .error c => .error c := by
      unfold keqvStep parse1
      split <;> simp_all
    rw [keqvGo_cons, h]
    unfold parseAll
    cases parse1 e with
    | error c => rfl
    | ok p =>
      dsimp only
      rw [keqv_parse es]
      cases parseAll es <;> rfl
theorem parseAll_cons (e : List Nat) (es : List (List Nat)) : parseAll (e :: es) = match parse1 e with
    | .error c => .error c
    | .ok p => match parseAll es with
      | .error c => .error c
      | .ok l => .ok (p :: l) := rfl
theorem parseAll_app : ∀ (a b : List (List Nat)), parseAll (a ++ b) = match parseAll a with
    | .error c => .error c
    | .ok l => match parseAll b with
      | .error c => .error c
      | .ok m => .ok (l ++ m)
  | [], b => by
    show parseAll b = match parseAll b with | .error c => .error c | .ok m => .ok ([] ++ m)
    cases parseAll b <;> rfl
  | e :: a, b => by
    rw [List.cons_append, parseAll_cons, parseAll_cons]
    cases parse1 e with
    | error c => rfl
    | ok p =>
      dsimp only
      rw [parseAll_app a b]
      cases parseAll a with
      | error c => rfl
      | ok l =>
        dsimp only
        cases parseAll b <;> rfl
theorem parseAll_map {α : Type} (f : α → List Nat) (g : α → List Nat × List Nat) (l : List α) (h : ∀ a ∈ l, parse1 (f a) = .ok (g a)) : parseAll (l.map f) = .ok (l.map g) := by
  induction l with
  | nil => rfl
  | cons a l ih =>
    rw [List.map_cons, List.map_cons]
    unfold parseAll
    rw [h a (.head _), ih fun b hb => h b (.tail _ hb)]
end Ny

namespace Ny
open PySem

def SS (p : List Nat × List Nat) : Str × Str := (S p.1, S p.2)
def putS (kvs : List (Str × Str)) (k v : Str) : List (Str × Str) :=
  if kvs.any (fun p => p.1 = k) then kvs.map (fun p => if p.1 = k then (p.1, v) else p) else kvs ++ [(k, v)]
theorem put_SS (kvs : List (List Nat × List Nat)) (k v : List Nat) : (putL kvs k v).map SS = putS (kvs.map SS) (S k) (S v) := by
  have hd : ∀ p : List Nat × List Nat, decide (p.1 = k) = decide ((SS p).1 = S k) := fun p => by
    by_cases h : p.1 = k
    · rw [decide_eq_true h, decide_eq_true (show (SS p).1 = S k from congrArg S h)]
    · rw [decide_eq_false h, decide_eq_false (show ¬ (SS p).1 = S k from fun e => h (S_inj e))]
  unfold putL putS
  have e : (kvs.any fun p => decide (p.1 = k)) = ((kvs.map SS).any fun p => decide (p.1 = S k)) := by
    rw [List.any_map]
    exact congrArg (fun f => List.any kvs f) (funext fun p => hd p)
  rw [e]
  split
  · rw [List.map_map, List.map_map]
    refine List.map_congr_left fun p _ => ?_
    show SS (if p.1 = k then (p.1, v) else p) = if (SS p).1 = S k then ((SS p).1, S v) else SS p
    by_cases h : p.1 = k
    · rw [if_pos h, if_pos (show (SS p).1 = S k from congrArg S h)]; rfl
    · rw [if_neg h, if_neg (show ¬ (SS p).1 = S k from fun e => h (S_inj e))]
  · simp [SS]
theorem putAll_SS (l : List (List Nat × List Nat)) : ∀ kvs, (putAll kvs l).map SS = (l.map SS).foldl (fun kvs p => putS kvs p.1 p.2) (kvs.map SS) := by
  induction l with
  | nil => intro kvs; rfl
  | cons p l ih =>
    intro kvs
    show (putAll (putL kvs p.1 p.2) l).map SS = _
    rw [ih, put_SS]; rfl

theorem keyAt_app (l : List (Str × Str)) (x : Str × Str) (i : Nat) (h : i < l.length) : keyAt (l ++ [x]) i = keyAt l i := by
  unfold keyAt keysS
  rw [List.map_append, List.getD_eq_getElem?_getD, List.getD_eq_getElem?_getD, List.getElem?_append_left (by simpa using h)]
theorem keyAt_end (l : List (Str × Str)) (x : Str × Str) : keyAt (l ++ [x]) l.length = x.1 := by
  unfold keyAt keysS
  rw [List.map_append, List.getD_eq_getElem?_getD, List.getElem?_append_right (by simp)]
  simp
theorem keys_take (l : List (Str × Str)) (x : Str × Str) (i : Nat) (h : i ≤ l.length) : (keysS (l ++ [x])).take i = (keysS l).take i := by
  unfold keysS
  rw [List.map_append, List.take_append_of_le_length (by simpa using h)]
theorem lastS_app (l : List (Str × Str)) (x : Str × Str) (k : Str) : lastS (l ++ [x]) k = if x.1 = k then x.2 else lastS l k := by
  unfold lastS
  rw [List.filter_append, List.map_append]
  by_cases h : x.1 = k
  · rw [if_pos h]; simp [h]
  · rw [if_neg h]; simp [h]
theorem places_app (l : List (Str × Str)) (x : Str × Str) : outPlaces (l ++ [x]) = outPlaces l ++ (if (keysS l).any (fun y => y == x.1) then [] else [l.length]) := by
  unfold outPlaces
  rw [List.length_append, List.length_singleton, List.range_succ, List.filter_append]
  congr 1
  · refine List.filter_congr fun i hi => ?_
    rw [List.mem_range] at hi
    rw [keyAt_app l x i hi, keys_take l x i (Nat.le_of_lt hi)]
  · have e1 : keyAt (l ++ [x]) l.length = x.1 := keyAt_end l x
    have e2 : (keysS (l ++ [x])).take l.length = keysS l := by
      rw [keys_take l x l.length (Nat.le_refl _)]
      exact List.take_of_length_le (by simp [keysS])
    simp only [List.filter_cons, List.filter_nil, e1, e2]
    cases (keysS l).any fun y => y == x.1 <;> simp

theorem snocInd {α : Type} {P : List α → Prop} (h0 : P []) (h1 : ∀ l x, P l → P (l ++ [x])) (l : List α) : P l := by
  have key : ∀ l : List α, P l.reverse := by
    intro l
    induction l with
    | nil => exact h0
    | cons c l ih => rw [List.reverse_cons]; exact h1 _ _ ih
  have := key l.reverse
  rwa [List.reverse_reverse] at this
theorem first_place (l : List (Str × Str)) (k : Str) (h : k ∈ keysS l) : ∃ i ∈ outPlaces l, keyAt l i = k := by
  revert h
  refine snocInd (P := fun l => k ∈ keysS l → ∃ i ∈ outPlaces l, keyAt l i = k) (fun h => ?_) (fun l x ih h => ?_) l
  · simp [keysS] at h
  · rw [places_app]
    by_cases hk : k ∈ keysS l
    · obtain ⟨i, hi, e⟩ := ih hk
      refine ⟨i, List.mem_append_left _ hi, ?_⟩
      have : i < l.length := by
        unfold outPlaces at hi
        exact List.mem_range.mp (List.mem_filter.mp hi).1
      rw [keyAt_app l x i this, e]
    · have hx : k = x.1 := by
        unfold keysS at h hk
        rw [List.map_append] at h
        rcases List.mem_append.mp h with h | h
        · exact absurd h hk
        · simpa using h
      subst hx
      refine ⟨l.length, List.mem_append_right _ ?_, keyAt_end l x⟩
      have : ((keysS l).any fun y => y == x.1) = false := by
        rw [Bool.eq_false_iff]
        intro e
        rw [List.any_eq_true] at e
        obtain ⟨y, hy, e⟩ := e
        rw [beq_iff_eq] at e
        exact hk (e ▸ hy)
      rw [this]; simp

theorem putAll_out (l : List (Str × Str)) : l.foldl (fun kvs p => putS kvs p.1 p.2) [] = outL l := by
  refine snocInd (P := fun l => l.foldl (fun kvs p => putS kvs p.1 p.2) [] = outL l) rfl (fun l x ih => ?_) l
  · rw [List.foldl_append, ih]
    show putS (outL l) x.1 x.2 = outL (l ++ [x])
    have hmem : ∀ i ∈ outPlaces l, i < l.length := fun i hi => by
      unfold outPlaces at hi
      exact List.mem_range.mp (List.mem_filter.mp hi).1
    have hany : ((outL l).any fun p => decide (p.1 = x.1)) = (keysS l).any fun y => y == x.1 := by
      rw [Bool.eq_iff_iff, List.any_eq_true, List.any_eq_true]
      constructor
      · rintro ⟨p, hp, e⟩
        obtain ⟨i, hi, rfl⟩ := List.mem_map.mp hp
        exact ⟨keyAt l i, keyAt_mem l i (hmem i hi), by simpa using e⟩
      · rintro ⟨y, hy, e⟩
        rw [beq_iff_eq] at e
        subst e
        obtain ⟨i, hi, e⟩ := first_place l _ hy
        exact ⟨_, List.mem_map.mpr ⟨i, hi, rfl⟩, by simpa using e⟩
    unfold putS
    rw [hany]
    have hbase : (outPlaces l).map (fun i => (keyAt (l ++ [x]) i, lastS (l ++ [x]) (keyAt (l ++ [x]) i))) = (outL l).map fun p => if p.1 = x.1 then (p.1, x.2) else p := by
      unfold outL
      rw [List.map_map]
      refine List.map_congr_left fun i hi => ?_
      rw [keyAt_app l x i (hmem i hi), lastS_app]
      show _ = if keyAt l i = x.1 then (keyAt l i, x.2) else (keyAt l i, lastS l (keyAt l i))
      by_cases h : keyAt l i = x.1
      · rw [if_pos h, if_pos h.symm]
      · rw [if_neg h, if_neg (Ne.symm h)]
    unfold outL at hbase ⊢
    rw [places_app, List.map_append, hbase]
    cases hc : (keysS l).any fun y => y == x.1 with
    | true => simp
    | false =>
      simp only [Bool.false_eq_true, if_false, List.map_cons, List.map_nil]
      congr 1
      · have hno : ∀ p ∈ outL l, (if p.1 = x.1 then (p.1, x.2) else p) = p := fun p hp => by
          rw [if_neg]
          intro e
          have : ((outL l).any fun p => decide (p.1 = x.1)) = true := List.any_eq_true.mpr ⟨p, hp, by simpa using e⟩
          rw [hany, hc] at this
          cases this
        conv => lhs; rw [← List.map_id (List.map _ _)]
        exact (List.map_congr_left hno).symm
      · rw [keyAt_end, lastS_app, if_pos rfl]

theorem read_parse (items : List (List Nat)) : readD items = match parseAll items with
    | .ok l => .list ((outL (l.map SS)).map PD)
    | .error c => .str (Str.ofString c) := by
  unfold readD keqvL
  rw [keqv_parse]
  cases parseAll items with
  | error c => rfl
  | ok l =>
    show PyData.list ((putAll [] l).map tupD) = _
    have e : (putAll [] l).map tupD = ((putAll [] l).map SS).map PD := by rw [List.map_map]; rfl
    rw [e, putAll_SS]
    show PyData.list (((l.map SS).foldl (fun kvs p => putS kvs p.1 p.2) []).map PD) = _
    rw [putAll_out]
end Ny

namespace Ny
open PySem

/-! ## Folding brings no quote and no backslash -/
def okSign (d : Nat) : Prop := d ≠ 34 ∧ d ≠ 92 ∧ d < 1114112
theorem shifted_ok : ∀ (t : List (Nat × Nat × Nat)), (t.all fun e => decide (93 ≤ e.2.2 ∧ e.1 ≤ e.2.1 ∧ e.2.2 + (e.2.1 - e.1) < 1114112)) = true → ∀ c d, Unicode.shifted t c = some d → 93 ≤ d ∧ d < 1114112
  | [], _, c, d, h => by simp [Unicode.shifted] at h
  | (a, b, t) :: r, ha, c, d, h => by
    simp only [List.all_cons, Bool.and_eq_true, decide_eq_true_eq] at ha
    unfold Unicode.shifted at h
    split at h
    · cases h
    · split at h
      · cases h; omega
      · exact shifted_ok r ha.2 c d h
theorem lookup_mem {α β : Type} [BEq α] [LawfulBEq α] : ∀ {l : List (α × β)} {k : α} {y : β}, l.lookup k = some y → (k, y) ∈ l
  | [], k, y, e => by simp at e
  | (a, b) :: l, k, y, e => by
    rw [List.lookup_cons] at e
    cases hk : k == a with
    | true => rw [hk] at e; cases e; rw [eq_of_beq hk]; exact List.mem_cons_self
    | false => rw [hk] at e; exact List.mem_cons_of_mem _ (lookup_mem e)
theorem lowerOf_ok (c : Nat) (h : okSign c) : ∀ d ∈ Unicode.lowerOf c, okSign d := by
  intro d hd
  unfold Unicode.lowerOf Unicode.image at hd
  split at hd
  · rename_i cs e
    have hs : (UnicodeData.severalLower.all fun e => e.2.all fun d => decide (d ≠ 34 ∧ d ≠ 92 ∧ d < 1114112)) = true := by decide +kernel
    rw [List.all_eq_true] at hs
    have := hs _ (lookup_mem e)
    rw [List.all_eq_true] at this
    exact of_decide_eq_true (p := d ≠ 34 ∧ d ≠ 92 ∧ d < 1114112) (this d hd)
  · rw [List.mem_singleton] at hd
    subst hd
    cases e : Unicode.shifted UnicodeData.oneLower c with
    | none => exact h
    | some d =>
      have := shifted_ok UnicodeData.oneLower (by decide +kernel) c d e
      exact ⟨by show d ≠ 34; omega, by show d ≠ 92; omega, this.2⟩
theorem lower_one (c : Nat) : (Txt.lower ⟨#[c]⟩).cps.toList = Unicode.lowerAt #[c] 0 := by
  have e : Txt.lower ⟨#[c]⟩ = ⟨(Unicode.lowerAt #[c] 0).toArray⟩ := by simp [Txt.lower, placed]
  rw [e]
theorem lowerAt_ok (c : Nat) (h : okSign c) : ∀ d ∈ Unicode.lowerAt #[c] 0, okSign d := by
  intro d hd
  unfold Unicode.lowerAt at hd
  simp only [List.getElem?_toArray, List.getElem?_cons_zero] at hd
  split at hd
  · rw [List.mem_singleton] at hd
    subst hd
    exact ⟨by decide, by decide, by decide⟩
  · exact lowerOf_ok c h d hd
theorem foldC_ok (c : Nat) (h : okSign c) : ∀ d ∈ foldC c, okSign d := by
  intro d hd
  unfold foldC b3S at hd
  split at hd
  · rename_i y e
    have hs : (b3list.all fun e => e.2.cps.toList.all fun d => decide (d ≠ 34 ∧ d ≠ 92 ∧ d < 1114112)) = true := by decide +kernel
    rw [List.all_eq_true] at hs
    have := hs _ (lookup_mem e)
    rw [List.all_eq_true] at this
    exact of_decide_eq_true (p := d ≠ 34 ∧ d ≠ 92 ∧ d < 1114112) (this d hd)
  · rw [lower_one] at hd
    exact lowerAt_ok c h d hd
theorem prepC_ok (c : Nat) (h : okSign c) : ∀ d ∈ prepC c, okSign d := by
  intro d hd
  unfold prepC at hd
  split at hd
  · cases hd
  · exact foldC_ok c h d hd

theorem prepL_app (a b : List Nat) : prepL (a ++ b) = prepL a ++ prepL b := by simp [prepL]
theorem prepL_one (c : Nat) : prepL [c] = prepC c := by simp [prepL]

/-- the great letters' numbers -/
def greatN (n : Int) : Nat := (greatCode n).toNat
theorem great_fold : ∀ b ∈ [65, 119808, 120432], ∀ i < 26, prepC (b + i) = [97 + i] := by decide +kernel
end Ny

namespace Ny
open PySem

abbrev Lc (x : Str) : List Nat := x.cps.toList
theorem Lc_S (l : List Nat) : Lc (S l) = l := by simp
theorem Lc_app (a b : Str) : Lc (a ++ b) = Lc a ++ Lc b := by simp [Lc, Str.cps_append]
theorem S_Lc (x : Str) : S (Lc x) = x := S_toList x

theorem great_is (n : Int) : ∃ b ∈ [65, 119808, 120432], ∃ i < 26, greatN n = b + i ∧ (97 + n % 26).toNat = 97 + i := by
  have h := Int.emod_nonneg n (show (26 : Int) ≠ 0 by decide)
  have h' := Int.emod_lt_of_pos n (show (0 : Int) < 26 by decide)
  unfold greatN greatCode
  split
  · exact ⟨65, by simp, (n % 26).toNat, by omega, by omega, by omega⟩
  · split
    · exact ⟨119808, by simp, (n % 26).toNat, by omega, by omega, by omega⟩
    · exact ⟨120432, by simp, (n % 26).toNat, by omega, by omega, by omega⟩
theorem Lc_great (n : Int) : Lc (greatS n) = [greatN n] := rfl
def smallN (n : Int) : Nat := (97 + n % 26).toNat
theorem Lc_small (n : Int) : Lc (smallS n) = [smallN n] := rfl
theorem prep_great (n : Int) : prepC (greatN n) = [smallN n] := by
  obtain ⟨b, hb, i, hi, e1, e2⟩ := great_is n
  rw [e1, great_fold b hb i hi]
  show [97 + i] = [(97 + n % 26).toNat]
  rw [e2]
theorem great_ge (n : Int) : 65 ≤ greatN n ∧ greatN n < 1114112 ∧ greatN n ≠ 92 ∧ greatN n ≠ 61 := by
  obtain ⟨b, hb, i, hi, e1, e2⟩ := great_is n
  simp only [List.mem_cons, List.not_mem_nil, or_false] at hb
  omega
theorem small_ge (n : Int) : 97 ≤ smallN n ∧ smallN n ≤ 122 := by
  obtain ⟨b, hb, i, hi, e1, e2⟩ := great_is n
  unfold smallN
  omega

theorem p92 : prepC 92 = [92] := by decide +kernel
theorem p44 : prepC 44 = [44] := by decide +kernel
theorem p34 : prepC 34 = [34] := by decide +kernel
theorem p32 : prepC 32 = [32] := by decide +kernel
theorem p9 : prepC 9 = [9] := by decide +kernel
theorem p61 : prepC 61 = [61] := by decide +kernel
theorem p39 : prepC 39 = [39] := by decide +kernel
theorem p890 : prepC 890 = [32, 953] := by decide +kernel
theorem p13255 : prepC 13255 = [99, 111, 46] := by decide +kernel
theorem p65279 : prepC 65279 = [] := by decide +kernel
theorem p8288 : prepC 8288 = [] := by decide +kernel
theorem p65038 : prepC 65038 = [] := by decide +kernel
theorem p6157 : prepC 6157 = [] := by decide +kernel

/-- the sign of a place -/
def someN (n : Int) : Nat := (someS n).cps.toList.headD 0
theorem some_is (n : Int) : Lc (someS n) = [someN n] ∧ okSign (someN n) := by
  have hp := placeCode_le n
  unfold someN someS
  split
  · exact ⟨rfl, by decide, by decide, by decide⟩
  · rename_i h
    refine ⟨rfl, ?_⟩
    show okSign (placeCode n).toNat
    have hc : ¬ (placeCode n).toNat ∈ [34, 92] := fun hm => h (by
      show (!(Builtin.Str.occurrences _ _ 0 _ 1).isEmpty) = true
      have := StrLaws.found_one (S [34, 92]) (placeCode n).toNat
      rw [show chrS (placeCode n) = ⟨#[(placeCode n).toNat]⟩ from rfl, this]
      simpa using hm)
    simp only [List.mem_cons, List.not_mem_nil, or_false, not_or] at hc
    refine ⟨hc.1, hc.2, ?_⟩
    omega
theorem folded_is (n : Int) : Lc (foldedS n) = prepC (someN n) := by
  have h := (some_is n).1
  have e : someS n = ⟨#[someN n]⟩ := by
    rw [← S_Lc (someS n), h]
  unfold foldedS prepC isB1
  rw [e]
  split <;> rfl

/-- what holds of a sign: as it is sent, told and meant -/
structure SignOk (t : Str × Str × Str) : Prop where
  told : QSeg (Lc t.1) (Lc t.2.1)
  fold : prepL (Lc t.2.1) = Lc t.2.2
  meant : QSeg (prepL (Lc t.1)) (Lc t.2.2)
  cp1 : ∀ c ∈ Lc t.2.1, c < 1114112
  cp2 : ∀ c ∈ Lc t.2.2, c < 1114112
theorem signOk_esc {c : Nat} {d : List Nat} (hp : prepC c = d) (hd : QSeg (92 :: d) d) (h1 : c < 1114112) (h2 : ∀ x ∈ d, x < 1114112) : SignOk (S [92, c], S [c], S d) := by
  refine ⟨?_, ?_, ?_, ?_, ?_⟩
  · show QSeg (Lc (S [92, c])) (Lc (S [c])); rw [Lc_S, Lc_S]; exact QSeg.esc c
  · show prepL (Lc (S [c])) = Lc (S d); rw [Lc_S, Lc_S]; simp [prepL, hp]
  · show QSeg (prepL (Lc (S [92, c]))) (Lc (S d)); rw [Lc_S, Lc_S]; simpa [prepL, hp, p92] using hd
  · simpa using h1
  · simpa using h2
theorem signOk_plain {c : Nat} {d : List Nat} (hp : prepC c = d) (hc : c ≠ 34 ∧ c ≠ 92) (hd : ∀ x ∈ d, x ≠ 34 ∧ x ≠ 92) (h1 : c < 1114112) (h2 : ∀ x ∈ d, x < 1114112) : SignOk (S [c], S [c], S d) := by
  refine ⟨?_, ?_, ?_, ?_, ?_⟩
  · show QSeg (Lc (S [c])) (Lc (S [c])); rw [Lc_S]; exact QSeg.one hc.1 hc.2
  · show prepL (Lc (S [c])) = Lc (S d); rw [Lc_S, Lc_S]; simp [prepL, hp]
  · show QSeg (prepL (Lc (S [c]))) (Lc (S d)); rw [Lc_S, Lc_S]; simpa [prepL, hp] using QSeg.all hd
  · simpa using h1
  · simpa using h2
theorem qesc_cons {c : Nat} {r : List Nat} (h : ∀ x ∈ r, x ≠ 34 ∧ x ≠ 92) : QSeg (92 :: c :: r) (c :: r) := (QSeg.esc c).app (QSeg.all h)

theorem sign_ok (n : Int) : SignOk (sig n) := by
  have hg := great_ge (n / 13)
  have hs := small_ge (n / 13)
  have hpg := prep_great (n / 13)
  have eg : greatS (n / 13) = S [greatN (n / 13)] := rfl
  have es : smallS (n / 13) = S [smallN (n / 13)] := rfl
  have eo := some_is n
  have eo1 : someS n = S [someN n] := by rw [← S_Lc (someS n), eo.1]
  have eo2 : foldedS n = S (prepC (someN n)) := by rw [← S_Lc (foldedS n), folded_is]
  have hpo := prepC_ok (someN n) eo.2
  unfold sig
  refine getD_all (P := SignOk) (fun t ht => ?_) ?_ _
  · simp only [sigTab, List.mem_cons, List.not_mem_nil, or_false] at ht
    have nil2 : ∀ x ∈ ([] : List Nat), x ≠ 34 ∧ x ≠ 92 := by simp
    rcases ht with rfl | rfl | rfl | rfl | rfl | rfl | rfl | rfl | rfl | rfl | rfl | rfl | rfl
    · rw [eg, es]
      exact signOk_plain hpg ⟨by omega, by omega⟩ (by intro x hx; rw [List.mem_singleton] at hx; omega) hg.2.1 (by intro x hx; rw [List.mem_singleton] at hx; omega)
    · rw [eg, es, S_app]
      exact signOk_esc hpg (qesc_cons nil2) hg.2.1 (by intro x hx; rw [List.mem_singleton] at hx; omega)
    · exact signOk_plain p44 (by decide) (by decide) (by decide) (by decide)
    · exact signOk_esc p44 (qesc_cons nil2) (by decide) (by decide)
    · exact signOk_esc p34 (qesc_cons nil2) (by decide) (by decide)
    · exact signOk_esc p92 (qesc_cons nil2) (by decide) (by decide)
    · exact signOk_plain p32 (by decide) (by decide) (by decide) (by decide)
    · exact signOk_plain p61 (by decide) (by decide) (by decide) (by decide)
    · exact signOk_plain p39 (by decide) (by decide) (by decide) (by decide)
    · exact signOk_plain p890 (by decide) (by decide) (by decide) (by decide)
    · exact signOk_esc p13255 (qesc_cons (by decide)) (by decide) (by decide)
    · exact signOk_plain p65279 (by decide) (by decide) (by decide) (by decide)
    · rw [eo1, eo2]
      exact signOk_plain rfl ⟨eo.2.1, eo.2.2.1⟩ (fun x hx => ⟨(hpo x hx).1, (hpo x hx).2.1⟩) eo.2.2.2 (fun x hx => (hpo x hx).2.2)
  · exact ⟨QSeg.nil, rfl, QSeg.nil, by simp, by simp⟩
end Ny

namespace Ny
open PySem

theorem getD_mem {α : Type} (l : List α) (i : Nat) (d : α) (h : i < l.length) : l.getD i d ∈ l := by
  rw [List.getD_eq_getElem?_getD, List.getElem?_eq_getElem h]
  exact List.getElem_mem _
theorem unq_quoted (m : List Nat) : unq (34 :: (m ++ [34])) = m := by
  unfold unq
  have : (34 :: (m ++ [34])).getLast? = some 34 := by
    rw [← List.cons_append, List.getLast?_concat]
  rw [if_pos ⟨rfl, this⟩]
  simp
theorem unq_head {c : Nat} (r : List Nat) (h : c ≠ 34) : unq (c :: r) = c :: r := by
  unfold unq
  rw [if_neg]
  rintro ⟨h1, _⟩
  simp at h1
  exact h h1
theorem unq_last {c : Nat} (r : List Nat) (h : c ≠ 34) : unq (r ++ [c]) = r ++ [c] := by
  unfold unq
  rw [if_neg]
  rintro ⟨_, h2⟩
  rw [List.getLast?_concat] at h2
  simp at h2
  exact h h2

/-- a text whose last sign is no blank -/
def EndOk (l : List Nat) : Prop := ∃ r c, l = r ++ [c] ∧ Unicode.isSpace c = false
theorem EndOk.app {l : List Nat} (a : List Nat) (h : EndOk l) : EndOk (a ++ l) := by
  obtain ⟨r, c, rfl, hc⟩ := h
  exact ⟨a ++ r, c, by simp, hc⟩
theorem EndOk.ne {l : List Nat} (h : EndOk l) : l ≠ [] := by
  obtain ⟨r, c, rfl, _⟩ := h
  simp
theorem sp_great : ∀ b ∈ [65, 119808, 120432], ∀ i < 26, Unicode.isSpace (b + i) = false := by decide +kernel
theorem sp_small : ∀ i < 26, Unicode.isSpace (97 + i) = false := by decide +kernel
theorem space_great (n : Int) : Unicode.isSpace (greatN n) = false := by
  obtain ⟨b, hb, i, hi, e1, e2⟩ := great_is n
  rw [e1]; exact sp_great b hb i hi
theorem space_small (n : Int) : Unicode.isSpace (smallN n) = false := by
  obtain ⟨b, hb, i, hi, e1, e2⟩ := great_is n
  show Unicode.isSpace (97 + n % 26).toNat = false
  rw [e2]; exact sp_small i hi
theorem sp34 : Unicode.isSpace 34 = false := by decide +kernel
theorem sp65038 : Unicode.isSpace 65038 = false := by decide +kernel
theorem sp6157 : Unicode.isSpace 6157 = false := by decide +kernel

structure ValOk (t : Str × Str × Str) (raw rawm : List Nat) : Prop where
  seg : Seg (Lc t.1) raw
  told : unq raw = Lc t.2.1
  end1 : EndOk raw
  segm : Seg (prepL (Lc t.1)) rawm
  meant : unq rawm = Lc t.2.2
  end2 : EndOk rawm
  late : prepL raw = rawm
  cp1 : ∀ c ∈ Lc t.2.1, c < 1114112
  cp2 : ∀ c ∈ Lc t.2.2, c < 1114112

theorem val_ok (n : Int) : ∃ raw rawm, ValOk (val n) raw rawm := by
  have o1 := sign_ok (n / 8)
  have o2 := sign_ok (n / 104)
  have hg := great_ge (n / 8)
  have hs := small_ge (n / 8)
  have hpg := prep_great (n / 8)
  have sg := space_great (n / 8)
  have ss := space_small (n / 8)
  have eg : Lc (greatS (n / 8)) = [greatN (n / 8)] := rfl
  have es : Lc (smallS (n / 8)) = [smallN (n / 8)] := rfl
  generalize greatN (n / 8) = g at *
  generalize smallN (n / 8) = m at *
  -- the quoted text
  have T1 : QSeg (Lc (sig (n / 8)).1 ++ Lc (sig (n / 104)).1) (Lc (toldS n)) := by
    unfold toldS; rw [Lc_app]; exact o1.told.app o2.told
  have T2 : QSeg (prepL (Lc (sig (n / 8)).1 ++ Lc (sig (n / 104)).1)) (Lc (meantS n)) := by
    unfold meantS; rw [Lc_app, prepL_app]; exact o1.meant.app o2.meant
  have T3 : prepL (Lc (toldS n)) = Lc (meantS n) := by
    unfold toldS meantS; rw [Lc_app, Lc_app, prepL_app, o1.fold, o2.fold]
  have ct : ∀ c ∈ Lc (toldS n), c < 1114112 := by
    unfold toldS; rw [Lc_app]
    intro c hc
    rcases List.mem_append.mp hc with h | h
    · exact o1.cp1 c h
    · exact o2.cp1 c h
  have cm : ∀ c ∈ Lc (meantS n), c < 1114112 := by
    unfold meantS; rw [Lc_app]
    intro c hc
    rcases List.mem_append.mp hc with h | h
    · exact o1.cp2 c h
    · exact o2.cp2 c h
  have Q : Lc (sentS n) = 34 :: ((Lc (sig (n / 8)).1 ++ Lc (sig (n / 104)).1) ++ [34]) := by
    unfold sentS
    simp only [Lc_app, Lc_S]
    simp
  have Qp : prepL (Lc (sentS n)) = 34 :: (prepL (Lc (sig (n / 8)).1 ++ Lc (sig (n / 104)).1) ++ [34]) := by
    rw [Q]
    simp [prepL, p34]
  have S1 : Seg (Lc (sentS n)) (34 :: (Lc (toldS n) ++ [34])) := by rw [Q]; exact Seg.quoted T1
  have S2 : Seg (prepL (Lc (sentS n))) (34 :: (Lc (meantS n) ++ [34])) := by rw [Qp]; exact Seg.quoted T2
  have S3 : prepL (34 :: (Lc (toldS n) ++ [34])) = 34 :: (Lc (meantS n) ++ [34]) := by
    rw [← T3]; simp [prepL, p34]
  have E1 : EndOk (34 :: (Lc (toldS n) ++ [34])) := ⟨34 :: Lc (toldS n), 34, by simp, sp34⟩
  have E2 : EndOk (34 :: (Lc (meantS n) ++ [34])) := ⟨34 :: Lc (meantS n), 34, by simp, sp34⟩
  have SG : Seg [g] [g] := Seg.one (by omega) (by omega)
  have SM : Seg [m] [m] := Seg.one (by omega) (by omega)
  have cg : g < 1114112 := hg.2.1
  have cm' : m < 1114112 := by omega
  unfold val
  have key : ∀ t ∈ valTab n, ∃ raw rawm, ValOk t raw rawm := by
    intro t ht
    simp only [valTab, List.mem_cons, List.not_mem_nil, or_false] at ht
    rcases ht with rfl | rfl | rfl | rfl | rfl | rfl | rfl | rfl
    · exact ⟨_, _, S1, unq_quoted _, E1, S2, unq_quoted _, E2, S3, ct, cm⟩
    · refine ⟨[8288] ++ (34 :: (Lc (toldS n) ++ [34])), 34 :: (Lc (meantS n) ++ [34]), ?_, ?_, E1.app _, ?_, unq_quoted _, E2, ?_, ?_, cm⟩
      · show Seg (Lc (S [8288] ++ sentS n)) _
        rw [Lc_app, Lc_S [8288]]
        exact (Seg.one (by decide) (by decide)).app S1
      · show _ = Lc (S [8288, 34] ++ toldS n ++ S [34])
        rw [Lc_app, Lc_app, Lc_S [8288, 34], Lc_S [34], List.singleton_append, unq_head _ (by decide)]
        simp
      · show Seg (prepL (Lc (S [8288] ++ sentS n))) _
        rw [Lc_app, Lc_S [8288], prepL_app, prepL_one, p8288]
        exact S2
      · rw [prepL_app, prepL_one, p8288, S3]; rfl
      · show ∀ c ∈ Lc (S [8288, 34] ++ toldS n ++ S [34]), _
        rw [Lc_app, Lc_app, Lc_S [8288, 34], Lc_S [34]]
        intro c hc
        simp only [List.mem_append, List.mem_cons, List.not_mem_nil, or_false] at hc
        rcases hc with ((rfl | rfl) | h) | rfl
        · decide
        · decide
        · exact ct c h
        · decide
    · refine ⟨(34 :: (Lc (toldS n) ++ [34])) ++ [65038], 34 :: (Lc (meantS n) ++ [34]), ?_, ?_, ⟨_, 65038, rfl, sp65038⟩, ?_, unq_quoted _, E2, ?_, ?_, cm⟩
      · show Seg (Lc (sentS n ++ S [65038])) _
        rw [Lc_app, Lc_S [65038]]
        exact S1.app (Seg.one (by decide) (by decide))
      · show _ = Lc (S [34] ++ toldS n ++ S [34, 65038])
        rw [unq_last _ (by decide), Lc_app, Lc_app, Lc_S [34], Lc_S [34, 65038]]
        simp
      · show Seg (prepL (Lc (sentS n ++ S [65038]))) _
        rw [Lc_app, Lc_S [65038], prepL_app, prepL_one, p65038, List.append_nil]
        exact S2
      · rw [prepL_app, prepL_one, p65038, S3, List.append_nil]
      · show ∀ c ∈ Lc (S [34] ++ toldS n ++ S [34, 65038]), _
        rw [Lc_app, Lc_app, Lc_S [34], Lc_S [34, 65038]]
        intro c hc
        simp only [List.mem_append, List.mem_cons, List.not_mem_nil, or_false] at hc
        rcases hc with (rfl | h) | (rfl | rfl)
        · decide
        · exact ct c h
        · decide
        · decide
    · refine ⟨[g] ++ [6157], [m], ?_, ?_, ⟨[g], 6157, rfl, sp6157⟩, ?_, ?_, ⟨[], m, rfl, ss⟩, ?_, ?_, ?_⟩
      · show Seg (Lc (greatS (n / 8) ++ S [6157])) _
        rw [Lc_app, Lc_S [6157], eg]
        exact SG.app (Seg.one (by decide) (by decide))
      · show _ = Lc (greatS (n / 8) ++ S [6157])
        rw [Lc_app, Lc_S [6157], eg, List.singleton_append, unq_head _ (by omega)]
      · show Seg (prepL (Lc (greatS (n / 8) ++ S [6157]))) _
        rw [Lc_app, Lc_S [6157], eg, prepL_app, prepL_one, prepL_one, hpg, p6157]
        exact SM
      · show _ = Lc (smallS (n / 8))
        rw [es, unq_head _ (by omega)]
      · rw [prepL_app, prepL_one, prepL_one, hpg, p6157]; rfl
      · show ∀ c ∈ Lc (greatS (n / 8) ++ S [6157]), _
        rw [Lc_app, Lc_S [6157], eg]
        intro c hc
        simp only [List.mem_append, List.mem_cons, List.not_mem_nil, or_false] at hc
        omega
      · show ∀ c ∈ Lc (smallS (n / 8)), _
        rw [es]
        intro c hc
        simp only [List.mem_cons, List.not_mem_nil, or_false] at hc
        omega
    · refine ⟨[61] ++ [g], [61] ++ [m], ?_, ?_, ⟨[61], g, rfl, sg⟩, ?_, ?_, ⟨[61], m, rfl, ss⟩, ?_, ?_, ?_⟩
      · show Seg (Lc (S [61] ++ greatS (n / 8))) _
        rw [Lc_app, Lc_S [61], eg]
        exact (Seg.one (by decide) (by decide)).app SG
      · show _ = Lc (S [61] ++ greatS (n / 8))
        rw [Lc_app, Lc_S [61], eg, List.singleton_append, unq_head _ (by decide)]
      · show Seg (prepL (Lc (S [61] ++ greatS (n / 8)))) _
        rw [Lc_app, Lc_S [61], eg, prepL_app, prepL_one, prepL_one, hpg, p61]
        exact (Seg.one (by decide) (by decide)).app SM
      · show _ = Lc (S [61] ++ smallS (n / 8))
        rw [Lc_app, Lc_S [61], es, List.singleton_append, unq_head _ (by decide)]
      · rw [prepL_app, prepL_one, prepL_one, hpg, p61]
      · show ∀ c ∈ Lc (S [61] ++ greatS (n / 8)), _
        rw [Lc_app, Lc_S [61], eg]
        intro c hc
        simp only [List.mem_append, List.mem_cons, List.not_mem_nil, or_false] at hc
        omega
      · show ∀ c ∈ Lc (S [61] ++ smallS (n / 8)), _
        rw [Lc_app, Lc_S [61], es]
        intro c hc
        simp only [List.mem_append, List.mem_cons, List.not_mem_nil, or_false] at hc
        omega
    · refine ⟨[890] ++ [g], [32, 953] ++ [m], ?_, ?_, ⟨[890], g, rfl, sg⟩, ?_, ?_, ⟨[32, 953], m, rfl, ss⟩, ?_, ?_, ?_⟩
      · show Seg (Lc (S [890] ++ greatS (n / 8))) _
        rw [Lc_app, Lc_S [890], eg]
        exact (Seg.one (by decide) (by decide)).app SG
      · show _ = Lc (S [890] ++ greatS (n / 8))
        rw [Lc_app, Lc_S [890], eg, List.singleton_append, unq_head _ (by decide)]
      · show Seg (prepL (Lc (S [890] ++ greatS (n / 8)))) _
        rw [Lc_app, Lc_S [890], eg, prepL_app, prepL_one, prepL_one, hpg, p890]
        exact (Seg.all (by decide)).app SM
      · show _ = Lc (S [32, 953] ++ smallS (n / 8))
        rw [Lc_app, Lc_S [32, 953], es]
        show unq (32 :: ([953] ++ [m])) = _
        rw [unq_head _ (by decide)]
        rfl
      · rw [prepL_app, prepL_one, prepL_one, hpg, p890]
      · show ∀ c ∈ Lc (S [890] ++ greatS (n / 8)), _
        rw [Lc_app, Lc_S [890], eg]
        intro c hc
        simp only [List.mem_append, List.mem_cons, List.not_mem_nil, or_false] at hc
        omega
      · show ∀ c ∈ Lc (S [32, 953] ++ smallS (n / 8)), _
        rw [Lc_app, Lc_S [32, 953], es]
        intro c hc
        simp only [List.mem_append, List.mem_cons, List.not_mem_nil, or_false] at hc
        omega
    · refine ⟨[g] ++ (34 :: (Lc (toldS n) ++ [34])), [m] ++ (34 :: (Lc (meantS n) ++ [34])), ?_, ?_, E1.app _, ?_, ?_, E2.app _, ?_, ?_, ?_⟩
      · show Seg (Lc (greatS (n / 8) ++ sentS n)) _
        rw [Lc_app, eg]
        exact SG.app S1
      · show _ = Lc (greatS (n / 8) ++ S [34] ++ toldS n ++ S [34])
        rw [Lc_app, Lc_app, Lc_app, Lc_S [34], eg, List.singleton_append, unq_head _ (by omega)]
        simp
      · show Seg (prepL (Lc (greatS (n / 8) ++ sentS n))) _
        rw [Lc_app, eg, prepL_app, prepL_one, hpg]
        exact SM.app S2
      · show _ = Lc (smallS (n / 8) ++ S [34] ++ meantS n ++ S [34])
        rw [Lc_app, Lc_app, Lc_app, Lc_S [34], es, List.singleton_append, unq_head _ (by omega)]
        simp
      · rw [prepL_app, prepL_one, hpg, S3]
      · show ∀ c ∈ Lc (greatS (n / 8) ++ S [34] ++ toldS n ++ S [34]), _
        rw [Lc_app, Lc_app, Lc_app, Lc_S [34], eg]
        intro c hc
        simp only [List.mem_append, List.mem_cons, List.not_mem_nil, or_false] at hc
        rcases hc with ((rfl | rfl) | h) | rfl
        · exact cg
        · decide
        · exact ct c h
        · decide
      · show ∀ c ∈ Lc (smallS (n / 8) ++ S [34] ++ meantS n ++ S [34]), _
        rw [Lc_app, Lc_app, Lc_app, Lc_S [34], es]
        intro c hc
        simp only [List.mem_append, List.mem_cons, List.not_mem_nil, or_false] at hc
        rcases hc with ((rfl | rfl) | h) | rfl
        · exact cm'
        · decide
        · exact cm c h
        · decide
    · have A1 : Seg (34 :: (Lc (sig (n / 8)).1 ++ [34])) (34 :: (Lc (sig (n / 8)).2.1 ++ [34])) := Seg.quoted o1.told
      have A2 : Seg (34 :: (prepL (Lc (sig (n / 8)).1) ++ [34])) (34 :: (Lc (sig (n / 8)).2.2 ++ [34])) := Seg.quoted o1.meant
      have A0 : Lc (S [34] ++ (sig (n / 8)).1 ++ S [34] ++ sentS n) = (34 :: (Lc (sig (n / 8)).1 ++ [34])) ++ Lc (sentS n) := by
        rw [Lc_app, Lc_app, Lc_app, Lc_S [34]]; simp
      have A3 : prepL (34 :: (Lc (sig (n / 8)).1 ++ [34])) = 34 :: (prepL (Lc (sig (n / 8)).1) ++ [34]) := by simp [prepL, p34]
      have A4 : prepL (34 :: (Lc (sig (n / 8)).2.1 ++ [34])) = 34 :: (Lc (sig (n / 8)).2.2 ++ [34]) := by rw [← o1.fold]; simp [prepL, p34]
      refine ⟨(34 :: (Lc (sig (n / 8)).2.1 ++ [34])) ++ (34 :: (Lc (toldS n) ++ [34])), (34 :: (Lc (sig (n / 8)).2.2 ++ [34])) ++ (34 :: (Lc (meantS n) ++ [34])), ?_, ?_, E1.app _, ?_, ?_, E2.app _, ?_, ?_, ?_⟩
      · show Seg (Lc (S [34] ++ (sig (n / 8)).1 ++ S [34] ++ sentS n)) _
        rw [A0]
        exact A1.app S1
      · show _ = Lc ((sig (n / 8)).2.1 ++ S [34, 34] ++ toldS n)
        have e : (34 :: (Lc (sig (n / 8)).2.1 ++ [34])) ++ (34 :: (Lc (toldS n) ++ [34])) = 34 :: ((Lc (sig (n / 8)).2.1 ++ [34, 34] ++ Lc (toldS n)) ++ [34]) := by simp
        rw [e, unq_quoted, Lc_app, Lc_app, Lc_S [34, 34]]
      · show Seg (prepL (Lc (S [34] ++ (sig (n / 8)).1 ++ S [34] ++ sentS n))) _
        rw [A0, prepL_app, A3]
        exact A2.app S2
      · show _ = Lc ((sig (n / 8)).2.2 ++ S [34, 34] ++ meantS n)
        have e : (34 :: (Lc (sig (n / 8)).2.2 ++ [34])) ++ (34 :: (Lc (meantS n) ++ [34])) = 34 :: ((Lc (sig (n / 8)).2.2 ++ [34, 34] ++ Lc (meantS n)) ++ [34]) := by simp
        rw [e, unq_quoted, Lc_app, Lc_app, Lc_S [34, 34]]
      · rw [prepL_app, A4, S3]
      · show ∀ c ∈ Lc ((sig (n / 8)).2.1 ++ S [34, 34] ++ toldS n), _
        rw [Lc_app, Lc_app, Lc_S [34, 34]]
        intro c hc
        simp only [List.mem_append, List.mem_cons, List.not_mem_nil, or_false] at hc
        rcases hc with (h | (rfl | rfl)) | h
        · exact o1.cp1 c h
        · decide
        · decide
        · exact ct c h
      · show ∀ c ∈ Lc ((sig (n / 8)).2.2 ++ S [34, 34] ++ meantS n), _
        rw [Lc_app, Lc_app, Lc_S [34, 34]]
        intro c hc
        simp only [List.mem_append, List.mem_cons, List.not_mem_nil, or_false] at hc
        rcases hc with (h | (rfl | rfl)) | h
        · exact o1.cp2 c h
        · decide
        · decide
        · exact cm c h
  refine key _ (getD_mem _ _ _ ?_)
  have h8 := mod_range n 8 (by decide)
  show (n % 8).toNat < 8
  omega
end Ny

namespace Ny
open PySem

theorem takeWhile_app {p : Nat → Bool} {a m : List Nat} (ha : ∀ c ∈ a, p c = true) (hm : ∀ c r, m = c :: r → p c = false) : (a ++ m).takeWhile p = a := by
  induction a with
  | nil =>
    cases m with
    | nil => rfl
    | cons c r => simp [List.takeWhile_cons, hm c r rfl]
  | cons c a ih =>
    rw [List.cons_append, List.takeWhile_cons, ha c (.head _)]
    simp only [if_true]
    rw [ih fun d hd => ha d (.tail _ hd)]

/-- blanks at both ends go -/
theorem strip_mid {a m b : List Nat} (ha : ∀ c ∈ a, Unicode.isSpace c = true) (hb : ∀ c ∈ b, Unicode.isSpace c = true) (h1 : ∀ c r, m = c :: r → Unicode.isSpace c = false) (h2 : EndOk m) : stripL (a ++ m ++ b) = m := by
  unfold stripL Txt.strip
  rw [PyProof.Rows.stripBy_eq, StrLaws.strSub_toList]
  have hmne := h2.ne
  have e0 : (S (a ++ m ++ b)).cps.toList = a ++ m ++ b := by simp
  have hlo : stripLo Unicode.isSpace true (S (a ++ m ++ b)) = a.length := by
    unfold stripLo
    rw [e0]
    simp only [if_true]
    rw [List.append_assoc, takeWhile_app ha]
    intro c r e
    cases m with
    | nil => exact absurd rfl hmne
    | cons c' r' =>
      rw [List.cons_append] at e
      cases e
      exact h1 c r' rfl
  have hhi : stripHi Unicode.isSpace true (S (a ++ m ++ b)) (stripLo Unicode.isSpace true (S (a ++ m ++ b))) = a.length + m.length := by
    unfold stripHi
    rw [hlo, e0]
    simp only [if_true]
    have hd : (a ++ m ++ b).drop a.length = m ++ b := by rw [List.append_assoc, List.drop_left]
    rw [hd, List.reverse_append, takeWhile_app (fun c hc => hb c (List.mem_reverse.mp hc))]
    · rw [List.length_reverse]
      have : (S (a ++ m ++ b)).length = a.length + m.length + b.length := by simp [Str.length]; omega
      omega
    · intro c r e
      obtain ⟨r', c', rfl, hc⟩ := h2
      rw [List.reverse_append] at e
      simp at e
      exact e.1 ▸ hc
  rw [hhi, hlo, e0, List.append_assoc, List.drop_left]
  have : a.length + m.length - a.length = m.length := by omega
  rw [this, List.take_left]

/-! ## Names -/
def nameChk (sp nm : Str) : Bool :=
  (prepL (Lc sp) == (if sp == S [890] then 32 :: Lc nm else Lc nm)) && (Lc sp).all (fun c => decide (c ≠ 34 ∧ c ≠ 44 ∧ c ≠ 61 ∧ c < 1114112) && !Unicode.isSpace c) &&
  (Lc nm).all (fun c => decide (c ≠ 34 ∧ c ≠ 44 ∧ c ≠ 61 ∧ c < 1114112) && !Unicode.isSpace c)
theorem names_chk : ∀ i < 5, ∀ j < 4, nameChk ((waysL.getD i []).getD j (S [])) (namesL.getD i (S [])) = true := by decide +kernel
structure NameOk (sp nm late : List Nat) : Prop where
  fold : prepL sp = late
  late : late = nm ∨ late = 32 :: nm
  sp : ∀ c ∈ sp, c ≠ 34 ∧ c ≠ 44 ∧ c ≠ 61 ∧ c < 1114112 ∧ Unicode.isSpace c = false
  nm : ∀ c ∈ nm, c ≠ 34 ∧ c ≠ 44 ∧ c ≠ 61 ∧ c < 1114112 ∧ Unicode.isSpace c = false
theorem name_ok (n : Int) : NameOk (Lc (spelled n)) (Lc (nameS n)) (Lc (lateS n)) := by
  have h5 := mod_range n 5 (by decide)
  have h4 := mod_range (n / 5) 4 (by decide)
  have h := names_chk (n % 5).toNat (by omega) (n / 5 % 4).toNat (by omega)
  change nameChk (spelled n) (nameS n) = true at h
  unfold nameChk at h
  simp only [Bool.and_eq_true, List.all_eq_true, beq_iff_eq, decide_eq_true_eq, Bool.not_eq_true'] at h
  have hl : Lc (lateS n) = if spelled n == S [890] then 32 :: Lc (nameS n) else Lc (nameS n) := by
    unfold lateS
    split
    · rw [Lc_app, Lc_S [32]]; rfl
    · rfl
  refine ⟨?_, ?_, fun c hc => ?_, fun c hc => ?_⟩
  · rw [hl]; simpa using h.1.1
  · rw [hl]
    split
    · exact .inr rfl
    · exact .inl rfl
  · have := h.1.2 c hc
    exact ⟨this.1.1, this.1.2.1, this.1.2.2.1, this.1.2.2.2, this.2⟩
  · have := h.2 c hc
    exact ⟨this.1.1, this.1.2.1, this.1.2.2.1, this.1.2.2.2, this.2⟩

theorem white_ok (n : Int) : (∀ c ∈ Lc (whiteS n), Unicode.isSpace c = true ∧ c ≠ 34 ∧ c ≠ 44) ∧ prepL (Lc (whiteS n)) = Lc (whiteS n) := by
  have h : ∀ x ∈ whiteL, ((Lc x).all (fun c => Unicode.isSpace c && decide (c ≠ 34 ∧ c ≠ 44)) && (prepL (Lc x) == Lc x)) = true := by decide +kernel
  have h3 := mod_range n 3 (by decide)
  have := h _ (getD_mem whiteL (n % 3).toNat (S []) (by show (n % 3).toNat < 3; omega))
  change ((Lc (whiteS n)).all (fun c => Unicode.isSpace c && decide (c ≠ 34 ∧ c ≠ 44)) && (prepL (Lc (whiteS n)) == Lc (whiteS n))) = true at this
  simp only [Bool.and_eq_true, List.all_eq_true, beq_iff_eq, decide_eq_true_eq] at this
  exact ⟨this.1, this.2⟩

theorem sp61 : Unicode.isSpace 61 = false := by decide +kernel
theorem sp32 : Unicode.isSpace 32 = true := by decide +kernel
theorem parse_eq {k v : List Nat} (hk : 61 ∉ k) (hv : v ≠ []) : parse1 (k ++ 61 :: v) = .ok (k, unq v) := by
  unfold parse1
  rw [splitEq_app hk]
  cases v with
  | nil => exact absurd rfl hv
  | cons c r => rfl

/-- one pair: its text, the raw items, what is read of them -/
structure PairOk (n : Int) (raw rawm : List Nat) : Prop where
  seg : Seg (Lc (wholeS n)) (Lc (whiteS n) ++ (Lc (spelled n) ++ 61 :: raw) ++ Lc (whiteS n))
  segm : Seg (prepL (Lc (wholeS n))) (Lc (whiteS n) ++ (Lc (lateS n) ++ 61 :: rawm) ++ Lc (whiteS n))
  strip : stripL (Lc (whiteS n) ++ (Lc (spelled n) ++ 61 :: raw) ++ Lc (whiteS n)) = Lc (spelled n) ++ 61 :: raw
  stripm : stripL (Lc (whiteS n) ++ (Lc (lateS n) ++ 61 :: rawm) ++ Lc (whiteS n)) = Lc (nameS n) ++ 61 :: rawm
  r1 : parse1 (Lc (spelled n) ++ 61 :: raw) = .ok (Lc (toldP n).1, Lc (toldP n).2)
  r2 : parse1 (Lc (nameS n) ++ 61 :: rawm) = .ok (Lc (meantP n).1, Lc (meantP n).2)
  r3 : parse1 (prepL (Lc (spelled n) ++ 61 :: raw)) = .ok (Lc (lateP n).1, Lc (lateP n).2)
  cp : (∀ c ∈ Lc (toldP n).2, c < 1114112) ∧ ∀ c ∈ Lc (meantP n).2, c < 1114112
theorem pair_ok (n : Int) : ∃ raw rawm, PairOk n raw rawm := by
  obtain ⟨raw, rawm, v⟩ := val_ok (n / 20)
  have nm := name_ok n
  have wh := white_ok n
  have hw : Seg (Lc (whiteS n)) (Lc (whiteS n)) := Seg.all fun c hc => (wh.1 c hc).2
  have hs61 : Seg [61] [61] := Seg.one (by decide) (by decide)
  have hlate : ∀ c ∈ Lc (lateS n), c ≠ 34 ∧ c ≠ 44 ∧ c ≠ 61 := by
    intro c hc
    rcases nm.late with e | e
    · rw [e] at hc; have := nm.nm c hc; exact ⟨this.1, this.2.1, this.2.2.1⟩
    · rw [e] at hc
      rcases List.mem_cons.mp hc with rfl | hc
      · decide
      · have := nm.nm c hc; exact ⟨this.1, this.2.1, this.2.2.1⟩
  have ew : Lc (wholeS n) = Lc (whiteS n) ++ (Lc (spelled n) ++ ([61] ++ Lc (val (n / 20)).1)) ++ Lc (whiteS n) := by
    unfold wholeS
    rw [Lc_app, Lc_app, Lc_app, Lc_app, Lc_S [61]]
    simp
  refine ⟨raw, rawm, ?_, ?_, ?_, ?_, ?_, ?_, ?_, v.cp1, v.cp2⟩
  · rw [ew]
    exact (hw.app ((Seg.all fun c hc => ⟨(nm.sp c hc).1, (nm.sp c hc).2.1⟩).app (hs61.app v.seg))).app hw
  · rw [ew, prepL_app, prepL_app, prepL_app, prepL_app, wh.2, nm.fold, prepL_one, p61]
    exact (hw.app ((Seg.all fun c hc => ⟨(hlate c hc).1, (hlate c hc).2.1⟩).app (hs61.app v.segm))).app hw
  · refine strip_mid (fun c hc => (wh.1 c hc).1) (fun c hc => (wh.1 c hc).1) (fun c r e => ?_) ?_
    · cases hsp : Lc (spelled n) with
      | nil => rw [hsp] at e; cases e; exact sp61
      | cons c' r' => rw [hsp] at e; cases e; exact (nm.sp _ (by rw [hsp]; exact .head _)).2.2.2.2
    · have : Lc (spelled n) ++ 61 :: raw = (Lc (spelled n) ++ [61]) ++ raw := by simp
      rw [this]; exact v.end1.app _
  · have e3 : ∃ a, (∀ c ∈ a, Unicode.isSpace c = true) ∧ Lc (whiteS n) ++ (Lc (lateS n) ++ 61 :: rawm) ++ Lc (whiteS n) = a ++ (Lc (nameS n) ++ 61 :: rawm) ++ Lc (whiteS n) := by
      rcases nm.late with e | e
      · exact ⟨Lc (whiteS n), fun c hc => (wh.1 c hc).1, by rw [e]⟩
      · refine ⟨Lc (whiteS n) ++ [32], fun c hc => ?_, by rw [e]; simp⟩
        rcases List.mem_append.mp hc with h | h
        · exact (wh.1 c h).1
        · rw [List.mem_singleton] at h; subst h; exact sp32
    obtain ⟨a, ha, e⟩ := e3
    rw [e]
    refine strip_mid ha (fun c hc => (wh.1 c hc).1) (fun c r e => ?_) ?_
    · cases hsp : Lc (nameS n) with
      | nil => rw [hsp] at e; cases e; exact sp61
      | cons c' r' => rw [hsp] at e; cases e; exact (nm.nm _ (by rw [hsp]; exact .head _)).2.2.2.2
    · have : Lc (nameS n) ++ 61 :: rawm = (Lc (nameS n) ++ [61]) ++ rawm := by simp
      rw [this]; exact v.end2.app _
  · rw [parse_eq (fun h => (nm.sp 61 h).2.2.1 rfl) v.end1.ne, v.told]; rfl
  · rw [parse_eq (fun h => (nm.nm 61 h).2.2.1 rfl) v.end2.ne, v.meant]; rfl
  · have e : prepL (Lc (spelled n) ++ 61 :: raw) = Lc (lateS n) ++ 61 :: rawm := by
      have : Lc (spelled n) ++ 61 :: raw = Lc (spelled n) ++ ([61] ++ raw) := by simp
      rw [this, prepL_app, prepL_app, nm.fold, prepL_one, p61, v.late]; simp
    rw [e, parse_eq (fun h => (hlate 61 h).2.2 rfl) v.end2.ne, v.meant]; rfl
end Ny

namespace Ny
open PySem

theorem Lc_join : ∀ (ts : List Str), Lc (Str.join (S [44]) ts) = joinL (ts.map Lc)
  | [] => rfl
  | [x] => rfl
  | x :: y :: r => by
    show Lc (x ++ S [44] ++ Str.join (S [44]) (y :: r)) = Lc x ++ 44 :: joinL ((y :: r).map Lc)
    rw [Lc_app, Lc_app, Lc_S [44], Lc_join (y :: r)]
    simp
theorem prepL_join : ∀ (ws : List (List Nat)), prepL (joinL ws) = joinL (ws.map prepL)
  | [] => rfl
  | [x] => rfl
  | x :: y :: r => by
    show prepL (x ++ 44 :: joinL (y :: r)) = prepL x ++ 44 :: joinL ((y :: r).map prepL)
    have : x ++ 44 :: joinL (y :: r) = x ++ ([44] ++ joinL (y :: r)) := by simp
    rw [this, prepL_app, prepL_app, prepL_one, p44, prepL_join (y :: r)]
    simp
theorem headL_eq (ns : List Int) : headL ns = joinL ((numsL ns).map fun n => Lc (wholeS n)) ++ Lc (tailRow (lastN ns)).1 := by
  show Lc (headS ns) = _
  unfold headS
  rw [Lc_app]
  congr 1
  show Lc (Builtin.Str.glued (S [44]) ((numsL ns).map wholeS)) = _
  rw [StrLaws.glued_eq_join, Lc_join, List.map_map]; rfl

/-! ## Tails -/
def matchO : Except String (List (List Nat × List Nat)) → Outc → Bool
  | .error c, .err x => Str.ofString c == x
  | .ok l, .ok m => l.map SS == m
  | _, _ => false
def emptyO : Outc → Bool
  | .ok [] => true
  | _ => false
def tailChk (r : TailRow) : Bool := match Lc r.1 with
  | [] => emptyO r.2.1 && emptyO r.2.2.1 && emptyO r.2.2.2
  | c :: t => c == 44 && matchO (parseAll ((httpEnd (httpRun t)).map stripL)) r.2.1 && matchO (parseAll ((httpEnd (httpRun (prepL t))).map stripL)) r.2.2.1 && matchO (parseAll (((httpEnd (httpRun t)).map stripL).map prepL)) r.2.2.2
theorem tail_chk : ∀ r ∈ tailTab, tailChk r = true := by decide +kernel
theorem tail_chk' (n : Int) : tailChk (tailRow n) = true := by
  have h := mod_range n 17 (by decide)
  exact tail_chk _ (getD_mem tailTab (n % 17).toNat _ (by show (n % 17).toNat < 17; omega))

theorem emptyO_eq {o : Outc} (h : emptyO o = true) : o = .ok [] := by
  cases o with
  | err x => cases h
  | ok l => cases l with
    | nil => rfl
    | cons => cases h

theorem comb {α : Type} (N : List α) (f : α → List Nat) (g : α → Str × Str) (h : ∀ a ∈ N, parse1 (f a) = .ok (Lc (g a).1, Lc (g a).2)) (B : List (List Nat)) (o : Outc) (hB : matchO (parseAll B) o = true) :
    readD (N.map f ++ B) = outcD (N.map g) o := by
  rw [read_parse, parseAll_app, parseAll_map f (fun a => (Lc (g a).1, Lc (g a).2)) N h]
  cases hb : parseAll B with
  | error c =>
    rw [hb] at hB
    cases o with
    | ok l => cases hB
    | err x =>
      have : Str.ofString c = x := by simpa [matchO] using hB
      show PyData.str (Str.ofString c) = .str x
      rw [this]
  | ok l =>
    rw [hb] at hB
    cases o with
    | err x => cases hB
    | ok m =>
      have : l.map SS = m := by simpa [matchO] using hB
      show PyData.list ((outL ((N.map (fun a => (Lc (g a).1, Lc (g a).2)) ++ l).map SS)).map PD) = .list ((outL (N.map g ++ m)).map PD)
      have e : (N.map (fun a => (Lc (g a).1, Lc (g a).2)) ++ l).map SS = N.map g ++ m := by
        rw [List.map_append, this, List.map_map]
        rfl
      rw [e]

theorem paired_map {α : Type} (N : List α) (f g : α → List Nat) (h : ∀ a ∈ N, Seg (f a) (g a)) : Paired Seg (N.map f) (N.map g) := by
  induction N with
  | nil => exact .nil
  | cons a N ih => exact .cons (h a (.head _)) (ih fun b hb => h b (.tail _ hb))
theorem getLastD_map_ne {α : Type} (N : List α) (f : α → List Nat) (h0 : N ≠ []) (h : ∀ a ∈ N, f a ≠ []) : (N.map f).getLastD [] ≠ [] := by
  have hne : N.map f ≠ [] := by simpa using h0
  rw [List.getLastD_eq_getLast?, List.getLast?_eq_some_getLast hne]
  have := List.getLast_mem hne
  obtain ⟨a, ha, e⟩ := List.mem_map.mp this
  show (N.map f).getLast hne ≠ []
  rw [← e]; exact h a ha

theorem plain_law (ns : List Int) : readsD ns = outsD ns := by
  have hc := tail_chk' (lastN ns)
  -- what each number's pair is
  obtain ⟨R, hR⟩ : ∃ R : Int → List Nat × List Nat, ∀ n, PairOk n (R n).1 (R n).2 :=
    ⟨fun n => ((pair_ok n).choose, (pair_ok n).choose_spec.choose), fun n => (pair_ok n).choose_spec.choose_spec⟩
  have hN : numsL ns ≠ [] := by unfold numsL; simp
  have hN' : ((numsL ns).map fun n => Lc (wholeS n)) ≠ [] := by simpa using hN
  have P1 := paired_map (numsL ns) (fun n => Lc (wholeS n)) (fun n => Lc (whiteS n) ++ (Lc (spelled n) ++ 61 :: (R n).1) ++ Lc (whiteS n)) fun n _ => (hR n).seg
  have P2 := paired_map (numsL ns) (fun n => prepL (Lc (wholeS n))) (fun n => Lc (whiteS n) ++ (Lc (lateS n) ++ 61 :: (R n).2) ++ Lc (whiteS n)) fun n _ => (hR n).segm
  have L1 := getLastD_map_ne (numsL ns) (fun n => Lc (whiteS n) ++ (Lc (spelled n) ++ 61 :: (R n).1) ++ Lc (whiteS n)) hN fun n _ => by simp
  have L2 := getLastD_map_ne (numsL ns) (fun n => Lc (whiteS n) ++ (Lc (lateS n) ++ 61 :: (R n).2) ++ Lc (whiteS n)) hN fun n _ => by simp
  have M1 : ((numsL ns).map fun n => Lc (whiteS n) ++ (Lc (spelled n) ++ 61 :: (R n).1) ++ Lc (whiteS n)).map stripL = (numsL ns).map fun n => Lc (spelled n) ++ 61 :: (R n).1 := by
    rw [List.map_map]; exact List.map_congr_left fun n _ => (hR n).strip
  have M2 : ((numsL ns).map fun n => Lc (whiteS n) ++ (Lc (lateS n) ++ 61 :: (R n).2) ++ Lc (whiteS n)).map stripL = (numsL ns).map fun n => Lc (nameS n) ++ 61 :: (R n).2 := by
    rw [List.map_map]; exact List.map_congr_left fun n _ => (hR n).stripm
  have J2 : prepL (joinL ((numsL ns).map fun n => Lc (wholeS n))) = joinL ((numsL ns).map fun n => prepL (Lc (wholeS n))) := by
    rw [prepL_join, List.map_map]; rfl
  have hN2 : ((numsL ns).map fun n => prepL (Lc (wholeS n))) ≠ [] := by simpa using hN
  unfold readsD outsD
  rw [headL_eq]
  unfold tailChk at hc
  generalize tailRow (lastN ns) = r at *
  cases ht : Lc r.1 with
  | nil =>
    rw [ht] at hc
    simp only [Bool.and_eq_true] at hc
    obtain ⟨⟨e1, e2⟩, e3⟩ := hc
    rw [emptyO_eq e1, emptyO_eq e2, emptyO_eq e3, List.append_nil]
    unfold httpL
    rw [J2, http_head hN' P1 L1, http_head hN2 P2 L2, M1, M2]
    have c1 := comb (numsL ns) (fun n => Lc (spelled n) ++ 61 :: (R n).1) toldP (fun n _ => (hR n).r1) [] (.ok []) rfl
    have c2 := comb (numsL ns) (fun n => Lc (nameS n) ++ 61 :: (R n).2) meantP (fun n _ => (hR n).r2) [] (.ok []) rfl
    have c3 := comb (numsL ns) (fun n => prepL (Lc (spelled n) ++ 61 :: (R n).1)) lateP (fun n _ => (hR n).r3) [] (.ok []) rfl
    rw [List.append_nil] at c1 c2 c3
    rw [c1, c2, List.map_map]
    have c3' : readD ((numsL ns).map (prepL ∘ fun n => Lc (spelled n) ++ 61 :: (R n).1)) = _ := c3
    rw [c3']
  | cons c t =>
    rw [ht] at hc
    simp only [Bool.and_eq_true, beq_iff_eq] at hc
    obtain ⟨⟨⟨e0, e1⟩, e2⟩, e3⟩ := hc
    subst e0
    have J3 : prepL (joinL ((numsL ns).map fun n => Lc (wholeS n)) ++ 44 :: t) = joinL ((numsL ns).map fun n => prepL (Lc (wholeS n))) ++ 44 :: prepL t := by
      have : (44 :: t : List Nat) = [44] ++ t := rfl
      rw [this, prepL_app, prepL_app, J2, prepL_one, p44]; rfl
    unfold httpL
    rw [J3, http_tail hN' P1, http_tail hN2 P2, List.map_append, List.map_append, M1, M2, List.map_append, List.map_map (f := fun n => Lc (spelled n) ++ 61 :: (R n).1)]
    have c1 := comb (numsL ns) (fun n => Lc (spelled n) ++ 61 :: (R n).1) toldP (fun n _ => (hR n).r1) _ _ e1
    have c2 := comb (numsL ns) (fun n => Lc (nameS n) ++ 61 :: (R n).2) meantP (fun n _ => (hR n).r2) _ _ e2
    have c3 := comb (numsL ns) (fun n => prepL (Lc (spelled n) ++ 61 :: (R n).1)) lateP (fun n _ => (hR n).r3) _ _ e3
    rw [c1, c2]
    have c3' : readD ((numsL ns).map (prepL ∘ fun n => Lc (spelled n) ++ 61 :: (R n).1) ++ _) = _ := c3
    rw [c3']
end Ny

namespace Ny
open PySem

theorem lay_of {x : Str} (h : ∀ c ∈ Lc x, c < 1114112) : layS x = true := by
  show PyData.canLay0 (.str x) = true
  unfold PyData.canLay0 PyData.strOk
  rw [← Array.all_toList, List.all_eq_true]
  intro c hc
  exact decide_eq_true (h c hc)
theorem lay_out {told : List (Str × Str)} (h : ∀ p ∈ told, layS p.1 = true ∧ layS p.2 = true) : ∀ p ∈ outL told, layS p.1 = true ∧ layS p.2 = true := by
  intro p hp
  obtain ⟨i, hi, rfl⟩ := List.mem_map.mp hp
  have hlt : i < told.length := by
    unfold outPlaces at hi
    exact List.mem_range.mp (List.mem_filter.mp hi).1
  refine ⟨?_, ?_⟩
  · obtain ⟨q, hq, e⟩ := List.mem_map.mp (keyAt_mem told i hlt)
    show layS (keyAt told i) = true
    rw [← e]; exact (h q hq).1
  · show layS (lastS told (keyAt told i)) = true
    unfold lastS
    rw [List.getLastD_eq_getLast?]
    cases e : ((told.filter fun p => p.1 == keyAt told i).map (·.2)).getLast? with
    | none => show layS (S []) = true; decide +kernel
    | some v =>
      have hv := List.mem_of_getLast? e
      obtain ⟨q, hq, rfl⟩ := List.mem_map.mp hv
      exact (h q (List.mem_filter.mp hq).1).2
theorem lay_PDs {l : List (Str × Str)} (h : ∀ p ∈ l, layS p.1 = true ∧ layS p.2 = true) : PyData.canLayAll0 (l.map PD) = true := by
  induction l with
  | nil => rfl
  | cons p l ih =>
    have h1 : PyData.canLay0 (.str p.1) = true := (h p (.head _)).1
    have h2 : PyData.canLay0 (.str p.2) = true := (h p (.head _)).2
    simp [PyData.canLayAll0, PyData.canLay0, ih fun q hq => h q (.tail _ hq)] at h1 h2 ⊢
    exact ⟨h1, h2⟩
theorem depth_PDs (l : List (Str × Str)) : PyData.depthAll (l.map PD) ≤ 1 := by
  induction l with
  | nil => decide
  | cons p l ih =>
    show max (PyData.depth (PD p)) (PyData.depthAll (l.map PD)) ≤ 1
    have : PyData.depth (PD p) = 1 := rfl
    omega
def outcLay : Outc → Bool
  | .err x => layS x
  | .ok l => l.all fun p => layS p.1 && layS p.2
theorem tail_lay (n : Int) (j : Nat) : outcLay (sideO j (tailRow n)) = true := by
  have h : ∀ r ∈ tailTab, (outcLay r.2.1 && outcLay r.2.2.1 && outcLay r.2.2.2) = true := by decide +kernel
  have h17 := mod_range n 17 (by decide)
  have : (outcLay (tailRow n).2.1 && outcLay (tailRow n).2.2.1 && outcLay (tailRow n).2.2.2) = true := h _ (getD_mem tailTab (n % 17).toNat _ (by show (n % 17).toNat < 17; omega))
  simp only [Bool.and_eq_true] at this
  unfold sideO
  split
  · exact this.1.1
  · split
    · exact this.1.2
    · exact this.2
theorem side_lay (j : Nat) (n : Int) : layS (sideP j n).1 = true ∧ layS (sideP j n).2 = true := by
  refine ⟨lay_side j n, ?_⟩
  obtain ⟨raw, rawm, ok⟩ := pair_ok n
  unfold sideP
  split
  · exact lay_of ok.cp.1
  · split
    · exact lay_of ok.cp.2
    · exact lay_of ok.cp.2
theorem outc_lay (ps : List (Str × Str)) (o : Outc) (h : ∀ p ∈ ps, layS p.1 = true ∧ layS p.2 = true) (ho : outcLay o = true) : PyData.canLay0 (outcD ps o) = true ∧ PyData.depth (outcD ps o) ≤ 2 := by
  cases o with
  | err x => exact ⟨ho, Nat.zero_le _⟩
  | ok l =>
    simp only [outcLay, List.all_eq_true, Bool.and_eq_true] at ho
    refine ⟨?_, ?_⟩
    · show PyData.canLayAll0 ((outL (ps ++ l)).map PD) = true
      refine lay_PDs (lay_out fun p hp => ?_)
      rcases List.mem_append.mp hp with hp | hp
      · exact h p hp
      · exact ho p hp
    · show PyData.depthAll ((outL (ps ++ l)).map PD) + 1 ≤ 2
      have := depth_PDs (outL (ps ++ l))
      omega
theorem outs_shaped (ns : List Int) : SeqAt.shaped (.list (outsD ns)) = true := by
  have key : ∀ j, PyData.canLay0 (outcD ((numsL ns).map (sideP j)) (sideO j (tailRow (lastN ns)))) = true ∧ PyData.depth (outcD ((numsL ns).map (sideP j)) (sideO j (tailRow (lastN ns)))) ≤ 2 := fun j =>
    outc_lay _ _ (fun p hp => by obtain ⟨n, _, rfl⟩ := List.mem_map.mp hp; exact side_lay j n) (tail_lay (lastN ns) j)
  rw [outsD_eq]
  have k1 := key 1
  have k2 := key 2
  have k3 := key 3
  unfold SeqAt.shaped
  rw [Bool.and_eq_true]
  refine ⟨?_, decide_eq_true ?_⟩
  · show (PyData.canLay0 _ && (PyData.canLay0 _ && (PyData.canLay0 _ && true))) = true
    rw [k1.1, k2.1, k3.1]; rfl
  · show max (PyData.depth (outcD ((numsL ns).map (sideP 1)) (sideO 1 (tailRow (lastN ns))))) (max (PyData.depth (outcD ((numsL ns).map (sideP 2)) (sideO 2 (tailRow (lastN ns))))) (max (PyData.depth (outcD ((numsL ns).map (sideP 3)) (sideO 3 (tailRow (lastN ns))))) 0)) + 1 ≤ 64
    have := k1.2
    have := k2.2
    have := k3.2
    omega
theorem law_true (ns : List Int) : PyData.eqv (.list (readsD ns)) (.list (outsD ns)) = true := by
  rw [plain_law]
  exact SeqAt.eqv_refl _ (SeqAt.canLay_of_shaped (outs_shaped ns))
theorem reads_shaped (ns : List Int) : SeqAt.shaped (.list (readsD ns)) = true := by
  rw [plain_law]; exact outs_shaped ns
end Ny

namespace Ny
open PySem PySem.W PySem.Calls PyProof.Rows

theorem callerA_ok : AOk callerA 6 := ⟨rfl, by decide +kernel, by decide +kernel⟩
theorem rw_prog : PySem.Challenge.rw_ny0228_01.prog = PySem.Challenge.pw_ny0228_01 := rfl

/-- the top under way: the boot's objects are kept but the main names; the code's places lie above -/
structure TopAt (b : Heap) (c Pl : Addr) (h : Heap) (mg : Str → Option Value) (l : List (Pos × Addr)) : Prop where
  main : h.Main mg c Pl (triples l).toArray
  keep : ∀ a o, a ≠ mainGlobals → b.get? a = some o → h.get? a = some o
  low : b.objs.size ≤ c ∧ b.objs.size ≤ Pl

theorem TopAt.grow {b : Heap} {c Pl : Addr} {h h' : Heap} {mg l} (x : TopAt b c Pl h mg l) (g : Grow h h') : TopAt b c Pl h' mg l where
  main := ⟨x.main.g.keeps g, x.main.code.keeps g, x.main.low, let ⟨bm, o, e1, e2, e3, e4, e5, r⟩ := x.main.bmod; ⟨bm, o, e1, e2, e3, e4, g _ _ e5, r⟩⟩
  keep := fun a o n e => g a o (x.keep a o n e)
  low := x.low

section
variable {M : Model} {A : Around} {E : Value → Shared → Prop} {s : Shared} {prog : Program} {b : Heap} {c Pl F : Addr} {mg : Str → Option Value} {l : List (Pos × Addr)}

theorem TopAt.sameBut {h h' : Heap} (T : TopAt b c Pl h mg l) {mg' : Str → Option Value} (hn : h'.Ns mainGlobals mg') (hb : mg' "__builtins__" = mg "__builtins__") (hs : Heap.SameBut mainGlobals h h') : TopAt b c Pl h' mg' l where
  main := by
    refine ⟨hn, ?_, T.main.low, ?_⟩
    · obtain ⟨o, vs, file, tf, flags, tg, inF, text, tt, op, ho, r1, r2, r3, r4, r5, r6, hop, r⟩ := T.main.code
      exact ⟨o, vs, file, tf, flags, tg, inF, text, tt, op, hs.extBut _ _ (Nat.ne_of_gt T.main.low.1) ho, r1, r2, r3, r4, r5, r6, hs.extBut _ _ (Nat.ne_of_gt T.main.low.2) hop, r⟩
    · obtain ⟨bm, o, e1, e2, e3, e4, e5, r⟩ := T.main.bmod
      exact ⟨bm, o, hb.trans e1, e2, e3, e4, hs.extBut _ _ e3 e5, r⟩
  keep := fun a o n e => hs.extBut a o n (T.keep a o n e)
  low := T.low

theorem top_store {x : Str} {v : Value} {Q : Unit → Shared → Prop} (hx : (mainEnv prog c F).kindOf x = some .local) (hmod : prog.main.scope.kind = .module) (hxb : x ≠ "__builtins__") (T : TopAt b c Pl s.heap mg l)
    (h : ∀ h' tk, TopAt b c Pl h' (fun y => if y = x then some v else mg y) l → Heap.SameBut mainGlobals s.heap h' → Q () { s with heap := h', toks := tk }) : wpAny M A (storeName (mainEnv prog c F) x v) Q E s := by
  refine wpAny_storeName_local hx T.main.g (fun h' hn hs => h h' _ (T.sameBut hn (if_neg (Ne.symm hxb)) hs) hs) ?_
  show (prog.main.scope.kind == .class || (prog.main.scope.kind == .module && mainGlobals != mainGlobals)) = false
  rw [hmod]; rfl

theorem top_def {d : DefRec} {rest : List Stmt} {Q : Flow → Shared → Prop} (hd : d.Plain prog) (hmod : prog.main.scope.kind = .module) (hnf : ∀ q ∈ l, ¬ (q.1.line = d.pos.line ∧ q.1.col = d.pos.col)) (T : TopAt b c Pl s.heap mg l)
    (h : ∀ a c' doc h' tk, TopAt b c Pl h' (fun x => if x = d.name then some (.ref a) else mg x) (l ++ [(d.pos, c')]) → s.heap.objs.size ≤ a →
      h'.get? a = some { cls := .type "function", data := .func (d.data ((mg "__name__").getD .none) (.ref c') doc) } → (s.heap.objs.size ≤ c' ∧ h'.CodeRec (.ref c') d.name) →
      (∀ b o, b ≠ Pl → b ≠ mainGlobals → s.heap.get? b = some o → h'.get? b = some o) → wpAny M A (execs rest (mainEnv prog c F)) Q E { s with heap := h', toks := tk }) :
    wpAny M A (execs (d.stmt :: rest) (mainEnv prog c F)) Q E s := by
  refine wpAny_execs_cons (wpAny_def hd hmod T.main (by rw [List.toList_toArray]; exact codeAmong_triples _ _ hnf) fun a c' doc h' tk ha hm hf hc kp => ?_)
  refine h a c' doc h' tk ⟨?_, fun x o n e => ?_, T.low⟩ ha hf hc kp
  · rw [triples_append]; simpa using hm
  · exact kp x o (Nat.ne_of_lt (Nat.lt_of_lt_of_le (Heap.lt_size e) T.low.2)) n (T.keep x o n e)
end
end Ny

namespace Ny
open PySem PySem.W PySem.Calls PyProof.Rows

section
variable {prog : Program} {w : World} {K : Type} [DecidableEq K] {knd : KeyKind prog w K} {A : Around} {E : Value → Shared → Prop} {s : Shared}

theorem dictPut_new {d : Addr} {kvs : List (K × Value)} {k : K} {key v : Value} {Q : Unit → Shared → Prop} (hkey : knd.is k key = true) (hm : s.heap.DictOf knd d kvs) (hnot : k ∉ kvs.map (·.1))
    (hQ : ∀ h', h'.DictOf knd d (kvs ++ [(k, v)]) → Heap.SameBut d s.heap h' → Q () { s with heap := h' }) (hsz : kvs.length ≤ sizeLine) :
    wpAny (model prog w) A (dictPut d (knd.hash k) key v) Q E s := by
  obtain ⟨o, es, ep, ho, hc, hd, hk, hp, hn⟩ := hm
  have hes : es.size ≤ sizeLine := by
    have e1 := hp.length
    have e2 : es.toList.length = es.size := by simp
    omega
  unfold dictPut
  refine wpAny_bind (wpAny_dictFind_of hkey ho hd hk ?_)
  have hidx : (es.findIdx? fun e => knd.is k e.key) = kvs.findIdx? fun kv => decide (kv.1 = k) := by
    rw [← hp.findIdx k]; obtain ⟨l⟩ := es; simp
  have hnone : (es.findIdx? fun e => knd.is k e.key) = none := by
    rw [hidx, List.findIdx?_eq_none_iff]
    intro kv hkv
    exact decide_eq_false fun e => hnot (List.mem_map.mpr ⟨kv, hkv, e⟩)
  rw [hnone]
  refine wpAny_updateDictKeys (hz := hes) ho hd (hQ _ ⟨_, _, ep + 1, Heap.get?_update_self _ ho (Obj.isFreed_of_dict (Obj.data_mapDictKeys hd _)), hc.mapDictKeys _, Obj.data_mapDictKeys hd _, hk.push hkey _, ?_, ?_⟩ (Heap.SameBut.update ..))
  · have := hp.append hkey (knd.hash k) v
    obtain ⟨l⟩ := es
    simpa using this
  · rw [List.map_append, List.nodup_append]
    refine ⟨hn, by simp, ?_⟩
    intro a ha b hb
    simp only [List.map_cons, List.map_nil, List.mem_singleton] at hb
    subst hb
    exact fun e => hnot (e ▸ ha)

theorem sub_dict_iter : typeLookup (.type "dict") "__iter__" = pure (some (.builtin "dict.__iter__")) := by rw [typeLookup_type, builtinLookup_eq_fast]; kernel_rfl

theorem merge_new {d o : Addr} {kvs more : List (K × Value)} {Q : Unit → Shared → Prop} (hdo : d ≠ o) (hoS : (o == sysModules) = false) (hne : kvs ≠ [])
    (hd : s.heap.DictOf knd d kvs) (ho : s.heap.DictOf knd o more) (hnd : ((kvs ++ more).map (·.1)).Nodup)
    (hQ : ∀ h', h'.DictOf knd d (kvs ++ more) → Heap.SameBut d s.heap h' → Q () { s with heap := h' })
    (hsz : kvs.length + more.length ≤ sizeLine) : wpAny (model prog w) A (mergeMapping d (.ref o) false) Q E s := by
  obtain ⟨od, esd, epd, hod, hcd, hdd, hkd, hpd, hnd'⟩ := id hd
  obtain ⟨oo, eso, epo, hoo, hco, hdo', hko, hpo, hno⟩ := id ho
  unfold mergeMapping
  refine wpAny_bind (wpAny_isInstance (T := "dict") (b := true) ho.typeIs (by rw [isSubtype_type]; kernel_rfl) ?_)
  simp only [if_true]
  refine wpAny_bind (wpAny_specialOf ho.typeIs sub_dict_iter ?_)
  refine wpAny_bind (wpAny_pure ?_)
  simp only [beq_self_eq_true]
  simp only [hoS, Bool.false_eq_true, if_false]
  refine wpAny_bind (wpAny_dictEntries hod hdd ?_)
  have hemp : esd.isEmpty = false := by
    have e1 := hpd.length
    have e2 : esd.toList.length = esd.size := by simp
    cases h : esd.isEmpty with
    | false => rfl
    | true =>
      rw [Array.isEmpty_iff] at h
      subst h
      exact absurd (List.length_eq_zero_iff.mp (by simpa using e1.symm)) hne
  simp only [hemp, Bool.false_eq_true, if_false]
  refine wpAny_bind (wpAny_dictEntries hoo hdo' ?_)
  refine wpAny_bind (wpAny_dictEpoch hoo hdo' ?_)
  have hlen : more.length = eso.size := by rw [← hpo.length]; simp
  refine wpAny_bind ?_
  rw [List.range_eq_range']
  refine wpAny_forIn_list _
    (fun rest _ s' => ∃ h' i, s' = { s with heap := h' } ∧ rest = List.range' i (eso.size - i) ∧ i ≤ eso.size ∧ h'.DictOf knd d (kvs ++ more.take i) ∧ h'.get? o = some oo ∧ Heap.SameBut d s.heap h')
    _ ?_ ?_ _ _ ⟨s.heap, 0, rfl, by simp, Nat.zero_le _, by simpa using hd, hoo, Heap.SameBut.refl _ _⟩
  · rintro x rest b s' ⟨h', i, rfl, hr, hi, hd', hoo', hs'⟩
    have hlt : i < eso.size := by
      rcases Nat.lt_or_ge i eso.size with h | h
      · exact h
      · rw [Nat.sub_eq_zero_of_le h] at hr; simp at hr
    obtain ⟨rfl, hrest⟩ : x = i ∧ rest = List.range' (i + 1) (eso.size - (i + 1)) := by
      have e : eso.size - i = (eso.size - (i + 1)) + 1 := by omega
      rw [e, List.range'_succ] at hr
      injection hr with h1 h2
      exact ⟨h1, h2⟩
    refine wpAny_bind (wpAny_dictEntries hoo' hdo' ?_)
    rw [Array.getElem?_eq_getElem hlt]
    obtain ⟨k, v, hkv⟩ : ∃ k v, more[x]? = some (k, v) := ⟨(more[x]'(by rw [hlen]; exact hlt)).1, (more[x]'(by rw [hlen]; exact hlt)).2, List.getElem?_eq_getElem _⟩
    obtain ⟨hkey, hval⟩ := hpo.get? (e := eso[x]) (by simp [hlt]) hkv
    obtain ⟨k', hkey', hhash⟩ := hko eso[x] (Array.getElem_mem hlt)
    obtain rfl : k' = k := knd.inj _ _ _ hkey' hkey
    dsimp only
    rw [hhash, hval]
    have hmx : (kvs ++ more.take x).length ≤ sizeLine := by
      rw [List.length_append, List.length_take]; omega
    have hnot : k' ∉ (kvs ++ more.take x).map (·.1) := by
      intro hmem
      have hsplit : kvs ++ more = (kvs ++ more.take x) ++ ((k', v) :: more.drop (x + 1)) := by
        have hx' : x < more.length := by omega
        have : more.drop x = (k', v) :: more.drop (x + 1) := by
          rw [List.drop_eq_getElem_cons hx']
          rw [List.getElem?_eq_getElem hx'] at hkv
          rw [Option.some.inj hkv]
        rw [List.append_assoc, ← this, List.take_append_drop]
      rw [hsplit, List.map_append, List.nodup_append] at hnd
      exact hnd.2.2 k' hmem k' (by simp) rfl
    refine wpAny_bind (wpAny_holding (dictPut_new hkey hd' hnot (fun h'' hd'' hs'' => ?_) hmx))
    have hoo'' : h''.get? o = some oo := (hs''.2 o (Ne.symm hdo)).trans hoo'
    refine wpAny_bind (wpAny_dictEpoch hoo'' hdo' ?_)
    rw [if_neg (by simp)]
    refine wpAny_pure ⟨h'', x + 1, rfl, hrest, hlt, ?_, hoo'', hs'.trans hs''⟩
    rw [List.take_add_one, hkv]
    simpa using hd''
  · rintro b s' ⟨h', i, rfl, hr, hi, hd', hoo', hs'⟩
    have hin : i = eso.size := by
      rcases Nat.lt_or_ge i eso.size with h | h
      · have e : eso.size - i = (eso.size - (i + 1)) + 1 := by omega
        rw [e, List.range'_succ] at hr; exact nomatch hr
      · exact Nat.le_antisymm hi h
    refine wpAny_pure (hQ h' ?_ hs')
    rw [hin, ← hlen, List.take_length] at hd'; exact hd'
end

/-! ## Runs of constant pairs -/
def KIs (p : Int × Str) (q : Int × Value) : Prop := q.1 = p.1 ∧ ∃ t, q.2 = .str p.2 t
structure ConstPair (prog : Program) (w : World) (p : Sem Value × Sem Value) (q : Int × Str) : Prop where
  key : ∀ (A : Around) (E : Value → Shared → Prop) (s : Shared) (Q : Value → Shared → Prop), (∀ t tk, Q (.int q.1 t) { s with toks := tk }) → wpAny (model prog w) A p.1 Q E s
  val : ∀ (A : Around) (E : Value → Shared → Prop) (s : Shared) (Q : Value → Shared → Prop), (∀ t tk, Q (.str q.2 t) { s with toks := tk }) → wpAny (model prog w) A p.2 Q E s
theorem kis_keys {kx : List (Int × Str)} {kvs : List (Int × Value)} (h : Paired KIs kx kvs) : kvs.map (·.1) = kx.map (·.1) := by
  induction h with
  | nil => rfl
  | cons hq _ ih => simp [ih, hq.1]

section
variable {prog : Program} {w : World} {A : Around} {E : Value → Shared → Prop} {s : Shared}

theorem stored_new {kvs : List (Int × Value)} {k : Int} {v : Value} (h : k ∉ kvs.map (·.1)) : stored kvs k v = kvs ++ [(k, v)] := by
  unfold stored
  rw [if_neg]
  rw [List.any_eq_true]
  rintro ⟨kv, hkv, e⟩
  exact h (List.mem_map.mpr ⟨kv, hkv, of_decide_eq_true e⟩)

/-- the long road: each pair is evaluated and stored at once -/
theorem long_run {d : Addr} : ∀ (pairs : List (Sem Value × Sem Value)) (kx done : List (Int × Str)) (kvs : List (Int × Value)) (s : Shared) (Q : PUnit → Shared → Prop), Paired (ConstPair prog w) pairs kx → Paired KIs done kvs →
    s.heap.DictOf (intKind prog w) d kvs → ((done ++ kx).map (·.1)).Nodup → done.length + kx.length ≤ sizeLine →
    (∀ h' tk kvs', Paired KIs (done ++ kx) kvs' → h'.DictOf (intKind prog w) d kvs' → Heap.SameBut d s.heap h' → Q PUnit.unit { s with heap := h', toks := tk }) →
    wpAny (model prog w) A (forIn pairs PUnit.unit fun (x : Sem Value × Sem Value) (_ : PUnit) => (do let kv ← x.1; let vv ← holding [kv] x.2; holding [kv, vv] (dictSet d kv vv); pure (ForInStep.yield PUnit.unit) : Sem (ForInStep PUnit))) Q E s := by
  intro pairs
  induction pairs with
  | nil =>
    intro kx done kvs s Q hc hp hm hn hz hQ
    cases hc
    rw [List.forIn_nil]
    exact wpAny_pure (hQ s.heap s.toks kvs (by simpa using hp) hm (Heap.SameBut.refl _ _))
  | cons p pairs ih =>
    intro kx done kvs s Q hc hp hm hn hz hQ
    cases hc with
    | @cons _ q _ kx hc t =>
      rw [List.forIn_cons]
      refine wpAny_bind (wpAny_bind (hc.key _ _ _ _ fun t₁ tk₁ => wpAny_bind (wpAny_holding (hc.val _ _ _ _ fun t₂ tk₂ => ?_))))
      have hk := kis_keys hp
      have hnot : q.1 ∉ kvs.map (·.1) := by
        rw [hk]
        intro hm
        rw [List.map_append, List.nodup_append] at hn
        exact hn.2.2 q.1 hm q.1 (by simp) rfl
      have hl : kvs.length ≤ sizeLine := by
        have := hp.length
        omega
      have hkey : (intKind prog w).is q.1 (.int q.1 t₁) = true := by simp [intKind, Value.isInt]
      refine wpAny_bind (wpAny_holding (wpAny_dictSet_pairs (hsz := hl) hkey hm fun h₁ hm₁ hs₁ => wpAny_pure ?_))
      rw [stored_new hnot] at hm₁
      have hp₁ : Paired KIs (done ++ [q]) (kvs ++ [(q.1, .str q.2 t₂)]) := Paired.snoc hp ⟨rfl, t₂, rfl⟩
      have hn₁ : (((done ++ [q]) ++ kx).map (·.1)).Nodup := by
        rw [List.append_assoc]; exact hn
      have hz₁ : (done ++ [q]).length + kx.length ≤ sizeLine := by
        rw [List.length_append, List.length_singleton]
        rw [List.length_cons] at hz
        omega
      refine ih kx (done ++ [q]) _ _ Q t hp₁ hm₁ hn₁ hz₁ fun h' tk kvs' hp' hm' hs' => ?_
      rw [List.append_assoc] at hp'
      exact hQ h' tk kvs' hp' hm' (hs₁.trans hs')
end
end Ny

namespace Ny
open PySem PySem.W PySem.Calls PyProof.Rows

section
variable {prog : Program} {w : World} {A : Around} {E : Value → Shared → Prop}

theorem Grow.sameBut {h h' h'' : Heap} {d : Addr} (g : Grow h h') (hd : h.objs.size ≤ d) (hs : Heap.SameBut d h' h'') : Grow h h'' :=
  fun b o e => (hs.2 b (Nat.ne_of_lt (Nat.lt_of_lt_of_le (Heap.lt_size e) hd))).trans (g b o e)

theorem evalPairs_const : ∀ (pairs : List (Sem Value × Sem Value)) (kx : List (Int × Str)) (s : Shared) (Q : List (Value × Value) → Shared → Prop), Paired (ConstPair prog w) pairs kx →
    (∀ vs kvs tk, Carries (intKind prog w) vs kvs → Paired KIs kx kvs → Q vs { s with toks := tk }) → wpAny (model prog w) A (evalPairs pairs) Q E s := by
  intro pairs
  induction pairs with
  | nil =>
    intro kx s Q hc hQ
    cases hc
    exact evalPairs_nil (hQ [] [] s.toks trivial .nil)
  | cons p pairs ih =>
    intro kx s Q hc hQ
    cases hc with
    | @cons _ q _ kx hc t =>
      obtain ⟨p1, p2⟩ := p
      refine evalPairs_cons (hc.key _ _ _ _ fun t₁ tk₁ => hc.val _ _ _ _ fun t₂ tk₂ => ih kx _ _ t fun vs kvs tk hcar hk => ?_)
      refine hQ ((.int q.1 t₁, .str q.2 t₂) :: vs) ((q.1, .str q.2 t₂) :: kvs) tk ⟨by simp [intKind, Value.isInt], rfl, hcar⟩ (.cons ⟨rfl, t₂, rfl⟩ hk)

theorem sub_run {pairs : List (Sem Value × Sem Value)} {kx : List (Int × Str)} {s : Shared} {Q : Addr → Shared → Prop} (hc : Paired (ConstPair prog w) pairs kx) (hn : (kx.map (·.1)).Nodup) (hz : kx.length ≤ sizeLine)
    (hQ : ∀ h' tk kvs, Paired KIs kx kvs → h'.DictOf (intKind prog w) s.heap.objs.size kvs → Grow s.heap h' → Q s.heap.objs.size { s with heap := h', toks := tk }) : wpAny (model prog w) A (subDict pairs) Q E s := by
  by_cases hlen : pairs.length ≤ 15
  · refine wpAny_subDict (knd := intKind prog w) hlen (evalPairs_const pairs kx _ _ hc fun vs kvs tk hcar hk => ⟨kvs, hcar, Heap.DictOf.new _, fun h' hd hs => ?_⟩)
    rw [merged_nil_of_nodup _ (by rw [kis_keys hk]; exact hn)] at hd
    exact hQ h' _ kvs hk hd (Grow.sameBut (Grow.push _ _) (Nat.le_refl _) hs)
  · unfold subDict
    refine wpAny_bind (wpAny_alloc (wpAny_bind (wpAny_holding ?_)))
    rw [if_neg hlen]
    refine wpAny_bind (wpAny_rule ?_)
    refine wpAny_bind (long_run (d := s.heap.objs.size) pairs kx [] [] _ _ hc .nil (Heap.DictOf.new _) hn (by simpa using hz) fun h' tk kvs hk hd hs => ?_)
    exact wpAny_pure (wpAny_pure (hQ h' _ kvs hk hd (Grow.sameBut (Grow.push _ _) (Nat.le_refl _) hs)))

/-- the display under way: what is done lies in one dict -/
def MainAt (prog : Program) (w : World) (base h : Heap) (main : Option Addr) (dk : List (Int × Str)) : Prop :=
  Grow base h ∧ match main with
    | none => dk = []
    | some d => dk ≠ [] ∧ base.objs.size ≤ d ∧ ∃ kvs, Paired KIs dk kvs ∧ h.DictOf (intKind prog w) d kvs

theorem Paired.app {α β : Type} {F : α → β → Prop} : ∀ {l₁ : List α} {l₂ : List β} {m₁ : List α} {m₂ : List β}, Paired F l₁ l₂ → Paired F m₁ m₂ → Paired F (l₁ ++ m₁) (l₂ ++ m₂)
  | _, _, _, _, .nil, y => y
  | _, _, _, _, .cons h t, y => .cons h (Paired.app t y)
theorem size_of_grow {h h' : Heap} {a : Addr} {o : Obj} (e : h.get? a = some o) (g : Grow h h') : a < h'.objs.size := Heap.lt_size (g _ _ e)

theorem flush_run {base : Heap} {run : List (Sem Value × Sem Value)} {rk dk : List (Int × Str)} {main : Option Addr} {s : Shared} {Q : Option Addr → Shared → Prop} (hb : sysModules < s.heap.objs.size) (hsz : base.objs.size ≤ s.heap.objs.size)
    (hr : Paired (ConstPair prog w) run rk) (hne : rk ≠ [])
    (hn : ((dk ++ rk).map (·.1)).Nodup) (hz : (dk ++ rk).length ≤ sizeLine) (hM : MainAt prog w base s.heap main dk)
    (hQ : ∀ d h' tk, MainAt prog w base h' (some d) (dk ++ rk) → Q (some d) { s with heap := h', toks := tk }) :
    wpAny (model prog w) A (match (generalizing := false) main with
      | none => do let x ← subDict run; return some x
      | some d => do
        let sub ← holding [.ref d] (subDict run)
        (holding [.ref d, .ref sub] (mergeMapping d (.ref sub) false)).onRaise fun x => do let _ ← holding [.ref d, x] (runValue (.builtin "proto.let_go" {}))
        return some d : Sem (Option Addr)) Q E s := by
  have hn' := hn
  rw [List.map_append, List.nodup_append] at hn'
  rw [List.length_append] at hz
  cases main with
  | none =>
    obtain ⟨g, rfl⟩ := hM
    refine wpAny_bind (sub_run hr hn'.2.1 (by omega) fun h' tk kvs hk hd hg => wpAny_pure (hQ _ h' tk ?_))
    exact ⟨g.trans hg, hne, hsz, kvs, hk, hd⟩
  | some d =>
    obtain ⟨g, h0, hd0, kvs, hk, hd⟩ := hM
    have hlt : d < s.heap.objs.size := by obtain ⟨o, _, _, ho, _⟩ := hd; exact Heap.lt_size ho
    refine wpAny_bind (wpAny_holding (sub_run hr hn'.2.1 (by omega) fun h' tk kvs' hk' hd' hg => ?_))
    refine wpAny_bind (wpAny_onRaise (wpAny_holding (merge_new (knd := intKind prog w) (kvs := kvs) (more := kvs') (Nat.ne_of_lt hlt) ?_ ?_ (hd.keep hg) hd' ?_ (fun h'' hd'' hs'' => wpAny_pure (hQ _ h'' tk ?_)) ?_)))
    · exact beq_eq_false_iff_ne.mpr (Nat.ne_of_gt hb)
    · intro e
      have := hk.length
      rw [e] at this
      exact h0 (List.length_eq_zero_iff.mp this)
    · rw [List.map_append, kis_keys hk, kis_keys hk', ← List.map_append]; exact hn
    · refine ⟨Grow.sameBut (g.trans hg) hd0 hs'', ?_, hd0, _, Paired.app hk hk', hd''⟩
      intro e
      exact h0 (List.append_eq_nil_iff.mp e).1
    · rw [← hk.length, ← hk'.length]; exact hz
end
end Ny

namespace Ny
open PySem PySem.W PySem.Calls PyProof.Rows

section
variable {prog : Program} {w : World} {A : Around} {E : Value → Shared → Prop}

theorem Paired.len_lt {α β : Type} {F : α → β → Prop} {l₁ : List α} {l₂ : List β} (x : Paired F l₁ l₂) : l₁ = [] ↔ l₂ = [] := by
  cases x <;> simp

theorem MainAt.size {base h : Heap} {d : Addr} {dk} (x : MainAt prog w base h (some d) dk) : base.objs.size ≤ h.objs.size := by
  obtain ⟨g, h0, hd0, kvs, hk, o, _, _, ho, _⟩ := x
  exact Nat.le_trans hd0 (Nat.le_of_lt (Heap.lt_size ho))

theorem display_run {pairs : List (Sem Value × Sem Value)} {kx : List (Int × Str)} {s : Shared} {Q : Value → Shared → Prop} (hb : sysModules < s.heap.objs.size)
    (hc : Paired (ConstPair prog w) pairs kx) (hne : kx ≠ []) (hn : (kx.map (·.1)).Nodup) (hz : kx.length ≤ sizeLine)
    (hQ : ∀ d h' tk kvs, s.heap.objs.size ≤ d → Paired KIs kx kvs → h'.DictOf (intKind prog w) d kvs → Grow s.heap h' → Q (.ref d) { s with heap := h', toks := tk }) :
    wpAny (model prog w) A (dictDisplay (pairs.map fun p => (some p.1, p.2))) Q E s := by
  unfold dictDisplay
  dsimp only
  refine wpAny_bind (wpAny_forIn_list _
    (fun rest b s' => ∃ h' tk run rk dk rest' xk, s' = { s with heap := h', toks := tk } ∧ s.heap.objs.size ≤ h'.objs.size ∧ rest = rest'.map (fun p => (some p.1, p.2)) ∧ b.2 = run ∧ run.length < 17 ∧ kx = dk ++ rk ++ xk ∧
      Paired (ConstPair prog w) run rk ∧ Paired (ConstPair prog w) rest' xk ∧ MainAt prog w s.heap h' b.1 dk)
    _ ?_ ?_ _ _ ⟨s.heap, s.toks, [], [], [], pairs, kx, rfl, Nat.le_refl _, rfl, rfl, by simp, rfl, .nil, hc, Grow.refl _, rfl⟩)
  · rintro x rest ⟨main, run⟩ s' ⟨h', tk, run', rk, dk, rest', xk, rfl, hsz, hrest, hrun, hlen, hkx, hpr, hpx, hM⟩
    simp only at hrun hM
    subst hrun
    cases hpx with
    | nil => simp at hrest
    | @cons p q rest' xk hq hpx =>
    simp only [List.map_cons, List.cons.injEq] at hrest
    obtain ⟨rfl, hrest⟩ := hrest
    dsimp only
    have hpr' : Paired (ConstPair prog w) (run ++ [(p.1, p.2)]) (rk ++ [q]) := Paired.snoc hpr hq
    have hkx' : kx = dk ++ (rk ++ [q]) ++ xk := by rw [hkx]; simp
    cases hl : ((run ++ [(p.1, p.2)]).length == 17) with
    | false =>
      rw [if_neg (by simp)]
      refine wpAny_pure ⟨h', tk, _, rk ++ [q], dk, rest', xk, rfl, hsz, hrest, rfl, ?_, hkx', hpr', hpx, hM⟩
      have h1 := beq_eq_false_iff_ne.mp hl
      rw [List.length_append, List.length_singleton] at h1 ⊢
      omega
    | true =>
      rw [if_pos rfl]
      have hemp : (run ++ [(p.1, p.2)]).isEmpty = false := by simp
      rw [hemp, if_neg (by simp)]
      have hn' : ((dk ++ (rk ++ [q])).map (·.1)).Nodup := by
        rw [hkx', List.map_append, List.nodup_append] at hn
        exact hn.1
      have hz' : (dk ++ (rk ++ [q])).length ≤ sizeLine := by
        rw [hkx', List.length_append] at hz
        omega
      refine wpAny_bind (flush_run (base := s.heap) (s := { s with heap := h', toks := tk }) (dk := dk) (Nat.lt_of_lt_of_le hb hsz) hsz hpr' (by simp) hn' hz' hM fun d h'' tk' hM' => ?_)
      refine wpAny_pure ⟨h'', tk', [], [], dk ++ (rk ++ [q]), rest', xk, rfl, hM'.size, hrest, rfl, by simp, by rw [hkx']; simp, .nil, hpx, hM'⟩
  · rintro ⟨main, run⟩ s' ⟨h', tk, run', rk, dk, rest', xk, rfl, hsz, hrest, hrun, hlen, hkx, hpr, hpx, hM⟩
    simp only at hrun hM
    subst hrun
    cases hpx with
    | cons _ _ => simp at hrest
    | nil =>
    rw [List.append_nil] at hkx
    dsimp only
    cases hr : run.isEmpty with
    | true =>
      rw [if_pos rfl]
      rw [List.isEmpty_iff] at hr
      subst hr
      cases hpr
      rw [List.append_nil] at hkx
      subst hkx
      refine wpAny_bind (wpAny_pure ?_)
      cases main with
      | none => exact absurd hM.2 hne
      | some d =>
        obtain ⟨g, h0, hd0, kvs, hk, hd⟩ := hM
        exact wpAny_pure (hQ d h' tk kvs hd0 hk hd g)
    | false =>
      rw [if_neg (by simp)]
      have hrk : rk ≠ [] := by
        intro e
        subst e
        cases hpr
        simp at hr
      refine wpAny_bind (flush_run (base := s.heap) (s := { s with heap := h', toks := tk }) (dk := dk) (Nat.lt_of_lt_of_le hb hsz) hsz hpr hrk (hkx ▸ hn) (hkx ▸ hz) hM fun d h'' tk' hM' => ?_)
      obtain ⟨g, h0, hd0, kvs, hk, hd⟩ := hM'
      rw [← hkx] at hk
      exact wpAny_pure (hQ d h'' tk' kvs hd0 hk hd g)
end
end Ny

namespace Ny
open PySem PySem.W PySem.Calls PyProof.Rows

/-! ## Expressions at the top -/
structure ModAt (mg mb : Str → Option Value) (h : Heap) : Prop where
  g : h.Ns mainGlobals mg
  b : h.Ns builtinsNs mb
  bl : ∀ x ∈ (["set", "list", "range"] : List Str), mg x = none ∧ mb x = bootBuiltins x
theorem ModAt.grow {mg mb : Str → Option Value} {h h' : Heap} (x : ModAt mg mb h) (g : Grow h h') : ModAt mg mb h' := ⟨x.g.keeps g, x.b.keeps g, x.bl⟩

structure EvM (prog : Program) (w : World) (mg mb : Str → Option Value) (A : Around) (env : Env) (e : Expr) (R : Value → Heap → Prop) : Prop where
  run : ∀ (s : Shared) (E : Value → Shared → Prop), ModAt mg mb s.heap → wpAny (model prog w) A (eval e env) (fun v s' => Kp s s' ∧ R v s'.heap) E s
structure EvML (prog : Program) (w : World) (mg mb : Str → Option Value) (A : Around) (env : Env) (es : List Expr) (ds : List PyData) : Prop where
  run : ∀ (s : Shared) (pos : Pos) (E : Value → Shared → Prop), ModAt mg mb s.heap → wpAny (model prog w) A (spliced (backTo pos (starEach es env))) (fun vs s' => Kp s s' ∧ IsAll s'.heap vs ds) E s

section
variable {prog : Program} {w : World} {mg mb : Str → Option Value} {env : Env} {A : Around}
theorem evm_int {i : Int} {k pos} : EvM prog w mg mb A env (.Constant (.int i) k pos) (fun v h => Is h v (.int i)) := .mk fun s _ _ => wpAny_Constant_int ⟨Kp.tok s _, Is.int _ _ _⟩
theorem evml_nil : EvML prog w mg mb A env [] [] := .mk fun s _ _ _ => wpAny_items_nil ⟨Kp.refl s, IsAll.nil _⟩
theorem evml_cons {e : Expr} {es : List Expr} {d : PyData} {ds : List PyData} (x : EvM prog w mg mb A env e (fun v h => Is h v d)) (y : EvML prog w mg mb A env es ds)
    (he : notStar e = true := by rfl) : EvML prog w mg mb A env (e :: es) (d :: ds) := .mk fun s pos E F => by
  refine wpAny_items_cons (wpAny_mono (x.run s E F) (fun v s₁ h₁ => ?_) fun _ _ q => q) (star_of he es env)
  refine wpAny_mono (y.run s₁ pos E (F.grow h₁.1.grow)) (fun vs s₂ h₂ => ⟨h₁.1.trans h₂.1, IsAll.cons (h₁.2.grow h₂.1.grow) h₂.2⟩) fun _ _ q => q
theorem evm_list {es : List Expr} {ds : List PyData} {pos} (x : EvML prog w mg mb A env es ds) (hz : ds.length ≤ sizeLine) : EvM prog w mg mb A env (.List es pos) (fun v h => Is h v (.list ds)) := .mk fun s E F => by
  refine wpAny_List (wpAny_mono (x.run s pos E F) (fun vs s₁ h₁ => ⟨by rw [h₁.2.length]; exact hz, h₁.1.trans (Kp.push s₁ _ s₁.toks), ?_⟩) fun _ _ q => q)
  exact Is.list (vs := vs.toArray) ⟨_, Heap.get?_push_size _ rfl, rfl, _, rfl⟩ (by simpa using h₁.2.grow (Grow.push _ _))
theorem evm_addL {l r : Expr} {pos} {xs ys : List PyData} (hx : EvM prog w mg mb A env l (fun v h => Is h v (.list xs))) (hy : EvM prog w mg mb A env r (fun v h => Is h v (.list ys))) (hz : xs.length + ys.length ≤ sizeLine) :
    EvM prog w mg mb A env (.BinOp l .Add r pos) (fun v h => Is h v (.list (xs ++ ys))) := .mk fun s E F => by
  refine wpAny_BinOp (wpAny_mono (hx.run s E F) (fun a s₁ h₁ => ?_) fun _ _ q => q)
  refine wpAny_mono (hy.run s₁ E (F.grow h₁.1.grow)) (fun b s₂ h₂ => ?_) fun _ _ q => q
  refine wpAny_mono (addL (h₁.2.grow h₂.1.grow) h₂.2 hz) (fun v s₃ h₃ => ⟨(h₁.1.trans h₂.1).trans h₃.1, h₃.2⟩) fun _ _ q => q

/-- a call of a class by its name, one argument -/
theorem evm_typ {f : Str} {T : String} {p pos : Pos} {e : Expr} {R₁ R : Value → Heap → Prop} (hk : env.scope.kind = .module) (hl : env.locals = env.globals) (hglo : env.globals = mainGlobals) (hblt : env.builtins = builtinsNs)
    (hf : f ∈ (["set", "list", "range"] : List Str)) (hb : bootBuiltins f = some (.type T)) (x : EvM prog w mg mb A env e R₁)
    (h : ∀ v (s : Shared) (E : Value → Shared → Prop), R₁ v s.heap → wpAny (model prog w) A (call (.type T) [v]) (fun u s' => Kp s s' ∧ R u s'.heap) E s)
    (hd : (f == ("__debug__" : Str)) = false) (he : notStar e = true) : EvM prog w mg mb A env (.Call (.Name f p) [e] [] pos) R := .mk fun s E F => by
  obtain ⟨h1, h2⟩ := F.bl f hf
  refine wpAny_Call_Name_kw (Name_module hk hl (loadGlobal_builtin (mg := mg) (mb := mb) (by rw [hglo]; exact F.g) h1 (by rw [hblt]; exact F.b) (h2.trans hb) ?_) hd)
  refine PyProof.Rows.callWith_type1 (T := T) (wpAny_items_cons (wpAny_mono (x.run s E F) (fun v s₁ q => wpAny_items_nil ?_) fun _ _ q => q) (star_of he [] env)) (star_of he [] env) rfl
  exact wpAny_mono (h v s₁ E q.2) (fun u s₂ r => ⟨q.1.trans r.1, r.2⟩) fun _ _ q => q

theorem evm_range {p pos : Pos} {e f : Expr} {a b : Int} (hk : env.scope.kind = .module) (hl : env.locals = env.globals) (hglo : env.globals = mainGlobals) (hblt : env.builtins = builtinsNs)
    (x : EvM prog w mg mb A env e (fun v h => Is h v (.int a))) (y : EvM prog w mg mb A env f (fun v h => Is h v (.int b))) (he : notStar e = true) (hf : notStar f = true) :
    EvM prog w mg mb A env (.Call (.Name "range" p) [e, f] [] pos) (fun v h => IsRg h v a b) := .mk fun s E F => by
  obtain ⟨h1, h2⟩ := F.bl "range" (by decide)
  refine wpAny_Call_Name_kw (Name_module hk hl (loadGlobal_builtin (mg := mg) (mb := mb) (by rw [hglo]; exact F.g) h1 (by rw [hblt]; exact F.b) (h2.trans rfl) ?_) (by decide))
  refine PyProof.Rows.callWith_type1 (T := "range") (wpAny_mono ((evml_cons x (evml_cons y evml_nil hf) he).run s pos E F) (fun vs s₁ q => ?_) fun _ _ q => q) (star_of he [f] env) (backTo_star (es := [f]) (by simp [hf]) pos env)
  obtain ⟨v, r, rfl, h1, hr⟩ := q.2.cons_inv
  obtain ⟨v', r', rfl, h2, hr'⟩ := hr.cons_inv
  obtain rfl := hr'.nil_inv
  obtain ⟨t, rfl⟩ := h1.int_inv
  obtain ⟨u, rfl⟩ := h2.int_inv
  exact call_range_2 ⟨q.1.trans (Kp.push s₁ _ _), _, _, _, _, rfl, IsRange.new ..⟩

theorem ints_of_is {h : Heap} : ∀ {ns : List Int} {vs : List Value}, IsAll h vs (ns.map .int) → PyProof.Rows.IntsAre vs ns
  | [], vs, x => by rw [x.nil_inv]; exact .nil
  | n :: ns, vs, x => by
    obtain ⟨v, r, rfl, a, b⟩ := x.cons_inv
    obtain ⟨t, rfl⟩ := a.int_inv
    exact .cons n t (ints_of_is b)

theorem first_b1 : PyProof.Rows.firstMet (fun i => b1list.getD i 0) 27 = b1list := by decide +kernel
theorem call_set_b1 {s : Shared} {E : Value → Shared → Prop} {v : Value} (hh : A.handled = none) (hv : Is s.heap v nothingD) :
    wpAny (model prog w) A (call (.type "set") [v]) (fun u s' => Kp s s' ∧ ∃ a, u = .ref a ∧ B1At prog w s'.heap a ∧ s.heap.objs.size ≤ a) E s := by
  obtain ⟨l, vs, rfl, hl, hi⟩ := Is.list_inv hv
  have hz : vs.size = 27 := by
    have := hi.length
    simpa [b1list] using this
  refine call_set_list (ns := b1list) hh hl (ints_of_is hi) (by rw [hz]; decide) fun h' tk hS hk => ?_
  refine ⟨Kp.of fun b o e => hk b o (Heap.lt_size e) e, _, rfl, ?_, Nat.le_refl _⟩
  rw [hz, first_b1] at hS
  refine ⟨b1list.length, ?_⟩
  have : (fun k' : Int => b1list.any (· == k')) = fun k => decide (k ∈ b1list) := by
    funext k
    rw [Bool.eq_iff_iff, List.any_eq_true, decide_eq_true_iff]
    constructor
    · rintro ⟨x, hx, e⟩; exact (beq_iff_eq.mp e) ▸ hx
    · intro hx; exact ⟨k, hx, beq_self_eq_true k⟩
  rw [this] at hS
  exact hS
end
end Ny

namespace Ny
open PySem PySem.W PySem.Calls PyProof.Rows

abbrev thePw : Program := PySem.Challenge.pw_ny0228_01
/-! ## The statements of the top -/
def posAt (i : Nat) : Pos := match stAt i with
  | some (.FunctionDef _ _ _ _ _ _ _ _ _ p) => p
  | _ => default
def recAt (i : Nat) : DefRec := ⟨nameAt i, paramsAt i, bodyAt i, scopeAt i, posAt i⟩
def tgtAt (i : Nat) : Str := match stAt i with
  | some (.Assign [.Name x _] _ _) => x
  | _ => ""
def tposAt (i : Nat) : Pos := match stAt i with
  | some (.Assign [.Name _ p] _ _) => p
  | _ => default
def valAt (i : Nat) : Expr := match stAt i with
  | some (.Assign _ v _) => v
  | _ => .Constant .none 0 default
def aposAt (i : Nat) : Pos := match stAt i with
  | some (.Assign _ _ p) => p
  | _ => default
def asgAt (i : Nat) : Stmt := .Assign [.Name (tgtAt i) (tposAt i)] (valAt i) (aposAt i)
def stOf (i : Nat) : Stmt := if i ∈ [0, 3, 4, 6, 8] then asgAt i else (recAt i).stmt

theorem body_eq : thePw.main.body = [asgAt 0, (recAt 1).stmt, (recAt 2).stmt, asgAt 3, asgAt 4, (recAt 5).stmt, asgAt 6, (recAt 7).stmt, asgAt 8, (recAt 9).stmt, (recAt 10).stmt, (recAt 11).stmt, (recAt 12).stmt, (recAt 13).stmt, (recAt 14).stmt, (recAt 15).stmt, (recAt 16).stmt, (recAt 17).stmt, (recAt 18).stmt, (recAt 19).stmt] := by kernel_rfl
theorem behind_eq : behindTheImports thePw = thePw.main.body := by kernel_rfl
theorem opening_eq : opening thePw = plainProg thePw.main.scope.names := by kernel_rfl
theorem fence_eq (s : Shared) : fenceModules? thePw s = some s := by kernel_rfl

/-! ## The table -/
def b3keys : List (Option Expr) := match valAt 6 with
  | .Dict ks _ _ => ks
  | _ => []
def b3vals : List Expr := match valAt 6 with
  | .Dict _ vs _ => vs
  | _ => []
def b3pos : Pos := match valAt 6 with
  | .Dict _ _ p => p
  | _ => default
theorem b3_eq : valAt 6 = .Dict b3keys b3vals b3pos := by kernel_rfl
theorem b3list_eq : b3list = (b3keys.zip b3vals).filterMap pairOf := by kernel_rfl
theorem b3_len : b3keys.length = 650 ∧ b3vals.length = 650 := by decide +kernel
theorem b3_some : ((b3keys.zip b3vals).all fun p => (pairOf p).isSome) = true := by decide +kernel
def incr : List Int → Bool
  | a :: b :: l => decide (a < b) && incr (b :: l)
  | _ => true
theorem b3_incr : incr (b3list.map (·.1)) = true := by decide +kernel
theorem incr_lt : ∀ {l : List Int} {a : Int}, incr (a :: l) = true → ∀ b ∈ l, a < b
  | [], _, _, b, hb => by simp at hb
  | c :: l, a, h, b, hb => by
    simp only [incr, Bool.and_eq_true, decide_eq_true_eq] at h
    rcases List.mem_cons.mp hb with rfl | hb
    · exact h.1
    · exact Int.lt_trans h.1 (incr_lt h.2 b hb)
theorem incr_tail {l : List Int} {a : Int} (h : incr (a :: l) = true) : incr l = true := by
  cases l with
  | nil => rfl
  | cons b l => simp only [incr, Bool.and_eq_true] at h; exact h.2
theorem incr_nodup : ∀ {l : List Int}, incr l = true → l.Nodup
  | [], _ => List.nodup_nil
  | a :: l, h => List.nodup_cons.mpr ⟨fun hm => Int.lt_irrefl a (incr_lt h a hm), incr_nodup (incr_tail h)⟩
theorem b3_nodup : (b3list.map (·.1)).Nodup := incr_nodup b3_incr
theorem b3_size : b3list.length = 650 := by decide +kernel
end Ny

namespace Ny
open PySem PySem.W PySem.Calls PyProof.Rows

section
variable {prog : Program} {w : World} {A : Around}
theorem constPair_of {k v : Expr} {q : Int × Str} {env : Env} {pos : Pos} (h : pairOf (some k, v) = some q) : ConstPair prog w (eval k env, do let x ← eval v env; standAt pos; pure x) q := by
  unfold pairOf at h
  split at h
  · rename_i e
    cases e
    cases h
    refine ⟨fun A E s Q hQ => ?_, fun A E s Q hQ => ?_⟩
    · show wpAny _ _ (eval _ _) _ _ _
      exact wpAny_Constant_int (hQ _ _)
    · show wpAny _ _ (Bind.bind (eval _ _) _) _ _ _
      exact wpAny_bind (wpAny_Constant_str (wpAny_bind (wpAny_standAt (wpAny_pure (hQ _ _)))))
  · cases h
theorem constPairs : ∀ (ks : List (Option Expr)) (vs : List Expr) (env : Env) (pos : Pos), ((ks.zip vs).all fun p => (pairOf p).isSome) = true → ks.length = vs.length →
    Paired (ConstPair prog w) (pairTrees ks vs env pos) ((ks.zip vs).filterMap pairOf)
  | [], vs, env, pos, _, hl => by
    cases vs with
    | nil => exact .nil
    | cons _ _ => simp at hl
  | k :: ks, vs, env, pos, ha, hl => by
    cases vs with
    | nil => simp at hl
    | cons v vs =>
      simp only [List.zip_cons_cons, List.all_cons, Bool.and_eq_true] at ha
      obtain ⟨q, hq⟩ := Option.isSome_iff_exists.mp ha.1
      cases k with
      | none => simp [pairOf] at hq
      | some k =>
        rw [List.zip_cons_cons, List.filterMap_cons, hq]
        exact .cons (constPair_of hq) (constPairs ks vs env pos ha.2 (by simpa using hl))
theorem keys_some : ∀ (ks : List (Option Expr)) (vs : List Expr), ((ks.zip vs).all fun p => (pairOf p).isSome) = true → ks.length = vs.length → ks.all (·.isSome) = true
  | [], _, _, _ => rfl
  | k :: ks, vs, ha, hl => by
    cases vs with
    | nil => simp at hl
    | cons v vs =>
      simp only [List.zip_cons_cons, List.all_cons, Bool.and_eq_true] at ha
      rw [List.all_cons, keys_some ks vs ha.2 (by simpa using hl)]
      cases k with
      | none => simp [pairOf] at ha
      | some k => rfl

theorem value_of_kis : ∀ {kx : List (Int × Str)} {kvs : List (Int × Value)}, Paired KIs kx kvs → ∀ k, match kx.lookup k with
    | some x => ∃ t, valueAt kvs k = some (.str x t)
    | none => valueAt kvs k = none
  | _, _, .nil, k => rfl
  | _, _, .cons (a := a) (b := b) (l₂ := l₂) h t, k => by
    have ih := value_of_kis t k
    obtain ⟨h1, t', h2⟩ := h
    obtain ⟨ak, ax⟩ := a
    obtain ⟨bk, bv⟩ := b
    simp only at h1 h2
    subst h1 h2
    rw [List.lookup_cons]
    by_cases e : k = bk
    · subst e
      rw [beq_self_eq_true]
      exact ⟨t', by simp [valueAt]⟩
    · rw [beq_eq_false_iff_ne.mpr e]
      have : valueAt ((bk, .str ax t') :: l₂) k = valueAt l₂ k := by
        simp only [valueAt, List.find?_cons]
        rw [decide_eq_false (Ne.symm e)]
      rw [this]
      exact ih

structure TabIs (kx : List (Int × Str)) (f : Int → Option Value) : Prop where
  yes : ∀ k x, kx.lookup k = some x → ∃ t, f k = some (.str x t)
  no : ∀ k, kx.lookup k = none → f k = none
theorem TabIs.of {kx : List (Int × Str)} {kvs : List (Int × Value)} (h : Paired KIs kx kvs) : TabIs kx (valueAt kvs) :=
  ⟨fun k x e => by have := value_of_kis h k; rw [e] at this; exact this, fun k e => by have := value_of_kis h k; rw [e] at this; exact this⟩
theorem b3tab_eq (k : Int) : b3tab k = b3list.lookup k := by delta b3tab; rfl
theorem TabIs.b3 {h : Heap} {a : Addr} {f : Int → Option Value} (m : h.MapOf (intKind prog w) a f) (t : TabIs b3list f) : B3At prog w h a := by
  refine ⟨f, m, fun k => ?_⟩
  have e := b3tab_eq k
  cases hb : b3tab k with
  | none => exact t.no k (e.symm.trans hb)
  | some x => exact t.yes k x (e.symm.trans hb)
structure EvK (prog : Program) (w : World) (A : Around) (env : Env) (e : Expr) (R : Value → Heap → Heap → Prop) : Prop where
  run : ∀ (s : Shared) (E : Value → Shared → Prop), sysModules < s.heap.objs.size → wpAny (model prog w) A (eval e env) (fun v s' => Kp s s' ∧ R v s.heap s'.heap) E s
theorem EvK.mono {env : Env} {e : Expr} {R R' : Value → Heap → Heap → Prop} (x : EvK prog w A env e R) (h : ∀ v h h', R v h h' → R' v h h') : EvK prog w A env e R' :=
  .mk fun s E hb => wpAny_mono (x.run s E hb) (fun _ _ q => ⟨q.1, h _ _ _ q.2⟩) fun _ _ q => q
theorem eval_dict {env : Env} {ks : List (Option Expr)} {vs : List Expr} {pos : Pos} {kx : List (Int × Str)}
    (ha : ((ks.zip vs).all fun p => (pairOf p).isSome) = true) (hl : ks.length = vs.length) (hkx : kx = (ks.zip vs).filterMap pairOf) (hne : kx ≠ []) (hn : (kx.map (·.1)).Nodup) (hz : kx.length ≤ sizeLine) :
    EvK prog w A env (.Dict ks vs pos) (fun v h h' => ∃ a, v = .ref a ∧ h.objs.size ≤ a ∧ ∃ f, h'.MapOf (intKind prog w) a f ∧ TabIs kx f) := .mk fun s E hb => by
  rw [arm_eval_Dict, zip_pairTrees _ _ _ _ (keys_some _ _ ha hl) hl]
  refine wpAny_bind (wpAny_standAt ?_)
  have hc : Paired (ConstPair prog w) (pairTrees ks vs env pos) kx := by rw [hkx]; exact constPairs _ _ _ _ ha hl
  refine display_run hb hc hne hn hz fun d h' tk kvs hd hk hD g => ?_
  exact ⟨Kp.of g, d, rfl, hd, _, hD.mapOf, TabIs.of hk⟩

theorem b3_len' : b3keys.length = b3vals.length := b3_len.1.trans b3_len.2.symm
theorem b3_ne : b3list ≠ [] := fun e => absurd (b3_size.symm.trans (congrArg List.length e)) (by decide)
theorem b3_fits : b3list.length ≤ sizeLine := by rw [b3_size, sizeLine_eq]; decide
theorem eval_b3 {env : Env} : EvK prog w A env (valAt 6) (fun v h h' => ∃ a, v = .ref a ∧ h.objs.size ≤ a ∧ B3At prog w h' a) := by
  rw [b3_eq]
  exact (eval_dict b3_some b3_len' b3list_eq b3_ne b3_nodup b3_fits).mono fun v h h' ⟨a, e, l, f, m, t⟩ => ⟨a, e, l, TabIs.b3 m t⟩
end
end Ny

namespace Ny
open PySem PySem.W PySem.Calls PyProof.Rows

theorem plain1 : (recAt 1).Plain thePw := ⟨fun _ => rfl, by decide +kernel, by decide +kernel, by kernel_rfl, by decide +kernel⟩
theorem plain2 : (recAt 2).Plain thePw := ⟨fun _ => rfl, by decide +kernel, by decide +kernel, by kernel_rfl, by decide +kernel⟩
theorem plain5 : (recAt 5).Plain thePw := ⟨fun _ => rfl, by decide +kernel, by decide +kernel, by kernel_rfl, by decide +kernel⟩
theorem plain7 : (recAt 7).Plain thePw := ⟨fun _ => rfl, by decide +kernel, by decide +kernel, by kernel_rfl, by decide +kernel⟩
theorem plain9 : (recAt 9).Plain thePw := ⟨fun _ => rfl, by decide +kernel, by decide +kernel, by kernel_rfl, by decide +kernel⟩
theorem plain10 : (recAt 10).Plain thePw := ⟨fun _ => rfl, by decide +kernel, by decide +kernel, by kernel_rfl, by decide +kernel⟩
theorem plain11 : (recAt 11).Plain thePw := ⟨fun _ => rfl, by decide +kernel, by decide +kernel, by kernel_rfl, by decide +kernel⟩
theorem plain12 : (recAt 12).Plain thePw := ⟨fun _ => rfl, by decide +kernel, by decide +kernel, by kernel_rfl, by decide +kernel⟩
theorem plain13 : (recAt 13).Plain thePw := ⟨fun _ => rfl, by decide +kernel, by decide +kernel, by kernel_rfl, by decide +kernel⟩
theorem plain14 : (recAt 14).Plain thePw := ⟨fun _ => rfl, by decide +kernel, by decide +kernel, by kernel_rfl, by decide +kernel⟩
theorem plain15 : (recAt 15).Plain thePw := ⟨fun _ => rfl, by decide +kernel, by decide +kernel, by kernel_rfl, by decide +kernel⟩
theorem plain16 : (recAt 16).Plain thePw := ⟨fun _ => rfl, by decide +kernel, by decide +kernel, by kernel_rfl, by decide +kernel⟩
theorem plain17 : (recAt 17).Plain thePw := ⟨fun _ => rfl, by decide +kernel, by decide +kernel, by kernel_rfl, by decide +kernel⟩
theorem plain18 : (recAt 18).Plain thePw := ⟨fun _ => rfl, by decide +kernel, by decide +kernel, by kernel_rfl, by decide +kernel⟩
theorem plain19 : (recAt 19).Plain thePw := ⟨fun _ => rfl, by decide +kernel, by decide +kernel, by kernel_rfl, by decide +kernel⟩
end Ny

namespace Ny
open PySem PySem.W PySem.Calls PyProof.Rows

/-- all but the code's places and the main names is kept -/
def KeepAbove (Pl : Addr) (h h' : Heap) : Prop := ∀ b o, b ≠ Pl → b ≠ mainGlobals → h.get? b = some o → h'.get? b = some o
theorem KeepAbove.refl (Pl : Addr) (h : Heap) : KeepAbove Pl h h := fun _ _ _ _ e => e
theorem KeepAbove.trans {Pl : Addr} {h h' h'' : Heap} (x : KeepAbove Pl h h') (y : KeepAbove Pl h' h'') : KeepAbove Pl h h'' := fun b o n m e => y b o n m (x b o n m e)
theorem KeepAbove.grow {Pl : Addr} {h h' : Heap} (g : Grow h h') : KeepAbove Pl h h' := fun b o _ _ e => g b o e

abbrev Knows := List (Str × (Value → Heap → Prop))
structure TopI (b : Heap) (c Pl : Addr) (mg0 : Str → Option Value) (h : Heap) (mg : Str → Option Value) (ps : List Pos) (stored : List Str) (known : Knows) : Prop where
  T : ∃ l, l.map (·.1) = ps ∧ TopAt b c Pl h mg l
  names : ∀ x, x ∉ stored → mg x = mg0 x
  known : ∀ p ∈ known, ∃ v, mg p.1 = some v ∧ ∀ h', KeepAbove Pl h h' → p.2 v h'

/-- the rest of the top, run from any state that is so -/
structure Runs (w : World) (A : Around) (s0 : Shared) (b : Heap) (c Pl F : Addr) (mg0 : Str → Option Value) (Q : Flow → Shared → Prop) (E : Value → Shared → Prop) (rest : List Stmt) (ps : List Pos) (stored : List Str) (known : Knows) : Prop where
  run : ∀ h tk mg, TopI b c Pl mg0 h mg ps stored known → wpAny (model thePw w) A (execs rest (mainEnv thePw c F)) Q E { s0 with heap := h, toks := tk }

def FnR (i : Nat) (v : Value) (h : Heap) : Prop :=
  ∃ a o pm cd doc, v = .ref a ∧ h.get? a = some o ∧ o.data = .func (docDef (nameAt i) (paramsAt i) (bodyAt i) (scopeAt i) pm cd doc) ∧ h.CodeRec cd (nameAt i)

theorem mod_kind : thePw.main.scope.kind = .module := by decide +kernel

section
variable {w : World} {A : Around} {s0 : Shared} {b : Heap} {c Pl F : Addr} {mg0 : Str → Option Value} {Q : Flow → Shared → Prop} {E : Value → Shared → Prop} {rest : List Stmt} {ps : List Pos} {stored : List Str} {known : Knows}

theorem runs_nil (h : ∀ h tk mg, TopI b c Pl mg0 h mg ps stored known → Q .next { s0 with heap := h, toks := tk }) : Runs w A s0 b c Pl F mg0 Q E [] ps stored known :=
  .mk fun h' tk mg T => wpAny_execs_nil (h h' tk mg T)

theorem runs_def {i : Nat} (hd : (recAt i).Plain thePw) (hnf : (ps.all fun q => !(q.line == (posAt i).line && q.col == (posAt i).col)) = true) (hk : (known.all fun p => !(p.1 == nameAt i)) = true)
    (r : Runs w A s0 b c Pl F mg0 Q E rest (ps ++ [posAt i]) (nameAt i :: stored) (known ++ [(nameAt i, FnR i)])) : Runs w A s0 b c Pl F mg0 Q E ((recAt i).stmt :: rest) ps stored known := .mk fun h tk mg x => by
  obtain ⟨l, hl, T⟩ := x.T
  have hPl : Pl < h.objs.size := T.main.code.lt.2
  have hG : mainGlobals < h.objs.size := T.main.g.lt
  refine top_def (d := recAt i) (l := l) hd mod_kind (fun q hq e => ?_) T fun a c' doc h' tk' T' ha hf hc kp => ?_
  · have := List.all_eq_true.mp hnf q.1 (hl ▸ List.mem_map.mpr ⟨q, hq, rfl⟩)
    have e1 : q.1.line = (posAt i).line := e.1
    have e2 : q.1.col = (posAt i).col := e.2
    rw [e1, e2] at this
    simp at this
  · refine r.run h' tk' _ ⟨⟨_, ?_, T'⟩, fun y hy => ?_, fun p hp => ?_⟩
    · rw [List.map_append, hl]; rfl
    · have : y ≠ nameAt i := fun e => hy (by rw [e]; exact List.mem_cons_self ..)
      show (if y = nameAt i then _ else mg y) = _
      rw [if_neg this]
      exact x.names y fun hm => hy (List.mem_cons_of_mem _ hm)
    · rcases List.mem_append.mp hp with hp | hp
      · obtain ⟨v, hv, hr⟩ := x.known p hp
        refine ⟨v, ?_, fun h'' kp' => hr h'' (KeepAbove.trans (h' := h') kp kp')⟩
        have hne := List.all_eq_true.mp hk p hp
        have : p.1 ≠ nameAt i := by simpa using hne
        show (if p.1 = nameAt i then _ else mg p.1) = _
        rw [if_neg this]
        exact hv
      · obtain rfl := List.mem_singleton.mp hp
        refine ⟨.ref a, if_pos rfl, fun h'' kp' => ⟨a, _, _, _, doc, rfl, kp' a _ (Nat.ne_of_gt (Nat.lt_of_lt_of_le hPl ha)) (Nat.ne_of_gt (Nat.lt_of_lt_of_le hG ha)) hf, rfl, ?_⟩⟩
        exact hc.2.at fun o => kp' c' o (Nat.ne_of_gt (Nat.lt_of_lt_of_le hPl hc.1)) (Nat.ne_of_gt (Nat.lt_of_lt_of_le hG hc.1))

/-- an assignment; what is told of the value -/
structure EvT0 (w : World) (A : Around) (b : Heap) (c Pl F : Addr) (mg0 : Str → Option Value) (stored : List Str) (e : Expr) (R : Value → Heap → Prop) : Prop where
  run : ∀ (s : Shared) (E : Value → Shared → Prop) mg l, TopAt b c Pl s.heap mg l → (∀ x, x ∉ stored → mg x = mg0 x) → wpAny (model thePw w) A (eval e (mainEnv thePw c F)) (fun v s' => Kp s s' ∧ ∀ h', KeepAbove Pl s'.heap h' → R v h') E s

theorem runs_asg {x : Str} {p pos : Pos} {e : Expr} {R : Value → Heap → Prop} (hev : EvT0 w A b c Pl F mg0 stored e R) (hx : thePw.main.scope.names.lookup x = some .local) (hxb : x ≠ "__builtins__")
    (hs : ∀ env, swapsWith e (some (.Name x p)) pos.line env = pure false) (hk : (known.all fun p => !(p.1 == x)) = true) {more : Knows} (hm : more = [] ∨ more = [(x, R)])
    (r : Runs w A s0 b c Pl F mg0 Q E rest ps (x :: stored) (known ++ more)) : Runs w A s0 b c Pl F mg0 Q E (.Assign [.Name x p] e pos :: rest) ps stored known := .mk fun h tk mg y => by
  obtain ⟨l, hl, T⟩ := y.T
  refine wpAny_execs_cons (wpAny_Assign_Name (wpAny_mono (hev.run _ _ mg l T y.names) (fun v s₁ q => ?_) fun _ _ q => q) (hs _))
  obtain ⟨⟨h₁, tk₁, rfl, g⟩, hR⟩ := q
  refine top_store (l := l) hx mod_kind hxb (T.grow g) fun h₂ tk₂ T₂ hs₂ => ?_
  have k₁ : KeepAbove Pl h₁ h₂ := fun b o _ n e => hs₂.extBut b o n e
  refine r.run h₂ tk₂ _ ⟨⟨l, hl, T₂⟩, fun z hz => ?_, fun p hp => ?_⟩
  · have : z ≠ x := fun e => hz (by rw [e]; exact List.mem_cons_self ..)
    show (if z = x then _ else mg z) = _
    rw [if_neg this]
    exact y.names z fun hm => hz (List.mem_cons_of_mem _ hm)
  · rcases List.mem_append.mp hp with hp | hp
    · obtain ⟨v', hv, hr⟩ := y.known p hp
      refine ⟨v', ?_, fun h'' kp' => hr h'' (((KeepAbove.grow g).trans k₁).trans kp')⟩
      have hne := List.all_eq_true.mp hk p hp
      have : p.1 ≠ x := by simpa using hne
      show (if p.1 = x then _ else mg p.1) = _
      rw [if_neg this]
      exact hv
    · rcases hm with rfl | rfl
      · simp at hp
      · obtain rfl := List.mem_singleton.mp hp
        exact ⟨v, if_pos rfl, fun h'' kp' => hR h'' (k₁.trans kp')⟩

theorem ev0_str {x : Str} {k pos} : EvT0 w A b c Pl F mg0 stored (.Constant (.str x) k pos) (fun _ _ => True) := .mk fun s _ _ _ _ _ => wpAny_Constant_str ⟨Kp.tok s _, fun _ _ => trivial⟩
end
end Ny

namespace Ny
open PySem PySem.W PySem.Calls PyProof.Rows

section
variable {w : World} {A : Around} {b : Heap} {c Pl F : Addr} {mg0 mb : Str → Option Value} {stored : List Str}

theorem evm_b1 {mg : Str → Option Value} (hh : A.handled = none) : EvM thePw w mg mb A (mainEnv thePw c F) (valAt 4) (fun v h => ∃ a, v = .ref a ∧ B1At thePw w h a) := by
  refine evm_typ (T := "set") (R₁ := fun v h => Is h v nothingD) ?k rfl rfl rfl ?f ?b ?_ ?h ?d ?e
  case k => exact mod_kind
  case f => decide +kernel
  case b => kernel_rfl
  case d => decide +kernel
  case e => rfl
  case h =>
    intro v s E hv
    refine wpAny_mono (call_set_b1 hh hv) (fun u s' q => ?_) fun _ _ q => q
    obtain ⟨k, a, e, h1, _⟩ := q
    exact ⟨k, a, e, h1⟩
  rw [nothingD_eq]
  refine evm_addL ?_ ?_ ?z
  case z => exact Nat.le_of_ble_eq_true rfl
  · refine evm_list ?_ ?z
    case z => exact Nat.le_of_ble_eq_true rfl
    exact evml_cons evm_int (evml_cons evm_int (evml_cons evm_int (evml_cons evm_int (evml_cons evm_int (evml_cons evm_int (evml_cons evm_int (evml_cons evm_int (evml_cons evm_int (evml_cons evm_int (evml_cons evm_int evml_nil))))))))))
  · refine evm_typ (T := "list") (R₁ := fun v h => IsRg h v 65024 (65024 + (16 : Nat))) ?k rfl rfl rfl ?f ?b ?_ ?h ?d ?e
    case k => exact mod_kind
    case f => decide +kernel
    case b => kernel_rfl
    case d => decide +kernel
    case e => rfl
    case h =>
      rintro v s E ⟨r, t, u, y, rfl, hr⟩
      refine call_list_range (n := 16) hh hr ?_ ?_ ?_ fun h' tk acc' c' g ho hi => ?_
      · decide +kernel
      · rw [rangeSize_nat]; congr 1
      · decide
      · exact ⟨Kp.of g, Is.list (vs := acc') ⟨_, ho, rfl, _, rfl⟩ (ints_of_items hi)⟩
    refine evm_range ?k rfl rfl rfl evm_int evm_int rfl rfl
    exact mod_kind
end
end Ny

namespace Ny
open PySem PySem.W PySem.Calls PyProof.Rows

def B1R (w : World) (v : Value) (h : Heap) : Prop := ∃ a, v = .ref a ∧ B1At thePw w h a
def B3R (w : World) (v : Value) (h : Heap) : Prop := ∃ a, v = .ref a ∧ (a == sysModules) = false ∧ B3At thePw w h a

/-- what is known of the boot -/
structure BootIs (b : Heap) (mg0 mb : Str → Option Value) : Prop where
  bns : b.Ns builtinsNs mb
  bl : ∀ x ∈ (["set", "list", "range"] : List Str), mg0 x = none ∧ mb x = bootBuiltins x
  sys : sysModules < b.objs.size

section
variable {w : World} {A : Around} {s0 : Shared} {b : Heap} {c Pl F : Addr} {mg0 mb : Str → Option Value} {stored : List Str} {Q : Flow → Shared → Prop} {E : Value → Shared → Prop}

theorem TopAt.size {h : Heap} {mg l} (T : TopAt b c Pl h mg l) : b.objs.size ≤ h.objs.size := Nat.le_trans T.low.2 (Nat.le_of_lt T.main.code.lt.2)

theorem ev0_b1 (hB : BootIs b mg0 mb) (hh : A.handled = none) (hst : ∀ x ∈ (["set", "list", "range"] : List Str), x ∉ stored) : EvT0 w A b c Pl F mg0 stored (valAt 4) (B1R w) := .mk fun s E mg l T hn => by
  have hM : ModAt mg mb s.heap := ⟨T.main.g, hB.bns.at fun o => T.keep _ o (by decide), fun x hx => ⟨(hn x (hst x hx)).trans (hB.bl x hx).1, (hB.bl x hx).2⟩⟩
  refine wpAny_mono ((evm_b1 (mb := mb) hh).run s E hM) (fun v s' q => ⟨q.1, fun h' kp => ?_⟩) fun _ _ q => q
  obtain ⟨a, rfl, n, o, es, ep, t, ho, he, hd, r⟩ := q.2
  have T' := T.grow q.1.grow
  have n1 : a ≠ Pl := by
    rintro rfl
    obtain ⟨_, _, _, _, _, _, _, _, _, op, _, _, _, _, _, _, _, hop, hopd, _⟩ := T'.main.code
    rw [ho] at hop
    cases hop
    rw [hd] at hopd
    cases hopd
  have n2 : a ≠ mainGlobals := by
    rintro rfl
    obtain ⟨o', es', ep', ho', hd', _⟩ := T'.main.g
    rw [ho] at ho'
    cases ho'
    rw [hd] at hd'
    cases hd'
  exact ⟨a, rfl, n, o, es, ep, t, kp a o n1 n2 ho, he, hd, r⟩

theorem ev0_dict {e : Expr} (hB : BootIs b mg0 mb) (x : EvK thePw w A (mainEnv thePw c F) e (fun v h h' => ∃ a, v = .ref a ∧ h.objs.size ≤ a ∧ B3At thePw w h' a)) : EvT0 w A b c Pl F mg0 stored e (B3R w) := .mk fun s E mg l T hn => by
  have hs : sysModules < s.heap.objs.size := Nat.lt_of_lt_of_le hB.sys T.size
  refine wpAny_mono (x.run s E hs) (fun v s' q => ⟨q.1, fun h' kp => ?_⟩) fun _ _ q => q
  obtain ⟨a, rfl, ha, f, ⟨o, es, ep, ho, r⟩, hf⟩ := q.2
  have n1 : a ≠ Pl := Nat.ne_of_gt (Nat.lt_of_lt_of_le T.main.code.lt.2 ha)
  have n2 : a ≠ mainGlobals := Nat.ne_of_gt (Nat.lt_of_lt_of_le T.main.g.lt ha)
  exact ⟨a, rfl, beq_eq_false_iff_ne.mpr (Nat.ne_of_gt (Nat.lt_of_lt_of_le hs ha)), f, ⟨o, es, ep, kp a o n1 n2 ho, r⟩, hf⟩
theorem ev0_b3 (hB : BootIs b mg0 mb) : EvT0 w A b c Pl F mg0 stored (valAt 6) (B3R w) := ev0_dict hB eval_b3

def knowsAll (w : World) : Knows := [(nameAt 1, FnR 1), (nameAt 2, FnR 2), (tgtAt 4, B1R w), (nameAt 5, FnR 5), (tgtAt 6, B3R w), (nameAt 7, FnR 7), (nameAt 9, FnR 9), (nameAt 10, FnR 10), (nameAt 11, FnR 11), (nameAt 12, FnR 12), (nameAt 13, FnR 13),
  (nameAt 14, FnR 14), (nameAt 15, FnR 15), (nameAt 16, FnR 16), (nameAt 17, FnR 17), (nameAt 18, FnR 18), (nameAt 19, FnR 19)]
def storedAll : List Str := [nameAt 19, nameAt 18, nameAt 17, nameAt 16, nameAt 15, nameAt 14, nameAt 13, nameAt 12, nameAt 11, nameAt 10, nameAt 9, tgtAt 8, nameAt 7, tgtAt 6, nameAt 5, tgtAt 4, tgtAt 3, nameAt 2, nameAt 1, tgtAt 0]
def posAll : List Pos := [posAt 1, posAt 2, posAt 5, posAt 7, posAt 9, posAt 10, posAt 11, posAt 12, posAt 13, posAt 14, posAt 15, posAt 16, posAt 17, posAt 18, posAt 19]

theorem val0 : valAt 0 = .Constant (.str "cpy313.urllib.request") 0 (valAt 0).pos := by kernel_rfl
theorem val3 : valAt 3 = .Constant (.str "cpy313.stringprep") 0 (valAt 3).pos := by kernel_rfl
theorem val8 : valAt 8 = .Constant (.str "law_ny0228_01") 0 (valAt 8).pos := by kernel_rfl
theorem ev0_0 : EvT0 w A b c Pl F mg0 stored (valAt 0) (fun _ _ => True) := by rw [val0]; exact ev0_str
theorem ev0_3 : EvT0 w A b c Pl F mg0 stored (valAt 3) (fun _ _ => True) := by rw [val3]; exact ev0_str
theorem ev0_8 : EvT0 w A b c Pl F mg0 stored (valAt 8) (fun _ _ => True) := by rw [val8]; exact ev0_str

theorem runs_all (hB : BootIs b mg0 mb) (hh : A.handled = none) (h : ∀ h tk mg, TopI b c Pl mg0 h mg posAll storedAll (knowsAll w) → Q .next { s0 with heap := h, toks := tk }) :
    Runs w A s0 b c Pl F mg0 Q E thePw.main.body [] [] [] := by
  rw [body_eq]
  refine runs_asg (more := []) ev0_0 ?_ ?_ ?_ ?_ (.inl rfl) ?_
  · decide +kernel
  · decide +kernel
  · intro env; rfl
  · rfl
  refine runs_def plain1 ?_ ?_ ?_
  · kernel_rfl
  · kernel_rfl
  refine runs_def plain2 ?_ ?_ ?_
  · kernel_rfl
  · kernel_rfl
  refine runs_asg (more := []) ev0_3 ?_ ?_ ?_ ?_ (.inl rfl) ?_
  · decide +kernel
  · decide +kernel
  · intro env; rfl
  · kernel_rfl
  refine runs_asg (more := [(tgtAt 4, B1R w)]) (ev0_b1 hB hh (by decide +kernel)) ?_ ?_ ?_ ?_ (.inr rfl) ?_
  · decide +kernel
  · decide +kernel
  · intro env; rfl
  · kernel_rfl
  refine runs_def plain5 ?_ ?_ ?_
  · kernel_rfl
  · kernel_rfl
  refine runs_asg (more := [(tgtAt 6, B3R w)]) (ev0_b3 hB) ?_ ?_ ?_ ?_ (.inr rfl) ?_
  · decide +kernel
  · decide +kernel
  · intro env; rfl
  · kernel_rfl
  refine runs_def plain7 ?_ ?_ ?_
  · kernel_rfl
  · kernel_rfl
  refine runs_asg (more := []) ev0_8 ?_ ?_ ?_ ?_ (.inl rfl) ?_
  · decide +kernel
  · decide +kernel
  · intro env; rfl
  · kernel_rfl
  refine runs_def plain9 ?_ ?_ ?_
  · kernel_rfl
  · kernel_rfl
  refine runs_def plain10 ?_ ?_ ?_
  · kernel_rfl
  · kernel_rfl
  refine runs_def plain11 ?_ ?_ ?_
  · kernel_rfl
  · kernel_rfl
  refine runs_def plain12 ?_ ?_ ?_
  · kernel_rfl
  · kernel_rfl
  refine runs_def plain13 ?_ ?_ ?_
  · kernel_rfl
  · kernel_rfl
  refine runs_def plain14 ?_ ?_ ?_
  · kernel_rfl
  · kernel_rfl
  refine runs_def plain15 ?_ ?_ ?_
  · kernel_rfl
  · kernel_rfl
  refine runs_def plain16 ?_ ?_ ?_
  · kernel_rfl
  · kernel_rfl
  refine runs_def plain17 ?_ ?_ ?_
  · kernel_rfl
  · kernel_rfl
  refine runs_def plain18 ?_ ?_ ?_
  · kernel_rfl
  · kernel_rfl
  refine runs_def plain19 ?_ ?_ ?_
  · kernel_rfl
  · kernel_rfl
  exact runs_nil h
end
end Ny

namespace Ny
open PySem PySem.W PySem.Calls PyProof.Rows

structure Booted (b : Heap) (mg0 mb : Str → Option Value) : Prop where
  is : BootIs b mg0 mb
  gns : b.Ns mainGlobals mg0
  bmod : ∃ bm o, mg0 "__builtins__" = some (.ref bm) ∧ bm ≠ builtinsNs ∧ bm ≠ mainGlobals ∧ b.get? bm = some o ∧ o.cls = .type "module" ∧ o.dict = some builtinsNs ∧ o.data = .plain

theorem body_noAnns : hasAnns thePw.main.body = false := by kernel_rfl
theorem body_noDoc : docOf thePw.main.body = none := by kernel_rfl

/-- what the top's run leaves -/
def TopEnd (w : World) (s0 : Shared) (mg0 : Str → Option Value) (s' : Shared) : Prop :=
  ∃ h tk mg c Pl, s' = { s0 with heap := h, toks := tk } ∧ TopI s0.heap c Pl mg0 h mg posAll storedAll (knowsAll w)

section
variable {w : World} {s0 : Shared} {mg0 mb : Str → Option Value}
/-- a body's code at the top, by a judgement of the rest -/
theorem body_runs {A : Around} {h : Heap} {tk : Nat} {b : Heap} {c Pl F : Addr} {mg : Str → Option Value} {R : Result → Shared → Prop} {stmts : List Stmt} (hann : hasAnns stmts = false) (hdoc : docOf stmts = none)
    (r : Runs w (A.deeper (mainEnv thePw c F)) s0 b c Pl F mg0 (fun f s' => R (.ok f) s') (fun _ _ => False) stmts [] [] []) (T : TopI b c Pl mg0 h mg [] [] []) :
    codeAny (model thePw w) A (.body stmts (mainEnv thePw c F)) R { s0 with heap := h, toks := tk } :=
  codeAny_body hann hdoc (wpAny_mono (E := fun _ _ => False) (r.run h tk mg T) (fun _ _ x => x) fun _ _ x => x.elim)

theorem stub_runs (hB : Booted s0.heap mg0 mb) {E : Value → Shared → Prop} : wpAny (model thePw w) callerA (topStub thePw).cur (fun fin s' => fin = .done (.ret .none) ∧ TopEnd w s0 mg0 s') E s0 := by
  unfold topStub
  rw [behind_eq]
  dsimp only
  refine wpAny_bind (wpAny_moduleCode fun c Pl h₁ tk₁ hk hc hPl hcode => ?_)
  unfold newBodyFrame
  have hg₁ : h₁.Ns mainGlobals mg0 := hB.gns.keeps hk
  refine wpAny_bind (wpAny_bind (wpAny_nsGet hg₁ (wpAny_alloc ?_)))
  generalize ho : ({ cls := .type "frame", slots := _ } : Obj) = o
  have hglt : mainGlobals < s0.heap.objs.size := hB.gns.lt
  have T : TopI s0.heap c Pl mg0 (h₁.push o) mg0 [] [] [] := by
    refine ⟨⟨[], rfl, ⟨hg₁.push o, hcode.push o, ⟨Nat.lt_of_lt_of_le hglt hc, Nat.lt_of_lt_of_le hglt hPl⟩, ?_⟩, fun a ob _ e => Heap.get?_push_of_some _ (hk a ob e), ⟨hc, hPl⟩⟩, fun _ _ => rfl, fun p hp => by simp at hp⟩
    obtain ⟨bm, ob, e1, e2, e3, e4, e5⟩ := hB.bmod
    exact ⟨bm, ob, e1, e2, e3, Nat.ne_of_lt (Nat.lt_of_lt_of_le (Heap.lt_size e4) hPl), Heap.get?_push_of_some _ (hk _ _ e4), e5⟩
  refine wpAny_bind (wpAny_run (codeAny_mono (body_runs (s0 := s0) (R := fun r s' => ∃ f, r = .ok f ∧ TopEnd w s0 mg0 s') body_noAnns body_noDoc (runs_all hB.is rfl fun h tk mg T' => ⟨_, rfl, h, tk, mg, c, Pl, rfl, T'⟩) T) fun r s' q => ?_))
  obtain ⟨f, rfl, q⟩ := q
  exact wpAny_pure ⟨rfl, q⟩
end
end Ny

namespace Ny
open PySem PySem.W PySem.Calls PyProof.Rows

theorem step_done {den : Code → Sem Fin} {p : Program} {w : World} {s s' : Shared} {t : Thread} {f : Flow} (h : step den p w s t = .halt (.done f) s') : s' = s ∧ through t = true := by
  obtain ⟨heap, gens, drawn, toks, os⟩ := s
  obtain ⟨cur, code, pos, stack⟩ := t
  cases cur <;> simp only [step, finish] at h <;> (repeat' split at h) <;> simp_all [through]

theorem last_step {p : Program} {w : World} {f : Flow} {s' : Shared} : ∀ (n : Nat) (s : Shared) (t : Thread), s.asleep → (∀ k s₁ t₁, PySem.runN (denote table) p w k s t = .running s₁ t₁ → t₁.calm = true) →
    PySem.runN (denote table) p w n s t = .halted (.done f) s' → ∃ m t₁, schedN (denote table) p w m (.single s t) = .running (.single s' t₁) ∧ through t₁ = true
  | 0, _, _, _, _, h => by simp [runN] at h
  | n + 1, s, t, hr, hc, h => by
    cases hs : step (denote table) p w s t with
    | halt o s₂ =>
      simp only [runN, hs] at h
      obtain ⟨rfl, rfl⟩ : o = .done f ∧ s₂ = s' := by simpa using h
      obtain ⟨rfl, ht⟩ := step_done hs
      exact ⟨0, t, rfl, ht⟩
    | go s₂ t₂ =>
      simp only [runN, hs] at h
      have hl := step_life (denote table) p w s s₂ t t₂ hs
      have e : sstep (denote table) p w (.single s t) = .go (.single s₂ t₂) := by
        rcases sstep_single (denote table) p w s t (hc 0 s t rfl) hr with e | e
        · rw [e, hs]; rfl
        · rw [hs] at e; cases e
      obtain ⟨m, t₁, hm, ht⟩ := last_step n s₂ t₂ (Shared.asleep_of_life hl hr) (fun k s₁ t₁ hk => hc (k + 1) s₁ t₁ (by simp only [runN, hs]; exact hk)) h
      exact ⟨m + 1, t₁, by simp only [schedN, e]; exact hm, ht⟩

theorem stub_ran {w : World} {s0 : Shared} {mg0 mb : Str → Option Value} (hB : Booted s0.heap mg0 mb) (hz : s0.asleep) (hg : s0.gens = #[]) :
    ∃ s₁, (∃ n t, schedN (denote table) thePw w n (.single s0 (topStub thePw)) = .running (.single s₁ t) ∧ through t = true) ∧ s₁.heap.life = s0.heap.life ∧ TopEnd w s0 mg0 s₁ := by
  have h0 : wpAny (model thePw w) callerA (topStub thePw).cur (fun fin s' => ∃ f, fin = .done f ∧ ((∃ f', (Except.ok f : Result) = .ok f' ∧ TopEnd w s0 mg0 s') ∧ leftWithCleanup s'.gens = false)) (fun e s' => (∃ f', (Except.error e : Result) = .ok f' ∧ TopEnd w s0 mg0 s') ∧ leftWithCleanup s'.gens = false) s0 := by
    refine wpAny_mono (E := fun _ _ => False) (stub_runs hB) (fun fin s' q => ?_) fun _ _ q => q.elim
    obtain ⟨rfl, q⟩ := q
    refine ⟨_, rfl, ⟨_, rfl, q⟩, ?_⟩
    obtain ⟨h, tk, mg, c, Pl, rfl, _⟩ := q
    show leftWithCleanup s0.gens = false
    rw [hg]; simp [leftWithCleanup]
  obtain ⟨n, r, s', hn, f, rfl, hT⟩ := (wp_iff_halts (M := model thePw w) _ (fun r s' => ∃ f', r = .ok f' ∧ TopEnd w s0 mg0 s') default s0).mp (wp_of_wpAny_done (R := fun r s' => (∃ f', r = .ok f' ∧ TopEnd w s0 mg0 s') ∧ leftWithCleanup s'.gens = false) caller_in h0 default)
  obtain ⟨s'', hr, hf, hc⟩ := runNI_real (denote table) thePw w hn (outcomeOf_ends _)
  have hgs : s'.gens = #[] := by
    obtain ⟨h, tk, mg, c, Pl, rfl, _⟩ := hT
    exact hg
  obtain rfl := Shared.eq_of_forget_eq hf hgs
  obtain ⟨m, t₁, hm, ht⟩ := last_step n s0 _ hz hc hr
  exact ⟨s'', ⟨m, t₁, hm, ht⟩, runN_life _ _ _ hr, hT⟩
end Ny

namespace Ny
open PySem PySem.W PySem.Calls PyProof.Rows

theorem boot_g (P : Params) : (boot_heap P).isNs mainGlobals = true := by kernel_rfl
theorem boot_b (P : Params) : (boot_heap P).isNs builtinsNs = true := by kernel_rfl
theorem boot_c (P : Params) : (boot_heap P).isNs cStatics = true := by kernel_rfl
theorem boot_blt (P : Params) : (boot_heap P).bltView = bltViewBooted := by kernel_rfl
theorem boot_keys (P : Params) : ((boot_heap P).nsKeys mainGlobals).all (fun k => startupNames.contains k) = true := by kernel_rfl
theorem boot_acc (P : Params) : (boot_heap P).accountedOkI [] = true := by kernel_rfl
theorem boot_lim (P : Params) : (boot_heap P).nsMap cStatics "sys.recursionlimit" = none := by kernel_rfl
theorem boot_size (P : Params) : (decide (sysModules < (boot_heap P).objs.size)) = true := by kernel_rfl
def bmOf (h : Heap) : Bool := match h.nsMap mainGlobals "__builtins__" with
  | some (.ref bm) => bm != builtinsNs && bm != mainGlobals && match h.get? bm with
    | some o => o.cls == .type "module" && o.dict == some builtinsNs && match o.data with
      | .plain => true
      | _ => false
    | none => false
  | _ => false
theorem boot_bm (P : Params) : bmOf (boot_heap P) = true := by kernel_rfl
end Ny

namespace Ny
open PySem PySem.W PySem.Calls PyProof.Rows

noncomputable abbrev bmg (P : Params) : Str → Option Value := (boot_heap P).nsMap mainGlobals
noncomputable abbrev bmb (P : Params) : Str → Option Value := (boot_heap P).nsMap builtinsNs

theorem bmg_none (P : Params) {x : Str} (h : startupNames.contains x = false) : bmg P x = none := by
  refine Heap.nsMap_none fun hx => ?_
  have := List.all_eq_true.mp (boot_keys P) x hx
  rw [h] at this
  cases this
theorem bmb_eq (P : Params) {x : Str} (h : x ≠ "__name__") : bmb P x = bootBuiltins x := Heap.of_bltView (boot_b P) (boot_blt P) x h

theorem bm_of {h : Heap} (x : bmOf h = true) : ∃ bm o, h.nsMap mainGlobals "__builtins__" = some (.ref bm) ∧ bm ≠ builtinsNs ∧ bm ≠ mainGlobals ∧ h.get? bm = some o ∧ o.cls = .type "module" ∧ o.dict = some builtinsNs ∧ o.data = .plain := by
  unfold bmOf at x
  split at x
  · rename_i bm e
    simp only [Bool.and_eq_true, bne_iff_ne] at x
    obtain ⟨⟨x1, x2⟩, x3⟩ := x
    split at x3
    · rename_i o eo
      simp only [Bool.and_eq_true, beq_iff_eq] at x3
      obtain ⟨⟨y1, y2⟩, y3⟩ := x3
      split at y3
      · rename_i ed
        exact ⟨bm, o, e, x1, x2, eo, y1, y2, ed⟩
      · cases y3
    · cases x3
  · cases x

theorem tops_free : ((["set", "list", "range"] : List Str).all fun x => !startupNames.contains x && !(x == ("__name__" : Str))) = true := by decide +kernel
theorem booted (P : Params) : Booted (boot_heap P) (bmg P) (bmb P) where
  is := ⟨.of_isNs (boot_b P), fun x hx => by
    have := List.all_eq_true.mp tops_free x hx
    simp only [Bool.and_eq_true, Bool.not_eq_true', beq_eq_false_iff_ne] at this
    exact ⟨bmg_none P this.1, bmb_eq P this.2⟩, of_decide_eq_true (boot_size P)⟩
  gns := .of_isNs (boot_g P)
  bmod := bm_of (boot_bm P)

theorem blts_free : (bltsUsed.all fun x => !startupNames.contains x && !(x == ("__name__" : Str)) && !storedAll.contains x) = true := by decide +kernel
theorem tgt4 : tgtAt 4 = "b1_set" := by kernel_rfl
theorem tgt6 : tgtAt 6 = "b3_exceptions" := by kernel_rfl

section
variable {w : World} {P : Params} {c Pl : Addr} {h : Heap} {mg : Str → Option Value}
theorem fn_known {i : Nat} (hi : i ∈ fnsUsed ∨ i = 19) : (nameAt i, FnR i) ∈ knowsAll w := by
  have : i ∈ fnsUsed ++ [19] := by
    rcases hi with h | h
    · exact List.mem_append_left _ h
    · exact List.mem_append_right _ (by simp [h])
  have e : fnsUsed ++ [19] = [1, 2, 5, 7, 9, 10, 11, 12, 13, 14, 15, 16, 17, 18, 19] := rfl
  rw [e] at this
  simp only [List.mem_cons, List.not_mem_nil, or_false] at this
  unfold knowsAll
  rcases this with rfl | rfl | rfl | rfl | rfl | rfl | rfl | rfl | rfl | rfl | rfl | rfl | rfl | rfl | rfl <;>
    (repeat (first | exact List.mem_cons_self .. | apply List.mem_cons_of_mem))

theorem fn_at {b : Heap} {mg0 : Str → Option Value} (T : TopI b c Pl mg0 h mg posAll storedAll (knowsAll w)) {i : Nat} (hi : i ∈ fnsUsed ∨ i = 19) : FnAt mg h i := by
  obtain ⟨v, hv, hr⟩ := T.known _ (fn_known hi)
  obtain ⟨a, o, pm, cd, doc, rfl, h1, h2, h3⟩ := hr h (KeepAbove.refl _ _)
  exact ⟨a, o, pm, cd, doc, hv, h1, h2, h3⟩

theorem g_at (T : TopI (boot_heap P) c Pl (bmg P) h mg posAll storedAll (knowsAll w)) : G thePw w mg (bmb P) h := by
  obtain ⟨l, _, T0⟩ := T.T
  refine ⟨T0.main.g, (booted P).is.bns.at fun o => T0.keep _ o (by decide), ⟨_, (Heap.Ns.of_isNs (boot_c P)).at fun o => T0.keep _ o (by decide), boot_lim P⟩, fun i hi => fn_at T (.inl hi), fun x hx => ?_, ?_, ?_⟩
  · have := List.all_eq_true.mp blts_free x hx
    simp only [Bool.and_eq_true, Bool.not_eq_true', beq_eq_false_iff_ne] at this
    refine ⟨(T.names x fun hm => ?_).trans (bmg_none P this.1.1), bmb_eq P this.1.2⟩
    have h2 := this.2
    rw [List.contains_iff_mem.mpr hm] at h2
    cases h2
  · obtain ⟨v, hv, hr⟩ := T.known (tgtAt 4, B1R w) (by unfold knowsAll; exact .tail _ (.tail _ (.head _)))
    obtain ⟨a, rfl, h1⟩ := hr h (KeepAbove.refl _ _)
    exact ⟨a, by rw [← tgt4]; exact hv, h1⟩
  · obtain ⟨v, hv, hr⟩ := T.known (tgtAt 6, B3R w) (by unfold knowsAll; exact .tail _ (.tail _ (.tail _ (.tail _ (.head _)))))
    obtain ⟨a, rfl, h1, h2⟩ := hr h (KeepAbove.refl _ _)
    exact ⟨a, by rw [← tgt6]; exact hv, h1, h2⟩
end
end Ny

namespace Ny
open PySem PySem.W PySem.Calls PyProof.Rows

theorem global_ns {h : Heap} {m : Str → Option Value} (hn : h.Ns mainGlobals m) (x : Str) : globalOf h x = m x := Claim2Try.globalOf_of_ns hn x
theorem no_imports : importedModules thePw.main.body = [] := by kernel_rfl
theorem stored_bound : (storedAll.all fun x => thePw.boundNames.contains x) = true := by decide +kernel
theorem laid_free : (laidNames.all fun x => !storedAll.contains x) = true := by decide +kernel
theorem stored_bltin : storedAll.contains "__builtins__" = false := by decide +kernel

theorem not_stored {x : Str} (h : storedAll.contains x = false) : x ∉ storedAll := fun hm => by
  rw [List.contains_iff_mem.mpr hm] at h; cases h

theorem top_ran {w : World} {s0 : Shared} (hh : s0.heap = boot_heap w.params) (hg : s0.gens = #[]) (hz : s0.asleep) :
    ∃ s₁ mg, TopRan thePw w s0 s₁ ∧ s₁.asleep ∧ s₁.gens = #[] ∧ sysModules < s₁.heap.objs.size ∧ G thePw w mg (bmb w.params) s₁.heap ∧ FnAt mg s₁.heap 19 := by
  obtain ⟨s₁, hs, hl, h, tk, mg, c, Pl, rfl, T⟩ := stub_ran (w := w) (s0 := s0) (mg0 := bmg w.params) (mb := bmb w.params) (by rw [hh]; exact booted _) hz hg
  rw [hh] at T
  have GG := g_at T
  obtain ⟨l, _, T0⟩ := T.T
  have hc : h.get? cStatics = (boot_heap w.params).get? cStatics := by
    obtain ⟨o, es, ep, ho, _⟩ := Heap.Ns.of_isNs (boot_c w.params)
    rw [ho]; exact T0.keep _ o (by decide) ho
  have hst : staticOf h = staticOf s0.heap := by
    funext key
    rw [hh]
    unfold staticOf
    rw [hc]
  have hb : h.get? builtinsNs = (boot_heap w.params).get? builtinsNs := by
    obtain ⟨o, es, ep, ho, _⟩ := Heap.Ns.of_isNs (boot_b w.params)
    rw [ho]; exact T0.keep _ o (by decide) ho
  have hbo : builtinOf h = builtinOf (boot_heap w.params) := by
    funext key
    unfold builtinOf
    rw [hb]
  refine ⟨_, mg, ⟨hs, hl, Shared.rest_eq rfl, fun b o e hn => ?_, ?_, ?_, ?_, ?_, ?_, ?_, fun x v hx => ?_, fun x hx => ?_⟩, Shared.asleep_of_life hl hz, hg, Nat.lt_of_lt_of_le (of_decide_eq_true (boot_size _)) T0.size, GG, fn_at T (.inr rfl)⟩
  · rw [hh] at e
    exact T0.keep b o (fun q => hn (.inl q)) e
  · rw [no_imports]
    have := Heap.accountedI_of_ok (boot_acc w.params)
    rw [← hh] at this
    unfold staticsAccountedI at this ⊢
    rw [hst]
    exact this
  · exact fun key => .inl (congrFun hst key)
  · obtain ⟨o, es, ep, ho, hd, hk, _⟩ := T0.main.g
    exact ⟨o, es, ep, ho, hd, hk⟩
  · intro x hx
    rw [hbo, Pin.builtinOf_eq (boot_b _)]
    exact bmb_eq _ hx
  · obtain ⟨bm, o, e1, _, _, _, e5, e6, e7, _⟩ := T0.main.bmod
    exact ⟨bm, o, (global_ns T0.main.g _).trans e1, e5, e6, e7⟩
  · intro g hgm
    rw [hg] at hgm
    simp at hgm
  · rw [global_ns T0.main.g] at hx
    by_cases hm : x ∈ storedAll
    · exact .inr (List.contains_iff_mem.mp (List.all_eq_true.mp stored_bound x hm))
    · rw [T.names x hm] at hx
      cases hc : startupNames.contains x with
      | true => exact .inl (List.contains_iff_mem.mp hc)
      | false => rw [bmg_none _ hc] at hx; cases hx
  · have h1 := List.all_eq_true.mp laid_free x hx
    rw [global_ns T0.main.g, T.names x (not_stored (by simpa using h1)), hh, Pin.globalOf_eq (boot_g _)]
end Ny

namespace Ny
open PySem PySem.W PySem.Calls PyProof.Rows

abbrev theRow : RowW := PySem.Challenge.rw_ny0228_01.row.toRowW

theorem items_ints {R : WRecords} : ∀ {xs : List WData}, WShape.hasItems R xs .int = true → ∃ ns : List Int, xs = ns.map WData.int
  | [], _ => ⟨[], rfl⟩
  | x :: xs, h => by
    simp only [WShape.hasItems, Bool.and_eq_true] at h
    obtain ⟨i, rfl⟩ := hasW_int h.1
    obtain ⟨ns, rfl⟩ := items_ints h.2
    exact ⟨i :: ns, rfl⟩

theorem args_of {args : List WData} (h : theRow.claim.pre args = true) : ∃ ns : List Int, args = [.list (ns.map .int)] ∧ ns.length ≤ 63 := by
  obtain ⟨h1, h2⟩ := pre_splitW h
  have h1' : WShape.hasAll [] args [.list .int] = true := h1
  obtain ⟨d, r, rfl, hd, hr⟩ := hasAllW_cons h1'
  obtain rfl := hasAllW_nil hr
  obtain ⟨xs, rfl, hx⟩ := hasW_list hd
  obtain ⟨ns, rfl⟩ := items_ints hx
  refine ⟨ns, rfl, ?_⟩
  have h2' : WTm.holds [] (.and (.not (.lt (.lit (.int (63 : Nat))) (.len (.arg 0)))) (.lit (.bool true))) { args := [.list (ns.map .int)] } = true := h2
  simp only [WTm.holds, WTm.value, List.getElem?_cons_zero, List.length_map] at h2'
  by_cases hl : ns.length ≤ 63
  · exact hl
  · exfalso
    have hlt : less? (.int (63 : Nat)) (.int (ns.length : Nat)) = some true := by
      have : ((63 : Nat) : Int) < (ns.length : Int) := by omega
      simp only [less?, Num.less?, decide_eq_true this]
    rw [hlt] at h2'
    simp at h2'

theorem reads_args {cl : Str → Option Addr} {h : Heap} {vs : List Value} {as : List Addr} {ns : List Int} (r : ReadsAllW [] cl h vs [.list (ns.map .int)] as) : ∃ v, vs = [v] ∧ Is h v (.list (ns.map .int)) := by
  cases r with
  | cons a b =>
    cases b
    cases a with
    | list ho hc hd r =>
      refine ⟨_, rfl, Is.list ⟨_, ho, hc, _, hd⟩ ?_⟩
      generalize hvs : Array.toList _ = us at r
      clear hvs hd
      have key : ∀ (ns : List Int) (us : List Value) (as : List Addr), ReadsAllW [] cl h us (ns.map WData.int) as → IsAll h us (ns.map PyData.int) := by
        intro ns
        induction ns with
        | nil => intro us as r; cases r; exact IsAll.nil _
        | cons n ns ih =>
          intro us as r
          cases r with
          | cons a b =>
            cases a
            exact IsAll.cons (Is.int _ _ _) (ih _ _ b)
      exact key ns us _ r

theorem post_true (args : List WData) : theRow.claim.post args (.bool true) args = true := by
  show (WShape.has [] (.bool true) .bool && WTm.holds [] (.eq .res (.lit (.bool true))) { args := args, res := some (.bool true), after := args }) = true
  have e : same (.bool true) (.bool true) = true := by decide +kernel
  simp [WShape.has, WShape.arms, WTm.holds, WTm.value, e]
end Ny

namespace Ny
open PySem PySem.W PySem.Calls PyProof.Rows

theorem name19 : nameAt 19 = theRow.name := by kernel_rfl

theorem call_from {w : World} {s : Shared} {mg mb : Str → Option Value} {free : Addr → Prop} {gens : Prop} {kept : Heap → Prop} (hk : ∀ h, kept h) (hz : s.asleep) (hgens : s.gens = #[]) (hG : G thePw w mg mb s.heap) (hF : FnAt mg s.heap 19) :
    theRow.claim.CallFrom (callStub theRow.name) w free gens kept s := by
  refine ClaimW.callFrom_of_specG (c := theRow.claim) (tree := fun vs => do match ← nsGet mainNs theRow.name with
      | some f => do ret (← PySem.call f vs)
      | none => unsupported "claim.caller:no-such-global") hz hgens fun args hpre hlay ord hord => ?_
  obtain ⟨⟨vs, s₁⟩, hlaid⟩ := Option.isSome_iff_exists.mp (layAllW_isSome (R := theRow.claim.records) (cl := classAt s.heap) (P := w.params) (ord := ord) (fun c hc => by cases hc) args theRow.args s (pre_splitW hpre).1)
  have keeps := layAllW_keeps _ _ _ hlaid
  have hal := layAllW_rest _ _ _ hlaid
  obtain ⟨as, hrd, hin, hold⟩ := reads_layAllW hord _ _ _ hlaid hlay s₁.heap (fun _ _ e => e)
  have L : Laid theRow.claim.records w s s₁ args vs as := ⟨⟨ord, hord, hlaid⟩, hrd, hin, hold, keeps, hal.1.trans hgens, hal.2.2.1⟩
  obtain ⟨ns, rfl, hns⟩ := args_of hpre
  obtain ⟨v, rfl, hv⟩ := reads_args hrd
  have hG₁ := hG.grow keeps
  have hF₁ := hF.grow keeps
  obtain ⟨a, o, pm, cd, doc, e1, e2, e3, e4⟩ := id hF₁
  refine ⟨[v], s₁, hlaid, ?_⟩
  have hi : ∀ a b, theRow.claim.ident a b = true := ident_freeW (r := theRow) rfl rfl rfl
  refine wpAny_bind (wpAny_nsGet hG₁.g ?_)
  rw [← name19, e1]
  refine wpAny_bind (wpAny_mono (call_law (E := fun _ _ => False) callerA_ok hG₁ hF₁ rfl ns hns hv (reads_shaped ns) (outs_shaped ns) e1) (fun u s' q => wpAny_pure ?_) fun _ _ q => q.elim)
  obtain ⟨k, rfl⟩ := q
  rw [law_true ns]
  have g : GoodWG theRow.claim (classAt s.heap) (ExcName.means s.heap) [.list (ns.map .int)] s₁ (.ok (.ret (.bool true))) s' := by
    refine ⟨.inl ⟨.bool true, .bool true, [], rfl, fun _ => rfl, .bool true, post_true _, fun _ => ⟨List.nodup_nil, fun a ha => by cases ha⟩⟩, .of_keep k.grow, ?_, ?_⟩
    · obtain ⟨h', tk, rfl, _⟩ := k
      rfl
    · obtain ⟨h', tk, rfl, _⟩ := k
      exact .of_eq L.gens
  have z := g.laid (c := theRow.claim) rfl rfl hi L
  exact ⟨_, rfl, z.1, z.2.1, z.2.2, hk _⟩
end Ny

namespace Ny
open PySem PySem.W PySem.Calls PyProof.Rows

theorem def19 : thePw.theDef (nameAt 19) = some (paramsAt 19, bodyAt 19, scopeAt 19) := by kernel_rfl
theorem dflt19 : (paramsAt 19).defaults = [] := by kernel_rfl
theorem kw19 : kwWritten? (paramsAt 19).kwonlyargs (paramsAt 19).kw_defaults = some [] := by kernel_rfl

theorem is_def {h : Heap} {mg : Str → Option Value} (hg : h.Ns mainGlobals mg) (hF : FnAt mg h 19) : isTheDefsW thePw h (nameAt 19) := by
  obtain ⟨a, o, pm, cd, doc, e1, e2, e3, e4⟩ := hF
  exact ⟨a, o, _, paramsAt 19, bodyAt 19, scopeAt 19, (global_ns hg _).trans e1, e2, e3, def19, rfl, rfl, rfl, rfl, rfl, rfl, rfl, rfl, .inl ⟨dflt19, rfl⟩, [], kw19, .inl ⟨rfl, rfl⟩⟩

theorem pw_bare : thePw.bare := ⟨rfl, rfl, rfl, rfl, rfl, by decide +kernel⟩
theorem pw_opens : opensWell thePw = true := by decide +kernel

theorem holds_by (hw : theRow.promised) : theRow.claim.HoldsOpenBy (callStub theRow.name) [theRow.name] PySem.Challenge.rw_ny0228_01.row.keeps false := by
  refine ⟨⟨pw_bare, pw_opens, rfl⟩, hw.witness, fun w => ?_⟩
  obtain ⟨s, hs, hv⟩ := Option.map_eq_some_iff.mp (boot_plain w thePw.main.scope.names)
  rw [← opening_eq, ← table_eq_tree] at hs
  have A := AfterImport.of_importEnds hs
  refine ⟨⟨s, A⟩, fun s' hs' => ?_⟩
  obtain rfl : s' = s := AfterImport.unique hs' A
  have hh : s'.heap = boot_heap w.params := congrArg Prod.fst hv
  have hg : s'.gens = #[] := congrArg (fun x => x.2.1) hv
  obtain ⟨s₁, mg, hT, hz, hgens, hsys, hG, hF⟩ := top_ran (w := w) hh hg A.life
  refine ⟨s', fence_eq s', hg, s₁, hT, fun n hn => ?_, fun x hx => (nomatch hx), fun x hx => (nomatch hx), call_from (fun h q => (nomatch q)) hz hgens hG hF⟩
  obtain rfl := List.mem_singleton.mp hn
  rw [← name19]
  exact is_def hG.g hF

/-! ## The row is well said -/
abbrev theLaw : OpenLaw := PySem.Challenge.rw_ny0228_01
theorem looks1 : sreFenced theLaw.row.prog.main = true := by decide +kernel
theorem looks2 : ((moduleNames theLaw.row.prog.main.body).isEmpty || lookedIntoSs (moduleNames theLaw.row.prog.main.body) theLaw.row.prog.main.body) = true := by decide +kernel
theorem looks3 : namesResolve theLaw.row.prog = true := by decide +kernel
theorem looks4 : theLaw.row.prog.boundNames.all (fun n => !worldNames.contains n) = true := by decide +kernel
theorem looks5 : noRoadLSs { strict := !(importedModules theLaw.row.prog.main.body).all cThrough.contains, foot := none, bare := (["vars", "dir", "locals"] : List Str).filter (readsOut theLaw.row.prog theLaw.row.prog.main.body) } theLaw.row.prog.main.body = true := by decide +kernel
theorem looks6 : (namesMeet theLaw.row.prog theLaw.row.prog.main.body fun _ n => attrL n) = true := by decide +kernel
theorem looks : looksOpen theLaw.row.prog = true := look_both (look_both (look_both (look_both (look_both looks1 looks2) looks3) looks4) looks5) looks6
theorem part_said : theLaw.row.partSaid = true := by
  unfold OpenRow.partSaid
  refine look_both (look_both (look_both (look_both (look_both (look_both (look_both (look_both (look_both (look_both (look_both (look_both (look_both looks ?_) ?_) ?_) ?_) ?_) ?_) ?_) ?_) ?_) ?_) ?_) ?_) ?_
  all_goals decide +kernel
theorem row_well : theLaw.row.wellSaid = true := by
  unfold OpenRow.wellSaid
  refine look_both (look_both part_said ?_) ?_
  all_goals decide +kernel
theorem law_well : theLaw.wellSaid = true := by
  unfold OpenLaw.wellSaid
  refine look_both (look_both (look_both (look_both (look_both (look_both (look_both (look_both (look_both (look_both (look_both (look_both (look_both (look_both (look_both (look_both (look_both (look_both row_well ?_) ?_) ?_) ?_) ?_) ?_) ?_) ?_) ?_) ?_) ?_) ?_) ?_) ?_) ?_) ?_) ?_) ?_
  all_goals decide +kernel
theorem row_promised : theRow.promised := ⟨[.list []], by decide +kernel, by decide +kernel⟩
end Ny

set_option maxRecDepth 100000 in
theorem PySem.Challenge.cw_ny0228_01_holds : PySem.Challenge.rw_ny0228_01.Holds :=
  ⟨Ny.law_well, Ny.row_well, Ny.row_promised, Ny.holds_by Ny.row_promised⟩
