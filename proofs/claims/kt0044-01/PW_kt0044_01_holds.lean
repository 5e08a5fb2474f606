import PyProof.Rows.All
import Wide.All
import OpenK.AllK
import Wide.FinOn
import KE.KOwnIter
import PySem.Challenge.RW_kt0044_01
open PySem PySem.W PyProof.Rows PySem.Calls
set_option Elab.async false
set_option pp.deepTerms false
set_option linter.all false
section
set_option maxRecDepth 100000
set_option maxHeartbeats 0
namespace Mine
def q1 : Program := { PySem.Challenge.pw_kt0044_01 with main := { PySem.Challenge.pw_kt0044_01.main with body := PySem.Challenge.pw_kt0044_01.main.body.drop 52 } }
noncomputable def loose1 : List Str := [Str.ofString "_wall", Str.ofString "filterfalse", Str.ofString "_filter", Str.ofString "_plain_name", Str.ofString "ABCMeta", Str.ofString "_ABCLike", Str.ofString "_abc_plain_meta", Str.ofString "fspath", Str.ofString "_check_arg_types", Str.ofString "_get_sep", Str.ofString "join", Str.ofString "dirname", Str.ofString "commonpath", Str.ofString "S_IFMT", Str.ofString "S_IFDIR", Str.ofString "S_IFCHR", Str.ofString "S_IFBLK", Str.ofString "S_IFREG", Str.ofString "S_IFIFO", Str.ofString "S_IFLNK", Str.ofString "S_IFSOCK", Str.ofString "S_ISUID", Str.ofString "S_ISGID", Str.ofString "S_ISVTX", Str.ofString "S_IRUSR", Str.ofString "S_IWUSR", Str.ofString "S_IXUSR", Str.ofString "S_IRGRP", Str.ofString "S_IWGRP", Str.ofString "S_IXGRP", Str.ofString "S_IROTH", Str.ofString "S_IWOTH", Str.ofString "S_IXOTH", Str.ofString "_filemode_table", Str.ofString "filemode", Str.ofString "_law_cells", Str.ofString "_law_paths", Str.ofString "_law_rank", Str.ofString "_law_orders", Str.ofString "_law_falls", Str.ofString "_law_pairs", Str.ofString "_law_product"]
abbrev row1 : OpenRow := PySem.Challenge.rw_kt0044_01.row
theorem said1 : PySem.Challenge.rw_kt0044_01.wellSaid = true := by kernel_rfl
noncomputable abbrev Xt1 : Shared → Bool := fun s => xlAt q1 [] s && recOk (RowW.records row1.toRowW) s
theorem head_of {d : DefRec} {kwd : List (Str × Expr)} (H : Hook) (hdef : defOf q1 row1.name = some (d, kwd)) (hp : row1.prog.theDef row1.name = some (d.params, d.body, d.scope)) (hk : kwWritten? d.params.kwonlyargs d.params.kw_defaults = some kwd)
    (hl : LeftO row1.prog q1 loose1 Xt1 (Hook.obs H) (Hook.val H) 4000) (hw : row1.toRowW.promised)
    (hc : WalkO q1 loose1 (XL q1 []) (Hook.says H) row1.toRowW d kwd fun f vs => PySem.call f vs) : row1.Holds :=
  holds_open (q := q1) (loose := loose1) (Xt := Xt1) (XP := XL q1 []) (Yf := Hook.obs H) (Ya := Hook.val H) (YP := Hook.says H) (N := 4000) hl (Hook.of H) (Hook.keeps H) (fun s e => xl_of s (Bool.and_eq_true_iff.mp e).1) XL.keeps hdef hp hk (fun s e => recFacts_of (Bool.and_eq_true_iff.mp e).2) (by rfl) (row_said said1) (by decide +kernel) ⟨rfl, rfl, rfl, rfl, rfl, by decide +kernel⟩ hw hc
theorem law_of (h : row1.Holds) : PySem.Challenge.rw_kt0044_01.Holds := holds_law said1 fun _ => h
local macro_rules | `(tactic| o_law) => `(tactic| refine law_of ?_)
local macro_rules | `(tactic| o_head $H) => `(tactic| refine head_of $H rfl rfl rfl (fun w => by kernel_rfl) ?hw ?hc)
open_top hd for PySem.Challenge.rw_kt0044_01
end Mine
end
section
namespace Mine

noncomputable def Ret {α : Type} (o : Option α) (P : α → Prop) : Prop := ∀ a, o = some a → P a
section
variable {α β : Type} {o : Option α} {P : β → Prop} {f : α → Option β} {a b : Option β} {c : Prop} [Decidable c]
theorem Ret.none : Ret none P := fun _ h => nomatch h
theorem Ret.some {x : β} (h : P x) : Ret (some x) P := fun _ e => Option.some.inj e ▸ h
theorem Ret.bind (h : ∀ x, o = .some x → Ret (f x) P) : Ret (o.bind f) P := fun y e => by
  obtain ⟨x, h1, h2⟩ := Option.bind_eq_some_iff.mp e
  exact h x h1 y h2
theorem Ret.map {f : α → β} (h : ∀ x, o = .some x → P (f x)) : Ret (o.map f) P := fun y e => by
  obtain ⟨x, h1, rfl⟩ := Option.map_eq_some_iff.mp e
  exact h x h1
theorem Ret.elim (h : ∀ x, o = .some x → Ret (f x) P) (h' : Ret a P) : Ret (o.elim a f) P := by
  cases o with
  | none => exact h'
  | some x => exact h x rfl
theorem Ret.ite (h : c → Ret a P) : Ret (if c then a else .none) P := fun y e => by
  split at e
  · exact h ‹_› y e
  · cases e
theorem Ret.tie (h : ¬c → Ret a P) : Ret (if c then .none else a) P := fun y e => by
  split at e
  · cases e
  · exact h ‹_› y e
theorem Ret.fork (h : c → Ret a P) (h' : ¬c → Ret b P) : Ret (if c then a else b) P := fun y e => by
  split at e
  · exact h ‹_› y e
  · exact h' ‹_› y e
end
theorem and_t {a b : Bool} (h : (a && b) = true) : a = true ∧ b = true := by rwa [Bool.and_eq_true] at h
theorem not_t {a : Bool} (h : (!a) = true) : a = false := by rwa [Bool.not_eq_true'] at h
theorem not_f {a : Bool} (h : ¬a = true) : a = false := by rwa [Bool.not_eq_true] at h
noncomputable def one? {α : Type} : List α → Option α
  | [] => none
  | a :: l => if l.isEmpty then some a else none
theorem one_eq {α : Type} {l : List α} : Ret (one? l) fun a => l = [a] := by
  cases l with
  | nil => exact .none
  | cons a l => exact .ite fun h => .some (by rw [List.isEmpty_iff.mp h])
noncomputable def two? {α : Type} : List α → Option (α × α)
  | [] => none
  | a :: l => (one? l).map fun b => (a, b)
theorem two_eq {α : Type} {l : List α} : Ret (two? l) fun q => l = [q.1, q.2] := by
  cases l with
  | nil => exact .none
  | cons a l => exact .map fun b h => by rw [one_eq b h]

inductive D where
  | none
  | bool (b : Bool)
  | int (i : Int)
  | str (s : Str)
  | list (l : List D)
  | tup (l : List D)
  | rng (a b c : Int)
  | idct (l : List (Int × Str))
  | sdct (l : List (Str × Str))
  | ty (t : String)
  | arg (l : List Int)
  deriving Inhabited

noncomputable abbrev View := Addr → Option Obj
noncomputable def View.le (g g' : View) : Prop := ∀ a o, g a = some o → g' a = some o
theorem View.le_refl (g : View) : g.le g := fun _ _ e => e
theorem View.le_trans {g g' g'' : View} (x : g.le g') (y : g'.le g'') : g.le g'' := fun a o e => y a o (x a o e)

noncomputable def off (W : List Addr) (h : Heap) : View := fun a => if a ∈ W then none else h.get? a
theorem off_some {W : List Addr} {h : Heap} {a : Addr} {o : Obj} : off W h a = some o ↔ a ∉ W ∧ h.get? a = some o := by
  unfold off; split <;> simp_all
theorem off_get {W : List Addr} {h : Heap} {a : Addr} {o : Obj} (e : off W h a = some o) : h.get? a = some o := (off_some.mp e).2
theorem off_sub {W W' : List Addr} {h : Heap} (hs : ∀ a ∈ W', a ∈ W) : (off W h).le (off W' h) := fun a o e =>
  off_some.mpr ⟨fun hm => (off_some.mp e).1 (hs a hm), (off_some.mp e).2⟩
theorem off_keeps {W : List Addr} {h h' : Heap} (hk : ∀ b o, b ∉ W → h.get? b = some o → h'.get? b = some o) : (off W h).le (off W h') := fun a o e =>
  off_some.mpr ⟨(off_some.mp e).1, hk a o (off_some.mp e).1 (off_some.mp e).2⟩
theorem off_all {W : List Addr} {h h' : Heap} (hk : ∀ b o, h.get? b = some o → h'.get? b = some o) : (off W h).le (off W h') := off_keeps fun b o _ => hk b o
theorem off_grow {W W' : List Addr} {h h' : Heap} (hk : ∀ b o, b ∉ W → h.get? b = some o → h'.get? b = some o) (hn : ∀ a ∈ W', a ∈ W ∨ h.get? a = none) : (off W h).le (off W' h') := fun a o e => by
  obtain ⟨e1, e2⟩ := off_some.mp e
  refine off_some.mpr ⟨fun hm => ?_, hk a o e1 e2⟩
  rcases hn a hm with q | q
  · exact e1 q
  · rw [q] at e2; cases e2

noncomputable def Seq (g : View) (T : String) (a : Addr) (vs : List Value) : Prop := ∃ o n, g a = some o ∧ o.cls = .type T ∧ o.data = .seq vs.toArray n ∧ o.dict = none
theorem Seq.mono {g g' : View} {T a vs} (x : Seq g T a vs) (l : g.le g') : Seq g' T a vs := let ⟨o, n, e, r⟩ := x; ⟨o, n, l _ _ e, r⟩
theorem Seq.list {W h a vs} (x : Seq (off W h) "list" a vs) : h.IsList a vs.toArray := let ⟨o, n, e, c, d, _⟩ := x; ⟨o, off_get e, c, n, d⟩
theorem Seq.tuple {W h a vs} (x : Seq (off W h) "tuple" a vs) : h.IsTuple a vs.toArray := let ⟨o, n, e, c, d, _⟩ := x; ⟨o, off_get e, c, n, d⟩

noncomputable def IsRng (g : View) (r : Addr) (a b c : Int) : Prop := ∃ t u v, g r = some { cls := .type "range", dict := none, data := .fields #[.int a t, .int b u, .int c v], slots := #[] }
theorem IsRng.mono {g g' : View} {r a b c} (x : IsRng g r a b c) (l : g.le g') : IsRng g' r a b c := let ⟨t, u, v, e⟩ := x; ⟨t, u, v, l _ _ e⟩

noncomputable def DctOf {K : Type} [DecidableEq K] (knd : ∀ (prog : Program) (w : World), KeyKind prog w K) (g : View) (a : Addr) (l : List (K × Str)) : Prop :=
  (a == sysModules) = false ∧ ∃ (o : Obj) (kvs : List (K × Value)), g a = some o ∧ (∀ prog w, o.IsDictOf (knd prog w) kvs) ∧ kvs.map (·.1) = l.map (·.1) ∧ ∀ (i : Nat) (x : K × Str), l[i]? = some x → ∃ t, kvs[i]? = some (x.1, Value.str x.2 t)
theorem DctOf.mono {K : Type} [DecidableEq K] {knd : ∀ (prog : Program) (w : World), KeyKind prog w K} {g g' : View} {a : Addr} {l : List (K × Str)} (x : DctOf knd g a l) (h : g.le g') : DctOf knd g' a l :=
  let ⟨n, o, k, e, r⟩ := x; ⟨n, o, k, h _ _ e, r⟩

noncomputable def DctS (g : View) (a : Addr) (l : List (Str × Str)) : Prop :=
  (a == sysModules) = false ∧ ∃ (o : Obj) (kvs : List (Str × Value)), g a = some o ∧ (∃ prog w, o.IsDictOf (strKind prog w) kvs) ∧ kvs.map (·.1) = l.map (·.1) ∧ ∀ (i : Nat) (x : Str × Str), l[i]? = some x → ∃ t, kvs[i]? = some (x.1, Value.str x.2 t)
theorem DctS.mono {g g' : View} {a : Addr} {l : List (Str × Str)} (x : DctS g a l) (h : g.le g') : DctS g' a l :=
  let ⟨n, o, k, e, r⟩ := x; ⟨n, o, k, h _ _ e, r⟩

noncomputable def IsArg (g : View) (a : Addr) (l : List Int) : Prop := ∃ o n vs, g a = some o ∧ o.cls = .type "list" ∧ o.data = .seq vs n ∧ vs.size = l.length ∧ ∀ (i : Nat) (x : Int), l[i]? = some x → ∃ t, vs[i]? = some (.int x t)
theorem IsArg.mono {g g' : View} {a l} (x : IsArg g a l) (h : g.le g') : IsArg g' a l := let ⟨o, n, vs, e, r⟩ := x; ⟨o, n, vs, h _ _ e, r⟩

mutual
noncomputable def Rep (g : View) : D → Value → Prop
  | .none, v => v = .none
  | .bool b, v => v = .bool b
  | .int i, v => ∃ t, v = .int i t
  | .str s, v => ∃ t, v = .str s t
  | .list ds, v => ∃ a vs, v = .ref a ∧ Seq g "list" a vs ∧ Reps g ds vs
  | .tup ds, v => ∃ a vs, v = .ref a ∧ Seq g "tuple" a vs ∧ Reps g ds vs
  | .rng a b c, v => ∃ r, v = .ref r ∧ IsRng g r a b c
  | .idct l, v => ∃ r, v = .ref r ∧ DctOf intKind g r l
  | .sdct l, v => ∃ r, v = .ref r ∧ DctS g r l
  | .ty t, v => v = .type t
  | .arg l, v => ∃ r, v = .ref r ∧ IsArg g r l
noncomputable def Reps (g : View) : List D → List Value → Prop
  | [], vs => vs = []
  | d :: ds, vs => ∃ v r, vs = v :: r ∧ Rep g d v ∧ Reps g ds r
end

mutual
theorem Rep.mono {g g' : View} (l : g.le g') : ∀ {d : D} {v : Value}, Rep g d v → Rep g' d v
  | .none, _, h => h
  | .bool _, _, h => h
  | .int _, _, h => h
  | .str _, _, h => h
  | .list _, _, h => let ⟨a, vs, e, s, r⟩ := h; ⟨a, vs, e, s.mono l, Reps.mono l r⟩
  | .tup _, _, h => let ⟨a, vs, e, s, r⟩ := h; ⟨a, vs, e, s.mono l, Reps.mono l r⟩
  | .rng _ _ _, _, h => let ⟨r, e, x⟩ := h; ⟨r, e, x.mono l⟩
  | .idct _, _, h => let ⟨r, e, x⟩ := h; ⟨r, e, x.mono l⟩
  | .sdct _, _, h => let ⟨r, e, x⟩ := h; ⟨r, e, x.mono l⟩
  | .ty _, _, h => h
  | .arg _, _, h => let ⟨r, e, x⟩ := h; ⟨r, e, x.mono l⟩
theorem Reps.mono {g g' : View} (l : g.le g') : ∀ {ds : List D} {vs : List Value}, Reps g ds vs → Reps g' ds vs
  | [], _, h => h
  | _ :: _, _, h => let ⟨v, r, e, x, y⟩ := h; ⟨v, r, e, Rep.mono l x, Reps.mono l y⟩
end

noncomputable def asBool : D → Option Bool
  | .bool i => some i
  | _ => none
theorem asBool_eq {d : D} : Ret (asBool d) fun i => d = .bool i := by cases d <;> first | exact .some rfl | exact .none
noncomputable def asInt : D → Option Int
  | .int i => some i
  | _ => none
theorem asInt_eq {d : D} : Ret (asInt d) fun i => d = .int i := by cases d <;> first | exact .some rfl | exact .none
noncomputable def asStr : D → Option Str
  | .str i => some i
  | _ => none
theorem asStr_eq {d : D} : Ret (asStr d) fun i => d = .str i := by cases d <;> first | exact .some rfl | exact .none
noncomputable def asList : D → Option (List D)
  | .list i => some i
  | _ => none
theorem asList_eq {d : D} : Ret (asList d) fun i => d = .list i := by cases d <;> first | exact .some rfl | exact .none
noncomputable def asTup : D → Option (List D)
  | .tup i => some i
  | _ => none
theorem asTup_eq {d : D} : Ret (asTup d) fun i => d = .tup i := by cases d <;> first | exact .some rfl | exact .none

noncomputable def D.flat : D → Bool
  | .none | .bool _ | .int _ | .str _ | .ty _ => true
  | _ => false
theorem Rep.flat {g g' : View} {d : D} {v : Value} (hf : d.flat = true) (h : Rep g d v) : Rep g' d v := by
  cases d <;> first | exact h | cases hf

theorem Reps.length {g : View} : ∀ {ds : List D} {vs : List Value}, Reps g ds vs → vs.length = ds.length
  | [], _, h => by cases h; rfl
  | _ :: _, _, h => by obtain ⟨v, r, rfl, _, y⟩ := h; simp [Reps.length y]
theorem Reps.at {g : View} : ∀ {ds : List D} {vs : List Value} {i : Nat} {d : D}, Reps g ds vs → ds[i]? = some d → ∃ v, vs[i]? = some v ∧ Rep g d v
  | [], _, _, _, _, e => by simp at e
  | _ :: _, _, 0, d, h, e => by obtain ⟨v, r, rfl, x, _⟩ := h; simp at e; subst e; exact ⟨v, rfl, x⟩
  | _ :: ds, _, i + 1, d, h, e => by obtain ⟨v, r, rfl, _, y⟩ := h; simp at e; obtain ⟨w, a, b⟩ := Reps.at y e; exact ⟨w, by simpa using a, b⟩
theorem Reps.snoc {g : View} : ∀ {ds : List D} {vs : List Value} {d : D} {v : Value}, Reps g ds vs → Rep g d v → Reps g (ds ++ [d]) (vs ++ [v])
  | [], _, d, v, h, x => by cases h; exact ⟨v, [], rfl, x, rfl⟩
  | _ :: _, _, d, v, h, x => by obtain ⟨w, r, rfl, a, b⟩ := h; exact ⟨w, r ++ [v], rfl, a, Reps.snoc b x⟩
theorem Reps.append {g : View} : ∀ {ds es : List D} {vs us : List Value}, Reps g ds vs → Reps g es us → Reps g (ds ++ es) (vs ++ us)
  | [], _, _, _, h, y => by cases h; exact y
  | _ :: _, _, _, us, h, y => by obtain ⟨w, r, rfl, a, b⟩ := h; exact ⟨w, r ++ us, rfl, a, Reps.append b y⟩
theorem Reps.set {g : View} : ∀ {ds : List D} {vs : List Value} {i : Nat} {d : D} {v : Value}, Reps g ds vs → Rep g d v → Reps g (ds.set i d) (vs.set i v)
  | [], _, _, _, _, h, _ => by cases h; exact rfl
  | _ :: _, _, 0, d, v, h, x => by obtain ⟨w, r, rfl, _, b⟩ := h; exact ⟨v, r, rfl, x, b⟩
  | _ :: _, _, i + 1, d, v, h, x => by obtain ⟨w, r, rfl, a, b⟩ := h; exact ⟨w, r.set i v, rfl, a, Reps.set b x⟩

inductive ListV (g : View) (T : String) (ds : List D) : Value → Prop
  | mk {a : Addr} {vs : List Value} (sq : Seq g T a vs) (rs : Reps g ds vs) : ListV g T ds (.ref a)
theorem Rep.lv {g : View} {ds : List D} {v : Value} (h : Rep g (.list ds) v) : ListV g "list" ds v := by
  obtain ⟨a, vs, rfl, k, r⟩ := h
  exact .mk k r
theorem Rep.tv {g : View} {ds : List D} {v : Value} (h : Rep g (.tup ds) v) : ListV g "tuple" ds v := by
  obtain ⟨a, vs, rfl, k, r⟩ := h
  exact .mk k r
inductive ConsV (g : View) (d : D) (ds : List D) : List Value → Prop
  | mk {v : Value} {vs : List Value} (x : Rep g d v) (y : Reps g ds vs) : ConsV g d ds (v :: vs)
theorem Reps.cv {g : View} {d : D} {ds : List D} {vs : List Value} (h : Reps g (d :: ds) vs) : ConsV g d ds vs := by
  obtain ⟨v, r, rfl, x, y⟩ := h
  exact .mk x y
end Mine
end
section
namespace Mine

structure InE (env : Env) (m cm : Str → Option Value) (h : Heap) : Prop where
  ns : h.Ns env.locals m
  cell : ∀ n c, env.cells.lookup n = some c → h.IsCell c (cm n)
  apart : env.cells.Pairwise fun x y => x.2 ≠ y.2

noncomputable def val (env : Env) (m cm : Str → Option Value) (x : Str) : Option Value := match env.kindOf x with
  | some .local => m x
  | some .cell => if (env.cells.lookup x).isSome then cm x else none
  | some .free => if (env.cells.lookup x).isSome then cm x else none
  | _ => none

noncomputable def hid (env : Env) : List Addr := env.locals :: env.cells.map (·.2)

theorem InE.keeps {env : Env} {m cm : Str → Option Value} {h h' : Heap} (x : InE env m cm h) (hk : ∀ b ∈ hid env, ∀ o, h.get? b = some o → h'.get? b = some o) : InE env m cm h' where
  ns := let ⟨o, es, ep, e, r⟩ := x.ns; ⟨o, es, ep, hk _ (List.mem_cons_self) _ e, r⟩
  cell := fun n c hc => let ⟨o, e, d⟩ := x.cell n c hc; ⟨o, hk c (List.mem_cons_of_mem _ (List.mem_map.mpr ⟨(n, c), mem_of_lookup hc, rfl⟩)) o e, d⟩
  apart := x.apart

theorem InE.away {env : Env} {m cm : Str → Option Value} {h : Heap} (x : InE env m cm h) {n : Str} {c : Addr} (hc : env.cells.lookup n = some c) : c ≠ env.locals := by
  rintro rfl
  obtain ⟨o, es, ep, e, d, _⟩ := x.ns
  obtain ⟨o', e', d'⟩ := x.cell n _ hc
  rw [e] at e'; cases e'
  rw [d] at d'; cases d'

noncomputable def noLoad (x : Str) : Bool := x == ("__debug__" : Str) || x == ("__classdict__" : Str)

section
variable {M : Model} {A : Around} {E : Value → Shared → Prop} {s : Shared} {env : Env} {m cm : Str → Option Value}

theorem load_ok {x : Str} {v : Value} {Q : Value → Shared → Prop} (X : InE env m cm s.heap) (hk : env.scope.kind = .function) (hn : noLoad x = false)
    (hv : val env m cm x = some v) (h : Q v s) : wpAny M A (loadName env x) Q E s := by
  unfold noLoad at hn
  rw [Bool.or_eq_false_iff] at hn
  unfold val at hv
  split at hv
  · rename_i e; exact wpAny_loadName_local hk e X.ns hv h
  · rename_i e
    split at hv
    · rename_i hc
      obtain ⟨c, hc⟩ := Option.isSome_iff_exists.mp hc
      exact wpAny_loadName_cell hk e hc (hv ▸ X.cell x c hc) h
    · cases hv
  · rename_i e
    split at hv
    · rename_i hc
      obtain ⟨c, hc⟩ := Option.isSome_iff_exists.mp hc
      exact wpAny_loadName_free hk e hc (hv ▸ X.cell x c hc) h hn.2
    · cases hv
  · cases hv

theorem name_ok {x : Str} {pos : Pos} {v : Value} {Q : Value → Shared → Prop} (X : InE env m cm s.heap) (hk : env.scope.kind = .function) (hn : noLoad x = false)
    (hv : val env m cm x = some v) (h : Q v s) : wpAny M A (eval (.Name x pos) env) Q E s :=
  wpAny_Name (load_ok X hk hn hv h) (by unfold noLoad at hn; rw [Bool.or_eq_false_iff] at hn; exact hn.1)

noncomputable def stores (env : Env) (x : Str) : Prop := env.kindOf x = some .local ∨ (env.kindOf x = some .cell ∧ (env.cells.lookup x).isSome = true)

theorem store_ok {x : Str} {v : Value} {Q : Unit → Shared → Prop} (X : InE env m cm s.heap) (hk : env.scope.kind = .function) (hx : stores env x)
    (h : ∀ h' m' cm' tk, InE env m' cm' h' → val env m' cm' x = some v → (∀ y, y ≠ x → val env m' cm' y = val env m cm y) →
      (∃ a, (a = env.locals ∨ env.cells.lookup x = some a) ∧ (∀ b o, b ≠ a → s.heap.get? b = some o → h'.get? b = some o) ∧ ∃ o, h'.get? a = some o ∧ ∀ vs, o.data ≠ .fields vs) → Q () { s with heap := h', toks := tk }) : wpAny M A (storeName env x v) Q E s := by
  rcases hx with e | ⟨e, hc⟩
  · refine wpAny_storeName_local e X.ns (fun h' hn' hs' => h h' (fun y => if y = x then some v else m y) cm _ ⟨hn', fun n c hc => ?_, X.apart⟩ ?_ (fun y hy => ?_) ⟨env.locals, .inl rfl, fun b o hb e' => hs'.extBut b o hb e', ?_⟩) (by rw [hk]; rfl)
    · exact (X.cell n c hc).sameBut hs' (X.away hc)
    · unfold val; rw [e]; simp
    · unfold val; split <;> simp_all
    · obtain ⟨o, es, ep, e1, d1, _⟩ := hn'
      exact ⟨o, e1, fun vs q => by rw [d1] at q; cases q⟩
  · obtain ⟨c, hc⟩ := Option.isSome_iff_exists.mp hc
    refine wpAny_storeName_cell hk e hc (X.cell x c hc) fun h' hc' hs' => h h' m (fun y => if y = x then some v else cm y) s.toks ⟨X.ns.sameBut hs' (X.away hc).symm, fun n d hd => ?_, X.apart⟩ ?_ (fun y hy => ?_) ⟨c, .inr hc, fun b o hb e' => hs'.extBut b o hb e', ?_⟩
    · by_cases hn : n = x
      · subst hn; rw [hc] at hd; cases hd; simpa using hc'
      · simp only [hn, if_false]
        refine (X.cell n d hd).sameBut hs' fun q => hn ?_
        subst q
        exact name_of_addr X.apart (mem_of_lookup hd) (mem_of_lookup hc)
    · unfold val; rw [e]; simp [hc]
    · unfold val; split <;> simp_all
    · obtain ⟨o, e1, d1⟩ := hc'
      exact ⟨o, e1, fun vs q => by rw [d1] at q; cases q⟩
end
end Mine
end
section
namespace Mine

mutual
noncomputable def D.plain : D → Bool
  | .list l => D.plainAll l
  | .tup l => D.plainAll l
  | .rng _ _ _ => false
  | .idct _ => false
  | .sdct _ => false
  | .ty _ => false
  | .arg _ => false
  | _ => true
noncomputable def D.plainAll : List D → Bool
  | [] => true
  | d :: ds => d.plain && D.plainAll ds
end
mutual
noncomputable def D.depth : D → Nat
  | .list l => D.depthAll l + 1
  | .tup l => D.depthAll l + 1
  | _ => 0
noncomputable def D.depthAll : List D → Nat
  | [] => 0
  | d :: ds => max d.depth (D.depthAll ds)
end
noncomputable def noneB : D → Bool
  | .none => true
  | _ => false
noncomputable def boolB (a : Bool) : D → Bool
  | .bool b => a == b
  | .int j => (if a then 1 else 0) == j
  | _ => false
noncomputable def intB (i : Int) : D → Bool
  | .bool b => i == (if b then 1 else 0)
  | .int j => i == j
  | _ => false
noncomputable def strB (x : Str) : D → Bool
  | .str y => x == y
  | _ => false
mutual
noncomputable def D.eqv : D → D → Bool
  | .none, e => noneB e
  | .bool a, e => boolB a e
  | .int i, e => intB i e
  | .str x, e => strB x e
  | .list xs, e => match e with
    | .list ys => D.eqvAll xs ys
    | _ => false
  | .tup xs, e => match e with
    | .tup ys => D.eqvAll xs ys
    | _ => false
  | _, _ => false
noncomputable def D.eqvAll : List D → List D → Bool
  | [], ys => ys.isEmpty
  | x :: xs, ys => match ys with
    | [] => false
    | y :: ys => x.eqv y && D.eqvAll xs ys
end

inductive RV (g : View) : D → Value → Prop
  | none : RV g .none .none
  | bool (b : Bool) : RV g (.bool b) (.bool b)
  | int (i : Int) (t : Tok) : RV g (.int i) (.int i t)
  | str (x : Str) (t : Tok) : RV g (.str x) (.str x t)
  | list {ds : List D} {a : Addr} {vs : List Value} (k : Seq g "list" a vs) (r : Reps g ds vs) (p : D.plainAll ds = true) : RV g (.list ds) (.ref a)
  | tup {ds : List D} {a : Addr} {vs : List Value} (k : Seq g "tuple" a vs) (r : Reps g ds vs) (p : D.plainAll ds = true) : RV g (.tup ds) (.ref a)
theorem rv {g : View} {d : D} {v : Value} (hd : d.plain = true) (h : Rep g d v) : RV g d v := by
  cases d with
  | none => cases h; exact .none
  | bool b => cases h; exact .bool b
  | int i => obtain ⟨t, rfl⟩ := h; exact .int i t
  | str x => obtain ⟨t, rfl⟩ := h; exact .str x t
  | list ds => obtain ⟨a, vs, rfl, k, r⟩ := h; exact .list k r hd
  | tup ds => obtain ⟨a, vs, rfl, k, r⟩ := h; exact .tup k r hd
  | _ => cases hd
theorem Seq.same {g : View} {T T' : String} {a : Addr} {vs us : List Value} (x : Seq g T a vs) (y : Seq g T' a us) : T = T' ∧ vs = us := by
  obtain ⟨o, n, e1, e2, e3, _⟩ := x
  obtain ⟨o', n', f1, f2, f3, _⟩ := y
  rw [e1] at f1; cases f1
  rw [e2] at f2; rw [e3] at f3
  cases f2
  injection f3 with f3
  exact ⟨rfl, congrArg Array.toList f3⟩
theorem plain_cons {d : D} {ds : List D} (h : D.plainAll (d :: ds) = true) : d.plain = true ∧ D.plainAll ds = true := and_t h
theorem depth_cons {d : D} {ds : List D} {n : Nat} (h : D.depthAll (d :: ds) ≤ n) : d.depth ≤ n ∧ D.depthAll ds ≤ n := Nat.max_le.mp h
theorem Reps.unique_of {g : View} {n : Nat} (ih : ∀ d e v, d.depth ≤ n → d.plain = true → e.plain = true → Rep g d v → Rep g e v → d = e) : ∀ (ds es : List D) (vs : List Value), D.depthAll ds ≤ n → D.plainAll ds = true → D.plainAll es = true → Reps g ds vs → Reps g es vs → ds = es
  | [], [], _, _, _, _, _, _ => rfl
  | [], _ :: _, _, _, _, _, x, y => by cases x; obtain ⟨_, _, h, _⟩ := y; cases h
  | _ :: _, [], _, _, _, _, x, y => by cases y; obtain ⟨_, _, h, _⟩ := x; cases h
  | d :: ds, e :: es, vs, hn, hd, he, x, y => by
    obtain ⟨v, r, rfl, x1, x2⟩ := x
    obtain ⟨v', r', h, y1, y2⟩ := y
    cases h
    rw [ih d e v (depth_cons hn).1 (plain_cons hd).1 (plain_cons he).1 x1 y1, Reps.unique_of ih ds es r (depth_cons hn).2 (plain_cons hd).2 (plain_cons he).2 x2 y2]
theorem Rep.unique_of {g : View} (n : Nat) : ∀ (d e : D) (v : Value), d.depth ≤ n → d.plain = true → e.plain = true → Rep g d v → Rep g e v → d = e := by
  induction n using Nat.strongRecOn with
  | ind n ih =>
    intro d e v hn hd he x y
    have sub : ∀ {xs ys : List D} {vs : List Value}, D.depthAll xs + 1 ≤ n → D.plainAll xs = true → D.plainAll ys = true → Reps g xs vs → Reps g ys vs → xs = ys := fun {xs ys vs} hm p p' r r' => Reps.unique_of (ih _ hm) xs ys vs (Nat.le_refl _) p p' r r'
    have y := rv he y
    cases rv hd x with
    | none => cases y; rfl
    | bool b => cases y; rfl
    | int i t => cases y; rfl
    | str x t => cases y; rfl
    | list k r p => cases y with
      | list k' r' p' => cases (k.same k').2; rw [sub hn p p' r r']
      | tup k' r' p' => exact nomatch (k.same k').1
    | tup k r p => cases y with
      | list k' r' p' => exact nomatch (k.same k').1
      | tup k' r' p' => cases (k.same k').2; rw [sub hn p p' r r']
theorem Rep.unique {g : View} (d e : D) (v : Value) (hd : d.plain = true) (he : e.plain = true) (x : Rep g d v) (y : Rep g e v) : d = e := Rep.unique_of _ d e v (Nat.le_refl _) hd he x y

mutual
theorem D.eqv_refl : ∀ d : D, d.plain = true → d.eqv d = true
  | .none, _ => rfl
  | .bool _, _ => beq_self_eq_true _
  | .int _, _ => beq_self_eq_true _
  | .str _, _ => beq_self_eq_true _
  | .list xs, h => D.eqvAll_refl xs h
  | .tup xs, h => D.eqvAll_refl xs h
  | .rng _ _ _, h => nomatch h
  | .idct _, h => nomatch h
  | .sdct _, h => nomatch h
  | .ty _, h => nomatch h
  | .arg _, h => nomatch h
theorem D.eqvAll_refl : ∀ xs : List D, D.plainAll xs = true → D.eqvAll xs xs = true
  | [], _ => rfl
  | x :: xs, h => (Bool.and_eq_true _ _).mpr ⟨D.eqv_refl x (plain_cons h).1, D.eqvAll_refl xs (plain_cons h).2⟩
end

noncomputable def pairEqD (xs ys : List D) (j : Nat) : Bool := (xs[j]?).elim false fun x => (ys[j]?).elim false x.eqv
theorem eqvAll_eqD : ∀ xs ys : List D, ((List.range (min xs.length ys.length)).all (pairEqD xs ys) && xs.length == ys.length) = D.eqvAll xs ys
  | [], [] => rfl
  | [], _ :: _ => by rw [List.length_nil, Nat.zero_min]; rfl
  | _ :: _, [] => by rw [List.length_nil, Nat.min_zero]; rfl
  | x :: xs, y :: ys => by
    show _ = (x.eqv y && D.eqvAll xs ys)
    rw [← eqvAll_eqD xs ys, List.length_cons, List.length_cons, Nat.succ_min_succ, List.range_succ_eq_map, List.all_cons, List.all_map, ← Bool.and_assoc]
    have e : (xs.length + 1 == ys.length + 1) = (xs.length == ys.length) := by rw [Bool.eq_iff_iff, beq_iff_eq, beq_iff_eq]; exact Nat.succ_inj
    rw [e]
    rfl
theorem eqvAll_same_lengthD {xs ys : List D} (h : xs.length = ys.length) : (List.range xs.length).all (pairEqD xs ys) = D.eqvAll xs ys := by
  rw [← eqvAll_eqD xs ys, ← h, Nat.min_self, beq_self_eq_true, Bool.and_true]
theorem eqvAll_other_lengthD {xs ys : List D} (h : xs.length ≠ ys.length) : D.eqvAll xs ys = false := by
  rw [← eqvAll_eqD xs ys, beq_eq_false_iff_ne.mpr h, Bool.and_false]

section
open SeqAt
theorem eqAt_reps_of {W : List Addr} {n : Nat} {A : Around} {s : Shared} (ih : ∀ (d e : D) (v u : Value), min d.depth e.depth ≤ n → d.plain = true → e.plain = true → Rep (off W s.heap) d v → Rep (off W s.heap) e u → EqAt A s v u (d.eqv e)) :
    ∀ (xs ys : List D) (vs us : List Value), min (D.depthAll xs) (D.depthAll ys) ≤ n → D.plainAll xs = true → D.plainAll ys = true → Reps (off W s.heap) xs vs → Reps (off W s.heap) ys us → ∀ j (h1 : j < vs.length) (h2 : j < us.length), EqAt A s vs[j] us[j] (pairEqD xs ys j)
  | [], _, vs, _, _, _, _, x, _, j, h1, _ => by cases x; exact absurd h1 (Nat.not_lt_zero _)
  | _ :: _, [], _, us, _, _, _, _, y, j, _, h2 => by cases y; exact absurd h2 (Nat.not_lt_zero _)
  | d :: xs, e :: ys, vs, us, hn, hd, he, x, y, j, h1, h2 => by
    obtain ⟨v, r, rfl, x1, x2⟩ := x
    obtain ⟨u, q, rfl, y1, y2⟩ := y
    have le : ∀ {a b a' b' : Nat}, a ≤ a' → b ≤ b' → min a' b' ≤ n → min a b ≤ n := fun ha hb h => Nat.le_trans (Nat.le_min.mpr ⟨Nat.le_trans (Nat.min_le_left _ _) ha, Nat.le_trans (Nat.min_le_right _ _) hb⟩) h
    cases j with
    | zero => exact ih d e v u (le (Nat.le_max_left _ _) (Nat.le_max_left _ _) hn) (plain_cons hd).1 (plain_cons he).1 x1 y1
    | succ j => exact eqAt_reps_of ih xs ys r q (le (Nat.le_max_right _ _) (Nat.le_max_right _ _) hn) (plain_cons hd).2 (plain_cons he).2 x2 y2 j (Nat.lt_of_succ_lt_succ h1) (Nat.lt_of_succ_lt_succ h2)
theorem eqAt_lists {W : List Addr} {A : Around} {s : Shared} {xs ys : List D} {vs us : List Value} {a b : Addr} (hu : A.units < cLine) (k : Seq (off W s.heap) "list" a vs) (k' : Seq (off W s.heap) "list" b us) (r : Reps (off W s.heap) xs vs) (r' : Reps (off W s.heap) ys us) (hd : D.plainAll xs = true) (he : D.plainAll ys = true)
    (all : ∀ j (h1 : j < vs.length) (h2 : j < us.length), EqAt A.in1 s vs[j] us[j] (pairEqD xs ys j)) : EqAt A s (.ref a) (.ref b) (D.eqvAll xs ys) := by
  by_cases hll : a = b
  · subst hll
    cases (k.same k').2
    have e := Rep.unique (.list xs) (.list ys) (.ref a) hd he ⟨a, vs, rfl, k, r⟩ ⟨a, vs, rfl, k', r'⟩
    injection e with e
    subst e
    rw [D.eqvAll_refl xs hd]
    exact EqAt.same _
  · by_cases hsz : vs.length = us.length
    · rw [← eqvAll_same_lengthD (by rw [← r.length, ← r'.length, hsz]), ← r.length]
      exact EqAt.of_refs hll (RcAt.lists (A := A) (e := pairEqD xs ys) k.list k'.list hsz hu all)
    · rw [eqvAll_other_lengthD (by rw [← r.length, ← r'.length]; exact hsz)]
      exact EqAt.of_refs hll (RcAt.lists_lengths k.list k'.list (bne_iff_ne.mpr hsz) hu)
theorem eqAt_tups {W : List Addr} {A : Around} {s : Shared} {xs ys : List D} {vs us : List Value} {a b : Addr} (hu : A.units < cLine) (k : Seq (off W s.heap) "tuple" a vs) (k' : Seq (off W s.heap) "tuple" b us) (r : Reps (off W s.heap) xs vs) (r' : Reps (off W s.heap) ys us) (hd : D.plainAll xs = true) (he : D.plainAll ys = true)
    (all : ∀ j (h1 : j < vs.length) (h2 : j < us.length), EqAt A.in1 s vs[j] us[j] (pairEqD xs ys j)) : EqAt A s (.ref a) (.ref b) (D.eqvAll xs ys) := by
  by_cases hll : a = b
  · subst hll
    cases (k.same k').2
    have e := Rep.unique (.tup xs) (.tup ys) (.ref a) hd he ⟨a, vs, rfl, k, r⟩ ⟨a, vs, rfl, k', r'⟩
    injection e with e
    subst e
    rw [D.eqvAll_refl xs hd]
    exact EqAt.same _
  · rw [← eqvAll_eqD xs ys, ← r.length, ← r'.length]
    exact EqAt.of_refs hll (RcAt.tuples (A := A) (e := pairEqD xs ys) k.tuple k'.tuple hu all)
theorem eqAt_of {W : List Addr} {s : Shared} (n : Nat) : ∀ (A : Around) (d e : D) (v u : Value), A.units + n < cLine → min d.depth e.depth ≤ n → d.plain = true → e.plain = true → Rep (off W s.heap) d v → Rep (off W s.heap) e u → EqAt A s v u (d.eqv e) := by
  induction n using Nat.strongRecOn with
  | ind n ih =>
    intro A d e v u hu hn hd he x y
    have h0 : A.units < cLine := Nat.lt_of_le_of_lt (Nat.le_add_right _ _) hu
    have sub : ∀ {xs ys : List D} {vs us : List Value}, min (D.depthAll xs + 1) (D.depthAll ys + 1) ≤ n → Reps (off W s.heap) xs vs → Reps (off W s.heap) ys us → D.plainAll xs = true → D.plainAll ys = true → ∀ j (h1 : j < vs.length) (h2 : j < us.length), EqAt A.in1 s vs[j] us[j] (pairEqD xs ys j) := fun {xs ys vs us} hm r r' p p' => by
      cases n with
      | zero => exact absurd (Nat.succ_min_succ _ _ ▸ hm) (Nat.not_succ_le_zero _)
      | succ n => exact eqAt_reps_of (n := n) (fun d e v u => ih n (Nat.lt_succ_self n) A.in1 d e v u (by show A.units + 1 + n < cLine; rw [Nat.add_assoc, Nat.add_comm 1 n]; exact hu)) xs ys vs us (Nat.le_of_succ_le_succ (Nat.succ_min_succ _ _ ▸ hm)) p p' r r'
    cases rv hd x with
    | none => cases rv he y with
      | none => exact EqAt.same _
      | bool b => exact EqAt.none_bool b
      | int j t => exact EqAt.none_int j t
      | str j t => exact EqAt.none_str j t
      | list k r p => exact EqAt.none_list k.list h0
      | tup k r p => exact EqAt.none_tuple k.tuple h0
    | bool b => cases rv he y with
      | none => exact EqAt.bool_none b
      | bool c => exact EqAt.bool_bool b c
      | int j t => exact EqAt.bool_int b j t
      | str j t => exact EqAt.bool_str b j t
      | list k r p => exact EqAt.bool_list b k.list h0
      | tup k r p => exact EqAt.bool_tuple b k.tuple h0
    | int i t => cases rv he y with
      | none => exact EqAt.int_none i t
      | bool c => exact EqAt.int_bool i t c
      | int j t' => exact EqAt.int_int i t j t'
      | str j t' => exact EqAt.int_str i t j t'
      | list k r p => exact EqAt.int_list i t k.list h0
      | tup k r p => exact EqAt.int_tuple i t k.tuple h0
    | str i t => cases rv he y with
      | none => exact EqAt.str_none i t
      | bool c => exact EqAt.str_bool i t c
      | int j t' => exact EqAt.str_int i t j t'
      | str j t' => exact EqAt.str_str i t j t'
      | list k r p => exact EqAt.str_list i t k.list h0
      | tup k r p => exact EqAt.str_tuple i t k.tuple h0
    | list k r p => cases rv he y with
      | none => exact EqAt.list_none k.list h0
      | bool c => exact EqAt.list_bool c k.list h0
      | int j t => exact EqAt.list_int j t k.list h0
      | str j t => exact EqAt.list_str j t k.list h0
      | list k' r' p' => exact eqAt_lists h0 k k' r r' p p' (sub hn r r' p p')
      | tup k' r' p' => exact EqAt.list_tuple k.list k'.tuple h0
    | tup k r p => cases rv he y with
      | none => exact EqAt.tuple_none k.tuple h0
      | bool c => exact EqAt.tuple_bool c k.tuple h0
      | int j t => exact EqAt.tuple_int j t k.tuple h0
      | str j t => exact EqAt.tuple_str j t k.tuple h0
      | list k' r' p' => exact EqAt.tuple_list k.tuple k'.list h0
      | tup k' r' p' => exact eqAt_tups h0 k k' r r' p p' (sub hn r r' p p')
theorem eqAt_rep {W : List Addr} (d e : D) (A : Around) (s : Shared) (v u : Value) (hd : d.plain = true) (he : e.plain = true) (x : Rep (off W s.heap) d v) (y : Rep (off W s.heap) e u) (hu : A.units + min d.depth e.depth < cLine) : EqAt A s v u (d.eqv e) :=
  eqAt_of _ A d e v u hu (Nat.le_refl _) hd he x y
theorem eqAt_reps {W : List Addr} (xs ys : List D) (A : Around) (s : Shared) (vs us : List Value) (hd : D.plainAll xs = true) (he : D.plainAll ys = true) (x : Reps (off W s.heap) xs vs) (y : Reps (off W s.heap) ys us) (hu : A.units + min (D.depthAll xs) (D.depthAll ys) < cLine) :
    ∀ j (h1 : j < vs.length) (h2 : j < us.length), EqAt A s vs[j] us[j] (pairEqD xs ys j) :=
  eqAt_reps_of (fun d e v u hn hd he x y => eqAt_of _ A d e v u hu hn hd he x y) xs ys vs us (Nat.le_refl _) hd he x y
end
end Mine
end
section
namespace Mine
open SeqAt
open AutoSeq1 (wpAny_loadPart')
open MeetsSeq MeetsSeq2 MeetsSeq3

noncomputable def RcOp (op : CmpOp) (A : Around) (s : Shared) (y x : Value) (b : Bool) : Prop :=
  ∀ (prog : Program) (w : World) (E : Value → Shared → Prop) (Q : Value → Shared → Prop), Q (.bool b) s → wpAny (model prog w) A (richCompare op y x) Q E s

theorem lt_loop (l b : Addr) (items items2 : Array Value) (n n2 : Nat) (dd dd2 : Option Addr) (sl sl2 : Array (Option Value)) (p : Nat) (hp : p ≤ min items.size items2.size) (k : Nat) :
    ∀ i : Nat, p - i = k → i ≤ p → Meets (Builtin.«list.__eq__.loop» ⟨[.ref l, .ref b, rawInt i, rawInt 0], []⟩)
      (fun A R s => s.heap.get? l = some { cls := .type "list", dict := dd, data := .seq items n, slots := sl } ∧ s.heap.get? b = some { cls := .type "list", dict := dd2, data := .seq items2 n2, slots := sl2 } ∧
        (∀ j (h1 : j < items.size) (h2 : j < items2.size), j < p → EqAt A.in1 s items[j] items2[j] true) ∧
        ((p = min items.size items2.size ∧ R (.ok (.ret (.bool (decide (items.size < items2.size))))) s) ∨
         (∃ (h1 : p < items.size) (h2 : p < items2.size), ∃ c, EqAt A.in1 s items[p] items2[p] false ∧ RcOp .Lt A.in1 s items[p] items2[p] c ∧ R (.ok (.ret (.bool c))) s))) := by
  induction k with
  | zero =>
    intro i hk hip prog w A R s h
    obtain ⟨hp', g, d, tk, os⟩ := s; obtain ⟨hl, hb, he, h⟩ := h
    have hi : i = p := by omega
    subst hi
    wp_walk using wpAny_loadPart' hl, wpAny_loadPart' hb
    rcases h with ⟨hm, h⟩ | ⟨h1, h2, c, hq, hr, h⟩
    · by_cases hx : i < items.size
      · have hi1 : items[((i : Nat) : Int).toNat]? = some items[i] := by simp [hx]
        have hi2 : items2[((i : Nat) : Int).toNat]? = none := by simp; omega
        rw [hi1, hi2]
        wp_walk using wpAny_loadPart' hl, wpAny_loadPart' hb
        exact h
      · have hi1 : items[((i : Nat) : Int).toNat]? = none := by simp; omega
        rw [hi1]
        wp_walk using wpAny_loadPart' hl, wpAny_loadPart' hb
        exact h
    · have hi1 : items[((i : Nat) : Int).toNat]? = some items[i] := by simp [h1]
      have hi2 : items2[((i : Nat) : Int).toNat]? = some items2[i] := by simp [h2]
      rw [hi1, hi2]
      refine wpAny_bind (hq prog w _ _ ?_)
      wp_walk using wpAny_loadPart' hl, wpAny_loadPart' hb
      rw [hi1, hi2]
      refine wpAny_bind (hr prog w _ _ ?_)
      wp_walk
      simpa using h
  | succ k ih =>
    intro i hk hip prog w A R s h
    obtain ⟨hp', g, d, tk, os⟩ := s; obtain ⟨hl, hb, he, h⟩ := h
    wp_walk using wpAny_loadPart' hl, wpAny_loadPart' hb
    have hlt : i < items.size := by omega
    have hlt2 : i < items2.size := by omega
    have hi1 : items[((i : Nat) : Int).toNat]? = some items[i] := by simp [hlt]
    have hi2 : items2[((i : Nat) : Int).toNat]? = some items2[i] := by simp [hlt2]
    have hc : ((i : Int) + 1) = ((i + 1 : Nat) : Int) := by push_cast; rfl
    rw [hi1, hi2]
    refine wpAny_bind (he i hlt hlt2 (by omega) prog w _ _ ?_)
    wp_walk
    rw [hc]
    exact ⟨plainId_quiet plain_eq_loop _, codeAny_builtin entry_eq_loop (by
      rw [Around.under_plainId plain_eq_loop _]
      exact ih (i + 1) (by omega) (by omega) prog w A R _ ⟨hl, hb, he, h⟩)⟩

theorem lt_lists (l b : Addr) (items items2 : Array Value) (n n2 : Nat) (dd dd2 : Option Addr) (sl sl2 : Array (Option Value)) (p : Nat) (hp : p ≤ min items.size items2.size) :
    Meets (Builtin.«list.__lt__» ⟨[.ref l, .ref b], []⟩)
      (fun A R s => s.heap.get? l = some { cls := .type "list", dict := dd, data := .seq items n, slots := sl } ∧ s.heap.get? b = some { cls := .type "list", dict := dd2, data := .seq items2 n2, slots := sl2 } ∧
        (∀ j (h1 : j < items.size) (h2 : j < items2.size), j < p → EqAt A.in1 s items[j] items2[j] true) ∧
        ((p = min items.size items2.size ∧ R (.ok (.ret (.bool (decide (items.size < items2.size))))) s) ∨
         (∃ (h1 : p < items.size) (h2 : p < items2.size), ∃ c, EqAt A.in1 s items[p] items2[p] false ∧ RcOp .Lt A.in1 s items[p] items2[p] c ∧ R (.ok (.ret (.bool c))) s))) := by
  intro prog w A R s h
  obtain ⟨hp', g, d, tk, os⟩ := s; obtain ⟨hl, hb, he, h⟩ := h
  have f3 := AutoSeq1.sub_list_list
  wp_walk using wpAny_loadPart' hl, wpAny_loadPart' hb
  exact ⟨plainId_quiet plain_eq_loop _, codeAny_builtin entry_eq_loop (by
    rw [Around.under_plainId plain_eq_loop _]
    exact lt_loop l b items items2 n n2 dd dd2 sl sl2 p hp _ 0 rfl (Nat.zero_le _) prog w A R _ ⟨hl, hb, he, h⟩)⟩

theorem rc_lt_lists {A : Around} {s : Shared} {l b : Addr} {items items2 : Array Value} {r : Bool} (p : Nat) (hl : s.heap.IsList l items) (hb : s.heap.IsList b items2) (hp : p ≤ min items.size items2.size) (hu : A.units < cLine)
    (he : ∀ j (h1 : j < items.size) (h2 : j < items2.size), j < p → EqAt A.in1 s items[j] items2[j] true)
    (h : (p = min items.size items2.size ∧ r = decide (items.size < items2.size)) ∨
         (∃ (h1 : p < items.size) (h2 : p < items2.size), EqAt A.in1 s items[p] items2[p] false ∧ RcOp .Lt A.in1 s items[p] items2[p] r)) : RcOp .Lt A s (.ref l) (.ref b) r := fun prog w E Q hq => by
  obtain ⟨⟨cls, dd, data, sl⟩, ho, hc, n, hd⟩ := id hl
  obtain ⟨⟨cls2, dd2, data2, sl2⟩, ho2, hc2, n2, hd2⟩ := id hb
  simp only at hc hd hc2 hd2
  subst hc hd hc2 hd2
  have fin : Value.bool r ≠ Value.notImplemented ∧ Q (.bool r) s := ⟨(fun x => nomatch x), hq⟩
  refine richCompare_meets_room (op := .Lt) ⟨_, ho, rfl⟩ ⟨_, ho2, rfl⟩ F.slot_list_lt F.entry_list_lt (F.args_list_lt_2 _ _) (lt_lists l b items items2 n n2 dd dd2 sl sl2 p hp) ⟨ho, ho2, he, ?_⟩ hu
  rcases h with ⟨h1, h2⟩ | ⟨h1, h2, h3, h4⟩
  · exact .inl ⟨h1, h2 ▸ fin⟩
  · exact .inr ⟨h1, h2, r, h3, h4, fin⟩

theorem gt_loop (l b : Addr) (items items2 : Array Value) (n n2 : Nat) (dd dd2 : Option Addr) (sl sl2 : Array (Option Value)) (p : Nat) (hp : p ≤ min items.size items2.size) (k : Nat) :
    ∀ i : Nat, p - i = k → i ≤ p → Meets (Builtin.«list.__eq__.loop» ⟨[.ref l, .ref b, rawInt i, rawInt 4], []⟩)
      (fun A R s => s.heap.get? l = some { cls := .type "list", dict := dd, data := .seq items n, slots := sl } ∧ s.heap.get? b = some { cls := .type "list", dict := dd2, data := .seq items2 n2, slots := sl2 } ∧
        (∀ j (h1 : j < items.size) (h2 : j < items2.size), j < p → EqAt A.in1 s items[j] items2[j] true) ∧
        ((p = min items.size items2.size ∧ R (.ok (.ret (.bool (decide (items.size > items2.size))))) s) ∨
         (∃ (h1 : p < items.size) (h2 : p < items2.size), ∃ c, EqAt A.in1 s items[p] items2[p] false ∧ RcOp .Gt A.in1 s items[p] items2[p] c ∧ R (.ok (.ret (.bool c))) s))) := by
  induction k with
  | zero =>
    intro i hk hip prog w A R s h
    obtain ⟨hp', g, d, tk, os⟩ := s; obtain ⟨hl, hb, he, h⟩ := h
    have hi : i = p := by omega
    subst hi
    wp_walk using wpAny_loadPart' hl, wpAny_loadPart' hb
    rcases h with ⟨hm, h⟩ | ⟨h1, h2, c, hq, hr, h⟩
    · by_cases hx : i < items.size
      · have hi1 : items[((i : Nat) : Int).toNat]? = some items[i] := by simp [hx]
        have hi2 : items2[((i : Nat) : Int).toNat]? = none := by simp; omega
        rw [hi1, hi2]
        wp_walk using wpAny_loadPart' hl, wpAny_loadPart' hb
        exact h
      · have hi1 : items[((i : Nat) : Int).toNat]? = none := by simp; omega
        rw [hi1]
        wp_walk using wpAny_loadPart' hl, wpAny_loadPart' hb
        exact h
    · have hi1 : items[((i : Nat) : Int).toNat]? = some items[i] := by simp [h1]
      have hi2 : items2[((i : Nat) : Int).toNat]? = some items2[i] := by simp [h2]
      rw [hi1, hi2]
      refine wpAny_bind (hq prog w _ _ ?_)
      wp_walk using wpAny_loadPart' hl, wpAny_loadPart' hb
      rw [hi1, hi2]
      refine wpAny_bind (hr prog w _ _ ?_)
      wp_walk
      simpa using h
  | succ k ih =>
    intro i hk hip prog w A R s h
    obtain ⟨hp', g, d, tk, os⟩ := s; obtain ⟨hl, hb, he, h⟩ := h
    wp_walk using wpAny_loadPart' hl, wpAny_loadPart' hb
    have hlt : i < items.size := by omega
    have hlt2 : i < items2.size := by omega
    have hi1 : items[((i : Nat) : Int).toNat]? = some items[i] := by simp [hlt]
    have hi2 : items2[((i : Nat) : Int).toNat]? = some items2[i] := by simp [hlt2]
    have hc : ((i : Int) + 1) = ((i + 1 : Nat) : Int) := by push_cast; rfl
    rw [hi1, hi2]
    refine wpAny_bind (he i hlt hlt2 (by omega) prog w _ _ ?_)
    wp_walk
    rw [hc]
    exact ⟨plainId_quiet plain_eq_loop _, codeAny_builtin entry_eq_loop (by
      rw [Around.under_plainId plain_eq_loop _]
      exact ih (i + 1) (by omega) (by omega) prog w A R _ ⟨hl, hb, he, h⟩)⟩

theorem gt_lists (l b : Addr) (items items2 : Array Value) (n n2 : Nat) (dd dd2 : Option Addr) (sl sl2 : Array (Option Value)) (p : Nat) (hp : p ≤ min items.size items2.size) :
    Meets (Builtin.«list.__gt__» ⟨[.ref l, .ref b], []⟩)
      (fun A R s => s.heap.get? l = some { cls := .type "list", dict := dd, data := .seq items n, slots := sl } ∧ s.heap.get? b = some { cls := .type "list", dict := dd2, data := .seq items2 n2, slots := sl2 } ∧
        (∀ j (h1 : j < items.size) (h2 : j < items2.size), j < p → EqAt A.in1 s items[j] items2[j] true) ∧
        ((p = min items.size items2.size ∧ R (.ok (.ret (.bool (decide (items.size > items2.size))))) s) ∨
         (∃ (h1 : p < items.size) (h2 : p < items2.size), ∃ c, EqAt A.in1 s items[p] items2[p] false ∧ RcOp .Gt A.in1 s items[p] items2[p] c ∧ R (.ok (.ret (.bool c))) s))) := by
  intro prog w A R s h
  obtain ⟨hp', g, d, tk, os⟩ := s; obtain ⟨hl, hb, he, h⟩ := h
  have f3 := AutoSeq1.sub_list_list
  wp_walk using wpAny_loadPart' hl, wpAny_loadPart' hb
  exact ⟨plainId_quiet plain_eq_loop _, codeAny_builtin entry_eq_loop (by
    rw [Around.under_plainId plain_eq_loop _]
    exact gt_loop l b items items2 n n2 dd dd2 sl sl2 p hp _ 0 rfl (Nat.zero_le _) prog w A R _ ⟨hl, hb, he, h⟩)⟩

theorem rc_gt_lists {A : Around} {s : Shared} {l b : Addr} {items items2 : Array Value} {r : Bool} (p : Nat) (hl : s.heap.IsList l items) (hb : s.heap.IsList b items2) (hp : p ≤ min items.size items2.size) (hu : A.units < cLine)
    (he : ∀ j (h1 : j < items.size) (h2 : j < items2.size), j < p → EqAt A.in1 s items[j] items2[j] true)
    (h : (p = min items.size items2.size ∧ r = decide (items.size > items2.size)) ∨
         (∃ (h1 : p < items.size) (h2 : p < items2.size), EqAt A.in1 s items[p] items2[p] false ∧ RcOp .Gt A.in1 s items[p] items2[p] r)) : RcOp .Gt A s (.ref l) (.ref b) r := fun prog w E Q hq => by
  obtain ⟨⟨cls, dd, data, sl⟩, ho, hc, n, hd⟩ := id hl
  obtain ⟨⟨cls2, dd2, data2, sl2⟩, ho2, hc2, n2, hd2⟩ := id hb
  simp only at hc hd hc2 hd2
  subst hc hd hc2 hd2
  have fin : Value.bool r ≠ Value.notImplemented ∧ Q (.bool r) s := ⟨(fun x => nomatch x), hq⟩
  refine richCompare_meets_room (op := .Gt) ⟨_, ho, rfl⟩ ⟨_, ho2, rfl⟩ F.slot_list_gt F.entry_list_gt (F.args_list_gt_2 _ _) (gt_lists l b items items2 n n2 dd dd2 sl sl2 p hp) ⟨ho, ho2, he, ?_⟩ hu
  rcases h with ⟨h1, h2⟩ | ⟨h1, h2, h3, h4⟩
  · exact .inl ⟨h1, h2 ▸ fin⟩
  · exact .inr ⟨h1, h2, r, h3, h4, fin⟩
end Mine
end
section
namespace Mine
open SeqAt

noncomputable def D.ok : Nat → D → Bool
  | 0 => fun d => match d with
    | .none => true
    | .bool _ => true
    | .int _ => true
    | .str _ => true
    | _ => false
  | n + 1 => fun d => match d with
    | .none => true
    | .bool _ => true
    | .int _ => true
    | .str _ => true
    | .list l => l.all (D.ok n)
    | .tup l => l.all (D.ok n)
    | _ => false

theorem D.ok_all {n : Nat} (ih : ∀ d : D, D.ok n d = true → d.plain = true ∧ d.depth ≤ n) : ∀ l : List D, l.all (D.ok n) = true → D.plainAll l = true ∧ D.depthAll l ≤ n
  | [], _ => ⟨rfl, Nat.zero_le _⟩
  | d :: ds, h =>
    have h := and_t (List.all_cons ▸ h)
    have a := ih d h.1
    have b := D.ok_all ih ds h.2
    ⟨(Bool.and_eq_true _ _).mpr ⟨a.1, b.1⟩, Nat.max_le.mpr ⟨a.2, b.2⟩⟩
theorem D.ok_plain : ∀ (n : Nat) (d : D), D.ok n d = true → d.plain = true ∧ d.depth ≤ n := by
  intro n
  induction n with
  | zero => intro d h; cases d <;> first | exact ⟨rfl, Nat.le_refl _⟩ | exact nomatch h
  | succ n ih =>
    intro d h
    cases d with
    | list l => exact ⟨(D.ok_all ih l h).1, Nat.succ_le_succ (D.ok_all ih l h).2⟩
    | tup l => exact ⟨(D.ok_all ih l h).1, Nat.succ_le_succ (D.ok_all ih l h).2⟩
    | _ => first | exact ⟨rfl, Nat.zero_le _⟩ | exact nomatch h

noncomputable def ltIf (op : CmpOp) (a b : Bool) : Option Bool := match op with
  | .Lt => some a
  | .Gt => some b
  | _ => none
noncomputable def cmp1 (op : CmpOp) : D → D → Option Bool
  | .int a, e => (asInt e).bind fun b => ltIf op (decide (a < b)) (decide (a > b))
  | .str x, e => (asStr e).bind fun y => ltIf op (decide (x.cps.toList < y.cps.toList)) (decide (y.cps.toList < x.cps.toList))
  | _, _ => none
noncomputable def lexEnd (op : CmpOp) (m n : Nat) : Option Bool := ltIf op (decide (m < n)) (decide (m > n))
noncomputable def lexL (op : CmpOp) : List D → List D → Option Bool
  | [], ys => lexEnd op 0 ys.length
  | x :: xs, ys => match ys with
    | [] => lexEnd op (xs.length + 1) 0
    | y :: ys => if x.eqv y then lexL op xs ys else cmp1 op x y

noncomputable def deep : Nat := 4

noncomputable def okk (d e : D) : Bool := D.ok deep d && D.ok deep e
noncomputable def eqD : D → D → Option Bool
  | .int a, e => (asInt e).map (a == ·)
  | .str a, e => (asStr e).map (a == ·)
  | .bool a, e => (asBool e).map (a == ·)
  | _, _ => none
noncomputable def lexD (op : CmpOp) : D → D → Option Bool
  | .list a, e => (asList e).bind fun b => if okk (.list a) (.list b) then lexL op a b else none
  | .int a, e => cmp1 op (.int a) e
  | .str a, e => cmp1 op (.str a) e
  | _, _ => none
noncomputable def cmpD (op : CmpOp) (d e : D) : Option Bool := match op with
  | .Eq => eqD d e
  | .NotEq => (eqD d e).map (!·)
  | .Lt => lexD .Lt d e
  | .Gt => lexD .Gt d e
  | _ => none

section
variable {A : Around} {s : Shared} {W : List Addr}

theorem rcOp_rep {op : CmpOp} {d e : D} {v u : Value} {b : Bool} (h : cmp1 op d e = some b) (x : Rep (off W s.heap) d v) (y : Rep (off W s.heap) e u) : RcOp op A s v u b := by
  refine (show Ret (cmp1 op d e) (RcOp op A s v u) from ?_) b h
  cases d with
  | int a =>
    refine .bind fun c hc => ?_
    cases asInt_eq c hc
    obtain ⟨t, rfl⟩ := x; obtain ⟨t', rfl⟩ := y
    cases op with
    | Lt => exact .some fun prog w E Q hq => P.lt_int hq
    | Gt => exact .some fun prog w E Q hq => P.gt_int hq
    | _ => exact .none
  | str a =>
    refine .bind fun c hc => ?_
    cases asStr_eq c hc
    obtain ⟨t, rfl⟩ := x; obtain ⟨t', rfl⟩ := y
    cases op with
    | Lt => exact .some fun prog w E Q hq => P.lt_str hq
    | Gt => exact .some fun prog w E Q hq => P.gt_str hq
    | _ => exact .none
  | _ => exact .none

theorem lexEnd_succ {op : CmpOp} {m n : Nat} : lexEnd op (m + 1) (n + 1) = lexEnd op m n := by
  unfold lexEnd
  simp only [Nat.add_lt_add_iff_right, gt_iff_lt]
theorem deep_room {d e : D} {A : Around} (hd : d.depth ≤ deep) (he : e.depth ≤ deep) (hu : A.units + 64 < cLine) : A.in1.units + min d.depth e.depth < cLine := by
  show A.units + 1 + _ < _
  unfold deep at hd
  omega
theorem eqAt_oks {xs ys : List D} {vs us : List Value} (hd : D.ok deep (.list xs) = true) (he : D.ok deep (.list ys) = true) (q : Reps (off W s.heap) xs vs) (q' : Reps (off W s.heap) ys us) (hu : A.units + 64 < cLine) :
    ∀ j (h1 : j < vs.length) (h2 : j < us.length), EqAt A.in1 s vs[j] us[j] (pairEqD xs ys j) := by
  have ok1 := D.ok_plain _ _ hd
  have ok2 := D.ok_plain _ _ he
  exact eqAt_reps xs ys A.in1 s vs us ok1.1 ok2.1 q q' (Nat.lt_of_le_of_lt (Nat.add_le_add_left (Nat.le_min.mpr ⟨Nat.le_trans (Nat.min_le_left _ _) (Nat.le_succ _), Nat.le_trans (Nat.min_le_right _ _) (Nat.le_succ _)⟩) _) (deep_room ok1.2 ok2.2 hu))
theorem lexL_parts (op : CmpOp) : ∀ (xs ys : List D), Ret (lexL op xs ys) fun r => ∃ p, p ≤ min xs.length ys.length ∧ (∀ j, j < p → pairEqD xs ys j = true) ∧
      ((p = min xs.length ys.length ∧ lexEnd op xs.length ys.length = some r) ∨ (∃ x y, xs[p]? = some x ∧ ys[p]? = some y ∧ pairEqD xs ys p = false ∧ cmp1 op x y = some r))
  | [], ys => fun r h => ⟨0, Nat.zero_le _, fun _ hj => absurd hj (Nat.not_lt_zero _), .inl ⟨(Nat.zero_min _).symm, h⟩⟩
  | x :: xs, [] => fun r h => ⟨0, Nat.zero_le _, fun _ hj => absurd hj (Nat.not_lt_zero _), .inl ⟨(Nat.min_zero _).symm, h⟩⟩
  | x :: xs, y :: ys => .fork (fun hxy r h => by
      obtain ⟨p, hp, he, hc⟩ := lexL_parts op xs ys r h
      rw [List.length_cons, List.length_cons, Nat.succ_min_succ, lexEnd_succ]
      refine ⟨p + 1, Nat.succ_le_succ hp, fun j hj => ?_, hc.imp (fun h => ⟨congrArg (· + 1) h.1, h.2⟩) fun h => h⟩
      cases j with
      | zero => exact hxy
      | succ j => exact he j (Nat.lt_of_succ_lt_succ hj)) fun hxy r h => ⟨0, Nat.zero_le _, fun _ hj => absurd hj (Nat.not_lt_zero _), .inr ⟨x, y, rfl, rfl, not_f hxy, h⟩⟩

theorem rcLex_rep {op : CmpOp} {xs ys : List D} {v u : Value} {r : Bool} (ho : op = .Lt ∨ op = .Gt) (hd : D.ok deep (.list xs) = true) (he : D.ok deep (.list ys) = true) (h : lexL op xs ys = some r)
    (x : Rep (off W s.heap) (.list xs) v) (y : Rep (off W s.heap) (.list ys) u) (hu : A.units + 64 < cLine) : RcOp op A s v u r := by
  obtain ⟨a, vs, rfl, k, q⟩ := x
  obtain ⟨b, us, rfl, k', q'⟩ := y
  obtain ⟨p, hp, heq, hc⟩ := lexL_parts op xs ys r h
  rw [← q.length, ← q'.length] at hp hc
  have all := eqAt_oks hd he q q' hu
  have eqs : ∀ j (h1 : j < vs.length) (h2 : j < us.length), j < p → EqAt A.in1 s vs[j] us[j] true := fun j h1 h2 hj => heq j hj ▸ all j h1 h2
  have fin : (p = min vs.length us.length ∧ lexEnd op vs.length us.length = some r) ∨ (∃ (h1 : p < vs.length) (h2 : p < us.length), EqAt A.in1 s vs[p] us[p] false ∧ RcOp op A.in1 s vs[p] us[p] r) := hc.imp_right fun ⟨d, e, h1, h2, h3, h4⟩ => by
    obtain ⟨v1, e1, r1⟩ := q.at h1
    obtain ⟨u1, e2, r2⟩ := q'.at h2
    obtain ⟨g1, rfl⟩ := List.getElem?_eq_some_iff.mp e1
    obtain ⟨g2, rfl⟩ := List.getElem?_eq_some_iff.mp e2
    exact ⟨g1, g2, h3 ▸ all p g1 g2, rcOp_rep h4 r1 r2⟩
  have hu' : A.units < cLine := Nat.lt_of_le_of_lt (Nat.le_add_right _ _) hu
  rcases ho with rfl | rfl
  · exact rc_lt_lists p k.list k'.list hp hu' eqs (fin.imp_left fun h => ⟨h.1, (Option.some.inj h.2).symm⟩)
  · exact rc_gt_lists p k.list k'.list hp hu' eqs (fin.imp_left fun h => ⟨h.1, (Option.some.inj h.2).symm⟩)
end

section
variable {prog : Program} {w : World} {A : Around} {E : Value → Shared → Prop} {s : Shared} {W : List Addr}

theorem eqMembers {d : D} {l : List D} {v : Value} {vs : List Value} (hd : D.ok deep d = true) (hl : l.all (D.ok 3) = true) (x : Rep (off W s.heap) d v) (q : Reps (off W s.heap) l vs) (hu : A.units + 64 < cLine) :
    ∃ f : Value → Bool, (∀ y, y ∈ vs.toArray → EqAt A.in1 s y v (f y)) ∧ vs.toArray.any f = l.any fun y => y.eqv d := by
  have okd := D.ok_plain _ _ hd
  classical
  let f : Value → Bool := fun y => if hx : ∃ e : D, e.plain = true ∧ Rep (off W s.heap) e y then hx.choose.eqv d else false
  have val : ∀ (e : D) (y : Value), e.plain = true → Rep (off W s.heap) e y → f y = e.eqv d := fun e y he hy => by
    have hx : ∃ e : D, e.plain = true ∧ Rep (off W s.heap) e y := ⟨e, he, hy⟩
    have hc := hx.choose_spec
    rw [← Rep.unique _ _ y hc.1 he hc.2 hy]
    exact dif_pos hx
  have key : ∀ (l : List D) (vs : List Value), l.all (D.ok 3) = true → Reps (off W s.heap) l vs → (∀ y ∈ vs, EqAt A.in1 s y v (f y)) ∧ vs.any f = l.any fun y => y.eqv d := by
    intro l
    induction l with
    | nil => intro vs _ h; cases h; exact ⟨(fun _ h => nomatch h), rfl⟩
    | cons e r ih =>
      intro vs hl h
      obtain ⟨u, us, rfl, h1, h2⟩ := h
      have hl := and_t (List.all_cons ▸ hl)
      have ok1 := D.ok_plain _ _ hl.1
      obtain ⟨i1, i2⟩ := ih us hl.2 h2
      refine ⟨fun y hy => ?_, by rw [List.any_cons, List.any_cons, i2, val e u ok1.1 h1]⟩
      rcases List.mem_cons.mp hy with rfl | hy
      · rw [val e y ok1.1 h1]
        exact eqAt_rep e d A.in1 s y v ok1.1 okd.1 h1 x (deep_room (Nat.le_succ_of_le ok1.2) okd.2 hu)
      · exact i1 y hy
  obtain ⟨k1, k2⟩ := key l vs hl q
  exact ⟨f, fun y hy => k1 y (List.mem_toArray.mp hy), (List.any_toArray).trans k2⟩

noncomputable def CmpIs (A : Around) (s : Shared) (op : CmpOp) (v u : Value) (b : Bool) : Prop := ∀ (prog : Program) (w : World) (E Q : Value → Shared → Prop), Q (.bool b) s → wpAny (model prog w) A (compareOp op v u) Q E s
theorem eq_ok {d e : D} {v u : Value} (x : Rep (off W s.heap) d v) (y : Rep (off W s.heap) e u) (hu : A.units + 64 < cLine) : Ret (eqD d e) fun b => CmpIs A s .Eq v u b ∧ CmpIs A s .NotEq v u (!b) := by
  cases d with
  | int a =>
    refine .map fun c hc => ?_
    cases asInt_eq c hc
    obtain ⟨t, rfl⟩ := x; obtain ⟨t', rfl⟩ := y
    exact ⟨fun prog w E Q hq => P.eq_int hq, RcNeAt.int_int _ _ _ _⟩
  | str a =>
    refine .map fun c hc => ?_
    cases asStr_eq c hc
    obtain ⟨t, rfl⟩ := x; obtain ⟨t', rfl⟩ := y
    exact ⟨RcAt.str_str _ _ _ _, RcNeAt.str_str _ _ _ _⟩
  | bool a =>
    refine .map fun c hc => ?_
    cases asBool_eq c hc
    cases x; cases y
    exact ⟨RcAt.bool_bool _ _, RcNeAt.bool_bool _ _⟩
  | _ => exact .none
theorem lex_ok {op : CmpOp} (ho : op = .Lt ∨ op = .Gt) {d e : D} {v u : Value} (x : Rep (off W s.heap) d v) (y : Rep (off W s.heap) e u) (hu : A.units + 64 < cLine) : Ret (lexD op d e) (RcOp op A s v u) := by
  have one : Ret (cmp1 op d e) (RcOp op A s v u) := fun b h => rcOp_rep h x y
  cases d with
  | int a => exact one
  | str a => exact one
  | list a =>
    refine .bind fun c hc => .ite fun hk b h => ?_
    cases asList_eq c hc
    exact rcLex_rep ho (and_t hk).1 (and_t hk).2 h x y hu
  | _ => exact .none
theorem cmp_ok {op : CmpOp} {d e : D} {v u : Value} {b : Bool} {Q : Value → Shared → Prop} (h : cmpD op d e = some b) (x : Rep (off W s.heap) d v) (y : Rep (off W s.heap) e u) (hu : A.units + 64 < cLine)
    (hq : Q (.bool b) s) : wpAny (model prog w) A (compareOp op v u) Q E s := by
  refine (show Ret (cmpD op d e) (CmpIs A s op v u) from ?_) b h prog w E Q hq
  cases op with
  | Eq => exact fun b h => (eq_ok x y hu b h).1
  | NotEq => exact .map fun b h => (eq_ok x y hu b h).2
  | Lt => exact lex_ok (.inl rfl) x y hu
  | Gt => exact lex_ok (.inr rfl) x y hu
  | _ => exact .none
end
end Mine
end
section
namespace Mine

structure Base where
  prog : Program
  w : World
  h₀ : Heap

noncomputable def fr (A : Around) : List Addr := (A.frames.getD []).filterMap (·.frame)

noncomputable def Post (A : Around) (s s' : Shared) : Prop := ∃ h' tk, s' = { s with heap := h', toks := tk } ∧
  (∀ b o, b ∉ fr A → s.heap.get? b = some o → h'.get? b = some o) ∧ (∀ b o, s.heap.get? b = some o → ∃ sl, h'.get? b = some { o with slots := sl })

theorem Post.refl (A : Around) (s : Shared) : Post A s s := ⟨s.heap, s.toks, rfl, fun _ _ _ e => e, fun _ o e => ⟨o.slots, e⟩⟩
theorem Post.trans {A : Around} {s s' s'' : Shared} (x : Post A s s') (y : Post A s' s'') : Post A s s'' := by
  obtain ⟨h1, t1, rfl, a1, b1⟩ := x
  obtain ⟨h2, t2, rfl, a2, b2⟩ := y
  exact ⟨h2, t2, rfl, fun b o n e => a2 b o n (a1 b o n e), fun b o e => let ⟨sl, e1⟩ := b1 b o e; let ⟨sl', e2⟩ := b2 b _ e1; ⟨sl', e2⟩⟩
theorem Post.of_keeps {A : Around} {s : Shared} {h' : Heap} {tk : Nat} (k : ∀ b o, s.heap.get? b = some o → h'.get? b = some o) : Post A s { s with heap := h', toks := tk } :=
  ⟨h', tk, rfl, fun b o _ e => k b o e, fun b o e => ⟨o.slots, k b o e⟩⟩
theorem Post.tok (A : Around) (s : Shared) (tk : Nat) : Post A s { s with toks := tk } := Post.of_keeps fun _ _ e => e
theorem Post.push (A : Around) (s : Shared) (o : Obj) (tk : Nat) : Post A s { s with heap := s.heap.push o, toks := tk } := Post.of_keeps fun _ _ e => Heap.get?_push_of_some _ e
theorem Post.here {A : Around} {s s' : Shared} (x : Post A s s') {b : Addr} {o : Obj} (n : b ∉ fr A) (e : s.heap.get? b = some o) : s'.heap.get? b = some o := by
  obtain ⟨h1, t1, rfl, a1, _⟩ := x; exact a1 b o n e
theorem Post.slots {A : Around} {s s' : Shared} (x : Post A s s') {b : Addr} {o : Obj} (e : s.heap.get? b = some o) : ∃ sl, s'.heap.get? b = some { o with slots := sl } := by
  obtain ⟨h1, t1, rfl, _, b1⟩ := x; exact b1 b o e
theorem Post.view {A : Around} {s s' : Shared} {W : List Addr} (x : Post A s s') (hw : ∀ a ∈ fr A, a ∈ W) : (off W s.heap).le (off W s'.heap) :=
  off_keeps fun b _ hb e => x.here (fun h => hb (hw b h)) e

noncomputable def FrOk (h : Heap) (l : List Env) : Prop := ∀ env ∈ l, env.scope.kind ≠ .module ∧ ∃ L o, env.frame = some L ∧ h.get? L = some o ∧ ∀ vs, o.data ≠ .fields vs

structure Ok (b : Base) (A : Around) (W : List Addr) (k : Nat) (s : Shared) : Prop where
  handled : A.handled = none
  depth : A.depth + k < 900
  units : A.units + 4 * k + 100 < 8000
  frames : ∃ outer, A.frames = some outer ∧ FrOk s.heap outer
  sub : ∀ a ∈ fr A, a ∈ W
  low : ∀ a ∈ W, b.h₀.get? a = none
  live : ∀ a ∈ W, ∃ o, s.heap.get? a = some o
  inv : b.h₀.StaysIn s.heap

section
variable {b : Base} {A : Around} {W : List Addr} {k : Nat} {s s' : Shared}
theorem Ok.post (x : Ok b A W k s) (p : Post A s s') : Ok b A W k s' where
  handled := x.handled
  depth := x.depth
  units := x.units
  frames := by
    obtain ⟨outer, e, f⟩ := x.frames
    refine ⟨outer, e, fun env he => ?_⟩
    obtain ⟨hk, L, o, h1, h2, h3⟩ := f env he
    obtain ⟨sl, h4⟩ := p.slots h2
    exact ⟨hk, L, _, h1, h4, h3⟩
  sub := x.sub
  low := x.low
  live := fun a ha => by
    obtain ⟨o, e⟩ := x.live a ha
    obtain ⟨sl, e'⟩ := p.slots e
    exact ⟨_, e'⟩
  inv := fun a o e => p.here (fun h => by have := x.low a (x.sub a h); rw [e] at this; cases this) (x.inv a o e)
theorem Ok.room (x : Ok b A W k s) {u : Nat} (hu : u ≤ A.units + 4 * k + 64) : u < cLine := by
  have := x.units
  have hc : 8000 < cLine := by decide
  omega
theorem Ok.units65 (x : Ok b A W k s) : A.units + 65 < cLine := by
  have := x.units
  have hc : 8000 < cLine := by decide
  omega
theorem Ok.units' (x : Ok b A W k s) : A.units + 64 < cLine := x.room (by omega)
theorem Ok.limit (x : Ok b A W k s) : A.depth < recursionLimit := by
  have := x.depth
  have hc : 900 < recursionLimit := by decide
  omega
theorem Ok.fresh (x : Ok b A W k s) : s.heap.objs.size ∉ W := fun h => by
  obtain ⟨o, e⟩ := x.live _ h
  exact Nat.lt_irrefl _ (Heap.lt_size e)
theorem Ok.dead (x : Ok b A W k s) {a : Nat} (ha : s.heap.objs.size ≤ a) : (a : Addr) ∉ W := fun h => by
  obtain ⟨o, e⟩ := x.live _ h
  exact Nat.lt_irrefl _ (Nat.lt_of_lt_of_le (Heap.lt_size e) ha)
theorem Ok.less (x : Ok b A W k s) {j : Nat} (h : j ≤ k) : Ok b A W j s := ⟨x.handled, by have := x.depth; omega, by have := x.units; omega, x.frames, x.sub, x.low, x.live, x.inv⟩
theorem Ok.more (x : Ok b A W k s) {W' : List Addr} (h1 : ∀ a ∈ W, a ∈ W') (h2 : ∀ a ∈ W', a ∈ W ∨ (b.h₀.get? a = none ∧ ∃ o, s.heap.get? a = some o)) : Ok b A W' k s where
  handled := x.handled
  depth := x.depth
  units := x.units
  frames := x.frames
  sub := fun a ha => h1 a (x.sub a ha)
  low := fun a ha => (h2 a ha).elim (x.low a) (·.1)
  live := fun a ha => (h2 a ha).elim (x.live a) (·.2)
  inv := x.inv
theorem Ok.none_of_size (x : Ok b A W k s) {a : Addr} (h : s.heap.objs.size ≤ a) : b.h₀.get? a = none := by
  cases e : b.h₀.get? a with
  | none => rfl
  | some o => exact absurd (Heap.lt_size (x.inv a o e)) (Nat.not_lt.mpr h)
end

theorem fr_deeper (A : Around) (env : Env) {outer : List Env} (h : A.frames = some outer) : fr (A.deeper env) = (env.frame.toList) ++ fr A := by
  unfold fr Around.deeper
  rw [h]
  cases hf : env.frame <;> simp [hf]

noncomputable def CallOk (b : Base) (f : Value) (k : Nat) (F : List D → Option D) : Prop :=
  ∀ (A : Around) (W : List Addr) (s : Shared) (ds : List D) (vs : List Value) (d : D) (E : Value → Shared → Prop) (Q : Value → Shared → Prop), F ds = some d → Ok b A W k s → Reps (off W s.heap) ds vs →
    (∀ v s', Post A s s' → Rep (off W s'.heap) d v → Q v s') → wpAny (model b.prog b.w) A (call f vs) Q E s

theorem CallOk.up {b : Base} {f : Value} {k k' : Nat} {F : List D → Option D} (x : CallOk b f k F) (h : k ≤ k') : CallOk b f k' F :=
  fun A W s ds vs d E Q hF ok => x A W s ds vs d E Q hF (ok.less h)

theorem InE.post {env : Env} {m cm : Str → Option Value} {A : Around} {s s' : Shared} (x : InE env m cm s.heap) (p : Post A s s') : InE env m cm s'.heap where
  ns := by
    obtain ⟨o, es, ep, e, r⟩ := x.ns
    obtain ⟨sl, e'⟩ := p.slots e
    exact ⟨_, es, ep, e', r⟩
  cell := fun n c hc => by
    obtain ⟨o, e, d⟩ := x.cell n c hc
    obtain ⟨sl, e'⟩ := p.slots e
    exact ⟨_, e', d⟩
  apart := x.apart
end Mine
end
section
namespace Mine

noncomputable def small (i : Int) : Bool := decide (i.natAbs < 2 ^ 64)
theorem small_bits {i : Int} (h : small i = true) : Builtin.Int.intBits i ≤ 64 := by
  unfold small at h
  have := of_decide_eq_true h
  exact intBits_le_64 (by omega) (by omega)
theorem small_long {a b : Int} (h : small b = true) : Builtin.divisionGoesByPylong a b = false := by
  have hb := of_decide_eq_true (show decide (b.natAbs < 2 ^ 64) = true from h)
  unfold Builtin.divisionGoesByPylong
  have : (if b == 0 then 0 else b.natAbs.log2 / 30 + 1) ≤ 300 := by
    split
    · omega
    · have : b.natAbs.log2 < 64 := by
        rcases Nat.eq_zero_or_pos b.natAbs with h0 | hp
        · rw [h0]; decide
        · exact (Nat.log2_lt (Nat.ne_of_gt hp)).mpr hb
      omega
  simp only [Bool.and_eq_false_imp, decide_eq_true_eq]
  intro h; omega

noncomputable def room : Nat := 65536
theorem room_line {n : Nat} (h : n ≤ 2 * room) : n ≤ sizeLine := by rw [sizeLine_eq]; unfold room at h; omega

theorem room63 {n : Nat} (h : n ≤ room) : (n : Int) < 2 ^ 63 := by unfold room at h; omega
noncomputable def addD : D → D → Option D
  | .int a, e => (asInt e).map fun b => .int (a + b)
  | .str x, e => (asStr e).bind fun y => if x.length + y.length ≤ room then some (.str (x ++ y)) else none
  | .list x, e => (asList e).bind fun y => if x.length + y.length ≤ room then some (.list (x ++ y)) else none
  | _, _ => none
noncomputable def mulD : D → D → Option D
  | .int a, e => (asInt e).bind fun b => if small a || small b then some (.int (a * b)) else none
  | .str x, e => (asInt e).bind fun n => if 0 ≤ n ∧ n ≤ 65536 ∧ x.length ≤ 1 then some (.str (Txt.mul x n)) else none
  | _, _ => none
noncomputable def intsD (op : Operator) (a b : Int) : Option D := match op with
  | .Sub => some (.int (a - b))
  | .FloorDiv => if b ≠ 0 ∧ small b = true then some (.int (a.fdiv b)) else none
  | .Mod => if b ≠ 0 then some (.int (a.fmod b)) else none
  | .Pow => if 0 ≤ a ∧ small a = true ∧ 0 ≤ b ∧ b ≤ 65536 then some (.int (a ^ b.toNat)) else none
  | .BitAnd => some (.int (Builtin.bitAnd a b))
  | _ => none
noncomputable def binD (op : Operator) (d e : D) : Option D := match op with
  | .Add => addD d e
  | .Mult => mulD d e
  | op => (asInt d).bind fun a => (asInt e).bind fun b => intsD op a b

section
variable {prog : Program} {w : World} {A : Around} {E : Value → Shared → Prop} {s : Shared} {W : List Addr}

theorem pow_ok {a b : Int} {t u : Tok} {Q : Value → Shared → Prop} (h0 : 0 ≤ a) (hs : small a = true) (hb : 0 ≤ b) (hb2 : b ≤ 65536) (hq : Q (.int (a ^ b.toNat) s.toks) { s with toks := s.toks + 1 }) :
    wpAny (model prog w) A (binaryOp .Pow (.int a t) (.int b u)) Q E s := by
  by_cases hz : b = 0
  · subst hz; exact AutoIntOps.pow_0 (by omega) rfl (by have e : a ^ Int.toNat 0 = 1 := Int.pow_zero a; rw [e] at hq; exact hq)
  · have hz' : ¬(b == 0) = true := by simpa using hz
    by_cases h1 : (a == 0 || a == 1) = true
    · refine AutoIntOps.pow_1 hb hz' h1 ?_
      have : a ^ b.toNat = a := by
        have hp : b.toNat ≠ 0 := by omega
        simp only [Bool.or_eq_true, beq_iff_eq] at h1
        rcases h1 with rfl | rfl
        · exact Int.zero_pow hp
        · exact Int.one_pow
      rw [this] at hq
      exact hq
    · refine AutoIntOps.pow_4 hb hz' h1 (by simp; omega) ?_ hq
      have hbits := small_bits hs
      unfold Builtin.Int.intTooBig bitsLine
      simp only [decide_eq_true_eq, Int.not_lt, gt_iff_lt]
      have : ((Builtin.Int.intBits a : Nat) : Int) * b ≤ 64 * 65536 := Int.mul_le_mul (by omega) hb2 hb (by omega)
      exact Int.le_trans this (by decide)

theorem mul_small {x : Str} {n : Int} (h0 : 0 ≤ n) (h1 : n ≤ 65536) (h2 : x.length ≤ 1) : MulOk x n := by
  refine ⟨?_, fun hn _ => ?_, fun hn _ => ?_⟩
  · simp only [Bool.or_eq_false_iff, decide_eq_false_iff_not]; omega
  · have : 1 ≤ ((2 : Int) ^ 63 - 1) / n := by
      rw [Int.le_ediv_iff_mul_le (by omega)]
      omega
    omega
  · unfold Builtin.Str.tooLong
    rw [sizeLine_eq]
    have : x.length * n.toNat ≤ 1 * 65536 := Nat.mul_le_mul h2 (by omega)
    simp only [decide_eq_false_iff_not]
    omega

noncomputable def OpIs (A : Around) (W : List Addr) (s : Shared) (run : Value → Value → Sem Value) (v u : Value) (r : D) : Prop :=
  ∀ (prog : Program) (w : World) (E Q : Value → Shared → Prop), (∀ v' s', Post A s s' → Rep (off W s'.heap) r v' → Q v' s') → wpAny (model prog w) A (run v u) Q E s
theorem OpIs.int {run : Value → Value → Sem Value} {v u : Value} {i : Int} (h : ∀ (prog : Program) (w : World) (E Q : Value → Shared → Prop), (∀ t n, Q (.int i t) { s with toks := n }) → wpAny (model prog w) A (run v u) Q E s) : OpIs A W s run v u (.int i) :=
  fun prog w E Q hq => h prog w E Q fun t n => hq _ _ (Post.tok A s n) ⟨t, rfl⟩
theorem OpIs.str {run : Value → Value → Sem Value} {v u : Value} {i : Str} (h : ∀ (prog : Program) (w : World) (E Q : Value → Shared → Prop), (∀ t n, Q (.str i t) { s with toks := n }) → wpAny (model prog w) A (run v u) Q E s) : OpIs A W s run v u (.str i) :=
  fun prog w E Q hq => h prog w E Q fun t n => hq _ _ (Post.tok A s n) ⟨t, rfl⟩
theorem add_lists {b : Base} {k : Nat} {x y : List D} {v u : Value} (ok : Ok b A W k s) (h : x.length + y.length ≤ room) (rx : Rep (off W s.heap) (.list x) v) (ry : Rep (off W s.heap) (.list y) u) : OpIs A W s (binaryOp .Add) v u (.list (x ++ y)) := fun prog w E Q hq => by
  obtain @⟨l, vs, k1, q1⟩ := Rep.lv rx
  obtain @⟨l2, us, k2, q2⟩ := Rep.lv ry
  obtain ⟨⟨cls, dd, data, sl⟩, ho, hc, n, hd⟩ := id k1.list
  obtain ⟨⟨cls2, dd2, data2, sl2⟩, ho2, hc2, n2, hd2⟩ := id k2.list
  cases hc; cases hd; cases hc2; cases hd2
  rw [← q1.length, ← q2.length] at h
  refine concat_meets ⟨_, ho, rfl⟩ ⟨_, ho2, rfl⟩ noFill_list_add seq_list_add PySem.F.slot_list_add PySem.F.entry_list_add (PySem.F.args_list_add_2 _ _) (list_addW l l2 vs.toArray us.toArray _ _ dd dd2 sl sl2 (room_line (Nat.le_trans h (Nat.le_mul_of_pos_left _ (by decide))))) ⟨ho, ho2, ?_⟩
  have p := Post.push A s { cls := .type "list", data := .seq (vs.toArray ++ us.toArray) } s.toks
  exact hq _ _ p ⟨s.heap.objs.size, vs ++ us, rfl, ⟨_, _, off_some.mpr ⟨ok.fresh, Heap.get?_push_size _ rfl⟩, rfl, by rw [List.append_toArray], rfl⟩, (q1.mono (p.view ok.sub)).append (q2.mono (p.view ok.sub))⟩
theorem add_ok {b : Base} {k : Nat} {d e : D} {v u : Value} (ok : Ok b A W k s) (x : Rep (off W s.heap) d v) (y : Rep (off W s.heap) e u) : Ret (addD d e) (OpIs A W s (binaryOp .Add) v u) := by
  cases d with
  | int a =>
    refine .map fun c hc => ?_
    cases asInt_eq c hc
    obtain ⟨t, rfl⟩ := x; obtain ⟨t', rfl⟩ := y
    exact .int fun prog w E Q hq => P.add_int (hq _ _)
  | str a =>
    refine .bind fun c hc => .ite fun hl => .some ?_
    cases asStr_eq c hc
    obtain ⟨t, rfl⟩ := x; obtain ⟨t', rfl⟩ := y
    exact .str fun prog w E Q hq => PySem.SB.add hq (room_line (Nat.le_trans hl (Nat.le_mul_of_pos_left _ (by decide))))
  | list a =>
    refine .bind fun c hc => .ite fun hl => .some ?_
    cases asList_eq c hc
    exact add_lists ok hl x y
  | _ => exact .none
theorem mul_ok {d e : D} {v u : Value} (x : Rep (off W s.heap) d v) (y : Rep (off W s.heap) e u) : Ret (mulD d e) (OpIs A W s (binaryOp .Mult) v u) := by
  cases d with
  | int a =>
    refine .bind fun c hc => .ite fun hl => .some ?_
    cases asInt_eq c hc
    obtain ⟨t, rfl⟩ := x; obtain ⟨t', rfl⟩ := y
    exact .int fun prog w E Q hq => P.mul_int (hq _ _) ((Bool.or_eq_true _ _ ▸ hl).elim (fun h => .of_left (small_bits h)) fun h => .of_right (small_bits h))
  | str a =>
    refine .bind fun c hc => .ite fun hl => .some ?_
    cases asInt_eq c hc
    obtain ⟨t, rfl⟩ := x; obtain ⟨t', rfl⟩ := y
    exact .str fun prog w E Q hq => PySem.SB.mul (mul_small hl.1 hl.2.1 hl.2.2) hq
  | _ => exact .none
theorem ints_ok {op : Operator} {a b : Int} {t t' : Tok} : Ret (intsD op a b) (OpIs A W s (binaryOp op) (.int a t) (.int b t')) := by
  cases op with
  | Sub => exact .some (.int fun prog w E Q hq => P.sub_int (hq _ _))
  | FloorDiv => exact .ite fun hl => .some (.int fun prog w E Q hq => AutoIntOps.floordiv_1 (by simpa using hl.1) (by rw [small_long hl.2]; simp) (hq _ _))
  | Mod => exact .ite fun hl => .some (.int fun prog w E Q hq => PyProof.Rows.mod_int' hl (hq _ _))
  | Pow => exact .ite fun hl => .some (.int fun prog w E Q hq => pow_ok hl.1 hl.2.1 hl.2.2.1 hl.2.2.2 (hq _ _))
  | BitAnd => exact .some (.int fun prog w E Q hq => PyProof.Rows.and_int (hq _ _))
  | _ => exact .none
theorem bin_ok {b : Base} {k : Nat} {op : Operator} {d e r : D} {v u : Value} {Q : Value → Shared → Prop} (h : binD op d e = some r) (ok : Ok b A W k s) (x : Rep (off W s.heap) d v) (y : Rep (off W s.heap) e u)
    (hq : ∀ v' s', Post A s s' → Rep (off W s'.heap) r v' → Q v' s') : wpAny (model prog w) A (binaryOp op v u) Q E s := by
  have int : ∀ op, Ret ((asInt d).bind fun a => (asInt e).bind fun b => intsD op a b) (OpIs A W s (binaryOp op) v u) := fun op => .bind fun a ha => .bind fun c hc => by
    cases asInt_eq a ha; cases asInt_eq c hc
    obtain ⟨t, rfl⟩ := x; obtain ⟨t', rfl⟩ := y
    exact ints_ok
  refine (show Ret (binD op d e) (OpIs A W s (binaryOp op) v u) from ?_) r h prog w E Q hq
  cases op with
  | Add => exact add_ok ok x y
  | Mult => exact mul_ok x y
  | _ => exact int _

noncomputable def inD (op : Operator) (d e : D) : Option D := match op with
  | .Add => match d with
    | .int a => (asInt e).map fun b => .int (a + b)
    | .str x => (asStr e).bind fun y => if x.length + y.length ≤ room then some (.str (x ++ y)) else none
    | _ => none
  | .Mult => match d with
    | .int a => (asInt e).bind fun b => if small a || small b then some (.int (a * b)) else none
    | _ => none
  | _ => none
theorem in_ok {op : Operator} {d e r : D} {v u : Value} {Q : Value → Shared → Prop} (h : inD op d e = some r) (x : Rep (off W s.heap) d v) (y : Rep (off W s.heap) e u)
    (hq : ∀ v' s', Post A s s' → Rep (off W s'.heap) r v' → Q v' s') : wpAny (model prog w) A (inplaceOp op v u) Q E s := by
  refine (show Ret (inD op d e) (OpIs A W s (inplaceOp op) v u) from ?_) r h prog w E Q hq
  cases op with
  | Add =>
    cases d with
    | int a =>
      refine .map fun c hc => ?_
      cases asInt_eq c hc
      obtain ⟨t, rfl⟩ := x; obtain ⟨t', rfl⟩ := y
      exact .int fun prog w E Q hq => P.iadd_int (hq _ _)
    | str a =>
      refine .bind fun c hc => .ite fun hl => .some ?_
      cases asStr_eq c hc
      obtain ⟨t, rfl⟩ := x; obtain ⟨t', rfl⟩ := y
      exact .str fun prog w E Q hq => PySem.SB.iadd hq (room_line (Nat.le_trans hl (Nat.le_mul_of_pos_left _ (by decide))))
    | _ => exact .none
  | Mult =>
    cases d with
    | int a =>
      refine .bind fun c hc => .ite fun hl => .some ?_
      cases asInt_eq c hc
      obtain ⟨t, rfl⟩ := x; obtain ⟨t', rfl⟩ := y
      exact .int fun prog w E Q hq => P.imul_int (hq _ _) ((Bool.or_eq_true _ _ ▸ hl).elim (fun h => .of_left (small_bits h)) fun h => .of_right (small_bits h))
    | _ => exact .none
  | _ => exact .none

noncomputable def truthD : D → Option Bool
  | .none => some false
  | .bool b => some b
  | .int i => some (i != 0)
  | .str x => if x.length ≤ room then some ((x.length : Int) != 0) else none
  | .list l => if l.length ≤ room then some (!l.isEmpty) else none
  | .tup l => if l.length ≤ room then some (!l.isEmpty) else none
  | _ => none
theorem isEmpty_of {l : List D} {g : View} {vs : List Value} (q : Reps g l vs) : vs.toArray.isEmpty = l.isEmpty := by
  have n := q.length
  cases vs <;> cases l <;> first | rfl | cases n
theorem truth_ok {d : D} {b : Bool} {v : Value} {Q : Bool → Shared → Prop} (h : truthD d = some b) (x : Rep (off W s.heap) d v) (hq : ∀ n, Q b { s with toks := n }) : wpAny (model prog w) A (truthy v) Q E s := by
  refine (show Ret (truthD d) (fun b => ∀ Q : Bool → Shared → Prop, (∀ n, Q b { s with toks := n }) → wpAny (model prog w) A (truthy v) Q E s) from ?_) b h Q hq
  cases d with
  | none => cases x; exact .some fun Q hq => truthy_none (hq s.toks)
  | bool _ => cases x; exact .some fun Q hq => wpAny_truthy_bool (hq s.toks)
  | int _ => obtain ⟨t, rfl⟩ := x; exact .some fun Q hq => P.truthy_int (hq s.toks)
  | str _ => obtain ⟨t, rfl⟩ := x; exact .ite fun hl => .some fun Q hq => PySem.P.truthy_str (Int.not_le.mpr (room63 hl)) (hq _)
  | list l =>
    refine .ite fun hl => .some fun Q hq => ?_
    obtain @⟨a, vs, k1, q1⟩ := Rep.lv x
    rw [← isEmpty_of q1] at hq
    rw [← q1.length] at hl
    exact wpAny_truthy_list k1.list (room63 hl) (hq _)
  | tup l =>
    refine .ite fun hl => .some fun Q hq => ?_
    obtain @⟨a, vs, k1, q1⟩ := Rep.tv x
    rw [← isEmpty_of q1] at hq
    rw [← q1.length] at hl
    exact truthy_tuple k1.tuple (room63 hl) (hq _)
  | _ => exact .none

noncomputable def unD (op : UnaryOp) (d : D) : Option D := match op with
  | .Not => (truthD d).map fun b => .bool (!b)
  | .USub => (asInt d).map fun i => .int (-i)
  | _ => none
theorem un_ok {op : UnaryOp} {d r : D} {v : Value} {Q : Value → Shared → Prop} (h : unD op d = some r) (x : Rep (off W s.heap) d v)
    (hq : ∀ v' s', Post A s s' → Rep (off W s'.heap) r v' → Q v' s') : wpAny (model prog w) A (unaryOp op v) Q E s := by
  refine (show Ret (unD op d) (fun r => OpIs A W s (fun v _ => unaryOp op v) v v r) from ?_) r h prog w E Q hq
  cases op with
  | Not => exact .map fun c e prog w E Q hq => not_of (truth_ok e x fun n => hq _ _ (Post.tok A s n) rfl)
  | USub =>
    refine .map fun c hc => ?_
    cases asInt_eq c hc
    obtain ⟨t, rfl⟩ := x
    exact fun prog w E Q hq => P.neg_int (hq _ _ (Post.tok A s _) ⟨_, rfl⟩)
  | _ => exact .none
end
end Mine
end
section
namespace Mine

structure Sc where
  scope : Scope
  cells : List Str

noncomputable def Sc.kind (c : Sc) (x : Str) : Option NameKind := c.scope.names.lookup x

structure Fit (c : Sc) (env : Env) : Prop where
  scope : env.scope = c.scope
  cells : env.cells.map (·.1) = c.cells
  globals : env.globals = mainGlobals
  builtins : env.builtins = builtinsNs
  kind : c.scope.kind = .function

theorem Fit.kindOf {c : Sc} {env : Env} (x : Fit c env) (n : Str) : env.kindOf n = c.kind n := by unfold Env.kindOf Sc.kind; rw [x.scope]
theorem Fit.fkind {c : Sc} {env : Env} (x : Fit c env) : env.scope.kind = .function := by rw [x.scope]; exact x.kind

noncomputable abbrev Names := List (Str × D)
noncomputable def Rel (σ : Names) (env : Env) (m cm : Str → Option Value) (g : View) : Prop := ∀ x d, σ.lookup x = some d → ∃ v, val env m cm x = some v ∧ Rep g d v

structure In (b : Base) (A : Around) (W : List Addr) (k : Nat) (c : Sc) (σ : Names) (env : Env) (m cm : Str → Option Value) (s : Shared) : Prop where
  ok : Ok b A W k s
  fit : Fit c env
  ine : InE env m cm s.heap
  hid : ∀ a ∈ hid env, a ∈ W
  rel : Rel σ env m cm (off W s.heap)

section
variable {b : Base} {A : Around} {W : List Addr} {k : Nat} {c : Sc} {σ : Names} {env : Env} {m cm : Str → Option Value} {s s' : Shared}
theorem In.post (x : In b A W k c σ env m cm s) (p : Post A s s') : In b A W k c σ env m cm s' :=
  ⟨x.ok.post p, x.fit, x.ine.post p, x.hid, fun n d h => let ⟨v, e, r⟩ := x.rel n d h; ⟨v, e, r.mono (p.view x.ok.sub)⟩⟩
theorem In.view (x : In b A W k c σ env m cm s) (p : Post A s s') : (off W s.heap).le (off W s'.heap) := p.view x.ok.sub
end

noncomputable def EvOk (b : Base) (k : Nat) (c : Sc) (σ : Names) (e : Expr) (d : D) : Prop :=
  ∀ (A : Around) (W : List Addr) (env : Env) (m cm : Str → Option Value) (s : Shared) (E : Value → Shared → Prop) (Q : Value → Shared → Prop), In b A W k c σ env m cm s →
    (∀ v s', Post A s s' → Rep (off W s'.heap) d v → Q v s') → wpAny (model b.prog b.w) A (eval e env) Q E s
noncomputable def TvOk (b : Base) (k : Nat) (c : Sc) (σ : Names) (e : Expr) (d : Bool) : Prop :=
  ∀ (A : Around) (W : List Addr) (env : Env) (m cm : Str → Option Value) (s : Shared) (E : Value → Shared → Prop) (Q : Bool → Shared → Prop), In b A W k c σ env m cm s →
    (∀ s', Post A s s' → Q d s') → wpAny (model b.prog b.w) A (isTrue e env (eval e env)) Q E s
noncomputable def EvsOk (b : Base) (k : Nat) (c : Sc) (σ : Names) (es : List Expr) (ds : List D) : Prop :=
  ∀ (A : Around) (W : List Addr) (env : Env) (m cm : Str → Option Value) (s : Shared) (E : Value → Shared → Prop) (Q : List Value → Shared → Prop) (pos : Pos), In b A W k c σ env m cm s →
    (∀ vs s', Post A s s' → Reps (off W s'.heap) ds vs → Q vs s') → wpAny (model b.prog b.w) A (spliced (backTo pos (starEach es env))) Q E s

noncomputable def isStar (e : Expr) : Bool := e.ctorIdx == 22
theorem star_cons {e : Expr} {es : List Expr} {env : Env} (h : isStar e = false) : starEach (e :: es) env = (false, eval e env) :: starEach es env := by
  cases e <;> first | rfl | cases h
noncomputable def namePos? : Expr → Option (Str × Pos)
  | .Name x p => some (x, p)
  | _ => none
theorem namePos_eq {e : Expr} : Ret (namePos? e) fun q => e = .Name q.1 q.2 := by cases e <;> first | exact .some rfl | exact .none
noncomputable def nameOf? (e : Expr) : Option Str := (namePos? e).map (·.1)
theorem nameOf_eq {e : Expr} : Ret (nameOf? e) fun x => ∃ p, e = .Name x p := .map fun q h => ⟨q.2, namePos_eq q h⟩
noncomputable def listOf? : Expr → Option (List Expr)
  | .List es _ => some es
  | _ => none
theorem listOf_eq {e : Expr} : Ret (listOf? e) fun es => ∃ p, e = .List es p := by cases e <;> first | exact .some ⟨_, rfl⟩ | exact .none
noncomputable def subOf? : Expr → Option (Expr × Expr)
  | .Subscript o i _ => some (o, i)
  | _ => none
theorem subOf_eq {e : Expr} : Ret (subOf? e) fun q => ∃ p, e = .Subscript q.1 q.2 p := by cases e <;> first | exact .some ⟨_, rfl⟩ | exact .none
noncomputable def attrOf? : Expr → Option (Expr × Str × Pos)
  | .Attribute o n p => some (o, n, p)
  | _ => none
theorem attrOf_eq {e : Expr} : Ret (attrOf? e) fun q => e = .Attribute q.1 q.2.1 q.2.2 := by cases e <;> first | exact .some rfl | exact .none
noncomputable def tupOf? : Expr → Option (List Expr)
  | .Tuple es _ _ => some es
  | _ => none
theorem tupOf_eq {e : Expr} : Ret (tupOf? e) fun es => ∃ w p, e = .Tuple es w p := by cases e <;> first | exact .some ⟨_, _, rfl⟩ | exact .none
noncomputable def callF? : Expr → Option (Expr × List Expr × Pos)
  | .Call f args kws p => if kws.isEmpty then some (f, args, p) else none
  | _ => none
theorem callF_eq {e : Expr} : Ret (callF? e) fun q => e = .Call q.1 q.2.1 [] q.2.2 := by
  cases e with
  | Call f args kws p' => exact .ite fun hk => .some (by rw [List.isEmpty_iff.mp hk])
  | _ => exact .none
noncomputable def callN? (e : Expr) : Option (Str × List Expr) := (callF? e).bind fun q => (nameOf? q.1).map fun n => (n, q.2.1)
theorem callN_eq {e : Expr} : Ret (callN? e) fun q => ∃ p p', e = .Call (.Name q.1 p) q.2 [] p' := .bind fun q h => .map fun n hn => by
  obtain ⟨p, hp⟩ := nameOf_eq n hn
  exact ⟨p, q.2.2, by rw [callF_eq q h, hp]⟩
theorem backTo_cons {pos : Pos} {t : Sem Value} {r : List (Bool × Sem Value)} : backTo pos ((false, t) :: r) = (false, t) :: backTo pos r := rfl

section
variable {b : Base} {k : Nat} {c : Sc} {σ : Names}

theorem ev_int {i : Int} {q : Nat} {p : Pos} : EvOk b k c σ (.Constant (.int i) q p) (.int i) := fun A W env m cm s E Q x h =>
  wpAny_Constant_int (h _ _ (Post.tok A s _) ⟨_, rfl⟩)
theorem ev_str {i : Str} {q : Nat} {p : Pos} : EvOk b k c σ (.Constant (.str i) q p) (.str i) := fun A W env m cm s E Q x h =>
  Constant_str (h _ _ (Post.tok A s _) ⟨_, rfl⟩)
theorem ev_bool {i : Bool} {q : Nat} {p : Pos} : EvOk b k c σ (.Constant (.bool i) q p) (.bool i) := fun A W env m cm s E Q x h =>
  Constant_bool (h _ _ (Post.refl A s) rfl)
theorem ev_none {q : Nat} {p : Pos} : EvOk b k c σ (.Constant .none q p) .none := fun A W env m cm s E Q x h =>
  Constant_none (h _ _ (Post.refl A s) rfl)
theorem ev_name {n : Str} {p : Pos} {d : D} (hn : noLoad n = false) (hs : σ.lookup n = some d) : EvOk b k c σ (.Name n p) d := fun A W env m cm s E Q x h => by
  obtain ⟨v, e, r⟩ := x.rel n d hs
  exact name_ok x.ine x.fit.fkind hn e (h _ _ (Post.refl A s) r)
theorem ev_bin {l r : Expr} {op : Operator} {p : Pos} {d1 d2 d : D} (h1 : EvOk b k c σ l d1) (h2 : EvOk b k c σ r d2) (hd : binD op d1 d2 = some d) : EvOk b k c σ (.BinOp l op r p) d :=
  fun A W env m cm s E Q x h => wpAny_BinOp (h1 A W env m cm s E _ x fun v s1 p1 r1 => h2 A W env m cm s1 E _ (x.post p1) fun u s2 p2 r2 =>
    bin_ok hd (x.post (p1.trans p2)).ok (r1.mono ((x.post p1).view p2)) r2 fun v' s' p' r' => h v' s' ((p1.trans p2).trans p') r')
theorem ev_un {x : Expr} {op : UnaryOp} {p : Pos} {d1 d : D} (h1 : EvOk b k c σ x d1) (hd : unD op d1 = some d) : EvOk b k c σ (.UnaryOp op x p) d :=
  fun A W env m cm s E Q x h => UnaryOp_ (h1 A W env m cm s E _ x fun v s1 p1 r1 => un_ok hd r1 fun v' s' p' r' => h v' s' (p1.trans p') r')
theorem ev_cmp {l r : Expr} {op : CmpOp} {p : Pos} {d1 d2 : D} {z : Bool} (hm : behindInMarks op r = false) (h1 : EvOk b k c σ l d1) (h2 : EvOk b k c σ r d2) (hd : cmpD op d1 d2 = some z) : EvOk b k c σ (.Compare l [op] [r] p) (.bool z) :=
  fun A W env m cm s E Q x h => wpAny_Compare1 (hm := hm) (h1 A W env m cm s E _ x fun v s1 p1 r1 => h2 A W env m cm s1 E _ (x.post p1) fun u s2 p2 r2 =>
    cmp_ok hd (r1.mono ((x.post p1).view p2)) r2 x.ok.units' (h _ _ (p1.trans p2) rfl))
theorem tv_cmp {l r : Expr} {op : CmpOp} {p : Pos} {d1 d2 : D} {z : Bool} (hm : behindInMarks op r = false) (h1 : EvOk b k c σ l d1) (h2 : EvOk b k c σ r d2) (hd : cmpD op d1 d2 = some z) : TvOk b k c σ (.Compare l [op] [r] p) z :=
  fun A W env m cm s E Q x h => wpAny_isTrue_Compare1 (hm := hm) (h1 A W env m cm s E _ x fun v s1 p1 r1 => h2 A W env m cm s1 E _ (x.post p1) fun u s2 p2 r2 =>
    cmp_ok hd (r1.mono ((x.post p1).view p2)) r2 x.ok.units' (wpAny_truthy_bool (h _ (p1.trans p2))))
theorem tv_not {x : Expr} {p : Pos} {z : Bool} (h1 : TvOk b k c σ x z) : TvOk b k c σ (.UnaryOp .Not x p) (!z) :=
  fun A W env m cm s E Q x h => isTrue_not (h1 A W env m cm s E _ x fun s1 p1 => h s1 p1)

noncomputable def plainTest (e : Expr) : Bool := e.ctorIdx != 0 && (e.ctorIdx != 3 && (e.ctorIdx != 5 && e.ctorIdx != 15))
theorem tv_plain {e : Expr} {d : D} {z : Bool} (hp : plainTest e = true) (h1 : EvOk b k c σ e d) (hd : truthD d = some z) : TvOk b k c σ e z :=
  fun A W env m cm s E Q x h => isTrue_plain (he := by
      cases e <;> first | rfl | cases hp)
    (h1 A W env m cm s E _ x fun v s1 p1 r1 => truth_ok hd r1 fun n => h _ (p1.trans (Post.tok A s1 n)))

noncomputable def AllOk (b : Base) (k : Nat) (c : Sc) (σ : Names) (op : BoolOp) (es : List Expr) (d : Bool) : Prop :=
  ∀ (A : Around) (W : List Addr) (env : Env) (m cm : Str → Option Value) (s : Shared) (E : Value → Shared → Prop) (Q : Bool → Shared → Prop), In b A W k c σ env m cm s →
    (∀ s', Post A s s' → Q d s') → wpAny (model b.prog b.w) A (allTrue op es env) Q E s
theorem all_nil {op : BoolOp} : AllOk b k c σ op [] (op == .And) := fun A W env m cm s E Q x h => wpAny_pure (h s (Post.refl A s))
theorem all_cons {op : BoolOp} {e : Expr} {es : List Expr} {z z' : Bool} (h1 : TvOk b k c σ e z) (h2 : z = (op == .And) → AllOk b k c σ op es z') :
    AllOk b k c σ op (e :: es) (if z = (op == .And) then z' else z) := fun A W env m cm s E Q x h => by
  show wpAny _ A (isTrue e env (eval e env) >>= _) Q E s
  refine wpAny_bind (h1 A W env m cm s E _ x fun s1 p1 => ?_)
  cases op <;> cases z <;> first
    | exact h2 rfl A W env m cm s1 E Q (x.post p1) fun s' p' => by have := h s' (p1.trans p'); simpa using this
    | exact wpAny_pure (by have := h s1 p1; simpa using this)
theorem tv_bool {op : BoolOp} {es : List Expr} {p : Pos} {z : Bool} (h1 : AllOk b k c σ op es z) : TvOk b k c σ (.BoolOp op es p) z :=
  fun A W env m cm s E Q x h => h1 A W env m cm s E Q x h

theorem ev_if {t u v : Expr} {p : Pos} {z : Bool} {d : D} (h1 : TvOk b k c σ t z) (h2 : EvOk b k c σ (if z then u else v) d) : EvOk b k c σ (.IfExp t u v p) d :=
  fun A W env m cm s E Q x h => IfExp_ (h1 A W env m cm s E _ x fun s1 p1 => by
    have := h2 A W env m cm s1 E Q (x.post p1) fun v s' p' r' => h v s' (p1.trans p') r'
    cases z <;> simpa using this)

theorem evs_nil : EvsOk b k c σ [] [] := fun A W env m cm s E Q pos x h => spliced_nil (h _ _ (Post.refl A s) rfl)
theorem evs_cons {e : Expr} {es : List Expr} {d : D} {ds : List D} (hs : isStar e = false) (h1 : EvOk b k c σ e d) (h2 : EvsOk b k c σ es ds) : EvsOk b k c σ (e :: es) (d :: ds) :=
  fun A W env m cm s E Q pos x h => by
    rw [star_cons hs, backTo_cons]
    exact spliced_cons (h1 A W env m cm s E _ x fun v s1 p1 r1 => h2 A W env m cm s1 E _ pos (x.post p1) fun vs s2 p2 r2 => h _ _ (p1.trans p2) ⟨v, vs, rfl, r1.mono ((x.post p1).view p2), r2⟩)

theorem ev_list {es : List Expr} {p : Pos} {ds : List D} (h1 : EvsOk b k c σ es ds) (hl : ds.length ≤ room) : EvOk b k c σ (.List es p) (.list ds) :=
  fun A W env m cm s E Q x h => wpAny_List_spliced (h1 A W env m cm s E _ p x fun vs s1 p1 r1 => by
    have n := r1.length
    refine ⟨room_line (by unfold room at *; omega), ?_⟩
    have pp := Post.push A s1 { cls := .type "list", data := .seq vs.toArray } s1.toks
    exact h _ _ (p1.trans pp) ⟨_, vs, rfl, ⟨_, _, off_some.mpr ⟨(x.post p1).ok.fresh, Heap.get?_push_size _ rfl⟩, rfl, rfl, rfl⟩, r1.mono ((x.post p1).view pp)⟩)
theorem ev_tup {es : List Expr} {q : Nat} {p : Pos} {ds : List D} (h1 : EvsOk b k c σ es ds) (hl : ds.length ≤ room) : EvOk b k c σ (.Tuple es q p) (.tup ds) :=
  fun A W env m cm s E Q x h => wpAny_Tuple_spliced (h1 A W env m cm s E _ p x fun vs s1 p1 r1 => by
    have n := r1.length
    refine ⟨room_line (by unfold room at *; omega), ?_⟩
    have pp := Post.push A s1 { cls := .type "tuple", data := .seq vs.toArray } s1.toks
    exact h _ _ (p1.trans pp) ⟨_, vs, rfl, ⟨_, _, off_some.mpr ⟨(x.post p1).ok.fresh, Heap.get?_push_size _ rfl⟩, rfl, rfl, rfl⟩, r1.mono ((x.post p1).view pp)⟩)

structure GOk (b : Base) (k : Nat) (n : Str) (F : List D → Option D) : Prop where
  f : ∃ f : Value, (∀ (A : Around) (env : Env) (s : Shared) (E : Value → Shared → Prop) (Q : Value → Shared → Prop), env.globals = mainGlobals → env.builtins = builtinsNs → b.h₀.StaysIn s.heap → Q f s →
      wpAny (model b.prog b.w) A (loadGlobal env n) Q E s) ∧
    (∀ h : Heap, b.h₀.StaysIn h → ∃ j, (j = Keeper.frame ∨ j = Keeper.machine ∨ j = Keeper.boundFrame) ∧ Looks (model b.prog b.w) h (keeperOf f) j) ∧ CallOk b f k F

theorem any_false {pos : Pos} : ∀ {es : List Expr} {env : Env}, (∀ e ∈ es, isStar e = false) → (backTo pos (starEach es env)).any (·.1) = false
  | [], _, _ => rfl
  | e :: es, env, h => by
    rw [star_cons (h e (.head _)), backTo_cons, List.any_cons, any_false fun e' he => h e' (.tail _ he)]
    rfl

theorem ev_call {n : Str} {p p' : Pos} {es : List Expr} {ds : List D} {d : D} {F : List D → Option D} (hk : c.kind n = some .globalImplicit) (hn : noLoad n = false) (g : GOk b k n F) (hst : ∀ e ∈ es, isStar e = false)
    (hnil : es = [] → ds = []) (h1 : EvsOk b k c σ es ds) (hd : F ds = some d) : EvOk b k c σ (.Call (.Name n p) es [] p') d := fun A W env m cm s E Q x h => by
  obtain ⟨f, hl, hkp, hc⟩ := g.f
  refine Call_Name rfl (Name_function_global x.fit.fkind ((x.fit.kindOf n).trans hk) (hl A env s E _ x.fit.globals x.fit.builtins x.ok.inv ?_) (by unfold noLoad at hn; rw [Bool.or_eq_false_iff] at hn; exact hn.1))
  refine callWith_of (P := fun h => b.h₀.StaysIn h) (by rw [any_false hst]; rfl) hkp ?_
  have fin : wpAny (model b.prog b.w) A (spliced (backTo p' (starEach es env))) (fun vs s1 => b.h₀.StaysIn s1.heap ∧ wpAny (model b.prog b.w) A (call f vs) Q E s1) E s :=
    h1 A W env m cm s E _ p' x fun vs s1 p1 r1 => ⟨(x.post p1).ok.inv, hc A W s1 ds vs d E Q hd (x.post p1).ok r1 fun v s' p2 r2 => h v s' (p1.trans p2) r2⟩
  cases es with
  | nil =>
    obtain rfl := hnil rfl
    exact evalArgs_nil3 ⟨x.ok.inv, hc A W s [] [] d E Q hd x.ok rfl fun v s' p2 r2 => h v s' p2 r2⟩
  | cons e es =>
    rw [star_cons (hst e (.head _)), backTo_cons] at fin ⊢
    exact evalArgs_plain fin
end
end Mine
end
section
namespace Mine

theorem subscripted_any (slice : Expr) (o i : Value) : ∃ ops, subscripted slice false o i = operate ops (getItem o i) := by
  cases slice with
  | Slice lo hi st p => cases st <;> exact ⟨_, rfl⟩
  | _ => exact ⟨_, rfl⟩

noncomputable def dget {K : Type} [DecidableEq K] (l : List (K × Str)) (k : K) : Option Str := (l.find? fun kv => kv.1 = k).map (·.2)
theorem dget_at {K : Type} [DecidableEq K] : ∀ (l : List (K × Str)) (kvs : List (K × Value)) (k : K) (y : Str), kvs.map (·.1) = l.map (·.1) → (∀ (i : Nat) (x : K × Str), l[i]? = some x → ∃ t, kvs[i]? = some (x.1, Value.str x.2 t)) →
    dget l k = some y → ∃ t, valueAt kvs k = some (.str y t)
  | [], _, k, y, _, _, h => by simp [dget] at h
  | (a, x) :: l, [], k, y, e, _, _ => by simp at e
  | (a, x) :: l, (a', v) :: kvs, k, y, e, ha, h => by
    simp only [List.map_cons, List.cons.injEq] at e
    obtain ⟨t, h0⟩ := ha 0 (a, x) rfl
    simp only [List.getElem?_cons_zero, Option.some.injEq, Prod.mk.injEq] at h0
    obtain ⟨rfl, rfl⟩ := h0
    by_cases hk : a' = k
    · refine ⟨t, ?_⟩
      simp only [dget, List.find?_cons, hk, decide_true, Option.map_some, Option.some.injEq] at h
      simp [valueAt, List.find?_cons, hk, h]
    · have h' : dget l k = some y := by simpa [dget, List.find?_cons, hk] using h
      obtain ⟨t', q⟩ := dget_at l kvs k y e.2 (fun i x hx => by simpa using ha (i + 1) x (by simpa using hx)) h'
      exact ⟨t', by simpa [valueAt, List.find?_cons, hk] using q⟩

section
variable {prog prog' : Program} {w w' : World} {A : Around} {E : Value → Shared → Prop} {s : Shared}
theorem getItem_strs {d : Addr} {o : Obj} {kvs : List (Str × Value)} {x : Str} {t : Tok} {v : Value} {Q : Value → Shared → Prop} (ho : s.heap.get? d = some o) (hd : o.IsDictOf (strKind prog' w') kvs) (hv : valueAt kvs x = some v)
    (h : Q v { s with toks := s.toks + 1 }) : wpAny (model prog w) A (getItem (.ref d) (.str x t)) Q E s := by
  have hT : s.TypeIs (.ref d) "dict" := (Heap.dictOf_iff.mpr ⟨o, ho, hd⟩ : s.heap.DictOf (strKind prog' w') d kvs).typeIs
  obtain ⟨es, ep, hex, hd, hk, hp, hn⟩ := hd
  unfold getItem
  try with_reducible refine wpAny_holding ?_
  refine wpAny_bind (wpAny_sequenceKey hT (by decide) ?_)
  refine wpAny_bind (wpAny_callSpecial?_slot (name := Str.ofString "__getitem__") hT slot_dict_getitem
    (wpAny_call_entry slot_dict_getitem hT entry_dict_getitem ?_ (args_dict_getitem _ _)))
  show wpAny _ _ (dictGet d (.str x t) >>= _) _ _ s
  unfold dictGet
  refine wpAny_bind (wpAny_holding (wpAny_bind (wpAny_pyHash_str (wpAny_bind ?_))))
  unfold dictFind
  refine wpAny_holding (wpAny_bind (wpAny_dictEntries ho hd ?_))
  dsimp only
  have hstrs : (es.all fun e => isExactStrKey e.key) = true := by
    rw [Array.all_eq_true']
    intro e he
    obtain ⟨k, h1, _⟩ := hk e he
    obtain ⟨u, h2⟩ := Value.isStrOf_shape h1
    rw [h2]; rfl
  rw [if_pos hstrs]
  have hfun : (fun e : DictEntry => e.key.isStr x) = fun e => (strKind prog' w').is x e.key := funext fun e => ((strKind prog' w').strs x x t e.key (strKind_is prog' w' x t)).symm
  unfold foundByValue
  rw [hfun]
  have hfi := hp.find x
  rw [hv] at hfi
  cases hf : es.findIdx? (fun e => (strKind prog' w').is x e.key) with
  | none =>
    exfalso
    have := Array.findIdx?_eq_none_iff.mp hf
    cases hg : es.toList.find? (fun e => (strKind prog' w').is x e.key) with
    | none => rw [hg] at hfi; cases hfi
    | some e =>
      have h1 := List.find?_some hg
      have h2 := this e (Array.mem_toList_iff.mp (List.mem_of_find?_eq_some hg))
      rw [h1] at h2; cases h2
  | some i =>
    obtain ⟨hlt, hi, hmin⟩ := Array.findIdx?_eq_some_iff_getElem.mp hf
    obtain ⟨u, hu⟩ := Value.isStrOf_shape hi
    have hval : es[i].val = v := by
      have e1 : es.toList.find? (fun e => (strKind prog' w').is x e.key) = some es[i] := by
        rw [List.find?_eq_some_iff_getElem]
        refine ⟨hi, i, by simpa using hlt, by simp, fun j hj => ?_⟩
        have := hmin j hj
        simpa using this
      rw [e1] at hfi
      simpa using hfi
    simp only [Array.getElem?_eq_getElem hlt]
    refine wpAny_bind (wpAny_dictEpoch ho hd (wpAny_bind ?_))
    rw [hu]
    refine wpAny_eqBool_str (wpAny_bind (wpAny_dictEpoch ho hd ?_))
    show wpAny _ _ (if (ep != ep) = true then _ else _) _ _ _
    rw [if_neg (by simp)]
    simp only [decide_true, if_true]
    refine wpAny_bind (wpAny_rule (wpAny_pure (wpAny_bind (wpAny_dictEntries (s := { s with toks := s.toks + 1 }) ho hd (wpAny_pure ?_)))))
    rw [Array.getElem?_eq_getElem hlt]
    simp only [Option.map_some]
    rw [hval]
    exact wpAny_pure ⟨v, rfl, wpAny_pure h⟩
end

noncomputable def itemD : D → D → Option D
  | .list l, e => (asInt e).bind fun i => if 0 ≤ i ∧ i < 65536 then l[i.toNat]? else none
  | .tup l, e => (asInt e).bind fun i => if 0 ≤ i ∧ i < 65536 then l[i.toNat]? else none
  | .idct l, e => (asInt e).bind fun i => (dget l i).map .str
  | .sdct l, e => (asStr e).bind fun x => (dget l x).map .str
  | _, _ => none

noncomputable def SubIs (A : Around) (W : List Addr) (s0 s : Shared) (v u : Value) (r : D) : Prop :=
  ∀ (prog : Program) (w : World) (value slice : Expr) (E Q : Value → Shared → Prop), (∀ v' s', Post A s0 s' → Rep (off W s'.heap) r v' → Q v' s') → wpAny (model prog w) A (subscriptTail value slice v u) Q E s
section
variable {prog : Program} {w : World} {A : Around} {E : Value → Shared → Prop} {s : Shared} {W : List Addr}
theorem SubIs.of {s0 : Shared} {v u : Value} {r : D} {T id : String} (hT : s.TypeIs v T) (hl : typeLookup (.type T) "__getitem__" = pure (some (.builtin id)))
    (hg : ∀ (prog : Program) (w : World) (E Q : Value → Shared → Prop), (∀ v' s', Post A s0 s' → Rep (off W s'.heap) r v' → Q v' s') → wpAny (model prog w) A (getItem v u) Q E s) : SubIs A W s0 s v u r := fun prog w value slice E Q hq => by
  obtain ⟨ops, hs⟩ := subscripted_any slice v u
  exact tail_any hT hl (hg prog w E Q hq) hs
theorem seqIndex_at {n : Nat} {i : Int} (h : 0 ≤ i) (hn : i.toNat < n) : seqIndex? i n = some i.toNat := by
  unfold seqIndex?
  first
    | (rw [if_neg (by omega)]; rw [if_pos (by omega)])
    | simp; omega
theorem item_ok {value slice : Expr} {d e r : D} {v u : Value} {Q : Value → Shared → Prop} (h : itemD d e = some r) (x : Rep (off W s.heap) d v) (y : Rep (off W s.heap) e u)
    (hq : ∀ v' s', Post A s s' → Rep (off W s'.heap) r v' → Q v' s') : wpAny (model prog w) A (subscriptTail value slice v u) Q E s := by
  refine (show Ret (itemD d e) (SubIs A W s s v u) from ?_) r h prog w value slice E Q hq
  cases d with
  | list l =>
    refine .bind fun i hi => .ite fun hz r2 h2 => ?_
    cases asInt_eq i hi
    obtain ⟨a, vs, rfl, k1, q1⟩ := x
    obtain ⟨t, rfl⟩ := y
    obtain ⟨v1, e1, r1⟩ := q1.at h2
    exact .of k1.list.typeIs slot_list_getitem.lookup fun prog w E Q hq => wpAny_getItem_list k1.list hz.1 (Int.lt_trans hz.2 (by decide)) (List.getElem?_toArray ▸ e1) (hq _ _ (Post.refl A s) r1)
  | tup l =>
    refine .bind fun i hi => .ite fun hz r2 h2 => ?_
    cases asInt_eq i hi
    obtain ⟨a, vs, rfl, k1, q1⟩ := x
    obtain ⟨t, rfl⟩ := y
    obtain ⟨v1, e1, r1⟩ := q1.at h2
    have hlt := (List.getElem?_eq_some_iff.mp e1).1
    exact .of (T := "tuple") k1.tuple.typeIs slot_tuple_getitem.lookup fun prog w E Q hq => getItem_tuple (j := i.toNat) k1.tuple (by omega) (by omega) (seqIndex_at hz.1 hlt) (List.getElem?_toArray ▸ e1) (hq _ _ (Post.refl A s) r1)
  | idct l =>
    refine .bind fun i hi => .map fun z e1 => ?_
    cases asInt_eq i hi
    obtain ⟨a, rfl, _, o, kvs, g, hd, hm, ha⟩ := x
    obtain ⟨t, rfl⟩ := y
    obtain ⟨t', hv⟩ := dget_at l kvs i z hm ha e1
    have hD : ∀ prog w, s.heap.DictOf (intKind prog w) a kvs := fun prog w => Heap.dictOf_iff.mpr ⟨o, off_get g, hd prog w⟩
    exact .of (hD prog w).typeIs slot_dict_getitem.lookup fun prog w E Q hq => wpAny_getItem_of (intKind_is prog w i t) (hD prog w).mapOf hv (hq _ _ (Post.tok A s _) ⟨t', rfl⟩)
  | sdct l =>
    refine .bind fun i hi => .map fun z e1 => ?_
    cases asStr_eq i hi
    obtain ⟨a, rfl, _, o, kvs, g, ⟨prog', w', hd⟩, hm, ha⟩ := x
    obtain ⟨t, rfl⟩ := y
    obtain ⟨t', hv⟩ := dget_at l kvs i z hm ha e1
    have hD : s.heap.DictOf (strKind prog' w') a kvs := Heap.dictOf_iff.mpr ⟨o, off_get g, hd⟩
    exact .of hD.typeIs slot_dict_getitem.lookup fun prog w E Q hq => getItem_strs (off_get g) hd hv (hq _ _ (Post.tok A s _) ⟨t', rfl⟩)
  | _ => exact .none

noncomputable def dropD (i : Int) : D → Option D
  | .list l => if 0 ≤ i ∧ l.length ≤ room then some (.list (l.drop i.toNat)) else none
  | .str x => if x.length ≤ room then some (.str (Txt.slice x (some i) none)) else none
  | _ => none
noncomputable def takeD (i : Int) : D → Option D
  | .list l => if 0 ≤ i ∧ l.length ≤ room then some (.list (l.take i.toNat)) else none
  | .arg l => if 0 ≤ i ∧ l.length ≤ room then some (.list ((l.map D.int).take i.toNat)) else none
  | .str x => if x.length ≤ room then some (.str (Txt.slice x none (some i))) else none
  | _ => none
noncomputable def partD (lo hi : Option D) (d : D) : Option D := match lo with
  | some a => match hi with
    | none => (asInt a).bind fun i => dropD i d
    | some _ => none
  | none => hi.bind fun a => (asInt a).bind fun i => takeD i d

noncomputable def POk (g : View) : Option D → Value → Prop
  | none, v => v = .none
  | some d, v => Rep g d v

theorem Reps.drop {g : View} : ∀ {ds : List D} {vs : List Value} (n : Nat), Reps g ds vs → Reps g (ds.drop n) (vs.drop n)
  | _, _, 0, h => by simpa using h
  | [], _, n + 1, h => by cases h; exact rfl
  | _ :: _, _, n + 1, h => by obtain ⟨v, r, rfl, _, y⟩ := h; simpa using Reps.drop n y
theorem Reps.take {g : View} : ∀ {ds : List D} {vs : List Value} (n : Nat), Reps g ds vs → Reps g (ds.take n) (vs.take n)
  | _, _, 0, h => by simp; exact rfl
  | [], _, n + 1, h => by cases h; exact rfl
  | _ :: _, _, n + 1, h => by obtain ⟨v, r, rfl, x, y⟩ := h; exact ⟨v, r.take n, by simp, x, Reps.take n y⟩

theorem reps_ints {g : View} : ∀ {l : List Int} {vs : List Value}, vs.length = l.length → (∀ (i : Nat) (x : Int), l[i]? = some x → ∃ t, vs[i]? = some (.int x t)) → Reps g (l.map D.int) vs
  | [], vs, h, _ => List.eq_nil_of_length_eq_zero h
  | x :: l, [], h, _ => by simp at h
  | x :: l, v :: vs, h, ha => by
    obtain ⟨t, e⟩ := ha 0 x rfl
    simp at e
    exact ⟨v, vs, rfl, ⟨t, e⟩, reps_ints (by simpa using h) fun i y hy => by obtain ⟨t, e⟩ := ha (i + 1) y (by simpa using hy); exact ⟨t, by simpa using e⟩⟩

noncomputable abbrev slc (s : Shared) (vl vu : Value) : Shared := { s with heap := s.heap.push { cls := .type "slice", data := .fields #[vl, vu, .none] } }
theorem part_list {b : Base} {k : Nat} {lo hi : Option Int} {vs out : List Value} {l : List D} {a : Addr} {vl vu : Value} (ok : Ok b A W k s) (k1 : s.heap.IsList a vs.toArray) (pl : IsPart vl lo) (pu : IsPart vu hi) (he : slicePick vs.toArray lo hi none = out.toArray) (q : Reps (off W s.heap) l out) (hl : vs.length ≤ room) :
    SubIs A W s (slc s vl vu) (.ref a) (.ref s.heap.objs.size) (.list l) := by
  have p0 := Post.push A s { cls := .type "slice", data := .fields #[vl, vu, .none] } s.toks
  refine .of (Heap.IsList.typeIs (s := slc s vl vu) (k1.push _)) slot_list_getitem.lookup fun prog w E Q hq => ?_
  refine wpAny_getItem_list_slice (k1.push _) (Heap.IsSliceOf.new ..) pl pu .none (fun h => nomatch h) ?_ (room_line (Nat.le_trans hl (Nat.le_mul_of_pos_left _ (by decide))))
  rw [he]
  have p1 := Post.push A (slc s vl vu) { cls := .type "list", data := .seq out.toArray } s.toks
  exact hq _ _ (p0.trans p1) ⟨_, out, rfl, ⟨_, _, off_some.mpr ⟨(ok.post p0).fresh, Heap.get?_push_size _ rfl⟩, rfl, rfl, rfl⟩, q.mono ((p0.trans p1).view ok.sub)⟩
theorem drop_ok {b : Base} {k : Nat} {i : Int} {t : Tok} {d : D} {v : Value} (ok : Ok b A W k s) (x : Rep (off W s.heap) d v) : Ret (dropD i d) (SubIs A W s (slc s (.int i t) .none) v (.ref s.heap.objs.size)) := by
  cases d with
  | list l =>
    refine .ite fun hz => .some ?_
    obtain ⟨a, vs, rfl, k1, q1⟩ := x
    obtain ⟨m, rfl⟩ := Int.eq_ofNat_of_zero_le hz.1
    exact part_list ok k1.list (.int _ t) .none (slicePick_from' vs.toArray m) (q1.drop _) (q1.length ▸ hz.2)
  | str x1 =>
    refine .ite fun hz => .some fun prog w value slice E Q hq => ?_
    obtain ⟨t', rfl⟩ := x
    obtain ⟨ops, hs⟩ := subscripted_any slice (.str x1 t') (.ref s.heap.objs.size)
    obtain ⟨T, id, hl, hT, hg⟩ := SBH.sliceItem_sn (prog := prog) (w := w) (A := A) (E := E) (x := x1) (t := t') (i := i) (ui := t) (s := s) (Q := Q) (P := fun h' => ∀ b o, s.heap.get? b = some o → h'.get? b = some o)
      (fun h ob hP b o e => Heap.get?_push_of_some _ (hP b o e)) (fun _ _ e => e) (fun h' t' k hP => hq _ _ (Post.of_keeps hP) ⟨t', rfl⟩) (room_line (Nat.le_trans hz (Nat.le_mul_of_pos_left _ (by decide))))
    exact tail_any hT hl hg hs
  | _ => exact .none
theorem take_ok {b : Base} {k : Nat} {i : Int} {t : Tok} {d : D} {v : Value} (ok : Ok b A W k s) (x : Rep (off W s.heap) d v) : Ret (takeD i d) (SubIs A W s (slc s .none (.int i t)) v (.ref s.heap.objs.size)) := by
  cases d with
  | list l =>
    refine .ite fun hz => .some ?_
    obtain ⟨a, vs, rfl, k1, q1⟩ := x
    obtain ⟨m, rfl⟩ := Int.eq_ofNat_of_zero_le hz.1
    exact part_list ok k1.list .none (.int _ t) (slicePick_upto' vs.toArray m) (q1.take _) (q1.length ▸ hz.2)
  | arg l =>
    refine .ite fun hz => .some ?_
    obtain ⟨a, rfl, o, n0, vs, e0, ec, ed, hsz, hat⟩ := x
    obtain ⟨m, rfl⟩ := Int.eq_ofNat_of_zero_le hz.1
    exact part_list (vs := vs.toList) ok ⟨o, off_get e0, ec, n0, ed⟩ .none (.int _ t) (slicePick_upto' vs m) ((reps_ints hsz fun i x hx => by obtain ⟨t, ht⟩ := hat i x hx; exact ⟨t, Array.getElem?_toList ▸ ht⟩).take _) (Nat.le_trans (Nat.le_of_eq hsz) hz.2)
  | str x1 =>
    refine .ite fun hz => .some fun prog w value slice E Q hq => ?_
    obtain ⟨t', rfl⟩ := x
    obtain ⟨ops, hs⟩ := subscripted_any slice (.str x1 t') (.ref s.heap.objs.size)
    obtain ⟨T, id, hl, hT, hg⟩ := SBH.sliceItem_ns (prog := prog) (w := w) (A := A) (E := E) (x := x1) (t := t') (j := i) (uj := t) (s := s) (Q := Q) (P := fun h' => ∀ b o, s.heap.get? b = some o → h'.get? b = some o)
      (fun h ob hP b o e => Heap.get?_push_of_some _ (hP b o e)) (fun _ _ e => e) (fun h' t' k hP => hq _ _ (Post.of_keeps hP) ⟨t', rfl⟩) (room_line (Nat.le_trans hz (Nat.le_mul_of_pos_left _ (by decide))))
    exact tail_any hT hl hg hs
  | _ => exact .none
theorem part_ok {b : Base} {k : Nat} {value slice : Expr} {lo hi : Option D} {d r : D} {v vl vu : Value} {Q : Value → Shared → Prop} (h : partD lo hi d = some r) (ok : Ok b A W k s) (x : Rep (off W s.heap) d v) (yl : POk (off W s.heap) lo vl) (yh : POk (off W s.heap) hi vu)
    (hq : ∀ v' s', Post A s s' → Rep (off W s'.heap) r v' → Q v' s') : wpAny (model prog w) A (subscriptTail value slice v (.ref s.heap.objs.size)) Q E (slc s vl vu) := by
  refine (show Ret (partD lo hi d) (SubIs A W s (slc s vl vu) v (.ref s.heap.objs.size)) from ?_) r h prog w value slice E Q hq
  cases lo with
  | some a => cases hi with
    | none =>
      refine .bind fun i hi => ?_
      cases asInt_eq i hi
      obtain ⟨t, rfl⟩ := yl
      cases yh
      exact drop_ok ok x
    | some _ => exact .none
  | none => cases hi with
    | none => exact .none
    | some a =>
      refine Ret.bind (o := asInt a) fun i hi => ?_
      cases asInt_eq i hi
      obtain ⟨t, rfl⟩ := yh
      cases yl
      exact take_ok ok x
end

section
variable {b : Base} {k : Nat} {c : Sc} {σ : Names}
theorem ev_item {v i : Expr} {p : Pos} {d1 d2 d : D} (h1 : EvOk b k c σ v d1) (h2 : EvOk b k c σ i d2) (hd : itemD d1 d2 = some d) : EvOk b k c σ (.Subscript v i p) d :=
  fun A W env m cm s E Q x h => Subscript_ (h1 A W env m cm s E _ x fun v s1 p1 r1 => h2 A W env m cm s1 E _ (x.post p1) fun u s2 p2 r2 =>
    item_ok hd (r1.mono ((x.post p1).view p2)) r2 fun v' s' p' r' => h v' s' ((p1.trans p2).trans p') r')

noncomputable def OptOk (b : Base) (k : Nat) (c : Sc) (σ : Names) : Option Expr → Option D → Prop
  | none, none => True
  | some e, some d => EvOk b k c σ e d
  | _, _ => False
theorem opt_ok {lo : Option Expr} {d : Option D} (h1 : OptOk b k c σ lo d) {A : Around} {W : List Addr} {env : Env} {m cm : Str → Option Value} {s : Shared} {E : Value → Shared → Prop} {Q : Value → Shared → Prop} (x : In b A W k c σ env m cm s)
    (h : ∀ v s', Post A s s' → POk (off W s'.heap) d v → Q v s') : wpAny (model b.prog b.w) A (evalPart lo env) Q E s := by
  cases lo with
  | none => cases d with
    | none => exact wpAny_pure (h _ _ (Post.refl A s) rfl)
    | some d => cases h1
  | some e => cases d with
    | none => cases h1
    | some d => exact h1 A W env m cm s E Q x h
theorem POk.mono {g g' : View} (l : g.le g') : ∀ {d : Option D} {v : Value}, POk g d v → POk g' d v
  | none, _, h => h
  | some _, _, h => Rep.mono l h
theorem ev_part {v : Expr} {lo hi : Option Expr} {p p' : Pos} {d1 d : D} {l u : Option D} (h1 : EvOk b k c σ v d1) (h2 : OptOk b k c σ lo l) (h3 : OptOk b k c σ hi u) (hd : partD l u d1 = some d) :
    EvOk b k c σ (.Subscript v (.Slice lo hi none p') p) d :=
  fun A W env m cm s E Q x h => Subscript_ (h1 A W env m cm s E _ x fun v s1 p1 r1 => wpAny_Slice (opt_ok h2 (x.post p1) fun vl s2 p2 r2 => opt_ok h3 ((x.post p1).post p2) fun vu s3 p3 r3 => by
    rw [evalPart_none]
    have x3 := (x.post p1).post (p2.trans p3)
    exact wpAny_pure (part_ok hd x3.ok (r1.mono ((x.post p1).view (p2.trans p3))) (r2.mono (((x.post p1).post p2).view p3)) r3 fun v' s' p' r' => h v' s' (p1.trans ((p2.trans p3).trans p')) r')))

structure MOk (b : Base) (k : Nat) (n : Str) (F : List D → Option D) : Prop where
  f : ∃ id : String, Slot "str" n id ∧ typeOf (.builtin id) = pure (.type "method_descriptor") ∧ CallOk b (.builtin id) k F

noncomputable def plainBase (e : Expr) : Bool := e.ctorIdx != 16
theorem base_plain {o : Expr} {n : Str} {env : Env} {t : Sem Value} (h : plainBase o = true) : attributeBase o n env t = t := by
  cases o <;> first | rfl | cases h

theorem ev_method {o : Expr} {n : Str} {ap p : Pos} {es : List Expr} {x : Str} {ds : List D} {d : D} {F : List D → Option D} (hb : plainBase o = true) (hline : (ap.endLine == p.line) = true) (hst : ∀ e ∈ es, isStar e = false) (hfew : es.length < 20)
    (g : MOk b k n F) (h0 : EvOk b k c σ o (.str x)) (hnil : es = [] → ds = []) (h1 : EvsOk b k c σ es ds) (hd : F (.str x :: ds) = some d) : EvOk b k c σ (.Call (.Attribute o n ap) es [] p) d := fun A W env m cm s E Q xx h => by
  obtain ⟨id, slot, ty, hc⟩ := g.f
  have few : ∀ es : List Expr, (∀ e ∈ es, isStar e = false) → (backTo p (starEach es env)).all (fun x => !x.1) = true := by
    intro es
    induction es with
    | nil => intro _; rfl
    | cons e es ih => intro hst; rw [star_cons (hst e (.head _)), backTo_cons, List.all_cons, ih fun e' he => hst e' (.tail _ he)]; rfl
  refine wpAny_Call_method_lateS (base_plain hb) (by rw [few es hst]; exact decide_eq_true (Nat.lt_trans (show es.length + 0 + 0 < 20 from hfew) (by decide))) hline (h0 A W env m cm s E _ xx fun v s1 p1 r1 => ?_)
  obtain ⟨t, rfl⟩ := r1
  refine ⟨"str", id, PySem.F.plainAttrs_str, slot, ty, typeIs_str _ _ _, (fun a e => nomatch e), ?_⟩
  refine callWith_builtin (any_false hst) ?_
  have fin : wpAny (model b.prog b.w) A (spliced (backTo p (starEach es env))) (fun vs s2 => wpAny (model b.prog b.w) A (call (.builtin id) ([.str x t] ++ vs)) Q E s2) E s1 :=
    h1 A W env m cm s1 E _ p (xx.post p1) fun vs s2 p2 r2 => hc A W s2 (.str x :: ds) _ d E Q hd ((xx.post p1).post p2).ok ⟨_, _, rfl, ⟨t, rfl⟩, r2⟩ fun v s' p3 r3 => h v s' (p1.trans (p2.trans p3)) r3
  cases es with
  | nil =>
    obtain rfl := hnil rfl
    exact evalArgs_nil3 (hc A W s1 [.str x] _ d E Q hd (xx.post p1).ok ⟨_, _, rfl, ⟨t, rfl⟩, rfl⟩ fun v s' p3 r3 => h v s' (p1.trans p3) r3)
  | cons e es =>
    rw [star_cons (hst e (.head _)), backTo_cons] at fin ⊢
    exact evalArgs_plain fin
end
end Mine
end
section
namespace Mine

noncomputable def Kp (ws : List Addr) (s s' : Shared) : Prop := ∃ h' tk, s' = { s with heap := h', toks := tk } ∧ ∀ b o, b ∉ ws → s.heap.get? b = some o → h'.get? b = some o
theorem Kp.refl (ws : List Addr) (s : Shared) : Kp ws s s := ⟨s.heap, s.toks, rfl, fun _ _ _ e => e⟩
theorem Kp.trans {ws : List Addr} {s s' s'' : Shared} (x : Kp ws s s') (y : Kp ws s' s'') : Kp ws s s'' := by
  obtain ⟨h1, t1, rfl, a1⟩ := x
  obtain ⟨h2, t2, rfl, a2⟩ := y
  exact ⟨h2, t2, rfl, fun b o n e => a2 b o n (a1 b o n e)⟩
theorem Kp.mono {ws ws' : List Addr} {s s' : Shared} (x : Kp ws s s') (h : ∀ a ∈ ws, a ∈ ws') : Kp ws' s s' := by
  obtain ⟨h1, t1, rfl, a1⟩ := x
  exact ⟨h1, t1, rfl, fun b o n e => a1 b o (fun q => n (h b q)) e⟩
theorem Kp.here {ws : List Addr} {s s' : Shared} (x : Kp ws s s') {b : Addr} {o : Obj} (n : b ∉ ws) (e : s.heap.get? b = some o) : s'.heap.get? b = some o := by
  obtain ⟨h1, t1, rfl, a1⟩ := x; exact a1 b o n e
theorem Kp.view {ws W : List Addr} {s s' : Shared} (x : Kp ws s s') (h : ∀ a ∈ ws, a ∈ W) : (off W s.heap).le (off W s'.heap) :=
  off_keeps fun b _ hb e => x.here (fun q => hb (h b q)) e
noncomputable def storable (c : Sc) (x : Str) : Bool := c.kind x == some .local || (c.kind x == some .cell && c.cells.contains x)
theorem lookup_of_mem {α : Type} : ∀ {l : List (Str × α)} {n : Str}, n ∈ l.map (·.1) → (l.lookup n).isSome = true
  | (k, v) :: r, n, h => by
    rw [List.lookup_cons]
    cases hb : n == k with
    | true => rfl
    | false =>
      refine lookup_of_mem (l := r) ?_
      rcases List.mem_cons.mp h with e | e
      · exact absurd e (by simpa using hb)
      · exact e

section
variable {b : Base} {A : Around} {W : List Addr} {k : Nat} {c : Sc} {σ : Names} {env : Env} {m cm : Str → Option Value} {s s' : Shared}

theorem Fit.stores (x : Fit c env) {n : Str} (h : storable c n = true) : stores env n := by
  unfold storable at h
  rw [Bool.or_eq_true, Bool.and_eq_true, beq_iff_eq, beq_iff_eq] at h
  unfold Mine.stores
  rw [x.kindOf]
  rcases h with h | ⟨h1, h2⟩
  · exact .inl h
  · refine .inr ⟨h1, lookup_of_mem ?_⟩
    rw [x.cells]
    simpa using h2

theorem Ok.stored (x : Ok b A W k s) {h' : Heap} {tk : Nat} {a : Addr} (ha : a ∈ W) (hk : ∀ b o, b ≠ a → s.heap.get? b = some o → h'.get? b = some o) (hn : ∃ o, h'.get? a = some o ∧ ∀ vs, o.data ≠ .fields vs) : Ok b A W k { s with heap := h', toks := tk } := by
  refine ⟨x.handled, x.depth, x.units, ?_, x.sub, x.low, fun a' ha' => ?_, fun a' o e => hk a' o (fun h => by have := x.low a ha; rw [← h, e] at this; cases this) (x.inv a' o e)⟩
  · obtain ⟨outer, e, f⟩ := x.frames
    refine ⟨outer, e, fun env' he => ?_⟩
    obtain ⟨hk', L, o, h1, h2, h3⟩ := f env' he
    by_cases hL : L = a
    · obtain ⟨o', e', d'⟩ := hn
      exact ⟨hk', L, o', h1, hL ▸ e', d'⟩
    · exact ⟨hk', L, o, h1, hk L o hL h2, h3⟩
  · by_cases hL : a' = a
    · obtain ⟨o', e', _⟩ := hn
      exact ⟨o', hL ▸ e'⟩
    · obtain ⟨o, e⟩ := x.live a' ha'
      exact ⟨o, hk a' o hL e⟩

theorem lookup_put {x y : Str} {d : D} {σ : Names} : List.lookup y ((x, d) :: σ) = if y = x then some d else σ.lookup y := by
  rw [List.lookup_cons]
  by_cases h : y = x
  · subst h; simp
  · have : (y == x) = false := by simpa using h
    rw [this]; simp [h]

noncomputable def touch (env : Env) (xs : List Str) : List Addr := env.locals :: xs.filterMap fun x => env.cells.lookup x
theorem touch_hid {env : Env} {xs : List Str} {a : Addr} (h : a ∈ touch env xs) : a ∈ hid env := by
  rcases List.mem_cons.mp h with rfl | h
  · exact List.mem_cons_self
  · obtain ⟨x, _, e⟩ := List.mem_filterMap.mp h
    exact List.mem_cons_of_mem _ (List.mem_map.mpr ⟨(x, a), mem_of_lookup e, rfl⟩)
theorem touch_mono {env : Env} {xs ys : List Str} (h : ∀ x ∈ xs, x ∈ ys) {a : Addr} (ha : a ∈ touch env xs) : a ∈ touch env ys := by
  rcases List.mem_cons.mp ha with rfl | ha
  · exact List.mem_cons_self
  · obtain ⟨x, hx, e⟩ := List.mem_filterMap.mp ha
    exact List.mem_cons_of_mem _ (List.mem_filterMap.mpr ⟨x, h x hx, e⟩)

theorem store_in2 {x : Str} {d : D} {v : Value} {M : Model} {E : Value → Shared → Prop} {Q : Unit → Shared → Prop} (i : In b A W k c σ env m cm s) (hx : storable c x = true) (r : Rep (off W s.heap) d v)
    (h : ∀ s' m' cm', Kp (touch env [x]) s s' → In b A W k c ((x, d) :: σ) env m' cm' s' → (∀ y, y ≠ x → val env m' cm' y = val env m cm y) → Q () s') : wpAny M A (storeName env x v) Q E s := by
  refine store_ok i.ine i.fit.fkind (i.fit.stores hx) fun h' m' cm' tk ine hv ho hm => ?_
  obtain ⟨a, ha, hk, hn⟩ := hm
  have ha' : a ∈ touch env [x] := ha.elim (fun h => h ▸ List.mem_cons_self) fun h => List.mem_cons_of_mem _ (by simp [h])
  have kp : Kp (touch env [x]) s { s with heap := h', toks := tk } := ⟨h', tk, rfl, fun b o hb e => hk b o (fun q => hb (q ▸ ha')) e⟩
  have hsub : ∀ a ∈ touch env [x], a ∈ W := fun a h => i.hid a (touch_hid h)
  refine h _ m' cm' kp ⟨i.ok.stored (hsub a ha') hk hn, i.fit, ine, i.hid, fun y e hy => ?_⟩ ho
  rw [lookup_put] at hy
  by_cases hyx : y = x
  · subst hyx
    rw [if_pos rfl] at hy; cases hy
    exact ⟨v, hv, r.mono (kp.view hsub)⟩
  · rw [if_neg hyx] at hy
    obtain ⟨u, e1, r1⟩ := i.rel y e hy
    exact ⟨u, (ho y hyx).trans e1, r1.mono (kp.view hsub)⟩
theorem store_in {x : Str} {d : D} {v : Value} {M : Model} {E : Value → Shared → Prop} {Q : Unit → Shared → Prop} (i : In b A W k c σ env m cm s) (hx : storable c x = true) (r : Rep (off W s.heap) d v)
    (h : ∀ s' m' cm', Kp (touch env [x]) s s' → In b A W k c ((x, d) :: σ) env m' cm' s' → Q () s') : wpAny M A (storeName env x v) Q E s :=
  store_in2 i hx r fun s' m' cm' k' i' _ => h s' m' cm' k' i'

noncomputable def StoreAll (M : Model) (A : Around) (E : Value → Shared → Prop) (env : Env) (Q : Shared → Prop) : List Str → List Value → Shared → Prop
  | x :: xs, v :: vs, s => wpAny M A (storeName env x v) (fun _ s' => StoreAll M A E env Q xs vs s') E s
  | _, _, s => Q s
noncomputable def putAll : List Str → List D → Names → Names
  | x :: xs, d :: ds, σ => putAll xs ds ((x, d) :: σ)
  | _, _, σ => σ
theorem storeAll_in {M : Model} {E : Value → Shared → Prop} {Q : Shared → Prop} : ∀ (xs : List Str) (ds : List D) (vs : List Value) (σ : Names) (m cm : Str → Option Value) (s : Shared), In b A W k c σ env m cm s → xs.all (storable c) = true → Reps (off W s.heap) ds vs →
    (∀ s' m' cm', Kp (touch env xs) s s' → In b A W k c (putAll xs ds σ) env m' cm' s' → Q s') → StoreAll M A E env Q xs vs s
  | [], ds, vs, σ, m, cm, s, i, _, r, h => by
    cases vs <;> exact h s m cm (Kp.refl _ _) (by cases ds <;> exact i)
  | x :: xs, [], vs, σ, m, cm, s, i, _, r, h => by cases r; exact h s m cm (Kp.refl _ _) i
  | x :: xs, d :: ds, vs, σ, m, cm, s, i, hx, r, h => by
    obtain ⟨v, us, rfl, r1, r2⟩ := r
    rw [List.all_cons, Bool.and_eq_true] at hx
    exact store_in i hx.1 r1 fun s1 m1 cm1 k1 i1 => storeAll_in xs ds us _ m1 cm1 s1 i1 hx.2 (r2.mono (k1.view fun a h => i.hid a (touch_hid h))) fun s2 m2 cm2 k2 i2 => h s2 m2 cm2 ((k1.mono fun a h => touch_mono (fun y hy => by rw [List.mem_singleton.mp hy]; exact List.mem_cons_self) h).trans (k2.mono fun a h => touch_mono (fun y hy => List.mem_cons_of_mem _ hy) h)) i2
end

noncomputable def namesOf : List Expr → Option (List Str)
  | [] => some []
  | e :: r => (nameOf? e).bind fun x => (namesOf r).map (x :: ·)
noncomputable def tgtNames : Expr → Option (List Str)
  | .Name x _ => some [x]
  | .Tuple es _ _ => namesOf es
  | _ => none

section
variable {prog : Program} {w : World} {A : Around} {E : Value → Shared → Prop}
theorem namesOf_cons {e : Expr} {r : List Expr} {xs : List Str} (h : namesOf (e :: r) = some xs) : ∃ x p ys, e = .Name x p ∧ namesOf r = some ys ∧ xs = x :: ys := by
  obtain ⟨x, hx, h⟩ := Option.bind_eq_some_iff.mp h
  obtain ⟨ys, hy, rfl⟩ := Option.map_eq_some_iff.mp h
  obtain ⟨p, hp⟩ := nameOf_eq x hx
  exact ⟨x, p, ys, hp, hy, rfl⟩

theorem inOrder_names {env : Env} {Q : Unit → Shared → Prop} : ∀ (es : List Expr) (xs : List Str) (vs : List Value) (s : Shared), namesOf es = some xs → StoreAll (model prog w) A E env (Q ()) xs vs s →
    wpAny (model prog w) A (assignInOrder ((assignEach es env).map (·.2)) vs) Q E s := by
  intro es
  induction es with
  | nil => intro xs vs s h q; cases h; exact wpAny_pure q
  | cons e r ih =>
    intro xs vs s h q
    obtain ⟨x, p, ys, rfl, h2, rfl⟩ := namesOf_cons h
    cases vs with
    | nil => exact wpAny_pure q
    | cons v vs =>
      show wpAny (model prog w) A (holding vs (assign (.Name x p) env v) >>= fun _ => assignInOrder ((assignEach r env).map (·.2)) vs) Q E s
      refine wpAny_bind (wpAny_holding (wpAny_assign_Name ?_))
      exact wpAny_mono q (fun _ s' h' => ih _ _ _ h2 h') fun _ _ y => y
theorem namesOf_each {env : Env} : ∀ (es : List Expr) (xs : List Str), namesOf es = some xs → (assignEach es env).length = xs.length ∧ (assignEach es env).findIdx? (·.1) = none := by
  intro es
  induction es with
  | nil => intro xs h; cases h; exact ⟨rfl, rfl⟩
  | cons e r ih =>
    intro xs h
    obtain ⟨x, p, ys, rfl, h2, rfl⟩ := namesOf_cons h
    have ih := ih ys h2
    have he : assignEach (.Name x p :: r) env = (false, assign (.Name x p) env) :: assignEach r env := rfl
    rw [he]
    exact ⟨by simp [ih.1], by rw [List.findIdx?_cons]; simp [ih.2]⟩
end
end Mine
end
section
namespace Mine

structure Drw (prog : Program) (w : World) (A : Around) (it : Value) (tgt : Expr) (xs : List Str) (fp wr : List Addr) (G : View) (rows : List (List D)) (St : Nat → Heap → Prop) : Prop where
  sub : ∀ a ∈ wr, a ∈ fp
  frame : ∀ i h h', St i h → (∀ a ∈ fp, ∀ o, h.get? a = some o → h'.get? a = some o) → St i h'
  live : ∀ i h, St i h → ∀ a ∈ wr, ∃ o, h.get? a = some o
  step : ∀ i ds (s : Shared) (Q : Option Value → Shared → Prop) (E : Value → Shared → Prop), rows[i]? = some ds → St i s.heap →
    (∀ v s1, Kp wr s s1 → (∀ (env : Env) (E' : Value → Shared → Prop) (Q' : Shared → Prop),
        (∀ vs s2, Reps G ds vs → Kp wr s1 s2 → St (i + 1) s2.heap → StoreAll (model prog w) A E' env Q' xs vs s2) →
        wpAny (model prog w) A (letOwnedTupleGo tgt it v) (fun _ s2 => wpAny (model prog w) A (assign tgt env v) (fun _ => Q') E' s2) E' s1) → Q (some v) s1) →
    wpAny (model prog w) A (pyNext it) Q E s
  done : ∀ (s : Shared) (Q : Option Value → Shared → Prop) (E : Value → Shared → Prop), St rows.length s.heap → (∀ s1, Kp wr s s1 → Q none s1) → wpAny (model prog w) A (pyNext it) Q E s
  self : ∀ i (s : Shared) (Q : Value → Shared → Prop) (E : Value → Shared → Prop), St i s.heap → Q it s → wpAny (model prog w) A (pyIter it) Q E s

theorem ones_at {ds : List D} {i : Nat} {r : List D} (h : (ds.map fun d => [d])[i]? = some r) : ∃ d, ds[i]? = some d ∧ r = [d] := by
  rw [List.getElem?_map] at h
  cases e : ds[i]? with
  | none => rw [e] at h; cases h
  | some d => rw [e] at h; cases h; exact ⟨d, rfl, rfl⟩

theorem Drw.name {prog : Program} {w : World} {A : Around} {I : Addr} {x : Str} {p : Pos} {fp wr : List Addr} {G : View} {n : Nat} {ds : List D} {P : Nat → Value → Prop} {St : Nat → Heap → Prop} (W : Walks prog w A I fp wr n P St) (hn : n = ds.length)
    (hL : ∀ i h, St i h → ∀ a ∈ wr, ∃ o, h.get? a = some o) (hP : ∀ i v, i < n → P i v → ∃ d, ds[i]? = some d ∧ Rep G d v) : Drw prog w A (.ref I) (.Name x p) [x] fp wr G (ds.map fun d => [d]) St where
  sub := W.sub
  frame := W.frame
  live := hL
  step := fun i r s Q E hr st h => by
    obtain ⟨d, hd, rfl⟩ := ones_at hr
    have hi : i < n := by rw [hn]; exact (List.getElem?_eq_some_iff.mp hd).1
    refine W.item i s Q E hi st fun v h' tk hv st' hk => h v _ ⟨h', tk, rfl, hk⟩ fun env E' Q' hq => ?_
    obtain ⟨d', hd', r'⟩ := hP i v hi hv
    rw [hd] at hd'; cases hd'
    have := hq [v] _ ⟨v, [], rfl, r', rfl⟩ (Kp.refl _ _) st'
    show wpAny _ A (pure ()) _ _ _
    exact wpAny_pure (wpAny_assign_Name this)
  done := fun s Q E st h => W.done s Q E (by simpa [hn] using st) fun h' tk hk => h _ ⟨h', tk, rfl, hk⟩
  self := W.self

theorem Drw.tuple {prog : Program} {w : World} {A : Around} {I : Addr} {es : List Expr} {q : Nat} {p : Pos} {xs : List Str} {fp wr : List Addr} {G : View} {n : Nat} {rows : List (List D)} {P : Nat → Array Value → Prop} {St : Nat → Heap → Prop} {Mid : Nat → Addr → Heap → Prop}
    (hh : A.handled = none) (W : WalksU prog w A I fp wr n P St Mid) (hn : n = rows.length) (hx : namesOf es = some xs)
    (hL : ∀ i h, St i h → ∀ a ∈ wr, ∃ o, h.get? a = some o) (hP : ∀ i vs, P i vs → ∃ ds, rows[i]? = some ds ∧ Reps G ds vs.toList ∧ ds.length = xs.length) : Drw prog w A (.ref I) (.Tuple es q p) xs fp wr G rows St where
  sub := W.sub
  frame := W.frame
  live := hL
  step := fun i r s Q E hr st h => by
    have hi : i < n := by rw [hn]; exact (List.getElem?_eq_some_iff.mp hr).1
    refine W.item i s Q E hi st fun T vs h' tk hv hT hm hk => h (.ref T) _ ⟨h', tk, rfl, hk⟩ fun env E' Q' hq => ?_
    obtain ⟨ds, hd, r', hl⟩ := hP i vs hv
    rw [hr] at hd; cases hd
    refine W.go es q p i T _ _ _ hm fun h2 st2 hk2 => ?_
    have hT2 : h2.IsTuple T vs := by
      obtain ⟨o, e, rr⟩ := hT
      exact ⟨o, hk2 _ _ (W.apart i T _ hm) e, rr⟩
    have hne := namesOf_each (env := env) es xs hx
    have hlen : xs.length = vs.size := by have := r'.length; simp at this; omega
    refine wpAny_assign_Tuple hh hT2 (hne.1.trans hlen) hne.2 fun h3 hk3 => ?_
    refine inOrder_names es xs _ _ hx ?_
    have k3 : ∀ a o, h2.get? a = some o → h3.get? a = some o := fun a o e => hk3 a o (Nat.ne_of_lt (Heap.lt_size e)) e
    exact hq vs.toList _ r' ⟨h3, tk, rfl, fun a o ha e => k3 a o (hk2 a o ha e)⟩ (W.frame _ _ _ st2 fun a _ o e => k3 a o e)
  done := fun s Q E st h => W.done s Q E (by rw [hn]; exact st) fun h' tk hk => h _ ⟨h', tk, rfl, hk⟩
  self := W.self

theorem none_at_size (h : Heap) : h.get? h.objs.size = none := by
  cases e : h.get? h.objs.size with
  | none => rfl
  | some o => exact absurd (Heap.lt_size e) (Nat.lt_irrefl _)
theorem none_above (h : Heap) {a : Addr} (ha : h.objs.size ≤ a) : h.get? a = none := by
  cases e : h.get? a with
  | none => rfl
  | some o => exact absurd (Heap.lt_size e) (Nat.not_lt.mpr ha)

noncomputable def IterAt (b : Base) (A : Around) (W : List Addr) (s s' : Shared) (it : Value) (tgt : Expr) (xs : List Str) (rows : List (List D)) : Prop :=
  ∃ fp wr St, Drw b.prog b.w A it tgt xs fp wr (off (W ++ wr) s'.heap) rows St ∧ St 0 s'.heap ∧ (∀ a ∈ wr, s.heap.get? a = none) ∧ (∀ a ∈ wr, ∃ o, s'.heap.get? a = some o) ∧ ∀ a ∈ fp, a ∉ W ∧ ∃ o, s'.heap.get? a = some o

section
variable {b : Base} {A : Around} {E : Value → Shared → Prop} {s : Shared} {W : List Addr} {k : Nat}

theorem grow {s' : Shared} {wr : List Addr} (hw : ∀ a ∈ wr, s.heap.get? a = none) (hk : ∀ a o, s.heap.get? a = some o → s'.heap.get? a = some o) : (off W s.heap).le (off (W ++ wr) s'.heap) :=
  off_grow (fun a o _ e => hk a o e) fun a ha => (List.mem_append.mp ha).imp id fun h => hw a h

theorem iter_list {tgt : Expr} {x : Str} {p : Pos} {v : Value} {ds : List D} {Q : Value → Shared → Prop} (ok : Ok b A W k s) (r : Rep (off W s.heap) (.list ds) v) (ht : tgt = .Name x p)
    (h : ∀ it s', Post A s s' → IterAt b A W s s' it tgt [x] (ds.map fun d => [d]) → Q it s') : wpAny (model b.prog b.w) A (pyIter v) Q E s := by
  subst ht
  obtain ⟨a, vs, rfl, sq, rs⟩ := r
  have n1 := rs.length
  have hl := sq.list
  have hax : a < s.heap.objs.size := by obtain ⟨_, e, _⟩ := hl; exact Heap.lt_size e
  refine wpAny_pyIter_list hl (h _ _ (Post.push A s _ s.toks) ⟨[s.heap.objs.size, a], [s.heap.objs.size], _, Drw.name (ds := ds) (Walks.list ok.handled s.heap.objs.size a (Nat.ne_of_lt hax) vs.toArray) (by simp [n1]) (fun i h st a ha => by rw [List.mem_singleton.mp ha]; obtain ⟨o, e, _⟩ := st.1; exact ⟨o, e⟩) ?_, ?_, ?_, ?_, ?_⟩)
  · intro i v _ hv
    have hv' : vs[i]? = some v := by simpa using hv
    have hi : i < ds.length := by have := (List.getElem?_eq_some_iff.mp hv').1; omega
    obtain ⟨u, e1, r1⟩ := rs.at (List.getElem?_eq_getElem hi)
    rw [hv'] at e1; cases e1
    exact ⟨_, List.getElem?_eq_getElem hi, r1.mono (grow (fun a ha => by rw [List.mem_singleton.mp ha]; exact none_at_size s.heap) fun a o e => Heap.get?_push_of_some _ e)⟩
  · exact ⟨⟨_, Heap.get?_push_size _ rfl, rfl, rfl⟩, hl.push _⟩
  · intro a ha; rw [List.mem_singleton.mp ha]; exact none_at_size s.heap
  · intro a ha; rw [List.mem_singleton.mp ha]; exact ⟨_, Heap.get?_push_size _ rfl⟩
  · intro c hc
    rcases List.mem_cons.mp hc with rfl | hc
    · exact ⟨ok.fresh, _, Heap.get?_push_size _ rfl⟩
    · rw [List.mem_singleton.mp hc]
      obtain ⟨_, _, e, _⟩ := sq
      exact ⟨(off_some.mp e).1, _, Heap.get?_push_of_some _ (off_some.mp e).2⟩

theorem iter_tup {tgt : Expr} {x : Str} {p : Pos} {v : Value} {ds : List D} {Q : Value → Shared → Prop} (ok : Ok b A W k s) (r : Rep (off W s.heap) (.tup ds) v) (ht : tgt = .Name x p)
    (h : ∀ it s', Post A s s' → IterAt b A W s s' it tgt [x] (ds.map fun d => [d]) → Q it s') : wpAny (model b.prog b.w) A (pyIter v) Q E s := by
  subst ht
  obtain ⟨a, vs, rfl, sq, rs⟩ := r
  have n1 := rs.length
  have hl := sq.tuple
  have hax : a < s.heap.objs.size := by obtain ⟨_, e, _⟩ := hl; exact Heap.lt_size e
  refine wpAny_pyIter_tuple hl (h _ _ (Post.push A s _ s.toks) ⟨[s.heap.objs.size, a], [s.heap.objs.size], _, Drw.name (ds := ds) (Walks.tuple ok.handled s.heap.objs.size a (Nat.ne_of_lt hax) vs.toArray) (by simp [n1]) (fun i h st a ha => by rw [List.mem_singleton.mp ha]; obtain ⟨o, e, _⟩ := st.1; exact ⟨o, e⟩) ?_, ?_, ?_, ?_, ?_⟩)
  · intro i v _ hv
    have hv' : vs[i]? = some v := by simpa using hv
    have hi : i < ds.length := by have := (List.getElem?_eq_some_iff.mp hv').1; omega
    obtain ⟨u, e1, r1⟩ := rs.at (List.getElem?_eq_getElem hi)
    rw [hv'] at e1; cases e1
    exact ⟨_, List.getElem?_eq_getElem hi, r1.mono (grow (fun a ha => by rw [List.mem_singleton.mp ha]; exact none_at_size s.heap) fun a o e => Heap.get?_push_of_some _ e)⟩
  · exact ⟨⟨_, Heap.get?_push_size _ rfl, rfl, rfl⟩, hl.push _⟩
  · intro a ha; rw [List.mem_singleton.mp ha]; exact none_at_size s.heap
  · intro a ha; rw [List.mem_singleton.mp ha]; exact ⟨_, Heap.get?_push_size _ rfl⟩
  · intro c hc
    rcases List.mem_cons.mp hc with rfl | hc
    · exact ⟨ok.fresh, _, Heap.get?_push_size _ rfl⟩
    · rw [List.mem_singleton.mp hc]
      obtain ⟨_, _, e, _⟩ := sq
      exact ⟨(off_some.mp e).1, _, Heap.get?_push_of_some _ (off_some.mp e).2⟩

noncomputable def rngL (a b c : Int) : List D := (List.range (Builtin.Range.rangeSize a b c).toNat).map fun (i : Nat) => .int (a + ((i : Nat) : Int) * c)
theorem rangeSize_nonneg (a b c : Int) : 0 ≤ Builtin.Range.rangeSize a b c := by
  unfold Builtin.Range.rangeSize
  split
  · split
    · have : 0 ≤ (b - a - 1) / c := Int.ediv_nonneg (by omega) (by omega)
      omega
    · omega
  · split
    · rename_i h1 h2
      have : 0 ≤ (a - b - 1) / (-c) := Int.ediv_nonneg (by omega) (by omega)
      omega
    · omega
theorem iter_rng {tgt : Expr} {x : Str} {p : Pos} {v : Value} {l u c : Int} {Q : Value → Shared → Prop} (ok : Ok b A W k s) (r : Rep (off W s.heap) (.rng l u c) v) (hs : Builtin.Range.small l u c = true) (ht : tgt = .Name x p)
    (h : ∀ it s', Post A s s' → IterAt b A W s s' it tgt [x] ((rngL l u c).map fun d => [d]) → Q it s') : wpAny (model b.prog b.w) A (pyIter v) Q E s := by
  subst ht
  obtain ⟨a, rfl, t1, t2, t3, g⟩ := r
  have hn := Int.toNat_of_nonneg (rangeSize_nonneg l u c)
  refine wpAny_pyIter_range (off_get g) hs (h _ _ (Post.push A s _ s.toks) ⟨[s.heap.objs.size], [s.heap.objs.size], _, Drw.name (ds := rngL l u c) (Walks.range ok.handled s.heap.objs.size l c (Builtin.Range.rangeSize l u c).toNat) (by simp [rngL]) (fun i h st a ha => by rw [List.mem_singleton.mp ha]; exact ⟨_, st⟩) ?_, ?_, ?_, ?_, ?_⟩)
  · intro i v hi hv
    obtain ⟨t, rfl⟩ := hv
    exact ⟨.int (l + ((i : Nat) : Int) * c), by simp [rngL, hi], t, rfl⟩
  · have : IsRangeIter (s.heap.push { cls := .type "range_iterator", data := .fields #[rawInt l, rawInt (Builtin.Range.rangeSize l u c), rawInt c] }) s.heap.objs.size l (Builtin.Range.rangeSize l u c) c := Heap.get?_push_size _ rfl
    simpa [hn] using this
  · intro a ha; rw [List.mem_singleton.mp ha]; exact none_at_size s.heap
  · intro a ha; rw [List.mem_singleton.mp ha]; exact ⟨_, Heap.get?_push_size _ rfl⟩
  · intro a ha; rw [List.mem_singleton.mp ha]; exact ⟨ok.fresh, _, Heap.get?_push_size _ rfl⟩

noncomputable def signs (x : Str) : List D := x.cps.toList.map fun c => .str ⟨#[c]⟩
end
end Mine
end
section
namespace Mine

noncomputable def tupRows (n : Nat) : List D → Option (List (List D))
  | [] => some []
  | d :: r => (asTup d).bind fun ds => if ds.length = n then (tupRows n r).map (ds :: ·) else none
theorem tupRows_at {n : Nat} : ∀ {l : List D}, Ret (tupRows n l) fun rows => l = rows.map D.tup ∧ ∀ ds ∈ rows, ds.length = n
  | [] => .some ⟨rfl, fun _ h => nomatch h⟩
  | d :: r => .bind fun ds hd => .ite fun hl => .map fun rows h => by
    obtain ⟨h1, h2⟩ := tupRows_at rows h
    exact ⟨by rw [asTup_eq ds hd, h1]; rfl, List.forall_mem_cons.mpr ⟨hl, h2⟩⟩

section
variable {b : Base} {A : Around} {E : Value → Shared → Prop} {s : Shared} {W : List Addr} {k : Nat}

theorem addr_ne {a b : Nat} (h : a < b ∨ b < a) : @Ne Addr a b := fun e => by have e' : (a : Nat) = b := e; omega
theorem above2 {n : Nat} {z : Addr} (h : z ∈ ([n + 1, n] : List Addr)) : n ≤ z := by
  rcases List.mem_cons.mp h with rfl | h
  · exact Nat.le_add_right _ _
  · rw [List.mem_singleton.mp h]; exact Nat.le_refl _
theorem above4 {n : Nat} {z : Addr} (h : z ∈ ([n + 4, n + 3, n, n + 1] : List Addr)) : n ≤ z := by
  rcases List.mem_cons.mp h with rfl | h
  · exact Nat.le_add_right _ _
  · rcases List.mem_cons.mp h with rfl | h
    · exact Nat.le_add_right _ _
    · rcases List.mem_cons.mp h with rfl | h
      · exact Nat.le_refl _
      · rw [List.mem_singleton.mp h]; exact Nat.le_add_right _ _

noncomputable def enumL (l : List D) : List (List D) := l.zipIdx.map fun (d, i) => [.int (i : Nat), d]
theorem enumL_at {l : List D} {i : Nat} {d : D} (h : l[i]? = some d) : (enumL l)[i]? = some [.int (i : Nat), d] := by
  unfold enumL
  rw [List.getElem?_map, List.getElem?_zipIdx, h]
  simp

theorem enum_list {tgt : Expr} {es : List Expr} {q : Nat} {p : Pos} {xs : List Str} {v : Value} {ds : List D} {Q : Value → Shared → Prop} (ok : Ok b A W k s) (r : Rep (off W s.heap) (.list ds) v) (hx : namesOf es = some xs) (hr : xs.length = 2) (ht : tgt = .Tuple es q p)
    (h : ∀ it s', Post A s s' → IterAt b A W s s' it tgt xs (enumL ds) → Q it s') : wpAny (model b.prog b.w) A (call (.type "enumerate") [v]) (fun x s1 => wpAny (model b.prog b.w) A (pyIter x) Q E s1) E s := by
  subst ht
  obtain ⟨a, vs, rfl, sq, rs⟩ := r
  have n1 := rs.length
  have hl := sq.list
  have hax : @LT.lt Nat _ a s.heap.objs.size := by obtain ⟨_, e, _⟩ := hl; exact Heap.lt_size e
  refine call_enumerate_list hl fun h' he hit hsz hk => ?_
  have hl' : h'.IsList a vs.toArray := by obtain ⟨o, e, rr⟩ := hl; exact ⟨o, hk _ _ e, rr⟩
  have wt := WalksT.enumerate (prog := b.prog) (w := b.w) ok.handled (s.heap.objs.size + 1) s.heap.objs.size a (addr_ne (by omega)) (addr_ne (by omega)) (addr_ne (by omega)) vs.toArray
  refine wt.self 0 _ _ _ ⟨⟨_, he⟩, hit, hl'⟩ (h _ _ (Post.of_keeps (tk := s.toks) hk) ⟨_, _, _, Drw.tuple (rows := enumL ds) ok.handled wt.toU.bound (by simp [enumL, n1]) hx (fun i h st a ha => by
      rcases List.mem_cons.mp ha with rfl | ha
      · obtain ⟨_, e⟩ := st.1; exact ⟨_, e⟩
      · rw [List.mem_singleton.mp ha]; obtain ⟨o, e, _⟩ := st.2.1; exact ⟨o, e⟩) ?_, ⟨⟨_, he⟩, hit, hl'⟩, ?_, ?_, ?_⟩)
  · rintro i vs' ⟨hi, t, x, hx', rfl⟩
    have hi' : i < ds.length := by simpa [n1] using hi
    have hx2 : vs[i]? = some x := by simpa using hx'
    obtain ⟨u, e1, r1⟩ := rs.at (List.getElem?_eq_getElem hi')
    rw [hx2] at e1; cases e1
    refine ⟨_, enumL_at (List.getElem?_eq_getElem hi'), ⟨_, _, rfl, ⟨t, rfl⟩, x, [], rfl, r1.mono (grow (fun a ha => ?_) hk), rfl⟩, by simp [hr]⟩
    exact none_above _ (above2 ha)
  · intro a ha; exact none_above _ (above2 ha)
  · intro a ha
    rcases List.mem_cons.mp ha with rfl | ha
    · exact ⟨_, he⟩
    · rw [List.mem_singleton.mp ha]; obtain ⟨o, e, _⟩ := hit; exact ⟨o, e⟩
  · intro c hc
    rcases List.mem_cons.mp hc with rfl | hc
    · exact ⟨ok.dead (Nat.le_add_right _ _), _, he⟩
    · rcases List.mem_cons.mp hc with rfl | hc
      · obtain ⟨o, e, _⟩ := hit; exact ⟨ok.fresh, o, e⟩
      · rw [List.mem_singleton.mp hc]
        obtain ⟨_, _, e, _⟩ := sq
        exact ⟨(off_some.mp e).1, _, hk _ _ (off_some.mp e).2⟩

noncomputable def zipL (l l' : List D) : List (List D) := (l.zip l').map fun (d, e) => [d, e]
theorem zip_list {tgt : Expr} {es : List Expr} {q : Nat} {p : Pos} {xs : List Str} {v u : Value} {ds es' : List D} {Q : Value → Shared → Prop} (ok : Ok b A W k s) (r : Rep (off W s.heap) (.list ds) v) (r' : Rep (off W s.heap) (.list es') u) (hx : namesOf es = some xs) (hr : xs.length = 2) (ht : tgt = .Tuple es q p)
    (h : ∀ it s', Post A s s' → IterAt b A W s s' it tgt xs (zipL ds es') → Q it s') : wpAny (model b.prog b.w) A (call (.type "zip") [v, u]) (fun x s1 => wpAny (model b.prog b.w) A (pyIter x) Q E s1) E s := by
  subst ht
  obtain ⟨a, vs, rfl, sq, rs⟩ := r
  obtain ⟨a2, us, rfl, sq2, rs2⟩ := r'
  have n1 := rs.length
  have n2 := rs2.length
  have hl := sq.list
  have hl2 := sq2.list
  have hax : @LT.lt Nat _ a s.heap.objs.size := by obtain ⟨_, e, _⟩ := hl; exact Heap.lt_size e
  have hax2 : @LT.lt Nat _ a2 s.heap.objs.size := by obtain ⟨_, e, _⟩ := hl2; exact Heap.lt_size e
  refine call_zip_2 hl hl2 fun h' hz hTI hTO h1 h2 hsz hk => ?_
  have hl' : h'.IsList a vs.toArray := by obtain ⟨o, e, rr⟩ := hl; exact ⟨o, hk _ _ e, rr⟩
  have hl2' : h'.IsList a2 us.toArray := by obtain ⟨o, e, rr⟩ := hl2; exact ⟨o, hk _ _ e, rr⟩
  have wt := WalksT.zip2 (prog := b.prog) (w := b.w) ok.handled (s.heap.objs.size + 4) (s.heap.objs.size + 2) (s.heap.objs.size + 3) s.heap.objs.size (s.heap.objs.size + 1) a a2
    ⟨addr_ne (by omega), addr_ne (by omega), addr_ne (by omega), addr_ne (by omega), addr_ne (by omega), addr_ne (by omega), addr_ne (by omega), addr_ne (by omega), addr_ne (by omega), addr_ne (by omega), addr_ne (by omega), addr_ne (by omega), addr_ne (by omega), addr_ne (by omega), addr_ne (by omega), addr_ne (by omega), addr_ne (by omega), addr_ne (by omega)⟩ vs.toArray us.toArray
  have st : IsZip h' (s.heap.objs.size + 4) (s.heap.objs.size + 2) (s.heap.objs.size + 3) .none ∧ IsPair h' (s.heap.objs.size + 2) (.ref s.heap.objs.size) (.ref (s.heap.objs.size + 1)) ∧ (∃ a b, IsPair h' (s.heap.objs.size + 3) a b) ∧ h'.IsListIter s.heap.objs.size a 0 ∧ h'.IsListIter (s.heap.objs.size + 1) a2 0 ∧ h'.IsList a vs.toArray ∧ h'.IsList a2 us.toArray :=
    ⟨hz, hTI, ⟨_, _, hTO⟩, h1, h2, hl', hl2'⟩
  refine wt.self 0 _ _ _ st (h _ _ (Post.of_keeps (tk := s.toks) hk) ⟨_, _, _, Drw.tuple (rows := zipL ds es') ok.handled wt.toU.bound (by simp [zipL, n1, n2]) hx (fun i h st a ha => by
      simp at ha
      rcases ha with rfl | rfl | rfl | rfl
      · exact ⟨_, st.1⟩
      · obtain ⟨_, _, e⟩ := st.2.2.1; exact ⟨_, e⟩
      · obtain ⟨o, e, _⟩ := st.2.2.2.1; exact ⟨o, e⟩
      · obtain ⟨o, e, _⟩ := st.2.2.2.2.1; exact ⟨o, e⟩) ?_, st, ?_, ?_, ?_⟩)
  · rintro i vs' ⟨hi, x, y, hx', hy', rfl⟩
    have hx2 : vs[i]? = some x := by simpa using hx'
    have hy2 : us[i]? = some y := by simpa using hy'
    have hi1 : i < ds.length := by have := (List.getElem?_eq_some_iff.mp hx2).1; omega
    have hi2 : i < es'.length := by have := (List.getElem?_eq_some_iff.mp hy2).1; omega
    obtain ⟨u1, e1, r1⟩ := rs.at (List.getElem?_eq_getElem hi1)
    rw [hx2] at e1; cases e1
    obtain ⟨u2, e2, r2⟩ := rs2.at (List.getElem?_eq_getElem hi2)
    rw [hy2] at e2; cases e2
    have gg := grow (s' := { s with heap := h' }) (W := W) (wr := [s.heap.objs.size + 4, s.heap.objs.size + 3, s.heap.objs.size, s.heap.objs.size + 1]) (fun a ha => none_above _ (above4 ha)) hk
    exact ⟨[ds[i], es'[i]], by simp [zipL, List.getElem?_zip_eq_some, hi1, hi2], ⟨_, _, rfl, r1.mono gg, _, [], rfl, r2.mono gg, rfl⟩, by simp [hr]⟩
  · intro a ha; exact none_above _ (above4 ha)
  · intro a ha
    simp at ha
    rcases ha with rfl | rfl | rfl | rfl
    · exact ⟨_, hz⟩
    · exact ⟨_, hTO⟩
    · obtain ⟨o, e, _⟩ := h1; exact ⟨o, e⟩
    · obtain ⟨o, e, _⟩ := h2; exact ⟨o, e⟩
  · intro c hc
    simp at hc
    rcases hc with rfl | rfl | rfl | rfl | rfl | rfl | rfl
    · exact ⟨ok.dead (Nat.le_add_right _ _), _, hz⟩
    · exact ⟨ok.dead (Nat.le_add_right _ _), _, hTI⟩
    · exact ⟨ok.dead (Nat.le_add_right _ _), _, hTO⟩
    · obtain ⟨o, e, _⟩ := h1; exact ⟨ok.fresh, o, e⟩
    · obtain ⟨o, e, _⟩ := h2; exact ⟨ok.dead (Nat.le_add_right _ _), o, e⟩
    · obtain ⟨_, _, e, _⟩ := sq
      exact ⟨(off_some.mp e).1, _, hk _ _ (off_some.mp e).2⟩
    · obtain ⟨_, _, e, _⟩ := sq2
      exact ⟨(off_some.mp e).1, _, hk _ _ (off_some.mp e).2⟩
end

section
variable {prog : Program} {w : World} {A : Around} {E : Value → Shared → Prop} {s : Shared}
open AutoSeq1 (wpAny_loadPart')

theorem nextOf_tup_item {it t : Addr} {i : Nat} {items : Array Value} {x : Value} {Q : Value → Shared → Prop} (hit : s.heap.IsTupleIter it t i) (ht : s.heap.IsTuple t items) (hx : items[i]? = some x)
    (hQ : ∀ h', h'.IsTupleIter it t (i + 1) → Heap.SameBut it s.heap h' → Q x { s with heap := h' }) : wpAny (model prog w) A (Builtin.SmallTypes.nextOf (.ref it)) Q E s := by
  obtain ⟨o, ho, hc, hd⟩ := id hit
  obtain ⟨ot, hot, _, nt, hdt⟩ := ht
  have hfr : (o.mapFields fun z => z.setIfInBounds 1 (rawInt (i + 1))).isFreed = false := Obj.isFreed_of_fields (Obj.data_mapFields hd _)
  unfold Builtin.SmallTypes.nextOf
  refine wpAny_bind (wpAny_callSpecial?_slot (name := Str.ofString "__next__") hit.typeIs PySem.F.slot_tuple_iterator_next (wpAny_call_entry PySem.F.slot_tuple_iterator_next hit.typeIs PySem.F.entry_tuple_iterator_next ?_ (PySem.F.args_tuple_iterator_next_1 _)))
  show wpAny _ _ (field (.ref it) 0 >>= _) _ _ s
  refine wpAny_bind (wpAny_field ho hd (x := .ref t) rfl ?_)
  show wpAny _ _ (if (Value.ref t == Value.none) = true then _ else _) _ _ s
  rw [if_neg (show ¬ ((Value.ref t == Value.none) = true) from Bool.false_ne_true)]
  show wpAny _ _ (field (.ref it) 1 >>= _) _ _ s
  refine wpAny_bind (wpAny_field ho hd (x := .int i 0) rfl ?_)
  show wpAny _ _ (seqItems? (.ref t) >>= _) _ _ s
  refine wpAny_bind (wpAny_seqItems hot hdt ?_)
  simp only [Int.toNat_natCast, hx]
  refine wpAny_bind (wpAny_setField ho hd (by simp) (wpAny_pure ⟨x, rfl, wpAny_pure (hQ _ ⟨_, Heap.get?_update_self _ ho hfr, (Obj.cls_mapFields ..).trans hc, ?_⟩ (Heap.SameBut.update ..))⟩))
  rw [Obj.data_mapFields hd]; simp [rawInt]
theorem nextOf_tup_end {it t : Addr} {i : Nat} {items : Array Value} {Q : Value → Shared → Prop} (hh : A.handled = none) (hit : s.heap.IsTupleIter it t i) (ht : s.heap.IsTuple t items) (hx : items[i]? = none)
    (hE : ∀ h' e, Heap.ExtBut it s.heap h' → (∃ o, h'.get? e = some o ∧ o.cls = .type "StopIteration") → E (.ref e) { s with heap := h' }) : wpAny (model prog w) A (Builtin.SmallTypes.nextOf (.ref it)) Q E s := by
  obtain ⟨o, ho, hc, hd⟩ := id hit
  obtain ⟨ot, hot, _, nt, hdt⟩ := ht
  unfold Builtin.SmallTypes.nextOf
  refine wpAny_bind (wpAny_callSpecial?_slot (name := Str.ofString "__next__") hit.typeIs PySem.F.slot_tuple_iterator_next (wpAny_call_entry PySem.F.slot_tuple_iterator_next hit.typeIs PySem.F.entry_tuple_iterator_next ?_ (PySem.F.args_tuple_iterator_next_1 _)))
  show wpAny _ _ (field (.ref it) 0 >>= _) _ _ s
  refine wpAny_bind (wpAny_field ho hd (x := .ref t) rfl ?_)
  show wpAny _ _ (if (Value.ref t == Value.none) = true then _ else _) _ _ s
  rw [if_neg (show ¬ ((Value.ref t == Value.none) = true) from Bool.false_ne_true)]
  show wpAny _ _ (field (.ref it) 1 >>= _) _ _ s
  refine wpAny_bind (wpAny_field ho hd (x := .int i 0) rfl ?_)
  show wpAny _ _ (seqItems? (.ref t) >>= _) _ _ s
  refine wpAny_bind (wpAny_seqItems hot hdt ?_)
  simp only [Int.toNat_natCast, hx]
  refine wpAny_bind (wpAny_rule (wpAny_bind (wpAny_setField ho hd (by simp) ?_)))
  show wpAny _ _ (newExc (.type "StopIteration") [] >>= _) _ _ _
  refine wpAny_bind ?_
  simp only [newExc, newTuple]
  refine wpAny_bind (wpAny_newObj_type ?_ (by size_fits))
  refine wpAny_bind (m := firstArgMember _ _) (wpAny_of_eq (a := Value.none) (by first | rfl | (simp only [firstArgMember]; rfl)) ?_)
  refine wpAny_newObj_type ?_ (by size_fits)
  simp only [raiseNew]
  refine wpAny_bind (wpAny_handled ?_)
  first | rw [show A.in1.handled = none from hh] | rw [hh]
  refine wpAny_bind (wpAny_pure (wpAny_throw ?_))
  exact hE _ _ (((Heap.SameBut.update ..).extBut.push _).push _) ⟨_, Heap.get?_push_size _ rfl, rfl⟩
theorem drawsTup (hh : A.handled = none) (it t : Addr) (hne : t ≠ it) (items : Array Value) : PySem.Draws prog w A it [it, t] items.size (fun i v => items[i]? = some v) (fun i h => h.IsTupleIter it t i ∧ h.IsTuple t items) where
  live := fun _ _ st => let ⟨o, ho, _⟩ := st.1; ⟨o, ho⟩
  frame := fun _ _ _ st hk => ⟨st.1.at fun o e => hk it (by simp) o e, st.2.at fun o e => hk t (by simp) o e⟩
  item := fun i s Q E hi st hQ => nextOf_tup_item st.1 st.2 (x := items[i]) (by simp [hi]) fun h' hit' hs' => hQ _ h' s.toks (by simp [hi]) ⟨hit', st.2.extBut hs'.extBut hne⟩ hs'
  done := fun s Q E st hE => nextOf_tup_end hh st.1 st.2 (by simp) hE

theorem pure_all {α : Type} {Q : α → Shared → Prop} {x : α} (h : ∀ z, Q z s) : wpAny (model prog w) A (pure x : Sem α) Q E s := wpAny_pure (h x)
theorem meets_enum_tup (l : Addr) (items : Array Value) (n : Nat) (dct : Option Addr) (sl : Array (Option Value)) :
    Meets (Builtin.«enumerate.__new__» ⟨[.type "enumerate", .ref l], []⟩) (fun _ R s => s.heap.get? l = some { cls := .type "tuple", dict := dct, data := .seq items n, slots := sl } ∧
      R (.ok (.ret (.ref (s.heap.push { cls := .type "tuple_iterator", data := .fields #[.ref l, .int 0 0] }).objs.size)))
        { s with heap := (s.heap.push { cls := .type "tuple_iterator", data := .fields #[.ref l, .int 0 0] }).push { cls := .type "enumerate", data := .fields #[.none, .bool false, .ref s.heap.objs.size, rawInt 0, .none, .none] } }) :=
  .of_wp fun prog w A R s h => by
    obtain ⟨hp, g, d, tk, os⟩ := s; obtain ⟨hl, h⟩ := h
    have hsub := sub_enumerate
    have hL : Heap.IsTuple (Shared.heap ⟨hp, g, d, tk, os⟩) l items := ⟨_, hl, rfl, n, rfl⟩
    wp_walk using wpAny_loadPart' hl
    refine wpAny_stack_any fun st => pure_all fun z => ?_
    cases z
    · wp_walk using wpAny_loadPart' hl, wpAny_pyIter_tuple hL
      exact ⟨_, rfl, h⟩
    · wp_walk using wpAny_loadPart' hl, wpAny_pyIter_tuple hL
      exact ⟨_, rfl, h⟩
theorem call_enum_tup {l : Addr} {items : Array Value} {Q : Value → Shared → Prop} (hL : s.heap.IsTuple l items)
    (h : ∀ h', IsEnum h' (s.heap.objs.size + 1) s.heap.objs.size 0 .none → h'.IsTupleIter s.heap.objs.size l 0 → h'.objs.size = s.heap.objs.size + 2 → (∀ b o, s.heap.get? b = some o → h'.get? b = some o) → Q (.ref (s.heap.objs.size + 1)) { s with heap := h' }) :
    wpAny (model prog w) A (call (.type "enumerate") [.ref l]) Q E s := by
  obtain ⟨⟨c, dct, dt, sl⟩, hl, hc, n, hd⟩ := hL
  replace hc : c = .type "tuple" := hc
  replace hd : dt = .seq items n := hd
  subst hc hd
  refine callType_new PySem.F.called_enumerate (by decide) (PySem.F.typeCall_enumerate_1 _) (PySem.F.newCall_enumerate_1 _) (fun obj => PySem.F.args_object_init_2 obj _) PySem.F.entry_enumerate_new (meets_enum_tup l items n dct sl) ⟨hl, ?_⟩
  have hz : (s.heap.push { cls := .type "tuple_iterator", data := .fields #[.ref l, .int 0 0] }).objs.size = s.heap.objs.size + 1 := Heap.size_push ..
  show _ ∧ _
  rw [hz]
  have he := Heap.get?_push_size (s.heap.push { cls := .type "tuple_iterator", data := .fields #[.ref l, .int 0 0] }) (o := { cls := .type "enumerate", data := .fields #[.none, .bool false, .ref s.heap.objs.size, rawInt 0, .none, .none] }) rfl
  rw [hz] at he
  exact ⟨⟨_, he, rfl⟩, h _ he ⟨_, Heap.get?_push_of_some _ (Heap.get?_push_size _ rfl), rfl, rfl⟩ (by rw [Heap.size_push, hz]) fun b o x => Heap.get?_push_of_some _ (Heap.get?_push_of_some _ x)⟩
end

section
variable {b : Base} {A : Around} {E : Value → Shared → Prop} {s : Shared} {W : List Addr} {k : Nat}

theorem enum_tup {tgt : Expr} {es : List Expr} {q : Nat} {p : Pos} {xs : List Str} {v : Value} {ds : List D} {Q : Value → Shared → Prop} (ok : Ok b A W k s) (r : Rep (off W s.heap) (.tup ds) v) (hx : namesOf es = some xs) (hr : xs.length = 2) (ht : tgt = .Tuple es q p)
    (h : ∀ it s', Post A s s' → IterAt b A W s s' it tgt xs (enumL ds) → Q it s') : wpAny (model b.prog b.w) A (call (.type "enumerate") [v]) (fun x s1 => wpAny (model b.prog b.w) A (pyIter x) Q E s1) E s := by
  subst ht
  obtain ⟨a, vs, rfl, sq, rs⟩ := r
  have n1 := rs.length
  have hl := sq.tuple
  have hax : @LT.lt Nat _ a s.heap.objs.size := by obtain ⟨_, e, _⟩ := hl; exact Heap.lt_size e
  refine call_enum_tup hl fun h' he hit hsz hk => ?_
  have hl' : h'.IsTuple a vs.toArray := by obtain ⟨o, e, rr⟩ := hl; exact ⟨o, hk _ _ e, rr⟩
  have wt := WalksT.enumerateD (prog := b.prog) (w := b.w) (A := A) (drawsTup (A := A.in1) ok.handled s.heap.objs.size a (addr_ne (by omega)) vs.toArray) (s.heap.objs.size + 1) (addr_ne (by omega)) (fun hm => by
    rcases List.mem_cons.mp hm with e | hm
    · exact absurd e (addr_ne (by omega))
    · exact absurd (List.mem_singleton.mp hm) (addr_ne (by omega))) List.mem_cons_self
  refine wt.self 0 _ _ _ ⟨⟨_, he⟩, hit, hl'⟩ (h _ _ (Post.of_keeps (tk := s.toks) hk) ⟨_, _, _, Drw.tuple (rows := enumL ds) ok.handled wt.toU.bound (by simp [enumL, n1]) hx (fun i h st a ha => by
      rcases List.mem_cons.mp ha with rfl | ha
      · obtain ⟨_, e⟩ := st.1; exact ⟨_, e⟩
      · rw [List.mem_singleton.mp ha]; obtain ⟨o, e, _⟩ := st.2.1; exact ⟨o, e⟩) ?_, ⟨⟨_, he⟩, hit, hl'⟩, ?_, ?_, ?_⟩)
  · rintro i vs' ⟨hi, t, x, hx', rfl⟩
    have hi' : i < ds.length := by simpa [n1] using hi
    have hx2 : vs[i]? = some x := by simpa using hx'
    obtain ⟨u, e1, r1⟩ := rs.at (List.getElem?_eq_getElem hi')
    rw [hx2] at e1; cases e1
    refine ⟨_, enumL_at (List.getElem?_eq_getElem hi'), ⟨_, _, rfl, ⟨t, rfl⟩, x, [], rfl, r1.mono (grow (fun a ha => ?_) hk), rfl⟩, by simp [hr]⟩
    exact none_above _ (above2 ha)
  · intro a ha; exact none_above _ (above2 ha)
  · intro a ha
    rcases List.mem_cons.mp ha with rfl | ha
    · exact ⟨_, he⟩
    · rw [List.mem_singleton.mp ha]; obtain ⟨o, e, _⟩ := hit; exact ⟨o, e⟩
  · intro c hc
    rcases List.mem_cons.mp hc with rfl | hc
    · exact ⟨ok.dead (Nat.le_add_right _ _), _, he⟩
    · rcases List.mem_cons.mp hc with rfl | hc
      · obtain ⟨o, e, _⟩ := hit; exact ⟨ok.fresh, o, e⟩
      · rw [List.mem_singleton.mp hc]
        obtain ⟨_, _, e, _⟩ := sq
        exact ⟨(off_some.mp e).1, _, hk _ _ (off_some.mp e).2⟩

theorem goTupleIter {prog : Program} {w : World} {elts : List Expr} {x1 : Nat} {pos : Pos} {I l T : Addr} {i : Nat} {Q : Unit → Shared → Prop} (hit : s.heap.IsTupleIter I l i) (hQ : Q () s) :
    wpAny (model prog w) A (letOwnedTupleGo (.Tuple elts x1 pos) (.ref I) (.ref T)) Q E s := by
  obtain ⟨o, ho, hc, hd⟩ := hit
  unfold letOwnedTupleGo
  refine wpAny_bind (wpAny_load ho ?_)
  rw [hc, hd]
  show wpAny _ A (if (["enumerate", "zip", "dict_itemiterator", "dict_reverseitemiterator", "odict_iterator", "itertools.zip_longest", "itertools.pairwise"].contains "tuple_iterator" &&
      (#[.ref l, .int i 0] : Array Value)[0]? == some (rawInt T)) = true then _ else _) Q E s
  rw [show (["enumerate", "zip", "dict_itemiterator", "dict_reverseitemiterator", "odict_iterator", "itertools.zip_longest", "itertools.pairwise"].contains "tuple_iterator") = false from by decide, Bool.false_and, if_neg Bool.false_ne_true]
  exact wpAny_pure hQ

theorem walksTupTup {prog : Program} {w : World} (hh : A.handled = none) (I ax : Addr) (hne : ax ≠ I) (items : Array Value) (Ts : Nat → Addr) (vals : Nat → Array Value)
    (hit : ∀ j, j < items.size → items[j]? = some (.ref (Ts j))) (hTI : ∀ j, j < items.size → Ts j ≠ I) :
    WalksU prog w A I (I :: ax :: (List.range items.size).map Ts) [I] items.size (fun j v => v = vals j)
      (fun j h => h.IsTupleIter I ax j ∧ h.IsTuple ax items ∧ ∀ k, k < items.size → h.IsTuple (Ts k) (vals k))
      (fun j T h => (j < items.size ∧ T = Ts j) ∧ h.IsTupleIter I ax (j + 1) ∧ h.IsTuple ax items ∧ ∀ k, k < items.size → h.IsTuple (Ts k) (vals k)) where
  sub := fun b hb => by rw [List.mem_singleton.mp hb]; exact List.mem_cons_self
  frame := fun _ _ _ st hk => ⟨st.1.at fun o e => hk I (by simp) o e, st.2.1.at fun o e => hk ax (by simp) o e,
    fun k hk' => (st.2.2 k hk').at fun o e => hk (Ts k) (List.mem_cons_of_mem _ (List.mem_cons_of_mem _ (List.mem_map.mpr ⟨k, List.mem_range.mpr hk', rfl⟩))) o e⟩
  item := fun i s Q E hi st hQ => by
    refine wpAny_pyNext_tuple_item st.1 st.2.1 (x := .ref (Ts i)) (hit i hi) fun h' hit' hs' => ?_
    have tup : ∀ k, k < items.size → h'.IsTuple (Ts k) (vals k) := fun k hk' => (st.2.2 k hk').extBut hs'.extBut (hTI k hk')
    exact hQ (Ts i) (vals i) h' s.toks rfl (tup i hi) ⟨⟨hi, rfl⟩, hit', st.2.1.extBut hs'.extBut hne, tup⟩ fun b o hb e => hs'.extBut b o (fun h => hb (by simp [h])) e
  go := fun _ _ _ _ _ s Q _ hm hQ => goTupleIter hm.2.1 (hQ s.heap hm.2 fun _ _ _ e => e)
  apart := fun j T _ hm hmem => hTI j hm.1.1 (hm.1.2 ▸ List.mem_singleton.mp hmem)
  done := fun s Q E st hQ => wpAny_pyNext_tuple_end hh st.1 st.2.1 (by simp) fun h' he' => hQ h' s.toks fun b o hb e => he' b o (fun h => hb (by simp [h])) e
  self := fun _ _ _ _ st hQ => wpAny_pyIter_tupleiter st.1 hQ

theorem iter_tpairs {tgt : Expr} {es : List Expr} {q : Nat} {p : Pos} {xs : List Str} {v : Value} {ds : List D} {rows : List (List D)} {Q : Value → Shared → Prop} (ok : Ok b A W k s) (r : Rep (off W s.heap) (.tup ds) v) (hx : namesOf es = some xs) (hr : tupRows xs.length ds = some rows) (ht : tgt = .Tuple es q p)
    (h : ∀ it s', Post A s s' → IterAt b A W s s' it tgt xs rows → Q it s') : wpAny (model b.prog b.w) A (pyIter v) Q E s := by
  subst ht
  obtain ⟨a, vs, rfl, sq, rs⟩ := r
  obtain ⟨rfl, hlen⟩ := tupRows_at _ hr
  have n1 := rs.length
  rw [List.length_map] at n1
  have hl := sq.tuple
  have hax : a < s.heap.objs.size := by obtain ⟨_, e, _⟩ := hl; exact Heap.lt_size e
  have tup : ∀ j (hj : j < vs.length), ∃ T us, vs[j]? = some (.ref T) ∧ Seq (off W s.heap) "tuple" T us ∧ ∃ dd, rows[j]? = some dd ∧ Reps (off W s.heap) dd us := fun j hj => by
    have hj' : j < rows.length := by omega
    obtain ⟨u, e1, T, us, rfl, sq', r'⟩ := rs.at (i := j) (d := .tup rows[j]) (by simp [hj'])
    exact ⟨T, us, e1, sq', _, List.getElem?_eq_getElem hj', r'⟩
  classical
  let Ts : Nat → Addr := fun j => if hj : j < vs.length then (tup j hj).choose else 0
  let us : Nat → List Value := fun j => if hj : j < vs.length then (tup j hj).choose_spec.choose else []
  have spec : ∀ j, j < vs.length → vs[j]? = some (.ref (Ts j)) ∧ Seq (off W s.heap) "tuple" (Ts j) (us j) ∧ ∃ dd, rows[j]? = some dd ∧ Reps (off W s.heap) dd (us j) := fun j hj => by
    have := (tup j hj).choose_spec.choose_spec
    simpa only [Ts, us, dif_pos hj] using this
  have old : ∀ j, j < vs.length → Ts j < s.heap.objs.size := fun j hj => by
    obtain ⟨_, sq', _⟩ := spec j hj
    obtain ⟨_, e, _⟩ := sq'.tuple
    exact Heap.lt_size e
  have wu := walksTupTup (prog := b.prog) (w := b.w) (A := A) ok.handled s.heap.objs.size a (Nat.ne_of_lt hax) vs.toArray Ts (fun j => (us j).toArray) (fun j hj => by simpa using (spec j (by simpa using hj)).1) (fun j hj => Nat.ne_of_lt (old j (by simpa using hj)))
  have g0 : (off W s.heap).le (off (W ++ [s.heap.objs.size]) (s.heap.push { cls := .type "tuple_iterator", data := .fields #[.ref a, .int 0 0] })) :=
    grow (s' := { s with heap := s.heap.push { cls := .type "tuple_iterator", data := .fields #[.ref a, .int 0 0] } }) (fun a ha => by rw [List.mem_singleton.mp ha]; exact none_at_size s.heap) fun a o e => Heap.get?_push_of_some _ e
  refine wpAny_pyIter_tuple hl (h _ _ (Post.push A s _ s.toks) ⟨_, [s.heap.objs.size], _, Drw.tuple (rows := rows) ok.handled wu.bound (by simp [n1]) hx (fun i h st a ha => by rw [List.mem_singleton.mp ha]; obtain ⟨o, e, _⟩ := st.1; exact ⟨o, e⟩) ?_, ?_, ?_, ?_, ?_⟩)
  · rintro i vs' ⟨hi, rfl⟩
    have hi' : i < vs.length := by simpa using hi
    obtain ⟨_, _, dd, hd, r'⟩ := spec i hi'
    exact ⟨dd, hd, by simpa using r'.mono g0, hlen dd (List.mem_of_getElem? hd)⟩
  · refine ⟨⟨_, Heap.get?_push_size _ rfl, rfl, rfl⟩, hl.push _, fun j hj => ?_⟩
    exact (spec j (by simpa using hj)).2.1.tuple.push _
  · intro a ha; rw [List.mem_singleton.mp ha]; exact none_at_size s.heap
  · intro a ha; rw [List.mem_singleton.mp ha]; exact ⟨_, Heap.get?_push_size _ rfl⟩
  · intro c hc
    rcases List.mem_cons.mp hc with rfl | hc
    · exact ⟨ok.fresh, _, Heap.get?_push_size _ rfl⟩
    · rcases List.mem_cons.mp hc with rfl | hc
      · obtain ⟨_, _, e, _⟩ := sq
        exact ⟨(off_some.mp e).1, _, Heap.get?_push_of_some _ (off_some.mp e).2⟩
      · obtain ⟨j, hj, rfl⟩ := List.mem_map.mp hc
        obtain ⟨_, _, e, _⟩ := (spec j (by simpa using hj)).2.1
        exact ⟨(off_some.mp e).1, _, Heap.get?_push_of_some _ (off_some.mp e).2⟩
end
end Mine
end
section
namespace Mine

noncomputable def Pv (A : Around) (V : List Addr) (s s' : Shared) : Prop := ∃ h' tk, s' = { s with heap := h', toks := tk } ∧
  (∀ b o, b ∉ V → b ∉ fr A → s.heap.get? b = some o → h'.get? b = some o) ∧ (∀ b o, b ∉ V → s.heap.get? b = some o → ∃ sl, h'.get? b = some { o with slots := sl })
theorem Pv.refl (A : Around) (V : List Addr) (s : Shared) : Pv A V s s := ⟨s.heap, s.toks, rfl, fun _ _ _ _ e => e, fun _ o _ e => ⟨o.slots, e⟩⟩
theorem Pv.trans {A : Around} {V : List Addr} {s s' s'' : Shared} (x : Pv A V s s') (y : Pv A V s' s'') : Pv A V s s'' := by
  obtain ⟨h1, t1, rfl, a1, b1⟩ := x
  obtain ⟨h2, t2, rfl, a2, b2⟩ := y
  exact ⟨h2, t2, rfl, fun b o n n' e => a2 b o n n' (a1 b o n n' e), fun b o n e => let ⟨sl, e1⟩ := b1 b o n e; let ⟨sl', e2⟩ := b2 b _ n e1; ⟨sl', e2⟩⟩
theorem Pv.mono {A : Around} {V V' : List Addr} {s s' : Shared} (x : Pv A V s s') (h : ∀ a ∈ V, a ∈ V') : Pv A V' s s' := by
  obtain ⟨h1, t1, rfl, a1, b1⟩ := x
  exact ⟨h1, t1, rfl, fun b o n n' e => a1 b o (fun q => n (h b q)) n' e, fun b o n e => b1 b o (fun q => n (h b q)) e⟩
theorem Pv.here {A : Around} {V : List Addr} {s s' : Shared} (x : Pv A V s s') {b : Addr} {o : Obj} (n : b ∉ V) (n' : b ∉ fr A) (e : s.heap.get? b = some o) : s'.heap.get? b = some o := by
  obtain ⟨h1, t1, rfl, a1, _⟩ := x; exact a1 b o n n' e
theorem Pv.view {A : Around} {V W : List Addr} {s s' : Shared} (x : Pv A V s s') (h : ∀ a ∈ V, a ∈ W) (h' : ∀ a ∈ fr A, a ∈ W) : (off W s.heap).le (off W s'.heap) :=
  off_keeps fun b _ hb e => x.here (fun q => hb (h b q)) (fun q => hb (h' b q)) e
theorem Post.pv {A : Around} {s s' : Shared} (x : Post A s s') (V : List Addr) : Pv A V s s' := by
  obtain ⟨h1, t1, rfl, a1, b1⟩ := x
  exact ⟨h1, t1, rfl, fun b o _ n e => a1 b o n e, fun b o _ e => b1 b o e⟩
theorem Kp.pv {A : Around} {V : List Addr} {s s' : Shared} (x : Kp V s s') : Pv A V s s' := by
  obtain ⟨h1, t1, rfl, a1⟩ := x
  exact ⟨h1, t1, rfl, fun b o n _ e => a1 b o n e, fun b o n e => ⟨o.slots, a1 b o n e⟩⟩

section
variable {b : Base} {A : Around} {W W' : List Addr} {k : Nat} {c : Sc} {σ σ' : Names} {env : Env} {m cm : Str → Option Value} {s s' : Shared}

theorem In.names (x : In b A W k c σ env m cm s) (h : ∀ n d, σ'.lookup n = some d → σ.lookup n = some d) : In b A W k c σ' env m cm s :=
  ⟨x.ok, x.fit, x.ine, x.hid, fun n d e => x.rel n d (h n d e)⟩
theorem In.narrow (x : In b A W' k c σ env m cm s) (h : ∀ a ∈ W, a ∈ W') (hf : ∀ a ∈ fr A, a ∈ W) (hh : ∀ a ∈ Mine.hid env, a ∈ W) : In b A W k c σ env m cm s :=
  ⟨⟨x.ok.handled, x.ok.depth, x.ok.units, x.ok.frames, hf, fun a ha => x.ok.low a (h a ha), fun a ha => x.ok.live a (h a ha), x.ok.inv⟩, x.fit, x.ine, hh, fun n d e => let ⟨v, e1, r⟩ := x.rel n d e; ⟨v, e1, r.mono (off_sub h)⟩⟩

theorem In.kp {wr : List Addr} (x : In b A W' k c σ env m cm s) (p : Kp wr s s') (h1 : ∀ a ∈ wr, a ∈ W') (h2 : ∀ a ∈ wr, a ∉ fr A) (h3 : ∀ a ∈ wr, a ∉ Mine.hid env) (h4 : ∀ a ∈ wr, ∃ o, s'.heap.get? a = some o) : In b A W' k c σ env m cm s' := by
  refine ⟨⟨x.ok.handled, x.ok.depth, x.ok.units, ?_, x.ok.sub, x.ok.low, fun a ha => ?_, fun a o e => p.here (fun h => by have := x.ok.low a (h1 a h); rw [e] at this; cases this) (x.ok.inv a o e)⟩, x.fit, ?_, x.hid, fun n d e => ?_⟩
  · obtain ⟨outer, e, f⟩ := x.ok.frames
    refine ⟨outer, e, fun env' he => ?_⟩
    obtain ⟨hk', L, o, g1, g2, g3⟩ := f env' he
    refine ⟨hk', L, o, g1, p.here (fun h => h2 L h ?_) g2, g3⟩
    unfold fr
    rw [e]
    exact List.mem_filterMap.mpr ⟨env', he, g1⟩
  · by_cases hw : a ∈ wr
    · exact h4 a hw
    · obtain ⟨o, e⟩ := x.ok.live a ha
      exact ⟨o, p.here hw e⟩
  · exact x.ine.keeps fun a ha o e => p.here (fun h => h3 a h ha) e
  · obtain ⟨v, e1, r⟩ := x.rel n d e
    exact ⟨v, e1, r.mono (p.view h1)⟩

theorem Drw.turn {it : Value} {tgt : Expr} {xs : List Str} {fp wr : List Addr} {G : View} {rows : List (List D)} {St : Nat → Heap → Prop} (dr : Drw b.prog b.w A it tgt xs fp wr G rows St)
    (x : In b A (W ++ wr) k c σ env m cm s) (hf : ∀ a ∈ fr A, a ∈ W) (hh : ∀ a ∈ hid env, a ∈ W) (hw : ∀ a ∈ wr, a ∉ W) (hfp : ∀ a ∈ fp, a ∉ W) (hG : G.le (off (W ++ wr) s.heap)) {i : Nat} (st : St i s.heap) {ds : List D} (hi : rows[i]? = some ds) (hx : xs.all (storable c) = true)
    {E : Value → Shared → Prop} {Qn : Option Value → Shared → Prop}
    (h : ∀ v s1, (∀ (E' : Value → Shared → Prop) (Q' : Shared → Prop), (∀ s' m' cm', In b A (W ++ wr) k c (putAll xs ds σ) env m' cm' s' → St (i + 1) s'.heap → Kp (wr ++ touch env xs) s s' → Q' s') →
      wpAny (model b.prog b.w) A (letOwnedTupleGo tgt it v) (fun _ s2 => wpAny (model b.prog b.w) A (assign tgt env v) (fun _ => Q') E' s2) E' s1) → Qn (some v) s1) : wpAny (model b.prog b.w) A (pyNext it) Qn E s := by
  refine dr.step i ds s Qn E hi st fun v s1 k1 hv => h v s1 fun E' Q' hq => hv env E' Q' fun vs s2 r k2 st2 => ?_
  have k12 := k1.trans k2
  have x2 := x.kp k12 (fun a ha => List.mem_append_right _ ha) (fun a ha h => hw a ha (hf a h)) (fun a ha h => hw a ha (hh a h)) (fun a ha => dr.live _ _ st2 a ha)
  refine storeAll_in xs ds vs σ m cm s2 x2 hx (r.mono (View.le_trans hG (k12.view fun a ha => List.mem_append_right _ ha))) fun s3 m3 cm3 k3 x3 => hq s3 m3 cm3 x3 ?_ ((k12.mono fun a ha => List.mem_append_left _ ha).trans (k3.mono fun a ha => List.mem_append_right _ ha))
  exact dr.frame _ _ _ st2 fun a ha o e => k3.here (fun h => hfp a ha (hh a (touch_hid h))) e
end

noncomputable def TestsFrom (b : Base) (k : Nat) (c : Sc) (σ : Names) (ifs : List Expr) (r d : Bool) : Prop :=
  ∀ (A : Around) (W : List Addr) (env : Env) (m cm : Str → Option Value) (s : Shared) (E : Value → Shared → Prop) (Q : Bool → Shared → Prop), In b A W k c σ env m cm s →
    (∀ s', Post A s s' → Q d s') → wpAny (model b.prog b.w) A (forIn ifs r fun c r => if r = true then do let ok ← isTrue c env (eval c env); pure (ForInStep.yield ok) else pure (ForInStep.yield r)) Q E s
theorem tests_nil {b : Base} {k : Nat} {c : Sc} {σ : Names} {r : Bool} : TestsFrom b k c σ [] r r := fun A W env m cm s E Q x h => by
  rw [List.forIn_nil]; exact wpAny_pure (h s (Post.refl A s))
theorem tests_false {b : Base} {k : Nat} {c : Sc} {σ : Names} : ∀ {es : List Expr}, TestsFrom b k c σ es false false
  | [] => tests_nil
  | e :: es => fun A W env m cm s E Q x h => by
    rw [List.forIn_cons]
    simp only [Bool.false_eq_true, if_false]
    exact wpAny_bind (wpAny_pure (tests_false A W env m cm s E Q x h))
theorem tests_cons {b : Base} {k : Nat} {c : Sc} {σ : Names} {e : Expr} {es : List Expr} {z d : Bool} (h1 : TvOk b k c σ e z) (h2 : TestsFrom b k c σ es z d) : TestsFrom b k c σ (e :: es) true d := fun A W env m cm s E Q x h => by
  rw [List.forIn_cons]
  simp only [if_true]
  exact wpAny_bind (wpAny_bind (h1 A W env m cm s E _ x fun s1 p1 => wpAny_pure (h2 A W env m cm s1 E Q (x.post p1) fun s2 p2 => h s2 (p1.trans p2))))

noncomputable def IterOk (b : Base) (k : Nat) (c : Sc) (σ : Names) (iter tgt : Expr) (xs : List Str) (rows : List (List D)) : Prop :=
  ∀ (A : Around) (W : List Addr) (env : Env) (m cm : Str → Option Value) (s : Shared) (E : Value → Shared → Prop) (Q : Value → Shared → Prop), In b A W k c σ env m cm s →
    (∀ it s0 s', Post A s s0 → Post A s0 s' → IterAt b A W s0 s' it tgt xs rows → Q it s') → wpAny (model b.prog b.w) A (eval iter env) (fun x s1 => wpAny (model b.prog b.w) A (pyIter x) Q E s1) E s

noncomputable def tgts : List Comprehension → List Str
  | [] => []
  | g :: gs => (tgtNames g.target).getD [] ++ tgts gs

noncomputable def without (T : List Str) (σ : Names) : Names := σ.filter fun x => !T.contains x.1
theorem lookup_without {T : List Str} {σ : Names} {x : Str} : (without T σ).lookup x = if T.contains x then none else σ.lookup x := by
  unfold without
  induction σ with
  | nil => simp
  | cons y σ ih =>
    obtain ⟨n, d⟩ := y
    rw [List.filter_cons]
    by_cases hn : T.contains n = true
    · simp only [hn, Bool.not_true, Bool.false_eq_true, if_false]
      rw [ih, lookup_put]
      by_cases hx : x = n
      · subst hx; simp only [hn, if_true]
      · simp only [hx, if_false]
    · have hn' : T.contains n = false := by simpa using hn
      simp only [hn', Bool.not_false, if_true]
      rw [lookup_put, lookup_put, ih]
      by_cases hx : x = n
      · subst hx; simp only [hn', Bool.false_eq_true, if_false, if_true]
      · simp only [hx, if_false]
theorem lookup_putAll {x : Str} : ∀ {xs : List Str} {ds : List D} {σ : Names}, x ∉ xs → (putAll xs ds σ).lookup x = σ.lookup x
  | [], _, σ, _ => by cases ‹List D› <;> rfl
  | y :: xs, [], σ, _ => rfl
  | y :: xs, d :: ds, σ, h => by
    have h1 : x ≠ y := fun e => h (e ▸ List.mem_cons_self)
    show (putAll xs ds ((y, d) :: σ)).lookup x = _
    rw [lookup_putAll (fun q => h (List.mem_cons_of_mem _ q)), lookup_put, if_neg h1]
end Mine
end
section
namespace Mine

section
variable {prog : Program} {w : World} {A : Around} {E : Value → Shared → Prop} {R : Result → Shared → Prop} {s : Shared}

theorem compStart_any {elt : Expr} {gens : List Comprehension} {scope : Scope} {pos : Pos} {depth : Nat} {it acc : Value} {env : Env} {g : Comprehension} (hg : gens[depth]? = some g) (ha : g.is_async = 0)
    (h0 : codeAny (model prog w) A (.compLoop (.ListComp elt gens scope pos) depth it acc env) R s)
    (h : ∀ E', wpAny (model prog w) A (pyIter it) (fun it' s' => codeAny (model prog w) A (.compLoop (.ListComp elt gens scope pos) depth it' acc env) R s') E' s) :
    codeAny (model prog w) A (.compStart (.ListComp elt gens scope pos) depth it acc env) R s := by
  refine codeAny_of_tree ?_
  show wpAny _ A ((compStart (.ListComp elt gens scope pos) depth it acc env).onRaise (fun x => do noteFrame x env; standAt theWindowsPlace)) _ _ s
  refine wpAny_notedAt ?_
  unfold compStart
  have e1 : (clausesOf (.ListComp elt gens scope pos))[depth]? = some g := hg
  simp only [e1, Option.elim, ha]
  show wpAny _ _ (ask >>= _) _ _ s
  refine wpAny_bind (wpAny_askSetting (wpAny_ite ?_))
  split
  · first
      | exact wpAny_bind (wpAny_pure (wpAny_pure (And.intro rfl h0)))
      | exact wpAny_pure (And.intro rfl h0)
  · exact wpAny_bind (wpAny_rule (wpAny_bind (wpAny_standAt (wpAny_bind (wpAny_mono (h _) (fun it' s' h' => wpAny_pure (And.intro rfl h')) fun _ _ x => x)))))

theorem compLoop_any {elt : Expr} {gens : List Comprehension} {scope : Scope} {pos : Pos} {depth : Nat} {it acc : Value} {env : Env} {g : Comprehension} (hg : gens[depth]? = some g) (ha : g.is_async = 0) (I : Nat → Shared → Prop)
    (turn : ∀ n s E', I n s → wpAny (model prog w) A (pyNext it) (fun r s₁ => match r with
      | none => R (.ok .next) s₁
      | some v => wpAny (model prog w) A (letOwnedTupleGo g.target it v) (fun _ s₂ => wpAny (model prog w) A (assign g.target env v) (fun _ s₃ =>
          wpAny (model prog w) A (forIn g.ifs true fun c r => if r = true then do let ok ← isTrue c env (eval c env); pure (ForInStep.yield ok) else pure (ForInStep.yield r)) (fun ok s₄ =>
            if ok = true then (match gens[depth + 1]? with
              | none => wpAny (model prog w) A (eval elt env) (fun x s₅ => wpAny (model prog w) A (call (.builtin "list.append") [acc, x]) (fun _ s₆ => ∃ m, m < n ∧ I m s₆) E' s₅) E' s₄
              | some g' => g'.is_async = 0 ∧ (∀ x, foldedSetIterable g'.iter env x = pure x) ∧ wpAny (model prog w) A (eval g'.iter env) (fun x s₅ => wpAny (model prog w) A (pyIter x) (fun it' s₆ =>
                  codeAny (model prog w) A (.compStart (.ListComp elt gens scope pos) (depth + 1) it' acc env) (fun r s₇ => match r with | .ok _ => ∃ m, m < n ∧ I m s₇ | .error e => cameBackBy (model prog w) A env E' e s₇) s₆) E' s₅) E' s₄)
            else ∃ m, m < n ∧ I m s₄) E' s₃) E' s₂) E' s₁) E' s)
    (n : Nat) (h : I n s) : codeAny (model prog w) A (.compLoop (.ListComp elt gens scope pos) depth it acc env) R s := by
  refine codeAny_loop rfl I (fun n s hI => ?_) n h
  show wpAny _ A ((compTurn (.ListComp elt gens scope pos) depth it acc env).onRaise (fun x => do noteFrame x env; theTreesLotGoes x)) _ _ s
  refine wpAny_noted ?_
  unfold compTurn
  simp only [hg, ha]
  refine wpAny_bind (wpAny_standAt ?_)
  rw [if_neg (by decide)]
  refine wpAny_bind (wpAny_mono (turn n s _ hI) (fun r s₁ h₁ => ?_) fun _ _ h' => h')
  cases r with
  | none => exact wpAny_pure h₁
  | some v =>
    refine wpAny_bind (wpAny_mono h₁ (fun _ s₂ h₂ => wpAny_bind (wpAny_mono h₂ (fun _ s₃ h₃ => wpAny_bind (wpAny_mono h₃ (fun ok s₄ h₄ => ?_) fun _ _ h' => h')) fun _ _ h' => h')) fun _ _ h' => h')
    cases ok with
    | false => exact wpAny_pure ⟨rfl, h₄⟩
    | true =>
      simp only [if_true] at h₄ ⊢
      cases hg' : gens[depth + 1]? with
      | none =>
        rw [hg'] at h₄
        exact wpAny_bind (wpAny_bind (wpAny_mono h₄ (fun x s₅ h₅ => wpAny_bind (wpAny_mono h₅ (fun _ s₆ h₆ => wpAny_pure (wpAny_pure ⟨rfl, h₆⟩)) fun _ _ h' => h')) fun _ _ h' => h'))
      | some g' =>
        rw [hg'] at h₄
        obtain ⟨ha', hs', h₄⟩ := h₄
        simp only [ha']
        refine wpAny_bind (wpAny_mono h₄ (fun x s₅ h₅ => wpAny_bind (wpAny_standAt ?_)) fun _ _ h' => h')
        rw [if_neg (by decide)]
        refine wpAny_bind (wpAny_of_eq (hs' x) (wpAny_bind (wpAny_holding ?_)))
        rw [if_neg (by decide)]
        refine wpAny_mono h₅ (fun it' s₆ h₆ => ?_) fun _ _ h' => h'
        exact wpAny_bind (wpAny_runOwn (Q := fun _ s₇ => wpAny _ A (again (.compLoop (.ListComp elt gens scope pos) depth it acc env)) _ _ s₇) (codeAny_mono h₆ fun r s₇ h₇ => by
          cases r with
          | ok f => exact wpAny_pure ⟨rfl, h₇⟩
          | error e => exact h₇))
end
end Mine
end
section
namespace Mine

inductive RowsOk (b : Base) (k : Nat) (c : Sc) (inner : Names → List D → Prop) (ifs : List Expr) (xs : List Str) (σ : Names) : List (List D) → List D → Prop
  | nil : RowsOk b k c inner ifs xs σ [] []
  | cons {r : List D} {rs : List (List D)} (z : Bool) (o1 : List D) {o2 : List D} (ht : TestsFrom b k c (putAll xs r σ) ifs true z) (h1 : z = true → inner (putAll xs r σ) o1) (h2 : z = false → o1 = []) (hr : RowsOk b k c inner ifs xs σ rs o2) : RowsOk b k c inner ifs xs σ (r :: rs) (o1 ++ o2)
inductive RowsC (b : Base) (k : Nat) (c : Sc) (inner : Names → List D → Prop) (ifs : List Expr) (xs : List Str) (σ : Names) (r : List D) (rs : List (List D)) : List D → Prop
  | mk (z : Bool) (o1 o2 : List D) (ht : TestsFrom b k c (putAll xs r σ) ifs true z) (h1 : z = true → inner (putAll xs r σ) o1) (h2 : z = false → o1 = []) (hr : RowsOk b k c inner ifs xs σ rs o2) : RowsC b k c inner ifs xs σ r rs (o1 ++ o2)
theorem RowsOk.view {b : Base} {k : Nat} {c : Sc} {inner : Names → List D → Prop} {ifs : List Expr} {xs : List Str} {σ : Names} {r : List D} {rs : List (List D)} {out : List D} (h : RowsOk b k c inner ifs xs σ (r :: rs) out) : RowsC b k c inner ifs xs σ r rs out := by
  cases h with
  | cons z o1 ht h1 h2 hr => exact .mk z o1 _ ht h1 h2 hr
noncomputable def InnerOk (b : Base) (k : Nat) (c : Sc) (elt : Expr) : List Comprehension → Names → List D → Prop
  | [], σ, out => ∃ d, out = [d] ∧ EvOk b k c σ elt d
  | g :: gs, σ, out => g.is_async = 0 ∧ (∀ env x, foldedSetIterable g.iter env x = pure x) ∧ ∃ xs rows, tgtNames g.target = some xs ∧ xs.all (storable c) = true ∧ IterOk b k c σ g.iter g.target xs rows ∧
      RowsOk b k c (InnerOk b k c elt gs) g.ifs xs (without (tgts (g :: gs)) σ) rows out

theorem rows_len {b : Base} {k : Nat} {c : Sc} {inner : Names → List D → Prop} {ifs : List Expr} {xs : List Str} {σ : Names} : ∀ {rows : List (List D)} {i : Nat} {r : List D}, rows[i]? = some r → rows.drop i = r :: rows.drop (i + 1)
  | _ :: _, 0, _, h => by simp at h; subst h; rfl
  | _ :: rs, i + 1, r, h => by simp at h; simpa using rows_len (b := b) (k := k) (c := c) (inner := inner) (ifs := ifs) (xs := xs) (σ := σ) (rows := rs) h

theorem In.shed {b : Base} {A : Around} {W wr : List Addr} {k : Nat} {c : Sc} {σ : Names} {env : Env} {m cm : Str → Option Value} {s s' : Shared} (x : In b A (W ++ wr) k c σ env m cm s) (p : Kp wr s s') (hf : ∀ a ∈ fr A, a ∈ W) (hh : ∀ a ∈ Mine.hid env, a ∈ W) (hw : ∀ a ∈ wr, a ∉ W) : In b A W k c σ env m cm s' := by
  refine ⟨⟨x.ok.handled, x.ok.depth, x.ok.units, ?_, hf, fun a ha => x.ok.low a (List.mem_append_left _ ha), fun a ha => ?_, fun a o e => p.here (fun h => by have := x.ok.low a (List.mem_append_right _ h); rw [e] at this; cases this) (x.ok.inv a o e)⟩, x.fit, ?_, hh, fun n d e => ?_⟩
  · obtain ⟨outer, e, f⟩ := x.ok.frames
    refine ⟨outer, e, fun env' he => ?_⟩
    obtain ⟨hk', L, o, g1, g2, g3⟩ := f env' he
    refine ⟨hk', L, o, g1, p.here (fun h => hw L h (hf L ?_)) g2, g3⟩
    unfold fr
    rw [e]
    exact List.mem_filterMap.mpr ⟨env', he, g1⟩
  · obtain ⟨o, e⟩ := x.ok.live a (List.mem_append_left _ ha)
    exact ⟨o, p.here (fun h => hw a h ha) e⟩
  · exact x.ine.keeps fun a ha o e => p.here (fun h => hw a h (hh a ha)) e
  · obtain ⟨v, e1, r⟩ := x.rel n d e
    exact ⟨v, e1, r.mono (View.le_trans (p.view fun a ha => List.mem_append_right _ ha) (off_sub fun a ha => List.mem_append_left _ ha))⟩

section
variable {b : Base} {k : Nat} {c : Sc} {elt : Expr} {gens : List Comprehension} {scope : Scope} {pos : Pos} {E : Value → Shared → Prop}

noncomputable def own (env : Env) (T : List Str) (Dd : Addr) : List Addr := touch env T ++ [Dd]

structure LpS (b : Base) (A : Around) (k : Nat) (c : Sc) (inner : Names → List D → Prop) (ifs : List Expr) (xs : List Str) (rows : List (List D)) (V O : List Addr) (σ : Names) (env : Env) (St : Nat → Heap → Prop) (Dd : Addr) (s : Shared) (tot : List D) (i : Nat) (m cm : Str → Option Value) (ds out : List D) (ys : Array Value) (s' : Shared) : Prop where
  le : i ≤ rows.length
  x : In b A V k c σ env m cm s'
  st : St i s'.heap
  hp : s'.heap.PlainList Dd ys
  rep : Reps (off V s'.heap) ds ys.toList
  rw : RowsOk b k c inner ifs xs σ (rows.drop i) out
  tot : ds ++ out = tot
  pv : Pv A O s s'
inductive LpI (b : Base) (A : Around) (k : Nat) (c : Sc) (inner : Names → List D → Prop) (ifs : List Expr) (xs : List Str) (rows : List (List D)) (V O : List Addr) (σ : Names) (env : Env) (St : Nat → Heap → Prop) (Dd : Addr) (s : Shared) (tot : List D) : Nat → Shared → Prop
  | mk {i : Nat} {m cm : Str → Option Value} {ds out : List D} {ys : Array Value} {s' : Shared} (h : LpS b A k c inner ifs xs rows V O σ env St Dd s tot i m cm ds out ys s') : LpI b A k c inner ifs xs rows V O σ env St Dd s tot (rows.length + 1 - i) s'
theorem LpI.next {b : Base} {A : Around} {k : Nat} {c : Sc} {inner : Names → List D → Prop} {ifs : List Expr} {xs : List Str} {rows : List (List D)} {V O : List Addr} {σ : Names} {env : Env} {St : Nat → Heap → Prop} {Dd : Addr} {s : Shared} {tot : List D} {i : Nat} {m cm : Str → Option Value} {ds out : List D} {ys : Array Value} {s' : Shared}
    (h : LpS b A k c inner ifs xs rows V O σ env St Dd s tot (i + 1) m cm ds out ys s') : ∃ n, n < rows.length + 1 - i ∧ LpI b A k c inner ifs xs rows V O σ env St Dd s tot n s' := ⟨rows.length + 1 - (i + 1), Nat.sub_lt_sub_left (Nat.lt_succ_of_le (Nat.le_of_succ_le h.le)) (Nat.lt_succ_self i), .mk h⟩
theorem loop_step {A : Around} {Dd : Addr} {env : Env} {T : List Str} (gs : List Comprehension) (g : Comprehension) (depth : Nat)
    (inner : ∀ (W : List Addr) (σ : Names) (m cm : Str → Option Value) (s : Shared) (out ds : List D) (ys : Array Value) (E' : Value → Shared → Prop) (Q : Shared → Prop),
      InnerOk b k c elt gs σ out → In b A W k c σ env m cm s → (∀ a ∈ fr A, a ∈ W) → (∀ a ∈ hid env, a ∈ W) → Dd ∈ W → Dd ∉ fr A → Dd ∉ hid env → s.heap.PlainList Dd ys → Reps (off W s.heap) ds ys.toList → ds.length + out.length ≤ room →
      (∀ s' m' cm' ys', In b A W k c (without (tgts gs) σ) env m' cm' s' → s'.heap.PlainList Dd ys' → Reps (off W s'.heap) (ds ++ out) ys'.toList → Pv A (own env T Dd) s s' → Q s') →
      (match gens[depth + 1]? with
        | none => wpAny (model b.prog b.w) A (eval elt env) (fun x s₅ => wpAny (model b.prog b.w) A (call (.builtin "list.append") [.ref Dd, x]) (fun _ s₆ => Q s₆) E' s₅) E' s
        | some g' => g'.is_async = 0 ∧ (∀ x, foldedSetIterable g'.iter env x = pure x) ∧ wpAny (model b.prog b.w) A (eval g'.iter env) (fun x s₅ => wpAny (model b.prog b.w) A (pyIter x) (fun it' s₆ =>
            codeAny (model b.prog b.w) A (.compStart (.ListComp elt gens scope pos) (depth + 1) it' (.ref Dd) env) (fun r s₇ => match r with | .ok _ => Q s₇ | .error e => cameBackBy (model b.prog b.w) A env E' e s₇) s₆) E' s₅) E' s))
    (W : List Addr) (it : Value) (fp wr : List Addr) (xs : List Str) (rows : List (List D)) (St : Nat → Heap → Prop) (σ : Names) (m cm : Str → Option Value) (s : Shared) (out ds : List D) (ys : Array Value) (R : Result → Shared → Prop)
    (hT : ∀ n ∈ tgts (g :: gs), n ∈ T) (hd : gens[depth]? = some g) (ha : g.is_async = 0) (hx : tgtNames g.target = some xs) (hxs : xs.all (storable c) = true) (hr : RowsOk b k c (InnerOk b k c elt gs) g.ifs xs (without (tgts (g :: gs)) σ) rows out)
    (dr : Drw b.prog b.w A it g.target xs fp wr (off (W ++ wr) s.heap) rows St) (st0 : St 0 s.heap) (x : In b A (W ++ wr) k c σ env m cm s) (hf : ∀ a ∈ fr A, a ∈ W) (hh : ∀ a ∈ hid env, a ∈ W) (hw : ∀ a ∈ wr, a ∉ W) (hfp : ∀ a ∈ fp, a ∉ W)
    (hD : Dd ∈ W) (hDf : Dd ∉ fr A) (hDh : Dd ∉ hid env) (hp : s.heap.PlainList Dd ys) (hrep : Reps (off (W ++ wr) s.heap) ds ys.toList) (hroom : ds.length + out.length ≤ room)
    (hR : ∀ s' m' cm' ys', In b A W k c (without (tgts (g :: gs)) σ) env m' cm' s' → s'.heap.PlainList Dd ys' → Reps (off W s'.heap) (ds ++ out) ys'.toList → Pv A (own env T Dd ++ wr) s s' → R (.ok .next) s') :
    codeAny (model b.prog b.w) A (.compLoop (.ListComp elt gens scope pos) depth it (.ref Dd) env) R s := by
  have hDw : Dd ∉ wr := fun h => hw _ h hD
  refine compLoop_any hd ha (LpI b A k c (InnerOk b k c elt gs) g.ifs xs rows (W ++ wr) (own env T Dd ++ wr) (without (tgts (g :: gs)) σ) env St Dd s (ds ++ out)) ?_ (rows.length + 1)
    (.mk (i := 0) ⟨Nat.zero_le _, x.names (fun n d h => by rw [lookup_without] at h; split at h; cases h; exact h), st0, hp, hrep, hr, rfl, Pv.refl _ _ _⟩)
  intro n s' E' hI
  cases hI with
  | @mk i m' cm' ds' out' ys' _ lp =>
  have x' := lp.x
  have st' := lp.st
  have hp' := lp.hp
  have hrep' := lp.rep
  have hr' := lp.rw
  have hout := lp.tot
  have kp := lp.pv
  have hown : ∀ a ∈ own env T Dd, a ∈ W := fun a h => by
    rcases List.mem_append.mp h with h | h
    · exact hh a (touch_hid h)
    · rw [List.mem_singleton.mp h]; exact hD
  have hxT : ∀ n ∈ xs, n ∈ T := fun n hn => hT n (by simp [tgts, hx, hn])
  have hff : ∀ a ∈ fr A, a ∈ W ++ wr := fun a h => List.mem_append_left _ (hf a h)
  have hown2 : ∀ a ∈ own env T Dd ++ wr, a ∈ W ++ wr := fun a h => (List.mem_append.mp h).elim (fun h => List.mem_append_left _ (hown a h)) (List.mem_append_right _)
  have hG : (off (W ++ wr) s.heap).le (off (W ++ wr) s'.heap) := kp.view hown2 hff
  by_cases hlt : i < rows.length
  · have hri : rows[i]? = some rows[i] := List.getElem?_eq_getElem hlt
    rw [rows_len (b := b) (k := k) (c := c) (inner := InnerOk b k c elt gs) (ifs := g.ifs) (xs := xs) (σ := σ) hri] at hr'
    cases hr'.view with
    | mk z o1 o2 ht hz1 hz2 hrest =>
    have hlen : ds'.length + o1.length ≤ room := by
      have := congrArg List.length hout
      simp only [List.length_append] at this
      omega
    refine dr.turn x' hf hh hw hfp hG st' hri hxs fun v s1 hv => ?_
    refine hv E' _ fun s2 m2 cm2 x2 st2 k2 => ?_
    have k2' : Pv A (own env T Dd ++ wr) s' s2 := (k2.mono fun a ha => (List.mem_append.mp ha).elim (List.mem_append_right _) fun h => List.mem_append_left _ (List.mem_append_left _ (touch_mono hxT h))).pv
    refine ht A (W ++ wr) env m2 cm2 s2 E' _ x2 fun s3 p3 => ?_
    have x3 := x2.post p3
    have k3 : Pv A (own env T Dd ++ wr) s' s3 := k2'.trans (p3.pv _)
    have st3 : St (i + 1) s3.heap := dr.frame _ _ _ st2 fun a ha o e => p3.here (fun h => hfp a ha (hf a h)) e
    have hp3 : s3.heap.PlainList Dd ys' := hp'.at fun o e => p3.here hDf (k2.here (fun h => (List.mem_append.mp h).elim hDw fun h => hDh (touch_hid h)) e)
    have hrep3 : Reps (off (W ++ wr) s3.heap) ds' ys'.toList := hrep'.mono (k3.view hown2 hff)
    have back : ∀ n d, (without (tgts (g :: gs)) σ).lookup n = some d → (putAll xs rows[i] (without (tgts (g :: gs)) σ)).lookup n = some d := fun n d e => by
      rw [lookup_putAll]
      · exact e
      · intro hn
        rw [lookup_without, if_pos (by simp [tgts, hx, hn])] at e
        cases e
    cases z with
    | false =>
      cases hz2 rfl
      rw [if_neg Bool.false_ne_true]
      exact LpI.next ⟨hlt, x3.names back, st3, hp3, hrep3, hrest, hout, kp.trans k3⟩
    | true =>
      rw [if_pos rfl]
      refine inner (W ++ wr) _ m2 cm2 s3 o1 ds' ys' E' _ (hz1 rfl) x3 (fun a ha => List.mem_append_left _ (hf a ha)) (fun a ha => List.mem_append_left _ (hh a ha)) (List.mem_append_left _ hD) hDf hDh hp3 hrep3 hlen fun s6 m6 cm6 ys6 x6 hp6 hrep6 k6 => ?_
      refine LpI.next ⟨hlt, x6.names (fun n d e => ?_), ?_, hp6, hrep6, hrest, by rw [List.append_assoc]; exact hout, kp.trans (k3.trans (k6.mono fun a ha => List.mem_append_left _ ha))⟩
      · rw [lookup_without]
        have := back n d e
        rw [lookup_without] at e
        split at e
        · cases e
        · rename_i hn
          rw [if_neg (fun q => hn (by simp only [tgts, List.contains_eq_mem, List.mem_append, decide_eq_true_eq] at q ⊢; exact .inr q))]
          exact this
      · exact dr.frame _ _ _ st3 fun a ha o e => k6.here (fun h => hfp a ha (hown a h)) (fun h => hfp a ha (hf a h)) e
  · cases Nat.le_antisymm lp.le (Nat.not_lt.mp hlt)
    rw [List.drop_length] at hr'
    cases hr'
    rw [List.append_nil] at hout
    rw [hout] at hrep'
    refine dr.done s' _ _ st' fun s1 k1 => ?_
    have x1 := x'.shed k1 hf hh hw
    exact hR s1 m' cm' ys' x1 (hp'.at fun o e => k1.here hDw e) (hrep'.mono (View.le_trans (k1.view fun a ha => List.mem_append_right _ ha) (off_sub fun a ha => List.mem_append_left _ ha))) (kp.trans (k1.mono fun a ha => List.mem_append_right _ ha).pv)

theorem shed_pv {A : Around} {V wr : List Addr} {s s0 s1 s' : Shared} (p0 : Pv A V s s0) (p1 : Pv A V s0 s1) (k' : Pv A (V ++ wr) s1 s') (hw0 : ∀ a ∈ wr, s0.heap.get? a = none) : Pv A V s s' := by
  obtain ⟨h0, t0, rfl, a0, b0⟩ := p0
  obtain ⟨h1, t1, rfl, a1, b1⟩ := p1
  obtain ⟨h2, t2, rfl, a2, b2⟩ := k'
  refine ⟨h2, t2, rfl, fun a o hna hnf e => ?_, fun a o hna e => ?_⟩
  · have e0 := a0 a o hna hnf e
    refine a2 a o (fun h => (List.mem_append.mp h).elim hna fun h => ?_) hnf (a1 a o hna hnf e0)
    have := hw0 a h
    rw [e0] at this; cases this
  · obtain ⟨sl, e0⟩ := b0 a o hna e
    obtain ⟨sl1, e1⟩ := b1 a _ hna e0
    obtain ⟨sl2, e2⟩ := b2 a _ (fun h => (List.mem_append.mp h).elim hna fun h => by have := hw0 a h; rw [e0] at this; cases this) e1
    exact ⟨sl2, e2⟩

theorem inner_ok {A : Around} {Dd : Addr} {env : Env} {T : List Str} : ∀ (gs : List Comprehension) (depth : Nat), gens.drop (depth + 1) = gs → (∀ n ∈ tgts gs, n ∈ T) → ∀ (W : List Addr) (σ : Names) (m cm : Str → Option Value) (s : Shared) (out ds : List D) (ys : Array Value) (E' : Value → Shared → Prop) (Q : Shared → Prop),
      InnerOk b k c elt gs σ out → In b A W k c σ env m cm s → (∀ a ∈ fr A, a ∈ W) → (∀ a ∈ hid env, a ∈ W) → Dd ∈ W → Dd ∉ fr A → Dd ∉ hid env → s.heap.PlainList Dd ys → Reps (off W s.heap) ds ys.toList → ds.length + out.length ≤ room →
      (∀ s' m' cm' ys', In b A W k c (without (tgts gs) σ) env m' cm' s' → s'.heap.PlainList Dd ys' → Reps (off W s'.heap) (ds ++ out) ys'.toList → Pv A (own env T Dd) s s' → Q s') →
      (match gens[depth + 1]? with
        | none => wpAny (model b.prog b.w) A (eval elt env) (fun x s₅ => wpAny (model b.prog b.w) A (call (.builtin "list.append") [.ref Dd, x]) (fun _ s₆ => Q s₆) E' s₅) E' s
        | some g' => g'.is_async = 0 ∧ (∀ x, foldedSetIterable g'.iter env x = pure x) ∧ wpAny (model b.prog b.w) A (eval g'.iter env) (fun x s₅ => wpAny (model b.prog b.w) A (pyIter x) (fun it' s₆ =>
            codeAny (model b.prog b.w) A (.compStart (.ListComp elt gens scope pos) (depth + 1) it' (.ref Dd) env) (fun r s₇ => match r with | .ok _ => Q s₇ | .error e => cameBackBy (model b.prog b.w) A env E' e s₇) s₆) E' s₅) E' s) := by
  intro gs
  induction gs with
  | nil =>
    intro depth hdr hT W σ m cm s out ds ys E' Q hin x hf hh hD hDf hDh hp hrep hroom hq
    have hnone : gens[depth + 1]? = none := by
      have := List.drop_eq_nil_iff.mp hdr
      exact List.getElem?_eq_none this
    rw [hnone]
    obtain ⟨d, rfl, he⟩ := hin
    refine he A W env m cm s E' _ x fun v s1 p1 r1 => ?_
    have hp1 : s1.heap.PlainList Dd ys := hp.at fun o e => p1.here hDf e
    have hrep1 := hrep.mono (x.view p1)
    have n1 := hrep1.length
    have hys : ys.size ≤ sizeLine := room_line (by simp at n1 hroom; omega)
    refine wpAny_list_append_plain hp1 (fun h' hp2 hs2 => ?_) hys
    have k2 : Kp [Dd] s1 { s1 with heap := h' } := ⟨h', s1.toks, rfl, fun a o ha e => hs2.extBut a o (fun q => ha (by simp [q])) e⟩
    have hsub : ∀ a ∈ ([Dd] : List Addr), a ∈ W := fun a ha => by rw [List.mem_singleton.mp ha]; exact hD
    have x2 := (x.post p1).kp k2 hsub (fun a ha => by rw [List.mem_singleton.mp ha]; exact hDf) (fun a ha => by rw [List.mem_singleton.mp ha]; exact hDh) (fun a ha => by rw [List.mem_singleton.mp ha]; obtain ⟨n, e⟩ := hp2; exact ⟨_, e⟩)
    refine hq _ m cm _ (x2.names fun n d h => by rw [lookup_without] at h; simpa [tgts] using h) hp2 ?_ ((p1.pv _).trans (k2.mono fun a ha => List.mem_append_right _ ha).pv)
    rw [Array.toList_push]
    exact (hrep1.mono (k2.view hsub)).append ⟨v, [], rfl, r1.mono (k2.view hsub), rfl⟩
  | cons g gs ih =>
    intro depth hdr hT W σ m cm s out ds ys E' Q hin x hf hh hD hDf hDh hp hrep hroom hq
    have hg : gens[depth + 1]? = some g := by
      have := congrArg List.head? hdr
      simpa [List.head?_drop] using this
    have hdr' : gens.drop (depth + 1 + 1) = gs := by
      have := congrArg List.tail hdr
      simpa [List.tail_drop] using this
    rw [hg]
    obtain ⟨ha, hs, xs, rows, hx, hxs, hit, hr⟩ := hin
    refine ⟨ha, fun y => hs env y, hit A W env m cm s E' _ x fun it s0 s1 p0 p1 ⟨fp, wr, St, dr, st0, hw0, hwl, hfp⟩ => ?_⟩
    have x1 := (x.post p0).post p1
    have hdead : ∀ a ∈ wr, a ∉ W := fun a hwa hWa => by
      obtain ⟨o, e⟩ := (x.post p0).ok.live a hWa
      rw [hw0 a hwa] at e; cases e
    have xw : In b A (W ++ wr) k c σ env m cm s1 := by
      refine ⟨x1.ok.more (fun a ha => List.mem_append_left _ ha) fun a ha => (List.mem_append.mp ha).imp id fun h => ⟨?_, hwl a h⟩, x1.fit, x1.ine, fun a ha => List.mem_append_left _ (hh a ha), fun n d e => ?_⟩
      · cases e : b.h₀.get? a with
        | none => rfl
        | some o => have := (x.post p0).ok.inv a o e; rw [hw0 a h] at this; cases this
      · obtain ⟨v, e1, r1⟩ := (x.post p0).rel n d e
        refine ⟨v, e1, r1.mono (off_grow (fun a o hna e => p1.here (fun h => hna (hf a h)) e) fun a ha => (List.mem_append.mp ha).imp id fun h => hw0 a h)⟩
    have hp1 : s1.heap.PlainList Dd ys := hp.at fun o e => p1.here hDf (p0.here hDf e)
    have hrep1 : Reps (off (W ++ wr) s1.heap) ds ys.toList := (hrep.mono (x.view p0)).mono (off_grow (fun a o hna e => p1.here (fun h => hna (hf a h)) e) fun a ha => (List.mem_append.mp ha).imp id fun h => hw0 a h)
    have loop : ∀ R : Result → Shared → Prop, (∀ s' m' cm' ys', In b A W k c (without (tgts (g :: gs)) σ) env m' cm' s' → s'.heap.PlainList Dd ys' → Reps (off W s'.heap) (ds ++ out) ys'.toList → Pv A (own env T Dd ++ wr) s1 s' → R (.ok .next) s') →
        codeAny (model b.prog b.w) A (.compLoop (.ListComp elt gens scope pos) (depth + 1) it (.ref Dd) env) R s1 := fun R hR =>
      loop_step gs g (depth + 1) (fun W σ m cm s out ds ys E' Q => ih (depth + 1) hdr' (fun n hn => hT n (by simp only [tgts, List.mem_append]; exact .inr hn)) W σ m cm s out ds ys E' Q) W it fp wr xs rows St σ m cm s1 out ds ys R hT hg ha hx hxs hr dr st0 xw hf hh hdead (fun a ha => (hfp a ha).1) hD hDf hDh hp1 hrep1 hroom hR
    have fin : ∀ s' m' cm' ys', In b A W k c (without (tgts (g :: gs)) σ) env m' cm' s' → s'.heap.PlainList Dd ys' → Reps (off W s'.heap) (ds ++ out) ys'.toList → Pv A (own env T Dd ++ wr) s1 s' → Q s' := fun s' m' cm' ys' x' hp' hr' k' => by
      refine hq s' m' cm' ys' x' hp' hr' ?_
      exact shed_pv ((p0.pv _).trans (Pv.refl _ _ _)) (p1.pv _) k' hw0
    exact compStart_any hg ha (loop _ fin) fun E2 => dr.self 0 s1 _ _ st0 (loop _ fin)
end
end Mine
end
section
namespace Mine

noncomputable def freeOf (scope : Scope) : List Str := (scope.names.filter fun x => x.2 == .free).map (·.1) |>.reverse
noncomputable def ownCells (scope : Scope) : List Str := (scope.names.filter fun x => x.2 == .cell).map (·.1) |>.reverse

theorem cellsFrom_names : ∀ (names : List (Str × NameKind)) (n : Nat) (acc : List (Str × Addr)), (cellsFrom n names acc).map (·.1) = ((names.filter fun x => x.2 == .cell).map (·.1)).reverse ++ acc.map (·.1)
  | [], n, acc => rfl
  | (name, kind) :: r, n, acc => by
    rw [show cellsFrom n ((name, kind) :: r) acc = if kind == .cell then cellsFrom (n + 1) r ((name, n) :: acc) else cellsFrom n r acc from rfl]
    by_cases hk : (kind == .cell) = true
    · rw [if_pos hk, cellsFrom_names r, List.filter_cons, if_pos hk]
      simp
    · rw [if_neg hk, cellsFrom_names r, List.filter_cons, if_neg hk]

noncomputable def closeL (cells : List (Str × Addr)) : List (Str × NameKind) → List (Str × Addr) → Option (List (Str × Addr))
  | [], acc => some acc
  | (n, kd) :: r, acc => if kd == .free then (match cells.lookup n with | some a => closeL cells r ((n, a) :: acc) | none => none) else closeL cells r acc
theorem closureFor_eq {scope : Scope} {env : Env} {cl : List (Str × Addr)} (h : closeL env.cells scope.names [] = some cl) : closureFor scope env = pure cl := by
  unfold closureFor
  have : ∀ (names : List (Str × NameKind)) (acc : List (Str × Addr)), closeL env.cells names acc = some cl →
      (forIn names acc fun (x : Str × NameKind) (cs : List (Str × Addr)) => (if (x.2 == NameKind.free) = true then (do let a ← cellOf env x.1; pure (ForInStep.yield ((x.1, a) :: cs))) else pure (ForInStep.yield cs) : Sem (ForInStep (List (Str × Addr))))) = pure cl := by
    intro names
    induction names with
    | nil => intro acc h; cases h; rfl
    | cons y r ih =>
      intro acc h
      obtain ⟨n, kd⟩ := y
      unfold closeL at h
      rw [List.forIn_cons]
      by_cases hk : (kd == NameKind.free) = true
      · rw [if_pos hk] at h
        cases hc : env.cells.lookup n with
        | none => rw [hc] at h; cases h
        | some a =>
          rw [hc] at h
          have e1 : cellOf env n = pure a := by unfold cellOf; rw [hc]
          simp only [hk, if_true, e1, pure_bind]
          exact ih _ h
      · rw [if_neg hk] at h
        simp only [hk, if_false, pure_bind]
        simpa using ih _ h
  have := this scope.names [] h
  simpa using this

theorem closeL_some {cells : List (Str × Addr)} : ∀ (names : List (Str × NameKind)) (acc : List (Str × Addr)), (∀ n ∈ (names.filter fun x => x.2 == .free).map (·.1), (cells.lookup n).isSome = true) →
    ∃ cl, closeL cells names acc = some cl ∧ cl.map (·.1) = ((names.filter fun x => x.2 == .free).map (·.1)).reverse ++ acc.map (·.1) ∧ ∀ x ∈ cl, x ∈ acc ∨ cells.lookup x.1 = some x.2
  | [], acc, _ => ⟨acc, rfl, by simp, fun x hx => .inl hx⟩
  | (n, kd) :: r, acc, h => by
    unfold closeL
    rw [List.filter_cons] at h ⊢
    by_cases hk : (kd == NameKind.free) = true
    · rw [if_pos hk] at h ⊢
      rw [if_pos hk]
      obtain ⟨a, ha⟩ := Option.isSome_iff_exists.mp (h n (by simp))
      rw [ha]
      obtain ⟨cl, h1, h2, h3⟩ := closeL_some r ((n, a) :: acc) (fun m hm => h m (by simp at hm ⊢; exact .inr hm))
      refine ⟨cl, h1, by rw [h2]; simp, fun x hx => ?_⟩
      rcases h3 x hx with q | q
      · rcases List.mem_cons.mp q with rfl | q
        · exact .inr ha
        · exact .inl q
      · exact .inr q
    · rw [if_neg hk] at h ⊢
      rw [if_neg hk]
      exact closeL_some r acc h

theorem comp_cells (f : Str → Option Value) : ∀ (names : List (Str × NameKind)) (h : Heap) (acc : List (Str × Addr)), (∀ x ∈ acc, h.IsCell x.2 (f x.1)) → (acc.Pairwise fun x y => x.2 ≠ y.2) →
    (∀ n ∈ (names.filter fun x => x.2 == .cell).map (·.1), f n = none) →
    (∀ x ∈ cellsFrom h.objs.size names acc, (pushCells h names).IsCell x.2 (f x.1) ∧ (x ∈ acc ∨ h.objs.size ≤ x.2)) ∧ (cellsFrom h.objs.size names acc).Pairwise fun x y => x.2 ≠ y.2
  | [], h, acc, h1, h2, _ => ⟨fun x hx => ⟨h1 x hx, .inl hx⟩, h2⟩
  | (n, kd) :: r, h, acc, h1, h2, h3 => by
    rw [show cellsFrom h.objs.size ((n, kd) :: r) acc = if kd == .cell then cellsFrom (h.objs.size + 1) r ((n, h.objs.size) :: acc) else cellsFrom h.objs.size r acc from rfl, show pushCells h ((n, kd) :: r) = if kd == .cell then pushCells (h.push { cls := .type "cell", data := .cell none }) r else pushCells h r from rfl]
    rw [List.filter_cons] at h3
    by_cases hk : (kd == NameKind.cell) = true
    · rw [if_pos hk] at h3 ⊢
      rw [if_pos hk]
      have key := comp_cells f r (h.push { cls := .type "cell", data := .cell none }) ((n, h.objs.size) :: acc) (fun x hx => by
          rcases List.mem_cons.mp hx with rfl | hx
          · exact ⟨_, Heap.get?_push_size _ rfl, by rw [h3 n (by simp)]⟩
          · exact (h1 x hx).keeps fun b o e => Heap.get?_push_of_some _ e)
        (List.pairwise_cons.mpr ⟨fun y hy e => by
            have hlt := (h1 y hy).lt
            have e' : h.objs.size = y.2 := e
            exact Nat.lt_irrefl _ (e' ▸ hlt), h2⟩) (fun m hm => h3 m (by simp at hm ⊢; exact .inr hm))
      rw [Heap.size_push] at key
      refine ⟨fun x hx => ?_, key.2⟩
      obtain ⟨k1, k2⟩ := key.1 x hx
      refine ⟨k1, ?_⟩
      rcases k2 with k2 | k2
      · rcases List.mem_cons.mp k2 with rfl | k2
        · exact .inr (Nat.le_refl _)
        · exact .inl k2
      · exact .inr (Nat.le_of_succ_le k2)
    · rw [if_neg hk] at h3 ⊢
      rw [if_neg hk]
      exact comp_cells f r h acc h1 h2 h3

noncomputable def relabelS (scope : Scope) (c : Sc) : Scope :=
  { scope with names := scope.names.map fun (n, k) => if (k == .free && c.kind n == some .cell) then (n, .cell) else (n, k) }
noncomputable def compSc (c : Sc) (scope : Scope) : Option Sc :=
  if scope.kind == .function && (freeOf scope).all (fun n => c.cells.contains n && (c.kind n == some .cell || c.kind n == some .free) && scope.names.lookup n == some .free && !(ownCells scope).contains n)
    && decide (freeOf scope).Nodup && scope.names.all (fun x => x.2 != .local || scope.names.lookup x.1 == some .local)
  then some ⟨relabelS scope c, ownCells scope ++ freeOf scope⟩ else none

theorem lookup_relabelS {c : Sc} {x : Str} : ∀ {names : List (Str × NameKind)}, (names.map fun (n, k) => if (k == NameKind.free && c.kind n == some NameKind.cell) then (n, NameKind.cell) else (n, k)).lookup x =
    (names.lookup x).map fun k => if (k == NameKind.free && c.kind x == some NameKind.cell) then NameKind.cell else k
  | [] => rfl
  | (n, k) :: r => by
    have ih := lookup_relabelS (c := c) (x := x) (names := r)
    rw [List.map_cons, List.lookup_cons]
    dsimp only
    cases h : x == n with
    | true =>
      have hx := beq_iff_eq.mp h
      subst hx
      by_cases hc : (k == NameKind.free && c.kind x == some NameKind.cell) = true
      · rw [if_pos hc, List.lookup_cons]; simp only [beq_self_eq_true, Option.map_some]; rw [if_pos hc]
      · rw [if_neg hc, List.lookup_cons]; simp only [beq_self_eq_true, Option.map_some]; rw [if_neg hc]
    | false =>
      by_cases hc : (k == NameKind.free && c.kind n == some NameKind.cell) = true
      · rw [if_pos hc, List.lookup_cons]; simp only [h]; exact ih
      · rw [if_neg hc, List.lookup_cons]; simp only [h]; exact ih

noncomputable def freeNames (scope : Scope) (σ : Names) : Names := σ.filter fun x => (freeOf scope).contains x.1
theorem lookup_freeNames {scope : Scope} {σ : Names} {x : Str} : (freeNames scope σ).lookup x = if (freeOf scope).contains x then σ.lookup x else none := by
  unfold freeNames
  induction σ with
  | nil => simp
  | cons y σ ih =>
    obtain ⟨n, d⟩ := y
    rw [List.filter_cons]
    by_cases hn : (freeOf scope).contains n = true
    · simp only [hn, if_true]
      rw [lookup_put, lookup_put, ih]
      by_cases hx : x = n
      · subst hx; simp only [hn, if_true]
      · simp only [hx, if_false]
    · have hn' : (freeOf scope).contains n = false := by simpa using hn
      simp only [hn', Bool.false_eq_true, if_false]
      rw [ih, lookup_put]
      by_cases hx : x = n
      · subst hx; simp only [hn', Bool.false_eq_true, if_false]
      · simp only [hx, if_false]

section
variable {b : Base} {A : Around} {W : List Addr} {k : Nat} {c c' : Sc} {σ : Names} {env : Env} {m cm : Str → Option Value} {s s' : Shared} {scope : Scope} {E : Value → Shared → Prop}

theorem compEnv_ok (x : In b A W k c σ env m cm s) (hc : compSc c scope = some c') :
    ∃ cl, closeL env.cells scope.names [] = some cl ∧ ∃ m' cm', In b A (W ++ Mine.hid { scope := relabel scope env, locals := s.heap.objs.size, globals := env.globals, cells := cellsFrom (s.heap.objs.size + 1) scope.names cl, qual := env.qual, func := none, code := env.code, frame := env.frame, builtins := env.builtins }) k c' (freeNames scope σ)
      { scope := relabel scope env, locals := s.heap.objs.size, globals := env.globals, cells := cellsFrom (s.heap.objs.size + 1) scope.names cl, qual := env.qual, func := none, code := env.code, frame := env.frame, builtins := env.builtins } m' cm'
      { s with heap := pushCells (s.heap.push { cls := .type "dict", data := .dict #[] }) scope.names } ∧
      ∀ y ∈ cellsFrom (s.heap.objs.size + 1) scope.names cl, (y.1 ∈ freeOf scope ∧ y.2 ∈ Mine.hid env) ∨ s.heap.objs.size + 1 ≤ y.2 := by
  generalize ho : ({ cls := .type "dict", data := .dict #[] } : Obj) = o
  unfold compSc at hc
  split at hc
  · rename_i h
    cases hc
    simp only [Bool.and_eq_true, List.all_eq_true, beq_iff_eq, decide_eq_true_eq, Bool.or_eq_true] at h
    obtain ⟨⟨⟨hk, hfree⟩, hnd⟩, hloc⟩ := h
    have hmem : ∀ n ∈ (scope.names.filter fun x => x.2 == .free).map (·.1), n ∈ freeOf scope := fun n hn => by unfold freeOf; exact List.mem_reverse.mpr hn
    obtain ⟨cl, h1, h2, h3⟩ := closeL_some (cells := env.cells) scope.names [] (fun n hn => lookup_of_mem (by
      rw [x.fit.cells]; simpa using (hfree n (hmem n hn)).1.1.1))
    refine ⟨cl, h1, ?_⟩
    have hnames : cl.map (·.1) = freeOf scope := by rw [h2]; simp [freeOf]
    have h3' : ∀ y ∈ cl, env.cells.lookup y.1 = some y.2 := fun y hy => (h3 y hy).elim (fun q => nomatch q) id
    have hpush : ∀ a ob, s.heap.get? a = some ob → (pushCells (s.heap.push o) scope.names).get? a = some ob := fun a ob e => pushCells_keeps _ _ a ob (Heap.get?_push_of_some _ e)
    have hown : ∀ n, n ∈ (scope.names.filter fun x => x.2 == .cell).map (·.1) → (ownCells scope).contains n = true := fun n hn => by
      unfold ownCells; simpa using hn
    let f : Str → Option Value := fun n => if (ownCells scope).contains n then none else cm n
    have hf : ∀ n ∈ freeOf scope, f n = cm n := fun n hn => by
      have := (hfree n hn).2
      simp only [f]
      rw [if_neg (by simpa using this)]
    have key := comp_cells f scope.names (s.heap.push o) cl (fun y hy => by
        have hy1 : y.1 ∈ freeOf scope := hnames ▸ List.mem_map.mpr ⟨y, hy, rfl⟩
        rw [hf _ hy1]
        exact (x.ine.cell _ _ (h3' y hy)).keeps fun a ob e => Heap.get?_push_of_some _ e)
      (by
        have hp : cl.Pairwise fun x y => x.1 ≠ y.1 := by
          have := hnd
          rw [← hnames] at this
          exact List.pairwise_map.mp this
        exact hp.imp_of_mem fun {y z} hy hz hne e => hne (name_of_addr x.ine.apart (mem_of_lookup (h3' y hy)) (e ▸ mem_of_lookup (h3' z hz))))
      (fun n hn => by simp only [f]; rw [if_pos (hown n hn)])
    rw [Heap.size_push] at key
    have hnsO : (pushCells (s.heap.push o) scope.names).get? s.heap.objs.size = some o := pushCells_keeps _ _ _ _ (Heap.get?_push_size _ (by rw [← ho]; rfl))
    have hvis : ∀ y ∈ cellsFrom (s.heap.objs.size + 1) scope.names cl, (pushCells (s.heap.push o) scope.names).IsCell y.2 (f y.1) ∧ (y.2 ∈ W ∨ s.heap.objs.size ≤ y.2) := fun y hy => by
      obtain ⟨q1, q2⟩ := key.1 y hy
      refine ⟨q1, q2.elim (fun q => .inl (x.hid _ (List.mem_cons_of_mem _ (List.mem_map.mpr ⟨(y.1, y.2), mem_of_lookup (h3' y q), rfl⟩)))) fun q => .inr (Nat.le_of_succ_le q)⟩
    have hcellnames : (cellsFrom (s.heap.objs.size + 1) scope.names cl).map (·.1) = ownCells scope ++ freeOf scope := by rw [cellsFrom_names, hnames]; rfl
    have hrl : relabel scope env = relabelS scope c := by
      unfold relabel relabelS
      congr 1
      refine List.map_congr_left fun y _ => ?_
      obtain ⟨n, kd⟩ := y
      simp only [x.fit.kindOf, x.fit.fkind, beq_self_eq_true, Bool.and_true]
    have p : Post A s { s with heap := pushCells (s.heap.push o) scope.names } := Post.of_keeps (tk := s.toks) hpush
    refine ⟨fun _ => none, f, ⟨?_, ?_, ?_, ?_, ?_⟩, fun y hy => (key.1 y hy).2.elim (fun q => .inl ⟨hnames ▸ List.mem_map.mpr ⟨y, q, rfl⟩, List.mem_cons_of_mem _ (List.mem_map.mpr ⟨(y.1, y.2), mem_of_lookup (h3' y q), rfl⟩)⟩) .inr⟩
    · refine (x.ok.post p).more (fun a ha => List.mem_append_left _ ha) fun a ha => (List.mem_append.mp ha).imp id fun h => ?_
      rcases List.mem_cons.mp h with rfl | h
      · exact ⟨x.ok.none_of_size (Nat.le_refl _), o, hnsO⟩
      · obtain ⟨y, hy, rfl⟩ := List.mem_map.mp h
        obtain ⟨⟨oc, e1, _⟩, q2⟩ := hvis y hy
        exact ⟨q2.elim (fun q => x.ok.low _ q) fun q => x.ok.none_of_size q, oc, e1⟩
    · exact ⟨hrl, hcellnames, x.fit.globals, x.fit.builtins, hk⟩
    · refine ⟨?_, fun n a ha => (hvis (n, a) (mem_of_lookup ha)).1, key.2⟩
      have := Heap.Ns.new s.heap (.type "dict")
      rw [ho] at this
      exact this.keeps (pushCells_keeps _ _)
    · exact fun a ha => List.mem_append_right _ ha
    · intro n d hnd'
      rw [lookup_freeNames] at hnd'
      split at hnd'
      · rename_i hn
        have hn' : n ∈ freeOf scope := by simpa using hn
        obtain ⟨v, e1, r1⟩ := x.rel n d hnd'
        refine ⟨v, ?_, r1.mono (off_grow (fun a ob _ e => hpush a ob e) fun a ha => (List.mem_append.mp ha).elim .inl fun h => ?_)⟩
        · obtain ⟨⟨⟨hq1, hq2⟩, hq3⟩, _⟩ := hfree n hn'
          have hin : (env.cells.lookup n).isSome = true := lookup_of_mem (by rw [x.fit.cells]; simpa using hq1)
          have e2 : cm n = some v := by
            unfold val at e1
            rw [x.fit.kindOf] at e1
            rcases hq2 with hq2 | hq2 <;> rw [hq2] at e1 <;> simpa [hin] using e1
          have hin' : ((cellsFrom (s.heap.objs.size + 1) scope.names cl).lookup n).isSome = true := lookup_of_mem (by rw [hcellnames]; exact List.mem_append_right _ hn')
          have hkk : (relabel scope env).names.lookup n = some .cell ∨ (relabel scope env).names.lookup n = some .free := by
            rw [hrl]
            unfold relabelS
            have e4 := lookup_relabelS (c := c) (x := n) (names := scope.names)
            rw [hq3] at e4
            have e5 : ∀ z, z = some NameKind.cell ∨ z = some NameKind.free → (List.lookup n (scope.names.map fun (n, k) => if (k == NameKind.free && c.kind n == some NameKind.cell) then (n, NameKind.cell) else (n, k)) = z) → List.lookup n (scope.names.map fun (n, k) => if (k == NameKind.free && c.kind n == some NameKind.cell) then (n, NameKind.cell) else (n, k)) = some NameKind.cell ∨ List.lookup n (scope.names.map fun (n, k) => if (k == NameKind.free && c.kind n == some NameKind.cell) then (n, NameKind.cell) else (n, k)) = some NameKind.free := fun z hz e => by rw [e]; exact hz
            refine e5 _ ?_ e4
            simp only [Option.map_some]
            split
            · exact .inl rfl
            · exact .inr rfl
          unfold val Env.kindOf
          rcases hkk with hkk | hkk <;> simp only [hkk, hin', if_true] <;> rw [hf n hn'] <;> exact e2
        · rcases List.mem_cons.mp h with rfl | h
          · exact .inr (none_at_size s.heap)
          · obtain ⟨y, hy, rfl⟩ := List.mem_map.mp h
            exact (hvis y hy).2.imp id fun q => none_above _ q
      · cases hnd'
  · cases hc
end
end Mine
end
section
namespace Mine

theorem Drw.view {prog : Program} {w : World} {A : Around} {it : Value} {tgt : Expr} {xs : List Str} {fp wr : List Addr} {G G' : View} {rows : List (List D)} {St : Nat → Heap → Prop} (x : Drw prog w A it tgt xs fp wr G rows St) (h : G.le G') : Drw prog w A it tgt xs fp wr G' rows St where
  sub := x.sub
  frame := x.frame
  live := x.live
  step := fun i ds s Q E hi st q => x.step i ds s Q E hi st fun v s1 k1 hv => q v s1 k1 fun env E' Q' hq => hv env E' Q' fun vs s2 r k2 st2 => hq vs s2 (r.mono h) k2 st2
  done := x.done
  self := x.self

theorem newEnv_comp {M : Model} {A : Around} {E : Value → Shared → Prop} {s : Shared} {scope : Scope} {globals : Addr} {cl : List (Str × Addr)} {qual : Str} {env : Env} {Q : Env → Shared → Prop}
    (h : Q { scope := scope, locals := s.heap.objs.size, globals := globals, cells := cellsFrom (s.heap.objs.size + 1) scope.names cl, qual := qual, func := none, code := env.code, frame := env.frame, builtins := env.builtins }
      { s with heap := pushCells (s.heap.push { cls := .type "dict", data := .dict #[] }) scope.names }) :
    wpAny M A (newFunctionEnv scope globals cl [] qual none .none (some env)) Q E s := by
  simp only [newFunctionEnv, Option.isSome_some, if_true]
  refine wpAny_bind (wpAny_alloc ?_)
  refine wpAny_bind (wpAny_layCells _ (fun name kind cells => by cases hkc : kind == NameKind.cell <;> simp [hkc]) _ _ _ _ ?_)
  rw [show ({ s with heap := s.heap.push { cls := .type "dict", data := .dict #[] } } : Shared).heap.objs.size = s.heap.objs.size + 1 from Heap.size_push ..]
  rw [List.forIn_nil]
  exact wpAny_bind (wpAny_pure (wpAny_pure h))

theorem off_congr {W W' : List Addr} (h : ∀ a, a ∈ W ↔ a ∈ W') (g : Heap) : off W g = off W' g := by
  funext a
  unfold off
  by_cases h1 : a ∈ W
  · rw [if_pos h1, if_pos ((h a).mp h1)]
  · rw [if_neg h1, if_neg fun q => h1 ((h a).mpr q)]
theorem In.perm {b : Base} {A : Around} {W W' : List Addr} {k : Nat} {c : Sc} {σ : Names} {env : Env} {m cm : Str → Option Value} {s : Shared} (x : In b A W k c σ env m cm s) (h : ∀ a, a ∈ W ↔ a ∈ W') : In b A W' k c σ env m cm s :=
  ⟨⟨x.ok.handled, x.ok.depth, x.ok.units, x.ok.frames, fun a ha => (h a).mp (x.ok.sub a ha), fun a ha => x.ok.low a ((h a).mpr ha), fun a ha => x.ok.live a ((h a).mpr ha), x.ok.inv⟩, x.fit, x.ine, fun a ha => (h a).mp (x.hid a ha), off_congr h s.heap ▸ x.rel⟩
theorem In.widen {b : Base} {A : Around} {W V : List Addr} {k : Nat} {c : Sc} {σ : Names} {env : Env} {m cm : Str → Option Value} {s s' : Shared} (x : In b A W k c σ env m cm s) (p : Post A s s') (h0 : ∀ a ∈ V, s.heap.get? a = none) (h1 : ∀ a ∈ V, ∃ o, s'.heap.get? a = some o) : In b A (W ++ V) k c σ env m cm s' := by
  have x1 := x.post p
  refine ⟨x1.ok.more (fun a ha => List.mem_append_left _ ha) fun a ha => (List.mem_append.mp ha).imp _root_.id fun h => ⟨?_, h1 a h⟩, x1.fit, x1.ine, fun a ha => List.mem_append_left _ (x.hid a ha), fun n d e => ?_⟩
  · cases e : b.h₀.get? a with
    | none => rfl
    | some o => have := x.ok.inv a o e; rw [h0 a h] at this; cases this
  · obtain ⟨v, e1, r1⟩ := x.rel n d e
    exact ⟨v, e1, r1.mono (off_grow (fun a o hna e => p.here (fun h => hna (x.ok.sub a h)) e) fun a ha => (List.mem_append.mp ha).imp _root_.id fun h => h0 a h)⟩

section
variable {b : Base} {k : Nat} {c c' : Sc} {σ : Names}

theorem listcomp_core {elt : Expr} {g : Comprehension} {gs : List Comprehension} {scope : Scope} {pos : Pos} {xs : List Str} {rows : List (List D)} {out : List D} (hc : compSc c scope = some c') (ha : g.is_async = 0) (hs : ∀ env x, foldedSetIterable g.iter env x = pure x)
    (hit : IterOk b k c σ g.iter g.target xs rows) (hx : tgtNames g.target = some xs) (hxs : xs.all (storable c') = true) (hr : RowsOk b k c' (InnerOk b k c' elt gs) g.ifs xs (without (tgts (g :: gs)) (freeNames scope σ)) rows out) (hnf : ∀ n ∈ tgts (g :: gs), n ∉ freeOf scope) (hl : out.length ≤ room) 
    {A : Around} {W : List Addr} {env : Env} {m cm : Str → Option Value} {s : Shared} {E : Value → Shared → Prop} {Q : Value → Shared → Prop} {use : Option (Value → Sem Unit)} {fp0 : Pos} (x : In b A W k c σ env m cm s)
    (H : ∀ Dd C s', Post A s s' → In b A (W ++ [C]) k c σ env m cm s' → s.heap.get? C = none → (∃ m, s'.heap.Ns C m) → Rep (off (W ++ [C]) s'.heap) (.list out) (.ref Dd) → compPost (model b.prog b.w) A E use Q (.ref Dd) C (.ok .next) s') :
    wpAny (model b.prog b.w) A (comprehension (.ListComp elt (g :: gs) scope pos) scope env fp0 (newList []) false (eval g.iter env) use) Q E s := by
  obtain ⟨gt, gi, gif, ga⟩ := g
  dsimp only at ha hs hit hx hr hnf
  subst ha
  have hc' := hc
  unfold compSc at hc'
  split at hc'
  case isFalse => cases hc'
  rename_i hcond
  simp only [Bool.and_eq_true, List.all_eq_true, beq_iff_eq, decide_eq_true_eq, Bool.or_eq_true] at hcond
  obtain ⟨⟨⟨hk, _⟩, _⟩, hloc⟩ := hcond
  obtain ⟨cl, hcl, _⟩ := compEnv_ok x hc
  refine wpAny_comprehension_free (use := use) (g := ⟨gt, gi, gif, 0⟩) (gs := gs) rfl (hs env) (closureFor_eq hcl) hk (fun y hy hyl => (hloc y hy).elim (fun q => by rw [hyl] at q; simp at q) _root_.id)
    (hit A W env m cm s E _ x fun it s0 s2 p0 p2 ⟨fp, wr, St, dr, st0, hw0, hwl, hfp⟩ => ?_)
  have x0 := x.post p0
  have x2 := x0.post p2
  refine wpAny_newObj_type (newEnv_comp ?_)
  generalize hs3 : ({ s2 with heap := s2.heap.push { cls := .type "list", dict := none, data := .seq ([] : List Value).toArray } } : Shared) = s3
  have hk3 : ∀ a o, s2.heap.get? a = some o → s3.heap.get? a = some o := fun a o e => by rw [← hs3]; exact Heap.get?_push_of_some _ e
  have p3 : Post A s2 s3 := hs3 ▸ Post.push A s2 _ s2.toks
  have hDn : s3.heap.get? s2.heap.objs.size = some { cls := .type "list", data := .seq ([] : List Value).toArray } := by rw [← hs3]; exact Heap.get?_push_size _ rfl
  have hsz3 : s3.heap.objs.size = s2.heap.objs.size + 1 := by rw [← hs3]; exact Heap.size_push ..
  have old : ∀ a o, s2.heap.get? a = some o → a ≠ s2.heap.objs.size := fun a o e => Nat.ne_of_lt (Heap.lt_size e)
  have dead0 : s0.heap.get? s2.heap.objs.size = none := by
    cases e : s0.heap.get? s2.heap.objs.size with
    | none => rfl
    | some o => obtain ⟨sl, e'⟩ := p2.slots e; exact absurd (Heap.lt_size e') (Nat.lt_irrefl _)
  have xa : In b A (W ++ ([s2.heap.objs.size] ++ wr)) k c σ env m cm s3 := x0.widen (p2.trans p3) (fun a ha => (List.mem_append.mp ha).elim (fun h => by rw [List.mem_singleton.mp h]; exact dead0) (hw0 a))
    fun a ha => (List.mem_append.mp ha).elim (fun h => by rw [List.mem_singleton.mp h]; exact ⟨_, hDn⟩) fun h => let ⟨o, e⟩ := hwl a h; ⟨o, hk3 a o e⟩
  obtain ⟨cl', hcl', m4, cm4, x4, hcells⟩ := compEnv_ok xa hc
  rw [hcl] at hcl'; cases hcl'
  have hhid : ∀ a ∈ Mine.hid ({ scope := relabel scope env, locals := s3.heap.objs.size, globals := env.globals, cells := cellsFrom (s3.heap.objs.size + 1) scope.names cl, qual := env.qual, func := none, code := env.code, frame := env.frame, builtins := env.builtins } : Env), a ∈ W ∨ s3.heap.objs.size ≤ a := fun a ha => by
    rcases List.mem_cons.mp ha with rfl | ha
    · exact .inr (Nat.le_refl _)
    · obtain ⟨y, hy, rfl⟩ := List.mem_map.mp ha
      rcases hcells y hy with h | h
      · exact .inl (x.hid _ h.2)
      · exact .inr (Nat.le_of_succ_le h)
  have hnew : ∀ a ∈ touch ({ scope := relabel scope env, locals := s3.heap.objs.size, globals := env.globals, cells := cellsFrom (s3.heap.objs.size + 1) scope.names cl, qual := env.qual, func := none, code := env.code, frame := env.frame, builtins := env.builtins } : Env) (tgts (⟨gt, gi, gif, 0⟩ :: gs)), s3.heap.objs.size ≤ a := fun a ha => by
    rcases List.mem_cons.mp ha with rfl | ha
    · exact Nat.le_refl _
    · obtain ⟨n, hn, e⟩ := List.mem_filterMap.mp ha
      rcases hcells (n, a) (mem_of_lookup e) with h | h
      · exact absurd h.1 (hnf n hn)
      · exact Nat.le_of_succ_le h
  generalize hcenv : ({ scope := relabel scope env, locals := s3.heap.objs.size, globals := env.globals, cells := cellsFrom (s3.heap.objs.size + 1) scope.names cl, qual := env.qual, func := none, code := env.code, frame := env.frame, builtins := env.builtins } : Env) = cenv at x4 hhid hnew
  generalize hs4 : ({ s3 with heap := pushCells (s3.heap.push { cls := .type "dict", data := .dict #[] }) scope.names } : Shared) = s4 at x4
  have hk4 : ∀ a o, s3.heap.get? a = some o → s4.heap.get? a = some o := fun a o e => by rw [← hs4]; exact pushCells_keeps _ _ a o (Heap.get?_push_of_some _ e)
  have p4 : Post A s3 s4 := by rw [← hs4]; exact Post.of_keeps (tk := s3.toks) fun a o e => pushCells_keeps _ _ a o (Heap.get?_push_of_some _ e)
  show codeAny (model b.prog b.w) A (.compStart (.ListComp elt (⟨gt, gi, gif, 0⟩ :: gs) scope pos) 0 it (.ref s2.heap.objs.size) cenv) (compPost (model b.prog b.w) A E use Q (.ref s2.heap.objs.size) s3.heap.objs.size) s4
  have hloc4 : cenv.locals = s3.heap.objs.size := by rw [← hcenv]
  have x5 : In b A ((W ++ [s2.heap.objs.size] ++ Mine.hid cenv) ++ wr) k c' (freeNames scope σ) cenv m4 cm4 s4 := x4.perm fun a => by
    have h := True.intro
    simp only [List.mem_append]
    exact ⟨fun q => q.elim (fun q => q.elim (fun q => .inl (.inl (.inl q))) fun q => q.elim (fun q => .inl (.inl (.inr q))) .inr) fun q => .inl (.inr q), fun q => q.elim (fun q => q.elim (fun q => q.elim (fun q => .inl (.inl q)) fun q => .inl (.inr (.inl q))) .inr) fun q => .inl (.inr (.inr q))⟩
  have aliveW : ∀ a ∈ W, ∃ o, s2.heap.get? a = some o := x2.ok.live
  have young : ∀ a o, s2.heap.get? a = some o → ¬ s3.heap.objs.size ≤ a := fun a o e h => by
    have := Heap.lt_size e
    rw [hsz3] at h
    exact absurd (Nat.lt_of_lt_of_le this (Nat.le_of_succ_le h)) (Nat.lt_irrefl _)
  have notNew : ∀ a o, s2.heap.get? a = some o → a ∉ W → a ∉ W ++ [s2.heap.objs.size] ++ Mine.hid cenv := fun a o e hna h => by
    rcases List.mem_append.mp h with h | h
    · rcases List.mem_append.mp h with h | h
      · exact hna h
      · exact old a o e (List.mem_singleton.mp h)
    · exact (hhid a h).elim hna (young a o e)
  have hDW : s2.heap.objs.size ∉ W := x2.ok.fresh
  have hwW : ∀ a ∈ wr, a ∉ W := fun a hwa hWa => by
    obtain ⟨o, e⟩ := x0.ok.live a hWa
    rw [hw0 a hwa] at e; cases e
  have hDh : s2.heap.objs.size ∉ Mine.hid cenv := fun h => (hhid _ h).elim hDW fun q => by rw [hsz3] at q; exact absurd q (Nat.not_succ_le_self _)
  have dr5 := dr.view (G' := off ((W ++ [s2.heap.objs.size] ++ Mine.hid cenv) ++ wr) s4.heap) (fun a o e => by
    obtain ⟨e1, e2⟩ := off_some.mp e
    refine off_some.mpr ⟨fun h => ?_, hk4 a o (hk3 a o e2)⟩
    rcases List.mem_append.mp h with h | h
    · exact notNew a o e2 (fun q => e1 (List.mem_append_left _ q)) h
    · exact e1 (List.mem_append_right _ h))
  have hDf : s2.heap.objs.size ∉ fr A := fun h => hDW (x2.ok.sub _ h)
  have fin : ∀ R : Result → Shared → Prop, (∀ s' m' cm' ys', In b A (W ++ [s2.heap.objs.size] ++ Mine.hid cenv) k c' (without (tgts (⟨gt, gi, gif, 0⟩ :: gs)) (freeNames scope σ)) cenv m' cm' s' → s'.heap.PlainList s2.heap.objs.size ys' → Reps (off (W ++ [s2.heap.objs.size] ++ Mine.hid cenv) s'.heap) ([] ++ out) ys'.toList → Pv A (own cenv (tgts (⟨gt, gi, gif, 0⟩ :: gs)) s2.heap.objs.size ++ wr) s4 s' → R (.ok .next) s') →
      codeAny (model b.prog b.w) A (.compLoop (.ListComp elt (⟨gt, gi, gif, 0⟩ :: gs) scope pos) 0 it (.ref s2.heap.objs.size) cenv) R s4 := fun R hR =>
    loop_step (b := b) (k := k) (c := c') gs ⟨gt, gi, gif, 0⟩ 0 (inner_ok gs 0 rfl fun n hn => by simp only [tgts, List.mem_append]; exact .inr hn) (W ++ [s2.heap.objs.size] ++ Mine.hid cenv) it fp wr xs rows St (freeNames scope σ) m4 cm4 s4 out [] #[] R (fun n hn => hn) rfl rfl hx hxs hr dr5
      (dr.frame _ _ _ st0 fun a _ o e => hk4 a o (hk3 a o e)) x5 (fun a ha => List.mem_append_left _ (List.mem_append_left _ (x2.ok.sub a ha))) (fun a ha => List.mem_append_right _ ha) (fun a ha => let ⟨o, e⟩ := hwl a ha; notNew a o e (hwW a ha)) (fun a ha => let ⟨h1, o, e⟩ := hfp a ha; notNew a o e h1)
      (List.mem_append_left _ (List.mem_append_right _ (List.mem_singleton.mpr rfl))) hDf hDh ⟨_, hk4 _ _ hDn⟩ rfl (by simpa using hl) hR
  have last : ∀ s' m' cm' ys', In b A (W ++ [s2.heap.objs.size] ++ Mine.hid cenv) k c' (without (tgts (⟨gt, gi, gif, 0⟩ :: gs)) (freeNames scope σ)) cenv m' cm' s' → s'.heap.PlainList s2.heap.objs.size ys' → Reps (off (W ++ [s2.heap.objs.size] ++ Mine.hid cenv) s'.heap) ([] ++ out) ys'.toList → Pv A (own cenv (tgts (⟨gt, gi, gif, 0⟩ :: gs)) s2.heap.objs.size ++ wr) s4 s' →
      compPost (model b.prog b.w) A E use Q (.ref s2.heap.objs.size) s3.heap.objs.size (.ok .next) s' := fun s' m' cm' ys' x' hp hrep kp => by
    have hCW : s3.heap.objs.size ∈ W ++ [s2.heap.objs.size] ++ Mine.hid cenv := List.mem_append_right _ (hloc4 ▸ List.mem_cons_self)
    have dead : ∀ a ∈ own cenv (tgts (⟨gt, gi, gif, 0⟩ :: gs)) s2.heap.objs.size ++ wr, s0.heap.get? a = none := fun a ha => by
      rcases List.mem_append.mp ha with ha | ha
      · rcases List.mem_append.mp ha with ha | ha
        · cases e : s0.heap.get? a with
          | none => rfl
          | some o => obtain ⟨sl, e'⟩ := p2.slots e; exact absurd (hnew a ha) (young a _ e')
        · rw [List.mem_singleton.mp ha]; exact dead0
      · exact hw0 a ha
    have pv0 : Pv A ([] : List Addr) s0 s' := shed_pv (s0 := s0) (s1 := s4) (Pv.refl _ _ _) ((p2.trans (p3.trans p4)).pv _) (by simpa using kp) dead
    have post0 : Post A s0 s' := by
      obtain ⟨h1, t1, e, a1, b1⟩ := pv0
      exact ⟨h1, t1, e, fun b o n e => a1 b o (fun q => nomatch q) n e, fun b o e => b1 b o (fun q => nomatch q) e⟩
    have deadC : s0.heap.get? s3.heap.objs.size = none := by
      cases e : s0.heap.get? s3.heap.objs.size with
      | none => rfl
      | some o => obtain ⟨sl, e'⟩ := p2.slots e; exact absurd (Nat.le_refl _) (young _ _ e')
    have hNs : s'.heap.Ns s3.heap.objs.size m' := hloc4 ▸ x'.ine.ns
    obtain ⟨n, eD⟩ := hp
    have hDC : s2.heap.objs.size ≠ s3.heap.objs.size := by rw [hsz3]; exact Nat.ne_of_lt (Nat.lt_succ_self _)
    refine H _ _ s' (p0.trans post0) (x0.widen post0 (fun a ha => by rw [List.mem_singleton.mp ha]; exact deadC) fun a ha => by rw [List.mem_singleton.mp ha]; obtain ⟨o, _, _, e, _⟩ := hNs; exact ⟨o, e⟩) ?_ ⟨m', hNs⟩ ?_
    · cases e : s.heap.get? s3.heap.objs.size with
      | none => rfl
      | some o => obtain ⟨sl, e'⟩ := p0.slots e; rw [deadC] at e'; cases e'
    · refine ⟨s2.heap.objs.size, ys'.toList, rfl, ⟨_, n, off_some.mpr ⟨fun h => (List.mem_append.mp h).elim hDW fun h => hDC (List.mem_singleton.mp h), eD⟩, rfl, by simp⟩, ?_⟩
      exact hrep.mono (off_sub fun a ha => (List.mem_append.mp ha).elim (fun h => List.mem_append_left _ (List.mem_append_left _ h)) fun h => by rw [List.mem_singleton.mp h]; exact hCW)
  exact compStart_any rfl rfl (fin _ last) fun E2 => dr5.self 0 s4 _ _ (dr.frame _ _ _ st0 fun a _ o e => hk4 a o (hk3 a o e)) (fin _ last)

theorem Post.away {A : Around} {s s' : Shared} {C : Addr} {h' : Heap} (p : Post A s s') (hC : s.heap.get? C = none) (hs : Heap.SameBut C s'.heap h') : Post A s { s' with heap := h' } := by
  obtain ⟨h1, t1, rfl, a1, b1⟩ := p
  have ne : ∀ a o, s.heap.get? a = some o → a ≠ C := fun a o e q => by rw [q, hC] at e; cases e
  exact ⟨h', t1, rfl, fun a o n e => hs.extBut a o (ne a o e) (a1 a o n e), fun a o e => let ⟨sl, e1⟩ := b1 a o e; ⟨sl, hs.extBut a _ (ne a o e) e1⟩⟩

theorem ev_listcomp {elt : Expr} {g : Comprehension} {gs : List Comprehension} {scope : Scope} {pos : Pos} {xs : List Str} {rows : List (List D)} {out : List D} (hc : compSc c scope = some c') (ha : g.is_async = 0) (hs : ∀ env x, foldedSetIterable g.iter env x = pure x)
    (hit : IterOk b k c σ g.iter g.target xs rows) (hx : tgtNames g.target = some xs) (hxs : xs.all (storable c') = true) (hr : RowsOk b k c' (InnerOk b k c' elt gs) g.ifs xs (without (tgts (g :: gs)) (freeNames scope σ)) rows out) (hnf : ∀ n ∈ tgts (g :: gs), n ∉ freeOf scope) (hl : out.length ≤ room) :
    EvOk b k c σ (.ListComp elt (g :: gs) scope pos) (.list out) := fun A W env m cm s E Q x h => by
  have hfa : firstAsync (g :: gs) = false := by
    obtain ⟨gt, gi, gif, ga⟩ := g
    have : ga = 0 := ha
    subst this; rfl
  have hfi : firstIter (g :: gs) env = eval g.iter env := by obtain ⟨gt, gi, gif, ga⟩ := g; rfl
  rw [eval_ListComp, hfa, hfi]
  refine listcomp_core hc ha hs hit hx hxs hr hnf hl x fun Dd C s' p x' hC hNs hrep => ?_
  obtain ⟨m1, hNs⟩ := hNs
  refine ⟨m1, hNs, fun h' hs' => h _ _ (p.away hC hs') ?_⟩
  have kC : Kp [C] s' { s' with heap := h' } := ⟨h', s'.toks, rfl, fun a o ha e => hs'.extBut a o (fun q => ha (by simp [q])) e⟩
  exact (hrep.mono (kC.view fun a ha => List.mem_append_right _ ha)).mono (off_sub fun a ha => List.mem_append_left _ ha)

theorem Pv.away {A : Around} {V : List Addr} {s s' : Shared} {C : Addr} {h' : Heap} (p : Pv A V s s') (hC : s.heap.get? C = none) (hs : Heap.SameBut C s'.heap h') : Pv A V s { s' with heap := h' } := by
  obtain ⟨h1, t1, rfl, a1, b1⟩ := p
  have ne : ∀ a o, s.heap.get? a = some o → a ≠ C := fun a o e q => by rw [q, hC] at e; cases e
  exact ⟨h', t1, rfl, fun a o n n' e => hs.extBut a o (ne a o e) (a1 a o n n' e), fun a o n e => let ⟨sl, e1⟩ := b1 a o n e; ⟨sl, hs.extBut a _ (ne a o e) e1⟩⟩

theorem listcomp_use {elt : Expr} {g : Comprehension} {gs : List Comprehension} {scope : Scope} {pos : Pos} {xs : List Str} {rows : List (List D)} {out : List D} (hc : compSc c scope = some c') (ha : g.is_async = 0) (hs : ∀ env x, foldedSetIterable g.iter env x = pure x)
    (hit : IterOk b k c σ g.iter g.target xs rows) (hx : tgtNames g.target = some xs) (hxs : xs.all (storable c') = true) (hr : RowsOk b k c' (InnerOk b k c' elt gs) g.ifs xs (without (tgts (g :: gs)) (freeNames scope σ)) rows out) (hnf : ∀ n ∈ tgts (g :: gs), n ∉ freeOf scope) (hl : out.length ≤ room)
    {A : Around} {W : List Addr} {env : Env} {m cm : Str → Option Value} {s : Shared} {E : Value → Shared → Prop} {Q : Flow → Shared → Prop} {y : Str} {py spos : Pos} (x : In b A W k c σ env m cm s) (hy : storable c y = true)
    (hsw : swapsWith (.ListComp elt (g :: gs) scope pos) (some (.Name y py)) spos.line env = pure true)
    (h : ∀ s2 m' cm', Pv A (touch env [y]) s s2 → In b A W k c ((y, .list out) :: σ) env m' cm' s2 → (∀ z, z ≠ y → val env m' cm' z = val env m cm z) → Q .next s2) :
    wpAny (model b.prog b.w) A (exec (.Assign [.Name y py] (.ListComp elt (g :: gs) scope pos) spos) env) Q E s := by
  have hfa : firstAsync (g :: gs) = false := by
    obtain ⟨gt, gi, gif, ga⟩ := g
    have : ga = 0 := ha
    subst this; rfl
  have hfi : firstIter (g :: gs) env = eval g.iter env := by obtain ⟨gt, gi, gif, ga⟩ := g; rfl
  rw [exec_Assign_Name_used _ _ _ _ hsw]
  refine wpAny_bind (wpAny_standAt (wpAny_bind ?_))
  show wpAny _ A (do let _ ← comprehension (.ListComp elt (g :: gs) scope pos) scope env (firstIterPos (g :: gs) pos) (newList []) (firstAsync (g :: gs)) (firstIter (g :: gs) env) (some (assign (.Name y py) env))) _ _ s
  rw [hfa, hfi]
  refine wpAny_bind (wpAny_mono (listcomp_core (use := some (assign (.Name y py) env)) (Q := fun _ s' => Q .next s') hc ha hs hit hx hxs hr hnf hl x fun Dd C s' p x' hC hNs hrep => ?_) (fun _ s' hq => wpAny_pure (wpAny_pure hq)) fun _ _ e => e)
  have hCW : C ∉ W := fun hw => by obtain ⟨o, e⟩ := x.ok.live C hw; rw [hC] at e; cases e
  refine wpAny_assign_Name (store_in2 x' hy hrep fun s2 m2 cm2 k2 x2 hv => ?_)
  obtain ⟨m1, hNs⟩ := hNs
  have hns2 : s2.heap.Ns C m1 := by
    obtain ⟨o, es, ep, e, rr⟩ := hNs
    exact ⟨o, es, ep, k2.here (fun hq => hCW (x.hid C (touch_hid hq))) e, rr⟩
  refine ⟨m1, hns2, fun h' hs' => ?_⟩
  have kC : Kp [C] s2 { s2 with heap := h' } := ⟨h', s2.toks, rfl, fun a o ha e => hs'.extBut a o (fun q => ha (by simp [q])) e⟩
  exact h _ m2 cm2 (((p.pv _).trans k2.pv).away hC hs') (x2.shed kC x.ok.sub x.hid fun a ha => by rw [List.mem_singleton.mp ha]; exact hCW) hv
end
end Mine
end
section
namespace Mine

noncomputable def Px (A : Around) (wr : List Addr) (s s' : Shared) : Prop := ∃ h' tk, s' = { s with heap := h', toks := tk } ∧
  (∀ b o, b ∉ wr → b ∉ fr A → s.heap.get? b = some o → h'.get? b = some o) ∧ (∀ b o, b ∉ wr → s.heap.get? b = some o → ∃ sl, h'.get? b = some { o with slots := sl })
theorem Px.refl (A : Around) (wr : List Addr) (s : Shared) : Px A wr s s := ⟨s.heap, s.toks, rfl, fun _ _ _ _ e => e, fun _ o _ e => ⟨o.slots, e⟩⟩
theorem Px.trans {A : Around} {wr : List Addr} {s s' s'' : Shared} (x : Px A wr s s') (y : Px A wr s' s'') : Px A wr s s'' := by
  obtain ⟨h1, t1, rfl, a1, b1⟩ := x
  obtain ⟨h2, t2, rfl, a2, b2⟩ := y
  exact ⟨h2, t2, rfl, fun b o n m e => a2 b o n m (a1 b o n m e), fun b o n e => let ⟨sl, e1⟩ := b1 b o n e; let ⟨sl', e2⟩ := b2 b _ n e1; ⟨sl', e2⟩⟩
theorem Px.more {A : Around} {wr wr' : List Addr} {s s' : Shared} (x : Px A wr s s') (h : ∀ b ∈ wr, b ∈ wr') : Px A wr' s s' := by
  obtain ⟨h1, t1, rfl, a1, b1⟩ := x
  exact ⟨h1, t1, rfl, fun b o n m e => a1 b o (fun q => n (h b q)) m e, fun b o n e => b1 b o (fun q => n (h b q)) e⟩
theorem Px.here {A : Around} {wr : List Addr} {s s' : Shared} (x : Px A wr s s') {b : Addr} {o : Obj} (n : b ∉ wr) (m : b ∉ fr A) (e : s.heap.get? b = some o) : s'.heap.get? b = some o := by
  obtain ⟨h1, t1, rfl, a1, b1⟩ := x; exact a1 b o n m e
theorem Px.view {A : Around} {wr W : List Addr} {s s' : Shared} (x : Px A wr s s') (hw : ∀ a ∈ wr, a ∈ W) (hf : ∀ a ∈ fr A, a ∈ W) : (off W s.heap).le (off W s'.heap) :=
  off_keeps fun b _ hb e => x.here (fun h => hb (hw b h)) (fun h => hb (hf b h)) e
theorem Px.of_heap {A : Around} {wr : List Addr} {s : Shared} {h' : Heap} {tk : Nat} (k : ∀ b o, b ∉ wr → s.heap.get? b = some o → h'.get? b = some o) : Px A wr s { s with heap := h', toks := tk } :=
  ⟨h', tk, rfl, fun b o n _ e => k b o n e, fun b o n e => ⟨o.slots, k b o n e⟩⟩

structure Gv (prog : Program) (w : World) (A : Around) (I S : Addr) (wr W : List Addr) (ds : List D) (St : Nat → Shared → Prop) : Prop where
  frame : ∀ i (s : Shared) h' tk, St i s → (∀ b o, b ≠ S → s.heap.get? b = some o → h'.get? b = some o) → (∃ o, h'.get? S = some o ∧ ∀ vs, o.data ≠ .fields vs) → St i { s with heap := h', toks := tk }
  item : ∀ i d (s : Shared) (Q : Option Value → Shared → Prop) (E : Value → Shared → Prop), ds[i]? = some d → St i s → (∀ v s', St (i + 1) s' → Px A wr s s' → Rep (off W s'.heap) d v → Q (some v) s') → wpAny (model prog w) A (pyNext (.ref I)) Q E s
  done : ∀ (s : Shared) (Q : Option Value → Shared → Prop) (E : Value → Shared → Prop), St ds.length s → (∀ s', Px A wr s s' → Q none s') → wpAny (model prog w) A (pyNext (.ref I)) Q E s

theorem ext_loop {prog : Program} {w : World} {A : Around} {R : Result → Shared → Prop} {I S : Addr} {wr W : List Addr} {ds : List D} {St : Nat → Shared → Prop} (G : Gv prog w A.in1 I S wr W ds St) (hn : ds.length ≤ room) (hSw : S ∉ wr) (hSr : S ∉ fr A) (hSW : S ∈ W) (hwW : ∀ a ∈ wr, a ∈ W) (hfW : ∀ a ∈ fr A, a ∈ W) (res : Value) :
    ∀ (k i : Nat) (s : Shared) (acc : Array Value) (c : Nat), ds.length - i = k → i ≤ ds.length → St i s → s.heap.get? S = some { cls := .type "list", dict := none, data := .seq acc c, slots := #[] } → Reps (off W s.heap) (ds.take i) acc.toList →
    (∀ s' acc' c', Px A (S :: wr) s s' → s'.heap.get? S = some { cls := .type "list", dict := none, data := .seq acc' c', slots := #[] } → Reps (off W s'.heap) ds acc'.toList → R (.ok (.ret res)) s') →
    codeAny (model prog w) A (.builtin "list.extend.loop" ⟨[.ref S, .ref I, res], []⟩) R s := by
  have hsub : ∀ b ∈ wr, b ∈ S :: wr := fun b hb => List.mem_cons_of_mem _ hb
  have hfr : fr A.in1 = fr A := rfl
  intro k
  induction k with
  | zero =>
    intro i s acc c hk hi hst hS hacc hR
    have hin : i = ds.length := by omega
    subst hin
    refine codeAny_builtin F.entry_extend_loop ?_
    rw [Around.under_plainId F.plain_extend_loop _]
    show wpAny _ A.in1 (pyNext (.ref I) >>= _) _ _ s
    refine wpAny_bind (G.done s _ _ hst fun s' hm => ?_)
    have hm : Px A wr s s' := hm
    rw [List.take_length] at hacc
    exact wpAny_pure (hR s' acc c (hm.more hsub) (hm.here hSw hSr hS) (hacc.mono (hm.view hwW hfW)))
  | succ k ih =>
    intro i s acc c hk hi hst hS hacc hR
    have hlt : i < ds.length := by omega
    have hd : ds[i]? = some ds[i] := List.getElem?_eq_getElem hlt
    refine codeAny_builtin F.entry_extend_loop ?_
    rw [Around.under_plainId F.plain_extend_loop _]
    show wpAny _ A.in1 (pyNext (.ref I) >>= _) _ _ s
    refine wpAny_bind (G.item i _ s _ _ hd hst fun v s' hst' hm hv => ?_)
    have hm : Px A wr s s' := hm
    have hS' := hm.here hSw hSr hS
    show wpAny _ A.in1 (updateSeq S (·.push v) >>= _) _ _ _
    have hsz : acc.size = i := by have := hacc.length; simp at this; omega
    have oth : ∀ b o, b ≠ S → s'.heap.get? b = some o → (s'.heap.update S (Obj.mapSeq (·.push v))).get? b = some o := fun b o hb e => (Heap.get?_update_other _ _ (Ne.symm hb)).trans e
    have p2 : Px A (S :: wr) s' { s' with heap := s'.heap.update S (Obj.mapSeq (·.push v)) } := Px.of_heap (tk := s'.toks) fun b o hb e => oth b o (fun h => hb (h ▸ List.mem_cons_self)) e
    have hc : 65536 < sizeLine := by decide
    unfold room at hn
    refine wpAny_bind ?_
    refine wpAny_updateSeq hS' rfl (wpAny_pure ⟨plainId_quiet F.plain_extend_loop _, ih (i + 1) _ (acc.push v) _ (by omega) hlt (G.frame _ s' _ s'.toks hst' (fun b o hb e => oth b o hb e) ⟨_, Heap.get?_update_self _ hS' rfl, fun vs q => by simp [Obj.mapSeq] at q⟩) (Heap.get?_update_self _ hS' rfl) ?_ fun s'' acc' c' hm'' hS'' hacc' => ?_⟩) (by rw [hsz]; omega) (by show (acc.push v).size ≤ sizeLine + 1; rw [Array.size_push, hsz]; omega)
    · rw [Array.toList_push, List.take_add_one, hd]
      have up : (off W s'.heap).le (off W (s'.heap.update S (Obj.mapSeq (·.push v)))) := off_keeps fun b o hb e => oth b o (fun h => hb (h ▸ hSW)) e
      exact ((hacc.mono (hm.view hwW hfW)).mono up).snoc (hv.mono up)
    · exact hR s'' acc' c' (((hm.more hsub).trans p2).trans hm'') hS'' hacc'
end Mine
end
section
namespace Mine

structure Kind (prog : Program) (w : World) (A : Around) (I : Addr) (T : Value) (P : Shared → Prop) : Prop where
  nl : (T == .type "list") = false
  nt : (T == .type "tuple") = false
  ty : ∀ {A' : Around} {s : Shared} {Q : Value → Shared → Prop} {E : Value → Shared → Prop}, P s → Q T s → wpAny (model prog w) A' (typeOf (.ref I)) Q E s
  len : ∀ {s : Shared} {Q : Option Value → Shared → Prop} {E : Value → Shared → Prop}, P s → Q none s → wpAny (model prog w) A (specialOf (.ref I) "__len__") Q E s
  hint : ∀ {s : Shared} {Q : Option Value → Shared → Prop} {E : Value → Shared → Prop}, P s → Q none s → wpAny (model prog w) A (specialOf (.ref I) "__length_hint__") Q E s
  self : ∀ {s : Shared} {Q : Value → Shared → Prop} {E : Value → Shared → Prop}, P s → (∀ s', P s' → Px A [] s s' → Q (.ref I) s') → wpAny (model prog w) A (pyIter (.ref I)) Q E s

theorem ext_it {prog : Program} {w : World} {A : Around} {s : Shared} {R : Result → Shared → Prop} {I S : Addr} {wr W : List Addr} {ds : List D} {St : Nat → Shared → Prop} {T : Value} (K : Kind prog w A.in1 I T (St 0)) (G : Gv prog w A.in1 I S wr W ds St) (hn : ds.length ≤ room) (hSw : S ∉ wr) (hSr : S ∉ fr A) (hSW : S ∈ W) (hwW : ∀ a ∈ wr, a ∈ W) (hfW : ∀ a ∈ fr A, a ∈ W) (res : Value) (c₀ : Nat)
    (hSI : S ≠ I) (hst : St 0 s)
    (hS : s.heap.get? S = some { cls := .type "list", data := .seq #[] c₀ })
    (hR : ∀ s' acc' c', Px A (S :: wr) s s' → s'.heap.get? S = some { cls := .type "list", dict := none, data := .seq acc' c', slots := #[] } → Reps (off W s'.heap) ds acc'.toList → R (.ok (.ret res)) s') :
    wpAny (model prog w) A.in1 (Builtin.List.listExtendWith (.ref S) (.ref I) res)
      (fun fin s' => match fin with | .done f => R (.ok f) s' | .again c' => c'.quiet = true ∧ codeAny (model prog w) A c' R s') (fun e s' => R (.error e) s') s := by
  unfold Builtin.List.listExtendWith
  refine wpAny_bind (K.ty hst ?_)
  have h1 : Builtin.List.listSameRef (.ref S) (.ref I) = false := by simp [Builtin.List.listSameRef, hSI]
  have h2 := K.nl
  have h3 := K.nt
  simp only [h1, h2, h3, Bool.or_false, Bool.false_eq_true, if_false]
  refine wpAny_bind (K.self hst fun s0 hst0 px0 => ?_)
  have px0 : Px A [] s s0 := px0
  have hS0 := px0.here (fun h => nomatch h) hSr hS
  refine wpAny_bind (wpAny_holding ?_)
  unfold Builtin.List.listLengthHint
  refine wpAny_bind (K.len hst0 ?_)
  show wpAny _ A.in1 (specialOf (Value.ref I) (Str.ofString "__length_hint__") >>= _) _ _ _
  refine wpAny_bind (K.hint hst0 ?_)
  refine wpAny_pure ?_
  show wpAny _ A.in1 (rule "list.extend.makes-room" >>= fun _ => Builtin.List.listTouch (.ref S) >>= fun _ =>
    again (.builtin "list.extend.loop" ⟨[.ref S, .ref I, res], []⟩)) _ _ _
  refine wpAny_bind (wpAny_rule ?_)
  refine wpAny_bind ?_
  show wpAny _ A.in1 (updateSeq S (·.push .none) >>= fun _ => updateSeq S (·.pop)) _ _ _
  refine wpAny_bind (wpAny_updateSeq hS0 rfl ?_)
  have hS₂ := Heap.get?_update_self (Obj.mapSeq (·.push Value.none)) hS0 rfl
  refine wpAny_updateSeq (hz := by seq_fits) hS₂ rfl ?_
  have hS₃ := Heap.get?_update_self (Obj.mapSeq (·.pop)) hS₂ rfl
  have oth : ∀ b o, b ≠ S → s0.heap.get? b = some o → ((s0.heap.update S (Obj.mapSeq (·.push Value.none))).update S (Obj.mapSeq (·.pop))).get? b = some o :=
    fun b o hb e => (Heap.get?_update_other _ _ (Ne.symm hb)).trans ((Heap.get?_update_other _ _ (Ne.symm hb)).trans e)
  refine wpAny_pure ⟨plainId_quiet F.plain_extend_loop _, ext_loop G hn hSw hSr hSW hwW hfW res _ 0 _ _ _ rfl (Nat.zero_le _)
    (G.frame 0 s0 _ s0.toks hst0 (fun b o hb e => oth b o hb e) ⟨_, hS₃, fun vs q => by simp [Obj.mapSeq] at q⟩) hS₃ rfl fun s' acc' c' hm hS' hacc => ?_⟩
  exact hR s' acc' c' ((px0.more (fun b h => nomatch h)).trans ((Px.of_heap (tk := s0.toks) fun b o hb e => oth b o (fun h => hb (h ▸ List.mem_cons_self)) e).trans hm)) hS' hacc

theorem iadd_it {prog : Program} {w : World} {A : Around} {s : Shared} {R : Result → Shared → Prop} {I S : Addr} {wr W : List Addr} {ds : List D} {St : Nat → Shared → Prop} {T : Value} (K : Kind prog w A.in1 I T (St 0)) (G : Gv prog w A.in1 I S wr W ds St) (hn : ds.length ≤ room) (hSw : S ∉ wr) (hSr : S ∉ fr A) (hSW : S ∈ W) (hwW : ∀ a ∈ wr, a ∈ W) (hfW : ∀ a ∈ fr A, a ∈ W) (c₀ : Nat)
    (hSI : S ≠ I) (hst : St 0 s)
    (hS : s.heap.get? S = some { cls := .type "list", data := .seq #[] c₀ })
    (hR : ∀ s' acc' c', Px A (S :: wr) s s' → s'.heap.get? S = some { cls := .type "list", dict := none, data := .seq acc' c', slots := #[] } → Reps (off W s'.heap) ds acc'.toList → R (.ok (.ret (.ref S))) s') :
    codeAny (model prog w) A (.builtin "list.__iadd__" ⟨[.ref S, .ref I], []⟩) R s := by
  refine codeAny_builtin F.entry_list_iadd ?_
  rw [Around.under_plainId F.plain_list_iadd _]
  exact ext_it K G hn hSw hSr hSW hwW hfW (.ref S) c₀ hSI hst hS hR

theorem collect_it {prog : Program} {w : World} {A : Around} {s : Shared} {E : Value → Shared → Prop} {Q : List Value → Shared → Prop} {I : Addr} {wr W : List Addr} {ds : List D} {St : Nat → Shared → Prop} {T : Value} (K : Kind prog w A.in1 I T (St 0)) (G : Gv prog w A.in1 I s.heap.objs.size wr (s.heap.objs.size :: W) ds St) (hn : ds.length ≤ room) (hSw : s.heap.objs.size ∉ wr) (hSr : s.heap.objs.size ∉ fr A)
    (hwW : ∀ a ∈ wr, a ∈ W) (hfW : ∀ a ∈ fr A, a ∈ W) (hSI : s.heap.objs.size ≠ I) (hst : St 0 { s with heap := s.heap.push { cls := .type "list", data := .seq ([] : List Value).toArray } })
    (hQ : ∀ s' acc, Px A (s.heap.objs.size :: wr) { s with heap := s.heap.push { cls := .type "list", data := .seq ([] : List Value).toArray } } s' → Reps (off (s.heap.objs.size :: W) s'.heap) ds acc → Q acc s') : wpAny (model prog w) A (collect (.ref I)) Q E s := by
  unfold collect
  refine wpAny_bind (wpAny_runValue (codeAny_builtin F.entry_proto_collect ?_))
  rw [Around.under_plainId F.plain_proto_collect _]
  show wpAny _ A.in1 (newList [] >>= fun l => again (.builtin "list.__iadd__" ⟨[l, .ref I], []⟩)) _ _ s
  refine wpAny_bind (wpAny_newObj_type ?_)
  have hS₁ : (s.heap.push { cls := .type "list", data := .seq ([] : List Value).toArray }).get? s.heap.objs.size = some { cls := .type "list", data := .seq #[] 0 } := Heap.get?_push_size _ rfl
  refine wpAny_pure ⟨plainId_quiet F.plain_list_iadd _, iadd_it K G hn hSw hSr List.mem_cons_self (fun a h => List.mem_cons_of_mem _ (hwW a h)) (fun a h => List.mem_cons_of_mem _ (hfW a h)) 0 hSI hst hS₁ fun s' acc' c' hm hS' hacc => ?_⟩
  show wpAny _ A (load s.heap.objs.size >>= _) _ _ s'
  refine wpAny_bind (wpAny_load hS' ?_)
  exact wpAny_pure (hQ s' acc'.toList hm hacc)
end Mine
end
section
set_option maxRecDepth 100000
namespace Mine
theorem new_tuple_it {prog : Program} {w : World} {A : Around} {s : Shared} {E : Value → Shared → Prop} {Q : Value → Shared → Prop} {I : Addr} {wr W : List Addr} {ds : List D} {St : Nat → Shared → Prop} {T : Value} (K : Kind prog w A.in1.in1 I T (St 0)) (hT : s.TypeIs (.ref I) "map") (G : Gv prog w A.in1.in1 I s.heap.objs.size wr (s.heap.objs.size :: W) ds St) (hn : ds.length ≤ room) (hSw : s.heap.objs.size ∉ wr) (hSr : s.heap.objs.size ∉ fr A)
    (hwW : ∀ a ∈ wr, a ∈ W) (hfW : ∀ a ∈ fr A, a ∈ W) (hSI : s.heap.objs.size ≠ I) (hst : St 0 { s with heap := s.heap.push { cls := .type "list", data := .seq ([] : List Value).toArray } })
    (h : ∀ s' acc, Px A (s.heap.objs.size :: wr) { s with heap := s.heap.push { cls := .type "list", data := .seq ([] : List Value).toArray } } s' → Reps (off (s.heap.objs.size :: W) s'.heap) ds acc → Q (.ref s'.heap.objs.size) { s' with heap := s'.heap.push { cls := .type "tuple", data := .seq acc.toArray } }) :
    codeAny (model prog w) A (.call (.builtin "tuple.__new__") ⟨[.type "tuple", .ref I], []⟩) (wants Q E) s := by
  refine codeAny_of_tree ?_
  show wpAny _ A.in1 (do checkBuiltinCall "tuple.__new__" ⟨[.type "tuple", .ref I], []⟩; again (.builtin "tuple.__new__" ⟨[.type "tuple", .ref I], []⟩)) _ _ s
  refine wpAny_bind (wpAny_of_eq (F.newCall_tuple_1 _) (wpAny_pure ⟨plainId_quiet F.plain_tuple_new _, codeAny_builtin F.entry_tuple_new ?_⟩))
  rw [Around.under_plainId F.plain_tuple_new _]
  have hsub := sub_tuple_self
  have hinit := init_tuple_lookup
  have hmh := madeHere_tuple
  have hc : ∀ {E' : Value → Shared → Prop} {Q' : List Value → Shared → Prop}, (∀ s' acc, Px A (s.heap.objs.size :: wr) { s with heap := s.heap.push { cls := .type "list", data := .seq ([] : List Value).toArray } } s' → Reps (off (s.heap.objs.size :: W) s'.heap) ds acc → Q' acc s') → wpAny (model prog w) A.in1 (collect (.ref I)) Q' E' s := fun hQ => collect_it (A := A.in1) K G hn hSw hSr hwW hfW hSI hst hQ
  wp_walk using wpAny_typeOf hT, hc
  intro s' acc hm hacc
  have nl := hacc.length
  have hcl : 65536 ≤ sizeLine := by decide
  unfold room at hn
  refine wpAny_bind (wpAny_pure ?_)
  show wpAny _ _ (Builtin.Tuple.tupleExact acc.toArray >>= fun v => ret v) _ _ _
  unfold Builtin.Tuple.tupleExact
  refine wpAny_bind (wpAny_newObj_type ?_ (by show acc.toArray.size ≤ sizeLine; rw [List.size_toArray]; omega))
  refine wpAny_pure ?_
  exact h s' acc hm hacc

theorem call_tuple_it {prog : Program} {w : World} {A : Around} {s : Shared} {E : Value → Shared → Prop} {Q : Value → Shared → Prop} {I : Addr} {wr W : List Addr} {ds : List D} {St : Nat → Shared → Prop} {T : Value} (K : Kind prog w A.in1.in1.in1 I T (St 0)) (hT : s.TypeIs (.ref I) "map") (G : Gv prog w A.in1.in1.in1 I s.heap.objs.size wr (s.heap.objs.size :: W) ds St) (hn : ds.length ≤ room) (hSw : s.heap.objs.size ∉ wr) (hSr : s.heap.objs.size ∉ fr A)
    (hwW : ∀ a ∈ wr, a ∈ W) (hfW : ∀ a ∈ fr A, a ∈ W) (hSI : s.heap.objs.size ≠ I) (hst : St 0 { s with heap := s.heap.push { cls := .type "list", data := .seq ([] : List Value).toArray } })
    (h : ∀ s' acc, Px A (s.heap.objs.size :: wr) { s with heap := s.heap.push { cls := .type "list", data := .seq ([] : List Value).toArray } } s' → Reps (off (s.heap.objs.size :: W) s'.heap) ds acc → Q (.ref s'.heap.objs.size) { s' with heap := s'.heap.push { cls := .type "tuple", data := .seq acc.toArray } }) :
    wpAny (model prog w) A (call (.type "tuple") [.ref I]) Q E s := by
  refine callType_codes (Q₁ := fun obj s₁ => s₁.TypeIs obj "tuple" ∧ Q obj s₁) F.called_tuple (F.typeCall_tuple_1 _) F.entry_object_init
    (new_tuple_it (A := A.in1) K hT G hn hSw hSr hwW hfW hSI hst fun s' acc hm hacc => ⟨⟨_, Heap.get?_push_size _ rfl, rfl⟩, h s' acc hm hacc⟩) fun obj s₁ h₁ => ?_
  exact ⟨h₁.1, F.args_object_init_2 obj _, object_init_meets F.called_tuple.init.lookup F.called_tuple.made (by decide) prog w A.in1 _ s₁ ⟨h₁.1, rfl, h₁.2⟩⟩

theorem list_init_it {prog : Program} {w : World} {A : Around} {s : Shared} {R : Result → Shared → Prop} {I S : Addr} {wr W : List Addr} {ds : List D} {St : Nat → Shared → Prop} {T : Value} (K : Kind prog w A.in1 I T (St 0)) (G : Gv prog w A.in1 I S wr W ds St) (hn : ds.length ≤ room) (hSw : S ∉ wr) (hSr : S ∉ fr A) (hSW : S ∈ W) (hwW : ∀ a ∈ wr, a ∈ W) (hfW : ∀ a ∈ fr A, a ∈ W)
    (hSI : S ≠ I) (hst : St 0 s) (hS : s.heap.get? S = some { cls := .type "list", data := .seq #[] })
    (hR : ∀ s' acc' c', Px A (S :: wr) s s' → s'.heap.get? S = some { cls := .type "list", dict := none, data := .seq acc' c', slots := #[] } → Reps (off W s'.heap) ds acc'.toList → R (.ok (.ret .none)) s') :
    wpAny (model prog w) A.in1 (Builtin.«list.__init__» ⟨[.ref S, .ref I], []⟩)
      (fun fin s' => match fin with | .done f => R (.ok f) s' | .again c' => c'.quiet = true ∧ codeAny (model prog w) A c' R s') (fun e s' => R (.error e) s') s := by
  show wpAny _ A.in1 (do let old ← Builtin.List.listItems (.ref S); Builtin.List.listUpdate (.ref S) (fun _ => #[]); letGo old.toList.reverse; Builtin.List.listExtendWith (.ref S) (.ref I) .none) _ _ s
  refine wpAny_bind ?_
  unfold Builtin.List.listItems
  refine wpAny_bind (wpAny_seqItems hS rfl (wpAny_pure ?_))
  show wpAny _ A.in1 (updateSeq S (fun _ => #[]) >>= fun _ => letGo (#[] : Array Value).toList.reverse >>= fun _ => Builtin.List.listExtendWith (.ref S) (.ref I) .none) _ _ s
  refine wpAny_bind (wpAny_updateSeq hS rfl ?_)
  have hS₂ := Heap.get?_update_self (Obj.mapSeq (fun _ => (#[] : Array Value))) hS rfl
  have oth : ∀ b o, b ≠ S → s.heap.get? b = some o → (s.heap.update S (Obj.mapSeq (fun _ => (#[] : Array Value)))).get? b = some o :=
    fun b o hb e => (Heap.get?_update_other _ _ (Ne.symm hb)).trans e
  refine wpAny_bind (wpAny_letGo ?_)
  refine ext_it K G hn hSw hSr hSW hwW hfW .none _ hSI (G.frame 0 s _ s.toks hst oth ⟨_, hS₂, fun vs q => by simp [Obj.mapSeq] at q⟩) hS₂ fun s' acc' c' hm hS' hacc => ?_
  exact hR s' acc' c' ((Px.of_heap (tk := s.toks) fun b o hb e => oth b o (fun h => hb (h ▸ List.mem_cons_self)) e).trans hm) hS' hacc

theorem call_list_it {prog : Program} {w : World} {A : Around} {s : Shared} {E : Value → Shared → Prop} {Q : Value → Shared → Prop} {I : Addr} {wr W : List Addr} {ds : List D} {St : Nat → Shared → Prop} {T : Value} (K : Kind prog w A.in1.in1 I T (St 0)) (G : Gv prog w A.in1.in1 I s.heap.objs.size wr (s.heap.objs.size :: W) ds St) (hn : ds.length ≤ room) (hSw : s.heap.objs.size ∉ wr) (hSr : s.heap.objs.size ∉ fr A)
    (hwW : ∀ a ∈ wr, a ∈ W) (hfW : ∀ a ∈ fr A, a ∈ W) (hSI : s.heap.objs.size ≠ I) (hst : St 0 { s with heap := s.heap.push { cls := .type "list", data := .seq #[] } })
    (h : ∀ s' acc' c', Px A (s.heap.objs.size :: wr) { s with heap := s.heap.push { cls := .type "list", data := .seq #[] } } s' → s'.heap.get? s.heap.objs.size = some { cls := .type "list", dict := none, data := .seq acc' c', slots := #[] } → Reps (off (s.heap.objs.size :: W) s'.heap) ds acc'.toList → Q (.ref s.heap.objs.size) s') :
    wpAny (model prog w) A (call (.type "list") [.ref I]) Q E s := by
  refine callType_codes (Q₁ := fun obj s₁ => obj = .ref s.heap.objs.size ∧ s₁ = { s with heap := s.heap.push { cls := .type "list", data := .seq #[] } }) F.called_list (F.typeCall_list_1 _) F.entry_list_init
    (code_list_new _ ⟨rfl, rfl⟩) fun obj s₁ h₁ => ?_
  obtain ⟨rfl, rfl⟩ := h₁
  have hS : (s.heap.push { cls := .type "list", data := .seq #[] }).get? s.heap.objs.size = some { cls := .type "list", data := .seq #[] } := Heap.get?_push_size _ rfl
  refine ⟨⟨_, hS, rfl⟩, F.args_list_init_2 _ _, list_init_it (A := A.in1) K G hn hSw hSr List.mem_cons_self (fun a h => List.mem_cons_of_mem _ (hwW a h)) (fun a h => List.mem_cons_of_mem _ (hfW a h)) hSI hst hS fun s' acc' c' hm hS' hacc => ?_⟩
  exact ⟨rfl, h s' acc' c' hm hS' hacc⟩
end Mine
end
section
set_option maxRecDepth 100000
namespace Mine
theorem mro_map : mroOf (.type "map") = pure [.type "map", .type "object"] := by rw [mroOf_type]; kernel_rfl
theorem lookup_map_new : typeLookup (.type "map") "__new__" = pure (some (.builtin "map.__new__")) := by rw [typeLookup_type, builtinLookup_eq_fast]; kernel_rfl
theorem slot_map_init : Slot "map" "__init__" "object.__init__" :=
  .of (owner := "object") (n := "__init__") (by rw [typeLookup_type, builtinLookup_eq_fast]; kernel_rfl) (by decide +kernel) (by decide +kernel) (by decide +kernel)
    (by first | exact .inl (by decide +kernel) | exact .inr (by decide +kernel)) (by rw [isSubtype_type]; kernel_rfl)
theorem called_map : TypeCalled "map" "map.__new__" "object.__init__" :=
  ⟨by decide +kernel, by decide +kernel, ⟨_, _, mro_map⟩, madeBy_type mro_map lookup_map_new (by decide +kernel), by decide +kernel, by rw [isSubtype_type]; kernel_rfl, slot_map_init⟩
theorem typeCall_map_2 (a b : Value) : checkTypeCall "map" ⟨[a, b], []⟩ = pure () := by kernel_rfl
theorem newCall_map_2 (a b : Value) : checkBuiltinCall "map.__new__" ⟨[.type "map", a, b], []⟩ = pure () := by kernel_rfl
theorem entry_map_new : entryFor table "map.__new__" = some Builtin.«map.__new__» := entryFor_of_tree (by kernel_rfl)
theorem slot_map_next : Slot "map" "__next__" "map.__next__" :=
  .of (owner := "map") (n := "__next__") (by rw [typeLookup_type, builtinLookup_eq_fast]; kernel_rfl) (by decide +kernel) (by decide +kernel) (by decide +kernel)
    (by first | exact .inl (by decide +kernel) | exact .inr (by decide +kernel)) (by rw [isSubtype_type]; kernel_rfl)
theorem entry_map_next : entryFor table "map.__next__" = some Builtin.«map.__next__» := entryFor_of_tree (by kernel_rfl)
theorem slot_map_iter : Slot "map" "__iter__" "map.__iter__" :=
  .of (owner := "map") (n := "__iter__") (by rw [typeLookup_type, builtinLookup_eq_fast]; kernel_rfl) (by decide +kernel) (by decide +kernel) (by decide +kernel)
    (by first | exact .inl (by decide +kernel) | exact .inr (by decide +kernel)) (by rw [isSubtype_type]; kernel_rfl)
theorem entry_map_iter : entryFor table "map.__iter__" = some Builtin.«dict_keyiterator.__iter__» :=
  entryFor_alias (id' := "dict_keyiterator.__iter__") (by kernel_rfl) (by first | rfl | decide +kernel | (unfold String.splitOn; simp +decide [String.splitOnAux])) (by decide +kernel) (by kernel_rfl)

theorem owner_map : Manifest.owners.lookup (String.ofList ['p', 'a', 'm'].reverse) = some Manifest.sig_map := by kernel_rfl
theorem args_map_next_1 (a : Value) : argsOk "map.__next__" ⟨[a], []⟩ := by
  unfold argsOk; rw [signature?_of (id := "map.__next__") (n := ['_', '_', 't', 'x', 'e', 'n', '_', '_']) (o := ['p', 'a', 'm']) (by kernel_rfl) owner_map]; kernel_rfl
theorem args_map_iter_1 (a : Value) : argsOk "map.__iter__" ⟨[a], []⟩ := by
  unfold argsOk; rw [signature?_of (id := "map.__iter__") (n := ['_', '_', 'r', 'e', 't', 'i', '_', '_']) (o := ['p', 'a', 'm']) (by kernel_rfl) owner_map]; kernel_rfl
theorem sub_map : isSubtype (.type "map") (.type "map") = pure true := by rw [isSubtype_type]; kernel_rfl
theorem map_no_len : typeLookup (.type "map") "__len__" = pure none := by rw [typeLookup_type, builtinLookup_eq_fast]; kernel_rfl
theorem map_no_hint : typeLookup (.type "map") "__length_hint__" = pure none := by rw [typeLookup_type, builtinLookup_eq_fast]; kernel_rfl

noncomputable abbrev IsMap (h : Heap) (I TI : Addr) (f : Value) : Prop := h.get? I = some { cls := .type "map", dict := none, data := .fields #[.ref TI, f], slots := #[] }
noncomputable abbrev IsOne (h : Heap) (T : Addr) (a : Value) : Prop := h.get? T = some { cls := .type "tuple", data := .seq #[a] }

noncomputable abbrev mapH1 (h : Heap) (l : Addr) : Heap := h.push { cls := .type "list_iterator", data := .fields #[.ref l, .int 0 0] }
noncomputable abbrev mapH2 (h : Heap) (l : Addr) : Heap := (mapH1 h l).push { cls := .type "tuple", data := .seq #[.ref h.objs.size] }
noncomputable abbrev mapH3 (h : Heap) (l : Addr) (f : Value) : Heap := (mapH2 h l).push { cls := .type "map", data := .fields #[.ref (mapH1 h l).objs.size, f] }

theorem meets_map_new (f : Value) (l : Addr) (xs : Array Value) :
    Meets (Builtin.«map.__new__» ⟨[.type "map", f, .ref l], []⟩) (fun _ R s => s.heap.IsList l xs ∧ R (.ok (.ret (.ref (mapH2 s.heap l).objs.size))) { s with heap := mapH3 s.heap l f }) :=
  .of_wp fun prog w A R s h => by
    obtain ⟨hp, g, d, tk, os⟩ := s; obtain ⟨hl1, h⟩ := h
    have hsub := sub_map
    have hL1 : Heap.IsList (Shared.heap ⟨hp, g, d, tk, os⟩) l xs := hl1
    wp_walk using wpAny_pyIter_list hL1
    exact ⟨_, rfl, h⟩

section
variable {prog : Program} {w : World} {A : Around} {E : Value → Shared → Prop} {s : Shared}
theorem call_map_list {f : Value} {l : Addr} {xs : Array Value} {Q : Value → Shared → Prop} (hl : s.heap.IsList l xs)
    (h : ∀ h', IsMap h' (s.heap.objs.size + 2) (s.heap.objs.size + 1) f → IsOne h' (s.heap.objs.size + 1) (.ref s.heap.objs.size) → h'.IsListIter s.heap.objs.size l 0 → h'.objs.size = s.heap.objs.size + 3 →
      (∀ c o, s.heap.get? c = some o → h'.get? c = some o) → Q (.ref (s.heap.objs.size + 2)) { s with heap := h' }) :
    wpAny (model prog w) A (call (.type "map") [f, .ref l]) Q E s := by
  refine callType_new called_map (by decide) (typeCall_map_2 _ _) (newCall_map_2 _ _) (fun obj => F.args_object_init_3 obj _ _) entry_map_new
    (meets_map_new f l xs) ⟨hl, ?_⟩
  have z1 : (mapH1 s.heap l).objs.size = s.heap.objs.size + 1 := Heap.size_push ..
  have z2 : (mapH2 s.heap l).objs.size = s.heap.objs.size + 2 := by rw [Heap.size_push, z1]
  have z3 : (mapH3 s.heap l f).objs.size = s.heap.objs.size + 3 := by rw [Heap.size_push, z2]
  have g3 : (mapH3 s.heap l f).get? (mapH2 s.heap l).objs.size = some _ := Heap.get?_push_size _ rfl
  have g2 : (mapH3 s.heap l f).get? (mapH1 s.heap l).objs.size = some _ := Heap.get?_push_of_some _ (Heap.get?_push_size _ rfl)
  have g1 : (mapH3 s.heap l f).get? s.heap.objs.size = some _ := Heap.get?_push_of_some _ (Heap.get?_push_of_some _ (Heap.get?_push_size _ rfl))
  show _ ∧ _
  rw [z1, z2] at g3
  rw [z1] at g2
  rw [z2]
  exact ⟨⟨_, g3, rfl⟩, h _ g3 g2 ⟨_, g1, rfl, rfl⟩ z3 fun c o x => Heap.get?_push_of_some _ (Heap.get?_push_of_some _ (Heap.get?_push_of_some _ x))⟩

theorem pyIter_map {I TI : Addr} {f : Value} {Q : Value → Shared → Prop} (hz : IsMap s.heap I TI f) (h : Q (.ref I) s) : wpAny (model prog w) A (pyIter (.ref I)) Q E s := by
  have hT : s.TypeIs (.ref I) "map" := ⟨_, hz, rfl⟩
  refine wpAny_pyIter_slot hT slot_map_iter (wpAny_call_entry slot_map_iter hT entry_map_iter ?_ (args_map_iter_1 _))
  show wpAny _ _ (ret (.ref I)) _ _ s
  exact wpAny_pure ⟨_, rfl, "map", _, hT, slot_map_next.lookup, h⟩

theorem pyNext_map_item {I TI J l : Addr} {f x : Value} {i : Nat} {xs : Array Value} {Q : Option Value → Shared → Prop} (hm : IsMap s.heap I TI f) (ht : IsOne s.heap TI (.ref J)) (hj : s.heap.IsListIter J l i) (hl : s.heap.IsList l xs) (hx : xs[i]? = some x) (hIJ : I ≠ J)
    (hQ : ∀ h' E', h'.IsListIter J l (i + 1) → Heap.SameBut J s.heap h' → wpAny (model prog w) A.in1 (call f [x]) (fun v s' => Q (some v) s') E' { s with heap := h' }) :
    wpAny (model prog w) A (pyNext (.ref I)) Q E s := by
  have hT : s.TypeIs (.ref I) "map" := ⟨_, hm, rfl⟩
  unfold pyNext
  refine wpAny_bind (wpAny_attempt (wpAny_callSpecial?_slot (name := Str.ofString "__next__") hT slot_map_next
    (wpAny_call_entry slot_map_next hT entry_map_next ?_ (args_map_next_1 _))))
  show wpAny _ _ (field (.ref I) 0 >>= _) _ _ _
  refine wpAny_bind (wpAny_field hm rfl (x := .ref TI) rfl ?_)
  refine wpAny_bind (wpAny_seqItems ht rfl ?_)
  simp only [List.forIn_toArray, List.forIn_cons, List.forIn_nil]
  refine wpAny_bind (wpAny_bind (wpAny_bind (wpAny_holding (wpAny_nextOf_list_item hj hl hx fun h' hj' hs' => wpAny_pure (wpAny_pure ?_)))))
  have hm' : IsMap h' I TI f := hs'.extBut _ _ hIJ hm
  refine wpAny_bind (wpAny_field hm' rfl (x := f) rfl ?_)
  refine wpAny_bind (wpAny_holding (wpAny_mono (hQ h' _ hj' hs') (fun v s' hv => ?_) fun _ _ e => e))
  refine wpAny_bind (wpAny_letGo ?_)
  exact wpAny_pure ⟨v, rfl, wpAny_pure hv⟩

theorem pyNext_map_end {I TI J l : Addr} {f : Value} {i : Nat} {xs : Array Value} {Q : Option Value → Shared → Prop} (hh : A.handled = none) (hm : IsMap s.heap I TI f) (ht : IsOne s.heap TI (.ref J)) (hj : s.heap.IsListIter J l i) (hl : s.heap.IsList l xs) (hx : xs[i]? = none)
    (hQ : ∀ h', Heap.ExtBut J s.heap h' → Q none { s with heap := h' }) : wpAny (model prog w) A (pyNext (.ref I)) Q E s := by
  have hT : s.TypeIs (.ref I) "map" := ⟨_, hm, rfl⟩
  unfold pyNext
  refine wpAny_bind (wpAny_attempt (wpAny_callSpecial?_slot (name := Str.ofString "__next__") hT slot_map_next
    (wpAny_call_entry slot_map_next hT entry_map_next ?_ (args_map_next_1 _))))
  show wpAny _ _ (field (.ref I) 0 >>= _) _ _ _
  refine wpAny_bind (wpAny_field hm rfl (x := .ref TI) rfl ?_)
  refine wpAny_bind (wpAny_seqItems ht rfl ?_)
  simp only [List.forIn_toArray, List.forIn_cons, List.forIn_nil]
  refine wpAny_bind (wpAny_bind (wpAny_bind (wpAny_holding (wpAny_nextOf_list_end hh hj hl hx fun h' e hk he => ?_))))
  obtain ⟨o, ho, hc⟩ := he
  refine wpAny_bind (wpAny_isInstance (T := "StopIteration") (b := true) ⟨o, ho, hc⟩ isSubtype_stop ?_)
  exact wpAny_pure (hQ _ hk)
end
end Mine
end
section
set_option maxRecDepth 100000
namespace Mine

theorem Ok.kp {b : Base} {A : Around} {W wr : List Addr} {k : Nat} {s s' : Shared} (x : Ok b A W k s) (p : Kp wr s s') (h1 : ∀ a ∈ wr, a ∈ W) (h2 : ∀ a ∈ wr, a ∉ fr A) (h4 : ∀ a ∈ wr, ∃ o, s'.heap.get? a = some o) : Ok b A W k s' := by
  refine ⟨x.handled, x.depth, x.units, ?_, x.sub, x.low, fun a ha => ?_, fun a o e => p.here (fun h => by have := x.low a (h1 a h); rw [e] at this; cases this) (x.inv a o e)⟩
  · obtain ⟨outer, e, f⟩ := x.frames
    refine ⟨outer, e, fun env' he => ?_⟩
    obtain ⟨hk', L, o, g1, g2, g3⟩ := f env' he
    refine ⟨hk', L, o, g1, p.here (fun h => h2 L h ?_) g2, g3⟩
    unfold fr
    rw [e]
    exact List.mem_filterMap.mpr ⟨env', he, g1⟩
  · by_cases hw : a ∈ wr
    · exact h4 a hw
    · obtain ⟨o, e⟩ := x.live a ha
      exact ⟨o, p.here hw e⟩
theorem Ok.in4 {b : Base} {A : Around} {W : List Addr} {k : Nat} {s : Shared} (x : Ok b A W (k + 1) s) : Ok b A.in1.in1.in1.in1 W k s :=
  ⟨x.handled, by have := x.depth; show A.depth + k < 900; omega, by have := x.units; show A.units + 1 + 1 + 1 + 1 + 4 * k + 100 < 8000; omega, x.frames, x.sub, x.low, x.live, x.inv⟩

noncomputable def mapF (F : List D → Option D) : List D → Option (List D)
  | [] => some []
  | d :: ds => (F [d]).bind fun e => (mapF F ds).map (e :: ·)
theorem mapF_at {F : List D → Option D} : ∀ {ds es : List D}, mapF F ds = some es → ds.length = es.length ∧ ∀ (i : Nat) (e : D), es[i]? = some e → ∃ d, ds[i]? = some d ∧ F [d] = some e
  | [], es, h => by cases h; exact ⟨rfl, fun i e h => by simp at h⟩
  | d :: ds, es, h => by
    unfold mapF at h
    cases h1 : F [d] with
    | none => rw [h1] at h; cases h
    | some e0 =>
      rw [h1] at h
      simp only [Option.bind_some] at h
      cases h2 : mapF F ds with
      | none => rw [h2] at h; cases h
      | some es' =>
        rw [h2] at h; cases h
        obtain ⟨a, c⟩ := mapF_at h2
        refine ⟨by simp [a], fun i e he => ?_⟩
        cases i with
        | zero => simp at he; subst he; exact ⟨d, rfl, h1⟩
        | succ i => simp at he; obtain ⟨d', x, y⟩ := c i e he; exact ⟨d', by simpa using x, y⟩

structure MapSt (b : Base) (A : Around) (I TI J l S : Addr) (f : Value) (W : List Addr) (k : Nat) (ds : List D) (xs : Array Value) (i : Nat) (s : Shared) : Prop where
  m : IsMap s.heap I TI f
  t : IsOne s.heap TI (.ref J)
  j : s.heap.IsListIter J l i
  l : s.heap.IsList l xs
  ok : Ok b A (S :: J :: W) (k + 1) s
  rep : Reps (off (S :: J :: W) s.heap) ds xs.toList

theorem map_gv {b : Base} {A : Around} {I TI J l S : Addr} {f : Value} {W : List Addr} {k : Nat} {ds es : List D} {xs : Array Value} {F : List D → Option D} (hf : CallOk b f k F) (he : mapF F ds = some es)
    (hI : I ∉ fr A) (hTI : TI ∉ fr A) (hJ : J ∉ fr A) (hl : l ∉ fr A) (hS : S ∉ fr A) (hIS : I ≠ S) (hTS : TI ≠ S) (hJS : J ≠ S) (hlS : l ≠ S) (hIJ : I ≠ J) (hTJ : TI ≠ J) (hlJ : l ≠ J) :
    Gv b.prog b.w A.in1.in1.in1 I S [J] (S :: J :: W) es (MapSt b A I TI J l S f W k ds xs) where
  frame := fun i s h' tk st hk hn => by
    refine ⟨hk _ _ hIS st.m, hk _ _ hTS st.t, ?_, ?_, ?_, ?_⟩
    · obtain ⟨o, e, r⟩ := st.j; exact ⟨o, hk _ _ hJS e, r⟩
    · obtain ⟨o, e, r⟩ := st.l; exact ⟨o, hk _ _ hlS e, r⟩
    · obtain ⟨o, e, _⟩ := hn
      exact st.ok.kp (wr := [S]) ⟨h', tk, rfl, fun c o hc e => hk c o (fun q => hc (by simp [q])) e⟩ (fun a ha => by rw [List.mem_singleton.mp ha]; exact List.mem_cons_self) (fun a ha => by rw [List.mem_singleton.mp ha]; exact hS) (fun a ha => by rw [List.mem_singleton.mp ha]; exact ⟨o, e⟩)
    · exact st.rep.mono (off_keeps fun c o hc e => hk c o (fun q => hc (by simp [q])) e)
  item := fun i e s Q E hi st hq => by
    obtain ⟨hlen, hat⟩ := mapF_at he
    obtain ⟨d, hd, hF⟩ := hat i e hi
    obtain ⟨x, hx, rx⟩ := st.rep.at hd
    refine pyNext_map_item st.m st.t st.j st.l (by simpa using hx) hIJ fun h' E' hj' hs' => ?_
    have kp : Kp [J] s { s with heap := h' } := ⟨h', s.toks, rfl, fun c o hc e => hs'.extBut c o (fun q => hc (by simp [q])) e⟩
    have hsub : ∀ a ∈ ([J] : List Addr), a ∈ S :: J :: W := fun a ha => by rw [List.mem_singleton.mp ha]; simp
    have ok' : Ok b A (S :: J :: W) (k + 1) { s with heap := h' } := st.ok.kp kp hsub (fun a ha => by rw [List.mem_singleton.mp ha]; exact hJ) (fun a ha => by rw [List.mem_singleton.mp ha]; obtain ⟨o, e, _⟩ := hj'; exact ⟨o, e⟩)
    refine hf A.in1.in1.in1.in1 (S :: J :: W) _ [d] [x] e E' _ hF ok'.in4 ⟨x, [], rfl, rx.mono (kp.view hsub), rfl⟩ fun v s' p r => ?_
    have p' : Post A { s with heap := h' } s' := p
    have hJne : ∀ {a : Addr} {o : Obj}, a ≠ J → a ∉ fr A → s.heap.get? a = some o → s'.heap.get? a = some o := fun n1 n2 e => p'.here n2 (hs'.extBut _ _ n1 e)
    refine hq v s' ⟨hJne hIJ hI st.m, hJne hTJ hTI st.t, ?_, ?_, ok'.post p', (st.rep.mono (kp.view hsub)).mono (p'.view ok'.sub)⟩ ?_ r
    · obtain ⟨o, e, r⟩ := hj'; exact ⟨o, p'.here hJ e, r⟩
    · obtain ⟨o, e, r⟩ := st.l; exact ⟨o, hJne hlJ hl e, r⟩
    · obtain ⟨h2, t2, rfl, a2, b2⟩ := p'
      exact ⟨h2, t2, rfl, fun c o n m e => a2 c o m (hs'.extBut c o (fun q => n (by simp [q])) e), fun c o n e => b2 c o (hs'.extBut c o (fun q => n (by simp [q])) e)⟩
  done := fun s Q E st hq => by
    obtain ⟨hlen, _⟩ := mapF_at he
    have nl := st.rep.length
    refine pyNext_map_end st.ok.handled st.m st.t st.j st.l (by simp at nl ⊢; omega) fun h' hs' => hq _ ?_
    exact Px.of_heap (tk := s.toks) fun c o hc e => hs' c o (fun q => hc (by simp [q])) e
theorem map_kind {b : Base} {A : Around} {I TI J l S : Addr} {f : Value} {W : List Addr} {k : Nat} {ds : List D} {xs : Array Value} {A' : Around} : Kind b.prog b.w A' I (.type "map") (MapSt b A I TI J l S f W k ds xs 0) where
  nl := by decide
  nt := by decide
  ty := fun st h => wpAny_typeOf ⟨_, st.m, rfl⟩ h
  len := fun st h => wpAny_specialOf (T := "map") ⟨_, st.m, rfl⟩ map_no_len h
  hint := fun st h => wpAny_specialOf (T := "map") ⟨_, st.m, rfl⟩ map_no_hint h
  self := fun st h => pyIter_map st.m (h _ st (Px.refl _ _ _))

theorem tuple_map {b : Base} {A : Around} {W : List Addr} {k : Nat} {s : Shared} {f v : Value} {F : List D → Option D} {ds es : List D} {E : Value → Shared → Prop} {Q : Value → Shared → Prop} (ok : Ok b A W (k + 1) s) (hf : CallOk b f k F) (he : mapF F ds = some es) (hn : ds.length ≤ room)
    (r : Rep (off W s.heap) (.list ds) v) (h : ∀ v s', Post A s s' → Rep (off W s'.heap) (.tup es) v → Q v s') :
    wpAny (model b.prog b.w) A (call (.type "map") [f, v]) (fun m s1 => wpAny (model b.prog b.w) A (call (.type "tuple") [m]) Q E s1) E s := by
  obtain ⟨l, xs, rfl, sq, rs⟩ := r
  have hl := sq.list
  have hlW : l ∉ W := by obtain ⟨o, n, e, _⟩ := sq; exact (off_some.mp e).1
  have hlx : @LT.lt Nat _ l s.heap.objs.size := by obtain ⟨_, e, _⟩ := hl; exact Heap.lt_size e
  have frLt : ∀ a ∈ fr A, @LT.lt Nat _ a s.heap.objs.size := fun a ha => by obtain ⟨o, e⟩ := ok.live a (ok.sub a ha); exact Heap.lt_size e
  have nfr : ∀ a : Nat, s.heap.objs.size ≤ a → (a : Addr) ∉ fr A := fun a ha h => Nat.lt_irrefl _ (Nat.lt_of_lt_of_le (frLt a h) ha)
  refine call_map_list hl fun h1 hm ht hj hsz hk => ?_
  have p1 : Post A s { s with heap := h1 } := Post.of_keeps (tk := s.toks) hk
  have S0 : ({ s with heap := h1 } : Shared).heap.objs.size = s.heap.objs.size + 3 := hsz
  obtain ⟨hlen, _⟩ := mapF_at he
  have hnone : ∀ a : Nat, s.heap.objs.size ≤ a → s.heap.get? a = none := fun a ha => none_above _ ha
  have okS : Ok b A ((s.heap.objs.size + 3) :: s.heap.objs.size :: W) (k + 1) { s with heap := h1.push { cls := .type "list", data := .seq ([] : List Value).toArray } } := by
    have p2 : Post A s { s with heap := h1.push { cls := .type "list", data := .seq ([] : List Value).toArray } } := Post.of_keeps (tk := s.toks) fun c o e => Heap.get?_push_of_some _ (hk c o e)
    refine (ok.post p2).more (fun a ha => by simp [ha]) fun a ha => ?_
    rcases List.mem_cons.mp ha with rfl | ha
    · exact .inr ⟨ok.none_of_size (Nat.le_add_right _ _), _, by rw [← hsz]; exact Heap.get?_push_size _ rfl⟩
    · rcases List.mem_cons.mp ha with rfl | ha
      · refine .inr ⟨ok.none_of_size (Nat.le_refl _), ?_⟩
        obtain ⟨o, e, _⟩ := hj
        exact ⟨o, Heap.get?_push_of_some _ e⟩
      · exact .inl ha
  have hrep : Reps (off ((s.heap.objs.size + 3) :: s.heap.objs.size :: W) (h1.push { cls := .type "list", data := .seq ([] : List Value).toArray })) ds xs.toArray.toList := by
    simp only
    refine rs.mono (off_grow (fun c o _ e => Heap.get?_push_of_some _ (hk c o e)) fun a ha => ?_)
    rcases List.mem_cons.mp ha with rfl | ha
    · exact .inr (hnone _ (Nat.le_add_right _ _))
    · rcases List.mem_cons.mp ha with rfl | ha
      · exact .inr (hnone _ (Nat.le_refl _))
      · exact .inl ha
  have e3 : ({ s with heap := h1 } : Shared).heap.objs.size = s.heap.objs.size + 3 := hsz
  have gv := map_gv (A := A) (W := W) (I := s.heap.objs.size + 2) (TI := s.heap.objs.size + 1) (J := s.heap.objs.size) (l := l) (S := ({ s with heap := h1 } : Shared).heap.objs.size) (xs := xs.toArray) hf he
    (nfr _ (Nat.le_add_right _ _)) (nfr _ (Nat.le_add_right _ _)) (nfr _ (Nat.le_refl _)) (fun h => hlW (ok.sub _ h)) (by rw [e3]; exact nfr _ (Nat.le_add_right _ _))
    (by rw [e3]; exact addr_ne (by omega)) (by rw [e3]; exact addr_ne (by omega)) (by rw [e3]; exact addr_ne (by omega)) (by rw [e3]; exact addr_ne (by omega)) (addr_ne (by omega)) (addr_ne (by omega)) (addr_ne (by omega))
  refine call_tuple_it (W := s.heap.objs.size :: W) (map_kind (b := b)) ⟨_, hm, rfl⟩ gv (by omega) (by rw [e3]; intro q; exact addr_ne (by omega) (List.mem_singleton.mp q)) (by rw [e3]; exact nfr _ (Nat.le_add_right _ _))
    (fun a ha => by rw [List.mem_singleton.mp ha]; exact List.mem_cons_self) (fun a ha => List.mem_cons_of_mem _ (ok.sub a ha)) (by rw [e3]; exact addr_ne (by omega)) ?_ fun s' acc hx hacc => ?_
  · refine ⟨Heap.get?_push_of_some _ hm, Heap.get?_push_of_some _ ht, ?_, ?_, by rw [e3]; exact okS, by rw [e3]; exact hrep⟩
    · obtain ⟨o, e, rr⟩ := hj; exact ⟨o, Heap.get?_push_of_some _ e, rr⟩
    · obtain ⟨o, e, rr⟩ := hl; exact ⟨o, Heap.get?_push_of_some _ (hk _ _ e), rr⟩
  · rw [e3] at hx hacc
    have p2 : Post A s s' := by
      obtain ⟨h2, t2, rfl, a2, b2⟩ := hx
      have ne : ∀ c o, s.heap.get? c = some o → c ∉ ((s.heap.objs.size + 3 : Nat) : Addr) :: [s.heap.objs.size] := fun c o e q => by
        rcases List.mem_cons.mp q with rfl | q
        · rw [hnone _ (Nat.le_add_right _ _)] at e; cases e
        · rw [List.mem_singleton.mp q, hnone _ (Nat.le_refl _)] at e; cases e
      exact ⟨h2, t2, rfl, fun c o n e => a2 c o (ne c o e) n (Heap.get?_push_of_some _ (hk c o e)), fun c o e => b2 c o (ne c o e) (Heap.get?_push_of_some _ (hk c o e))⟩
    have p3 := p2.trans (Post.push A s' { cls := .type "tuple", data := .seq acc.toArray } s'.toks)
    refine h _ _ p3 ⟨_, acc, rfl, ⟨_, _, off_some.mpr ⟨(ok.post p2).fresh, Heap.get?_push_size _ rfl⟩, rfl, rfl, rfl⟩, ?_⟩
    exact (hacc.mono (off_sub fun a ha => by simp [ha])).mono (off_all fun c o e => Heap.get?_push_of_some _ e)

noncomputable def Loads (b : Base) (n : Str) (f : Value) : Prop := ∀ (A : Around) (env : Env) (s : Shared) (E : Value → Shared → Prop) (Q : Value → Shared → Prop), env.globals = mainGlobals → env.builtins = builtinsNs → b.h₀.StaysIn s.heap → Q f s →
  wpAny (model b.prog b.w) A (loadGlobal env n) Q E s

section
variable {b : Base} {k : Nat} {c : Sc} {σ : Names}
theorem type_call {n : Str} {Ty : String} {p p' : Pos} {es : List Expr} {ds : List D} {A : Around} {W : List Addr} {env : Env} {m cm : Str → Option Value} {s : Shared} {E : Value → Shared → Prop} {Q : Value → Shared → Prop} (x : In b A W k c σ env m cm s)
    (hk : c.kind n = some .globalImplicit) (hn : noLoad n = false) (hl : Loads b n (.type Ty)) (hst : ∀ e ∈ es, isStar e = false) (hne : es ≠ []) (h1 : EvsOk b k c σ es ds)
    (h : ∀ vs s1, Post A s s1 → Reps (off W s1.heap) ds vs → wpAny (model b.prog b.w) A (call (.type Ty) vs) Q E s1) : wpAny (model b.prog b.w) A (eval (.Call (.Name n p) es [] p') env) Q E s := by
  refine Call_Name rfl (Name_function_global x.fit.fkind ((x.fit.kindOf n).trans hk) (hl A env s E _ x.fit.globals x.fit.builtins x.ok.inv ?_) (by unfold noLoad at hn; rw [Bool.or_eq_false_iff] at hn; exact hn.1))
  refine PySem.callWith_type (any_false hst) ?_
  have fin : wpAny (model b.prog b.w) A (spliced (backTo p' (starEach es env))) (fun vs s1 => wpAny (model b.prog b.w) A (call (.type Ty) ([] ++ vs)) Q E s1) E s :=
    h1 A W env m cm s E _ p' x fun vs s1 p1 r1 => h vs s1 p1 r1
  cases es with
  | nil => exact absurd rfl hne
  | cons e es =>
    rw [star_cons (hst e (.head _)), backTo_cons] at fin ⊢
    exact evalArgs_plain fin


theorem type_call' {n : Str} {Ty : String} {p p' : Pos} {es : List Expr} {A : Around} {W : List Addr} {env : Env} {m cm : Str → Option Value} {s : Shared} {E : Value → Shared → Prop} {Q : Value → Shared → Prop} (x : In b A W k c σ env m cm s)
    (hk : c.kind n = some .globalImplicit) (hn : noLoad n = false) (hl : Loads b n (.type Ty)) (hst : ∀ e ∈ es, isStar e = false) (hne : es ≠ [])
    (fin : wpAny (model b.prog b.w) A (spliced (backTo p' (starEach es env))) (fun vs s1 => wpAny (model b.prog b.w) A (call (.type Ty) ([] ++ vs)) Q E s1) E s) : wpAny (model b.prog b.w) A (eval (.Call (.Name n p) es [] p') env) Q E s := by
  refine Call_Name rfl (Name_function_global x.fit.fkind ((x.fit.kindOf n).trans hk) (hl A env s E _ x.fit.globals x.fit.builtins x.ok.inv ?_) (by unfold noLoad at hn; rw [Bool.or_eq_false_iff] at hn; exact hn.1))
  refine PySem.callWith_type (any_false hst) ?_
  cases es with
  | nil => exact absurd rfl hne
  | cons e es =>
    rw [star_cons (hst e (.head _)), backTo_cons] at fin ⊢
    exact evalArgs_plain fin

theorem ev_tupmap {j : Nat} {g : Str} {p p1 p2 p3 p4 : Pos} {a : Expr} {F : List D → Option D} {ds es : List D} (hj : j + 1 ≤ k) (hg : GOk b j g F) (ht : Loads b ("tuple" : Str) (.type "tuple")) (hm : Loads b ("map" : Str) (.type "map"))
    (k1 : c.kind ("tuple" : Str) = some .globalImplicit) (k2 : c.kind ("map" : Str) = some .globalImplicit) (k3 : c.kind g = some .globalImplicit) (k4 : noLoad g = false) (k5 : isStar a = false) (h1 : EvOk b k c σ a (.list ds)) (h2 : mapF F ds = some es) (hl : ds.length ≤ room) :
    EvOk b k c σ (.Call (.Name ("tuple" : Str) p1) [.Call (.Name ("map" : Str) p2) [.Name g p3, a] [] p4] [] p) (.tup es) := fun A W env m cm s E Q x h => by
  obtain ⟨f, hld, _, hc⟩ := hg.f
  refine type_call' x k1 (by decide) ht (fun e he => by rw [List.mem_singleton.mp he]; rfl) (by simp) ?_
  rw [star_cons rfl, backTo_cons]
  refine spliced_cons ?_
  refine type_call' x k2 (by decide) hm (fun e he => by
    rcases List.mem_cons.mp he with rfl | he
    · rfl
    · rw [List.mem_singleton.mp he]; exact k5) (by simp) ?_
  rw [star_cons rfl, backTo_cons, star_cons k5, backTo_cons]
  refine spliced_cons (Name_function_global x.fit.fkind ((x.fit.kindOf g).trans k3) (hld A env s E _ x.fit.globals x.fit.builtins x.ok.inv ?_) (by unfold noLoad at k4; rw [Bool.or_eq_false_iff] at k4; exact k4.1))
  refine spliced_cons (h1 A W env m cm s E _ x fun v s1 q1 r1 => ?_)
  refine spliced_nil ?_
  have ok1 : Ok b A W (j + 1) s1 := (x.post q1).ok.less hj
  refine wpAny_mono (tuple_map ok1 hc h2 hl r1 fun v' s' q' r' => h v' s' (q1.trans q') r') (fun m s2 h2 => spliced_nil h2) fun _ _ e => e
end
end Mine
end
section
namespace Mine

noncomputable abbrev Fn := List D → Option D
structure Tab where
  fn : List (Str × Fn)
  mt : List (Str × Fn)
  con : List (Str × D)
  mp : List (Str × Fn) := []

noncomputable abbrev Ev := Sc → Names → Expr → Option D

noncomputable def tvAll (f : Expr → Option Bool) (op : BoolOp) : List Expr → Option Bool
  | [] => some (op == .And)
  | e :: es => (f e).bind fun z => if z = (op == .And) then tvAll f op es else some z
noncomputable def tvPlain (r : Ev) (c : Sc) (σ : Names) (e : Expr) : Option Bool := if plainTest e then (r c σ e).bind truthD else none
noncomputable def tvStep (r : Ev) (c : Sc) (σ : Names) (f : Expr → Option Bool) (e : Expr) : Option Bool := match e with
  | .UnaryOp op x _ => if op = .Not then (f x).map (!·) else none
  | .BoolOp op es _ => tvAll f op es
  | .Compare l ops qs _ => (one? ops).bind fun op => (one? qs).bind fun q => if behindInMarks op q then none else (r c σ l).bind fun a => (r c σ q).bind fun b => cmpD op a b
  | e => tvPlain r c σ e
noncomputable def tvW (r : Ev) (c : Sc) (σ : Names) : Nat → Expr → Option Bool
  | 0 => fun _ => none
  | n + 1 => tvStep r c σ (tvW r c σ n)

noncomputable def evsW (r : Ev) (c : Sc) (σ : Names) : List Expr → Option (List D)
  | [] => some []
  | e :: es => if isStar e then none else (r c σ e).bind fun d => (evsW r c σ es).map (d :: ·)

noncomputable def optW (r : Ev) (c : Sc) (σ : Names) : Option Expr → Option (Option D)
  | none => some none
  | some e => (r c σ e).map some

noncomputable def testsW (r : Ev) (c : Sc) (σ : Names) : List Expr → Option Bool
  | [] => some true
  | e :: es => (tvW r c σ 8 e).bind fun z => if z then testsW r c σ es else some false

noncomputable def foldOk (e : Expr) : Bool := e.ctorIdx != 7

noncomputable def flatRows : D → Option (List (List D))
  | .list l => some (l.map fun d => [d])
  | .tup l => some (l.map fun d => [d])
  | .rng l u s => if Builtin.Range.small l u s then some ((rngL l u s).map fun d => [d]) else none
  | _ => none
noncomputable def seqD : D → Option (List D)
  | .list l => some l
  | .tup l => some l
  | _ => none
noncomputable def plainRows (tgt : Expr) (d : D) : Option (List Str × List (List D)) :=
  (nameOf? tgt).elim ((tupOf? tgt).bind fun es => (namesOf es).bind fun xs => (asTup d).bind fun l => (tupRows xs.length l).map fun rows => (xs, rows))
    fun x => (flatRows d).map fun rows => ([x], rows)
noncomputable def pairTgt (c : Sc) (f g : Str) (tgt : Expr) : Option (List Str) := if f == g && c.kind f == some .globalImplicit then (tupOf? tgt).bind fun es => (namesOf es).bind fun xs => if xs.length == 2 then some xs else none else none
noncomputable def isEnum (c : Sc) (it tgt : Expr) : Option (List Str × Expr) := (callN? it).bind fun q => (one? q.2).bind fun a => if isStar a then none else (pairTgt c q.1 ("enumerate" : Str) tgt).map fun xs => (xs, a)
noncomputable def isZip (c : Sc) (it tgt : Expr) : Option (List Str × Expr × Expr) := (callN? it).bind fun q => (two? q.2).bind fun a => if isStar a.1 || isStar a.2 then none else (pairTgt c q.1 ("zip" : Str) tgt).map fun xs => (xs, a)
noncomputable def iterW (r : Ev) (c : Sc) (σ : Names) (iter tgt : Expr) : Option (List Str × List (List D)) :=
  (isEnum c iter tgt).elim ((isZip c iter tgt).elim ((r c σ iter).bind (plainRows tgt))
    fun q => (r c σ q.2.1).bind fun d => (r c σ q.2.2).bind fun d' => (asList d).bind fun l => (asList d').map fun l' => (q.1, zipL l l'))
    fun q => (r c σ q.2).bind fun d => (seqD d).map fun l => (q.1, enumL l)

noncomputable def rowsW (r : Ev) (c : Sc) (ifs : List Expr) (inner : Names → Option (List D)) (xs : List Str) (σ : Names) : List (List D) → Option (List D)
  | [] => some []
  | row :: rs => (testsW r c (putAll xs row σ) ifs).bind fun z => (if z then inner (putAll xs row σ) else some []).bind fun o1 => (rowsW r c ifs inner xs σ rs).map (o1 ++ ·)
noncomputable def gensW (r : Ev) (c : Sc) (elt : Expr) : List Comprehension → Names → Option (List D)
  | [], σ => (r c σ elt).map fun d => [d]
  | g :: gs, σ => if g.is_async == 0 && foldOk g.iter then (iterW r c σ g.iter g.target).bind fun q => if q.1.all (storable c) then rowsW r c g.ifs (gensW r c elt gs) q.1 (without (tgts (g :: gs)) σ) q.2 else none else none

noncomputable def glob (c : Sc) (n : Str) : Bool := c.kind n == some .globalImplicit
noncomputable def isTupMap (c : Sc) (f : Expr) (args : List Expr) : Option (Str × Expr) := (nameOf? f).bind fun n => if n == ("tuple" : Str) then (one? args).bind fun x => (callN? x).bind fun q => (two? q.2).bind fun y => (nameOf? y.1).bind fun g =>
  if q.1 == ("map" : Str) && (glob c ("tuple" : Str) && (glob c ("map" : Str) && (glob c g && (!noLoad g && !isStar y.2)))) then some (g, y.2) else none else none
noncomputable def tupMapW (T : Tab) (r : Ev) (c : Sc) (σ : Names) (g : Str) (a : Expr) : Option D := (T.mp.lookup g).bind fun F => (r c σ a).bind fun d => (asList d).bind fun ds => if ds.length ≤ room then (mapF F ds).map .tup else none
noncomputable def callW (T : Tab) (r : Ev) (c : Sc) (σ : Names) (f : Expr) (args : List Expr) (p : Pos) : Option D :=
  (isTupMap c f args).elim ((nameOf? f).elim ((attrOf? f).bind fun a => if plainBase a.1 && (a.2.2.endLine == p.line && decide (args.length < 20)) then (T.mt.lookup a.2.1).bind fun F => (r c σ a.1).bind fun d => (asStr d).bind fun x => (evsW r c σ args).bind fun ds => F (.str x :: ds) else none)
    fun n => if c.kind n == some .globalImplicit && !noLoad n then (T.fn.lookup n).bind fun F => (evsW r c σ args).bind F else none) fun q => tupMapW T r c σ q.1 q.2

noncomputable def compW (r : Ev) (c : Sc) (σ : Names) (elt : Expr) (g : Comprehension) (gs : List Comprehension) (scope : Scope) : Option D :=
  (compSc c scope).bind fun c' => if g.is_async == 0 && foldOk g.iter && (tgts (g :: gs)).all (fun n => !(freeOf scope).contains n) then
    (iterW r c σ g.iter g.target).bind fun q => if q.1.all (storable c') then (rowsW r c' g.ifs (gensW r c' elt gs) q.1 (without (tgts (g :: gs)) (freeNames scope σ)) q.2).bind fun out => if out.length ≤ room then some (.list out) else none else none
  else none

noncomputable def partOf : Expr → Option (Option Expr × Option Expr)
  | .Slice lo hi st _ => if st.isNone then some (lo, hi) else none
  | _ => none
noncomputable def constD : Const → Option D
  | .int i => some (.int i)
  | .str x => some (.str x)
  | .bool x => some (.bool x)
  | .none => some .none
  | _ => none

noncomputable def evStep (T : Tab) (r : Ev) (c : Sc) (σ : Names) (e : Expr) : Option D := match e with
  | .Constant v _ _ => constD v
  | .Name n _ => if noLoad n then none else (σ.lookup n).elim (if c.kind n == some .globalImplicit then T.con.lookup n else none) some
  | .BinOp l op q _ => (r c σ l).bind fun a => (r c σ q).bind fun b => binD op a b
  | .UnaryOp op x _ => (r c σ x).bind (unD op)
  | .Compare l ops qs _ => (one? ops).bind fun op => (one? qs).bind fun q => if behindInMarks op q then none else (r c σ l).bind fun a => (r c σ q).bind fun b => (cmpD op a b).map .bool
  | .IfExp t u v _ => (tvW r c σ 8 t).bind fun z => r c σ (if z then u else v)
  | .List es _ => (evsW r c σ es).bind fun ds => if ds.length ≤ room then some (.list ds) else none
  | .Tuple es _ _ => (evsW r c σ es).bind fun ds => if ds.length ≤ room then some (.tup ds) else none
  | .Subscript v i _ => (partOf i).elim ((r c σ v).bind fun d => (r c σ i).bind fun j => itemD d j)
    fun q => (r c σ v).bind fun d => (optW r c σ q.1).bind fun l => (optW r c σ q.2).bind fun h => partD l h d
  | .Call f args kws p => if kws.isEmpty then callW T r c σ f args p else none
  | .ListComp elt gs scope _ => gs.head?.bind fun g => compW r c σ elt g gs.tail scope
  | _ => none

noncomputable def ev (T : Tab) : Nat → Ev
  | 0 => fun _ _ _ => none
  | n + 1 => evStep T (ev T n)

structure TabOk (b : Base) (k : Nat) (T : Tab) : Prop where
  fn : ∀ n F, T.fn.lookup n = some F → GOk b k n F
  mt : ∀ n F, T.mt.lookup n = some F → MOk b k n F
  con : ∀ n d, T.con.lookup n = some d → ∃ v, Loads b n v ∧ Rep (fun a => b.h₀.get? a) d v
  enum : Loads b ("enumerate" : Str) (.type "enumerate")
  mp : ∀ n F, T.mp.lookup n = some F → (∃ j, j + 1 ≤ k ∧ GOk b j n F) ∧ Loads b ("tuple" : Str) (.type "tuple") ∧ Loads b ("map" : Str) (.type "map")
  zip : Loads b ("zip" : Str) (.type "zip")
  sys : ∃ a o, sysModules < a ∧ b.h₀.get? a = some o

section
variable {b : Base} {k : Nat} {T : Tab} {r : Ev} {c c' : Sc} {σ : Names}

theorem tvW_ok (hr : ∀ e d, r c σ e = some d → EvOk b k c σ e d) : ∀ (n : Nat) (e : Expr), Ret (tvW r c σ n e) (TvOk b k c σ e)
  | 0, _ => .none
  | n + 1, e => by
    have ih := tvW_ok hr n
    have plain : ∀ e, Ret (tvPlain r c σ e) (TvOk b k c σ e) := fun e => .ite fun hp => .bind fun d h1 z h => tv_plain hp (hr _ _ h1) h
    have go : ∀ (op : BoolOp) (es : List Expr), Ret (tvAll (tvW r c σ n) op es) (AllOk b k c σ op es) := fun op es => by
      induction es with
      | nil => exact .some all_nil
      | cons e es ihs =>
        refine .bind fun z h1 => .fork (fun hz z' h => ?_) fun hz => .some ?_
        · have := all_cons (op := op) (es := es) (z' := z') (ih e z h1) fun _ => ihs z' h
          rwa [if_pos hz] at this
        · have := all_cons (op := op) (es := es) (z' := false) (ih e z h1) fun q => absurd q hz
          rwa [if_neg hz] at this
    cases e with
    | UnaryOp op x p => exact .ite fun ho => .map fun z h => ho ▸ tv_not (ih x z h)
    | BoolOp op es p => exact fun z h => tv_bool (go op es z h)
    | Compare l ops qs p =>
      refine .bind fun op ho => .bind fun q hq => .tie fun hm => .bind fun a h1 => .bind fun d h2 z h => ?_
      rw [one_eq op ho, one_eq q hq]
      exact tv_cmp (not_f hm) (hr _ _ h1) (hr _ _ h2) h
    | _ => exact fun z h => plain _ z h

theorem evsW_ok (hr : ∀ e d, r c σ e = some d → EvOk b k c σ e d) : ∀ (es : List Expr), Ret (evsW r c σ es) fun ds => EvsOk b k c σ es ds ∧ (∀ e ∈ es, isStar e = false) ∧ (es = [] → ds = [])
  | [] => .some ⟨evs_nil, (fun _ h => nomatch h), fun _ => rfl⟩
  | e :: es => .tie fun hs => .bind fun d h1 => .map fun ds h2 =>
    have ⟨i1, i2, _⟩ := evsW_ok hr es ds h2
    ⟨evs_cons (not_f hs) (hr _ _ h1) i1, fun _ he => (List.mem_cons.mp he).elim (fun q => q ▸ not_f hs) (i2 _), fun q => nomatch q⟩

theorem testsW_ok (hr : ∀ e d, r c σ e = some d → EvOk b k c σ e d) : ∀ (es : List Expr), Ret (testsW r c σ es) (TestsFrom b k c σ es true)
  | [] => .some tests_nil
  | e :: es => .bind fun z h1 => .fork (fun hz z' h => by subst hz; exact tests_cons (tvW_ok hr 8 e true h1) (testsW_ok hr es z' h)) fun hz => by
    cases not_f hz
    exact .some (tests_cons (tvW_ok hr 8 e false h1) tests_false)

theorem foldOk_ok {iter : Expr} (h : foldOk iter = true) : ∀ env x, foldedSetIterable iter env x = pure x := fun env x => by
  cases iter <;> first | rfl | cases h

noncomputable def PlainOk (b : Base) (k : Nat) (tgt : Expr) (d : D) (q : List Str × List (List D)) : Prop := tgtNames tgt = some q.1 ∧ ∀ (A : Around) (W : List Addr) (s : Shared) (v : Value) (E Q : Value → Shared → Prop), Ok b A W k s → Rep (off W s.heap) d v →
    (∀ it s', Post A s s' → IterAt b A W s s' it tgt q.1 q.2 → Q it s') → wpAny (model b.prog b.w) A (pyIter v) Q E s
theorem plainRows_ok {tgt : Expr} {d : D} : Ret (plainRows tgt d) (PlainOk b k tgt d) := .elim (fun x hx => by
  obtain ⟨p, rfl⟩ := nameOf_eq x hx
  cases d with
  | list l => exact .some ⟨rfl, fun A W s v E Q ok rr hq => iter_list ok rr rfl hq⟩
  | tup l => exact .some ⟨rfl, fun A W s v E Q ok rr hq => iter_tup ok rr rfl hq⟩
  | rng l u s => exact .map fun rows h => Ret.ite (P := fun rows => PlainOk b k (.Name x p) (.rng l u s) ([x], rows)) (fun hs => .some ⟨rfl, fun A W s v E Q ok rr hq => iter_rng ok rr hs rfl hq⟩) rows h
  | _ => exact .none) (.bind fun es he => .bind fun xs h1 => by
  obtain ⟨w, p, rfl⟩ := tupOf_eq es he
  cases d with
  | tup l => exact Ret.map (o := tupRows xs.length l) fun rows h2 => ⟨h1, fun A W s v E Q ok rr hq => iter_tpairs ok rr h1 h2 rfl hq⟩
  | _ => exact .none)

theorem pairTgt_eq {f g : Str} {tgt : Expr} : Ret (pairTgt c f g tgt) fun xs => f = g ∧ c.kind g = some .globalImplicit ∧ ∃ es w p, tgt = .Tuple es w p ∧ namesOf es = some xs ∧ xs.length = 2 :=
  .ite fun hc => .bind fun es he => .bind fun xs hx => .ite fun hl => .some (by
    obtain ⟨w, p, e⟩ := tupOf_eq es he
    cases beq_iff_eq.mp (and_t hc).1
    exact ⟨rfl, beq_iff_eq.mp (and_t hc).2, es, w, p, e, hx, beq_iff_eq.mp hl⟩)
theorem isEnum_eq {iter tgt : Expr} : Ret (isEnum c iter tgt) fun q => ∃ p p' es w p'', iter = .Call (.Name ("enumerate" : Str) p) [q.2] [] p' ∧ tgt = .Tuple es w p'' ∧ c.kind ("enumerate" : Str) = some .globalImplicit ∧ isStar q.2 = false ∧ namesOf es = some q.1 ∧ q.1.length = 2 :=
  .bind fun q hq => .bind fun a ha => .tie fun hs => .map fun xs hx => by
    obtain ⟨p, p', rfl⟩ := callN_eq q hq
    obtain ⟨e, hk, es, w, p'', r1, r2, r3⟩ := pairTgt_eq xs hx
    exact ⟨p, p', es, w, p'', by rw [e, one_eq a ha], r1, hk, not_f hs, r2, r3⟩
theorem isZip_eq {iter tgt : Expr} : Ret (isZip c iter tgt) fun q => ∃ p p' es w p'', iter = .Call (.Name ("zip" : Str) p) [q.2.1, q.2.2] [] p' ∧ tgt = .Tuple es w p'' ∧ c.kind ("zip" : Str) = some .globalImplicit ∧ isStar q.2.1 = false ∧ isStar q.2.2 = false ∧ namesOf es = some q.1 ∧ q.1.length = 2 :=
  .bind fun q hq => .bind fun a ha => .tie fun hs => .map fun xs hx => by
    obtain ⟨p, p', rfl⟩ := callN_eq q hq
    obtain ⟨e, hk, es, w, p'', r1, r2, r3⟩ := pairTgt_eq xs hx
    have hs := Bool.or_eq_false_iff.mp (not_f hs)
    exact ⟨p, p', es, w, p'', by rw [e, two_eq a ha], r1, hk, hs.1, hs.2, r2, r3⟩

noncomputable abbrev ItOk (b : Base) (k : Nat) (c : Sc) (σ : Names) (iter tgt : Expr) (q : List Str × List (List D)) : Prop := tgtNames tgt = some q.1 ∧ IterOk b k c σ iter tgt q.1 q.2
theorem enum_ok (hT : TabOk b k T) {a : Expr} {d : D} {xs : List Str} {es : List Expr} {w : Nat} {p p' p'' : Pos} (hk : c.kind ("enumerate" : Str) = some .globalImplicit) (hs : isStar a = false) (hx : namesOf es = some xs) (hl : xs.length = 2) (h1 : EvOk b k c σ a d) :
    Ret (seqD d) fun l => ItOk b k c σ (.Call (.Name ("enumerate" : Str) p) [a] [] p') (.Tuple es w p'') (xs, enumL l) := by
  have go : ∀ l : List D, (∀ (A : Around) (W : List Addr) (s : Shared) (v : Value) (E Q : Value → Shared → Prop), Ok b A W k s → Rep (off W s.heap) d v → (∀ it s', Post A s s' → IterAt b A W s s' it (.Tuple es w p'') xs (enumL l) → Q it s') → wpAny (model b.prog b.w) A (call (.type "enumerate") [v]) (fun x s1 => wpAny (model b.prog b.w) A (pyIter x) Q E s1) E s) →
      ItOk b k c σ (.Call (.Name ("enumerate" : Str) p) [a] [] p') (.Tuple es w p'') (xs, enumL l) := fun l hg => by
    refine ⟨hx, fun A W env m cm s E Q x hq => ?_⟩
    refine type_call x hk (by decide) hT.enum (es := [a]) (ds := [d]) (fun e he => by rw [List.mem_singleton.mp he]; exact hs) (by simp) (evs_cons hs h1 evs_nil) fun vs s1 p1 r1 => ?_
    obtain ⟨v, us, rfl, r2, rfl⟩ := r1
    exact hg A W s1 v E Q (x.post p1).ok r2 fun it s' p2 hat => hq it s1 s' p1 p2 hat
  cases d with
  | list l => exact .some (go l fun A W s v E Q ok rr hq => enum_list ok rr hx hl rfl hq)
  | tup l => exact .some (go l fun A W s v E Q ok rr hq => enum_tup ok rr hx hl rfl hq)
  | _ => exact .none
theorem iterW_ok (hT : TabOk b k T) (hr : ∀ e d, r c σ e = some d → EvOk b k c σ e d) {iter tgt : Expr} : Ret (iterW r c σ iter tgt) (ItOk b k c σ iter tgt) := by
  refine .elim (fun q he => .bind fun d h1 => .map fun l h2 => ?_) (.elim (fun q he => .bind fun d h1 => .bind fun d' h2 => .bind fun l h3 => .map fun l' h4 => ?_) (.bind fun d h1 q h => ?_))
  · obtain ⟨p, p', es, w, p'', rfl, rfl, hk, hs, hx, hl⟩ := isEnum_eq q he
    exact enum_ok hT hk hs hx hl (hr _ _ h1) l h2
  · obtain ⟨p, p', es, w, p'', rfl, rfl, hk, hs, hs', hx, hl⟩ := isZip_eq q he
    cases asList_eq l h3
    cases asList_eq l' h4
    refine ⟨hx, fun A W env m cm s E Q x hq => ?_⟩
    refine type_call x hk (by decide) hT.zip (es := [q.2.1, q.2.2]) (ds := [.list l, .list l']) (fun e he => (List.mem_cons.mp he).elim (fun q => q ▸ hs) fun q => by rw [List.mem_singleton.mp q]; exact hs') (by simp) (evs_cons hs (hr _ _ h1) (evs_cons hs' (hr _ _ h2) evs_nil)) fun vs s1 p1 r1 => ?_
    obtain ⟨v, us, rfl, r2, u, us', rfl, r3, rfl⟩ := r1
    exact zip_list (x.post p1).ok r2 r3 hx hl rfl fun it s' p2 hat => hq it s1 s' p1 p2 hat
  · have hp := plainRows_ok (b := b) (k := k) q h
    exact ⟨hp.1, fun A W env m cm s E Q x hq => hr _ _ h1 A W env m cm s E _ x fun v s1 p1 r1 => hp.2 A W s1 v E _ (x.post p1).ok r1 fun it s' p2 hat => hq it s1 s' p1 p2 hat⟩

theorem rowsW_ok (hr : ∀ σ e d, r c σ e = some d → EvOk b k c σ e d) {ifs : List Expr} {f : Names → Option (List D)} {inner : Names → List D → Prop} {xs : List Str} {σ : Names} (hf : ∀ σ out, f σ = some out → inner σ out) :
    ∀ (rows : List (List D)), Ret (rowsW r c ifs f xs σ rows) (RowsOk b k c inner ifs xs σ rows)
  | [] => .some .nil
  | row :: rs => .bind fun z h1 => .bind fun o1 h2 => .map fun o2 h3 => .cons z o1 (testsW_ok (hr _) ifs z h1) (fun hz => hf _ _ (by rw [if_pos hz] at h2; exact h2)) (fun hz => by rw [hz] at h2; exact (Option.some.inj h2).symm) (rowsW_ok hr hf rs o2 h3)

theorem gensW_ok (hT : TabOk b k T) (hr : ∀ σ e d, r c σ e = some d → EvOk b k c σ e d) {elt : Expr} : ∀ (gs : List Comprehension) (σ : Names), Ret (gensW r c elt gs σ) (InnerOk b k c elt gs σ)
  | [], σ => .map fun d h1 => ⟨d, rfl, hr _ _ _ h1⟩
  | g :: gs, σ => .ite fun hc => .bind fun q h1 => .ite fun hs out h =>
    have i := iterW_ok hT (hr σ) q h1
    ⟨beq_iff_eq.mp (and_t hc).1, foldOk_ok (and_t hc).2, q.1, q.2, i.1, hs, i.2, rowsW_ok hr (gensW_ok hT hr gs) q.2 out h⟩

structure CompIs (b : Base) (k : Nat) (c : Sc) (σ : Names) (elt : Expr) (g : Comprehension) (gs : List Comprehension) (scope : Scope) (c' : Sc) (q : List Str × List (List D)) (out : List D) : Prop where
  sc : compSc c scope = some c'
  sync : g.is_async = 0
  fold : foldOk g.iter = true
  free : ∀ n ∈ tgts (g :: gs), n ∉ freeOf scope
  iter : ItOk b k c σ g.iter g.target q
  stor : q.1.all (storable c') = true
  rows : RowsOk b k c' (InnerOk b k c' elt gs) g.ifs q.1 (without (tgts (g :: gs)) (freeNames scope σ)) q.2 out
  len : out.length ≤ room
theorem compW_is (hT : TabOk b k T) (hr : ∀ c σ e d, r c σ e = some d → EvOk b k c σ e d) {elt : Expr} {g : Comprehension} {gs : List Comprehension} {scope : Scope} : Ret (compW r c σ elt g gs scope) fun d => ∃ c' q out, d = .list out ∧ CompIs b k c σ elt g gs scope c' q out :=
  .bind fun c' h0 => .ite fun hc => .bind fun q h1 => .ite fun hs => .bind fun out h2 => .ite fun hl => .some ⟨c', q, out, rfl, h0, beq_iff_eq.mp (and_t (and_t hc).1).1, (and_t (and_t hc).1).2, fun n hn => by simpa using List.all_eq_true.mp (and_t hc).2 n hn,
    iterW_ok hT (hr c σ) q h1, hs, rowsW_ok (hr c') (gensW_ok hT (hr c') gs) q.2 out h2, hl⟩
theorem compW_ok (hT : TabOk b k T) (hr : ∀ c σ e d, r c σ e = some d → EvOk b k c σ e d) {elt : Expr} {g : Comprehension} {gs : List Comprehension} {scope : Scope} {p : Pos} : Ret (compW r c σ elt g gs scope) (EvOk b k c σ (.ListComp elt (g :: gs) scope p)) := fun d h => by
  obtain ⟨c', q, out, rfl, i⟩ := compW_is hT hr d h
  exact ev_listcomp i.sc i.sync (foldOk_ok i.fold) i.iter.2 i.iter.1 i.stor i.rows i.free i.len

theorem isTupMap_eq {f : Expr} {args : List Expr} : Ret (isTupMap c f args) fun q => ∃ p1 p2 p3 p4, f = .Name ("tuple" : Str) p1 ∧ args = [.Call (.Name ("map" : Str) p2) [.Name q.1 p3, q.2] [] p4] ∧
    c.kind ("tuple" : Str) = some .globalImplicit ∧ c.kind ("map" : Str) = some .globalImplicit ∧ c.kind q.1 = some .globalImplicit ∧ noLoad q.1 = false ∧ isStar q.2 = false :=
  .bind fun n h1 => .ite fun hn => .bind fun x h2 => .bind fun q h3 => .bind fun y h4 => .bind fun g h5 => .ite fun hc => .some (by
    obtain ⟨p1, rfl⟩ := nameOf_eq n h1
    obtain ⟨p2, p4, e⟩ := callN_eq q h3
    obtain ⟨p3, e3⟩ := nameOf_eq g h5
    have z := and_t hc
    have z1 := and_t z.2
    have z2 := and_t z1.2
    have z3 := and_t z2.2
    have z4 := and_t z3.2
    exact ⟨p1, p2, p3, p4, by rw [beq_iff_eq.mp hn], by rw [one_eq x h2, e, two_eq y h4, e3, beq_iff_eq.mp z.1], beq_iff_eq.mp z1.1, beq_iff_eq.mp z2.1, beq_iff_eq.mp z3.1, not_t z4.1, not_t z4.2⟩)

theorem callW_ok (hT : TabOk b k T) (hr : ∀ e d, r c σ e = some d → EvOk b k c σ e d) {f : Expr} {args : List Expr} {p : Pos} : Ret (callW T r c σ f args p) (EvOk b k c σ (.Call f args [] p)) := by
  refine .elim (fun q he => .bind fun F h1 => .bind fun d0 h2 => .bind fun ds hd => .ite fun hl => .map fun es h3 => ?_) ?_
  · obtain ⟨⟨j, hj, hg⟩, ht, hm⟩ := hT.mp q.1 F h1
    obtain ⟨p1, p2, p3, p4, rfl, rfl, k1, k2, k3, k4, k5⟩ := isTupMap_eq q he
    cases asList_eq ds hd
    exact ev_tupmap hj hg ht hm k1 k2 k3 k4 k5 (hr _ _ h2) h3 hl
  · refine .elim (fun n hn => .ite fun hc => .bind fun F h1 => .bind fun ds h2 d h => ?_) (.bind fun a ha => .ite fun hc => .bind fun F h1 => .bind fun d0 h0 => .bind fun x hx => .bind fun ds h2 d h => ?_)
    · obtain ⟨i1, i2, i3⟩ := evsW_ok hr args ds h2
      obtain ⟨p', rfl⟩ := nameOf_eq n hn
      exact ev_call (beq_iff_eq.mp (and_t hc).1) (not_t (and_t hc).2) (hT.fn n F h1) i2 i3 i1 h
    · obtain ⟨i1, i2, i3⟩ := evsW_ok hr args ds h2
      cases asStr_eq x hx
      have z := and_t hc
      rw [attrOf_eq a ha]
      exact ev_method z.1 (and_t z.2).1 i2 (of_decide_eq_true (and_t z.2).2) (hT.mt a.2.1 F h1) (hr _ _ h0) i3 i1 h

theorem ev_const {n : Str} {p : Pos} {d : D} (hT : TabOk b k T) (hk : c.kind n = some .globalImplicit) (hn : noLoad n = false) (h : T.con.lookup n = some d) : EvOk b k c σ (.Name n p) d := fun A W env m cm s E Q x hq => by
  obtain ⟨v, hl, rr⟩ := hT.con n d h
  refine Name_function_global x.fit.fkind ((x.fit.kindOf n).trans hk) (hl A env s E Q x.fit.globals x.fit.builtins x.ok.inv (hq v s (Post.refl A s) (rr.mono fun a o e => off_some.mpr ⟨fun h => ?_, x.ok.inv a o e⟩))) (by unfold noLoad at hn; rw [Bool.or_eq_false_iff] at hn; exact hn.1)
  rw [x.ok.low a h] at e; cases e

theorem partOf_eq {i : Expr} : Ret (partOf i) fun q => ∃ p, i = .Slice q.1 q.2 none p := by
  cases i with
  | Slice lo hi st p => cases st <;> first | exact .some ⟨p, rfl⟩ | exact .none
  | _ => exact .none
theorem optW_ok (hr : ∀ e d, r c σ e = some d → EvOk b k c σ e d) : ∀ x : Option Expr, Ret (optW r c σ x) (OptOk b k c σ x)
  | none => .some trivial
  | some _ => .map fun a h => hr _ a h
theorem evStep_ok (hT : TabOk b k T) (hr : ∀ c σ e d, r c σ e = some d → EvOk b k c σ e d) (e : Expr) : Ret (evStep T r c σ e) (EvOk b k c σ e) := by
  cases e with
  | Constant v q p => cases v with
    | int i => exact .some ev_int
    | str x => exact .some ev_str
    | bool x => exact .some ev_bool
    | none => exact .some ev_none
    | _ => exact .none
  | Name n p => exact .tie fun hn => .elim (fun d hs => .some (ev_name (not_f hn) hs)) (.ite fun hk d h => ev_const hT (beq_iff_eq.mp hk) (not_f hn) h)
  | BinOp l op q p => exact .bind fun a h1 => .bind fun a' h2 d h => ev_bin (hr _ _ _ _ h1) (hr _ _ _ _ h2) h
  | UnaryOp op x p => exact .bind fun a h1 d h => ev_un (hr _ _ _ _ h1) h
  | Compare l ops qs p =>
    refine .bind fun op ho => .bind fun q hq => .tie fun hm => .bind fun a h1 => .bind fun d h2 => .map fun z h => ?_
    rw [one_eq op ho, one_eq q hq]
    exact ev_cmp (not_f hm) (hr _ _ _ _ h1) (hr _ _ _ _ h2) h
  | IfExp t u v p => exact .bind fun z h1 d h => ev_if (tvW_ok (hr c σ) 8 t z h1) (hr _ _ _ _ h)
  | List es p => exact .bind fun ds h1 => .ite fun hl => .some (ev_list (evsW_ok (hr c σ) es ds h1).1 hl)
  | Tuple es w p => exact .bind fun ds h1 => .ite fun hl => .some (ev_tup (evsW_ok (hr c σ) es ds h1).1 hl)
  | Subscript v i p =>
    refine .elim (fun q hp => .bind fun d h1 => .bind fun l h2 => .bind fun u h3 d' h => ?_) (.bind fun a h1 => .bind fun a' h2 d h => ev_item (hr _ _ _ _ h1) (hr _ _ _ _ h2) h)
    obtain ⟨p', rfl⟩ := partOf_eq q hp
    exact ev_part (hr _ _ _ _ h1) (optW_ok (hr c σ) _ _ h2) (optW_ok (hr c σ) _ _ h3) h
  | Call f args kws p =>
    refine .ite fun hk => ?_
    rw [List.isEmpty_iff.mp hk]
    exact callW_ok hT (hr c σ)
  | ListComp elt gs scope p => cases gs with
    | nil => exact .none
    | cons g gs => exact compW_ok hT hr
  | _ => exact .none

theorem ev_ok (hT : TabOk b k T) : ∀ (n : Nat) (c : Sc) (σ : Names) (e : Expr), Ret (ev T n c σ e) (EvOk b k c σ e)
  | 0, _, _, _ => .none
  | n + 1, _, _, e => evStep_ok hT (ev_ok hT n) e
end
end Mine
end
section
namespace Mine

noncomputable abbrev Own := List (Str × Bool × List D)

noncomputable def reveal (ω : Own) : Names := ω.map fun e => (e.1, .list e.2.2)
theorem lookup_reveal {ω : Own} {σ : Names} {x : Str} : (reveal ω ++ σ).lookup x = match ω.lookup x with | some e => some (.list e.2) | none => σ.lookup x := by
  induction ω with
  | nil => rfl
  | cons e ω ih =>
    obtain ⟨y, e⟩ := e
    show List.lookup x ((y, D.list e.2) :: (reveal ω ++ σ)) = _
    rw [List.lookup_cons, List.lookup_cons]
    cases h : x == y with
    | true => rfl
    | false => exact ih
theorem lookup_filter {α : Type} {p : Str → Bool} {l : List (Str × α)} {x : Str} : (l.filter fun e => p e.1).lookup x = if p x then l.lookup x else none := by
  induction l with
  | nil => simp
  | cons e l ih =>
    obtain ⟨y, e⟩ := e
    rw [List.filter_cons]
    by_cases hp : p y = true
    · simp only [hp, if_true]
      rw [List.lookup_cons, List.lookup_cons, ih]
      cases h : x == y with
      | true => rw [beq_iff_eq.mp h, hp]; rfl
      | false => rfl
    · have hp' : p y = false := by simpa using hp
      simp only [hp', Bool.false_eq_true, if_false]
      rw [ih, List.lookup_cons]
      cases h : x == y with
      | true => rw [beq_iff_eq.mp h, hp']; simp
      | false => rfl

structure InO (b : Base) (A : Around) (W : List Addr) (k : Nat) (c : Sc) (σ : Names) (ω : Own) (O : List Addr) (ad : Str → Addr) (env : Env) (m cm : Str → Option Value) (s : Shared) : Prop where
  inn : In b A (W ++ O) k c σ env m cm s
  own : ∀ x pl ds, ω.lookup x = some (pl, ds) → val env m cm x = some (.ref (ad x)) ∧ ad x ∈ O ∧ ∃ ys, s.heap.PlainList (ad x) ys ∧ (pl = true → s.heap.PlainList (ad x) ys) ∧ Reps (off (W ++ O) s.heap) ds ys.toList
  inj : ∀ x y e e', ω.lookup x = some e → ω.lookup y = some e' → ad x = ad y → x = y
  apart : ∀ a ∈ O, a ∉ W
  hid : ∀ a ∈ Mine.hid env, a ∈ W
  fr : ∀ a ∈ Mine.fr A, a ∈ W

section
variable {b : Base} {A : Around} {W : List Addr} {k : Nat} {c : Sc} {σ : Names} {ω : Own} {O : List Addr} {ad : Str → Addr} {env : Env} {m cm : Str → Option Value} {s s' : Shared}

theorem isList_keep {h h' : Heap} {a : Addr} {ys : Array Value} (x : h.PlainList a ys) (e : ∀ o, h.get? a = some o → h'.get? a = some o) : h'.PlainList a ys := x.at e

theorem InO.post (x : InO b A W k c σ ω O ad env m cm s) (p : Post A s s') : InO b A W k c σ ω O ad env m cm s' := by
  refine ⟨x.inn.post p, fun n pl ds h => ?_, x.inj, x.apart, x.hid, x.fr⟩
  obtain ⟨h1, h2, ys, h3, h4, h5⟩ := x.own n pl ds h
  have hk : ∀ o, s.heap.get? (ad n) = some o → s'.heap.get? (ad n) = some o := fun o e => p.here (fun q => x.apart _ h2 (x.fr _ q)) e
  exact ⟨h1, h2, ys, isList_keep h3 hk, fun q => (h4 q).at hk, h5.mono (x.inn.view p)⟩

theorem seq_of_list {W : List Addr} {h : Heap} {a : Addr} {ys : Array Value} (x : h.PlainList a ys) (hw : a ∉ W) : Seq (off W h) "list" a ys.toList := by
  obtain ⟨n, e⟩ := x
  exact ⟨_, n, off_some.mpr ⟨hw, e⟩, rfl, rfl, rfl⟩

theorem InO.seen (x : InO b A W k c σ ω O ad env m cm s) : In b A W k c (reveal ω ++ σ) env m cm s := by
  have x1 := x.inn.narrow (W := W) (fun a ha => List.mem_append_left _ ha) x.fr x.hid
  refine ⟨x1.ok, x1.fit, x1.ine, x1.hid, fun n d h => ?_⟩
  rw [lookup_reveal] at h
  split at h
  · rename_i e he
    obtain ⟨pl, ds⟩ := e
    cases h
    obtain ⟨h1, h2, ys, h3, _, h5⟩ := x.own n pl ds he
    exact ⟨_, h1, _, _, rfl, seq_of_list h3 (x.apart _ h2), h5.mono (off_sub fun a ha => List.mem_append_left _ ha)⟩
  · exact x1.rel n d h

theorem InO.freeze (x : InO b A W k c σ ω O ad env m cm s) (p : Str → Bool) : ∃ O', InO b A W k c (reveal (ω.filter fun e => p e.1) ++ σ) (ω.filter fun e => !p e.1) O' ad env m cm s ∧ ∀ a ∈ O', a ∈ O := by
  refine ⟨O.filter fun a => !(ω.filter fun e => p e.1).any fun e => ad e.1 == a, ?_, fun a ha => (List.mem_filter.mp ha).1⟩
  have hsub : ∀ a ∈ W ++ O.filter fun a => !(ω.filter fun e => p e.1).any fun e => ad e.1 == a, a ∈ W ++ O := fun a ha => (List.mem_append.mp ha).elim (List.mem_append_left _) fun h => List.mem_append_right _ (List.mem_filter.mp h).1
  have x1 := x.inn.narrow hsub (fun a ha => List.mem_append_left _ (x.fr a ha)) (fun a ha => List.mem_append_left _ (x.hid a ha))
  have gone : ∀ n e, ω.lookup n = some e → p n = true → ad n ∉ O.filter fun a => !(ω.filter fun e => p e.1).any fun e => ad e.1 == a := fun n e he hp h => by
    have := (List.mem_filter.mp h).2
    simp only [Bool.not_eq_true', List.any_eq_false] at this
    exact this (n, e) (List.mem_filter.mpr ⟨mem_of_lookup he, hp⟩) (by simp)
  refine ⟨⟨x1.ok, x1.fit, x1.ine, x1.hid, fun n d h => ?_⟩, fun n pl ds h => ?_, fun n y e e' h1 h2 => ?_, fun a ha => x.apart a (List.mem_filter.mp ha).1, x.hid, x.fr⟩
  · rw [lookup_reveal, lookup_filter] at h
    by_cases hp : p n = true
    · rw [if_pos hp] at h
      split at h
      · rename_i e he
        obtain ⟨pl, ds⟩ := e
        cases h
        obtain ⟨h1, h2, ys, h3, _, h5⟩ := x.own n pl ds he
        exact ⟨_, h1, _, _, rfl, seq_of_list h3 (fun q => (List.mem_append.mp q).elim (x.apart _ h2) (gone n _ he hp)), h5.mono (off_sub hsub)⟩
      · exact x1.rel n d h
    · rw [if_neg hp] at h
      exact x1.rel n d h
  · rw [lookup_filter (p := fun n => !p n)] at h
    split at h
    · rename_i hp
      obtain ⟨h1, h2, ys, h3, h4, h5⟩ := x.own n pl ds h
      refine ⟨h1, List.mem_filter.mpr ⟨h2, ?_⟩, ys, h3, h4, h5.mono (off_sub hsub)⟩
      simp only [Bool.not_eq_true', List.any_eq_false]
      intro e he hq
      obtain ⟨he1, he2⟩ := List.mem_filter.mp he
      obtain ⟨e', hl⟩ := Option.isSome_iff_exists.mp (lookup_of_mem (l := ω) (n := e.1) (List.mem_map.mpr ⟨e, he1, rfl⟩))
      have := x.inj _ _ _ _ hl h (by simpa using hq)
      rw [this] at he2
      simp [he2] at hp
    · cases h
  · rw [lookup_filter (p := fun n => !p n)] at h1 h2
    split at h1
    · split at h2
      · exact x.inj n y e e' h1 h2
      · cases h2
    · cases h1

theorem store_o {x : Str} {d : D} {v : Value} {M : Model} {E : Value → Shared → Prop} {Q : Unit → Shared → Prop} (i : InO b A W k c σ ω O ad env m cm s) (hx : storable c x = true) (r : Rep (off (W ++ O) s.heap) d v)
    (h : ∀ s' m' cm', Kp (touch env [x]) s s' → InO b A W k c ((x, d) :: σ) (ω.filter fun e => !(e.1 == x)) O ad env m' cm' s' → Q () s') : wpAny M A (storeName env x v) Q E s := by
  refine store_ok i.inn.ine i.inn.fit.fkind (i.inn.fit.stores hx) fun h' m' cm' tk ine hv ho hm => ?_
  obtain ⟨a, ha, hk, hn⟩ := hm
  have ha' : a ∈ touch env [x] := ha.elim (fun h => h ▸ List.mem_cons_self) fun h => List.mem_cons_of_mem _ (by simp [h])
  have kp : Kp (touch env [x]) s { s with heap := h', toks := tk } := ⟨h', tk, rfl, fun b o hb e => hk b o (fun q => hb (q ▸ ha')) e⟩
  have hsub : ∀ a ∈ touch env [x], a ∈ W ++ O := fun a h => i.inn.hid a (touch_hid h)
  have hW : a ∈ W := i.hid a (touch_hid ha')
  refine h _ m' cm' kp ⟨⟨i.inn.ok.stored (hsub a ha') hk hn, i.inn.fit, ine, i.inn.hid, fun y e hy => ?_⟩, fun y pl ds hy => ?_, fun y z e e' h1 h2 => ?_, i.apart, i.hid, i.fr⟩
  · rw [lookup_put] at hy
    by_cases hyx : y = x
    · subst hyx
      rw [if_pos rfl] at hy; cases hy
      exact ⟨v, hv, r.mono (kp.view hsub)⟩
    · rw [if_neg hyx] at hy
      obtain ⟨u, e1, r1⟩ := i.inn.rel y e hy
      exact ⟨u, (ho y hyx).trans e1, r1.mono (kp.view hsub)⟩
  · rw [lookup_filter (p := fun n => !(n == x))] at hy
    split at hy
    · rename_i hp
      have hyx : y ≠ x := by simpa using hp
      obtain ⟨h1, h2, ys, h3, h4, h5⟩ := i.own y pl ds hy
      have hkk : ∀ o, s.heap.get? (ad y) = some o → h'.get? (ad y) = some o := fun o e => hk _ o (fun q => i.apart _ h2 (q ▸ hW)) e
      exact ⟨(ho y hyx).trans h1, h2, ys, isList_keep h3 hkk, fun q => (h4 q).at hkk, h5.mono (kp.view hsub)⟩
    · cases hy
  · rw [lookup_filter (p := fun n => !(n == x))] at h1 h2
    split at h1
    · split at h2
      · exact i.inj y z e e' h1 h2
      · cases h2
    · cases h1

theorem storeAll_o {M : Model} {E : Value → Shared → Prop} {Q : Shared → Prop} : ∀ (xs : List Str) (ds : List D) (vs : List Value) (σ : Names) (ω : Own) (m cm : Str → Option Value) (s : Shared), InO b A W k c σ ω O ad env m cm s → xs.all (storable c) = true → Reps (off (W ++ O) s.heap) ds vs →
    (∀ s' m' cm', Kp (touch env xs) s s' → InO b A W k c (putAll xs ds σ) (ω.filter fun e => !xs.contains e.1) O ad env m' cm' s' → Q s') → ds.length = xs.length → StoreAll M A E env Q xs vs s
  | [], ds, vs, σ, ω, m, cm, s, i, _, r, h, _ => by
    have e : (ω.filter fun e => !([] : List Str).contains e.1) = ω := by simp
    cases vs <;> exact h s m cm (Kp.refl _ _) (by rw [e]; cases ds <;> exact i)
  | x :: xs, [], vs, σ, ω, m, cm, s, i, _, r, h, hl => by simp at hl
  | x :: xs, d :: ds, vs, σ, ω, m, cm, s, i, hx, r, h, hl => by
    obtain ⟨v, us, rfl, r1, r2⟩ := r
    rw [List.all_cons, Bool.and_eq_true] at hx
    refine store_o i hx.1 r1 fun s1 m1 cm1 k1 i1 => storeAll_o xs ds us _ _ m1 cm1 s1 i1 hx.2 (r2.mono (k1.view fun a h => i.inn.hid a (touch_hid h))) (fun s2 m2 cm2 k2 i2 => h s2 m2 cm2 ((k1.mono fun a h => touch_mono (fun y hy => by rw [List.mem_singleton.mp hy]; exact List.mem_cons_self) h).trans (k2.mono fun a h => touch_mono (fun y hy => List.mem_cons_of_mem _ hy) h)) ?_) (by simpa using hl)
    have e : (ω.filter fun e => !(x :: xs).contains e.1) = ((ω.filter fun e => !(e.1 == x)).filter fun e => !xs.contains e.1) := by
      rw [List.filter_filter]
      refine List.filter_congr fun e _ => ?_
      rw [List.contains_cons]
      cases e.1 == x <;> simp
    rw [e]
    exact i2
end
end Mine
end
section
namespace Mine

noncomputable def ment : Nat → Str → Expr → Bool
  | 0, _, _ => true
  | n + 1, x, e => match e with
    | .Constant .. => false
    | .Name y _ => x == y
    | .BinOp l _ r _ => ment n x l || ment n x r
    | .UnaryOp _ l _ => ment n x l
    | .BoolOp _ es _ => es.any (ment n x)
    | .Compare l _ es _ => ment n x l || es.any (ment n x)
    | .IfExp t u v _ => ment n x t || ment n x u || ment n x v
    | .List es _ => es.any (ment n x)
    | .Tuple es _ _ => es.any (ment n x)
    | .Subscript v i _ => ment n x v || ment n x i
    | .Slice lo hi st _ => lo.any (ment n x) || hi.any (ment n x) || st.any (ment n x)
    | .Call f es _ _ => ment n x f || es.any (ment n x)
    | .Attribute o _ _ => ment n x o
    | .ListComp e gs _ _ => ment n x e || gs.any fun g => ment n x g.target || ment n x g.iter || g.ifs.any (ment n x)
    | _ => true
noncomputable def fuelM : Nat := 12

noncomputable def Mv (A : Around) (env : Env) (O O' : List Addr) (s s' : Shared) : Prop := Pv A (hid env ++ O) s s' ∧ ∀ a ∈ O', a ∈ O ∨ s.heap.get? a = none
theorem Mv.refl {A : Around} {env : Env} {O O' : List Addr} {s : Shared} (h : ∀ a ∈ O', a ∈ O) : Mv A env O O' s s := ⟨Pv.refl _ _ _, fun a ha => .inl (h a ha)⟩
theorem Mv.of_post {A : Around} {env : Env} {O O' : List Addr} {s s' : Shared} (p : Post A s s') (h : ∀ a ∈ O', a ∈ O) : Mv A env O O' s s' := ⟨p.pv _, fun a ha => .inl (h a ha)⟩
theorem Mv.trans {A : Around} {env : Env} {O O' O'' : List Addr} {s s' s'' : Shared} (x : Mv A env O O' s s') (y : Mv A env O' O'' s' s'') (hl : ∀ a ∈ hid env, ∃ o, s'.heap.get? a = some o) : Mv A env O O'' s s'' := by
  obtain ⟨⟨h1, t1, rfl, a1, b1⟩, g1⟩ := x
  obtain ⟨⟨h2, t2, rfl, a2, b2⟩, g2⟩ := y
  have away : ∀ b o, b ∉ hid env ++ O → s.heap.get? b = some o → b ∉ hid env ++ O' := fun b o n e q => by
    rcases List.mem_append.mp q with q | q
    · exact n (List.mem_append_left _ q)
    · rcases g1 b q with q | q
      · exact n (List.mem_append_right _ q)
      · rw [e] at q; cases q
  refine ⟨⟨h2, t2, rfl, fun b o n n' e => a2 b o (away b o n e) n' (a1 b o n n' e), fun b o n e => ?_⟩, fun a ha => ?_⟩
  · obtain ⟨sl, e1⟩ := b1 b o n e
    obtain ⟨sl', e2⟩ := b2 b _ (away b o n e) e1
    exact ⟨sl', e2⟩
  · rcases g2 a ha with q | q
    · exact g1 a q
    · cases e : s.heap.get? a with
      | none => exact .inr rfl
      | some o =>
        by_cases hn : a ∈ hid env ++ O
        · rcases List.mem_append.mp hn with hn | hn
          · obtain ⟨o', e'⟩ := hl a hn
            rw [e'] at q; cases q
          · exact .inl hn
        · obtain ⟨sl, e1⟩ := b1 a o hn e
          rw [e1] at q; cases q

theorem InO.hidLive {b : Base} {A : Around} {W : List Addr} {k : Nat} {c : Sc} {σ : Names} {ω : Own} {O : List Addr} {ad : Str → Addr} {env : Env} {m cm : Str → Option Value} {s : Shared} (x : InO b A W k c σ ω O ad env m cm s) : ∀ a ∈ Mine.hid env, ∃ o, s.heap.get? a = some o :=
  fun a ha => x.inn.ok.live a (x.inn.hid a ha)

noncomputable def shown (e : Expr) (σ : Names) (ω : Own) : Names := reveal (ω.filter fun x => ment fuelM x.1 e) ++ σ
noncomputable def unshown (e : Expr) (ω : Own) : Own := ω.filter fun x => !ment fuelM x.1 e
noncomputable def exE (T : Tab) (n : Nat) (c : Sc) (σ : Names) (ω : Own) (e : Expr) : Option (D × Names × Own) :=
  if ω.all fun x => !ment fuelM x.1 e then (ev T n c σ e).map fun d => (d, σ, ω)
  else (ev T n c (reveal ω ++ σ) e).bind fun d => if d.flat then some (d, σ, ω) else (ev T n c (shown e σ ω) e).map fun d => (d, shown e σ ω, unshown e ω)

section
variable {b : Base} {A : Around} {W : List Addr} {k : Nat} {c : Sc} {σ : Names} {ω : Own} {O : List Addr} {ad : Str → Addr} {env : Env} {m cm : Str → Option Value} {s s' : Shared} {T : Tab}

theorem exE_ok {n : Nat} {e : Expr} {q : D × Names × Own} {E : Value → Shared → Prop} {Q : Value → Shared → Prop} (hT : TabOk b k T) (h : exE T n c σ ω e = some q) (x : InO b A W k c σ ω O ad env m cm s)
    (hq : ∀ v s' O', InO b A W k c q.2.1 q.2.2 O' ad env m cm s' → Post A s s' → (∀ a ∈ O', a ∈ O) → Rep (off (W ++ O') s'.heap) q.1 v → Q v s') : wpAny (model b.prog b.w) A (eval e env) Q E s := by
  refine (show Ret (exE T n c σ ω e) (fun q => (∀ v s' O', InO b A W k c q.2.1 q.2.2 O' ad env m cm s' → Post A s s' → (∀ a ∈ O', a ∈ O) → Rep (off (W ++ O') s'.heap) q.1 v → Q v s') → wpAny (model b.prog b.w) A (eval e env) Q E s) from ?_) q h hq
  refine .fork (fun _ => .map fun d h1 hq => ev_ok hT n c σ e d h1 A (W ++ O) env m cm s E Q x.inn fun v s' p r => hq v s' O (x.post p) p (fun _ h => h) r)
    fun _ => .bind fun d h1 => .fork (fun hf => .some fun hq => ev_ok hT n c _ e d h1 A W env m cm s E Q x.seen fun v s' p r => hq v s' O (x.post p) p (fun _ h => h) (r.flat hf)) fun _ => .map fun d' h2 hq => ?_
  obtain ⟨O', x', hs⟩ := x.freeze (fun y => ment fuelM y e)
  exact ev_ok hT n c _ e d' h2 A (W ++ O') env m cm s E Q x'.inn fun v s' p r => hq v s' O' (x'.post p) p hs r

noncomputable def exT (T : Tab) (n : Nat) (c : Sc) (σ : Names) (ω : Own) (e : Expr) : Option Bool := tvW (ev T n) c (reveal ω ++ σ) 8 e
theorem exT_ok {n : Nat} {e : Expr} {z : Bool} {E : Value → Shared → Prop} {Q : Bool → Shared → Prop} (hT : TabOk b k T) (h : exT T n c σ ω e = some z) (x : InO b A W k c σ ω O ad env m cm s)
    (hq : ∀ s', InO b A W k c σ ω O ad env m cm s' → Post A s s' → Q z s') : wpAny (model b.prog b.w) A (isTrue e env (eval e env)) Q E s :=
  tvW_ok (fun e d h => ev_ok hT n c _ e d h) 8 e z h A W env m cm s E Q x.seen fun s' p => hq s' (x.post p) p

noncomputable def exI (T : Tab) (n : Nat) (c : Sc) (σ : Names) (ω : Own) (it tgt : Expr) : Option ((List Str × List (List D)) × Names × Own) :=
  (iterW (ev T n) c (shown it σ ω) it tgt).map fun q => (q, shown it σ ω, unshown it ω)
theorem exI_ok {n : Nat} {it tgt : Expr} {q : (List Str × List (List D)) × Names × Own} {E : Value → Shared → Prop} {Q : Value → Shared → Prop} (hT : TabOk b k T) (h : exI T n c σ ω it tgt = some q) (x : InO b A W k c σ ω O ad env m cm s) :
    tgtNames tgt = some q.1.1 ∧ ((∀ v s0 s' O', InO b A W k c q.2.1 q.2.2 O' ad env m cm s' → InO b A W k c q.2.1 q.2.2 O' ad env m cm s0 → Post A s s0 → Post A s0 s' → (∀ a ∈ O', a ∈ O) → IterAt b A (W ++ O') s0 s' v tgt q.1.1 q.1.2 → Q v s') →
      wpAny (model b.prog b.w) A (eval it env) (fun x s1 => wpAny (model b.prog b.w) A (pyIter x) Q E s1) E s) := by
  obtain ⟨r, h1, rfl⟩ := Option.map_eq_some_iff.mp h
  obtain ⟨hx, hit⟩ := iterW_ok hT (fun e d h => ev_ok hT n c _ e d h) _ h1
  refine ⟨hx, fun hq => ?_⟩
  obtain ⟨O', x', hs⟩ := x.freeze (fun y => ment fuelM y it)
  exact hit A (W ++ O') env m cm s E Q x'.inn fun v s0 s' p0 p1 hat => hq v s0 s' O' ((x'.post p0).post p1) (x'.post p0) p0 p1 hs hat
end

inductive Fl where
  | next | brk | cont
  | ret (d : D)
noncomputable def FlOk (g : View) : Fl → Flow → Prop
  | .next, f => f = .next
  | .brk, f => f = .brk
  | .cont, f => f = .cont
  | .ret d, f => ∃ v, f = .ret v ∧ Rep g d v

noncomputable def ExOk (b : Base) (k : Nat) (c : Sc) (σ : Names) (ω : Own) (t : Env → Sem Flow) (fl : Fl) (σ' : Names) (ω' : Own) : Prop :=
  ∀ (A : Around) (W O : List Addr) (ad : Str → Addr) (env : Env) (m cm : Str → Option Value) (s : Shared) (E : Value → Shared → Prop) (Q : Flow → Shared → Prop), InO b A W k c σ ω O ad env m cm s →
    (∀ f O' ad' m' cm' s', InO b A W k c σ' ω' O' ad' env m' cm' s' → Mv A env O O' s s' → FlOk (off (W ++ O') s'.heap) fl f → Q f s') → wpAny (model b.prog b.w) A (t env) Q E s

section
variable {b : Base} {k : Nat} {c : Sc} {σ σ' σ'' : Names} {ω ω' ω'' : Own} {T : Tab}

theorem ex_nil : ExOk b k c σ ω (execs []) .next σ ω := fun A W O ad env m cm s E Q x h => wpAny_execs_nil (h .next O ad m cm s x (Mv.refl fun _ h => h) rfl)
theorem ex_cons {st : Stmt} {rest : List Stmt} {fl : Fl} (h1 : ExOk b k c σ ω (exec st) .next σ' ω') (h2 : ExOk b k c σ' ω' (execs rest) fl σ'' ω'') : ExOk b k c σ ω (execs (st :: rest)) fl σ'' ω'' :=
  fun A W O ad env m cm s E Q x h => wpAny_execs_cons (h1 A W O ad env m cm s E _ x fun f O1 ad1 m1 cm1 s1 x1 mv hf => by
    cases hf
    exact h2 A W O1 ad1 env m1 cm1 s1 E Q x1 fun f O2 ad2 m2 cm2 s2 x2 mv2 hf => h f O2 ad2 m2 cm2 s2 x2 (mv.trans mv2 x1.hidLive) hf)
theorem ex_stop {st : Stmt} {rest : List Stmt} {fl : Fl} (hn : fl ≠ .next) (h1 : ExOk b k c σ ω (exec st) fl σ' ω') : ExOk b k c σ ω (execs (st :: rest)) fl σ' ω' :=
  fun A W O ad env m cm s E Q x h => wpAny_execs_cons (h1 A W O ad env m cm s E _ x fun f O1 ad1 m1 cm1 s1 x1 mv hf => by
    cases fl with
    | next => exact absurd rfl hn
    | brk => cases hf; exact h _ O1 ad1 m1 cm1 s1 x1 mv rfl
    | cont => cases hf; exact h _ O1 ad1 m1 cm1 s1 x1 mv rfl
    | ret d => obtain ⟨v, rfl, r⟩ := hf; exact h _ O1 ad1 m1 cm1 s1 x1 mv ⟨v, rfl, r⟩)

theorem ex_return {n : Nat} {e : Expr} {p : Pos} {q : D × Names × Own} (hT : TabOk b k T) (h1 : exE T n c σ ω e = some q) : ExOk b k c σ ω (exec (.Return (some e) p)) (.ret q.1) q.2.1 q.2.2 :=
  fun A W O ad env m cm s E Q x h => wpAny_Return_some (exE_ok hT h1 x fun v s' O' x' p' hs r => h _ O' ad m cm s' x' (Mv.of_post p' hs) ⟨v, rfl, r⟩)

theorem touch_hid_O {env : Env} {O : List Addr} {xs : List Str} {s s' : Shared} {A : Around} (k1 : Kp (touch env xs) s s') : Mv A env O O s s' :=
  ⟨(k1.mono fun a h => List.mem_append_left _ (touch_hid h)).pv, fun _ h => .inl h⟩

noncomputable def noComp (e : Expr) : Bool := e.ctorIdx != 8 && (e.ctorIdx != 9 && e.ctorIdx != 10)
theorem swaps_noComp {v : Expr} {t : Option Expr} {l : Nat} {env : Env} (h : noComp v = true) : swapsWith v t l env = pure false := by
  cases v <;> first | rfl | cases h

theorem ex_assign {n : Nat} {x : Str} {p p' : Pos} {e : Expr} {q : D × Names × Own} (hT : TabOk b k T) (hx : storable c x = true) (hc : noComp e = true) (h1 : exE T n c σ ω e = some q) :
    ExOk b k c σ ω (exec (.Assign [.Name x p] e p')) .next ((x, q.1) :: q.2.1) (q.2.2.filter fun e => !(e.1 == x)) :=
  fun A W O ad env m cm s E Q i h => wpAny_Assign_Name (hs := swaps_noComp hc) (exE_ok hT h1 i fun v s1 O1 i1 p1 hs r => store_o i1 hx r fun s2 m2 cm2 k2 i2 =>
    h .next O1 ad m2 cm2 s2 i2 ((Mv.of_post p1 hs).trans (touch_hid_O k2) i1.hidLive) rfl)

theorem ex_if {n : Nat} {t : Expr} {b1 b2 : List Stmt} {p : Pos} {z : Bool} {fl : Fl} (hT : TabOk b k T) (h1 : exT T n c σ ω t = some z) (h2 : ExOk b k c σ ω (execs (if z then b1 else b2)) fl σ' ω') : ExOk b k c σ ω (exec (.If t b1 b2 p)) fl σ' ω' :=
  fun A W O ad env m cm s E Q i h => wpAny_If (exT_ok hT h1 i fun s1 i1 p1 => by
    have := h2 A W O ad env m cm s1 E Q i1 fun f O2 ad2 m2 cm2 s2 i2 mv hf => h f O2 ad2 m2 cm2 s2 i2 ((Mv.of_post p1 fun _ h => h).trans mv i1.hidLive) hf
    cases z <;> simpa using this)

theorem ex_pass {p : Pos} : ExOk b k c σ ω (exec (.Pass p)) .next σ ω := fun A W O ad env m cm s E Q x h => wpAny_Pass (h .next O ad m cm s x (Mv.refl fun _ h => h) rfl)
theorem exec_Break {p : Pos} {env : Env} : exec (.Break p) env = (do standAt p; pure .brk) := rfl
theorem ex_break {p : Pos} : ExOk b k c σ ω (exec (.Break p)) .brk σ ω := fun A W O ad env m cm s E Q x h => by
  show wpAny _ A (exec (.Break p) env) Q E s
  rw [exec_Break]
  exact wpAny_bind (wpAny_standAt (wpAny_pure (h .brk O ad m cm s x (Mv.refl fun _ h => h) rfl)))
end
end Mine
end
section
namespace Mine

section
variable {b : Base} {k : Nat} {c : Sc} {σ σ' σ'' : Names} {ω ω' ω'' : Own} {T : Tab}
variable {A : Around} {W : List Addr} {O : List Addr} {ad : Str → Addr} {env : Env} {m cm : Str → Option Value} {s s' : Shared}

theorem InO.adopt {o : Obj} {a : Addr} {tk : Nat} (x : InO b A W k c σ ω O ad env m cm s) (ha : a = s.heap.objs.size) (ho : o.isFreed = false) : InO b A W k c σ ω (O ++ [a]) ad env m cm { s with heap := s.heap.push o, toks := tk } := by
  have p : Post A s { s with heap := s.heap.push o, toks := tk } := Post.push A s o tk
  have hnone : ∀ z ∈ ([a] : List Addr), s.heap.get? z = none := fun z hz => by rw [List.mem_singleton.mp hz, ha]; exact none_at_size s.heap
  have hsome : ∀ z ∈ ([a] : List Addr), ∃ ob, (s.heap.push o).get? z = some ob := fun z hz => by rw [List.mem_singleton.mp hz, ha]; exact ⟨_, Heap.get?_push_size _ ho⟩
  have x1 := x.inn.widen p hnone hsome
  rw [List.append_assoc] at x1
  have gv : (off (W ++ O) s.heap).le (off (W ++ (O ++ [a])) (s.heap.push o)) := off_grow (fun z ob _ e => Heap.get?_push_of_some _ e) fun z hz => by
    rcases List.mem_append.mp hz with h | h
    · exact .inl (List.mem_append_left _ h)
    · rcases List.mem_append.mp h with h | h
      · exact .inl (List.mem_append_right _ h)
      · exact .inr (hnone z h)
  refine ⟨x1, fun n pl ds h => ?_, x.inj, fun z hz => ?_, x.hid, x.fr⟩
  · obtain ⟨h1, h2, ys, h3, h4, h5⟩ := x.own n pl ds h
    have hk : ∀ ob, s.heap.get? (ad n) = some ob → (s.heap.push o).get? (ad n) = some ob := fun ob e => Heap.get?_push_of_some _ e
    exact ⟨h1, List.mem_append_left _ h2, ys, isList_keep h3 hk, fun q => (h4 q).at hk, h5.mono gv⟩
  · rcases List.mem_append.mp hz with h | h
    · exact x.apart z h
    · intro hw
      obtain ⟨ob, e⟩ := x.inn.ok.live z (List.mem_append_left _ hw)
      rw [hnone z h] at e; cases e

theorem store_own {x : Str} {ds : List D} {a : Addr} {ys : Array Value} {M : Model} {E : Value → Shared → Prop} {Q : Unit → Shared → Prop} (i : InO b A W k c σ ω O ad env m cm s) (hx : storable c x = true)
    (ha : a ∈ O) (hnew : ∀ y e, y ≠ x → ω.lookup y = some e → ad y ≠ a) (hl : s.heap.PlainList a ys) (r : Reps (off (W ++ O) s.heap) ds ys.toList)
    (h : ∀ s' m' cm', Kp (touch env [x]) s s' → InO b A W k c (σ.filter fun e => !(e.1 == x)) ((x, true, ds) :: ω.filter fun e => !(e.1 == x)) O (fun y => if y = x then a else ad y) env m' cm' s' → Q () s') : wpAny M A (storeName env x (.ref a)) Q E s := by
  refine store_ok i.inn.ine i.inn.fit.fkind (i.inn.fit.stores hx) fun h' m' cm' tk ine hv ho hm => ?_
  obtain ⟨z, hz, hk, hn⟩ := hm
  have hz' : z ∈ touch env [x] := hz.elim (fun h => h ▸ List.mem_cons_self) fun h => List.mem_cons_of_mem _ (by simp [h])
  have kp : Kp (touch env [x]) s { s with heap := h', toks := tk } := ⟨h', tk, rfl, fun b o hb e => hk b o (fun q => hb (q ▸ hz')) e⟩
  have hsub : ∀ a ∈ touch env [x], a ∈ W ++ O := fun a h => i.inn.hid a (touch_hid h)
  have hW : z ∈ W := i.hid z (touch_hid hz')
  have hkO : ∀ y ∈ O, ∀ o, s.heap.get? y = some o → h'.get? y = some o := fun y hy o e => hk y o (fun q => i.apart y hy (q ▸ hW)) e
  refine h _ m' cm' kp ⟨⟨i.inn.ok.stored (hsub z hz') hk hn, i.inn.fit, ine, i.inn.hid, fun y e hy => ?_⟩, fun y pl ds' hy => ?_, fun y w e e' h1 h2 hq => ?_, i.apart, i.hid, i.fr⟩
  · rw [lookup_filter (p := fun n => !(n == x))] at hy
    split at hy
    · rename_i hp
      have hyx : y ≠ x := by simpa using hp
      obtain ⟨u, e1, r1⟩ := i.inn.rel y e hy
      exact ⟨u, (ho y hyx).trans e1, r1.mono (kp.view hsub)⟩
    · cases hy
  · rw [List.lookup_cons] at hy
    by_cases hyx : y = x
    · subst hyx
      simp only [beq_self_eq_true, Option.some.injEq, Prod.mk.injEq] at hy
      obtain ⟨rfl, rfl⟩ := hy
      simp only [if_true]
      exact ⟨hv, ha, ys, isList_keep hl (hkO a ha), fun _ => hl.at (hkO a ha), r.mono (kp.view hsub)⟩
    · have hb : (y == x) = false := by simpa using hyx
      rw [hb] at hy
      simp only at hy
      rw [lookup_filter (p := fun n => !(n == x)), if_pos (by simp [hb])] at hy
      obtain ⟨h1, h2, zs, h3, h4, h5⟩ := i.own y pl ds' hy
      simp only [hyx, if_false]
      exact ⟨(ho y hyx).trans h1, h2, zs, isList_keep h3 (hkO _ h2), fun q => (h4 q).at (hkO _ h2), h5.mono (kp.view hsub)⟩
  · have key : ∀ y e, List.lookup y ((x, true, ds) :: ω.filter fun e => !(e.1 == x)) = some e → y = x ∨ (y ≠ x ∧ ω.lookup y = some e) := fun y e he => by
      rw [List.lookup_cons] at he
      by_cases hyx : y = x
      · exact .inl hyx
      · have hb : (y == x) = false := by simpa using hyx
        rw [hb] at he
        simp only at he
        rw [lookup_filter (p := fun n => !(n == x)), if_pos (by simp [hb])] at he
        exact .inr ⟨hyx, he⟩
    rcases key y e h1 with rfl | ⟨hyx, h1'⟩
    · rcases key w e' h2 with rfl | ⟨hwx, h2'⟩
      · rfl
      · simp only [if_true, hwx, if_false] at hq
        exact absurd hq.symm (hnew w _ hwx h2')
    · rcases key w e' h2 with rfl | ⟨hwx, h2'⟩
      · simp only [if_true, hyx, if_false] at hq
        exact absurd hq (hnew y _ hyx h1')
      · simp only [hyx, hwx, if_false] at hq
        exact i.inj y w e e' h1' h2' hq

noncomputable def exL (T : Tab) (n : Nat) (c : Sc) (σ : Names) (ω : Own) (es : List Expr) : Option (List D) :=
  if ω.all fun x => es.all fun e => !ment fuelM x.1 e then (evsW (ev T n) c σ es).bind fun ds => if ds.length ≤ room then some ds else none else none
theorem exL_eq {n : Nat} {es : List Expr} : Ret (exL T n c σ ω es) fun ds => evsW (ev T n) c σ es = some ds ∧ ds.length ≤ room := .ite fun _ => .bind fun _ h => .ite fun hl => .some ⟨h, hl⟩
theorem ex_assign_list {n : Nat} {x : Str} {p p' pl : Pos} {es : List Expr} {ds : List D} (hT : TabOk b k T) (hx : storable c x = true) (h1 : exL T n c σ ω es = some ds) :
    ExOk b k c σ ω (exec (.Assign [.Name x p] (.List es pl) p')) .next (σ.filter fun e => !(e.1 == x)) ((x, true, ds) :: ω.filter fun e => !(e.1 == x)) :=
  fun A W O ad env m cm s E Q i h => wpAny_Assign_Name (hs := rfl) (by
    obtain ⟨h2, hl⟩ := exL_eq ds h1
    refine wpAny_List_spliced ((evsW_ok (fun e d h => ev_ok hT n c _ e d h) es _ h2).1 A (W ++ O) env m cm s E _ pl i.inn fun vs s1 p1 r1 => ?_)
    have i1 := i.post p1
    have nl := r1.length
    refine ⟨room_line (by unfold room at *; omega), ?_⟩
    have i2 := i1.adopt (o := { cls := .type "list", data := .seq vs.toArray }) (a := s1.heap.objs.size) (tk := s1.toks) rfl rfl
    have hn0 : s1.heap.get? s1.heap.objs.size = none := none_at_size _
    refine store_own (ys := vs.toArray) (ds := ds) i2 hx (List.mem_append_right _ (List.mem_singleton.mpr rfl)) (fun y e _ he hq => ?_) ⟨_, Heap.get?_push_size _ rfl⟩ ?_ fun s3 m3 cm3 k3 i3 => ?_
    · obtain ⟨pl, dd⟩ := e
      obtain ⟨_, _, ys, ⟨o, e1⟩, _⟩ := i1.own y pl dd he
      rw [hq, hn0] at e1; cases e1
    · have gv : (off (W ++ O) s1.heap).le (off (W ++ (O ++ [s1.heap.objs.size])) (s1.heap.push { cls := .type "list", data := .seq vs.toArray })) := off_grow (fun z ob _ e => Heap.get?_push_of_some _ e) fun z hz => by
        rcases List.mem_append.mp hz with h | h
        · exact .inl (List.mem_append_left _ h)
        · rcases List.mem_append.mp h with h | h
          · exact .inl (List.mem_append_right _ h)
          · rw [List.mem_singleton.mp h]; exact .inr hn0
      simpa using r1.mono gv
    · have mv1 : Mv A env O (O ++ [s1.heap.objs.size]) s { s1 with heap := s1.heap.push { cls := .type "list", data := .seq vs.toArray } } := by
        refine ⟨(p1.trans (Post.push A s1 _ s1.toks)).pv _, fun z hz => (List.mem_append.mp hz).imp _root_.id fun hz => ?_⟩
        rw [List.mem_singleton.mp hz]
        cases e : s.heap.get? s1.heap.objs.size with
        | none => rfl
        | some o => obtain ⟨sl, e'⟩ := p1.slots e; rw [hn0] at e'; cases e'
      exact h .next _ _ m3 cm3 s3 i3 (mv1.trans (touch_hid_O k3) i2.hidLive) rfl)

theorem InO.change {x : Str} {pl pl' : Bool} {ds ds' : List D} {ys : Array Value} {h' : Heap} {tk : Nat} (i : InO b A W k c σ ω O ad env m cm s) (he : ω.lookup x = some (pl, ds)) (hs : Heap.SameBut (ad x) s.heap h') (hl : h'.PlainList (ad x) ys) (hp : pl' = true → h'.PlainList (ad x) ys)
    (r : Reps (off (W ++ O) s.heap) ds' ys.toList) : InO b A W k c σ ((x, pl', ds') :: ω.filter fun e => !(e.1 == x)) O ad env m cm { s with heap := h', toks := tk } ∧ Mv A env O O s { s with heap := h', toks := tk } := by
  obtain ⟨h1, h2, ys0, h3, h4, h5⟩ := i.own x pl ds he
  have kp : Kp [ad x] s { s with heap := h', toks := tk } := ⟨h', tk, rfl, fun a o ha e => hs.extBut a o (fun q => ha (by simp [q])) e⟩
  have hsub : ∀ a ∈ ([ad x] : List Addr), a ∈ W ++ O := fun a ha => by rw [List.mem_singleton.mp ha]; exact List.mem_append_right _ h2
  have hW := i.apart _ h2
  have i1 := i.inn.kp kp hsub (fun a ha q => by rw [List.mem_singleton.mp ha] at q; exact hW (i.fr _ q)) (fun a ha q => by rw [List.mem_singleton.mp ha] at q; exact hW (i.hid _ q)) (fun a ha => by rw [List.mem_singleton.mp ha]; obtain ⟨o, e⟩ := hl; exact ⟨_, e⟩)
  have key : ∀ y e, List.lookup y ((x, pl', ds') :: ω.filter fun e => !(e.1 == x)) = some e → (y = x ∧ e = (pl', ds')) ∨ (y ≠ x ∧ ω.lookup y = some e) := fun y e he' => by
    rw [List.lookup_cons] at he'
    by_cases hyx : y = x
    · subst hyx; simp only [beq_self_eq_true, Option.some.injEq] at he'; exact .inl ⟨rfl, he'.symm⟩
    · have hb : (y == x) = false := by simpa using hyx
      rw [hb] at he'
      simp only at he'
      rw [lookup_filter (p := fun n => !(n == x)), if_pos (by simp [hb])] at he'
      exact .inr ⟨hyx, he'⟩
  refine ⟨⟨i1, fun y pl2 ds2 hy => ?_, fun y w e e' g1 g2 hq => ?_, i.apart, i.hid, i.fr⟩, (kp.mono fun a ha => by rw [List.mem_singleton.mp ha]; exact List.mem_append_right _ h2).pv, fun _ h => .inl h⟩
  · rcases key y _ hy with ⟨rfl, hq⟩ | ⟨hyx, hy'⟩
    · cases hq
      exact ⟨h1, h2, ys, hl, hp, r.mono (kp.view hsub)⟩
    · obtain ⟨g1, g2, zs, g3, g4, g5⟩ := i.own y pl2 ds2 hy'
      have hne : ad y ≠ ad x := fun q => hyx (i.inj y x _ _ hy' he q)
      have hkk : ∀ o, s.heap.get? (ad y) = some o → h'.get? (ad y) = some o := fun o e => hs.extBut _ o hne e
      exact ⟨g1, g2, zs, isList_keep g3 hkk, fun q => (g4 q).at hkk, g5.mono (kp.view hsub)⟩
  · have g1' : ∃ e0, ω.lookup y = some e0 := (key y e g1).elim (fun q => ⟨_, q.1 ▸ he⟩) fun q => ⟨_, q.2⟩
    have g2' : ∃ e0, ω.lookup w = some e0 := (key w e' g2).elim (fun q => ⟨_, q.1 ▸ he⟩) fun q => ⟨_, q.2⟩
    obtain ⟨_, g1'⟩ := g1'
    obtain ⟨_, g2'⟩ := g2'
    exact i.inj y w _ _ g1' g2' hq

theorem own_name {x : Str} {pl : Bool} {ds : List D} {p : Pos} {M : Model} {E : Value → Shared → Prop} {Q : Value → Shared → Prop} (i : InO b A W k c σ ω O ad env m cm s) (hn : noLoad x = false) (he : ω.lookup x = some (pl, ds)) (h : Q (.ref (ad x)) s) : wpAny M A (eval (.Name x p) env) Q E s :=
  name_ok i.inn.ine i.inn.fit.fkind hn (i.own x pl ds he).1 h

theorem ex_append {n : Nat} {x : Str} {px pa p p' : Pos} {e : Expr} {ds : List D} {q : D × Names × Own} (hT : TabOk b k T) (hn : noLoad x = false) (hline : (pa.endLine == p.line) = true) (hst : isStar e = false) (hx : ω.lookup x = some (true, ds)) (hl : ds.length < room)
    (h1 : exE T n c σ ω e = some q) (hx' : q.2.2.lookup x = some (true, ds)) :
    ExOk b k c σ ω (exec (.Expr (.Call (.Attribute (.Name x px) ("append" : Str) pa) [e] [] p) p')) .next q.2.1 ((x, true, ds ++ [q.1]) :: q.2.2.filter fun e => !(e.1 == x)) :=
  fun A W O ad env m cm s E Q i h => by
    refine wpAny_Expr ?_ (by unfold interactive; rw [i.inn.fit.fkind]; rfl) rfl
    have hse : starEach [e] env = [(false, eval e env)] := star_cons hst
    refine wpAny_Call_append rfl (by rw [hse]; rfl) hline (by rw [hse]; rfl) (own_name i hn hx ?_)
    obtain ⟨_, _, ys, _, hp, _⟩ := i.own x true ds hx
    obtain ⟨nn, ep⟩ := hp rfl
    refine ⟨ad x, ys, rfl, ⟨_, nn, ep, rfl, rfl, rfl⟩, exE_ok hT h1 i fun v s1 O1 i1 p1 hs r => ?_⟩
    obtain ⟨_, h2, zs, _, hp1, hr⟩ := i1.own x true ds hx'
    have nl := hr.length
    refine wpAny_list_append_plain (hp1 rfl) (fun h' hp2 hs2 => ?_) (room_line (by simp at nl; omega))
    obtain ⟨i2, mv⟩ := i1.change (tk := s1.toks) (pl' := true) (ds' := ds ++ [q.1]) hx' hs2 hp2 (fun _ => hp2) (by rw [Array.toList_push]; exact hr.append ⟨v, [], rfl, r, rfl⟩)
    exact h .next O1 ad m cm _ i2 ((Mv.of_post p1 hs).trans mv i1.hidLive) rfl
end
end Mine
end
section
namespace Mine

section
variable {b : Base} {k : Nat} {c : Sc} {σ σ' σ'' : Names} {ω ω' ω'' : Own} {T : Tab}
variable {A : Around} {W : List Addr} {O : List Addr} {ad : Str → Addr} {env : Env} {m cm : Str → Option Value} {s s' : Shared}

theorem InO.kp {wr : List Addr} (x : InO b A (W ++ wr) k c σ ω O ad env m cm s) (p : Kp wr s s') (h2 : ∀ a ∈ wr, a ∉ Mine.fr A) (h3 : ∀ a ∈ wr, a ∉ Mine.hid env) (h4 : ∀ a ∈ wr, ∃ o, s'.heap.get? a = some o) : InO b A (W ++ wr) k c σ ω O ad env m cm s' := by
  have hsub : ∀ a ∈ wr, a ∈ W ++ wr ++ O := fun a h => List.mem_append_left _ (List.mem_append_right _ h)
  refine ⟨x.inn.kp p hsub h2 h3 h4, fun n pl ds h => ?_, x.inj, x.apart, x.hid, x.fr⟩
  obtain ⟨g1, g2, ys, g3, g4, g5⟩ := x.own n pl ds h
  have hk : ∀ o, s.heap.get? (ad n) = some o → s'.heap.get? (ad n) = some o := fun o e => p.here (fun q => x.apart _ g2 (List.mem_append_right _ q)) e
  exact ⟨g1, g2, ys, isList_keep g3 hk, fun q => (g4 q).at hk, g5.mono (p.view hsub)⟩
theorem Drw.turnO {it : Value} {tgt : Expr} {xs : List Str} {fp wr : List Addr} {G : View} {rows : List (List D)} {St : Nat → Heap → Prop} (dr : Drw b.prog b.w A it tgt xs fp wr G rows St)
    (x : InO b A (W ++ wr) k c σ ω O ad env m cm s) (hf : ∀ a ∈ fr A, a ∈ W) (hh : ∀ a ∈ hid env, a ∈ W) (hw : ∀ a ∈ wr, a ∉ W) (hfp : ∀ a ∈ fp, a ∉ W) (hG : G.le (off (W ++ wr ++ O) s.heap)) {i : Nat} (st : St i s.heap) {ds : List D} (hi : rows[i]? = some ds) (hx : xs.all (storable c) = true) (hlen : ds.length = xs.length)
    {E : Value → Shared → Prop} {Qn : Option Value → Shared → Prop}
    (h : ∀ v s1, (∀ (E' : Value → Shared → Prop) (Q' : Shared → Prop), (∀ s' m' cm', InO b A (W ++ wr) k c (putAll xs ds σ) (ω.filter fun e => !xs.contains e.1) O ad env m' cm' s' → St (i + 1) s'.heap → Kp (wr ++ hid env) s s' → Q' s') →
      wpAny (model b.prog b.w) A (letOwnedTupleGo tgt it v) (fun _ s2 => wpAny (model b.prog b.w) A (assign tgt env v) (fun _ => Q') E' s2) E' s1) → Qn (some v) s1) : wpAny (model b.prog b.w) A (pyNext it) Qn E s := by
  refine dr.step i ds s Qn E hi st fun v s1 k1 hv => h v s1 fun E' Q' hq => hv env E' Q' fun vs s2 r k2 st2 => ?_
  have k12 := k1.trans k2
  have x2 := x.kp k12 (fun a ha h => hw a ha (hf a h)) (fun a ha h => hw a ha (hh a h)) (fun a ha => dr.live _ _ st2 a ha)
  refine storeAll_o xs ds vs σ ω m cm s2 x2 hx (r.mono (View.le_trans hG (k12.view fun a ha => List.mem_append_left _ (List.mem_append_right _ ha)))) (fun s3 m3 cm3 k3 x3 => hq s3 m3 cm3 x3 ?_ ((k12.mono fun a ha => List.mem_append_left _ ha).trans (k3.mono fun a ha => List.mem_append_right _ (touch_hid ha)))) hlen
  exact dr.frame _ _ _ st2 fun a ha o e => k3.here (fun h => hfp a ha (hh a (touch_hid h))) e

noncomputable def ForOk (b : Base) (k : Nat) (c : Sc) (body orelse : List Stmt) (xs : List Str) : List (List D) → Names → Own → Fl → Names → Own → Prop
  | [], σ, ω, fl, σ', ω' => ExOk b k c σ ω (execs orelse) fl σ' ω'
  | r :: rs, σ, ω, fl, σ', ω' => r.length = xs.length ∧ ∃ f1 σ1 ω1, ExOk b k c (putAll xs r σ) (ω.filter fun e => !xs.contains e.1) (execs body) f1 σ1 ω1 ∧ match f1 with
    | .next | .cont => ForOk b k c body orelse xs rs σ1 ω1 fl σ' ω'
    | .brk => fl = .next ∧ σ' = σ1 ∧ ω' = ω1
    | .ret d => fl = .ret d ∧ σ' = σ1 ∧ ω' = ω1

noncomputable def After (b : Base) (k : Nat) (c : Sc) (body orelse : List Stmt) (xs : List Str) (rs : List (List D)) (fl : Fl) (σ' : Names) (ω' : Own) (σ1 : Names) (ω1 : Own) (f1 : Fl) : Prop := match f1 with
    | .next | .cont => ForOk b k c body orelse xs rs σ1 ω1 fl σ' ω'
    | .brk => fl = .next ∧ σ' = σ1 ∧ ω' = ω1
    | .ret d => fl = .ret d ∧ σ' = σ1 ∧ ω' = ω1
inductive ForC (b : Base) (k : Nat) (c : Sc) (body orelse : List Stmt) (xs : List Str) (r : List D) (rs : List (List D)) (σ : Names) (ω : Own) (fl : Fl) (σ' : Names) (ω' : Own) : Prop
  | mk (hl : r.length = xs.length) (f1 : Fl) (σ1 : Names) (ω1 : Own) (hb : ExOk b k c (putAll xs r σ) (ω.filter fun e => !xs.contains e.1) (execs body) f1 σ1 ω1) (hr : After b k c body orelse xs rs fl σ' ω' σ1 ω1 f1)
theorem ForOk.view {body orelse : List Stmt} {xs : List Str} {r : List D} {rs : List (List D)} {fl : Fl} (h : ForOk b k c body orelse xs (r :: rs) σ ω fl σ' ω') : ForC b k c body orelse xs r rs σ ω fl σ' ω' := by
  obtain ⟨hl, f1, σ1, ω1, hb, hr⟩ := h
  refine .mk hl f1 σ1 ω1 hb ?_
  cases f1 <;> exact hr
structure FoS (b : Base) (A : Around) (k : Nat) (c : Sc) (body orelse : List Stmt) (xs : List Str) (rows : List (List D)) (W wr O : List Addr) (env : Env) (St : Nat → Heap → Prop) (s : Shared) (fl : Fl) (σ' : Names) (ω' : Own) (i : Nat) (σ : Names) (ω : Own) (O1 : List Addr) (ad : Str → Addr) (m cm : Str → Option Value) (s' : Shared) : Prop where
  le : i ≤ rows.length
  fo : ForOk b k c body orelse xs (rows.drop i) σ ω fl σ' ω'
  x : InO b A (W ++ wr) k c σ ω O1 ad env m cm s'
  st : St i s'.heap
  mv : Mv A env (O ++ wr) (O1 ++ wr) s s'
inductive FoI (b : Base) (A : Around) (k : Nat) (c : Sc) (body orelse : List Stmt) (xs : List Str) (rows : List (List D)) (W wr O : List Addr) (env : Env) (St : Nat → Heap → Prop) (s : Shared) (fl : Fl) (σ' : Names) (ω' : Own) : Nat → Shared → Prop
  | mk {i : Nat} {σ : Names} {ω : Own} {O1 : List Addr} {ad : Str → Addr} {m cm : Str → Option Value} {s' : Shared} (h : FoS b A k c body orelse xs rows W wr O env St s fl σ' ω' i σ ω O1 ad m cm s') : FoI b A k c body orelse xs rows W wr O env St s fl σ' ω' (rows.length + 1 - i) s'
theorem FoI.next {body orelse : List Stmt} {xs : List Str} {rows : List (List D)} {wr O1 : List Addr} {St : Nat → Heap → Prop} {fl : Fl} {i : Nat} {σ1 : Names} {ω1 : Own} (h : FoS b A k c body orelse xs rows W wr O env St s fl σ' ω' (i + 1) σ1 ω1 O1 ad m cm s') :
    ∃ n, n < rows.length + 1 - i ∧ FoI b A k c body orelse xs rows W wr O env St s fl σ' ω' n s' := ⟨rows.length + 1 - (i + 1), Nat.sub_lt_sub_left (Nat.lt_succ_of_le (Nat.le_of_succ_le h.le)) (Nat.lt_succ_self i), .mk h⟩

theorem InO.narrowW {wr : List Addr} (x : InO b A (W ++ wr) k c σ ω O ad env m cm s) (hf : ∀ a ∈ Mine.fr A, a ∈ W) (hh : ∀ a ∈ Mine.hid env, a ∈ W) : InO b A W k c σ ω O ad env m cm s := by
  have hsub : ∀ a ∈ W ++ O, a ∈ W ++ wr ++ O := fun a h => (List.mem_append.mp h).elim (fun h => List.mem_append_left _ (List.mem_append_left _ h)) (List.mem_append_right _)
  refine ⟨x.inn.narrow hsub (fun a h => List.mem_append_left _ (hf a h)) (fun a h => List.mem_append_left _ (hh a h)), fun n pl ds h => ?_, x.inj, fun a ha hw => x.apart a ha (List.mem_append_left _ hw), hh, hf⟩
  obtain ⟨g1, g2, ys, g3, g4, g5⟩ := x.own n pl ds h
  exact ⟨g1, g2, ys, g3, g4, g5.mono (off_sub hsub)⟩

theorem InO.shed {wr : List Addr} (x : InO b A (W ++ wr) k c σ ω O ad env m cm s) (p : Kp wr s s') (hf : ∀ a ∈ Mine.fr A, a ∈ W) (hh : ∀ a ∈ Mine.hid env, a ∈ W) (hw : ∀ a ∈ wr, a ∉ W) : InO b A W k c σ ω O ad env m cm s' := by
  have hsub : ∀ a ∈ W ++ O, a ∈ W ++ wr ++ O := fun a h => (List.mem_append.mp h).elim (fun h => List.mem_append_left _ (List.mem_append_left _ h)) (List.mem_append_right _)
  have hwO : ∀ a ∈ wr, a ∉ W ++ O := fun a ha h => (List.mem_append.mp h).elim (hw a ha) fun h => x.apart a h (List.mem_append_right _ ha)
  have hperm : ∀ a, a ∈ W ++ wr ++ O ↔ a ∈ (W ++ O) ++ wr := fun a => by
    simp only [List.mem_append]
    exact ⟨fun h => h.elim (fun h => h.elim (fun h => .inl (.inl h)) .inr) fun h => .inl (.inr h), fun h => h.elim (fun h => h.elim (fun h => .inl (.inl h)) .inr) fun h => .inl (.inr h)⟩
  have x1 := (x.inn.perm hperm).shed p (fun a h => List.mem_append_left _ (hf a h)) (fun a h => List.mem_append_left _ (hh a h)) hwO
  refine ⟨x1, fun n pl ds h => ?_, x.inj, fun a ha hw => x.apart a ha (List.mem_append_left _ hw), hh, hf⟩
  obtain ⟨g1, g2, ys, g3, g4, g5⟩ := x.own n pl ds h
  have hk : ∀ o, s.heap.get? (ad n) = some o → s'.heap.get? (ad n) = some o := fun o e => p.here (fun q => x.apart _ g2 (List.mem_append_right _ q)) e
  exact ⟨g1, g2, ys, isList_keep g3 hk, fun q => (g4 q).at hk, (g5.mono (p.view fun a ha => List.mem_append_left _ (List.mem_append_right _ ha))).mono (off_sub hsub)⟩

theorem ForOk.loop {body orelse : List Stmt} {xs : List Str} {tgt : Expr} {it : Value} {fp wr : List Addr} {G : View} {rows : List (List D)} {St : Nat → Heap → Prop} {fl : Fl} {R : Result → Shared → Prop}
    (dr : Drw b.prog b.w A it tgt xs fp wr G rows St) (hx : xs.all (storable c) = true) (hfor : ForOk b k c body orelse xs rows σ ω fl σ' ω') (x : InO b A (W ++ wr) k c σ ω O ad env m cm s) (hf : ∀ a ∈ fr A, a ∈ W) (hh : ∀ a ∈ hid env, a ∈ W) (hw : ∀ a ∈ wr, a ∉ W) (hfp : ∀ a ∈ fp, a ∉ W ∧ a ∉ O ∧ ∃ o, s.heap.get? a = some o) (hG : G.le (off (W ++ wr ++ O) s.heap)) (st : St 0 s.heap)
    (h : ∀ f O' ad' m' cm' s', InO b A W k c σ' ω' O' ad' env m' cm' s' → Mv A env (O ++ wr) O' s s' → FlOk (off (W ++ O') s'.heap) fl f → R (.ok f) s') : codeAny (model b.prog b.w) A (.forLoop tgt it body orelse env) R s := by
  have hsubO : ∀ O1 : List Addr, ∀ a ∈ fr A, a ∈ W ++ wr ++ O1 := fun O1 a h => List.mem_append_left _ (List.mem_append_left _ (hf a h))
  have gkeep : ∀ (O1 : List Addr) (s1 : Shared), (∀ a ∈ O1, a ∉ W ++ wr) → Mv A env (O ++ wr) (O1 ++ wr) s s1 → G.le (off (W ++ wr ++ O1) s1.heap) := fun O1 s1 hap mv a o e => by
    obtain ⟨e1, e2⟩ := off_some.mp (hG a o e)
    refine off_some.mpr ⟨fun q => ?_, mv.1.here (fun q => ?_) (fun q => e1 (hsubO O a q)) e2⟩
    · rcases List.mem_append.mp q with q | q
      · exact e1 (List.mem_append_left _ q)
      · rcases mv.2 a (List.mem_append_left _ q) with g | g
        · exact e1 ((List.mem_append.mp g).elim (List.mem_append_right _) fun g => List.mem_append_left _ (List.mem_append_right _ g))
        · rw [e2] at g; cases g
    · rcases List.mem_append.mp q with q | q
      · exact e1 (List.mem_append_left _ (List.mem_append_left _ (hh a q)))
      · exact e1 ((List.mem_append.mp q).elim (List.mem_append_right _) fun g => List.mem_append_left _ (List.mem_append_right _ g))
  have fpOut : ∀ (O1 : List Addr) (s1 : Shared), (∀ a ∈ O1, a ∉ W ++ wr) → Mv A env (O ++ wr) (O1 ++ wr) s s1 → ∀ a ∈ fp, a ∉ O1 := fun O1 s1 hap mv a ha q => by
    obtain ⟨g1, g2, o, e⟩ := hfp a ha
    rcases mv.2 a (List.mem_append_left _ q) with g | g
    · exact (List.mem_append.mp g).elim g2 fun g => hap a q (List.mem_append_right _ g)
    · rw [e] at g; cases g
  refine codeAny_forLoop_any (FoI b A k c body orelse xs rows W wr O env St s fl σ' ω') ?_ (rows.length + 1) (.mk (i := 0) ⟨Nat.zero_le _, hfor, x, st, Mv.refl fun a h => h⟩)
  intro n s1 hI
  cases hI with
  | @mk i σ1 ω1 O1 ad1 m1 cm1 _ lp =>
  have hfor1 := lp.fo
  have x1 := lp.x
  have st1 := lp.st
  have mv1 := lp.mv
  by_cases hlt : i < rows.length
  · have hri : rows[i]? = some rows[i] := List.getElem?_eq_getElem hlt
    have hd : rows.drop i = rows[i] :: rows.drop (i + 1) := List.drop_eq_getElem_cons hlt
    rw [hd] at hfor1
    cases hfor1.view with
    | mk hlen f1 σ2 ω2 hbody hrest =>
    refine dr.turnO x1 hf hh hw (fun a ha => (hfp a ha).1) (gkeep O1 s1 x1.apart mv1) st1 hri hx hlen fun v s2 hv => ?_
    refine hv _ _ fun s3 m3 cm3 x3 st3 k3 => ?_
    have mv3 : Mv A env (O1 ++ wr) (O1 ++ wr) s1 s3 := ⟨(k3.mono fun a ha => (List.mem_append.mp ha).elim (fun h => List.mem_append_right _ (List.mem_append_right _ h)) fun h => List.mem_append_left _ h).pv, fun _ h => .inl h⟩
    have mv13 := mv1.trans mv3 x1.hidLive
    refine hbody A (W ++ wr) O1 ad1 env m3 cm3 s3 _ _ x3 fun f O4 ad4 m4 cm4 s4 x4 mv4 hf4 => ?_
    have mv4' : Mv A env (O1 ++ wr) (O4 ++ wr) s3 s4 := ⟨mv4.1.mono fun a ha => (List.mem_append.mp ha).elim (List.mem_append_left _) fun h => List.mem_append_right _ (List.mem_append_left _ h), fun a ha => (List.mem_append.mp ha).elim (fun h => (mv4.2 a h).imp (List.mem_append_left _) _root_.id) fun h => .inl (List.mem_append_right _ h)⟩
    have mv := mv13.trans mv4' x3.hidLive
    have out : ∀ g : Fl, FlOk (off (W ++ wr ++ O4) s4.heap) g f → FlOk (off (W ++ O4) s4.heap) g f := fun g hg => by
      cases g with
      | ret d => obtain ⟨v, e, r⟩ := hg; exact ⟨v, e, r.mono (off_sub fun a h => (List.mem_append.mp h).elim (fun h => List.mem_append_left _ (List.mem_append_left _ h)) (List.mem_append_right _))⟩
      | _ => exact hg
    have mvO : Mv A env (O ++ wr) O4 s s4 := ⟨mv.1, fun a ha => mv.2 a (List.mem_append_left _ ha)⟩
    have st4 : St (i + 1) s4.heap := dr.frame _ _ _ st3 fun a ha o e => mv4.1.here (fun q => (List.mem_append.mp q).elim (fun q => (hfp a ha).1 (hh a q)) (fpOut O1 s1 x1.apart mv1 a ha)) (fun q => (hfp a ha).1 (hf a q)) e
    have again : ForOk b k c body orelse xs (rows.drop (i + 1)) σ2 ω2 fl σ' ω' → ∃ n', n' < rows.length + 1 - i ∧ FoI b A k c body orelse xs rows W wr O env St s fl σ' ω' n' s4 := fun hr => FoI.next ⟨hlt, hr, x4, st4, mv⟩
    cases f1 with
    | next => cases hf4; exact again hrest
    | cont => cases hf4; exact again hrest
    | brk =>
      cases hf4
      obtain ⟨rfl, rfl, rfl⟩ := hrest
      exact h .next O4 ad4 m4 cm4 s4 (x4.narrowW hf hh) mvO rfl
    | ret d =>
      obtain ⟨rfl, rfl, rfl⟩ := hrest
      have hf5 := out _ hf4
      obtain ⟨v', rfl, r⟩ := hf5
      exact h _ O4 ad4 m4 cm4 s4 (x4.narrowW hf hh) mvO ⟨v', rfl, r⟩
  · cases Nat.le_antisymm lp.le (Nat.not_lt.mp hlt)
    rw [List.drop_length] at hfor1
    refine dr.done s1 _ _ st1 fun s2 k2 => ?_
    have x2 := x1.shed k2 hf hh hw
    have mv2 : Mv A env (O1 ++ wr) O1 s1 s2 := ⟨(k2.mono fun a ha => List.mem_append_right _ (List.mem_append_right _ ha)).pv, fun _ h => .inl (List.mem_append_left _ h)⟩
    have hfor2 : ExOk b k c σ1 ω1 (execs orelse) fl σ' ω' := hfor1
    exact hfor2 A W O1 ad1 env m1 cm1 s2 _ _ x2 fun f O3 ad3 m3 cm3 s3 x3 mv3 hf3 => h f O3 ad3 m3 cm3 s3 x3 ((mv1.trans mv2 x1.hidLive).trans mv3 x2.hidLive) hf3

theorem ex_for {n : Nat} {it tgt : Expr} {body orelse : List Stmt} {p : Pos} {q : (List Str × List (List D)) × Names × Own} {fl : Fl} (hT : TabOk b k T) (hs : foldOk it = true) (h1 : exI T n c σ ω it tgt = some q) (hx : q.1.1.all (storable c) = true) (h2 : ForOk b k c body orelse q.1.1 q.1.2 q.2.1 q.2.2 fl σ' ω') :
    ExOk b k c σ ω (exec (.For tgt it body orelse p)) fl σ' ω' := fun A W O ad env m cm s E Q i h => by
  obtain ⟨hn, hit⟩ := exI_ok hT h1 i
  refine wpAny_For (hs := foldOk_ok hs env) (hit fun v s0 s1 O1 i1 i0 p0 p1 hsO hat => ?_)
  obtain ⟨fp, wr, St, dr, st0, hw0, hwl, hfp⟩ := hat
  have hdead : ∀ a ∈ wr, a ∉ W ++ O1 := fun a hwa hWa => by
    obtain ⟨o, e⟩ := i0.inn.ok.live a hWa
    rw [hw0 a hwa] at e; cases e
  have perm : ∀ a, a ∈ (W ++ O1) ++ wr ↔ a ∈ W ++ wr ++ O1 := fun a => by
    simp only [List.mem_append]
    exact ⟨fun h => h.elim (fun h => h.elim (fun h => .inl (.inl h)) .inr) fun h => .inl (.inr h), fun h => h.elim (fun h => h.elim (fun h => .inl (.inl h)) .inr) fun h => .inl (.inr h)⟩
  have xw : InO b A (W ++ wr) k c q.2.1 q.2.2 O1 ad env m cm s1 := by
    refine ⟨(i0.inn.widen p1 hw0 hwl).perm perm, fun n pl ds he => ?_, i1.inj, fun a ha hw => (List.mem_append.mp hw).elim (i1.apart a ha) fun hw => hdead a hw (List.mem_append_right _ ha), fun a ha => List.mem_append_left _ (i1.hid a ha), fun a ha => List.mem_append_left _ (i1.fr a ha)⟩
    obtain ⟨g1, g2, ys, g3, g4, g5⟩ := i0.own n pl ds he
    have hk : ∀ o, s0.heap.get? (ad n) = some o → s1.heap.get? (ad n) = some o := fun o e => p1.here (fun q => i0.apart _ g2 (i0.fr _ q)) e
    refine ⟨g1, g2, ys, isList_keep g3 hk, fun q => (g4 q).at hk, ?_⟩
    rw [off_congr (fun a => (perm a).symm) s1.heap]
    exact g5.mono (off_grow (fun a o hna e => p1.here (fun h => hna (i0.inn.ok.sub a h)) e) fun a ha => (List.mem_append.mp ha).imp _root_.id fun h => hw0 a h)
  refine ForOk.loop dr hx h2 xw i1.fr i1.hid (fun a ha h => hdead a ha (List.mem_append_left _ h)) (fun a ha => ⟨fun h => (hfp a ha).1 (List.mem_append_left _ h), fun h => (hfp a ha).1 (List.mem_append_right _ h), (hfp a ha).2⟩) (by rw [off_congr perm s1.heap]; exact View.le_refl _) st0 fun f O' ad' m' cm' s' i' mv hf => ?_
  have step : Mv A env O (O1 ++ wr) s0 s1 := ⟨p1.pv _, fun a ha => (List.mem_append.mp ha).imp (hsO a) (hw0 a)⟩
  exact h f O' ad' m' cm' s' i' (((Mv.of_post p0 fun _ h => h).trans step i0.hidLive).trans mv i1.hidLive) hf

end
end Mine
end
section
namespace Mine

theorem inplace_lists {M : Model} {A : Around} {E : Value → Shared → Prop} {s : Shared} {a b : Value} {Q : Value → Shared → Prop} (ha : s.TypeIs a "list") (hb : s.TypeIs b "list") (hc : wpAny M A (call (.builtin "list.__iadd__") [a, b]) Q E s) : wpAny M A (inplaceOp .Add a b) Q E s := by
  have hl : typeLookup (.type "list") (dunderI "add") = pure (some (.builtin "list.__iadd__")) := PySem.F.slot_list_iadd.lookup
  have hq : isSeqSlot (some (.builtin "list.__iadd__")) = true := by decide +kernel
  unfold inplaceOp
  refine wpAny_holding ?_
  have hfi : fillsInplaceSlot (.type "list") "add" (Operator.Add == .Add) = pure false := by
    unfold fillsInplaceSlot
    show (typeLookup (.type "list") (dunderI "add") >>= fun fi => pure (fi.isSome && !isSeqSlot fi)) = pure false
    rw [hl]
    simp only [pure_bind, hq]
    rfl
  have hsi : seqSlot? (.type "list") (dunderI "add") = pure (some (.builtin "list.__iadd__")) := PySem.seqSlot_of hl hq
  refine wpAny_bind (wpAny_typeOf ha (wpAny_bind (wpAny_of_eq hfi ?_)))
  show wpAny M A (if false = true then _ else _) Q E s
  rw [if_neg Bool.false_ne_true]
  refine wpAny_bind (wpAny_binaryOp1_none (nm := "add") ha hb noFill_list_add ?_)
  refine wpAny_bind (wpAny_of_eq hsi ?_)
  exact wpAny_bind (wpAny_rule hc)

theorem setItem_plain {prog : Program} {w : World} {A : Around} {E : Value → Shared → Prop} {s : Shared} {l : Addr} {items : Array Value} {k : Int} {t : Tok} {v : Value} {Q : Unit → Shared → Prop} (hp : s.heap.PlainList l items) (h0 : 0 ≤ k) (hfit : k < 2 ^ 63) (hn : k < items.size)
    (hQ : ∀ h', h'.PlainList l (items.setIfInBounds k.toNat v) → Heap.SameBut l s.heap h' → Q () { s with heap := h' }) : wpAny (model prog w) A (setItem (.ref l) (.int k t) v) Q E s := by
  obtain ⟨ne, ho⟩ := id hp
  have hl := hp.isList
  unfold setItem
  try with_reducible refine wpAny_holding ?_
  first | refine wpAny_bind (wpAny_pure ?_) | skip
  refine wpAny_bind (wpAny_sequenceKey hl.typeIs (by decide) ?_)
  refine wpAny_bind (wpAny_callSpecial?_slot (name := Str.ofString "__setitem__") hl.typeIs slot_list_setitem
    (wpAny_call_entry slot_list_setitem hl.typeIs entry_list_setitem ?_ (args_list_setitem _ _ _)))
  show wpAny _ _ (Builtin.List.listSubscript? (.int k t) >>= _) _ _ s
  refine wpAny_bind (wpAny_listSubscript_int (fitsIndex_of h0 hfit) ?_)
  clear hfit
  obtain ⟨j, rfl⟩ := Int.eq_ofNat_of_zero_le h0
  have hj : j < items.size := by omega
  have hx : items[j]? = some items[j] := Array.getElem?_eq_getElem hj
  show wpAny _ _ ((seqItemAt l j >>= fun r => pure (r.map (j, ·))) >>= _) _ _ s
  refine wpAny_bind (wpAny_bind (wpAny_seqItemAt ho rfl (wpAny_pure ?_)))
  rw [hx]
  show wpAny _ _ (setSeqItemAt l j v >>= _) _ _ s
  have fin : (s.heap.update l (Obj.mapSeq (·.setIfInBounds j v))).PlainList l (items.setIfInBounds j v) := ⟨_, Heap.get?_update_self _ ho rfl⟩
  refine wpAny_bind (wpAny_setSeqItemAt ho rfl ?_)
  first
    | exact wpAny_bind (wpAny_pure (wpAny_pure ⟨.none, rfl, wpAny_pure (hQ _ fin (Heap.SameBut.update ..))⟩))
    | exact wpAny_pure ⟨.none, rfl, wpAny_pure (hQ _ fin (Heap.SameBut.update ..))⟩

section
variable {b : Base} {k : Nat} {c : Sc} {σ σ' σ'' : Names} {ω ω' ω'' : Own} {T : Tab}
variable {A : Around} {W : List Addr} {O : List Addr} {ad : Str → Addr} {env : Env} {m cm : Str → Option Value} {s s' : Shared}

noncomputable def exInt (T : Tab) (n : Nat) (c : Sc) (σ : Names) (ω : Own) (e : Expr) : Option Int := (ev T n c (reveal ω ++ σ) e).bind asInt
theorem exInt_ok {n : Nat} {e : Expr} {z : Int} {E : Value → Shared → Prop} {Q : Value → Shared → Prop} (hT : TabOk b k T) (h : exInt T n c σ ω e = some z) (x : InO b A W k c σ ω O ad env m cm s)
    (hq : ∀ t s', InO b A W k c σ ω O ad env m cm s' → Post A s s' → Q (.int z t) s') : wpAny (model b.prog b.w) A (eval e env) Q E s := by
  obtain ⟨d, h1, h2⟩ := Option.bind_eq_some_iff.mp h
  cases asInt_eq _ h2
  exact ev_ok hT n c _ e _ h1 A W env m cm s E Q x.seen fun v s' p r => by obtain ⟨t, rfl⟩ := r; exact hq t s' (x.post p) p

theorem ex_augitem {n : Nat} {x y : Str} {px ps py p : Pos} {op : Operator} {e : Expr} {pl : Bool} {ds : List D} {z a r : Int} {q : Int} (hT : TabOk b k T) (hn : noLoad x = false) (hx : ω.lookup x = some (pl, ds)) (h2 : exInt T n c σ ω (.Name y py) = some z) (hz : 0 ≤ z) (ha : ds[z.toNat]? = some (.int a)) (hl : ds.length ≤ room)
    (h1 : exInt T n c σ ω e = some q) (hr : inD op (.int a) (.int q) = some (.int r)) :
    ExOk b k c σ ω (exec (.AugAssign (.Subscript (.Name x px) (.Name y py) ps) op e p)) .next σ ((x, false, ds.set z.toNat (.int r)) :: ω.filter fun e => !(e.1 == x)) :=
  fun A W O ad env m cm s E Q io h => wpAny_AugAssign_Subscript (own_name io hn hx (exInt_ok hT h2 io fun t s2 i2 p2 => by
    obtain ⟨_, g2, ys, hl2, _, hrs⟩ := i2.own x pl ds hx
    have nl := hrs.length
    have hsz : ys.size = ds.length := by simpa using nl
    have hlt : z.toNat < ds.length := (List.getElem?_eq_some_iff.mp ha).1
    have hbig : z < 2 ^ 63 := by unfold room at hl; omega
    obtain ⟨v0, e0, t0, rfl⟩ := hrs.at ha
    refine wpAny_getItem_list hl2.isList hz hbig (x := .int a t0) (by simpa using e0) (exInt_ok hT h1 i2 fun t3 s3 i3 p3 => ?_)
    refine in_ok (W := W) (d := .int a) (e := .int q) hr ⟨t0, rfl⟩ ⟨t3, rfl⟩ fun v4 s4 p4 r4 => ?_
    have i4 := i3.post p4
    obtain ⟨_, _, zs, hl4, _, hr4⟩ := i4.own x pl ds hx
    have nl4 := hr4.length
    have hsz4 : zs.size = ds.length := by simpa using nl4
    refine setItem_plain hl4 hz hbig (by omega) fun h' hl5 hs5 => ?_
    obtain ⟨i5, mv⟩ := i4.change (tk := s4.toks) (pl' := false) (ds' := ds.set z.toNat (.int r)) hx hs5 hl5 (fun h => nomatch h) (by
      have := hr4.set (i := z.toNat) (d := .int r) (v := v4) (Rep.flat rfl r4)
      simpa using this)
    exact h .next O ad m cm _ i5 ((Mv.of_post ((p2.trans p3).trans p4) fun _ h => h).trans mv i4.hidLive) rfl))

theorem ex_augname {n : Nat} {x : Str} {px p : Pos} {op : Operator} {e : Expr} {a q r : D} (hT : TabOk b k T) (hn : noLoad x = false) (hs : storable c x = true) (ha : a.flat = true) (hx : σ.lookup x = some a) (h1 : ev T n c (reveal ω ++ σ) e = some q) (hf : q.flat = true) (hr : inD op a q = some r) (hfr : r.flat = true) :
    ExOk b k c σ ω (exec (.AugAssign (.Name x px) op e p)) .next ((x, r) :: σ) (ω.filter fun e => !(e.1 == x)) :=
  fun A W O ad env m cm s E Q io h => by
    obtain ⟨v0, e0, r0⟩ := io.inn.rel x a hx
    refine wpAny_AugAssign_Name (load_ok io.inn.ine io.inn.fit.fkind hn e0 (ev_ok hT n c _ e q h1 A W env m cm s E _ io.seen fun v s1 p1 r1 => ?_))
    have i1 := io.post p1
    refine in_ok (W := W) hr (Rep.flat ha r0) (Rep.flat hf r1) fun v2 s2 p2 r2 => ?_
    refine store_o (i1.post p2) hs (Rep.flat hfr r2) fun s3 m3 cm3 k3 i3 => ?_
    exact h .next O ad m3 cm3 s3 i3 ((Mv.of_post (p1.trans p2) fun _ h => h).trans (touch_hid_O k3) (i1.post p2).hidLive) rfl

theorem ex_extend {n : Nat} {x : Str} {px pl p : Pos} {es : List Expr} {ds q : List D} (hT : TabOk b k T) (hn : noLoad x = false) (hs : storable c x = true) (hx : ω.lookup x = some (true, ds)) (h1 : exL T n c σ ω es = some q) (hl : ds.length + q.length ≤ room) :
    ExOk b k c σ ω (exec (.AugAssign (.Name x px) .Add (.List es pl) p)) .next (σ.filter fun e => !(e.1 == x)) ((x, true, ds ++ q) :: ω.filter fun e => !(e.1 == x)) :=
  fun A W O ad env m cm s E Q io h => by
    refine wpAny_AugAssign_Name (load_ok io.inn.ine io.inn.fit.fkind hn (io.own x true ds hx).1 ?_)
    obtain ⟨h2, hl2⟩ := exL_eq q h1
    refine wpAny_List_spliced ((evsW_ok (fun e d h => ev_ok hT n c _ e d h) es q h2).1 A (W ++ O) env m cm s E _ pl io.inn fun vs s1 p1 r1 => ?_)
    have i1 := io.post p1
    have nl := r1.length
    refine ⟨room_line (by unfold room at *; omega), ?_⟩
    have pp := Post.push A s1 { cls := .type "list", data := .seq vs.toArray } s1.toks
    have i2 := i1.post pp
    obtain ⟨g1, g2, ys, _, hp, hr⟩ := i2.own x true ds hx
    obtain ⟨nn, ep⟩ := hp rfl
    have nl2 := hr.length
    have hb : ({ s1 with heap := s1.heap.push { cls := .type "list", data := .seq vs.toArray } } : Shared).heap.get? s1.heap.objs.size = some { cls := .type "list", data := .seq vs.toArray } := Heap.get?_push_size _ rfl
    have hsum : ys.size + vs.length ≤ 65536 := by simp only [Array.length_toList] at nl2; unfold room at hl; omega
    have hline : (65536 : Nat) ≤ sizeLine := by rw [sizeLine_eq]; omega
    refine inplace_lists ⟨_, ep, rfl⟩ ⟨_, hb, rfl⟩ (call_meets PySem.F.slot_list_iadd ⟨_, ep, rfl⟩ PySem.F.entry_list_iadd (PySem.F.args_list_iadd_2 _ _) (AutoSeq1.list___iadd___list_list_0 (ad x) ys nn s1.heap.objs.size vs.toArray _ ?_ ?_ ?_) ⟨ep, hb, ?_⟩)
    · simp only [Bool.and_eq_true, not_and, Bool.not_eq_true]
      intro _
      unfold Builtin.List.listTooLong
      simp only [List.size_toArray, decide_eq_false_iff_not]
      omega
    · omega
    · simp only [List.size_toArray]; omega
    · have hp3 : (({ s1 with heap := s1.heap.push { cls := .type "list", data := .seq vs.toArray } } : Shared).heap.update (ad x) (Obj.mapSeq fun z => z ++ vs.toArray)).PlainList (ad x) (ys ++ vs.toArray) := ⟨_, Heap.get?_update_self _ ep rfl⟩
      obtain ⟨i3, mv⟩ := i2.change (tk := s1.toks) (pl' := true) (ds' := ds ++ q) hx (Heap.SameBut.update _ _ _) hp3 (fun _ => hp3) (by
        rw [Array.toList_append]
        exact hr.append (by simpa using r1.mono (i1.inn.view pp)))
      have hx3 : List.lookup x ((x, true, ds ++ q) :: ω.filter fun e => !(e.1 == x)) = some (true, ds ++ q) := by simp
      obtain ⟨_, g2', ys', _, hp', hr'⟩ := i3.own x true _ hx3
      refine store_own (ds := ds ++ q) (ys := ys') i3 hs g2' (fun y e hyx he hq => hyx (i3.inj y x _ _ he hx3 hq)) (hp' rfl) hr' fun s4 m4 cm4 k4 i4 => ?_
      have e1 : ((x, true, ds ++ q) :: ω.filter fun e => !(e.1 == x)).filter (fun e => !(e.1 == x)) = ω.filter fun e => !(e.1 == x) := by
        rw [List.filter_cons]
        simp
      rw [e1] at i4
      exact h .next O _ m4 cm4 s4 i4 (((Mv.of_post (p1.trans pp) fun _ h => h).trans mv i2.hidLive).trans (touch_hid_O k4) i3.hidLive) rfl
end
end Mine
end
section
namespace Mine

section
variable {b : Base} {k : Nat} {c : Sc} {σ σ' σ'' : Names} {ω ω' ω'' : Own} {T : Tab}
variable {A : Around} {W : List Addr} {O : List Addr} {ad : Str → Addr} {env : Env} {m cm : Str → Option Value} {s s' : Shared}

noncomputable def swapsS (c : Sc) (scope : Scope) (x : Str) (p vp : Pos) : Bool := c.kind x == some .local && p.line == vp.line && !(scope.names.any fun (n, k) => n == x && (k == .local || k == .cell))
theorem swapsS_eq {elt : Expr} {gens : List Comprehension} {scope : Scope} {vp p : Pos} {x : Str} {l : Nat} (f : Fit c env) : swapsWith (.ListComp elt gens scope vp) (some (.Name x p)) l env = pure (swapsS c scope x p vp) := by
  unfold swapsWith swapsS Env.blockKind
  simp only [f.fkind, f.kindOf, ScopeKind.isAnnotationScope, Bool.false_eq_true, if_false, beq_self_eq_true, Bool.true_and]
  rfl

noncomputable def comp? : Expr → Option (Expr × Comprehension × List Comprehension × Scope)
  | .ListComp elt gs scope _ => gs.head?.map fun g => (elt, g, gs.tail, scope)
  | _ => none
theorem comp_eq {e : Expr} : Ret (comp? e) fun q => ∃ p, e = .ListComp q.1 (q.2.1 :: q.2.2.1) q.2.2.2 p := by
  cases e with
  | ListComp elt gs scope p => cases gs with
    | nil => exact .none
    | cons g gs => exact .some ⟨p, rfl⟩
  | _ => exact .none
noncomputable def exC (T : Tab) (n : Nat) (c : Sc) (σ : Names) (ω : Own) (e : Expr) : Option (List D × Names × Own) :=
  (comp? e).bind fun q => (compW (ev T n) c (shown e σ ω) q.1 q.2.1 q.2.2.1 q.2.2.2).bind fun d => (asList d).map fun out => (out, shown e σ ω, unshown e ω)

theorem ex_assign_comp {n : Nat} {x : Str} {p p' : Pos} {e : Expr} {q : List D × Names × Own} (hT : TabOk b k T) (hx : storable c x = true) (h1 : exC T n c σ ω e = some q) :
    ExOk b k c σ ω (exec (.Assign [.Name x p] e p')) .next ((x, .list q.1) :: q.2.1) (q.2.2.filter fun e => !(e.1 == x)) := fun A W O ad env m cm s E Q i h => by
  obtain ⟨⟨elt, g, gs, scope⟩, he, h1⟩ := Option.bind_eq_some_iff.mp h1
  obtain ⟨vp, rfl⟩ := comp_eq _ he
  obtain ⟨d, hcw, h1⟩ := Option.bind_eq_some_iff.mp h1
  obtain ⟨c', r, out, rfl, ci⟩ := compW_is hT (fun c σ e d h => ev_ok hT n c σ e d h) d hcw
  cases h1
  obtain ⟨O', i', hs⟩ := i.freeze (fun y => ment fuelM y (.ListComp elt (g :: gs) scope vp))
  have hswap := swapsS_eq (elt := elt) (gens := g :: gs) (scope := scope) (vp := vp) (p := p) (x := x) (l := p'.line) i.inn.fit
  cases hsw : swapsS c scope x p vp with
  | false =>
    rw [hsw] at hswap
    refine wpAny_Assign_Name (hs := hswap) (compW_ok hT (fun c σ e d h => ev_ok hT n c σ e d h) _ hcw A (W ++ O') env m cm s E _ i'.inn fun v s1 p1 r => ?_)
    have i1 := i'.post p1
    exact store_o i1 hx r fun s2 m2 cm2 k2 i2 => h .next O' ad m2 cm2 s2 i2 ((Mv.of_post p1 hs).trans (touch_hid_O k2) i1.hidLive) rfl
  | true =>
    rw [hsw] at hswap
    refine listcomp_use ci.sc ci.sync (foldOk_ok ci.fold) ci.iter.2 ci.iter.1 ci.stor ci.rows ci.free ci.len i'.inn hx hswap fun s2 m2 cm2 pv x2 hv => ?_
    have hsub : ∀ a ∈ touch env [x], a ∈ W ++ O' := fun a ha => List.mem_append_left _ (i.hid a (touch_hid ha))
    have look : ∀ {y z}, List.lookup y ((unshown (.ListComp elt (g :: gs) scope vp) ω).filter fun e => !(e.1 == x)) = some z → y ≠ x ∧ List.lookup y (unshown (.ListComp elt (g :: gs) scope vp) ω) = some z := fun {y z} hy => by
      rw [lookup_filter (p := fun n => !(n == x))] at hy
      split at hy
      · rename_i hp
        exact ⟨by simpa using hp, hy⟩
      · cases hy
    refine h .next O' ad m2 cm2 s2 ⟨x2, fun y pl ds hy => ?_, fun y z e e' g1 g2 => i'.inj y z e e' (look g1).2 (look g2).2, i'.apart, i'.hid, i'.fr⟩ ⟨pv.mono fun a ha => List.mem_append_left _ (touch_hid ha), fun a ha => .inl (hs a ha)⟩ rfl
    obtain ⟨hyx, hy⟩ := look hy
    obtain ⟨g1, g2, ys, g3, g4, g5⟩ := i'.own y pl ds hy
    have hkk : ∀ o, s.heap.get? (ad y) = some o → s2.heap.get? (ad y) = some o := fun o e => pv.here (fun q => i'.apart _ g2 (i.hid _ (touch_hid q))) (fun q => i'.apart _ g2 (i.fr _ q)) e
    exact ⟨(hv y hyx).trans g1, g2, ys, isList_keep g3 hkk, fun q => (g4 q).at hkk, g5.mono (pv.view hsub i'.inn.ok.sub)⟩

theorem ex_try {body orelse : List Stmt} {h₀ : ExceptHandler} {hs : List ExceptHandler} {p : Pos} {σ1 σ2 : Names} {ω1 ω2 : Own} {fl fl2 : Fl} (h1 : ExOk b k c σ ω (execs body) fl σ1 ω1)
    (h2 : (fl = .next ∧ ExOk b k c σ1 ω1 (execs orelse) fl2 σ2 ω2) ∨ (fl ≠ .next ∧ fl2 = fl ∧ σ2 = σ1 ∧ ω2 = ω1)) : ExOk b k c σ ω (exec (.Try body (h₀ :: hs) orelse [] p)) fl2 σ2 ω2 :=
  fun A W O ad env m cm s E Q x h => wpAny_Try_except (h1 A W O ad env m cm s _ _ x fun f O1 ad1 m1 cm1 s1 x1 mv hf => by
    rcases h2 with ⟨rfl, h2⟩ | ⟨hn, rfl, rfl, rfl⟩
    · cases hf
      exact h2 A W O1 ad1 env m1 cm1 s1 E Q x1 fun f O2 ad2 m2 cm2 s2 x2 mv2 hf => h f O2 ad2 m2 cm2 s2 x2 (mv.trans mv2 x1.hidLive) hf
    · cases fl2 with
      | next => exact absurd rfl hn
      | brk => cases hf; exact h _ O1 ad1 m1 cm1 s1 x1 mv rfl
      | cont => cases hf; exact h _ O1 ad1 m1 cm1 s1 x1 mv rfl
      | ret d => obtain ⟨v, rfl, r⟩ := hf; exact h _ O1 ad1 m1 cm1 s1 x1 mv ⟨v, rfl, r⟩)
end
end Mine
end
section
namespace Mine

structure One (ce : Expr) (gt gi : Expr) (em : Env → Value → Sem Unit) : Prop where
  turn : ∀ it acc env, compTurn ce 0 it acc env = (do
      standAt gi.pos
      match ← pyNext it with
      | none => pure (.done .next)
      | some v => do
        letOwnedTupleGo gt it v
        assign gt env v
        em env acc
        again (.compLoop ce 0 it acc env))
  cl : clausesOf ce = [⟨gt, gi, [], 0⟩]
  u1 : ∀ (A : Around) it acc env, A.under (.compStart ce 0 it acc env) = A
  u2 : ∀ (A : Around) it acc env, A.under (.compLoop ce 0 it acc env) = A
  d1 : ∀ prog w it acc env, (model prog w).den (.compStart ce 0 it acc env) = (compStart ce 0 it acc env).onRaise (fun x => do noteFrame x env; standAt theWindowsPlace)
  d2 : ∀ prog w it acc env, (model prog w).den (.compLoop ce 0 it acc env) = (compTurn ce 0 it acc env).onRaise (fun x => do noteFrame x env; theTreesLotGoes x)

section
variable {prog : Program} {w : World} {A : Around} {R : Result → Shared → Prop} {s : Shared} {ce gt gi : Expr} {em : Env → Value → Sem Unit}

theorem one_start {it acc : Value} {env : Env} (o : One ce gt gi em)
    (h0 : codeAny (model prog w) A (.compLoop ce 0 it acc env) R s)
    (h : ∀ E', wpAny (model prog w) A (pyIter it) (fun it' s' => codeAny (model prog w) A (.compLoop ce 0 it' acc env) R s') E' s) :
    codeAny (model prog w) A (.compStart ce 0 it acc env) R s := by
  refine codeAny_of_tree ?_
  rw [o.u1, o.d1]
  refine wpAny_notedAt ?_
  unfold compStart
  have e1 : (clausesOf ce)[0]? = some ⟨gt, gi, [], 0⟩ := by rw [o.cl]; rfl
  simp only [e1, Option.elim]
  show wpAny _ _ (ask >>= _) _ _ s
  refine wpAny_bind (wpAny_askSetting (wpAny_ite ?_))
  split
  · first
      | exact wpAny_bind (wpAny_pure (wpAny_pure (And.intro rfl h0)))
      | exact wpAny_pure (And.intro rfl h0)
  · exact wpAny_bind (wpAny_rule (wpAny_bind (wpAny_standAt (wpAny_bind (wpAny_mono (h _) (fun it' s' h' => wpAny_pure (And.intro rfl h')) fun _ _ x => x)))))

theorem one_loop {it acc : Value} {env : Env} (o : One ce gt gi em) (I : Nat → Shared → Prop)
    (turn : ∀ n s E', I n s → wpAny (model prog w) A (pyNext it) (fun r s₁ => match r with
      | none => R (.ok .next) s₁
      | some v => wpAny (model prog w) A (letOwnedTupleGo gt it v) (fun _ s₂ => wpAny (model prog w) A (assign gt env v) (fun _ s₃ =>
          wpAny (model prog w) A (em env acc) (fun _ s₄ => ∃ m, m < n ∧ I m s₄) E' s₃) E' s₂) E' s₁) E' s)
    (n : Nat) (h : I n s) : codeAny (model prog w) A (.compLoop ce 0 it acc env) R s := by
  refine codeAny_loop rfl I (fun n s hI => ?_) n h
  rw [o.u2, o.d2]
  refine wpAny_noted ?_
  rw [o.turn]
  refine wpAny_bind (wpAny_standAt (wpAny_bind (wpAny_mono (turn n s _ hI) (fun r s₁ h₁ => ?_) fun _ _ h' => h')))
  cases r with
  | none => exact wpAny_pure h₁
  | some v =>
    exact wpAny_bind (wpAny_mono h₁ (fun _ s₂ h₂ => wpAny_bind (wpAny_mono h₂ (fun _ s₃ h₃ => wpAny_bind (wpAny_mono h₃ (fun _ s₄ h₄ => wpAny_pure ⟨rfl, h₄⟩) fun _ _ h' => h')) fun _ _ h' => h')) fun _ _ h' => h')
end

section
variable {b : Base} {k : Nat} {c c' : Sc} {σ : Names} {ce gt gi : Expr} {em : Env → Value → Sem Unit} {A : Around}

structure EmOk (b : Base) (A : Around) (k : Nat) (c : Sc) (em : Env → Value → Sem Unit) (Dd : Addr) (xs : List Str) (σ : Names) (rows : List (List D)) (Ac : Nat → Heap → Prop) : Prop where
  at' : ∀ i h h', Ac i h → (∀ o, h.get? Dd = some o → h'.get? Dd = some o) → Ac i h'
  live : ∀ i h, Ac i h → ∃ o, h.get? Dd = some o
  em : ∀ i row, rows[i]? = some row → ∀ (W : List Addr) (env : Env) (m cm : Str → Option Value) (s : Shared) (E' : Value → Shared → Prop) (Q : Shared → Prop), In b A W k c (putAll xs row σ) env m cm s → (∀ a ∈ fr A, a ∈ W) → Dd ∈ W → Dd ∉ fr A → Dd ∉ hid env → Ac i s.heap →
    (∀ s1 s', Post A s s1 → Kp [Dd] s1 s' → Ac (i + 1) s'.heap → Q s') → wpAny (model b.prog b.w) A (em env (.ref Dd)) (fun _ => Q) E' s

theorem one_step {Dd : Addr} {env : Env} {xs : List Str} {rows : List (List D)} {Ac : Nat → Heap → Prop} (o : One ce gt gi em) (eo : EmOk b A k c em Dd xs (without xs σ) rows Ac)
    (W : List Addr) (it : Value) (fp wr : List Addr) (St : Nat → Heap → Prop) (m cm : Str → Option Value) (s : Shared) (R : Result → Shared → Prop)
    (hxs : xs.all (storable c) = true) (dr : Drw b.prog b.w A it gt xs fp wr (off (W ++ wr) s.heap) rows St) (st0 : St 0 s.heap) (x : In b A (W ++ wr) k c σ env m cm s) (hf : ∀ a ∈ fr A, a ∈ W) (hh : ∀ a ∈ hid env, a ∈ W) (hw : ∀ a ∈ wr, a ∉ W) (hfp : ∀ a ∈ fp, a ∉ W)
    (hD : Dd ∈ W) (hDf : Dd ∉ fr A) (hDh : Dd ∉ hid env) (ac : Ac 0 s.heap)
    (hR : ∀ s' m' cm', In b A W k c (without xs σ) env m' cm' s' → Ac rows.length s'.heap → Pv A (own env xs Dd ++ wr) s s' → R (.ok .next) s') :
    codeAny (model b.prog b.w) A (.compLoop ce 0 it (.ref Dd) env) R s := by
  have hDw : Dd ∉ wr := fun h => hw _ h hD
  have hown : ∀ a ∈ own env xs Dd, a ∈ W := fun a h => by
    rcases List.mem_append.mp h with h | h
    · exact hh a (touch_hid h)
    · rw [List.mem_singleton.mp h]; exact hD
  have hff : ∀ a ∈ fr A, a ∈ W ++ wr := fun a h => List.mem_append_left _ (hf a h)
  have hown2 : ∀ a ∈ own env xs Dd ++ wr, a ∈ W ++ wr := fun a h => (List.mem_append.mp h).elim (fun h => List.mem_append_left _ (hown a h)) (List.mem_append_right _)
  refine one_loop o (fun n s' => ∃ i m' cm', n = rows.length + 1 - i ∧ i ≤ rows.length ∧ In b A (W ++ wr) k c (without xs σ) env m' cm' s' ∧ St i s'.heap ∧ Ac i s'.heap ∧ Pv A (own env xs Dd ++ wr) s s') ?_ (rows.length + 1)
    ⟨0, m, cm, rfl, Nat.zero_le _, x.names (fun n d h => by rw [lookup_without] at h; split at h; cases h; exact h), st0, ac, Pv.refl _ _ _⟩
  rintro n s' E' ⟨i, m', cm', rfl, hi, x', st', ac', kp⟩
  have hG : (off (W ++ wr) s.heap).le (off (W ++ wr) s'.heap) := kp.view hown2 hff
  by_cases hlt : i < rows.length
  · have hri : rows[i]? = some rows[i] := List.getElem?_eq_getElem hlt
    refine dr.turn x' hf hh hw hfp hG st' hri hxs fun v s1 hv => ?_
    refine hv E' _ fun s2 m2 cm2 x2 st2 k2 => ?_
    have k2' : Pv A (own env xs Dd ++ wr) s' s2 := (k2.mono fun a ha => (List.mem_append.mp ha).elim (List.mem_append_right _) fun h => List.mem_append_left _ (List.mem_append_left _ h)).pv
    have ac2 : Ac i s2.heap := eo.at' _ _ _ ac' fun o e => k2.here (fun h => (List.mem_append.mp h).elim hDw fun h => hDh (touch_hid h)) e
    refine eo.em i _ hri (W ++ wr) env m2 cm2 s2 E' _ x2 hff (List.mem_append_left _ hD) hDf hDh ac2 fun s3 s4 p3 k4 ac4 => ?_
    have x3 := x2.post p3
    have x4 := x3.kp k4 (fun a ha => by rw [List.mem_singleton.mp ha]; exact List.mem_append_left _ hD) (fun a ha => by rw [List.mem_singleton.mp ha]; exact hDf) (fun a ha => by rw [List.mem_singleton.mp ha]; exact hDh) (fun a ha => by rw [List.mem_singleton.mp ha]; exact eo.live _ _ ac4)
    have st3 : St (i + 1) s3.heap := dr.frame _ _ _ st2 fun a ha o e => p3.here (fun h => hfp a ha (hf a h)) e
    have st4 : St (i + 1) s4.heap := dr.frame _ _ _ st3 fun a ha o e => k4.here (fun h => hfp a ha (by rw [List.mem_singleton.mp h]; exact hD)) e
    refine ⟨rows.length + 1 - (i + 1), by omega, i + 1, m2, cm2, rfl, hlt, x4.names (fun n d e => ?_), st4, ac4, kp.trans (k2'.trans ((p3.pv _).trans (k4.mono fun a ha => List.mem_append_left _ (List.mem_append_right _ ha)).pv))⟩
    rw [lookup_putAll]
    · exact e
    · intro hn
      rw [lookup_without, if_pos (by simpa using hn)] at e
      cases e
  · have hie : i = rows.length := by omega
    subst hie
    refine dr.done s' _ _ st' fun s1 k1 => ?_
    exact hR s1 m' cm' (x'.shed k1 hf hh hw) (eo.at' _ _ _ ac' fun o e => k1.here hDw e) (kp.trans (k1.mono fun a ha => List.mem_append_right _ ha).pv)

theorem one_core {scope : Scope} {xs : List Str} {rows : List (List D)} {newAcc : Sem Value} {o0 : Obj} {Ac : Addr → Nat → Heap → Prop} (o : One ce gt gi em) (hc : compSc c scope = some c') (hs : ∀ env x, foldedSetIterable gi env x = pure x)
    (hit : IterOk b k c σ gi gt xs rows) (hxs : xs.all (storable c') = true) (hnf : ∀ n ∈ xs, n ∉ freeOf scope)
    (hnew : ∀ (s : Shared) (E : Value → Shared → Prop) (Q : Value → Shared → Prop), Q (.ref s.heap.objs.size) { s with heap := s.heap.push o0 } → wpAny (model b.prog b.w) A newAcc Q E s) (hof : o0.isFreed = false)
    (hac0 : ∀ Dd h, h.get? Dd = some o0 → Ac Dd 0 h) (eo : ∀ Dd, EmOk b A k c' em Dd xs (without xs (freeNames scope σ)) rows (Ac Dd))
    {W : List Addr} {env : Env} {m cm : Str → Option Value} {s : Shared} {E : Value → Shared → Prop} {Q : Value → Shared → Prop} {fp0 : Pos} (x : In b A W k c σ env m cm s)
    (H : ∀ Dd s', Post A s s' → s.heap.get? Dd = none → Dd ∉ W → (∀ a o, s.heap.get? a = some o → a < Dd) → Ac Dd rows.length s'.heap → Q (.ref Dd) s') :
    wpAny (model b.prog b.w) A (comprehension ce scope env fp0 newAcc false (eval gi env) none) Q E s := by
  have hc' := hc
  unfold compSc at hc'
  split at hc'
  case isFalse => cases hc'
  rename_i hcond
  simp only [Bool.and_eq_true, List.all_eq_true, beq_iff_eq, decide_eq_true_eq, Bool.or_eq_true] at hcond
  obtain ⟨⟨⟨hk, _⟩, _⟩, hloc⟩ := hcond
  obtain ⟨cl, hcl, _⟩ := compEnv_ok x hc
  refine wpAny_comprehension_free (use := none) (g := ⟨gt, gi, [], 0⟩) (gs := []) o.cl (hs env) (closureFor_eq hcl) hk (fun y hy hyl => (hloc y hy).elim (fun q => by rw [hyl] at q; simp at q) _root_.id)
    (hit A W env m cm s E _ x fun it s0 s2 p0 p2 ⟨fp, wr, St, dr, st0, hw0, hwl, hfp⟩ => ?_)
  have x0 := x.post p0
  have x2 := x0.post p2
  refine hnew s2 E _ (newEnv_comp ?_)
  generalize hs3 : ({ s2 with heap := s2.heap.push o0 } : Shared) = s3
  have hk3 : ∀ a o, s2.heap.get? a = some o → s3.heap.get? a = some o := fun a o e => by rw [← hs3]; exact Heap.get?_push_of_some _ e
  have p3 : Post A s2 s3 := hs3 ▸ Post.push A s2 _ s2.toks
  have hDn : s3.heap.get? s2.heap.objs.size = some o0 := by rw [← hs3]; exact Heap.get?_push_size _ hof
  have hsz3 : s3.heap.objs.size = s2.heap.objs.size + 1 := by rw [← hs3]; exact Heap.size_push ..
  have old : ∀ a o, s2.heap.get? a = some o → a ≠ s2.heap.objs.size := fun a o e => Nat.ne_of_lt (Heap.lt_size e)
  have dead0 : s0.heap.get? s2.heap.objs.size = none := by
    cases e : s0.heap.get? s2.heap.objs.size with
    | none => rfl
    | some o => obtain ⟨sl, e'⟩ := p2.slots e; exact absurd (Heap.lt_size e') (Nat.lt_irrefl _)
  have xa : In b A (W ++ ([s2.heap.objs.size] ++ wr)) k c σ env m cm s3 := x0.widen (p2.trans p3) (fun a ha => (List.mem_append.mp ha).elim (fun h => by rw [List.mem_singleton.mp h]; exact dead0) (hw0 a))
    fun a ha => (List.mem_append.mp ha).elim (fun h => by rw [List.mem_singleton.mp h]; exact ⟨_, hDn⟩) fun h => let ⟨o, e⟩ := hwl a h; ⟨o, hk3 a o e⟩
  obtain ⟨cl', hcl', m4, cm4, x4, hcells⟩ := compEnv_ok xa hc
  rw [hcl] at hcl'; cases hcl'
  have hhid : ∀ a ∈ Mine.hid ({ scope := relabel scope env, locals := s3.heap.objs.size, globals := env.globals, cells := cellsFrom (s3.heap.objs.size + 1) scope.names cl, qual := env.qual, func := none, code := env.code, frame := env.frame, builtins := env.builtins } : Env), a ∈ W ∨ s3.heap.objs.size ≤ a := fun a ha => by
    rcases List.mem_cons.mp ha with rfl | ha
    · exact .inr (Nat.le_refl _)
    · obtain ⟨y, hy, rfl⟩ := List.mem_map.mp ha
      rcases hcells y hy with h | h
      · exact .inl (x.hid _ h.2)
      · exact .inr (Nat.le_of_succ_le h)
  have hnew' : ∀ a ∈ touch ({ scope := relabel scope env, locals := s3.heap.objs.size, globals := env.globals, cells := cellsFrom (s3.heap.objs.size + 1) scope.names cl, qual := env.qual, func := none, code := env.code, frame := env.frame, builtins := env.builtins } : Env) xs, s3.heap.objs.size ≤ a := fun a ha => by
    rcases List.mem_cons.mp ha with rfl | ha
    · exact Nat.le_refl _
    · obtain ⟨n, hn, e⟩ := List.mem_filterMap.mp ha
      rcases hcells (n, a) (mem_of_lookup e) with h | h
      · exact absurd h.1 (hnf n hn)
      · exact Nat.le_of_succ_le h
  generalize hcenv : ({ scope := relabel scope env, locals := s3.heap.objs.size, globals := env.globals, cells := cellsFrom (s3.heap.objs.size + 1) scope.names cl, qual := env.qual, func := none, code := env.code, frame := env.frame, builtins := env.builtins } : Env) = cenv at x4 hhid hnew'
  generalize hs4 : ({ s3 with heap := pushCells (s3.heap.push { cls := .type "dict", data := .dict #[] }) scope.names } : Shared) = s4 at x4
  have hk4 : ∀ a o, s3.heap.get? a = some o → s4.heap.get? a = some o := fun a o e => by rw [← hs4]; exact pushCells_keeps _ _ a o (Heap.get?_push_of_some _ e)
  have p4 : Post A s3 s4 := by rw [← hs4]; exact Post.of_keeps (tk := s3.toks) fun a o e => pushCells_keeps _ _ a o (Heap.get?_push_of_some _ e)
  show codeAny (model b.prog b.w) A (.compStart ce 0 it (.ref s2.heap.objs.size) cenv) (compPost (model b.prog b.w) A E none Q (.ref s2.heap.objs.size) s3.heap.objs.size) s4
  have hloc4 : cenv.locals = s3.heap.objs.size := by rw [← hcenv]
  have x5 : In b A ((W ++ [s2.heap.objs.size] ++ Mine.hid cenv) ++ wr) k c' (freeNames scope σ) cenv m4 cm4 s4 := x4.perm fun a => by
    have h := True.intro
    simp only [List.mem_append]
    exact ⟨fun q => q.elim (fun q => q.elim (fun q => .inl (.inl (.inl q))) fun q => q.elim (fun q => .inl (.inl (.inr q))) .inr) fun q => .inl (.inr q), fun q => q.elim (fun q => q.elim (fun q => q.elim (fun q => .inl (.inl q)) fun q => .inl (.inr (.inl q))) .inr) fun q => .inl (.inr (.inr q))⟩
  have young : ∀ a o, s2.heap.get? a = some o → ¬ s3.heap.objs.size ≤ a := fun a o e h => by
    have := Heap.lt_size e
    rw [hsz3] at h
    exact absurd (Nat.lt_of_lt_of_le this (Nat.le_of_succ_le h)) (Nat.lt_irrefl _)
  have notNew : ∀ a o, s2.heap.get? a = some o → a ∉ W → a ∉ W ++ [s2.heap.objs.size] ++ Mine.hid cenv := fun a o e hna h => by
    rcases List.mem_append.mp h with h | h
    · rcases List.mem_append.mp h with h | h
      · exact hna h
      · exact old a o e (List.mem_singleton.mp h)
    · exact (hhid a h).elim hna (young a o e)
  have hDW : s2.heap.objs.size ∉ W := x2.ok.fresh
  have hwW : ∀ a ∈ wr, a ∉ W := fun a hwa hWa => by
    obtain ⟨o, e⟩ := x0.ok.live a hWa
    rw [hw0 a hwa] at e; cases e
  have hDh : s2.heap.objs.size ∉ Mine.hid cenv := fun h => (hhid _ h).elim hDW fun q => by rw [hsz3] at q; exact absurd q (Nat.not_succ_le_self _)
  have dr5 := dr.view (G' := off ((W ++ [s2.heap.objs.size] ++ Mine.hid cenv) ++ wr) s4.heap) (fun a o e => by
    obtain ⟨e1, e2⟩ := off_some.mp e
    refine off_some.mpr ⟨fun h => ?_, hk4 a o (hk3 a o e2)⟩
    rcases List.mem_append.mp h with h | h
    · exact notNew a o e2 (fun q => e1 (List.mem_append_left _ q)) h
    · exact e1 (List.mem_append_right _ h))
  have hDf : s2.heap.objs.size ∉ fr A := fun h => hDW (x2.ok.sub _ h)
  have fin : ∀ R : Result → Shared → Prop, (∀ s' m' cm', In b A (W ++ [s2.heap.objs.size] ++ Mine.hid cenv) k c' (without xs (freeNames scope σ)) cenv m' cm' s' → Ac s2.heap.objs.size rows.length s'.heap → Pv A (own cenv xs s2.heap.objs.size ++ wr) s4 s' → R (.ok .next) s') →
      codeAny (model b.prog b.w) A (.compLoop ce 0 it (.ref s2.heap.objs.size) cenv) R s4 := fun R hR =>
    one_step o (eo s2.heap.objs.size) (W ++ [s2.heap.objs.size] ++ Mine.hid cenv) it fp wr St m4 cm4 s4 R hxs dr5
      (dr.frame _ _ _ st0 fun a _ o e => hk4 a o (hk3 a o e)) x5 (fun a ha => List.mem_append_left _ (List.mem_append_left _ (x2.ok.sub a ha))) (fun a ha => List.mem_append_right _ ha) (fun a ha => let ⟨o, e⟩ := hwl a ha; notNew a o e (hwW a ha)) (fun a ha => let ⟨h1, o, e⟩ := hfp a ha; notNew a o e h1)
      (List.mem_append_left _ (List.mem_append_right _ (List.mem_singleton.mpr rfl))) hDf hDh (hac0 _ _ (hk4 _ _ hDn)) hR
  have last : ∀ s' m' cm', In b A (W ++ [s2.heap.objs.size] ++ Mine.hid cenv) k c' (without xs (freeNames scope σ)) cenv m' cm' s' → Ac s2.heap.objs.size rows.length s'.heap → Pv A (own cenv xs s2.heap.objs.size ++ wr) s4 s' →
      compPost (model b.prog b.w) A E none Q (.ref s2.heap.objs.size) s3.heap.objs.size (.ok .next) s' := fun s' m' cm' x' hac kp => by
    have dead : ∀ a ∈ own cenv xs s2.heap.objs.size ++ wr, s0.heap.get? a = none := fun a ha => by
      rcases List.mem_append.mp ha with ha | ha
      · rcases List.mem_append.mp ha with ha | ha
        · cases e : s0.heap.get? a with
          | none => rfl
          | some o => obtain ⟨sl, e'⟩ := p2.slots e; exact absurd (hnew' a ha) (young a _ e')
        · rw [List.mem_singleton.mp ha]; exact dead0
      · exact hw0 a ha
    have pv0 : Pv A ([] : List Addr) s0 s' := shed_pv (s0 := s0) (s1 := s4) (Pv.refl _ _ _) ((p2.trans (p3.trans p4)).pv _) (by simpa using kp) dead
    have post0 : Post A s0 s' := by
      obtain ⟨h1, t1, e, a1, b1⟩ := pv0
      exact ⟨h1, t1, e, fun b o n e => a1 b o (fun q => nomatch q) n e, fun b o e => b1 b o (fun q => nomatch q) e⟩
    have deadC : s0.heap.get? s3.heap.objs.size = none := by
      cases e : s0.heap.get? s3.heap.objs.size with
      | none => rfl
      | some o => obtain ⟨sl, e'⟩ := p2.slots e; exact absurd (Nat.le_refl _) (young _ _ e')
    have hNs : s'.heap.Ns s3.heap.objs.size m' := hloc4 ▸ x'.ine.ns
    have hDC : s2.heap.objs.size ≠ s3.heap.objs.size := by rw [hsz3]; exact Nat.ne_of_lt (Nat.lt_succ_self _)
    have dead1 : ∀ a, s0.heap.get? a = none → s.heap.get? a = none := fun a ha => by
      cases e : s.heap.get? a with
      | none => rfl
      | some o => obtain ⟨sl, e'⟩ := p0.slots e; rw [ha] at e'; cases e'
    refine ⟨m', hNs, fun h' hs' => H _ _ ((p0.trans post0).away (dead1 _ deadC) hs') (dead1 _ dead0) hDW (fun a o e => by obtain ⟨sl, e1⟩ := p0.slots e; obtain ⟨sl2, e2⟩ := p2.slots e1; exact Heap.lt_size e2) ?_⟩
    exact (eo _).at' _ _ _ hac fun o e => hs'.extBut _ _ hDC e
  exact one_start o (fin _ last) fun E2 => dr5.self 0 s4 _ _ (dr.frame _ _ _ st0 fun a _ o e => hk4 a o (hk3 a o e)) (fin _ last)
end
end Mine
end
section
set_option maxRecDepth 100000
namespace Mine
theorem slot_sit_next : Slot "set_iterator" "__next__" "set_iterator.__next__" :=
  .of (owner := "set_iterator") (n := "__next__") (by rw [typeLookup_type, builtinLookup_eq_fast]; kernel_rfl) (by decide +kernel) (by decide +kernel) (by decide +kernel)
    (by first | exact .inl (by decide +kernel) | exact .inr (by decide +kernel)) (by rw [isSubtype_type]; kernel_rfl)
theorem entry_sit_next : entryFor table "set_iterator.__next__" = some Builtin.«set_iterator.__next__» := entryFor_of_tree (by kernel_rfl)
theorem owner_sit : Manifest.owners.lookup (String.ofList ['r', 'o', 't', 'a', 'r', 'e', 't', 'i', '_', 't', 'e', 's'].reverse) = some Manifest.sig_set_iterator := by kernel_rfl
theorem args_sit_next (a : Value) : argsOk "set_iterator.__next__" ⟨[a], []⟩ := by
  unfold argsOk; rw [signature?_of (id := "set_iterator.__next__") (n := ['_', '_', 't', 'x', 'e', 'n', '_', '_']) (o := ['r', 'o', 't', 'a', 'r', 'e', 't', 'i', '_', 't', 'e', 's']) (by kernel_rfl) owner_sit]; kernel_rfl
theorem entry_set_iter : entryFor table "set.__iter__" = some Builtin.«frozenset.__iter__» :=
  entryFor_alias (id' := "frozenset.__iter__") (by kernel_rfl) (by first | rfl | decide +kernel | (unfold String.splitOn; simp +decide [String.splitOnAux])) (by decide +kernel) (by kernel_rfl)

noncomputable def hb (b : Bool) : Int := if b then 1 else 0
noncomputable def tbl (b led : Bool) : SetTable := { mask := 7, place := #[if b then 1 else 0], dummies := #[], finger := 0, led := led, moves := 0, plain := true }
noncomputable def objS0 (led : Bool) : Obj := { cls := .type "set", dict := none, data := .set #[] 0 (.fresh 0 0 led) }
noncomputable def objS (b led : Bool) : Obj := { cls := .type "set", dict := none, data := .set #[(hb b, .bool b)] 1 (tbl b led) }

section
variable {prog : Program} {w : World} {A : Around} {E : Value → Shared → Prop} {s : Shared}

theorem pyHash_bool {b : Bool} {Q : Int → Shared → Prop} (h : Q (hb b) { s with toks := s.toks + 1 }) :
    wpAny (model prog w) A (pyHash (.bool b)) Q E s := by
  have hT : s.TypeIs (.bool b) "bool" := rfl
  have e : rawHash (hb b) = hb b := by cases b <;> rfl
  unfold pyHash
  have hv : [Value.bool b].any Value.onHeap = false := rfl
  refine wpAny_bind ?_
  rw [cRoomFor, if_neg (by rw [hv]; exact Bool.false_ne_true)]; refine wpAny_pure ?_
  refine wpAny_bind (wpAny_specialOf hT F.slot_bool_hash.lookup ?_)
  show wpAny _ _ (if (some (Value.builtin "int.__hash__") == some Value.none) = true then _ else _) Q E s
  rw [if_neg (by rw [beq_builtin_none]; exact Bool.false_ne_true)]
  refine wpAny_bind (wpAny_specialOf hT F.slot_bool_hash.lookup ?_)
  show wpAny _ _ (callSpecialIfBoundUnlessNone? (.bool b) "__hash__" _ >>= _) Q E s
  have e3 : Builtin.«int.__hash__» ⟨[.bool b], []⟩ = (do ret (← mkInt (hb b))) := by cases b <;> rfl
  have hr : (decide (-(2 : Int) ^ 63 ≤ hb b) && decide (hb b < 2 ^ 63)) = true := by cases b <;> decide
  have e2 : (if (hb b == -1) = true then (-2 : Int) else hb b) = hb b := by cases b <;> rfl
  refine wpAny_bind (wpAny_callSpecialIfBoundUnlessNone?_slot hT F.slot_bool_hash
    (wpAny_call_entry F.slot_bool_hash hT F.entry_int_hash ?_ (F.args_int_hash_1 _)))
  rw [e3]
  refine wpAny_ret_mkInt ?_
  show wpAny _ _ (if (decide (-(2 : Int) ^ 63 ≤ hb b) && decide (hb b < 2 ^ 63)) = true then _ else _) Q E _
  rw [if_pos hr]
  refine wpAny_pure ?_
  rw [e2]
  exact h

theorem add_first {a : Addr} {b led : Bool} {Q : Value → Shared → Prop} (ho : s.heap.get? a = some (objS0 led))
    (h : ∀ h', Heap.SameBut a s.heap h' → h'.get? a = some (objS b led) → Q .none { s with heap := h', toks := s.toks + 1 }) :
    wpAny (model prog w) A (call (.builtin "set.add") [.ref a, .bool b]) Q E s := by
  have hT : s.TypeIs (.ref a) "set" := ⟨_, ho, rfl⟩
  refine wpAny_call_entry F.slot_set_add hT F.entry_set_add ?_ (F.args_set_add_2 _ _)
  unfold Builtin.«set.add» Builtin.Frozenset.oneOther
  simp only [List.isEmpty_nil, bind_assoc]
  unfold Builtin.Frozenset.addrOf setAdd
  refine wpAny_bind (wpAny_pure ?_)
  try dsimp only
  refine wpAny_bind (wpAny_pure ?_)
  try dsimp only
  refine wpAny_bind ?_
  refine wpAny_holding ?_
  refine wpAny_bind (pyHash_bool ?_)
  unfold setAddHashed setAddHashedIn
  refine wpAny_holding (wpAny_bind (wpAny_setState_of (s := { s with toks := s.toks + 1 }) (es := #[]) (ep := 0) (t := .fresh 0 0 led) ho rfl (by cases led <;> rfl) ?_))
  dsimp only
  rw [if_pos (by kernel_rfl)]
  unfold setAddByScan
  refine wpAny_bind (wpAny_bind (wpAny_rule (wpAny_bind ?_)))
  show wpAny _ _ (setScanFrom a (.bool b) (hb b) true [] 0) _ _ _
  unfold setScanFrom
  refine wpAny_pure ?_
  have e1 : layNew (.fresh 0 0 led) #[] (hb b) (.bool b) = (#[(hb b, .bool b)], tbl b led, false, false) := by cases b <;> cases led <;> decide +kernel
  dsimp only
  rw [e1]
  dsimp only
  refine wpAny_bind (wpAny_pure ?_)
  rw [if_pos (by rfl)]
  refine wpAny_bind (wpAny_pure ?_)
  rw [if_pos rfl]
  refine wpAny_bind (wpAny_storeSet_of (s := { s with toks := s.toks + 1 }) ho rfl ?_)
  rw [if_neg (by cases b <;> cases led <;> decide +kernel)]
  refine wpAny_pure (wpAny_pure ?_)
  show wpAny _ _ (ret Value.none) _ _ _
  exact wpAny_pure ⟨_, rfl, h _ (Heap.SameBut.update ..) (Heap.get?_update_self _ ho rfl)⟩

theorem add_again {a : Addr} {b led : Bool} {Q : Value → Shared → Prop} (ho : s.heap.get? a = some (objS b led))
    (h : Q .none { s with toks := s.toks + 1 }) :
    wpAny (model prog w) A (call (.builtin "set.add") [.ref a, .bool b]) Q E s := by
  have hT : s.TypeIs (.ref a) "set" := ⟨_, ho, rfl⟩
  refine wpAny_call_entry F.slot_set_add hT F.entry_set_add ?_ (F.args_set_add_2 _ _)
  unfold Builtin.«set.add» Builtin.Frozenset.oneOther
  simp only [List.isEmpty_nil, bind_assoc]
  unfold Builtin.Frozenset.addrOf setAdd
  refine wpAny_bind (wpAny_pure ?_)
  try dsimp only
  refine wpAny_bind (wpAny_pure ?_)
  try dsimp only
  refine wpAny_bind ?_
  refine wpAny_holding ?_
  refine wpAny_bind (pyHash_bool ?_)
  unfold setAddHashed setAddHashedIn
  refine wpAny_holding (wpAny_bind (wpAny_setState_of (s := { s with toks := s.toks + 1 }) (es := #[(hb b, .bool b)]) (ep := 1) (t := tbl b led) ho rfl (by cases b <;> cases led <;> rfl) ?_))
  dsimp only
  rw [if_pos (by kernel_rfl)]
  unfold setAddByScan
  refine wpAny_bind (wpAny_bind (wpAny_rule (wpAny_bind ?_)))
  show wpAny _ _ (setScanFrom a (.bool b) (hb b) true [(hb b, .bool b)] 0) _ _ _
  unfold setScanFrom
  rw [if_pos (by simp)]
  refine wpAny_bind (wpAny_setEpoch_of (s := { s with toks := s.toks + 1 }) (es := #[(hb b, .bool b)]) (ep := 1) (t := tbl b led) ho rfl (by cases b <;> cases led <;> rfl) ?_)
  refine wpAny_bind ?_
  unfold eqBool
  show wpAny _ _ (if (Value.bool b == Value.bool b) = true then _ else _) _ _ _
  rw [if_pos (by simp)]
  refine wpAny_bind (wpAny_rule (wpAny_pure ?_))
  simp only [Bool.and_self, if_true]
  refine wpAny_pure ?_
  dsimp only
  refine wpAny_pure (wpAny_pure ?_)
  show wpAny _ _ (ret Value.none) _ _ _
  exact wpAny_pure ⟨_, rfl, h⟩

theorem newSet_any {Q : Value → Shared → Prop}
    (h : Q (.ref s.heap.objs.size) { s with heap := s.heap.push (objS0 (!w.params.followText "set-order")) }) :
    wpAny (model prog w) A (newSet (.type "set")) Q E s := by
  unfold newSet setsByText
  refine wpAny_bind (wpAny_bind (wpAny_askSetting (wpAny_pure ?_)))
  dsimp only
  simp only [newObj]
  exact wpAny_bind (wpAny_alloc (wpAny_pure h))
end
end Mine
end
section
set_option maxRecDepth 100000
namespace Mine
noncomputable def sit (a : Addr) (slot i : Nat) : Obj := { cls := .type "set_iterator", data := .fields #[.int slot 0, .int i 0, .ref a, .int 1 0, .int 1 0] }
noncomputable def bt (w : World) : Bool := w.params.followText "set-order"
noncomputable def slotAfter (w : World) (b : Bool) : Nat := if bt w then 0 else if b then 2 else 1

section
variable {prog : Program} {w : World} {A : Around} {E : Value → Shared → Prop} {s : Shared}

theorem pick_one {α : Type} (f : Nat → Nat) (x : α) : pickOrder f #[x] = #[x] := by
  have key : ∀ j, j = 0 → ([x][j]?.elim (#[] : Array α) fun y => pickOrder.go f 0 1 ([x].eraseIdx j) (#[].push y)) = #[x] := fun j h => by subst h; rfl
  have e : pickOrder f #[x] = [x][f 0 % 1]?.elim (#[] : Array α) fun y => pickOrder.go f 0 1 ([x].eraseIdx (f 0 % 1)) (#[].push y) := by kernel_rfl
  exact e.trans (key _ (Nat.mod_one _))
theorem slotArgs_0 (slot : String) (v : Value) : slotArgs slot 0 ⟨[v], []⟩ = pure (v, []) := by
  unfold slotArgs
  simp only [List.isEmpty_nil, Bool.not_true, Bool.false_eq_true, ↓reduceIte, List.length_nil, bne_self_eq_false, pure_bind]
theorem fits_objS (b led : Bool) : (tbl b led).fits (#[(hb b, Value.bool b)] : Array (Int × Value)).size = true := by cases b <;> cases led <;> rfl

theorem iter_set {a : Addr} {b led : Bool} {Q : Value → Shared → Prop} (ho : s.heap.get? a = some (objS b led))
    (hQ : Q (.ref s.heap.objs.size) { s with heap := s.heap.push (sit a 0 0) }) :
    wpAny (model prog w) A (pyIter (.ref a)) Q E s := by
  have hT : s.TypeIs (.ref a) "set" := ⟨_, ho, rfl⟩
  refine wpAny_pyIter_slot hT F.slot_set_iter (wpAny_call_entry F.slot_set_iter hT entry_set_iter ?_ (F.args_set_iter_1 _))
  unfold Builtin.«frozenset.__iter__» Builtin.Frozenset.slot0 slotArgs
  simp only [List.isEmpty_nil, Bool.not_true, Bool.false_eq_true, ↓reduceIte, bind_assoc, List.length_nil, bne_self_eq_false]
  unfold Builtin.Frozenset.addrOf Builtin.Frozenset.sizeOf
  refine wpAny_bind (wpAny_pure ?_)
  try dsimp only
  refine wpAny_bind (wpAny_pure ?_)
  refine wpAny_bind (wpAny_bind (wpAny_setEntries_of (es := #[(hb b, .bool b)]) (ep := 1) (t := tbl b led) ho rfl (fits_objS b led) (wpAny_pure ?_)))
  unfold setDrawn setsByText
  refine wpAny_bind (wpAny_bind (wpAny_setState_of (es := #[(hb b, .bool b)]) (ep := 1) (t := tbl b led) ho rfl (fits_objS b led) ?_))
  dsimp only
  refine wpAny_bind (wpAny_bind (wpAny_askSetting (wpAny_pure (wpAny_pure ?_))))
  rw [if_neg (fun h => by have h2 := (Bool.and_eq_true_iff.mp h).2; revert h2; cases b <;> cases led <;> decide +kernel)]
  refine wpAny_bind (wpAny_pure ?_)
  refine wpAny_bind (wpAny_setEpoch_of (es := #[(hb b, .bool b)]) (ep := 1) (t := tbl b led) ho rfl (fits_objS b led) ?_)
  show wpAny _ _ (newFields "set_iterator" _ >>= _) _ _ _
  exact wpAny_bind (wpAny_newObj_type (wpAny_pure ⟨_, rfl, "set_iterator", _, ⟨_, Heap.get?_push_size _ rfl, rfl⟩, slot_sit_next.lookup, hQ⟩))

theorem setNext_item {a : Addr} {b : Bool} {Q : Option (Value × Nat) → Shared → Prop} (ho : s.heap.get? a = some (objS b (!bt w)))
    (hQ : Q (some (.bool b, slotAfter w b)) s) : wpAny (model prog w) A (setNext a 0 0 1) Q E s := by
  unfold setNext setsByText
  refine wpAny_bind (wpAny_setState_of (es := #[(hb b, .bool b)]) (ep := 1) (t := tbl b (!bt w)) ho rfl (fits_objS b _) ?_)
  dsimp only
  refine wpAny_bind (wpAny_bind (wpAny_askSetting (wpAny_pure ?_)))
  show wpAny _ _ (if bt w = true then _ else _) _ _ _
  unfold slotAfter at hQ
  cases hb' : bt w with
  | true =>
    rw [hb'] at hQ ho
    rw [if_pos rfl, if_neg (by decide)]
    unfold setWalk setsByText
    refine wpAny_bind (wpAny_bind (wpAny_setState_of (es := #[(hb b, .bool b)]) (ep := 1) (t := tbl b false) ho rfl (fits_objS b _) ?_))
    dsimp only
    refine wpAny_bind (wpAny_bind (wpAny_askSetting (wpAny_pure ?_)))
    show wpAny _ _ (if bt w = true then _ else _) _ _ _
    rw [if_pos hb']
    refine wpAny_bind (wpAny_askSetting (wpAny_pure (wpAny_pure ?_)))
    have e : ∀ f : Nat → Nat, (pickOrder f #[(hb b, Value.bool b)])[0]? = some (hb b, .bool b) := fun f => by
      rw [pick_one]; rfl
    rw [e]
    exact hQ
  | false =>
    rw [hb'] at hQ ho
    rw [if_neg (by decide)]
    rw [if_neg (by cases b <;> decide +kernel)]
    refine wpAny_bind ?_
    have e0 : ∀ (m : Sem Unit), m = pure () → ∀ {Q' : Unit → Shared → Prop}, Q' () s → wpAny (model prog w) A m Q' E s := fun m h Q' q => h ▸ wpAny_pure q
    refine e0 _ (by cases b <;> rfl) ?_
    refine wpAny_pure ?_
    cases b <;> exact hQ

theorem setNext_end {a : Addr} {b : Bool} {Q : Option (Value × Nat) → Shared → Prop} (ho : s.heap.get? a = some (objS b (!bt w)))
    (hQ : Q none s) : wpAny (model prog w) A (setNext a (slotAfter w b) 1 1) Q E s := by
  unfold setNext setsByText
  refine wpAny_bind (wpAny_setState_of (es := #[(hb b, .bool b)]) (ep := 1) (t := tbl b (!bt w)) ho rfl (fits_objS b _) ?_)
  dsimp only
  refine wpAny_bind (wpAny_bind (wpAny_askSetting (wpAny_pure ?_)))
  show wpAny _ _ (if bt w = true then _ else _) _ _ _
  unfold slotAfter
  cases hb' : bt w with
  | true =>
    rw [hb'] at ho
    rw [if_pos rfl, if_neg (by decide)]
    unfold setWalk setsByText
    refine wpAny_bind (wpAny_bind (wpAny_setState_of (es := #[(hb b, .bool b)]) (ep := 1) (t := tbl b false) ho rfl (fits_objS b _) ?_))
    dsimp only
    refine wpAny_bind (wpAny_bind (wpAny_askSetting (wpAny_pure ?_)))
    show wpAny _ _ (if bt w = true then _ else _) _ _ _
    rw [if_pos hb']
    refine wpAny_bind (wpAny_askSetting (wpAny_pure (wpAny_pure ?_)))
    have e : ∀ f : Nat → Nat, (pickOrder f #[(hb b, Value.bool b)])[1]? = none := fun f => by
      rw [pick_one]; rfl
    rw [e]
    exact hQ
  | false =>
    rw [hb'] at ho
    rw [if_neg (by decide)]
    rw [if_neg (by cases b <;> decide +kernel)]
    refine wpAny_bind ?_
    have e0 : ∀ (m : Sem Unit), m = pure () → ∀ {Q' : Unit → Shared → Prop}, Q' () s → wpAny (model prog w) A m Q' E s := fun m h Q' q => h ▸ wpAny_pure q
    refine e0 _ (by cases b <;> rfl) ?_
    refine wpAny_pure ?_
    cases b <;> exact hQ

theorem next_set_item {it a : Addr} {b : Bool} {Q : Option Value → Shared → Prop} (hne : it ≠ a) (hit : s.heap.get? it = some (sit a 0 0)) (ho : s.heap.get? a = some (objS b (!bt w)))
    (hQ : ∀ h', h'.get? it = some (sit a (slotAfter w b) 1) → Heap.SameBut it s.heap h' → Q (some (.bool b)) { s with heap := h' }) :
    wpAny (model prog w) A (pyNext (.ref it)) Q E s := by
  have hT : s.TypeIs (.ref it) "set_iterator" := ⟨_, hit, rfl⟩
  unfold pyNext
  refine wpAny_bind (wpAny_attempt (wpAny_callSpecial?_slot (name := Str.ofString "__next__") hT slot_sit_next
    (wpAny_call_entry slot_sit_next hT entry_sit_next ?_ (args_sit_next _))))
  show wpAny _ _ (slotArgs "__next__" 0 ⟨[.ref it], []⟩ >>= _) _ _ _
  refine wpAny_bind (wpAny_of_eq (slotArgs_0 _ _) ?_)
  refine wpAny_bind (wpAny_fieldsOf hit rfl ?_)
  dsimp only
  refine wpAny_bind (wpAny_setEntries_of (es := #[(hb b, .bool b)]) (ep := 1) (t := tbl b (!bt w)) ho rfl (fits_objS b _) ?_)
  rw [if_neg (by simp)]
  refine wpAny_bind (setNext_item ho ?_)
  dsimp only
  refine wpAny_bind (wpAny_setField hit rfl (by simp) ?_)
  have h1 := Heap.get?_update_self (Obj.mapFields (·.setIfInBounds 0 (rawInt (slotAfter w b)))) hit rfl
  refine wpAny_bind (wpAny_setField (s := { s with heap := s.heap.update it (Obj.mapFields (·.setIfInBounds 0 (rawInt (slotAfter w b)))) }) h1 rfl (by simp) ?_)
  refine wpAny_pure ⟨_, rfl, wpAny_pure (hQ _ ?_ ((Heap.SameBut.update ..).trans (Heap.SameBut.update ..)))⟩
  exact Heap.get?_update_self _ h1 rfl

theorem next_set_end {it a : Addr} {b : Bool} {Q : Option Value → Shared → Prop} (hh : A.handled = none) (hne : it ≠ a) (hit : s.heap.get? it = some (sit a (slotAfter w b) 1)) (ho : s.heap.get? a = some (objS b (!bt w)))
    (hQ : ∀ h', Heap.ExtBut it s.heap h' → Q none { s with heap := h' }) :
    wpAny (model prog w) A (pyNext (.ref it)) Q E s := by
  have hT : s.TypeIs (.ref it) "set_iterator" := ⟨_, hit, rfl⟩
  unfold pyNext
  refine wpAny_bind (wpAny_attempt (wpAny_callSpecial?_slot (name := Str.ofString "__next__") hT slot_sit_next
    (wpAny_call_entry slot_sit_next hT entry_sit_next ?_ (args_sit_next _))))
  show wpAny _ _ (slotArgs "__next__" 0 ⟨[.ref it], []⟩ >>= _) _ _ _
  refine wpAny_bind (wpAny_of_eq (slotArgs_0 _ _) ?_)
  refine wpAny_bind (wpAny_fieldsOf hit rfl ?_)
  dsimp only
  refine wpAny_bind (wpAny_setEntries_of (es := #[(hb b, .bool b)]) (ep := 1) (t := tbl b (!bt w)) ho rfl (fits_objS b _) ?_)
  rw [if_neg (by simp)]
  refine wpAny_bind ?_
  show wpAny _ _ (setNext a (slotAfter w b) 1 1) _ _ _
  refine setNext_end ho ?_
  dsimp only
  refine wpAny_bind (wpAny_setField hit rfl (by simp) ?_)
  show wpAny _ _ (newExc (.type "StopIteration") [] >>= _) _ _ _
  refine wpAny_bind ?_
  show wpAny _ _ (newExc (.type "StopIteration") []) _ _ _
  unfold newExc newTuple
  refine wpAny_bind (wpAny_newObj_type ?_ (by size_fits))
  refine wpAny_bind (m := firstArgMember _ _) (wpAny_of_eq (a := Value.none) (by first | rfl | (simp only [firstArgMember]; rfl)) ?_)
  refine wpAny_newObj_type ?_ (by size_fits)
  simp only [raiseNew]
  refine wpAny_bind (wpAny_handled ?_)
  first | rw [show A.in1.handled = none from hh] | rw [hh]
  refine wpAny_bind (wpAny_pure (wpAny_throw ?_))
  refine wpAny_bind (wpAny_isInstance (T := "StopIteration") (b := true) ⟨_, Heap.get?_push_size _ rfl, rfl⟩ isSubtype_stop ?_)
  exact wpAny_pure (hQ _ (((Heap.SameBut.update ..).extBut.push _).push _))

theorem unpack_set {a : Addr} {b : Bool} {t : Bool × (Value → Sem Unit)} {Q : Unit → Shared → Prop} (hh : A.handled = none) (ho : s.heap.get? a = some (objS b (!bt w))) (hstar : t.1 = false)
    (h : ∀ h', Heap.ExtBut s.heap.objs.size s.heap h' → wpAny (model prog w) A (assignInOrder [t.2] [.bool b]) Q E { s with heap := h' }) :
    wpAny (model prog w) A (unpack (.ref a) [t]) Q E s := by
  have hT : s.TypeIs (.ref a) "set" := ⟨_, ho, rfl⟩
  have hlt : s.heap.objs.size ≠ a := fun e => Nat.ne_of_lt (Heap.lt_size ho) e.symm
  unfold unpack
  have e : [t].findIdx? (·.1) = none := by simp [List.findIdx?_cons, hstar]
  rw [e]
  refine wpAny_bind (wpAny_holding ?_)
  unfold unpackItems
  refine wpAny_bind ?_
  unfold notIterableAtAll
  refine wpAny_bind (wpAny_specialOf hT F.slot_set_iter.lookup ?_)
  refine wpAny_pure ?_
  simp only [Bool.false_eq_true, if_false]
  refine wpAny_bind (wpAny_holding (iter_set ho ?_))
  have hit0 : (s.heap.push (sit a 0 0)).get? s.heap.objs.size = some (sit a 0 0) := Heap.get?_push_size _ rfl
  have ho0 : (s.heap.push (sit a 0 0)).get? a = some (objS b (!bt w)) := Heap.get?_push_of_some _ ho
  refine wpAny_bind (wpAny_holding ?_)
  show wpAny _ _ (pyNext (.ref s.heap.objs.size) >>= _) _ _ _
  refine wpAny_bind (next_set_item (s := { s with heap := s.heap.push (sit a 0 0) }) hlt hit0 ho0 fun h1 hit1 hs1 => ?_)
  refine wpAny_bind (wpAny_holding ?_)
  refine wpAny_pure (wpAny_pure ?_)
  rw [if_neg (by simp)]
  refine wpAny_bind (wpAny_holding (next_set_end (s := { s with heap := h1 }) hh hlt hit1 (hs1.extBut _ _ (Ne.symm hlt) ho0) fun h2 he2 => ?_))
  simp only [Option.isSome_none, Bool.false_eq_true, if_false]
  refine wpAny_pure ?_
  exact h h2 fun c o hc e => he2 c o hc (hs1.extBut c o hc (Heap.get?_push_of_some _ e))
end
end Mine
end
section
set_option maxRecDepth 100000
namespace Mine

theorem one_set {elt gt gi : Expr} {scope : Scope} {pos : Pos} : One (.SetComp elt [⟨gt, gi, [], 0⟩] scope pos) gt gi (fun env acc => do let v ← eval elt env; standAt elt.pos; let _ ← call (.builtin "set.add") [acc, v]) where
  turn := fun _ _ _ => rfl
  cl := rfl
  u1 := fun _ _ _ _ => rfl
  u2 := fun _ _ _ _ => rfl
  d1 := fun _ _ _ _ _ => rfl
  d2 := fun _ _ _ _ _ => rfl
noncomputable def emD (kx vx : Expr) (env : Env) (acc : Value) : Sem Unit := do
  let kv ← eval kx env
  let vv ← holding [kv] (eval vx env)
  match acc with
  | .ref d => do
    standAt { kx.pos with endLine := vx.pos.endLine, endCol := vx.pos.endCol }
    holding [kv, vv] (dictSet d kv vv)
  | _ => unsupported "internal:dictcomp"
theorem one_dict {kx vx gt gi : Expr} {scope : Scope} {pos : Pos} : One (.DictComp kx vx [⟨gt, gi, [], 0⟩] scope pos) gt gi (emD kx vx) where
  turn := fun _ _ _ => rfl
  cl := rfl
  u1 := fun _ _ _ _ => rfl
  u2 := fun _ _ _ _ => rfl
  d1 := fun _ _ _ _ _ => rfl
  d2 := fun _ _ _ _ _ => rfl

noncomputable def allB (r : Names → Option D) (z : Bool) (xs : List Str) (σ : Names) : List (List D) → Bool
  | [] => true
  | row :: rs => (r (putAll xs row σ)).bind asBool == some z && allB r z xs σ rs
theorem boolSm {o : Option D} : Ret (o.bind asBool) fun a => o = some (.bool a) := .bind fun d h a e => by rw [h, asBool_eq a e]
theorem allB_at {r : Names → Option D} {z : Bool} {xs : List Str} {σ : Names} : ∀ {rows : List (List D)}, allB r z xs σ rows = true → ∀ row ∈ rows, r (putAll xs row σ) = some (.bool z)
  | [], _, _, h => nomatch h
  | r0 :: rs, h, row, e => by
    rcases List.mem_cons.mp e with rfl | e
    · exact boolSm _ (beq_iff_eq.mp (and_t h).1)
    · exact allB_at (and_t h).2 row e

noncomputable def pairsW (rk rv : Names → Option D) (xs : List Str) (σ : Names) : List (List D) → Option (List (Str × Str))
  | [] => some []
  | row :: rs => ((rk (putAll xs row σ)).bind asStr).bind fun a => ((rv (putAll xs row σ)).bind asStr).bind fun b => (pairsW rk rv xs σ rs).map ((a, b) :: ·)
theorem strSm {o : Option D} : Ret (o.bind asStr) fun a => o = some (.str a) := .bind fun d h a e => by rw [h, asStr_eq a e]
theorem pairsW_at {rk rv : Names → Option D} {xs : List Str} {σ : Names} : ∀ {rows : List (List D)}, Ret (pairsW rk rv xs σ rows) fun prs => prs.length = rows.length ∧ ∀ (i : Nat) row, rows[i]? = some row →
    ∃ a b, prs[i]? = some (a, b) ∧ rk (putAll xs row σ) = some (.str a) ∧ rv (putAll xs row σ) = some (.str b)
  | [] => .some ⟨rfl, fun _ _ h => nomatch h⟩
  | r0 :: rs => .bind fun a ha => .bind fun b hb => .map fun q h1 => by
    obtain ⟨n, ih⟩ := pairsW_at q h1
    refine ⟨congrArg (· + 1) n, fun i row e => ?_⟩
    cases i with
    | zero => cases e; exact ⟨a, b, rfl, strSm a ha, strSm b hb⟩
    | succ i => exact ih i row e

section
variable {b : Base} {k : Nat} {c c' : Sc} {σ : Names} {ω : Own} {T : Tab} {n : Nat}

theorem set_core {elt gt gi : Expr} {scope : Scope} {pos : Pos} {xs : List Str} {rows : List (List D)} {z : Bool} (hc : compSc c scope = some c') (hs : ∀ env x, foldedSetIterable gi env x = pure x)
    (hit : IterOk b k c σ gi gt xs rows) (hxs : xs.all (storable c') = true) (hnf : ∀ n ∈ xs, n ∉ freeOf scope) (hr : ∀ (i : Nat) (row : List D), rows[i]? = some row → EvOk b k c' (putAll xs row (without xs (freeNames scope σ))) elt (.bool z)) (hne : rows ≠ [])
    {A : Around} {W : List Addr} {env : Env} {m cm : Str → Option Value} {s : Shared} {E : Value → Shared → Prop} {Q : Value → Shared → Prop} (x : In b A W k c σ env m cm s)
    (H : ∀ Dd s', Post A s s' → s'.heap.get? Dd = some (objS z (!bt b.w)) → Q (.ref Dd) s') :
    wpAny (model b.prog b.w) A (eval (.SetComp elt [⟨gt, gi, [], 0⟩] scope pos) env) Q E s := by
  rw [arm_eval_SetComp]
  refine one_core (Ac := fun Dd i h => h.get? Dd = some (if i = 0 then objS0 (!bt b.w) else objS z (!bt b.w))) one_set hc hs hit hxs hnf (fun s E Q h => newSet_any h) rfl (fun Dd h e => by rw [if_pos rfl]; exact e) (fun Dd => ?_) x fun Dd s' p _ _ _ e => H Dd s' p ?_
  · refine ⟨fun i h h' e hk => hk _ e, fun i h e => ⟨_, e⟩, fun i row hi W env m cm s E' Q x hf hD hDf hDh ac hq => ?_⟩
    refine wpAny_bind (hr i row hi A W env m cm s E' _ x fun v s1 p1 r1 => ?_)
    cases r1
    have ac1 := p1.here hDf ac
    refine wpAny_bind (wpAny_standAt (wpAny_bind ?_))
    by_cases h0 : i = 0
    · subst h0
      refine add_first (led := !bt b.w) (by simpa using ac1) fun h' hs' e' => wpAny_pure (hq s1 _ p1 ⟨h', _, rfl, fun a o ha e => hs'.extBut a o (fun q => ha (by simp [q])) e⟩ (by simpa using e'))
    · rw [if_neg h0] at ac1
      exact add_again ac1 (wpAny_pure (hq s1 _ p1 ⟨s1.heap, _, rfl, fun a o _ e => e⟩ (by simpa using ac1)))
  · have : rows.length ≠ 0 := fun h => hne (List.eq_nil_of_length_eq_zero h)
    simpa [this] using e

theorem stored_fresh {K : Type} [DecidableEq K] {kvs : List (K × Value)} {k : K} {v : Value} (h : k ∉ kvs.map (·.1)) : stored kvs k v = kvs ++ [(k, v)] := by
  unfold stored
  rw [if_neg]
  intro hh
  obtain ⟨x, hx, hk⟩ := List.any_eq_true.mp hh
  exact h (List.mem_map.mpr ⟨x, hx, by simpa using hk⟩)

noncomputable def TextsAre (kvs : List (Str × Value)) (l : List (Str × Str)) : Prop := kvs.map (·.1) = l.map (·.1) ∧ ∀ (i : Nat) (x : Str × Str), l[i]? = some x → ∃ t, kvs[i]? = some (x.1, Value.str x.2 t)
theorem TextsAre.snoc {kvs : List (Str × Value)} {l : List (Str × Str)} (h : TextsAre kvs l) (a b : Str) (t : Tok) : TextsAre (kvs ++ [(a, .str b t)]) (l ++ [(a, b)]) := by
  obtain ⟨h1, h2⟩ := h
  have hlen : kvs.length = l.length := by simpa using congrArg List.length h1
  refine ⟨by simp [h1], fun i x hx => ?_⟩
  rcases Nat.lt_trichotomy i l.length with q | q | q
  · rw [List.getElem?_append_left q] at hx
    obtain ⟨t, e⟩ := h2 i x hx
    exact ⟨t, by rw [List.getElem?_append_left (hlen ▸ q)]; exact e⟩
  · subst q
    simp at hx
    subst hx
    exact ⟨t, by rw [← hlen]; simp⟩
  · rw [List.getElem?_eq_none (by simp; omega)] at hx; cases hx

theorem dict_core {kx vx gt gi : Expr} {scope : Scope} {pos : Pos} {xs : List Str} {rows : List (List D)} {prs : List (Str × Str)} (hc : compSc c scope = some c') (hs : ∀ env x, foldedSetIterable gi env x = pure x)
    (hit : IterOk b k c σ gi gt xs rows) (hxs : xs.all (storable c') = true) (hnf : ∀ n ∈ xs, n ∉ freeOf scope)
    (hr : ∀ (i : Nat) (row : List D), rows[i]? = some row → ∃ a v, prs[i]? = some (a, v) ∧ EvOk b k c' (putAll xs row (without xs (freeNames scope σ))) kx (.str a) ∧ EvOk b k c' (putAll xs row (without xs (freeNames scope σ))) vx (.str v)) (hlen : prs.length = rows.length) (hnd : (prs.map (·.1)).Nodup) (hroom : prs.length ≤ room)
    {A : Around} {W : List Addr} {env : Env} {m cm : Str → Option Value} {s : Shared} {E : Value → Shared → Prop} {Q : Value → Shared → Prop} (x : In b A W k c σ env m cm s) (hsys : ∃ a o, sysModules < a ∧ s.heap.get? a = some o)
    (H : ∀ v s', Post A s s' → Rep (off W s'.heap) (.sdct prs) v → Q v s') :
    wpAny (model b.prog b.w) A (eval (.DictComp kx vx [⟨gt, gi, [], 0⟩] scope pos) env) Q E s := by
  rw [arm_eval_DictComp]
  refine one_core (o0 := { cls := .type "dict", data := .dict #[] }) (Ac := fun Dd i h => ∃ kvs, h.DictOf (strKind b.prog b.w) Dd kvs ∧ TextsAre kvs (prs.take i)) one_dict hc hs hit hxs hnf (fun s E Q h => wpAny_newObj_type h) rfl (fun Dd h e => ⟨[], ?_, by simp [TextsAre]⟩) (fun Dd => ?_) x fun Dd s' p hd hDW hlt ⟨kvs, e, ht⟩ => H (.ref Dd) s' p ?_
  · exact ⟨_, #[], 0, e, ⟨rfl, rfl, rfl⟩, rfl, fun e he => by simp at he, .nil, by simp⟩
  · refine ⟨fun i h h' ⟨kvs, e, ht⟩ hk => ⟨kvs, e.at hk, ht⟩, fun i h ⟨kvs, ⟨o, _, _, e, _⟩, _⟩ => ⟨o, e⟩, fun i row hi W env m cm s E' Q x hf hD hDf hDh ⟨kvs, ac, ht⟩ hq => ?_⟩
    obtain ⟨a, v, hp, hk, hv⟩ := hr i row hi
    unfold emD
    refine wpAny_bind (hk A W env m cm s E' _ x fun u1 s1 p1 r1 => ?_)
    obtain ⟨t1, rfl⟩ := r1
    refine wpAny_bind (wpAny_holding (hv A W env m cm s1 E' _ (x.post p1) fun u2 s2 p2 r2 => ?_))
    obtain ⟨t2, rfl⟩ := r2
    refine wpAny_bind (wpAny_standAt (wpAny_holding ?_))
    have ac2 := ac.at fun o e => p2.here hDf (p1.here hDf e)
    have hi' : i < prs.length := (List.getElem?_eq_some_iff.mp hp).1
    have hkl : kvs.length ≤ sizeLine := by
      have e1 := congrArg List.length ht.1
      simp only [List.length_map, List.length_take] at e1
      exact room_line (by omega)
    refine wpAny_dictSet_pairs (hsz := hkl) (strKind_is b.prog b.w a t1) ac2 fun h' hl' hs' => hq s2 _ (p1.trans p2) ⟨h', _, rfl, fun a o ha e => hs'.extBut a o (fun q => ha (by simp [q])) e⟩ ⟨_, hl', ?_⟩
    have hfresh : a ∉ kvs.map (·.1) := by
      rw [ht.1]
      intro hin
      rw [List.map_take] at hin
      obtain ⟨j, hj, e⟩ := List.mem_take_iff_getElem.mp hin
      have e1 : (prs.map (·.1))[i]? = some a := by rw [List.getElem?_map, hp]; rfl
      have hj' : j < i := by omega
      have e2 : (prs.map (·.1))[j]? = some a := by rw [List.getElem?_eq_getElem (by omega), e]
      have := (List.getElem?_inj (by simpa using hi') hnd).mp (e1.trans e2.symm)
      omega
    rw [stored_fresh hfresh]
    have e3 : prs.take (i + 1) = prs.take i ++ [(a, v)] := by rw [List.take_add_one, hp]; rfl
    rw [e3]
    exact ht.snoc a v t2
  · refine ⟨Dd, rfl, ?_, ?_⟩
    · obtain ⟨a, o, h1, h2⟩ := hsys
      refine beq_eq_false_iff_ne.mpr fun q => ?_
      have h3 := hlt a o h2
      rw [q] at h3
      exact Nat.lt_irrefl _ (Nat.lt_trans h1 h3)
    obtain ⟨o, ho, hdo⟩ := Heap.dictOf_iff.mp e
    have e4 : prs.take rows.length = prs := by rw [← hlen]; exact List.take_length
    rw [e4] at ht
    exact ⟨o, kvs, off_some.mpr ⟨hDW, ho⟩, ⟨b.prog, b.w, hdo⟩, ht.1, ht.2⟩

noncomputable def clauseW (T : Tab) (n : Nat) (c : Sc) (σ : Names) (gt gi : Expr) (scope : Scope) : Option (Sc × (List Str × List (List D)) × Names) :=
  (compSc c scope).bind fun c' => if foldOk gi then (iterW (ev T n) c σ gi gt).bind fun q => if q.1.all (storable c') && q.1.all (fun n => !(freeOf scope).contains n) then some (c', q, without q.1 (freeNames scope σ)) else none else none
structure ClauseIs (b : Base) (k : Nat) (c : Sc) (σ : Names) (gt gi : Expr) (scope : Scope) (r : Sc × (List Str × List (List D)) × Names) : Prop where
  sc : compSc c scope = some r.1
  fold : foldOk gi = true
  iter : IterOk b k c σ gi gt r.2.1.1 r.2.1.2
  stor : r.2.1.1.all (storable r.1) = true
  free : ∀ n ∈ r.2.1.1, n ∉ freeOf scope
  names : r.2.2 = without r.2.1.1 (freeNames scope σ)
theorem clauseW_is (hT : TabOk b k T) {gt gi : Expr} {scope : Scope} : Ret (clauseW T n c σ gt gi scope) (ClauseIs b k c σ gt gi scope) :=
  .bind fun _ h0 => .ite fun hf => .bind fun q hi => .ite fun hc => .some ⟨h0, hf, (iterW_ok hT (fun e d h => ev_ok hT n c _ e d h) q hi).2, (and_t hc).1, fun n hn => by simpa using List.all_eq_true.mp (and_t hc).2 n hn, rfl⟩
noncomputable def setcW (T : Tab) (n : Nat) (c : Sc) (σ : Names) (elt gt gi : Expr) (scope : Scope) : Option Bool :=
  (clauseW T n c σ gt gi scope).bind fun r => r.2.1.2.head?.bind fun row => ((ev T n r.1 (putAll r.2.1.1 row r.2.2) elt).bind asBool).bind fun z => if allB (fun σ => ev T n r.1 σ elt) z r.2.1.1 r.2.2 r.2.1.2 then some z else none
noncomputable def dictcW (T : Tab) (n : Nat) (c : Sc) (σ : Names) (kx vx gt gi : Expr) (scope : Scope) : Option (List (Str × Str)) :=
  (clauseW T n c σ gt gi scope).bind fun r => (pairsW (fun σ => ev T n r.1 σ kx) (fun σ => ev T n r.1 σ vx) r.2.1.1 r.2.2 r.2.1.2).bind fun prs => if decide (prs.map (·.1)).Nodup && decide (prs.length ≤ room) then some prs else none

theorem InO.freezeAll {A : Around} {W : List Addr} {O : List Addr} {ad : Str → Addr} {env : Env} {m cm : Str → Option Value} {s : Shared} (i : InO b A W k c σ ω O ad env m cm s) : ∃ O', InO b A W k c (reveal ω ++ σ) [] O' ad env m cm s ∧ ∀ a ∈ O', a ∈ O := by
  have e1 : (ω.filter fun e => true) = ω := by simp
  have e2 : (ω.filter fun e => !true) = [] := by simp
  have f := i.freeze (fun _ => true)
  rwa [e1, e2] at f
theorem ex_assign_setcomp {x : Str} {px : Pos} {w : Nat} {pt p vp : Pos} {elt gt gi : Expr} {scope : Scope} {z : Bool} (hT : TabOk b k T) (hx : storable c x = true) (h1 : setcW T n c (reveal ω ++ σ) elt gt gi scope = some z) :
    ExOk b k c σ ω (exec (.Assign [.Tuple [.Name x px] w pt] (.SetComp elt [⟨gt, gi, [], 0⟩] scope vp) p)) .next ((x, .bool z) :: (reveal ω ++ σ)) [] := fun A W O ad env m cm s E Q i h => by
  obtain ⟨r, hr, h1⟩ := Option.bind_eq_some_iff.mp h1
  obtain ⟨row, hrow, h1⟩ := Option.bind_eq_some_iff.mp h1
  obtain ⟨z', hz, h1⟩ := Option.bind_eq_some_iff.mp h1
  have ci := clauseW_is hT r hr
  obtain ⟨hall, rfl⟩ := (show Ret (if allB (fun σ => ev T n r.1 σ elt) z' r.2.1.1 r.2.2 r.2.1.2 then some z' else none) (fun z => allB (fun σ => ev T n r.1 σ elt) z' r.2.1.1 r.2.2 r.2.1.2 = true ∧ z' = z) from .ite fun h => .some ⟨h, rfl⟩) z h1
  obtain ⟨O', i', hs⟩ := i.freezeAll
  rw [ci.names] at hall
  refine wpAny_Assign_stores (set_core ci.sc (foldOk_ok ci.fold) ci.iter ci.stor ci.free (fun i row hi => ev_ok hT n r.1 _ elt _ (allB_at hall row (List.mem_of_getElem? hi))) (fun h => by rw [h] at hrow; cases hrow) i'.inn fun Dd s1 p1 hD => ?_) (by rfl) (by rfl)
  show wpAny _ A (assign (.Tuple [.Name x px] w pt) env (.ref Dd)) _ E s1
  rw [arm_assign_Tuple]
  refine wpAny_bind (wpAny_standAt ?_)
  refine unpack_set (t := (false, assign (.Name x px) env)) i.inn.ok.handled hD rfl fun h' hk => ?_
  have p2 : Post A s1 { s1 with heap := h' } := Post.of_keeps (tk := s1.toks) fun a o e => hk a o (Nat.ne_of_lt (Heap.lt_size e)) e
  have i2 := (i'.post p1).post p2
  refine inOrder_names [.Name x px] [x] _ _ rfl (storeAll_o [x] [.bool z'] [.bool z'] _ _ m cm _ i2 (by rw [List.all_cons, hx]; rfl) ⟨_, [], rfl, rfl, rfl⟩ (fun s3 m3 cm3 k3 i3 => ?_) rfl)
  exact h .next O' ad m3 cm3 s3 i3 ((Mv.of_post (p1.trans p2) hs).trans (touch_hid_O k3) i2.hidLive) rfl

theorem swapsS_dict {kx vx : Expr} {gens : List Comprehension} {scope : Scope} {vp p : Pos} {x : Str} {l : Nat} {env : Env} (f : Fit c env) : swapsWith (.DictComp kx vx gens scope vp) (some (.Name x p)) l env = pure (swapsS c scope x p vp) :=
  swapsS_eq (elt := kx) (gens := gens) (l := l) f

theorem ex_assign_dictcomp {x : Str} {px p vp : Pos} {kx vx gt gi : Expr} {scope : Scope} {prs : List (Str × Str)} (hT : TabOk b k T) (hx : storable c x = true) (hsw : swapsS c scope x px vp = false) (h1 : dictcW T n c (reveal ω ++ σ) kx vx gt gi scope = some prs) :
    ExOk b k c σ ω (exec (.Assign [.Name x px] (.DictComp kx vx [⟨gt, gi, [], 0⟩] scope vp) p)) .next ((x, .sdct prs) :: (reveal ω ++ σ)) [] := fun A W O ad env m cm s E Q i h => by
  obtain ⟨r, hr, h1⟩ := Option.bind_eq_some_iff.mp h1
  obtain ⟨prs', hp, h1⟩ := Option.bind_eq_some_iff.mp h1
  have ci := clauseW_is hT r hr
  obtain ⟨hnd, rfl⟩ := (show Ret (if decide (prs'.map (·.1)).Nodup && decide (prs'.length ≤ room) then some prs' else none) (fun z => ((prs'.map (·.1)).Nodup ∧ prs'.length ≤ room) ∧ prs' = z) from .ite fun h => .some ⟨⟨of_decide_eq_true (and_t h).1, of_decide_eq_true (and_t h).2⟩, rfl⟩) prs h1
  obtain ⟨n1, hat⟩ := pairsW_at prs' hp
  obtain ⟨O', i', hs⟩ := i.freezeAll
  rw [ci.names] at hat
  refine wpAny_Assign_Name (hs := hsw ▸ swapsS_dict i.inn.fit) (dict_core (prs := prs') ci.sc (foldOk_ok ci.fold) ci.iter ci.stor ci.free (fun i row hi => ?_) n1 hnd.1 hnd.2 i'.inn ?_ fun v s1 p1 r => ?_)
  · obtain ⟨a, v, g1, g2, g3⟩ := hat i row hi
    exact ⟨a, v, g1, ev_ok hT n _ _ kx _ g2, ev_ok hT n _ _ vx _ g3⟩
  · obtain ⟨a, o, h1, ho⟩ := hT.sys
    exact ⟨a, o, h1, i.inn.ok.inv _ _ ho⟩
  · have i1 := i'.post p1
    exact store_o i1 hx r fun s2 m2 cm2 k2 i2 => h .next O' ad m2 cm2 s2 i2 ((Mv.of_post p1 hs).trans (touch_hid_O k2) i1.hidLive) rfl
end
end Mine
end
section
namespace Mine

noncomputable abbrev Res := Option (Fl × Names × Own)
noncomputable abbrev Blk := List Stmt → Names → Own → Res

noncomputable def forW (body orelse : Names → Own → Res) (xs : List Str) : List (List D) → Names → Own → Res
  | [], σ, ω => orelse σ ω
  | r :: rs, σ, ω => if r.length == xs.length then (body (putAll xs r σ) (ω.filter fun e => !xs.contains e.1)).bind fun q => match q.1 with
      | .next => forW body orelse xs rs q.2.1 q.2.2
      | .cont => forW body orelse xs rs q.2.1 q.2.2
      | .brk => some (.next, q.2.1, q.2.2)
      | .ret d => some (.ret d, q.2.1, q.2.2)
    else none

noncomputable def gen? (gs : List Comprehension) : Option (Expr × Expr) := (one? gs).bind fun g => if g.ifs.isEmpty && g.is_async == 0 then some (g.target, g.iter) else none
theorem gen_eq {gs : List Comprehension} : Ret (gen? gs) fun q => gs = [⟨q.1, q.2, [], 0⟩] := .bind fun g hg => .ite fun hc => .some (by
  obtain ⟨a, b, c, d⟩ := g
  rw [one_eq _ hg, ← List.isEmpty_iff.mp (and_t hc).1, ← beq_iff_eq.mp (and_t hc).2])
noncomputable def dict? : Expr → Option (Expr × Expr × (Scope × Pos) × Expr × Expr)
  | .DictComp kx vx gs scope p => (gen? gs).map fun q => (kx, vx, (scope, p), q)
  | _ => none
theorem dict_eq {v : Expr} : Ret (dict? v) fun q => v = .DictComp q.1 q.2.1 [⟨q.2.2.2.1, q.2.2.2.2, [], 0⟩] q.2.2.1.1 q.2.2.1.2 := by
  cases v with
  | DictComp kx vx gs scope p => exact .map fun q hq => by rw [gen_eq q hq]
  | _ => exact .none
noncomputable def set? (es : List Expr) : Expr → Option (Str × Expr × Scope × Expr × Expr)
  | .SetComp elt gs scope _ => ((one? es).bind nameOf?).bind fun x => (gen? gs).map fun q => (x, elt, scope, q)
  | _ => none
theorem set_eq {es : List Expr} {v : Expr} : Ret (set? es v) fun q => ∃ p p', es = [.Name q.1 p] ∧ v = .SetComp q.2.1 [⟨q.2.2.2.1, q.2.2.2.2, [], 0⟩] q.2.2.1 p' := by
  cases v with
  | SetComp elt gs scope p' =>
    refine .bind fun x hx => .map fun q hq => ?_
    obtain ⟨e, h1, h2⟩ := Option.bind_eq_some_iff.mp hx
    obtain ⟨p, rfl⟩ := nameOf_eq _ h2
    exact ⟨p, p', one_eq _ h1, by rw [gen_eq q hq]⟩
  | _ => exact .none
noncomputable def app? (v : Expr) : Option (Str × Expr × Pos × Pos) := (callF? v).bind fun q => (attrOf? q.1).bind fun a => (nameOf? a.1).bind fun x => (one? q.2.1).bind fun e => if a.2.1 == ("append" : Str) then some (x, e, a.2.2, q.2.2) else none
theorem app_eq {v : Expr} : Ret (app? v) fun q => ∃ px, v = .Call (.Attribute (.Name q.1 px) ("append" : Str) q.2.2.1) [q.2.1] [] q.2.2.2 := .bind fun q hq => .bind fun a ha => .bind fun x hx => .bind fun e he => .ite fun hc => .some (by
  obtain ⟨px, hp⟩ := nameOf_eq _ hx
  exact ⟨px, by rw [callF_eq _ hq, attrOf_eq _ ha, hp, one_eq _ he, beq_iff_eq.mp hc]⟩)

noncomputable def bare (x : Str) (ω : Own) : Own := ω.filter fun e => !(e.1 == x)
noncomputable def setV (T : Tab) (n : Nat) (c : Sc) (x : Str) (σ : Names) (ω : Own) (v : Expr) : Res :=
  (listOf? v).elim (if (comp? v).isSome then (exC T n c σ ω v).map fun q => (.next, (x, .list q.1) :: q.2.1, bare x q.2.2)
    else if noComp v then (exE T n c σ ω v).map fun q => (.next, (x, q.1) :: q.2.1, bare x q.2.2) else none)
    fun es => (exL T n c σ ω es).map fun ds => (.next, σ.filter fun e => !(e.1 == x), (x, true, ds) :: bare x ω)
noncomputable def setW (T : Tab) (n : Nat) (c : Sc) (x : Str) (px : Pos) (v : Expr) (σ : Names) (ω : Own) : Res :=
  if storable c x then (dict? v).elim (setV T n c x σ ω v) fun q => if swapsS c q.2.2.1.1 x px q.2.2.1.2 then none else (dictcW T n c (reveal ω ++ σ) q.1 q.2.1 q.2.2.2.1 q.2.2.2.2 q.2.2.1.1).map fun prs => (.next, (x, .sdct prs) :: (reveal ω ++ σ), []) else none
noncomputable def augW (T : Tab) (n : Nat) (c : Sc) (x : Str) (op : Operator) (v : Expr) (σ : Names) (ω : Own) : Res :=
  if !noLoad x && storable c x then (ω.lookup x).elim
      ((σ.lookup x).bind fun a => (ev T n c (reveal ω ++ σ) v).bind fun q => (inD op a q).bind fun r => if a.flat && (q.flat && r.flat) then some (.next, (x, r) :: σ, bare x ω) else none)
      fun o => (listOf? v).bind fun es => if op = .Add ∧ o.1 = true then (exL T n c σ ω es).bind fun q => if o.2.length + q.length ≤ room then some (.next, σ.filter fun e => !(e.1 == x), (x, true, o.2 ++ q) :: bare x ω) else none else none
  else none
noncomputable def augItemW (T : Tab) (n : Nat) (c : Sc) (x y : Str) (py : Pos) (op : Operator) (v : Expr) (σ : Names) (ω : Own) : Res :=
  if noLoad x then none else (ω.lookup x).bind fun o => (exInt T n c σ ω (.Name y py)).bind fun z => (exInt T n c σ ω v).bind fun q => ((o.2[z.toNat]?).bind asInt).bind fun a => ((inD op (.int a) (.int q)).bind asInt).bind fun r =>
    if 0 ≤ z ∧ o.2.length ≤ room then some (.next, σ, (x, false, o.2.set z.toNat (.int r)) :: bare x ω) else none
noncomputable def appendW (T : Tab) (n : Nat) (c : Sc) (x : Str) (e : Expr) (ap p : Pos) (σ : Names) (ω : Own) : Res :=
  if !noLoad x && (ap.endLine == p.line && !isStar e) then (ω.lookup x).bind fun o => (exE T n c σ ω e).bind fun q => (q.2.2.lookup x).bind fun o' => if o.1 = true ∧ o'.1 = true ∧ o.2.length < room then some (.next, q.2.1, (x, true, o.2 ++ [q.1]) :: bare x q.2.2) else none
  else none
noncomputable def setOneW (T : Tab) (n : Nat) (c : Sc) (x : Str) (elt gt gi : Expr) (scope : Scope) (σ : Names) (ω : Own) : Res :=
  if storable c x then (setcW T n c (reveal ω ++ σ) elt gt gi scope).map fun z => (.next, (x, .bool z) :: (reveal ω ++ σ), []) else none
noncomputable def asgW (T : Tab) (n : Nat) (c : Sc) (σ : Names) (ω : Own) (v t : Expr) : Res :=
  (namePos? t).elim (((tupOf? t).bind fun es => (set? es v).bind fun q => setOneW T n c q.1 q.2.1 q.2.2.2.1 q.2.2.2.2 q.2.2.1 σ ω)) fun q => setW T n c q.1 q.2 v σ ω
noncomputable def augAll (T : Tab) (n : Nat) (c : Sc) (σ : Names) (ω : Own) (op : Operator) (v t : Expr) : Res :=
  (nameOf? t).elim ((subOf? t).bind fun q => (nameOf? q.1).bind fun x => (namePos? q.2).bind fun y => augItemW T n c x y.1 y.2 op v σ ω) fun x => augW T n c x op v σ ω
noncomputable def onward (k : Names → Own → Res) (q : Fl × Names × Own) : Res := match q.1 with
  | .next => k q.2.1 q.2.2
  | _ => some q

noncomputable def exStep (T : Tab) (n : Nat) (c : Sc) (rec : Blk) (σ : Names) (ω : Own) (s : Stmt) : Res := match s with
  | .Assign ts v _ => (one? ts).bind (asgW T n c σ ω v)
  | .AugAssign t op v _ => augAll T n c σ ω op v t
  | .If t b1 b2 _ => (exT T n c σ ω t).bind fun z => rec (if z then b1 else b2) σ ω
  | .For tgt it body orelse _ => if foldOk it then (exI T n c σ ω it tgt).bind fun q => if q.1.1.all (storable c) then forW (rec body) (rec orelse) q.1.1 q.1.2 q.2.1 q.2.2 else none else none
  | .Return e _ => e.bind fun e => (exE T n c σ ω e).map fun q => (.ret q.1, q.2.1, q.2.2)
  | .Expr e _ => (app? e).bind fun q => appendW T n c q.1 q.2.1 q.2.2.1 q.2.2.2 σ ω
  | .Try body hs orelse fin _ => if !hs.isEmpty && fin.isEmpty then (rec body σ ω).bind (onward (rec orelse)) else none
  | .Pass _ => some (.next, σ, ω)
  | .Break _ => some (.brk, σ, ω)
  | _ => none

noncomputable def exS (T : Tab) (n : Nat) (c : Sc) : Nat → Blk
  | 0 => fun _ _ _ => none
  | j + 1 => fun st σ ω => match st with
    | [] => some (.next, σ, ω)
    | s :: rest => (exStep T n c (exS T n c j) σ ω s).bind (onward (exS T n c j rest))

theorem intSm {o : Option D} : Ret (o.bind asInt) fun a => o = some (.int a) := .bind fun d h a e => by rw [h, asInt_eq a e]
section
variable {b : Base} {k : Nat} {c : Sc} {T : Tab} {n : Nat}

theorem forW_ok {body orelse : List Stmt} {rec : Blk} {xs : List Str} (hr : ∀ st σ ω q, rec st σ ω = some q → ExOk b k c σ ω (execs st) q.1 q.2.1 q.2.2) : ∀ (rows : List (List D)) (σ : Names) (ω : Own) (q : Fl × Names × Own), forW (rec body) (rec orelse) xs rows σ ω = some q → ForOk b k c body orelse xs rows σ ω q.1 q.2.1 q.2.2 := by
  intro rows
  induction rows with
  | nil => intro σ ω q h; exact hr _ _ _ _ h
  | cons r rs ih =>
    intro σ ω q h
    unfold forW at h
    split at h
    · rename_i hl
      cases h1 : rec body (putAll xs r σ) (ω.filter fun e => !xs.contains e.1) with
      | none => rw [h1] at h; cases h
      | some q1 =>
        obtain ⟨f1, σ1, ω1⟩ := q1
        rw [h1] at h
        simp only [Option.bind_some] at h
        refine ⟨by simpa using hl, f1, σ1, ω1, hr _ _ _ _ h1, ?_⟩
        cases f1 with
        | next => exact ih _ _ _ h
        | cont => exact ih _ _ _ h
        | brk => cases h; exact ⟨rfl, rfl, rfl⟩
        | ret d => cases h; exact ⟨rfl, rfl, rfl⟩
    · cases h

theorem exE_lookup {σ : Names} {ω : Own} {e : Expr} {x : Str} {z : Bool × List D} : Ret (exE T n c σ ω e) fun q => q.2.2.lookup x = some z → ω.lookup x = some z :=
  .fork (fun _ => .map fun _ _ h => h) fun _ => .bind fun _ _ => .fork (fun _ => .some fun h => h) fun _ => .map fun _ _ h => by
    have h : (ω.filter fun x => !ment fuelM x.1 e).lookup x = some z := h
    rw [lookup_filter (p := fun y => !ment fuelM y e)] at h
    split at h
    · exact h
    · cases h

noncomputable abbrev StOk (b : Base) (k : Nat) (c : Sc) (σ : Names) (ω : Own) (t : Env → Sem Flow) (q : Fl × Names × Own) : Prop := ExOk b k c σ ω t q.1 q.2.1 q.2.2
section
variable (hT : TabOk b k T) {σ : Names} {ω : Own} {x : Str} {px p : Pos} {v : Expr} {op : Operator}
include hT
theorem setV_ok (hs : storable c x = true) : Ret (setV T n c x σ ω v) (StOk b k c σ ω (exec (.Assign [.Name x px] v p))) :=
  .elim (fun es he => by
    obtain ⟨pl, rfl⟩ := listOf_eq es he
    exact .map fun ds h1 => ex_assign_list hT hs h1) (.fork (fun _ => .map fun q h1 => ex_assign_comp hT hs h1) fun _ => .ite fun hc => .map fun q h1 => ex_assign hT hs hc h1)
theorem setW_ok : Ret (setW T n c x px v σ ω) (StOk b k c σ ω (exec (.Assign [.Name x px] v p))) :=
  .ite fun hs => .elim (fun q hq => by
    rw [dict_eq q hq]
    exact .tie fun hsw => .map fun prs h1 => ex_assign_dictcomp hT hs (not_f hsw) h1) (setV_ok hT hs)
theorem augW_ok : Ret (augW T n c x op v σ ω) (StOk b k c σ ω (exec (.AugAssign (.Name x px) op v p))) :=
  .ite fun hc => .elim (fun o hx => by
    obtain ⟨pl, ds⟩ := o
    refine .bind fun es he => .ite fun ho => .bind fun q h1 => .ite fun hl => .some ?_
    obtain ⟨pe, rfl⟩ := listOf_eq es he
    obtain ⟨rfl, rfl⟩ := ho
    exact ex_extend hT (not_t (and_t hc).1) (and_t hc).2 hx h1 hl)
    (.bind fun a h1 => .bind fun q h2 => .bind fun r h3 => .ite fun hf => .some (ex_augname hT (not_t (and_t hc).1) (and_t hc).2 (and_t hf).1 h1 h2 (and_t (and_t hf).2).1 h3 (and_t (and_t hf).2).2))
theorem augItemW_ok {y : Str} {py ps : Pos} : Ret (augItemW T n c x y py op v σ ω) (StOk b k c σ ω (exec (.AugAssign (.Subscript (.Name x px) (.Name y py) ps) op v p))) :=
  .tie fun hn => .bind fun o hx => .bind fun z h1 => .bind fun q h2 => .bind fun a ha => .bind fun r hr => .ite fun hz => .some (ex_augitem hT (not_f hn) hx h1 hz.1 (intSm a ha) hz.2 h2 (intSm r hr))
theorem appendW_ok {e : Expr} {ap pc : Pos} : Ret (appendW T n c x e ap pc σ ω) (StOk b k c σ ω (exec (.Expr (.Call (.Attribute (.Name x px) ("append" : Str) ap) [e] [] pc) p))) :=
  .ite fun hc => .bind fun o hx => .bind fun q h1 => .bind fun o' hx' => .ite fun hz => .some (by
    have hx2 := exE_lookup q h1 hx'
    rw [hx] at hx2
    cases hx2
    obtain ⟨pl, ds⟩ := o
    cases hz.1
    exact ex_append hT (not_t (and_t hc).1) (and_t (and_t hc).2).1 (not_t (and_t (and_t hc).2).2) hx hz.2.2 h1 hx')
theorem asgW_ok {t : Expr} : Ret (asgW T n c σ ω v t) (StOk b k c σ ω (exec (.Assign [t] v p))) := .elim (fun q hq => by
  rw [namePos_eq q hq]
  exact setW_ok hT) (.bind fun es he => by
  obtain ⟨w, pt, rfl⟩ := tupOf_eq es he
  refine .bind fun q hq => ?_
  obtain ⟨p1, p2, rfl, rfl⟩ := set_eq q hq
  exact .ite fun hs => .map fun z h1 => ex_assign_setcomp hT hs h1)
theorem augAll_ok {t : Expr} : Ret (augAll T n c σ ω op v t) (StOk b k c σ ω (exec (.AugAssign t op v p))) := .elim (fun x hx => by
  obtain ⟨px, rfl⟩ := nameOf_eq x hx
  exact augW_ok hT) (.bind fun q hq => .bind fun x hx => .bind fun y hy => by
  obtain ⟨ps, rfl⟩ := subOf_eq q hq
  obtain ⟨px, hp⟩ := nameOf_eq x hx
  rw [hp, namePos_eq y hy]
  exact augItemW_ok hT)
theorem exStep_ok {rec : Blk} (hr : ∀ st σ ω, Ret (rec st σ ω) (StOk b k c σ ω (execs st))) (s : Stmt) (σ : Names) (ω : Own) : Ret (exStep T n c rec σ ω s) (StOk b k c σ ω (exec s)) := by
  cases s with
  | Assign ts v p =>
    refine .bind fun t ht => ?_
    rw [one_eq t ht]
    exact asgW_ok hT
  | AugAssign t op v p => exact augAll_ok hT
  | If t b1 b2 p => exact .bind fun z h1 q h => ex_if hT h1 (hr _ _ _ _ h)
  | For tgt it body orelse p => exact .ite fun hf => .bind fun r h1 => .ite fun hs q h => ex_for hT hf h1 hs (forW_ok hr _ _ _ _ h)
  | Return e p => cases e with
    | none => exact .none
    | some e => exact Ret.map (o := exE T n c σ ω e) fun q h1 => ex_return hT h1
  | Expr e p =>
    refine .bind fun q hq => ?_
    obtain ⟨px, rfl⟩ := app_eq q hq
    exact appendW_ok hT
  | Try body hs orelse fin p =>
    refine .ite fun hc => .bind fun r h1 => ?_
    rw [List.isEmpty_iff.mp (and_t hc).2]
    have h2 := hr _ _ _ _ h1
    cases hs with
    | nil => cases (and_t hc).1
    | cons h₀ hs =>
      obtain ⟨f1, σ1, ω1⟩ := r
      cases f1 with
      | next => exact fun q h => ex_try h2 (.inl ⟨rfl, hr _ _ _ _ h⟩)
      | _ => exact .some (ex_try h2 (.inr ⟨(fun h => nomatch h), rfl, rfl, rfl⟩))
  | Pass p => exact .some ex_pass
  | Break p => exact .some ex_break
  | _ => exact .none
end

theorem exS_ok (hT : TabOk b k T) : ∀ (j : Nat) (st : List Stmt) (σ : Names) (ω : Own), Ret (exS T n c j st σ ω) (StOk b k c σ ω (execs st))
  | 0, _, _, _ => .none
  | _ + 1, [], _, _ => .some ex_nil
  | j + 1, s :: rest, σ, ω => .bind fun r h1 => by
    have s1 := exStep_ok hT (exS_ok hT j) s σ ω r h1
    obtain ⟨f, σ1, ω1⟩ := r
    cases f with
    | next => exact fun q h => ex_cons s1 (exS_ok hT j _ _ _ q h)
    | _ => exact .some (ex_stop (fun h => nomatch h) s1)
end
end Mine
end
section
namespace Mine

theorem putAll_from {x : Str} {d : D} : ∀ {ps : List Str} {ds : List D} {σ : Names}, (putAll ps ds σ).lookup x = some d → (∃ i : Nat, ps[i]? = some x ∧ ds[i]? = some d) ∨ σ.lookup x = some d
  | [], ds, σ, h => .inr (by cases ds <;> exact h)
  | p :: ps, [], σ, h => .inr h
  | p :: ps, e :: ds, σ, h => by
    rcases putAll_from (ps := ps) (ds := ds) (σ := (p, e) :: σ) h with ⟨i, h1, h2⟩ | h
    · exact .inl ⟨i + 1, by simpa using h1, by simpa using h2⟩
    · rw [lookup_put] at h
      by_cases hx : x = p
      · rw [if_pos hx] at h; cases h; exact .inl ⟨0, by simp [hx], rfl⟩
      · rw [if_neg hx] at h; exact .inr h

theorem bindL_other {kindOf : Str → Option NameKind} {x : Str} : ∀ {binds : List (Str × Value)} {m : Str → Option Value}, x ∉ binds.map (·.1) → bindL kindOf binds m x = m x
  | [], _, _ => rfl
  | (n, v) :: r, m, h => by
    simp only [List.map_cons, List.mem_cons, not_or] at h
    unfold bindL
    rw [bindL_other h.2]
    split
    · simp [h.1]
    · rfl
theorem bindC_other {kindOf : Str → Option NameKind} {x : Str} : ∀ {binds : List (Str × Value)} {m : Str → Option Value}, x ∉ binds.map (·.1) → bindC kindOf binds m x = m x
  | [], _, _ => rfl
  | (n, v) :: r, m, h => by
    simp only [List.map_cons, List.mem_cons, not_or] at h
    unfold bindC
    rw [bindC_other h.2]
    split
    · rfl
    · simp [h.1]
theorem bind_at {kindOf : Str → Option NameKind} {x : Str} {v : Value} : ∀ {binds : List (Str × Value)} {m cm : Str → Option Value}, (binds.map (·.1)).Nodup → (x, v) ∈ binds →
    (kindOf x = some .local → bindL kindOf binds m x = some v) ∧ (kindOf x ≠ some .local → bindC kindOf binds cm x = some v)
  | (n, u) :: r, m, cm, hn, hm => by
    simp only [List.map_cons, List.nodup_cons] at hn
    rcases List.mem_cons.mp hm with e | hm
    · cases e
      refine ⟨fun hk => ?_, fun hk => ?_⟩
      · unfold bindL; rw [bindL_other hn.1, if_pos hk]; simp
      · unfold bindC; rw [bindC_other hn.1, if_neg hk]; simp
    · exact ⟨fun hk => by unfold bindL; exact (bind_at (kindOf := kindOf) (cm := cm) hn.2 hm).1 hk, fun hk => by unfold bindC; exact (bind_at (kindOf := kindOf) (m := m) hn.2 hm).2 hk⟩

theorem lookup_nodup {α : Type} : ∀ {l : List (Str × α)} {n : Str} {c : α}, (l.map (·.1)).Nodup → (n, c) ∈ l → l.lookup n = some c
  | (k, v) :: r, n, c, hn, hm => by
    simp only [List.map_cons, List.nodup_cons] at hn
    rw [List.lookup_cons]
    rcases List.mem_cons.mp hm with e | hm
    · cases e; simp
    · have : n ≠ k := fun q => hn.1 (q ▸ List.mem_map.mpr ⟨(n, c), hm, rfl⟩)
      have hb : (n == k) = false := by simpa using this
      rw [hb]
      exact lookup_nodup hn.2 hm

noncomputable def scOf (scope : Scope) : Sc := ⟨scope, ownCells scope⟩
noncomputable def fnD (T : Tab) (n j : Nat) (scope : Scope) (ps : List Str) (body : List Stmt) : Fn := fun ds =>
  if ds.length == ps.length then (exS T n (scOf scope) j body (putAll ps ds []) []).bind fun q => match q.1 with
    | .ret d => some d
    | .next => some .none
    | _ => none
  else none

section
variable {b : Base} {k : Nat} {T : Tab} {n j : Nat}

noncomputable def BodyOk (b : Base) (k : Nat) (scope : Scope) (ps : List Str) (body : List Stmt) (F : Fn) : Prop :=
  ∀ ds d, F ds = some d → ds.length = ps.length ∧ ∃ fl σ' ω', ExOk b k (scOf scope) (putAll ps ds []) [] (execs body) fl σ' ω' ∧ (fl = .ret d ∨ (fl = .next ∧ d = .none))

theorem fnD_ok {scope : Scope} {ps : List Str} {body : List Stmt} (hT : TabOk b k T) : BodyOk b k scope ps body (fnD T n j scope ps body) := fun ds d h => by
  unfold fnD at h
  split at h
  · rename_i hl
    refine ⟨by simpa using hl, ?_⟩
    cases h1 : exS T n (scOf scope) j body (putAll ps ds []) [] with
    | none => rw [h1] at h; cases h
    | some q =>
      obtain ⟨f, σ', ω'⟩ := q
      rw [h1] at h
      simp only [Option.bind_some] at h
      refine ⟨f, σ', ω', exS_ok hT j body _ _ _ h1, ?_⟩
      cases f with
      | ret d' => cases h; exact .inl rfl
      | next => cases h; exact .inr ⟨rfl, rfl⟩
      | brk => cases h
      | cont => cases h
  · cases h

noncomputable def BindOk (fd : FuncData) (ps : List Str) (G : List D → Option (List D)) : Prop :=
  ∀ (M : Model) (A : Around) (W : List Addr) (s : Shared) (ds ds' : List D) (vs : List Value) (E : Value → Shared → Prop) (Q : List (Str × Value) → Shared → Prop), G ds = some ds' → s.heap.objs.size ∉ W → Reps (off W s.heap) ds vs →
    (∀ vs' s1, (∃ h' tk, s1 = { s with heap := h', toks := tk } ∧ ∀ b o, s.heap.get? b = some o → h'.get? b = some o) → Reps (off W s1.heap) ds' vs' → vs'.length = ps.length → Q (ps.zip vs') s1) → wpAny M A (bindArgs fd ⟨vs, []⟩) Q E s
theorem BindOk.plain {fd : FuncData} {ps : List Str} (hbind : ∀ vals : List Value, vals.length = ps.length → bindArgs fd ⟨vals, []⟩ = pure (ps.zip vals)) : BindOk fd ps fun ds => if ds.length = ps.length then some ds else none :=
  fun M A W s ds ds' vs E Q hG hf r h => by
    dsimp only at hG
    split at hG
    · rename_i hl
      cases hG
      have nl := r.length
      rw [hbind vs (by omega)]
      exact wpAny_pure (h vs s ⟨s.heap, s.toks, rfl, fun _ _ e => e⟩ r (by omega))
    · cases hG
theorem BindOk.star {fd : FuncData} {ps : List Str} {n m : Nat} (hps : ps.length = n + 1) (hm : n ≤ m) (hr : m ≤ room) (hbind : ∀ vals : List Value, vals.length = m → bindArgs fd ⟨vals, []⟩ = (newTuple (vals.drop n) >>= fun t => pure (ps.zip (vals.take n ++ [t])))) :
    BindOk fd ps fun ds => if ds.length = m then some (ds.take n ++ [.tup (ds.drop n)]) else none := fun M A W s ds ds' vs E Q hG hf r h => by
  dsimp only at hG
  split at hG
  · rename_i hl
    cases hG
    have nl := r.length
    rw [hbind vs (by omega)]
    refine wpAny_bind (wpAny_newObj_type (wpAny_pure (h _ _ ⟨_, _, rfl, fun b o e => Heap.get?_push_of_some _ e⟩ ?_ (by simp [hps]; omega))) (by unfold room at hr; have hc : 65536 ≤ sizeLine := (by decide); show sizeOk (Data.seq _); simp [sizeOk]; omega))
    have up : (off W s.heap).le (off W (s.heap.push { cls := .type "tuple", data := .seq (vs.drop n).toArray })) := off_all fun b o e => Heap.get?_push_of_some _ e
    exact ((r.take n).mono up).snoc ⟨_, _, rfl, ⟨_, _, off_some.mpr ⟨hf, Heap.get?_push_size _ rfl⟩, rfl, rfl, rfl⟩, (r.drop n).mono up⟩
  · cases hG

theorem CallOk.of {f : Value} {F F' : Fn} (x : CallOk b f k F') (h : ∀ ds d, F ds = some d → F' ds = some d) : CallOk b f k F :=
  fun A W s ds vs d E Q hF => x A W s ds vs d E Q (h ds d hF)

theorem call_fn_gen {f : Addr} {o : Obj} {fd : FuncData} {body : List Stmt} {ps : List Str} {F : Fn} {G : List D → Option (List D)} (ho : b.h₀.get? f = some o) (hd : o.data = .func fd) (hlim : b.h₀.NoLimit) (hcd : b.h₀.CodeRec fd.code fd.qualname) (hbody : fd.body = .stmts body) (hclo : fd.closure = []) (hg : fd.globals = mainGlobals) (hbl : fd.builtins = builtinsNs)
    (hk : fd.scope.kind = .function) (hco : fd.scope.isCoroutine = false) (hgen : fd.scope.isGenerator = false) (hbind : BindOk fd ps G) (hps : ps.all (storable (scOf fd.scope)) = true) (hnd : ps.Nodup) (hcn : (ownCells fd.scope).Nodup)
    (hB : BodyOk b k fd.scope ps body F) : CallOk b (.ref f) (k + 1) fun ds => (G ds).bind F := fun A W s00 ds0 vs0 d E Q hGF ok00 r00 h00 => by
  dsimp only at hGF
  cases hG : G ds0 with
  | none => rw [hG] at hGF; cases hGF
  | some ds =>
  rw [hG] at hGF
  have hF : F ds = some d := hGF
  refine wpAny_call (codeAny_call_function ok00.limit (ok00.inv f o ho) hd hco hgen hbody (hcd.keeps ok00.inv) (hbind _ _ W s00 ds0 ds vs0 _ _ hG ok00.fresh r00 fun vs s hp r hvl => ?_))
  obtain ⟨hA, tA, hse, hkeepA⟩ := hp
  have p00 : Post A s00 s := by rw [hse]; exact Post.of_keeps hkeepA
  have ok := ok00.post p00
  have h : ∀ v s', Post A s s' → Rep (off W s'.heap) d v → Q v s' := fun v s' p => h00 v s' (p00.trans p)
  obtain ⟨hl, fl, σ', ω', hex, hfl⟩ := hB ds d hF
  have nl := r.length
  have hzip : (ps.zip vs).map (·.1) = ps := by rw [List.map_fst_zip]; omega
  rw [hclo]
  refine wpAny_newFunctionEnv_cells hk (fun x hx => ?_) fun env he s1 xc => ?_
  · have hx1 : x.1 ∈ ps := by rw [← hzip]; exact List.mem_map.mpr ⟨x, hx, rfl⟩
    have hst := List.all_eq_true.mp hps x.1 hx1
    unfold storable at hst
    rw [Bool.or_eq_true, Bool.and_eq_true, beq_iff_eq, beq_iff_eq] at hst
    rcases hst with hst | ⟨h1, h2⟩
    · exact .inl hst
    · refine .inr ⟨h1, lookup_of_mem ?_⟩
      rw [cellsFrom_names]
      simpa [scOf, ownCells] using h2
  · refine ⟨(hlim.keeps ok.inv).keeps xc.toInCall.keep, codeAny_func ?_⟩
    have henv := he.symm
    clear he
    have hloc : env.locals = s.heap.objs.size := by rw [← henv]; rfl
    have hcells : env.cells = cellsFrom (s.heap.objs.size + 1) fd.scope.names [] := by rw [← henv]; rfl
    have hscope : env.scope = fd.scope := by rw [← henv]; rfl
    have hframe : env.frame = some env.locals := by rw [← henv]; rfl
    obtain ⟨h1, t1, rfl, hkeep⟩ := xc.done
    have dead : ∀ a ∈ hid env, s.heap.get? a = none := fun a ha => by
      rcases List.mem_cons.mp ha with rfl | ha
      · rw [hloc]; exact none_at_size _
      · obtain ⟨⟨nm, c⟩, hm, rfl⟩ := List.mem_map.mp ha
        have := xc.above nm c hm
        rw [hloc] at this
        exact none_above _ (Nat.le_of_lt this)
    have ine : InE env (bindL env.kindOf (ps.zip vs) fun _ => none) (bindC env.kindOf (ps.zip vs) fun _ => none) h1 := ⟨xc.toInCall.ns, xc.cell, xc.apart⟩
    have live : ∀ a ∈ hid env, ∃ ob, h1.get? a = some ob ∧ ∀ zs, ob.data ≠ .fields zs := fun a ha => by
      rcases List.mem_cons.mp ha with rfl | ha
      · obtain ⟨ob, es, ep, e, dd, _⟩ := ine.ns; exact ⟨ob, e, fun zs q => by rw [dd] at q; cases q⟩
      · obtain ⟨⟨nm, c⟩, hm, rfl⟩ := List.mem_map.mp ha
        have hc' : env.cells.lookup nm = some c := lookup_nodup (by rw [hcells, cellsFrom_names]; simpa [ownCells] using hcn) hm
        obtain ⟨ob, e, dd⟩ := ine.cell nm c hc'
        exact ⟨ob, e, fun zs q => by rw [dd] at q; cases q⟩
    have p1 : Post A s { s with heap := h1, toks := t1 } := Post.of_keeps hkeep
    obtain ⟨outer, hfr, hfo⟩ := ok.frames
    have hfrA : fr (A.deeper env) = env.locals :: fr A := by rw [fr_deeper A env hfr, hframe]; rfl
    have okA := ok.post p1
    have ok1 : Ok b (A.deeper env) (W ++ hid env) k { s with heap := h1, toks := t1 } := by
      refine ⟨ok.handled, ?_, ?_, ⟨env :: outer, ?_, ?_⟩, ?_, ?_, ?_, okA.inv⟩
      · have := ok.depth
        show A.depth + 1 + k < 900
        omega
      · have := ok.units
        show A.units + 3 + 4 * k + 100 < 8000
        omega
      · show A.frames.map (env :: ·) = _
        rw [hfr]; rfl
      · intro env' he
        rcases List.mem_cons.mp he with rfl | he
        · obtain ⟨ob, e, hd'⟩ := live env'.locals List.mem_cons_self
          exact ⟨by rw [hscope, hk]; decide, env'.locals, ob, hframe, e, hd'⟩
        · obtain ⟨outer', hfr', hfo'⟩ := okA.frames
          rw [hfr] at hfr'; cases hfr'
          exact hfo' env' he
      · rw [hfrA]
        intro a ha
        rcases List.mem_cons.mp ha with rfl | ha
        · exact List.mem_append_right _ List.mem_cons_self
        · exact List.mem_append_left _ (ok.sub a ha)
      · intro a ha
        rcases List.mem_append.mp ha with ha | ha
        · exact ok.low a ha
        · cases e : b.h₀.get? a with
          | none => rfl
          | some ob => have := ok.inv a ob e; rw [dead a ha] at this; cases this
      · intro a ha
        rcases List.mem_append.mp ha with ha | ha
        · exact okA.live a ha
        · obtain ⟨ob, e, _⟩ := live a ha; exact ⟨ob, e⟩
    have gv : (off W s.heap).le (off (W ++ hid env) h1) := off_grow (fun a ob _ e => hkeep a ob e) fun a ha => (List.mem_append.mp ha).imp id (dead a)
    have inn : In b (A.deeper env) (W ++ hid env) k (scOf fd.scope) (putAll ps ds []) env (bindL env.kindOf (ps.zip vs) fun _ => none) (bindC env.kindOf (ps.zip vs) fun _ => none) { s with heap := h1, toks := t1 } := by
      refine ⟨ok1, ⟨hscope, ?_, by rw [← henv]; exact hg, by rw [← henv]; exact hbl, hk⟩, ine, fun a ha => List.mem_append_right _ ha, fun x dd hx => ?_⟩
      · rw [hcells, cellsFrom_names]; simp [scOf, ownCells]
      · rcases putAll_from hx with ⟨i, g1, g2⟩ | hx
        · obtain ⟨v, e1, r1⟩ := r.at g2
          have hm : (x, v) ∈ ps.zip vs := List.mem_of_getElem? (i := i) (by rw [List.getElem?_zip_eq_some]; exact ⟨g1, e1⟩)
          have hba := bind_at (kindOf := env.kindOf) (m := fun _ => none) (cm := fun _ => none) (by rw [hzip]; exact hnd) hm
          have hst := List.all_eq_true.mp hps x (List.mem_of_getElem? g1)
          unfold storable at hst
          rw [Bool.or_eq_true, Bool.and_eq_true, beq_iff_eq, beq_iff_eq] at hst
          have hkk : env.kindOf x = (scOf fd.scope).kind x := by unfold Env.kindOf Sc.kind; rw [hscope]; rfl
          refine ⟨v, ?_, r1.mono gv⟩
          unfold val
          rw [hkk]
          rcases hst with hst | ⟨q1, q2⟩
          · rw [hst]; exact hba.1 (hkk.trans hst)
          · rw [q1]
            have hin : (env.cells.lookup x).isSome = true := lookup_of_mem (by rw [hcells, cellsFrom_names]; simpa [scOf, ownCells] using q2)
            simp only [hin, if_true]
            exact hba.2 (by rw [hkk, q1]; decide)
        · cases hx
    have io : InO b (A.deeper env) (W ++ hid env) k (scOf fd.scope) (putAll ps ds []) [] [] (fun _ => 0) env (bindL env.kindOf (ps.zip vs) fun _ => none) (bindC env.kindOf (ps.zip vs) fun _ => none) { s with heap := h1, toks := t1 } :=
      ⟨by rw [List.append_nil]; exact inn, fun _ _ _ h => (nomatch h), fun _ _ _ _ h => (nomatch h), fun _ h => (nomatch h), fun a ha => List.mem_append_right _ ha, ok1.sub⟩
    refine hex (A.deeper env) (W ++ hid env) [] _ env _ _ _ _ _ io fun fw O' ad' m' cm' s' io' mv hf => ?_
    have post : Post A s s' := by
      obtain ⟨⟨h2, t2, rfl, a2, b2⟩, _⟩ := mv
      have away : ∀ a ob, s.heap.get? a = some ob → a ∉ hid env ++ [] := fun a ob e q => by
        rw [List.append_nil] at q
        rw [dead a q] at e; cases e
      refine ⟨h2, t2, rfl, fun a ob na e => a2 a ob (away a ob e) ?_ (hkeep a ob e), fun a ob e => b2 a ob (away a ob e) (hkeep a ob e)⟩
      rw [hfrA]
      intro q
      rcases List.mem_cons.mp q with rfl | q
      · rw [dead _ List.mem_cons_self] at e; cases e
      · exact na q
    have sub : ∀ {dd v}, Rep (off ((W ++ hid env) ++ O') s'.heap) dd v → Rep (off W s'.heap) dd v := fun h => h.mono (off_sub fun a ha => List.mem_append_left _ (List.mem_append_left _ ha))
    rcases hfl with rfl | ⟨rfl, rfl⟩
    · obtain ⟨v, rfl, rv⟩ := hf
      exact h v s' post (sub rv)
    · cases hf
      exact h .none s' post rfl

theorem call_fn {f : Addr} {o : Obj} {fd : FuncData} {body : List Stmt} {ps : List Str} {F : Fn} (ho : b.h₀.get? f = some o) (hd : o.data = .func fd) (hlim : b.h₀.NoLimit) (hcd : b.h₀.CodeRec fd.code fd.qualname) (hbody : fd.body = .stmts body) (hclo : fd.closure = []) (hg : fd.globals = mainGlobals) (hbl : fd.builtins = builtinsNs)
    (hk : fd.scope.kind = .function) (hco : fd.scope.isCoroutine = false) (hgen : fd.scope.isGenerator = false) (hbind : ∀ vals : List Value, vals.length = ps.length → bindArgs fd ⟨vals, []⟩ = pure (ps.zip vals)) (hps : ps.all (storable (scOf fd.scope)) = true) (hnd : ps.Nodup) (hcn : (ownCells fd.scope).Nodup)
    (hB : BodyOk b k fd.scope ps body F) : CallOk b (.ref f) (k + 1) F :=
  (call_fn_gen ho hd hlim hcd hbody hclo hg hbl hk hco hgen (.plain hbind) hps hnd hcn hB).of fun ds d h => by rw [if_pos (hB ds d h).1]; exact h
end
end Mine
end
section
namespace Mine

section
variable {b : Base} {k : Nat}

noncomputable def CallIs (b : Base) (A : Around) (W : List Addr) (s : Shared) (f : Value) (vs : List Value) (r : D) : Prop := ∀ (E Q : Value → Shared → Prop), (∀ v s', Post A s s' → Rep (off W s'.heap) r v → Q v s') → wpAny (model b.prog b.w) A (call f vs) Q E s
noncomputable def fn1 (g : D → Option D) : Fn := fun ds => (one? ds).bind g
noncomputable def fn2 (g : D → D → Option D) : Fn := fun ds => (two? ds).bind fun q => g q.1 q.2
theorem of1 {g : D → Option D} {F' : Fn} (h : ∀ d, Ret (g d) fun r => F' [d] = some r) : ∀ ds d, fn1 g ds = some d → F' ds = some d := fun ds d e => by
  obtain ⟨d0, h1, h2⟩ := Option.bind_eq_some_iff.mp e
  rw [one_eq _ h1]
  exact h d0 d h2
theorem of2 {g : D → D → Option D} {F' : Fn} (h : ∀ d e, Ret (g d e) fun r => F' [d, e] = some r) : ∀ ds d, fn2 g ds = some d → F' ds = some d := fun ds d e => by
  obtain ⟨d0, h1, h2⟩ := Option.bind_eq_some_iff.mp e
  rw [two_eq _ h1]
  exact h d0.1 d0.2 d h2
theorem call1 {f : Value} {g : D → Option D} (h : ∀ A W s d v, Ok b A W k s → Rep (off W s.heap) d v → Ret (g d) (CallIs b A W s f [v])) : CallOk b f k (fn1 g) := fun A W s ds vs d E Q hF ok r hq => by
  obtain ⟨d0, h1, h2⟩ := Option.bind_eq_some_iff.mp hF
  rw [one_eq d0 h1] at r
  obtain ⟨v, us, rfl, r1, rfl⟩ := r
  exact h A W s d0 v ok r1 d h2 E Q hq
theorem call2 {f : Value} {g : D → D → Option D} (h : ∀ A W s d v d' v', Ok b A W k s → Rep (off W s.heap) d v → Rep (off W s.heap) d' v' → Ret (g d d') (CallIs b A W s f [v, v'])) : CallOk b f k (fn2 g) := fun A W s ds vs d E Q hF ok r hq => by
  obtain ⟨d0, h1, h2⟩ := Option.bind_eq_some_iff.mp hF
  rw [two_eq d0 h1] at r
  obtain ⟨v, us, rfl, r1, v', us', rfl, r2, rfl⟩ := r
  exact h A W s d0.1 v d0.2 v' ok r1 r2 d h2 E Q hq

noncomputable def lenG : D → Option D
  | .list l => if l.length ≤ room then some (.int l.length) else none
  | .tup l => if l.length ≤ room then some (.int l.length) else none
  | .str x => if x.length ≤ room then some (.int x.length) else none
  | _ => none
noncomputable abbrev lenD : Fn := fn1 lenG
theorem call_lenD : CallOk b (.builtin "len") k lenD := call1 fun A W s d v ok r => by
  cases d with
  | list l =>
    refine .ite fun hl => .some fun E Q h => ?_
    obtain ⟨a, ys, rfl, sq, rs⟩ := r
    rw [← rs.length] at hl h
    exact Calls.call_len_list sq.list (room63 hl) (h _ _ (Post.tok A s _) ⟨_, rfl⟩)
  | tup l =>
    refine .ite fun hl => .some fun E Q h => ?_
    obtain ⟨a, ys, rfl, sq, rs⟩ := r
    rw [← rs.length] at hl h
    exact PyProof.Rows.len_tuple sq.tuple (room63 hl) (h _ _ (Post.tok A s _) ⟨_, rfl⟩)
  | str x =>
    refine .ite fun hl => .some fun E Q h => ?_
    obtain ⟨t, rfl⟩ := r
    exact P.len_str (Int.not_le.mpr (room63 hl)) (h _ _ (Post.tok A s _) ⟨_, rfl⟩)
  | _ => exact .none

noncomputable def rangeD : Fn
  | [] => none
  | a :: r => (asInt a).bind fun a => match r with
    | [] => some (.rng 0 a 1)
    | b :: r => (asInt b).bind fun b => match r with
      | [] => some (.rng a b 1)
      | _ :: _ => none
theorem call_rangeD : CallOk b (.type "range") k rangeD := fun A W s ds vs d E Q hF ok r h => by
  have fin : ∀ (n m c : Int) (t1 t2 t3 : Tok), Rep (off W (s.heap.push { cls := .type "range", data := .fields #[.int n t1, .int m t2, .int c t3] })) (.rng n m c) (.ref s.heap.objs.size) := fun n m c t1 t2 t3 =>
    ⟨_, rfl, t1, t2, t3, off_some.mpr ⟨ok.fresh, Heap.get?_push_size _ rfl⟩⟩
  refine (show Ret (rangeD ds) (CallIs b A W s (.type "range") vs) from ?_) d hF E Q h
  cases ds with
  | nil => exact .none
  | cons d1 ds =>
    refine .bind fun i1 h1 => ?_
    cases asInt_eq _ h1
    obtain ⟨v, us, rfl, ⟨t, rfl⟩, r⟩ := r
    cases ds with
    | nil => cases r; exact .some fun E Q h => call_range_1 (h _ _ (Post.push A s _ _) (fin _ _ _ _ _ _))
    | cons d2 ds =>
      refine Ret.bind (o := asInt d2) fun i2 h2 => ?_
      cases asInt_eq _ h2
      obtain ⟨v, us, rfl, ⟨t, rfl⟩, r⟩ := r
      cases ds with
      | nil => cases r; exact .some fun E Q h => call_range_2 (h _ _ (Post.push A s _ _) (fin _ _ _ _ _ _))
      | cons d3 ds => exact .none

noncomputable def asInts : List D → Option (List Int)
  | [] => some []
  | d :: r => (asInt d).bind fun i => (asInts r).map (i :: ·)
theorem asInts_map : ∀ l : List Int, asInts (l.map D.int) = some l
  | [] => rfl
  | i :: l => by rw [List.map_cons, asInts, asInts_map l]; rfl
theorem asInts_eq : ∀ {l : List D}, Ret (asInts l) fun is => l = is.map D.int
  | [] => .some rfl
  | _ :: _ => .bind fun i h => .map fun is e => by rw [asInt_eq i h, asInts_eq is e]; rfl
noncomputable def sumG (d : D) : Option D := (seqD d).bind fun l => (asInts l).map fun is => .int is.sum
noncomputable abbrev sumD : Fn := fn1 sumG
theorem preSum_eq (is : List Int) : ∀ n, n ≤ is.length → preSum (fun i => is.getD i 0) n = (is.take n).sum := by
  intro n
  induction n with
  | zero => intro _; simp [preSum]
  | succ n ih =>
    intro h
    have e : is.take (n + 1) = is.take n ++ [is[n]'h] := by rw [List.take_succ_eq_append_getElem]
    rw [preSum, ih (by omega), e, List.sum_append]
    simp [List.getD, List.getElem?_eq_getElem (show n < is.length from h)]
theorem sum_over {A : Around} {W : List Addr} {s : Shared} {E : Value → Shared → Prop} {Q : Value → Shared → Prop} {v : Value} {is : List Int} {vs : List Value} {T : String} {a : Addr} (hh : A.handled = none) (hv : v = .ref a) (rs : Reps (off W s.heap) (is.map D.int) vs) (hT : (T = "list" ∧ s.heap.IsList a vs.toArray) ∨ (T = "tuple" ∧ s.heap.IsTuple a vs.toArray))
    (h : ∀ v s', Post A s s' → Rep (off W s'.heap) (.int is.sum) v → Q v s') : wpAny (model b.prog b.w) A (call (.builtin "sum") [v]) Q E s := by
  subst hv
  have nl := rs.length
  rw [List.length_map] at nl
  have hax : @LT.lt Nat _ a s.heap.objs.size := by rcases hT with ⟨_, o, e, _⟩ | ⟨_, o, e, _⟩ <;> exact Heap.lt_size e
  have hval : ∀ (i : Nat) (v : Value), vs[i]? = some v → ∃ t, v = .int (is.getD i 0) t := fun i v hv => by
    have hi : i < (is.map D.int).length := by have := (List.getElem?_eq_some_iff.mp hv).1; rw [List.length_map]; omega
    obtain ⟨u, e1, r1⟩ := rs.at (List.getElem?_eq_getElem hi)
    rw [hv] at e1; cases e1
    rw [List.getElem_map] at r1
    obtain ⟨t, rfl⟩ := r1
    refine ⟨t, ?_⟩
    rw [List.length_map] at hi
    simp [List.getD, List.getElem?_eq_getElem hi]
  have last : ∀ (o : Obj) (h' : Heap) (tk : Nat) (t' : Tok), (∀ c ob, c ∉ ([s.heap.objs.size] : List Addr) → (s.heap.push o).get? c = some ob → h'.get? c = some ob) → Q (.int (preSum (fun i => is.getD i 0) vs.toArray.size) t') { s with heap := h', toks := tk } := fun o h' tk t' hk => by
    have e : preSum (fun i => is.getD i 0) vs.toArray.size = is.sum := by
      rw [List.size_toArray, nl, preSum_eq is is.length (Nat.le_refl _), List.take_length]
    rw [e]
    exact h _ _ (Post.of_keeps fun c ob ec => hk c ob (fun q => by rw [List.mem_singleton.mp q] at ec; rw [none_at_size] at ec; cases ec) (Heap.get?_push_of_some _ ec)) ⟨t', rfl⟩
  refine call_sum_walkG ?_
  rcases hT with ⟨_, hl⟩ | ⟨_, hl⟩
  · refine wpAny_pyIter_list hl ⟨_, _, _, vs.toArray.size, _, _, (fun i => is.getD i 0), rfl, Walks.list (A := A.in1) hh s.heap.objs.size a (Nat.ne_of_lt hax) vs.toArray, ⟨⟨_, Heap.get?_push_size _ rfl, rfl, rfl⟩, hl.push _⟩, ?_, fun i v hv => hval i v (by simpa using hv), fun h' tk t' hk => last _ h' tk t' hk⟩
    intro c hc
    show c < (s.heap.push _).objs.size
    rw [Heap.size_push]
    rcases List.mem_cons.mp hc with rfl | hc
    · exact Nat.lt_succ_self _
    · rw [List.mem_singleton.mp hc]; exact Nat.lt_succ_of_lt hax
  · refine wpAny_pyIter_tuple hl ⟨_, _, _, vs.toArray.size, _, _, (fun i => is.getD i 0), rfl, Walks.tuple (A := A.in1) hh s.heap.objs.size a (Nat.ne_of_lt hax) vs.toArray, ⟨⟨_, Heap.get?_push_size _ rfl, rfl, rfl⟩, hl.push _⟩, ?_, fun i v hv => hval i v (by simpa using hv), fun h' tk t' hk => last _ h' tk t' hk⟩
    intro c hc
    show c < (s.heap.push _).objs.size
    rw [Heap.size_push]
    rcases List.mem_cons.mp hc with rfl | hc
    · exact Nat.lt_succ_self _
    · rw [List.mem_singleton.mp hc]; exact Nat.lt_succ_of_lt hax
theorem sumD_eq (l : List Int) : sumD [.list (l.map .int)] = some (.int l.sum) := by
  show (asInts _).map _ = _
  rw [asInts_map]; rfl
theorem call_sumD : CallOk b (.builtin "sum") k sumD := call1 fun A W s d v ok r => .bind fun l hl => .map fun is e E Q h => by
  rw [asInts_eq is e] at hl
  cases d with
  | list l =>
    cases hl
    obtain ⟨a, ys, rfl, sq, rs⟩ := r
    exact sum_over ok.handled rfl rs (.inl ⟨rfl, sq.list⟩) h
  | tup l =>
    cases hl
    obtain ⟨a, ys, rfl, sq, rs⟩ := r
    exact sum_over ok.handled rfl rs (.inr ⟨rfl, sq.tuple⟩) h
  | _ => cases hl

noncomputable def asStrs : List D → Option (List Str)
  | [] => some []
  | d :: r => (asStr d).bind fun i => (asStrs r).map (i :: ·)
theorem asStrs_map : ∀ l : List Str, asStrs (l.map D.str) = some l
  | [] => rfl
  | i :: l => by rw [List.map_cons, asStrs, asStrs_map l]; rfl
theorem asStrs_eq : ∀ {l : List D}, Ret (asStrs l) fun is => l = is.map D.str
  | [] => .some rfl
  | _ :: _ => .bind fun i h => .map fun is e => by rw [asStr_eq i h, asStrs_eq is e]; rfl
theorem strsAre {g : View} : ∀ {is : List Str} {vs : List Value}, Reps g (is.map D.str) vs → StrsAre vs is
  | [], vs, h => by cases h; exact .nil
  | x :: is, vs, h => by obtain ⟨v, us, rfl, ⟨t, rfl⟩, h2⟩ := h; exact .cons x t (strsAre h2)

noncomputable def joinG (d l : D) : Option D := (asStr d).bind fun x => (asList l).bind fun l => (asStrs l).bind fun is => if (is.map (·.length)).sum + is.length * x.length ≤ 16777216 then some (.str (Txt.join x is)) else none
noncomputable abbrev joinD : Fn := fn2 joinG
theorem joinD_eq {x : Str} {l : List Str} (h : (l.map (·.length)).sum + l.length * x.length ≤ 16777216) : joinD [.str x, .list (l.map .str)] = some (.str (Txt.join x l)) := by
  show ((asStrs (l.map D.str)).bind _) = _
  rw [asStrs_map]
  exact if_pos h
theorem meth_join : MOk b k ("join" : Str) joinD := ⟨"str.join", PySem.F.slot_str_join, PySem.F.type_str_join, call2 fun A W s d v d' v' ok r r' => .bind fun x hx => .bind fun l hl => .bind fun is hi => .ite fun hr => .some fun E Q h => by
  cases asStr_eq _ hx
  cases asList_eq _ hl
  rw [asStrs_eq is hi] at r'
  obtain ⟨t, rfl⟩ := r
  obtain ⟨a, ys, rfl, sq, rs⟩ := r'
  exact PyProof.Rows.join_list sq.list (strsAre rs) hr fun t' n => h _ _ (Post.tok A s n) ⟨t', rfl⟩⟩

noncomputable def strs2 (g : Str → Str → Option D) : Fn := fn2 fun d d' => (asStr d).bind fun x => (asStr d').bind fun y => g x y
theorem meth2 {f : Value} {g : Str → Str → Option D} (h : ∀ A W s x t y t', Ok b A W k s → Ret (g x y) (CallIs b A W s f [.str x t, .str y t'])) : CallOk b f k (strs2 g) := call2 fun A W s d v d' v' ok r r' => .bind fun x hx => .bind fun y hy => by
  cases asStr_eq _ hx
  cases asStr_eq _ hy
  obtain ⟨t, rfl⟩ := r
  obtain ⟨t', rfl⟩ := r'
  exact h A W s x t y t' ok
noncomputable def startsD : Fn := strs2 fun x y => some (.bool (Txt.startswith x y))
theorem meth_starts : MOk b k ("startswith" : Str) startsD := ⟨"str.startswith", PySem.F.slot_str_startswith, PySem.F.type_str_startswith, meth2 fun A W s x t y t' ok => .some fun E Q h => PySem.SC.startswith (h _ _ (Post.refl A s) rfl)⟩
noncomputable def endsD : Fn := strs2 fun x y => some (.bool (Txt.endswith x y))
theorem meth_ends : MOk b k ("endswith" : Str) endsD := ⟨"str.endswith", PySem.F.slot_str_endswith, PySem.F.type_str_endswith, meth2 fun A W s x t y t' ok => .some fun E Q h => PySem.SC.endswith (h _ _ (Post.refl A s) rfl)⟩
noncomputable def rfindD : Fn := strs2 fun x y => some (.int (Txt.rfind x y))
theorem meth_rfind : MOk b k ("rfind" : Str) rfindD := ⟨"str.rfind", PySem.F.slot_str_rfind, PySem.F.type_str_rfind, meth2 fun A W s x t y t' ok => .some fun E Q h => PySem.SC.rfind (h _ _ (Post.tok A s _) ⟨_, rfl⟩)⟩
noncomputable def rstripD : Fn := strs2 fun x y => if x.length ≤ room then some (.str (Txt.rstripChars x y)) else none
theorem meth_rstrip : MOk b k ("rstrip" : Str) rstripD := ⟨"str.rstrip", PySem.F.slot_str_rstrip, PySem.F.type_str_rstrip, meth2 fun A W s x t y t' ok => .ite fun hl => .some fun E Q h => PySem.SC.rstripChars (fun t' n => h _ _ (Post.tok A s n) ⟨t', rfl⟩) (room_line (Nat.le_trans hl (Nat.le_mul_of_pos_left _ (by decide))))⟩
end
end Mine
end
section
set_option maxRecDepth 100000
namespace Mine
section
variable {prog : Program} {w : World} {A : Around} {E : Value → Shared → Prop} {s : Shared} {Q : Value → Shared → Prop}
theorem str_sub : isSubtype (.type "str") (.type "str") = pure true := by rw [isSubtype_type]; kernel_rfl
theorem tuple_sub : isSubtype (.type "tuple") (.type "tuple") = pure true := by rw [isSubtype_type]; kernel_rfl
theorem str_meta : typeOf (.type "str") = pure (.type "type") := by rfl
theorem issub_str {k : Value} {dep : Int} {tk : Tok} {Q : Fin → Shared → Prop} (hk : k = .int dep tk) (hq : Q (.done (.ret (.bool true))) s) :
    wpAny (model prog w) A (Builtin.«issubclass.nested» ⟨[.type "str", .type "str", k], []⟩) Q E s := by
  subst hk
  have hm := str_meta
  have hself := str_sub
  repeat (any_goals (first | assumption | (rw [if_pos rfl]) | (rw [hself]) | wp_step))
theorem issub_tuple {t : Addr} {k : Value} {tk : Tok} {Q : Fin → Shared → Prop} (hk : k = .int 0 tk) (ht : s.heap.IsTuple t #[.type "str", .type "bytes"]) (hq : Q (.done (.ret (.bool true))) s) :
    wpAny (model prog w) A (Builtin.«issubclass.nested» ⟨[.type "str", .ref t, k], []⟩) Q E s := by
  subst hk
  have hT : s.TypeIs (.ref t) "tuple" := ht.typeIs
  unfold Builtin.«issubclass.nested»
  refine wpAny_bind (wpAny_typeOf hT ?_)
  rw [if_neg (by decide)]
  unfold Builtin.Builtins.unionMembers
  refine wpAny_bind (wpAny_bind (wpAny_typeOf hT ?_))
  rw [if_neg (by decide)]
  refine wpAny_pure ?_
  refine wpAny_bind (wpAny_isInstance hT tuple_sub ?_)
  simp only [if_true]
  rw [if_neg (by decide)]
  obtain ⟨o, ho, hc, n, hd⟩ := id ht
  refine wpAny_bind (wpAny_seqItems ho hd ?_)
  have inner : ∀ (Q' : Value → Shared → Prop), Q' (.bool true) s → wpAny (model prog w) A (call (.builtin "issubclass.nested") [.type "str", .type "str", rawInt (0 + 1)]) Q' E s := fun Q' hq' =>
    call_function_entry (by decide +kernel) (by decide +kernel) PySem.F.entry_issubclass_nested (by unfold argsOk; kernel_rfl) (issub_str rfl ⟨_, rfl, hq'⟩)
  simp only [Option.getD_some, List.forIn_toArray]
  rw [List.forIn_cons]
  refine wpAny_bind (wpAny_bind (wpAny_bind (inner _ (wpAny_bind (wpAny_truthy_bool ?_)))))
  simp only [if_true]
  exact wpAny_bind (wpAny_pure (wpAny_pure (wpAny_pure (wpAny_pure hq))))
theorem call_issub_tuple {t : Addr} (ht : s.heap.IsTuple t #[.type "str", .type "bytes"]) (hq : Q (.bool true) s) : wpAny (model prog w) A (call (.builtin "issubclass") [.type "str", .ref t]) Q E s :=
  PyProof.Rows.call_issubclass (S := fun _ R s => s.heap.IsTuple t #[.type "str", .type "bytes"] ∧ R (.ok (.ret (.bool true))) s) (fun _ _ _ _ _ hs => PyProof.Rows.issubclass_outer (issub_tuple rfl hs.1 hs.2)) ⟨ht, hq⟩
theorem call_type_str {x : Str} {t : Tok} (hq : Q (.type "str") s) : wpAny (model prog w) A (call (.type "type") [.str x t]) Q E s := by
  obtain ⟨h, g, d, tt, os⟩ := s
  refine wpAny_call (codeAny_of_tree ?_)
  show wpAny _ _ (callAny (.type "type") ⟨[.str x t], []⟩) _ _ _
  simp only [callAny]
  refine wpAny_pure ⟨Code.quiet_builtin _ (by decide +kernel), codeAny_builtin PyProof.Rows.entry_type_call ?_⟩
  unfold Builtin.«type.__call__»
  dsimp only
  unfold shownTypeOf
  repeat (first | assumption | wp_step)
end

section
variable {b : Base} {k : Nat}
noncomputable def typeD : Fn := fn1 fun d => (asStr d).map fun _ => .ty "str"
theorem call_typeD : CallOk b (.type "type") k typeD := call1 fun A W s d v ok r => .map fun x hx E Q h => by
  cases asStr_eq _ hx
  obtain ⟨t, rfl⟩ := r
  exact call_type_str (h _ _ (Post.refl A s) rfl)
noncomputable def asTy : D → Option String
  | .ty t => some t
  | _ => none
theorem asTy_eq {d : D} : Ret (asTy d) fun i => d = .ty i := by cases d <;> first | exact .some rfl | exact .none
noncomputable def issubD : Fn := fn2 fun d e => (asTy d).bind fun a => (asTup e).bind fun l => (two? l).bind fun q => (asTy q.1).bind fun c => (asTy q.2).bind fun d => if a = "str" ∧ c = "str" ∧ d = "bytes" then some (.bool true) else none
theorem call_issubD : CallOk b (.builtin "issubclass") k issubD := call2 fun A W s d v d' v' ok r r' => .bind fun a ha => .bind fun l hl => .bind fun q hq => .bind fun c hc => .bind fun e he => .ite fun hz => .some fun E Q h => by
  obtain ⟨rfl, rfl, rfl⟩ := hz
  cases asTy_eq _ ha
  cases asTup_eq _ hl
  rw [two_eq _ hq, asTy_eq _ hc, asTy_eq _ he] at r'
  cases r
  obtain ⟨a, ys, rfl, sq, z, zs, rfl, rz, z2, zs2, rfl, rz2, hz⟩ := r'
  cases rz; cases rz2; cases hz
  exact call_issub_tuple sq.tuple (h _ _ (Post.refl A s) rfl)
noncomputable def isinstD : Fn := fn2 fun d e => (asStr d).bind fun _ => (asTy e).bind fun a => if a = "bytes" then some (.bool false) else if a = "str" then some (.bool true) else none
theorem call_isinstD : CallOk b (.builtin "isinstance") k isinstD := call2 fun A W s d v d' v' ok r r' => .bind fun x hx => .bind fun a ha => by
  cases asStr_eq _ hx
  cases asTy_eq _ ha
  obtain ⟨t, rfl⟩ := r
  cases r'
  exact .fork (fun h => .some fun E Q hq => by subst h; exact PySem.IsiPair.str_bytes (hq _ _ (Post.tok A s _) rfl)) fun _ => .ite fun h => .some fun E Q hq => by subst h; exact PySem.IsiPair.str_str (hq _ _ (Post.refl A s) rfl)

theorem reps_strs {g : View} : ∀ l : List (Str × Tok), Reps g ((l.map (·.1)).map D.str) (strValues l)
  | [] => rfl
  | (x, t) :: r => ⟨_, _, rfl, ⟨t, rfl⟩, reps_strs r⟩
noncomputable def splitD : Fn := strs2 fun x y => if y.length ≠ 0 ∧ x.length < room then some (.list ((Txt.split x y).map .str)) else none
theorem meth_split : MOk b k ("split" : Str) splitD := ⟨"str.split", PySem.F.slot_str_split, PySem.F.type_str_split, meth2 fun A W s x t y t2 ok => .ite fun hc => .some fun E Q h => by
  have hocc := PySem.StrLaws.occ_length_le x y 0 x.length (x.length + 1)
  have hy : (y.length == 0) = false := by simpa using hc.1
  have made : ∀ (l : List (Str × Tok)) (tk : Nat), l.map (·.1) = Txt.split x y → Q (.ref s.heap.objs.size) { s with heap := s.heap.push { cls := .type "list", data := .seq (strValues l).toArray }, toks := tk } := fun l tk hl =>
    h _ _ (Post.push A s _ tk) ⟨s.heap.objs.size, strValues l, rfl, ⟨_, _, off_some.mpr ⟨ok.fresh, Heap.get?_push_size _ rfl⟩, rfl, rfl, rfl⟩, by rw [← hl]; exact reps_strs l⟩
  cases h1 : (decide (x.length < y.length) || decide (Builtin.Str.strKind x < Builtin.Str.strKind y)) with
  | true => exact call_meets PySem.F.slot_str_split (typeIs_str _ _ _) PySem.F.entry_str_split (PySem.F.args_str_split_2 _ _) (meets_str_split_cannot_occur x y t t2 h1) (made [(x, t)] s.toks (by unfold Txt.split; rw [if_pos h1]; rfl))
  | false =>
    cases hf : (Builtin.Str.occurrences x y 0 x.length (x.length + 1)).isEmpty with
    | true => exact call_meets PySem.F.slot_str_split (typeIs_str _ _ _) PySem.F.entry_str_split (PySem.F.args_str_split_2 _ _) (meets_str_split_not_found x y t t2 h1 hy hf) (made [(x, t)] s.toks (by unfold Txt.split; rw [if_neg (by rw [h1]; simp), if_pos hf]; rfl))
    | false =>
      refine call_meets PySem.F.slot_str_split (typeIs_str _ _ _) PySem.F.entry_str_split (PySem.F.args_str_split_2 _ _) (meets_str_split_sep x y t t2 h1 hy hf (room_line (by omega)) (by rw [PyProof.Rows.len_partsBetween]; exact room_line (by unfold room at *; omega))) ?_
      show wants Q E _ { s with toks := _, heap := s.heap.push { cls := .type "list", data := .seq (strsFrom s.toks (Builtin.Str.partsBetween x (Builtin.Str.occurrences x y 0 x.length (x.length + 1)) y.length)).toArray } }
      rw [strsFrom_eq]
      exact made _ _ (by rw [numbered_texts]; unfold Txt.split; rw [if_neg (by rw [h1]; simp), if_neg (by rw [hf]; simp)])⟩
end
end Mine
end
section
namespace Mine

noncomputable def funcOf? (o : Obj) : Option FuncData := match o.data with
  | .func fd => some fd
  | _ => none
noncomputable def stmtsOf? : FuncBody → Option (List Stmt)
  | .stmts b => some b
  | _ => none
theorem stmtsOf_eq {b : FuncBody} : Ret (stmtsOf? b) fun l => b = .stmts l := by cases b <;> first | exact .some rfl | exact .none
noncomputable def fdAt (K : Frag) (f : Addr) : Option FuncData := (K.lookup f).bind funcOf?
noncomputable def bodyAt (K : Frag) (f : Addr) : List Stmt := ((fdAt K f).bind fun fd => stmtsOf? fd.body).getD []
noncomputable def scopeAt (K : Frag) (f : Addr) : Scope := ((fdAt K f).map (·.scope)).getD default
noncomputable def methL (K : Frag) (ps : List Str) (fd : FuncData) : List Bool := [(stmtsOf? fd.body).isSome, fd.closure.isEmpty, fd.globals == mainGlobals, fd.builtins == builtinsNs, fd.scope.kind == .function, !fd.scope.isCoroutine, !fd.scope.isGenerator, codeIn K fd.code fd.qualname,
  ps.all (storable (scOf fd.scope)), decide ps.Nodup, decide (ownCells fd.scope).Nodup]
noncomputable def methOk (K : Frag) (f : Addr) (ps : List Str) : Bool := (fdAt K f).any fun fd => (methL K ps fd).all _root_.id
noncomputable def isRef (f : Addr) : Value → Bool
  | .ref a => a == f
  | _ => false
noncomputable def defOk (K : Frag) (f : Addr) (n : Str) (ps : List Str) : Bool := methOk K f ps && (nsIn K mainGlobals n).join.any (isRef f)
theorem methAt {K : Frag} {ps : List Str} {fd : FuncData} (h : (methL K ps fd).all _root_.id = true) (i : Nat) {b : Bool} (hi : (methL K ps fd)[i]? = some b) : b = true := List.all_eq_true.mp h b (List.mem_of_getElem? hi)
theorem methOk_is {K : Frag} {f : Addr} {ps : List Str} (h : methOk K f ps = true) : ∃ fd, fdAt K f = some fd ∧ (methL K ps fd).all _root_.id = true := by
  unfold methOk at h
  cases e : fdAt K f with
  | none => rw [e] at h; cases h
  | some fd => rw [e] at h; exact ⟨fd, rfl, h⟩
theorem bodyAt_eq {K : Frag} {f : Addr} {ps : List Str} {fd : FuncData} (hf : fdAt K f = some fd) (h : (methL K ps fd).all _root_.id = true) : fd.body = .stmts (bodyAt K f) ∧ fd.scope = scopeAt K f := by
  obtain ⟨l, hl⟩ := Option.isSome_iff_exists.mp (methAt h 0 rfl)
  unfold bodyAt scopeAt
  rw [hf, Option.bind_some, hl]
  exact ⟨stmtsOf_eq l hl, rfl⟩

section
variable {b : Base} {K : Frag} {p : Program} {loose : List Str} {mg mb : Str → Option Value} {k : Nat}

theorem loads_global {n : Str} {v : Value} (X : K.In b.h₀) (T : TopRead p loose mg mb b.h₀) (hn : nsIn K mainGlobals n = some (some v)) : Loads b n v := fun A env s E Q hg hb inv hq =>
  loadGlobal_global (env := env) (by rw [hg]; exact T.g.keeps inv) (mg_of X T.g hn) hq
theorem loads_builtin {n : Str} {v : Value} (X : K.In b.h₀) (T : TopRead p loose mg mb b.h₀) (hn : nsIn K mainGlobals n = some none) (hv : bootBuiltins n = some v) (hx : n ≠ "__name__") : Loads b n v := fun A env s E Q hg hb inv hq =>
  loadGlobal_builtin (env := env) (by rw [hg]; exact T.g.keeps inv) (mg_none_of X T.g hn) (by rw [hb]; exact T.b.keeps inv) ((T.builtins n hx).trans hv) hq

noncomputable def offHeap : Value → Bool
  | .ref _ => false
  | _ => true
theorem gok_builtin {n : Str} {v : Value} {F : Fn} (X : K.In b.h₀) (T : TopRead p loose mg mb b.h₀) (hn : nsIn K mainGlobals n = some none) (hv : bootBuiltins n = some v) (hx : n ≠ "__name__") (ho : offHeap v = true) (hc : CallOk b v k F) : GOk b k n F :=
  ⟨v, loads_builtin X T hn hv hx, fun h _ => ⟨.machine, .inr (.inl rfl), by cases v <;> first | exact Looks.of_pure rfl | cases ho⟩, hc⟩

theorem fdAt_lookup {f : Addr} {fd : FuncData} (h : fdAt K f = some fd) : ∃ oc od osl, K.lookup f = some ⟨oc, od, .func fd, osl⟩ := by
  obtain ⟨⟨oc, od, dat, osl⟩, h1, h2⟩ := Option.bind_eq_some_iff.mp h
  cases dat <;> cases h2
  exact ⟨oc, od, osl, h1⟩
theorem call_def {f : Addr} {ps : List Str} {F : Fn} {G : List D → Option (List D)} {fd : FuncData} (X : K.In b.h₀) (T : TopRead p loose mg mb b.h₀) (hf : fdAt K f = some fd) (h : (methL K ps fd).all _root_.id = true) (hbind : BindOk fd ps G)
    (hB : BodyOk b k (scopeAt K f) ps (bodyAt K f) F) : CallOk b (.ref f) (k + 1) fun ds => (G ds).bind F := by
  obtain ⟨oc, od, osl, hl⟩ := fdAt_lookup hf
  have hb := bodyAt_eq hf h
  rw [← hb.2] at hB
  have at_ := @methAt _ _ _ h
  exact call_fn_gen (X _ _ hl) rfl T.nolimit (codeRec_of X (at_ 7 rfl)) hb.1 (List.isEmpty_iff.mp (at_ 1 rfl)) (beq_iff_eq.mp (at_ 2 rfl)) (beq_iff_eq.mp (at_ 3 rfl)) (beq_iff_eq.mp (at_ 4 rfl)) (not_t (at_ 5 rfl)) (not_t (at_ 6 rfl)) hbind (at_ 8 rfl) (of_decide_eq_true (at_ 9 rfl)) (of_decide_eq_true (at_ 10 rfl)) hB
theorem call_at_gen {f : Addr} {n : Str} {ps : List Str} {F : Fn} {G : List D → Option (List D)} (X : K.In b.h₀) (T : TopRead p loose mg mb b.h₀) (hd : defOk K f n ps = true) (hbind : ∀ fd, fdAt K f = some fd → BindOk fd ps G)
    (hB : BodyOk b k (scopeAt K f) ps (bodyAt K f) F) : GOk b (k + 1) n (fun ds => (G ds).bind F) := by
  obtain ⟨fd, hf, h⟩ := methOk_is (and_t hd).1
  obtain ⟨oc, od, osl, hl⟩ := fdAt_lookup hf
  have hns : nsIn K mainGlobals n = some (some (.ref f)) := by
    have e := (and_t hd).2
    cases e1 : nsIn K mainGlobals n with
    | none => rw [e1] at e; cases e
    | some o => cases o with
      | none => rw [e1] at e; cases e
      | some v =>
        rw [e1] at e
        cases v <;> first | exact congrArg (fun a => some (some (Value.ref a))) (beq_iff_eq.mp e) | exact nomatch e
  exact ⟨.ref f, loads_global X T hns, fun h hh => ⟨.frame, .inl rfl, (Looks.ld (part := none) (hh _ _ (X _ _ hl))).andThen .now⟩, call_def X T hf h (hbind fd hf) hB⟩
theorem GOk.of {n : Str} {F F' : Fn} (x : GOk b k n F') (h : ∀ ds d, F ds = some d → F' ds = some d) : GOk b k n F := by
  obtain ⟨v, a, c, d⟩ := x
  exact ⟨v, a, c, d.of h⟩
theorem GOk.up {n : Str} {k' : Nat} {F : Fn} (x : GOk b k n F) (h : k ≤ k') : GOk b k' n F := by
  obtain ⟨v, a, c, d⟩ := x
  exact ⟨v, a, c, d.up h⟩
theorem call_at {f : Addr} {n : Str} {ps : List Str} {F : Fn} (X : K.In b.h₀) (T : TopRead p loose mg mb b.h₀) (hd : defOk K f n ps = true) (hbind : ∀ fd, fdAt K f = some fd → ∀ vals : List Value, vals.length = ps.length → bindArgs fd ⟨vals, []⟩ = pure (ps.zip vals))
    (hB : BodyOk b k (scopeAt K f) ps (bodyAt K f) F) : GOk b (k + 1) n F :=
  (call_at_gen X T hd (fun fd h => .plain (hbind fd h)) hB).of fun ds d h => by rw [if_pos (hB ds d h).1]; exact h
end
end Mine
end
section
namespace Mine

noncomputable def andThen (q : Res) (k : Names → Own → Res) : Res := q.bind fun q => match q.1 with
  | .next => k q.2.1 q.2.2
  | _ => some q

noncomputable def plainR (e : Expr) : Bool := e.ctorIdx != 24 && (e.ctorIdx != 8 && (e.ctorIdx != 9 && e.ctorIdx != 10))

section
variable {T : Tab} {n : Nat} {c : Sc} {j : Nat} {σ σ' σ1 : Names} {ω ω' ω1 : Own} {R : Res} {rest : List Stmt} {p p' : Pos}

theorem exS_cons {s : Stmt} : exS T n c (j + 1) (s :: rest) σ ω = andThen (exStep T n c (exS T n c j) σ ω s) (exS T n c j rest) := rfl
theorem step {s : Stmt} {q : Fl × Names × Own} (h : exStep T n c (exS T n c j) σ ω s = some q) (k : andThen (some q) (exS T n c j rest) = R) : exS T n c (j + 1) (s :: rest) σ ω = R := by
  rw [exS_cons, h, k]
theorem setW_eq {x : Str} {v : Expr} (hx : storable c x = true) (hv : dict? v = none) : setW T n c x p v σ ω = setV T n c x σ ω v := by
  unfold setW
  rw [if_pos hx, hv]; rfl
theorem st_set {x : Str} {v : Expr} {d : D} (hx : storable c x = true) (hv : plainR v = true) (h : exE T n c σ ω v = some (d, σ1, ω1)) (hω : (ω1.filter fun e => !(e.1 == x)) = ω')
    (k : exS T n c j rest ((x, d) :: σ1) ω' = R) : exS T n c (j + 1) (.Assign [.Name x p] v p' :: rest) σ ω = R := by
  refine step (q := (.next, (x, d) :: σ1, ω')) ?_ k
  have hn : dict? v = none ∧ listOf? v = none ∧ comp? v = none ∧ noComp v = true := by cases v <;> first | exact ⟨rfl, rfl, rfl, rfl⟩ | cases hv
  refine (setW_eq hx hn.1).trans ?_
  unfold setV
  rw [hn.2.1, hn.2.2.1, Option.elim_none, if_neg (by decide), if_pos hn.2.2.2, h, ← hω]; rfl
theorem st_list {x : Str} {es : List Expr} {pl : Pos} {ds : List D} (hx : storable c x = true) (h : exL T n c σ ω es = some ds) (hσ : (σ.filter fun e => !(e.1 == x)) = σ') (hω : (ω.filter fun e => !(e.1 == x)) = ω')
    (k : exS T n c j rest σ' ((x, true, ds) :: ω') = R) : exS T n c (j + 1) (.Assign [.Name x p] (.List es pl) p' :: rest) σ ω = R := by
  refine step (q := (.next, σ', (x, true, ds) :: ω')) ((setW_eq hx rfl).trans ?_) k
  show (exL T n c σ ω es).map _ = _
  rw [h, ← hσ, ← hω]; rfl
theorem st_comp {x : Str} {elt : Expr} {gs : List Comprehension} {scope : Scope} {pl : Pos} {ds : List D} (hx : storable c x = true) (h : exC T n c σ ω (.ListComp elt gs scope pl) = some (ds, σ1, ω1)) (hω : (ω1.filter fun e => !(e.1 == x)) = ω')
    (k : exS T n c j rest ((x, .list ds) :: σ1) ω' = R) : exS T n c (j + 1) (.Assign [.Name x p] (.ListComp elt gs scope pl) p' :: rest) σ ω = R := by
  refine step (q := (.next, (x, .list ds) :: σ1, ω')) ((setW_eq hx rfl).trans ?_) k
  obtain ⟨q, hq, _⟩ := Option.bind_eq_some_iff.mp h
  show (if (comp? (.ListComp elt gs scope pl)).isSome then (exC T n c σ ω (.ListComp elt gs scope pl)).map _ else _) = _
  rw [if_pos (by rw [hq]; rfl), h, ← hω]; rfl
theorem st_if {t : Expr} {b1 b2 : List Stmt} {z : Bool} (h : exT T n c σ ω t = some z) (kt : z = true → andThen (exS T n c j b1 σ ω) (exS T n c j rest) = R) (kf : z = false → andThen (exS T n c j b2 σ ω) (exS T n c j rest) = R) :
    exS T n c (j + 1) (.If t b1 b2 p :: rest) σ ω = R := by
  have e : exS T n c (j + 1) (.If t b1 b2 p :: rest) σ ω = andThen (exS T n c j (if z then b1 else b2) σ ω) (exS T n c j rest) := by
    rw [exS_cons]
    show andThen ((exT T n c σ ω t).bind _) _ = _
    rw [h]; rfl
  rw [e]
  cases z with
  | true => exact kt rfl
  | false => exact kf rfl
theorem st_for {tgt it : Expr} {body orelse : List Stmt} {xs : List Str} {rows : List (List D)} (hf : foldOk it = true) (h : exI T n c σ ω it tgt = some ((xs, rows), σ1, ω1)) (hs : xs.all (storable c) = true)
    (k : andThen (forW (exS T n c j body) (exS T n c j orelse) xs rows σ1 ω1) (exS T n c j rest) = R) : exS T n c (j + 1) (.For tgt it body orelse p :: rest) σ ω = R := by
  rw [exS_cons]
  show andThen (if foldOk it then _ else none) _ = _
  rw [if_pos hf, h]
  show andThen (if xs.all (storable c) then _ else none) _ = _
  rw [if_pos hs]
  exact k
theorem st_ret {e : Expr} {d : D} (h : exE T n c σ ω e = some (d, σ1, ω1)) : exS T n c (j + 1) (.Return (some e) p :: rest) σ ω = some (.ret d, σ1, ω1) := by
  refine step (q := (.ret d, σ1, ω1)) ?_ rfl
  show (exE T n c σ ω e).map _ = _
  rw [h]; rfl
noncomputable def inSc (c : Sc) (scope : Scope) : Sc := (compSc c scope).getD c

theorem rows_flat {r : Ev} {ifs : List Expr} {inner : Names → Option (List D)} {xs : List Str} {z : List D → Bool} {f : List D → List D} : ∀ {rows : List (List D)}, (∀ row ∈ rows, testsW r c (putAll xs row σ) ifs = some (z row) ∧ (z row = true → inner (putAll xs row σ) = some (f row))) →
    rowsW r c ifs inner xs σ rows = some (rows.flatMap fun row => if z row then f row else [])
  | [], _ => rfl
  | row :: rs, h => by
    obtain ⟨h1, h2⟩ := h row List.mem_cons_self
    have ih := rows_flat (r := r) (ifs := ifs) (inner := inner) (xs := xs) (z := z) (f := f) (rows := rs) fun q hq => h q (List.mem_cons_of_mem _ hq)
    unfold rowsW
    rw [h1, ih]
    show ((if z row then inner (putAll xs row σ) else some []).bind _) = _
    rw [List.flatMap_cons]
    cases hz : z row with
    | false => rfl
    | true => rw [if_pos rfl, h2 hz]; rfl
theorem comp_core {r : Ev} {elt : Expr} {g : Comprehension} {gs : List Comprehension} {scope : Scope} {xs : List Str} {rows : List (List D)} {out : List D} (hc : (compSc c scope).isSome = true) (hg : (g.is_async == 0 && foldOk g.iter && (tgts (g :: gs)).all (fun n => !(freeOf scope).contains n)) = true)
    (hi : iterW r c σ g.iter g.target = some (xs, rows)) (hx : xs.all (storable (inSc c scope)) = true) (hr : rowsW r (inSc c scope) g.ifs (gensW r (inSc c scope) elt gs) xs (without (tgts (g :: gs)) (freeNames scope σ)) rows = some out) (hl : out.length ≤ room) :
    compW r c σ elt g gs scope = some (.list out) := by
  unfold compW
  have hcs : compSc c scope = some (inSc c scope) := by
    unfold inSc
    cases h : compSc c scope with
    | none => rw [h] at hc; cases hc
    | some c' => rfl
  rw [hcs]
  simp only [Option.bind_some]
  rw [if_pos hg, hi]
  simp only [Option.bind_some]
  rw [if_pos hx, hr]
  simp only [Option.bind_some]
  rw [if_pos hl]
theorem ev_comp {elt : Expr} {g : Comprehension} {gs : List Comprehension} {scope : Scope} {xs : List Str} {rows : List (List D)} {out : List D} (hc : (compSc c scope).isSome = true) (hg : (g.is_async == 0 && foldOk g.iter && (tgts (g :: gs)).all (fun n => !(freeOf scope).contains n)) = true)
    (hi : iterW (ev T n) c σ g.iter g.target = some (xs, rows)) (hx : xs.all (storable (inSc c scope)) = true) (hr : rowsW (ev T n) (inSc c scope) g.ifs (gensW (ev T n) (inSc c scope) elt gs) xs (without (tgts (g :: gs)) (freeNames scope σ)) rows = some out) (hl : out.length ≤ room) :
    ev T (n + 1) c σ (.ListComp elt (g :: gs) scope p) = some (.list out) := comp_core hc hg hi hx hr hl
theorem gens_core {r : Ev} {elt : Expr} {g : Comprehension} {gs : List Comprehension} {xs : List Str} {rows : List (List D)} (hg : (g.is_async == 0 && foldOk g.iter) = true) (hi : iterW r c σ g.iter g.target = some (xs, rows)) (hx : xs.all (storable c) = true) :
    gensW r c elt (g :: gs) σ = rowsW r c g.ifs (gensW r c elt gs) xs (without (tgts (g :: gs)) σ) rows := by
  conv => lhs; unfold gensW
  rw [if_pos hg, hi]
  simp only [Option.bind_some]
  rw [if_pos hx]
theorem call_fn1 {f : Str} {pf : Pos} {args : List Expr} {F : Fn} {ds : List D} {d : D} (hk : (c.kind f == some .globalImplicit && !noLoad f) = true) (hf : T.fn.lookup f = some F) (ha : evsW (ev T n) c σ args = some ds) (hd : F ds = some d) (ht : isTupMap c (.Name f pf) args = none := by kernel_rfl) : ev T (n + 1) c σ (.Call (.Name f pf) args [] p) = some d := by
  show callW T (ev T n) c σ (.Name f pf) args p = _
  unfold callW
  rw [ht]
  show (if c.kind f == some .globalImplicit && !noLoad f then _ else none) = _
  rw [if_pos hk, hf, ha]
  exact hd
theorem evsW_cons {r : Ev} {e : Expr} {es : List Expr} {d : D} {ds : List D} (hs : isStar e = false) (h1 : r c σ e = some d) (h2 : evsW r c σ es = some ds) : evsW r c σ (e :: es) = some (d :: ds) := by
  unfold evsW
  rw [hs, h1, h2]
  rfl
theorem exE_of {e : Expr} {d : D} (h0 : (ω.all fun x => !ment fuelM x.1 e) = true) (h : ev T n c σ e = some d) : exE T n c σ ω e = some (d, σ, ω) := by
  unfold exE
  rw [if_pos h0, h]
  rfl

noncomputable def Then (P : Res → Prop) (k : Names → Own → Res) : Res → Prop := fun q => P (andThen q k)
noncomputable def ForK (P : Res → Prop) (go : Names → Own → Res) : Res → Prop := fun q => P (q.bind fun q => match q.1 with
  | .next => go q.2.1 q.2.2
  | .cont => go q.2.1 q.2.2
  | .brk => some (.next, q.2.1, q.2.2)
  | .ret d => some (.ret d, q.2.1, q.2.2))
noncomputable def Gives (d : D) : Res → Prop := fun q => (q.bind fun q => match q.1 with
    | .ret d => some d
    | .next => some .none
    | _ => none) = some d

variable {P : Res → Prop}
theorem t_set {x : Str} {v : Expr} {d : D} (hx : storable c x = true) (hv : plainR v = true) (h : exE T n c σ ω v = some (d, σ1, ω1)) (hω : (ω1.filter fun e => !(e.1 == x)) = ω')
    (k : P (exS T n c j rest ((x, d) :: σ1) ω')) : P (exS T n c (j + 1) (.Assign [.Name x p] v p' :: rest) σ ω) := by rw [st_set hx hv h hω rfl]; exact k
theorem t_list {x : Str} {es : List Expr} {pl : Pos} {ds : List D} (hx : storable c x = true) (h : exL T n c σ ω es = some ds) (hσ : (σ.filter fun e => !(e.1 == x)) = σ') (hω : (ω.filter fun e => !(e.1 == x)) = ω')
    (k : P (exS T n c j rest σ' ((x, true, ds) :: ω'))) : P (exS T n c (j + 1) (.Assign [.Name x p] (.List es pl) p' :: rest) σ ω) := by rw [st_list hx h hσ hω rfl]; exact k
theorem t_comp {x : Str} {elt : Expr} {gs : List Comprehension} {scope : Scope} {pl : Pos} {ds : List D} (hx : storable c x = true) (h : exC T n c σ ω (.ListComp elt gs scope pl) = some (ds, σ1, ω1)) (hω : (ω1.filter fun e => !(e.1 == x)) = ω')
    (k : P (exS T n c j rest ((x, .list ds) :: σ1) ω')) : P (exS T n c (j + 1) (.Assign [.Name x p] (.ListComp elt gs scope pl) p' :: rest) σ ω) := by rw [st_comp hx h hω rfl]; exact k
theorem t_dict {x : Str} {kx vx gt gi : Expr} {scope : Scope} {pl : Pos} {prs : List (Str × Str)} (hx : (storable c x && !swapsS c scope x p pl) = true) (h : dictcW T n c (reveal ω ++ σ) kx vx gt gi scope = some prs)
    (k : P (exS T n c j rest ((x, .sdct prs) :: (reveal ω ++ σ)) [])) : P (exS T n c (j + 1) (.Assign [.Name x p] (.DictComp kx vx [⟨gt, gi, [], 0⟩] scope pl) p' :: rest) σ ω) := by
  rw [Bool.and_eq_true, Bool.not_eq_true'] at hx
  refine (?_ : exS T n c (j + 1) (.Assign [.Name x p] (.DictComp kx vx [⟨gt, gi, [], 0⟩] scope pl) p' :: rest) σ ω = exS T n c j rest ((x, .sdct prs) :: (reveal ω ++ σ)) []) ▸ k
  refine step (q := (.next, (x, .sdct prs) :: (reveal ω ++ σ), [])) ?_ rfl
  show setW T n c x p (.DictComp kx vx [⟨gt, gi, [], 0⟩] scope pl) σ ω = _
  unfold setW
  rw [if_pos hx.1]
  show (if swapsS c scope x p pl = true then none else _) = _
  rw [hx.2, h]
  rfl
theorem t_one {x : Str} {px pt pv : Pos} {w : Nat} {elt gt gi : Expr} {scope : Scope} {z : Bool} (hx : storable c x = true) (h : setcW T n c (reveal ω ++ σ) elt gt gi scope = some z)
    (k : P (exS T n c j rest ((x, .bool z) :: (reveal ω ++ σ)) [])) : P (exS T n c (j + 1) (.Assign [.Tuple [.Name x px] w pt] (.SetComp elt [⟨gt, gi, [], 0⟩] scope pv) p' :: rest) σ ω) := by
  refine (?_ : exS T n c (j + 1) (.Assign [.Tuple [.Name x px] w pt] (.SetComp elt [⟨gt, gi, [], 0⟩] scope pv) p' :: rest) σ ω = exS T n c j rest ((x, .bool z) :: (reveal ω ++ σ)) []) ▸ k
  refine step (q := (.next, (x, .bool z) :: (reveal ω ++ σ), [])) ?_ rfl
  show setOneW T n c x elt gt gi scope σ ω = _
  unfold setOneW
  rw [if_pos hx, h]
  rfl
theorem t_if {t : Expr} {b1 b2 : List Stmt} {z : Bool} (h : exT T n c σ ω t = some z) (kt : z = true → Then P (exS T n c j rest) (exS T n c j b1 σ ω)) (kf : z = false → Then P (exS T n c j rest) (exS T n c j b2 σ ω)) :
    P (exS T n c (j + 1) (.If t b1 b2 p :: rest) σ ω) := by
  cases z with
  | true => rw [st_if h (fun _ => rfl) (fun h => nomatch h)]; exact kt rfl
  | false => rw [st_if h (fun h => nomatch h) (fun _ => rfl)]; exact kf rfl
theorem t_for {tgt it : Expr} {body orelse : List Stmt} {xs : List Str} {rows : List (List D)} (hf : foldOk it = true) (h : exI T n c σ ω it tgt = some ((xs, rows), σ1, ω1)) (hs : xs.all (storable c) = true)
    (k : Then P (exS T n c j rest) (forW (exS T n c j body) (exS T n c j orelse) xs rows σ1 ω1)) : P (exS T n c (j + 1) (.For tgt it body orelse p :: rest) σ ω) := by rw [st_for hf h hs rfl]; exact k
theorem t_ret {e : Expr} {d : D} (h : exE T n c σ ω e = some (d, σ1, ω1)) (k : P (some (.ret d, σ1, ω1))) : P (exS T n c (j + 1) (.Return (some e) p :: rest) σ ω) := by rw [st_ret h]; exact k
theorem t_try {body orelse : List Stmt} {h₀ : ExceptHandler} {hs : List ExceptHandler} (k : Then (Then P (exS T n c j rest)) (exS T n c j orelse) (exS T n c j body σ ω)) : P (exS T n c (j + 1) (.Try body (h₀ :: hs) orelse [] p :: rest) σ ω) := k
theorem t_nil (k : P (some (.next, σ, ω))) : P (exS T n c (j + 1) [] σ ω) := k
theorem t_run {s : Stmt} {σ1 : Names} {ω1 : Own} (h : exStep T n c (exS T n c j) σ ω s = some (.next, σ1, ω1)) (k : P (exS T n c j rest σ1 ω1)) : P (exS T n c (j + 1) (s :: rest) σ ω) := by rw [step h rfl]; exact k
theorem t_brk : P (some (.brk, σ, ω)) → P (exS T n c (j + 1) (.Break p :: rest) σ ω) := id
theorem then_next {k : Names → Own → Res} (h : P (k σ ω)) : Then P k (some (.next, σ, ω)) := h
theorem then_brk {k : Names → Own → Res} (h : P (some (.brk, σ, ω))) : Then P k (some (.brk, σ, ω)) := h
theorem fork_next {k : Names → Own → Res} (h : P (k σ ω)) : ForK P k (some (.next, σ, ω)) := h
theorem fork_brk {k : Names → Own → Res} (h : P (some (.next, σ, ω))) : ForK P k (some (.brk, σ, ω)) := h
theorem f_nil {body orelse : Names → Own → Res} {xs : List Str} (k : P (orelse σ ω)) : P (forW body orelse xs [] σ ω) := k
theorem f_cons {body orelse : Names → Own → Res} {xs : List Str} {r : List D} {rs : List (List D)} (hl : r.length = xs.length) (k : ForK P (forW body orelse xs rs) (body (putAll xs r σ) (ω.filter fun e => !xs.contains e.1))) :
    P (forW body orelse xs (r :: rs) σ ω) := by
  conv => arg 1; unfold forW
  rw [if_pos (by simpa using hl)]
  exact k
theorem shown_none {e : Expr} (h0 : (ω.all fun x => !ment fuelM x.1 e) = true) : shown e σ ω = σ ∧ unshown e ω = ω := by
  have hn : ∀ x ∈ ω, ment fuelM x.1 e = false := fun x hx => not_t (List.all_eq_true.mp h0 x hx)
  unfold shown unshown
  rw [List.filter_eq_nil_iff.mpr fun x hx => by rw [hn x hx]; decide, List.filter_eq_self.mpr fun x hx => by rw [hn x hx]; rfl]
  exact ⟨rfl, rfl⟩
theorem exI_of {it tgt : Expr} {xs : List Str} {rows : List (List D)} (h0 : (ω.all fun x => !ment fuelM x.1 it) = true) (h : iterW (ev T n) c σ it tgt = some (xs, rows)) : exI T n c σ ω it tgt = some ((xs, rows), σ, ω) := by
  have hs := shown_none h0 (σ := σ)
  unfold exI
  rw [hs.1, hs.2, h]; rfl
theorem exC_of {elt : Expr} {g : Comprehension} {gs : List Comprehension} {scope : Scope} {out : List D} (h0 : (ω.all fun x => !ment fuelM x.1 (.ListComp elt (g :: gs) scope p)) = true) (h : compW (ev T n) c σ elt g gs scope = some (.list out)) :
    exC T n c σ ω (.ListComp elt (g :: gs) scope p) = some (out, σ, ω) := by
  have hs := shown_none h0 (σ := σ)
  unfold exC
  rw [hs.1, hs.2]
  show (compW (ev T n) c σ elt g gs scope).bind _ = _
  rw [h]; rfl
theorem tv_or2 {r : Ev} {e1 e2 : Expr} {k : Nat} {z1 z2 : Bool} (h1 : tvW r c σ k e1 = some z1) (h2 : tvW r c σ k e2 = some z2) : tvW r c σ (k + 1) (.BoolOp .Or [e1, e2] p) = some (z1 || z2) := by
  show tvAll (tvW r c σ k) .Or [e1, e2] = _
  simp only [tvAll, h1, h2, Option.bind_some]
  cases z1 <;> cases z2 <;> rfl
theorem tv_and2 {r : Ev} {e1 e2 : Expr} {k : Nat} {z1 z2 : Bool} (h1 : tvW r c σ k e1 = some z1) (h2 : tvW r c σ k e2 = some z2) : tvW r c σ (k + 1) (.BoolOp .And [e1, e2] p) = some (z1 && z2) := by
  show tvAll (tvW r c σ k) .And [e1, e2] = _
  simp only [tvAll, h1, h2, Option.bind_some]
  cases z1 <;> cases z2 <;> rfl
theorem exT_of {t : Expr} {z : Bool} (h : tvW (ev T n) c (reveal ω ++ σ) 8 t = some z) : exT T n c σ ω t = some z := h

theorem e_bin {l q : Expr} {op : Operator} {a b d : D} (h1 : ev T n c σ l = some a) (h2 : ev T n c σ q = some b) (h3 : binD op a b = some d) : ev T (n + 1) c σ (.BinOp l op q p) = some d := by
  show ((ev T n c σ l).bind fun a => (ev T n c σ q).bind fun b => binD op a b) = _
  rw [h1, h2]; exact h3
theorem e_cmp {l q : Expr} {op : CmpOp} {a b : D} {z : Bool} (hm : behindInMarks op q = false) (h1 : ev T n c σ l = some a) (h2 : ev T n c σ q = some b) (h3 : cmpD op a b = some z) : ev T (n + 1) c σ (.Compare l [op] [q] p) = some (.bool z) := by
  show (if behindInMarks op q then none else _) = _
  rw [hm]
  show ((ev T n c σ l).bind fun a => (ev T n c σ q).bind fun b => (cmpD op a b).map D.bool) = _
  rw [h1, h2]
  simp only [Option.bind_some, h3, Option.map_some]
theorem tv_cmp' {l q : Expr} {op : CmpOp} {a b : D} {z : Bool} {r : Ev} {k : Nat} (hm : behindInMarks op q = false) (h1 : r c σ l = some a) (h2 : r c σ q = some b) (h3 : cmpD op a b = some z) : tvW r c σ (k + 1) (.Compare l [op] [q] p) = some z := by
  show (if behindInMarks op q then none else _) = _
  rw [hm]
  show ((r c σ l).bind fun a => (r c σ q).bind fun b => cmpD op a b) = _
  rw [h1, h2]; exact h3
theorem tv_not' {x : Expr} {r : Ev} {k : Nat} {z : Bool} (h : tvW r c σ k x = some z) : tvW r c σ (k + 1) (.UnaryOp .Not x p) = some (!z) := by
  show (tvW r c σ k x).map (!·) = _
  rw [h]; rfl
theorem tv_name {x : Str} {r : Ev} {k : Nat} {d : D} {z : Bool} (h : r c σ (.Name x p) = some d) (ht : truthD d = some z) : tvW r c σ (k + 1) (.Name x p) = some z := by
  show (if plainTest (.Name x p) then (r c σ (.Name x p)).bind truthD else none) = _
  rw [h]; exact ht
theorem e_item {v i : Expr} {d j d' : D} (hp : partOf i = none) (h1 : ev T n c σ v = some d) (h2 : ev T n c σ i = some j) (h3 : itemD d j = some d') {ctx : Pos} : ev T (n + 1) c σ (.Subscript v i ctx) = some d' := by
  show (partOf i).elim ((ev T n c σ v).bind fun d => (ev T n c σ i).bind fun j => itemD d j) _ = _
  rw [hp, h1, h2]; exact h3
theorem e_part {v i : Expr} {lo hi : Option Expr} {d d' : D} {l h : Option D} (hp : partOf i = some (lo, hi)) (h1 : ev T n c σ v = some d) (h2 : optW (ev T n) c σ lo = some l) (h3 : optW (ev T n) c σ hi = some h) (h4 : partD l h d = some d') {ctx : Pos} : ev T (n + 1) c σ (.Subscript v i ctx) = some d' := by
  show (partOf i).elim _ (fun q => (ev T n c σ v).bind fun d => (optW (ev T n) c σ q.1).bind fun l => (optW (ev T n) c σ q.2).bind fun h => partD l h d) = _
  rw [hp, h1, Option.elim_some, h2, h3]; exact h4
theorem e_meth {o : Expr} {m : Str} {ap : Pos} {args : List Expr} {F : Fn} {x : Str} {ds : List D} {d : D} (hp : (plainBase o && (ap.endLine == p.line && decide (args.length < 20))) = true) (hf : T.mt.lookup m = some F) (ho : ev T n c σ o = some (.str x)) (ha : evsW (ev T n) c σ args = some ds) (hd : F (.str x :: ds) = some d) :
    ev T (n + 1) c σ (.Call (.Attribute o m ap) args [] p) = some d := by
  show (if plainBase o && (ap.endLine == p.line && decide (args.length < 20)) then _ else none) = _
  rw [if_pos hp, hf, ho, ha]
  exact hd
theorem e_ifexp {t u v : Expr} {z : Bool} {d : D} (h1 : tvW (ev T n) c σ 8 t = some z) (h2 : ev T n c σ (if z then u else v) = some d) : ev T (n + 1) c σ (.IfExp t u v p) = some d := by
  show ((tvW (ev T n) c σ 8 t).bind fun z => ev T n c σ (if z then u else v)) = _
  rw [h1]; exact h2
theorem t_aug {x : Str} {op : Operator} {v : Expr} {a q r : D} (hx : (!noLoad x && storable c x) = true) (hω : ω.lookup x = none) (hσ : σ.lookup x = some a) (hv : ev T n c (reveal ω ++ σ) v = some q) (hr : inD op a q = some r) (hf : (a.flat && (q.flat && r.flat)) = true) (hω' : (ω.filter fun e => !(e.1 == x)) = ω')
    (k : P (exS T n c j rest ((x, r) :: σ) ω')) : P (exS T n c (j + 1) (.AugAssign (.Name x p) op v p' :: rest) σ ω) := by
  refine t_run (σ1 := (x, r) :: σ) (ω1 := ω') ?_ k
  show augW T n c x op v σ ω = _
  unfold augW
  rw [if_pos hx, hω, Option.elim_none, hσ, Option.bind_some, hv, Option.bind_some, hr, Option.bind_some, if_pos hf, bare, hω']
theorem t_append {x : Str} {e : Expr} {ap pe pn pc : Pos} {ds : List D} {d : D} (hc : (!noLoad x && (ap.endLine == pe.line && !isStar e)) = true) (hx : ω.lookup x = some (true, ds)) (h : exE T n c σ ω e = some (d, σ1, ω1)) (hx1 : ω1.lookup x = some (true, ds)) (hl : ds.length < room)
    (hω : (ω1.filter fun e => !(e.1 == x)) = ω') (k : P (exS T n c j rest σ1 ((x, true, ds ++ [d]) :: ω'))) : P (exS T n c (j + 1) (.Expr (.Call (.Attribute (.Name x pn) ("append" : Str) ap) [e] [] pe) pc :: rest) σ ω) := by
  refine t_run (σ1 := σ1) (ω1 := (x, true, ds ++ [d]) :: ω') ?_ k
  have ha : app? (.Call (.Attribute (.Name x pn) ("append" : Str) ap) [e] [] pe) = some (x, e, ap, pe) := by
    show (if ("append" : Str) == ("append" : Str) then some (x, e, ap, pe) else none) = _
    rw [beq_self_eq_true]; rfl
  have hs : exStep T n c (exS T n c j) σ ω (.Expr (.Call (.Attribute (.Name x pn) ("append" : Str) ap) [e] [] pe) pc) = (app? (.Call (.Attribute (.Name x pn) ("append" : Str) ap) [e] [] pe)).bind (fun q => appendW T n c q.1 q.2.1 q.2.2.1 q.2.2.2 σ ω) := by kernel_rfl
  rw [hs]
  rw [ha, Option.bind_some]
  unfold appendW
  rw [if_pos hc, hx, Option.bind_some, h, Option.bind_some, hx1, Option.bind_some, if_pos ⟨rfl, rfl, hl⟩, bare, hω]

theorem e_name {x : Str} {d : D} (hn : noLoad x = false) (h : σ.lookup x = some d) : ev T (n + 1) c σ (.Name x p) = some d := by
  show (if noLoad x then none else (σ.lookup x).elim _ some) = _
  rw [hn, h]; rfl
theorem look_skip {x y : Str} {d : D} {r : Option D} (hb : (x == y) = false) (h : σ.lookup x = r) : List.lookup x ((y, d) :: σ) = r := by
  rw [List.lookup_cons, hb]; exact h
noncomputable abbrev Has (σ : Names) (x : Str) (d : D) : Prop := σ.lookup x = some d
noncomputable def forBody : Stmt → List Stmt
  | .For _ _ b _ _ => b
  | .While _ b _ _ => b
  | .If _ b _ _ => b
  | .Try b _ _ _ _ => b
  | _ => []
noncomputable def forElse : Stmt → List Stmt
  | .For _ _ _ b _ => b
  | .While _ _ b _ => b
  | .If _ _ b _ => b
  | _ => []
noncomputable def stmtAt (l : List Stmt) (i : Nat) : Stmt := l.getD i (.Pass default)

theorem iter_plain {r : Ev} {it tgt : Expr} {d : D} {q : List Str × List (List D)} (h1 : isEnum c it tgt = none) (h2 : isZip c it tgt = none) (h3 : r c σ it = some d) (h4 : plainRows tgt d = some q) : iterW r c σ it tgt = some q := by
  unfold iterW
  rw [h1, h2, h3]
  exact h4
theorem iter_enum {r : Ev} {it tgt a : Expr} {xs : List Str} {l : List D} (h1 : isEnum c it tgt = some (xs, a)) (h3 : r c σ a = some (.list l)) : iterW r c σ it tgt = some (xs, enumL l) := by
  unfold iterW
  rw [h1, Option.elim_some, h3]
  rfl
theorem exE_of2 {e : Expr} {d : D} (h0 : (ω.all fun x => !ment fuelM x.1 e) = false) (hf : d.flat = true) (h : ev T n c (reveal ω ++ σ) e = some d) : exE T n c σ ω e = some (d, σ, ω) := by
  unfold exE
  rw [if_neg (by rw [h0]; decide), h]
  simp only [Option.bind_some]
  rw [if_pos hf]
end
end Mine
end
section
set_option maxRecDepth 100000
namespace Mine
open Builtin Builtin.ObjectAttr SeqAt
theorem lc_find : typeLookup (.type "list") "__contains__" = pure (some (.builtin "list.__contains__")) := by rw [typeLookup_type, builtinLookup_eq_fast]; kernel_rfl
theorem lc_ga : typeLookup (.type "list") "__getattribute__" = pure (some (.builtin "list.__getattribute__")) := by rw [typeLookup_type, builtinLookup_eq_fast]; kernel_rfl
theorem lc_type : typeOf (.builtin "list.__contains__") = pure (.type "wrapper_descriptor") := by show builtinType _ = _; rw [builtinType_eq_fast]; kernel_rfl
theorem wd_get : typeLookup (.type "wrapper_descriptor") "__get__" = pure (some (.builtin "wrapper_descriptor.__get__")) := by rw [typeLookup_type, builtinLookup_eq_fast]; kernel_rfl
theorem wd_set : typeLookup (.type "wrapper_descriptor") "__set__" = pure none := by rw [typeLookup_type, builtinLookup_eq_fast]; kernel_rfl
theorem wd_del : typeLookup (.type "wrapper_descriptor") "__delete__" = pure none := by rw [typeLookup_type, builtinLookup_eq_fast]; kernel_rfl
theorem slot_lga : Slot "list" "__getattribute__" "list.__getattribute__" :=
  .of (owner := "list") (n := "__getattribute__") lc_ga (by decide +kernel) (by decide +kernel) (by decide +kernel)
    (by first | exact .inl (by decide +kernel) | exact .inr (by decide +kernel)) (by rw [isSubtype_type]; kernel_rfl)
theorem entry_lga : entryFor table "list.__getattribute__" = some Builtin.«object.__getattribute__» :=
  entryFor_alias (id' := "object.__getattribute__") (by kernel_rfl) (by first | rfl | decide +kernel | (unfold String.splitOn; simp +decide [String.splitOnAux])) (by decide +kernel) (by kernel_rfl)
theorem args_lga (a b : Value) : argsOk "list.__getattribute__" ⟨[a, b], []⟩ := by unfold argsOk; kernel_rfl
theorem slot_wget : Slot "wrapper_descriptor" "__get__" "wrapper_descriptor.__get__" :=
  .of (owner := "wrapper_descriptor") (n := "__get__") wd_get (by decide +kernel) (by decide +kernel) (by decide +kernel)
    (by first | exact .inl (by decide +kernel) | exact .inr (by decide +kernel)) (by rw [isSubtype_type]; kernel_rfl)
theorem entry_wget : entryFor table "wrapper_descriptor.__get__" = some Builtin.«wrapper_descriptor.__get__» := entryFor_of_tree (by kernel_rfl)
theorem args_wget (a b c : Value) : argsOk "wrapper_descriptor.__get__" ⟨[a, b, c], []⟩ := by unfold argsOk; kernel_rfl
noncomputable abbrev wrapObj (l : Addr) : Obj := { cls := .type "method-wrapper", data := .fields #[.builtin "list.__contains__", .ref l] }

section
variable {prog : Program} {w : World} {A : Around} {E : Value → Shared → Prop} {s : Shared}
theorem find_contains {l : Addr} {o : Obj} {Q : Found → Shared → Prop} (ho : s.heap.get? l = some o) (hc : o.cls = .type "list") (hd : o.dict = none) (hn : ∀ cd, o.data ≠ .cls cd)
    (h : Q (.bind (.builtin "wrapper_descriptor.__get__") (.builtin "list.__contains__")) s) : wpAny (model prog w) A (find (.ref l) (.type "list") "__contains__") Q E s := by
  unfold find
  refine wpAny_bind (wpAny_of_eq lc_find ?_)
  unfold getOf specialOf
  refine wpAny_bind (wpAny_bind (wpAny_of_eq lc_type (wpAny_of_eq wd_get ?_)))
  unfold dataDescriptor? takesStores specialOf
  refine wpAny_bind (wpAny_bind (wpAny_bind (wpAny_bind (wpAny_of_eq lc_type (wpAny_of_eq wd_set ?_)))))
  refine wpAny_bind (wpAny_bind (wpAny_of_eq lc_type (wpAny_of_eq wd_del ?_)))
  refine wpAny_pure ?_
  refine wpAny_pure ?_
  unfold ownThenClass inOwnDict ObjectAttr.ownDict
  refine wpAny_bind (wpAny_bind (wpAny_bind (wpAny_loadPart ho ?_)))
  have hm : ∀ {P : Option Addr → Shared → Prop} {E' : Value → Shared → Prop}, P none s → wpAny (model prog w) A (match o.data with | .cls c => pure (some c.ns) | _ => instanceDict l false) P E' s := fun {P E'} hP => by
    split
    · rename_i c e; exact absurd e (hn c)
    · unfold instanceDict
      refine wpAny_bind (wpAny_loadPart ho ?_)
      rw [hc, hd]
      exact wpAny_pure hP
  refine hm (wpAny_pure ?_)
  show wpAny _ _ (copiedAttributeGuard _ (.ref l) >>= _) _ _ _
  refine wpAny_bind (wpAny_pure ?_)
  exact wpAny_bind (wpAny_rule (wpAny_pure h))

theorem list_sub : isSubtype (.type "list") (.type "list") = pure true := by rw [isSubtype_type]; kernel_rfl
theorem wget_tree {l : Addr} {Q : Value → Shared → Prop} (hT : s.TypeIs (.ref l) "list") (h : Q (.ref s.heap.objs.size) { s with heap := s.heap.push (wrapObj l) }) :
    wpAny (model prog w) A (Builtin.«wrapper_descriptor.__get__» ⟨[.builtin "list.__contains__", .ref l, .type "list"], []⟩) (fun fin s' => ∃ v, fin = .done (.ret v) ∧ Q v s') E s := by
  show wpAny _ _ ((isInstance (.ref l) (.type "list") >>= _) >>= _) _ _ _
  refine wpAny_bind (wpAny_bind (wpAny_isInstance (T := "list") (b := true) hT list_sub ?_))
  rw [if_neg (by decide)]
  refine wpAny_pure ?_
  exact wpAny_bind (wpAny_newObj_type (wpAny_pure ⟨_, rfl, h⟩))

theorem attr_contains {l : Addr} {o : Obj} {ex : Bool} {Q : Value → Shared → Prop} (ho : s.heap.get? l = some o) (hc : o.cls = .type "list") (hd : o.dict = none) (hn : ∀ cd, o.data ≠ .cls cd)
    (h : ∀ tk, Q (.ref s.heap.objs.size) { s with heap := s.heap.push (wrapObj l), toks := tk }) : wpAny (model prog w) A (getAttr (.ref l) "__contains__" ex) Q E s := by
  have hT : ∀ tk, ({ s with toks := tk } : Shared).TypeIs (.ref l) "list" := fun _ => ⟨o, ho, hc⟩
  unfold getAttr getAttrBy
  refine wpAny_bind (wpAny_mkText ?_)
  refine wpAny_holding (wpAny_bind (wpAny_typeOf (hT _) ?_))
  refine wpAny_bind (wpAny_of_eq lc_ga ?_)
  show wpAny _ _ (if (onTheHeap (.type "list") && _) = true then _ else getAttrByItsOwn (.ref l) _ (.type "list") (.builtin "list.__getattribute__") true ex) _ _ _
  rw [if_neg (by decide)]
  unfold getAttrByItsOwn
  refine wpAny_bind (wpAny_of_eq (a := none) (by rfl) ?_)
  refine wpAny_bind (wpAny_attempt (wpAny_holding ?_))
  unfold callGetattribute
  rw [if_neg (by cases ex <;> decide)]
  unfold boundAndCalled
  rw [slot_lga.bind]
  refine wpAny_bind (wpAny_pure ?_)
  refine wpAny_call_entry slot_lga (hT _) entry_lga ?_ (args_lga _ _)
  show wpAny _ _ (attrName _ >>= _) _ _ _
  refine wpAny_bind (wpAny_pure ?_)
  refine wpAny_bind (wpAny_typeOf (hT _) ?_)
  refine wpAny_bind (find_contains ho hc hd hn ?_)
  show wpAny _ _ (bindTo _ _ _ _) _ _ _
  unfold bindTo
  show wpAny _ _ (holding [.builtin "list.__contains__"] (call (.builtin "wrapper_descriptor.__get__") [.builtin "list.__contains__", .ref l, .type "list"]) >>= fun v => ret v) _ _ _
  refine wpAny_bind (wpAny_holding (wpAny_call_entry slot_wget lc_type entry_wget (wget_tree (hT _) (wpAny_pure ⟨_, rfl, ?_⟩)) (args_wget _ _ _)))
  show wpAny _ _ (handedOut (.ref s.heap.objs.size)) _ _ _
  unfold handedOut
  exact wpAny_pure (h _)

theorem check_lc (l : Addr) (x : Value) : checkBoundCall "list.__contains__" ⟨[.ref l, x], []⟩ = pure () := by kernel_rfl
theorem call_wrap {M l : Addr} {x : Value} {Q : Value → Shared → Prop} (hM : s.heap.get? M = some (wrapObj l))
    (h : codeAny (model prog w) A (.builtin "list.__contains__" ⟨[.ref l, x], []⟩) (fun r s' => match r with | .ok (.ret v) => Q v s' | .ok _ => False | .error e => E e s') s) : wpAny (model prog w) A (call (.ref M) [x]) Q E s := by
  refine wpAny_call (codeAny_of_tree ?_)
  show wpAny _ A.in1 (callAny (.ref M) ⟨[x], []⟩) _ _ s
  simp only [callAny]
  refine wpAny_bind (wpAny_load hM ?_)
  simp only [show (Value.type "method-wrapper" == Value.type "method" || Value.type "method-wrapper" == Value.type "builtin_function_or_method" || Value.type "method-wrapper" == Value.type "method-wrapper") = true by decide, if_true]
  show wpAny _ _ (if (Value.type "method-wrapper" != Value.type "method") = true then (checkBoundCall "list.__contains__" ⟨[.ref l, x], []⟩ >>= fun _ => again (.builtin "list.__contains__" ⟨[.ref l, x], []⟩)) else _) _ _ _
  rw [if_pos (by decide)]
  refine wpAny_bind (wpAny_of_eq (a := ()) (check_lc l x) ?_)
  refine wpAny_pure ?_
  exact ⟨Code.quiet_builtin _ (by decide +kernel), h⟩
theorem call_contains {M l : Addr} {W : List Addr} {b : Base} {k : Nat} {x : Value} {d : D} {ds : List D} {vs : List Value} {Q : Value → Shared → Prop} (hM : s.heap.get? M = some (wrapObj l)) (hl : s.heap.IsList l vs.toArray) (q : Reps (off W s.heap) ds vs) (r : Rep (off W s.heap) d x)
    (h1 : D.ok deep d = true) (h2 : ds.all (D.ok 3) = true) (hu : A.units + 65 < cLine) (h : Q (.bool (ds.any fun y => y.eqv d)) s) : wpAny (model prog w) A (call (.ref M) [x]) Q E s := by
  obtain ⟨f, g1, g2⟩ := eqMembers (A := A) h1 h2 r q (by omega)
  refine call_wrap hM ?_
  obtain ⟨⟨cls, dd, data, sl⟩, ho, hc, n, hd⟩ := id hl
  simp only at hc hd
  subst hc hd
  refine codeAny_builtin F.entry_list_contains ?_
  rw [Around.under_plainId (by decide +kernel) _]
  refine list_containsAt l vs.toArray n dd sl x f prog w A _ s ⟨ho, g1, ?_⟩
  show Q _ s
  rw [g2]; exact h
end
end Mine
end
section
set_option maxRecDepth 100000
namespace Mine
theorem enter_fn {b : Base} {A : Around} {W : List Addr} {k : Nat} {s : Shared} {f : Addr} {o : Obj} {fd : FuncData} {body : List Stmt} {ps : List Str} {vs : List Value} {R : Result → Shared → Prop} (ho : b.h₀.get? f = some o) (hd : o.data = .func fd) (hlim : b.h₀.NoLimit) (hcd : b.h₀.CodeRec fd.code fd.qualname) (hbody : fd.body = .stmts body) (hclo : fd.closure = []) (hg : fd.globals = mainGlobals) (hbl : fd.builtins = builtinsNs)
    (hk : fd.scope.kind = .function) (hco : fd.scope.isCoroutine = false) (hgen : fd.scope.isGenerator = false) (hbind : bindArgs fd ⟨vs, []⟩ = pure (ps.zip vs)) (hvl : vs.length = ps.length) (hps : ps.all (storable (scOf fd.scope)) = true) (hnd : ps.Nodup) (hcn : (ownCells fd.scope).Nodup)
    (ok : Ok b A W (k + 1) s)
    (h : ∀ env m cm s1, env.frame = some env.locals → In b (A.deeper env) (W ++ hid env) k (scOf fd.scope) [] env m cm s1 → (∀ (i : Nat) x v, ps[i]? = some x → vs[i]? = some v → val env m cm x = some v) → (∃ h1 tk, s1 = { s with heap := h1, toks := tk } ∧ ∀ b o, s.heap.get? b = some o → h1.get? b = some o) → (∀ a ∈ hid env, s.heap.get? a = none) → env.locals = s.heap.objs.size → fr (A.deeper env) = env.locals :: fr A →
      wpAny (model b.prog b.w) (A.deeper env) (execs body env) (fun fl s' => R (.ok (.ret (match fl with | .ret v => v | _ => .none))) s') (fun e s' => wpAny (model b.prog b.w) (A.deeper env) (leaving env e) (fun _ s'' => R (.error e) s'') (fun e' s'' => R (.error e') s'') s') s1) :
    codeAny (model b.prog b.w) A (.call (.ref f) ⟨vs, []⟩) R s := by
  refine codeAny_call_function ok.limit (ok.inv f o ho) hd hco hgen hbody (hcd.keeps ok.inv) ?_
  rw [hbind]
  refine wpAny_pure ?_
  have hzip : (ps.zip vs).map (·.1) = ps := by rw [List.map_fst_zip]; omega
  rw [hclo]
  refine wpAny_newFunctionEnv_cells hk (fun x hx => ?_) fun env he s1 xc => ?_
  · have hx1 : x.1 ∈ ps := by rw [← hzip]; exact List.mem_map.mpr ⟨x, hx, rfl⟩
    have hst := List.all_eq_true.mp hps x.1 hx1
    unfold storable at hst
    rw [Bool.or_eq_true, Bool.and_eq_true, beq_iff_eq, beq_iff_eq] at hst
    rcases hst with hst | ⟨h1, h2⟩
    · exact .inl hst
    · refine .inr ⟨h1, lookup_of_mem ?_⟩
      rw [cellsFrom_names]
      simpa [scOf, ownCells] using h2
  · refine ⟨(hlim.keeps ok.inv).keeps xc.toInCall.keep, codeAny_func ?_⟩
    have henv := he.symm
    clear he
    have hloc : env.locals = s.heap.objs.size := by rw [← henv]; rfl
    have hcells : env.cells = cellsFrom (s.heap.objs.size + 1) fd.scope.names [] := by rw [← henv]; rfl
    have hscope : env.scope = fd.scope := by rw [← henv]; rfl
    have hframe : env.frame = some env.locals := by rw [← henv]; rfl
    obtain ⟨h1, t1, rfl, hkeep⟩ := xc.done
    have dead : ∀ a ∈ hid env, s.heap.get? a = none := fun a ha => by
      rcases List.mem_cons.mp ha with rfl | ha
      · rw [hloc]; exact none_at_size _
      · obtain ⟨⟨nm, c⟩, hm, rfl⟩ := List.mem_map.mp ha
        have := xc.above nm c hm
        rw [hloc] at this
        exact none_above _ (Nat.le_of_lt this)
    have ine : InE env (bindL env.kindOf (ps.zip vs) fun _ => none) (bindC env.kindOf (ps.zip vs) fun _ => none) h1 := ⟨xc.toInCall.ns, xc.cell, xc.apart⟩
    have live : ∀ a ∈ hid env, ∃ ob, h1.get? a = some ob ∧ ∀ zs, ob.data ≠ .fields zs := fun a ha => by
      rcases List.mem_cons.mp ha with rfl | ha
      · obtain ⟨ob, es, ep, e, dd, _⟩ := ine.ns; exact ⟨ob, e, fun zs q => by rw [dd] at q; cases q⟩
      · obtain ⟨⟨nm, c⟩, hm, rfl⟩ := List.mem_map.mp ha
        have hc' : env.cells.lookup nm = some c := lookup_nodup (by rw [hcells, cellsFrom_names]; simpa [ownCells] using hcn) hm
        obtain ⟨ob, e, dd⟩ := ine.cell nm c hc'
        exact ⟨ob, e, fun zs q => by rw [dd] at q; cases q⟩
    have p1 : Post A s { s with heap := h1, toks := t1 } := Post.of_keeps hkeep
    obtain ⟨outer, hfr, hfo⟩ := ok.frames
    have hfrA : fr (A.deeper env) = env.locals :: fr A := by rw [fr_deeper A env hfr, hframe]; rfl
    have okA := ok.post p1
    have ok1 : Ok b (A.deeper env) (W ++ hid env) k { s with heap := h1, toks := t1 } := by
      refine ⟨ok.handled, ?_, ?_, ⟨env :: outer, ?_, ?_⟩, ?_, ?_, ?_, okA.inv⟩
      · have := ok.depth
        show A.depth + 1 + k < 900
        omega
      · have := ok.units
        show A.units + 3 + 4 * k + 100 < 8000
        omega
      · show A.frames.map (env :: ·) = _
        rw [hfr]; rfl
      · intro env' he
        rcases List.mem_cons.mp he with rfl | he
        · obtain ⟨ob, e, hd'⟩ := live env'.locals List.mem_cons_self
          exact ⟨by rw [hscope, hk]; decide, env'.locals, ob, hframe, e, hd'⟩
        · obtain ⟨outer', hfr', hfo'⟩ := okA.frames
          rw [hfr] at hfr'; cases hfr'
          exact hfo' env' he
      · rw [hfrA]
        intro a ha
        rcases List.mem_cons.mp ha with rfl | ha
        · exact List.mem_append_right _ List.mem_cons_self
        · exact List.mem_append_left _ (ok.sub a ha)
      · intro a ha
        rcases List.mem_append.mp ha with ha | ha
        · exact ok.low a ha
        · cases e : b.h₀.get? a with
          | none => rfl
          | some ob => have := ok.inv a ob e; rw [dead a ha] at this; cases this
      · intro a ha
        rcases List.mem_append.mp ha with ha | ha
        · exact okA.live a ha
        · obtain ⟨ob, e, _⟩ := live a ha; exact ⟨ob, e⟩
    refine h env (bindL env.kindOf (ps.zip vs) fun _ => none) (bindC env.kindOf (ps.zip vs) fun _ => none) { s with heap := h1, toks := t1 } hframe ⟨ok1, ⟨hscope, ?_, by rw [← henv]; exact hg, by rw [← henv]; exact hbl, hk⟩, ine, fun a ha => List.mem_append_right _ ha, fun x dd hx => by cases hx⟩ (fun i x v g1 e1 => ?_) ⟨h1, t1, rfl, hkeep⟩ dead hloc hfrA
    · rw [hcells, cellsFrom_names]; simp [scOf, ownCells]
    · have hm : (x, v) ∈ ps.zip vs := List.mem_of_getElem? (i := i) (by rw [List.getElem?_zip_eq_some]; exact ⟨g1, e1⟩)
      have hba := bind_at (kindOf := env.kindOf) (m := fun _ => none) (cm := fun _ => none) (by rw [hzip]; exact hnd) hm
      have hst := List.all_eq_true.mp hps x (List.mem_of_getElem? g1)
      unfold storable at hst
      rw [Bool.or_eq_true, Bool.and_eq_true, beq_iff_eq, beq_iff_eq] at hst
      have hkk : env.kindOf x = (scOf fd.scope).kind x := by unfold Env.kindOf Sc.kind; rw [hscope]; rfl
      unfold val
      rw [hkk]
      rcases hst with hst | ⟨q1, q2⟩
      · rw [hst]; exact hba.1 (hkk.trans hst)
      · rw [q1]
        have hin : (env.cells.lookup x).isSome = true := lookup_of_mem (by rw [hcells, cellsFrom_names]; simpa [scOf, ownCells] using q2)
        simp only [hin, if_true]
        exact hba.2 (by rw [hkk, q1]; decide)
end Mine
end
section
set_option maxRecDepth 100000
namespace Mine

noncomputable def bindAt (K : Frag) (f : Addr) (vals : List Value) : Sem (List (Str × Value)) := (fdAt K f).elim (pure []) fun fd => bindArgs fd ⟨vals, []⟩

theorem enter_at {b : Base} {K : Frag} {A : Around} {W : List Addr} {k : Nat} {s : Shared} {f : Addr} {ps : List Str} {vs : List Value} {R : Result → Shared → Prop} (X : K.In b.h₀) (hlim : b.h₀.NoLimit) (hm : methOk K f ps = true) (hbind : bindAt K f vs = pure (ps.zip vs)) (hvl : vs.length = ps.length) (ok : Ok b A W (k + 1) s)
    (h : ∀ env m cm s1, env.frame = some env.locals → In b (A.deeper env) (W ++ hid env) k (scOf (scopeAt K f)) [] env m cm s1 → (∀ (i : Nat) x v, ps[i]? = some x → vs[i]? = some v → val env m cm x = some v) → (∃ h1 tk, s1 = { s with heap := h1, toks := tk } ∧ ∀ b o, s.heap.get? b = some o → h1.get? b = some o) → (∀ a ∈ hid env, s.heap.get? a = none) → env.locals = s.heap.objs.size → fr (A.deeper env) = env.locals :: fr A →
      wpAny (model b.prog b.w) (A.deeper env) (execs (bodyAt K f) env) (fun fl s' => R (.ok (.ret (match fl with | .ret v => v | _ => .none))) s') (fun e s' => wpAny (model b.prog b.w) (A.deeper env) (leaving env e) (fun _ s'' => R (.error e) s'') (fun e' s'' => R (.error e') s'') s') s1) :
    codeAny (model b.prog b.w) A (.call (.ref f) ⟨vs, []⟩) R s := by
  obtain ⟨fd, hf, hm⟩ := methOk_is hm
  obtain ⟨oc, od, osl, hl⟩ := fdAt_lookup hf
  have hb := bodyAt_eq hf hm
  rw [← hb.2] at h
  unfold bindAt at hbind
  rw [hf] at hbind
  have at_ := @methAt _ _ _ hm
  exact enter_fn (X _ _ hl) rfl hlim (codeRec_of X (at_ 7 rfl)) hb.1 (List.isEmpty_iff.mp (at_ 1 rfl)) (beq_iff_eq.mp (at_ 2 rfl)) (beq_iff_eq.mp (at_ 3 rfl)) (beq_iff_eq.mp (at_ 4 rfl)) (not_t (at_ 5 rfl)) (not_t (at_ 6 rfl)) hbind hvl (at_ 8 rfl) (of_decide_eq_true (at_ 9 rfl)) (of_decide_eq_true (at_ 10 rfl)) ok h

structure Flt where
  C : Addr
  fI : Addr
  fT : Addr
  fN : Addr
  pI : Addr
  pF : Addr
  iI : Nat
  iF : Nat
noncomputable def slotOk (K : Frag) (C p : Addr) (n : Str) (i : Nat) : Bool := plainGet K C n && findIn K (.ref C) n == some (some (.ref p)) && specialIn K (.ref p) "__get__" == some (some (.builtin "member_descriptor.__get__")) && takesIn K (.ref p) == some true && slotIn K p C == some i &&
  takerIn K C n == some (some (.ref p)) && typeIn K (.ref p) == some (.type "member_descriptor")
noncomputable def fltL (K : Frag) (F : Flt) : List Bool := [
  makesIn K F.C,
  isClsIn K F.C,
  plainOver K F.C,
  findIn K (.ref F.C) "__setattr__" == some (some (.builtin "object.__setattr__")),
  slotOk K F.C F.pI "_it" F.iI,
  slotOk K F.C F.pF "_func" F.iF,
  findIn K (.ref F.C) "__init__" == some (some (.ref F.fI)),
  findIn K (.ref F.C) "__iter__" == some (some (.ref F.fT)),
  findIn K (.ref F.C) "__next__" == some (some (.ref F.fN)),
  isFn K (.ref F.fI),
  isFn K (.ref F.fT),
  isFn K (.ref F.fN),
  findIn K (.ref F.C) "__len__" == some none,
  findIn K (.ref F.C) "__length_hint__" == some none,
  decide (F.iI < 8),
  decide (F.iF < 8),
  decide (F.iI ≠ F.iF),
  methOk K F.fI ["self", "function", "iterable"],
  methOk K F.fT ["self"],
  methOk K F.fN ["self"]]
noncomputable def fltOk (K : Frag) (F : Flt) : Bool := (fltL K F).all _root_.id
theorem fltAt {K : Frag} {F : Flt} (h : fltOk K F = true) (i : Nat) {b : Bool} (hi : (fltL K F)[i]? = some b) : b = true := List.all_eq_true.mp h b (List.mem_of_getElem? hi)
inductive Grown (s : Shared) : Shared → Prop
  | mk (h' : Heap) (tk : Nat) (k : ∀ c o, s.heap.get? c = some o → h'.get? c = some o) : Grown s { s with heap := h', toks := tk }
theorem grown_of {s s1 : Shared} (h : ∃ h1 tk, s1 = { s with heap := h1, toks := tk } ∧ ∀ b o, s.heap.get? b = some o → h1.get? b = some o) : Grown s s1 := by
  obtain ⟨h1, t1, rfl, hk⟩ := h
  exact .mk h1 t1 hk

section
variable {prog : Program} {w : World} {A : Around} {E : Value → Shared → Prop} {s : Shared} {K : Frag} {x C L p : Addr} {h₀ : Heap} {m : Str → Option Value} {news news' : List (Addr × Obj)} {ox ox' od : Obj} {name : Str} {v : Value} {i : Nat}
theorem slot_read {expr : Bool} {Q : Value → Shared → Prop} (X : K.In s.heap) (I : InstAt s.heap x ox C (some od)) (hc : isClsIn K C = true) (hs : slotOk K C p name i = true)
    (hv : (ox.slots[i]?).join = some v) (hh : handedIn v = true) (h : Q v { s with toks := s.toks + 1 }) : wpAny (model prog w) A (getAttr (.ref x) name expr) Q E s := by
  unfold slotOk at hs
  simp only [Bool.and_eq_true, beq_iff_eq] at hs
  obtain ⟨⟨⟨⟨⟨⟨h1, h2⟩, h3⟩, h4⟩, h5⟩, _⟩, _⟩ := hs
  exact get_bind X I (plainGet_of h1).1 (findObj_data hc h2 h3 h4) (plainGet_of h1).2 (wpAny_call (slot_get (s := { s with toks := s.toks + 1 }) X I h5 hv (handed_on hh h)))
theorem slot_store {Q : Unit → Shared → Prop} (F : Fr h₀ L s.heap m) (X : K.In s.heap) (N : News h₀ L s.heap news) (I : InstAt s.heap x ox C (some od))
    (hs : findIn K (.ref C) "__setattr__" = some (some (.builtin "object.__setattr__"))) (hp : plainOver K C = true) (ho : slotOk K C p name i = true) (hz : i < 1000)
    (e : { ox with slots := (ox.slots ++ Array.replicate (i + 1 - ox.slots.size) none).setIfInBounds i (some v) } = ox') (hf : ox'.isFreed = false) (U : Upd x ox ox' news news')
    (h : ∀ h', Fr h₀ L h' m → News h₀ L h' news' → Q () { s with heap := h', toks := s.toks + 1 }) : wpAny (model prog w) A (setAttr (.ref x) name v) Q E s := by
  unfold slotOk at ho
  simp only [Bool.and_eq_true, beq_iff_eq] at ho
  obtain ⟨⟨⟨⟨⟨⟨h1, h2⟩, h3⟩, h4⟩, h5⟩, h6⟩, h7⟩ := ho
  obtain ⟨pre, post, rfl, rfl, a, b⟩ := U.split
  exact set_plain X I hs (osa_descr (s := { s with toks := s.toks + 1 }) KF.slot_mset X I hp h6 h7 (slot_set (s := { s with toks := s.toks + 1 }) F N X I h5 hz a b e hf fun h' F' N' => h h' F' N'))

theorem call_iter_list {l : Addr} {items : Array Value} {Q : Value → Shared → Prop} (hl : s.heap.IsList l items) (h : Q (.ref s.heap.objs.size) { s with heap := s.heap.push { cls := .type "list_iterator", data := .fields #[.ref l, .int 0 0] } }) :
    wpAny (model prog w) A (call (.builtin "iter") [.ref l]) Q E s := by
  refine call_function_entry (by decide +kernel) (by decide +kernel) kdk_entry_iter (kdk_args_iter _) ?_
  unfold Builtin.«iter»
  refine wpAny_bind (m := someArgs "iter" 1 2 _) (wpAny_of_eq (a := [Value.ref l]) (by kernel_rfl) ?_)
  show wpAny _ _ (pyIter (.ref l) >>= _) _ _ _
  exact wpAny_bind (wpAny_pyIter_list hl (wpAny_pure ⟨_, rfl, h⟩))
theorem call_next_item {it l : Addr} {j : Nat} {items : Array Value} {y : Value} {Q : Value → Shared → Prop} (hit : s.heap.IsListIter it l j) (hl : s.heap.IsList l items) (hx : items[j]? = some y)
    (hQ : ∀ h', h'.IsListIter it l (j + 1) → Heap.SameBut it s.heap h' → Q y { s with heap := h' }) : wpAny (model prog w) A (call (.builtin "next") [.ref it]) Q E s := by
  refine call_function_entry (by decide +kernel) (by decide +kernel) kdk_entry_next (kdk_args_next _) ?_
  unfold Builtin.«next»
  refine wpAny_bind (m := someArgs "next" 1 2 _) (wpAny_of_eq (a := [Value.ref it]) (by kernel_rfl) ?_)
  dsimp only
  refine wpAny_bind (wpAny_specialOf (name := Str.ofString "__next__") hit.typeIs slot_listiter_next.lookup ?_)
  refine wpAny_ite_split (fun hab => absurd hab (by decide)) (fun _ => ?_)
  obtain ⟨o, ho, hc, hd⟩ := id hit
  obtain ⟨ol, hol, _, nl, hdl⟩ := hl
  refine wpAny_bind (wpAny_callSpecial?_slot (name := Str.ofString "__next__") hit.typeIs slot_listiter_next
    (wpAny_call_entry slot_listiter_next hit.typeIs entry_listiter_next ?_ (args_listiter_next _)))
  show wpAny _ _ (field (.ref it) 0 >>= _) _ _ s
  refine wpAny_bind (wpAny_field ho hd (x := .ref l) rfl ?_)
  show wpAny _ _ (if (Value.ref l == Value.none) = true then _ else _) _ _ s
  rw [if_neg (show ¬ ((Value.ref l == Value.none) = true) from Bool.false_ne_true)]
  show wpAny _ _ (field (.ref it) 1 >>= _) _ _ s
  refine wpAny_bind (wpAny_field ho hd (x := .int j 0) rfl ?_)
  show wpAny _ _ (seqItems? (.ref l) >>= _) _ _ s
  refine wpAny_bind (wpAny_seqItems hol hdl ?_)
  simp only [Int.toNat_natCast, hx]
  refine wpAny_bind (wpAny_setField ho hd (by simp) (wpAny_pure ⟨y, rfl, wpAny_pure ⟨_, rfl, hQ _ ?_ (Heap.SameBut.update ..)⟩⟩))
  exact ⟨_, Heap.get?_update_self _ ho (Obj.isFreed_of_fields (Obj.data_mapFields hd _)), (Obj.cls_mapFields ..).trans hc, by
    rw [Obj.data_mapFields hd]; simp [rawInt]⟩
theorem call_next_end {it l : Addr} {j : Nat} {items : Array Value} {Q : Value → Shared → Prop} (hh : A.handled = none) (hit : s.heap.IsListIter it l j) (hl : s.heap.IsList l items) (hx : items[j]? = none)
    (hE : ∀ h1 h' e, Heap.SameBut it s.heap h1 → (∃ o, h1.get? it = some o) → Heap.NewExc h1 h' e "StopIteration" → E (.ref e) { s with heap := h' }) : wpAny (model prog w) A (call (.builtin "next") [.ref it]) Q E s := by
  refine call_function_entry (by decide +kernel) (by decide +kernel) kdk_entry_next (kdk_args_next _) ?_
  unfold Builtin.«next»
  refine wpAny_bind (m := someArgs "next" 1 2 _) (wpAny_of_eq (a := [Value.ref it]) (by kernel_rfl) ?_)
  dsimp only
  refine wpAny_bind (wpAny_specialOf (name := Str.ofString "__next__") hit.typeIs slot_listiter_next.lookup ?_)
  refine wpAny_ite_split (fun hab => absurd hab (by decide)) (fun _ => ?_)
  obtain ⟨o, ho, hc, hd⟩ := id hit
  obtain ⟨ol, hol, _, nl, hdl⟩ := hl
  refine wpAny_bind (wpAny_callSpecial?_slot (name := Str.ofString "__next__") hit.typeIs slot_listiter_next
    (wpAny_call_entry slot_listiter_next hit.typeIs entry_listiter_next ?_ (args_listiter_next _)))
  show wpAny _ _ (field (.ref it) 0 >>= _) _ _ s
  refine wpAny_bind (wpAny_field ho hd (x := .ref l) rfl ?_)
  show wpAny _ _ (if (Value.ref l == Value.none) = true then _ else _) _ _ s
  rw [if_neg (show ¬ ((Value.ref l == Value.none) = true) from Bool.false_ne_true)]
  show wpAny _ _ (field (.ref it) 1 >>= _) _ _ s
  refine wpAny_bind (wpAny_field ho hd (x := .int j 0) rfl ?_)
  show wpAny _ _ (seqItems? (.ref l) >>= _) _ _ s
  refine wpAny_bind (wpAny_seqItems hol hdl ?_)
  simp only [Int.toNat_natCast, hx]
  refine wpAny_bind (wpAny_rule (wpAny_bind (wpAny_setField ho hd (by simp) ?_)))
  show wpAny _ _ (newExc (.type "StopIteration") [] >>= _) _ _ _
  refine wpAny_bind ?_
  simp only [newExc, newTuple]
  refine wpAny_bind (wpAny_newObj_type ?_ (by size_fits))
  refine wpAny_bind (m := firstArgMember _ _) (wpAny_of_eq (a := Value.none) (by first | rfl | (simp only [firstArgMember]; rfl)) ?_)
  refine wpAny_newObj_type ?_ (by size_fits)
  simp only [raiseNew]
  refine wpAny_bind (wpAny_handled ?_)
  rw [show A.in1.in1.handled = none from hh]
  refine wpAny_bind (wpAny_pure (wpAny_throw ?_))
  refine hE (s.heap.update it (Obj.mapFields fun z => z.setIfInBounds 0 .none)) _ _ (Heap.SameBut.update ..) ⟨_, Heap.get?_update_self _ ho (Obj.isFreed_of_fields (Obj.data_mapFields hd _))⟩ ⟨fun b o e => Heap.get?_push_of_some _ (Heap.get?_push_of_some _ e), ?_, ⟨_, _, Heap.get?_push_size _ rfl, rfl, rfl⟩⟩
  exact none_above _ (by rw [Heap.size_push]; exact Nat.le_succ _)
end
end Mine
end
section
set_option maxRecDepth 100000
namespace Mine

theorem starOne {e : Expr} {env : Env} (h : isStar e = false) : starEach [e] env = [(false, eval e env)] := star_cons h

noncomputable def sl1 (iI : Nat) (J : Addr) : Array (Option Value) := ((#[] : Array (Option Value)) ++ Array.replicate (iI + 1 - 0) none).setIfInBounds iI (some (.ref J))
noncomputable def sl2 (iI iF : Nat) (J : Addr) (v : Value) : Array (Option Value) := (sl1 iI J ++ Array.replicate (iF + 1 - (sl1 iI J).size) none).setIfInBounds iF (some v)
@[irreducible] noncomputable def sl3 (iI iF : Nat) (J : Addr) (v : Value) : Array (Option Value) := sl2 iI iF J v
theorem sl3_eq (iI iF : Nat) (J : Addr) (v : Value) : sl3 iI iF J v = sl2 iI iF J v := by unfold sl3; rfl
noncomputable abbrev fltObj (F : Flt) (dx J M : Addr) : Obj := { cls := .ref F.C, dict := some dx, data := .plain, slots := sl3 F.iI F.iF J (.ref M) }
theorem set_at {xs : Array (Option Value)} {i : Nat} {v : Option Value} : ((xs ++ Array.replicate (i + 1 - xs.size) none).setIfInBounds i v)[i]? = some v := by
  rw [Array.getElem?_setIfInBounds, if_pos rfl, if_pos]
  rw [Array.size_append, Array.size_replicate]; omega
theorem sl2_F {iI iF : Nat} {J : Addr} {v : Value} : ((sl2 iI iF J v)[iF]?).join = some v := by
  unfold sl2; rw [set_at]; rfl
theorem sl2_I {iI iF : Nat} {J : Addr} {v : Value} (hne : iI ≠ iF) : ((sl2 iI iF J v)[iI]?).join = some (.ref J) := by
  unfold sl2
  have h1 : (sl1 iI J)[iI]? = some (some (.ref J)) := set_at (xs := #[])
  have hlt : iI < (sl1 iI J).size := by
    rcases Nat.lt_or_ge iI (sl1 iI J).size with h | h
    · exact h
    · rw [Array.getElem?_eq_none h] at h1; cases h1
  rw [Array.getElem?_setIfInBounds, if_neg (fun q => hne q.symm), Array.getElem?_append_left hlt, h1]
  rfl

theorem flt_F {F : Flt} {dx J M : Addr} : ((fltObj F dx J M).slots[F.iF]?).join = some (.ref M) := by
  show ((sl3 F.iI F.iF J (.ref M))[F.iF]?).join = _
  rw [sl3_eq, sl2_F]
theorem flt_I {F : Flt} {dx J M : Addr} (h : F.iI ≠ F.iF) : ((fltObj F dx J M).slots[F.iI]?).join = some (.ref J) := by
  show ((sl3 F.iI F.iF J (.ref M))[F.iI]?).join = _
  rw [sl3_eq, sl2_I h]

section
variable {b : Base} {A : Around} {W : List Addr} {k : Nat} {c : Sc} {σ : Names} {env : Env} {m cm : Str → Option Value} {s : Shared}
theorem call_b1 {n : Str} {id : String} {e : Expr} {p p' : Pos} {E : Value → Shared → Prop} {Q : Value → Shared → Prop} (x : In b A W k c σ env m cm s) (hk : c.kind n = some .globalImplicit) (hn : noLoad n = false) (hl : Loads b n (.builtin id)) (he : isStar e = false)
    (h : wpAny (model b.prog b.w) A (eval e env) (fun v s₁ => wpAny (model b.prog b.w) A (call (.builtin id) [v]) Q E s₁) E s) : wpAny (model b.prog b.w) A (eval (.Call (.Name n p) [e] [] p') env) Q E s :=
  Call_Name1 (Name_function_global x.fit.fkind ((x.fit.kindOf n).trans hk) (hl A env s E _ x.fit.globals x.fit.builtins x.ok.inv (callWith_builtin1 h)) (by unfold noLoad at hn; rw [Bool.or_eq_false_iff] at hn; exact hn.1)) (starOne he)
end

theorem init_run {b : Base} {K : Frag} {A : Around} {W : List Addr} {k : Nat} {s : Shared} {F : Flt} {x dx M l : Addr} {items : Array Value} {E : Value → Shared → Prop} {Q : Shared → Prop} {p1 p2 p3 p4 p5 p6 q1 q2 q3 q4 : Pos} (X : K.In b.h₀) (hlim : b.h₀.NoLimit) (hF : fltOk K F = true)
    (hbind : ∀ a c d, bindAt K F.fI [a, c, d] = pure ((["self", "function", "iterable"] : List Str).zip [a, c, d]))
    (hb : bodyAt K F.fI = [.Assign [.Attribute (.Name "self" p1) "_it" p2] (.Call (.Name "iter" p3) [.Name "iterable" p4] [] p5) p6, .Assign [.Attribute (.Name "self" q1) "_func" q2] (.Name "function" q3) q4])
    (hk : (scOf (scopeAt K F.fI)).kind "iter" = some .globalImplicit) (hcl : ownCells (scopeAt K F.fI) = []) (hl : Loads b ("iter" : Str) (.builtin "iter"))
    (ok : Ok b A W (k + 1) s) (hx : s.heap.get? x = some (instObj F.C dx)) (hd : s.heap.get? dx = some emptyDict) (hls : s.heap.IsList l items) (hlx : l ≠ x) (hdx : dx ≠ x) (hx0 : b.h₀.get? x = none)
    (h : ∀ J h' tk, s.heap.get? J = none → h'.get? x = some (fltObj F dx J M) → h'.IsListIter J l 0 → (∀ c o, c ≠ x → s.heap.get? c = some o → h'.get? c = some o) → Q { s with heap := h', toks := tk }) :
    codeAny (model b.prog b.w) A (.call (.ref F.fI) ⟨[.ref x, .ref M, .ref l], []⟩) (fun r s' => match r with | .ok (.ret v) => v = .none ∧ Q s' | .ok _ => False | .error e => E e s') s := by
  have fo := @fltAt _ _ hF
  refine enter_at (ps := ["self", "function", "iterable"]) X hlim (fo 17 rfl) (hbind _ _ _) rfl ok fun env m cm s1 hfr inn hv hkp dead hloc hfrA => ?_
  obtain ⟨h1, t1, rfl, hk1⟩ := hkp
  have hself : val env m cm "self" = some (.ref x) := hv 0 _ _ rfl rfl
  have hfun : val env m cm "function" = some (.ref M) := hv 1 _ _ rfl rfl
  have hitb : val env m cm "iterable" = some (.ref l) := hv 2 _ _ rfl rfl
  rw [hb]
  have hxL : x ≠ env.locals := fun q => by have := dead env.locals List.mem_cons_self; rw [← q, hx] at this; cases this
  have hdL : dx ≠ env.locals := fun q => by have := dead env.locals List.mem_cons_self; rw [← q, hd] at this; cases this
  have hls1 : h1.IsList l items := by obtain ⟨o, e, r⟩ := hls; exact ⟨o, hk1 _ _ e, r⟩
  refine wpAny_execs_cons (plainObj_wpAny_Assign_Attribute (call_b1 inn hk (by decide) hl rfl (name_ok inn.ine inn.fit.fkind (by decide) hitb (call_iter_list hls1 ?_))))
  generalize hJ : ({ s with heap := h1, toks := t1 } : Shared).heap.objs.size = J
  have hJ' : h1.objs.size = J := hJ
  generalize hh2 : h1.push { cls := .type "list_iterator", data := .fields #[.ref l, .int 0 0] } = h2
  have hk2 : ∀ c o, h1.get? c = some o → h2.get? c = some o := fun c o e => by rw [← hh2]; exact Heap.get?_push_of_some _ e
  have hJ2 : h2.get? J = some { cls := .type "list_iterator", data := .fields #[.ref l, .int 0 0] } := by rw [← hh2, ← hJ']; exact Heap.get?_push_size _ rfl
  have hJ1 : h1.get? J = none := by rw [← hJ']; exact none_at_size _
  have hJ0 : s.heap.get? J = none := by
    cases e : s.heap.get? J with
    | none => rfl
    | some o => rw [hk1 _ _ e] at hJ1; cases hJ1
  have ine2 : InE env m cm h2 := inn.ine.keeps fun c _ o e => hk2 c o e
  refine name_ok (s := { s with heap := h2, toks := t1 }) ine2 inn.fit.fkind (by decide) hself ?_
  have F0 : Fr (hideAll s.heap [x]) env.locals h2 (fun y => m y) := ⟨ine2.ns, fun c o e => hk2 c o (hk1 c o (of_hideAll _ e)), by rw [hideAll_size, hloc]; exact Nat.le_refl _⟩
  have nx : ∀ (c : Addr) (o : Obj), s.heap.get? c = some o → c ≠ x → (hideAll s.heap [x]).get? c = some o := fun c o e n => hideAll_get _ e (by simpa using n)
  have N0 : News (hideAll s.heap [x]) env.locals h2 [(x, instObj F.C dx), (J, { cls := .type "list_iterator", data := .fields #[.ref l, .int 0 0] })] := fun p hp => by
    rcases List.mem_cons.mp hp with rfl | hp
    · exact ⟨hk2 _ _ (hk1 _ _ hx), hxL, hideAll_none _ (List.mem_singleton.mpr rfl)⟩
    · rw [List.mem_singleton.mp hp]
      refine ⟨hJ2, fun q => ?_, ?_⟩
      · obtain ⟨o, _, _, e, _⟩ := inn.ine.ns; rw [← q] at e; rw [show h1.get? J = some o from e] at hJ1; cases hJ1
      · cases e : (hideAll s.heap [x]).get? J with
        | none => rfl
        | some o => rw [of_hideAll _ e] at hJ0; cases hJ0
  have I0 : InstAt h2 x (instObj F.C dx) F.C (some emptyDict) := ⟨hk2 _ _ (hk1 _ _ hx), rfl, rfl, hk2 _ _ (hk1 _ _ hd)⟩
  have Xs : ∀ hh : Heap, (∀ c o, b.h₀.get? c = some o → hh.get? c = some o) → K.In hh := fun hh q => X.keeps q
  refine slot_store (s := { s with heap := h2, toks := t1 }) F0 (Xs h2 fun c o e => hk2 _ _ (hk1 _ _ (ok.inv c o e))) N0 I0 (beq_iff_eq.mp (fo 3 rfl)) (fo 2 rfl) (fo 4 rfl) (Nat.lt_trans (of_decide_eq_true (fo 14 rfl)) (by decide)) rfl rfl (.head (fun p hp => by rw [List.mem_singleton.mp hp]; intro q; rw [show x = J from q.symm] at hx; rw [hx] at hJ0; cases hJ0)) fun h3 F3 N3 => ?_
  have hk3 : ∀ c o, c ≠ x → s.heap.get? c = some o → h3.get? c = some o := fun c o n e => F3.keep c o (nx c o e n)
  have inv3 : ∀ c o, b.h₀.get? c = some o → h3.get? c = some o := fun c o e => hk3 c o (fun q => by rw [q, hx0] at e; cases e) (ok.inv c o e)
  have hx3 := (N3 _ (.head _)).1
  have hJ3 := (N3 _ (.tail _ (.head _))).1
  have hcells : env.cells = [] := by
    have := inn.fit.cells
    rw [show (scOf (scopeAt K F.fI)).cells = [] from hcl] at this
    exact List.map_eq_nil_iff.mp this
  have ine3 : ∀ {hh : Heap}, hh.Ns env.locals m → InE env m cm hh := fun hn => ⟨hn, fun n c e => by rw [hcells] at e; (cases e), by rw [hcells]; exact .nil⟩
  refine wpAny_execs_cons (plainObj_wpAny_Assign_Attribute (name_ok (s := { s with heap := h3, toks := t1 + 1 }) (ine3 F3.ns) inn.fit.fkind (by decide) hfun (name_ok (s := { s with heap := h3, toks := t1 + 1 }) (ine3 F3.ns) inn.fit.fkind (by decide) hself ?_)))
  refine slot_store (s := { s with heap := h3, toks := t1 + 1 }) F3 (Xs h3 inv3) N3 ⟨hx3, rfl, rfl, hk3 _ _ hdx hd⟩ (beq_iff_eq.mp (fo 3 rfl)) (fo 2 rfl) (fo 5 rfl) (Nat.lt_trans (of_decide_eq_true (fo 15 rfl)) (by decide)) rfl rfl (.head (fun p hp => by rw [List.mem_singleton.mp hp]; intro q; rw [show x = J from q.symm] at hx; rw [hx] at hJ0; cases hJ0)) fun h4 F4 N4 => ?_
  refine wpAny_execs_nil ?_
  have hfin : h4.get? x = some { cls := .ref F.C, dict := some dx, data := .plain, slots := sl2 F.iI F.iF J (.ref M) } := (N4 _ (.head _)).1
  exact ⟨rfl, h J h4 _ hJ0 (by show h4.get? x = some { cls := .ref F.C, dict := some dx, data := .plain, slots := sl3 F.iI F.iF J (.ref M) }; rw [sl3_eq]; exact hfin) ⟨_, (N4 _ (.tail _ (.head _))).1, rfl, rfl⟩ fun c o n e => F4.keep c o (nx c o e n)⟩
end Mine
end
section
set_option maxRecDepth 100000
namespace Mine

section
variable {M : Model} {A : Around} {E : Value → Shared → Prop} {s : Shared} {K : Frag} {x C f : Addr} {ox : Obj} {od : Option Obj}
theorem own_next {Q : Option Value → Shared → Prop} (X : K.In s.heap) (I : InstAt s.heap x ox C od) (hs : findIn K (.ref C) "__next__" = some (some (.ref f))) (hf : isFn K (.ref f) = true)
    (h : wpAny M A (call (.ref f) [.ref x]) (fun v s' => Q (some v) s') (OwitStop M A Q E) s) : wpAny M A (pyNext (.ref x)) Q E s := by
  unfold pyNext
  refine wpAny_bind (wpAny_attempt (special_fn (name := "__next__") (args := []) X I hs (beq_iff_eq.mp hf) (wpAny_mono h (fun v s' hq => ?_) (fun e s' he => ?_))))
  · exact wpAny_pure hq
  · refine wpAny_bind (wpAny_mono he (fun b s₂ hb => ?_) fun _ _ z => z)
    cases b with
    | true => exact wpAny_pure hb
    | false => exact wpAny_throw hb
theorem own_iter {Q : Value → Shared → Prop} (X : K.In s.heap) (I : InstAt s.heap x ox C od) (hs : findIn K (.ref C) "__iter__" = some (some (.ref f))) (hf : isFn K (.ref f) = true)
    (h : wpAny M A (call (.ref f) [.ref x]) (OwitIt M A Q E) E s) : wpAny M A (pyIter (.ref x)) Q E s := by
  have fin : wpAny M A (call (.ref f) [.ref x] >>= fun v => pure (some v)) (fun r s' => ∃ v, r = some v ∧ OwitIt M A Q E v s') E s :=
    wpAny_bind (wpAny_mono h (fun v s' h' => wpAny_pure ⟨v, rfl, h'⟩) fun _ _ z => z)
  have one : ∀ refuse : Sem Value, wpAny M A (callSpecialIfBoundUnlessNone? (.ref x) "__iter__" refuse) (fun r s' => ∃ v, r = some v ∧ OwitIt M A Q E v s') E s := by
    intro refuse
    simp only [callSpecialIfBoundUnlessNone?, bindSpecialIfBound?]
    refine wpAny_holding (wpAny_bind (wpAny_bind (wpAny_bind (I.type.here ((looks_findIn X hs).here ?_)))))
    refine wpAny_bind (wpAny_askSetting (wpAny_ite ?_))
    have fin2 : wpAny M A (if (Value.ref f == Value.none) = true then (refuse >>= fun v => pure (some v)) else (call (.ref f) [.ref x] >>= fun v => pure (some v))) (fun r s' => ∃ v, r = some v ∧ OwitIt M A Q E v s') E s := by
      rw [if_neg (show ¬ ((Value.ref f == Value.none) = true) from Bool.false_ne_true)]
      exact fin
    split
    · exact wpAny_bind ((bind_fn X _ (beq_iff_eq.mp hf)).here (wpAny_pure (by exact fin2)))
    · exact wpAny_tryCatch (wpAny_bind ((bind_fn X _ (beq_iff_eq.mp hf)).here (wpAny_pure (by exact fin2))))
  unfold pyIter
  refine wpAny_bind (wpAny_bind (I.type.here ((looks_findIn X hs).here ?_)))
  show wpAny M A (callSpecialIfBoundUnlessNone? (.ref x) "__iter__" _ >>= _) Q E s
  refine wpAny_bind (wpAny_mono (one _) (fun r s' hr => ?_) fun _ _ z => z)
  obtain ⟨v, rfl, hv⟩ := hr
  refine wpAny_bind (wpAny_mono hv (fun r s₂ hr => ?_) fun _ _ z => z)
  cases r with
  | none => exact hr.elim
  | some g => exact wpAny_pure hr
theorem own_it {Q : Value → Shared → Prop} {g : Value} (X : K.In s.heap) (I : InstAt s.heap x ox C od) (hs : findIn K (.ref C) "__next__" = some (some g)) (h : Q (.ref x) s) : OwitIt M A Q E (.ref x) s := by
  unfold OwitIt
  exact wpAny_bind (I.type.here ((looks_findIn X hs).here h))
theorem own_none {Q : Option Value → Shared → Prop} {n : Str} (X : K.In s.heap) (I : InstAt s.heap x ox C od) (hs : findIn K (.ref C) n = some none) (h : Q none s) : wpAny M A (specialOf (.ref x) n) Q E s := by
  unfold specialOf
  exact wpAny_bind (I.type.here ((looks_findIn X hs).here h))
end

theorem under_tc (A : Around) (C : Addr) (vals : List Value) : ∃ u, A.under (.builtin "type.__call__" ⟨.ref C :: vals, []⟩) = { A with depth := A.depth + 1, units := u } ∧ u ≤ A.units + 4 := by
  refine ⟨_, rfl, ?_⟩
  have : (Code.builtin "type.__call__" ⟨.ref C :: vals, []⟩).cUnits = 1 := by kernel_rfl
  show A.units + (Code.builtin "type.__call__" ⟨.ref C :: vals, []⟩).cUnits ≤ A.units + 4
  omega
theorem Ok.under {b : Base} {A : Around} {W : List Addr} {k : Nat} {s : Shared} (x : Ok b A W (k + 1) s) (C : Addr) (vals : List Value) : Ok b (A.under (.builtin "type.__call__" ⟨.ref C :: vals, []⟩)) W k s := by
  obtain ⟨u, e, hu⟩ := under_tc A C vals
  rw [e]
  exact ⟨x.handled, by have := x.depth; show A.depth + 1 + k < 900; omega, by have := x.units; show u + 4 * k + 100 < 8000; omega, x.frames, x.sub, x.low, x.live, x.inv⟩

theorem call_flt {b : Base} {K : Frag} {A : Around} {W : List Addr} {k : Nat} {s : Shared} {F : Flt} {M l : Addr} {items : Array Value} {E : Value → Shared → Prop} {Q : Value → Shared → Prop} {p1 p2 p3 p4 p5 p6 q1 q2 q3 q4 : Pos} (X : K.In b.h₀) (hlim : b.h₀.NoLimit) (hF : fltOk K F = true)
    (hbind : ∀ a c d, bindAt K F.fI [a, c, d] = pure ((["self", "function", "iterable"] : List Str).zip [a, c, d]))
    (hb : bodyAt K F.fI = [.Assign [.Attribute (.Name "self" p1) "_it" p2] (.Call (.Name "iter" p3) [.Name "iterable" p4] [] p5) p6, .Assign [.Attribute (.Name "self" q1) "_func" q2] (.Name "function" q3) q4])
    (hk : (scOf (scopeAt K F.fI)).kind "iter" = some .globalImplicit) (hcl : ownCells (scopeAt K F.fI) = []) (hl : Loads b ("iter" : Str) (.builtin "iter"))
    (ok : Ok b A W (k + 2) s) (hls : s.heap.IsList l items)
    (h : ∀ x dx J h' tk, s.heap.get? x = none → s.heap.get? dx = none → s.heap.get? J = none → x ≠ dx → x ≠ J → dx ≠ J → h'.get? x = some (fltObj F dx J M) → h'.get? dx = some emptyDict → h'.IsListIter J l 0 → (∀ c o, s.heap.get? c = some o → h'.get? c = some o) → Q (.ref x) { s with heap := h', toks := tk }) :
    wpAny (model b.prog b.w) A (call (.ref F.C) [.ref M, .ref l]) Q E s := by
  have fo := @fltAt _ _ hF
  obtain ⟨hh, g, d, t, os⟩ := s
  have Xs : K.In hh := X.keeps ok.inv
  refine wpAny_call (make_core (makes_of Xs (fo 0 rfl)) (looks_findIn Xs (beq_iff_eq.mp (fo 6 rfl))) (fun self => bind_fn Xs self (beq_iff_eq.mp (fo 9 rfl))) (.inl rfl) ?_)
  have k2 : ∀ c o, hh.get? c = some o → ((hh.push emptyDict).push (instObj F.C hh.objs.size)).get? c = some o := fun c o e => Heap.get?_push_of_some _ (Heap.get?_push_of_some _ e)
  have ok2 : Ok b A W (k + 2) ⟨(hh.push emptyDict).push (instObj F.C hh.objs.size), g, d, t, os⟩ := ok.post (Post.of_keeps (s := ⟨hh, g, d, t, os⟩) (tk := t) k2)
  have hx : ((hh.push emptyDict).push (instObj F.C hh.objs.size)).get? (hh.objs.size + 1) = some (instObj F.C hh.objs.size) := by
    have := Heap.get?_push_size (hh.push emptyDict) (o := instObj F.C hh.objs.size) rfl
    rwa [Heap.size_push] at this
  have hd : ((hh.push emptyDict).push (instObj F.C hh.objs.size)).get? hh.objs.size = some emptyDict := Heap.get?_push_of_some _ (Heap.get?_push_size _ rfl)
  have hlt : @LT.lt Nat _ l hh.objs.size := by obtain ⟨_, e, _⟩ := hls; exact Heap.lt_size e
  refine codeAny_mono (init_run (E := E) (items := items) (Q := fun s' => Q (.ref (hh.objs.size + 1)) s') X hlim hF hbind hb hk hcl hl (ok2.under F.C [.ref M, .ref l]) hx hd ?_ (addr_ne (by omega)) (addr_ne (by omega)) (ok.none_of_size (Nat.le_succ _)) fun J h' tk hJ hx' hJ' hk' => ?_) fun r s' hr => ?_
  · obtain ⟨o, e, r⟩ := hls; exact ⟨o, k2 _ _ e, r⟩
  · have hn : ∀ c : Addr, hh.get? c = none ∨ ∃ o, hh.get? c = some o := fun c => by cases hh.get? c <;> simp
    have hJn : hh.get? J = none := by
      rcases hn J with h | ⟨o, e⟩
      · exact h
      · rw [show ((hh.push emptyDict).push (instObj F.C hh.objs.size)).get? J = some o from k2 _ _ e] at hJ; cases hJ
    refine h (hh.objs.size + 1) hh.objs.size J h' tk (none_above _ (Nat.le_succ _)) (none_at_size _) hJn (addr_ne (by omega)) (fun q => ?_) (fun q => ?_) hx' (hk' _ _ (addr_ne (by omega)) hd) hJ' fun c o e => hk' c o (fun q => ?_) (k2 c o e)
    · rw [← q] at hJ; rw [show ((hh.push emptyDict).push (instObj F.C hh.objs.size)).get? (hh.objs.size + 1) = some _ from hx] at hJ; cases hJ
    · rw [← q] at hJ; rw [show ((hh.push emptyDict).push (instObj F.C hh.objs.size)).get? hh.objs.size = some _ from hd] at hJ; cases hJ
    · have hc : @LT.lt Nat _ c hh.objs.size := Heap.lt_size (show hh.get? c = some o from e)
      rw [q] at hc; exact absurd hc (by omega)
  · rcases r with e | (v | _ | _ | _) <;> first | exact hr | exact ⟨hr.1, hr.2⟩ | exact hr.elim
end Mine
end
section
set_option maxRecDepth 100000
namespace Mine

theorem wpAny_AttrName {M : Model} {A : Around} {E : Value → Shared → Prop} {s : Shared} {env : Env} {n a : Str} {p p' : Pos} {Q : Value → Shared → Prop} (h : wpAny M A (eval (.Name n p) env) (fun o s1 => wpAny M A (getAttr o a true) Q E s1) E s) : wpAny M A (eval (.Attribute (.Name n p) a p') env) Q E s := by
  rw [arm_eval_Attribute, base_plain rfl]
  refine wpAny_bind (wpAny_mono h (fun o s1 h1 => wpAny_bind (wpAny_standAt (wpAny_bind (wpAny_holding (wpAny_mono h1 (fun r s2 h2 => ?_) fun _ _ e => e))))) fun _ _ e => e)
  show wpAny _ _ (letTemporaryGo (.Name n p) o r >>= _) _ _ _
  exact wpAny_bind (wpAny_pure (wpAny_pure h2))

noncomputable abbrev nextBody (p : Fin 32 → Pos) (q : Fin 4 → Nat) : List Stmt := [.Assign [.Name "func" (p 0)] (.Attribute (.Name "self" (p 1)) "_func" (p 2)) (p 3),
  .While (.Constant (.bool true) (q 0) (p 4)) [.Assign [.Name "item" (p 5)] (.Call (.Name "next" (p 6)) [.Attribute (.Name "self" (p 7)) "_it" (p 8)] [] (p 9)) (p 10),
    .If (.BoolOp .Or [.Compare (.Name "func" (p 11)) [.Is] [.Constant .none (q 1) (p 12)] (p 13), .Compare (.Name "func" (p 14)) [.Is] [.Name "bool" (p 15)] (p 16)] (p 17))
      [.If (.UnaryOp .Not (.Name "item" (p 18)) (p 19)) [.Return (some (.Name "item" (p 20))) (p 21)] [] (p 22)]
      [.If (.UnaryOp .Not (.Call (.Name "func" (p 23)) [.Name "item" (p 24)] [] (p 25)) (p 26)) [.Return (some (.Name "item" (p 27))) (p 28)] [] (p 29)] (p 30)] [] (p 31)]

structure FSt (b : Base) (A : Around) (F : Flt) (W : List Addr) (k : Nat) (x dx J M l ls S : Addr) (xs ys : Array Value) (ds es : List D) (i : Nat) (s : Shared) : Prop where
  x : s.heap.get? x = some (fltObj F dx J M)
  d : s.heap.get? dx = some emptyDict
  m : s.heap.get? M = some (wrapObj ls)
  j : s.heap.IsListIter J l i
  l : s.heap.IsList l xs
  ls : s.heap.IsList ls ys
  ok : Ok b A (S :: J :: W) k s
  rep : Reps (off (S :: J :: W) s.heap) ds xs.toList
  rep2 : Reps (off (S :: J :: W) s.heap) es ys.toList
structure FAp (A : Around) (x dx J M l ls S : Addr) (env? : Option Addr) : Prop where
  fx : x ∉ fr A
  fd : dx ∉ fr A
  fJ : J ∉ fr A
  fM : M ∉ fr A
  fl : l ∉ fr A
  fls : ls ∉ fr A
  fS : S ∉ fr A
  xJ : x ≠ J
  dJ : dx ≠ J
  MJ : M ≠ J
  lJ : l ≠ J
  lsJ : ls ≠ J
  xS : x ≠ S
  dS : dx ≠ S
  MS : M ≠ S
  lS : l ≠ S
  lsS : ls ≠ S
  JS : J ≠ S

noncomputable def skipD (es : List D) (d : D) : Bool := es.any fun y => y.eqv d

section
variable {b : Base} {A : Around} {F : Flt} {W : List Addr} {k : Nat} {x dx J M l ls S : Addr} {xs ys : Array Value} {ds es : List D} {i : Nat} {s s' : Shared}
theorem FSt.post (st : FSt b A F W k x dx J M l ls S xs ys ds es i s) (ap : FAp A x dx J M l ls S none) (p : Post A s s') : FSt b A F W k x dx J M l ls S xs ys ds es i s' where
  x := p.here ap.fx st.x
  d := p.here ap.fd st.d
  m := p.here ap.fM st.m
  j := let ⟨o, e, r⟩ := st.j; ⟨o, p.here ap.fJ e, r⟩
  l := let ⟨o, e, r⟩ := st.l; ⟨o, p.here ap.fl e, r⟩
  ls := let ⟨o, e, r⟩ := st.ls; ⟨o, p.here ap.fls e, r⟩
  ok := st.ok.post p
  rep := st.rep.mono (p.view st.ok.sub)
  rep2 := st.rep2.mono (p.view st.ok.sub)
theorem FSt.go {h' : Heap} {i' : Nat} (st : FSt b A F W k x dx J M l ls S xs ys ds es i s) (ap : FAp A x dx J M l ls S none) (hj : h'.IsListIter J l i') (hs : Heap.SameBut J s.heap h') : FSt b A F W k x dx J M l ls S xs ys ds es i' { s with heap := h' } := by
  have kp : Kp [J] s { s with heap := h' } := ⟨h', s.toks, rfl, fun c o hc e => hs.extBut c o (fun q => hc (by simp [q])) e⟩
  have hsub : ∀ a ∈ ([J] : List Addr), a ∈ S :: J :: W := fun a ha => by rw [List.mem_singleton.mp ha]; simp
  exact ⟨hs.extBut _ _ ap.xJ st.x, hs.extBut _ _ ap.dJ st.d, hs.extBut _ _ ap.MJ st.m, hj, let ⟨o, e, r⟩ := st.l; ⟨o, hs.extBut _ _ ap.lJ e, r⟩, let ⟨o, e, r⟩ := st.ls; ⟨o, hs.extBut _ _ ap.lsJ e, r⟩,
    st.ok.kp kp hsub (fun a ha => by rw [List.mem_singleton.mp ha]; exact ap.fJ) (fun a ha => by rw [List.mem_singleton.mp ha]; obtain ⟨o, e, _⟩ := hj; exact ⟨o, e⟩), st.rep.mono (kp.view hsub), st.rep2.mono (kp.view hsub)⟩
theorem FSt.kp {wr : List Addr} (st : FSt b A F W k x dx J M l ls S xs ys ds es i s) (p : Kp wr s s') (hw : ∀ a ∈ wr, a ∈ S :: J :: W) (ok' : Ok b A (S :: J :: W) k s') (h1 : x ∉ wr) (h2 : dx ∉ wr) (h3 : M ∉ wr) (h4 : J ∉ wr) (h5 : l ∉ wr) (h6 : ls ∉ wr) : FSt b A F W k x dx J M l ls S xs ys ds es i s' :=
  ⟨p.here h1 st.x, p.here h2 st.d, p.here h3 st.m, let ⟨o, e, r⟩ := st.j; ⟨o, p.here h4 e, r⟩, let ⟨o, e, r⟩ := st.l; ⟨o, p.here h5 e, r⟩, let ⟨o, e, r⟩ := st.ls; ⟨o, p.here h6 e, r⟩, ok', st.rep.mono (p.view hw), st.rep2.mono (p.view hw)⟩
theorem Ok.px {b : Base} {A : Around} {W wr : List Addr} {k : Nat} {s s' : Shared} (x : Ok b A W k s) (p : Px A wr s s') (h1 : ∀ a ∈ wr, a ∈ W) (h2 : ∀ a ∈ wr, a ∉ fr A) (h4 : ∀ a ∈ wr, ∃ o, s'.heap.get? a = some o) : Ok b A W k s' := by
  have hs : ∀ a o, a ∉ wr → s.heap.get? a = some o → ∃ sl, s'.heap.get? a = some { o with slots := sl } := by obtain ⟨h1, t1, rfl, a1, b1⟩ := p; exact fun a o n e => b1 a o n e
  refine ⟨x.handled, x.depth, x.units, ?_, x.sub, x.low, fun a ha => ?_, fun a o e => p.here (fun h => by have := x.low a (h1 a h); rw [e] at this; cases this) (fun h => by have := x.low a (x.sub a h); rw [e] at this; cases this) (x.inv a o e)⟩
  · obtain ⟨outer, e, f⟩ := x.frames
    refine ⟨outer, e, fun env' he => ?_⟩
    obtain ⟨hk', L, o, g1, g2, g3⟩ := f env' he
    obtain ⟨sl, e'⟩ := hs L o (fun h => h2 L h (by unfold fr; rw [e]; exact List.mem_filterMap.mpr ⟨env', he, g1⟩)) g2
    exact ⟨hk', L, _, g1, e', g3⟩
  · by_cases hw : a ∈ wr
    · exact h4 a hw
    · obtain ⟨o, e⟩ := x.live a ha
      obtain ⟨sl, e'⟩ := hs a o hw e
      exact ⟨_, e'⟩
end

theorem store_op {b : Base} {A : Around} {W : List Addr} {k : Nat} {c : Sc} {env : Env} {m cm : Str → Option Value} {s : Shared} {y : Str} {v : Value} {M : Model} {E : Value → Shared → Prop} {Q : Unit → Shared → Prop} (i : In b A W k c [] env m cm s) (hx : storable c y = true)
    (h : ∀ s' m' cm', Kp (touch env [y]) s s' → In b A W k c [] env m' cm' s' → val env m' cm' y = some v → (∀ z, z ≠ y → val env m' cm' z = val env m cm z) → Q () s') : wpAny M A (storeName env y v) Q E s := by
  refine store_ok i.ine i.fit.fkind (i.fit.stores hx) fun h' m' cm' tk ine hv ho hm => ?_
  obtain ⟨a, ha, hk, hn⟩ := hm
  have ha' : a ∈ touch env [y] := ha.elim (fun h => h ▸ List.mem_cons_self) fun h => List.mem_cons_of_mem _ (by simp [h])
  have kp : Kp (touch env [y]) s { s with heap := h', toks := tk } := ⟨h', tk, rfl, fun b o hb e => hk b o (fun q => hb (q ▸ ha')) e⟩
  exact h _ m' cm' kp ⟨i.ok.stored (i.hid a (touch_hid ha')) hk hn, i.fit, ine, i.hid, fun y e hy => by cases hy⟩ hv ho

theorem isTrue_is_other {M : Model} {A : Around} {E : Value → Shared → Prop} {s : Shared} {env : Env} {l r : Expr} {p : Pos} {a v : Value} {Q : Bool → Shared → Prop} (hm : behindInMarks .Is r = false) (hp : plainIs a v = true) (hne : a ≠ v) (h1 : ∀ {Q' : Value → Shared → Prop}, Q' a s → wpAny M A (eval l env) Q' E s) (h2 : ∀ {Q' : Value → Shared → Prop}, Q' v s → wpAny M A (eval r env) Q' E s)
    (h : Q false s) : wpAny M A (isTrue (.Compare l [.Is] [r] p) env (eval (.Compare l [.Is] [r] p) env)) Q E s :=
  wpAny_isTrue_Compare1 (hm := hm) (h1 (h2 (wpAny_is_other hp hne (wpAny_truthy_bool h))))

theorem keeps_wrap {M : Model} {h : Heap} {a l : Addr} (e : h.get? a = some (wrapObj l)) : ∃ j, (j = Keeper.frame ∨ j = Keeper.machine ∨ j = Keeper.boundFrame) ∧ Looks M h (keeperOf (.ref a)) j := by
  refine ⟨.machine, .inr (.inl rfl), fun A Q E s k q => ?_⟩
  unfold keeperOf
  refine wpAny_bind (wpAny_load (k _ _ e) ?_)
  simp only [show (Value.type "method-wrapper" != Value.type "method") = true by decide, show (Value.type "method-wrapper" == Value.type "builtin_function_or_method" || Value.type "method-wrapper" == Value.type "method-wrapper") = true by decide, if_true]
  exact wpAny_pure q

theorem funFrames_of {h base : Heap} : ∀ {l : List Env}, FrOk h l → (∀ a ∈ l.filterMap (·.frame), base.get? a = none) → h.FunFrames base l
  | [], _, _ => trivial
  | env :: rest, h1, h2 => by
    obtain ⟨hk, L, o, e1, e2, e3⟩ := h1 env List.mem_cons_self
    refine ⟨hk, ⟨L, o, e1, h2 L (by rw [List.filterMap_cons, e1]; exact List.mem_cons_self), e2, e3⟩, funFrames_of (fun e he => h1 e (List.mem_cons_of_mem _ he)) fun a ha => h2 a ?_⟩
    rw [List.filterMap_cons, e1]; exact List.mem_cons_of_mem _ ha

structure NxS (b : Base) (A : Around) (F : Flt) (W : List Addr) (k : Nat) (x dx J M l ls S : Addr) (xs ys : Array Value) (ds es : List D) (env : Env) (c : Sc) (s0 : Shared) (i pp : Nat) (m' cm' : Str → Option Value) (s' : Shared) : Prop where
  inn : In b (A.deeper env) (S :: J :: (W ++ hid env)) k c [] env m' cm' s'
  hs : val env m' cm' "self" = some (.ref x)
  hf : val env m' cm' "func" = some (.ref M)
  st : FSt b (A.deeper env) F (W ++ hid env) k x dx J M l ls S xs ys ds es pp s'
  px : Px (A.deeper env) (J :: hid env) s0 s'
  lo : i ≤ pp
  hi : pp ≤ ds.length
  sk : ∀ j' d', i ≤ j' → j' < pp → ds[j']? = some d' → skipD es d' = true

inductive NxI (b : Base) (A : Around) (F : Flt) (W : List Addr) (k : Nat) (x dx J M l ls S : Addr) (xs ys : Array Value) (ds es : List D) (env : Env) (c : Sc) (s0 : Shared) (i : Nat) : Nat → Shared → Prop
  | mk {pp : Nat} {m' cm' : Str → Option Value} {s' : Shared} (nx : NxS b A F W k x dx J M l ls S xs ys ds es env c s0 i pp m' cm' s') : NxI b A F W k x dx J M l ls S xs ys ds es env c s0 i (ds.length + 1 - pp) s'
theorem NxI.next {b : Base} {A : Around} {F : Flt} {W : List Addr} {k : Nat} {x dx J M l ls S : Addr} {xs ys : Array Value} {ds es : List D} {env : Env} {c : Sc} {s0 : Shared} {i pp : Nat} {m' cm' : Str → Option Value} {s' : Shared} (nx : NxS b A F W k x dx J M l ls S xs ys ds es env c s0 i (pp + 1) m' cm' s') (hp : pp < ds.length) :
    ∃ n', n' < ds.length + 1 - pp ∧ NxI b A F W k x dx J M l ls S xs ys ds es env c s0 i n' s' := ⟨ds.length + 1 - (pp + 1), Nat.sub_lt_sub_left (Nat.lt_succ_of_lt hp) (Nat.lt_succ_self pp), .mk nx⟩
theorem FSt.notHid {b : Base} {A : Around} {F : Flt} {W : List Addr} {k : Nat} {x dx J M l ls S : Addr} {xs ys : Array Value} {ds es : List D} {env : Env} {i : Nat} {s : Shared} (st : FSt b A F W k x dx J M l ls S xs ys ds es i s) (dead : ∀ a ∈ hid env, s.heap.get? a = none) : (∀ a ∈ ([x, dx, M, J, l, ls] : List Addr), a ∉ hid env) ∧ S ∉ hid env := by
  have away : ∀ {a : Addr}, (∃ o, s.heap.get? a = some o) → a ∉ hid env := fun ⟨o, e⟩ q => by rw [dead _ q] at e; cases e
  exact ⟨List.forall_mem_cons.mpr ⟨away ⟨_, st.x⟩, List.forall_mem_cons.mpr ⟨away ⟨_, st.d⟩, List.forall_mem_cons.mpr ⟨away ⟨_, st.m⟩, List.forall_mem_cons.mpr ⟨away (st.j.imp fun _ h => h.1), List.forall_mem_cons.mpr ⟨away (st.l.imp fun _ h => h.1), List.forall_mem_cons.mpr ⟨away (st.ls.imp fun _ h => h.1), fun _ h => nomatch h⟩⟩⟩⟩⟩⟩, away (st.ok.live S List.mem_cons_self)⟩
theorem Px.out {A : Around} {J : Addr} {env : Env} {s sb : Shared} {h1 : Heap} {t1 : Nat} (hk1 : ∀ c o, s.heap.get? c = some o → h1.get? c = some o) (dead : ∀ a ∈ hid env, s.heap.get? a = none) (nf : ∀ {a : Addr}, a ∉ hid env → a ∉ fr A → a ∉ fr (A.deeper env)) (q : Px (A.deeper env) (J :: hid env) { s with heap := h1, toks := t1 } sb) : Px A [J] s sb := by
  obtain ⟨h2, t2, rfl, a2, b2⟩ := q
  have away : ∀ {a : Addr} {o : Obj}, s.heap.get? a = some o → a ∉ hid env := fun {a o} e q => by rw [dead a q] at e; cases e
  have nn : ∀ {c : Addr} {o : Obj}, c ∉ [J] → s.heap.get? c = some o → c ∉ J :: hid env := fun {c o} n e q => (List.mem_cons.mp q).elim (fun q => n (q ▸ List.mem_cons_self)) (away e)
  exact ⟨h2, t2, rfl, fun c o n n2 e => a2 c o (nn n e) (nf (away e) n2) (hk1 c o e), fun c o n e => b2 c o (nn n e) (hk1 c o e)⟩
noncomputable abbrev turnBody (p : Fin 32 → Pos) (q : Fin 4 → Nat) : List Stmt := [.Assign [.Name "item" (p 5)] (.Call (.Name "next" (p 6)) [.Attribute (.Name "self" (p 7)) "_it" (p 8)] [] (p 9)) (p 10),
    .If (.BoolOp .Or [.Compare (.Name "func" (p 11)) [.Is] [.Constant .none (q 1) (p 12)] (p 13), .Compare (.Name "func" (p 14)) [.Is] [.Name "bool" (p 15)] (p 16)] (p 17))
      [.If (.UnaryOp .Not (.Name "item" (p 18)) (p 19)) [.Return (some (.Name "item" (p 20))) (p 21)] [] (p 22)]
      [.If (.UnaryOp .Not (.Call (.Name "func" (p 23)) [.Name "item" (p 24)] [] (p 25)) (p 26)) [.Return (some (.Name "item" (p 27))) (p 28)] [] (p 29)] (p 30)]
theorem Px.of_post {A : Around} {wr : List Addr} {sa sb : Shared} (q : Post A sa sb) : Px A wr sa sb := by
  obtain ⟨h2, t2, rfl, a2, b2⟩ := q
  exact ⟨h2, t2, rfl, fun c o _ n e => a2 c o n e, fun c o _ e => b2 c o e⟩
theorem Px.of_touch {A : Around} {J : Addr} {env : Env} {sa sb : Shared} {ws : List Str} (kp : Kp (touch env ws) sa sb) : Px A (J :: hid env) sa sb := by
  obtain ⟨h2, t2, rfl, a2⟩ := kp
  exact Px.of_heap fun c o n e => a2 c o (fun q => n (List.mem_cons_of_mem _ (touch_hid q))) e
theorem FSt.touched {b : Base} {A : Around} {F : Flt} {W : List Addr} {k : Nat} {x dx J M l ls S : Addr} {xs ys : Array Value} {ds es : List D} {env : Env} {i' : Nat} {sa sb : Shared} {ws : List Str} (fs : FSt b A F (W ++ hid env) k x dx J M l ls S xs ys ds es i' sa) (aw : ∀ a ∈ ([x, dx, M, J, l, ls] : List Addr), a ∉ hid env) (kp : Kp (touch env ws) sa sb) (ok : Ok b A (S :: J :: (W ++ hid env)) k sb) :
    FSt b A F (W ++ hid env) k x dx J M l ls S xs ys ds es i' sb :=
  fs.kp kp (fun a ha => List.mem_cons_of_mem _ (List.mem_cons_of_mem _ (List.mem_append_right _ (touch_hid ha)))) ok (fun q => aw x (.head _) (touch_hid q)) (fun q => aw dx (.tail _ (.head _)) (touch_hid q)) (fun q => aw M (.tail _ (.tail _ (.head _))) (touch_hid q)) (fun q => aw J (.tail _ (.tail _ (.tail _ (.head _)))) (touch_hid q)) (fun q => aw l (.tail _ (.tail _ (.tail _ (.tail _ (.head _))))) (touch_hid q)) (fun q => aw ls (.tail _ (.tail _ (.tail _ (.tail _ (.tail _ (.head _)))))) (touch_hid q))
set_option maxHeartbeats 4000000 in
theorem next_turn {b : Base} {K : Frag} {A : Around} {W : List Addr} {k : Nat} {F : Flt} {x dx J M l ls S : Addr} {xs ys : Array Value} {ds es : List D} {i pp : Nat} {p : Fin 32 → Pos} {q : Fin 4 → Nat} {env : Env} {m3 cm3 : Str → Option Value} {s0 s4 : Shared} (X : K.In b.h₀) (fo : ∀ (i : Nat) {b : Bool}, (fltL K F)[i]? = some b → b = true)
    (hkn : (scOf (scopeAt K F.fN)).kind "next" = some .globalImplicit) (hkb : (scOf (scopeAt K F.fN)).kind "bool" = some .globalImplicit) (hki : storable (scOf (scopeAt K F.fN)) "item" = true) (hln : Loads b ("next" : Str) (.builtin "next")) (hlb : Loads b ("bool" : Str) (.type "bool"))
    (ap' : FAp (A.deeper env) x dx J M l ls S none) (aw : ∀ a ∈ ([x, dx, M, J, l, ls] : List Addr), a ∉ hid env) (hd4 : ds.all (D.ok deep) = true) (he3 : es.all (D.ok 3) = true)
    (nx : NxS b A F W k x dx J M l ls S xs ys ds es env (scOf (scopeAt K F.fN)) s0 i pp m3 cm3 s4) {Q : Flow → Shared → Prop} {E : Value → Shared → Prop}
    (hc : ∀ m' cm' s', NxS b A F W k x dx J M l ls S xs ys ds es env (scOf (scopeAt K F.fN)) s0 i (pp + 1) m' cm' s' → pp < ds.length → Q .next s')
    (hr : ∀ (hlt : pp < ds.length) v s', skipD es ds[pp] = false → FSt b (A.deeper env) F (W ++ hid env) k x dx J M l ls S xs ys ds es (pp + 1) s' → Px (A.deeper env) (J :: hid env) s0 s' → Rep (off (S :: J :: (W ++ hid env)) s'.heap) ds[pp] v → Q (.ret v) s')
    (hE : ∀ s5 h6 h7 e, pp = ds.length → NxS b A F W k x dx J M l ls S xs ys ds es env (scOf (scopeAt K F.fN)) s0 i pp m3 cm3 s5 → Heap.SameBut J s5.heap h6 → Heap.NewExc h6 h7 e "StopIteration" → E (.ref e) { s5 with heap := h7 }) :
    wpAny (model b.prog b.w) (A.deeper env) (execs (turnBody p q) env) Q E s4 := by
  have hs3 := nx.hs
  have hf3 := nx.hf
  have i4 := nx.inn
  have st4 := nx.st
  have px4 := nx.px
  have ppx : ∀ {sa sb : Shared}, Post (A.deeper env) sa sb → Px (A.deeper env) (J :: hid env) sa sb := Px.of_post
  have kpx : ∀ {sa sb : Shared} {ws : List Str}, Kp (touch env ws) sa sb → Px (A.deeper env) (J :: hid env) sa sb := Px.of_touch
  have stored : ∀ {i' : Nat} {sa sb : Shared} {ws : List Str} {m' cm' : Str → Option Value} {σ : Names}, FSt b (A.deeper env) F (W ++ hid env) k x dx J M l ls S xs ys ds es i' sa → Kp (touch env ws) sa sb → In b (A.deeper env) (S :: J :: (W ++ hid env)) k (scOf (scopeAt K F.fN)) σ env m' cm' sb →
      FSt b (A.deeper env) F (W ++ hid env) k x dx J M l ls S xs ys ds es i' sb := fun {i' sa sb ws m' cm' σ} fs kp ii => fs.touched aw kp ii.ok
  have hJ : handedIn (.ref J) = true := rfl
  have inX : ∀ {ss : Shared}, Ok b (A.deeper env) (S :: J :: (W ++ hid env)) k ss → K.In ss.heap := fun o => X.keeps o.inv
  unfold turnBody
  refine wpAny_execs_cons (wpAny_Assign_Name (hs := swaps_noComp rfl) (call_b1 i4 hkn (by decide) hln rfl (wpAny_AttrName (name_ok i4.ine i4.fit.fkind (by decide) hs3 ?_))))
  refine slot_read (v := .ref J) (i := F.iI) (inX i4.ok) ⟨st4.x, rfl, rfl, st4.d⟩ (fo 1 rfl) (fo 4 rfl) (flt_I (of_decide_eq_true (fo 16 rfl))) hJ ?_
  have p5 : Post (A.deeper env) s4 { s4 with toks := s4.toks + 1 } := Post.tok _ _ _
  have i5 := i4.post p5
  have st5 := st4.post ap' p5
  have px5 := px4.trans (ppx p5)
  generalize ({ s4 with toks := s4.toks + 1 } : Shared) = s5 at i5 st5 px5
  have hxs : xs.size = ds.length := st5.rep.length
  by_cases hlt : pp < ds.length
  · -- a next item
    obtain ⟨y, hy, ry⟩ := st5.rep.at (List.getElem?_eq_getElem hlt)
    refine call_next_item st5.j st5.l (Array.getElem?_toList ▸ hy) fun h6 hj6 hs6 => ?_
    have st6 := st5.go ap' hj6 hs6
    have kp6 : Kp [J] s5 { s5 with heap := h6 } := ⟨h6, s5.toks, rfl, fun c o hc e => hs6.extBut c o (fun q => hc (q ▸ List.mem_cons_self)) e⟩
    have mJ : ∀ a ∈ ([J] : List Addr), a ∈ S :: J :: (W ++ hid env) := fun a ha => by rw [List.mem_singleton.mp ha]; exact List.mem_cons_of_mem _ List.mem_cons_self
    have i6 : In b (A.deeper env) (S :: J :: (W ++ hid env)) k (scOf (scopeAt K F.fN)) [] env m3 cm3 { s5 with heap := h6 } := i5.kp kp6 mJ (fun a ha => by rw [List.mem_singleton.mp ha]; exact ap'.fJ) (fun a ha => by rw [List.mem_singleton.mp ha]; exact aw J (.tail _ (.tail _ (.tail _ (.head _))))) (fun a ha => by rw [List.mem_singleton.mp ha]; obtain ⟨o, e, _⟩ := hj6; exact ⟨o, e⟩)
    have px6 : Px (A.deeper env) (J :: hid env) s0 { s5 with heap := h6 } := px5.trans (Px.of_heap (tk := s5.toks) fun c o n e => hs6.extBut c o (fun q => n (q ▸ List.mem_cons_self)) e)
    have r6 : Rep (off (S :: J :: (W ++ hid env)) ({ s5 with heap := h6 } : Shared).heap) ds[pp] y := ry.mono (kp6.view mJ)
    generalize ({ s5 with heap := h6 } : Shared) = s6 at st6 i6 px6 r6
    refine store_in2 i6 hki r6 fun s7 m7 cm7 k7 i7 ho7 => ?_
    have st7 := stored st6 k7 i7
    have px7 := px6.trans (kpx k7)
    have hs7 : val env m7 cm7 "self" = some (.ref x) := (ho7 _ (by decide)).trans hs3
    have hf7 : val env m7 cm7 "func" = some (.ref M) := (ho7 _ (by decide)).trans hf3
    refine wpAny_execs_cons (wpAny_If ?_)
    show wpAny _ _ (isTrue (.Compare (.Name "func" (p 11)) [.Is] [.Constant .none (q 1) (p 12)] (p 13)) env (eval (.Compare (.Name "func" (p 11)) [.Is] [.Constant .none (q 1) (p 12)] (p 13)) env) >>= _) _ _ _
    refine wpAny_bind (isTrue_is_other rfl rfl (by simp) (fun hq => name_ok i7.ine i7.fit.fkind (by decide) hf7 hq) (fun hq => Constant_none hq) ?_)
    show wpAny _ _ (isTrue (.Compare (.Name "func" (p 14)) [.Is] [.Name "bool" (p 15)] (p 16)) env (eval (.Compare (.Name "func" (p 14)) [.Is] [.Name "bool" (p 15)] (p 16)) env) >>= _) _ _ _
    refine wpAny_bind (isTrue_is_other (v := .type "bool") rfl rfl (by simp) (fun hq => name_ok i7.ine i7.fit.fkind (by decide) hf7 hq) (fun hq => Name_function_global i7.fit.fkind ((i7.fit.kindOf _).trans hkb) (hlb _ env s7 _ _ i7.fit.globals i7.fit.builtins i7.ok.inv hq) (by decide)) ?_)
    refine wpAny_pure ?_
    show wpAny _ _ (execs [.If (.UnaryOp .Not (.Call (.Name "func" (p 23)) [.Name "item" (p 24)] [] (p 25)) (p 26)) [.Return (some (.Name "item" (p 27))) (p 28)] [] (p 29)] env) _ _ s7
    obtain ⟨v7, e7, r7⟩ := i7.rel "item" ds[pp] rfl
    have hd7 : D.ok deep ds[pp] = true := List.all_eq_true.mp hd4 _ (List.getElem_mem hlt)
    refine wpAny_execs_cons (wpAny_If (isTrue_not (isTrue_plain (he := rfl) (Call_Name1 (name_ok i7.ine i7.fit.fkind (by decide) hf7 ?_) rfl))))
    refine callWith_of (P := fun h => h.get? M = some (wrapObj ls)) rfl (fun h hh => keeps_wrap hh) ?_
    refine evalArgs_plain (spliced_cons (name_ok i7.ine i7.fit.fkind (by decide) e7 (spliced_nil ⟨st7.m, ?_⟩)))
    refine call_contains (W := S :: J :: (W ++ hid env)) (b := b) (k := k) st7.m (by simpa using st7.ls) st7.rep2 r7 hd7 he3 i7.ok.units65 ?_
    refine wpAny_truthy_bool ?_
    have hpp : ds[pp]? = some ds[pp] := List.getElem?_eq_getElem hlt
    cases hsk : skipD es ds[pp] with
    | true =>
      have hsk' : (es.any fun y => y.eqv ds[pp]) = true := hsk
      rw [hsk']
      show wpAny _ _ (execs [] env) _ _ s7
      refine wpAny_execs_nil (wpAny_execs_nil (wpAny_execs_nil ?_))
      refine hc m7 cm7 s7 ⟨i7.names (fun n d h => by cases h), hs7, hf7, st7, px7, Nat.le_succ_of_le nx.lo, hlt, fun j' d' h1 h2 h3 => ?_⟩ hlt
      by_cases hj : j' = pp
      · subst hj; rw [hpp] at h3; cases h3; exact hsk
      · exact nx.sk j' d' h1 (Nat.lt_of_le_of_ne (Nat.le_of_lt_succ h2) hj) h3
    | false =>
      have hsk' : (es.any fun y => y.eqv ds[pp]) = false := hsk
      rw [hsk']
      show wpAny _ _ (execs [.Return (some (.Name "item" (p 27))) (p 28)] env) _ _ s7
      exact wpAny_execs_cons (wpAny_Return_some (name_ok i7.ine i7.fit.fkind (by decide) e7 (hr hlt v7 s7 hsk st7 px7 r7)))
  · -- the end
    cases Nat.le_antisymm nx.hi (Nat.not_lt.mp hlt)
    exact call_next_end i5.ok.handled st5.j st5.l (Array.getElem?_eq_none (Nat.le_of_eq hxs)) fun h6 h7 e hs6 _ hx => hE s5 h6 h7 e rfl ⟨i5, hs3, hf3, st5, px5, nx.lo, nx.hi, nx.sk⟩ hs6 hx

set_option maxHeartbeats 4000000 in
theorem next_run {b : Base} {K : Frag} {A : Around} {W : List Addr} {k : Nat} {s : Shared} {F : Flt} {x dx J M l ls S : Addr} {xs ys : Array Value} {ds es : List D} {i : Nat} {R : Result → Shared → Prop} {p : Fin 32 → Pos} {q : Fin 4 → Nat} (X : K.In b.h₀) (hlim : b.h₀.NoLimit) (hF : fltOk K F = true)
    (hbind : ∀ a, bindAt K F.fN [a] = pure ((["self"] : List Str).zip [a]))
    (hb : bodyAt K F.fN = nextBody p q)
    (hkn : (scOf (scopeAt K F.fN)).kind "next" = some .globalImplicit) (hkb : (scOf (scopeAt K F.fN)).kind "bool" = some .globalImplicit) (hki : storable (scOf (scopeAt K F.fN)) "item" = true) (hkf : storable (scOf (scopeAt K F.fN)) "func" = true) (hln : Loads b ("next" : Str) (.builtin "next")) (hlb : Loads b ("bool" : Str) (.type "bool"))
    (ap : FAp A x dx J M l ls S none) (st : FSt b A F W (k + 1) x dx J M l ls S xs ys ds es i s) (hd4 : ds.all (D.ok deep) = true) (he3 : es.all (D.ok 3) = true) (hn : i ≤ ds.length)
    (hit : ∀ j d v s', i ≤ j → ds[j]? = some d → skipD es d = false → (∀ j' d', i ≤ j' → j' < j → ds[j']? = some d' → skipD es d' = true) → FSt b A F W (k + 1) x dx J M l ls S xs ys ds es (j + 1) s' → Px A [J] s s' → Rep (off (S :: J :: W) s'.heap) d v → R (.ok (.ret v)) s')
    (hend : ∀ e s', (∀ j' d', i ≤ j' → ds[j']? = some d' → skipD es d' = true) → Px A [J] s s' → (∃ o, s'.heap.get? e = some o ∧ o.cls = .type "StopIteration") → R (.error (.ref e)) s') :
    codeAny (model b.prog b.w) A (.call (.ref F.fN) ⟨[.ref x], []⟩) R s := by
  have fo := @fltAt _ _ hF
  refine enter_at (ps := ["self"]) X hlim (fo 19 rfl) (hbind _) rfl st.ok fun env m cm s1 hfr inn hv hkp dead hloc hfrA => ?_
  obtain ⟨h1, t1, rfl, hk1⟩ := hkp
  have hself : val env m cm "self" = some (.ref x) := hv 0 _ _ rfl rfl
  rw [hb]
  have st1 := st.post ap (Post.of_keeps (A := A) (tk := t1) hk1)
  have inv : ∀ {ss : Shared}, Ok b A (S :: J :: W) (k + 1) ss → K.In ss.heap := fun o => X.keeps o.inv
  have I1 : InstAt h1 x (fltObj F dx J M) F.C (some emptyDict) := ⟨st1.x, rfl, rfl, st1.d⟩
  refine wpAny_execs_cons (wpAny_Assign_Name (hs := rfl) (wpAny_AttrName (name_ok inn.ine inn.fit.fkind (by decide) hself ?_)))
  have hM : handedIn (.ref M) = true := rfl
  refine slot_read (v := .ref M) (i := F.iF) (s := { s with heap := h1, toks := t1 }) (inv st1.ok) I1 (fo 1 rfl) (fo 5 rfl) flt_F hM ?_
  have aw := (st.notHid dead).1
  have nf : ∀ {a : Addr}, a ∉ hid env → a ∉ fr A → a ∉ fr (A.deeper env) := fun {a} h1 h2 q => by
    rw [hfrA] at q
    exact (List.mem_cons.mp q).elim (fun q => h1 (q ▸ List.mem_cons_self)) h2
  have ap' : FAp (A.deeper env) x dx J M l ls S none := ⟨nf (aw x (.head _)) ap.fx, nf (aw dx (.tail _ (.head _))) ap.fd, nf (aw J (.tail _ (.tail _ (.tail _ (.head _))))) ap.fJ, nf (aw M (.tail _ (.tail _ (.head _)))) ap.fM, nf (aw l (.tail _ (.tail _ (.tail _ (.tail _ (.head _)))))) ap.fl, nf (aw ls (.tail _ (.tail _ (.tail _ (.tail _ (.tail _ (.head _))))))) ap.fls, nf (st.notHid dead).2 ap.fS, ap.xJ, ap.dJ, ap.MJ, ap.lJ, ap.lsJ, ap.xS, ap.dS, ap.MS, ap.lS, ap.lsS, ap.JS⟩
  have gv : (off (S :: J :: W) s.heap).le (off (S :: J :: (W ++ hid env)) h1) := off_grow (W := S :: J :: W) (W' := S :: J :: (W ++ hid env)) (fun c o _ e => hk1 c o e) fun a ha => by
    rcases List.mem_append.mp (show a ∈ (S :: J :: W) ++ hid env from ha) with q | q
    · exact .inl q
    · exact .inr (dead a q)
  have stF : FSt b (A.deeper env) F (W ++ hid env) k x dx J M l ls S xs ys ds es i { s with heap := h1, toks := t1 } := ⟨st1.x, st1.d, st1.m, st1.j, st1.l, st1.ls, inn.ok, st.rep.mono gv, st.rep2.mono gv⟩
  have p0 : Post (A.deeper env) { s with heap := h1, toks := t1 } { s with heap := h1, toks := t1 + 1 } := Post.tok _ { s with heap := h1, toks := t1 } (t1 + 1)
  refine store_op (inn.post p0) hkf fun s2 m2 cm2 k2 i2 hf2 ho2 => ?_
  have st2 := (stF.post ap' p0).touched aw k2 i2.ok
  have hs2 : val env m2 cm2 "self" = some (.ref x) := (ho2 _ (by decide)).trans hself
  have px2 : Px (A.deeper env) (J :: hid env) { s with heap := h1, toks := t1 } s2 := (Px.of_post p0).trans (Px.of_touch k2)
  refine wpAny_execs_cons (wpAny_While (codeAny_whileLoop (NxI b A F W k x dx J M l ls S xs ys ds es env (scOf (scopeAt K F.fN)) { s with heap := h1, toks := t1 } i) ?_ (ds.length + 1 - i)
    (.mk ⟨i2, hs2, hf2, st2, px2, Nat.le_refl _, hn, fun j' d' h1 h2 => absurd h1 (Nat.not_le.mpr h2)⟩)))
  intro n' s3 hn3
  cases hn3 with
  | @mk pp m3 cm3 _ nx =>
  refine (tv_plain (b := b) (k := k) (c := scOf (scopeAt K F.fN)) (σ := []) (e := .Constant (.bool true) (q 0) (p 4)) rfl ev_bool (z := true) rfl) (A.deeper env) (S :: J :: (W ++ hid env)) env m3 cm3 s3 _ _ nx.inn fun s4 q4 => ?_
  rw [if_pos rfl]
  have nx4 : NxS b A F W k x dx J M l ls S xs ys ds es env (scOf (scopeAt K F.fN)) { s with heap := h1, toks := t1 } i pp m3 cm3 s4 := ⟨nx.inn.post q4, nx.hs, nx.hf, nx.st.post ap' q4, nx.px.trans (Px.of_post q4), nx.lo, nx.hi, nx.sk⟩
  refine wpAny_passesOwn PassesOwn.leaving (next_turn (p := p) (q := q) X (@fo) hkn hkb hki hln hlb ap' aw hd4 he3 nx4 (fun _ _ _ n7 hlt => NxI.next n7 hlt) (fun hlt v7 s7 hsk st7 px7 r7 => ?_) fun s5 h6 h7 e hpe n5 hs6 hx => ?_)
  · have hsub : ∀ a ∈ S :: J :: W, a ∈ S :: J :: (W ++ hid env) := fun a ha => (show a ∈ (S :: J :: W) ++ hid env from List.mem_append_left _ ha)
    have px := px7.out hk1 dead nf
    have hlive : ∀ a ∈ ([J] : List Addr), ∃ o, s7.heap.get? a = some o := fun a ha => by rw [List.mem_singleton.mp ha]; obtain ⟨o, e, _⟩ := st7.j; exact ⟨o, e⟩
    exact hit pp ds[pp] v7 s7 nx.lo (List.getElem?_eq_getElem hlt) hsk nx.sk ⟨st7.x, st7.d, st7.m, st7.j, st7.l, st7.ls, Ok.px st.ok px (fun a ha => by rw [List.mem_singleton.mp ha]; exact List.mem_cons_of_mem _ List.mem_cons_self) (fun a ha => by rw [List.mem_singleton.mp ha]; exact ap.fJ) hlive, st7.rep.mono (off_sub hsub), st7.rep2.mono (off_sub hsub)⟩ px (r7.mono (off_sub hsub))
  · obtain ⟨ob, t, hhe⟩ := hx.there
    have he := hhe.1
    have hcls := hhe.2.1
    have hd := hhe.2.2
    obtain ⟨outer, hfo2⟩ := st.ok.frames
    have hfo := hfo2.1
    have hfo' : (A.deeper env).frames = some (env :: outer) := Around.frames_deeper hfo
    obtain ⟨l5, hl5, hfr5⟩ := n5.inn.ok.frames
    rw [hfo'] at hl5
    cases hl5
    have frE : ∀ a, a ∈ fr (A.deeper env) ↔ a ∈ (env :: outer).filterMap (·.frame) := fun a => by unfold fr; rw [hfo']; rfl
    have k56 : ∀ c o, c ≠ J → s5.heap.get? c = some o → h6.get? c = some o := fun c o n e => hs6.extBut c o n e
    have k57 : ∀ c o, c ≠ J → s5.heap.get? c = some o → h7.get? c = some o := fun c o n e => hx.keeps c o (k56 c o n e)
    have hfr7 : FrOk h7 (env :: outer) := fun en hen => by
      obtain ⟨a1, L, o, a2, a3, a4⟩ := hfr5 en hen
      exact ⟨a1, L, o, a2, k57 L o (fun q => ap'.fJ (q ▸ (frE L).mpr (List.mem_filterMap.mpr ⟨en, hen, a2⟩))) a3, a4⟩
    have hbn : (hideAll h6 (fr (A.deeper env))).get? e = none := by
      cases q : (hideAll h6 (fr (A.deeper env))).get? e with
      | none => rfl
      | some o' => have := of_hideAll _ q; rw [hx.new] at this; cases this
    refine wpAny_leaving_first (base := hideAll h6 (fr (A.deeper env))) hfo' (funFrames_of hfr7 fun a ha => hideAll_none _ ((frE a).mpr ha)) hfr he (fun c o e => hx.keeps c o (of_hideAll _ e)) hbn hd rfl fun h' hL => ?_
    have g1 := hL.1
    have g3 := hL.2.2.1
    have g4 := hL.2.2.2
    have step : Px (A.deeper env) (J :: hid env) s5 { s5 with heap := h' } := by
      refine ⟨h', s5.toks, rfl, fun c o n n2 e => g1 c o (hideAll_get _ (k56 c o (fun q => n (by simp [q])) e) n2), fun c o n e => ?_⟩
      by_cases hc : c ∈ fr (A.deeper env)
      · obtain ⟨en, hen, hef⟩ := List.mem_filterMap.mp ((frE c).mp hc)
        obtain ⟨_, L, o', a2, a3, a4⟩ := hfr5 en hen
        rw [hef] at a2; cases a2
        rw [e] at a3; cases a3
        exact g4 c o (k57 c o (fun q => n (by simp [q])) e) a4
      · exact ⟨o.slots, g1 c o (hideAll_get _ (k56 c o (fun q => n (by simp [q])) e) hc)⟩
    refine hend e _ (fun j' d' h1 h2 => nx.sk j' d' h1 (hpe ▸ (List.getElem?_eq_some_iff.mp h2).1) h2) ((n5.px.trans step).out hk1 dead nf) ?_
    obtain ⟨oe, _, _, _, _, he', hc', _⟩ := g3
    exact ⟨oe, he', hc'.trans hcls⟩
end Mine
end
section
set_option maxRecDepth 100000
namespace Mine

theorem filter_next {p : D → Bool} {ds : List D} {d : D} : ∀ (k i j : Nat), j - i = k → i ≤ j → ds[j]? = some d → p d = true → (∀ j' d', i ≤ j' → j' < j → ds[j']? = some d' → p d' = false) → (ds.drop i).filter p = d :: (ds.drop (j + 1)).filter p := by
  intro k
  induction k with
  | zero =>
    intro i j hk hij hd hp _
    obtain rfl : i = j := by omega
    obtain ⟨hl, hg⟩ := List.getElem?_eq_some_iff.mp hd
    rw [List.drop_eq_getElem_cons hl, hg, List.filter_cons, if_pos hp]
  | succ k ih =>
    intro i j hk hij hd hp hs
    have hl : i < ds.length := by have := (List.getElem?_eq_some_iff.mp hd).1; omega
    rw [List.drop_eq_getElem_cons hl, List.filter_cons, if_neg (by rw [hs i ds[i] (Nat.le_refl _) (by omega) (List.getElem?_eq_getElem hl)]; decide)]
    exact ih (i + 1) j (by omega) (by omega) hd hp fun j' d' h1 h2 h3 => hs j' d' (by omega) h2 h3
theorem filter_none {p : D → Bool} {ds : List D} {i : Nat} (h : ∀ j' d', i ≤ j' → ds[j']? = some d' → p d' = false) : (ds.drop i).filter p = [] := by
  rw [List.filter_eq_nil_iff]
  intro d hd
  obtain ⟨n, hn⟩ := List.getElem?_of_mem hd
  rw [List.getElem?_drop] at hn
  rw [h _ d (Nat.le_add_right _ _) hn]; decide

structure FltE (b : Base) (K : Frag) (F : Flt) : Prop where
  X : K.In b.h₀
  hlim : b.h₀.NoLimit
  ok : fltOk K F = true
  bI : ∀ a c d, bindAt K F.fI [a, c, d] = pure ((["self", "function", "iterable"] : List Str).zip [a, c, d])
  hI : ∃ p1 p2 p3 p4 p5 p6 q1 q2 q3 q4, bodyAt K F.fI = [.Assign [.Attribute (.Name "self" p1) "_it" p2] (.Call (.Name "iter" p3) [.Name "iterable" p4] [] p5) p6, .Assign [.Attribute (.Name "self" q1) "_func" q2] (.Name "function" q3) q4]
  kI : (scOf (scopeAt K F.fI)).kind "iter" = some .globalImplicit
  cI : ownCells (scopeAt K F.fI) = []
  lI : Loads b ("iter" : Str) (.builtin "iter")
  bT : ∀ a, bindAt K F.fT [a] = pure ((["self"] : List Str).zip [a])
  hT : ∃ p1 p2, bodyAt K F.fT = [.Return (some (.Name "self" p1)) p2]
  bN : ∀ a, bindAt K F.fN [a] = pure ((["self"] : List Str).zip [a])
  hN : ∃ p q, bodyAt K F.fN = nextBody p q
  kn : (scOf (scopeAt K F.fN)).kind "next" = some .globalImplicit
  kb : (scOf (scopeAt K F.fN)).kind "bool" = some .globalImplicit
  ki : storable (scOf (scopeAt K F.fN)) "item" = true
  kf : storable (scOf (scopeAt K F.fN)) "func" = true
  ln : Loads b ("next" : Str) (.builtin "next")
  lb : Loads b ("bool" : Str) (.type "bool")

section
variable {b : Base} {K : Frag} {F : Flt} {A : Around} {W : List Addr} {k : Nat} {x dx J M l ls S : Addr} {xs ys : Array Value} {ds es : List D}

noncomputable def restD (ds es : List D) : List D := ds.filter fun d => !skipD es d

noncomputable def FS (b : Base) (A : Around) (F : Flt) (W : List Addr) (k : Nat) (x dx J M l ls S : Addr) (xs ys : Array Value) (ds es : List D) (n : Nat) (s : Shared) : Prop :=
  ∃ i, i ≤ ds.length ∧ FSt b A F W (k + 1) x dx J M l ls S xs ys ds es i s ∧ (ds.drop i).filter (fun d => !skipD es d) = (restD ds es).drop n

theorem flt_gv (FE : FltE b K F) (ap : FAp A x dx J M l ls S none) (hd4 : ds.all (D.ok deep) = true) (he3 : es.all (D.ok 3) = true) : Gv b.prog b.w A x S [J] (S :: J :: W) (restD ds es) (FS b A F W k x dx J M l ls S xs ys ds es) := by
  have fo := @fltAt _ _ FE.ok
  obtain ⟨pN, qN, hN⟩ := FE.hN
  refine ⟨fun n s h' tk st hk hn => ?_, fun n d s Q E hi st hq => ?_, fun s Q E st hq => ?_⟩
  · obtain ⟨i, hi, st, he⟩ := st
    obtain ⟨o, e, _⟩ := hn
    have kp : Kp [S] s { s with heap := h', toks := tk } := ⟨h', tk, rfl, fun c o hc e => hk c o (fun q => hc (by simp [q])) e⟩
    refine ⟨i, hi, st.kp kp (fun a ha => by rw [List.mem_singleton.mp ha]; exact List.mem_cons_self) (st.ok.kp kp (fun a ha => by rw [List.mem_singleton.mp ha]; exact List.mem_cons_self) (fun a ha => by rw [List.mem_singleton.mp ha]; exact ap.fS) (fun a ha => by rw [List.mem_singleton.mp ha]; exact ⟨o, e⟩))
      (fun q => ap.xS (List.mem_singleton.mp q)) (fun q => ap.dS (List.mem_singleton.mp q)) (fun q => ap.MS (List.mem_singleton.mp q)) (fun q => ap.JS (List.mem_singleton.mp q)) (fun q => ap.lS (List.mem_singleton.mp q)) (fun q => ap.lsS (List.mem_singleton.mp q)), he⟩
  · obtain ⟨i, hle, st, he⟩ := st
    have X := FE.X.keeps st.ok.inv
    have hdn : (restD ds es).drop n = d :: (restD ds es).drop (n + 1) := by
      obtain ⟨hl, hg⟩ := List.getElem?_eq_some_iff.mp hi
      rw [List.drop_eq_getElem_cons hl, hg]
    refine own_next (od := some emptyDict) X ⟨st.x, rfl, rfl, st.d⟩ (beq_iff_eq.mp (fo 8 rfl)) (fo 11 rfl) (wpAny_call (next_run FE.X FE.hlim FE.ok FE.bN hN FE.kn FE.kb FE.ki FE.kf FE.ln FE.lb ap st hd4 he3 hle (fun j d' v s' hij hj hsk hbe st' px r => ?_) fun e s' hall px he' => ?_))
    · have hfn := filter_next (p := fun d => !skipD es d) (j - i) i j rfl hij hj (by rw [hsk]; rfl) fun j' d' h1 h2 h3 => by rw [hbe j' d' h1 h2 h3]; rfl
      rw [he, hdn] at hfn
      injection hfn with e1 e2
      subst e1
      exact hq v s' ⟨j + 1, (List.getElem?_eq_some_iff.mp hj).1, st', e2.symm⟩ px r
    · have hfn := filter_none (p := fun d => !skipD es d) (ds := ds) (i := i) fun j' d' h1 h2 => by rw [hall j' d' h1 h2]; rfl
      rw [he, hdn] at hfn
      cases hfn
  · obtain ⟨i, hle, st, he⟩ := st
    rw [List.drop_length] at he
    have X := FE.X.keeps st.ok.inv
    refine own_next (od := some emptyDict) X ⟨st.x, rfl, rfl, st.d⟩ (beq_iff_eq.mp (fo 8 rfl)) (fo 11 rfl) (wpAny_call (next_run FE.X FE.hlim FE.ok FE.bN hN FE.kn FE.kb FE.ki FE.kf FE.ln FE.lb ap st hd4 he3 hle (fun j d' v s' hij hj hsk hbe st' px r => ?_) fun e s' hall px he' => ?_))
    · have hfn := filter_next (p := fun d => !skipD es d) (j - i) i j rfl hij hj (by rw [hsk]; rfl) fun j' d' h1 h2 h3 => by rw [hbe j' d' h1 h2 h3]; rfl
      rw [he] at hfn
      cases hfn
    · obtain ⟨o, ho, hc⟩ := he'
      show OwitStop _ _ _ _ (.ref e) s'
      unfold OwitStop
      refine wpAny_isInstance (T := "StopIteration") (b := true) ⟨o, ho, hc⟩ isSubtype_stop ?_
      show (if true = true then _ else _)
      rw [if_pos rfl]
      exact hq s' px

theorem flt_kind (FE : FltE b K F) (ap : FAp A x dx J M l ls S none) : Kind b.prog b.w A x (.ref F.C) (FS b A F W k x dx J M l ls S xs ys ds es 0) := by
  have fo := @fltAt _ _ FE.ok
  obtain ⟨p1, p2, hT⟩ := FE.hT
  refine ⟨rfl, rfl, fun st h => ?_, fun st h => ?_, fun st h => ?_, fun st h => ?_⟩
  · obtain ⟨i, _, st, _⟩ := st
    exact InstAt.type (C := F.C) (od := some emptyDict) ⟨st.x, rfl, rfl, st.d⟩ |>.here h
  · obtain ⟨i, _, st, _⟩ := st
    exact own_none (od := some emptyDict) (FE.X.keeps st.ok.inv) ⟨st.x, rfl, rfl, st.d⟩ (beq_iff_eq.mp (fo 12 rfl)) h
  · obtain ⟨i, _, st, _⟩ := st
    exact own_none (od := some emptyDict) (FE.X.keeps st.ok.inv) ⟨st.x, rfl, rfl, st.d⟩ (beq_iff_eq.mp (fo 13 rfl)) h
  · rename_i s Q E
    obtain ⟨i, hi, st, he⟩ := st
    refine own_iter (od := some emptyDict) (FE.X.keeps st.ok.inv) ⟨st.x, rfl, rfl, st.d⟩ (beq_iff_eq.mp (fo 7 rfl)) (fo 10 rfl) (wpAny_call ?_)
    refine enter_at (ps := ["self"]) FE.X FE.hlim (fo 18 rfl) (FE.bT _) rfl st.ok fun env m cm s1 hfr inn hv hkp dead hloc hfrA => ?_
    obtain ⟨h1, t1, rfl, hk1⟩ := hkp
    have hself : val env m cm "self" = some (.ref x) := hv 0 _ _ rfl rfl
    rw [hT]
    refine wpAny_execs_cons (wpAny_Return_some (name_ok inn.ine inn.fit.fkind (by decide) hself ?_))
    have p1 : Post A s { s with heap := h1, toks := t1 } := Post.of_keeps hk1
    have st1 := st.post ap p1
    show OwitIt _ _ _ _ (.ref x) { s with heap := h1, toks := t1 }
    exact own_it (s := { s with heap := h1, toks := t1 }) (od := some emptyDict) (FE.X.keeps st1.ok.inv) ⟨st1.x, rfl, rfl, st1.d⟩ (beq_iff_eq.mp (fo 8 rfl)) (h _ ⟨i, hi, st1, he⟩ (Px.of_heap fun c o _ e => hk1 c o e))
end

theorem Ok.in2 {b : Base} {A : Around} {W : List Addr} {k : Nat} {s : Shared} (x : Ok b A W (k + 1) s) : Ok b A.in1.in1 W k s :=
  ⟨x.handled, by have := x.depth; show A.depth + k < 900; omega, by have := x.units; show A.units + 1 + 1 + 4 * k + 100 < 8000; omega, x.frames, x.sub, x.low, x.live, x.inv⟩

theorem list_flt {b : Base} {K : Frag} {F : Flt} {A : Around} {W : List Addr} {k : Nat} {s : Shared} {M l ls : Addr} {ds es : List D} {vs us : List Value} {E : Value → Shared → Prop} {Q : Value → Shared → Prop} (FE : FltE b K F) (ok : Ok b A W (k + 2) s) (hM : s.heap.get? M = some (wrapObj ls)) (hMW : M ∉ W)
    (sq : Seq (off W s.heap) "list" l vs) (rs : Reps (off W s.heap) ds vs) (sq2 : Seq (off W s.heap) "list" ls us) (rs2 : Reps (off W s.heap) es us) (hd4 : ds.all (D.ok deep) = true) (he3 : es.all (D.ok 3) = true) (hn : ds.length ≤ room)
    (h : ∀ v s', Post A s s' → Rep (off W s'.heap) (.list (restD ds es)) v → Q v s') :
    wpAny (model b.prog b.w) A (call (.ref F.C) [.ref M, .ref l]) (fun v s1 => wpAny (model b.prog b.w) A (call (.type "list") [v]) Q E s1) E s := by
  obtain ⟨p1, p2, p3, p4, p5, p6, q1, q2, q3, q4, hI⟩ := FE.hI
  refine call_flt FE.X FE.hlim FE.ok FE.bI hI FE.kI FE.cI FE.lI ok sq.list fun x dx J h1 tk hx hdx hJ hxdx hxJ hdJ ix idx iJ hk => ?_
  have p1 : Post A s { s with heap := h1, toks := tk } := Post.of_keeps hk
  have ok1 := ok.post p1
  have lW : l ∉ W := by obtain ⟨o, n, e, _⟩ := sq; exact (off_some.mp e).1
  have lsW : ls ∉ W := by obtain ⟨o, n, e, _⟩ := sq2; exact (off_some.mp e).1
  have old : ∀ {a c : Addr}, s.heap.get? a = none → (∃ o, s.heap.get? c = some o) → c ≠ a := fun {a c} h1 ⟨o, h2⟩ q => by rw [q, h1] at h2; cases h2
  have hlE : ∃ o, s.heap.get? l = some o := by obtain ⟨o, e, _⟩ := sq.list; exact ⟨o, e⟩
  have hlsE : ∃ o, s.heap.get? ls = some o := by obtain ⟨o, e, _⟩ := sq2.list; exact ⟨o, e⟩
  have frl : ∀ {a : Addr}, s.heap.get? a = none → a ∉ fr A := fun {a} e q => by obtain ⟨o, e'⟩ := ok.live a (ok.sub a q); rw [e] at e'; cases e'
  have young : ∀ {c : Addr} {o : Obj}, h1.get? c = some o → c ≠ h1.objs.size := fun {c o} e => Nat.ne_of_lt (Heap.lt_size e)
  have h1S : h1.get? h1.objs.size = none := none_at_size _
  have sS : s.heap.get? h1.objs.size = none := by
    cases e : s.heap.get? h1.objs.size with
    | none => rfl
    | some o => rw [hk _ _ e] at h1S; cases h1S
  have hJ1 : ∃ o, h1.get? J = some o := by obtain ⟨o, e, _⟩ := iJ; exact ⟨o, e⟩
  have ap : FAp A.in1.in1 x dx J M l ls h1.objs.size none := ⟨frl hx, frl hdx, frl hJ, fun q => hMW (ok.sub _ q), fun q => lW (ok.sub _ q), fun q => lsW (ok.sub _ q), frl sS, hxJ, hdJ, old hJ ⟨_, hM⟩, old hJ hlE, old hJ hlsE, young ix, young idx, young (hk _ _ hM),
    (by obtain ⟨o, e⟩ := hlE; exact young (hk _ _ e)), (by obtain ⟨o, e⟩ := hlsE; exact young (hk _ _ e)), (by obtain ⟨o, e⟩ := hJ1; exact young e)⟩
  have hk2 : ∀ c o, s.heap.get? c = some o → (h1.push { cls := .type "list", data := .seq #[] }).get? c = some o := fun c o e => Heap.get?_push_of_some _ (hk c o e)
  have pS : Post A s { s with heap := h1.push { cls := .type "list", data := .seq #[] }, toks := tk } := Post.of_keeps hk2
  have ok2 : Ok b A (h1.objs.size :: J :: W) (k + 2) { s with heap := h1.push { cls := .type "list", data := .seq #[] }, toks := tk } := (ok.post pS).more (fun a ha => by simp [ha]) fun a ha => by
    have low : ∀ {a : Addr}, s.heap.get? a = none → b.h₀.get? a = none := fun {a} e => by
      cases q : b.h₀.get? a with
      | none => rfl
      | some o => rw [ok.inv a o q] at e; cases e
    rcases List.mem_cons.mp ha with rfl | ha
    · exact .inr ⟨low sS, _, Heap.get?_push_size _ rfl⟩
    · rcases List.mem_cons.mp ha with rfl | ha
      · obtain ⟨o, e⟩ := hJ1; exact .inr ⟨low hJ, o, Heap.get?_push_of_some _ e⟩
      · exact .inl ha
  have gv : (off W s.heap).le (off (h1.objs.size :: J :: W) (h1.push { cls := .type "list", data := .seq #[] })) := off_grow (fun c o _ e => hk2 c o e) fun a ha => by
    rcases List.mem_cons.mp ha with rfl | ha
    · exact .inr sS
    · rcases List.mem_cons.mp ha with rfl | ha
      · exact .inr hJ
      · exact .inl ha
  have st : FSt b A.in1.in1 F W (k + 1) x dx J M l ls h1.objs.size vs.toArray us.toArray ds es 0 { s with heap := h1.push { cls := .type "list", data := .seq #[] }, toks := tk } :=
    ⟨Heap.get?_push_of_some _ ix, Heap.get?_push_of_some _ idx, hk2 _ _ hM, let ⟨o, e, r⟩ := iJ; ⟨o, Heap.get?_push_of_some _ e, r⟩, let ⟨o, e, r⟩ := sq.list; ⟨o, hk2 _ _ e, r⟩, let ⟨o, e, r⟩ := sq2.list; ⟨o, hk2 _ _ e, r⟩, ok2.in2, by simpa using rs.mono gv, by simpa using rs2.mono gv⟩
  have hlen : (restD ds es).length ≤ room := Nat.le_trans (List.length_filter_le _ _) hn
  refine call_list_it (W := J :: W) (s := { s with heap := h1, toks := tk }) (flt_kind (W := W) (k := k) (xs := vs.toArray) (ys := us.toArray) (ds := ds) (es := es) FE ap) (flt_gv FE ap hd4 he3) hlen (fun q => young (hJ1.choose_spec) (List.mem_singleton.mp q).symm) (frl sS) (fun a ha => by rw [List.mem_singleton.mp ha]; exact List.mem_cons_self) (fun a ha => List.mem_cons_of_mem _ (ok.sub a ha)) (young ix).symm ⟨0, Nat.zero_le _, st, by simp [restD]⟩ fun s' acc c' px hS hacc => ?_
  have post : Post A s s' := by
    obtain ⟨h2, t2, rfl, a2, b2⟩ := px
    have nn : ∀ {c : Addr} {o : Obj}, s.heap.get? c = some o → c ∉ (h1.objs.size : Addr) :: [J] := fun {c o} e q => by
      rcases List.mem_cons.mp q with rfl | q
      · rw [sS] at e; cases e
      · rw [List.mem_singleton.mp q, hJ] at e; cases e
    exact ⟨h2, t2, rfl, fun c o n e => a2 c o (nn e) n (hk2 c o e), fun c o e => b2 c o (nn e) (hk2 c o e)⟩
  have SW : h1.objs.size ∉ W := fun q => by obtain ⟨o, e⟩ := ok.live _ q; rw [sS] at e; cases e
  exact h _ s' post ⟨_, acc.toList, rfl, ⟨_, c', off_some.mpr ⟨SW, hS⟩, rfl, by simp, rfl⟩, hacc.mono (off_sub fun a ha => by simp [ha])⟩
end Mine
end
section
set_option maxRecDepth 100000
namespace Mine

theorem ex_return1 {b : Base} {k : Nat} {c : Sc} {σ : Names} {ω : Own} {e : Expr} {p : Pos} {d : D} (h1 : EvOk b k c σ e d) : ExOk b k c σ ω (exec (.Return (some e) p)) (.ret d) σ ω :=
  fun A W O ad env m cm s E Q x h => wpAny_Return_some (h1 A (W ++ O) env m cm s E _ x.inn fun v s' q r => h _ O ad m cm s' (x.post q) (Mv.of_post q fun _ h => h) ⟨v, rfl, r⟩)

theorem ev_filter {b : Base} {K : Frag} {F : Flt} {k : Nat} {c : Sc} {σ : Names} {p1 p2 p3 p4 p5 p6 p7 : Pos} {ds es : List D} (FE : FltE b K F) (hkC : keepIn K (.ref F.C) = true) (hl : Loads b ("list" : Str) (.type "list")) (hf : Loads b ("filterfalse" : Str) (.ref F.C))
    (k1 : c.kind ("list" : Str) = some .globalImplicit) (k2 : c.kind ("filterfalse" : Str) = some .globalImplicit) (s1 : σ.lookup ("skip" : Str) = some (.list es)) (s2 : σ.lookup ("flist" : Str) = some (.list ds)) (hd4 : ds.all (D.ok deep) = true) (he3 : es.all (D.ok 3) = true) (hn : ds.length ≤ room) :
    EvOk b (k + 2) c σ (.Call (.Name ("list" : Str) p1) [.Call (.Name ("filterfalse" : Str) p2) [.Attribute (.Name ("skip" : Str) p3) ("__contains__" : Str) p4, .Name ("flist" : Str) p5] [] p6] [] p7) (.list (restD ds es)) := fun A W env m cm s E Q x h => by
  obtain ⟨v1, e1, ls, us, rfl, sq2, rs2⟩ := x.rel _ _ s1
  obtain ⟨v2, e2, l, vs, rfl, sq, rs⟩ := x.rel _ _ s2
  refine type_call' x k1 (by decide) hl (fun e he => by rw [List.mem_singleton.mp he]; rfl) (by simp) ?_
  rw [star_cons rfl, backTo_cons]
  refine spliced_cons ?_
  refine Call_Name rfl (Name_function_global x.fit.fkind ((x.fit.kindOf _).trans k2) (hf A env s E _ x.fit.globals x.fit.builtins x.ok.inv ?_) (by decide))
  rw [star_cons rfl, backTo_cons, star_cons rfl, backTo_cons]
  refine callWith_of (P := fun h => K.In h) rfl (fun h X => keeps_K hkC h X) ?_
  refine evalArgs_plain (spliced_cons (wpAny_AttrName (name_ok x.ine x.fit.fkind (by decide) e1 ?_)))
  obtain ⟨o, n, eo, hc, hd, hdi⟩ := id sq2
  refine attr_contains (off_get eo) hc hdi (fun cd q => by rw [hd] at q; cases q) fun tk => ?_
  have p1 : Post A s { s with heap := s.heap.push (wrapObj ls), toks := tk } := Post.push A s _ tk
  have x1 := x.post p1
  refine spliced_cons (name_ok x1.ine x1.fit.fkind (by decide) e2 (spliced_nil ⟨FE.X.keeps x1.ok.inv, ?_⟩))
  have up := x.view p1
  refine wpAny_mono (list_flt (W := W) FE x1.ok (Heap.get?_push_size _ rfl) x.ok.fresh (sq.mono up) (rs.mono up) (sq2.mono up) (rs2.mono up) hd4 he3 hn fun v s' q r => h v s' (p1.trans q) r) (fun v s' hv => spliced_nil hv) fun _ _ e => e

noncomputable def filterD : Fn := fn2 fun d e => (asList d).bind fun ds => (asList e).bind fun es => if ds.all (D.ok deep) && es.all (D.ok 3) && decide (ds.length ≤ room) then some (.list (restD ds es)) else none

theorem filter_body {b : Base} {K : Frag} {F : Flt} {k : Nat} {f : Addr} (FE : FltE b K F) (hkC : keepIn K (.ref F.C) = true) (hl : Loads b ("list" : Str) (.type "list")) (hf : Loads b ("filterfalse" : Str) (.ref F.C))
    (hb : ∃ p1 p2 p3 p4 p5 p6 p7 p8, bodyAt K f = [.Return (some (.Call (.Name ("list" : Str) p1) [.Call (.Name ("filterfalse" : Str) p2) [.Attribute (.Name ("skip" : Str) p3) ("__contains__" : Str) p4, .Name ("flist" : Str) p5] [] p6] [] p7)) p8])
    (k1 : (scOf (scopeAt K f)).kind ("list" : Str) = some .globalImplicit) (k2 : (scOf (scopeAt K f)).kind ("filterfalse" : Str) = some .globalImplicit) : BodyOk b (k + 2) (scopeAt K f) ["flist", "skip"] (bodyAt K f) filterD := fun ds0 d h => by
  obtain ⟨q, h1, h⟩ := Option.bind_eq_some_iff.mp h
  obtain ⟨ds, hd, h⟩ := Option.bind_eq_some_iff.mp h
  obtain ⟨es, he, h⟩ := Option.bind_eq_some_iff.mp h
  rw [two_eq _ h1, asList_eq _ hd, asList_eq _ he]
  split at h
  · rename_i hc
    cases h
    obtain ⟨p1, p2, p3, p4, p5, p6, p7, p8, hb⟩ := hb
    refine ⟨rfl, .ret (.list (restD ds es)), putAll ["flist", "skip"] [.list ds, .list es] [], [], ?_, .inl rfl⟩
    rw [hb]
    exact ex_stop (fun h => nomatch h) (ex_return1 (ev_filter FE hkC hl hf k1 k2 (σ := putAll ["flist", "skip"] [.list ds, .list es] []) (by kernel_rfl) (by kernel_rfl) (and_t (and_t hc).1).1 (and_t (and_t hc).1).2 (of_decide_eq_true (and_t hc).2)))
  · cases h
end Mine
end
section
set_option maxRecDepth 100000
namespace Mine
open SeqAt

theorem call_min2 {prog : Program} {w : World} {A : Around} {E : Value → Shared → Prop} {s : Shared} {l : Addr} {v1 v2 : Value} {c : Bool} {Q : Value → Shared → Prop} (hh : A.handled = none) (hl : s.heap.IsList l #[v1, v2])
    (rc : ∀ s' : Shared, (∀ b o, s.heap.get? b = some o → s'.heap.get? b = some o) → RcOp .Lt A.in1 s' v2 v1 c)
    (h : ∀ h' tk, (∀ b o, s.heap.get? b = some o → h'.get? b = some o) → Q (if c then v2 else v1) { s with heap := h', toks := tk }) : wpAny (model prog w) A (call (.builtin "min") [.ref l]) Q E s := by
  have hname : (toString "min" ++ toString ".loop" : String) = "min.loop" := by decide
  refine call_function_tree F.kind_min F.plain_min F.entry_min (F.args_min1 _) ?_
  show wpAny _ A.in1 (Builtin.Builtins.bindParams "min" ["key", "default"] 0 ⟨[], []⟩ >>= _) _ _ s
  refine wpAny_bind (wpAny_of_eq (show Builtin.Builtins.bindParams "min" ["key", "default"] 0 ⟨[], []⟩ = pure [none, none] from rfl) ?_)
  refine wpAny_bind (wpAny_pure ?_)
  refine wpAny_bind (wpAny_pyIter_list hl ?_)
  refine wpAny_bind (wpAny_newObj_type ?_)
  rw [hname]
  have hax : @LT.lt Nat _ l s.heap.objs.size := by obtain ⟨_, e, _⟩ := hl; exact Heap.lt_size e
  generalize hI : s.heap.objs.size = I at hax
  generalize hh1 : (s.heap.push { cls := .type "list_iterator", data := .fields #[.ref l, .int 0 0] }) = h1
  generalize hS : h1.objs.size = S
  have hSI : S = I + 1 := by rw [← hS, ← hh1, Heap.size_push, hI]
  have keep1 : ∀ b o, s.heap.get? b = some o → h1.get? b = some o := fun b o e => by rw [← hh1]; exact Heap.get?_push_of_some _ e
  have old : ∀ b o, s.heap.get? b = some o → b ≠ I ∧ b ≠ S := fun b o e => by
    have : @LT.lt Nat _ b I := hI ▸ Heap.lt_size e
    exact ⟨addr_ne (by omega), addr_ne (by omega)⟩
  have W := Walks.list (prog := prog) (w := w) (A := A.in1) hh I l (addr_ne (by omega)) #[v1, v2]
  have iti : h1.get? I = some { cls := .type "list_iterator", data := .fields #[.ref l, .int 0 0] } := by rw [← hh1, ← hI]; exact Heap.get?_push_size _ rfl
  have lk : ∀ {h' : Heap}, (∀ b o, s.heap.get? b = some o → h'.get? b = some o) → h'.IsList l #[v1, v2] := fun hk => let ⟨o, e, r⟩ := hl; ⟨o, hk _ _ e, r⟩
  have hne : I ≠ S := addr_ne (by omega)
  refine wpAny_pure ⟨plainId_quiet F.plain_min_loop _, ?_⟩
  refine codeAny_builtin F.entry_min_loop ?_
  rw [Around.under_plainId F.plain_min_loop _]
  have hS1 : (h1.push { cls := .type "list", data := .seq ([] : List Value).toArray }).get? S = some { cls := .type "list", dict := none, data := .seq #[] 0, slots := #[] } := by rw [← hS]; exact Heap.get?_push_size _ rfl
  generalize hh2 : (h1.push { cls := .type "list", data := .seq ([] : List Value).toArray }) = h2 at hS1
  have keep2 : ∀ b o, h1.get? b = some o → h2.get? b = some o := fun b o e => by rw [← hh2]; exact Heap.get?_push_of_some _ e
  have k2 : ∀ b o, s.heap.get? b = some o → h2.get? b = some o := fun b o e => keep2 b o (keep1 b o e)
  show wpAny _ A.in1 (seqItems? (.ref S) >>= _) _ _ { s with heap := h2 }
  refine wpAny_bind (wpAny_seqItems hS1 rfl ?_)
  show wpAny _ A.in1 (tryCatch (pyNext (.ref I)) _ >>= _) _ _ _
  refine wpAny_bind (wpAny_tryCatch (W.item 0 { s with heap := h2 } _ _ (Nat.zero_lt_succ 1) ⟨⟨_, keep2 _ _ iti, rfl, rfl⟩, lk k2⟩ fun v h3 tk3 hP hst3 hk3 => ?_))
  obtain rfl : v1 = v := by simpa using hP
  have hS3 := hk3 S _ (fun q => hne (List.mem_singleton.mp q).symm) hS1
  have k3 : ∀ b o, s.heap.get? b = some o → h3.get? b = some o := fun b o e => hk3 b o (fun q => (old b o e).1 (List.mem_singleton.mp q)) (k2 b o e)
  show wpAny _ A.in1 (updateSeq S (fun _ => #[v1, v1]) >>= _) _ _ _
  refine wpAny_bind (wpAny_updateSeq hS3 rfl ?_)
  rw [hname]
  have hS4 := Heap.get?_update_self (Obj.mapSeq (fun _ => (#[v1, v1] : Array Value))) hS3 rfl
  have oth4 : ∀ b o, b ≠ S → h3.get? b = some o → (h3.update S (Obj.mapSeq (fun _ => (#[v1, v1] : Array Value)))).get? b = some o := fun b o n e => (Heap.get?_update_other _ _ (Ne.symm n)).trans e
  generalize (h3.update S (Obj.mapSeq (fun _ => (#[v1, v1] : Array Value)))) = h4 at hS4 oth4
  have k4 : ∀ b o, s.heap.get? b = some o → h4.get? b = some o := fun b o e => oth4 b o (old b o e).2 (k3 b o e)
  have st4 : h4.IsListIter I l 1 ∧ h4.IsList l #[v1, v2] := ⟨let ⟨o, e, r⟩ := hst3.1; ⟨o, oth4 _ _ hne e, r⟩, lk k4⟩
  refine wpAny_pure ⟨plainId_quiet F.plain_min_loop _, ?_⟩
  refine codeAny_builtin F.entry_min_loop ?_
  rw [Around.under_plainId F.plain_min_loop _]
  show wpAny _ A.in1 (seqItems? (.ref S) >>= _) _ _ { s with heap := h4, toks := tk3 }
  refine wpAny_bind (wpAny_seqItems hS4 rfl ?_)
  show wpAny _ A.in1 (tryCatch (pyNext (.ref I)) _ >>= _) _ _ _
  refine wpAny_bind (wpAny_tryCatch (W.item 1 { s with heap := h4, toks := tk3 } _ _ (Nat.lt_succ_self 1) st4 fun v h5 tk5 hP hst5 hk5 => ?_))
  obtain rfl : v2 = v := by simpa using hP
  have hS5 := hk5 S _ (fun q => hne (List.mem_singleton.mp q).symm) hS4
  have k5 : ∀ b o, s.heap.get? b = some o → h5.get? b = some o := fun b o e => hk5 b o (fun q => (old b o e).1 (List.mem_singleton.mp q)) (k4 b o e)
  show wpAny _ A.in1 (tryCatch (holding [v2, v2] (richCompare .Lt v2 v1 >>= _)) _ >>= _) _ _ _
  refine wpAny_bind (wpAny_tryCatch (wpAny_holding (wpAny_bind (rc { s with heap := h5, toks := tk5 } k5 prog w _ _ ?_))))
  refine wpAny_bind (wpAny_holding (wpAny_truthy_bool ?_))
  refine wpAny_bind (wpAny_letGo (wpAny_pure ?_))
  have last : ∀ (vb : Value) (cc : Nat) (h6 : Heap) (tk6 : Nat), h6.get? S = some { cls := .type "list", dict := none, data := .seq #[vb, vb] cc, slots := #[] } → (∀ b o, s.heap.get? b = some o → h6.get? b = some o) → h6.IsListIter I l 2 → Q vb = Q (if c then v2 else v1) →
      codeAny (model prog w) A (.builtin "min.loop" ⟨[.ref I, .none, .ref S], []⟩) (fun r s' => match r with | .ok (.ret v) => Q v s' | .ok _ => False | .error e => E e s') { s with heap := h6, toks := tk6 } := fun vb cc h6 tk6 hS6 k6 it6 hq => by
    refine codeAny_builtin F.entry_min_loop ?_
    rw [Around.under_plainId F.plain_min_loop _]
    show wpAny _ A.in1 (seqItems? (.ref S) >>= _) _ _ { s with heap := h6, toks := tk6 }
    refine wpAny_bind (wpAny_seqItems hS6 rfl ?_)
    show wpAny _ A.in1 (tryCatch (pyNext (.ref I)) _ >>= _) _ _ _
    refine wpAny_bind (wpAny_tryCatch (W.done { s with heap := h6, toks := tk6 } _ _ ⟨it6, lk k6⟩ fun h7 tk7 hk7 => ?_))
    have hS7 := hk7 S _ (fun q => hne (List.mem_singleton.mp q).symm) hS6
    show wpAny _ A.in1 (updateSeq S (fun _ => #[]) >>= _) _ _ _
    refine wpAny_bind (wpAny_updateSeq hS7 rfl (wpAny_bind (wpAny_letGo (wpAny_pure ?_))))
    show Q vb _
    rw [hq]
    exact h _ _ fun b o e => (Heap.get?_update_other _ _ (Ne.symm (old b o e).2)).trans (hk7 b o (fun q => (old b o e).1 (List.mem_singleton.mp q)) (k6 b o e))
  cases c with
  | true =>
    simp only [if_true]
    refine wpAny_bind ?_
    refine wpAny_updateSeq hS5 rfl (wpAny_bind (wpAny_letGo ?_))
    rw [hname]
    refine wpAny_pure ⟨plainId_quiet F.plain_min_loop _, ?_⟩
    exact last v2 _ _ _ (Heap.get?_update_self _ hS5 rfl) (fun b o e => (Heap.get?_update_other _ _ (Ne.symm (old b o e).2)).trans (k5 b o e)) (let ⟨o, e, r⟩ := hst5.1; ⟨o, (Heap.get?_update_other _ _ (Ne.symm hne)).trans e, r⟩) rfl
  | false =>
    simp only [Bool.false_eq_true, if_false]
    refine wpAny_bind (wpAny_letGo ?_)
    rw [hname]
    refine wpAny_pure ⟨plainId_quiet F.plain_min_loop _, ?_⟩
    exact last v1 _ _ _ hS5 k5 hst5.1 rfl

noncomputable def minD : Fn := fn1 fun d => (asList d).bind fun l => (two? l).bind fun q => (asList q.1).bind fun xs => (asList q.2).bind fun ys => if okk (.list xs) (.list ys) then (lexL .Lt ys xs).map fun c => .list (if c then ys else xs) else none
theorem call_minD {b : Base} {k : Nat} : CallOk b (.builtin "min") k minD := call1 fun A W s d v ok r => .bind fun l hl => .bind fun q hq => .bind fun xs h1 => .bind fun ys h2 => .ite fun hc => .map fun c hx E Q h => by
  cases asList_eq _ hl
  rw [two_eq _ hq, asList_eq _ h1, asList_eq _ h2] at r
  obtain ⟨l, zs, rfl, sq, v1, us, rfl, r1, v2, us2, rfl, r2, rfl⟩ := r
  refine call_min2 ok.handled sq.list (c := c) (fun s' hk => rcLex_rep (A := A.in1) (.inl rfl) (and_t hc).2 (and_t hc).1 hx (r2.mono (off_all hk)) (r1.mono (off_all hk)) (by have h8 := ok.units; have hcl : 8000 < cLine := (by decide); show A.units + 1 + 64 < cLine; omega)) fun h' tk hk => ?_
  refine h _ _ (Post.of_keeps hk) ?_
  cases c with
  | true => exact r2.mono (off_all hk)
  | false => exact r1.mono (off_all hk)

theorem call_max2 {prog : Program} {w : World} {A : Around} {E : Value → Shared → Prop} {s : Shared} {l : Addr} {v1 v2 : Value} {c : Bool} {Q : Value → Shared → Prop} (hh : A.handled = none) (hl : s.heap.IsList l #[v1, v2])
    (rc : ∀ s' : Shared, (∀ b o, s.heap.get? b = some o → s'.heap.get? b = some o) → RcOp .Gt A.in1 s' v2 v1 c)
    (h : ∀ h' tk, (∀ b o, s.heap.get? b = some o → h'.get? b = some o) → Q (if c then v2 else v1) { s with heap := h', toks := tk }) : wpAny (model prog w) A (call (.builtin "max") [.ref l]) Q E s := by
  have hname : (toString "max" ++ toString ".loop" : String) = "max.loop" := by decide
  refine call_function_tree F.kind_max F.plain_max F.entry_max (F.args_max1 _) ?_
  show wpAny _ A.in1 (Builtin.Builtins.bindParams "max" ["key", "default"] 0 ⟨[], []⟩ >>= _) _ _ s
  refine wpAny_bind (wpAny_of_eq (show Builtin.Builtins.bindParams "max" ["key", "default"] 0 ⟨[], []⟩ = pure [none, none] from rfl) ?_)
  refine wpAny_bind (wpAny_pure ?_)
  refine wpAny_bind (wpAny_pyIter_list hl ?_)
  refine wpAny_bind (wpAny_newObj_type ?_)
  rw [hname]
  have hax : @LT.lt Nat _ l s.heap.objs.size := by obtain ⟨_, e, _⟩ := hl; exact Heap.lt_size e
  generalize hI : s.heap.objs.size = I at hax
  generalize hh1 : (s.heap.push { cls := .type "list_iterator", data := .fields #[.ref l, .int 0 0] }) = h1
  generalize hS : h1.objs.size = S
  have hSI : S = I + 1 := by rw [← hS, ← hh1, Heap.size_push, hI]
  have keep1 : ∀ b o, s.heap.get? b = some o → h1.get? b = some o := fun b o e => by rw [← hh1]; exact Heap.get?_push_of_some _ e
  have old : ∀ b o, s.heap.get? b = some o → b ≠ I ∧ b ≠ S := fun b o e => by
    have : @LT.lt Nat _ b I := hI ▸ Heap.lt_size e
    exact ⟨addr_ne (by omega), addr_ne (by omega)⟩
  have W := Walks.list (prog := prog) (w := w) (A := A.in1) hh I l (addr_ne (by omega)) #[v1, v2]
  have iti : h1.get? I = some { cls := .type "list_iterator", data := .fields #[.ref l, .int 0 0] } := by rw [← hh1, ← hI]; exact Heap.get?_push_size _ rfl
  have lk : ∀ {h' : Heap}, (∀ b o, s.heap.get? b = some o → h'.get? b = some o) → h'.IsList l #[v1, v2] := fun hk => let ⟨o, e, r⟩ := hl; ⟨o, hk _ _ e, r⟩
  have hne : I ≠ S := addr_ne (by omega)
  refine wpAny_pure ⟨plainId_quiet F.plain_max_loop _, ?_⟩
  refine codeAny_builtin F.entry_max_loop ?_
  rw [Around.under_plainId F.plain_max_loop _]
  have hS1 : (h1.push { cls := .type "list", data := .seq ([] : List Value).toArray }).get? S = some { cls := .type "list", dict := none, data := .seq #[] 0, slots := #[] } := by rw [← hS]; exact Heap.get?_push_size _ rfl
  generalize hh2 : (h1.push { cls := .type "list", data := .seq ([] : List Value).toArray }) = h2 at hS1
  have keep2 : ∀ b o, h1.get? b = some o → h2.get? b = some o := fun b o e => by rw [← hh2]; exact Heap.get?_push_of_some _ e
  have k2 : ∀ b o, s.heap.get? b = some o → h2.get? b = some o := fun b o e => keep2 b o (keep1 b o e)
  show wpAny _ A.in1 (seqItems? (.ref S) >>= _) _ _ { s with heap := h2 }
  refine wpAny_bind (wpAny_seqItems hS1 rfl ?_)
  show wpAny _ A.in1 (tryCatch (pyNext (.ref I)) _ >>= _) _ _ _
  refine wpAny_bind (wpAny_tryCatch (W.item 0 { s with heap := h2 } _ _ (Nat.zero_lt_succ 1) ⟨⟨_, keep2 _ _ iti, rfl, rfl⟩, lk k2⟩ fun v h3 tk3 hP hst3 hk3 => ?_))
  obtain rfl : v1 = v := by simpa using hP
  have hS3 := hk3 S _ (fun q => hne (List.mem_singleton.mp q).symm) hS1
  have k3 : ∀ b o, s.heap.get? b = some o → h3.get? b = some o := fun b o e => hk3 b o (fun q => (old b o e).1 (List.mem_singleton.mp q)) (k2 b o e)
  show wpAny _ A.in1 (updateSeq S (fun _ => #[v1, v1]) >>= _) _ _ _
  refine wpAny_bind (wpAny_updateSeq hS3 rfl ?_)
  rw [hname]
  have hS4 := Heap.get?_update_self (Obj.mapSeq (fun _ => (#[v1, v1] : Array Value))) hS3 rfl
  have oth4 : ∀ b o, b ≠ S → h3.get? b = some o → (h3.update S (Obj.mapSeq (fun _ => (#[v1, v1] : Array Value)))).get? b = some o := fun b o n e => (Heap.get?_update_other _ _ (Ne.symm n)).trans e
  generalize (h3.update S (Obj.mapSeq (fun _ => (#[v1, v1] : Array Value)))) = h4 at hS4 oth4
  have k4 : ∀ b o, s.heap.get? b = some o → h4.get? b = some o := fun b o e => oth4 b o (old b o e).2 (k3 b o e)
  have st4 : h4.IsListIter I l 1 ∧ h4.IsList l #[v1, v2] := ⟨let ⟨o, e, r⟩ := hst3.1; ⟨o, oth4 _ _ hne e, r⟩, lk k4⟩
  refine wpAny_pure ⟨plainId_quiet F.plain_max_loop _, ?_⟩
  refine codeAny_builtin F.entry_max_loop ?_
  rw [Around.under_plainId F.plain_max_loop _]
  show wpAny _ A.in1 (seqItems? (.ref S) >>= _) _ _ { s with heap := h4, toks := tk3 }
  refine wpAny_bind (wpAny_seqItems hS4 rfl ?_)
  show wpAny _ A.in1 (tryCatch (pyNext (.ref I)) _ >>= _) _ _ _
  refine wpAny_bind (wpAny_tryCatch (W.item 1 { s with heap := h4, toks := tk3 } _ _ (Nat.lt_succ_self 1) st4 fun v h5 tk5 hP hst5 hk5 => ?_))
  obtain rfl : v2 = v := by simpa using hP
  have hS5 := hk5 S _ (fun q => hne (List.mem_singleton.mp q).symm) hS4
  have k5 : ∀ b o, s.heap.get? b = some o → h5.get? b = some o := fun b o e => hk5 b o (fun q => (old b o e).1 (List.mem_singleton.mp q)) (k4 b o e)
  show wpAny _ A.in1 (tryCatch (holding [v2, v2] (richCompare .Gt v2 v1 >>= _)) _ >>= _) _ _ _
  refine wpAny_bind (wpAny_tryCatch (wpAny_holding (wpAny_bind (rc { s with heap := h5, toks := tk5 } k5 prog w _ _ ?_))))
  refine wpAny_bind (wpAny_holding (wpAny_truthy_bool ?_))
  refine wpAny_bind (wpAny_letGo (wpAny_pure ?_))
  have last : ∀ (vb : Value) (cc : Nat) (h6 : Heap) (tk6 : Nat), h6.get? S = some { cls := .type "list", dict := none, data := .seq #[vb, vb] cc, slots := #[] } → (∀ b o, s.heap.get? b = some o → h6.get? b = some o) → h6.IsListIter I l 2 → Q vb = Q (if c then v2 else v1) →
      codeAny (model prog w) A (.builtin "max.loop" ⟨[.ref I, .none, .ref S], []⟩) (fun r s' => match r with | .ok (.ret v) => Q v s' | .ok _ => False | .error e => E e s') { s with heap := h6, toks := tk6 } := fun vb cc h6 tk6 hS6 k6 it6 hq => by
    refine codeAny_builtin F.entry_max_loop ?_
    rw [Around.under_plainId F.plain_max_loop _]
    show wpAny _ A.in1 (seqItems? (.ref S) >>= _) _ _ { s with heap := h6, toks := tk6 }
    refine wpAny_bind (wpAny_seqItems hS6 rfl ?_)
    show wpAny _ A.in1 (tryCatch (pyNext (.ref I)) _ >>= _) _ _ _
    refine wpAny_bind (wpAny_tryCatch (W.done { s with heap := h6, toks := tk6 } _ _ ⟨it6, lk k6⟩ fun h7 tk7 hk7 => ?_))
    have hS7 := hk7 S _ (fun q => hne (List.mem_singleton.mp q).symm) hS6
    show wpAny _ A.in1 (updateSeq S (fun _ => #[]) >>= _) _ _ _
    refine wpAny_bind (wpAny_updateSeq hS7 rfl (wpAny_bind (wpAny_letGo (wpAny_pure ?_))))
    show Q vb _
    rw [hq]
    exact h _ _ fun b o e => (Heap.get?_update_other _ _ (Ne.symm (old b o e).2)).trans (hk7 b o (fun q => (old b o e).1 (List.mem_singleton.mp q)) (k6 b o e))
  cases c with
  | true =>
    simp only [if_true]
    refine wpAny_bind ?_
    refine wpAny_updateSeq hS5 rfl (wpAny_bind (wpAny_letGo ?_))
    rw [hname]
    refine wpAny_pure ⟨plainId_quiet F.plain_max_loop _, ?_⟩
    exact last v2 _ _ _ (Heap.get?_update_self _ hS5 rfl) (fun b o e => (Heap.get?_update_other _ _ (Ne.symm (old b o e).2)).trans (k5 b o e)) (let ⟨o, e, r⟩ := hst5.1; ⟨o, (Heap.get?_update_other _ _ (Ne.symm hne)).trans e, r⟩) rfl
  | false =>
    simp only [Bool.false_eq_true, if_false]
    refine wpAny_bind (wpAny_letGo ?_)
    rw [hname]
    refine wpAny_pure ⟨plainId_quiet F.plain_max_loop _, ?_⟩
    exact last v1 _ _ _ hS5 k5 hst5.1 rfl

noncomputable def maxD : Fn := fn1 fun d => (asList d).bind fun l => (two? l).bind fun q => (asList q.1).bind fun xs => (asList q.2).bind fun ys => if okk (.list xs) (.list ys) then (lexL .Gt ys xs).map fun c => .list (if c then ys else xs) else none
theorem call_maxD {b : Base} {k : Nat} : CallOk b (.builtin "max") k maxD := call1 fun A W s d v ok r => .bind fun l hl => .bind fun q hq => .bind fun xs h1 => .bind fun ys h2 => .ite fun hc => .map fun c hx E Q h => by
  cases asList_eq _ hl
  rw [two_eq _ hq, asList_eq _ h1, asList_eq _ h2] at r
  obtain ⟨l, zs, rfl, sq, v1, us, rfl, r1, v2, us2, rfl, r2, rfl⟩ := r
  refine call_max2 ok.handled sq.list (c := c) (fun s' hk => rcLex_rep (A := A.in1) (.inr rfl) (and_t hc).2 (and_t hc).1 hx (r2.mono (off_all hk)) (r1.mono (off_all hk)) (by have h8 := ok.units; have hcl : 8000 < cLine := (by decide); show A.units + 1 + 64 < cLine; omega)) fun h' tk hk => ?_
  refine h _ _ (Post.of_keeps hk) ?_
  cases c with
  | true => exact r2.mono (off_all hk)
  | false => exact r1.mono (off_all hk)
end Mine
end
section
set_option maxRecDepth 100000
set_option maxHeartbeats 0
namespace Mine

noncomputable def conT : List (Str × D) := [("str", .ty "str"), ("bytes", .ty "bytes")]
noncomputable def tab0 : Tab := { fn := [("type", typeD), ("issubclass", issubD), ("isinstance", isinstD)], mt := [], con := conT }
noncomputable def fspathD : Fn := fn1 fun d => (asStr d).map .str
noncomputable def sepD : Fn := fn1 fun d => (asStr d).map fun _ => .str "/"
theorem fspath_def (P : Params) (x : Str) : fnD tab0 12 12 (scopeAt (hd.heap_1 P) 138) ["path"] (bodyAt (hd.heap_1 P) 138) [.str x] = some (.str x) := by kernel_rfl
theorem sep_def (P : Params) (x : Str) : fnD tab0 12 12 (scopeAt (hd.heap_1 P) 152) ["path"] (bodyAt (hd.heap_1 P) 152) [.str x] = some (.str "/") := by kernel_rfl
noncomputable def tab1 : Tab := { fn := [("fspath", fspathD), ("_get_sep", sepD), ("len", lenD), ("range", rangeD), ("sum", sumD)], mt := [("startswith", startsD), ("endswith", endsD), ("rfind", rfindD), ("rstrip", rstripD)], con := conT }
noncomputable def joinS (a b : Str) : Str := if Txt.startswith b "/" then b else if a.length = 0 then b else if Txt.endswith a "/" then a ++ b else a ++ ("/" ++ b)

noncomputable abbrev runAt (P : Params) (T : Tab) (f : Addr) (ps : List Str) (ds : List D) : Res := exS T 12 (scOf (scopeAt (hd.heap_1 P) f)) 12 (bodyAt (hd.heap_1 P) f) (putAll ps ds []) []
theorem fn_of_run {P : Params} {T : Tab} {f : Addr} {ps : List Str} {ds : List D} {d : D} (hl : ds.length = ps.length) (h : Gives d (runAt P T f ps ds)) : fnD T 12 12 (scopeAt (hd.heap_1 P) f) ps (bodyAt (hd.heap_1 P) f) ds = some d := by
  unfold fnD
  rw [if_pos (by simpa using hl)]
  exact h

theorem join_def (P : Params) (a b : Str) (hab : a.length + b.length + 1 ≤ room) : Gives (.str (joinS a b)) (runAt P tab1 159 ["a", "p"] [.str a, .tup [.str b]]) := by
  unfold runAt
  have hb : bodyAt (hd.heap_1 P) 159 = bodyAt (hd.heap_1 P) 159 := rfl
  conv at hb => rhs; whnf
  rw [hb]
  clear hb
  refine t_set (by kernel_rfl) rfl (exE_of rfl (d := .str a) (by kernel_rfl)) rfl ?_
  refine t_set (by kernel_rfl) rfl (exE_of rfl (d := .str "/") (by kernel_rfl)) rfl ?_
  refine t_set (by kernel_rfl) rfl (exE_of rfl (d := .str a) (by kernel_rfl)) rfl ?_
  refine t_try ?_
  refine t_for (xs := ["b"]) (rows := [[.str b]]) rfl (exI_of rfl (by kernel_rfl)) (by kernel_rfl) ?_
  refine f_cons rfl ?_
  refine t_set (by kernel_rfl) rfl (exE_of rfl (d := .str b) (by kernel_rfl)) rfl ?_
  have ht : truthD (.str a) = some ((a.length : Int) != 0) := if_pos (by omega)
  refine t_if (exT_of (tv_or2 (z1 := Txt.startswith b "/") (by kernel_rfl) (tv_not' (tv_name (d := .str a) (by kernel_rfl) ht)))) (fun hz => ?_) fun hz => ?_
  · refine t_set (by kernel_rfl) rfl (exE_of rfl (d := .str b) (by kernel_rfl)) rfl ?_
    repeat' (first | refine t_nil ?_ | refine then_next ?_ | refine fork_next ?_ | refine f_nil ?_)
    refine t_ret (exE_of rfl (d := .str b) (by kernel_rfl)) ?_
    have : joinS a b = b := by
      unfold joinS
      cases h : Txt.startswith b "/" with
      | true => rfl
      | false => rw [h] at hz; simp only [Bool.false_or, bne, Bool.not_not, beq_iff_eq] at hz; rw [if_neg (by decide), if_pos (by omega)]
    rw [this]; rfl
  · rw [Bool.or_eq_false_iff] at hz
    obtain ⟨hz1, hz⟩ := hz
    have hz : ¬ a.length = 0 := by
      intro h; rw [h] at hz; cases hz
    refine t_if (exT_of (z := Txt.endswith a "/") (by kernel_rfl)) (fun hz2 => ?_) fun hz2 => ?_
    · refine t_aug (a := .str a) (q := .str b) (by kernel_rfl) (by kernel_rfl) (by kernel_rfl) (by kernel_rfl) (if_pos (by omega)) rfl rfl ?_
      repeat' (first | refine t_nil ?_ | refine then_next ?_ | refine fork_next ?_ | refine f_nil ?_)
      refine t_ret (exE_of rfl (d := .str (a ++ b)) (by kernel_rfl)) ?_
      have : joinS a b = a ++ b := by
        unfold joinS
        rw [hz1, hz2, if_neg (by decide), if_neg hz, if_pos rfl]
      rw [this]; rfl
    · have hl : (("/" : Str)).length = 1 := rfl
      refine t_aug (a := .str a) (q := .str ("/" ++ b)) (by kernel_rfl) (by kernel_rfl) (by kernel_rfl) (e_bin (a := .str "/") (b := .str b) (by kernel_rfl) (by kernel_rfl) (if_pos (by omega))) (if_pos (by rw [Str.length_append, hl]; omega)) rfl rfl ?_
      repeat' (first | refine t_nil ?_ | refine then_next ?_ | refine fork_next ?_ | refine f_nil ?_)
      refine t_ret (exE_of rfl (d := .str (a ++ ("/" ++ b))) (by kernel_rfl)) ?_
      have : joinS a b = a ++ ("/" ++ b) := by
        unfold joinS
        rw [hz1, hz2, if_neg (by decide), if_neg hz, if_neg (by decide)]
      rw [this]; rfl

noncomputable def headS (a : Str) : Str := Txt.slice a none (some (Txt.rfind a "/" + 1))
noncomputable def dirS (a : Str) : Str := if ((headS a).length : Int) != 0 && !(headS a == Txt.mul "/" (headS a).length) then Txt.rstripChars (headS a) "/" else headS a
theorem dirname_def (P : Params) (a : Str) (ha : a.length ≤ room) (hh : (headS a).length ≤ room) : Gives (.str (dirS a)) (runAt P tab1 166 ["p"] [.str a]) := by
  unfold runAt
  have hb : bodyAt (hd.heap_1 P) 166 = bodyAt (hd.heap_1 P) 166 := rfl
  conv at hb => rhs; whnf
  rw [hb]
  clear hb
  refine t_set (by kernel_rfl) rfl (exE_of rfl (d := .str a) (by kernel_rfl)) rfl ?_
  refine t_set (by kernel_rfl) rfl (exE_of rfl (d := .str "/") (by kernel_rfl)) rfl ?_
  refine t_set (by kernel_rfl) rfl (exE_of rfl (d := .int (Txt.rfind a "/" + 1)) (by kernel_rfl)) rfl ?_
  refine t_set (d := .str (headS a)) (by kernel_rfl) rfl (exE_of rfl (e_part (l := none) (h := some (.int (Txt.rfind a "/" + 1))) (d := .str a) rfl (by kernel_rfl) (by kernel_rfl) (by kernel_rfl) (if_pos ha))) rfl ?_
  generalize hg : headS a = h at hh
  have hd1 : dirS a = if (h.length : Int) != 0 && !(h == Txt.mul "/" h.length) then Txt.rstripChars h "/" else h := by unfold dirS; rw [hg]
  rw [hd1]
  have hr : h.length ≤ 65536 := hh
  refine t_if (exT_of (tv_and2 (z1 := (h.length : Int) != 0) (z2 := !(h == Txt.mul "/" h.length)) (tv_name (d := .str h) (by kernel_rfl) (if_pos hh)) (tv_cmp' (a := .str h) (b := .str (Txt.mul "/" h.length)) rfl (by kernel_rfl)
    (e_bin (a := .str "/") (b := .int h.length) (by kernel_rfl) (call_fn1 (F := lenD) (ds := [.str h]) (by kernel_rfl) (by kernel_rfl) (by kernel_rfl) (if_pos hh)) (if_pos ⟨by omega, by omega, by decide⟩)) rfl))) (fun hz => ?_) fun hz => ?_
  · refine t_set (d := .str (Txt.rstripChars h "/")) (by kernel_rfl) rfl (exE_of rfl (e_meth (F := rstripD) (x := h) (ds := [.str "/"]) (by kernel_rfl) (by kernel_rfl) (by kernel_rfl) (by kernel_rfl) (if_pos hh))) rfl ?_
    repeat' (first | refine t_nil ?_ | refine then_next ?_ | refine fork_next ?_ | refine f_nil ?_)
    refine t_ret (exE_of rfl (d := .str (Txt.rstripChars h "/")) (by kernel_rfl)) ?_
    rw [hz]; rfl
  · repeat' (first | refine t_nil ?_ | refine then_next ?_ | refine fork_next ?_ | refine f_nil ?_)
    refine t_ret (exE_of rfl (d := .str h) (by kernel_rfl)) ?_
    rw [hz]; rfl
end Mine
end
section
set_option maxRecDepth 100000
set_option maxHeartbeats 0
namespace Mine

noncomputable def modeTab : List (List (Int × Str)) := [[(40960, "l"), (49152, "s"), (32768, "-"), (24576, "b"), (16384, "d"), (8192, "c"), (4096, "p")], [(256, "r")], [(128, "w")], [(2112, "s"), (2048, "S"), (64, "x")], [(32, "r")], [(16, "w")], [(1032, "s"), (1024, "S"), (8, "x")], [(4, "r")], [(2, "w")], [(513, "t"), (512, "T"), (1, "x")]]
noncomputable def tabD (t : List (List (Int × Str))) : D := .tup (t.map fun r => .tup (r.map fun q => .tup [.int q.1, .str q.2]))
noncomputable def ifmtD : Fn := fn1 fun d => (asInt d).map fun m => .int (Builtin.bitAnd m 61440)
noncomputable def tab2 : Tab := { fn := [("S_IFMT", ifmtD)], mt := [("join", joinD)], con := [("_filemode_table", tabD modeTab)] }
noncomputable def charI (i : Int) (t : List (Int × Str)) (m : Int) : Str := match t.find? (fun r => if i == 0 then Builtin.bitAnd m 61440 == r.1 else Builtin.bitAnd m r.1 == r.1) with
  | some r => r.2
  | none => if i == 0 then "?" else "-"
noncomputable abbrev scA (P : Params) (f : Addr) : Sc := scOf (scopeAt (hd.heap_1 P) f)
noncomputable abbrev fmFor (P : Params) : Stmt := stmtAt (forBody (stmtAt (bodyAt (hd.heap_1 P) 218) 1)) 0
theorem ifmt_def (P : Params) (m : Int) : fnD tab0 12 12 (scopeAt (hd.heap_1 P) 178) ["mode"] (bodyAt (hd.heap_1 P) 178) [.int m] = some (.int (Builtin.bitAnd m 61440)) := by kernel_rfl

theorem fm_inner (P : Params) (m i : Int) : ∀ (t : List (Int × Str)) (σ : Names) (acc : List D) (X : Res → Prop), Has σ "mode" (.int m) → Has σ "index" (.int i) → acc.length < 100 →
    (∀ σ', Has σ' "mode" (.int m) → X (some (.next, σ', [("perm", true, acc ++ [.str (charI i t m)])]))) →
    X (forW (exS tab2 12 (scA P 218) 9 (forBody (fmFor P))) (exS tab2 12 (scA P 218) 9 (forElse (fmFor P))) ["bit", "char"] (t.map fun r => [.int r.1, .str r.2]) σ [("perm", true, acc)]) := by
  have hb : fmFor P = fmFor P := rfl
  conv at hb => rhs; whnf
  rw [hb]
  clear hb
  dsimp only [forBody, forElse]
  intro t
  induction t with
  | nil =>
    intro σ acc X hm hi hl k
    have hl2 : acc.length < room := by unfold room; omega
    refine f_nil ?_
    refine t_if (exT_of (z := i == 0) (tv_cmp' (a := .int i) (b := .int 0) rfl (e_name (by kernel_rfl) hi) (by kernel_rfl) (by kernel_rfl))) (fun hz => ?_) fun hz => ?_
    · refine t_append (ds := acc) (d := .str "?") (by kernel_rfl) (by kernel_rfl) (exE_of (by kernel_rfl) (by kernel_rfl)) (by kernel_rfl) hl2 (ω' := []) (by kernel_rfl) ?_
      refine t_nil (then_next (t_nil ?_))
      have := k σ hm
      unfold charI at this
      simp only [List.find?_nil, hz] at this
      exact this
    · refine t_append (ds := acc) (d := .str "-") (by kernel_rfl) (by kernel_rfl) (exE_of (by kernel_rfl) (by kernel_rfl)) (by kernel_rfl) hl2 (ω' := []) (by kernel_rfl) ?_
      refine t_nil (then_next (t_nil ?_))
      have := k σ hm
      unfold charI at this
      simp only [List.find?_nil, hz] at this
      exact this
  | cons r t ih =>
    intro σ acc X hm hi hl k
    have hl2 : acc.length < room := by unfold room; omega
    refine f_cons rfl ?_
    generalize hσ : putAll ["bit", "char"] [.int r.1, .str r.2] σ = σ1
    have hm1 : Has σ1 "mode" (.int m) := by rw [← hσ]; exact look_skip (by kernel_rfl) (look_skip (by kernel_rfl) hm)
    have hi1 : Has σ1 "index" (.int i) := by rw [← hσ]; exact look_skip (by kernel_rfl) (look_skip (by kernel_rfl) hi)
    have hb1 : Has σ1 "bit" (.int r.1) := by rw [← hσ]; kernel_rfl
    have hc1 : Has σ1 "char" (.str r.2) := by rw [← hσ]; kernel_rfl
    refine t_if (exT_of (z := i == 0) (tv_cmp' (a := .int i) (b := .int 0) rfl (e_name (by kernel_rfl) hi1) (by kernel_rfl) (by kernel_rfl))) (fun hz => ?_) fun hz => ?_
    · refine t_if (exT_of (z := Builtin.bitAnd m 61440 == r.1) (tv_cmp' (a := .int (Builtin.bitAnd m 61440)) (b := .int r.1) rfl (call_fn1 (F := ifmtD) (ds := [.int m]) (by kernel_rfl) (by kernel_rfl) (evsW_cons rfl (e_name (by kernel_rfl) hm1) (by kernel_rfl)) (by kernel_rfl)) (e_name (by kernel_rfl) hb1) (by kernel_rfl))) (fun hz2 => ?_) fun hz2 => ?_
      · refine t_append (ds := acc) (d := .str r.2) (by kernel_rfl) (by kernel_rfl) (exE_of (by kernel_rfl) (e_name (by kernel_rfl) hc1)) (by kernel_rfl) hl2 (ω' := []) (by kernel_rfl) ?_
        refine t_brk ?_
        refine then_brk (then_brk (fork_brk ?_))
        have := k σ1 hm1
        unfold charI at this
        simp only [List.find?_cons, hz, hz2] at this
        exact this
      · refine t_nil (then_next (t_nil (then_next (t_nil (fork_next ?_)))))
        refine ih σ1 acc X hm1 hi1 hl ?_
        intro σ' h'
        have := k σ' h'
        unfold charI at this ⊢
        simp only [List.find?_cons, hz, hz2] at this
        simp only [hz]
        exact this
    · refine t_if (exT_of (z := Builtin.bitAnd m r.1 == r.1) (tv_cmp' (a := .int (Builtin.bitAnd m r.1)) (b := .int r.1) rfl (e_bin (e_name (by kernel_rfl) hm1) (e_name (by kernel_rfl) hb1) (by kernel_rfl)) (e_name (by kernel_rfl) hb1) (by kernel_rfl))) (fun hz2 => ?_) fun hz2 => ?_
      · refine t_append (ds := acc) (d := .str r.2) (by kernel_rfl) (by kernel_rfl) (exE_of (by kernel_rfl) (e_name (by kernel_rfl) hc1)) (by kernel_rfl) hl2 (ω' := []) (by kernel_rfl) ?_
        refine t_brk ?_
        refine then_brk (then_brk (fork_brk ?_))
        have := k σ1 hm1
        unfold charI at this
        simp only [List.find?_cons, hz, hz2] at this
        exact this
      · refine t_nil (then_next (t_nil (then_next (t_nil (fork_next ?_)))))
        refine ih σ1 acc X hm1 hi1 hl ?_
        intro σ' h'
        have := k σ' h'
        unfold charI at this ⊢
        simp only [List.find?_cons, hz, hz2] at this
        simp only [hz]
        exact this

noncomputable def rowsFrom : Int → List (List (Int × Str)) → List (List D)
  | _, [] => []
  | i, t :: ts => [.int i, .tup (t.map fun q => .tup [.int q.1, .str q.2])] :: rowsFrom (i + 1) ts
noncomputable def charsFrom (m : Int) : Int → List (List (Int × Str)) → List Str
  | _, [] => []
  | i, t :: ts => charI i t m :: charsFrom m (i + 1) ts
noncomputable def fileS (m : Int) : Str := Txt.join "" (charsFrom m 0 modeTab)
noncomputable abbrev fmOut (P : Params) : Stmt := stmtAt (bodyAt (hd.heap_1 P) 218) 1
theorem tupRows_pairs : ∀ (t : List (Int × Str)), tupRows 2 (t.map fun q => D.tup [.int q.1, .str q.2]) = some (t.map fun r => [.int r.1, .str r.2])
  | [] => rfl
  | q :: t => by
    have := tupRows_pairs t
    simp only [List.map_cons, tupRows, this]
    rfl
theorem fm_outer (P : Params) (m : Int) : ∀ (ts : List (List (Int × Str))) (i : Int) (σ : Names) (acc : List D) (X : Res → Prop), Has σ "mode" (.int m) → acc.length + ts.length < 100 →
    (∀ σ', X (some (.next, σ', [("perm", true, acc ++ (charsFrom m i ts).map .str)]))) →
    X (forW (exS tab2 12 (scA P 218) 10 (forBody (fmOut P))) (exS tab2 12 (scA P 218) 10 (forElse (fmOut P))) ["index", "table"] (rowsFrom i ts) σ [("perm", true, acc)]) := by
  intro ts
  induction ts with
  | nil =>
    intro i σ acc X hm hl k
    refine f_nil ?_
    have hb : fmOut P = fmOut P := rfl
    conv at hb => rhs; whnf
    rw [hb]
    refine t_nil ?_
    have := k σ
    simpa [charsFrom] using this
  | cons t ts ih =>
    intro i σ acc X hm hl k
    simp only [List.length_cons] at hl
    refine f_cons rfl ?_
    generalize hσ : putAll ["index", "table"] [.int i, .tup (t.map fun q => .tup [.int q.1, .str q.2])] σ = σ1
    have hm1 : Has σ1 "mode" (.int m) := by rw [← hσ]; exact look_skip (by kernel_rfl) (look_skip (by kernel_rfl) hm)
    have hi1 : Has σ1 "index" (.int i) := by rw [← hσ]; kernel_rfl
    have ht1 : Has σ1 "table" (.tup (t.map fun q => .tup [.int q.1, .str q.2])) := by rw [← hσ]; kernel_rfl
    have hb : forBody (fmOut P) = [fmFor P] := by kernel_rfl
    rw [hb]
    have hf : fmFor P = fmFor P := rfl
    conv at hf => rhs; whnf
    rw [hf]
    refine t_for (xs := ["bit", "char"]) (rows := t.map fun r => [.int r.1, .str r.2]) (by kernel_rfl) (exI_of (by kernel_rfl) (iter_plain (d := .tup (t.map fun q => .tup [.int q.1, .str q.2])) (by kernel_rfl) (by kernel_rfl) (e_name (by kernel_rfl) ht1) ?_)) (by kernel_rfl) ?_
    · have := tupRows_pairs t
      show Option.map _ (tupRows 2 _) = _
      rw [this]
      rfl
    · have key := fun X' k => fm_inner P m i t σ1 acc X' hm1 hi1 (by omega) k
      rw [hf] at key
      dsimp only [forBody, forElse] at key
      refine key (Then (ForK X _) _) fun σ' hm' => ?_
      refine then_next (t_nil (fork_next ?_))
      rw [← hf, ← hb]
      refine ih (i + 1) σ' _ X hm' (by simp; omega) fun σ2 => ?_
      have := k σ2
      simpa [charsFrom] using this
theorem charI_len (i m : Int) : ∀ (t : List (Int × Str)), (t.all fun r => r.2.length == 1) = true → (charI i t m).length = 1 := fun t h => by
  unfold charI
  split
  · rename_i r e
    have := List.all_eq_true.mp h r (List.mem_of_find?_eq_some e)
    simpa using this
  · split <;> kernel_rfl
theorem charsFrom_len (m : Int) : ∀ (ts : List (List (Int × Str))) (i : Int), (ts.all fun t => t.all fun r => r.2.length == 1) = true → ((charsFrom m i ts).map (·.length)).sum = ts.length ∧ (charsFrom m i ts).length = ts.length
  | [], _, _ => ⟨rfl, rfl⟩
  | t :: ts, i, h => by
    rw [List.all_cons, Bool.and_eq_true] at h
    obtain ⟨h1, h2⟩ := charsFrom_len m ts (i + 1) h.2
    have := charI_len i m t h.1
    simp only [charsFrom, List.map_cons, List.sum_cons, List.length_cons, h1, h2, this]
    exact ⟨by omega, trivial⟩
theorem filemode_def (P : Params) (m : Int) : Gives (.str (fileS m)) (runAt P tab2 218 ["mode"] [.int m]) := by
  unfold runAt
  have hb : bodyAt (hd.heap_1 P) 218 = bodyAt (hd.heap_1 P) 218 := rfl
  conv at hb => rhs; whnf
  rw [hb]
  clear hb
  refine t_list (ds := []) (σ' := [("mode", .int m)]) (ω' := []) (by kernel_rfl) (by kernel_rfl) (by kernel_rfl) (by kernel_rfl) ?_
  refine t_for (xs := ["index", "table"]) (rows := rowsFrom 0 modeTab) (by kernel_rfl) (exI_of (by kernel_rfl) (by kernel_rfl)) (by kernel_rfl) ?_
  refine fm_outer P m modeTab 0 _ [] (Then (Gives (.str (fileS m))) _) (by kernel_rfl) (by decide +kernel) fun σ' => ?_
  refine then_next ?_
  obtain ⟨h1, h2⟩ := charsFrom_len m modeTab 0 (by kernel_rfl)
  refine t_ret (d := .str (fileS m)) (exE_of2 (by kernel_rfl) (by kernel_rfl) (e_meth (F := joinD) (x := "") (ds := [.list ((charsFrom m 0 modeTab).map .str)]) (by kernel_rfl) (by kernel_rfl) (by kernel_rfl) (evsW_cons (by kernel_rfl) (e_name (by kernel_rfl) (by kernel_rfl)) (by kernel_rfl)) ?_)) ?_
  · exact joinD_eq (by rw [h1, h2]; decide +kernel)
  · rfl
end Mine
end
section
set_option maxRecDepth 100000
set_option maxHeartbeats 0
namespace Mine
noncomputable def tab3 : Tab := { fn := [("sum", sumD), ("range", rangeD), ("len", lenD)], mt := [], con := [] }
noncomputable def gtS (a b : Str) : Bool := (cmpD .Gt (.str a) (.str b)).getD false
noncomputable def fallsS (a b c d e : Str) : Int := (if gtS a b then 1 else 0) + (if gtS b c then 2 else 0) + (if gtS c d then 3 else 0) + (if gtS d e then 4 else 0)

theorem tests1 {r : Ev} {c : Sc} {σ : Names} {e : Expr} {z : Bool} (h : tvW r c σ 8 e = some z) : testsW r c σ [e] = some z := by
  unfold testsW
  rw [h]
  cases z <;> rfl
theorem rowsW_pick {r : Ev} {c : Sc} {ifs : List Expr} {inner : Names → Option (List D)} {xs : List Str} {σ : Names} : ∀ (l : List (List D × D × Bool)), (∀ e ∈ l, testsW r c (putAll xs e.1 σ) ifs = some e.2.2 ∧ inner (putAll xs e.1 σ) = some [e.2.1]) → rowsW r c ifs inner xs σ (l.map (·.1)) = some ((l.filter (·.2.2)).map (·.2.1))
  | [], _ => rfl
  | e :: l, h => by
    obtain ⟨row, d, z⟩ := e
    have h0 := h _ (.head _)
    simp only [List.map_cons, rowsW, h0.1, h0.2, Option.bind_some, rowsW_pick l fun d hd => h d (.tail _ hd), Option.map_some]
    cases z <;> simp
theorem falls_def (P : Params) (a b c d e : Str) : Gives (.int (fallsS a b c d e)) (runAt P tab3 247 ["rows"] [.list [.str a, .str b, .str c, .str d, .str e]]) := by
  unfold runAt
  have hb : bodyAt (hd.heap_1 P) 247 = bodyAt (hd.heap_1 P) 247 := rfl
  conv at hb => rhs; whnf
  rw [hb]
  clear hb
  refine t_ret (d := .int (fallsS a b c d e)) (exE_of (by kernel_rfl) (call_fn1 (F := sumD) (ds := [.list (([([D.int 1], D.int 1, gtS a b), ([.int 2], .int 2, gtS b c), ([.int 3], .int 3, gtS c d), ([.int 4], .int 4, gtS d e)].filter (·.2.2)).map (·.2.1))]) (by kernel_rfl) (by kernel_rfl) (evsW_cons (by kernel_rfl)
    (ev_comp (xs := ["k"]) (rows := [[.int 1], [.int 2], [.int 3], [.int 4]]) (by kernel_rfl) (by kernel_rfl) (by kernel_rfl) (by kernel_rfl) (rowsW_pick [([D.int 1], D.int 1, gtS a b), ([.int 2], .int 2, gtS b c), ([.int 3], .int 3, gtS c d), ([.int 4], .int 4, gtS d e)] fun row hr => ?_) ?_) (by kernel_rfl)) ?_)) rfl
  · simp only [List.mem_cons, List.not_mem_nil, or_false] at hr
    rcases hr with rfl | rfl | rfl | rfl <;> exact ⟨tests1 (by kernel_rfl), by kernel_rfl⟩
  · rw [List.length_map]
    exact Nat.le_trans (List.length_filter_le _ _) (show 4 ≤ room by decide)
  · unfold fallsS
    cases gtS a b <;> cases gtS b c <;> cases gtS c d <;> cases gtS d e <;> kernel_rfl

section
variable {T : Tab} {n : Nat} {c : Sc} {j : Nat} {σ σ' σ1 : Names} {ω ω' ω1 : Own} {rest : List Stmt} {p p' pl : Pos} {X : Res → Prop}
theorem exL_of {es : List Expr} {ds : List D} (h0 : (ω.all fun x => es.all fun e => !ment fuelM x.1 e) = true) (h : evsW (ev T n) c σ es = some ds) (hl : ds.length ≤ room) : exL T n c σ ω es = some ds := by
  unfold exL
  rw [if_pos h0, h]
  simp only [Option.bind_some]
  rw [if_pos hl]
theorem t_extend {x : Str} {es : List Expr} {ds q : List D} (hx : (!noLoad x && storable c x) = true) (hω : ω.lookup x = some (true, ds)) (h : exL T n c σ ω es = some q) (hl : ds.length + q.length ≤ room) (hσ : (σ.filter fun e => !(e.1 == x)) = σ') (hω' : (ω.filter fun e => !(e.1 == x)) = ω')
    (k : X (exS T n c j rest σ' ((x, true, ds ++ q) :: ω'))) : X (exS T n c (j + 1) (.AugAssign (.Name x p) .Add (.List es pl) p' :: rest) σ ω) := by
  refine t_run (σ1 := σ') (ω1 := (x, true, ds ++ q) :: ω') ?_ k
  show augW T n c x .Add (.List es pl) σ ω = _
  unfold augW
  rw [if_pos hx, hω]
  rw [Option.elim_some]
  show (if Operator.Add = .Add ∧ true = true then (exL T n c σ ω es).bind _ else none) = _
  rw [if_pos ⟨rfl, rfl⟩, h, Option.bind_some, if_pos hl, hσ, bare, hω']
end
theorem exE_own {T : Tab} {n : Nat} {c : Sc} {σ : Names} {ω : Own} {e : Expr} {d d' : D} (h0 : (ω.all fun x => !ment fuelM x.1 e) = false) (h : ev T n c (reveal ω ++ σ) e = some d) (hd : d.flat = false) (h2 : ev T n c (reveal (ω.filter fun x => ment fuelM x.1 e) ++ σ) e = some d') :
    exE T n c σ ω e = some (d', reveal (ω.filter fun x => ment fuelM x.1 e) ++ σ, ω.filter fun x => !ment fuelM x.1 e) := by
  unfold exE
  rw [if_neg (by rw [h0]; decide), h, Option.bind_some, if_neg (by rw [hd]; decide), shown, h2]
  rfl
theorem e_ifint {T : Tab} {n : Nat} {c : Sc} {σ : Names} {p : Pos} {t u v : Expr} {z : Bool} {a b : Int} (h1 : tvW (ev T n) c σ 8 t = some z) (hu : ev T n c σ u = some (.int a)) (hv : ev T n c σ v = some (.int b)) : ev T (n + 1) c σ (.IfExp t u v p) = some (.int (if z = true then a else b)) :=
  e_ifexp h1 (by cases z <;> assumption)
noncomputable def kindR (m : Int) : Int := [1, 6, 3, 1, 4, 1, 2, 1, 0, 1, 5, 1, 7, 1, 1, 1].getD (m.fdiv 4096).toNat 0
theorem item_at {l : List D} {q : Int} {d : D} (h0 : 0 ≤ q) (h1 : q < 65536) (h : l[q.toNat]? = some d) : itemD (.list l) (.int q) = some d := by
  show (if 0 ≤ q ∧ q < 65536 then l[q.toNat]? else none) = _
  rw [if_pos ⟨h0, h1⟩, h]
theorem drop_list {l : List D} {q : Int} (h0 : 0 ≤ q) (h : l.length ≤ room) : partD (some (.int q)) none (.list l) = some (.list (l.drop q.toNat)) := by
  show (if 0 ≤ q ∧ l.length ≤ room then some (D.list (l.drop q.toNat)) else none) = _
  rw [if_pos ⟨h0, h⟩]
theorem take_list {l : List D} {q : Int} (h0 : 0 ≤ q) (h : l.length ≤ room) : partD none (some (.int q)) (.list l) = some (.list (l.take q.toNat)) := by
  show (if 0 ≤ q ∧ l.length ≤ room then some (D.list (l.take q.toNat)) else none) = _
  rw [if_pos ⟨h0, h⟩]
theorem item_ints {l : List Int} {q : Int} (h0 : 0 ≤ q) (h1 : q < l.length) (h2 : l.length ≤ 65536) : itemD (.list (l.map .int)) (.int q) = some (.int (l.getD q.toNat 0)) := by
  have hn : q.toNat < l.length := by omega
  show (if 0 ≤ q ∧ q < 65536 then (l.map D.int)[q.toNat]? else none) = _
  rw [if_pos ⟨h0, by omega⟩, List.getElem?_map, List.getD_eq_getElem?_getD, List.getElem?_eq_getElem hn]; rfl
theorem kindR_item {m : Int} (h0 : 0 ≤ m) (h1 : m < 65536) : itemD (.list [.int 1, .int 6, .int 3, .int 1, .int 4, .int 1, .int 2, .int 1, .int 0, .int 1, .int 5, .int 1, .int 7, .int 1, .int 1, .int 1]) (.int (m.fdiv 4096)) = some (.int (kindR m)) := by
  have hq : m.fdiv 4096 = m / 4096 := Int.fdiv_eq_ediv_of_nonneg _ (by decide)
  unfold kindR
  rw [hq]
  exact item_ints (l := [1, 6, 3, 1, 4, 1, 2, 1, 0, 1, 5, 1, 7, 1, 1, 1]) (Int.ediv_nonneg h0 (by decide)) (Int.ediv_lt_of_lt_mul (by decide) h1) (by decide)
noncomputable def rightsI (m : Int) (k : Nat) : Int := (m.fdiv (8 ^ (2 - k))).fmod 8
noncomputable def aboveI (m : Int) (k : Nat) : Int := (m.fdiv (2 ^ (11 - k))).fmod 2
noncomputable def threeI (m : Int) (k : Nat) : List Int := [(rightsI m k).fdiv 4, ((rightsI m k).fdiv 2).fmod 2, if ((rightsI m k).fmod 2 == 0) = true then aboveI m k else 3 - aboveI m k]
noncomputable def rankS (m : Int) : List Int := kindR m :: (threeI m 0 ++ threeI m 1 ++ threeI m 2)

theorem rank_def (P : Params) (m : Int) (h0 : 0 ≤ m) (h1 : m < 65536) : Gives (.list ((rankS m).map .int)) (runAt P tab3 237 ["mode"] [.int m]) := by
  unfold runAt
  have hb : bodyAt (hd.heap_1 P) 237 = bodyAt (hd.heap_1 P) 237 := rfl
  conv at hb => rhs; whnf
  rw [hb]
  clear hb
  refine t_list (ds := [.int (kindR m)]) (σ' := [("mode", .int m)]) (ω' := []) (by kernel_rfl) (exL_of (by kernel_rfl) (evsW_cons (by kernel_rfl) (e_item (d := .list [.int 1, .int 6, .int 3, .int 1, .int 4, .int 1, .int 2, .int 1, .int 0, .int 1, .int 5, .int 1, .int 7, .int 1, .int 1, .int 1]) (j := .int (m.fdiv 4096)) (by kernel_rfl) (by kernel_rfl) (by kernel_rfl) (kindR_item h0 h1)) (by kernel_rfl)) (by unfold room; simp)) (by kernel_rfl) (by kernel_rfl) ?_
  refine t_for (xs := ["k"]) (rows := [[.int 0], [.int 1], [.int 2]]) (by kernel_rfl) (exI_of (by kernel_rfl) (by kernel_rfl)) (by kernel_rfl) ?_
  refine f_cons rfl ?_
  refine t_set (d := .int (rightsI m 0)) (ω' := [("rank", true, [.int (kindR m)])]) (by kernel_rfl) rfl (exE_of (by kernel_rfl) (by kernel_rfl)) (by kernel_rfl) ?_
  refine t_set (d := .int (aboveI m 0)) (ω' := [("rank", true, [.int (kindR m)])]) (by kernel_rfl) rfl (exE_of (by kernel_rfl) (by kernel_rfl)) (by kernel_rfl) ?_
  refine t_extend (ds := [.int (kindR m)]) (q := (threeI m 0).map .int) (ω' := []) (by kernel_rfl) (by kernel_rfl) (exL_of (by kernel_rfl) (evsW_cons (d := .int ((rightsI m 0).fdiv 4)) (by kernel_rfl) (by kernel_rfl) (evsW_cons (d := .int (((rightsI m 0).fdiv 2).fmod 2)) (by kernel_rfl) (by kernel_rfl) (evsW_cons (by kernel_rfl) (e_ifint (z := (rightsI m 0).fmod 2 == 0) (a := aboveI m 0) (b := 3 - aboveI m 0) (by kernel_rfl) (by kernel_rfl) (by kernel_rfl)) rfl))) (by unfold room; simp [threeI])) (by unfold room; simp [threeI]) rfl (by kernel_rfl) ?_
  refine t_nil (fork_next ?_)
  refine f_cons rfl ?_
  refine t_set (d := .int (rightsI m 1)) (ω' := [("rank", true, ([.int (kindR m)] ++ (threeI m 0).map .int))]) (by kernel_rfl) rfl (exE_of (by kernel_rfl) (by kernel_rfl)) (by kernel_rfl) ?_
  refine t_set (d := .int (aboveI m 1)) (ω' := [("rank", true, ([.int (kindR m)] ++ (threeI m 0).map .int))]) (by kernel_rfl) rfl (exE_of (by kernel_rfl) (by kernel_rfl)) (by kernel_rfl) ?_
  refine t_extend (ds := ([.int (kindR m)] ++ (threeI m 0).map .int)) (q := (threeI m 1).map .int) (ω' := []) (by kernel_rfl) (by kernel_rfl) (exL_of (by kernel_rfl) (evsW_cons (d := .int ((rightsI m 1).fdiv 4)) (by kernel_rfl) (by kernel_rfl) (evsW_cons (d := .int (((rightsI m 1).fdiv 2).fmod 2)) (by kernel_rfl) (by kernel_rfl) (evsW_cons (by kernel_rfl) (e_ifint (z := (rightsI m 1).fmod 2 == 0) (a := aboveI m 1) (b := 3 - aboveI m 1) (by kernel_rfl) (by kernel_rfl) (by kernel_rfl)) rfl))) (by unfold room; simp [threeI])) (by unfold room; simp [threeI]) rfl (by kernel_rfl) ?_
  refine t_nil (fork_next ?_)
  refine f_cons rfl ?_
  refine t_set (d := .int (rightsI m 2)) (ω' := [("rank", true, (([.int (kindR m)] ++ (threeI m 0).map .int) ++ (threeI m 1).map .int))]) (by kernel_rfl) rfl (exE_of (by kernel_rfl) (by kernel_rfl)) (by kernel_rfl) ?_
  refine t_set (d := .int (aboveI m 2)) (ω' := [("rank", true, (([.int (kindR m)] ++ (threeI m 0).map .int) ++ (threeI m 1).map .int))]) (by kernel_rfl) rfl (exE_of (by kernel_rfl) (by kernel_rfl)) (by kernel_rfl) ?_
  refine t_extend (ds := (([.int (kindR m)] ++ (threeI m 0).map .int) ++ (threeI m 1).map .int)) (q := (threeI m 2).map .int) (ω' := []) (by kernel_rfl) (by kernel_rfl) (exL_of (by kernel_rfl) (evsW_cons (d := .int ((rightsI m 2).fdiv 4)) (by kernel_rfl) (by kernel_rfl) (evsW_cons (d := .int (((rightsI m 2).fdiv 2).fmod 2)) (by kernel_rfl) (by kernel_rfl) (evsW_cons (by kernel_rfl) (e_ifint (z := (rightsI m 2).fmod 2 == 0) (a := aboveI m 2) (b := 3 - aboveI m 2) (by kernel_rfl) (by kernel_rfl) (by kernel_rfl)) rfl))) (by unfold room; simp [threeI])) (by unfold room; simp [threeI]) rfl (by kernel_rfl) ?_
  refine t_nil (fork_next ?_)
  refine f_nil (t_nil (then_next ?_))
  have he : [D.int (kindR m)] ++ List.map D.int (threeI m 0) ++ List.map D.int (threeI m 1) ++ List.map D.int (threeI m 2) = (rankS m).map .int := by
    unfold rankS
    simp only [List.map_cons, List.map_append, List.cons_append, List.nil_append]
  rw [he]
  generalize (rankS m).map D.int = l
  refine t_ret (exE_own (d := .list l) (d' := .list l) (by kernel_rfl) (by kernel_rfl) rfl (by kernel_rfl)) rfl
end Mine
end
section
set_option maxRecDepth 100000
set_option maxHeartbeats 0
namespace Mine
theorem inner1 {r : Ev} {c : Sc} {σ : Names} {elt : Expr} {d : D} (h : r c σ elt = some d) : gensW r c elt [] σ = some [d] := by
  show (r c σ elt).map (fun d => [d]) = _
  rw [h]; rfl
noncomputable def intOf : List D → Nat
  | [.int i] => i.toNat
  | _ => 0
noncomputable def strAt (o : List Str) (i : Nat) : Str := o.getD i Str.empty
noncomputable def pairJ (o : List Str) (j : Nat) : List Int := (List.range j).flatMap fun i => if gtS (strAt o i) (strAt o j) then [1] else []
noncomputable def pairsS (o : List Str) : Int := ((List.range 5).flatMap (pairJ o)).sum
noncomputable def rowsTo (n : Nat) : List (List D) := (List.range n).map fun i => [.int (i : Nat)]
theorem pairJ_rows (o : List Str) (j : Nat) : (rowsTo j).flatMap (fun row => if gtS (strAt o (intOf row)) (strAt o j) then [D.int 1] else []) = (pairJ o j).map .int := by
  unfold rowsTo pairJ
  rw [List.map_flatMap, List.flatMap_map]
  congr 1
  funext i
  show (if gtS (strAt o i) (strAt o j) = true then [D.int 1] else []) = List.map D.int (if gtS (strAt o i) (strAt o j) = true then [1] else [])
  by_cases h : gtS (strAt o i) (strAt o j) = true
  · rw [if_pos h, if_pos h]; rfl
  · rw [if_neg h, if_neg h]; rfl
theorem pairs_rows (o : List Str) : (rowsTo 5).flatMap (fun row => if (fun _ : List D => true) row then (pairJ o (intOf row)).map D.int else []) = (((List.range 5).flatMap (pairJ o)).map .int) := by
  unfold rowsTo
  rw [List.map_flatMap, List.flatMap_map]
  congr 1
theorem pairJ_len (o : List Str) (j : Nat) : (pairJ o j).length ≤ j := by
  unfold pairJ
  have : ∀ l : List Nat, (l.flatMap fun i => if gtS (strAt o i) (strAt o j) then [(1 : Int)] else []).length ≤ l.length := fun l => by
    induction l with
    | nil => simp
    | cons i l ih =>
      rw [List.flatMap_cons, List.length_append, List.length_cons]
      have : (if gtS (strAt o i) (strAt o j) then [(1 : Int)] else []).length ≤ 1 := by split <;> simp
      omega
  simpa using this (List.range j)
theorem rows_each {p : List D → Prop} {n : Nat} (h : ∀ i, i < n → p [.int (i : Nat)]) : ∀ r ∈ rowsTo n, p r := fun r hr => by
  unfold rowsTo at hr
  obtain ⟨i, hi, rfl⟩ := List.mem_map.mp hr
  exact h i (List.mem_range.mp hi)
theorem pairs_len (o : List Str) : ((List.range 5).flatMap (pairJ o)).length ≤ 10 := by
  have h0 := pairJ_len o 0
  have h1 := pairJ_len o 1
  have h2 := pairJ_len o 2
  have h3 := pairJ_len o 3
  have h4 := pairJ_len o 4
  have : List.range 5 = [0, 1, 2, 3, 4] := rfl
  rw [this]
  simp only [List.flatMap_cons, List.flatMap_nil, List.length_append, List.length_nil]
  omega
theorem pairs_def (P : Params) (a b c d e : Str) : Gives (.int (pairsS [a, b, c, d, e])) (runAt P tab3 252 ["order"] [.list [.str a, .str b, .str c, .str d, .str e]]) := by
  unfold runAt
  have hb : bodyAt (hd.heap_1 P) 252 = bodyAt (hd.heap_1 P) 252 := rfl
  conv at hb => rhs; whnf
  rw [hb]
  clear hb
  refine t_ret (d := .int (pairsS [a, b, c, d, e])) (exE_of (by kernel_rfl) (call_fn1 (F := sumD) (ds := [.list (((List.range 5).flatMap (pairJ [a, b, c, d, e])).map .int)]) (by kernel_rfl) (by kernel_rfl) (evsW_cons (by kernel_rfl)
    (ev_comp (xs := ["j"]) (rows := rowsTo 5) (by kernel_rfl) (by kernel_rfl) (by kernel_rfl) (by kernel_rfl) ((rows_flat (z := fun _ => true) (f := fun row => (pairJ [a, b, c, d, e] (intOf row)).map D.int) fun row hr => ⟨rfl, fun _ => ?_⟩).trans (congrArg some (pairs_rows _))) ?_) (by kernel_rfl)) ?_)) rfl
  · have hj : ∀ j : Nat, j < 5 → row = [.int (j : Nat)] → (pairJ [a, b, c, d, e] (intOf row)).map D.int = (rowsTo j).flatMap (fun r => if gtS (strAt [a, b, c, d, e] (intOf r)) (strAt [a, b, c, d, e] j) then [D.int 1] else []) := fun j _ hr => by
      rw [hr, pairJ_rows]; rfl
    have h5 : ∀ j : Nat, j < 5 → j = 0 ∨ j = 1 ∨ j = 2 ∨ j = 3 ∨ j = 4 := fun j h => by omega
    revert row
    refine rows_each fun j hj5 hj => ?_
    rw [hj j hj5 rfl]
    clear hj
    rcases h5 j hj5 with rfl | rfl | rfl | rfl | rfl
    · refine (gens_core (xs := ["i"]) (rows := rowsTo 0) (by kernel_rfl) (by kernel_rfl) (by kernel_rfl)).trans (rows_flat (z := fun r => gtS (strAt [a, b, c, d, e] (intOf r)) (strAt [a, b, c, d, e] 0)) (f := fun _ => [D.int 1]) (rows_each fun i hi => ?_))
      omega
    · refine (gens_core (xs := ["i"]) (rows := rowsTo 1) (by kernel_rfl) (by kernel_rfl) (by kernel_rfl)).trans (rows_flat (z := fun r => gtS (strAt [a, b, c, d, e] (intOf r)) (strAt [a, b, c, d, e] 1)) (f := fun _ => [D.int 1]) (rows_each fun i hi => ?_))
      obtain rfl : i = 0 := by omega
      exact ⟨tests1 (by kernel_rfl), fun _ => inner1 (by kernel_rfl)⟩
    · refine (gens_core (xs := ["i"]) (rows := rowsTo 2) (by kernel_rfl) (by kernel_rfl) (by kernel_rfl)).trans (rows_flat (z := fun r => gtS (strAt [a, b, c, d, e] (intOf r)) (strAt [a, b, c, d, e] 2)) (f := fun _ => [D.int 1]) (rows_each fun i hi => ?_))
      have hh : i = 0 ∨ i = 1 := by omega
      rcases hh with rfl | rfl <;> exact ⟨tests1 (by kernel_rfl), fun _ => inner1 (by kernel_rfl)⟩
    · refine (gens_core (xs := ["i"]) (rows := rowsTo 3) (by kernel_rfl) (by kernel_rfl) (by kernel_rfl)).trans (rows_flat (z := fun r => gtS (strAt [a, b, c, d, e] (intOf r)) (strAt [a, b, c, d, e] 3)) (f := fun _ => [D.int 1]) (rows_each fun i hi => ?_))
      have hh : i = 0 ∨ i = 1 ∨ i = 2 := by omega
      rcases hh with rfl | rfl | rfl <;> exact ⟨tests1 (by kernel_rfl), fun _ => inner1 (by kernel_rfl)⟩
    · refine (gens_core (xs := ["i"]) (rows := rowsTo 4) (by kernel_rfl) (by kernel_rfl) (by kernel_rfl)).trans (rows_flat (z := fun r => gtS (strAt [a, b, c, d, e] (intOf r)) (strAt [a, b, c, d, e] 4)) (f := fun _ => [D.int 1]) (rows_each fun i hi => ?_))
      have hh : i = 0 ∨ i = 1 ∨ i = 2 ∨ i = 3 := by omega
      rcases hh with rfl | rfl | rfl | rfl <;> exact ⟨tests1 (by kernel_rfl), fun _ => inner1 (by kernel_rfl)⟩
  · rw [List.length_map]
    have := pairs_len [a, b, c, d, e]
    unfold room
    omega
  · rw [sumD_eq]
    rfl
end Mine
end
section
set_option maxRecDepth 100000
set_option maxHeartbeats 0
namespace Mine
noncomputable def qsum (q : Int) (n : Nat) : Int := ((List.range n).map fun k => q ^ k).sum
noncomputable def prodS (q : Int) : Int → List Nat → Int
  | a, [] => a
  | a, n :: ns => prodS q (a * qsum q n) ns
noncomputable abbrev prFor (P : Params) : Stmt := stmtAt (bodyAt (hd.heap_1 P) 257) 1
theorem pow_rows (q : Int) (n : Nat) : (rowsTo n).flatMap (fun row => if (fun _ : List D => true) row then [D.int (q ^ intOf row)] else []) = ((List.range n).map fun k => q ^ k).map .int := by
  unfold rowsTo
  rw [List.flatMap_map, List.map_map]
  induction List.range n with
  | nil => rfl
  | cons i l ih => rw [List.flatMap_cons, ih]; rfl
theorem product_loop (P : Params) (q : Int) (h0 : 0 ≤ q) (hs : small q = true) : ∀ (ns : List Nat) (σ : Names) (a : Int) (X : Res → Prop), Has σ "q" (.int q) → Has σ "product" (.int a) → (∀ n ∈ ns, n ≤ 5 ∧ small (qsum q n) = true) →
    (∀ σ', Has σ' "product" (.int (prodS q a ns)) → X (some (.next, σ', []))) →
    X (forW (exS tab3 12 (scA P 257) 10 (forBody (prFor P))) (exS tab3 12 (scA P 257) 10 (forElse (prFor P))) ["size"] (ns.map fun n => [.int (n : Nat)]) σ []) := by
  have hb : prFor P = prFor P := rfl
  conv at hb => rhs; whnf
  rw [hb]
  clear hb
  dsimp only [forBody, forElse]
  intro ns
  induction ns with
  | nil =>
    intro σ a X hq ha hn k
    exact f_nil (t_nil (k σ ha))
  | cons n ns ih =>
    intro σ a X hq ha hn k
    obtain ⟨h5, hsm⟩ := hn n List.mem_cons_self
    refine f_cons rfl ?_
    generalize hσ : putAll ["size"] [.int (n : Nat)] σ = σ1
    have hq1 : Has σ1 "q" (.int q) := by rw [← hσ]; exact look_skip (by kernel_rfl) hq
    have ha1 : Has σ1 "product" (.int a) := by rw [← hσ]; exact look_skip (by kernel_rfl) ha
    have hz1 : Has σ1 "size" (.int (n : Nat)) := by rw [← hσ]; kernel_rfl
    refine t_aug (a := .int a) (q := .int (qsum q n)) (r := .int (a * qsum q n)) (ω' := []) (by kernel_rfl) (by kernel_rfl) ha1
      (call_fn1 (F := sumD) (ds := [.list (((List.range n).map fun k => q ^ k).map .int)]) (by kernel_rfl) (by kernel_rfl) (evsW_cons (by kernel_rfl)
        (ev_comp (xs := ["k"]) (rows := rowsTo n) (by kernel_rfl) (by kernel_rfl) (iter_plain (d := .rng 0 (n : Nat) 1) (by kernel_rfl) (by kernel_rfl) (call_fn1 (F := rangeD) (ds := [.int (n : Nat)]) (by kernel_rfl) (by kernel_rfl) (evsW_cons (by kernel_rfl) (e_name (by kernel_rfl) hz1) (by kernel_rfl)) rfl) ?_) (by kernel_rfl)
          ((rows_flat (z := fun _ => true) (f := fun row => [D.int (q ^ intOf row)]) (rows_each fun i hi => ⟨rfl, fun _ => inner1 (e_bin (a := .int q) (b := .int (i : Nat)) (e_name (by kernel_rfl) ?_) (by kernel_rfl) ?_)⟩)).trans (congrArg some (pow_rows q n))) ?_) (by kernel_rfl)) ?_) (if_pos ?_) rfl (by kernel_rfl) ?_
    · have h6 : n = 0 ∨ n = 1 ∨ n = 2 ∨ n = 3 ∨ n = 4 ∨ n = 5 := by omega
      rcases h6 with rfl | rfl | rfl | rfl | rfl | rfl <;> kernel_rfl
    · refine look_skip (by kernel_rfl) ?_
      rw [lookup_without, if_neg (by decide +kernel), lookup_freeNames, if_pos (by decide +kernel)]
      exact hq1
    · show (if 0 ≤ q ∧ small q = true ∧ (0 : Int) ≤ (i : Nat) ∧ ((i : Nat) : Int) ≤ 65536 then some (D.int (q ^ ((i : Nat) : Int).toNat)) else none) = _
      rw [if_pos ⟨h0, hs, by omega, by omega⟩]
      rfl
    · simp only [List.length_map, List.length_range]
      unfold room; omega
    · rw [sumD_eq]
      rfl
    · rw [hsm]; simp
    · refine t_nil (fork_next ?_)
      refine ih _ (a * qsum q n) X ?_ ?_ (fun m hm => hn m (List.mem_cons_of_mem _ hm)) k
      · exact look_skip (by kernel_rfl) hq1
      · kernel_rfl
theorem product_def (P : Params) (q : Int) (h0 : 0 ≤ q) (hs : small q = true) (d : D) (ns : List Nat) (hpl : ∀ p, plainRows (.Name "size" p) d = some ([(("size" : String) : Str)], ns.map fun n => [D.int (n : Nat)])) (hn : ∀ n ∈ ns, n ≤ 5 ∧ small (qsum q n) = true) :
    Gives (.int (prodS q 1 ns)) (runAt P tab3 257 ["q", "sizes"] [.int q, d]) := by
  unfold runAt
  have key := product_loop P q h0 hs ns (("product", .int 1) :: putAll ["q", "sizes"] [.int q, d] []) 1
  have hp : prFor P = prFor P := rfl
  conv at hp => rhs; whnf
  rw [hp] at key
  dsimp only [forBody, forElse] at key
  have hb : bodyAt (hd.heap_1 P) 257 = bodyAt (hd.heap_1 P) 257 := rfl
  conv at hb => rhs; whnf
  rw [hb]
  clear hb hp
  refine t_set (d := .int 1) (ω' := []) (by kernel_rfl) rfl (exE_of (by kernel_rfl) (by kernel_rfl)) (by kernel_rfl) ?_
  refine t_for (xs := ["size"]) (rows := ns.map fun n => [.int (n : Nat)]) (by kernel_rfl) (exI_of (by kernel_rfl) (iter_plain (d := d) (by kernel_rfl) (by kernel_rfl) (e_name (by kernel_rfl) (by kernel_rfl)) (hpl _))) (by kernel_rfl) ?_
  refine key (Then (Gives (.int (prodS q 1 ns))) _) (by kernel_rfl) (by kernel_rfl) hn fun σ' h' => ?_
  refine then_next (t_ret (exE_of (by kernel_rfl) (e_name (by kernel_rfl) h')) rfl)
end Mine
end
section
set_option maxRecDepth 100000
set_option maxHeartbeats 0
namespace Mine
noncomputable def cell0 (i : Nat) : Int := [2025289, 2271000, 3982584, 2025241, 2263321].getD i 0
noncomputable def cellI (script : List Int) (i : Nat) : Int := match script[i]? with
  | some x => cell0 i + x.fmod 7864320
  | none => cell0 i
noncomputable def cellsS (script : List Int) : List Int := [cellI script 0, cellI script 1, cellI script 2, cellI script 3, cellI script 4]
noncomputable def tab4 : Tab := { fn := [], mt := [], con := [] }
theorem iter_enum0 {c : Sc} {σ : Names} {r : Ev} {f a tgt : Expr} {p : Pos} {xs : List Str} {l : List D} (h1 : isEnum c (.Call f [a] [] p) tgt = some (xs, a)) (h3 : r c σ a = some (.list l)) : iterW r c σ (.Call f [a] [] p) tgt = some (xs, enumL l) := iter_enum h1 h3
theorem cells_def (P : Params) (script : List Int) (hl : script.length ≤ 63) : Gives (.list ((cellsS script).map .int)) (runAt P tab4 225 ["script"] [.arg script]) := by
  unfold runAt
  have hb : bodyAt (hd.heap_1 P) 225 = bodyAt (hd.heap_1 P) 225 := rfl
  conv at hb => rhs; whnf
  rw [hb]
  clear hb
  refine t_list (ds := [.int 2025289, .int 2271000, .int 3982584, .int 2025241, .int 2263321]) (σ' := [("script", .arg script)]) (ω' := []) (by kernel_rfl) (by kernel_rfl) (by kernel_rfl) (by kernel_rfl) ?_
  refine t_for (xs := ["k", "x"]) (rows := enumL ((script.map D.int).take 5)) (by kernel_rfl) (exI_of (by kernel_rfl) (iter_enum0 (by kernel_rfl) (e_part (d := .arg script) (l := none) (h := some (.int 5)) rfl (by kernel_rfl) (by kernel_rfl) (by kernel_rfl) (if_pos ⟨by decide, by unfold room; omega⟩)))) (by kernel_rfl) ?_
  match script, hl with
  | [], _ =>
    refine f_nil (t_nil (then_next ?_))
    refine t_ret (exE_own (d := .list [.int 2025289, .int 2271000, .int 3982584, .int 2025241, .int 2263321]) (d' := .list [.int 2025289, .int 2271000, .int 3982584, .int 2025241, .int 2263321]) (by kernel_rfl) (by kernel_rfl) rfl (by kernel_rfl)) (by rfl)
  | [a], _ =>
    refine f_cons rfl ?_
    refine t_run (σ1 := putAll ["k", "x"] [.int 0, .int a] [("script", .arg ([a]))]) (ω1 := [("cells", false, [.int (2025289 + Int.fmod a 7864320), .int 2271000, .int 3982584, .int 2025241, .int 2263321])]) (by kernel_rfl) ?_
    refine t_nil (fork_next ?_)
    refine f_nil (t_nil (then_next ?_))
    refine t_ret (exE_own (d := .list [.int (2025289 + Int.fmod a 7864320), .int 2271000, .int 3982584, .int 2025241, .int 2263321]) (d' := .list [.int (2025289 + Int.fmod a 7864320), .int 2271000, .int 3982584, .int 2025241, .int 2263321]) (by kernel_rfl) (by kernel_rfl) rfl (by kernel_rfl)) (by rfl)
  | [a, b], _ =>
    refine f_cons rfl ?_
    refine t_run (σ1 := putAll ["k", "x"] [.int 0, .int a] [("script", .arg ([a, b]))]) (ω1 := [("cells", false, [.int (2025289 + Int.fmod a 7864320), .int 2271000, .int 3982584, .int 2025241, .int 2263321])]) (by kernel_rfl) ?_
    refine t_nil (fork_next ?_)
    refine f_cons rfl ?_
    refine t_run (σ1 := putAll ["k", "x"] [.int 1, .int b] (putAll ["k", "x"] [.int 0, .int a] [("script", .arg ([a, b]))])) (ω1 := [("cells", false, [.int (2025289 + Int.fmod a 7864320), .int (2271000 + Int.fmod b 7864320), .int 3982584, .int 2025241, .int 2263321])]) (by kernel_rfl) ?_
    refine t_nil (fork_next ?_)
    refine f_nil (t_nil (then_next ?_))
    refine t_ret (exE_own (d := .list [.int (2025289 + Int.fmod a 7864320), .int (2271000 + Int.fmod b 7864320), .int 3982584, .int 2025241, .int 2263321]) (d' := .list [.int (2025289 + Int.fmod a 7864320), .int (2271000 + Int.fmod b 7864320), .int 3982584, .int 2025241, .int 2263321]) (by kernel_rfl) (by kernel_rfl) rfl (by kernel_rfl)) (by rfl)
  | [a, b, c], _ =>
    refine f_cons rfl ?_
    refine t_run (σ1 := putAll ["k", "x"] [.int 0, .int a] [("script", .arg ([a, b, c]))]) (ω1 := [("cells", false, [.int (2025289 + Int.fmod a 7864320), .int 2271000, .int 3982584, .int 2025241, .int 2263321])]) (by kernel_rfl) ?_
    refine t_nil (fork_next ?_)
    refine f_cons rfl ?_
    refine t_run (σ1 := putAll ["k", "x"] [.int 1, .int b] (putAll ["k", "x"] [.int 0, .int a] [("script", .arg ([a, b, c]))])) (ω1 := [("cells", false, [.int (2025289 + Int.fmod a 7864320), .int (2271000 + Int.fmod b 7864320), .int 3982584, .int 2025241, .int 2263321])]) (by kernel_rfl) ?_
    refine t_nil (fork_next ?_)
    refine f_cons rfl ?_
    refine t_run (σ1 := putAll ["k", "x"] [.int 2, .int c] (putAll ["k", "x"] [.int 1, .int b] (putAll ["k", "x"] [.int 0, .int a] [("script", .arg ([a, b, c]))]))) (ω1 := [("cells", false, [.int (2025289 + Int.fmod a 7864320), .int (2271000 + Int.fmod b 7864320), .int (3982584 + Int.fmod c 7864320), .int 2025241, .int 2263321])]) (by kernel_rfl) ?_
    refine t_nil (fork_next ?_)
    refine f_nil (t_nil (then_next ?_))
    refine t_ret (exE_own (d := .list [.int (2025289 + Int.fmod a 7864320), .int (2271000 + Int.fmod b 7864320), .int (3982584 + Int.fmod c 7864320), .int 2025241, .int 2263321]) (d' := .list [.int (2025289 + Int.fmod a 7864320), .int (2271000 + Int.fmod b 7864320), .int (3982584 + Int.fmod c 7864320), .int 2025241, .int 2263321]) (by kernel_rfl) (by kernel_rfl) rfl (by kernel_rfl)) (by rfl)
  | [a, b, c, d], _ =>
    refine f_cons rfl ?_
    refine t_run (σ1 := putAll ["k", "x"] [.int 0, .int a] [("script", .arg ([a, b, c, d]))]) (ω1 := [("cells", false, [.int (2025289 + Int.fmod a 7864320), .int 2271000, .int 3982584, .int 2025241, .int 2263321])]) (by kernel_rfl) ?_
    refine t_nil (fork_next ?_)
    refine f_cons rfl ?_
    refine t_run (σ1 := putAll ["k", "x"] [.int 1, .int b] (putAll ["k", "x"] [.int 0, .int a] [("script", .arg ([a, b, c, d]))])) (ω1 := [("cells", false, [.int (2025289 + Int.fmod a 7864320), .int (2271000 + Int.fmod b 7864320), .int 3982584, .int 2025241, .int 2263321])]) (by kernel_rfl) ?_
    refine t_nil (fork_next ?_)
    refine f_cons rfl ?_
    refine t_run (σ1 := putAll ["k", "x"] [.int 2, .int c] (putAll ["k", "x"] [.int 1, .int b] (putAll ["k", "x"] [.int 0, .int a] [("script", .arg ([a, b, c, d]))]))) (ω1 := [("cells", false, [.int (2025289 + Int.fmod a 7864320), .int (2271000 + Int.fmod b 7864320), .int (3982584 + Int.fmod c 7864320), .int 2025241, .int 2263321])]) (by kernel_rfl) ?_
    refine t_nil (fork_next ?_)
    refine f_cons rfl ?_
    refine t_run (σ1 := putAll ["k", "x"] [.int 3, .int d] (putAll ["k", "x"] [.int 2, .int c] (putAll ["k", "x"] [.int 1, .int b] (putAll ["k", "x"] [.int 0, .int a] [("script", .arg ([a, b, c, d]))])))) (ω1 := [("cells", false, [.int (2025289 + Int.fmod a 7864320), .int (2271000 + Int.fmod b 7864320), .int (3982584 + Int.fmod c 7864320), .int (2025241 + Int.fmod d 7864320), .int 2263321])]) (by kernel_rfl) ?_
    refine t_nil (fork_next ?_)
    refine f_nil (t_nil (then_next ?_))
    refine t_ret (exE_own (d := .list [.int (2025289 + Int.fmod a 7864320), .int (2271000 + Int.fmod b 7864320), .int (3982584 + Int.fmod c 7864320), .int (2025241 + Int.fmod d 7864320), .int 2263321]) (d' := .list [.int (2025289 + Int.fmod a 7864320), .int (2271000 + Int.fmod b 7864320), .int (3982584 + Int.fmod c 7864320), .int (2025241 + Int.fmod d 7864320), .int 2263321]) (by kernel_rfl) (by kernel_rfl) rfl (by kernel_rfl)) (by rfl)
  | a :: b :: c :: d :: e :: r, _ =>
    refine f_cons rfl ?_
    refine t_run (σ1 := putAll ["k", "x"] [.int 0, .int a] [("script", .arg (a :: b :: c :: d :: e :: r))]) (ω1 := [("cells", false, [.int (2025289 + Int.fmod a 7864320), .int 2271000, .int 3982584, .int 2025241, .int 2263321])]) (by kernel_rfl) ?_
    refine t_nil (fork_next ?_)
    refine f_cons rfl ?_
    refine t_run (σ1 := putAll ["k", "x"] [.int 1, .int b] (putAll ["k", "x"] [.int 0, .int a] [("script", .arg (a :: b :: c :: d :: e :: r))])) (ω1 := [("cells", false, [.int (2025289 + Int.fmod a 7864320), .int (2271000 + Int.fmod b 7864320), .int 3982584, .int 2025241, .int 2263321])]) (by kernel_rfl) ?_
    refine t_nil (fork_next ?_)
    refine f_cons rfl ?_
    refine t_run (σ1 := putAll ["k", "x"] [.int 2, .int c] (putAll ["k", "x"] [.int 1, .int b] (putAll ["k", "x"] [.int 0, .int a] [("script", .arg (a :: b :: c :: d :: e :: r))]))) (ω1 := [("cells", false, [.int (2025289 + Int.fmod a 7864320), .int (2271000 + Int.fmod b 7864320), .int (3982584 + Int.fmod c 7864320), .int 2025241, .int 2263321])]) (by kernel_rfl) ?_
    refine t_nil (fork_next ?_)
    refine f_cons rfl ?_
    refine t_run (σ1 := putAll ["k", "x"] [.int 3, .int d] (putAll ["k", "x"] [.int 2, .int c] (putAll ["k", "x"] [.int 1, .int b] (putAll ["k", "x"] [.int 0, .int a] [("script", .arg (a :: b :: c :: d :: e :: r))])))) (ω1 := [("cells", false, [.int (2025289 + Int.fmod a 7864320), .int (2271000 + Int.fmod b 7864320), .int (3982584 + Int.fmod c 7864320), .int (2025241 + Int.fmod d 7864320), .int 2263321])]) (by kernel_rfl) ?_
    refine t_nil (fork_next ?_)
    refine f_cons rfl ?_
    refine t_run (σ1 := putAll ["k", "x"] [.int 4, .int e] (putAll ["k", "x"] [.int 3, .int d] (putAll ["k", "x"] [.int 2, .int c] (putAll ["k", "x"] [.int 1, .int b] (putAll ["k", "x"] [.int 0, .int a] [("script", .arg (a :: b :: c :: d :: e :: r))]))))) (ω1 := [("cells", false, [.int (2025289 + Int.fmod a 7864320), .int (2271000 + Int.fmod b 7864320), .int (3982584 + Int.fmod c 7864320), .int (2025241 + Int.fmod d 7864320), .int (2263321 + Int.fmod e 7864320)])]) (by kernel_rfl) ?_
    refine t_nil (fork_next ?_)
    refine f_nil (t_nil (then_next ?_))
    refine t_ret (exE_own (d := .list [.int (2025289 + Int.fmod a 7864320), .int (2271000 + Int.fmod b 7864320), .int (3982584 + Int.fmod c 7864320), .int (2025241 + Int.fmod d 7864320), .int (2263321 + Int.fmod e 7864320)]) (d' := .list [.int (2025289 + Int.fmod a 7864320), .int (2271000 + Int.fmod b 7864320), .int (3982584 + Int.fmod c 7864320), .int (2025241 + Int.fmod d 7864320), .int (2263321 + Int.fmod e 7864320)]) (by kernel_rfl) (by kernel_rfl) rfl (by kernel_rfl)) (by rfl)
end Mine
end
section
set_option maxRecDepth 100000
set_option maxHeartbeats 0
namespace Mine

noncomputable abbrev strsD (l : List Str) : D := .list (l.map .str)
theorem ok_strs_ (l : List Str) : D.ok deep (strsD l) = true := by
  show (l.map D.str).all (D.ok 3) = true
  rw [List.all_eq_true]
  intro d hd
  obtain ⟨s, _, rfl⟩ := List.mem_map.mp hd
  rfl
theorem str_eqv (a b : Str) : (D.str a).eqv (.str b) = (a == b) := by kernel_rfl
theorem cps_inj {a b : Str} (h : a.cps.toList = b.cps.toList) : a = b := by
  cases a; cases b
  simp only [Str.mk.injEq]
  exact Array.toList_inj.mp h

noncomputable abbrev runFar (P : Params) (T : Tab) (f : Addr) (ps : List Str) (ds : List D) : Res := exS T 12 (scOf (scopeAt (hd.heap_1 P) f)) 40 (bodyAt (hd.heap_1 P) f) (putAll ps ds []) []
theorem fn_of_far {P : Params} {T : Tab} {f : Addr} {ps : List Str} {ds : List D} {d : D} (hl : ds.length = ps.length) (h : Gives d (runFar P T f ps ds)) : fnD T 12 40 (scopeAt (hd.heap_1 P) f) ps (bodyAt (hd.heap_1 P) f) ds = some d := by
  unfold fnD
  rw [if_pos (by simpa using hl)]
  exact h

theorem min_max (cs ds : List Str) : ∃ l g, lexL .Lt (ds.map .str) (cs.map .str) = some l ∧ lexL .Gt (ds.map .str) (cs.map .str) = some g ∧
    ((l = false ∧ g = false ∧ cs = ds) ∨ (l = true ∧ g = false ∧ ∀ c r, ds ≠ cs ++ c :: r) ∨ (l = false ∧ g = true ∧ ∀ c r, cs ≠ ds ++ c :: r)) := by
  induction cs generalizing ds with
  | nil =>
    cases ds with
    | nil => exact ⟨false, false, rfl, rfl, .inl ⟨rfl, rfl, rfl⟩⟩
    | cons d ds =>
      refine ⟨false, true, ?_, ?_, .inr (.inr ⟨rfl, rfl, fun c r h => by simp at h⟩)⟩
      · show some (decide ((ds.map D.str).length + 1 < 0)) = _; simp
      · show some (decide ((ds.map D.str).length + 1 > 0)) = _; simp
  | cons c cs ih =>
    cases ds with
    | nil =>
      refine ⟨true, false, ?_, ?_, .inr (.inl ⟨rfl, rfl, fun c r h => by simp at h⟩)⟩
      · show some (decide (0 < (cs.map D.str).length + 1)) = _; simp
      · show some (decide (0 > (cs.map D.str).length + 1)) = _; simp
    | cons d ds =>
      have e1 : ∀ op, lexL op ((d :: ds).map .str) ((c :: cs).map .str) = if (d == c) = true then lexL op (ds.map .str) (cs.map .str) else cmp1 op (.str d) (.str c) := fun op => by
        show (if (D.str d).eqv (.str c) = true then _ else _) = _
        rw [str_eqv]
      rw [e1, e1]
      by_cases h : d = c
      · subst h
        obtain ⟨l, g, h1, h2, h3⟩ := ih ds
        refine ⟨l, g, by rw [if_pos (by simp)]; exact h1, by rw [if_pos (by simp)]; exact h2, ?_⟩
        rcases h3 with ⟨a, b, rfl⟩ | ⟨a, b, e⟩ | ⟨a, b, e⟩
        · exact .inl ⟨a, b, rfl⟩
        · exact .inr (.inl ⟨a, b, fun c r h => e c r (by simpa using h)⟩)
        · exact .inr (.inr ⟨a, b, fun c r h => e c r (by simpa using h)⟩)
      · rw [if_neg (by simpa using h), if_neg (by simpa using h)]
        have hne : d.cps.toList ≠ c.cps.toList := fun q => h (cps_inj q)
        refine ⟨_, _, rfl, rfl, ?_⟩
        rcases Std.lt_trichotomy d.cps.toList c.cps.toList with q | q | q
        · exact .inr (.inl ⟨by simpa using q, by simpa using List.lt_asymm q, fun c' r e => by simp at e; exact h e.1⟩)
        · exact absurd q hne
        · exact .inr (.inr ⟨by simpa using List.lt_asymm q, by simpa using q, fun c' r e => by simp at e; exact h e.1.symm⟩)

noncomputable def lcp : List Str → List Str → List Str
  | a :: as, b :: bs => if a = b then a :: lcp as bs else []
  | _, _ => []
theorem lcp_comm : ∀ a b : List Str, lcp a b = lcp b a
  | [], [] => rfl
  | [], _ :: _ => rfl
  | _ :: _, [] => rfl
  | a :: as, b :: bs => by
    unfold lcp
    by_cases h : a = b
    · subst h; rw [if_pos rfl, if_pos rfl, lcp_comm as bs]
    · rw [if_neg h, if_neg (Ne.symm h)]
noncomputable def okC (c : Str) : Bool := (c.length : Int) != 0 && !(c == ".")
noncomputable def cleanS (l : List Str) : List Str := l.filter okC
noncomputable def commonS (a b : Str) : Str := "/" ++ Txt.join "/" (lcp (cleanS (Txt.split a "/")) (cleanS (Txt.split b "/")))

theorem clause_core {T : Tab} {n : Nat} {c : Sc} {σ : Names} {gt gi : Expr} {scope : Scope} {xs : List Str} {rows : List (List D)} (hc : (compSc c scope).isSome = true) (hf : foldOk gi = true) (hi : iterW (ev T n) c σ gi gt = some (xs, rows))
    (hx : (xs.all (storable (inSc c scope)) && xs.all (fun n => !(freeOf scope).contains n)) = true) : clauseW T n c σ gt gi scope = some (inSc c scope, (xs, rows), without xs (freeNames scope σ)) := by
  obtain ⟨c', hc'⟩ := Option.isSome_iff_exists.mp hc
  have e1 : inSc c scope = c' := by unfold inSc; rw [hc']; rfl
  rw [e1] at hx ⊢
  unfold clauseW
  rw [hc', Option.bind_some, if_pos hf, hi, Option.bind_some, if_pos hx]
theorem setc_core {T : Tab} {n : Nat} {c : Sc} {σ : Names} {elt gt gi : Expr} {scope : Scope} {xs : List Str} {row : List D} {rows : List (List D)} {z : Bool} (hc : (compSc c scope).isSome = true) (hf : foldOk gi = true) (hi : iterW (ev T n) c σ gi gt = some (xs, row :: rows))
    (hx : (xs.all (storable (inSc c scope)) && xs.all (fun n => !(freeOf scope).contains n)) = true) (hr : ∀ r ∈ row :: rows, ev T n (inSc c scope) (putAll xs r (without xs (freeNames scope σ))) elt = some (.bool z)) : setcW T n c σ elt gt gi scope = some z := by
  have hcl := clause_core hc hf hi hx
  have all : ∀ l : List (List D), (∀ r ∈ l, ev T n (inSc c scope) (putAll xs r (without xs (freeNames scope σ))) elt = some (.bool z)) → allB (fun σ => ev T n (inSc c scope) σ elt) z xs (without xs (freeNames scope σ)) l = true := fun l => by
    induction l with
    | nil => intro _; rfl
    | cons r l ih => exact fun h => by rw [allB, h r (.head _), ih fun r hr => h r (.tail _ hr)]; simp [asBool]
  unfold setcW
  rw [hcl, Option.bind_some, List.head?_cons, Option.bind_some, hr row (.head _)]
  exact if_pos (all _ hr)
end Mine
end
section
set_option maxRecDepth 100000
set_option maxHeartbeats 0
namespace Mine

noncomputable def tab5 : Tab := { fn := [("isinstance", isinstD), ("min", minD), ("max", maxD)], mt := [("startswith", startsD), ("split", splitD), ("join", joinD)], con := conT, mp := [("fspath", fspathD)] }
noncomputable def isLong (l : List Str) : Prop := l.length ≤ 100 ∧ ∀ c ∈ l, c.length ≤ 100

noncomputable def rowOf (l : List Str) : List (List D) := l.map fun c => [.str c]
noncomputable def okR : List D → Bool
  | [.str c] => okC c
  | _ => false
theorem clean_rows (l : List Str) : (rowOf l).flatMap (fun row => if okR row then row else []) = (cleanS l).map .str := by
  unfold rowOf cleanS
  induction l with
  | nil => rfl
  | cons c l ih =>
    rw [List.map_cons, List.flatMap_cons, ih, List.filter_cons]
    show (if okC c = true then [D.str c] else []) ++ _ = _
    by_cases h : okC c = true
    · rw [if_pos h, if_pos h]; rfl
    · rw [if_neg h, if_neg h]; rfl

theorem rows_two {r : Ev} {c : Sc} {inner : Names → Option (List D)} {xs : List Str} {σ : Names} {r1 r2 : List D} {d1 d2 : D} (h1 : inner (putAll xs r1 σ) = some [d1]) (h2 : inner (putAll xs r2 σ) = some [d2]) : rowsW r c [] inner xs σ [r1, r2] = some [d1, d2] := by
  simp only [rowsW, testsW, Option.bind_some, if_true, h1, h2, Option.map_some, List.append_nil, List.cons_append, List.nil_append]
theorem clean_len (l : List Str) : (cleanS l).length ≤ l.length := List.length_filter_le _ _

theorem min_max2 (cs ds : List Str) : ∃ s1 s2, minD [.list [strsD cs, strsD ds]] = some (strsD s1) ∧ maxD [.list [strsD cs, strsD ds]] = some (strsD s2) ∧ lcp cs ds = lcp s1 s2 ∧ (∀ c r, s1 ≠ s2 ++ c :: r) ∧ s1.length ≤ cs.length + ds.length ∧ s2.length ≤ cs.length + ds.length ∧ (∀ c ∈ s1, c ∈ cs ∨ c ∈ ds) := by
  obtain ⟨l, g, h1, h2, h3⟩ := min_max cs ds
  have e1 : minD [.list [strsD cs, strsD ds]] = some (.list (if l then ds.map .str else cs.map .str)) := by
    show (if (D.ok deep (strsD cs) && D.ok deep (strsD ds)) = true then _ else none) = _
    rw [ok_strs_, ok_strs_, h1]; rfl
  have e2 : maxD [.list [strsD cs, strsD ds]] = some (.list (if g then ds.map .str else cs.map .str)) := by
    show (if (D.ok deep (strsD cs) && D.ok deep (strsD ds)) = true then _ else none) = _
    rw [ok_strs_, ok_strs_, h2]; rfl
  rcases h3 with ⟨rfl, rfl, rfl⟩ | ⟨rfl, rfl, h⟩ | ⟨rfl, rfl, h⟩
  · exact ⟨cs, cs, e1, e2, rfl, fun c r h => by have := congrArg List.length h; simp at this, by omega, by omega, fun c h => .inl h⟩
  · exact ⟨ds, cs, e1, e2, lcp_comm _ _, h, by omega, by omega, fun c h => .inr h⟩
  · exact ⟨cs, ds, e1, e2, rfl, h, by omega, by omega, fun c h => .inl h⟩

theorem enumL_from (l : List Str) (k : Nat) : ((l.map D.str).zipIdx k).map (fun (d, i) => [D.int (i : Nat), d]) = match l with
    | [] => []
    | c :: l => [.int (k : Nat), .str c] :: ((l.map D.str).zipIdx (k + 1)).map (fun (d, i) => [D.int (i : Nat), d]) := by
  cases l <;> rfl

theorem loop_common {B O : Names → Own → Res} {s1 s2 : List Str}
    (hB : ∀ (σ : Names) (i : Nat) (c d : Str), i < 60000 → s1[i]? = some c → s2[i]? = some d → σ.lookup ("s1" : Str) = some (strsD s1) → σ.lookup ("s2" : Str) = some (strsD s2) → B ((("c" : Str), .str c) :: (("i" : Str), .int i) :: σ) [] = if c = d then some (.next, (("c" : Str), .str c) :: (("i" : Str), .int i) :: σ, []) else some (.brk, (("common" : Str), strsD (s1.take i)) :: (("c" : Str), .str c) :: (("i" : Str), .int i) :: σ, []))
    (hO : ∀ σ, O σ [] = some (.next, σ, [])) : ∀ (r1 r2 pre : List Str) (σ : Names), s1 = pre ++ r1 → s2 = pre ++ r2 → s1.length < 60000 → (∀ c r, r1 ≠ r2 ++ c :: r) → σ.lookup ("s1" : Str) = some (strsD s1) → σ.lookup ("s2" : Str) = some (strsD s2) → σ.lookup ("common" : Str) = some (strsD s1) →
    ∃ σ', forW B O [("i" : Str), ("c" : Str)] (((r1.map D.str).zipIdx pre.length).map (fun (d, i) => [D.int (i : Nat), d])) σ [] = some (.next, σ', []) ∧ σ'.lookup ("common" : Str) = some (strsD (pre ++ lcp r1 r2)) ∧ σ'.lookup ("sep" : Str) = σ.lookup ("sep" : Str) ∧ σ'.lookup ("isabs" : Str) = σ.lookup ("isabs" : Str) := by
  intro r1
  induction r1 with
  | nil =>
    intro r2 pre σ e1 e2 hl hn h1 h2 h3
    refine ⟨σ, hO σ, ?_, rfl, rfl⟩
    rw [h3, e1]; rfl
  | cons c r1 ih =>
    intro r2 pre σ e1 e2 hl hn h1 h2 h3
    cases r2 with
    | nil => exact absurd rfl (hn c r1)
    | cons d r2 =>
      rw [enumL_from]
      dsimp only
      have g1 : s1[pre.length]? = some c := by rw [e1]; simp
      have g2 : s2[pre.length]? = some d := by rw [e2]; simp
      have hi : pre.length < 60000 := by rw [e1] at hl; simp at hl; omega
      have hb := hB σ pre.length c d hi g1 g2 h1 h2
      unfold forW
      rw [if_pos (by rfl)]
      show ∃ σ', ((B ((("c" : Str), .str c) :: (("i" : Str), .int pre.length) :: σ) []).bind _) = _ ∧ _
      rw [hb]
      by_cases hcd : c = d
      · subst hcd
        rw [if_pos rfl]
        simp only [Option.bind_some]
        obtain ⟨σ', q1, q2, q3, q4⟩ := ih r2 (pre ++ [c]) ((("c" : Str), .str c) :: (("i" : Str), .int pre.length) :: σ) (by rw [e1]; simp) (by rw [e2]; simp) hl (fun c' r h => hn c' r (by rw [h]; rfl)) h1 h2 h3
        refine ⟨σ', ?_, ?_, q3, q4⟩
        · rw [List.length_append] at q1; exact q1
        · rw [q2]; simp [lcp]
      · rw [if_neg hcd]
        simp only [Option.bind_some]
        refine ⟨_, rfl, ?_, rfl, rfl⟩
        have : s1.take pre.length = pre ++ lcp (c :: r1) (d :: r2) := by
          rw [e1, List.take_left]
          simp [lcp, hcd]
        show some (strsD (s1.take pre.length)) = _
        rw [this]

theorem then_of {P : Res → Prop} {k : Names → Own → Res} {r : Res} {C : Names → Prop} (h : ∃ σ', r = some (.next, σ', []) ∧ C σ') (f : ∀ σ', C σ' → P (k σ' [])) : Then P k r := by
  obtain ⟨σ', rfl, hc⟩ := h
  exact f σ' hc

theorem lcp_sub : ∀ (a b : List Str), (lcp a b).length ≤ a.length ∧ ∀ c ∈ lcp a b, c ∈ a
  | [], _ => ⟨Nat.le_refl _, fun c h => h⟩
  | _ :: _, [] => ⟨Nat.zero_le _, fun c h => nomatch h⟩
  | a :: as, b :: bs => by
    unfold lcp
    split
    · have := lcp_sub as bs
      refine ⟨by simpa using this.1, fun c h => ?_⟩
      rcases List.mem_cons.mp h with rfl | h
      · exact .head _
      · exact .tail _ (this.2 c h)
    · exact ⟨Nat.zero_le _, fun c h => nomatch h⟩
theorem sum_len : ∀ (l : List Str), (∀ c ∈ l, c.length ≤ 100) → (l.map (·.length)).sum ≤ 100 * l.length
  | [], _ => Nat.le_refl _
  | a :: l, h => by
    have := sum_len l fun c hc => h c (.tail _ hc)
    have := h a (.head _)
    simp only [List.map_cons, List.sum_cons, List.length_cons]
    omega
theorem join_len : ∀ (l : List Str), (Txt.join "/" l).length ≤ (l.map (·.length)).sum + l.length := fun l => by
  show (Builtin.Str.glued "/" l).length ≤ _
  rw [StrLaws.glued_eq_join]
  induction l with
  | nil => exact Nat.le_refl _
  | cons a l ih =>
    cases l with
    | nil => show a.length ≤ _; simp
    | cons b l =>
      have e : Str.join "/" (a :: b :: l) = a ++ "/" ++ Str.join "/" (b :: l) := rfl
      have e1 : ("/" : Str).length = 1 := rfl
      rw [e, Str.length_append, Str.length_append, e1]
      simp only [List.map_cons, List.sum_cons, List.length_cons] at ih ⊢
      omega
noncomputable def StepC (s1 : List Str) (c d : Str) (i : Nat) (σ : Names) (r : Res) : Prop := r = if c = d then some (.next, (("c" : Str), .str c) :: (("i" : Str), .int i) :: σ, []) else some (.brk, (("common" : Str), strsD (s1.take i)) :: (("c" : Str), .str c) :: (("i" : Str), .int i) :: σ, [])

theorem commonpath_def (P : Params) (a b : Str) (ha : Txt.startswith a "/" = true) (hb : Txt.startswith b "/" = true) (la : a.length < room) (lb : b.length < room) (sa : isLong (Txt.split a "/")) (sb : isLong (Txt.split b "/")) :
    Gives (.str (commonS a b)) (runFar P tab5 171 ["paths"] [.list [.str a, .str b]]) := by
  unfold runFar
  have hbd : bodyAt (hd.heap_1 P) 171 = bodyAt (hd.heap_1 P) 171 := rfl
  conv at hbd => rhs; whnf
  rw [hbd]
  clear hbd
  refine t_set (by kernel_rfl) rfl (exE_of rfl (d := .tup [.str a, .str b]) (by kernel_rfl)) rfl ?_
  refine t_if (z := false) (by kernel_rfl) (fun h => nomatch h) (fun _ => t_nil (then_next ?_))
  refine t_if (z := false) (by kernel_rfl) (fun h => nomatch h) (fun _ => ?_)
  refine t_set (by kernel_rfl) rfl (exE_of rfl (d := .str "/") (by kernel_rfl)) rfl ?_
  refine t_set (by kernel_rfl) rfl (exE_of rfl (d := .str ".") (by kernel_rfl)) rfl ?_
  refine t_nil (then_next ?_)
  refine t_try ?_
  refine t_comp (ds := [strsD (Txt.split a "/"), strsD (Txt.split b "/")]) (by kernel_rfl) (exC_of (by kernel_rfl) ?_) rfl ?_
  · refine comp_core (xs := ["path"]) (rows := [[.str a], [.str b]]) (by kernel_rfl) (by kernel_rfl) (by kernel_rfl) (by kernel_rfl) (rows_flat (z := fun _ => true) (f := fun row => match row with | [.str x] => [strsD (Txt.split x "/")] | _ => []) fun row hr => ⟨rfl, fun _ => ?_⟩) (by show (2 : Nat) ≤ room; decide)
    simp only [List.mem_cons, List.not_mem_nil, or_false] at hr
    rcases hr with rfl | rfl
    · exact inner1 (e_meth (F := splitD) (x := a) (ds := [.str "/"]) (by kernel_rfl) (by kernel_rfl) (by kernel_rfl) (by kernel_rfl) (if_pos ⟨by decide, la⟩))
    · exact inner1 (e_meth (F := splitD) (x := b) (ds := [.str "/"]) (by kernel_rfl) (by kernel_rfl) (by kernel_rfl) (by kernel_rfl) (if_pos ⟨by decide, lb⟩))
  refine t_try ?_
  refine t_one (z := true) (by kernel_rfl) (setc_core (xs := ["p"]) (row := [.str a]) (rows := [[.str b]]) (by kernel_rfl) (by kernel_rfl) (by kernel_rfl) (by kernel_rfl) fun r hr => ?_) ?_
  · simp only [List.mem_cons, List.not_mem_nil, or_false] at hr
    rcases hr with rfl | rfl
    · exact e_meth (F := startsD) (x := a) (ds := [.str "/"]) (by kernel_rfl) (by kernel_rfl) (by kernel_rfl) (by kernel_rfl) (by rw [← ha]; rfl)
    · exact e_meth (F := startsD) (x := b) (ds := [.str "/"]) (by kernel_rfl) (by kernel_rfl) (by kernel_rfl) (by kernel_rfl) (by rw [← hb]; rfl)
  refine t_nil (then_next (t_nil (then_next ?_)))
  unfold commonS
  generalize Txt.split a "/" = la' at sa
  generalize Txt.split b "/" = lb' at sb
  have inn0 : ∀ (l : List Str), isLong l → (cleanS l).length ≤ 100 := fun l h => by have := clean_len l; have := h.1; omega
  have inn : ∀ (l : List Str), isLong l → (cleanS l).length ≤ room := fun l h => by have := inn0 l h; unfold room; omega
  refine t_comp (ds := [strsD (cleanS la'), strsD (cleanS lb')]) (by kernel_rfl) (exC_of (by kernel_rfl) ?_) rfl ?_
  · refine comp_core (xs := ["s"]) (rows := [[strsD la'], [strsD lb']]) (by kernel_rfl) (by kernel_rfl) (by kernel_rfl) (by kernel_rfl) (rows_two ?_ ?_) (by show (2 : Nat) ≤ room; decide)
    · refine inner1 (ev_comp (xs := ["c"]) (rows := rowOf la') (out := (cleanS la').map .str) (by kernel_rfl) (by kernel_rfl) ?_ (by kernel_rfl) ((rows_flat (z := okR) (f := fun row => row) fun row hr => ?_).trans (congrArg some (clean_rows la'))) (by simpa using inn _ sa))
      · refine iter_plain (d := strsD la') (by kernel_rfl) (by kernel_rfl) (by kernel_rfl) ?_
        show some (_, _) = some (_, _)
        unfold rowOf
        rw [List.map_map]; rfl
      · obtain ⟨c, hc, rfl⟩ := List.mem_map.mp hr
        have hl : c.length ≤ room := by have := sa.2 c hc; unfold room; omega
        exact ⟨tests1 (tv_and2 (tv_name (d := .str c) (by kernel_rfl) (if_pos hl)) (tv_cmp' (a := .str c) (b := .str ".") rfl (by kernel_rfl) (by kernel_rfl) rfl)), fun _ => inner1 (by kernel_rfl)⟩
    · refine inner1 (ev_comp (xs := ["c"]) (rows := rowOf lb') (out := (cleanS lb').map .str) (by kernel_rfl) (by kernel_rfl) ?_ (by kernel_rfl) ((rows_flat (z := okR) (f := fun row => row) fun row hr => ?_).trans (congrArg some (clean_rows lb'))) (by simpa using inn _ sb))
      · refine iter_plain (d := strsD lb') (by kernel_rfl) (by kernel_rfl) (by kernel_rfl) ?_
        show some (_, _) = some (_, _)
        unfold rowOf
        rw [List.map_map]; rfl
      · obtain ⟨c, hc, rfl⟩ := List.mem_map.mp hr
        have hl : c.length ≤ room := by have := sb.2 c hc; unfold room; omega
        exact ⟨tests1 (tv_and2 (tv_name (d := .str c) (by kernel_rfl) (if_pos hl)) (tv_cmp' (a := .str c) (b := .str ".") rfl (by kernel_rfl) (by kernel_rfl) rfl)), fun _ => inner1 (by kernel_rfl)⟩
  have h1 := inn0 _ sa
  have h2 := inn0 _ sb
  have g1 : ∀ c ∈ cleanS la', c.length ≤ 100 := fun c h => sa.2 c (List.mem_filter.mp h).1
  have g2 : ∀ c ∈ cleanS lb', c.length ≤ 100 := fun c h => sb.2 c (List.mem_filter.mp h).1
  generalize cleanS la' = cs at h1 g1
  generalize cleanS lb' = ds at h2 g2
  obtain ⟨s1, s2, m1, m2, m3, m4, m5, m6, m7⟩ := min_max2 cs ds
  rw [m3]
  have hl1 : s1.length < 60000 := by omega
  have hl2 : s2.length < 60000 := by omega
  refine t_set (d := strsD s1) (by kernel_rfl) rfl (exE_of rfl (call_fn1 (F := minD) (ds := [.list [strsD cs, strsD ds]]) (by kernel_rfl) (by kernel_rfl) (by kernel_rfl) m1)) rfl ?_
  refine t_set (d := strsD s2) (by kernel_rfl) rfl (exE_of rfl (call_fn1 (F := maxD) (ds := [.list [strsD cs, strsD ds]]) (by kernel_rfl) (by kernel_rfl) (by kernel_rfl) m2)) rfl ?_
  refine t_set (d := strsD s1) (by kernel_rfl) rfl (exE_of rfl (by kernel_rfl)) rfl ?_
  refine t_for (xs := ["i", "c"]) (rows := enumL (s1.map .str)) (by kernel_rfl) (exI_of (by kernel_rfl) (iter_enum0 (by kernel_rfl) (by kernel_rfl))) (by kernel_rfl) ?_
  refine then_of (loop_common (s1 := s1) (s2 := s2) ?_ ?_ s1 s2 [] _ rfl rfl hl1 m4 (by kernel_rfl) (by kernel_rfl) (by kernel_rfl)) fun σ' q => ?_
  · intro σ i c d hi g1 g2 g3 g4
    refine (?_ : StepC s1 c d i σ _)
    refine t_if (z := !(c == d)) (exT_of (tv_cmp' (a := .str c) (b := .str d) rfl (by kernel_rfl) (e_item (d := strsD s2) (j := .int i) rfl (by exact e_name (by kernel_rfl) g4) (by kernel_rfl) ?_) (by kernel_rfl))) (fun hz => ?_) (fun hz => ?_)
    · exact item_at (by omega) (by omega) (by rw [Int.toNat_natCast, List.getElem?_map, g2]; rfl)
    · have hcd : ¬ c = d := by simpa using hz
      refine t_set (d := strsD (s1.take i)) (by kernel_rfl) rfl (exE_of rfl (e_part (l := none) (h := some (.int i)) (d := strsD s1) rfl (by exact e_name (by kernel_rfl) g3) (by kernel_rfl) (by kernel_rfl) ?_)) rfl ?_
      · refine (take_list (by omega) (by rw [List.length_map]; unfold room; omega)).trans ?_
        rw [Int.toNat_natCast, ← List.map_take]
      · refine t_brk (then_brk ?_)
        unfold StepC
        rw [if_neg hcd]
        rfl
    · have hcd : c = d := by simpa using hz
      refine t_nil (then_next (t_nil ?_))
      unfold StepC
      rw [if_pos hcd]
  · intro σ; rfl
  obtain ⟨q1, q2, q3⟩ := q
  have b1 := (lcp_sub s1 s2).1
  have b2 := sum_len (lcp s1 s2) fun c h => (m7 c ((lcp_sub s1 s2).2 c h)).elim (g1 c) (g2 c)
  have hsep : σ'.lookup ("sep" : Str) = some (.str "/") := by rw [q2]; kernel_rfl
  have habs : σ'.lookup ("isabs" : Str) = some (.bool true) := by rw [q3]; kernel_rfl
  refine t_set (d := .str "/") (by kernel_rfl) rfl (exE_of rfl (e_ifexp (z := true) (tv_name (d := .bool true) (e_name (by kernel_rfl) habs) rfl) (e_name (by kernel_rfl) hsep))) rfl ?_
  refine t_ret (d := .str ("/" ++ Txt.join "/" (lcp s1 s2))) (exE_of rfl (e_bin (a := .str "/") (b := .str (Txt.join "/" (lcp s1 s2))) (by kernel_rfl) (e_meth (F := joinD) (x := "/") (ds := [strsD (lcp s1 s2)]) (by kernel_rfl) (by kernel_rfl) (e_name (by kernel_rfl) hsep) (evsW_cons rfl (e_name (by kernel_rfl) q1) rfl) ?_) ?_)) ?_
  · show ((asStrs ((lcp s1 s2).map D.str)).bind _) = _
    rw [asStrs_map]
    exact if_pos (by show _ + (lcp s1 s2).length * 1 ≤ _; omega)
  · have := join_len (lcp s1 s2)
    exact if_pos (by show 1 + _ ≤ 65536; omega)
  · rfl
end Mine
end
section
set_option maxRecDepth 100000
namespace Mine

noncomputable def code : Nat → List Nat
  | 0 => [97]
  | 1 => [97, 98]
  | 2 => [98]
  | 3 => [98, 97]
  | _ => [98, 97, 98]
theorem code_cases (d : Nat) : code d = [97] ∨ code d = [97, 98] ∨ code d = [98] ∨ code d = [98, 97] ∨ code d = [98, 97, 98] := by
  match d with
  | 0 => exact .inl rfl
  | 1 => exact .inr (.inl rfl)
  | 2 => exact .inr (.inr (.inl rfl))
  | 3 => exact .inr (.inr (.inr (.inl rfl)))
  | _ + 4 => exact .inr (.inr (.inr (.inr rfl)))
theorem code_free (d : Nat) : 47 ∉ code d := by rcases code_cases d with h | h | h | h | h <;> rw [h] <;> decide
theorem code_pos (d : Nat) : 1 ≤ (code d).length ∧ (code d).length ≤ 3 := by rcases code_cases d with h | h | h | h | h <;> rw [h] <;> decide
theorem code_inj {d e : Nat} (hd : d < 5) (he : e < 5) (h : code d = code e) : d = e := by
  have : ∀ d : Fin 5, ∀ e : Fin 5, code d = code e → d = e := by decide
  have := this ⟨d, hd⟩ ⟨e, he⟩ h
  simpa using this
noncomputable def nm (d : Nat) : Str := ⟨(code d).toArray⟩
noncomputable def cl (ds : List Nat) : List Nat := ds.flatMap fun d => 47 :: code d
noncomputable def pthL (ds : List Nat) : List Nat := if ds.isEmpty then [47] else cl ds
noncomputable def pth (ds : List Nat) : Str := ⟨(pthL ds).toArray⟩
theorem cl_append (a b : List Nat) : cl (a ++ b) = cl a ++ cl b := by unfold cl; rw [List.flatMap_append]
theorem cl_cons (d : Nat) (b : List Nat) : cl (d :: b) = 47 :: (code d ++ cl b) := rfl
theorem pth_nil : pth [] = "/" := by kernel_rfl
theorem pth_cps (ds : List Nat) : (pth ds).cps.toList = pthL ds := by unfold pth; simp
theorem nm_cps (d : Nat) : (nm d).cps.toList = code d := by unfold nm; simp
theorem pthL_ne {ds : List Nat} (h : ds ≠ []) : pthL ds = cl ds := by cases ds with | nil => exact absurd rfl h | cons a l => rfl
theorem slash_cps : ("/" : Str) = ⟨#[47]⟩ := by kernel_rfl
theorem append_cps (a b : Str) : (a ++ b).cps.toList = a.cps.toList ++ b.cps.toList := by
  show (a.cps ++ b.cps).toList = _
  simp
theorem len_cps (a : Str) : a.length = a.cps.toList.length := by unfold Str.length; simp
theorem pth_ne (ds : List Nat) : (pth ds).length ≠ 0 := by
  rw [len_cps, pth_cps]
  cases ds with
  | nil => decide
  | cons a l => rw [pthL_ne (by simp), cl_cons]; simp

theorem ends_slash (x : Str) : Txt.endswith x "/" = true ↔ x.cps.toList.getLast? = some 47 := by
  rw [slash_cps]
  unfold Txt.endswith
  rw [Bool.and_eq_true, decide_eq_true_eq, List.getLast?_eq_getElem?, ← len_cps]
  have e1 : (⟨#[47]⟩ : Str).length = 1 := rfl
  rw [e1]
  have key := StrLaws.subAt_one x 47 (x.length - 1)
  rw [e1] at key
  constructor
  · rintro ⟨h1, h2⟩
    exact key.mp ⟨by omega, h2⟩
  · intro h
    have := key.mpr h
    exact ⟨by omega, this.2⟩
theorem cl_last (ds : List Nat) (d : Nat) : (cl (ds ++ [d])).getLast? = some 97 ∨ (cl (ds ++ [d])).getLast? = some 98 := by
  have e : cl [d] = 47 :: code d := by simp [cl]
  rw [cl_append, e, List.getLast?_append]
  rcases code_cases d with h | h | h | h | h <;> rw [h] <;> simp
theorem starts_nm (d : Nat) : Txt.startswith (nm d) "/" = false := by
  unfold nm
  rcases code_cases d with h | h | h | h | h <;> rw [h] <;> kernel_rfl

theorem join_pth (ds : List Nat) (d : Nat) : joinS (pth ds) (nm d) = pth (ds ++ [d]) := by
  unfold joinS
  rw [starts_nm, if_neg (by decide), if_neg (pth_ne ds)]
  have e0 : pthL (ds ++ [d]) = cl ds ++ 47 :: code d := by
    rw [pthL_ne (by simp), cl_append]; simp [cl]
  by_cases h : ds = []
  · subst h
    rw [if_pos (by kernel_rfl)]
    refine cps_inj ?_
    rw [append_cps, pth_cps, pth_cps, nm_cps, e0]; rfl
  · have hl : ¬ Txt.endswith (pth ds) "/" = true := by
      rw [ends_slash, pth_cps, pthL_ne h]
      obtain ⟨es, e, rfl⟩ : ∃ es e, ds = es ++ [e] := ⟨ds.dropLast, ds.getLast h, (List.dropLast_concat_getLast h).symm⟩
      intro q
      rcases cl_last es e with q' | q' <;> rw [q] at q' <;> cases q'
    rw [if_neg hl]
    refine cps_inj ?_
    rw [append_cps, append_cps, pth_cps, pth_cps, nm_cps, e0, pthL_ne h, slash_cps]
    rfl

theorem starts_pth (ds : List Nat) : Txt.startswith (pth ds) "/" = true := by
  rw [slash_cps]
  unfold Txt.startswith
  rw [Bool.and_eq_true, decide_eq_true_eq]
  have h : (pth ds).cps.toList[0]? = some 47 := by
    rw [pth_cps]
    cases ds with
    | nil => rfl
    | cons a l => rw [pthL_ne (by simp), cl_cons]; rfl
  have := (StrLaws.subAt_one (pth ds) 47 0).mpr h
  exact this

theorem rfind_last {x : Str} {p q : List Nat} (h : x.cps.toList = p ++ 47 :: q) (hq : 47 ∉ q) : Txt.rfind x "/" = p.length := by
  unfold Txt.rfind
  rw [slash_cps]
  have hat : ∀ i, StrLaws.At x ⟨#[47]⟩ x.length i ↔ x.cps.toList[i]? = some 47 := fun i => StrLaws.subAt_one x 47 i
  have hp : x.cps.toList[p.length]? = some 47 := by rw [h]; simp
  rcases StrLaws.last_spec x ⟨#[47]⟩ with ⟨_, hno⟩ | ⟨i, he, ha, hno⟩
  · exact absurd ((hat _).mpr hp) (hno _)
  · rw [he]
    have h1 : ¬ i < p.length := fun hlt => hno p.length hlt ((hat _).mpr hp)
    have h2 : ¬ p.length < i := fun hlt => by
      have := (hat i).mp ha
      rw [h, List.getElem?_append_right (by omega)] at this
      have e : i - p.length = (i - p.length - 1) + 1 := by omega
      rw [e, List.getElem?_cons_succ] at this
      exact hq (List.mem_of_getElem? this)
    have : i = p.length := by omega
    rw [this]

theorem head_pth (ds : List Nat) (d : Nat) : (headS (pth (ds ++ [d]))).cps.toList = cl ds ++ [47] := by
  have e0 : (pth (ds ++ [d])).cps.toList = cl ds ++ 47 :: code d := by
    rw [pth_cps, pthL_ne (by simp), cl_append]; simp [cl]
  unfold headS
  rw [rfind_last e0 (code_free d)]
  show (StrLaws.sliceText (pth (ds ++ [d])) none (some (((cl ds).length : Int) + 1))).cps.toList = _
  rw [StrLaws.sliceText_to ⟨by omega, by rw [e0]; simp; omega⟩, e0]
  have e1 : (((cl ds).length : Int) + 1 - 0).toNat = (cl ds ++ [47]).length := by simp
  rw [e1]
  have e2 : cl ds ++ 47 :: code d = (cl ds ++ [47]) ++ code d := by simp
  rw [e2]
  show List.take _ (List.drop 0 _) = _
  rw [List.drop_zero, List.take_left']
  rfl

theorem rstrip_slash {x : Str} {p : List Nat} (h : x.cps.toList = p ++ [47]) (hp : p.getLast? ≠ some 47) : (Txt.rstripChars x "/").cps.toList = p := by
  unfold Txt.rstripChars
  rw [PyProof.Rows.stripBy_eq, slash_cps, StrLaws.strSub_toList]
  have e1 : stripLo (fun c => (⟨#[47]⟩ : Str).cps.contains c) false x = 0 := rfl
  show List.take (stripHi _ true x 0 - 0) (List.drop 0 _) = _
  have e2 : stripHi (⟨#[47]⟩ : Str).cps.contains true x 0 = p.length := by
    unfold stripHi
    rw [if_pos rfl, List.drop_zero, h, List.reverse_append, len_cps, h]
    show _ - ((47 :: p.reverse).takeWhile _).length = _
    have e3 : ((47 :: p.reverse).takeWhile (⟨#[47]⟩ : Str).cps.contains) = [47] := by
      rw [List.takeWhile_cons]
      have a1 : (⟨#[47]⟩ : Str).cps.contains 47 = true := by simp
      rw [if_pos a1]
      cases hr : p.reverse with
      | nil => rfl
      | cons a l =>
        have : p.getLast? = some a := by rw [List.getLast?_eq_head?_reverse, hr]; rfl
        have hne : a ≠ 47 := fun q => hp (by rw [this, q])
        rw [List.takeWhile_cons]
        have a2 : ¬ (⟨#[47]⟩ : Str).cps.contains a = true := by simpa using hne
        rw [if_neg a2]
    rw [e3]
    simp
  rw [e2, h]
  simp
theorem mul_all (n : Int) : ∀ c ∈ (Txt.mul "/" n).cps.toList, c = 47 := by
  have h1 : ∀ c ∈ ("/" : Str).cps.toList, c = 47 := by rw [slash_cps]; simp
  have key : ∀ (l : List (Array Nat)) (acc : Array Nat), (∀ c ∈ acc.toList, c = 47) → (∀ a ∈ l, ∀ c ∈ a.toList, c = 47) → ∀ c ∈ (l.foldl (· ++ ·) acc).toList, c = 47 := by
    intro l
    induction l with
    | nil => intro acc h _; exact h
    | cons a l ih =>
      intro acc h h2
      refine ih (acc ++ a) (fun c hc => ?_) fun b hb => h2 b (.tail _ hb)
      rw [Array.toList_append] at hc
      exact (List.mem_append.mp hc).elim (h c) (h2 a (.head _) c)
  unfold Txt.mul
  split
  · intro c hc
    have : (Str.empty).cps.toList = [] := rfl
    rw [this] at hc; cases hc
  · split
    · exact h1
    · intro c hc
      refine key _ #[] (fun c hc => by simp at hc) (fun a ha c hc => ?_) c hc
      rw [(List.mem_replicate.mp ha).2] at hc
      exact h1 c hc

theorem dir_pth (ds : List Nat) (d : Nat) : dirS (pth (ds ++ [d])) = pth ds := by
  have hh := head_pth ds d
  have hlen : ((headS (pth (ds ++ [d]))).length : Int) ≠ 0 := by rw [len_cps, hh]; simp; omega
  unfold dirS
  by_cases h : ds = []
  · subst h
    have e : headS (pth ([] ++ [d])) = "/" := cps_inj (by rw [hh, slash_cps]; rfl)
    rw [e]
    have : ¬ ((("/" : Str).length : Int) != 0 && !(("/" : Str) == Txt.mul "/" ("/" : Str).length)) = true := by decide +kernel
    rw [if_neg this, pth_nil]
  · have hne : (headS (pth (ds ++ [d])) == Txt.mul "/" (headS (pth (ds ++ [d]))).length) = false := by
      refine beq_eq_false_iff_ne.mpr fun q => ?_
      have hall := mul_all ((headS (pth (ds ++ [d]))).length : Int)
      rw [← q, hh] at hall
      cases ds with
      | nil => exact h rfl
      | cons a l =>
        rw [cl_cons] at hall
        have h0 := (code_pos a).1
        cases hc : code a with
        | nil => rw [hc] at h0; cases h0
        | cons x r =>
          have := hall x (by rw [hc]; simp)
          exact code_free a (by rw [hc, this]; exact .head _)
    rw [hne, if_pos (by simpa using hlen)]
    refine cps_inj ?_
    obtain ⟨es, e, rfl⟩ : ∃ es e, ds = es ++ [e] := ⟨ds.dropLast, ds.getLast h, (List.dropLast_concat_getLast h).symm⟩
    rw [rstrip_slash hh (by rcases cl_last es e with q | q <;> rw [q] <;> decide), pth_cps, pthL_ne h]

theorem cut_unique : ∀ {a b r r' : List Nat}, 47 ∉ a → 47 ∉ b → a ++ 47 :: r = b ++ 47 :: r' → a = b ∧ r = r'
  | [], [], r, r', _, _, h => by simpa using h
  | [], y :: b, r, r', _, hb, h => by
    simp only [List.nil_append, List.cons_append, List.cons.injEq] at h
    exact absurd (h.1 ▸ List.mem_cons_self) hb
  | x :: a, [], r, r', ha, _, h => by
    simp only [List.nil_append, List.cons_append, List.cons.injEq] at h
    exact absurd (h.1 ▸ List.mem_cons_self) ha
  | x :: a, y :: b, r, r', ha, hb, h => by
    simp only [List.cons_append, List.cons.injEq] at h
    obtain ⟨e1, e2⟩ := cut_unique (fun q => ha (.tail _ q)) (fun q => hb (.tail _ q)) h.2
    exact ⟨by rw [h.1, e1], e2⟩
noncomputable def jc : List Str → List Nat
  | [] => []
  | [x] => x.cps.toList
  | x :: y :: r => x.cps.toList ++ 47 :: jc (y :: r)
theorem join_cps : ∀ l : List Str, (Str.join "/" l).cps.toList = jc l
  | [] => rfl
  | [x] => rfl
  | x :: y :: r => by
    show (x ++ "/" ++ Str.join "/" (y :: r)).cps.toList = _
    rw [append_cps, append_cps, join_cps (y :: r), slash_cps]
    simp [jc]
theorem jc_inj : ∀ {P Q : List Str}, P ≠ [] → Q ≠ [] → (∀ p ∈ P, 47 ∉ p.cps.toList) → (∀ p ∈ Q, 47 ∉ p.cps.toList) → jc P = jc Q → P = Q
  | [], _, h, _, _, _, _ => absurd rfl h
  | _ :: _, [], _, h, _, _, _ => absurd rfl h
  | [a], [b], _, _, _, _, h => by rw [cps_inj (show a.cps.toList = b.cps.toList from h)]
  | [a], b :: c :: r, _, _, ha, _, h => by
    have h : a.cps.toList = b.cps.toList ++ 47 :: jc (c :: r) := h
    exact absurd (by rw [h]; simp) (ha a (.head _))
  | a :: c :: r, [b], _, _, _, hb, h => by
    have h : a.cps.toList ++ 47 :: jc (c :: r) = b.cps.toList := h
    exact absurd (by rw [← h]; simp) (hb b (.head _))
  | a :: c :: r, b :: d :: r', _, _, ha, hb, h => by
    have h : a.cps.toList ++ 47 :: jc (c :: r) = b.cps.toList ++ 47 :: jc (d :: r') := h
    obtain ⟨e1, e2⟩ := cut_unique (ha a (.head _)) (hb b (.head _)) h
    rw [cps_inj e1, jc_inj (by simp) (by simp) (fun p hp => ha p (.tail _ hp)) (fun p hp => hb p (.tail _ hp)) e2]
theorem jc_names : ∀ (d : Nat) (ds : List Nat), jc ((d :: ds).map nm) = code d ++ cl ds
  | d, [] => by show (nm d).cps.toList = _; rw [nm_cps]; simp [cl]
  | d, e :: ds => by
    show (nm d).cps.toList ++ 47 :: jc ((e :: ds).map nm) = _
    rw [nm_cps, jc_names e ds, cl_cons]
theorem split_pth {ds : List Nat} (h : ds ≠ []) : Txt.split (pth ds) "/" = Str.empty :: ds.map nm := by
  have h1 := StrLaws.join_split (pth ds) "/"
  have h2 : ∀ p ∈ Txt.split (pth ds) "/", 47 ∉ p.cps.toList := by rw [slash_cps]; exact StrLaws.split_free (pth ds) 47
  cases ds with
  | nil => exact absurd rfl h
  | cons d ds =>
    refine jc_inj (fun q => ?_) (by simp) h2 (fun p hp => ?_) ?_
    · rw [q] at h1
      have := congrArg Str.length h1
      exact pth_ne _ this.symm
    · rcases List.mem_cons.mp hp with rfl | hp
      · exact fun q => nomatch q
      · obtain ⟨e, _, rfl⟩ := List.mem_map.mp hp
        rw [nm_cps]; exact code_free e
    · rw [← join_cps, h1, pth_cps, pthL_ne h, cl_cons]
      show _ = [] ++ 47 :: jc ((d :: ds).map nm)
      rw [jc_names]; rfl
theorem clean_pth (ds : List Nat) (h : ds ≠ []) : cleanS (Txt.split (pth ds) "/") = ds.map nm := by
  rw [split_pth h]
  unfold cleanS
  have h0 : okC Str.empty = false := by kernel_rfl
  have h1 : ∀ d, okC (nm d) = true := fun d => by
    unfold nm
    rcases code_cases d with h | h | h | h | h <;> rw [h] <;> kernel_rfl
  rw [List.filter_cons, h0, if_neg (by decide), List.filter_eq_self]
  intro c hc
  obtain ⟨d, _, rfl⟩ := List.mem_map.mp hc
  exact h1 d

noncomputable def lcpN : List Nat → List Nat → List Nat
  | a :: as, b :: bs => if a = b then a :: lcpN as bs else []
  | _, _ => []
theorem nm_inj {d e : Nat} (hd : d < 5) (he : e < 5) (h : nm d = nm e) : d = e := code_inj hd he (by rw [← nm_cps, h, nm_cps])
theorem lcp_nm : ∀ (a b : List Nat), (∀ x ∈ a, x < 5) → (∀ x ∈ b, x < 5) → lcp (a.map nm) (b.map nm) = (lcpN a b).map nm
  | [], _, _, _ => rfl
  | _ :: _, [], _, _ => rfl
  | a :: as, b :: bs, h1, h2 => by
    show (if nm a = nm b then nm a :: lcp (as.map nm) (bs.map nm) else []) = List.map nm (if a = b then a :: lcpN as bs else [])
    by_cases h : a = b
    · subst h
      rw [if_pos rfl, if_pos rfl, lcp_nm as bs (fun x hx => h1 x (.tail _ hx)) fun x hx => h2 x (.tail _ hx)]; rfl
    · rw [if_neg (fun q => h (nm_inj (h1 a (.head _)) (h2 b (.head _)) q)), if_neg h]; rfl
theorem common_pth {a b : List Nat} (ha : a ≠ []) (hb : b ≠ []) (h1 : ∀ x ∈ a, x < 5) (h2 : ∀ x ∈ b, x < 5) : commonS (pth a) (pth b) = pth (lcpN a b) := by
  unfold commonS
  rw [clean_pth a ha, clean_pth b hb, lcp_nm a b h1 h2]
  refine cps_inj ?_
  rw [append_cps, pth_cps]
  have e : Txt.join "/" ((lcpN a b).map nm) = Str.join "/" ((lcpN a b).map nm) := StrLaws.glued_eq_join _ _
  rw [e, join_cps, slash_cps]
  cases lcpN a b with
  | nil => rfl
  | cons d ds => rw [jc_names, pthL_ne (by simp), cl_cons]; rfl
theorem cl_inj : ∀ {a b : List Nat}, (∀ x ∈ a, x < 5) → (∀ x ∈ b, x < 5) → cl a = cl b → a = b := fun {a b} h1 h2 h => by
  cases a with
  | nil => cases b with
    | nil => rfl
    | cons y b => rw [cl_cons] at h; cases h
  | cons x a => cases b with
    | nil => rw [cl_cons] at h; cases h
    | cons y b =>
      have e1 : jc ((x :: a).map nm) = jc ((y :: b).map nm) := by
        rw [jc_names, jc_names]
        rw [cl_cons, cl_cons] at h
        simpa using h
      have e2 := jc_inj (by simp) (by simp) (fun p hp => by obtain ⟨e, _, rfl⟩ := List.mem_map.mp hp; rw [nm_cps]; exact code_free e) (fun p hp => by obtain ⟨e, _, rfl⟩ := List.mem_map.mp hp; rw [nm_cps]; exact code_free e) e1
      have : ∀ (l m : List Nat), (∀ x ∈ l, x < 5) → (∀ x ∈ m, x < 5) → l.map nm = m.map nm → l = m := fun l => by
        induction l with
        | nil => intro m _ _ h; cases m with
          | nil => rfl
          | cons _ _ => cases h
        | cons u l ih => intro m g1 g2 h; cases m with
          | nil => cases h
          | cons v m =>
            simp only [List.map_cons, List.cons.injEq] at h
            rw [nm_inj (g1 u (.head _)) (g2 v (.head _)) h.1, ih m (fun x hx => g1 x (.tail _ hx)) (fun x hx => g2 x (.tail _ hx)) h.2]
      exact this _ _ h1 h2 e2
theorem pth_inj {a b : List Nat} (ha : a ≠ []) (hb : b ≠ []) (h1 : ∀ x ∈ a, x < 5) (h2 : ∀ x ∈ b, x < 5) (h : pth a = pth b) : a = b := by
  refine cl_inj h1 h2 ?_
  rw [← pthL_ne ha, ← pthL_ne hb, ← pth_cps, ← pth_cps, h]
theorem pth_ne_root {a : List Nat} (ha : a ≠ []) : pth a ≠ "/" := fun h => by
  have := congrArg (fun s : Str => s.cps.toList) h
  simp only [pth_cps, pthL_ne ha, slash_cps] at this
  cases a with
  | nil => exact ha rfl
  | cons d l =>
    rw [cl_cons] at this
    have h0 := (code_pos d).1
    have h1 := congrArg List.length this
    rw [List.length_cons, List.length_append] at h1
    have h2 : ([47] : List Nat).length = 1 := rfl
    omega
end Mine
end
section
set_option maxRecDepth 100000
set_option maxHeartbeats 0
namespace Mine

noncomputable abbrev Pa := List Nat
noncomputable abbrev pD (a : Pa) : D := .str (pth a)
noncomputable abbrev pL (l : List Pa) : D := .list (l.map pD)
structure Good (a : Pa) : Prop where
  ne : a ≠ []
  dig : ∀ x ∈ a, x < 5
  len : a.length ≤ 6
noncomputable def AllGood (l : List Pa) : Prop := ∀ a ∈ l, Good a

theorem eqv_pD {a b : Pa} (ha : Good a) (hb : Good b) : (pD a).eqv (pD b) = decide (a = b) := by
  rw [str_eqv]
  by_cases h : a = b
  · subst h; simp
  · have : pth a ≠ pth b := fun q => h (pth_inj ha.ne hb.ne ha.dig hb.dig q)
    simp [h, this]
noncomputable def filtN (l m : List Pa) : List Pa := l.filter fun x => !m.contains x
theorem rest_pL {l m : List Pa} (hl : AllGood l) (hm : AllGood m) : restD (l.map pD) (m.map pD) = (filtN l m).map pD := by
  unfold restD filtN
  rw [List.filter_map]
  congr 1
  refine List.filter_congr fun x hx => ?_
  show (!skipD (m.map pD) (pD x)) = !m.contains x
  congr 1
  unfold skipD
  rw [Bool.eq_iff_iff, List.any_eq_true, List.contains_iff_mem]
  constructor
  · rintro ⟨y, hy, he⟩
    obtain ⟨z, hz, rfl⟩ := List.mem_map.mp hy
    first
      | (rw [eqv_pD (hm z hz) (hl x hx), decide_eq_true_eq] at he; exact he ▸ hz)
      | (rw [eqv_pD (hl x hx) (hm z hz), decide_eq_true_eq] at he; exact he ▸ hz)
  · intro h
    exact ⟨pD x, List.mem_map.mpr ⟨x, h, rfl⟩, by rw [eqv_pD (hl x hx) (hl x hx)]; simp⟩
theorem ok_pL {n : Nat} (l : List Pa) : (l.map pD).all (D.ok n) = true := by
  rw [List.all_eq_true]
  intro d hd
  obtain ⟨s, _, rfl⟩ := List.mem_map.mp hd
  cases n <;> rfl
theorem filter_pL {l m : List Pa} (hl : AllGood l) (hm : AllGood m) (hr : l.length ≤ room) : filterD [pL l, pL m] = some (pL (filtN l m)) := by
  show (if ((l.map pD).all (D.ok deep) && (m.map pD).all (D.ok 3) && decide ((l.map pD).length ≤ room)) = true then some (D.list (restD (l.map pD) (m.map pD))) else none) = _
  rw [ok_pL, ok_pL, rest_pL hl hm, if_pos (by simpa using hr)]

theorem pth_len {a : Pa} (h : a.length ≤ 6) : (pth a).length ≤ 30 := by
  rw [len_cps, pth_cps]
  have : ∀ l : Pa, (cl l).length ≤ 4 * l.length := fun l => by
    induction l with
    | nil => exact Nat.le_refl _
    | cons d l ih =>
      rw [cl_cons]
      have := (code_pos d).2
      simp only [List.length_cons, List.length_append]
      omega
  cases a with
  | nil => decide
  | cons d l =>
    rw [pthL_ne (by simp)]
    have := this (d :: l)
    omega
noncomputable def joinF : Fn := strs2 fun a b => if a.length + b.length + 1 ≤ room then some (.str (joinS a b)) else none
theorem join_pD {a : Pa} (h : a.length ≤ 5) (d : Nat) : joinF [pD a, .str (nm d)] = some (pD (a ++ [d])) := by
  show (if (pth a).length + (nm d).length + 1 ≤ room then some (D.str (joinS (pth a) (nm d))) else none) = _
  have h1 := pth_len (a := a) (by omega)
  have h2 : (nm d).length ≤ 3 := by rw [len_cps, nm_cps]; exact (code_pos d).2
  rw [join_pth, if_pos (by unfold room; omega)]

noncomputable def rot (f : Nat) : List Nat := [0, 1, 2, 3, 4].drop f ++ [0, 1, 2, 3, 4].take f
noncomputable def firstOf (cell : Int) : Nat := ((cell.fdiv 24).fmod 5).toNat
noncomputable def freshN (par : Pa) (f : Nat) : List Pa := (rot f).map fun d => par ++ [d]
noncomputable def parOf (ps : List Pa) (k : Nat) (cell : Int) : Pa := if k = 0 then [] else ps.getD (cell.fmod k).toNat []
noncomputable def pickN (ps : List Pa) (k : Nat) (cell : Int) : Pa := (filtN (freshN (parOf ps k cell) (firstOf cell)) ps).headD []
noncomputable def stepN (ps : List Pa) (k : Nat) (cell : Int) : List Pa := ps ++ [pickN ps k cell]
noncomputable def pathsN (cs : List Int) : List Pa := (cs.zipIdx).foldl (fun ps x => stepN ps x.2 x.1) []
noncomputable def names5 : D := .list [.str "a", .str "ab", .str "b", .str "ba", .str "bab"]
theorem first_lt (cell : Int) : firstOf cell < 5 ∧ (cell.fdiv 24).fmod 5 = (firstOf cell : Nat) := by
  have h1 : 0 ≤ (cell.fdiv 24).fmod 5 := Int.fmod_nonneg_of_pos _ (by decide)
  have h2 : (cell.fdiv 24).fmod 5 < 5 := Int.fmod_lt_of_pos _ (by decide)
  unfold firstOf
  omega
theorem rot_dig {f : Nat} : ∀ d ∈ rot f, d < 5 := fun d hd => by
  have h : ∀ x ∈ ([0, 1, 2, 3, 4] : List Nat), x < 5 := by decide
  rcases List.mem_append.mp hd with q | q
  · exact h d (List.mem_of_mem_drop q)
  · exact h d (List.mem_of_mem_take q)
theorem rot_nodup {f : Nat} (hf : f < 5) : (rot f).Nodup ∧ (rot f).length = 5 := by
  have : ∀ f : Fin 5, (rot f).Nodup ∧ (rot f).length = 5 := by decide
  exact this ⟨f, hf⟩
theorem fresh_good {par : Pa} {f : Nat} (h1 : par.length ≤ 5) (h2 : ∀ x ∈ par, x < 5) : AllGood (freshN par f) := fun a ha => by
  obtain ⟨d, hd, rfl⟩ := List.mem_map.mp ha
  refine ⟨by simp, fun x hx => ?_, by simpa using h1⟩
  rcases List.mem_append.mp hx with q | q
  · exact h2 x q
  · rw [List.mem_singleton.mp q]; exact rot_dig d hd
theorem pick_some {ps : List Pa} {par : Pa} {f : Nat} (hf : f < 5) (hp : ps.length < 5) : ∃ a l, filtN (freshN par f) ps = a :: l := by
  cases h : filtN (freshN par f) ps with
  | cons a l => exact ⟨a, l, rfl⟩
  | nil =>
    exfalso
    have hsub : ∀ x ∈ freshN par f, x ∈ ps := fun x hx => by
      have := List.filter_eq_nil_iff.mp h x hx
      simpa using this
    have hn : (freshN par f).Nodup := List.Pairwise.map _ (fun a b (hab : a ≠ b) (q : par ++ [a] = par ++ [b]) => hab (by simpa using q)) (rot_nodup hf).1
    have hl : (freshN par f).length = 5 := by unfold freshN; rw [List.length_map]; exact (rot_nodup hf).2
    have := hn.length_le_of_subset hsub
    omega
end Mine
end
section
set_option maxRecDepth 100000
set_option maxHeartbeats 0
namespace Mine

structure Inv (ps : List Pa) : Prop where
  all : ∀ a ∈ ps, a ≠ [] ∧ (∀ x ∈ a, x < 5) ∧ a.length ≤ ps.length
theorem Inv.good {ps : List Pa} (h : Inv ps) (hl : ps.length ≤ 6) : AllGood ps := fun a ha => let ⟨x, y, z⟩ := h.all a ha; ⟨x, y, by omega⟩
theorem par_ok {ps : List Pa} (h : Inv ps) (k : Nat) (cell : Int) : (∀ x ∈ parOf ps k cell, x < 5) ∧ (parOf ps k cell).length ≤ ps.length := by
  unfold parOf
  split
  · exact ⟨(fun x hx => nomatch hx), Nat.zero_le _⟩
  · rw [List.getD_eq_getElem?_getD]
    cases e : ps[(cell.fmod k).toNat]? with
    | none => exact ⟨(fun x hx => nomatch hx), Nat.zero_le _⟩
    | some a => have := h.all a (List.mem_of_getElem? e); exact ⟨this.2.1, this.2.2⟩
theorem pick_ok {ps : List Pa} (h : Inv ps) (hl : ps.length < 5) (k : Nat) (cell : Int) : ∃ l, filtN (freshN (parOf ps k cell) (firstOf cell)) ps = pickN ps k cell :: l ∧ ∃ d, d < 5 ∧ pickN ps k cell = parOf ps k cell ++ [d] ∧ pickN ps k cell ∉ ps := by
  obtain ⟨a, l, e⟩ := pick_some (par := parOf ps k cell) (first_lt cell).1 hl
  have e1 : pickN ps k cell = a := by unfold pickN; rw [e]; rfl
  rw [e1]
  refine ⟨l, e, ?_⟩
  have hm : a ∈ filtN (freshN (parOf ps k cell) (firstOf cell)) ps := by rw [e]; exact .head _
  obtain ⟨h1, h2⟩ := List.mem_filter.mp hm
  obtain ⟨d, hd, rfl⟩ := List.mem_map.mp h1
  exact ⟨d, rot_dig d hd, rfl, by simpa using h2⟩
theorem inv_step {ps : List Pa} (h : Inv ps) (hl : ps.length < 5) (k : Nat) (cell : Int) : Inv (stepN ps k cell) := by
  refine ⟨fun a ha => ?_⟩
  have e0 : (stepN ps k cell).length = ps.length + 1 := by unfold stepN; simp
  rcases List.mem_append.mp ha with q | q
  · obtain ⟨x, y, z⟩ := h.all a q
    exact ⟨x, y, by omega⟩
  · obtain ⟨_, _, d, hd, e, _⟩ := pick_ok h hl k cell
    rw [List.mem_singleton.mp q, e]
    have hp := par_ok h k cell
    refine ⟨by simp, fun x hx => ?_, by rw [List.length_append]; have := hp.2; simp; omega⟩
    rcases List.mem_append.mp hx with g | g
    · exact hp.1 x g
    · rw [List.mem_singleton.mp g]; exact hd

theorem exC_own {T : Tab} {n : Nat} {c : Sc} {σ : Names} {ω : Own} {p : Pos} {elt : Expr} {g : Comprehension} {gs : List Comprehension} {scope : Scope} {out : List D} {σ1 : Names} {ω1 : Own} (h1 : reveal (ω.filter fun x => ment fuelM x.1 (.ListComp elt (g :: gs) scope p)) ++ σ = σ1) (h2 : (ω.filter fun x => !ment fuelM x.1 (.ListComp elt (g :: gs) scope p)) = ω1)
    (h : compW (ev T n) c σ1 elt g gs scope = some (.list out)) : exC T n c σ ω (.ListComp elt (g :: gs) scope p) = some (out, σ1, ω1) := by
  unfold exC shown unshown
  rw [h1, h2]
  show (compW (ev T n) c σ1 elt g gs scope).bind _ = _
  rw [h]; rfl
noncomputable def tab6 : Tab := { fn := [("join", joinF), ("_filter", filterD)], mt := [], con := [] }

theorem rot_rows (f : Nat) : ((rot f).map fun d => [D.str (nm d)]) = ((List.map D.str ([0, 1, 2, 3, 4].map nm)).drop f ++ (List.map D.str ([0, 1, 2, 3, 4].map nm)).take f).map fun d => [d] := by
  unfold rot
  rw [← List.map_drop, ← List.map_drop, ← List.map_take, ← List.map_take]
  simp only [List.map_append, List.map_map]
  rfl

theorem fresh_rows {r : Ev} {c : Sc} {inner : Names → Option (List D)} {σ : Names} {par : Pa} : ∀ l : List Nat, (∀ d ∈ l, inner (putAll ["name"] [.str (nm d)] σ) = some [pD (par ++ [d])]) → rowsW r c [] inner ["name"] σ (l.map fun d => [D.str (nm d)]) = some ((l.map fun d => par ++ [d]).map pD)
  | [], _ => rfl
  | d :: l, h => by
    simp only [List.map_cons, rowsW, testsW, Option.bind_some, if_true, h d (.head _), fresh_rows l fun d hd => h d (.tail _ hd), Option.map_some]
    rfl

noncomputable def NextP (ps : List Pa) (r : Res) : Prop := ∃ σ', r = some (.next, σ', [(("paths" : Str), true, ps.map pD)]) ∧ σ'.lookup ("names" : Str) = some names5
theorem loop_paths {B O : Names → Own → Res}
    (hB : ∀ (σ : Names) (k : Nat) (cell : Int) (ps : List Pa), 1 ≤ k → k < 5 → ps.length = k → Inv ps → σ.lookup ("names" : Str) = some names5 → NextP (stepN ps k cell) (B ((("cell" : Str), .int cell) :: (("k" : Str), .int k) :: σ) [(("paths" : Str), true, ps.map pD)]))
    (hO : ∀ σ ω, O σ ω = some (.next, σ, ω)) : ∀ (cs : List Int) (k : Nat) (ps : List Pa) (σ : Names), 1 ≤ k → k + cs.length ≤ 5 → ps.length = k → Inv ps → σ.lookup ("names" : Str) = some names5 →
    ∃ σ', forW B O [("k" : Str), ("cell" : Str)] (((cs.map D.int).zipIdx k).map (fun (d, i) => [D.int (i : Nat), d])) σ [(("paths" : Str), true, ps.map pD)] = some (.next, σ', [(("paths" : Str), true, ((cs.zipIdx k).foldl (fun ps x => stepN ps x.2 x.1) ps).map pD)]) := by
  intro cs
  induction cs with
  | nil => intro k ps σ _ _ _ _ _; exact ⟨σ, hO _ _⟩
  | cons x cs ih =>
    intro k ps σ h1 h2 h3 h4 h5
    simp only [List.length_cons] at h2
    obtain ⟨σ1, e1, e2⟩ := hB σ k x ps h1 (by omega) h3 h4 h5
    obtain ⟨σ', e3⟩ := ih (k + 1) (stepN ps k x) σ1 (by omega) (by omega) (by unfold stepN; simp [h3]) (inv_step h4 (by omega) k x) e2
    refine ⟨σ', ?_⟩
    show forW B O [("k" : Str), ("cell" : Str)] ([D.int (k : Nat), .int x] :: ((cs.map D.int).zipIdx (k + 1)).map (fun (d, i) => [D.int (i : Nat), d])) σ _ = _
    unfold forW
    rw [if_pos (by rfl)]
    show ((B ((("cell" : Str), .int x) :: (("k" : Str), .int k) :: σ) [(("paths" : Str), true, ps.map pD)]).bind _) = _
    rw [e1]
    simp only [Option.bind_some]
    exact e3

theorem then_of' {P : Res → Prop} {k : Names → Own → Res} {r : Res} {ω' : Own} (h : ∃ σ', r = some (.next, σ', ω')) (f : ∀ σ', P (k σ' ω')) : Then P k r := by
  obtain ⟨σ', rfl⟩ := h
  exact f σ'

theorem paths_def (P : Params) (x0 : Int) (cs : List Int) (hc : cs.length = 4) : Gives (pL (pathsN (x0 :: cs))) (runFar P tab6 230 ["cells"] [.list ((x0 :: cs).map .int)]) := by
  unfold runFar
  have hbd : bodyAt (hd.heap_1 P) 230 = bodyAt (hd.heap_1 P) 230 := rfl
  conv at hbd => rhs; whnf
  rw [hbd]
  clear hbd
  refine t_list (ds := [.str "a", .str "ab", .str "b", .str "ba", .str "bab"]) (σ' := [("cells", .list ((x0 :: cs).map .int))]) (ω' := []) (by kernel_rfl) (by kernel_rfl) (by kernel_rfl) (by kernel_rfl) ?_
  refine t_list (ds := []) (σ' := [("cells", .list ((x0 :: cs).map .int))]) (ω' := [("names", true, [.str "a", .str "ab", .str "b", .str "ba", .str "bab"])]) (by kernel_rfl) (by kernel_rfl) (by kernel_rfl) (by kernel_rfl) ?_
  refine t_for (xs := ["k", "cell"]) (rows := enumL ((x0 :: cs).map .int)) (by kernel_rfl) (exI_of (by kernel_rfl) (iter_enum0 (by kernel_rfl) (by kernel_rfl))) (by kernel_rfl) ?_
  have hen : enumL ((x0 :: cs).map D.int) = [.int (0 : Nat), .int x0] :: ((cs.map D.int).zipIdx 1).map (fun (d, i) => [D.int (i : Nat), d]) := rfl
  rw [hen]
  refine f_cons rfl ?_
  refine t_set (d := pD []) (by kernel_rfl) rfl (exE_of2 (by kernel_rfl) rfl (by kernel_rfl)) rfl ?_
  have hf := first_lt x0
  refine t_set (d := .int (firstOf x0 : Nat)) (by kernel_rfl) rfl (exE_of (by kernel_rfl) (e_bin (a := .int (x0.fdiv 24)) (b := .int 5) (e_bin (a := .int x0) (b := .int 24) (by kernel_rfl) (by kernel_rfl) (by kernel_rfl)) (by kernel_rfl) (by rw [← hf.2]; rfl))) rfl ?_
  refine t_comp (ds := (freshN [] (firstOf x0)).map pD) (σ1 := [("names", names5), ("first", .int (firstOf x0 : Nat)), ("folder", pD []), ("cell", .int x0), ("k", .int (0 : Nat)), ("cells", .list ((x0 :: cs).map .int))]) (ω' := [("paths", true, [])]) (by kernel_rfl) (exC_own (ω1 := [("paths", true, [])]) (by kernel_rfl) (by kernel_rfl) (comp_core (xs := ["name"]) (rows := (rot (firstOf x0)).map fun d => [.str (nm d)]) (by kernel_rfl) (by kernel_rfl) (iter_plain (d := .list ((List.map D.str ([0, 1, 2, 3, 4].map nm)).drop (firstOf x0) ++ (List.map D.str ([0, 1, 2, 3, 4].map nm)).take (firstOf x0))) (by kernel_rfl) (by kernel_rfl)
      (e_bin (a := .list ((List.map D.str ([0, 1, 2, 3, 4].map nm)).drop (firstOf x0))) (b := .list ((List.map D.str ([0, 1, 2, 3, 4].map nm)).take (firstOf x0)))
        (e_part (d := .list (List.map D.str ([0, 1, 2, 3, 4].map nm))) (l := some (.int (firstOf x0 : Nat))) (h := none) rfl (by kernel_rfl) (by kernel_rfl) (by kernel_rfl) (drop_list (by omega) (by decide)))
        (e_part (d := .list (List.map D.str ([0, 1, 2, 3, 4].map nm))) (l := none) (h := some (.int (firstOf x0 : Nat))) rfl (by kernel_rfl) (by kernel_rfl) (by kernel_rfl) (take_list (by omega) (by decide)))
        (if_pos (by unfold room; simp; omega))) (by rw [rot_rows]; rfl)) (by kernel_rfl)
      (fresh_rows (par := []) _ fun d _ => inner1 (call_fn1 (F := joinF) (ds := [pD [], .str (nm d)]) (by kernel_rfl) (by kernel_rfl) (by kernel_rfl) (join_pD (by decide) d))) (by rw [List.length_map]; unfold freshN; rw [List.length_map, (rot_nodup hf.1).2]; unfold room; omega))) (by kernel_rfl) ?_
  have i0 : Inv [] := ⟨fun a ha => nomatch ha⟩
  obtain ⟨l, hl, d0, hd0, hd1, _⟩ := pick_ok i0 (by decide) 0 x0
  refine t_append (d := pD (pickN [] 0 x0)) (ds := []) (ω' := []) (by kernel_rfl) (by kernel_rfl) (exE_of2 (by kernel_rfl) rfl (e_item (d := pL (filtN (freshN [] (firstOf x0)) [])) (j := .int 0) rfl (call_fn1 (F := filterD) (ds := [pL (freshN [] (firstOf x0)), pL []]) (by kernel_rfl) (by kernel_rfl) (by kernel_rfl) (filter_pL (fresh_good (by decide) (by simp)) (fun a ha => nomatch ha) (by unfold freshN; rw [List.length_map, (rot_nodup hf.1).2]; unfold room; omega))) (by kernel_rfl) ?_)) (by kernel_rfl) (by unfold room; simp) (by kernel_rfl) ?_
  · have e1 : filtN (freshN [] (firstOf x0)) [] = pickN [] 0 x0 :: l := hl
    rw [e1]; rfl
  refine t_nil (fork_next ?_)
  have e0 : ([] : List D) ++ [pD (pickN [] 0 x0)] = (stepN [] 0 x0).map pD := rfl
  rw [e0]
  refine then_of' (ω' := [("paths", true, (pathsN (x0 :: cs)).map pD)]) (loop_paths ?_ (fun σ ω => rfl) cs 1 (stepN [] 0 x0) _ (Nat.le_refl 1) (by omega) rfl (inv_step i0 (by decide) 0 x0) (by kernel_rfl)) fun σ' => ?_
  · intro σ k cell ps h1 h2 h3 h4 h5
    have h6 : σ.lookup ("names" : Str) = some (.list (List.map D.str ([0, 1, 2, 3, 4].map nm))) := h5.trans (by kernel_rfl)
    have hf := first_lt cell
    have hpar := par_ok h4 k cell
    obtain ⟨l, hl, d0, hd0, hd1, _⟩ := pick_ok h4 (by omega) k cell
    have hk : ((k : Int) == 0) = false := by simp; omega
    have hm0 : 0 ≤ cell.fmod k := Int.fmod_nonneg_of_pos _ (by omega)
    have hm1 : cell.fmod k < k := Int.fmod_lt_of_pos _ (by omega)
    have hpe : ps[(cell.fmod k).toNat]? = some (parOf ps k cell) := by
      unfold parOf
      rw [if_neg (by omega), List.getD_eq_getElem?_getD]
      have : (cell.fmod k).toNat < ps.length := by omega
      rw [List.getElem?_eq_getElem this]; rfl
    refine t_set (d := pD (parOf ps k cell)) (by kernel_rfl) rfl (exE_of2 (by kernel_rfl) rfl (e_ifexp (z := false) (tv_cmp' (a := .int k) (b := .int 0) rfl (by kernel_rfl) (by kernel_rfl) (congrArg some hk)) (e_item (d := pL ps) (j := .int (cell.fmod k)) rfl (by kernel_rfl) (e_bin (a := .int cell) (b := .int k) (by kernel_rfl) (by kernel_rfl) (by exact if_pos (by omega))) ?_))) rfl ?_
    · show (if 0 ≤ cell.fmod k ∧ cell.fmod k < 65536 then (ps.map pD)[(cell.fmod k).toNat]? else none) = _
      rw [if_pos ⟨hm0, by omega⟩, List.getElem?_map, hpe]; rfl
    refine t_set (d := .int (firstOf cell : Nat)) (by kernel_rfl) rfl (exE_of (by kernel_rfl) (e_bin (a := .int (cell.fdiv 24)) (b := .int 5) (e_bin (a := .int cell) (b := .int 24) (by kernel_rfl) (by kernel_rfl) (by kernel_rfl)) (by kernel_rfl) (by rw [← hf.2]; rfl))) rfl ?_
    have hlen : (freshN (parOf ps k cell) (firstOf cell)).length = 5 := by unfold freshN; rw [List.length_map, (rot_nodup hf.1).2]
    refine t_comp (ds := (freshN (parOf ps k cell) (firstOf cell)).map pD) (σ1 := ("first", .int (firstOf cell : Nat)) :: ("folder", pD (parOf ps k cell)) :: ("cell", .int cell) :: ("k", .int k) :: σ) (ω' := [("paths", true, ps.map pD)]) (by kernel_rfl) (exC_own (ω1 := [("paths", true, ps.map pD)]) (by kernel_rfl) (by kernel_rfl) (comp_core (xs := ["name"]) (rows := (rot (firstOf cell)).map fun d => [.str (nm d)]) (by kernel_rfl) (by kernel_rfl) (iter_plain (d := .list ((List.map D.str ([0, 1, 2, 3, 4].map nm)).drop (firstOf cell) ++ (List.map D.str ([0, 1, 2, 3, 4].map nm)).take (firstOf cell))) (by kernel_rfl) (by kernel_rfl)
      (e_bin (a := .list ((List.map D.str ([0, 1, 2, 3, 4].map nm)).drop (firstOf cell))) (b := .list ((List.map D.str ([0, 1, 2, 3, 4].map nm)).take (firstOf cell)))
        (e_part (d := .list (List.map D.str ([0, 1, 2, 3, 4].map nm))) (l := some (.int (firstOf cell : Nat))) (h := none) rfl (by exact e_name (by kernel_rfl) h6) (by kernel_rfl) (by kernel_rfl) (drop_list (by omega) (by decide)))
        (e_part (d := .list (List.map D.str ([0, 1, 2, 3, 4].map nm))) (l := none) (h := some (.int (firstOf cell : Nat))) rfl (by exact e_name (by kernel_rfl) h6) (by kernel_rfl) (by kernel_rfl) (take_list (by omega) (by decide)))
        (if_pos (by unfold room; simp; omega))) (by rw [rot_rows]; rfl)) (by kernel_rfl)
      (fresh_rows (par := parOf ps k cell) _ fun d _ => inner1 (call_fn1 (F := joinF) (ds := [pD (parOf ps k cell), .str (nm d)]) (by kernel_rfl) (by kernel_rfl) (by kernel_rfl) (join_pD (by have := hpar.2; omega) d))) (by rw [List.length_map, hlen]; unfold room; omega))) (by kernel_rfl) ?_
    refine t_append (d := pD (pickN ps k cell)) (ds := ps.map pD) (ω' := []) (by kernel_rfl) (by kernel_rfl) (exE_of2 (by kernel_rfl) rfl (e_item (d := pL (filtN (freshN (parOf ps k cell) (firstOf cell)) ps)) (j := .int 0) rfl (call_fn1 (F := filterD) (ds := [pL (freshN (parOf ps k cell) (firstOf cell)), pL ps]) (by kernel_rfl) (by kernel_rfl) (by kernel_rfl) (filter_pL (fresh_good (by have := hpar.2; omega) hpar.1) (h4.good (by omega)) (by rw [hlen]; unfold room; omega))) (by kernel_rfl) ?_)) (by kernel_rfl) (by rw [List.length_map]; unfold room; omega) (by kernel_rfl) ?_
    · rw [hl]; rfl
    have e1 : (stepN ps k cell).map pD = ps.map pD ++ [pD (pickN ps k cell)] := by unfold stepN; rw [List.map_append]; rfl
    refine t_nil ⟨(("fresh" : Str), D.list ((freshN (parOf ps k cell) (firstOf cell)).map pD)) :: ("first", .int (firstOf cell : Nat)) :: ("folder", pD (parOf ps k cell)) :: ("cell", .int cell) :: ("k", .int k) :: σ, ?_, ?_⟩
    · rw [e1]
    · exact h5
  refine t_ret (exE_own (d := pL (pathsN (x0 :: cs))) (d' := pL (pathsN (x0 :: cs))) (by kernel_rfl) (by kernel_rfl) rfl (by kernel_rfl)) rfl
end Mine
end
section
set_option maxRecDepth 100000
set_option maxHeartbeats 0
namespace Mine

noncomputable def AllDig (l : List Pa) : Prop := ∀ a ∈ l, ∀ x ∈ a, x < 5
theorem pth_inj' {a b : Pa} (h1 : ∀ x ∈ a, x < 5) (h2 : ∀ x ∈ b, x < 5) (h : pth a = pth b) : a = b := by
  by_cases ha : a = []
  · subst ha
    by_cases hb : b = []
    · exact hb.symm
    · exact absurd (h.symm.trans pth_nil) (pth_ne_root hb)
  · by_cases hb : b = []
    · subst hb; exact absurd (h.trans pth_nil) (pth_ne_root ha)
    · exact pth_inj ha hb h1 h2 h
theorem eqv_pD' {a b : Pa} (ha : ∀ x ∈ a, x < 5) (hb : ∀ x ∈ b, x < 5) : (pD a).eqv (pD b) = decide (a = b) := by
  rw [str_eqv]
  by_cases h : a = b
  · subst h; simp
  · have : pth a ≠ pth b := fun q => h (pth_inj' ha hb q)
    simp [h, this]
theorem rest_pL' {l m : List Pa} (hl : AllDig l) (hm : AllDig m) : restD (l.map pD) (m.map pD) = (filtN l m).map pD := by
  unfold restD filtN
  rw [List.filter_map]
  congr 1
  refine List.filter_congr fun x hx => ?_
  show (!skipD (m.map pD) (pD x)) = !m.contains x
  congr 1
  unfold skipD
  rw [Bool.eq_iff_iff, List.any_eq_true, List.contains_iff_mem]
  constructor
  · rintro ⟨y, hy, he⟩
    obtain ⟨z, hz, rfl⟩ := List.mem_map.mp hy
    rw [eqv_pD' (hm z hz) (hl x hx), decide_eq_true_eq] at he
    exact he ▸ hz
  · intro h
    exact ⟨pD x, List.mem_map.mpr ⟨x, h, rfl⟩, by rw [eqv_pD' (hl x hx) (hl x hx)]; simp⟩
theorem filter_pL' {l m : List Pa} (hl : AllDig l) (hm : AllDig m) (hr : l.length ≤ room) : filterD [pL l, pL m] = some (pL (filtN l m)) := by
  show (if ((l.map pD).all (D.ok deep) && (m.map pD).all (D.ok 3) && decide ((l.map pD).length ≤ room)) = true then some (D.list (restD (l.map pD) (m.map pD))) else none) = _
  rw [ok_pL, ok_pL, rest_pL' hl hm, if_pos (by simpa using hr)]

noncomputable def dirF : Fn := fn1 fun d => (asStr d).bind fun a => if a.length ≤ room ∧ (headS a).length ≤ room then some (.str (dirS a)) else none
theorem dir_pD {a : Pa} (hn : a ≠ []) (hl : a.length ≤ 6) : dirF [pD a] = some (pD a.dropLast) := by
  have e : a = a.dropLast ++ [a.getLast hn] := (List.dropLast_concat_getLast hn).symm
  have h1 := pth_len hl
  have h2 := head_pth a.dropLast (a.getLast hn)
  rw [← e] at h2
  have h3 : (headS (pth a)).length ≤ room := by
    rw [len_cps, h2]
    have h4 := head_pth a.dropLast (a.getLast hn)
    have h5 : (cl a).length ≤ 30 := by rw [← pthL_ne hn, ← pth_cps, ← len_cps]; exact h1
    have h6 : (cl a).length = (cl a.dropLast).length + (cl [a.getLast hn]).length := by conv => lhs; rw [e, cl_append, List.length_append]
    unfold room
    rw [List.length_append]
    show _ + 1 ≤ _
    omega
  show (if (pth a).length ≤ room ∧ (headS (pth a)).length ≤ room then some (D.str (dirS (pth a))) else none) = _
  rw [if_pos ⟨by unfold room; omega, h3⟩]
  have := dir_pth a.dropLast (a.getLast hn)
  rw [← e] at this
  rw [this]

noncomputable def nextN (paths order : List Pa) : List Pa := filtN (filtN paths order) ((filtN paths order).map List.dropLast)
noncomputable def longerN (paths : List Pa) (os : List (List Pa)) : List (List Pa) := os.flatMap fun o => (nextN paths o).map fun p => o ++ [p]
noncomputable def ordersN (paths : List Pa) : List (List Pa) := paths.foldl (fun os _ => longerN paths os) [[]]
noncomputable abbrev oL (os : List (List Pa)) : List D := os.map pL
noncomputable def tab7 : Tab := { fn := [("dirname", dirF), ("_filter", filterD)], mt := [], con := [] }
theorem filt_sub {l m : List Pa} : ∀ a ∈ filtN l m, a ∈ l := fun a ha => (List.mem_filter.mp ha).1
theorem filt_len {l m : List Pa} : (filtN l m).length ≤ l.length := List.length_filter_le _ _


noncomputable def NextI (I : Names → Own → Prop) (r : Res) : Prop := ∃ σ ω, r = some (.next, σ, ω) ∧ I σ ω
theorem then_I {P : Res → Prop} {k : Names → Own → Res} {r : Res} {I : Names → Own → Prop} (h : NextI I r) (f : ∀ σ ω, I σ ω → P (k σ ω)) : Then P k r := by
  obtain ⟨σ, ω, rfl, hi⟩ := h
  exact f σ ω hi
theorem next_mono {I J : Names → Own → Prop} {r : Res} (h : NextI I r) (f : ∀ σ ω, I σ ω → J σ ω) : NextI J r := let ⟨σ, ω, e, hi⟩ := h; ⟨σ, ω, e, f σ ω hi⟩
theorem loop_gen {B O : Names → Own → Res} {xs : List Str} (I : Nat → Names → Own → Prop) (hO : ∀ σ ω, O σ ω = some (.next, σ, ω)) : ∀ (rows : List (List D)) (i : Nat) (σ : Names) (ω : Own), (∀ r ∈ rows, r.length = xs.length) → I i σ ω →
    (∀ (j : Nat) (r : List D) (σ : Names) (ω : Own), rows[j]? = some r → I (i + j) σ ω → NextI (I (i + j + 1)) (B (putAll xs r σ) (ω.filter fun e => !xs.contains e.1))) → NextI (I (i + rows.length)) (forW B O xs rows σ ω) := by
  intro rows
  induction rows with
  | nil => intro i σ ω _ h _; exact ⟨σ, ω, hO σ ω, h⟩
  | cons r rows ih =>
    intro i σ ω hl h hB
    obtain ⟨σ1, ω1, e1, h1⟩ := hB 0 r σ ω rfl h
    have h2 := ih (i + 1) σ1 ω1 (fun r hr => hl r (.tail _ hr)) h1 (fun j r' σ ω e hi => by
      have := hB (j + 1) r' σ ω e (by have e : i + 1 + j = i + (j + 1) := by omega
                                      exact e ▸ hi)
      have e : i + 1 + j + 1 = i + (j + 1) + 1 := by omega
      rw [e]; exact this)
    have e2 : i + 1 + rows.length = i + (r :: rows).length := by simp; omega
    rw [e2] at h2
    unfold forW
    rw [if_pos (by simpa using hl r (.head _)), e1]
    exact h2

structure OrdOk (paths : List Pa) (o : List Pa) (i : Nat) : Prop where
  sub : ∀ a ∈ o, a ∈ paths
  len : o.length ≤ i
theorem next_sub {paths o : List Pa} : ∀ a ∈ nextN paths o, a ∈ paths := fun a ha => filt_sub a (filt_sub a ha)
theorem next_len {paths o : List Pa} : (nextN paths o).length ≤ paths.length := Nat.le_trans filt_len filt_len
theorem longer_ok {paths : List Pa} {os : List (List Pa)} {i : Nat} (h : ∀ o ∈ os, OrdOk paths o i) : ∀ o ∈ longerN paths os, OrdOk paths o (i + 1) := fun o ho => by
  obtain ⟨o', h1, h2⟩ := List.mem_flatMap.mp ho
  obtain ⟨p, h3, rfl⟩ := List.mem_map.mp h2
  refine ⟨fun a ha => (List.mem_append.mp ha).elim ((h o' h1).sub a) fun q => by rw [List.mem_singleton.mp q]; exact next_sub p h3, ?_⟩
  rw [List.length_append]; have := (h o' h1).len; simp; omega
theorem longer_len {paths : List Pa} : ∀ {os : List (List Pa)}, (longerN paths os).length ≤ paths.length * os.length
  | [] => Nat.zero_le _
  | o :: os => by
    have h1 := longer_len (paths := paths) (os := os)
    have h2 : longerN paths (o :: os) = ((nextN paths o).map fun p => o ++ [p]) ++ longerN paths os := rfl
    have h3 := next_len (paths := paths) (o := o)
    rw [h2, List.length_append, List.length_map, List.length_cons, Nat.mul_add]
    omega
theorem longer_take {paths : List Pa} {os : List (List Pa)} {j : Nat} {o : List Pa} (h : os[j]? = some o) : longerN paths (os.take (j + 1)) = longerN paths (os.take j) ++ (nextN paths o).map fun p => o ++ [p] := by
  rw [List.take_add_one, h]
  show (os.take j ++ [o]).flatMap _ = _
  rw [List.flatMap_append]
  simp [longerN]

theorem dirs_rows {r : Ev} {c : Sc} {inner : Names → Option (List D)} {σ : Names} : ∀ l : List Pa, (∀ a ∈ l, inner (putAll ["one"] [pD a] σ) = some [pD a.dropLast]) → rowsW r c [] inner ["one"] σ ((l.map pD).map fun d => [d]) = some ((l.map List.dropLast).map pD)
  | [], _ => rfl
  | d :: l, h => by
    simp only [List.map_cons, rowsW, testsW, Option.bind_some, if_true, h d (.head _), dirs_rows l fun d hd => h d (.tail _ hd), Option.map_some]
    rfl

noncomputable def osN (paths : List Pa) : Nat → List (List Pa)
  | 0 => [[]]
  | i + 1 => longerN paths (osN paths i)
theorem orders_eq (paths : List Pa) : ordersN paths = osN paths paths.length := by
  unfold ordersN
  have : ∀ (l : List Pa) (i : Nat), l.foldl (fun os _ => longerN paths os) (osN paths i) = osN paths (i + l.length) := fun l => by
    induction l with
    | nil => intro i; rfl
    | cons a l ih =>
      intro i
      show l.foldl _ (osN paths (i + 1)) = _
      rw [ih]
      congr 1
      simp; omega
  have h := this paths 0
  rw [Nat.zero_add] at h
  exact h
theorem os_ok {paths : List Pa} : ∀ i, ∀ o ∈ osN paths i, OrdOk paths o i
  | 0 => fun o ho => by rw [List.mem_singleton.mp ho]; exact ⟨(fun a ha => nomatch ha), Nat.le_refl _⟩
  | i + 1 => longer_ok (os_ok i)
theorem os_len {paths : List Pa} (hp : paths.length = 5) : ∀ i, (osN paths i).length ≤ 5 ^ i
  | 0 => Nat.le_refl _
  | i + 1 => by
    have h1 := longer_len (paths := paths) (os := osN paths i)
    have h2 := os_len hp i
    rw [hp] at h1
    show (longerN paths (osN paths i)).length ≤ _
    have e : 5 ^ (i + 1) = 5 * 5 ^ i := by rw [Nat.pow_succ, Nat.mul_comm]
    omega
theorem exI_own {T : Tab} {n : Nat} {c : Sc} {σ : Names} {ω : Own} {it tgt : Expr} {xs : List Str} {rows : List (List D)} {σ1 : Names} {ω1 : Own} (h1 : reveal (ω.filter fun x => ment fuelM x.1 it) ++ σ = σ1) (h2 : (ω.filter fun x => !ment fuelM x.1 it) = ω1)
    (h : iterW (ev T n) c σ1 it tgt = some (xs, rows)) : exI T n c σ ω it tgt = some ((xs, rows), σ1, ω1) := by
  unfold exI shown unshown
  rw [h1, h2, h]; rfl
theorem filt_lookup {σ : Names} {x y : Str} {d : D} (hxy : (x == y) = false) (h : σ.lookup x = some d) : (σ.filter fun e => !(e.1 == y)).lookup x = some d := by
  rw [lookup_filter (p := fun n => !(n == y))]
  rw [hxy]
  exact h

noncomputable def orOut (P : Params) : Stmt := stmtAt (bodyAt (hd.heap_1 P) 242) 1
noncomputable def orIn (P : Params) : Stmt := stmtAt (forBody (orOut P)) 1
theorem order_loop (P : Params) {paths : List Pa} (hp : paths.length = 5) (hg : AllGood paths) {j : Nat} (hj5 : j ≤ 4) {σ1 : Names} (hP4 : σ1.lookup ("paths" : Str) = some (pL paths)) :
    NextI (fun σ ω => σ.lookup ("paths" : Str) = some (pL paths) ∧ ω = [(("longer" : Str), true, oL (longerN paths (osN paths j)))]) (forW (exS tab7 12 (scA P 242) 36 (forBody (orIn P))) (exS tab7 12 (scA P 242) 36 (forElse (orIn P))) ["order"] ((oL (osN paths j)).map fun d => [d]) σ1 [("longer", true, [])]) := by
  have hb : orIn P = orIn P := rfl
  conv at hb => rhs; whnf
  rw [hb]
  clear hb
  have hdig : AllDig paths := fun a ha => (hg a ha).dig
  have hlen5 : ∀ i, i ≤ 4 → (osN paths i).length ≤ 625 := fun i hi => Nat.le_trans (os_len hp i) (Nat.pow_le_pow_right (by decide) hi)
  have hE : ∀ i o, (osN paths j)[i]? = some o → OrdOk paths o j := fun i o h => os_ok j o (List.mem_of_getElem? h)
  have hL := hlen5 j hj5
  refine next_mono (loop_gen (fun i σ ω => σ.lookup ("paths" : Str) = some (pL paths) ∧ ω = [(("longer" : Str), true, oL (longerN paths ((osN paths j).take i)))]) (fun σ ω => rfl) ((oL (osN paths j)).map fun d => [d]) 0 σ1 [("longer", true, [])] (fun r hr => by obtain ⟨d, _, rfl⟩ := List.mem_map.mp hr; rfl) ⟨hP4, rfl⟩ ?_) fun σ' ω' hI => ?_
  · intro i r σ ω hi hI
    obtain ⟨o, ho, rfl⟩ : ∃ o, (osN paths j)[i]? = some o ∧ r = [pL o] := by
      rw [List.getElem?_map, List.getElem?_map] at hi
      cases e : (osN paths j)[i]? with
      | none => rw [e] at hi; cases hi
      | some d => rw [e] at hi; cases hi; exact ⟨d, rfl, rfl⟩
    rw [Nat.zero_add] at hI ⊢
    obtain ⟨q1, rfl⟩ := hI
    have oo := hE i o ho
    have od : AllDig o := fun a ha => hdig a (oo.sub a ha)
    have q2 : ((("order" : Str), pL o) :: σ).lookup ("paths" : Str) = some (pL paths) := q1
    refine t_set (d := pL (filtN paths o)) (by kernel_rfl) rfl (exE_of (by kernel_rfl) (call_fn1 (F := filterD) (ds := [pL paths, pL o]) (by kernel_rfl) (by kernel_rfl) (evsW_cons rfl (by exact e_name (by kernel_rfl) q2) (evsW_cons rfl (by kernel_rfl) rfl)) (filter_pL' hdig od (by rw [hp]; unfold room; omega)))) rfl ?_
    have q3 : ((("left" : Str), pL (filtN paths o)) :: (("order" : Str), pL o) :: σ).lookup ("paths" : Str) = some (pL paths) := q1
    have hF : (filtN paths o).length ≤ 5 := by have := filt_len (l := paths) (m := o); omega
    have hfd : AllDig (filtN paths o) := fun a ha => hdig a (filt_sub a ha)
    have hdd : AllDig ((filtN paths o).map List.dropLast) := fun a ha x hx => by
      obtain ⟨a', h1, rfl⟩ := List.mem_map.mp ha
      exact hfd a' h1 x (List.dropLast_subset _ hx)
    refine t_for (xs := ["path"]) (rows := ((nextN paths o).map pD).map fun d => [d]) (by kernel_rfl) (exI_of (by kernel_rfl) (iter_plain (d := pL (nextN paths o)) (by kernel_rfl) (by kernel_rfl) (call_fn1 (F := filterD) (ds := [pL (filtN paths o), pL ((filtN paths o).map List.dropLast)]) (by kernel_rfl) (by kernel_rfl) (evsW_cons rfl (by kernel_rfl) (evsW_cons rfl
      (ev_comp (xs := ["one"]) (rows := ((filtN paths o).map pD).map fun d => [d]) (by kernel_rfl) (by kernel_rfl) (iter_plain (d := pL (filtN paths o)) (by kernel_rfl) (by kernel_rfl) (by kernel_rfl) (by rfl)) (by kernel_rfl)
        (dirs_rows _ fun a ha => inner1 (call_fn1 (F := dirF) (ds := [pD a]) (by kernel_rfl) (by kernel_rfl) (by kernel_rfl) (dir_pD (hg a (filt_sub a ha)).ne (hg a (filt_sub a ha)).len))) (by rw [List.length_map, List.length_map]; unfold room; omega)) rfl)) (filter_pL' hfd hdd (by unfold room; omega))) (by rfl))) (by kernel_rfl) ?_
    have q4 : ((("left" : Str), pL (filtN paths o)) :: (("order" : Str), pL o) :: σ).lookup ("order" : Str) = some (pL o) := by kernel_rfl
    have hN : (nextN paths o).length ≤ 5 := by have := next_len (paths := paths) (o := o); omega
    refine then_I (loop_gen (fun n σ ω => σ.lookup ("paths" : Str) = some (pL paths) ∧ σ.lookup ("order" : Str) = some (pL o) ∧ ω = [(("longer" : Str), true, oL (longerN paths ((osN paths j).take i) ++ ((nextN paths o).take n).map fun p => o ++ [p]))]) (fun σ ω => rfl) (((nextN paths o).map pD).map fun d => [d]) 0 _ [("longer", true, oL (longerN paths ((osN paths j).take i)))] (fun r hr => by obtain ⟨d, _, rfl⟩ := List.mem_map.mp hr; rfl) ⟨q3, q4, by simp⟩ ?_) fun σ' ω' hI => ?_
    · intro n r σ ω hn hI
      obtain ⟨a, ha, rfl⟩ : ∃ a, (nextN paths o)[n]? = some a ∧ r = [pD a] := by
        rw [List.getElem?_map, List.getElem?_map] at hn
        cases e : (nextN paths o)[n]? with
        | none => rw [e] at hn; cases hn
        | some d => rw [e] at hn; cases hn; exact ⟨d, rfl, rfl⟩
      rw [Nat.zero_add] at hI ⊢
      obtain ⟨u1, u2, rfl⟩ := hI
      have u3 : ((("path" : Str), pD a) :: σ).lookup ("order" : Str) = some (pL o) := u2
      have hlong : (longerN paths ((osN paths j).take i)).length ≤ 3125 := by
        have h1 := longer_len (paths := paths) (os := (osN paths j).take i)
        have h2 : ((osN paths j).take i).length ≤ (osN paths j).length := by rw [List.length_take]; omega
        rw [hp] at h1
        omega
      refine t_append (d := pL (o ++ [a])) (ds := oL (longerN paths ((osN paths j).take i) ++ ((nextN paths o).take n).map fun p => o ++ [p])) (ω' := []) (by kernel_rfl) (by kernel_rfl) (exE_of (by kernel_rfl) (e_bin (a := pL o) (b := .list [pD a]) (by exact e_name (by kernel_rfl) u3) (by kernel_rfl) ?_)) (by kernel_rfl) ?_ (by kernel_rfl) ?_
      · show (if (o.map pD).length + [pD a].length ≤ room then some (D.list (o.map pD ++ [pD a])) else none) = _
        have e : o.map pD ++ [pD a] = (o ++ [a]).map pD := by simp
        rw [if_pos (by rw [List.length_map]; have := oo.len; unfold room; simp; omega), e]
      · rw [List.length_map, List.length_append, List.length_map, List.length_take]
        unfold room
        omega
      · have e1 : oL (longerN paths ((osN paths j).take i) ++ ((nextN paths o).take n).map fun p => o ++ [p]) ++ [pL (o ++ [a])] = oL (longerN paths ((osN paths j).take i) ++ ((nextN paths o).take (n + 1)).map fun p => o ++ [p]) := by
          rw [List.take_add_one, ha]
          show List.map pL _ ++ _ = List.map pL _
          simp
        rw [e1]
        exact t_nil ⟨_, _, rfl, u1, u2, rfl⟩
    · obtain ⟨u1, u2, rfl⟩ := hI
      refine t_nil ⟨_, _, rfl, u1, ?_⟩
      rw [longer_take ho, Nat.zero_add]
      have e2 : (nextN paths o).take (((nextN paths o).map pD).map fun d => [d]).length = nextN paths o := by
        rw [List.length_map, List.length_map]; exact List.take_length
      rw [e2]
  · obtain ⟨q1, rfl⟩ := hI
    have e3 : (osN paths j).take (0 + ((oL (osN paths j)).map fun d => [d]).length) = osN paths j := by
      rw [Nat.zero_add, List.length_map, List.length_map]; exact List.take_length
    rw [e3]
    exact ⟨q1, rfl⟩
theorem orders_def (P : Params) (paths : List Pa) (hp : paths.length = 5) (hg : AllGood paths) : Gives (.list (oL (ordersN paths))) (runFar P tab7 242 ["paths"] [pL paths]) := by
  have hdig : AllDig paths := fun a ha => (hg a ha).dig
  unfold runFar
  have hbd : bodyAt (hd.heap_1 P) 242 = bodyAt (hd.heap_1 P) 242 := rfl
  conv at hbd => rhs; whnf
  rw [hbd]
  clear hbd
  refine t_list (ds := [.list []]) (σ' := [("paths", pL paths)]) (ω' := []) (by kernel_rfl) (by kernel_rfl) (by kernel_rfl) (by kernel_rfl) ?_
  refine t_for (xs := ["place"]) (rows := (paths.map pD).map fun d => [d]) (by kernel_rfl) (exI_of (by kernel_rfl) (iter_plain (d := pL paths) (by kernel_rfl) (by kernel_rfl) (by kernel_rfl) (by rfl))) (by kernel_rfl) ?_
  refine then_I (I := fun σ ω => σ.lookup ("paths" : Str) = some (pL paths) ∧ ω = [] ∧ σ.lookup ("orders" : Str) = some (.list (oL (osN paths 5)))) ?_ ?_
  · have hrl : ((paths.map pD).map fun d => [d]).length = 5 := by simp [hp]
    refine next_mono (loop_gen (fun i σ ω => σ.lookup ("paths" : Str) = some (pL paths) ∧ ((ω = [(("orders" : Str), true, oL (osN paths 0))] ∧ i = 0) ∨ (ω = [] ∧ σ.lookup ("orders" : Str) = some (.list (oL (osN paths i)))))) (fun σ ω => rfl) ((paths.map pD).map fun d => [d]) 0 [("paths", pL paths)] [("orders", true, [D.list []])] (fun r hr => by obtain ⟨d, _, rfl⟩ := List.mem_map.mp hr; rfl) ⟨rfl, .inl ⟨rfl, rfl⟩⟩ ?_) fun σ' ω' hI => ?_
    rotate_left
    · obtain ⟨h1, h2⟩ := hI
      rw [Nat.zero_add, hrl] at h2
      rcases h2 with ⟨_, h2⟩ | h2
      · cases h2
      · exact ⟨h1, h2⟩
    · intro j r σ ω hj hI
      obtain ⟨d, hdj, rfl⟩ : ∃ d, (paths.map pD)[j]? = some d ∧ r = [d] := by
        rw [List.getElem?_map] at hj
        cases e : (paths.map pD)[j]? with
        | none => rw [e] at hj; cases hj
        | some d => rw [e] at hj; cases hj; exact ⟨d, rfl, rfl⟩
      have hj5 : j ≤ 4 := by
        have := (List.getElem?_eq_some_iff.mp hdj).1
        simp [hp] at this; omega
      rw [Nat.zero_add] at hI ⊢
      obtain ⟨hP, hω⟩ := hI
      have hP2 : ((("place" : Str), d) :: σ).lookup ("paths" : Str) = some (pL paths) := hP
      have hP3 := filt_lookup (x := "paths") (y := "longer") (by decide +kernel) hP2
      rcases hω with ⟨rfl, hj0⟩ | ⟨rfl, hord⟩
      case' inl =>
        refine t_list (ds := []) (σ' := ((("place" : Str), d) :: σ).filter fun e => !(e.1 == ("longer" : Str))) (ω' := [("orders", true, oL (osN paths 0))]) (by kernel_rfl) (by kernel_rfl) rfl (by kernel_rfl) ?_
        generalize ((("place" : Str), d) :: σ).filter (fun e => !(e.1 == ("longer" : Str))) = σ0 at hP3
        refine t_for (xs := ["order"]) (rows := (oL (osN paths 0)).map fun d => [d]) (by kernel_rfl) (exI_own (σ1 := ("orders", .list (oL (osN paths 0))) :: σ0) (ω1 := [("longer", true, [])]) (by kernel_rfl) (by kernel_rfl) (iter_plain (d := .list (oL (osN paths 0))) (by kernel_rfl) (by kernel_rfl) (by kernel_rfl) (by rfl))) (by kernel_rfl) ?_
        have hP4 : ((("orders" : Str), D.list (oL (osN paths 0))) :: σ0).lookup ("paths" : Str) = some (pL paths) := hP3
        generalize (("orders" : Str), D.list (oL (osN paths 0))) :: σ0 = σ1 at hP4
        have h0 : osN paths 0 = osN paths j := by rw [hj0]
        rw [h0]
      case' inr =>
        have hord2 : ((("place" : Str), d) :: σ).lookup ("orders" : Str) = some (.list (oL (osN paths j))) := hord
        have hord3 := filt_lookup (x := "orders") (y := "longer") (by decide +kernel) hord2
        refine t_list (ds := []) (σ' := ((("place" : Str), d) :: σ).filter fun e => !(e.1 == ("longer" : Str))) (ω' := []) (by kernel_rfl) (by kernel_rfl) rfl (by kernel_rfl) ?_
        generalize ((("place" : Str), d) :: σ).filter (fun e => !(e.1 == ("longer" : Str))) = σ1 at hP3 hord3
        refine t_for (xs := ["order"]) (rows := (oL (osN paths j)).map fun d => [d]) (by kernel_rfl) (exI_of (by kernel_rfl) (iter_plain (d := .list (oL (osN paths j))) (by kernel_rfl) (by kernel_rfl) (e_name (by kernel_rfl) hord3) (by rfl))) (by kernel_rfl) ?_
        have hP4 := hP3
      all_goals
        refine then_I (order_loop P hp hg hj5 hP4) fun σ' ω' hI => ?_
        obtain ⟨q1, rfl⟩ := hI
        refine t_set (d := .list (oL (osN paths (j + 1)))) (by kernel_rfl) rfl (exE_own (d := .list (oL (osN paths (j + 1)))) (by kernel_rfl) (by kernel_rfl) rfl (by kernel_rfl)) rfl ?_
        exact t_nil ⟨_, _, rfl, q1, .inr ⟨rfl, rfl⟩⟩
  · intro σ ω hI
    obtain ⟨h1, rfl, h2⟩ := hI
    refine t_ret (d := .list (oL (ordersN paths))) (exE_of rfl ?_) rfl
    rw [orders_eq, hp]
    exact e_name (by kernel_rfl) h2
end Mine
end
section
set_option maxRecDepth 100000
set_option maxHeartbeats 0
namespace Mine

noncomputable def asArg : D → Option (List Int)
  | .arg s => some s
  | _ => none
theorem asArg_eq {d : D} : Ret (asArg d) fun i => d = .arg i := by cases d <;> first | exact .some rfl | exact .none
noncomputable def cellsF : Fn := fn1 fun d => (asArg d).bind fun s => if s.length ≤ 63 then some (.list ((cellsS s).map .int)) else none
noncomputable def pathsF : Fn := fn1 fun d => (asList d).bind fun l => (asInts l).bind fun l => if l.length = 5 then some (pL (pathsN l)) else none
noncomputable def fileF : Fn := fn1 fun d => (asInt d).map fun m => .str (fileS m)
noncomputable def rankF : Fn := fn1 fun d => (asInt d).bind fun m => if 0 ≤ m ∧ m < 65536 then some (.list ((rankS m).map .int)) else none
noncomputable def CommonOk (a b : Str) : Prop := Txt.startswith a "/" = true ∧ Txt.startswith b "/" = true ∧ a.length < room ∧ b.length < room ∧ isLong (Txt.split a "/") ∧ isLong (Txt.split b "/")
open Classical in
noncomputable def commonF : Fn := fn1 fun d => (asList d).bind fun l => (asStrs l).bind fun l => (two? l).bind fun q => if CommonOk q.1 q.2 then some (.str (commonS q.1 q.2)) else none
open Classical in
noncomputable def ordersF : Fn := fun ds => if h : ∃ ps : List Pa, ps.length = 5 ∧ AllGood ps ∧ ds = [pL ps] then some (.list (oL (ordersN h.choose))) else none
noncomputable def sizesD : D → Option (List Nat)
  | .rng a b c => if a = 1 ∧ b = 6 ∧ c = 1 then some [1, 2, 3, 4, 5] else none
  | .list l => (asInts l).bind fun l => if (l.all fun n => decide (0 ≤ n)) = true ∧ l.length ≤ 5 then some (l.map Int.toNat) else none
  | _ => none
noncomputable def prodF : Fn := fn2 fun d e => (asInt d).bind fun q => (sizesD e).bind fun l => if 0 ≤ q ∧ q ≤ 24 ∧ (l.all fun n => decide (n ≤ 5)) = true then some (.int (prodS q 1 l)) else none
theorem prodF_of {q : Int} {d : D} {ns : List Nat} (h : sizesD d = some ns) (h0 : 0 ≤ q) (h1 : q ≤ 24) (hn : ∀ n ∈ ns, n ≤ 5) : prodF [.int q, d] = some (.int (prodS q 1 ns)) := by
  have e : prodF [.int q, d] = (sizesD d).bind fun l => if 0 ≤ q ∧ q ≤ 24 ∧ (l.all fun n => decide (n ≤ 5)) = true then some (.int (prodS q 1 l)) else none := by kernel_rfl
  rw [e, h]
  exact if_pos ⟨h0, h1, List.all_eq_true.mpr fun n h => decide_eq_true (hn n h)⟩
theorem prodF_rng {q : Int} (h0 : 0 ≤ q) (h1 : q ≤ 24) : prodF [.int q, .rng 1 6 1] = some (.int (prodS q 1 [1, 2, 3, 4, 5])) := prodF_of (by kernel_rfl) h0 h1 (by decide)
theorem prodF_list {q : Int} {ns : List Nat} (h0 : 0 ≤ q) (h1 : q ≤ 24) (hl : ns.length ≤ 5) (hn : ∀ n ∈ ns, n ≤ 5) : prodF [.int q, .list (ns.map fun n => .int (n : Nat))] = some (.int (prodS q 1 ns)) := prodF_of (by
    have e1 : (ns.map fun n => D.int (n : Nat)) = (ns.map fun n : Nat => (n : Int)).map D.int := by rw [List.map_map]; rfl
    have e2 : (ns.map fun n : Nat => (n : Int)).map Int.toNat = ns := by rw [List.map_map]; exact List.map_id' _
    have e3 : ((ns.map fun n : Nat => (n : Int)).all fun n => decide (0 ≤ n)) = true := List.all_eq_true.mpr fun n hn => by
      obtain ⟨m, _, rfl⟩ := List.mem_map.mp hn
      exact decide_eq_true (Int.natCast_nonneg m)
    rw [e1, sizesD, asInts_map, Option.bind_some, e2]
    exact if_pos ⟨e3, by rw [List.length_map]; exact hl⟩) h0 h1 hn
noncomputable def strL (l : List Str) (i : Nat) : Str := l.getD i Str.empty
noncomputable def fallsF : Fn := fn1 fun d => (asList d).bind fun l => (asStrs l).bind fun l => if l.length = 5 then some (.int (fallsS (strL l 0) (strL l 1) (strL l 2) (strL l 3) (strL l 4))) else none
noncomputable def pairsF : Fn := fn1 fun d => (asList d).bind fun l => (asStrs l).bind fun l => if l.length = 5 then some (.int (pairsS l)) else none
noncomputable def tab8 : Tab := { fn := [("_law_cells", cellsF), ("_law_paths", pathsF), ("filemode", fileF), ("_law_rank", rankF), ("commonpath", commonF), ("_law_orders", ordersF), ("_law_product", prodF), ("_law_falls", fallsF), ("_law_pairs", pairsF), ("len", lenD), ("sum", sumD), ("range", rangeD)], mt := [], con := [] }

theorem pL_inj : ∀ {a b : List Pa}, AllDig a → AllDig b → pL a = pL b → a = b := fun {a b} ha hb h => by
  have h : a.map pD = b.map pD := by injection h
  induction a generalizing b with
  | nil => cases b with
    | nil => rfl
    | cons y b => cases h
  | cons x a ih => cases b with
    | nil => cases h
    | cons y b =>
      simp only [List.map_cons, List.cons.injEq] at h
      have h1 : pth x = pth y := by injection h.1
      rw [pth_inj' (ha x (.head _)) (hb y (.head _)) h1, ih (fun z hz => ha z (.tail _ hz)) (fun z hz => hb z (.tail _ hz)) (congrArg D.list h.2) h.2]
theorem ordersF_eq {ps : List Pa} (h5 : ps.length = 5) (hg : AllGood ps) : ordersF [pL ps] = some (.list (oL (ordersN ps))) := by
  unfold ordersF
  have h : ∃ qs : List Pa, qs.length = 5 ∧ AllGood qs ∧ [pL ps] = [pL qs] := ⟨ps, h5, hg, rfl⟩
  rw [dif_pos h]
  have hc := h.choose_spec
  have : ps = h.choose := pL_inj (fun a ha => (hg a ha).dig) (fun a ha => (hc.2.1 a ha).dig) (by simpa using hc.2.2)
  rw [← this]
theorem split_long {a : Pa} (ha : Good a) : isLong (Txt.split (pth a) "/") := by
  rw [split_pth ha.ne]
  refine ⟨by have := ha.len; simp; omega, fun c hc => ?_⟩
  rcases List.mem_cons.mp hc with rfl | hc
  · show 0 ≤ 100; omega
  · obtain ⟨d, _, rfl⟩ := List.mem_map.mp hc
    rw [len_cps, nm_cps]; have := (code_pos d).2; omega
open Classical in
theorem common_pD {a b : Pa} (ha : Good a) (hb : Good b) : commonF [.list [pD a, pD b]] = some (pD (lcpN a b)) := by
  show (if CommonOk (pth a) (pth b) then some (D.str (commonS (pth a) (pth b))) else none) = _
  have h1 := pth_len ha.len
  have h2 := pth_len hb.len
  rw [if_pos ⟨starts_pth a, starts_pth b, by unfold room; omega, by unfold room; omega, split_long ha, split_long hb⟩, common_pth ha.ne hb.ne ha.dig hb.dig]

noncomputable def modeN (x : Int) : Int := (x.fdiv 120).fmod 65536
theorem mode_ok (x : Int) : 0 ≤ modeN x ∧ modeN x < 65536 := ⟨Int.fmod_nonneg_of_pos _ (by decide), Int.fmod_lt_of_pos _ (by decide)⟩
noncomputable def rowN (m : Int) (p : Pa) : Str := fileS m ++ pth p
noncomputable def rkD (m : Int) (p : Pa) : D := .list ((rankS m).map .int ++ [pD p])
noncomputable def hookN (ps : List Pa) (p : Pa) : Nat := (ps.filter fun one => lcpN one p == p).length
theorem lcp_dig : ∀ {a b : Pa}, (∀ x ∈ a, x < 5) → ∀ x ∈ lcpN a b, x < 5
  | [], _, _ => fun x hx => nomatch hx
  | _ :: _, [], _ => fun x hx => nomatch hx
  | a :: as, b :: bs, h => by
    unfold lcpN
    split
    · intro x hx
      rcases List.mem_cons.mp hx with rfl | hx
      · exact h _ (.head _)
      · exact lcp_dig (fun y hy => h y (.tail _ hy)) x hx
    · intro x hx; cases hx


theorem dictc_core {T : Tab} {n : Nat} {c : Sc} {σ : Names} {kx vx gt gi : Expr} {scope : Scope} {xs : List Str} {rows : List (List D)} {prs : List (Str × Str)} (hc : (compSc c scope).isSome = true) (hf : foldOk gi = true) (hi : iterW (ev T n) c σ gi gt = some (xs, rows))
    (hx : (xs.all (storable (inSc c scope)) && xs.all (fun n => !(freeOf scope).contains n)) = true) (hp : pairsW (fun σ => ev T n (inSc c scope) σ kx) (fun σ => ev T n (inSc c scope) σ vx) xs (without xs (freeNames scope σ)) rows = some prs) (hnd : (prs.map (·.1)).Nodup) (hl : prs.length ≤ room) : dictcW T n c σ kx vx gt gi scope = some prs := by
  have hcl := clause_core hc hf hi hx
  unfold dictcW
  rw [hcl, Option.bind_some, hp, Option.bind_some]
  exact if_pos (by rw [decide_eq_true hnd, decide_eq_true hl]; rfl)
theorem pairsW_of {rk rv : Names → Option D} {xs : List Str} {σ : Names} : ∀ (l : List (List D × Str × Str)), (∀ e ∈ l, rk (putAll xs e.1 σ) = some (.str e.2.1) ∧ rv (putAll xs e.1 σ) = some (.str e.2.2)) → pairsW rk rv xs σ (l.map (·.1)) = some (l.map (·.2))
  | [], _ => rfl
  | e :: l, h => by
    have h0 := h e (.head _)
    rw [List.map_cons]
    unfold pairsW
    rw [h0.1, h0.2, pairsW_of l fun e he => h e (.tail _ he)]
    rfl
theorem rowsW_of {r : Ev} {c : Sc} {inner : Names → Option (List D)} {xs : List Str} {σ : Names} : ∀ (l : List (List D × D)), (∀ e ∈ l, inner (putAll xs e.1 σ) = some [e.2]) → rowsW r c [] inner xs σ (l.map (·.1)) = some (l.map (·.2))
  | [], _ => rfl
  | e :: l, h => by
    simp only [List.map_cons, rowsW, testsW, Option.bind_some, if_true, h e (.head _), rowsW_of l fun d hd => h d (.tail _ hd), Option.map_some]
    rfl
theorem rank_len (m : Int) : (rankS m).length = 10 := rfl
noncomputable def rkGt (m : Int) (p : Pa) (m' : Int) (p' : Pa) : Bool := (cmpD .Gt (rkD m p) (rkD m' p')).getD false
theorem lex_some (a b : Str) : ∀ (l l' : List Int), l.length = l'.length → ∃ z, lexL .Gt (l.map D.int ++ [.str a]) (l'.map D.int ++ [.str b]) = some z
  | [], [], _ => by
    show ∃ z, (if (D.str a).eqv (.str b) = true then lexEnd .Gt 0 0 else cmp1 .Gt (.str a) (.str b)) = some z
    split
    · exact ⟨_, rfl⟩
    · exact ⟨_, rfl⟩
  | [], _ :: _, h => by cases h
  | _ :: _, [], h => by cases h
  | x :: l, y :: l', h => by
    show ∃ z, (if (D.int x).eqv (.int y) = true then lexL .Gt (l.map D.int ++ [.str a]) (l'.map D.int ++ [.str b]) else cmp1 .Gt (.int x) (.int y)) = some z
    split
    · exact lex_some a b l l' (by simpa using h)
    · exact ⟨_, rfl⟩
theorem ok_rk (m : Int) (p : Pa) : D.ok deep (rkD m p) = true := by
  show ((rankS m).map D.int ++ [pD p]).all (D.ok 3) = true
  rw [List.all_eq_true]
  intro d hd
  rcases List.mem_append.mp hd with q | q
  · obtain ⟨s, _, rfl⟩ := List.mem_map.mp q
    rfl
  · rw [List.mem_singleton.mp q]; rfl
theorem rk_some (m : Int) (p : Pa) (m' : Int) (p' : Pa) : cmpD .Gt (rkD m p) (rkD m' p') = some (rkGt m p m' p') := by
  have h : ∃ z, cmpD .Gt (rkD m p) (rkD m' p') = some z := by
    obtain ⟨z, hz⟩ := lex_some (pth p) (pth p') (rankS m) (rankS m') (by rw [rank_len, rank_len])
    refine ⟨z, ?_⟩
    show (if (D.ok deep (rkD m p) && D.ok deep (rkD m' p')) = true then lexL .Gt _ _ else none) = _
    rw [ok_rk, ok_rk]
    exact hz
  obtain ⟨z, hz⟩ := h
  unfold rkGt
  rw [hz]; rfl

theorem os_len5 {paths : List Pa} : ∀ i, ∀ o ∈ osN paths i, o.length = i
  | 0 => fun o ho => by rw [List.mem_singleton.mp ho]; rfl
  | i + 1 => fun o ho => by
    obtain ⟨o', h1, h2⟩ := List.mem_flatMap.mp ho
    obtain ⟨p, h3, rfl⟩ := List.mem_map.mp h2
    rw [List.length_append, os_len5 i o' h1]; rfl
theorem len2 {α : Type} {l : List α} (h : l.length = 2) : ∃ a b, l = [a, b] := by
  obtain ⟨a, l, rfl⟩ := List.exists_cons_of_length_eq_add_one h
  obtain ⟨b, rfl⟩ := List.length_eq_one_iff.mp (Nat.succ.inj h)
  exact ⟨a, b, rfl⟩
theorem five {α : Type} {l : List α} (h : l.length = 5) : ∃ a b c d e, l = [a, b, c, d, e] := by
  obtain ⟨a, l, rfl⟩ := List.exists_cons_of_length_eq_add_one h
  obtain ⟨b, l, rfl⟩ := List.exists_cons_of_length_eq_add_one (Nat.succ.inj h)
  obtain ⟨c, l, rfl⟩ := List.exists_cons_of_length_eq_add_one (Nat.succ.inj (Nat.succ.inj h))
  obtain ⟨d, e, rfl⟩ := len2 (Nat.succ.inj (Nat.succ.inj (Nat.succ.inj h)))
  exact ⟨a, b, c, d, e, rfl⟩
theorem falls_range (a b c d e : Str) : 0 ≤ fallsS a b c d e ∧ fallsS a b c d e ≤ 10 := by
  unfold fallsS
  constructor <;> (split <;> split <;> split <;> split <;> omega)
theorem pairs_range (o : List Str) : 0 ≤ pairsS o ∧ pairsS o ≤ 10 := by
  unfold pairsS
  have h1 := pairs_len o
  have h2 : ∀ z ∈ (List.range 5).flatMap (pairJ o), z = 1 := fun z hz => by
    obtain ⟨j, _, h⟩ := List.mem_flatMap.mp hz
    unfold pairJ at h
    obtain ⟨i, _, h⟩ := List.mem_flatMap.mp h
    split at h
    · simpa using h
    · cases h
  have h3 : ∀ l : List Int, (∀ z ∈ l, z = 1) → l.sum = l.length := fun l => by
    induction l with
    | nil => intro _; rfl
    | cons a l ih =>
      intro h
      rw [List.sum_cons, ih fun z hz => h z (.tail _ hz), h a (.head _)]
      simp; omega
  rw [h3 _ h2]
  omega
theorem sum_ints (l : List Int) : sumD [.list (l.map .int)] = some (.int l.sum) := by
  exact sumD_eq l
theorem powD_ok {q : Int} (h0 : 0 ≤ q) (h1 : q ≤ 24) {n : Int} (hn : 0 ≤ n) (hn2 : n ≤ 65536) : binD .Pow (.int q) (.int n) = some (.int (q ^ n.toNat)) :=
  if_pos ⟨h0, by unfold small; rw [decide_eq_true_eq]; omega, hn, hn2⟩
end Mine
end
section
set_option maxRecDepth 100000
set_option maxHeartbeats 0
namespace Mine
noncomputable def rkAt (ms : List (Int × Pa)) (i : Nat) : D := rkD (ms.getD i (0, [])).1 (ms.getD i (0, [])).2
noncomputable def gtAt (ms : List (Int × Pa)) (i j : Nat) : Bool := rkGt (ms.getD i (0, [])).1 (ms.getD i (0, [])).2 (ms.getD j (0, [])).1 (ms.getD j (0, [])).2
theorem gtAt_eq (ms : List (Int × Pa)) (i j : Nat) : cmpD .Gt (rkAt ms i) (rkAt ms j) = some (gtAt ms i j) := rk_some _ _ _ _
theorem rkAt_item' (ms : List (Int × Pa)) (z : Int) (h0 : 0 ≤ z) (h : z < ms.length) (hl : ms.length ≤ 65536) : itemD (.list (ms.map fun e => rkD e.1 e.2)) (.int z) = some (rkAt ms z.toNat) := by
  have hz : z.toNat < ms.length := by omega
  refine item_at h0 (by omega) ?_
  unfold rkAt
  rw [List.getElem?_map, List.getD_eq_getElem?_getD, List.getElem?_eq_getElem hz]
  rfl
theorem rkAt_item (ms : List (Int × Pa)) (i : Nat) (h : i < ms.length) (hi : ms.length ≤ 65536) : itemD (.list (ms.map fun e => rkD e.1 e.2)) (.int i) = some (rkAt ms i) := rkAt_item' ms i (Int.natCast_nonneg i) (by omega) hi
noncomputable def rowOf' (ms : List (Int × Pa)) (p : Pa) : Str := ((ms.find? fun e => e.2 == p).map fun e => rowN e.1 e.2).getD Str.empty
theorem row_item : ∀ (ms : List (Int × Pa)) (p : Pa), (∀ e ∈ ms, ∀ x ∈ e.2, x < 5) → (∀ x ∈ p, x < 5) → p ∈ ms.map (·.2) → itemD (.sdct (ms.map fun e => (pth e.2, rowN e.1 e.2))) (pD p) = some (.str (rowOf' ms p))
  | [], p, _, _, h => by cases h
  | e :: ms, p, h1, h2, h3 => by
    show (dget ((pth e.2, rowN e.1 e.2) :: ms.map fun e => (pth e.2, rowN e.1 e.2)) (pth p)).map D.str = _
    unfold dget rowOf'
    rw [List.find?_cons, List.find?_cons]
    by_cases h : e.2 = p
    · have e1 : decide (pth e.2 = pth p) = true := by rw [h]; simp
      have e2 : (e.2 == p) = true := by rw [h]; simp
      rw [e1, e2]; rfl
    · have e1 : decide (pth e.2 = pth p) = false := by
        rw [decide_eq_false_iff_not]; exact fun q => h (pth_inj' (h1 e (.head _)) h2 q)
      have e2 : (e.2 == p) = false := by simpa using h
      rw [e1, e2]
      have h3' : p ∈ ms.map (·.2) := by
        rw [List.map_cons] at h3
        rcases List.mem_cons.mp h3 with q | q
        · exact absurd q.symm h
        · exact q
      exact row_item ms p (fun e he => h1 e (.tail _ he)) h2 h3'
theorem hook_le (ps : List Pa) (p : Pa) : hookN ps p ≤ ps.length := List.length_filter_le _ _
noncomputable def fallN (x : List Int) (ps : List Pa) (ms : List (Int × Pa)) : List (Nat × Bool) := [1, 2, 3, 4].map fun k => (hookN ps (ps.getD k []), gtAt ms k ((x.getD k 0).fmod k).toNat)
noncomputable def fallSum (l : List (Nat × Bool)) : Nat := ((l.filter (·.2)).map (·.1)).sum
theorem sum_cast : ∀ l : List Nat, (l.map fun n : Nat => (n : Int)).sum = ((l.sum : Nat) : Int)
  | [] => rfl
  | a :: l => by rw [List.map_cons, List.sum_cons, List.sum_cons, sum_cast l]; simp
theorem sumD_nat (l : List Nat) : sumD [.list (l.map fun n => D.int (n : Nat))] = some (.int (l.sum : Nat)) := by
  have e : (l.map fun n => D.int (n : Nat)) = (l.map fun n : Nat => (n : Int)).map D.int := by rw [List.map_map]; rfl
  rw [e, sumD_eq, sum_cast]

noncomputable def fallsO (ms : List (Int × Pa)) (o : List Pa) : Nat := (fallsS (rowOf' ms (o.getD 0 [])) (rowOf' ms (o.getD 1 [])) (rowOf' ms (o.getD 2 [])) (rowOf' ms (o.getD 3 [])) (rowOf' ms (o.getD 4 []))).toNat
noncomputable def pairsO (o : List Pa) : Nat := (pairsS [pth (o.getD 0 []), pth (o.getD 1 []), pth (o.getD 2 []), pth (o.getD 3 []), pth (o.getD 4 [])]).toNat
noncomputable def byRows (q : Int) (ms : List (Int × Pa)) (os : List (List Pa)) : Int := (os.map fun o => q ^ fallsO ms o).sum
noncomputable def byPaths (q : Int) (os : List (List Pa)) : Int := (os.map fun o => q ^ pairsO o).sum
noncomputable def hooksN (ps : List Pa) : List Nat := ps.map (hookN ps)

theorem fallSum_le : ∀ (l : List (Nat × Bool)), (∀ e ∈ l, e.1 ≤ 5) → fallSum l ≤ 5 * l.length
  | [], _ => Nat.le_refl _
  | (n, z) :: l, h => by
    have ih := fallSum_le l fun e he => h e (.tail _ he)
    have h0 := h (n, z) (.head _)
    unfold fallSum at ih ⊢
    rw [List.filter_cons]
    cases z
    · rw [if_neg (fun h => nomatch h), List.length_cons]; omega
    · rw [if_pos rfl, List.map_cons, List.sum_cons, List.length_cons]
      dsimp only at h0 ⊢
      omega
theorem sum_le5 : ∀ (l : List Nat), (∀ e ∈ l, e ≤ 5) → l.sum ≤ 5 * l.length
  | [], _ => Nat.le_refl _
  | n :: l, h => by
    have ih := sum_le5 l fun e he => h e (.tail _ he)
    have h0 := h n (.head _)
    rw [List.sum_cons, List.length_cons]
    omega
theorem law_def (P : Params) (script : List Int) (hl : script.length ≤ 63) (x0 x1 x2 x3 x4 : Int) (hx : cellsS script = [x0, x1, x2, x3, x4]) (p0 p1 p2 p3 p4 : Pa) (hps : pathsN [x0, x1, x2, x3, x4] = [p0, p1, p2, p3, p4])
    (hg : AllGood [p0, p1, p2, p3, p4]) (hnd : [p0, p1, p2, p3, p4].Nodup) (hfl : ∀ m, (fileS m).length ≤ 1000)
    (H1 : prodS (1 + x0.fmod 24) 1 (hooksN [p0, p1, p2, p3, p4]) * byRows (1 + x0.fmod 24) [(modeN x0, p0), (modeN x1, p1), (modeN x2, p2), (modeN x3, p3), (modeN x4, p4)] (ordersN [p0, p1, p2, p3, p4]) = (1 + x0.fmod 24) ^ fallSum (fallN [x0, x1, x2, x3, x4] [p0, p1, p2, p3, p4] [(modeN x0, p0), (modeN x1, p1), (modeN x2, p2), (modeN x3, p3), (modeN x4, p4)]) * prodS (1 + x0.fmod 24) 1 [1, 2, 3, 4, 5])
    (H2 : prodS (1 + x0.fmod 24) 1 (hooksN [p0, p1, p2, p3, p4]) * byPaths (1 + x0.fmod 24) (ordersN [p0, p1, p2, p3, p4]) = (1 + x0.fmod 24) ^ ((hooksN [p0, p1, p2, p3, p4]).sum - 5) * prodS (1 + x0.fmod 24) 1 [1, 2, 3, 4, 5])
    (HE : small (prodS (1 + x0.fmod 24) 1 (hooksN [p0, p1, p2, p3, p4])) = true) (HS : 5 ≤ (hooksN [p0, p1, p2, p3, p4]).sum) (HW : small (prodS (1 + x0.fmod 24) 1 [1, 2, 3, 4, 5]) = true) :
    Gives (.bool true) (runFar P tab8 262 ["script"] [.arg script]) := by
  unfold runFar
  have hbd : bodyAt (hd.heap_1 P) 262 = bodyAt (hd.heap_1 P) 262 := rfl
  conv at hbd => rhs; whnf
  rw [hbd]
  clear hbd
  refine t_set (d := .list [.int x0, .int x1, .int x2, .int x3, .int x4]) (by kernel_rfl) rfl (exE_of rfl (call_fn1 (F := cellsF) (ds := [.arg script]) (by kernel_rfl) (by kernel_rfl) (by kernel_rfl) ((if_pos hl).trans (by rw [hx]; rfl)))) rfl ?_
  refine t_set (d := pL [p0, p1, p2, p3, p4]) (by kernel_rfl) rfl (exE_of rfl (call_fn1 (F := pathsF) (ds := [.list [.int x0, .int x1, .int x2, .int x3, .int x4]]) (by kernel_rfl) (by kernel_rfl) (by kernel_rfl) (congrArg (fun l => some (pL l)) hps))) rfl ?_
  refine t_comp (ds := [.int (modeN x0), .int (modeN x1), .int (modeN x2), .int (modeN x3), .int (modeN x4)]) (by kernel_rfl) (exC_of (by kernel_rfl) (by kernel_rfl)) rfl ?_
  have hm5 : ∀ x ∈ [x0, x1, x2, x3, x4], 0 ≤ modeN x ∧ modeN x < 65536 := fun x _ => mode_ok x
  have g0 := hg p0 (by simp)
  have g1 := hg p1 (by simp)
  have g2 := hg p2 (by simp)
  have g3 := hg p3 (by simp)
  have g4 := hg p4 (by simp)
  refine t_dict (prs := [(pth p0, rowN (modeN x0) p0), (pth p1, rowN (modeN x1) p1), (pth p2, rowN (modeN x2) p2), (pth p3, rowN (modeN x3) p3), (pth p4, rowN (modeN x4) p4)]) (by kernel_rfl) (dictc_core (xs := ["path", "mode"]) (rows := [[pD p0, .int (modeN x0)], [pD p1, .int (modeN x1)], [pD p2, .int (modeN x2)], [pD p3, .int (modeN x3)], [pD p4, .int (modeN x4)]]) (by kernel_rfl) (by kernel_rfl) (by kernel_rfl) (by kernel_rfl)
    (pairsW_of [([pD p0, .int (modeN x0)], pth p0, rowN (modeN x0) p0), ([pD p1, .int (modeN x1)], pth p1, rowN (modeN x1) p1), ([pD p2, .int (modeN x2)], pth p2, rowN (modeN x2) p2), ([pD p3, .int (modeN x3)], pth p3, rowN (modeN x3) p3), ([pD p4, .int (modeN x4)], pth p4, rowN (modeN x4) p4)] fun e he => ?_) ?_ (by show (5 : Nat) ≤ room; decide)) ?_
  · have hb : ∀ (m : Int) (p : Pa), Good p → binD .Add (.str (fileS m)) (pD p) = some (.str (rowN m p)) := fun m p hp => by
      have h1 := pth_len hp.len
      have h2 := hfl m
      exact if_pos (by unfold room; omega)
    simp only [List.mem_cons, List.not_mem_nil, or_false] at he
    rcases he with rfl | rfl | rfl | rfl | rfl
    · exact ⟨by kernel_rfl, e_bin (a := .str (fileS (modeN x0))) (b := pD p0) (by kernel_rfl) (by kernel_rfl) (hb _ _ g0)⟩
    · exact ⟨by kernel_rfl, e_bin (a := .str (fileS (modeN x1))) (b := pD p1) (by kernel_rfl) (by kernel_rfl) (hb _ _ g1)⟩
    · exact ⟨by kernel_rfl, e_bin (a := .str (fileS (modeN x2))) (b := pD p2) (by kernel_rfl) (by kernel_rfl) (hb _ _ g2)⟩
    · exact ⟨by kernel_rfl, e_bin (a := .str (fileS (modeN x3))) (b := pD p3) (by kernel_rfl) (by kernel_rfl) (hb _ _ g3)⟩
    · exact ⟨by kernel_rfl, e_bin (a := .str (fileS (modeN x4))) (b := pD p4) (by kernel_rfl) (by kernel_rfl) (hb _ _ g4)⟩
  · show ([p0, p1, p2, p3, p4].map pth).Nodup
    refine List.Pairwise.map _ (fun a b h => h) (List.Pairwise.imp_of_mem (fun {a b} ha hb (h : a ≠ b) q => h (pth_inj' (hg a ha).dig (hg b hb).dig q)) hnd)
  refine t_comp (ds := [rkD (modeN x0) p0, rkD (modeN x1) p1, rkD (modeN x2) p2, rkD (modeN x3) p3, rkD (modeN x4) p4]) (by kernel_rfl) (exC_of (by kernel_rfl) (comp_core (xs := ["path", "mode"]) (rows := [[pD p0, .int (modeN x0)], [pD p1, .int (modeN x1)], [pD p2, .int (modeN x2)], [pD p3, .int (modeN x3)], [pD p4, .int (modeN x4)]]) (by kernel_rfl) (by kernel_rfl) (by kernel_rfl) (by kernel_rfl)
    (rowsW_of [([pD p0, .int (modeN x0)], rkD (modeN x0) p0), ([pD p1, .int (modeN x1)], rkD (modeN x1) p1), ([pD p2, .int (modeN x2)], rkD (modeN x2) p2), ([pD p3, .int (modeN x3)], rkD (modeN x3) p3), ([pD p4, .int (modeN x4)], rkD (modeN x4) p4)] fun e he => ?_) (by show (5 : Nat) ≤ room; decide))) rfl ?_
  · have hb : ∀ (m : Int) (p : Pa), binD .Add (.list ((rankS m).map .int)) (.list [pD p]) = some (rkD m p) := fun m p => by
      show (if ((rankS m).map D.int).length + [pD p].length ≤ room then some (D.list ((rankS m).map D.int ++ [pD p])) else none) = _
      rw [if_pos (by rw [List.length_map, rank_len]; show (11 : Nat) ≤ room; decide)]; rfl
    simp only [List.mem_cons, List.not_mem_nil, or_false] at he
    rcases he with rfl | rfl | rfl | rfl | rfl
    · exact inner1 (e_bin (a := .list ((rankS (modeN x0)).map .int)) (b := .list [pD p0]) (call_fn1 (F := rankF) (ds := [.int (modeN x0)]) (by kernel_rfl) (by kernel_rfl) (by kernel_rfl) (if_pos (mode_ok x0))) (by kernel_rfl) (hb _ _))
    · exact inner1 (e_bin (a := .list ((rankS (modeN x1)).map .int)) (b := .list [pD p1]) (call_fn1 (F := rankF) (ds := [.int (modeN x1)]) (by kernel_rfl) (by kernel_rfl) (by kernel_rfl) (if_pos (mode_ok x1))) (by kernel_rfl) (hb _ _))
    · exact inner1 (e_bin (a := .list ((rankS (modeN x2)).map .int)) (b := .list [pD p2]) (call_fn1 (F := rankF) (ds := [.int (modeN x2)]) (by kernel_rfl) (by kernel_rfl) (by kernel_rfl) (if_pos (mode_ok x2))) (by kernel_rfl) (hb _ _))
    · exact inner1 (e_bin (a := .list ((rankS (modeN x3)).map .int)) (b := .list [pD p3]) (call_fn1 (F := rankF) (ds := [.int (modeN x3)]) (by kernel_rfl) (by kernel_rfl) (by kernel_rfl) (if_pos (mode_ok x3))) (by kernel_rfl) (hb _ _))
    · exact inner1 (e_bin (a := .list ((rankS (modeN x4)).map .int)) (b := .list [pD p4]) (call_fn1 (F := rankF) (ds := [.int (modeN x4)]) (by kernel_rfl) (by kernel_rfl) (by kernel_rfl) (if_pos (mode_ok x4))) (by kernel_rfl) (hb _ _))
  have hps0 : [p0, p1, p2, p3, p4] = [p0, p1, p2, p3, p4] := rfl
  generalize hms : [(modeN x0, p0), (modeN x1, p1), (modeN x2, p2), (modeN x3, p3), (modeN x4, p4)] = ms
  have hdig : ∀ e ∈ ms, ∀ x ∈ e.2, x < 5 := by
    rw [← hms]
    intro e he
    simp only [List.mem_cons, List.not_mem_nil, or_false] at he
    rcases he with rfl | rfl | rfl | rfl | rfl
    · exact g0.dig
    · exact g1.dig
    · exact g2.dig
    · exact g3.dig
    · exact g4.dig
  refine t_comp (ds := [.int (hookN [p0, p1, p2, p3, p4] p0 : Nat), .int (hookN [p0, p1, p2, p3, p4] p1 : Nat), .int (hookN [p0, p1, p2, p3, p4] p2 : Nat), .int (hookN [p0, p1, p2, p3, p4] p3 : Nat), .int (hookN [p0, p1, p2, p3, p4] p4 : Nat)]) (by kernel_rfl) (exC_of (by kernel_rfl) (comp_core (xs := ["path"]) (rows := [[pD p0], [pD p1], [pD p2], [pD p3], [pD p4]]) (by kernel_rfl) (by kernel_rfl) (by kernel_rfl) (by kernel_rfl)
    (rowsW_of ([p0, p1, p2, p3, p4].map fun p => ([pD p], D.int (hookN [p0, p1, p2, p3, p4] p : Nat))) fun e he => ?_) (by show (5 : Nat) ≤ room; decide))) rfl ?_
  · obtain ⟨p, hp, rfl⟩ := List.mem_map.mp he
    have gp := hg p hp
    refine inner1 (call_fn1 (F := lenD) (ds := [pL ([p0, p1, p2, p3, p4].filter fun one => lcpN one p == p)]) (by kernel_rfl) (by kernel_rfl) (evsW_cons rfl
      (ev_comp (xs := ["one"]) (rows := [[pD p0], [pD p1], [pD p2], [pD p3], [pD p4]]) (by kernel_rfl) (by kernel_rfl) (by kernel_rfl) (by kernel_rfl) ((rowsW_pick ([p0, p1, p2, p3, p4].map fun one => ([pD one], pD one, lcpN one p == p)) fun e he => ?_).trans (congrArg some ?_)) ?_) rfl) ?_)
    · obtain ⟨one, ho, rfl⟩ := List.mem_map.mp he
      have go := hg one ho
      refine ⟨tests1 (tv_cmp' (a := pD (lcpN one p)) (b := pD p) rfl (call_fn1 (F := commonF) (ds := [.list [pD one, pD p]]) (by kernel_rfl) (by kernel_rfl) (by kernel_rfl) (common_pD go gp)) (by kernel_rfl) ?_), inner1 (by kernel_rfl)⟩
      show some (pth (lcpN one p) == pth p) = some (lcpN one p == p)
      congr 1
      rw [Bool.eq_iff_iff, beq_iff_eq, beq_iff_eq]
      exact ⟨fun h => pth_inj' (lcp_dig go.dig) gp.dig h, fun h => by rw [h]⟩
    · rw [List.filter_map, List.map_map]
      rfl
    · rw [List.length_map]
      exact Nat.le_trans (List.length_filter_le _ _) (by show (5 : Nat) ≤ room; decide)
    · refine if_pos ?_ |>.trans ?_
      · rw [List.length_map]
        exact Nat.le_trans (List.length_filter_le _ _) (by show (5 : Nat) ≤ room; decide)
      · rw [List.length_map]; rfl
  have hml : ms.length = 5 := by rw [← hms]; rfl
  refine t_set (d := .int (fallSum (fallN [x0, x1, x2, x3, x4] [p0, p1, p2, p3, p4] ms) : Nat)) (by kernel_rfl) rfl (exE_of (by kernel_rfl) (call_fn1 (F := sumD) (ds := [.list ((((fallN [x0, x1, x2, x3, x4] [p0, p1, p2, p3, p4] ms).filter (·.2)).map (·.1)).map fun n => D.int (n : Nat))]) (by kernel_rfl) (by kernel_rfl) (evsW_cons rfl
      (ev_comp (xs := ["k"]) (rows := [[.int (1 : Nat)], [.int (2 : Nat)], [.int (3 : Nat)], [.int (4 : Nat)]]) (by kernel_rfl) (by kernel_rfl) (by kernel_rfl) (by kernel_rfl)
        ((rowsW_pick ([1, 2, 3, 4].map fun k : Nat => ([D.int (k : Nat)], D.int (hookN [p0, p1, p2, p3, p4] ([p0, p1, p2, p3, p4].getD k []) : Nat), gtAt ms k (([x0, x1, x2, x3, x4].getD k 0).fmod k).toNat)) fun e he => ?_).trans (congrArg some ?_)) ?_) rfl) (sumD_nat _))) rfl ?_
  · obtain ⟨k, hk, rfl⟩ := List.mem_map.mp he
    simp only [List.mem_cons, List.not_mem_nil, or_false] at hk
    rcases hk with rfl | rfl | rfl | rfl
    · have z0 : 0 ≤ x1.fmod 1 := Int.fmod_nonneg_of_pos _ (by decide)
      have z1 : x1.fmod 1 < 1 := Int.fmod_lt_of_pos _ (by decide)
      refine ⟨tests1 (tv_cmp' (a := rkAt ms 1) (b := rkAt ms (x1.fmod 1).toNat) rfl (e_item (d := .list (ms.map fun e => rkD e.1 e.2)) (j := .int (1 : Nat)) rfl (by rw [← hms]; kernel_rfl) (by kernel_rfl) (rkAt_item ms 1 (by rw [hml]; decide) (by rw [hml]; decide)))
        (e_item (d := .list (ms.map fun e => rkD e.1 e.2)) (j := .int (x1.fmod 1)) rfl (by rw [← hms]; kernel_rfl) (e_bin (a := .int x1) (b := .int 1) (by kernel_rfl) (by kernel_rfl) (by kernel_rfl)) (rkAt_item' ms _ z0 (by rw [hml]; omega) (by rw [hml]; decide))) (gtAt_eq ms _ _)), inner1 (by kernel_rfl)⟩
    · have z0 : 0 ≤ x2.fmod 2 := Int.fmod_nonneg_of_pos _ (by decide)
      have z1 : x2.fmod 2 < 2 := Int.fmod_lt_of_pos _ (by decide)
      refine ⟨tests1 (tv_cmp' (a := rkAt ms 2) (b := rkAt ms (x2.fmod 2).toNat) rfl (e_item (d := .list (ms.map fun e => rkD e.1 e.2)) (j := .int (2 : Nat)) rfl (by rw [← hms]; kernel_rfl) (by kernel_rfl) (rkAt_item ms 2 (by rw [hml]; decide) (by rw [hml]; decide)))
        (e_item (d := .list (ms.map fun e => rkD e.1 e.2)) (j := .int (x2.fmod 2)) rfl (by rw [← hms]; kernel_rfl) (e_bin (a := .int x2) (b := .int 2) (by kernel_rfl) (by kernel_rfl) (by kernel_rfl)) (rkAt_item' ms _ z0 (by rw [hml]; omega) (by rw [hml]; decide))) (gtAt_eq ms _ _)), inner1 (by kernel_rfl)⟩
    · have z0 : 0 ≤ x3.fmod 3 := Int.fmod_nonneg_of_pos _ (by decide)
      have z1 : x3.fmod 3 < 3 := Int.fmod_lt_of_pos _ (by decide)
      refine ⟨tests1 (tv_cmp' (a := rkAt ms 3) (b := rkAt ms (x3.fmod 3).toNat) rfl (e_item (d := .list (ms.map fun e => rkD e.1 e.2)) (j := .int (3 : Nat)) rfl (by rw [← hms]; kernel_rfl) (by kernel_rfl) (rkAt_item ms 3 (by rw [hml]; decide) (by rw [hml]; decide)))
        (e_item (d := .list (ms.map fun e => rkD e.1 e.2)) (j := .int (x3.fmod 3)) rfl (by rw [← hms]; kernel_rfl) (e_bin (a := .int x3) (b := .int 3) (by kernel_rfl) (by kernel_rfl) (by kernel_rfl)) (rkAt_item' ms _ z0 (by rw [hml]; omega) (by rw [hml]; decide))) (gtAt_eq ms _ _)), inner1 (by kernel_rfl)⟩
    · have z0 : 0 ≤ x4.fmod 4 := Int.fmod_nonneg_of_pos _ (by decide)
      have z1 : x4.fmod 4 < 4 := Int.fmod_lt_of_pos _ (by decide)
      refine ⟨tests1 (tv_cmp' (a := rkAt ms 4) (b := rkAt ms (x4.fmod 4).toNat) rfl (e_item (d := .list (ms.map fun e => rkD e.1 e.2)) (j := .int (4 : Nat)) rfl (by rw [← hms]; kernel_rfl) (by kernel_rfl) (rkAt_item ms 4 (by rw [hml]; decide) (by rw [hml]; decide)))
        (e_item (d := .list (ms.map fun e => rkD e.1 e.2)) (j := .int (x4.fmod 4)) rfl (by rw [← hms]; kernel_rfl) (e_bin (a := .int x4) (b := .int 4) (by kernel_rfl) (by kernel_rfl) (by kernel_rfl)) (rkAt_item' ms _ z0 (by rw [hml]; omega) (by rw [hml]; decide))) (gtAt_eq ms _ _)), inner1 (by kernel_rfl)⟩
  · unfold fallN
    rw [List.filter_map, List.filter_map, List.map_map, List.map_map, List.map_map]
    rfl
  · rw [List.length_map, List.length_map]
    exact Nat.le_trans (List.length_filter_le _ _) (by show (4 : Nat) ≤ room; decide)
  refine t_set (d := .int (1 + x0.fmod 24)) (by kernel_rfl) rfl (exE_of (by kernel_rfl) (by kernel_rfl)) rfl ?_
  have hq0 : 0 ≤ 1 + x0.fmod 24 := by have : 0 ≤ x0.fmod 24 := Int.fmod_nonneg_of_pos _ (by decide); omega
  have hq1 : 1 + x0.fmod 24 ≤ 24 := by have : x0.fmod 24 < 24 := Int.fmod_lt_of_pos _ (by decide); omega
  rw [hms] at H1
  generalize 1 + x0.fmod 24 = q at H1 H2 HE HW hq0 hq1
  refine t_set (d := .list (oL (ordersN [p0, p1, p2, p3, p4]))) (by kernel_rfl) rfl (exE_of (by kernel_rfl) (call_fn1 (F := ordersF) (ds := [pL [p0, p1, p2, p3, p4]]) (by kernel_rfl) (by kernel_rfl) (by kernel_rfl) (ordersF_eq rfl hg))) rfl ?_
  refine t_set (d := .int (prodS q 1 [1, 2, 3, 4, 5])) (by kernel_rfl) rfl (exE_of (by kernel_rfl) (call_fn1 (F := prodF) (ds := [.int q, .rng 1 6 1]) (by kernel_rfl) (by kernel_rfl) (by kernel_rfl) (prodF_rng hq0 hq1))) rfl ?_
  refine t_set (d := .int (prodS q 1 (hooksN [p0, p1, p2, p3, p4]))) (by kernel_rfl) rfl (exE_of (by kernel_rfl) (call_fn1 (F := prodF) (ds := [.int q, .list [.int (hookN [p0, p1, p2, p3, p4] p0 : Nat), .int (hookN [p0, p1, p2, p3, p4] p1 : Nat), .int (hookN [p0, p1, p2, p3, p4] p2 : Nat), .int (hookN [p0, p1, p2, p3, p4] p3 : Nat), .int (hookN [p0, p1, p2, p3, p4] p4 : Nat)]]) (by kernel_rfl) (by kernel_rfl) (by kernel_rfl) (prodF_list (ns := hooksN [p0, p1, p2, p3, p4]) hq0 hq1 (Nat.le_refl 5) fun n hn => by obtain ⟨p, _, rfl⟩ := List.mem_map.mp hn; exact hook_le [p0, p1, p2, p3, p4] p))) rfl ?_
  have hos : ∀ o ∈ ordersN [p0, p1, p2, p3, p4], o.length = 5 ∧ ∀ a ∈ o, a ∈ [p0, p1, p2, p3, p4] := fun o ho => by
    rw [orders_eq] at ho
    exact ⟨os_len5 5 o ho, (os_ok 5 o ho).sub⟩
  have hol : (ordersN [p0, p1, p2, p3, p4]).length ≤ 3125 := by
    rw [orders_eq]; exact os_len (paths := [p0, p1, p2, p3, p4]) rfl 5
  generalize ordersN [p0, p1, p2, p3, p4] = os at hos hol H1 H2
  have hmem : ∀ a ∈ [p0, p1, p2, p3, p4], a ∈ ms.map (·.2) := by rw [← hms]; exact fun a h => h
  refine t_set (d := .int (byRows q ms os)) (by kernel_rfl) rfl (exE_of (by kernel_rfl) (call_fn1 (F := sumD) (ds := [.list ((os.map fun o => q ^ fallsO ms o).map .int)]) (by kernel_rfl) (by kernel_rfl) (evsW_cons rfl
      (ev_comp (xs := ["order"]) (rows := (oL os).map fun d => [d]) (by kernel_rfl) (by kernel_rfl) (iter_plain (d := .list (oL os)) (by kernel_rfl) (by kernel_rfl) (by kernel_rfl) (by rfl)) (by kernel_rfl)
        (((congrArg _ ?_).trans (rowsW_of (os.map fun o => ([pL o], D.int (q ^ fallsO ms o))) fun e he => ?_)).trans (congrArg some ?_)) ?_) rfl) (sum_ints _))) rfl ?_
  · rw [List.map_map, List.map_map]; rfl
  · obtain ⟨o, ho, rfl⟩ := List.mem_map.mp he
    obtain ⟨h5, hsub⟩ := hos o ho
    obtain ⟨a, b, c, d, e', rfl⟩ := five h5
    have hr := falls_range (rowOf' ms a) (rowOf' ms b) (rowOf' ms c) (rowOf' ms d) (rowOf' ms e')
    refine inner1 (e_bin (a := .int q) (b := .int (fallsS (rowOf' ms a) (rowOf' ms b) (rowOf' ms c) (rowOf' ms d) (rowOf' ms e'))) (by kernel_rfl) (call_fn1 (F := fallsF) (ds := [.list [.str (rowOf' ms a), .str (rowOf' ms b), .str (rowOf' ms c), .str (rowOf' ms d), .str (rowOf' ms e')]]) (by kernel_rfl) (by kernel_rfl) (evsW_cons rfl
      (ev_comp (xs := ["path"]) (rows := [[pD a], [pD b], [pD c], [pD d], [pD e']]) (by kernel_rfl) (by kernel_rfl) (by kernel_rfl) (by kernel_rfl) (rowsW_of ([a, b, c, d, e'].map fun p => ([pD p], D.str (rowOf' ms p))) fun u hu => ?_) (by show (5 : Nat) ≤ room; decide)) rfl) rfl) (powD_ok hq0 hq1 hr.1 (by omega)))
    obtain ⟨p, hp, rfl⟩ := List.mem_map.mp hu
    have hpm := hsub p hp
    exact inner1 (e_item (d := .sdct (ms.map fun e => (pth e.2, rowN e.1 e.2))) (j := pD p) rfl (by rw [← hms]; kernel_rfl) (by kernel_rfl) (row_item ms p hdig (hg p hpm).dig (hmem p hpm)))
  · rw [List.map_map, List.map_map]; rfl
  · rw [List.length_map]; unfold room
    rw [List.length_map]; omega
  refine t_set (d := .int (byPaths q os)) (by kernel_rfl) rfl (exE_of (by kernel_rfl) (call_fn1 (F := sumD) (ds := [.list ((os.map fun o => q ^ pairsO o).map .int)]) (by kernel_rfl) (by kernel_rfl) (evsW_cons rfl
      (ev_comp (xs := ["order"]) (rows := (oL os).map fun d => [d]) (by kernel_rfl) (by kernel_rfl) (iter_plain (d := .list (oL os)) (by kernel_rfl) (by kernel_rfl) (by kernel_rfl) (by rfl)) (by kernel_rfl)
        (((congrArg _ ?_).trans (rowsW_of (os.map fun o => ([pL o], D.int (q ^ pairsO o))) fun e he => ?_)).trans (congrArg some ?_)) ?_) rfl) (sum_ints _))) rfl ?_
  · rw [List.map_map, List.map_map]; rfl
  · obtain ⟨o, ho, rfl⟩ := List.mem_map.mp he
    obtain ⟨h5, hsub⟩ := hos o ho
    obtain ⟨a, b, c, d, e', rfl⟩ := five h5
    have hr := pairs_range [pth a, pth b, pth c, pth d, pth e']
    exact inner1 (e_bin (a := .int q) (b := .int (pairsS [pth a, pth b, pth c, pth d, pth e'])) (by kernel_rfl) (call_fn1 (F := pairsF) (ds := [pL [a, b, c, d, e']]) (by kernel_rfl) (by kernel_rfl) (by kernel_rfl) rfl) (powD_ok hq0 hq1 hr.1 (by omega)))
  · rw [List.map_map, List.map_map]; rfl
  · rw [List.length_map]; unfold room
    rw [List.length_map]; omega
  have hF : fallSum (fallN [x0, x1, x2, x3, x4] [p0, p1, p2, p3, p4] ms) ≤ 65536 := by
    refine Nat.le_trans (fallSum_le _ fun e he => ?_) (by show 5 * 4 ≤ 65536; decide)
    obtain ⟨k, _, rfl⟩ := List.mem_map.mp he
    exact hook_le [p0, p1, p2, p3, p4] _
  generalize fallSum (fallN [x0, x1, x2, x3, x4] [p0, p1, p2, p3, p4] ms) = F at H1 hF
  have hmul : ∀ u v : Int, small u = true → binD .Mult (.int u) (.int v) = some (.int (u * v)) := fun u v hu => by
    show (if (small u || small v) = true then some (D.int (u * v)) else none) = _
    rw [hu]; rfl
  have hmul2 : ∀ u v : Int, small v = true → binD .Mult (.int u) (.int v) = some (.int (u * v)) := fun u v hv => by
    show (if (small u || small v) = true then some (D.int (u * v)) else none) = _
    rw [hv, Bool.or_true]; rfl
  refine t_if (z := false) (exT_of (tv_cmp' (a := .int (prodS q 1 (hooksN [p0, p1, p2, p3, p4]) * byRows q ms os)) (b := .int (q ^ F * prodS q 1 [1, 2, 3, 4, 5])) (by rfl) (e_bin (a := .int (prodS q 1 (hooksN [p0, p1, p2, p3, p4]))) (b := .int (byRows q ms os)) (by kernel_rfl) (by kernel_rfl) (by exact hmul _ _ HE))
    (e_bin (a := .int (q ^ F)) (b := .int (prodS q 1 [1, 2, 3, 4, 5])) (e_bin (a := .int q) (b := .int (F : Nat)) (by kernel_rfl) (by kernel_rfl) (by exact powD_ok hq0 hq1 (by omega) (by omega))) (by kernel_rfl) (by exact hmul2 _ _ HW)) ?_)) (fun h => nomatch h) (fun _ => t_nil (then_next ?_))
  · show some (!(_ == _)) = some false
    rw [H1]; simp
  have hS2 : (hooksN [p0, p1, p2, p3, p4]).sum ≤ 65536 := by
    refine Nat.le_trans (sum_le5 _ fun e he => ?_) (by show 5 * 5 ≤ 65536; decide)
    obtain ⟨k, _, rfl⟩ := List.mem_map.mp he
    exact hook_le [p0, p1, p2, p3, p4] _
  refine t_ret (d := .bool true) (exE_of (by kernel_rfl) (e_cmp (a := .int (prodS q 1 (hooksN [p0, p1, p2, p3, p4]) * byPaths q os)) (b := .int (q ^ ((hooksN [p0, p1, p2, p3, p4]).sum - 5) * prodS q 1 [1, 2, 3, 4, 5])) (by rfl) (e_bin (a := .int (prodS q 1 (hooksN [p0, p1, p2, p3, p4]))) (b := .int (byPaths q os)) (by kernel_rfl) (by kernel_rfl) (by exact hmul _ _ HE))
    (e_bin (a := .int (q ^ ((hooksN [p0, p1, p2, p3, p4]).sum - 5))) (b := .int (prodS q 1 [1, 2, 3, 4, 5])) (e_bin (a := .int q) (b := .int (((hooksN [p0, p1, p2, p3, p4]).sum : Nat) - 5)) (by kernel_rfl) (e_bin (a := .int ((hooksN [p0, p1, p2, p3, p4]).sum : Nat)) (b := .int 5) (call_fn1 (F := sumD) (ds := [.list ((hooksN [p0, p1, p2, p3, p4]).map fun n => D.int (n : Nat))]) (by kernel_rfl) (by kernel_rfl) (by kernel_rfl) (sumD_nat _)) (by kernel_rfl) (by kernel_rfl)) ?_) (by kernel_rfl) (by exact hmul2 _ _ HW)) ?_)) rfl
  · have e1 : (((hooksN [p0, p1, p2, p3, p4]).sum : Nat) : Int) - 5 = (((hooksN [p0, p1, p2, p3, p4]).sum - 5 : Nat) : Int) := by omega
    rw [e1]
    exact powD_ok hq0 hq1 (by omega) (by omega)
  · show some (_ == _) = some true
    rw [H2]; simp
end Mine
end
section
open PySem
set_option maxRecDepth 100000
namespace Mine

noncomputable def prI (sh : List Nat) (i : Nat) : Nat := sh.getD i 0
noncomputable def leftI (o : List Nat) : List Nat := [0, 1, 2, 3, 4].filter fun i => !o.contains i
noncomputable def nextI (sh : List Nat) (o : List Nat) : List Nat := (leftI o).filter fun j => !(leftI o).any fun i => i != 0 && prI sh i == j
noncomputable def longerI (sh : List Nat) (os : List (List Nat)) : List (List Nat) := os.flatMap fun o => (nextI sh o).map fun p => o ++ [p]
noncomputable def ordersI (sh : List Nat) : List (List Nat) := longerI sh (longerI sh (longerI sh (longerI sh (longerI sh [[]]))))
noncomputable def inI (sh : List Nat) : Nat → Nat → Nat → Bool
  | 0, i, k => i == k
  | n + 1, i, k => i == k || (i != 0 && inI sh n (prI sh i) k)
noncomputable def hookI (sh : List Nat) (k : Nat) : Nat := ([0, 1, 2, 3, 4].filter fun i => inI sh 4 i k).length
noncomputable def hooksI (sh : List Nat) : List Nat := [0, 1, 2, 3, 4].map (hookI sh)

structure Tab10 where
  (a b c d e f g h i j : Bool)
noncomputable def Tab10.gt (t : Tab10) : Nat → Nat → Bool
  | 0, 1 => t.a
  | 0, 2 => t.b
  | 0, 3 => t.c
  | 0, 4 => t.d
  | 1, 2 => t.e
  | 1, 3 => t.f
  | 1, 4 => t.g
  | 2, 3 => t.h
  | 2, 4 => t.i
  | 3, 4 => t.j
  | 1, 0 => !t.a
  | 2, 0 => !t.b
  | 3, 0 => !t.c
  | 4, 0 => !t.d
  | 2, 1 => !t.e
  | 3, 1 => !t.f
  | 4, 1 => !t.g
  | 3, 2 => !t.h
  | 4, 2 => !t.i
  | 4, 3 => !t.j
  | _, _ => false
noncomputable def trI (x y z : Bool) : Bool := if x then (if y then z else true) else (if y then true else !z)
noncomputable def Tab10.tr (t : Tab10) : Bool :=
  trI t.a t.e t.b && trI t.a t.f t.c && trI t.a t.g t.d && trI t.b t.h t.c && trI t.b t.i t.d && trI t.c t.j t.d && trI t.e t.h t.f && trI t.e t.i t.g && trI t.f t.j t.g && trI t.h t.j t.i
noncomputable def allB2 (f : Bool → Bool) : Bool := f false && f true
noncomputable def allTab (f : Tab10 → Bool) : Bool := allB2 fun a => allB2 fun b => allB2 fun e => if trI a e b then (allB2 fun c => allB2 fun f' => allB2 fun h => if trI a f' c && trI b h c && trI e h f' then (allB2 fun d => allB2 fun g => allB2 fun i => allB2 fun j => if trI a g d && trI b i d && trI c j d && trI e i g && trI f' j g && trI h j i then f ⟨a, b, c, d, e, f', g, h, i, j⟩ else true) else true) else true
theorem allB2_at {f : Bool → Bool} (h : allB2 f = true) (b : Bool) : f b = true := by
  unfold allB2 at h
  rw [Bool.and_eq_true] at h
  cases b
  · exact h.1
  · exact h.2
theorem allTab_at {f : Tab10 → Bool} (h : allTab f = true) (t : Tab10) (ht : t.tr = true) : f t = true := by
  unfold Tab10.tr at ht
  simp only [Bool.and_eq_true] at ht
  obtain ⟨⟨⟨⟨⟨⟨⟨⟨⟨h1, h2⟩, h3⟩, h4⟩, h5⟩, h6⟩, h7⟩, h8⟩, h9⟩, h10⟩ := ht
  have k1 := allB2_at (allB2_at (allB2_at h t.a) t.b) t.e
  rw [if_pos h1] at k1
  have k2 := allB2_at (allB2_at (allB2_at k1 t.c) t.f) t.h
  rw [if_pos (by simp only [Bool.and_eq_true]; exact ⟨⟨h2, h4⟩, h7⟩)] at k2
  have k3 := allB2_at (allB2_at (allB2_at (allB2_at k2 t.d) t.g) t.i) t.j
  rw [if_pos (by simp only [Bool.and_eq_true]; exact ⟨⟨⟨⟨⟨h3, h5⟩, h6⟩, h8⟩, h9⟩, h10⟩)] at k3
  exact k3

noncomputable def addP : List Nat → List Nat → List Nat
  | [], b => b
  | a, [] => a
  | x :: a, y :: b => (x + y) :: addP a b
noncomputable def scaleP (k : Nat) (a : List Nat) : List Nat := a.map (k * ·)
noncomputable def mulP : List Nat → List Nat → List Nat
  | [], _ => []
  | x :: a, b => addP (scaleP x b) (0 :: mulP a b)
noncomputable def monoP (n : Nat) : List Nat := List.replicate n 0 ++ [1]
noncomputable def onesP (n : Nat) : List Nat := List.replicate n 1
noncomputable def bump : List Nat → Nat → List Nat
  | [], n => monoP n
  | x :: a, 0 => (x + 1) :: a
  | x :: a, n + 1 => x :: bump a n
noncomputable def evP (q : Int) : List Nat → Int
  | [] => 0
  | x :: a => x + q * evP q a
theorem ev_add (q : Int) : ∀ a b, evP q (addP a b) = evP q a + evP q b
  | [], b => by simp [addP, evP]
  | x :: a, [] => by simp [addP, evP]
  | x :: a, y :: b => by
    simp only [addP, evP, ev_add q a b, Int.natCast_add, Int.mul_add]
    omega
theorem ev_scale (q : Int) (k : Nat) : ∀ a, evP q (scaleP k a) = k * evP q a
  | [] => by simp [scaleP, evP]
  | x :: a => by
    have ih := ev_scale q k a
    unfold scaleP at ih ⊢
    simp only [List.map_cons, evP, ih, Int.natCast_mul, Int.mul_add]
    rw [Int.mul_left_comm]
theorem ev_mul (q : Int) : ∀ a b, evP q (mulP a b) = evP q a * evP q b
  | [], b => by simp [mulP, evP]
  | x :: a, b => by
    simp only [mulP, ev_add, ev_scale, evP, ev_mul q a b]
    rw [Int.add_mul, Int.mul_assoc]
    simp
theorem ev_mono (q : Int) : ∀ n, evP q (monoP n) = q ^ n
  | 0 => by simp [monoP, evP]
  | n + 1 => by
    have ih := ev_mono q n
    have e : monoP (n + 1) = 0 :: monoP n := rfl
    rw [e]
    simp only [evP, ih]
    rw [Int.pow_succ, Int.mul_comm]
    simp
theorem ev_bump (q : Int) : ∀ a n, evP q (bump a n) = evP q a + q ^ n
  | [], n => by simp [bump, evP, ev_mono]
  | x :: a, 0 => by simp [bump, evP]; omega
  | x :: a, n + 1 => by
    simp only [bump, evP, ev_bump q a n, Int.mul_add]
    rw [Int.pow_succ, Int.mul_comm (q ^ n) q]
    omega
theorem ev_ones (q : Int) : ∀ n, evP q (onesP n) = ((List.range n).map fun k => q ^ k).sum
  | 0 => rfl
  | n + 1 => by
    have ih := ev_ones q n
    have e : onesP (n + 1) = 1 :: onesP n := rfl
    rw [e, List.range_succ_eq_map, List.map_cons, List.sum_cons, List.map_map]
    simp only [evP, ih]
    have : ∀ l : List Nat, q * (l.map fun k => q ^ k).sum = (l.map ((fun k => q ^ k) ∘ Nat.succ)).sum := fun l => by
      induction l with
      | nil => simp
      | cons a l ih2 =>
        simp only [List.map_cons, List.sum_cons, Int.mul_add, ih2, Function.comp]
        rw [Nat.succ_eq_add_one, Int.pow_succ, Int.mul_comm (q ^ a) q]
    rw [this]
    simp
noncomputable def sumP (es : List Nat) : List Nat := es.foldl bump []
theorem ev_sumP (q : Int) (es : List Nat) : evP q (sumP es) = (es.map fun e => q ^ e).sum := by
  have : ∀ (es : List Nat) (a : List Nat), evP q (es.foldl bump a) = evP q a + (es.map fun e => q ^ e).sum := fun es => by
    induction es with
    | nil => intro a; simp
    | cons e es ih =>
      intro a
      rw [List.foldl_cons, ih, ev_bump, List.map_cons, List.sum_cons]
      omega
  unfold sumP
  rw [this]
  simp [evP]
noncomputable def zeroP : List Nat → Bool
  | [] => true
  | x :: a => x == 0 && zeroP a
noncomputable def beqP : List Nat → List Nat → Bool
  | [], b => zeroP b
  | x :: a, [] => x == 0 && zeroP a
  | x :: a, y :: b => x == y && beqP a b
theorem ev_zero (q : Int) : ∀ a, zeroP a = true → evP q a = 0
  | [], _ => rfl
  | x :: a, h => by
    unfold zeroP at h
    rw [Bool.and_eq_true, beq_iff_eq] at h
    simp only [evP]
    rw [h.1, ev_zero q a h.2]; simp
theorem ev_beq (q : Int) : ∀ a b, beqP a b = true → evP q a = evP q b
  | [], b, h => by
    have h : zeroP b = true := by cases b <;> exact h
    rw [ev_zero q b h]; rfl
  | x :: a, [], h => by
    rw [ev_zero q (x :: a) h]; rfl
  | x :: a, y :: b, h => by
    unfold beqP at h
    rw [Bool.and_eq_true, beq_iff_eq] at h
    simp only [evP]
    rw [h.1, ev_beq q a b h.2]

noncomputable def fallsFrom (gt : Nat → Nat → Bool) (k : Nat) : List Nat → Nat
  | [] => 0
  | a :: l => (l.head?.elim 0 fun b => if gt a b then k else 0) + fallsFrom gt (k + 1) l
noncomputable def fallsI (gt : Nat → Nat → Bool) (o : List Nat) : Nat := fallsFrom gt 1 o
noncomputable def invI (gt : Nat → Nat → Bool) : List Nat → Nat
  | [] => 0
  | a :: l => (l.filter fun b => gt a b).length + invI gt l
noncomputable def fallE (sh : List Nat) (gt : Nat → Nat → Bool) (hs : List Nat) : Nat := ([1, 2, 3, 4].filter fun k => gt k (prI sh k)).foldl (fun s k => s + hs.getD k 0) 0
noncomputable def W5 : List Nat := [1, 4, 9, 15, 20, 22, 20, 15, 9, 4, 1]
noncomputable def chk1 (sh : List Nat) (os : List (List Nat)) (hs : List Nat) (V : List Nat) (t : Tab10) : Bool := beqP (sumP (os.map (fallsI t.gt))) (List.replicate (fallE sh t.gt hs) 0 ++ V)
noncomputable def dfs (sh : List Nat) (t : Tab10) : Bool := ([1, 2, 3, 4].all fun k => t.gt k (prI sh k)) && [1, 2, 3, 4].all fun k => [1, 2, 3, 4].all fun j => inI sh 4 j (prI sh k) || inI sh 4 (prI sh k) j || t.gt k j == t.gt (prI sh k) j
noncomputable def chk2 (sh : List Nat) (os : List (List Nat)) (hs : List Nat) (V : List Nat) (t : Tab10) : Bool := if dfs sh t then beqP (sumP (os.map (invI t.gt))) (List.replicate (hs.sum - 5) 0 ++ V) else true
noncomputable def shapes : List (List Nat) := [0, 1].flatMap fun a => [0, 1, 2].flatMap fun b => [0, 1, 2, 3].map fun c => [0, 0, a, b, c]
noncomputable def EI (sh : List Nat) : List Nat := (hooksI sh).foldl (fun p h => mulP p (onesP h)) [1]
end Mine
end
section
open PySem
set_option maxRecDepth 100000
namespace Mine
noncomputable def cert (sh V : List Nat) : Bool := allTab (chk1 sh (ordersI sh) (hooksI sh) V) && allTab (chk2 sh (ordersI sh) (hooksI sh) V) && beqP (mulP (EI sh) V) W5
theorem cert_use {sh V : List Nat} (h : cert sh V = true) (t : Tab10) (ht : t.tr = true) (q : Int) :
    evP q (EI sh) * ((ordersI sh).map fun o => q ^ fallsI t.gt o).sum = q ^ fallE sh t.gt (hooksI sh) * evP q W5 ∧
    (dfs sh t = true → evP q (EI sh) * ((ordersI sh).map fun o => q ^ invI t.gt o).sum = q ^ ((hooksI sh).sum - 5) * evP q W5) := by
  unfold cert at h
  simp only [Bool.and_eq_true] at h
  obtain ⟨⟨h1, h2⟩, h3⟩ := h
  have k1 := allTab_at h1 t ht
  have k2 := allTab_at h2 t ht
  have e3 := ev_beq q _ _ h3
  rw [ev_mul] at e3
  have rep : ∀ n (b : List Nat), evP q (List.replicate n 0 ++ b) = q ^ n * evP q b := fun n b => by
    induction n with
    | zero => simp
    | succ n ih =>
      have e : List.replicate (n + 1) 0 ++ b = 0 :: (List.replicate n 0 ++ b) := rfl
      rw [e]
      simp only [evP, ih]
      rw [Int.pow_succ, Int.mul_comm (q ^ n) q, Int.mul_assoc]
      simp
  constructor
  · unfold chk1 at k1
    have e1 := ev_beq q _ _ k1
    rw [ev_sumP, rep, List.map_map] at e1
    have e1' : ((ordersI sh).map fun o => q ^ fallsI t.gt o).sum = q ^ fallE sh t.gt (hooksI sh) * evP q V := e1
    rw [e1', ← e3, Int.mul_left_comm]
  · intro hd
    unfold chk2 at k2
    rw [if_pos hd] at k2
    have e1 := ev_beq q _ _ k2
    rw [ev_sumP, rep, List.map_map] at e1
    have e1' : ((ordersI sh).map fun o => q ^ invI t.gt o).sum = q ^ ((hooksI sh).sum - 5) * evP q V := e1
    rw [e1', ← e3, Int.mul_left_comm]
theorem certN0 : cert [0, 0, 0, 0, 0] [1, 3, 5, 6, 5, 3, 1] = true := by decide +kernel
theorem certN1 : cert [0, 0, 0, 0, 1] [1, 2, 3, 3, 2, 1] = true := by decide +kernel
theorem certN2 : cert [0, 0, 0, 0, 2] [1, 2, 3, 3, 2, 1] = true := by decide +kernel
theorem certN3 : cert [0, 0, 0, 0, 3] [1, 2, 3, 3, 2, 1] = true := by decide +kernel
theorem certN4 : cert [0, 0, 0, 1, 0] [1, 2, 3, 3, 2, 1] = true := by decide +kernel
theorem certN5 : cert [0, 0, 0, 1, 1] [1, 2, 2, 2, 1] = true := by decide +kernel
theorem certN6 : cert [0, 0, 0, 1, 2] [1, 1, 2, 1, 1] = true := by decide +kernel
theorem certN7 : cert [0, 0, 0, 1, 3] [1, 1, 1, 1] = true := by decide +kernel
theorem certN8 : cert [0, 0, 0, 2, 0] [1, 2, 3, 3, 2, 1] = true := by decide +kernel
theorem certN9 : cert [0, 0, 0, 2, 1] [1, 1, 2, 1, 1] = true := by decide +kernel
theorem certN10 : cert [0, 0, 0, 2, 2] [1, 2, 2, 2, 1] = true := by decide +kernel
theorem certN11 : cert [0, 0, 0, 2, 3] [1, 1, 1, 1] = true := by decide +kernel
theorem certN12 : cert [0, 0, 1, 0, 0] [1, 2, 3, 3, 2, 1] = true := by decide +kernel
theorem certN13 : cert [0, 0, 1, 0, 1] [1, 2, 2, 2, 1] = true := by decide +kernel
theorem certN14 : cert [0, 0, 1, 0, 2] [1, 1, 1, 1] = true := by decide +kernel
theorem certN15 : cert [0, 0, 1, 0, 3] [1, 1, 2, 1, 1] = true := by decide +kernel
theorem certN16 : cert [0, 0, 1, 1, 0] [1, 2, 2, 2, 1] = true := by decide +kernel
theorem certN17 : cert [0, 0, 1, 1, 1] [1, 2, 2, 1] = true := by decide +kernel
theorem certN18 : cert [0, 0, 1, 1, 2] [1, 1, 1] = true := by decide +kernel
theorem certN19 : cert [0, 0, 1, 1, 3] [1, 1, 1] = true := by decide +kernel
theorem certN20 : cert [0, 0, 1, 2, 0] [1, 1, 1, 1] = true := by decide +kernel
theorem certN21 : cert [0, 0, 1, 2, 1] [1, 1, 1] = true := by decide +kernel
theorem certN22 : cert [0, 0, 1, 2, 2] [1, 1] = true := by decide +kernel
theorem certN23 : cert [0, 0, 1, 2, 3] [1] = true := by decide +kernel
theorem shape_cert : ∀ sh ∈ shapes, ∃ V, cert sh V = true := by
  intro sh h
  have e : shapes = [[0, 0, 0, 0, 0], [0, 0, 0, 0, 1], [0, 0, 0, 0, 2], [0, 0, 0, 0, 3], [0, 0, 0, 1, 0], [0, 0, 0, 1, 1], [0, 0, 0, 1, 2], [0, 0, 0, 1, 3], [0, 0, 0, 2, 0], [0, 0, 0, 2, 1], [0, 0, 0, 2, 2], [0, 0, 0, 2, 3], [0, 0, 1, 0, 0], [0, 0, 1, 0, 1], [0, 0, 1, 0, 2], [0, 0, 1, 0, 3], [0, 0, 1, 1, 0], [0, 0, 1, 1, 1], [0, 0, 1, 1, 2], [0, 0, 1, 1, 3], [0, 0, 1, 2, 0], [0, 0, 1, 2, 1], [0, 0, 1, 2, 2], [0, 0, 1, 2, 3]] := by decide +kernel
  rw [e] at h
  simp only [List.mem_cons, List.not_mem_nil, or_false] at h
  rcases h with rfl | rfl | rfl | rfl | rfl | rfl | rfl | rfl | rfl | rfl | rfl | rfl | rfl | rfl | rfl | rfl | rfl | rfl | rfl | rfl | rfl | rfl | rfl | rfl
  · exact ⟨_, certN0⟩
  · exact ⟨_, certN1⟩
  · exact ⟨_, certN2⟩
  · exact ⟨_, certN3⟩
  · exact ⟨_, certN4⟩
  · exact ⟨_, certN5⟩
  · exact ⟨_, certN6⟩
  · exact ⟨_, certN7⟩
  · exact ⟨_, certN8⟩
  · exact ⟨_, certN9⟩
  · exact ⟨_, certN10⟩
  · exact ⟨_, certN11⟩
  · exact ⟨_, certN12⟩
  · exact ⟨_, certN13⟩
  · exact ⟨_, certN14⟩
  · exact ⟨_, certN15⟩
  · exact ⟨_, certN16⟩
  · exact ⟨_, certN17⟩
  · exact ⟨_, certN18⟩
  · exact ⟨_, certN19⟩
  · exact ⟨_, certN20⟩
  · exact ⟨_, certN21⟩
  · exact ⟨_, certN22⟩
  · exact ⟨_, certN23⟩
end Mine
end
section
set_option maxRecDepth 100000
namespace Mine

structure Tree (ps : List Pa) (sh : List Nat) : Prop where
  len : ps.length = 5
  shp : sh ∈ shapes
  root : ∃ d, d < 5 ∧ ps.getD 0 [] = [d]
  step : ∀ k, 1 ≤ k → k ≤ 4 → ∃ d, d < 5 ∧ ps.getD k [] = ps.getD (prI sh k) [] ++ [d]
  nd : ps.Nodup
  good : AllGood ps

theorem mem_shapes : ∀ a < 2, ∀ b < 3, ∀ c < 4, [0, 0, a, b, c] ∈ shapes := by decide
theorem pr_lt : ∀ sh ∈ shapes, ∀ k < 5, 1 ≤ k → prI sh k < k := by decide +kernel

theorem tree_of (x0 x1 x2 x3 x4 : Int) : Tree (pathsN [x0, x1, x2, x3, x4]) [0, 0, (x2.fmod 2).toNat, (x3.fmod 3).toNat, (x4.fmod 4).toNat] := by
  have i0 : Inv [] := ⟨fun a ha => nomatch ha⟩
  obtain ⟨p0, hp0⟩ : ∃ p, p = pickN [] 0 x0 := ⟨_, rfl⟩
  have s0 : stepN [] 0 x0 = [p0] := by rw [hp0]; rfl
  have i1 := inv_step i0 (by show 0 < 5; decide) 0 x0
  rw [s0] at i1
  obtain ⟨_, _, d0, h0, e0, n0⟩ := pick_ok i0 (by show 0 < 5; decide) 0 x0
  rw [← hp0] at e0 n0
  obtain ⟨p1, hp1⟩ : ∃ p, p = pickN [p0] 1 x1 := ⟨_, rfl⟩
  have s1 : stepN [p0] 1 x1 = [p0, p1] := by rw [hp1]; rfl
  have i2 := inv_step i1 (by show 1 < 5; decide) 1 x1
  rw [s1] at i2
  obtain ⟨_, _, d1, h1, e1, n1⟩ := pick_ok i1 (by show 1 < 5; decide) 1 x1
  rw [← hp1] at e1 n1
  obtain ⟨p2, hp2⟩ : ∃ p, p = pickN [p0, p1] 2 x2 := ⟨_, rfl⟩
  have s2 : stepN [p0, p1] 2 x2 = [p0, p1, p2] := by rw [hp2]; rfl
  have i3 := inv_step i2 (by show 2 < 5; decide) 2 x2
  rw [s2] at i3
  obtain ⟨_, _, d2, h2, e2, n2⟩ := pick_ok i2 (by show 2 < 5; decide) 2 x2
  rw [← hp2] at e2 n2
  obtain ⟨p3, hp3⟩ : ∃ p, p = pickN [p0, p1, p2] 3 x3 := ⟨_, rfl⟩
  have s3 : stepN [p0, p1, p2] 3 x3 = [p0, p1, p2, p3] := by rw [hp3]; rfl
  have i4 := inv_step i3 (by show 3 < 5; decide) 3 x3
  rw [s3] at i4
  obtain ⟨_, _, d3, h3, e3, n3⟩ := pick_ok i3 (by show 3 < 5; decide) 3 x3
  rw [← hp3] at e3 n3
  obtain ⟨p4, hp4⟩ : ∃ p, p = pickN [p0, p1, p2, p3] 4 x4 := ⟨_, rfl⟩
  have s4 : stepN [p0, p1, p2, p3] 4 x4 = [p0, p1, p2, p3, p4] := by rw [hp4]; rfl
  have i5 := inv_step i4 (by show 4 < 5; decide) 4 x4
  rw [s4] at i5
  obtain ⟨_, _, d4, h4, e4, n4⟩ := pick_ok i4 (by show 4 < 5; decide) 4 x4
  rw [← hp4] at e4 n4
  have a1 : (x1.fmod 1).toNat = 0 := by
    have q0 : 0 ≤ x1.fmod 1 := Int.fmod_nonneg_of_pos _ (by decide)
    have q1 : x1.fmod 1 < 1 := Int.fmod_lt_of_pos _ (by decide)
    omega
  have a2 : (x2.fmod 2).toNat < 2 := by
    have q0 : 0 ≤ x2.fmod 2 := Int.fmod_nonneg_of_pos _ (by decide)
    have q1 : x2.fmod 2 < 2 := Int.fmod_lt_of_pos _ (by decide)
    omega
  have a3 : (x3.fmod 3).toNat < 3 := by
    have q0 : 0 ≤ x3.fmod 3 := Int.fmod_nonneg_of_pos _ (by decide)
    have q1 : x3.fmod 3 < 3 := Int.fmod_lt_of_pos _ (by decide)
    omega
  have a4 : (x4.fmod 4).toNat < 4 := by
    have q0 : 0 ≤ x4.fmod 4 := Int.fmod_nonneg_of_pos _ (by decide)
    have q1 : x4.fmod 4 < 4 := Int.fmod_lt_of_pos _ (by decide)
    omega
  have hps : pathsN [x0, x1, x2, x3, x4] = [p0, p1, p2, p3, p4] := by
    show stepN (stepN (stepN (stepN (stepN [] 0 x0) 1 x1) 2 x2) 3 x3) 4 x4 = _
    rw [s0, s1, s2, s3, s4]
  rw [hps]
  refine ⟨rfl, mem_shapes _ a2 _ a3 _ a4, ⟨d0, h0, e0⟩, fun k k1 k2 => ?_, ?_, i5.good (by show 5 ≤ 6; decide)⟩
  · have hk : k = 1 ∨ k = 2 ∨ k = 3 ∨ k = 4 := by omega
    rcases hk with rfl | rfl | rfl | rfl
    · refine ⟨d1, h1, ?_⟩
      have : parOf [p0] 1 x1 = p0 := by
        show [p0].getD (x1.fmod 1).toNat [] = _
        rw [a1]; rfl
      rw [this] at e1
      exact e1
    · refine ⟨d2, h2, ?_⟩
      show p2 = [p0, p1, p2, p3, p4].getD (x2.fmod 2).toNat [] ++ [d2]
      rw [e2]
      show [p0, p1].getD (x2.fmod 2).toNat [] ++ [d2] = _
      generalize (x2.fmod 2).toNat = n at a2
      match n, a2 with
      | 0, _ => rfl
      | 1, _ => rfl
    · refine ⟨d3, h3, ?_⟩
      show p3 = [p0, p1, p2, p3, p4].getD (x3.fmod 3).toNat [] ++ [d3]
      rw [e3]
      show [p0, p1, p2].getD (x3.fmod 3).toNat [] ++ [d3] = _
      generalize (x3.fmod 3).toNat = n at a3
      match n, a3 with
      | 0, _ => rfl
      | 1, _ => rfl
      | 2, _ => rfl
    · refine ⟨d4, h4, ?_⟩
      show p4 = [p0, p1, p2, p3, p4].getD (x4.fmod 4).toNat [] ++ [d4]
      rw [e4]
      show [p0, p1, p2, p3].getD (x4.fmod 4).toNat [] ++ [d4] = _
      generalize (x4.fmod 4).toNat = n at a4
      match n, a4 with
      | 0, _ => rfl
      | 1, _ => rfl
      | 2, _ => rfl
      | 3, _ => rfl
  · simp only [List.mem_cons, List.not_mem_nil, or_false, not_or] at n1 n2 n3 n4
    simp only [List.nodup_cons, List.mem_cons, List.not_mem_nil, or_false, not_or, not_false_eq_true, List.nodup_nil, and_true]
    exact ⟨⟨Ne.symm n1, Ne.symm n2.1, Ne.symm n3.1, Ne.symm n4.1⟩, ⟨Ne.symm n2.2, Ne.symm n3.2.1, Ne.symm n4.2.1⟩, ⟨Ne.symm n3.2.2, Ne.symm n4.2.2.1⟩, Ne.symm n4.2.2.2⟩
end Mine
end
section
set_option maxRecDepth 100000
namespace Mine

section
variable {ps : List Pa} {sh : List Nat}
noncomputable abbrev at' (ps : List Pa) (i : Nat) : Pa := ps.getD i []
theorem Tree.map (t : Tree ps sh) : ps = [0, 1, 2, 3, 4].map (at' ps) := by
  obtain ⟨a, b, c, d, e, rfl⟩ := five t.len
  rfl
theorem Tree.mem (t : Tree ps sh) {i : Nat} (h : i < 5) : at' ps i ∈ ps := by
  have e : i < ps.length := by rw [t.len]; exact h
  unfold at'
  rw [List.getD_eq_getElem?_getD, List.getElem?_eq_getElem e]
  exact List.getElem_mem e
theorem Tree.inj (t : Tree ps sh) {i j : Nat} (hi : i < 5) (hj : j < 5) (h : at' ps i = at' ps j) : i = j := by
  have e1 : i < ps.length := by rw [t.len]; exact hi
  have e2 : j < ps.length := by rw [t.len]; exact hj
  unfold at' at h
  rw [List.getD_eq_getElem?_getD, List.getD_eq_getElem?_getD, List.getElem?_eq_getElem e1, List.getElem?_eq_getElem e2] at h
  exact (List.getElem_inj t.nd).mp h
theorem Tree.ne (t : Tree ps sh) {i : Nat} (h : i < 5) : at' ps i ≠ [] := (t.good _ (t.mem h)).ne
theorem Tree.pr (t : Tree ps sh) {k : Nat} (h : k < 5) (h1 : 1 ≤ k) : prI sh k < k := pr_lt sh t.shp k h h1
theorem Tree.drop (t : Tree ps sh) {k : Nat} (h : k < 5) : (at' ps k).dropLast = if k = 0 then [] else at' ps (prI sh k) := by
  by_cases h0 : k = 0
  · subst h0
    obtain ⟨d, _, e⟩ := t.root
    show (ps.getD 0 []).dropLast = _
    rw [e]; rfl
  · rw [if_neg h0]
    obtain ⟨d, _, e⟩ := t.step k (by omega) (by omega)
    show (ps.getD k []).dropLast = _
    rw [e]; simp

theorem lcp_prefix : ∀ (a b : Pa), (lcpN a b == b) = true ↔ b <+: a
  | [], [] => by simp [lcpN]
  | [], y :: b => by simp [lcpN]
  | x :: a, [] => by simp [lcpN]
  | x :: a, y :: b => by
    unfold lcpN
    by_cases h : x = y
    · subst h
      rw [if_pos rfl]
      have ih := lcp_prefix a b
      rw [beq_iff_eq] at ih ⊢
      rw [List.cons_prefix_cons, ← ih]
      simp
    · rw [if_neg h]
      rw [List.cons_prefix_cons]
      simp [Ne.symm h]
theorem prefix_snoc {b l : Pa} {d : Nat} : b <+: l ++ [d] ↔ b = l ++ [d] ∨ b <+: l := List.prefix_concat_iff
theorem Tree.prefix_iff (t : Tree ps sh) {k : Nat} (hk : k < 5) : ∀ (n i : Nat), i < 5 → i ≤ n → (inI sh n i k = true ↔ at' ps k <+: at' ps i)
  | 0, i, hi, hn => by
    obtain rfl : i = 0 := by omega
    obtain ⟨d, _, e⟩ := t.root
    have e : at' ps 0 = [] ++ [d] := e
    have hne := t.ne hk
    rw [e, prefix_snoc]
    show (0 == k) = true ↔ _
    rw [beq_iff_eq]
    constructor
    · rintro rfl; exact .inl e
    · rintro (h | h)
      · exact t.inj (by decide) hk (e.trans h.symm)
      · exact absurd (List.prefix_nil.mp h) hne
  | n + 1, i, hi, hn => by
    show (i == k || (i != 0 && inI sh n (prI sh i) k)) = true ↔ _
    rw [Bool.or_eq_true, Bool.and_eq_true, beq_iff_eq, bne_iff_ne]
    by_cases h0 : i = 0
    · subst h0
      obtain ⟨d, _, e⟩ := t.root
      have e : at' ps 0 = [] ++ [d] := e
      have hne := t.ne hk
      rw [e, prefix_snoc]
      constructor
      · rintro (rfl | ⟨h, _⟩)
        · exact .inl e
        · exact absurd rfl h
      · rintro (h | h)
        · exact .inl (t.inj (by decide) hk (e.trans h.symm))
        · exact absurd (List.prefix_nil.mp h) hne
    · obtain ⟨d, _, e⟩ := t.step i (by omega) (by omega)
      have e : at' ps i = at' ps (prI sh i) ++ [d] := e
      have hp := t.pr hi (by omega)
      rw [e, prefix_snoc, ← Tree.prefix_iff t hk n (prI sh i) (by omega) (by omega)]
      constructor
      · rintro (rfl | ⟨_, h⟩)
        · exact .inl e
        · exact .inr h
      · rintro (h | h)
        · exact .inl (t.inj hi hk (e.trans h.symm))
        · exact .inr ⟨h0, h⟩
theorem Tree.hook (t : Tree ps sh) {k : Nat} (hk : k < 5) : hookN ps (at' ps k) = hookI sh k := by
  unfold hookN hookI
  conv => lhs; rw [t.map]
  rw [List.filter_map, List.length_map]
  congr 1
  refine List.filter_congr fun i hi => ?_
  have hi5 : i < 5 := by
    have : ∀ x ∈ [0, 1, 2, 3, 4], x < 5 := by decide
    exact this i hi
  have e0 : at' ([0, 1, 2, 3, 4].map (at' ps)) k = at' ps k := by rw [← t.map]
  show (lcpN (at' ps i) (at' ([0, 1, 2, 3, 4].map (at' ps)) k) == at' ([0, 1, 2, 3, 4].map (at' ps)) k) = inI sh 4 i k
  rw [e0, Bool.eq_iff_iff, lcp_prefix, t.prefix_iff hk 4 i hi5 (by omega)]
theorem Tree.hooks (t : Tree ps sh) : hooksN ps = hooksI sh := by
  unfold hooksN hooksI
  conv => lhs; rw [t.map]
  rw [List.map_map]
  refine List.map_congr_left fun k hk => ?_
  have h5 : k < 5 := by
    have : ∀ x ∈ [0, 1, 2, 3, 4], x < 5 := by decide
    exact this k hk
  show hookN ([0, 1, 2, 3, 4].map (at' ps)) (at' ps k) = _
  rw [← t.map]
  exact t.hook h5

noncomputable def low (o : List Nat) : Prop := ∀ i ∈ o, i < 5
theorem Tree.contains (t : Tree ps sh) {o : List Nat} (ho : low o) {i : Nat} (hi : i < 5) : (o.map (at' ps)).contains (at' ps i) = o.contains i := by
  rw [Bool.eq_iff_iff, List.contains_iff_mem, List.contains_iff_mem, List.mem_map]
  exact ⟨fun ⟨j, hj, e⟩ => t.inj (ho j hj) hi e ▸ hj, fun h => ⟨i, h, rfl⟩⟩
theorem low5 : low [0, 1, 2, 3, 4] := by unfold low; decide
theorem left_low {o : List Nat} : low (leftI o) := fun i hi => low5 i (List.mem_filter.mp hi).1
theorem next_low {o : List Nat} : low (nextI sh o) := fun i hi => left_low i (List.mem_filter.mp hi).1
theorem Tree.left (t : Tree ps sh) {o : List Nat} (ho : low o) : filtN ps (o.map (at' ps)) = (leftI o).map (at' ps) := by
  unfold filtN leftI
  have e := t.map
  conv => lhs; arg 2; rw [e]
  rw [List.filter_map]
  congr 1
  refine List.filter_congr fun i hi => ?_
  show (!(o.map (at' ps)).contains (at' ps i)) = _
  rw [t.contains ho (low5 i hi)]
theorem Tree.next (t : Tree ps sh) {o : List Nat} (ho : low o) : nextN ps (o.map (at' ps)) = (nextI sh o).map (at' ps) := by
  unfold nextN nextI
  rw [t.left ho]
  unfold filtN
  rw [List.filter_map]
  congr 1
  refine List.filter_congr fun j hj => ?_
  have hj5 := left_low j hj
  show (!(((leftI o).map (at' ps)).map List.dropLast).contains (at' ps j)) = _
  congr 1
  rw [Bool.eq_iff_iff, List.contains_iff_mem, List.any_eq_true, List.map_map, List.mem_map]
  constructor
  · rintro ⟨i, hi, e⟩
    have hi5 := left_low i hi
    have e : (at' ps i).dropLast = at' ps j := e
    rw [t.drop hi5] at e
    refine ⟨i, hi, ?_⟩
    by_cases h0 : i = 0
    · rw [if_pos h0] at e; exact absurd e.symm (t.ne hj5)
    · rw [if_neg h0] at e
      have := t.inj (Nat.lt_trans (t.pr hi5 (by omega)) hi5) hj5 e
      simp [h0, this]
  · rintro ⟨i, hi, h⟩
    have hi5 := left_low i hi
    rw [Bool.and_eq_true, bne_iff_ne, beq_iff_eq] at h
    refine ⟨i, hi, ?_⟩
    show (at' ps i).dropLast = _
    rw [t.drop hi5, if_neg h.1, h.2]
theorem Tree.longer (t : Tree ps sh) : ∀ (os : List (List Nat)), (∀ o ∈ os, low o) → longerN ps (os.map (List.map (at' ps))) = (longerI sh os).map (List.map (at' ps))
  | [], _ => rfl
  | o :: os, h => by
    have ih := Tree.longer t os fun o ho => h o (.tail _ ho)
    have e1 : longerN ps ((o :: os).map (List.map (at' ps))) = ((nextN ps (o.map (at' ps))).map fun p => o.map (at' ps) ++ [p]) ++ longerN ps (os.map (List.map (at' ps))) := rfl
    have e2 : longerI sh (o :: os) = ((nextI sh o).map fun p => o ++ [p]) ++ longerI sh os := rfl
    rw [e1, e2, ih, t.next (h o (.head _)), List.map_append, List.map_map, List.map_map]
    congr 1
    refine List.map_congr_left fun j _ => ?_
    show o.map (at' ps) ++ [at' ps j] = (o ++ [j]).map (at' ps)
    simp
theorem longer_low {os : List (List Nat)} (h : ∀ o ∈ os, low o) : ∀ o ∈ longerI sh os, low o := fun o ho => by
  obtain ⟨o', h1, h2⟩ := List.mem_flatMap.mp ho
  obtain ⟨p, h3, rfl⟩ := List.mem_map.mp h2
  intro i hi
  rcases List.mem_append.mp hi with q | q
  · exact h o' h1 i q
  · rw [List.mem_singleton.mp q]; exact next_low p h3
theorem Tree.orders (t : Tree ps sh) : ordersN ps = (ordersI sh).map (List.map (at' ps)) := by
  rw [orders_eq, t.len]
  have l0 : ∀ o ∈ ([[]] : List (List Nat)), low o := fun o ho => by rw [List.mem_singleton.mp ho]; exact fun i hi => nomatch hi
  have l1 := longer_low (sh := sh) l0
  have l2 := longer_low (sh := sh) l1
  have l3 := longer_low (sh := sh) l2
  have l4 := longer_low (sh := sh) l3
  unfold ordersI
  rw [← t.longer _ l4, ← t.longer _ l3, ← t.longer _ l2, ← t.longer _ l1, ← t.longer _ l0]
  rfl
end
end Mine
end
section
set_option maxRecDepth 100000
namespace Mine

structure Strict (gt : Nat → Nat → Bool) : Prop where
  anti : ∀ i j, i < 5 → j < 5 → i ≠ j → gt j i = !gt i j
  trans : ∀ i j k, i < 5 → j < 5 → k < 5 → gt i j = true → gt j k = true → gt i k = true
noncomputable def tabOf (gt : Nat → Nat → Bool) : Tab10 := ⟨gt 0 1, gt 0 2, gt 0 3, gt 0 4, gt 1 2, gt 1 3, gt 1 4, gt 2 3, gt 2 4, gt 3 4⟩
theorem below5 {P : Nat → Prop} (h0 : P 0) (h1 : P 1) (h2 : P 2) (h3 : P 3) (h4 : P 4) : ∀ i, i < 5 → P i
  | 0, _ => h0
  | 1, _ => h1
  | 2, _ => h2
  | 3, _ => h3
  | 4, _ => h4
  | n + 5, h => absurd h (Nat.not_lt.mpr (Nat.le_add_left 5 n))
theorem tab_gt {gt : Nat → Nat → Bool} (s : Strict gt) {i j : Nat} (hi : i < 5) (hj : j < 5) (h : i ≠ j) : (tabOf gt).gt i j = gt i j := by
  have a := s.anti
  exact below5 (P := fun i => ∀ j, j < 5 → i ≠ j → (tabOf gt).gt i j = gt i j) (below5 (P := fun j => 0 ≠ j → (tabOf gt).gt 0 j = gt 0 j) (fun h => absurd rfl h) (fun _ => rfl) (fun _ => rfl) (fun _ => rfl) (fun _ => rfl))
    (below5 (P := fun j => 1 ≠ j → (tabOf gt).gt 1 j = gt 1 j) (fun _ => (a 0 1 (by decide) (by decide) (by decide)).symm) (fun h => absurd rfl h) (fun _ => rfl) (fun _ => rfl) (fun _ => rfl))
    (below5 (P := fun j => 2 ≠ j → (tabOf gt).gt 2 j = gt 2 j) (fun _ => (a 0 2 (by decide) (by decide) (by decide)).symm) (fun _ => (a 1 2 (by decide) (by decide) (by decide)).symm) (fun h => absurd rfl h) (fun _ => rfl) (fun _ => rfl))
    (below5 (P := fun j => 3 ≠ j → (tabOf gt).gt 3 j = gt 3 j) (fun _ => (a 0 3 (by decide) (by decide) (by decide)).symm) (fun _ => (a 1 3 (by decide) (by decide) (by decide)).symm) (fun _ => (a 2 3 (by decide) (by decide) (by decide)).symm) (fun h => absurd rfl h) (fun _ => rfl))
    (below5 (P := fun j => 4 ≠ j → (tabOf gt).gt 4 j = gt 4 j) (fun _ => (a 0 4 (by decide) (by decide) (by decide)).symm) (fun _ => (a 1 4 (by decide) (by decide) (by decide)).symm) (fun _ => (a 2 4 (by decide) (by decide) (by decide)).symm) (fun _ => (a 3 4 (by decide) (by decide) (by decide)).symm) (fun h => absurd rfl h)) i hi j hj h
theorem tri {gt : Nat → Nat → Bool} (s : Strict gt) (i j k : Nat) (hi : i < 5) (hj : j < 5) (hk : k < 5) (h1 : i ≠ j) (h2 : j ≠ k) (h3 : i ≠ k) : trI (gt i j) (gt j k) (gt i k) = true := by
  have t1 := s.trans i j k hi hj hk
  have t2 := s.trans k j i hk hj hi
  rw [s.anti j k hj hk h2, s.anti i j hi hj h1, s.anti i k hi hk h3] at t2
  cases a : gt i j <;> cases b : gt j k <;> cases c : gt i k <;> simp_all [trI]
theorem tab_tr {gt : Nat → Nat → Bool} (s : Strict gt) : (tabOf gt).tr = true := by
  unfold Tab10.tr tabOf
  simp only [Bool.and_eq_true]
  exact ⟨⟨⟨⟨⟨⟨⟨⟨⟨tri s 0 1 2 (by decide) (by decide) (by decide) (by decide) (by decide) (by decide), tri s 0 1 3 (by decide) (by decide) (by decide) (by decide) (by decide) (by decide)⟩, tri s 0 1 4 (by decide) (by decide) (by decide) (by decide) (by decide) (by decide)⟩, tri s 0 2 3 (by decide) (by decide) (by decide) (by decide) (by decide) (by decide)⟩, tri s 0 2 4 (by decide) (by decide) (by decide) (by decide) (by decide) (by decide)⟩, tri s 0 3 4 (by decide) (by decide) (by decide) (by decide) (by decide) (by decide)⟩, tri s 1 2 3 (by decide) (by decide) (by decide) (by decide) (by decide) (by decide)⟩, tri s 1 2 4 (by decide) (by decide) (by decide) (by decide) (by decide) (by decide)⟩, tri s 1 3 4 (by decide) (by decide) (by decide) (by decide) (by decide) (by decide)⟩, tri s 2 3 4 (by decide) (by decide) (by decide) (by decide) (by decide) (by decide)⟩

theorem fallsFrom_cong {g g' : Nat → Nat → Bool} : ∀ {o : List Nat} {k : Nat}, o.Nodup → low o → (∀ i j, i < 5 → j < 5 → i ≠ j → g i j = g' i j) → fallsFrom g k o = fallsFrom g' k o
  | [], _, _, _, _ => rfl
  | [a], _, _, _, _ => rfl
  | a :: b :: l, k, hn, hl, h => by
    have hn := List.nodup_cons.mp hn
    have e := h a b (hl a (.head _)) (hl b (.tail _ (.head _))) fun q => hn.1 (q ▸ .head _)
    show (if g a b then k else 0) + fallsFrom g (k + 1) (b :: l) = (if g' a b then k else 0) + fallsFrom g' (k + 1) (b :: l)
    rw [e, fallsFrom_cong hn.2 (fun x hx => hl x (.tail _ hx)) h]
theorem falls_cong {g g' : Nat → Nat → Bool} {o : List Nat} (hn : o.Nodup) (hl : low o) (h : ∀ i j, i < 5 → j < 5 → i ≠ j → g i j = g' i j) : fallsI g o = fallsI g' o := fallsFrom_cong hn hl h
theorem inv_cong {g g' : Nat → Nat → Bool} : ∀ {o : List Nat}, o.Nodup → low o → (∀ i j, i < 5 → j < 5 → i ≠ j → g i j = g' i j) → invI g o = invI g' o
  | [], _, _, _ => rfl
  | a :: l, hn, hl, h => by
    rw [List.nodup_cons] at hn
    unfold invI
    rw [inv_cong hn.2 (fun i hi => hl i (.tail _ hi)) h]
    congr 2
    refine List.filter_congr fun b hb => ?_
    exact h a b (hl a (.head _)) (hl b (.tail _ hb)) fun q => hn.1 (q ▸ hb)
theorem orders_fine : ∀ sh ∈ shapes, ∀ o ∈ ordersI sh, o.Nodup ∧ o.length = 5 ∧ ∀ i ∈ o, i < 5 := by decide +kernel

theorem ev_EI (q : Int) : ∀ (hs : List Nat) (p : List Nat), evP q (hs.foldl (fun p h => mulP p (onesP h)) p) = prodS q (evP q p) hs
  | [], p => rfl
  | h :: hs, p => by
    rw [List.foldl_cons, ev_EI q hs]
    show _ = prodS q (evP q p * qsum q h) hs
    rw [ev_mul, ev_ones]
    rfl
theorem ev_one (q : Int) : evP q [1] = 1 := by simp [evP]
theorem ev_hooks (q : Int) (sh : List Nat) : evP q (EI sh) = prodS q 1 (hooksI sh) := by
  unfold EI
  rw [ev_EI, ev_one]
theorem ev_W5 (q : Int) : evP q W5 = prodS q 1 [1, 2, 3, 4, 5] := by
  rw [← ev_one q, ← ev_EI]
  exact ev_beq q _ _ (by decide +kernel)

noncomputable def iv (b : Bool) : Nat := if b then 1 else 0
theorem falls_nat (a b c d e : Str) : (fallsS a b c d e).toNat = iv (gtS a b) + 2 * iv (gtS b c) + 3 * iv (gtS c d) + 4 * iv (gtS d e) := by
  unfold fallsS
  cases gtS a b <;> cases gtS b c <;> cases gtS c d <;> cases gtS d e <;> rfl
theorem fallsI_nat (g : Nat → Nat → Bool) (a b c d e : Nat) : fallsI g [a, b, c, d, e] = iv (g a b) + 2 * iv (g b c) + 3 * iv (g c d) + 4 * iv (g d e) := by
  show (if g a b then 1 else 0) + ((if g b c then 2 else 0) + ((if g c d then 3 else 0) + ((if g d e then 4 else 0) + (0 + 0)))) = _
  cases g a b <;> cases g b c <;> cases g c d <;> cases g d e <;> rfl
theorem len_filter_iv {α : Type} (p : α → Bool) : ∀ l : List α, (l.filter p).length = (l.map fun b => iv (p b)).sum
  | [] => rfl
  | a :: l => by
    rw [List.filter_cons, List.map_cons, List.sum_cons, ← len_filter_iv p l]
    cases p a
    · rw [if_neg (fun h => nomatch h)]; show _ = 0 + _; omega
    · rw [if_pos rfl, List.length_cons]; show _ = 1 + _; omega
theorem invI_nat (g : Nat → Nat → Bool) (a b c d e : Nat) : invI g [a, b, c, d, e] = (iv (g a b) + iv (g a c) + iv (g a d) + iv (g a e)) + (iv (g b c) + iv (g b d) + iv (g b e)) + (iv (g c d) + iv (g c e)) + iv (g d e) := by
  simp only [invI, len_filter_iv, List.map_cons, List.map_nil, List.sum_cons, List.sum_nil]
  omega
theorem one_sum (b : Bool) : (if b = true then [(1 : Int)] else []).sum = (iv b : Nat) := by cases b <;> rfl
theorem pairs_nat (a b c d e : Str) : (pairsS [a, b, c, d, e]).toNat = (iv (gtS a b) + iv (gtS a c) + iv (gtS a d) + iv (gtS a e)) + (iv (gtS b c) + iv (gtS b d) + iv (gtS b e)) + (iv (gtS c d) + iv (gtS c e)) + iv (gtS d e) := by
  have e1 : pairsS [a, b, c, d, e] = ((if gtS a b = true then [(1 : Int)] else []) ++ (((if gtS a c = true then [(1 : Int)] else []) ++ ((if gtS b c = true then [(1 : Int)] else []) ++ [])) ++ (((if gtS a d = true then [(1 : Int)] else []) ++ ((if gtS b d = true then [(1 : Int)] else []) ++ ((if gtS c d = true then [(1 : Int)] else []) ++ []))) ++ (((if gtS a e = true then [(1 : Int)] else []) ++ ((if gtS b e = true then [(1 : Int)] else []) ++ ((if gtS c e = true then [(1 : Int)] else []) ++ ((if gtS d e = true then [(1 : Int)] else []) ++ [])))) ++ [])))).sum := by
    unfold pairsS pairJ
    have r : List.range 5 = [0, 1, 2, 3, 4] := rfl
    have r0 : List.range 0 = [] := rfl
    have r1 : List.range 1 = [0] := rfl
    have r2 : List.range 2 = [0, 1] := rfl
    have r3 : List.range 3 = [0, 1, 2] := rfl
    have r4 : List.range 4 = [0, 1, 2, 3] := rfl
    simp only [r, r0, r1, r2, r3, r4, List.flatMap_cons, List.flatMap_nil, strAt, List.getD_cons_zero, List.getD_cons_succ, List.append_nil, List.nil_append]
  rw [e1]
  simp only [List.sum_append, one_sum, List.sum_nil]
  omega

theorem Tree.rows (t : Tree ps sh) {gt : Nat → Nat → Bool} (s : Strict gt) (q : Int) : prodS q 1 (hooksI sh) * ((ordersI sh).map fun o => q ^ fallsI gt o).sum = q ^ fallE sh gt (hooksI sh) * prodS q 1 [1, 2, 3, 4, 5] := by
  obtain ⟨V, hV⟩ := shape_cert sh t.shp
  have h := (cert_use hV (tabOf gt) (tab_tr s) q).1
  rw [ev_hooks, ev_W5] at h
  have e1 : ((ordersI sh).map fun o => q ^ fallsI (tabOf gt).gt o) = ((ordersI sh).map fun o => q ^ fallsI gt o) := List.map_congr_left fun o ho => by
    obtain ⟨a, _, c⟩ := orders_fine sh t.shp o ho
    rw [falls_cong a c fun i j hi hj hij => tab_gt s hi hj hij]
  have e2 : fallE sh (tabOf gt).gt (hooksI sh) = fallE sh gt (hooksI sh) := by
    unfold fallE
    congr 1
    refine List.filter_congr fun k hk => ?_
    have h5 : k < 5 ∧ 1 ≤ k := by
      have : ∀ x ∈ [1, 2, 3, 4], x < 5 ∧ 1 ≤ x := by decide
      exact this k hk
    have := t.pr h5.1 h5.2
    exact tab_gt s h5.1 (by omega) (by omega)
  rw [e1, e2] at h
  exact h
theorem Tree.paths (t : Tree ps sh) {gt : Nat → Nat → Bool} (s : Strict gt) (hp : ∀ k, k < 5 → 1 ≤ k → gt k (prI sh k) = true)
    (hb : ∀ k j, k < 5 → 1 ≤ k → j < 5 → k ≠ j → prI sh k ≠ j → inI sh 4 j (prI sh k) = false → inI sh 4 (prI sh k) j = false → gt k j = gt (prI sh k) j) (q : Int) : prodS q 1 (hooksI sh) * ((ordersI sh).map fun o => q ^ invI gt o).sum = q ^ ((hooksI sh).sum - 5) * prodS q 1 [1, 2, 3, 4, 5] := by
  obtain ⟨V, hV⟩ := shape_cert sh t.shp
  have hm : ∀ x ∈ [1, 2, 3, 4], x < 5 ∧ 1 ≤ x := by decide
  have hd : dfs sh (tabOf gt) = true := by
    unfold dfs
    rw [Bool.and_eq_true, List.all_eq_true, List.all_eq_true]
    refine ⟨fun k hk => ?_, fun k hk => ?_⟩
    · obtain ⟨k1, k2⟩ := hm k hk
      have := t.pr k1 k2
      rw [tab_gt s k1 (by omega) (by omega)]
      exact hp k k1 k2
    · rw [List.all_eq_true]
      intro j hj
      obtain ⟨k1, k2⟩ := hm k hk
      obtain ⟨j1, j2⟩ := hm j hj
      have hpr := t.pr k1 k2
      have self : ∀ n i, inI sh n i i = true := fun n i => by cases n <;> simp [inI]
      cases c1 : inI sh 4 j (prI sh k) with
      | true => simp
      | false =>
        cases c2 : inI sh 4 (prI sh k) j with
        | true => simp
        | false =>
          simp only [Bool.false_or, beq_iff_eq]
          have hkj : k ≠ j := fun e => by
            subst e
            have : inI sh 4 k (prI sh k) = true := by
              show (k == prI sh k || (k != 0 && inI sh 3 (prI sh k) (prI sh k))) = true
              rw [self]; simp; omega
            rw [this] at c1; cases c1
          have hpj : prI sh k ≠ j := fun e => by rw [e, self] at c1; cases c1
          rw [tab_gt s k1 j1 hkj, tab_gt s (by omega) j1 hpj]
          exact hb k j k1 k2 j1 hkj hpj c1 c2
  have h := (cert_use hV (tabOf gt) (tab_tr s) q).2 hd
  rw [ev_hooks, ev_W5] at h
  have e1 : ((ordersI sh).map fun o => q ^ invI (tabOf gt).gt o) = ((ordersI sh).map fun o => q ^ invI gt o) := List.map_congr_left fun o ho => by
    obtain ⟨a, _, c⟩ := orders_fine sh t.shp o ho
    rw [inv_cong a c fun i j hi hj hij => tab_gt s hi hj hij]
  rw [e1] at h
  exact h
end Mine
end
section
set_option maxRecDepth 100000
namespace Mine

theorem gtS_dec (a b : Str) : gtS a b = decide (b.cps.toList < a.cps.toList) := by kernel_rfl
theorem strict_of {g : Nat → Str} (h : ∀ i j, i < 5 → j < 5 → g i = g j → i = j) : Strict fun i j => gtS (g i) (g j) where
  anti := fun i j hi hj hij => by
    have hne : (g i).cps.toList ≠ (g j).cps.toList := fun q => hij (h i j hi hj (cps_inj q))
    rw [gtS_dec, gtS_dec, Bool.eq_iff_iff, decide_eq_true_eq, Bool.not_eq_true', decide_eq_false_iff_not]
    constructor
    · exact fun q => List.lt_asymm q
    · intro q
      rcases Std.lt_trichotomy (g i).cps.toList (g j).cps.toList with q' | q' | q'
      · exact q'
      · exact absurd q' hne
      · exact absurd q' q
  trans := fun i j k _ _ _ h1 h2 => by
    rw [gtS_dec, decide_eq_true_eq] at h1 h2 ⊢
    exact List.lt_trans h2 h1

theorem lt_append_left : ∀ (l r r' : List Nat), (l ++ r < l ++ r') ↔ r < r'
  | [], _, _ => Iff.rfl
  | a :: l, r, r' => by
    rw [List.cons_append, List.cons_append, List.cons_lt_cons_iff, lt_append_left l r r']
    constructor
    · rintro (h | h)
      · exact absurd h (Nat.lt_irrefl _)
      · exact h.2
    · exact fun h => .inr ⟨rfl, h⟩
theorem cl_start (a : List Nat) : cl a = [] ∨ ∃ r, cl a = 47 :: r := by
  cases a with
  | nil => exact .inl rfl
  | cons x a => exact .inr ⟨_, cl_cons x a⟩
theorem code_lt {x y : Nat} (h : x < y) (hy : y < 5) (a b : List Nat) : code x ++ cl a < code y ++ cl b := by
  have l1 : (97 : Nat) < 98 := by decide
  have l2 : (47 : Nat) < 97 := by decide
  have l3 : (47 : Nat) < 98 := by decide
  have go : ∀ y, y < 5 → ∀ x, x < 5 → x < y → code x ++ cl a < code y ++ cl b := by
    rcases cl_start a with e | ⟨r, e⟩ <;> rw [e] <;> exact below5 (P := fun y => ∀ x, x < 5 → x < y → code x ++ _ < code y ++ cl b) (below5 (P := fun x => x < 0 → code x ++ _ < code 0 ++ cl b) (fun h => absurd h (by decide)) (fun h => absurd h (by decide)) (fun h => absurd h (by decide)) (fun h => absurd h (by decide)) (fun h => absurd h (by decide)))
      (below5 (P := fun x => x < 1 → code x ++ _ < code 1 ++ cl b) (fun _ => by simp [code, List.cons_lt_cons_iff]) (fun h => absurd h (by decide)) (fun h => absurd h (by decide)) (fun h => absurd h (by decide)) (fun h => absurd h (by decide)))
      (below5 (P := fun x => x < 2 → code x ++ _ < code 2 ++ cl b) (fun _ => by simp [code, List.cons_lt_cons_iff]) (fun _ => by simp [code, List.cons_lt_cons_iff]) (fun h => absurd h (by decide)) (fun h => absurd h (by decide)) (fun h => absurd h (by decide)))
      (below5 (P := fun x => x < 3 → code x ++ _ < code 3 ++ cl b) (fun _ => by simp [code, List.cons_lt_cons_iff]) (fun _ => by simp [code, List.cons_lt_cons_iff]) (fun _ => by simp [code, List.cons_lt_cons_iff]) (fun h => absurd h (by decide)) (fun h => absurd h (by decide)))
      (below5 (P := fun x => x < 4 → code x ++ _ < code 4 ++ cl b) (fun _ => by simp [code, List.cons_lt_cons_iff]) (fun _ => by simp [code, List.cons_lt_cons_iff]) (fun _ => by simp [code, List.cons_lt_cons_iff]) (fun _ => by simp [code, List.cons_lt_cons_iff]) (fun h => absurd h (by decide)))
  exact go y hy x (Nat.lt_trans h hy) h
theorem cl_lt : ∀ (a b : List Nat), (∀ x ∈ a, x < 5) → (∀ x ∈ b, x < 5) → (cl a < cl b ↔ a < b)
  | [], [], _, _ => Iff.rfl
  | [], y :: b, _, _ => by rw [cl_cons]; exact ⟨fun _ => List.nil_lt_cons _ _, fun _ => List.nil_lt_cons _ _⟩
  | x :: a, [], _, _ => by rw [cl_cons]; exact ⟨fun h => absurd h (List.not_lt_nil _), fun h => absurd h (List.not_lt_nil _)⟩
  | x :: a, y :: b, ha, hb => by
    have ih := cl_lt a b (fun z hz => ha z (.tail _ hz)) (fun z hz => hb z (.tail _ hz))
    have hx := ha x (.head _)
    have hy := hb y (.head _)
    rw [cl_cons, cl_cons, List.cons_lt_cons_iff, List.cons_lt_cons_iff]
    rcases Nat.lt_trichotomy x y with h | h | h
    · exact ⟨fun _ => .inl h, fun _ => .inr ⟨rfl, code_lt h hy a b⟩⟩
    · subst h
      rw [lt_append_left, ih]
      constructor
      · rintro (q | q)
        · exact absurd q (Nat.lt_irrefl _)
        · exact .inr ⟨rfl, q.2⟩
      · rintro (q | q)
        · exact absurd q (Nat.lt_irrefl _)
        · exact .inr ⟨rfl, q.2⟩
    · have := code_lt h hx b a
      constructor
      · rintro (q | q)
        · exact absurd q (Nat.lt_irrefl _)
        · exact absurd q.2 (List.lt_asymm this)
      · rintro (q | q)
        · omega
        · omega
theorem gt_pth {a b : Pa} (ha : a ≠ []) (hb : b ≠ []) (h1 : ∀ x ∈ a, x < 5) (h2 : ∀ x ∈ b, x < 5) : gtS (pth a) (pth b) = decide (b < a) := by
  rw [gtS_dec, pth_cps, pth_cps, pthL_ne ha, pthL_ne hb, Bool.eq_iff_iff, decide_eq_true_eq, decide_eq_true_eq]
  exact cl_lt b a h2 h1
theorem lt_snoc : ∀ (l : List Nat) (d : Nat), l < l ++ [d]
  | [], _ => List.nil_lt_cons _ _
  | a :: l, d => by rw [List.cons_append, List.cons_lt_cons_iff]; exact .inr ⟨rfl, lt_snoc l d⟩
theorem lt_apart : ∀ (a b r : List Nat), ¬ a <+: b → ¬ b <+: a → (b < a ++ r ↔ b < a)
  | [], b, r, h, _ => absurd (List.nil_prefix) h
  | _ :: _, [], r, _, h => absurd (List.nil_prefix) h
  | x :: a, y :: b, r, h1, h2 => by
    rw [List.cons_append, List.cons_lt_cons_iff, List.cons_lt_cons_iff]
    by_cases h : y = x
    · subst h
      rw [List.cons_prefix_cons] at h1 h2
      rw [lt_apart a b r (fun q => h1 ⟨rfl, q⟩) (fun q => h2 ⟨rfl, q⟩)]
    · constructor
      · rintro (q | q)
        · exact .inl q
        · exact absurd q.1 h
      · rintro (q | q)
        · exact .inl q
        · exact absurd q.1 h

theorem Tree.pathLaw (t : Tree ps sh) (q : Int) : prodS q 1 (hooksN ps) * byPaths q (ordersN ps) = q ^ ((hooksN ps).sum - 5) * prodS q 1 [1, 2, 3, 4, 5] := by
  have hdig : ∀ i, i < 5 → ∀ x ∈ at' ps i, x < 5 := fun i hi => (t.good _ (t.mem hi)).dig
  have s : Strict fun i j => gtS (pth (at' ps i)) (pth (at' ps j)) := strict_of fun i j hi hj h => t.inj hi hj (pth_inj' (hdig i hi) (hdig j hj) h)
  have h := t.paths s (fun k h5 h1 => by
    obtain ⟨d, _, e⟩ := t.step k h1 (by omega)
    have e : at' ps k = at' ps (prI sh k) ++ [d] := e
    have hp := t.pr h5 h1
    rw [gt_pth (t.ne h5) (t.ne (by omega)) (hdig k h5) (hdig _ (by omega)), e, decide_eq_true_eq]
    exact lt_snoc _ _) (fun k j h5 h1 hj hkj hpj c1 c2 => by
    obtain ⟨d, _, e⟩ := t.step k h1 (by omega)
    have e : at' ps k = at' ps (prI sh k) ++ [d] := e
    have hp := t.pr h5 h1
    have hp5 : prI sh k < 5 := by omega
    rw [gt_pth (t.ne h5) (t.ne hj) (hdig k h5) (hdig j hj), gt_pth (t.ne hp5) (t.ne hj) (hdig _ hp5) (hdig j hj), e, Bool.eq_iff_iff, decide_eq_true_eq, decide_eq_true_eq]
    refine lt_apart _ _ _ (fun q => ?_) (fun q => ?_)
    · rw [← t.prefix_iff hp5 4 j hj (by omega)] at q
      rw [c1] at q; cases q
    · rw [← t.prefix_iff hj 4 _ hp5 (by omega)] at q
      rw [c2] at q; cases q) q
  rw [t.hooks]
  rw [← h]
  congr 1
  unfold byPaths
  rw [t.orders, List.map_map]
  congr 1
  refine List.map_congr_left fun o ho => ?_
  obtain ⟨_, h5, _⟩ := orders_fine sh t.shp o ho
  obtain ⟨a, b, c, d, e, rfl⟩ := five h5
  show q ^ pairsO ([a, b, c, d, e].map (at' ps)) = _
  unfold pairsO
  rw [invI_nat]
  show q ^ (pairsS [pth (at' ps a), pth (at' ps b), pth (at' ps c), pth (at' ps d), pth (at' ps e)]).toNat = _
  rw [pairs_nat]
end Mine
end
section
set_option maxRecDepth 100000
namespace Mine

theorem band_one (n i : Nat) : n &&& 2 ^ i = 2 ^ i * (n / 2 ^ i % 2) := by
  have hb : n.testBit i = decide (n / 2 ^ i % 2 = 1) := Nat.testBit_eq_decide_div_mod_eq
  have h2 : n / 2 ^ i % 2 = 0 ∨ n / 2 ^ i % 2 = 1 := by omega
  apply Nat.eq_of_testBit_eq
  intro j
  rw [Nat.testBit_and, Nat.testBit_two_pow]
  rcases h2 with h | h
  · rw [h, Nat.mul_zero, Nat.zero_testBit]
    by_cases hij : i = j
    · subst hij; rw [hb, h]; simp
    · simp [hij]
  · rw [h, Nat.mul_one, Nat.testBit_two_pow]
    by_cases hij : i = j
    · subst hij; rw [hb, h]; simp
    · simp [hij]
theorem band_int (n k : Nat) : Builtin.bitAnd (n : Int) (k : Int) = ((n &&& k : Nat) : Int) := by
  unfold Builtin.bitAnd
  have h1 : decide (0 ≤ (n : Int)) = true := by simp
  have h2 : decide (0 ≤ (k : Int)) = true := by simp
  rw [h1, h2]
  simp
noncomputable def bitN (n i : Nat) : Nat := n / 2 ^ i % 2
theorem bitN_two (n i : Nat) : bitN n i = 0 ∨ bitN n i = 1 := by unfold bitN; omega
theorem band1 (n i : Nat) : Builtin.bitAnd (n : Int) ((2 ^ i : Nat) : Int) = ((2 ^ i * bitN n i : Nat) : Int) := by rw [band_int, band_one]; rfl
theorem band2 (n i j k : Nat) (hk : k = 2 ^ i ||| 2 ^ j) : Builtin.bitAnd (n : Int) (k : Int) = (((2 ^ i * bitN n i) ||| (2 ^ j * bitN n j) : Nat) : Int) := by
  rw [band_int, hk, Nat.and_or_distrib_left, band_one, band_one]; rfl

noncomputable def tR : List Nat := [45, 114]
noncomputable def tW : List Nat := [45, 119]
noncomputable def tX : List Nat := [45, 83, 115, 120]
noncomputable def tT : List Nat := [45, 84, 116, 120]
noncomputable def tK : List Nat := [45, 63, 98, 99, 100, 108, 112, 115]
noncomputable def rxN (u v : Nat) : Nat := if v = 0 then u else 3 - u
theorem zero_ne {k : Nat} (h : 0 < k) : (((0 : Nat) : Int) == ((k : Nat) : Int)) = false := by simp; omega
theorem char_b (c : Str) (t : List Nat) (h0 : ("-" : Str).cps.toList = [t.getD 0 0]) (h1 : c.cps.toList = [t.getD 1 0]) (n i : Nat) (m z : Int) (k : Nat) (hm : m = (n : Int)) (hz : (z == 0) = false) (hk : k = 2 ^ i) : (charI z [((k : Int), c)] m).cps.toList = [t.getD (bitN n i) 0] := by
  subst hm hk
  unfold charI
  rw [List.find?_cons, hz]
  simp only [Bool.false_eq_true, if_false]
  rw [band1]
  rcases bitN_two n i with h | h
  · rw [h, Nat.mul_zero, zero_ne (Nat.pow_pos (by decide))]
    exact h0
  · rw [h, Nat.mul_one, beq_self_eq_true]
    exact h1
theorem char_r (n i : Nat) (m z : Int) (k : Nat) (hm : m = (n : Int)) (hz : (z == 0) = false) (hk : k = 2 ^ i) : (charI z [((k : Int), "r")] m).cps.toList = [tR.getD (bitN n i) 0] := char_b "r" tR (by kernel_rfl) (by kernel_rfl) n i m z k hm hz hk
theorem char_w (n i : Nat) (m z : Int) (k : Nat) (hm : m = (n : Int)) (hz : (z == 0) = false) (hk : k = 2 ^ i) : (charI z [((k : Int), "w")] m).cps.toList = [tW.getD (bitN n i) 0] := char_b "w" tW (by kernel_rfl) (by kernel_rfl) n i m z k hm hz hk
theorem char_x (n : Nat) (m z : Int) (hm : m = (n : Int)) (hz : (z == 0) = false) : (charI z [(2112, "s"), (2048, "S"), (64, "x")] m).cps.toList = [tX.getD (rxN (bitN n 11) (bitN n 6)) 0] := by
  subst hm
  unfold charI
  rw [List.find?_cons, List.find?_cons, List.find?_cons, hz]
  simp only [Bool.false_eq_true, if_false]
  have e1 := band2 n 11 6 2112 (by decide)
  have e2 := band1 n 11
  have e3 := band1 n 6
  rw [show ((2112 : Int)) = ((2112 : Nat) : Int) from rfl, show ((2048 : Int)) = ((2 ^ 11 : Nat) : Int) from rfl, show ((64 : Int)) = ((2 ^ 6 : Nat) : Int) from rfl, e1, e2, e3]
  rcases bitN_two n 11 with h | h <;> rcases bitN_two n 6 with h' | h' <;> rw [h, h'] <;> kernel_rfl
theorem char_x2 (n : Nat) (m z : Int) (hm : m = (n : Int)) (hz : (z == 0) = false) : (charI z [(1032, "s"), (1024, "S"), (8, "x")] m).cps.toList = [tX.getD (rxN (bitN n 10) (bitN n 3)) 0] := by
  subst hm
  unfold charI
  rw [List.find?_cons, List.find?_cons, List.find?_cons, hz]
  simp only [Bool.false_eq_true, if_false]
  have e1 := band2 n 10 3 1032 (by decide)
  have e2 := band1 n 10
  have e3 := band1 n 3
  rw [show ((1032 : Int)) = ((1032 : Nat) : Int) from rfl, show ((1024 : Int)) = ((2 ^ 10 : Nat) : Int) from rfl, show ((8 : Int)) = ((2 ^ 3 : Nat) : Int) from rfl, e1, e2, e3]
  rcases bitN_two n 10 with h | h <;> rcases bitN_two n 3 with h' | h' <;> rw [h, h'] <;> kernel_rfl
theorem char_t (n : Nat) (m z : Int) (hm : m = (n : Int)) (hz : (z == 0) = false) : (charI z [(513, "t"), (512, "T"), (1, "x")] m).cps.toList = [tT.getD (rxN (bitN n 9) (bitN n 0)) 0] := by
  subst hm
  unfold charI
  rw [List.find?_cons, List.find?_cons, List.find?_cons, hz]
  simp only [Bool.false_eq_true, if_false]
  have e1 := band2 n 9 0 513 (by decide)
  have e2 := band1 n 9
  have e3 := band1 n 0
  rw [show ((513 : Int)) = ((513 : Nat) : Int) from rfl, show ((512 : Int)) = ((2 ^ 9 : Nat) : Int) from rfl, show ((1 : Int)) = ((2 ^ 0 : Nat) : Int) from rfl, e1, e2, e3]
  rcases bitN_two n 9 with h | h <;> rcases bitN_two n 0 with h' | h' <;> rw [h, h'] <;> kernel_rfl
theorem band_top (n : Nat) (hn : n < 65536) : Builtin.bitAnd (n : Int) 61440 = ((4096 * (n / 4096) : Nat) : Int) := by
  have e0 : (61440 : Int) = ((61440 : Nat) : Int) := rfl
  rw [e0, band_int, ← Nat.div_add_mod (n &&& 61440) (2 ^ 12), Nat.and_div_two_pow, Nat.and_mod_two_pow]
  have e1 : (61440 : Nat) / 2 ^ 12 = 2 ^ 4 - 1 := rfl
  have e2 : (61440 : Nat) % 2 ^ 12 = 0 := rfl
  rw [e1, e2, Nat.and_zero, Nat.and_two_pow_sub_one_eq_mod, Nat.mod_eq_of_lt (Nat.div_lt_of_lt_mul hn)]
  rfl
theorem char_k (n : Nat) (m : Int) (hm : m = (n : Int)) (hn : n < 65536) : (charI 0 [(40960, "l"), (49152, "s"), (32768, "-"), (24576, "b"), (16384, "d"), (8192, "c"), (4096, "p")] m).cps.toList = [tK.getD (kindR m).toNat 0] := by
  subst hm
  unfold charI kindR
  have e : (Int.fdiv (n : Int) 4096).toNat = n / 4096 := by
    have : Int.fdiv (n : Int) 4096 = ((n / 4096 : Nat) : Int) := by rw [Int.fdiv_eq_ediv_of_nonneg _ (by decide)]; rfl
    rw [this]; rfl
  rw [e, band_top n hn]
  have hk : n / 4096 < 16 := by omega
  generalize n / 4096 = k at hk
  match k, hk with
  | 0, _ => kernel_rfl
  | 1, _ => kernel_rfl
  | 2, _ => kernel_rfl
  | 3, _ => kernel_rfl
  | 4, _ => kernel_rfl
  | 5, _ => kernel_rfl
  | 6, _ => kernel_rfl
  | 7, _ => kernel_rfl
  | 8, _ => kernel_rfl
  | 9, _ => kernel_rfl
  | 10, _ => kernel_rfl
  | 11, _ => kernel_rfl
  | 12, _ => kernel_rfl
  | 13, _ => kernel_rfl
  | 14, _ => kernel_rfl
  | 15, _ => kernel_rfl
  | k + 16, hk => omega
end Mine
end
section
set_option maxRecDepth 100000
namespace Mine

theorem join0_cps : ∀ l : List Str, (Str.join "" l).cps.toList = l.flatMap fun x => x.cps.toList
  | [] => rfl
  | [x] => by simp [Str.join]
  | x :: y :: r => by
    show (x ++ "" ++ Str.join "" (y :: r)).cps.toList = _
    have e0 : ("" : Str).cps.toList = [] := rfl
    rw [append_cps, append_cps, join0_cps (y :: r), e0, List.append_nil]
    rfl
theorem file_cps (m : Int) : (fileS m).cps.toList = (charsFrom m 0 modeTab).flatMap fun x => x.cps.toList := by
  unfold fileS
  have e : Txt.join "" (charsFrom m 0 modeTab) = Str.join "" (charsFrom m 0 modeTab) := StrLaws.glued_eq_join _ _
  rw [e, join0_cps]
theorem char_len {z : Int} {t : List (Int × Str)} {m : Int} (h : ∀ r ∈ t, r.2.length = 1) : (charI z t m).length = 1 := by
  unfold charI
  split
  · rename_i r hr
    exact h r (List.mem_of_find?_eq_some hr)
  · split <;> rfl
theorem chars_len (m : Int) : ∀ (ts : List (List (Int × Str))) (z : Int), (∀ t ∈ ts, ∀ r ∈ t, r.2.length = 1) → ((charsFrom m z ts).flatMap fun x => x.cps.toList).length = ts.length
  | [], _, _ => rfl
  | t :: ts, z, h => by
    show ((charI z t m).cps.toList ++ ((charsFrom m (z + 1) ts).flatMap fun x => x.cps.toList)).length = _
    rw [List.length_append, ← len_cps, char_len (h t (.head _)), chars_len m ts (z + 1) fun t ht => h t (.tail _ ht), List.length_cons]
    omega
theorem file_len (m : Int) : (fileS m).length = 10 := by
  rw [len_cps, file_cps, chars_len m modeTab 0 (by decide +kernel)]
  rfl

noncomputable def tabs : List (List Nat) := [tK, tR, tW, tX, tR, tW, tX, tR, tW, tT]
noncomputable def ranksN (n : Nat) : List Nat := [(kindR n).toNat, bitN n 8, bitN n 7, rxN (bitN n 11) (bitN n 6), bitN n 5, bitN n 4, rxN (bitN n 10) (bitN n 3), bitN n 2, bitN n 1, rxN (bitN n 9) (bitN n 0)]
noncomputable def codesOf : List (List Nat) → List Nat → List Nat
  | t :: ts, x :: xs => t.getD x 0 :: codesOf ts xs
  | _, _ => []
theorem file_codes (n : Nat) (hn : n < 65536) : (fileS n).cps.toList = codesOf tabs (ranksN n) := by
  rw [file_cps]
  have e : charsFrom n 0 modeTab = [charI 0 [(40960, "l"), (49152, "s"), (32768, "-"), (24576, "b"), (16384, "d"), (8192, "c"), (4096, "p")] n, charI 1 [((256 : Nat), "r")] n, charI 2 [((128 : Nat), "w")] n, charI 3 [(2112, "s"), (2048, "S"), (64, "x")] n, charI 4 [((32 : Nat), "r")] n, charI 5 [((16 : Nat), "w")] n, charI 6 [(1032, "s"), (1024, "S"), (8, "x")] n, charI 7 [((4 : Nat), "r")] n, charI 8 [((2 : Nat), "w")] n, charI 9 [(513, "t"), (512, "T"), (1, "x")] n] := rfl
  rw [e]
  simp only [List.flatMap_cons, List.flatMap_nil]
  rw [char_k n _ rfl hn, char_r n 8 _ _ _ rfl (by decide) (by decide), char_w n 7 _ _ _ rfl (by decide) (by decide), char_x n _ _ rfl (by decide), char_r n 5 _ _ _ rfl (by decide) (by decide), char_w n 4 _ _ _ rfl (by decide) (by decide), char_x2 n _ _ rfl (by decide), char_r n 2 _ _ _ rfl (by decide) (by decide), char_w n 1 _ _ _ rfl (by decide) (by decide), char_t n _ _ rfl (by decide)]
  rfl
theorem kind_range (m : Int) : 0 ≤ kindR m ∧ kindR m < 8 := by
  have h : ∀ z ∈ ([1, 6, 3, 1, 4, 1, 2, 1, 0, 1, 5, 1, 7, 1, 1, 1] : List Int), 0 ≤ z ∧ z < 8 := by decide
  unfold kindR
  rw [List.getD_eq_getElem?_getD]
  cases e : ([1, 6, 3, 1, 4, 1, 2, 1, 0, 1, 5, 1, 7, 1, 1, 1] : List Int)[(m.fdiv 4096).toNat]? with
  | none => decide
  | some z => exact h z (List.mem_of_getElem? e)
theorem rx_int (u v : Nat) (hu : u = 0 ∨ u = 1) (hv : v = 0 ∨ v = 1) : (if ((v : Int) == 0) = true then (u : Int) else 3 - (u : Int)) = ((rxN u v : Nat) : Int) := by
  rcases hu with rfl | rfl <;> rcases hv with rfl | rfl <;> rfl
theorem bits3 (m : Nat) : m % 8 / 4 = m / 4 % 2 ∧ m % 8 / 2 % 2 = m / 2 % 2 ∧ m % 8 % 2 = m % 2 :=
  ⟨Nat.mod_mul_right_div_self m 4 2, (congrArg (· % 2) (Nat.mod_mul_right_div_self m 2 4)).trans (Nat.mod_mod_of_dvd _ (by decide)), Nat.mod_mod_of_dvd _ (by decide)⟩
theorem bitN_up (n a j : Nat) : n / 2 ^ a / 2 ^ j % 2 = bitN n (a + j) := by unfold bitN; rw [Nat.div_div_eq_div_mul, Nat.pow_add]
theorem div_nat (m k : Nat) : ((m : Nat) : Int).fdiv (k : Nat) = ((m / k : Nat) : Int) := by rw [Int.fdiv_eq_ediv_of_nonneg _ (Int.natCast_nonneg k)]; rfl
theorem mod_nat (m k : Nat) : ((m : Nat) : Int).fmod (k : Nat) = ((m % k : Nat) : Int) := by rw [Int.fmod_eq_emod_of_nonneg _ (Int.natCast_nonneg k)]; rfl
theorem three_nat (n k a i : Nat) (hp : (8 : Int) ^ (2 - k) = ((2 ^ a : Nat) : Int)) (hi : (2 : Int) ^ (11 - k) = ((2 ^ i : Nat) : Int)) :
    threeI (n : Int) k = [((bitN n (a + 2) : Nat) : Int), ((bitN n (a + 1) : Nat) : Int), ((rxN (bitN n i) (bitN n a) : Nat) : Int)] := by
  have e1 : rightsI (n : Int) k = ((n / 2 ^ a % 8 : Nat) : Int) := by
    unfold rightsI
    rw [hp, div_nat]
    exact mod_nat _ 8
  have e2 : aboveI (n : Int) k = ((bitN n i : Nat) : Int) := by
    unfold aboveI bitN
    rw [hi, div_nat]
    exact mod_nat _ 2
  obtain ⟨b1, b2, b3⟩ := bits3 (n / 2 ^ a)
  have f1 : (((n / 2 ^ a % 8 : Nat) : Int)).fdiv 4 = ((bitN n (a + 2) : Nat) : Int) := (div_nat _ 4).trans (by rw [b1, ← bitN_up n a 2])
  have f2 : ((((n / 2 ^ a % 8 : Nat) : Int)).fdiv 2).fmod 2 = ((bitN n (a + 1) : Nat) : Int) := (congrArg (Int.fmod · 2) (div_nat _ 2)).trans ((mod_nat _ 2).trans (by rw [b2, ← bitN_up n a 1, Nat.pow_one]))
  have f3 : (((n / 2 ^ a % 8 : Nat) : Int)).fmod 2 = ((bitN n a : Nat) : Int) := (mod_nat _ 2).trans (by rw [b3]; rfl)
  unfold threeI
  rw [e1, e2, f1, f2, f3, rx_int _ _ (bitN_two n i) (bitN_two n a)]
theorem rank_nat (n : Nat) : rankS (n : Int) = (ranksN n).map fun x : Nat => (x : Int) := by
  unfold rankS ranksN
  rw [three_nat n 0 6 11 (by decide) (by decide), three_nat n 1 3 10 (by decide) (by decide), three_nat n 2 0 9 (by decide) (by decide)]
  have hk : kindR (n : Int) = (((kindR (n : Int)).toNat : Nat) : Int) := (Int.toNat_of_nonneg (kind_range (n : Int)).1).symm
  conv => lhs; rw [hk]
  rfl

noncomputable def MonoT (t : List Nat) : Prop := ∀ j < t.length, ∀ i < j, t.getD i 0 < t.getD j 0
inductive Fits : List (List Nat) → List Nat → Prop
  | nil : Fits [] []
  | cons {t : List Nat} {ts : List (List Nat)} {x : Nat} {xs : List Nat} : x < t.length → Fits ts xs → Fits (t :: ts) (x :: xs)
theorem rx_lt (u v : Nat) (hu : u = 0 ∨ u = 1) (hv : v = 0 ∨ v = 1) : rxN u v < 4 := by
  rcases hu with rfl | rfl <;> rcases hv with rfl | rfl <;> decide
theorem ranks_fit (n : Nat) : Fits tabs (ranksN n) := by
  have b : ∀ i, bitN n i < 2 := fun i => by have := bitN_two n i; omega
  have r : ∀ i j, rxN (bitN n i) (bitN n j) < 4 := fun i j => rx_lt _ _ (bitN_two n i) (bitN_two n j)
  have k := kind_range (n : Int)
  refine .cons (by show (kindR (n : Int)).toNat < 8; omega) (.cons (b 8) (.cons (b 7) (.cons (r 11 6) (.cons (b 5) (.cons (b 4) (.cons (r 10 3) (.cons (b 2) (.cons (b 1) (.cons (r 9 0) .nil)))))))))
theorem tabs_mono : ∀ t ∈ tabs, MonoT t := by unfold MonoT; decide
theorem lex_codes (a b : Str) : ∀ (ts : List (List Nat)) (l l' : List Nat), (∀ t ∈ ts, MonoT t) → Fits ts l → Fits ts l' →
    lexL .Gt ((l.map fun x : Nat => (x : Int)).map D.int ++ [.str a]) ((l'.map fun x : Nat => (x : Int)).map D.int ++ [.str b]) = some (decide (codesOf ts l' ++ b.cps.toList < codesOf ts l ++ a.cps.toList)) := by
  intro ts
  induction ts with
  | nil =>
    intro l l' _ h1 h2
    cases h1; cases h2
    show (if (D.str a).eqv (.str b) = true then lexEnd .Gt 0 0 else cmp1 .Gt (.str a) (.str b)) = some (decide (b.cps.toList < a.cps.toList))
    rw [str_eqv]
    by_cases h : a = b
    · subst h
      rw [if_pos (by simp)]
      show some (decide (0 > 0)) = _
      congr 1
      rw [Bool.eq_iff_iff, decide_eq_true_eq, decide_eq_true_eq]
      exact ⟨fun q => absurd q (Nat.lt_irrefl _), fun q => absurd q (List.lt_irrefl _)⟩
    · rw [if_neg (by simpa using h)]
      rfl
  | cons t ts ih =>
    intro l0 l0' hm h1 h2
    cases h1 with
    | @cons _ _ x l hx fl => cases h2 with
      | @cons _ _ y l' hy fl' =>
        have ih := ih l l' (fun t ht => hm t (.tail _ ht)) fl fl'
        show (if (D.int (x : Int)).eqv (.int (y : Int)) = true then lexL .Gt ((l.map fun x : Nat => (x : Int)).map D.int ++ [.str a]) ((l'.map fun x : Nat => (x : Int)).map D.int ++ [.str b]) else some (decide ((x : Int) > (y : Int)))) = some (decide (t.getD y 0 :: (codesOf ts l' ++ b.cps.toList) < t.getD x 0 :: (codesOf ts l ++ a.cps.toList)))
        have he : (D.int (x : Int)).eqv (.int (y : Int)) = ((x : Int) == (y : Int)) := by kernel_rfl
        rw [he]
        by_cases h : x = y
        · subst h
          rw [if_pos (by simp), ih]
          congr 1
          rw [Bool.eq_iff_iff, decide_eq_true_eq, decide_eq_true_eq, List.cons_lt_cons_iff]
          exact ⟨fun q => .inr ⟨rfl, q⟩, fun q => q.elim (fun q => absurd q (Nat.lt_irrefl _)) fun q => q.2⟩
        · rw [if_neg (by rw [beq_iff_eq]; omega)]
          congr 1
          rw [Bool.eq_iff_iff, decide_eq_true_eq, decide_eq_true_eq, List.cons_lt_cons_iff]
          have m1 := hm t (.head _)
          constructor
          · intro q
            exact .inl (m1 x hx y (by omega))
          · intro q
            rcases Nat.lt_trichotomy x y with g | g | g
            · have := m1 y hy x g
              rcases q with q | q
              · omega
              · omega
            · exact absurd g h
            · omega

theorem rk_row (m m' : Int) (p p' : Pa) (h : 0 ≤ m ∧ m < 65536) (h' : 0 ≤ m' ∧ m' < 65536) : rkGt m p m' p' = gtS (rowN m p) (rowN m' p') := by
  obtain ⟨n, rfl⟩ : ∃ n : Nat, m = (n : Int) := ⟨m.toNat, by omega⟩
  obtain ⟨n', rfl⟩ : ∃ n : Nat, m' = (n : Int) := ⟨m'.toNat, by omega⟩
  have hn : n < 65536 := by omega
  have hn' : n' < 65536 := by omega
  have key := lex_codes (pth p) (pth p') tabs (ranksN n) (ranksN n') tabs_mono (ranks_fit n) (ranks_fit n')
  rw [← rank_nat, ← rank_nat, ← file_codes n hn, ← file_codes n' hn', ← append_cps, ← append_cps] at key
  unfold rkGt
  have e : cmpD .Gt (rkD (n : Int) p) (rkD (n' : Int) p') = lexL .Gt ((rankS (n : Int)).map D.int ++ [.str (pth p)]) ((rankS (n' : Int)).map D.int ++ [.str (pth p')]) := by
    show (if (D.ok deep (rkD (n : Int) p) && D.ok deep (rkD (n' : Int) p')) = true then lexL .Gt _ _ else none) = _
    rw [ok_rk, ok_rk]; rfl
  rw [e, key, gtS_dec]
  rfl
theorem row_inj {m m' : Int} {p p' : Pa} (h1 : ∀ x ∈ p, x < 5) (h2 : ∀ x ∈ p', x < 5) (h : rowN m p = rowN m' p') : p = p' := by
  have := congrArg (fun s : Str => s.cps.toList) h
  unfold rowN at this
  simp only [append_cps] at this
  have hl : (fileS m).cps.toList.length = (fileS m').cps.toList.length := by rw [← len_cps, ← len_cps, file_len, file_len]
  exact pth_inj' h1 h2 (cps_inj (List.append_inj this hl).2)
end Mine
end
section
set_option maxRecDepth 100000
namespace Mine

theorem small_each : ∀ sh ∈ shapes, ∀ k < 24, small (prodS (1 + (k : Nat)) 1 (hooksI sh)) = true := by decide +kernel
theorem small_whole : ∀ k < 24, small (prodS (1 + (k : Nat)) 1 [1, 2, 3, 4, 5]) = true := by decide +kernel
theorem hooks_five : ∀ sh ∈ shapes, 5 ≤ (hooksI sh).sum := by decide +kernel
theorem fall4 (g : Nat → Bool) (h : Nat → Nat) : fallSum ([1, 2, 3, 4].map fun k => (h k, g k)) = ([1, 2, 3, 4].filter g).foldl (fun s k => s + h k) 0 := by
  cases h1 : g 1 <;> cases h2 : g 2 <;> cases h3 : g 3 <;> cases h4 : g 4 <;> simp [fallSum, h1, h2, h3, h4] <;> omega
theorem Tree.find (t : Tree ps sh) (mo : Nat → Int) {a : Nat} (ha : a < 5) : ∀ l : List Nat, low l → a ∈ l → (l.map fun i => (mo i, at' ps i)).find? (fun e => e.2 == at' ps a) = some (mo a, at' ps a)
  | [], _, h => nomatch h
  | i :: l, hl, h => by
    rw [List.map_cons, List.find?_cons]
    by_cases hia : i = a
    · subst hia
      have : (at' ps i == at' ps i) = true := by simp
      rw [this]
    · have : (at' ps i == at' ps a) = false := by
        rw [beq_eq_false_iff_ne]
        exact fun q => hia (t.inj (hl i (.head _)) ha q)
      rw [this]
      refine Tree.find t mo ha l (fun j hj => hl j (.tail _ hj)) ?_
      rcases List.mem_cons.mp h with q | q
      · exact absurd q.symm hia
      · exact q
theorem Tree.rowLaw (t : Tree ps sh) (mo : Nat → Int) (hmo : ∀ i, 0 ≤ mo i ∧ mo i < 65536) (xs : List Int) (hx : ∀ k, 1 ≤ k → k < 5 → ((xs.getD k 0).fmod k).toNat = prI sh k) (q : Int) :
    prodS q 1 (hooksN ps) * byRows q ([0, 1, 2, 3, 4].map fun i => (mo i, at' ps i)) (ordersN ps) = q ^ fallSum (fallN xs ps ([0, 1, 2, 3, 4].map fun i => (mo i, at' ps i))) * prodS q 1 [1, 2, 3, 4, 5] := by
  have hdig : ∀ i, i < 5 → ∀ x ∈ at' ps i, x < 5 := fun i hi => (t.good _ (t.mem hi)).dig
  have s : Strict fun i j => gtS (rowN (mo i) (at' ps i)) (rowN (mo j) (at' ps j)) := strict_of fun i j hi hj h => t.inj hi hj (row_inj (hdig i hi) (hdig j hj) h)
  have h := t.rows s q
  have e1 : byRows q ([0, 1, 2, 3, 4].map fun i => (mo i, at' ps i)) (ordersN ps) = ((ordersI sh).map fun o => q ^ fallsI (fun i j => gtS (rowN (mo i) (at' ps i)) (rowN (mo j) (at' ps j))) o).sum := by
    unfold byRows
    rw [t.orders, List.map_map]
    congr 1
    refine List.map_congr_left fun o ho => ?_
    obtain ⟨_, h5, hl⟩ := orders_fine sh t.shp o ho
    obtain ⟨a, b, c, d, e, rfl⟩ := five h5
    have hr : ∀ i ∈ [a, b, c, d, e], rowOf' ([0, 1, 2, 3, 4].map fun i => (mo i, at' ps i)) (at' ps i) = rowN (mo i) (at' ps i) := fun i hi => by
      have i5 := hl i hi
      unfold rowOf'
      rw [t.find mo i5 _ low5 (by
        have : ∀ x < 5, x ∈ [0, 1, 2, 3, 4] := by decide
        exact this i i5)]
      rfl
    simp only [List.mem_cons, List.not_mem_nil, or_false, forall_eq_or_imp, forall_eq] at hr
    show q ^ fallsO _ ([a, b, c, d, e].map (at' ps)) = _
    unfold fallsO
    rw [fallsI_nat]
    show q ^ (fallsS (rowOf' _ (at' ps a)) (rowOf' _ (at' ps b)) (rowOf' _ (at' ps c)) (rowOf' _ (at' ps d)) (rowOf' _ (at' ps e))).toNat = _
    rw [hr.1, hr.2.1, hr.2.2.1, hr.2.2.2.1, hr.2.2.2.2, falls_nat]
  have e2 : fallSum (fallN xs ps ([0, 1, 2, 3, 4].map fun i => (mo i, at' ps i))) = fallE sh (fun i j => gtS (rowN (mo i) (at' ps i)) (rowN (mo j) (at' ps j))) (hooksI sh) := by
    have hf : fallN xs ps ([0, 1, 2, 3, 4].map fun i => (mo i, at' ps i)) = [1, 2, 3, 4].map fun k => (hookI sh k, gtS (rowN (mo k) (at' ps k)) (rowN (mo (prI sh k)) (at' ps (prI sh k)))) := by
      unfold fallN
      refine List.map_congr_left fun k hk => ?_
      have hk5 : 1 ≤ k ∧ k < 5 := by
        have : ∀ x ∈ [1, 2, 3, 4], 1 ≤ x ∧ x < 5 := by decide
        exact this k hk
      have hp := t.pr hk5.2 hk5.1
      have hg : ∀ i, i < 5 → ([0, 1, 2, 3, 4].map fun i => (mo i, at' ps i)).getD i (0, []) = (mo i, at' ps i) := fun i hi => by
        match i, hi with
        | 0, _ => rfl
        | 1, _ => rfl
        | 2, _ => rfl
        | 3, _ => rfl
        | 4, _ => rfl
      rw [hx k hk5.1 hk5.2]
      unfold gtAt
      rw [hg k hk5.2, hg _ (by omega), rk_row _ _ _ _ (hmo _) (hmo _)]
      show (hookN ps (at' ps k), _) = _
      rw [t.hook hk5.2]
    rw [hf, fall4 (fun k => gtS (rowN (mo k) (at' ps k)) (rowN (mo (prI sh k)) (at' ps (prI sh k)))) (hookI sh)]
    unfold fallE
    have hh : ∀ k, k < 5 → (hooksI sh).getD k 0 = hookI sh k := fun k hk => by
      match k, hk with
      | 0, _ => rfl
      | 1, _ => rfl
      | 2, _ => rfl
      | 3, _ => rfl
      | 4, _ => rfl
    have fold : ∀ (l : List Nat) (s : Nat), (∀ k ∈ l, k < 5) → l.foldl (fun s k => s + hookI sh k) s = l.foldl (fun s k => s + (hooksI sh).getD k 0) s := fun l => by
      induction l with
      | nil => intro s _; rfl
      | cons k l ih =>
        intro s hl
        rw [List.foldl_cons, List.foldl_cons, hh k (hl k (.head _)), ih _ fun j hj => hl j (.tail _ hj)]
    refine fold _ 0 fun k hk => ?_
    have : ∀ x ∈ [1, 2, 3, 4], x < 5 := by decide
    exact this k (List.mem_filter.mp hk).1
  rw [t.hooks, e1, e2]
  exact h

theorem law_true (P : Params) (script : List Int) (hl : script.length ≤ 63) : Gives (.bool true) (runFar P tab8 262 ["script"] [.arg script]) := by
  obtain ⟨x0, x1, x2, x3, x4, hx⟩ := five (show (cellsS script).length = 5 from rfl)
  have t := tree_of x0 x1 x2 x3 x4
  obtain ⟨p0, p1, p2, p3, p4, hps⟩ := five t.len
  have hb := t.hooks
  have H2 := t.pathLaw (1 + x0.fmod 24)
  have H1 := t.rowLaw (fun i => modeN ([x0, x1, x2, x3, x4].getD i 0)) (fun i => mode_ok _) [x0, x1, x2, x3, x4] (fun k h1 h5 => by
    match k, h1, h5 with
    | 1, _, _ =>
      show (x1.fmod 1).toNat = 0
      have q0 : 0 ≤ x1.fmod 1 := Int.fmod_nonneg_of_pos _ (by decide)
      have q1 : x1.fmod 1 < 1 := Int.fmod_lt_of_pos _ (by decide)
      omega
    | 2, _, _ => rfl
    | 3, _, _ => rfl
    | 4, _, _ => rfl) (1 + x0.fmod 24)
  have hsh := t.shp
  have hg := t.good
  have hnd := t.nd
  rw [hps] at hb H1 H2 hg hnd
  have hq0 : 0 ≤ x0.fmod 24 := Int.fmod_nonneg_of_pos _ (by decide)
  have hq1 : x0.fmod 24 < 24 := Int.fmod_lt_of_pos _ (by decide)
  have hk : x0.fmod 24 = (((x0.fmod 24).toNat : Nat) : Int) := by omega
  refine law_def P script hl x0 x1 x2 x3 x4 hx p0 p1 p2 p3 p4 hps hg hnd (fun m => by rw [file_len]; decide) H1 H2 ?_ ?_ ?_
  · rw [hb, hk]; exact small_each _ hsh _ (by omega)
  · rw [hb]; exact hooks_five _ hsh
  · rw [hk]; exact small_whole _ (by omega)
end Mine
end
section
set_option maxRecDepth 100000
namespace Mine
noncomputable def vInt? : Value → Option Int
  | .int j _ => some j
  | _ => none
theorem vInt_eq {v : Value} : Ret (vInt? v) fun j => ∃ t, v = .int j t := by cases v <;> first | exact .some ⟨_, rfl⟩ | exact .none
noncomputable def vStr? : Value → Option Str
  | .str j _ => some j
  | _ => none
theorem vStr_eq {v : Value} : Ret (vStr? v) fun j => ∃ t, v = .str j t := by cases v <;> first | exact .some ⟨_, rfl⟩ | exact .none
noncomputable def vRef? : Value → Option Addr
  | .ref a => some a
  | _ => none
theorem vRef_eq {v : Value} : Ret (vRef? v) fun a => v = .ref a := by cases v <;> first | exact .some rfl | exact .none
noncomputable def seqOf? (o : Obj) : Option (Array Value) := match o.data with
  | .seq vs _ => some vs
  | _ => none
theorem seqOf_eq {o : Obj} : Ret (seqOf? o) fun vs => ∃ m, o.data = .seq vs m := by
  obtain ⟨c, d, dat, sl⟩ := o
  cases dat <;> first | exact .some ⟨_, rfl⟩ | exact .none
noncomputable def repK (K : Frag) : Nat → D → Value → Option Unit
  | 0 => fun _ _ => none
  | n + 1 => fun d v => match d with
    | .int i => (vInt? v).bind fun j => if i == j then some () else none
    | .str x => (vStr? v).bind fun y => if x == y then some () else none
    | .tup ds => (vRef? v).bind fun a => (K.lookup a).bind fun o => (seqOf? o).bind fun vs => if o.cls == .type "tuple" && (o.dict.isNone && (ds.length == vs.size && (ds.zip vs.toList).all fun e => (repK K n e.1 e.2).isSome)) then some () else none
    | _ => none
theorem reps_zip {g : View} : ∀ {ds : List D} {vs : List Value}, ds.length = vs.length → (∀ e ∈ ds.zip vs, Rep g e.1 e.2) → Reps g ds vs
  | [], [], _, _ => rfl
  | [], _ :: _, h, _ => nomatch h
  | _ :: _, [], h, _ => nomatch h
  | d :: ds, v :: vs, hl, h => ⟨v, vs, rfl, h (d, v) (.head _), reps_zip (Nat.succ.inj hl) fun e he => h e (.tail _ he)⟩
theorem repK_ok {K : Frag} {h : Heap} (X : K.In h) (n : Nat) : ∀ (d : D) (v : Value), Ret (repK K n d v) fun _ => Rep (fun a => h.get? a) d v := by
  induction n with
  | zero => exact fun _ _ => .none
  | succ n ih =>
    intro d v
    cases d with
    | int i => exact .bind fun j hj => .ite fun e => .some (by rw [beq_iff_eq.mp e]; exact vInt_eq j hj)
    | str x => exact .bind fun j hj => .ite fun e => .some (by rw [beq_iff_eq.mp e]; exact vStr_eq j hj)
    | tup ds =>
      refine .bind fun a ha => .bind fun o hl => .bind fun vs hv => .ite fun e => .some ?_
      obtain ⟨m, hm⟩ := seqOf_eq vs hv
      have z := and_t e
      have z1 := and_t z.2
      have z2 := and_t z1.2
      exact ⟨a, vs.toList, vRef_eq a ha, ⟨o, m, X a _ hl, eq_of_beq z.1, hm, Option.isNone_iff_eq_none.mp z1.1⟩, reps_zip (beq_iff_eq.mp z2.1) fun e he => by
        obtain ⟨u, hu⟩ := Option.isSome_iff_exists.mp (List.all_eq_true.mp z2.2 e he)
        exact ih _ _ u hu⟩
    | _ => exact .none
end Mine
end
section
set_option maxRecDepth 100000
set_option maxHeartbeats 0
namespace Mine
theorem fn_all {α : Type} {l : List (Str × α)} {Pz : Str → α → Prop} (h : ∀ e ∈ l, Pz e.1 e.2) : ∀ n F, l.lookup n = some F → Pz n F := fun n F e => h (n, F) (mem_of_lookup e)
theorem ofS {g : Str → Str → Option D} {F' : Fn} (h : ∀ x y, Ret (g x y) fun r => F' [.str x, .str y] = some r) : ∀ ds d, strs2 g ds = some d → F' ds = some d := of2 fun d e => .bind fun x hx => .bind fun y hy => by
  cases asStr_eq _ hx
  cases asStr_eq _ hy
  exact h x y
theorem bind_of {K : Frag} {f : Addr} {fd : FuncData} {vals : List Value} {r : Sem (List (Str × Value))} (hf : fdAt K f = some fd) (h : bindAt K f vals = r) : bindArgs fd ⟨vals, []⟩ = r := by
  unfold bindAt at h
  rw [hf] at h
  exact h
theorem bind1 {K : Frag} {f : Addr} {x : Str} (h : ∀ v, bindAt K f [v] = pure ([x].zip [v])) : ∀ fd, fdAt K f = some fd → ∀ vals : List Value, vals.length = [x].length → bindArgs fd ⟨vals, []⟩ = pure ([x].zip vals) := fun fd hf vals hl => by
  obtain ⟨v, rfl⟩ := List.length_eq_one_iff.mp hl
  exact bind_of hf (h v)
theorem bind2 {K : Frag} {f : Addr} {x y : Str} (h : ∀ v u, bindAt K f [v, u] = pure ([x, y].zip [v, u])) : ∀ fd, fdAt K f = some fd → ∀ vals : List Value, vals.length = [x, y].length → bindArgs fd ⟨vals, []⟩ = pure ([x, y].zip vals) := fun fd hf vals hl => by
  obtain ⟨v, u, rfl⟩ := len2 hl
  exact bind_of hf (h v u)
section
variable {P : Params} {b : Base} {p : Program} {loose : List Str} {mg mb : Str → Option Value} {k : Nat}
structure Gr (P : Params) (b : Base) : Prop where
  X : (hd.heap_1 P).In b.h₀
  T : ∃ (p : Program) (loose : List Str) (mg mb : Str → Option Value), TopRead p loose mg mb b.h₀
  sys : ∃ a o, sysModules < a ∧ b.h₀.get? a = some o
theorem Gr.bi (g : Gr P b) {n : Str} {v : Value} {F : Fn} (hn : nsIn (hd.heap_1 P) mainGlobals n = some none) (hv : bootBuiltins n = some v) (hx : n ≠ "__name__") (ho : offHeap v = true) (hc : CallOk b v k F) : GOk b k n F := by
  obtain ⟨p, loose, mg, mb, T⟩ := g.T
  exact gok_builtin g.X T hn hv hx ho hc
theorem Gr.lb (g : Gr P b) {n : Str} {v : Value} (hn : nsIn (hd.heap_1 P) mainGlobals n = some none) (hv : bootBuiltins n = some v) (hx : n ≠ "__name__") : Loads b n v := by
  obtain ⟨p, loose, mg, mb, T⟩ := g.T
  exact loads_builtin g.X T hn hv hx
theorem Gr.lg (g : Gr P b) {n : Str} {v : Value} (hn : nsIn (hd.heap_1 P) mainGlobals n = some (some v)) : Loads b n v := by
  obtain ⟨p, loose, mg, mb, T⟩ := g.T
  exact loads_global g.X T hn
theorem Gr.at1 (g : Gr P b) {f : Addr} {n : Str} {ps : List Str} {F : Fn} (hd' : defOk (hd.heap_1 P) f n ps = true) (hbind : ∀ fd, fdAt (hd.heap_1 P) f = some fd → ∀ vals : List Value, vals.length = ps.length → bindArgs fd ⟨vals, []⟩ = pure (ps.zip vals))
    (hB : BodyOk b k (scopeAt (hd.heap_1 P) f) ps (bodyAt (hd.heap_1 P) f) F) : GOk b (k + 1) n F := by
  obtain ⟨p, loose, mg, mb, T⟩ := g.T
  exact call_at g.X T hd' hbind hB
theorem g_type (g : Gr P b) : GOk b k "type" typeD := g.bi (by kernel_rfl) (by kernel_rfl) (by decide +kernel) rfl call_typeD
theorem g_issub (g : Gr P b) : GOk b k "issubclass" issubD := g.bi (v := .builtin "issubclass") (by kernel_rfl) (by kernel_rfl) (by decide +kernel) rfl call_issubD
theorem g_isinst (g : Gr P b) : GOk b k "isinstance" isinstD := g.bi (v := .builtin "isinstance") (by kernel_rfl) (by kernel_rfl) (by decide +kernel) rfl call_isinstD
theorem g_len (g : Gr P b) : GOk b k "len" lenD := g.bi (v := .builtin "len") (by kernel_rfl) (by kernel_rfl) (by decide +kernel) rfl call_lenD
theorem g_sum (g : Gr P b) : GOk b k "sum" sumD := g.bi (v := .builtin "sum") (by kernel_rfl) (by kernel_rfl) (by decide +kernel) rfl call_sumD
theorem g_range (g : Gr P b) : GOk b k "range" rangeD := g.bi (v := .type "range") (by kernel_rfl) (by kernel_rfl) (by decide +kernel) rfl call_rangeD
theorem g_min (g : Gr P b) : GOk b k "min" minD := g.bi (v := .builtin "min") (by kernel_rfl) (by kernel_rfl) (by decide +kernel) rfl call_minD
theorem g_max (g : Gr P b) : GOk b k "max" maxD := g.bi (v := .builtin "max") (by kernel_rfl) (by kernel_rfl) (by decide +kernel) rfl call_maxD
theorem Gr.con (g : Gr P b) : ∀ n d, conT.lookup n = some d → ∃ v, Loads b n v ∧ Rep (fun a => b.h₀.get? a) d v := fn_all (by
  intro e he
  simp only [conT, List.mem_cons, List.not_mem_nil, or_false] at he
  rcases he with rfl | rfl
  · exact ⟨.type "str", g.lb (by kernel_rfl) (by kernel_rfl) (by decide +kernel), rfl⟩
  · exact ⟨.type "bytes", g.lb (by kernel_rfl) (by kernel_rfl) (by decide +kernel), rfl⟩)
theorem Gr.enum (g : Gr P b) : Loads b ("enumerate" : Str) (.type "enumerate") := g.lb (by kernel_rfl) (by kernel_rfl) (by decide +kernel)
theorem Gr.zip (g : Gr P b) : Loads b ("zip" : Str) (.type "zip") := g.lb (by kernel_rfl) (by kernel_rfl) (by decide +kernel)
theorem no_all {α : Type} {Pz : Str → α → Prop} : ∀ n F, ([] : List (Str × α)).lookup n = some F → Pz n F := fun _ _ h => nomatch h
theorem tab0_ok (g : Gr P b) : TabOk b k tab0 := ⟨fn_all (by
  intro e he
  simp only [tab0, List.mem_cons, List.not_mem_nil, or_false] at he
  rcases he with rfl | rfl | rfl
  · exact g_type g
  · exact g_issub g
  · exact g_isinst g), no_all, g.con, g.enum, no_all, g.zip, g.sys⟩
theorem g_fspath (g : Gr P b) : GOk b (k + 1) "fspath" fspathD :=
  (g.at1 (f := 138) (ps := ["path"]) (by kernel_rfl) (bind1 fun v => by kernel_rfl) (fnD_ok (n := 12) (j := 12) (tab0_ok g))).of (of1 fun d => .map fun x hx => by cases asStr_eq _ hx; exact fspath_def P _)
theorem g_sep (g : Gr P b) : GOk b (k + 1) "_get_sep" sepD :=
  (g.at1 (f := 152) (ps := ["path"]) (by kernel_rfl) (bind1 fun v => by kernel_rfl) (fnD_ok (n := 12) (j := 12) (tab0_ok g))).of (of1 fun d => .map fun x hx => by cases asStr_eq _ hx; exact sep_def P _)
theorem g_ifmt (g : Gr P b) : GOk b (k + 1) "S_IFMT" ifmtD :=
  (g.at1 (f := 178) (ps := ["mode"]) (by kernel_rfl) (bind1 fun v => by kernel_rfl) (fnD_ok (n := 12) (j := 12) (tab0_ok g))).of (of1 fun d => .map fun x hx => by cases asInt_eq _ hx; exact ifmt_def P _)
theorem tab1_ok (g : Gr P b) : TabOk b (k + 1) tab1 := ⟨fn_all (by
  intro e he
  simp only [tab1, List.mem_cons, List.not_mem_nil, or_false] at he
  rcases he with rfl | rfl | rfl | rfl | rfl
  · exact g_fspath g
  · exact g_sep g
  · exact g_len g
  · exact g_range g
  · exact g_sum g), fn_all (by
  intro e he
  simp only [tab1, List.mem_cons, List.not_mem_nil, or_false] at he
  rcases he with rfl | rfl | rfl | rfl
  · exact meth_starts
  · exact meth_ends
  · exact meth_rfind
  · exact meth_rstrip), g.con, g.enum, no_all, g.zip, g.sys⟩
theorem g_dir (g : Gr P b) : GOk b (k + 2) "dirname" dirF :=
  (g.at1 (f := 166) (ps := ["p"]) (by kernel_rfl) (bind1 fun v => by kernel_rfl) (fnD_ok (n := 12) (j := 12) (tab1_ok g))).of (of1 fun d => .bind fun x hx => .ite fun hc => .some (by cases asStr_eq _ hx; exact fn_of_run rfl (dirname_def P x hc.1 hc.2)))
theorem starBind {K : Frag} {f : Addr} (h : ∀ v u, bindAt K f [v, u] = (newTuple [u] >>= fun t => pure ((["a", "p"] : List Str).zip [v, t]))) : ∀ fd, fdAt K f = some fd → BindOk fd ["a", "p"] fun ds => if ds.length = 2 then some (ds.take 1 ++ [.tup (ds.drop 1)]) else none := fun fd hf =>
  BindOk.star (n := 1) (m := 2) rfl (by decide) (by unfold room; decide) fun vals hl => by
    obtain ⟨v, u, rfl⟩ := len2 hl
    exact bind_of hf (h v u)
theorem g_join (g : Gr P b) : GOk b (k + 2) "join" joinF := by
  obtain ⟨p, loose, mg, mb, T⟩ := g.T
  exact (call_at_gen (f := 159) (ps := ["a", "p"]) g.X T (by kernel_rfl) (starBind fun v u => by kernel_rfl) (fnD_ok (n := 12) (j := 12) (tab1_ok (k := k) g))).of (ofS fun x y => .ite fun hc => .some (fn_of_run rfl (join_def P x y hc)))
theorem g_modeTab (g : Gr P b) : ∃ v, Loads b ("_filemode_table" : Str) v ∧ Rep (fun a => b.h₀.get? a) (tabD modeTab) v := by
  have h : ((nsIn (hd.heap_1 P) mainGlobals "_filemode_table").bind fun o => o.bind fun v => (repK (hd.heap_1 P) 5 (tabD modeTab) v).map fun _ => v).isSome = true := by kernel_rfl
  obtain ⟨v0, h0⟩ := Option.isSome_iff_exists.mp h
  obtain ⟨o, h1, h2⟩ := Option.bind_eq_some_iff.mp h0
  obtain ⟨v, h3, h4⟩ := Option.bind_eq_some_iff.mp h2
  obtain ⟨u, h5, _⟩ := Option.map_eq_some_iff.mp h4
  exact ⟨v, g.lg (by rw [h1, h3]), repK_ok g.X 5 _ _ u h5⟩
theorem tab2_ok (g : Gr P b) : TabOk b (k + 1) tab2 := ⟨fn_all (by
  intro e he
  simp only [tab2, List.mem_cons, List.not_mem_nil, or_false] at he
  rcases he with rfl
  exact g_ifmt g), fn_all (by
  intro e he
  simp only [tab2, List.mem_cons, List.not_mem_nil, or_false] at he
  rcases he with rfl
  exact meth_join), fn_all (by
  intro e he
  simp only [tab2, List.mem_cons, List.not_mem_nil, or_false] at he
  rcases he with rfl
  exact g_modeTab g), g.enum, no_all, g.zip, g.sys⟩
theorem g_file (g : Gr P b) : GOk b (k + 2) "filemode" fileF :=
  (g.at1 (f := 218) (ps := ["mode"]) (by kernel_rfl) (bind1 fun v => by kernel_rfl) (fnD_ok (n := 12) (j := 12) (tab2_ok g))).of (of1 fun d => .map fun x hx => by cases asInt_eq _ hx; exact fn_of_run rfl (filemode_def P _))
end
end Mine
end
section
set_option maxRecDepth 100000
set_option maxHeartbeats 0
namespace Mine
section
variable {P : Params} {b : Base} {k : Nat}
theorem tab3_ok (g : Gr P b) : TabOk b k tab3 := ⟨fn_all (by
  intro e he
  simp only [tab3, List.mem_cons, List.not_mem_nil, or_false] at he
  rcases he with rfl | rfl | rfl
  · exact g_sum g
  · exact g_range g
  · exact g_len g), no_all, no_all, g.enum, no_all, g.zip, g.sys⟩
theorem tab4_ok (g : Gr P b) : TabOk b k tab4 := ⟨no_all, no_all, no_all, g.enum, no_all, g.zip, g.sys⟩
theorem g_cells (g : Gr P b) : GOk b (k + 1) "_law_cells" cellsF :=
  (g.at1 (f := 225) (ps := ["script"]) (by kernel_rfl) (bind1 fun v => by kernel_rfl) (fnD_ok (n := 12) (j := 12) (tab4_ok g))).of (of1 fun d => .bind fun x hx => .ite fun hc => .some (by cases asArg_eq _ hx; exact fn_of_run rfl (cells_def P x hc)))
theorem g_rank (g : Gr P b) : GOk b (k + 1) "_law_rank" rankF :=
  (g.at1 (f := 237) (ps := ["mode"]) (by kernel_rfl) (bind1 fun v => by kernel_rfl) (fnD_ok (n := 12) (j := 12) (tab3_ok g))).of (of1 fun d => .bind fun x hx => .ite fun hc => .some (by cases asInt_eq _ hx; exact fn_of_run rfl (rank_def P x hc.1 hc.2)))
theorem g_falls (g : Gr P b) : GOk b (k + 1) "_law_falls" fallsF :=
  (g.at1 (f := 247) (ps := ["rows"]) (by kernel_rfl) (bind1 fun v => by kernel_rfl) (fnD_ok (n := 12) (j := 12) (tab3_ok g))).of (of1 fun d => .bind fun l hl => .bind fun x hx => .ite fun hc => .some (by
    cases asList_eq _ hl
    rw [asStrs_eq _ hx]
    obtain ⟨a, b, c, d, e, rfl⟩ := five hc
    exact fn_of_run rfl (falls_def P _ _ _ _ _)))
theorem g_pairs (g : Gr P b) : GOk b (k + 1) "_law_pairs" pairsF :=
  (g.at1 (f := 252) (ps := ["order"]) (by kernel_rfl) (bind1 fun v => by kernel_rfl) (fnD_ok (n := 12) (j := 12) (tab3_ok g))).of (of1 fun d => .bind fun l hl => .bind fun x hx => .ite fun hc => .some (by
    cases asList_eq _ hl
    rw [asStrs_eq _ hx]
    obtain ⟨a, b, c, d, e, rfl⟩ := five hc
    exact fn_of_run rfl (pairs_def P _ _ _ _ _)))
theorem qsum_small (q : Int) (h0 : 0 ≤ q) (h1 : q ≤ 24) (n : Nat) (hn : n ≤ 5) : small (qsum q n) = true := by
  have key : ∀ k < 25, ∀ n < 6, small (qsum (k : Nat) n) = true := by decide +kernel
  have := key q.toNat (by omega) n (by omega)
  have e : ((q.toNat : Nat) : Int) = q := by omega
  rw [e] at this
  exact this
theorem sizes_ok {d : D} : Ret (sizesD d) fun ns => ∀ p, plainRows (.Name "size" p) d = some ([(("size" : String) : Str)], ns.map fun n => [D.int (n : Nat)]) := by
  cases d with
  | rng a b c =>
    refine .ite fun h => .some fun p => ?_
    obtain ⟨rfl, rfl, rfl⟩ := h
    rfl
  | list l =>
    refine .bind fun is hi => .ite fun hc => .some fun p => ?_
    rw [asInts_eq _ hi]
    show some (_, _) = some (_, _)
    rw [List.map_map, List.map_map]
    refine congrArg (fun z => some ([(("size" : String) : Str)], z)) (List.map_congr_left fun i hm => ?_)
    show [D.int i] = [D.int ((i.toNat : Nat) : Int)]
    rw [Int.toNat_of_nonneg (of_decide_eq_true (List.all_eq_true.mp hc.1 i hm))]
  | _ => exact .none
theorem g_prod (g : Gr P b) : GOk b (k + 1) "_law_product" prodF :=
  (g.at1 (f := 257) (ps := ["q", "sizes"]) (by kernel_rfl) (bind2 fun v u => by kernel_rfl) (fnD_ok (n := 12) (j := 12) (tab3_ok g))).of (of2 fun d e => .bind fun q hq => .bind fun ns hn => .ite fun hc => .some (by
    cases asInt_eq _ hq
    exact fn_of_run rfl (product_def P q hc.1 (decide_eq_true (by omega)) e ns (sizes_ok _ hn) fun n h => have h5 := of_decide_eq_true (List.all_eq_true.mp hc.2.2 n h); ⟨h5, qsum_small q hc.1 hc.2.1 n h5⟩)))
theorem tab5_ok (g : Gr P b) : TabOk b (k + 2) tab5 := ⟨fn_all (by
  intro e he
  simp only [tab5, List.mem_cons, List.not_mem_nil, or_false] at he
  rcases he with rfl | rfl | rfl
  · exact g_isinst g
  · exact g_min g
  · exact g_max g), fn_all (by
  intro e he
  simp only [tab5, List.mem_cons, List.not_mem_nil, or_false] at he
  rcases he with rfl | rfl | rfl
  · exact meth_starts
  · exact meth_split
  · exact meth_join), g.con, g.enum, fn_all (by
  intro e he
  simp only [tab5, List.mem_cons, List.not_mem_nil, or_false] at he
  rcases he with rfl
  exact ⟨⟨k + 1, Nat.le_refl _, g_fspath g⟩, g.lb (by kernel_rfl) (by kernel_rfl) (by decide +kernel), g.lb (by kernel_rfl) (by kernel_rfl) (by decide +kernel)⟩), g.zip, g.sys⟩
open Classical in
theorem g_common (g : Gr P b) : GOk b (k + 3) "commonpath" commonF :=
  (g.at1 (f := 171) (ps := ["paths"]) (by kernel_rfl) (bind1 fun v => by kernel_rfl) (fnD_ok (n := 12) (j := 40) (tab5_ok g))).of (of1 fun d => .bind fun l hl => .bind fun x hx => .bind fun q hq => .ite fun hc => .some (by
    cases asList_eq _ hl
    rw [asStrs_eq _ hx, two_eq _ hq]
    exact fn_of_far rfl (commonpath_def P q.1 q.2 hc.1 hc.2.1 hc.2.2.1 hc.2.2.2.1 hc.2.2.2.2.1 hc.2.2.2.2.2)))
end
end Mine
end
section
set_option maxRecDepth 100000
set_option maxHeartbeats 0
namespace Mine
section
variable {P : Params} {b : Base} {k : Nat}
noncomputable def posN : List Pos := [⟨16, 8, 16, 12⟩, ⟨16, 15, 16, 19⟩, ⟨16, 15, 16, 25⟩, ⟨16, 8, 16, 25⟩, ⟨17, 14, 17, 18⟩, ⟨18, 12, 18, 16⟩, ⟨18, 19, 18, 23⟩, ⟨18, 24, 18, 28⟩, ⟨18, 24, 18, 32⟩, ⟨18, 19, 18, 33⟩, ⟨18, 12, 18, 33⟩, ⟨19, 15, 19, 19⟩, ⟨19, 23, 19, 27⟩, ⟨19, 15, 19, 27⟩, ⟨19, 31, 19, 35⟩, ⟨19, 39, 19, 43⟩, ⟨19, 31, 19, 43⟩, ⟨19, 15, 19, 43⟩, ⟨20, 23, 20, 27⟩, ⟨20, 19, 20, 27⟩, ⟨21, 27, 21, 31⟩, ⟨21, 20, 21, 31⟩, ⟨20, 16, 21, 31⟩, ⟨22, 21, 22, 25⟩, ⟨22, 26, 22, 30⟩, ⟨22, 21, 22, 31⟩, ⟨22, 17, 22, 31⟩, ⟨23, 23, 23, 27⟩, ⟨23, 16, 23, 27⟩, ⟨22, 12, 23, 27⟩, ⟨19, 12, 23, 27⟩, ⟨17, 8, 23, 27⟩]
noncomputable def flt1 : Flt := ⟨54, 36, 43, 50, 56, 55, 1, 0⟩
theorem g_flt (g : Gr P b) : FltE b (hd.heap_1 P) flt1 where
  X := g.X
  hlim := by obtain ⟨_, _, _, _, T⟩ := g.T; exact T.nolimit
  ok := by kernel_rfl
  bI := fun a c d => by kernel_rfl
  hI := by
    have hb : bodyAt (hd.heap_1 P) 36 = bodyAt (hd.heap_1 P) 36 := rfl
    conv at hb => rhs; whnf
    exact ⟨_, _, _, _, _, _, _, _, _, _, hb⟩
  kI := by kernel_rfl
  cI := by kernel_rfl
  lI := g.lb (by kernel_rfl) (by kernel_rfl) (by decide +kernel)
  bT := fun a => by kernel_rfl
  hT := by
    have hb : bodyAt (hd.heap_1 P) 43 = bodyAt (hd.heap_1 P) 43 := rfl
    conv at hb => rhs; whnf
    exact ⟨_, _, hb⟩
  bN := fun a => by kernel_rfl
  hN := ⟨fun i => posN.getD i.val ⟨0, 0, 0, 0⟩, fun _ => 0, by kernel_rfl⟩
  kn := by kernel_rfl
  kb := by kernel_rfl
  ki := by kernel_rfl
  kf := by kernel_rfl
  ln := g.lb (by kernel_rfl) (by kernel_rfl) (by decide +kernel)
  lb := g.lb (by kernel_rfl) (by kernel_rfl) (by decide +kernel)
theorem g_filter (g : Gr P b) : GOk b (k + 3) "_filter" filterD := by
  refine g.at1 (f := 65) (ps := ["flist", "skip"]) (by kernel_rfl) (bind2 fun v u => by kernel_rfl) (filter_body (g_flt g) (by kernel_rfl) (g.lb (by kernel_rfl) (by kernel_rfl) (by decide +kernel)) (g.lg (by kernel_rfl)) ?_ (by kernel_rfl) (by kernel_rfl))
  have hb : bodyAt (hd.heap_1 P) 65 = bodyAt (hd.heap_1 P) 65 := rfl
  conv at hb => rhs; whnf
  exact ⟨_, _, _, _, _, _, _, _, hb⟩
theorem tab6_ok (g : Gr P b) : TabOk b (k + 3) tab6 := ⟨fn_all (by
  intro e he
  simp only [tab6, List.mem_cons, List.not_mem_nil, or_false] at he
  rcases he with rfl | rfl
  · exact (g_join (k := k) g).up (by omega)
  · exact g_filter g), no_all, no_all, g.enum, no_all, g.zip, g.sys⟩
theorem tab7_ok (g : Gr P b) : TabOk b (k + 3) tab7 := ⟨fn_all (by
  intro e he
  simp only [tab7, List.mem_cons, List.not_mem_nil, or_false] at he
  rcases he with rfl | rfl
  · exact (g_dir (k := k) g).up (by omega)
  · exact g_filter g), no_all, no_all, g.enum, no_all, g.zip, g.sys⟩
theorem g_paths (g : Gr P b) : GOk b (k + 4) "_law_paths" pathsF :=
  (g.at1 (f := 230) (ps := ["cells"]) (by kernel_rfl) (bind1 fun v => by kernel_rfl) (fnD_ok (n := 12) (j := 40) (tab6_ok g))).of (of1 fun d => .bind fun l hl => .bind fun x hx => .ite fun hc => .some (by
    cases asList_eq _ hl
    rw [asInts_eq _ hx]
    obtain ⟨x0, cs, rfl⟩ := List.exists_cons_of_length_eq_add_one hc
    exact fn_of_far rfl (paths_def P x0 cs (Nat.succ.inj hc))))
theorem g_orders (g : Gr P b) : GOk b (k + 4) "_law_orders" ordersF :=
  (g.at1 (f := 242) (ps := ["paths"]) (by kernel_rfl) (bind1 fun v => by kernel_rfl) (fnD_ok (n := 12) (j := 40) (tab7_ok g))).of fun ds d h => by
    unfold ordersF at h
    split at h
    · rename_i hex
      obtain ⟨h1, h2, h3⟩ := hex.choose_spec
      cases h
      generalize hex.choose = qs at h1 h2 h3 ⊢
      rw [h3]
      exact fn_of_far rfl (orders_def P qs h1 h2)
    · cases h
theorem tab8_ok (g : Gr P b) : TabOk b (k + 4) tab8 := ⟨fn_all (by
  intro e he
  simp only [tab8, List.mem_cons, List.not_mem_nil, or_false] at he
  rcases he with rfl | rfl | rfl | rfl | rfl | rfl | rfl | rfl | rfl | rfl | rfl | rfl
  · exact g_cells (k := k + 3) g
  · exact g_paths g
  · exact (g_file (k := k) g).up (by omega)
  · exact g_rank (k := k + 3) g
  · exact (g_common (k := k) g).up (by omega)
  · exact g_orders g
  · exact g_prod (k := k + 3) g
  · exact g_falls (k := k + 3) g
  · exact g_pairs (k := k + 3) g
  · exact g_len g
  · exact g_sum g
  · exact g_range g), no_all, no_all, g.enum, no_all, g.zip, g.sys⟩
end
end Mine
end
section
set_option maxRecDepth 100000
set_option maxHeartbeats 0
namespace Mine
section
variable {P : Params} {b : Base} {k : Nat}
noncomputable def lawF : Fn := fn1 fun d => (asArg d).bind fun s => if s.length ≤ 63 then some (.bool true) else none
theorem call_law (g : Gr P b) : CallOk b (.ref 262) (k + 5) lawF := by
  obtain ⟨p, loose, mg, mb, T⟩ := g.T
  obtain ⟨fd, hf, h⟩ := methOk_is (show methOk (hd.heap_1 P) 262 ["script"] = true by kernel_rfl)
  have hB : BodyOk b (k + 4) (scopeAt (hd.heap_1 P) 262) ["script"] (bodyAt (hd.heap_1 P) 262) (fnD tab8 12 40 (scopeAt (hd.heap_1 P) 262) ["script"] (bodyAt (hd.heap_1 P) 262)) := fnD_ok (n := 12) (j := 40) (tab8_ok (k := k) g)
  refine (call_def g.X T hf h (.plain (bind1 (x := "script") (fun v => by kernel_rfl) fd hf)) hB).of (of1 fun d => .bind fun s hs => .ite fun hc => .some ?_)
  cases asArg_eq _ hs
  exact fn_of_far rfl (law_true P s hc)
end
end Mine
end
section
set_option maxRecDepth 100000
set_option maxHeartbeats 0
namespace Mine
theorem reads_ints {R : WRecords} {cl : Str → Option Addr} {h : Heap} : ∀ (l : List Int) {vs : List Value} {as : List Addr}, ReadsAllW R cl h vs (l.map WData.int) as → vs.length = l.length ∧ ∀ (i : Nat) (x : Int), l[i]? = some x → ∃ t, vs[i]? = some (.int x t) := by
  intro l
  induction l with
  | nil => intro vs as r; cases r; exact ⟨rfl, fun _ _ h => nomatch h⟩
  | cons y l ih =>
    intro vs as r
    cases r with
    | cons h1 h2 =>
      obtain ⟨n, f⟩ := ih h2
      obtain ⟨t, e, -⟩ := readsW_int_inv h1
      refine ⟨congrArg (· + 1) n, fun i x hx => ?_⟩
      cases i with
      | zero => cases hx; exact ⟨t, congrArg some e⟩
      | succ i => exact f i x hx
end Mine
end
section
set_option maxRecDepth 100000
namespace Mine
theorem items_int {R : WRecords} : ∀ {xs : List WData}, WShape.hasItems R xs .int = true → ∃ l : List Int, xs = l.map WData.int
  | [], _ => ⟨[], rfl⟩
  | x :: xs, h => by
    have h : (WShape.has R x .int && WShape.hasItems R xs .int) = true := h
    obtain ⟨h1, h2⟩ := Bool.and_eq_true_iff.mp h
    obtain ⟨l, rfl⟩ := items_int h2
    cases x with
    | int i => exact ⟨i :: l, rfl⟩
    | _ => exact nomatch (show false = true from h1)
theorem len_le {R : WRecords} {l : List Int} (h : WTm.holds R PySem.Challenge.rw_kt0044_01.row.pre { args := [.list (l.map WData.int)] } = true) : l.length ≤ 63 := by
  by_cases hl : l.length ≤ 63
  · exact hl
  · exfalso
    obtain ⟨rest, hr⟩ : ∃ rest, PySem.Challenge.rw_kt0044_01.row.pre = .and (.not (.lt (.lit (.int 63)) (.len (.arg 0)))) rest := ⟨_, rfl⟩
    have e0 : WTm.value R (.not (.lt (.lit (.int 63)) (.len (.arg 0)))) { args := [.list (l.map WData.int)] } = some (.bool (!decide ((63 : Int) < ((l.map WData.int).length : Int)))) := by rfl
    have e2 : (!decide ((63 : Int) < ((l.map WData.int).length : Int))) = false := by
      rw [List.length_map]
      have : (63 : Int) < (l.length : Int) := by omega
      simp [this]
    rw [e2] at e0
    unfold WTm.holds at h
    rw [hr] at h
    unfold WTm.value at h
    rw [e0] at h
    cases h
end Mine
end
section
set_option maxRecDepth 100000
set_option maxHeartbeats 0
namespace Mine
theorem arg_of {cl : Str → Option Addr} {h : Heap} {vals : List WData} {vs : List Value} {as : List Addr} (hp : row1.toRowW.claim.pre vals = true) (hr : ReadsAllW row1.records cl h vs vals as) : ∃ l v, l.length ≤ 63 ∧ vs = [v] ∧ Rep (off [] h) (.arg l) v := by
  obtain ⟨p1, p2⟩ := pre_splitW hp
  obtain ⟨dd, r, rfl, q1, q2⟩ := hasAllW_cons p1
  obtain rfl := hasAllW_nil q2
  obtain ⟨xs, rfl, q3⟩ := hasW_list q1
  obtain ⟨l, rfl⟩ := items_int q3
  obtain ⟨v, us, a1, a2, rfl, rfl, r1, r2⟩ := readsAllW_cons_inv hr
  obtain ⟨a, o, its, n, ai, rfl, e1, e2, e3, e4, -⟩ := readsW_list_open r1
  cases r2
  obtain ⟨n1, n2⟩ := reads_ints l e4
  exact ⟨l, _, len_le p2, rfl, _, rfl, _, _, _, off_some.mpr ⟨(fun h => nomatch h), e1⟩, e2, e3, n1, fun i x hx => Array.getElem?_toList ▸ n2 i x hx⟩
theorem addr_of {P : Params} {h : Heap} {p : Program} {loose : List Str} {mg mb : Str → Option Value} {fa : Addr} (X : (hd.heap_1 P).In h) (T : TopRead p loose mg mb h) (hg : mg ("law" : Str) = some (.ref fa)) : fa = 262 := by
  have hn : nsIn (hd.heap_1 P) mainGlobals "law" = some (some (.ref 262)) := by kernel_rfl
  rw [mg_of X T.g hn] at hg
  cases hg; rfl
theorem ground_sys {P : Params} {h : Heap} (X : (hd.heap_1 P).In h) : ∃ a o, sysModules < a ∧ h.get? a = some o := by
  have h : ((hd.heap_1 P).lookup 262).isSome = true := by kernel_rfl
  obtain ⟨ob, e⟩ := Option.isSome_iff_exists.mp h
  exact ⟨262, ob, by decide, X 262 ob e⟩
theorem fin1 : PySem.Challenge.rw_kt0044_01.Holds := by
  refine hd ?_
  intro w s₀ s₁ mg mb G Y fa o pm cd doc dV kV ho hd' hcd hD hg hgen vals vs as hp hlay hrd hwl hlo
  have X := kIn_of Y
  have T := topRead_of G.T
  have gr : Gr w.params ⟨PySem.Challenge.rw_kt0044_01.row.prog, w, s₁.heap⟩ := ⟨X, ⟨_, _, _, _, T⟩, ground_sys X⟩
  cases addr_of X T hg
  obtain ⟨l, v, hlen, rfl, hv⟩ := arg_of hp hrd
  refine call_law (k := 0) gr callerA [] s₁ [.arg l] [v] (.bool true) _ _ (if_pos hlen) ⟨rfl, by decide, by decide, ⟨[], rfl, (fun _ h => nomatch h)⟩, (fun a h => nomatch h), (fun a h => nomatch h), (fun a h => nomatch h), (fun a o e => e)⟩ ⟨v, [], rfl, hv, rfl⟩ fun v s' p rr => ?_
  obtain rfl : v = .bool true := rr
  obtain ⟨h', tk, rfl, pa, pb⟩ := p
  refine ⟨.inl ⟨_, .bool true, [], rfl, fun _ => rfl, .bool true, ?_, fun _ => ⟨List.nodup_nil, (fun a h => nomatch h)⟩⟩, ?_, rfl, ?_⟩
  · first | kernel_rfl | (show (WShape.has _ _ _ && WTm.holds _ _ _) = true; simp [WShape.has, WShape.arms, WTm.holds, WTm.value]) | decide
  · exact .of_keep fun a o e => pa a o (fun h => nomatch h) e
  · exact .of_eq hgen
end Mine
end
theorem PySem.Challenge.cw_kt0044_01_holds : PySem.Challenge.rw_kt0044_01.Holds := by
  exact Mine.fin1
