import PyProof.Rows.All
import Wide.All
import OpenK.AllK
import Wide.FinOn
import PySem.Challenge.RW_pw0007_01
section
open PySem PySem.W PyProof.Rows
set_option Elab.async false
set_option maxRecDepth 100000
set_option maxHeartbeats 8000000
namespace Mine
open_top hd for PySem.Challenge.rw_pw0007_01
end Mine

end
section
open PySem PySem.W PyProof.Rows
set_option Elab.async false
set_option maxRecDepth 100000
set_option maxHeartbeats 1000000
namespace Mine

/-! data -/
inductive D where
  | none
  | bool (b : Bool)
  | int (i : Int)
  | flt (x : UInt64)
  | str (s : Str)
  | tup (l : List D)
  | lst (l : List D)
  | rng (a : Int) (n : Nat)
  | obj (a : Addr)

def isDo (o : Obj) : Prop := (∃ xs n, o.data = .seq xs n) ∨ (o.cls = .type "range" ∧ ∃ xs, o.data = .fields xs)
def KeepSeq (h h' : Heap) : Prop := ∀ b o, h.get? b = some o → isDo o → h'.get? b = some o
abbrev Ext (h h' : Heap) : Prop := ∀ b o, h.get? b = some o → h'.get? b = some o
theorem Ext.seq {h h' : Heap} (e : Ext h h') : KeepSeq h h' := fun b o x _ => e b o x

mutual
inductive Den (S : Addr → Prop) (h : Heap) : Value → D → Prop
  | none : Den S h .none .none
  | bool {b : Bool} : Den S h (.bool b) (.bool b)
  | int {i : Int} {t : Tok} : Den S h (.int i t) (.int i)
  | flt {x : UInt64} {t : Tok} : t ≠ 0 → Den S h (.float x t) (.flt x)
  | str {x : Str} {t : Tok} : Den S h (.str x t) (.str x)
  | tup {a : Addr} {vs : List Value} {ds : List D} : ¬ S a → h.IsTuple a vs.toArray → DenL S h vs ds → Den S h (.ref a) (.tup ds)
  | lst {a : Addr} {vs : List Value} {ds : List D} : ¬ S a → h.PlainList a vs.toArray → DenL S h vs ds → Den S h (.ref a) (.lst ds)
  | rng {a : Addr} {i : Int} {n : Nat} {t u v : Tok} : ¬ S a → h.get? a = some { cls := .type "range", data := .fields #[.int i t, .int (i + n) u, .int 1 v] } → Den S h (.ref a) (.rng i n)
  | obj {a : Addr} : Den S h (.ref a) (.obj a)
inductive DenL (S : Addr → Prop) (h : Heap) : List Value → List D → Prop
  | nil : DenL S h [] []
  | cons {v : Value} {d : D} {vs : List Value} {ds : List D} : Den S h v d → DenL S h vs ds → DenL S h (v :: vs) (d :: ds)
end

theorem tup_move {h h' : Heap} {a : Addr} {xs : Array Value} (hp : h.IsTuple a xs) (e : ∀ o, h.get? a = some o → isDo o → h'.get? a = some o) : h'.IsTuple a xs := by
  obtain ⟨o, ho, hc, n, hd⟩ := hp
  exact ⟨o, e o ho (.inl ⟨_, n, hd⟩), hc, n, hd⟩
theorem lst_move {h h' : Heap} {a : Addr} {xs : Array Value} (hp : h.PlainList a xs) (e : ∀ o, h.get? a = some o → isDo o → h'.get? a = some o) : h'.PlainList a xs := by
  obtain ⟨n, ho⟩ := hp
  exact ⟨n, e _ ho (.inl ⟨_, n, rfl⟩)⟩
mutual
theorem Den.keep {S : Addr → Prop} {h h' : Heap} (e : KeepSeq h h') : ∀ {v : Value} {d : D}, Den S h v d → Den S h' v d
  | _, _, .none => .none
  | _, _, .bool => .bool
  | _, _, .int => .int
  | _, _, .flt e => .flt e
  | _, _, .str => .str
  | _, _, .obj => .obj
  | _, _, .tup hS hp l => .tup hS (tup_move hp fun o q r => e _ o q r) (DenL.keep e l)
  | _, _, .lst hS hp l => .lst hS (lst_move hp fun o q r => e _ o q r) (DenL.keep e l)
  | _, _, .rng hS ho => .rng hS (e _ _ ho (.inr ⟨rfl, _, rfl⟩))
theorem DenL.keep {S : Addr → Prop} {h h' : Heap} (e : KeepSeq h h') : ∀ {vs : List Value} {ds : List D}, DenL S h vs ds → DenL S h' vs ds
  | _, _, .nil => .nil
  | _, _, .cons a b => .cons (Den.keep e a) (DenL.keep e b)
end
theorem Den.ext {S : Addr → Prop} {h h' : Heap} (e : Ext h h') {v : Value} {d : D} (x : Den S h v d) : Den S h' v d := x.keep e.seq
theorem DenL.ext {S : Addr → Prop} {h h' : Heap} (e : Ext h h') {v : List Value} {d : List D} (x : DenL S h v d) : DenL S h' v d := x.keep e.seq
theorem DenL.length {S : Addr → Prop} {h : Heap} : ∀ {vs : List Value} {ds : List D}, DenL S h vs ds → vs.length = ds.length
  | _, _, .nil => rfl
  | _, _, .cons _ b => by simp [DenL.length b]
theorem DenL.get0 {S : Addr → Prop} {h : Heap} : ∀ {vs : List Value} {ds : List D}, DenL S h vs ds → ∀ (i : Nat), (∀ v, vs[i]? = some v → ∃ d, ds[i]? = some d ∧ Den S h v d) ∧ ∀ d, ds[i]? = some d → ∃ v, vs[i]? = some v ∧ Den S h v d
  | _, _, .nil => fun i => ⟨fun v e => (by cases e), fun d e => (by cases e)⟩
  | _, _, .cons a b => fun i => by
    cases i with
    | zero => exact ⟨fun v e => (by cases e; exact ⟨_, rfl, a⟩), fun d e => (by cases e; exact ⟨_, rfl, a⟩)⟩
    | succ i => exact DenL.get0 b i
theorem DenL.get {S : Addr → Prop} {h : Heap} {vs : List Value} {ds : List D} (q : DenL S h vs ds) {i : Nat} {v : Value} (e : vs[i]? = some v) : ∃ d, ds[i]? = some d ∧ Den S h v d := (q.get0 i).1 v e
theorem DenL.get' {S : Addr → Prop} {h : Heap} {vs : List Value} {ds : List D} (q : DenL S h vs ds) {i : Nat} {d : D} (e : ds[i]? = some d) : ∃ v, vs[i]? = some v ∧ Den S h v d := (q.get0 i).2 d e
theorem DenL.snoc {S : Addr → Prop} {h : Heap} : ∀ {vs : List Value} {ds : List D}, DenL S h vs ds → ∀ {v : Value} {d : D}, Den S h v d → DenL S h (vs ++ [v]) (ds ++ [d])
  | _, _, .nil => fun e => .cons e .nil
  | _, _, .cons a b => fun e => .cons a (DenL.snoc b e)
theorem DenL.app {S : Addr → Prop} {h : Heap} : ∀ {vs : List Value} {ds : List D}, DenL S h vs ds → ∀ {vs' : List Value} {ds' : List D}, DenL S h vs' ds' → DenL S h (vs ++ vs') (ds ++ ds')
  | _, _, .nil => fun e => e
  | _, _, .cons a b => fun e => .cons a (DenL.app b e)
mutual
theorem Den.more {S T : Addr → Prop} {h : Heap} (e : ∀ a o, T a → h.get? a = some o → S a) : ∀ {v : Value} {d : D}, Den S h v d → Den T h v d
  | _, _, .none => .none
  | _, _, .bool => .bool
  | _, _, .int => .int
  | _, _, .flt e => .flt e
  | _, _, .str => .str
  | _, _, .obj => .obj
  | _, _, .tup hS hp l => .tup (fun q => hS (e _ _ q hp.choose_spec.1)) hp (DenL.more e l)
  | _, _, .lst hS hp l => .lst (fun q => hS (e _ _ q hp.choose_spec)) hp (DenL.more e l)
  | _, _, .rng hS ho => .rng (fun q => hS (e _ _ q ho)) ho
theorem DenL.more {S T : Addr → Prop} {h : Heap} (e : ∀ a o, T a → h.get? a = some o → S a) : ∀ {vs : List Value} {ds : List D}, DenL S h vs ds → DenL T h vs ds
  | _, _, .nil => .nil
  | _, _, .cons a b => .cons (Den.more e a) (DenL.more e b)
end
mutual
/-- what avoids an address keeps when that address changes -/
theorem Den.but {S : Addr → Prop} {h h' : Heap} {a : Addr} (hS : S a) (e : ∀ b o, b ≠ a → h.get? b = some o → h'.get? b = some o) : ∀ {v : Value} {d : D}, Den S h v d → Den S h' v d
  | _, _, .none => .none
  | _, _, .bool => .bool
  | _, _, .int => .int
  | _, _, .flt e => .flt e
  | _, _, .str => .str
  | _, _, .obj => .obj
  | _, _, .tup q hp l => .tup q (tup_move hp fun o ho _ => e _ _ (fun x => q (x ▸ hS)) ho) (DenL.but hS e l)
  | _, _, .lst q hp l => .lst q (lst_move hp fun o ho _ => e _ _ (fun x => q (x ▸ hS)) ho) (DenL.but hS e l)
  | _, _, .rng q ho => .rng q (e _ _ (fun x => q (x ▸ hS)) ho)
theorem DenL.but {S : Addr → Prop} {h h' : Heap} {a : Addr} (hS : S a) (e : ∀ b o, b ≠ a → h.get? b = some o → h'.get? b = some o) : ∀ {vs : List Value} {ds : List D}, DenL S h vs ds → DenL S h' vs ds
  | _, _, .nil => .nil
  | _, _, .cons a b => .cons (Den.but hS e a) (DenL.but hS e b)
end

/-- what a value of that kind can be -/
def Elim (d : D) (f : Tok → Value) : Prop := ∀ {S : Addr → Prop} {h : Heap} {v : Value} {C : Value → Prop}, Den S h v d → (∀ t, C (f t)) → C v
theorem elim_int (i : Int) : Elim (.int i) (Value.int i) := fun q k => by cases q; exact k _
theorem elim_flt (x : UInt64) : Elim (.flt x) (Value.float x) := fun q k => by cases q; exact k _
theorem elim_str (x : Str) : Elim (.str x) (Value.str x) := fun q k => by cases q; exact k _
theorem elim_bool (b : Bool) : Elim (.bool b) (fun _ => .bool b) := fun q k => by cases q; exact k 0
theorem Den.flt_inv {S : Addr → Prop} {h : Heap} {v : Value} {x : UInt64} (q : Den S h v (.flt x)) : ∃ t, v = .float x t ∧ t ≠ 0 := by
  cases q with | flt e => exact ⟨_, rfl, e⟩
theorem Den.lst_inv {S : Addr → Prop} {h : Heap} {v : Value} {ds : List D} (q : Den S h v (.lst ds)) : ∃ a vs, v = .ref a ∧ ¬ S a ∧ h.PlainList a vs.toArray ∧ DenL S h vs ds := by
  cases q with | lst x y z => exact ⟨_, _, rfl, x, y, z⟩
theorem Den.tup_inv {S : Addr → Prop} {h : Heap} {v : Value} {ds : List D} (q : Den S h v (.tup ds)) : ∃ a vs, v = .ref a ∧ ¬ S a ∧ h.IsTuple a vs.toArray ∧ DenL S h vs ds := by
  cases q with | tup x y z => exact ⟨_, _, rfl, x, y, z⟩
theorem len_succ {α : Type} {vs : List α} {n : Nat} (h : vs.length = n + 1) : ∃ a t, vs = a :: t ∧ t.length = n := by
  cases vs with
  | nil => cases h
  | cons a t => exact ⟨a, t, rfl, Nat.succ.inj h⟩
theorem len2 {α : Type} {vs : List α} {C : List α → Prop} (h : vs.length = 2) (k : ∀ a b, C [a, b]) : C vs := by
  obtain ⟨a, t, rfl, h1⟩ := len_succ h
  obtain ⟨b, u, rfl, h2⟩ := len_succ h1
  rw [List.eq_nil_of_length_eq_zero h2]
  exact k a b
theorem len3 {α : Type} {vs : List α} {C : List α → Prop} (h : vs.length = 3) (k : ∀ a b c, C [a, b, c]) : C vs := by
  obtain ⟨a, t, rfl, h1⟩ := len_succ h
  exact len2 (C := fun t => C (a :: t)) h1 fun b c => k a b c
theorem six_nat : ∀ n : Nat, n < 6 → ((n : Int) = 0 ∨ (n : Int) = 1 ∨ (n : Int) = 2 ∨ (n : Int) = 3 ∨ (n : Int) = 4 ∨ (n : Int) = 5) := by decide
theorem four_nat : ∀ n : Nat, n < 4 → ((n : Int) = 0 ∨ (n : Int) = 1 ∨ (n : Int) = 2 ∨ (n : Int) = 3) := by decide
theorem mod6 (i : Int) : i % 6 = 0 ∨ i % 6 = 1 ∨ i % 6 = 2 ∨ i % 6 = 3 ∨ i % 6 = 4 ∨ i % 6 = 5 := by
  obtain ⟨n, hn⟩ := Int.eq_ofNat_of_zero_le (Int.emod_nonneg i (by decide : (6 : Int) ≠ 0))
  have h := Int.emod_lt_of_pos i (by decide : (0 : Int) < 6)
  rw [hn] at h ⊢
  exact six_nat n (Int.ofNat_lt.mp h)
theorem mod4 (i : Int) : i % 4 = 0 ∨ i % 4 = 1 ∨ i % 4 = 2 ∨ i % 4 = 3 := by
  obtain ⟨n, hn⟩ := Int.eq_ofNat_of_zero_le (Int.emod_nonneg i (by decide : (4 : Int) ≠ 0))
  have h := Int.emod_lt_of_pos i (by decide : (0 : Int) < 4)
  rw [hn] at h ⊢
  exact four_nat n (Int.ofNat_lt.mp h)
theorem hide {α : Type} {M : Model} {A : Around} {t : Sem α} {Q : α → Shared → Prop} {E : Value → Shared → Prop} {s : Shared} (h : ∀ Q' : α → Shared → Prop, (∀ a s', Q a s' → Q' a s') → wpAny M A t Q' E s) : wpAny M A t Q E s := h Q fun _ _ x => x

/-! state -/
theorem kr {s : Shared} : Keeps s s := ⟨s.heap, s.toks, rfl, fun _ _ e => e⟩
theorem kk {s : Shared} {t : Nat} : Keeps s { s with toks := t } := ⟨s.heap, t, rfl, fun _ _ e => e⟩
theorem kp {s : Shared} {t : Nat} {o : Obj} : Keeps s { s with heap := s.heap.push o, toks := t } := ⟨_, t, rfl, fun _ _ e => Heap.get?_push_of_some _ e⟩
theorem keepsT {s s' s'' : Shared} (a : Keeps s s') (b : Keeps s' s'') : Keeps s s'' := by
  obtain ⟨h, t, rfl, k⟩ := a
  obtain ⟨h', t', rfl, k'⟩ := b
  exact ⟨h', t', rfl, fun b o e => k' b o (k b o e)⟩
theorem keepsX {s s' : Shared} (a : Keeps s s') : Ext s.heap s'.heap := by
  obtain ⟨h, t, rfl, k⟩ := a; exact k
def Kp (s s' : Shared) : Prop := Keeps s s' ∧ s.toks ≤ s'.toks
theorem kt {s s' s'' : Shared} (a : Kp s s') (b : Kp s' s'') : Kp s s'' := ⟨keepsT a.1 b.1, Nat.le_trans a.2 b.2⟩
theorem kx {s s' : Shared} (a : Kp s s') : Ext s.heap s'.heap := keepsX a.1
theorem kR {s : Shared} : Kp s s := ⟨kr, Nat.le_refl _⟩
theorem wpK {α : Type} {M : Model} {A : Around} {t : Sem α} {P : α → Shared → Prop} {E : Value → Shared → Prop} {s : Shared} (h : wpAny M A t (fun a s' => Keeps s s' ∧ P a s') E s) :
    wpAny M A t (fun a s' => Kp s s' ∧ P a s') E s :=
  wpAny_mono (wpAny_toks h) (fun _ _ x => ⟨⟨x.2.1, x.1⟩, x.2.2⟩) (fun _ _ x => x.2)

structure Room (n : Nat) (A : Around) : Prop where
  hd : A.handled = Option.none
  dp : A.depth + n < recursionLimit
  un : A.units + 100 * n + 100 < cLine

theorem Room.deeper {n : Nat} {A : Around} {env : Env} (r : Room (n + 1) A) : Room n (A.deeper env) where
  hd := r.hd
  dp := by have := r.dp; show A.depth + 1 + n < _; omega
  un := by have := r.un; show A.units + 3 + 100 * n + 100 < _; omega
structure Base (K : Frag) (S : Addr → Prop) (s : Shared) : Prop where
  k : K.In s.heap
  b : ∃ mb, s.heap.Ns builtinsNs mb ∧ ∀ x : Str, x ≠ "__name__" → mb x = bootBuiltins x
  nl : s.heap.NoLimit
  g : ∃ mg, s.heap.Ns mainGlobals mg
  t : 0 < s.toks
  so : ∀ a, S a → ∃ o, s.heap.get? a = some o
theorem Base.of {K : Frag} {S : Addr → Prop} {s s' : Shared} (x : Base K S s) (e : Ext s.heap s'.heap) (ht : s.toks ≤ s'.toks) : Base K S s' :=
  ⟨x.k.keeps e, let ⟨mb, a, c⟩ := x.b; ⟨mb, a.keeps e, c⟩, x.nl.keeps e, let ⟨mg, a⟩ := x.g; ⟨mg, a.keeps e⟩, Nat.lt_of_lt_of_le x.t ht, fun a ha => let ⟨o, q⟩ := x.so a ha; ⟨o, e a o q⟩⟩
theorem Base.mv {K : Frag} {S : Addr → Prop} {s s' : Shared} (x : Base K S s) (k : Kp s s') : Base K S s' := x.of (kx k) k.2
theorem Base.tn {K : Frag} {S : Addr → Prop} {s : Shared} (x : Base K S s) : s.toks ≠ 0 := Nat.ne_of_gt x.t
theorem Base.nw {K : Frag} {S : Addr → Prop} {s : Shared} (x : Base K S s) : ¬ S s.heap.objs.size := fun q => by
  obtain ⟨o, e⟩ := x.so _ q
  exact absurd (Heap.lt_size e) (Nat.lt_irrefl _)

structure EnvB (sc : Scope) (env : Env) : Prop where
  hsc : env.scope = sc
  k : sc.kind = .function
  g : env.globals = mainGlobals
  b : env.builtins = builtinsNs

def Look (h : Heap) (env : Env) (x : Str) (v : Value) : Prop :=
  (env.kindOf x = some .local ∧ ∃ m, h.Ns env.locals m ∧ m x = some v) ∨
  ((env.kindOf x = some .cell ∨ env.kindOf x = some .free) ∧ (x == ("__classdict__" : Str)) = false ∧ ∃ c, env.cells.lookup x = some c ∧ h.IsCell c (some v))

theorem Look.ext {h h' : Heap} {env : Env} {x : Str} {v : Value} (e : Ext h h') (l : Look h env x v) : Look h' env x v := by
  rcases l with ⟨a, m, b, c⟩ | ⟨a, d, c, e1, e2⟩
  · exact .inl ⟨a, m, b.keeps e, c⟩
  · exact .inr ⟨a, d, c, e1, e2.keeps e⟩

abbrev Rho := List (Str × D)
def EnvOk (S : Addr → Prop) (h : Heap) (env : Env) (ρ : Rho) : Prop := ∀ x d, ρ.lookup x = some d → ∃ v, Look h env x v ∧ Den S h v d
theorem EnvOk.ext {S : Addr → Prop} {h h' : Heap} {env : Env} {ρ : Rho} (e : Ext h h') (l : EnvOk S h env ρ) : EnvOk S h' env ρ := fun x d q =>
  let ⟨v, a, b⟩ := l x d q; ⟨v, a.ext e, b.ext e⟩

section
variable {prog : Program} {w : World} {K : Frag}

abbrev No : Value → Shared → Prop := fun _ _ => False

theorem wp_no {α : Type} {M : Model} {A : Around} {t : Sem α} {Q : α → Shared → Prop} {E : Value → Shared → Prop} {s : Shared} (h : wpAny M A t Q No s) : wpAny M A t Q E s :=
  wpAny_mono h (fun _ _ x => x) (fun _ _ x => x.elim)

/-- what a tree gives: data d, the heap extended -/
def Gets (prog : Program) (w : World) (S : Addr → Prop) (A : Around) (t : Sem Value) (s : Shared) (d : D) : Prop :=
  wpAny (model prog w) A t (fun v s' => Keeps s s' ∧ Den S s'.heap v d) No s

theorem Gets.then {S : Addr → Prop} {A : Around} {t : Sem Value} {s : Shared} {d : D} {Q : Value → Shared → Prop} {E : Value → Shared → Prop} (h : Gets prog w S A t s d)
    (hk : ∀ v s', Kp s s' → Den S s'.heap v d → Q v s') : wpAny (model prog w) A t Q E s :=
  wpAny_mono (wpK h) (fun v s' x => hk v s' x.1 x.2) (fun _ _ x => x.elim)

def Ev (prog : Program) (w : World) (K : Frag) (n : Nat) (sc : Scope) (ρ : Rho) (e : Expr) (d : D) : Prop :=
  ∀ A s env S, EnvB sc env → Room n A → Base K S s → EnvOk S s.heap env ρ → Gets prog w S A (eval e env) s d

def EvL (prog : Program) (w : World) (K : Frag) (n : Nat) (sc : Scope) (ρ : Rho) (es : List Expr) (ds : List D) : Prop :=
  ∀ A s env pos S, EnvB sc env → Room n A → Base K S s → EnvOk S s.heap env ρ →
    wpAny (model prog w) A (spliced (backTo pos (starEach es env))) (fun vs s' => Keeps s s' ∧ DenL S s'.heap vs ds) No s

def Cl (prog : Program) (w : World) (K : Frag) (n : Nat) (f : Value) (ds : List D) (d : D) : Prop :=
  ∀ A s vs S, Room n A → Base K S s → DenL S s.heap vs ds → Gets prog w S A (call f vs) s d

variable {n : Nat} {sc : Scope} {ρ : Rho}

theorem Ev.int {i : Int} {k : Nat} {pos : Pos} : Ev prog w K n sc ρ (.Constant (.int i) k pos) (.int i) :=
  fun _ _ _ _ _ _ _ _ => wpAny_Constant_int ⟨kk, .int⟩
theorem Ev.flt {x : UInt64} {k : Nat} {pos : Pos} : Ev prog w K n sc ρ (.Constant (.float x) k pos) (.flt x) :=
  fun _ _ _ _ _ _ X _ => AutoFloatOps.wpAny_Constant_float ⟨kk, .flt X.tn⟩
theorem Ev.str {x : Str} {k : Nat} {pos : Pos} : Ev prog w K n sc ρ (.Constant (.str x) k pos) (.str x) :=
  fun _ _ _ _ _ _ _ _ => wpAny_Constant_str ⟨kk, .str⟩
theorem Ev.none {k : Nat} {pos : Pos} : Ev prog w K n sc ρ (.Constant .none k pos) .none :=
  fun _ _ _ _ _ _ _ _ => wpAny_Constant_none ⟨kr, .none⟩
theorem Look.load {M : Model} {A : Around} {s : Shared} {env : Env} {x : Str} {v : Value} {Q : Value → Shared → Prop} {E : Value → Shared → Prop} (B : EnvB sc env) (l : Look s.heap env x v) (h : Q v s) :
    wpAny M A (loadName env x) Q E s := by
  have hk : env.scope.kind = .function := by rw [B.hsc]; exact B.k
  rcases l with ⟨a, m, b, c⟩ | ⟨a | a, d, c, e1, e2⟩
  · exact wpAny_loadName_local hk a b c h
  · exact wpAny_loadName_cell hk a e1 e2 h
  · exact wpAny_loadName_free hk a e1 e2 h d

theorem Ev.name {x : Str} {pos : Pos} {d : D} (h : ρ.lookup x = some d) (hd : (x == ("__debug__" : Str)) = false) : Ev prog w K n sc ρ (.Name x pos) d :=
  fun _ _ _ _ B _ _ ok => let ⟨_, l, q⟩ := ok x d h; wpAny_Name (Look.load B l ⟨kr, q⟩) hd

theorem Ev.binop {l r : Expr} {op : Operator} {pos : Pos} {a b d : D} (hl : Ev prog w K n sc ρ l a) (hr : Ev prog w K n sc ρ r b)
    (ho : ∀ A s S va vb, Room n A → Base K S s → Den S s.heap va a → Den S s.heap vb b → Gets prog w S A (binaryOp op va vb) s d) : Ev prog w K n sc ρ (.BinOp l op r pos) d := by
  intro A s env S B R X ok
  refine wpAny_BinOp ((hl A s env S B R X ok).then fun va s1 k1 q1 => ?_)
  refine (hr A s1 env S B R (X.mv k1) (ok.ext (kx k1))).then fun vb s2 k2 q2 => ?_
  exact (ho A s2 S va vb R (X.mv (kt k1 k2)) (q1.ext (kx k2)) q2).then fun v s3 k3 q3 => ⟨(kt (kt k1 k2) k3).1, q3⟩

theorem Ev.bin {l r : Expr} {op : Operator} {pos : Pos} {a b d : D} {f g : Tok → Value} (ea : Elim a f) (eb : Elim b g) (hl : Ev prog w K n sc ρ l a) (hr : Ev prog w K n sc ρ r b)
    (ho : ∀ A s S t u, Room n A → Base K S s → Gets prog w S A (binaryOp op (f t) (g u)) s d) : Ev prog w K n sc ρ (.BinOp l op r pos) d :=
  Ev.binop hl hr fun A s S va vb R X qa qb => ea (C := fun va => Gets prog w S A (binaryOp op va vb) s d) qa fun t => eb (C := fun vb => Gets prog w S A (binaryOp op (f t) vb) s d) qb fun u => ho A s S t u R X

theorem Ev.cmp {l r : Expr} {op : CmpOp} {pos : Pos} {a b d : D} (hl : Ev prog w K n sc ρ l a) (hr : Ev prog w K n sc ρ r b)
    (ho : ∀ A s S va vb, Room n A → Base K S s → Den S s.heap va a → Den S s.heap vb b → Gets prog w S A (compareOp op va vb) s d)
    (hb : behindInMarks op r = false) : Ev prog w K n sc ρ (.Compare l [op] [r] pos) d := by
  intro A s env S B R X ok
  refine wpAny_Compare1 ((hl A s env S B R X ok).then fun va s1 k1 q1 => ?_) hb
  refine (hr A s1 env S B R (X.mv k1) (ok.ext (kx k1))).then fun vb s2 k2 q2 => ?_
  exact (ho A s2 S va vb R (X.mv (kt k1 k2)) (q1.ext (kx k2)) q2).then fun v s3 k3 q3 => ⟨(kt (kt k1 k2) k3).1, q3⟩
theorem Ev.cmp2 {l r : Expr} {op : CmpOp} {pos : Pos} {a b d : D} {f g : Tok → Value} (ea : Elim a f) (eb : Elim b g) (hl : Ev prog w K n sc ρ l a) (hr : Ev prog w K n sc ρ r b)
    (ho : ∀ A s S t u, Room n A → Base K S s → Gets prog w S A (compareOp op (f t) (g u)) s d)
    (hb : behindInMarks op r = false) : Ev prog w K n sc ρ (.Compare l [op] [r] pos) d :=
  Ev.cmp hl hr (fun A s S va vb R X qa qb => ea (C := fun va => Gets prog w S A (compareOp op va vb) s d) qa fun t => eb (C := fun vb => Gets prog w S A (compareOp op (f t) vb) s d) qb fun u => ho A s S t u R X) hb
end

end Mine

end
section
open PySem PySem.W PyProof.Rows
set_option Elab.async false
set_option maxRecDepth 100000
set_option maxHeartbeats 1000000
namespace Mine
section
variable {prog : Program} {w : World} {K : Frag} {n : Nat} {sc : Scope} {ρ : Rho} {l r : Expr} {pos : Pos} {a b : Int} {x y : UInt64} {p q : Str}

theorem Ev.addI (hl : Ev prog w K n sc ρ l (.int a)) (hr : Ev prog w K n sc ρ r (.int b)) : Ev prog w K n sc ρ (.BinOp l .Add r pos) (.int (a + b)) :=
  Ev.bin (elim_int _) (elim_int _) hl hr fun A s S _ _ R X => wpAny_add_int ⟨kk, .int⟩
theorem Ev.subI (hl : Ev prog w K n sc ρ l (.int a)) (hr : Ev prog w K n sc ρ r (.int b)) : Ev prog w K n sc ρ (.BinOp l .Sub r pos) (.int (a - b)) :=
  Ev.bin (elim_int _) (elim_int _) hl hr fun A s S _ _ R X => sub_int' ⟨kk, .int⟩
theorem mulOk {a b : Int} (h : a.natAbs < 2 ^ 63 ∨ b.natAbs < 2 ^ 63) : IntMulOk a b := by
  have key : ∀ c : Int, c.natAbs < 2 ^ 63 → Builtin.Int.intBits c ≤ 64 := by
    intro c hc
    unfold Builtin.Int.intBits
    by_cases h0 : c.natAbs = 0
    · have h1 : c = 0 := by omega
      subst h1; decide
    · have := (Nat.log2_lt h0).mpr hc
      split <;> omega
  rcases h with h | h
  · exact IntMulOk.of_left (key a h)
  · exact IntMulOk.of_right (key b h)
theorem Ev.mulI (hl : Ev prog w K n sc ρ l (.int a)) (hr : Ev prog w K n sc ρ r (.int b)) (hm : a.natAbs < 2 ^ 63 ∨ b.natAbs < 2 ^ 63) : Ev prog w K n sc ρ (.BinOp l .Mult r pos) (.int (a * b)) :=
  Ev.bin (elim_int _) (elim_int _) hl hr fun A s S _ _ R X => PyProof.Rows.mul_int ⟨kk, .int⟩ (mulOk hm)
theorem Ev.divI (hl : Ev prog w K n sc ρ l (.int a)) (hr : Ev prog w K n sc ρ r (.int b)) (h0 : b ≠ 0) (hs : b.natAbs < 1073741824) : Ev prog w K n sc ρ (.BinOp l .FloorDiv r pos) (.int (a.fdiv b)) :=
  Ev.bin (elim_int _) (elim_int _) hl hr fun A s S _ _ R X => floordiv_int h0 ⟨kk, .int⟩ (.inl (PyProof.noPylong_small hs))
theorem Ev.modI (hl : Ev prog w K n sc ρ l (.int a)) (hr : Ev prog w K n sc ρ r (.int b)) (h0 : b ≠ 0) : Ev prog w K n sc ρ (.BinOp l .Mod r pos) (.int (a.fmod b)) :=
  Ev.bin (elim_int _) (elim_int _) hl hr fun A s S _ _ R X => mod_int' h0 ⟨kk, .int⟩
/-- the float of a quotient of two ints -/
def fdivI (a b : Int) : UInt64 := Float64.ofFrac (decide (a < 0) != decide (b < 0)) a.natAbs b.natAbs
theorem Ev.tdivI (hl : Ev prog w K n sc ρ l (.int a)) (hr : Ev prog w K n sc ρ r (.int b)) (h0 : b ≠ 0) (hi : Float64.isInf (fdivI a b) = false) : Ev prog w K n sc ρ (.BinOp l .Div r pos) (.flt (fdivI a b)) :=
  Ev.bin (elim_int _) (elim_int _) hl hr fun A s S _ _ R X => AutoIntOps.truediv_2 (by simpa using h0) (by rw [show Float64.isInf (Float64.ofFrac _ _ _) = false from hi]; decide) ⟨kk, .flt X.tn⟩
theorem Ev.addF (hl : Ev prog w K n sc ρ l (.flt x)) (hr : Ev prog w K n sc ρ r (.flt y)) : Ev prog w K n sc ρ (.BinOp l .Add r pos) (.flt (Float64.add x y)) :=
  Ev.bin (elim_flt _) (elim_flt _) hl hr fun A s S _ _ R X => AutoFloatOps.add_0 ⟨kk, .flt X.tn⟩
theorem Ev.subF (hl : Ev prog w K n sc ρ l (.flt x)) (hr : Ev prog w K n sc ρ r (.flt y)) : Ev prog w K n sc ρ (.BinOp l .Sub r pos) (.flt (Float64.sub x y)) :=
  Ev.bin (elim_flt _) (elim_flt _) hl hr fun A s S _ _ R X => AutoFloatOps.sub_0 ⟨kk, .flt X.tn⟩
theorem Ev.mulF (hl : Ev prog w K n sc ρ l (.flt x)) (hr : Ev prog w K n sc ρ r (.flt y)) : Ev prog w K n sc ρ (.BinOp l .Mult r pos) (.flt (Float64.mul x y)) :=
  Ev.bin (elim_flt _) (elim_flt _) hl hr fun A s S _ _ R X => AutoFloatOps.mul_0 ⟨kk, .flt X.tn⟩
theorem Ev.divF (hl : Ev prog w K n sc ρ l (.flt x)) (hr : Ev prog w K n sc ρ r (.flt y)) (hz : Float64.isZero y = false) : Ev prog w K n sc ρ (.BinOp l .Div r pos) (.flt (Float64.div x y)) :=
  Ev.bin (elim_flt _) (elim_flt _) hl hr fun A s S _ _ R X => AutoFloatOps.truediv_1 (by simp [hz]) ⟨kk, .flt X.tn⟩
theorem Ev.modF (hl : Ev prog w K n sc ρ l (.flt x)) (hr : Ev prog w K n sc ρ r (.flt y)) (hz : Float64.isZero y = false) : Ev prog w K n sc ρ (.BinOp l .Mod r pos) (.flt (Float64.divmod x y).2) :=
  Ev.bin (elim_flt _) (elim_flt _) hl hr fun A s S _ _ R X => AutoFloatOps.mod_1 (by simp [hz]) ⟨kk, .flt X.tn⟩
theorem Ev.mulIF (hl : Ev prog w K n sc ρ l (.int a)) (hr : Ev prog w K n sc ρ r (.flt y)) (hs : a.natAbs < 2 ^ 1023) : Ev prog w K n sc ρ (.BinOp l .Mult r pos) (.flt (Float64.mul (Float64.ofInt a) y)) :=
  Ev.bin (elim_int _) (elim_flt _) hl hr fun A s S _ _ R X => mul_if_fits hs ⟨kk, .flt X.tn⟩
theorem Ev.subFI (hl : Ev prog w K n sc ρ l (.flt x)) (hr : Ev prog w K n sc ρ r (.int b)) (hs : b.natAbs < 2 ^ 1023) : Ev prog w K n sc ρ (.BinOp l .Sub r pos) (.flt (Float64.sub x (Float64.ofInt b))) :=
  Ev.bin (elim_flt _) (elim_int _) hl hr fun A s S _ _ R X => sub_fi_fits hs ⟨kk, .flt X.tn⟩
theorem Ev.addS (hl : Ev prog w K n sc ρ l (.str p)) (hr : Ev prog w K n sc ρ r (.str q)) (hs : p.length + q.length ≤ sizeLine) : Ev prog w K n sc ρ (.BinOp l .Add r pos) (.str (p ++ q)) :=
  Ev.bin (elim_str _) (elim_str _) hl hr fun A s S _ _ R X => PyProof.Rows.add_str (fun _ _ => ⟨kk, .str⟩) hs
theorem Ev.mulS (hl : Ev prog w K n sc ρ l (.str p)) (hr : Ev prog w K n sc ρ r (.int b)) (hs : MulOk p b) : Ev prog w K n sc ρ (.BinOp l .Mult r pos) (.str (Txt.mul p b)) :=
  Ev.bin (elim_str _) (elim_int _) hl hr fun A s S _ _ R X => SB.mul hs (fun _ _ => ⟨kk, .str⟩)
theorem Ev.addL {ds es : List D} (hl : Ev prog w K n sc ρ l (.lst ds)) (hr : Ev prog w K n sc ρ r (.lst es)) (hs : ds.length + es.length ≤ sizeLine) : Ev prog w K n sc ρ (.BinOp l .Add r pos) (.lst (ds ++ es)) :=
  Ev.binop hl hr fun A s S va vb R X qa qb => by
        obtain ⟨_, vs, rfl, hS, ⟨k1, ha⟩, la⟩ := qa.lst_inv
        obtain ⟨_, us, rfl, hS', ⟨k2, hb⟩, lb⟩ := qb.lst_inv
        have e1 := la.length
        have e2 := lb.length
        refine P.add_list (n := k1) (n2 := k2) ha hb ?_ (by simp; omega)
        have E : Ext s.heap (s.heap.push { cls := .type "list", data := .seq (vs.toArray ++ us.toArray) }) := fun _ _ e => Heap.get?_push_of_some _ e
        exact ⟨kp, .lst X.nw (vs := vs ++ us) ⟨0, by simpa using Heap.get?_push_size _ rfl⟩ ((la.ext E).app (lb.ext E))⟩

theorem Ev.eqI (hl : Ev prog w K n sc ρ l (.int a)) (hr : Ev prog w K n sc ρ r (.int b)) (hb : behindInMarks .Eq r = false := by rfl) : Ev prog w K n sc ρ (.Compare l [.Eq] [r] pos) (.bool (a == b)) :=
  Ev.cmp2 (elim_int _) (elim_int _) hl hr (fun A s S _ _ R X => wpAny_eq_int ⟨kr, .bool⟩) hb
theorem Ev.ltI (hl : Ev prog w K n sc ρ l (.int a)) (hr : Ev prog w K n sc ρ r (.int b)) (hb : behindInMarks .Lt r = false := by rfl) : Ev prog w K n sc ρ (.Compare l [.Lt] [r] pos) (.bool (decide (a < b))) :=
  Ev.cmp2 (elim_int _) (elim_int _) hl hr (fun A s S _ _ R X => wpAny_lt_int ⟨kr, .bool⟩) hb
theorem Ev.eqF (hl : Ev prog w K n sc ρ l (.flt x)) (hr : Ev prog w K n sc ρ r (.flt y)) (hb : behindInMarks .Eq r = false := by rfl) : Ev prog w K n sc ρ (.Compare l [.Eq] [r] pos) (.bool (Float64.cmp x y == some .eq)) :=
  Ev.cmp2 (elim_flt _) (elim_flt _) hl hr (fun A s S _ _ R X => AutoFloatOps.eq_0 ⟨kr, .bool⟩) hb
theorem Ev.ltF (hl : Ev prog w K n sc ρ l (.flt x)) (hr : Ev prog w K n sc ρ r (.flt y)) (hb : behindInMarks .Lt r = false := by rfl) : Ev prog w K n sc ρ (.Compare l [.Lt] [r] pos) (.bool (Float64.cmp x y == some .lt)) :=
  Ev.cmp2 (elim_flt _) (elim_flt _) hl hr (fun A s S _ _ R X => AutoFloatOps.lt_0 ⟨kr, .bool⟩) hb
theorem Ev.leF (hl : Ev prog w K n sc ρ l (.flt x)) (hr : Ev prog w K n sc ρ r (.flt y)) (hb : behindInMarks .LtE r = false := by rfl) : Ev prog w K n sc ρ (.Compare l [.LtE] [r] pos) (.bool (Float64.cmp x y == some .lt || Float64.cmp x y == some .eq)) :=
  Ev.cmp2 (elim_flt _) (elim_flt _) hl hr (fun A s S _ _ R X => AutoFloatOps.le_0 ⟨kr, .bool⟩) hb
theorem Ev.neS (hl : Ev prog w K n sc ρ l (.str p)) (hr : Ev prog w K n sc ρ r (.str q)) (hb : behindInMarks .NotEq r = false := by rfl) : Ev prog w K n sc ρ (.Compare l [.NotEq] [r] pos) (.bool (p.cps.toList != q.cps.toList)) :=
  Ev.cmp2 (elim_str _) (elim_str _) hl hr (fun A s S _ _ R X => P.ne_str ⟨kr, .bool⟩) hb
theorem Ev.inS (hl : Ev prog w K n sc ρ l (.str p)) (hr : Ev prog w K n sc ρ r (.str q)) (hb : behindInMarks .In r = false := by rfl) : Ev prog w K n sc ρ (.Compare l [.In] [r] pos) (.bool (Txt.contains q p)) :=
  Ev.cmp2 (elim_str _) (elim_str _) hl hr (fun A s S _ _ R X => SB.contains ⟨kr, .bool⟩) hb
def D.isNone : D → Bool
  | .none => true
  | _ => false
theorem Ev.isN {d : D} (hl : Ev prog w K n sc ρ l d) (hr : Ev prog w K n sc ρ r .none) (hb : behindInMarks .Is r = false := by rfl) : Ev prog w K n sc ρ (.Compare l [.Is] [r] pos) (.bool d.isNone) :=
  Ev.cmp hl hr (fun A s S va vb R X qa qb => by cases qb; refine is_none ⟨kr, ?_⟩; cases qa <;> exact .bool) hb
end
end Mine

end
section
open PySem PySem.W PySem.Calls PyProof.Rows
set_option Elab.async false
set_option maxRecDepth 100000
set_option maxHeartbeats 1000000
namespace Mine
section
variable {prog : Program} {w : World} {K : Frag} {n : Nat} {sc : Scope} {ρ : Rho}

/-! global names -/
theorem Ev.glob {x : Str} {pos : Pos} {v : Value} {d : D} (hx : sc.names.lookup x = some .globalImplicit) (e : nsIn K mainGlobals x = some (some v)) (q : ∀ S h, Den S h v d)
    (hd : (x == ("__debug__" : Str)) = false) : Ev prog w K n sc ρ (.Name x pos) d := by
  intro A s env S B R X ok
  obtain ⟨mg, G⟩ := X.g
  refine Name_function_global (by rw [B.hsc]; exact B.k) (by show env.scope.names.lookup x = _; rw [B.hsc]; exact hx) ?_ hd
  have G' : s.heap.Ns env.globals mg := by rw [B.g]; exact G
  exact loadGlobal_global G' (mg_of X.k G e) ⟨kr, q _ _⟩

def NameIs (K : Frag) (sc : Scope) (x : Str) (v : Value) : Prop :=
  sc.names.lookup x = some .globalImplicit ∧ (x == ("__debug__" : Str)) = false ∧
    (nsIn K mainGlobals x = some (some v) ∨ (nsIn K mainGlobals x = some Option.none ∧ bootBuiltins x = some v ∧ x ≠ "__name__"))

theorem NameIs.load {M : Model} {S : Addr → Prop} {x : Str} {pos : Pos} {v : Value} {A : Around} {s : Shared} {env : Env} {Q : Value → Shared → Prop} {E : Value → Shared → Prop}
    (h : NameIs K sc x v) (B : EnvB sc env) (X : Base K S s) (q : Q v s) : wpAny M A (eval (.Name x pos) env) Q E s := by
  obtain ⟨hx, hd, hh⟩ := h
  obtain ⟨mg, G⟩ := X.g
  obtain ⟨mb, Gb, hb⟩ := X.b
  have G' : s.heap.Ns env.globals mg := by rw [B.g]; exact G
  have Gb' : s.heap.Ns env.builtins mb := by rw [B.b]; exact Gb
  refine Name_function_global (by rw [B.hsc]; exact B.k) (by show env.scope.names.lookup x = _; rw [B.hsc]; exact hx) ?_ hd
  rcases hh with e | ⟨e, e2, e3⟩
  · exact loadGlobal_global G' (mg_of X.k G e) q
  · exact loadGlobal_builtin G' (mg_none_of X.k G e) Gb' ((hb x e3).trans e2) q

/-! lists of expressions -/
theorem EvL.nil : EvL prog w K n sc ρ [] [] := fun _ _ _ _ _ _ _ _ _ => args_nil ⟨kr, .nil⟩
theorem EvL.cons {e : Expr} {es : List Expr} {d : D} {ds : List D} (he : Ev prog w K n sc ρ e d) (hes : EvL prog w K n sc ρ es ds)
    (hst : ∀ env, starEach (e :: es) env = (false, eval e env) :: starEach es env := by intro; rfl) : EvL prog w K n sc ρ (e :: es) (d :: ds) := by
  intro A s env pos S B R X ok
  refine args_cons ((he A s env S B R X ok).then fun v s1 k1 q1 => ?_) (hst env)
  refine wpAny_mono (wpK (hes A s1 env pos S B R (X.mv k1) (ok.ext (kx k1)))) (fun vs s2 h2 => ?_) fun _ _ x => x
  exact ⟨(kt k1 h2.1).1, .cons (q1.ext (kx h2.1)) h2.2⟩

/-! calls by a name -/
theorem Ev.callFn {f : Str} {fp pos : Pos} {e : Expr} {es : List Expr} {ds : List D} {d : D} {a : Addr} {o : Obj} {fd : FuncData}
    (hn : NameIs K sc f (.ref a)) (ho : K.lookup a = some o) (hfd : o.data = .func fd) (ha : EvL prog w K n sc ρ (e :: es) ds) (hc : Cl prog w K n (.ref a) ds d)
    (hst : ∀ env, starEach (e :: es) env = (false, eval e env) :: starEach es env := by intro; rfl) :
    Ev prog w K n sc ρ (.Call (.Name f fp) (e :: es) [] pos) d := by
  intro A s env S B R X ok
  refine Call_ (NameIs.load hn B X ?_)
  refine callWith_def hfd (wpAny_mono (wpK (ha A s env pos S B R X ok)) (fun vs s1 h1 => ?_) fun _ _ x => x.elim) (hst env)
  have X1 := X.mv h1.1
  exact ⟨X1.k _ _ ho, (hc A s1 vs S R X1 h1.2).then fun v s2 k2 q2 => ⟨(kt h1.1 k2).1, q2⟩⟩

theorem Ev.callB {f : Str} {fp pos : Pos} {e : Expr} {es : List Expr} {ds : List D} {d : D} {id : String}
    (hn : NameIs K sc f (.builtin id)) (ha : EvL prog w K n sc ρ (e :: es) ds) (hc : Cl prog w K n (.builtin id) ds d)
    (hst : ∀ env, starEach (e :: es) env = (false, eval e env) :: starEach es env := by intro; rfl) (hpl : ∀ env, (backTo pos (starEach es env)).any (·.1) = false := by intro; rfl) :
    Ev prog w K n sc ρ (.Call (.Name f fp) (e :: es) [] pos) d := by
  intro A s env S B R X ok
  refine Call_ (NameIs.load hn B X ?_)
  refine PyProof.Rows.callWith_builtin1 (wpAny_mono (wpK (ha A s env pos S B R X ok)) (fun vs s1 h1 => ?_) fun _ _ x => x.elim) (hst env) (hpl env)
  exact (hc A s1 vs S R (X.mv h1.1) h1.2).then fun v s2 k2 q2 => ⟨(kt h1.1 k2).1, q2⟩

theorem Ev.callT {f : Str} {fp pos : Pos} {e : Expr} {es : List Expr} {ds : List D} {d : D} {T : String}
    (hn : NameIs K sc f (.type T)) (ha : EvL prog w K n sc ρ (e :: es) ds) (hc : Cl prog w K n (.type T) ds d)
    (hst : ∀ env, starEach (e :: es) env = (false, eval e env) :: starEach es env := by intro; rfl) (hpl : ∀ env, (backTo pos (starEach es env)).any (·.1) = false := by intro; rfl) :
    Ev prog w K n sc ρ (.Call (.Name f fp) (e :: es) [] pos) d := by
  intro A s env S B R X ok
  refine Call_ (NameIs.load hn B X ?_)
  refine PyProof.Rows.callWith_type1 (wpAny_mono (wpK (ha A s env pos S B R X ok)) (fun vs s1 h1 => ?_) fun _ _ x => x.elim) (hst env) (hpl env)
  exact (hc A s1 vs S R (X.mv h1.1) h1.2).then fun v s2 k2 q2 => ⟨(kt h1.1 k2).1, q2⟩

/-! displays -/
theorem Ev.tup {es : List Expr} {k : Nat} {pos : Pos} {ds : List D} (h : EvL prog w K n sc ρ es ds) (hs : ds.length ≤ sizeLine := by simp [sizeLine]) : Ev prog w K n sc ρ (.Tuple es k pos) (.tup ds) := by
  intro A s env S B R X ok
  refine Tuple_ (wpAny_mono (wpK (h A s env pos S B R X ok)) (fun vs s1 h1 => ?_) fun _ _ x => x)
  have hl := h1.2.length
  refine wpAny_newObj_type ?_ (by show vs.toArray.size ≤ sizeLine; simp; omega)
  exact ⟨keepsT h1.1.1 kp, .tup (X.mv h1.1).nw ⟨_, Heap.get?_push_size _ rfl, rfl, 0, rfl⟩ (h1.2.ext fun _ _ e => Heap.get?_push_of_some _ e)⟩
theorem Ev.lst {es : List Expr} {pos : Pos} {ds : List D} (h : EvL prog w K n sc ρ es ds) (hs : ds.length ≤ sizeLine := by simp [sizeLine]) : Ev prog w K n sc ρ (.List es pos) (.lst ds) := by
  intro A s env S B R X ok
  refine List_ (wpAny_mono (wpK (h A s env pos S B R X ok)) (fun vs s1 h1 => ?_) fun _ _ x => x)
  have hl := h1.2.length
  refine wpAny_newObj_type ?_ (by show vs.toArray.size ≤ sizeLine; simp; omega)
  exact ⟨keepsT h1.1.1 kp, .lst (X.mv h1.1).nw ⟨0, Heap.get?_push_size _ rfl⟩ (h1.2.ext fun _ _ e => Heap.get?_push_of_some _ e)⟩

/-! tests -/
def Tst (prog : Program) (w : World) (K : Frag) (n : Nat) (sc : Scope) (ρ : Rho) (e : Expr) (b : Bool) : Prop :=
  ∀ A s env S, EnvB sc env → Room n A → Base K S s → EnvOk S s.heap env ρ → wpAny (model prog w) A (isTrue e env (eval e env)) (fun r s' => Keeps s s' ∧ r = b) No s

theorem Tst.cmp {l r : Expr} {op : CmpOp} {pos : Pos} {b : Bool} (h : Ev prog w K n sc ρ (.Compare l [op] [r] pos) (.bool b)) : Tst prog w K n sc ρ (.Compare l [op] [r] pos) b := by
  intro A s env S B R X ok
  have h1 := h A s env S B R X ok
  unfold Gets at h1
  intro Γ p hΓ
  have h2 := h1 Γ p hΓ
  rw [eval_Compare1] at h2
  rw [isTrue_Compare1]
  simp only [Sem.wp_bind', Sem.wp_holding, Sem.wp_cmd_standAt, Sem.wp_operate] at h2 ⊢
  refine Sem.wp_mono _ Γ _ (fun a p₁ s₁ h₁ => ?_) (fun _ _ _ h' => h') _ _ h2
  refine Sem.wp_mono _ Γ _ (fun c p₂ s₂ h₂ => ?_) (fun _ _ _ h' => h') _ _ h₁
  refine Sem.wp_mono _ Γ _ (fun v p₃ s₃ h₃ => ?_) (fun _ _ _ h' => h') _ _ h₂
  obtain ⟨k3, q3⟩ := h₃
  cases q3
  exact wpAny_truthy_bool (M := model prog w) (A := A) (E := No) (Q := fun r s' => Keeps s s' ∧ r = b) ⟨k3, rfl⟩ Γ p₃ hΓ
theorem Tst.and {x y : Expr} {pos : Pos} {a b : Bool} (hx : Tst prog w K n sc ρ x a) (hy : a = true → Tst prog w K n sc ρ y b) : Tst prog w K n sc ρ (.BoolOp .And [x, y] pos) (a && b) := by
  intro A s env S B R X ok
  refine wpAny_isTrue_BoolOp (wpAny_allTrue_And_cons (wpAny_mono (wpK (hx A s env S B R X ok)) (fun r s1 h1 => ?_) fun _ _ x => x))
  obtain ⟨k1, rfl⟩ := h1
  cases r with
  | false => exact ⟨k1.1, by simp⟩
  | true =>
    refine wpAny_allTrue_And_cons (wpAny_mono (wpK (hy rfl A s1 env S B R (X.mv k1) (ok.ext (kx k1)))) (fun r s2 h2 => ?_) fun _ _ x => x)
    obtain ⟨k2, rfl⟩ := h2
    cases r with
    | false => exact ⟨(kt k1 k2).1, by simp⟩
    | true => exact wpAny_allTrue_And_nil ⟨(kt k1 k2).1, by simp⟩
theorem Tst.or {x y : Expr} {pos : Pos} {a b : Bool} (hx : Tst prog w K n sc ρ x a) (hy : a = false → Tst prog w K n sc ρ y b) : Tst prog w K n sc ρ (.BoolOp .Or [x, y] pos) (a || b) := by
  intro A s env S B R X ok
  refine wpAny_isTrue_BoolOp (wpAny_allTrue_Or_cons (wpAny_mono (wpK (hx A s env S B R X ok)) (fun r s1 h1 => ?_) fun _ _ x => x))
  obtain ⟨k1, rfl⟩ := h1
  cases r with
  | true => exact ⟨k1.1, by simp⟩
  | false =>
    refine wpAny_allTrue_Or_cons (wpAny_mono (wpK (hy rfl A s1 env S B R (X.mv k1) (ok.ext (kx k1)))) (fun r s2 h2 => ?_) fun _ _ x => x)
    obtain ⟨k2, rfl⟩ := h2
    cases r with
    | true => exact ⟨(kt k1 k2).1, by simp⟩
    | false => exact wpAny_allTrue_Or_nil ⟨(kt k1 k2).1, by simp⟩
theorem Ev.ifexp {t x y : Expr} {pos : Pos} {b : Bool} {d : D} (ht : Tst prog w K n sc ρ t b) (hx : b = true → Ev prog w K n sc ρ x d) (hy : b = false → Ev prog w K n sc ρ y d) : Ev prog w K n sc ρ (.IfExp t x y pos) d := by
  intro A s env S B R X ok
  refine wpAny_IfExp (wpAny_mono (wpK (ht A s env S B R X ok)) (fun r s1 h1 => ?_) fun _ _ x => x)
  obtain ⟨k1, rfl⟩ := h1
  cases r with
  | true => exact (hx rfl A s1 env S B R (X.mv k1) (ok.ext (kx k1))).then fun v s2 k2 q2 => ⟨(kt k1 k2).1, q2⟩
  | false => exact (hy rfl A s1 env S B R (X.mv k1) (ok.ext (kx k1))).then fun v s2 k2 q2 => ⟨(kt k1 k2).1, q2⟩

/-! items -/
theorem Ev.sub {value slice : Expr} {pos : Pos} {a b d : D} (hv : Ev prog w K n sc ρ value a) (hi : Ev prog w K n sc ρ slice b)
    (ho : ∀ A s S va vb, Room n A → Base K S s → Den S s.heap va a → Den S s.heap vb b → Gets prog w S A (subscriptTail value slice va vb) s d) : Ev prog w K n sc ρ (.Subscript value slice pos) d := by
  intro A s env S B R X ok
  refine PyProof.Rows.Subscript_ ((hv A s env S B R X ok).then fun va s1 k1 q1 => ?_)
  refine (hi A s1 env S B R (X.mv k1) (ok.ext (kx k1))).then fun vb s2 k2 q2 => ?_
  exact (ho A s2 S va vb R (X.mv (kt k1 k2)) (q1.ext (kx k2)) q2).then fun v s3 k3 q3 => ⟨(kt (kt k1 k2) k3).1, q3⟩
theorem Ev.itemL {value slice : Expr} {pos : Pos} {ds : List D} {i : Int} {d : D} (hv : Ev prog w K n sc ρ value (.lst ds)) (hi : Ev prog w K n sc ρ slice (.int i)) (h0 : 0 ≤ i) (hlt : i < 2 ^ 63) (hd : ds[i.toNat]? = some d)
    (hs : ∀ o i, subscripted slice false o i = operate [o, i] (getItem o i) := by intro _ _; rfl) : Ev prog w K n sc ρ (.Subscript value slice pos) d :=
  Ev.sub hv hi fun A s S va vb R X qa qb => by
    refine elim_int i (C := fun vb => Gets prog w S A (subscriptTail value slice va vb) s d) qb fun t => ?_
    obtain ⟨_, vs, rfl, hS, hp, hl⟩ := qa.lst_inv
    obtain ⟨v, e, q⟩ := hl.get' hd
    exact tail_any hp.isList.typeIs slot_list_getitem.lookup (wpAny_getItem_list hp.isList h0 hlt (by simpa using e) ⟨kr, q⟩) (hs _ _)
theorem Ev.itemT {value slice : Expr} {pos : Pos} {ds : List D} {i : Int} {d : D} (hv : Ev prog w K n sc ρ value (.tup ds)) (hi : Ev prog w K n sc ρ slice (.int i)) (h0 : 0 ≤ i) (hlt : i < 2 ^ 63) (hd : ds[i.toNat]? = some d)
    (hs : ∀ o i, subscripted slice false o i = operate [o, i] (getItem o i) := by intro _ _; rfl) : Ev prog w K n sc ρ (.Subscript value slice pos) d :=
  Ev.sub hv hi fun A s S va vb R X qa qb => by
    refine elim_int i (C := fun vb => Gets prog w S A (subscriptTail value slice va vb) s d) qb fun t => ?_
    obtain ⟨_, vs, rfl, hS, hp, hl⟩ := qa.tup_inv
    obtain ⟨v, e, q⟩ := hl.get' hd
    have hlen : i.toNat < vs.length := hl.length ▸ (List.getElem?_eq_some_iff.mp hd).1
    refine tail_any hp.typeIs slot_tuple_getitem.lookup (PyProof.Rows.getItem_tuple (j := i.toNat) hp (Int.le_trans (by decide) h0) hlt ?_ (by simpa using e) ⟨kr, q⟩) (hs _ _)
    clear q e hl hp hS qa qb X R hd hs hi hv
    simp only [List.size_toArray]
    unfold seqIndex?
    dsimp only
    rw [if_neg (Int.not_lt.mpr h0), if_pos (by rw [decide_eq_true h0, Bool.true_and]; exact decide_eq_true (by omega))]
theorem Ev.itemS {value slice : Expr} {pos : Pos} {p : Str} {i : Int} (hv : Ev prog w K n sc ρ value (.str p)) (hi : Ev prog w K n sc ρ slice (.int i)) (h0 : 0 ≤ i) (hlt : i < p.length) (hfit : i < 2 ^ 63)
    (hs : ∀ o i, subscripted slice false o i = operate [o, i] (getItem o i) := by intro _ _; rfl) : Ev prog w K n sc ρ (.Subscript value slice pos) (.str (Txt.item p i)) :=
  Ev.sub hv hi fun A s S va vb R X qa qb => by
    refine elim_int i (C := fun vb => Gets prog w S A (subscriptTail value slice va vb) s _) qb fun t => ?_
    refine elim_str p (C := fun va => Gets prog w S A (subscriptTail value slice va _) s _) qa fun u => ?_
    refine tail_any (typeIs_str _ _ _) F.slot_str_getitem.lookup (SB.getItem (by simp [fitsSsize]; omega) (charAt_isSome (by omega) hlt) ⟨kk, .str⟩) (hs _ _)
end
end Mine

end
section
open PySem PySem.W PySem.Calls PyProof.Rows
set_option Elab.async false
set_option maxRecDepth 100000
set_option maxHeartbeats 1000000
namespace Mine
section
variable {prog : Program} {w : World} {K : Frag} {n : Nat} {sc : Scope} {ρ : Rho}

/-! what a datum yields when it is walked -/
def rngD (a : Int) (k : Nat) : List D := (List.range k).map fun (i : Nat) => D.int (a + (i : Int))
inductive Yields : D → List D → Prop
  | lst {ds : List D} : Yields (.lst ds) ds
  | tup {ds : List D} : Yields (.tup ds) ds
  | rng {a : Int} {k : Nat} (h0 : -(2 ^ 62) ≤ a) (h1 : a + k < 2 ^ 62) : Yields (.rng a k) (rngD a k)

theorem rngD_length (a : Int) (k : Nat) : (rngD a k).length = k := by simp [rngD]

theorem Den.rng_inv {S : Addr → Prop} {h : Heap} {v : Value} {i : Int} {n : Nat} (q : Den S h v (.rng i n)) : ∃ a t u tv, v = .ref a ∧ h.get? a = some { cls := .type "range", data := .fields #[.int i t, .int (i + n) u, .int 1 tv] } := by
  cases q with | rng x y => exact ⟨_, _, _, _, rfl, y⟩
theorem range_size {a : Int} {k : Nat} : Builtin.Range.rangeSize a (a + k) 1 = k := by
  unfold Builtin.Range.rangeSize
  by_cases hk : a < a + k
  · rw [if_pos (by decide), if_pos hk]; omega
  · rw [if_pos (by decide), if_neg hk]; omega
theorem range_small {a : Int} {k : Nat} (h0 : -(2 ^ 62) ≤ a) (h1 : a + k < 2 ^ 62) : Builtin.Range.small a (a + k) 1 = true := by
  unfold Builtin.Range.small
  rw [range_size]
  simp only [Builtin.Range.rangeFitsLong, Bool.and_eq_true, Bool.or_eq_true, decide_eq_true_eq]
  refine ⟨⟨⟨⟨⟨?_, ?_⟩, ?_, ?_⟩, ?_, ?_⟩, ?_, ?_⟩, .inr ?_⟩ <;> (try simp) <;> omega
theorem new_none {h : Heap} {b : Addr} (hb : b ∈ [h.objs.size]) : h.get? b = Option.none := by
  rw [List.mem_singleton.mp hb]
  cases e : h.get? h.objs.size with
  | none => rfl
  | some o => exact absurd (Heap.lt_size e) (Nat.lt_irrefl _)
theorem push_lt {h : Heap} {o : Obj} {b : Addr} (hb : b ∈ [h.objs.size]) : b < (h.push o).objs.size := by
  rw [Heap.size_push, List.mem_singleton.mp hb]; exact Nat.lt_succ_self _
theorem push_lt2 {h : Heap} {o : Obj} {a b : Addr} (ha : a < h.objs.size) (hb : b ∈ [h.objs.size, a]) : b < (h.push o).objs.size := by
  rcases List.mem_cons.mp hb with e | hb
  · exact push_lt (List.mem_singleton.mpr e)
  · rw [Heap.size_push, List.mem_singleton.mp hb]; exact Nat.lt_succ_of_lt ha
theorem own_or {n a b : Addr} (hb : b ∈ [n, a]) : b ∈ [n] ∨ Value.ref a = .ref b := by
  rcases List.mem_cons.mp hb with e | hb
  · exact .inl (List.mem_singleton.mpr e)
  · rw [List.mem_singleton.mp hb]; exact .inr rfl
theorem fields_not {o : Obj} {xs : Array Value} (hd : o.data = .fields xs) (hc : o.cls ≠ .type "range") : ¬ isDo o := by
  rintro (⟨ys, k, e⟩ | ⟨e, _⟩)
  · rw [hd] at e; cases e
  · exact hc e
theorem iter_den {S : Addr → Prop} {A : Around} {s : Shared} {v : Value} {d : D} {ds : List D} {E : Value → Shared → Prop} {Q : Value → Shared → Prop} (hh : A.handled = Option.none) (q : Den S s.heap v d) (y : Yields d ds)
    (h : ∀ I fp wr P St s₂, Walks prog w A I fp wr ds.length P St → St 0 s₂.heap → (∀ b ∈ fp, b < s₂.heap.objs.size) → (∀ b ∈ wr, s.heap.get? b = none) → Kp s s₂ →
      (∀ i v, P i v → ∃ d, ds[i]? = some d ∧ Den S s.heap v d) → (∀ i h, St i h → ∀ b ∈ wr, ∀ o, h.get? b = some o → ¬ isDo o) → (∀ b ∈ fp, b ∈ wr ∨ v = .ref b) → Q (.ref I) s₂) :
    wpAny (model prog w) A (pyIter v) Q E s := by
  cases y with
  | lst =>
    obtain ⟨a, vs, rfl, hS, hp, hl⟩ := q.lst_inv
    have hlt : a < s.heap.objs.size := Heap.lt_size hp.choose_spec
    refine wpAny_pyIter_list hp.isList ?_
    have W := Walks.list (prog := prog) (w := w) (A := A) hh s.heap.objs.size a (Nat.ne_of_lt hlt) vs.toArray
    rw [show vs.toArray.size = ds.length from (List.size_toArray ..).trans hl.length] at W
    refine h _ _ _ _ _ _ W ⟨⟨_, Heap.get?_push_size _ rfl, rfl, rfl⟩, hp.isList.push _⟩ (fun b hb => push_lt2 hlt hb) (fun b hb => new_none hb) ⟨kp, Nat.le_refl _⟩ (fun i v hv => hl.get (by simpa using hv)) ?_ (fun b hb => own_or hb)
    rintro i h ⟨⟨o, ho, hc, hd⟩, _⟩ b hb o' ho'
    rw [List.mem_singleton.mp hb, ho] at ho'
    exact Option.some.inj ho' ▸ fields_not hd (by rw [hc]; decide)
  | tup =>
    obtain ⟨a, vs, rfl, hS, hp, hl⟩ := q.tup_inv
    have hlt : a < s.heap.objs.size := Heap.lt_size hp.choose_spec.1
    refine wpAny_pyIter_tuple hp ?_
    have W := Walks.tuple (prog := prog) (w := w) (A := A) hh s.heap.objs.size a (Nat.ne_of_lt hlt) vs.toArray
    rw [show vs.toArray.size = ds.length from (List.size_toArray ..).trans hl.length] at W
    refine h _ _ _ _ _ _ W ⟨⟨_, Heap.get?_push_size _ rfl, rfl, rfl⟩, hp.push _⟩ (fun b hb => push_lt2 hlt hb) (fun b hb => new_none hb) ⟨kp, Nat.le_refl _⟩ (fun i v hv => hl.get (by simpa using hv)) ?_ (fun b hb => own_or hb)
    rintro i h ⟨⟨o, ho, hc, hd⟩, _⟩ b hb o' ho'
    rw [List.mem_singleton.mp hb, ho] at ho'
    exact Option.some.inj ho' ▸ fields_not hd (by rw [hc]; decide)
  | rng h0 h1 =>
    rename_i a k
    obtain ⟨r, t, u, tv, rfl, hr⟩ := q.rng_inv
    refine wpAny_pyIter_range hr (range_small h0 h1) ?_
    rw [range_size]
    have W := (Walks.range (prog := prog) (w := w) (A := A) hh s.heap.objs.size a 1 k).bound
    rw [← rngD_length a k] at W
    refine h _ _ _ _ _ _ W (by show IsRangeIter _ _ _ _ _; rw [rngD_length]; simpa using Heap.get?_push_size (o := { cls := .type "range_iterator", data := .fields #[rawInt a, rawInt k, rawInt 1] }) s.heap rfl) (fun b hb => push_lt hb) (fun b hb => new_none hb) ⟨kp, Nat.le_refl _⟩ ?_ ?_ (fun b hb => .inl hb)
    · rintro i v ⟨hi, t, rfl⟩
      rw [rngD_length] at hi
      exact ⟨.int (a + i), by simp [rngD, hi], by rw [Int.mul_one]; exact .int⟩
    · rintro i h ho b hb o' ho'
      rw [List.mem_singleton.mp hb, show h.get? s.heap.objs.size = _ from ho] at ho'
      exact Option.some.inj ho' ▸ fields_not rfl (show Value.type "range_iterator" ≠ Value.type "range" by decide)

theorem Kp.back {s s₂ : Shared} {h' : Heap} {tk : Nat} {wr : List Addr} (k : Kp s s₂) (hwr : ∀ b ∈ wr, s.heap.get? b = Option.none) (hk : ∀ b o, b ∉ wr → s₂.heap.get? b = some o → h'.get? b = some o) :
    Keeps s { s₂ with heap := h', toks := tk } := by
  obtain ⟨⟨h, t, rfl, k⟩, _⟩ := k
  exact ⟨h', tk, rfl, fun b o e => hk b o (fun hm => by rw [hwr b hm] at e; cases e) (k b o e)⟩

/-! built-in calls -/
theorem DenL.one {S : Addr → Prop} {h : Heap} {vs : List Value} {a : D} (q : DenL S h vs [a]) : ∃ v, vs = [v] ∧ Den S h v a := by
  cases q with | cons x y => cases y; exact ⟨_, rfl, x⟩
theorem DenL.two {S : Addr → Prop} {h : Heap} {vs : List Value} {a b : D} (q : DenL S h vs [a, b]) : ∃ v u, vs = [v, u] ∧ Den S h v a ∧ Den S h u b := by
  cases q with | cons x y => obtain ⟨u, rfl, z⟩ := y.one; exact ⟨_, _, rfl, x, z⟩
theorem DenL.three {S : Addr → Prop} {h : Heap} {vs : List Value} {a b c : D} (q : DenL S h vs [a, b, c]) : ∃ v u x, vs = [v, u, x] ∧ Den S h v a ∧ Den S h u b ∧ Den S h x c := by
  cases q with | cons x y => obtain ⟨u, v, rfl, z⟩ := y.two; exact ⟨_, _, _, rfl, x, z⟩

theorem Cl.lenL {ds : List D} (hs : (ds.length : Int) < 2 ^ 63) : Cl prog w K n (.builtin "len") [.lst ds] (.int ds.length) := by
  intro A s vs S R X q
  obtain ⟨v, rfl, q1⟩ := q.one
  obtain ⟨_, vs, rfl, hS, hp, hl⟩ := q1.lst_inv
  have e : vs.toArray.size = ds.length := (List.size_toArray ..).trans hl.length
  exact PyProof.Rows.len_list hp.isList (by rw [e]; exact hs) ⟨kk, by rw [e]; exact .int⟩
theorem Cl.lenS {p : Str} (hs : (p.length : Int) < 2 ^ 63) : Cl prog w K n (.builtin "len") [.str p] (.int p.length) := by
  intro A s vs S R X q
  obtain ⟨v, rfl, q1⟩ := q.one
  exact elim_str p (C := fun v => Gets prog w S A (call (.builtin "len") [v]) s _) q1 fun t => P.len_str (Int.not_le.mpr hs) ⟨kk, .int⟩
theorem Cl.rng1 {k : Nat} : Cl prog w K n (.type "range") [.int k] (.rng 0 k) := by
  intro A s vs S R X q
  obtain ⟨v, rfl, q1⟩ := q.one
  refine elim_int _ (C := fun v => Gets prog w S A (call (.type "range") [v]) s _) q1 fun t => ?_
  exact call_range_1 ⟨kp, .rng X.nw (by rw [Int.zero_add]; exact Heap.get?_push_size _ rfl)⟩
theorem Cl.rng2 {a b : Int} {k : Nat} (h : b = a + k) : Cl prog w K n (.type "range") [.int a, .int b] (.rng a k) := by
  intro A s vs S R X q
  obtain ⟨v, u, rfl, q1, q2⟩ := q.two
  refine elim_int _ (C := fun v => Gets prog w S A (call (.type "range") [v, u]) s _) q1 fun t => ?_
  refine elim_int _ (C := fun u => Gets prog w S A (call (.type "range") [_, u]) s _) q2 fun t => ?_
  rw [h]
  exact call_range_2 ⟨kp, .rng X.nw (Heap.get?_push_size _ rfl)⟩

theorem preSum_eq (l : List Int) : ∀ k, k ≤ l.length → preSum (fun i => l.getD i 0) k = (l.take k).sum
  | 0, _ => by simp [preSum]
  | k + 1, h => by
    have hk : k < l.length := h
    rw [preSum, preSum_eq l k (Nat.le_of_succ_le h), List.take_succ_eq_append_getElem hk, List.sum_append]
    simp [List.getD, hk]

theorem Cl.sum {d : D} {l : List Int} (y : Yields d (l.map D.int)) : Cl prog w K n (.builtin "sum") [d] (.int l.sum) := by
  intro A s vs S R X q
  obtain ⟨v, rfl, q1⟩ := q.one
  refine call_sum_walkG (iter_den R.hd q1 y fun I fp wr P St s₂ W hst hfp hwr k hP _ _ => ?_)
  refine ⟨I, fp, wr, _, P, St, fun i => l.getD i 0, rfl, W, hst, hfp, fun i v hv => ?_, fun h' tk t' hk => ?_⟩
  · obtain ⟨d, e, q⟩ := hP i v hv
    rw [List.getElem?_map] at e
    obtain ⟨i', e', rfl⟩ := Option.map_eq_some_iff.mp e
    cases q
    rename_i t0
    exact ⟨t0, by simp [List.getD, e']⟩
  · have e : preSum (fun i => l.getD i 0) (l.map D.int).length = l.sum := by
      rw [List.length_map, preSum_eq l l.length (Nat.le_refl _), List.take_length]
    rw [e]
    exact ⟨k.back hwr hk, .int⟩
end
end Mine

end
section
open PySem PySem.W PySem.Calls PyProof.Rows
set_option Elab.async false
set_option maxRecDepth 100000
set_option maxHeartbeats 1000000
namespace Mine
section
variable {prog : Program} {w : World} {K : Frag} {n : Nat} {sc : Scope} {ρ : Rho}

theorem argBest_spec {bt : Nat → Nat → Bool} {f : Nat → Int} (hb : ∀ i j, bt i j = decide (f i > f j)) : ∀ k, argBest bt k ≤ k ∧ ∀ i, i ≤ k → f i ≤ f (argBest bt k)
  | 0 => ⟨Nat.le_refl _, fun i hi => by have : i = 0 := by omega
                                        subst this; exact Int.le_refl _⟩
  | k + 1 => by
    obtain ⟨h1, h2⟩ := argBest_spec hb k
    unfold argBest
    rw [hb]
    by_cases hc : f (k + 1) > f (argBest bt k)
    · rw [decide_eq_true hc, if_pos rfl]
      refine ⟨Nat.le_refl _, fun i hi => ?_⟩
      by_cases hi' : i ≤ k
      · have := h2 i hi'; omega
      · have : i = k + 1 := by omega
        subst this; exact Int.le_refl _
    · rw [decide_eq_false hc, if_neg (by decide)]
      refine ⟨by omega, fun i hi => ?_⟩
      by_cases hi' : i ≤ k
      · exact h2 i hi'
      · have : i = k + 1 := by omega
        subst this; omega

theorem ints_at {ds : List D} {l : List Int} (e : ds = l.map D.int) {S : Addr → Prop} {h : Heap} {P : Nat → Value → Prop} (hP : ∀ i v, P i v → ∃ d, ds[i]? = some d ∧ Den S h v d) {i : Nat} {v : Value} (hv : P i v) : i < l.length ∧ ∃ t, v = .int (l.getD i 0) t := by
  obtain ⟨d, e', q⟩ := hP i v hv
  subst e
  rw [List.getElem?_map] at e'
  obtain ⟨i', e2, rfl⟩ := Option.map_eq_some_iff.mp e'
  have e3 : l.getD i 0 = i' := by rw [List.getD_eq_getElem?_getD, e2]; rfl
  rw [e3]
  exact ⟨(List.getElem?_eq_some_iff.mp e2).1, elim_int i' (C := fun v => ∃ t, v = .int i' t) q fun t => ⟨t, rfl⟩⟩
theorem getD_mem' {l : List Int} {i : Nat} (h : i < l.length) : l.getD i 0 ∈ l := by
  have : l.getD i 0 = l[i] := by simp [List.getD, h]
  rw [this]; exact List.getElem_mem h

theorem Cl.maxL {d : D} {l : List Int} {m : Int} (y : Yields d (l.map D.int)) (hm : m ∈ l) (hle : ∀ x ∈ l, x ≤ m) : Cl prog w K n (.builtin "max") [d] (.int m) := by
  intro A s vs S R X q
  obtain ⟨v, rfl, q1⟩ := q.one
  refine call_max_walk (iter_den R.hd q1 y fun I fp wr P St s₂ W hst hfp hwr k hP _ _ => ?_)
  have hpos : 0 < l.length := List.length_pos_of_mem hm
  refine ⟨I, fp, wr, _, P, St, _, rfl, W, hst, hfp, by simpa using hpos, CmpOf.ints_gt (fun i => l.getD i 0) (fun i v hv => (ints_at rfl hP hv).2), fun v h' tk hv hk => ?_⟩
  obtain ⟨hi, t, e⟩ := ints_at rfl hP hv
  subst e
  refine ⟨k.back hwr hk, ?_⟩
  rw [List.length_map] at hv hi ⊢
  obtain ⟨h1, h2⟩ := argBest_spec (f := fun i => l.getD i 0) (fun _ _ => rfl) (l.length - 1)
  obtain ⟨j, hj, hjm⟩ := List.getElem_of_mem hm
  have h3 := h2 j (by omega)
  have h4 : l.getD (argBest (fun i j => decide (l.getD i 0 > l.getD j 0)) (l.length - 1)) 0 = m := by
    apply Int.le_antisymm
    · refine hle _ ?_
      have : argBest (fun i j => decide (l.getD i 0 > l.getD j 0)) (l.length - 1) < l.length := by omega
      exact getD_mem' this
    · have : l.getD j 0 = m := by simp [List.getD, hj, hjm]
      rw [← this]; exact h3
  rw [h4]; exact .int

theorem Cl.minL {d : D} {l : List Int} {m : Int} (y : Yields d (l.map D.int)) (hm : m ∈ l) (hle : ∀ x ∈ l, m ≤ x) : Cl prog w K n (.builtin "min") [d] (.int m) := by
  intro A s vs S R X q
  obtain ⟨v, rfl, q1⟩ := q.one
  refine call_min_walk (iter_den R.hd q1 y fun I fp wr P St s₂ W hst hfp hwr k hP _ _ => ?_)
  have hpos : 0 < l.length := List.length_pos_of_mem hm
  refine ⟨I, fp, wr, _, P, St, _, rfl, W, hst, hfp, by simpa using hpos, CmpOf.ints_lt (fun i => l.getD i 0) (fun i v hv => (ints_at rfl hP hv).2), fun v h' tk hv hk => ?_⟩
  obtain ⟨hi, t, e⟩ := ints_at rfl hP hv
  subst e
  refine ⟨k.back hwr hk, ?_⟩
  rw [List.length_map] at hv hi ⊢
  obtain ⟨h1, h2⟩ := argBest_spec (bt := fun i j => decide (l.getD i 0 < l.getD j 0)) (f := fun i => - l.getD i 0) (fun i j => by congr 1; apply propext; omega) (l.length - 1)
  obtain ⟨j, hj, hjm⟩ := List.getElem_of_mem hm
  have h3 := h2 j (by omega)
  have h4 : l.getD (argBest (fun i j => decide (l.getD i 0 < l.getD j 0)) (l.length - 1)) 0 = m := by
    apply Int.le_antisymm
    · have : l.getD j 0 = m := by simp [List.getD, hj, hjm]
      rw [← this]; omega
    · refine hle _ ?_
      have : argBest (fun i j => decide (l.getD i 0 < l.getD j 0)) (l.length - 1) < l.length := by omega
      exact getD_mem' this
  rw [h4]; exact .int

theorem Cl.min2 {a b : Int} : Cl prog w K n (.builtin "min") [.int a, .int b] (.int (min a b)) := by
  intro A s vs S R X q
  obtain ⟨v, u, rfl, q1, q2⟩ := q.two
  refine elim_int _ (C := fun v => Gets prog w S A (call (.builtin "min") [v, u]) s _) q1 fun t => ?_
  refine elim_int _ (C := fun u => Gets prog w S A (call (.builtin "min") [_, u]) s _) q2 fun t => ?_
  refine min_two_ints R.hd fun h' tk hk => ⟨⟨h', tk, rfl, hk⟩, ?_⟩
  by_cases h : b < a
  · rw [if_pos h, Int.min_eq_right (by omega)]; exact .int
  · rw [if_neg h, Int.min_eq_left (by omega)]; exact .int

/-! floats: max, min of three -/
def fmax3 (x y z : UInt64) : UInt64 :=
  let m := if Float64.cmp y x == some .gt then y else x
  if Float64.cmp z m == some .gt then z else m
def fmin3 (x y z : UInt64) : UInt64 :=
  let m := if Float64.cmp y x == some .lt then y else x
  if Float64.cmp z m == some .lt then z else m

theorem flt_at {x y z : UInt64} {S : Addr → Prop} {h : Heap} {P : Nat → Value → Prop} (hP : ∀ i v, P i v → ∃ d, ([D.flt x, .flt y, .flt z] : List D)[i]? = some d ∧ Den S h v d) {i : Nat} {v : Value} (hv : P i v) : ∃ t, v = .float (([x, y, z] : List UInt64).getD i 0) t ∧ t ≠ 0 := by
  obtain ⟨d, e', q⟩ := hP i v hv
  have e2 : (([x, y, z] : List UInt64).map D.flt)[i]? = some d := e'
  rw [List.getElem?_map] at e2
  obtain ⟨u, e3, rfl⟩ := Option.map_eq_some_iff.mp e2
  rw [List.getD_eq_getElem?_getD, e3]
  exact q.flt_inv
theorem best3 (x y z : UInt64) (c : UInt64 → UInt64 → Bool) : ([x, y, z] : List UInt64).getD (argBest (fun i j => c (([x, y, z] : List UInt64).getD i 0) (([x, y, z] : List UInt64).getD j 0)) 2) 0 = (if c z (if c y x then y else x) then z else (if c y x then y else x)) := by
  unfold argBest argBest argBest
  simp only [List.getD_cons_zero, List.getD_cons_succ, Nat.zero_add]
  cases c y x
  · cases h : c z x <;> simp [h]
  · cases h : c z y <;> simp [h]

theorem Cl.max3 {x y z : UInt64} : Cl prog w K n (.builtin "max") [.flt x, .flt y, .flt z] (.flt (fmax3 x y z)) := by
  intro A s vs S R X q
  obtain ⟨v, u, r, rfl, q1, q2, q3⟩ := q.three
  refine call_max_three ?_
  have E : Ext s.heap (s.heap.push { cls := .type "tuple", data := .seq #[v, u, r] }) := fun _ _ e => Heap.get?_push_of_some _ e
  have qt : Den S (s.heap.push { cls := .type "tuple", data := .seq #[v, u, r] }) (.ref s.heap.objs.size) (.tup [.flt x, .flt y, .flt z]) :=
    .tup X.nw (vs := [v, u, r]) ⟨_, Heap.get?_push_size _ rfl, rfl, 0, rfl⟩ (.cons (q1.ext E) (.cons (q2.ext E) (.cons (q3.ext E) .nil)))
  refine iter_den (s := { s with heap := s.heap.push { cls := .type "tuple", data := .seq #[v, u, r] } }) R.hd qt .tup fun I fp wr P St s₂ W hst hfp hwr k hP _ _ => ?_
  refine ⟨I, fp, wr, _, P, St, fun i j => Float64.cmp (([x, y, z] : List UInt64).getD i 0) (([x, y, z] : List UInt64).getD j 0) == some .gt, rfl, W, hst, hfp, by simp, ?_, fun v h' tk hv hk => ?_⟩
  · intro i j vi vj s Q E hi hj hq
    obtain ⟨_, rfl, _⟩ := flt_at hP hi
    obtain ⟨_, rfl, _⟩ := flt_at hP hj
    exact AutoFloatOps.gt_0 hq
  · obtain ⟨t, rfl, ht⟩ := flt_at hP hv
    refine ⟨keepsT ⟨_, s.toks, rfl, E⟩ (k.back hwr hk), ?_⟩
    have e3 := best3 x y z (fun a b => Float64.cmp a b == some .gt)
    have e5 : fmax3 x y z = _ := e3.symm
    rw [e5]
    exact .flt ht

theorem Cl.min3 {x y z : UInt64} : Cl prog w K n (.builtin "min") [.flt x, .flt y, .flt z] (.flt (fmin3 x y z)) := by
  intro A s vs S R X q
  obtain ⟨v, u, r, rfl, q1, q2, q3⟩ := q.three
  refine call_min_three ?_
  have E : Ext s.heap (s.heap.push { cls := .type "tuple", data := .seq #[v, u, r] }) := fun _ _ e => Heap.get?_push_of_some _ e
  have qt : Den S (s.heap.push { cls := .type "tuple", data := .seq #[v, u, r] }) (.ref s.heap.objs.size) (.tup [.flt x, .flt y, .flt z]) :=
    .tup X.nw (vs := [v, u, r]) ⟨_, Heap.get?_push_size _ rfl, rfl, 0, rfl⟩ (.cons (q1.ext E) (.cons (q2.ext E) (.cons (q3.ext E) .nil)))
  refine iter_den (s := { s with heap := s.heap.push { cls := .type "tuple", data := .seq #[v, u, r] } }) R.hd qt .tup fun I fp wr P St s₂ W hst hfp hwr k hP _ _ => ?_
  refine ⟨I, fp, wr, _, P, St, fun i j => Float64.cmp (([x, y, z] : List UInt64).getD i 0) (([x, y, z] : List UInt64).getD j 0) == some .lt, rfl, W, hst, hfp, by simp, ?_, fun v h' tk hv hk => ?_⟩
  · intro i j vi vj s Q E hi hj hq
    obtain ⟨_, rfl, _⟩ := flt_at hP hi
    obtain ⟨_, rfl, _⟩ := flt_at hP hj
    exact AutoFloatOps.lt_0 hq
  · obtain ⟨t, rfl, ht⟩ := flt_at hP hv
    refine ⟨keepsT ⟨_, s.toks, rfl, E⟩ (k.back hwr hk), ?_⟩
    have e3 := best3 x y z (fun a b => Float64.cmp a b == some .lt)
    have e5 : fmin3 x y z = _ := e3.symm
    rw [e5]
    exact .flt ht

/-! int of a float -/
def truncF (x : UInt64) : Int := match Float64.decode x with
  | .fin sg m e => Float64.truncOf sg m e
  | _ => 0
theorem Cl.intF {x : UInt64} (hf : Float64.isFinite x = true) : Cl prog w K n (.type "int") [.flt x] (.int (truncF x)) := by
  intro A s vs S R X q
  obtain ⟨v, rfl, q1⟩ := q.one
  refine elim_flt x (C := fun v => Gets prog w S A (call (.type "int") [v]) s _) q1 fun t => ?_
  unfold Float64.isFinite at hf
  unfold truncF
  cases e : Float64.decode x with
  | nan => rw [e] at hf; cases hf
  | inf _ => rw [e] at hf; cases hf
  | fin sg m ex => exact call_int_float e ⟨kk, .int⟩

/-! comparisons of lists and tuples -/
theorem intsAre {S : Addr → Prop} {h : Heap} {vs : List Value} : ∀ {l : List Int} {vs : List Value}, DenL S h vs (l.map D.int) → IntsAre vs l
  | [], vs, q => by cases q; exact .nil
  | i :: l, vs, q => by
    cases q with
    | cons a b => cases a; exact .cons _ _ (intsAre (vs := vs) b)
theorem Ev.eqL {l r : Expr} {pos : Pos} {a b : List Int} (hl : Ev prog w K n sc ρ l (.lst (a.map D.int))) (hr : Ev prog w K n sc ρ r (.lst (b.map D.int))) (hb : behindInMarks .Eq r = false := by rfl) :
    Ev prog w K n sc ρ (.Compare l [.Eq] [r] pos) (.bool (decide (a = b))) :=
  Ev.cmp hl hr (fun A s S va vb R X qa qb => by
    obtain ⟨_, vs, rfl, hS, ha, la⟩ := qa.lst_inv
    obtain ⟨_, us, rfl, hS', hb, lb⟩ := qb.lst_inv
    exact eq_intsK ha.isList (intsAre (vs := []) la) hb.isList (intsAre (vs := []) lb) (by have := R.un; omega) ⟨kr, .bool⟩) hb
theorem Ev.neL {l r : Expr} {pos : Pos} {a b : List Int} (hl : Ev prog w K n sc ρ l (.lst (a.map D.int))) (hr : Ev prog w K n sc ρ r (.lst (b.map D.int))) (hb : behindInMarks .NotEq r = false := by rfl) :
    Ev prog w K n sc ρ (.Compare l [.NotEq] [r] pos) (.bool (!decide (a = b))) :=
  Ev.cmp hl hr (fun A s S va vb R X qa qb => by
    obtain ⟨_, vs, rfl, hS, ha, la⟩ := qa.lst_inv
    obtain ⟨_, us, rfl, hS', hb, lb⟩ := qb.lst_inv
    exact ne_intsK ha.isList (intsAre (vs := []) la) hb.isList (intsAre (vs := []) lb) (by have := R.un; omega) ⟨kr, .bool⟩) hb
end
end Mine

end
section
open PySem PySem.W PySem.Calls PyProof.Rows PySem.SeqAt
set_option Elab.async false
set_option maxRecDepth 100000
set_option maxHeartbeats 1000000
namespace Mine
section
variable {prog : Program} {w : World} {K : Frag} {n : Nat} {sc : Scope} {ρ : Rho}

theorem eqAt_flt {A : Around} {s : Shared} {x : UInt64} {t u : Tok} (hk : K.In s.heap) (hs : nsIn K cStatics sharingNotToldKey = some Option.none) (ht : t ≠ 0) (hu : u ≠ 0)
    (hc : (Float64.cmp x x == some .eq) = true) : EqAt A s (.float x t) (.float x u) true := by
  intro prog w E Q hq
  unfold eqBool
  refine wpAny_holding ?_
  by_cases he : (Value.float x t == Value.float x u) = true
  · rw [if_pos he]
    exact wpAny_bind (wpAny_rule (wpAny_pure hq))
  · rw [if_neg he]
    have fin : wpAny (model prog w) A (do truthOfDropped (← richCompare .Eq (.float x t) (.float x u))) Q E s := by
      refine wpAny_bind (m := richCompare .Eq (.float x t) (.float x u)) ?_
      have := AutoFloatOps.eq_0 (prog := prog) (w := w) (A := A) (E := E) (s := s) (a := x) (b := x) (t := t) (u := u) (Q := fun v s' => wpAny (model prog w) A (truthOfDropped v) Q E s')
      refine this ?_
      rw [hc]
      exact wpAny_truthy_bool hq
    show wpAny (model prog w) A (isSame (.float x t) (.float x u) >>= fun b => if b = true then pure true else (do truthOfDropped (← richCompare .Eq (.float x t) (.float x u)))) Q E s
    have fin2 : ∀ b : Bool, wpAny (model prog w) A (if b = true then pure true else (do truthOfDropped (← richCompare .Eq (.float x t) (.float x u)))) Q E s := by
      intro b
      cases b with
      | true => exact wpAny_pure hq
      | false => exact fin
    refine wpAny_bind ?_
    show wpAny (model prog w) A (isSame.created (x == x && !Float64.isNaN x) t u) _ E s
    unfold isSame.created
    have h0 : (t == 0 || u == 0) = false := by simp [ht, hu]
    rw [if_neg (by rw [h0]; decide)]
    have look := looks_nsIn (M := model prog w) hk hs
    have look2 : ∀ (q : Tok) (R : Bool → Shared → Prop), R false s → wpAny (model prog w) A (sharingNotTold q) R E s := by
      intro q R hR
      unfold sharingNotTold
      exact wpAny_bind (look.here (wpAny_pure hR))
    refine wpAny_ite ?_
    split
    · exact wpAny_pure (fin2 true)
    · refine wpAny_ite ?_
      split
      · exact wpAny_pure (fin2 false)
      · refine wpAny_bind (look2 t _ ?_)
        rw [if_neg (by decide)]
        refine wpAny_bind (look2 u _ ?_)
        rw [if_neg (by decide)]
        refine wpAny_bind (wpAny_rule (wpAny_bind (wpAny_askSetting ?_)))
        exact wpAny_pure (fin2 _)

theorem Ev.eqT3 {l r : Expr} {pos : Pos} {x y z : UInt64} (hl : Ev prog w K n sc ρ l (.tup [.flt x, .flt y, .flt z])) (hr : Ev prog w K n sc ρ r (.tup [.flt x, .flt y, .flt z]))
    (hs : nsIn K cStatics sharingNotToldKey = some Option.none) (hx : (Float64.cmp x x == some .eq) = true) (hy : (Float64.cmp y y == some .eq) = true) (hz : (Float64.cmp z z == some .eq) = true) (hb : behindInMarks .Eq r = false := by rfl) :
    Ev prog w K n sc ρ (.Compare l [.Eq] [r] pos) (.bool true) :=
  Ev.cmp hl hr (fun A s S va vb R X qa qb => by
    obtain ⟨_, vs, rfl, hS, ha, la⟩ := qa.tup_inv
    obtain ⟨_, us, rfl, hS', hb, lb⟩ := qb.tup_inv
    refine eq_tupleAt (e := fun _ => true) ha hb (by have := R.un; omega) (fun j h1 h2 => ?_) ?_
    · obtain ⟨d, e1, p1⟩ := la.get (List.getElem?_eq_getElem (show j < vs.length from h1))
      obtain ⟨d', e2, p2⟩ := lb.get (List.getElem?_eq_getElem (show j < us.length from h2))
      have e3 : (([x, y, z] : List UInt64).map D.flt)[j]? = some d := e1
      rw [List.getElem?_map] at e3
      obtain ⟨u, e4, rfl⟩ := Option.map_eq_some_iff.mp e3
      obtain ⟨t1, f1, n1⟩ := p1.flt_inv
      have p2' : Den S s.heap us[j] (.flt u) := (Option.some.inj (e1.symm.trans e2)) ▸ p2
      obtain ⟨t2, f2, n2⟩ := p2'.flt_inv
      have hu : (Float64.cmp u u == some .eq) = true := by
        have hm := List.mem_of_getElem? e4
        simp only [List.mem_cons, List.not_mem_nil, or_false] at hm
        rcases hm with rfl | rfl | rfl
        · exact hx
        · exact hy
        · exact hz
      have g1 : vs.toArray[j] = .float u t1 := f1
      have g2 : us.toArray[j] = .float u t2 := f2
      rw [g1, g2]
      exact eqAt_flt X.k hs n1 n2 hu
    · have l1 : vs.toArray.size = 3 := la.length
      have l2 : us.toArray.size = 3 := lb.length
      rw [l1, l2]
      exact ⟨kr, .bool⟩) hb
end
end Mine

end
section
open PySem PySem.W PySem.Calls PyProof.Rows PySem.SeqAt
set_option Elab.async false
set_option maxRecDepth 100000
set_option maxHeartbeats 1000000
namespace Mine
section
variable {prog : Program} {w : World} {K : Frag} {n : Nat} {sc csc : Scope} {ρ : Rho}

/-! comprehensions: the names -/
def relab (csc sc : Scope) : Scope :=
  { csc with names := csc.names.map fun (x, k) => if (k == .free && sc.kind == .function && sc.names.lookup x == some .cell) then (x, .cell) else (x, k) }
theorem relabel_eq {env : Env} (B : EnvB sc env) : relabel csc env = relab csc sc := by
  unfold relabel relab Env.kindOf
  rw [B.hsc]
def capt (csc : Scope) (ρ : Rho) : Rho := csc.names.filterMap fun (x, k) => if k == .free then (ρ.lookup x).map (x, ·) else none
def capOk (csc sc : Scope) (ρ : Rho) : Bool := csc.names.all fun (x, k) => csc.names.lookup x == some k && x != ("__classdict__" : Str) &&
  (k != .free || ((ρ.lookup x).isSome && (sc.names.lookup x == some .cell || sc.names.lookup x == some .free)))

theorem lookup_capt : ∀ (names : List (Str × NameKind)) {x : Str} {d : D},
    (names.filterMap fun (x, k) => if k == NameKind.free then (ρ.lookup x).map (x, ·) else none).lookup x = some d → (x, NameKind.free) ∈ names ∧ ρ.lookup x = some d
  | [], _, _, h => by simp at h
  | (y, k) :: r, x, d, h => by
    have ih := @lookup_capt r x d
    by_cases hk : (k == NameKind.free) = true
    · cases hy : ρ.lookup y with
      | none =>
        rw [List.filterMap_cons_none (by simp [hk, hy])] at h
        have := ih h
        exact ⟨.tail _ this.1, this.2⟩
      | some e =>
        rw [List.filterMap_cons_some (b := (y, e)) (by simp [hk, hy]), List.lookup_cons] at h
        cases hx : x == y with
        | true =>
          rw [hx] at h; simp at h; subst h
          have e1 := beq_iff_eq.mp hx; subst e1
          have e2 : k = .free := by simpa using hk
          subst e2
          exact ⟨.head _, hy⟩
        | false => rw [hx] at h; have := ih h; exact ⟨.tail _ this.1, this.2⟩
    · rw [List.filterMap_cons_none (by simp [hk])] at h
      have := ih h
      exact ⟨.tail _ this.1, this.2⟩

theorem lookup_relab : ∀ (names : List (Str × NameKind)) (x : Str),
    (names.map fun (x, k) => if (k == .free && sc.kind == .function && sc.names.lookup x == some .cell) then (x, NameKind.cell) else (x, k)).lookup x =
      (names.lookup x).map fun k => if (k == .free && sc.kind == .function && sc.names.lookup x == some .cell) then NameKind.cell else k
  | [], _ => rfl
  | (y, k) :: r, x => by
    rw [List.map_cons]
    by_cases hc : (k == .free && sc.kind == .function && sc.names.lookup y == some NameKind.cell) = true
    · simp only [hc, if_true, List.lookup_cons]
      cases hx : x == y with
      | true => have := beq_iff_eq.mp hx; subst this; simp only [Option.map_some, hc, if_true]
      | false => exact lookup_relab r x
    · simp only [hc, Bool.false_eq_true, if_false, List.lookup_cons]
      cases hx : x == y with
      | true => have := beq_iff_eq.mp hx; subst this; simp only [Option.map_some, hc, Bool.false_eq_true, if_false]
      | false => exact lookup_relab r x

theorem closure_of {env : Env} (hall : ∀ x, (x, NameKind.free) ∈ csc.names → ∃ c, env.cells.lookup x = some c) :
    ∃ cl, closureFor csc env = pure cl ∧ ∀ x, (x, NameKind.free) ∈ csc.names → ∃ c, env.cells.lookup x = some c ∧ cl.lookup x = some c := by
  unfold closureFor
  suffices h : ∀ (names : List (Str × NameKind)) (acc : List (Str × Addr)), (∀ x, (x, NameKind.free) ∈ names → ∃ c, env.cells.lookup x = some c) → (∀ p ∈ acc, env.cells.lookup p.1 = some p.2) →
      ∃ cl, (forIn names acc fun x r => if (x.2 == NameKind.free) = true then (do let c ← cellOf env x.1; pure (ForInStep.yield ((x.1, c) :: r))) else pure (ForInStep.yield r)) = (pure cl : Sem _) ∧
        (∀ p ∈ cl, env.cells.lookup p.1 = some p.2) ∧ (∀ p ∈ acc, p ∈ cl) ∧ ∀ x, (x, NameKind.free) ∈ names → ∃ c, (x, c) ∈ cl by
    obtain ⟨cl, h1, h2, _, h3⟩ := h csc.names [] hall (by simp)
    refine ⟨cl, ?_, fun x hx => ?_⟩
    · have : ((forIn csc.names ([] : List (Str × Addr)) fun x r => if (x.2 == NameKind.free) = true then (do let c ← cellOf env x.1; pure (ForInStep.yield ((x.1, c) :: r))) else pure (ForInStep.yield r)) >>= fun r => (pure r : Sem _)) = pure cl := by
        rw [h1]; rfl
      exact this
    · obtain ⟨c, hc⟩ := h3 x hx
      cases hl : cl.lookup x with
      | none =>
        rw [List.lookup_eq_none_iff] at hl
        exact absurd (hl (x, c) hc) (by simp)
      | some c' =>
        exact ⟨c', h2 _ (mem_of_lookup hl), rfl⟩
  intro names
  induction names with
  | nil => intro acc _ ha; exact ⟨acc, by rw [List.forIn_nil], ha, fun _ h => h, fun _ h => by cases h⟩
  | cons p r ih =>
    intro acc hn ha
    obtain ⟨y, k⟩ := p
    rw [List.forIn_cons]
    by_cases hk : (k == NameKind.free) = true
    · have e2 : k = .free := by simpa using hk
      subst e2
      obtain ⟨c, hc⟩ := hn y (.head _)
      obtain ⟨cl, h1, h2, h3, h4⟩ := ih ((y, c) :: acc) (fun x hx => hn x (.tail _ hx)) (fun p hp => by
        rcases List.mem_cons.mp hp with rfl | hp
        · exact hc
        · exact ha p hp)
      refine ⟨cl, ?_, h2, fun p hp => h3 p (.tail _ hp), fun x hx => ?_⟩
      · simp only [hk, if_true, cellOf, hc]
        exact h1
      · rcases List.mem_cons.mp hx with e | hx
        · cases e; exact ⟨c, h3 _ (.head _)⟩
        · exact h4 x hx
    · obtain ⟨cl, h1, h2, h3, h4⟩ := ih acc (fun x hx => hn x (.tail _ hx)) ha
      refine ⟨cl, ?_, h2, h3, fun x hx => ?_⟩
      · simp only [hk, if_false, Bool.false_eq_true]
        exact h1
      · rcases List.mem_cons.mp hx with e | hx
        · cases e; simp at hk
        · exact h4 x hx

/-! the frame of a comprehension -/
theorem cellsFrom_none {x : Str} : ∀ (names : List (Str × NameKind)) (k : Nat) (acc : List (Str × Addr)), (x, NameKind.cell) ∉ names → (cellsFrom k names acc).lookup x = acc.lookup x
  | [], _, _, _ => rfl
  | (y, kd) :: r, k, acc, h => by
    unfold cellsFrom
    by_cases hk : (kd == NameKind.cell) = true
    · rw [if_pos hk, cellsFrom_none r _ _ fun q => h (.tail _ q), List.lookup_cons]
      have e : kd = .cell := by simpa using hk
      subst e
      cases hx : x == y with
      | true => have := beq_iff_eq.mp hx; subst this; exact absurd (.head _) h
      | false => rfl
    · rw [if_neg hk]; exact cellsFrom_none r _ _ fun q => h (.tail _ q)
theorem cellsFrom_some' {x : Str} : ∀ (names : List (Str × NameKind)) (h : Heap) (acc : List (Str × Addr)) (lo : Nat), lo ≤ h.objs.size → ((x, NameKind.cell) ∈ names ∨ ∃ c, acc.lookup x = some c ∧ lo ≤ c ∧ h.IsCell c none) →
    ∃ c, (cellsFrom h.objs.size names acc).lookup x = some c ∧ lo ≤ c ∧ (pushCells h names).IsCell c none
  | [], h, acc, lo, hlo, hh => by
    rcases hh with q | q
    · cases q
    · exact q
  | (y, kd) :: r, h, acc, lo, hlo, hh => by
    unfold cellsFrom pushCells
    by_cases hk : (kd == NameKind.cell) = true
    · rw [if_pos hk, if_pos hk]
      have e : kd = .cell := by simpa using hk
      subst e
      have := cellsFrom_some' (x := x) r (h.push { cls := .type "cell", data := .cell none }) ((y, h.objs.size) :: acc) lo (by rw [Heap.size_push]; omega) ?_
      · rwa [Heap.size_push] at this
      · by_cases hx : (x == y) = true
        · exact .inr ⟨h.objs.size, by rw [List.lookup_cons, hx], hlo, ⟨_, Heap.get?_push_size _ rfl, rfl⟩⟩
        · rcases hh with q | ⟨c, q1, q2, q3⟩
          · rcases List.mem_cons.mp q with e | q
            · cases e; simp at hx
            · exact .inl q
          · exact .inr ⟨c, by rw [List.lookup_cons]; simp only [hx]; exact q1, q2, q3.keeps fun b o e => Heap.get?_push_of_some _ e⟩
    · rw [if_neg hk, if_neg hk]
      refine cellsFrom_some' r h acc lo hlo ?_
      rcases hh with q | q
      · rcases List.mem_cons.mp q with e | q
        · cases e; simp at hk
        · exact .inl q
      · exact .inr q

theorem wpAny_newCompEnv {M : Model} {A : Around} {E : Value → Shared → Prop} {s : Shared} {scope : Scope} {globals : Addr} {cl : List (Str × Addr)} {qual : Str} {env : Env} {Q : Env → Shared → Prop}
    (h : Q { scope, locals := s.heap.objs.size, globals, cells := cellsFrom (s.heap.objs.size + 1) scope.names cl, qual, func := none, code := env.code, frame := env.frame, builtins := env.builtins }
      { s with heap := pushCells (s.heap.push { cls := .type "dict", data := .dict #[] }) scope.names }) :
    wpAny M A (newFunctionEnv scope globals cl [] qual none .none (some env)) Q E s := by
  simp only [newFunctionEnv, Option.isSome_some, if_true]
  refine wpAny_bind (wpAny_alloc ?_)
  refine wpAny_bind (wpAny_layCells _ (fun name kind cells => by cases hkc : kind == NameKind.cell <;> simp [hkc]) _ _ _ _ ?_)
  rw [show ({ s with heap := s.heap.push { cls := .type "dict", data := .dict #[] } } : Shared).heap.objs.size = s.heap.objs.size + 1 from Heap.size_push ..]
  rw [List.forIn_nil]
  exact wpAny_bind (wpAny_pure (wpAny_pure h))
end
end Mine

end
section
open PySem PySem.W PySem.Calls PyProof.Rows PySem.SeqAt
set_option Elab.async false
set_option maxRecDepth 100000
set_option maxHeartbeats 1000000
namespace Mine
section
variable {prog : Program} {w : World} {K : Frag} {n : Nat} {sc csc : Scope} {ρ : Rho}

def Tests (prog : Program) (w : World) (K : Frag) (n : Nat) (sc : Scope) (ρ : Rho) (ifs : List Expr) (b : Bool) : Prop :=
  ∀ A s env S, EnvB sc env → Room n A → Base K S s → EnvOk S s.heap env ρ →
    wpAny (model prog w) A (forIn ifs true fun c r => if r = true then do let ok ← isTrue c env (eval c env); pure (ForInStep.yield ok) else pure (ForInStep.yield r)) (fun r s' => Keeps s s' ∧ r = b) No s
theorem Tests.nil : Tests prog w K n sc ρ [] true := fun _ _ _ _ _ _ _ _ => wpAny_tests_nil ⟨kr, rfl⟩
theorem Tests.one {c : Expr} {b : Bool} (h : Tst prog w K n sc ρ c b) : Tests prog w K n sc ρ [c] b := fun A s env S B R X ok => wpAny_tests_one (h A s env S B R X ok)

/-- where a comprehension's variable is stored -/
inductive Tgt (cenv : Env) (x : Str) (tgt : Addr) (h : Heap) : Prop
  | loc : cenv.kindOf x = some .local → tgt = cenv.locals → (∃ m, h.Ns cenv.locals m) → Tgt cenv x tgt h
  | cell : cenv.kindOf x = some .cell → cenv.cells.lookup x = some tgt → tgt ≠ cenv.locals → (x == ("__classdict__" : Str)) = false → (∃ v, h.IsCell tgt v) → (∃ m, h.Ns cenv.locals m) → Tgt cenv x tgt h
theorem Tgt.ns {cenv : Env} {x : Str} {tgt : Addr} {h : Heap} (t : Tgt cenv x tgt h) : ∃ m, h.Ns cenv.locals m := by cases t <;> assumption
theorem Tgt.at {cenv : Env} {x : Str} {tgt : Addr} {h h' : Heap} (t : Tgt cenv x tgt h) (k1 : ∀ o, h.get? cenv.locals = some o → h'.get? cenv.locals = some o) (k2 : ∀ o, h.get? tgt = some o → h'.get? tgt = some o) : Tgt cenv x tgt h' := by
  cases t with
  | loc a b c => exact .loc a b (let ⟨m, q⟩ := c; ⟨m, q.at' k1⟩)
  | cell a b c d e f => exact .cell a b c d (let ⟨v, o, q, r⟩ := e; ⟨v, o, k2 o q, r⟩) (let ⟨m, q⟩ := f; ⟨m, q.at' k1⟩)
theorem Tgt.noSeq {cenv : Env} {x : Str} {tgt : Addr} {h h' : Heap} (t : Tgt cenv x tgt h) (sb : Heap.SameBut tgt h h') : KeepSeq h h' := by
  intro b o e hs
  by_cases hb : b = tgt
  · subst hb
    cases t with
    | loc a q c =>
      subst q
      obtain ⟨m, o', es, ep, ho, hd, _⟩ := c
      rw [ho] at e; cases e
      rcases hs with ⟨xs, n, hs⟩ | ⟨_, xs, hs⟩ <;> · rw [hd] at hs; cases hs
    | cell a q c d e' f =>
      obtain ⟨v, o', ho, hd⟩ := e'
      rw [ho] at e; cases e
      rcases hs with ⟨xs, n, hs⟩ | ⟨_, xs, hs⟩ <;> · rw [hd] at hs; cases hs
  · rw [sb.2 b hb]; exact e

theorem Tgt.store {M : Model} {A : Around} {E : Value → Shared → Prop} {s : Shared} {cenv : Env} {x : Str} {tgt : Addr} {px : Pos} {v : Value} {Q : Unit → Shared → Prop} (B : EnvB sc cenv) (t : Tgt cenv x tgt s.heap)
    (h : ∀ h' tk, Heap.SameBut tgt s.heap h' → Tgt cenv x tgt h' → Look h' cenv x v → s.toks ≤ tk → Q () { s with heap := h', toks := tk }) : wpAny M A (assign (.Name x px) cenv v) Q E s := by
  have hk : cenv.scope.kind = .function := by rw [B.hsc]; exact B.k
  refine wpAny_assign_Name ?_
  cases t with
  | loc a q c =>
    obtain ⟨m, c⟩ := c
    refine wpAny_storeName_local a c (fun h' hn hs => ?_) (by rw [hk]; rfl)
    subst q
    exact h h' _ hs (.loc a rfl ⟨_, hn⟩) (.inl ⟨a, _, hn, by simp⟩) (Nat.le_succ _)
  | cell a q c d e f =>
    obtain ⟨v0, e⟩ := e
    obtain ⟨m, f⟩ := f
    refine wpAny_storeName_cell hk a q e fun h' hv hs => ?_
    exact h h' _ hs (.cell a q c d ⟨_, hv⟩ ⟨m, f.sameBut hs (Ne.symm c)⟩) (.inr ⟨.inl a, d, tgt, q, hv⟩) (Nat.le_refl _)

theorem DenL.ofSnoc {S : Addr → Prop} {h : Heap} {vs : List Value} {v : Value} {ds : List D} {p : D → Bool} {f : D → D} {i : Nat} {d : D} (hd : ds[i]? = some d) (q : DenL S h vs (((ds.take i).filter p).map f)) :
    (p d = false → DenL S h vs (((ds.take (i + 1)).filter p).map f)) ∧ (p d = true → Den S h v (f d) → DenL S h (vs ++ [v]) (((ds.take (i + 1)).filter p).map f)) := by
  have hi := (List.getElem?_eq_some_iff.mp hd).1
  have e : ds.take (i + 1) = ds.take i ++ [d] := by
    rw [List.take_succ_eq_append_getElem hi]
    have := (List.getElem?_eq_some_iff.mp hd).2
    rw [this]
  rw [e]
  constructor
  · intro hp; simpa [List.filter_append, hp] using q
  · intro hp hv
    rw [List.filter_append, List.map_append]
    simpa [hp] using q.snoc hv

structure CompInv (S' : Addr → Prop) (s₀ : Shared) (cenv : Env) (x : Str) (tgt Da : Addr) (ds : List D) (p : D → Bool) (f : D → D) (St : Nat → Heap → Prop) (s' : Shared) (i : Nat) (ys : List Value) : Prop where
  le : i ≤ ds.length
  kp : Kp s₀ s'
  st : St i s'.heap
  pl : s'.heap.PlainList Da ys.toArray
  den : DenL S' s'.heap ys (((ds.take i).filter p).map f)
  tg : Tgt cenv x tgt s'.heap
theorem turn_lt {n i k : Nat} (h : i < n) (e : k = n + 1 - i) : n + 1 - (i + 1) < k := e ▸ Nat.sub_lt_sub_left (Nat.lt_succ_of_lt h) (Nat.lt_succ_self i)
theorem Kp.upd {s s' : Shared} {h : Heap} {t : Tok} (k : Kp s s') (e : Ext s.heap h) (ht : s'.toks ≤ t) : Kp s { s' with heap := h, toks := t } := by
  obtain ⟨⟨h', tk', rfl, _⟩, htk⟩ := k
  exact ⟨⟨h, t, rfl, e⟩, Nat.le_trans htk ht⟩
theorem comp_loop {S : Addr → Prop} {A : Around} {s₀ s : Shared} {cenv : Env} {elt iter : Expr} {x : Str} {px pos : Pos} {ifs : List Expr} {sco : Scope} {I Da tgt : Addr} {fp wr : List Addr} {ds : List D} {P : Nat → Value → Prop} {St : Nat → Heap → Prop}
    {p : D → Bool} {f : D → D} {ρc : Rho} {R : Result → Shared → Prop}
    (W : Walks prog w A I fp wr ds.length P St) (B : EnvB sc cenv) (Rm : Room n A) (X : Base K S s₀) (hP : ∀ i v, P i v → ∃ d, ds[i]? = some d ∧ Den S s₀.heap v d) (hnd : ∀ i h, St i h → ∀ b ∈ wr, ∀ o, h.get? b = some o → ¬ isDo o)
    (hwr : ∀ b ∈ wr, s₀.heap.get? b = none) (hD0 : s₀.heap.get? Da = none) (ht0 : s₀.heap.get? tgt = none)
    (hDf : Da ∉ fp) (htf : tgt ∉ fp) (hCf : cenv.locals ∉ fp) (hDt : Da ≠ tgt) (hDC : Da ≠ cenv.locals)
    (hcap : ∀ y d, y ≠ x → ρc.lookup y = some d → ∃ v, (∀ h, Ext s₀.heap h → Look h cenv y v) ∧ Den S s₀.heap v d)
    (htests : ∀ d, d ∈ ds → Tests prog w K n sc ((x, d) :: ρc) ifs (p d)) (helt : ∀ d, d ∈ ds → p d = true → Ev prog w K n sc ((x, d) :: ρc) elt (f d))
    (hsz : ds.length ≤ sizeLine) (hk0 : Kp s₀ s) (hst : St 0 s.heap) (hl : s.heap.PlainList Da #[]) (hT : Tgt cenv x tgt s.heap)
    (hR : ∀ s' ys, Kp s₀ s' → s'.heap.PlainList Da ys.toArray → DenL S s'.heap ys ((ds.filter p).map f) → (∃ m, s'.heap.Ns cenv.locals m) → R (.ok .next) s') :
    codeAny (model prog w) A (.compLoop (.ListComp elt [⟨.Name x px, iter, ifs, 0⟩] sco pos) 0 (.ref I) (.ref Da) cenv) R s := by
  let S' : Addr → Prop := fun a => S a ∨ a = Da
  have up : ∀ {v : Value} {d : D}, Den S s₀.heap v d → Den S' s₀.heap v d := fun q => q.more fun a o h e => by
    rcases h with h | h
    · exact h
    · rw [h, hD0] at e; cases e
  refine codeAny_compLoop_tests
    (fun k s' => ∃ i ys, k = ds.length + 1 - i ∧ CompInv S' s₀ cenv x tgt Da ds p f St s' i ys) ?_ (ds.length + 1)
    ⟨0, [], rfl, ⟨Nat.zero_le _, hk0, hst, hl, by simpa using DenL.nil, hT⟩⟩
  intro k s' hI
  refine hide fun Q hQ => ?_
  obtain ⟨i, ys, ek, ⟨hi, hk, hst, hpl, hden, hT⟩⟩ := hI
  have hCw : cenv.locals ∉ wr := fun h => hCf (W.sub _ h)
  have hDw : Da ∉ wr := fun h => hDf (W.sub _ h)
  have htw : tgt ∉ wr := fun h => htf (W.sub _ h)
  have old : ∀ b o, s₀.heap.get? b = some o → b ∉ wr ∧ b ≠ tgt ∧ b ≠ Da := fun b o e =>
    ⟨fun q => (by rw [hwr b q] at e; cases e), fun q => (by rw [q, ht0] at e; cases e), fun q => (by rw [q, hD0] at e; cases e)⟩
  by_cases hlt : i < ds.length
  · have hnd' := hnd i s'.heap hst
    refine wpAny_with_toks (n := s'.toks) (Nat.le_refl _) (W.item i s' _ _ hlt hst fun v h₁ tk₁ hPv hst₁ hk₁ htk₁ => ?_)
    refine hQ _ _ ?_
    clear hQ Q
    obtain ⟨d, hd, qd⟩ := hP i v hPv
    have hmem : d ∈ ds := List.mem_of_getElem? hd
    have hT₁ : Tgt cenv x tgt h₁ := hT.at (fun o e => hk₁ _ o hCw e) (fun o e => hk₁ _ o htw e)
    have E₁ : Ext s₀.heap h₁ := fun b o e => hk₁ b o (old b o e).1 (kx hk b o e)
    have ks₁ : KeepSeq s'.heap h₁ := fun b o e hD => hk₁ b o (fun hb => hnd' b hb o e hD) e
    refine Tgt.store B hT₁ fun h₂ tk₂ sb₂ hT₂ lk₂ htk₂ => ?_
    have ks₂ : KeepSeq h₁ h₂ := hT₁.noSeq sb₂
    have E₂ : Ext s₀.heap h₂ := fun b o e => by rw [sb₂.2 b (old b o e).2.1]; exact E₁ b o e
    have K₂ : Kp s₀ { s' with heap := h₂, toks := tk₂ } := hk.upd E₂ (Nat.le_trans htk₁ htk₂)
    have hpl₂ : h₂.PlainList Da ys.toArray := (hpl.at fun o e => hk₁ _ o hDw e).at fun o e => by rw [sb₂.2 _ hDt]; exact e
    have hst₂ : St (i + 1) h₂ := W.frame _ _ _ hst₁ fun b hb o e => by rw [sb₂.2 b (fun q => htf (q ▸ hb))]; exact e
    have hden₂ : DenL S' h₂ ys (((ds.take i).filter p).map f) := (hden.keep ks₁).keep ks₂
    have ok₂ : EnvOk S' h₂ cenv ((x, d) :: ρc) := by
      intro y e hy
      rw [List.lookup_cons] at hy
      cases hb : y == x with
      | true =>
        rw [hb] at hy; cases hy
        have := beq_iff_eq.mp hb; subst this
        exact ⟨v, lk₂, (up qd).ext E₂⟩
      | false =>
        rw [hb] at hy
        obtain ⟨u, q1, q2⟩ := hcap y e (by simpa using hb) hy
        exact ⟨u, q1 h₂ E₂, (up q2).ext E₂⟩
    have X₂ : Base K S' { s' with heap := h₂, toks := tk₂ } := by
      have := X.mv K₂
      refine ⟨this.k, this.b, this.nl, this.g, this.t, fun a ha => ?_⟩
      rcases ha with ha | ha
      · exact this.so a ha
      · obtain ⟨q, e⟩ := hpl₂; subst ha; exact ⟨_, e⟩
    refine wpAny_mono (wpK (htests d hmem A { s' with heap := h₂, toks := tk₂ } cenv S' B Rm X₂ ok₂)) (fun ok s₃ h₃ => ?_) fun _ _ e => e.elim
    obtain ⟨k₃, rfl⟩ := h₃
    cases hpd : p d with
    | false =>
      simp only [Bool.false_eq_true, if_false]
      exact ⟨ds.length + 1 - (i + 1), turn_lt hlt ek, i + 1, ys, rfl, ⟨hlt, kt K₂ k₃, W.frame _ _ _ hst₂ fun b _ o e => kx k₃ b o e, hpl₂.at fun o e => kx k₃ _ o e, ((hden₂.ext (kx k₃)).ofSnoc (v := v) hd).1 hpd, hT₂.at (fun o e => kx k₃ _ o e) (fun o e => kx k₃ _ o e)⟩⟩
    | true =>
      simp only [if_true]
      refine (helt d hmem hpd A s₃ cenv S' B Rm (X₂.mv k₃) (ok₂.ext (kx k₃))).then fun y s₄ k₄ q₄ => ?_
      have k₂₄ := kt k₃ k₄
      have hys : ys.length = (((ds.take i).filter p).map f).length := hden.length
      have hys2 : (((ds.take i).filter p).map f).length ≤ ds.length := by
        rw [List.length_map]
        exact Nat.le_trans (List.length_filter_le _ _) (by rw [List.length_take]; omega)
      refine wpAny_with_toks (n := s₄.toks) (Nat.le_refl _) (wpAny_list_append_plain (hsz := by simp; omega) (hpl₂.at fun o e => kx k₂₄ _ o e) fun h₅ hl₅ hs₅ ht₅ => ?_)
      have E₅ : Ext s₀.heap h₅ := fun b o e => by rw [hs₅.2 b (old b o e).2.2]; exact kx (kt K₂ k₂₄) b o e
      refine ⟨ds.length + 1 - (i + 1), turn_lt hlt ek, i + 1, ys ++ [y], rfl, ⟨hlt, (kt K₂ k₂₄).upd E₅ (Nat.le_refl _), ?_, by simpa using hl₅, ?_, ?_⟩⟩
      · refine W.frame _ _ _ hst₂ fun b hb o e => ?_
        show h₅.get? b = some o
        rw [hs₅.2 b (fun q => hDf (q ▸ hb))]; exact kx k₂₄ b o e
      · have q5 : DenL S' s₄.heap (ys ++ [y]) (((ds.take (i + 1)).filter p).map f) := ((hden₂.ext (kx k₂₄)).ofSnoc hd).2 hpd q₄
        exact q5.but (a := Da) (Or.inr rfl) fun b o hb e => by rw [hs₅.2 b hb]; exact e
      · refine hT₂.at (fun o e => ?_) (fun o e => ?_)
        · show h₅.get? _ = some o
          rw [hs₅.2 _ (Ne.symm hDC)]; exact kx k₂₄ _ o e
        · show h₅.get? _ = some o
          rw [hs₅.2 _ (Ne.symm hDt)]; exact kx k₂₄ _ o e
  · have hin : i = ds.length := Nat.le_antisymm hi (Nat.not_lt.mp hlt)
    have hnd' := hnd _ s'.heap hst
    rw [hin] at hst hden
    refine wpAny_with_toks (n := s'.toks) (Nat.le_refl _) (W.done s' _ _ hst fun h₁ tk₁ hk₁ htk₁ => ?_)
    refine hQ _ _ ?_
    clear hQ Q
    have ks₁ : KeepSeq s'.heap h₁ := fun b o e hD => hk₁ b o (fun hb => hnd' b hb o e hD) e
    refine hR _ ys (hk.upd (fun b o e => hk₁ b o (old b o e).1 (kx hk b o e)) htk₁) (hpl.at fun o e => hk₁ _ o hDw e) ?_ ?_
    · have := (hden.keep ks₁).more (T := S) fun a o h _ => Or.inl h
      rwa [List.take_length] at this
    · exact (hT.at (fun o e => hk₁ _ o hCw e) (fun o e => hk₁ _ o htw e)).ns
end
end Mine

end
section
open PySem PySem.W PySem.Calls PyProof.Rows PySem.SeqAt
set_option Elab.async false
set_option maxRecDepth 100000
set_option maxHeartbeats 1000000
namespace Mine
section
variable {prog : Program} {w : World} {K : Frag} {n : Nat} {sc csc : Scope} {ρ : Rho}

theorem capOk_mem (hc : capOk csc sc ρ = true) {x : Str} {k : NameKind} (hx : (x, k) ∈ csc.names) :
    csc.names.lookup x = some k ∧ x ≠ ("__classdict__" : Str) ∧ (k = .free → (∃ d, ρ.lookup x = some d) ∧ (sc.names.lookup x = some .cell ∨ sc.names.lookup x = some .free)) := by
  have := List.all_eq_true.mp hc _ hx
  simp only [Bool.and_eq_true, beq_iff_eq, bne_iff_ne, Bool.or_eq_true, ne_eq] at this
  obtain ⟨⟨h1, h2⟩, h3⟩ := this
  refine ⟨h1, h2, fun e => ?_⟩
  rcases h3 with h3 | ⟨h3, h4⟩
  · exact absurd e h3
  · exact ⟨Option.isSome_iff_exists.mp h3, h4⟩

theorem comp_core {S : Addr → Prop} {A : Around} {s : Shared} {env : Env} {elt iter : Expr} {x : Str} {px pos cpos : Pos} {ifs : List Expr} {d : D} {ds : List D} {p : D → Bool} {f : D → D}
    {use : Option (Value → Sem Unit)} {Q : Value → Shared → Prop}
    (B : EnvB sc env) (Rm : Room n A) (X : Base K S s) (ok : EnvOk S s.heap env ρ) (hit : Ev prog w K n sc ρ iter d) (y : Yields d ds) (hsz : ds.length ≤ sizeLine)
    (hk : csc.kind = .function) (hc : capOk csc sc ρ = true) (hx : csc.names.lookup x = some .local ∨ csc.names.lookup x = some .cell)
    (htests : ∀ d, d ∈ ds → Tests prog w K n (relab csc sc) ((x, d) :: capt csc ρ) ifs (p d)) (helt : ∀ d, d ∈ ds → p d = true → Ev prog w K n (relab csc sc) ((x, d) :: capt csc ρ) elt (f d))
    (hs : ∀ v, foldedSetIterable iter env v = pure v)
    (hQ : ∀ s' Da C ys, Kp s s' → s.heap.get? Da = none → s.heap.get? C = none → s'.heap.PlainList Da ys.toArray → DenL S s'.heap ys ((ds.filter p).map f) → ¬ S Da → Da ≠ C → (∃ m, s'.heap.Ns C m) →
      compPost (model prog w) A No use Q (.ref Da) C (.ok .next) s') :
    wpAny (model prog w) A (comprehension (.ListComp elt [⟨.Name x px, iter, ifs, 0⟩] csc pos) csc env cpos (newList []) false (eval iter env) use) Q No s := by
  have hfree : ∀ z, (z, NameKind.free) ∈ csc.names → ∃ c, env.cells.lookup z = some c := by
    intro z hz
    obtain ⟨_, _, h3⟩ := capOk_mem hc hz
    obtain ⟨⟨dz, hd⟩, hk⟩ := h3 rfl
    obtain ⟨v, l, _⟩ := ok z dz hd
    rcases l with ⟨a, _⟩ | ⟨_, _, c, e, _⟩
    · have : sc.names.lookup z = some .local := by rw [← B.hsc]; exact a
      rw [this] at hk; rcases hk with h | h <;> cases h
    · exact ⟨c, e⟩
  obtain ⟨cl, hcl, hcl2⟩ := closure_of (csc := csc) hfree
  refine wpAny_comprehension_free rfl hs hcl hk (fun z hz hl => ?_) ?_
  · obtain ⟨h1, _⟩ := capOk_mem hc (k := z.2) (x := z.1) hz
    rw [h1, hl]
  refine (hit A s env S B Rm X ok).then fun xv s₁ k₁ q₁ => ?_
  refine iter_den Rm.hd q₁ y fun I fp wr P St s₂ W hst hfp hwr k₂ hP hnd _ => ?_
  refine wpAny_newObj_type ?_
  refine wpAny_newCompEnv ?_
  rw [relabel_eq B]
  -- the heap so far
  have hD : (s₂.heap.push { cls := .type "list", data := .seq ([] : List Value).toArray }).objs.size = s₂.heap.objs.size + 1 := Heap.size_push ..
  rw [show ({ s₂ with heap := s₂.heap.push { cls := .type "list", data := .seq ([] : List Value).toArray } } : Shared).heap.objs.size = s₂.heap.objs.size + 1 from hD]
  let H : Heap := (s₂.heap.push { cls := .type "list", data := .seq ([] : List Value).toArray }).push { cls := .type "dict", data := .dict #[] }
  have hHs : H.objs.size = s₂.heap.objs.size + 1 + 1 := by show (Heap.push _ _).objs.size = _; rw [Heap.size_push, hD]
  let cenv : Env := { scope := relab csc sc, locals := s₂.heap.objs.size + 1, globals := env.globals, cells := cellsFrom (s₂.heap.objs.size + 1 + 1) csc.names cl, qual := env.qual, func := none, code := env.code, frame := env.frame, builtins := env.builtins }
  show codeAny (model prog w) A (.compStart _ 0 (.ref I) (.ref s₂.heap.objs.size) cenv) (compPost (model prog w) A No use Q (.ref s₂.heap.objs.size) (s₂.heap.objs.size + 1)) { s₂ with heap := pushCells H csc.names }
  have E1 : Ext s₂.heap (pushCells H csc.names) := fun b o e => pushCells_keeps _ _ b o (Heap.get?_push_of_some _ (Heap.get?_push_of_some _ e))
  have k₁₂ := kt k₁ k₂
  have fresh : ∀ {h : Heap} (e : Ext h s₂.heap) a, s₂.heap.objs.size ≤ a → h.get? a = none := fun {h} e a ha => by
    cases q : h.get? a with
    | none => rfl
    | some o => exact absurd (Heap.lt_size (e a o q)) (Nat.not_lt.mpr ha)
  have hns : (pushCells H csc.names).Ns (s₂.heap.objs.size + 1) (fun _ => none) := by
    have := Heap.Ns.new (s₂.heap.push { cls := .type "list", data := .seq ([] : List Value).toArray }) (.type "dict")
    rw [hD] at this
    exact this.keeps (pushCells_keeps _ _)
  have hpl : (pushCells H csc.names).PlainList s₂.heap.objs.size #[] := ⟨0, pushCells_keeps _ _ _ _ (Heap.get?_push_of_some _ (Heap.get?_push_size _ rfl))⟩
  have Bc : EnvB (relab csc sc) cenv := ⟨rfl, hk, B.g, B.b⟩
  have notin : ∀ b ∈ fp, b < s₂.heap.objs.size := hfp
  have hkind : ∀ z, cenv.kindOf z = (csc.names.lookup z).map fun k => if (k == .free && sc.kind == .function && sc.names.lookup z == some .cell) then NameKind.cell else k := fun z => lookup_relab csc.names z
  have hcap : ∀ y' d', y' ≠ x → (capt csc ρ).lookup y' = some d' → ∃ v, (∀ h, Ext s₁.heap h → Look h cenv y' v) ∧ Den S s₁.heap v d' := by
    intro z dz hzx hz
    obtain ⟨hzm, hzr⟩ := lookup_capt csc.names hz
    obtain ⟨h1, h2, _⟩ := capOk_mem hc hzm
    obtain ⟨v, l, q⟩ := ok z dz hzr
    obtain ⟨c, hc1, hc2⟩ := hcl2 z hzm
    refine ⟨v, fun h e => .inr ⟨?_, by simpa using h2, c, ?_, ?_⟩, q.ext (kx k₁)⟩
    · rw [hkind z, h1]
      simp only [Option.map_some]
      split
      · exact .inl rfl
      · exact .inr rfl
    · show (cellsFrom (s₂.heap.objs.size + 1 + 1) csc.names cl).lookup z = some c
      rw [cellsFrom_none csc.names _ _ fun q => by have := (capOk_mem hc q).1; rw [h1] at this; cases this]
      exact hc2
    · rcases l with ⟨a, _⟩ | ⟨_, _, c', e', q'⟩
      · have ha : sc.names.lookup z = some .local := by rw [← B.hsc]; exact a
        have := ((capOk_mem hc hzm).2.2 rfl).2
        rw [ha] at this; rcases this with h | h <;> cases h
      · rw [hc1] at e'; cases e'
        exact q'.keeps fun b o q => e b o (kx k₁ b o q)
  have k₂' : Kp s₁ { s₂ with heap := pushCells H csc.names } := kt k₂ ⟨⟨_, _, rfl, E1⟩, Nat.le_refl _⟩
  have fin : ∀ (tgt : Addr), Tgt cenv x tgt (pushCells H csc.names) → s₂.heap.objs.size + 1 ≤ tgt →
      codeAny (model prog w) A (.compLoop (.ListComp elt [⟨.Name x px, iter, ifs, 0⟩] csc pos) 0 (.ref I) (.ref s₂.heap.objs.size) cenv) (compPost (model prog w) A No use Q (.ref s₂.heap.objs.size) (s₂.heap.objs.size + 1)) { s₂ with heap := pushCells H csc.names } := by
    intro tgt hT htl
    have f1 : s₂.heap.objs.size ∉ fp := fun q => Nat.lt_irrefl _ (notin _ q)
    have f2 : tgt ∉ fp := fun q => Nat.lt_irrefl _ (Nat.lt_of_lt_of_le (Nat.lt_succ_of_lt (notin _ q)) htl)
    have f3 : cenv.locals ∉ fp := fun q => Nat.lt_irrefl _ (Nat.lt_of_lt_of_le (notin _ q) (Nat.le_succ _))
    refine comp_loop (s₀ := s₁) (S := S) (tgt := tgt) (ρc := capt csc ρ) (p := p) (f := f) W Bc Rm (X.mv k₁) hP hnd hwr (fresh (kx k₂) _ (Nat.le_refl _)) (fresh (kx k₂) _ (Nat.le_of_succ_le htl))
      f1 f2 f3 (Nat.ne_of_lt htl) (Nat.ne_of_lt (Nat.lt_succ_self _)) hcap htests helt hsz
      k₂' (W.frame _ _ _ hst fun b _ o e => E1 b o e) hpl hT fun s' ys k' hp' hd' hn' => ?_
    exact hQ s' _ _ ys (kt k₁ k') (fresh (kx k₁₂) _ (Nat.le_refl _)) (fresh (kx k₁₂) _ (Nat.le_succ _)) hp' hd' (X.mv k₁₂).nw (Nat.ne_of_lt (Nat.lt_succ_self _)) hn'
  have ex : ∃ tgt, Tgt cenv x tgt (pushCells H csc.names) ∧ s₂.heap.objs.size + 1 ≤ tgt := by
    rcases hx with hx | hx
    · exact ⟨s₂.heap.objs.size + 1, .loc (by rw [hkind x, hx]; rfl) rfl ⟨_, hns⟩, Nat.le_refl _⟩
    · have hm := mem_of_lookup hx
      obtain ⟨c, h1, h2, h3⟩ := cellsFrom_some' csc.names H cl H.objs.size (Nat.le_refl _) (.inl hm)
      rw [hHs] at h1 h2
      refine ⟨c, .cell (by rw [hkind x, hx]; rfl) h1 ?_ (by simpa using (capOk_mem hc hm).2.1) ⟨_, h3⟩ ⟨_, hns⟩, by omega⟩
      exact Nat.ne_of_gt (Nat.lt_of_lt_of_le (Nat.lt_succ_self _) h2)
  obtain ⟨tgt, hT, htl⟩ := ex
  exact codeAny_compStart_list (fin tgt hT htl) (W.self 0 _ _ _ (W.frame _ _ _ hst fun b _ o e => E1 b o e) (fin tgt hT htl))

theorem Ev.comp {elt iter : Expr} {x : Str} {px pos : Pos} {ifs : List Expr} {d : D} {ds : List D} (p : D → Bool) (f : D → D)
    (hit : Ev prog w K n sc ρ iter d) (y : Yields d ds) (hsz : ds.length ≤ sizeLine)
    (hk : csc.kind = .function) (hc : capOk csc sc ρ = true) (hx : csc.names.lookup x = some .local ∨ csc.names.lookup x = some .cell)
    (htests : ∀ d, d ∈ ds → Tests prog w K n (relab csc sc) ((x, d) :: capt csc ρ) ifs (p d)) (helt : ∀ d, d ∈ ds → p d = true → Ev prog w K n (relab csc sc) ((x, d) :: capt csc ρ) elt (f d))
    (hs : ∀ env v, foldedSetIterable iter env v = pure v := by intro _ _; rfl) :
    Ev prog w K n sc ρ (.ListComp elt [⟨.Name x px, iter, ifs, 0⟩] csc pos) (.lst ((ds.filter p).map f)) := by
  intro A s env S B R X ok
  unfold Gets
  rw [eval_ListComp]
  refine comp_core B R X ok hit y hsz hk hc hx htests helt (hs env) fun s' Da C ys k' hD hC hp hd hS hDC hn => ?_
  obtain ⟨m, hn⟩ := hn
  refine ⟨m, hn, fun h' sb => ⟨?_, .lst (vs := ys) hS ?_ ?_⟩⟩
  · obtain ⟨⟨h, t, rfl, e⟩, _⟩ := k'
    exact ⟨h', t, rfl, fun b o q => by rw [sb.2 b (fun z => by rw [z, hC] at q; cases q)]; exact e b o q⟩
  · exact hp.at fun o e => by rw [sb.2 _ hDC]; exact e
  · refine hd.keep fun b o e hDo => ?_
    rw [sb.2 b fun z => ?_]
    · exact e
    · subst z
      obtain ⟨o', es, ep, ho, hdat, _⟩ := hn
      rw [ho] at e; cases e
      rcases hDo with ⟨xs, q, e⟩ | ⟨_, xs, e⟩ <;> · rw [hdat] at e; cases e
end
end Mine

end
section
open PySem PySem.W PySem.Calls PyProof.Rows PySem.SeqAt
set_option Elab.async false
set_option maxRecDepth 100000
set_option maxHeartbeats 1000000
namespace Mine
section
variable {prog : Program} {w : World} {K : Frag} {n : Nat} {sc csc : Scope} {ρ : Rho}

/-! a def's frame -/
structure FrOk (S : Addr → Prop) (h₀ h : Heap) (env : Env) (ρ : Rho) : Prop where
  ext : Ext h₀ h
  fresh : h₀.get? env.locals = none
  ns : ∃ m, h.Ns env.locals m
  cellk : ∀ x, env.kindOf x = some .cell → ∃ c, env.cells.lookup x = some c
  cell : ∀ x c, env.cells.lookup x = some c → ∃ v, h.IsCell c v
  cfresh : ∀ x c, env.cells.lookup x = some c → h₀.get? c = none ∧ c ≠ env.locals
  apart : ∀ x y c, env.cells.lookup x = some c → env.cells.lookup y = some c → x = y
  ok : EnvOk S h env ρ

theorem FrOk.mv {S : Addr → Prop} {h₀ h h' : Heap} {env : Env} (F : FrOk S h₀ h env ρ) (e : Ext h h') : FrOk S h₀ h' env ρ :=
  ⟨fun b o q => e b o (F.ext b o q), F.fresh, let ⟨m, q⟩ := F.ns; ⟨m, q.keeps e⟩, F.cellk, fun x c hx => let ⟨v, r⟩ := F.cell x c hx; ⟨v, r.keeps e⟩, F.cfresh, F.apart, F.ok.ext e⟩

theorem ns_noSeq {h h' : Heap} {a : Addr} {m : Str → Option Value} (hn : h.Ns a m) (sb : Heap.SameBut a h h') : KeepSeq h h' := by
  intro b o e hs
  by_cases hb : b = a
  · subst hb
    obtain ⟨o', es, ep, ho, hd, _⟩ := hn
    rw [ho] at e; cases e
    rcases hs with ⟨xs, n, hs⟩ | ⟨_, xs, hs⟩ <;> · rw [hd] at hs; cases hs
  · rw [sb.2 b hb]; exact e
theorem cell_noSeq {h h' : Heap} {a : Addr} {v : Option Value} (hn : h.IsCell a v) (sb : Heap.SameBut a h h') : KeepSeq h h' := by
  intro b o e hs
  by_cases hb : b = a
  · subst hb
    obtain ⟨o', ho, hd⟩ := hn
    rw [ho] at e; cases e
    rcases hs with ⟨xs, n, hs⟩ | ⟨_, xs, hs⟩ <;> · rw [hd] at hs; cases hs
  · rw [sb.2 b hb]; exact e

theorem ns_unique {h : Heap} {a : Addr} {m m' : Str → Option Value} (x : h.Ns a m) (y : h.Ns a m') : m = m' := by
  obtain ⟨o, es, ep, ho, hd, _, hm⟩ := x
  obtain ⟨o', es', ep', ho', hd', _, hm'⟩ := y
  rw [ho] at ho'; cases ho'
  rw [hd] at hd'; cases hd'
  funext z
  rw [← hm z, ← hm' z]

/-- the state behind a statement -/
def Sm (s s' : Shared) : Prop := (∃ h tk, s' = { s with heap := h, toks := tk }) ∧ s.toks ≤ s'.toks
theorem Sm.tr {s s' s'' : Shared} (a : Sm s s') (b : Sm s' s'') : Sm s s'' := by
  obtain ⟨⟨h, t, rfl⟩, x⟩ := a
  obtain ⟨⟨h', t', rfl⟩, y⟩ := b
  exact ⟨⟨h', t', rfl⟩, Nat.le_trans x y⟩
theorem Sm.of {s s' : Shared} (a : Kp s s') : Sm s s' := let ⟨⟨h, t, e, _⟩, m⟩ := a; ⟨⟨h, t, e⟩, m⟩
theorem Sm.refl {s : Shared} : Sm s s := ⟨⟨_, _, rfl⟩, Nat.le_refl _⟩

theorem lookup_cases {x y : Str} {d e : D} {ρ : Rho} (h : List.lookup y ((x, d) :: ρ) = some e) : (y = x ∧ e = d) ∨ (y ≠ x ∧ ρ.lookup y = some e) := by
  rw [List.lookup_cons] at h
  by_cases hb : y = x
  · rw [beq_iff_eq.mpr hb] at h
    exact .inl ⟨hb, (Option.some.inj h).symm⟩
  · rw [beq_false_of_ne hb] at h
    exact .inr ⟨hb, h⟩
theorem FrOk.store {S : Addr → Prop} {M : Model} {A : Around} {E : Value → Shared → Prop} {h₀ : Heap} {s : Shared} {env : Env} {x : Str} {v : Value} {d : D} {Q : Unit → Shared → Prop} (B : EnvB sc env) (F : FrOk S h₀ s.heap env ρ)
    (hk : sc.names.lookup x = some .local ∨ sc.names.lookup x = some .cell) (hcd : (x == ("__classdict__" : Str)) = false) (q : Den S s.heap v d)
    (h : ∀ s', FrOk S h₀ s'.heap env ((x, d) :: ρ) → Sm s s' → KeepSeq s.heap s'.heap → (∀ b o, h₀.get? b = none → b ≠ env.locals → (∀ y, env.cells.lookup y ≠ some b) → s.heap.get? b = some o → s'.heap.get? b = some o) → Q () s') : wpAny M A (storeName env x v) Q E s := by
  have hkf : env.scope.kind = .function := by rw [B.hsc]; exact B.k
  have hko : ∀ y, env.kindOf y = sc.names.lookup y := fun y => by show env.scope.names.lookup y = _; rw [B.hsc]
  obtain ⟨m, hn⟩ := F.ns
  rcases hk with hl | hc
  · refine wpAny_storeName_local ((hko x).trans hl) hn (fun h' hn' sb => ?_) (by rw [hkf]; rfl)
    have ks := ns_noSeq hn sb
    have nc : ∀ y c, env.cells.lookup y = some c → c ≠ env.locals := fun y c e => (F.cfresh y c e).2
    refine h _ ⟨fun b o e => ?_, F.fresh, ⟨_, hn'⟩, F.cellk, fun y c hy => ?_, F.cfresh, F.apart, fun y e hy => ?_⟩ ⟨⟨_, _, by rfl⟩, Nat.le_succ _⟩ ks fun b o _ hb _ e => by rw [sb.2 b hb]; exact e
    · rw [sb.2 b fun z => by rw [z, F.fresh] at e; cases e]; exact F.ext b o e
    · obtain ⟨u, i⟩ := F.cell y c hy
      exact ⟨u, i.sameBut sb (nc y c hy)⟩
    · rcases lookup_cases hy with ⟨rfl, rfl⟩ | ⟨hne, hy⟩
      · exact ⟨v, .inl ⟨(hko _).trans hl, _, hn', if_pos rfl⟩, q.keep ks⟩
      · obtain ⟨u, l, r⟩ := F.ok y e hy
        refine ⟨u, ?_, r.keep ks⟩
        rcases l with ⟨a, m2, b, c⟩ | ⟨a, a2, c, e1, e2⟩
        · refine .inl ⟨a, _, hn', ?_⟩
          rw [if_neg hne]
          rw [← ns_unique b hn]; exact c
        · exact .inr ⟨a, a2, c, e1, e2.sameBut sb (nc y c e1)⟩
  · obtain ⟨c, hl⟩ := F.cellk x ((hko x).trans hc)
    obtain ⟨v0, hi⟩ := F.cell x c hl
    refine wpAny_storeName_cell hkf ((hko x).trans hc) hl hi fun h' hv sb => ?_
    have ks := cell_noSeq hi sb
    have hcl := F.cfresh x c hl
    refine h _ ⟨fun b o e => ?_, F.fresh, ⟨m, hn.sameBut sb (Ne.symm hcl.2)⟩, F.cellk, fun y c' hy => ?_, F.cfresh, F.apart, fun y e hy => ?_⟩ ⟨⟨_, _, by rfl⟩, Nat.le_refl _⟩ ks fun b o _ _ hb e => by rw [sb.2 b fun z => hb x (z ▸ hl)]; exact e
    · rw [sb.2 b fun z => by rw [z, hcl.1] at e; cases e]; exact F.ext b o e
    · obtain ⟨u, i⟩ := F.cell y c' hy
      by_cases hcc : c' = c
      · subst hcc; exact ⟨_, hv⟩
      · exact ⟨u, i.sameBut sb hcc⟩
    · rcases lookup_cases hy with ⟨rfl, rfl⟩ | ⟨hne, hy⟩
      · exact ⟨v, .inr ⟨.inl ((hko _).trans hc), hcd, c, hl, hv⟩, q.keep ks⟩
      · obtain ⟨u, l, r⟩ := F.ok y e hy
        refine ⟨u, ?_, r.keep ks⟩
        rcases l with ⟨a, m2, b, c2⟩ | ⟨a, a2, c2, e1, e2⟩
        · exact .inl ⟨a, m2, b.sameBut sb (Ne.symm hcl.2), c2⟩
        · exact .inr ⟨a, a2, c2, e1, e2.sameBut sb fun z => hne (F.apart y x c2 e1 (z ▸ hl))⟩

theorem FrOk.but {S : Addr → Prop} {h₀ h h' : Heap} {env : Env} {C : Addr} {m : Str → Option Value} (F : FrOk S h₀ h env ρ) (h0 : h₀.get? C = none) (hL : C ≠ env.locals) (hc : ∀ z, env.cells.lookup z ≠ some C) (hn : h.Ns C m) (sb : Heap.SameBut C h h') : FrOk S h₀ h' env ρ := by
  have ks := ns_noSeq hn sb
  refine ⟨fun b o e => ?_, F.fresh, ?_, F.cellk, fun x c hx => ?_, F.cfresh, F.apart, fun x d hx => ?_⟩
  · rw [sb.2 b fun z => by rw [z, h0] at e; cases e]; exact F.ext b o e
  · obtain ⟨m', q⟩ := F.ns
    exact ⟨m', q.sameBut sb (Ne.symm hL)⟩
  · obtain ⟨v, q⟩ := F.cell x c hx
    exact ⟨v, q.sameBut sb fun z => hc x (z ▸ hx)⟩
  · obtain ⟨v, l, q⟩ := F.ok x d hx
    refine ⟨v, ?_, q.keep ks⟩
    rcases l with ⟨a, m2, b, c⟩ | ⟨a, a2, c, e1, e2⟩
    · exact .inl ⟨a, m2, b.sameBut sb (Ne.symm hL), c⟩
    · exact .inr ⟨a, a2, c, e1, e2.sameBut sb fun z => hc x (z ▸ e1)⟩

/-! statements -/
def Ex (prog : Program) (w : World) (K : Frag) (n : Nat) (sc : Scope) (ρ : Rho) (st : List Stmt) (d : D) : Prop :=
  ∀ A s₀ s env S, EnvB sc env → Room n A → Base K S s₀ → Sm s₀ s → FrOk S s₀.heap s.heap env ρ →
    wpAny (model prog w) A (execs st env) (fun fl s' => Kp s₀ s' ∧ ∃ v, fl = .ret v ∧ Den S s'.heap v d) No s

theorem Sm.kp {s s' : Shared} (a : Sm s s') (e : Ext s.heap s'.heap) : Kp s s' := by
  obtain ⟨⟨h, t, rfl⟩, m⟩ := a
  exact ⟨⟨h, t, rfl, e⟩, m⟩
theorem FrOk.base {S : Addr → Prop} {s₀ s : Shared} {env : Env} (F : FrOk S s₀.heap s.heap env ρ) (X : Base K S s₀) (m : Sm s₀ s) : Base K S s := X.of F.ext m.2

theorem Ex.ret {e : Expr} {pos : Pos} {rest : List Stmt} {d : D} (h : Ev prog w K n sc ρ e d) : Ex prog w K n sc ρ (.Return (some e) pos :: rest) d := by
  intro A s₀ s env S B R X m F
  refine wpAny_execs_cons (wpAny_Return_some ((h A s env S B R (F.base X m) F.ok).then fun v s1 k1 q1 => ?_))
  exact ⟨(m.tr (Sm.of k1)).kp (F.mv (kx k1)).ext, v, rfl, q1⟩

theorem Ex.assign {x : Str} {xp pos : Pos} {e : Expr} {rest : List Stmt} {d1 d : D} (he : Ev prog w K n sc ρ e d1) (hk : sc.names.lookup x = some .local ∨ sc.names.lookup x = some .cell) (hr : Ex prog w K n sc ((x, d1) :: ρ) rest d)
    (hcd : (x == ("__classdict__" : Str)) = false := by rfl) (hs : ∀ env, EnvB sc env → swapsWith e (some (.Name x xp)) pos.line env = pure false := by intro _ _; rfl) :
    Ex prog w K n sc ρ (.Assign [.Name x xp] e pos :: rest) d := by
  intro A s₀ s env S B R X m F
  refine wpAny_execs_cons (wpAny_Assign_Name ((he A s env S B R (F.base X m) F.ok).then fun v s1 k1 q1 => ?_) (hs env B))
  refine (F.mv (kx k1)).store B hk hcd q1 fun s2 F2 m2 _ _ => ?_
  exact hr A s₀ s2 env S B R X ((m.tr (Sm.of k1)).tr m2) F2

theorem execs_append {env : Env} (a b : List Stmt) : execs (a ++ b) env = (execs a env >>= fun f => match f with | .next => execs b env | f => pure f) := by
  induction a with
  | nil => rw [List.nil_append, execs_nil]; rfl
  | cons st r ih =>
    rw [List.cons_append, execs_cons, execs_cons, bind_assoc]
    congr 1
    funext f
    cases f with
    | next => exact ih
    | brk => rfl
    | cont => rfl
    | ret v => rfl

theorem execs_If {env : Env} (t : Expr) (body orelse rest : List Stmt) (pos : Pos) :
    execs (.If t body orelse pos :: rest) env = (standAt pos >>= fun _ => isTrue t env (eval t env) >>= fun b => if b = true then execs (body ++ rest) env else execs (orelse ++ rest) env) := by
  rw [execs_cons, exec_If]
  rw [bind_assoc]
  congr 1
  funext _
  rw [bind_assoc]
  congr 1
  funext b
  cases b with
  | true => simp only [if_true]; rw [execs_append]; rfl
  | false => simp only [if_false, Bool.false_eq_true]; rw [execs_append]; rfl

theorem Ex.ite {t : Expr} {body orelse rest : List Stmt} {pos : Pos} {b : Bool} {d : D} (ht : Tst prog w K n sc ρ t b) (h1 : b = true → Ex prog w K n sc ρ (body ++ rest) d) (h2 : b = false → Ex prog w K n sc ρ (orelse ++ rest) d) :
    Ex prog w K n sc ρ (.If t body orelse pos :: rest) d := by
  intro A s₀ s env S B R X m F
  rw [execs_If]
  refine wpAny_bind (wpAny_standAt (wpAny_bind (wpAny_mono (wpK (ht A s env S B R (F.base X m) F.ok)) (fun r s1 h => ?_) fun _ _ x => x)))
  obtain ⟨k1, rfl⟩ := h
  cases r with
  | true =>
    rw [if_pos rfl]
    exact h1 rfl A s₀ s1 env S B R X (m.tr (Sm.of k1)) (F.mv (kx k1))
  | false =>
    rw [if_neg (by decide)]
    exact h2 rfl A s₀ s1 env S B R X (m.tr (Sm.of k1)) (F.mv (kx k1))

/-! unpacking -/
theorem wp_draw {A : Around} {E : Value → Shared → Prop} {I : Addr} {fp wr : List Addr} {k : Nat} {P : Nat → Value → Prop} {St : Nat → Heap → Prop} (W : Walks prog w A I fp wr k P St) :
    ∀ (j i : Nat) (s : Shared) (Q : List Value → Shared → Prop), i + j ≤ k → St i s.heap →
      (∀ vs h' tk, vs.length = j → (∀ m v, vs[m]? = some v → P (i + m) v) → St (i + j) h' → (∀ b o, b ∉ wr → s.heap.get? b = some o → h'.get? b = some o) → Q vs { s with heap := h', toks := tk }) → wpAny (model prog w) A (draw (.ref I) j) Q E s
  | 0, i, s, Q, _, hst, hQ => wpAny_pure (hQ [] s.heap s.toks rfl (by simp) hst fun _ _ _ e => e)
  | j + 1, i, s, Q, hle, hst, hQ => by
    unfold draw
    refine wpAny_bind (W.item i s _ _ (by omega) hst fun v h₁ tk₁ hPv hst₁ hk₁ => ?_)
    refine wpAny_bind (wpAny_holding (wp_draw W j (i + 1) _ _ (by omega) hst₁ fun vs h₂ tk₂ hl hP hst₂ hk₂ => wpAny_pure ?_))
    refine hQ (v :: vs) h₂ tk₂ (by simp [hl]) (fun m u hm => ?_) (by have : i + (j + 1) = i + 1 + j := by omega
                                                                     rw [this]; exact hst₂) fun b o hb e => hk₂ b o hb (hk₁ b o hb e)
    cases m with
    | zero => simp at hm; subst hm; exact hPv
    | succ m => simp at hm; have := hP m u hm; rwa [show i + (m + 1) = i + 1 + m by omega]

inductive Seqish : D → Prop
  | lst {ds : List D} : Seqish (.lst ds)
  | tup {ds : List D} : Seqish (.tup ds)

theorem DenL.of {S : Addr → Prop} {h : Heap} : ∀ {vs : List Value} {ds : List D}, vs.length = ds.length → (∀ (m : Nat) (v : Value), vs[m]? = some v → ∃ d, ds[m]? = some d ∧ Den S h v d) → DenL S h vs ds
  | [], [], _, _ => .nil
  | [], _ :: _, e, _ => by simp at e
  | _ :: _, [], e, _ => by simp at e
  | v :: vs, d :: ds, e, q => by
    obtain ⟨d', h1, h2⟩ := q 0 v rfl
    simp at h1; subst h1
    exact .cons h2 (DenL.of (by simpa using e) fun m u hm => by simpa using q (m + 1) u (by simpa using hm))

theorem wp_unpack {S : Addr → Prop} {A : Around} {E : Value → Shared → Prop} {s : Shared} {v : Value} {d : D} {ds : List D} {Q : List Value → Shared → Prop} (hh : A.handled = Option.none) (q : Den S s.heap v d) (y : Yields d ds) (hd : Seqish d)
    (hQ : ∀ vs s', Kp s s' → DenL S s.heap vs ds → Q vs s') : wpAny (model prog w) A (unpackItems v ds.length none) Q E s := by
  unfold unpackItems
  refine wpAny_bind ?_
  have hni : ∀ {Q : Bool → Shared → Prop}, Q false s → wpAny (model prog w) A (notIterableAtAll v) Q E s := by
    intro Q hq
    unfold notIterableAtAll
    cases hd with
    | lst =>
      obtain ⟨_, _, rfl, _, hp, _⟩ := q.lst_inv
      exact wpAny_bind (wpAny_specialOf hp.isList.typeIs slot_list_iter.lookup (wpAny_pure hq))
    | tup =>
      obtain ⟨_, _, rfl, _, hp, _⟩ := q.tup_inv
      exact wpAny_bind (wpAny_specialOf hp.typeIs F.slot_tuple_iter.lookup (wpAny_pure hq))
  refine hni ?_
  rw [if_neg (by decide)]
  refine wpAny_bind (wpAny_holding (iter_den hh q y fun I fp wr P St s₂ W hst hfp hwr k hP _ _ => ?_))
  refine wpAny_bind (wpAny_holding ?_)
  refine wpAny_with_toks (n := s₂.toks) (Nat.le_refl _) (wp_draw W ds.length 0 s₂ _ (by omega) hst fun vs h' tk hl hPs hst' hk ht => ?_)
  rw [if_neg (by omega)]
  refine wpAny_bind (wpAny_holding (wpAny_with_toks (n := tk) (Nat.le_refl _) (W.done _ _ _ (by simpa using hst') fun h₂ tk₂ hk₂ ht₂ => ?_)))
  rw [if_neg (by decide)]
  refine wpAny_pure (hQ vs _ ⟨k.back hwr fun b o hb e => hk₂ b o hb (hk b o hb e), Nat.le_trans k.2 (Nat.le_trans ht ht₂)⟩ ?_)
  exact DenL.of hl fun m u hm => hP m u (by simpa using hPs m u hm)

/-- several names bound one behind the other -/
theorem Den_keepL {S : Addr → Prop} {h h' : Heap} (e : KeepSeq h h') {vs : List Value} {ds : List D} (q : DenL S h vs ds) : DenL S h' vs ds := q.keep e

def nameOk (sc : Scope) (x : Str) : Bool := (sc.names.lookup x == some .local || sc.names.lookup x == some .cell) && x != ("__classdict__" : Str)
theorem nameOk_of {x : Str} (h : nameOk sc x = true) : (sc.names.lookup x = some .local ∨ sc.names.lookup x = some .cell) ∧ (x == ("__classdict__" : Str)) = false := by
  unfold nameOk at h
  simp only [Bool.and_eq_true, Bool.or_eq_true, beq_iff_eq, bne_iff_ne, ne_eq] at h
  exact ⟨h.1, by simpa using h.2⟩

/-- stores of names, one behind the other -/
inductive StL (prog : Program) (w : World) (env : Env) : List Str → List (Value → Sem Unit) → Prop
  | nil : StL prog w env [] []
  | cons {x : Str} {f : Value → Sem Unit} {xs : List Str} {fs : List (Value → Sem Unit)} (h : ∀ A v (s : Shared) (Q : Unit → Shared → Prop), wpAny (model prog w) A (storeName env x v) Q No s → wpAny (model prog w) A (f v) Q No s) (r : StL prog w env xs fs) :
      StL prog w env (x :: xs) (f :: fs)
theorem StL.binds {env : Env} : ∀ (xs : List Str), StL prog w env xs (xs.map fun x => bindName env x)
  | [] => .nil
  | _ :: xs => .cons (fun _ _ _ _ h => wpAny_bindName h) (StL.binds xs)
theorem StL.name {env : Env} {x : Str} {p : Pos} {xs : List Str} {fs : List (Value → Sem Unit)} (r : StL prog w env xs fs) : StL prog w env (x :: xs) ((fun v => PySem.assign (.Name x p) env v) :: fs) :=
  .cons (fun _ _ _ _ h => wpAny_assign_Name h) r

theorem wp_binds {S : Addr → Prop} {A : Around} {s₀ : Shared} {env : Env} (B : EnvB sc env) :
    ∀ (xs : List Str) (fs : List (Value → Sem Unit)) (vs : List Value) (ds : List D) (s : Shared) (ρ : Rho) (Q : Unit → Shared → Prop), StL prog w env xs fs → xs.length = ds.length → (∀ x ∈ xs, nameOk sc x = true) → DenL S s.heap vs ds → Sm s₀ s → FrOk S s₀.heap s.heap env ρ →
      (∀ s', Sm s₀ s' → FrOk S s₀.heap s'.heap env ((xs.zip ds).reverse ++ ρ) → Q () s') → wpAny (model prog w) A (assignInOrder fs vs) Q No s
  | [], fs, vs, ds, s, ρ, Q, hst, hl, _, q, m, F, hQ => by
    cases hst
    cases ds with
    | nil => cases q; exact wpAny_pure (hQ s m (by simpa using F))
    | cons _ _ => simp at hl
  | x :: xs, fs, vs, ds, s, ρ, Q, hst, hl, hx, q, m, F, hQ => by
    cases hst with
    | cons hf hst =>
    cases ds with
    | nil => simp at hl
    | cons d ds =>
      cases q with
      | cons a b =>
        obtain ⟨hk, hcd⟩ := nameOk_of (hx x (.head _))
        refine wpAny_bind (wpAny_holding (hf A _ s _ (F.store B hk hcd a fun s1 F1 m1 ks _ => ?_)))
        refine wp_binds B xs _ _ ds s1 ((x, d) :: ρ) Q hst (by simpa using hl) (fun y hy => hx y (.tail _ hy)) (b.keep ks) (m.tr m1) F1 fun s' m' F' => hQ s' m' ?_
        simpa using F'

theorem Ex.unpack {xs : List Str} {ts : List Expr} {k : Nat} {tp pos : Pos} {e : Expr} {rest : List Stmt} {d1 d : D} {ds : List D} (he : Ev prog w K n sc ρ e d1) (y : Yields d1 ds) (hd : Seqish d1)
    (hl : xs.length = ds.length) (hx : (xs.all fun x => nameOk sc x) = true) (hr : Ex prog w K n sc ((xs.zip ds).reverse ++ ρ) rest d)
    (hts : ∀ env, StL prog w env xs ((assignEach ts env).map (·.2))) (hlen : ∀ env, (assignEach ts env).length = ds.length) (hstar : ∀ env, (assignEach ts env).findIdx? (·.1) = none)
    (hs : ∀ env, swapsWithSole [.Tuple ts k tp] e pos.line env = pure false := by intro _; rfl) (hw : ∀ env, EnvB sc env → swappedStores [.Tuple ts k tp] e env = pure none := by intro _ _; rfl) :
    Ex prog w K n sc ρ (.Assign [.Tuple ts k tp] e pos :: rest) d := by
  intro A s₀ s env S B R X m F
  refine wpAny_execs_cons (Assign_Tuple ((he A s env S B R (F.base X m) F.ok).then fun v s1 k1 q1 => ?_) (hs env) (hw env B))
  show wpAny _ A (do standAt tp; PySem.unpack v (assignEach ts env)) _ _ s1
  refine wpAny_bind (wpAny_standAt ?_)
  unfold PySem.unpack
  rw [hlen env, hstar env]
  refine wpAny_bind (wpAny_holding (wp_unpack R.hd q1 y hd fun vs s2 k2 q2 => ?_))
  have k12 := kt k1 k2
  refine wp_binds (S := S) (s₀ := s₀) B xs _ vs ds s2 ρ _ (hts env) hl (fun x h => List.all_eq_true.mp hx x h) (q2.ext (kx k2)) (m.tr (Sm.of k12)) (F.mv (kx k12)) fun s' m' F' => ?_
  exact hr A s₀ s' env S B R X m' F'

theorem Ex.swap {xs : List Str} {ts : List Expr} {k : Nat} {tp pos : Pos} {e : Expr} {rest : List Stmt} {d1 d : D} {ds : List D} (he : Ev prog w K n sc ρ e d1) (y : Yields d1 ds) (hd : Seqish d1)
    (hl : xs.length = ds.length) (hx : (xs.all fun x => nameOk sc x) = true) (hr : Ex prog w K n sc ((xs.reverse.zip ds.reverse).reverse ++ ρ) rest d)
    (hs : ∀ env, swapsWithSole [.Tuple ts k tp] e pos.line env = pure false := by intro _; rfl) (hw : ∀ env, EnvB sc env → swappedStores [.Tuple ts k tp] e env = pure (some xs)) :
    Ex prog w K n sc ρ (.Assign [.Tuple ts k tp] e pos :: rest) d := by
  intro A s₀ s env S B R X m F
  refine wpAny_execs_cons (Assign_Tuple_swapped (names := xs) ((he A s env S B R (F.base X m) F.ok).then fun v s1 k1 q1 => ?_) (hs env) (hw env B))
  rw [hl]
  refine wp_unpack R.hd q1 y hd fun vs s2 k2 q2 => ?_
  have k12 := kt k1 k2
  have q3 : DenL S s2.heap vs.reverse ds.reverse := by
    have : ∀ {vs : List Value} {ds : List D}, DenL S s2.heap vs ds → DenL S s2.heap vs.reverse ds.reverse := by
      intro vs ds q
      have hl := q.length
      refine DenL.of (by simpa using hl) fun i u hi => ?_
      have hi' : i < vs.length := by simpa using (List.getElem?_eq_some_iff.mp hi).1
      rw [List.getElem?_reverse (by omega)] at hi
      obtain ⟨d, h1, h2⟩ := q.get hi
      exact ⟨d, by rw [List.getElem?_reverse (by omega), ← hl]; exact h1, h2⟩
    exact this (q2.ext (kx k2))
  refine wp_binds (S := S) (s₀ := s₀) B xs.reverse _ vs.reverse ds.reverse s2 ρ _ (StL.binds _) (by simpa using hl) (fun x h => List.all_eq_true.mp hx x (List.mem_reverse.mp h)) q3 (m.tr (Sm.of k12)) (F.mv (kx k12)) fun s' m' F' => ?_
  exact hr A s₀ s' env S B R X m' F'

/-- a comprehension bound to a plain name -/
theorem Ex.assignComp {elt iter : Expr} {x y : Str} {px py pos spos : Pos} {ifs : List Expr} {rest : List Stmt} {d d1 : D} {ds : List D} (p : D → Bool) (f : D → D)
    (hit : Ev prog w K n sc ρ iter d1) (yl : Yields d1 ds) (hsz : ds.length ≤ sizeLine)
    (hk : csc.kind = .function) (hc : capOk csc sc ρ = true) (hx : csc.names.lookup x = some .local ∨ csc.names.lookup x = some .cell)
    (htests : ∀ d, d ∈ ds → Tests prog w K n (relab csc sc) ((x, d) :: capt csc ρ) ifs (p d)) (helt : ∀ d, d ∈ ds → p d = true → Ev prog w K n (relab csc sc) ((x, d) :: capt csc ρ) elt (f d))
    (hy : nameOk sc y = true) (hr : Ex prog w K n sc ((y, .lst ((ds.filter p).map f)) :: ρ) rest d)
    (hs : ∀ env v, foldedSetIterable iter env v = pure v := by intro _ _; rfl)
    (hsw : ∀ env, EnvB sc env → swapsWith (.ListComp elt [⟨.Name x px, iter, ifs, 0⟩] csc pos) (some (.Name y py)) spos.line env = pure true) :
    Ex prog w K n sc ρ (.Assign [.Name y py] (.ListComp elt [⟨.Name x px, iter, ifs, 0⟩] csc pos) spos :: rest) d := by
  intro A s₀ s env S B R X m F
  refine wpAny_execs_cons ?_
  rw [exec_Assign_Name_used _ _ _ _ (hsw env B)]
  refine wpAny_bind (wpAny_standAt (wpAny_bind ?_))
  show wpAny _ A (do let _ ← comprehension (.ListComp elt [⟨.Name x px, iter, ifs, 0⟩] csc pos) csc env _ (newList []) false (eval iter env) (some (PySem.assign (.Name y py) env))) _ _ s
  obtain ⟨hyk, hycd⟩ := nameOk_of hy
  refine wpAny_bind (wpAny_mono (comp_core (Q := fun _ s' => wpAny (model prog w) A (execs rest env) (fun fl s' => Kp s₀ s' ∧ ∃ v, fl = .ret v ∧ Den S s'.heap v d) No s') B R (F.base X m) F.ok hit yl hsz hk hc hx htests helt (hs env) fun s1 Da C ys k1 hD hC hp hd hS hDC hn => ?_)
    (fun _ s' hq => wpAny_pure (wpAny_pure hq)) fun _ _ x => x)
  obtain ⟨mC, hn⟩ := hn
  have F1 := F.mv (kx k1)
  have hCL : C ≠ env.locals := fun z => by
    obtain ⟨m0, o, _, _, ho, _⟩ := F.ns
    rw [z, ho] at hC; cases hC
  have hCc : ∀ z, env.cells.lookup z ≠ some C := fun z e => by
    obtain ⟨v, o, ho, _⟩ := F.cell z C e
    rw [ho] at hC; cases hC
  have hC0 : s₀.heap.get? C = none := by
    cases q : s₀.heap.get? C with
    | none => rfl
    | some o => rw [F.ext C o q] at hC; cases hC
  refine wpAny_assign_Name (F1.store B hyk hycd (.lst (vs := ys) hS hp hd) fun s2 F2 m2 ks2 oth => ?_)
  have hn2 : s2.heap.Ns C mC := hn.at' fun o e => oth C o hC0 hCL hCc e
  refine ⟨mC, hn2, fun h' sb => ?_⟩
  have F3 : FrOk S s₀.heap h' env ((y, .lst ((ds.filter p).map f)) :: ρ) := F2.but hC0 hCL hCc hn2 sb
  refine hr A s₀ { s2 with heap := h' } env S B R X (((m.tr (Sm.of k1)).tr m2).tr ⟨⟨_, _, rfl⟩, Nat.le_refl _⟩) F3
end
end Mine

end
section
open PySem PySem.W PySem.Calls PyProof.Rows PySem.SeqAt
set_option Elab.async false
set_option maxRecDepth 100000
set_option maxHeartbeats 1000000
namespace Mine
section
variable {prog : Program} {w : World} {K : Frag} {n : Nat} {sc csc : Scope} {ρ : Rho}

theorem binds_ok {S : Addr → Prop} {h : Heap} {kindOf : Str → Option NameKind} : ∀ (xs : List Str) (vs : List Value) (ds : List D) (ρ : Rho) (m cm : Str → Option Value), xs.length = ds.length → (∀ x ∈ xs, kindOf x = some .local ∨ kindOf x = some .cell) → DenL S h vs ds →
    (∀ x d, ρ.lookup x = some d → ∃ v, ((kindOf x = some .local ∧ m x = some v) ∨ (kindOf x = some .cell ∧ cm x = some v)) ∧ Den S h v d) →
    ∀ x d, ((xs.zip ds).reverse ++ ρ).lookup x = some d → ∃ v, ((kindOf x = some .local ∧ bindL kindOf (xs.zip vs) m x = some v) ∨ (kindOf x = some .cell ∧ bindC kindOf (xs.zip vs) cm x = some v)) ∧ Den S h v d
  | [], vs, ds, ρ, m, cm, _, _, _, h0 => by simpa [bindL, bindC] using h0
  | y :: xs, vs, ds, ρ, m, cm, hl, hk, q, h0 => by
    cases ds with
    | nil => simp at hl
    | cons e ds =>
      cases q with
      | cons a b =>
        rename_i v vs
        intro x d hx
        have hx' : ((xs.zip ds).reverse ++ ((y, e) :: ρ)).lookup x = some d := by simpa using hx
        show ∃ u, ((kindOf x = some .local ∧ bindL kindOf ((y, v) :: xs.zip vs) m x = some u) ∨ (kindOf x = some .cell ∧ bindC kindOf ((y, v) :: xs.zip vs) cm x = some u)) ∧ Den S h u d
        unfold bindL bindC
        refine binds_ok xs vs ds ((y, e) :: ρ) _ _ (by simpa using hl) (fun z hz => hk z (.tail _ hz)) b (fun z dz hz => ?_) x d hx'
        rw [List.lookup_cons] at hz
        cases hb : z == y with
        | true =>
          rw [hb] at hz; cases hz
          have := beq_iff_eq.mp hb; subst this
          refine ⟨v, ?_, a⟩
          rcases hk z (.head _) with k | k
          · exact .inl ⟨k, by rw [if_pos k]; simp⟩
          · exact .inr ⟨k, by rw [if_neg (by rw [k]; decide)]; simp⟩
        | false =>
          rw [hb] at hz
          have hne : z ≠ y := by simpa using hb
          obtain ⟨u, hu, qu⟩ := h0 z dz hz
          refine ⟨u, ?_, qu⟩
          rcases hu with ⟨k, hu⟩ | ⟨k, hu⟩
          · refine .inl ⟨k, ?_⟩
            split
            · simp only [if_neg hne]; exact hu
            · exact hu
          · refine .inr ⟨k, ?_⟩
            split
            · exact hu
            · simp only [if_neg hne]; exact hu

theorem Ex.retC {e : Expr} {pos : Pos} {rest : List Stmt} {d d' : D} (h : Ev prog w K n sc ρ e d') (he : d' = d) : Ex prog w K n sc ρ (.Return (some e) pos :: rest) d := he ▸ Ex.ret h
theorem Ev.conv {e : Expr} {d d' : D} (h : Ev prog w K n sc ρ e d') (he : d' = d) : Ev prog w K n sc ρ e d := he ▸ h

theorem Cl.raw {a : Addr} {o : Obj} {fd : FuncData} {body : List Stmt} {xs : List Str} {ds : List D} {d : D} {A : Around} {s : Shared} {vs : List Value} {S : Addr → Prop} (ho : K.lookup a = some o) (hd : o.data = .func fd) (hb : fd.body = .stmts body) (hg : fd.globals = mainGlobals) (hbi : fd.builtins = builtinsNs)
    (hclo : fd.closure = []) (hcd : codeIn K fd.code fd.qualname = true) (hl : xs.length = ds.length) (hx : (xs.all fun x => nameOk fd.scope x) = true)
    (hbind : ∀ (Q : List (Str × Value) → Shared → Prop) (E : Value → Shared → Prop), Q (xs.zip vs) s → wpAny (model prog w) A.in1 (bindArgs fd ⟨vs, []⟩) Q E s)
    (hroom : A.depth < recursionLimit) (Xk : K.In s.heap) (Xnl : s.heap.NoLimit) (q : DenL S s.heap vs ds)
    (hex : ∀ s' env, EnvB fd.scope env → env.cells = cellsFrom (s.heap.objs.size + 1) fd.scope.names [] → Sm s s' → FrOk S s.heap s'.heap env (xs.zip ds).reverse →
      wpAny (model prog w) (A.deeper env) (execs body env) (fun fl s' => Kp s s' ∧ ∃ v, fl = .ret v ∧ Den S s'.heap v d) No s')
    (hco : fd.scope.isCoroutine = false := by rfl) (hgen : fd.scope.isGenerator = false := by rfl) (hk : fd.scope.kind = .function := by rfl) : Gets prog w S A (call (.ref a) vs) s d := by
  have hlv := q.length
  refine wpAny_call ?_
  refine codeAny_call_function hroom (Xk _ _ ho) hd hco hgen hb (codeRec_of Xk hcd) ?_
  rw [hclo]
  have hxn : ∀ x ∈ xs, fd.scope.names.lookup x = some .local ∨ fd.scope.names.lookup x = some .cell := fun x h => (nameOk_of (List.all_eq_true.mp hx x h)).1
  refine hbind _ _ (wpAny_with_toks (n := s.toks) (Nat.le_refl _) (wpAny_newFunctionEnv_cells hk (fun p hp => ?_) fun env he s' x ht => ?_))
  · have hp1 : p.1 ∈ xs := (List.of_mem_zip hp).1
    rcases hxn p.1 hp1 with h | h
    · exact .inl h
    · exact .inr ⟨h, cellsFrom_some _ _ _ (.inl h)⟩
  · have E : Ext s.heap s'.heap := x.toInCall.keep
    refine ⟨Xnl.keeps E, codeAny_func ?_⟩
    have hsc : env.scope = fd.scope := by rw [he]; rfl
    have B : EnvB fd.scope env := ⟨hsc, hk, by rw [he]; exact hg, by rw [he]; exact hbi⟩
    have hko : ∀ y, env.kindOf y = fd.scope.names.lookup y := fun y => by show env.scope.names.lookup y = _; rw [hsc]
    have m : Sm s s' := ⟨x.toInCall.same, ht⟩
    have hcl : env.cells = cellsFrom (s.heap.objs.size + 1) fd.scope.names [] := by rw [he]; rfl
    have hloc : env.locals = s.heap.objs.size := by rw [he]; rfl
    have fresh : ∀ c, s.heap.objs.size ≤ c → s.heap.get? c = none := fun c hc => by
      cases q : s.heap.get? c with
      | none => rfl
      | some o => exact absurd (Heap.lt_size q) (Nat.not_lt.mpr hc)
    have F : FrOk S s.heap s'.heap env (xs.zip ds).reverse := by
      refine ⟨E, fresh _ (by rw [hloc]; exact Nat.le_refl _), ⟨_, x.toInCall.ns⟩, fun y hy => ?_, fun y c hy => ⟨_, x.cell y c hy⟩, fun y c hy => ?_, fun y z c h1 h2 => name_of_addr x.apart (mem_of_lookup h1) (mem_of_lookup h2), fun y e hy => ?_⟩
      · rw [hko y] at hy
        rw [hcl]
        exact Option.isSome_iff_exists.mp (cellsFrom_some _ _ _ (.inl hy))
      · have := x.above y c (mem_of_lookup hy)
        rw [hloc] at this ⊢
        exact ⟨fresh c (Nat.le_of_lt this), Nat.ne_of_gt this⟩
      · have hz : ((xs.zip ds).reverse ++ []).lookup y = some e := by simpa using hy
        obtain ⟨v, hv, qv⟩ := binds_ok (kindOf := env.kindOf) xs vs ds [] (fun _ => none) (fun _ => none) hl (fun z hz => by rw [hko z]; exact hxn z hz) q (fun _ _ h => by simp at h) y e hz
        refine ⟨v, ?_, qv.ext E⟩
        rcases hv with ⟨k, hv⟩ | ⟨k, hv⟩
        · exact .inl ⟨k, _, x.toInCall.ns, hv⟩
        · rw [hko y] at k
          have hmem : y ∈ xs := by
            have := mem_of_lookup hy
            exact (List.of_mem_zip (List.mem_reverse.mp this)).1
          have hcd := (nameOk_of (List.all_eq_true.mp hx y hmem)).2
          obtain ⟨c, hc⟩ := Option.isSome_iff_exists.mp (cellsFrom_some (x := y) fd.scope.names (s.heap.objs.size + 1) [] (.inl k))
          rw [← hcl] at hc
          have := x.cell y c hc
          rw [hv] at this
          exact .inr ⟨.inl (by rw [hko y]; exact k), hcd, c, hc, this⟩
    refine wpAny_mono (hex s' env B hcl m F) (fun fl s2 h2 => ?_) fun _ _ x => x.elim
    obtain ⟨k2, v, rfl, q2⟩ := h2
    exact ⟨k2.1, q2⟩

theorem Cl.defW {a : Addr} {o : Obj} {fd : FuncData} {body : List Stmt} {xs : List Str} {ds : List D} {d : D} (ho : K.lookup a = some o) (hd : o.data = .func fd) (hb : fd.body = .stmts body) (hg : fd.globals = mainGlobals) (hbi : fd.builtins = builtinsNs)
    (hclo : fd.closure = []) (hcd : codeIn K fd.code fd.qualname = true) (hl : xs.length = ds.length) (hx : (xs.all fun x => nameOk fd.scope x) = true)
    (hbind : ∀ (A : Around) (s : Shared) (vs : List Value) (Q : List (Str × Value) → Shared → Prop) (E : Value → Shared → Prop), K.In s.heap → vs.length = ds.length → Q (xs.zip vs) s → wpAny (model prog w) A (bindArgs fd ⟨vs, []⟩) Q E s)
    (hex : ∀ A s₀ s env S, EnvB fd.scope env → env.cells = cellsFrom (s₀.heap.objs.size + 1) fd.scope.names [] → Room n A → Base K S s₀ → Sm s₀ s → FrOk S s₀.heap s.heap env (xs.zip ds).reverse →
      wpAny (model prog w) A (execs body env) (fun fl s' => Kp s₀ s' ∧ ∃ v, fl = .ret v ∧ Den S s'.heap v d) No s)
    (hco : fd.scope.isCoroutine = false := by rfl) (hgen : fd.scope.isGenerator = false := by rfl) (hk : fd.scope.kind = .function := by rfl) : Cl prog w K (n + 1) (.ref a) ds d := by
  intro A s vs S R X q
  exact Cl.raw ho hd hb hg hbi hclo hcd hl hx (fun Q E hq => hbind _ _ vs Q E X.k q.length hq) (by have := R.dp; omega) X.k X.nl q (fun s' env B hcl m F => hex (A.deeper env) s s' env S B hcl R.deeper X m F) hco hgen hk

theorem Cl.def' {a : Addr} {o : Obj} {fd : FuncData} {body : List Stmt} {xs : List Str} {ds : List D} {d : D} (ho : K.lookup a = some o) (hd : o.data = .func fd) (hb : fd.body = .stmts body) (hg : fd.globals = mainGlobals) (hbi : fd.builtins = builtinsNs)
    (hclo : fd.closure = []) (hcd : codeIn K fd.code fd.qualname = true) (hl : xs.length = ds.length) (hx : (xs.all fun x => nameOk fd.scope x) = true)
    (hbind : ∀ vs : List Value, vs.length = ds.length → bindArgs fd ⟨vs, []⟩ = pure (xs.zip vs))
    (hex : ∀ A s₀ s env S, EnvB fd.scope env → env.cells = cellsFrom (s₀.heap.objs.size + 1) fd.scope.names [] → Room n A → Base K S s₀ → Sm s₀ s → FrOk S s₀.heap s.heap env (xs.zip ds).reverse →
      wpAny (model prog w) A (execs body env) (fun fl s' => Kp s₀ s' ∧ ∃ v, fl = .ret v ∧ Den S s'.heap v d) No s)
    (hco : fd.scope.isCoroutine = false := by rfl) (hgen : fd.scope.isGenerator = false := by rfl) (hk : fd.scope.kind = .function := by rfl) : Cl prog w K (n + 1) (.ref a) ds d :=
  Cl.defW ho hd hb hg hbi hclo hcd hl hx (fun A s vs Q E _ hl hq => by rw [hbind vs hl]; exact wpAny_pure hq) hex hco hgen hk
theorem Cl.def {a : Addr} {o : Obj} {fd : FuncData} {body : List Stmt} {xs : List Str} {ds : List D} {d : D} (ho : K.lookup a = some o) (hd : o.data = .func fd) (hb : fd.body = .stmts body) (hg : fd.globals = mainGlobals) (hbi : fd.builtins = builtinsNs)
    (hclo : fd.closure = []) (hcd : codeIn K fd.code fd.qualname = true) (hl : xs.length = ds.length) (hx : (xs.all fun x => nameOk fd.scope x) = true)
    (hbind : ∀ vs : List Value, vs.length = ds.length → bindArgs fd ⟨vs, []⟩ = pure (xs.zip vs))
    (hex : Ex prog w K n fd.scope (xs.zip ds).reverse body d)
    (hco : fd.scope.isCoroutine = false := by rfl) (hgen : fd.scope.isGenerator = false := by rfl) (hk : fd.scope.kind = .function := by rfl) : Cl prog w K (n + 1) (.ref a) ds d :=
  Cl.def' ho hd hb hg hbi hclo hcd hl hx hbind (fun A s₀ s env S B _ R X m F => hex A s₀ s env S B R X m F) hco hgen hk
end
end Mine

end
section
open PySem PySem.W PySem.Calls PyProof.Rows PySem.SeqAt
set_option Elab.async false
set_option maxRecDepth 100000
set_option maxHeartbeats 1000000
namespace Mine
section
variable {prog : Program} {w : World} {K : Frag} {n : Nat} {sc csc : Scope} {ρ : Rho}

def rngI (a : Int) (k : Nat) : List Int := (List.range k).map fun (i : Nat) => a + (i : Int)
theorem Yields.rngI {a : Int} {k : Nat} (h0 : -(2 ^ 62) ≤ a) (h1 : a + k < 2 ^ 62) : Yields (.rng a k) ((Mine.rngI a k).map D.int) := by
  have : (Mine.rngI a k).map D.int = rngD a k := by simp [Mine.rngI, rngD]
  rw [this]; exact .rng h0 h1
theorem mem_rngI {a : Int} {k : Nat} {i : Int} : i ∈ rngI a k ↔ a ≤ i ∧ i < a + k := by
  simp only [rngI, List.mem_map, List.mem_range]
  constructor
  · rintro ⟨j, hj, rfl⟩; omega
  · rintro ⟨h1, h2⟩; exact ⟨(i - a).toNat, by omega, by omega⟩

def onI (p : Int → Bool) : D → Bool
  | .int i => p i
  | _ => false
def onID (f : Int → D) : D → D
  | .int i => f i
  | _ => .none
theorem onI_map (p : Int → Bool) (f : Int → D) (l : List Int) : ((l.map D.int).filter (onI p)).map (onID f) = (l.filter p).map f := by
  induction l with
  | nil => rfl
  | cons i l ih =>
    rw [List.map_cons, List.filter_cons, List.filter_cons]
    show List.map (onID f) (if p i = true then _ else _) = _
    by_cases h : p i = true
    · rw [if_pos h, if_pos h, List.map_cons, List.map_cons, ih]; rfl
    · rw [if_neg h, if_neg h]; exact ih

theorem Ev.compI {elt iter : Expr} {x : Str} {px pos : Pos} {ifs : List Expr} {d : D} {l : List Int} (p : Int → Bool) (f : Int → D)
    (hit : Ev prog w K n sc ρ iter d) (y : Yields d (l.map D.int)) (hsz : l.length ≤ sizeLine)
    (hk : csc.kind = .function) (hc : capOk csc sc ρ = true) (hx : csc.names.lookup x = some .local ∨ csc.names.lookup x = some .cell)
    (htests : ∀ i, i ∈ l → Tests prog w K n (relab csc sc) ((x, .int i) :: capt csc ρ) ifs (p i)) (helt : ∀ i, i ∈ l → p i = true → Ev prog w K n (relab csc sc) ((x, .int i) :: capt csc ρ) elt (f i))
    (hs : ∀ env v, foldedSetIterable iter env v = pure v := by intro _ _; rfl) :
    Ev prog w K n sc ρ (.ListComp elt [⟨.Name x px, iter, ifs, 0⟩] csc pos) (.lst ((l.filter p).map f)) := by
  rw [← onI_map]
  refine Ev.comp (onI p) (onID f) hit y (by simpa using hsz) hk hc hx (fun d hd => ?_) (fun d hd hp => ?_) hs
  · obtain ⟨i, hi, rfl⟩ := List.mem_map.mp hd
    exact htests i hi
  · obtain ⟨i, hi, rfl⟩ := List.mem_map.mp hd
    exact helt i hi hp

theorem flt_true {α : Type} (l : List α) : l.filter (fun _ => true) = l := List.filter_eq_self.mpr fun _ _ => rfl
/-- without a test -/
theorem Ev.compA {elt iter : Expr} {x : Str} {px pos : Pos} {d : D} {l : List Int} (f : Int → D)
    (hit : Ev prog w K n sc ρ iter d) (y : Yields d (l.map D.int)) (hsz : l.length ≤ sizeLine)
    (hk : csc.kind = .function) (hc : capOk csc sc ρ = true) (hx : csc.names.lookup x = some .local ∨ csc.names.lookup x = some .cell)
    (helt : ∀ i, i ∈ l → Ev prog w K n (relab csc sc) ((x, .int i) :: capt csc ρ) elt (f i))
    (hs : ∀ env v, foldedSetIterable iter env v = pure v := by intro _ _; rfl) :
    Ev prog w K n sc ρ (.ListComp elt [⟨.Name x px, iter, [], 0⟩] csc pos) (.lst (l.map f)) := by
  have h := Ev.compI (pos := pos) (px := px) (fun _ => true) f hit y hsz hk hc hx (fun _ _ => Tests.nil) (fun i hi _ => helt i hi) hs
  rwa [flt_true] at h
theorem Ev.compAD {elt iter : Expr} {x : Str} {px pos : Pos} {d : D} {ds : List D} (f : D → D)
    (hit : Ev prog w K n sc ρ iter d) (y : Yields d ds) (hsz : ds.length ≤ sizeLine)
    (hk : csc.kind = .function) (hc : capOk csc sc ρ = true) (hx : csc.names.lookup x = some .local ∨ csc.names.lookup x = some .cell)
    (helt : ∀ d, d ∈ ds → Ev prog w K n (relab csc sc) ((x, d) :: capt csc ρ) elt (f d))
    (hs : ∀ env v, foldedSetIterable iter env v = pure v := by intro _ _; rfl) :
    Ev prog w K n sc ρ (.ListComp elt [⟨.Name x px, iter, [], 0⟩] csc pos) (.lst (ds.map f)) := by
  have h := Ev.comp (pos := pos) (px := px) (fun _ => true) f hit y hsz hk hc hx (fun _ _ => Tests.nil) (fun i hi _ => helt i hi) hs
  rwa [flt_true] at h
theorem Ex.assignCompI {elt iter : Expr} {x y : Str} {px py pos spos : Pos} {ifs : List Expr} {rest : List Stmt} {d d1 : D} {l : List Int} (p : Int → Bool) (f : Int → D)
    (hit : Ev prog w K n sc ρ iter d1) (yl : Yields d1 (l.map D.int)) (hsz : l.length ≤ sizeLine)
    (hk : csc.kind = .function) (hc : capOk csc sc ρ = true) (hx : csc.names.lookup x = some .local ∨ csc.names.lookup x = some .cell)
    (htests : ∀ i, i ∈ l → Tests prog w K n (relab csc sc) ((x, .int i) :: capt csc ρ) ifs (p i)) (helt : ∀ i, i ∈ l → p i = true → Ev prog w K n (relab csc sc) ((x, .int i) :: capt csc ρ) elt (f i))
    (hy : nameOk sc y = true) (hr : Ex prog w K n sc ((y, .lst ((l.filter p).map f)) :: ρ) rest d)
    (hs : ∀ env v, foldedSetIterable iter env v = pure v := by intro _ _; rfl)
    (hsw : ∀ env, EnvB sc env → swapsWith (.ListComp elt [⟨.Name x px, iter, ifs, 0⟩] csc pos) (some (.Name y py)) spos.line env = pure true) :
    Ex prog w K n sc ρ (.Assign [.Name y py] (.ListComp elt [⟨.Name x px, iter, ifs, 0⟩] csc pos) spos :: rest) d := by
  rw [← onI_map] at hr
  refine Ex.assignComp (onI p) (onID f) hit yl (by simpa using hsz) hk hc hx (fun d hd => ?_) (fun d hd hp => ?_) hy hr hs hsw
  · obtain ⟨i, hi, rfl⟩ := List.mem_map.mp hd
    exact htests i hi
  · obtain ⟨i, hi, rfl⟩ := List.mem_map.mp hd
    exact helt i hi hp

theorem foldl_rep {α : Type} (items : List α) : ∀ (k : Nat) (acc : List α), List.foldl (fun x1 x2 => x1 ++ x2) acc.toArray (List.replicate k items.toArray) = (acc ++ (List.replicate k items).flatten).toArray
  | 0, acc => by simp
  | k + 1, acc => by
    rw [List.replicate_succ, List.replicate_succ, List.foldl_cons, List.append_toArray, foldl_rep items k]
    simp
theorem DenL.rep {S : Addr → Prop} {h : Heap} {vs : List Value} {ds : List D} (q : DenL S h vs ds) : ∀ k, DenL S h (List.replicate k vs).flatten (List.replicate k ds).flatten
  | 0 => .nil
  | k + 1 => by simpa [List.replicate_succ] using q.app (DenL.rep q k)
theorem Ev.mulL {l r : Expr} {pos : Pos} {ds : List D} {b : Int} (hl : Ev prog w K n sc ρ l (.lst ds)) (hr : Ev prog w K n sc ρ r (.int b)) (hs : 0 < ds.length ∧ 0 ≤ b ∧ b < 2 ^ 20 ∧ ds.length * b.toNat ≤ 2 ^ 24) : Ev prog w K n sc ρ (.BinOp l .Mult r pos) (.lst (List.replicate b.toNat ds).flatten) :=
  Ev.binop hl hr fun A s S va vb R X qa qb => by
    cases qb
    rename_i u
    cases qa with
    | lst hS ha la =>
      rename_i l vs
      obtain ⟨k, ha⟩ := ha
      have e1 := la.length
      obtain ⟨h0, h1, h2, h3⟩ := hs
      refine wpAny_binaryOp_repeat_ref (T := "list") (U := "int") (by decide) ⟨_, ha, rfl⟩ (fun s' => typeIs_int s' b u) noFill_list_mul F.fills_int_mul F.slot_int_rmul repeat_list F.slot_int_index.lookup
        (call_meets F.slot_int_rmul (typeIs_int s b u) F.entry_int_rmul (F.args_int_rmul_2 _ _) (int___rmul___int_list b u l vs.toArray k)
          ⟨ha, rfl, ⟨_, ha, rfl⟩, call_meets F.slot_list_mul ⟨_, ha, rfl⟩ F.entry_list_mul (F.args_list_mul_2 _ _)
            (AutoListH.list___mul___list_int_3 l vs.toArray k b u (by simp [Builtin.List.listFitsIndex]; omega) (by simp [e1]; omega) (by simp [Builtin.List.listTooLong, sizeLine, e1]; omega)) ⟨ha, ?_⟩⟩)
      have hne : ¬ (vs.toArray.isEmpty = true) := by
        intro hh
        simp at hh
        rw [hh] at e1; simp at e1; omega
      rw [if_neg hne]
      have := foldl_rep vs b.toNat []
      simp only [List.nil_append] at this
      rw [show (#[] : Array Value) = ([] : List Value).toArray from rfl, this]
      exact ⟨kp, .lst X.nw ⟨0, Heap.get?_push_size _ rfl⟩ ((la.rep _).ext fun _ _ e => Heap.get?_push_of_some _ e)⟩

theorem byScope {α : Type} {f : Env → α} {a : α} (h : ∀ (locals globals : Addr) (cells : List (Str × Addr)) (qual : Str) (func : Option Addr) (code : Value) (frame : Option Addr) (builtins : Addr), f ⟨sc, locals, globals, cells, qual, func, code, frame, builtins⟩ = a) :
    ∀ env, EnvB sc env → f env = a := by
  intro env B
  obtain ⟨scope, locals, globals, cells, qual, func, code, frame, builtins⟩ := env
  have e : scope = sc := B.hsc
  subst e
  exact h ..
theorem Ex.assignCompA {elt iter : Expr} {x y : Str} {px py pos spos : Pos} {rest : List Stmt} {d d1 : D} {l : List Int} (f : Int → D)
    (hit : Ev prog w K n sc ρ iter d1) (yl : Yields d1 (l.map D.int)) (hsz : l.length ≤ sizeLine)
    (hk : csc.kind = .function) (hc : capOk csc sc ρ = true) (hx : csc.names.lookup x = some .local ∨ csc.names.lookup x = some .cell)
    (helt : ∀ i, i ∈ l → Ev prog w K n (relab csc sc) ((x, .int i) :: capt csc ρ) elt (f i))
    (hy : nameOk sc y = true) (hr : Ex prog w K n sc ((y, .lst (l.map f)) :: ρ) rest d)
    (hs : ∀ env v, foldedSetIterable iter env v = pure v := by intro _ _; rfl)
    (hsw : ∀ env, EnvB sc env → swapsWith (.ListComp elt [⟨.Name x px, iter, [], 0⟩] csc pos) (some (.Name y py)) spos.line env = pure true) :
    Ex prog w K n sc ρ (.Assign [.Name y py] (.ListComp elt [⟨.Name x px, iter, [], 0⟩] csc pos) spos :: rest) d :=
  Ex.assignCompI (fun _ => true) f hit yl hsz hk hc hx (fun _ _ => Tests.nil) (fun i hi _ => helt i hi) hy (by rw [flt_true]; exact hr) hs hsw
end
end Mine

end
section
open PySem PySem.W PySem.Calls PyProof.Rows PySem.SeqAt
set_option Elab.async false
set_option maxRecDepth 100000
set_option maxHeartbeats 1000000
namespace Mine
section
variable {prog : Program} {w : World} {K : Frag} {n : Nat} {sc csc : Scope} {ρ ρ' ρ₁ : Rho} {Pa : Addr} {vs vs' vs₁ : List Value}

/-! a stretch of statements that falls through, with one list of the frame's own that is appended to -/
def Plus (S : Addr → Prop) (a : Addr) : Addr → Prop := fun b => S b ∨ b = a
structure At (S : Addr → Prop) (s₀ s : Shared) (env : Env) (Pa : Addr) (ρ : Rho) (vs : List Value) : Prop where
  sm : Sm s₀ s
  f : FrOk (Plus S Pa) s₀.heap s.heap env ρ
  l : s.heap.PlainList Pa vs.toArray
  new : s₀.heap.get? Pa = none
  loc : Pa ≠ env.locals
  cells : ∀ z, env.cells.lookup z = none
def Oth (env : Env) (Pa : Addr) (s s' : Shared) : Prop := ∀ b o, b ≠ env.locals → b ≠ Pa → s.heap.get? b = some o → s'.heap.get? b = some o
theorem Oth.tr {env : Env} {s s' s'' : Shared} (a : Oth env Pa s s') (b : Oth env Pa s' s'') : Oth env Pa s s'' := fun c o h1 h2 e => b c o h1 h2 (a c o h1 h2 e)

theorem At.base {S : Addr → Prop} {s₀ s : Shared} {env : Env} (a : At S s₀ s env Pa ρ vs) (X : Base K S s₀) : Base K (Plus S Pa) s := by
  have := X.of a.f.ext a.sm.2
  refine ⟨this.k, this.b, this.nl, this.g, this.t, fun b hb => ?_⟩
  rcases hb with hb | hb
  · exact this.so b hb
  · obtain ⟨k, e⟩ := a.l; subst hb; exact ⟨_, e⟩
theorem At.mv {S : Addr → Prop} {s₀ s s' : Shared} {env : Env} (a : At S s₀ s env Pa ρ vs) (k : Kp s s') : At S s₀ s' env Pa ρ vs :=
  ⟨a.sm.tr (Sm.of k), a.f.mv (kx k), a.l.at fun o e => kx k _ o e, a.new, a.loc, a.cells⟩
theorem FrOk.weak {S : Addr → Prop} {h₀ h : Heap} {env : Env} (F : FrOk S h₀ h env ρ) (e : ∀ x d, ρ'.lookup x = some d → ρ.lookup x = some d) : FrOk S h₀ h env ρ' :=
  ⟨F.ext, F.fresh, F.ns, F.cellk, F.cell, F.cfresh, F.apart, fun x d q => F.ok x d (e x d q)⟩
theorem At.weak {S : Addr → Prop} {s₀ s : Shared} {env : Env} (a : At S s₀ s env Pa ρ vs) (e : ∀ x d, ρ'.lookup x = some d → ρ.lookup x = some d) : At S s₀ s env Pa ρ' vs :=
  ⟨a.sm, a.f.weak e, a.l, a.new, a.loc, a.cells⟩
theorem At.store {S : Addr → Prop} {M : Model} {A : Around} {E : Value → Shared → Prop} {s₀ s : Shared} {env : Env} {x : Str} {v : Value} {d : D} {Q : Unit → Shared → Prop} (B : EnvB sc env) (a : At S s₀ s env Pa ρ vs) (hx : nameOk sc x = true) (q : Den (Plus S Pa) s.heap v d)
    (h : ∀ s', At S s₀ s' env Pa ((x, d) :: ρ) vs → Oth env Pa s s' → KeepSeq s.heap s'.heap → Q () s') : wpAny M A (storeName env x v) Q E s := by
  obtain ⟨hk, hcd⟩ := nameOk_of hx
  refine a.f.store B hk hcd q fun s' F' m' ks oth => ?_
  have o2 : ∀ b o, b ≠ env.locals → s.heap.get? b = some o → s'.heap.get? b = some o := fun b o h1 e => by
    cases e0 : s₀.heap.get? b with
    | none => exact oth b o e0 h1 (fun y hy => by rw [a.cells y] at hy; cases hy) e
    | some o' =>
      have := a.f.ext b o' e0
      rw [this] at e; cases e
      exact F'.ext b _ e0
  exact h s' ⟨a.sm.tr m', F', a.l.at fun o e => o2 Pa o a.loc e, a.new, a.loc, a.cells⟩ (fun b o h1 _ e => o2 b o h1 e) ks

def Et (prog : Program) (w : World) (K : Frag) (n : Nat) (sc : Scope) (Pa : Addr) (ρ : Rho) (vs : List Value) (st : List Stmt) (ρ' : Rho) (Φ : List Value → Prop) : Prop :=
  ∀ A s₀ s env S, EnvB sc env → Room n A → Base K S s₀ → At S s₀ s env Pa ρ vs →
    wpAny (model prog w) A (execs st env) (fun fl s' => fl = .next ∧ (∃ vs', Φ vs' ∧ At S s₀ s' env Pa ρ' vs') ∧ Oth env Pa s s') No s

theorem Et.nil : Et prog w K n sc Pa ρ vs [] ρ (fun u => u = vs) := fun _ _ _ _ _ _ _ _ a => wpAny_execs_nil ⟨rfl, ⟨vs, rfl, a⟩, fun _ _ _ _ e => e⟩
theorem Et.assign {x : Str} {xp pos : Pos} {e : Expr} {rest : List Stmt} {d1 : D} {Φ : List Value → Prop} (he : Ev prog w K n sc ρ e d1) (hk : nameOk sc x = true) (hr : Et prog w K n sc Pa ((x, d1) :: ρ) vs rest ρ' Φ)
    (hs : ∀ env, EnvB sc env → swapsWith e (some (.Name x xp)) pos.line env = pure false := by intro _ _; rfl) : Et prog w K n sc Pa ρ vs (.Assign [.Name x xp] e pos :: rest) ρ' Φ := by
  intro A s₀ s env S B R X a
  refine wpAny_execs_cons (wpAny_Assign_Name ((he A s env _ B R (a.base X) a.f.ok).then fun v s1 k1 q1 => ?_) (hs env B))
  refine (a.mv k1).store B hk q1 fun s2 a2 o2 _ => ?_
  exact wpAny_mono (hr A s₀ s2 env S B R X a2) (fun fl s' h => ⟨h.1, h.2.1, Oth.tr (fun b o _ _ e => kx k1 b o e) (o2.tr h.2.2)⟩) fun _ _ x => x
theorem Et.augS {x : Str} {xp pos : Pos} {e : Expr} {rest : List Stmt} {p q : Str} {Φ : List Value → Prop} (hx : ρ.lookup x = some (.str p)) (he : Ev prog w K n sc ρ e (.str q)) (hk : nameOk sc x = true) (hsz : p.length + q.length ≤ sizeLine)
    (hr : Et prog w K n sc Pa ((x, .str (p ++ q)) :: ρ) vs rest ρ' Φ) : Et prog w K n sc Pa ρ vs (.AugAssign (.Name x xp) .Add e pos :: rest) ρ' Φ := by
  intro A s₀ s env S B R X a
  obtain ⟨v0, l0, q0⟩ := a.f.ok x _ hx
  refine wpAny_execs_cons (wpAny_AugAssign_Name (Look.load B l0 ?_))
  cases q0
  refine (he A s env _ B R (a.base X) a.f.ok).then fun v s1 k1 q1 => ?_
  cases q1
  refine wpAny_with_toks (n := s1.toks) (Nat.le_refl _) (SB.iadd (fun t' k hk' => ?_) hsz)
  have k2 : Kp s1 { s1 with toks := k } := ⟨kk, hk'⟩
  refine ((a.mv k1).mv k2).store B hk .str fun s2 a2 o2 _ => ?_
  exact wpAny_mono (hr A s₀ s2 env S B R X a2) (fun fl s' h => ⟨h.1, h.2.1, Oth.tr (fun b o _ _ e => kx (kt k1 k2) b o e) (o2.tr h.2.2)⟩) fun _ _ x => x
theorem Et.swap2 {x y : Str} {ts : List Expr} {k : Nat} {tp pos : Pos} {e : Expr} {rest : List Stmt} {a b : D} {Φ : List Value → Prop} (he : Ev prog w K n sc ρ e (.tup [a, b]))
    (hx : nameOk sc x = true) (hy : nameOk sc y = true) (hr : Et prog w K n sc Pa ((x, a) :: (y, b) :: ρ) vs rest ρ' Φ)
    (hs : ∀ env, swapsWithSole [.Tuple ts k tp] e pos.line env = pure false := by intro _; rfl) (hw : ∀ env, EnvB sc env → swappedStores [.Tuple ts k tp] e env = pure (some [x, y])) :
    Et prog w K n sc Pa ρ vs (.Assign [.Tuple ts k tp] e pos :: rest) ρ' Φ := by
  intro A s₀ s env S B R X at0
  refine wpAny_execs_cons (Assign_Tuple_swapped (names := [x, y]) ((he A s env _ B R (at0.base X) at0.f.ok).then fun v s1 k1 q1 => ?_) (hs env) (hw env B))
  refine wp_unpack (ds := [a, b]) R.hd q1 .tup .tup fun us s2 k2 q2 => ?_
  obtain ⟨u1, u2, rfl, a1, a2⟩ := q2.two
  have k12 := kt k1 k2
  show wpAny _ A (do holding [u1] (bindName env y u2); assignInOrder [bindName env x] [u1]) _ _ s2
  refine wpAny_bind (wpAny_holding (wpAny_bindName ((at0.mv k12).store B hy (a2.ext (kx k2)) fun s3 at3 o3 ks3 => ?_)))
  show wpAny _ A (do holding [] (bindName env x u1); assignInOrder [] []) _ _ s3
  refine wpAny_bind (wpAny_holding (wpAny_bindName (at3.store B hx ((a1.ext (kx k2)).keep ks3) fun s4 at4 o4 _ => ?_)))
  refine wpAny_pure ?_
  exact wpAny_mono (hr A s₀ s4 env S B R X at4) (fun fl s' h => ⟨h.1, h.2.1, Oth.tr (fun b o _ _ e => kx k12 b o e) (o3.tr (o4.tr h.2.2))⟩) fun _ _ x => x
theorem Et.ite {t : Expr} {body orelse rest : List Stmt} {pos : Pos} {b : Bool} {Φ : List Value → Prop} (ht : Tst prog w K n sc ρ t b) (h1 : b = true → Et prog w K n sc Pa ρ vs (body ++ rest) ρ' Φ) (h2 : b = false → Et prog w K n sc Pa ρ vs (orelse ++ rest) ρ' Φ) :
    Et prog w K n sc Pa ρ vs (.If t body orelse pos :: rest) ρ' Φ := by
  intro A s₀ s env S B R X a
  rw [execs_If]
  refine wpAny_bind (wpAny_standAt (wpAny_bind (wpAny_mono (wpK (ht A s env _ B R (a.base X) a.f.ok)) (fun r s1 h => ?_) fun _ _ x => x)))
  obtain ⟨k1, rfl⟩ := h
  cases r with
  | true =>
    rw [if_pos rfl]
    exact wpAny_mono (h1 rfl A s₀ s1 env S B R X (a.mv k1)) (fun fl s' h => ⟨h.1, h.2.1, Oth.tr (fun b o _ _ e => kx k1 b o e) h.2.2⟩) fun _ _ x => x
  | false =>
    rw [if_neg (by decide)]
    exact wpAny_mono (h2 rfl A s₀ s1 env S B R X (a.mv k1)) (fun fl s' h => ⟨h.1, h.2.1, Oth.tr (fun b o _ _ e => kx k1 b o e) h.2.2⟩) fun _ _ x => x
theorem Et.append {x : Str} {xp apos cpos pos : Pos} {e : Expr} {rest : List Stmt} {d1 : D} {Φ : List Value → Prop} (hx : ρ.lookup x = some (.obj Pa)) (hxd : (x == ("__debug__" : Str)) = false) (he : Ev prog w K n sc ρ e d1) (hsz : vs.length ≤ sizeLine)
    (hr : ∀ S h v, Den S h v d1 → Et prog w K n sc Pa ρ (vs ++ [v]) rest ρ' Φ)
    (hline : (apos.endLine == cpos.line) = true) (hst : ∀ env, backTo cpos (starEach [e] env) = [(false, eval e env)])
    (hi : ∀ env, EnvB sc env → interactive env = false) (hss : ∀ env, swapsWith (.Call (.Attribute (.Name x xp) "append" apos) [e] [] cpos) none pos.line env = pure false := by intro _; rfl) :
    Et prog w K n sc Pa ρ vs (.Expr (.Call (.Attribute (.Name x xp) "append" apos) [e] [] cpos) pos :: rest) ρ' Φ := by
  intro A s₀ s env S B R X a
  obtain ⟨v0, l0, q0⟩ := a.f.ok x _ hx
  cases q0
  obtain ⟨k0, hl0⟩ := a.l
  refine wpAny_execs_cons (wpAny_Expr (wpAny_Call_append rfl (by rw [hst env]; rfl) hline (hst env) (wpAny_Name (Look.load B l0 ⟨Pa, vs.toArray, rfl, ⟨_, k0, hl0, rfl, rfl, rfl⟩, ?_⟩) hxd)) (hi env B) (hss env))
  refine (he A s env _ B R (a.base X) a.f.ok).then fun v s1 k1 q1 => ?_
  have a1 := a.mv k1
  refine wpAny_with_toks (n := s1.toks) (Nat.le_refl _) (wpAny_list_append_plain (hsz := by simpa using hsz) a1.l fun h' hl' hs' ht' => ?_)
  have E : ∀ b o, b ≠ Pa → s1.heap.get? b = some o → h'.get? b = some o := fun b o hb e => by rw [hs'.2 b hb]; exact e
  have a2 : At S s₀ { s1 with heap := h' } env Pa ρ (vs ++ [v]) := by
    refine ⟨a1.sm.tr ⟨⟨_, _, rfl⟩, Nat.le_refl _⟩, ⟨fun b o q => ?_, a1.f.fresh, ?_, a1.f.cellk, fun z c hz => ?_, a1.f.cfresh, a1.f.apart, fun z d hz => ?_⟩, by simpa using hl', a1.new, a1.loc, a1.cells⟩
    · exact E b o (fun z => by rw [z, a1.new] at q; cases q) (a1.f.ext b o q)
    · obtain ⟨m, q⟩ := a1.f.ns
      exact ⟨m, q.sameBut hs' (Ne.symm a1.loc)⟩
    · rw [a1.cells z] at hz; cases hz
    · obtain ⟨u, l, q⟩ := a1.f.ok z d hz
      refine ⟨u, ?_, q.but (a := Pa) (Or.inr rfl) E⟩
      rcases l with ⟨y1, m2, y2, y3⟩ | ⟨y1, y2, c, e1, e2⟩
      · exact .inl ⟨y1, m2, y2.sameBut hs' (Ne.symm a1.loc), y3⟩
      · rw [a1.cells z] at e1; cases e1
  refine wpAny_mono (hr _ _ v q1 A s₀ { s1 with heap := h' } env S B R X a2) (fun fl s' h => ⟨h.1, h.2.1, Oth.tr (fun b o _ _ e => kx k1 b o e) (Oth.tr (fun b o _ h2 e => E b o h2 e) h.2.2)⟩) fun _ _ x => x
end
end Mine

end
section
open PySem PySem.W PySem.Calls PyProof.Rows PySem.SeqAt
set_option Elab.async false
set_option maxRecDepth 100000
set_option maxHeartbeats 4000000
namespace Mine
open Float64 in
def hsvF (h s v : UInt64) : D :=
  if cmp s 0 == some .eq then .tup [.flt v, .flt v, .flt v] else
  let m := mul h 0x4018000000000000
  let i := truncF m
  let f := sub m (ofInt i)
  let p := mul v (sub 0x3ff0000000000000 s)
  let q := mul v (sub 0x3ff0000000000000 (mul s f))
  let t := mul v (sub 0x3ff0000000000000 (mul s (sub 0x3ff0000000000000 f)))
  let i := i.fmod 6
  if i == 0 then .tup [.flt v, .flt t, .flt p] else
  if i == 1 then .tup [.flt q, .flt v, .flt p] else
  if i == 2 then .tup [.flt p, .flt v, .flt t] else
  if i == 3 then .tup [.flt p, .flt q, .flt v] else
  if i == 4 then .tup [.flt t, .flt p, .flt v] else
  .tup [.flt v, .flt p, .flt q]

variable {prog : Program} {w : World} {n : Nat}
local macro_rules | `(tactic| walk_at "SIDE") => `(tactic| first | rfl | assumption | decide | omega)
local macro_rules | `(tactic| walk_at "END") => `(tactic| (simp only [hsvF, *, if_true, if_false, Bool.false_eq_true]))
theorem hsv_to_rgb_cl (h s v : UInt64) (hf : Float64.isFinite (Float64.mul h 4618441417868443648) = true) (hi : (truncF (Float64.mul h 4618441417868443648)).natAbs < 2 ^ 1023) :
    Cl prog w (hd.heap_39 w.params) (n + 1) (.ref 42) [.flt h, .flt s, .flt v] (hsvF h s v) := by
  have hcase : ((truncF (Float64.mul h 4618441417868443648)).fmod 6 = 0 ∨ (truncF (Float64.mul h 4618441417868443648)).fmod 6 = 1 ∨ (truncF (Float64.mul h 4618441417868443648)).fmod 6 = 2) ∨ ((truncF (Float64.mul h 4618441417868443648)).fmod 6 = 3 ∨ (truncF (Float64.mul h 4618441417868443648)).fmod 6 = 4 ∨ (truncF (Float64.mul h 4618441417868443648)).fmod 6 = 5) := by
    rw [Int.fmod_eq_emod_of_nonneg _ (by decide)]
    rcases mod6 (truncF (Float64.mul h 4618441417868443648)) with h | h | h | h | h | h
    · exact .inl (.inl h)
    · exact .inl (.inr (.inl h))
    · exact .inl (.inr (.inr h))
    · exact .inr (.inl h)
    · exact .inr (.inr (.inl h))
    · exact .inr (.inr (.inr h))
  refine Cl.def (xs := ["h", "s", "v"]) (by rfl) (by rfl) (by rfl) rfl rfl rfl (by rfl) rfl (by rfl) (fun vs hl => len3 (C := fun vs => bindArgs _ ⟨vs, []⟩ = pure (List.zip _ vs)) hl fun a b c => rfl) ?_
  dsimp only [List.zip, List.zipWith, List.reverse, List.reverseAux]
  refine Ex.ite (Tst.cmp (Ev.eqF (Ev.name rfl rfl) Ev.flt)) (fun c47 => ?_) (fun c47 => ?_)
  · exact Ex.retC (Ev.tup (EvL.cons (Ev.name rfl rfl) (EvL.cons (Ev.name rfl rfl) (EvL.cons (Ev.name rfl rfl) EvL.nil)))) (by walk_at "END")
  · refine Ex.assign (Ev.callT ⟨rfl, rfl, .inr ⟨rfl, rfl, by decide⟩⟩ (EvL.cons (Ev.mulF (Ev.name rfl rfl) Ev.flt) EvL.nil) (Cl.intF (by walk_at "SIDE"))) (.inl rfl) ?_
    refine Ex.assign (Ev.subFI (Ev.mulF (Ev.name rfl rfl) Ev.flt) (Ev.name rfl rfl) (by walk_at "SIDE")) (.inl rfl) ?_
    refine Ex.assign (Ev.mulF (Ev.name rfl rfl) (Ev.subF Ev.flt (Ev.name rfl rfl))) (.inl rfl) ?_
    refine Ex.assign (Ev.mulF (Ev.name rfl rfl) (Ev.subF Ev.flt (Ev.mulF (Ev.name rfl rfl) (Ev.name rfl rfl)))) (.inl rfl) ?_
    refine Ex.assign (Ev.mulF (Ev.name rfl rfl) (Ev.subF Ev.flt (Ev.mulF (Ev.name rfl rfl) (Ev.subF Ev.flt (Ev.name rfl rfl))))) (.inl rfl) ?_
    refine Ex.assign (Ev.modI (Ev.name rfl rfl) Ev.int (by walk_at "SIDE")) (.inl rfl) ?_
    refine Ex.ite (Tst.cmp (Ev.eqI (Ev.name rfl rfl) Ev.int)) (fun c55 => ?_) (fun c55 => ?_)
    · exact Ex.retC (Ev.tup (EvL.cons (Ev.name rfl rfl) (EvL.cons (Ev.name rfl rfl) (EvL.cons (Ev.name rfl rfl) EvL.nil)))) (by walk_at "END")
    · refine Ex.ite (Tst.cmp (Ev.eqI (Ev.name rfl rfl) Ev.int)) (fun c57 => ?_) (fun c57 => ?_)
      · exact Ex.retC (Ev.tup (EvL.cons (Ev.name rfl rfl) (EvL.cons (Ev.name rfl rfl) (EvL.cons (Ev.name rfl rfl) EvL.nil)))) (by walk_at "END")
      · refine Ex.ite (Tst.cmp (Ev.eqI (Ev.name rfl rfl) Ev.int)) (fun c59 => ?_) (fun c59 => ?_)
        · exact Ex.retC (Ev.tup (EvL.cons (Ev.name rfl rfl) (EvL.cons (Ev.name rfl rfl) (EvL.cons (Ev.name rfl rfl) EvL.nil)))) (by walk_at "END")
        · refine Ex.ite (Tst.cmp (Ev.eqI (Ev.name rfl rfl) Ev.int)) (fun c61 => ?_) (fun c61 => ?_)
          · exact Ex.retC (Ev.tup (EvL.cons (Ev.name rfl rfl) (EvL.cons (Ev.name rfl rfl) (EvL.cons (Ev.name rfl rfl) EvL.nil)))) (by walk_at "END")
          · refine Ex.ite (Tst.cmp (Ev.eqI (Ev.name rfl rfl) Ev.int)) (fun c63 => ?_) (fun c63 => ?_)
            · exact Ex.retC (Ev.tup (EvL.cons (Ev.name rfl rfl) (EvL.cons (Ev.name rfl rfl) (EvL.cons (Ev.name rfl rfl) EvL.nil)))) (by walk_at "END")
            · refine Ex.ite (Tst.cmp (Ev.eqI (Ev.name rfl rfl) Ev.int)) (fun c65 => ?_) (fun c65 => ?_)
              · exact Ex.retC (Ev.tup (EvL.cons (Ev.name rfl rfl) (EvL.cons (Ev.name rfl rfl) (EvL.cons (Ev.name rfl rfl) EvL.nil)))) (by walk_at "END")
              · exact absurd (show _ ∨ _ from hcase) (by simp_all)
end Mine

end
section
open PySem PySem.W PySem.Calls PyProof.Rows PySem.SeqAt
set_option Elab.async false
set_option maxRecDepth 100000
set_option maxHeartbeats 4000000
namespace Mine
abbrev F05 : UInt64 := 4602678819172646912
abbrev F1 : UInt64 := 4607182418800017408
abbrev F2 : UInt64 := 4611686018427387904
abbrev F4 : UInt64 := 4616189618054758400
abbrev F6 : UInt64 := 4618441417868443648
abbrev F13 : UInt64 := 4599676419421066581
abbrev F16 : UInt64 := 4595172819793696085
abbrev F23 : UInt64 := 4604180019048437077
def leb (x y : UInt64) : Bool := Float64.cmp x y == some .lt || Float64.cmp x y == some .eq
def eqb (x y : UInt64) : Bool := Float64.cmp x y == some .eq
def ltb (x y : UInt64) : Bool := Float64.cmp x y == some .lt
open Float64 in
def vF (m1 m2 hue : UInt64) : UInt64 :=
  let hu := (divmod hue F1).2
  if ltb hu F16 then add m1 (mul (mul (sub m2 m1) hu) F6) else
  if ltb hu F05 then m2 else
  if ltb hu F23 then add m1 (mul (mul (sub m2 m1) (sub F23 hu)) F6) else m1
open Float64 in
def hlsF (h l s : UInt64) : D :=
  if eqb s 0 then .tup [.flt l, .flt l, .flt l] else
  let m2 := if leb l F05 then mul l (add F1 s) else sub (add l s) (mul l s)
  let m1 := sub (mul F2 l) m2
  .tup [.flt (vF m1 m2 (add h F13)), .flt (vF m1 m2 h), .flt (vF m1 m2 (sub h F13))]
open Float64 in
def rgbF (r g b : UInt64) : D :=
  let maxc := fmax3 r g b
  let minc := fmin3 r g b
  let sumc := add maxc minc
  let rangec := sub maxc minc
  let l := div sumc F2
  if eqb minc maxc then .tup [.flt 0, .flt l, .flt 0] else
  let s := if leb l F05 then div rangec sumc else div rangec (sub (sub F2 maxc) minc)
  let rc := div (sub maxc r) rangec
  let gc := div (sub maxc g) rangec
  let bc := div (sub maxc b) rangec
  let h := if eqb r maxc then sub bc gc else if eqb g maxc then sub (add F2 rc) bc else sub (add F4 gc) rc
  .tup [.flt (divmod (div h F6) F1).2, .flt l, .flt s]

variable {prog : Program} {w : World} {n : Nat}
local macro_rules | `(tactic| walk_at "SIDE") => `(tactic| first | assumption | rfl | decide +kernel | omega)
local macro_rules | `(tactic| walk_at "END") => `(tactic| (simp only [vF, ltb, F05, F1, F6, F16, F23, *, if_true, if_false, Bool.false_eq_true]))
local macro_rules | `(tactic| walk_at "END2") => `(tactic| (simp only [hlsF, leb, eqb, F05, F1, F2, F13, *, if_true, if_false, Bool.false_eq_true]))
local macro_rules | `(tactic| walk_at "END3") => `(tactic| (simp only [rgbF, leb, eqb, F05, F1, F2, F4, F6, *, if_true, if_false, Bool.false_eq_true]))
theorem v_cl (m1 m2 hue : UInt64) : Cl prog w (hd.heap_39 w.params) (n + 1) (.ref 35) [.flt m1, .flt m2, .flt hue] (.flt (vF m1 m2 hue)) := by
  refine Cl.def (xs := ["m1", "m2", "hue"]) (by rfl) (by rfl) (by rfl) rfl rfl rfl (by rfl) rfl (by rfl) (fun vs hl => len3 (C := fun vs => bindArgs _ ⟨vs, []⟩ = pure (List.zip _ vs)) hl fun a b c => rfl) ?_
  dsimp only [List.zip, List.zipWith, List.reverse, List.reverseAux]
  refine Ex.assign (Ev.modF (Ev.name rfl rfl) Ev.flt (by walk_at "SIDE")) (.inl rfl) ?_
  refine Ex.ite (Tst.cmp (Ev.ltF (Ev.name rfl rfl) (Ev.glob rfl rfl (fun _ _ => Den.flt (by decide)) rfl))) (fun c39 => ?_) (fun c39 => ?_)
  · exact Ex.retC (Ev.addF (Ev.name rfl rfl) (Ev.mulF (Ev.mulF (Ev.subF (Ev.name rfl rfl) (Ev.name rfl rfl)) (Ev.name rfl rfl)) Ev.flt)) (by walk_at "END")
  · refine Ex.ite (Tst.cmp (Ev.ltF (Ev.name rfl rfl) Ev.flt)) (fun c41 => ?_) (fun c41 => ?_)
    · exact Ex.retC (Ev.name rfl rfl) (by walk_at "END")
    · refine Ex.ite (Tst.cmp (Ev.ltF (Ev.name rfl rfl) (Ev.glob rfl rfl (fun _ _ => Den.flt (by decide)) rfl))) (fun c43 => ?_) (fun c43 => ?_)
      · exact Ex.retC (Ev.addF (Ev.name rfl rfl) (Ev.mulF (Ev.mulF (Ev.subF (Ev.name rfl rfl) (Ev.name rfl rfl)) (Ev.subF (Ev.glob rfl rfl (fun _ _ => Den.flt (by decide)) rfl) (Ev.name rfl rfl))) Ev.flt)) (by walk_at "END")
      · exact Ex.retC (Ev.name rfl rfl) (by walk_at "END")
theorem hls_to_rgb_cl (h l s : UInt64) : Cl prog w (hd.heap_39 w.params) (n + 2) (.ref 28) [.flt h, .flt l, .flt s] (hlsF h l s) := by
  refine Cl.def (xs := ["h", "l", "s"]) (by rfl) (by rfl) (by rfl) rfl rfl rfl (by rfl) rfl (by rfl) (fun vs hl => len3 (C := fun vs => bindArgs _ ⟨vs, []⟩ = pure (List.zip _ vs)) hl fun a b c => rfl) ?_
  dsimp only [List.zip, List.zipWith, List.reverse, List.reverseAux]
  refine Ex.ite (Tst.cmp (Ev.eqF (Ev.name rfl rfl) Ev.flt)) (fun c29 => ?_) (fun c29 => ?_)
  · exact Ex.retC (Ev.tup (EvL.cons (Ev.name rfl rfl) (EvL.cons (Ev.name rfl rfl) (EvL.cons (Ev.name rfl rfl) EvL.nil)))) (by walk_at "END2")
  · refine Ex.ite (Tst.cmp (Ev.leF (Ev.name rfl rfl) Ev.flt)) (fun c31 => ?_) (fun c31 => ?_)
    · refine Ex.assign (Ev.mulF (Ev.name rfl rfl) (Ev.addF Ev.flt (Ev.name rfl rfl))) (.inl rfl) ?_
      refine Ex.assign (Ev.subF (Ev.mulF Ev.flt (Ev.name rfl rfl)) (Ev.name rfl rfl)) (.inl rfl) ?_
      exact Ex.retC (Ev.tup (EvL.cons (Ev.callFn ⟨rfl, rfl, .inl rfl⟩ rfl rfl (EvL.cons (Ev.name rfl rfl) (EvL.cons (Ev.name rfl rfl) (EvL.cons (Ev.addF (Ev.name rfl rfl) (Ev.glob rfl rfl (fun _ _ => Den.flt (by decide)) rfl)) EvL.nil))) (v_cl _ _ _)) (EvL.cons (Ev.callFn ⟨rfl, rfl, .inl rfl⟩ rfl rfl (EvL.cons (Ev.name rfl rfl) (EvL.cons (Ev.name rfl rfl) (EvL.cons (Ev.name rfl rfl) EvL.nil))) (v_cl _ _ _)) (EvL.cons (Ev.callFn ⟨rfl, rfl, .inl rfl⟩ rfl rfl (EvL.cons (Ev.name rfl rfl) (EvL.cons (Ev.name rfl rfl) (EvL.cons (Ev.subF (Ev.name rfl rfl) (Ev.glob rfl rfl (fun _ _ => Den.flt (by decide)) rfl)) EvL.nil))) (v_cl _ _ _)) EvL.nil)))) (by walk_at "END2")
    · refine Ex.assign (Ev.subF (Ev.addF (Ev.name rfl rfl) (Ev.name rfl rfl)) (Ev.mulF (Ev.name rfl rfl) (Ev.name rfl rfl))) (.inl rfl) ?_
      refine Ex.assign (Ev.subF (Ev.mulF Ev.flt (Ev.name rfl rfl)) (Ev.name rfl rfl)) (.inl rfl) ?_
      exact Ex.retC (Ev.tup (EvL.cons (Ev.callFn ⟨rfl, rfl, .inl rfl⟩ rfl rfl (EvL.cons (Ev.name rfl rfl) (EvL.cons (Ev.name rfl rfl) (EvL.cons (Ev.addF (Ev.name rfl rfl) (Ev.glob rfl rfl (fun _ _ => Den.flt (by decide)) rfl)) EvL.nil))) (v_cl _ _ _)) (EvL.cons (Ev.callFn ⟨rfl, rfl, .inl rfl⟩ rfl rfl (EvL.cons (Ev.name rfl rfl) (EvL.cons (Ev.name rfl rfl) (EvL.cons (Ev.name rfl rfl) EvL.nil))) (v_cl _ _ _)) (EvL.cons (Ev.callFn ⟨rfl, rfl, .inl rfl⟩ rfl rfl (EvL.cons (Ev.name rfl rfl) (EvL.cons (Ev.name rfl rfl) (EvL.cons (Ev.subF (Ev.name rfl rfl) (Ev.glob rfl rfl (fun _ _ => Den.flt (by decide)) rfl)) EvL.nil))) (v_cl _ _ _)) EvL.nil)))) (by walk_at "END2")
open Float64 in
theorem rgb_to_hls_cl (r g b : UInt64) (h1 : eqb (fmin3 r g b) (fmax3 r g b) = false → isZero (sub (fmax3 r g b) (fmin3 r g b)) = false)
    (h2 : eqb (fmin3 r g b) (fmax3 r g b) = false → leb (div (add (fmax3 r g b) (fmin3 r g b)) F2) F05 = true → isZero (add (fmax3 r g b) (fmin3 r g b)) = false)
    (h3 : eqb (fmin3 r g b) (fmax3 r g b) = false → leb (div (add (fmax3 r g b) (fmin3 r g b)) F2) F05 = false → isZero (sub (sub F2 (fmax3 r g b)) (fmin3 r g b)) = false) :
    Cl prog w (hd.heap_39 w.params) (n + 1) (.ref 21) [.flt r, .flt g, .flt b] (rgbF r g b) := by
  refine Cl.def (xs := ["r", "g", "b"]) (by rfl) (by rfl) (by rfl) rfl rfl rfl (by rfl) rfl (by rfl) (fun vs hl => len3 (C := fun vs => bindArgs _ ⟨vs, []⟩ = pure (List.zip _ vs)) hl fun a b c => rfl) ?_
  dsimp only [List.zip, List.zipWith, List.reverse, List.reverseAux]
  refine Ex.assign (Ev.callB ⟨rfl, rfl, .inr ⟨rfl, rfl, by decide⟩⟩ (EvL.cons (Ev.name rfl rfl) (EvL.cons (Ev.name rfl rfl) (EvL.cons (Ev.name rfl rfl) EvL.nil))) Cl.max3) (.inl rfl) ?_
  refine Ex.assign (Ev.callB ⟨rfl, rfl, .inr ⟨rfl, rfl, by decide⟩⟩ (EvL.cons (Ev.name rfl rfl) (EvL.cons (Ev.name rfl rfl) (EvL.cons (Ev.name rfl rfl) EvL.nil))) Cl.min3) (.inl rfl) ?_
  refine Ex.assign (Ev.addF (Ev.name rfl rfl) (Ev.name rfl rfl)) (.inl rfl) ?_
  refine Ex.assign (Ev.subF (Ev.name rfl rfl) (Ev.name rfl rfl)) (.inl rfl) ?_
  refine Ex.assign (Ev.divF (Ev.name rfl rfl) Ev.flt (by walk_at "SIDE")) (.inl rfl) ?_
  refine Ex.ite (Tst.cmp (Ev.eqF (Ev.name rfl rfl) (Ev.name rfl rfl))) (fun c11 => ?_) (fun c11 => ?_)
  · exact Ex.retC (Ev.tup (EvL.cons Ev.flt (EvL.cons (Ev.name rfl rfl) (EvL.cons Ev.flt EvL.nil)))) (by walk_at "END3")
  · have z1 := h1 c11
    refine Ex.ite (Tst.cmp (Ev.leF (Ev.name rfl rfl) Ev.flt)) (fun c13 => ?_) (fun c13 => ?_)
    · have z2 := h2 c11 c13
      refine Ex.assign (Ev.divF (Ev.name rfl rfl) (Ev.name rfl rfl) (by walk_at "SIDE")) (.inl rfl) ?_
      refine Ex.assign (Ev.divF (Ev.subF (Ev.name rfl rfl) (Ev.name rfl rfl)) (Ev.name rfl rfl) (by walk_at "SIDE")) (.inl rfl) ?_
      refine Ex.assign (Ev.divF (Ev.subF (Ev.name rfl rfl) (Ev.name rfl rfl)) (Ev.name rfl rfl) (by walk_at "SIDE")) (.inl rfl) ?_
      refine Ex.assign (Ev.divF (Ev.subF (Ev.name rfl rfl) (Ev.name rfl rfl)) (Ev.name rfl rfl) (by walk_at "SIDE")) (.inl rfl) ?_
      refine Ex.ite (Tst.cmp (Ev.eqF (Ev.name rfl rfl) (Ev.name rfl rfl))) (fun c20 => ?_) (fun c20 => ?_)
      · refine Ex.assign (Ev.subF (Ev.name rfl rfl) (Ev.name rfl rfl)) (.inl rfl) ?_
        refine Ex.assign (Ev.modF (Ev.divF (Ev.name rfl rfl) Ev.flt (by walk_at "SIDE")) Ev.flt (by walk_at "SIDE")) (.inl rfl) ?_
        exact Ex.retC (Ev.tup (EvL.cons (Ev.name rfl rfl) (EvL.cons (Ev.name rfl rfl) (EvL.cons (Ev.name rfl rfl) EvL.nil)))) (by walk_at "END3")
      · refine Ex.ite (Tst.cmp (Ev.eqF (Ev.name rfl rfl) (Ev.name rfl rfl))) (fun c22 => ?_) (fun c22 => ?_)
        · refine Ex.assign (Ev.subF (Ev.addF Ev.flt (Ev.name rfl rfl)) (Ev.name rfl rfl)) (.inl rfl) ?_
          refine Ex.assign (Ev.modF (Ev.divF (Ev.name rfl rfl) Ev.flt (by walk_at "SIDE")) Ev.flt (by walk_at "SIDE")) (.inl rfl) ?_
          exact Ex.retC (Ev.tup (EvL.cons (Ev.name rfl rfl) (EvL.cons (Ev.name rfl rfl) (EvL.cons (Ev.name rfl rfl) EvL.nil)))) (by walk_at "END3")
        · refine Ex.assign (Ev.subF (Ev.addF Ev.flt (Ev.name rfl rfl)) (Ev.name rfl rfl)) (.inl rfl) ?_
          refine Ex.assign (Ev.modF (Ev.divF (Ev.name rfl rfl) Ev.flt (by walk_at "SIDE")) Ev.flt (by walk_at "SIDE")) (.inl rfl) ?_
          exact Ex.retC (Ev.tup (EvL.cons (Ev.name rfl rfl) (EvL.cons (Ev.name rfl rfl) (EvL.cons (Ev.name rfl rfl) EvL.nil)))) (by walk_at "END3")
    · have z3 := h3 c11 c13
      refine Ex.assign (Ev.divF (Ev.name rfl rfl) (Ev.subF (Ev.subF Ev.flt (Ev.name rfl rfl)) (Ev.name rfl rfl)) (by walk_at "SIDE")) (.inl rfl) ?_
      refine Ex.assign (Ev.divF (Ev.subF (Ev.name rfl rfl) (Ev.name rfl rfl)) (Ev.name rfl rfl) (by walk_at "SIDE")) (.inl rfl) ?_
      refine Ex.assign (Ev.divF (Ev.subF (Ev.name rfl rfl) (Ev.name rfl rfl)) (Ev.name rfl rfl) (by walk_at "SIDE")) (.inl rfl) ?_
      refine Ex.assign (Ev.divF (Ev.subF (Ev.name rfl rfl) (Ev.name rfl rfl)) (Ev.name rfl rfl) (by walk_at "SIDE")) (.inl rfl) ?_
      refine Ex.ite (Tst.cmp (Ev.eqF (Ev.name rfl rfl) (Ev.name rfl rfl))) (fun c20 => ?_) (fun c20 => ?_)
      · refine Ex.assign (Ev.subF (Ev.name rfl rfl) (Ev.name rfl rfl)) (.inl rfl) ?_
        refine Ex.assign (Ev.modF (Ev.divF (Ev.name rfl rfl) Ev.flt (by walk_at "SIDE")) Ev.flt (by walk_at "SIDE")) (.inl rfl) ?_
        exact Ex.retC (Ev.tup (EvL.cons (Ev.name rfl rfl) (EvL.cons (Ev.name rfl rfl) (EvL.cons (Ev.name rfl rfl) EvL.nil)))) (by walk_at "END3")
      · refine Ex.ite (Tst.cmp (Ev.eqF (Ev.name rfl rfl) (Ev.name rfl rfl))) (fun c22 => ?_) (fun c22 => ?_)
        · refine Ex.assign (Ev.subF (Ev.addF Ev.flt (Ev.name rfl rfl)) (Ev.name rfl rfl)) (.inl rfl) ?_
          refine Ex.assign (Ev.modF (Ev.divF (Ev.name rfl rfl) Ev.flt (by walk_at "SIDE")) Ev.flt (by walk_at "SIDE")) (.inl rfl) ?_
          exact Ex.retC (Ev.tup (EvL.cons (Ev.name rfl rfl) (EvL.cons (Ev.name rfl rfl) (EvL.cons (Ev.name rfl rfl) EvL.nil)))) (by walk_at "END3")
        · refine Ex.assign (Ev.subF (Ev.addF Ev.flt (Ev.name rfl rfl)) (Ev.name rfl rfl)) (.inl rfl) ?_
          refine Ex.assign (Ev.modF (Ev.divF (Ev.name rfl rfl) Ev.flt (by walk_at "SIDE")) Ev.flt (by walk_at "SIDE")) (.inl rfl) ?_
          exact Ex.retC (Ev.tup (EvL.cons (Ev.name rfl rfl) (EvL.cons (Ev.name rfl rfl) (EvL.cons (Ev.name rfl rfl) EvL.nil)))) (by walk_at "END3")
end Mine

end
section
open PySem PySem.W PySem.Calls PyProof.Rows PySem.SeqAt
set_option Elab.async false
set_option maxRecDepth 100000
set_option maxHeartbeats 4000000
namespace Mine
def wayI (place size c : Int) : Int := min ((3 * place - c * size).fmod (3 * size)) (3 * size - (3 * place - c * size).fmod (3 * size))
def spreadI (place size times : Int) : List Int :=
  let w0 := wayI place size 0
  let w1 := wayI place size 1
  let w2 := wayI place size 2
  if times.fmod 2 == 0 then List.replicate 3 ((size * times * times).fdiv 2) else
  if times.fmod 3 == 0 then List.replicate 3 ((size * (times * times - 3)).fdiv 2 + 2 * w0) else
  (if times.fmod 3 == 2 then [w1 + w2 - size, w0 + w1 - size, w2 + w0 - size] else [w1 + w2 - size, w2 + w0 - size, w0 + w1 - size]).map fun part => (size * (times * times - 1)).fdiv 2 + part

variable {prog : Program} {w : World} {n : Nat}
local macro_rules | `(tactic| walk_at "SIDE") => `(tactic| first | assumption | rfl | decide | omega | (left; decide) | (left; omega) | (right; decide) | (right; omega))
theorem spread_cl (place size times : Int) (hs : 0 < size) (hs' : size < 2 ^ 20) (ht : 0 < times) (ht' : times < 2 ^ 20) :
    Cl prog w (hd.heap_39 w.params) (n + 1) (.ref 62) [.int place, .int size, .int times] (.lst ((spreadI place size times).map D.int)) := by
  refine Cl.def (xs := ["place", "size", "times"]) (by rfl) (by rfl) (by rfl) rfl rfl rfl (by rfl) rfl (by rfl) (fun vs hl => len3 (C := fun vs => bindArgs _ ⟨vs, []⟩ = pure (List.zip _ vs)) hl fun a b c => rfl) ?_
  dsimp only [List.zip, List.zipWith, List.reverse, List.reverseAux]
  refine Ex.assignCompI (l := rngI 0 3) (fun _ => true) (fun c => .int ((3 * place - c * size).fmod (3 * size))) (Ev.callT ⟨rfl, rfl, .inr ⟨rfl, rfl, by decide⟩⟩ (EvL.cons Ev.int EvL.nil) (Cl.rng1 (k := 3))) (Yields.rngI (by decide) (by decide)) (by decide) rfl (by rfl) (.inl rfl)
    (fun i _ => Tests.nil) (fun i hi _ => ?_) (by rfl) ?_ (hsw := byScope fun _ _ _ _ _ _ _ _ => by rfl)
  · exact Ev.modI (Ev.subI (Ev.mulI Ev.int (Ev.name rfl rfl) (by walk_at "SIDE")) (Ev.mulI (Ev.name rfl rfl) (Ev.name rfl rfl) (by walk_at "SIDE"))) (Ev.mulI Ev.int (Ev.name rfl rfl) (by walk_at "SIDE")) (by walk_at "SIDE")
  rw [show ((rngI 0 3).filter fun _ => true).map (fun c => D.int ((3 * place - c * size).fmod (3 * size))) = ([0, 1, 2].map fun c : Int => (3 * place - c * size).fmod (3 * size)).map D.int from rfl]
  refine Ex.assignCompI (l := [0, 1, 2].map fun c : Int => (3 * place - c * size).fmod (3 * size)) (fun _ => true) (fun way => .int (min way (3 * size - way))) (Ev.name rfl rfl) .lst (by simp [sizeLine]) rfl (by rfl) (.inl rfl)
    (fun i _ => Tests.nil) (fun i hi _ => ?_) (by rfl) ?_ (hsw := byScope fun _ _ _ _ _ _ _ _ => by rfl)
  · exact Ev.callB ⟨rfl, rfl, .inr ⟨rfl, rfl, by decide⟩⟩ (EvL.cons (Ev.name rfl rfl) (EvL.cons (Ev.subI (Ev.mulI Ev.int (Ev.name rfl rfl) (by walk_at "SIDE")) (Ev.name rfl rfl)) EvL.nil)) Cl.min2
  rw [show (([0, 1, 2].map fun c : Int => (3 * place - c * size).fmod (3 * size)).filter fun _ => true).map (fun way => D.int (min way (3 * size - way))) = [D.int (wayI place size 0), .int (wayI place size 1), .int (wayI place size 2)] from rfl]
  refine Ex.assign (Ev.lst (EvL.cons (Ev.subI (Ev.addI (Ev.itemL (Ev.name rfl rfl) Ev.int (by decide) (by decide) rfl) (Ev.itemL (Ev.name rfl rfl) Ev.int (by decide) (by decide) rfl)) (Ev.name rfl rfl))
    (EvL.cons (Ev.subI (Ev.addI (Ev.itemL (Ev.name rfl rfl) Ev.int (by decide) (by decide) rfl) (Ev.itemL (Ev.name rfl rfl) Ev.int (by decide) (by decide) rfl)) (Ev.name rfl rfl))
    (EvL.cons (Ev.subI (Ev.addI (Ev.itemL (Ev.name rfl rfl) Ev.int (by decide) (by decide) rfl) (Ev.itemL (Ev.name rfl rfl) Ev.int (by decide) (by decide) rfl)) (Ev.name rfl rfl)) EvL.nil)))) (.inl rfl) ?_
  refine Ex.ite (Tst.cmp (Ev.eqI (Ev.modI (Ev.name rfl rfl) Ev.int (by decide)) Ev.int)) (fun c1 => ?_) (fun c1 => ?_)
  · refine Ex.retC (Ev.mulL (Ev.lst (EvL.cons (Ev.divI (Ev.mulI (Ev.mulI (Ev.name rfl rfl) (Ev.name rfl rfl) (by walk_at "SIDE")) (Ev.name rfl rfl) (by walk_at "SIDE")) Ev.int (by decide) (by decide)) EvL.nil)) Ev.int (by simp)) ?_
    simp only [spreadI, c1, if_true]; rfl
  refine Ex.ite (Tst.cmp (Ev.eqI (Ev.modI (Ev.name rfl rfl) Ev.int (by decide)) Ev.int)) (fun c2 => ?_) (fun c2 => ?_)
  · refine Ex.retC (Ev.mulL (Ev.lst (EvL.cons (Ev.addI (Ev.divI (Ev.mulI (Ev.name rfl rfl) (Ev.subI (Ev.mulI (Ev.name rfl rfl) (Ev.name rfl rfl) (by walk_at "SIDE")) Ev.int) (by walk_at "SIDE")) Ev.int (by decide) (by decide)) (Ev.mulI Ev.int (Ev.itemL (Ev.name rfl rfl) Ev.int (by decide) (by decide) rfl) (by walk_at "SIDE"))) EvL.nil)) Ev.int (by simp)) ?_
    simp only [spreadI, c1, c2, if_true, if_false, Bool.false_eq_true]; rfl
  refine Ex.ite (Tst.cmp (Ev.eqI (Ev.modI (Ev.name rfl rfl) Ev.int (by decide)) Ev.int)) (fun c3 => ?_) (fun c3 => ?_)
  · refine Ex.assign (Ev.lst (EvL.cons (Ev.itemL (Ev.name rfl rfl) Ev.int (by decide) (by decide) rfl) (EvL.cons (Ev.itemL (Ev.name rfl rfl) Ev.int (by decide) (by decide) rfl) (EvL.cons (Ev.itemL (Ev.name rfl rfl) Ev.int (by decide) (by decide) rfl) EvL.nil)))) (.inl rfl) ?_
    refine Ex.retC (Ev.compI (l := [_, _, _]) (fun _ => true) (fun part => .int ((size * (times * times - 1)).fdiv 2 + part)) (Ev.name rfl rfl) .lst (by simp [sizeLine]) rfl (by rfl) (.inl rfl) (fun i _ => Tests.nil) (fun i _ _ => ?_)) ?_
    · exact Ev.addI (Ev.divI (Ev.mulI (Ev.name rfl rfl) (Ev.subI (Ev.mulI (Ev.name rfl rfl) (Ev.name rfl rfl) (by walk_at "SIDE")) Ev.int) (by walk_at "SIDE")) Ev.int (by decide) (by decide)) (Ev.name rfl rfl)
    · simp only [spreadI, c1, c2, c3, if_true, if_false, Bool.false_eq_true]; rfl
  · refine Ex.retC (Ev.compI (l := [_, _, _]) (fun _ => true) (fun part => .int ((size * (times * times - 1)).fdiv 2 + part)) (Ev.name rfl rfl) .lst (by simp [sizeLine]) rfl (by rfl) (.inl rfl) (fun i _ => Tests.nil) (fun i _ _ => ?_)) ?_
    · exact Ev.addI (Ev.divI (Ev.mulI (Ev.name rfl rfl) (Ev.subI (Ev.mulI (Ev.name rfl rfl) (Ev.name rfl rfl) (by walk_at "SIDE")) Ev.int) (by walk_at "SIDE")) Ev.int (by decide) (by decide)) (Ev.name rfl rfl)
    · simp only [spreadI, c1, c2, c3, if_true, if_false, Bool.false_eq_true]; rfl
end Mine

end
section
open PySem PySem.W PySem.Calls PyProof.Rows PySem.SeqAt
set_option Elab.async false
set_option maxRecDepth 100000
set_option maxHeartbeats 4000000
namespace Mine
def roundF (k : Int) (x : UInt64) : UInt64 := Float64.add (Float64.mul (Float64.ofInt k) x) F05
def onFD (f : UInt64 → D) : D → D
  | .flt x => f x
  | _ => .none

/-- what the walk of _law_read_and_painted asks of the plain side -/
structure PaintOk (R G B Wh : Int) (H L Sh x y z : UInt64) (M m : Int) : Prop where
  w0 : 0 < Wh
  w1 : Wh < 2 ^ 40
  f1 : Float64.isInf (fdivI R Wh) = false
  f2 : Float64.isInf (fdivI G Wh) = false
  f3 : Float64.isInf (fdivI B Wh) = false
  h1 : eqb (fmin3 (fdivI R Wh) (fdivI G Wh) (fdivI B Wh)) (fmax3 (fdivI R Wh) (fdivI G Wh) (fdivI B Wh)) = false → Float64.isZero (Float64.sub (fmax3 (fdivI R Wh) (fdivI G Wh) (fdivI B Wh)) (fmin3 (fdivI R Wh) (fdivI G Wh) (fdivI B Wh))) = false
  h2 : eqb (fmin3 (fdivI R Wh) (fdivI G Wh) (fdivI B Wh)) (fmax3 (fdivI R Wh) (fdivI G Wh) (fdivI B Wh)) = false → leb (Float64.div (Float64.add (fmax3 (fdivI R Wh) (fdivI G Wh) (fdivI B Wh)) (fmin3 (fdivI R Wh) (fdivI G Wh) (fdivI B Wh))) F2) F05 = true → Float64.isZero (Float64.add (fmax3 (fdivI R Wh) (fdivI G Wh) (fdivI B Wh)) (fmin3 (fdivI R Wh) (fdivI G Wh) (fdivI B Wh))) = false
  h3 : eqb (fmin3 (fdivI R Wh) (fdivI G Wh) (fdivI B Wh)) (fmax3 (fdivI R Wh) (fdivI G Wh) (fdivI B Wh)) = false → leb (Float64.div (Float64.add (fmax3 (fdivI R Wh) (fdivI G Wh) (fdivI B Wh)) (fmin3 (fdivI R Wh) (fdivI G Wh) (fdivI B Wh))) F2) F05 = false → Float64.isZero (Float64.sub (Float64.sub F2 (fmax3 (fdivI R Wh) (fdivI G Wh) (fdivI B Wh))) (fmin3 (fdivI R Wh) (fdivI G Wh) (fdivI B Wh))) = false
  rgb : rgbF (fdivI R Wh) (fdivI G Wh) (fdivI B Wh) = .tup [.flt H, .flt L, .flt Sh]
  hls : hlsF H L Sh = .tup [.flt x, .flt y, .flt z]
  fx : Float64.isFinite (roundF Wh x) = true
  fy : Float64.isFinite (roundF Wh y) = true
  fz : Float64.isFinite (roundF Wh z) = true
  tx : truncF (roundF Wh x) = R
  ty : truncF (roundF Wh y) = G
  tz : truncF (roundF Wh z) = B
  hM : M ∈ [R, G, B]
  hM' : ∀ t ∈ [R, G, B], t ≤ M
  hm : m ∈ [R, G, B]
  hm' : ∀ t ∈ [R, G, B], m ≤ t
  b0 : 0 ≤ m
  b1 : M ≤ Wh
  g1 : M = m → H = 0 ∧ Sh = 0 ∧ L = fdivI M Wh ∧ (Float64.cmp L L == some .eq) = true ∧ Float64.isInf (fdivI M Wh) = false
  a1 : M ≠ m → Float64.isFinite (roundF (6 * (M - m)) H) = true ∧ Float64.isFinite (roundF (2 * Wh) L) = true ∧ Float64.isFinite (roundF (min (M + m) (2 * Wh - M - m)) Sh) = true
  a2 : M ≠ m → (truncF (roundF (6 * (M - m)) H)).fmod (6 * (M - m)) =
    (if decide (R < M) then (if G == M then (6 * (M - m)).fdiv 3 + B - R else (2 * (6 * (M - m))).fdiv 3 + R - G) else G - B).fmod (6 * (M - m))
  a3 : M ≠ m → truncF (roundF (2 * Wh) L) = M + m
  a4 : M ≠ m → truncF (roundF (min (M + m) (2 * Wh - M - m)) Sh) = M - m

variable {prog : Program} {w : World} {n : Nat}
local macro_rules | `(tactic| walk_at "SIDE") => `(tactic| first | assumption | rfl | decide | omega | (left; decide) | (left; omega) | (right; decide) | (right; omega))
theorem natAbs_big {a : Int} (h0 : 0 ≤ a) (h : a < 2 ^ 60) : a.natAbs < 2 ^ 1023 := by
  have : a.natAbs < 2 ^ 60 := by omega
  exact Nat.lt_of_lt_of_le this (Nat.pow_le_pow_right (by decide) (by decide))
theorem paint_cl {R G B Wh : Int} {H L Sh x y z : UInt64} {M m : Int} (P : PaintOk R G B Wh H L Sh x y z M m) :
    Cl prog w (hd.heap_39 w.params) (n + 3) (.ref 67) [.lst ([R, G, B].map D.int), .int Wh] (.bool true) := by
  have w0 := P.w0
  have w1 := P.w1
  have wb := natAbs_big (a := Wh) (by omega) (by omega)
  refine Cl.def (xs := ["parts", "whole"]) (by rfl) (by rfl) (by rfl) rfl rfl rfl (by rfl) rfl (by rfl) (fun vs hl => len2 (C := fun vs => bindArgs _ ⟨vs, []⟩ = pure (List.zip _ vs)) hl fun a b => rfl) ?_
  dsimp only [List.zip, List.zipWith, List.reverse, List.reverseAux]
  refine Ex.unpack (xs := ["red", "green", "blue"]) (Ev.name rfl rfl) .lst .lst rfl (by rfl) ?_ (fun _ => StL.name (StL.name (StL.name .nil))) (fun _ => rfl) (fun _ => rfl)
  dsimp only [List.zip, List.zipWith, List.reverse, List.reverseAux, List.map, List.cons_append, List.nil_append]
  refine Ex.unpack (xs := ["hue", "light", "share"]) (ds := [.flt H, .flt L, .flt Sh]) (Ev.callFn ⟨rfl, rfl, .inl rfl⟩ rfl rfl (EvL.cons (Ev.tdivI (Ev.name rfl rfl) (Ev.name rfl rfl) (by walk_at "SIDE") P.f1) (EvL.cons (Ev.tdivI (Ev.name rfl rfl) (Ev.name rfl rfl) (by walk_at "SIDE") P.f2) (EvL.cons (Ev.tdivI (Ev.name rfl rfl) (Ev.name rfl rfl) (by walk_at "SIDE") P.f3) EvL.nil))) (P.rgb ▸ rgb_to_hls_cl (n := n + 1) _ _ _ P.h1 P.h2 P.h3)) .tup .tup rfl (by rfl) ?_ (fun _ => StL.name (StL.name (StL.name .nil))) (fun _ => rfl) (fun _ => rfl)
  dsimp only [List.zip, List.zipWith, List.reverse, List.reverseAux, List.map, List.cons_append, List.nil_append]
  have hcomp : ((([D.flt x, .flt y, .flt z] : List D).filter fun _ => true).map (onFD fun u => .int (truncF (roundF Wh u)))) = [R, G, B].map D.int := by
    show [D.int (truncF (roundF Wh x)), .int (truncF (roundF Wh y)), .int (truncF (roundF Wh z))] = _
    rw [P.tx, P.ty, P.tz]; rfl
  refine Ex.ite (b := false) (Tst.cmp (Ev.conv (Ev.neL (a := [R, G, B]) (b := [R, G, B]) (Ev.conv (Ev.comp (fun _ => true) (onFD fun u => .int (truncF (roundF Wh u))) (Ev.callFn ⟨rfl, rfl, .inl rfl⟩ rfl rfl (EvL.cons (Ev.name rfl rfl) (EvL.cons (Ev.name rfl rfl) (EvL.cons (Ev.name rfl rfl) EvL.nil))) (P.hls ▸ hls_to_rgb_cl (n := n) _ _ _)) .tup (by simp [sizeLine]) rfl (by rfl) (.inl rfl) (fun _ _ => Tests.nil) (fun d hd _ => ?_)) (congrArg D.lst hcomp)) (Ev.name rfl rfl)) (by simp))) (fun c => absurd c (by decide)) (fun _ => ?_)
  · have hu : ∃ u, d = .flt u ∧ Float64.isFinite (roundF Wh u) = true := by
      rcases List.mem_cons.mp hd with rfl | hd
      · exact ⟨_, rfl, P.fx⟩
      · rcases List.mem_cons.mp hd with rfl | hd
        · exact ⟨_, rfl, P.fy⟩
        · rcases List.mem_cons.mp hd with rfl | hd
          · exact ⟨_, rfl, P.fz⟩
          · cases hd
    obtain ⟨u, rfl, hu⟩ := hu
    exact Ev.callT ⟨rfl, rfl, .inr ⟨rfl, rfl, by decide⟩⟩ (EvL.cons (Ev.addF (Ev.mulIF (Ev.name rfl rfl) (Ev.name rfl rfl) wb) Ev.flt) EvL.nil) (Cl.intF hu)
  dsimp only [List.cons_append, List.nil_append]
  refine Ex.swap (xs := ["most", "least"]) (ds := [.int M, .int m]) (Ev.tup (EvL.cons (Ev.callB ⟨rfl, rfl, .inr ⟨rfl, rfl, by decide⟩⟩ (EvL.cons (Ev.name rfl rfl) EvL.nil) (Cl.maxL (l := [R, G, B]) .lst P.hM P.hM')) (EvL.cons (Ev.callB ⟨rfl, rfl, .inr ⟨rfl, rfl, by decide⟩⟩ (EvL.cons (Ev.name rfl rfl) EvL.nil) (Cl.minL (l := [R, G, B]) .lst P.hm P.hm')) EvL.nil))) .tup .tup rfl (by rfl) ?_ (hw := byScope fun _ _ _ _ _ _ _ _ => by rfl)
  dsimp only [List.zip, List.zipWith, List.reverse, List.reverseAux, List.map, List.cons_append, List.nil_append]
  have b0 := P.b0
  have b1 := P.b1
  refine Ex.assign (Ev.mulI Ev.int (Ev.subI (Ev.name rfl rfl) (Ev.name rfl rfl)) (by walk_at "SIDE")) (.inl rfl) ?_
  refine Ex.ite (Tst.cmp (Ev.eqI (Ev.name rfl rfl) Ev.int)) (fun c => ?_) (fun c => ?_)
  · have e : M = m := by
      have : 6 * (M - m) = 0 := by simpa using c
      omega
    obtain ⟨e1, e2, e3, e4, e5⟩ := P.g1 e
    refine Ex.ret (Ev.eqT3 (x := 0) (y := L) (z := 0) ?_ ?_ (by rfl) (by decide +kernel) e4 (by decide +kernel))
    · rw [e1, e2]
      exact Ev.tup (EvL.cons (Ev.name rfl rfl) (EvL.cons (Ev.name rfl rfl) (EvL.cons (Ev.name rfl rfl) EvL.nil)))
    · exact Ev.conv (Ev.tup (EvL.cons Ev.flt (EvL.cons (Ev.tdivI (Ev.name rfl rfl) (Ev.name rfl rfl) (by walk_at "SIDE") e5) (EvL.cons Ev.flt EvL.nil)))) (by rw [e3])
  have hne : M ≠ m := by
    intro e
    subst e
    simp at c
  obtain ⟨q1, q2, q3⟩ := P.a1 hne
  have hlt : m < M := by
    have := P.hM' m P.hm
    omega
  refine Ex.assign (Ev.subI (Ev.name rfl rfl) (Ev.name rfl rfl)) (.inl rfl) ?_
  have rb := natAbs_big (a := 6 * (M - m)) (by omega) (by omega)
  have w2b := natAbs_big (a := 2 * Wh) (by omega) (by omega)
  have rmb := natAbs_big (a := min (M + m) (2 * Wh - M - m)) (by omega) (by omega)
  refine Ex.ite (Tst.cmp (Ev.ltI (Ev.name rfl rfl) (Ev.name rfl rfl))) (fun c2 => ?_) (fun c2 => ?_)
  · refine Ex.assign (d1 := .int (if G == M then (6 * (M - m)).fdiv 3 + B - R else (2 * (6 * (M - m))).fdiv 3 + R - G)) (Ev.ifexp (Tst.cmp (Ev.eqI (Ev.name rfl rfl) (Ev.name rfl rfl))) (fun c3 => Ev.conv (Ev.subI (Ev.addI (Ev.divI (Ev.name rfl rfl) Ev.int (by decide) (by decide)) (Ev.name rfl rfl)) (Ev.name rfl rfl)) (by rw [c3]; rfl)) (fun c3 => Ev.conv (Ev.subI (Ev.addI (Ev.divI (Ev.mulI Ev.int (Ev.name rfl rfl) (by walk_at "SIDE")) Ev.int (by decide) (by decide)) (Ev.name rfl rfl)) (Ev.name rfl rfl)) (by rw [c3]; rfl))) (.inl rfl) ?_
    refine Ex.assign (Ev.callB ⟨rfl, rfl, .inr ⟨rfl, rfl, by decide⟩⟩ (EvL.cons (Ev.addI (Ev.name rfl rfl) (Ev.name rfl rfl)) (EvL.cons (Ev.subI (Ev.subI (Ev.mulI Ev.int (Ev.name rfl rfl) (by walk_at "SIDE")) (Ev.name rfl rfl)) (Ev.name rfl rfl)) EvL.nil)) Cl.min2) (.inl rfl) ?_
    refine Ex.assign (Ev.lst (EvL.cons (Ev.modI (Ev.callT ⟨rfl, rfl, .inr ⟨rfl, rfl, by decide⟩⟩ (EvL.cons (Ev.addF (Ev.mulIF (Ev.name rfl rfl) (Ev.name rfl rfl) rb) Ev.flt) EvL.nil) (Cl.intF q1)) (Ev.name rfl rfl) (by omega)) (EvL.cons (Ev.callT ⟨rfl, rfl, .inr ⟨rfl, rfl, by decide⟩⟩ (EvL.cons (Ev.addF (Ev.mulIF (Ev.mulI Ev.int (Ev.name rfl rfl) (by walk_at "SIDE")) (Ev.name rfl rfl) w2b) Ev.flt) EvL.nil) (Cl.intF q2)) (EvL.cons (Ev.callT ⟨rfl, rfl, .inr ⟨rfl, rfl, by decide⟩⟩ (EvL.cons (Ev.addF (Ev.mulIF (Ev.name rfl rfl) (Ev.name rfl rfl) rmb) Ev.flt) EvL.nil) (Cl.intF q3)) EvL.nil)))) (.inl rfl) ?_
    refine Ex.retC (Ev.eqL (a := [(truncF (roundF (6 * (M - m)) H)).fmod (6 * (M - m)), truncF (roundF (2 * Wh) L), truncF (roundF (min (M + m) (2 * Wh - M - m)) Sh)]) (b := [(if G == M then (6 * (M - m)).fdiv 3 + B - R else (2 * (6 * (M - m))).fdiv 3 + R - G).fmod (6 * (M - m)), M + m, M - m]) (Ev.name rfl rfl) (Ev.lst (EvL.cons (Ev.modI (Ev.name rfl rfl) (Ev.name rfl rfl) (by omega)) (EvL.cons (Ev.addI (Ev.name rfl rfl) (Ev.name rfl rfl)) (EvL.cons (Ev.subI (Ev.name rfl rfl) (Ev.name rfl rfl)) EvL.nil))))) ?_
    rw [P.a2 hne, P.a3 hne, P.a4 hne]
    rw [c2]; simp
  · refine Ex.assign (Ev.callB ⟨rfl, rfl, .inr ⟨rfl, rfl, by decide⟩⟩ (EvL.cons (Ev.addI (Ev.name rfl rfl) (Ev.name rfl rfl)) (EvL.cons (Ev.subI (Ev.subI (Ev.mulI Ev.int (Ev.name rfl rfl) (by walk_at "SIDE")) (Ev.name rfl rfl)) (Ev.name rfl rfl)) EvL.nil)) Cl.min2) (.inl rfl) ?_
    refine Ex.assign (Ev.lst (EvL.cons (Ev.modI (Ev.callT ⟨rfl, rfl, .inr ⟨rfl, rfl, by decide⟩⟩ (EvL.cons (Ev.addF (Ev.mulIF (Ev.name rfl rfl) (Ev.name rfl rfl) rb) Ev.flt) EvL.nil) (Cl.intF q1)) (Ev.name rfl rfl) (by omega)) (EvL.cons (Ev.callT ⟨rfl, rfl, .inr ⟨rfl, rfl, by decide⟩⟩ (EvL.cons (Ev.addF (Ev.mulIF (Ev.mulI Ev.int (Ev.name rfl rfl) (by walk_at "SIDE")) (Ev.name rfl rfl) w2b) Ev.flt) EvL.nil) (Cl.intF q2)) (EvL.cons (Ev.callT ⟨rfl, rfl, .inr ⟨rfl, rfl, by decide⟩⟩ (EvL.cons (Ev.addF (Ev.mulIF (Ev.name rfl rfl) (Ev.name rfl rfl) rmb) Ev.flt) EvL.nil) (Cl.intF q3)) EvL.nil)))) (.inl rfl) ?_
    refine Ex.retC (Ev.eqL (a := [(truncF (roundF (6 * (M - m)) H)).fmod (6 * (M - m)), truncF (roundF (2 * Wh) L), truncF (roundF (min (M + m) (2 * Wh - M - m)) Sh)]) (b := [(G - B).fmod (6 * (M - m)), M + m, M - m]) (Ev.name rfl rfl) (Ev.lst (EvL.cons (Ev.modI (Ev.name rfl rfl) (Ev.name rfl rfl) (by omega)) (EvL.cons (Ev.addI (Ev.name rfl rfl) (Ev.name rfl rfl)) (EvL.cons (Ev.subI (Ev.name rfl rfl) (Ev.name rfl rfl)) EvL.nil))))) ?_
    rw [P.a2 hne, P.a3 hne, P.a4 hne]
    rw [c2]; simp
end Mine

end
section
open PySem PySem.W PySem.Calls PyProof.Rows PySem.SeqAt
set_option Elab.async false
set_option maxRecDepth 100000
set_option maxHeartbeats 1000000
namespace Mine
/-! texts as lists of signs -/
def mkS (l : List Nat) : Str := ⟨l.toArray⟩
theorem mkS_append (a b : List Nat) : mkS a ++ mkS b = mkS (a ++ b) := by
  show (⟨a.toArray ++ b.toArray⟩ : Str) = ⟨(a ++ b).toArray⟩
  simp
theorem mkS_length (a : List Nat) : (mkS a).length = a.length := by show a.toArray.size = _; simp
theorem mkS_cps (a : List Nat) : (mkS a).cps.toList = a := by simp [mkS]
theorem foldl_app (x : List Nat) : ∀ (k : Nat) (acc : List Nat), (List.replicate k x.toArray).foldl (· ++ ·) acc.toArray = (acc ++ (List.replicate k x).flatten).toArray
  | 0, acc => by simp
  | k + 1, acc => by
    rw [List.replicate_succ, List.replicate_succ, List.foldl_cons, List.append_toArray, foldl_app x k]
    simp
theorem mkS_mul (a : List Nat) (n : Nat) : Txt.mul (mkS a) (n : Int) = mkS (List.replicate n a).flatten := by
  unfold Txt.mul
  by_cases h0 : (n : Int) < 1
  · rw [if_pos h0]
    have : n = 0 := by omega
    subst this
    rfl
  · rw [if_neg h0]
    by_cases h1 : ((n : Int) == 1 || (mkS a).length == 0) = true
    · rw [if_pos h1]
      rcases Bool.or_eq_true_iff.mp h1 with h | h
      · have : n = 1 := by
          have := beq_iff_eq.mp h
          omega
        subst this
        simp
      · rw [mkS_length] at h
        have : a = [] := List.eq_nil_of_length_eq_zero (beq_iff_eq.mp h)
        subst this
        simp
    · rw [if_neg h1]
      have := foldl_app a n []
      simp only [List.nil_append] at this
      show (⟨(List.replicate (n : Int).toNat a.toArray).foldl (· ++ ·) #[]⟩ : Str) = _
      rw [Int.toNat_natCast]
      rw [show (#[] : Array Nat) = ([] : List Nat).toArray from rfl, this]
      rfl
theorem mulOk_mkS {a : List Nat} {n : Nat} (h : a.length * n ≤ sizeLine) (hn : n < 2 ^ 24) : MulOk (mkS a) (n : Int) := by
  unfold MulOk
  rw [mkS_length]
  refine ⟨by simp; omega, fun h1 _ => ?_, fun _ _ => ?_⟩
  · have hn0 : (0 : Int) < n := by omega
    have e : sizeLine = 2 ^ 24 := rfl
    have h2 : ((a.length * n : Nat) : Int) ≤ 2 ^ 24 := by omega
    have : (a.length : Int) ≤ (2 ^ 63 - 1) / n := Int.le_ediv_of_mul_le hn0 (by push_cast at h2; omega)
    omega
  · show Builtin.Str.tooLong (a.length * (n : Int).toNat) = false
    rw [Int.toNat_natCast]
    simp [Builtin.Str.tooLong]; omega

/-! _law_written, plainly -/
def wordL (k : Int) : List Nat := if k = 0 then [97] else if k = 1 then [66] else if k = 2 then [97, 66] else [66, 65]
def capL (k : Int) : List Nat := if k = 0 then [65] else if k = 1 then [66] else if k = 2 then [65, 98] else [66, 97]
def lowL (k : Int) : List Nat := if k = 0 then [97] else if k = 1 then [98] else if k = 2 then [97, 98] else [98, 97]
def runOf (x : Int) : Nat := (1 + x.fmod 6).toNat
def kindOfW (x : Int) : Int := (x.fdiv 6).fmod 4
def bigW (mk : Option Nat) (r : Nat) : Bool := match mk with
  | none => true
  | some k => r % k == 0
def gapW (mk : Option Nat) (r : Nat) : Nat := match mk with
  | none => 1
  | some _ => r
def stepW (mk : Option Nat) (st : List Nat × List Nat × List Int) (x : Int) : List Nat × List Nat × List Int :=
  let r := runOf x
  let u1 := st.2.1 ++ List.replicate (gapW mk r) 32
  (st.1 ++ (List.replicate r 32 ++ wordL (kindOfW x)), u1 ++ (if bigW mk r then capL (kindOfW x) else lowL (kindOfW x)), if bigW mk r then st.2.2 ++ [(u1.length : Int)] else st.2.2)
def writtenW (mk : Option Nat) (xs : List Int) : List Nat × List Nat × List Int := xs.foldl (stepW mk) ([], [], [])
def mkD (mk : Option Nat) : D := match mk with
  | none => .none
  | some k => .str (mkS (List.replicate k 32))

theorem runOf_le (x : Int) : 1 ≤ runOf x ∧ runOf x ≤ 6 ∧ (runOf x : Int) = 1 + x.fmod 6 := by
  unfold runOf
  rw [Int.fmod_eq_emod_of_nonneg _ (by decide)]
  obtain ⟨n, hn⟩ := Int.eq_ofNat_of_zero_le (Int.emod_nonneg x (by decide : (6 : Int) ≠ 0))
  have h := Int.emod_lt_of_pos x (by decide : (0 : Int) < 6)
  rw [hn] at h ⊢
  have e : (1 + (n : Int)).toNat = n + 1 := by rw [Int.add_comm]; rfl
  rw [e]
  exact ⟨Nat.succ_le_succ (Nat.zero_le n), Int.ofNat_lt.mp h, by rw [Int.natCast_add]; exact Int.add_comm _ _⟩
theorem kindOfW_le (x : Int) : kindOfW x = 0 ∨ kindOfW x = 1 ∨ kindOfW x = 2 ∨ kindOfW x = 3 := by
  unfold kindOfW
  rw [Int.fmod_eq_emod_of_nonneg _ (by decide)]; exact mod4 _
theorem word_ind {C : List Nat → List Nat → List Nat → Prop} (k : Int) (h1 : C [97] [65] [97]) (h2 : C [66] [66] [98]) (h3 : C [97, 66] [65, 98] [97, 98]) (h4 : C [66, 65] [66, 97] [98, 97]) : C (wordL k) (capL k) (lowL k) := by
  unfold wordL capL lowL
  by_cases a : k = 0
  · rw [if_pos a, if_pos a, if_pos a]; exact h1
  · rw [if_neg a, if_neg a, if_neg a]
    by_cases b : k = 1
    · rw [if_pos b, if_pos b, if_pos b]; exact h2
    · rw [if_neg b, if_neg b, if_neg b]
      by_cases c : k = 2
      · rw [if_pos c, if_pos c, if_pos c]; exact h3
      · rw [if_neg c, if_neg c, if_neg c]; exact h4
theorem wordL_len (k : Int) : 1 ≤ (wordL k).length ∧ (wordL k).length ≤ 2 := word_ind (C := fun w _ _ => 1 ≤ w.length ∧ w.length ≤ 2) k (by decide) (by decide) (by decide) (by decide)
theorem capL_len (k : Int) : (capL k).length = (wordL k).length ∧ (lowL k).length = (wordL k).length := word_ind (C := fun w c l => c.length = w.length ∧ l.length = w.length) k ⟨rfl, rfl⟩ ⟨rfl, rfl⟩ ⟨rfl, rfl⟩ ⟨rfl, rfl⟩
theorem step_len (mk : Option Nat) (st : List Nat × List Nat × List Int) (x : Int) : (stepW mk st x).1.length ≤ st.1.length + 8 ∧ (stepW mk st x).2.1.length ≤ st.2.1.length + 8 ∧ (stepW mk st x).2.2.length ≤ st.2.2.length + 1 := by
  have h1 := (runOf_le x).2.1
  have h2 := (wordL_len (kindOfW x)).2
  have h3 := capL_len (kindOfW x)
  have hg : gapW mk (runOf x) ≤ 6 := by
    cases mk with
    | none => exact (by decide : 1 ≤ 6)
    | some k => exact h1
  unfold stepW
  dsimp only
  refine ⟨?_, ?_, ?_⟩
  · rw [List.length_append, List.length_append, List.length_replicate]
    exact Nat.add_le_add_left (Nat.add_le_add h1 h2) _
  · rw [List.length_append, List.length_append, List.length_replicate, Nat.add_assoc]
    show _ ≤ st.2.1.length + (6 + 2)
    refine Nat.add_le_add_left (Nat.add_le_add hg ?_) _
    cases bigW mk (runOf x)
    · rw [if_neg (by decide), h3.2]; exact h2
    · rw [if_pos rfl, h3.1]; exact h2
  · cases bigW mk (runOf x)
    · rw [if_neg (by decide)]; exact Nat.le_succ _
    · rw [if_pos rfl, List.length_append]; exact Nat.le_refl _
theorem written_len (mk : Option Nat) (xs : List Int) : (writtenW mk xs).1.length ≤ 8 * xs.length ∧ (writtenW mk xs).2.1.length ≤ 8 * xs.length ∧ (writtenW mk xs).2.2.length ≤ xs.length := by
  suffices h : ∀ (xs : List Int) (st : List Nat × List Nat × List Int), (xs.foldl (stepW mk) st).1.length ≤ 8 * xs.length + st.1.length ∧ (xs.foldl (stepW mk) st).2.1.length ≤ 8 * xs.length + st.2.1.length ∧ (xs.foldl (stepW mk) st).2.2.length ≤ xs.length + st.2.2.length from h xs ([], [], [])
  intro xs
  induction xs with
  | nil => intro st; exact ⟨Nat.le_add_left _ _, Nat.le_add_left _ _, Nat.le_add_left _ _⟩
  | cons x xs ih =>
    intro st
    obtain ⟨a1, a2, a3⟩ := ih (stepW mk st x)
    obtain ⟨b1, b2, b3⟩ := step_len mk st x
    rw [List.foldl_cons, List.length_cons, Nat.mul_succ, Nat.add_assoc, Nat.add_assoc, Nat.add_assoc, Nat.add_comm 8, Nat.add_comm 8, Nat.add_comm 1]
    exact ⟨Nat.le_trans a1 (Nat.add_le_add_left b1 _), Nat.le_trans a2 (Nat.add_le_add_left b2 _), Nat.le_trans a3 (Nat.add_le_add_left b3 _)⟩
end Mine

end
section
open PySem PySem.W PySem.Calls PyProof.Rows PySem.SeqAt
set_option Elab.async false
set_option maxRecDepth 100000
set_option maxHeartbeats 4000000
namespace Mine
variable {prog : Program} {w : World} {n : Nat} {K : Frag} {sc : Scope} {ρ ρ' : Rho} {Pa : Addr} {vs : List Value}

theorem Et.conv {st : List Stmt} {Φ Φ' : List Value → Prop} {ρ'' : Rho} (h : Et prog w K n sc Pa ρ vs st ρ' Φ) (e : ∀ u, Φ u → Φ' u) (er : ρ' = ρ'') : Et prog w K n sc Pa ρ vs st ρ'' Φ' := by
  subst er
  intro A s₀ s env S B R X a
  exact wpAny_mono (h A s₀ s env S B R X a) (fun fl s' q => ⟨q.1, let ⟨u, q1, q2⟩ := q.2.1; ⟨u, e u q1, q2⟩, q.2.2⟩) fun _ _ x => x

theorem sub_of {ρ1 ρ2 : Rho} (h : ∀ p ∈ ρ1, ρ2.lookup p.1 = some p.2) : ∀ x d, ρ1.lookup x = some d → ρ2.lookup x = some d := fun _ _ e => h _ (mem_of_lookup e)

theorem Tst.conv {e : Expr} {b b' : Bool} (h : Tst prog w K n sc ρ e b) (eb : b = b') : Tst prog w K n sc ρ e b' := eb ▸ h

theorem At.item {S : Addr → Prop} {s₀ s : Shared} {env : Env} {h' : Heap} {tk : Nat} {wr : List Addr} (a : At S s₀ s env Pa ρ vs) (hw : ∀ b ∈ wr, s₀.heap.get? b = none ∧ b ≠ env.locals ∧ b ≠ Pa) (hk : ∀ b o, b ∉ wr → s.heap.get? b = some o → h'.get? b = some o) (ht : s.toks ≤ tk)
    (hnd : ∀ b ∈ wr, ∀ o, s.heap.get? b = some o → ¬ isDo o) : At S s₀ { s with heap := h', toks := tk } env Pa ρ vs := by
  have ks : KeepSeq s.heap h' := fun b o e hD => hk b o (fun hb => hnd b hb o e hD) e
  have hL : env.locals ∉ wr := fun q => (hw _ q).2.1 rfl
  have hP : Pa ∉ wr := fun q => (hw _ q).2.2 rfl
  refine ⟨a.sm.tr ⟨⟨_, _, rfl⟩, ht⟩, ⟨fun b o e => hk b o (fun q => by rw [(hw b q).1] at e; cases e) (a.f.ext b o e), a.f.fresh, ?_, a.f.cellk, fun z c hz => (by rw [a.cells z] at hz; cases hz), a.f.cfresh, a.f.apart, fun z d hz => ?_⟩, a.l.at fun o e => hk _ o hP e, a.new, a.loc, a.cells⟩
  · obtain ⟨m, q⟩ := a.f.ns
    exact ⟨m, q.at' fun o e => hk _ o hL e⟩
  · obtain ⟨u, l, q⟩ := a.f.ok z d hz
    refine ⟨u, ?_, q.keep ks⟩
    rcases l with ⟨y1, m2, y2, y3⟩ | ⟨y1, y2, c, e1, e2⟩
    · exact .inl ⟨y1, m2, y2.at' fun o e => hk _ o hL e, y3⟩
    · rw [a.cells z] at e1; cases e1

theorem denL_ints {S : Addr → Prop} {h : Heap} : ∀ {vs : List Value} {l : List Int}, IntsAre vs l → DenL S h vs (l.map D.int)
  | _, _, .nil => .nil
  | _, _, .cons _ _ r => .cons .int (denL_ints r)
theorem intsAre_snoc : ∀ {vs : List Value} {l : List Int}, IntsAre vs l → ∀ (i : Int) (t : Tok), IntsAre (vs ++ [.int i t]) (l ++ [i])
  | _, _, .nil, i, t => .cons i t .nil
  | _, _, .cons j u r, i, t => .cons j u (intsAre_snoc r i t)
theorem intsAre_len : ∀ {vs : List Value} {l : List Int}, IntsAre vs l → vs.length = l.length
  | _, _, .nil => rfl
  | _, _, .cons _ _ r => by simp [intsAre_len r]

theorem lookup_words {a b c d : D} {k : Int} (hk : k = 0 ∨ k = 1 ∨ k = 2 ∨ k = 3) : ([a, b, c, d] : List D)[k.toNat]? = some (if k = 0 then a else if k = 1 then b else if k = 2 then c else d) := by
  rcases hk with rfl | rfl | rfl | rfl <;> rfl

def stN (mk : Option Nat) (xs : List Int) (i : Nat) : List Nat × List Nat × List Int := writtenW mk (xs.take i)
theorem stN_succ {mk : Option Nat} {xs : List Int} {i : Nat} {x : Int} (h : xs[i]? = some x) : stN mk xs (i + 1) = stepW mk (stN mk xs i) x := by
  have hi := (List.getElem?_eq_some_iff.mp h).1
  have e : xs.take (i + 1) = xs.take i ++ [x] := by
    rw [List.take_succ_eq_append_getElem hi, (List.getElem?_eq_some_iff.mp h).2]
  unfold stN writtenW
  rw [e, List.foldl_append]; rfl

def rhoN (mk : Option Nat) (xs : List Int) (Pa : Addr) (st : List Nat × List Nat × List Int) : Rho :=
  [("text", .str (mkS st.1)), ("due", .str (mkS st.2.1)), ("places", .obj Pa), ("mark", mkD mk), ("drawn", .lst (xs.map D.int))]

structure LoopInv (S : Addr → Prop) (s₀ : Shared) (env : Env) (Pa : Addr) (ρN : Nat → Rho) (Φ : Nat → List Value → Prop) (St : Nat → Heap → Prop) (len : Nat) (s' : Shared) (i : Nat) (vs : List Value) : Prop where
  le : i ≤ len
  at_ : At S s₀ s' env Pa (ρN i) vs
  ph : Φ i vs
  st : St i s'.heap
/-- a loop over ints, in a frame with a list of its own -/
theorem loop_at {S : Addr → Prop} {A : Around} {s₀ s : Shared} {env : Env} {K : Frag} {l : List Int} {ρN : Nat → Rho} {ρB : Nat → Int → Rho} {Φ : Nat → List Value → Prop} {xn : Str} {xp pos : Pos} {it : Expr} {body rest : List Stmt} {Q : Flow → Shared → Prop}
    (B : EnvB sc env) (R : Room n A) (X : Base K S s₀) (a0 : At S s₀ s env Pa (ρN 0) []) (h0 : Φ 0 []) (hxn : nameOk sc xn = true) (he : Ev prog w K n sc (ρN 0) it (.lst (l.map D.int)))
    (hb : ∀ i x vs, l[i]? = some x → Φ i vs → Et prog w K n sc Pa ((xn, .int x) :: ρN i) vs body (ρB i x) (fun u => Φ (i + 1) u))
    (hw : ∀ i x, l[i]? = some x → ∀ z d, (ρN (i + 1)).lookup z = some d → (ρB i x).lookup z = some d)
    (hr : ∀ s' vs, At S s₀ s' env Pa (ρN l.length) vs → Φ l.length vs → wpAny (model prog w) A (execs rest env) Q No s')
    (hs : ∀ env v, foldedSetIterable it env v = pure v := by intro _ _; rfl) :
    wpAny (model prog w) A (execs (.For (.Name xn xp) it body [] pos :: rest) env) Q No s := by
  refine wpAny_execs_cons (wpAny_For ((he A s env _ B R (a0.base X) a0.f.ok).then fun dv s6 k6 q6 => ?_) (hs := hs env))
  have at7 := a0.mv k6
  have hnL : ∀ b, (at7.f.ext) = (at7.f.ext) → s6.heap.get? b = none → s₀.heap.get? b = none ∧ b ≠ env.locals ∧ b ≠ Pa := by
    intro b _ h0
    refine ⟨?_, fun e => ?_, fun e => ?_⟩
    · cases e : s₀.heap.get? b with
      | none => rfl
      | some o => rw [at7.f.ext b o e] at h0; cases h0
    · obtain ⟨m0, o, _, _, ho, _⟩ := at7.f.ns
      rw [e, ho] at h0; cases h0
    · obtain ⟨q, ho⟩ := at7.l
      rw [e, ho] at h0; cases h0
  obtain ⟨Da, dvs, rfl, hDa, hDp, hDl⟩ := q6.lst_inv
  have hDL : Da ≠ env.locals := fun e => by
    obtain ⟨q, e1⟩ := hDp
    obtain ⟨m0, o, _, _, ho, hdd, _⟩ := at7.f.ns
    rw [e, ho] at e1
    rw [Option.some.inj e1] at hdd; cases hdd
  have hDP : Da ≠ Pa := fun e => hDa (Or.inr e)
  refine iter_den R.hd q6 .lst fun I fp wr P St s7 W hst hfp hwr k7 hP hnd hfv => ?_
  clear hDl hDp hDa q6
  have hwr' : ∀ b ∈ wr, s₀.heap.get? b = none ∧ b ≠ env.locals ∧ b ≠ Pa := fun b hb => hnL b rfl (hwr b hb)
  have hLf : env.locals ∉ fp := fun h => (hfv _ h).elim (fun h => (hwr' _ h).2.1 rfl) fun h => hDL (by cases h; rfl)
  have hPf : Pa ∉ fp := fun h => (hfv _ h).elim (fun h => (hwr' _ h).2.2 rfl) fun h => hDP (by cases h; rfl)
  rw [List.length_map] at W
  refine codeAny_forLoop (fun k s' => ∃ i vs, k = l.length + 1 - i ∧ LoopInv S s₀ env Pa ρN Φ St l.length s' i vs) ?_ (l.length + 1) ⟨0, [], rfl, ⟨Nat.zero_le _, at7.mv k7, h0, hst⟩⟩
  clear hst k7 at7 k6 a0 h0 hnL hfv hwr he hDL hDP
  intro k s' hI
  refine hide fun Q' hQ => ?_
  obtain ⟨i, vs, ek, ⟨hi, at9, hv, hst9⟩⟩ := hI
  by_cases hlt : i < l.length
  · refine wpAny_with_toks (n := s'.toks) (Nat.le_refl _) (W.item i s' _ _ hlt hst9 fun v h₁ tk₁ hPv hst₁ hk₁ ht₁ => hQ _ _ ?_)
    clear hQ Q'
    obtain ⟨d, hd', qd⟩ := hP i v hPv
    rw [List.getElem?_map] at hd'
    obtain ⟨x, hx, rfl⟩ := Option.map_eq_some_iff.mp hd'
    have at10 := at9.item hwr' hk₁ ht₁ (hnd i s'.heap hst9)
    refine wpAny_assign_Name (at10.store B hxn (d := .int x) (elim_int x (C := fun v => Den (Plus S Pa) h₁ v (.int x)) qd fun t => .int) fun s11 at11 o11 _ => ?_)
    refine wpAny_mono (hb i x vs hx hv A s₀ s11 env S B R X at11) (fun fl s12 h => ?_) (fun _ _ h => h.elim)
    obtain ⟨rfl, ⟨vs', hΦ, at12⟩, o12⟩ := h
    refine ⟨l.length + 1 - (i + 1), turn_lt hlt ek, i + 1, vs', rfl, ⟨hlt, at12.weak (hw i x hx), hΦ, W.frame _ _ _ hst₁ fun b hb o e => ?_⟩⟩
    exact o12 b o (fun z => hLf (z ▸ hb)) (fun z => hPf (z ▸ hb)) (o11 b o (fun z => hLf (z ▸ hb)) (fun z => hPf (z ▸ hb)) e)
  · have hin : i = l.length := Nat.le_antisymm hi (Nat.not_lt.mp hlt)
    have hnd' := hnd i s'.heap hst9
    rw [hin] at at9 hv hst9
    refine wpAny_with_toks (n := s'.toks) (Nat.le_refl _) (W.done s' _ _ hst9 fun h₁ tk₁ hk₁ ht₁ => hQ _ _ ?_)
    exact wpAny_execs_nil (hr _ vs (at9.item hwr' hk₁ ht₁ hnd') hv)
theorem elim_inv_str {S : Addr → Prop} {h : Heap} {v : Value} {x : Str} (q : Den S h v (.str x)) : ∃ t, v = .str x t := elim_str x (C := fun v => ∃ t, v = .str x t) q fun t => ⟨t, rfl⟩
theorem elim_inv_int {S : Addr → Prop} {h : Heap} {v : Value} {x : Int} (q : Den S h v (.int x)) : ∃ t, v = .int x t := elim_int x (C := fun v => ∃ t, v = .int x t) q fun t => ⟨t, rfl⟩
theorem blanks_mul (r : Nat) : Txt.mul (Str.ofString " ") (r : Int) = mkS (List.replicate r 32) := by
  rw [show Str.ofString " " = mkS [32] from rfl, mkS_mul]
  congr 1
  induction r with
  | zero => rfl
  | succ r ih => rw [List.replicate_succ, List.replicate_succ, List.flatten_cons, ih]; rfl
theorem blanks_ok {r : Nat} (h : r ≤ 6) : MulOk (Str.ofString " ") (r : Int) := by
  rw [show Str.ofString " " = mkS [32] from rfl]
  exact mulOk_mkS (Nat.le_trans (Nat.mul_le_mul_left 1 h) (by decide)) (Nat.lt_of_le_of_lt h (by decide))
theorem gap_le {mk : Option Nat} {r : Nat} (h : r ≤ 6) : gapW mk r ≤ 6 := by
  cases mk with
  | none => exact (by decide : 1 ≤ 6)
  | some k => exact h
theorem fits2 {a b : Nat} (ha : a ≤ 600) (hb : b ≤ 600) : a + b ≤ sizeLine := Nat.le_trans (Nat.add_le_add ha hb) (by decide)
def bodyRho (mk : Option Nat) (Pa : Addr) (d0 : D) (T U : List Nat) (r : Nat) (kd x : Int) : Rho :=
  [("due", .str (mkS (U ++ List.replicate (gapW mk r) 32 ++ (if bigW mk r then capL kd else lowL kd)))), ("due", .str (mkS (U ++ List.replicate (gapW mk r) 32))), ("text", .str (mkS (T ++ (List.replicate r 32 ++ wordL kd)))), ("run", .int r), ("kind", .int kd), ("x", .int x), ("text", .str (mkS T)), ("due", .str (mkS U)), ("places", .obj Pa), ("mark", mkD mk), ("drawn", d0)]
theorem at_word {k : Int} (hk : k = 0 ∨ k = 1 ∨ k = 2 ∨ k = 3) : ([.str "a", .str "B", .str "aB", .str "BA"] : List D)[k.toNat]? = some (.str (mkS (wordL k))) := by
  rcases hk with rfl | rfl | rfl | rfl <;> rfl
theorem at_cap {k : Int} (hk : k = 0 ∨ k = 1 ∨ k = 2 ∨ k = 3) : ([.str "A", .str "B", .str "Ab", .str "Ba"] : List D)[k.toNat]? = some (.str (mkS (capL k))) := by
  rcases hk with rfl | rfl | rfl | rfl <;> rfl
theorem at_low {k : Int} (hk : k = 0 ∨ k = 1 ∨ k = 2 ∨ k = 3) : ([.str "a", .str "b", .str "ab", .str "ba"] : List D)[k.toNat]? = some (.str (mkS (lowL k))) := by
  rcases hk with rfl | rfl | rfl | rfl <;> rfl
theorem Et.augM {x : Str} {xp pos : Pos} {e : Expr} {rest : List Stmt} {a b : List Nat} {Φ : List Value → Prop} (hx : ρ.lookup x = some (.str (mkS a))) (he : Ev prog w K n sc ρ e (.str (mkS b))) (hk : nameOk sc x = true) (ha : a.length ≤ 600) (hb : b.length ≤ 600)
    (hr : Et prog w K n sc Pa ((x, .str (mkS (a ++ b))) :: ρ) vs rest ρ' Φ) : Et prog w K n sc Pa ρ vs (.AugAssign (.Name x xp) .Add e pos :: rest) ρ' Φ :=
  Et.augS hx he hk (by rw [mkS_length, mkS_length]; exact fits2 ha hb) (by rw [mkS_append]; exact hr)
theorem at_open {S : Addr → Prop} {s₀ s s2 : Shared} {env : Env} {Pa : Addr} {ρ : Rho} (F : FrOk S s₀.heap s.heap env ρ) (m : Sm s₀ s) (k : Kp s s2) (hPa : s.heap.get? Pa = none) (hp : s2.heap.PlainList Pa (List.toArray [])) (hcells : ∀ z, env.cells.lookup z = none) : At S s₀ s2 env Pa ρ [] := by
  have F2 := F.mv (kx k)
  refine ⟨m.tr (Sm.of k), ⟨F2.ext, F2.fresh, F2.ns, F2.cellk, F2.cell, F2.cfresh, F2.apart, fun x d hx => ?_⟩, hp, ?_, fun e => ?_, hcells⟩
  · obtain ⟨u, l, q⟩ := F.ok x d hx
    refine ⟨u, l.ext (kx k), Den.ext (kx k) (q.more fun a o h e => h.elim id fun h => ?_)⟩
    rw [h, hPa] at e; cases e
  · cases e : s₀.heap.get? Pa with
    | none => rfl
    | some o => rw [F.ext Pa o e] at hPa; cases hPa
  · obtain ⟨m0, o, _, _, ho, _⟩ := F.ns
    rw [e, ho] at hPa; cases hPa
theorem at_close {S : Addr → Prop} {K : Frag} {s₀ s : Shared} {env : Env} {Pa : Addr} {ρ : Rho} {vs : List Value} {x y z : Str} {t u : Str} {ps : List Int} (X : Base K S s₀) (a : At S s₀ s env Pa ρ vs) (hv : IntsAre vs ps) (hx : ρ.lookup x = some (.str t)) (hy : ρ.lookup y = some (.str u)) (hz : ρ.lookup z = some (.obj Pa)) :
    FrOk S s₀.heap s.heap env [(x, .str t), (y, .str u), (z, .lst (ps.map D.int))] := by
  have f := a.f
  have l := a.l
  have hSP : ¬ S Pa := fun q => by
    obtain ⟨o, e⟩ := X.so Pa q
    rw [a.new] at e; cases e
  have str : ∀ {z : Str} {p : Str}, ρ.lookup z = some (.str p) → ∃ v, Look s.heap env z v ∧ Den S s.heap v (.str p) := fun {z p} hz => by
    obtain ⟨v, l, q⟩ := f.ok z _ hz
    obtain ⟨t, rfl⟩ := elim_inv_str q
    exact ⟨_, l, .str⟩
  clear a X
  refine ⟨f.ext, f.fresh, f.ns, f.cellk, f.cell, f.cfresh, f.apart, fun w d hw => ?_⟩
  have hm := mem_of_lookup hw
  simp only [List.mem_cons, List.not_mem_nil, or_false, Prod.mk.injEq] at hm
  rcases hm with ⟨rfl, rfl⟩ | ⟨rfl, rfl⟩ | ⟨rfl, rfl⟩
  · exact str hx
  · exact str hy
  · obtain ⟨v, lk, q⟩ := f.ok _ _ hz
    cases q
    exact ⟨_, lk, .lst hSP l (denL_ints hv)⟩
theorem written_cl (mk : Option Nat) (hmk : ∀ k, mk = some k → 1 ≤ k ∧ k < 2 ^ 20) (xs : List Int) (hxs : xs.length ≤ 64) :
    Cl prog w (hd.heap_39 w.params) (n + 1) (.ref 57) [.lst (xs.map D.int), mkD mk] (.tup [.str (mkS (writtenW mk xs).1), .str (mkS (writtenW mk xs).2.1), .lst ((writtenW mk xs).2.2.map D.int)]) := by
  refine Cl.def' (xs := ["drawn", "mark"]) (by rfl) (by rfl) (by rfl) rfl rfl rfl (by rfl) rfl (by rfl) (fun vs hl => len2 (C := fun vs => bindArgs _ ⟨vs, []⟩ = pure (List.zip _ vs)) hl fun a b => rfl) (fun A s₀ s env S B hcl R X m F => hide fun Q hQ => ?_)
  have hcells : ∀ z, env.cells.lookup z = none := fun z => by rw [hcl]; rfl
  dsimp only [List.zip, List.zipWith, List.reverse, List.reverseAux] at F
  have X1 : Base (hd.heap_39 w.params) (fun a => ∃ o, s.heap.get? a = some o) s := by
    have := F.base X m
    exact ⟨this.k, this.b, this.nl, this.g, this.t, fun a h => h⟩
  refine wpAny_execs_cons (Assign_Tuple_swapped (names := ["text", "due", "places"]) (((Ev.tup (prog := prog) (w := w) (n := n) (ρ := []) (EvL.cons Ev.str (EvL.cons Ev.str (EvL.cons (Ev.lst EvL.nil) EvL.nil))) : Ev _ _ _ _ _ _ _ _) A s env _ B R X1 (fun x d h => nomatch h)).then fun v s1 k1 q1 => ?_) (by rfl) (byScope (fun _ _ _ _ _ _ _ _ => by rfl) env B))
  refine wp_unpack (ds := [_, _, _]) R.hd q1 .tup .tup fun us s2 k2 q2 => ?_
  obtain ⟨u1, u2, u3, rfl, a1, a2, a3⟩ := q2.three
  obtain ⟨t1, rfl⟩ := elim_inv_str a1
  obtain ⟨t2, rfl⟩ := elim_inv_str a2
  obtain ⟨Pa, vs0, rfl, hS, hp, hl⟩ := a3.lst_inv
  rw [List.eq_nil_of_length_eq_zero hl.length] at hp
  have hPa : s.heap.get? Pa = none := by
    cases e : s.heap.get? Pa with
    | none => rfl
    | some o => exact absurd ⟨o, e⟩ hS
  have a0 := at_open F m (kt k1 k2) hPa (hp.at fun o e => kx k2 _ o e) hcells
  clear a1 a2 a3 q1 q2 X1 F m k1 k2 hS hp hl hcl hcells hPa vs0
  show wpAny _ A (do holding _ (bindName env "places" (.ref Pa)); holding _ (bindName env "due" _); holding _ (bindName env "text" _); pure ()) _ _ s2
  refine wpAny_bind (wpAny_holding (wpAny_bindName (a0.store B (by rfl) .obj fun s3 at3 o3 _ => ?_)))
  refine wpAny_bind (wpAny_holding (wpAny_bindName (at3.store B (by rfl) .str fun s4 at4 o4 _ => ?_)))
  refine wpAny_bind (wpAny_holding (wpAny_bindName (at4.store B (by rfl) .str fun s5 at5 o5 _ => ?_)))
  refine wpAny_pure ?_
  clear at4 at3 a0 o3 o4 o5
  refine loop_at (l := xs) (ρN := fun i => rhoN mk xs Pa (stN mk xs i)) (ρB := fun i x => bodyRho mk Pa (.lst (xs.map D.int)) (stN mk xs i).1 (stN mk xs i).2.1 (runOf x) (kindOfW x) x) (Φ := fun i u => IntsAre u (stN mk xs i).2.2) B R X at5 .nil (by rfl) (Ev.name rfl rfl) (fun i x vs hx hv => ?_) (fun i x hx => ?_) (fun s' vs a hv => ?_)
  · rw [stN_succ hx]
    have hlen : (stN mk xs i).1.length ≤ 512 ∧ (stN mk xs i).2.1.length ≤ 512 ∧ (stN mk xs i).2.2.length ≤ 64 := by
      have h1 := written_len mk (xs.take i)
      have h2 : (xs.take i).length ≤ 64 := Nat.le_trans (by rw [List.length_take]; exact Nat.min_le_right _ _) hxs
      exact ⟨Nat.le_trans h1.1 (Nat.mul_le_mul_left 8 h2), Nat.le_trans h1.2.1 (Nat.mul_le_mul_left 8 h2), Nat.le_trans h1.2.2 h2⟩
    have hvl := intsAre_len hv
    obtain ⟨hr1, hr2, hr3⟩ := runOf_le x
    have hkk := kindOfW_le x
    have hk0 : kindOfW x = (x.fdiv 6).fmod 4 := rfl
    show Et prog w _ n _ Pa [("x", .int x), ("text", .str (mkS (stN mk xs i).1)), ("due", .str (mkS (stN mk xs i).2.1)), ("places", .obj Pa), ("mark", mkD mk), ("drawn", .lst (xs.map D.int))] vs _ (bodyRho mk Pa (.lst (xs.map D.int)) (stN mk xs i).1 (stN mk xs i).2.1 (runOf x) (kindOfW x) x)
      (fun u => IntsAre u (if bigW mk (runOf x) then (stN mk xs i).2.2 ++ [((((stN mk xs i).2.1 ++ List.replicate (gapW mk (runOf x)) 32).length : Nat) : Int)] else (stN mk xs i).2.2))
    generalize (stN mk xs i).1 = T at *
    generalize (stN mk xs i).2.1 = U at *
    generalize (stN mk xs i).2.2 = P at *
    generalize runOf x = r at *
    generalize kindOfW x = kd at *
    generalize D.lst (xs.map D.int) = d0 at *
    clear at5 hx hxs hQ
    have hT : T.length ≤ 600 := Nat.le_trans hlen.1 (by decide)
    have hU : U.length ≤ 600 := Nat.le_trans hlen.2.1 (by decide)
    have hP : vs.length ≤ 64 := hvl ▸ hlen.2.2
    have hg : gapW mk r ≤ 6 := gap_le hr2
    have hu1 : (U ++ List.replicate (gapW mk r) 32).length ≤ 600 := by
      rw [List.length_append, List.length_replicate]; exact Nat.le_trans (Nat.add_le_add hlen.2.1 hg) (by decide)
    have hk1 : 0 ≤ kd ∧ kd < 2 ^ 63 := by rcases hkk with h | h | h | h <;> rw [h] <;> decide
    have hwl : (List.replicate r 32 ++ wordL kd).length ≤ 600 := by
      rw [List.length_append, List.length_replicate]; exact Nat.le_trans (Nat.add_le_add hr2 (wordL_len kd).2) (by decide)
    clear hlen hvl
    refine Et.swap2 (x := "run") (y := "kind") (a := .int r) (b := .int kd) (Ev.conv (Ev.tup (EvL.cons (Ev.addI Ev.int (Ev.modI (Ev.name rfl rfl) Ev.int (by decide))) (EvL.cons (Ev.modI (Ev.divI (Ev.name rfl rfl) Ev.int (by decide) (by decide)) Ev.int (by decide)) EvL.nil))) (by rw [hr3, hk0])) (by rfl) (by rfl) ?_ (hw := byScope fun _ _ _ _ _ _ _ _ => by rfl)
    refine Et.augM (a := T) (b := List.replicate r 32 ++ wordL kd) rfl (Ev.conv (Ev.addS (p := mkS (List.replicate r 32)) (q := mkS (wordL kd)) (Ev.conv (Ev.mulS Ev.str (Ev.name rfl rfl) (blanks_ok hr2)) (congrArg D.str (blanks_mul r))) (Ev.itemL (Ev.lst (EvL.cons Ev.str (EvL.cons Ev.str (EvL.cons Ev.str (EvL.cons Ev.str EvL.nil))))) (Ev.name rfl rfl) hk1.1 hk1.2 (at_word hkk)) (by rw [mkS_length, mkS_length, List.length_replicate]; exact Nat.le_trans (Nat.add_le_add hr2 (wordL_len kd).2) (by decide))) (by rw [mkS_append])) (by rfl) hT hwl ?_
    refine Et.augM (a := U) (b := List.replicate (gapW mk r) 32) rfl (Ev.conv (Ev.mulS Ev.str (Ev.ifexp (d := .int (gapW mk r)) (Tst.cmp (Ev.isN (Ev.name rfl rfl) Ev.none)) (fun c => Ev.conv Ev.int ?_) (fun c => Ev.conv (Ev.name rfl rfl) ?_)) (blanks_ok hg)) (congrArg D.str (blanks_mul _))) (by rfl) hU (by rw [List.length_replicate]; exact Nat.le_trans hg (by decide)) ?_
    · cases mk with
      | none => rfl
      | some k => cases c
    · cases mk with
      | none => cases c
      | some k => rfl
    refine Et.ite (b := bigW mk r) ?_ (fun c => ?_) (fun c => ?_)
    · cases mk with
      | none => exact Tst.conv (Tst.or (b := true) (Tst.cmp (Ev.isN (Ev.name rfl rfl) Ev.none)) (fun c => by cases c)) rfl
      | some k =>
        obtain ⟨hk1, hk2⟩ := hmk k rfl
        have hlk : (mkS (List.replicate k 32)).length = k := by rw [mkS_length, List.length_replicate]
        refine Tst.conv (Tst.or (Tst.cmp (Ev.isN (Ev.name rfl rfl) Ev.none)) (fun _ => Tst.cmp (Ev.eqI (Ev.modI (Ev.name rfl rfl) (Ev.conv (Ev.callB ⟨rfl, rfl, .inr ⟨rfl, rfl, by decide⟩⟩ (EvL.cons (Ev.name (d := .str (mkS (List.replicate k 32))) rfl rfl) EvL.nil) (Cl.lenS (by rw [hlk]; exact Int.ofNat_lt.mpr (Nat.lt_trans hk2 (by decide))))) (congrArg (fun z : Nat => D.int z) hlk)) (Int.ne_of_gt (Int.ofNat_lt.mpr hk1))) Ev.int))) ?_
        show (false || ((r : Int).fmod (k : Int) == 0)) = (r % k == 0)
        rw [Bool.false_or, Int.fmod_eq_emod_of_nonneg _ (Int.natCast_nonneg k), ← Int.natCast_emod, Bool.eq_iff_iff, beq_iff_eq, beq_iff_eq]
        exact Int.natCast_eq_zero
    · rw [c, if_pos rfl]
      have hul : (mkS (U ++ List.replicate (gapW mk r) 32)).length = (U ++ List.replicate (gapW mk r) 32).length := mkS_length _
      refine Et.append (x := "places") (d1 := .int ((U ++ List.replicate (gapW mk r) 32).length : Nat)) rfl rfl (Ev.conv (Ev.callB ⟨rfl, rfl, .inr ⟨rfl, rfl, by decide⟩⟩ (EvL.cons (Ev.name rfl rfl) EvL.nil) (Cl.lenS (by rw [hul]; exact Int.ofNat_lt.mpr (Nat.lt_of_le_of_lt hu1 (by decide))))) (congrArg (fun z : Nat => D.int z) hul)) (Nat.le_trans hP (by decide)) (fun S' h' v' q' => ?_) rfl (fun _ => rfl) (byScope fun _ _ _ _ _ _ _ _ => by rfl)
      obtain ⟨t', rfl⟩ := elim_inv_int q'
      refine Et.augM (a := U ++ List.replicate (gapW mk r) 32) (b := capL kd) rfl (Ev.itemL (Ev.lst (EvL.cons Ev.str (EvL.cons Ev.str (EvL.cons Ev.str (EvL.cons Ev.str EvL.nil))))) (Ev.name rfl rfl) hk1.1 hk1.2 (at_cap hkk)) (by rfl) hu1 (Nat.le_trans (Nat.le_of_eq (capL_len kd).1) (Nat.le_trans (wordL_len kd).2 (by decide))) ?_
      exact Et.conv Et.nil (fun u hu => hu ▸ intsAre_snoc hv _ _) (by unfold bodyRho; rw [if_pos c])
    · rw [c, if_neg (by decide)]
      refine Et.augM (a := U ++ List.replicate (gapW mk r) 32) (b := lowL kd) rfl (Ev.itemL (Ev.lst (EvL.cons Ev.str (EvL.cons Ev.str (EvL.cons Ev.str (EvL.cons Ev.str EvL.nil))))) (Ev.name rfl rfl) hk1.1 hk1.2 (at_low hkk)) (by rfl) hu1 (Nat.le_trans (Nat.le_of_eq (capL_len kd).2) (Nat.le_trans (wordL_len kd).2 (by decide))) ?_
      exact Et.conv Et.nil (fun u hu => hu ▸ hv) (by unfold bodyRho; rw [if_neg (by rw [c]; decide)])
  · rw [stN_succ hx]
    exact sub_of (List.forall_mem_cons.mpr ⟨rfl, List.forall_mem_cons.mpr ⟨rfl, List.forall_mem_cons.mpr ⟨rfl, List.forall_mem_cons.mpr ⟨rfl, List.forall_mem_cons.mpr ⟨rfl, fun _ h => nomatch h⟩⟩⟩⟩⟩)
  · have e : stN mk xs xs.length = writtenW mk xs := by unfold stN; rw [List.take_length]
    rw [e] at a hv
    have Ff := at_close (x := "text") (y := "due") (z := "places") X a hv rfl rfl rfl
    have hret := fun (sc : Scope) p1 p2 p3 p4 p5 => Ex.ret (prog := prog) (w := w) (K := hd.heap_39 w.params) (n := n) (sc := sc) (ρ := [("text", .str (mkS (writtenW mk xs).1)), ("due", .str (mkS (writtenW mk xs).2.1)), ("places", .lst ((writtenW mk xs).2.2.map D.int))]) (rest := []) (pos := p1) (Ev.tup (k := 0) (pos := p2) (EvL.cons (Ev.name (x := "text") (pos := p3) rfl rfl) (EvL.cons (Ev.name (x := "due") (pos := p4) rfl rfl) (EvL.cons (Ev.name (x := "places") (pos := p5) rfl rfl) EvL.nil))))
    exact wpAny_mono (hret _ _ _ _ _ _ A s₀ _ env S B R X a.sm Ff) (fun fl s h => hQ fl s h) fun _ _ x => x
end Mine

end
section
open PySem PySem.W PySem.Calls PyProof.Rows PySem.SeqAt
set_option Elab.async false
set_option maxRecDepth 100000
set_option maxHeartbeats 1000000
namespace Mine
open Builtin Builtin.Str

/-! the class map -/
theorem mro_map : mroOf (.type "map") = pure [.type "map", .type "object"] := by rw [mroOf_type]; kernel_rfl
theorem lookup_map_new : typeLookup (.type "map") "__new__" = pure (some (.builtin "map.__new__")) := by rw [typeLookup_type, builtinLookup_eq_fast]; kernel_rfl
theorem slot_map_init : Slot "map" "__init__" "object.__init__" :=
  .of (owner := "object") (n := "__init__") (by rw [typeLookup_type, builtinLookup_eq_fast]; kernel_rfl) (by decide +kernel) (by decide +kernel) (by decide +kernel)
    (by first | exact .inl (by decide +kernel) | exact .inr (by decide +kernel)) (by rw [isSubtype_type]; kernel_rfl)
theorem slot_map_next : Slot "map" "__next__" "map.__next__" :=
  .of (owner := "map") (n := "__next__") (by rw [typeLookup_type, builtinLookup_eq_fast]; kernel_rfl) (by decide +kernel) (by decide +kernel) (by decide +kernel)
    (by first | exact .inl (by decide +kernel) | exact .inr (by decide +kernel)) (by rw [isSubtype_type]; kernel_rfl)
theorem slot_map_iter : Slot "map" "__iter__" "map.__iter__" :=
  .of (owner := "map") (n := "__iter__") (by rw [typeLookup_type, builtinLookup_eq_fast]; kernel_rfl) (by decide +kernel) (by decide +kernel) (by decide +kernel)
    (by first | exact .inl (by decide +kernel) | exact .inr (by decide +kernel)) (by rw [isSubtype_type]; kernel_rfl)
theorem called_map : TypeCalled "map" "map.__new__" "object.__init__" :=
  ⟨by decide +kernel, by decide +kernel, ⟨_, _, mro_map⟩, madeBy_type mro_map lookup_map_new (by decide +kernel), by decide +kernel, by rw [isSubtype_type]; kernel_rfl, slot_map_init⟩
theorem typeCall_map_2 (a b : Value) : checkTypeCall "map" ⟨[a, b], []⟩ = pure () := by kernel_rfl
theorem newCall_map_2 (a b : Value) : checkBuiltinCall "map.__new__" ⟨[.type "map", a, b], []⟩ = pure () := by kernel_rfl
theorem entry_map_new : entryFor table "map.__new__" = some Builtin.«map.__new__» := entryFor_of_tree (by kernel_rfl)
theorem entry_map_next : entryFor table "map.__next__" = some Builtin.«map.__next__» := entryFor_of_tree (by kernel_rfl)
theorem entry_map_iter : entryFor table "map.__iter__" = some Builtin.«dict_keyiterator.__iter__» :=
  entryFor_alias (id' := "dict_keyiterator.__iter__") (by kernel_rfl) (by first | rfl | decide +kernel) (by decide +kernel) (by kernel_rfl)
theorem args_map_next_1 (a : Value) : argsOk "map.__next__" ⟨[a], []⟩ := by unfold argsOk; kernel_rfl
theorem args_map_iter_1 (a : Value) : argsOk "map.__iter__" ⟨[a], []⟩ := by unfold argsOk; kernel_rfl
theorem sub_map : isSubtype (.type "map") (.type "map") = pure true := by rw [isSubtype_type]; kernel_rfl
theorem map_no_len : typeLookup (.type "map") "__len__" = pure none := by rw [typeLookup_type, builtinLookup_eq_fast]; kernel_rfl
theorem map_no_hint : typeLookup (.type "map") "__length_hint__" = pure none := by rw [typeLookup_type, builtinLookup_eq_fast]; kernel_rfl

abbrev IsMap (h : Heap) (m T : Addr) (f : Value) : Prop := h.get? m = some { cls := .type "map", dict := none, data := .fields #[.ref T, f], slots := #[] }
abbrev IsOne (h : Heap) (T : Addr) (a : Value) : Prop := h.get? T = some { cls := .type "tuple", data := .seq #[a] }

abbrev mapH1 (h : Heap) (l : Addr) : Heap := h.push { cls := .type "list_iterator", data := .fields #[.ref l, .int 0 0] }
abbrev mapH2 (h : Heap) (l : Addr) : Heap := (mapH1 h l).push { cls := .type "tuple", data := .seq #[.ref h.objs.size] }
abbrev mapH3 (h : Heap) (l : Addr) (f : Value) : Heap := (mapH2 h l).push { cls := .type "map", data := .fields #[.ref (mapH1 h l).objs.size, f] }

theorem meets_map_new (id : String) (l : Addr) (xs : Array Value) :
    Meets (Builtin.«map.__new__» ⟨[.type "map", .builtin id, .ref l], []⟩) (fun _ R s => s.heap.IsList l xs ∧
      R (.ok (.ret (.ref (mapH2 s.heap l).objs.size))) { s with heap := mapH3 s.heap l (.builtin id) }) :=
  .of_wp fun prog w A R s h => by
    obtain ⟨hp, g, d, tk, os⟩ := s; obtain ⟨hl1, h⟩ := h
    have hsub := sub_map
    have hL1 : Heap.IsList (Shared.heap ⟨hp, g, d, tk, os⟩) l xs := hl1
    wp_walk using wpAny_pyIter_list hL1
    exact ⟨_, rfl, h⟩
end Mine

end
section
open PySem PySem.W PySem.Calls PyProof.Rows PySem.SeqAt
set_option Elab.async false
set_option maxRecDepth 100000
set_option maxHeartbeats 1000000
namespace Mine
open Builtin Builtin.Str
section
variable {prog : Program} {w : World} {A : Around} {E : Value → Shared → Prop} {s : Shared}

theorem call_map {id : String} {l : Addr} {xs : Array Value} {Q : Value → Shared → Prop} (hl : s.heap.IsList l xs)
    (h : Q (.ref (mapH2 s.heap l).objs.size) { s with heap := mapH3 s.heap l (.builtin id) }) : wpAny (model prog w) A (call (.type "map") [.builtin id, .ref l]) Q E s :=
  callType_new called_map (by decide) (typeCall_map_2 _ _) (newCall_map_2 _ _) (fun obj => F.args_object_init_3 obj _ _) entry_map_new (meets_map_new id l xs) ⟨hl, ⟨_, Heap.get?_push_size _ rfl, rfl⟩, h⟩

theorem map_next_item {m T i l : Addr} {k : Nat} {xs : Array Value} {x : Str} {t : Tok} {Q : Value → Shared → Prop} (hm : IsMap s.heap m T (.builtin "str.capitalize")) (hT : IsOne s.heap T (.ref i))
    (h1 : s.heap.IsListIter i l k) (hl : s.heap.IsList l xs) (hx : xs[k]? = some (.str x t)) (hsz : x.length ≤ 5592405)
    (hne1 : m ≠ i)
    (hQ : ∀ h' t' k', h'.IsListIter i l (k + 1) → Heap.SameBut i s.heap h' → Q (.str (Txt.capitalize x) t') { s with heap := h', toks := k' }) :
    wpAny (model prog w) A (Builtin.«map.__next__» ⟨[.ref m], []⟩) (fun fin s' => ∃ v, fin = .done (.ret v) ∧ Q v s') E s := by
  show wpAny _ _ (field (.ref m) 0 >>= _) _ _ _
  refine wpAny_bind (wpAny_field hm rfl (x := .ref T) rfl ?_)
  refine wpAny_bind (wpAny_seqItems hT rfl ?_)
  show wpAny _ _ (forIn #[Value.ref i] _ _ >>= _) _ _ _
  simp only [← Array.forIn_toList, List.forIn_cons, List.forIn_nil]
  refine wpAny_bind (wpAny_bind (wpAny_bind (wpAny_holding (wpAny_nextOf_list_item h1 hl hx fun h' h1' hs' => wpAny_pure (wpAny_pure ?_)))))
  have hm' : IsMap h' m T (.builtin "str.capitalize") := hs'.extBut _ _ hne1 hm
  show wpAny _ _ (field (.ref m) 1 >>= _) _ _ _
  refine wpAny_bind (wpAny_field hm' rfl (x := .builtin "str.capitalize") rfl ?_)
  refine wpAny_bind (wpAny_holding (SCL.capitalize hsz fun t' k' _ => ?_))
  refine wpAny_bind (wpAny_letGo (wpAny_pure ⟨_, rfl, hQ h' t' k' h1' hs'⟩))

theorem map_next_end {m T i l : Addr} {k : Nat} {xs : Array Value} {f : Value} {Q : Fin → Shared → Prop} (hh : A.handled = none) (hm : IsMap s.heap m T f) (hT : IsOne s.heap T (.ref i))
    (h1 : s.heap.IsListIter i l k) (hl : s.heap.IsList l xs) (hx : xs[k]? = none)
    (hE : ∀ h' e, Heap.ExtBut i s.heap h' → (∃ o, h'.get? e = some o ∧ o.cls = .type "StopIteration") → E (.ref e) { s with heap := h' }) :
    wpAny (model prog w) A (Builtin.«map.__next__» ⟨[.ref m], []⟩) Q E s := by
  show wpAny _ _ (field (.ref m) 0 >>= _) _ _ _
  refine wpAny_bind (wpAny_field hm rfl (x := .ref T) rfl ?_)
  refine wpAny_bind (wpAny_seqItems hT rfl ?_)
  show wpAny _ _ (forIn #[Value.ref i] _ _ >>= _) _ _ _
  simp only [← Array.forIn_toList, List.forIn_cons, List.forIn_nil]
  exact wpAny_bind (wpAny_bind (wpAny_bind (wpAny_holding (wpAny_nextOf_list_end hh h1 hl hx hE))))

theorem Walks.map {m T i l : Addr} {l0 : List (Str × Tok)} (hh : A.handled = none) (hmi : m ≠ i) (hTi : T ≠ i) (hli : l ≠ i) (hsz : ∀ p ∈ l0, p.1.length ≤ 5592405) :
    Walks prog w A m [m, T, i, l] [i] l0.length (fun k v => ∃ p t', l0[k]? = some p ∧ v = .str (Txt.capitalize p.1) t')
      (fun k h => IsMap h m T (.builtin "str.capitalize") ∧ IsOne h T (.ref i) ∧ h.IsListIter i l k ∧ h.IsList l (strValues l0).toArray) where
  sub := fun b hb => by simp at hb; simp [hb]
  frame := fun _ _ _ st hk => ⟨hk m (by simp) _ st.1, hk T (by simp) _ st.2.1, st.2.2.1.at fun o e => hk i (by simp) o e, st.2.2.2.at fun o e => hk l (by simp) o e⟩
  item := fun k s Q E hk st hQ => by
    obtain ⟨s1, s2, s3, s4⟩ := st
    have hT : s.TypeIs (.ref m) "map" := ⟨_, s1, rfl⟩
    have hx : (strValues l0).toArray[k]? = some (.str l0[k].1 l0[k].2) := by
      simp [strValues, hk]
    unfold pyNext
    refine wpAny_bind (wpAny_attempt (wpAny_callSpecial?_slot (name := Str.ofString "__next__") hT slot_map_next
      (wpAny_call_entry slot_map_next hT entry_map_next (map_next_item s1 s2 s3 s4 hx (hsz _ (List.getElem_mem hk)) hmi fun h' t' k' h1 hs => ?_) (args_map_next_1 _))))
    refine wpAny_pure (hQ _ h' k' ⟨l0[k], t', by simp [hk], rfl⟩ ⟨hs.extBut _ _ hmi s1, hs.extBut _ _ hTi s2, h1, s4.extBut hs.extBut hli⟩ fun b o hb e => hs.extBut b o (fun h => hb (by simp [h])) e)
  done := fun s Q E st hQ => by
    obtain ⟨s1, s2, s3, s4⟩ := st
    have hT : s.TypeIs (.ref m) "map" := ⟨_, s1, rfl⟩
    unfold pyNext
    refine wpAny_bind (wpAny_attempt (wpAny_callSpecial?_slot (name := Str.ofString "__next__") hT slot_map_next
      (wpAny_call_entry slot_map_next hT entry_map_next (map_next_end hh s1 s2 s3 s4 (by simp [strValues]) fun h' e hk he => ?_) (args_map_next_1 _))))
    obtain ⟨o, ho, hc⟩ := he
    refine wpAny_bind (wpAny_isInstance (T := "StopIteration") (b := true) ⟨o, ho, hc⟩ isSubtype_stop ?_)
    exact wpAny_pure (hQ h' s.toks fun b o hb e => hk b o (fun h => hb (by simp [h])) e)
  self := fun _ s Q E st hQ => by
    have hT : s.TypeIs (.ref m) "map" := ⟨_, st.1, rfl⟩
    refine wpAny_pyIter_slot hT slot_map_iter (wpAny_call_entry slot_map_iter hT entry_map_iter ?_ (args_map_iter_1 _))
    show wpAny _ _ (ret (.ref m)) _ _ s
    exact wpAny_pure ⟨_, rfl, "map", _, hT, slot_map_next.lookup, hQ⟩
end
end Mine

end
section
open PySem PySem.W PySem.Calls PyProof.Rows PySem.SeqAt
set_option Elab.async false
set_option maxRecDepth 100000
set_option maxHeartbeats 1000000
namespace Mine
open Builtin Builtin.Str
section
variable {prog : Program} {w : World} {A : Around} {E : Value → Shared → Prop} {s : Shared} {I : Addr} {fp wr : List Addr} {G : Array GenState → Array GenState → Prop} {n : Nat} {P : Nat → Value → Prop} {St : Nat → Shared → Prop}

theorem collect_map {Q : List Value → Shared → Prop} (W : WalksS prog w A.in1 I fp wr G n P St) (hT : ∀ i s, St i s → s.TypeIs (.ref I) "map") (hst : St 0 s) (hfp : ∀ b ∈ fp, b < s.heap.objs.size) (hI : I ∈ fp)
    (hQ : ∀ s' acc, Moved wr G s s' → ItemsOf P acc n → Q acc.toList s') (hn : n ≤ sizeLine) : wpAny (model prog w) A (collect (.ref I)) Q E s := by
  have hSf : s.heap.objs.size ∉ fp := fun hm => Nat.lt_irrefl _ (hfp _ hm)
  have hSI : s.heap.objs.size ≠ I := fun e => hSf (e ▸ hI)
  unfold collect
  refine wpAny_bind (wpAny_runValue (codeAny_builtin F.entry_proto_collect ?_))
  rw [Around.under_plainId F.plain_proto_collect _]
  show wpAny _ A.in1 (newList [] >>= fun l => again (.builtin "list.__iadd__" ⟨[l, .ref I], []⟩)) _ _ s
  refine wpAny_bind (wpAny_newObj_type (wpAny_pure ⟨plainId_quiet F.plain_list_iadd _, codeAny_builtin F.entry_list_iadd ?_⟩))
  rw [Around.under_plainId F.plain_list_iadd _]
  have hst₁ := W.frame 0 s (s.heap.push { cls := .type "list", data := .seq ([] : List Value).toArray }) s.toks hst (Nat.le_refl _) fun b _ o e => Heap.get?_push_of_some _ e
  show wpAny _ A.in1 (Builtin.List.listExtendWith (.ref s.heap.objs.size) (.ref I) (.ref s.heap.objs.size)) _ _ _
  unfold Builtin.List.listExtendWith
  refine wpAny_bind (wpAny_typeOf (hT 0 _ hst₁) ?_)
  have h1 : Builtin.List.listSameRef (.ref s.heap.objs.size) (.ref I) = false := by simp [Builtin.List.listSameRef, hSI]
  have h2 : (Value.type "map" == Value.type "list") = false := by decide
  have h3 : (Value.type "map" == Value.type "tuple") = false := by decide
  simp only [h1, h2, h3, Bool.or_false, Bool.false_eq_true, if_false]
  refine wpAny_bind (W.self 0 _ _ _ hst₁ (wpAny_bind (wpAny_holding ?_)))
  unfold Builtin.List.listLengthHint
  refine wpAny_bind (wpAny_specialOf (hT 0 _ hst₁) map_no_len ?_)
  show wpAny _ A.in1 (specialOf (Value.ref I) (Str.ofString "__length_hint__") >>= _) _ _ _
  refine wpAny_bind (wpAny_specialOf (hT 0 _ hst₁) map_no_hint (wpAny_pure ?_))
  show wpAny _ A.in1 (rule "list.extend.makes-room" >>= fun _ => Builtin.List.listTouch (.ref s.heap.objs.size) >>= fun _ =>
    again (.builtin "list.extend.loop" ⟨[.ref s.heap.objs.size, .ref I, .ref s.heap.objs.size], []⟩)) _ _ _
  refine wpAny_bind (wpAny_rule ?_)
  have hS₁ : (s.heap.push { cls := .type "list", data := .seq ([] : List Value).toArray }).get? s.heap.objs.size = some { cls := .type "list", data := .seq ([] : List Value).toArray } := Heap.get?_push_size _ rfl
  refine wpAny_bind ?_
  show wpAny _ A.in1 (updateSeq s.heap.objs.size (·.push .none) >>= fun _ => updateSeq s.heap.objs.size (·.pop)) _ _ _
  refine wpAny_bind (wpAny_updateSeq hS₁ rfl ?_)
  have hS₂ := Heap.get?_update_self (Obj.mapSeq (·.push Value.none)) hS₁ rfl
  refine wpAny_updateSeq hS₂ rfl ?_
  have hS₃ := Heap.get?_update_self (Obj.mapSeq (·.pop)) hS₂ rfl
  have oth : ∀ b o, b ≠ s.heap.objs.size → (s.heap.push { cls := .type "list", data := .seq ([] : List Value).toArray }).get? b = some o →
      (((s.heap.push { cls := .type "list", data := .seq ([] : List Value).toArray }).update s.heap.objs.size (Obj.mapSeq (·.push Value.none))).update s.heap.objs.size (Obj.mapSeq (·.pop))).get? b = some o :=
    fun b o hb e => (Heap.get?_update_other _ _ (Ne.symm hb)).trans ((Heap.get?_update_other _ _ (Ne.symm hb)).trans e)
  refine wpAny_pure ⟨plainId_quiet F.plain_extend_loop _, codeAny_extend_loopS W hn _ hSf _ n 0 _ _ _ rfl (Nat.zero_le _)
    (W.frame 0 ({ s with heap := s.heap.push { cls := .type "list", data := .seq ([] : List Value).toArray } } : Shared) _ s.toks hst₁ (Nat.le_refl _) fun b hb o e => oth b o (fun h => hSf (h ▸ hb)) e) hS₃ (ItemsOf.nil P) fun s' acc' c' hm hS' hacc => ?_⟩
  show wpAny _ A (load s.heap.objs.size >>= _) _ _ s'
  refine wpAny_bind (wpAny_load hS' (wpAny_pure (hQ s' acc' (Moved.drop_new (o := { cls := .type "list", data := .seq ([] : List Value).toArray }) (tk := s.toks) (Moved.trans W.gtrans ((Moved.refl W.grefl).then_heap (Nat.le_refl _) fun b o hb e => ?_) hm) (Nat.le_refl _)) hacc)))
  exact oth b o (fun h => hb (h ▸ List.mem_cons_self)) e

theorem join_map {x : Str} {t : Tok} {Q : Value → Shared → Prop} (W : WalksS prog w A.in1.in1 I fp wr G n P St) (hT : ∀ i s, St i s → s.TypeIs (.ref I) "map") (hst : St 0 s) (hfp : ∀ b ∈ fp, b < s.heap.objs.size) (hI : I ∈ fp)
    (hstr : ∀ i v, P i v → ∃ y u, v = Value.str y u)
    (hq : ∀ s' (l : List (Str × Tok)), Moved wr G s s' → ItemsOf P (strValues l).toArray n → JoinOk x (l.map (·.1)) = true ∧ ∀ t' k, s'.toks ≤ k → Q (.str (Txt.join x (l.map (·.1))) t') { s' with toks := k })
    (hsz : n ≤ sizeLine) :
    wpAny (model prog w) A (call (.builtin "str.join") [.str x t, .ref I]) Q E s := by
  refine wpAny_call (codeAny_call_builtin F.slot_str_join.plain F.entry_str_join (F.slot_str_join.check _ _ _ _ _ _ _ _ (typeIs_str _ _ _) (F.args_str_join_2 _ _) ?_))
  rw [join_tree_other]
  refine wpAny_bind (wpAny_typeOf (hT 0 s hst) ?_)
  show wpAny _ A.in1 ((pyIter (.ref I)).tryCatch _ >>= fun it => collect it >>= fun items => joinTail x items) _ _ s
  refine wpAny_bind (wpAny_tryCatch (W.of_in1.self 0 s _ _ hst ?_))
  refine wpAny_bind (collect_map W hT hst hfp hI (fun s' acc hm hacc => ?_) hsz)
  obtain ⟨l, hl⟩ := exists_strValues acc.toList fun v hv => by
    obtain ⟨j, hj, rfl⟩ := Array.mem_iff_getElem.mp (Array.mem_toList_iff.mp hv)
    exact hstr j _ (hacc.2 j _ (Array.getElem?_eq_getElem hj))
  rw [← hl]
  have hacc' : ItemsOf P (strValues l).toArray n := by rw [hl]; simpa using hacc
  obtain ⟨hok, hpost⟩ := hq s' l hm hacc'
  unfold JoinOk at hok
  rw [Bool.not_eq_true'] at hok
  have g : Gives (joinTail x (strValues l)) (joinMade x l) := by
    have g0 := gives_joinTail x l hok
    cases l with
    | nil => exact g0
    | cons p r => cases r with
      | nil => exact g0
      | cons q r' => exact g0
  have hjl := joinFit_length hok
  refine g prog w A (wants Q E) s' ?_
  match l, hpost, hjl with
  | [], h, hj => exact ⟨hj, h _ _ (Nat.le_succ _)⟩
  | [p], h, _ => exact h p.2 s'.toks (Nat.le_refl _)
  | _ :: _ :: _, h, hj => exact ⟨hj, h _ _ (Nat.le_succ _)⟩
end
end Mine

end
section
open PySem PySem.W PySem.Calls PyProof.Rows PySem.SeqAt
set_option Elab.async false
set_option maxRecDepth 100000
set_option maxHeartbeats 1000000
namespace Mine
open Builtin Builtin.Str
section
variable {prog : Program} {w : World} {n : Nat} {K : Frag}

theorem attr_capitalize {A : Around} {E : Value → Shared → Prop} {s : Shared} {expr : Bool} {Q : Value → Shared → Prop} (h : Q (.builtin "str.capitalize") { s with toks := s.toks + 1 }) :
    wpAny (model prog w) A (getAttr (.type "str") "capitalize" expr) Q E s := by
  have X : Frag.In ([] : Frag) s.heap := fun _ _ e => by cases e
  have hstub : opaqueClassAbove (.type "str") = pure none := by unfold opaqueClassAbove; rfl
  refine cls_open (K := []) (mc := .type "type") (r := .val (.builtin "str.capitalize")) X (Looks.of_pure hstub) (Looks.of_pure (kitMeta_of (by decide +kernel))) type_tga (looks_hook X (r := none) (by rfl)) (by show subIn [] _ _ = _; rfl) (by kernel_rfl) ?_
  exact wpAny_pure (handed_on rfl h)

def sepOf (mk : Option Nat) : Str := match mk with
  | none => " "
  | some k => mkS (List.replicate k 32)
def partsOf (mk : Option Nat) (x : Str) : List Str := match mk with
  | none => Txt.words x
  | some k => Txt.split x (mkS (List.replicate k 32))
/-- the sizes that capwords asks for -/
structure CapOk (mk : Option Nat) (x : Str) : Prop where
  len : x.length ≤ sizeLine
  wrd : mk = none → (spaceWords x (x.length + 1)).length ≤ sizeLine
  spl : ∀ k, mk = some k → 0 < k ∧ k < 2 ^ 20 ∧ (partsBetween x (occurrences x (mkS (List.replicate k 32)) 0 x.length (x.length + 1)) k).length ≤ sizeLine
  cnt : (partsOf mk x).length ≤ sizeLine
  prt : ∀ p ∈ partsOf mk x, p.length ≤ 5592405
  jn : JoinOk (sepOf mk) ((partsOf mk x).map Txt.capitalize) = true

theorem kpush {s : Shared} : KeptByPush (Keeps s) := fun _ _ _ a => keepsT a ⟨_, _, rfl, fun _ _ e => Heap.get?_push_of_some _ e⟩

theorem split_method {mk : Option Nat} {x : Str} {t : Tok} {S : Addr → Prop} {A : Around} {E : Value → Shared → Prop} {s s₀ : Shared} {pos : Pos} {a : Sem Value} {Q : Value → Shared → Prop} (C : CapOk mk x) (k0 : Keeps s₀ s)
    (ha : Gets prog w S A a s (mkD mk))
    (hq : ∀ D l s', l.map (·.1) = partsOf mk x → Keeps s₀ s' → s'.heap.IsList D (strValues l).toArray → Q (.ref D) s') : MethodOnS prog w A E "split" (.str x t) pos [(false, a)] Q s := by
  cases mk with
  | some k =>
    refine SBG.split1 (Fm := Keeps s₀) kpush (ha.then fun v s1 k1 q1 => ?_) C.len
    cases q1
    rename_i u
    obtain ⟨c1, c2, c3⟩ := C.spl k rfl
    exact ⟨_, _, rfl, by rw [mkS_length, List.length_replicate]; simp; omega, keepsT k0 k1.1, by rw [mkS_length, List.length_replicate]; exact c3, hq⟩
  | none =>
    refine ⟨"str", _, F.plainAttrs_str, F.slot_str_split, F.type_str_split, typeIs_str _ _ _, (fun _ e => nomatch e),
      method1_meets F.slot_str_split F.entry_str_split (ha.then fun v s1 k1 q1 => ?_)⟩
    cases q1
    refine ⟨typeIs_str _ _ _, F.args_str_split_2 _ _, _, (split_none_eq x t).symm ▸ meets_str_split_space x t C.len (C.wrd rfl), ?_⟩
    cases hw : spaceWords x (x.length + 1) == [(0, x.length)]
    · simp only [Bool.false_eq_true, if_false]
      rw [strsFrom_eq]
      exact hq _ (numbered s1.toks (PySem.wordsOf x)) _ ((numbered_texts _ _).trans (if_neg (ne_true_of_eq_false hw)).symm) (keepsT (keepsT k0 k1.1) kp) ⟨_, Heap.get?_push_size _ rfl, rfl, _, rfl⟩
    · simp only [if_true]
      exact hq _ [(x, t)] _ (if_pos hw).symm (keepsT (keepsT k0 k1.1) (kp (t := s1.toks))) ⟨_, Heap.get?_push_size _ rfl, rfl, _, rfl⟩

theorem itemsOf_texts {l0 l : List (Str × Tok)} (h : ItemsOf (fun k v => ∃ p t', l0[k]? = some p ∧ v = .str (Txt.capitalize p.1) t') (strValues l).toArray l0.length) : l.map (·.1) = (l0.map (·.1)).map Txt.capitalize := by
  obtain ⟨h1, h2⟩ := h
  have e : l.length = l0.length := by simpa [strValues] using h1
  refine List.ext_getElem (by simp [e]) fun j h3 h4 => ?_
  have hj : j < l.length := by simpa using h3
  obtain ⟨p, t', e1, e2⟩ := h2 j (.str l[j].1 l[j].2) (by simp [strValues, hj])
  have e3 := (Value.str.inj e2).1
  have hj0 : j < l0.length := by omega
  have e4 : l0[j] = p := by
    have := List.getElem?_eq_getElem hj0
    rw [this] at e1; exact Option.some.inj e1
  simp [e3, e4]

theorem capwords_cl (mk : Option Nat) (x : Str) (C : CapOk mk x) :
    Cl prog w (hd.heap_39 w.params) (n + 1) (.ref 50) [.str x, mkD mk] (.str (Txt.join (sepOf mk) ((partsOf mk x).map Txt.capitalize))) := by
  refine Cl.defW (xs := ["s", "sep"]) (by rfl) (by rfl) (by rfl) rfl rfl rfl (by rfl) rfl (by rfl) (fun A s vs Q E X hl hq => ?_) (fun A s₀ s env S B _ R X m F => Ex.ret ?_ A s₀ s env S B R X m F)
  · revert hq
    refine len2 (C := fun vs => Q ((["s", "sep"] : List Str).zip vs) s → wpAny _ _ (bindArgs _ ⟨vs, []⟩) Q E s) hl fun a b hq => ?_
    show wpAny _ _ (seqItems? (Value.ref 43) >>= _) _ _ _
    exact wpAny_bind (wpAny_seqItems (X _ _ (show (hd.heap_39 w.params).lookup 43 = _ from by rfl)) rfl (wpAny_pure hq))
  rename_i hcl
  clear hcl F m X R B S env s s₀ A
  dsimp only [List.zip, List.zipWith, List.reverse, List.reverseAux]
  intro A s env S B R X ok
  refine Call_method1 rfl rfl rfl ?_
  -- the mark, or a blank
  have hor : wpAny (model prog w) A (eval (.BoolOp .Or [.Name "sep" ⟨69, 12, 69, 15⟩, .Constant (.str " ") 0 ⟨69, 19, 69, 22⟩] ⟨69, 12, 69, 22⟩) env) (fun v s' => Kp s s' ∧ ∃ t, v = .str (sepOf mk) t) No s := by
    refine wpK (wpAny_Or2 ((Ev.name (ρ := [("sep", mkD mk), ("s", .str x)]) (d := mkD mk) rfl rfl A s env S B R X ok).then fun v s1 k1 q1 => ?_))
    cases mk with
    | none =>
      cases q1
      exact truthy_none (wpAny_Constant_str ⟨keepsT k1.1 kk, _, rfl⟩)
    | some k =>
      cases q1
      obtain ⟨c1, c2, c3⟩ := C.spl k rfl
      refine P.truthy_str (by rw [mkS_length, List.length_replicate]; omega) ?_
      rw [mkS_length, List.length_replicate]
      have : ((k : Int) != 0) = true := by simp; omega
      rw [this]
      exact ⟨keepsT k1.1 kk, _, rfl⟩
  refine wpAny_mono hor (fun v s1 h1 => ?_) fun _ _ x => x.elim
  obtain ⟨k1, t, rfl⟩ := h1
  refine ⟨"str", _, F.plainAttrs_str, F.slot_str_join, F.type_str_join, typeIs_str _ _ _, (fun _ e => nomatch e), ?_⟩
  refine callWith_builtin rfl (evalArgs_plain (spliced_cons ?_))
  refine Call_ (NameIs.load (v := .type "map") ⟨rfl, rfl, .inr ⟨rfl, rfl, by decide⟩⟩ B (X.mv k1) ?_)
  refine PyProof.Rows.callWith_type1 (args_cons (Attribute_name (NameIs.load (v := .type "str") ⟨rfl, rfl, .inr ⟨rfl, rfl, by decide⟩⟩ B (X.mv k1) (attr_capitalize ?_))) rfl) rfl rfl
  refine args_cons (Call_method1 rfl rfl rfl ?_) rfl
  have k2 : Kp s { s1 with toks := s1.toks + 1 } := kt k1 ⟨kk, Nat.le_succ _⟩
  refine (Ev.name (ρ := [("sep", mkD mk), ("s", .str x)]) (d := .str x) rfl rfl A _ env S B R (X.mv k2) (ok.ext (kx k2))).then fun v s3 k3 q3 => ?_
  cases q3
  have k3' := kt k2 k3
  refine split_method C k3'.1 (S := S) (Ev.name (ρ := [("sep", mkD mk), ("s", .str x)]) (d := mkD mk) rfl rfl A _ env S B R (X.mv k3') (ok.ext (kx k3'))) fun D l0 s4 hl0 k4 hD => ?_
  refine args_nil (call_map hD ?_)
  have k4' : Keeps s4 { s4 with heap := mapH3 s4.heap D (.builtin "str.capitalize") } := ⟨_, s4.toks, rfl, fun b o e => Heap.get?_push_of_some _ (Heap.get?_push_of_some _ (Heap.get?_push_of_some _ e))⟩
  refine spliced_nil ?_
  have hDlt : @LT.lt Nat _ D s4.heap.objs.size := Heap.lt_size hD.choose_spec.1
  have z1 : (mapH1 s4.heap D).objs.size = s4.heap.objs.size + 1 := Heap.size_push ..
  have z2 : (mapH2 s4.heap D).objs.size = s4.heap.objs.size + 2 := by rw [Heap.size_push, z1]
  have W := (Walks.map (prog := prog) (w := w) (A := A.in1.in1) (m := (mapH2 s4.heap D).objs.size) (T := (mapH1 s4.heap D).objs.size) (i := s4.heap.objs.size) (l := D) (l0 := l0) R.hd (Nat.ne_of_gt (Nat.lt_of_lt_of_eq (Nat.lt_add_of_pos_right (by decide)) z2.symm)) (Nat.ne_of_gt (Nat.lt_of_lt_of_eq (Nat.lt_add_of_pos_right (by decide)) z1.symm)) (Nat.ne_of_lt hDlt)
    (fun p hp => C.prt _ (by rw [← hl0]; exact List.mem_map_of_mem hp))).toS
  refine join_map (s := { s4 with heap := mapH3 s4.heap D (.builtin "str.capitalize") }) W (fun i s h => ⟨_, h.1, rfl⟩) ⟨?_, ?_, ?_, ?_⟩ ?_ (by simp) (fun i v h => let ⟨p, t', _, e⟩ := h; ⟨_, t', e⟩) (fun s' l hm hacc => ?_) ?_
  · exact Heap.get?_push_size _ rfl
  · exact Heap.get?_push_of_some _ (Heap.get?_push_size _ rfl)
  · exact ⟨_, Heap.get?_push_of_some _ (Heap.get?_push_of_some _ (Heap.get?_push_size _ rfl)), rfl, rfl⟩
  · exact ((hD.push _).push _).push _
  · intro b hb
    show b < (mapH3 s4.heap D (.builtin "str.capitalize")).objs.size
    rw [Heap.size_push, z2]
    simp only [List.mem_cons, List.not_mem_nil, or_false] at hb
    have hz : ∀ a b c : Nat, a = b → b < c → a < c := fun a b c e h => e ▸ h
    rcases hb with e | e | e | e
    · exact hz _ _ _ (e.trans z2) (by omega)
    · exact hz _ _ _ (e.trans z1) (by omega)
    · exact hz _ _ _ e (by omega)
    · exact hz _ _ _ e (by omega)
  · have e := itemsOf_texts hacc
    rw [hl0] at e
    rw [e]
    refine ⟨C.jn, fun t' k hk => ⟨?_, .str⟩⟩
    have hgone : s.heap.get? s4.heap.objs.size = none := by
      cases q : s.heap.get? s4.heap.objs.size with
      | none => rfl
      | some o => exact absurd (Heap.lt_size (keepsX k4 _ _ q)) (Nat.lt_irrefl _)
    obtain ⟨g1, g2, g3, g4⟩ := keepsT k4 k4'
    obtain ⟨h', tk, e5, hx⟩ := keepsT k4 k4'
    refine ⟨s'.heap, k, ?_, fun b o eb => hm.heap b o (fun q => ?_) (keepsX (keepsT k4 k4') b o eb)⟩
    · have e1 : s'.gens = s4.gens := hm.gens
      have e2 : s'.drawn = s4.drawn := hm.drawn
      have e3 : s'.os = s4.os := hm.os
      obtain ⟨h4, t4, rfl, _⟩ := k4
      cases s' with
      | mk a b c d e =>
        simp only at e1 e2 e3
        subst e1 e2 e3
        rfl
    · simp at q
      subst q
      rw [hgone] at eb; cases eb
  · rw [show l0.length = (partsOf mk x).length from by rw [← hl0, List.length_map]]; exact C.cnt
end
end Mine

end
section
open PySem PySem.W PySem.Calls PyProof.Rows PySem.SeqAt
set_option Elab.async false
set_option maxRecDepth 100000
set_option maxHeartbeats 4000000
namespace Mine

def isGreat (told : List Nat) (k : Int) : Bool := Txt.contains "AB" (Txt.item (mkS told) k)
def greatOf (told : List Nat) : List Int := (rngI 0 told.length).filter (isGreat told)
/-- the c-th of three -/
def th {α : Type} (c : Int) (x y z : α) : α := if c = 0 then x else if c = 1 then y else z
def onT3 (f : UInt64 → UInt64 → UInt64 → D) : D → D
  | .tup [.flt x, .flt y, .flt z] => f x y z
  | _ => .none
def onLI (f : List Int → D) (g : D → Int) : D → D
  | .lst ds => f (ds.map g)
  | _ => .none
def theI : D → Int
  | .int i => i
  | _ => 0

/-- what the walk of law asks of the plain side -/
structure LawOk (T : Int) (dr : List Int) (mk : Option Nat) (W V sh lv both : Int) (t u : List Nat) (ps : List Int) (told : List Nat) (cr cg cb : Int → UInt64) (R G B : Int) (H L Sh x y z : UInt64) (M m : Int) : Prop where
  hdr : dr.length ≤ 12
  hT : dr.sum = T
  hmk : ([.str "  ", .none, .str "   ", .str " "] : List D)[(T.fmod 4).toNat]? = some (mkD mk)
  hmk' : ∀ k, mk = some k → 1 ≤ k ∧ k < 2 ^ 20
  hW : ([.int 5, .int 7, .int 9, .int 10, .int 3, .int 6] : List D)[((T.fdiv 4).fmod 6).toNat]? = some (.int W)
  hV : ([.int 2, .int 3, .int 1, .int 4, .int 5, .int 6] : List D)[((T.fdiv 24).fmod 6).toNat]? = some (.int V)
  hsh : 4 - (T.fdiv 144).fmod 5 = sh
  hlv : 4 - (T.fdiv 720).fmod 4 = lv
  hW' : 1 ≤ W ∧ W ≤ 10
  hV' : 1 ≤ V ∧ V ≤ 6
  htw : writtenW mk (dr ++ [5, 8, 15, 18]) = (t, u, ps)
  hcap : CapOk mk (mkS (List.replicate W.toNat t).flatten)
  htold : told = (List.replicate W.toNat u).flatten
  hj : (if mk.isNone then (" " : Str) else "") ++ Txt.join (sepOf mk) ((partsOf mk (mkS (List.replicate W.toNat t).flatten)).map Txt.capitalize) = mkS told
  hjl : (Txt.join (sepOf mk) ((partsOf mk (mkS (List.replicate W.toNat t).flatten)).map Txt.capitalize)).length ≤ 2 ^ 20
  hboth : both ∈ (rngI 1 V.toNat).filter fun k => V.fmod k == 0 && W.fmod k == 0
  hboth' : ∀ k ∈ (rngI 1 V.toNat).filter fun k => V.fmod k == 0 && W.fmod k == 0, k ≤ both
  hu : 0 < u.length
  hhue : ∀ k ∈ greatOf told, Float64.isInf (fdivI (k * V) told.length) = false ∧ Float64.isFinite (Float64.mul (fdivI (k * V) told.length) 4618441417868443648) = true ∧ (truncF (Float64.mul (fdivI (k * V) told.length) 4618441417868443648)).natAbs < 2 ^ 1023
  hs4 : Float64.isInf (fdivI sh 4) = false
  hl4 : Float64.isInf (fdivI lv 4) = false
  hcol : ∀ k ∈ greatOf told, hsvF (fdivI (k * V) told.length) (fdivI sh 4) (fdivI lv 4) = .tup [.flt (cr k), .flt (cg k), .flt (cb k)]
  hfin : ∀ k ∈ greatOf told, ∀ c ∈ rngI 0 3, Float64.isFinite (roundF (16 * W.fdiv both * u.length) (th c (cr k) (cg k) (cb k))) = true
  hR : ((greatOf told).map fun k => truncF (roundF (16 * W.fdiv both * u.length) (cr k))).sum = R
  hG : ((greatOf told).map fun k => truncF (roundF (16 * W.fdiv both * u.length) (cg k))).sum = G
  hB : ((greatOf told).map fun k => truncF (roundF (16 * W.fdiv both * u.length) (cb k))).sum = B
  hsum : ∀ c ∈ rngI 0 3, th c R G B = (greatOf told).length * W.fdiv both * u.length * lv * (4 - sh) + lv * sh * both * (ps.map fun p => (spreadI ((p * V).fdiv both) u.length (W.fdiv both)).getD c.toNat 0).sum
  hpaint : PaintOk R G B (16 * W.fdiv both * u.length * (greatOf told).length) H L Sh x y z M m

variable {prog : Program} {w : World} {n : Nat}
theorem mkD_isNone (mk : Option Nat) : (mkD mk).isNone = mk.isNone := by cases mk <;> rfl
theorem fm (a : Int) {b : Int} (h : 0 < b) : 0 ≤ a.fmod b ∧ a.fmod b < b := by
  rw [Int.fmod_eq_emod_of_nonneg _ (Int.le_of_lt h)]
  exact ⟨Int.emod_nonneg _ (by omega), Int.emod_lt_of_pos _ h⟩
theorem lt63 {n : Nat} (h : n ≤ 5000) : (n : Int) < 2 ^ 63 := Int.ofNat_lt.mpr (Nat.lt_of_le_of_lt h (by decide))
theorem le24 {n : Nat} (h : n ≤ 5000) : n ≤ sizeLine := Nat.le_trans h (by decide)
theorem abs63 {a : Int} (h0 : -1 ≤ a) (h1 : a ≤ 5000) : a.natAbs < 2 ^ 63 := by omega
theorem in3 {c : Int} (h : c = 0 ∨ c = 1 ∨ c = 2) : 0 ≤ c ∧ c < 2 ^ 63 := by rcases h with h | h | h <;> rw [h] <;> decide
theorem Cl.lenM {prog : Program} {w : World} {K : Frag} {n : Nat} {l : List Nat} (h : l.length ≤ 5000) : Cl prog w K n (.builtin "len") [.str (mkS l)] (.int l.length) := by
  have e := Cl.lenS (prog := prog) (w := w) (K := K) (n := n) (p := mkS l) (by rw [mkS_length]; exact lt63 h)
  rwa [mkS_length] at e
theorem mul_ok {l : List Nat} {W : Int} {k : Nat} (e : ((k : Nat) : Int) = W) (hk : k ≤ 10) (hl : l.length ≤ 128) : MulOk (mkS l) W := by
  rw [← e]
  exact mulOk_mkS (Nat.le_trans (Nat.mul_le_mul hl hk) (by decide)) (Nat.lt_of_le_of_lt hk (by decide))
theorem fdiv_pos {W both : Int} {n : Nat} (hW : 1 ≤ W) (hb : 1 ≤ both) {p : Int → Bool} (h : both ∈ (rngI 1 n).filter fun k => p k && W.fmod k == 0) : 0 < W.fdiv both := by
  have h := (List.mem_filter.mp h).2
  have hb0 : 0 ≤ both := Int.le_trans (by decide) hb
  simp only [Bool.and_eq_true, beq_iff_eq] at h
  have h2 := h.2
  rw [Int.fmod_eq_emod_of_nonneg _ hb0] at h2
  rw [Int.fdiv_eq_ediv_of_nonneg _ hb0]
  have h3 := Int.emod_add_mul_ediv W both
  rw [h2, Int.zero_add] at h3
  refine Int.not_le.mp fun h4 => ?_
  have h5 : both * (W / both) ≤ 0 := Int.mul_nonpos_of_nonneg_of_nonpos hb0 h4
  rw [h3] at h5
  exact absurd (Int.le_trans hW h5) (by decide)
theorem gl_le (told : List Nat) : (greatOf told).length ≤ told.length := by
  have h1 := List.length_filter_le (isGreat told) (rngI 0 told.length)
  have h2 : (rngI 0 told.length).length = told.length := by unfold rngI; rw [List.length_map, List.length_range]
  unfold greatOf
  rw [h2] at h1
  exact h1
theorem mem_rng3 {c : Int} (h : c ∈ rngI 0 3) : c = 0 ∨ c = 1 ∨ c = 2 := by
  have := mem_rngI.mp h
  omega

theorem law_run {A : Around} {s : Shared} {a : Addr} {vs : List Value} {xs : List Int} {T : Int} {mk : Option Nat} {W V sh lv both : Int} {t u : List Nat} {ps : List Int} {told : List Nat} {cr cg cb : Int → UInt64} {R G B : Int} {H L Sh x y z : UInt64} {M m : Int}
    (Rm : Room (n + 4) A) (Xk : (hd.heap_39 w.params).In s.heap) (Xb : ∃ mb, s.heap.Ns builtinsNs mb ∧ ∀ x : Str, x ≠ "__name__" → mb x = bootBuiltins x) (Xn : s.heap.NoLimit) (Xg : ∃ mg, s.heap.Ns mainGlobals mg)
    (hl : s.heap.IsList a vs.toArray) (hI : IntsAre vs xs) (hn : xs.length ≤ 63) (P : LawOk T (xs.take 12) mk W V sh lv both t u ps told cr cg cb R G B H L Sh x y z M m) :
    Gets prog w (fun _ => False) A (call (.ref 72) [.ref a]) s (.bool true) := by
  refine Cl.raw (K := hd.heap_39 w.params) (xs := ["script"]) (ds := [.obj a]) (by rfl) (by rfl) (by rfl) rfl rfl rfl (by rfl) rfl (by rfl) (fun Q E hq => wpAny_pure hq) (by have := Rm.dp; omega) Xk Xn (.cons .obj .nil) (fun s1 env B0 hcl m0 F => ?_)
  dsimp only [List.zip, List.zipWith, List.reverse, List.reverseAux] at F
  refine wpAny_execs_cons (wpAny_Assign_Name (wpAny_Subscript_list_slice ?_) (byScope (fun _ _ _ _ _ _ _ _ => by rfl) env B0))
  obtain ⟨v0, l0, q0⟩ := F.ok "script" (.obj a) rfl
  cases q0
  refine wpAny_Name (Look.load B0 l0 ?_) rfl
  rw [evalPart_none]
  refine wpAny_pure (evalPart_some_step (wpAny_Constant_int ?_))
  refine ⟨a, vs.toArray, none, some 12, rfl, hl.at fun o e => F.ext _ o e, ?_, .none, .int _ _, ?_⟩
  · have := intsAre_len hI
    simp [sizeLine]; omega
  have hsl : slicePick vs.toArray none (some 12) none = (vs.take 12).toArray := by simpa using slicePick_upto' vs.toArray 12
  rw [hsl]
  have F1 : FrOk (fun _ => False) s.heap ((s1.heap.push { cls := .type "slice", data := .fields #[.none, .int 12 s1.toks, .none] }).push { cls := .type "list", data := .seq (vs.take 12).toArray }) env [("script", .obj a)] :=
    F.mv fun _ _ e => Heap.get?_push_of_some _ (Heap.get?_push_of_some _ e)
  have q1 : Den (fun _ => False) ((s1.heap.push { cls := .type "slice", data := .fields #[.none, .int 12 s1.toks, .none] }).push { cls := .type "list", data := .seq (vs.take 12).toArray }) (.ref (s1.heap.objs.size + 1)) (.lst ((xs.take 12).map D.int)) := by
    refine .lst (fun h => h) (vs := vs.take 12) ⟨0, ?_⟩ ?_
    · have := Heap.get?_push_size (o := { cls := .type "list", data := .seq (vs.take 12).toArray }) (s1.heap.push { cls := .type "slice", data := .fields #[.none, .int 12 s1.toks, .none] }) rfl
      rw [Heap.size_push] at this
      exact this
    · exact denL_ints (hI.take 12)
  refine F1.store (s := { s1 with toks := s1.toks + 1, heap := (s1.heap.push { cls := .type "slice", data := .fields #[.none, .int 12 s1.toks, .none] }).push { cls := .type "list", data := .seq (vs.take 12).toArray } }) B0 (.inl rfl) rfl q1 fun s2 F2 m2 ks2 ot2 => ?_
  have ht2 : 0 < s2.toks := Nat.lt_of_lt_of_le (Nat.succ_pos _) m2.2
  have m12 : Sm s s2 := m0.tr (Sm.tr ⟨⟨_, _, rfl⟩, Nat.le_succ _⟩ m2)
  have m02 : Sm { s with toks := s2.toks } s2 := by
    obtain ⟨⟨h, t, e⟩, _⟩ := m12
    exact ⟨⟨h, t, by rw [e]⟩, Nat.le_refl _⟩
  refine wpAny_mono ((?rest : Ex prog w (hd.heap_39 w.params) (n + 3) _ [("drawn", .lst ((xs.take 12).map D.int)), ("script", .obj a)] _ (.bool true)) (A.deeper env) { s with toks := s2.toks } s2 env (fun _ => False) B0 Rm.deeper ⟨Xk, Xb, Xn, Xg, ht2, fun _ h => h.elim⟩ m02 F2) (fun fl s3 h3 => ⟨?_, h3.2⟩) fun _ _ x => x
  rotate_left
  · obtain ⟨⟨h, t, e, ex⟩, l⟩ := h3.1
    exact ⟨⟨h, t, by rw [e], ex⟩, Nat.le_trans m12.2 l⟩
  clear ks2 ot2 F2 m2 ht2 m12 m02 F1 q1 hsl F l0 m0 hcl B0 s2 env s1
  generalize hdr0 : xs.take 12 = dr at P ⊢
  have hW := P.hW'
  have hV := P.hV'
  have tl : t.length ≤ 128 ∧ u.length ≤ 128 ∧ ps.length ≤ 16 := by
    have h1 := written_len mk (dr ++ [5, 8, 15, 18])
    have h2 := P.hdr
    rw [P.htw] at h1
    have h3 : 8 * (dr ++ [5, 8, 15, 18]).length ≤ 8 * 16 := Nat.mul_le_mul_left 8 (by rw [List.length_append]; exact Nat.add_le_add_right h2 4)
    have h4 : (dr ++ [5, 8, 15, 18]).length ≤ 16 := by rw [List.length_append]; exact Nat.add_le_add_right h2 4
    exact ⟨Nat.le_trans h1.1 h3, Nat.le_trans h1.2.1 h3, Nat.le_trans h1.2.2 h4⟩
  have eW : ((W.toNat : Nat) : Int) = W := Int.toNat_of_nonneg (Int.le_trans (by decide) hW.1)
  have hWn : W.toNat ≤ 10 := Int.ofNat_le.mp (eW ▸ hW.2)
  have hW0 : 0 < W.toNat := Int.ofNat_lt.mp (eW ▸ hW.1)
  have htoldl : told.length = W.toNat * u.length := by rw [P.htold]; simp
  have hul := P.hu
  have htb : told.length ≤ 1280 := by
    rw [htoldl]; exact (Nat.mul_le_mul hWn tl.2.1 : W.toNat * u.length ≤ 10 * 128)
  have htb5 : told.length ≤ 5000 := Nat.le_trans htb (by decide)
  have hu5 : u.length ≤ 5000 := Nat.le_trans tl.2.1 (by decide)
  have hN0 : 0 < told.length := by rw [htoldl]; exact Nat.mul_pos hW0 hul
  refine Ex.assign (Ev.conv (Ev.callB ⟨rfl, rfl, .inr ⟨rfl, rfl, by decide⟩⟩ (EvL.cons (Ev.name rfl rfl) EvL.nil) (Cl.sum (l := dr) .lst)) (congrArg D.int P.hT)) (.inl rfl) ?_
  refine Ex.assign (Ev.itemL (Ev.lst (EvL.cons Ev.str (EvL.cons Ev.none (EvL.cons Ev.str (EvL.cons Ev.str EvL.nil))))) (Ev.modI (Ev.name rfl rfl) Ev.int (by decide)) (fm _ (by decide)).1 (by have := (fm T (b := 4) (by decide)).2; omega) P.hmk) (.inl rfl) ?_
  refine Ex.assign (Ev.itemL (Ev.lst (EvL.cons Ev.int (EvL.cons Ev.int (EvL.cons Ev.int (EvL.cons Ev.int (EvL.cons Ev.int (EvL.cons Ev.int EvL.nil))))))) (Ev.modI (Ev.divI (Ev.name rfl rfl) Ev.int (by decide) (by decide)) Ev.int (by decide)) (fm _ (by decide)).1 (by have := (fm (T.fdiv 4) (b := 6) (by decide)).2; omega) P.hW) (.inr rfl) ?_ (hs := byScope fun _ _ _ _ _ _ _ _ => by rfl)
  refine Ex.assign (Ev.itemL (Ev.lst (EvL.cons Ev.int (EvL.cons Ev.int (EvL.cons Ev.int (EvL.cons Ev.int (EvL.cons Ev.int (EvL.cons Ev.int EvL.nil))))))) (Ev.modI (Ev.divI (Ev.name rfl rfl) Ev.int (by decide) (by decide)) Ev.int (by decide)) (fm _ (by decide)).1 (by have := (fm (T.fdiv 24) (b := 6) (by decide)).2; omega) P.hV) (.inr rfl) ?_ (hs := byScope fun _ _ _ _ _ _ _ _ => by rfl)
  refine Ex.assign (Ev.conv (Ev.subI Ev.int (Ev.modI (Ev.divI (Ev.name rfl rfl) Ev.int (by decide) (by decide)) Ev.int (by decide))) (congrArg D.int P.hsh)) (.inr rfl) ?_ (hs := byScope fun _ _ _ _ _ _ _ _ => by rfl)
  refine Ex.assign (Ev.conv (Ev.subI Ev.int (Ev.modI (Ev.divI (Ev.name rfl rfl) Ev.int (by decide) (by decide)) Ev.int (by decide))) (congrArg D.int P.hlv)) (.inr rfl) ?_ (hs := byScope fun _ _ _ _ _ _ _ _ => by rfl)
  have hwc : Cl prog w (hd.heap_39 w.params) (n + 3) (.ref 57) [.lst (dr.map D.int ++ [.int 5, .int 8, .int 15, .int 18]), mkD mk] (.tup [.str (mkS t), .str (mkS u), .lst (ps.map D.int)]) := by
    have h := written_cl (prog := prog) (w := w) (n := n + 2) mk P.hmk' (dr ++ [5, 8, 15, 18]) (by have := P.hdr; simp; omega)
    rw [P.htw] at h
    simpa using h
  refine Ex.unpack (xs := ["text", "due", "places"]) (ds := [.str (mkS t), .str (mkS u), .lst (ps.map D.int)]) (Ev.callFn ⟨rfl, rfl, .inl rfl⟩ rfl rfl (EvL.cons (Ev.addL (Ev.name rfl rfl) (Ev.lst (EvL.cons Ev.int (EvL.cons Ev.int (EvL.cons Ev.int (EvL.cons Ev.int EvL.nil))))) (by have := P.hdr; simp [sizeLine]; omega)) (EvL.cons (Ev.name rfl rfl) EvL.nil)) hwc) .tup .tup rfl (by rfl) ?_ (fun _ => StL.name (StL.name (StL.name .nil))) (fun _ => rfl) (fun _ => rfl)
  dsimp only [List.zip, List.zipWith, List.reverse, List.reverseAux, List.map, List.cons_append, List.nil_append]
  have emt : Txt.mul (mkS t) W = mkS (List.replicate W.toNat t).flatten := by have := mkS_mul t W.toNat; rwa [eW] at this
  have emu : Txt.mul (mkS u) W = mkS told := by have := mkS_mul u W.toNat; rwa [eW, ← P.htold] at this
  have mot : MulOk (mkS t) W := mul_ok eW hWn tl.1
  have mou : MulOk (mkS u) W := mul_ok eW hWn tl.2.1
  refine Ex.assign (d1 := .str (mkS told)) (Ev.conv (Ev.addS (p := if mk.isNone then " " else "") (Ev.ifexp (Tst.cmp (Ev.isN (Ev.name rfl rfl) Ev.none)) (fun c => Ev.conv Ev.str (by rw [mkD_isNone] at c; rw [if_pos c])) (fun c => Ev.conv Ev.str (by rw [mkD_isNone] at c; rw [if_neg (by rw [c]; decide)])))
    (Ev.callFn ⟨rfl, rfl, .inl rfl⟩ rfl rfl (EvL.cons (Ev.conv (Ev.mulS (Ev.name rfl rfl) (Ev.name rfl rfl) mot) (congrArg D.str emt)) (EvL.cons (Ev.name rfl rfl) EvL.nil)) (capwords_cl (n := n + 2) mk _ P.hcap)) ?_) (congrArg D.str P.hj)) (.inr rfl) ?_ (hs := byScope fun _ _ _ _ _ _ _ _ => by rfl)
  · have := P.hjl
    have e : (if mk.isNone then (" " : Str) else "").length ≤ 1 := by split <;> decide
    simp only [sizeLine]; omega
  refine Ex.ite (b := false) (Tst.cmp (Ev.conv (Ev.neS (Ev.name rfl rfl) (Ev.conv (Ev.mulS (Ev.name rfl rfl) (Ev.name rfl rfl) mou) (congrArg D.str emu))) (by simp))) (fun c => absurd c (by decide)) (fun _ => ?_)
  dsimp only [List.cons_append, List.nil_append]
  have hbpos : 1 ≤ both ∧ both ≤ 6 := by
    have h := List.mem_filter.mp P.hboth
    have := mem_rngI.mp h.1
    omega
  refine Ex.assign (Ev.callB ⟨rfl, rfl, .inr ⟨rfl, rfl, by decide⟩⟩ (EvL.cons (Ev.compI (l := rngI 1 V.toNat) (fun k => V.fmod k == 0 && W.fmod k == 0) D.int (Ev.callT ⟨rfl, rfl, .inr ⟨rfl, rfl, by decide⟩⟩ (EvL.cons Ev.int (EvL.cons (Ev.addI (Ev.name rfl rfl) Ev.int) EvL.nil)) (Cl.rng2 (k := V.toNat) (by omega))) (Yields.rngI (by omega) (by omega)) (by simp [rngI, sizeLine]; omega) rfl (by rfl) (.inl rfl) (fun i hi => ?_) (fun i hi _ => Ev.name rfl rfl)) EvL.nil) (Cl.maxL (l := (rngI 1 V.toNat).filter fun k => V.fmod k == 0 && W.fmod k == 0) .lst P.hboth P.hboth')) (.inr rfl) ?_ (hs := byScope fun _ _ _ _ _ _ _ _ => by rfl)
  · have hi0 : i ≠ 0 := by have := mem_rngI.mp hi; omega
    exact Tests.one (Tst.and (Tst.cmp (Ev.eqI (Ev.modI (Ev.name rfl rfl) (Ev.name rfl rfl) hi0) Ev.int)) (fun _ => Tst.cmp (Ev.eqI (Ev.modI (Ev.name rfl rfl) (Ev.name rfl rfl) hi0) Ev.int)))
  have hQ : 0 ≤ W.fdiv both ∧ W.fdiv both ≤ 10 := by
    rw [Int.fdiv_eq_ediv_of_nonneg _ (by omega)]
    exact ⟨Int.ediv_nonneg (by omega) (by omega), Int.le_trans (Int.ediv_le_self _ (by omega)) hW.2⟩
  have et : (mkS told).length = told.length := mkS_length told
  refine Ex.unpack (xs := ["times", "size"]) (ds := [.int (W.fdiv both), .int u.length]) (Ev.tup (EvL.cons (Ev.divI (Ev.name rfl rfl) (Ev.name rfl rfl) (by omega) (by omega)) (EvL.cons (Ev.callB ⟨rfl, rfl, .inr ⟨rfl, rfl, by decide⟩⟩ (EvL.cons (Ev.name rfl rfl) EvL.nil) (Cl.lenM hu5)) EvL.nil))) .tup .tup rfl (by rfl) ?_ (fun _ => StL.name (StL.name .nil)) (fun _ => rfl) (fun _ => rfl) (hw := byScope fun _ _ _ _ _ _ _ _ => by rfl)
  dsimp only [List.zip, List.zipWith, List.reverse, List.reverseAux, List.map, List.cons_append, List.nil_append]
  refine Ex.assignCompI (l := rngI 0 told.length) (isGreat told) D.int (Ev.callT ⟨rfl, rfl, .inr ⟨rfl, rfl, by decide⟩⟩ (EvL.cons (Ev.callB ⟨rfl, rfl, .inr ⟨rfl, rfl, by decide⟩⟩ (EvL.cons (Ev.name rfl rfl) EvL.nil) (Cl.lenM htb5)) EvL.nil) (Cl.rng1 (k := told.length))) (Yields.rngI (by decide) (by omega)) (by simp [rngI, sizeLine]; omega) rfl (by rfl) (.inl rfl)
    (fun i hi => ?_) (fun i hi _ => Ev.name rfl rfl) (by rfl) ?_ (hsw := byScope fun _ _ _ _ _ _ _ _ => by rfl)
  · have := mem_rngI.mp hi
    exact Tests.one (Tst.cmp (Ev.inS (Ev.itemS (Ev.name rfl rfl) (Ev.name rfl rfl) this.1 (by omega) (by omega)) Ev.str))
  show Ex _ _ _ _ _ (("great", .lst ((greatOf told).map D.int)) :: _) _ _
  have gl : (greatOf told).length ≤ 5000 := Nat.le_trans (gl_le told) htb5
  refine Ex.assign (Ev.compA (l := greatOf told) (fun k => .tup [.flt (cr k), .flt (cg k), .flt (cb k)]) (Ev.name rfl rfl) .lst (le24 gl) rfl (by rfl) (.inl rfl) (fun k hk => ?_)) (.inr rfl) ?_ (hs := byScope fun _ _ _ _ _ _ _ _ => by rfl)
  · obtain ⟨g1, g2, g3⟩ := P.hhue k hk
    exact Ev.callFn ⟨rfl, rfl, .inl rfl⟩ rfl rfl (EvL.cons (Ev.tdivI (Ev.mulI (Ev.name rfl rfl) (Ev.name rfl rfl) (.inr (by omega))) (Ev.callB ⟨rfl, rfl, .inr ⟨rfl, rfl, by decide⟩⟩ (EvL.cons (Ev.name rfl rfl) EvL.nil) (Cl.lenM htb5)) (by omega) g1) (EvL.cons (Ev.tdivI (Ev.name rfl rfl) Ev.int (by decide) P.hs4) (EvL.cons (Ev.tdivI (Ev.name rfl rfl) Ev.int (by decide) P.hl4) EvL.nil))) (P.hcol k hk ▸ hsv_to_rgb_cl (n := n + 2) _ _ _ g2 g3)
  have hu1 : (0 : Int) ≤ u.length ∧ (u.length : Int) ≤ 128 := by omega
  have hp1 : 0 ≤ 16 * W.fdiv both ∧ 16 * W.fdiv both ≤ 160 := by omega
  have hp2 : 0 ≤ 16 * W.fdiv both * u.length ∧ 16 * W.fdiv both * u.length ≤ 160 * 128 := ⟨Int.mul_nonneg hp1.1 hu1.1, Int.mul_le_mul hp1.2 hu1.2 hu1.1 (by decide)⟩
  refine Ex.assignCompA (l := rngI 0 3) (fun c => .int (th c R G B)) (Ev.callT ⟨rfl, rfl, .inr ⟨rfl, rfl, by decide⟩⟩ (EvL.cons Ev.int EvL.nil) (Cl.rng1 (k := 3))) (Yields.rngI (by decide) (by decide)) (by decide) rfl (by rfl) (.inr rfl)
    (fun c hc => ?_) (by rfl) ?_ (hsw := byScope fun _ _ _ _ _ _ _ _ => by rfl)
  · refine Ev.conv (Ev.callB ⟨rfl, rfl, .inr ⟨rfl, rfl, by decide⟩⟩ (EvL.cons (Ev.conv (Ev.compAD (onT3 fun x y z => .int (truncF (roundF (16 * W.fdiv both * u.length) (th c x y z)))) (Ev.name rfl rfl) .lst (by rw [List.length_map]; exact le24 gl) rfl (by rfl) (.inl rfl) (fun d hd => ?_)) (d := .lst (((greatOf told).map fun k => truncF (roundF (16 * W.fdiv both * u.length) (th c (cr k) (cg k) (cb k)))).map D.int)) ?_) EvL.nil) (Cl.sum .lst)) ?_
    · obtain ⟨k, hk, rfl⟩ := List.mem_map.mp hd
      refine Ev.callT ⟨rfl, rfl, .inr ⟨rfl, rfl, by decide⟩⟩ (EvL.cons (Ev.addF (Ev.mulIF (Ev.mulI (Ev.mulI Ev.int (Ev.name rfl rfl) (.inl (by decide))) (Ev.name rfl rfl) (.inl (by omega))) (Ev.itemT (Ev.name rfl rfl) (Ev.name rfl rfl) (in3 (mem_rng3 hc)).1 (in3 (mem_rng3 hc)).2 ?_) (natAbs_big hp2.1 (by omega))) Ev.flt) EvL.nil) (Cl.intF (P.hfin k hk c hc))
      rcases mem_rng3 hc with rfl | rfl | rfl <;> rfl
    · simp only [List.map_map]
      rfl
    · rcases mem_rng3 hc with rfl | rfl | rfl
      · exact congrArg D.int P.hR
      · exact congrArg D.int P.hG
      · exact congrArg D.int P.hB
  show Ex _ _ _ _ _ (("added", .lst ([R, G, B].map D.int)) :: _) _ _
  have hQ1 : 0 < W.fdiv both := fdiv_pos hW.1 hbpos.1 P.hboth
  refine Ex.assign (Ev.compA (l := ps) (fun p => .lst ((spreadI ((p * V).fdiv both) u.length (W.fdiv both)).map D.int)) (Ev.name rfl rfl) .lst (le24 (Nat.le_trans tl.2.2 (by decide))) rfl (by rfl) (.inl rfl) (fun p hp => ?_)) (.inr rfl) ?_ (hs := byScope fun _ _ _ _ _ _ _ _ => by rfl)
  · exact Ev.callFn ⟨rfl, rfl, .inl rfl⟩ rfl rfl (EvL.cons (Ev.divI (Ev.mulI (Ev.name rfl rfl) (Ev.name rfl rfl) (.inr (by omega))) (Ev.name rfl rfl) (by omega) (by omega)) (EvL.cons (Ev.name rfl rfl) (EvL.cons (Ev.name rfl rfl) EvL.nil))) (spread_cl (n := n + 2) _ _ _ (by omega) (by omega) (by omega) (by omega))
  have el : (((greatOf told).map D.int).length : Int) = (greatOf told).length := by rw [List.length_map]
  have hsh5 : -1 ≤ sh ∧ sh ≤ 4 := by
    have := fm (T.fdiv 144) (b := 5) (by decide)
    have := P.hsh
    omega
  have hlv5 : 0 ≤ lv ∧ lv ≤ 4 := by
    have := fm (T.fdiv 720) (b := 4) (by decide)
    have := P.hlv
    omega
  refine Ex.assign (d1 := .int ((greatOf told).length * W.fdiv both * u.length * lv * (4 - sh))) (Ev.mulI (Ev.mulI (Ev.mulI (Ev.mulI (Ev.conv (Ev.callB ⟨rfl, rfl, .inr ⟨rfl, rfl, by decide⟩⟩ (EvL.cons (Ev.name rfl rfl) EvL.nil) (Cl.lenL (by rw [el]; exact lt63 gl))) (by rw [el])) (Ev.name rfl rfl) (.inr (by omega))) (Ev.name rfl rfl) (.inr (by omega))) (Ev.name rfl rfl) (.inr (by omega))) (Ev.subI Ev.int (Ev.name rfl rfl)) (.inr (by omega))) (.inr rfl) ?_ (hs := byScope fun _ _ _ _ _ _ _ _ => by rfl)
  refine Ex.ite (b := false) (Tst.cmp (Ev.conv (Ev.neL (a := [R, G, B]) (b := [R, G, B]) (Ev.name rfl rfl) (Ev.conv (Ev.compA (l := rngI 0 3) (fun c => .int (th c R G B)) (Ev.callT ⟨rfl, rfl, .inr ⟨rfl, rfl, by decide⟩⟩ (EvL.cons Ev.int EvL.nil) (Cl.rng1 (k := 3))) (Yields.rngI (by decide) (by decide)) (by decide) rfl (by rfl) (.inr rfl) (fun c hc => ?_)) rfl)) (by simp))) (fun c => absurd c (by decide)) (fun _ => ?_)
  · refine Ev.conv (Ev.addI (Ev.name rfl rfl) (Ev.mulI (Ev.mulI (Ev.mulI (Ev.name rfl rfl) (Ev.name rfl rfl) (.inl (by omega))) (Ev.name rfl rfl) (.inr (by omega))) (Ev.callB ⟨rfl, rfl, .inr ⟨rfl, rfl, by decide⟩⟩ (EvL.cons (Ev.conv (Ev.compAD (onLI (fun l => .int (l.getD c.toNat 0)) theI) (Ev.name rfl rfl) .lst (by rw [List.length_map]; exact le24 (Nat.le_trans tl.2.2 (by decide))) rfl (by rfl) (.inl rfl) (fun d hd => ?_)) (d := .lst ((ps.map fun p => (spreadI ((p * V).fdiv both) u.length (W.fdiv both)).getD c.toNat 0).map D.int)) ?_) EvL.nil) (Cl.sum .lst)) (.inl ?_))) (congrArg D.int (P.hsum c hc).symm)
    · obtain ⟨p, hp, rfl⟩ := List.mem_map.mp hd
      have hlen : (spreadI ((p * V).fdiv both) u.length (W.fdiv both)).length = 3 := by
        unfold spreadI
        split
        · rfl
        · split
          · rfl
          · split <;> rfl
      refine Ev.itemL (Ev.name rfl rfl) (Ev.name rfl rfl) (in3 (mem_rng3 hc)).1 (in3 (mem_rng3 hc)).2 ?_
      show _ = some (D.int (((List.map D.int (spreadI ((p * V).fdiv both) u.length (W.fdiv both))).map theI).getD c.toNat 0))
      rw [List.map_map, show theI ∘ D.int = id from rfl, List.map_id]
      have hlt : c.toNat < (spreadI ((p * V).fdiv both) u.length (W.fdiv both)).length := by have := mem_rng3 hc; omega
      rw [List.getElem?_map, List.getElem?_eq_getElem hlt]
      simp [List.getD, hlt]
    · simp only [List.map_map]
      congr 1
      refine List.map_congr_left fun p _ => ?_
      show D.int (((List.map D.int (spreadI ((p * V).fdiv both) u.length (W.fdiv both))).map theI).getD c.toNat 0) = _
      rw [List.map_map, show theI ∘ D.int = id from rfl, List.map_id]
      rfl
    · have h1 : (lv * sh).natAbs ≤ 4 * 4 := by rw [Int.natAbs_mul]; exact Nat.mul_le_mul (by omega) (by omega)
      have h2 : (lv * sh * both).natAbs ≤ 16 * 6 := by rw [Int.natAbs_mul]; exact Nat.mul_le_mul h1 (by omega)
      omega
  dsimp only [List.cons_append, List.nil_append]
  exact Ex.ret (Ev.callFn ⟨rfl, rfl, .inl rfl⟩ rfl rfl (EvL.cons (Ev.name rfl rfl) (EvL.cons (Ev.mulI (Ev.mulI (Ev.mulI Ev.int (Ev.name rfl rfl) (.inl (by decide))) (Ev.name rfl rfl) (.inl (by omega))) (Ev.conv (Ev.callB ⟨rfl, rfl, .inr ⟨rfl, rfl, by decide⟩⟩ (EvL.cons (Ev.name rfl rfl) EvL.nil) (Cl.lenL (by rw [el]; exact lt63 gl))) (by rw [el])) (.inl (by omega))) EvL.nil)) (paint_cl (n := n) P.hpaint))
end Mine

end
section
open PySem PySem.W PySem.Calls PyProof.Rows PySem.SeqAt
set_option Elab.async false
set_option maxRecDepth 100000
set_option maxHeartbeats 4000000
namespace Mine
/-- the plain law: for each script there are witnesses -/
def PlainAt (dr : List Int) : Prop := ∃ T mk W V sh lv both t u ps told cr cg cb R G B H L Sh x y z M m, LawOk T dr mk W V sh lv both t u ps told cr cg cb R G B H L Sh x y z M m
def Plain : Prop := ∀ xs : List Int, xs.length ≤ 63 → PlainAt (xs.take 12)

theorem law_all {prog : Program} {w : World} {n : Nat} {A : Around} {s : Shared} {a : Addr} {vs : List Value} {xs : List Int}
    (Rm : Room (n + 4) A) (Xk : (hd.heap_39 w.params).In s.heap) (Xb : ∃ mb, s.heap.Ns builtinsNs mb ∧ ∀ x : Str, x ≠ "__name__" → mb x = bootBuiltins x) (Xn : s.heap.NoLimit) (Xg : ∃ mg, s.heap.Ns mainGlobals mg)
    (hl : s.heap.IsList a vs.toArray) (hI : IntsAre vs xs) (hn : xs.length ≤ 63) (hp : PlainAt (xs.take 12)) : Gets prog w (fun _ => False) A (call (.ref 72) [.ref a]) s (.bool true) := by
  obtain ⟨_, _, _, _, _, _, _, _, _, _, _, _, _, _, _, _, _, _, _, _, _, _, _, _, _, P⟩ := hp
  exact law_run Rm Xk Xb Xn Xg hl hI hn P
theorem lawTrue {s s' : Shared} {v : Value} (q : Keeps s s' ∧ Den (fun _ => False) s'.heap v (.bool true)) : v = .bool true ∧ Keeps s s' ∧ s'.os = s.os ∧ s'.gens = s.gens := by
  obtain ⟨k, q⟩ := q
  refine ⟨elim_bool true (C := fun v => v = .bool true) q fun _ => rfl, k, ?_⟩
  obtain ⟨h', t', rfl, _⟩ := k
  exact ⟨rfl, rfl⟩
theorem holds_of_plain (hp : Plain) : PySem.Challenge.rw_pw0007_01.Holds := by
  refine Mine.hd ?_
  intro w s₀ s₁ mg mb G Y fa o pm cd doc dV kV ho hd hcd hD hmg hg args vals as hpre hlay hrd hwl hlo
  have KX := kIn_of Y
  refine Ground.open G ?_
  intro T B D TE TW
  have hfa : fa = 72 := by
    have h := mg_of KX T.g (n := "law") (v := .ref 72) (by rfl)
    have h2 := h.symm.trans hmg
    cases h2; rfl
  subst hfa
  clear D TE TW
  wrow_args hpre hlay hrd hwl hlo
  rename_i xs _ _ _ _ _ _ _ a vs _ hL _ _ _ hI _ hn _
  have h := law_all (prog := Challenge.rw_pw0007_01.row.prog) (w := w) (n := 0) (A := callerA) (s := s₁) ⟨rfl, by decide, by decide⟩ KX ⟨mb, T.b, T.builtins⟩ T.nolimit ⟨mg, T.g⟩ hL hI (by omega) (hp xs (by omega))
  refine wpAny_mono h (fun v s' q => ?_) fun _ _ x => x.elim
  obtain ⟨rfl, k, e1, e2⟩ := lawTrue q
  exact GoodW.toG ⟨.inl ⟨_, .bool true, [], rfl, raisesW_false (by wrow_none_raised), .bool true, by wrow_post, unshared_nil⟩, keepsX k, e1, e2.trans hg⟩
end Mine

end
section
open PySem PySem.W PySem.Calls PyProof.Rows PySem.SeqAt
set_option Elab.async false
set_option maxRecDepth 100000
set_option maxHeartbeats 1000000
namespace Mine
open Builtin Builtin.Str StrLaws
/-! the plain law, text -/
def A5 (c : Nat) : Prop := c = 32 ∨ c = 65 ∨ c = 66 ∨ c = 97 ∨ c = 98
def upc (c : Nat) : Nat := if c = 97 then 65 else if c = 98 then 66 else c
def loc (c : Nat) : Nat := if c = 65 then 97 else if c = 66 then 98 else c
def capW : List Nat → List Nat
  | [] => []
  | c :: r => upc c :: r.map loc
theorem title_up {c : Nat} (h : A5 c) : Unicode.titleOf c = [upc c] := by
  rcases h with rfl | rfl | rfl | rfl | rfl <;> kernel_rfl
theorem lower_lo {c : Nat} (h : A5 c) : Unicode.lowerOf c = [loc c] := by
  rcases h with rfl | rfl | rfl | rfl | rfl <;> kernel_rfl
theorem mapIdx_congr {α β : Type} {l : List α} {f g : Nat → α → β} (h : ∀ i a, l[i]? = some a → f i a = g i a) : l.mapIdx f = l.mapIdx g := by
  apply List.ext_getElem?
  intro i
  rw [List.getElem?_mapIdx, List.getElem?_mapIdx]
  cases e : l[i]? with
  | none => rfl
  | some a => simp [h i a e]
theorem flatten_one {α β : Type} (g : Nat → α → β) (l : List α) : (l.mapIdx fun i a => [g i a]).flatten = l.mapIdx g := by
  induction l generalizing g with
  | nil => rfl
  | cons a l ih =>
    rw [List.mapIdx_cons, List.mapIdx_cons, List.flatten_cons]
    have := ih (fun i => g (i + 1))
    rw [List.singleton_append]
    exact congrArg _ this
theorem mapIdx_cap (c : Nat) (r : List Nat) : (c :: r).mapIdx (fun i c => if i = 0 then upc c else loc c) = capW (c :: r) := by
  rw [List.mapIdx_cons]
  show upc c :: _ = upc c :: _
  congr 1
  rw [show (fun i c => if i + 1 = 0 then upc c else loc c) = (fun (_ : Nat) c => loc c) from by funext i c; simp]
  apply List.ext_getElem?
  intro i
  rw [List.getElem?_mapIdx, List.getElem?_map]
theorem placed_list (x : Str) (f : Nat → Nat → List Nat) : (placed x f).toList = (x.cps.toList.mapIdx f).flatten := by
  unfold placed
  rw [Array.toList_flatten, Array.toList_mapIdx]
  congr 1
  apply List.ext_getElem?
  intro i
  rw [List.getElem?_map, List.getElem?_mapIdx, List.getElem?_mapIdx]
  cases x.cps.toList[i]? <;> simp
theorem capitalize_mk (l : List Nat) (h : ∀ c ∈ l, A5 c) : Txt.capitalize (mkS l) = mkS (capW l) := by
  cases l with
  | nil => rfl
  | cons c r =>
    unfold Txt.capitalize
    rw [if_neg (by rw [mkS_length]; simp)]
    apply PySem.Str.ext'
    apply Array.toList_inj.mp
    show (placed (mkS (c :: r)) _).toList = _
    rw [placed_list, mkS_cps]
    show _ = (mkS (capW (c :: r))).cps.toList
    rw [mkS_cps, ← mapIdx_cap, ← flatten_one (fun i c => if i = 0 then upc c else loc c)]
    congr 1
    refine mapIdx_congr fun i a e => ?_
    have ha : A5 a := h a (List.mem_of_getElem? e)
    by_cases h0 : i = 0
    · subst h0
      simpa using title_up ha
    · have hl : Unicode.lowerAt (mkS (c :: r)).cps i = [loc a] := by
        unfold Unicode.lowerAt
        have e2 : (mkS (c :: r)).cps[i]? = some a := by rw [← Array.getElem?_toList, mkS_cps]; exact e
        rw [e2]
        show (if (a == 0x3A3 && _) = true then _ else _) = _
        have : (a == 0x3A3) = false := by rcases ha with rfl | rfl | rfl | rfl | rfl <;> decide
        rw [this]
        exact lower_lo ha
      have hb : (i == 0) = false := by simpa using h0
      simp only [hb, hl, if_neg h0, Bool.false_eq_true, if_false]

/-! the machine that capwords by k blanks is -/
def mach (k : Nat) : Bool → Nat → List Nat → List Nat
  | _, _, [] => []
  | f, b, c :: r => if c = 32 then 32 :: (if b + 1 = k then mach k true 0 r else mach k f (b + 1) r) else (if (f && b == 0) = true then upc c else loc c) :: mach k false 0 r
theorem mach_cons (k : Nat) (f : Bool) (b c : Nat) (r : List Nat) : mach k f b (c :: r) = if c = 32 then 32 :: (if b + 1 = k then mach k true 0 r else mach k f (b + 1) r) else (if (f && b == 0) = true then upc c else loc c) :: mach k false 0 r := by rw [mach]
def win (k : Nat) (L : List Nat) (j : Nat) : Prop := (L.drop j).take k = List.replicate k 32

theorem mach_low (k : Nat) (hk : 0 < k) : ∀ (P : List Nat) (b : Nat) (f : Bool), b < k → (∀ j, ¬ win k (List.replicate b 32 ++ P) j) → mach k f b P = if (f && b == 0) = true then capW P else P.map loc
  | [], b, f, hb, h => by cases hc : (f && b == 0) <;> rfl
  | c :: P, b, f, hb, h => by
    rw [mach_cons]
    by_cases hc : c = 32
    · subst hc
      rw [if_pos rfl]
      have hne : b + 1 ≠ k := fun e => h 0 (by
        show List.take k (List.replicate b 32 ++ 32 :: P) = _
        rw [show List.replicate b 32 ++ 32 :: P = List.replicate (b + 1) 32 ++ P from by rw [List.replicate_succ']; simp, e]
        rw [List.take_append_of_le_length (by simp), List.take_of_length_le (by simp)])
      rw [if_neg hne, mach_low k hk P (b + 1) f (by omega) (fun j hw => h j (by
        have e : List.replicate b 32 ++ 32 :: P = List.replicate (b + 1) 32 ++ P := by rw [List.replicate_succ']; simp
        rw [e]; exact hw))]
      have : (f && (b + 1 == 0)) = false := by simp
      rw [this]
      cases (f && b == 0) <;> rfl
    · rw [if_neg hc, mach_low k hk P 0 false hk (fun j hw => h (b + 1 + j) (by
        unfold win at hw ⊢
        rw [List.replicate_zero, List.nil_append] at hw
        rw [show b + 1 + j = (List.replicate b 32).length + (j + 1) from by simp; omega, List.drop_append, ]
        simpa using hw))]
      cases (f && b == 0) <;> rfl
theorem mach_run (k : Nat) (R : List Nat) : ∀ (r b : Nat) (f : Bool), b < k → mach k f b (List.replicate r 32 ++ R) = List.replicate r 32 ++ mach k (f || decide (k ≤ b + r)) ((b + r) % k) R
  | 0, b, f, hb => by
    have h1 : ¬ k ≤ b := by omega
    simp [h1, Nat.mod_eq_of_lt hb]
  | r + 1, b, f, hb => by
    rw [List.replicate_succ, List.cons_append, List.cons_append]
    rw [mach_cons]
    rw [if_pos rfl]
    congr 1
    by_cases he : b + 1 = k
    · rw [if_pos he, mach_run k R r 0 true (by omega)]
      have h1 : k ≤ b + (r + 1) := by omega
      have h2 : (b + (r + 1)) % k = (0 + r) % k := by
        rw [show b + (r + 1) = k + r from by omega, Nat.add_mod_left, Nat.zero_add]
      simp [h1, h2]
    · rw [if_neg he, mach_run k R r (b + 1) f (by omega)]
      rw [show b + 1 + r = b + (r + 1) from by omega]

theorem mach_sep (k : Nat) (hk : 0 < k) (Y : List Nat) : ∀ (P : List Nat) (b : Nat) (f : Bool), b < k → (∀ j, j < b + P.length → ¬ win k (List.replicate b 32 ++ (P ++ (List.replicate k 32 ++ Y))) j) →
    mach k f b (P ++ (List.replicate k 32 ++ Y)) = (if (f && b == 0) = true then capW P else P.map loc) ++ (List.replicate k 32 ++ mach k true 0 Y)
  | [], b, f, hb, h => by
    have hb0 : b = 0 := by
      apply Classical.byContradiction
      intro hb0
      refine h 0 (by simp; omega) ?_
      show List.take k (List.replicate b 32 ++ ([] ++ (List.replicate k 32 ++ Y))) = _
      rw [List.nil_append, ← List.append_assoc, List.replicate_append_replicate, List.take_append_of_le_length (by simp)]
      simp
    subst hb0
    rw [List.nil_append, mach_run k Y k 0 f hk]
    have : (if (f && (0 : Nat) == 0) = true then capW [] else List.map loc []) = [] := by split <;> rfl
    rw [this]
    simp
  | c :: P, b, f, hb, h => by
    rw [List.cons_append, mach_cons]
    have e : List.replicate b 32 ++ 32 :: (P ++ (List.replicate k 32 ++ Y)) = List.replicate (b + 1) 32 ++ (P ++ (List.replicate k 32 ++ Y)) := by rw [List.replicate_succ']; simp
    by_cases hc : c = 32
    · subst hc
      rw [if_pos rfl]
      have hne : b + 1 ≠ k := fun e1 => h 0 (by simp; omega) (by
        show List.take k (List.replicate b 32 ++ 32 :: (P ++ (List.replicate k 32 ++ Y))) = _
        rw [e, e1, List.take_append_of_le_length (by simp), List.take_of_length_le (by simp)])
      rw [if_neg hne, mach_sep k hk Y P (b + 1) f (by omega) (fun j hj hw => h j (by simp; omega) (by
        show win k (List.replicate b 32 ++ 32 :: (P ++ (List.replicate k 32 ++ Y))) j
        rw [e]; exact hw))]
      have : (f && (b + 1 == 0)) = false := by simp
      rw [this]
      cases (f && b == 0) <;> rfl
    · rw [if_neg hc, mach_sep k hk Y P 0 false hk (fun j hj hw => h (b + 1 + j) (by simp at hj ⊢; omega) (by
        unfold win at hw ⊢
        rw [List.replicate_zero, List.nil_append] at hw
        rw [show b + 1 + j = (List.replicate b 32).length + (j + 1) from by simp; omega, List.drop_append]
        simpa using hw))]
      cases (f && b == 0) <;> rfl

/-! entries -/
def textOf (l : List (Nat × Int)) : List Nat := (l.map fun e => List.replicate e.1 32 ++ wordL e.2).flatten
def dueOf (mk : Option Nat) (l : List (Nat × Int)) : List Nat := (l.map fun e => List.replicate (gapW mk e.1) 32 ++ (if bigW mk e.1 then capL e.2 else lowL e.2)).flatten
theorem word_cases (k : Int) : wordL k = [97] ∧ capL k = [65] ∧ lowL k = [97] ∨ wordL k = [66] ∧ capL k = [66] ∧ lowL k = [98] ∨ wordL k = [97, 66] ∧ capL k = [65, 98] ∧ lowL k = [97, 98] ∨ wordL k = [66, 65] ∧ capL k = [66, 97] ∧ lowL k = [98, 97] :=
  word_ind (C := fun w c l => w = [97] ∧ c = [65] ∧ l = [97] ∨ w = [66] ∧ c = [66] ∧ l = [98] ∨ w = [97, 66] ∧ c = [65, 98] ∧ l = [97, 98] ∨ w = [66, 65] ∧ c = [66, 97] ∧ l = [98, 97]) k (.inl ⟨rfl, rfl, rfl⟩) (.inr (.inl ⟨rfl, rfl, rfl⟩)) (.inr (.inr (.inl ⟨rfl, rfl, rfl⟩))) (.inr (.inr (.inr ⟨rfl, rfl, rfl⟩)))
theorem cap_word (k : Int) : capW (wordL k) = capL k := word_ind (C := fun w c _ => capW w = c) k rfl rfl rfl rfl
theorem low_word (k : Int) : (wordL k).map loc = lowL k := word_ind (C := fun w _ l => w.map loc = l) k rfl rfl rfl rfl
theorem word_a5 (k : Int) : ∀ c ∈ wordL k, A5 c ∧ c ≠ 32 := word_ind (C := fun w _ _ => ∀ c ∈ w, A5 c ∧ c ≠ 32) k (by unfold A5; decide) (by unfold A5; decide) (by unfold A5; decide) (by unfold A5; decide)
theorem text_a5 (l : List (Nat × Int)) : ∀ c ∈ textOf l, A5 c := by
  intro c hc
  simp only [textOf, List.mem_flatten, List.mem_map] at hc
  obtain ⟨_, ⟨e, _, rfl⟩, hc⟩ := hc
  rcases List.mem_append.mp hc with h | h
  · exact .inl (List.eq_of_mem_replicate h)
  · exact (word_a5 _ c h).1
theorem mach_lows (k : Nat) (R : List Nat) : ∀ (P : List Nat), (∀ c ∈ P, c ≠ 32) → mach k false 0 (P ++ R) = P.map loc ++ mach k false 0 R
  | [], _ => rfl
  | c :: P, h => by
    rw [List.cons_append, mach_cons, if_neg (h c (List.mem_cons_self ..)), mach_lows k R P fun c hc => h c (List.mem_cons_of_mem _ hc)]
    rfl
theorem mach_word (k : Nat) (R : List Nat) (b : Nat) (f : Bool) (w : Int) : mach k f b (wordL w ++ R) = (if (f && b == 0) = true then capL w else lowL w) ++ mach k false 0 R := by
  rw [← cap_word, ← low_word]
  have h := word_a5 w
  cases e : wordL w with
  | nil => rcases word_cases w with ⟨a, _⟩ | ⟨a, _⟩ | ⟨a, _⟩ | ⟨a, _⟩ <;> rw [e] at a <;> cases a
  | cons c P =>
    rw [e] at h
    rw [List.cons_append, mach_cons, if_neg (h c (List.mem_cons_self ..)).2, mach_lows k R P fun c hc => (h c (List.mem_cons_of_mem _ hc)).2]
    cases (f && b == 0) <;> rfl
theorem mach_text (k : Nat) (hk : 0 < k) : ∀ (l : List (Nat × Int)) (f : Bool), (∀ e ∈ l, 1 ≤ e.1) → mach k f 0 (textOf l) = dueOf (some k) l
  | [], f, _ => by rw [show textOf [] = [] from rfl, mach]; rfl
  | e :: l, f, h => by
    have he := h e (List.mem_cons_self ..)
    have e1 : textOf (e :: l) = List.replicate e.1 32 ++ (wordL e.2 ++ textOf l) := by simp [textOf]
    have e2 : dueOf (some k) (e :: l) = List.replicate e.1 32 ++ ((if bigW (some k) e.1 then capL e.2 else lowL e.2) ++ dueOf (some k) l) := by simp [dueOf, gapW]
    rw [e1, e2, mach_run k _ e.1 0 f hk, mach_word, mach_text k hk l false fun e he => h e (List.mem_cons_of_mem _ he)]
    have : ((f || decide (k ≤ 0 + e.1)) && (0 + e.1) % k == 0) = bigW (some k) e.1 := by
      show _ = (e.1 % k == 0)
      rw [Nat.zero_add]
      by_cases hm : e.1 % k = 0
      · have hle : k ≤ e.1 := by
          apply Classical.byContradiction
          intro hlt
          rw [Nat.mod_eq_of_lt (by omega)] at hm
          omega
        simp [hm, hle]
      · simp [hm]
    rw [this]
end Mine

end
section
open PySem PySem.W PySem.Calls PyProof.Rows PySem.SeqAt
set_option Elab.async false
set_option maxRecDepth 100000
set_option maxHeartbeats 1000000
namespace Mine
open Builtin Builtin.Str StrLaws

theorem mkS_toList (x : Str) : mkS x.cps.toList = x := by simp [mkS]
theorem sub_mk (X : List Nat) (i j : Nat) : strSub (mkS X) i j = mkS ((X.drop i).take (j - i)) := by
  rw [← mkS_toList (strSub (mkS X) i j), strSub_toList, mkS_cps]
theorem at_win {X : List Nat} {k c : Nat} : StrLaws.At (mkS X) (mkS (List.replicate k 32)) (mkS X).length c ↔ c + k ≤ X.length ∧ win k X c := by
  unfold StrLaws.At
  rw [subAt_eq, mkS_length, mkS_length, mkS_cps, mkS_cps, List.length_replicate, beq_iff_eq]
  rfl
theorem win_len {X : List Nat} {k c : Nat} (hk : 0 < k) (h : win k X c) : c + k ≤ X.length := by
  have := congrArg List.length h
  simp at this
  omega
theorem join_cons2 (y p q : Str) (r : List Str) : Str.join y (p :: q :: r) = p ++ y ++ Str.join y (q :: r) := by rfl
theorem drop_a5 {X : List Nat} (hX : ∀ c ∈ X, A5 c) (a m : Nat) : ∀ c ∈ (X.drop a).take m, A5 c := fun c hc => hX c (List.mem_of_mem_drop (List.mem_of_mem_take hc))

theorem parts_mach (k : Nat) (hk : 0 < k) (X : List Nat) (hX : ∀ c ∈ X, A5 c) : ∀ (cuts : List Nat) (a f : Nat), ChainG (mkS X) (mkS (List.replicate k 32)) (mkS X).length a cuts f → (∀ j, f ≤ j → ¬ StrLaws.At (mkS X) (mkS (List.replicate k 32)) (mkS X).length j) →
    Str.join (mkS (List.replicate k 32)) ((partsFrom (mkS X) k a cuts).map Txt.capitalize) = mkS (mach k true 0 (X.drop a))
  | [], a, f, h, hn => by
    have e : f = a := h
    subst e
    show Txt.capitalize (strSub (mkS X) f (mkS X).length) = _
    rw [sub_mk, capitalize_mk _ (drop_a5 hX f _), mkS_length, List.take_of_length_le (by simp)]
    rw [mach_low k hk (X.drop f) 0 true hk]
    · rfl
    · intro j hw
      rw [List.replicate_zero, List.nil_append] at hw
      have hw' : win k X (f + j) := by
        unfold win at hw ⊢
        rwa [List.drop_drop] at hw
      exact hn (f + j) (by omega) (at_win.mpr ⟨win_len hk hw', hw'⟩)
  | c :: r, a, f, h, hn => by
    obtain ⟨h1, h2, h3, h4⟩ := h
    obtain ⟨p2, w2⟩ := at_win.mp h2
    rw [mkS_length (List.replicate k 32), List.length_replicate] at h4
    have ih := parts_mach k hk X hX r (c + k) f h4 hn
    obtain ⟨q, r', e⟩ := partsFrom_ne (mkS X) k (c + k) r
    have hsplit : X.drop a = (X.drop a).take (c - a) ++ (List.replicate k 32 ++ X.drop (c + k)) := by
      have e1 : X.drop c = List.replicate k 32 ++ X.drop (c + k) := by
        have := (List.take_append_drop k (X.drop c)).symm
        rw [List.drop_drop] at this
        rw [show (X.drop c).take k = List.replicate k 32 from w2] at this
        exact this
      rw [← e1]
      have := (List.take_append_drop (c - a) (X.drop a)).symm
      rw [List.drop_drop, show a + (c - a) = c from by omega] at this
      exact this
    show Str.join _ (Txt.capitalize (strSub (mkS X) a c) :: (partsFrom (mkS X) k (c + k) r).map Txt.capitalize) = _
    rw [e] at ih ⊢
    rw [List.map_cons, join_cons2, ← List.map_cons, ih, sub_mk, capitalize_mk _ (drop_a5 hX a _), mkS_append, mkS_append]
    rw [hsplit, mach_sep k hk _ _ 0 true hk]
    · rw [← hsplit]
      simp
    · intro j hj hw
      rw [List.replicate_zero, List.nil_append, ← hsplit] at hw
      have hw' : win k X (a + j) := by
        unfold win at hw ⊢
        rwa [List.drop_drop] at hw
      simp at hj
      exact h3 (a + j) (by omega) (by omega) (at_win.mpr ⟨win_len hk hw', hw'⟩)

theorem kind_mk (X : List Nat) (hX : ∀ c ∈ X, A5 c) : Builtin.Str.strKind (mkS X) = 1 := by
  unfold Builtin.Str.strKind
  rw [if_pos]
  show X.toArray.all _ = true
  rw [List.all_toArray, List.all_eq_true]
  intro c hc
  rcases hX c hc with rfl | rfl | rfl | rfl | rfl <;> decide
theorem rep_a5 (k : Nat) : ∀ c ∈ List.replicate k 32, A5 c := fun c hc => .inl (List.eq_of_mem_replicate hc)

theorem split_parts (k : Nat) (hk : 0 < k) (X : List Nat) (hX : ∀ c ∈ X, A5 c) : ∃ cuts f, ChainG (mkS X) (mkS (List.replicate k 32)) (mkS X).length 0 cuts f ∧ (∀ j, f ≤ j → ¬ StrLaws.At (mkS X) (mkS (List.replicate k 32)) (mkS X).length j) ∧ cuts.length ≤ X.length + 1 ∧
    Txt.split (mkS X) (mkS (List.replicate k 32)) = partsFrom (mkS X) k 0 cuts := by
  have hkind : ¬ Builtin.Str.strKind (mkS X) < Builtin.Str.strKind (mkS (List.replicate k 32)) := by rw [kind_mk X hX, kind_mk _ (rep_a5 k)]; decide
  have hone : ([mkS X] : List Str) = partsFrom (mkS X) k 0 [] := by
    show _ = [strSub (mkS X) 0 (mkS X).length]
    rw [sub_whole]
  unfold Txt.split
  by_cases h1 : (mkS X).length < (mkS (List.replicate k 32)).length
  · rw [if_pos (by simp [h1])]
    refine ⟨[], 0, rfl, fun j _ hA => ?_, by simp, hone⟩
    have := hA.1
    omega
  · rw [if_neg (by simp [h1, hkind])]
    obtain ⟨f, hc, hn⟩ := occ_tight (mkS X) (mkS (List.replicate k 32)) (by rw [mkS_length, List.length_replicate]; exact hk)
    have hlen := occ_length_le (mkS X) (mkS (List.replicate k 32)) 0 (mkS X).length ((mkS X).length + 1)
    rw [mkS_length] at hlen
    refine ⟨_, f, hc, hn, by rw [mkS_length]; exact hlen, ?_⟩
    split
    · rename_i he
      have he : occurrences (mkS X) (mkS (List.replicate k 32)) 0 (mkS X).length ((mkS X).length + 1) = [] := List.isEmpty_iff.mp he
      rw [he]; exact hone
    · rw [partsBetween_eq, mkS_length (List.replicate k 32), List.length_replicate]

theorem split_cap (k : Nat) (hk : 0 < k) (X : List Nat) (hX : ∀ c ∈ X, A5 c) : Txt.join (mkS (List.replicate k 32)) ((Txt.split (mkS X) (mkS (List.replicate k 32))).map Txt.capitalize) = mkS (mach k true 0 X) := by
  obtain ⟨cuts, f, h1, h2, _, h4⟩ := split_parts k hk X hX
  show glued _ _ = _
  rw [glued_eq_join, h4, parts_mach k hk X hX cuts 0 f h1 h2]
  rfl
end Mine

end
section
open PySem PySem.W PySem.Calls PyProof.Rows PySem.SeqAt
set_option Elab.async false
set_option maxRecDepth 100000
set_option maxHeartbeats 1000000
namespace Mine
open Builtin Builtin.Str StrLaws

theorem space_32 : Unicode.isSpace 32 = true := by kernel_rfl
theorem space_no {c : Nat} (h : A5 c) (h2 : c ≠ 32) : Unicode.isSpace c = false := by
  rcases h with rfl | rfl | rfl | rfl | rfl
  · exact absurd rfl h2
  all_goals kernel_rfl
def swStep (i c : Nat) (st : Array (Nat × Nat) × Option Nat) : Array (Nat × Nat) × Option Nat :=
  match st.2, Unicode.isSpace c with
  | some b, true => (st.1.push (b, i), none)
  | none, false => (st.1, some i)
  | _, _ => st
def swL : List Nat → Nat → Array (Nat × Nat) × Option Nat → Array (Nat × Nat) × Option Nat
  | [], _, st => st
  | c :: r, i, st => swL r (i + 1) (swStep i c st)
theorem swStep_size (i c : Nat) (st : Array (Nat × Nat) × Option Nat) : (swStep i c st).1.size ≤ st.1.size + 1 := by
  unfold swStep
  split <;> simp
theorem sw_forIn (X : List Nat) (limit : Nat) : ∀ (m a : Nat) (st : Array (Nat × Nat) × Option Nat), a + m = X.length → st.1.size + m < limit →
    (forIn (List.range' a m) ((none, st.1, st.2) : SwSt) (swBody (mkS X) limit)).run = ((none, swL (X.drop a) a st) : SwSt)
  | 0, a, st, h, _ => by
    rw [show X.drop a = [] from List.drop_eq_nil_of_le (by omega)]
    rfl
  | m + 1, a, st, h, hs => by
    have ha : a < X.length := by omega
    rw [List.range'_succ, List.forIn_cons]
    have hc : (mkS X).cps.getD a 0 = X[a] := by
      show X.toArray.getD a 0 = _
      simp [ha]
    have hlim : (st.1.size == limit) = false := by simp; omega
    have hbody : swBody (mkS X) limit a (none, st.1, st.2) = pure (ForInStep.yield ((none, (swStep a X[a] st).1, (swStep a X[a] st).2) : SwSt)) := by
      unfold swBody swStep
      rw [hc]
      simp only [hlim, Bool.false_eq_true, if_false]
      obtain ⟨acc, so⟩ := st
      cases so <;> cases Unicode.isSpace X[a] <;> rfl
    rw [hbody]
    have e : X.drop a = X[a] :: X.drop (a + 1) := List.drop_eq_getElem_cons ha
    rw [e]
    have := sw_forIn X limit m (a + 1) (swStep a X[a] st) (by omega) (by have := swStep_size a X[a] st; omega)
    exact this
theorem swL_blanks (R : List Nat) : ∀ (r a : Nat) (acc : Array (Nat × Nat)), swL (List.replicate r 32 ++ R) a (acc, none) = swL R (a + r) (acc, none)
  | 0, a, acc => by simp
  | r + 1, a, acc => by
    rw [List.replicate_succ, List.cons_append]
    show swL _ (a + 1) (swStep a 32 (acc, none)) = _
    rw [show swStep a 32 (acc, none) = (acc, none) from by unfold swStep; rw [space_32], swL_blanks R r (a + 1) acc]
    congr 1
    omega
theorem swL_signs (R : List Nat) (b : Nat) : ∀ (P : List Nat) (a : Nat) (acc : Array (Nat × Nat)), (∀ c ∈ P, Unicode.isSpace c = false) → swL (P ++ R) a (acc, some b) = swL R (a + P.length) (acc, some b)
  | [], a, acc, _ => by simp
  | c :: P, a, acc, h => by
    rw [List.cons_append]
    show swL _ (a + 1) (swStep a c (acc, some b)) = _
    rw [show swStep a c (acc, some b) = (acc, some b) from by unfold swStep; rw [h c (List.mem_cons_self ..)], swL_signs R b P (a + 1) acc fun c hc => h c (List.mem_cons_of_mem _ hc)]
    congr 1
    simp; omega
def posW : Nat → List (Nat × Int) → List (Nat × Nat)
  | _, [] => []
  | a, e :: l => (a + e.1, a + e.1 + (wordL e.2).length) :: posW (a + e.1 + (wordL e.2).length) l
theorem word_ns (k : Int) : ∀ c ∈ wordL k, Unicode.isSpace c = false := fun c hc => space_no (word_a5 k c hc).1 (word_a5 k c hc).2
def openW (so : Option Nat) (a : Nat) : List (Nat × Nat) := match so with
  | some b => [(b, a)]
  | none => []
theorem text_cons (e : Nat × Int) (l : List (Nat × Int)) : textOf (e :: l) = List.replicate e.1 32 ++ (wordL e.2 ++ textOf l) := by simp [textOf]
theorem swL_text : ∀ (l : List (Nat × Int)) (a : Nat) (acc : Array (Nat × Nat)) (so : Option Nat), (∀ e ∈ l, 1 ≤ e.1) →
    (swL (textOf l) a (acc, so)).1.toList ++ openW (swL (textOf l) a (acc, so)).2 (a + (textOf l).length) = acc.toList ++ openW so a ++ posW a l
  | [], a, acc, so, _ => by
    show acc.toList ++ openW so (a + 0) = _
    simp [posW]
  | e :: l, a, acc, so, h => by
    have he := h e (List.mem_cons_self ..)
    have e1 : swL (textOf (e :: l)) a (acc, so) = swL (textOf l) (a + e.1 + (wordL e.2).length) ((acc.toList ++ openW so a).toArray, some (a + e.1)) := by
      obtain ⟨r, hr⟩ : ∃ r, e.1 = r + 1 := ⟨e.1 - 1, by omega⟩
      rw [text_cons, hr, List.replicate_succ, List.cons_append]
      show swL _ (a + 1) (swStep a 32 (acc, so)) = _
      have hs : swStep a 32 (acc, so) = ((acc.toList ++ openW so a).toArray, none) := by
        unfold swStep
        rw [space_32]
        cases so with
        | none => simp [openW]
        | some b =>
          show (acc.push (b, a), none) = ((acc.toList ++ [(b, a)]).toArray, none)
          congr 1
          apply Array.toList_inj.mp
          simp
      rw [hs, swL_blanks]
      cases ew : wordL e.2 with
      | nil => rcases word_cases e.2 with ⟨q, _⟩ | ⟨q, _⟩ | ⟨q, _⟩ | ⟨q, _⟩ <;> rw [ew] at q <;> cases q
      | cons c P =>
        have hn := word_ns e.2
        rw [ew] at hn
        rw [List.cons_append]
        show swL _ (a + 1 + r + 1) (swStep (a + 1 + r) c (_, none)) = _
        rw [show swStep (a + 1 + r) c ((acc.toList ++ openW so a).toArray, none) = ((acc.toList ++ openW so a).toArray, some (a + 1 + r)) from by unfold swStep; rw [hn c (List.mem_cons_self ..)]]
        rw [swL_signs _ _ P _ _ fun c hc => hn c (List.mem_cons_of_mem _ hc)]
        rw [show a + 1 + r = a + (r + 1) from by omega, show a + (r + 1) + 1 + P.length = a + (r + 1) + (c :: P).length from by simp; omega]
    rw [e1]
    have ih := swL_text l (a + e.1 + (wordL e.2).length) (acc.toList ++ openW so a).toArray (some (a + e.1)) fun e he => h e (List.mem_cons_of_mem _ he)
    rw [show a + (textOf (e :: l)).length = a + e.1 + (wordL e.2).length + (textOf l).length from by rw [text_cons]; simp; omega]
    rw [ih]
    simp [openW, posW]
theorem space_text (l : List (Nat × Int)) (h : ∀ e ∈ l, 1 ≤ e.1) : spaceWords (mkS (textOf l)) ((mkS (textOf l)).length + 1) = posW 0 l := by
  rw [sw_eq]
  have hl : (mkS (textOf l)).length = (textOf l).length := mkS_length _
  have := sw_forIn (textOf l) ((mkS (textOf l)).length + 1) (mkS (textOf l)).length 0 (#[], none) (by omega) (by simp)
  rw [show (forIn (List.range' 0 (mkS (textOf l)).length) ((none, #[], none) : SwSt) (swBody (mkS (textOf l)) ((mkS (textOf l)).length + 1))).run = _ from this, List.drop_zero]
  have h2 := swL_text l 0 #[] none h
  unfold swEnd
  show (match (swL (textOf l) 0 (#[], none)).2 with | some b => (swL (textOf l) 0 (#[], none)).1.push (b, (mkS (textOf l)).length) | none => (swL (textOf l) 0 (#[], none)).1).toList = _
  rw [hl]
  rw [Nat.zero_add] at h2
  cases e : (swL (textOf l) 0 (#[], none)).2 with
  | none => rw [e] at h2; simpa [openW] using h2
  | some b => rw [e] at h2; simpa [openW] using h2
theorem pos_words (X : List Nat) : ∀ (l : List (Nat × Int)) (a : Nat), X.drop a = textOf l → (posW a l).map (fun (p : Nat × Nat) => strSub (mkS X) p.1 p.2) = l.map fun e => mkS (wordL e.2)
  | [], _, _ => rfl
  | e :: l, a, h => by
    rw [text_cons] at h
    have h1 : X.drop (a + e.1) = wordL e.2 ++ textOf l := by
      rw [← List.drop_drop, h, List.drop_append_of_le_length (by simp)]; simp
    have h2 : X.drop (a + e.1 + (wordL e.2).length) = textOf l := by
      rw [← List.drop_drop, h1]; simp
    show strSub (mkS X) (a + e.1) (a + e.1 + (wordL e.2).length) :: _ = _
    rw [sub_mk, h1, show a + e.1 + (wordL e.2).length - (a + e.1) = (wordL e.2).length from by omega, List.take_left]
    show _ :: _ = mkS (wordL e.2) :: _
    congr 1
    exact pos_words X l _ h2
theorem words_text (l : List (Nat × Int)) (h : ∀ e ∈ l, 1 ≤ e.1) : Txt.words (mkS (textOf l)) = l.map fun e => mkS (wordL e.2) := by
  have hw : PySem.wordsOf (mkS (textOf l)) = l.map fun e => mkS (wordL e.2) := by
    unfold PySem.wordsOf
    rw [space_text l h]
    exact pos_words (textOf l) l 0 rfl
  unfold Txt.words
  split
  · rename_i he
    have he := eq_of_beq he
    rw [← hw]
    unfold PySem.wordsOf
    rw [he]
    show _ = [strSub _ 0 _]
    rw [sub_whole]
  · exact hw
theorem join_blank : ∀ (l : List (List Nat)), l ≠ [] → (" " : Str) ++ Str.join " " (l.map mkS) = mkS ((l.map fun w => 32 :: w).flatten)
  | [], h => absurd rfl h
  | [w], _ => by
    show (" " : Str) ++ mkS w = _
    rw [show (" " : Str) = mkS [32] from rfl, mkS_append]; simp
  | w :: v :: l, _ => by
    have ih := join_blank (v :: l) (by simp)
    show (" " : Str) ++ (mkS w ++ (" " : Str) ++ Str.join " " ((v :: l).map mkS)) = _
    rw [PySem.Str.append_assoc, ih, show (" " : Str) = mkS [32] from rfl, mkS_append, mkS_append]
    simp
theorem none_cap (l : List (Nat × Int)) (h : ∀ e ∈ l, 1 ≤ e.1) (hne : l ≠ []) : (" " : Str) ++ Txt.join " " ((Txt.words (mkS (textOf l))).map Txt.capitalize) = mkS (dueOf none l) := by
  show _ ++ glued _ _ = _
  rw [glued_eq_join, words_text l h, List.map_map]
  have e : l.map (Txt.capitalize ∘ fun e => mkS (wordL e.2)) = (l.map fun e => capL e.2).map mkS := by
    rw [List.map_map]
    refine List.map_congr_left fun e _ => ?_
    show Txt.capitalize (mkS (wordL e.2)) = mkS (capL e.2)
    rw [capitalize_mk _ fun c hc => (word_a5 _ c hc).1, cap_word]
  rw [e, join_blank _ (by simpa using hne)]
  unfold dueOf
  rw [List.map_map]
  rfl
end Mine

end
section
open PySem PySem.W PySem.Calls PyProof.Rows PySem.SeqAt
set_option Elab.async false
set_option maxRecDepth 100000
set_option maxHeartbeats 1000000
namespace Mine
open Builtin Builtin.Str StrLaws

def ent (xs : List Int) : List (Nat × Int) := xs.map fun x => (runOf x, kindOfW x)
def lenE (mk : Option Nat) (e : Nat × Int) : Nat := gapW mk e.1 + (wordL e.2).length
def posD (mk : Option Nat) : Nat → List (Nat × Int) → List Int
  | _, [] => []
  | a, e :: l => (if bigW mk e.1 then [((a + gapW mk e.1 : Nat) : Int)] else []) ++ posD mk (a + lenE mk e) l
theorem due_cons (mk : Option Nat) (e : Nat × Int) (l : List (Nat × Int)) : dueOf mk (e :: l) = List.replicate (gapW mk e.1) 32 ++ ((if bigW mk e.1 then capL e.2 else lowL e.2) ++ dueOf mk l) := by simp [dueOf]
theorem big_len (b : Bool) (k : Int) : (if b then capL k else lowL k).length = (wordL k).length := by
  have := capL_len k
  split <;> omega
theorem written_ent (mk : Option Nat) : ∀ (xs : List Int) (t u : List Nat) (ps : List Int), xs.foldl (stepW mk) (t, u, ps) = (t ++ textOf (ent xs), u ++ dueOf mk (ent xs), ps ++ posD mk u.length (ent xs))
  | [], t, u, ps => by simp [ent, textOf, dueOf, posD]
  | x :: xs, t, u, ps => by
    rw [List.foldl_cons]
    have e1 : stepW mk (t, u, ps) x = (t ++ (List.replicate (runOf x) 32 ++ wordL (kindOfW x)), u ++ List.replicate (gapW mk (runOf x)) 32 ++ (if bigW mk (runOf x) then capL (kindOfW x) else lowL (kindOfW x)), if bigW mk (runOf x) then ps ++ [((u.length + gapW mk (runOf x) : Nat) : Int)] else ps) := by
      unfold stepW
      simp only [List.length_append, List.length_replicate]
    rw [e1, written_ent mk xs]
    have e2 : ent (x :: xs) = (runOf x, kindOfW x) :: ent xs := rfl
    rw [e2, text_cons, due_cons]
    simp only [Prod.mk.injEq, List.append_assoc, true_and]
    rw [posD]
    simp only [List.length_append, List.length_replicate, big_len, lenE]
    cases bigW mk (runOf x) <;> simp
theorem written_eq (mk : Option Nat) (xs : List Int) : writtenW mk xs = (textOf (ent xs), dueOf mk (ent xs), posD mk 0 (ent xs)) := by
  unfold writtenW
  rw [written_ent]
  simp
theorem text_app (a b : List (Nat × Int)) : textOf (a ++ b) = textOf a ++ textOf b := by simp [textOf]
theorem due_app (mk : Option Nat) (a b : List (Nat × Int)) : dueOf mk (a ++ b) = dueOf mk a ++ dueOf mk b := by simp [dueOf]
theorem text_rep (l : List (Nat × Int)) : ∀ W : Nat, textOf (List.replicate W l).flatten = (List.replicate W (textOf l)).flatten
  | 0 => rfl
  | W + 1 => by rw [List.replicate_succ, List.replicate_succ, List.flatten_cons, List.flatten_cons, text_app, text_rep l W]
theorem due_rep (mk : Option Nat) (l : List (Nat × Int)) : ∀ W : Nat, dueOf mk (List.replicate W l).flatten = (List.replicate W (dueOf mk l)).flatten
  | 0 => rfl
  | W + 1 => by rw [List.replicate_succ, List.replicate_succ, List.flatten_cons, List.flatten_cons, due_app, due_rep mk l W]
theorem ent_run (xs : List Int) : ∀ e ∈ ent xs, 1 ≤ e.1 := by
  intro e he
  obtain ⟨x, _, rfl⟩ := List.mem_map.mp he
  exact (runOf_le x).1

/-- capwords makes of the text what is due -/
theorem cap_due (mk : Option Nat) (hmk : ∀ k, mk = some k → 0 < k) (l : List (Nat × Int)) (h : ∀ e ∈ l, 1 ≤ e.1) (hne : l ≠ []) :
    (if mk.isNone then (" " : Str) else "") ++ Txt.join (sepOf mk) ((partsOf mk (mkS (textOf l))).map Txt.capitalize) = mkS (dueOf mk l) := by
  cases mk with
  | none => exact none_cap l h hne
  | some k =>
    show ("" : Str) ++ Txt.join _ ((Txt.split (mkS (textOf l)) (mkS (List.replicate k 32))).map Txt.capitalize) = _
    rw [show sepOf (some k) = mkS (List.replicate k 32) from rfl, split_cap k (hmk k rfl) _ (text_a5 l), mach_text k (hmk k rfl) l true h]
    rw [show ("" : Str) = mkS [] from rfl, mkS_append]; rfl

/-! great letters -/
def posB : Nat → List Nat → List Int
  | _, [] => []
  | a, c :: r => (if c = 65 ∨ c = 66 then [(a : Int)] else []) ++ posB (a + 1) r
theorem posB_app : ∀ (A B : List Nat) (a : Nat), posB a (A ++ B) = posB a A ++ posB (a + A.length) B
  | [], B, a => by simp [posB]
  | c :: A, B, a => by
    rw [List.cons_append, posB, posB_app A B (a + 1), posB, List.append_assoc, show a + 1 + A.length = a + (c :: A).length from by simp; omega]
theorem posB_rep : ∀ (r a : Nat), posB a (List.replicate r 32) = []
  | 0, _ => rfl
  | r + 1, a => by rw [List.replicate_succ, posB, posB_rep r (a + 1)]; simp
theorem posB_word (b : Bool) (k : Int) (a : Nat) : posB a (if b then capL k else lowL k) = if b then [(a : Int)] else [] := by
  cases b with
  | false => exact word_ind (C := fun _ _ l => posB a l = []) k rfl rfl rfl rfl
  | true => exact word_ind (C := fun _ c _ => posB a c = [(a : Int)]) k rfl rfl rfl rfl
theorem posB_due (mk : Option Nat) : ∀ (l : List (Nat × Int)) (a : Nat), posB a (dueOf mk l) = posD mk a l
  | [], _ => rfl
  | e :: l, a => by
    rw [due_cons, posB_app, posB_rep, List.nil_append, posB_app, posB_word, posB_due mk l, posD, List.length_replicate, big_len, lenE]
    rw [show a + gapW mk e.1 + (wordL e.2).length = a + (gapW mk e.1 + (wordL e.2).length) from by omega]
theorem due_a5 (mk : Option Nat) (l : List (Nat × Int)) : ∀ c ∈ dueOf mk l, A5 c := by
  intro c hc
  simp only [dueOf, List.mem_flatten, List.mem_map] at hc
  obtain ⟨_, ⟨e, _, rfl⟩, hc⟩ := hc
  rcases List.mem_append.mp hc with h | h
  · exact .inl (List.eq_of_mem_replicate h)
  · have hw := word_ind (C := fun _ p l => (∀ c ∈ p, A5 c) ∧ ∀ c ∈ l, A5 c) e.2 (by unfold A5; decide) (by unfold A5; decide) (by unfold A5; decide) (by unfold A5; decide)
    by_cases hb : bigW mk e.1 = true
    · rw [if_pos hb] at h; exact hw.1 c h
    · rw [if_neg hb] at h; exact hw.2 c h
theorem great_at (L : List Nat) (hL : ∀ c ∈ L, A5 c) (a : Nat) (ha : a < L.length) : isGreat L (a : Int) = decide (L[a] = 65 ∨ L[a] = 66) := by
  have e : Txt.item (mkS L) (a : Int) = mkS [L[a]] := by
    unfold Txt.item Txt.charAt
    rw [at_nonneg (x := mkS L) (n := L[a]) (by omega) (by rw [← Array.getElem?_toList, mkS_cps]; simp [ha])]
    rfl
  unfold isGreat
  rw [e]
  have := found_one ("AB" : Str) L[a]
  refine (show Txt.contains "AB" (mkS [L[a]]) = _ from this).trans ?_
  rw [show (("AB" : Str).cps.toList) = [65, 66] from rfl]
  simp
theorem great_pos (L : List Nat) (hL : ∀ c ∈ L, A5 c) : ∀ (m a : Nat), a + m = L.length → ((List.range' a m).map fun (i : Nat) => 0 + (i : Int)).filter (isGreat L) = posB a (L.drop a)
  | 0, a, h => by
    rw [List.drop_eq_nil_of_le (by omega)]; rfl
  | m + 1, a, h => by
    have ha : a < L.length := by omega
    rw [List.range'_succ, List.map_cons, List.filter_cons, great_pos L hL m (a + 1) (by omega), List.drop_eq_getElem_cons ha, posB, Int.zero_add, great_at L hL a ha]
    by_cases hc : L[a] = 65 ∨ L[a] = 66
    · rw [if_pos (by simpa using hc), if_pos hc]; rfl
    · rw [if_neg (by simpa using hc), if_neg hc]; rfl
theorem great_eq (mk : Option Nat) (l : List (Nat × Int)) : greatOf (dueOf mk l) = posD mk 0 l := by
  unfold greatOf rngI
  rw [List.range_eq_range', great_pos _ (due_a5 mk l) _ 0 (by simp), List.drop_zero, posB_due]
theorem posD_shift (mk : Option Nat) (b : Nat) : ∀ (l : List (Nat × Int)) (a : Nat), posD mk (a + b) l = (posD mk a l).map fun p => p + (b : Int)
  | [], _ => rfl
  | e :: l, a => by
    rw [posD, posD, List.map_append, show a + b + lenE mk e = a + lenE mk e + b from by omega, posD_shift mk b l]
    congr 1
    split
    · simp; omega
    · rfl
theorem posD_app (mk : Option Nat) : ∀ (l l' : List (Nat × Int)) (a : Nat), posD mk a (l ++ l') = posD mk a l ++ posD mk (a + (dueOf mk l).length) l'
  | [], l', a => by simp [posD, dueOf]
  | e :: l, l', a => by
    rw [List.cons_append, posD, posD_app mk l l', posD, List.append_assoc, due_cons]
    simp only [List.length_append, List.length_replicate, big_len, lenE]
    rw [show a + (gapW mk e.1 + (wordL e.2).length) + (dueOf mk l).length = a + (gapW mk e.1 + ((wordL e.2).length + (dueOf mk l).length)) from by omega]
theorem posD_rep (mk : Option Nat) (l : List (Nat × Int)) : ∀ (W a : Nat), posD mk a (List.replicate W l).flatten = ((List.range W).map fun j => (posD mk 0 l).map fun p => p + ((a + j * (dueOf mk l).length : Nat) : Int)).flatten
  | 0, _ => rfl
  | W + 1, a => by
    rw [List.replicate_succ, List.flatten_cons, posD_app, posD_rep mk l W, List.range_succ_eq_map, List.map_cons, List.flatten_cons, List.map_map]
    congr 1
    · have := posD_shift mk a l 0
      rw [Nat.zero_add] at this
      rw [this]; simp
    · congr 1
      refine List.map_congr_left fun j _ => ?_
      refine List.map_congr_left fun p _ => ?_
      rw [show a + (dueOf mk l).length + j * (dueOf mk l).length = a + (j + 1) * (dueOf mk l).length from by rw [Nat.add_mul]; omega]
theorem posD_bd (mk : Option Nat) : ∀ (l : List (Nat × Int)) (a : Nat), ∀ p ∈ posD mk a l, (a : Int) ≤ p ∧ p < ((a + (dueOf mk l).length : Nat) : Int)
  | [], _, p, h => by cases h
  | e :: l, a, p, h => by
    rw [posD] at h
    have hl : (dueOf mk (e :: l)).length = lenE mk e + (dueOf mk l).length := by rw [due_cons]; simp [big_len, lenE]; omega
    have hw := wordL_len e.2
    rcases List.mem_append.mp h with h | h
    · split at h
      · have := List.eq_of_mem_singleton h
        rw [hl, this]
        unfold lenE
        omega
      · cases h
    · have := posD_bd mk l _ p h
      rw [hl]
      omega
end Mine

end
section
open PySem PySem.W PySem.Calls PyProof.Rows PySem.SeqAt
set_option Elab.async false
set_option maxRecDepth 100000
set_option maxHeartbeats 1000000
namespace Mine
open Builtin Builtin.Str StrLaws
theorem partsFrom_len (x : Str) (k : Nat) : ∀ (cuts : List Nat) (a : Nat), (partsFrom x k a cuts).length = cuts.length + 1
  | [], _ => rfl
  | c :: r, a => by
    show (partsFrom x k (c + k) r).length + 1 = _
    rw [partsFrom_len x k r]; rfl
theorem partsFrom_le (X : List Nat) (k : Nat) : ∀ (cuts : List Nat) (a : Nat), ∀ p ∈ partsFrom (mkS X) k a cuts, p.length ≤ X.length
  | [], a, p, h => by
    rw [List.eq_of_mem_singleton h, sub_mk, mkS_length]
    simp; omega
  | c :: r, a, p, h => by
    rcases List.mem_cons.mp h with rfl | h
    · rw [sub_mk, mkS_length]; simp; omega
    · exact partsFrom_le X k r (c + k) p h
theorem capOk_text (mk : Option Nat) (hmk : ∀ k, mk = some k → 0 < k ∧ k ≤ 3) (l : List (Nat × Int)) (h : ∀ e ∈ l, 1 ≤ e.1) (hl : l.length ≤ 160) (hx : (textOf l).length ≤ 1280) (hne : l ≠ []) (hdl : (dueOf mk l).length ≤ 1280) : CapOk mk (mkS (textOf l)) ∧ (Txt.join (sepOf mk) ((partsOf mk (mkS (textOf l))).map Txt.capitalize)).length ≤ 2 ^ 20 := by
  have hlen : (mkS (textOf l)).length = (textOf l).length := mkS_length _
  have hparts : (partsOf mk (mkS (textOf l))).length ≤ 1300 ∧ ∀ p ∈ partsOf mk (mkS (textOf l)), p.length ≤ 1280 := by
    cases mk with
    | none =>
      show (Txt.words _).length ≤ _ ∧ ∀ p ∈ Txt.words _, _
      rw [words_text l h]
      refine ⟨by simp; omega, fun p hp => ?_⟩
      obtain ⟨e, _, rfl⟩ := List.mem_map.mp hp
      rw [mkS_length]
      have := wordL_len e.2
      omega
    | some k =>
      show (Txt.split _ _).length ≤ _ ∧ ∀ p ∈ Txt.split _ _, _
      obtain ⟨cuts, f, _, _, h3, h4⟩ := split_parts k (hmk k rfl).1 (textOf l) (text_a5 l)
      rw [h4]
      refine ⟨by rw [partsFrom_len]; omega, fun p hp => ?_⟩
      have := partsFrom_le (textOf l) k cuts 0 p hp
      omega
  have hsep : (sepOf mk).length ≤ 3 := by
    cases mk with
    | none => decide
    | some k =>
      show (mkS (List.replicate k 32)).length ≤ 3
      rw [mkS_length, List.length_replicate]
      exact (hmk k rfl).2
  have hcap : ∀ p ∈ (partsOf mk (mkS (textOf l))).map Txt.capitalize, p.length ≤ 3840 := by
    intro p hp
    obtain ⟨q, hq, rfl⟩ := List.mem_map.mp hp
    have := len_capitalize q
    have := hparts.2 q hq
    omega
  have hcl : ((partsOf mk (mkS (textOf l))).map Txt.capitalize).length ≤ 1300 := by rw [List.length_map]; exact hparts.1
  refine ⟨⟨?_, ?_, ?_, ?_, ?_, ?_⟩, ?_⟩
  · rw [hlen]; simp only [sizeLine]; omega
  · intro _
    have := (sw_weight (mkS (textOf l))).1
    have := len_le_wsum (spaceWords (mkS (textOf l)) ((mkS (textOf l)).length + 1))
    simp only [sizeLine]; omega
  · intro k hk
    refine ⟨(hmk k hk).1, by have := (hmk k hk).2; omega, ?_⟩
    rw [partsBetween_eq, partsFrom_len]
    have := occ_length_le (mkS (textOf l)) (mkS (List.replicate k 32)) 0 (mkS (textOf l)).length ((mkS (textOf l)).length + 1)
    simp only [sizeLine]; omega
  · have := hparts.1
    simp only [sizeLine]; omega
  · intro p hp
    have := hparts.2 p hp
    omega
  · unfold JoinOk
    rw [joinFits hcap]
    · rfl
    · have h1 : ((partsOf mk (mkS (textOf l))).map Txt.capitalize).length * 3840 ≤ 1300 * 3840 := Nat.mul_le_mul_right _ hcl
      have h2 : ((partsOf mk (mkS (textOf l))).map Txt.capitalize).length * (sepOf mk).length ≤ 1300 * 3 := Nat.mul_le_mul hcl hsep
      omega
  · have hd := cap_due mk (fun k hk => (hmk k hk).1) l h hne
    have hd2 := congrArg Str.length hd
    rw [PySem.Str.length_append, mkS_length] at hd2
    omega
end Mine

end
section
open PySem PySem.W PySem.Calls PyProof.Rows PySem.SeqAt
set_option Elab.async false
set_option maxRecDepth 100000
set_option maxHeartbeats 1000000
namespace Mine
open Float64 (val V decode sgn pack infMag Right dist)
/-! floats as rationals -/
theorem grid : ∀ (i j : Nat), j ≤ 2 ^ 53 → ∃ t, V t = j * 2 ^ i
  | 0, j, h => ⟨0 * 2 ^ 52 + j, Float64.V_at h (.inr rfl)⟩
  | i + 1, j, h => by
    by_cases h2 : 2 ^ 52 ≤ j
    · exact ⟨(i + 1) * 2 ^ 52 + j, Float64.V_at h (.inl h2)⟩
    · obtain ⟨t, ht⟩ := grid i (2 * j) (by omega)
      exact ⟨t, by rw [ht, Nat.pow_succ]; ac_rfl⟩
theorem near_core {r : UInt64} {neg : Bool} {W D i : Nat} (h : Right r neg W D) (hD : 0 < D) (hi : i ≤ 1900) (hW : W ≤ D * 2 ^ i * 2 ^ 52) :
    ∃ t, r = pack neg t ∧ t < infMag ∧ 2 * dist W (D * V t) ≤ D * 2 ^ i := by
  obtain ⟨t, rfl, hle, hov, hn⟩ := h
  have hu : 0 < D * 2 ^ i := Nat.mul_pos hD (Nat.two_pow_pos _)
  have hlt : t < infMag := by
    refine Nat.lt_of_le_of_ne hle fun e => ?_
    have h1 := hov.mp e
    have h2 : 2 * W < D * ((2 ^ 54 - 1) * 2 ^ 2045) := by
      have h3 : 2 ^ i ≤ 2 ^ 1900 := Nat.pow_le_pow_right (by decide) hi
      have h4 : 2 * W ≤ D * (2 ^ i * 2 ^ 53) := by
        have e : 2 * (D * 2 ^ i * 2 ^ 52) = D * (2 ^ i * 2 ^ 53) := by
          rw [Nat.pow_succ 2 52]; generalize (2 : Nat) ^ i = a; generalize (2 : Nat) ^ 52 = b; ac_rfl
        rw [← e]; exact Nat.mul_le_mul_left 2 hW
      exact Nat.lt_of_le_of_lt h4 (Nat.mul_lt_mul_of_pos_left (Nat.lt_of_le_of_lt (Nat.mul_le_mul_right _ h3) (by decide +kernel)) hD)
    exact absurd h1 (Nat.not_le.mpr h2)
  refine ⟨t, rfl, hlt, ?_⟩
  have hj : (2 * W + D * 2 ^ i) / (2 * (D * 2 ^ i)) ≤ 2 ^ 53 := by
    have : (2 * W + D * 2 ^ i) / (2 * (D * 2 ^ i)) < 2 ^ 53 := by
      rw [Nat.div_lt_iff_lt_mul (by omega)]
      generalize D * 2 ^ i = u at *
      omega
    omega
  obtain ⟨t', ht'⟩ := grid i _ hj
  have h1 := (hn hlt t').1
  rw [ht'] at h1
  have h2 := Nat.div_add_mod (2 * W + D * 2 ^ i) (2 * (D * 2 ^ i))
  have h3 := Nat.mod_lt (2 * W + D * 2 ^ i) (show 0 < 2 * (D * 2 ^ i) by omega)
  generalize (2 * W + D * 2 ^ i) / (2 * (D * 2 ^ i)) = j at *
  have h4 : D * (j * 2 ^ i) = D * 2 ^ i * j := by ac_rfl
  rw [h4] at h1
  have h5 : 2 * (D * 2 ^ i) * j = 2 * (D * 2 ^ i * j) := by ac_rfl
  rw [h5] at h2
  refine Nat.le_trans (Nat.mul_le_mul_left 2 h1) ?_
  clear h1 h4 h5 ht' hn hov hle hlt hW hi
  generalize D * 2 ^ i * j = q at *
  generalize D * 2 ^ i = u at *
  generalize (2 * W + u) % (2 * u) = m at *
  unfold dist
  omega

def cc : Rat := 2 ^ 1074
theorem cc_pos : 0 < cc := by unfold cc; exact Rat.pow_pos (by decide)
def rv (x : UInt64) : Rat := (val x : Rat) / cc
def Fn (x : UInt64) : Prop := ∃ a m e, decode x = .fin a m e

theorem dist_two {a b u : Nat} (h : 2 * dist a b ≤ u) : 2 * a ≤ 2 * b + u ∧ 2 * b ≤ 2 * a + u := by
  unfold dist at h
  omega
theorem near_int {r : UInt64} {neg : Bool} {W D i : Nat} (h : Right r neg W D) (hD : 0 < D) (hi : i ≤ 1900) (hW : W ≤ D * 2 ^ i * 2 ^ 52) :
    Fn r ∧ -((D * 2 ^ i : Nat) : Int) ≤ 2 * (sgn neg W - D * val r) ∧ 2 * (sgn neg W - D * val r) ≤ ((D * 2 ^ i : Nat) : Int) := by
  obtain ⟨t, rfl, hlt, hd⟩ := near_core h hD hi hW
  obtain ⟨m, e, hdec, _⟩ := Float64.decode_pack neg hlt
  refine ⟨⟨_, _, _, hdec⟩, ?_⟩
  rw [Float64.val_pack neg hlt]
  have hd2 := dist_two hd
  clear hd hdec hlt hW hi h
  have e1 : (D : Int) * sgn neg (V t) = sgn neg (D * V t) := by
    unfold sgn; cases neg <;> simp [Int.mul_neg]
  rw [e1]
  generalize D * V t = p at *
  generalize D * 2 ^ i = u at *
  clear e1 hD
  cases neg
  · show -(u : Int) ≤ 2 * ((W : Int) - (p : Int)) ∧ 2 * ((W : Int) - (p : Int)) ≤ (u : Int)
    omega
  · show -(u : Int) ≤ 2 * (-(W : Int) - -(p : Int)) ∧ 2 * (-(W : Int) - -(p : Int)) ≤ (u : Int)
    omega

theorem ratLe {a b : Int} (h : a ≤ b) : (a : Rat) ≤ (b : Rat) := Rat.intCast_le_intCast.mpr h
theorem near_rat {r v c d B y : Rat} (hc : 0 < c) (hd : 0 < d) (q1 : -(d * (B * c / 4503599627370496)) ≤ 2 * (v * c * d - d * (y * c))) (q2 : 2 * (v * c * d - d * (y * c)) ≤ d * (B * c / 4503599627370496)) :
    v - B / 9007199254740992 ≤ y ∧ y ≤ v + B / 9007199254740992 := by
  have t1 : 0 ≤ B / 9007199254740992 - (y - v) := by
    apply Rat.not_lt.mp
    intro hneg
    have := Rat.mul_pos (Rat.mul_pos hd hc) (show (0 : Rat) < (y - v) - B / 9007199254740992 by grind)
    grind
  have t2 : 0 ≤ B / 9007199254740992 + (y - v) := by
    apply Rat.not_lt.mp
    intro hneg
    have := Rat.mul_pos (Rat.mul_pos hd hc) (show (0 : Rat) < -(y - v) - B / 9007199254740992 by grind)
    grind
  grind
theorem near_abs {r : UInt64} {neg : Bool} {W D P B C i : Nat} {v : Rat} (h : Right r neg W D) (hD : 0 < D) (hi : i ≤ 1900) (hP : P = D * 2 ^ i) (hPB : P * 4503599627370496 = B * C * D) (hC : cc = (C : Rat))
    (hv : v * cc * (D : Rat) = ((sgn neg W : Int) : Rat)) (h1 : v ≤ (B : Rat)) (h2 : -(B : Rat) ≤ v) :
    Fn r ∧ v - (B : Rat) / 9007199254740992 ≤ rv r ∧ rv r ≤ v + (B : Rat) / 9007199254740992 := by
  have hc := cc_pos
  have hDr : (0 : Rat) < (D : Rat) := by exact_mod_cast hD
  have hW : W ≤ D * 2 ^ i * 2 ^ 52 := by
    rw [← hP, show (2 : Nat) ^ 52 = 4503599627370496 from rfl, hPB]
    have h3 : ((sgn neg W : Int) : Rat) ≤ ((B * C * D : Nat) : Rat) := by
      rw [← hv, Rat.natCast_mul, Rat.natCast_mul, ← hC]
      exact Rat.mul_le_mul_of_nonneg_right (Rat.mul_le_mul_of_nonneg_right h1 (Rat.le_of_lt hc)) (Rat.le_of_lt hDr)
    have h4 : -((B * C * D : Nat) : Rat) ≤ ((sgn neg W : Int) : Rat) := by
      rw [← hv, Rat.natCast_mul, Rat.natCast_mul, ← hC]
      have := Rat.mul_le_mul_of_nonneg_right (Rat.mul_le_mul_of_nonneg_right h2 (Rat.le_of_lt hc)) (Rat.le_of_lt hDr)
      grind
    generalize B * C * D = E at *
    have h3' : sgn neg W ≤ (E : Int) := Rat.intCast_le_intCast.mp (by rw [Rat.intCast_natCast]; exact h3)
    have h4' : -(E : Int) ≤ sgn neg W := Rat.intCast_le_intCast.mp (by rw [Rat.intCast_neg, Rat.intCast_natCast]; exact h4)
    unfold sgn at h3' h4'
    cases neg <;> simp at h3' h4' <;> omega
  obtain ⟨hf, p1, p2⟩ := near_int h hD hi hW
  refine ⟨hf, ?_⟩
  rw [← hP] at p1 p2
  have q1 := ratLe p1
  have q2 := ratLe p2
  have e2 : (P : Rat) = (D : Rat) * ((B : Rat) * cc / 4503599627370496) := by
    have := congrArg (fun n : Nat => (n : Rat)) hPB
    simp only [Rat.natCast_mul] at this
    rw [← hC] at this
    grind
  have e3 : (val r : Rat) = rv r * cc := by unfold rv; grind
  simp only [Rat.intCast_mul, Rat.intCast_sub, Rat.intCast_neg, Rat.intCast_natCast, e2, e3, ← hv] at q1 q2
  exact near_rat (r := 0) hc hDr q1 q2
theorem pow_split (k D : Nat) : D * 2 ^ (k + 1022) * 4503599627370496 = 2 ^ k * 2 ^ 1074 * D := by
  rw [Nat.pow_add, show (2 : Nat) ^ 1074 = 2 ^ 1022 * 4503599627370496 from by decide +kernel]
  generalize (2 : Nat) ^ 1022 = a; generalize (2 : Nat) ^ k = c
  ac_rfl
theorem cc_eq : cc = ((2 ^ 1074 : Nat) : Rat) := by unfold cc; simp
/-- rounding: what is at most 2^k big is hit within 2^k / 2^53 -/
theorem near {r : UInt64} {neg : Bool} {W D : Nat} {v : Rat} (h : Right r neg W D) (hD : 0 < D) (k : Nat) {B : Nat} (hB : B = 2 ^ k) (hk : k ≤ 800) (hv : v * cc * (D : Rat) = ((sgn neg W : Int) : Rat)) (h1 : v ≤ (B : Rat)) (h2 : -(B : Rat) ≤ v) :
    Fn r ∧ v - (B : Rat) / 9007199254740992 ≤ rv r ∧ rv r ≤ v + (B : Rat) / 9007199254740992 :=
  near_abs h hD (i := k + 1022) (by omega) rfl (by rw [hB]; exact pow_split k D) cc_eq hv h1 h2
end Mine

end
section
open PySem PySem.W PySem.Calls PyProof.Rows PySem.SeqAt
set_option Elab.async false
set_option maxRecDepth 100000
set_option maxHeartbeats 1000000
namespace Mine
open Float64 (val V decode sgn pack infMag Right dist)
/-- r is a finite float within B / 2^53 of v -/
structure Nr (r : UInt64) (v B : Rat) : Prop where
  fin : Fn r
  lo : v - B / 9007199254740992 ≤ rv r
  hi : rv r ≤ v + B / 9007199254740992

theorem val_rv (x : UInt64) : (val x : Rat) = rv x * cc := by have := cc_pos; unfold rv; grind
theorem sgn_abs (z : Int) : sgn (decide (z < 0)) z.natAbs = z := by
  unfold sgn
  by_cases h : z < 0
  · simp [h]; omega
  · simp [h]; omega
theorem zero_fn (b : Bool) : Fn (Float64.zero b) ∧ rv (Float64.zero b) = 0 := by
  obtain ⟨m, e, h, _⟩ := Float64.decode_pack b (t := 0) (by decide)
  refine ⟨⟨_, _, _, h⟩, ?_⟩
  unfold rv
  rw [show Float64.zero b = pack b 0 from rfl, Float64.val_pack b (by decide), Float64.V_zero]
  cases b <;> simp [sgn] <;> grind
theorem Bpos (B : Nat) : (0 : Rat) ≤ (B : Rat) / 9007199254740992 := by
  have : (0 : Rat) ≤ (B : Rat) := by exact_mod_cast Nat.zero_le B
  grind

theorem add_nr {x y : UInt64} (hx : Fn x) (hy : Fn y) (k : Nat) {B : Rat} (hB : ((2 ^ k : Nat) : Rat) = B) (hk : k ≤ 800) (h1 : rv x + rv y ≤ B) (h2 : -B ≤ rv x + rv y) : Nr (Float64.add x y) (rv x + rv y) B := by
  subst hB
  obtain ⟨a, m, e, dx⟩ := hx
  obtain ⟨b, m', f, dy⟩ := hy
  obtain ⟨h3, h4⟩ := Float64.add_right dx dy
  have hc := cc_pos
  have e1 : ((val x + val y : Int) : Rat) = (rv x + rv y) * cc := by rw [Rat.intCast_add, val_rv, val_rv]; grind
  by_cases hz : val x + val y = 0
  · rw [h3 hz]
    have e2 : rv x + rv y = 0 := by
      rw [hz] at e1
      have e3 : (rv x + rv y) * cc = 0 := by rw [← e1]; rfl
      rcases Rat.mul_eq_zero.mp e3 with h | h
      · exact h
      · grind
    obtain ⟨f1, f2⟩ := zero_fn (a && b)
    have := Bpos (2 ^ k)
    exact ⟨f1, by rw [f2, e2]; grind, by rw [f2, e2]; grind⟩
  · obtain ⟨f1, f2, f3⟩ := near (v := rv x + rv y) (h4 hz) (by decide) k rfl hk (by rw [sgn_abs, e1]; simp) h1 h2
    exact ⟨f1, f2, f3⟩
theorem sub_nr {x y : UInt64} (hx : Fn x) (hy : Fn y) (k : Nat) {B : Rat} (hB : ((2 ^ k : Nat) : Rat) = B) (hk : k ≤ 800) (h1 : rv x - rv y ≤ B) (h2 : -B ≤ rv x - rv y) : Nr (Float64.sub x y) (rv x - rv y) B := by
  subst hB
  obtain ⟨b, m', f, dy⟩ := hy
  have hn : Fn (Float64.neg y) := ⟨_, _, _, Float64.neg_decode dy⟩
  have e : rv (Float64.neg y) = - rv y := by
    have hc := cc_pos
    unfold rv
    rw [Float64.neg_val dy, Rat.intCast_neg]
    grind
  have := add_nr hx hn k rfl hk (by rw [e]; grind) (by rw [e]; grind)
  rw [e] at this
  have e2 : rv x + -rv y = rv x - rv y := by grind
  rw [e2] at this
  unfold Float64.sub
  exact this
theorem sgn_bne (a b : Bool) (m n : Nat) : sgn (a != b) (m * n) = sgn a m * sgn b n := by
  cases a <;> cases b <;> simp [sgn, Int.neg_mul, Int.mul_neg]
theorem mul_nr {x y : UInt64} (hx : Fn x) (hy : Fn y) (k : Nat) {B : Rat} (hB : ((2 ^ k : Nat) : Rat) = B) (hk : k ≤ 800) (h1 : rv x * rv y ≤ B) (h2 : -B ≤ rv x * rv y) : Nr (Float64.mul x y) (rv x * rv y) B := by
  subst hB
  obtain ⟨a, m, e, dx⟩ := hx
  obtain ⟨b, m', f, dy⟩ := hy
  have h := Float64.mul_right dx dy
  have e1 : ((sgn (a != b) ((val x).natAbs * (val y).natAbs) : Int) : Rat) = rv x * rv y * cc * ((2 ^ 1074 : Nat) : Rat) := by
    rw [← cc_eq, Float64.val_natAbs dx, Float64.val_natAbs dy, sgn_bne, ← Float64.val_eq dx, ← Float64.val_eq dy, Rat.intCast_mul, val_rv, val_rv]
    grind
  obtain ⟨f1, f2, f3⟩ := near (v := rv x * rv y) h (Nat.two_pow_pos _) k rfl hk e1.symm h1 h2
  exact ⟨f1, f2, f3⟩
theorem div_nr {x y : UInt64} (hx : Fn x) (hy : Fn y) (hy0 : rv y ≠ 0) (k : Nat) {B : Rat} (hB : ((2 ^ k : Nat) : Rat) = B) (hk : k ≤ 800) (h1 : rv x / rv y ≤ B) (h2 : -B ≤ rv x / rv y) : Nr (Float64.div x y) (rv x / rv y) B := by
  subst hB
  obtain ⟨a, m, e, dx⟩ := hx
  obtain ⟨b, m', f, dy⟩ := hy
  have hv0 : val y ≠ 0 := by
    intro h
    apply hy0
    unfold rv
    rw [h]
    have := cc_pos
    grind
  have hm' : m' ≠ 0 := by
    intro h
    apply hv0
    rw [Float64.val_eq dy, h]
    cases b <;> simp [sgn]
  have h := Float64.div_right dx dy hm'
  have hpos : 0 < (val y).natAbs := by omega
  have hc := cc_pos
  have e1 : rv x / rv y * cc * (((val y).natAbs : Nat) : Rat) = ((sgn (a != b) ((val x).natAbs * 2 ^ 1074) : Int) : Rat) := by
    have hs : sgn (a != b) ((val x).natAbs * 2 ^ 1074) = val x * sgn b (2 ^ 1074) := by
      rw [sgn_bne, Float64.val_natAbs dx, ← Float64.val_eq dx]
    have ey : ((val y).natAbs : Int) = sgn b 1 * val y := by
      rw [Float64.val_natAbs dy, Float64.val_eq dy]
      cases b <;> simp [sgn]
    have ey2 : (((val y).natAbs : Nat) : Rat) = ((sgn b 1 : Int) : Rat) * (rv y * cc) := by
      rw [← val_rv, ← Rat.intCast_mul, ← ey, Rat.intCast_natCast]
    have ec : ((sgn b (2 ^ 1074) : Int) : Rat) = ((sgn b 1 : Int) : Rat) * cc := by
      have : (sgn b (2 ^ 1074) : Int) = sgn b 1 * ((2 ^ 1074 : Nat) : Int) := by rw [← Float64.sgn_mul, Nat.one_mul]
      rw [this, Rat.intCast_mul, Rat.intCast_natCast, ← cc_eq]
    rw [hs, ey2, Rat.intCast_mul, ec, val_rv]
    have : rv x / rv y * rv y = rv x := by grind
    grind
  obtain ⟨f1, f2, f3⟩ := near (v := rv x / rv y) h hpos k rfl hk e1 h1 h2
  exact ⟨f1, f2, f3⟩
/-- the float of a quotient of ints -/
theorem fdiv_nr (a b : Int) (hb : 0 < b) (k : Nat) {B : Rat} (hB : ((2 ^ k : Nat) : Rat) = B) (hk : k ≤ 800) (h1 : (a : Rat) / (b : Rat) ≤ B) (h2 : -B ≤ (a : Rat) / (b : Rat)) : Nr (fdivI a b) ((a : Rat) / (b : Rat)) B := by
  subst hB
  have hbn : 0 < b.natAbs := by omega
  have hs : (decide (a < 0) != decide (b < 0)) = decide (a < 0) := by
    have : ¬ b < 0 := by omega
    simp [this]
  have h : Right (fdivI a b) (decide (a < 0)) (a.natAbs * 2 ^ 1074) b.natAbs := by
    unfold fdivI
    rw [hs]
    exact Float64.ofFrac_right hbn rfl hbn
  have hbr : (0 : Rat) < (b : Rat) := by exact_mod_cast hb
  have e1 : (a : Rat) / (b : Rat) * cc * ((b.natAbs : Nat) : Rat) = ((sgn (decide (a < 0)) (a.natAbs * 2 ^ 1074) : Int) : Rat) := by
    have e2 : ((b.natAbs : Nat) : Rat) = (b : Rat) := by
      rw [← Rat.intCast_natCast]; congr 1; omega
    rw [e2, Float64.sgn_mul, sgn_abs, Rat.intCast_mul, Rat.intCast_natCast, ← cc_eq]
    have : (a : Rat) / (b : Rat) * (b : Rat) = a := by grind
    grind
  obtain ⟨f1, f2, f3⟩ := near h hbn k rfl hk e1 h1 h2
  exact ⟨f1, f2, f3⟩
theorem ofInt_nr (a : Int) (k : Nat) {B : Rat} (hB : ((2 ^ k : Nat) : Rat) = B) (hk : k ≤ 800) (h1 : (a : Rat) ≤ B) (h2 : -B ≤ (a : Rat)) : Nr (Float64.ofInt a) (a : Rat) B := by
  subst hB
  have h := Float64.ofInt_right a
  have e1 : (a : Rat) * cc * (((1 : Nat)) : Rat) = ((sgn (decide (a < 0)) (a.natAbs * 2 ^ 1074) : Int) : Rat) := by
    rw [Float64.sgn_mul, sgn_abs, Rat.intCast_mul, Rat.intCast_natCast, ← cc_eq]
    simp
  obtain ⟨f1, f2, f3⟩ := near h (by decide) k rfl hk e1 h1 h2
  exact ⟨f1, f2, f3⟩
end Mine

end
section
open PySem PySem.W PySem.Calls PyProof.Rows PySem.SeqAt
set_option Elab.async false
set_option maxRecDepth 100000
set_option maxHeartbeats 1000000
namespace Mine
open Float64 (val V decode sgn pack infMag Right dist)

theorem rv_lt {x y : UInt64} : rv x < rv y ↔ val x < val y := by
  have hc := cc_pos
  have e1 := val_rv x
  have e2 := val_rv y
  constructor
  · intro h
    apply Rat.intCast_lt_intCast.mp
    rw [e1, e2]
    exact Rat.mul_lt_mul_of_pos_right h hc
  · intro h
    have := Rat.intCast_lt_intCast.mpr h
    rw [e1, e2] at this
    apply Rat.not_le.mp
    intro h2
    have := Rat.mul_le_mul_of_nonneg_right h2 (Rat.le_of_lt hc)
    grind
theorem rv_eq {x y : UInt64} : rv x = rv y ↔ val x = val y := by
  constructor
  · intro h
    apply Int.le_antisymm
    · exact Int.not_lt.mp fun q => by have := rv_lt.mpr q; grind
    · exact Int.not_lt.mp fun q => by have := rv_lt.mpr q; grind
  · intro h; unfold rv; rw [h]
theorem cmp_lt {x y : UInt64} (hx : Fn x) (hy : Fn y) : (Float64.cmp x y == some .lt) = decide (rv x < rv y) := by
  obtain ⟨_, _, _, dx⟩ := hx
  obtain ⟨_, _, _, dy⟩ := hy
  rw [Float64.cmp_right dx dy]
  by_cases h : rv x < rv y
  · rw [Int.compare_eq_lt.mpr (rv_lt.mp h)]; simp [h]
  · have h2 : ¬ val x < val y := fun q => h (rv_lt.mpr q)
    have : compare (val x) (val y) ≠ .lt := fun q => h2 (Int.compare_eq_lt.mp q)
    simp [h, this]
theorem cmp_gt {x y : UInt64} (hx : Fn x) (hy : Fn y) : (Float64.cmp x y == some .gt) = decide (rv y < rv x) := by
  obtain ⟨_, _, _, dx⟩ := hx
  obtain ⟨_, _, _, dy⟩ := hy
  rw [Float64.cmp_right dx dy]
  by_cases h : rv y < rv x
  · rw [Int.compare_eq_gt.mpr (rv_lt.mp h)]; simp [h]
  · have h2 : ¬ val y < val x := fun q => h (rv_lt.mpr q)
    have : compare (val x) (val y) ≠ .gt := fun q => h2 (Int.compare_eq_gt.mp q)
    simp [h, this]
theorem cmp_eq {x y : UInt64} (hx : Fn x) (hy : Fn y) : (Float64.cmp x y == some .eq) = decide (rv x = rv y) := by
  obtain ⟨_, _, _, dx⟩ := hx
  obtain ⟨_, _, _, dy⟩ := hy
  rw [Float64.cmp_right dx dy]
  by_cases h : rv x = rv y
  · rw [rv_eq.mp h]; simp [h]
  · have h2 : ¬ val x = val y := fun q => h (rv_eq.mpr q)
    have : compare (val x) (val y) ≠ .eq := fun q => h2 (Int.compare_eq_eq.mp q)
    simp [h, this]
theorem fin_of {x : UInt64} (h : Fn x) : Float64.isFinite x = true := by
  obtain ⟨_, _, _, d⟩ := h
  unfold Float64.isFinite; rw [d]
theorem inf_of {x : UInt64} (h : Fn x) : Float64.isInf x = false := by
  obtain ⟨_, _, _, d⟩ := h
  unfold Float64.isInf; rw [d]
theorem zero_of {x : UInt64} (h : Fn x) (h0 : rv x ≠ 0) : Float64.isZero x = false := by
  obtain ⟨a, m, e, d⟩ := h
  unfold Float64.isZero
  rw [d]
  cases m with
  | zero =>
    exfalso
    apply h0
    unfold rv
    rw [Float64.val_eq d]
    have := cc_pos
    cases a <;> simp [sgn] <;> grind
  | succ m => rfl
theorem zero_iff {x : UInt64} (h : Fn x) (h0 : Float64.isZero x = true) : rv x = 0 := by
  apply Classical.byContradiction
  intro hn
  rw [zero_of h hn] at h0
  cases h0

theorem neg1074 {e : Int} (h : -1074 ≤ e) : 0 ≤ e + 1074 := by omega
theorem trunc_int {x : UInt64} (hx : Fn x) (h0 : 0 ≤ val x) : truncF x * ((2 ^ 1074 : Nat) : Int) ≤ val x ∧ val x < (truncF x + 1) * ((2 ^ 1074 : Nat) : Int) := by
  obtain ⟨a, m, e, d⟩ := hx
  have hv := Float64.val_eq d
  have hge := Float64.decode_ge d
  have hC : (0 : Int) < ((2 ^ 1074 : Nat) : Int) := Int.ofNat_lt.mpr (Nat.two_pow_pos _)
  have e0 : truncF x = Float64.truncOf a m e := by unfold truncF; rw [d]
  rw [e0]
  have hpos : ∀ n : Nat, (0 : Int) < ((2 ^ n : Nat) : Int) := fun n => Int.ofNat_lt.mpr (Nat.two_pow_pos _)
  have hfl : ∀ s : Bool, (sgn s m ≥ 0 → Float64.floorOf s m e * ((2 ^ 1074 : Nat) : Int) ≤ sgn s (m * 2 ^ (e + 1074).toNat) ∧ sgn s (m * 2 ^ (e + 1074).toNat) < (Float64.floorOf s m e + 1) * ((2 ^ 1074 : Nat) : Int)) := by
    intro s _
    rw [Float64.sgn_mul]
    unfold Float64.floorOf
    by_cases he : e ≥ 0
    · rw [if_pos he]
      have e1 : (e + 1074).toNat = e.toNat + 1074 := Int.toNat_add he (by decide)
      have e2 : ((2 ^ (e + 1074).toNat : Nat) : Int) = (2 : Int) ^ e.toNat * ((2 ^ 1074 : Nat) : Int) := by
        rw [e1, Nat.pow_add, Int.natCast_mul]; simp
      rw [e2, ← Int.mul_assoc]
      generalize sgn s m * 2 ^ e.toNat = z
      generalize ((2 ^ 1074 : Nat) : Int) = C at *
      rw [Int.add_mul]
      omega
    · rw [if_neg he]
      have e1 : 1074 = (-e).toNat + (e + 1074).toNat := by
        rw [← Int.toNat_add (Int.neg_nonneg_of_nonpos (Int.le_of_lt (Int.not_le.mp he))) (neg1074 hge), Int.neg_add_cancel_left]; rfl
      have e2 : ((2 ^ 1074 : Nat) : Int) = (2 : Int) ^ (-e).toNat * ((2 ^ (e + 1074).toNat : Nat) : Int) := by
        have : (2 : Nat) ^ 1074 = 2 ^ (-e).toNat * 2 ^ (e + 1074).toNat := by rw [← Nat.pow_add, ← e1]
        rw [this, Int.natCast_mul]; simp
      have hd : (0 : Int) < (2 : Int) ^ (-e).toNat := Int.pow_pos (by decide)
      rw [e2, Int.fdiv_eq_ediv_of_nonneg _ (Int.le_of_lt hd)]
      have h3 := Int.emod_add_mul_ediv (sgn s m) ((2 : Int) ^ (-e).toNat)
      have h4 := Int.emod_nonneg (sgn s m) (Int.ne_of_gt hd)
      have h5 := Int.emod_lt_of_pos (sgn s m) hd
      have hP := hpos (e + 1074).toNat
      generalize ((2 ^ (e + 1074).toNat : Nat) : Int) = P at *
      generalize (2 : Int) ^ (-e).toNat = Q at *
      generalize sgn s m / Q = q at *
      generalize sgn s m % Q = r at *
      have h6 : sgn s m = r + Q * q := by omega
      rw [h6]
      constructor
      · rw [← Int.mul_assoc]
        exact Int.mul_le_mul_of_nonneg_right (by rw [Int.mul_comm]; omega) (Int.le_of_lt hP)
      · rw [← Int.mul_assoc]
        exact Int.mul_lt_mul_of_pos_right (by rw [Int.add_mul, Int.one_mul, Int.mul_comm q Q]; omega) hP
  cases a with
  | false =>
    rw [hv]
    exact hfl false (by simp [sgn])
  | true =>
    have hm : m = 0 := by
      rw [hv] at h0
      simp only [sgn, if_true] at h0
      have h7 := hpos (e + 1074).toNat
      apply Classical.byContradiction
      intro hm
      have : 0 < m * 2 ^ (e + 1074).toNat := Nat.mul_pos (by omega) (Nat.two_pow_pos _)
      omega
    have h8 := hfl false (by simp [sgn])
    subst hm
    rw [hv]
    have e9 : Float64.truncOf true 0 e = - Float64.floorOf false 0 e := rfl
    have e10 : Float64.floorOf false 0 e = 0 := by
      unfold Float64.floorOf
      split <;> simp [sgn]
    rw [e9, e10]
    simp [sgn]
    omega
theorem trunc_rv {x : UInt64} (hx : Fn x) (h0 : 0 ≤ rv x) : ((truncF x : Int) : Rat) ≤ rv x ∧ rv x < ((truncF x : Int) : Rat) + 1 := by
  have hc := cc_pos
  have h0' : 0 ≤ val x := by
    apply Int.not_lt.mp
    intro h
    have h2 : rv x < 0 := by
      have := Rat.intCast_lt_intCast.mpr h
      rw [val_rv] at this
      apply Rat.not_le.mp
      intro h3
      have := Rat.mul_nonneg h3 (Rat.le_of_lt hc)
      grind
    grind
  obtain ⟨h1, h2⟩ := trunc_int hx h0'
  have q1 := Rat.intCast_le_intCast.mpr h1
  have q2 := Rat.intCast_lt_intCast.mpr h2
  simp only [Rat.intCast_mul, Rat.intCast_add, Rat.intCast_natCast, ← cc_eq, val_rv] at q1 q2
  generalize cc = c at *
  generalize rv x = y at *
  constructor
  · apply Rat.not_lt.mp
    intro h
    have := Rat.mul_pos (show 0 < (truncF x : Rat) - y by grind) hc
    grind
  · apply Rat.not_le.mp
    intro h
    have := Rat.mul_nonneg (show 0 ≤ y - ((truncF x : Rat) + 1) by grind) (Rat.le_of_lt hc)
    grind
theorem trunc_is {x : UInt64} {n : Int} (hx : Fn x) (h0 : 0 ≤ rv x) (h1 : (n : Rat) ≤ rv x) (h2 : rv x < (n : Rat) + 1) : truncF x = n := by
  obtain ⟨p, q⟩ := trunc_rv hx h0
  have a1 : ((truncF x : Int) : Rat) < ((n + 1 : Int) : Rat) := by rw [Rat.intCast_add]; grind
  have a2 : (n : Rat) < ((truncF x + 1 : Int) : Rat) := by rw [Rat.intCast_add]; grind
  have b1 := Rat.intCast_lt_intCast.mp a1
  have b2 := Rat.intCast_lt_intCast.mp a2
  omega
end Mine

end
section
open PySem PySem.W PySem.Calls PyProof.Rows PySem.SeqAt
set_option Elab.async false
set_option maxRecDepth 100000
set_option maxHeartbeats 1000000
namespace Mine
open Float64 (val V decode sgn pack infMag Right dist)

theorem rv_ge {x : UInt64} {n : Int} {d : Nat} (hd : 0 < d) (h : n * ((2 ^ 1074 : Nat) : Int) ≤ val x * (d : Int)) : (n : Rat) / (d : Rat) ≤ rv x := by
  have hc := cc_pos
  have hdr : (0 : Rat) < (d : Rat) := by exact_mod_cast hd
  have q := Rat.intCast_le_intCast.mpr h
  simp only [Rat.intCast_mul, Rat.intCast_natCast, ← cc_eq, val_rv] at q
  apply Rat.not_lt.mp
  intro hlt
  have e : (n : Rat) / (d : Rat) * (d : Rat) = n := by grind
  rw [← e] at q
  generalize (n : Rat) / (d : Rat) = t at *
  generalize (d : Rat) = d' at *
  generalize rv x = y at *
  clear h hd e
  have := Rat.mul_pos (Rat.mul_pos (show 0 < t - y by grind) hdr) hc
  grind
theorem rv_le {x : UInt64} {n : Int} {d : Nat} (hd : 0 < d) (h : val x * (d : Int) ≤ n * ((2 ^ 1074 : Nat) : Int)) : rv x ≤ (n : Rat) / (d : Rat) := by
  have hc := cc_pos
  have hdr : (0 : Rat) < (d : Rat) := by exact_mod_cast hd
  have q := Rat.intCast_le_intCast.mpr h
  simp only [Rat.intCast_mul, Rat.intCast_natCast, ← cc_eq, val_rv] at q
  apply Rat.not_lt.mp
  intro hlt
  have e : (n : Rat) / (d : Rat) * (d : Rat) = n := by grind
  rw [← e] at q
  generalize (n : Rat) / (d : Rat) = t at *
  generalize (d : Rat) = d' at *
  generalize rv x = y at *
  clear h hd e
  have := Rat.mul_pos (Rat.mul_pos (show 0 < y - t by grind) hdr) hc
  grind
theorem fn_of {x : UInt64} (h : Float64.isFinite x = true) : Fn x := by
  unfold Float64.isFinite at h
  unfold Fn
  cases e : decode x with
  | nan => rw [e] at h; cases h
  | inf _ => rw [e] at h; cases h
  | fin a m f => exact ⟨a, m, f, rfl⟩
theorem rv_is {x : UInt64} (n : Int) (d : Nat) (hd : 0 < d) (h : val x * (d : Int) = n * ((2 ^ 1074 : Nat) : Int)) : rv x = (n : Rat) / (d : Rat) :=
  Rat.le_antisymm (rv_le hd (Int.le_of_eq h)) (rv_ge hd (Int.le_of_eq h.symm))
theorem fF05 : Fn F05 := fn_of (by decide +kernel)
theorem fF1 : Fn F1 := fn_of (by decide +kernel)
theorem fF2 : Fn F2 := fn_of (by decide +kernel)
theorem fF4 : Fn F4 := fn_of (by decide +kernel)
theorem fF6 : Fn F6 := fn_of (by decide +kernel)
theorem fF13 : Fn F13 := fn_of (by decide +kernel)
theorem fF16 : Fn F16 := fn_of (by decide +kernel)
theorem fF23 : Fn F23 := fn_of (by decide +kernel)
theorem fF0 : Fn 0 := fn_of (by decide +kernel)
theorem rF05 : rv F05 = 1 / 2 := (rv_is (x := F05) 1 2 (by decide) (by decide +kernel)).trans (by decide +kernel)
theorem rF1 : rv F1 = 1 := (rv_is (x := F1) 1 1 (by decide) (by decide +kernel)).trans (by decide +kernel)
theorem rF2 : rv F2 = 2 := (rv_is (x := F2) 2 1 (by decide) (by decide +kernel)).trans (by decide +kernel)
theorem rF4 : rv F4 = 4 := (rv_is (x := F4) 4 1 (by decide) (by decide +kernel)).trans (by decide +kernel)
theorem rF6 : rv F6 = 6 := (rv_is (x := F6) 6 1 (by decide) (by decide +kernel)).trans (by decide +kernel)
theorem rF0 : rv 0 = 0 := (rv_is (x := 0) 0 1 (by decide) (by decide +kernel)).trans (by decide +kernel)
theorem rF13 : 1 / 3 - 1 / 9007199254740992 ≤ rv F13 ∧ rv F13 ≤ 1 / 3 + 1 / 9007199254740992 := by
  have h1 := rv_ge (x := F13) (n := 9007199254740992 - 3) (d := 3 * 9007199254740992) (by decide) (by decide +kernel)
  have h2 := rv_le (x := F13) (n := 9007199254740992 + 3) (d := 3 * 9007199254740992) (by decide) (by decide +kernel)
  refine ⟨Rat.le_trans ?_ h1, Rat.le_trans h2 ?_⟩ <;> decide +kernel
theorem rF16 : 1 / 6 - 1 / 9007199254740992 ≤ rv F16 ∧ rv F16 ≤ 1 / 6 + 1 / 9007199254740992 := by
  have h1 := rv_ge (x := F16) (n := 9007199254740992 - 6) (d := 6 * 9007199254740992) (by decide) (by decide +kernel)
  have h2 := rv_le (x := F16) (n := 9007199254740992 + 6) (d := 6 * 9007199254740992) (by decide) (by decide +kernel)
  refine ⟨Rat.le_trans ?_ h1, Rat.le_trans h2 ?_⟩ <;> decide +kernel
theorem rF23 : 2 / 3 - 1 / 9007199254740992 ≤ rv F23 ∧ rv F23 ≤ 2 / 3 + 1 / 9007199254740992 := by
  have h1 := rv_ge (x := F23) (n := 2 * 9007199254740992 - 3) (d := 3 * 9007199254740992) (by decide) (by decide +kernel)
  have h2 := rv_le (x := F23) (n := 2 * 9007199254740992 + 3) (d := 3 * 9007199254740992) (by decide) (by decide +kernel)
  refine ⟨Rat.le_trans ?_ h1, Rat.le_trans h2 ?_⟩ <;> decide +kernel

theorem bin_right (a : Bool) (M : Nat) (g : Int) (hg : -1074 ≤ g) : Right (Float64.ofBin a M g) a (M * 2 ^ (g + 1074).toNat) 1 := by
  unfold Float64.ofBin
  refine Float64.ofFrac_right (Float64.shift_pos _ _ _ (by decide)) ?_ (by decide)
  have := Float64.shift_one M g 1074 (by omega)
  rw [Nat.mul_one]
  exact this
theorem dF1 : decode F1 = .fin false 4503599627370496 (-52) := by kernel_rfl
theorem min_ok {e : Int} (h : -1074 ≤ e) : 0 ≤ min e (-52) + 1074 := by
  have h2 : -1074 ≤ min e (-52) := Int.le_min.mpr ⟨h, by decide⟩
  generalize min e (-52) = g at *
  omega
theorem add_back (a b c : Int) : a - b + (b + c) = a + c := by omega
theorem fmod_nr {x : UInt64} (hx : Fn x) : ∃ j : Int, Nr (Float64.fmod x F1) (rv x - j) 1 ∧ -1 < rv x - j ∧ rv x - j < 1 := by
  obtain ⟨a, m, e, dx⟩ := hx
  have hge := Float64.decode_ge dx
  have hc := cc_pos
  have e1 : Float64.fmod x F1 = Float64.ofBin a ((m * 2 ^ (e - min e (-52)).toNat) % (4503599627370496 * 2 ^ (-52 - min e (-52)).toNat)) (min e (-52)) := by
    unfold Float64.fmod
    rw [dx, dF1]
    rfl
  have hR := bin_right a ((m * 2 ^ (e - min e (-52)).toNat) % (4503599627370496 * 2 ^ (-52 - min e (-52)).toNat)) (min e (-52)) (by omega)
  rw [← e1] at hR
  have hq : 4503599627370496 * 2 ^ (-52 - min e (-52)).toNat * 2 ^ (min e (-52) + 1074).toNat = 2 ^ 1074 := by
    rw [show 4503599627370496 = 2 ^ 52 from rfl, ← Nat.pow_add, ← Nat.pow_add]
    congr 1
    rw [Nat.add_assoc, ← Int.toNat_add (Int.sub_nonneg_of_le (Int.min_le_right _ _)) (min_ok hge), add_back]
    rfl
  have hp : m * 2 ^ (e - min e (-52)).toNat * 2 ^ (min e (-52) + 1074).toNat = m * 2 ^ (e + 1074).toNat := by
    rw [Nat.mul_assoc, ← Nat.pow_add, ← Int.toNat_add (Int.sub_nonneg_of_le (Int.min_le_left _ _)) (min_ok hge), add_back]
  have hqpos : 0 < 4503599627370496 * 2 ^ (-52 - min e (-52)).toNat := Nat.mul_pos (by decide) (Nat.two_pow_pos _)
  have hdm := Nat.div_add_mod (m * 2 ^ (e - min e (-52)).toNat) (4503599627370496 * 2 ^ (-52 - min e (-52)).toNat)
  have hml := Nat.mod_lt (m * 2 ^ (e - min e (-52)).toNat) hqpos
  have hgp := Nat.two_pow_pos (min e (-52) + 1074).toNat
  have hv := Float64.val_eq dx
  rw [← hp] at hv
  obtain ⟨C, hC⟩ : ∃ C : Nat, C = 2 ^ 1074 := ⟨_, rfl⟩
  rw [← hC] at hq
  have hcC : cc = (C : Rat) := by rw [hC]; exact cc_eq
  generalize m * 2 ^ (e - min e (-52)).toNat = p at *
  generalize 4503599627370496 * 2 ^ (-52 - min e (-52)).toNat = q at *
  generalize 2 ^ (min e (-52) + 1074).toNat = G at *
  generalize hcq : p / q = c at *
  generalize hrq : p % q = r at *
  have hW : p * G = c * C + r * G := by
    rw [← hdm, ← hq]
    rw [Nat.add_mul]
    congr 1
    ac_rfl
  have hWl : r * G < C := by rw [← hq]; exact Nat.mul_lt_mul_of_pos_right hml hgp
  have evx : val x = sgn a 1 * ((c : Int) * C + ((r * G : Nat) : Int)) := by
    rw [hv, hW]
    cases a <;> simp [sgn]
  have evr : sgn a (r * G) = sgn a 1 * ((r * G : Nat) : Int) := by cases a <;> simp [sgn]
  have ers : (rv x - ((sgn a 1 * c : Int) : Rat)) * cc * ((1 : Nat) : Rat) = ((sgn a (r * G) : Int) : Rat) := by
    have := val_rv x
    rw [evx] at this
    rw [evr]
    simp only [Rat.intCast_mul, Rat.intCast_add, Rat.intCast_natCast, ← hcC] at this ⊢
    have e1 : ((1 : Nat) : Rat) = 1 := rfl
    rw [e1]
    grind
  have hb : -1 < rv x - ((sgn a 1 * c : Int) : Rat) ∧ rv x - ((sgn a 1 * c : Int) : Rat) < 1 := by
    have hWl' : ((r * G : Nat) : Rat) < cc := by rw [hcC]; exact_mod_cast hWl
    have hW0 : (0 : Rat) ≤ ((r * G : Nat) : Rat) := by exact_mod_cast Nat.zero_le _
    have e5 : ((sgn a (r * G) : Int) : Rat) = ((r * G : Nat) : Rat) ∨ ((sgn a (r * G) : Int) : Rat) = -((r * G : Nat) : Rat) := by
      cases a
      · left
        exact Rat.intCast_natCast _
      · right
        show ((-((r * G : Nat) : Int) : Int) : Rat) = _
        rw [Rat.intCast_neg, Rat.intCast_natCast]
    have e6 : ((1 : Nat) : Rat) = 1 := rfl
    rw [e6] at ers
    generalize rv x - ((sgn a 1 * c : Int) : Rat) = y at *
    generalize ((r * G : Nat) : Rat) = z at *
    constructor
    · apply Rat.not_le.mp
      intro h
      have := Rat.mul_nonneg (show 0 ≤ -1 - y by grind) (Rat.le_of_lt hc)
      grind
    · apply Rat.not_le.mp
      intro h
      have := Rat.mul_nonneg (show 0 ≤ y - 1 by grind) (Rat.le_of_lt hc)
      grind
  refine ⟨sgn a 1 * c, ?_, hb⟩
  have h1B : ((1 : Nat) : Rat) = 1 := rfl
  obtain ⟨f1, f2, f3⟩ := near hR (by decide) 0 (B := 1) rfl (by decide) ers (by rw [h1B]; grind) (by rw [h1B]; grind)
  exact ⟨f1, f2, f3⟩
/-- x % 1.0 -/
theorem mod_nr {x : UInt64} (hx : Fn x) : Fn (Float64.divmod x F1).2 ∧ ∃ j : Int, rv x - j - 1 / 2251799813685248 ≤ rv (Float64.divmod x F1).2 ∧ rv (Float64.divmod x F1).2 ≤ rv x - j + 1 / 2251799813685248 ∧
    -(1 / 2251799813685248) ≤ rv (Float64.divmod x F1).2 ∧ rv (Float64.divmod x F1).2 ≤ 1 + 1 / 2251799813685248 := by
  obtain ⟨j, ⟨n1, n2, n3⟩, b1, b2⟩ := fmod_nr hx
  have e : (Float64.divmod x F1).2 = (if Float64.isZero (Float64.fmod x F1) then Float64.copysign (Float64.zero false) F1 else if (Float64.lt F1 (Float64.zero false) != Float64.lt (Float64.fmod x F1) (Float64.zero false)) then Float64.add (Float64.fmod x F1) F1 else Float64.fmod x F1) := by
    unfold Float64.divmod
    dsimp only
    split
    · rfl
    · split <;> rfl
  have h1B : ((1 : Nat) : Rat) = 1 := rfl
  by_cases hz : Float64.isZero (Float64.fmod x F1) = true
  · rw [e, if_pos hz, show Float64.copysign (Float64.zero false) F1 = 0 from by decide +kernel]
    have := zero_iff n1 hz
    exact ⟨fF0, j, by rw [rF0]; grind, by rw [rF0]; grind, by rw [rF0]; grind, by rw [rF0]; grind⟩
  · rw [if_neg hz] at e
    have e2 : Float64.lt F1 (Float64.zero false) = false := by decide +kernel
    have e3 : Float64.lt (Float64.fmod x F1) (Float64.zero false) = decide (rv (Float64.fmod x F1) < 0) := by
      have := cmp_lt n1 (zero_fn false).1
      rw [(zero_fn false).2] at this
      exact this
    rw [e2, e3] at e
    by_cases hneg : rv (Float64.fmod x F1) < 0
    · rw [if_pos (by simp [hneg])] at e
      rw [e]
      obtain ⟨a1, a2, a3⟩ := add_nr (x := Float64.fmod x F1) (y := F1) n1 fF1 1 (B := 2) rfl (by decide) (by rw [rF1]; grind) (by rw [rF1]; grind)
      rw [rF1] at a2 a3
      refine ⟨a1, j - 1, ?_, ?_, ?_, ?_⟩
      · rw [Rat.intCast_sub]; grind
      · rw [Rat.intCast_sub]; grind
      · grind
      · grind
    · rw [if_neg (by simp [hneg])] at e
      rw [e]
      exact ⟨n1, j, by grind, by grind, by grind, by grind⟩
end Mine

end
section
open PySem PySem.W PySem.Calls PyProof.Rows PySem.SeqAt
set_option Elab.async false
set_option maxRecDepth 100000
set_option maxHeartbeats 1000000
namespace Mine
open Float64 (val V decode sgn pack infMag Right dist)
/-- r is a finite float within e of v -/
structure Ap (r : UInt64) (v e : Rat) : Prop where
  fin : Fn r
  lo : v - e ≤ rv r
  hi : rv r ≤ v + e
theorem Nr.ap {r : UInt64} {v B e : Rat} (h : Nr r v B) (he : B / 9007199254740992 ≤ e) : Ap r v e := ⟨h.fin, by have := h.lo; grind, by have := h.hi; grind⟩
theorem Ap.le {r : UInt64} {v e e' : Rat} (h : Ap r v e) (he : e ≤ e') : Ap r v e' := ⟨h.fin, by have := h.lo; grind, by have := h.hi; grind⟩
theorem Ap.to {r : UInt64} {v w e d : Rat} (h : Ap r v e) (h1 : v ≤ w + d) (h2 : w - d ≤ v) : Ap r w (e + d) := ⟨h.fin, by have := h.lo; grind, by have := h.hi; grind⟩
theorem Ap.of {r : UInt64} {v : Rat} (h : Fn r) (e : rv r = v) : Ap r v 0 := ⟨h, by grind, by grind⟩
theorem prod_bd {x y x0 y0 e1 e2 X Y : Rat} (h1 : x0 - e1 ≤ x) (h2 : x ≤ x0 + e1) (h3 : y0 - e2 ≤ y) (h4 : y ≤ y0 + e2) (hX1 : -X ≤ x0) (hX2 : x0 ≤ X) (hY1 : -Y ≤ y) (hY2 : y ≤ Y) :
    x0 * y0 - (e1 * Y + X * e2) ≤ x * y ∧ x * y ≤ x0 * y0 + (e1 * Y + X * e2) := by
  have a1 := Rat.mul_nonneg (show 0 ≤ e1 - (x - x0) by grind) (show 0 ≤ Y + y by grind)
  have a2 := Rat.mul_nonneg (show 0 ≤ e1 + (x - x0) by grind) (show 0 ≤ Y - y by grind)
  have a3 := Rat.mul_nonneg (show 0 ≤ e1 - (x - x0) by grind) (show 0 ≤ Y - y by grind)
  have a4 := Rat.mul_nonneg (show 0 ≤ e1 + (x - x0) by grind) (show 0 ≤ Y + y by grind)
  have b1 := Rat.mul_nonneg (show 0 ≤ e2 - (y - y0) by grind) (show 0 ≤ X + x0 by grind)
  have b2 := Rat.mul_nonneg (show 0 ≤ e2 + (y - y0) by grind) (show 0 ≤ X - x0 by grind)
  have b3 := Rat.mul_nonneg (show 0 ≤ e2 - (y - y0) by grind) (show 0 ≤ X - x0 by grind)
  have b4 := Rat.mul_nonneg (show 0 ≤ e2 + (y - y0) by grind) (show 0 ≤ X + x0 by grind)
  constructor <;> grind
theorem prod_abs {x y A B : Rat} (h1 : -A ≤ x) (h2 : x ≤ A) (h3 : -B ≤ y) (h4 : y ≤ B) : -(A * B) ≤ x * y ∧ x * y ≤ A * B := by
  have a1 := Rat.mul_nonneg (show 0 ≤ A - x by grind) (show 0 ≤ B + y by grind)
  have a2 := Rat.mul_nonneg (show 0 ≤ A + x by grind) (show 0 ≤ B - y by grind)
  have a3 := Rat.mul_nonneg (show 0 ≤ A - x by grind) (show 0 ≤ B - y by grind)
  have a4 := Rat.mul_nonneg (show 0 ≤ A + x by grind) (show 0 ≤ B + y by grind)
  clear h1 h2 h3 h4
  constructor <;> grind
theorem add_ap {x y : UInt64} {x0 y0 e1 e2 : Rat} (hx : Ap x x0 e1) (hy : Ap y y0 e2) (k : Nat) {B : Rat} (hB : ((2 ^ k : Nat) : Rat) = B) (hk : k ≤ 800) (h1 : x0 + y0 + (e1 + e2) ≤ B) (h2 : -B ≤ x0 + y0 - (e1 + e2)) :
    Ap (Float64.add x y) (x0 + y0) (e1 + e2 + B / 9007199254740992) := by
  obtain ⟨f1, a1, b1⟩ := hx
  obtain ⟨f2, a2, b2⟩ := hy
  obtain ⟨f, a, b⟩ := add_nr f1 f2 k hB hk (by clear hB hk; grind) (by clear hB hk; grind)
  clear hB hk h1 h2
  exact ⟨f, by grind, by grind⟩
theorem sub_ap {x y : UInt64} {x0 y0 e1 e2 : Rat} (hx : Ap x x0 e1) (hy : Ap y y0 e2) (k : Nat) {B : Rat} (hB : ((2 ^ k : Nat) : Rat) = B) (hk : k ≤ 800) (h1 : x0 - y0 + (e1 + e2) ≤ B) (h2 : -B ≤ x0 - y0 - (e1 + e2)) :
    Ap (Float64.sub x y) (x0 - y0) (e1 + e2 + B / 9007199254740992) := by
  obtain ⟨f1, a1, b1⟩ := hx
  obtain ⟨f2, a2, b2⟩ := hy
  obtain ⟨f, a, b⟩ := sub_nr f1 f2 k hB hk (by clear hB hk; grind) (by clear hB hk; grind)
  clear hB hk h1 h2
  exact ⟨f, by grind, by grind⟩
theorem mul_ap {x y : UInt64} {x0 y0 e1 e2 X Y : Rat} (hx : Ap x x0 e1) (hy : Ap y y0 e2) (hX1 : -X ≤ x0) (hX2 : x0 ≤ X) (hY1 : -Y ≤ rv y) (hY2 : rv y ≤ Y) (k : Nat) {B : Rat} (hB : ((2 ^ k : Nat) : Rat) = B) (hk : k ≤ 800) (h1 : x0 * y0 + (e1 * Y + X * e2) ≤ B) (h2 : -B ≤ x0 * y0 - (e1 * Y + X * e2)) :
    Ap (Float64.mul x y) (x0 * y0) (e1 * Y + X * e2 + B / 9007199254740992) := by
  obtain ⟨f1, a1, b1⟩ := hx
  obtain ⟨f2, a2, b2⟩ := hy
  obtain ⟨p1, p2⟩ := prod_bd a1 b1 a2 b2 hX1 hX2 hY1 hY2
  clear a1 b1 a2 b2 hX1 hX2 hY1 hY2
  obtain ⟨f, a, b⟩ := mul_nr f1 f2 k hB hk (Rat.le_trans p2 h1) (Rat.le_trans h2 p1)
  clear hB hk h1 h2
  generalize rv x * rv y = z at *
  generalize x0 * y0 = z0 at *
  generalize e1 * Y + X * e2 = e at *
  exact ⟨f, by grind, by grind⟩
theorem Ap.ev {r : UInt64} {v w e e' : Rat} (h : Ap r v e) (hv : v = w) (he : e ≤ e') : Ap r w e' := hv ▸ h.le he
/-- 1.0 - y -/
theorem one_sub {y : UInt64} {y0 e : Rat} (h : Ap y y0 e) (h1 : y0 + e ≤ 3) (h2 : -1 ≤ y0 - e) : Ap (Float64.sub F1 y) (1 - y0) (e + 2 / 9007199254740992) := by
  exact (sub_ap (Ap.of fF1 rF1) h 1 (B := 2) rfl (by decide) (by grind) (by grind)).ev rfl (by grind)
/-- c * y for an exact c between 0 and 1 -/
theorem unit_mul {x y : UInt64} {c y0 e : Rat} (hx : Fn x) (ex : rv x = c) (h0 : 0 ≤ c) (h1 : c ≤ 1) (h : Ap y y0 e) (he : 0 ≤ e) (b1 : y0 + e ≤ 2) (b2 : -2 ≤ y0 - e) : Ap (Float64.mul x y) (c * y0) (e + 2 / 9007199254740992) := by
  obtain ⟨f, a, b⟩ := h
  obtain ⟨p1, p2⟩ := prod_bd (x := c) (x0 := c) (e1 := 0) (X := 1) (Y := 2) (y := rv y) (y0 := y0) (e2 := e) (by grind) (by grind) a b (by grind) (by grind) (by grind) (by grind)
  have hb : rv x * rv y ≤ 2 ∧ -2 ≤ rv x * rv y := by
    rw [ex]
    obtain ⟨q1, q2⟩ := prod_bd (x := c) (x0 := 1 / 2) (e1 := 1 / 2) (X := 1 / 2) (Y := 2) (y := rv y) (y0 := 0) (e2 := 2) (by grind) (by grind) (by grind) (by grind) (by grind) (by grind) (by grind) (by grind)
    grind
  obtain ⟨g, c1, d⟩ := mul_nr hx f 1 (B := 2) rfl (by decide) hb.1 hb.2
  rw [ex] at c1 d
  exact ⟨g, by grind, by grind⟩

/-- the six sectors of hsv_to_rgb -/
def secF (i : Int) (f : Rat) (c : Nat) : Rat :=
  if i = 0 then [1, f, 0].getD c 0 else
  if i = 1 then [1 - f, 1, 0].getD c 0 else
  if i = 2 then [0, 1, f].getD c 0 else
  if i = 3 then [0, 1 - f, 1].getD c 0 else
  if i = 4 then [f, 0, 1].getD c 0 else [1, 0, 1 - f].getD c 0
def mixF (S Vv g : Rat) : Rat := Vv * (1 - S * (1 - g))

def hsvPick (i : Int) (v t p q : UInt64) : D :=
  if i == 0 then .tup [.flt v, .flt t, .flt p] else
  if i == 1 then .tup [.flt q, .flt v, .flt p] else
  if i == 2 then .tup [.flt p, .flt v, .flt t] else
  if i == 3 then .tup [.flt p, .flt q, .flt v] else
  if i == 4 then .tup [.flt t, .flt p, .flt v] else
  .tup [.flt v, .flt p, .flt q]
theorem pick_ap {i : Int} {v t p q : UInt64} {S Vv f e : Rat} (hi : i = 0 ∨ i = 1 ∨ i = 2 ∨ i = 3 ∨ i = 4 ∨ i = 5) (Cv : Ap v (mixF S Vv 1) e) (Ct : Ap t (mixF S Vv f) e) (Cp : Ap p (mixF S Vv 0) e) (Cq : Ap q (mixF S Vv (1 - f)) e) :
    ∃ x y z, hsvPick i v t p q = .tup [.flt x, .flt y, .flt z] ∧ Ap x (mixF S Vv (secF i f 0)) e ∧ Ap y (mixF S Vv (secF i f 1)) e ∧ Ap z (mixF S Vv (secF i f 2)) e := by
  rcases hi with rfl | rfl | rfl | rfl | rfl | rfl
  · exact ⟨_, _, _, rfl, Cv, Ct, Cp⟩
  · exact ⟨_, _, _, rfl, Cq, Cv, Cp⟩
  · exact ⟨_, _, _, rfl, Cp, Cv, Ct⟩
  · exact ⟨_, _, _, rfl, Cp, Cq, Cv⟩
  · exact ⟨_, _, _, rfl, Ct, Cp, Cv⟩
  · exact ⟨_, _, _, rfl, Cv, Cp, Cq⟩
/-- the four values that a sector picks from -/
theorem four_ap {s v ff : UInt64} {S Vv f : Rat} (hs : Fn s) (es : rv s = S) (hv : Fn v) (ev : rv v = Vv) (S0 : 0 ≤ S) (S1 : S ≤ 1) (V0 : 0 ≤ Vv) (V1 : Vv ≤ 1) (Af : Ap ff f (66 / 9007199254740992)) (f0 : 0 ≤ f) (f1 : f < 1) :
    Ap v (mixF S Vv 1) (80 / 9007199254740992) ∧ Ap (Float64.mul v (Float64.sub F1 (Float64.mul s (Float64.sub F1 ff)))) (mixF S Vv f) (80 / 9007199254740992) ∧
    Ap (Float64.mul v (Float64.sub F1 s)) (mixF S Vv 0) (80 / 9007199254740992) ∧ Ap (Float64.mul v (Float64.sub F1 (Float64.mul s ff))) (mixF S Vv (1 - f)) (80 / 9007199254740992) := by
  have s0 := Rat.mul_nonneg S0 f0
  have s1 := Rat.mul_nonneg (show 0 ≤ 1 - S by grind) f0
  have s2 := Rat.mul_nonneg S0 (show 0 ≤ 1 - f by grind)
  have s3 := Rat.mul_nonneg (show 0 ≤ 1 - S by grind) (show 0 ≤ 1 - f by grind)
  have Bp := unit_mul hv ev V0 V1 (one_sub (Ap.of hs es) (by grind) (by grind)) (by decide +kernel) (by grind) (by grind)
  have Bsf := unit_mul hs es S0 S1 Af (by decide +kernel) (by grind) (by grind)
  have Bq := unit_mul hv ev V0 V1 (one_sub Bsf (by grind) (by grind)) (by decide +kernel) (by grind) (by grind)
  have Bsg := unit_mul hs es S0 S1 (one_sub Af (by grind) (by grind)) (by decide +kernel) (by grind) (by grind)
  have Bt := unit_mul hv ev V0 V1 (one_sub Bsg (by grind) (by grind)) (by decide +kernel) (by grind) (by grind)
  clear s0 s1 s2 s3 Bsf Bsg
  exact ⟨(Ap.of hv ev).ev (by unfold mixF; grind) (by decide +kernel), Bt.le (by decide +kernel), Bp.ev (by unfold mixF; grind) (by decide +kernel), Bq.ev (by unfold mixF; grind) (by decide +kernel)⟩
theorem hsv_ap {h s v : UInt64} {S Vv hq : Rat} (hs : Fn s) (es : rv s = S) (hv : Fn v) (ev : rv v = Vv) (S0 : 0 ≤ S) (S1 : S ≤ 1) (V0 : 0 ≤ Vv) (V1 : Vv ≤ 1)
    (hh : Ap h hq (8 / 9007199254740992)) (q0 : 1 / 2000 ≤ hq) (q1 : hq ≤ 8) :
    Float64.isFinite (Float64.mul h F6) = true ∧ (truncF (Float64.mul h F6)).natAbs < 2 ^ 1023 ∧ ∃ (i : Int) (f : Rat) (x y z : UInt64), 0 ≤ i ∧ 0 ≤ f ∧ f < 1 ∧ 6 * hq - 112 / 9007199254740992 ≤ (i : Rat) + f ∧ (i : Rat) + f ≤ 6 * hq + 112 / 9007199254740992 ∧
      hsvF h s v = .tup [.flt x, .flt y, .flt z] ∧ Ap x (mixF S Vv (secF (i % 6) f 0)) (80 / 9007199254740992) ∧ Ap y (mixF S Vv (secF (i % 6) f 1)) (80 / 9007199254740992) ∧ Ap z (mixF S Vv (secF (i % 6) f 2)) (80 / 9007199254740992) := by
  obtain ⟨hf, ha, hb⟩ := hh
  obtain ⟨mf, ma, mb⟩ := mul_nr hf fF6 6 (B := 64) rfl (by decide) (by rw [rF6]; grind) (by rw [rF6]; grind)
  rw [rF6] at ma mb
  have hm0 : 0 ≤ rv (Float64.mul h F6) := by grind
  have hm1 : rv (Float64.mul h F6) ≤ 49 := by grind
  obtain ⟨t1, t2⟩ := trunc_rv mf hm0
  have hi0 : 0 ≤ truncF (Float64.mul h F6) := by
    have : ((0 : Int) : Rat) < ((truncF (Float64.mul h F6) + 1 : Int) : Rat) := by rw [Rat.intCast_add]; have : ((0 : Int) : Rat) = 0 := rfl; grind
    have := Rat.intCast_lt_intCast.mp this
    omega
  have hi1 : truncF (Float64.mul h F6) < 50 := by
    have : ((truncF (Float64.mul h F6) : Int) : Rat) < ((50 : Int) : Rat) := by have : ((50 : Int) : Rat) = 50 := rfl; grind
    exact Rat.intCast_lt_intCast.mp this
  have hbig : (truncF (Float64.mul h F6)).natAbs < 2 ^ 1023 := natAbs_big hi0 (by omega)
  refine ⟨fin_of mf, hbig, ?_⟩
  generalize hi : truncF (Float64.mul h F6) = i at *
  generalize hm : Float64.mul h F6 = m at *
  have ib : ((i : Int) : Rat) ≤ 50 ∧ 0 ≤ ((i : Int) : Rat) := ⟨ratLe (b := 50) (by omega), ratLe (a := 0) hi0⟩
  obtain ⟨of1, of2, of3⟩ := ofInt_nr i 6 (B := 64) rfl (by decide) (by grind) (by grind)
  obtain ⟨ff1, ff2, ff3⟩ := sub_nr mf of1 1 (B := 2) rfl (by decide) (by grind) (by grind)
  have Af : Ap (Float64.sub m (Float64.ofInt i)) (rv m - i) (66 / 9007199254740992) := ⟨ff1, by grind, by grind⟩
  have f0 : 0 ≤ rv m - (i : Rat) := by grind
  have f1 : rv m - (i : Rat) < 1 := by grind
  have e1 : 6 * hq - 112 / 9007199254740992 ≤ (i : Rat) + (rv m - (i : Rat)) := by grind
  have e2 : (i : Rat) + (rv m - (i : Rat)) ≤ 6 * hq + 112 / 9007199254740992 := by grind
  generalize rv m - (i : Rat) = f at *
  generalize hff : Float64.sub m (Float64.ofInt i) = ff at *
  clear of1 of2 of3 ff1 ff2 ff3 ma mb hm0 hm1 t1 t2 ib ha hb
  obtain ⟨Cv, Ct, Cp, Cq⟩ := four_ap hs es hv ev S0 S1 V0 V1 Af f0 f1
  have hs0 := cmp_eq hs fF0
  rw [es, rF0] at hs0
  by_cases hz : S = 0
  · have hall : ∀ g, mixF S Vv g = Vv := by intro g; unfold mixF; grind
    have Bv := (Ap.of hv ev).le (e' := 80 / 9007199254740992) (by decide +kernel)
    refine ⟨i, f, v, v, v, hi0, f0, f1, e1, e2, ?_, ?_, ?_, ?_⟩
    · unfold hsvF
      rw [hs0, if_pos (decide_eq_true hz)]
    all_goals (rw [hall]; exact Bv)
  · have hF : hsvF h s v = hsvPick (i % 6) v (Float64.mul v (Float64.sub F1 (Float64.mul s (Float64.sub F1 ff)))) (Float64.mul v (Float64.sub F1 s)) (Float64.mul v (Float64.sub F1 (Float64.mul s ff))) := by
      rw [← Int.fmod_eq_emod_of_nonneg i (by decide : (0 : Int) ≤ 6), ← hi, ← hff, ← hi, ← hm]
      unfold hsvF
      rw [hs0, if_neg (by rw [decide_eq_false hz]; decide)]
      rfl
    obtain ⟨x, y, z, r1, r2, r3, r4⟩ := pick_ap (mod6 i) Cv Ct Cp Cq
    exact ⟨i, f, x, y, z, hi0, f0, f1, e1, e2, hF.trans r1, r2, r3, r4⟩
end Mine

end
section
open PySem PySem.W PySem.Calls PyProof.Rows PySem.SeqAt
set_option Elab.async false
set_option maxRecDepth 100000
set_option maxHeartbeats 1000000
namespace Mine
/-! the hexagon of hues: one trapezoid, laid round at three places -/
def tpz (X : Rat) : Rat := if X < 1 then X else if X < 3 then 1 else if X < 4 then 4 - X else 0
theorem tpz_a {X : Rat} (h : X ≤ 1) : tpz X = X := by unfold tpz; grind
theorem tpz_b {X : Rat} (h : 1 ≤ X) (h2 : X ≤ 3) : tpz X = 1 := by unfold tpz; grind
theorem tpz_c {X : Rat} (h : 3 ≤ X) (h2 : X ≤ 4) : tpz X = 4 - X := by unfold tpz; grind
theorem tpz_d {X : Rat} (h : 4 ≤ X) : tpz X = 0 := by unfold tpz; grind
theorem tpz_le {X : Rat} : tpz X ≤ 1 ∧ tpz X ≤ X ∨ tpz X ≤ 1 ∧ tpz X ≤ 0 ∧ 0 ≤ X := by unfold tpz; grind
theorem tpz_le4 {X : Rat} : tpz X ≤ 0 ∨ tpz X ≤ 4 - X := by unfold tpz; grind
theorem tpz_lip {X Y η : Rat} (h1 : X - Y ≤ η) (h2 : Y - X ≤ η) : tpz X ≤ tpz Y + η := by
  have e0 : 0 ≤ η := by grind
  have a := tpz_le (X := X)
  have b := tpz_le4 (X := X)
  by_cases c1 : Y ≤ 1
  · rw [tpz_a (X := Y) c1]
    rcases a with a | a
    · grind
    · by_cases c0 : 0 ≤ Y
      · grind
      · grind
  · by_cases c2 : Y ≤ 3
    · rw [tpz_b (X := Y) (by grind) c2]; grind
    · by_cases c3 : Y ≤ 4
      · rw [tpz_c (X := Y) (by grind) c3]; grind
      · rw [tpz_d (X := Y) (by grind)]; grind
theorem tpz_per {X Y η μ : Rat} {J : Int} (x0 : -μ ≤ X) (x1 : X ≤ 6 + μ) (y0 : 0 ≤ Y) (y1 : Y ≤ 6) (m0 : 0 ≤ μ) (m1 : μ ≤ 1 / 2) (e1 : η ≤ 1 / 2) (h1 : X - Y - 6 * (J : Rat) ≤ η) (h2 : -η ≤ X - Y - 6 * (J : Rat)) :
    tpz Y - (η + μ) ≤ tpz X ∧ tpz X ≤ tpz Y + (η + μ) := by
  have k2 : ((2 : Int) : Rat) = 2 := rfl
  have k3 : ((-2 : Int) : Rat) = -2 := rfl
  have j1 : J ≤ 1 := by
    apply Int.not_lt.mp
    intro h
    have h3 : ((2 : Int) : Rat) ≤ (J : Rat) := ratLe (by omega)
    rw [k2] at h3
    grind
  have j2 : -1 ≤ J := by
    apply Int.not_lt.mp
    intro h
    have h3 : (J : Rat) ≤ ((-2 : Int) : Rat) := ratLe (by omega)
    rw [k3] at h3
    grind
  have hj : J = -1 ∨ J = 0 ∨ J = 1 := by omega
  clear j1 j2 k2 k3
  have k0 : ((0 : Int) : Rat) = 0 := rfl
  have k1 : ((-1 : Int) : Rat) = -1 := rfl
  have k2 : ((1 : Int) : Rat) = 1 := rfl
  rcases hj with rfl | rfl | rfl
  · rw [k1] at h1 h2
    rw [tpz_a (X := X) (by grind), tpz_d (X := Y) (by grind)]
    grind
  · rw [k0] at h1 h2
    have p := tpz_lip (X := X) (Y := Y) (η := η) (by grind) (by grind)
    have q := tpz_lip (X := Y) (Y := X) (η := η) (by grind) (by grind)
    grind
  · rw [k2] at h1 h2
    rw [tpz_d (X := X) (by grind), tpz_a (X := Y) (by grind)]
    grind
/-- the place of a colour on its own trapezoid -/
def offC (c : Nat) : Int := if c = 0 then 2 else if c = 1 then 0 else 4
def tk (k : Int) (f : Rat) : Rat := if k = 0 then f else if k < 3 then 1 else if k = 3 then 1 - f else 0
theorem sec_tk {g : Int} {f : Rat} {c : Nat} (hc : c = 0 ∨ c = 1 ∨ c = 2) (hg : g = 0 ∨ g = 1 ∨ g = 2 ∨ g = 3 ∨ g = 4 ∨ g = 5) : secF g f c = tk ((g + offC c) % 6) f := by
  rcases hg with rfl | rfl | rfl | rfl | rfl | rfl <;> rcases hc with rfl | rfl | rfl <;> rfl
theorem tk_tpz {k : Int} {f : Rat} (k0 : 0 ≤ k) (f0 : 0 ≤ f) (f1 : f < 1) : tk k f = tpz ((k : Rat) + f) := by
  unfold tk
  have c0 : ((0 : Int) : Rat) = 0 := rfl
  have c1 : ((1 : Int) : Rat) = 1 := rfl
  have c2 : ((2 : Int) : Rat) = 2 := rfl
  have c3 : ((3 : Int) : Rat) = 3 := rfl
  have c4 : ((4 : Int) : Rat) = 4 := rfl
  split
  · rename_i h
    rw [h, c0, tpz_a (by grind)]; grind
  · split
    · have a := ratLe (a := 1) (b := k) (by omega)
      have b := ratLe (a := k) (b := 2) (by omega)
      rw [c1] at a
      rw [c2] at b
      rw [tpz_b (by grind) (by grind)]
    · split
      · rename_i h
        rw [h, c3, tpz_c (by grind) (by grind)]; grind
      · have a := ratLe (a := 4) (b := k) (by omega)
        rw [c4] at a
        rw [tpz_d (by grind)]
def tkI (k N ρ : Int) : Int := if k = 0 then ρ else if k < 3 then N else if k = 3 then N - ρ else 0
/-- the hexagon in the sextant g -/
def sexH (g : Int) (c : Nat) (N r : Int) : Int := tkI ((g + offC c) % 6) N (6 * r - g * N)
def hexH (c : Nat) (N r : Int) : Int := sexH (6 * r / N) c N r
theorem tkI_bd {k N ρ : Int} (h0 : 0 ≤ ρ) (h1 : ρ ≤ N) : 0 ≤ tkI k N ρ ∧ tkI k N ρ ≤ N := by
  unfold tkI
  (repeat' split) <;> omega
theorem sext {N r : Int} (hN : 0 < N) : 0 ≤ 6 * r - 6 * r / N * N ∧ 6 * r - 6 * r / N * N < N := by
  have h1 := Int.ediv_mul_le (6 * r) (Int.ne_of_gt hN)
  have h2 := Int.lt_ediv_add_one_mul_self (6 * r) hN
  rw [Int.add_mul, Int.one_mul] at h2
  omega
theorem hexH_bd {N r : Int} {c : Nat} (hN : 0 < N) : 0 ≤ hexH c N r ∧ hexH c N r ≤ N := by
  obtain ⟨h1, h2⟩ := sext (r := r) hN
  exact tkI_bd h1 (Int.le_of_lt h2)
theorem tkI_tk {k N ρ : Int} {φ : Rat} (h : (N : Rat) * φ = (ρ : Rat)) : ((tkI k N ρ : Int) : Rat) = (N : Rat) * tk k φ := by
  have c0 : ((0 : Int) : Rat) = 0 := rfl
  unfold tkI tk
  split
  · rw [h]
  · split
    · grind
    · split
      · rw [Rat.intCast_sub]; grind
      · rw [c0]; grind
theorem hex_near {N r i a : Int} {f ε : Rat} (hN : 0 < N) (r0 : 0 ≤ r) (r1 : r < N) (f0 : 0 ≤ f) (f1 : f < 1) (e0 : 0 ≤ ε) (e1 : ε ≤ 1 / 2)
    (h1 : 6 * ((a : Rat) + (r : Rat) / (N : Rat)) - ε ≤ (i : Rat) + f) (h2 : (i : Rat) + f ≤ 6 * ((a : Rat) + (r : Rat) / (N : Rat)) + ε) {c : Nat} (hc : c = 0 ∨ c = 1 ∨ c = 2) :
    (hexH c N r : Rat) - (N : Rat) * ε ≤ (N : Rat) * secF (i % 6) f c ∧ (N : Rat) * secF (i % 6) f c ≤ (hexH c N r : Rat) + (N : Rat) * ε := by
  have hNr : (0 : Rat) < (N : Rat) := by exact_mod_cast hN
  obtain ⟨s0, s1⟩ := sext (r := r) hN
  rw [sec_tk hc (mod6 i), tk_tpz (Int.emod_nonneg _ (by decide)) f0 f1]
  unfold hexH sexH
  obtain ⟨g, hg⟩ : ∃ g, g = 6 * r / N := ⟨_, rfl⟩
  rw [← hg] at s0 s1 ⊢
  obtain ⟨φ, hφ⟩ : ∃ φ : Rat, φ = 6 * ((r : Rat) / (N : Rat)) - (g : Rat) := ⟨_, rfl⟩
  have er : (r : Rat) / (N : Rat) * (N : Rat) = (r : Rat) := by grind
  have eφ : (N : Rat) * φ = ((6 * r - g * N : Int) : Rat) := by
    have c6 : ((6 : Int) : Rat) = 6 := rfl
    rw [hφ, Rat.intCast_sub, Rat.intCast_mul, Rat.intCast_mul, c6]
    grind
  have p0 : 0 ≤ φ := by
    apply Rat.not_lt.mp
    intro h
    have q1 := Rat.mul_pos hNr (show 0 < -φ by grind)
    have q2 : (0 : Rat) ≤ ((6 * r - g * N : Int) : Rat) := ratLe (a := 0) s0
    grind
  have p1 : φ < 1 := by
    apply Rat.not_le.mp
    intro h
    have q1 := Rat.mul_nonneg (Rat.le_of_lt hNr) (show 0 ≤ φ - 1 by grind)
    have q2 : ((6 * r - g * N : Int) : Rat) < (N : Rat) := Rat.intCast_lt_intCast.mpr s1
    grind
  rw [tkI_tk eφ, tk_tpz (Int.emod_nonneg _ (by decide)) p0 p1]
  have m1 := Int.emod_add_mul_ediv (i % 6 + offC c) 6
  have m2 := Int.emod_add_mul_ediv (g + offC c) 6
  have m3 := Int.emod_add_mul_ediv i 6
  have m4 := Int.emod_lt_of_pos (i % 6 + offC c) (show (0 : Int) < 6 by decide)
  have m5 := Int.emod_lt_of_pos (g + offC c) (show (0 : Int) < 6 by decide)
  have m6 := Int.emod_nonneg (i % 6 + offC c) (show (6 : Int) ≠ 0 by decide)
  have m7 := Int.emod_nonneg (g + offC c) (show (6 : Int) ≠ 0 by decide)
  obtain ⟨J, hJ⟩ : ∃ J, J = a - i / 6 - (i % 6 + offC c) / 6 + (g + offC c) / 6 := ⟨_, rfl⟩
  generalize (i % 6 + offC c) % 6 = k at *
  generalize (g + offC c) % 6 = k' at *
  have hk : k - i = k' - g + 6 * (J - a) := by omega
  clear m1 m2 m3 hJ hg er eφ s0 s1
  have hkr := congrArg (fun n : Int => (n : Rat)) hk
  simp only [Rat.intCast_sub, Rat.intCast_add, Rat.intCast_mul] at hkr
  have c6 : ((6 : Int) : Rat) = 6 := rfl
  rw [c6] at hkr
  have b0 : (0 : Rat) ≤ (k : Rat) := ratLe (a := 0) m6
  have b1 : (k : Rat) ≤ 5 := ratLe (b := 5) (by omega)
  have b2 : (0 : Rat) ≤ (k' : Rat) := ratLe (a := 0) m7
  have b3 : (k' : Rat) ≤ 5 := ratLe (b := 5) (by omega)
  obtain ⟨z1, z2⟩ := tpz_per (X := (k : Rat) + f) (Y := (k' : Rat) + φ) (η := ε) (μ := 0) (J := J) (by grind) (by grind) (by grind) (by grind) (by grind) (by grind) e1 (by grind) (by grind)
  generalize tpz ((k : Rat) + f) = u at *
  generalize tpz ((k' : Rat) + φ) = v at *
  have q1 := Rat.mul_nonneg (Rat.le_of_lt hNr) (show 0 ≤ u - (v - ε) by grind)
  have q2 := Rat.mul_nonneg (Rat.le_of_lt hNr) (show 0 ≤ v + ε - u by grind)
  grind
end Mine

end
section
open PySem PySem.W PySem.Calls PyProof.Rows PySem.SeqAt
set_option Elab.async false
set_option maxRecDepth 100000
set_option maxHeartbeats 1000000
namespace Mine
theorem round_is {K n : Int} {c : UInt64} {x0 e : Rat} (k0 : 0 ≤ K) (k1 : K ≤ 67108864) (hc : Ap c x0 e) (e0 : 0 ≤ e) (e1 : e ≤ 1) (x1 : -1 ≤ x0) (x2 : x0 ≤ 2) (ke : (K : Rat) * e ≤ 1 / 8) (n0 : 0 ≤ n)
    (h1 : (K : Rat) * x0 ≤ (n : Rat) + 1 / 8) (h2 : (n : Rat) - 1 / 8 ≤ (K : Rat) * x0) : Fn (roundF K c) ∧ truncF (roundF K c) = n := by
  have kr0 : (0 : Rat) ≤ (K : Rat) := ratLe (a := 0) k0
  have kr1 : (K : Rat) ≤ 67108864 := ratLe (b := 67108864) k1
  have nr0 : (0 : Rat) ≤ (n : Rat) := ratLe (a := 0) n0
  clear k0 k1 n0
  have A1 := (ofInt_nr K 26 (B := 67108864) rfl (by decide) kr1 (by grind)).ap (Rat.le_refl)
  have c1 := hc.lo
  have c2 := hc.hi
  have kx : (K : Rat) * x0 ≤ 134217728 := by
    have := Rat.mul_nonneg kr0 (show 0 ≤ 2 - x0 by grind)
    grind
  have A2 := mul_ap A1 hc (X := (K : Rat)) (Y := 4) (by grind) Rat.le_refl (by grind) (by grind) 28 (B := 268435456) rfl (by decide) (by grind) (by grind)
  clear A1 c1 c2 x1 x2 e1 hc
  generalize (K : Rat) * e = ke' at *
  generalize (K : Rat) * x0 = kx' at *
  obtain ⟨af, al, au⟩ : Ap (roundF K c) _ _ := add_ap A2 (Ap.of fF05 rF05) 28 (B := 268435456) rfl (by decide) (by grind) (by grind)
  clear A2 kr0 kr1 kx e0
  exact ⟨af, trunc_is af (by grind) (by grind) (by grind)⟩
theorem quarter {s : Int} (h0 : 0 ≤ s) (h4 : s ≤ 4) : Fn (fdivI s 4) ∧ rv (fdivI s 4) = (s : Rat) / 4 := by
  obtain ⟨n, rfl⟩ := Int.eq_ofNat_of_zero_le h0
  have : ∀ n : Nat, n < 5 → ((n : Int) = 0 ∨ (n : Int) = 1 ∨ (n : Int) = 2 ∨ (n : Int) = 3 ∨ (n : Int) = 4) := by decide
  have := this n (Nat.lt_succ_of_le (Int.ofNat_le.mp h4))
  clear h0 h4
  generalize (n : Int) = s at *
  rcases this with rfl | rfl | rfl | rfl | rfl
  · exact ⟨fn_of (by decide +kernel), rv_is 0 4 (by decide) (by decide +kernel)⟩
  · exact ⟨fn_of (by decide +kernel), rv_is 1 4 (by decide) (by decide +kernel)⟩
  · exact ⟨fn_of (by decide +kernel), rv_is 2 4 (by decide) (by decide +kernel)⟩
  · exact ⟨fn_of (by decide +kernel), rv_is 3 4 (by decide) (by decide +kernel)⟩
  · exact ⟨fn_of (by decide +kernel), rv_is 4 4 (by decide) (by decide +kernel)⟩
def colE (sh lv N : Int) (c : Nat) (r : Int) : Int := lv * (4 - sh) * N + lv * sh * hexH c N r
theorem mix_bd {S Vv g : Rat} (S0 : 0 ≤ S) (S1 : S ≤ 1) (V0 : 0 ≤ Vv) (V1 : Vv ≤ 1) (g0 : 0 ≤ g) (g1 : g ≤ 1) : 0 ≤ mixF S Vv g ∧ mixF S Vv g ≤ 1 := by
  unfold mixF
  have a := Rat.mul_nonneg S0 (show 0 ≤ 1 - g by grind)
  have b := Rat.mul_nonneg (show 0 ≤ 1 - S by grind) (show 0 ≤ 1 - g by grind)
  have e : (1 - S) * (1 - g) = 1 - g - S * (1 - g) := by grind
  rw [e] at b
  generalize S * (1 - g) = z at *
  have c := Rat.mul_nonneg V0 (show 0 ≤ 1 - z by grind)
  have d := Rat.mul_nonneg V0 a
  have e2 : Vv * (1 - z) = Vv - Vv * z := by grind
  rw [e2] at *
  grind
theorem col_one {sh lv N r : Int} {c : Nat} {x : UInt64} {g : Rat} (hs0 : 0 ≤ sh) (hs4 : sh ≤ 4) (hl0 : 1 ≤ lv) (hl4 : lv ≤ 4) (hN : 0 < N) (hN1 : N ≤ 1280) (g0 : 0 ≤ g) (g1 : g ≤ 1)
    (h1 : (hexH c N r : Rat) - (N : Rat) * (112 / 9007199254740992) ≤ (N : Rat) * g) (h2 : (N : Rat) * g ≤ (hexH c N r : Rat) + (N : Rat) * (112 / 9007199254740992))
    (hx : Ap x (mixF ((sh : Rat) / 4) ((lv : Rat) / 4) g) (80 / 9007199254740992)) : Fn (roundF (16 * N) x) ∧ truncF (roundF (16 * N) x) = colE sh lv N c r := by
  have hh := hexH_bd (c := c) (r := r) hN
  have hNr0 : (0 : Rat) ≤ (N : Rat) := ratLe (a := 0) (by omega)
  have hNr1 : (N : Rat) ≤ 1280 := ratLe (b := 1280) hN1
  have e16 : ((16 * N : Int) : Rat) = 16 * (N : Rat) := by rw [Rat.intCast_mul]; rfl
  have eE : ((colE sh lv N c r : Int) : Rat) = (lv : Rat) * (4 - (sh : Rat)) * (N : Rat) + (lv : Rat) * (sh : Rat) * (hexH c N r : Rat) := by
    unfold colE
    simp only [Rat.intCast_add, Rat.intCast_mul, Rat.intCast_sub]
    rfl
  have hE0 : 0 ≤ colE sh lv N c r := by
    unfold colE
    have a1 := Int.mul_nonneg (Int.mul_nonneg (show 0 ≤ lv by omega) (show 0 ≤ 4 - sh by omega)) (show 0 ≤ N by omega)
    have a2 := Int.mul_nonneg (Int.mul_nonneg (show 0 ≤ lv by omega) hs0) hh.1
    omega
  have sr0 : (0 : Rat) ≤ (sh : Rat) := ratLe (a := 0) hs0
  have sr4 : (sh : Rat) ≤ 4 := ratLe (b := 4) hs4
  have lr0 : (0 : Rat) ≤ (lv : Rat) := ratLe (a := 0) (by omega)
  have lr4 : (lv : Rat) ≤ 4 := ratLe (b := 4) hl4
  obtain ⟨hm0, hm1⟩ := mix_bd (S := (sh : Rat) / 4) (Vv := (lv : Rat) / 4) (by grind) (by grind) (by grind) (by grind) g0 g1
  have hm2 : 16 * (N : Rat) * mixF ((sh : Rat) / 4) ((lv : Rat) / 4) g = (lv : Rat) * (4 - (sh : Rat)) * (N : Rat) + (lv : Rat) * (sh : Rat) * ((N : Rat) * g) := by unfold mixF; grind
  have hlv : (0 : Rat) ≤ (lv : Rat) * (sh : Rat) ∧ (lv : Rat) * (sh : Rat) ≤ 16 := by
    rw [← Rat.intCast_mul]
    have a1 : 0 ≤ lv * sh := Int.mul_nonneg (by omega) hs0
    have a2 : lv * sh ≤ 4 * 4 := Int.mul_le_mul hl4 hs4 hs0 (by decide)
    exact ⟨ratLe (a := 0) a1, ratLe (b := 16) (by omega)⟩
  have b1 := Rat.mul_nonneg hlv.1 (show 0 ≤ (hexH c N r : Rat) + (N : Rat) * (112 / 9007199254740992) - (N : Rat) * g by grind)
  have b2 := Rat.mul_nonneg hlv.1 (show 0 ≤ (N : Rat) * g - ((hexH c N r : Rat) - (N : Rat) * (112 / 9007199254740992)) by grind)
  have b3 := Rat.mul_nonneg (show 0 ≤ 16 - (lv : Rat) * (sh : Rat) by grind) hNr0
  refine round_is (by omega) (by omega) hx (by grind) (by grind) (by grind) (by grind) ?_ hE0 ?_ ?_
  · rw [e16]; grind
  · rw [e16, hm2, eE]; grind
  · rw [e16, hm2, eE]; grind
end Mine

end
section
open PySem PySem.W PySem.Calls PyProof.Rows PySem.SeqAt
set_option Elab.async false
set_option maxRecDepth 100000
set_option maxHeartbeats 1000000
namespace Mine
theorem tk_bd {k : Int} {f : Rat} (f0 : 0 ≤ f) (f1 : f < 1) : 0 ≤ tk k f ∧ tk k f ≤ 1 := by
  unfold tk
  (repeat' split) <;> grind
theorem col_all {A Bn N kn sh lv : Int} (hA : 1 ≤ A) (hB : 0 < Bn) (hB1 : Bn ≤ 1280) (hAB : A * N = kn * Bn) (hA8 : A ≤ 8 * Bn) (hN : 0 < N) (hN1 : N ≤ 1280) (hs0 : 0 ≤ sh) (hs4 : sh ≤ 4) (hl0 : 1 ≤ lv) (hl4 : lv ≤ 4) :
    Float64.isInf (fdivI A Bn) = false ∧ Float64.isFinite (Float64.mul (fdivI A Bn) F6) = true ∧ (truncF (Float64.mul (fdivI A Bn) F6)).natAbs < 2 ^ 1023 ∧
    ∃ x y z, hsvF (fdivI A Bn) (fdivI sh 4) (fdivI lv 4) = .tup [.flt x, .flt y, .flt z] ∧ (Fn (roundF (16 * N) x) ∧ truncF (roundF (16 * N) x) = colE sh lv N 0 (kn % N)) ∧
      (Fn (roundF (16 * N) y) ∧ truncF (roundF (16 * N) y) = colE sh lv N 1 (kn % N)) ∧ (Fn (roundF (16 * N) z) ∧ truncF (roundF (16 * N) z) = colE sh lv N 2 (kn % N)) := by
  have hAr : (1 : Rat) ≤ (A : Rat) := ratLe (a := 1) hA
  have hBr : (0 : Rat) < (Bn : Rat) := by exact_mod_cast hB
  have hBr1 : (Bn : Rat) ≤ 1280 := ratLe (b := 1280) hB1
  have hNr : (0 : Rat) < (N : Rat) := by exact_mod_cast hN
  have hA8r : (A : Rat) ≤ 8 * (Bn : Rat) := by have := ratLe hA8; rw [Rat.intCast_mul] at this; exact this
  have hq : (A : Rat) / (Bn : Rat) * (Bn : Rat) = A := by grind
  have q0 : 1 / 2000 ≤ (A : Rat) / (Bn : Rat) := by
    apply Rat.not_lt.mp
    intro h
    generalize (A : Rat) / (Bn : Rat) = t at *
    have := Rat.mul_pos (show 0 < 1 / 2000 - t by grind) hBr
    grind
  have q1 : (A : Rat) / (Bn : Rat) ≤ 8 := by
    apply Rat.not_lt.mp
    intro h
    generalize (A : Rat) / (Bn : Rat) = t at *
    have := Rat.mul_pos (show 0 < t - 8 by grind) hBr
    grind
  have hn := fdiv_nr A Bn hB 3 (B := 8) rfl (by decide) q1 (by grind)
  have ha : Ap (fdivI A Bn) ((A : Rat) / (Bn : Rat)) (8 / 9007199254740992) := hn.ap Rat.le_refl
  obtain ⟨s1, s2⟩ := quarter hs0 hs4
  obtain ⟨l1, l2⟩ := quarter (s := lv) (by omega) hl4
  have sr : (0 : Rat) ≤ (sh : Rat) ∧ (sh : Rat) ≤ 4 := ⟨ratLe (a := 0) hs0, ratLe (b := 4) hs4⟩
  have lr : (0 : Rat) ≤ (lv : Rat) ∧ (lv : Rat) ≤ 4 := ⟨ratLe (a := 0) (by omega), ratLe (b := 4) hl4⟩
  obtain ⟨w1, w2, i, f, x, y, z, i0, f0, f1, e1, e2, hF, ax, ay, az⟩ := hsv_ap s1 s2 l1 l2 (by grind) (by grind) (by grind) (by grind) ha q0 q1
  refine ⟨inf_of hn.fin, w1, w2, x, y, z, hF, ?_⟩
  have hr0 := Int.emod_nonneg kn (Int.ne_of_gt hN)
  have hr1 := Int.emod_lt_of_pos kn hN
  have hkn := Int.emod_add_mul_ediv kn N
  have hq2 : (A : Rat) / (Bn : Rat) = ((kn / N : Int) : Rat) + ((kn % N : Int) : Rat) / (N : Rat) := by
    have z1 := congrArg (fun n : Int => (n : Rat)) hAB
    have z2 := congrArg (fun n : Int => (n : Rat)) hkn
    simp only [Rat.intCast_mul, Rat.intCast_add] at z1 z2
    have z3 : ((kn % N : Int) : Rat) / (N : Rat) * (N : Rat) = ((kn % N : Int) : Rat) := by grind
    generalize (A : Rat) / (Bn : Rat) = t at *
    generalize ((kn % N : Int) : Rat) / (N : Rat) = t2 at *
    generalize ((kn / N : Int) : Rat) = t3 at *
    have z4 : (t - (t3 + t2)) * ((Bn : Rat) * (N : Rat)) = 0 := by grind
    rcases Rat.mul_eq_zero.mp z4 with h | h
    · grind
    · have := Rat.mul_pos hBr hNr
      grind
  rw [hq2] at e1 e2
  have key : ∀ {c : Nat} {u : UInt64}, (c = 0 ∨ c = 1 ∨ c = 2) → Ap u (mixF ((sh : Rat) / 4) ((lv : Rat) / 4) (secF (i % 6) f c)) (80 / 9007199254740992) → Fn (roundF (16 * N) u) ∧ truncF (roundF (16 * N) u) = colE sh lv N c (kn % N) := by
    intro c u hc hu
    obtain ⟨n1, n2⟩ := hex_near (i := i) (a := kn / N) hN hr0 hr1 f0 f1 (ε := 112 / 9007199254740992) (by grind) (by grind) e1 e2 hc
    obtain ⟨b0, b1⟩ := tk_bd (k := (i % 6 + offC c) % 6) f0 f1
    rw [← sec_tk hc (mod6 i)] at b0 b1
    exact col_one hs0 hs4 hl0 hl4 hN hN1 b0 b1 n1 n2 hu
  exact ⟨key (.inl rfl) ax, key (.inr (.inl rfl)) ay, key (.inr (.inr rfl)) az⟩
end Mine

end
section
open PySem PySem.W PySem.Calls PyProof.Rows PySem.SeqAt
set_option Elab.async false
set_option maxRecDepth 100000
set_option maxHeartbeats 1000000
namespace Mine
def sumN (n : Nat) (F : Nat → Int) : Int := ((List.range n).map F).sum
theorem sumN_succ (n : Nat) (F : Nat → Int) : sumN (n + 1) F = sumN n F + F n := by
  unfold sumN
  rw [List.range_succ, List.map_append, List.sum_append]; simp
theorem sumN_zero (F : Nat → Int) : sumN 0 F = 0 := rfl
theorem sumN_congr {n : Nat} {F G : Nat → Int} (h : ∀ i, i < n → F i = G i) : sumN n F = sumN n G := by
  unfold sumN
  rw [List.map_congr_left fun i hi => h i (List.mem_range.mp hi)]
theorem sumN_up (F : Nat → Int) : ∀ n : Nat, sumN n (fun i => F (i + 1)) + F 0 = sumN n F + F n
  | 0 => by simp [sumN_zero]
  | n + 1 => by
    have := sumN_up F n
    rw [sumN_succ, sumN_succ]
    omega
theorem sumN_turn (t : Nat) (F : Nat → Int) : ∀ s : Nat, sumN t (fun i => F ((s + i) % t)) = sumN t F
  | 0 => sumN_congr fun i hi => by rw [Nat.zero_add, Nat.mod_eq_of_lt hi]
  | s + 1 => by
    rw [← sumN_turn t F s]
    have h := sumN_up (fun i => F ((s + i) % t)) t
    have e : F ((s + t) % t) = F ((s + 0) % t) := by rw [Nat.add_mod_right, Nat.add_zero]
    have e2 : sumN t (fun i => F ((s + 1 + i) % t)) = sumN t (fun i => F ((s + (i + 1)) % t)) := sumN_congr fun i _ => by rw [show s + 1 + i = s + (i + 1) from by omega]
    rw [e2]
    simp only [e] at h
    omega
theorem sumN_add (F G : Nat → Int) : ∀ n : Nat, sumN n (fun i => F i + G i) = sumN n F + sumN n G
  | 0 => rfl
  | n + 1 => by rw [sumN_succ, sumN_succ, sumN_succ, sumN_add F G n]; omega
theorem sumN_null : ∀ n : Nat, sumN n (fun _ => 0) = 0
  | 0 => rfl
  | n + 1 => by rw [sumN_succ, sumN_null n]; rfl
theorem sumN_at (F : Nat → Int) (x : Nat) : ∀ n : Nat, sumN n (fun i => if x = i then F i else 0) = if x < n then F x else 0
  | 0 => rfl
  | n + 1 => by
    rw [sumN_succ, sumN_at F x n]
    by_cases h : x = n
    · subst h
      rw [if_neg (Nat.lt_irrefl x), if_pos rfl, if_pos (Nat.lt_succ_self x), Int.zero_add]
    · rw [if_neg h, Int.add_zero]
      by_cases h2 : x < n
      · rw [if_pos h2, if_pos (Nat.lt_succ_of_lt h2)]
      · rw [if_neg h2, if_neg (by omega)]
/-- a sum over a list of places, by how often each stands in it -/
theorem sum_count (F : Nat → Int) (n : Nat) : ∀ l : List Nat, (∀ x ∈ l, x < n) → (l.map F).sum = sumN n fun i => (l.count i : Int) * F i
  | [], _ => by
    rw [List.map_nil, List.sum_nil, ← sumN_null n]
    exact sumN_congr fun i _ => by simp
  | x :: l, h => by
    rw [List.map_cons, List.sum_cons, sum_count F n l fun y hy => h y (List.mem_cons_of_mem _ hy)]
    have e := sumN_at F x n
    rw [if_pos (h x List.mem_cons_self)] at e
    rw [← e, ← sumN_add]
    refine sumN_congr fun i _ => ?_
    rw [List.count_cons]
    by_cases hx : x = i
    · subst hx
      simp [Int.add_mul, Int.add_comm]
    · have : (x == i) = false := by simpa using hx
      simp [hx]
theorem steps_all : ∀ W ∈ [5, 7, 9, 10, 3, 6], ∀ V ∈ [2, 3, 1, 4, 5, 6], ((List.range W).map fun j => (j * (V / Nat.gcd W V)) % (W / Nat.gcd W V)).all (fun x => decide (x < W / Nat.gcd W V)) = true ∧
    ∀ i ∈ List.range (W / Nat.gcd W V), ((List.range W).map fun j => (j * (V / Nat.gcd W V)) % (W / Nat.gcd W V)).count i = Nat.gcd W V := by decide +kernel
theorem sumN_mul (k : Int) (F : Nat → Int) : ∀ n : Nat, sumN n (fun i => k * F i) = k * sumN n F
  | 0 => by simp [sumN_zero]
  | n + 1 => by rw [sumN_succ, sumN_succ, sumN_mul k F n, Int.mul_add]
theorem steps (W V both : Nat) (hW : W ∈ [5, 7, 9, 10, 3, 6]) (hV : V ∈ [2, 3, 1, 4, 5, 6]) (hb : both = Nat.gcd W V) (F : Nat → Int) :
    sumN W (fun j => F ((j * (V / both)) % (W / both))) = both * sumN (W / both) F := by
  subst hb
  obtain ⟨h1, h2⟩ := steps_all W hW V hV
  have e := sum_count F (W / Nat.gcd W V) ((List.range W).map fun j => (j * (V / Nat.gcd W V)) % (W / Nat.gcd W V)) fun x hx => by simpa using List.all_eq_true.mp h1 x hx
  rw [List.map_map] at e
  refine e.trans ?_
  rw [← sumN_mul]
  refine sumN_congr fun i hi => ?_
  rw [h2 i (List.mem_range.mpr hi)]
end Mine

end
section
open PySem PySem.W PySem.Calls PyProof.Rows PySem.SeqAt
set_option Elab.async false
set_option maxRecDepth 100000
set_option maxHeartbeats 2000000
namespace Mine
theorem term_sex {t i : Nat} {Z y : Int} {c : Nat} (hZ : 0 < Z) :
    hexH c ((t : Int) * Z) (y + (i : Int) * Z) = sexH ((6 * y / Z + 6 * (i : Int)) / (t : Int)) c ((t : Int) * Z) (y + (i : Int) * Z) := by
  unfold hexH
  have e : 6 * (y + (i : Int) * Z) / ((t : Int) * Z) = (6 * y / Z + 6 * (i : Int)) / (t : Int) := by
    rw [Int.mul_add, ← Int.mul_assoc, Int.mul_comm (t : Int) Z, ← Int.ediv_ediv_of_nonneg (Int.le_of_lt hZ), Int.add_mul_ediv_right _ _ (Int.ne_of_gt hZ)]
  rw [e]
theorem way_is {x Z c v : Int} (hZ : 0 < Z) (v0 : 0 ≤ v) (v1 : 2 * v ≤ 3 * Z) {k : Int} (h : 3 * x - c * Z = v + (3 * Z) * k ∨ 3 * x - c * Z = -v + (3 * Z) * k) : wayI x Z c = v := by
  unfold wayI
  rw [Int.fmod_eq_emod_of_nonneg _ (by omega)]
  rcases h with h | h
  · rw [h, Int.add_mul_emod_self_left, Int.emod_eq_of_lt v0 (by omega)]
    exact Int.min_eq_left (by omega)
  · by_cases hv : v = 0
    · subst hv
      rw [h, Int.add_mul_emod_self_left]
      simp; omega
    · have e : -v + (3 * Z) * k = (3 * Z - v) + (3 * Z) * (k - 1) := by rw [Int.mul_sub]; omega
      rw [h, e, Int.add_mul_emod_self_left, Int.emod_eq_of_lt (by omega) (by omega)]
      rw [Int.min_eq_right (by omega)]; omega
end Mine

end
section
open PySem PySem.W PySem.Calls PyProof.Rows PySem.SeqAt
set_option Elab.async false
set_option maxRecDepth 100000
set_option maxHeartbeats 4000000
namespace Mine
/-! everything is a whole combination of Z and y: pairs -/
abbrev Pr := Int × Int
def onZ (Z y : Int) (p : Pr) : Int := p.1 * Z + p.2 * y
def addP (p q : Pr) : Pr := (p.1 + q.1, p.2 + q.2)
def subP (p q : Pr) : Pr := (p.1 - q.1, p.2 - q.2)
def sclP (k : Int) (p : Pr) : Pr := (k * p.1, k * p.2)
theorem onZ_add (Z y : Int) (p q : Pr) : onZ Z y (addP p q) = onZ Z y p + onZ Z y q := by
  unfold onZ addP; simp only [Int.add_mul]; ac_rfl
theorem onZ_sub (Z y : Int) (p q : Pr) : onZ Z y (subP p q) = onZ Z y p - onZ Z y q := by
  unfold onZ subP; simp only [Int.sub_mul]; omega
theorem onZ_scl (Z y k : Int) (p : Pr) : onZ Z y (sclP k p) = k * onZ Z y p := by
  unfold onZ sclP; simp only [Int.mul_add, Int.mul_assoc]
theorem onZ_zero (Z y : Int) : onZ Z y (0, 0) = 0 := by simp [onZ]
def tkP (k : Int) (N ρ : Pr) : Pr := if k = 0 then ρ else if k < 3 then N else if k = 3 then subP N ρ else (0, 0)
def sexP (g : Int) (c : Nat) (N r : Pr) : Pr := tkP ((g + offC c) % 6) N (subP (sclP 6 r) (sclP g N))
theorem onZ_sex (Z y g : Int) (c : Nat) (N r : Pr) : onZ Z y (sexP g c N r) = sexH g c (onZ Z y N) (onZ Z y r) := by
  unfold sexP sexH tkP tkI
  rw [← onZ_scl, ← onZ_scl, ← onZ_sub]
  (repeat' split)
  · rfl
  · rfl
  · rw [onZ_sub]
  · exact onZ_zero Z y
def sumP : Nat → (Nat → Pr) → Pr
  | 0, _ => (0, 0)
  | n + 1, F => addP (sumP n F) (F n)
theorem onZ_sum (Z y : Int) (F : Nat → Pr) : ∀ n : Nat, onZ Z y (sumP n F) = sumN n fun i => onZ Z y (F i)
  | 0 => onZ_zero Z y
  | n + 1 => by rw [sumN_succ, ← onZ_sum Z y F n, ← onZ_add]; rfl
def hexP (t : Nat) (e : Int) (c : Nat) : Pr := sumP t fun i => sexP ((e + 6 * (i : Int)) / (t : Int)) c ((t : Int), 0) ((i : Int), 1)
theorem hexP_eq (t : Nat) (e : Int) (c : Nat) (Z y : Int) : sumN t (fun i => sexH ((e + 6 * (i : Int)) / (t : Int)) c ((t : Int) * Z) (y + (i : Int) * Z)) = onZ Z y (hexP t e c) := by
  unfold hexP
  rw [onZ_sum]
  refine sumN_congr fun i _ => ?_
  rw [onZ_sex]
  have e1 : onZ Z y ((t : Int), 0) = (t : Int) * Z := by simp [onZ]
  have e2 : onZ Z y ((i : Int), 1) = y + (i : Int) * Z := by simp [onZ, Int.add_comm]
  rw [e1, e2]
def wayP (e : Int) (k : Nat) : Pr :=
  if k = 0 then (if e < 3 then (0, 3) else (3, -3)) else
  if k = 1 then (if e < 2 then (1, -3) else if e < 5 then (-1, 3) else (4, -3)) else
  (if e < 1 then (1, 3) else if e < 4 then (2, -3) else (-2, 3))
def goodP (e : Int) (c : Int) (p : Pr) : Bool := (p.2 == 3 && (p.1 + c) % 3 == 0 && decide (0 ≤ 2 * p.1 + e) && decide (2 * p.1 + e + 1 ≤ 3)) || (p.2 == -3 && (p.1 - c) % 3 == 0 && decide (0 ≤ 2 * p.1 - e - 1) && decide (2 * p.1 - e ≤ 3))
theorem way_all : ∀ e ∈ [0, 1, 2, 3, 4, 5], ∀ k ∈ [0, 1, 2], goodP e (k : Nat) (wayP e k) = true := by decide +kernel
theorem way_good {Z x e c : Int} {p : Pr} (hZ : 0 < Z) (h1 : e * Z ≤ 6 * (x % Z)) (h2 : 6 * (x % Z) ≤ (e + 1) * Z) (h : goodP e c p = true) : wayI x Z c = onZ Z (x % Z) p := by
  have hx := Int.emod_add_mul_ediv x Z
  generalize x % Z = y at *
  generalize x / Z = q at *
  rw [Int.add_mul, Int.one_mul] at h2
  unfold goodP at h
  rw [Bool.or_eq_true, Bool.and_eq_true, Bool.and_eq_true, Bool.and_eq_true, Bool.and_eq_true, Bool.and_eq_true, Bool.and_eq_true, decide_eq_true_iff, decide_eq_true_iff, decide_eq_true_iff, decide_eq_true_iff, beq_iff_eq, beq_iff_eq, beq_iff_eq, beq_iff_eq] at h
  have ez : ∀ k, 0 ≤ k → 0 ≤ k * Z := fun k hk => Int.mul_nonneg hk (Int.le_of_lt hZ)
  unfold onZ
  rcases h with ⟨⟨⟨a, b⟩, c1⟩, c2⟩ | ⟨⟨⟨a, b⟩, c1⟩, c2⟩
  · rw [a]
    have u1 := ez _ c1
    have u2 := ez (2 - (2 * p.1 + e)) (by omega)
    rw [Int.sub_mul] at u2
    rw [Int.add_mul, Int.mul_assoc] at u1 u2
    have hd : p.1 + c = 3 * ((p.1 + c) / 3) := by omega
    generalize (p.1 + c) / 3 = m at *
    refine way_is hZ (k := q - m) (by omega) (by omega) (.inl ?_)
    have hc : c = 3 * m - p.1 := by omega
    rw [hc, ← hx, Int.sub_mul, Int.mul_sub, Int.mul_add]
    have : 3 * (Z * q) = 3 * Z * q := (Int.mul_assoc _ _ _).symm
    have : 3 * Z * m = 3 * m * Z := by ac_rfl
    omega
  · rw [a]
    have u1 := ez _ c1
    have u2 := ez (3 - (2 * p.1 - e)) (by omega)
    rw [Int.sub_mul, Int.sub_mul, Int.mul_assoc] at u1 u2
    have hd : p.1 - c = 3 * ((p.1 - c) / 3) := by omega
    generalize (p.1 - c) / 3 = m at *
    refine way_is hZ (k := q + m) (by omega) (by omega) (.inr ?_)
    have hc : c = p.1 - 3 * m := by omega
    rw [hc, ← hx, Int.sub_mul, Int.mul_add, Int.mul_add]
    have : 3 * (Z * q) = 3 * Z * q := (Int.mul_assoc _ _ _).symm
    have : 3 * Z * m = 3 * m * Z := by ac_rfl
    omega
def spreadP (t : Int) (e : Int) (c : Nat) : Pr :=
  if t.fmod 2 == 0 then ((t * t).fdiv 2, 0) else
  if t.fmod 3 == 0 then addP ((t * t - 3).fdiv 2, 0) (sclP 2 (wayP e 0)) else
  addP ((t * t - 1).fdiv 2, 0) ((if t.fmod 3 == 2 then [subP (addP (wayP e 1) (wayP e 2)) (1, 0), subP (addP (wayP e 0) (wayP e 1)) (1, 0), subP (addP (wayP e 2) (wayP e 0)) (1, 0)] else
    [subP (addP (wayP e 1) (wayP e 2)) (1, 0), subP (addP (wayP e 2) (wayP e 0)) (1, 0), subP (addP (wayP e 0) (wayP e 1)) (1, 0)]).getD c (0, 0))
def times8 : List Nat := [1, 2, 3, 5, 6, 7, 9, 10]
theorem pairs_eq : ∀ t ∈ times8, (t : Int).fmod 2 = 0 ∧ ((t : Int) * t).fmod 2 = 0 ∨ (t : Int).fmod 2 ≠ 0 ∧ ((t : Int) * t).fmod 2 = 1 := by decide +kernel
theorem hex_all : ∀ t ∈ times8, ∀ e ∈ [0, 1, 2, 3, 4, 5], ∀ c ∈ [0, 1, 2], hexP t e c = spreadP (t : Int) e c := by decide +kernel
theorem half_mul {Z k : Int} (h : k.fmod 2 = 0) : (Z * k).fdiv 2 = k.fdiv 2 * Z := by
  rw [Int.fmod_eq_emod_of_nonneg _ (by decide)] at h
  rw [Int.fdiv_eq_ediv_of_nonneg _ (by decide), Int.fdiv_eq_ediv_of_nonneg _ (by decide), Int.mul_ediv_assoc _ (Int.dvd_of_emod_eq_zero h), Int.mul_comm]
theorem hexsum {t : Nat} (ht : t ∈ times8) {Z x : Int} (hZ : 0 < Z) {c : Nat} (hc : c ∈ [0, 1, 2]) :
    sumN t (fun i => hexH c ((t : Int) * Z) (x % Z + (i : Int) * Z)) = (spreadI x Z t).getD c 0 := by
  have h0 := Int.emod_nonneg x (Int.ne_of_gt hZ)
  have h1 := Int.emod_lt_of_pos x hZ
  rw [sumN_congr fun i _ => term_sex (t := t) (i := i) (y := x % Z) (c := c) hZ]
  have q0 : 0 ≤ 6 * (x % Z) / Z := Int.ediv_nonneg (by omega) (by omega)
  have q1 : 6 * (x % Z) / Z < 6 := Int.ediv_lt_of_lt_mul hZ (by omega)
  have e1 : 6 * (x % Z) / Z * Z ≤ 6 * (x % Z) := Int.ediv_mul_le _ (Int.ne_of_gt hZ)
  have e2 : 6 * (x % Z) ≤ (6 * (x % Z) / Z + 1) * Z := Int.le_of_lt (Int.lt_ediv_add_one_mul_self _ hZ)
  generalize 6 * (x % Z) / Z = e at *
  have he : e ∈ [0, 1, 2, 3, 4, 5] := by
    obtain ⟨n, rfl⟩ := Int.eq_ofNat_of_zero_le q0
    have : ∀ n < 6, ((n : Nat) : Int) ∈ [0, 1, 2, 3, 4, 5] := by decide
    exact this n (by omega)
  rw [hexP_eq, hex_all t ht e he c hc]
  have w0 : wayI x Z 0 = onZ Z (x % Z) (wayP e 0) := way_good hZ e1 e2 (way_all e he 0 (by decide))
  have w1 : wayI x Z 1 = onZ Z (x % Z) (wayP e 1) := way_good hZ e1 e2 (way_all e he 1 (by decide))
  have w2 : wayI x Z 2 = onZ Z (x % Z) (wayP e 2) := way_good hZ e1 e2 (way_all e he 2 (by decide))
  have hp := pairs_eq t ht
  clear e1 e2 he q0 q1 h0 h1
  generalize x % Z = y at *
  have hgo : ∀ k : Int, onZ Z y (k, 0) = k * Z := by intro k; simp [onZ]
  have g1 : onZ Z y (1, 0) = Z := by rw [hgo, Int.one_mul]
  have hget : ∀ a b d : Pr, onZ Z y ([a, b, d].getD c (0, 0)) = [onZ Z y a, onZ Z y b, onZ Z y d].getD c 0 := by
    intro a b d
    match c with
    | 0 => rfl
    | 1 => rfl
    | 2 => rfl
    | _ + 3 => exact onZ_zero Z y
  have hrep : ∀ a : Int, (List.replicate 3 a).getD c 0 = a := by
    intro a
    simp only [List.mem_cons, List.not_mem_nil, or_false] at hc
    rcases hc with rfl | rfl | rfl <;> rfl
  have hmap : ∀ (k a b d : Int), (([a, b, d] : List Int).map fun z => k + z).getD c 0 = k + ([a, b, d] : List Int).getD c 0 := by
    intro k a b d
    simp only [List.mem_cons, List.not_mem_nil, or_false] at hc
    rcases hc with rfl | rfl | rfl <;> rfl
  have tt : ∀ k : Int, (t : Int).fmod 2 ≠ 0 → k = 3 ∨ k = 1 → ((t : Int) * t - k).fmod 2 = 0 := by
    intro k h hk
    rcases hp with h2 | h2
    · exact absurd h2.1 h
    · have := h2.2
      rw [Int.fmod_eq_emod_of_nonneg _ (by decide)] at this ⊢
      omega
  unfold spreadP spreadI
  dsimp only
  by_cases c1 : (t : Int).fmod 2 = 0
  · rw [if_pos (beq_iff_eq.mpr c1), if_pos (beq_iff_eq.mpr c1), hrep, hgo, Int.mul_assoc]
    rcases hp with h2 | h2
    · exact (half_mul h2.2).symm
    · exact absurd c1 h2.1
  · rw [if_neg (fun h => c1 (beq_iff_eq.mp h)), if_neg (fun h => c1 (beq_iff_eq.mp h))]
    by_cases c2 : (t : Int).fmod 3 = 0
    · rw [if_pos (beq_iff_eq.mpr c2), if_pos (beq_iff_eq.mpr c2), hrep, onZ_add, hgo, onZ_scl, half_mul (tt 3 c1 (.inl rfl)), w0]
    · rw [if_neg (fun h => c2 (beq_iff_eq.mp h)), if_neg (fun h => c2 (beq_iff_eq.mp h)), onZ_add, hgo]
      by_cases c3 : (t : Int).fmod 3 = 2
      · rw [if_pos (beq_iff_eq.mpr c3), if_pos (beq_iff_eq.mpr c3), hget, hmap, half_mul (tt 1 c1 (.inr rfl))]
        simp only [onZ_sub, onZ_add, g1]
        rw [w0, w1, w2]
      · rw [if_neg (fun h => c3 (beq_iff_eq.mp h)), if_neg (fun h => c3 (beq_iff_eq.mp h)), hget, hmap, half_mul (tt 1 c1 (.inr rfl))]
        simp only [onZ_sub, onZ_add, g1]
        rw [w0, w1, w2]
end Mine

end
section
open PySem PySem.W PySem.Calls PyProof.Rows PySem.SeqAt
set_option Elab.async false
set_option maxRecDepth 100000
set_option maxHeartbeats 1000000
namespace Mine
/-! hls_to_rgb's _v, as rationals -/
theorem lin_ap {m1 m2 w : UInt64} {ν μ e T : Rat} (h1 : Ap m1 ν e) (h2 : Ap m2 μ e) (n0 : 0 ≤ ν) (n1 : ν ≤ μ) (n2 : μ ≤ 1) (e0 : 0 ≤ e) (e1 : e ≤ 1 / 33554432) (hw : Fn w)
    (w1 : T - 40 / 9007199254740992 ≤ 6 * rv w) (w2 : 6 * rv w ≤ T + 40 / 9007199254740992) (t0 : -(30 / 9007199254740992) ≤ T) (t1 : T ≤ 1 + 30 / 9007199254740992) :
    Ap (Float64.add m1 (Float64.mul (Float64.mul (Float64.sub m2 m1) w) F6)) (ν + (μ - ν) * T) (4 * e + 100 / 9007199254740992) := by
  obtain ⟨z1, z2⟩ := prod_abs (x := μ - ν) (y := T / 6) (A := 1) (B := 1 / 5) (by grind) (by grind) (by grind) (by grind)
  have Aw : Ap w (T / 6) (7 / 9007199254740992) := ⟨hw, by grind, by grind⟩
  have A1 := sub_ap h2 h1 1 (B := 2) rfl (by decide) (by grind) (by grind)
  have A2 := mul_ap A1 Aw (X := 1) (Y := 1 / 5) (by grind) (by grind) (by grind) (by grind) 0 (B := 1) rfl (by decide) (by grind) (by grind)
  clear A1 Aw w1 w2 t0 t1 h2 hw
  have ez : (μ - ν) * T = (μ - ν) * (T / 6) * 6 := by grind
  rw [ez]
  generalize (μ - ν) * (T / 6) = z at *
  have A3 := mul_ap A2 (Ap.of fF6 rF6) (X := 1) (Y := 6) (by grind) (by grind) (by rw [rF6]; decide +kernel) (by rw [rF6]; decide +kernel) 2 (B := 4) rfl (by decide) (by grind) (by grind)
  exact (add_ap h1 A3 3 (B := 8) rfl (by decide) (by grind) (by grind)).le (by grind)
def trapT (h : Rat) : Rat := tpz (6 * h)
theorem nb1 {X δ : Rat} (d0 : 0 ≤ δ) (d1 : δ ≤ 1) (h : X ≤ 1 + δ) : X - δ ≤ tpz X ∧ tpz X ≤ X + δ := by
  by_cases c : X ≤ 1
  · rw [tpz_a c]; grind
  · rw [tpz_b (by first | assumption | decide +kernel | grind) (by first | assumption | decide +kernel | grind)]; grind
theorem nb2 {X δ : Rat} (d0 : 0 ≤ δ) (d1 : δ ≤ 1) (h : 1 - δ ≤ X) (h2 : X ≤ 3 + δ) : 1 - δ ≤ tpz X ∧ tpz X ≤ 1 + δ := by
  by_cases c : X ≤ 1
  · rw [tpz_a c]; grind
  · by_cases c2 : X ≤ 3
    · rw [tpz_b (by first | assumption | decide +kernel | grind) c2]; grind
    · rw [tpz_c (by first | assumption | decide +kernel | grind) (by first | assumption | decide +kernel | grind)]; grind
theorem nb3 {X δ : Rat} (d0 : 0 ≤ δ) (d1 : δ ≤ 1) (h : 3 - δ ≤ X) (h2 : X ≤ 4 + δ) : 4 - X - δ ≤ tpz X ∧ tpz X ≤ 4 - X + δ := by
  by_cases c : X ≤ 3
  · rw [tpz_b (by first | assumption | decide +kernel | grind) c]; grind
  · by_cases c2 : X ≤ 4
    · rw [tpz_c (by first | assumption | decide +kernel | grind) c2]; grind
    · rw [tpz_d (by first | assumption | decide +kernel | grind)]; grind
theorem nb4 {X δ : Rat} (d0 : 0 ≤ δ) (d1 : δ ≤ 1) (h : 4 - δ ≤ X) : -δ ≤ tpz X ∧ tpz X ≤ δ := by
  by_cases c : X ≤ 4
  · rw [tpz_c (by first | assumption | decide +kernel | grind) c]; grind
  · rw [tpz_d (by first | assumption | decide +kernel | grind)]; grind
theorem const_ap {m : UInt64} {ν μ c e T : Rat} (h : Ap m c e) (n1 : ν ≤ μ) (n0 : 0 ≤ ν) (n2 : μ ≤ 1) (e0 : 0 ≤ e) (hc : (c = ν ∧ -(30 / 9007199254740992) ≤ T ∧ T ≤ 30 / 9007199254740992) ∨ (c = μ ∧ -(30 / 9007199254740992) ≤ T - 1 ∧ T - 1 ≤ 30 / 9007199254740992)) :
    Ap m (ν + (μ - ν) * T) (4 * e + 100 / 9007199254740992) := by
  obtain ⟨f, a, b⟩ := h
  rcases hc with ⟨rfl, t0, t1⟩ | ⟨rfl, t0, t1⟩
  · obtain ⟨p1, p2⟩ := prod_bd (x := μ - c) (x0 := 0) (e1 := 1) (X := 0) (Y := 30 / 9007199254740992) (y := T) (y0 := 0) (e2 := 30 / 9007199254740992) (by first | assumption | decide +kernel | grind) (by first | assumption | decide +kernel | grind) (by first | assumption | decide +kernel | grind) (by first | assumption | decide +kernel | grind) (by first | assumption | decide +kernel | grind) (by first | assumption | decide +kernel | grind) (by first | assumption | decide +kernel | grind) (by first | assumption | decide +kernel | grind)
    exact ⟨f, by grind, by grind⟩
  · obtain ⟨p1, p2⟩ := prod_bd (x := c - ν) (x0 := 0) (e1 := 1) (X := 0) (Y := 30 / 9007199254740992) (y := T - 1) (y0 := 0) (e2 := 30 / 9007199254740992) (by first | assumption | decide +kernel | grind) (by first | assumption | decide +kernel | grind) (by first | assumption | decide +kernel | grind) (by first | assumption | decide +kernel | grind) (by first | assumption | decide +kernel | grind) (by first | assumption | decide +kernel | grind) (by first | assumption | decide +kernel | grind) (by first | assumption | decide +kernel | grind)
    exact ⟨f, by grind, by grind⟩
theorem v_ap {m1 m2 hue : UInt64} {ν μ e : Rat} (h1 : Ap m1 ν e) (h2 : Ap m2 μ e) (n0 : 0 ≤ ν) (n1 : ν ≤ μ) (n2 : μ ≤ 1) (e0 : 0 ≤ e) (e1 : e ≤ 1 / 33554432) (hh : Fn hue) :
    ∃ (hu : Rat) (j : Int), rv hue - j - 4 / 9007199254740992 ≤ hu ∧ hu ≤ rv hue - j + 4 / 9007199254740992 ∧ -(4 / 9007199254740992) ≤ hu ∧ hu ≤ 1 + 4 / 9007199254740992 ∧ Ap (vF m1 m2 hue) (ν + (μ - ν) * trapT hu) (4 * e + 100 / 9007199254740992) := by
  obtain ⟨mf, j, j1, j2, j3, j4⟩ := mod_nr hh
  have g16 := rF16
  have g23 := rF23
  have c1 := cmp_lt mf fF16
  have c2 := cmp_lt mf fF05
  have c3 := cmp_lt mf fF23
  rw [rF05] at c2
  have hv : vF m1 m2 hue = (if ltb (Float64.divmod hue F1).2 F16 then Float64.add m1 (Float64.mul (Float64.mul (Float64.sub m2 m1) (Float64.divmod hue F1).2) F6) else
    if ltb (Float64.divmod hue F1).2 F05 then m2 else
    if ltb (Float64.divmod hue F1).2 F23 then Float64.add m1 (Float64.mul (Float64.mul (Float64.sub m2 m1) (Float64.sub F23 (Float64.divmod hue F1).2)) F6) else m1) := rfl
  unfold ltb at hv
  rw [c1, c2, c3] at hv
  clear c1 c2 c3
  generalize (Float64.divmod hue F1).2 = H at *
  refine ⟨rv H, j, by grind, by grind, by grind, by grind, ?_⟩
  rw [hv]
  clear hv j1 j2
  unfold trapT
  have eδ : ∃ δ : Rat, δ = 6 / 9007199254740992 ∧ 0 ≤ δ ∧ δ ≤ 1 := ⟨_, rfl, by decide +kernel, by decide +kernel⟩
  obtain ⟨δ, hδ, d0, d1⟩ := eδ
  by_cases q1 : rv H < rv F16
  · rw [if_pos (decide_eq_true q1)]
    obtain ⟨t1, t2⟩ := nb1 (X := 6 * rv H) d0 d1 (by first | assumption | decide +kernel | grind)
    generalize tpz (6 * rv H) = T at *
    exact lin_ap h1 h2 n0 n1 n2 e0 e1 mf (by first | assumption | decide +kernel | grind) (by first | assumption | decide +kernel | grind) (by first | assumption | decide +kernel | grind) (by first | assumption | decide +kernel | grind)
  · rw [if_neg (by rw [decide_eq_false q1]; decide)]
    by_cases q2 : rv H < 1 / 2
    · rw [if_pos (decide_eq_true q2)]
      obtain ⟨t1, t2⟩ := nb2 (X := 6 * rv H) d0 d1 (by first | assumption | decide +kernel | grind) (by first | assumption | decide +kernel | grind)
      generalize tpz (6 * rv H) = T at *
      exact const_ap h2 n1 n0 n2 e0 (.inr ⟨rfl, by grind, by grind⟩)
    · rw [if_neg (by rw [decide_eq_false q2]; decide)]
      by_cases q3 : rv H < rv F23
      · rw [if_pos (decide_eq_true q3)]
        obtain ⟨sf, sa, sb⟩ := sub_nr fF23 mf 1 (B := 2) rfl (by decide) (by grind) (by grind)
        obtain ⟨t1, t2⟩ := nb3 (X := 6 * rv H) d0 d1 (by first | assumption | decide +kernel | grind) (by first | assumption | decide +kernel | grind)
        generalize tpz (6 * rv H) = T at *
        exact lin_ap h1 h2 n0 n1 n2 e0 e1 sf (by first | assumption | decide +kernel | grind) (by first | assumption | decide +kernel | grind) (by first | assumption | decide +kernel | grind) (by first | assumption | decide +kernel | grind)
      · rw [if_neg (by rw [decide_eq_false q3]; decide)]
        obtain ⟨t1, t2⟩ := nb4 (X := 6 * rv H) d0 d1 (by first | assumption | decide +kernel | grind)
        generalize tpz (6 * rv H) = T at *
        exact const_ap h1 n1 n0 n2 e0 (.inl ⟨rfl, by grind, by grind⟩)
end Mine

end
section
open PySem PySem.W PySem.Calls PyProof.Rows PySem.SeqAt
set_option Elab.async false
set_option maxRecDepth 100000
set_option maxHeartbeats 1000000
namespace Mine
/-! rgb_to_hls, as rationals -/
theorem fr_bd {a W : Int} (h0 : 0 ≤ a) (h1 : a ≤ W) (hW : 0 < W) : 0 ≤ (a : Rat) / (W : Rat) ∧ (a : Rat) / (W : Rat) ≤ 1 ∧ (a : Rat) / (W : Rat) * (W : Rat) = a := by
  have hWr : (0 : Rat) < (W : Rat) := by exact_mod_cast hW
  have a0 : (0 : Rat) ≤ (a : Rat) := ratLe (a := 0) h0
  have a1 : (a : Rat) ≤ (W : Rat) := ratLe h1
  have e : (a : Rat) / (W : Rat) * (W : Rat) = a := by grind
  generalize (a : Rat) / (W : Rat) = q at *
  refine ⟨?_, ?_, e⟩
  · apply Rat.not_lt.mp
    intro h
    have := Rat.mul_pos (show 0 < -q by grind) hWr
    grind
  · apply Rat.not_lt.mp
    intro h
    have := Rat.mul_pos (show 0 < q - 1 by grind) hWr
    grind
theorem fr_ap {a W : Int} (h0 : 0 ≤ a) (h1 : a ≤ W) (hW : 0 < W) : Ap (fdivI a W) ((a : Rat) / (W : Rat)) (1 / 9007199254740992) := by
  obtain ⟨b0, b1, _⟩ := fr_bd h0 h1 hW
  exact (fdiv_nr a W hW 0 (B := 1) rfl (by decide) b1 (by grind)).ap Rat.le_refl
theorem fr_gap {a b W : Int} (h : a < b) (hW : 0 < W) (hW2 : W ≤ 4194304) : (a : Rat) / (W : Rat) + 1 / 4194304 ≤ (b : Rat) / (W : Rat) := by
  have hWr : (0 : Rat) < (W : Rat) := by exact_mod_cast hW
  have w2 : (W : Rat) ≤ 4194304 := ratLe (b := 4194304) hW2
  have h1 : ((a + 1 : Int) : Rat) ≤ (b : Rat) := ratLe h
  rw [Rat.intCast_add] at h1
  have e1 : (a : Rat) / (W : Rat) * (W : Rat) = a := by grind
  have e2 : (b : Rat) / (W : Rat) * (W : Rat) = b := by grind
  have c1 : ((1 : Int) : Rat) = 1 := rfl
  rw [c1] at h1
  generalize (a : Rat) / (W : Rat) = p at *
  generalize (b : Rat) / (W : Rat) = q at *
  apply Rat.not_lt.mp
  intro h
  have := Rat.mul_pos (show 0 < p + 1 / 4194304 - q by grind) hWr
  grind
theorem fr_lt {a b W : Int} (h : a < b) (ha : 0 ≤ a) (hb : b ≤ W) (hW : 0 < W) (hW2 : W ≤ 4194304) : rv (fdivI a W) < rv (fdivI b W) := by
  have g := fr_gap h hW hW2
  have h1 := (fr_ap ha (by omega) hW).hi
  have h2 := (fr_ap (by omega) hb hW).lo
  grind
theorem fr_lt_iff {a b W : Int} (ha : 0 ≤ a) (ha' : a ≤ W) (hb' : 0 ≤ b) (hb : b ≤ W) (hW : 0 < W) (hW2 : W ≤ 4194304) : rv (fdivI a W) < rv (fdivI b W) ↔ a < b := by
  constructor
  · intro h
    apply Int.not_le.mp
    intro h2
    rcases Int.lt_or_eq_of_le h2 with h3 | h3
    · have := fr_lt h3 hb' ha' hW hW2
      grind
    · subst h3
      grind
  · intro h
    exact fr_lt h ha hb hW hW2
theorem fr_eq_iff {a b W : Int} (ha : 0 ≤ a) (ha' : a ≤ W) (hb' : 0 ≤ b) (hb : b ≤ W) (hW : 0 < W) (hW2 : W ≤ 4194304) : rv (fdivI a W) = rv (fdivI b W) ↔ a = b := by
  constructor
  · intro h
    have h1 := (fr_lt_iff ha ha' hb' hb hW hW2)
    have h2 := (fr_lt_iff hb' hb ha ha' hW hW2)
    have n1 : ¬ a < b := fun q => by have := h1.mpr q; grind
    have n2 : ¬ b < a := fun q => by have := h2.mpr q; grind
    omega
  · intro h; rw [h]
structure Sides (R G B W M m : Int) : Prop where
  w0 : 0 < W
  w1 : W ≤ 4194304
  b0 : 0 ≤ m
  b1 : M ≤ W
  hM : M = R ∨ M = G ∨ M = B
  rM : R ≤ M
  gM : G ≤ M
  bM : B ≤ M
  hm : m = R ∨ m = G ∨ m = B
  rm : m ≤ R
  gm : m ≤ G
  bm : m ≤ B
theorem fmax_is {R G B W M m : Int} (S : Sides R G B W M m) : fmax3 (fdivI R W) (fdivI G W) (fdivI B W) = fdivI M W := by
  obtain ⟨w0, w1, b0, b1, hM, rM, gM, bM, hm, rm, gm, bm⟩ := S
  have fR := (fr_ap (Int.le_trans b0 rm) (Int.le_trans rM b1) w0).fin
  have fG := (fr_ap (Int.le_trans b0 gm) (Int.le_trans gM b1) w0).fin
  have fB := (fr_ap (Int.le_trans b0 bm) (Int.le_trans bM b1) w0).fin
  have k1 : (Float64.cmp (fdivI G W) (fdivI R W) == some .gt) = decide (R < G) := by
    rw [cmp_gt fG fR]; exact decide_eq_decide.mpr (fr_lt_iff (Int.le_trans b0 rm) (Int.le_trans rM b1) (Int.le_trans b0 gm) (Int.le_trans gM b1) w0 w1)
  have k2 : (Float64.cmp (fdivI B W) (fdivI R W) == some .gt) = decide (R < B) := by
    rw [cmp_gt fB fR]; exact decide_eq_decide.mpr (fr_lt_iff (Int.le_trans b0 rm) (Int.le_trans rM b1) (Int.le_trans b0 bm) (Int.le_trans bM b1) w0 w1)
  have k3 : (Float64.cmp (fdivI B W) (fdivI G W) == some .gt) = decide (G < B) := by
    rw [cmp_gt fB fG]; exact decide_eq_decide.mpr (fr_lt_iff (Int.le_trans b0 gm) (Int.le_trans gM b1) (Int.le_trans b0 bm) (Int.le_trans bM b1) w0 w1)
  have key : ∀ v : Int, R ≤ v → G ≤ v → B ≤ v → v ≤ M → fdivI v W = fdivI M W := fun v h1 h2 h3 h4 => by
    rw [Int.le_antisymm h4 (hM.elim (fun h => h ▸ h1) fun h => h.elim (fun h => h ▸ h2) fun h => h ▸ h3)]
  unfold fmax3
  dsimp only
  rw [k1]
  by_cases c1 : R < G
  · rw [if_pos (decide_eq_true c1), k3]
    by_cases c2 : G < B
    · rw [if_pos (decide_eq_true c2)]; exact key B (Int.le_of_lt (Int.lt_trans c1 c2)) (Int.le_of_lt c2) (Int.le_refl B) bM
    · rw [if_neg (by rw [decide_eq_false c2]; decide)]; exact key G (Int.le_of_lt c1) (Int.le_refl G) (Int.not_lt.mp c2) gM
  · rw [if_neg (show ¬ decide (R < G) = true by rw [decide_eq_false c1]; decide), k2]
    by_cases c2 : R < B
    · rw [if_pos (decide_eq_true c2)]; exact key B (Int.le_of_lt c2) (Int.le_trans (Int.not_lt.mp c1) (Int.le_of_lt c2)) (Int.le_refl B) bM
    · rw [if_neg (by rw [decide_eq_false c2]; decide)]; exact key R (Int.le_refl R) (Int.not_lt.mp c1) (Int.not_lt.mp c2) rM
theorem fmin_is {R G B W M m : Int} (S : Sides R G B W M m) : fmin3 (fdivI R W) (fdivI G W) (fdivI B W) = fdivI m W := by
  obtain ⟨w0, w1, b0, b1, hM, rM, gM, bM, hm, rm, gm, bm⟩ := S
  have fR := (fr_ap (Int.le_trans b0 rm) (Int.le_trans rM b1) w0).fin
  have fG := (fr_ap (Int.le_trans b0 gm) (Int.le_trans gM b1) w0).fin
  have fB := (fr_ap (Int.le_trans b0 bm) (Int.le_trans bM b1) w0).fin
  have k1 : (Float64.cmp (fdivI G W) (fdivI R W) == some .lt) = decide (G < R) := by
    rw [cmp_lt fG fR]; exact decide_eq_decide.mpr (fr_lt_iff (Int.le_trans b0 gm) (Int.le_trans gM b1) (Int.le_trans b0 rm) (Int.le_trans rM b1) w0 w1)
  have k2 : (Float64.cmp (fdivI B W) (fdivI R W) == some .lt) = decide (B < R) := by
    rw [cmp_lt fB fR]; exact decide_eq_decide.mpr (fr_lt_iff (Int.le_trans b0 bm) (Int.le_trans bM b1) (Int.le_trans b0 rm) (Int.le_trans rM b1) w0 w1)
  have k3 : (Float64.cmp (fdivI B W) (fdivI G W) == some .lt) = decide (B < G) := by
    rw [cmp_lt fB fG]; exact decide_eq_decide.mpr (fr_lt_iff (Int.le_trans b0 bm) (Int.le_trans bM b1) (Int.le_trans b0 gm) (Int.le_trans gM b1) w0 w1)
  have key : ∀ v : Int, v ≤ R → v ≤ G → v ≤ B → m ≤ v → fdivI v W = fdivI m W := fun v h1 h2 h3 h4 => by
    rw [Int.le_antisymm (hm.elim (fun h => h ▸ h1) fun h => h.elim (fun h => h ▸ h2) fun h => h ▸ h3) h4]
  unfold fmin3
  dsimp only
  rw [k1]
  by_cases c1 : G < R
  · rw [if_pos (decide_eq_true c1), k3]
    by_cases c2 : B < G
    · rw [if_pos (decide_eq_true c2)]; exact key B (Int.le_of_lt (Int.lt_trans c2 c1)) (Int.le_of_lt c2) (Int.le_refl B) bm
    · rw [if_neg (by rw [decide_eq_false c2]; decide)]; exact key G (Int.le_of_lt c1) (Int.le_refl G) (Int.not_lt.mp c2) gm
  · rw [if_neg (show ¬ decide (G < R) = true by rw [decide_eq_false c1]; decide), k2]
    by_cases c2 : B < R
    · rw [if_pos (decide_eq_true c2)]; exact key B (Int.le_of_lt c2) (Int.le_trans (Int.le_of_lt c2) (Int.not_lt.mp c1)) (Int.le_refl B) bm
    · rw [if_neg (by rw [decide_eq_false c2]; decide)]; exact key R (Int.le_refl R) (Int.not_lt.mp c1) (Int.not_lt.mp c2) rm
theorem fr_eqb {a b W : Int} (ha : 0 ≤ a) (ha' : a ≤ W) (hb' : 0 ≤ b) (hb : b ≤ W) (hW : 0 < W) (hW2 : W ≤ 4194304) : eqb (fdivI a W) (fdivI b W) = decide (a = b) := by
  unfold eqb
  rw [cmp_eq (fr_ap ha ha' hW).fin (fr_ap hb' hb hW).fin]
  exact decide_eq_decide.mpr (fr_eq_iff ha ha' hb' hb hW hW2)
/-- a quotient of two that are near -/
theorem div_ap {x y : UInt64} {x0 y0 q e1 e2 : Rat} (hx : Ap x x0 e1) (hy : Ap y y0 e2) (hq : q * y0 = x0) (q0 : -1 ≤ q) (q1 : q ≤ 1) (y1 : 1 / 4194304 ≤ y0) (e10 : 0 ≤ e1) (e11 : e1 ≤ 16 / 9007199254740992) (e20 : 0 ≤ e2) (e21 : e2 ≤ 16 / 9007199254740992) :
    rv y ≠ 0 ∧ Ap (Float64.div x y) q ((e1 + e2) * 4194400 + 2 / 9007199254740992) := by
  obtain ⟨fx, a1, b1⟩ := hx
  obtain ⟨fy, a2, b2⟩ := hy
  have hy0 : 1 / 4194400 ≤ rv y := by grind
  have hne : rv y ≠ 0 := by grind
  refine ⟨hne, ?_⟩
  have ez : rv x / rv y * rv y = rv x := by grind
  obtain ⟨p1, p2⟩ := prod_bd (x := q) (x0 := 0) (e1 := 1) (X := 0) (Y := e2) (y := rv y - y0) (y0 := 0) (e2 := e2) (by grind) (by grind) (by grind) (by grind) (by grind) (by grind) (by grind) (by grind)
  have p3 : q * (rv y - y0) = q * rv y - x0 := by grind
  rw [p3] at p1 p2
  have hb : q - (e1 + e2) * 4194400 ≤ rv x / rv y ∧ rv x / rv y ≤ q + (e1 + e2) * 4194400 := by
    generalize rv x / rv y = z at *
    have k := Rat.mul_nonneg (show 0 ≤ rv y - 1 / 4194400 by grind) (show 0 ≤ (e1 + e2) * 4194400 by grind)
    constructor
    · apply Rat.not_lt.mp
      intro h
      have := Rat.mul_pos (show 0 < q - (e1 + e2) * 4194400 - z by grind) (show 0 < rv y by grind)
      grind
    · apply Rat.not_lt.mp
      intro h
      have := Rat.mul_pos (show 0 < z - (q + (e1 + e2) * 4194400) by grind) (show 0 < rv y by grind)
      grind
  obtain ⟨df, da, db⟩ := div_nr fx fy hne 1 (B := 2) rfl (by decide) (by grind) (by grind)
  exact ⟨df, by grind, by grind⟩
end Mine

end
section
open PySem PySem.W PySem.Calls PyProof.Rows PySem.SeqAt
set_option Elab.async false
set_option maxRecDepth 100000
set_option maxHeartbeats 1000000
namespace Mine
def wkI (R G B M m : Int) : Int := if R < M then (if G = M then 2 * (M - m) + B - R else 4 * (M - m) + R - G) else G - B
theorem range_ap {M m W : Int} (w0 : 0 < W) (w1 : W ≤ 4194304) (b0 : 0 ≤ m) (b1 : M ≤ W) (h1 : m < M) {a : Int} (ha : m ≤ a) (ha' : a ≤ M) :
    Ap (Float64.sub (fdivI M W) (fdivI a W)) ((M : Rat) / (W : Rat) - (a : Rat) / (W : Rat)) (4 / 9007199254740992) := by
  obtain ⟨p1, p2, _⟩ := fr_bd (a := M) (W := W) (Int.le_trans b0 (Int.le_of_lt h1)) b1 w0
  obtain ⟨p3, p4, _⟩ := fr_bd (a := a) (W := W) (Int.le_trans b0 ha) (Int.le_trans ha' b1) w0
  exact (sub_ap (fr_ap (Int.le_trans b0 (Int.le_of_lt h1)) b1 w0) (fr_ap (Int.le_trans b0 ha) (Int.le_trans ha' b1) w0) 1 (B := 2) rfl (by decide) (by grind) (by grind)).le (by decide +kernel)
theorem ratio_eq {μ α ν q W a m M : Rat} (hW : 0 < W) (e1 : μ * W = M) (e2 : α * W = a) (e3 : ν * W = m) (hq : q * (M - m) = M - a) : q * (μ - ν) = μ - α := by
  have e : (q * (μ - ν) - (μ - α)) * W = 0 := by rw [← e1, ← e2, ← e3] at hq; grind
  rcases Rat.mul_eq_zero.mp e with h | h
  · clear e e1 e2 e3 hq; grind
  · exact absurd h (Rat.ne_of_gt hW)
theorem part_ap {M m W : Int} (w0 : 0 < W) (w1 : W ≤ 4194304) (b0 : 0 ≤ m) (b1 : M ≤ W) (h1 : m < M) {a : Int} (ha : m ≤ a) (ha' : a ≤ M) :
    0 ≤ ((M - a : Int) : Rat) / ((M - m : Int) : Rat) ∧ ((M - a : Int) : Rat) / ((M - m : Int) : Rat) ≤ 1 ∧
    Ap (Float64.div (Float64.sub (fdivI M W) (fdivI a W)) (Float64.sub (fdivI M W) (fdivI m W))) (((M - a : Int) : Rat) / ((M - m : Int) : Rat)) (33555202 / 9007199254740992) := by
  obtain ⟨q0, q1, q2⟩ := fr_bd (a := M - a) (W := M - m) (by omega) (by omega) (by omega)
  refine ⟨q0, q1, ?_⟩
  have A := range_ap w0 w1 b0 b1 h1 ha ha'
  have D := range_ap w0 w1 b0 b1 h1 (a := m) (by omega) (by omega)
  have g := fr_gap h1 w0 w1
  obtain ⟨m0, m1, z1⟩ := fr_bd (a := M) (W := W) (Int.le_trans b0 (Int.le_of_lt h1)) b1 w0
  obtain ⟨_, _, z2⟩ := fr_bd (a := a) (W := W) (Int.le_trans b0 ha) (Int.le_trans ha' b1) w0
  obtain ⟨_, _, z3⟩ := fr_bd (a := m) (W := W) b0 (Int.le_trans (Int.le_of_lt h1) b1) w0
  rw [Rat.intCast_sub, Rat.intCast_sub] at q0 q1 q2 ⊢
  have hq := ratio_eq (show (0 : Rat) < (W : Rat) from Rat.intCast_lt_intCast.mpr w0) z1 z2 z3 q2
  exact (div_ap A D hq (Rat.le_trans (by decide +kernel) q0) q1 (by clear z1 z2 z3 q2 hq A D; grind) (by decide +kernel) (by decide +kernel) (by decide +kernel) (by decide +kernel)).2.le (by decide +kernel)
theorem hue_ap {h : UInt64} {x : Rat} (hh : Ap h x (67110420 / 9007199254740992)) (x0 : -1 ≤ x) (x1 : x ≤ 5) :
    -(4 / 9007199254740992) ≤ rv (Float64.divmod (Float64.div h F6) F1).2 ∧ rv (Float64.divmod (Float64.div h F6) F1).2 ≤ 1 + 4 / 9007199254740992 ∧
    ∃ j : Int, Ap (Float64.divmod (Float64.div h F6) F1).2 (x / 6 - (j : Rat)) (11185080 / 9007199254740992) := by
  obtain ⟨f, a, b⟩ := hh
  obtain ⟨df, da, db⟩ := div_nr f fF6 (by rw [rF6]; decide +kernel) 0 (B := 1) rfl (by decide) (by rw [rF6]; grind) (by rw [rF6]; grind)
  rw [rF6] at da db
  obtain ⟨mf, j, j1, j2, j3, j4⟩ := mod_nr df
  exact ⟨by clear a b da db x0 x1 j1 j2; grind, by clear a b da db x0 x1 j1 j2; grind, j, mf, by clear x0 x1 j3 j4; grind, by clear x0 x1 j3 j4; grind⟩
theorem leb_half {l : UInt64} (h : Fn l) : leb l F05 = decide (rv l ≤ 1 / 2) := by
  unfold leb
  rw [cmp_lt h fF05, cmp_eq h fF05, rF05]
  by_cases c1 : rv l < 1 / 2
  · have : rv l ≤ 1 / 2 := by grind
    simp [c1, this]
  · by_cases c2 : rv l = 1 / 2
    · have : rv l ≤ 1 / 2 := by grind
      simp [c2, this]
    · have : ¬ rv l ≤ 1 / 2 := by grind
      simp [c1, c2, this]
structure RgbOk (R G B W M m : Int) (H L Sh : UInt64) : Prop where
  rgb : rgbF (fdivI R W) (fdivI G W) (fdivI B W) = .tup [.flt H, .flt L, .flt Sh]
  z1 : Float64.isZero (Float64.sub (fdivI M W) (fdivI m W)) = false
  z2 : leb L F05 = true → Float64.isZero (Float64.add (fdivI M W) (fdivI m W)) = false
  z3 : leb L F05 = false → Float64.isZero (Float64.sub (Float64.sub F2 (fdivI M W)) (fdivI m W)) = false
  eL : L = Float64.div (Float64.add (fdivI M W) (fdivI m W)) F2
  aL : Ap L (((M : Rat) / (W : Rat) + (m : Rat) / (W : Rat)) / 2) (5 / 9007199254740992)
  s1 : leb L F05 = true → rv L ≤ 1 / 2 ∧ M + m ≤ W ∧ Ap Sh (((M - m : Int) : Rat) / ((M + m : Int) : Rat)) (58721610 / 9007199254740992)
  s2 : leb L F05 = false → 1 / 2 < rv L ∧ W ≤ M + m ∧ Ap Sh (((M - m : Int) : Rat) / ((2 * W - M - m : Int) : Rat)) (58721610 / 9007199254740992)
  h0 : -(4 / 9007199254740992) ≤ rv H
  h1 : rv H ≤ 1 + 4 / 9007199254740992
  hH : ∃ j : Int, Ap H (((wkI R G B M m : Int) : Rat) / ((M - m : Int) : Rat) / 6 - (j : Rat)) (11185080 / 9007199254740992)
def hueF (R G M : Int) (rc gc bc : UInt64) : UInt64 := if decide (R = M) then Float64.sub bc gc else if decide (G = M) then Float64.sub (Float64.add F2 rc) bc else Float64.sub (Float64.add F4 gc) rc
theorem three_ap {R G M : Int} {rc gc bc : UInt64} {qr qg qb wk : Rat} (hR : R = M → wk = qb - qg) (hG : ¬ R = M → G = M → wk = 2 + qr - qb) (hB : ¬ R = M → ¬ G = M → wk = 4 + qg - qr)
    (r0 : 0 ≤ qr) (r1 : qr ≤ 1) (g0 : 0 ≤ qg) (g1 : qg ≤ 1) (b0 : 0 ≤ qb) (b1 : qb ≤ 1) (AR : Ap rc qr (33555202 / 9007199254740992)) (AG : Ap gc qg (33555202 / 9007199254740992)) (AB : Ap bc qb (33555202 / 9007199254740992)) :
    -1 ≤ wk ∧ wk ≤ 5 ∧ Ap (hueF R G M rc gc bc) wk (67110420 / 9007199254740992) := by
  unfold hueF
  by_cases c1 : R = M
  · rw [hR c1, if_pos (decide_eq_true c1)]
    clear hR hG hB
    exact ⟨by grind, by grind, (sub_ap AB AG 1 (B := 2) rfl (by decide) (by grind) (by grind)).le (by decide +kernel)⟩
  · rw [if_neg (by rw [decide_eq_false c1]; decide)]
    by_cases c3 : G = M
    · rw [hG c1 c3, if_pos (decide_eq_true c3)]
      clear hR hG hB
      exact ⟨by grind, by grind, (sub_ap (add_ap (Ap.of fF2 rF2) AR 2 (B := 4) rfl (by decide) (by grind) (by grind)) AB 2 (B := 4) rfl (by decide) (by grind) (by grind)).le (by decide +kernel)⟩
    · rw [hB c1 c3, if_neg (by rw [decide_eq_false c3]; decide)]
      clear hR hG hB
      exact ⟨by grind, by grind, (sub_ap (add_ap (Ap.of fF4 rF4) AG 3 (B := 8) rfl (by decide) (by grind) (by grind)) AR 3 (B := 8) rfl (by decide) (by grind) (by grind)).le (by decide +kernel)⟩
theorem wk_eq {R G B M m : Int} (hlt : m < M) (rM : R ≤ M) :
    (R = M → ((wkI R G B M m : Int) : Rat) / ((M - m : Int) : Rat) = ((M - B : Int) : Rat) / ((M - m : Int) : Rat) - ((M - G : Int) : Rat) / ((M - m : Int) : Rat)) ∧
    (¬ R = M → G = M → ((wkI R G B M m : Int) : Rat) / ((M - m : Int) : Rat) = 2 + ((M - R : Int) : Rat) / ((M - m : Int) : Rat) - ((M - B : Int) : Rat) / ((M - m : Int) : Rat)) ∧
    (¬ R = M → ¬ G = M → ((wkI R G B M m : Int) : Rat) / ((M - m : Int) : Rat) = 4 + ((M - G : Int) : Rat) / ((M - m : Int) : Rat) - ((M - R : Int) : Rat) / ((M - m : Int) : Rat)) := by
  have hd : ((M - m : Int) : Rat) ≠ 0 := fun h => by
    have := Rat.intCast_lt_intCast.mpr (Int.sub_pos_of_lt hlt)
    rw [h] at this
    exact absurd this (by decide +kernel)
  have key : ∀ k x y : Int, ((k * (M - m) + x - y : Int) : Rat) / ((M - m : Int) : Rat) = (k : Rat) + (x : Rat) / ((M - m : Int) : Rat) - (y : Rat) / ((M - m : Int) : Rat) := by
    intro k x y
    rw [Rat.intCast_sub (k * (M - m) + x) y, Rat.intCast_add (k * (M - m)) x, Rat.intCast_mul k (M - m)]
    generalize ((M - m : Int) : Rat) = D at *
    grind
  have c0 : (0 : Rat) + ((M - B : Int) : Rat) / ((M - m : Int) : Rat) = ((M - B : Int) : Rat) / ((M - m : Int) : Rat) := Rat.zero_add _
  refine ⟨fun c => ?_, fun c1 c => ?_, fun c1 c => ?_⟩
  · rw [← c0]
    refine Eq.trans ?_ (key 0 (M - B) (M - G))
    have e : wkI R G B M m = 0 * (M - m) + (M - B) - (M - G) := by unfold wkI; rw [if_neg (by rw [c]; exact Int.lt_irrefl M)]; clear key c0 hd; omega
    rw [e]
  · refine Eq.trans ?_ (key 2 (M - R) (M - B))
    have e : wkI R G B M m = 2 * (M - m) + (M - R) - (M - B) := by unfold wkI; rw [if_pos (Int.lt_iff_le_and_ne.mpr ⟨rM, c1⟩), if_pos c]; clear key c0 hd; omega
    rw [e]
  · refine Eq.trans ?_ (key 4 (M - G) (M - R))
    have e : wkI R G B M m = 4 * (M - m) + (M - G) - (M - R) := by unfold wkI; rw [if_pos (Int.lt_iff_le_and_ne.mpr ⟨rM, c1⟩), if_neg c]; clear key c0 hd; omega
    rw [e]
theorem half_gap {M m W : Int} (w0 : 0 < W) (w1 : W ≤ 4194304) : (W < M + m → 1 / 2 + 1 / 8388608 ≤ ((M : Rat) / (W : Rat) + (m : Rat) / (W : Rat)) / 2) ∧ (M + m < W → ((M : Rat) / (W : Rat) + (m : Rat) / (W : Rat)) / 2 ≤ 1 / 2 - 1 / 8388608) := by
  have hW : (W : Rat) ≠ 0 := fun h => by
    have := Rat.intCast_lt_intCast.mpr w0
    rw [h] at this
    exact absurd this (by decide +kernel)
  have e1 : (W : Rat) / (W : Rat) = 1 := by rw [Rat.div_def]; exact Rat.mul_inv_cancel _ hW
  have e2 : ((M + m : Int) : Rat) / (W : Rat) = (M : Rat) / (W : Rat) + (m : Rat) / (W : Rat) := by rw [Rat.intCast_add, Rat.div_def, Rat.div_def, Rat.div_def, Rat.add_mul]
  constructor
  · intro h
    have g := fr_gap h w0 w1
    rw [e1, e2] at g
    clear e1 e2
    grind
  · intro h
    have g := fr_gap h w0 w1
    rw [e1, e2] at g
    clear e1 e2
    grind
theorem share_eq {M m W : Int} (w0 : 0 < W) (b0 : 0 ≤ m) (b1 : M ≤ W) (hlt : m < M) :
    ((M - m : Int) : Rat) / ((M + m : Int) : Rat) * ((M : Rat) / (W : Rat) + (m : Rat) / (W : Rat)) = (M : Rat) / (W : Rat) - (m : Rat) / (W : Rat) ∧
    ((M - m : Int) : Rat) / ((2 * W - M - m : Int) : Rat) * (2 - (M : Rat) / (W : Rat) - (m : Rat) / (W : Rat)) = (M : Rat) / (W : Rat) - (m : Rat) / (W : Rat) := by
  have hWr : (0 : Rat) < (W : Rat) := Rat.intCast_lt_intCast.mpr w0
  obtain ⟨_, _, v2⟩ := fr_bd (a := M - m) (W := M + m) (by omega) (by omega) (by omega)
  obtain ⟨_, _, v5⟩ := fr_bd (a := M - m) (W := 2 * W - M - m) (by omega) (by omega) (by omega)
  obtain ⟨_, _, p2⟩ := fr_bd (a := M) (W := W) (by omega) b1 w0
  obtain ⟨_, _, p5⟩ := fr_bd (a := m) (W := W) b0 (by omega) w0
  have c2 : ((2 : Int) : Rat) = 2 := rfl
  constructor
  · rw [Rat.intCast_sub, Rat.intCast_add] at v2 ⊢
    clear v5 c2
    generalize ((M : Rat) - (m : Rat)) / ((M : Rat) + (m : Rat)) = q at *
    generalize (M : Rat) / (W : Rat) = μ at *
    generalize (m : Rat) / (W : Rat) = ν at *
    rw [← p2, ← p5] at v2
    have e : (q * (μ + ν) - (μ - ν)) * (W : Rat) = 0 := by clear p2 p5; grind
    rcases Rat.mul_eq_zero.mp e with h | h
    · clear e v2 p2 p5; grind
    · exact absurd h (Rat.ne_of_gt hWr)
  · rw [Rat.intCast_sub, Rat.intCast_sub, Rat.intCast_sub, Rat.intCast_mul, c2] at v5
    rw [Rat.intCast_sub, Rat.intCast_sub, Rat.intCast_sub, Rat.intCast_mul, c2]
    clear v2 c2
    generalize ((M : Rat) - (m : Rat)) / (2 * (W : Rat) - (M : Rat) - (m : Rat)) = q at *
    generalize (M : Rat) / (W : Rat) = μ at *
    generalize (m : Rat) / (W : Rat) = ν at *
    rw [← p2, ← p5] at v5
    have e : (q * (2 - μ - ν) - (μ - ν)) * (W : Rat) = 0 := by clear p2 p5; grind
    rcases Rat.mul_eq_zero.mp e with h | h
    · clear e v5 p2 p5; grind
    · exact absurd h (Rat.ne_of_gt hWr)
theorem share_ap {mx mn : UInt64} {μ ν : Rat} (AM : Ap mx μ (1 / 9007199254740992)) (Am : Ap mn ν (1 / 9007199254740992)) (D : Ap (Float64.sub mx mn) (μ - ν) (4 / 9007199254740992)) (p0 : 0 ≤ ν) (p1 : μ ≤ 1) (g : ν + 1 / 4194304 ≤ μ) {qA qB : Rat} (eA : qA * (μ + ν) = μ - ν) (eB : qB * (2 - μ - ν) = μ - ν) (a0 : 0 ≤ qA) (a1 : qA ≤ 1) (c0 : 0 ≤ qB) (c1 : qB ≤ 1) :
    rv (Float64.sub mx mn) ≠ 0 ∧ rv (Float64.add mx mn) ≠ 0 ∧ rv (Float64.sub (Float64.sub F2 mx) mn) ≠ 0 ∧ Fn (Float64.add mx mn) ∧ Fn (Float64.sub (Float64.sub F2 mx) mn) ∧ Ap (Float64.div (Float64.add mx mn) F2) ((μ + ν) / 2) (5 / 9007199254740992) ∧
    Ap (Float64.div (Float64.sub mx mn) (Float64.add mx mn)) qA (58721610 / 9007199254740992) ∧ Ap (Float64.div (Float64.sub mx mn) (Float64.sub (Float64.sub F2 mx) mn)) qB (58721610 / 9007199254740992) := by
  have AS := (add_ap AM Am 2 (B := 4) rfl (by decide) (by grind) (by grind)).le (e' := 6 / 9007199254740992) (by decide +kernel)
  have AU := (sub_ap (sub_ap (Ap.of fF2 rF2) AM 2 (B := 4) rfl (by decide) (by grind) (by grind)) Am 2 (B := 4) rfl (by decide) (by grind) (by grind)).le (e' := 10 / 9007199254740992) (by decide +kernel)
  obtain ⟨n1, DA⟩ := div_ap D AS eA (Rat.le_trans (by decide +kernel) a0) a1 (by clear eA eB; grind) (by decide +kernel) (by decide +kernel) (by decide +kernel) (by decide +kernel)
  obtain ⟨n2, DB⟩ := div_ap D AU eB (Rat.le_trans (by decide +kernel) c0) c1 (by clear eA eB; grind) (by decide +kernel) (by decide +kernel) (by decide +kernel) (by decide +kernel)
  clear eA eB a0 a1 c0 c1
  have hd := D.lo
  refine ⟨by grind, n1, n2, AS.fin, AU.fin, ?_, DA.le (by decide +kernel), DB.le (by decide +kernel)⟩
  obtain ⟨sf, sl, su⟩ := AS
  clear DA DB AU D hd n1 n2 AM Am
  obtain ⟨lf, ll, lu⟩ := div_nr sf fF2 (by rw [rF2]; decide +kernel) 1 (B := 2) rfl (by decide) (by rw [rF2]; grind) (by rw [rF2]; grind)
  rw [rF2] at ll lu
  clear p0 p1 g
  exact ⟨lf, by grind, by grind⟩
theorem rgb_ap {R G B W M m : Int} (S : Sides R G B W M m) (hlt : m < M) : ∃ H L Sh, RgbOk R G B W M m H L Sh := by
  have eM := fmax_is S
  have em := fmin_is S
  obtain ⟨w0, w1, b0, b1, hM, rM, gM, bM, hm, rm, gm, bm⟩ := S
  have M0 : 0 ≤ M := Int.le_trans b0 (Int.le_of_lt hlt)
  have m1 : m ≤ W := Int.le_trans (Int.le_of_lt hlt) b1
  obtain ⟨qr0, qr1, AR⟩ := part_ap w0 w1 b0 b1 hlt rm rM
  obtain ⟨qg0, qg1, AG⟩ := part_ap w0 w1 b0 b1 hlt gm gM
  obtain ⟨qb0, qb1, AB⟩ := part_ap w0 w1 b0 b1 hlt bm bM
  obtain ⟨k1, k2, k3⟩ := wk_eq (B := B) (m := m) hlt rM
  obtain ⟨x0, x1, hh⟩ := three_ap k1 k2 k3 qr0 qr1 qg0 qg1 qb0 qb1 AR AG AB
  obtain ⟨h0, h1, j, hH⟩ := hue_ap hh x0 x1
  clear qr0 qr1 AR qg0 qg1 AG qb0 qb1 AB k1 k2 k3 x0 x1 hh
  have keq : eqb (fdivI m W) (fdivI M W) = false := by
    rw [fr_eqb b0 m1 M0 b1 w0 w1]; exact decide_eq_false (Int.ne_of_lt hlt)
  have kR : eqb (fdivI R W) (fdivI M W) = decide (R = M) := fr_eqb (Int.le_trans b0 rm) (Int.le_trans rM b1) M0 b1 w0 w1
  have kG : eqb (fdivI G W) (fdivI M W) = decide (G = M) := fr_eqb (Int.le_trans b0 gm) (Int.le_trans gM b1) M0 b1 w0 w1
  have hF : rgbF (fdivI R W) (fdivI G W) (fdivI B W) = .tup [.flt (Float64.divmod (Float64.div (hueF R G M (Float64.div (Float64.sub (fdivI M W) (fdivI R W)) (Float64.sub (fdivI M W) (fdivI m W))) (Float64.div (Float64.sub (fdivI M W) (fdivI G W)) (Float64.sub (fdivI M W) (fdivI m W))) (Float64.div (Float64.sub (fdivI M W) (fdivI B W)) (Float64.sub (fdivI M W) (fdivI m W)))) F6) F1).2,
      .flt (Float64.div (Float64.add (fdivI M W) (fdivI m W)) F2),
      .flt (if leb (Float64.div (Float64.add (fdivI M W) (fdivI m W)) F2) F05 then Float64.div (Float64.sub (fdivI M W) (fdivI m W)) (Float64.add (fdivI M W) (fdivI m W)) else Float64.div (Float64.sub (fdivI M W) (fdivI m W)) (Float64.sub (Float64.sub F2 (fdivI M W)) (fdivI m W)))] := by
    unfold rgbF
    dsimp only
    rw [eM, em, keq, kR, kG]
    rfl
  clear keq kR kG eM em hM rM gM bM hm rm gm bm
  obtain ⟨p0, p1, _⟩ := fr_bd M0 b1 w0
  obtain ⟨p3, p4, _⟩ := fr_bd b0 m1 w0
  obtain ⟨eA, eB⟩ := share_eq w0 b0 b1 hlt
  obtain ⟨g1, g2⟩ := half_gap (M := M) (m := m) w0 w1
  have g := fr_gap hlt w0 w1
  obtain ⟨v0, v1, _⟩ := fr_bd (a := M - m) (W := M + m) (by omega) (by omega) (by omega)
  obtain ⟨v3, v4, _⟩ := fr_bd (a := M - m) (W := 2 * W - M - m) (by omega) (by omega) (by omega)
  obtain ⟨z1, z2, z3, sF, uF, AL, DA, DB⟩ := share_ap (fr_ap M0 b1 w0) (fr_ap b0 m1 w0) (range_ap w0 w1 b0 b1 hlt (Int.le_refl m) (Int.le_of_lt hlt)) p3 p1 g eA eB v0 v1 v3 v4
  have dF := (range_ap w0 w1 b0 b1 hlt (Int.le_refl m) (Int.le_of_lt hlt)).fin
  have hle := leb_half AL.fin
  have l1 := AL.lo
  have l2 := AL.hi
  clear eA eB v0 v1 v3 v4 p0 p1 p3 p4 g
  refine ⟨_, _, _, ⟨hF, zero_of dF z1, fun _ => zero_of sF z2, fun _ => zero_of uF z3, rfl, AL, fun hl => ?_, fun hl => ?_, h0, h1, j, hH⟩⟩
  · rw [hle] at hl
    have hl := of_decide_eq_true hl
    refine ⟨hl, Int.not_lt.mp fun h => ?_, ?_⟩
    · have := g1 h
      clear hF hle dF z1 z2 z3 sF uF AL DA DB h0 h1 hH g1 g2
      grind
    · rw [hle, if_pos (decide_eq_true hl)]; exact DA
  · rw [hle] at hl
    have hl := of_decide_eq_false hl
    refine ⟨Rat.not_le.mp hl, Int.not_lt.mp fun h => ?_, ?_⟩
    · have := g2 h
      clear hF hle dF z1 z2 z3 sF uF AL DA DB h0 h1 hH g1 g2
      grind
    · rw [hle, if_neg (by rw [decide_eq_false hl]; decide)]; exact DB
end Mine

end
section
open PySem PySem.W PySem.Calls PyProof.Rows PySem.SeqAt
set_option Elab.async false
set_option maxRecDepth 100000
set_option maxHeartbeats 1000000
namespace Mine
/-- a colour t, the next one u, the one ahead w: its place Y on its trapezoid -/
def onTpz (t u w Y : Rat) : Prop := (t = 1 ∧ Y = 2 + u - w) ∨ (u = 1 ∧ Y = 4 + w - t ∧ (w = 0 ∨ t = 0)) ∨ (w = 1 ∧ Y = t - u ∧ (t = 0 ∨ u = 0))
theorem tpz_on {t u w Y : Rat} (t0 : 0 ≤ t) (t1 : t ≤ 1) (u0 : 0 ≤ u) (u1 : u ≤ 1) (w0 : 0 ≤ w) (w1 : w ≤ 1) (h : onTpz t u w Y) : ∃ z : Int, 0 ≤ Y + 6 * (z : Rat) ∧ Y + 6 * (z : Rat) ≤ 6 ∧ tpz (Y + 6 * (z : Rat)) = t := by
  have k0 : ((0 : Int) : Rat) = 0 := rfl
  have k1 : ((1 : Int) : Rat) = 1 := rfl
  rcases h with ⟨rfl, rfl⟩ | ⟨rfl, rfl, h⟩ | ⟨rfl, rfl, h⟩
  · refine ⟨0, ?_⟩
    rw [k0, tpz_b (by grind) (by grind)]; grind
  · refine ⟨0, ?_⟩
    rw [k0]
    rcases h with rfl | rfl
    · rw [tpz_c (by grind) (by grind)]; grind
    · rw [tpz_d (by grind)]; grind
  · rcases h with rfl | rfl
    · refine ⟨1, ?_⟩
      rw [k1, tpz_d (by grind)]; grind
    · refine ⟨0, ?_⟩
      rw [k0, tpz_a (by grind)]; grind
theorem trap_law {t u w Y hu η P : Rat} {J z : Int} (t0 : 0 ≤ t) (t1 : t ≤ 1) (u0 : 0 ≤ u) (u1 : u ≤ 1) (w0 : 0 ≤ w) (w1 : w ≤ 1) (hY : onTpz t u w Y) (hP : P = Y + 6 * (z : Rat))
    (h0 : -(4 / 9007199254740992) ≤ hu) (h1 : hu ≤ 1 + 4 / 9007199254740992) (e1 : η ≤ 1 / 100)
    (a1 : P - 6 * (J : Rat) - η ≤ 6 * hu) (a2 : 6 * hu ≤ P - 6 * (J : Rat) + η) :
    t - (η + 30 / 9007199254740992) ≤ trapT hu ∧ trapT hu ≤ t + (η + 30 / 9007199254740992) := by
  obtain ⟨k, k0, k1, ht⟩ := tpz_on t0 t1 u0 u1 w0 w1 hY
  have := tpz_per (X := 6 * hu) (Y := Y + 6 * (k : Rat)) (η := η) (μ := 30 / 9007199254740992) (J := z - J - k) (by grind) (by grind) k0 k1 (by grind) (by grind) (by grind)
    (by rw [Rat.intCast_sub, Rat.intCast_sub]; grind) (by rw [Rat.intCast_sub, Rat.intCast_sub]; grind)
  rw [ht] at this
  exact this
end Mine

end
section
open PySem PySem.W PySem.Calls PyProof.Rows PySem.SeqAt
set_option Elab.async false
set_option maxRecDepth 100000
set_option maxHeartbeats 1000000
namespace Mine
theorem m12_ap {L Sh : UInt64} {μ ν q : Rat} (n0 : 0 ≤ ν) (n1 : ν ≤ μ) (n2 : μ ≤ 1) (aL : Ap L ((μ + ν) / 2) (5 / 9007199254740992)) (aS : Ap Sh q (58721610 / 9007199254740992)) (q0 : 0 ≤ q) (q1 : q ≤ 1)
    (hA : leb L F05 = true → rv L ≤ 1 / 2 ∧ q * (μ + ν) = μ - ν) (hB : leb L F05 = false → 1 / 2 < rv L ∧ q * (2 - μ - ν) = μ - ν) :
    Ap (if leb L F05 then Float64.mul L (Float64.add F1 Sh) else Float64.sub (Float64.add L Sh) (Float64.mul L Sh)) μ (29360840 / 9007199254740992) := by
  obtain ⟨lf, ll, lu⟩ := aL
  obtain ⟨sf, sl, su⟩ := aS
  cases hl : leb L F05 with
  | true =>
    obtain ⟨h1, h2⟩ := hA hl
    rw [if_pos rfl]
    have A1 := add_ap (Ap.of fF1 rF1) (⟨sf, sl, su⟩ : Ap Sh q (58721610 / 9007199254740992)) 2 (B := 4) rfl (by decide) (by grind) (by grind)
    have e1 : (μ + ν) / 2 * (1 + q) = μ := by grind
    have r1 := A1.lo
    have r2 := A1.hi
    exact (mul_ap (⟨lf, ll, lu⟩ : Ap L ((μ + ν) / 2) (5 / 9007199254740992)) A1 (X := 1 / 2 + 5 / 9007199254740992) (Y := 3) (by grind) (by grind) (by grind) (by grind) 1 (B := 2) rfl (by decide) (by rw [e1]; grind) (by rw [e1]; grind)).ev e1 (by decide +kernel)
  | false =>
    obtain ⟨h1, h2⟩ := hB hl
    rw [if_neg (by decide)]
    obtain ⟨af, al, au⟩ := add_nr lf sf 2 (B := 4) rfl (by decide) (by grind) (by grind)
    obtain ⟨r1, r2⟩ := prod_abs (x := rv L) (y := rv Sh) (A := 5 / 4) (B := 5 / 4) (by grind) (by grind) (by grind) (by grind)
    obtain ⟨mf, ml, mu⟩ := mul_nr lf sf 1 (B := 2) rfl (by decide) (by grind) (by grind)
    obtain ⟨p1, p2⟩ := prod_bd (x := rv Sh) (x0 := q) (e1 := 58721610 / 9007199254740992) (X := 1) (Y := 1 / 2) (y := 1 - rv L) (y0 := 1 - (μ + ν) / 2) (e2 := 5 / 9007199254740992) sl su (by grind) (by grind) (by grind) q1 (by grind) (by grind)
    have e1 : q * (1 - (μ + ν) / 2) = (μ - ν) / 2 := by clear p1 p2 r1 r2 ml mu; grind
    have e3 : rv Sh * (1 - rv L) = rv Sh - rv L * rv Sh := by clear e1 p1 p2 r1 r2 ml mu h2; grind
    rw [e1, e3] at p1 p2
    generalize rv L * rv Sh = z at *
    clear r1 r2 e1 e3 h2 hA hB hl sl su
    exact ((sub_ap (⟨af, al, au⟩ : Ap _ (rv L + rv Sh) (4 / 9007199254740992)) (⟨mf, ml, mu⟩ : Ap _ z (2 / 9007199254740992)) 1 (B := 2) rfl (by decide) (by grind) (by grind)).to (w := μ) (d := 29360825 / 9007199254740992) (by grind) (by grind)).le (by decide +kernel)
theorem m1_ap {L m2 : UInt64} {μ ν : Rat} (n0 : 0 ≤ ν) (n1 : ν ≤ μ) (n2 : μ ≤ 1) (aL : Ap L ((μ + ν) / 2) (5 / 9007199254740992)) (a2 : Ap m2 μ (29360840 / 9007199254740992)) :
    Ap (Float64.sub (Float64.mul F2 L) m2) ν (29360860 / 9007199254740992) := by
  have e1 : 2 * ((μ + ν) / 2) = μ + ν := by grind
  have ll := aL.lo
  have lu := aL.hi
  have A1 := (mul_ap (Ap.of fF2 rF2) aL (X := 2) (Y := 2) (by decide +kernel) (by decide +kernel) (by grind) (by grind) 2 (B := 4) rfl (by decide) (by rw [e1]; grind) (by rw [e1]; grind)).ev e1 (e' := 14 / 9007199254740992) (by decide +kernel)
  clear ll lu e1 aL
  exact (sub_ap A1 a2 1 (B := 2) rfl (by decide) (by grind) (by grind)).ev (by grind) (by decide +kernel)
theorem v_round {W M m C : Int} {m1 m2 hue : UInt64} {t u w Y P : Rat} {j z : Int} (w0 : 0 < W) (w1 : W ≤ 4194304) (b0 : 0 ≤ m) (bM : M ≤ W) (hlt : m < M) (c0 : m ≤ C) (c1 : C ≤ M)
    (h1 : Ap m1 ((m : Rat) / (W : Rat)) (29360860 / 9007199254740992)) (h2 : Ap m2 ((M : Rat) / (W : Rat)) (29360860 / 9007199254740992))
    (u0 : 0 ≤ u) (u1 : u ≤ 1) (v0 : 0 ≤ w) (v1 : w ≤ 1) (hY : onTpz t u w Y) (hP : P = Y + 6 * (z : Rat)) (ht : t = ((C - m : Int) : Rat) / ((M - m : Int) : Rat))
    (hh : Ap hue (P / 6 - (j : Rat)) (11185083 / 9007199254740992)) :
    Fn (roundF W (vF m1 m2 hue)) ∧ truncF (roundF W (vF m1 m2 hue)) = C := by
  obtain ⟨p0, p1, p2⟩ := fr_bd (a := M) (W := W) (by first | assumption | decide +kernel | omega) bM w0
  obtain ⟨p3, p4, p5⟩ := fr_bd (a := m) (W := W) (by first | assumption | decide +kernel | omega) (by first | assumption | decide +kernel | omega) w0
  obtain ⟨t0, t1, t2⟩ := fr_bd (a := C - m) (W := M - m) (by first | assumption | decide +kernel | omega) (by first | assumption | decide +kernel | omega) (by first | assumption | decide +kernel | omega)
  rw [← ht] at t0 t1 t2
  have g1' := fr_gap hlt w0 w1
  have hWr : (0 : Rat) < (W : Rat) := by exact_mod_cast w0
  have w1r : (W : Rat) ≤ 4194304 := ratLe (b := 4194304) w1
  obtain ⟨hf, hl, hu'⟩ := hh
  obtain ⟨hu, j', k1, k2, k3, k4, av⟩ := v_ap h1 h2 p3 (by first | assumption | decide +kernel | grind) p1 (by first | assumption | decide +kernel | grind) (by first | assumption | decide +kernel | grind) hf
  obtain ⟨l1, l2⟩ := trap_law (η := 67110522 / 9007199254740992) (J := j + j') t0 t1 u0 u1 v0 v1 hY hP k3 k4 (by first | assumption | decide +kernel | grind) (by rw [Rat.intCast_add]; grind) (by rw [Rat.intCast_add]; grind)
  clear u0 u1 v0 v1 hY hP k1 k2 k3 k4 hf hl hu' h1 h2 ht
  have hd : (0 : Rat) ≤ ((M - m : Int) : Rat) := ratLe (a := 0) (by first | assumption | decide +kernel | omega)
  have hd1 : ((M - m : Int) : Rat) ≤ 4194304 := ratLe (b := 4194304) (by first | assumption | decide +kernel | omega)
  have eD : ((M : Rat) / (W : Rat) - (m : Rat) / (W : Rat)) * (W : Rat) = ((M - m : Int) : Rat) := by rw [Rat.intCast_sub]; grind
  have hc0 : (0 : Rat) ≤ (m : Rat) := ratLe (a := 0) b0
  have hcm : ((C - m : Int) : Rat) = (C : Rat) - (m : Rat) := Rat.intCast_sub _ _
  rw [hcm] at t2
  generalize trapT hu = T at *
  have ex : (W : Rat) * ((m : Rat) / (W : Rat) + ((M : Rat) / (W : Rat) - (m : Rat) / (W : Rat)) * T) = (m : Rat) + ((M - m : Int) : Rat) * T := by rw [← eD]; grind
  obtain ⟨d1, d2⟩ := prod_bd (x := (M : Rat) / (W : Rat) - (m : Rat) / (W : Rat)) (x0 := 1 / 2) (e1 := 1 / 2) (X := 1 / 2) (Y := 5 / 4) (y := T) (y0 := 1 / 2) (e2 := 3 / 4) (by first | assumption | decide +kernel | grind) (by first | assumption | decide +kernel | grind) (by first | assumption | decide +kernel | grind) (by first | assumption | decide +kernel | grind) (by first | assumption | decide +kernel | grind) (by first | assumption | decide +kernel | grind) (by first | assumption | decide +kernel | grind) (by first | assumption | decide +kernel | grind)
  obtain ⟨s1, s2⟩ := prod_bd (x := ((M - m : Int) : Rat)) (x0 := 0) (e1 := 4194304) (X := 0) (Y := 67110552 / 9007199254740992) (y := T - t) (y0 := 0) (e2 := 67110552 / 9007199254740992) (by first | assumption | decide +kernel | grind) (by first | assumption | decide +kernel | grind) (by first | assumption | decide +kernel | grind) (by first | assumption | decide +kernel | grind) (by first | assumption | decide +kernel | grind) (by first | assumption | decide +kernel | grind) (by first | assumption | decide +kernel | grind) (by first | assumption | decide +kernel | grind)
  have ed : ((M - m : Int) : Rat) * (T - t) = ((M - m : Int) : Rat) * T - ((C : Rat) - (m : Rat)) := by grind
  rw [ed] at s1 s2
  generalize ((M - m : Int) : Rat) * T = z at *
  refine round_is (by first | assumption | decide +kernel | omega) (by first | assumption | decide +kernel | omega) av (by first | assumption | decide +kernel | grind) (by first | assumption | decide +kernel | grind) ?_ ?_ ?_ (by first | assumption | decide +kernel | omega) ?_ ?_
  · grind
  · have dd := Rat.mul_nonneg (show 0 ≤ (M : Rat) / (W : Rat) - (m : Rat) / (W : Rat) by grind) (show 0 ≤ 1 + 1 / 100 - T by grind)
    clear ex s1 s2 ed eD p2 p5 t2
    grind
  · clear ex s1 s2 ed eD p2 p5 t2 d1 d2
    grind
  · rw [ex]; grind
  · rw [ex]; grind
end Mine

end
section
open PySem PySem.W PySem.Calls PyProof.Rows PySem.SeqAt
set_option Elab.async false
set_option maxRecDepth 100000
set_option maxHeartbeats 1000000
namespace Mine
open Float64 (val V decode sgn pack infMag Right dist)
/-! a grey: half the double is the same float -/
theorem right_exact {r : UInt64} {neg : Bool} {W D s : Nat} (h : Right r neg W D) (hD : 0 < D) (hW : W = D * V s) (hb : V s ≤ 2 ^ 1100 * 2 ^ 52) : ∃ t, r = pack neg t ∧ t < infMag ∧ V t = V s := by
  obtain ⟨t0, e0, l0, _⟩ := near_core h hD (i := 1100) (by omega) (by rw [hW, Nat.mul_assoc]; exact Nat.mul_le_mul_left _ hb)
  obtain ⟨t, e1, hle, _, hn⟩ := h
  have hi : infMag = 2047 * 2 ^ 52 := rfl
  have ht : t = t0 := by
    have h1 := Float64.pack_toNat neg (t := t) (by omega)
    have h2 := Float64.pack_toNat neg (t := t0) (by omega)
    rw [← e1] at h1
    rw [← e0] at h2
    omega
  subst ht
  refine ⟨t, e1, l0, ?_⟩
  have h3 := (hn l0 s).1
  rw [hW] at h3
  have h4 : D * V t = D * V s := by
    unfold dist at h3
    generalize D * V t = p at *
    generalize D * V s = q at *
    omega
  exact Nat.eq_of_mul_eq_mul_left hD h4
theorem V_inj {s t : Nat} (h : V s = V t) : s = t := by
  rcases Nat.lt_trichotomy s t with h1 | h1 | h1
  · have := Float64.V_lt h1; omega
  · exact h1
  · have := Float64.V_lt h1; omega
theorem F2_val : val F2 = ((2 * 2 ^ 1074 : Nat) : Int) := by decide +kernel
theorem half_double {t : Nat} (ht : t < infMag) (hb : V t ≤ 2 ^ 1100) : Float64.div (Float64.add (pack false t) (pack false t)) F2 = pack false t := by
  obtain ⟨m, e, hd, _⟩ := Float64.decode_pack false ht
  have hv := Float64.val_pack false ht
  have hv' : val (pack false t) = (V t : Int) := by rw [hv]; simp [sgn]
  obtain ⟨k, q, _, hq, _, hk⟩ := Float64.V_form t
  obtain ⟨s, hs⟩ := grid (k + 1) q (by omega)
  have hs2 : V s = 2 * V t := by rw [hs, hk, Nat.pow_succ]; ac_rfl
  have hsb : V s ≤ 2 ^ 1100 * 2 ^ 52 := by
    rw [hs2]
    have : (2 : Nat) ≤ 2 ^ 52 := by decide
    calc 2 * V t ≤ 2 ^ 52 * 2 ^ 1100 := Nat.mul_le_mul this hb
      _ = 2 ^ 1100 * 2 ^ 52 := Nat.mul_comm _ _
  have hadd : ∃ s', Float64.add (pack false t) (pack false t) = pack false s' ∧ s' < infMag ∧ V s' = 2 * V t := by
    obtain ⟨h3, h4⟩ := Float64.add_right hd hd
    rw [hv'] at h3 h4
    by_cases hz : V t = 0
    · refine ⟨0, h3 (by rw [hz]; rfl), by decide, by rw [Float64.V_zero, hz]⟩
    · have h5 := h4 (by omega)
      have e1 : decide ((V t : Int) + (V t : Int) < 0) = false := by simp; omega
      have e2 : ((V t : Int) + (V t : Int)).natAbs = 1 * V s := by rw [hs2]; omega
      rw [e1] at h5
      obtain ⟨s', p1, p2, p3⟩ := right_exact h5 (by decide) e2 hsb
      exact ⟨s', p1, p2, by rw [p3, hs2]⟩
  obtain ⟨s', p1, p2, p3⟩ := hadd
  rw [p1]
  obtain ⟨m', e', hd', _⟩ := Float64.decode_pack false p2
  have hv2 : val (pack false s') = (V s' : Int) := by rw [Float64.val_pack false p2]; simp [sgn]
  have dF2 : decode F2 = .fin false 4503599627370496 (-51) := by kernel_rfl
  have hR := Float64.div_right hd' dF2 (by decide)
  rw [hv2, F2_val, p3] at hR
  have hW : ((2 * V t : Nat) : Int).natAbs * 2 ^ 1074 = ((2 * 2 ^ 1074 : Nat) : Int).natAbs * V t := by
    rw [Int.natAbs_natCast, Int.natAbs_natCast]
    generalize (2 : Nat) ^ 1074 = c
    ac_rfl
  have hpos : 0 < ((2 * 2 ^ 1074 : Nat) : Int).natAbs := by
    rw [Int.natAbs_natCast]; exact Nat.mul_pos (by decide) (Nat.two_pow_pos _)
  obtain ⟨u, u1, u2, u3⟩ := right_exact hR hpos hW (by
    calc V t ≤ 2 ^ 1100 * 1 := by rw [Nat.mul_one]; exact hb
      _ ≤ 2 ^ 1100 * 2 ^ 52 := Nat.mul_le_mul_left _ (by decide))
  rw [u1, V_inj u3]; rfl
theorem grey_half {a W : Int} (h0 : 0 ≤ a) (h1 : a ≤ W) (hW : 0 < W) : Float64.div (Float64.add (fdivI a W) (fdivI a W)) F2 = fdivI a W := by
  have hbn : 0 < W.natAbs := by omega
  have h : Right (fdivI a W) false (a.natAbs * 2 ^ 1074) W.natAbs := by
    unfold fdivI
    rw [show (decide (a < 0) != decide (W < 0)) = false from by
      have n1 : ¬ a < 0 := by omega
      have n2 : ¬ W < 0 := by omega
      simp [n1, n2]]
    exact Float64.ofFrac_right hbn rfl hbn
  have hWb : a.natAbs * 2 ^ 1074 ≤ W.natAbs * 2 ^ 1022 * 2 ^ 52 := by
    rw [Nat.mul_assoc, ← Nat.pow_add]
    exact Nat.mul_le_mul_right _ (by omega)
  obtain ⟨t, e, hlt, hd⟩ := near_core h hbn (i := 1022) (by omega) hWb
  rw [e]
  refine half_double hlt ?_
  -- 2 |a 2^1074 - W V t| <= W 2^1022
  have h2 : W.natAbs * V t ≤ W.natAbs * 2 ^ 1100 := by
    have e1 : W.natAbs * 2 ^ 1022 * 2 ^ 52 ≤ W.natAbs * 2 ^ 1074 := by
      rw [Nat.mul_assoc, ← Nat.pow_add]; exact Nat.le_refl _
    have e2 : W.natAbs * 2 ^ 1022 ≤ W.natAbs * 2 ^ 1074 := Nat.mul_le_mul_left _ (Nat.pow_le_pow_right (by decide) (by decide))
    have e3 : W.natAbs * 2 ^ 1074 + W.natAbs * 2 ^ 1074 ≤ W.natAbs * 2 ^ 1100 := by
      rw [← Nat.mul_add]
      refine Nat.mul_le_mul_left _ ?_
      rw [← Nat.two_mul, ← Nat.pow_succ']
      exact Nat.pow_le_pow_right (by decide) (by decide)
    unfold dist at hd
    generalize W.natAbs * V t = p at *
    generalize W.natAbs * 2 ^ 1074 = q at *
    generalize W.natAbs * 2 ^ 1022 = r at *
    generalize a.natAbs * 2 ^ 1074 = z at *
    generalize W.natAbs * 2 ^ 1100 = y at *
    omega
  exact Nat.le_of_mul_le_mul_left h2 hbn
end Mine

end
section
open PySem PySem.W PySem.Calls PyProof.Rows PySem.SeqAt
set_option Elab.async false
set_option maxRecDepth 100000
set_option maxHeartbeats 1000000
namespace Mine
theorem fin_round {W : Int} {x : UInt64} {C : Int} (h : Fn (roundF W x) ∧ truncF (roundF W x) = C) : Float64.isFinite (roundF W x) = true := fin_of h.1
theorem grey_paint {R G B W M m : Int} (S : Sides R G B W M m) (he : M = m) : ∃ H L Sh x y z, PaintOk R G B W H L Sh x y z M m := by
  have eM := fmax_is S
  have em := fmin_is S
  obtain ⟨w0, w1, b0, b1, hM, rM, gM, bM, hm, rm, gm, bm⟩ := S
  subst he
  have e1 : R = M := by omega
  have e2 : G = M := by omega
  have e3 : B = M := by omega
  subst e1; subst e2; subst e3
  have A := fr_ap (a := B) (W := B + (W - B)) (by omega) (by omega) (by omega)
  rw [show B + (W - B) = W from by omega] at A
  obtain ⟨p0, p1, p2⟩ := fr_bd (a := B) (W := W) (by omega) b1 w0
  have keq : eqb (fdivI B W) (fdivI B W) = true := by
    rw [fr_eqb (by omega) (by omega) (by omega) (by omega) w0 w1]; simp
  have hr : Fn (roundF W (fdivI B W)) ∧ truncF (roundF W (fdivI B W)) = B := by
    have w1r : (W : Rat) ≤ 4194304 := ratLe (b := 4194304) w1
    have p3 : (W : Rat) * ((B : Rat) / (W : Rat)) = (B : Rat) := by rw [Rat.mul_comm]; exact p2
    refine round_is (by omega) (by omega) A (by grind) (by grind) (by grind) (by grind) ?_ b0 ?_ ?_
    · grind
    · rw [p3]; grind
    · rw [p3]; grind
  refine ⟨0, fdivI B W, 0, fdivI B W, fdivI B W, fdivI B W, ?_⟩
  have hinf := inf_of A.fin
  have noe : eqb (fmin3 (fdivI B W) (fdivI B W) (fdivI B W)) (fmax3 (fdivI B W) (fdivI B W) (fdivI B W)) = true := by rw [eM, em, keq]
  have hrgb : rgbF (fdivI B W) (fdivI B W) (fdivI B W) = .tup [.flt 0, .flt (fdivI B W), .flt 0] := by
    unfold rgbF
    dsimp only
    rw [noe, if_pos rfl, eM, em, grey_half b0 b1 w0]
  have hhls : hlsF 0 (fdivI B W) 0 = .tup [.flt (fdivI B W), .flt (fdivI B W), .flt (fdivI B W)] := by
    unfold hlsF
    rw [if_pos (by decide +kernel)]
  exact {
    w0 := w0
    w1 := by omega
    f1 := hinf
    f2 := hinf
    f3 := hinf
    h1 := fun h => by rw [noe] at h; cases h
    h2 := fun h => by rw [noe] at h; cases h
    h3 := fun h => by rw [noe] at h; cases h
    rgb := hrgb
    hls := hhls
    fx := fin_round hr
    fy := fin_round hr
    fz := fin_round hr
    tx := hr.2
    ty := hr.2
    tz := hr.2
    hM := by simp
    hM' := by simp
    hm := by simp
    hm' := by simp
    b0 := b0
    b1 := b1
    g1 := fun _ => ⟨rfl, rfl, rfl, keq, hinf⟩
    a1 := fun h => absurd rfl h
    a2 := fun h => absurd rfl h
    a3 := fun h => absurd rfl h
    a4 := fun h => absurd rfl h }
theorem round_prod {K n : Int} {c : UInt64} {x0 e : Rat} (k0 : 0 ≤ K) (k1 : K ≤ 67108864) (hc : Ap c x0 e) (e0 : 0 ≤ e) (e1 : e ≤ 1) (x1 : -1 ≤ x0) (x2 : x0 ≤ 2) (ke : (K : Rat) * e ≤ 1 / 8) (n0 : 0 ≤ n) (h : (K : Rat) * x0 = n) :
    Fn (roundF K c) ∧ truncF (roundF K c) = n := round_is k0 k1 hc e0 e1 x1 x2 ke n0 (by rw [h]; grind) (by rw [h]; grind)
theorem hex_at {r g b κ : Rat} (h : (r = 1 ∧ κ = 0 + g - b ∧ (g = 0 ∨ b = 0)) ∨ (g = 1 ∧ κ = 2 + b - r ∧ (b = 0 ∨ r = 0)) ∨ (b = 1 ∧ κ = 4 + r - g ∧ (r = 0 ∨ g = 0))) :
    ∃ (Y1 Y2 Y3 : Rat) (i1 i2 i3 : Int), onTpz r g b Y1 ∧ onTpz g b r Y2 ∧ onTpz b r g Y3 ∧ κ + 2 = Y1 + 6 * (i1 : Rat) ∧ κ = Y2 + 6 * (i2 : Rat) ∧ κ - 2 = Y3 + 6 * (i3 : Rat) := by
  have k0 : ((0 : Int) : Rat) = 0 := rfl
  have k1 : ((1 : Int) : Rat) = 1 := rfl
  have k2 : ((-1 : Int) : Rat) = -1 := rfl
  rcases h with ⟨rfl, rfl, h⟩ | ⟨rfl, rfl, h⟩ | ⟨rfl, rfl, h⟩
  · exact ⟨_, _, _, 0, 0, -1, .inl ⟨rfl, rfl⟩, .inr (.inr ⟨rfl, rfl, h⟩), .inr (.inl ⟨rfl, rfl, h⟩), by rw [k0]; clear h; grind, by rw [k0]; clear h; grind, by rw [k2]; clear h; grind⟩
  · exact ⟨_, _, _, 0, 0, 0, .inr (.inl ⟨rfl, rfl, h⟩), .inl ⟨rfl, rfl⟩, .inr (.inr ⟨rfl, rfl, h⟩), by rw [k0]; clear h; grind, by rw [k0]; clear h; grind, by rw [k0]; clear h; grind⟩
  · exact ⟨_, _, _, 1, 0, 0, .inr (.inr ⟨rfl, rfl, h⟩), .inr (.inl ⟨rfl, rfl, h⟩), .inl ⟨rfl, rfl⟩, by rw [k1]; clear h; grind, by rw [k0]; clear h; grind, by rw [k0]; clear h; grind⟩
theorem hex_law {R G B M m : Int} (hd : 0 < M - m) (rM : R ≤ M) (hM : M = R ∨ M = G ∨ M = B) (hm : m = R ∨ m = G ∨ m = B) :
    ∃ (Y1 Y2 Y3 : Rat) (i1 i2 i3 : Int), onTpz (((R - m : Int) : Rat) / ((M - m : Int) : Rat)) (((G - m : Int) : Rat) / ((M - m : Int) : Rat)) (((B - m : Int) : Rat) / ((M - m : Int) : Rat)) Y1 ∧
      onTpz (((G - m : Int) : Rat) / ((M - m : Int) : Rat)) (((B - m : Int) : Rat) / ((M - m : Int) : Rat)) (((R - m : Int) : Rat) / ((M - m : Int) : Rat)) Y2 ∧
      onTpz (((B - m : Int) : Rat) / ((M - m : Int) : Rat)) (((R - m : Int) : Rat) / ((M - m : Int) : Rat)) (((G - m : Int) : Rat) / ((M - m : Int) : Rat)) Y3 ∧
      ((wkI R G B M m : Int) : Rat) / ((M - m : Int) : Rat) + 2 = Y1 + 6 * (i1 : Rat) ∧ ((wkI R G B M m : Int) : Rat) / ((M - m : Int) : Rat) = Y2 + 6 * (i2 : Rat) ∧ ((wkI R G B M m : Int) : Rat) / ((M - m : Int) : Rat) - 2 = Y3 + 6 * (i3 : Rat) := by
  refine hex_at ?_
  have m1 : M = R → B = m ∨ G = m := fun h => by
    rcases hm with e | e | e
    · exact absurd hd (by rw [h, e, Int.sub_self]; decide)
    · exact .inr e.symm
    · exact .inl e.symm
  have m2 : M = G → B = m ∨ R = m := fun h => by
    rcases hm with e | e | e
    · exact .inr e.symm
    · exact absurd hd (by rw [h, e, Int.sub_self]; decide)
    · exact .inl e.symm
  have m3 : M = B → R = m ∨ G = m := fun h => by
    rcases hm with e | e | e
    · exact .inl e.symm
    · exact .inr e.symm
    · exact absurd hd (by rw [h, e, Int.sub_self]; decide)
  have wR : M = R → wkI R G B M m = 0 * (M - m) + (G - m) - (B - m) := by
    intro h; unfold wkI; rw [if_neg (by rw [h]; exact Int.lt_irrefl R)]
    clear m1 m2 m3 hm hM hd rM h
    omega
  have wG : M ≠ R → M = G → wkI R G B M m = 2 * (M - m) + (B - m) - (R - m) := by
    intro h h2; unfold wkI; rw [if_pos (Int.lt_iff_le_and_ne.mpr ⟨rM, Ne.symm h⟩), if_pos h2.symm]
    clear m1 m2 m3 hm hM hd rM h h2
    omega
  have wB : M ≠ R → M ≠ G → wkI R G B M m = 4 * (M - m) + (R - m) - (G - m) := by
    intro h h2; unfold wkI; rw [if_pos (Int.lt_iff_le_and_ne.mpr ⟨rM, Ne.symm h⟩), if_neg (Ne.symm h2)]
    clear m1 m2 m3 hm hM hd rM h h2
    omega
  have hdr : ((M - m : Int) : Rat) ≠ 0 := fun h => by
    have := Rat.intCast_lt_intCast.mpr hd
    rw [h] at this
    exact absurd this (by decide +kernel)
  have hz : ∀ a : Int, a = m → ((a - m : Int) : Rat) / ((M - m : Int) : Rat) = 0 := by
    intro a ha
    rw [ha, Int.sub_self, Rat.div_def]; exact Rat.zero_mul _
  have h1 : ((M - m : Int) : Rat) / ((M - m : Int) : Rat) = 1 := by rw [Rat.div_def]; exact Rat.mul_inv_cancel _ hdr
  have zR := hz R
  have zG := hz G
  have zB := hz B
  have hw : ∀ k x y : Int, ((k * (M - m) + (x - m) - (y - m) : Int) : Rat) / ((M - m : Int) : Rat) = (k : Rat) + ((x - m : Int) : Rat) / ((M - m : Int) : Rat) - ((y - m : Int) : Rat) / ((M - m : Int) : Rat) := by
    intro k x y
    rw [Rat.intCast_sub (k * (M - m) + (x - m)) (y - m), Rat.intCast_add (k * (M - m)) (x - m), Rat.intCast_mul k (M - m)]
    generalize ((M - m : Int) : Rat) = D at *
    grind
  clear hd rM hm
  by_cases c1 : M = R
  · refine .inl ⟨c1 ▸ h1, ?_, ?_⟩
    · rw [wR c1]; exact hw 0 G B
    · exact (m1 c1).elim (fun h => .inr (zB h)) fun h => .inl (zG h)
  · by_cases c3 : M = G
    · refine .inr (.inl ⟨c3 ▸ h1, ?_, ?_⟩)
      · rw [wG c1 c3]; exact hw 2 B R
      · exact (m2 c3).elim (fun h => .inl (zB h)) fun h => .inr (zR h)
    · have c5 : M = B := (hM.resolve_left c1).resolve_left c3
      refine .inr (.inr ⟨c5 ▸ h1, ?_, ?_⟩)
      · rw [wB c1 c3]; exact hw 4 R G
      · exact (m3 c5).elim (fun h => .inl (zR h)) fun h => .inr (zG h)
/-- the share and its room -/
theorem share_room {R G B W M m : Int} {H L Sh : UInt64} (w0 : 0 < W) (w1 : W ≤ 4194304) (b0 : 0 ≤ m) (b1 : M ≤ W) (hlt : m < M) (P : RgbOk R G B W M m H L Sh) :
    ∃ q : Rat, 0 ≤ q ∧ q ≤ 1 ∧ 1 / 8388608 ≤ q ∧ Ap Sh q (58721610 / 9007199254740992) ∧ (leb L F05 = true → rv L ≤ 1 / 2 ∧ q * ((M : Rat) / (W : Rat) + (m : Rat) / (W : Rat)) = (M : Rat) / (W : Rat) - (m : Rat) / (W : Rat)) ∧
      (leb L F05 = false → 1 / 2 < rv L ∧ q * (2 - (M : Rat) / (W : Rat) - (m : Rat) / (W : Rat)) = (M : Rat) / (W : Rat) - (m : Rat) / (W : Rat)) ∧ ((min (M + m) (2 * W - M - m) : Int) : Rat) * q = ((M - m : Int) : Rat) := by
  have s1 := P.s1
  have s2 := P.s2
  clear P
  obtain ⟨eA, eB⟩ := share_eq w0 b0 b1 hlt
  have low : ∀ K : Int, M - m ≤ K → K ≤ 8388608 → 0 ≤ ((M - m : Int) : Rat) / (K : Rat) ∧ ((M - m : Int) : Rat) / (K : Rat) ≤ 1 ∧ 1 / 8388608 ≤ ((M - m : Int) : Rat) / (K : Rat) ∧ (K : Rat) * (((M - m : Int) : Rat) / (K : Rat)) = ((M - m : Int) : Rat) := by
    intro K k0 k1
    obtain ⟨v0, v1, v2⟩ := fr_bd (a := M - m) (W := K) (Int.sub_nonneg_of_le (Int.le_of_lt hlt)) k0 (Int.lt_of_lt_of_le (Int.sub_pos_of_lt hlt) k0)
    have k1r : (K : Rat) ≤ 8388608 := ratLe (b := 8388608) k1
    have k0r : (0 : Rat) < (K : Rat) := Rat.intCast_lt_intCast.mpr (Int.lt_of_lt_of_le (Int.sub_pos_of_lt hlt) k0)
    have d1 : (1 : Rat) ≤ ((M - m : Int) : Rat) := ratLe (a := 1) (Int.sub_pos_of_lt hlt)
    refine ⟨v0, v1, ?_, by rw [Rat.mul_comm]; exact v2⟩
    clear eA eB s1 s2
    generalize ((M - m : Int) : Rat) / (K : Rat) = q at *
    apply Rat.not_lt.mp
    intro h
    have := Rat.mul_pos (show 0 < 1 / 8388608 - q by grind) k0r
    grind
  cases hl : leb L F05 with
  | true =>
    obtain ⟨t1, t2, t3⟩ := s1 hl
    obtain ⟨l0, l1, l2, l3⟩ := low (M + m) (by clear low s1 s2; omega) (by clear low s1 s2; omega)
    refine ⟨_, l0, l1, l2, t3, fun _ => ⟨t1, eA⟩, fun h => (by cases h), ?_⟩
    rw [show min (M + m) (2 * W - M - m) = M + m from Int.min_eq_left (by clear low s1 s2; omega)]; exact l3
  | false =>
    obtain ⟨t1, t2, t3⟩ := s2 hl
    obtain ⟨l0, l1, l2, l3⟩ := low (2 * W - M - m) (by clear low s1 s2; omega) (by clear low s1 s2; omega)
    refine ⟨_, l0, l1, l2, t3, fun h => (by cases h), fun _ => ⟨t1, eB⟩, ?_⟩
    rw [show min (M + m) (2 * W - M - m) = 2 * W - M - m from Int.min_eq_right (by clear low s1 s2; omega)]; exact l3
/-- hue, light and share in whole parts -/
theorem told_hue {K wk j : Int} {H : UInt64} {D : Rat} (hD : (K : Rat) = 6 * D) (D0 : 0 < D) (D1 : D ≤ 4194304) (k0 : 0 ≤ K) (k1 : K ≤ 67108864) (h0 : -(4 / 9007199254740992) ≤ rv H) (h1 : rv H ≤ 1 + 4 / 9007199254740992) (hH : Ap H ((wk : Rat) / D / 6 - (j : Rat)) (11185080 / 9007199254740992)) :
    Fn (roundF K H) ∧ truncF (roundF K H) = wk - K * j := by
  have hl := hH.lo
  have hu := hH.hi
  have e := Rat.div_mul_cancel (a := (wk : Rat)) (Rat.ne_of_gt D0)
  have ex : (K : Rat) * ((wk : Rat) / D / 6 - (j : Rat)) = ((wk - K * j : Int) : Rat) := by
    rw [Rat.intCast_sub, Rat.intCast_mul, hD]
    clear hl hu hH h0 h1 hD D1
    generalize (wk : Rat) / D = q at *
    rw [← e]
    grind
  clear e
  generalize (wk : Rat) / D / 6 - (j : Rat) = x at *
  have hn : 0 ≤ wk - K * j := by
    apply Int.not_lt.mp
    intro hneg
    have h2 : ((wk - K * j : Int) : Rat) ≤ ((-1 : Int) : Rat) := ratLe (Int.le_sub_one_of_lt hneg)
    rw [← ex, hD] at h2
    have c1 : ((-1 : Int) : Rat) = -1 := rfl
    rw [c1] at h2
    have h3 := Rat.mul_nonneg (show 0 ≤ x + 11185084 / 9007199254740992 by clear h2 ex; grind) (Rat.le_of_lt D0)
    clear ex hl hu h0 h1 hH hD
    grind
  refine round_prod k0 k1 hH (by decide +kernel) (by decide +kernel) (by clear ex; grind) (by clear ex; grind) (by rw [hD]; clear ex hl hu h0 h1 hH; grind) hn ex
theorem told_light {W M m : Int} {L : UInt64} (w0 : 0 < W) (w1 : W ≤ 4194304) (M0 : 0 ≤ M) (b0 : 0 ≤ m) (b1 : M ≤ W) (m1 : m ≤ W) (aL : Ap L (((M : Rat) / (W : Rat) + (m : Rat) / (W : Rat)) / 2) (5 / 9007199254740992)) :
    Fn (roundF (2 * W) L) ∧ truncF (roundF (2 * W) L) = M + m := by
  obtain ⟨p0, p1, p2⟩ := fr_bd (a := M) (W := W) M0 b1 w0
  obtain ⟨p3, p4, p5⟩ := fr_bd (a := m) (W := W) b0 m1 w0
  have w1r : (W : Rat) ≤ 4194304 := ratLe (b := 4194304) w1
  have c2 : ((2 * W : Int) : Rat) = 2 * (W : Rat) := by rw [Rat.intCast_mul]; rfl
  refine round_prod (by omega) (by omega) aL (by decide +kernel) (by decide +kernel) (by clear aL p2 p5; grind) (by clear aL p2 p5; grind) (by rw [c2]; clear aL p2 p5; grind) (Int.add_nonneg M0 b0) ?_
  rw [c2, Rat.intCast_add, ← p2, ← p5]
  clear p2 p5 aL
  grind
/-- the three hues that hls_to_rgb asks for -/
theorem hues_ap {H : UInt64} {x e : Rat} (hH : Ap H x e) (h0 : -(4 / 9007199254740992) ≤ rv H) (h1 : rv H ≤ 1 + 4 / 9007199254740992) : Ap (Float64.add H F13) (x + 1 / 3) (e + 3 / 9007199254740992) ∧ Ap (Float64.sub H F13) (x - 1 / 3) (e + 3 / 9007199254740992) := by
  obtain ⟨g1, g2⟩ := rF13
  obtain ⟨hf, hl, hu⟩ := hH
  obtain ⟨xf, xl, xu⟩ := add_nr hf fF13 1 (B := 2) rfl (by decide) (by clear hl hu; grind) (by clear hl hu; grind)
  obtain ⟨zf, zl, zu⟩ := sub_nr hf fF13 1 (B := 2) rfl (by decide) (by clear hl hu; grind) (by clear hl hu; grind)
  clear h0 h1
  exact ⟨⟨xf, by clear zl zu; grind, by clear zl zu; grind⟩, zf, by clear xl xu; grind, by clear xl xu; grind⟩
theorem colour_hls {R G B W M m : Int} {H L Sh : UInt64} (S : Sides R G B W M m) (hlt : m < M) (P : RgbOk R G B W M m H L Sh) : ∃ x y z, hlsF H L Sh = .tup [.flt x, .flt y, .flt z] ∧
    (Fn (roundF W x) ∧ truncF (roundF W x) = R) ∧ (Fn (roundF W y) ∧ truncF (roundF W y) = G) ∧ (Fn (roundF W z) ∧ truncF (roundF W z) = B) ∧
    (Fn (roundF (min (M + m) (2 * W - M - m)) Sh) ∧ truncF (roundF (min (M + m) (2 * W - M - m)) Sh) = M - m) := by
  obtain ⟨w0, w1, b0, b1, hM, rM, gM, bM, hm, rm, gm, bm⟩ := S
  obtain ⟨q, q0, q1, q2, aS, hA, hB, hroom⟩ := share_room w0 w1 b0 b1 hlt P
  obtain ⟨j, hH⟩ := P.hH
  obtain ⟨hx, hz⟩ := hues_ap hH P.h0 P.h1
  have aL := P.aL
  clear P
  obtain ⟨p0, p1, _⟩ := fr_bd (a := M) (W := W) (Int.le_trans b0 (Int.le_of_lt hlt)) b1 w0
  obtain ⟨p3, p4, _⟩ := fr_bd (a := m) (W := W) b0 (Int.le_trans (Int.le_of_lt hlt) b1) w0
  have g := fr_gap hlt w0 w1
  have hνμ : (m : Rat) / (W : Rat) ≤ (M : Rat) / (W : Rat) := Rat.le_trans (by clear hx hz hH aL hA hB hroom; grind) g
  have a2 := m12_ap p3 hνμ p1 aL aS q0 q1 hA hB
  have a1 := m1_ap p3 hνμ p1 aL a2
  have a2' := a2.le (e' := 29360860 / 9007199254740992) (by decide +kernel)
  have hS0 : eqb Sh 0 = false := by
    unfold eqb
    rw [cmp_eq aS.fin fF0, rF0]
    have h := aS.lo
    refine decide_eq_false fun h0 => ?_
    rw [h0] at h
    clear hx hz hH aL hA hB hroom a1 a2 a2' g hνμ p0 p1 p3 p4
    grind
  have ks : Fn (roundF (min (M + m) (2 * W - M - m)) Sh) ∧ truncF (roundF (min (M + m) (2 * W - M - m)) Sh) = M - m := by
    have c2 : ((min (M + m) (2 * W - M - m) : Int) : Rat) ≤ 8388608 := ratLe (b := 8388608) (by omega)
    refine round_prod (by omega) (by omega) aS (by decide +kernel) (by decide +kernel) (Rat.le_trans (by decide +kernel) q0) (Rat.le_trans q1 (by decide +kernel)) (by clear hx hz hH aL hA hB hroom a1 a2 a2' g hνμ p0 p1 p3 p4 q0 q1 q2; grind) (Int.sub_nonneg_of_le (Int.le_of_lt hlt)) hroom
  clear aL aS hA hB hroom q0 q1 q2 a2 g hνμ p0 p1 p3 p4
  obtain ⟨r0, r1, _⟩ := fr_bd (a := R - m) (W := M - m) (Int.sub_nonneg_of_le rm) (Int.sub_le_sub_right rM m) (Int.sub_pos_of_lt hlt)
  obtain ⟨g0, g1, _⟩ := fr_bd (a := G - m) (W := M - m) (Int.sub_nonneg_of_le gm) (Int.sub_le_sub_right gM m) (Int.sub_pos_of_lt hlt)
  obtain ⟨bb0, bb1, _⟩ := fr_bd (a := B - m) (W := M - m) (Int.sub_nonneg_of_le bm) (Int.sub_le_sub_right bM m) (Int.sub_pos_of_lt hlt)
  have hx' : Ap (Float64.add H F13) ((((wkI R G B M m : Int) : Rat) / ((M - m : Int) : Rat) + 2) / 6 - (j : Rat)) (11185083 / 9007199254740992) := hx.ev (by clear hx hz hH; grind) (by decide +kernel)
  have hz' : Ap (Float64.sub H F13) ((((wkI R G B M m : Int) : Rat) / ((M - m : Int) : Rat) - 2) / 6 - (j : Rat)) (11185083 / 9007199254740992) := hz.ev (by clear hx' hx hz hH; grind) (by decide +kernel)
  clear hx hz
  obtain ⟨Y1, Y2, Y3, i1, i2, i3, o1, o2, o3, y1, y2, y3⟩ := hex_law (Int.sub_pos_of_lt hlt) rM hM hm
  refine ⟨_, _, _, ?_, v_round w0 w1 b0 b1 hlt rm rM a1 a2' g0 g1 bb0 bb1 o1 y1 rfl hx', v_round w0 w1 b0 b1 hlt gm gM a1 a2' bb0 bb1 r0 r1 o2 y2 rfl (hH.le (by decide +kernel)),
    v_round w0 w1 b0 b1 hlt bm bM a1 a2' r0 r1 g0 g1 o3 y3 rfl hz', ks⟩
  unfold hlsF
  rw [hS0, if_neg (by decide)]
theorem told_ring {R G B M m j : Int} (hd : 0 < M - m) : (wkI R G B M m - 6 * (M - m) * j).fmod (6 * (M - m)) = (if decide (R < M) then (if G == M then (6 * (M - m)).fdiv 3 + B - R else (2 * (6 * (M - m))).fdiv 3 + R - G) else G - B).fmod (6 * (M - m)) := by
  rw [Int.fmod_eq_emod_of_nonneg _ (by omega), Int.fmod_eq_emod_of_nonneg _ (by omega)]
  have e2 : (6 * (M - m)).fdiv 3 = 2 * (M - m) := by rw [Int.fdiv_eq_ediv_of_nonneg _ (by decide)]; omega
  have e4 : (2 * (6 * (M - m))).fdiv 3 = 4 * (M - m) := by rw [Int.fdiv_eq_ediv_of_nonneg _ (by decide)]; omega
  have e : (if decide (R < M) then (if G == M then (6 * (M - m)).fdiv 3 + B - R else (2 * (6 * (M - m))).fdiv 3 + R - G) else G - B) = wkI R G B M m := by
    rw [e2, e4]
    unfold wkI
    simp only [decide_eq_true_eq, beq_iff_eq]
  rw [e, Int.sub_mul_emod_self_left]
theorem colour_paint {R G B W M m : Int} (S : Sides R G B W M m) (hlt : m < M) : ∃ H L Sh x y z, PaintOk R G B W H L Sh x y z M m := by
  have eM := fmax_is S
  have em := fmin_is S
  obtain ⟨H, L, Sh, P⟩ := rgb_ap S hlt
  obtain ⟨x, y, z, hhls, cx, cy, cz, ks⟩ := colour_hls S hlt P
  obtain ⟨w0, w1, b0, b1, hM, rM, gM, bM, hm, rm, gm, bm⟩ := S
  obtain ⟨j, hH⟩ := P.hH
  have hd : (0 : Rat) < ((M - m : Int) : Rat) := Rat.intCast_lt_intCast.mpr (Int.sub_pos_of_lt hlt)
  have hd1 : ((M - m : Int) : Rat) ≤ 4194304 := ratLe (b := 4194304) (by clear hM hm; omega)
  have kh := told_hue (K := 6 * (M - m)) (by rw [Rat.intCast_mul]; rfl) hd hd1 (by clear hM hm; omega) (by clear hM hm; omega) P.h0 P.h1 hH
  have kl := told_light w0 w1 (Int.le_trans b0 (Int.le_of_lt hlt)) b0 b1 (Int.le_trans (Int.le_of_lt hlt) b1) P.aL
  have f : ∀ a, m ≤ a → a ≤ M → Float64.isInf (fdivI a W) = false := fun a ha ha' => inf_of (fr_ap (Int.le_trans b0 ha) (Int.le_trans ha' b1) w0).fin
  have mem : ∀ {t : Int} {p : Int → Prop}, t ∈ [R, G, B] → p R → p G → p B → p t := by
    intro t p ht h1 h2 h3
    simp only [List.mem_cons, List.not_mem_nil, or_false] at ht
    rcases ht with h | h | h <;> rw [h] <;> assumption
  have mem2 : ∀ {t : Int}, t = R ∨ t = G ∨ t = B → t ∈ [R, G, B] := by
    intro t h
    simpa only [List.mem_cons, List.not_mem_nil, or_false] using h
  exact ⟨H, L, Sh, x, y, z, {
    w0 := w0
    w1 := Int.lt_of_le_of_lt w1 (by decide)
    f1 := f R rm rM
    f2 := f G gm gM
    f3 := f B bm bM
    h1 := fun _ => by rw [eM, em]; exact P.z1
    h2 := fun _ h => by rw [eM, em] at h ⊢; exact P.z2 (by rw [P.eL]; exact h)
    h3 := fun _ h => by rw [eM, em] at h ⊢; exact P.z3 (by rw [P.eL]; exact h)
    rgb := P.rgb
    hls := hhls
    fx := fin_round cx
    fy := fin_round cy
    fz := fin_round cz
    tx := cx.2
    ty := cy.2
    tz := cz.2
    hM := mem2 hM
    hM' := fun t ht => mem (p := fun t => t ≤ M) ht rM gM bM
    hm := mem2 hm
    hm' := fun t ht => mem (p := fun t => m ≤ t) ht rm gm bm
    b0 := b0
    b1 := b1
    g1 := fun h => absurd h (Int.ne_of_gt hlt)
    a1 := fun _ => ⟨fin_round kh, fin_round kl, fin_round ks⟩
    a2 := fun _ => by rw [kh.2]; exact told_ring (Int.sub_pos_of_lt hlt)
    a3 := fun _ => kl.2
    a4 := fun _ => ks.2 }⟩
theorem paint_ok {R G B W M m : Int} (S : Sides R G B W M m) : ∃ H L Sh x y z, PaintOk R G B W H L Sh x y z M m := by
  have h : m ≤ M := by
    have := S.rM
    have := S.rm
    omega
  rcases Int.lt_or_eq_of_le h with h | h
  · exact colour_paint S h
  · exact grey_paint S h.symm
end Mine

end
section
open PySem PySem.W PySem.Calls PyProof.Rows PySem.SeqAt
set_option Elab.async false
set_option maxRecDepth 100000
set_option maxHeartbeats 1000000
namespace Mine
/-! the sum over all painted places -/
theorem sum_add_map (ps : List Int) (F G : Int → Int) : (ps.map fun p => F p + G p).sum = (ps.map F).sum + (ps.map G).sum := by
  induction ps with
  | nil => rfl
  | cons p ps ih => simp only [List.map_cons, List.sum_cons, ih]; omega
theorem sum_mul_map (ps : List Int) (k : Int) (F : Int → Int) : (ps.map fun p => k * F p).sum = k * (ps.map F).sum := by
  induction ps with
  | nil => simp
  | cons p ps ih => simp only [List.map_cons, List.sum_cons, ih, Int.mul_add]
theorem sum_lin (ps : List Int) (a b : Int) (F : Int → Int) : (ps.map fun p => a + b * F p).sum = ps.length * a + b * (ps.map F).sum := by
  induction ps with
  | nil => simp
  | cons p ps ih =>
    simp only [List.map_cons, List.sum_cons, ih, Int.mul_add, List.length_cons]
    rw [show (((ps.length + 1 : Nat)) : Int) * a = ps.length * a + a from by rw [Int.natCast_succ, Int.add_mul, Int.one_mul]]
    omega
theorem sum_flat (F : Int → Int) (ps : List Int) (Z : Nat) : ∀ W : Nat, (((List.range W).map fun j => ps.map fun p => p + ((0 + j * Z : Nat) : Int)).flatten.map F).sum = (ps.map fun p => sumN W fun j => F (p + ((0 + j * Z : Nat) : Int))).sum
  | 0 => by
    simp only [List.range_zero, List.map_nil, List.flatten_nil, List.sum_nil, sumN_zero]
    induction ps with
    | nil => rfl
    | cons p ps ih => simp only [List.map_cons, List.sum_cons, ← ih]; rfl
  | W + 1 => by
    rw [List.range_succ, List.map_append, List.flatten_append, List.map_append, List.sum_append, sum_flat F ps Z W]
    simp only [sumN_succ, sum_add_map, List.map_cons, List.map_nil, List.flatten_cons, List.flatten_nil, List.append_nil, List.map_map]
    rfl
abbrev okW (W : Nat) : Prop := W ∈ [5, 7, 9, 10, 3, 6]
abbrev okV (V : Nat) : Prop := V ∈ [2, 3, 1, 4, 5, 6]
theorem times_ok : ∀ W ∈ [5, 7, 9, 10, 3, 6], ∀ V ∈ [2, 3, 1, 4, 5, 6], W / Nat.gcd W V ∈ times8 ∧ 0 < W / Nat.gcd W V := by decide +kernel
theorem place_sum {W V both : Nat} (hW : okW W) (hV : okV V) (hb : both = Nat.gcd W V) {Z : Nat} (hZ : 0 < Z) {p : Int} (hp : 0 ≤ p) {c : Nat} (hc : c ∈ [0, 1, 2]) :
    sumN W (fun j => hexH c (((W / both : Nat) : Int) * (Z : Int)) (((p + ((0 + j * Z : Nat) : Int)) * ((V / both : Nat) : Int)) % (((W / both : Nat) : Int) * (Z : Int)))) = (both : Int) * (spreadI (p * ((V / both : Nat) : Int)) (Z : Int) ((W / both : Nat) : Int)).getD c 0 := by
  obtain ⟨ht, ht0⟩ := times_ok W hW V hV
  have hst := steps W V both hW hV hb
  rw [← hb] at ht ht0
  generalize W / both = t at *
  generalize V / both = v at *
  obtain ⟨x, hx⟩ : ∃ x, x = p * (v : Int) := ⟨_, rfl⟩
  have hx0 : 0 ≤ x := by rw [hx]; exact Int.mul_nonneg hp (by omega)
  rw [← hx]
  have hZi : (0 : Int) < (Z : Int) := by omega
  have y0 := Int.emod_nonneg x (Int.ne_of_gt hZi)
  have y1 := Int.emod_lt_of_pos x hZi
  have yq := Int.emod_add_mul_ediv x (Z : Int)
  have q0 : 0 ≤ x / (Z : Int) := Int.ediv_nonneg hx0 (by omega)
  obtain ⟨s, hs⟩ : ∃ s : Nat, (s : Int) = x / (Z : Int) := ⟨(x / (Z : Int)).toNat, by omega⟩
  rw [← hs] at yq
  have hterm : ∀ j : Nat, j < W → hexH c ((t : Int) * (Z : Int)) (((p + ((0 + j * Z : Nat) : Int)) * (v : Int)) % ((t : Int) * (Z : Int))) = (fun i : Nat => (fun i : Nat => hexH c ((t : Int) * (Z : Int)) (x % (Z : Int) + (i : Int) * (Z : Int))) ((s + i) % t)) ((j * v) % t) := by
    intro j _
    dsimp only
    rw [Nat.add_mod_mod]
    congr 1
    have hdm := Nat.div_add_mod (s + j * v) t
    have hml := Nat.mod_lt (s + j * v) ht0
    generalize (s + j * v) % t = b at *
    generalize (s + j * v) / t = a at *
    have e1 : (p + ((0 + j * Z : Nat) : Int)) * (v : Int) = (x % (Z : Int) + (b : Int) * (Z : Int)) + ((t : Int) * (Z : Int)) * (a : Int) := by
      have e2 : (p + ((0 + j * Z : Nat) : Int)) * (v : Int) = x + ((j * v : Nat) : Int) * (Z : Int) := by
        rw [Int.add_mul, ← hx, Nat.zero_add, Int.natCast_mul, Int.natCast_mul, Int.mul_assoc, Int.mul_assoc, Int.mul_comm (Z : Int)]
      have e3 : (Z : Int) * (s : Int) + ((j * v : Nat) : Int) * (Z : Int) = (b : Int) * (Z : Int) + ((t : Int) * (Z : Int)) * (a : Int) := by
        have e4 : (Z : Int) * (s : Int) + ((j * v : Nat) : Int) * (Z : Int) = ((s + j * v : Nat) : Int) * (Z : Int) := by rw [Int.natCast_add, Int.add_mul, Int.mul_comm (Z : Int)]
        rw [e4, ← hdm, Int.natCast_add, Int.add_mul, Int.natCast_mul, Int.add_comm]
        congr 1
        rw [Int.mul_assoc, Int.mul_assoc, Int.mul_comm (a : Int)]
      rw [e2]
      omega
    have hlt : (b : Int) * (Z : Int) + (Z : Int) ≤ (t : Int) * (Z : Int) := by
      have : ((b : Int) + 1) * (Z : Int) ≤ (t : Int) * (Z : Int) := Int.mul_le_mul_of_nonneg_right (by omega) (by omega)
      rw [Int.add_mul, Int.one_mul] at this
      exact this
    have hb0 : 0 ≤ (b : Int) * (Z : Int) := Int.mul_nonneg (by omega) (by omega)
    rw [e1, Int.add_mul_emod_self_left, Int.emod_eq_of_lt (by omega) (by omega)]
  refine (sumN_congr hterm).trans ((hst fun i : Nat => (fun i : Nat => hexH c ((t : Int) * (Z : Int)) (x % (Z : Int) + (i : Int) * (Z : Int))) ((s + i) % t)).trans ?_)
  rw [sumN_turn t (fun i : Nat => hexH c ((t : Int) * (Z : Int)) (x % (Z : Int) + (i : Int) * (Z : Int))) s, hexsum ht hZi hc]
end Mine

end
section
open PySem PySem.W PySem.Calls PyProof.Rows PySem.SeqAt
set_option Elab.async false
set_option maxRecDepth 100000
set_option maxHeartbeats 1000000
namespace Mine
/-- the k-th of a list, whatever the number -/
theorem pick {n : Nat} (hn : 0 < n) (P : Nat → Prop) (hP : ∀ i, i < n → P i) (x : Int) : P (x.fmod n).toNat := by
  have h := fm x (b := n) (by exact_mod_cast hn)
  exact hP _ (by omega)
theorem pick_mk (T : Int) : ∃ mk : Option Nat, ([.str "  ", .none, .str "   ", .str " "] : List D)[(T.fmod 4).toNat]? = some (mkD mk) ∧ ∀ k, mk = some k → 1 ≤ k ∧ k ≤ 3 := by
  refine pick (n := 4) (by decide) (fun i => ∃ mk : Option Nat, ([.str "  ", .none, .str "   ", .str " "] : List D)[i]? = some (mkD mk) ∧ ∀ k, mk = some k → 1 ≤ k ∧ k ≤ 3) (fun i hi => ?_) T
  match i, hi with
  | 0, _ => exact ⟨some 2, rfl, by intro k hk; cases hk; decide⟩
  | 1, _ => exact ⟨none, rfl, by intro k hk; cases hk⟩
  | 2, _ => exact ⟨some 3, rfl, by intro k hk; cases hk; decide⟩
  | 3, _ => exact ⟨some 1, rfl, by intro k hk; cases hk; decide⟩
theorem pick_W (T : Int) : ∃ W : Nat, okW W ∧ ([.int 5, .int 7, .int 9, .int 10, .int 3, .int 6] : List D)[((T.fdiv 4).fmod 6).toNat]? = some (.int (W : Int)) := by
  refine pick (n := 6) (by decide) (fun i => ∃ W : Nat, okW W ∧ ([.int 5, .int 7, .int 9, .int 10, .int 3, .int 6] : List D)[i]? = some (.int (W : Int))) (fun i hi => ?_) (T.fdiv 4)
  match i, hi with
  | 0, _ => exact ⟨5, by decide, rfl⟩
  | 1, _ => exact ⟨7, by decide, rfl⟩
  | 2, _ => exact ⟨9, by decide, rfl⟩
  | 3, _ => exact ⟨10, by decide, rfl⟩
  | 4, _ => exact ⟨3, by decide, rfl⟩
  | 5, _ => exact ⟨6, by decide, rfl⟩
theorem pick_V (T : Int) : ∃ V : Nat, okV V ∧ ([.int 2, .int 3, .int 1, .int 4, .int 5, .int 6] : List D)[((T.fdiv 24).fmod 6).toNat]? = some (.int (V : Int)) := by
  refine pick (n := 6) (by decide) (fun i => ∃ V : Nat, okV V ∧ ([.int 2, .int 3, .int 1, .int 4, .int 5, .int 6] : List D)[i]? = some (.int (V : Int))) (fun i hi => ?_) (T.fdiv 24)
  match i, hi with
  | 0, _ => exact ⟨2, by decide, rfl⟩
  | 1, _ => exact ⟨3, by decide, rfl⟩
  | 2, _ => exact ⟨1, by decide, rfl⟩
  | 3, _ => exact ⟨4, by decide, rfl⟩
  | 4, _ => exact ⟨5, by decide, rfl⟩
  | 5, _ => exact ⟨6, by decide, rfl⟩
theorem both_ok : ∀ W ∈ ([5, 7, 9, 10, 3, 6] : List Nat), ∀ V ∈ ([2, 3, 1, 4, 5, 6] : List Nat), (((Nat.gcd W V : Nat) : Int) ∈ (rngI 1 (V : Int).toNat).filter fun k => (V : Int).fmod k == 0 && (W : Int).fmod k == 0) ∧
    ∀ k ∈ (rngI 1 (V : Int).toNat).filter (fun k => (V : Int).fmod k == 0 && (W : Int).fmod k == 0), k ≤ ((Nat.gcd W V : Nat) : Int) := by decide +kernel
theorem gcd_ok : ∀ W ∈ [5, 7, 9, 10, 3, 6], ∀ V ∈ [2, 3, 1, 4, 5, 6], (1 ≤ W ∧ W ≤ 10) ∧ (1 ≤ V ∧ V ≤ 6) ∧ 0 < Nat.gcd W V ∧ Nat.gcd W V * (W / Nat.gcd W V) = W ∧ Nat.gcd W V * (V / Nat.gcd W V) = V ∧ 0 < W / Nat.gcd W V ∧ W / Nat.gcd W V ≤ W := by decide +kernel
theorem posD_len (mk : Option Nat) : ∀ (l : List (Nat × Int)) (a : Nat), (posD mk a l).length ≤ l.length
  | [], _ => by simp [posD]
  | e :: l, a => by
    rw [posD, List.length_append, List.length_cons]
    have := posD_len mk l (a + lenE mk e)
    split
    · simp; omega
    · simp; omega
theorem posD_one (mk : Option Nat) : ∀ (l : List (Nat × Int)) (a : Nat), (∀ e ∈ l, 1 ≤ e.1) → ∀ p ∈ posD mk a l, 1 ≤ p
  | [], _, _, p, h => by cases h
  | e :: l, a, h1, p, h => by
    rw [posD] at h
    have he := h1 e (by simp)
    rcases List.mem_append.mp h with h | h
    · split at h
      · have := List.eq_of_mem_singleton h
        rw [this]
        cases mk with
        | none => simp [gapW]; omega
        | some k => simp [gapW]; omega
      · cases h
    · exact posD_one mk l _ (fun e he => h1 e (by simp [he])) p h
theorem posD_some (mk : Option Nat) (hmk : ∀ k, mk = some k → 1 ≤ k ∧ k ≤ 3) (l : List (Nat × Int)) : 0 < (posD mk 0 (l ++ ent [5, 8, 15, 18])).length := by
  rw [posD_app, List.length_append]
  have e : ent [5, 8, 15, 18] = (6, 0) :: ent [8, 15, 18] := by decide +kernel
  rw [e, posD]
  have hb : bigW mk 6 = true := by
    cases mk with
    | none => rfl
    | some k =>
      obtain ⟨h1, h3⟩ := hmk k rfl
      have : ∀ k ∈ [1, 2, 3], bigW (some k) 6 = true := by decide
      refine this k ?_
      match k, h1, h3 with
      | 1, _, _ => decide
      | 2, _, _ => decide
      | 3, _, _ => decide
  rw [show ((6, 0) : Nat × Int).1 = 6 from rfl, hb, if_pos rfl]
  simp; omega
theorem rep_flat_len {α : Type} (l : List α) (W : Nat) : (List.replicate W l).flatten.length = W * l.length := by simp
theorem sum_bd (ps : List Int) (F : Int → Int) (b : Int) (h : ∀ p ∈ ps, 0 ≤ F p ∧ F p ≤ b) : 0 ≤ (ps.map F).sum ∧ (ps.map F).sum ≤ b * ps.length := by
  induction ps with
  | nil => simp
  | cons p ps ih =>
    have h1 := h p (by simp)
    have h2 := ih fun q hq => h q (by simp [hq])
    simp only [List.map_cons, List.sum_cons, List.length_cons, Int.natCast_succ, Int.mul_add]
    omega
def t3 (c : Nat) : D → UInt64
  | .tup [.flt x, .flt y, .flt z] => [x, y, z].getD c 0
  | _ => 0
theorem colE_bd {sh lv N r : Int} {c : Nat} (hs0 : 0 ≤ sh) (hs4 : sh ≤ 4) (hl0 : 1 ≤ lv) (hl4 : lv ≤ 4) (hN : 0 < N) : 0 ≤ colE sh lv N c r ∧ colE sh lv N c r ≤ 16 * N := by
  obtain ⟨h0, h1⟩ := hexH_bd (c := c) (r := r) hN
  unfold colE
  generalize hexH c N r = h at *
  have l0 : 0 ≤ lv := Int.le_trans (by decide) hl0
  have a := Int.mul_nonneg (Int.mul_nonneg l0 (Int.sub_nonneg_of_le hs4)) (Int.le_of_lt hN)
  have b := Int.mul_nonneg (Int.mul_nonneg l0 hs0) h0
  have c := Int.mul_nonneg (Int.mul_nonneg l0 hs0) (Int.sub_nonneg_of_le h1)
  have d := Int.mul_nonneg (Int.sub_nonneg_of_le hl4) (Int.le_of_lt hN)
  have e : lv * (4 - sh) * N + lv * sh * N = 4 * (lv * N) := by
    rw [← Int.add_mul, ← Int.mul_add, Int.sub_add_cancel, Int.mul_comm lv 4, Int.mul_assoc]
  rw [Int.mul_sub] at c
  rw [Int.sub_mul] at d
  clear hs0 hs4 hl0 hl4 hN l0 h0 h1
  omega
end Mine

end
section
open PySem PySem.W PySem.Calls PyProof.Rows PySem.SeqAt
set_option Elab.async false
set_option maxRecDepth 100000
set_option maxHeartbeats 4000000
namespace Mine
/-- the text written once (E), all the writings (L), the size of one -/
structure TextOk (mk : Option Nat) (W : Nat) (E L : List (Nat × Int)) (Z : Nat) : Prop where
  tx : (List.replicate W (textOf E)).flatten = textOf L
  td : (List.replicate W (dueOf mk E)).flatten = dueOf mk L
  cap : CapOk mk (mkS (textOf L))
  jl : (Txt.join (sepOf mk) ((partsOf mk (mkS (textOf L))).map Txt.capitalize)).length ≤ 2 ^ 20
  j : (if mk.isNone then (" " : Str) else "") ++ Txt.join (sepOf mk) ((partsOf mk (mkS (textOf L))).map Txt.capitalize) = mkS (dueOf mk L)
  z : (dueOf mk E).length = Z
  z0 : 0 < Z
  n1 : W * Z ≤ 1280
  dl : (dueOf mk L).length = W * Z
  gr : greatOf (dueOf mk L) = ((List.range W).map fun j => (posD mk 0 E).map fun p => p + ((0 + j * Z : Nat) : Int)).flatten
  gl : (greatOf (dueOf mk L)).length ≤ 160
  g0 : 0 < (greatOf (dueOf mk L)).length
  gb : ∀ k ∈ greatOf (dueOf mk L), 1 ≤ k ∧ k < ((W * Z : Nat) : Int)
  ps : ∀ p ∈ posD mk 0 E, 1 ≤ p
theorem due_pos (mk : Option Nat) : ∀ l : List (Nat × Int), l ≠ [] → 0 < (dueOf mk l).length
  | [], h => absurd rfl h
  | e :: l, _ => by
    rw [due_cons, List.length_append, List.length_append, big_len]
    exact Nat.lt_of_lt_of_le (Nat.lt_of_lt_of_le Nat.one_pos (wordL_len e.2).1) (Nat.le_trans (Nat.le_add_right _ _) (Nat.le_add_left _ _))
theorem rep_run {W : Nat} {E : List (Nat × Int)} (h : ∀ e ∈ E, 1 ≤ e.1) : ∀ e ∈ (List.replicate W E).flatten, 1 ≤ e.1 := by
  intro e he
  obtain ⟨l, hl, he⟩ := List.mem_flatten.mp he
  rw [List.eq_of_mem_replicate hl] at he
  exact h e he
theorem text_ok (mk : Option Nat) (hmk : ∀ k, mk = some k → 1 ≤ k ∧ k ≤ 3) {W : Nat} (w0 : 0 < W) (w1 : W ≤ 10) {E : List (Nat × Int)} (h1 : ∀ e ∈ E, 1 ≤ e.1) (hE : E.length ≤ 16) (hne : E ≠ []) (ht : (textOf E).length ≤ 128) (hd : (dueOf mk E).length ≤ 128) (hp : 0 < (posD mk 0 E).length) :
    TextOk mk W E (List.replicate W E).flatten (dueOf mk E).length := by
  have tx := text_rep E W
  have td := due_rep mk E W
  have dl : (dueOf mk (List.replicate W E).flatten).length = W * (dueOf mk E).length := by rw [td, rep_flat_len]
  have tl : (textOf (List.replicate W E).flatten).length = W * (textOf E).length := by rw [tx, rep_flat_len]
  have ll := rep_flat_len E W
  have l1 := rep_run (W := W) h1
  have z0 := due_pos mk E hne
  have n1 : W * (dueOf mk E).length ≤ 10 * 128 := Nat.mul_le_mul w1 hd
  have n2 : W * (textOf E).length ≤ 10 * 128 := Nat.mul_le_mul w1 ht
  have n3 : W * E.length ≤ 10 * 16 := Nat.mul_le_mul w1 hE
  have lne : (List.replicate W E).flatten ≠ [] := fun h => by
    rw [h] at ll
    exact Nat.ne_of_gt (Nat.mul_pos w0 (List.length_pos_iff.mpr hne)) ll.symm
  have gr : greatOf (dueOf mk (List.replicate W E).flatten) = ((List.range W).map fun j => (posD mk 0 E).map fun p => p + ((0 + j * (dueOf mk E).length : Nat) : Int)).flatten := by rw [great_eq, posD_rep]
  have hg : greatOf (dueOf mk (List.replicate W E).flatten) = posD mk 0 (List.replicate W E).flatten := great_eq mk _
  have gl := posD_len mk (List.replicate W E).flatten 0
  have gb := posD_bd mk (List.replicate W E).flatten 0
  have g1 := posD_one mk (List.replicate W E).flatten 0 l1
  obtain ⟨cap, jl⟩ := capOk_text mk hmk' _ l1 (by rw [ll]; exact n3) (by rw [tl]; exact n2) lne (by rw [dl]; exact n1)
  have j := cap_due mk hmk'' _ l1 lne
  rw [Nat.zero_add, dl] at gb
  have g0 : 0 < (posD mk 0 (List.replicate W E).flatten).length := by
    obtain ⟨w, hw⟩ := Nat.exists_eq_succ_of_ne_zero (Nat.ne_of_gt w0)
    rw [hw, List.replicate_succ, List.flatten_cons, posD_app, List.length_append]
    exact Nat.lt_of_lt_of_le hp (Nat.le_add_right _ _)
  exact ⟨tx.symm, td.symm, cap, jl, j, rfl, z0, n1, dl, gr, by rw [hg]; exact Nat.le_trans gl (by rw [ll]; exact n3), by rw [hg]; exact g0, fun k hk => by rw [hg] at hk; exact ⟨g1 k hk, (gb k hk).2⟩, posD_one mk E 0 h1⟩
where
  hmk' : ∀ k, mk = some k → 0 < k ∧ k ≤ 3 := hmk
  hmk'' : ∀ k, mk = some k → 0 < k := fun k h => (hmk k h).1
/-- the colour painted at the place k, its three floats -/
def hueD (V Bn sh lv k : Int) : D := hsvF (fdivI (k * V) Bn) (fdivI sh 4) (fdivI lv 4)
structure ShLv (sh lv : Int) : Prop where
  s0 : 0 ≤ sh
  s4 : sh ≤ 4
  l0 : 1 ≤ lv
  l4 : lv ≤ 4
theorem col_at {sh lv N : Int} (C : ShLv sh lv) {W V both t v Z : Nat} (v0 : 1 ≤ V) (v6 : V ≤ 6) (hW : both * t = W) (hV : both * v = V) (hN : N = (t : Int) * (Z : Int)) (N0 : 0 < N) (N1 : N ≤ 1280) (B1 : W * Z ≤ 1280) {k : Int} (k0 : 1 ≤ k) (k1 : k < ((W * Z : Nat) : Int)) :
    Float64.isInf (fdivI (k * (V : Int)) ((W * Z : Nat) : Int)) = false ∧ Float64.isFinite (Float64.mul (fdivI (k * (V : Int)) ((W * Z : Nat) : Int)) F6) = true ∧ (truncF (Float64.mul (fdivI (k * (V : Int)) ((W * Z : Nat) : Int)) F6)).natAbs < 2 ^ 1023 ∧
      hueD V ((W * Z : Nat) : Int) sh lv k = .tup [.flt (t3 0 (hueD V ((W * Z : Nat) : Int) sh lv k)), .flt (t3 1 (hueD V ((W * Z : Nat) : Int) sh lv k)), .flt (t3 2 (hueD V ((W * Z : Nat) : Int) sh lv k))] ∧
      ∀ c, c = 0 ∨ c = 1 ∨ c = 2 → (Fn (roundF (16 * N) (t3 c (hueD V ((W * Z : Nat) : Int) sh lv k))) ∧ truncF (roundF (16 * N) (t3 c (hueD V ((W * Z : Nat) : Int) sh lv k))) = colE sh lv N c ((k * (v : Int)) % N)) := by
  have hAB : k * (V : Int) * N = k * (v : Int) * ((W * Z : Nat) : Int) := by
    rw [hN, ← hW, ← hV, Int.natCast_mul, Int.natCast_mul, Int.natCast_mul]
    ac_rfl
  clear hN hW hV
  have hA : 1 ≤ k * (V : Int) := Int.le_trans (by decide) (Int.mul_le_mul k0 (Int.ofNat_le.mpr v0) (by decide) (Int.le_trans (by decide) k0))
  have h6 : k * (V : Int) ≤ k * 6 := Int.mul_le_mul_of_nonneg_left (Int.ofNat_le.mpr v6) (Int.le_trans (by decide) k0)
  have hA8 : k * (V : Int) ≤ 8 * ((W * Z : Nat) : Int) := by clear hAB; omega
  obtain ⟨f1, f2, f3, x, y, z, e, a1, a2, a3⟩ := col_all hA (Int.lt_of_lt_of_le (by decide) (Int.le_of_lt (Int.lt_of_le_of_lt k0 k1))) (Int.ofNat_le.mpr B1) hAB hA8 N0 N1 C.s0 C.s4 C.l0 C.l4
  have e' : hueD V ((W * Z : Nat) : Int) sh lv k = .tup [.flt x, .flt y, .flt z] := e
  rw [e']
  refine ⟨f1, f2, f3, rfl, fun c hc => ?_⟩
  rcases hc with rfl | rfl | rfl
  · exact a1
  · exact a2
  · exact a3
theorem col_sum {sh lv N : Int} (C : ShLv sh lv) {mk : Option Nat} {W V both t v Z : Nat} {E L : List (Nat × Int)} (T : TextOk mk W E L Z) (okw : okW W) (okv : okV V) (hb : both = Nat.gcd W V) (ht : t = W / both) (hv : v = V / both) (hN : N = (t : Int) * (Z : Int)) (N0 : 0 < N) {F : Int → Int} {c : Nat} (hc : c ∈ [0, 1, 2])
    (hF : ∀ k ∈ greatOf (dueOf mk L), F k = colE sh lv N c ((k * (v : Int)) % N)) :
    ((greatOf (dueOf mk L)).map F).sum = (greatOf (dueOf mk L)).length * (t : Int) * (Z : Int) * lv * (4 - sh) + lv * sh * (both : Int) * ((posD mk 0 E).map fun p => (spreadI (p * (v : Int)) (Z : Int) (t : Int)).getD c 0).sum ∧
    0 ≤ ((greatOf (dueOf mk L)).map F).sum ∧ ((greatOf (dueOf mk L)).map F).sum ≤ 16 * N * (greatOf (dueOf mk L)).length := by
  rw [List.map_congr_left hF]
  refine ⟨?_, sum_bd _ _ _ fun k _ => colE_bd C.s0 C.s4 C.l0 C.l4 N0⟩
  refine (sum_lin _ (lv * (4 - sh) * N) (lv * sh) (fun k => hexH c N ((k * (v : Int)) % N))).trans ?_
  have e2 : ((greatOf (dueOf mk L)).map fun k => hexH c N ((k * (v : Int)) % N)).sum = (both : Int) * ((posD mk 0 E).map fun p => (spreadI (p * (v : Int)) (Z : Int) (t : Int)).getD c 0).sum := by
    rw [T.gr, sum_flat (fun k => hexH c N ((k * (v : Int)) % N)), ← sum_mul_map]
    congr 1
    refine List.map_congr_left fun p hp => ?_
    have := place_sum okw okv hb T.z0 (Int.le_trans (by decide) (T.ps p hp)) hc
    rw [← ht, ← hv, ← hN] at this
    exact this
  rw [e2, hN, Int.mul_assoc (lv * sh)]
  congr 1
  ac_rfl
theorem paint_all {R G B Wh : Int} (w0 : 0 < Wh) (w1 : Wh ≤ 4194304) (r0 : 0 ≤ R ∧ R ≤ Wh) (g0 : 0 ≤ G ∧ G ≤ Wh) (b0 : 0 ≤ B ∧ B ≤ Wh) : ∃ M m H L Sh x y z, PaintOk R G B Wh H L Sh x y z M m := by
  have two : ∀ a b : Int, ∃ c, (c = a ∨ c = b) ∧ a ≤ c ∧ b ≤ c := fun a b => by
    rcases Int.le_total a b with h | h
    · exact ⟨b, .inr rfl, h, Int.le_refl b⟩
    · exact ⟨a, .inl rfl, Int.le_refl a, h⟩
  have two' : ∀ a b : Int, ∃ c, (c = a ∨ c = b) ∧ c ≤ a ∧ c ≤ b := fun a b => by
    rcases Int.le_total a b with h | h
    · exact ⟨a, .inl rfl, Int.le_refl a, h⟩
    · exact ⟨b, .inr rfl, h, Int.le_refl b⟩
  obtain ⟨M1, h1, h2, h3⟩ := two G B
  obtain ⟨M, h4, h5, h6⟩ := two R M1
  obtain ⟨m1, k1, k2, k3⟩ := two' G B
  obtain ⟨m, k4, k5, k6⟩ := two' R m1
  have hM : M = R ∨ M = G ∨ M = B := h4.imp id fun h => h1.imp (h.trans ·) (h.trans ·)
  have hm : m = R ∨ m = G ∨ m = B := k4.imp id fun h => k1.imp (h.trans ·) (h.trans ·)
  have b1 : M ≤ Wh := hM.elim (fun h => h ▸ r0.2) fun h => h.elim (fun h => h ▸ g0.2) fun h => h ▸ b0.2
  have b2 : 0 ≤ m := hm.elim (fun h => h ▸ r0.1) fun h => h.elim (fun h => h ▸ g0.1) fun h => h ▸ b0.1
  obtain ⟨H, L, Sh, x, y, z, h⟩ := paint_ok ⟨w0, w1, b2, b1, hM, h5, Int.le_trans h2 h6, Int.le_trans h3 h6, hm, k5, Int.le_trans k6 k2, Int.le_trans k6 k3⟩
  exact ⟨M, m, H, L, Sh, x, y, z, h⟩
theorem plain_at (dr : List Int) (hdl : dr.length ≤ 12) : PlainAt dr := by
  obtain ⟨T, hT⟩ : ∃ T, T = dr.sum := ⟨_, rfl⟩
  obtain ⟨mk, hmk, hmk2⟩ := pick_mk T
  obtain ⟨W, okw, hW⟩ := pick_W T
  obtain ⟨V, okv, hV⟩ := pick_V T
  obtain ⟨b1, b2⟩ := both_ok W okw V okv
  obtain ⟨⟨w0, w1⟩, ⟨v0, v1⟩, g0, gW, gV, t0, tW⟩ := gcd_ok W okw V okv
  obtain ⟨both, hboth⟩ : ∃ both, both = Nat.gcd W V := ⟨_, rfl⟩
  rw [← hboth] at b1 b2 g0 gW gV t0 tW
  obtain ⟨t, ht⟩ : ∃ t, t = W / both := ⟨_, rfl⟩
  obtain ⟨v, hv⟩ : ∃ v, v = V / both := ⟨_, rfl⟩
  rw [← ht] at gW t0 tW
  rw [← hv] at gV
  have C : ShLv (4 - (T.fdiv 144).fmod 5) (4 - (T.fdiv 720).fmod 4) := by
    have h1 := fm (T.fdiv 144) (b := 5) (by decide)
    have h2 := fm (T.fdiv 720) (b := 4) (by decide)
    clear hmk2 b1 b2 hT g0 gW gV t0 tW w0 w1 v0 v1 hboth ht hv hdl hmk hW hV okw okv
    generalize (T.fdiv 144).fmod 5 = a at *
    generalize (T.fdiv 720).fmod 4 = b at *
    exact ⟨by omega, by omega, by omega, by omega⟩
  obtain ⟨sh, hsh⟩ : ∃ sh, sh = 4 - (T.fdiv 144).fmod 5 := ⟨_, rfl⟩
  obtain ⟨lv, hlv⟩ : ∃ lv, lv = 4 - (T.fdiv 720).fmod 4 := ⟨_, rfl⟩
  rw [← hsh, ← hlv] at C
  have hwr := written_eq mk (dr ++ [5, 8, 15, 18])
  have wl := written_len mk (dr ++ [5, 8, 15, 18])
  have h16 : (dr ++ [5, 8, 15, 18]).length ≤ 16 := by rw [List.length_append]; exact Nat.add_le_add_right hdl 4
  have h128 : 8 * (dr ++ [5, 8, 15, 18]).length ≤ 128 := Nat.mul_le_mul_left 8 h16
  rw [hwr] at wl
  have hne : ent (dr ++ [5, 8, 15, 18]) ≠ [] := by simp [ent]
  have hps : 0 < (posD mk 0 (ent (dr ++ [5, 8, 15, 18]))).length := by
    have : ent (dr ++ [5, 8, 15, 18]) = ent dr ++ ent [5, 8, 15, 18] := by simp [ent]
    rw [this]; exact posD_some mk hmk2 _
  have X := text_ok mk hmk2 w0 w1 (ent_run _) (by unfold ent; rw [List.length_map]; exact h16) hne (Nat.le_trans wl.1 h128) (Nat.le_trans wl.2.1 h128) hps
  clear wl h16 h128 hne hps
  generalize ent (dr ++ [5, 8, 15, 18]) = E at *
  generalize (List.replicate W E).flatten = L at *
  generalize hZ : (dueOf mk E).length = Z at *
  obtain ⟨N, hN⟩ : ∃ N : Int, N = (t : Int) * (Z : Int) := ⟨_, rfl⟩
  have N0 : 0 < N := by rw [hN]; exact Int.mul_pos (Int.ofNat_lt.mpr t0) (Int.ofNat_lt.mpr X.z0)
  have N1 : N ≤ 1280 := by
    rw [hN, ← Int.natCast_mul]
    exact Int.ofNat_le.mpr (Nat.le_trans (Nat.mul_le_mul_right Z tW) X.n1)
  have hcol := fun k hk => col_at C v0 v1 gW gV hN N0 N1 X.n1 (X.gb k hk).1 (X.gb k hk).2
  have hs := fun (c : Nat) (h3 : c = 0 ∨ c = 1 ∨ c = 2) (hc : c ∈ [0, 1, 2]) => col_sum C X okw okv hboth ht hv hN N0 (F := fun k => truncF (roundF (16 * N) (t3 c (hueD V ((W * Z : Nat) : Int) sh lv k)))) hc fun k hk => ((hcol k hk).2.2.2.2 c h3).2
  obtain ⟨sR, bR⟩ := hs 0 (.inl rfl) (by decide)
  obtain ⟨sG, bG⟩ := hs 1 (.inr (.inl rfl)) (by decide)
  obtain ⟨sB, bB⟩ := hs 2 (.inr (.inr rfl)) (by decide)
  clear hs
  have hwh : 16 * N * ((greatOf (dueOf mk L)).length : Int) ≤ 4194304 :=
    Int.le_trans (Int.mul_le_mul (c := 16 * 1280) (d := 160) (Int.mul_le_mul_of_nonneg_left N1 (by decide)) (Int.ofNat_le.mpr X.gl) (Int.natCast_nonneg _) (by decide)) (by decide)
  obtain ⟨M, m, H, Lt, Sh, x, y, z, hpaint⟩ := paint_all (Int.mul_pos (Int.mul_pos (by decide) N0) (Int.ofNat_lt.mpr X.g0)) hwh bR bG bB
  have efd : ((W : Int)).fdiv (both : Int) = (t : Int) := by
    rw [Int.fdiv_eq_ediv_of_nonneg _ (Int.natCast_nonneg _), ht]; rfl
  have efp : ∀ p : Int, (p * (V : Int)).fdiv (both : Int) = p * (v : Int) := by
    intro p
    rw [Int.fdiv_eq_ediv_of_nonneg _ (Int.natCast_nonneg _), ← gV, Int.natCast_mul, Int.mul_left_comm, Int.mul_ediv_cancel_left _ (Int.ne_of_gt (Int.ofNat_lt.mpr g0))]
  have e16 : 16 * ((W : Int)).fdiv (both : Int) * ((dueOf mk E).length : Int) = 16 * N := by rw [efd, hZ, hN, Int.mul_assoc]
  have etl : (((dueOf mk L).length : Nat) : Int) = ((W * Z : Nat) : Int) := by rw [X.dl]
  have hWn : ((W : Int)).toNat = W := Int.toNat_natCast W
  exact ⟨T, mk, W, V, sh, lv, both, textOf E, dueOf mk E, posD mk 0 E, dueOf mk L, fun k => t3 0 (hueD V ((W * Z : Nat) : Int) sh lv k), fun k => t3 1 (hueD V ((W * Z : Nat) : Int) sh lv k), fun k => t3 2 (hueD V ((W * Z : Nat) : Int) sh lv k), _, _, _, H, Lt, Sh, x, y, z, M, m, {
    hdr := hdl
    hT := hT.symm
    hmk := hmk
    hmk' := fun k hk => ⟨(hmk2 k hk).1, Nat.lt_of_le_of_lt (hmk2 k hk).2 (by decide)⟩
    hW := hW
    hV := hV
    hsh := hsh.symm
    hlv := hlv.symm
    hW' := ⟨Int.ofNat_le.mpr w0, Int.ofNat_le.mpr w1⟩
    hV' := ⟨Int.ofNat_le.mpr v0, Int.ofNat_le.mpr v1⟩
    htw := hwr
    hcap := by rw [hWn, X.tx]; exact X.cap
    htold := by rw [hWn, X.td]
    hj := by rw [hWn, X.tx]; exact X.j
    hjl := by rw [hWn, X.tx]; exact X.jl
    hboth := b1
    hboth' := b2
    hu := by rw [X.z]; exact X.z0
    hhue := fun k hk => by rw [etl]; exact ⟨(hcol k hk).1, (hcol k hk).2.1, (hcol k hk).2.2.1⟩
    hs4 := inf_of (quarter C.s0 C.s4).1
    hl4 := inf_of (quarter (Int.le_trans (by decide) C.l0) C.l4).1
    hcol := fun k hk => by rw [etl]; exact (hcol k hk).2.2.2.1
    hfin := fun k hk c hc => by
      rw [e16]
      have h := (hcol k hk).2.2.2.2
      rcases mem_rng3 hc with rfl | rfl | rfl
      · exact fin_of (h 0 (.inl rfl)).1
      · exact fin_of (h 1 (.inr (.inl rfl))).1
      · exact fin_of (h 2 (.inr (.inr rfl))).1
    hR := by rw [e16]
    hG := by rw [e16]
    hB := by rw [e16]
    hsum := fun c hc => by
      rw [efd, hZ]
      simp only [efp]
      rcases mem_rng3 hc with rfl | rfl | rfl
      · exact sR
      · exact sG
      · exact sB
    hpaint := by rw [e16]; exact hpaint }⟩
theorem plain : Plain := fun xs _ => plain_at (xs.take 12) (by rw [List.length_take]; exact Nat.min_le_left _ _)
theorem holds : PySem.Challenge.rw_pw0007_01.Holds := holds_of_plain plain
end Mine

end
theorem PySem.Challenge.cw_pw0007_01_holds : PySem.Challenge.rw_pw0007_01.Holds :=
  Mine.holds
