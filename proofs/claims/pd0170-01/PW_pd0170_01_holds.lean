import PyProof.Rows.All
import Wide.All
import OpenK.AllK
import Wide.FinOn
import PySem.Challenge.RW_pd0170_01
set_option Elab.async false
set_option linter.all false
section
open PySem PySem.W PyProof.Rows
set_option maxRecDepth 100000
set_option maxHeartbeats 8000000
namespace Mine
open_top hd for PySem.Challenge.rw_pd0170_01
end Mine
end
section
open PySem PySem.W PySem.Spec PySem.Calls PyProof.Rows
set_option maxRecDepth 100000
namespace Mine

/-! the frozen store, plain data, how a value bears a datum -/
abbrev Sto := Addr → Option Obj
def Sub (B : Sto) (h : Heap) : Prop := ∀ b o, B b = some o → h.get? b = some o
def Le (B B' : Sto) : Prop := ∀ b o, B b = some o → B' b = some o
def put (B : Sto) (a : Addr) (o : Obj) : Sto := fun b => if b = a then some o else B b
theorem Le.refl (B : Sto) : Le B B := fun _ _ e => e
theorem Le.trans {B B' B'' : Sto} (x : Le B B') (y : Le B' B'') : Le B B'' := fun b o e => y b o (x b o e)
theorem put_self (B : Sto) (a : Addr) (o : Obj) : put B a o a = some o := if_pos rfl
theorem put_ne {B : Sto} {a b : Addr} {o : Obj} (h : b ≠ a) : put B a o b = B b := if_neg h
theorem le_put {B : Sto} {a : Addr} {o : Obj} (h : B a = none) : Le B (put B a o) := fun b o' e => by
  rw [put_ne (fun q => by rw [q, h] at e; cases e)]; exact e

inductive D where
  | none
  | bool (b : Bool)
  | int (i : Int)
  | str (x : Str)
  | bytes (b : Array UInt8)
  | tup (ds : List D)
  | lst (ds : List D)
  | rng (a b : Int)
  | val (v : Value)

abbrev tupObj (vs : List Value) (n : Nat) : Obj := { cls := .type "tuple", data := .seq vs.toArray n }
abbrev rngObj (a b : Int) (t u v : Tok) : Obj := { cls := .type "range", dict := none, data := .fields #[.int a t, .int b u, .int 1 v], slots := #[] }
abbrev lstObj (vs : List Value) (n : Nat) : Obj := { cls := .type "list", data := .seq vs.toArray n }

mutual
inductive V (B : Sto) : Value → D → Prop
  | none : V B Value.none D.none
  | bool (b : Bool) : V B (Value.bool b) (D.bool b)
  | int (i : Int) (t : Tok) : V B (Value.int i t) (D.int i)
  | str (x : Str) (t : Tok) : V B (Value.str x t) (D.str x)
  | bytes (b : Array UInt8) (t : Tok) : V B (Value.bytes b t) (D.bytes b)
  | tup {a : Addr} {vs : List Value} {n : Nat} {ds : List D} : B a = some (tupObj vs n) → VAll B vs ds → V B (Value.ref a) (D.tup ds)
  | lst {a : Addr} {vs : List Value} {n : Nat} {ds : List D} : B a = some (lstObj vs n) → VAll B vs ds → V B (Value.ref a) (D.lst ds)
  | rng {r : Addr} {a b : Int} {t u v : Tok} : B r = some (rngObj a b t u v) → V B (Value.ref r) (D.rng a b)
  | val (v : Value) : V B v (D.val v)
inductive VAll (B : Sto) : List Value → List D → Prop
  | nil : VAll B [] []
  | cons {v : Value} {vs : List Value} {d : D} {ds : List D} : V B v d → VAll B vs ds → VAll B (v :: vs) (d :: ds)
end
mutual
theorem V.mono {B B' : Sto} (h : Le B B') : ∀ {v : Value} {d : D}, V B v d → V B' v d
  | _, _, .none => .none
  | _, _, .bool b => .bool b
  | _, _, .int i t => .int i t
  | _, _, .str x t => .str x t
  | _, _, .bytes b t => .bytes b t
  | _, _, .tup e r => .tup (h _ _ e) (VAll.mono h r)
  | _, _, .lst e r => .lst (h _ _ e) (VAll.mono h r)
  | _, _, .rng e => .rng (h _ _ e)
  | _, _, .val v => .val v
theorem VAll.mono {B B' : Sto} (h : Le B B') : ∀ {vs : List Value} {ds : List D}, VAll B vs ds → VAll B' vs ds
  | _, _, .nil => .nil
  | _, _, .cons a r => .cons (V.mono h a) (VAll.mono h r)
end

section
variable {B : Sto} {vs ws : List Value} {ds es : List D} {v : Value} {d : D}
theorem VAll.length (h : VAll B vs ds) : vs.length = ds.length := by
  induction vs generalizing ds with
  | nil => cases h; rfl
  | cons v vs ih => cases h with | cons _ r => rw [List.length_cons, List.length_cons, ih r]
theorem VAll.append (h : VAll B vs ds) (k : VAll B ws es) : VAll B (vs ++ ws) (ds ++ es) := by
  induction vs generalizing ds with
  | nil => cases h; exact k
  | cons v vs ih => cases h with | cons h r => exact .cons h (ih r)
theorem VAll.one (h : V B v d) : VAll B [v] [d] := .cons h .nil
theorem VAll.get {k : Nat} (h : VAll B vs ds) (hk : ds[k]? = some d) : ∃ v, vs[k]? = some v ∧ V B v d := by
  induction vs generalizing ds k with
  | nil => cases h; simp at hk
  | cons v vs ih =>
    cases h with
    | cons h r =>
      cases k with
      | zero => simp at hk; exact ⟨v, rfl, hk ▸ h⟩
      | succ k => simp at hk; obtain ⟨u, e, x⟩ := ih r hk; exact ⟨u, by simpa using e, x⟩
theorem VAll.getV {k : Nat} (h : VAll B vs ds) (hk : vs[k]? = some v) : ∃ d, ds[k]? = some d ∧ V B v d := by
  induction vs generalizing ds k with
  | nil => simp at hk
  | cons u vs ih =>
    cases h with
    | cons h r =>
      cases k with
      | zero => simp at hk; exact ⟨_, rfl, hk ▸ h⟩
      | succ k => simp at hk; obtain ⟨d, e, x⟩ := ih r hk; exact ⟨d, by simpa using e, x⟩
theorem VAll.take (h : VAll B vs ds) (k : Nat) : VAll B (vs.take k) (ds.take k) := by
  induction vs generalizing ds k with
  | nil => cases h; simp; exact .nil
  | cons v vs ih =>
    cases h with
    | cons h r => cases k with
      | zero => exact .nil
      | succ k => exact .cons h (ih r k)
theorem VAll.drop' (h : VAll B vs ds) (k : Nat) : VAll B (vs.drop k) (ds.drop k) := by
  induction vs generalizing ds k with
  | nil => cases h; simp; exact .nil
  | cons v vs ih =>
    cases h with
    | cons h r => cases k with
      | zero => exact .cons h r
      | succ k => exact ih r k
theorem V.inv_int {i : Int} (h : V B v (.int i)) : ∃ t, v = .int i t := by cases h; exact ⟨_, rfl⟩
theorem V.inv_str {x : Str} (h : V B v (.str x)) : ∃ t, v = .str x t := by cases h; exact ⟨_, rfl⟩
theorem V.inv_bool {b : Bool} (h : V B v (.bool b)) : v = .bool b := by cases h; rfl
theorem V.inv_val {u : Value} (h : V B v (.val u)) : v = u := by cases h; rfl
theorem V.inv_lst (h : V B v (.lst ds)) : ∃ a vs n, v = .ref a ∧ B a = some (lstObj vs n) ∧ VAll B vs ds := by
  cases h with | lst e r => exact ⟨_, _, _, rfl, e, r⟩
theorem V.inv_rng {a b : Int} (h : V B v (.rng a b)) : ∃ r t u x, v = .ref r ∧ B r = some (rngObj a b t u x) := by
  cases h with | rng e => exact ⟨_, _, _, _, rfl, e⟩
theorem V.inv_tup (h : V B v (.tup ds)) : ∃ a vs n, v = .ref a ∧ B a = some (tupObj vs n) ∧ VAll B vs ds := by
  cases h with | tup e r => exact ⟨_, _, _, rfl, e, r⟩
end

/-! how a pure step changes the state -/
structure Grow (B : Sto) (s : Shared) (B' : Sto) (s' : Shared) : Prop where
  kp : Keeps s s'
  le : Le B B'
  sub : Sub B' s'.heap
  new : ∀ b o, B' b = some o → B b = some o ∨ s.heap.get? b = none
  tk : s.toks ≤ s'.toks
theorem kheap {s s' : Shared} (k : Keeps s s') : ∀ b o, s.heap.get? b = some o → s'.heap.get? b = some o := by
  obtain ⟨h', tk, rfl, k⟩ := k; exact k
theorem krefl (s : Shared) : Keeps s s := ⟨s.heap, s.toks, rfl, fun _ _ e => e⟩
theorem ktrans {s s' s'' : Shared} (k : Keeps s s') (l : Keeps s' s'') : Keeps s s'' := by
  obtain ⟨h', tk, rfl, k⟩ := k
  obtain ⟨h'', tk', rfl, l⟩ := l
  exact ⟨h'', tk', rfl, fun b o e => l b o (k b o e)⟩
theorem Sub.keeps {B : Sto} {s s' : Shared} (x : Sub B s.heap) (k : Keeps s s') : Sub B s'.heap := fun b o e => kheap k b o (x b o e)
theorem Grow.refl {B : Sto} {s : Shared} (x : Sub B s.heap) : Grow B s B s := ⟨krefl s, Le.refl B, x, fun _ _ e => .inl e, Nat.le_refl _⟩
theorem Grow.of_keeps {B : Sto} {s s' : Shared} (x : Sub B s.heap) (k : Keeps s s') (tk : s.toks ≤ s'.toks) : Grow B s B s' := ⟨k, Le.refl B, x.keeps k, fun _ _ e => .inl e, tk⟩
theorem Grow.toks {B : Sto} {s : Shared} {tk : Nat} (x : Sub B s.heap) (h : s.toks ≤ tk) : Grow B s B { s with toks := tk } := .of_keeps x ⟨s.heap, tk, rfl, fun _ _ e => e⟩ h
theorem none_back {s s' : Shared} (k : Keeps s s') {b : Addr} (e : s'.heap.get? b = none) : s.heap.get? b = none := by
  cases q : s.heap.get? b with
  | none => rfl
  | some o => rw [kheap k b o q] at e; cases e
theorem Grow.trans {B B' B'' : Sto} {s s' s'' : Shared} (x : Grow B s B' s') (y : Grow B' s' B'' s'') : Grow B s B'' s'' :=
  ⟨ktrans x.kp y.kp, x.le.trans y.le, y.sub, fun b o e => (y.new b o e).elim (fun e' => x.new b o e') fun e' => .inr (none_back x.kp e'), Nat.le_trans x.tk y.tk⟩
theorem Sub.none {B : Sto} {h : Heap} (x : Sub B h) {a : Addr} (e : h.get? a = none) : B a = none := by
  cases q : B a with
  | none => rfl
  | some o => rw [x a o q] at e; cases e
theorem Grow.alloc {B : Sto} {s s' : Shared} {a : Addr} {o : Obj} (x : Sub B s.heap) (k : Keeps s s') (hn : s.heap.get? a = none) (ho : s'.heap.get? a = some o) (tk : s.toks ≤ s'.toks) : Grow B s (put B a o) s' := by
  refine ⟨k, le_put (x.none hn), fun b o' e => ?_, fun b o' e => ?_, tk⟩
  · by_cases q : b = a
    · subst q; rw [put_self] at e; cases e; exact ho
    · rw [put_ne q] at e; exact kheap k b o' (x b o' e)
  · by_cases q : b = a
    · subst q; exact .inr hn
    · rw [put_ne q] at e; exact .inl e
/-- what was there and not in the store stays out of it -/
theorem Grow.out {B B' : Sto} {s s' : Shared} (x : Grow B s B' s') {a : Addr} {o : Obj} (ha : s.heap.get? a = some o) (hb : B a = .none) : B' a = .none := by
  cases q : B' a with
  | none => rfl
  | some o' =>
    rcases x.new a o' q with e | e
    · rw [hb] at e; cases e
    · rw [ha] at e; cases e
theorem fresh_size (h : Heap) : h.get? h.objs.size = none := by
  cases e : h.get? h.objs.size with
  | none => rfl
  | some o => exact absurd (Heap.lt_size e) (Nat.lt_irrefl _)
theorem keeps_push (s : Shared) (o : Obj) : Keeps s { s with heap := s.heap.push o } := ⟨_, s.toks, rfl, fun _ _ e => Heap.get?_push_of_some _ e⟩
theorem Grow.push {B : Sto} {s : Shared} {o : Obj} (x : Sub B s.heap) (hf : o.isFreed = false) : Grow B s (put B s.heap.objs.size o) { s with heap := s.heap.push o } :=
  .alloc x (keeps_push s o) (fresh_size _) (Heap.get?_push_size _ hf) (Nat.le_refl _)

/-! the ground: the text's own top -/
abbrev PG : Program := PySem.Challenge.pw_pd0170_01
noncomputable abbrev KK (w : World) : Frag := hd.heap_39 w.params
abbrev MM (w : World) : Model := model PG w
structure Gd (w : World) (s : Shared) : Prop where
  K : (KK w).In s.heap
  top : ∃ mg mb, s.heap.Ns mainGlobals mg ∧ s.heap.Ns builtinsNs mb ∧ ∀ x : Str, x ≠ "__name__" → mb x = bootBuiltins x
  lim : s.heap.NoLimit
theorem Gd.keeps {w : World} {s s' : Shared} (g : Gd w s) (k : ∀ b o, s.heap.get? b = some o → s'.heap.get? b = some o) (h : s.toks ≤ s'.toks) : Gd w s' :=
  ⟨g.K.keeps k, let ⟨mg, mb, a, b, c⟩ := g.top; ⟨mg, mb, a.keeps k, b.keeps k, c⟩, g.lim.keeps k⟩

/-- room for so many calls -/
structure Rm (n : Nat) (A : Around) : Prop where
  hd : A.handled = none
  dp : A.depth + n ≤ 900
  un : A.units + 20 * n ≤ 9000
theorem Rm.deeper {n : Nat} {A : Around} {env : Env} (r : Rm (n + 1) A) : Rm n (A.deeper env) :=
  ⟨r.hd, by have := r.dp; show A.depth + 1 + n ≤ 900; omega, by have := r.un; show A.units + 3 + 20 * n ≤ 9000; omega⟩
theorem Rm.le {n k : Nat} {A : Around} (r : Rm n A) (h : k ≤ n) : Rm k A := ⟨r.hd, by have := r.dp; omega, by have := r.un; omega⟩
theorem Rm.room {n : Nat} {A : Around} (r : Rm n A) : A.depth < recursionLimit := by have := r.dp; show A.depth < 1000; omega
theorem Rm.units {n : Nat} {A : Around} (r : Rm n A) : A.units < cLine := by have := r.un; show A.units < 9900; omega

/-! judgments -/
structure Cl (w : World) (I : Sto → Shared → Prop) : Prop where
  sub : ∀ {B s}, I B s → Sub B s.heap
  gd : ∀ {B s}, I B s → Gd w s
  grow : ∀ {B s B' s'}, I B s → Grow B s B' s' → I B' s'

/-- the expression gives this datum -/
def Ev (w : World) (A : Around) (env : Env) (I : Sto → Shared → Prop) (e : Expr) (d : D) : Prop :=
  ∀ (B : Sto) (s : Shared) (Q E : Value → Shared → Prop), I B s → (∀ v B' s', Grow B s B' s' → V B' v d → Q v s') → wpAny (MM w) A (eval e env) Q E s
/-- the test comes out so -/
def Tr (w : World) (A : Around) (env : Env) (I : Sto → Shared → Prop) (e : Expr) (b : Bool) : Prop :=
  ∀ (B : Sto) (s : Shared) (Q : Bool → Shared → Prop) (E : Value → Shared → Prop), I B s → (∀ B' s', Grow B s B' s' → Q b s') → wpAny (MM w) A (isTrue e env (eval e env)) Q E s
/-- arguments or items in their order -/
def Evs (w : World) (A : Around) (env : Env) (I : Sto → Shared → Prop) (pos : Pos) (es : List Expr) (ds : List D) : Prop :=
  ∀ (B : Sto) (s : Shared) (Q : List Value → Shared → Prop) (E : Value → Shared → Prop), I B s → (∀ vs B' s', Grow B s B' s' → VAll B' vs ds → Q vs s') → wpAny (MM w) A (spliced (backTo pos (starEach es env))) Q E s
/-- a def of the text, called with such data, gives this datum and changes nothing that stood -/
def Fn (w : World) (k : Nat) (f : Addr) (args : List D) (d : D) : Prop :=
  ∀ (A : Around) (B : Sto) (s : Shared) (vs : List Value) (Q E : Value → Shared → Prop), Rm k A → Gd w s → Sub B s.heap → VAll B vs args →
    (∀ v B' s', Grow B s B' s' → V B' v d → Q v s') → wpAny (MM w) A (call (.ref f) vs) Q E s

/-- the same without the count of made values, which only grows -/
structure Grow0 (B : Sto) (s : Shared) (B' : Sto) (s' : Shared) : Prop where
  kp : Keeps s s'
  le : Le B B'
  sub : Sub B' s'.heap
  new : ∀ b o, B' b = some o → B b = some o ∨ s.heap.get? b = none
theorem Grow0.up {B : Sto} {s : Shared} {B' : Sto} {s' : Shared} (x : Grow0 B s B' s') (h : s.toks ≤ s'.toks) : Grow B s B' s' := ⟨x.kp, x.le, x.sub, x.new, h⟩
theorem Grow0.of_keeps {B : Sto} {s s' : Shared} (x : Sub B s.heap) (k : Keeps s s') : Grow0 B s B s' := ⟨k, Le.refl B, x.keeps k, fun _ _ e => .inl e⟩
theorem Grow0.toks {B : Sto} {s : Shared} {tk : Nat} (x : Sub B s.heap) : Grow0 B s B { s with toks := tk } := .of_keeps x ⟨s.heap, tk, rfl, fun _ _ e => e⟩
theorem Grow0.alloc {B : Sto} {s s' : Shared} {a : Addr} {o : Obj} (x : Sub B s.heap) (k : Keeps s s') (hn : s.heap.get? a = none) (ho : s'.heap.get? a = some o) : Grow0 B s (put B a o) s' := by
  refine ⟨k, le_put (x.none hn), fun b o' e => ?_, fun b o' e => ?_⟩
  · by_cases q : b = a
    · subst q; rw [put_self] at e; cases e; exact ho
    · rw [put_ne q] at e; exact kheap k b o' (x b o' e)
  · by_cases q : b = a
    · subst q; exact .inr hn
    · rw [put_ne q] at e; exact .inl e
theorem wp0 {w : World} {A : Around} {α : Type} {t : Sem α} {B : Sto} {s : Shared} {P : Sto → α → Prop} {Q : α → Shared → Prop} {E : Value → Shared → Prop} (k : ∀ v B' s', Grow B s B' s' → P B' v → Q v s')
    (h : ∀ (Q' : α → Shared → Prop) (E' : Value → Shared → Prop), (∀ v B' s', Grow0 B s B' s' → P B' v → Q' v s') → wpAny (MM w) A t Q' E' s) : wpAny (MM w) A t Q E s :=
  wpAny_with_toks (Nat.le_refl s.toks) (h _ _ fun v B' s' g p tk => k v B' s' (g.up tk) p)

inductive Fl where
  | next
  | brk
  | cont
  | ret (d : D)
inductive FlV (B : Sto) : Flow → Fl → Prop
  | next : FlV B .next .next
  | brk : FlV B .brk .brk
  | cont : FlV B .cont .cont
  | ret {v d} : V B v d → FlV B (.ret v) (.ret d)

def Ex (w : World) (A : Around) (env : Env) (I : Sto → Shared → Prop) (st : Stmt) (J : Fl → Sto → Shared → Prop) : Prop :=
  ∀ (B : Sto) (s : Shared) (Q : Flow → Shared → Prop) (E : Value → Shared → Prop), I B s → (∀ f fl B' s', FlV B' f fl → J fl B' s' → Le B B' → Q f s') → wpAny (MM w) A (exec st env) Q E s
def Exs (w : World) (A : Around) (env : Env) (I : Sto → Shared → Prop) (ss : List Stmt) (J : Fl → Sto → Shared → Prop) : Prop :=
  ∀ (B : Sto) (s : Shared) (Q : Flow → Shared → Prop) (E : Value → Shared → Prop), I B s → (∀ f fl B' s', FlV B' f fl → J fl B' s' → Le B B' → Q f s') → wpAny (MM w) A (execs ss env) Q E s

/-- a post that says: on, and then so -/
def On (I : Sto → Shared → Prop) : Fl → Sto → Shared → Prop
  | .next, B, s => I B s
  | _, _, _ => False

section
variable {w : World} {A : Around} {env : Env} {I I' : Sto → Shared → Prop} {J J' : Fl → Sto → Shared → Prop}
theorem Exs.nil (h : ∀ B s, I B s → J .next B s) : Exs w A env I [] J :=
  fun B s _ _ i k => wpAny_execs_nil (k _ _ B s .next (h B s i) (Le.refl B))
theorem Exs.cons {st : Stmt} {ss : List Stmt} (h : Ex w A env I st J') (hn : Exs w A env (J' .next) ss J) (ho : ∀ fl B s, fl ≠ .next → J' fl B s → J fl B s) : Exs w A env I (st :: ss) J := by
  intro B s Q E i k
  refine wpAny_execs_cons (h B s _ _ i fun f fl B' s' hf hj le => ?_)
  cases hf with
  | next => exact hn B' s' _ _ hj fun f fl B'' s'' hf hj le' => k f fl B'' s'' hf hj (le.trans le')
  | brk => exact k _ _ B' s' .brk (ho _ _ _ (by intro x; cases x) hj) le
  | cont => exact k _ _ B' s' .cont (ho _ _ _ (by intro x; cases x) hj) le
  | ret v => exact k _ _ B' s' (.ret v) (ho _ _ _ (by intro x; cases x) hj) le
theorem Exs.on {st : Stmt} {ss : List Stmt} (h : Ex w A env I st (On I')) (hn : Exs w A env I' ss J) : Exs w A env I (st :: ss) J :=
  .cons h hn (by intro fl B s hne hj; cases fl <;> first | exact (hne rfl).elim | exact hj.elim)
theorem Exs.pre {ss : List Stmt} (h : ∀ B s, I B s → ∃ B', Le B B' ∧ I' B' s) (x : Exs w A env I' ss J) : Exs w A env I ss J := by
  intro B s Q E i k
  obtain ⟨B', le, i'⟩ := h B s i
  exact x B' s Q E i' fun f fl B'' s' hf hj le' => k f fl B'' s' hf hj (le.trans le')
theorem Exs.pre' {ss : List Stmt} (h : ∀ B s, I B s → I' B s) (x : Exs w A env I' ss J) : Exs w A env I ss J := .pre (fun B s i => ⟨B, Le.refl B, h B s i⟩) x
theorem Exs.post {ss : List Stmt} (x : Exs w A env I ss J') (h : ∀ fl B s, J' fl B s → J fl B s) : Exs w A env I ss J :=
  fun B s Q E i k => x B s Q E i fun f fl B' s' hf hj le => k f fl B' s' hf (h _ _ _ hj) le
theorem Ex.post {st : Stmt} (x : Ex w A env I st J') (h : ∀ fl B s, J' fl B s → J fl B s) : Ex w A env I st J :=
  fun B s Q E i k => x B s Q E i fun f fl B' s' hf hj le => k f fl B' s' hf (h _ _ _ hj) le
theorem Ex.pre {st : Stmt} (h : ∀ B s, I B s → ∃ B', Le B B' ∧ I' B' s) (x : Ex w A env I' st J) : Ex w A env I st J := by
  intro B s Q E i k
  obtain ⟨B', le, i'⟩ := h B s i
  exact x B' s Q E i' fun f fl B'' s' hf hj le' => k f fl B'' s' hf hj (le.trans le')
theorem Ex.If {test : Expr} {body orelse : List Stmt} {pos : Pos} {b : Bool} (hc : Cl w I) (t : Tr w A env I test b) (h : Exs w A env I (if b then body else orelse) J) : Ex w A env I (.If test body orelse pos) J := by
  intro B s Q E i k
  refine wpAny_If (t B s _ _ i fun B' s' g => ?_)
  have := h B' s' Q E (hc.grow i g) fun f fl B'' s'' hf hj le => k f fl B'' s'' hf hj (g.le.trans le)
  cases b <;> exact this
theorem Ex.ret {e : Expr} {pos : Pos} {d : D} (hc : Cl w I) (h : Ev w A env I e d) (hj : ∀ B s, I B s → J (.ret d) B s) : Ex w A env I (.Return (some e) pos) J := by
  intro B s Q E i k
  exact wpAny_Return_some (h B s _ _ i fun v B' s' g hv => k _ _ B' s' (.ret hv) (hj _ _ (hc.grow i g)) g.le)
def NoNext (J : Fl → Sto → Shared → Prop) : Fl → Sto → Shared → Prop := fun fl B s => fl ≠ .next ∧ J fl B s
/-- an if that leaves, and the rest -/
theorem Exs.if1 {test : Expr} {body rest : List Stmt} {pos : Pos} {b : Bool} (hc : Cl w I) (t : Tr w A env I test b) (h1 : b = true → Exs w A env I body (NoNext J)) (h2 : b = false → Exs w A env I rest J) : Exs w A env I (.If test body [] pos :: rest) J := by
  cases b with
  | true => exact .cons (J' := NoNext J) (.If hc t (h1 rfl)) (fun B s Q E i => (i.1 rfl).elim) fun fl B s _ j => j.2
  | false => exact .cons (J' := On I) (.If hc t (.nil fun B s i => i)) (h2 rfl) fun fl B s hn j => by cases fl <;> first | exact (hn rfl).elim | exact j.elim
/-- an if whose ways meet -/
theorem Exs.if2 {test : Expr} {body orelse rest : List Stmt} {pos : Pos} {b : Bool} (hc : Cl w I) (t : Tr w A env I test b) (h1 : b = true → Exs w A env I body (On I')) (h2 : b = false → Exs w A env I orelse (On I')) (h : Exs w A env I' rest J) : Exs w A env I (.If test body orelse pos :: rest) J := by
  refine .on (I' := I') (.If hc t ?_) h
  cases b with
  | true => exact h1 rfl
  | false => exact h2 rfl
/-- an if that leaves on both ways -/
theorem Exs.ifR {test : Expr} {body orelse rest : List Stmt} {pos : Pos} {b : Bool} (hc : Cl w I) (t : Tr w A env I test b) (h1 : b = true → Exs w A env I body (NoNext J)) (h2 : b = false → Exs w A env I orelse (NoNext J)) : Exs w A env I (.If test body orelse pos :: rest) J := by
  refine .cons (J' := NoNext J) (.If hc t ?_) (fun B s Q E i => (i.1 rfl).elim) fun fl B s _ j => j.2
  cases b with
  | true => exact h1 rfl
  | false => exact h2 rfl
theorem Exs.ret {e : Expr} {pos : Pos} {d : D} {rest : List Stmt} (hc : Cl w I) (h : Ev w A env I e d) (hj : ∀ B s, I B s → J (.ret d) B s) : Exs w A env I (.Return (some e) pos :: rest) J :=
  .cons (J' := fun fl B s => fl = .ret d ∧ I B s) (.ret hc h fun B s i => ⟨rfl, i⟩) (fun B s Q E i => nomatch i.1) fun fl B s _ j => j.1 ▸ hj B s j.2
theorem Ex.brk {pos : Pos} (hj : ∀ B s, I B s → J .brk B s) : Ex w A env I (.Break pos) J :=
  fun B s _ _ i k => wpAny_Break (k _ _ B s .brk (hj _ _ i) (Le.refl B))
end
end Mine
end
section
open PySem PySem.W PySem.Spec PySem.Calls PyProof.Rows
set_option maxRecDepth 100000
namespace Mine

def Wk (E' E : List (Str × D)) : Prop := ∀ x d, E'.lookup x = some d → E.lookup x = some d
theorem Wk.nil {E : List (Str × D)} : Wk [] E := fun _ _ h => by cases h
theorem Wk.cons {E' E : List (Str × D)} {x : Str} {d : D} (h : E.lookup x = some d) (t : Wk E' E) : Wk ((x, d) :: E') E := fun y d' e => by
  rw [List.lookup_cons] at e
  cases q : y == x with
  | true => rw [q] at e; cases e; rw [show y = x by simpa using q]; exact h
  | false => rw [q] at e; exact t y d' e
theorem Wk.refl {E : List (Str × D)} : Wk E E := fun _ _ h => h

/-! what a frame owns and may change -/
structure Ow where
  fp : List Addr
  X : Sto → Heap → Prop
  there : ∀ {B : Sto} {h : Heap}, X B h → ∀ a ∈ fp, ∃ o, h.get? a = some o
  frame : ∀ {B : Sto} {h : Heap} {B' : Sto} {h' : Heap}, X B h → Le B B' → Sub B' h' → (∀ a ∈ fp, ∀ o, h.get? a = some o → h'.get? a = some o) → X B' h'
def Ow.nil : Ow := ⟨[], fun _ _ => True, fun _ _ h => (nomatch h), fun _ _ _ _ => trivial⟩
def Ow.and (P R : Ow) : Ow := ⟨P.fp ++ R.fp, fun B h => P.X B h ∧ R.X B h, fun x a ha => (List.mem_append.mp ha).elim (P.there x.1 a) (R.there x.2 a),
  fun x le sb k => ⟨P.frame x.1 le sb fun a ha => k a (List.mem_append.mpr (.inl ha)), R.frame x.2 le sb fun a ha => k a (List.mem_append.mpr (.inr ha))⟩⟩
/-- a list of the frame's own -/
def Ow.own (a : Addr) (ds : List D) : Ow := ⟨[a], fun B h => ∃ vs n, h.get? a = some (lstObj vs n) ∧ VAll B vs ds,
  fun ⟨vs, n, h1, h2⟩ b hb => by rw [List.mem_singleton.mp hb]; exact ⟨_, h1⟩,
  fun ⟨vs, n, h1, h2⟩ le sb k => ⟨vs, n, k a (.head _) _ h1, h2.mono le⟩⟩

/-! a def's frame -/
structure FrI (w : World) (s₀ : Shared) (B₀ : Sto) (L : Addr) (cl : List (Str × Addr)) (E C : List (Str × D)) (O : Ow) (B : Sto) (s : Shared) : Prop where
  gd : Gd w s₀
  kp : Keeps s₀ s
  tk : s₀.toks ≤ s.toks
  sub : Sub B s.heap
  le : Le B₀ B
  new : ∀ b o, B b = some o → B₀ b = some o ∨ s₀.heap.get? b = none
  fresh : s₀.heap.get? L = none
  nL : B L = none
  loc : ∃ m, s.heap.Ns L m ∧ ∀ x d, E.lookup x = some d → ∃ v, m x = some v ∧ V B v d
  cel : ∀ x c, cl.lookup x = some c → B c = none ∧ s₀.heap.get? c = none ∧ ∃ o v, s.heap.get? c = some o ∧ o.data = .cell v ∧ ∀ d, C.lookup x = some d → ∃ u, v = some u ∧ V B u d
  own : O.X B s.heap
  fpo : ∀ a ∈ O.fp, s₀.heap.get? a = none ∧ B a = none ∧ a ≠ L ∧ ∀ x c, cl.lookup x = some c → c ≠ a
  nod : O.fp.Nodup
section
variable {w : World} {s₀ : Shared} {B₀ : Sto} {L : Addr} {cl : List (Str × Addr)} {E C E' C' : List (Str × D)} {O O' P : Ow} {B : Sto} {s : Shared}
theorem FrI.done (F : FrI w s₀ B₀ L cl E C O B s) : Grow B₀ s₀ B s := ⟨F.kp, F.le, F.sub, F.new, F.tk⟩
theorem FrI.clo : Cl w (FrI w s₀ B₀ L cl E C O) := by
  refine ⟨fun F => F.sub, fun F => F.gd.keeps (kheap F.kp) F.tk, fun {B s B' s'} F g => ?_⟩
  obtain ⟨m, hm, hE⟩ := F.loc
  obtain ⟨oL, es, ep, hL, r⟩ := hm
  refine ⟨F.gd, ktrans F.kp g.kp, Nat.le_trans F.tk g.tk, g.sub, F.le.trans g.le, fun b o e => ?_, F.fresh, g.out hL F.nL, ⟨m, ⟨oL, es, ep, kheap g.kp _ _ hL, r⟩, fun x d e => ?_⟩, fun x c hc => ?_, O.frame F.own g.le g.sub fun a _ o e => kheap g.kp a o e, fun a ha => ?_, F.nod⟩
  · rcases g.new b o e with e | e
    · exact F.new b o e
    · exact .inr (none_back F.kp e)
  · obtain ⟨v, h1, h2⟩ := hE x d e; exact ⟨v, h1, h2.mono g.le⟩
  · obtain ⟨h1, h2, o, v, h3, h4, h5⟩ := F.cel x c hc
    exact ⟨g.out h3 h1, h2, o, v, kheap g.kp _ _ h3, h4, fun d hd => let ⟨u, e1, e2⟩ := h5 d hd; ⟨u, e1, e2.mono g.le⟩⟩
  · obtain ⟨h1, h2, h3⟩ := F.fpo a ha
    obtain ⟨o, ho⟩ := O.there F.own a ha
    exact ⟨h1, g.out ho h2, h3⟩
theorem FrI.weak (F : FrI w s₀ B₀ L cl E C O B s)
    (hE : Wk E' E) (hC : Wk C' C) : FrI w s₀ B₀ L cl E' C' O B s :=
  { F with
    loc := let ⟨m, h1, h2⟩ := F.loc; ⟨m, h1, fun x d e => h2 x d (hE x d e)⟩
    cel := fun x c hc => let ⟨h1, h2, o, v, h3, h4, h5⟩ := F.cel x c hc; ⟨h1, h2, o, v, h3, h4, fun d e => h5 d (hC x d e)⟩ }
/-- another word on what is owned -/
theorem FrI.ow (F : FrI w s₀ B₀ L cl E C O B s) (hs : ∀ a ∈ O'.fp, a ∈ O.fp) (hn : O'.fp.Nodup) (hx : O'.X B s.heap) : FrI w s₀ B₀ L cl E C O' B s :=
  { F with own := hx, fpo := fun a ha => F.fpo a (hs a ha), nod := hn }
/-- what is owned has changed, and nothing else -/
theorem FrI.change (F : FrI w s₀ B₀ L cl E C O B s) {h' : Heap} {tk : Nat} (k : ∀ b o, b ∉ O.fp → s.heap.get? b = some o → h'.get? b = some o) (ht : s.toks ≤ tk) (hs : ∀ a ∈ O'.fp, a ∈ O.fp) (hn : O'.fp.Nodup) (hx : O'.X B h') :
    FrI w s₀ B₀ L cl E C O' B { s with heap := h', toks := tk } := by
  obtain ⟨h0, tk0, rfl, k0⟩ := F.kp
  obtain ⟨m, ⟨oL, es, ep, hL, r⟩, hE⟩ := F.loc
  refine ⟨F.gd, ⟨h', tk, rfl, fun b o e => k b o (fun q => by rw [(F.fpo b q).1] at e; cases e) (k0 b o e)⟩, Nat.le_trans F.tk ht, fun b o e => k b o (fun q => by rw [(F.fpo b q).2.1] at e; cases e) (F.sub b o e), F.le, F.new, F.fresh, F.nL,
    ⟨m, ⟨oL, es, ep, k L oL (fun q => (F.fpo L q).2.2.1 rfl) hL, r⟩, hE⟩, fun x c hc => ?_, hx, fun a ha => F.fpo a (hs a ha), hn⟩
  obtain ⟨h1, h2, o, v, h3, h4, h5⟩ := F.cel x c hc
  exact ⟨h1, h2, o, v, k c o (fun q => (F.fpo c q).2.2.2 x c hc rfl) h3, h4, h5⟩
/-- a new thing is owned -/
theorem FrI.more (F : FrI w s₀ B₀ L cl E C O B s) {s' : Shared} (kp : Keeps s s') (ht : s.toks ≤ s'.toks) (hn : ∀ a ∈ P.fp, s.heap.get? a = none) (nd : P.fp.Nodup) (hx : P.X B s'.heap) : FrI w s₀ B₀ L cl E C (P.and O) B s' := by
  have F' := FrI.clo.grow F (.of_keeps F.sub kp ht)
  obtain ⟨m, ⟨oL, es, ep, hL, r⟩, hE⟩ := F.loc
  refine { F' with own := ⟨hx, F'.own⟩, fpo := fun a ha => ?_, nod := ?_ }
  · rcases List.mem_append.mp ha with ha | ha
    · refine ⟨none_back F.kp (hn a ha), F.sub.none (hn a ha), fun q => ?_, fun x c hc q => ?_⟩
      · rw [← q, hn a ha] at hL; cases hL
      · obtain ⟨_, _, o, v, h3, _⟩ := F.cel x c hc
        rw [q, hn a ha] at h3; cases h3
    · exact F'.fpo a ha
  · refine List.nodup_append.mpr ⟨nd, F.nod, fun a ha b hb q => ?_⟩
    subst q
    obtain ⟨o, ho⟩ := O.there F.own a hb
    rw [hn a ha] at ho; cases ho
/-- it is owned no more: it stands as it is -/
theorem FrI.freeze {a : Addr} {ds : List D} (F : FrI w s₀ B₀ L cl E C ((Ow.own a ds).and O) B s) : ∃ B', Le B B' ∧ V B' (.ref a) (.lst ds) ∧ FrI w s₀ B₀ L cl E C O B' s := by
  obtain ⟨⟨vs, n, ha, hvs⟩, ho⟩ := F.own
  have hf := F.fpo a (List.mem_append.mpr (.inl (.head _)))
  have le : Le B (put B a (lstObj vs n)) := le_put hf.2.1
  have sb : Sub (put B a (lstObj vs n)) s.heap := fun b o e => by
    by_cases q : b = a
    · subst q; rw [put_self] at e; cases e; exact ha
    · rw [put_ne q] at e; exact F.sub b o e
  have nd : a ∉ O.fp ∧ O.fp.Nodup := List.nodup_cons.mp (show (a :: O.fp).Nodup from F.nod)
  refine ⟨_, le, .lst (put_self _ _ _) (hvs.mono le), ?_⟩
  obtain ⟨m, hm, hE⟩ := F.loc
  refine ⟨F.gd, F.kp, F.tk, sb, F.le.trans le, fun b o e => ?_, F.fresh, (put_ne (Ne.symm hf.2.2.1)).trans F.nL, ⟨m, hm, fun x d e => let ⟨v, h1, h2⟩ := hE x d e; ⟨v, h1, h2.mono le⟩⟩, fun x c hc => ?_, O.frame ho le sb fun b _ o e => e, fun b hb => ?_, nd.2⟩
  · by_cases q : b = a
    · subst q; exact .inr hf.1
    · rw [put_ne q] at e; exact F.new b o e
  · obtain ⟨h1, h2, o, v, h3, h4, h5⟩ := F.cel x c hc
    exact ⟨(put_ne (hf.2.2.2 x c hc)).trans h1, h2, o, v, h3, h4, fun d hd => let ⟨u, e1, e2⟩ := h5 d hd; ⟨u, e1, e2.mono le⟩⟩
  · obtain ⟨h1, h2, h3⟩ := F.fpo b (List.mem_append.mpr (.inr hb))
    exact ⟨h1, (put_ne (fun q : b = a => nd.1 (q ▸ hb))).trans h2, h3⟩
end

section
variable {w : World} {A : Around} {env : Env} {s₀ : Shared} {B₀ : Sto} {L : Addr} {cl : List (Str × Addr)} {E C : List (Str × D)} {O : Ow}
/-- the frame's local is stored -/
theorem FrI.store {x : Str} {v : Value} {d : D} {B : Sto} {s : Shared} {Q : Unit → Shared → Prop} {R : Value → Shared → Prop} (F : FrI w s₀ B₀ L cl E C O B s) (hv : V B v d)
    (h : ∀ s', FrI w s₀ B₀ L cl ((x, d) :: E) C O B s' → Q () s') (hL : env.locals = L) (hk : env.scope.kind = .function) (hl : env.kindOf x = some .local) :
    wpAny (MM w) A (storeName env x v) Q R s := by
  subst hL
  obtain ⟨m, hm, hE⟩ := F.loc
  have hm' := hm
  obtain ⟨oL, es, ep, hL, hLd, _⟩ := hm'
  refine wpAny_storeName_local hl hm (fun h' hn hs => h _ ?_) (by rw [hk]; rfl)
  have keep : ∀ b o, b ≠ env.locals → s.heap.get? b = some o → h'.get? b = some o := fun b o hb e => (hs.2 b hb).trans e
  obtain ⟨h0, tk0, rfl, k0⟩ := F.kp
  have sb : Sub B h' := fun b o e => keep b o (fun q => by rw [q, F.nL] at e; cases e) (F.sub b o e)
  refine ⟨F.gd, ⟨h', tk0 + 1, rfl, fun b o e => keep b o (fun q => by rw [q, F.fresh] at e; cases e) (k0 b o e)⟩, Nat.le_succ_of_le F.tk, sb, F.le, F.new, F.fresh, F.nL, ⟨_, hn, fun y d' e => ?_⟩, fun y c hc => ?_, O.frame F.own (Le.refl B) sb fun a ha o e => keep a o (F.fpo a ha).2.2.1 e, F.fpo, F.nod⟩
  · rw [List.lookup_cons] at e
    by_cases q : y = x
    · subst q
      simp at e
      exact ⟨v, if_pos rfl, e ▸ hv⟩
    · have : (y == x) = false := by simpa using q
      rw [this] at e
      obtain ⟨u, h1, h2⟩ := hE y d' e
      exact ⟨u, (if_neg q).trans h1, h2⟩
  · obtain ⟨h1, h2, o, u, h3, h4, h5⟩ := F.cel y c hc
    exact ⟨h1, h2, o, u, keep c o (fun q => by rw [q, hL] at h3; cases h3; rw [hLd] at h4; cases h4) h3, h4, h5⟩
/-- the frame's cell is stored -/
theorem FrI.storeC {x : Str} {v : Value} {d : D} {B : Sto} {s : Shared} {Q : Unit → Shared → Prop} {R : Value → Shared → Prop} {c : Addr} (F : FrI w s₀ B₀ L cl E C O B s) (hv : V B v d)
    (h : ∀ s', FrI w s₀ B₀ L cl E ((x, d) :: C) O B s' → Q () s') (hcl : env.cells = cl) (hc : cl.lookup x = some c) (inj : ∀ y, cl.lookup y = some c → y = x) (hk : env.scope.kind = .function) (hl : env.kindOf x = some .cell) :
    wpAny (MM w) A (storeName env x v) Q R s := by
  subst hcl
  obtain ⟨h1, h2, o, u, h3, h4, h5⟩ := F.cel x c hc
  refine wpAny_storeName_cell hk hl hc ⟨o, h3, h4⟩ fun h' hv' hs => h _ ?_
  have keep : ∀ b o, b ≠ c → s.heap.get? b = some o → h'.get? b = some o := fun b o hb e => (hs.2 b hb).trans e
  obtain ⟨o', ho', hd'⟩ := hv'
  obtain ⟨h0, tk0, rfl, k0⟩ := F.kp
  obtain ⟨m, ⟨oL, es, ep, hL, hLd, r⟩, hE⟩ := F.loc
  have sb : Sub B h' := fun b o e => keep b o (fun q => by rw [q, h1] at e; cases e) (F.sub b o e)
  refine ⟨F.gd, ⟨h', tk0, rfl, fun b o e => keep b o (fun q => by rw [q, h2] at e; cases e) (k0 b o e)⟩, F.tk, sb, F.le, F.new, F.fresh, F.nL,
    ⟨m, ⟨oL, es, ep, keep L oL (fun q => by rw [q, h3] at hL; cases hL; rw [hLd] at h4; cases h4) hL, hLd, r⟩, hE⟩, fun y c' hc' => ?_, O.frame F.own (Le.refl B) sb fun a ha o e => keep a o (fun q => (F.fpo a ha).2.2.2 x c hc q.symm) e, F.fpo, F.nod⟩
  by_cases q : c' = c
  · subst q
    have hy := inj y hc'
    subst hy
    refine ⟨h1, h2, o', _, ho', hd', fun d' e => ?_⟩
    rw [List.lookup_cons] at e
    simp at e
    exact ⟨v, rfl, e ▸ hv⟩
  · obtain ⟨g1, g2, oc, u', g3, g4, g5⟩ := F.cel y c' hc'
    refine ⟨g1, g2, oc, u', keep c' oc q g3, g4, fun d' e => g5 d' ?_⟩
    rw [List.lookup_cons] at e
    have : (y == x) = false := by
      have : y ≠ x := fun z => q (by rw [z, hc] at hc'; exact (Option.some.inj hc').symm)
      simpa using this
    rw [this] at e
    exact e
end

/-! names -/
section
variable {w : World} {A : Around} {env : Env} {I : Sto → Shared → Prop} {x : Str} {pos : Pos} {d : D} {v : Value}
theorem Ev.loc (hc : Cl w I) (hI : ∀ B s, I B s → ∃ m v, s.heap.Ns env.locals m ∧ m x = some v ∧ V B v d) (hk : env.scope.kind = .function := by rfl) (hl : env.kindOf x = some .local := by rfl) (hd : (x == ("__debug__" : Str)) = false := by decide) : Ev w A env I (.Name x pos) d := by
  intro B s Q E i k
  obtain ⟨m, v, hm, hv, hV⟩ := hI B s i
  exact wpAny_Name (wpAny_loadName_local hk hl hm hv (k v B s (.refl (hc.sub i)) hV)) hd
theorem Ev.cell (hc : Cl w I) (hI : ∀ B s, I B s → ∃ c v, env.cells.lookup x = some c ∧ s.heap.IsCell c (some v) ∧ V B v d) (hk : env.scope.kind = .function := by rfl) (hl : env.kindOf x = some .cell := by rfl) (hd : (x == ("__debug__" : Str)) = false := by decide) : Ev w A env I (.Name x pos) d := by
  intro B s Q E i k
  obtain ⟨c, v, hm, hv, hV⟩ := hI B s i
  exact wpAny_Name (wpAny_loadName_cell hk hl hm hv (k v B s (.refl (hc.sub i)) hV)) hd
theorem Ev.glob (hc : Cl w I) (e : nsIn (KK w) mainGlobals x = some (some v)) (hg : env.globals = mainGlobals := by rfl) (hk : env.scope.kind = .function := by rfl) (hx : env.kindOf x = some .globalImplicit := by rfl) (hd : (x == ("__debug__" : Str)) = false := by decide) :
    Ev w A env I (.Name x pos) (.val v) := by
  intro B s Q E i k
  obtain ⟨mg, mb, h1, h2, h3⟩ := (hc.gd i).top
  exact Name_function_global hk hx (loadGlobal_global (hg ▸ h1) (mg_of (hc.gd i).K h1 e) (k v B s (.refl (hc.sub i)) (.val v))) hd
theorem Ev.blt (hc : Cl w I) (e : nsIn (KK w) mainGlobals x = some none) (hv : bootBuiltins x = some v) (hn : x ≠ "__name__" := by decide) (hg : env.globals = mainGlobals := by rfl) (hb : env.builtins = builtinsNs := by rfl) (hk : env.scope.kind = .function := by rfl) (hx : env.kindOf x = some .globalImplicit := by rfl) (hd : (x == ("__debug__" : Str)) = false := by decide) :
    Ev w A env I (.Name x pos) (.val v) := by
  intro B s Q E i k
  obtain ⟨mg, mb, h1, h2, h3⟩ := (hc.gd i).top
  exact Name_function_global hk hx (loadGlobal_builtin (hg ▸ h1) (mg_none_of (hc.gd i).K h1 e) (hb ▸ h2) ((h3 x hn).trans hv) (k v B s (.refl (hc.sub i)) (.val v))) hd
theorem Ev.cstr {y : Str} {k : Nat} (hc : Cl w I) : Ev w A env I (.Constant (.str y) k pos) (.str y) :=
  fun B s _ _ i q => Constant_str (q _ B _ (.toks (hc.sub i) (Nat.le_succ _)) (.str y _))
theorem Ev.cint {y : Int} {k : Nat} (hc : Cl w I) : Ev w A env I (.Constant (.int y) k pos) (.int y) :=
  fun B s _ _ i q => wpAny_Constant_int (q _ B _ (.toks (hc.sub i) (Nat.le_succ _)) (.int y _))
theorem Ev.cbool {y : Bool} {k : Nat} (hc : Cl w I) : Ev w A env I (.Constant (.bool y) k pos) (.bool y) :=
  fun B s _ _ i q => wpAny_Constant_bool (q _ B _ (.refl (hc.sub i)) (.bool y))
end

section
variable {w : World} {A : Around} {env : Env} {s₀ : Shared} {B₀ : Sto} {L : Addr} {cl : List (Str × Addr)} {E C : List (Str × D)} {O : Ow} {x : Str} {pos : Pos} {d : D}
theorem Ev.locF (hx : E.lookup x = some d) (hL : env.locals = L := by rfl) (hk : env.scope.kind = .function := by rfl) (hl : env.kindOf x = some .local := by rfl) (hd : (x == ("__debug__" : Str)) = false := by decide) : Ev w A env (FrI w s₀ B₀ L cl E C O) (.Name x pos) d := by
  subst hL
  refine Ev.loc FrI.clo (fun B s F => ?_) hk hl hd
  obtain ⟨m, h1, h2⟩ := F.loc
  obtain ⟨v, h3, h4⟩ := h2 x d hx
  exact ⟨m, v, h1, h3, h4⟩
theorem Ev.celF {c : Addr} (hx : C.lookup x = some d) (hc : cl.lookup x = some c := by rfl) (hL : env.cells = cl := by rfl) (hk : env.scope.kind = .function := by rfl) (hl : env.kindOf x = some .cell := by rfl) (hd : (x == ("__debug__" : Str)) = false := by decide) : Ev w A env (FrI w s₀ B₀ L cl E C O) (.Name x pos) d := by
  subst hL
  refine Ev.cell FrI.clo (fun B s F => ?_) hk hl hd
  obtain ⟨h1, h2, o, v, h3, h4, h5⟩ := F.cel x c hc
  obtain ⟨u, rfl, h6⟩ := h5 d hx
  exact ⟨c, u, hc, ⟨o, h3, h4⟩, h6⟩
theorem Ex.setL {p : Pos} {e : Expr} (h : Ev w A env (FrI w s₀ B₀ L cl E C O) e d) (hL : env.locals = L := by rfl) (hk : env.scope.kind = .function := by rfl) (hl : env.kindOf x = some .local := by rfl) (hs : swapsWith e (some (.Name x p)) pos.line env = pure false := by rfl) :
    Ex w A env (FrI w s₀ B₀ L cl E C O) (.Assign [.Name x p] e pos) (On (FrI w s₀ B₀ L cl ((x, d) :: E) C O)) := by
  intro B s Q R F k
  exact wpAny_Assign_Name (h B s _ _ F fun v B' s' g hv => (FrI.clo.grow F g).store hv (fun s'' F'' => k _ _ B' s'' .next F'' g.le) hL hk hl) hs
theorem Ex.setC {p : Pos} {e : Expr} {c : Addr} (h : Ev w A env (FrI w s₀ B₀ L cl E C O) e d) (hc : cl.lookup x = some c) (inj : ∀ y, cl.lookup y = some c → y = x) (hL : env.cells = cl := by rfl) (hk : env.scope.kind = .function := by rfl) (hl : env.kindOf x = some .cell := by rfl) (hs : swapsWith e (some (.Name x p)) pos.line env = pure false := by rfl) :
    Ex w A env (FrI w s₀ B₀ L cl E C O) (.Assign [.Name x p] e pos) (On (FrI w s₀ B₀ L cl E ((x, d) :: C) O)) := by
  intro B s Q R F k
  exact wpAny_Assign_Name (h B s _ _ F fun v B' s' g hv => (FrI.clo.grow F g).storeC hv (fun s'' F'' => k _ _ B' s'' .next F'' g.le) hL hc inj hk hl) hs
end

/-! calls of the text's defs -/
theorem lookup_append_none {α : Type} {x : Str} : ∀ {l l' : List (Str × α)}, l.lookup x = none → (l ++ l').lookup x = l'.lookup x
  | [], _, _ => rfl
  | (y, v) :: l, l', h => by
    rw [List.lookup_cons] at h
    rw [List.cons_append, List.lookup_cons]
    cases q : x == y with
    | true => rw [q] at h; cases h
    | false => rw [q] at h; exact lookup_append_none h
theorem lookup_append_some {α : Type} {x : Str} {v : α} : ∀ {l l' : List (Str × α)}, l.lookup x = some v → (l ++ l').lookup x = some v
  | (y, u) :: l, l', h => by
    rw [List.lookup_cons] at h
    rw [List.cons_append, List.lookup_cons]
    cases q : x == y with
    | true => rw [q] at h; exact h
    | false => rw [q] at h; exact lookup_append_some h
theorem lookup_none_of {α : Type} {x : Str} : ∀ {l : List (Str × α)}, x ∉ l.map (·.1) → l.lookup x = none
  | [], _ => rfl
  | (y, v) :: l, h => by
    rw [List.lookup_cons]
    have : (x == y) = false := by
      have : x ≠ y := fun e => h (by rw [e]; exact .head _)
      simpa using this
    rw [this]
    exact lookup_none_of fun e => h (.tail _ e)
theorem lookup_reverse {α : Type} {x : Str} {v : α} : ∀ {l : List (Str × α)}, (l.map (·.1)).Nodup → l.lookup x = some v → l.reverse.lookup x = some v
  | (y, u) :: l, hn, h => by
    rw [List.map_cons, List.nodup_cons] at hn
    rw [List.lookup_cons] at h
    rw [List.reverse_cons]
    cases q : x == y with
    | true =>
      rw [q] at h
      have e : x = y := by simpa using q
      subst e
      rw [lookup_append_none (lookup_none_of (by rw [List.map_reverse, List.mem_reverse]; exact hn.1)), List.lookup_cons, q]; exact h
    | false => rw [q] at h; exact lookup_append_some (lookup_reverse hn.2 h)
theorem zip_lookup {B : Sto} {x : Str} {d : D} : ∀ {ns : List Str} {vs : List Value} {ds : List D}, VAll B vs ds → (ns.zip ds).lookup x = some d → ∃ v, (ns.zip vs).lookup x = some v ∧ V B v d
  | [], _, _, _, h => by cases h
  | n :: ns, _, _, .nil, h => by cases h
  | n :: ns, _, _, .cons (v := v) (d := d') a r, h => by
    rw [List.zip_cons_cons, List.lookup_cons] at h
    rw [List.zip_cons_cons, List.lookup_cons]
    cases q : x == n with
    | true => rw [q] at h; cases h; exact ⟨v, rfl, a⟩
    | false => rw [q] at h; exact zip_lookup r h
def Done (d : D) (s₀ : Shared) (B₀ : Sto) : Fl → Sto → Shared → Prop := fun fl B s => fl = .ret d ∧ Grow B₀ s₀ B s
theorem zip_keys {α β γ : Type} : ∀ (ns : List α) (l : List β) (l' : List γ), l.length = l'.length → (ns.zip l).map (·.1) = (ns.zip l').map (·.1)
  | [], _, _, _ => rfl
  | _ :: _, [], [], _ => rfl
  | n :: ns, _ :: l, _ :: l', h => by rw [List.zip_cons_cons, List.zip_cons_cons, List.map_cons, List.map_cons, zip_keys ns l l' (by simpa using h)]
theorem Fn.intro {w : World} {k : Nat} {f : Addr} {args : List D} {d : D} {name qual : Str} {params : Arguments} {body : List Stmt} {scope : Scope} {dV kV doc pm cdv ct oc : Value} {an od : Option Addr} {osl : Array (Option Value)} (ns : List Str)
    (ho : (KK w).lookup f = some ⟨oc, od, .func (fnOf name qual params body scope dV kV doc pm an cdv ct), osl⟩) (hcd : codeIn (KK w) cdv qual = true)
    (hb : ∀ vs : List Value, vs.length = args.length → bindArgs (fnOf name qual params body scope dV kV doc pm an cdv ct) ⟨vs, []⟩ = pure (ns.zip vs)) (hnd : ns.Nodup) (hlen : ns.length = args.length)
    (hloc : ∀ x ∈ ns, scope.names.lookup x = some .local) (hcell : ∀ x ∈ scope.names, x.2 ≠ .cell)
    (h : ∀ (A : Around) (s₀ : Shared) (B₀ : Sto) (L : Addr), Rm k A → Exs w A (envOf qual scope L f cdv) (FrI w s₀ B₀ L [] (ns.zip args) [] Ow.nil) body (Done d s₀ B₀))
    (hco : scope.isCoroutine = false := by rfl) (hgen : scope.isGenerator = false := by rfl) (hk : scope.kind = .function := by rfl) : Fn w (k + 1) f args d := by
  intro A B s vs Q E rm g sb hv q
  refine wpAny_call (codeAny_call_def (fd := fnOf name qual params body scope dV kV doc pm an cdv ct) (body := body) (binds := ns.zip vs) rm.room (g.K _ _ ho) rfl g.lim (codeRec_of g.K hcd) rfl (.of_eq (hb vs hv.length)) hcell ?_ (fun h₁ hn hk₁ => ?_) hco hgen hk)
  · intro x hx
    exact hloc x.1 (by rw [← List.map_fst_zip (l₁ := ns) (l₂ := vs) (by rw [hlen, hv.length]; exact Nat.le_refl _)]; exact List.mem_map_of_mem hx)
  · refine h _ s B s.heap.objs.size rm.deeper B _ _ _ ?_ ?_
    · have kp : Keeps s { s with heap := h₁, toks := s.toks + (ns.zip vs).length } := ⟨h₁, _, rfl, hk₁⟩
      refine ⟨g, kp, Nat.le_add_right _ _, sb.keeps kp, Le.refl B, fun _ _ e => .inl e, fresh_size _, sb.none (fresh_size _), ⟨_, hn, fun x d' e => ?_⟩, (fun x c hc => by cases hc), trivial, (fun a ha => nomatch ha), List.nodup_nil⟩
      obtain ⟨v, h1, h2⟩ := zip_lookup (vs := vs) hv e
      exact ⟨v, lookup_reverse (by rw [List.map_fst_zip (by rw [hlen, hv.length]; exact Nat.le_refl _)]; exact hnd) h1, h2⟩
    · intro fl f' B' s' hf hd le
      obtain ⟨rfl, gr⟩ := hd
      cases hf with
      | ret hv' => exact q _ _ _ gr hv'
/-- a call of such a def in the text -/
theorem Ev.call {w : World} {A : Around} {env : Env} {I : Sto → Shared → Prop} {k : Nat} {f : Addr} {x : Str} {p pos : Pos} {e : Expr} {es : List Expr} {ds : List D} {d : D} {o : Obj} {fd : FuncData} (hc : Cl w I) (rm : Rm k A) (fn : Fn w k f ds d)
    (hn : Ev w A env I (.Name x p) (.val (.ref f))) (ho : (KK w).lookup f = some o) (hd : o.data = .func fd) (ha : Evs w A env I pos (e :: es) ds) (he : starEach (e :: es) env = (false, eval e env) :: starEach es env := by rfl) : Ev w A env I (.Call (.Name x p) (e :: es) [] pos) d := by
  intro B s Q E i q
  refine wpAny_Call_NameR (hn B s _ _ i fun v B' s' g hv => ?_)
  cases hv
  refine callWith_def (o := o) (fd := fd) hd (ha B' s' _ _ (hc.grow i g) fun vs B'' s'' g' hvs => ?_) he
  have i'' := hc.grow (hc.grow i g) g'
  exact ⟨(hc.gd i'').K _ _ ho, fn A B'' s'' vs Q E rm (hc.gd i'') (hc.sub i'') hvs fun v B₃ s₃ g₃ hv => q v B₃ s₃ (g.trans (g'.trans g₃)) hv⟩
theorem Evs.nil {w : World} {A : Around} {env : Env} {I : Sto → Shared → Prop} {pos : Pos} (hc : Cl w I) : Evs w A env I pos [] [] :=
  fun B s _ _ i k => args_nil (k _ B s (.refl (hc.sub i)) .nil)
theorem Evs.cons {w : World} {A : Around} {env : Env} {I : Sto → Shared → Prop} {pos : Pos} {e : Expr} {es : List Expr} {d : D} {ds : List D} (hc : Cl w I) (h : Ev w A env I e d) (t : Evs w A env I pos es ds) (he : starEach (e :: es) env = (false, eval e env) :: starEach es env := by rfl) : Evs w A env I pos (e :: es) (d :: ds) := by
  intro B s Q E i k
  refine args_cons (h B s _ _ i fun v B' s' g hv => t B' s' _ _ (hc.grow i g) fun vs B'' s'' g' hvs => k _ B'' s'' (g.trans g') (.cons (hv.mono g'.le) hvs)) he
end Mine
end
section
open PySem PySem.W PySem.Spec PySem.Calls PyProof.Rows
set_option maxRecDepth 100000
namespace Mine

section
variable (w : World) (A : Around)
def Bin (op : Operator) (d1 d2 d : D) : Prop := ∀ (B : Sto) (s : Shared) (v1 v2 : Value) (Q E : Value → Shared → Prop), Gd w s → Sub B s.heap → V B v1 d1 → V B v2 d2 →
  (∀ v B' s', Grow0 B s B' s' → V B' v d → Q v s') → wpAny (MM w) A (binaryOp op v1 v2) Q E s
def Cmp (op : CmpOp) (d1 d2 : D) (b : Bool) : Prop := ∀ (B : Sto) (s : Shared) (v1 v2 : Value) (Q E : Value → Shared → Prop), Gd w s → Sub B s.heap → V B v1 d1 → V B v2 d2 →
  (∀ s', Keeps s s' → Q (.bool b) s') → wpAny (MM w) A (compareOp op v1 v2) Q E s
def Tru (d : D) (b : Bool) : Prop := ∀ (B : Sto) (s : Shared) (v : Value) (Q : Bool → Shared → Prop) (E : Value → Shared → Prop), Gd w s → Sub B s.heap → V B v d →
  (∀ s', Keeps s s' → Q b s') → wpAny (MM w) A (truthy v) Q E s
/-- a built-in called with such data gives this datum -/
def Blt (f : Value) (ds : List D) (d : D) : Prop := ∀ (B : Sto) (s : Shared) (vs : List Value) (Q E : Value → Shared → Prop), Gd w s → Sub B s.heap → VAll B vs ds →
  (∀ v B' s', Grow0 B s B' s' → V B' v d → Q v s') → wpAny (MM w) A (call f vs) Q E s
end

section
variable {w : World} {A : Around} {env : Env} {I : Sto → Shared → Prop} {l r e test body orelse : Expr} {op : Operator} {cop : CmpOp} {pos : Pos} {d d1 d2 : D} {b b1 b2 : Bool}
theorem Ev.bin (hc : Cl w I) (h1 : Ev w A env I l d1) (h2 : Ev w A env I r d2) (p : Bin w A op d1 d2 d) : Ev w A env I (.BinOp l op r pos) d := by
  intro B s Q E i k
  refine wpAny_BinOp (h1 B s _ _ i fun v1 B1 s1 g1 hv1 => h2 B1 s1 _ _ (hc.grow i g1) fun v2 B2 s2 g2 hv2 => ?_)
  have i2 := hc.grow (hc.grow i g1) g2
  exact wp0 (P := fun B v => V B v d) (fun v B' s' g hv => k v B' s' (g1.trans (g2.trans g)) hv) fun Q' E' k' => p B2 s2 v1 v2 Q' E' (hc.gd i2) (hc.sub i2) (hv1.mono g2.le) hv2 k'
theorem Ev.cmp (hc : Cl w I) (h1 : Ev w A env I l d1) (h2 : Ev w A env I r d2) (p : Cmp w A cop d1 d2 b) (hm : behindInMarks cop r = false := by with_unfolding_all rfl) : Ev w A env I (.Compare l [cop] [r] pos) (.bool b) := by
  intro B s Q E i k
  refine wpAny_Compare1 (h1 B s _ _ i fun v1 B1 s1 g1 hv1 => h2 B1 s1 _ _ (hc.grow i g1) fun v2 B2 s2 g2 hv2 => ?_) hm
  have i2 := hc.grow (hc.grow i g1) g2
  exact wp0 (P := fun B v => V B v (.bool b)) (fun v B' s' g hv => k v B' s' (g1.trans (g2.trans g)) hv) fun Q' E' k' => p B2 s2 v1 v2 Q' E' (hc.gd i2) (hc.sub i2) (hv1.mono g2.le) hv2 fun s' kp => k' _ B2 s' (.of_keeps (hc.sub i2) kp) (.bool b)
theorem Tr.cmp (hc : Cl w I) (h1 : Ev w A env I l d1) (h2 : Ev w A env I r d2) (p : Cmp w A cop d1 d2 b) (hm : behindInMarks cop r = false := by with_unfolding_all rfl) : Tr w A env I (.Compare l [cop] [r] pos) b := by
  intro B s Q E i k
  refine wpAny_isTrue_Compare1 (h1 B s _ _ i fun v1 B1 s1 g1 hv1 => h2 B1 s1 _ _ (hc.grow i g1) fun v2 B2 s2 g2 hv2 => ?_) hm
  have i2 := hc.grow (hc.grow i g1) g2
  refine wpAny_with_toks (Nat.le_refl s2.toks) (p B2 s2 v1 v2 _ _ (hc.gd i2) (hc.sub i2) (hv1.mono g2.le) hv2 fun s' kp tk => ?_)
  exact wpAny_truthy_bool (k B2 s' (g1.trans (g2.trans (.of_keeps (hc.sub i2) kp tk))))
theorem Tr.val (hc : Cl w I) (h : Ev w A env I e d) (t : Tru w A d b) (he : ∀ whole, isTrue e env whole = (do let v ← whole; standAt e.pos; holding [v] (truthy v)) := by intro _; rfl) : Tr w A env I e b := by
  intro B s Q E i k
  refine wpAny_isTrue_value (h B s _ _ i fun v B1 s1 g1 hv => ?_) (he _)
  have i1 := hc.grow i g1
  refine wpAny_with_toks (Nat.le_refl s1.toks) (t B1 s1 v _ _ (hc.gd i1) (hc.sub i1) hv fun s' kp tk => ?_)
  exact k B1 s' (g1.trans (.of_keeps (hc.sub i1) kp tk))
theorem Tr.not (h : Tr w A env I e b) : Tr w A env I (.UnaryOp .Not e pos) (!b) := fun B s Q E i k => wpAny_isTrue_Not (h B s _ _ i k)
theorem Tr.or (hc : Cl w I) (h1 : Tr w A env I l b1) (h2 : b1 = false → Tr w A env I r b2) : Tr w A env I (.BoolOp .Or [l, r] pos) (b1 || b2) := by
  intro B s Q E i k
  refine wpAny_isTrue_BoolOp (wpAny_allTrue_Or_cons (h1 B s _ _ i fun B1 s1 g1 => ?_))
  cases b1 with
  | true => exact k B1 s1 g1
  | false =>
    refine wpAny_allTrue_Or_cons (h2 rfl B1 s1 _ _ (hc.grow i g1) fun B2 s2 g2 => ?_)
    cases b2 with
    | true => exact k B2 s2 (g1.trans g2)
    | false => exact wpAny_allTrue_Or_nil (k B2 s2 (g1.trans g2))
theorem Tr.and (hc : Cl w I) (h1 : Tr w A env I l b1) (h2 : b1 = true → Tr w A env I r b2) : Tr w A env I (.BoolOp .And [l, r] pos) (b1 && b2) := by
  intro B s Q E i k
  refine wpAny_isTrue_BoolOp (wpAny_allTrue_And_cons (h1 B s _ _ i fun B1 s1 g1 => ?_))
  cases b1 with
  | false => exact k B1 s1 g1
  | true =>
    refine wpAny_allTrue_And_cons (h2 rfl B1 s1 _ _ (hc.grow i g1) fun B2 s2 g2 => ?_)
    cases b2 with
    | false => exact k B2 s2 (g1.trans g2)
    | true => exact wpAny_allTrue_And_nil (k B2 s2 (g1.trans g2))
theorem Ev.ite (hc : Cl w I) (t : Tr w A env I test b) (h : Ev w A env I (if b then body else orelse) d) : Ev w A env I (.IfExp test body orelse pos) d := by
  intro B s Q E i k
  refine wpAny_IfExp (t B s _ _ i fun B1 s1 g1 => ?_)
  have := h B1 s1 Q E (hc.grow i g1) fun v B2 s2 g2 hv => k v B2 s2 (g1.trans g2) hv
  cases b <;> exact this
theorem evalArgs_any {M : Model} {f : Value} {args : List (Bool × Sem Value)} {Q : Args → Shared → Prop} {E : Value → Shared → Prop} {s : Shared} (hst : args.any (·.1) = false)
    (h : wpAny M A (spliced args) (fun vs s₁ => Q ⟨vs, []⟩ s₁) E s) : wpAny M A (evalArgs f true args []) Q E s := by
  cases args with
  | nil =>
    unfold evalArgs
    first
      | exact wpAny_mono h (fun _ _ x => x) fun _ _ x => x
      | exact wpAny_bind (wpAny_mono h (fun vs s' h' => wpAny_holding (wpAny_bind (wpAny_pure (wpAny_bind (wpAny_pure (wpAny_pure h')))))) fun _ _ x => x)
  | cons p r =>
    obtain ⟨b, t⟩ := p
    cases b with
    | true => simp at hst
    | false => exact Calls.evalArgs_plain h
/-- a built-in by its name -/
theorem Ev.bltCall {x : Str} {p : Pos} {id : String} {es : List Expr} {ds : List D} (hc : Cl w I) (hn : Ev w A env I (.Name x p) (.val (.builtin id))) (ha : Evs w A env I pos es ds) (f : Blt w A (.builtin id) ds d) (hst : ((backTo pos (starEach es env)).any (·.1)) = false := by rfl) :
    Ev w A env I (.Call (.Name x p) es [] pos) d := by
  intro B s Q E i k
  refine wpAny_Call_NameR (hn B s _ _ i fun v B1 s1 g1 hv => ?_)
  cases hv
  refine Calls.callWith_builtin hst (evalArgs_any hst (ha B1 s1 _ _ (hc.grow i g1) fun vs B2 s2 g2 hvs => ?_))
  have i2 := hc.grow (hc.grow i g1) g2
  exact wp0 (P := fun B v => V B v d) (fun v B' s' g hv => k v B' s' (g1.trans (g2.trans g)) hv) fun Q' E' k' => f B2 s2 vs Q' E' (hc.gd i2) (hc.sub i2) hvs k'
theorem Ev.tyCall {x : Str} {p : Pos} {T : String} {es : List Expr} {ds : List D} (hc : Cl w I) (hn : Ev w A env I (.Name x p) (.val (.type T))) (ha : Evs w A env I pos es ds) (f : Blt w A (.type T) ds d) (hst : ((backTo pos (starEach es env)).any (·.1)) = false := by rfl) :
    Ev w A env I (.Call (.Name x p) es [] pos) d := by
  intro B s Q E i k
  refine wpAny_Call_NameR (hn B s _ _ i fun v B1 s1 g1 hv => ?_)
  cases hv
  refine PySem.callWith_type hst (evalArgs_any hst (ha B1 s1 _ _ (hc.grow i g1) fun vs B2 s2 g2 hvs => ?_))
  have i2 := hc.grow (hc.grow i g1) g2
  exact wp0 (P := fun B v => V B v d) (fun v B' s' g hv => k v B' s' (g1.trans (g2.trans g)) hv) fun Q' E' k' => f B2 s2 vs Q' E' (hc.gd i2) (hc.sub i2) hvs k'
/-- a method -/
def GetM (w : World) (A : Around) (d0 : D) (name : Str) (id : String) : Prop := ∀ (B : Sto) (s : Shared) (v : Value) (pl : Sem Bool) (Q : Value × List Value → Shared → Prop) (E : Value → Shared → Prop),
  Sub B s.heap → V B v d0 → Q (.builtin id, [v]) s → wpAny (MM w) A (getMethod v name pl) Q E s
theorem Ev.meth {o : Expr} {name : Str} {apos : Pos} {id : String} {es : List Expr} {d0 : D} {ds : List D} {pl : Sem Bool} (hc : Cl w I) (h : Ev w A env I o d0) (gm : GetM w A d0 name id) (ha : Evs w A env I pos es ds) (f : Blt w A (.builtin id) (d0 :: ds) d)
    (hst : ((backTo pos (starEach es env)).any (·.1)) = false := by rfl)
    (he : eval (.Call (.Attribute o name apos) es [] pos) env = (do
      let ov ← eval o env
      standAt apos.atName
      let (f, first) ← holding [ov] (getMethod ov name pl)
      callWith pos f first (backTo pos (starEach es env)) []) := by rfl) : Ev w A env I (.Call (.Attribute o name apos) es [] pos) d := by
  intro B s Q E i k
  refine MethodCall_ (pl := pl) (h B s _ _ i fun v B1 s1 g1 hv => gm B1 s1 v pl _ _ g1.sub hv ?_) he
  refine Calls.callWith_builtin hst (evalArgs_any hst (ha B1 s1 _ _ (hc.grow i g1) fun vs B2 s2 g2 hvs => ?_))
  have i2 := hc.grow (hc.grow i g1) g2
  exact wp0 (P := fun B v => V B v d) (fun v B' s' g hv => k v B' s' (g1.trans (g2.trans g)) hv) fun Q' E' k' => f B2 s2 (v :: vs) Q' E' (hc.gd i2) (hc.sub i2) (.cons (hv.mono g2.le) hvs) k'
end

/-! primitives: ints, bools, texts -/
section
variable {w : World} {A : Around}
theorem Bin.add {i j : Int} : Bin w A .Add (.int i) (.int j) (.int (i + j)) := by
  intro B s v1 v2 Q E g sb h1 h2 k
  obtain ⟨t, rfl⟩ := h1.inv_int; obtain ⟨u, rfl⟩ := h2.inv_int
  exact add_int (k _ B _ (.toks sb) (.int _ _))
theorem Bin.sub {i j : Int} : Bin w A .Sub (.int i) (.int j) (.int (i - j)) := by
  intro B s v1 v2 Q E g sb h1 h2 k
  obtain ⟨t, rfl⟩ := h1.inv_int; obtain ⟨u, rfl⟩ := h2.inv_int
  exact sub_int (k _ B _ (.toks sb) (.int _ _))
theorem Bin.fdiv {i j : Int} (hj : j ≠ 0) (hp : j.natAbs < 1073741824) : Bin w A .FloorDiv (.int i) (.int j) (.int (Int.fdiv i j)) := by
  intro B s v1 v2 Q E g sb h1 h2 k
  obtain ⟨t, rfl⟩ := h1.inv_int; obtain ⟨u, rfl⟩ := h2.inv_int
  exact floordiv_int hj (k _ B _ (.toks sb) (.int _ _)) (.inl (PyProof.noPylong_small hp))
theorem Bin.fmod {i j : Int} (hj : j ≠ 0) : Bin w A .Mod (.int i) (.int j) (.int (Int.fmod i j)) := by
  intro B s v1 v2 Q E g sb h1 h2 k
  obtain ⟨t, rfl⟩ := h1.inv_int; obtain ⟨u, rfl⟩ := h2.inv_int
  exact mod_int hj (k _ B _ (.toks sb) (.int _ _))
theorem Bin.subB {i j : Bool} : Bin w A .Sub (.bool i) (.bool j) (.int (b2i i - b2i j)) := by
  intro B s v1 v2 Q E g sb h1 h2 k
  cases h1.inv_bool; cases h2.inv_bool
  exact sub_bool (k _ B _ (.toks sb) (.int _ _))
theorem Bin.addS {x y : Str} (h : x.length + y.length ≤ sizeLine) : Bin w A .Add (.str x) (.str y) (.str (x ++ y)) := by
  intro B s v1 v2 Q E g sb h1 h2 k
  obtain ⟨t, rfl⟩ := h1.inv_str; obtain ⟨u, rfl⟩ := h2.inv_str
  exact SB.add (fun _ _ => k _ B _ (.toks sb) (.str _ _)) h
theorem Cmp.eqS {x y : Str} : Cmp w A .Eq (.str x) (.str y) (x == y) := by
  intro B s v1 v2 Q E g sb h1 h2 k
  obtain ⟨t, rfl⟩ := h1.inv_str; obtain ⟨u, rfl⟩ := h2.inv_str
  exact PyProof.Rows.eq_str (k s (krefl s))
theorem Cmp.neS {x y : Str} : Cmp w A .NotEq (.str x) (.str y) (x != y) := by
  intro B s v1 v2 Q E g sb h1 h2 k
  obtain ⟨t, rfl⟩ := h1.inv_str; obtain ⟨u, rfl⟩ := h2.inv_str
  exact PyProof.Rows.ne_str (k s (krefl s))
theorem Cmp.ltS {x y : Str} : Cmp w A .Lt (.str x) (.str y) (decide (x.cps.toList < y.cps.toList)) := by
  intro B s v1 v2 Q E g sb h1 h2 k
  obtain ⟨t, rfl⟩ := h1.inv_str; obtain ⟨u, rfl⟩ := h2.inv_str
  exact PyProof.Rows.lt_str (k s (krefl s))
theorem Cmp.gtS {x y : Str} : Cmp w A .Gt (.str x) (.str y) (decide (y.cps.toList < x.cps.toList)) := by
  intro B s v1 v2 Q E g sb h1 h2 k
  obtain ⟨t, rfl⟩ := h1.inv_str; obtain ⟨u, rfl⟩ := h2.inv_str
  exact P.gt_str (k s (krefl s))
theorem Cmp.eqI {x y : Int} : Cmp w A .Eq (.int x) (.int y) (decide (x = y)) := by
  intro B s v1 v2 Q E g sb h1 h2 k
  obtain ⟨t, rfl⟩ := h1.inv_int; obtain ⟨u, rfl⟩ := h2.inv_int
  exact PyProof.Rows.eq_int (k s (krefl s))
theorem Cmp.gtI {x y : Int} : Cmp w A .Gt (.int x) (.int y) (decide (x > y)) := by
  intro B s v1 v2 Q E g sb h1 h2 k
  obtain ⟨t, rfl⟩ := h1.inv_int; obtain ⟨u, rfl⟩ := h2.inv_int
  exact gt_int (k s (krefl s))
theorem Cmp.ltI {x y : Int} : Cmp w A .Lt (.int x) (.int y) (decide (x < y)) := by
  intro B s v1 v2 Q E g sb h1 h2 k
  obtain ⟨t, rfl⟩ := h1.inv_int; obtain ⟨u, rfl⟩ := h2.inv_int
  exact PyProof.Rows.lt_int (k s (krefl s))
theorem Cmp.geI {x y : Int} : Cmp w A .GtE (.int x) (.int y) (decide (x ≥ y)) := by
  intro B s v1 v2 Q E g sb h1 h2 k
  obtain ⟨t, rfl⟩ := h1.inv_int; obtain ⟨u, rfl⟩ := h2.inv_int
  exact ge_int (k s (krefl s))
theorem Tru.bool {b : Bool} : Tru w A (.bool b) b := by
  intro B s v Q E g sb h k
  cases h.inv_bool
  exact wpAny_truthy_bool (k s (krefl s))
theorem Tru.str {x : Str} (h : x.length < 2 ^ 24) : Tru w A (.str x) (x.length != 0) := by
  intro B s v Q E g sb hv k
  obtain ⟨t, rfl⟩ := hv.inv_str
  refine SBL.truthy (by have : (2 : Nat) ^ 24 = 16777216 := by decide
                        omega) ?_
  have e : ((x.length : Int) != 0) = (x.length != 0) := by
    cases x.length with
    | zero => rfl
    | succ n => simp; omega
  rw [e]
  exact k _ ⟨s.heap, _, rfl, fun _ _ e => e⟩
/-! methods of texts -/
theorem GetM.upper {x : Str} : GetM w A (.str x) "upper" "str.upper" := fun _ _ _ _ _ _ _ hv q => by obtain ⟨t, rfl⟩ := hv.inv_str; with_reducible exact GM.upper q
theorem GetM.lower {x : Str} : GetM w A (.str x) "lower" "str.lower" := fun _ _ _ _ _ _ _ hv q => by obtain ⟨t, rfl⟩ := hv.inv_str; with_reducible exact GM.lower q
theorem GetM.count {x : Str} : GetM w A (.str x) "count" "str.count" := fun _ _ _ _ _ _ _ hv q => by obtain ⟨t, rfl⟩ := hv.inv_str; with_reducible exact GM.count q
theorem GetM.startswith {x : Str} : GetM w A (.str x) "startswith" "str.startswith" := fun _ _ _ _ _ _ _ hv q => by obtain ⟨t, rfl⟩ := hv.inv_str; with_reducible exact GM.startswith q
theorem GetM.endswith {x : Str} : GetM w A (.str x) "endswith" "str.endswith" := fun _ _ _ _ _ _ _ hv q => by obtain ⟨t, rfl⟩ := hv.inv_str; with_reducible exact GM.endswith q
theorem GetM.rfind {x : Str} : GetM w A (.str x) "rfind" "str.rfind" := fun _ _ _ _ _ _ _ hv q => by obtain ⟨t, rfl⟩ := hv.inv_str; with_reducible exact GM.rfind q
theorem GetM.split {x : Str} : GetM w A (.str x) "split" "str.split" := fun _ _ _ _ _ _ _ hv q => by obtain ⟨t, rfl⟩ := hv.inv_str; with_reducible exact GM.split q
theorem GetM.join {x : Str} : GetM w A (.str x) "join" "str.join" := fun _ _ _ _ _ _ _ hv q => by obtain ⟨t, rfl⟩ := hv.inv_str; with_reducible exact GM.join q
theorem GetM.replace {x : Str} : GetM w A (.str x) "replace" "str.replace" := fun _ _ _ _ _ _ _ hv q => by obtain ⟨t, rfl⟩ := hv.inv_str; with_reducible exact GM.replace q
theorem Blt.count {x y : Str} : Blt w A (.builtin "str.count") [.str x, .str y] (.int (Txt.count x y)) := by
  intro B s vs Q E g sb h k
  cases h with | cons h1 h => cases h with | cons h2 h => cases h
                                                          obtain ⟨t, rfl⟩ := h1.inv_str; obtain ⟨u, rfl⟩ := h2.inv_str
                                                          exact SC.count (k _ B _ (.toks sb) (.int _ _))
theorem Blt.rfind {x y : Str} : Blt w A (.builtin "str.rfind") [.str x, .str y] (.int (Txt.rfind x y)) := by
  intro B s vs Q E g sb h k
  cases h with | cons h1 h => cases h with | cons h2 h => cases h
                                                          obtain ⟨t, rfl⟩ := h1.inv_str; obtain ⟨u, rfl⟩ := h2.inv_str
                                                          exact SC.rfind (k _ B _ (.toks sb) (.int _ _))
theorem Blt.startswith {x y : Str} : Blt w A (.builtin "str.startswith") [.str x, .str y] (.bool (Txt.startswith x y)) := by
  intro B s vs Q E g sb h k
  cases h with | cons h1 h => cases h with | cons h2 h => cases h
                                                          obtain ⟨t, rfl⟩ := h1.inv_str; obtain ⟨u, rfl⟩ := h2.inv_str
                                                          exact SC.startswith (k _ B _ (.of_keeps sb (krefl s)) (.bool _))
theorem Blt.endswith {x y : Str} : Blt w A (.builtin "str.endswith") [.str x, .str y] (.bool (Txt.endswith x y)) := by
  intro B s vs Q E g sb h k
  cases h with | cons h1 h => cases h with | cons h2 h => cases h
                                                          obtain ⟨t, rfl⟩ := h1.inv_str; obtain ⟨u, rfl⟩ := h2.inv_str
                                                          exact SC.endswith (k _ B _ (.of_keeps sb (krefl s)) (.bool _))
theorem Blt.upper {x : Str} (hx : x.length ≤ 5592405) : Blt w A (.builtin "str.upper") [.str x] (.str (Txt.upper x)) := by
  intro B s vs Q E g sb h k
  cases h with | cons h1 h => cases h
                              obtain ⟨t, rfl⟩ := h1.inv_str
                              exact SCL.upper hx (fun _ => k _ B _ (.toks sb) (.str _ _))
theorem Blt.lower {x : Str} (hx : x.length ≤ 5592405) : Blt w A (.builtin "str.lower") [.str x] (.str (Txt.lower x)) := by
  intro B s vs Q E g sb h k
  cases h with | cons h1 h => cases h
                              obtain ⟨t, rfl⟩ := h1.inv_str
                              exact SCL.lower hx (fun _ => k _ B _ (.toks sb) (.str _ _))
end

end Mine
end
section
open PySem PySem.W PySem.Spec PySem.Calls PyProof.Rows
set_option maxRecDepth 100000
namespace Mine
/-! _law_depth -/
def depth (x : Str) : Int := if x == Str.ofString "/" then 0 else Txt.count x (Str.ofString "/")
set_option maxHeartbeats 1000000 in
theorem depth_fn (w : World) (x : Str) : Fn w 1 184 [.str x] (.int (depth x)) := by
  refine Fn.intro [Str.ofString "path"] rfl (by kernel_rfl) (fun vs h => ?_) (by decide) rfl (by decide) (by decide) ?_
  · match vs, h with
    | [v], _ => rfl
  · intro A s₀ B₀ L rm
    have hc := FrI.clo (w := w) (s₀ := s₀) (B₀ := B₀) (L := L) (cl := []) (E := [(Str.ofString "path", D.str x)]) (C := []) (O := Ow.nil)
    refine .if1 hc (.cmp hc (.locF rfl) (.cstr hc) .eqS) (fun h => ?_) fun h => ?_
    · have e : depth x = 0 := if_pos h
      exact .ret hc (.cint hc) fun B s F => ⟨(by intro q; cases q), by rw [e], F.done⟩
    · have e : depth x = Txt.count x (Str.ofString "/") := if_neg (by rw [h]; exact Bool.false_ne_true)
      exact .ret hc (.meth hc (.locF rfl) .count (.cons hc (.cstr hc) (.nil hc)) .count) fun B s F => ⟨e ▸ rfl, F.done⟩
end Mine
end
section
open PySem PySem.W PySem.Spec PySem.Calls PyProof.Rows
set_option maxRecDepth 100000
namespace Mine

/-! items -/
section
variable {w : World} {A : Around} {env : Env} {I : Sto → Shared → Prop} {value slice : Expr} {pos : Pos} {d dv di : D}
def Itm (w : World) (A : Around) (dv di d : D) : Prop := ∀ (B : Sto) (s : Shared) (v i : Value) (Q E : Value → Shared → Prop), Gd w s → Sub B s.heap → V B v dv → V B i di →
  (∀ x B' s', Grow0 B s B' s' → V B' x d → Q x s') → ∃ T id : String, s.TypeIs v T ∧ typeLookup (.type T) "__getitem__" = pure (some (.builtin id)) ∧ wpAny (MM w) A (getItem v i) Q E s
theorem Ev.itm (hc : Cl w I) (h1 : Ev w A env I value dv) (h2 : Ev w A env I slice di) (p : Itm w A dv di d) (hs : ∀ o i, subscripted slice false o i = operate [o, i] (getItem o i) := by intro _ _; with_unfolding_all rfl) : Ev w A env I (.Subscript value slice pos) d := by
  intro B s Q E i k
  refine Subscript_ (h1 B s _ _ i fun v1 B1 s1 g1 hv1 => h2 B1 s1 _ _ (hc.grow i g1) fun v2 B2 s2 g2 hv2 => ?_)
  have i2 := hc.grow (hc.grow i g1) g2
  refine wp0 (P := fun B v => V B v d) (fun v B' s' g hv => k v B' s' (g1.trans (g2.trans g)) hv) fun Q' E' k' => ?_
  obtain ⟨T, id, hT, hl, hg⟩ := p B2 s2 v1 v2 Q' E' (hc.gd i2) (hc.sub i2) (hv1.mono g2.le) hv2 k'
  exact tail_any hT hl hg (hs v1 v2)
theorem isList_of {h : Heap} {a : Addr} {vs : List Value} {n : Nat} (e : h.get? a = some (lstObj vs n)) : h.IsList a vs.toArray := ⟨_, e, rfl, n, rfl⟩
theorem isTup_of {h : Heap} {a : Addr} {vs : List Value} {n : Nat} (e : h.get? a = some (tupObj vs n)) : IsTup h a vs.toArray := ⟨_, e, rfl, n, rfl⟩
theorem Itm.lst {ds : List D} {k : Int} (h0 : 0 ≤ k) (hf : k < 2 ^ 63) (hk : ds[k.toNat]? = some d) : Itm w A (.lst ds) (.int k) d := by
  intro B s v i Q E g sb hv hi q
  obtain ⟨a, vs, n, rfl, ha, hvs⟩ := hv.inv_lst
  obtain ⟨t, rfl⟩ := hi.inv_int
  obtain ⟨x, hx, hxd⟩ := hvs.get hk
  have hl := isList_of (sb _ _ ha)
  exact ⟨"list", _, hl.typeIs, slot_list_getitem.lookup, wpAny_getItem_list hl h0 hf (by simpa using hx) (q x B s (.of_keeps sb (krefl s)) hxd)⟩
theorem Itm.lstN {ds : List D} {k : Int} (h0 : k < 0) (h1 : -(ds.length : Int) ≤ k) (hf : -(2 ^ 63) ≤ k) (hk : ds[(k + ds.length).toNat]? = some d) : Itm w A (.lst ds) (.int k) d := by
  intro B s v i Q E g sb hv hi q
  obtain ⟨a, vs, n, rfl, ha, hvs⟩ := hv.inv_lst
  obtain ⟨t, rfl⟩ := hi.inv_int
  have hlen := hvs.length
  obtain ⟨x, hx, hxd⟩ := hvs.get hk
  have hl := isList_of (sb _ _ ha)
  exact ⟨"list", _, hl.typeIs, slot_list_getitem.lookup, wpAny_getItem_list_neg hl h0 (by simpa [hlen] using h1) hf (by simpa [hlen] using hx) (q x B s (.of_keeps sb (krefl s)) hxd)⟩
theorem Itm.tup {ds : List D} {k : Int} (h0 : 0 ≤ k) (hf : k < 2 ^ 63) (hk : ds[k.toNat]? = some d) : Itm w A (.tup ds) (.int k) d := by
  intro B s v i Q E g sb hv hi q
  obtain ⟨a, vs, n, rfl, ha, hvs⟩ := hv.inv_tup
  obtain ⟨t, rfl⟩ := hi.inv_int
  obtain ⟨x, hx, hxd⟩ := hvs.get hk
  have hl := isTup_of (sb _ _ ha)
  have hlt : k.toNat < vs.length := by
    have := List.getElem?_eq_some_iff.mp hx
    exact this.1
  have hj : seqIndex? k vs.toArray.size = some k.toNat := by
    have e1 : ¬ k < 0 := by omega
    have e2 : k < (vs.length : Int) := by omega
    simp [seqIndex?, e1, e2, h0]
  exact ⟨"tuple", _, hl.typeIs, slot_tuple_getitem.lookup, getItem_tuple hl (by omega) hf hj (by simpa using hx) (q x B s (.of_keeps sb (krefl s)) hxd)⟩
theorem Itm.str {x : Str} {k : Int} (hr : fitsSsize k = true) (h1 : -(x.length : Int) ≤ k) (h2 : k < x.length) : Itm w A (.str x) (.int k) (.str (Txt.item x k)) := by
  intro B s v i Q E g sb hv hi q
  obtain ⟨t, rfl⟩ := hv.inv_str
  obtain ⟨u, rfl⟩ := hi.inv_int
  exact ⟨"str", _, typeIs_str _ _ _, F.slot_str_getitem.lookup, SB.getItem hr (charAt_isSome h1 h2) (q _ B _ (.toks sb) (.str _ _))⟩
end

/-! slices -/
def pickL {α : Type} (l : List α) (lo hi st : Option Int) : List α :=
  (sliceRange (sliceBounds lo hi st l.length).1 (sliceBounds lo hi st l.length).2.1 (sliceBounds lo hi st l.length).2.2).filterMap (l[·]?)
theorem pick_eq (vs : List Value) (lo hi st : Option Int) : slicePick vs.toArray lo hi st = (pickL vs lo hi st).toArray := by
  unfold slicePick pickL
  simp
theorem VAll.idx {B : Sto} {vs : List Value} {ds : List D} (h : VAll B vs ds) : ∀ (js : List Nat), VAll B (js.filterMap (vs[·]?)) (js.filterMap (ds[·]?))
  | [] => .nil
  | j :: js => by
    rw [List.filterMap_cons, List.filterMap_cons]
    cases hj : vs[j]? with
    | none =>
      have : ds[j]? = none := by
        rw [List.getElem?_eq_none_iff] at hj ⊢
        rw [← h.length]; exact hj
      rw [this]; exact h.idx js
    | some v =>
      obtain ⟨d, e, hv⟩ := h.getV hj
      rw [e]; exact .cons hv (h.idx js)
theorem VAll.pick {B : Sto} {vs : List Value} {ds : List D} (h : VAll B vs ds) (lo hi st : Option Int) : VAll B (pickL vs lo hi st) (pickL ds lo hi st) := by
  unfold pickL
  rw [h.length]
  exact h.idx _
theorem pickL_le {α : Type} (l : List α) (lo hi : Option Int) (vs : List Value) (h : vs.length = l.length) : (pickL l lo hi none).length ≤ l.length := by
  have e : (pickL l lo hi none).length = (pickL vs lo hi none).length := by
    unfold pickL
    rw [h]
    have : ∀ js : List Nat, (js.filterMap (l[·]?)).length = (js.filterMap (vs[·]?)).length := by
      intro js
      induction js with
      | nil => rfl
      | cons j js ih =>
        rw [List.filterMap_cons, List.filterMap_cons]
        cases hj : l[j]? with
        | none => rw [List.getElem?_eq_none_iff.mpr (by rw [h]; exact List.getElem?_eq_none_iff.mp hj)]; exact ih
        | some x =>
          have hlt := (List.getElem?_eq_some_iff.mp hj).1
          rw [List.getElem?_eq_getElem (l := vs) (h ▸ hlt)]
          simp [ih]
    exact this _
  have := slicePick_size_le vs.toArray lo hi none
  rw [pick_eq] at this
  simp at this
  omega
def Prt (w : World) (A : Around) (env : Env) (I : Sto → Shared → Prop) (e : Option Expr) (o : Option Int) : Prop :=
  ∀ (B : Sto) (s : Shared) (Q E : Value → Shared → Prop), I B s → (∀ v B' s', Grow B s B' s' → IsPart v o → Q v s') → wpAny (MM w) A (evalPart e env) Q E s
section
variable {w : World} {A : Around} {env : Env} {I : Sto → Shared → Prop} {value e : Expr} {lower upper : Option Expr} {lo hi : Option Int} {p pos : Pos}
theorem Prt.none (hc : Cl w I) : Prt w A env I none none := fun B s Q E i k => wpAny_evalPart_none (k _ B s (.refl (hc.sub i)) .none)
theorem Prt.some {i : Int} (h : Ev w A env I e (.int i)) : Prt w A env I (some e) (some i) := fun B s Q E j k => wpAny_evalPart_some (h B s _ _ j fun v B' s' g hv => by obtain ⟨t, rfl⟩ := hv.inv_int; exact k _ B' s' g (.int i t))
theorem Ev.slice {ds : List D} {step : Option Expr} {st : Option Int} (hc : Cl w I) (h : Ev w A env I value (.lst ds)) (hl : Prt w A env I lower lo) (hu : Prt w A env I upper hi) (hst : Prt w A env I step st) (h0 : st ≠ some 0) (hsz : ds.length ≤ sizeLine)
    (hs : ∃ f : Value → Value → List Value, ∀ o i, subscripted (.Slice lower upper step p) false o i = operate (f o i) (getItem o i) := by first | exact ⟨fun o i => [i, o], fun _ _ => rfl⟩ | exact ⟨fun o i => [o, i], fun _ _ => rfl⟩) : Ev w A env I (.Subscript value (.Slice lower upper step p) pos) (.lst (pickL ds lo hi st)) := by
  intro B s Q E i k
  refine Subscript_ (h B s _ _ i fun v B1 s1 g1 hv => wpAny_Slice (hl B1 s1 _ _ (hc.grow i g1) fun vl B2 s2 g2 pl => hu B2 s2 _ _ (hc.grow (hc.grow i g1) g2) fun vu B3 s3 g3 pu => hst B3 s3 _ _ (hc.grow (hc.grow (hc.grow i g1) g2) g3) fun vst B4 s4 g4 pst => ?_))
  have i4 := hc.grow (hc.grow (hc.grow (hc.grow i g1) g2) g3) g4
  have g := g1.trans (g2.trans (g3.trans g4))
  obtain ⟨a, vs, n, rfl, ha, hvs⟩ := hv.inv_lst
  have ha4 := (hc.sub i4) _ _ (g4.le _ _ (g3.le _ _ (g2.le _ _ ha)))
  have hL := isList_of ha4
  obtain ⟨f, hf⟩ := hs
  have hg : Grow B4 s4 B4 { s4 with heap := s4.heap.push { cls := .type "slice", data := .fields #[vl, vu, vst] } } := .of_keeps (hc.sub i4) (keeps_push _ _) (Nat.le_refl _)
  refine tail_any (hL.push _).typeIs slot_list_getitem.lookup (wpAny_getItem_list_slice (hL.push _) (Heap.IsSliceOf.new ..) pl pu pst h0 ?_ (by rw [List.size_toArray, hvs.length]; exact hsz)) (hf _ _)
  rw [pick_eq]
  exact k _ _ _ (g.trans (hg.trans (.push hg.sub rfl))) (.lst (put_self _ _ _) ((((hvs.mono g2.le).mono g3.le).mono g4.le).pick lo hi st |>.mono (le_put (hg.sub.none (fresh_size _)))))
theorem Ev.list {es : List Expr} {ds : List D} (hc : Cl w I) (h : Evs w A env I pos es ds) (hsz : ds.length ≤ sizeLine) : Ev w A env I (.List es pos) (.lst ds) := by
  intro B s Q E i k
  refine List_ (h B s _ _ i fun vs B1 s1 g1 hvs => wpAny_newList ?_ (by rw [hvs.length]; exact hsz))
  exact k _ _ _ (g1.trans (.push g1.sub rfl)) (.lst (put_self _ _ _) (hvs.mono (le_put (g1.sub.none (fresh_size _)))))
theorem Ev.tuple {es : List Expr} {ds : List D} {kk : Nat} (hc : Cl w I) (h : Evs w A env I pos es ds) (hsz : ds.length ≤ sizeLine) : Ev w A env I (.Tuple es kk pos) (.tup ds) := by
  intro B s Q E i k
  refine Tuple_ (h B s _ _ i fun vs B1 s1 g1 hvs => wpAny_newTuple ?_ (by rw [hvs.length]; exact hsz))
  exact k _ _ _ (g1.trans (.push g1.sub rfl)) (.tup (put_self _ _ _) (hvs.mono (le_put (g1.sub.none (fresh_size _)))))
theorem Bin.addL {ds es : List D} (hsz : ds.length + es.length ≤ sizeLine) : Bin w A .Add (.lst ds) (.lst es) (.lst (ds ++ es)) := by
  intro B s v1 v2 Q E g sb h1 h2 k
  obtain ⟨a, vs, n, rfl, ha, hvs⟩ := h1.inv_lst
  obtain ⟨b, ws, m, rfl, hb, hws⟩ := h2.inv_lst
  have e : vs.toArray ++ ws.toArray = (vs ++ ws).toArray := by simp
  refine concat_meets ⟨_, sb _ _ ha, rfl⟩ ⟨_, sb _ _ hb, rfl⟩ noFill_list_add seq_list_add PySem.F.slot_list_add PySem.F.entry_list_add (PySem.F.args_list_add_2 _ _) (list_addW a b vs.toArray ws.toArray n m none none #[] #[] (by simpa [hvs.length, hws.length] using hsz)) ⟨sb _ _ ha, sb _ _ hb, ?_⟩
  rw [e]
  exact k _ _ _ (.alloc sb (keeps_push _ _) (fresh_size _) (Heap.get?_push_size _ rfl)) (.lst (put_self _ _ _) ((hvs.append hws).mono (le_put (sb.none (fresh_size _)))))
theorem Blt.len {ds : List D} (hsz : ds.length ≤ sizeLine) : Blt w A (.builtin "len") [.lst ds] (.int ds.length) := by
  intro B s vs Q E g sb h k
  cases h with | cons h1 h => cases h
                              obtain ⟨a, us, n, rfl, ha, hus⟩ := h1.inv_lst
                              refine len_list (isList_of (sb _ _ ha)) ?_ ?_
                              · have : sizeLine = 16777216 := by decide
                                rw [List.size_toArray, hus.length]; omega
                              · rw [List.size_toArray, hus.length]; exact k _ B _ (.toks sb) (.int _ _)
end
end Mine
end
section
open PySem PySem.W PySem.Spec PySem.Calls PyProof.Rows
set_option maxRecDepth 100000
namespace Mine

/-! iterators -/
def Ow.it (fpW wr : List Addr) (St : Heap → Prop) (hf : ∀ h h', St h → (∀ b ∈ fpW, ∀ o, h.get? b = some o → h'.get? b = some o) → St h') (hob : ∀ h, St h → ∀ b ∈ wr, ∃ o, h.get? b = some o) : Ow :=
  ⟨wr, fun B h => St h ∧ ∀ b ∈ fpW, b ∈ wr ∨ ∃ o, B b = some o ∧ h.get? b = some o, fun x => hob _ x.1, fun {B h B' h'} x le sb k => by
    refine ⟨hf h h' x.1 fun b hb o e => ?_, fun b hb => ?_⟩
    · rcases x.2 b hb with q | ⟨o', h1, h2⟩
      · exact k b q o e
      · rw [h2] at e; cases e; exact sb b _ (le _ _ h1)
    · rcases x.2 b hb with q | ⟨o', h1, h2⟩
      · exact .inl q
      · exact .inr ⟨o', le _ _ h1, sb b _ (le _ _ h1)⟩⟩
structure Itn (w : World) (A : Around) (B : Sto) (s s' : Shared) (it : Value) (ds : List D) : Prop where
  ex : ∃ (I : Addr) (fpW wr : List Addr) (P : Nat → Value → Prop) (St : Nat → Heap → Prop), it = .ref I ∧ Walks PG w A I fpW wr ds.length P St ∧ Keeps s s' ∧ St 0 s'.heap ∧ (∀ b ∈ wr, s.heap.get? b = none) ∧ wr.Nodup ∧
    (∀ b ∈ fpW, b ∈ wr ∨ ∃ o, B b = some o) ∧ (∀ i h, St i h → ∀ b ∈ wr, ∃ o, h.get? b = some o) ∧ (∀ i d x B', Le B B' → P i x → ds[i]? = some d → V B' x d) ∧
    (∀ (i : Nat) (target : Expr) (x : Value) (s : Shared) (Q : Unit → Shared → Prop) (E : Value → Shared → Prop), St i s.heap → Q () s → wpAny (MM w) A (letOwnedTupleGo target (.ref I) x) Q E s)
theorem owned_of {w : World} {A : Around} {I : Addr} {o : Obj} {n : String} {fs : Array Value} (ho : o.cls = .type n) (hd : o.data = .fields fs) (hn : (["enumerate", "zip", "dict_itemiterator", "dict_reverseitemiterator", "odict_iterator", "itertools.zip_longest", "itertools.pairwise"].contains n) = false)
    (target : Expr) (x : Value) (s : Shared) (Q : Unit → Shared → Prop) (E : Value → Shared → Prop) (h : s.heap.get? I = some o) (q : Q () s) : wpAny (MM w) A (letOwnedTupleGo target (.ref I) x) Q E s := by
  have key : wpAny (MM w) A (do
      let o ← load I
      match o.cls, o.data with
      | .type n, .fields vs =>
        if ["enumerate", "zip", "dict_itemiterator", "dict_reverseitemiterator", "odict_iterator", "itertools.zip_longest", "itertools.pairwise"].contains n && vs[0]? == some (rawInt (match x with | .ref a => a | _ => 0)) then
          rule "for.unpacks-the-owned-tuple"
          updateField I 0 .none
      | _, _ => pure ()) Q E s := by
    refine wpAny_bind (wpAny_load h ?_)
    rw [ho, hd]
    simp only [hn, Bool.false_and, Bool.false_eq_true, if_false]
    exact wpAny_pure q
  unfold letOwnedTupleGo
  split
  · cases x <;> first | exact wpAny_pure q | exact key
  · cases x <;> first | exact wpAny_pure q | exact key
  · exact wpAny_pure q
def Itr (w : World) (A : Around) (dI : D) (ds : List D) : Prop := ∀ (B : Sto) (s : Shared) (v : Value) (Q E : Value → Shared → Prop), Gd w s → Sub B s.heap → V B v dI → (∀ it s', Itn w A B s s' it ds → Q it s') → wpAny (MM w) A (pyIter v) Q E s
theorem Itr.lst {w : World} {A : Around} {ds : List D} (hh : A.handled = none) : Itr w A (.lst ds) ds := by
  intro B s v Q E g sb hv k
  obtain ⟨a, vs, n, rfl, ha, hvs⟩ := hv.inv_lst
  have hl := isList_of (sb _ _ ha)
  refine wpAny_pyIter_list hl ?_
  have hne : a ≠ s.heap.objs.size := Nat.ne_of_lt (Heap.lt_size (sb _ _ ha))
  have W := Walks.list (prog := PG) (w := w) (A := A) hh s.heap.objs.size a hne vs.toArray
  have e : vs.toArray.size = ds.length := (List.size_toArray ..).trans hvs.length
  rw [e] at W
  refine k _ _ ⟨⟨_, _, _, _, _, rfl, W, keeps_push _ _, ⟨⟨_, Heap.get?_push_size _ rfl, rfl, rfl⟩, hl.push _⟩, ?_, ?_, ?_, ?_, ?_, ?_⟩⟩
  · intro b hb; rw [List.mem_singleton.mp hb]; exact fresh_size _
  · simp
  · intro b hb
    rcases List.mem_cons.mp hb with rfl | hb
    · exact .inl (.head _)
    · rw [List.mem_singleton.mp hb]; exact .inr ⟨_, ha⟩
  · intro i h st b hb
    rw [List.mem_singleton.mp hb]
    obtain ⟨⟨o, ho, _⟩, _⟩ := st
    exact ⟨o, ho⟩
  · intro i d x B' le hx hd
    have hx' : vs[i]? = some x := by simpa using hx
    obtain ⟨d', e, hv⟩ := hvs.getV hx'
    rw [e] at hd; cases hd
    exact hv.mono le
  · intro i target x s Q E st q
    obtain ⟨⟨o, ho, hcl, hdt⟩, _⟩ := st
    exact owned_of hcl hdt (by decide) target x s Q E ho q
theorem Itr.tup {w : World} {A : Around} {ds : List D} (hh : A.handled = none) : Itr w A (.tup ds) ds := by
  intro B s v Q E g sb hv k
  obtain ⟨a, vs, n, rfl, ha, hvs⟩ := hv.inv_tup
  have hl : s.heap.IsTuple a vs.toArray := ⟨_, sb _ _ ha, rfl, n, rfl⟩
  refine wpAny_pyIter_tuple hl ?_
  have hne : a ≠ s.heap.objs.size := Nat.ne_of_lt (Heap.lt_size (sb _ _ ha))
  have W := Walks.tuple (prog := PG) (w := w) (A := A) hh s.heap.objs.size a hne vs.toArray
  have e : vs.toArray.size = ds.length := (List.size_toArray ..).trans hvs.length
  rw [e] at W
  refine k _ _ ⟨⟨_, _, _, _, _, rfl, W, keeps_push _ _, ⟨⟨_, Heap.get?_push_size _ rfl, rfl, rfl⟩, ⟨_, Heap.get?_push_of_some _ (sb _ _ ha), rfl, n, rfl⟩⟩, ?_, ?_, ?_, ?_, ?_, ?_⟩⟩
  · intro b hb; rw [List.mem_singleton.mp hb]; exact fresh_size _
  · simp
  · intro b hb
    rcases List.mem_cons.mp hb with rfl | hb
    · exact .inl (.head _)
    · rw [List.mem_singleton.mp hb]; exact .inr ⟨_, ha⟩
  · intro i h st b hb
    rw [List.mem_singleton.mp hb]
    obtain ⟨⟨o, ho, _⟩, _⟩ := st
    exact ⟨o, ho⟩
  · intro i d x B' le hx hd
    have hx' : vs[i]? = some x := by simpa using hx
    obtain ⟨d', e, hv⟩ := hvs.getV hx'
    rw [e] at hd; cases hd
    exact hv.mono le
  · intro i target x s Q E st q
    obtain ⟨⟨o, ho, hcl, hdt⟩, _⟩ := st
    exact owned_of hcl hdt (by decide) target x s Q E ho q
def rngL (a b : Int) : List D := (List.range (b - a).toNat).map fun (i : Nat) => D.int (a + (i : Int))
theorem rngL_length (a b : Int) : (rngL a b).length = (b - a).toNat := by simp [rngL]
theorem rngL_get {a b : Int} {i : Nat} {d : D} (h : (rngL a b)[i]? = some d) : d = .int (a + i) ∧ i < (b - a).toNat := by
  unfold rngL at h
  rw [List.getElem?_map] at h
  cases q : (List.range (b - a).toNat)[i]? with
  | none => rw [q] at h; cases h
  | some j =>
    rw [q] at h
    obtain ⟨hl, e⟩ := List.getElem?_eq_some_iff.mp q
    rw [List.getElem_range] at e
    rw [List.length_range] at hl
    subst e
    simp at h
    exact ⟨h.symm, hl⟩
theorem Itr.rng {w : World} {A : Around} {a b : Int} (hh : A.handled = none) (hs : Builtin.Range.small a b 1 = true) : Itr w A (.rng a b) (rngL a b) := by
  intro B s v Q E g sb hv k
  obtain ⟨r, t, u, x, rfl, hr⟩ := hv.inv_rng
  refine wpAny_pyIter_range (sb _ _ hr) hs ?_
  have hz : Builtin.Range.rangeSize a b 1 = ((b - a).toNat : Int) := by
    unfold Builtin.Range.rangeSize
    rw [if_pos (by decide)]
    split <;> omega
  have W := Walks.range (prog := PG) (w := w) (A := A) hh s.heap.objs.size a 1 (b - a).toNat
  rw [← rngL_length] at W
  refine k _ _ ⟨⟨_, _, _, _, _, rfl, W, keeps_push _ _, ?_, ?_, ?_, ?_, ?_, ?_, ?_⟩⟩
  · show IsRangeIter _ _ _ _ _
    rw [hz, rngL_length]; simpa using Heap.get?_push_size _ rfl
  · intro b hb; rw [List.mem_singleton.mp hb]; exact fresh_size _
  · simp
  · intro b hb; exact .inl hb
  · intro i h st b hb
    rw [List.mem_singleton.mp hb]
    exact ⟨_, st⟩
  · intro i d x B' le hx hd
    obtain ⟨t', rfl⟩ := hx
    obtain ⟨rfl, _⟩ := rngL_get hd
    rw [Int.mul_one]
    exact .int _ _
  · intro i target x s Q E st q
    exact owned_of rfl rfl (by decide) target x s Q E st q

/-! assignment to a target -/
def As (w : World) (A : Around) (env : Env) (I : Sto → Shared → Prop) (target : Expr) (d : D) (I' : Sto → Shared → Prop) : Prop :=
  ∀ (B : Sto) (s : Shared) (v : Value) (Q : Unit → Shared → Prop) (E : Value → Shared → Prop), I B s → V B v d → (∀ B' s', I' B' s' → Le B B' → Q () s') → wpAny (MM w) A (assign target env v) Q E s
section
variable {w : World} {A : Around} {env : Env} {s₀ : Shared} {B₀ : Sto} {L : Addr} {cl : List (Str × Addr)} {E C : List (Str × D)} {O : Ow} {x : Str} {p : Pos} {d : D}
theorem As.loc (hL : env.locals = L := by rfl) (hk : env.scope.kind = .function := by rfl) (hl : env.kindOf x = some .local := by rfl) : As w A env (FrI w s₀ B₀ L cl E C O) (.Name x p) d (FrI w s₀ B₀ L cl ((x, d) :: E) C O) :=
  fun B s v Q R F hv k => wpAny_assign_Name (F.store hv (fun s' F' => k B s' F' (Le.refl B)) hL hk hl)
theorem As.cel {c : Addr} (hc : cl.lookup x = some c) (inj : ∀ y, cl.lookup y = some c → y = x) (hL : env.cells = cl := by rfl) (hk : env.scope.kind = .function := by rfl) (hl : env.kindOf x = some .cell := by rfl) : As w A env (FrI w s₀ B₀ L cl E C O) (.Name x p) d (FrI w s₀ B₀ L cl E ((x, d) :: C) O) :=
  fun B s v Q R F hv k => wpAny_assign_Name (F.storeC hv (fun s' F' => k B s' F' (Le.refl B)) hL hc inj hk hl)
end

/-! augmented assignment -/
def Inp (w : World) (A : Around) (op : Operator) (d1 d2 d : D) : Prop := ∀ (B : Sto) (s : Shared) (v1 v2 : Value) (Q E : Value → Shared → Prop), Gd w s → Sub B s.heap → V B v1 d1 → V B v2 d2 →
  (∀ v B' s', Grow0 B s B' s' → V B' v d → Q v s') → wpAny (MM w) A (inplaceOp op v1 v2) Q E s
theorem Inp.addI {w : World} {A : Around} {i j : Int} : Inp w A .Add (.int i) (.int j) (.int (i + j)) := by
  intro B s v1 v2 Q E g sb h1 h2 k
  obtain ⟨t, rfl⟩ := h1.inv_int; obtain ⟨u, rfl⟩ := h2.inv_int
  exact P.iadd_int (k _ B _ (.toks sb) (.int _ _))
theorem Inp.addS {w : World} {A : Around} {x y : Str} (h : x.length + y.length ≤ sizeLine) : Inp w A .Add (.str x) (.str y) (.str (x ++ y)) := by
  intro B s v1 v2 Q E g sb h1 h2 k
  obtain ⟨t, rfl⟩ := h1.inv_str; obtain ⟨u, rfl⟩ := h2.inv_str
  exact SB.iadd (fun _ _ => k _ B _ (.toks sb) (.str _ _)) h
theorem Ex.aug {w : World} {A : Around} {env : Env} {s₀ : Shared} {B₀ : Sto} {L : Addr} {cl : List (Str × Addr)} {E C : List (Str × D)} {O : Ow} {x : Str} {p pos : Pos} {d d1 d2 : D} {op : Operator} {e : Expr}
    (hx : E.lookup x = some d1) (h : Ev w A env (FrI w s₀ B₀ L cl E C O) e d2) (ip : Inp w A op d1 d2 d) (hL : env.locals = L := by rfl) (hk : env.scope.kind = .function := by rfl) (hl : env.kindOf x = some .local := by rfl) :
    Ex w A env (FrI w s₀ B₀ L cl E C O) (.AugAssign (.Name x p) op e pos) (On (FrI w s₀ B₀ L cl ((x, d) :: E) C O)) := by
  intro B s Q R F k
  obtain ⟨m, hm, hE⟩ := F.loc
  obtain ⟨v1, hv1, hV1⟩ := hE x d1 hx
  refine wpAny_AugAssign_Name (wpAny_loadName_local hk hl (hL ▸ hm) hv1 (h B s _ _ F fun v2 B2 s2 g2 hv2 => ?_))
  have F2 := FrI.clo.grow F g2
  exact wp0 (P := fun B v => V B v d) (fun v B' s' g hv => (FrI.clo.grow F2 g).store hv (fun s'' F'' => k _ _ B' s'' .next F'' (g2.le.trans g.le)) hL hk hl) fun Q' E' k' => ip B2 s2 v1 v2 Q' E' (FrI.clo.gd F2) F2.sub (hV1.mono g2.le) hv2 k'

/-! for -/
section
variable {w : World} {A : Around} {env : Env} {s₀ : Shared} {B₀ : Sto} {L : Addr} {cl : List (Str × Addr)} {target iter : Expr} {body : List Stmt} {pos : Pos} {dI : D} {ds : List D} {If : Sto → Shared → Prop} {Jr : D → Sto → Shared → Prop}
theorem FrI.unit {E C : List (Str × D)} {O P : Ow} {B : Sto} {s : Shared} (F : FrI w s₀ B₀ L cl E C (P.and O) B s) : FrI w s₀ B₀ L cl E C O B s :=
  F.ow (fun a ha => List.mem_append.mpr (.inr ha)) (List.nodup_append.mp F.nod).2.1 F.own.2
set_option maxHeartbeats 1000000 in
theorem Ex.forM (E C : Nat → List (Str × D)) (Om : Nat → Ow → Prop) {O₀ : Ow} (hO : Om 0 O₀) (hi : Ev w A env (FrI w s₀ B₀ L cl (E 0) (C 0) O₀) iter dI) (itr : Itr w A dI ds)
    (turn : ∀ (i : Nat) (d : D) (P O : Ow), ds[i]? = some d → Om i O → ∃ I', As w A env (FrI w s₀ B₀ L cl (E i) (C i) (P.and O)) target d I' ∧
      Exs w A env I' body (fun fl B s => match fl with
        | .next | .cont => ∃ O', Om (i + 1) O' ∧ FrI w s₀ B₀ L cl (E (i + 1)) (C (i + 1)) (P.and O') B s
        | .brk => ∃ E' C' O', FrI w s₀ B₀ L cl E' C' (P.and O') B s ∧ (FrI w s₀ B₀ L cl E' C' O' B s → If B s)
        | .ret d => Jr d B s))
    (hn : ∀ O B s, Om ds.length O → FrI w s₀ B₀ L cl (E ds.length) (C ds.length) O B s → If B s)
    (hs : ∀ x, foldedSetIterable iter env x = pure x := by intro _; rfl) (ht : ∀ it v, letOwnedTupleGo target it v = pure () := by intro _ _; rfl) :
    Ex w A env (FrI w s₀ B₀ L cl (E 0) (C 0) O₀) (.For target iter body [] pos) (fun fl B s => match fl with | .next => If B s | .ret d => Jr d B s | _ => False) := by
  intro B s Q X F k
  refine wpAny_For (hi B s _ _ F fun v B1 s1 g1 hv => ?_) hs
  have F1 := FrI.clo.grow F g1
  refine wpAny_with_toks (Nat.le_refl s1.toks) (itr B1 s1 v _ _ (FrI.clo.gd F1) F1.sub hv fun it s2 hit tk2 => ?_)
  obtain ⟨I, fpW, wr, P, St, rfl, W, kp, st0, hwr, hnd, hfp, hob, hP, _⟩ := hit.ex
  have hb : ∀ i h h', St i h → (∀ b ∈ fpW, ∀ o, h.get? b = some o → h'.get? b = some o) → St i h' := W.frame
  let IT : Nat → Ow := fun i => Ow.it fpW wr (St i) (hb i) (hob i)
  have F2 : FrI w s₀ B₀ L cl (E 0) (C 0) ((IT 0).and O₀) B1 s2 := F1.more kp tk2 hwr hnd ⟨st0, fun b hb' => (hfp b hb').imp id fun ⟨o, e⟩ => ⟨o, e, kheap kp b o (F1.sub b o e)⟩⟩
  refine codeAny_forLoop (fun m s' => ∃ i B' O, m = ds.length - i ∧ i ≤ ds.length ∧ Le B1 B' ∧ Om i O ∧ FrI w s₀ B₀ L cl (E i) (C i) ((IT i).and O) B' s') ?_ ds.length ⟨0, B1, O₀, by omega, Nat.zero_le _, Le.refl _, hO, F2⟩ (ht _)
  rintro m s' ⟨i, B', O, rfl, hi', le', hOm, F'⟩
  have nd := List.nodup_append.mp F'.nod
  by_cases hlt : i < ds.length
  · refine wpAny_with_toks (Nat.le_refl s'.toks) (W.item i s' _ _ hlt F'.own.1.1 fun x h' tk hPx hst hk tk' => ?_)
    have F'' : FrI w s₀ B₀ L cl (E i) (C i) ((IT (i + 1)).and O) B' { s' with heap := h', toks := tk } := by
      refine F'.change (O' := (IT (i + 1)).and O) (fun b o hb' e => hk b o (fun q => hb' (List.mem_append.mpr (.inl q))) e) tk' (fun a ha => ha) F'.nod ?_
      have sb : Sub B' h' := fun b o e => hk b o (fun q => by have := (F'.fpo b (List.mem_append.mpr (.inl q))).2.1; rw [this] at e; cases e) (F'.sub b o e)
      refine ⟨⟨hst, fun b hb' => ?_⟩, O.frame F'.own.2 (Le.refl _) sb fun a ha o e => hk a o (fun q => nd.2.2 a q a ha rfl) e⟩
      rcases F'.own.1.2 b hb' with q | ⟨o, h1, h2⟩
      · exact .inl q
      · exact .inr ⟨o, h1, sb b o h1⟩
    obtain ⟨d, hd⟩ : ∃ d, ds[i]? = some d := ⟨_, List.getElem?_eq_getElem hlt⟩
    obtain ⟨I', as, bd⟩ := turn i d (IT (i + 1)) O hd hOm
    refine as B' _ x _ _ F'' (hP i d x B' le' hPx hd) fun B2 s2' i2 le2 => bd B2 s2' _ _ i2 fun f fl B3 s3 hf hj le3 => ?_
    cases hf with
    | next => obtain ⟨O', h1, h2⟩ := hj; exact ⟨ds.length - (i + 1), by omega, i + 1, B3, O', rfl, hlt, le'.trans (le2.trans le3), h1, h2⟩
    | cont => obtain ⟨O', h1, h2⟩ := hj; exact ⟨ds.length - (i + 1), by omega, i + 1, B3, O', rfl, hlt, le'.trans (le2.trans le3), h1, h2⟩
    | brk =>
      obtain ⟨E', C', O', hF, hI⟩ := hj
      exact k _ _ B3 s3 .next (hI hF.unit) (g1.le.trans (le'.trans (le2.trans le3)))
    | ret hv' => exact k _ _ B3 s3 (.ret hv') hj (g1.le.trans (le'.trans (le2.trans le3)))
  · have hin : i = ds.length := by omega
    subst hin
    refine wpAny_with_toks (Nat.le_refl s'.toks) (W.done s' _ _ F'.own.1.1 fun h' tk hk tk' => ?_)
    refine wpAny_execs_nil (k _ _ B' _ .next (hn O _ _ hOm ?_) (g1.le.trans le'))
    have sb : Sub B' h' := fun b o e => hk b o (fun q => by have := (F'.fpo b (List.mem_append.mpr (.inl q))).2.1; rw [this] at e; cases e) (F'.sub b o e)
    exact F'.change (O' := O) (fun b o hb' e => hk b o (fun q => hb' (List.mem_append.mpr (.inl q))) e) tk' (fun a ha => List.mem_append.mpr (.inr ha)) nd.2.1 (O.frame F'.own.2 (Le.refl _) sb fun a ha o e => hk a o (fun q => nd.2.2 a q a ha rfl) e)
theorem Ex.forW (E C : Nat → List (Str × D)) (O : Nat → Ow) (hi : Ev w A env (FrI w s₀ B₀ L cl (E 0) (C 0) (O 0)) iter dI) (itr : Itr w A dI ds)
    (turn : ∀ (i : Nat) (d : D) (P : Ow), ds[i]? = some d → ∃ I', As w A env (FrI w s₀ B₀ L cl (E i) (C i) (P.and (O i))) target d I' ∧
      Exs w A env I' body (fun fl B s => match fl with
        | .next | .cont => FrI w s₀ B₀ L cl (E (i + 1)) (C (i + 1)) (P.and (O (i + 1))) B s
        | .brk => ∃ E' C' O', FrI w s₀ B₀ L cl E' C' (P.and O') B s ∧ (FrI w s₀ B₀ L cl E' C' O' B s → If B s)
        | .ret d => Jr d B s))
    (hn : ∀ B s, FrI w s₀ B₀ L cl (E ds.length) (C ds.length) (O ds.length) B s → If B s)
    (hs : ∀ x, foldedSetIterable iter env x = pure x := by intro _; rfl) (ht : ∀ it v, letOwnedTupleGo target it v = pure () := by intro _ _; rfl) :
    Ex w A env (FrI w s₀ B₀ L cl (E 0) (C 0) (O 0)) (.For target iter body [] pos) (fun fl B s => match fl with | .next => If B s | .ret d => Jr d B s | _ => False) := by
  refine Ex.forM E C (fun i O' => O' = O i) rfl hi itr (fun i d P O' hd hO' => ?_) (fun O' B s h F => hn B s (h ▸ F)) hs ht
  subst hO'
  obtain ⟨I', h1, h2⟩ := turn i d P hd
  exact ⟨I', h1, h2.post fun fl B s j => by cases fl <;> first | exact j | exact ⟨_, rfl, j⟩⟩
/-- a loop that runs to its end -/
theorem Ex.forN (E C : Nat → List (Str × D)) (O : Nat → Ow) (hi : Ev w A env (FrI w s₀ B₀ L cl (E 0) (C 0) (O 0)) iter dI) (itr : Itr w A dI ds)
    (turn : ∀ (i : Nat) (d : D) (P : Ow), ds[i]? = some d → ∃ I', As w A env (FrI w s₀ B₀ L cl (E i) (C i) (P.and (O i))) target d I' ∧ Exs w A env I' body (On (FrI w s₀ B₀ L cl (E (i + 1)) (C (i + 1)) (P.and (O (i + 1))))))
    (hs : ∀ x, foldedSetIterable iter env x = pure x := by intro _; rfl) (ht : ∀ it v, letOwnedTupleGo target it v = pure () := by intro _ _; rfl) :
    Ex w A env (FrI w s₀ B₀ L cl (E 0) (C 0) (O 0)) (.For target iter body [] pos) (On (FrI w s₀ B₀ L cl (E ds.length) (C ds.length) (O ds.length))) := by
  refine Ex.post (Ex.forW (If := FrI w s₀ B₀ L cl (E ds.length) (C ds.length) (O ds.length)) (Jr := fun _ _ _ => False) E C O hi itr (fun i d P hd => ?_) (fun _ _ F => F) hs ht) fun fl B s j => by cases fl <;> first | exact j | exact j.elim
  obtain ⟨I', h1, h2⟩ := turn i d P hd
  exact ⟨I', h1, h2.post fun fl B s j => by cases fl <;> first | exact j | exact j.elim⟩

/-! while -/
theorem Ex.whileW {σ : Type} {test : Expr} (S : σ → Sto → Shared → Prop) (μ : σ → Nat) (a₀ : σ)
    (hc : ∀ a, Cl w (S a))
    (turn : ∀ a, ∃ b, Tr w A env (S a) test b ∧ (b = true → Exs w A env (S a) body (fun fl B s => match fl with
        | .next | .cont => ∃ a', μ a' < μ a ∧ S a' B s
        | .brk => If B s
        | .ret d => Jr d B s)) ∧ (b = false → ∀ B s, S a B s → If B s)) :
    Ex w A env (S a₀) (.While test body [] pos) (fun fl B s => match fl with | .next => If B s | .ret d => Jr d B s | _ => False) := by
  intro B s Q X F k
  refine wpAny_While (codeAny_whileLoop (fun m s' => ∃ a B', m = μ a ∧ Le B B' ∧ S a B' s') ?_ (μ a₀) ⟨a₀, B, rfl, Le.refl _, F⟩)
  rintro m s' ⟨a, B', rfl, le', F'⟩
  obtain ⟨b, ht, h1, h2⟩ := turn a
  refine ht B' s' _ _ F' fun B2 s2 g2 => ?_
  have F2 := (hc a).grow F' g2
  cases b with
  | true =>
    refine h1 rfl B2 s2 _ _ F2 fun f fl B3 s3 hf hj le3 => ?_
    have le := le'.trans (g2.le.trans le3)
    cases hf with
    | next => obtain ⟨a', lt, x⟩ := hj; exact ⟨_, lt, a', B3, rfl, le, x⟩
    | cont => obtain ⟨a', lt, x⟩ := hj; exact ⟨_, lt, a', B3, rfl, le, x⟩
    | brk => exact k _ _ B3 s3 .next hj le
    | ret hv => exact k _ _ B3 s3 (.ret hv) hj le
  | false => exact wpAny_execs_nil (k _ _ B2 s2 .next (h2 rfl _ _ F2) (le'.trans g2.le))
end
end Mine
end
section
open PySem PySem.W PySem.W.X PySem.Spec PySem.Calls PyProof.Rows
set_option maxRecDepth 100000
namespace Mine

/-! built-ins by running them -/
def AA : Around := { handled := none, depth := 900, frames := none, guards := none, units := 9000 }
theorem Rm.aa {n : Nat} {A : Around} {α : Type} {M : Model} {t : Sem α} {Q : α → Shared → Prop} {E : Value → Shared → Prop} {s : Shared} (r : Rm n A) (h : wpAny M AA t Q E s) : wpAny M A t Q E s :=
  fun Γ p hΓ => h Γ p ⟨hΓ.1.trans r.hd, by have := hΓ.2.1; have := r.dp; show _ ≤ 900; omega, (fun _ e => nomatch e), (fun _ e => nomatch e), by have := hΓ.2.2.2.2; have := r.un; show _ ≤ 9000; omega⟩
theorem mem_keeps {s : Shared} {h : Heap} {t' : Nat} {news : List (Addr × Obj)} (D : Mem s.heap h [] news) : Keeps s ⟨h, s.gens, s.drawn, t', s.os⟩ :=
  ⟨h, t', rfl, fun b o e => D.keep b o e (by simp [away])⟩
section
local macro_rules | `(tactic| x_close) => `(tactic| exact ⟨rfl, mem_keeps (by first | assumption | exact Mem.start _)⟩)
set_option maxHeartbeats 4000000 in
theorem run_issub (w : World) (s : Shared) (tp : Addr) (n : Nat) (t : s.heap.get? tp = some { cls := .type "tuple", data := .seq #[.type "str", .type "bytes"] n }) :
  wpAny (model PySem.Challenge.pw_pd0170_01 w) AA (call (.builtin "issubclass") [.type "str", .ref tp]) (fun v s' => v = .bool true ∧ Keeps s s') (fun _ _ => False) s := by
  x_run
set_option maxHeartbeats 4000000 in
theorem run_type (w : World) (s : Shared) (x : Str) (t : Tok) :
  wpAny (model PySem.Challenge.pw_pd0170_01 w) AA (call (.type "type") [.str x t]) (fun v s' => v = .type "str" ∧ Keeps s s') (fun _ _ => False) s := by
  x_run
set_option maxHeartbeats 4000000 in
theorem run_isbytes (w : World) (s : Shared) (x : Str) (t : Tok) :
  wpAny (model PySem.Challenge.pw_pd0170_01 w) AA (call (.builtin "isinstance") [.str x t, .type "bytes"]) (fun v s' => v = .bool false ∧ Keeps s s') (fun _ _ => False) s := by
  x_run
end
section
variable {w : World} {A : Around} {n : Nat}
theorem Blt.issub (r : Rm n A) : Blt w A (.builtin "issubclass") [.val (.type "str"), .tup [.val (.type "str"), .val (.type "bytes")]] (.bool true) := by
  intro B s vs Q E g sb h k
  cases h with | cons h1 h => cases h with | cons h2 h =>
    cases h
    cases h1.inv_val
    obtain ⟨a, us, m, rfl, ha, hus⟩ := h2.inv_tup
    cases hus with | cons u1 hus => cases hus with | cons u2 hus =>
      cases hus
      cases u1.inv_val; cases u2.inv_val
      refine r.aa (wpAny_mono (run_issub w s a m (sb _ _ ha)) (fun v s' x => ?_) fun _ _ x => x.elim)
      obtain ⟨rfl, kp⟩ := x
      exact k _ B s' (.of_keeps sb kp) (.bool true)
theorem Blt.typeS {x : Str} (r : Rm n A) : Blt w A (.type "type") [.str x] (.val (.type "str")) := by
  intro B s vs Q E g sb h k
  cases h with | cons h1 h =>
    cases h
    obtain ⟨t, rfl⟩ := h1.inv_str
    refine r.aa (wpAny_mono (run_type w s x t) (fun v s' x => ?_) fun _ _ x => x.elim)
    obtain ⟨rfl, kp⟩ := x
    exact k _ B s' (.of_keeps sb kp) (.val _)
theorem Blt.isbytes {x : Str} (r : Rm n A) : Blt w A (.builtin "isinstance") [.str x, .val (.type "bytes")] (.bool false) := by
  intro B s vs Q E g sb h k
  cases h with | cons h1 h => cases h with | cons h2 h =>
    cases h
    obtain ⟨t, rfl⟩ := h1.inv_str
    cases h2.inv_val
    refine r.aa (wpAny_mono (run_isbytes w s x t) (fun v s' x => ?_) fun _ _ x => x.elim)
    obtain ⟨rfl, kp⟩ := x
    exact k _ B s' (.of_keeps sb kp) (.bool _)
end

theorem Blt.range1 {w : World} {A : Around} {b : Int} : Blt w A (.type "range") [.int b] (.rng 0 b) := by
  intro B s vs Q E g sb h k
  cases h with | cons h1 h =>
    cases h
    obtain ⟨t, rfl⟩ := h1.inv_int
    exact call_range_1 (k _ _ _ (.alloc (a := s.heap.objs.size) sb ⟨_, _, rfl, fun _ _ e => Heap.get?_push_of_some _ e⟩ (fresh_size _) (Heap.get?_push_size _ rfl)) (.rng (put_self _ _ _)))
theorem Blt.range2 {w : World} {A : Around} {a b : Int} : Blt w A (.type "range") [.int a, .int b] (.rng a b) := by
  intro B s vs Q E g sb h k
  cases h with | cons h1 h => cases h with | cons h2 h =>
    cases h
    obtain ⟨t, rfl⟩ := h1.inv_int
    obtain ⟨u, rfl⟩ := h2.inv_int
    exact call_range_2 (k _ _ _ (.alloc (a := s.heap.objs.size) sb ⟨_, _, rfl, fun _ _ e => Heap.get?_push_of_some _ e⟩ (fresh_size _) (Heap.get?_push_size _ rfl)) (.rng (put_self _ _ _)))
theorem Ex.tryE {w : World} {A : Around} {env : Env} {I : Sto → Shared → Prop} {J : Fl → Sto → Shared → Prop} {body : List Stmt} {h₀ : ExceptHandler} {hs : List ExceptHandler} {pos : Pos} (h : Exs w A env I body J) : Ex w A env I (.Try body (h₀ :: hs) [] [] pos) J := by
  intro B s Q E i k
  refine wpAny_Try_except (h B s _ _ i fun f fl B' s' hf hj le => ?_)
  cases hf with
  | next => exact wpAny_execs_nil (k _ _ B' s' .next hj le)
  | brk => exact k _ _ B' s' .brk hj le
  | cont => exact k _ _ B' s' .cont hj le
  | ret v => exact k _ _ B' s' (.ret v) hj le

/-- the arguments are bound, perhaps with a new tuple -/
theorem Fn.introB {w : World} {k : Nat} {f : Addr} {args args' : List D} {d : D} {name qual : Str} {params : Arguments} {body : List Stmt} {scope : Scope} {dV kV doc pm cdv ct oc : Value} {an od : Option Addr} {osl : Array (Option Value)} (ns : List Str)
    (ho : (KK w).lookup f = some ⟨oc, od, .func (fnOf name qual params body scope dV kV doc pm an cdv ct), osl⟩) (hcd : codeIn (KK w) cdv qual = true)
    (hb : ∀ (A : Around) (B : Sto) (s : Shared) (vs : List Value) (Q : List (Str × Value) → Shared → Prop) (E : Value → Shared → Prop), Sub B s.heap → VAll B vs args → (∀ us B' s', Grow B s B' s' → VAll B' us args' → Q (ns.zip us) s') →
      wpAny (MM w) A (bindArgs (fnOf name qual params body scope dV kV doc pm an cdv ct) ⟨vs, []⟩) Q E s) (hnd : ns.Nodup) (hlen : ns.length = args'.length)
    (hloc : ∀ x ∈ ns, scope.names.lookup x = some .local) (hcell : ∀ x ∈ scope.names, x.2 ≠ .cell)
    (h : ∀ (A : Around) (s₀ : Shared) (B₀ : Sto) (L : Addr), Rm k A → Exs w A (envOf qual scope L f cdv) (FrI w s₀ B₀ L [] (ns.zip args') [] Ow.nil) body (Done d s₀ B₀))
    (hco : scope.isCoroutine = false := by rfl) (hgen : scope.isGenerator = false := by rfl) (hk : scope.kind = .function := by rfl) : Fn w (k + 1) f args d := by
  intro A B s vs Q E rm g sb hv q
  refine wpAny_call (codeAny_call_function rm.room (g.K _ _ ho) rfl hco hgen rfl (codeRec_of g.K hcd) (hb _ B s vs _ _ sb hv fun us B1 s1 g1 hus => ?_))
  refine wpAny_newFunctionEnv hcell ?_ (fun h₁ hn hsb => ⟨(g.lim.keeps (kheap g1.kp)).fresh _ hsb, codeAny_func ?_⟩) hk
  · intro x hx
    exact hloc x.1 (by rw [← List.map_fst_zip (l₁ := ns) (l₂ := us) (by rw [hlen, hus.length]; exact Nat.le_refl _)]; exact List.mem_map_of_mem hx)
  · have hk₁ : ∀ b o, s1.heap.get? b = some o → h₁.get? b = some o := fun b o e => hsb.extBut b o (Nat.ne_of_lt (Heap.lt_size e)) (Heap.get?_push_of_some _ e)
    refine h _ s1 B1 s1.heap.objs.size rm.deeper B1 _ _ _ ?_ ?_
    · have kp : Keeps s1 { s1 with heap := h₁, toks := s1.toks + (ns.zip us).length } := ⟨h₁, _, rfl, hk₁⟩
      refine ⟨g.keeps (kheap g1.kp) g1.tk, kp, Nat.le_add_right _ _, g1.sub.keeps kp, Le.refl B1, fun _ _ e => .inl e, fresh_size _, g1.sub.none (fresh_size _), ⟨_, hn, fun x d' e => ?_⟩, (fun x c hc => by cases hc), trivial, (fun a ha => nomatch ha), List.nodup_nil⟩
      obtain ⟨v, h1, h2⟩ := zip_lookup (vs := us) hus e
      exact ⟨v, lookup_reverse (by rw [List.map_fst_zip (by rw [hlen, hus.length]; exact Nat.le_refl _)]; exact hnd) h1, h2⟩
    · intro fl f' B' s' hf hd le
      obtain ⟨rfl, gr⟩ := hd
      cases hf with
      | ret hv' => exact q _ _ _ (g1.trans gr) hv'
end Mine
end
section
open PySem PySem.W PySem.Spec PySem.Calls PyProof.Rows
set_option maxRecDepth 100000
namespace Mine

/-! names of the top -/
theorem gl_fspath (w : World) : nsIn (KK w) mainGlobals "fspath" = some (some (.ref 130)) := by kernel_rfl
theorem gl_sep (w : World) : nsIn (KK w) mainGlobals "_get_sep" = some (some (.ref 144)) := by kernel_rfl
theorem gl_join (w : World) : nsIn (KK w) mainGlobals "join" = some (some (.ref 151)) := by kernel_rfl
theorem gl_way (w : World) : nsIn (KK w) mainGlobals "_law_way" = some (some (.ref 177)) := by kernel_rfl
theorem gl_depth (w : World) : nsIn (KK w) mainGlobals "_law_depth" = some (some (.ref 184)) := by kernel_rfl
theorem gl_cmp (w : World) : nsIn (KK w) mainGlobals "three_way_cmp" = some (some (.ref 170)) := by kernel_rfl
theorem gl_setin (w : World) : nsIn (KK w) mainGlobals "_law_set_in" = some (some (.ref 191)) := by kernel_rfl
theorem gl_begun (w : World) : nsIn (KK w) mainGlobals "_law_begun" = some (some (.ref 196)) := by kernel_rfl
theorem gl_common (w : World) : nsIn (KK w) mainGlobals "commonpath" = some (some (.ref 156)) := by kernel_rfl
theorem gl_diff (w : World) : nsIn (KK w) mainGlobals "sorted_list_difference" = some (some (.ref 163)) := by kernel_rfl
theorem gl_dm (w : World) : nsIn (KK w) mainGlobals "domain_match" = some (some (.ref 57)) := by kernel_rfl
theorem gl_hdn (w : World) : nsIn (KK w) mainGlobals "is_HDN" = some (some (.ref 50)) := by kernel_rfl
theorem gl_re (w : World) : nsIn (KK w) mainGlobals "IPV4_RE" = some (some (.ref 43)) := by kernel_rfl
theorem nb_type (w : World) : nsIn (KK w) mainGlobals "type" = some none := by kernel_rfl
theorem nb_str (w : World) : nsIn (KK w) mainGlobals "str" = some none := by kernel_rfl
theorem nb_bytes (w : World) : nsIn (KK w) mainGlobals "bytes" = some none := by kernel_rfl
theorem nb_issubclass (w : World) : nsIn (KK w) mainGlobals "issubclass" = some none := by kernel_rfl
theorem nb_isinstance (w : World) : nsIn (KK w) mainGlobals "isinstance" = some none := by kernel_rfl
theorem nb_len (w : World) : nsIn (KK w) mainGlobals "len" = some none := by kernel_rfl
theorem nb_range (w : World) : nsIn (KK w) mainGlobals "range" = some none := by kernel_rfl
theorem nb_sorted (w : World) : nsIn (KK w) mainGlobals "sorted" = some none := by kernel_rfl
theorem nb_min (w : World) : nsIn (KK w) mainGlobals "min" = some none := by kernel_rfl
theorem nb_max (w : World) : nsIn (KK w) mainGlobals "max" = some none := by kernel_rfl
theorem nb_enumerate (w : World) : nsIn (KK w) mainGlobals "enumerate" = some none := by kernel_rfl
theorem nb_tuple (w : World) : nsIn (KK w) mainGlobals "tuple" = some none := by kernel_rfl
theorem nb_map (w : World) : nsIn (KK w) mainGlobals "map" = some none := by kernel_rfl
theorem bb_type : bootBuiltins "type" = some (.type "type") := by kernel_rfl
theorem bb_str : bootBuiltins "str" = some (.type "str") := by kernel_rfl
theorem bb_bytes : bootBuiltins "bytes" = some (.type "bytes") := by kernel_rfl
theorem bb_issubclass : bootBuiltins "issubclass" = some (.builtin "issubclass") := by kernel_rfl
theorem bb_isinstance : bootBuiltins "isinstance" = some (.builtin "isinstance") := by kernel_rfl
theorem bb_len : bootBuiltins "len" = some (.builtin "len") := by kernel_rfl
theorem bb_range : bootBuiltins "range" = some (.type "range") := by kernel_rfl
theorem bb_sorted : bootBuiltins "sorted" = some (.builtin "sorted") := by kernel_rfl
theorem bb_min : bootBuiltins "min" = some (.builtin "min") := by kernel_rfl
theorem bb_max : bootBuiltins "max" = some (.builtin "max") := by kernel_rfl
theorem bb_enumerate : bootBuiltins "enumerate" = some (.type "enumerate") := by kernel_rfl
theorem bb_tuple : bootBuiltins "tuple" = some (.type "tuple") := by kernel_rfl
theorem bb_map : bootBuiltins "map" = some (.type "map") := by kernel_rfl

theorem two_le : 2 ≤ sizeLine := by decide
set_option maxHeartbeats 1000000 in
theorem fspath_fn (w : World) (x : Str) : Fn w 1 130 [.str x] (.str x) := by
  refine Fn.intro [Str.ofString "path"] rfl (by kernel_rfl) (fun vs h => ?_) (by decide) rfl (by decide) (by decide) ?_
  · match vs, h with
    | [v], _ => rfl
  · intro A s₀ B₀ L rm
    refine .on (.setL (.tyCall FrI.clo (.blt FrI.clo (nb_type w) bb_type) (.cons FrI.clo (.locF rfl) (.nil FrI.clo)) (.typeS rm))) ?_
    refine .if1 FrI.clo (.val FrI.clo (.bltCall FrI.clo (.blt FrI.clo (nb_issubclass w) bb_issubclass) (.cons FrI.clo (.locF rfl) (.cons FrI.clo (.tuple FrI.clo (.cons FrI.clo (.blt FrI.clo (nb_str w) bb_str) (.cons FrI.clo (.blt FrI.clo (nb_bytes w) bb_bytes) (.nil FrI.clo))) two_le) (.nil FrI.clo))) (.issub rm)) .bool) (fun _ => ?_) (fun h => nomatch h)
    exact .ret FrI.clo (.locF rfl) fun B s F => ⟨(by intro q; cases q), rfl, F.done⟩
set_option maxHeartbeats 1000000 in
theorem sep_fn (w : World) (x : Str) : Fn w 1 144 [.str x] (.str (Str.ofString "/")) := by
  refine Fn.intro [Str.ofString "path"] rfl (by kernel_rfl) (fun vs h => ?_) (by decide) rfl (by decide) (by decide) ?_
  · match vs, h with
    | [v], _ => rfl
  · intro A s₀ B₀ L rm
    refine .ifR FrI.clo (.val FrI.clo (.bltCall FrI.clo (.blt FrI.clo (nb_isinstance w) bb_isinstance) (.cons FrI.clo (.locF rfl) (.cons FrI.clo (.blt FrI.clo (nb_bytes w) bb_bytes) (.nil FrI.clo))) (.isbytes rm)) .bool) (fun h => nomatch h) (fun _ => ?_)
    exact .ret FrI.clo (.cstr FrI.clo) fun B s F => ⟨(by intro q; cases q), rfl, F.done⟩

def jn (a b : Str) : Str := if (Txt.startswith b (Str.ofString "/") || !(a.length != 0)) = true then b else if Txt.endswith a (Str.ofString "/") = true then a ++ b else a ++ (Str.ofString "/" ++ b)
theorem slash_len : (Str.ofString "/").length = 1 := by decide
set_option maxHeartbeats 2000000 in
theorem join_fn (w : World) (a b : Str) (hl : a.length + b.length + 10 ≤ 10000000) : Fn w 2 151 [.str a, .str b] (.str (jn a b)) := by
  have hsl : sizeLine = 16777216 := by decide
  refine Fn.introB (args' := [.str a, .tup [.str b]]) [Str.ofString "a", Str.ofString "p"] rfl (by kernel_rfl) ?_ (by decide) rfl (by decide) (by decide) ?_
  · intro A B s vs Q E sb hv k
    cases hv with | cons h1 hv => cases hv with | cons h2 hv =>
      cases hv
      rename_i v1 v2
      show wpAny (MM w) A (newTuple [v2] >>= fun t => pure [(Str.ofString "a", v1), (Str.ofString "p", t)]) Q E s
      refine wpAny_bind (wpAny_newTuple (wpAny_pure ?_))
      have g : Grow B s _ _ := .push (o := tupObj [v2] 0) sb rfl
      exact k [_, _] _ _ g (.cons (h1.mono g.le) (.cons (.tup (put_self _ _ _) ((VAll.one h2).mono g.le)) .nil))
  · intro A s₀ B₀ L rm
    refine .on (.setL (.call FrI.clo rm (fspath_fn w a) (.glob FrI.clo (gl_fspath w)) rfl rfl (.cons FrI.clo (.locF rfl) (.nil FrI.clo)))) ?_
    refine .on (.setL (.call FrI.clo rm (sep_fn w a) (.glob FrI.clo (gl_sep w)) rfl rfl (.cons FrI.clo (.locF rfl) (.nil FrI.clo)))) ?_
    refine .on (.setL (.locF rfl)) ?_
    refine .on (I' := FrI w s₀ B₀ L [] [(Str.ofString "path", .str (jn a b))] [] Ow.nil) (.tryE ?_) (.ret FrI.clo (.locF rfl) fun B s F => ⟨rfl, F.done⟩)
    refine .on (Ex.forN (ds := [.str b]) (fun i => match i with | 0 => _ | _ + 1 => [(Str.ofString "path", .str (jn a b))]) (fun _ => []) (fun _ => Ow.nil) (.locF rfl) (.tup rm.hd) ?_) (.nil fun _ _ F => F)
    intro i d P hd
    match i, hd with
    | i + 1, hd => simp at hd
    | 0, hd =>
      cases hd
      refine ⟨_, .loc, ?_⟩
      refine .on (.setL (.call FrI.clo rm (fspath_fn w b) (.glob FrI.clo (gl_fspath w)) rfl rfl (.cons FrI.clo (.locF rfl) (.nil FrI.clo)))) ?_
      refine .if2 (I' := FrI w s₀ B₀ L [] [(Str.ofString "path", .str (jn a b))] [] (P.and Ow.nil)) FrI.clo (.or FrI.clo (.val FrI.clo (.meth FrI.clo (.locF rfl) .startswith (.cons FrI.clo (.locF rfl) (.nil FrI.clo)) .startswith) .bool) fun _ => .not (.val FrI.clo (.locF rfl) (.str (by omega)))) (fun h => ?_) (fun h => ?_) (.nil fun _ _ F => F)
      · have e : jn a b = b := if_pos h
        rw [e]
        exact .on (.setL (.locF rfl)) (.nil fun B s F => F.weak (.cons rfl .nil) .nil)
      · refine .if2 (I' := FrI w s₀ B₀ L [] [(Str.ofString "path", .str (jn a b))] [] (P.and Ow.nil)) FrI.clo (.val FrI.clo (.meth FrI.clo (.locF rfl) .endswith (.cons FrI.clo (.locF rfl) (.nil FrI.clo)) .endswith) .bool) (fun h2 => ?_) (fun h2 => ?_) (.nil fun _ _ F => F)
        · have e : jn a b = a ++ b := (if_neg (by rw [h]; exact Bool.false_ne_true)).trans (if_pos h2)
          rw [e]
          exact .on (.aug rfl (.locF rfl) (.addS (by omega))) (.nil fun B s F => F.weak (.cons rfl .nil) .nil)
        · have e : jn a b = a ++ (Str.ofString "/" ++ b) := (if_neg (by rw [h]; exact Bool.false_ne_true)).trans (if_neg (by rw [h2]; exact Bool.false_ne_true))
          rw [e]
          refine .on (.aug rfl (.bin FrI.clo (.locF rfl) (.locF rfl) (.addS (by rw [slash_len]; omega))) (.addS ?_)) (.nil fun B s F => F.weak (.cons rfl .nil) .nil)
          rw [Str.length_append, slash_len]; omega
end Mine
end
section
open PySem PySem.W PySem.Spec PySem.Calls PyProof.Rows
set_option maxRecDepth 100000
namespace Mine

/-! comprehensions -/
section
variable {w : World} {A : Around} {R : Result → Shared → Prop} {s : Shared}
theorem comp_turns {elt target iter : Expr} {ifs : List Expr} {scope : Scope} {pos : Pos} {it acc : Value} {env : Env} (I : Nat → Shared → Prop)
    (turn : ∀ n s, I n s → wpAny (MM w) A (pyNext it) (fun r s₁ => match r with
      | none => R (.ok .next) s₁
      | some v => wpAny (MM w) A (letOwnedTupleGo target it v) (fun _ s₁' => wpAny (MM w) A (assign target env v) (fun _ s₂ =>
          wpAny (MM w) A (forIn ifs true fun c r => if r = true then do let ok ← isTrue c env (eval c env); pure (ForInStep.yield ok) else pure (ForInStep.yield r)) (fun ok s₃ =>
            if ok = true then wpAny (MM w) A (eval elt env) (fun x s₄ =>
              wpAny (MM w) A (call (.builtin "list.append") [acc, x]) (fun _ s₅ => ∃ m, m < n ∧ I m s₅) (notedBy (MM w) A env fun e s' => R (.error e) s') s₄) (notedBy (MM w) A env fun e s' => R (.error e) s') s₃
            else ∃ m, m < n ∧ I m s₃) (notedBy (MM w) A env fun e s' => R (.error e) s') s₂) (notedBy (MM w) A env fun e s' => R (.error e) s') s₁') (notedBy (MM w) A env fun e s' => R (.error e) s') s₁) (notedBy (MM w) A env fun e s' => R (.error e) s') s)
    (n : Nat) (h : I n s) : codeAny (MM w) A (.compLoop (.ListComp elt [⟨target, iter, ifs, 0⟩] scope pos) 0 it acc env) R s := by
  refine codeAny_loop rfl I (fun n s hI => ?_) n h
  show wpAny _ A ((compTurn (.ListComp elt [⟨target, iter, ifs, 0⟩] scope pos) 0 it acc env).onRaise (fun x => do noteFrame x env; theTreesLotGoes x)) _ _ s
  refine wpAny_noted ?_
  rw [compTurn_list]
  refine wpAny_bind (wpAny_standAt (wpAny_bind (wpAny_mono (turn n s hI) (fun r s₁ h₁ => ?_) fun _ _ h' => h')))
  cases r with
  | none => exact wpAny_pure h₁
  | some v =>
    refine wpAny_bind (wpAny_mono h₁ (fun _ s₁' h₁' => ?_) fun _ _ h' => h')
    refine wpAny_bind (wpAny_mono h₁' (fun _ s₂ h₂ => wpAny_bind (wpAny_mono h₂ (fun ok s₃ h₃ => ?_) fun _ _ h' => h')) fun _ _ h' => h')
    cases ok with
    | false => exact wpAny_pure ⟨rfl, h₃⟩
    | true =>
      exact wpAny_bind (wpAny_bind (wpAny_mono h₃ (fun x s₄ h₄ => wpAny_bind (wpAny_mono h₄ (fun _ s₅ h₅ => wpAny_pure (wpAny_pure ⟨rfl, h₅⟩)) fun _ _ h' => h')) fun _ _ h' => h'))
end

/-- the tests of a clause -/
def Tst (w : World) (A : Around) (env : Env) (I : Sto → Shared → Prop) (ifs : List Expr) (b : Bool) : Prop :=
  ∀ (B : Sto) (s : Shared) (Q : Bool → Shared → Prop) (E : Value → Shared → Prop), I B s → (∀ B' s', Grow B s B' s' → Q b s') →
    wpAny (MM w) A (forIn ifs true fun c r => if r = true then do let ok ← isTrue c env (eval c env); pure (ForInStep.yield ok) else pure (ForInStep.yield r)) Q E s
theorem Tst.nil {w : World} {A : Around} {env : Env} {I : Sto → Shared → Prop} (hc : Cl w I) : Tst w A env I [] true := fun B s Q E i k => wpAny_tests_nil (k B s (.refl (hc.sub i)))
theorem Tst.one {w : World} {A : Around} {env : Env} {I : Sto → Shared → Prop} {c : Expr} {b : Bool} (h : Tr w A env I c b) : Tst w A env I [c] b := fun B s Q E i k => wpAny_tests_one (h B s _ _ i k)

section
variable {w : World} {A : Around} {env : Env} {I : Sto → Shared → Prop} {elt target iter : Expr} {ifs : List Expr} {scope : Scope} {pos : Pos} {cl : List (Str × Addr)} {dI : D} {α : Type}
set_option maxHeartbeats 2000000 in
theorem comp_core (l : List α) (g : α → D) (p : α → Bool) (f : α → D) (use : Option (Value → Sem Unit)) (hc : Cl w I) (hi : Ev w A env I iter dI) (itr : Itr w A dI (l.map g)) (hlen : l.length ≤ 10000)
    (turn : ∀ (B₁ : Sto) (s₁ : Shared) (C : Addr) (O : Ow) (i : Nat) (a : α), I B₁ s₁ → l[i]? = some a → ∃ E', As w A (compEnvC scope cl C env) (FrI w s₁ B₁ C [] [] [] O) target (g a) (FrI w s₁ B₁ C [] E' [] O) ∧
      Tst w A (compEnvC scope cl C env) (FrI w s₁ B₁ C [] E' [] O) ifs (p a) ∧ (p a = true → Ev w A (compEnvC scope cl C env) (FrI w s₁ B₁ C [] E' [] O) elt (f a)))
    {B : Sto} {s : Shared} {Q X : Value → Shared → Prop} (i : I B s)
    (fin : ∀ (B1 : Sto) (s1 : Shared) (C Dd : Addr) (B' : Sto) (s' : Shared), Grow B s B1 s1 → I B1 s1 → FrI w s1 B1 C [] [] [] (Ow.own Dd (((l.take l.length).filter p).map f)) B' s' → compPost (MM w) A X use Q (.ref Dd) C (.ok .next) s')
    (hclos : closureFor scope env = pure cl) (hcell : ∀ y ∈ scope.names, y.2 ≠ .cell) (hkind : scope.kind = .function)
    (hnames : ∀ y ∈ scope.names, y.2 = .local → scope.names.lookup y.1 = some .local) (hs : ∀ x, foldedSetIterable iter env x = pure x) :
    wpAny (MM w) A (comprehension (.ListComp elt [⟨target, iter, ifs, 0⟩] scope pos) scope env iter.pos (newList []) false (eval iter env) use) Q X s := by
  refine wpAny_comprehension_free (use := use) rfl hs hclos hkind hnames (hi B s _ _ i fun v B1 s1 g1 hv => ?_)
  have i1 := hc.grow i g1
  refine wpAny_with_toks (Nat.le_refl s1.toks) (itr B1 s1 v _ _ (hc.gd i1) (hc.sub i1) hv fun it s2 hit tk2 => ?_)
  obtain ⟨It, fpW, wr, P, St, rfl, W, kp, st0, hwr, hnd, hfp, hob, hP, lot⟩ := hit.ex
  rw [List.length_map] at W
  refine wpAny_newObj_type (wpAny_newFunctionEnv hcell (by intro y hy; simp at hy) (fun h₁ hns₁ hsb₁ => ?_) hkind)
  dsimp only at hns₁ hsb₁ ⊢
  generalize hH2 : s2.heap.push { cls := .type "list", dict := none, data := .seq ([] : List Value).toArray } = H2 at hns₁ hsb₁ ⊢
  have hCs : H2.objs.size = s2.heap.objs.size + 1 := by rw [← hH2, Heap.size_push]
  generalize hC : H2.objs.size = C at hns₁ hsb₁ ⊢
  generalize hD : s2.heap.objs.size = Dd at hCs ⊢
  have hDC : Dd ≠ C := by omega
  have hlt2 : ∀ b o, s2.heap.get? b = some o → (b : Nat) < Dd := fun b o e => hD ▸ Heap.lt_size e
  have hDltC : Dd < C := by rw [← hC, hCs]; exact Nat.lt_succ_self _
  have old : ∀ b o, s2.heap.get? b = some o → h₁.get? b = some o := fun b o e => hsb₁.extBut b o (Nat.ne_of_lt (Nat.lt_trans (hlt2 b o e) hDltC)) (Heap.get?_push_of_some _ (hH2 ▸ Heap.get?_push_of_some _ e))
  have hDn : s2.heap.get? Dd = none := hD ▸ fresh_size _
  have hCn : s2.heap.get? C = none := by
    cases e : s2.heap.get? C with
    | none => rfl
    | some o => exact absurd (Nat.lt_trans (hlt2 C o e) hDltC) (Nat.lt_irrefl _)
  have hDo : h₁.get? Dd = some (lstObj [] 0) := hsb₁.extBut _ _ hDC (Heap.get?_push_of_some _ (by rw [← hH2, ← hD]; exact Heap.get?_push_size _ rfl))
  have hb : ∀ i h h', St i h → (∀ b ∈ fpW, ∀ o, h.get? b = some o → h'.get? b = some o) → St i h' := W.frame
  let IT : Nat → Ow := fun i => Ow.it fpW wr (St i) (hb i) (hob i)
  let O : Nat → Ow := fun i => (Ow.own Dd (((l.take i).filter p).map f)).and (IT i)
  have kp12 : ∀ b o, s1.heap.get? b = some o → h₁.get? b = some o := fun b o e => old b o (kheap kp b o e)
  have hwrD : ∀ b ∈ wr, b ≠ Dd ∧ b ≠ C := fun b hb' => by
    obtain ⟨o, ho⟩ := hob 0 _ st0 b hb'
    exact ⟨(fun q => by rw [q, hDn] at ho; cases ho), (fun q => by rw [q, hCn] at ho; cases ho)⟩
  have F0 : FrI w s1 B1 C [] [] [] (O 0) B1 { s2 with heap := h₁, toks := s2.toks + ([] : List (Str × Value)).length } := by
    obtain ⟨h2, tk, rfl, kk⟩ := kp
    refine ⟨hc.gd i1, ⟨h₁, _, rfl, kp12⟩, Nat.le_trans tk2 (Nat.le_add_right _ _), fun b o e => kp12 b o ((hc.sub i1) b o e), Le.refl _, fun _ _ e => .inl e, none_back ⟨h2, tk, rfl, kk⟩ hCn, (hc.sub i1).none (none_back ⟨h2, tk, rfl, kk⟩ hCn), ⟨_, hns₁, fun x d e => by cases e⟩, (fun x c e => by cases e), ⟨⟨[], 0, hDo, .nil⟩, hb 0 _ _ st0 fun b _ o e => old b o e, fun b hb' => (hfp b hb').imp id fun ⟨o, e⟩ => ⟨o, e, kp12 b o ((hc.sub i1) b o e)⟩⟩, fun a ha => ?_, ?_⟩
    · rcases List.mem_append.mp ha with ha | ha
      · rw [List.mem_singleton.mp ha]
        have := none_back ⟨h2, tk, rfl, kk⟩ hDn
        exact ⟨this, (hc.sub i1).none this, hDC, fun x c e => by cases e⟩
      · exact ⟨hwr a ha, (hc.sub i1).none (hwr a ha), (hwrD a ha).2, fun x c e => by cases e⟩
    · show (Dd :: wr).Nodup
      exact List.nodup_cons.mpr ⟨fun q => (hwrD Dd q).1 rfl, hnd⟩
  have loop : codeAny (MM w) A (.compLoop (.ListComp elt [⟨target, iter, ifs, 0⟩] scope pos) 0 (.ref It) (.ref Dd) (compEnvC scope cl C env)) (compPost (MM w) A X use Q (.ref Dd) C) { s2 with heap := h₁, toks := s2.toks + ([] : List (Str × Value)).length } := by
    refine comp_turns (fun m s' => ∃ i B', m = l.length - i ∧ i ≤ l.length ∧ Le B1 B' ∧ FrI w s1 B1 C [] [] [] (O i) B' s') ?_ l.length ⟨0, B1, by omega, Nat.zero_le _, Le.refl _, F0⟩
    rintro m s' ⟨i, B', rfl, hi', le', F'⟩
    have nd := List.nodup_cons.mp (show (Dd :: wr).Nodup from F'.nod)
    by_cases hlt : i < l.length
    · refine wpAny_with_toks (Nat.le_refl s'.toks) (W.item i s' _ _ hlt F'.own.2.1 fun x h' tk hPx hst hk tk' => ?_)
      refine lot (i + 1) target x _ _ _ hst ?_
      have hsb' : Sub B' h' := fun b o e => hk b o (fun q => by have := (F'.fpo b (List.mem_append.mpr (.inr q))).2.1; rw [this] at e; cases e) (F'.sub b o e)
      let On' : Ow := (Ow.own Dd (((l.take i).filter p).map f)).and (IT (i + 1))
      have F1 : FrI w s1 B1 C [] [] [] On' B' { s' with heap := h', toks := tk } := by
        refine F'.change (O' := On') (fun b o hb' e => hk b o (fun q => hb' (List.mem_append.mpr (.inr q))) e) tk' (fun a ha => ha) F'.nod ?_
        refine ⟨(Ow.own Dd _).frame F'.own.1 (Le.refl _) hsb' fun a ha o e => hk a o (fun q => by rw [List.mem_singleton.mp ha] at q; exact nd.1 q) e, hst, fun b hb' => ?_⟩
        rcases F'.own.2.2 b hb' with q | ⟨o, h1, h2⟩
        · exact .inl q
        · exact .inr ⟨o, h1, hsb' b o h1⟩
      obtain ⟨a, ha⟩ : ∃ a, l[i]? = some a := ⟨_, List.getElem?_eq_getElem hlt⟩
      have hga : (l.map g)[i]? = some (g a) := by rw [List.getElem?_map, ha]; rfl
      obtain ⟨E', as, tst, el⟩ := turn B1 s1 C On' i a i1 ha
      refine as B' _ x _ _ F1 (hP i _ x B' le' hPx hga) fun B2 s2' F2 le2 => tst B2 s2' _ _ F2 fun B3 s3 g3 => ?_
      have F3 := FrI.clo.grow F2 g3
      have etk : (l.take (i + 1)).filter p = (l.take i).filter p ++ (if p a then [a] else []) := take_succ_filter p l i a ha
      cases hpa : p a with
      | false =>
        simp only [Bool.false_eq_true, if_false]
        rw [hpa] at etk
        refine ⟨l.length - (i + 1), by omega, i + 1, B3, rfl, hlt, le'.trans (le2.trans g3.le), (F3.weak .nil .nil).ow (fun a ha => ha) F3.nod ?_⟩
        refine ⟨?_, F3.own.2⟩
        have := F3.own.1
        simp only [Bool.false_eq_true, if_false, List.append_nil] at etk
        rw [etk]; exact this
      | true =>
        simp only [if_true]
        rw [hpa] at etk
        refine el hpa B3 s3 _ _ F3 fun y B4 s4 g4 hy => ?_
        have F4 := FrI.clo.grow F3 g4
        obtain ⟨⟨vs, n, hvs, hvd⟩, itx⟩ := F4.own
        have hsz : vs.toArray.size ≤ sizeLine := by
          have e1 := hvd.length
          have e2 : ((l.take i).filter p).length ≤ (l.take i).length := List.length_filter_le _ _
          have e3 : (l.take i).length ≤ l.length := List.length_take_le' ..
          have e4 : sizeLine = 16777216 := by decide
          rw [List.length_map] at e1
          rw [List.size_toArray]
          omega
        refine wpAny_list_append_plain ⟨n, hvs⟩ (fun h5 hl5 hs5 => ?_) hsz
        have hsb5 : Sub B4 h5 := fun b o e => (hs5.2 b (fun q => by have := (F4.fpo Dd (List.mem_append.mpr (.inl (.head _)))).2.1; rw [q, this] at e; cases e)).trans (F4.sub b o e)
        refine ⟨l.length - (i + 1), by omega, i + 1, B4, rfl, hlt, le'.trans (le2.trans (g3.le.trans g4.le)), ?_⟩
        refine (F4.weak (E' := []) .nil .nil).change (O' := O (i + 1)) (tk := s4.toks) (fun b o hb' e => (hs5.2 b (fun q => hb' (q ▸ List.mem_append.mpr (.inl (.head _))))).trans e) (Nat.le_refl _) (fun a ha => ha) F4.nod ?_
        obtain ⟨n5, e5⟩ := hl5
        refine ⟨⟨vs ++ [y], n5, ?_, ?_⟩, (IT (i + 1)).frame itx (Le.refl _) hsb5 fun b hb' o e => (hs5.2 b (fun q => nd.1 (q ▸ hb'))).trans e⟩
        · rw [e5]; simp
        · simp only [if_true] at etk
          rw [etk, List.map_append]
          exact hvd.append (.one hy)
    · have hin : i = l.length := by omega
      subst hin
      refine wpAny_with_toks (Nat.le_refl s'.toks) (W.done s' _ _ F'.own.2.1 fun h' tk hk tk' => ?_)
      have hsb' : Sub B' h' := fun b o e => hk b o (fun q => by have := (F'.fpo b (List.mem_append.mpr (.inr q))).2.1; rw [this] at e; cases e) (F'.sub b o e)
      have F2 : FrI w s1 B1 C [] [] [] (Ow.own Dd (((l.take l.length).filter p).map f)) B' { s' with heap := h', toks := tk } := by
        refine F'.change (O' := Ow.own Dd (((l.take l.length).filter p).map f)) (fun b o hb' e => hk b o (fun q => hb' (List.mem_append.mpr (.inr q))) e) tk' (fun a ha => List.mem_append.mpr (.inl ha)) (by show [Dd].Nodup; simp) ?_
        exact (Ow.own Dd _).frame F'.own.1 (Le.refl _) hsb' fun a ha o e => hk a o (fun q => by rw [List.mem_singleton.mp ha] at q; exact nd.1 q) e
      exact fin B1 s1 C Dd B' _ g1 i1 F2
  exact codeAny_compStart_list loop (W.self 0 _ _ _ (F0.own.2.1) loop)
set_option maxHeartbeats 2000000 in
theorem Ev.comp (l : List α) (g : α → D) (p : α → Bool) (f : α → D) (hc : Cl w I) (hi : Ev w A env I iter dI) (itr : Itr w A dI (l.map g)) (hlen : l.length ≤ 10000)
    (turn : ∀ (B₁ : Sto) (s₁ : Shared) (C : Addr) (O : Ow) (i : Nat) (a : α), I B₁ s₁ → l[i]? = some a → ∃ E', As w A (compEnvC scope cl C env) (FrI w s₁ B₁ C [] [] [] O) target (g a) (FrI w s₁ B₁ C [] E' [] O) ∧
      Tst w A (compEnvC scope cl C env) (FrI w s₁ B₁ C [] E' [] O) ifs (p a) ∧ (p a = true → Ev w A (compEnvC scope cl C env) (FrI w s₁ B₁ C [] E' [] O) elt (f a)))
    (hclos : closureFor scope env = pure cl := by rfl) (hcell : ∀ y ∈ scope.names, y.2 ≠ .cell := by decide) (hkind : scope.kind = .function := by rfl)
    (hnames : ∀ y ∈ scope.names, y.2 = .local → scope.names.lookup y.1 = some .local := by decide) (hs : ∀ x, foldedSetIterable iter env x = pure x := by intro _; rfl) :
    Ev w A env I (.ListComp elt [⟨target, iter, ifs, 0⟩] scope pos) (.lst ((l.filter p).map f)) := by
  intro B s Q X i k
  rw [eval_ListComp]
  refine comp_core l g p f none hc hi itr hlen turn i (fun B1 s1 C Dd B' s' g1 i1 F' => ?_) hclos hcell hkind hnames hs
  obtain ⟨B'', le'', hV, F''⟩ := FrI.freeze (O := Ow.nil) (F'.ow (O' := (Ow.own Dd (((l.take l.length).filter p).map f)).and Ow.nil) (fun a ha => by simpa [Ow.and, Ow.nil] using ha) (by show ([Dd] ++ []).Nodup; simp) ⟨F'.own, trivial⟩)
  rw [List.take_length] at hV
  obtain ⟨m, hm, _⟩ := F''.loc
  refine ⟨m, hm, fun h' hsb => k _ B'' _ ?_ hV⟩
  have gd := F''.done
  refine ⟨ktrans g1.kp ?_, g1.le.trans gd.le, fun b o e => ?_, fun b o e => ?_, Nat.le_trans g1.tk gd.tk⟩
  · obtain ⟨hx, tkx, rfl, kx⟩ := gd.kp
    exact ⟨h', tkx, rfl, fun b o e => (hsb.2 b (fun q => by rw [q, F''.fresh] at e; cases e)).trans (kx b o e)⟩
  · exact (hsb.2 b (fun q => by rw [q, F''.nL] at e; cases e)).trans (gd.sub b o e)
  · rcases gd.new b o e with e' | e'
    · exact g1.new b o e'
    · exact .inr (none_back g1.kp e')
end
end Mine
end
section
open PySem PySem.W PySem.Spec PySem.Calls PyProof.Rows
set_option maxRecDepth 100000
namespace Mine

/-! unpacking -/
theorem draw_wp {w : World} {A : Around} {I : Addr} {fpW wr : List Addr} {N : Nat} {P : Nat → Value → Prop} {St : Nat → Heap → Prop} (W : Walks PG w A I fpW wr N P St) : ∀ (n i : Nat) (s : Shared) (Q : List Value → Shared → Prop) (E : Value → Shared → Prop), i + n = N → St i s.heap →
    (∀ vs h' tk, vs.length = n → (∀ j v, vs[j]? = some v → P (i + j) v) → St N h' → (∀ b o, b ∉ wr → s.heap.get? b = some o → h'.get? b = some o) → Q vs { s with heap := h', toks := tk }) → wpAny (MM w) A (draw (.ref I) n) Q E s
  | 0, i, s, Q, E, hn, st, k => by
    show wpAny _ _ (pure []) Q E s
    have := k [] s.heap s.toks rfl (fun j v h => by simp at h) (by rw [← hn]; exact st) fun _ _ _ e => e
    exact wpAny_pure this
  | n + 1, i, s, Q, E, hn, st, k => by
    show wpAny _ _ (pyNext (.ref I) >>= _) Q E s
    refine wpAny_bind (W.item i s _ _ (by omega) st fun v h1 tk1 hv st1 hk1 => ?_)
    refine wpAny_bind (wpAny_holding (draw_wp W n (i + 1) _ _ _ (by omega) st1 fun vs h2 tk2 hl hP st2 hk2 => wpAny_pure ?_))
    refine k (v :: vs) h2 tk2 (by rw [List.length_cons, hl]) (fun j u hj => ?_) st2 fun b o hb e => hk2 b o hb (hk1 b o hb e)
    cases j with
    | zero => simp at hj; subst hj; exact hv
    | succ j => simp at hj; have := hP j u hj; rw [show i + (j + 1) = i + 1 + j by omega]; exact this
theorem VAll.of_get {B : Sto} : ∀ {vs : List Value} {ds : List D}, vs.length = ds.length → (∀ (j : Nat) (v : Value) (d : D), vs[j]? = some v → ds[j]? = some d → V B v d) → VAll B vs ds
  | [], [], _, _ => .nil
  | v :: vs, d :: ds, hl, h => .cons (h 0 v d rfl rfl) (VAll.of_get (by simpa using hl) fun j u e h1 h2 => h (j + 1) u e (by simpa using h1) (by simpa using h2))
/-- a thing that can be taken apart -/
def Unp (w : World) (A : Around) (dI : D) (ds : List D) : Prop := ∀ (B : Sto) (s : Shared) (v : Value) (Q : List Value → Shared → Prop) (E : Value → Shared → Prop), Gd w s → Sub B s.heap → V B v dI →
  (∀ vs s', Keeps s s' → VAll B vs ds → Q vs s') → wpAny (MM w) A (unpackItems v ds.length none) Q E s
theorem Unp.of {w : World} {A : Around} {dI : D} {ds : List D} (itr : Itr w A dI ds) (hni : ∀ (B : Sto) (s : Shared) (v : Value), Sub B s.heap → V B v dI → ∃ (T id : String), s.TypeIs v T ∧ typeLookup (.type T) "__iter__" = pure (some (.builtin id))) : Unp w A dI ds := by
  intro B s v Q E g sb hv k
  obtain ⟨T, id, hT, hl⟩ := hni B s v sb hv
  unfold unpackItems
  refine wpAny_bind ?_
  unfold notIterableAtAll
  refine wpAny_bind (wpAny_specialOf hT hl ?_)
  refine wpAny_pure ?_
  simp only [Bool.false_eq_true, if_false]
  refine wpAny_bind (wpAny_holding (itr B s v _ _ g sb hv fun it s1 hit => ?_))
  obtain ⟨I, fpW, wr, P, St, rfl, W, kp, st0, hwr, hnd, hfp, hob, hP, _⟩ := hit.ex
  refine wpAny_bind (wpAny_holding (draw_wp W ds.length 0 s1 _ _ (by omega) st0 fun vs h1 tk1 hlen hPs st1 hk1 => ?_))
  rw [if_neg (by rw [hlen]; exact Nat.lt_irrefl _)]
  refine wpAny_bind (wpAny_holding (W.done _ _ _ st1 fun h2 tk2 hk2 => ?_))
  simp only [Option.isSome_none, Bool.false_eq_true, if_false]
  refine wpAny_pure (k vs _ ?_ ?_)
  · obtain ⟨h0, tk0, rfl, k0⟩ := kp
    exact ⟨h2, tk2, rfl, fun b o e => hk2 b o (fun q => by rw [hwr b q] at e; cases e) (hk1 b o (fun q => by rw [hwr b q] at e; cases e) (k0 b o e))⟩
  · exact .of_get hlen fun j u d h1 h2 => hP j d u B (Le.refl _) (by have := hPs j u h1; rwa [Nat.zero_add] at this) h2
theorem Unp.tup {w : World} {A : Around} {ds : List D} (hh : A.handled = none) : Unp w A (.tup ds) ds :=
  .of (.tup hh) fun B s v sb hv => by
    obtain ⟨a, vs, n, rfl, ha, _⟩ := hv.inv_tup
    exact ⟨"tuple", _, ⟨_, sb _ _ ha, rfl⟩, F.slot_tuple_iter.lookup⟩
theorem Unp.lst {w : World} {A : Around} {ds : List D} (hh : A.handled = none) : Unp w A (.lst ds) ds :=
  .of (.lst hh) fun B s v sb hv => by
    obtain ⟨a, vs, n, rfl, ha, _⟩ := hv.inv_lst
    exact ⟨"list", _, ⟨_, sb _ _ ha, rfl⟩, F.slot_list_iter.lookup⟩
section
variable {w : World} {A : Around} {env : Env} {I I' I'' : Sto → Shared → Prop} {e1 e2 : Expr} {d d1 d2 : D} {kk : Nat} {pos tpos : Pos}
theorem As.two (hc : Cl w I) (u : Unp w A d [d1, d2]) (h1 : As w A env I e1 d1 I') (h2 : As w A env I' e2 d2 I'') (hs : assignEach [e1, e2] env = [(false, assign e1 env), (false, assign e2 env)] := by rfl) : As w A env I (.Tuple [e1, e2] kk tpos) d I'' := by
  intro B s v Q E i hv k
  rw [arm_assign_Tuple]
  refine wpAny_bind (wpAny_standAt ?_)
  unfold unpack
  rw [hs]
  refine wpAny_bind (wpAny_holding ?_)
  show wpAny (MM w) A (unpackItems v [d1, d2].length none) _ _ s
  refine wpAny_with_toks (Nat.le_refl s.toks) (u B s v _ _ (hc.gd i) (hc.sub i) hv fun vs s' kp hvs tk => ?_)
  cases hvs with | cons hv1 hvs => cases hvs with | cons hv2 hvs =>
    cases hvs
    refine wpAny_assignInOrder_more (h1 B s' _ _ _ (hc.grow i (.of_keeps (hc.sub i) kp tk)) hv1 fun B1 s1 i1 le1 => ?_)
    refine wpAny_assignInOrder_more (h2 B1 s1 _ _ _ i1 (hv2.mono le1) fun B2 s2 i2 le2 => ?_)
    exact wpAny_assignInOrder_none (k B2 s2 i2 (le1.trans le2))
theorem Ex.setT {elts : List Expr} {value : Expr} (hc : Cl w I) (h : Ev w A env I value d) (a : As w A env I (.Tuple elts kk tpos) d I') (hs : swapsWithSole [.Tuple elts kk tpos] value pos.line env = pure false := by rfl)
    (hw : swappedStores [.Tuple elts kk tpos] value env = pure none := by rfl) : Ex w A env I (.Assign [.Tuple elts kk tpos] value pos) (On I') := by
  intro B s Q E i k
  exact Assign_Tuple (h B s _ _ i fun v B1 s1 g1 hv => a B1 s1 v _ _ (hc.grow i g1) hv fun B2 s2 i2 le2 => k _ _ B2 s2 .next i2 (g1.le.trans le2)) hs hw
end

/-! a list of the frame's own -/
structure Has (a : Addr) (ds ds' : List D) (O O' : Ow) : Prop where
  mem : a ∈ O.fp
  fp : O'.fp = O.fp
  get : ∀ {B : Sto} {h : Heap}, O.X B h → ∃ vs n, h.get? a = some (lstObj vs n) ∧ VAll B vs ds
  set : ∀ {B : Sto} {h h' : Heap} {vs : List Value} {n : Nat}, O.fp.Nodup → O.X B h → Sub B h' → (∀ b o, b ≠ a → h.get? b = some o → h'.get? b = some o) → h'.get? a = some (lstObj vs n) → VAll B vs ds' → O'.X B h'
theorem Has.here {a : Addr} {ds ds' : List D} {R : Ow} : Has a ds ds' ((Ow.own a ds).and R) ((Ow.own a ds').and R) :=
  ⟨.head _, rfl, fun x => x.1, fun {B h h' vs n} nd x sb k e hv => ⟨⟨vs, n, e, hv⟩, R.frame x.2 (Le.refl _) sb fun b hb o eb => k b o (fun q => (List.nodup_cons.mp (show (a :: R.fp).Nodup from nd)).1 (q ▸ hb)) eb⟩⟩
theorem Has.there {a : Addr} {ds ds' : List D} {P R R' : Ow} (H : Has a ds ds' R R') : Has a ds ds' (P.and R) (P.and R') :=
  ⟨List.mem_append.mpr (.inr H.mem), (by show P.fp ++ R'.fp = P.fp ++ R.fp; rw [H.fp]), fun x => H.get x.2, fun {B h h' vs n} nd x sb k e hv => by
    have nd' := List.nodup_append.mp nd
    exact ⟨P.frame x.1 (Le.refl _) sb fun b hb o eb => k b o (fun q => nd'.2.2 b hb a H.mem q) eb, H.set nd'.2.1 x.2 sb k e hv⟩⟩
section
variable {w : World} {A : Around} {env : Env} {s₀ : Shared} {B₀ : Sto} {L : Addr} {cl : List (Str × Addr)} {E C : List (Str × D)} {O O' : Ow} {x : Str} {p ap pos pos' : Pos} {d : D} {e : Expr} {a : Addr} {ds : List D}
/-- the owned list has got one more -/
theorem FrI.app {B : Sto} {s : Shared} {v : Value} {Q R : Value → Shared → Prop} (F : FrI w s₀ B₀ L cl E C O B s) (H : Has a ds (ds ++ [d]) O O') (hv : V B v d) (hsz : ds.length ≤ 10000) (k : ∀ s', FrI w s₀ B₀ L cl E C O' B s' → Q .none s') :
    wpAny (MM w) A (call (.builtin "list.append") [.ref a, v]) Q R s := by
  obtain ⟨vs, n, ha, hvs⟩ := H.get F.own
  have hsl : sizeLine = 16777216 := by decide
  refine wpAny_list_append_plain ⟨n, ha⟩ (fun h5 hl5 hs5 => k _ ?_) (by rw [List.size_toArray, hvs.length]; omega)
  obtain ⟨n5, e5⟩ := hl5
  have hsb5 : Sub B h5 := fun b o e => (hs5.2 b (fun q => by have := (F.fpo a H.mem).2.1; rw [q, this] at e; cases e)).trans (F.sub b o e)
  refine F.change (O' := O') (tk := s.toks) (fun b o hb' e => (hs5.2 b (fun q => hb' (q ▸ H.mem))).trans e) (Nat.le_refl _) (fun b hb => H.fp ▸ hb) (H.fp ▸ F.nod) ?_
  exact H.set (vs := vs ++ [v]) (n := n5) F.nod F.own hsb5 (fun b o hb e => (hs5.2 b hb).trans e) (by rw [e5]; simp) (hvs.append (.one hv))
theorem Ex.app {pl : Sem Bool} (hx : Ev w A env (FrI w s₀ B₀ L cl E C O) (.Name x p) (.val (.ref a))) (h : Ev w A env (FrI w s₀ B₀ L cl E C O) e d) (H : Has a ds (ds ++ [d]) O O') (hsz : ds.length ≤ 10000)
    (hs : starEach [e] env = [(false, eval e env)] := by rfl) (hi : interactive env = false := by rfl) (hsw : swapsWith (.Call (.Attribute (.Name x p) "append" ap) [e] [] pos) none pos'.line env = pure false := by rfl)
    (he : eval (.Call (.Attribute (.Name x p) "append" ap) [e] [] pos) env = (do
      let ov ← eval (.Name x p) env
      standAt ap.atName
      let (f, first) ← holding [ov] (getMethod ov "append" pl)
      callWith pos f first (backTo pos (starEach [e] env)) []) := by rfl) :
    Ex w A env (FrI w s₀ B₀ L cl E C O) (.Expr (.Call (.Attribute (.Name x p) "append" ap) [e] [] pos) pos') (On (FrI w s₀ B₀ L cl E C O')) := by
  intro B s Q R F k
  refine wpAny_Expr (MethodCall_ (pl := pl) (hx B s _ _ F fun v B1 s1 g1 hv => ?_) he) hi hsw
  cases hv.inv_val
  have F1 := FrI.clo.grow F g1
  obtain ⟨vs, n, ha, hvs⟩ := H.get F1.own
  refine getMethod_builtin (T := "list") ⟨_, ha, rfl⟩ PySem.F.plainAttrs_list PySem.F.slot_list_append PySem.F.type_list_append (fun b e => by cases e; exact ⟨_, ha, rfl⟩) ?_
  have hst : ((backTo pos (starEach [e] env)).any (·.1)) = false := by rw [hs]; rfl
  refine Calls.callWith_builtin hst (evalArgs_any hst (args_cons (h B1 s1 _ _ F1 fun v2 B2 s2 g2 hv2 => args_nil ?_) (by rw [hs]; rfl)))
  exact FrI.app (FrI.clo.grow F1 g2) H hv2 hsz fun s' F' => k _ _ B2 s' .next F' (g1.le.trans g2.le)
/-- a new list of the frame's own under a name -/
theorem Exs.newL {rest : List Stmt} {J : Fl → Sto → Shared → Prop} {lp : Pos} (h : ∀ a, Exs w A env (FrI w s₀ B₀ L cl ((x, .val (.ref a)) :: E) C ((Ow.own a []).and O)) rest J)
    (hL : env.locals = L := by rfl) (hk : env.scope.kind = .function := by rfl) (hl : env.kindOf x = some .local := by rfl) (hs : swapsWith (.List [] lp) (some (.Name x p)) pos.line env = pure false := by rfl) :
    Exs w A env (FrI w s₀ B₀ L cl E C O) (.Assign [.Name x p] (.List [] lp) pos :: rest) J := by
  intro B s Q R F k
  refine wpAny_execs_cons (wpAny_Assign_Name (List_ (args_nil (wpAny_newList ?_ (by decide)))) hs)
  have F1 : FrI w s₀ B₀ L cl E C ((Ow.own s.heap.objs.size []).and O) B { s with heap := s.heap.push { cls := .type "list", data := .seq ([] : List Value).toArray } } :=
    F.more (keeps_push _ _) (Nat.le_refl _) (fun b hb => by rw [List.mem_singleton.mp hb]; exact fresh_size _) (by show [_].Nodup; simp) ⟨[], 0, Heap.get?_push_size _ rfl, .nil⟩
  exact F1.store (.val _) (fun s' F' => h _ B s' Q R F' k) hL hk hl
theorem FrI.retype {B : Sto} {s : Shared} {v : Value} {d : D} (F : FrI w s₀ B₀ L cl E C O B s) (hx : E.lookup x = some (.val v)) (hv : V B v d) : FrI w s₀ B₀ L cl ((x, d) :: E) C O B s := by
  refine { F with loc := ?_ }
  obtain ⟨m, h1, h2⟩ := F.loc
  refine ⟨m, h1, fun y d' e => ?_⟩
  rw [List.lookup_cons] at e
  cases q : y == x with
  | true =>
    rw [q] at e
    have hy : y = x := by simpa using q
    subst hy
    obtain ⟨u, h3, h4⟩ := h2 y _ hx
    cases h4.inv_val
    cases e
    exact ⟨_, h3, hv⟩
  | false => rw [q] at e; exact h2 y d' e
end
end Mine
end
section
open PySem PySem.W PySem.Spec PySem.Calls PyProof.Rows
set_option maxRecDepth 100000
namespace Mine

/-! the caller's frame, held by the called -/
def FrmX (Lw : Addr) (cl : List (Str × Addr)) (E C : List (Str × D)) (B : Sto) (h : Heap) : Prop :=
  (∃ m, h.Ns Lw m ∧ ∀ x d, E.lookup x = some d → ∃ v, m x = some v ∧ V B v d) ∧ ∀ p ∈ cl, ∃ o v, h.get? p.2 = some o ∧ o.data = .cell v ∧ ∀ d, C.lookup p.1 = some d → ∃ u, v = some u ∧ V B u d
def Ow.frm (Lw : Addr) (cl : List (Str × Addr)) (E C : List (Str × D)) (O : Ow) : Ow :=
  ⟨Lw :: (cl.map (·.2) ++ O.fp), fun B h => FrmX Lw cl E C B h ∧ O.X B h, fun {B h} x a ha => by
    rcases List.mem_cons.mp ha with rfl | ha
    · obtain ⟨⟨m, ⟨o, es, ep, ho, _⟩, _⟩, _⟩ := x.1; exact ⟨o, ho⟩
    · rcases List.mem_append.mp ha with ha | ha
      · obtain ⟨p, hp, rfl⟩ := List.mem_map.mp ha
        obtain ⟨o, v, ho, _⟩ := x.1.2 p hp; exact ⟨o, ho⟩
      · exact O.there x.2 a ha, fun {B h B' h'} x le sb k => by
    refine ⟨⟨?_, fun p hp => ?_⟩, O.frame x.2 le sb fun a ha => k a (.tail _ (List.mem_append.mpr (.inr ha)))⟩
    · obtain ⟨m, ⟨o, es, ep, ho, r⟩, hE⟩ := x.1.1
      exact ⟨m, ⟨o, es, ep, k _ (.head _) o ho, r⟩, fun y d e => let ⟨v, h1, h2⟩ := hE y d e; ⟨v, h1, h2.mono le⟩⟩
    · obtain ⟨o, v, ho, h1, h2⟩ := x.1.2 p hp
      exact ⟨o, v, k _ (.tail _ (List.mem_append.mpr (.inl (List.mem_map_of_mem hp)))) o ho, h1, fun d e => let ⟨u, q1, q2⟩ := h2 d e; ⟨u, q1, q2.mono le⟩⟩⟩
theorem mem_of_lookup {α : Type} {x : Str} {c : α} : ∀ {l : List (Str × α)}, l.lookup x = some c → (x, c) ∈ l
  | [], h => by cases h
  | (y, d) :: l, h => by
    rw [List.lookup_cons] at h
    cases q : x == y with
    | true => rw [q] at h; cases h; have : x = y := by simpa using q
              subst this; exact .head _
    | false => rw [q] at h; exact .tail _ (mem_of_lookup h)
theorem lookup_of_mem {α : Type} {x : Str} {c : α} : ∀ {l : List (Str × α)}, (l.map (·.1)).Nodup → (x, c) ∈ l → l.lookup x = some c
  | (y, d) :: l, nd, h => by
    rw [List.lookup_cons]
    have nd' := List.nodup_cons.mp (show (y :: l.map (·.1)).Nodup from nd)
    rcases List.mem_cons.mp h with q | h
    · cases q; simp
    · have : (x == y) = false := by
        have : x ≠ y := fun q => nd'.1 (q ▸ List.mem_map_of_mem (f := (·.1)) h)
        simpa using this
      rw [this]; exact lookup_of_mem nd'.2 h
section
variable {w : World} {s₀ : Shared} {B₀ B : Sto} {s : Shared} {L Lw : Addr} {cl : List (Str × Addr)} {E C E1 : List (Str × D)} {O R : Ow}
theorem FrI.back (F : FrI w s₀ B₀ L [] E1 [] (R.and (Ow.frm Lw cl E C O)) B s) : FrI w s₀ B₀ Lw cl E C O B s := by
  have nd := (List.nodup_append.mp F.nod).2.1
  have nd1 := List.nodup_cons.mp (show (Lw :: (cl.map (·.2) ++ O.fp)).Nodup from nd)
  have nd2 := List.nodup_append.mp nd1.2
  have fL := F.fpo Lw (List.mem_append.mpr (.inr (.head _)))
  have fO : ∀ a ∈ O.fp, _ := fun a ha => F.fpo a (List.mem_append.mpr (.inr (.tail _ (List.mem_append.mpr (.inr ha)))))
  have fC : ∀ x c, cl.lookup x = some c → c ∈ cl.map (·.2) := fun x c h => List.mem_map_of_mem (f := (·.2)) (mem_of_lookup h)
  refine ⟨F.gd, F.kp, F.tk, F.sub, F.le, F.new, fL.1, fL.2.1, F.own.2.1.1, fun x c hc => ?_, F.own.2.2, fun a ha => ⟨(fO a ha).1, (fO a ha).2.1, fun q => nd1.1 (q ▸ List.mem_append.mpr (.inr ha)), fun x c hc => nd2.2.2 c (fC x c hc) a ha⟩, nd2.2.1⟩
  have := F.fpo c (List.mem_append.mpr (.inr (.tail _ (List.mem_append.mpr (.inl (fC x c hc))))))
  obtain ⟨o, v, h1, h2, h3⟩ := F.own.2.1.2 (x, c) (mem_of_lookup hc)
  exact ⟨this.2.1, this.1, o, v, h1, h2, h3⟩
/-- a new frame over the caller's -/
theorem FrI.into (F : FrI w s₀ B₀ Lw cl E C O B s) (hk : (cl.map (·.1)).Nodup) (hv : (cl.map (·.2)).Nodup) {h' : Heap} {tk : Nat} {m : Str → Option Value} (kp : ∀ b o, s.heap.get? b = some o → h'.get? b = some o) (ht : s.toks ≤ tk)
    (hL : s.heap.get? L = none) (hn : h'.Ns L m) (hE : ∀ x d, E1.lookup x = some d → ∃ v, m x = some v ∧ V B v d) : FrI w s₀ B₀ L [] E1 [] (Ow.nil.and (Ow.frm Lw cl E C O)) B { s with heap := h', toks := tk } := by
  have F' : FrI w s₀ B₀ Lw cl E C O B { s with heap := h', toks := tk } := FrI.clo.grow F (.of_keeps F.sub ⟨h', tk, rfl, kp⟩ ht)
  obtain ⟨mw, ⟨oL, es, ep, hLw, r⟩, hEw⟩ := F.loc
  have ne : ∀ a o, s.heap.get? a = some o → a ≠ L := fun a o e q => by rw [q, hL] at e; cases e
  have cm : ∀ c ∈ cl.map (·.2), ∃ x, cl.lookup x = some c := fun c hc => by
    obtain ⟨p, hp, rfl⟩ := List.mem_map.mp hc; exact ⟨p.1, lookup_of_mem hk hp⟩
  refine ⟨F.gd, F'.kp, F'.tk, F'.sub, F'.le, F'.new, none_back F.kp hL, F.sub.none hL, ⟨m, hn, hE⟩, (fun x c hc => by cases hc), ⟨trivial, ⟨F'.loc, fun p hp => ?_⟩, F'.own⟩, fun a ha => ?_, ?_⟩
  · obtain ⟨_, _, o, v, h1, h2, h3⟩ := F'.cel p.1 p.2 (lookup_of_mem hk hp); exact ⟨o, v, h1, h2, h3⟩
  · refine (?_ : _ ∧ _ ∧ _) |> fun z => ⟨z.1, z.2.1, z.2.2, (fun x c hc => by cases hc)⟩
    rcases List.mem_cons.mp (show a ∈ Lw :: (cl.map (·.2) ++ O.fp) from ha) with rfl | ha
    · exact ⟨F.fresh, F.nL, ne _ _ hLw⟩
    · rcases List.mem_append.mp ha with ha | ha
      · obtain ⟨x, hx⟩ := cm a ha
        obtain ⟨h1, h2, o, v, h3, _⟩ := F.cel x a hx
        exact ⟨h2, h1, ne _ _ h3⟩
      · obtain ⟨o, ho⟩ := O.there F.own a ha
        exact ⟨(F.fpo a ha).1, (F.fpo a ha).2.1, ne _ _ ho⟩
  · show (Lw :: (cl.map (·.2) ++ O.fp)).Nodup
    refine List.nodup_cons.mpr ⟨fun q => ?_, List.nodup_append.mpr ⟨hv, F.nod, fun c hc a ha => ?_⟩⟩
    · rcases List.mem_append.mp q with q | q
      · obtain ⟨x, hx⟩ := cm _ q
        obtain ⟨h1, h2, o, v, h3, h4, _⟩ := F.cel x _ hx
        rw [hLw] at h3; cases h3; rw [r.1] at h4; cases h4
      · exact (F.fpo _ q).2.2.1 rfl
    · obtain ⟨x, hx⟩ := cm c hc
      exact (F.fpo a ha).2.2.2 x c hx
/-- slots of the frames may change -/
theorem FrI.slots (F : FrI w s₀ B₀ L [] E1 [] (R.and (Ow.frm Lw cl E C O)) B s) {h' : Heap} (hs : Heap.SlotsOnly [L, Lw] s.heap h') : FrI w s₀ B₀ L [] E1 [] (R.and (Ow.frm Lw cl E C O)) B { s with heap := h' } := by
  obtain ⟨h0, tk0, rfl, k0⟩ := F.kp
  have fL := F.fpo Lw (List.mem_append.mpr (.inr (.head _)))
  have nd := List.nodup_append.mp F.nod
  have nd1 := List.nodup_cons.mp (show (Lw :: (cl.map (·.2) ++ O.fp)).Nodup from nd.2.1)
  have keep : ∀ b o, b ≠ L → b ≠ Lw → h0.get? b = some o → h'.get? b = some o := fun b o h1 h2 e => (hs.2.1 b (by simp [h1, h2])).trans e
  have nsk : ∀ {a m}, h0.Ns a m → h'.Ns a m := fun {a m} hn => by
    obtain ⟨o, es, ep, ho, hd, r⟩ := hn
    obtain ⟨sl, e⟩ := hs.2.2 a o ho
    exact ⟨_, es, ep, e, hd, r⟩
  have sb : Sub B h' := fun b o e => keep b o (fun q => by rw [q, F.nL] at e; cases e) (fun q => by rw [q, fL.2.1] at e; cases e) (F.sub b o e)
  refine ⟨F.gd, ⟨h', tk0, rfl, fun b o e => keep b o (fun q => by rw [q, F.fresh] at e; cases e) (fun q => by rw [q, fL.1] at e; cases e) (k0 b o e)⟩, F.tk, sb, F.le, F.new, F.fresh, F.nL, let ⟨m, h1, h2⟩ := F.loc; ⟨m, nsk h1, h2⟩, (fun x c hc => by cases hc),
    ⟨R.frame F.own.1 (Le.refl _) sb fun a ha o e => keep a o (F.fpo a (List.mem_append.mpr (.inl ha))).2.2.1 (nd.2.2 a ha Lw (.head _)) e, ⟨let ⟨m, h1, h2⟩ := F.own.2.1.1; ⟨m, nsk h1, h2⟩, fun p hp => ?_⟩,
      O.frame F.own.2.2 (Le.refl _) sb fun a ha o e => keep a o (F.fpo a (List.mem_append.mpr (.inr (.tail _ (List.mem_append.mpr (.inr ha)))))).2.2.1 (fun q => nd1.1 (q ▸ List.mem_append.mpr (.inr ha))) e⟩, F.fpo, F.nod⟩
  obtain ⟨o, v, h1, h2, h3⟩ := F.own.2.1.2 p hp
  obtain ⟨sl, e⟩ := hs.2.2 p.2 o h1
  exact ⟨_, v, e, h2, h3⟩
end

/-! an exception on its way -/
def Exc0 (e : Addr) (c : Bool) (x : Value) (h : Heap) : Prop := ∃ oe vs, h.get? e = some oe ∧ oe.cls = .type "IndexError" ∧ oe.data = .fields vs ∧ vs.size = 6 ∧ vs[1]? = some x ∧ (c = true → vs[2]? = some .none)
def Ow.exc (e : Addr) (c : Bool) (x : Value) : Ow := ⟨[e], fun _ h => Exc0 e c x h, fun ⟨oe, vs, h1, _⟩ b hb => by rw [List.mem_singleton.mp hb]; exact ⟨_, h1⟩, fun ⟨oe, vs, h1, r⟩ _ _ k => ⟨oe, vs, k e (.head _) _ h1, r⟩⟩
def Tb (T : Addr) (x : Value) (h : Heap) : Prop := ∃ oT ts, h.get? T = some oT ∧ oT.data = .fields ts ∧ ts[3]? = some x
def Ow.tb (T : Addr) (x : Value) : Ow := ⟨[T], fun _ h => Tb T x h, fun ⟨oe, vs, h1, _⟩ b hb => by rw [List.mem_singleton.mp hb]; exact ⟨_, h1⟩, fun ⟨oe, vs, h1, r⟩ _ _ k => ⟨oe, vs, k T (.head _) _ h1, r⟩⟩

section
variable {w : World} {A : Around} {env envw : Env} {s₀ : Shared} {B₀ B : Sto} {s : Shared} {L Lw e : Addr} {cl : List (Str × Addr)} {E1 : List (Str × D)} {R K P P' P2 : Ow} {c : Bool}
theorem FrI.upd1 {a : Addr} {f : Obj → Obj} (F : FrI w s₀ B₀ L [] E1 [] ((P.and R).and K) B s) (h1 : P.fp = [a]) (h2 : P'.fp = [a]) (hx : P'.X B (s.heap.update a f)) : FrI w s₀ B₀ L [] E1 [] ((P'.and R).and K) B { s with heap := s.heap.update a f } := by
  have nd : (a :: (R.fp ++ K.fp)).Nodup := by have := F.nod; simp only [Ow.and, h1] at this; simpa using this
  have nd' := List.nodup_cons.mp nd
  have ha : a ∈ ((P.and R).and K).fp := by simp [Ow.and, h1]
  have keep : ∀ b o, b ≠ a → s.heap.get? b = some o → (s.heap.update a f).get? b = some o := fun b o hb e => (Heap.get?_update_other _ _ (Ne.symm hb)).trans e
  have sb : Sub B (s.heap.update a f) := fun b o e => keep b o (fun q => by have := (F.fpo a ha).2.1; rw [q, this] at e; cases e) (F.sub b o e)
  refine F.change (tk := s.toks) (fun b o hb e => keep b o (fun q => hb (q ▸ ha)) e) (Nat.le_refl _) (fun b hb => ?_) ?_ ⟨⟨hx, R.frame F.own.1.2 (Le.refl _) sb fun b hb o e => keep b o (fun q => nd'.1 (q ▸ List.mem_append.mpr (.inl hb))) e⟩, K.frame F.own.2 (Le.refl _) sb fun b hb o e => keep b o (fun q => nd'.1 (q ▸ List.mem_append.mpr (.inr hb))) e⟩
  · simp only [Ow.and, h1, h2] at hb ⊢; exact hb
  · simp only [Ow.and, h2]; simpa using nd
theorem FrI.rot (F : FrI w s₀ B₀ L [] E1 [] ((P.and (P2.and R)).and K) B s) : FrI w s₀ B₀ L [] E1 [] ((P2.and (P.and R)).and K) B s := by
  have hp : List.Perm (P2.fp ++ (P.fp ++ R.fp) ++ K.fp) (P.fp ++ (P2.fp ++ R.fp) ++ K.fp) := by
    refine List.Perm.append_right _ ?_
    rw [← List.append_assoc, ← List.append_assoc]
    exact List.Perm.append_right _ List.perm_append_comm
  exact F.ow (fun a ha => hp.mem_iff.mp ha) (hp.nodup_iff.mpr F.nod) ⟨⟨F.own.1.2.1, F.own.1.1, F.own.1.2.2⟩, F.own.2⟩
theorem FrI.out (F : FrI w s₀ B₀ L [] E1 [] ((P.and R).and K) B s) : FrI w s₀ B₀ L [] E1 [] (R.and K) B s := by
  have nd := F.nod
  refine F.ow (fun a ha => ?_) ?_ ⟨F.own.1.2, F.own.2⟩
  · rcases List.mem_append.mp ha with h | h
    · exact List.mem_append.mpr (.inl (List.mem_append.mpr (.inr h)))
    · exact List.mem_append.mpr (.inr h)
  · have : (P.fp ++ (R.fp ++ K.fp)).Nodup := by rw [← List.append_assoc]; exact nd
    exact (List.nodup_append.mp this).2.1
theorem FrI.asc (F : FrI w s₀ B₀ L [] E1 [] (P.and (R.and K)) B s) : FrI w s₀ B₀ L [] E1 [] ((P.and R).and K) B s :=
  F.ow (fun a ha => by show a ∈ P.fp ++ (R.fp ++ K.fp); rw [← List.append_assoc]; exact ha) (by show (P.fp ++ R.fp ++ K.fp).Nodup; rw [List.append_assoc]; exact F.nod) ⟨⟨F.own.1, F.own.2.1⟩, F.own.2.2⟩
end
section
variable {w : World} {A : Around} {env envw : Env} {s₀ : Shared} {B₀ B : Sto} {s : Shared} {L Lw e : Addr} {cl : List (Str × Addr)} {E1 E C : List (Str × D)} {R O : Ow} {c : Bool}
/-- the frames are as they should be -/
structure Frs (A : Around) (env envw : Env) (L Lw : Addr) : Prop where
  fr : A.frames = some [env, envw]
  f1 : env.frame = some L
  f2 : envw.frame = some Lw
  k1 : env.scope.kind ≠ .module
  k2 : envw.scope.kind ≠ .module
theorem Frs.mark (h : Frs A env envw L Lw) (x : Option Value) : Frs (A.mark x) env envw L Lw := ⟨h.fr, h.f1, h.f2, h.k1, h.k2⟩
theorem exc_set {h : Heap} {x y : Value} (q : Exc0 e c x h) : Exc0 e c y (h.update e (Obj.mapFields (·.setIfInBounds 1 y))) := by
  obtain ⟨oe, vs, h1, h2, h3, h4, h5, h6⟩ := q
  have hd := Obj.data_mapFields h3 (·.setIfInBounds 1 y)
  refine ⟨_, _, Heap.get?_update_self _ h1 (Obj.isFreed_of_fields hd), (Obj.cls_mapFields _ _).trans h2, hd, by simp [h4], by simp [h4], fun hc => ?_⟩
  rw [Array.getElem?_setIfInBounds_ne (by decide)]; exact h6 hc
theorem tb_set {h : Heap} {T : Addr} {x y : Value} (q : Tb T x h) : Tb T y (h.update T (Obj.mapFields (·.setIfInBounds 3 y))) := by
  obtain ⟨oe, vs, h1, h3, h5⟩ := q
  have hd := Obj.data_mapFields h3 (·.setIfInBounds 3 y)
  have hsz : 3 < vs.size := (Array.getElem?_eq_some_iff.mp h5).1
  exact ⟨_, _, Heap.get?_update_self _ h1 (Obj.isFreed_of_fields hd), hd, by simp [hsz]⟩
/-- an exception with its traceback -/
def XT (w : World) (s₀ : Shared) (B₀ : Sto) (L : Addr) (E1 : List (Str × D)) (R K : Ow) (e : Addr) (c : Bool) (x : Value) (B : Sto) (s : Shared) : Prop := ∃ T, FrI w s₀ B₀ L [] E1 [] (((Ow.exc e c (.ref T)).and ((Ow.tb T x).and R)).and K) B s
/-- an exception -/
def XS (w : World) (s₀ : Shared) (B₀ : Sto) (L : Addr) (E1 : List (Str × D)) (R K : Ow) (e : Addr) (c : Bool) (B : Sto) (s : Shared) : Prop :=
  FrI w s₀ B₀ L [] E1 [] (((Ow.exc e c .none).and R).and K) B s ∨ XT w s₀ B₀ L E1 R K e c .none B s ∨ XT w s₀ B₀ L E1 R K e c (rawInt L) B s
theorem XT.fr {K : Ow} {x : Value} (h : XT w s₀ B₀ L E1 R K e c x B s) : FrI w s₀ B₀ L [] E1 [] (R.and K) B s := let ⟨_, F⟩ := h; F.out.out
theorem entry {x : Value} {hn : Bool} {Q : Unit → Shared → Prop} {X : Value → Shared → Prop} (fs : Frs A env envw L Lw) (F : FrI w s₀ B₀ L [] E1 [] (((Ow.exc e c x).and R).and (Ow.frm Lw cl E C O)) B s)
    (h : ∀ s', XT w s₀ B₀ L E1 R (Ow.frm Lw cl E C O) e c (rawInt L) B s' → Q () s') :
    wpAny (MM w) A (do let a ← frameOf env; let pl ← entryPlaceOf L hn; let b ← EntryCells.newEntry x a .none (rawInt L) .none pl; setField (.ref e) 1 b) Q X s := by
  have fL := F.fpo Lw (List.mem_append.mpr (.inr (.head _)))
  have hl : s.heap.FunFrames s₀.heap [env, envw] := by
    obtain ⟨m, ⟨oL, es, ep, hL, hLd, r⟩, hE⟩ := F.loc
    obtain ⟨mw, ⟨oW, esw, epw, hW, hWd, rw'⟩, hEw⟩ := F.own.2.1.1
    exact ⟨fs.k1, ⟨L, oL, fs.f1, F.fresh, hL, fun vs q => by rw [hLd] at q; cases q⟩, fs.k2, ⟨Lw, oW, fs.f2, fL.1, hW, fun vs q => by rw [hWd] at q; cases q⟩, trivial⟩
  refine wpAny_bind (wpAny_frameOf_fun fs.fr hl fs.f1 fun h₁ hs₁ => ?_)
  have hfm : [env, envw].filterMap (·.frame) = [L, Lw] := by simp [fs.f1, fs.f2]
  rw [hfm] at hs₁
  have F1 := F.slots hs₁
  refine wpAny_bind (wpAny_entryPlaceOf fun pl hpl => ?_)
  unfold EntryCells.newEntry newFields
  refine wpAny_bind (wpAny_newObj_type ?_ (hpl.sizeOk5 _ _ _ _ _))
  have F2 := FrI.more (P := Ow.tb h₁.objs.size (rawInt L)) F1 (keeps_push _ { cls := .type "traceback", dict := none, data := .fields ([x, .ref L, .none, rawInt L, .none] ++ (if pl.isEmpty then List.replicate 6 Value.none else pl)).toArray }) (Nat.le_refl _)
    (fun b hb => by rw [List.mem_singleton.mp hb]; exact fresh_size _) (by show [_].Nodup; simp) ⟨_, _, Heap.get?_push_size _ rfl, rfl, by first | (simp; done) | (rcases hpl with rfl | ⟨_, _, _, _, _, _, _, rfl⟩ <;> simp)⟩
  have F3 := F2.asc.rot
  obtain ⟨oe, vs, h1, h2, h3, h4, h5, h6⟩ := F3.own.1.1
  refine wpAny_setField h1 h3 (by rw [h4]; decide) (h _ ⟨_, F3.upd1 (P' := Ow.exc e c (.ref h₁.objs.size)) rfl rfl ?_⟩)
  exact exc_set F3.own.1.1
/-- the frame is noted -/
theorem note {Q : Unit → Shared → Prop} {X : Value → Shared → Prop} (fs : Frs A env envw L Lw) (F : XS w s₀ B₀ L E1 R (Ow.frm Lw cl E C O) e c B s)
    (h : ∀ s', XT w s₀ B₀ L E1 R (Ow.frm Lw cl E C O) e c (rawInt L) B s' → Q () s') : wpAny (MM w) A (noteFrame (.ref e) env) Q X s := by
  unfold noteFrame
  simp only [fs.f1]
  rcases F with F | ⟨T, F⟩ | ⟨T, F⟩
  · obtain ⟨oe, vs, h1, h2, h3, h4, h5, h6⟩ := F.own.1.1
    refine wpAny_bind (wpAny_field h1 h3 h5 ?_)
    rw [if_neg (by decide)]
    exact entry fs F h
  · obtain ⟨oe, vs, h1, h2, h3, h4, h5, h6⟩ := F.own.1.1
    obtain ⟨oT, ts, t1, t2, t3⟩ := F.own.1.2.1
    refine wpAny_bind (wpAny_field h1 h3 h5 ?_)
    rw [if_pos (show (Value.ref T != Value.none) = true from by simp)]
    refine wpAny_bind (wpAny_field t1 t2 t3 ?_)
    rw [if_neg (show ¬ ((Value.none == rawInt L) = true) from by simp [rawInt])]
    refine wpAny_bind (wpAny_setField t1 t2 (Array.getElem?_eq_some_iff.mp t3).1 ?_)
    exact entry fs (F.rot.upd1 (P' := Ow.tb T .none) rfl rfl (tb_set F.own.1.2.1)).out h
  · obtain ⟨oe, vs, h1, h2, h3, h4, h5, h6⟩ := F.own.1.1
    obtain ⟨oT, ts, t1, t2, t3⟩ := F.own.1.2.1
    refine wpAny_bind (wpAny_field h1 h3 h5 ?_)
    rw [if_pos (show (Value.ref T != Value.none) = true from by simp)]
    refine wpAny_bind (wpAny_field t1 t2 t3 ?_)
    rw [if_pos (show (rawInt L == rawInt L) = true from by simp)]
    exact wpAny_pure (h s ⟨T, F⟩)
theorem flight {K : Ow} {x : Value} {f : Option Addr} {Q : Unit → Shared → Prop} {X : Value → Shared → Prop} (F : XT w s₀ B₀ L E1 R K e c x B s)
    (h : ∀ s', XT w s₀ B₀ L E1 R K e c (f.elim .none fun f => rawInt f) B s' → Q () s') : wpAny (MM w) A (setFlight (.ref e) f) Q X s := by
  obtain ⟨T, F⟩ := F
  obtain ⟨oe, vs, h1, h2, h3, h4, h5, h6⟩ := F.own.1.1
  obtain ⟨oT, ts, t1, t2, t3⟩ := F.own.1.2.1
  unfold setFlight
  refine wpAny_bind (wpAny_field h1 h3 h5 ?_)
  rw [if_pos (show (Value.ref T != Value.none) = true from by simp)]
  exact wpAny_setField t1 t2 (Array.getElem?_eq_some_iff.mp t3).1 (h _ ⟨T, (F.rot.upd1 (P' := Ow.tb T _) rfl rfl (tb_set F.own.1.2.1)).rot⟩)
theorem XT.there {K : Ow} {x : Value} (F : XT w s₀ B₀ L E1 R K e c x B s) {α : Type} {Q : α → Shared → Prop} {X : Value → Shared → Prop} {m k : Sem α} (h : wpAny (MM w) A k Q X s) : wpAny (MM w) A (do if (← field (.ref e) 1) == .none then m else k) Q X s := by
  obtain ⟨T, F⟩ := F
  obtain ⟨oe, vs, h1, h2, h3, h4, h5, h6⟩ := F.own.1.1
  refine wpAny_bind (wpAny_field h1 h3 h5 ?_)
  rw [if_neg (show ¬ (Value.ref T == Value.none) = true from by simp)]
  exact h
theorem cameBack {K : Ow} {x : Value} {X : Value → Shared → Prop} (hf : env.frame = some L) (F : XT w s₀ B₀ L E1 R K e c x B s)
    (h : ∀ s', XT w s₀ B₀ L E1 R K e c (rawInt L) B s' → X (.ref e) s') : cameBackBy (MM w) A env X (.ref e) s := by
  unfold cameBackBy
  obtain ⟨T, F⟩ := F
  obtain ⟨oe, vs, h1, h2, h3, h4, h5, h6⟩ := F.own.1.1
  refine wpAny_bind (wpAny_field h1 h3 h5 ?_)
  rw [if_neg (show ¬ (Value.ref T == Value.none) = true from by simp)]
  rw [hf]
  exact flight (f := some L) ⟨T, F⟩ h
theorem pass {K : Ow} {α : Type} {what : String} {x : Value} {Q : α → Shared → Prop} {X : Value → Shared → Prop} (hf : env.frame = some L) (F : XT w s₀ B₀ L E1 R K e c x B s)
    (h : ∀ s', XT w s₀ B₀ L E1 R K e c (rawInt L) B s' → X (.ref e) s') : wpAny (MM w) A (PySem.passOn what (.ref e) env) Q X s := by
  unfold PySem.passOn
  obtain ⟨T, F⟩ := F
  obtain ⟨oe, vs, h1, h2, h3, h4, h5, h6⟩ := F.own.1.1
  refine wpAny_bind (wpAny_field h1 h3 h5 ?_)
  rw [if_neg (show ¬ (Value.ref T == Value.none) = true from by simp)]
  rw [hf]
  exact wpAny_bind (flight (f := some L) ⟨T, F⟩ fun s' q => wpAny_throw (h s' q))
end
end Mine
end
section
open PySem PySem.W PySem.Spec PySem.Calls PyProof.Rows
set_option maxRecDepth 100000
namespace Mine

/-! raising -/
structure NE (h h' : Heap) (e : Addr) (c : Bool) : Prop where
  keeps : ∀ b o, h.get? b = some o → h'.get? b = some o
  new : h.get? e = none
  exc : Exc0 e c .none h'
theorem unchain_entry : entryFor table "proto.unchain" = some Builtin.«proto.unchain» := entryFor_of_tree (by kernel_rfl)
theorem own_IndexError (args : List Value) : ownMembersOf (.type "IndexError") args = #[] := plainExc_IndexError.own args
theorem raise0 {w : World} {A : Around} {α : Type} {msg : String} {s : Shared} {Q : α → Shared → Prop} {X : Value → Shared → Prop} (hA : A.handled = none)
    (h : ∀ h' tk e, NE s.heap h' e true → X (.ref e) { s with heap := h', toks := tk }) : wpAny (MM w) A (raiseErrorWords "IndexError" msg : Sem α) Q X s :=
  wpAny_raiseErrorWords plainExc_IndexError hA fun h' tk e n => h h' tk e ⟨n.keeps, n.new, let ⟨ob, t, h1, h2, h3⟩ := n.there; ⟨ob, _, h1, h2, h3, rfl, rfl, fun _ => rfl⟩⟩
theorem raise1 {w : World} {A : Around} {α : Type} {msg : String} {s : Shared} {Q : α → Shared → Prop} {X : Value → Shared → Prop} {g : Addr} {x : Value} (hA : A.handled = some (.ref g)) (hg : Exc0 g true x s.heap)
    (h : ∀ h' tk e, NE s.heap h' e false → X (.ref e) { s with heap := h', toks := tk }) : wpAny (MM w) A (raiseErrorWords "IndexError" msg : Sem α) Q X s := by
  unfold raiseErrorWords
  refine wpAny_bind (wpAny_mkText (wpAny_bind ?_))
  unfold newExc newTuple
  refine wpAny_bind (wpAny_newObj_type ?_)
  refine wpAny_bind (m := firstArgMember _ _) (wpAny_of_eq (a := Value.none) (by simp only [firstArgMember, plainExc_IndexError.first]; rfl) ?_)
  rw [own_IndexError]
  refine wpAny_newObj_type ?_
  unfold raiseNew
  refine wpAny_bind (wpAny_handled ?_)
  rw [hA]
  obtain ⟨oe, vs, h1, h2, h3, h4, h5, h6⟩ := hg
  have k1 := Heap.get?_push_of_some (h := s.heap) { cls := .type "tuple", data := .seq #[Value.str (Str.ofString msg) s.toks] } h1
  have hne : (Value.ref g != Value.ref (s.heap.push { cls := .type "tuple", data := .seq #[Value.str (Str.ofString msg) s.toks] }).objs.size) = true := by
    have : g ≠ (s.heap.push { cls := .type "tuple", data := .seq #[Value.str (Str.ofString msg) s.toks] }).objs.size := Nat.ne_of_lt (Heap.lt_size k1)
    simpa using this
  simp only []
  rw [if_pos hne]
  generalize hh1 : s.heap.push { cls := .type "tuple", data := .seq #[Value.str (Str.ofString msg) s.toks] } = h₁ at k1 ⊢
  have k2 := Heap.get?_push_of_some (h := h₁) { cls := Value.type "IndexError", data := Data.fields (#[Value.ref s.heap.objs.size, Value.none, Value.none, Value.none, Value.bool false, Value.none] ++ #[]) } k1
  refine wpAny_bind (wpAny_holding (wpAny_runValue (codeAny_builtin unchain_entry ?_)))
  unfold Builtin.«proto.unchain»
  refine wpAny_bind (wpAny_field k2 h3 (h6 rfl) ?_)
  refine wpAny_pure ?_
  have e2 := Heap.get?_push_size h₁ (o := { cls := Value.type "IndexError", data := Data.fields (#[Value.ref s.heap.objs.size, Value.none, Value.none, Value.none, Value.bool false, Value.none] ++ #[]) }) rfl
  refine wpAny_bind (wpAny_setField (a := h₁.objs.size) e2 rfl (by simp) (wpAny_throw (h _ _ _ ⟨fun b o hb => ?_, ?_, ?_⟩)))
  · have hb1 : h₁.get? b = some o := hh1 ▸ Heap.get?_push_of_some _ hb
    rw [Heap.get?_update_other _ _ (Nat.ne_of_gt (Heap.lt_size hb1))]
    exact Heap.get?_push_of_some _ hb1
  · rw [← hh1]; exact Heap.get?_none_of_le (by simp)
  · have hd := Obj.data_mapFields (o := { cls := Value.type "IndexError", data := Data.fields (#[Value.ref s.heap.objs.size, Value.none, Value.none, Value.none, Value.bool false, Value.none] ++ #[]) }) rfl (·.setIfInBounds 2 (Value.ref g))
    exact ⟨_, _, Heap.get?_update_self _ e2 (Obj.isFreed_of_fields hd), Obj.cls_mapFields _ _, hd, rfl, rfl, fun q => by cases q⟩

/-- whoever raises here, raises so -/
def Rz (w : World) (A : Around) (c : Bool) (s : Shared) : Prop := ∀ (α : Type) (A' : Around) (msg : String) (Q : α → Shared → Prop) (X : Value → Shared → Prop), A'.handled = A.handled →
  (∀ h' tk e, NE s.heap h' e c → X (.ref e) { s with heap := h', toks := tk }) → wpAny (MM w) A' (raiseErrorWords "IndexError" msg : Sem α) Q X s
theorem Rz.zero {w : World} {A : Around} {s : Shared} (hA : A.handled = none) : Rz w A true s := fun _ _ _ _ _ h k => raise0 (h.trans hA) k
theorem Rz.one {w : World} {A : Around} {s : Shared} {g : Addr} {x : Value} (hA : A.handled = some (.ref g)) (hg : Exc0 g true x s.heap) : Rz w A false s := fun _ _ _ _ _ h k => raise1 (h.trans hA) hg k
theorem getItem_out {w : World} {A : Around} {s : Shared} {c : Bool} {l : Addr} {items : Array Value} {k : Int} {j : Nat} {t : Tok} {Q : Value → Shared → Prop} {X : Value → Shared → Prop} (hj : k = Int.ofNat j) (rz : Rz w A c s) (hl : s.heap.IsList l items) (hout : items.size ≤ j) (h0 : 0 ≤ k) (hhi : k < 2 ^ 63)
    (h : ∀ h' tk e, NE s.heap h' e c → X (.ref e) { s with heap := h', toks := tk }) : wpAny (MM w) A (getItem (.ref l) (.int k t)) Q X s := by
  obtain ⟨o, ho, hc, ne, hd⟩ := id hl
  unfold getItem
  try with_reducible refine wpAny_holding ?_
  first | refine wpAny_bind (wpAny_pure ?_) | skip
  refine wpAny_bind (wpAny_sequenceKey hl.typeIs (by decide) ?_)
  refine wpAny_bind (wpAny_callSpecial?_slot (name := Str.ofString "__getitem__") hl.typeIs slot_list_getitem
    (wpAny_call_entry slot_list_getitem hl.typeIs entry_list_getitem ?_ (args_list_getitem _ _)))
  show wpAny _ _ (Builtin.List.listSubscript? (.int k t) >>= _) _ _ s
  refine wpAny_bind (wpAny_listSubscript_int (fitsIndex_both (by omega) hhi) ?_)
  clear hhi
  subst hj
  have hx : items[j]? = none := Array.getElem?_eq_none hout
  show wpAny _ _ ((seqItemAt l j >>= fun r => pure (r.map (j, ·))) >>= _) _ _ s
  refine wpAny_bind (wpAny_bind (wpAny_seqItemAt ho hd (wpAny_pure ?_)))
  rw [hx]
  first
    | exact wpAny_bind (wpAny_rule (rz _ _ _ _ _ rfl h))
    | exact wpAny_bind (wpAny_rule (wpAny_bind (rz _ _ _ _ _ rfl h)))
    | exact wpAny_bind (wpAny_bind (wpAny_rule (rz _ _ _ _ _ rfl h)))
    | exact wpAny_rule (rz _ _ _ _ _ rfl h)

/-! judgments with raising -/
section
variable {w : World} {A : Around} {env : Env} {I I' : Sto → Shared → Prop} {J J' : Fl → Sto → Shared → Prop} {X X' : Addr → Sto → Shared → Prop}
def RsE (w : World) (A : Around) (env : Env) (I : Sto → Shared → Prop) (e : Expr) (X : Addr → Sto → Shared → Prop) : Prop :=
  ∀ (B : Sto) (s : Shared) (Q E : Value → Shared → Prop), I B s → (∀ x B' s', X x B' s' → Le B B' → E (.ref x) s') → wpAny (MM w) A (eval e env) Q E s
def RsT (w : World) (A : Around) (env : Env) (I : Sto → Shared → Prop) (e : Expr) (X : Addr → Sto → Shared → Prop) : Prop :=
  ∀ (B : Sto) (s : Shared) (Q : Bool → Shared → Prop) (E : Value → Shared → Prop), I B s → (∀ x B' s', X x B' s' → Le B B' → E (.ref x) s') → wpAny (MM w) A (isTrue e env (eval e env)) Q E s
def XEx (w : World) (A : Around) (env : Env) (I : Sto → Shared → Prop) (st : Stmt) (J : Fl → Sto → Shared → Prop) (X : Addr → Sto → Shared → Prop) : Prop :=
  ∀ (B : Sto) (s : Shared) (Q : Flow → Shared → Prop) (E : Value → Shared → Prop), I B s → (∀ f fl B' s', FlV B' f fl → J fl B' s' → Le B B' → Q f s') → (∀ x B' s', X x B' s' → Le B B' → E (.ref x) s') → wpAny (MM w) A (exec st env) Q E s
def XExs (w : World) (A : Around) (env : Env) (I : Sto → Shared → Prop) (ss : List Stmt) (J : Fl → Sto → Shared → Prop) (X : Addr → Sto → Shared → Prop) : Prop :=
  ∀ (B : Sto) (s : Shared) (Q : Flow → Shared → Prop) (E : Value → Shared → Prop), I B s → (∀ f fl B' s', FlV B' f fl → J fl B' s' → Le B B' → Q f s') → (∀ x B' s', X x B' s' → Le B B' → E (.ref x) s') → wpAny (MM w) A (execs ss env) Q E s
theorem XEx.of {st : Stmt} (h : Ex w A env I st J) : XEx w A env I st J X := fun B s Q E i k _ => h B s Q E i k
theorem XExs.nil (h : ∀ B s, I B s → J .next B s) : XExs w A env I [] J X := fun B s _ _ i k _ => wpAny_execs_nil (k _ _ B s .next (h B s i) (Le.refl B))
theorem XExs.on {st : Stmt} {ss : List Stmt} (h : XEx w A env I st (On I') X) (hn : XExs w A env I' ss J X) : XExs w A env I (st :: ss) J X := by
  intro B s Q E i k kx
  refine wpAny_execs_cons (h B s _ _ i (fun f fl B' s' hf hj le => ?_) fun x B' s' q le => kx x B' s' q le)
  cases hf with
  | next => exact hn B' s' _ _ hj (fun f fl B'' s'' hf hj le' => k f fl B'' s'' hf hj (le.trans le')) fun x B'' s'' q le' => kx x B'' s'' q (le.trans le')
  | brk => exact hj.elim
  | cont => exact hj.elim
  | ret v => exact hj.elim
theorem XExs.one {st : Stmt} (h : XEx w A env I st (On I') X) (hn : ∀ B s, I' B s → J .next B s) : XExs w A env I [st] J X := .on h (.nil hn)
theorem XEx.If {test : Expr} {body orelse : List Stmt} {pos : Pos} {b : Bool} (hc : Cl w I) (t : Tr w A env I test b) (h1 : b = true → XExs w A env I body J X) (h2 : b = false → XExs w A env I orelse J X) : XEx w A env I (.If test body orelse pos) J X := by
  intro B s Q E i k kx
  refine wpAny_If (t B s _ _ i fun B' s' g => ?_)
  cases b with
  | true => exact h1 rfl B' s' _ _ (hc.grow i g) (fun f fl B'' s'' hf hj le => k f fl B'' s'' hf hj (g.le.trans le)) fun x B'' s'' q le => kx x B'' s'' q (g.le.trans le)
  | false => exact h2 rfl B' s' _ _ (hc.grow i g) (fun f fl B'' s'' hf hj le => k f fl B'' s'' hf hj (g.le.trans le)) fun x B'' s'' q le => kx x B'' s'' q (g.le.trans le)
theorem XEx.setR {x : Str} {p pos : Pos} {e : Expr} (h : RsE w A env I e X) (hs : swapsWith e (some (.Name x p)) pos.line env = pure false := by rfl) : XEx w A env I (.Assign [.Name x p] e pos) J X :=
  fun B s Q E i _ kx => wpAny_Assign_Name (h B s _ _ i kx) hs
theorem RsT.cmpL {l r : Expr} {cop : CmpOp} {pos : Pos} (h : RsE w A env I l X) (hm : behindInMarks cop r = false := by with_unfolding_all rfl) : RsT w A env I (.Compare l [cop] [r] pos) X :=
  fun B s Q E i kx => wpAny_isTrue_Compare1 (h B s _ _ i kx) hm
theorem RsE.itm {value slice : Expr} {pos : Pos} {ds : List D} {k : Nat} {c : Bool} (hc : Cl w I) (h1 : Ev w A env I value (.lst ds)) (h2 : Ev w A env I slice (.int (k : Int))) (hk : ds.length ≤ k) (hf : (k : Int) < 2 ^ 63) (rz : ∀ B s, I B s → Rz w A c s)
    (hx : ∀ B s, I B s → ∀ h' tk e, NE s.heap h' e c → s.toks ≤ tk → X e B { s with heap := h', toks := tk }) (hs : ∀ o i, subscripted slice false o i = operate [o, i] (getItem o i) := by intro _ _; with_unfolding_all rfl) : RsE w A env I (.Subscript value slice pos) X := by
  intro B s Q E i kx
  refine Subscript_ (h1 B s _ _ i fun v1 B1 s1 g1 hv1 => h2 B1 s1 _ _ (hc.grow i g1) fun v2 B2 s2 g2 hv2 => ?_)
  have i2 := hc.grow (hc.grow i g1) g2
  obtain ⟨a, vs, n, rfl, ha, hvs⟩ := (hv1.mono g2.le).inv_lst
  obtain ⟨t, rfl⟩ := hv2.inv_int
  have hl := isList_of (hc.sub i2 _ _ ha)
  refine tail_any hl.typeIs slot_list_getitem.lookup (wpAny_with_toks (Nat.le_refl s2.toks) (getItem_out (j := k) rfl (rz B2 s2 i2) hl (by simpa [hvs.length] using hk) (by omega) hf fun h' tk e ne ht => kx e B2 _ (hx B2 s2 i2 h' tk e ne ht) (g1.le.trans g2.le))) (hs _ _)
theorem XEx.whF {test : Expr} {body : List Stmt} {pos : Pos} (hc : Cl w I) (t : Tr w A env I test false) (h : ∀ B s, I B s → J .next B s) : XEx w A env I (.While test body [] pos) J X := by
  intro B s Q E i k kx
  refine wpAny_While (codeAny_whileLoop (fun m s' => s' = s) ?_ 0 rfl)
  rintro m s' rfl
  exact t B s' _ _ i fun B2 s2 g2 => wpAny_execs_nil (k _ _ B2 s2 .next (h _ _ (hc.grow i g2)) g2.le)
end
end Mine
end
section
open PySem PySem.W PySem.Spec PySem.Calls PyProof.Rows
set_option maxRecDepth 100000
namespace Mine

section
variable {w : World} {A : Around} {env envw : Env} {s₀ : Shared} {B₀ : Sto} {L Lw : Addr} {cl : List (Str × Addr)} {E C : List (Str × D)} {O : Ow} {I I' : Sto → Shared → Prop} {J J' : Fl → Sto → Shared → Prop} {G G1 : List (Str × D) → Ow → Bool → Prop}
/-- an exception, and the frame is in a good way -/
def XG (w : World) (s₀ : Shared) (B₀ : Sto) (L : Addr) (K : Ow) (G : List (Str × D) → Ow → Bool → Prop) (e : Addr) (B : Sto) (s : Shared) : Prop := ∃ E' R' c, G E' R' c ∧ XS w s₀ B₀ L E' R' K e c B s
def XGT (w : World) (s₀ : Shared) (B₀ : Sto) (L : Addr) (K : Ow) (G : List (Str × D) → Ow → Bool → Prop) (e : Addr) (B : Sto) (s : Shared) : Prop := ∃ E' R' c x, G E' R' c ∧ XT w s₀ B₀ L E' R' K e c x B s
theorem XG.up {K : Ow} {e : Addr} {B : Sto} {s : Shared} {E' : List (Str × D)} {R' : Ow} {c : Bool} (g : G E' R' c) (h : XT w s₀ B₀ L E' R' K e c (rawInt L) B s) : XG w s₀ B₀ L K G e B s := ⟨E', R', c, g, .inr (.inr h)⟩
theorem XT.clos {K R' : Ow} {E' : List (Str × D)} {e : Addr} {c : Bool} {x : Value} : Cl w (XT w s₀ B₀ L E' R' K e c x) :=
  ⟨fun ⟨_, F⟩ => F.sub, fun ⟨_, F⟩ => FrI.clo.gd F, fun ⟨T, F⟩ g => ⟨T, FrI.clo.grow F g⟩⟩
/-- the while's test raises -/
theorem XEx.whR {test : Expr} {body : List Stmt} {pos : Pos} (fs : Frs A env envw L Lw) (t : RsT w A env I test (XG w s₀ B₀ L (Ow.frm Lw cl E C O) G)) : XEx w A env I (.While test body [] pos) J (XG w s₀ B₀ L (Ow.frm Lw cl E C O) G) := by
  intro B s Q X i k kx
  refine wpAny_While (codeAny_whileLoop (fun m s' => s' = s) ?_ 0 rfl)
  rintro m s' rfl
  refine t B s' _ _ i fun e B2 s2 ⟨E', R', c, g, hx⟩ le => ?_
  exact note fs hx fun s3 h3 => cameBack fs.f1 h3 fun s4 h4 => kx e B2 s4 (.up g h4) le
/-- try .. finally -/
theorem XEx.fin {body : List Stmt} {f₀ : Stmt} {fl₀ : List Stmt} {pos : Pos} (fs : Frs A env envw L Lw) (hb : XExs w A env I body (On I') (XG w s₀ B₀ L (Ow.frm Lw cl E C O) G1)) (hn : XExs w A env I' (f₀ :: fl₀) (On (J .next)) (XG w s₀ B₀ L (Ow.frm Lw cl E C O) G))
    (hr : ∀ e E' R' c, G1 E' R' c → XExs w (A.mark (some (.ref e))) env (XT w s₀ B₀ L E' R' (Ow.frm Lw cl E C O) e c .none) (f₀ :: fl₀) (On (XGT w s₀ B₀ L (Ow.frm Lw cl E C O) G e)) (XG w s₀ B₀ L (Ow.frm Lw cl E C O) G)) :
    XEx w A env I (.Try body [] [] (f₀ :: fl₀) pos) J (XG w s₀ B₀ L (Ow.frm Lw cl E C O) G) := by
  intro B s Q X i k kx
  refine wpAny_Try_finally (hb B s _ _ i (fun f fl B1 s1 hf hj le => ?_) fun e B1 s1 ⟨E', R', c, g, hx⟩ le => ?_)
  · cases hf with
    | next =>
      refine wpAny_execs_nil (hn B1 s1 _ _ hj (fun f fl B2 s2 hf hj le2 => ?_) fun e B2 s2 ⟨E', R', c, g, hx⟩ le2 => ?_)
      · cases hf with
        | next => exact k _ _ B2 s2 .next hj (le.trans le2)
        | brk => exact hj.elim
        | cont => exact hj.elim
        | ret _ => exact hj.elim
      · exact note fs hx fun s3 h3 => cameBack fs.f1 h3 fun s4 h4 => kx e B2 s4 (.up g h4) (le.trans le2)
    | brk => exact hj.elim
    | cont => exact hj.elim
    | ret _ => exact hj.elim
  · refine note fs hx fun s2 h2 => ⟨ref_ne_byPass _, note fs (.inr (.inr h2)) fun s3 h3 => flight (f := none) h3 fun s4 h4 => ?_⟩
    refine hr e E' R' c g B1 s4 _ _ h4 (fun f fl B5 s5 hf hj le5 => ?_) fun e' B5 s5 ⟨E'', R'', c'', g'', hx''⟩ le5 => ?_
    · cases hf with
      | next =>
        obtain ⟨E'', R'', c'', x, g'', hx''⟩ := hj
        exact pass fs.f1 hx'' fun s6 h6 => kx e B5 s6 (.up g'' h6) (le.trans le5)
      | brk => exact hj.elim
      | cont => exact hj.elim
      | ret _ => exact hj.elim
    · exact note (fs.mark _) hx'' fun s6 h6 => cameBack fs.f1 h6 fun s7 h7 => kx e' B5 s7 (.up g'' h7) (le.trans le5)
theorem exc_is : isSubtype (.type "IndexError") (.type "BaseException") = pure true := by rw [isSubtype_type]; kernel_rfl
theorem exc_not : isSubtype (.type ((Manifest.find? "IndexError").elim "type" fun x => x.metatype)) (.type "tuple") = pure false := by rw [isSubtype_type]; kernel_rfl
theorem exc_self : isSubtype (.type "IndexError") (.type "IndexError") = pure true := by rw [isSubtype_type]; kernel_rfl
/-- try .. except IndexError -/
theorem Ex.exc {body : List Stmt} {b₀ : Stmt} {bs : List Stmt} {pos hpos : Pos} {t : Expr} (fs : Frs A env envw L Lw) (hb : XExs w A env I body J (XG w s₀ B₀ L (Ow.frm Lw cl E C O) G1))
    (ht : ∀ e E' R' c, Ev w (A.mark (some (.ref e))) env (XT w s₀ B₀ L E' R' (Ow.frm Lw cl E C O) e c .none) t (.val (.type "IndexError")))
    (hr : ∀ e E' R' c, G1 E' R' c → Exs w (A.mark (some (.ref e))) env (FrI w s₀ B₀ L [] E' [] (R'.and (Ow.frm Lw cl E C O))) (b₀ :: bs) J) :
    Ex w A env I (.Try body [.ExceptHandler (some t) none (b₀ :: bs) hpos] [] [] pos) J := by
  intro B s Q X i k
  refine wpAny_Try_except (hb B s _ _ i (fun f fl B1 s1 hf hj le => ?_) fun e B1 s1 ⟨E', R', c, g, hx⟩ le => ?_)
  · cases hf with
    | next => exact wpAny_execs_nil (k _ _ B1 s1 .next hj le)
    | brk => exact k _ _ B1 s1 .brk hj le
    | cont => exact k _ _ B1 s1 .cont hj le
    | ret v => exact k _ _ B1 s1 (.ret v) hj le
  · refine note fs hx fun s2 h2 => flight (f := none) h2 fun s3 h3 => ?_
    refine wpAny_handleBy_builtin exc_is exc_not exc_self (ht e E' R' c B1 s3 _ _ h3 fun v B4 s4 g4 hv => ?_)
    cases hv.inv_val
    have h4 := XT.clos.grow h3 g4
    refine ⟨rfl, ?_, ?_⟩
    · obtain ⟨T, F⟩ := h4
      obtain ⟨oe, vs, q1, q2, _⟩ := F.own.1.1
      exact ⟨oe, q1, q2⟩
    · rw [if_pos rfl]
      exact flight (f := none) h4 fun s5 h5 => hr e E' R' c g B4 s5 _ _ h5.fr fun f fl B6 s6 hf hj le6 => k f fl B6 s6 hf hj (le.trans (g4.le.trans le6))
end

/-! list.extend of an owned list -/
section
variable {w : World} {A : Around} {env : Env} {s₀ : Shared} {B₀ : Sto} {L : Addr} {cl : List (Str × Addr)} {E C : List (Str × D)} {O O' : Ow} {x : Str} {p ap pos pos' : Pos} {d : D} {e : Expr} {a : Addr} {ds ds2 : List D}
theorem mapSeq_ext {xs ys : Array Value} {n : Nat} : ∃ m, Obj.mapSeq (fun x => x ++ ys) (lstObj xs.toList n) = lstObj (xs ++ ys).toList m := by
  refine ⟨if ys = #[] then n else n + 1, ?_⟩
  unfold lstObj Obj.mapSeq
  simp
theorem FrI.ext {B : Sto} {s : Shared} {v : Value} {Q R : Value → Shared → Prop} (F : FrI w s₀ B₀ L cl E C O B s) (H : Has a ds (ds ++ ds2) O O') (hv : V B v (.lst ds2)) (hsz : ds.length + ds2.length ≤ 10000) (k : ∀ s', FrI w s₀ B₀ L cl E C O' B s' → Q .none s') :
    wpAny (MM w) A (call (.builtin "list.extend") [.ref a, v]) Q R s := by
  obtain ⟨vs, n, ha, hvs⟩ := H.get F.own
  obtain ⟨b, us, n2, rfl, hb, hus⟩ := hv.inv_lst
  have hsl : sizeLine = 16777216 := by decide
  have hsz' : vs.toArray.size + us.toArray.size ≤ sizeLine := by rw [List.size_toArray, List.size_toArray, hvs.length, hus.length]; omega
  have hbne : b ≠ a := fun q => by have := (F.fpo a H.mem).2.1; rw [← q, hb] at this; cases this
  refine call_meets PySem.F.slot_list_extend ⟨_, ha, rfl⟩ PySem.F.entry_list_extend (PySem.F.args_list_extend_2 _ _) (AutoSeq1.list_extend_list_list_0 a vs.toArray n b us.toArray n2 (extend_door hsz') (by omega) (by omega)) ⟨ha, F.sub _ _ hb, ?_⟩
  obtain ⟨m, em⟩ := mapSeq_ext (xs := vs.toArray) (ys := us.toArray) (n := n)
  have hother : ∀ b' o, b' ≠ a → s.heap.get? b' = some o → (s.heap.update a (Obj.mapSeq fun x => x ++ us.toArray)).get? b' = some o := fun b' o hb' e => (Heap.get?_update_other _ _ (Ne.symm hb')).trans e
  have hsb5 : Sub B (s.heap.update a (Obj.mapSeq fun x => x ++ us.toArray)) := fun b' o e => hother b' o (fun q => by have := (F.fpo a H.mem).2.1; rw [q, this] at e; cases e) (F.sub b' o e)
  refine k _ (F.change (O' := O') (tk := s.toks) (fun b' o hb' e => hother b' o (fun q => hb' (q ▸ H.mem)) e) (Nat.le_refl _) (fun b hb => H.fp ▸ hb) (H.fp ▸ F.nod) ?_)
  refine H.set (vs := vs ++ us) (n := m) F.nod F.own hsb5 hother ?_ (hvs.append hus)
  have em' : Obj.mapSeq (fun x => x ++ us.toArray) (lstObj vs n) = lstObj (vs ++ us) m := by simpa using em
  rw [Heap.get?_update_self _ ha (by rw [em']; rfl), em']
theorem Ex.ext {pl : Sem Bool} (hx : Ev w A env (FrI w s₀ B₀ L cl E C O) (.Name x p) (.val (.ref a))) (h : Ev w A env (FrI w s₀ B₀ L cl E C O) e (.lst ds2)) (H : Has a ds (ds ++ ds2) O O') (hsz : ds.length + ds2.length ≤ 10000)
    (hs : starEach [e] env = [(false, eval e env)] := by rfl) (hi : interactive env = false := by rfl) (hsw : swapsWith (.Call (.Attribute (.Name x p) "extend" ap) [e] [] pos) none pos'.line env = pure false := by rfl)
    (he : eval (.Call (.Attribute (.Name x p) "extend" ap) [e] [] pos) env = (do
      let ov ← eval (.Name x p) env
      standAt ap.atName
      let (f, first) ← holding [ov] (getMethod ov "extend" pl)
      callWith pos f first (backTo pos (starEach [e] env)) []) := by rfl) :
    Ex w A env (FrI w s₀ B₀ L cl E C O) (.Expr (.Call (.Attribute (.Name x p) "extend" ap) [e] [] pos) pos') (On (FrI w s₀ B₀ L cl E C O')) := by
  intro B s Q R F k
  refine wpAny_Expr (MethodCall_ (pl := pl) (hx B s _ _ F fun v B1 s1 g1 hv => ?_) he) hi hsw
  cases hv.inv_val
  have F1 := FrI.clo.grow F g1
  obtain ⟨vs, n, ha, hvs⟩ := H.get F1.own
  refine getMethod_builtin (T := "list") ⟨_, ha, rfl⟩ PySem.F.plainAttrs_list PySem.F.slot_list_extend PySem.F.type_list_extend (fun b e => by cases e; exact ⟨_, ha, rfl⟩) ?_
  have hst : ((backTo pos (starEach [e] env)).any (·.1)) = false := by rw [hs]; rfl
  refine Calls.callWith_builtin hst (evalArgs_any hst (args_cons (h B1 s1 _ _ F1 fun v2 B2 s2 g2 hv2 => args_nil ?_) (by rw [hs]; rfl)))
  exact FrI.ext (FrI.clo.grow F1 g2) H hv2 hsz fun s' F' => k _ _ B2 s' .next F' (g1.le.trans g2.le)
end
end Mine
end
section
open PySem PySem.W PySem.Spec PySem.Calls PyProof.Rows
set_option maxRecDepth 100000
namespace Mine

/-! _law_way -/
def sL (l : List Str) : D := .lst (l.map .str)
def way (ns : List Str) : Str := ns.foldl jn (Str.ofString "/")
theorem jn_len (a b : Str) : (jn a b).length ≤ a.length + b.length + 1 := by
  unfold jn
  split
  · omega
  · split
    · rw [Str.length_append]; omega
    · rw [Str.length_append, Str.length_append, slash_len]; omega
theorem way_len : ∀ (ns : List Str) (a : Str), (∀ n ∈ ns, n.length ≤ 100) → (ns.foldl jn a).length ≤ a.length + 101 * ns.length
  | [], a, _ => Nat.le_refl _
  | n :: ns, a, h => by
    have h1 := way_len ns (jn a n) fun m hm => h m (.tail _ hm)
    have h2 := jn_len a n
    have h3 := h n (.head _)
    rw [List.foldl_cons, List.length_cons]
    omega
theorem way_snoc (ns : List Str) {i : Nat} {n : Str} (h : ns[i]? = some n) : way (ns.take (i + 1)) = jn (way (ns.take i)) n := by
  unfold way
  rw [List.take_add_one, h, List.foldl_append]
  rfl
theorem sL_get {l : List Str} {i : Nat} {d : D} (h : (l.map D.str)[i]? = some d) : ∃ n, l[i]? = some n ∧ d = .str n := by
  rw [List.getElem?_map] at h
  cases q : l[i]? with
  | none => rw [q] at h; cases h
  | some n => rw [q] at h; cases h; exact ⟨n, rfl, rfl⟩
set_option maxHeartbeats 2000000 in
theorem way_fn (w : World) (ns : List Str) (hn : ns.length ≤ 100) (hs : ∀ n ∈ ns, n.length ≤ 100) : Fn w 3 177 [sL ns] (.str (way ns)) := by
  refine Fn.intro [Str.ofString "names"] rfl (by kernel_rfl) (fun vs h => ?_) (by decide) rfl (by decide) (by decide) ?_
  · match vs, h with
    | [v], _ => rfl
  · intro A s₀ B₀ L rm
    refine .on (.setL (.cstr FrI.clo)) ?_
    refine .on (Ex.forN (ds := ns.map .str) (fun i => [(Str.ofString "path", .str (way (ns.take i))), (Str.ofString "names", sL ns)]) (fun _ => []) (fun _ => Ow.nil) (.locF rfl) (.lst rm.hd) ?_) ?_
    · intro i d P hd
      obtain ⟨n, hi, rfl⟩ := sL_get hd
      refine ⟨_, .loc, ?_⟩
      have hlen : (way (ns.take i)).length + n.length + 10 ≤ 10000000 := by
        have h1 := way_len (ns.take i) (Str.ofString "/") fun m hm => hs m (List.mem_of_mem_take hm)
        have h2 := hs n (List.mem_of_getElem? hi)
        have h3 : (ns.take i).length ≤ ns.length := List.length_take_le' ..
        rw [slash_len] at h1
        unfold way
        omega
      rw [way_snoc ns hi]
      exact .on (.setL (.call FrI.clo rm (join_fn w _ _ hlen) (.glob FrI.clo (gl_join w)) rfl rfl (.cons FrI.clo (.locF rfl) (.cons FrI.clo (.locF rfl) (.nil FrI.clo))))) (.nil fun B s F => F.weak (.cons rfl (.cons rfl .nil)) .nil)
    · rw [List.length_map, List.take_length]
      exact .ret FrI.clo (.locF rfl) fun B s F => ⟨rfl, F.done⟩
end Mine
end
section
open PySem PySem.W PySem.Spec PySem.Calls PyProof.Rows
set_option maxRecDepth 100000
namespace Mine
/-! tuples of a text and an int in their order -/
section
variable {prog : Program} {w : World} {A : Around} {E : Value → Shared → Prop} {s : Shared} {Q : Value → Shared → Prop}
theorem rc_ltS {x y : Str} {t u : Tok} (h : Q (.bool (decide (x.cps.toList < y.cps.toList))) s) : wpAny (model prog w) A (richCompare .Lt (.str x t) (.str y u)) Q E s := PyProof.Rows.lt_str h
theorem rc_gtS {x y : Str} {t u : Tok} (h : Q (.bool (decide (y.cps.toList < x.cps.toList))) s) : wpAny (model prog w) A (richCompare .Gt (.str x t) (.str y u)) Q E s := P.gt_str h
theorem rc_ltI {x y : Int} {t u : Tok} (h : Q (.bool (decide (x < y))) s) : wpAny (model prog w) A (richCompare .Lt (.int x t) (.int y u)) Q E s := PyProof.Rows.lt_int h
theorem rc_gtI {x y : Int} {t u : Tok} (h : Q (.bool (decide (x > y))) s) : wpAny (model prog w) A (richCompare .Gt (.int x t) (.int y u)) Q E s := gt_int h
end

set_option maxHeartbeats 4000000 in
theorem tup_lt {prog : Program} {w : World} {A : Around} {E : Value → Shared → Prop} {s : Shared} (a b : Addr) (na nb : Nat) (p q : Str) (tp tq ti tj : Tok) (i j : Int) {P : Fin → Shared → Prop}
    (ha : s.heap.get? a = some (tupObj [.str p tp, .int i ti] na)) (hb : s.heap.get? b = some (tupObj [.str q tq, .int j tj] nb))
    (h : P (.done (.ret (.bool (if p = q then decide (i < j) else decide (p.cps.toList < q.cps.toList))))) s) : wpAny (model prog w) A (Builtin.«tuple.__lt__» ⟨[.ref a, .ref b], []⟩) P E s := by
  have hTb : s.TypeIs (.ref b) "tuple" := ⟨_, hb, rfl⟩
  show wpAny _ _ (isInstance (.ref b) (.type "tuple") >>= _) _ _ s
  refine wpAny_bind (wpAny_isInstance hTb isSubtype_tuple_tuple ?_)
  simp only [Bool.not_true, Bool.false_eq_true, if_false]
  refine wpAny_bind (wpAny_tupleItemsOf ha rfl ?_)
  refine wpAny_bind (wpAny_tupleItemsOf hb rfl ?_)
  simp only [List.zip_cons_cons, List.zip_nil_left, List.forIn_cons, List.forIn_nil]
  refine wpAny_bind (wpAny_bind (wpAny_bind (wpAny_eqBool_str ?_)))
  by_cases hpq : p = q
  · subst hpq
    rw [if_pos rfl] at h
    rw [decide_eq_true rfl]
    simp only [Bool.not_true, Bool.false_eq_true, if_false]
    refine wpAny_pure (wpAny_bind (wpAny_bind (wpAny_eqBool_int ?_)))
    by_cases hij : i = j
    · subst hij
      rw [show (i == i) = true from beq_self_eq_true i]
      simp only [Bool.not_true, Bool.false_eq_true, if_false]
      refine wpAny_pure (wpAny_pure (wpAny_pure ?_))
      rw [decide_eq_false (Int.lt_irrefl i)] at h
      exact h
    · rw [show (i == j) = false by simpa using hij]
      simp only [Bool.not_false, if_true]
      refine wpAny_bind (wpAny_rule (wpAny_bind ?_))
      refine rc_ltI (Q := fun __do_lift s' => wpAny _ _ _ _ _ s') ?_
      exact wpAny_bind (wpAny_pure (wpAny_pure (wpAny_pure (wpAny_pure h))))
  · rw [if_neg hpq] at h
    rw [decide_eq_false hpq]
    simp only [Bool.not_false, if_true]
    refine wpAny_bind (wpAny_rule (wpAny_bind ?_))
    refine rc_ltS (Q := fun __do_lift s' => wpAny _ _ _ _ _ s') ?_
    exact wpAny_bind (wpAny_pure (wpAny_pure (wpAny_pure (wpAny_pure h))))

set_option maxHeartbeats 4000000 in
theorem tup_gt {prog : Program} {w : World} {A : Around} {E : Value → Shared → Prop} {s : Shared} (a b : Addr) (na nb : Nat) (p q : Str) (tp tq ti tj : Tok) (i j : Int) {P : Fin → Shared → Prop}
    (ha : s.heap.get? a = some (tupObj [.str p tp, .int i ti] na)) (hb : s.heap.get? b = some (tupObj [.str q tq, .int j tj] nb))
    (h : P (.done (.ret (.bool (if p = q then decide (i > j) else decide (q.cps.toList < p.cps.toList))))) s) : wpAny (model prog w) A (Builtin.«tuple.__gt__» ⟨[.ref a, .ref b], []⟩) P E s := by
  have hTb : s.TypeIs (.ref b) "tuple" := ⟨_, hb, rfl⟩
  show wpAny _ _ (isInstance (.ref b) (.type "tuple") >>= _) _ _ s
  refine wpAny_bind (wpAny_isInstance hTb isSubtype_tuple_tuple ?_)
  simp only [Bool.not_true, Bool.false_eq_true, if_false]
  refine wpAny_bind (wpAny_tupleItemsOf ha rfl ?_)
  refine wpAny_bind (wpAny_tupleItemsOf hb rfl ?_)
  simp only [List.zip_cons_cons, List.zip_nil_left, List.forIn_cons, List.forIn_nil]
  refine wpAny_bind (wpAny_bind (wpAny_bind (wpAny_eqBool_str ?_)))
  by_cases hpq : p = q
  · subst hpq
    rw [if_pos rfl] at h
    rw [decide_eq_true rfl]
    simp only [Bool.not_true, Bool.false_eq_true, if_false]
    refine wpAny_pure (wpAny_bind (wpAny_bind (wpAny_eqBool_int ?_)))
    by_cases hij : i = j
    · subst hij
      rw [show (i == i) = true from beq_self_eq_true i]
      simp only [Bool.not_true, Bool.false_eq_true, if_false]
      refine wpAny_pure (wpAny_pure (wpAny_pure ?_))
      rw [decide_eq_false (Int.lt_irrefl i)] at h
      exact h
    · rw [show (i == j) = false by simpa using hij]
      simp only [Bool.not_false, if_true]
      refine wpAny_bind (wpAny_rule (wpAny_bind ?_))
      refine rc_gtI (Q := fun __do_lift s' => wpAny _ _ _ _ _ s') ?_
      exact wpAny_bind (wpAny_pure (wpAny_pure (wpAny_pure (wpAny_pure h))))
  · rw [if_neg hpq] at h
    rw [decide_eq_false hpq]
    simp only [Bool.not_false, if_true]
    refine wpAny_bind (wpAny_rule (wpAny_bind ?_))
    refine rc_gtS (Q := fun __do_lift s' => wpAny _ _ _ _ _ s') ?_
    exact wpAny_bind (wpAny_pure (wpAny_pure (wpAny_pure (wpAny_pure h))))

def sI (x : Str × Int) : D := .tup [.str x.1, .int x.2]
def ltB (x y : Str × Int) : Bool := if x.1 = y.1 then decide (x.2 < y.2) else decide (x.1.cps.toList < y.1.cps.toList)
def gtB (x y : Str × Int) : Bool := if x.1 = y.1 then decide (x.2 > y.2) else decide (y.1.cps.toList < x.1.cps.toList)
theorem V.inv_sI {B : Sto} {v : Value} {x : Str × Int} (h : V B v (sI x)) : ∃ a n t u, v = .ref a ∧ B a = some (tupObj [.str x.1 t, .int x.2 u] n) := by
  obtain ⟨a, vs, n, rfl, ha, hvs⟩ := h.inv_tup
  cases hvs with | cons h1 hvs => cases hvs with | cons h2 hvs =>
    cases hvs
    obtain ⟨t, rfl⟩ := h1.inv_str
    obtain ⟨u, rfl⟩ := h2.inv_int
    exact ⟨a, n, t, u, rfl, ha⟩
theorem Cmp.ltT {w : World} {A : Around} {k : Nat} {x y : Str × Int} (r : Rm k A) : Cmp w A .Lt (sI x) (sI y) (ltB x y) := by
  intro B s v1 v2 Q E g sb h1 h2 q
  obtain ⟨a, na, t, u, rfl, ha⟩ := h1.inv_sI
  obtain ⟨b, nb, t', u', rfl, hb⟩ := h2.inv_sI
  have ta : s.TypeIs (.ref a) "tuple" := ⟨_, sb _ _ ha, rfl⟩
  have tb : s.TypeIs (.ref b) "tuple" := ⟨_, sb _ _ hb, rfl⟩
  show wpAny _ _ (richCompare .Lt _ _) Q E s
  refine wpAny_richCompare_same_room ta tb F.slot_tuple_lt (wpAny_call_entry F.slot_tuple_lt ta F.entry_tuple_lt ?_ (F.args_tuple_lt_2 _ _)) r.units
  exact tup_lt a b na nb x.1 y.1 _ _ _ _ _ _ (sb _ _ ha) (sb _ _ hb) ⟨_, rfl, (by intro q; cases q), q s (krefl s)⟩
theorem Cmp.gtT {w : World} {A : Around} {k : Nat} {x y : Str × Int} (r : Rm k A) : Cmp w A .Gt (sI x) (sI y) (gtB x y) := by
  intro B s v1 v2 Q E g sb h1 h2 q
  obtain ⟨a, na, t, u, rfl, ha⟩ := h1.inv_sI
  obtain ⟨b, nb, t', u', rfl, hb⟩ := h2.inv_sI
  have ta : s.TypeIs (.ref a) "tuple" := ⟨_, sb _ _ ha, rfl⟩
  have tb : s.TypeIs (.ref b) "tuple" := ⟨_, sb _ _ hb, rfl⟩
  show wpAny _ _ (richCompare .Gt _ _) Q E s
  refine wpAny_richCompare_same_room ta tb F.slot_tuple_gt (wpAny_call_entry F.slot_tuple_gt ta F.entry_tuple_gt ?_ (F.args_tuple_gt_2 _ _)) r.units
  exact tup_gt a b na nb x.1 y.1 _ _ _ _ _ _ (sb _ _ ha) (sb _ _ hb) ⟨_, rfl, (by intro q; cases q), q s (krefl s)⟩

/-! three_way_cmp -/
def twc (x y : Str × Int) : Int := b2i (gtB x y) - b2i (ltB x y)
set_option maxHeartbeats 1000000 in
theorem cmp_fn (w : World) (x y : Str × Int) : Fn w 1 170 [sI x, sI y] (.int (twc x y)) := by
  refine Fn.intro [Str.ofString "x", Str.ofString "y"] rfl (by kernel_rfl) (fun vs h => ?_) (by decide) rfl (by decide) (by decide) ?_
  · match vs, h with
    | [v, u], _ => rfl
  · intro A s₀ B₀ L rm
    exact .ret FrI.clo (.bin FrI.clo (.cmp FrI.clo (.locF rfl) (.locF rfl) (.gtT rm)) (.cmp FrI.clo (.locF rfl) (.locF rfl) (.ltT rm)) .subB) fun B s F => ⟨rfl, F.done⟩
end Mine
end
section
open PySem PySem.W PySem.Spec PySem.Calls PyProof.Rows
set_option maxRecDepth 100000
namespace Mine

theorem pickL_plain {α : Type} (l : List α) (lo hi : Option Int) : pickL l lo hi none = (l.drop (lo.elim 0 (clipAt l.length))).take (hi.elim l.length (clipAt l.length) - lo.elim 0 (clipAt l.length)) := by
  unfold pickL
  rw [sliceBounds_plain]
  have := fun a k => pick_run l.toArray a k
  simp only [sliceRange_one]
  simpa using this _ _
theorem pickL_from {α : Type} (l : List α) (a : Nat) : pickL l (some (a : Int)) none none = l.drop a := by
  rw [pickL_plain]
  simp only [Option.elim, clipAt_nat]
  rcases Nat.le_total a l.length with h | h
  · rw [Nat.min_eq_left h, List.take_of_length_le (by simp)]
  · rw [Nat.min_eq_right h, List.drop_of_length_le (by simp), List.drop_of_length_le (by simpa using h)]; simp
theorem pickL_upto {α : Type} (l : List α) (b : Nat) : pickL l none (some (b : Int)) none = l.take b := by
  rw [pickL_plain]
  simp only [Option.elim, clipAt_nat, List.drop_zero, Nat.sub_zero]
  rcases Nat.le_total b l.length with h | h
  · rw [Nat.min_eq_left h]
  · rw [Nat.min_eq_right h, List.take_of_length_le (by simp), List.take_of_length_le (by simpa using h)]
theorem Tr.cast {w : World} {A : Around} {env : Env} {I : Sto → Shared → Prop} {e : Expr} {b b' : Bool} (t : Tr w A env I e b) (h : b = b') : Tr w A env I e b' := h ▸ t
theorem Ev.cast {w : World} {A : Around} {env : Env} {I : Sto → Shared → Prop} {e : Expr} {d d' : D} (t : Ev w A env I e d) (h : d = d') : Ev w A env I e d' := h ▸ t

/-! _law_set_in -/
def setK (row : List (Str × Int)) (x : Str × Int) : Nat → Nat
  | 0 => 0
  | k + 1 => match row[k]? with
    | some y => if twc y x > 0 then setK row x k else k + 1
    | none => k + 1
def setIn (row : List (Str × Int)) (x : Str × Int) : List (Str × Int) := row.take (setK row x row.length) ++ [x] ++ row.drop (setK row x row.length)
set_option maxHeartbeats 4000000 in
theorem setin_fn (w : World) (row : List (Str × Int)) (x : Str × Int) (hr : row.length ≤ 1000) : Fn w 2 191 [.lst (row.map sI), sI x] (.lst ((setIn row x).map sI)) := by
  have hsl : sizeLine = 16777216 := by decide
  refine Fn.intro [Str.ofString "row", Str.ofString "thing"] rfl (by kernel_rfl) (fun vs h => ?_) (by decide) rfl (by decide) (by decide) ?_
  · match vs, h with
    | [v, u], _ => rfl
  · intro A s₀ B₀ L rm
    refine .on (.setL (.bltCall FrI.clo (.blt FrI.clo (nb_len w) bb_len) (.cons FrI.clo (.locF rfl) (.nil FrI.clo)) (.len (by rw [List.length_map]; omega)))) ?_
    refine Exs.pre' (I' := FrI w s₀ B₀ L [] [(Str.ofString "k", .int row.length), (Str.ofString "row", .lst (row.map sI)), (Str.ofString "thing", sI x)] [] Ow.nil) (fun B s F => F.weak (.cons (by rw [List.length_map]; rfl) (.cons rfl (.cons rfl .nil))) .nil) ?_
    let σ := { k : Nat // k ≤ row.length ∧ setK row x k = setK row x row.length }
    let S : σ → Sto → Shared → Prop := fun k => FrI w s₀ B₀ L [] [(Str.ofString "k", .int k.1), (Str.ofString "row", .lst (row.map sI)), (Str.ofString "thing", sI x)] [] Ow.nil
    refine .cons (Ex.whileW (If := FrI w s₀ B₀ L [] [(Str.ofString "k", .int (setK row x row.length)), (Str.ofString "row", .lst (row.map sI)), (Str.ofString "thing", sI x)] [] Ow.nil) (Jr := fun _ _ _ => False) S (fun k => k.1) ⟨row.length, Nat.le_refl _, rfl⟩ (fun k => FrI.clo) ?_) ?_ (fun fl B s hn j => by cases fl <;> first | exact (hn rfl).elim | exact j.elim)
    · rintro ⟨k, hk, he⟩
      cases k with
      | zero =>
        refine ⟨false, .cast (.and (b2 := false) FrI.clo (.cmp FrI.clo (.locF rfl) (.cint FrI.clo) .gtI) fun h => by simp at h) (by simp), (fun h => nomatch h), fun _ B s F => ?_⟩
        rw [← he]; exact F
      | succ k =>
        obtain ⟨y, hy⟩ : ∃ y, row[k]? = some y := ⟨_, List.getElem?_eq_getElem hk⟩
        have hyd : (row.map sI)[((k : Int)).toNat]? = some (sI y) := by rw [Int.toNat_natCast, List.getElem?_map, hy]; rfl
        have ek : ((k + 1 : Nat) : Int) - 1 = (k : Int) := by omega
        have he' : setK row x (k + 1) = if twc y x > 0 then setK row x k else k + 1 := by show (match row[k]? with | some y => _ | none => _) = _; rw [hy]
        refine ⟨decide (twc y x > 0), .cast (.and (b2 := decide (twc y x > 0)) FrI.clo (.cmp FrI.clo (.locF rfl) (.cint FrI.clo) .gtI) fun _ => .cmp FrI.clo (.call FrI.clo rm (cmp_fn w y x) (.glob FrI.clo (gl_cmp w)) rfl rfl (.cons FrI.clo (.itm FrI.clo (.locF rfl) (.cast (.bin FrI.clo (.locF rfl) (.cint FrI.clo) .sub) (by rw [ek])) (.lst (by omega) (by omega) hyd)) (.cons FrI.clo (.locF rfl) (.nil FrI.clo)))) (.cint FrI.clo) .gtI) ?_, fun h => ?_, fun h B s F => ?_⟩
        · rw [show decide (((k + 1 : Nat) : Int) > 0) = true from decide_eq_true (by omega)]; rfl
        · refine .on (.setL (.cast (.bin FrI.clo (.locF rfl) (.cint FrI.clo) .sub) (show D.int (((k + 1 : Nat) : Int) - 1) = .int (k : Int) by rw [ek]))) (.nil fun B s F => ?_)
          refine ⟨⟨k, by omega, ?_⟩, Nat.lt_succ_self k, F.weak (.cons rfl (.cons rfl (.cons rfl .nil))) .nil⟩
          rw [← he, he', if_pos (of_decide_eq_true h)]
        · rw [← he, he', if_neg (of_decide_eq_false h)]; exact F
    · generalize hK : setK row x row.length = K
      refine .ret FrI.clo (.bin FrI.clo (.bin FrI.clo (.slice FrI.clo (.locF rfl) (.none FrI.clo) (.some (.locF rfl)) (.none FrI.clo) (by intro h; cases h) (by rw [List.length_map]; omega)) (.list FrI.clo (.cons FrI.clo (.locF rfl) (.nil FrI.clo)) (show 1 ≤ sizeLine by decide)) (.addL ?_)) (.slice FrI.clo (.locF rfl) (.some (.locF rfl)) (.none FrI.clo) (.none FrI.clo) (by intro h; cases h) (by rw [List.length_map]; omega)) (.addL ?_)) fun B s F => ⟨?_, F.done⟩
      · rw [pickL_upto]; simp only [List.length_take, List.length_map, List.length_cons, List.length_nil]; omega
      · rw [pickL_upto, pickL_from]; simp only [List.length_append, List.length_take, List.length_drop, List.length_map, List.length_cons, List.length_nil]; omega
      · rw [pickL_upto, pickL_from]
        unfold setIn
        rw [hK, List.map_append, List.map_append, List.map_take, List.map_drop]; rfl
end Mine
end
section
open PySem PySem.W PySem.Spec PySem.Calls PyProof.Rows
set_option maxRecDepth 100000
namespace Mine
open PySem.Builtin.Re

/-! the pattern's search -/
theorem runFor_stop (n : Nat) {m : Sre.M} (h : m.outcome.isSome = true) : m.runFor n = m := by
  cases n with
  | zero => rfl
  | succ n => unfold Sre.M.runFor; rw [if_pos h]
theorem runFor_add (a b : Nat) : ∀ m : Sre.M, m.runFor (a + b) = (m.runFor a).runFor b := by
  induction a with
  | zero => intro m; rw [Nat.zero_add]; rfl
  | succ a ih =>
    intro m
    rw [Nat.succ_add]
    by_cases h : m.outcome.isSome = true
    · rw [runFor_stop _ h, runFor_stop _ h, runFor_stop _ h]
    · show (if m.outcome.isSome = true then m else Sre.M.runFor (a + b) m.step) = Sre.M.runFor b (if m.outcome.isSome = true then m else Sre.M.runFor a m.step)
      rw [if_neg h, if_neg h]; exact ih _
theorem drive_wp {M : Model} {A : Around} {E : Value → Shared → Prop} {s : Shared} {Q : Sre.M → Shared → Prop} (k : Nat) : ∀ (turns : Nat) (m : Sre.M), k < turns → (m.runFor (4 * (k + 1))).outcome.isSome = true → Q (m.runFor (4 * (k + 1))) s → wpAny M A (reDrive turns m) Q E s := by
  induction k with
  | zero =>
    intro turns m ht ho q
    cases turns with
    | zero => omega
    | succ turns =>
      show wpAny M A (if (m.runFor 4).outcome.isSome = true then pure (m.runFor 4) else do rule "sre.turn"; reDrive turns (m.runFor 4)) Q E s
      rw [if_pos ho]; exact wpAny_pure q
  | succ k ih =>
    intro turns m ht ho q
    cases turns with
    | zero => omega
    | succ turns =>
      have e : m.runFor (4 * (k + 1 + 1)) = (m.runFor 4).runFor (4 * (k + 1)) := by rw [← runFor_add]; congr 1; omega
      rw [e] at ho q
      show wpAny M A (if (m.runFor 4).outcome.isSome = true then pure (m.runFor 4) else do rule "sre.turn"; reDrive turns (m.runFor 4)) Q E s
      by_cases h : (m.runFor 4).outcome.isSome = true
      · rw [if_pos h]
        rw [runFor_stop _ h] at q
        exact wpAny_pure q
      · rw [if_neg h]
        exact wpAny_bind (wpAny_rule (ih turns _ (by omega) ho q))
theorem rules_wp {M : Model} {A : Around} {E : Value → Shared → Prop} {s : Shared} {m : Sre.M} {Q : PUnit → Shared → Prop} (q : Q ⟨⟩ s) :
    wpAny M A (forIn (List.range Sre.names.size) PUnit.unit fun i r => do
      if m.seen.has i = true then do rule (Sre.names.getD i ""); pure (ForInStep.yield PUnit.unit) else pure (ForInStep.yield PUnit.unit)) Q E s := by
  refine wpAny_forIn_list _ (fun _ _ s' => s' = s) _ ?_ ?_ _ _ rfl
  · rintro x rest b s' rfl
    split
    · exact wpAny_bind (wpAny_rule (wpAny_pure rfl))
    · exact wpAny_pure rfl
  · rintro ⟨⟩ s' rfl; exact q
def reCode : Array Nat := #[14, 8, 1, 2, 4294967295, 1, 1, 46, 0, 16, 46, 24, 9, 1, 4294967295, 13, 4, 8, 0, 0, 1, 6, 5, 1]
def reM (x : Str) : Sre.M := Sre.forSearch reCode x.cps 0 0 x.cps.size false
/-- found or not, within so many steps -/
def reFound (x : Str) : Option Bool := match ((reM x).runFor 2000).outcome with
  | some .matched => some true
  | some .failed => some false
  | _ => none
theorem end_wp {M : Model} {A : Around} {E : Value → Shared → Prop} {s : Shared} {Q : Option Sre.M → Shared → Prop} {x : Str} {b : Bool} (h : reFound x = some b) (h1 : b = true → ∀ m, Q (some m) s) (h2 : b = false → Q none s) : wpAny M A (reRunToEnd (reM x)) Q E s := by
  have ho : ((reM x).runFor (4 * (499 + 1))).outcome.isSome = true := by
    unfold reFound at h
    show ((reM x).runFor 2000).outcome.isSome = true
    cases q : ((reM x).runFor 2000).outcome with
    | none => rw [q] at h; cases h
    | some o => rfl
  unfold reRunToEnd
  refine wpAny_bind (drive_wp 499 _ _ (by decide) ho ?_)
  refine wpAny_bind (rules_wp ?_)
  show wpAny M A (match ((reM x).runFor 2000).outcome with | some .matched => _ | some .failed => _ | some (.stuck why) => _ | none => _) Q E s
  unfold reFound at h
  cases q : ((reM x).runFor 2000).outcome with
  | none => rw [q] at h; cases h
  | some o =>
    rw [q] at h
    cases o with
    | matched => cases h; exact wpAny_pure (h1 rfl _)
    | failed => cases h; exact wpAny_pure (h2 rfl)
    | stuck why => cases h

theorem plain_re : PlainAttrs "re.Pattern" :=
  ⟨⟨"object.__getattribute__", by rw [typeLookup_type, builtinLookup_eq_fast]; kernel_rfl, by decide +kernel⟩, by rw [typeLookup_type, builtinLookup_eq_fast]; kernel_rfl⟩
theorem slot_search : Slot "re.Pattern" "search" "re.Pattern.search" :=
  .of (owner := "re.Pattern") (n := "search") (by rw [typeLookup_type, builtinLookup_eq_fast]; kernel_rfl) (by decide +kernel) (by decide +kernel) (by decide +kernel)
    (by first | exact .inl (by decide +kernel) | exact .inr (by decide +kernel)) (by rw [isSubtype_type]; kernel_rfl)
theorem type_search : typeOf (.builtin "re.Pattern.search") = pure (.type "method_descriptor") := by show builtinType _ = _; rw [builtinType_eq_fast]; kernel_rfl
theorem entry_search : entryFor table "re.Pattern.search" = some Builtin.«re.Pattern.search» := entryFor_of_tree (by kernel_rfl)
theorem args_search (a b : Value) : argsOk "re.Pattern.search" ⟨[a, b], []⟩ := by unfold argsOk; kernel_rfl
theorem named_search (v : Value) : reNamed "re.Pattern.search" "search" ["string", "pos", "endpos"] 1 [v] [] = pure [some v, none, none] := by rfl

def reFields (t u v w' : Tok) : Array Value := #[.str (Str.ofString "\\.\\d+$") t, .int 256 u, .int 0 v, .none, .none, .ref 42, .int 0 w']
theorem K_re (w : World) : (KK w).lookup 43 = some { cls := .type "re.Pattern", data := .fields (reFields 292 319 0 0) } := by kernel_rfl
theorem K_code (w : World) : (KK w).lookup 42 = some (tupObj (reCode.toList.map fun (i : Nat) => Value.int i 0) 0) := by kernel_rfl
theorem code_back : ((reCode.toList.map fun (i : Nat) => Value.int i 0).toArray.map reRawOf).map (·.toNat) = reCode := by decide +kernel
theorem match_bool : typeLookup (.type "re.Match") "__bool__" = pure none := by rw [typeLookup_type, builtinLookup_eq_fast]; kernel_rfl
theorem match_len : typeLookup (.type "re.Match") "__len__" = pure none := by rw [typeLookup_type, builtinLookup_eq_fast]; kernel_rfl
theorem match_true {M : Model} {A : Around} {E : Value → Shared → Prop} {s : Shared} {Q : Bool → Shared → Prop} {a : Addr} (h : s.TypeIs (.ref a) "re.Match") (q : Q true s) : wpAny M A (truthy (.ref a)) Q E s := by
  unfold truthy
  refine wpAny_bind (m := callSpecial? (.ref a) "__bool__") ?_
  unfold callSpecial?
  refine wpAny_bind (wpAny_specialOf h match_bool ?_)
  refine wpAny_pure ?_
  refine wpAny_bind (wpAny_specialOf h match_len ?_)
  exact wpAny_pure q
set_option maxHeartbeats 1000000 in
theorem search_call {w : World} {A : Around} {E : Value → Shared → Prop} {s : Shared} {Q : Value → Shared → Prop} {x : Str} {t : Tok} {b : Bool} (g : Gd w s) (hx : x.cps.size ≤ 1000000) (h : reFound x = some b)
    (h1 : b = true → ∀ a s', Keeps s s' → s'.TypeIs (.ref a) "re.Match" → Q (.ref a) s') (h2 : b = false → Q .none s) : wpAny (MM w) A (call (.builtin "re.Pattern.search") [.ref 43, .str x t]) Q E s := by
  have ho := g.K _ _ (K_re w)
  have hcd := g.K _ _ (K_code w)
  refine wpAny_call_entry slot_search ⟨_, ho, rfl⟩ entry_search ?_ (args_search _ _)
  unfold Builtin.«re.Pattern.search»
  refine wpAny_bind ?_
  unfold reTarget
  show wpAny _ _ (reNamed "re.Pattern.search" "search" ["string", "pos", "endpos"] 1 [.str x t] [] >>= _) _ _ s
  rw [named_search]
  refine wpAny_bind (wpAny_pure ?_)
  dsimp only
  refine wpAny_bind (wpAny_pure (wpAny_bind (wpAny_pure ?_)))
  refine wpAny_bind (m := fieldsOf (.ref 43)) ?_
  unfold fieldsOf
  refine wpAny_bind (wpAny_load ho (wpAny_pure ?_))
  refine wpAny_bind (m := reTextOf (.str x t)) (wpAny_bind (wpAny_pure (wpAny_pure ?_)))
  show wpAny _ _ (reNoCollectionInside (.str x t) 0 >>= fun _ => (reRawItems (.ref 42) >>= fun l => pure (ReTarget.mk (.ref 43) (.str x t) (l.map (·.toNat)) x.cps 0 0 (min (Int.toNat 0) x.cps.size) (min (2 ^ 63 - 1 : Int).toNat x.cps.size)))) _ _ s
  refine wpAny_bind (m := reNoCollectionInside (.str x t) 0) (show wpAny _ _ (pure ()) _ _ s from wpAny_pure ?_)
  refine wpAny_bind (m := reRawItems (.ref 42)) ?_
  unfold reRawItems seqItems?
  refine wpAny_bind (wpAny_bind (wpAny_load hcd (wpAny_pure (wpAny_pure (wpAny_pure ?_)))))
  have e1 : min (Int.toNat 0) x.cps.size = 0 := Nat.zero_min _
  have e0 : (2 ^ 63 - 1 : Int).toNat = 9223372036854775807 := by decide
  have e2 : min (2 ^ 63 - 1 : Int).toNat x.cps.size = x.cps.size := by rw [e0]; exact Nat.min_eq_right (by omega)
  rw [e1, e2]
  have e3 : (((some (reCode.toList.map fun (i : Nat) => Value.int i 0).toArray).getD #[]).map reRawOf).map (·.toNat) = reCode := code_back
  rw [e3]
  unfold reAnswer
  refine wpAny_bind (end_wp h (fun hb m => ?_) fun hb => ?_)
  · refine wpAny_bind (m := reNewMatch (.ref 43) (.str x t) 0 0 x.cps.size m) ?_
    unfold reNewMatch
    refine wpAny_bind (m := newTuple _) (wpAny_newTuple ?_ (show 2 ≤ sizeLine by decide))
    refine wpAny_newObj_type ?_
    refine wpAny_pure ⟨_, rfl, h1 hb _ _ ?_ ⟨_, Heap.get?_push_size _ rfl, rfl⟩⟩
    exact ktrans (keeps_push s _) (keeps_push _ _)
  · exact wpAny_pure ⟨_, rfl, h2 hb⟩
end Mine
end
section
open PySem PySem.W PySem.Spec PySem.Calls PyProof.Rows
set_option maxRecDepth 100000
namespace Mine

section
variable {w : World} {A : Around} {env : Env} {I : Sto → Shared → Prop} {value e : Expr} {lower upper : Option Expr} {lo hi : Option Int} {p pos : Pos}
theorem Ev.neg {i : Int} (hc : Cl w I) (h : Ev w A env I e (.int i)) : Ev w A env I (.UnaryOp .USub e pos) (.int (-i)) := by
  intro B s Q E j k
  refine wpAny_UnaryOp (h B s _ _ j fun v B1 s1 g1 hv => ?_)
  obtain ⟨t, rfl⟩ := hv.inv_int
  exact P.neg_int (k _ B1 _ (g1.trans (.toks g1.sub (Nat.le_succ _))) (.int _ _))
theorem part_of {v : Value} {o : Option Int} (h : IsPart v o) : ∃ l : Option (Int × Tok), v = partValue l ∧ l.map (·.1) = o := by
  cases h with
  | none => exact ⟨none, rfl, rfl⟩
  | int i t => exact ⟨some (i, t), rfl, rfl⟩
theorem Ev.sliceS {x : Str} (hc : Cl w I) (h : Ev w A env I value (.str x)) (hl : Prt w A env I lower lo) (hu : Prt w A env I upper hi) (hsz : x.length ≤ 1000000) : Ev w A env I (.Subscript value (.Slice lower upper none p) pos) (.str (Txt.slice x lo hi)) := by
  intro B s Q E i k
  refine Subscript_ (h B s _ _ i fun v B1 s1 g1 hv => wpAny_Slice (hl B1 s1 _ _ (hc.grow i g1) fun vl B2 s2 g2 pl => hu B2 s2 _ _ (hc.grow (hc.grow i g1) g2) fun vu B3 s3 g3 pu => wpAny_evalPart_none ?_))
  have i3 := hc.grow (hc.grow (hc.grow i g1) g2) g3
  have g := g1.trans (g2.trans g3)
  obtain ⟨t, rfl⟩ := hv.inv_str
  obtain ⟨l, rfl, hl'⟩ := part_of pl
  obtain ⟨u, rfl, hu'⟩ := part_of pu
  have hg : Grow B3 s3 B3 { s3 with heap := s3.heap.push { cls := .type "slice", data := .fields #[partValue l, partValue u, .none] } } := .of_keeps (hc.sub i3) (keeps_push _ _) (Nat.le_refl _)
  refine tail_any (ops := [.ref s3.heap.objs.size, .str x t]) (typeIs_str _ _ _) F.slot_str_getitem.lookup (wpAny_getItem_str_slice (l := l) (u := u) (st := none) ⟨_, Heap.get?_push_size _ rfl, rfl, rfl⟩ rfl ?_) rfl
  have hsl : (2 : Nat) ^ 24 = 16777216 := by decide
  have key : (Txt.slice x lo hi).length ≤ 1000000 := Nat.le_trans (Txt.slice_le x lo hi) hsz
  unfold sliceMade slicePicked
  rw [hl', hu']
  unfold Txt.slice at k key
  split
  · rename_i hq
    have hq' : ((1 : Int) == 1 && (PySem.Builtin.Str.strSliceIndices lo hi 1 x.length).length == x.length) = true := hq
    rw [if_pos hq'] at k
    exact k _ B3 _ (g.trans hg) (.str _ _)
  · rename_i hq
    have hq' : ¬ ((1 : Int) == 1 && (PySem.Builtin.Str.strSliceIndices lo hi 1 x.length).length == x.length) = true := hq
    rw [if_neg hq'] at k key
    refine ⟨?_, k _ B3 _ (g.trans (hg.trans (.toks hg.sub (Nat.le_succ _)))) (.str _ _)⟩
    show Str.length _ ≤ sizeLine
    unfold sizeLine
    exact Nat.le_trans key (by omega)
theorem Tr.search {nm : Str} {np apos : Pos} {x : Str} {b : Bool} {pl : Sem Bool} (hc : Cl w I) (hn : Ev w A env I (.Name nm np) (.val (.ref 43))) (ha : Ev w A env I e (.str x)) (hx : x.length ≤ 1000000) (h : reFound x = some b)
    (hs : starEach [e] env = [(false, eval e env)] := by rfl)
    (he : eval (.Call (.Attribute (.Name nm np) "search" apos) [e] [] pos) env = (do
      let ov ← eval (.Name nm np) env
      standAt apos.atName
      let (f, first) ← holding [ov] (getMethod ov "search" pl)
      callWith pos f first (backTo pos (starEach [e] env)) []) := by rfl) : Tr w A env I (.Call (.Attribute (.Name nm np) "search" apos) [e] [] pos) b := by
  intro B s Q E i k
  refine wpAny_isTrue_value (MethodCall_ (pl := pl) (hn B s _ _ i fun v B1 s1 g1 hv => ?_) he) (by rfl)
  cases hv.inv_val
  have i1 := hc.grow i g1
  have ho := (hc.gd i1).K _ _ (K_re w)
  refine getMethod_builtin (T := "re.Pattern") ⟨_, ho, rfl⟩ plain_re slot_search type_search (fun a e => by cases e; exact ⟨_, ho, rfl⟩) ?_
  have hst : ((backTo pos (starEach [e] env)).any (·.1)) = false := by rw [hs]; rfl
  refine Calls.callWith_builtin hst (evalArgs_any hst (args_cons (ha B1 s1 _ _ i1 fun v2 B2 s2 g2 hv2 => args_nil ?_) (by rw [hs]; rfl)))
  obtain ⟨t, rfl⟩ := hv2.inv_str
  have i2 := hc.grow i1 g2
  refine wpAny_with_toks (Nat.le_refl s2.toks) (search_call (hc.gd i2) hx h (fun hb a s' kp ty tk => ?_) fun hb tk => ?_)
  · subst hb
    exact match_true ty (k B2 s' (g1.trans (g2.trans (.of_keeps g2.sub kp tk))))
  · subst hb
    exact wpAny_pure (k B2 s2 (g1.trans g2))
end

/-! is_HDN, domain_match -/
def hdn (x : Str) : Bool := if reFound x = some true then false else if (x == Str.ofString "") = true then false else if (Txt.item x 0 == Str.ofString "." || Txt.item x (-1) == Str.ofString ".") = true then false else true
theorem len_pos_of_ne {x : Str} (h : (x == Str.ofString "") = false) : 0 < x.length := by
  cases hx : x.length with
  | succ n => exact Nat.succ_pos n
  | zero =>
    exfalso
    have : x = Str.ofString "" := by
      apply Str.ext'
      have : x.cps.size = 0 := hx
      rw [Array.eq_empty_of_size_eq_zero this]
      rfl
    rw [this] at h
    simp at h
set_option maxHeartbeats 2000000 in
theorem hdn_fn (w : World) (x : Str) (hx : x.length ≤ 1000000) (b : Bool) (hb : reFound x = some b) : Fn w 1 50 [.str x] (.bool (hdn x)) := by
  refine Fn.intro [Str.ofString "text"] rfl (by kernel_rfl) (fun vs h => ?_) (by decide) rfl (by decide) (by decide) ?_
  · match vs, h with
    | [v], _ => rfl
  · intro A s₀ B₀ L rm
    refine .if1 FrI.clo (.search FrI.clo (.glob FrI.clo (gl_re w)) (.locF rfl) hx hb) (fun h => ?_) (fun h => ?_)
    · have e : hdn x = false := by unfold hdn; rw [if_pos (by rw [hb, h])]
      rw [e]
      exact .ret FrI.clo (.cbool FrI.clo) fun B s F => ⟨(by intro q; cases q), rfl, F.done⟩
    · have h0 : ¬ reFound x = some true := by rw [hb, h]; intro q; cases q
      refine .if1 FrI.clo (.cmp FrI.clo (.locF rfl) (.cstr FrI.clo) .eqS) (fun h2 => ?_) (fun h2 => ?_)
      · have e : hdn x = false := by unfold hdn; rw [if_neg h0, if_pos h2]
        rw [e]
        exact .ret FrI.clo (.cbool FrI.clo) fun B s F => ⟨(by intro q; cases q), rfl, F.done⟩
      · have hp := len_pos_of_ne h2
        have h2' : ¬ (x == Str.ofString "") = true := by rw [h2]; exact Bool.false_ne_true
        refine .if1 FrI.clo (.or FrI.clo (.cmp FrI.clo (.itm FrI.clo (.locF rfl) (.cint FrI.clo) (.str (by decide) (by omega) (by omega))) (.cstr FrI.clo) .eqS) fun _ => .cmp FrI.clo (.itm FrI.clo (.locF rfl) (.neg FrI.clo (.cint FrI.clo)) (.str (by decide) (by omega) (by omega))) (.cstr FrI.clo) .eqS) (fun h3 => ?_) (fun h3 => ?_)
        · have e : hdn x = false := by unfold hdn; rw [if_neg h0, if_neg h2', if_pos h3]
          rw [e]
          exact .ret FrI.clo (.cbool FrI.clo) fun B s F => ⟨(by intro q; cases q), rfl, F.done⟩
        · have e : hdn x = true := by unfold hdn; rw [if_neg h0, if_neg h2', if_neg (by rw [show (Txt.item x 0 == Str.ofString "." || Txt.item x (-1) == Str.ofString ".") = false from h3]; exact Bool.false_ne_true)]
          rw [e]
          exact .ret FrI.clo (.cbool FrI.clo) fun B s F => ⟨rfl, F.done⟩
def dm (A₀ B₀ : Str) : Bool :=
  let a := Txt.lower A₀
  let b := Txt.lower B₀
  if (a == b) = true then true else if (!hdn a) = true then false else if (decide (Txt.rfind a b = -1) || decide (Txt.rfind a b = 0)) = true then false else
    if (!Txt.startswith b (Str.ofString ".")) = true then false else if (!hdn (Txt.slice b (some 1) none)) = true then false else true
/-- the texts that the pattern is asked of come to an answer -/
def dmOk (A₀ B₀ : Str) : Prop := A₀.length ≤ 1000 ∧ B₀.length ≤ 1000 ∧ (∃ b, reFound (Txt.lower A₀) = some b) ∧ ∃ b, reFound (Txt.slice (Txt.lower B₀) (some 1) none) = some b
set_option maxHeartbeats 4000000 in
theorem dm_fn (w : World) (x y : Str) (hok : dmOk x y) (hx : (Txt.lower x).length ≤ 10000) (hy : (Txt.lower y).length ≤ 10000) : Fn w 2 57 [.str x, .str y] (.bool (dm x y)) := by
  obtain ⟨lx, ly, ⟨bx, ex⟩, by', ey⟩ := hok
  refine Fn.intro [Str.ofString "A", Str.ofString "B"] rfl (by kernel_rfl) (fun vs h => ?_) (by decide) rfl (by decide) (by decide) ?_
  · match vs, h with
    | [v, u], _ => rfl
  · intro A s₀ B₀ L rm
    refine .on (.setL (.meth FrI.clo (.locF rfl) .lower (.nil FrI.clo) (.lower (by omega)))) ?_
    refine .on (.setL (.meth FrI.clo (.locF rfl) .lower (.nil FrI.clo) (.lower (by omega)))) ?_
    generalize ha : Txt.lower x = a at *
    generalize hb : Txt.lower y = b at *
    have hd : dm x y = if (a == b) = true then true else if (!hdn a) = true then false else if (decide (Txt.rfind a b = -1) || decide (Txt.rfind a b = 0)) = true then false else if (!Txt.startswith b (Str.ofString ".")) = true then false else if (!hdn (Txt.slice b (some 1) none)) = true then false else true := by unfold dm; rw [ha, hb]
    have nt : ∀ {c : Bool}, c = false → ¬ c = true := fun h => by rw [h]; exact Bool.false_ne_true
    have hsl := Txt.slice_le b (some 1) none
    refine .if1 FrI.clo (.cmp FrI.clo (.locF rfl) (.locF rfl) .eqS) (fun h => ?_) (fun h => ?_)
    · rw [hd, if_pos h]
      exact .ret FrI.clo (.cbool FrI.clo) fun B s F => ⟨(by intro q; cases q), rfl, F.done⟩
    rw [if_neg (nt h)] at hd
    refine .if1 FrI.clo (.not (.val FrI.clo (.call FrI.clo rm (hdn_fn w a (by omega) bx ex) (.glob FrI.clo (gl_hdn w)) rfl rfl (.cons FrI.clo (.locF rfl) (.nil FrI.clo))) .bool)) (fun h => ?_) (fun h => ?_)
    · rw [hd, if_pos h]
      exact .ret FrI.clo (.cbool FrI.clo) fun B s F => ⟨(by intro q; cases q), rfl, F.done⟩
    rw [if_neg (nt h)] at hd
    refine .on (.setL (.meth FrI.clo (.locF rfl) .rfind (.cons FrI.clo (.locF rfl) (.nil FrI.clo)) .rfind)) ?_
    refine .if1 FrI.clo (.or FrI.clo (.cmp FrI.clo (.locF rfl) (.neg FrI.clo (.cint FrI.clo)) .eqI) fun _ => .cmp FrI.clo (.locF rfl) (.cint FrI.clo) .eqI) (fun h => ?_) (fun h => ?_)
    · rw [hd, if_pos h]
      exact .ret FrI.clo (.cbool FrI.clo) fun B s F => ⟨(by intro q; cases q), rfl, F.done⟩
    rw [if_neg (nt h)] at hd
    refine .if1 FrI.clo (.not (.val FrI.clo (.meth FrI.clo (.locF rfl) .startswith (.cons FrI.clo (.cstr FrI.clo) (.nil FrI.clo)) .startswith) .bool)) (fun h => ?_) (fun h => ?_)
    · rw [hd, if_pos h]
      exact .ret FrI.clo (.cbool FrI.clo) fun B s F => ⟨(by intro q; cases q), rfl, F.done⟩
    rw [if_neg (nt h)] at hd
    refine .if1 FrI.clo (.not (.val FrI.clo (.call FrI.clo rm (hdn_fn w (Txt.slice b (some 1) none) (by omega) by' ey) (.glob FrI.clo (gl_hdn w)) rfl rfl (.cons FrI.clo (.sliceS FrI.clo (.locF rfl) (.some (.cint FrI.clo)) (.none FrI.clo) (by omega)) (.nil FrI.clo))) .bool)) (fun h => ?_) (fun h => ?_)
    · rw [hd, if_pos h]
      exact .ret FrI.clo (.cbool FrI.clo) fun B s F => ⟨(by intro q; cases q), rfl, F.done⟩
    rw [if_neg (nt h)] at hd
    rw [hd]
    exact .ret FrI.clo (.cbool FrI.clo) fun B s F => ⟨rfl, F.done⟩
end Mine
end
section
open PySem PySem.W PySem.Spec PySem.Calls PyProof.Rows
set_option maxRecDepth 100000
namespace Mine

/-- a call out of the law's frame, which is held meanwhile -/
theorem callX {w : World} {A : Around} {s₀ s : Shared} {B₀ B : Sto} {Lw : Addr} {cl : List (Str × Addr)} {E C : List (Str × D)} {O : Ow} {vs : List Value} {Q X : Value → Shared → Prop}
    {k : Nat} {f : Addr} {args : List D} {d : D} {name qual : Str} {params : Arguments} {body : List Stmt} {scope : Scope} {dV kV doc pm cdv ct oc : Value} {an od : Option Addr} {osl : Array (Option Value)} (ns : List Str)
    (ho : (KK w).lookup f = some ⟨oc, od, .func (fnOf name qual params body scope dV kV doc pm an cdv ct), osl⟩) (hcd : codeIn (KK w) cdv qual = true)
    (hb : ∀ vs : List Value, vs.length = args.length → bindArgs (fnOf name qual params body scope dV kV doc pm an cdv ct) ⟨vs, []⟩ = pure (ns.zip vs)) (hnd : ns.Nodup) (hlen : ns.length = args.length)
    (hloc : ∀ x ∈ ns, scope.names.lookup x = some .local) (hcell : ∀ x ∈ scope.names, x.2 ≠ .cell)
    (F : FrI w s₀ B₀ Lw cl E C O B s) (hk1 : (cl.map (·.1)).Nodup) (hk2 : (cl.map (·.2)).Nodup) (rm : Rm (k + 1) A) (hv : VAll B vs args)
    (h : ∀ L, Exs w (A.deeper (envOf qual scope L f cdv)) (envOf qual scope L f cdv) (FrI w s₀ B₀ L [] (ns.zip args) [] (Ow.nil.and (Ow.frm Lw cl E C O))) body (fun fl B' s' => fl = .ret d ∧ FrI w s₀ B₀ Lw cl E C O B' s'))
    (q : ∀ v B' s', FrI w s₀ B₀ Lw cl E C O B' s' → Le B B' → V B' v d → Q v s')
    (hco : scope.isCoroutine = false := by rfl) (hgen : scope.isGenerator = false := by rfl) (hk : scope.kind = .function := by rfl) : wpAny (MM w) A (call (.ref f) vs) Q X s := by
  have g := FrI.clo.gd F
  refine wpAny_call (codeAny_call_def (fd := fnOf name qual params body scope dV kV doc pm an cdv ct) (body := body) (binds := ns.zip vs) rm.room (g.K _ _ ho) rfl g.lim (codeRec_of g.K hcd) rfl (.of_eq (hb vs hv.length)) hcell ?_ (fun h₁ hn hk₁ => ?_) hco hgen hk)
  · intro x hx
    exact hloc x.1 (by rw [← List.map_fst_zip (l₁ := ns) (l₂ := vs) (by rw [hlen, hv.length]; exact Nat.le_refl _)]; exact List.mem_map_of_mem hx)
  · refine h s.heap.objs.size B _ _ _ (F.into hk1 hk2 hk₁ (Nat.le_add_right _ _) (fresh_size _) hn fun x d' e => ?_) fun fl f' B' s' hf hd le => ?_
    · obtain ⟨v, h1, h2⟩ := zip_lookup (vs := vs) hv e
      exact ⟨v, lookup_reverse (by rw [List.map_fst_zip (by rw [hlen, hv.length]; exact Nat.le_refl _)]; exact hnd) h1, h2⟩
    · obtain ⟨rfl, F'⟩ := hd
      cases hf with
      | ret hv' => exact q _ _ _ F' le hv'
theorem Has.left {a : Addr} {ds ds' : List D} {R R' K : Ow} (H : Has a ds ds' R R') : Has a ds ds' (R.and K) (R'.and K) :=
  ⟨List.mem_append.mpr (.inl H.mem), (by show R'.fp ++ K.fp = R.fp ++ K.fp; rw [H.fp]), fun x => H.get x.1, fun {B h h' vs n} nd x sb k e hv => by
    have nd' := List.nodup_append.mp nd
    exact ⟨H.set nd'.1 x.1 sb k e hv, K.frame x.2 (Le.refl _) sb fun b hb o eb => k b o (fun q => nd'.2.2 a H.mem b hb q.symm) eb⟩⟩

/-! sorted_list_difference -/
def ltS (x y : Str) : Bool := decide (x.cps.toList < y.cps.toList)
def sldF : Nat → List Str → List Str → List Str × List Str
  | 0, xs, ys => (xs, ys)
  | _ + 1, [], ys => ([], ys)
  | _ + 1, x :: xs, [] => (x :: xs, [])
  | n + 1, x :: xs, y :: ys => if ltS x y then (x :: (sldF n xs (y :: ys)).1, (sldF n xs (y :: ys)).2) else if ltS y x then ((sldF n (x :: xs) ys).1, y :: (sldF n (x :: xs) ys).2) else sldF n xs ys
def sld (xs ys : List Str) : List Str × List Str := sldF (xs.length + ys.length) xs ys
theorem sldF_nil (n : Nat) (ys : List Str) : sldF n [] ys = ([], ys) := by cases n <;> rfl
theorem sldF_nil' (n : Nat) (xs : List Str) : sldF n xs [] = (xs, []) := by cases n <;> cases xs <;> rfl
/-- no neighbours alike -/
def Adj (l : List Str) : Prop := ∀ (i : Nat) (x y : Str), l[i]? = some x → l[i + 1]? = some y → (y == x) = false

section
variable {w : World} {A : Around} {env envw : Env} {s₀ : Shared} {B₀ B : Sto} {s : Shared} {L Lw e g T : Addr} {cl : List (Str × Addr)} {E C E' : List (Str × D)} {O R K : Ow} {c : Bool}
theorem xs_new {h' : Heap} {tk : Nat} (F : FrI w s₀ B₀ L [] E' [] (R.and K) B s) (ne : NE s.heap h' e c) (ht : s.toks ≤ tk) : XS w s₀ B₀ L E' R K e c B { s with heap := h', toks := tk } :=
  .inl (FrI.more (P := Ow.exc e c .none) F ⟨h', tk, rfl, ne.keeps⟩ ht (fun b hb => by rw [List.mem_singleton.mp hb]; exact ne.new) (by show [_].Nodup; simp) ne.exc).asc
theorem xs_new2 {h' : Heap} {tk : Nat} {x : Value} (F : FrI w s₀ B₀ L [] E' [] (((Ow.exc g c (.ref T)).and ((Ow.tb T x).and R)).and K) B s) (ne : NE s.heap h' e false) (ht : s.toks ≤ tk) : XS w s₀ B₀ L E' R K e false B { s with heap := h', toks := tk } :=
  .inl (FrI.more (P := Ow.exc e false .none) F ⟨h', tk, rfl, ne.keeps⟩ ht (fun b hb => by rw [List.mem_singleton.mp hb]; exact ne.new) (by show [_].Nodup; simp) ne.exc).asc.rot.out.rot.out
theorem XExs.ex {α : Type} {P : α → Sto → Shared → Prop} {ss : List Stmt} {J : Fl → Sto → Shared → Prop} {X : Addr → Sto → Shared → Prop} (h : ∀ a, XExs w A env (P a) ss J X) : XExs w A env (fun B s => ∃ a, P a B s) ss J X := fun B s Q X' ⟨a, i⟩ k kx => h a B s Q X' i k kx
theorem XExs.no {ss : List Stmt} {J : Fl → Sto → Shared → Prop} {X : Addr → Sto → Shared → Prop} : XExs w A env (fun _ _ => False) ss J X := fun _ _ _ _ i => i.elim
theorem whX {I : Sto → Shared → Prop} {J : Fl → Sto → Shared → Prop} {G : List (Str × D) → Ow → Bool → Prop} {ln iN en : Str} {p1 p2 p3 p4 p5 pos : Pos} {body : List Stmt} {zs : List Str} {i : Nat} {x : Str} (fs : Frs A env envw L Lw) (hc : Cl w I)
    (h1 : Ev w A env I (.Name ln p1) (sL zs)) (h2 : Ev w A env I (.Name iN p2) (.int i)) (h3 : Ev w A env I (.Name en p4) (.str x)) (hz : zs.length ≤ 10000) (hi : i ≤ 10000) (ha : ∀ y, zs[i]? = some y → (y == x) = false)
    (hr : zs.length ≤ i → RsE w A env I (.Subscript (.Name ln p1) (.Name iN p2) p3) (XG w s₀ B₀ L (Ow.frm Lw cl E C O) G)) (hn : i < zs.length → ∀ B s, I B s → J .next B s) :
    XEx w A env I (.While (.Compare (.Subscript (.Name ln p1) (.Name iN p2) p3) [.Eq] [.Name en p4] p5) body [] pos) J (XG w s₀ B₀ L (Ow.frm Lw cl E C O) G) := by
  rcases Nat.lt_or_ge i zs.length with h | h
  · obtain ⟨y, hy⟩ : ∃ y, zs[i]? = some y := ⟨_, List.getElem?_eq_getElem h⟩
    exact .whF hc (.cast (.cmp hc (.itm hc h1 h2 (.lst (by omega) (by omega) (by rw [Int.toNat_natCast, List.getElem?_map, hy]; rfl))) h3 .eqS) (ha y hy)) (hn h)
  · exact .whR fs (.cmpL (hr h))
end
end Mine
end
section
open PySem PySem.W PySem.Spec PySem.Calls PyProof.Rows
set_option maxRecDepth 100000
namespace Mine
theorem nb_IndexError (w : World) : nsIn (KK w) mainGlobals "IndexError" = some none := by kernel_rfl
theorem bb_IndexError : bootBuiltins "IndexError" = some (.type "IndexError") := by kernel_rfl
theorem Ex.set2 {w : World} {A : Around} {env : Env} {I I' I'' : Sto → Shared → Prop} {t₁ t₂ value : Expr} {pos : Pos} {d : D} (hc : Cl w I) (h : Ev w A env I value d) (a1 : As w A env I t₁ d I') (a2 : As w A env I' t₂ d I'')
    (he : (assignEach [t₁, t₂] env).map (·.2) = [assign t₁ env, assign t₂ env] := by rfl) (hw : swappedStores [t₁, t₂] value env = pure none := by rfl) : Ex w A env I (.Assign [t₁, t₂] value pos) (On I'') := by
  intro B s Q E i k
  refine wpAny_Assign_two (h B s _ _ i fun v B1 s1 g1 hv => a1 B1 s1 v _ _ (hc.grow i g1) hv fun B2 s2 i2 le2 => a2 B2 s2 v _ _ i2 (hv.mono le2) fun B3 s3 i3 le3 => k _ _ B3 s3 .next i3 (g1.le.trans (le2.trans le3))) he hw
section
variable (xs ys : List Str)
def sldE (m u : Addr) (i j : Nat) : List (Str × D) := [(Str.ofString "i", .int i), (Str.ofString "j", .int j), (Str.ofString "missing", .val (.ref m)), (Str.ofString "unexpected", .val (.ref u)), (Str.ofString "expected", sL xs), (Str.ofString "actual", sL ys)]
def sldR (m u : Addr) (ms us : List Str) : Ow := (Ow.own m (ms.map .str)).and ((Ow.own u (us.map .str)).and Ow.nil)
def sldG (m u : Addr) (E' : List (Str × D)) (R' : Ow) (c : Bool) : Prop := ∃ i j ms us, Wk (sldE xs ys m u i j) E' ∧ R' = sldR m u ms us ∧ i ≤ xs.length ∧ j ≤ ys.length ∧ ms.length ≤ i ∧ us.length ≤ j ∧ ms ++ xs.drop i = (sld xs ys).1 ∧ us ++ ys.drop j = (sld xs ys).2
def sldI (a : Nat × Nat × Nat × List Str × List Str) : Prop := a.2.1 ≤ xs.length ∧ a.2.2.1 ≤ ys.length ∧ (xs.length - a.2.1) + (ys.length - a.2.2.1) ≤ a.1 ∧ a.2.2.2.1.length ≤ a.2.1 ∧ a.2.2.2.2.length ≤ a.2.2.1 ∧
  a.2.2.2.1 ++ (sldF a.1 (xs.drop a.2.1) (ys.drop a.2.2.1)).1 = (sld xs ys).1 ∧ a.2.2.2.2 ++ (sldF a.1 (xs.drop a.2.1) (ys.drop a.2.2.1)).2 = (sld xs ys).2
end
theorem hasM {m u : Addr} {ms us : List Str} {ds : List D} {K : Ow} {ms' : List Str} (h : ms'.map D.str = ms.map D.str ++ ds) : Has m (ms.map .str) (ms.map .str ++ ds) ((sldR m u ms us).and K) ((sldR m u ms' us).and K) := by
  unfold sldR; rw [h]; exact .left .here
theorem hasU {m u : Addr} {ms us : List Str} {ds : List D} {K : Ow} {us' : List Str} (h : us'.map D.str = us.map D.str ++ ds) : Has u (us.map .str) (us.map .str ++ ds) ((sldR m u ms us).and K) ((sldR m u ms us').and K) := by
  unfold sldR; rw [h]; exact .left (.there .here)
set_option maxHeartbeats 8000000 in
theorem sld_call (w : World) (xs ys : List Str) (hx : xs.length ≤ 1000) (hy : ys.length ≤ 1000) (ax : Adj xs) (ay : Adj ys) {A : Around} {envw : Env} {s₀ s : Shared} {B₀ B : Sto} {Lw : Addr} {cl : List (Str × Addr)} {E C : List (Str × D)} {O : Ow} {vs : List Value} {Q X : Value → Shared → Prop}
    (fA : A.frames = some [envw]) (f2 : envw.frame = some Lw) (k2 : envw.scope.kind ≠ .module) (F : FrI w s₀ B₀ Lw cl E C O B s) (hk1 : (cl.map (·.1)).Nodup) (hk2 : (cl.map (·.2)).Nodup) (rm : Rm 1 A) (hv : VAll B vs [sL xs, sL ys])
    (q : ∀ v B' s', FrI w s₀ B₀ Lw cl E C O B' s' → Le B B' → V B' v (.tup [sL (sld xs ys).1, sL (sld xs ys).2]) → Q v s') : wpAny (MM w) A (call (.ref 163) vs) Q X s := by
  have hsl : sizeLine = 16777216 := by decide
  refine callX (k := 0) [Str.ofString "expected", Str.ofString "actual"] rfl (by kernel_rfl) (fun vs h => ?_) (by decide) rfl (by decide) (by decide) F hk1 hk2 rm hv (fun L => ?_) q
  · match vs, h with
    | [v, u], _ => rfl
  · have fs0 : ∀ env : Env, env.frame = some L → env.scope.kind ≠ .module → Frs (A.deeper env) env envw L Lw := fun env hf hk => ⟨(by show A.frames.map _ = _; rw [fA]; rfl), hf, f2, hk, k2⟩
    have hd0 : ∀ env : Env, (A.deeper env).handled = none := fun env => rm.hd
    refine .on (.set2 FrI.clo (.cint FrI.clo) .loc .loc) (.newL fun m => .newL fun u => ?_)
    refine Exs.pre' (I' := FrI w s₀ B₀ L [] (sldE xs ys m u 0 0) [] ((sldR m u [] []).and (Ow.frm Lw cl E C O))) (fun B s F => ?_) ?_
    · have F' := F.weak (E' := sldE xs ys m u 0 0) (.cons rfl (.cons rfl (.cons rfl (.cons rfl (.cons rfl (.cons rfl .nil)))))) .nil
      have nd := F'.nod
      refine F'.ow (fun a ha => ?_) ?_ ⟨⟨F'.own.2.1, F'.own.1, trivial⟩, F'.own.2.2.2⟩
      · have : a ∈ m :: u :: (Ow.frm Lw cl E C O).fp := ha
        show a ∈ u :: m :: (Ow.frm Lw cl E C O).fp
        exact (List.Perm.swap _ _ _).mem_iff.mp this
      · show (m :: u :: (Ow.frm Lw cl E C O).fp).Nodup
        exact (List.Perm.swap _ _ _).nodup_iff.mp (show (u :: m :: (Ow.frm Lw cl E C O).fp).Nodup from nd)
    · refine .cons (Ex.whileW (If := FrI w s₀ B₀ L [] [(Str.ofString "missing", .val (.ref m)), (Str.ofString "unexpected", .val (.ref u))] [] ((sldR m u (sld xs ys).1 (sld xs ys).2).and (Ow.frm Lw cl E C O))) (Jr := fun _ _ _ => False) (σ := { a // sldI xs ys a })
        (fun a => FrI w s₀ B₀ L [] (sldE xs ys m u a.1.2.1 a.1.2.2.1) [] ((sldR m u a.1.2.2.2.1 a.1.2.2.2.2).and (Ow.frm Lw cl E C O))) (fun a => a.1.1) ⟨(xs.length + ys.length, 0, 0, [], []), by simp [sldI, sld]⟩ (fun a => FrI.clo) ?_) ?_ (fun fl B s hn j => by cases fl <;> first | exact (hn rfl).elim | exact j.elim)
      · rintro ⟨⟨n, i, j, ms, us⟩, i1, i2, i3, i4, i5, i6, i7⟩
        simp only at i1 i2 i3 i4 i5 i6 i7
        refine ⟨true, .val FrI.clo (.cbool FrI.clo) .bool, fun _ => ?_, fun h => by cases h⟩
        refine .cons (J' := fun fl B s => match fl with
          | .next | .cont => ∃ a' : { a // sldI xs ys a }, a'.1.1 < n ∧ FrI w s₀ B₀ L [] (sldE xs ys m u a'.1.2.1 a'.1.2.2.1) [] ((sldR m u a'.1.2.2.2.1 a'.1.2.2.2.2).and (Ow.frm Lw cl E C O)) B s
          | .brk => FrI w s₀ B₀ L [] [(Str.ofString "missing", .val (.ref m)), (Str.ofString "unexpected", .val (.ref u))] [] ((sldR m u (sld xs ys).1 (sld xs ys).2).and (Ow.frm Lw cl E C O)) B s
          | .ret d => False) (Ex.exc (s₀ := s₀) (B₀ := B₀) (cl := cl) (E := E) (C := C) (O := O) (G1 := sldG xs ys m u) (fs0 _ rfl (by intro h; cases h)) ?_ (fun e E' R' c => .blt XT.clos (nb_IndexError w) bb_IndexError) ?_) (.nil fun B s h => h) (fun fl B s hn j => by cases fl <;> first | exact (hn rfl).elim | exact j)
        · show XExs w _ _ (FrI w s₀ B₀ L [] (sldE xs ys m u i j) [] ((sldR m u ms us).and (Ow.frm Lw cl E C O))) _ _ _
          rcases (Nat.lt_or_ge i xs.length).symm with hi | hi
          · have ei : xs.drop i = [] := List.drop_eq_nil_of_le hi
            rw [ei, sldF_nil] at i6 i7
            refine .on (I' := fun _ _ => False) (.setR (.itm (k := i) (c := true) FrI.clo (.locF rfl) (.locF rfl) (by rw [List.length_map]; exact hi) (by omega) (fun B s F => .zero (hd0 _)) fun B s F h' tk e ne ht => ⟨_, _, _, ⟨i, j, ms, us, .refl, rfl, i1, i2, i4, i5, by rw [ei]; exact i6, i7⟩, xs_new F ne ht⟩)) .no
          · obtain ⟨x, hx'⟩ : ∃ x, xs[i]? = some x := ⟨_, List.getElem?_eq_getElem hi⟩
            have ex : xs.drop i = x :: xs.drop (i + 1) := by rw [List.drop_eq_getElem_cons hi]; congr 1; rw [List.getElem?_eq_getElem hi] at hx'; exact Option.some.inj hx'
            refine .on (.of (.setL (.itm FrI.clo (.locF rfl) (.locF rfl) (.lst (by omega) (by omega) (by rw [Int.toNat_natCast, List.getElem?_map, hx']; rfl))))) ?_
            rcases (Nat.lt_or_ge j ys.length).symm with hj | hj
            · have ej : ys.drop j = [] := List.drop_eq_nil_of_le hj
              rw [ej, sldF_nil'] at i6 i7
              refine .on (I' := fun _ _ => False) (.setR (.itm (k := j) (c := true) FrI.clo (.locF rfl) (.locF rfl) (by rw [List.length_map]; exact hj) (by omega) (fun B s F => .zero (hd0 _)) fun B s F h' tk e ne ht => ⟨_, _, _, ⟨i, j, ms, us, (.cons rfl (.cons rfl (.cons rfl (.cons rfl (.cons rfl (.cons rfl .nil)))))), rfl, i1, i2, i4, i5, i6, by rw [ej]; exact i7⟩, xs_new F ne ht⟩)) .no
            · obtain ⟨y, hy'⟩ : ∃ y, ys[j]? = some y := ⟨_, List.getElem?_eq_getElem hj⟩
              have ey : ys.drop j = y :: ys.drop (j + 1) := by rw [List.drop_eq_getElem_cons hj]; congr 1; rw [List.getElem?_eq_getElem hj] at hy'; exact Option.some.inj hy'
              refine .on (.of (.setL (.itm FrI.clo (.locF rfl) (.locF rfl) (.lst (by omega) (by omega) (by rw [Int.toNat_natCast, List.getElem?_map, hy']; rfl))))) ?_
              obtain ⟨n', rfl⟩ : ∃ n', n = n' + 1 := ⟨n - 1, by omega⟩
              rw [ex, ey] at i6 i7
              have w6 : ∀ {i' j' : Nat} {E0 : List (Str × D)}, E0.lookup (Str.ofString "i") = some (.int (i' : Int)) → E0.lookup (Str.ofString "j") = some (.int (j' : Int)) → E0.lookup (Str.ofString "missing") = some (.val (.ref m)) → E0.lookup (Str.ofString "unexpected") = some (.val (.ref u)) → E0.lookup (Str.ofString "expected") = some (sL xs) → E0.lookup (Str.ofString "actual") = some (sL ys) → Wk (sldE xs ys m u i' j') E0 :=
                fun h1 h2 h3 h4 h5 h6 => .cons h1 (.cons h2 (.cons h3 (.cons h4 (.cons h5 (.cons h6 .nil)))))
              refine .one (I' := fun B s => ∃ a' : { a // sldI xs ys a }, a'.1.1 < n' + 1 ∧ FrI w s₀ B₀ L [] (sldE xs ys m u a'.1.2.1 a'.1.2.2.1) [] ((sldR m u a'.1.2.2.2.1 a'.1.2.2.2.2).and (Ow.frm Lw cl E C O)) B s) (.If (b := ltS x y) FrI.clo (.cmp FrI.clo (.locF rfl) (.locF rfl) .ltS) (fun h => ?_) (fun h => ?_)) (fun B s h => h)
              · have k6 : (ms ++ [x]) ++ (sldF n' (xs.drop (i + 1)) (ys.drop j)).1 = (sld xs ys).1 := by rw [← i6, ey]; simp [sldF, h]
                have k7 : us ++ (sldF n' (xs.drop (i + 1)) (ys.drop j)).2 = (sld xs ys).2 := by rw [← i7, ey]; simp [sldF, h]
                refine .on (.of (.app (.locF rfl) (.locF rfl) (hasM (ms' := ms ++ [x]) (by simp)) (by rw [List.length_map]; omega))) ?_
                refine .on (.of (.aug (d := .int ((i + 1 : Nat) : Int)) rfl (.cint FrI.clo) .addI)) ?_
                refine .one (whX (zs := xs) (i := i + 1) (x := x) (fs0 _ rfl (by intro h; cases h)) FrI.clo (.locF rfl) (.locF rfl) (.locF rfl) (by omega) (by omega) (fun y' h => ax i x y' hx' h) (fun hi1 => ?_) (fun hi1 B s F => ?_)) (fun B s h => h)
                · have e1 : xs.drop (i + 1) = [] := List.drop_eq_nil_of_le hi1
                  rw [e1, sldF_nil] at k6 k7
                  exact .itm (k := i + 1) (c := true) FrI.clo (.locF rfl) (.locF rfl) (by rw [List.length_map]; exact hi1) (by omega) (fun B s F => .zero (hd0 _)) fun B s F h' tk e ne ht => ⟨_, _, _, ⟨i + 1, j, ms ++ [x], us, w6 rfl rfl rfl rfl rfl rfl, rfl, hi, i2, by simp; exact i4, i5, by rw [e1]; exact k6, k7⟩, xs_new F ne ht⟩
                · exact ⟨⟨(n', i + 1, j, ms ++ [x], us), hi, i2, by simp only; omega, by simp; exact i4, i5, k6, k7⟩, Nat.lt_succ_self _, F.weak (w6 rfl rfl rfl rfl rfl rfl) .nil⟩
              · refine .one (.If (b := ltS y x) FrI.clo (.cmp FrI.clo (.locF rfl) (.locF rfl) .gtS) (fun h2 => ?_) (fun h2 => ?_)) (fun B s h => h)
                · have k6 : ms ++ (sldF n' (xs.drop i) (ys.drop (j + 1))).1 = (sld xs ys).1 := by rw [← i6, ex]; simp [sldF, h, h2]
                  have k7 : (us ++ [y]) ++ (sldF n' (xs.drop i) (ys.drop (j + 1))).2 = (sld xs ys).2 := by rw [← i7, ex]; simp [sldF, h, h2]
                  refine .on (.of (.app (.locF rfl) (.locF rfl) (hasU (us' := us ++ [y]) (by simp)) (by rw [List.length_map]; omega))) ?_
                  refine .on (.of (.aug (d := .int ((j + 1 : Nat) : Int)) rfl (.cint FrI.clo) .addI)) ?_
                  refine .one (whX (zs := ys) (i := j + 1) (x := y) (fs0 _ rfl (by intro h; cases h)) FrI.clo (.locF rfl) (.locF rfl) (.locF rfl) (by omega) (by omega) (fun y' h => ay j y y' hy' h) (fun hj1 => ?_) (fun hj1 B s F => ?_)) (fun B s h => h)
                  · have e1 : ys.drop (j + 1) = [] := List.drop_eq_nil_of_le hj1
                    rw [e1, sldF_nil'] at k6 k7
                    exact .itm (k := j + 1) (c := true) FrI.clo (.locF rfl) (.locF rfl) (by rw [List.length_map]; exact hj1) (by omega) (fun B s F => .zero (hd0 _)) fun B s F h' tk e ne ht => ⟨_, _, _, ⟨i, j + 1, ms, us ++ [y], w6 rfl rfl rfl rfl rfl rfl, rfl, i1, hj, i4, by simp; exact i5, k6, by rw [e1]; exact k7⟩, xs_new F ne ht⟩
                  · exact ⟨⟨(n', i, j + 1, ms, us ++ [y]), i1, hj, by simp only; omega, i4, by simp; exact i5, k6, k7⟩, Nat.lt_succ_self _, F.weak (w6 rfl rfl rfl rfl rfl rfl) .nil⟩
                · have k6 : ms ++ (sldF n' (xs.drop (i + 1)) (ys.drop (j + 1))).1 = (sld xs ys).1 := by rw [← i6]; simp [sldF, h, h2]
                  have k7 : us ++ (sldF n' (xs.drop (i + 1)) (ys.drop (j + 1))).2 = (sld xs ys).2 := by rw [← i7]; simp [sldF, h, h2]
                  refine .on (.of (.aug (d := .int ((i + 1 : Nat) : Int)) rfl (.cint FrI.clo) .addI)) ?_
                  rcases (Nat.lt_or_ge (i + 1) xs.length).symm with hi1 | hi1
                  · have e1 : xs.drop (i + 1) = [] := List.drop_eq_nil_of_le hi1
                    rw [e1, sldF_nil] at k6 k7
                    refine .one (.fin (I' := fun _ _ => False) (G1 := fun E' R' c => E' = (Str.ofString "i", .int ((i + 1 : Nat) : Int)) :: (Str.ofString "a", .str y) :: (Str.ofString "e", .str x) :: sldE xs ys m u i j ∧ R' = sldR m u ms us ∧ c = true) (fs0 _ rfl (by intro h; cases h)) ?_ .no ?_) (fun B s h => h)
                    · refine .one (whX (zs := xs) (i := i + 1) (x := x) (fs0 _ rfl (by intro h; cases h)) FrI.clo (.locF rfl) (.locF rfl) (.locF rfl) (by omega) (by omega) (fun y' h => ax i x y' hx' h) (fun _ => ?_) (fun hi2 => by omega)) (fun B s h => h)
                      exact .itm (k := i + 1) (c := true) FrI.clo (.locF rfl) (.locF rfl) (by rw [List.length_map]; exact hi1) (by omega) (fun B s F => .zero (hd0 _)) fun B s F h' tk e ne ht => ⟨_, _, _, ⟨rfl, rfl, rfl⟩, xs_new F ne ht⟩
                    · rintro e E' R' c ⟨rfl, rfl, rfl⟩
                      refine .ex fun T => ?_
                      refine .on (.of (.aug (d := .int ((j + 1 : Nat) : Int)) rfl (.cint FrI.clo) .addI)) ?_
                      refine .one (whX (zs := ys) (i := j + 1) (x := y) ((fs0 _ rfl (by intro h; cases h)).mark _) FrI.clo (.locF rfl) (.locF rfl) (.locF rfl) (by omega) (by omega) (fun y' h => ay j y y' hy' h) (fun hj1 => ?_) (fun hj1 B s F => ?_)) (fun B s h => h)
                      · have e2 : ys.drop (j + 1) = [] := List.drop_eq_nil_of_le hj1
                        exact .itm (k := j + 1) (c := false) FrI.clo (.locF rfl) (.locF rfl) (by rw [List.length_map]; exact hj1) (by omega) (fun B s F => .one rfl F.own.1.1) fun B s F h' tk e ne ht => ⟨_, _, _, ⟨i + 1, j + 1, ms, us, w6 rfl rfl rfl rfl rfl rfl, rfl, hi, hj, by omega, by omega, by rw [e1]; exact k6, k7⟩, xs_new2 F ne ht⟩
                      · exact ⟨_, _, _, _, ⟨i + 1, j + 1, ms, us, w6 rfl rfl rfl rfl rfl rfl, rfl, hi, hj, by omega, by omega, by rw [e1]; exact k6, k7⟩, T, F⟩
                  · refine .one (.fin (I' := FrI w s₀ B₀ L [] ((Str.ofString "i", .int ((i + 1 : Nat) : Int)) :: (Str.ofString "a", .str y) :: (Str.ofString "e", .str x) :: sldE xs ys m u i j) [] ((sldR m u ms us).and (Ow.frm Lw cl E C O))) (G1 := fun E' R' c => False) (fs0 _ rfl (by intro h; cases h)) ?_ ?_ (fun e E' R' c h => h.elim)) (fun B s h => h)
                    · exact .one (whX (zs := xs) (i := i + 1) (x := x) (fs0 _ rfl (by intro h; cases h)) FrI.clo (.locF rfl) (.locF rfl) (.locF rfl) (by omega) (by omega) (fun y' h => ax i x y' hx' h) (fun hi2 => by omega) (fun _ B s F => F)) (fun B s h => h)
                    · refine .on (.of (.aug (d := .int ((j + 1 : Nat) : Int)) rfl (.cint FrI.clo) .addI)) ?_
                      refine .one (whX (zs := ys) (i := j + 1) (x := y) (fs0 _ rfl (by intro h; cases h)) FrI.clo (.locF rfl) (.locF rfl) (.locF rfl) (by omega) (by omega) (fun y' h => ay j y y' hy' h) (fun hj1 => ?_) (fun hj1 B s F => ?_)) (fun B s h => h)
                      · have e2 : ys.drop (j + 1) = [] := List.drop_eq_nil_of_le hj1
                        rw [e2, sldF_nil'] at k6 k7
                        exact .itm (k := j + 1) (c := true) FrI.clo (.locF rfl) (.locF rfl) (by rw [List.length_map]; exact hj1) (by omega) (fun B s F => .zero (hd0 _)) fun B s F h' tk e ne ht => ⟨_, _, _, ⟨i + 1, j + 1, ms, us, w6 rfl rfl rfl rfl rfl rfl, rfl, hi, hj, by omega, by omega, k6, by rw [e2]; exact k7⟩, xs_new F ne ht⟩
                      · exact ⟨⟨(n', i + 1, j + 1, ms, us), hi, hj, by simp only; omega, by simp only; omega, by simp only; omega, k6, k7⟩, Nat.lt_succ_self _, F.weak (w6 rfl rfl rfl rfl rfl rfl) .nil⟩
        · rintro e E' R' c ⟨i, j, ms, us, hw, rfl, i1, i2, i4, i5, i6, i7⟩
          refine Exs.pre' (I' := FrI w s₀ B₀ L [] (sldE xs ys m u i j) [] ((sldR m u ms us).and (Ow.frm Lw cl E C O))) (fun B s F => F.weak hw .nil) ?_
          refine .on (.ext (ds2 := (xs.drop i).map .str) (.locF rfl) (.cast (.slice FrI.clo (.locF rfl) (.some (.locF rfl)) (.none FrI.clo) (.none FrI.clo) (by intro h; cases h) (by rw [List.length_map]; omega)) (by rw [pickL_from, List.map_drop])) (hasM (ms' := ms ++ xs.drop i) (by rw [List.map_append])) (by simp only [List.length_map, List.length_drop]; omega)) ?_
          refine .on (.ext (ds2 := (ys.drop j).map .str) (.locF rfl) (.cast (.slice FrI.clo (.locF rfl) (.some (.locF rfl)) (.none FrI.clo) (.none FrI.clo) (by intro h; cases h) (by rw [List.length_map]; omega)) (by rw [pickL_from, List.map_drop])) (hasU (us' := us ++ ys.drop j) (by rw [List.map_append])) (by simp only [List.length_map, List.length_drop]; omega)) ?_
          rw [i6, i7]
          exact .cons (.brk fun B s F => F.weak (.cons rfl (.cons rfl .nil)) .nil) (.nil fun B s h => h) fun fl B s hn j => j
      · refine Exs.pre (I' := FrI w s₀ B₀ L [] [(Str.ofString "unexpected", sL (sld xs ys).2), (Str.ofString "missing", sL (sld xs ys).1)] [] (Ow.nil.and (Ow.frm Lw cl E C O))) (fun B s F => ?_) ?_
        · have F0 := F.ow (O' := (Ow.own m ((sld xs ys).1.map .str)).and ((Ow.own u ((sld xs ys).2.map .str)).and (Ow.nil.and (Ow.frm Lw cl E C O)))) (fun a ha => ha) F.nod ⟨F.own.1.1, F.own.1.2.1, trivial, F.own.2⟩
          obtain ⟨B1, le1, v1, F1⟩ := F0.freeze
          obtain ⟨B2, le2, v2, F2⟩ := F1.freeze
          exact ⟨B2, le1.trans le2, ((F2.retype (x := Str.ofString "missing") rfl (v1.mono le2)).retype (x := Str.ofString "unexpected") rfl v2).weak (.cons rfl (.cons rfl .nil)) .nil⟩
        · exact .ret FrI.clo (.tuple FrI.clo (.cons FrI.clo (.locF rfl) (.cons FrI.clo (.locF rfl) (.nil FrI.clo))) (show 2 ≤ sizeLine by decide)) fun B s F => ⟨rfl, F.back⟩
end Mine
end
section
open PySem PySem.W PySem.Spec PySem.Calls PyProof.Rows
set_option maxRecDepth 100000
namespace Mine

/-! a def with cells -/
theorem lookup_filter {α : Type} {f : Str → Bool} {x : Str} {d : α} : ∀ {l : List (Str × α)}, (l.filter fun p => f p.1).lookup x = some d → l.lookup x = some d ∧ f x = true
  | [], h => by cases h
  | (y, e) :: l, h => by
    rw [List.filter_cons] at h
    split at h
    · rename_i hf
      rw [List.lookup_cons] at h ⊢
      cases q : x == y with
      | true => rw [q] at h; have : x = y := by simpa using q
                subst this; exact ⟨h, hf⟩
      | false => rw [q] at h; exact lookup_filter h
    · rename_i hf
      have ih := lookup_filter h
      rw [List.lookup_cons]
      cases q : x == y with
      | true => have : x = y := by simpa using q
                subst this; exact absurd ih.2 hf
      | false => exact ih
theorem bindL_out {k : Str → Option NameKind} {x : Str} : ∀ {l : List (Str × Value)} {m : Str → Option Value}, x ∉ l.map (·.1) → bindL k l m x = m x
  | [], _, _ => rfl
  | (n, v) :: l, m, h => by
    have h1 : x ≠ n := fun q => h (by rw [q]; exact .head _)
    unfold bindL
    rw [bindL_out fun q => h (.tail _ q)]
    split
    · exact if_neg h1
    · rfl
theorem bindC_out {k : Str → Option NameKind} {x : Str} : ∀ {l : List (Str × Value)} {m : Str → Option Value}, x ∉ l.map (·.1) → bindC k l m x = m x
  | [], _, _ => rfl
  | (n, v) :: l, m, h => by
    have h1 : x ≠ n := fun q => h (by rw [q]; exact .head _)
    unfold bindC
    rw [bindC_out fun q => h (.tail _ q)]
    split
    · rfl
    · exact if_neg h1
theorem bindL_in {k : Str → Option NameKind} {x : Str} {v : Value} (hk : k x = some .local) : ∀ {l : List (Str × Value)} {m : Str → Option Value}, (l.map (·.1)).Nodup → l.lookup x = some v → bindL k l m x = some v
  | (n, u) :: l, m, nd, h => by
    have nd' := List.nodup_cons.mp (show (n :: l.map (·.1)).Nodup from nd)
    rw [List.lookup_cons] at h
    unfold bindL
    cases q : x == n with
    | true =>
      rw [q] at h; cases h
      have e : x = n := by simpa using q
      subst e
      rw [bindL_out nd'.1, if_pos hk]; exact if_pos rfl
    | false => rw [q] at h; exact bindL_in hk nd'.2 h
theorem bindC_in {k : Str → Option NameKind} {x : Str} {v : Value} (hk : k x ≠ some .local) : ∀ {l : List (Str × Value)} {m : Str → Option Value}, (l.map (·.1)).Nodup → l.lookup x = some v → bindC k l m x = some v
  | (n, u) :: l, m, nd, h => by
    have nd' := List.nodup_cons.mp (show (n :: l.map (·.1)).Nodup from nd)
    rw [List.lookup_cons] at h
    unfold bindC
    cases q : x == n with
    | true =>
      rw [q] at h; cases h
      have e : x = n := by simpa using q
      subst e
      rw [bindC_out nd'.1, if_neg hk]; exact if_pos rfl
    | false => rw [q] at h; exact bindC_in hk nd'.2 h
abbrev cellsOf (L : Addr) (scope : Scope) : List (Str × Addr) := cellsFrom (L + 1) scope.names []
theorem cells_ok (L : Addr) (scope : Scope) : (∀ n c, (n, c) ∈ cellsOf L scope → L < c) ∧ (cellsOf L scope).Pairwise fun x y => x.2 ≠ y.2 := by
  have h0 : ∃ h : Heap, h.objs.size = L + 1 := ⟨{ objs := Array.replicate (L + 1) { cls := .none, data := .cell none } }, by simp⟩
  obtain ⟨h, hs⟩ := h0
  have := cellsFrom_ok scope.names h (L + 1) [] ⟨fun _ _ hm => (nomatch hm), List.Pairwise.nil⟩ (by rw [hs]; exact Nat.le_refl _)
  rw [hs] at this
  exact ⟨fun n c hm => (this.empty n c hm).2, this.apart⟩
theorem cells_inj {L : Addr} {scope : Scope} {x : Str} {c : Addr} (h : (cellsOf L scope).lookup x = some c) : ∀ y, (cellsOf L scope).lookup y = some c → y = x :=
  fun y hy => name_of_addr (cells_ok L scope).2 (PySem.mem_of_lookup hy) (PySem.mem_of_lookup h)
theorem cells_vals (L : Addr) (scope : Scope) : ((cellsOf L scope).map (·.2)).Nodup := by
  rw [List.Nodup, List.pairwise_map]; exact (cells_ok L scope).2
def kindOnly (scope : Scope) (k : NameKind) {α : Type} (l : List (Str × α)) : List (Str × α) := l.filter fun p => decide (scope.names.lookup p.1 = some k)
theorem Fn.introC {w : World} {k : Nat} {f : Addr} {args : List D} {d : D} {name qual : Str} {params : Arguments} {body : List Stmt} {scope : Scope} {dV kV doc pm cdv ct oc : Value} {an od : Option Addr} {osl : Array (Option Value)} (ns : List Str)
    (ho : (KK w).lookup f = some ⟨oc, od, .func (fnOf name qual params body scope dV kV doc pm an cdv ct), osl⟩) (hcd : codeIn (KK w) cdv qual = true)
    (hb : ∀ vs : List Value, vs.length = args.length → bindArgs (fnOf name qual params body scope dV kV doc pm an cdv ct) ⟨vs, []⟩ = pure (ns.zip vs)) (hnd : ns.Nodup) (hlen : ns.length = args.length)
    (hkind : (ns.all fun y => scope.names.lookup y == some .local || scope.names.lookup y == some .cell) = true)
    (h : ∀ (A : Around) (s₀ : Shared) (B₀ : Sto) (L : Addr), Rm k A → Exs w A (envOfC qual scope L f cdv) (FrI w s₀ B₀ L (cellsOf L scope) (kindOnly scope .local (ns.zip args)) (kindOnly scope .cell (ns.zip args)) Ow.nil) body (Done d s₀ B₀))
    (hco : scope.isCoroutine = false := by rfl) (hgen : scope.isGenerator = false := by rfl) (hk : scope.kind = .function := by rfl) : Fn w (k + 1) f args d := by
  intro A B s vs Q E rm g sb hv q
  refine wpAny_call (codeAny_call_function rm.room (g.K _ _ ho) rfl hco hgen rfl (codeRec_of g.K hcd) (wpAny_of_eq (hb vs hv.length) ?_))
  have hkeys : (ns.zip vs).map (·.1) = ns := List.map_fst_zip (by rw [hlen, hv.length]; exact Nat.le_refl _)
  refine wpAny_with_toks (Nat.le_refl s.toks) (wpAny_newFunctionEnv_cells hk (fun x hx => ?_) fun env he s' X htk => ?_)
  · have hx' : x.1 ∈ ns := by have := List.mem_map_of_mem (f := (·.1)) hx; rwa [hkeys] at this
    rcases Bool.or_eq_true_iff.mp (List.all_eq_true.mp hkind x.1 hx') with e | e
    · exact .inl (by simpa using e)
    · have e' : scope.names.lookup x.1 = some .cell := by simpa using e
      exact .inr ⟨e', cellsFrom_some _ _ _ (.inl e')⟩
  · subst he
    refine ⟨g.lim.keeps X.toInCall.keep, codeAny_func ?_⟩
    refine h _ s B s.heap.objs.size rm.deeper B s' _ _ ?_ ?_
    · have hnd' : ((ns.zip vs).map (·.1)).Nodup := by rw [hkeys]; exact hnd
      have kp : Keeps s s' := by
        obtain ⟨h', tk, e, kk⟩ := X.done
        exact ⟨h', tk, e, kk⟩
      have nn : ∀ c, s.heap.objs.size ≤ c → s.heap.get? c = none := fun c hc => Heap.get?_none_of_le hc
      refine ⟨g, kp, htk, sb.keeps kp, Le.refl B, fun _ _ e => .inl e, fresh_size _, sb.none (fresh_size _), ⟨_, X.toInCall.ns, fun x d' e => ?_⟩, fun x c hc => ?_, trivial, (fun a ha => nomatch ha), List.nodup_nil⟩
      · obtain ⟨e1, e2⟩ := lookup_filter (f := fun y => decide (scope.names.lookup y = some .local)) e
        obtain ⟨v, h1, h2⟩ := zip_lookup (vs := vs) hv e1
        exact ⟨v, bindL_in (of_decide_eq_true e2) hnd' h1, h2⟩
      · have hc' : s.heap.objs.size < c := X.above x c (PySem.mem_of_lookup hc)
        have hn := nn c (Nat.le_of_lt hc')
        obtain ⟨o, ho', hd'⟩ := X.cell x c hc
        refine ⟨sb.none hn, hn, o, _, ho', hd', fun d' e => ?_⟩
        obtain ⟨e1, e2⟩ := lookup_filter (f := fun y => decide (scope.names.lookup y = some .cell)) e
        obtain ⟨v, h1, h2⟩ := zip_lookup (vs := vs) hv e1
        refine ⟨v, bindC_in ?_ hnd' h1, h2⟩
        have e3 : scope.names.lookup x = some .cell := of_decide_eq_true e2
        show ¬ scope.names.lookup x = some .local
        rw [e3]; intro q; cases q
    · intro fl f' B' s'' hf hd le
      obtain ⟨rfl, gr⟩ := hd
      cases hf with
      | ret hv' => exact q _ _ _ gr hv'

/-! free names of a comprehension -/
def Cel (c : Addr) (d : D) (B : Sto) (s : Shared) : Prop := ∃ o u, s.heap.get? c = some o ∧ o.data = .cell (some u) ∧ V B u d
theorem Cel.grow {c : Addr} {d : D} {B B' : Sto} {s s' : Shared} (x : Cel c d B s) (g : Grow B s B' s') : Cel c d B' s' := by
  obtain ⟨o, u, h1, h2, h3⟩ := x
  exact ⟨o, u, kheap g.kp _ _ h1, h2, h3.mono g.le⟩
theorem FrI.celOf {w : World} {s₀ s₁ : Shared} {B₀ B₁ : Sto} {L : Addr} {cl : List (Str × Addr)} {E C' : List (Str × D)} {O' : Ow} {c : Addr} {d : D} (F : FrI w s₀ B₀ L cl E C' O' B₁ s₁) (x : Str) (hx : C'.lookup x = some d) (hc : cl.lookup x = some c) : Cel c d B₁ s₁ := by
  obtain ⟨h1, h2, o, v, h3, h4, h5⟩ := F.cel x c hc
  obtain ⟨u, rfl, h6⟩ := h5 d hx
  exact ⟨o, u, h3, h4, h6⟩
theorem Ev.freeF {w : World} {A : Around} {env : Env} {s₁ : Shared} {B₁ : Sto} {C : Addr} {E' : List (Str × D)} {O : Ow} {x : Str} {pos : Pos} {c : Addr} {d : D}
    (F : Cel c d B₁ s₁) (hcl : env.cells.lookup x = some c := by rfl) (hk : env.scope.kind = .function := by rfl) (hl : env.kindOf x = some .free := by rfl) (hd : (x == ("__debug__" : Str)) = false := by decide) (hn : (x == ("__classdict__" : Str)) = false := by decide) :
    Ev w A env (FrI w s₁ B₁ C [] E' [] O) (.Name x pos) d := by
  intro B s Q X G k
  obtain ⟨o, u, h3, h4, h6⟩ := F
  exact wpAny_Name (wpAny_loadName_free hk hl hcl ⟨o, kheap G.kp _ _ h3, h4⟩ (k u B s (.refl G.sub) (h6.mono G.le)) hn) hd
end Mine
end
section
open PySem PySem.W PySem.Spec PySem.Calls PyProof.Rows
set_option maxRecDepth 100000
namespace Mine

/-! for over enumerate(list) -/
section
variable {w : World} {A : Around} {env : Env} {s₀ s : Shared} {B₀ B : Sto} {L : Addr} {cl : List (Str × Addr)} {E C : List (Str × D)} {O : Ow}
theorem FrI.adopt {a : Addr} {o : Obj} (F : FrI w s₀ B₀ L cl E C O B s) (ho : s.heap.get? a = some o) (h1 : s₀.heap.get? a = none) (h2 : B a = none) (h3 : a ≠ L) (h4 : a ∉ O.fp) (h5 : ∀ x c, cl.lookup x = some c → c ≠ a) : FrI w s₀ B₀ L cl E C O (put B a o) s := by
  have le : Le B (put B a o) := le_put h2
  have sb : Sub (put B a o) s.heap := fun b o' e => by
    by_cases q : b = a
    · subst q; rw [put_self] at e; cases e; exact ho
    · rw [put_ne q] at e; exact F.sub b o' e
  obtain ⟨m, hm, hE⟩ := F.loc
  refine ⟨F.gd, F.kp, F.tk, sb, F.le.trans le, fun b o' e => ?_, F.fresh, (put_ne (Ne.symm h3)).trans F.nL, ⟨m, hm, fun x d e => let ⟨v, h1, h2⟩ := hE x d e; ⟨v, h1, h2.mono le⟩⟩, fun x c hc => ?_, O.frame F.own le sb fun b _ o e => e, fun b hb => ?_, F.nod⟩
  · by_cases q : b = a
    · subst q; exact .inr h1
    · rw [put_ne q] at e; exact F.new b o' e
  · obtain ⟨g1, g2, oc, u, g3, g4, g5⟩ := F.cel x c hc
    exact ⟨(put_ne (h5 x c hc)).trans g1, g2, oc, u, g3, g4, fun d hd => let ⟨u', e1, e2⟩ := g5 d hd; ⟨u', e1, e2.mono le⟩⟩
  · have := F.fpo b hb
    exact ⟨this.1, (put_ne (show b ≠ a from fun q => h4 (q ▸ hb))).trans this.2.1, this.2.2⟩
def Ow.en (e it l : Addr) (i : Nat) : Ow := ⟨[e, it], fun _ h => (∃ old, IsEnum h e it i old) ∧ h.IsListIter it l i,
  fun ⟨⟨old, h1⟩, ⟨o, h2, _⟩⟩ b hb => by
    rcases List.mem_cons.mp hb with rfl | hb
    · exact ⟨_, h1⟩
    · rw [List.mem_singleton.mp hb]; exact ⟨_, h2⟩,
  fun ⟨⟨old, h1⟩, ⟨o, h2, r⟩⟩ _ _ k => ⟨⟨old, k e (.head _) _ h1⟩, ⟨o, k it (.tail _ (.head _)) _ h2, r⟩⟩⟩
variable {elts : List Expr} {kk : Nat} {tpos np cp pos : Pos} {x0 : Expr} {body : List Stmt} {ds : List D} {If : Sto → Shared → Prop} {Jr : D → Sto → Shared → Prop}
set_option maxHeartbeats 2000000 in
theorem Ex.forEn (E C : Nat → List (Str × D)) (Om : Nat → Ow → Prop) {O₀ : Ow} (hh : A.handled = none) (hO : Om 0 O₀) (hn0 : Ev w A env (FrI w s₀ B₀ L cl (E 0) (C 0) O₀) (.Name "enumerate" np) (.val (.type "enumerate"))) (hi : Ev w A env (FrI w s₀ B₀ L cl (E 0) (C 0) O₀) x0 (.lst ds))
    (turn : ∀ (i : Nat) (d : D) (P O : Ow), ds[i]? = some d → Om i O → ∃ I', As w A env (FrI w s₀ B₀ L cl (E i) (C i) (P.and O)) (.Tuple elts kk tpos) (.tup [.int i, d]) I' ∧
      Exs w A env I' body (fun fl B s => match fl with
        | .next | .cont => ∃ O', Om (i + 1) O' ∧ FrI w s₀ B₀ L cl (E (i + 1)) (C (i + 1)) (P.and O') B s
        | .brk => ∃ E' C' O', FrI w s₀ B₀ L cl E' C' (P.and O') B s ∧ (FrI w s₀ B₀ L cl E' C' O' B s → If B s)
        | .ret d => Jr d B s))
    (hn : ∀ O B s, Om ds.length O → FrI w s₀ B₀ L cl (E ds.length) (C ds.length) O B s → If B s)
    (hs : ∀ x, foldedSetIterable (.Call (.Name "enumerate" np) [x0] [] cp) env x = pure x := by intro _; rfl) (hst : ((backTo cp (starEach [x0] env)).any (·.1)) = false := by rfl) (hse : starEach [x0] env = [(false, eval x0 env)] := by rfl) :
    Ex w A env (FrI w s₀ B₀ L cl (E 0) (C 0) O₀) (.For (.Tuple elts kk tpos) (.Call (.Name "enumerate" np) [x0] [] cp) body [] pos) (fun fl B s => match fl with | .next => If B s | .ret d => Jr d B s | _ => False) := by
  intro B s Q X F k
  refine wpAny_For (wpAny_Call_NameR (hn0 B s _ _ F fun v B1 s1 g1 hv => ?_)) hs
  cases hv
  refine PySem.callWith_type hst (evalArgs_any hst (args_cons (hi B1 s1 _ _ (FrI.clo.grow F g1) fun v B2 s2 g2 hv => args_nil ?_) (by rw [hse]; rfl)))
  have F2 := FrI.clo.grow (FrI.clo.grow F g1) g2
  obtain ⟨l, vs, n, rfl, hl, hvs⟩ := hv.inv_lst
  have hl2 := F2.sub _ _ hl
  refine call_enumerate_list (isList_of hl2) fun h3 he3 hit3 hsz3 hk3 => ?_
  generalize hit : s2.heap.objs.size = it at he3 hit3 hsz3
  generalize hen : it + 1 = en at he3
  have hne : en ≠ it := by rw [← hen]; exact Nat.succ_ne_self it
  have hle : l ≠ en := fun q => by have := Heap.lt_size hl2; rw [hit, q, ← hen] at this; exact absurd this (by simp)
  have hli : l ≠ it := fun q => by have := Heap.lt_size hl2; rw [hit, q] at this; exact absurd this (Nat.lt_irrefl _)
  let IT : Nat → Ow := fun i => Ow.en en it l i
  have F3 : FrI w s₀ B₀ L cl (E 0) (C 0) ((IT 0).and O₀) B2 { s2 with heap := h3 } := by
    refine F2.more ⟨h3, s2.toks, rfl, hk3⟩ (Nat.le_refl _) (fun b hb => Heap.get?_none_of_le ?_) (by show [en, it].Nodup; simp [hne]) ⟨⟨_, he3⟩, hit3⟩
    rcases List.mem_cons.mp hb with rfl | hb
    · rw [hit, ← hen]; exact Nat.le_succ _
    · rw [List.mem_singleton.mp hb, hit]; exact Nat.le_refl _
  have hV : V B2 (.ref l) (.lst ds) := .lst hl hvs
  refine wpAny_pyIter_enum he3 ?_
  refine codeAny_forLoop_any (fun m s' => ∃ i B' O, m = ds.length - i ∧ i ≤ ds.length ∧ Le B2 B' ∧ Om i O ∧ FrI w s₀ B₀ L cl (E i) (C i) ((IT i).and O) B' s') ?_ ds.length ⟨0, B2, O₀, by omega, Nat.zero_le _, Le.refl _, hO, F3⟩
  rintro m s' ⟨i, B', O, rfl, hi', le', hOm, F'⟩
  obtain ⟨⟨⟨old, he⟩, hit'⟩, ho⟩ := F'.own
  have nd : (en :: it :: O.fp).Nodup := F'.nod
  have nd1 := List.nodup_cons.mp nd
  have nd2 := List.nodup_cons.mp nd1.2
  have hlB := le' _ _ hl
  have hL' := isList_of (F'.sub _ _ hlB)
  have hsz : vs.toArray.size = ds.length := (List.size_toArray ..).trans hvs.length
  by_cases hlt : i < ds.length
  · obtain ⟨d, hd⟩ : ∃ d, ds[i]? = some d := ⟨_, List.getElem?_eq_getElem hlt⟩
    obtain ⟨x, hx, hxd⟩ := hvs.get hd
    refine wpAny_pyNext_enum_item he hit' hL' (x := x) (by simpa using hx) hne fun h4 he4 hit4 hT4 hz4 hk4 => ?_
    refine wpAny_letOwnedTupleGo_enum he4 fun h5 he5 hs5 => ?_
    replace hs5 : Heap.SameBut en h4 h5 := hs5
    generalize hTT : s'.heap.objs.size = T at he4 hT4 hz4 ⊢
    have fresh : s'.heap.get? T = none := hTT ▸ fresh_size _
    have hTe : T ≠ en := fun q => by rw [q, he] at fresh; cases fresh
    have k5 : ∀ b o, b ≠ en → b ≠ it → s'.heap.get? b = some o → h5.get? b = some o := fun b o h1 h2 e => (hs5.2 b h1).trans (hk4 b o h1 h2 e)
    have hT5 : h5.get? T = some (tupObj [.int i s'.toks, x] 0) := (hs5.2 T hTe).trans hT4
    have F5 : FrI w s₀ B₀ L cl (E i) (C i) ((IT (i + 1)).and O) B' { s' with heap := h5, toks := s'.toks + 1 } := by
      refine F'.change (O' := (IT (i + 1)).and O) (fun b o hb e => k5 b o (fun q => hb (q ▸ .head _)) (fun q => hb (q ▸ .tail _ (.head _))) e) (Nat.le_succ _) (fun a ha => ha) F'.nod ?_
      have sb : Sub B' h5 := fun b o e => k5 b o (fun q => by have := (F'.fpo en (.head _)).2.1; rw [q, this] at e; cases e) (fun q => by have := (F'.fpo it (.tail _ (.head _))).2.1; rw [q, this] at e; cases e) (F'.sub b o e)
      refine ⟨⟨⟨x, by simpa using he5⟩, hit4.extBut hs5.extBut (Ne.symm hne)⟩, O.frame ho (Le.refl _) sb fun a ha o e => k5 a o (fun q => nd1.1 (q ▸ .tail _ ha)) (fun q => nd2.1 (q ▸ ha)) e⟩
    have nothere : ∀ a o, s'.heap.get? a = some o → a ≠ T := fun a o e q => by rw [q, fresh] at e; cases e
    have F6 : FrI w s₀ B₀ L cl (E i) (C i) ((IT (i + 1)).and O) (put B' T (tupObj [.int i s'.toks, x] 0)) { s' with heap := h5, toks := s'.toks + 1 } := by
      refine F5.adopt hT5 (none_back F'.kp fresh) (F'.sub.none fresh) (fun q => ?_) (fun q => ?_) (fun y c hc => ?_)
      · obtain ⟨m, ⟨oL, es, ep, hLo, _⟩, _⟩ := F'.loc
        exact nothere _ _ hLo q.symm
      · obtain ⟨o, ho⟩ := ((IT i).and O).there F'.own T q
        exact nothere _ _ ho rfl
      · obtain ⟨_, _, oc, u, h3, _⟩ := F'.cel y c hc
        exact nothere _ _ h3
    have leT : Le B' (put B' T (tupObj [.int i s'.toks, x] 0)) := le_put (F'.sub.none fresh)
    have hVT : V (put B' T (tupObj [.int i s'.toks, x] 0)) (.ref T) (.tup [.int i, d]) := .tup (put_self _ _ _) (.cons (.int _ _) (.one ((hxd.mono le').mono leT)))
    obtain ⟨I', as, bd⟩ := turn i d (IT (i + 1)) O hd hOm
    refine as _ _ _ _ _ F6 hVT fun B7 s7 i7 le7 => bd B7 s7 _ _ i7 fun f fl B8 s8 hf hj le8 => ?_
    have leA := leT.trans (le7.trans le8)
    cases hf with
    | next => obtain ⟨O', h1, h2⟩ := hj; exact ⟨ds.length - (i + 1), by omega, i + 1, B8, O', rfl, hlt, le'.trans leA, h1, h2⟩
    | cont => obtain ⟨O', h1, h2⟩ := hj; exact ⟨ds.length - (i + 1), by omega, i + 1, B8, O', rfl, hlt, le'.trans leA, h1, h2⟩
    | brk =>
      obtain ⟨E', C', O', hF, hI⟩ := hj
      exact k _ _ B8 s8 .next (hI hF.unit) (g1.le.trans (g2.le.trans (le'.trans leA)))
    | ret hv' => exact k _ _ B8 s8 (.ret hv') hj (g1.le.trans (g2.le.trans (le'.trans leA)))
  · have hin : i = ds.length := by omega
    subst hin
    refine wpAny_pyNext_enum_end hh he hit' hL' (Array.getElem?_eq_none (by rw [hsz]; exact Nat.le_refl _)) fun h4 hx4 => ?_
    refine wpAny_execs_nil (k _ _ B' _ .next (hn O _ _ hOm ?_) (g1.le.trans (g2.le.trans le')))
    have k4 : ∀ b o, b ≠ it → s'.heap.get? b = some o → h4.get? b = some o := fun b o h1 e => hx4 b o h1 e
    have sb : Sub B' h4 := fun b o e => k4 b o (fun q => by have := (F'.fpo it (.tail _ (.head _))).2.1; rw [q, this] at e; cases e) (F'.sub b o e)
    exact F'.change (O' := O) (tk := s'.toks) (fun b o hb' e => k4 b o (fun q => hb' (q ▸ .tail _ (.head _))) e) (Nat.le_refl _) (fun a ha => .tail _ (.tail _ ha)) nd2.2 (O.frame ho (Le.refl _) sb fun a ha o e => k4 a o (fun q => nd2.1 (q ▸ ha)) e)
end
end Mine
end
section
open PySem PySem.W PySem.Spec PySem.Calls PyProof.Rows
open AutoSeq1 (wpAny_loadPart')
open MeetsSeq MeetsSeq2 MeetsSeq3 SeqRoads2
set_option maxRecDepth 100000
namespace Mine

/-! lists of texts in their order -/
def lexLt : List Str → List Str → Bool
  | [], [] => false
  | [], _ :: _ => true
  | _ :: _, [] => false
  | p :: ps, q :: qs => if p = q then lexLt ps qs else ltS p q
theorem VAll.strAt {B : Sto} {vs : List Value} {ps : List Str} (h : VAll B vs (ps.map .str)) {i : Nat} {p : Str} (hp : ps[i]? = some p) : ∃ t, vs[i]? = some (.str p t) := by
  obtain ⟨v, e, hv⟩ := h.get (k := i) (d := .str p) (by rw [List.getElem?_map, hp]; rfl)
  obtain ⟨t, rfl⟩ := hv.inv_str
  exact ⟨t, e⟩
theorem VAll.len {B : Sto} {vs : List Value} {ps : List Str} (h : VAll B vs (ps.map .str)) : vs.length = ps.length := by rw [h.length, List.length_map]
theorem VAll.noneAt {B : Sto} {vs : List Value} {ps : List Str} (h : VAll B vs (ps.map .str)) {i : Nat} (hp : ps.length ≤ i) : vs[i]? = none := List.getElem?_eq_none (by rw [h.len]; exact hp)
theorem drop_at {α : Type} {l : List α} {i : Nat} {x : α} (h : l[i]? = some x) : l.drop i = x :: l.drop (i + 1) := by
  obtain ⟨hl, e⟩ := List.getElem?_eq_some_iff.mp h
  rw [List.drop_eq_getElem_cons hl, e]
def lexGt (ps qs : List Str) : Bool := lexLt qs ps

theorem lt_loop {B1 B2 : Sto} (l b : Addr) (xs ys : List Value) (n n2 : Nat) (ps qs : List Str) (hx : VAll B1 xs (ps.map .str)) (hy : VAll B2 ys (qs.map .str)) (k : Nat) :
    ∀ i : Nat, ps.length - i = k → i ≤ ps.length → i ≤ qs.length → Meets (Builtin.«list.__eq__.loop» ⟨[.ref l, .ref b, rawInt i, rawInt 0], []⟩)
      (fun A R s => s.heap.get? l = some (lstObj xs n) ∧ s.heap.get? b = some (lstObj ys n2) ∧ R (.ok (.ret (.bool (lexLt (ps.drop i) (qs.drop i))))) s) := by
  induction k with
  | zero =>
    intro i hk hi hiq prog w A R s h
    obtain ⟨hp, g, d, tk, os⟩ := s; obtain ⟨hl, hb, h⟩ := h
    wp_walk using wpAny_loadPart' hl, wpAny_loadPart' hb
    have e : i = ps.length := by omega
    have hi1 : xs.toArray[((i : Nat) : Int).toNat]? = none := by simpa using hx.noneAt (i := i) (by omega)
    have hd : ps.drop i = [] := List.drop_of_length_le (by omega)
    rw [hd] at h
    rw [hi1]
    wp_walk using wpAny_loadPart' hl, wpAny_loadPart' hb
    show R (.ok (.ret (.bool (decide (xs.toArray.size < ys.toArray.size))))) _
    rw [List.size_toArray, List.size_toArray, hx.len, hy.len]
    have e2 : decide (ps.length < qs.length) = lexLt [] (qs.drop i) := by
      rcases Nat.lt_or_ge i qs.length with hq | hq
      · obtain ⟨q, hq1⟩ : ∃ q, qs[i]? = some q := ⟨_, List.getElem?_eq_getElem hq⟩
        rw [drop_at hq1]
        first | exact decide_eq_true (by omega) | exact decide_eq_false (by omega)
      · rw [List.drop_of_length_le hq]
        first | exact decide_eq_true (by omega) | exact decide_eq_false (by omega)
    rw [e2]; exact h
  | succ k ih =>
    intro i hk hi hiq prog w A R s h
    obtain ⟨hp, g, d, tk, os⟩ := s; obtain ⟨hl, hb, h⟩ := h
    wp_walk using wpAny_loadPart' hl, wpAny_loadPart' hb
    obtain ⟨p, hp1⟩ : ∃ p, ps[i]? = some p := ⟨_, List.getElem?_eq_getElem (by omega)⟩
    obtain ⟨t, hv⟩ := hx.strAt hp1
    have hi1 : xs.toArray[((i : Nat) : Int).toNat]? = some (.str p t) := by simpa using hv
    rw [hi1]
    rw [drop_at hp1] at h
    have hc : ((i : Int) + 1) = ((i + 1 : Nat) : Int) := by push_cast; rfl
    rcases Nat.lt_or_ge i qs.length with hq | hq
    · obtain ⟨q, hq1⟩ : ∃ q, qs[i]? = some q := ⟨_, List.getElem?_eq_getElem hq⟩
      obtain ⟨u, hu⟩ := hy.strAt hq1
      have hi2 : ys.toArray[((i : Nat) : Int).toNat]? = some (.str q u) := by simpa using hu
      rw [hi2]
      rw [drop_at hq1] at h
      refine wpAny_bind (wpAny_eqBool_str ?_)
      by_cases hpq : p = q
      · rw [decide_eq_true hpq]
        have e3 : lexLt (p :: ps.drop (i + 1)) (q :: qs.drop (i + 1)) = lexLt (ps.drop (i + 1)) (qs.drop (i + 1)) := by subst hpq; simp [lexLt]
        rw [e3] at h
        wp_walk
        rw [hc]
        exact ⟨plainId_quiet plain_eq_loop _, codeAny_builtin entry_eq_loop (by
          rw [Around.under_plainId plain_eq_loop _]
          exact ih (i + 1) (by omega) (by omega) (by omega) prog w A R _ ⟨hl, hb, h⟩)⟩
      · rw [decide_eq_false hpq]
        have e3 : lexLt (p :: ps.drop (i + 1)) (q :: qs.drop (i + 1)) = ltS p q := by simp [lexLt, hpq, Ne.symm hpq]
        rw [e3] at h
        wp_walk using wpAny_loadPart' hl, wpAny_loadPart' hb
        rw [hi1, hi2]
        show wpAny _ _ (richCompare .Lt _ _ >>= _) _ _ _
        refine wpAny_bind (rc_ltS ?_)
        wp_walk
        exact h
    · have hi2 : ys.toArray[((i : Nat) : Int).toNat]? = none := by simpa using hy.noneAt hq
      rw [hi2]
      wp_walk using wpAny_loadPart' hl, wpAny_loadPart' hb
      show R (.ok (.ret (.bool (decide (xs.toArray.size < ys.toArray.size))))) _
      rw [List.size_toArray, List.size_toArray, hx.len, hy.len]
      have e2 : decide (ps.length < qs.length) = lexLt (p :: ps.drop (i + 1)) (qs.drop i) := by
        rw [List.drop_of_length_le hq]
        first | exact decide_eq_true (by omega) | exact decide_eq_false (by omega)
      rw [e2]; exact h
theorem list_lt {B1 B2 : Sto} (l b : Addr) (xs ys : List Value) (n n2 : Nat) (ps qs : List Str) (hx : VAll B1 xs (ps.map .str)) (hy : VAll B2 ys (qs.map .str)) : Meets (Builtin.«list.__lt__» ⟨[.ref l, .ref b], []⟩)
    (fun A R s => s.heap.get? l = some (lstObj xs n) ∧ s.heap.get? b = some (lstObj ys n2) ∧ R (.ok (.ret (.bool (lexLt ps qs)))) s) := by
  intro prog w A R s h
  obtain ⟨hp, g, d, tk, os⟩ := s; obtain ⟨hl, hb, h⟩ := h
  have f3 := AutoSeq1.sub_list_list
  wp_walk using wpAny_loadPart' hl, wpAny_loadPart' hb
  exact ⟨plainId_quiet plain_eq_loop _, codeAny_builtin entry_eq_loop (by
    rw [Around.under_plainId plain_eq_loop _]
    exact lt_loop l b xs ys n n2 ps qs hx hy _ 0 rfl (Nat.zero_le _) (Nat.zero_le _) prog w A R _ ⟨hl, hb, by simpa using h⟩)⟩
theorem Cmp.ltL {w : World} {A : Around} {k : Nat} {ps qs : List Str} (r : Rm k A) : Cmp w A .Lt (sL ps) (sL qs) (lexLt ps qs) := by
  intro B s v1 v2 Q E g sb h1 h2 q
  obtain ⟨a, vs, n, rfl, ha, hvs⟩ := h1.inv_lst
  obtain ⟨b, us, m, rfl, hb, hus⟩ := h2.inv_lst
  show wpAny _ _ (richCompare .Lt _ _) Q E s
  exact richCompare_meets_room (op := .Lt) ⟨_, sb _ _ ha, rfl⟩ ⟨_, sb _ _ hb, rfl⟩ PySem.F.slot_list_lt PySem.F.entry_list_lt (PySem.F.args_list_lt_2 _ _) (list_lt a b vs us n m ps qs hvs hus)
    ⟨sb _ _ ha, sb _ _ hb, show Value.bool (lexLt ps qs) ≠ Value.notImplemented ∧ Q (.bool (lexLt ps qs)) s from ⟨(fun x => nomatch x), q s (krefl s)⟩⟩ r.units

theorem gt_loop {B1 B2 : Sto} (l b : Addr) (xs ys : List Value) (n n2 : Nat) (ps qs : List Str) (hx : VAll B1 xs (ps.map .str)) (hy : VAll B2 ys (qs.map .str)) (k : Nat) :
    ∀ i : Nat, ps.length - i = k → i ≤ ps.length → i ≤ qs.length → Meets (Builtin.«list.__eq__.loop» ⟨[.ref l, .ref b, rawInt i, rawInt 4], []⟩)
      (fun A R s => s.heap.get? l = some (lstObj xs n) ∧ s.heap.get? b = some (lstObj ys n2) ∧ R (.ok (.ret (.bool (lexGt (ps.drop i) (qs.drop i))))) s) := by
  induction k with
  | zero =>
    intro i hk hi hiq prog w A R s h
    obtain ⟨hp, g, d, tk, os⟩ := s; obtain ⟨hl, hb, h⟩ := h
    wp_walk using wpAny_loadPart' hl, wpAny_loadPart' hb
    have e : i = ps.length := by omega
    have hi1 : xs.toArray[((i : Nat) : Int).toNat]? = none := by simpa using hx.noneAt (i := i) (by omega)
    have hd : ps.drop i = [] := List.drop_of_length_le (by omega)
    rw [hd] at h
    rw [hi1]
    wp_walk using wpAny_loadPart' hl, wpAny_loadPart' hb
    show R (.ok (.ret (.bool (decide (xs.toArray.size > ys.toArray.size))))) _
    rw [List.size_toArray, List.size_toArray, hx.len, hy.len]
    have e2 : decide (ps.length > qs.length) = lexGt [] (qs.drop i) := by
      rcases Nat.lt_or_ge i qs.length with hq | hq
      · obtain ⟨q, hq1⟩ : ∃ q, qs[i]? = some q := ⟨_, List.getElem?_eq_getElem hq⟩
        rw [drop_at hq1]
        first | exact decide_eq_true (by omega) | exact decide_eq_false (by omega)
      · rw [List.drop_of_length_le hq]
        first | exact decide_eq_true (by omega) | exact decide_eq_false (by omega)
    rw [e2]; exact h
  | succ k ih =>
    intro i hk hi hiq prog w A R s h
    obtain ⟨hp, g, d, tk, os⟩ := s; obtain ⟨hl, hb, h⟩ := h
    wp_walk using wpAny_loadPart' hl, wpAny_loadPart' hb
    obtain ⟨p, hp1⟩ : ∃ p, ps[i]? = some p := ⟨_, List.getElem?_eq_getElem (by omega)⟩
    obtain ⟨t, hv⟩ := hx.strAt hp1
    have hi1 : xs.toArray[((i : Nat) : Int).toNat]? = some (.str p t) := by simpa using hv
    rw [hi1]
    rw [drop_at hp1] at h
    have hc : ((i : Int) + 1) = ((i + 1 : Nat) : Int) := by push_cast; rfl
    rcases Nat.lt_or_ge i qs.length with hq | hq
    · obtain ⟨q, hq1⟩ : ∃ q, qs[i]? = some q := ⟨_, List.getElem?_eq_getElem hq⟩
      obtain ⟨u, hu⟩ := hy.strAt hq1
      have hi2 : ys.toArray[((i : Nat) : Int).toNat]? = some (.str q u) := by simpa using hu
      rw [hi2]
      rw [drop_at hq1] at h
      refine wpAny_bind (wpAny_eqBool_str ?_)
      by_cases hpq : p = q
      · rw [decide_eq_true hpq]
        have e3 : lexGt (p :: ps.drop (i + 1)) (q :: qs.drop (i + 1)) = lexGt (ps.drop (i + 1)) (qs.drop (i + 1)) := by subst hpq; simp [lexGt, lexLt]
        rw [e3] at h
        wp_walk
        rw [hc]
        exact ⟨plainId_quiet plain_eq_loop _, codeAny_builtin entry_eq_loop (by
          rw [Around.under_plainId plain_eq_loop _]
          exact ih (i + 1) (by omega) (by omega) (by omega) prog w A R _ ⟨hl, hb, h⟩)⟩
      · rw [decide_eq_false hpq]
        have e3 : lexGt (p :: ps.drop (i + 1)) (q :: qs.drop (i + 1)) = ltS q p := by simp [lexGt, lexLt, hpq, Ne.symm hpq]
        rw [e3] at h
        wp_walk using wpAny_loadPart' hl, wpAny_loadPart' hb
        rw [hi1, hi2]
        show wpAny _ _ (richCompare .Gt _ _ >>= _) _ _ _
        refine wpAny_bind (rc_gtS ?_)
        wp_walk
        exact h
    · have hi2 : ys.toArray[((i : Nat) : Int).toNat]? = none := by simpa using hy.noneAt hq
      rw [hi2]
      wp_walk using wpAny_loadPart' hl, wpAny_loadPart' hb
      show R (.ok (.ret (.bool (decide (xs.toArray.size > ys.toArray.size))))) _
      rw [List.size_toArray, List.size_toArray, hx.len, hy.len]
      have e2 : decide (ps.length > qs.length) = lexGt (p :: ps.drop (i + 1)) (qs.drop i) := by
        rw [List.drop_of_length_le hq]
        first | exact decide_eq_true (by omega) | exact decide_eq_false (by omega)
      rw [e2]; exact h
theorem list_gt {B1 B2 : Sto} (l b : Addr) (xs ys : List Value) (n n2 : Nat) (ps qs : List Str) (hx : VAll B1 xs (ps.map .str)) (hy : VAll B2 ys (qs.map .str)) : Meets (Builtin.«list.__gt__» ⟨[.ref l, .ref b], []⟩)
    (fun A R s => s.heap.get? l = some (lstObj xs n) ∧ s.heap.get? b = some (lstObj ys n2) ∧ R (.ok (.ret (.bool (lexGt ps qs)))) s) := by
  intro prog w A R s h
  obtain ⟨hp, g, d, tk, os⟩ := s; obtain ⟨hl, hb, h⟩ := h
  have f3 := AutoSeq1.sub_list_list
  wp_walk using wpAny_loadPart' hl, wpAny_loadPart' hb
  exact ⟨plainId_quiet plain_eq_loop _, codeAny_builtin entry_eq_loop (by
    rw [Around.under_plainId plain_eq_loop _]
    exact gt_loop l b xs ys n n2 ps qs hx hy _ 0 rfl (Nat.zero_le _) (Nat.zero_le _) prog w A R _ ⟨hl, hb, by simpa using h⟩)⟩
theorem Cmp.gtL {w : World} {A : Around} {k : Nat} {ps qs : List Str} (r : Rm k A) : Cmp w A .Gt (sL ps) (sL qs) (lexGt ps qs) := by
  intro B s v1 v2 Q E g sb h1 h2 q
  obtain ⟨a, vs, n, rfl, ha, hvs⟩ := h1.inv_lst
  obtain ⟨b, us, m, rfl, hb, hus⟩ := h2.inv_lst
  show wpAny _ _ (richCompare .Gt _ _) Q E s
  exact richCompare_meets_room (op := .Gt) ⟨_, sb _ _ ha, rfl⟩ ⟨_, sb _ _ hb, rfl⟩ PySem.F.slot_list_gt PySem.F.entry_list_gt (PySem.F.args_list_gt_2 _ _) (list_gt a b vs us n m ps qs hvs hus)
    ⟨sb _ _ ha, sb _ _ hb, show Value.bool (lexGt ps qs) ≠ Value.notImplemented ∧ Q (.bool (lexGt ps qs)) s from ⟨(fun x => nomatch x), q s (krefl s)⟩⟩ r.units
end Mine
end
section
open PySem PySem.W PySem.Spec PySem.Calls PyProof.Rows
set_option maxRecDepth 100000
namespace Mine

/-! min and max of two lists of texts -/
abbrev bstObj (best : Array Value) (c : Nat) : Obj := { cls := .type "list", dict := none, data := .seq best c, slots := #[] }
structure MS (s : Shared) (l I S : Addr) (i : Nat) (best : Array Value) (s' : Shared) : Prop where
  kp : Keeps s s'
  it : s'.heap.IsListIter I l i
  st : ∃ c, s'.heap.get? S = some (bstObj best c)
  nI : s.heap.get? I = none
  nS : s.heap.get? S = none
  ne : I ≠ S
section
variable {s s' : Shared} {l I S : Addr} {i j : Nat} {best best' : Array Value}
theorem MS.next (m : MS s l I S i best s') {h' : Heap} (hit : h'.IsListIter I l j) (hs : Heap.SameBut I s'.heap h') : MS s l I S j best { s' with heap := h' } := by
  obtain ⟨h0, tk0, rfl, k0⟩ := m.kp
  obtain ⟨c, hc⟩ := m.st
  exact ⟨⟨h', tk0, rfl, fun b o e => (hs.2 b (fun q => by rw [q, m.nI] at e; cases e)).trans (k0 b o e)⟩, hit, ⟨c, (hs.2 S (Ne.symm m.ne)).trans hc⟩, m.nI, m.nS, m.ne⟩
theorem MS.last (m : MS s l I S i best s') {h' : Heap} (hs : Heap.ExtBut I s'.heap h') : Keeps s { s' with heap := h' } ∧ ∃ c, h'.get? S = some (bstObj best c) := by
  obtain ⟨h0, tk0, rfl, k0⟩ := m.kp
  obtain ⟨c, hc⟩ := m.st
  exact ⟨⟨h', tk0, rfl, fun b o e => hs b o (fun q => by rw [q, m.nI] at e; cases e) (k0 b o e)⟩, c, hs S _ (Ne.symm m.ne) hc⟩
theorem MS.put (m : MS s l I S i best s') : MS s l I S i best' { s' with heap := s'.heap.update S (Obj.mapSeq fun _ => best') } := by
  obtain ⟨h0, tk0, rfl, k0⟩ := m.kp
  obtain ⟨c, hc⟩ := m.st
  have hs : Heap.SameBut S h0 (h0.update S (Obj.mapSeq fun _ => best')) := Heap.SameBut.update ..
  refine ⟨⟨_, tk0, rfl, fun b o e => (hs.2 b (fun q => by rw [q, m.nS] at e; cases e)).trans (k0 b o e)⟩, m.it.at fun o e => (hs.2 I m.ne).trans e, ⟨_, Heap.get?_update_self _ hc rfl⟩, m.nI, m.nS, m.ne⟩
end
theorem Rm.in1 {k : Nat} {A : Around} (r : Rm (k + 1) A) : Rm k A.in1 := ⟨r.hd, by have := r.dp; show A.depth + k ≤ 900; omega, by have := r.un; show A.units + 1 + 20 * k ≤ 9000; omega⟩

section
variable {w : World} {A : Around} {s s' : Shared} {l I S : Addr} {i k : Nat} {us : List Value} {R : Result → Shared → Prop} {v vb : Value} {B : Sto} {ps qs : List Str}
theorem min_name : (toString "min" ++ toString ".loop" : String) = "min.loop" := by decide
theorem min_turn0 (m : MS s l I S i #[] s') (hl : s.heap.IsList l us.toArray) (hv : us[i]? = some v) (h : ∀ s'', MS s l I S (i + 1) #[v, v] s'' → s'.toks ≤ s''.toks → codeAny (MM w) A (.builtin "min.loop" ⟨[.ref I, .none, .ref S], []⟩) R s'') :
    codeAny (MM w) A (.builtin "min.loop" ⟨[.ref I, .none, .ref S], []⟩) R s' := by
  obtain ⟨c, hS⟩ := m.st
  refine codeAny_builtin PySem.F.entry_min_loop ?_
  rw [Around.under_plainId PySem.F.plain_min_loop _]
  show wpAny _ A.in1 (seqItems? (.ref S) >>= _) _ _ s'
  refine wpAny_bind (wpAny_seqItems hS rfl ?_)
  show wpAny _ A.in1 (tryCatch (pyNext (.ref I)) _ >>= _) _ _ s'
  refine wpAny_bind (wpAny_tryCatch (wpAny_pyNext_list_item m.it (hl.at fun o e => kheap m.kp _ _ e) (x := v) (by simpa using hv) fun h' hit hs => ?_))
  have m1 := m.next hit hs
  obtain ⟨c1, hS1⟩ := m1.st
  show wpAny _ A.in1 (updateSeq S (fun _ => #[v, v]) >>= _) _ _ _
  refine wpAny_bind (wpAny_updateSeq hS1 rfl ?_)
  rw [min_name]
  exact wpAny_pure ⟨plainId_quiet PySem.F.plain_min_loop _, h _ m1.put (Nat.le_refl _)⟩
theorem min_turn (m : MS s l I S i #[vb, vb] s') (g : Gd w s) (sb : Sub B s.heap) (r : Rm (k + 1) A) (hl : s.heap.IsList l us.toArray) (hv : us[i]? = some v) (hp : V B v (sL ps)) (hq : V B vb (sL qs)) (ht : s.toks ≤ s'.toks)
    (h : ∀ s'', MS s l I S (i + 1) (if lexLt ps qs then #[v, v] else #[vb, vb]) s'' → codeAny (MM w) A (.builtin "min.loop" ⟨[.ref I, .none, .ref S], []⟩) R s'') :
    codeAny (MM w) A (.builtin "min.loop" ⟨[.ref I, .none, .ref S], []⟩) R s' := by
  obtain ⟨c, hS⟩ := m.st
  refine codeAny_builtin PySem.F.entry_min_loop ?_
  rw [Around.under_plainId PySem.F.plain_min_loop _]
  show wpAny _ A.in1 (seqItems? (.ref S) >>= _) _ _ s'
  refine wpAny_bind (wpAny_seqItems hS rfl ?_)
  show wpAny _ A.in1 (tryCatch (pyNext (.ref I)) _ >>= _) _ _ s'
  refine wpAny_bind (wpAny_tryCatch (wpAny_pyNext_list_item m.it (hl.at fun o e => kheap m.kp _ _ e) (x := v) (by simpa using hv) fun h' hit hs => ?_))
  have m1 := m.next hit hs
  show wpAny _ A.in1 (tryCatch (holding [v, v] (richCompare .Lt v vb >>= _)) _ >>= _) _ _ _
  refine wpAny_bind (wpAny_tryCatch (wpAny_holding (wpAny_bind (Cmp.ltL r.in1 B _ v vb _ _ (g.keeps (kheap m1.kp) ht) (sb.keeps m1.kp) hp hq fun s2 kp2 => ?_))))
  have m2 : MS s l I S (i + 1) #[vb, vb] s2 := ⟨ktrans m1.kp kp2, m1.it.at fun o e => kheap kp2 _ _ e, let ⟨c, e⟩ := m1.st; ⟨c, kheap kp2 _ _ e⟩, m.nI, m.nS, m.ne⟩
  refine wpAny_bind (wpAny_holding (wpAny_truthy_bool ?_))
  refine wpAny_bind (wpAny_letGo (wpAny_pure ?_))
  obtain ⟨c2, hS2⟩ := m2.st
  cases hb : lexLt ps qs with
  | true =>
    simp only [if_true]
    refine wpAny_bind (wpAny_updateSeq hS2 rfl (wpAny_bind (wpAny_letGo ?_)))
    rw [min_name]
    exact wpAny_pure ⟨plainId_quiet PySem.F.plain_min_loop _, h _ (by rw [hb]; exact m2.put)⟩
  | false =>
    simp only [Bool.false_eq_true, if_false]
    refine wpAny_bind (wpAny_letGo ?_)
    rw [min_name]
    exact wpAny_pure ⟨plainId_quiet PySem.F.plain_min_loop _, h _ (by rw [hb]; exact m2)⟩
theorem min_end (m : MS s l I S i #[vb, vb] s') (hh : A.handled = none) (hl : s.heap.IsList l us.toArray) (hv : us[i]? = none) (h : ∀ s'', Keeps s s'' → R (.ok (.ret vb)) s'') :
    codeAny (MM w) A (.builtin "min.loop" ⟨[.ref I, .none, .ref S], []⟩) R s' := by
  obtain ⟨c, hS⟩ := m.st
  refine codeAny_builtin PySem.F.entry_min_loop ?_
  rw [Around.under_plainId PySem.F.plain_min_loop _]
  show wpAny _ A.in1 (seqItems? (.ref S) >>= _) _ _ s'
  refine wpAny_bind (wpAny_seqItems hS rfl ?_)
  show wpAny _ A.in1 (tryCatch (pyNext (.ref I)) _ >>= _) _ _ s'
  refine wpAny_bind (wpAny_tryCatch (wpAny_pyNext_list_end hh m.it (hl.at fun o e => kheap m.kp _ _ e) (by simpa using hv) fun h' hs => ?_))
  obtain ⟨kp, c2, hS2⟩ := m.last hs
  show wpAny _ A.in1 (updateSeq S (fun _ => #[]) >>= _) _ _ _
  refine wpAny_bind (wpAny_updateSeq hS2 rfl (wpAny_bind (wpAny_letGo (wpAny_pure (h _ ?_)))))
  obtain ⟨h0, tk0, e0, k0⟩ := kp
  have hs2 : Heap.SameBut S h' (h'.update S (Obj.mapSeq fun _ => #[])) := Heap.SameBut.update ..
  obtain ⟨h3, tk3, e3, k3⟩ := m.kp
  subst e3
  refine ⟨_, tk3, rfl, fun b o e => (hs2.2 b (fun q => by rw [q, m.nS] at e; cases e)).trans ?_⟩
  have : h' = h0 := by simpa using congrArg Shared.heap e0
  rw [this]; exact k0 b o e
end
theorem Blt.min2 {w : World} {A : Around} {k : Nat} {ps qs : List Str} (r : Rm (k + 1) A) : Blt w A (.builtin "min") [.lst [sL ps, sL qs]] (if lexLt qs ps then sL qs else sL ps) := by
  intro B s vs Q E g sb h q
  cases h with | cons h1 h =>
  cases h
  obtain ⟨a, us, n, rfl, ha, hus⟩ := h1.inv_lst
  cases hus with | cons u1 hus => cases hus with | cons u2 hus =>
  cases hus
  rename_i v1 v2
  have hl := isList_of (sb _ _ ha)
  refine call_function_tree PySem.F.kind_min PySem.F.plain_min PySem.F.entry_min (PySem.F.args_min1 _) ?_
  show wpAny _ A.in1 (Builtin.Builtins.bindParams "min" ["key", "default"] 0 ⟨[], []⟩ >>= _) _ _ s
  refine wpAny_bind (wpAny_of_eq (show Builtin.Builtins.bindParams "min" ["key", "default"] 0 ⟨[], []⟩ = pure [none, none] from rfl) ?_)
  refine wpAny_bind (wpAny_pure ?_)
  refine wpAny_bind (wpAny_pyIter_list hl ?_)
  refine wpAny_bind (wpAny_newObj_type ?_)
  rw [min_name]
  refine wpAny_pure ⟨plainId_quiet PySem.F.plain_min_loop _, ?_⟩
  have m0 : MS s a s.heap.objs.size (s.heap.push { cls := .type "list_iterator", data := .fields #[.ref a, .int 0 0] }).objs.size 0 #[] { s with heap := (s.heap.push { cls := .type "list_iterator", data := .fields #[.ref a, .int 0 0] }).push { cls := .type "list", data := .seq #[] } } :=
    ⟨⟨_, s.toks, rfl, fun b o e => Heap.get?_push_of_some _ (Heap.get?_push_of_some _ e)⟩, ⟨_, Heap.get?_push_of_some _ (Heap.get?_push_size _ rfl), rfl, rfl⟩, ⟨0, Heap.get?_push_size _ rfl⟩, fresh_size _, Heap.get?_none_of_le (by rw [Heap.size_push]; exact Nat.le_succ _), by rw [Heap.size_push]; exact (Nat.succ_ne_self _).symm⟩
  refine min_turn0 m0 hl (v := v1) rfl fun s1 m1 tk1 => ?_
  refine min_turn m1 g sb r hl (v := v2) rfl u2 u1 tk1 fun s2 m2 => ?_
  · cases hb : lexLt qs ps with
    | true =>
      rw [hb] at m2 q
      exact min_end m2 r.hd hl rfl fun s3 kp => q v2 B s3 (.of_keeps sb kp) u2
    | false =>
      rw [hb] at m2 q
      exact min_end m2 r.hd hl rfl fun s3 kp => q v1 B s3 (.of_keeps sb kp) u1

section
variable {w : World} {A : Around} {s s' : Shared} {l I S : Addr} {i k : Nat} {us : List Value} {R : Result → Shared → Prop} {v vb : Value} {B : Sto} {ps qs : List Str}
theorem max_name : (toString "max" ++ toString ".loop" : String) = "max.loop" := by decide
theorem max_turn0 (m : MS s l I S i #[] s') (hl : s.heap.IsList l us.toArray) (hv : us[i]? = some v) (h : ∀ s'', MS s l I S (i + 1) #[v, v] s'' → s'.toks ≤ s''.toks → codeAny (MM w) A (.builtin "max.loop" ⟨[.ref I, .none, .ref S], []⟩) R s'') :
    codeAny (MM w) A (.builtin "max.loop" ⟨[.ref I, .none, .ref S], []⟩) R s' := by
  obtain ⟨c, hS⟩ := m.st
  refine codeAny_builtin PySem.F.entry_max_loop ?_
  rw [Around.under_plainId PySem.F.plain_max_loop _]
  show wpAny _ A.in1 (seqItems? (.ref S) >>= _) _ _ s'
  refine wpAny_bind (wpAny_seqItems hS rfl ?_)
  show wpAny _ A.in1 (tryCatch (pyNext (.ref I)) _ >>= _) _ _ s'
  refine wpAny_bind (wpAny_tryCatch (wpAny_pyNext_list_item m.it (hl.at fun o e => kheap m.kp _ _ e) (x := v) (by simpa using hv) fun h' hit hs => ?_))
  have m1 := m.next hit hs
  obtain ⟨c1, hS1⟩ := m1.st
  show wpAny _ A.in1 (updateSeq S (fun _ => #[v, v]) >>= _) _ _ _
  refine wpAny_bind (wpAny_updateSeq hS1 rfl ?_)
  rw [max_name]
  exact wpAny_pure ⟨plainId_quiet PySem.F.plain_max_loop _, h _ m1.put (Nat.le_refl _)⟩
theorem max_turn (m : MS s l I S i #[vb, vb] s') (g : Gd w s) (sb : Sub B s.heap) (r : Rm (k + 1) A) (hl : s.heap.IsList l us.toArray) (hv : us[i]? = some v) (hp : V B v (sL ps)) (hq : V B vb (sL qs)) (ht : s.toks ≤ s'.toks)
    (h : ∀ s'', MS s l I S (i + 1) (if lexGt ps qs then #[v, v] else #[vb, vb]) s'' → codeAny (MM w) A (.builtin "max.loop" ⟨[.ref I, .none, .ref S], []⟩) R s'') :
    codeAny (MM w) A (.builtin "max.loop" ⟨[.ref I, .none, .ref S], []⟩) R s' := by
  obtain ⟨c, hS⟩ := m.st
  refine codeAny_builtin PySem.F.entry_max_loop ?_
  rw [Around.under_plainId PySem.F.plain_max_loop _]
  show wpAny _ A.in1 (seqItems? (.ref S) >>= _) _ _ s'
  refine wpAny_bind (wpAny_seqItems hS rfl ?_)
  show wpAny _ A.in1 (tryCatch (pyNext (.ref I)) _ >>= _) _ _ s'
  refine wpAny_bind (wpAny_tryCatch (wpAny_pyNext_list_item m.it (hl.at fun o e => kheap m.kp _ _ e) (x := v) (by simpa using hv) fun h' hit hs => ?_))
  have m1 := m.next hit hs
  show wpAny _ A.in1 (tryCatch (holding [v, v] (richCompare .Gt v vb >>= _)) _ >>= _) _ _ _
  refine wpAny_bind (wpAny_tryCatch (wpAny_holding (wpAny_bind (Cmp.gtL r.in1 B _ v vb _ _ (g.keeps (kheap m1.kp) ht) (sb.keeps m1.kp) hp hq fun s2 kp2 => ?_))))
  have m2 : MS s l I S (i + 1) #[vb, vb] s2 := ⟨ktrans m1.kp kp2, m1.it.at fun o e => kheap kp2 _ _ e, let ⟨c, e⟩ := m1.st; ⟨c, kheap kp2 _ _ e⟩, m.nI, m.nS, m.ne⟩
  refine wpAny_bind (wpAny_holding (wpAny_truthy_bool ?_))
  refine wpAny_bind (wpAny_letGo (wpAny_pure ?_))
  obtain ⟨c2, hS2⟩ := m2.st
  cases hb : lexGt ps qs with
  | true =>
    simp only [if_true]
    refine wpAny_bind (wpAny_updateSeq hS2 rfl (wpAny_bind (wpAny_letGo ?_)))
    rw [max_name]
    exact wpAny_pure ⟨plainId_quiet PySem.F.plain_max_loop _, h _ (by rw [hb]; exact m2.put)⟩
  | false =>
    simp only [Bool.false_eq_true, if_false]
    refine wpAny_bind (wpAny_letGo ?_)
    rw [max_name]
    exact wpAny_pure ⟨plainId_quiet PySem.F.plain_max_loop _, h _ (by rw [hb]; exact m2)⟩
theorem max_end (m : MS s l I S i #[vb, vb] s') (hh : A.handled = none) (hl : s.heap.IsList l us.toArray) (hv : us[i]? = none) (h : ∀ s'', Keeps s s'' → R (.ok (.ret vb)) s'') :
    codeAny (MM w) A (.builtin "max.loop" ⟨[.ref I, .none, .ref S], []⟩) R s' := by
  obtain ⟨c, hS⟩ := m.st
  refine codeAny_builtin PySem.F.entry_max_loop ?_
  rw [Around.under_plainId PySem.F.plain_max_loop _]
  show wpAny _ A.in1 (seqItems? (.ref S) >>= _) _ _ s'
  refine wpAny_bind (wpAny_seqItems hS rfl ?_)
  show wpAny _ A.in1 (tryCatch (pyNext (.ref I)) _ >>= _) _ _ s'
  refine wpAny_bind (wpAny_tryCatch (wpAny_pyNext_list_end hh m.it (hl.at fun o e => kheap m.kp _ _ e) (by simpa using hv) fun h' hs => ?_))
  obtain ⟨kp, c2, hS2⟩ := m.last hs
  show wpAny _ A.in1 (updateSeq S (fun _ => #[]) >>= _) _ _ _
  refine wpAny_bind (wpAny_updateSeq hS2 rfl (wpAny_bind (wpAny_letGo (wpAny_pure (h _ ?_)))))
  obtain ⟨h0, tk0, e0, k0⟩ := kp
  have hs2 : Heap.SameBut S h' (h'.update S (Obj.mapSeq fun _ => #[])) := Heap.SameBut.update ..
  obtain ⟨h3, tk3, e3, k3⟩ := m.kp
  subst e3
  refine ⟨_, tk3, rfl, fun b o e => (hs2.2 b (fun q => by rw [q, m.nS] at e; cases e)).trans ?_⟩
  have : h' = h0 := by simpa using congrArg Shared.heap e0
  rw [this]; exact k0 b o e
end
theorem Blt.max2 {w : World} {A : Around} {k : Nat} {ps qs : List Str} (r : Rm (k + 1) A) : Blt w A (.builtin "max") [.lst [sL ps, sL qs]] (if lexGt qs ps then sL qs else sL ps) := by
  intro B s vs Q E g sb h q
  cases h with | cons h1 h =>
  cases h
  obtain ⟨a, us, n, rfl, ha, hus⟩ := h1.inv_lst
  cases hus with | cons u1 hus => cases hus with | cons u2 hus =>
  cases hus
  rename_i v1 v2
  have hl := isList_of (sb _ _ ha)
  refine call_function_tree PySem.F.kind_max PySem.F.plain_max PySem.F.entry_max (PySem.F.args_max1 _) ?_
  show wpAny _ A.in1 (Builtin.Builtins.bindParams "max" ["key", "default"] 0 ⟨[], []⟩ >>= _) _ _ s
  refine wpAny_bind (wpAny_of_eq (show Builtin.Builtins.bindParams "max" ["key", "default"] 0 ⟨[], []⟩ = pure [none, none] from rfl) ?_)
  refine wpAny_bind (wpAny_pure ?_)
  refine wpAny_bind (wpAny_pyIter_list hl ?_)
  refine wpAny_bind (wpAny_newObj_type ?_)
  rw [max_name]
  refine wpAny_pure ⟨plainId_quiet PySem.F.plain_max_loop _, ?_⟩
  have m0 : MS s a s.heap.objs.size (s.heap.push { cls := .type "list_iterator", data := .fields #[.ref a, .int 0 0] }).objs.size 0 #[] { s with heap := (s.heap.push { cls := .type "list_iterator", data := .fields #[.ref a, .int 0 0] }).push { cls := .type "list", data := .seq #[] } } :=
    ⟨⟨_, s.toks, rfl, fun b o e => Heap.get?_push_of_some _ (Heap.get?_push_of_some _ e)⟩, ⟨_, Heap.get?_push_of_some _ (Heap.get?_push_size _ rfl), rfl, rfl⟩, ⟨0, Heap.get?_push_size _ rfl⟩, fresh_size _, Heap.get?_none_of_le (by rw [Heap.size_push]; exact Nat.le_succ _), by rw [Heap.size_push]; exact (Nat.succ_ne_self _).symm⟩
  refine max_turn0 m0 hl (v := v1) rfl fun s1 m1 tk1 => ?_
  refine max_turn m1 g sb r hl (v := v2) rfl u2 u1 tk1 fun s2 m2 => ?_
  · cases hb : lexGt qs ps with
    | true =>
      rw [hb] at m2 q
      exact max_end m2 r.hd hl rfl fun s3 kp => q v2 B s3 (.of_keeps sb kp) u2
    | false =>
      rw [hb] at m2 q
      exact max_end m2 r.hd hl rfl fun s3 kp => q v1 B s3 (.of_keeps sb kp) u1
end Mine
end
section
open PySem PySem.W PySem.Spec PySem.Calls PyProof.Rows
open AutoSeq1 (wpAny_loadPart')
set_option maxRecDepth 100000
namespace Mine

/-! tuple(map(fspath, list)) -/
theorem mro_map : mroOf (.type "map") = pure [.type "map", .type "object"] := by rw [mroOf_type]; kernel_rfl
theorem lookup_map_new : typeLookup (.type "map") "__new__" = pure (some (.builtin "map.__new__")) := by rw [typeLookup_type, builtinLookup_eq_fast]; kernel_rfl
theorem slot_map_init : Slot "map" "__init__" "object.__init__" :=
  .of (owner := "object") (n := "__init__") (by rw [typeLookup_type, builtinLookup_eq_fast]; kernel_rfl) (by decide +kernel) (by decide +kernel) (by decide +kernel)
    (by first | exact .inl (by decide +kernel) | exact .inr (by decide +kernel)) (by rw [isSubtype_type]; kernel_rfl)
theorem sub_map : isSubtype (.type "map") (.type "map") = pure true := by rw [isSubtype_type]; kernel_rfl
theorem called_map : TypeCalled "map" "map.__new__" "object.__init__" :=
  ⟨by decide +kernel, by decide +kernel, ⟨_, _, mro_map⟩, madeBy_type mro_map lookup_map_new (by decide +kernel), by decide +kernel, sub_map, slot_map_init⟩
theorem typeCall_map_2 (a b : Value) : checkTypeCall "map" ⟨[a, b], []⟩ = pure () := by kernel_rfl
theorem newCall_map_2 (a b : Value) : checkBuiltinCall "map.__new__" ⟨[.type "map", a, b], []⟩ = pure () := by kernel_rfl
theorem entry_map_new : entryFor table "map.__new__" = some Builtin.«map.__new__» := entryFor_of_tree (by kernel_rfl)
theorem slot_map_next : Slot "map" "__next__" "map.__next__" :=
  .of (owner := "map") (n := "__next__") (by rw [typeLookup_type, builtinLookup_eq_fast]; kernel_rfl) (by decide +kernel) (by decide +kernel) (by decide +kernel)
    (by first | exact .inl (by decide +kernel) | exact .inr (by decide +kernel)) (by rw [isSubtype_type]; kernel_rfl)
theorem entry_map_next : entryFor table "map.__next__" = some Builtin.«map.__next__» := entryFor_of_tree (by kernel_rfl)
theorem args_map_next (a : Value) : argsOk "map.__next__" ⟨[a], []⟩ := by unfold argsOk; kernel_rfl
theorem slot_map_iter : Slot "map" "__iter__" "map.__iter__" :=
  .of (owner := "map") (n := "__iter__") (by rw [typeLookup_type, builtinLookup_eq_fast]; kernel_rfl) (by decide +kernel) (by decide +kernel) (by decide +kernel)
    (by first | exact .inl (by decide +kernel) | exact .inr (by decide +kernel)) (by rw [isSubtype_type]; kernel_rfl)
theorem entry_map_iter : entryFor table "map.__iter__" = some Builtin.«dict_keyiterator.__iter__» :=
  entryFor_alias (id' := "dict_keyiterator.__iter__") (by kernel_rfl) (by first | rfl | decide +kernel | (unfold String.splitOn; simp +decide [String.splitOnAux])) (by decide +kernel) (by kernel_rfl)
theorem args_map_iter (a : Value) : argsOk "map.__iter__" ⟨[a], []⟩ := by unfold argsOk; kernel_rfl
theorem map_no_len : typeLookup (.type "map") "__len__" = pure none := by rw [typeLookup_type, builtinLookup_eq_fast]; kernel_rfl
theorem map_no_hint : typeLookup (.type "map") "__length_hint__" = pure none := by rw [typeLookup_type, builtinLookup_eq_fast]; kernel_rfl

abbrev IsMap (h : Heap) (I T : Addr) (f : Value) : Prop := h.get? I = some { cls := .type "map", dict := none, data := .fields #[.ref T, f], slots := #[] }
abbrev IsOne (h : Heap) (T it : Addr) : Prop := h.get? T = some { cls := .type "tuple", dict := none, data := .seq #[.ref it] 0, slots := #[] }
section
variable {prog : Program} {w : World} {A : Around} {E : Value → Shared → Prop} {s : Shared}
theorem pyIter_map {I T : Addr} {f : Value} {Q : Value → Shared → Prop} (hI : IsMap s.heap I T f) (h : Q (.ref I) s) : wpAny (model prog w) A (pyIter (.ref I)) Q E s := by
  have hT : s.TypeIs (.ref I) "map" := ⟨_, hI, rfl⟩
  refine wpAny_pyIter_slot hT slot_map_iter (wpAny_call_entry slot_map_iter hT entry_map_iter ?_ (args_map_iter _))
  show wpAny _ _ (ret (.ref I)) _ _ s
  exact wpAny_pure ⟨_, rfl, "map", _, hT, slot_map_next.lookup, h⟩
theorem meets_map_new (f : Addr) (l : Addr) (items : Array Value) :
    Meets (Builtin.«map.__new__» ⟨[.type "map", .ref f, .ref l], []⟩) (fun _ R s => s.heap.IsList l items ∧
      R (.ok (.ret (.ref ((s.heap.push { cls := .type "list_iterator", data := .fields #[.ref l, .int 0 0] }).push { cls := .type "tuple", data := .seq #[.ref s.heap.objs.size] }).objs.size)))
        { s with heap := ((s.heap.push { cls := .type "list_iterator", data := .fields #[.ref l, .int 0 0] }).push { cls := .type "tuple", data := .seq #[.ref s.heap.objs.size] }).push { cls := .type "map", data := .fields #[.ref (s.heap.push { cls := .type "list_iterator", data := .fields #[.ref l, .int 0 0] }).objs.size, .ref f] } }) :=
  .of_wp fun prog w A R s h => by
    obtain ⟨hp, g, d, tk, os⟩ := s; obtain ⟨hl, h⟩ := h
    have hsub := sub_map
    have hL : Heap.IsList (Shared.heap ⟨hp, g, d, tk, os⟩) l items := hl
    wp_walk using wpAny_pyIter_list hL
    exact ⟨_, rfl, h⟩
end

/-- the map's state while it is drawn from -/
structure MapSt (w : World) (sB : Shared) (B : Sto) (I T it l : Addr) (i : Nat) (s : Shared) : Prop where
  kp : Keeps sB s
  tk : sB.toks ≤ s.toks
  hI : IsMap s.heap I T (.ref 130)
  hT : IsOne s.heap T it
  hit : s.heap.IsListIter it l i
section
variable {w : World} {A : Around} {sB : Shared} {B : Sto} {I T it l : Addr} {N k : Nat} {vs : List Value} {n : Nat} {ps : List Str}
theorem map_walks (r : Rm (k + 3) A) (g : Gd w sB) (sb : Sub B sB.heap) (hl : B l = some (lstObj vs n)) (hvs : VAll B vs (ps.map .str)) (hItn : sB.heap.get? it = none) (hIt : I ≠ it) (hTt : T ≠ it)
    (hIN : I < N) (hTN : T < N) (hitN : it < N) (hN : sB.heap.objs.size ≤ N) :
    WalksS PG w A I (List.range N) [it] (fun a b => b = a) ps.length (fun i v => ∃ x t, ps[i]? = some x ∧ v = .str x t) (fun i s => MapSt w sB B I T it l i s) where
  sub := fun b hb => by rw [List.mem_singleton.mp hb]; exact List.mem_range.mpr hitN
  grefl := fun _ => rfl
  gtrans := fun _ _ _ h1 h2 => h2.trans h1
  frame := fun i s h' tk st ht hk => by
    obtain ⟨⟨h0, tk0, rfl, k0⟩, t0, hI, hT, o, hit, r⟩ := st
    have hk' : ∀ b o, (b : Nat) < N → h0.get? b = some o → h'.get? b = some o := fun b o hb e => hk b (List.mem_range.mpr hb) o e
    exact ⟨⟨h', tk, rfl, fun b o e => hk' b o (Nat.lt_of_lt_of_le (Heap.lt_size e) hN) (k0 b o e)⟩, Nat.le_trans t0 ht, hk' I _ hIN hI, hk' T _ hTN hT, o, hk' it _ hitN hit, r⟩
  item := fun i s Q E hi st hQ => by
    obtain ⟨x, hx⟩ : ∃ x, ps[i]? = some x := ⟨_, List.getElem?_eq_getElem hi⟩
    obtain ⟨t, hv⟩ := hvs.strAt hx
    have hTI : s.TypeIs (.ref I) "map" := ⟨_, st.hI, rfl⟩
    have hL : s.heap.IsList l vs.toArray := isList_of (kheap st.kp _ _ (sb _ _ hl))
    unfold pyNext
    refine wpAny_bind (wpAny_attempt (wpAny_callSpecial?_slot (name := Str.ofString "__next__") hTI slot_map_next (wpAny_call_entry slot_map_next hTI entry_map_next ?_ (args_map_next _))))
    show wpAny _ _ (field (.ref I) 0 >>= _) _ _ _
    refine wpAny_bind (wpAny_field st.hI rfl (x := .ref T) rfl ?_)
    refine wpAny_bind (wpAny_seqItems st.hT rfl ?_)
    show wpAny _ _ (forIn #[Value.ref it] (#[] : Array Value) _ >>= _) _ _ _
    rw [← Array.forIn_toList]
    simp only [List.forIn_cons, List.forIn_nil]
    refine wpAny_bind (wpAny_bind (wpAny_bind (wpAny_holding (wpAny_nextOf_list_item st.hit hL (x := .str x t) (by simpa using hv) fun h1 hit1 hs1 => ?_))))
    refine wpAny_pure (wpAny_pure ?_)
    obtain ⟨⟨h0, tk0, rfl, k0⟩, t0, hI, hT, _, _⟩ := st
    replace hs1 : Heap.SameBut it h0 h1 := hs1
    have hI1 : IsMap h1 I T (.ref 130) := (hs1.2 I hIt).trans hI
    have hT1 : IsOne h1 T it := (hs1.2 T hTt).trans hT
    have kB : ∀ b o, sB.heap.get? b = some o → h1.get? b = some o := fun b o e => (hs1.2 b (fun q => by rw [q, hItn] at e; cases e)).trans (k0 b o e)
    have kp1 : Keeps sB { sB with heap := h1, toks := tk0 } := ⟨h1, tk0, rfl, kB⟩
    show wpAny _ _ (field (.ref I) 1 >>= _) _ _ _
    refine wpAny_bind (wpAny_field hI1 rfl (x := .ref 130) rfl ?_)
    refine wpAny_bind (wpAny_holding (fspath_fn w x A.in1 B { sB with heap := h1, toks := tk0 } [.str x t] _ _ (r.in1.le (by omega)) (g.keeps kB t0) (sb.keeps kp1) (.one (.str x t)) fun v B2 s2 g2 hv2 => ?_))
    obtain ⟨u, rfl⟩ := hv2.inv_str
    refine wpAny_bind (wpAny_letGo (wpAny_pure ⟨_, rfl, wpAny_pure (hQ _ s2 ⟨x, u, hx, rfl⟩ ?_ ?_)⟩))
    · obtain ⟨o, ho, r⟩ := hit1
      exact ⟨ktrans kp1 g2.kp, Nat.le_trans t0 g2.tk, kheap g2.kp _ _ hI1, kheap g2.kp _ _ hT1, o, kheap g2.kp _ _ ho, r⟩
    · obtain ⟨h2, tk2, e2, k2⟩ := g2.kp
      have tk := g2.tk
      subst e2
      exact ⟨fun b o hb e => k2 b o ((hs1.2 b (fun q => hb (by rw [q]; exact .head _))).trans e), rfl, rfl, rfl, tk⟩
  done := fun s Q E st hQ => by
    have hTI : s.TypeIs (.ref I) "map" := ⟨_, st.hI, rfl⟩
    have hL : s.heap.IsList l vs.toArray := isList_of (kheap st.kp _ _ (sb _ _ hl))
    unfold pyNext
    refine wpAny_bind (wpAny_attempt (wpAny_callSpecial?_slot (name := Str.ofString "__next__") hTI slot_map_next (wpAny_call_entry slot_map_next hTI entry_map_next ?_ (args_map_next _))))
    show wpAny _ _ (field (.ref I) 0 >>= _) _ _ _
    refine wpAny_bind (wpAny_field st.hI rfl (x := .ref T) rfl ?_)
    refine wpAny_bind (wpAny_seqItems st.hT rfl ?_)
    show wpAny _ _ (forIn #[Value.ref it] (#[] : Array Value) _ >>= _) _ _ _
    rw [← Array.forIn_toList]
    simp only [List.forIn_cons, List.forIn_nil]
    refine wpAny_bind (wpAny_bind (wpAny_bind (wpAny_holding (wpAny_nextOf_list_end r.hd st.hit hL (by simpa using hvs.noneAt (Nat.le_refl _)) fun h1 e he he' => ?_))))
    obtain ⟨o, ho, hc⟩ := he'
    refine wpAny_bind (wpAny_isInstance (T := "StopIteration") (b := true) ⟨o, ho, hc⟩ isSubtype_stop ?_)
    exact wpAny_pure (hQ _ ⟨fun b o hb e => he b o (fun q => hb (by rw [q]; exact .head _)) e, rfl, rfl, rfl, Nat.le_refl _⟩)
  self := fun i s Q E st hQ => pyIter_map st.hI hQ
end
end Mine
end
section
open PySem PySem.W PySem.Spec PySem.Calls PyProof.Rows
open AutoSeq1 (wpAny_loadPart')
set_option maxRecDepth 100000
namespace Mine
section
variable {prog : Program} {w : World} {A : Around} {E : Value → Shared → Prop} {s : Shared} {I : Addr} {fp wr : List Addr} {n : Nat} {P : Nat → Value → Prop} {St : Nat → Shared → Prop}
theorem collect_map {Q : List Value → Shared → Prop} (W : WalksS prog w A.in1 I fp wr (fun a b => b = a) n P St) (hT : ∀ i s, St i s → s.TypeIs (.ref I) "map") (hst : St 0 s) (hfp : ∀ b ∈ fp, b < s.heap.objs.size) (hI : I ∈ fp) (hn : n ≤ sizeLine)
    (hQ : ∀ s' acc, Moved wr (fun a b => b = a) s s' → ItemsOf P acc n → Q acc.toList s') : wpAny (model prog w) A (collect (.ref I)) Q E s := by
  have hSf : s.heap.objs.size ∉ fp := fun hm => Nat.lt_irrefl _ (hfp _ hm)
  have hSI : s.heap.objs.size ≠ I := fun e => hSf (e ▸ hI)
  unfold collect
  refine wpAny_bind (wpAny_runValue (codeAny_builtin PySem.F.entry_proto_collect ?_))
  rw [Around.under_plainId PySem.F.plain_proto_collect _]
  show wpAny _ A.in1 (newList [] >>= fun l => again (.builtin "list.__iadd__" ⟨[l, .ref I], []⟩)) _ _ s
  refine wpAny_bind (wpAny_newObj_type ?_)
  refine wpAny_pure ⟨plainId_quiet PySem.F.plain_list_iadd _, codeAny_builtin PySem.F.entry_list_iadd ?_⟩
  rw [Around.under_plainId PySem.F.plain_list_iadd _]
  generalize hh1 : s.heap.push { cls := .type "list", data := .seq ([] : List Value).toArray } = h1
  generalize hS : s.heap.objs.size = S at hSf hSI ⊢
  have k1 : ∀ b o, s.heap.get? b = some o → h1.get? b = some o := fun b o e => hh1 ▸ Heap.get?_push_of_some _ e
  have hS1 : h1.get? S = some (bstObj #[] 0) := by rw [← hh1, ← hS]; exact Heap.get?_push_size _ rfl
  have st1 := W.frame 0 s h1 s.toks hst (Nat.le_refl _) fun b _ o e => k1 b o e
  show wpAny _ A.in1 (Builtin.List.listExtendWith (.ref S) (.ref I) (.ref S)) _ _ _
  unfold Builtin.List.listExtendWith
  refine wpAny_bind (wpAny_typeOf (hT 0 _ st1) ?_)
  have e1 : Builtin.List.listSameRef (.ref S) (.ref I) = false := by simp [Builtin.List.listSameRef, hSI]
  have e2 : (Value.type "map" == Value.type "list") = false := by decide
  have e3 : (Value.type "map" == Value.type "tuple") = false := by decide
  simp only [e1, e2, e3, Bool.or_false, Bool.false_eq_true, if_false]
  refine wpAny_bind (W.self 0 _ _ _ st1 ?_)
  refine wpAny_bind (wpAny_holding ?_)
  unfold Builtin.List.listLengthHint
  refine wpAny_bind (wpAny_specialOf (hT 0 _ st1) map_no_len ?_)
  show wpAny _ A.in1 (specialOf (Value.ref I) (Str.ofString "__length_hint__") >>= _) _ _ _
  refine wpAny_bind (wpAny_specialOf (hT 0 _ st1) map_no_hint ?_)
  refine wpAny_pure ?_
  show wpAny _ A.in1 (rule "list.extend.makes-room" >>= fun _ => (updateSeq S (·.push .none) >>= fun _ => updateSeq S (·.pop)) >>= fun _ => again (.builtin "list.extend.loop" ⟨[.ref S, .ref I, .ref S], []⟩)) _ _ _
  refine wpAny_bind (wpAny_rule (wpAny_bind (wpAny_bind (wpAny_updateSeq hS1 rfl ?_))))
  have hS2 := Heap.get?_update_self (Obj.mapSeq (·.push Value.none)) hS1 rfl
  refine wpAny_updateSeq hS2 rfl ?_
  have hS3 := Heap.get?_update_self (Obj.mapSeq (·.pop)) hS2 rfl
  have oth : ∀ b o, b ≠ S → h1.get? b = some o → ((h1.update S (Obj.mapSeq (·.push Value.none))).update S (Obj.mapSeq (·.pop))).get? b = some o := fun b o hb e =>
    (Heap.get?_update_other _ _ (Ne.symm hb)).trans ((Heap.get?_update_other _ _ (Ne.symm hb)).trans e)
  refine wpAny_pure ⟨plainId_quiet PySem.F.plain_extend_loop _, codeAny_extend_loopS W hn S hSf _ n 0 _ _ _ rfl (Nat.zero_le _) (W.frame 0 ({ s with heap := h1 } : Shared) _ s.toks st1 (Nat.le_refl _) fun b hb o e => oth b o (fun h => hSf (h ▸ hb)) e) hS3 (ItemsOf.nil P) fun s' acc' c' hm hS' hacc => ?_⟩
  show wpAny _ A (load S >>= _) _ _ s'
  refine wpAny_bind (wpAny_load hS' (wpAny_pure (hQ s' acc' ⟨fun b o hb e => ?_, hm.gens, hm.drawn, hm.os, hm.toks⟩ hacc)))
  have hbS : b ≠ S := fun q => by rw [q, ← hS, fresh_size] at e; cases e
  exact hm.heap b o (fun q => (List.mem_cons.mp q).elim hbS hb) (oth b o hbS (k1 b o e))
theorem call_tuple_map {Q : Value → Shared → Prop} (W : WalksS prog w A.in1.in1.in1 I fp wr (fun a b => b = a) n P St) (hT : ∀ i s, St i s → s.TypeIs (.ref I) "map") (hst : St 0 s) (hfp : ∀ b ∈ fp, b < s.heap.objs.size) (hI : I ∈ fp) (hn : n ≤ sizeLine)
    (hQ : ∀ s' acc, Moved wr (fun a b => b = a) s s' → ItemsOf P acc n → Q (.ref s'.heap.objs.size) { s' with heap := s'.heap.push { cls := .type "tuple", data := .seq acc } }) : wpAny (model prog w) A (call (.type "tuple") [.ref I]) Q E s := by
  refine callType_codes (Q₁ := fun obj s₁ => s₁.TypeIs obj "tuple" ∧ Q obj s₁) PySem.F.called_tuple (PySem.F.typeCall_tuple_1 _) PySem.F.entry_object_init ?_ fun obj s₁ h₁ =>
    ⟨h₁.1, PySem.F.args_object_init_2 obj _, object_init_meets PySem.F.called_tuple.init.lookup PySem.F.called_tuple.made (by decide) prog w A.in1 _ s₁ ⟨h₁.1, rfl, h₁.2⟩⟩
  refine codeAny_of_tree ?_
  show wpAny _ A.in1.in1 (do checkBuiltinCall "tuple.__new__" ⟨[.type "tuple", .ref I], []⟩; again (.builtin "tuple.__new__" ⟨[.type "tuple", .ref I], []⟩)) _ _ s
  refine wpAny_bind (wpAny_of_eq (PySem.F.newCall_tuple_1 _) (wpAny_pure ⟨plainId_quiet PySem.F.plain_tuple_new _, codeAny_builtin PySem.F.entry_tuple_new ?_⟩))
  rw [Around.under_plainId PySem.F.plain_tuple_new _]
  have hsub := sub_tuple_self
  have hinit := init_tuple_lookup
  have hmh := madeHere_tuple
  have hTI := hT 0 s hst
  wp_walk using wpAny_typeOf hTI, collect_map (hn := hn) W hT hst hfp hI
  intro s' acc hm hacc
  show wpAny _ _ (Builtin.Tuple.tupleExact acc.toList.toArray >>= fun v => ret v) _ _ _
  unfold Builtin.Tuple.tupleExact
  refine wpAny_bind (wpAny_newObj_type ?_ (by show acc.toList.toArray.size ≤ sizeLine; simp only [Array.toArray_toList]; rw [hacc.1]; exact hn))
  refine wpAny_pure ?_
  have e : acc.toList.toArray = acc := by simp
  rw [e]
  exact ⟨⟨_, Heap.get?_push_size _ rfl, rfl⟩, hQ s' acc hm hacc⟩
end

section
variable {w : World} {A : Around} {env : Env} {I : Sto → Shared → Prop} {k : Nat} {p1 p2 p3 p4 : Pos} {f e : Expr} {ps : List Str}
set_option maxHeartbeats 1000000 in
theorem Ev.tupMap (hc : Cl w I) (rm : Rm (k + 8) A) (hnt : Ev w A env I (.Name "tuple" p1) (.val (.type "tuple"))) (hnm : Ev w A env I (.Name "map" p2) (.val (.type "map"))) (hf : Ev w A env I f (.val (.ref 130))) (he : Ev w A env I e (.lst (ps.map .str))) (hn : ps.length ≤ sizeLine)
    (h1 : starEach [.Call (.Name "map" p2) [f, e] [] p3] env = (false, eval (.Call (.Name "map" p2) [f, e] [] p3) env) :: starEach [] env := by rfl) (h2 : starEach [f, e] env = (false, eval f env) :: starEach [e] env := by rfl) (h3 : starEach [e] env = (false, eval e env) :: starEach [] env := by rfl) :
    Ev w A env I (.Call (.Name "tuple" p1) [.Call (.Name "map" p2) [f, e] [] p3] [] p4) (.tup (ps.map .str)) := by
  intro B s Q E i q
  have a1 : ((backTo p4 (starEach [.Call (.Name "map" p2) [f, e] [] p3] env)).any (·.1)) = false := by rw [h1]; rfl
  have a2 : ((backTo p3 (starEach [f, e] env)).any (·.1)) = false := by rw [h2, h3]; rfl
  refine wpAny_Call_NameR (hnt B s _ _ i fun v B1 s1 g1 hv => ?_)
  cases hv
  refine PySem.callWith_type a1 (evalArgs_any a1 ?_)
  refine args_cons (wpAny_Call_NameR (hnm B1 s1 _ _ (hc.grow i g1) fun v B2 s2 g2 hv => ?_)) h1
  cases hv
  refine PySem.callWith_type a2 (evalArgs_any a2 ?_)
  have i2 := hc.grow (hc.grow i g1) g2
  refine args_cons (hf B2 s2 _ _ i2 fun v B3 s3 g3 hv => ?_) h2
  cases hv
  refine args_cons (he B3 s3 _ _ (hc.grow i2 g3) fun v B4 s4 g4 hv => args_nil ?_) h3
  have i4 := hc.grow (hc.grow i2 g3) g4
  have g14 : Grow B s B4 s4 := g1.trans (g2.trans (g3.trans g4))
  clear i2 g1 g2 g3 g4
  obtain ⟨l, vs, n, rfl, hl, hvs⟩ := hv.inv_lst
  have sb := hc.sub i4
  have gd := hc.gd i4
  have hL := isList_of (sb _ _ hl)
  refine callType_new called_map (by decide) (typeCall_map_2 _ _) (newCall_map_2 _ _) (fun obj => PySem.F.args_object_init_3 obj _ _) entry_map_new (meets_map_new 130 l vs.toArray) ⟨hL, ?_⟩
  generalize hhi : s4.heap.push { cls := .type "list_iterator", data := .fields #[.ref l, .int 0 0] } = hi
  generalize hht : hi.push { cls := .type "tuple", data := .seq #[.ref s4.heap.objs.size] } = ht
  generalize hhm : ht.push { cls := .type "map", data := .fields #[.ref hi.objs.size, .ref 130] } = hm
  have zi : hi.objs.size = s4.heap.objs.size + 1 := by rw [← hhi, Heap.size_push]
  have zt : ht.objs.size = s4.heap.objs.size + 2 := by rw [← hht, Heap.size_push, zi]
  have zm : hm.objs.size = s4.heap.objs.size + 3 := by rw [← hhm, Heap.size_push, zt]
  have kk : ∀ b o, s4.heap.get? b = some o → hm.get? b = some o := fun b o e => hhm ▸ Heap.get?_push_of_some _ (hht ▸ Heap.get?_push_of_some _ (hhi ▸ Heap.get?_push_of_some _ e))
  have hI : IsMap hm ht.objs.size hi.objs.size (.ref 130) := hhm ▸ Heap.get?_push_size _ rfl
  have hT : IsOne hm hi.objs.size s4.heap.objs.size := hhm ▸ Heap.get?_push_of_some _ (hht ▸ Heap.get?_push_size _ rfl)
  have hit : hm.IsListIter s4.heap.objs.size l 0 := ⟨_, hhm ▸ Heap.get?_push_of_some _ (hht ▸ Heap.get?_push_of_some _ (hhi ▸ Heap.get?_push_size _ rfl)), rfl, rfl⟩
  show _ ∧ _
  refine ⟨⟨_, hI, rfl⟩, args_nil ?_⟩
  have hne1 : ht.objs.size ≠ s4.heap.objs.size := by rw [zt]; omega
  have hne2 : hi.objs.size ≠ s4.heap.objs.size := by rw [zi]; omega
  have rm3 : Rm (k + 3) A.in1.in1.in1 := (rm.le (show k + 6 ≤ k + 8 by omega)).in1.in1.in1
  have W := map_walks (T := hi.objs.size) (N := hm.objs.size) (I := ht.objs.size) rm3 gd sb hl hvs (fresh_size s4.heap) hne1 hne2 (by rw [zt, zm]; exact Nat.add_lt_add_left (by decide : 2 < 3) _) (by rw [zi, zm]; exact Nat.add_lt_add_left (by decide : 1 < 3) _) (by rw [zm]; exact Nat.add_lt_add_left (by decide : 0 < 3) _) (by rw [zm]; exact Nat.le_add_right _ _)
  refine wpAny_with_toks (Nat.le_refl _) (call_tuple_map W (fun j s' st => ⟨_, st.hI, rfl⟩) ⟨⟨hm, s4.toks, rfl, kk⟩, Nat.le_refl _, hI, hT, hit⟩ (fun b hb => List.mem_range.mp hb) (List.mem_range.mpr (by rw [zt, zm]; omega)) hn fun s' acc hmv hacc htk => ?_)
  have kp : Keeps s4 s' := ⟨s'.heap, s'.toks, by
    have e1 := hmv.gens; have e2 := hmv.drawn; have e3 := hmv.os
    cases s'; simp only at e1 e2 e3; subst e1 e2 e3; rfl, fun b o e => hmv.heap b o (fun q => by rw [List.mem_singleton.mp q, fresh_size] at e; cases e) (kk b o e)⟩
  have gT : Grow B4 s4 (put B4 s'.heap.objs.size (tupObj acc.toList 0)) { s' with heap := s'.heap.push { cls := .type "tuple", data := .seq acc } } := by
    refine .alloc (o := tupObj acc.toList 0) sb (ktrans kp (keeps_push _ _)) (none_back kp (fresh_size _)) ?_ hmv.toks
    have := Heap.get?_push_size s'.heap (o := { cls := .type "tuple", data := .seq acc }) rfl
    rw [this]
  refine q _ _ _ (g14.trans gT) (.tup (put_self _ _ _) (.of_get (by rw [List.length_map, Array.length_toList, hacc.1]) fun j u d h1 h2 => ?_))
  obtain ⟨x, t, hx, rfl⟩ := hacc.2 j u (by simpa using h1)
  rw [List.getElem?_map, hx] at h2
  cases h2
  exact .str x t
end
end Mine
end
section
open PySem PySem.W PySem.W.X PySem.Spec PySem.Calls PyProof.Rows
set_option maxRecDepth 100000
namespace Mine

/-! a set that holds True alone -/
def tab1 (led : Bool) : SetTable := (layNew (.fresh 0 0 led) #[] 1 (.bool true)).2.1
theorem lay1 (led : Bool) : layNew (.fresh 0 0 led) #[] 1 (.bool true) = (#[(1, .bool true)], tab1 led, false, false) := by cases led <;> decide +kernel
theorem tab1_fits (led : Bool) : (tab1 led).fits 1 = true := by cases led <;> decide +kernel
theorem tab1_plain (led : Bool) : (tab1 led).plain = true := by cases led <;> decide +kernel
theorem tab1_led (led : Bool) : (tab1 led).led = led := by cases led <;> decide +kernel
theorem tab1_full (led : Bool) : (tab1 led).tooFull = false := by cases led <;> decide +kernel
theorem tab1_place (led : Bool) : (tab1 led).place = #[1] := by cases led <;> decide +kernel
theorem fresh_fits (led : Bool) : (SetTable.fresh 0 0 led).fits 0 = true := by cases led <;> decide +kernel
abbrev setO0 (led : Bool) : Obj := { cls := .type "set", dict := none, data := .set #[] 0 (.fresh 0 0 led), slots := #[] }
abbrev setO1 (led : Bool) : Obj := { cls := .type "set", dict := none, data := .set #[(1, .bool true)] 1 (tab1 led), slots := #[] }
section
variable {prog : Program} {w : World} {A : Around} {E : Value → Shared → Prop} {s : Shared}
theorem hash_true {Q : Int → Shared → Prop} (h : Q 1 { s with toks := s.toks + 1 }) : wpAny (model prog w) A (pyHash (.bool true)) Q E s := by
  have hT : s.TypeIs (.bool true) "bool" := rfl
  unfold pyHash pyHashByItsType
  have hv : [Value.bool true].any Value.onHeap = false := rfl
  refine wpAny_bind ?_
  rw [cRoomFor, if_neg (by rw [hv]; exact Bool.false_ne_true)]; refine wpAny_pure ?_
  refine wpAny_bind (wpAny_specialOf hT PySem.F.slot_bool_hash.lookup ?_)
  show wpAny _ _ (if (some (Value.builtin "int.__hash__") == some Value.none) = true then _ else _) Q E s
  rw [if_neg (by rw [beq_builtin_none]; exact Bool.false_ne_true)]
  refine wpAny_bind (wpAny_specialOf hT PySem.F.slot_bool_hash.lookup ?_)
  show wpAny _ _ (callSpecialIfBoundUnlessNone? (.bool true) "__hash__" _ >>= _) Q E s
  refine wpAny_bind (wpAny_callSpecialIfBoundUnlessNone?_slot hT PySem.F.slot_bool_hash
    (wpAny_call_entry PySem.F.slot_bool_hash hT entry_int_hash
      (show wpAny _ _ (do ret (← mkInt (rawHash 1))) _ _ s from wpAny_ret_mkInt ?_) (args_int_hash _)))
  show wpAny _ _ (if (decide (-(2 : Int) ^ 63 ≤ rawHash 1) && decide (rawHash 1 < 2 ^ 63)) = true then _ else _) Q E _
  rw [if_pos (by decide +kernel)]
  exact wpAny_pure h
theorem putSet_obj {es es' : Array (Int × Value)} {n : Nat} {t t' : SetTable} : Obj.putSet es' t' ({ cls := .type "set", dict := none, data := .set es n t, slots := #[] } : Obj) = { cls := .type "set", dict := none, data := .set es' (n + 1) t', slots := #[] } := rfl
theorem add_true0 {S : Addr} {led : Bool} {Q : Value → Shared → Prop} (hS : s.heap.get? S = some (setO0 led)) (h : ∀ h', h'.get? S = some (setO1 led) → Heap.SameBut S s.heap h' → Q .none { s with heap := h', toks := s.toks + 1 }) :
    wpAny (model prog w) A (call (.builtin "set.add") [.ref S, .bool true]) Q E s := by
  refine wpAny_call_entry PySem.F.slot_set_add ⟨_, hS, rfl⟩ PySem.F.entry_set_add ?_ (PySem.F.args_set_add_2 _ _)
  unfold Builtin.«set.add» Builtin.Frozenset.oneOther
  simp only [List.isEmpty_nil, bind_assoc]
  unfold Builtin.Frozenset.addrOf setAdd
  refine wpAny_bind (wpAny_pure ?_)
  try dsimp only
  refine wpAny_bind (wpAny_pure ?_)
  try dsimp only
  refine wpAny_bind (wpAny_holding (wpAny_bind (hash_true ?_)))
  unfold setAddHashed setAddHashedIn
  refine wpAny_holding (wpAny_bind (wpAny_setState_of hS rfl (fresh_fits led) ?_))
  dsimp only
  rw [if_pos (show byScan (.bool true) #[] = true by decide +kernel)]
  unfold setAddByScan
  refine wpAny_bind (wpAny_bind (wpAny_rule ?_))
  show wpAny _ _ (pure ScanMet.absent >>= _) _ _ _
  refine wpAny_bind (wpAny_pure ?_)
  dsimp only
  rw [lay1]
  dsimp only
  show wpAny _ _ (pure () >>= _) _ _ _
  refine wpAny_bind (wpAny_pure ?_)
  rw [tab1_plain, if_pos rfl]
  show wpAny _ _ (pure true >>= _) _ _ _
  refine wpAny_bind (wpAny_pure ?_)
  rw [if_pos rfl]
  refine wpAny_bind (wpAny_storeSet_of hS rfl ?_)
  rw [tab1_full]
  refine wpAny_pure (wpAny_pure ?_)
  refine wpAny_pure ⟨_, rfl, h _ ?_ (Heap.SameBut.update ..)⟩
  rw [Heap.get?_update_self _ hS rfl]; rfl
theorem eq_true {Q : Bool → Shared → Prop} (h : Q true s) : wpAny (model prog w) A (eqBool (.bool true) (.bool true)) Q E s := by
  unfold eqBool
  refine wpAny_holding ?_
  rw [if_pos (show (Value.bool true == Value.bool true) = true by decide)]
  exact wpAny_bind (wpAny_rule (wpAny_pure h))
theorem add_true1 {S : Addr} {led : Bool} {Q : Value → Shared → Prop} (hS : s.heap.get? S = some (setO1 led)) (h : Q .none { s with toks := s.toks + 1 }) :
    wpAny (model prog w) A (call (.builtin "set.add") [.ref S, .bool true]) Q E s := by
  refine wpAny_call_entry PySem.F.slot_set_add ⟨_, hS, rfl⟩ PySem.F.entry_set_add ?_ (PySem.F.args_set_add_2 _ _)
  unfold Builtin.«set.add» Builtin.Frozenset.oneOther
  simp only [List.isEmpty_nil, bind_assoc]
  unfold Builtin.Frozenset.addrOf setAdd
  refine wpAny_bind (wpAny_pure ?_)
  try dsimp only
  refine wpAny_bind (wpAny_pure ?_)
  try dsimp only
  refine wpAny_bind (wpAny_holding (wpAny_bind (hash_true ?_)))
  unfold setAddHashed setAddHashedIn
  refine wpAny_holding (wpAny_bind (wpAny_setState_of hS rfl (tab1_fits led) ?_))
  dsimp only
  rw [if_pos (show byScan (.bool true) #[(1, .bool true)] = true by decide +kernel)]
  unfold setAddByScan
  refine wpAny_bind (wpAny_bind (wpAny_rule ?_))
  show wpAny _ _ (setScanFrom S (.bool true) 1 true [(1, .bool true)] 0 >>= _) _ _ _
  refine wpAny_bind ?_
  unfold setScanFrom
  rw [if_pos (by decide)]
  unfold setEpoch
  refine wpAny_bind (wpAny_bind (wpAny_setState_of hS rfl (tab1_fits led) (wpAny_pure ?_)))
  refine wpAny_bind (eq_true ?_)
  rw [if_pos (by decide)]
  refine wpAny_pure (wpAny_pure (wpAny_pure ?_))
  exact wpAny_pure ⟨_, rfl, h⟩
theorem newSet_wp {Q : Value → Shared → Prop} (h : Q (.ref s.heap.objs.size) { s with heap := s.heap.push (setO0 (!w.params.followText "set-order")) }) : wpAny (model prog w) A (newSet (.type "set")) Q E s := by
  unfold newSet setsByText
  refine wpAny_bind (wpAny_bind (wpAny_askSetting (wpAny_pure ?_)))
  dsimp only
  exact wpAny_newObj_type h

abbrev setIt (S : Addr) (first : Int) (i : Int) (s2 : Value) : Obj := { cls := .type "set_iterator", dict := none, data := .fields #[rawInt first, rawInt i, s2, rawInt 1, rawInt 1], slots := #[] }
theorem entry_set_iter : entryFor table "set.__iter__" = some Builtin.«frozenset.__iter__» :=
  entryFor_alias (id' := "frozenset.__iter__") (by kernel_rfl) (by first | rfl | decide +kernel) (by decide +kernel) (by kernel_rfl)
theorem args_set_iter (a : Value) : argsOk "set.__iter__" ⟨[a], []⟩ := by unfold argsOk; kernel_rfl
theorem slot_setit_next : Slot "set_iterator" "__next__" "set_iterator.__next__" :=
  .of (owner := "set_iterator") (n := "__next__") (by rw [typeLookup_type, builtinLookup_eq_fast]; kernel_rfl) (by decide +kernel) (by decide +kernel) (by decide +kernel)
    (by first | exact .inl (by decide +kernel) | exact .inr (by decide +kernel)) (by rw [isSubtype_type]; kernel_rfl)
theorem entry_setit_next : entryFor table "set_iterator.__next__" = some Builtin.«set_iterator.__next__» := entryFor_of_tree (by kernel_rfl)
theorem args_setit_next (a : Value) : argsOk "set_iterator.__next__" ⟨[a], []⟩ := by unfold argsOk; kernel_rfl
theorem iter_true {S : Addr} {led : Bool} {Q : Value → Shared → Prop} (hS : s.heap.get? S = some (setO1 led)) (h : Q (.ref s.heap.objs.size) { s with heap := s.heap.push (setIt S 0 0 (.ref S)) }) : wpAny (model prog w) A (pyIter (.ref S)) Q E s := by
  have hT : s.TypeIs (.ref S) "set" := ⟨_, hS, rfl⟩
  refine wpAny_pyIter_slot hT PySem.F.slot_set_iter (wpAny_call_entry PySem.F.slot_set_iter hT entry_set_iter ?_ (args_set_iter _))
  unfold Builtin.«frozenset.__iter__»
  refine wpAny_bind (m := Builtin.Frozenset.slot0 "__iter__" { pos := [Value.ref S] }) (show wpAny _ _ (pure S) _ _ _ from wpAny_pure ?_)
  unfold Builtin.Frozenset.sizeOf setEntries setDrawn setEpoch setsByText
  refine wpAny_bind (wpAny_bind (wpAny_bind (wpAny_setState_of hS rfl (tab1_fits led) (wpAny_pure (wpAny_pure ?_)))))
  refine wpAny_bind (wpAny_bind (wpAny_setState_of hS rfl (tab1_fits led) ?_))
  dsimp only
  refine wpAny_bind (wpAny_bind (wpAny_askSetting (wpAny_pure (wpAny_pure ?_))))
  have hd : ∀ b : Bool, (!b && (!(tab1 led).plain && decide ((#[(1, Value.bool true)] : Array (Int × Value)).size > 1))) = false := by intro b; rw [tab1_plain]; cases b <;> rfl
  split
  · rename_i hc
    exact absurd (show (!_ && (!(tab1 led).plain && decide ((#[(1, Value.bool true)] : Array (Int × Value)).size > 1))) = true from hc) (by rw [hd]; exact Bool.false_ne_true)
  refine wpAny_bind (wpAny_pure (wpAny_bind (wpAny_bind (wpAny_setState_of hS rfl (tab1_fits led) (wpAny_pure ?_)))))
  refine wpAny_bind (m := newFields _ _) ?_
  unfold newFields
  exact wpAny_newObj_type (wpAny_pure ⟨_, rfl, "set_iterator", _, ⟨_, Heap.get?_push_size _ rfl, rfl⟩, slot_setit_next.lookup, h⟩)
theorem pick_one (f : Nat → Nat) (x : Int × Value) : pickOrder f #[x] = #[x] := by
  unfold pickOrder
  show pickOrder.go f 1 0 [x] #[] = #[x]
  unfold pickOrder.go
  have e : f 0 % [x].length = 0 := Nat.mod_one _
  rw [e]
  rfl
def afterOne (w : World) : Int := if w.params.followText "set-order" = true then 0 else 2
theorem below0 : SetTable.below #[1] 0 = 0 := by decide +kernel
theorem below2 : SetTable.below #[1] 2 = 1 := by decide +kernel
theorem setNext_wp {S : Addr} {slot given : Nat} {Q : Option (Value × Nat) → Shared → Prop} (hS : s.heap.get? S = some (setO1 (!w.params.followText "set-order")))
    (h1 : w.params.followText "set-order" = true → Q ((#[(1, Value.bool true)] : Array (Int × Value))[given]?.map fun e => (e.2, slot)) s)
    (h2 : w.params.followText "set-order" = false → Q (match (#[(1, Value.bool true)] : Array (Int × Value))[SetTable.below #[1] slot]?, (#[1] : Array Nat)[SetTable.below #[1] slot]? with | some (_, x), some j => some (x, j + 1) | _, _ => none) s) : wpAny (model prog w) A (setNext S slot given 1) Q E s := by
  unfold setNext setsByText
  refine wpAny_bind (wpAny_setState_of hS rfl (tab1_fits _) ?_)
  dsimp only
  refine wpAny_bind (wpAny_bind (wpAny_askSetting (wpAny_pure ?_)))
  show wpAny _ _ (if w.params.followText "set-order" = true then _ else _) _ _ _
  cases hb : w.params.followText "set-order" with
  | true =>
    rw [if_pos rfl, if_neg (by decide)]
    rw [hb] at hS
    unfold setWalk setsByText
    refine wpAny_bind (wpAny_bind (wpAny_setState_of hS rfl (tab1_fits _) ?_))
    dsimp only
    refine wpAny_bind (wpAny_bind (wpAny_askSetting (wpAny_pure ?_)))
    show wpAny _ _ (if w.params.followText "set-order" = true then _ else _) _ _ _
    rw [hb, if_pos rfl]
    refine wpAny_bind (wpAny_askSetting (wpAny_pure ?_))
    rw [pick_one]
    exact wpAny_pure (h1 hb)
  | false =>
    rw [if_neg (by decide)]
    have hd : (!(tab1 (!false)).plain && decide ((#[(1, Value.bool true)] : Array (Int × Value)).size > 1)) = false := by rw [tab1_plain]; rfl
    split
    · rename_i hc
      exact absurd (show (!(tab1 (!false)).plain && decide ((#[(1, Value.bool true)] : Array (Int × Value)).size > 1)) = true from hc) (by rw [hd]; exact Bool.false_ne_true)
    show wpAny _ _ ((if (!(tab1 (!false)).led && !(#[(1, Value.bool true)] : Array (Int × Value)).isEmpty) = true then _ else _) >>= _) _ _ _
    rw [tab1_led, if_neg (by decide)]
    refine wpAny_bind (wpAny_pure ?_)
    rw [tab1_place]
    exact wpAny_pure (h2 hb)
theorem next_true {S I : Addr} {Q : Option Value → Shared → Prop} (hS : s.heap.get? S = some (setO1 (!w.params.followText "set-order"))) (hI : s.heap.get? I = some (setIt S 0 0 (.ref S))) (hne : S ≠ I)
    (h : ∀ h', h'.get? I = some (setIt S (afterOne w) 1 (.ref S)) → Heap.SameBut I s.heap h' → Q (some (.bool true)) { s with heap := h' }) : wpAny (model prog w) A (pyNext (.ref I)) Q E s := by
  have hT : s.TypeIs (.ref I) "set_iterator" := ⟨_, hI, rfl⟩
  unfold pyNext
  refine wpAny_bind (wpAny_attempt (wpAny_callSpecial?_slot (name := Str.ofString "__next__") hT slot_setit_next (wpAny_call_entry slot_setit_next hT entry_setit_next ?_ (args_setit_next _))))
  unfold Builtin.«set_iterator.__next__»
  refine wpAny_bind (m := slotArgs "__next__" 0 { pos := [Value.ref I] }) (show wpAny _ _ (pure (Value.ref I, [])) _ _ _ from wpAny_pure ?_)
  refine wpAny_bind (wpAny_fieldsOf hI rfl ?_)
  show wpAny _ _ (setEntries S >>= _) _ _ _
  unfold setEntries
  refine wpAny_bind (wpAny_bind (wpAny_setState_of hS rfl (tab1_fits _) (wpAny_pure ?_)))
  show wpAny _ _ (if (((1 : Nat) : Int) != 1) = true then _ else _) _ _ _
  rw [if_neg (by decide)]
  show wpAny _ _ (setNext S 0 0 1 >>= _) _ _ _
  have tail : ∀ f : Nat, (f : Int) = afterOne w → wpAny (model prog w) A.in1 (do
      setField (.ref I) 0 (rawInt (f : Int))
      setField (.ref I) 1 (rawInt (0 + 1))
      ret (Value.bool true)) (fun fin s' => ∃ v, fin = PySem.Fin.done (Flow.ret v) ∧ wpAny (model prog w) A (pure (some v)) Q E s') (fun _ _ => False) s := fun f hf => by
    refine wpAny_bind (wpAny_setField_rec hI (by simp) fun h1 hI1 hs1 => ?_)
    refine wpAny_bind (wpAny_setField_rec hI1 (by simp) fun h2 hI2 hs2 => ?_)
    exact wpAny_pure ⟨_, rfl, wpAny_pure (h h2 (by rw [hI2, hf]; rfl) (hs1.trans hs2))⟩
  refine wpAny_bind (setNext_wp hS (fun hb => ?_) fun hb => ?_)
  · exact wpAny_mono (tail 0 (by unfold afterOne; rw [if_pos hb]; rfl)) (fun _ _ x => x) fun _ _ x => x.elim
  · rw [below0]
    exact wpAny_mono (tail 2 (by unfold afterOne; rw [if_neg (by rw [hb]; exact Bool.false_ne_true)]; rfl)) (fun _ _ x => x) fun _ _ x => x.elim
theorem next_end {S I : Addr} {Q : Option Value → Shared → Prop} (hh : A.handled = none) (hS : s.heap.get? S = some (setO1 (!w.params.followText "set-order"))) (hI : s.heap.get? I = some (setIt S (afterOne w) 1 (.ref S)))
    (h : ∀ h', Heap.ExtBut I s.heap h' → Q none { s with heap := h' }) : wpAny (model prog w) A (pyNext (.ref I)) Q E s := by
  have hT : s.TypeIs (.ref I) "set_iterator" := ⟨_, hI, rfl⟩
  unfold pyNext
  refine wpAny_bind (wpAny_attempt (wpAny_callSpecial?_slot (name := Str.ofString "__next__") hT slot_setit_next (wpAny_call_entry slot_setit_next hT entry_setit_next ?_ (args_setit_next _))))
  unfold Builtin.«set_iterator.__next__»
  refine wpAny_bind (m := slotArgs "__next__" 0 { pos := [Value.ref I] }) (show wpAny _ _ (pure (Value.ref I, [])) _ _ _ from wpAny_pure ?_)
  refine wpAny_bind (wpAny_fieldsOf hI rfl ?_)
  show wpAny _ _ (setEntries S >>= _) _ _ _
  unfold setEntries
  refine wpAny_bind (wpAny_bind (wpAny_setState_of hS rfl (tab1_fits _) (wpAny_pure ?_)))
  show wpAny _ _ (if (((1 : Nat) : Int) != 1) = true then _ else _) _ _ _
  rw [if_neg (by decide)]
  show wpAny _ _ (setNext S (afterOne w).toNat 1 1 >>= _) _ _ _
  have tail : ∀ (P : PySem.Fin → Shared → Prop), wpAny (model prog w) A.in1 (do
      setField (.ref I) 2 .none
      raiseNew (← newExc (.type "StopIteration") [])) P (fun e s' => wpAny (model prog w) A (do if (← isInstance e (.type "StopIteration")) = true then pure none else throw e) Q E s') s := fun P => by
    refine wpAny_bind (wpAny_setField_rec hI (by simp) fun h1 hI1 hs1 => ?_)
    refine wpAny_bind ?_
    simp only [newExc, newTuple]
    refine wpAny_bind (wpAny_newObj_type ?_ (by size_fits))
    refine wpAny_bind (m := firstArgMember _ _) (wpAny_of_eq (a := Value.none) (by first | rfl | (simp only [firstArgMember]; rfl)) ?_)
    refine wpAny_newObj_type ?_ (by size_fits)
    simp only [raiseNew]
    refine wpAny_bind (wpAny_handled ?_)
    rw [show A.in1.handled = none from hh]
    refine wpAny_bind (wpAny_pure (wpAny_throw ?_))
    refine wpAny_bind (wpAny_isInstance (T := "StopIteration") (b := true) ⟨_, Heap.get?_push_size _ rfl, rfl⟩ isSubtype_stop ?_)
    exact wpAny_pure (h _ ((hs1.extBut.push _).push _))
  refine wpAny_bind (setNext_wp hS (fun hb => ?_) fun hb => ?_)
  · exact tail _
  · have e : (afterOne w).toNat = 2 := by unfold afterOne; rw [if_neg (by rw [hb]; exact Bool.false_ne_true)]; rfl
    rw [e, below2]
    exact tail _
end
end Mine
end
section
open PySem PySem.W PySem.Spec PySem.Calls PyProof.Rows
set_option maxRecDepth 100000
namespace Mine

/-! a comprehension stored before its variables go -/
def Ow.nsx (C : Addr) (m : Str → Option Value) : Ow := ⟨[C], fun _ h => h.Ns C m, fun ⟨o, es, ep, h1, _⟩ b hb => by rw [List.mem_singleton.mp hb]; exact ⟨o, h1⟩, fun ⟨o, es, ep, h1, r⟩ _ _ k => ⟨o, es, ep, k C (.head _) o h1, r⟩⟩
section
variable {w : World} {A : Around} {env : Env} {s₀ : Shared} {B₀ : Sto} {L : Addr} {cl0 : List (Str × Addr)} {E C0 : List (Str × D)} {O0 : Ow} {elt target iter : Expr} {ifs : List Expr} {scope : Scope} {pos p' spos : Pos} {cl : List (Str × Addr)} {dI : D} {α : Type} {x : Str}
set_option maxHeartbeats 1000000 in
theorem Ex.setComp (l : List α) (g : α → D) (p : α → Bool) (f : α → D) (hi : Ev w A env (FrI w s₀ B₀ L cl0 E C0 O0) iter dI) (itr : Itr w A dI (l.map g)) (hlen : l.length ≤ 10000)
    (turn : ∀ (B₁ : Sto) (s₁ : Shared) (C : Addr) (O : Ow) (i : Nat) (a : α), FrI w s₀ B₀ L cl0 E C0 O0 B₁ s₁ → l[i]? = some a → ∃ E', As w A (compEnvC scope cl C env) (FrI w s₁ B₁ C [] [] [] O) target (g a) (FrI w s₁ B₁ C [] E' [] O) ∧
      Tst w A (compEnvC scope cl C env) (FrI w s₁ B₁ C [] E' [] O) ifs (p a) ∧ (p a = true → Ev w A (compEnvC scope cl C env) (FrI w s₁ B₁ C [] E' [] O) elt (f a)))
    (hsw : swapsWith (.ListComp elt [⟨target, iter, ifs, 0⟩] scope pos) (some (.Name x p')) spos.line env = pure true := by rfl)
    (hL : env.locals = L := by rfl) (hk : env.scope.kind = .function := by rfl) (hl : env.kindOf x = some .local := by rfl)
    (hclos : closureFor scope env = pure cl := by rfl) (hcell : ∀ y ∈ scope.names, y.2 ≠ .cell := by decide) (hkind : scope.kind = .function := by rfl)
    (hnames : ∀ y ∈ scope.names, y.2 = .local → scope.names.lookup y.1 = some .local := by decide) (hs : ∀ x, foldedSetIterable iter env x = pure x := by intro _; rfl) :
    Ex w A env (FrI w s₀ B₀ L cl0 E C0 O0) (.Assign [.Name x p'] (.ListComp elt [⟨target, iter, ifs, 0⟩] scope pos) spos) (On (FrI w s₀ B₀ L cl0 ((x, .lst ((l.filter p).map f)) :: E) C0 O0)) := by
  intro B s Q X F k
  rw [exec_Assign_Name_used _ _ _ _ hsw]
  refine wpAny_bind (wpAny_standAt (wpAny_bind ?_))
  show wpAny _ A (do let _ ← comprehension (.ListComp elt [⟨target, iter, ifs, 0⟩] scope pos) scope env iter.pos (newList []) false (eval iter env) (some (assign (.Name x p') env))) _ _ s
  refine wpAny_bind (wpAny_mono (comp_core (Q := fun _ s' => Q .next s') l g p f (some (assign (.Name x p') env)) FrI.clo hi itr hlen turn F (fun B1 s1 C Dd B' s' g1 F1 F' => ?_) hclos hcell hkind hnames hs) (fun _ s' hq => wpAny_pure (wpAny_pure hq)) fun _ _ e => e)
  obtain ⟨B'', le'', hV, F''⟩ := FrI.freeze (O := Ow.nil) (F'.ow (O' := (Ow.own Dd (((l.take l.length).filter p).map f)).and Ow.nil) (fun a ha => by simpa [Ow.and, Ow.nil] using ha) (by show ([Dd] ++ []).Nodup; simp) ⟨F'.own, trivial⟩)
  rw [List.take_length] at hV
  obtain ⟨m, hm, _⟩ := F''.loc
  have gd := F''.done
  have FO : FrI w s₀ B₀ L cl0 E C0 ((Ow.nsx C m).and O0) B'' s' := by
    have F2 := FrI.clo.grow F1 gd
    have F3 := F1.more (P := Ow.nsx C m) gd.kp gd.tk (fun a ha => by rw [List.mem_singleton.mp ha]; exact F''.fresh) (by show [C].Nodup; simp) hm
    refine { F2 with own := ⟨hm, F2.own⟩, fpo := fun a ha => ?_, nod := F3.nod }
    have := F3.fpo a ha
    refine ⟨this.1, ?_, this.2.2⟩
    rcases List.mem_append.mp ha with ha' | ha'
    · rw [List.mem_singleton.mp ha']; exact F''.nL
    · exact (F2.fpo a ha').2.1
  show wpAny _ A (assign (.Name x p') env (.ref Dd)) _ _ _
  refine wpAny_assign_Name (FO.store hV (fun s2 F2 => ?_) hL hk hl)
  refine ⟨m, F2.own.1, fun h' hsb => ?_⟩
  have F3 := F2.change (O' := O0) (h' := h') (tk := s2.toks) (fun b o hb e => (hsb.2 b (fun q => hb (q ▸ .head _))).trans e) (Nat.le_refl _) (fun a ha => .tail _ ha) (List.nodup_cons.mp (show (C :: O0.fp).Nodup from F2.nod)).2 ?_
  · exact k _ _ B'' _ .next F3 (g1.le.trans gd.le)
  · have nd := List.nodup_cons.mp (show (C :: O0.fp).Nodup from F2.nod)
    have sb : Sub B'' h' := fun b o e => (hsb.2 b (fun q => by have := (F2.fpo C (.head _)).2.1; rw [q, this] at e; cases e)).trans (F2.sub b o e)
    exact O0.frame F2.own.2 (Le.refl _) sb fun a ha o e => (hsb.2 a (fun q => nd.1 (q ▸ ha))).trans e
end
end Mine
end
section
open PySem PySem.W PySem.Spec PySem.Calls PyProof.Rows
set_option maxRecDepth 100000
namespace Mine

/-! a set comprehension all of whose items are True -/
def stO (w : World) : Nat → Obj
  | 0 => setO0 (!w.params.followText "set-order")
  | _ + 1 => setO1 (!w.params.followText "set-order")
def Ow.st (w : World) (S : Addr) (i : Nat) : Ow := ⟨[S], fun _ h => h.get? S = some (stO w i), fun h1 b hb => by rw [List.mem_singleton.mp hb]; exact ⟨_, h1⟩, fun h1 _ _ k => k S (.head _) _ h1⟩
theorem compTurn_set (elt target iter : Expr) (scope : Scope) (pos : Pos) (it acc : Value) (env : Env) :
    compTurn (.SetComp elt [⟨target, iter, [], 0⟩] scope pos) 0 it acc env = (do
      standAt iter.pos
      match ← pyNext it with
      | none => pure (.done .next)
      | some v =>
        letOwnedTupleGo target it v
        assign target env v
        (do let v ← eval elt env; standAt elt.pos; let _ ← call (.builtin "set.add") [acc, v])
        again (.compLoop (.SetComp elt [⟨target, iter, [], 0⟩] scope pos) 0 it acc env)) := by rfl
section
variable {w : World} {A : Around} {R : Result → Shared → Prop} {s : Shared}
theorem setcomp_turns {elt target iter : Expr} {scope : Scope} {pos : Pos} {it acc : Value} {env : Env} (I : Nat → Shared → Prop)
    (turn : ∀ n s, I n s → wpAny (MM w) A (pyNext it) (fun r s₁ => match r with
      | none => R (.ok .next) s₁
      | some v => wpAny (MM w) A (letOwnedTupleGo target it v) (fun _ s₁' => wpAny (MM w) A (assign target env v) (fun _ s₂ =>
            wpAny (MM w) A (eval elt env) (fun x s₄ =>
              wpAny (MM w) A (call (.builtin "set.add") [acc, x]) (fun _ s₅ => ∃ m, m < n ∧ I m s₅) (notedBy (MM w) A env fun e s' => R (.error e) s') s₄) (notedBy (MM w) A env fun e s' => R (.error e) s') s₂) (notedBy (MM w) A env fun e s' => R (.error e) s') s₁') (notedBy (MM w) A env fun e s' => R (.error e) s') s₁) (notedBy (MM w) A env fun e s' => R (.error e) s') s)
    (n : Nat) (h : I n s) : codeAny (MM w) A (.compLoop (.SetComp elt [⟨target, iter, [], 0⟩] scope pos) 0 it acc env) R s := by
  refine codeAny_loop rfl I (fun n s hI => ?_) n h
  show wpAny _ A ((compTurn (.SetComp elt [⟨target, iter, [], 0⟩] scope pos) 0 it acc env).onRaise (fun x => do noteFrame x env; theTreesLotGoes x)) _ _ s
  refine wpAny_noted ?_
  rw [compTurn_set]
  refine wpAny_bind (wpAny_standAt (wpAny_bind (wpAny_mono (turn n s hI) (fun r s₁ h₁ => ?_) fun _ _ h' => h')))
  cases r with
  | none => exact wpAny_pure h₁
  | some v =>
    refine wpAny_bind (wpAny_mono h₁ (fun _ s₁' h₁' => ?_) fun _ _ h' => h')
    refine wpAny_bind (wpAny_mono h₁' (fun _ s₂ h₂ => ?_) fun _ _ h' => h')
    refine wpAny_bind (wpAny_bind (wpAny_mono h₂ (fun x s₄ h₄ => ?_) fun _ _ h' => h'))
    exact wpAny_bind (wpAny_standAt (wpAny_bind (wpAny_mono h₄ (fun _ s₅ h₅ => wpAny_pure (wpAny_pure ⟨rfl, h₅⟩)) fun _ _ h' => h')))
theorem compStart_set {elt target iter : Expr} {scope : Scope} {pos : Pos} {it acc : Value} {env : Env}
    (h0 : codeAny (MM w) A (.compLoop (.SetComp elt [⟨target, iter, [], 0⟩] scope pos) 0 it acc env) R s)
    (h : wpAny (MM w) A (pyIter it) (fun it' s' => codeAny (MM w) A (.compLoop (.SetComp elt [⟨target, iter, [], 0⟩] scope pos) 0 it' acc env) R s')
      (notedBy (MM w) A env fun x s' => R (.error x) s') s) :
    codeAny (MM w) A (.compStart (.SetComp elt [⟨target, iter, [], 0⟩] scope pos) 0 it acc env) R s := by
  refine codeAny_of_tree ?_
  show wpAny _ _ ((compStart (.SetComp elt [⟨target, iter, [], 0⟩] scope pos) 0 it acc env).onRaise (fun x => do noteFrame x env; standAt theWindowsPlace)) _ _ s
  refine wpAny_notedAt ?_
  unfold compStart
  show wpAny _ _ (ask >>= _) _ _ s
  refine wpAny_bind (wpAny_askSetting (wpAny_ite ?_))
  split
  · first
      | exact wpAny_bind (wpAny_pure (wpAny_pure (And.intro rfl h0)))
      | exact wpAny_pure (And.intro rfl h0)
  · refine wpAny_bind (wpAny_rule ?_)
    show wpAny _ _ (standAt iter.pos >>= _) _ _ s
    exact wpAny_bind (wpAny_standAt (wpAny_bind (wpAny_mono h (fun it' s' h' => wpAny_pure (And.intro rfl h')) fun _ _ x => x)))
end
section
variable {w : World} {A : Around} {env : Env} {I : Sto → Shared → Prop} {elt target iter : Expr} {scope : Scope} {pos : Pos} {cl : List (Str × Addr)} {dI : D} {α : Type}
set_option maxHeartbeats 2000000 in
theorem setcomp_core (l : List α) (g : α → D) (hne : 0 < l.length) (hc : Cl w I) (hi : Ev w A env I iter dI) (itr : Itr w A dI (l.map g)) (hlen : l.length ≤ 10000)
    (turn : ∀ (B₁ : Sto) (s₁ : Shared) (C : Addr) (O : Ow) (i : Nat) (a : α), I B₁ s₁ → l[i]? = some a → ∃ E', As w A (compEnvC scope cl C env) (FrI w s₁ B₁ C [] [] [] O) target (g a) (FrI w s₁ B₁ C [] E' [] O) ∧
      Ev w A (compEnvC scope cl C env) (FrI w s₁ B₁ C [] E' [] O) elt (.bool true))
    {B : Sto} {s : Shared} {Q X : Value → Shared → Prop} (i : I B s)
    (fin : ∀ (B1 : Sto) (s1 : Shared) (C Dd : Addr) (B' : Sto) (s' : Shared), Grow B s B1 s1 → I B1 s1 → FrI w s1 B1 C [] [] [] (Ow.st w Dd l.length) B' s' → compPost (MM w) A X none Q (.ref Dd) C (.ok .next) s')
    (hclos : closureFor scope env = pure cl) (hcell : ∀ y ∈ scope.names, y.2 ≠ .cell) (hkind : scope.kind = .function)
    (hnames : ∀ y ∈ scope.names, y.2 = .local → scope.names.lookup y.1 = some .local) (hs : ∀ x, foldedSetIterable iter env x = pure x) :
    wpAny (MM w) A (comprehension (.SetComp elt [⟨target, iter, [], 0⟩] scope pos) scope env iter.pos (newSet (.type "set")) false (eval iter env) none) Q X s := by
  refine wpAny_comprehension_free (use := none) rfl hs hclos hkind hnames (hi B s _ _ i fun v B1 s1 g1 hv => ?_)
  have i1 := hc.grow i g1
  refine wpAny_with_toks (Nat.le_refl s1.toks) (itr B1 s1 v _ _ (hc.gd i1) (hc.sub i1) hv fun it s2 hit tk2 => ?_)
  obtain ⟨It, fpW, wr, P, St, rfl, W, kp, st0, hwr, hnd, hfp, hob, hP, lot⟩ := hit.ex
  rw [List.length_map] at W
  refine newSet_wp (wpAny_newFunctionEnv hcell (by intro y hy; simp at hy) (fun h₁ hns₁ hsb₁ => ?_) hkind)
  dsimp only at hns₁ hsb₁ ⊢
  generalize hH2 : s2.heap.push (setO0 (!w.params.followText "set-order")) = H2 at hns₁ hsb₁ ⊢
  have hCs : H2.objs.size = s2.heap.objs.size + 1 := by rw [← hH2, Heap.size_push]
  generalize hC : H2.objs.size = C at hns₁ hsb₁ ⊢
  generalize hD : s2.heap.objs.size = Dd at hCs ⊢
  have hDC : Dd ≠ C := by omega
  have hlt2 : ∀ b o, s2.heap.get? b = some o → (b : Nat) < Dd := fun b o e => hD ▸ Heap.lt_size e
  have hDltC : Dd < C := by rw [← hC, hCs]; exact Nat.lt_succ_self _
  have old : ∀ b o, s2.heap.get? b = some o → h₁.get? b = some o := fun b o e => hsb₁.extBut b o (Nat.ne_of_lt (Nat.lt_trans (hlt2 b o e) hDltC)) (Heap.get?_push_of_some _ (hH2 ▸ Heap.get?_push_of_some _ e))
  have hDn : s2.heap.get? Dd = none := hD ▸ fresh_size _
  have hCn : s2.heap.get? C = none := by
    cases e : s2.heap.get? C with
    | none => rfl
    | some o => exact absurd (Nat.lt_trans (hlt2 C o e) hDltC) (Nat.lt_irrefl _)
  have hDo : h₁.get? Dd = some (setO0 (!w.params.followText "set-order")) := hsb₁.extBut _ _ hDC (Heap.get?_push_of_some _ (by rw [← hH2, ← hD]; exact Heap.get?_push_size _ rfl))
  have hb : ∀ i h h', St i h → (∀ b ∈ fpW, ∀ o, h.get? b = some o → h'.get? b = some o) → St i h' := W.frame
  let IT : Nat → Ow := fun i => Ow.it fpW wr (St i) (hb i) (hob i)
  let O : Nat → Ow := fun i => (Ow.st w Dd i).and (IT i)
  have kp12 : ∀ b o, s1.heap.get? b = some o → h₁.get? b = some o := fun b o e => old b o (kheap kp b o e)
  have hwrD : ∀ b ∈ wr, b ≠ Dd ∧ b ≠ C := fun b hb' => by
    obtain ⟨o, ho⟩ := hob 0 _ st0 b hb'
    exact ⟨(fun q => by rw [q, hDn] at ho; cases ho), (fun q => by rw [q, hCn] at ho; cases ho)⟩
  have F0 : FrI w s1 B1 C [] [] [] (O 0) B1 { s2 with heap := h₁, toks := s2.toks + ([] : List (Str × Value)).length } := by
    obtain ⟨h2, tk, rfl, kk⟩ := kp
    refine ⟨hc.gd i1, ⟨h₁, _, rfl, kp12⟩, Nat.le_trans tk2 (Nat.le_add_right _ _), fun b o e => kp12 b o ((hc.sub i1) b o e), Le.refl _, fun _ _ e => .inl e, none_back ⟨h2, tk, rfl, kk⟩ hCn, (hc.sub i1).none (none_back ⟨h2, tk, rfl, kk⟩ hCn), ⟨_, hns₁, fun x d e => by cases e⟩, (fun x c e => by cases e), ⟨hDo, hb 0 _ _ st0 fun b _ o e => old b o e, fun b hb' => (hfp b hb').imp id fun ⟨o, e⟩ => ⟨o, e, kp12 b o ((hc.sub i1) b o e)⟩⟩, fun a ha => ?_, ?_⟩
    · rcases List.mem_append.mp ha with ha | ha
      · rw [List.mem_singleton.mp ha]
        have := none_back ⟨h2, tk, rfl, kk⟩ hDn
        exact ⟨this, (hc.sub i1).none this, hDC, fun x c e => by cases e⟩
      · exact ⟨hwr a ha, (hc.sub i1).none (hwr a ha), (hwrD a ha).2, fun x c e => by cases e⟩
    · show (Dd :: wr).Nodup
      exact List.nodup_cons.mpr ⟨fun q => (hwrD Dd q).1 rfl, hnd⟩
  have loop : codeAny (MM w) A (.compLoop (.SetComp elt [⟨target, iter, [], 0⟩] scope pos) 0 (.ref It) (.ref Dd) (compEnvC scope cl C env)) (compPost (MM w) A X none Q (.ref Dd) C) { s2 with heap := h₁, toks := s2.toks + ([] : List (Str × Value)).length } := by
    refine setcomp_turns (fun m s' => ∃ i B', m = l.length - i ∧ i ≤ l.length ∧ Le B1 B' ∧ FrI w s1 B1 C [] [] [] (O i) B' s') ?_ l.length ⟨0, B1, by omega, Nat.zero_le _, Le.refl _, F0⟩
    rintro m s' ⟨i, B', rfl, hi', le', F'⟩
    have nd := List.nodup_cons.mp (show (Dd :: wr).Nodup from F'.nod)
    by_cases hlt : i < l.length
    · refine wpAny_with_toks (Nat.le_refl s'.toks) (W.item i s' _ _ hlt F'.own.2.1 fun x h' tk hPx hst hk tk' => ?_)
      refine lot (i + 1) target x _ _ _ hst ?_
      have hsb' : Sub B' h' := fun b o e => hk b o (fun q => by have := (F'.fpo b (List.mem_append.mpr (.inr q))).2.1; rw [this] at e; cases e) (F'.sub b o e)
      let On' : Ow := (Ow.st w Dd i).and (IT (i + 1))
      have F1 : FrI w s1 B1 C [] [] [] On' B' { s' with heap := h', toks := tk } := by
        refine F'.change (O' := On') (fun b o hb' e => hk b o (fun q => hb' (List.mem_append.mpr (.inr q))) e) tk' (fun a ha => ha) F'.nod ?_
        refine ⟨(Ow.st w Dd _).frame F'.own.1 (Le.refl _) hsb' fun a ha o e => hk a o (fun q => by rw [List.mem_singleton.mp ha] at q; exact nd.1 q) e, hst, fun b hb' => ?_⟩
        rcases F'.own.2.2 b hb' with q | ⟨o, h1, h2⟩
        · exact .inl q
        · exact .inr ⟨o, h1, hsb' b o h1⟩
      obtain ⟨a, ha⟩ : ∃ a, l[i]? = some a := ⟨_, List.getElem?_eq_getElem hlt⟩
      have hga : (l.map g)[i]? = some (g a) := by rw [List.getElem?_map, ha]; rfl
      obtain ⟨E', as, el⟩ := turn B1 s1 C On' i a i1 ha
      refine as B' _ x _ _ F1 (hP i _ x B' le' hPx hga) fun B2 s2' F2 le2 => el B2 s2' _ _ F2 fun y B4 s4 g4 hy => ?_
      cases hy.inv_bool
      have F4 := FrI.clo.grow F2 g4
      obtain ⟨hS, itx⟩ := F4.own
      have fin2 : ∀ h5 : Heap, h5.get? Dd = some (setO1 (!w.params.followText "set-order")) → Heap.SameBut Dd s4.heap h5 → ∃ m, m < l.length - i ∧ ∃ i B', m = l.length - i ∧ i ≤ l.length ∧ Le B1 B' ∧ FrI w s1 B1 C [] [] [] (O i) B' { s4 with heap := h5, toks := s4.toks + 1 } := fun h5 hl5 hs5 => by
        have hsb5 : Sub B4 h5 := fun b o e => (hs5.2 b (fun q => by have := (F4.fpo Dd (List.mem_append.mpr (.inl (.head _)))).2.1; rw [q, this] at e; cases e)).trans (F4.sub b o e)
        refine ⟨l.length - (i + 1), by omega, i + 1, B4, rfl, hlt, le'.trans (le2.trans g4.le), ?_⟩
        refine (F4.weak (E' := []) .nil .nil).change (O' := O (i + 1)) (tk := s4.toks + 1) (fun b o hb' e => (hs5.2 b (fun q => hb' (q ▸ List.mem_append.mpr (.inl (.head _))))).trans e) (Nat.le_succ _) (fun a ha => ha) F4.nod ?_
        exact ⟨hl5, (IT (i + 1)).frame itx (Le.refl _) hsb5 fun b hb' o e => (hs5.2 b (fun q => nd.1 (q ▸ hb'))).trans e⟩
      cases i with
      | zero => exact add_true0 hS fun h5 hl5 hs5 => fin2 h5 hl5 hs5
      | succ i => exact add_true1 hS (fin2 s4.heap hS (Heap.SameBut.refl ..))
    · have hin : i = l.length := by omega
      subst hin
      refine wpAny_with_toks (Nat.le_refl s'.toks) (W.done s' _ _ F'.own.2.1 fun h' tk hk tk' => ?_)
      have hsb' : Sub B' h' := fun b o e => hk b o (fun q => by have := (F'.fpo b (List.mem_append.mpr (.inr q))).2.1; rw [this] at e; cases e) (F'.sub b o e)
      have F2 : FrI w s1 B1 C [] [] [] (Ow.st w Dd l.length) B' { s' with heap := h', toks := tk } := by
        refine F'.change (O' := Ow.st w Dd l.length) (fun b o hb' e => hk b o (fun q => hb' (List.mem_append.mpr (.inr q))) e) tk' (fun a ha => List.mem_append.mpr (.inl ha)) (by show [Dd].Nodup; simp) ?_
        exact (Ow.st w Dd _).frame F'.own.1 (Le.refl _) hsb' fun a ha o e => hk a o (fun q => by rw [List.mem_singleton.mp ha] at q; exact nd.1 q) e
      exact fin B1 s1 C Dd B' _ g1 i1 F2
  exact compStart_set loop (W.self 0 _ _ _ (F0.own.2.1) loop)
end
section
variable {w : World} {A : Around} {env : Env} {I I' : Sto → Shared → Prop} {elt target iter e1 : Expr} {scope : Scope} {pos tpos spos : Pos} {cl : List (Str × Addr)} {dI : D} {α : Type} {kk : Nat}
theorem unpack_true {E : Value → Shared → Prop} {s : Shared} {S : Addr} {Q : List Value → Shared → Prop} (hh : A.handled = none) (hS : s.heap.get? S = some (setO1 (!w.params.followText "set-order"))) (h : ∀ s', Keeps s s' → Q [.bool true] s') :
    wpAny (MM w) A (unpackItems (.ref S) 1 none) Q E s := by
  have hT : s.TypeIs (.ref S) "set" := ⟨_, hS, rfl⟩
  unfold unpackItems
  refine wpAny_bind ?_
  unfold notIterableAtAll
  refine wpAny_bind (wpAny_specialOf hT PySem.F.slot_set_iter.lookup ?_)
  refine wpAny_pure ?_
  simp only [Bool.false_eq_true, if_false]
  refine wpAny_bind (wpAny_holding (iter_true hS ?_))
  have hne : S ≠ s.heap.objs.size := Nat.ne_of_lt (Heap.lt_size hS)
  refine wpAny_bind (wpAny_holding ?_)
  show wpAny _ _ (pyNext (.ref s.heap.objs.size) >>= _) _ _ _
  refine wpAny_bind (next_true (S := S) (Heap.get?_push_of_some _ hS) (Heap.get?_push_size _ rfl) hne fun h1 hI1 hs1 => ?_)
  refine wpAny_bind (wpAny_holding ?_)
  show wpAny _ _ (pure []) _ _ _
  refine wpAny_pure (wpAny_pure ?_)
  rw [if_neg (show ¬ ([Value.bool true].length < 1) by decide)]
  refine wpAny_bind (wpAny_holding (next_end (S := S) hh ((hs1.2 S hne).trans (Heap.get?_push_of_some _ hS)) hI1 fun h2 hs2 => ?_))
  simp only [Option.isSome_none, Bool.false_eq_true, if_false]
  refine wpAny_pure (h _ ⟨h2, s.toks, rfl, fun b o e => ?_⟩)
  have hb : b ≠ s.heap.objs.size := Nat.ne_of_lt (Heap.lt_size e)
  exact hs2 b o hb ((hs1.2 b hb).trans (Heap.get?_push_of_some _ e))
/-- the one item of a set of Trues -/
theorem Ex.setTrue (l : List α) (g : α → D) (hne : 0 < l.length) (hh : A.handled = none) (hc : Cl w I) (hi : Ev w A env I iter dI) (itr : Itr w A dI (l.map g)) (hlen : l.length ≤ 10000)
    (turn : ∀ (B₁ : Sto) (s₁ : Shared) (C : Addr) (O : Ow) (i : Nat) (a : α), I B₁ s₁ → l[i]? = some a → ∃ E', As w A (compEnvC scope cl C env) (FrI w s₁ B₁ C [] [] [] O) target (g a) (FrI w s₁ B₁ C [] E' [] O) ∧
      Ev w A (compEnvC scope cl C env) (FrI w s₁ B₁ C [] E' [] O) elt (.bool true)) (a1 : As w A env I e1 (.bool true) I')
    (hclos : closureFor scope env = pure cl := by rfl) (hcell : ∀ y ∈ scope.names, y.2 ≠ .cell := by decide) (hkind : scope.kind = .function := by rfl)
    (hnames : ∀ y ∈ scope.names, y.2 = .local → scope.names.lookup y.1 = some .local := by decide) (hs : ∀ x, foldedSetIterable iter env x = pure x := by intro _; rfl)
    (hae : assignEach [e1] env = [(false, assign e1 env)] := by rfl) (hss : swapsWithSole [.Tuple [e1] kk tpos] (.SetComp elt [⟨target, iter, [], 0⟩] scope pos) spos.line env = pure false := by rfl)
    (hw : swappedStores [.Tuple [e1] kk tpos] (.SetComp elt [⟨target, iter, [], 0⟩] scope pos) env = pure none := by rfl) :
    Ex w A env I (.Assign [.Tuple [e1] kk tpos] (.SetComp elt [⟨target, iter, [], 0⟩] scope pos) spos) (On I') := by
  intro B s Q X i k
  refine Assign_Tuple ?_ hss hw
  rw [arm_eval_SetComp]
  refine setcomp_core l g hne hc hi itr hlen turn i (fun B1 s1 C Dd B' s' g1 i1 F' => ?_) hclos hcell hkind hnames hs
  obtain ⟨m, hm, _⟩ := F'.loc
  refine ⟨m, hm, fun h' hsb => ?_⟩
  have hS0 : s'.heap.get? Dd = some (setO1 (!w.params.followText "set-order")) := by
    have : s'.heap.get? Dd = some (stO w l.length) := F'.own
    rw [this]
    cases hl : l.length with
    | zero => omega
    | succ n => rfl
  have hDC : Dd ≠ C := (F'.fpo Dd (.head _)).2.2.1
  have hS : h'.get? Dd = some (setO1 (!w.params.followText "set-order")) := (hsb.2 Dd hDC).trans hS0
  have gd := F'.done
  have gr : Grow B s B' { s' with heap := h' } := by
    refine ⟨ktrans g1.kp ?_, g1.le.trans gd.le, fun b o e => (hsb.2 b (fun q => by rw [q, F'.nL] at e; cases e)).trans (gd.sub b o e), fun b o e => ?_, Nat.le_trans g1.tk gd.tk⟩
    · obtain ⟨hx, tkx, rfl, kx⟩ := gd.kp
      exact ⟨h', tkx, rfl, fun b o e => (hsb.2 b (fun q => by rw [q, F'.fresh] at e; cases e)).trans (kx b o e)⟩
    · rcases gd.new b o e with e' | e'
      · exact g1.new b o e'
      · exact .inr (none_back g1.kp e')
  show wpAny (MM w) A (assign (.Tuple [e1] kk tpos) env (.ref Dd)) _ _ _
  rw [arm_assign_Tuple]
  refine wpAny_bind (wpAny_standAt ?_)
  unfold unpack
  rw [hae]
  refine wpAny_bind (wpAny_holding ?_)
  show wpAny (MM w) A (unpackItems (.ref Dd) 1 none) _ _ _
  have i2 := hc.grow i gr
  refine wpAny_with_toks (Nat.le_refl _) (unpack_true hh hS fun s2 kp2 tk2 => ?_)
  refine wpAny_assignInOrder_more (a1 B' s2 _ _ _ (hc.grow i2 (.of_keeps (hc.sub i2) kp2 tk2)) (.bool true) fun B3 s3 i3 le3 => ?_)
  exact wpAny_assignInOrder_none (k _ _ B3 s3 .next i3 (gr.le.trans le3))
end
end Mine
end
section
open PySem PySem.W PySem.Spec PySem.Calls PyProof.Rows
open PySem.Builtin PySem.Builtin.Str
set_option maxRecDepth 100000
namespace Mine

/-! texts: split, join, replace -/
theorem VAll.ofStrs {B : Sto} : ∀ (l : List (Str × Tok)), VAll B (strValues l) ((l.map (·.1)).map .str)
  | [] => .nil
  | (x, t) :: l => .cons (.str x t) (VAll.ofStrs l)
theorem VAll.asStrs {B : Sto} : ∀ {vs : List Value} {ps : List Str}, VAll B vs (ps.map .str) → ∃ l, vs = strValues l ∧ l.map (·.1) = ps
  | _, [], .nil => ⟨[], rfl, rfl⟩
  | _, p :: ps, .cons h r => by
    obtain ⟨t, rfl⟩ := h.inv_str
    obtain ⟨l, rfl, e⟩ := VAll.asStrs (ps := ps) r
    exact ⟨(p, t) :: l, rfl, by rw [List.map_cons, e]⟩
section
variable {w : World} {A : Around}
theorem Blt.split {x y : Str} (hy : (y.length == 0) = false) (hx : x.length ≤ 100000) : Blt w A (.builtin "str.split") [.str x, .str y] (sL (Txt.split x y)) := by
  intro B s vs Q E g sb h k
  cases h with | cons h1 h => cases h with | cons h2 h =>
    cases h
    obtain ⟨t, rfl⟩ := h1.inv_str; obtain ⟨u, rfl⟩ := h2.inv_str
    have hsl : sizeLine = 16777216 := by decide
    have fin : ∀ (l : List (Str × Tok)) (tk : Nat), l.map (·.1) = Txt.split x y → Q (.ref s.heap.objs.size) { s with toks := tk, heap := s.heap.push { cls := .type "list", data := .seq (strValues l).toArray } } := fun l tk e => by
      have gr : Grow0 B s (put B s.heap.objs.size (lstObj (strValues l) 0)) { s with toks := tk, heap := s.heap.push { cls := .type "list", data := .seq (strValues l).toArray } } :=
        .alloc sb ⟨_, tk, rfl, fun _ _ e => Heap.get?_push_of_some _ e⟩ (fresh_size _) (Heap.get?_push_size _ rfl)
      exact k _ _ _ gr (.lst (put_self _ _ _) (e ▸ VAll.ofStrs l))
    have hsz2 : (partsBetween x (occurrences x y 0 x.length (x.length + 1)) y.length).length ≤ sizeLine := by
      rw [length_partsBetween]
      have := StrLaws.occ_length_le x y 0 x.length (x.length + 1)
      omega
    cases h1 : (decide (x.length < y.length) || decide (strKind x < strKind y))
    · cases hf : (occurrences x y 0 x.length (x.length + 1)).isEmpty
      · refine call_meets PySem.F.slot_str_split (typeIs_str _ _ _) PySem.F.entry_str_split (PySem.F.args_str_split_2 _ _) (meets_str_split_sep x y t u h1 hy hf (by omega) hsz2) ?_
        show wants Q E _ { s with toks := _, heap := s.heap.push { cls := .type "list", data := .seq (strsFrom s.toks (partsBetween x (occurrences x y 0 x.length (x.length + 1)) y.length)).toArray } }
        rw [strsFrom_eq]
        exact fin _ _ ((numbered_texts _ _).trans ((if_neg (ne_true_of_eq_false h1)).trans (if_neg (ne_true_of_eq_false hf))).symm)
      · exact call_meets PySem.F.slot_str_split (typeIs_str _ _ _) PySem.F.entry_str_split (PySem.F.args_str_split_2 _ _) (meets_str_split_not_found x y t u h1 hy hf)
          (fin [(x, t)] s.toks ((if_neg (ne_true_of_eq_false h1)).trans (if_pos hf)).symm)
    · exact call_meets PySem.F.slot_str_split (typeIs_str _ _ _) PySem.F.entry_str_split (PySem.F.args_str_split_2 _ _) (meets_str_split_cannot_occur x y t u h1)
        (fin [(x, t)] s.toks (if_pos h1).symm)
theorem Blt.join {x : Str} {ps : List Str} (hok : JoinOk x ps = true) : Blt w A (.builtin "str.join") [.str x, sL ps] (.str (Txt.join x ps)) := by
  intro B s vs Q E g sb h k
  cases h with | cons h1 h => cases h with | cons h2 h =>
    cases h
    obtain ⟨t, rfl⟩ := h1.inv_str
    obtain ⟨a, us, n, rfl, ha, hus⟩ := h2.inv_lst
    obtain ⟨l, rfl, e⟩ := hus.asStrs
    exact SC.join (isList_of (sb _ _ ha)) e hok fun t' tk => k _ B _ (.toks sb) (.str _ _)
theorem Tru.tup {ds : List D} (hsz : ds.length ≤ 100000) : Tru w A (.tup ds) (!ds.isEmpty) := by
  intro B s v Q E g sb hv k
  obtain ⟨a, vs, n, rfl, ha, hvs⟩ := hv.inv_tup
  refine ktl_truthy (sb _ _ ha) (by rw [List.size_toArray, hvs.length]; omega) ?_
  have e : vs.toArray.isEmpty = ds.isEmpty := by
    rw [List.isEmpty_toArray]
    cases hvs <;> rfl
  rw [e]
  exact k _ ⟨s.heap, _, rfl, fun _ _ e => e⟩
end
section
variable {w : World} {A : Around} {env : Env} {I : Sto → Shared → Prop} {o : Expr} {apos p1 p2 pos : Pos} {x y z : Str} {k1 k2 : Nat} {pl : Sem Bool}
/-- replace by two written texts -/
theorem Ev.replace (hc : Cl w I) (h : Ev w A env I o (.str x)) (hyz : (y == z) = false) (hx : x.length ≤ 100000) (hz : z.length ≤ 14) (h0 : ∀ {B s}, I B s → 0 < s.toks)
    (hs : starEach [.Constant (.str y) k1 p1, .Constant (.str z) k2 p2] env = (false, eval (.Constant (.str y) k1 p1) env) :: starEach [.Constant (.str z) k2 p2] env := by rfl)
    (hs2 : starEach [.Constant (.str z) k2 p2] env = (false, eval (.Constant (.str z) k2 p2) env) :: starEach [] env := by rfl)
    (he : eval (.Call (.Attribute o "replace" apos) [.Constant (.str y) k1 p1, .Constant (.str z) k2 p2] [] pos) env = (do
      let ov ← eval o env
      standAt apos.atName
      let (f, first) ← holding [ov] (getMethod ov "replace" pl)
      callWith pos f first (backTo pos (starEach [.Constant (.str y) k1 p1, .Constant (.str z) k2 p2] env)) []) := by rfl) :
    Ev w A env I (.Call (.Attribute o "replace" apos) [.Constant (.str y) k1 p1, .Constant (.str z) k2 p2] [] pos) (.str (Txt.replace x y z)) := by
  intro B s Q E i k
  refine MethodCall_ (pl := pl) (h B s _ _ i fun v B1 s1 g1 hv => GetM.replace (w := w) (A := A) B1 s1 v pl _ _ g1.sub hv ?_) he
  have hst : ((backTo pos (starEach [.Constant (.str y) k1 p1, .Constant (.str z) k2 p2] env)).any (·.1)) = false := by rw [hs, hs2]; rfl
  refine Calls.callWith_builtin hst (evalArgs_any hst (args_cons (Constant_str (args_cons (Constant_str (args_nil ?_)) hs2)) hs))
  obtain ⟨t, rfl⟩ := hv.inv_str
  have i1 := hc.grow i g1
  have htk := h0 i1
  have g2 : Grow B1 s1 B1 { s1 with toks := s1.toks + 1 + 1 } := .toks (hc.sub i1) (by omega)
  refine wpAny_with_toks (Nat.le_refl _) (SC.replaceW (u := s1.toks) (v := s1.toks + 1) (Nat.ne_of_gt htk) (Nat.succ_ne_zero _) (Nat.succ_ne_self _).symm hyz (by omega) hz fun t' tk htk' => ?_)
  exact k _ B1 _ (g1.trans (.toks (hc.sub i1) (by have : s1.toks + 1 + 1 ≤ tk := htk'; omega))) (.str _ _)
end
/-- a cell's name, in the frame or in a comprehension of it -/
theorem Ev.celE {w : World} {A : Around} {env : Env} {s₁ : Shared} {B₁ : Sto} {C : Addr} {E' : List (Str × D)} {O : Ow} {x : Str} {pos : Pos} {c : Addr} {d : D}
    (F : Cel c d B₁ s₁) (hcl : env.cells.lookup x = some c := by rfl) (hk : env.scope.kind = .function := by rfl) (hl : env.kindOf x = some .cell := by rfl) (hd : (x == ("__debug__" : Str)) = false := by decide) :
    Ev w A env (FrI w s₁ B₁ C [] E' [] O) (.Name x pos) d := by
  refine Ev.cell FrI.clo (fun B s G => ?_) hk hl hd
  obtain ⟨o, u, h3, h4, h6⟩ := F
  exact ⟨c, u, hcl, ⟨o, kheap G.kp _ _ h3, h4⟩, h6.mono G.le⟩
section
variable {w : World} {A : Around} {env : Env} {s₀ : Shared} {B₀ : Sto} {L : Addr} {cl : List (Str × Addr)} {E C : List (Str × D)} {O : Ow} {J : Fl → Sto → Shared → Prop}
theorem Exs.weakF (E' C' : List (Str × D)) {ss : List Stmt} (hE : Wk E' E) (hC : Wk C' C) (x : Exs w A env (FrI w s₀ B₀ L cl E' C' O) ss J) : Exs w A env (FrI w s₀ B₀ L cl E C O) ss J := .pre' (fun B s F => F.weak hE hC) x
theorem Exs.nilF {E' C' : List (Str × D)} (hE : Wk E' E) (hC : Wk C' C) : Exs w A env (FrI w s₀ B₀ L cl E C O) [] (On (FrI w s₀ B₀ L cl E' C' O)) := .nil fun B s F => F.weak hE hC
theorem Exs.if2F (E' C' : List (Str × D)) {test : Expr} {body orelse rest : List Stmt} {pos : Pos} {b : Bool} (t : Tr w A env (FrI w s₀ B₀ L cl E C O) test b) (h1 : b = true → Exs w A env (FrI w s₀ B₀ L cl E C O) body (On (FrI w s₀ B₀ L cl E' C' O)))
    (h2 : b = false → Exs w A env (FrI w s₀ B₀ L cl E C O) orelse (On (FrI w s₀ B₀ L cl E' C' O))) (h : Exs w A env (FrI w s₀ B₀ L cl E' C' O) rest J) : Exs w A env (FrI w s₀ B₀ L cl E C O) (.If test body orelse pos :: rest) J :=
  .if2 FrI.clo t h1 h2 h
end
/-- a def with cells: the list of its cells has a name -/
theorem Fn.introL {w : World} {k : Nat} {f : Addr} {args : List D} {d : D} {name qual : Str} {params : Arguments} {body : List Stmt} {scope : Scope} {dV kV doc pm cdv ct oc : Value} {an od : Option Addr} {osl : Array (Option Value)} (ns : List Str)
    (ho : (KK w).lookup f = some ⟨oc, od, .func (fnOf name qual params body scope dV kV doc pm an cdv ct), osl⟩) (hcd : codeIn (KK w) cdv qual = true)
    (hb : ∀ vs : List Value, vs.length = args.length → bindArgs (fnOf name qual params body scope dV kV doc pm an cdv ct) ⟨vs, []⟩ = pure (ns.zip vs)) (hnd : ns.Nodup) (hlen : ns.length = args.length)
    (hkind : (ns.all fun y => scope.names.lookup y == some .local || scope.names.lookup y == some .cell) = true)
    (h : ∀ (A : Around) (s₀ : Shared) (B₀ : Sto) (L : Addr), let cl := cellsOf L scope; Rm k A → Exs w A (envOfC qual scope L f cdv) (FrI w s₀ B₀ L cl (kindOnly scope .local (ns.zip args)) (kindOnly scope .cell (ns.zip args)) Ow.nil) body (Done d s₀ B₀))
    (hco : scope.isCoroutine = false := by rfl) (hgen : scope.isGenerator = false := by rfl) (hk : scope.kind = .function := by rfl) : Fn w (k + 1) f args d :=
  Fn.introC ns ho hcd hb hnd hlen hkind h hco hgen hk
end Mine
end
section
open PySem PySem.W PySem.Spec PySem.Calls PyProof.Rows
set_option maxRecDepth 100000
namespace Mine

/-! commonpath of two absolute paths -/
abbrev slash : Str := Str.ofString "/"
def comps (x : Str) : List Str := (Txt.split x slash).filter fun c => (c.length != 0) && (c != Str.ofString ".")
def pre : List Str → List Str → List Str
  | a :: as, b :: bs => if a = b then a :: pre as bs else []
  | _, _ => []
def loOf (a b : List Str) : List Str := if lexLt b a then b else a
def hiOf (a b : List Str) : List Str := if lexGt b a then b else a
def cp (p q : Str) : Str := slash ++ Txt.join slash (pre (loOf (comps p) (comps q)) (hiOf (comps p) (comps q)))
theorem lex_long : ∀ {xs ys : List Str}, lexLt xs ys = true → ∀ i, xs.take i = ys.take i → i < xs.length → i < ys.length
  | [], _, _, i, _, h => by simp at h
  | _ :: _, [], h, _, _, _ => by simp [lexLt] at h
  | p :: ps, q :: qs, h, 0, _, _ => by simp
  | p :: ps, q :: qs, h, i + 1, e, hl => by
    rw [List.take_succ_cons, List.take_succ_cons] at e
    injection e with e1 e2
    subst e1
    have h' : lexLt ps qs = true := by simpa [lexLt] using h
    have := lex_long h' i e2 (by simpa using hl)
    simp only [List.length_cons]; omega
theorem lohi (a b : List Str) : loOf a b = hiOf a b ∨ lexLt (loOf a b) (hiOf a b) = true := by
  unfold loOf hiOf lexGt
  cases h1 : lexLt b a <;> cases h2 : lexLt a b <;> simp [h1, h2]
theorem lohi_long (a b : List Str) (i : Nat) (e : (loOf a b).take i = (hiOf a b).take i) (h : i < (loOf a b).length) : i < (hiOf a b).length := by
  rcases lohi a b with q | q
  · rw [← q]; exact h
  · exact lex_long q i e h
theorem pre_cut : ∀ {xs ys : List Str} {i : Nat} {a b : Str}, xs.take i = ys.take i → xs[i]? = some a → ys[i]? = some b → a ≠ b → pre xs ys = xs.take i
  | x :: xs, y :: ys, 0, a, b, _, ha, hb, hn => by
    simp at ha hb; subst ha hb
    simp [pre, hn]
  | x :: xs, y :: ys, i + 1, a, b, e, ha, hb, hn => by
    rw [List.take_succ_cons, List.take_succ_cons] at e
    injection e with e1 e2
    subst e1
    have := pre_cut e2 (by simpa using ha) (by simpa using hb) hn
    simp [pre, this]
  | [], _, _, _, _, _, ha, _, _ => by simp at ha
  | _ :: _, [], _, _, _, _, _, hb, _ => by simp at hb
theorem pre_all : ∀ {xs ys : List Str}, xs = ys.take xs.length → pre xs ys = xs
  | [], _, _ => by simp [pre]
  | x :: xs, [], e => by simp at e
  | x :: xs, y :: ys, e => by
    rw [List.length_cons, List.take_succ_cons] at e
    injection e with e1 e2
    subst e1
    simp [pre, pre_all e2]
structure CpOk (p q : Str) : Prop where
  lp : p.length ≤ 1000
  lq : q.length ≤ 1000
  sp : Txt.startswith p slash = true
  sq : Txt.startswith q slash = true
  np : (Txt.split p slash).length ≤ 1000
  nq : (Txt.split q slash).length ≤ 1000
  cp : ∀ c ∈ Txt.split p slash, c.length ≤ 1000
  cq : ∀ c ∈ Txt.split q slash, c.length ≤ 1000
  jo : JoinOk slash (pre (loOf (comps p) (comps q)) (hiOf (comps p) (comps q))) = true
  jl : (Txt.join slash (pre (loOf (comps p) (comps q)) (hiOf (comps p) (comps q)))).length ≤ 1000
theorem slash_ne : (slash.length == 0) = false := by decide
set_option maxHeartbeats 8000000 in
theorem common_fn (w : World) (p q : Str) (ok : CpOk p q) : Fn w 9 156 [.lst [.str p, .str q]] (.str (cp p q)) := by
  have hsl : sizeLine = 16777216 := by decide
  refine Fn.introL [Str.ofString "paths"] rfl (by kernel_rfl) (fun vs h => ?_) (by decide) rfl (by decide) ?_
  · match vs, h with
    | [v], _ => rfl
  · intro A s₀ B₀ L cl rm
    have mem2 : ∀ {i : Nat} {a : Str}, [p, q][i]? = some a → a = p ∨ a = q := fun {i a} h => by
      have := List.mem_of_getElem? h
      simpa using this
    refine .on (.setL (.tupMap (ps := [p, q]) FrI.clo rm (.blt FrI.clo (nb_tuple w) bb_tuple) (.blt FrI.clo (nb_map w) bb_map) (.glob FrI.clo (gl_fspath w)) (.locF rfl) (show 2 ≤ sizeLine by decide))) ?_
    refine .if1 FrI.clo (.not (.val FrI.clo (.locF rfl) (.tup (show 2 ≤ 100000 by decide)))) (fun h => by simp at h) (fun _ => ?_)
    refine .if2F [(Str.ofString "paths", .tup ([p, q].map .str))] [(Str.ofString "curdir", .str (Str.ofString ".")), (Str.ofString "sep", .str slash)]
      (.val FrI.clo (.bltCall FrI.clo (.blt FrI.clo (nb_isinstance w) bb_isinstance) (.cons FrI.clo (.itm FrI.clo (.locF rfl) (.cint FrI.clo) (.tup (by decide) (by decide) rfl)) (.cons FrI.clo (.blt FrI.clo (nb_bytes w) bb_bytes) (.nil FrI.clo))) (.isbytes rm)) .bool) (fun h => nomatch h) (fun _ => ?_) ?_
    · refine .on (.setC (.cstr FrI.clo) rfl (cells_inj rfl)) ?_
      exact .on (.setC (.cstr FrI.clo) rfl (cells_inj rfl)) (.nilF (.cons rfl .nil) (.cons rfl (.cons rfl .nil)))
    · refine .cons (J' := NoNext (Done (.str (cp p q)) s₀ B₀)) (.tryE ?_) (fun B s Q X i => (i.1 rfl).elim) (fun fl B s _ j => j.2)
      refine .on (.setComp (cl := [(Str.ofString "sep", L + 1)]) (l := [p, q]) (g := .str) (p := fun _ => true) (f := fun x => sL (Txt.split x slash)) (.locF rfl) (.tup rm.hd) (show 2 ≤ 10000 by decide) (fun B1 s1 Cc Oo i a F hi => ⟨_, .loc, .nil FrI.clo, fun _ => .meth FrI.clo (.locF rfl) .split (.cons FrI.clo (.celE (F.celOf (Str.ofString "sep") rfl rfl)) (.nil FrI.clo)) (.split slash_ne ?_)⟩)) ?_
      · have := ok.lp; have := ok.lq
        rcases mem2 hi with rfl | rfl <;> omega
      refine .on (.tryE (.on (.setTrue (cl := [(Str.ofString "sep", L + 1)]) [p, q] .str (show 0 < 2 by decide) rm.hd FrI.clo (.locF rfl) (.tup rm.hd) (show 2 ≤ 10000 by decide) (fun B1 s1 Cc Oo i a F hi => ⟨_, .loc, .cast (.meth FrI.clo (.locF rfl) .startswith (.cons FrI.clo (.celE (F.celOf (Str.ofString "sep") rfl rfl)) (.nil FrI.clo)) .startswith) ?_⟩) .loc) (.nil fun B s F => F))) ?_
      · rcases mem2 hi with rfl | rfl
        · rw [ok.sp]
        · rw [ok.sq]
      refine .weakF [(Str.ofString "isabs", .bool true), (Str.ofString "split_paths", .lst [sL (Txt.split p slash), sL (Txt.split q slash)])] [(Str.ofString "curdir", .str (Str.ofString ".")), (Str.ofString "sep", .str slash)] (.cons rfl (.cons rfl .nil)) (.cons rfl (.cons rfl .nil)) ?_
      have okl : ∀ {i : Nat} {a : List Str}, [Txt.split p slash, Txt.split q slash][i]? = some a → a.length ≤ 1000 ∧ ∀ c ∈ a, c.length ≤ 1000 := fun {i a} h => by
        have := List.mem_of_getElem? h
        simp at this
        rcases this with rfl | rfl
        · exact ⟨ok.np, ok.cp⟩
        · exact ⟨ok.nq, ok.cq⟩
      refine .on (.setComp (cl := [(Str.ofString "curdir", L + 1 + 1)]) (l := [Txt.split p slash, Txt.split q slash]) (g := sL) (p := fun _ => true) (f := fun x => .lst ((x.filter fun c => (c.length != 0) && (c != Str.ofString ".")).map .str)) (.locF rfl) (.lst rm.hd) (show 2 ≤ 10000 by decide) (fun B1 s1 Cc Oo i a F hi => ⟨_, .loc, .nil FrI.clo, fun _ => ?_⟩)) ?_
      · have oka := okl hi
        refine .comp (cl := [(Str.ofString "curdir", L + 1 + 1)]) (l := a) (g := .str) (p := fun c => (c.length != 0) && (c != Str.ofString ".")) (f := .str) FrI.clo (.locF rfl) (.lst rm.hd) (by omega) (fun B2 s2 C2 O2 j c G hj => ⟨_, .loc, .one (.and FrI.clo (.val FrI.clo (.locF rfl) (.str ?_)) fun _ => .cmp FrI.clo (.locF rfl) (.celE ((F.celOf (Str.ofString "curdir") rfl rfl).grow G.done)) .neS), fun _ => .locF rfl⟩)
        have := oka.2 c (List.mem_of_getElem? hj)
        omega
      refine .weakF [(Str.ofString "isabs", .bool true), (Str.ofString "split_paths", .lst [sL (comps p), sL (comps q)])] [(Str.ofString "sep", .str slash)] (.cons rfl (.cons rfl .nil)) (.cons rfl .nil) ?_
      refine .on (.setL (.bltCall FrI.clo (.blt FrI.clo (nb_min w) bb_min) (.cons FrI.clo (.locF rfl) (.nil FrI.clo)) (.min2 rm))) ?_
      refine .on (.setL (.bltCall FrI.clo (.blt FrI.clo (nb_max w) bb_max) (.cons FrI.clo (.locF rfl) (.nil FrI.clo)) (.max2 rm))) ?_
      have e1 : (if lexLt (comps q) (comps p) then sL (comps q) else sL (comps p)) = sL (loOf (comps p) (comps q)) := by unfold loOf; split <;> rfl
      have e2 : (if lexGt (comps q) (comps p) then sL (comps q) else sL (comps p)) = sL (hiOf (comps p) (comps q)) := by unfold hiOf; split <;> rfl
      rw [e1, e2]
      have hlong := lohi_long (comps p) (comps q)
      have hlo : (loOf (comps p) (comps q)).length ≤ 1000 := by
        have h1 : (comps p).length ≤ 1000 := Nat.le_trans (List.length_filter_le _ _) ok.np
        have h2 : (comps q).length ≤ 1000 := Nat.le_trans (List.length_filter_le _ _) ok.nq
        unfold loOf; split
        · exact h2
        · exact h1
      have hjo := ok.jo
      have hjl := ok.jl
      have hcp : cp p q = slash ++ Txt.join slash (pre (loOf (comps p) (comps q)) (hiOf (comps p) (comps q))) := rfl
      rw [hcp]
      generalize loOf (comps p) (comps q) = s1 at *
      generalize hiOf (comps p) (comps q) = s2 at *
      refine .on (.setL (.locF rfl)) ?_
      refine .weakF [(Str.ofString "common", sL s1), (Str.ofString "s1", sL s1), (Str.ofString "s2", sL s2), (Str.ofString "isabs", .bool true)] [(Str.ofString "sep", .str slash)] (.cons rfl (.cons rfl (.cons rfl (.cons rfl .nil)))) (.cons rfl .nil) ?_
      refine .cons (Ex.forEn (If := FrI w s₀ B₀ L cl [(Str.ofString "common", sL (pre s1 s2)), (Str.ofString "isabs", .bool true)] [(Str.ofString "sep", .str slash)] Ow.nil) (Jr := fun _ _ _ => False) (ds := s1.map .str)
        (fun _ => [(Str.ofString "common", sL s1), (Str.ofString "s1", sL s1), (Str.ofString "s2", sL s2), (Str.ofString "isabs", .bool true)]) (fun _ => [(Str.ofString "sep", .str slash)]) (fun i O => O = Ow.nil ∧ s1.take i = s2.take i) rm.hd ⟨rfl, rfl⟩ (.blt FrI.clo (nb_enumerate w) bb_enumerate) (.locF rfl) ?_ ?_) ?_ (fun fl B s hn j => by cases fl <;> first | exact (hn rfl).elim | exact j.elim)
      · rintro i d P O hd ⟨rfl, he⟩
        obtain ⟨c, hc, rfl⟩ := sL_get hd
        have hi : i < s1.length := (List.getElem?_eq_some_iff.mp hc).1
        have hi2 := hlong i he hi
        obtain ⟨b, hb⟩ : ∃ b, s2[i]? = some b := ⟨_, List.getElem?_eq_getElem hi2⟩
        refine ⟨_, .two FrI.clo (.tup rm.hd) .loc .loc, ?_⟩
        refine .cons (J' := fun fl B s => match fl with
          | .next => c = b ∧ FrI w s₀ B₀ L cl [(Str.ofString "common", sL s1), (Str.ofString "s1", sL s1), (Str.ofString "s2", sL s2), (Str.ofString "isabs", .bool true)] [(Str.ofString "sep", .str slash)] (P.and Ow.nil) B s
          | .brk => FrI w s₀ B₀ L cl [(Str.ofString "common", sL (pre s1 s2)), (Str.ofString "isabs", .bool true)] [(Str.ofString "sep", .str slash)] (P.and Ow.nil) B s
          | _ => False) (.If (b := c != b) FrI.clo (.cmp FrI.clo (.locF rfl) (.itm FrI.clo (.locF rfl) (.locF rfl) (.lst (by omega) (by omega) (by rw [Int.toNat_natCast, List.getElem?_map, hb]; rfl))) .neS) ?_) ?_ ?_
        · cases hcb : c != b with
          | true =>
            refine .on (.setL (.slice FrI.clo (.locF rfl) (.none FrI.clo) (.some (.locF rfl)) (.none FrI.clo) (by intro h; cases h) (by rw [List.length_map]; omega))) (.cons (.brk fun B s F => ?_) (.nil fun B s h => h) fun fl B s hn j => j)
            refine F.weak (.cons ?_ (.cons rfl .nil)) (.cons rfl .nil)
            rw [pickL_upto, pre_cut he hc hb (by simpa using hcb), ← List.map_take]
            rfl
          | false => exact .nil fun B s F => ⟨by simpa using hcb, F.weak (.cons rfl (.cons rfl (.cons rfl (.cons rfl .nil)))) (.cons rfl .nil)⟩
        · exact .nil fun B s ⟨h1, F⟩ => ⟨Ow.nil, ⟨rfl, by rw [List.take_add_one, List.take_add_one, he, hc, hb, h1]⟩, F⟩
        · intro fl B s hn j
          cases fl with
          | next => exact (hn rfl).elim
          | brk => exact ⟨_, _, _, j, fun F => F⟩
          | cont => exact j.elim
          | ret d => exact j.elim
      · rintro O B s ⟨rfl, he⟩ F
        rw [List.length_map] at he
        have e : pre s1 s2 = s1 := pre_all (by rw [← he, List.take_length])
        rw [e]
        exact F.weak (.cons rfl (.cons rfl .nil)) (.cons rfl .nil)
      · refine .on (.setL (.ite (b := true) FrI.clo (.val FrI.clo (.locF rfl) .bool) (.celF (d := .str slash) rfl))) ?_
        refine .ret FrI.clo (.bin FrI.clo (.locF rfl) (.meth FrI.clo (.celF (d := .str slash) rfl) .join (.cons FrI.clo (.locF rfl) (.nil FrI.clo)) (.join hjo)) (.addS (by rw [slash_len]; omega))) fun B s F => ⟨(by intro q; cases q), rfl, F.done⟩
end Mine
end
section
open PySem PySem.W PySem.Spec PySem.Calls PyProof.Rows
set_option maxRecDepth 100000
namespace Mine

/-! lists of the frame's own, more -/
def Ow.fact (g : Addr) (o : Obj) : Ow := ⟨[], fun B _ => B g = some o, fun _ _ h => (nomatch h), fun e le _ _ => le _ _ e⟩
theorem Exs.ex {w : World} {A : Around} {env : Env} {α : Type} {P : α → Sto → Shared → Prop} {ss : List Stmt} {J : Fl → Sto → Shared → Prop} (h : ∀ a, Exs w A env (P a) ss J) : Exs w A env (fun B s => ∃ a, P a B s) ss J := fun B s Q X ⟨a, i⟩ k => h a B s Q X i k
theorem Exs.hyp {w : World} {A : Around} {env : Env} {p : Prop} {I : Sto → Shared → Prop} {ss : List Stmt} {J : Fl → Sto → Shared → Prop} (h : p → Exs w A env I ss J) : Exs w A env (fun B s => p ∧ I B s) ss J := fun B s Q X ⟨a, i⟩ k => h a B s Q X i k
section
variable {w : World} {A : Around} {env : Env} {s₀ s : Shared} {B₀ B : Sto} {L : Addr} {cl : List (Str × Addr)} {E C : List (Str × D)} {O P Q0 R : Ow} {x : Str} {p ap pos pos' : Pos} {d : D} {o e value slice : Expr} {a : Addr} {ds : List D}
theorem FrI.swap (F : FrI w s₀ B₀ L cl E C (P.and (Q0.and R)) B s) : FrI w s₀ B₀ L cl E C (Q0.and (P.and R)) B s := by
  have hp : List.Perm (Q0.fp ++ (P.fp ++ R.fp)) (P.fp ++ (Q0.fp ++ R.fp)) := by
    rw [← List.append_assoc, ← List.append_assoc]
    exact List.Perm.append_right _ List.perm_append_comm
  exact F.ow (fun a ha => hp.mem_iff.mp ha) (hp.nodup_iff.mpr F.nod) ⟨F.own.2.1, F.own.1, F.own.2.2⟩
theorem Ex.appE {O' : Ow} {pl : Sem Bool} (hx : Ev w A env (FrI w s₀ B₀ L cl E C O) o (.val (.ref a))) (h : Ev w A env (FrI w s₀ B₀ L cl E C O) e d) (H : Has a ds (ds ++ [d]) O O') (hsz : ds.length ≤ 10000)
    (hs : starEach [e] env = [(false, eval e env)] := by rfl) (hi : interactive env = false := by rfl) (hsw : swapsWith (.Call (.Attribute o "append" ap) [e] [] pos) none pos'.line env = pure false := by rfl)
    (he : eval (.Call (.Attribute o "append" ap) [e] [] pos) env = (do
      let ov ← eval o env
      standAt ap.atName
      let (f, first) ← holding [ov] (getMethod ov "append" pl)
      callWith pos f first (backTo pos (starEach [e] env)) []) := by rfl) :
    Ex w A env (FrI w s₀ B₀ L cl E C O) (.Expr (.Call (.Attribute o "append" ap) [e] [] pos) pos') (On (FrI w s₀ B₀ L cl E C O')) := by
  intro B s Q R F k
  refine wpAny_Expr (MethodCall_ (pl := pl) (hx B s _ _ F fun v B1 s1 g1 hv => ?_) he) hi hsw
  cases hv.inv_val
  have F1 := FrI.clo.grow F g1
  obtain ⟨vs, n, ha, hvs⟩ := H.get F1.own
  refine getMethod_builtin (T := "list") ⟨_, ha, rfl⟩ PySem.F.plainAttrs_list PySem.F.slot_list_append PySem.F.type_list_append (fun b e => by cases e; exact ⟨_, ha, rfl⟩) ?_
  have hst : ((backTo pos (starEach [e] env)).any (·.1)) = false := by rw [hs]; rfl
  refine Calls.callWith_builtin hst (evalArgs_any hst (args_cons (h B1 s1 _ _ F1 fun v2 B2 s2 g2 hv2 => args_nil ?_) (by rw [hs]; rfl)))
  exact FrI.app (FrI.clo.grow F1 g2) H hv2 hsz fun s' F' => k _ _ B2 s' .next F' (g1.le.trans g2.le)
/-- the last of an owned list -/
theorem Ev.lastO (hx : Ev w A env (FrI w s₀ B₀ L cl E C O) value (.val (.ref a))) (hi : Ev w A env (FrI w s₀ B₀ L cl E C O) slice (.int (-1))) (H : ∀ {B h}, O.X B h → ∃ vs n v, h.get? a = some (lstObj (vs ++ [v]) n) ∧ V B v d)
    (hs : ∀ o i, subscripted slice false o i = operate [o, i] (getItem o i) := by intro _ _; with_unfolding_all rfl) : Ev w A env (FrI w s₀ B₀ L cl E C O) (.Subscript value slice pos) d := by
  intro B s Q X F k
  refine Subscript_ (hx B s _ _ F fun v1 B1 s1 g1 hv1 => hi B1 s1 _ _ (FrI.clo.grow F g1) fun v2 B2 s2 g2 hv2 => ?_)
  cases hv1.inv_val
  obtain ⟨t, rfl⟩ := hv2.inv_int
  have F2 := FrI.clo.grow (FrI.clo.grow F g1) g2
  obtain ⟨vs, n, v, ha, hv⟩ := H F2.own
  have hl := isList_of ha
  refine tail_any hl.typeIs slot_list_getitem.lookup (wpAny_getItem_list_neg hl (by decide) ?_ (by decide) (x := v) ?_ (k v B2 s2 (g1.trans g2) hv)) (hs _ _)
  · simp; omega
  · have e : (-1 + ((vs ++ [v]).toArray.size : Int)).toNat = vs.length := by simp; omega
    rw [e]; simp
/-- an owned list and [] -/
theorem Tr.eqNil {m k : Nat} {lp : Pos} (r : Rm k A) (hx : Ev w A env (FrI w s₀ B₀ L cl E C O) o (.val (.ref a))) (H : ∀ {B h}, O.X B h → ∃ vs n, h.get? a = some (lstObj vs n) ∧ vs.length = m)
    (hm : behindInMarks .Eq (.List [] lp) = false := by with_unfolding_all rfl) : Tr w A env (FrI w s₀ B₀ L cl E C O) (.Compare o [.Eq] [.List [] lp] pos) (m == 0) := by
  intro B s Q X F k
  refine wpAny_isTrue_Compare1 (hx B s _ _ F fun v1 B1 s1 g1 hv1 => List_ (args_nil (wpAny_newList ?_ (by decide)))) hm
  cases hv1.inv_val
  have F1 := FrI.clo.grow F g1
  obtain ⟨vs, n, ha, hl⟩ := H F1.own
  have hla := (isList_of ha).push { cls := .type "list", data := .seq ([] : List Value).toArray }
  have hlb : (s1.heap.push { cls := .type "list", data := .seq ([] : List Value).toArray }).IsList s1.heap.objs.size #[] := ⟨_, Heap.get?_push_size _ rfl, rfl, 0, rfl⟩
  have gr : Grow B1 s1 B1 { s1 with heap := s1.heap.push { cls := .type "list", data := .seq ([] : List Value).toArray } } := .of_keeps F1.sub (keeps_push _ _) (Nat.le_refl _)
  have fin := k B1 _ (g1.trans gr)
  show wpAny _ _ (richCompare .Eq _ _) _ _ _
  cases m with
  | zero =>
    have e : vs.toArray = #[] := by rw [List.length_eq_zero_iff.mp hl]
    rw [e] at hla
    refine SeqAt.RcAt.lists (e := fun _ => true) hla hlb rfl r.units (fun j h1 _ => by simp at h1) _ _ _ _ ?_
    exact wpAny_truthy_bool fin
  | succ m =>
    refine SeqAt.RcAt.lists_lengths hla hlb (by simp [hl]) r.units _ _ _ _ ?_
    exact wpAny_truthy_bool fin
/-- a new list of a text and a new own list goes into an owned list -/
theorem Exs.appG {O' : Addr → Ow} {pl : Sem Bool} {lp lp2 : Pos} {z : Str} {ss : List Stmt} {J : Fl → Sto → Shared → Prop} (hx : Ev w A env (FrI w s₀ B₀ L cl E C O) o (.val (.ref a))) (h : Ev w A env (FrI w s₀ B₀ L cl E C O) e (.str z)) (H : ∀ g, Has a ds (ds ++ [.val (.ref g)]) O (O' g)) (hsz : ds.length ≤ 10000)
    (k : ∀ g inn t, Exs w A env (FrI w s₀ B₀ L cl E C (((Ow.own inn []).and (Ow.fact g (lstObj [.str z t, .ref inn] 0))).and (O' g))) ss J)
    (hs : starEach [.List [e, .List [] lp] lp2] env = [(false, eval (.List [e, .List [] lp] lp2) env)] := by rfl) (hs1 : starEach [e, .List [] lp] env = (false, eval e env) :: starEach [.List [] lp] env := by rfl) (hs2 : starEach [.List [] lp] env = (false, eval (.List [] lp) env) :: starEach [] env := by rfl)
    (hi : interactive env = false := by rfl) (hsw : swapsWith (.Call (.Attribute o "append" ap) [.List [e, .List [] lp] lp2] [] pos) none pos'.line env = pure false := by rfl)
    (he : eval (.Call (.Attribute o "append" ap) [.List [e, .List [] lp] lp2] [] pos) env = (do
      let ov ← eval o env
      standAt ap.atName
      let (f, first) ← holding [ov] (getMethod ov "append" pl)
      callWith pos f first (backTo pos (starEach [.List [e, .List [] lp] lp2] env)) []) := by rfl) :
    Exs w A env (FrI w s₀ B₀ L cl E C O) (.Expr (.Call (.Attribute o "append" ap) [.List [e, .List [] lp] lp2] [] pos) pos' :: ss) J := by
  intro B s Q R F kk
  refine wpAny_execs_cons (wpAny_Expr (MethodCall_ (pl := pl) (hx B s _ _ F fun v B1 s1 g1 hv => ?_) he) hi hsw)
  cases hv.inv_val
  have F1 := FrI.clo.grow F g1
  obtain ⟨vs, n, ha, hvs⟩ := (H 0).get F1.own
  refine getMethod_builtin (T := "list") ⟨_, ha, rfl⟩ PySem.F.plainAttrs_list PySem.F.slot_list_append PySem.F.type_list_append (fun b e => by cases e; exact ⟨_, ha, rfl⟩) ?_
  have hst : ((backTo pos (starEach [.List [e, .List [] lp] lp2] env)).any (·.1)) = false := by rw [hs]; rfl
  refine Calls.callWith_builtin hst (evalArgs_any hst (args_cons (List_ (args_cons (h B1 s1 _ _ F1 fun v2 B2 s2 g2 hv2 => args_cons (List_ (args_nil (wpAny_newList (args_nil (wpAny_newList (args_nil ?_) (show 2 ≤ sizeLine by decide))) (show 0 ≤ sizeLine by decide)))) hs2) hs1)) (by rw [hs]; rfl)))
  obtain ⟨t, rfl⟩ := hv2.inv_str
  have F2 := FrI.clo.grow F1 g2
  let h3 := s2.heap.push { cls := .type "list", data := .seq ([] : List Value).toArray }
  have F3 : FrI w s₀ B₀ L cl E C ((Ow.own s2.heap.objs.size []).and O) B2 { s2 with heap := h3 } :=
    F2.more (keeps_push _ _) (Nat.le_refl _) (fun b hb => by rw [List.mem_singleton.mp hb]; exact fresh_size _) (by show [_].Nodup; simp) ⟨[], 0, Heap.get?_push_size _ rfl, .nil⟩
  have g4 : Grow B2 { s2 with heap := h3 } (put B2 h3.objs.size (lstObj [.str z t, .ref s2.heap.objs.size] 0)) { s2 with heap := h3.push { cls := .type "list", data := .seq [Value.str z t, .ref s2.heap.objs.size].toArray } } := .push F3.sub rfl
  have F4 := FrI.clo.grow F3 g4
  have F5 : FrI w s₀ B₀ L cl E C (((Ow.own s2.heap.objs.size []).and (Ow.fact h3.objs.size (lstObj [.str z t, .ref s2.heap.objs.size] 0))).and O) _ _ :=
    F4.ow (fun a ha => by simpa [Ow.and, Ow.fact] using ha) (by have := F4.nod; simpa [Ow.and, Ow.fact] using this) ⟨⟨F4.own.1, put_self _ _ _⟩, F4.own.2⟩
  refine FrI.app F5 (.there (H h3.objs.size)) (.val _) hsz fun s' F' => ?_
  exact k _ _ _ _ s' _ _ F' fun f fl B' s'' hf hj le => kk f fl B' s'' hf hj (g1.le.trans (g2.le.trans (g4.le.trans le)))
end
end Mine
end
section
open PySem PySem.W PySem.Spec PySem.Calls PyProof.Rows
set_option maxRecDepth 100000
namespace Mine

/-! _law_begun -/
abbrev Grp := Str × List Int
def gD (g : Grp) : D := .lst [.str g.1, .lst (g.2.map .int)]
def head (path : Str) (size : Nat) : Str := slash ++ Txt.join slash (((Txt.split path slash).drop 1).take size)
def addLast : List Grp → Int → List Grp
  | [], _ => []
  | [g], i => [(g.1, g.2 ++ [i])]
  | g :: h :: gs, i => g :: addLast (h :: gs) i
def bStep (size : Nat) (gs : List Grp) (e : Str × Int) (sh : Int) : List Grp :=
  if depth e.1 ≥ size then addLast (if sh < size ∨ gs = [] then gs ++ [(head e.1 size, [])] else gs) e.2 else gs
def bAll (size : Nat) : List (Str × Int) → List Int → List Grp → List Grp
  | e :: es, sh :: shs, gs => bAll size es shs (bStep size gs e sh)
  | _, _, gs => gs
def bKeep (size : Nat) (g : Grp) : Bool := decide ((size : Int) = 1) || (Txt.slice g.1 (some (-3)) none != Str.ofString "/77")
def begun (ends : List (Str × Int)) (shared : List Int) (size : Nat) : List Grp := (bAll size ends shared []).filter (bKeep size)
theorem addLast_snoc : ∀ (gs : List Grp) (x : Str) (os : List Int) (i : Int), addLast (gs ++ [(x, os)]) i = gs ++ [(x, os ++ [i])]
  | [], _, _, _ => rfl
  | [g], _, _, _ => rfl
  | g :: h :: gs, x, os, i => by
    have := addLast_snoc (h :: gs) x os i
    simp only [List.cons_append] at this ⊢
    rw [addLast, this]
theorem bAll_take (size : Nat) : ∀ (es : List (Str × Int)) (shs : List Int) (gs : List Grp) (i : Nat) (e : Str × Int) (sh : Int), es[i]? = some e → shs[i]? = some sh →
    bAll size (es.take (i + 1)) shs gs = bStep size (bAll size (es.take i) shs gs) e sh
  | e0 :: es, s0 :: shs, gs, 0, e, sh, h1, h2 => by
    simp at h1 h2; subst h1 h2; simp [bAll]
  | e0 :: es, s0 :: shs, gs, i + 1, e, sh, h1, h2 => by
    have := bAll_take size es shs (bStep size gs e0 s0) i e sh (by simpa using h1) (by simpa using h2)
    simpa [bAll] using this
  | [], _, _, _, _, _, h1, _ => by simp at h1
  | _ :: _, [], _, _, _, _, _, h2 => by simp at h2
structure GB (i : Nat) (gs : List Grp) : Prop where
  len : gs.length ≤ i
  all : ∀ g ∈ gs, g.2.length ≤ i ∧ g.1.length ≤ 100000
theorem addLast_len : ∀ (gs : List Grp) (i : Int), (addLast gs i).length = gs.length
  | [], _ => rfl
  | [g], _ => rfl
  | g :: h :: gs, i => by rw [addLast, List.length_cons, addLast_len (h :: gs) i]; rfl
theorem addLast_mem : ∀ (gs : List Grp) (i : Int), ∀ g ∈ addLast gs i, ∃ g' ∈ gs, g.1 = g'.1 ∧ g.2.length ≤ g'.2.length + 1
  | [], _, g, h => nomatch h
  | [g0], _, g, h => by
    rw [addLast, List.mem_singleton] at h
    subst h
    exact ⟨g0, .head _, rfl, by simp⟩
  | g0 :: h0 :: gs, i, g, h => by
    rw [addLast] at h
    rcases List.mem_cons.mp h with rfl | h
    · exact ⟨g, .head _, rfl, Nat.le_succ _⟩
    · obtain ⟨g', h1, h2, h3⟩ := addLast_mem (h0 :: gs) i g h
      exact ⟨g', .tail _ h1, h2, h3⟩
theorem GB.step {i size : Nat} {gs : List Grp} {e : Str × Int} {sh : Int} (h : GB i gs) (hh : (head e.1 size).length ≤ 100000) : GB (i + 1) (bStep size gs e sh) := by
  have h1 : GB (i + 1) gs := ⟨Nat.le_succ_of_le h.len, fun g hg => ⟨Nat.le_succ_of_le (h.all g hg).1, (h.all g hg).2⟩⟩
  unfold bStep
  split
  · have key : (if sh < size ∨ gs = [] then gs ++ [(head e.1 size, [])] else gs).length ≤ i + 1 ∧ ∀ g ∈ (if sh < size ∨ gs = [] then gs ++ [(head e.1 size, [])] else gs), g.2.length ≤ i ∧ g.1.length ≤ 100000 := by
      split
      · refine ⟨by simpa using h.len, fun g hg => ?_⟩
        rcases List.mem_append.mp hg with hg | hg
        · exact h.all g hg
        · rw [List.mem_singleton] at hg; subst hg; exact ⟨Nat.zero_le _, hh⟩
      · exact ⟨h1.len, h.all⟩
    refine ⟨by rw [addLast_len]; exact key.1, fun g hg => ?_⟩
    obtain ⟨g', m1, m2, m3⟩ := addLast_mem _ _ g hg
    have := key.2 g' m1
    exact ⟨by omega, by rw [m2]; exact this.2⟩
  · exact h1
theorem GB.all_ (size : Nat) : ∀ (es : List (Str × Int)) (shs : List Int) (gs : List Grp) (i : Nat), GB i gs → (∀ e ∈ es, (head e.1 size).length ≤ 100000) → GB (i + es.length) (bAll size es shs gs)
  | [], _, _, _, h, _ => by rw [bAll]; exact h; intros; simp_all
  | e :: es, [], gs, i, h, _ => by
    rw [bAll]
    · exact ⟨Nat.le_trans h.len (Nat.le_add_right _ _), fun g hg => ⟨Nat.le_trans (h.all g hg).1 (Nat.le_add_right _ _), (h.all g hg).2⟩⟩
    · intros; simp_all
  | e :: es, sh :: shs, gs, i, h, he => by
    have := GB.all_ size es shs _ (i + 1) (h.step (sh := sh) (he e (.head _))) fun e' h' => he e' (.tail _ h')
    rw [bAll, List.length_cons, show i + (es.length + 1) = i + 1 + es.length by omega]
    exact this

/-! the groups while they are built -/
def GrpO (a : Addr) (gst : List Grp) (O : Ow) : Prop :=
  (gst = [] ∧ O = Ow.own a []) ∨ ∃ gs x os g inn t m, gst = gs ++ [(x, os)] ∧ O = ((Ow.own inn (os.map .int)).and (Ow.fact g (lstObj [.str x t, .ref inn] m))).and (Ow.own a (gs.map gD ++ [.val (.ref g)]))
section
variable {w : World} {s₀ s : Shared} {B₀ B : Sto} {L a : Addr} {cl : List (Str × Addr)} {E C : List (Str × D)} {O P : Ow} {gst : List Grp}
theorem GrpO.size (H : GrpO a gst O) {h : Heap} (x : O.X B h) : ∃ vs n, h.get? a = some (lstObj vs n) ∧ vs.length = gst.length := by
  rcases H with ⟨rfl, rfl⟩ | ⟨gs, x', os, g, inn, t, m, rfl, rfl⟩
  · obtain ⟨vs, n, h1, h2⟩ := x
    exact ⟨vs, n, h1, by simpa using h2.length⟩
  · obtain ⟨vs, n, h1, h2⟩ := x.2
    exact ⟨vs, n, h1, by have := h2.length; simpa using this⟩
theorem VAll.snoc_inv {vs : List Value} {ds : List D} {d : D} (h : VAll B vs (ds ++ [d])) : ∃ us v, vs = us ++ [v] ∧ VAll B us ds ∧ V B v d := by
  induction ds generalizing vs with
  | nil => cases h with | cons h r => cases r; exact ⟨[], _, rfl, .nil, h⟩
  | cons e ds ih =>
    cases h with | cons h r =>
    obtain ⟨us, v, rfl, h1, h2⟩ := ih r
    exact ⟨_ :: us, v, rfl, .cons h h1, h2⟩
/-- the last group is done -/
theorem GrpO.close (H : GrpO a gst O) (F : FrI w s₀ B₀ L cl E C (P.and O) B s) : ∃ B', Le B B' ∧ FrI w s₀ B₀ L cl E C (P.and (Ow.own a (gst.map gD))) B' s := by
  rcases H with ⟨rfl, rfl⟩ | ⟨gs, x', os, g, inn, t, m, rfl, rfl⟩
  · exact ⟨B, Le.refl B, F⟩
  · have F1 : FrI w s₀ B₀ L cl E C ((Ow.own inn (os.map .int)).and (P.and ((Ow.fact g (lstObj [.str x' t, .ref inn] m)).and (Ow.own a (gs.map gD ++ [.val (.ref g)]))))) B s := by
      have F0 := F.swap
      refine F0.ow (fun b hb => ?_) ?_ ⟨F.own.2.1.1, F.own.1, F.own.2.1.2, F.own.2.2⟩
      · simpa [Ow.and, Ow.fact, Ow.own] using hb
      · have := F0.nod; simpa [Ow.and, Ow.fact, Ow.own] using this
    obtain ⟨B', le, hV, F2⟩ := F1.freeze
    refine ⟨B', le, F2.ow (fun b hb => ?_) ?_ ⟨F2.own.1, ?_⟩⟩
    · simpa [Ow.and, Ow.fact, Ow.own] using hb
    · have := F2.nod; simpa [Ow.and, Ow.fact, Ow.own] using this
    · obtain ⟨vs, n, h1, h2⟩ := F2.own.2.2
      obtain ⟨us, v, rfl, h3, h4⟩ := h2.snoc_inv
      cases h4.inv_val
      refine ⟨_, n, h1, ?_⟩
      rw [List.map_append]
      exact h3.append (.one (.lst F2.own.2.1 (.cons (.str _ _) (.one hV))))
end
theorem Has.only {a : Addr} {ds ds' : List D} : Has a ds ds' (Ow.own a ds) (Ow.own a ds') := ⟨.head _, rfl, fun x => x, fun {B h h' vs n} nd x sb k e hv => ⟨vs, n, e, hv⟩⟩
structure BOk (ends : List (Str × Int)) (shared : List Int) (size : Nat) : Prop where
  le : ends.length ≤ shared.length
  n : ends.length ≤ 100
  m : shared.length ≤ 1000
  sz : size ≤ 100
  path : ∀ e ∈ ends, e.1.length ≤ 1000 ∧ (Txt.split e.1 slash).length ≤ 1000 ∧ JoinOk slash (((Txt.split e.1 slash).drop 1).take size) = true ∧ (Txt.join slash (((Txt.split e.1 slash).drop 1).take size)).length ≤ 1000
theorem pickL_mid {α : Type} (l : List α) (a b : Nat) : pickL l (some (a : Int)) (some (b : Int)) none = (l.drop a).take (b - a) := by
  rw [pickL_plain]
  simp only [Option.elim, clipAt_nat]
  rcases Nat.le_total a l.length with h | h
  · rw [Nat.min_eq_left h]
    rcases Nat.le_total b l.length with h2 | h2
    · rw [Nat.min_eq_left h2]
    · rw [Nat.min_eq_right h2, List.take_of_length_le (by simp), List.take_of_length_le (by simp; omega)]
  · rw [Nat.min_eq_right h, List.drop_of_length_le (by simp), List.drop_of_length_le h]; simp
theorem small_rng {n : Nat} (h : n ≤ 1000) : Builtin.Range.small 0 (n : Int) 1 = true := small_one (by decide) (by decide) (by omega) (by omega)
set_option maxHeartbeats 8000000 in
theorem begun_fn (w : World) (ends : List (Str × Int)) (shared : List Int) (size : Nat) (ok : BOk ends shared size) : Fn w 2 196 [.lst (ends.map sI), .lst (shared.map .int), .int size] (.lst ((begun ends shared size).map gD)) := by
  have hsl : sizeLine = 16777216 := by decide
  have okn := ok.n; have okle := ok.le; have oksz := ok.sz; have okm := ok.m
  have hhead : ∀ e ∈ ends, (head e.1 size).length ≤ 100000 := fun e he => by
    have := (ok.path e he).2.2.2
    unfold head; rw [Str.length_append, slash_len]; omega
  have gb : ∀ i, i ≤ ends.length → GB i (bAll size (ends.take i) shared []) := fun i hi => by
    have := GB.all_ size (ends.take i) shared [] 0 ⟨Nat.le_refl _, fun g h => nomatch h⟩ (fun e he => hhead e (List.mem_of_mem_take he))
    rw [List.length_take, Nat.min_eq_left hi, Nat.zero_add] at this
    exact this
  refine Fn.introL [Str.ofString "ends", Str.ofString "shared", Str.ofString "size"] rfl (by kernel_rfl) (fun vs h => ?_) (by decide) rfl (by decide) ?_
  · match vs, h with
    | [v, u, t], _ => rfl
  · intro A s₀ B₀ L cl rm
    refine .weakF [(Str.ofString "ends", .lst (ends.map sI)), (Str.ofString "shared", .lst (shared.map .int))] [(Str.ofString "size", .int size)] (.cons rfl (.cons rfl .nil)) (.cons rfl .nil) ?_
    refine .newL fun a => ?_
    refine Exs.pre' (I' := FrI w s₀ B₀ L cl [(Str.ofString "groups", .val (.ref a)), (Str.ofString "ends", .lst (ends.map sI)), (Str.ofString "shared", .lst (shared.map .int))] [(Str.ofString "size", .int size)] (Ow.own a [])) (fun B s F => F.ow (fun b hb => by simpa [Ow.and, Ow.nil] using hb) (by show [a].Nodup; simp) F.own.1) ?_
    refine .cons (Ex.forM (If := fun B s => ∃ O, GrpO a (bAll size ends shared []) O ∧ FrI w s₀ B₀ L cl [(Str.ofString "groups", .val (.ref a))] [(Str.ofString "size", .int size)] O B s) (Jr := fun _ _ _ => False) (ds := rngL 0 ends.length)
      (fun _ => [(Str.ofString "groups", .val (.ref a)), (Str.ofString "ends", .lst (ends.map sI)), (Str.ofString "shared", .lst (shared.map .int))]) (fun _ => [(Str.ofString "size", .int size)]) (fun i O => GrpO a (bAll size (ends.take i) shared []) O) (.inl ⟨by simp [bAll], rfl⟩)
      (.tyCall FrI.clo (.blt FrI.clo (nb_range w) bb_range) (.cons FrI.clo (.cast (.bltCall FrI.clo (.blt FrI.clo (nb_len w) bb_len) (.cons FrI.clo (.locF rfl) (.nil FrI.clo)) (.len (by rw [List.length_map]; omega))) (by rw [List.length_map])) (.nil FrI.clo)) .range1) (.rng rm.hd (small_rng (by omega))) ?_ ?_) ?_ (fun fl B s hn j => by cases fl <;> first | exact (hn rfl).elim | exact j.elim)
    · intro i d P O hd hOm
      obtain ⟨rfl, hi⟩ := rngL_get hd
      have hi' : i < ends.length := by omega
      rw [Int.zero_add]
      obtain ⟨e, he⟩ : ∃ e, ends[i]? = some e := ⟨_, List.getElem?_eq_getElem hi'⟩
      obtain ⟨sh, hsh⟩ : ∃ sh, shared[i]? = some sh := ⟨_, List.getElem?_eq_getElem (by omega)⟩
      have oke := ok.path e (List.mem_of_getElem? he)
      rw [bAll_take size ends shared [] i e sh he hsh]
      have gbi := gb i (by omega)
      generalize bAll size (ends.take i) shared [] = gst at hOm gbi ⊢
      refine ⟨_, .loc, ?_⟩
      refine .on (.setT (d := sI e) FrI.clo (.itm FrI.clo (.locF rfl) (.locF rfl) (.lst (by omega) (by omega) (by rw [Int.toNat_natCast, List.getElem?_map, he]; rfl))) (.two FrI.clo (.tup rm.hd) .loc .loc)) ?_
      refine .weakF [(Str.ofString "path", .str e.1), (Str.ofString "owner", .int e.2), (Str.ofString "k", .int i), (Str.ofString "groups", .val (.ref a)), (Str.ofString "ends", .lst (ends.map sI)), (Str.ofString "shared", .lst (shared.map .int))] [(Str.ofString "size", .int size)] (.cons rfl (.cons rfl (.cons rfl (.cons rfl (.cons rfl (.cons rfl .nil)))))) (.cons rfl .nil) ?_
      refine .on (I' := fun B s => ∃ O', GrpO a (bStep size gst e sh) O' ∧ FrI w s₀ B₀ L cl [(Str.ofString "groups", .val (.ref a)), (Str.ofString "ends", .lst (ends.map sI)), (Str.ofString "shared", .lst (shared.map .int))] [(Str.ofString "size", .int size)] (P.and O') B s)
        (.If (b := decide (depth e.1 ≥ size)) FrI.clo (.cmp FrI.clo (.call FrI.clo rm (depth_fn w e.1) (.glob FrI.clo (gl_depth w)) rfl rfl (.cons FrI.clo (.locF rfl) (.nil FrI.clo))) (.celF rfl) .geI) ?_) (.nil fun B s h => h)
      cases hdep : decide (depth e.1 ≥ size) with
      | false =>
        have e1 : bStep size gst e sh = gst := if_neg (of_decide_eq_false hdep)
        rw [e1]
        exact .nil fun B s F => ⟨O, hOm, F.weak (.cons rfl (.cons rfl (.cons rfl .nil))) (.cons rfl .nil)⟩
      | true =>
        have e1 : bStep size gst e sh = addLast (if sh < size ∨ gst = [] then gst ++ [(head e.1 size, [])] else gst) e.2 := if_pos (of_decide_eq_true hdep)
        rw [e1]
        let Eb : List (Str × D) := [(Str.ofString "path", .str e.1), (Str.ofString "owner", .int e.2), (Str.ofString "k", .int i), (Str.ofString "groups", .val (.ref a)), (Str.ofString "ends", .lst (ends.map sI)), (Str.ofString "shared", .lst (shared.map .int))]
        let Cb : List (Str × D) := [(Str.ofString "size", .int size)]
        have hb : (decide (sh < (size : Int)) || (gst.length == 0)) = decide (sh < size ∨ gst = []) := by
          cases gst with
          | nil => simp
          | cons g gs => simp
        refine .on (I' := fun B s => ∃ q : List Grp × Str × List Int × Addr × Addr × Tok × Nat, (if sh < size ∨ gst = [] then gst ++ [(head e.1 size, [])] else gst) = q.1 ++ [(q.2.1, q.2.2.1)] ∧ FrI w s₀ B₀ L cl Eb Cb (P.and (((Ow.own q.2.2.2.2.1 (q.2.2.1.map .int)).and (Ow.fact q.2.2.2.1 (lstObj [.str q.2.1 q.2.2.2.2.2.1, .ref q.2.2.2.2.1] q.2.2.2.2.2.2))).and (Ow.own a (q.1.map gD ++ [.val (.ref q.2.2.2.1)])))) B s)
          (.If (b := decide (sh < size ∨ gst = [])) FrI.clo (.cast (.or (b2 := gst.length == 0) FrI.clo (.cmp FrI.clo (.itm FrI.clo (.locF rfl) (.locF rfl) (.lst (by omega) (by omega) (by rw [Int.toNat_natCast, List.getElem?_map, hsh]; rfl))) (.celF rfl) .ltI) fun _ => .eqNil rm (.locF rfl) fun x => hOm.size x.2) hb) ?_) ?_
        · cases hnew : decide (sh < size ∨ gst = []) with
          | true =>
            rw [if_pos (of_decide_eq_true hnew)]
            refine .pre (I' := FrI w s₀ B₀ L cl Eb Cb (P.and (Ow.own a (gst.map gD)))) (fun B s F => hOm.close F) ?_
            refine .appG (ds := gst.map gD) (.locF rfl) (z := head e.1 size) ?_ (fun g => .there (.only (ds' := gst.map gD ++ [.val (.ref g)]))) (by have := gbi.len; simp; omega) (fun g inn t => .nil fun B s F => ⟨(gst, head e.1 size, [], g, inn, t, 0), rfl, (show FrI w s₀ B₀ L cl Eb Cb (P.and (((Ow.own inn []).and (Ow.fact g (lstObj [.str (head e.1 size) t, .ref inn] 0))).and (Ow.own a (gst.map gD ++ [.val (.ref g)])))) B s from F.swap)⟩)
            refine .cast (.bin FrI.clo (.cstr FrI.clo) (.meth FrI.clo (.cstr FrI.clo) .join (.cons FrI.clo (.cast (.slice FrI.clo (.meth FrI.clo (.locF rfl) .split (.cons FrI.clo (.cstr FrI.clo) (.nil FrI.clo)) (.split slash_ne (by omega))) (.some (.cint FrI.clo)) (.some (.bin FrI.clo (.celF rfl) (.cint FrI.clo) .add)) (.none FrI.clo) (by intro h; cases h) (by rw [List.length_map]; exact Nat.le_trans oke.2.1 (by decide))) ?_) (.nil FrI.clo)) (.join oke.2.2.1)) (.addS (by rw [slash_len]; exact Nat.le_trans (Nat.add_le_add_left oke.2.2.2 1) (by decide)))) rfl
            have := pickL_mid ((Txt.split e.1 slash).map D.str) 1 (size + 1)
            rw [show (((1 : Nat) : Int)) = 1 by rfl, show (((size + 1 : Nat) : Int)) = (size : Int) + 1 by push_cast; rfl, show size + 1 - 1 = size by omega] at this
            rw [this, ← List.map_drop, ← List.map_take]
            rfl
          | false =>
            have hno := of_decide_eq_false hnew
            rw [if_neg hno]
            rcases hOm with ⟨rfl, _⟩ | ⟨gs, x', os, g, inn, t, m, rfl, rfl⟩
            · exact absurd (.inr rfl) hno
            · exact .nil fun B s F => ⟨(gs, x', os, g, inn, t, m), rfl, F⟩
        · refine .ex fun ⟨gs, x', os, g, inn, t, m⟩ => .hyp fun hq => ?_
          dsimp only at hq ⊢
          rw [hq, addLast_snoc]
          refine .on (.appE (a := inn) (ds := os.map .int) (O' := P.and (((Ow.own inn ((os ++ [e.2]).map .int)).and (Ow.fact g (lstObj [.str x' t, .ref inn] m))).and (Ow.own a (gs.map gD ++ [.val (.ref g)])))) (.itm (dv := .lst [.str x', .val (.ref inn)]) FrI.clo (.lastO (a := a) (.locF rfl) (.neg FrI.clo (.cint FrI.clo)) fun x => ?_) (.cint FrI.clo) (.lst (by decide) (by decide) rfl)) (.locF rfl) ?_ ?_) (.nil fun B s F => ⟨_, .inr ⟨gs, x', os ++ [e.2], g, inn, t, m, rfl, rfl⟩, F.weak (.cons rfl (.cons rfl (.cons rfl .nil))) (.cons rfl .nil)⟩)
          · obtain ⟨vs, n, h1, h2⟩ := x.2.2
            obtain ⟨us, v, rfl, h3, h4⟩ := h2.snoc_inv
            cases h4.inv_val
            exact ⟨us, n, _, h1, .lst x.2.1.2 (.cons (.str _ _) (.one (.val _)))⟩
          · rw [List.map_append]
            exact .there (.left .here)
          · have hg : (x', os) ∈ (if sh < size ∨ gst = [] then gst ++ [(head e.1 size, [])] else gst) := by rw [hq]; simp
            have : os.length ≤ i := by
              split at hg
              · rcases List.mem_append.mp hg with h | h
                · exact (gbi.all _ h).1
                · rw [List.mem_singleton] at h; cases h; exact Nat.zero_le _
              · exact (gbi.all _ hg).1
            rw [List.length_map]; omega
    · intro O B s hOm F
      rw [rngL_length] at hOm
      rw [show ((ends.length : Int) - 0).toNat = ends.length by omega, List.take_length] at hOm
      exact ⟨O, hOm, F.weak (.cons rfl .nil) (.cons rfl .nil)⟩
    · refine Exs.pre (I' := FrI w s₀ B₀ L cl [(Str.ofString "groups", .lst ((bAll size ends shared []).map gD))] [(Str.ofString "size", .int size)] Ow.nil) (fun B s ⟨O, hOm, F⟩ => ?_) ?_
      · obtain ⟨B1, le1, F1⟩ := hOm.close (P := Ow.nil) (F.ow (fun b hb => by simpa [Ow.and, Ow.nil] using hb) (by have := F.nod; simpa [Ow.and, Ow.nil] using this) ⟨trivial, F.own⟩)
        obtain ⟨B2, le2, hV, F2⟩ := (F1.ow (O' := (Ow.own a ((bAll size ends shared []).map gD)).and Ow.nil) (fun b hb => by simpa [Ow.and, Ow.nil] using hb) (by show ([a] ++ []).Nodup; simp) ⟨F1.own.2, trivial⟩).freeze
        exact ⟨B2, le1.trans le2, (F2.retype (x := Str.ofString "groups") rfl hV).weak (.cons rfl .nil) (.cons rfl .nil)⟩
      · have gba := gb ends.length (Nat.le_refl _)
        rw [List.take_length] at gba
        refine .ret FrI.clo (.comp (cl := [(Str.ofString "size", L + 1)]) (l := bAll size ends shared []) (g := gD) (p := bKeep size) (f := gD) FrI.clo (.locF rfl) (.lst rm.hd) (by have := gba.len; omega) (fun B1 s1 Cc Oo i g F hi => ⟨_, .loc, .one (.or FrI.clo (.cmp FrI.clo (.celE (F.celOf (Str.ofString "size") rfl rfl)) (.cint FrI.clo) .eqI) fun _ => .cmp FrI.clo (.sliceS FrI.clo (.itm FrI.clo (.locF rfl) (.cint FrI.clo) (.lst (by decide) (by decide) rfl)) (.some (.neg FrI.clo (.cint FrI.clo))) (.none FrI.clo) ?_) (.cstr FrI.clo) .neS), fun _ => .locF rfl⟩)) fun B s F => ⟨rfl, F.done⟩
        have := (gba.all g (List.mem_of_getElem? hi)).2
        omega
end Mine
end
section
open PySem PySem.W PySem.Spec PySem.Calls PyProof.Rows
set_option maxRecDepth 100000
namespace Mine

/-! more rules, for the law -/
theorem pickL_map {α β : Type} (f : α → β) (l : List α) (lo hi st : Option Int) : pickL (l.map f) lo hi st = (pickL l lo hi st).map f := by
  unfold pickL
  rw [List.length_map]
  generalize sliceRange _ _ _ = js
  induction js with
  | nil => rfl
  | cons j js ih =>
    rw [List.filterMap_cons, List.filterMap_cons, List.getElem?_map]
    cases l[j]? with
    | none => exact ih
    | some x => rw [Option.map_some]; dsimp only; rw [List.map_cons, ih]
theorem ints_of {B : Sto} : ∀ {vs : List Value} {ns : List Int}, VAll B vs (ns.map .int) → IntsAre vs ns
  | _, [], .nil => .nil
  | _, n :: ns, .cons h r => by
    obtain ⟨t, rfl⟩ := h.inv_int
    exact .cons n t (ints_of r)
section
variable {w : World} {A : Around} {k : Nat}
theorem Cmp.inI {i : Int} {ns : List Int} : Cmp w A .In (.int i) (.lst (ns.map .int)) (ns.any (· == i)) := by
  intro B s v1 v2 Q E g sb h1 h2 q
  obtain ⟨t, rfl⟩ := h1.inv_int
  obtain ⟨a, vs, n, rfl, ha, hvs⟩ := h2.inv_lst
  exact in_list_ints (isList_of (sb _ _ ha)) (ints_of hvs) (q s (krefl s))
theorem Cmp.notInI {i : Int} {ns : List Int} : Cmp w A .NotIn (.int i) (.lst (ns.map .int)) (!ns.any (· == i)) := by
  intro B s v1 v2 Q E g sb h1 h2 q
  obtain ⟨t, rfl⟩ := h1.inv_int
  obtain ⟨a, vs, n, rfl, ha, hvs⟩ := h2.inv_lst
  exact notin_list_ints (isList_of (sb _ _ ha)) (ints_of hvs) (q s (krefl s))
theorem all_same {ps qs : List Str} (hl : ps.length = qs.length) : (List.range ps.length).all (fun j => ps[j]? == qs[j]?) = (ps == qs) := by
  cases h : (ps == qs) with
  | true =>
    have e : ps = qs := by simpa using h
    subst e
    simp
  | false =>
    have hne : ps ≠ qs := by simpa using h
    refine Bool.eq_false_iff.mpr fun q => hne ?_
    refine List.ext_getElem? fun j => ?_
    rcases Nat.lt_or_ge j ps.length with hj | hj
    · have := List.all_eq_true.mp q j (List.mem_range.mpr hj)
      simpa using this
    · rw [List.getElem?_eq_none hj, List.getElem?_eq_none (by omega)]
theorem Cmp.neL {ps qs : List Str} (r : Rm k A) : Cmp w A .NotEq (sL ps) (sL qs) (ps != qs) := by
  intro B s v1 v2 Q E g sb h1 h2 q
  obtain ⟨a, vs, n, rfl, ha, hvs⟩ := h1.inv_lst
  obtain ⟨b, us, m, rfl, hb, hus⟩ := h2.inv_lst
  have hla := isList_of (sb _ _ ha)
  have hlb := isList_of (sb _ _ hb)
  show wpAny _ _ (richCompare .NotEq _ _) Q E s
  by_cases hl : ps.length = qs.length
  · have := SeqAt.RcNeAt.lists (A := A) (e := fun j => ps[j]? == qs[j]?) hla hlb (by simp [hvs.len, hus.len, hl]) r.units (fun j h1 h2 => by
      have hj1 : j < ps.length := by have := hvs.len; simp at h1; omega
      have hj2 : j < qs.length := by have := hus.len; simp at h2; omega
      obtain ⟨p, hp⟩ : ∃ p, ps[j]? = some p := ⟨_, List.getElem?_eq_getElem hj1⟩
      obtain ⟨q', hq⟩ : ∃ p, qs[j]? = some p := ⟨_, List.getElem?_eq_getElem hj2⟩
      obtain ⟨t, ht⟩ := hvs.strAt hp
      obtain ⟨u, hu⟩ := hus.strAt hq
      have e1 : vs.toArray[j] = .str p t := by simpa [List.getElem?_eq_some_iff, h1] using (List.getElem?_eq_some_iff.mp ht).2
      have e2 : us.toArray[j] = .str q' u := by simpa using (List.getElem?_eq_some_iff.mp hu).2
      rw [e1, e2, hp, hq]
      intro prog w E Q hQ
      refine wpAny_eqBool_str ?_
      have : (some p == some q') = decide (p = q') := by
        by_cases e : p = q'
        · subst e; simp
        · simp [e]
      rw [this] at hQ
      exact hQ)
    rw [show vs.toArray.size = ps.length by simp [hvs.len], all_same hl] at this
    exact this _ _ _ _ (q s (krefl s))
  · have hne : (ps != qs) = true := by
      have : ps ≠ qs := fun e => hl (by rw [e])
      simpa using this
    rw [hne] at q
    exact SeqAt.RcNeAt.lists_lengths hla hlb (by simp [hvs.len, hus.len, hl]) r.units _ _ _ _ (q s (krefl s))
end
section
variable {w : World} {A : Around} {env : Env} {s₀ : Shared} {B₀ : Sto} {L : Addr} {cl : List (Str × Addr)} {E C : List (Str × D)} {O : Ow} {x : Str} {p pos : Pos} {d : D} {value slice : Expr} {a : Addr} {ds : List D}
/-- a new list display of the frame's own under a name -/
theorem Exs.newLE {es : List Expr} {ds : List D} {rest : List Stmt} {J : Fl → Sto → Shared → Prop} {lp : Pos} (he : Evs w A env (FrI w s₀ B₀ L cl E C O) lp es ds) (hsz : ds.length ≤ sizeLine) (h : ∀ a, Exs w A env (FrI w s₀ B₀ L cl ((x, .val (.ref a)) :: E) C ((Ow.own a ds).and O)) rest J)
    (hL : env.locals = L := by rfl) (hk : env.scope.kind = .function := by rfl) (hl : env.kindOf x = some .local := by rfl) (hs : swapsWith (.List es lp) (some (.Name x p)) pos.line env = pure false := by rfl) :
    Exs w A env (FrI w s₀ B₀ L cl E C O) (.Assign [.Name x p] (.List es lp) pos :: rest) J := by
  intro B s Q R F k
  refine wpAny_execs_cons (wpAny_Assign_Name (List_ (he B s _ _ F fun vs B1 s1 g1 hvs => wpAny_newList ?_ (by rw [hvs.length]; exact hsz))) hs)
  have F1 := FrI.clo.grow F g1
  have F2 : FrI w s₀ B₀ L cl E C ((Ow.own s1.heap.objs.size ds).and O) B1 { s1 with heap := s1.heap.push { cls := .type "list", data := .seq vs.toArray } } :=
    F1.more (keeps_push _ _) (Nat.le_refl _) (fun b hb => by rw [List.mem_singleton.mp hb]; exact fresh_size _) (by show [_].Nodup; simp) ⟨vs, 0, Heap.get?_push_size _ rfl, hvs⟩
  exact F2.store (.val _) (fun s' F' => h _ B1 s' Q R F' fun f fl B' s' hf hj le => k f fl B' s' hf hj (g1.le.trans le)) hL hk hl
/-- an item of an owned list -/
theorem Ev.itmO {k : Nat} (hx : Ev w A env (FrI w s₀ B₀ L cl E C O) value (.val (.ref a))) (hi : Ev w A env (FrI w s₀ B₀ L cl E C O) slice (.int (k : Int))) (H : ∀ {B h}, O.X B h → ∃ vs n, h.get? a = some (lstObj vs n) ∧ VAll B vs ds) (hd : ds[k]? = some d) (hf : k < 10000)
    (hs : ∀ o i, subscripted slice false o i = operate [o, i] (getItem o i) := by intro _ _; with_unfolding_all rfl) : Ev w A env (FrI w s₀ B₀ L cl E C O) (.Subscript value slice pos) d := by
  intro B s Q X F q
  refine Subscript_ (hx B s _ _ F fun v1 B1 s1 g1 hv1 => hi B1 s1 _ _ (FrI.clo.grow F g1) fun v2 B2 s2 g2 hv2 => ?_)
  cases hv1.inv_val
  obtain ⟨t, rfl⟩ := hv2.inv_int
  have F2 := FrI.clo.grow (FrI.clo.grow F g1) g2
  obtain ⟨vs, n, ha, hvs⟩ := H F2.own
  obtain ⟨v, hv, hvd⟩ := hvs.get hd
  have hl := isList_of ha
  exact tail_any hl.typeIs slot_list_getitem.lookup (wpAny_getItem_list hl (by omega) (by omega) (by simpa using hv) (q v B2 s2 (g1.trans g2) hvd)) (hs _ _)
end
/-- a call of a def with cells, out of a frame that is known -/
theorem callC {w : World} {A : Around} {k : Nat} {f : Addr} {args : List D} {d : D} {name qual : Str} {params : Arguments} {body : List Stmt} {scope : Scope} {dV kV doc pm cdv ct oc : Value} {an od : Option Addr} {osl : Array (Option Value)} (ns : List Str)
    (ho : (KK w).lookup f = some ⟨oc, od, .func (fnOf name qual params body scope dV kV doc pm an cdv ct), osl⟩) (hcd : codeIn (KK w) cdv qual = true)
    (hb : ∀ vs : List Value, vs.length = args.length → bindArgs (fnOf name qual params body scope dV kV doc pm an cdv ct) ⟨vs, []⟩ = pure (ns.zip vs)) (hnd : ns.Nodup) (hlen : ns.length = args.length)
    (hkind : (ns.all fun y => scope.names.lookup y == some .local || scope.names.lookup y == some .cell) = true)
    (h : ∀ (s₀ : Shared) (B₀ : Sto) (L : Addr), let cl := cellsOf L scope; Exs w (A.deeper (envOfC qual scope L f cdv)) (envOfC qual scope L f cdv) (FrI w s₀ B₀ L cl (kindOnly scope .local (ns.zip args)) (kindOnly scope .cell (ns.zip args)) Ow.nil) body (Done d s₀ B₀))
    {B : Sto} {s : Shared} {vs : List Value} {Q E : Value → Shared → Prop} (rm : Rm (k + 1) A) (g : Gd w s) (sb : Sub B s.heap) (hv : VAll B vs args) (q : ∀ v B' s', Grow B s B' s' → V B' v d → Q v s')
    (hco : scope.isCoroutine = false := by rfl) (hgen : scope.isGenerator = false := by rfl) (hk : scope.kind = .function := by rfl) : wpAny (MM w) A (call (.ref f) vs) Q E s := by
  refine wpAny_call (codeAny_call_function rm.room (g.K _ _ ho) rfl hco hgen rfl (codeRec_of g.K hcd) (wpAny_of_eq (hb vs hv.length) ?_))
  have hkeys : (ns.zip vs).map (·.1) = ns := List.map_fst_zip (by rw [hlen, hv.length]; exact Nat.le_refl _)
  refine wpAny_with_toks (Nat.le_refl s.toks) (wpAny_newFunctionEnv_cells hk (fun x hx => ?_) fun env he s' X htk => ?_)
  · have hx' : x.1 ∈ ns := by have := List.mem_map_of_mem (f := (·.1)) hx; rwa [hkeys] at this
    rcases Bool.or_eq_true_iff.mp (List.all_eq_true.mp hkind x.1 hx') with e | e
    · exact .inl (by simpa using e)
    · have e' : scope.names.lookup x.1 = some .cell := by simpa using e
      exact .inr ⟨e', cellsFrom_some _ _ _ (.inl e')⟩
  · subst he
    refine ⟨g.lim.keeps X.toInCall.keep, codeAny_func ?_⟩
    refine h s B s.heap.objs.size B s' _ _ ?_ ?_
    · have hnd' : ((ns.zip vs).map (·.1)).Nodup := by rw [hkeys]; exact hnd
      have kp : Keeps s s' := by
        obtain ⟨h', tk, e, kk⟩ := X.done
        exact ⟨h', tk, e, kk⟩
      have nn : ∀ c, s.heap.objs.size ≤ c → s.heap.get? c = none := fun c hc => Heap.get?_none_of_le hc
      refine ⟨g, kp, htk, sb.keeps kp, Le.refl B, fun _ _ e => .inl e, fresh_size _, sb.none (fresh_size _), ⟨_, X.toInCall.ns, fun x d' e => ?_⟩, fun x c hc => ?_, trivial, (fun a ha => nomatch ha), List.nodup_nil⟩
      · obtain ⟨e1, e2⟩ := lookup_filter (f := fun y => decide (scope.names.lookup y = some .local)) e
        obtain ⟨v, h1, h2⟩ := zip_lookup (vs := vs) hv e1
        exact ⟨v, bindL_in (of_decide_eq_true e2) hnd' h1, h2⟩
      · have hc' : s.heap.objs.size < c := X.above x c (PySem.mem_of_lookup hc)
        have hn := nn c (Nat.le_of_lt hc')
        obtain ⟨o, ho', hd'⟩ := X.cell x c hc
        refine ⟨sb.none hn, hn, o, _, ho', hd', fun d' e => ?_⟩
        obtain ⟨e1, e2⟩ := lookup_filter (f := fun y => decide (scope.names.lookup y = some .cell)) e
        obtain ⟨v, h1, h2⟩ := zip_lookup (vs := vs) hv e1
        refine ⟨v, bindC_in ?_ hnd' h1, h2⟩
        have e3 : scope.names.lookup x = some .cell := of_decide_eq_true e2
        show ¬ scope.names.lookup x = some .local
        rw [e3]; intro q; cases q
    · intro fl f' B' s'' hf hd le
      obtain ⟨rfl, gr⟩ := hd
      cases hf with
      | ret hv' => exact q _ _ _ gr hv'
end Mine
end
section
open PySem PySem.W PySem.Spec PySem.Calls PyProof.Rows
set_option maxRecDepth 100000
namespace Mine

/-! sorted, of texts -/
def runT {α : Type} (lt : Nat → Nat → Bool) (n : Nat) : KasT α → Option α
  | .ret a => some a
  | .ask i j k => if i < n ∧ j < n then runT lt n (k (lt i j)) else none
theorem runT_wp {α : Type} {lt : Nat → Nat → Bool} {n : Nat} {cmp : Nat → Nat → (Bool → Shared → Prop) → Shared → Prop} {Q : α → Shared → Prop} (hc : ∀ i j C s, i < n → j < n → C (lt i j) s → cmp i j C s) :
    ∀ (t : KasT α) (s : Shared) (a : α), runT lt n t = some a → Q a s → t.kasWp cmp Q s
  | .ret b, s, a, h, q => by
    cases h; exact q
  | .ask i j k, s, a, h, q => by
    unfold runT at h
    split at h
    · rename_i hij
      exact hc i j _ s hij.1 hij.2 (runT_wp hc (k (lt i j)) s a h q)
    · cases h
def sortedP (ps : List Str) : Option (List Str) := (runT (fun i j => ltS (ps.getD i ⟨#[]⟩) (ps.getD j ⟨#[]⟩)) ps.length (kas_sort ps.length)).bind fun p => if p.toList.all (fun i => decide (i < ps.length)) = true then some (p.toList.map fun i => ps.getD i ⟨#[]⟩) else none
/-- all the things of a heap but one -/
def allBut (h : Heap) (L : Addr) : List (Addr × Obj) := (List.range h.objs.size).filterMap fun b => if b = L then none else (h.get? b).map fun o => (b, o)
theorem mem_allBut {h : Heap} {L b : Addr} {o : Obj} (hb : b ≠ L) (e : h.get? b = some o) : (b, o) ∈ allBut h L := by
  unfold allBut
  refine List.mem_filterMap.mpr ⟨b, List.mem_range.mpr (Heap.lt_size e), ?_⟩
  rw [if_neg hb, e]; rfl
theorem of_allBut {h : Heap} {L : Addr} {p : Addr × Obj} (hp : p ∈ allBut h L) : p.1 ≠ L ∧ h.get? p.1 = some p.2 := by
  obtain ⟨b, _, e⟩ := List.mem_filterMap.mp hp
  split at e
  · cases e
  · rename_i hb
    cases q : h.get? b with
    | none => rw [q] at e; cases e
    | some o => rw [q] at e; cases e; exact ⟨hb, q⟩
theorem looks_strT {M : Model} {h : Heap} {x : Str} {t : Tok} : Looks M h (typeOf (.str x t)) (.type "str") := fun A Q E s _ q => wpAny_typeOf (typeIs_str s x t) q
section
variable {w : World} {A : Around} {env : Env} {s₀ s : Shared} {B₀ B : Sto} {L : Addr} {cl : List (Str × Addr)} {E C : List (Str × D)} {O : Ow} {x : Str} {p np pos cp : Pos} {e : Expr} {ps qs : List Str}
/-- the frame's own names are kept as they are, all else stands -/
theorem FrI.move (F : FrI w s₀ B₀ L cl E C O B s) {h' : Heap} {m : Str → Option Value} (hE : ∀ x d, E.lookup x = some d → ∃ v, m x = some v ∧ V B v d) (hm : h'.Ns L m) (k : ∀ b o, b ≠ L → s.heap.get? b = some o → h'.get? b = some o) : FrI w s₀ B₀ L cl E C O B { s with heap := h' } := by
  obtain ⟨h0, tk0, rfl, k0⟩ := F.kp
  obtain ⟨m1, hm1, _⟩ := F.loc
  have sb : Sub B h' := fun b o e => k b o (fun q => by rw [q, F.nL] at e; cases e) (F.sub b o e)
  refine ⟨F.gd, ⟨h', tk0, rfl, fun b o e => k b o (fun q => by rw [q, F.fresh] at e; cases e) (k0 b o e)⟩, F.tk, sb, F.le, F.new, F.fresh, F.nL, ⟨m, hm, hE⟩, fun y c hc => ?_, O.frame F.own (Le.refl B) sb fun a ha o e => k a o (F.fpo a ha).2.2.1 e, F.fpo, F.nod⟩
  obtain ⟨h1, h2, o, v, h3, h4, h5⟩ := F.cel y c hc
  refine ⟨h1, h2, o, v, k c o (fun q => ?_) h3, h4, h5⟩
  obtain ⟨oL, es, ep, hL, hd, _⟩ := hm1
  rw [q, hL] at h3; cases h3; rw [hd] at h4; cases h4
set_option maxHeartbeats 1000000 in
theorem Ex.setSorted (hn : Ev w A env (FrI w s₀ B₀ L cl E C O) (.Name "sorted" np) (.val (.builtin "sorted"))) (h : Ev w A env (FrI w s₀ B₀ L cl E C O) e (sL ps)) (h2 : 2 ≤ ps.length) (h64 : ps.length < 64) (hr : sortedP ps = some qs)
    (hst : ((backTo cp (starEach [e] env)).any (·.1)) = false := by rfl) (hse : starEach [e] env = (false, eval e env) :: starEach [] env := by rfl)
    (hL : env.locals = L := by rfl) (hk : env.scope.kind = .function := by rfl) (hl : env.kindOf x = some .local := by rfl) (hs : swapsWith (.Call (.Name "sorted" np) [e] [] cp) (some (.Name x p)) pos.line env = pure false := by rfl) :
    Ex w A env (FrI w s₀ B₀ L cl E C O) (.Assign [.Name x p] (.Call (.Name "sorted" np) [e] [] cp) pos) (On (FrI w s₀ B₀ L cl ((x, sL qs) :: E) C O)) := by
  intro B s Q X F k
  refine wpAny_Assign_Name (wpAny_Call_NameR (hn B s _ _ F fun v B1 s1 g1 hv => ?_)) hs
  cases hv
  refine Calls.callWith_builtin hst (evalArgs_any hst (args_cons (h B1 s1 _ _ (FrI.clo.grow F g1) fun v B2 s2 g2 hv => args_nil ?_) hse))
  have F2 := FrI.clo.grow (FrI.clo.grow F g1) g2
  obtain ⟨l, vs, n, rfl, hla, hvs⟩ := hv.inv_lst
  have hll := hvs.len
  obtain ⟨m, hm, hmE⟩ := F2.loc
  obtain ⟨l', rfl, hl'⟩ := hvs.asStrs
  have N0 : News ({ objs := #[] } : Heap) L s2.heap (allBut s2.heap L) := fun p hp => ⟨(of_allBut hp).2, (of_allBut hp).1, by cases q : ({ objs := #[] } : Heap).get? p.1 with
    | none => rfl
    | some o => exact absurd (Heap.lt_size q) (by simp)⟩
  have F0 : Fr ({ objs := #[] } : Heap) L s2.heap m := ⟨hm, fun b o e => absurd (Heap.lt_size e) (by simp), Nat.zero_le _⟩
  unfold sortedP at hr
  cases hrun : runT (fun i j => ltS (ps.getD i ⟨#[]⟩) (ps.getD j ⟨#[]⟩)) ps.length (kas_sort ps.length) with
  | none => rw [hrun] at hr; cases hr
  | some perm =>
    rw [hrun] at hr
    have hr1 : (if perm.toList.all (fun i => decide (i < ps.length)) = true then some (perm.toList.map fun i => ps.getD i ⟨#[]⟩) else none) = some qs := hr
    clear hr
    split at hr1
    case isFalse => cases hr1
    rename_i hq
    have hall : ∀ i ∈ perm.toList, i < ps.length := fun i hi => of_decide_eq_true (List.all_eq_true.mp hq i hi)
    have hr' : (perm.toList.map fun i => ps.getD i ⟨#[]⟩) = qs := Option.some.inj hr1
    have hget : ∀ i, i < ps.length → ∃ t, (strValues l').getD i Value.none = .str (ps.getD i ⟨#[]⟩) t := fun i hi => by
      obtain ⟨t, ht⟩ := hvs.strAt (i := i) (p := ps.getD i ⟨#[]⟩) (by simp [hi])
      exact ⟨t, by rw [List.getD_eq_getElem?_getD, ht]; rfl⟩
    have hVA : ∀ (Bx : Sto) (js : List Nat), (∀ i ∈ js, i < ps.length) → VAll Bx (js.map fun i => (strValues l').getD i Value.none) ((js.map fun i => ps.getD i ⟨#[]⟩).map .str) := fun Bx js => by
      induction js with
      | nil => exact fun _ => .nil
      | cons j js ih =>
        intro hj
        obtain ⟨t, ht⟩ := hget j (hj j (.head _))
        rw [List.map_cons, List.map_cons, List.map_cons, ht]
        exact .cons (.str _ t) (ih fun i hi => hj i (.tail _ hi))
    refine kas_sorted (T := .type "str") F0 N0 (isList_of (F2.sub _ _ hla)) (by rw [hll]; exact h2) (by rw [hll]; exact h64) (fun h _ _ v hv => ?_) (by decide) fun D e1 h' F1 N1 hlt => ?_
    · obtain ⟨q, _, rfl⟩ := List.mem_map.mp hv
      exact looks_strT
    · rw [hll]
      refine runT_wp (n := ps.length) (lt := fun i j => ltS (ps.getD i ⟨#[]⟩) (ps.getD j ⟨#[]⟩)) (fun i j Cc s3 hi hj hC => ?_) _ _ perm hrun ?_
      · obtain ⟨t, ht⟩ := hget i hi
        obtain ⟨u, hu⟩ := hget j hj
        unfold kas_ask
        rw [ht, hu]
        exact kas_lt_str hC
      · refine KasFin.intro F1 N1 (.head fun p hp => ?_) fun h3 c F3 N3 => ?_
        · exact Nat.ne_of_lt (hlt p hp)
        · have hD := N3 _ (.head _)
          have kk : ∀ b o, b ≠ L → s2.heap.get? b = some o → h3.get? b = some o := fun b o hb e => (N3 (b, o) (.tail _ (mem_allBut hb e))).1
          have hDn : s2.heap.get? D = none := by
            cases q : s2.heap.get? D with
            | none => rfl
            | some o => exact absurd (hlt _ (mem_allBut hD.2.1 q)) (Nat.lt_irrefl _)
          have F4 := F2.move hmE F3.ns kk
          have nothere : ∀ a o, s2.heap.get? a = some o → a ≠ D := fun a o e q => by rw [q, hDn] at e; cases e
          have F5 := F4.adopt hD.1 (none_back F2.kp hDn) (F2.sub.none hDn) hD.2.1 (fun q => by
            obtain ⟨o, ho⟩ := O.there F2.own D q
            exact nothere _ _ ho rfl) (fun y c hc => by
            obtain ⟨_, _, oc, u, h3, _⟩ := F2.cel y c hc
            exact nothere _ _ h3)
          have hV : V (put B2 D (listOf (List.toArray (perm.toList.map fun i => (strValues l').getD i Value.none)) c)) (.ref D) (sL qs) := by
            refine .lst (n := c) (vs := perm.toList.map fun i => (strValues l').getD i Value.none) (put_self _ _ _) ?_
            rw [← hr']
            exact hVA _ _ hall
          exact F5.store hV (fun s'' F'' => k _ _ _ s'' .next F'' (g1.le.trans (g2.le.trans (le_put (F2.sub.none hDn))))) hL hk hl
end
end Mine
end
section
open PySem PySem.W PySem.Spec PySem.Calls PyProof.Rows
set_option maxRecDepth 100000
namespace Mine

/-! what the law computes, in plain terms -/
abbrev dot : Str := Str.ofString "."
def nmB (b x : Bool) : Str := if x then (if b then Str.ofString "77" else Str.ofString "ba") else Str.ofString "ab"
def topB (t : Bool) : Str := if t then Str.ofString "7" else Str.ofString "com"
def nms (b : Bool) (r : List Bool) : List Str := r.map (nmB b)
def waysK (b : Bool) : Nat → List Str
  | 0 => [slash]
  | i + 1 => waysK b i ++ [jn ((waysK b i).getD ((i + 2) / 2 - 1) slash) (nmB b ((i + 2) % 2 == 1))]
def wy (b : Bool) (q : List Bool) : Str := way (nms b q)
def wordsC (b : Bool) : List (List Bool) :=
  if b then [[true], [true, true], [true, true, true], [true, true, false], [true, false], [true, false, true], [true, false, false], [false], [false, true], [false, true, true], [false, true, false], [false, false], [false, false, true], [false, false, false]]
  else [[false], [false, false], [false, false, false], [false, false, true], [false, true], [false, true, false], [false, true, true], [true], [true, false], [true, false, false], [true, false, true], [true, true], [true, true, false], [true, true, true]]
def wordsB (b : Bool) : List Str := (wordsC b).map (wy b)
theorem sorted_ok (b : Bool) : sortedP ((waysK b 14).drop 1) = some (wordsB b) := by cases b <;> decide +kernel
theorem ways_len (b : Bool) : ∀ i, (waysK b i).length = i + 1
  | 0 => rfl
  | i + 1 => by rw [waysK, List.length_append, ways_len b i]; rfl
theorem ways_bound (b : Bool) : ∀ i, i < 15 → ∀ x ∈ waysK b i, x.length ≤ 100 := by cases b <;> decide +kernel

section
variable (b : Bool)
def hostL (t : Bool) (r : List Bool) : List Str := [Str.ofString "w"] ++ nms b r ++ [topB t]
def hostS (t : Bool) (r : List Bool) : Str := Txt.upper (Txt.join dot (hostL b t r))
def dotted (x : Str) : Str := Txt.replace x slash dot
def toldS (t : Bool) (r : List Bool) : List Str := (wordsB b).filter fun x => dm (hostS b t r) (dotted x)
def endsK (r : List Bool) (o : Int) (e0 : List (Str × Int)) : Nat → List (Str × Int)
  | 0 => e0
  | k + 1 => setIn (endsK r o e0 k) (way ((nms b r).drop k), o)
def toldI (tt : Nat → Bool) (rr : Nat → List Bool) : Nat → List (List Str)
  | 0 => []
  | i + 1 => toldI tt rr i ++ [toldS b (tt i) (rr i)]
def endsI (tt : Nat → Bool) (rr : Nat → List Bool) : Nat → List (Str × Int)
  | 0 => []
  | i + 1 => if tt i then endsI tt rr i else endsK b (rr i) i (endsI tt rr i) (rr i).length
end
def nxt (e : List (Str × Int)) (i : Nat) : Str × Int := e.getD i (slash, 0)
def sharedS (e : List (Str × Int)) : List Int := 0 :: (List.range (e.length - 1)).map fun i => depth (cp (nxt e i).1 (nxt e (i + 1)).1)
def sizeOf (n : Nat) (l : List Str) : List Str := l.filter fun x => decide (depth x = n)
def inG (o : Int) (g : Grp) : Bool := g.2.any (· == o)
theorem setIn_len (row : List (Str × Int)) (x : Str × Int) : (setIn row x).length = row.length + 1 := by
  unfold setIn
  have h : setK row x row.length ≤ row.length := by
    have : ∀ k, setK row x k ≤ k := fun k => by
      induction k with
      | zero => exact Nat.le_refl _
      | succ k ih =>
        unfold setK
        split
        · split
          · exact Nat.le_succ_of_le ih
          · exact Nat.le_refl _
        · exact Nat.le_refl _
    exact this _
  simp only [List.length_append, List.length_take, List.length_drop, List.length_cons, List.length_nil]
  omega
theorem endsK_len (b : Bool) (r : List Bool) (o : Int) (e0 : List (Str × Int)) : ∀ k, (endsK b r o e0 k).length = e0.length + k
  | 0 => rfl
  | k + 1 => by rw [endsK, setIn_len, endsK_len b r o e0 k]; rfl
theorem endsI_len (b : Bool) (tt : Nat → Bool) (rr : Nat → List Bool) (h : ∀ i, (rr i).length ≤ 4) : ∀ i, (endsI b tt rr i).length ≤ 4 * i
  | 0 => Nat.le_refl _
  | i + 1 => by
    have := endsI_len b tt rr h i
    rw [endsI]
    split
    · omega
    · rw [endsK_len]; have := h i; omega
theorem toldI_len (b : Bool) (tt : Nat → Bool) (rr : Nat → List Bool) : ∀ i, (toldI b tt rr i).length = i
  | 0 => rfl
  | i + 1 => by rw [toldI, List.length_append, toldI_len b tt rr i]; rfl
theorem nmB_len (b x : Bool) : (nmB b x).length ≤ 2 := by cases b <;> cases x <;> decide
theorem nms_len {b : Bool} {r : List Bool} : ∀ n ∈ nms b r, n.length ≤ 2 := fun n hn => by
  obtain ⟨x, _, rfl⟩ := List.mem_map.mp hn
  exact nmB_len b x
theorem sldF_len : ∀ (n : Nat) (xs ys : List Str), (sldF n xs ys).1.length ≤ xs.length ∧ (sldF n xs ys).2.length ≤ ys.length
  | 0, xs, ys => ⟨Nat.le_refl _, Nat.le_refl _⟩
  | n + 1, [], ys => ⟨Nat.le_refl _, Nat.le_refl _⟩
  | n + 1, x :: xs, [] => ⟨Nat.le_refl _, Nat.le_refl _⟩
  | n + 1, x :: xs, y :: ys => by
    unfold sldF
    have h1 := sldF_len n xs (y :: ys)
    have h2 := sldF_len n (x :: xs) ys
    have h3 := sldF_len n xs ys
    split
    · exact ⟨by simpa using h1.1, h1.2⟩
    · split
      · exact ⟨h2.1, by simpa using h2.2⟩
      · exact ⟨Nat.le_succ_of_le h3.1, Nat.le_succ_of_le h3.2⟩
/-- what the walk of the law asks of a setting -/
structure LawOk (b : Bool) (tt : Nat → Bool) (rr : Nat → List Bool) : Prop where
  r4 : ∀ i, (rr i).length ≤ 4
  jo : ∀ i, i < 2 → JoinOk dot (hostL b (tt i) (rr i)) = true ∧ (Txt.join dot (hostL b (tt i) (rr i))).length ≤ 1000
  dm : ∀ i, i < 2 → ∀ x ∈ wordsB b, dmOk (hostS b (tt i) (rr i)) (dotted x) ∧ (Txt.lower (hostS b (tt i) (rr i))).length ≤ 10000 ∧ (Txt.lower (dotted x)).length ≤ 10000
  wl : ∀ x ∈ wordsB b, x.length ≤ 100
  adj : ∀ i, i < 2 → Adj (toldS b (tt i) (rr i))
  cp : ∀ i, i + 1 < (endsI b tt rr 2).length → CpOk (nxt (endsI b tt rr 2) i).1 (nxt (endsI b tt rr 2) (i + 1)).1
  bk : ∀ n, n < 3 → BOk (endsI b tt rr 2) (sharedS (endsI b tt rr 2)) (n + 1)
  e1 : ∀ n, n < 3 → ∀ i : Nat, i < 2 → sizeOf (n + 1) (toldS b (tt i) (rr i)) = ((begun (endsI b tt rr 2) (sharedS (endsI b tt rr 2)) (n + 1)).filter (inG i)).map (·.1)
  e2 : ∀ n, n < 3 → ∀ i : Nat, i < 2 → sizeOf (n + 1) (if i = 0 then (sld (toldS b (tt 0) (rr 0)) (toldS b (tt 1) (rr 1))).1 else (sld (toldS b (tt 0) (rr 0)) (toldS b (tt 1) (rr 1))).2) = ((begun (endsI b tt rr 2) (sharedS (endsI b tt rr 2)) (n + 1)).filter fun g => !inG (1 - (i : Int)) g).map (·.1)
end Mine
end
section
open PySem PySem.W PySem.Spec PySem.Calls PyProof.Rows
set_option maxRecDepth 100000
namespace Mine

/-! the walk of the law -/
def firstOf : List Int → Int
  | [] => 0
  | x :: _ => x
def isOdd (x : Int) : Bool := decide (Int.fmod x 2 = 1)
def rowOf (script : List Int) (o : Int) : List Bool := (pickL script (some o) (some 8) (some 2)).map isOdd
def bOf (script : List Int) : Bool := isOdd (Int.fdiv (firstOf script) 2)
def tOf (script : List Int) (k : Int) : Bool := decide (Int.fdiv (Int.fmod (Int.fdiv (firstOf script) k) 4) 3 = 1)
theorem fmod2 (x : Int) : Int.fmod x 2 = 0 ∨ Int.fmod x 2 = 1 := by
  rw [Int.fmod_eq_emod_of_nonneg x (by decide)]; omega
theorem pick2 {α : Type} (x : Int) (u v : α) : [u, v][(Int.fmod x 2).toNat]? = some (if isOdd x then v else u) := by
  unfold isOdd
  rcases fmod2 x with h | h <;> rw [h] <;> rfl
theorem fm43 (x : Int) : Int.fdiv (Int.fmod x 4) 3 = 0 ∨ Int.fdiv (Int.fmod x 4) 3 = 1 := by
  rw [Int.fmod_eq_emod_of_nonneg x (by decide), Int.fdiv_eq_ediv_of_nonneg _ (by decide)]; omega
theorem pick43 {α : Type} (x : Int) (u v : α) : [u, v][(Int.fdiv (Int.fmod x 4) 3).toNat]? = some (if decide (Int.fdiv (Int.fmod x 4) 3 = 1) then v else u) := by
  rcases fm43 x with h | h <;> rw [h] <;> rfl
theorem first_at (script : List Int) : (script.map D.int ++ [D.int 0])[(0 : Int).toNat]? = some (.int (firstOf script)) := by cases script <;> rfl
theorem pick_le {α : Type} (l : List α) (o : Bool) (h : l.length ≤ 63) : (pickL l (some (if o then 1 else 0)) (some 8) (some 2)).length ≤ 4 := by
  unfold pickL
  refine Nat.le_trans (List.length_filterMap_le _ _) ?_
  have key : ∀ n, n < 64 → ∀ o : Bool, (sliceRange (sliceBounds (some (if o then 1 else 0)) (some 8) (some 2) n).1 (sliceBounds (some (if o then 1 else 0)) (some 8) (some 2) n).2.1 (sliceBounds (some (if o then 1 else 0)) (some 8) (some 2) n).2.2).length ≤ 4 := by decide +kernel
  exact key _ (by omega) o
theorem row_eq (b : Bool) (l : List Int) : ((l.filter fun _ => true).map fun x => D.str (nmB b (isOdd x))) = (nms b (l.map isOdd)).map .str := by
  rw [List.filter_eq_self.mpr fun _ _ => rfl]
  unfold nms
  rw [List.map_map, List.map_map]; rfl
theorem fmod2_ge (x : Int) : 0 ≤ Int.fmod x 2 := by rcases fmod2 x with h | h <;> rw [h] <;> decide
theorem fmod2_lt (x : Int) : Int.fmod x 2 < 2 ^ 63 := by rcases fmod2 x with h | h <;> rw [h] <;> decide
theorem fm43_ge (x : Int) : 0 ≤ Int.fdiv (Int.fmod x 4) 3 := by rcases fm43 x with h | h <;> rw [h] <;> decide
theorem fm43_lt (x : Int) : Int.fdiv (Int.fmod x 4) 3 < 2 ^ 63 := by rcases fm43 x with h | h <;> rw [h] <;> decide
theorem nm_pick (b : Bool) (x : Int) : [D.str (nmB b false), D.str (nmB b true)][(Int.fmod x 2).toNat]? = some (.str (nmB b (isOdd x))) := by rw [pick2]; cases isOdd x <;> rfl
theorem isOdd_nat (i : Nat) : isOdd (2 + (i : Int)) = ((i + 2) % 2 == 1) := by
  unfold isOdd
  rw [Int.fmod_eq_emod_of_nonneg _ (by decide)]
  by_cases h : (i + 2) % 2 = 1
  · rw [decide_eq_true (by omega), h]; rfl
  · rw [decide_eq_false (by omega)]
    have : (i + 2) % 2 = 0 := by omega
    rw [this]; rfl
theorem half_nat (i : Nat) : Int.fdiv (2 + (i : Int)) 2 - 1 = (((i + 2) / 2 - 1 : Nat) : Int) := by
  rw [Int.fdiv_eq_ediv_of_nonneg _ (by decide)]; omega
theorem begun_len {e : List (Str × Int)} {sh : List Int} {n : Nat} (ok : BOk e sh n) : (begun e sh n).length ≤ 100 := by
  have h := GB.all_ n e sh [] 0 ⟨Nat.le_refl _, fun g h => nomatch h⟩ (fun x hx => by
    have := (ok.path x hx).2.2.2
    unfold head; rw [Str.length_append, slash_len]; omega)
  have h1 := h.len
  have h2 := ok.n
  have h3 : (begun e sh n).length ≤ (bAll n e sh []).length := List.length_filter_le _ _
  omega
theorem nxt_at {e : List (Str × Int)} {i : Nat} (h : i < e.length) : (e.map sI)[i]? = some (sI (nxt e i)) := by
  unfold nxt
  rw [List.getElem?_map, List.getD_eq_getElem?_getD, List.getElem?_eq_getElem h]; rfl
/-- a call of sorted_list_difference under a name -/
theorem Ex.setSld {w : World} {A : Around} {env : Env} {s₀ : Shared} {B₀ : Sto} {L : Addr} {cl : List (Str × Addr)} {E C : List (Str × D)} {O : Ow} {x : Str} {p np pos cp : Pos} {e1 e2 : Expr} {xs ys : List Str}
    (hx : xs.length ≤ 1000) (hy : ys.length ≤ 1000) (ax : Adj xs) (ay : Adj ys) (fA : A.frames = some [env]) (f2 : env.frame = some L) (hk1 : (cl.map (·.1)).Nodup) (hk2 : (cl.map (·.2)).Nodup) (rm : Rm 1 A)
    (hn : Ev w A env (FrI w s₀ B₀ L cl E C O) (.Name "sorted_list_difference" np) (.val (.ref 163))) (ha : Evs w A env (FrI w s₀ B₀ L cl E C O) cp [e1, e2] [sL xs, sL ys])
    (he : starEach [e1, e2] env = (false, eval e1 env) :: starEach [e2] env := by rfl)
    (hL : env.locals = L := by rfl) (hk : env.scope.kind = .function := by rfl) (hl : env.kindOf x = some .local := by rfl) (hs : swapsWith (.Call (.Name "sorted_list_difference" np) [e1, e2] [] cp) (some (.Name x p)) pos.line env = pure false := by rfl) :
    Ex w A env (FrI w s₀ B₀ L cl E C O) (.Assign [.Name x p] (.Call (.Name "sorted_list_difference" np) [e1, e2] [] cp) pos) (On (FrI w s₀ B₀ L cl ((x, .tup [sL (sld xs ys).1, sL (sld xs ys).2]) :: E) C O)) := by
  intro B s Q X F k
  obtain ⟨o, fd, ho, hd⟩ : ∃ o fd, (KK w).lookup 163 = some o ∧ o.data = .func fd := ⟨_, _, rfl, rfl⟩
  refine wpAny_Assign_Name (wpAny_Call_NameR (hn B s _ _ F fun v B1 s1 g1 hv => ?_)) hs
  cases hv
  refine callWith_def (o := o) (fd := fd) hd (ha B1 s1 _ _ (FrI.clo.grow F g1) fun vs B2 s2 g2 hvs => ?_) he
  have F2 := FrI.clo.grow (FrI.clo.grow F g1) g2
  refine ⟨(FrI.clo.gd F2).K _ _ ho, sld_call w xs ys hx hy ax ay fA f2 (by rw [hk]; intro h; cases h) F2 hk1 hk2 rm hvs fun v B3 s3 F3 le3 hv => ?_⟩
  exact F3.store hv (fun s4 F4 => k _ _ B3 s4 .next F4 (g1.le.trans (g2.le.trans le3))) hL hk hl
section
variable {w : World} {A : Around} {env : Env} {s₀ s : Shared} {B₀ B : Sto} {L : Addr} {cl : List (Str × Addr)} {E C : List (Str × D)} {O : Ow}
/-- a later start of the count of tokens serves as well -/
theorem FrI.rebase (F : FrI w s₀ B₀ L cl E C O B s) (h : s₀.toks + 1 ≤ s.toks) : FrI w { s₀ with toks := s₀.toks + 1 } B₀ L cl E C O B s :=
  ⟨F.gd.keeps (fun _ _ e => e) (Nat.le_succ _), (let ⟨h', tk, e, k⟩ := F.kp; ⟨h', tk, e, k⟩), h, F.sub, F.le, F.new, F.fresh, F.nL, F.loc, F.cel, F.own, F.fpo, F.nod⟩
/-- the first statement of a def, of which the last thing read is an int: behind it a token is spent -/
theorem Exs.setTk {x : Str} {p p1 p2 pos : Pos} {value : Expr} {y : Int} {k1 : Nat} {dv d d' : D} {ss : List Stmt} (h1 : Ev w A env (FrI w s₀ B₀ L cl E C O) value dv) (pI : Itm w A dv (.int y) d)
    (hn : ∀ s₁ : Shared, 0 < s₁.toks → Exs w A env (FrI w s₁ B₀ L cl ((x, d) :: E) C O) ss (Done d' s₁ B₀))
    (hs : ∀ o i, subscripted (.Constant (.int y) k1 p1) false o i = operate [o, i] (getItem o i) := by intro _ _; with_unfolding_all rfl)
    (hL : env.locals = L := by rfl) (hk : env.scope.kind = .function := by rfl) (hl : env.kindOf x = some .local := by rfl) (hw : swapsWith (.Subscript value (.Constant (.int y) k1 p1) p2) (some (.Name x p)) pos.line env = pure false := by rfl) :
    Exs w A env (FrI w s₀ B₀ L cl E C O) (.Assign [.Name x p] (.Subscript value (.Constant (.int y) k1 p1) p2) pos :: ss) (Done d' s₀ B₀) := by
  have e1 : Ex w A env (FrI w s₀ B₀ L cl E C O) (.Assign [.Name x p] (.Subscript value (.Constant (.int y) k1 p1) p2) pos) (On (FrI w { s₀ with toks := s₀.toks + 1 } B₀ L cl ((x, d) :: E) C O)) := by
    intro B s Q R F k
    refine wpAny_Assign_Name (Subscript_ (h1 B s _ _ F fun v1 B1 s1 g1 hv1 => wpAny_Constant_int ?_)) hw
    have i1 := FrI.clo.grow F g1
    have g2 : Grow B1 s1 B1 { s1 with toks := s1.toks + 1 } := .toks g1.sub (Nat.le_succ _)
    have i2 := FrI.clo.grow i1 g2
    refine wp0 (B := B1) (P := fun B v => V B v d) (fun v B' s' g hv => ?_) fun Q' E' k' => ?_
    · have i3 := (FrI.clo.grow i2 g).rebase (Nat.le_trans (Nat.succ_le_succ i1.tk) g.tk)
      exact i3.store hv (fun s'' F'' => k _ _ B' s'' .next F'' (g1.le.trans g.le)) hL hk hl
    · obtain ⟨T, id, hT, hl, hg⟩ := pI B1 _ v1 _ Q' E' (FrI.clo.gd i2) g2.sub hv1 (.int y _) k'
      exact tail_any hT hl hg (hs v1 _)
  exact .on e1 ((hn _ (Nat.succ_pos _)).post fun fl B s h => ⟨h.1, (let ⟨h', tk, e, k⟩ := h.2.kp; ⟨h', tk, e, k⟩), h.2.le, h.2.sub, h.2.new, Nat.le_of_succ_le h.2.tk⟩)
end
set_option maxHeartbeats 16000000 in
theorem law_run (w : World) (script : List Int) (hsc : script.length ≤ 63) (tt : Nat → Bool) (rr : Nat → List Bool) (ht0 : tt 0 = tOf script 4) (ht1 : tt 1 = tOf script 16) (hr0 : rr 0 = rowOf script 0) (hr1 : rr 1 = rowOf script 1)
    (ok : LawOk (bOf script) tt rr) {A : Around} (fA : A.frames = some []) {B : Sto} {s : Shared} {vs : List Value} {Q X : Value → Shared → Prop} (rm : Rm 14 A) (gd : Gd w s) (sb : Sub B s.heap) (hv : VAll B vs [.lst (script.map .int)])
    (q : ∀ v B' s', Grow B s B' s' → V B' v (.bool true) → Q v s') : wpAny (MM w) A (call (.ref 201) vs) Q X s := by
  have hsl : sizeLine = 16777216 := by decide
  refine callC (k := 13) [Str.ofString "script"] rfl (by kernel_rfl) (fun vs h => ?_) (by decide) rfl (by decide) ?_ rm gd sb hv q
  · match vs, h with
    | [v], _ => rfl
  · intro s₀ B₀ L cl
    have rm' : ∀ e : Env, Rm 13 (A.deeper e) := fun e => rm.deeper
    have fr' : ∀ e : Env, (A.deeper e).frames = some [e] := fun e => by show A.frames.map _ = _; rw [fA]; rfl
    have hd' : ∀ e : Env, (A.deeper e).handled = none := fun e => (rm' e).hd
    generalize hfst : firstOf script = fst at *
    refine .weakF [(Str.ofString "script", .lst (script.map .int))] [] (.cons rfl .nil) .nil ?_
    refine .setTk (.bin FrI.clo (.locF rfl) (.list FrI.clo (.cons FrI.clo (.cint FrI.clo) (.nil FrI.clo)) (show 1 ≤ sizeLine by decide)) (.addL (by rw [List.length_map]; simp; omega))) (.lst (by decide) (by decide) (first_at script)) fun s₀ h0 => ?_
    rw [hfst]
    have hb : bOf script = isOdd (Int.fdiv fst 2) := by unfold bOf; rw [hfst]
    generalize bOf script = b at *
    refine @Exs.on _ _ _ _ _ _ _ _ (@Ex.setC _ _ _ _ _ _ _ _ _ _ _ _ (.lst [.str (nmB b false), .str (nmB b true)]) _ _ _ (@Ev.list _ _ _ _ _ _ _ FrI.clo (@Evs.cons _ _ _ _ _ _ _ _ _ FrI.clo (.cstr FrI.clo) (@Evs.cons _ _ _ _ _ _ _ _ _ FrI.clo (@Ev.cast _ _ _ _ _ _ _ (@Ev.itm _ _ _ _ _ _ _ _ _ _ FrI.clo (@Ev.list _ _ _ _ _ _ _ FrI.clo (@Evs.cons _ _ _ _ _ _ _ _ _ FrI.clo (.cstr FrI.clo) (@Evs.cons _ _ _ _ _ _ _ _ _ FrI.clo (.cstr FrI.clo) (.nil FrI.clo) (by rfl)) (by rfl)) (show 2 ≤ sizeLine by decide)) (@Ev.bin _ _ _ _ _ _ _ _ _ _ _ FrI.clo (@Ev.bin _ _ _ _ _ _ _ _ _ _ _ FrI.clo (.locF rfl) (.cint FrI.clo) (.fdiv (by decide) (by decide))) (.cint FrI.clo) (.fmod (by decide))) (.lst ?_ ?_ (pick2 _ _ _)) (by intro _ _; with_unfolding_all rfl)) ?_) (.nil FrI.clo) (by rfl)) (by rfl)) (show 2 ≤ sizeLine by decide)) rfl (cells_inj rfl) (by rfl) (by rfl) (by rfl) (by rfl)) ?_
    · exact fmod2_ge _
    · exact fmod2_lt _
    · rw [← hb]; cases b <;> rfl
    have p0 : (pickL script (some 0) (some 8) (some 2)).length ≤ 10000 := Nat.le_trans (pick_le script false hsc) (by decide)
    have p1 : (pickL script (some 1) (some 8) (some 2)).length ≤ 10000 := Nat.le_trans (pick_le script true hsc) (by decide)
    refine .on (.setL (d := .lst [sL (nms b (rr 0)), sL (nms b (rr 1))]) (.list FrI.clo (.cons FrI.clo (.cast (.comp (cl := [(Str.ofString "names", L + 1)]) (l := pickL script (some 0) (some 8) (some 2)) (g := .int) (p := fun _ => true) (f := fun x => .str (nmB b (isOdd x))) FrI.clo (.cast (.slice FrI.clo (.locF rfl) (.some (.cint FrI.clo)) (.some (.cint FrI.clo)) (.some (.cint FrI.clo)) (by decide) (by rw [List.length_map]; omega)) (by rw [pickL_map])) (.lst (hd' _)) p0 (fun B1 s1 Cc Oo i a F hi => ⟨_, .loc, .nil FrI.clo, fun _ => .itm FrI.clo (.celE (F.celOf (Str.ofString "names") rfl rfl)) (.bin FrI.clo (.locF rfl) (.cint FrI.clo) (.fmod (by decide))) (.lst (fmod2_ge _) (fmod2_lt _) (nm_pick b a))⟩)) (by rw [hr0, row_eq]; rfl))
      (.cons FrI.clo (.cast (.comp (cl := [(Str.ofString "names", L + 1)]) (l := pickL script (some 1) (some 8) (some 2)) (g := .int) (p := fun _ => true) (f := fun x => .str (nmB b (isOdd x))) FrI.clo (.cast (.slice FrI.clo (.locF rfl) (.some (.cint FrI.clo)) (.some (.cint FrI.clo)) (.some (.cint FrI.clo)) (by decide) (by rw [List.length_map]; omega)) (by rw [pickL_map])) (.lst (hd' _)) p1 (fun B1 s1 Cc Oo i a F hi => ⟨_, .loc, .nil FrI.clo, fun _ => .itm FrI.clo (.celE (F.celOf (Str.ofString "names") rfl rfl)) (.bin FrI.clo (.locF rfl) (.cint FrI.clo) (.fmod (by decide))) (.lst (fmod2_ge _) (fmod2_lt _) (nm_pick b a))⟩)) (by rw [hr1, row_eq]; rfl)) (.nil FrI.clo))) (show 2 ≤ sizeLine by decide))) ?_
    have t0e : tt 0 = decide (Int.fdiv (Int.fmod (Int.fdiv fst 4) 4) 3 = 1) := by rw [ht0]; unfold tOf; rw [hfst]
    have t1e : tt 1 = decide (Int.fdiv (Int.fmod (Int.fdiv fst 16) 4) 3 = 1) := by rw [ht1]; unfold tOf; rw [hfst]
    refine @Exs.on _ _ _ _ _ _ _ _ (@Ex.setL _ _ _ _ _ _ _ _ _ _ _ _ (.lst [.str (topB (tt 0)), .str (topB (tt 1))]) _ _ (@Ev.list _ _ _ _ _ _ _ FrI.clo (@Evs.cons _ _ _ _ _ _ _ _ _ FrI.clo (@Ev.cast _ _ _ _ _ _ _ (@Ev.itm _ _ _ _ _ _ _ _ _ _ FrI.clo (@Ev.list _ _ _ _ _ _ _ FrI.clo (@Evs.cons _ _ _ _ _ _ _ _ _ FrI.clo (.cstr FrI.clo) (@Evs.cons _ _ _ _ _ _ _ _ _ FrI.clo (.cstr FrI.clo) (.nil FrI.clo) (by rfl)) (by rfl)) (show 2 ≤ sizeLine by decide)) (@Ev.bin _ _ _ _ _ _ _ _ _ _ _ FrI.clo (@Ev.bin _ _ _ _ _ _ _ _ _ _ _ FrI.clo (@Ev.bin _ _ _ _ _ _ _ _ _ _ _ FrI.clo (.locF rfl) (.cint FrI.clo) (.fdiv (by decide) (by decide))) (.cint FrI.clo) (.fmod (by decide))) (.cint FrI.clo) (.fdiv (by decide) (by decide))) (.lst (fm43_ge _) (fm43_lt _) (pick43 _ _ _)) (by intro _ _; with_unfolding_all rfl)) (by rw [← t0e]; cases tt 0 <;> rfl)) (@Evs.cons _ _ _ _ _ _ _ _ _ FrI.clo (@Ev.cast _ _ _ _ _ _ _ (@Ev.itm _ _ _ _ _ _ _ _ _ _ FrI.clo (@Ev.list _ _ _ _ _ _ _ FrI.clo (@Evs.cons _ _ _ _ _ _ _ _ _ FrI.clo (.cstr FrI.clo) (@Evs.cons _ _ _ _ _ _ _ _ _ FrI.clo (.cstr FrI.clo) (.nil FrI.clo) (by rfl)) (by rfl)) (show 2 ≤ sizeLine by decide)) (@Ev.bin _ _ _ _ _ _ _ _ _ _ _ FrI.clo (@Ev.bin _ _ _ _ _ _ _ _ _ _ _ FrI.clo (@Ev.bin _ _ _ _ _ _ _ _ _ _ _ FrI.clo (.locF rfl) (.cint FrI.clo) (.fdiv (by decide) (by decide))) (.cint FrI.clo) (.fmod (by decide))) (.cint FrI.clo) (.fdiv (by decide) (by decide))) (.lst (fm43_ge _) (fm43_lt _) (pick43 _ _ _)) (by intro _ _; with_unfolding_all rfl)) (by rw [← t1e]; cases tt 1 <;> rfl)) (.nil FrI.clo) (by rfl)) (by rfl)) (show 2 ≤ sizeLine by decide)) (by rfl) (by rfl) (by rfl) (by rfl)) ?_
    clear ht0 ht1 hr0 hr1 hfst t0e t1e hb
    refine .weakF [(Str.ofString "tops", .lst [.str (topB (tt 0)), .str (topB (tt 1))]), (Str.ofString "rows", .lst [sL (nms b (rr 0)), sL (nms b (rr 1))])] [(Str.ofString "names", .lst [.str (nmB b false), .str (nmB b true)])] (.cons rfl (.cons rfl .nil)) (.cons rfl .nil) ?_
    refine .newLE (.cons FrI.clo (.cstr FrI.clo) (.nil FrI.clo)) (show 1 ≤ sizeLine by decide) fun a => ?_
    refine Exs.pre' (I' := FrI w s₀ B₀ L cl [(Str.ofString "ways", .val (.ref a)), (Str.ofString "tops", .lst [.str (topB (tt 0)), .str (topB (tt 1))]), (Str.ofString "rows", .lst [sL (nms b (rr 0)), sL (nms b (rr 1))])] [(Str.ofString "names", .lst [.str (nmB b false), .str (nmB b true)])] (Ow.own a ((waysK b 0).map .str))) (fun B s F => F.ow (fun b' hb' => List.mem_append.mpr (.inl hb')) (by show [a].Nodup; simp) F.own.1) ?_
    let En : List (Str × D) := [(Str.ofString "ways", .val (.ref a)), (Str.ofString "tops", .lst [.str (topB (tt 0)), .str (topB (tt 1))]), (Str.ofString "rows", .lst [sL (nms b (rr 0)), sL (nms b (rr 1))])]
    let Cn : List (Str × D) := [(Str.ofString "names", .lst [.str (nmB b false), .str (nmB b true)])]
    refine .on (Ex.forN (ds := rngL 2 16) (fun _ => En) (fun _ => Cn) (fun i => Ow.own a ((waysK b i).map .str)) (.tyCall FrI.clo (.blt FrI.clo (nb_range w) bb_range) (.cons FrI.clo (.cint FrI.clo) (.cons FrI.clo (.cint FrI.clo) (.nil FrI.clo))) .range2) (.rng (hd' _) (by decide)) ?_) ?_
    · intro i d P hd
      obtain ⟨rfl, hi⟩ := rngL_get hd
      have hi' : i < 14 := hi
      have hget : (waysK b i)[(i + 2) / 2 - 1]? = some ((waysK b i).getD ((i + 2) / 2 - 1) slash) := by
        rw [List.getD_eq_getElem?_getD, List.getElem?_eq_getElem (by rw [ways_len]; omega)]; rfl
      have hlen : ((waysK b i).getD ((i + 2) / 2 - 1) slash).length + (nmB b ((i + 2) % 2 == 1)).length + 10 ≤ 10000000 := by
        have h1 := ways_bound b i (by omega) _ (List.mem_of_getElem? hget)
        have h2 := nmB_len b ((i + 2) % 2 == 1)
        omega
      have hH : Has a ((waysK b i).map .str) ((waysK b i).map .str ++ [.str (jn ((waysK b i).getD ((i + 2) / 2 - 1) slash) (nmB b ((i + 2) % 2 == 1)))]) (P.and (Ow.own a ((waysK b i).map .str))) (P.and (Ow.own a ((waysK b (i + 1)).map .str))) := by
        have e : (waysK b (i + 1)).map D.str = (waysK b i).map .str ++ [.str (jn ((waysK b i).getD ((i + 2) / 2 - 1) slash) (nmB b ((i + 2) % 2 == 1)))] := by rw [waysK, List.map_append]; rfl
        rw [e]; exact .there .only
      refine ⟨_, .loc, .on (.app (.locF rfl) (.call FrI.clo ((rm' _).le (show 2 ≤ 13 by decide)) (join_fn w _ _ hlen) (.glob FrI.clo (gl_join w)) rfl rfl (.cons FrI.clo (.itmO (ds := (waysK b i).map .str) (k := (i + 2) / 2 - 1) (.locF rfl) (.cast (.bin FrI.clo (.bin FrI.clo (.locF rfl) (.cint FrI.clo) (.fdiv (by decide) (by decide))) (.cint FrI.clo) .sub) (by rw [half_nat])) (fun x => x.2) (by rw [List.getElem?_map, hget]; rfl) (by omega)) (.cons FrI.clo (.itm FrI.clo (.celF rfl) (.bin FrI.clo (.locF rfl) (.cint FrI.clo) (.fmod (by decide))) (.lst (fmod2_ge _) (fmod2_lt _) (by rw [nm_pick, isOdd_nat]))) (.nil FrI.clo)))) hH (by rw [List.length_map, ways_len]; omega)) (.nilF (.cons rfl (.cons rfl (.cons rfl .nil))) (.cons rfl .nil))⟩
    refine Exs.pre (I' := FrI w s₀ B₀ L cl [(Str.ofString "ways", sL (waysK b 14)), (Str.ofString "tops", .lst [.str (topB (tt 0)), .str (topB (tt 1))]), (Str.ofString "rows", .lst [sL (nms b (rr 0)), sL (nms b (rr 1))])] Cn Ow.nil) (fun B s F => ?_) ?_
    · have F' : FrI w s₀ B₀ L cl En Cn (Ow.own a ((waysK b 14).map .str)) B s := F
      obtain ⟨B2, le2, hV, F2⟩ := (F'.ow (O' := (Ow.own a ((waysK b 14).map .str)).and Ow.nil) (fun b' hb' => by simpa [Ow.and, Ow.nil] using hb') (by show ([a] ++ []).Nodup; simp) ⟨F'.own, trivial⟩).freeze
      exact ⟨B2, le2, (F2.retype (x := Str.ofString "ways") rfl hV).weak (.cons rfl (.cons rfl (.cons rfl .nil))) (.cons rfl .nil)⟩
    have hw14 := ways_len b 14
    refine .on (.setSorted (ps := (waysK b 14).drop 1) (.blt FrI.clo (nb_sorted w) bb_sorted) (.cast (.slice FrI.clo (.locF rfl) (.some (.cint FrI.clo)) (.none FrI.clo) (.none FrI.clo) (by intro h; cases h) (by rw [List.length_map]; omega)) (by rw [show pickL ((waysK b 14).map D.str) (some 1) none none = ((waysK b 14).map D.str).drop 1 from pickL_from _ 1, ← List.map_drop]; rfl)) (by rw [List.length_drop]; omega) (by rw [List.length_drop]; omega) (sorted_ok b)) ?_
    refine .newL fun a2 => ?_
    refine .on (.setC (.list FrI.clo (.nil FrI.clo) (Nat.zero_le _)) rfl (cells_inj rfl)) ?_
    let Eo : List (Str × D) := [(Str.ofString "told", .val (.ref a2)), (Str.ofString "words", sL (wordsB b)), (Str.ofString "tops", .lst [.str (topB (tt 0)), .str (topB (tt 1))]), (Str.ofString "rows", .lst [sL (nms b (rr 0)), sL (nms b (rr 1))])]
    refine Exs.pre' (I' := FrI w s₀ B₀ L cl Eo [(Str.ofString "ends", .lst ((endsI b tt rr 0).map sI)), (Str.ofString "names", .lst [.str (nmB b false), .str (nmB b true)])] (Ow.own a2 ((toldI b tt rr 0).map sL))) (fun B s F => (F.ow (fun b' hb' => List.mem_append.mpr (.inl hb')) (by show [a2].Nodup; simp) F.own.1).weak (.cons rfl (.cons rfl (.cons rfl (.cons rfl .nil)))) (.cons rfl (.cons rfl .nil))) ?_
    have hrow : ∀ i, i < 2 → [sL (nms b (rr 0)), sL (nms b (rr 1))][i]? = some (sL (nms b (rr i))) := fun i hi => by
      match i, hi with
      | 0, _ => rfl
      | 1, _ => rfl
    have htop : ∀ i, i < 2 → [D.str (topB (tt 0)), D.str (topB (tt 1))][i]? = some (.str (topB (tt i))) := fun i hi => by
      match i, hi with
      | 0, _ => rfl
      | 1, _ => rfl
    have hnl : ∀ i, (nms b (rr i)).length ≤ 4 := fun i => by unfold nms; rw [List.length_map]; exact ok.r4 i
    refine .on (Ex.forN (ds := rngL 0 2) (fun _ => Eo) (fun i => [(Str.ofString "ends", .lst ((endsI b tt rr i).map sI)), (Str.ofString "names", .lst [.str (nmB b false), .str (nmB b true)])]) (fun i => Ow.own a2 ((toldI b tt rr i).map sL)) (.tyCall FrI.clo (.blt FrI.clo (nb_range w) bb_range) (.cons FrI.clo (.cint FrI.clo) (.nil FrI.clo)) .range1) (.rng (hd' _) (by decide)) ?_) ?_
    · intro i d P hd
      obtain ⟨rfl, hi⟩ := rngL_get hd
      have hi2 : i < 2 := hi
      rw [Int.zero_add]
      have hri := hrow i hi2
      have hti := htop i hi2
      have joi := ok.jo i hi2
      have hni := hnl i
      refine ⟨_, .cel rfl (cells_inj rfl), ?_⟩
      refine @Exs.on _ _ _ _ _ _ _ _ (@Ex.setC _ _ _ _ _ _ _ _ _ _ _ _ (.str (hostS b (tt i) (rr i))) _ _ _ (@Ev.meth _ _ _ _ _ _ _ _ _ _ _ _ _ _ FrI.clo (@Ev.meth _ _ _ _ _ _ _ _ _ _ _ _ _ _ FrI.clo (.cstr FrI.clo) .join (@Evs.cons _ _ _ _ _ _ _ _ _ FrI.clo (@Ev.cast _ _ _ _ _ _ _ (@Ev.bin _ _ _ _ _ _ _ _ _ _ _ FrI.clo (@Ev.bin _ _ _ _ _ _ _ _ _ _ _ FrI.clo (@Ev.list _ _ _ _ _ _ _ FrI.clo (@Evs.cons _ _ _ _ _ _ _ _ _ FrI.clo (.cstr FrI.clo) (.nil FrI.clo) (by rfl)) (show 1 ≤ sizeLine by decide)) (@Ev.itm _ _ _ _ _ _ _ _ _ _ FrI.clo (.locF rfl) (.celF rfl) (.lst (by omega) (by omega) (by rw [Int.toNat_natCast]; exact hri)) (by intro _ _; with_unfolding_all rfl)) (.addL (by rw [List.length_map]; simp; omega))) (@Ev.list _ _ _ _ _ _ _ FrI.clo (@Evs.cons _ _ _ _ _ _ _ _ _ FrI.clo (@Ev.itm _ _ _ _ _ _ _ _ _ _ FrI.clo (.locF rfl) (.celF rfl) (.lst (by omega) (by omega) (by rw [Int.toNat_natCast]; exact hti)) (by intro _ _; with_unfolding_all rfl)) (.nil FrI.clo) (by rfl)) (show 1 ≤ sizeLine by decide)) (.addL (by simp; omega))) (show D.lst (([D.str (Str.ofString "w")] ++ (nms b (rr i)).map .str) ++ [.str (topB (tt i))]) = sL (hostL b (tt i) (rr i)) by unfold hostL sL; rw [List.map_append, List.map_append]; rfl)) (.nil FrI.clo) (by rfl)) (.join joi.1) (by rfl) (by rfl)) .upper (.nil FrI.clo) (.upper (Nat.le_trans joi.2 (by decide))) (by rfl) (by rfl)) rfl (cells_inj rfl) (by rfl) (by rfl) (by rfl) (by rfl)) ?_
      have dmi := ok.dm i hi2
      have hwl := ok.wl
      have hH : Has a2 ((toldI b tt rr i).map sL) ((toldI b tt rr i).map sL ++ [sL (toldS b (tt i) (rr i))]) (P.and (Ow.own a2 ((toldI b tt rr i).map sL))) (P.and (Ow.own a2 ((toldI b tt rr (i + 1)).map sL))) := by
        have e : (toldI b tt rr (i + 1)).map sL = (toldI b tt rr i).map sL ++ [sL (toldS b (tt i) (rr i))] := by rw [toldI, List.map_append]; rfl
        rw [e]; exact .there .only
      have hwn : (wordsB b).length = 14 := by cases b <;> rfl
      refine .on (.app (.locF rfl) (.comp (cl := [(Str.ofString "host", L + 1 + 1 + 1 + 1)]) (l := wordsB b) (g := .str) (p := fun x => dm (hostS b (tt i) (rr i)) (dotted x)) (f := .str) FrI.clo (.locF rfl) (.lst (hd' _)) (by omega) (fun B1 s1 Cc Oo j x F hj => ⟨_, .loc, .one (.val FrI.clo (.call FrI.clo ((rm' _).le (show 2 ≤ 13 by decide)) (dm_fn w (hostS b (tt i) (rr i)) (dotted x) (dmi x (List.mem_of_getElem? hj)).1 (dmi x (List.mem_of_getElem? hj)).2.1 (dmi x (List.mem_of_getElem? hj)).2.2) (.glob FrI.clo (gl_dm w)) rfl rfl (.cons FrI.clo (.celE (F.celOf (Str.ofString "host") rfl rfl)) (.cons FrI.clo (.replace FrI.clo (.locF rfl) (by decide) (Nat.le_trans (hwl x (List.mem_of_getElem? hj)) (by decide)) (by decide) (fun G => Nat.lt_of_lt_of_le h0 (Nat.le_trans F.tk G.tk))) (.nil FrI.clo)))) .bool), fun _ => .locF rfl⟩)) hH (by rw [List.length_map, toldI_len]; omega)) ?_
      have hel : (endsI b tt rr i).length ≤ 8 := by have := endsI_len b tt rr ok.r4 i; omega
      refine .if2F Eo [(Str.ofString "ends", .lst ((endsI b tt rr (i + 1)).map sI)), (Str.ofString "names", .lst [.str (nmB b false), .str (nmB b true)])] (b := topB (tt i) == Str.ofString "com") (.cmp FrI.clo (.itm FrI.clo (.locF rfl) (.celF rfl) (.lst (by omega) (by omega) (by rw [Int.toNat_natCast]; exact hti))) (.cstr FrI.clo) .eqS) (fun ht => ?_) (fun ht => ?_) (.nil fun B s F => F)
      · have htt : tt i = false := by
          cases q : tt i with
          | false => rfl
          | true => rw [q] at ht; exact absurd ht (by decide)
        have hE : endsI b tt rr (i + 1) = endsK b (rr i) i (endsI b tt rr i) (nms b (rr i)).length := by
          rw [endsI, if_neg (by rw [htt]; exact Bool.false_ne_true)]; unfold nms; rw [List.length_map]
        rw [hE]
        refine .weakF Eo [(Str.ofString "ends", .lst ((endsK b (rr i) i (endsI b tt rr i) 0).map sI)), (Str.ofString "owner", .int i), (Str.ofString "names", .lst [.str (nmB b false), .str (nmB b true)])] (.cons rfl (.cons rfl (.cons rfl (.cons rfl .nil)))) (.cons rfl (.cons rfl (.cons rfl .nil))) ?_
        refine .on (Ex.forN (ds := rngL 0 (nms b (rr i)).length) (fun _ => Eo) (fun k => [(Str.ofString "ends", .lst ((endsK b (rr i) i (endsI b tt rr i) k).map sI)), (Str.ofString "owner", .int i), (Str.ofString "names", .lst [.str (nmB b false), .str (nmB b true)])]) (fun _ => P.and (Ow.own a2 ((toldI b tt rr (i + 1)).map sL)))
          (.tyCall FrI.clo (.blt FrI.clo (nb_range w) bb_range) (.cons FrI.clo (.cast (.bltCall FrI.clo (.blt FrI.clo (nb_len w) bb_len) (.cons FrI.clo (.itm FrI.clo (.locF rfl) (.celF rfl) (.lst (by omega) (by omega) (by rw [Int.toNat_natCast]; exact hri))) (.nil FrI.clo)) (.len (by rw [List.length_map]; omega))) (by rw [List.length_map])) (.nil FrI.clo)) .range1) (.rng (hd' _) (small_rng (by omega))) ?_) ?_
        · intro k d P2 hd
          obtain ⟨rfl, hk⟩ := rngL_get hd
          have hk2 : k < (nms b (rr i)).length := by omega
          rw [Int.zero_add]
          refine ⟨_, .loc, ?_⟩
          refine .on (.setC (d := .lst ((endsK b (rr i) i (endsI b tt rr i) (k + 1)).map sI)) (.call FrI.clo ((rm' _).le (show 2 ≤ 13 by decide)) (setin_fn w (endsK b (rr i) i (endsI b tt rr i) k) (way ((nms b (rr i)).drop k), i) (by rw [endsK_len]; omega)) (.glob FrI.clo (gl_setin w)) rfl rfl (.cons FrI.clo (.celF rfl) (.cons FrI.clo (.tuple FrI.clo (.cons FrI.clo (.call FrI.clo ((rm' _).le (show 3 ≤ 13 by decide)) (way_fn w ((nms b (rr i)).drop k) (by rw [List.length_drop]; omega) (fun n hn => Nat.le_trans (nms_len n (List.mem_of_mem_drop hn)) (by decide))) (.glob FrI.clo (gl_way w)) rfl rfl (.cons FrI.clo (.cast (.slice FrI.clo (.itm FrI.clo (.locF rfl) (.celF rfl) (.lst (by omega) (by omega) (by rw [Int.toNat_natCast]; exact hri))) (.some (.locF rfl)) (.none FrI.clo) (.none FrI.clo) (by intro h; cases h) (by rw [List.length_map]; omega)) (by rw [pickL_from, ← List.map_drop]; rfl)) (.nil FrI.clo))) (.cons FrI.clo (.celF rfl) (.nil FrI.clo))) (show 2 ≤ sizeLine by decide)) (.nil FrI.clo)))) rfl (cells_inj rfl)) (.nilF (.cons rfl (.cons rfl (.cons rfl (.cons rfl .nil)))) (.cons rfl (.cons rfl (.cons rfl .nil))))
        · refine .nil fun B s F => ?_
          have hl : (rngL 0 (nms b (rr i)).length).length = (nms b (rr i)).length := by rw [rngL_length]; omega
          rw [hl] at F
          exact F.weak (.cons rfl (.cons rfl (.cons rfl (.cons rfl .nil)))) (.cons rfl (.cons rfl .nil))
      · have htt : tt i = true := by
          cases q : tt i with
          | true => rfl
          | false => rw [q] at ht; exact absurd ht (by decide)
        have hE : endsI b tt rr (i + 1) = endsI b tt rr i := by rw [endsI, if_pos htt]
        rw [hE]
        exact .nilF (.cons rfl (.cons rfl (.cons rfl (.cons rfl .nil)))) (.cons rfl (.cons rfl .nil))
    · have okcp := ok.cp
      have okbk := ok.bk
      have e1 := ok.e1
      have e2 := ok.e2
      have adj0 := ok.adj 0 (by decide)
      have adj1 := ok.adj 1 (by decide)
      have hel : (endsI b tt rr 2).length ≤ 8 := endsI_len b tt rr ok.r4 2
      have tl : ∀ i, (toldS b (tt i) (rr i)).length ≤ 1000 := fun i => Nat.le_trans (List.length_filter_le _ _) (by rw [show (wordsB b).length = 14 by cases b <;> rfl]; decide)
      refine Exs.pre (I' := FrI w s₀ B₀ L cl [(Str.ofString "told", .lst [sL (toldS b (tt 0) (rr 0)), sL (toldS b (tt 1) (rr 1))])] [(Str.ofString "ends", .lst ((endsI b tt rr 2).map sI))] Ow.nil) (fun B s F => ?_) ?_
      · have F' : FrI w s₀ B₀ L cl Eo [(Str.ofString "ends", .lst ((endsI b tt rr 2).map sI)), (Str.ofString "names", .lst [.str (nmB b false), .str (nmB b true)])] (Ow.own a2 [sL (toldS b (tt 0) (rr 0)), sL (toldS b (tt 1) (rr 1))]) B s := F
        obtain ⟨B2, le2, hV, F2⟩ := (F'.ow (O' := (Ow.own a2 [sL (toldS b (tt 0) (rr 0)), sL (toldS b (tt 1) (rr 1))]).and Ow.nil) (fun b' hb' => by simpa [Ow.and, Ow.nil] using hb') (by show ([a2] ++ []).Nodup; simp) ⟨F'.own, trivial⟩).freeze
        exact ⟨B2, le2, (F2.retype (x := Str.ofString "told") rfl hV).weak (.cons rfl .nil) (.cons rfl .nil)⟩
      generalize endsI b tt rr 2 = EN at *
      have hT : ∀ i, i < 2 → [sL (toldS b (tt 0) (rr 0)), sL (toldS b (tt 1) (rr 1))][i]? = some (sL (toldS b (tt i) (rr i))) := fun i hi => by
        match i, hi with
        | 0, _ => rfl
        | 1, _ => rfl
      have hT0 : toldS b (tt 0) (rr 0) = toldS b (tt 0) (rr 0) := rfl
      generalize hTT : (fun i => toldS b (tt i) (rr i)) = T at *
      have hTi : ∀ i, toldS b (tt i) (rr i) = T i := fun i => by rw [← hTT]
      simp only [hTi] at e1 e2 adj0 adj1 hT tl ⊢
      clear hT0 hTT hTi
      refine .on (.setL (d := .lst ((sharedS EN).map .int)) (.cast (.bin FrI.clo (.list FrI.clo (.cons FrI.clo (.cint FrI.clo) (.nil FrI.clo)) (show 1 ≤ sizeLine by decide)) (.comp (cl := [(Str.ofString "ends", L + 1 + 1)]) (l := List.range ((EN.length : Int) - 1).toNat) (g := fun (i : Nat) => .int (1 + (i : Int))) (p := fun _ => true) (f := fun i => .int (depth (cp (nxt EN i).1 (nxt EN (i + 1)).1))) FrI.clo
        (.tyCall FrI.clo (.blt FrI.clo (nb_range w) bb_range) (.cons FrI.clo (.cint FrI.clo) (.cons FrI.clo (.cast (.bltCall FrI.clo (.blt FrI.clo (nb_len w) bb_len) (.cons FrI.clo (.celF rfl) (.nil FrI.clo)) (.len (by rw [List.length_map]; omega))) (by rw [List.length_map])) (.nil FrI.clo))) .range2)
        (show Itr w _ (.rng 1 EN.length) (rngL 1 EN.length) from .rng (hd' _) (small_one (by decide) (by decide) (by omega) (by omega))) (by rw [List.length_range]; omega) (fun B1 s1 Cc Oo j k F hj => ⟨_, .loc, .nil FrI.clo, fun _ => .call FrI.clo ((rm' _).le (show 1 ≤ 13 by decide)) (depth_fn w _) (.glob FrI.clo (gl_depth w)) rfl rfl (.cons FrI.clo (.call FrI.clo ((rm' _).le (show 9 ≤ 13 by decide)) (common_fn w (nxt EN k).1 (nxt EN (k + 1)).1 (okcp k ?_)) (.glob FrI.clo (gl_common w)) rfl rfl (.cons FrI.clo (.list FrI.clo
          (.cons FrI.clo (.itm FrI.clo (.itm FrI.clo (.celE (F.celOf (Str.ofString "ends") rfl rfl)) (.bin FrI.clo (.locF rfl) (.cint FrI.clo) .sub) (.lst (d := sI (nxt EN k)) ?_ ?_ ?_)) (.cint FrI.clo) (.tup (by decide) (by decide) rfl))
          (.cons FrI.clo (.itm FrI.clo (.itm FrI.clo (.celE (F.celOf (Str.ofString "ends") rfl rfl)) (.locF rfl) (.lst (d := sI (nxt EN (k + 1))) ?_ ?_ ?_)) (.cint FrI.clo) (.tup (by decide) (by decide) rfl)) (.nil FrI.clo))) (show 2 ≤ sizeLine by decide)) (.nil FrI.clo))) (.nil FrI.clo))⟩)) (.addL ?_)) ?_)) ?_
      · have hk : k < ((EN.length : Int) - 1).toNat := List.mem_range.mp (List.mem_of_getElem? hj)
        omega
      · omega
      · have hk : k < ((EN.length : Int) - 1).toNat := List.mem_range.mp (List.mem_of_getElem? hj)
        omega
      · have hk : k < ((EN.length : Int) - 1).toNat := List.mem_range.mp (List.mem_of_getElem? hj)
        rw [show (1 + (k : Int) - 1).toNat = k by omega]
        exact nxt_at (by omega)
      · omega
      · have hk : k < ((EN.length : Int) - 1).toNat := List.mem_range.mp (List.mem_of_getElem? hj)
        omega
      · have hk : k < ((EN.length : Int) - 1).toNat := List.mem_range.mp (List.mem_of_getElem? hj)
        rw [show (1 + (k : Int)).toNat = k + 1 by omega]
        exact nxt_at (by omega)
      · rw [List.length_map]
        have h1 : ((List.range ((EN.length : Int) - 1).toNat).filter fun _ => true).length ≤ (List.range ((EN.length : Int) - 1).toNat).length := List.length_filter_le _ _
        rw [List.length_range] at h1
        simp only [List.length_cons, List.length_nil]
        omega
      · rw [List.filter_eq_self.mpr fun _ _ => rfl, show ((EN.length : Int) - 1).toNat = EN.length - 1 by omega]
        unfold sharedS
        rw [List.map_cons, List.map_map]; rfl
      · refine .on (.setSld (xs := T 0) (ys := T 1) (tl 0) (tl 1) adj0 adj1 (fr' _) rfl (by show [Str.ofString "size", Str.ofString "host", Str.ofString "owner", Str.ofString "ends", Str.ofString "names"].Nodup; decide) (cells_vals L _) ((rm' _).le (show 1 ≤ 13 by decide)) (.glob FrI.clo (gl_diff w)) (.cons FrI.clo (.itm FrI.clo (.locF rfl) (.cint FrI.clo) (.lst (by decide) (by decide) rfl)) (.cons FrI.clo (.itm FrI.clo (.locF rfl) (.cint FrI.clo) (.lst (by decide) (by decide) rfl)) (.nil FrI.clo)))) ?_
        generalize sharedS EN = SH at *
        have alen : (sld (T 0) (T 1)).1.length ≤ 1000 ∧ (sld (T 0) (T 1)).2.length ≤ 1000 := by
          have h := sldF_len ((T 0).length + (T 1).length) (T 0) (T 1)
          exact ⟨Nat.le_trans h.1 (tl 0), Nat.le_trans h.2 (tl 1)⟩
        generalize sld (T 0) (T 1) = AL at *
        have hAL : ∀ i, i < 2 → [sL AL.1, sL AL.2][i]? = some (sL (if i = 0 then AL.1 else AL.2)) := fun i hi => by
          match i, hi with
          | 0, _ => rfl
          | 1, _ => rfl
        let Es : List (Str × D) := [(Str.ofString "alone", .tup [sL AL.1, sL AL.2]), (Str.ofString "shared", .lst (SH.map .int)), (Str.ofString "told", .lst [sL (T 0), sL (T 1)])]
        let Cs : List (Str × D) := [(Str.ofString "ends", .lst (EN.map sI))]
        refine .weakF Es Cs (.cons rfl (.cons rfl (.cons rfl .nil))) (.cons rfl .nil) ?_
        refine .on (Ex.forN (ds := rngL 1 4) (fun _ => Es) (fun _ => Cs) (fun _ => Ow.nil) (.tyCall FrI.clo (.blt FrI.clo (nb_range w) bb_range) (.cons FrI.clo (.cint FrI.clo) (.cons FrI.clo (.cint FrI.clo) (.nil FrI.clo))) .range2) (.rng (hd' _) (by decide)) ?_) (.ret FrI.clo (.cbool FrI.clo) fun B s F => ⟨rfl, F.done⟩)
        intro n d P hd
        obtain ⟨rfl, hn⟩ := rngL_get hd
        have hn3 : n < 3 := hn
        rw [show (1 + (n : Int)) = ((n + 1 : Nat) : Int) by omega]
        have bk := okbk n hn3
        have f1 := e1 n hn3
        have f2 := e2 n hn3
        have gl := begun_len bk
        refine ⟨_, .cel rfl (cells_inj rfl), ?_⟩
        refine .on (.setL (.call FrI.clo ((rm' _).le (show 2 ≤ 13 by decide)) (begun_fn w EN SH (n + 1) bk) (.glob FrI.clo (gl_begun w)) rfl rfl (.cons FrI.clo (.celF rfl) (.cons FrI.clo (.locF rfl) (.cons FrI.clo (.celF rfl) (.nil FrI.clo)))))) ?_
        generalize begun EN SH (n + 1) = G at *
        let Eg : List (Str × D) := [(Str.ofString "groups", .lst (G.map gD)), (Str.ofString "alone", .tup [sL AL.1, sL AL.2]), (Str.ofString "shared", .lst (SH.map .int)), (Str.ofString "told", .lst [sL (T 0), sL (T 1)])]
        let Cg : List (Str × D) := [(Str.ofString "size", .int ((n + 1 : Nat) : Int)), (Str.ofString "ends", .lst (EN.map sI))]
        refine .weakF Eg Cg (.cons rfl (.cons rfl (.cons rfl (.cons rfl .nil)))) (.cons rfl (.cons rfl .nil)) ?_
        refine .on (Ex.forN (ds := rngL 0 2) (fun _ => Eg) (fun _ => Cg) (fun _ => P.and Ow.nil) (.tyCall FrI.clo (.blt FrI.clo (nb_range w) bb_range) (.cons FrI.clo (.cint FrI.clo) (.nil FrI.clo)) .range1) (.rng (hd' _) (by decide)) ?_) (.nilF (.cons rfl (.cons rfl (.cons rfl .nil))) (.cons rfl .nil))
        intro i d P2 hd
        obtain ⟨rfl, hi⟩ := rngL_get hd
        have hi2 : i < 2 := hi
        rw [Int.zero_add]
        have g1 := f1 i hi2
        have g2 := f2 i hi2
        have hTi := hT i hi2
        have hAi := hAL i hi2
        have tli := tl i
        have ali : (if i = 0 then AL.1 else AL.2).length ≤ 10000 := by
          split
          · exact Nat.le_trans alen.1 (by decide)
          · exact Nat.le_trans alen.2 (by decide)
        refine ⟨_, .cel rfl (cells_inj rfl), ?_⟩
        generalize hTe : T i = TI at *
        generalize hAe : (if i = 0 then AL.1 else AL.2) = AI at *
        refine .if1 (b := sizeOf (n + 1) TI != (G.filter (inG i)).map (·.1)) FrI.clo (.cmp FrI.clo
          (.cast (d' := sL (sizeOf (n + 1) TI)) (.comp (cl := [(Str.ofString "size", L + 1 + 1 + 1 + 1 + 1)]) (l := TI) (g := .str) (p := fun x => decide (depth x = ((n + 1 : Nat) : Int))) (f := .str) FrI.clo (.itm (dv := .lst [sL (T 0), sL (T 1)]) FrI.clo (.locF rfl) (.celF rfl) (.lst (by omega) (by omega) (by rw [Int.toNat_natCast]; exact hTi))) (.lst (hd' _)) (by omega) (fun B1 s1 Cc Oo j x F hj => ⟨_, .loc, .one (.cmp FrI.clo (.call FrI.clo ((rm' _).le (show 1 ≤ 13 by decide)) (depth_fn w x) (.glob FrI.clo (gl_depth w)) rfl rfl (.cons FrI.clo (.locF rfl) (.nil FrI.clo))) (.celE (F.celOf (Str.ofString "size") rfl rfl)) .eqI), fun _ => .locF rfl⟩)) rfl)
          (.cast (d' := sL ((G.filter (inG i)).map (·.1))) (.comp (cl := [(Str.ofString "owner", L + 1 + 1 + 1)]) (l := G) (g := gD) (p := inG i) (f := fun g => .str g.1) FrI.clo (.locF rfl) (.lst (hd' _)) (by omega) (fun B1 s1 Cc Oo j g F hj => ⟨_, .two FrI.clo (.lst (hd' _)) .loc .loc, .one (.cmp FrI.clo (.celE (F.celOf (Str.ofString "owner") rfl rfl)) (.locF rfl) .inI), fun _ => .locF rfl⟩)) (by unfold sL; rw [List.map_map]; rfl)) (.neL (rm' _))) (fun h => by rw [g1] at h; simp at h) (fun _ => ?_)
        refine .if1 (b := sizeOf (n + 1) AI != (G.filter fun g => !inG (1 - (i : Int)) g).map (·.1)) FrI.clo (.cmp FrI.clo
          (.cast (d' := sL (sizeOf (n + 1) AI)) (.comp (cl := [(Str.ofString "size", L + 1 + 1 + 1 + 1 + 1)]) (l := AI) (g := .str) (p := fun x => decide (depth x = ((n + 1 : Nat) : Int))) (f := .str) FrI.clo (.itm (dv := .tup [sL AL.1, sL AL.2]) FrI.clo (.locF rfl) (.celF rfl) (.tup (by omega) (by omega) (by rw [Int.toNat_natCast]; exact hAi))) (.lst (hd' _)) (by omega) (fun B1 s1 Cc Oo j x F hj => ⟨_, .loc, .one (.cmp FrI.clo (.call FrI.clo ((rm' _).le (show 1 ≤ 13 by decide)) (depth_fn w x) (.glob FrI.clo (gl_depth w)) rfl rfl (.cons FrI.clo (.locF rfl) (.nil FrI.clo))) (.celE (F.celOf (Str.ofString "size") rfl rfl)) .eqI), fun _ => .locF rfl⟩)) rfl)
          (.cast (d' := sL ((G.filter fun g => !inG (1 - (i : Int)) g).map (·.1))) (.comp (cl := [(Str.ofString "owner", L + 1 + 1 + 1)]) (l := G) (g := gD) (p := fun g => !inG (1 - (i : Int)) g) (f := fun g => .str g.1) FrI.clo (.locF rfl) (.lst (hd' _)) (by omega) (fun B1 s1 Cc Oo j g F hj => ⟨_, .two FrI.clo (.lst (hd' _)) .loc .loc, .one (.cmp FrI.clo (.bin FrI.clo (.cint FrI.clo) (.celE (F.celOf (Str.ofString "owner") rfl rfl)) .sub) (.locF rfl) .notInI), fun _ => .locF rfl⟩)) (by unfold sL; rw [List.map_map]; rfl)) (.neL (rm' _))) (fun h => by rw [g2] at h; simp at h) (fun _ => ?_)
        exact .nilF (.cons rfl (.cons rfl (.cons rfl (.cons rfl .nil)))) (.cons rfl (.cons rfl .nil))
end Mine
end
section
open PySem PySem.W PySem.Spec PySem.Calls PyProof.Rows
set_option maxRecDepth 100000
namespace Mine
/-! finite facts -/
def boolsN : Nat → List (List Bool)
  | 0 => [[]]
  | n + 1 => (boolsN n).flatMap fun q => [false :: q, true :: q]
theorem mem_boolsN : ∀ q : List Bool, q ∈ boolsN q.length
  | [] => .head _
  | x :: q => by
    rw [List.length_cons, boolsN]
    refine List.mem_flatMap.mpr ⟨q, mem_boolsN q, ?_⟩
    cases x <;> simp
def bools4 : List (List Bool) := boolsN 1 ++ boolsN 2 ++ boolsN 3 ++ boolsN 4
theorem mem_bools4 {q : List Bool} (h0 : q ≠ []) (h : q.length ≤ 4) : q ∈ bools4 := by
  have := mem_boolsN q
  unfold bools4
  have h1 : q.length = 1 ∨ q.length = 2 ∨ q.length = 3 ∨ q.length = 4 := by
    have : q.length ≠ 0 := fun e => h0 (List.length_eq_zero_iff.mp e)
    omega
  rcases h1 with e | e | e | e <;> rw [e] at this <;> simp [this]
def pathOk (b : Bool) (q : List Bool) : Bool := decide ((wy b q).length ≤ 20) && Txt.startswith (wy b q) slash && (comps (wy b q) == nms b q) && decide ((Txt.split (wy b q) slash) = ⟨#[]⟩ :: nms b q) && decide (depth (wy b q) = q.length)
theorem pathOk_all : ∀ b : Bool, ∀ q ∈ bools4, pathOk b q = true := by decide +kernel
end Mine
end
section
open PySem PySem.W PySem.Spec PySem.Calls PyProof.Rows
set_option maxRecDepth 100000
namespace Mine
/-! the same on lists of Bools -/
abbrev PC := List Bool × Int
abbrev GC := List Bool × List Int
def ltC (b : Bool) : List Bool → List Bool → Bool
  | [], [] => false
  | [], _ :: _ => true
  | _ :: _, [] => false
  | x :: xs, y :: ys => if x == y then ltC b xs ys else x == b
def gtBC (b : Bool) (x y : PC) : Bool := if x.1 = y.1 then decide (x.2 > y.2) else ltC b y.1 x.1
def ltBC (b : Bool) (x y : PC) : Bool := if x.1 = y.1 then decide (x.2 < y.2) else ltC b x.1 y.1
def twcC (b : Bool) (x y : PC) : Int := b2i (gtBC b x y) - b2i (ltBC b x y)
def setKC (b : Bool) (row : List PC) (x : PC) : Nat → Nat
  | 0 => 0
  | k + 1 => match row[k]? with
    | some y => if twcC b y x > 0 then setKC b row x k else k + 1
    | none => k + 1
def setInC (b : Bool) (row : List PC) (x : PC) : List PC := row.take (setKC b row x row.length) ++ [x] ++ row.drop (setKC b row x row.length)
def endsKC (b : Bool) (r : List Bool) (o : Int) (e0 : List PC) : Nat → List PC
  | 0 => e0
  | k + 1 => setInC b (endsKC b r o e0 k) (r.drop k, o)
def endsC (b : Bool) (r0 r1 : List Bool) : List PC := endsKC b r1 1 (endsKC b r0 0 [] r0.length) r1.length
def lcp : List Bool → List Bool → List Bool
  | x :: xs, y :: ys => if x = y then x :: lcp xs ys else []
  | _, _ => []
def nxtC (e : List PC) (i : Nat) : PC := e.getD i ([], 0)
def sharedC (e : List PC) : List Int := 0 :: (List.range (e.length - 1)).map fun i => ((lcp (nxtC e i).1 (nxtC e (i + 1)).1).length : Int)
def addLastC : List GC → Int → List GC
  | [], _ => []
  | [g], i => [(g.1, g.2 ++ [i])]
  | g :: h :: gs, i => g :: addLastC (h :: gs) i
def bStepC (size : Nat) (gs : List GC) (e : PC) (sh : Int) : List GC :=
  if e.1.length ≥ size then addLastC (if sh < size ∨ gs = [] then gs ++ [(e.1.take size, [])] else gs) e.2 else gs
def bAllC (size : Nat) : List PC → List Int → List GC → List GC
  | e :: es, sh :: shs, gs => bAllC size es shs (bStepC size gs e sh)
  | _, _, gs => gs
def bKeepC (b : Bool) (size : Nat) (g : GC) : Bool := decide (size = 1) || !(b && g.1.getLast? == some true)
def begunC (b : Bool) (ends : List PC) (shared : List Int) (size : Nat) : List GC := (bAllC size ends shared []).filter (bKeepC b size)
def infC (q : List Bool) : List Bool → Bool
  | [] => q.isEmpty
  | x :: xs => q.isPrefixOf (x :: xs) || infC q xs
def dmC (b : Bool) (r q : List Bool) : Bool := infC q r && !(b && decide (2 ≤ q.length) && q.getLast? == some true)
def toldC (b : Bool) (r : List Bool) : List (List Bool) := (wordsC b).filter (dmC b r)
def sldFC (b : Bool) : Nat → List (List Bool) → List (List Bool) → List (List Bool) × List (List Bool)
  | 0, xs, ys => (xs, ys)
  | _ + 1, [], ys => ([], ys)
  | _ + 1, x :: xs, [] => (x :: xs, [])
  | n + 1, x :: xs, y :: ys => if ltC b x y then (x :: (sldFC b n xs (y :: ys)).1, (sldFC b n xs (y :: ys)).2) else if ltC b y x then ((sldFC b n (x :: xs) ys).1, y :: (sldFC b n (x :: xs) ys).2) else sldFC b n xs ys
def sldC (b : Bool) (xs ys : List (List Bool)) : List (List Bool) × List (List Bool) := sldFC b (xs.length + ys.length) xs ys
def inGC (o : Int) (g : GC) : Bool := g.2.any (· == o)
def sizeC (n : Nat) (l : List (List Bool)) : List (List Bool) := l.filter fun q => decide (q.length = n)
def sideC (g : List GC) (n : Nat) (T0 T1 A0 A1 : List (List Bool)) : Bool :=
  (sizeC n T0 == (g.filter (inGC 0)).map (·.1)) && (sizeC n T1 == (g.filter (inGC 1)).map (·.1)) && (sizeC n A0 == (g.filter fun x => !inGC 1 x).map (·.1)) && (sizeC n A1 == (g.filter fun x => !inGC 0 x).map (·.1))
def finC (b : Bool) (r0 r1 : List Bool) : Bool :=
  let T0 := toldC b r0
  let T1 := toldC b r1
  let A := sldC b T0 T1
  let e := endsC b r0 r1
  let s := sharedC e
  sideC (begunC b e s 1) 1 T0 T1 A.1 A.2 && sideC (begunC b e s 2) 2 T0 T1 A.1 A.2 && sideC (begunC b e s 3) 3 T0 T1 A.1 A.2
end Mine
end
section
open PySem PySem.W PySem.Spec PySem.Calls PyProof.Rows
set_option maxRecDepth 100000
set_option maxHeartbeats 4000000
namespace Mine
/-! finite facts, by the kernel -/
def bools04 : List (List Bool) := [] :: bools4
def hostX (b t : Bool) (r : List Bool) : List Nat := 119 :: (r.flatMap fun x => if x then (if b then [46, 55, 55] else [46, 98, 97]) else [46, 97, 98]) ++ (if t then [46, 55] else [46, 99, 111, 109])
def wordX (b : Bool) (q : List Bool) : List Nat := q.flatMap fun x => if x then (if b then [46, 55, 55] else [46, 98, 97]) else [46, 97, 98]
abbrev hostN (b t : Bool) (r : List Bool) : Str := ⟨(hostX b t r).toArray⟩
abbrev wordN (b : Bool) (q : List Bool) : Str := ⟨(wordX b q).toArray⟩
def good (c : Nat) : Bool := decide (c < 128) && decide (up1 c < 128) && (lo1 (up1 c) == c) && (lo1 c == c)
theorem ltS_all : ∀ b : Bool, ∀ p ∈ bools4, ∀ q ∈ bools4, ltS (wy b p) (wy b q) = ltC b p q := by decide +kernel
theorem join_all : ∀ b : Bool, ∀ l ∈ bools04, slash ++ Txt.join slash (nms b l) = wy b l ∧ JoinOk slash (nms b l) = true ∧ (Txt.join slash (nms b l)).length ≤ 1000 ∧ depth (wy b l) = l.length := by decide +kernel
theorem last_all : ∀ b : Bool, ∀ q ∈ bools4, (Txt.slice (wy b q) (some (-3)) none != Str.ofString "/77") = !(b && q.getLast? == some true) := by decide +kernel
theorem host_all : ∀ b t : Bool, ∀ r ∈ bools04, JoinOk dot (hostL b t r) = true ∧ (Txt.join dot (hostL b t r)).cps = (hostX b t r).toArray ∧ (hostX b t r).length ≤ 100 ∧ (hostX b t r).all good = true := by decide +kernel
theorem word_all : ∀ b : Bool, ∀ q ∈ wordsC b, (dotted (wy b q)).cps = (wordX b q).toArray ∧ (wordX b q).length ≤ 100 ∧ (wordX b q).all good = true ∧ (wy b q).length ≤ 100 := by decide +kernel
theorem reWord : ∀ b : Bool, ∀ q ∈ wordsC b, reFound (Txt.slice (wordN b q) (some 1) none) = some (b && decide (2 ≤ q.length) && q.getLast? == some true) := by decide +kernel
theorem hostR_all : ∀ b t : Bool, ∀ r ∈ bools04, ((hostN b t r == Str.ofString "") || (Txt.item (hostN b t r) 0 == Str.ofString ".") || (Txt.item (hostN b t r) (-1) == Str.ofString ".")) = false := by decide +kernel
theorem wordR_all : ∀ b : Bool, ∀ q ∈ wordsC b, (wordN b q).cps[0]? = some 46 ∧ Txt.startswith (wordN b q) (Str.ofString ".") = true ∧
    ((Txt.slice (wordN b q) (some 1) none == Str.ofString "") || (Txt.item (Txt.slice (wordN b q) (some 1) none) 0 == Str.ofString ".") || (Txt.item (Txt.slice (wordN b q) (some 1) none) (-1) == Str.ofString ".")) = false := by decide +kernel
theorem asc_ul {x : Str} {l : List Nat} (h : x.cps = l.toArray) (hg : l.all good = true) : Txt.lower (Txt.upper x) = ⟨l.toArray⟩ ∧ (Txt.upper x).length = l.length ∧ Txt.lower x = ⟨l.toArray⟩ := by
  have hgc : ∀ c ∈ l, c < 128 ∧ up1 c < 128 ∧ lo1 (up1 c) = c ∧ lo1 c = c := fun c hc => by
    have := List.all_eq_true.mp hg c hc
    unfold good at this
    simp only [Bool.and_eq_true, decide_eq_true_eq, beq_iff_eq] at this
    exact ⟨this.1.1.1, this.1.1.2, this.1.2, this.2⟩
  have h1 : Txt.upper x = ⟨(l.map up1).toArray⟩ := by
    rw [upper_ascii (fun c hc => (hgc c (by rw [h] at hc; simpa using hc)).1), h]; simp
  have map_id : ∀ (f : Nat → Nat), (∀ c ∈ l, f c = c) → l.map f = l := fun f hf => by
    conv => rhs; rw [← List.map_id l]
    exact List.map_congr_left fun c hc => hf c hc
  refine ⟨?_, by rw [h1]; simp [Str.length], ?_⟩
  · rw [h1, lower_ascii (fun c hc => by
      obtain ⟨d, hd, rfl⟩ := List.mem_map.mp (show c ∈ l.map up1 by simpa using hc)
      exact (hgc d hd).2.1)]
    simp only [List.map_toArray, List.map_map]
    rw [map_id (lo1 ∘ up1) fun c hc => (hgc c hc).2.2.1]
  · rw [lower_ascii (fun c hc => (hgc c (by rw [h] at hc; simpa using hc)).1), h]
    simp only [List.map_toArray]
    rw [map_id lo1 fun c hc => (hgc c hc).2.2.2]
end Mine
end
section
open PySem PySem.W PySem.Spec PySem.Calls PyProof.Rows
set_option maxRecDepth 100000
set_option maxHeartbeats 4000000
namespace Mine
/-! the search for a last dot and figures, step by step -/
namespace Re
def nS (s : Nat) (f : Bool) : Sre.Frame := { wait := .nextStart, pc := 9, pos := s, outermost := f }
def gB (p : Nat) (f : Bool) (c : Int) : Sre.Frame := { wait := .giveBack, pc := 11, pos := p, outermost := f, count := c, kept := { whole := false, lastmark := -1, lastindex := -1, marks := #[] } }
def Mk (T : Array Nat) (s pc p h : Nat) (o : Bool) (fr : List Sre.Frame) (w : Nat) (an : Option Bool) (σ : Sre.Seen) : Sre.M :=
  { code := reCode, text := T, lim := T.size, start := s, lastStart := T.size, pc := pc, pos := p, handed := h, outermost := o, marks := #[], frames := fr, weight := w, answer := an, seen := σ }
section
variable {T : Array Nat} {s pc p h w : Nat} {f o : Bool} {fr : List Sre.Frame} {σ : Sre.Seen}
theorem run1 {m m' : Sre.M} {k : Nat} (ho : m.outcome.isSome = false) (h : Sre.M.step m = m') : Sre.M.runFor (k + 1) m = Sre.M.runFor k m' := by
  rw [Sre.M.runFor, ho, if_neg Bool.false_ne_true, h]
theorem lit_end (hs : T.size ≤ s) : Sre.M.step (Mk T s 9 s s f fr w none σ) = Mk T s 9 s s f fr w (some false) (σ.add 16) := by
  show (if s ≥ T.size then _ else _) = _
  rw [if_pos hs]; rfl
theorem acc9 (c : Nat) : Sre.accepts reCode 9 c σ = .ok (c == 46, σ) := rfl
theorem lit_no (hs : s < T.size) (hc : T.getD s 0 ≠ 46) : Sre.M.step (Mk T s 9 s s f fr w none σ) = Mk T s 9 s s f fr w (some false) (σ.add 16) := by
  have hc' : (T.getD s 0 == 46) = false := by simpa using hc
  show (if s ≥ T.size then _ else match Sre.accepts reCode 9 (T.getD s 0) (σ.add 16) with | .error why => _ | .ok (false, seen) => _ | .ok (true, seen) => _) = _
  rw [if_neg (Nat.not_le.mpr hs), acc9, hc']; rfl
theorem lit_yes (hs : s < T.size) (hc : T.getD s 0 = 46) : Sre.M.step (Mk T s 9 s s f fr w none σ) = Mk T s 11 (s + 1) s f fr w none (σ.add 16) := by
  show (if s ≥ T.size then _ else match Sre.accepts reCode 9 (T.getD s 0) (σ.add 16) with | .error why => _ | .ok (false, seen) => _ | .ok (true, seen) => _) = _
  rw [if_neg (Nat.not_le.mpr hs), acc9, hc]; rfl
theorem next_no (hs : s < T.size) : Sre.M.step (Mk T s pc p h o [nS s f] 1 (some false) σ) = Mk T (s + 1) 9 (s + 1) (s + 1) false [nS (s + 1) false] 1 none σ := by
  show (if s < T.size then _ else _) = _
  rw [if_pos hs]
  rfl
theorem next_end (hs : T.size ≤ s) : Sre.M.step (Mk T s pc p h o [nS s f] 1 (some false) σ) = Mk T s 9 s h f [] 0 (some false) σ := by
  show (if s < T.size then _ else _) = _
  rw [if_neg (Nat.not_lt.mpr hs)]
  rfl
theorem next_yes : Sre.M.step (Mk T s pc p h o [nS s f] 1 (some true) σ) = Mk T s 9 s h f [] 0 (some true) σ := rfl
theorem last_yes : (Sre.M.step (Mk T s pc p h o [] w (some true) σ)).outcome = some .matched := rfl
theorem last_no : (Sre.M.step (Mk T s pc p h o [] w (some false) σ)).outcome = some .failed := rfl

def s1 (σ : Sre.Seen) : Sre.Seen := (σ.add 8).add 55
def s0 (σ : Sre.Seen) : Sre.Seen := (s1 σ).add 0
theorem acc15_no {c : Nat} (h : Sre.isDigit c = false) : Sre.accepts reCode 15 c σ = .ok (false, s0 σ) := by
  have e : Sre.category 0 c = .ok false := by unfold Sre.category; simp only [Nat.zero_div, h]; rfl
  show (do if ← Sre.category 0 c then pure (true, (σ.add 8).add 55) else Sre.inSet reCode c 23 19 true ((σ.add 8).add 55)) = _
  rw [e]; rfl
theorem acc15_yes {c : Nat} (h : Sre.isDigit c = true) : Sre.accepts reCode 15 c σ = .ok (true, s1 σ) := by
  have e : Sre.category 0 c = .ok true := by unfold Sre.category; simp only [Nat.zero_div, h]; rfl
  show (do if ← Sre.category 0 c then pure (true, (σ.add 8).add 55) else Sre.inSet reCode c 23 19 true ((σ.add 8).add 55)) = _
  rw [e]; rfl
theorem run_no {n fd : Nat} (h : Sre.isDigit (T.getD p 0) = false) : Sre.run reCode T 15 (n + 1) p fd σ = .ok (fd, s0 σ) := by
  rw [Sre.run, acc15_no h]; rfl
theorem run_yes {n fd : Nat} (h : Sre.isDigit (T.getD p 0) = true) : Sre.run reCode T 15 (n + 1) p fd σ = Sre.run reCode T 15 n (p + 1) (fd + 1) (s1 σ) := by
  rw [Sre.run, acc15_yes h]; rfl
theorem run_0 {fd : Nat} : Sre.run reCode T 15 0 p fd σ = .ok (fd, σ) := rfl
theorem rep {n : Nat} {σ' : Sre.Seen} (hp : p < T.size) (hr : Sre.run reCode T 15 (min 4294967295 (T.size - p)) p 0 (((σ.add 24)).add 13) = .ok (n, σ')) :
    Sre.M.step (Mk T s 11 p h o [nS s f] 1 none σ) = if n < 1 then Mk T s 11 p h o [nS s f] 1 (some false) σ' else Mk T s 21 (p + n) (p + n) o [gB (p + n) o n, nS s f] 2 none σ' := by
  have hr1 : ¬ ((1 : Nat) : Int) > (T.size : Int) - (p : Int) := by omega
  have hr2 : ((T.size : Int) - (p : Int)).toNat = T.size - p := by omega
  show (if ((1 : Nat) : Int) > (T.size : Int) - (p : Int) then _ else match Sre.run reCode T 15 (min 4294967295 ((T.size : Int) - (p : Int)).toNat) p 0 ((σ.add 24).add 13) with | .error why => _ | .ok (n, seen) => if n < 1 then _ else _) = _
  rw [if_neg hr1, hr2, hr]
  by_cases hn : n < 1
  · rw [if_pos hn]; exact if_pos hn
  · rw [if_neg hn]; exact (if_neg hn).trans rfl
theorem at_no (hp : p < T.size) (hc : T.getD p 0 ≠ 10) : Sre.M.step (Mk T s 21 p h o fr w none σ) = Mk T s 21 p h o fr w (some false) ((σ.add 6).add 48) := by
  have e : (Mk T s 21 p h o fr w none (σ.add 6)).isAt 5 = .ok false := by
    show Except.ok (p == T.size || (p + 1 == T.size && T.getD p 0 == 10)) = _
    rw [beq_eq_false_iff_ne.mpr (Nat.ne_of_lt hp), beq_eq_false_iff_ne.mpr hc, Bool.and_false]; rfl
  show (match (Mk T s 21 p h o fr w none (σ.add 6)).isAt 5 with | .error why => (Mk T s 21 p h o fr w none (σ.add 6)).stick why | .ok yes => if yes then Mk T s 23 p h o fr w none ((σ.add 6).add 48) else Mk T s 21 p h o fr w (some false) ((σ.add 6).add 48)) = _
  rw [e]; rfl
theorem at_yes (hp : p = T.size) : Sre.M.step (Mk T s 21 p h o fr w none σ) = Mk T s 23 p h o fr w none ((σ.add 6).add 48) := by
  have e : (Mk T s 21 p h o fr w none (σ.add 6)).isAt 5 = .ok true := by
    show Except.ok (p == T.size || (p + 1 == T.size && T.getD p 0 == 10)) = _
    rw [hp, beq_self_eq_true]; rfl
  show (match (Mk T s 21 p h o fr w none (σ.add 6)).isAt 5 with | .error why => (Mk T s 21 p h o fr w none (σ.add 6)).stick why | .ok yes => if yes then Mk T s 23 p h o fr w none ((σ.add 6).add 48) else Mk T s 21 p h o fr w (some false) ((σ.add 6).add 48)) = _
  rw [e]; rfl
theorem suc : Sre.M.step (Mk T s 23 p h o fr w none σ) = Mk T s 23 p p o fr w (some true) (σ.add 1) := by
  cases o <;> rfl
theorem gb_yes {p' : Nat} {c : Int} {o' : Bool} : Sre.M.step (Mk T s pc p h o [gB p' o' c, nS s f] 2 (some true) σ) = Mk T s 11 p' h o' [nS s f] 1 (some true) σ := rfl
theorem gb_2 {p' : Nat} {o' : Bool} : Sre.M.step (Mk T s pc p h o [gB (p' + 1) o' 2, nS s f] 2 (some false) σ) = Mk T s 21 p' p' o' [gB p' o' 1, nS s f] 2 none σ := rfl
theorem gb_1 {p' : Nat} {o' : Bool} : Sre.M.step (Mk T s pc p h o [gB (p' + 1) o' 1, nS s f] 2 (some false) σ) = Mk T s 11 (p' + 1) h o' [nS s f] 1 (some false) σ := rfl

/-- a search that stands at s, about to try -/
abbrev St (T : Array Nat) (s : Nat) (f : Bool) (σ : Sre.Seen) : Sre.M := Mk T s 9 s s f [nS s f] 1 none σ
def Goes (T : Array Nat) (s s' : Nat) (f f' : Bool) (n : Nat) : Prop := ∀ σ, ∃ σ', ∀ k, Sre.M.runFor (k + n) (St T s f σ) = Sre.M.runFor k (St T s' f' σ')
theorem Goes.trans {s s' s'' : Nat} {f f' f'' : Bool} {n n' : Nat} (h : Goes T s s' f f' n) (h' : Goes T s' s'' f' f'' n') : Goes T s s'' f f'' (n' + n) := fun σ => by
  obtain ⟨σ1, h1⟩ := h σ
  obtain ⟨σ2, h2⟩ := h' σ1
  exact ⟨σ2, fun k => by rw [← Nat.add_assoc, h1, h2]⟩
theorem goes_miss (hs : s < T.size) (hc : T.getD s 0 ≠ 46) : Goes T s (s + 1) f false 2 := fun σ =>
  ⟨_, fun k => (run1 (k := k + 1) rfl (lit_no hs hc)).trans (run1 rfl (next_no hs))⟩
theorem pred_min {n m : Nat} (h : m ≤ n) (hn : n < 4294967295) : ∃ j, min 4294967295 n = j + m := ⟨n - m, by omega⟩
theorem goes_dot (hz : T.size < 4294967295) (hs : s + 1 < T.size) (hc : T.getD s 0 = 46) (hd : Sre.isDigit (T.getD (s + 1) 0) = false) : Goes T s (s + 1) f false 3 := fun σ => by
  obtain ⟨j, hj⟩ := pred_min (n := T.size - (s + 1)) (m := 1) (by omega) (by omega)
  have hr : Sre.run reCode T 15 (min 4294967295 (T.size - (s + 1))) (s + 1) 0 (((σ.add 16).add 24).add 13) = .ok (0, s0 (((σ.add 16).add 24).add 13)) := by rw [hj]; exact run_no hd
  exact ⟨_, fun k => (run1 (k := k + 2) rfl (lit_yes (by omega) hc)).trans ((run1 (k := k + 1) rfl ((rep hs hr).trans (if_pos (by decide)))).trans (run1 rfl (next_no (by omega))))⟩
theorem goes_77 (hz : T.size < 4294967295) (hs : s + 3 < T.size) (h0 : T.getD s 0 = 46) (h1 : T.getD (s + 1) 0 = 55) (h2 : T.getD (s + 2) 0 = 55) (h3 : T.getD (s + 3) 0 = 46) : Goes T s (s + 1) f false 7 := fun σ => by
  obtain ⟨j, hj⟩ := pred_min (n := T.size - (s + 1)) (m := 3) (by omega) (by omega)
  have hr : Sre.run reCode T 15 (min 4294967295 (T.size - (s + 1))) (s + 1) 0 (((σ.add 16).add 24).add 13) = .ok (2, s0 (s1 (s1 (((σ.add 16).add 24).add 13)))) := by
    rw [hj]
    exact (run_yes (by rw [h1]; rfl)).trans ((run_yes (by rw [h2]; rfl)).trans (run_no (by rw [h3]; rfl)))
  exact ⟨_, fun k => (run1 (k := k + 6) rfl (lit_yes (by omega) h0)).trans ((run1 (k := k + 5) rfl ((rep (by omega) hr).trans (if_neg (by decide)))).trans
    ((run1 (k := k + 4) rfl (at_no (p := s + 3) hs (by rw [h3]; decide))).trans ((run1 (k := k + 3) rfl (gb_2 (p' := s + 2))).trans
    ((run1 (k := k + 2) rfl (at_no (p := s + 2) (by omega) (by rw [h2]; decide))).trans ((run1 (k := k + 1) rfl (gb_1 (p' := s + 1))).trans (run1 rfl (next_no (by omega))))))))⟩
theorem run_out {m : Sre.M} {o : Sre.Outcome} (h : (Sre.M.step m).outcome = some o) (ho : m.outcome.isSome = false) {k : Nat} : (Sre.M.runFor (k + 1) m).outcome = some o := by
  rw [run1 ho rfl]
  cases k with
  | zero => exact h
  | succ k =>
    rw [Sre.M.runFor, h]
    show (if true = true then Sre.M.step m else _).outcome = _
    rw [if_pos rfl]; exact h
theorem ends_no (k : Nat) : (Sre.M.runFor (k + 3) (St T T.size f σ)).outcome = some .failed := by
  rw [run1 (k := k + 2) rfl (lit_end (Nat.le_refl _)), run1 (k := k + 1) rfl (next_end (Nat.le_refl _))]
  exact run_out last_no rfl
theorem ends_7 (hs : s + 2 = T.size) (h0 : T.getD s 0 = 46) (h1 : T.getD (s + 1) 0 = 55) (k : Nat) : (Sre.M.runFor (k + 7) (St T s f σ)).outcome = some .matched := by
  have hr : Sre.run reCode T 15 (min 4294967295 (T.size - (s + 1))) (s + 1) 0 (((σ.add 16).add 24).add 13) = .ok (1, s1 (((σ.add 16).add 24).add 13)) := by
    rw [← hs, show min 4294967295 (s + 2 - (s + 1)) = 0 + 1 by omega]
    exact (run_yes (by rw [h1]; rfl)).trans run_0
  rw [run1 (k := k + 6) rfl (lit_yes (by omega) h0), run1 (k := k + 5) rfl ((rep (by omega) hr).trans (if_neg (by decide))), run1 (k := k + 4) rfl (at_yes (p := s + 2) hs), run1 (k := k + 3) rfl suc, run1 (k := k + 2) rfl gb_yes, run1 (k := k + 1) rfl next_yes]
  exact run_out last_yes rfl

theorem getD_at {pre xs : List Nat} (i : Nat) : (pre ++ xs).toArray.getD (pre.length + i) 0 = xs.getD i 0 := by
  simp [List.getElem?_append_right]
def blk (b x : Bool) : List Nat := if x then (if b then [46, 55, 55] else [46, 98, 97]) else [46, 97, 98]
theorem blk_len (b x : Bool) : (blk b x).length = 3 := by cases b <;> cases x <;> rfl
theorem goes_blk (b x : Bool) (pre rest : List Nat) (hz : (pre ++ (blk b x ++ 46 :: rest)).toArray.size < 4294967295) : ∃ n, n ≤ 11 ∧ Goes (pre ++ (blk b x ++ 46 :: rest)).toArray pre.length (pre.length + 3) false false n := by
  have hl : (pre ++ (blk b x ++ 46 :: rest)).toArray.size = pre.length + (4 + rest.length) := by simp [blk_len]; omega
  have g := fun i => getD_at (pre := pre) (xs := blk b x ++ 46 :: rest) i
  generalize (pre ++ (blk b x ++ 46 :: rest)).toArray = T at *
  by_cases h : (b && x) = true
  · rw [Bool.and_eq_true] at h
    obtain ⟨rfl, rfl⟩ := h
    exact ⟨11, Nat.le_refl _, ((goes_77 hz (by omega) (g 0) (g 1) (g 2) (g 3)).trans (goes_miss (s := pre.length + 1) (by omega) (by rw [show T.getD (pre.length + 1) 0 = 55 from g 1]; decide))).trans (goes_miss (s := pre.length + 2) (by omega) (by rw [show T.getD (pre.length + 2) 0 = 55 from g 2]; decide))⟩
  · have e0 : T.getD pre.length 0 = 46 := by rw [← Nat.add_zero pre.length, g 0]; cases b <;> cases x <;> rfl
    have f1 : T.getD (pre.length + 1) 0 = (blk b x).getD 1 0 := (g 1).trans (by cases b <;> cases x <;> rfl)
    have f2 : T.getD (pre.length + 2) 0 = (blk b x).getD 2 0 := (g 2).trans (by cases b <;> cases x <;> rfl)
    have e1 : Sre.isDigit (T.getD (pre.length + 1) 0) = false ∧ T.getD (pre.length + 1) 0 ≠ 46 := by rw [f1]; cases b <;> cases x <;> first | exact (h rfl).elim | decide
    have e2 : T.getD (pre.length + 2) 0 ≠ 46 := by rw [f2]; cases b <;> cases x <;> first | exact (h rfl).elim | decide
    exact ⟨7, by decide, ((goes_dot hz (by omega) e0 e1.1).trans (goes_miss (s := pre.length + 1) (by omega) e1.2)).trans (goes_miss (s := pre.length + 2) (by omega) e2)⟩
theorem goes_blks (b : Bool) (rest : List Nat) : ∀ (r : List Bool) (pre : List Nat), (pre ++ (r.flatMap (blk b) ++ 46 :: rest)).toArray.size < 4294967295 → ∃ n, n ≤ 11 * r.length ∧ Goes (pre ++ (r.flatMap (blk b) ++ 46 :: rest)).toArray pre.length (pre.length + 3 * r.length) false false n
  | [], pre, _ => ⟨0, Nat.le_refl _, fun σ => ⟨σ, fun k => rfl⟩⟩
  | x :: r, pre, hz => by
    have e1 : pre ++ ((x :: r).flatMap (blk b) ++ 46 :: rest) = (pre ++ blk b x) ++ (r.flatMap (blk b) ++ 46 :: rest) := by simp
    obtain ⟨rest', e2⟩ : ∃ rest', r.flatMap (blk b) ++ 46 :: rest = 46 :: rest' := by
      cases r with
      | nil => exact ⟨_, rfl⟩
      | cons y r => cases b <;> cases y <;> exact ⟨_, rfl⟩
    have e3 : pre ++ ((x :: r).flatMap (blk b) ++ 46 :: rest) = pre ++ (blk b x ++ 46 :: rest') := by rw [e1, e2, List.append_assoc]
    obtain ⟨n1, h1, g1⟩ := goes_blk b x pre rest' (by rw [← e3]; exact hz)
    obtain ⟨n2, h2, g2⟩ := goes_blks b rest r (pre ++ blk b x) (by rw [← e1]; exact hz)
    rw [← e3] at g1
    rw [← e1, List.length_append, blk_len] at g2
    exact ⟨n2 + n1, by rw [List.length_cons]; omega, by rw [List.length_cons, show pre.length + 3 * (r.length + 1) = pre.length + 3 + 3 * r.length by omega]; exact g1.trans g2⟩
theorem reM_St (hz : 2 ≤ T.size) : reM ⟨T⟩ = St T 0 true (({} : Sre.Seen).add 14) := by
  have h : (decide (0 > T.size) || decide (T.size - 0 < 2)) = false := by simp; omega
  show (if (decide (0 > T.size) || decide (T.size - 0 < 2)) = true then _ else _) = _
  rw [h, if_neg Bool.false_ne_true]; rfl
theorem reHostN (b t : Bool) (r : List Bool) (hr : r.length ≤ 100) : reFound (hostN b t r) = some t := by
  let tl : List Nat := if t then [55] else [99, 111, 109]
  have eh : hostX b t r = [119] ++ (r.flatMap (blk b) ++ 46 :: tl) := by
    show _ = [119] ++ (r.flatMap (blk b) ++ 46 :: (if t then [55] else [99, 111, 109])); unfold hostX blk; cases t <;> rfl
  have hf : ∀ r : List Bool, (r.flatMap (blk b)).length = 3 * r.length := fun r => by
    induction r with
    | nil => rfl
    | cons x r ih => rw [List.flatMap_cons, List.length_append, blk_len, ih, List.length_cons]; omega
  have hsz : ([119] ++ (r.flatMap (blk b) ++ 46 :: tl)).toArray.size = 1 + 3 * r.length + 1 + tl.length := by simp [hf]; omega
  have htl : tl.length ≤ 3 := by show (if t then [55] else [99, 111, 109]).length ≤ 3; cases t <;> decide
  have hg : ∀ i, ([119] ++ (r.flatMap (blk b) ++ 46 :: tl)).toArray.getD (1 + 3 * r.length + i) 0 = (46 :: tl).getD i 0 := fun i => by
    have := getD_at (pre := [119] ++ r.flatMap (blk b)) (xs := 46 :: tl) i
    rw [List.length_append, hf, List.append_assoc] at this
    exact this
  obtain ⟨n, hn, g⟩ := goes_blks b tl r [119] (by omega)
  have h0 : ([119] ++ (r.flatMap (blk b) ++ 46 :: tl)).toArray.getD 0 0 = 119 := rfl
  have hM : reM (hostN b t r) = St ([119] ++ (r.flatMap (blk b) ++ 46 :: tl)).toArray 0 true (({} : Sre.Seen).add 14) := by
    show reM ⟨(hostX b t r).toArray⟩ = _
    rw [eh]; exact reM_St (by omega)
  unfold reFound
  rw [hM]
  generalize ([119] ++ (r.flatMap (blk b) ++ 46 :: tl)).toArray = T at *
  have g' := (goes_miss (f := true) (s := 0) (T := T) (by omega) (by rw [h0]; decide)).trans g
  obtain ⟨σ, g'⟩ := g' (({} : Sre.Seen).add 14)
  cases t with
  | true =>
    have := ends_7 (T := T) (s := 1 + 3 * r.length) (f := false) (σ := σ) (by rw [hsz]; rfl) (hg 0) (hg 1) (2000 - (n + 2) - 7)
    rw [show 2000 = (2000 - (n + 2) - 7 + 7) + (n + 2) by omega, g' (2000 - (n + 2) - 7 + 7)]
    rw [show [119].length + 3 * r.length = 1 + 3 * r.length from rfl, this]
  | false =>
    have g2 := ((((goes_dot (s := 1 + 3 * r.length) (T := T) (f := false) (by omega) (by rw [hsz]; show _ < _ + 3; omega) (hg 0) (by rw [hg 1]; rfl)).trans (goes_miss (s := 1 + 3 * r.length + 1) (by rw [hsz]; show _ < _ + 3; omega) (by rw [hg 1]; decide))).trans (goes_miss (s := 1 + 3 * r.length + 2) (by rw [hsz]; show _ < _ + 3; omega) (by rw [hg 2]; decide))).trans (goes_miss (s := 1 + 3 * r.length + 3) (by rw [hsz]; show _ < _ + 3; omega) (by rw [hg 3]; decide)))
    obtain ⟨σ2, g2⟩ := g2 σ
    have e : 1 + 3 * r.length + 3 + 1 = T.size := by rw [hsz]; rfl
    rw [e] at g2
    have := ends_no (T := T) (f := false) (σ := σ2) (2000 - (n + 2) - 9 - 3)
    rw [show 2000 = (2000 - (n + 2) - 9 - 3 + 3 + 9) + (n + 2) by omega, g' (2000 - (n + 2) - 9 - 3 + 3 + 9)]
    rw [show [119].length + 3 * r.length = 1 + 3 * r.length from rfl, g2 (2000 - (n + 2) - 9 - 3 + 3), this]
end
end Re
theorem len04 : ∀ r ∈ bools04, r.length ≤ 100 := by decide
theorem reHost (b t : Bool) : ∀ r ∈ bools04, reFound (hostN b t r) = some t := fun r hr => Re.reHostN b t r (len04 r hr)
/-! a part of a text -/
section
open StrLaws Builtin Builtin.Str
def infL (y : List Nat) : List Nat → Bool
  | [] => y.isEmpty
  | c :: x => y.isPrefixOf (c :: x) || infL y x
theorem infL_iff (y : List Nat) : ∀ x, infL y x = true ↔ ∃ i, y <+: x.drop i
  | [] => by
    rw [infL, List.isEmpty_iff]
    refine ⟨fun h => ⟨0, by subst h; exact List.prefix_rfl⟩, fun ⟨i, h⟩ => ?_⟩
    rw [List.drop_nil] at h; exact List.prefix_nil.mp h
  | c :: x => by
    rw [infL, Bool.or_eq_true, infL_iff y x, List.isPrefixOf_iff_prefix]
    refine ⟨fun h => ?_, fun ⟨i, h⟩ => ?_⟩
    · rcases h with h | ⟨i, h⟩
      · exact ⟨0, h⟩
      · exact ⟨i + 1, h⟩
    · cases i with
      | zero => exact .inl h
      | succ i => exact .inr ⟨i, h⟩
theorem at_list (x y : List Nat) (i : Nat) : At ⟨x.toArray⟩ ⟨y.toArray⟩ (Str.length ⟨x.toArray⟩) i ↔ (i + y.length ≤ x.length ∧ y <+: x.drop i) := by
  unfold At subAt Str.length
  simp only [List.size_toArray, List.extract_toArray, beq_iff_eq]
  refine and_congr_right fun h => ?_
  rw [List.extract_eq_take_drop, show i + y.length - i = y.length by omega]
  constructor
  · intro e
    have e' : List.take y.length (List.drop i x) = y := by simpa using e
    exact ⟨_, by conv => lhs; rw [← e', List.take_append_drop]⟩
  · intro ⟨t, e⟩
    rw [← e]; simp
theorem rfind_list {x y : List Nat} (h0 : y.isPrefixOf x = false) : (decide (Txt.rfind ⟨x.toArray⟩ ⟨y.toArray⟩ = -1) || decide (Txt.rfind ⟨x.toArray⟩ ⟨y.toArray⟩ = 0)) = !infL y x := by
  unfold Txt.rfind
  rcases last_spec ⟨x.toArray⟩ ⟨y.toArray⟩ with ⟨e, h⟩ | ⟨i, e, h, _⟩
  · rw [e]
    have : infL y x = false := by
      cases q : infL y x with
      | false => rfl
      | true =>
        obtain ⟨i, hi⟩ := (infL_iff y x).mp q
        by_cases hl : i ≤ x.length
        · have := hi.length_le
          rw [List.length_drop] at this
          exact (h i ((at_list x y i).mpr ⟨by omega, hi⟩)).elim
        · rw [List.drop_of_length_le (by omega)] at hi
          have := List.prefix_nil.mp hi
          subst this
          exact (h 0 ((at_list x [] 0).mpr ⟨by simp, List.nil_prefix⟩)).elim
    rw [this]; rfl
  · rw [e]
    have hh := ((at_list x y i).mp h).2
    rw [(infL_iff y x).mpr ⟨i, hh⟩]
    have : i ≠ 0 := fun q => by
      subst q
      rw [List.drop_zero, ← List.isPrefixOf_iff_prefix] at hh
      rw [hh] at h0; cases h0
    simp only [Bool.not_true, Bool.or_eq_false_iff, decide_eq_false_iff_not]
    exact ⟨by omega, by omega⟩
theorem find_tab (b : Bool) : (bools04.all fun r => (wordsC b).all fun q => !(wordX b q).isPrefixOf (hostX b false r) && (infL (wordX b q) (hostX b false r) == infC q r)) = true := by cases b <;> decide +kernel
theorem find_all (b : Bool) : ∀ r ∈ bools04, ∀ q ∈ wordsC b, (decide (Txt.rfind (hostN b false r) (wordN b q) = -1) || decide (Txt.rfind (hostN b false r) (wordN b q) = 0)) = !infC q r := fun r hr q hq => by
  have := List.all_eq_true.mp (List.all_eq_true.mp (find_tab b) r hr) q hq
  rw [Bool.and_eq_true, Bool.not_eq_true', beq_iff_eq] at this
  rw [rfind_list this.1, this.2]
end
end Mine
end
section
open PySem PySem.W PySem.Spec PySem.Calls PyProof.Rows
set_option maxRecDepth 100000
namespace Mine
theorem hdn_eq {x : Str} {c : Bool} (h : reFound x = some c) (hr : ((x == Str.ofString "") || (Txt.item x 0 == Str.ofString ".") || (Txt.item x (-1) == Str.ofString ".")) = false) : hdn x = !c := by
  simp only [Bool.or_eq_false_iff] at hr
  unfold hdn
  cases c with
  | true => rw [if_pos h]; rfl
  | false =>
    rw [if_neg (by rw [h]; intro q; cases q), if_neg (by rw [hr.1.1]; exact Bool.false_ne_true), if_neg (by rw [hr.1.2, hr.2]; exact Bool.false_ne_true)]; rfl
theorem host_low {b t : Bool} {r : List Bool} (hr : r ∈ bools04) : Txt.lower (hostS b t r) = hostN b t r ∧ (hostS b t r).length ≤ 1000 := by
  obtain ⟨_, h2, h3, h4⟩ := host_all b t r hr
  obtain ⟨e1, e2, _⟩ := asc_ul h2 h4
  exact ⟨e1, by unfold hostS; omega⟩
theorem word_low {b : Bool} {q : List Bool} (hq : q ∈ wordsC b) : Txt.lower (dotted (wy b q)) = wordN b q ∧ (dotted (wy b q)).length ≤ 1000 := by
  obtain ⟨h2, h3, h4, _⟩ := word_all b q hq
  obtain ⟨_, _, e1⟩ := asc_ul h2 h4
  refine ⟨e1, ?_⟩
  have : (dotted (wy b q)).length = (wordX b q).length := by show (dotted (wy b q)).cps.size = _; rw [h2]; simp
  omega
theorem dm_eq (b t : Bool) {r q : List Bool} (hr : r ∈ bools04) (hq : q ∈ wordsC b) : dm (hostS b t r) (dotted (wy b q)) = (!t && dmC b r q) := by
  have h2 := hostR_all b t r hr
  obtain ⟨w1, w2, w3⟩ := wordR_all b q hq
  have hh := hdn_eq (reHost b t r hr) h2
  have hw := hdn_eq (reWord b q hq) w3
  have hne : (hostN b t r == wordN b q) = false := by
    cases e : (hostN b t r == wordN b q) with
    | false => rfl
    | true =>
      have e' : hostN b t r = wordN b q := by simpa using e
      have : (hostN b t r).cps[0]? = some 119 := by simp [hostX]
      rw [e', w1] at this; cases this
  unfold dm
  dsimp only
  rw [(host_low hr).1, (word_low hq).1]
  rw [if_neg (by rw [hne]; exact Bool.false_ne_true), hh]
  cases t with
  | true => rfl
  | false =>
    rw [if_neg (by decide), find_all b r hr q hq, w2, hw]
    unfold dmC
    cases infC q r <;> cases (b && decide (2 ≤ q.length) && q.getLast? == some true) <;> rfl

/-! paths as lists of Bools -/
def phi (b : Bool) (x : PC) : Str × Int := (wy b x.1, x.2)
def gam (b : Bool) (g : GC) : Grp := (wy b g.1, g.2)
theorem nmB_inj {b x y : Bool} (h : nmB b x = nmB b y) : x = y := by
  cases b <;> cases x <;> cases y <;> first | rfl | exact absurd h (by decide)
theorem nms_inj {b : Bool} {p q : List Bool} (h : nms b p = nms b q) : p = q := by
  induction p generalizing q with
  | nil => cases q with
    | nil => rfl
    | cons y q => cases h
  | cons x p ih => cases q with
    | nil => cases h
    | cons y q =>
      unfold nms at h
      rw [List.map_cons, List.map_cons] at h
      injection h with h1 h2
      rw [nmB_inj h1, ih h2]
structure PathF (b : Bool) (q : List Bool) : Prop where
  len : (wy b q).length ≤ 20
  sw : Txt.startswith (wy b q) slash = true
  cm : comps (wy b q) = nms b q
  sp : Txt.split (wy b q) slash = ⟨#[]⟩ :: nms b q
  dp : depth (wy b q) = q.length
theorem pathF {b : Bool} {q : List Bool} (h : q ∈ bools4) : PathF b q := by
  have := pathOk_all b q h
  unfold pathOk at this
  simp only [Bool.and_eq_true, decide_eq_true_eq, beq_iff_eq] at this
  exact ⟨this.1.1.1.1, this.1.1.1.2, this.1.1.2, this.1.2, this.2⟩
theorem wy_inj {b : Bool} {p q : List Bool} (hp : p ∈ bools4) (hq : q ∈ bools4) (h : wy b p = wy b q) : p = q :=
  nms_inj (b := b) (by rw [← (pathF (b := b) hp).cm, ← (pathF (b := b) hq).cm, h])
theorem mem4 {q : List Bool} : q ∈ bools4 ↔ q ≠ [] ∧ q.length ≤ 4 := by
  refine ⟨fun h => ?_, fun h => mem_bools4 h.1 h.2⟩
  have : ∀ q ∈ bools4, q ≠ [] ∧ q.length ≤ 4 := by decide
  exact this q h
theorem mem04 {q : List Bool} (h : q.length ≤ 4) : q ∈ bools04 := by
  by_cases e : q = []
  · subst e; exact .head _
  · exact .tail _ (mem4.mpr ⟨e, h⟩)
theorem gtB_map {b : Bool} {x y : PC} (hx : x.1 ∈ bools4) (hy : y.1 ∈ bools4) : gtB (phi b x) (phi b y) = gtBC b x y ∧ ltB (phi b x) (phi b y) = ltBC b x y := by
  unfold gtB ltB gtBC ltBC phi
  dsimp only
  by_cases e : x.1 = y.1
  · rw [if_pos (by rw [e]), if_pos e, if_pos (by rw [e]), if_pos e]; exact ⟨rfl, rfl⟩
  · have ne : ¬ wy b x.1 = wy b y.1 := fun q => e (wy_inj hx hy q)
    rw [if_neg ne, if_neg e, if_neg ne, if_neg e]
    exact ⟨ltS_all b _ hy _ hx, ltS_all b _ hx _ hy⟩
theorem setK_map {b : Bool} {row : List PC} {x : PC} (hx : x.1 ∈ bools4) (hr : ∀ y ∈ row, y.1 ∈ bools4) : ∀ k, setK (row.map (phi b)) (phi b x) k = setKC b row x k
  | 0 => rfl
  | k + 1 => by
    unfold setK setKC
    rw [List.getElem?_map]
    cases h : row[k]? with
    | none => rfl
    | some y =>
      have hy := hr y (List.mem_of_getElem? h)
      have : twc (phi b y) (phi b x) = twcC b y x := by unfold twc twcC; rw [(gtB_map hy hx).1, (gtB_map hy hx).2]
      simp only [Option.map_some, this, setK_map hx hr k]
theorem setIn_map {b : Bool} {row : List PC} {x : PC} (hx : x.1 ∈ bools4) (hr : ∀ y ∈ row, y.1 ∈ bools4) : setIn (row.map (phi b)) (phi b x) = (setInC b row x).map (phi b) := by
  unfold setIn setInC
  rw [List.length_map, setK_map hx hr, List.map_append, List.map_append, List.map_take, List.map_drop]; rfl
theorem setInC_mem {b : Bool} {row : List PC} {x : PC} (hx : x.1 ∈ bools4) (hr : ∀ y ∈ row, y.1 ∈ bools4) : ∀ y ∈ setInC b row x, y.1 ∈ bools4 := fun y hy => by
  unfold setInC at hy
  rcases List.mem_append.mp hy with h | h
  · rcases List.mem_append.mp h with h | h
    · exact hr y (List.mem_of_mem_take h)
    · rw [List.mem_singleton] at h; subst h; exact hx
  · exact hr y (List.mem_of_mem_drop h)
theorem endsK_map {b : Bool} {r : List Bool} {o : Int} {e0 : List PC} (hr : r.length ≤ 4) (he : ∀ y ∈ e0, y.1 ∈ bools4) : ∀ k, k ≤ r.length → endsK b r o (e0.map (phi b)) k = (endsKC b r o e0 k).map (phi b) ∧ ∀ y ∈ endsKC b r o e0 k, y.1 ∈ bools4
  | 0, _ => ⟨rfl, he⟩
  | k + 1, hk => by
    obtain ⟨h1, h2⟩ := endsK_map (b := b) (o := o) hr he k (by omega)
    have hd : r.drop k ∈ bools4 := mem4.mpr ⟨fun e => by have := congrArg List.length e; simp at this; omega, by simp; omega⟩
    unfold endsK endsKC
    rw [h1]
    have : (way ((nms b r).drop k), o) = phi b (r.drop k, o) := by unfold phi wy nms; rw [List.map_drop]
    rw [this]
    exact ⟨setIn_map hd h2, setInC_mem hd h2⟩
theorem ends_map (b : Bool) (tt : Nat → Bool) (rr : Nat → List Bool) (h : ∀ i, (rr i).length ≤ 4) :
    endsI b tt rr 2 = (endsC b (if tt 0 then [] else rr 0) (if tt 1 then [] else rr 1)).map (phi b) ∧ ∀ y ∈ endsC b (if tt 0 then [] else rr 0) (if tt 1 then [] else rr 1), y.1 ∈ bools4 := by
  have hh : ∀ i, (if tt i then [] else rr i).length ≤ 4 := fun i => by split; exact Nat.zero_le _; exact h i
  have a0 := endsK_map (b := b) (o := 0) (e0 := []) (hh 0) (fun y hy => nomatch hy) _ (Nat.le_refl _)
  have a1 := endsK_map (b := b) (o := 1) (hh 1) a0.2 _ (Nat.le_refl _)
  have e1 : endsI b tt rr 1 = endsK b (if tt 0 then [] else rr 0) 0 [] (if tt 0 then [] else rr 0).length := by
    rw [endsI]
    cases tt 0 <;> rfl
  have e2 : endsI b tt rr 2 = endsK b (if tt 1 then [] else rr 1) 1 (endsI b tt rr 1) (if tt 1 then [] else rr 1).length := by
    rw [endsI]
    cases tt 1 <;> rfl
  refine ⟨?_, a1.2⟩
  rw [e2, e1]
  have a0' : endsK b (if tt 0 then [] else rr 0) 0 [] (if tt 0 then [] else rr 0).length = (endsKC b (if tt 0 then [] else rr 0) 0 [] (if tt 0 then [] else rr 0).length).map (phi b) := a0.1
  rw [a0']
  exact a1.1
end Mine
end
section
open PySem PySem.W PySem.Spec PySem.Calls PyProof.Rows
set_option maxRecDepth 100000
namespace Mine
theorem nmB_ne {b x y : Bool} (h : x ≠ y) : nmB b x ≠ nmB b y := fun e => h (nmB_inj e)
theorem pre_nms (b : Bool) : ∀ p q : List Bool, pre (nms b p) (nms b q) = nms b (lcp p q)
  | [], _ => by simp [nms, pre, lcp]
  | _ :: _, [] => by simp [nms, pre, lcp]
  | x :: p, y :: q => by
    unfold nms
    rw [List.map_cons, List.map_cons, pre, lcp]
    by_cases h : x = y
    · subst h
      rw [if_pos rfl, if_pos rfl]
      have := pre_nms b p q
      unfold nms at this
      rw [this]; rfl
    · rw [if_neg (nmB_ne h), if_neg h]; rfl
theorem lcp_comm : ∀ p q : List Bool, lcp p q = lcp q p
  | [], [] => rfl
  | [], _ :: _ => rfl
  | _ :: _, [] => rfl
  | x :: p, y :: q => by
    unfold lcp
    by_cases h : x = y
    · subst h; rw [if_pos rfl, if_pos rfl, lcp_comm p q]
    · rw [if_neg h, if_neg (Ne.symm h)]
theorem lcp_self : ∀ p : List Bool, lcp p p = p
  | [] => rfl
  | x :: p => by unfold lcp; rw [if_pos rfl, lcp_self p]
theorem lcp_len : ∀ p q : List Bool, (lcp p q).length ≤ p.length
  | [], _ => Nat.zero_le _
  | _ :: _, [] => Nat.zero_le _
  | x :: p, y :: q => by
    unfold lcp
    split
    · simpa using lcp_len p q
    · exact Nat.zero_le _
theorem lohi_cases (P Q : List Str) : (loOf P Q = P ∧ hiOf P Q = Q) ∨ (loOf P Q = Q ∧ hiOf P Q = P) ∨ (loOf P Q = hiOf P Q ∧ loOf P Q = P ∧ lexLt Q P = false ∧ lexLt P Q = false) ∨ (loOf P Q = hiOf P Q ∧ loOf P Q = Q ∧ lexLt Q P = true ∧ lexLt P Q = true) := by
  unfold loOf hiOf lexGt
  cases h1 : lexLt Q P <;> cases h2 : lexLt P Q <;> simp [h1, h2]
/-- which of two rows of names comes first: finite -/
theorem lex_all : ∀ b : Bool, ∀ p ∈ bools4, ∀ q ∈ bools4, lexLt (nms b p) (nms b q) = ltC b p q := by decide +kernel
theorem ltC_asym : ∀ b : Bool, ∀ p ∈ bools4, ∀ q ∈ bools4, (ltC b p q && ltC b q p) = false ∧ ((!ltC b p q && !ltC b q p) = true → p = q) := by decide +kernel
theorem pre_lohi {b : Bool} {p q : List Bool} (hp : p ∈ bools4) (hq : q ∈ bools4) : pre (loOf (nms b p) (nms b q)) (hiOf (nms b p) (nms b q)) = nms b (lcp p q) := by
  obtain ⟨as1, as2⟩ := ltC_asym b p hp q hq
  rcases lohi_cases (nms b p) (nms b q) with ⟨h1, h2⟩ | ⟨h1, h2⟩ | ⟨h1, h2, h3, h4⟩ | ⟨h1, h2, h3, h4⟩
  · rw [h1, h2, pre_nms]
  · rw [h1, h2, pre_nms, lcp_comm]
  · rw [lex_all b q hq p hp] at h3
    rw [lex_all b p hp q hq] at h4
    have : p = q := as2 (by rw [h3, h4]; rfl)
    subst this
    rw [← h1, h2, pre_nms, lcp_self]
  · rw [lex_all b q hq p hp] at h3
    rw [lex_all b p hp q hq] at h4
    rw [h3, h4] at as1; cases as1
theorem cpOk {b : Bool} {p q : List Bool} (hp : p ∈ bools4) (hq : q ∈ bools4) : CpOk (wy b p) (wy b q) ∧ depth (cp (wy b p) (wy b q)) = (lcp p q).length := by
  have fp := pathF (b := b) hp
  have fq := pathF (b := b) hq
  have hl : lcp p q ∈ bools04 := mem04 (Nat.le_trans (lcp_len p q) (mem4.mp hp).2)
  obtain ⟨j1, j2, j3, j4⟩ := join_all b _ hl
  have hpre : pre (loOf (comps (wy b p)) (comps (wy b q))) (hiOf (comps (wy b p)) (comps (wy b q))) = nms b (lcp p q) := by rw [fp.cm, fq.cm]; exact pre_lohi hp hq
  have hs : ∀ {r : List Bool}, r ∈ bools4 → (Txt.split (wy b r) slash).length ≤ 1000 ∧ ∀ c ∈ Txt.split (wy b r) slash, c.length ≤ 1000 := fun {r} hr => by
    rw [(pathF (b := b) hr).sp]
    refine ⟨?_, fun c hc => ?_⟩
    · have := (mem4.mp hr).2
      unfold nms
      rw [List.length_cons, List.length_map]; omega
    · rcases List.mem_cons.mp hc with rfl | hc
      · decide
      · exact Nat.le_trans (nms_len c hc) (by decide)
  refine ⟨⟨Nat.le_trans fp.len (by decide), Nat.le_trans fq.len (by decide), fp.sw, fq.sw, (hs hp).1, (hs hq).1, (hs hp).2, (hs hq).2, by rw [hpre]; exact j2, by rw [hpre]; exact j3⟩, ?_⟩
  unfold cp
  rw [hpre, j1, j4]
theorem nxt_phi {b : Bool} {e : List PC} {i : Nat} (h : i < e.length) : nxt (e.map (phi b)) i = phi b (nxtC e i) := by
  unfold nxt nxtC
  rw [List.getD_eq_getElem?_getD, List.getD_eq_getElem?_getD, List.getElem?_map, List.getElem?_eq_getElem h]; rfl
theorem nxtC_mem {e : List PC} {i : Nat} (h : i < e.length) : nxtC e i ∈ e := by
  unfold nxtC
  rw [List.getD_eq_getElem?_getD, List.getElem?_eq_getElem h]
  exact List.getElem_mem h
theorem shared_map {b : Bool} {e : List PC} (he : ∀ y ∈ e, y.1 ∈ bools4) : sharedS (e.map (phi b)) = sharedC e := by
  unfold sharedS sharedC
  rw [List.length_map]
  congr 1
  refine List.map_congr_left fun i hi => ?_
  have hi' := List.mem_range.mp hi
  rw [nxt_phi (by omega), nxt_phi (by omega)]
  exact (cpOk (he _ (nxtC_mem (by omega))) (he _ (nxtC_mem (by omega)))).2
theorem head_eq {b : Bool} {q : List Bool} {n : Nat} (hq : q ∈ bools4) : ((Txt.split (wy b q) slash).drop 1).take n = nms b (q.take n) ∧ head (wy b q) n = wy b (q.take n) := by
  have e : ((Txt.split (wy b q) slash).drop 1).take n = nms b (q.take n) := by rw [(pathF (b := b) hq).sp]; unfold nms; rw [List.map_take]; rfl
  refine ⟨e, ?_⟩
  unfold head
  rw [e]
  exact (join_all b _ (mem04 (Nat.le_trans (by simp; omega) (mem4.mp hq).2))).1
theorem addLast_map (b : Bool) : ∀ (gs : List GC) (i : Int), addLast (gs.map (gam b)) i = (addLastC gs i).map (gam b)
  | [], _ => rfl
  | [g], _ => rfl
  | g :: h :: gs, i => by
    have := addLast_map b (h :: gs) i
    rw [List.map_cons] at this
    rw [List.map_cons, List.map_cons, addLast, this, addLastC, List.map_cons]
theorem bStep_map {b : Bool} {size : Nat} {gs : List GC} {e : PC} {sh : Int} (he : e.1 ∈ bools4) : bStep size (gs.map (gam b)) (phi b e) sh = (bStepC size gs e sh).map (gam b) := by
  unfold bStep bStepC
  have hd : depth (phi b e).1 = (e.1.length : Int) := (pathF (b := b) he).dp
  rw [hd]
  by_cases h : e.1.length ≥ size
  · rw [if_pos (show ((e.1.length : Int) ≥ (size : Int)) by omega), if_pos h, ← addLast_map]
    congr 1
    have hn : (gs.map (gam b) = []) ↔ gs = [] := List.map_eq_nil_iff
    by_cases h2 : sh < size ∨ gs = []
    · rw [if_pos (h2.imp id hn.mpr), if_pos h2, List.map_append]
      congr 1
      show [(head (phi b e).1 size, [])] = [gam b (e.1.take size, [])]
      unfold gam phi
      rw [(head_eq he).2]
    · rw [if_neg fun q => h2 (q.imp id hn.mp), if_neg h2]
  · rw [if_neg (show ¬ ((e.1.length : Int) ≥ (size : Int)) by omega), if_neg h]
theorem bAll_map {b : Bool} {size : Nat} : ∀ (es : List PC) (shs : List Int) (gs : List GC), (∀ y ∈ es, y.1 ∈ bools4) → bAll size (es.map (phi b)) shs (gs.map (gam b)) = (bAllC size es shs gs).map (gam b)
  | [], _, _, _ => by simp [bAll, bAllC]
  | e :: es, [], gs, _ => by simp [bAll, bAllC]
  | e :: es, sh :: shs, gs, h => by
    rw [List.map_cons, bAll, bAllC, bStep_map (h e (.head _))]
    exact bAll_map es shs _ fun y hy => h y (.tail _ hy)
theorem addLastC_mem : ∀ (gs : List GC) (i : Int), ∀ g ∈ addLastC gs i, ∃ g' ∈ gs, g.1 = g'.1
  | [], _, g, h => nomatch h
  | [g0], _, g, h => by
    rw [addLastC, List.mem_singleton] at h
    subst h
    exact ⟨g0, .head _, rfl⟩
  | g0 :: h0 :: gs, i, g, h => by
    rw [addLastC] at h
    rcases List.mem_cons.mp h with rfl | h
    · exact ⟨g, .head _, rfl⟩
    · obtain ⟨g', h1, h2⟩ := addLastC_mem (h0 :: gs) i g h
      exact ⟨g', .tail _ h1, h2⟩
theorem bAllC_mem {size : Nat} (hsz : 1 ≤ size) : ∀ (es : List PC) (shs : List Int) (gs : List GC), (∀ y ∈ es, y.1 ∈ bools4) → (∀ g ∈ gs, g.1 ∈ bools4) → ∀ g ∈ bAllC size es shs gs, g.1 ∈ bools4
  | [], _, gs, _, h => by simpa [bAllC] using h
  | e :: es, [], gs, _, h => by simpa [bAllC] using h
  | e :: es, sh :: shs, gs, he, h => by
    rw [bAllC]
    refine bAllC_mem hsz es shs _ (fun y hy => he y (.tail _ hy)) fun g hg => ?_
    unfold bStepC at hg
    have h0 := mem4.mp (he e (.head _))
    have hnew : e.1.take size ∈ bools4 := mem4.mpr ⟨fun q => by
      have := congrArg List.length q
      have h1 : e.1.length ≠ 0 := fun q => h0.1 (List.length_eq_zero_iff.mp q)
      rw [List.length_take, List.length_nil] at this; omega, Nat.le_trans (by rw [List.length_take]; omega) h0.2⟩
    split at hg
    · obtain ⟨g', m1, m2⟩ := addLastC_mem _ _ g hg
      rw [m2]
      split at m1
      · rcases List.mem_append.mp m1 with m | m
        · exact h g' m
        · rw [List.mem_singleton] at m; subst m; exact hnew
      · exact h g' m1
    · exact h g hg
theorem begun_map {b : Bool} {es : List PC} {shs : List Int} {size : Nat} (hsz : 1 ≤ size) (he : ∀ y ∈ es, y.1 ∈ bools4) : begun (es.map (phi b)) shs size = (begunC b es shs size).map (gam b) := by
  unfold begun begunC
  have := bAll_map (b := b) (size := size) es shs [] he
  rw [List.map_nil] at this
  rw [this, List.filter_map]
  congr 1
  refine List.filter_congr fun g hg => ?_
  have hm := bAllC_mem hsz es shs [] he (fun g h => nomatch h) g hg
  show bKeep size (gam b g) = bKeepC b size g
  unfold bKeep bKeepC gam
  rw [last_all b _ hm]
  congr 1
  exact decide_eq_decide.mpr (by omega)
end Mine
end
section
open PySem PySem.W PySem.Spec PySem.Calls PyProof.Rows
set_option maxRecDepth 100000
set_option maxHeartbeats 4000000
namespace Mine
/-! words as numbers: a base-3 figure for each name, so that the order of words is that of numbers. By recursors, for the kernel's sake -/
def cdW (b : Bool) : Nat → List Bool → Nat
  | _, [] => 0
  | w, x :: q => (bif x == b then 1 else 2) * w + cdW b (w / 3) q
def cd (b : Bool) (q : List Bool) : Nat := cdW b 27 q
def sufK (b : Bool) (r : List Bool) : Nat → List Nat
  | 0 => []
  | k + 1 => cd b (r.drop k) :: sufK b r k
abbrev Row := List Bool × List Nat × List Nat
def tab : Bool → List Row
  | false => [([], [], []), ([false], [27], [27]), ([true], [54], [54]), ([false, false], [27, 36], [27, 36]), ([true, false], [27, 63], [27, 54, 63]), ([false, true], [54, 45], [27, 45, 54]), ([true, true], [54, 72], [54, 72]), ([false, false, false], [27, 36, 39], [27, 36, 39]), ([true, false, false], [27, 36, 66], [27, 36, 54, 63, 66]), ([false, true, false], [27, 63, 48], [27, 45, 48, 54, 63]), ([true, true, false], [27, 63, 75], [27, 54, 63, 72, 75]), ([false, false, true], [54, 45, 42], [27, 36, 42, 45, 54]), ([true, false, true], [54, 45, 69], [27, 45, 54, 63, 69]), ([false, true, true], [54, 72, 51], [27, 45, 51, 54, 72]), ([true, true, true], [54, 72, 78], [54, 72, 78]), ([false, false, false, false], [27, 36, 39, 40], [27, 36, 39]), ([true, false, false, false], [27, 36, 39, 67], [27, 36, 39, 54, 63, 66]), ([false, true, false, false], [27, 36, 66, 49], [27, 36, 45, 48, 54, 63, 66]), ([true, true, false, false], [27, 36, 66, 76], [27, 36, 54, 63, 66, 72, 75]), ([false, false, true, false], [27, 63, 48, 43], [27, 36, 42, 45, 48, 54, 63]), ([true, false, true, false], [27, 63, 48, 70], [27, 45, 48, 54, 63, 69]), ([false, true, true, false], [27, 63, 75, 52], [27, 45, 51, 54, 63, 72, 75]), ([true, true, true, false], [27, 63, 75, 79], [27, 54, 63, 72, 75, 78]), ([false, false, false, true], [54, 45, 42, 41], [27, 36, 39, 42, 45, 54]), ([true, false, false, true], [54, 45, 42, 68], [27, 36, 42, 45, 54, 63, 66]), ([false, true, false, true], [54, 45, 69, 50], [27, 45, 48, 54, 63, 69]), ([true, true, false, true], [54, 45, 69, 77], [27, 45, 54, 63, 69, 72, 75]), ([false, false, true, true], [54, 72, 51, 44], [27, 36, 42, 45, 51, 54, 72]), ([true, false, true, true], [54, 72, 51, 71], [27, 45, 51, 54, 63, 69, 72]), ([false, true, true, true], [54, 72, 78, 53], [27, 45, 51, 54, 72, 78]), ([true, true, true, true], [54, 72, 78, 80], [54, 72, 78])]
  | true => [([], [], []), ([false], [54], [54]), ([true], [27], [27]), ([false, false], [54, 72], [54, 72]), ([true, false], [54, 45], [27, 45, 54]), ([false, true], [27, 63], [27, 54]), ([true, true], [27, 36], [27]), ([false, false, false], [54, 72, 78], [54, 72, 78]), ([true, false, false], [54, 72, 51], [27, 45, 51, 54, 72]), ([false, true, false], [54, 45, 69], [27, 45, 54, 69]), ([true, true, false], [54, 45, 42], [27, 42, 45, 54]), ([false, false, true], [27, 63, 75], [27, 54, 72]), ([true, false, true], [27, 63, 48], [27, 45, 54]), ([false, true, true], [27, 36, 66], [27, 54]), ([true, true, true], [27, 36, 39], [27]), ([false, false, false, false], [54, 72, 78, 80], [54, 72, 78]), ([true, false, false, false], [54, 72, 78, 53], [27, 45, 51, 54, 72, 78]), ([false, true, false, false], [54, 72, 51, 71], [27, 45, 51, 54, 69, 72]), ([true, true, false, false], [54, 72, 51, 44], [27, 42, 45, 51, 54, 72]), ([false, false, true, false], [54, 45, 69, 77], [27, 45, 54, 69, 72]), ([true, false, true, false], [54, 45, 69, 50], [27, 45, 54, 69]), ([false, true, true, false], [54, 45, 42, 68], [27, 42, 45, 54]), ([true, true, true, false], [54, 45, 42, 41], [27, 42, 45, 54]), ([false, false, false, true], [27, 63, 75, 79], [27, 54, 72, 78]), ([true, false, false, true], [27, 63, 75, 52], [27, 45, 51, 54, 72]), ([false, true, false, true], [27, 63, 48, 70], [27, 45, 54, 69]), ([true, true, false, true], [27, 63, 48, 43], [27, 42, 45, 54]), ([false, false, true, true], [27, 36, 66, 76], [27, 54, 72]), ([true, false, true, true], [27, 36, 66, 49], [27, 45, 54]), ([false, true, true, true], [27, 36, 39, 67], [27, 54]), ([true, true, true, true], [27, 36, 39, 40], [27])]
theorem tab_ok : ∀ b, tab b = (bools04.map fun r => (r, sufK b r r.length, (toldC b r).map (cd b))) := by decide +kernel
noncomputable section
def insR (x : Nat) (l : List Nat) : List Nat := List.rec (motive := fun _ => List Nat) [x] (fun y ys ih => Bool.rec (motive := fun _ => List Nat) (x :: y :: ys) (y :: ih) (Nat.blt x y)) l
def endsR (cs : List Nat) (o : Nat) (e0 : List Nat) : List Nat := List.rec (motive := fun _ => List Nat) e0 (fun c _ ih => insR (2 * c + o) ih) cs
def prevK (w : Nat) (l : List Nat) : Nat := List.rec (motive := fun _ => Nat) 0 (fun e _ _ => e / 2 / w) l
def joinR (k o : Nat) (gs : List (Nat × Nat)) : List (Nat × Nat) := List.rec (motive := fun _ => List (Nat × Nat)) [(k, o)] (fun g gs _ => (g.1, Nat.lor g.2 o) :: gs) gs
def begR (w : Nat) (l : List Nat) : List (Nat × Nat) := List.rec (motive := fun _ => List (Nat × Nat)) []
  (fun e es ih => Bool.rec (motive := fun _ => List (Nat × Nat))
    (Bool.rec (motive := fun _ => List (Nat × Nat)) ((e / 2 / w, 1 + e % 2) :: ih) (joinR (e / 2 / w) (1 + e % 2) ih) (Nat.beq (prevK w es) (e / 2 / w)))
    ih (Nat.beq (e / 2 / w % 3) 0)) l
def selR (f : Nat × Nat → Bool) (gs : List (Nat × Nat)) (acc : List Nat) : List Nat := List.rec (motive := fun _ => List Nat → List Nat) (fun acc => acc) (fun g _ ih acc => Bool.rec (motive := fun _ => List Nat) (ih acc) (ih (g.1 :: acc)) (f g)) gs acc
def sizeR (w : Nat) (l : List Nat) : List Nat := List.rec (motive := fun _ => List Nat) [] (fun c _ ih => Bool.rec (motive := fun _ => List Nat) ih (c / w :: ih) (and (Nat.beq (c % w) 0) (not (Nat.beq (c / w % 3) 0)))) l
def eqR (l : List Nat) : List Nat → Bool := List.rec (motive := fun _ => List Nat → Bool) (fun m => List.rec (motive := fun _ => Bool) true (fun _ _ _ => false) m) (fun x _ ih m => List.rec (motive := fun _ => Bool) false (fun y ys _ => and (Nat.beq x y) (ih ys)) m) l
def keepR (b : Bool) (n : Nat) (g : Nat × Nat) : Bool := or (Nat.beq n 1) (not (and b (Nat.beq (g.1 % 3) 1)))
def sideR (b : Bool) (n w : Nat) (E T0 T1 A0 A1 : List Nat) : Bool :=
  and (eqR (sizeR w T0) (selR (fun g => and (keepR b n g) (Nat.beq (g.2 % 2) 1)) (begR w E) []))
  (and (eqR (sizeR w T1) (selR (fun g => and (keepR b n g) (Nat.ble 2 g.2)) (begR w E) []))
  (and (eqR (sizeR w A0) (selR (fun g => and (keepR b n g) (not (Nat.ble 2 g.2))) (begR w E) []))
  (eqR (sizeR w A1) (selR (fun g => and (keepR b n g) (not (Nat.beq (g.2 % 2) 1))) (begR w E) []))))
def sldQ (n : Nat) : List Nat → List Nat → List Nat × List Nat := Nat.rec (motive := fun _ => List Nat → List Nat → List Nat × List Nat) (fun xs ys => (xs, ys))
  (fun _ ih xs ys => List.rec (motive := fun _ => List Nat × List Nat) ([], ys) (fun x xt _ => List.rec (motive := fun _ => List Nat × List Nat) (x :: xt, []) (fun y yt _ =>
    Bool.rec (motive := fun _ => List Nat × List Nat) (Bool.rec (motive := fun _ => List Nat × List Nat) (ih xt yt) ((ih (x :: xt) yt).1, y :: (ih (x :: xt) yt).2) (Nat.blt y x)) (x :: (ih xt (y :: yt)).1, (ih xt (y :: yt)).2) (Nat.blt x y)) ys) xs) n
def pairR (b : Bool) (p0 p1 : Row) : Bool :=
  let E := endsR p1.2.1 1 (endsR p0.2.1 0 [])
  let A := sldQ (p0.2.2.length + p1.2.2.length) p0.2.2 p1.2.2
  and (sideR b 1 27 E p0.2.2 p1.2.2 A.1 A.2) (and (sideR b 2 9 E p0.2.2 p1.2.2 A.1 A.2) (sideR b 3 3 E p0.2.2 p1.2.2 A.1 A.2))
end
/-! one word: finite facts -/
def decK (b : Bool) : Nat → Nat → List Bool
  | 0, _ => []
  | n + 1, k => decK b n (k / 3) ++ [bif Nat.beq (k % 3) 1 then b else !b]
def lenK (c : Nat) : Nat := bif Nat.beq (c % 27) 0 then 1 else bif Nat.beq (c % 9) 0 then 2 else bif Nat.beq (c % 3) 0 then 3 else 4
def wt (n : Nat) : Nat := 3 ^ (4 - n)
structure OneF (b : Bool) (q : List Bool) (n : Nat) : Prop where
  ge : decide (q.length ≥ n) = !Nat.beq (cd b q / wt n % 3) 0
  tk : cd b (q.take n) / wt n = cd b q / wt n
  dec : q.length ≥ n → decK b n (cd b q / wt n) = q.take n
  eq : decide (q.length = n) = (Nat.beq (cd b q % wt n) 0 && !Nat.beq (cd b q / wt n % 3) 0)
  last : q.length = n → (b && q.getLast? == some true) = (b && Nat.beq (cd b q / wt n % 3) 1)
def oneOk (b : Bool) (q : List Bool) (n : Nat) : Bool :=
  (decide (q.length ≥ n) == !Nat.beq (cd b q / wt n % 3) 0) && (cd b (q.take n) / wt n == cd b q / wt n) && (decide (q.length < n) || decK b n (cd b q / wt n) == q.take n) &&
  (decide (q.length = n) == (Nat.beq (cd b q % wt n) 0 && !Nat.beq (cd b q / wt n % 3) 0)) && (decide (q.length ≠ n) || (b && q.getLast? == some true) == (b && Nat.beq (cd b q / wt n % 3) 1))
theorem one_tab : ∀ b : Bool, ∀ q ∈ bools4, ∀ n ∈ [1, 2, 3, 4], oneOk b q n = true := by decide +kernel
theorem oneF (b : Bool) {q : List Bool} (hq : q ∈ bools4) {n : Nat} (h1 : 1 ≤ n) (h4 : n ≤ 4) : OneF b q n := by
  have h := one_tab b q hq n (by
    have : n = 1 ∨ n = 2 ∨ n = 3 ∨ n = 4 := by omega
    rcases this with rfl | rfl | rfl | rfl <;> decide)
  unfold oneOk at h
  simp only [Bool.and_eq_true, Bool.or_eq_true, beq_iff_eq, decide_eq_true_eq] at h
  exact ⟨h.1.1.1.1, h.1.1.1.2, fun g => h.1.1.2.resolve_left (by omega), h.1.2, fun g => h.2.resolve_left (fun k => k g)⟩
theorem len_tab : ∀ b : Bool, ∀ q ∈ bools4, lenK (cd b q) = q.length := by decide +kernel
theorem cd_lt : ∀ b : Bool, ∀ p ∈ bools4, ∀ q ∈ bools4, ltC b p q = Nat.blt (cd b p) (cd b q) := by decide +kernel
theorem cd_inj {b : Bool} {p q : List Bool} (hp : p ∈ bools4) (hq : q ∈ bools4) (h : cd b p = cd b q) : p = q := by
  have hl : p.length = q.length := by rw [← len_tab b p hp, ← len_tab b q hq, h]
  have m := mem4.mp hp
  have m0 : p.length ≠ 0 := fun e => m.1 (List.length_eq_zero_iff.mp e)
  have fp := (oneF b hp (n := p.length) (by omega) m.2).dec (Nat.le_refl _)
  have fq := (oneF b hq (n := p.length) (by omega) m.2).dec (by omega)
  rw [List.take_length] at fp
  rw [hl, List.take_length] at fq
  rw [← fp, h, hl, fq]
theorem blt_iff {a b : Nat} : Nat.blt a b = true ↔ a < b := by unfold Nat.blt; rw [Nat.ble_eq]; exact Iff.rfl
theorem bltd (a b : Nat) : Nat.blt a b = decide (a < b) := by
  by_cases h : a < b
  · rw [blt_iff.mpr h, decide_eq_true h]
  · rw [decide_eq_false h]; cases e : Nat.blt a b with
    | false => rfl
    | true => exact (h (blt_iff.mp e)).elim
theorem beqd (a b : Nat) : Nat.beq a b = decide (a = b) := by
  by_cases h : a = b
  · subst h; rw [Nat.beq_refl, decide_eq_true rfl]
  · rw [decide_eq_false h]; cases e : Nat.beq a b with
    | false => rfl
    | true => exact (h (Nat.eq_of_beq_eq_true e)).elim

/-! the ends, as numbers, last first -/
def enc (b : Bool) (x : PC) : Nat := 2 * cd b x.1 + x.2.toNat
def GoodP (x : PC) : Prop := x.1 ∈ bools4 ∧ (x.2 = 0 ∨ x.2 = 1)
theorem enc_div {b : Bool} {x : PC} (h : GoodP x) : enc b x / 2 = cd b x.1 ∧ enc b x % 2 = x.2.toNat ∧ x.2.toNat ≤ 1 := by
  unfold enc
  rcases h.2 with e | e <;> rw [e]
  · exact ⟨by show (2 * cd b x.1 + 0) / 2 = _; omega, by show (2 * cd b x.1 + 0) % 2 = 0; omega, by decide⟩
  · exact ⟨by show (2 * cd b x.1 + 1) / 2 = _; omega, by show (2 * cd b x.1 + 1) % 2 = 1; omega, by decide⟩
theorem twc_enc {b : Bool} {x y : PC} (hx : GoodP x) (hy : GoodP y) : decide (twcC b y x > 0) = Nat.blt (enc b x) (enc b y) := by
  unfold twcC gtBC ltBC enc
  by_cases e : y.1 = x.1
  · rw [if_pos e, if_pos e, e, bltd]
    rcases hx.2 with e1 | e1 <;> rcases hy.2 with e2 | e2 <;> rw [e1, e2] <;> simp [b2i]
  · rw [if_neg e, if_neg e, cd_lt b _ hx.1 _ hy.1, cd_lt b _ hy.1 _ hx.1, bltd, bltd, bltd]
    have ne : cd b y.1 ≠ cd b x.1 := fun q => e (cd_inj hy.1 hx.1 q)
    have o1 := (enc_div (b := b) hx).2.2
    have o2 := (enc_div (b := b) hy).2.2
    rcases Nat.lt_or_gt_of_ne ne with h | h
    · rw [decide_eq_false (show ¬ cd b x.1 < cd b y.1 by omega), decide_eq_true h, decide_eq_false (show ¬ 2 * cd b x.1 + x.2.toNat < 2 * cd b y.1 + y.2.toNat by omega)]; rfl
    · rw [decide_eq_true (show cd b x.1 < cd b y.1 by omega), decide_eq_false (show ¬ cd b y.1 < cd b x.1 by omega), decide_eq_true (show 2 * cd b x.1 + x.2.toNat < 2 * cd b y.1 + y.2.toNat by omega)]; rfl
def insP (b : Bool) (x : PC) : List PC → List PC
  | [] => [x]
  | y :: ys => if twcC b y x > 0 then y :: insP b x ys else x :: y :: ys
theorem setKC_le (b : Bool) (row : List PC) (x : PC) : ∀ k, setKC b row x k ≤ k
  | 0 => Nat.le_refl _
  | k + 1 => by
    unfold setKC
    split
    · split
      · exact Nat.le_succ_of_le (setKC_le b row x k)
      · exact Nat.le_refl _
    · exact Nat.le_refl _
theorem setKC_app (b : Bool) (row s : List PC) (x : PC) : ∀ k, k ≤ row.length → setKC b (row ++ s) x k = setKC b row x k
  | 0, _ => rfl
  | k + 1, h => by
    unfold setKC
    rw [List.getElem?_append_left (by omega), setKC_app b row s x k (by omega)]
theorem setIn_rev (b : Bool) (x : PC) : ∀ l, setInC b l.reverse x = (insP b x l).reverse
  | [] => rfl
  | y :: ys => by
    have ih := setIn_rev b x ys
    have hlen : (ys.reverse ++ [y]).length = ys.reverse.length + 1 := by simp
    have hget : (ys.reverse ++ [y])[ys.reverse.length]? = some y := by simp
    have hle := setKC_le b ys.reverse x ys.reverse.length
    rw [List.reverse_cons]
    unfold insP
    by_cases h : twcC b y x > 0
    · rw [if_pos h, List.reverse_cons, ← ih]
      have hk : setKC b (ys.reverse ++ [y]) x (ys.reverse.length + 1) = setKC b ys.reverse x ys.reverse.length := by
        rw [← setKC_app b ys.reverse [y] x _ (Nat.le_refl _)]
        conv => lhs; unfold setKC
        rw [hget]; exact if_pos h
      unfold setInC
      rw [hlen, hk, List.take_append_of_le_length hle, List.drop_append_of_le_length hle]
      simp only [List.append_assoc]
    · rw [if_neg h]
      have hk : setKC b (ys.reverse ++ [y]) x (ys.reverse.length + 1) = ys.reverse.length + 1 := by
        conv => lhs; unfold setKC
        rw [hget]; exact if_neg h
      unfold setInC
      rw [hlen, hk, ← hlen, List.take_length, List.drop_length]
      simp
theorem ins_enc {b : Bool} {x : PC} (hx : GoodP x) : ∀ l : List PC, (∀ y ∈ l, GoodP y) → (insP b x l).map (enc b) = insR (enc b x) (l.map (enc b)) ∧ ∀ y ∈ insP b x l, GoodP y
  | [], _ => ⟨rfl, fun y hy => by rw [insP, List.mem_singleton] at hy; subst hy; exact hx⟩
  | y :: ys, h => by
    obtain ⟨i1, i2⟩ := ins_enc (b := b) hx ys fun z hz => h z (.tail _ hz)
    have hc := twc_enc (b := b) hx (h y (.head _))
    have e : insR (enc b x) ((y :: ys).map (enc b)) = Bool.rec (motive := fun _ => List Nat) (enc b x :: enc b y :: ys.map (enc b)) (enc b y :: insR (enc b x) (ys.map (enc b))) (Nat.blt (enc b x) (enc b y)) := rfl
    rw [e]
    unfold insP
    by_cases g : twcC b y x > 0
    · rw [decide_eq_true g] at hc
      rw [if_pos g, ← hc, List.map_cons, i1]
      refine ⟨rfl, fun z hz => ?_⟩
      rcases List.mem_cons.mp hz with rfl | hz
      · exact h _ (.head _)
      · exact i2 z hz
    · rw [decide_eq_false g] at hc
      rw [if_neg g, ← hc]
      refine ⟨rfl, fun z hz => ?_⟩
      rcases List.mem_cons.mp hz with rfl | hz
      · exact hx
      · exact h z hz
theorem ends_enc {b : Bool} {r : List Bool} {o : Int} (ho : o = 0 ∨ o = 1) (hr : r.length ≤ 4) {l : List PC} (hl : ∀ y ∈ l, GoodP y) : ∀ k, k ≤ r.length →
    ∃ l' : List PC, endsKC b r o l.reverse k = l'.reverse ∧ l'.map (enc b) = endsR (sufK b r k) o.toNat (l.map (enc b)) ∧ ∀ y ∈ l', GoodP y
  | 0, _ => ⟨l, rfl, rfl, hl⟩
  | k + 1, hk => by
    obtain ⟨l', h1, h2, h3⟩ := ends_enc (b := b) ho hr hl k (by omega)
    have hd : GoodP (r.drop k, o) := ⟨mem4.mpr ⟨fun e => by have := congrArg List.length e; simp at this; omega, by simp; omega⟩, ho⟩
    obtain ⟨i1, i2⟩ := ins_enc (b := b) hd l' h3
    refine ⟨insP b (r.drop k, o) l', ?_, ?_, i2⟩
    · rw [endsKC, h1, setIn_rev]
    · rw [i1, h2]; rfl

/-! the groups, as numbers, last first -/
def lcpOf : List PC → PC → Int
  | [], _ => 0
  | f :: _, e => ((lcp f.1 e.1).length : Int)
def shR : List PC → List Int
  | [] => []
  | e :: es => shR es ++ [lcpOf es e]
theorem shR_len : ∀ l, (shR l).length = l.length
  | [] => rfl
  | e :: es => by rw [shR, List.length_append, shR_len es]; rfl
theorem shared_rev : ∀ l : List PC, l ≠ [] → sharedC l.reverse = shR l
  | [], h => (h rfl).elim
  | [e], _ => rfl
  | e :: f :: fs, _ => by
    have ih := shared_rev (f :: fs) (by simp)
    rw [shR, ← ih]
    have hlen : (f :: fs).reverse.length = fs.length + 1 := by simp
    rw [List.reverse_cons]
    generalize ha : (f :: fs).reverse = a at *
    have hlast : nxtC (a ++ [e]) fs.length = f := by
      unfold nxtC
      rw [List.getD_eq_getElem?_getD, List.getElem?_append_left (by omega), ← ha]
      simp
    have hnext : nxtC (a ++ [e]) (fs.length + 1) = e := by
      unfold nxtC
      rw [List.getD_eq_getElem?_getD, ← hlen]; simp
    have hin : ∀ i, i < fs.length + 1 → nxtC (a ++ [e]) i = nxtC a i := fun i hi => by
      unfold nxtC
      rw [List.getD_eq_getElem?_getD, List.getD_eq_getElem?_getD, List.getElem?_append_left (by omega)]
    unfold sharedC
    rw [List.length_append, hlen, show fs.length + 1 + [e].length - 1 = fs.length + 1 from rfl, show fs.length + 1 - 1 = fs.length from rfl, List.range_succ, List.map_append, List.cons_append]
    congr 2
    · refine List.map_congr_left fun i hi => ?_
      have := List.mem_range.mp hi
      rw [hin i (by omega), hin (i + 1) (by omega)]
    · rw [List.map_singleton, hlast, hnext]; rfl
theorem bAll_snoc (n : Nat) : ∀ (a : List PC) (shs : List Int) (gs : List GC) (e : PC) (sh : Int), shs.length = a.length → bAllC n (a ++ [e]) (shs ++ [sh]) gs = bStepC n (bAllC n a shs gs) e sh
  | [], [], gs, e, sh, _ => by simp [bAllC]
  | [], _ :: _, _, _, _, h => by cases h
  | _ :: _, [], _, _, _, h => by cases h
  | x :: a, y :: shs, gs, e, sh, h => by
    rw [List.cons_append, List.cons_append, bAllC, bAllC]
    exact bAll_snoc n a shs _ e sh (by simpa using h)
theorem addLastC_snoc : ∀ (gs : List GC) (q : List Bool) (os : List Int) (i : Int), addLastC (gs ++ [(q, os)]) i = gs ++ [(q, os ++ [i])]
  | [], _, _, _ => rfl
  | [g], _, _, _ => rfl
  | g :: h :: gs, q, os, i => by
    have := addLastC_snoc (h :: gs) q os i
    simp only [List.cons_append] at this ⊢
    rw [addLastC, this]
def bitsC (os : List Int) : Nat := Nat.lor (bif os.any (· == 0) then 1 else 0) (bif os.any (· == 1) then 2 else 0)
theorem bits_snoc (os : List Int) {i : Int} (hi : i = 0 ∨ i = 1) : bitsC (os ++ [i]) = Nat.lor (bitsC os) (1 + i.toNat) := by
  unfold bitsC
  rw [List.any_append, List.any_append]
  generalize os.any (· == 0) = x
  generalize os.any (· == 1) = y
  rcases hi with rfl | rfl <;> cases x <;> cases y <;> rfl
theorem bits_one {i : Int} (hi : i = 0 ∨ i = 1) : bitsC ([] ++ [i]) = 1 + i.toNat := by rcases hi with rfl | rfl <;> rfl
def gamR (b : Bool) (n : Nat) (g : GC) : Nat × Nat := (cd b g.1 / wt n, bitsC g.2)
theorem lcp_ge : ∀ (n : Nat) (p q : List Bool), n ≤ q.length → (n ≤ (lcp p q).length ↔ p.take n = q.take n)
  | 0, _, _, _ => by simp
  | n + 1, [], y :: q, _ => by simp [lcp]
  | n + 1, x :: p, y :: q, h => by
    have ih := lcp_ge n p q (by simpa using h)
    unfold lcp
    by_cases e : x = y
    · subst e; rw [if_pos rfl]; simp [ih]
    · rw [if_neg e]; simp [e]
  | n + 1, _, [], h => by simp at h
theorem take4 {q : List Bool} (hq : q ∈ bools4) {n : Nat} (h1 : 1 ≤ n) : q.take n ∈ bools4 := by
  have m := mem4.mp hq
  have m0 : q.length ≠ 0 := fun e => m.1 (List.length_eq_zero_iff.mp e)
  exact mem4.mpr ⟨fun e => by have := congrArg List.length e; rw [List.length_take, List.length_nil] at this; omega, by rw [List.length_take]; omega⟩
theorem lcp_key {b : Bool} {p q : List Bool} (hp : p ∈ bools4) (hq : q ∈ bools4) {n : Nat} (h1 : 1 ≤ n) (h4 : n ≤ 4) (hn : n ≤ q.length) : decide (((lcp p q).length : Int) < (n : Int)) = !Nat.beq (cd b p / wt n) (cd b q / wt n) := by
  have fp := oneF b hp h1 h4
  have fq := oneF b hq h1 h4
  have key : cd b p / wt n = cd b q / wt n ↔ p.take n = q.take n := by
    refine ⟨fun e => ?_, fun e => by rw [← fp.tk, e, fq.tk]⟩
    have g := fq.ge
    rw [decide_eq_true hn, ← e, ← fp.ge] at g
    rw [← fp.dec (of_decide_eq_true g.symm), e, fq.dec hn]
  have l := lcp_ge n p q hn
  rw [beqd]
  by_cases e : cd b p / wt n = cd b q / wt n
  · rw [decide_eq_true e, decide_eq_false (by have := l.mpr (key.mp e); omega)]; rfl
  · rw [decide_eq_false e, decide_eq_true (by have : ¬ n ≤ (lcp p q).length := fun h => e (key.mpr (l.mp h)); omega)]; rfl
theorem beg_enc {b : Bool} {n : Nat} (h1 : 1 ≤ n) (h4 : n ≤ 4) : ∀ l : List PC, (∀ y ∈ l, GoodP y) →
    ((bAllC n l.reverse (shR l) []).map (gamR b n)).reverse = begR (wt n) (l.map (enc b)) ∧ ∀ g ∈ bAllC n l.reverse (shR l) [], g.1 ∈ bools4 ∧ g.1.length = n
  | [], _ => ⟨rfl, fun g h => nomatch h⟩
  | e :: es, hl => by
    obtain ⟨i1, i2⟩ := beg_enc (b := b) h1 h4 es fun y hy => hl y (.tail _ hy)
    have he := hl e (.head _)
    obtain ⟨d1, d2, d3⟩ := enc_div (b := b) he
    have fe := oneF b he.1 h1 h4
    rw [List.reverse_cons, shR, bAll_snoc n _ _ _ _ _ (by rw [shR_len, List.length_reverse])]
    have hR : begR (wt n) ((e :: es).map (enc b)) = Bool.rec (motive := fun _ => List (Nat × Nat))
        (Bool.rec (motive := fun _ => List (Nat × Nat)) ((cd b e.1 / wt n, 1 + e.2.toNat) :: begR (wt n) (es.map (enc b))) (joinR (cd b e.1 / wt n) (1 + e.2.toNat) (begR (wt n) (es.map (enc b)))) (Nat.beq (prevK (wt n) (es.map (enc b))) (cd b e.1 / wt n)))
        (begR (wt n) (es.map (enc b))) (Nat.beq (cd b e.1 / wt n % 3) 0) := by rw [← d1, ← d2]; rfl
    rw [hR, ← i1]
    generalize bAllC n es.reverse (shR es) [] = G at *
    by_cases hge : e.1.length ≥ n
    · have k0 : Nat.beq (cd b e.1 / wt n % 3) 0 = false := by
        have := fe.ge; rw [decide_eq_true hge] at this
        cases q : Nat.beq (cd b e.1 / wt n % 3) 0 with
        | false => rfl
        | true => rw [q] at this; cases this
      rw [k0]
      show _ = Bool.rec (motive := fun _ => List (Nat × Nat)) _ _ _ ∧ _
      have tlen : (e.1.take n).length = n := by rw [List.length_take]; omega
      have tmem := take4 he.1 h1
      -- a new group
      have new : ((addLastC (G ++ [(e.1.take n, [])]) e.2).map (gamR b n)).reverse = (cd b e.1 / wt n, 1 + e.2.toNat) :: (G.map (gamR b n)).reverse ∧ ∀ g ∈ addLastC (G ++ [(e.1.take n, [])]) e.2, g.1 ∈ bools4 ∧ g.1.length = n := by
        rw [addLastC_snoc]
        refine ⟨?_, fun g hg => ?_⟩
        · rw [List.map_append, List.reverse_append]
          show gamR b n (e.1.take n, [] ++ [e.2]) :: _ = _
          unfold gamR
          rw [fe.tk, bits_one he.2]; rfl
        · rcases List.mem_append.mp hg with hg | hg
          · exact i2 g hg
          · rw [List.mem_singleton] at hg; subst hg; exact ⟨tmem, tlen⟩
      unfold bStepC
      rw [if_pos hge]
      cases es with
      | nil =>
        have hn : Nat.beq (prevK (wt n) (List.map (enc b) [])) (cd b e.1 / wt n) = false := by
          show Nat.beq 0 (cd b e.1 / wt n) = false
          rw [beqd, decide_eq_false_iff_not]
          intro q
          rw [← q] at k0; cases k0
        rw [hn, if_pos (.inl (by show (0 : Int) < n; omega))]
        exact new
      | cons f fs =>
        have hf := hl f (.tail _ (.head _))
        have hp : prevK (wt n) (List.map (enc b) (f :: fs)) = cd b f.1 / wt n := by rw [← (enc_div (b := b) hf).1]; rfl
        have hk := lcp_key (b := b) hf.1 he.1 h1 h4 hge
        rw [hp]
        cases q : Nat.beq (cd b f.1 / wt n) (cd b e.1 / wt n) with
        | false =>
          rw [q] at hk
          rw [if_pos (.inl (of_decide_eq_true hk))]
          exact new
        | true =>
          rw [q] at hk
          have hk' := of_decide_eq_false hk
          show _ = joinR (cd b e.1 / wt n) (1 + e.2.toNat) (G.map (gamR b n)).reverse ∧ _
          rcases List.eq_nil_or_concat G with rfl | ⟨G', ⟨x, os⟩, rfl⟩
          · rw [if_pos (.inr rfl)]
            exact new
          · rw [List.concat_eq_append] at i2 ⊢
            rw [if_neg (by rintro (h | h); exact hk' h; simp at h), addLastC_snoc]
            refine ⟨?_, fun g hg => ?_⟩
            · rw [List.map_append, List.reverse_append, List.map_append, List.reverse_append]
              show gamR b n (x, os ++ [e.2]) :: _ = ((gamR b n (x, os)).1, Nat.lor (gamR b n (x, os)).2 (1 + e.2.toNat)) :: _
              unfold gamR
              rw [bits_snoc os he.2]
            · rcases List.mem_append.mp hg with hg | hg
              · exact i2 g (List.mem_append.mpr (.inl hg))
              · rw [List.mem_singleton] at hg; subst hg
                exact i2 (x, os) (List.mem_append.mpr (.inr (.head _)))
    · have k0 : Nat.beq (cd b e.1 / wt n % 3) 0 = true := by
        have := fe.ge; rw [decide_eq_false hge] at this
        cases q : Nat.beq (cd b e.1 / wt n % 3) 0 with
        | true => rfl
        | false => rw [q] at this; cases this
      rw [k0]
      unfold bStepC
      rw [if_neg hge]
      exact ⟨rfl, i2⟩

/-! what is compared -/
theorem sel_eq (f : Nat × Nat → Bool) : ∀ (gs : List (Nat × Nat)) (acc : List Nat), selR f gs acc = ((gs.filter f).map (·.1)).reverse ++ acc
  | [], _ => rfl
  | g :: gs, acc => by
    show Bool.rec (motive := fun _ => List Nat) (selR f gs acc) (selR f gs (g.1 :: acc)) (f g) = _
    cases h : f g with
    | false => rw [List.filter_cons_of_neg (by rw [h]; exact Bool.false_ne_true)]; exact sel_eq f gs acc
    | true => rw [List.filter_cons_of_pos h, List.map_cons, List.reverse_cons, List.append_assoc]; exact sel_eq f gs _
theorem size_enc {b : Bool} {n : Nat} (h1 : 1 ≤ n) (h4 : n ≤ 4) : ∀ l : List (List Bool), (∀ q ∈ l, q ∈ bools4) → sizeR (wt n) (l.map (cd b)) = (sizeC n l).map fun q => cd b q / wt n
  | [], _ => rfl
  | q :: l, h => by
    have ih := size_enc (b := b) h1 h4 l fun p hp => h p (.tail _ hp)
    have f := (oneF b (h q (.head _)) h1 h4).eq
    show Bool.rec (motive := fun _ => List Nat) (sizeR (wt n) (l.map (cd b))) (cd b q / wt n :: sizeR (wt n) (l.map (cd b))) (Nat.beq (cd b q % wt n) 0 && !Nat.beq (cd b q / wt n % 3) 0) = _
    rw [← f, ih]
    unfold sizeC
    cases h2 : decide (q.length = n) with
    | false => rw [List.filter_cons_of_neg (p := fun q : List Bool => decide (q.length = n)) (by rw [h2]; exact Bool.false_ne_true)]
    | true => rw [List.filter_cons_of_pos (p := fun q : List Bool => decide (q.length = n)) h2]; rfl
theorem eqR_eq : ∀ {l m : List Nat}, eqR l m = true → l = m
  | [], [], _ => rfl
  | [], _ :: _, h => by cases h
  | _ :: _, [], h => by cases h
  | x :: l, y :: m, h => by
    have h' : (Nat.beq x y && eqR l m) = true := h
    rw [Bool.and_eq_true] at h'
    rw [Nat.eq_of_beq_eq_true h'.1, eqR_eq h'.2]
theorem sld_enc (b : Bool) : ∀ (n : Nat) (xs ys : List (List Bool)), (∀ q ∈ xs, q ∈ bools4) → (∀ q ∈ ys, q ∈ bools4) →
    sldQ n (xs.map (cd b)) (ys.map (cd b)) = ((sldFC b n xs ys).1.map (cd b), (sldFC b n xs ys).2.map (cd b)) ∧ (∀ q ∈ (sldFC b n xs ys).1, q ∈ bools4) ∧ ∀ q ∈ (sldFC b n xs ys).2, q ∈ bools4
  | 0, xs, ys, hx, hy => ⟨rfl, hx, hy⟩
  | n + 1, [], ys, hx, hy => ⟨rfl, hx, hy⟩
  | n + 1, x :: xs, [], hx, hy => ⟨rfl, hx, hy⟩
  | n + 1, x :: xs, y :: ys, hx, hy => by
    have a1 := sld_enc b n xs (y :: ys) (fun q h => hx q (.tail _ h)) hy
    have a2 := sld_enc b n (x :: xs) ys hx (fun q h => hy q (.tail _ h))
    have a3 := sld_enc b n xs ys (fun q h => hx q (.tail _ h)) (fun q h => hy q (.tail _ h))
    have e : sldQ (n + 1) ((x :: xs).map (cd b)) ((y :: ys).map (cd b)) = Bool.rec (motive := fun _ => List Nat × List Nat)
        (Bool.rec (motive := fun _ => List Nat × List Nat) (sldQ n (xs.map (cd b)) (ys.map (cd b))) ((sldQ n ((x :: xs).map (cd b)) (ys.map (cd b))).1, cd b y :: (sldQ n ((x :: xs).map (cd b)) (ys.map (cd b))).2) (Nat.blt (cd b y) (cd b x)))
        (cd b x :: (sldQ n (xs.map (cd b)) ((y :: ys).map (cd b))).1, (sldQ n (xs.map (cd b)) ((y :: ys).map (cd b))).2) (Nat.blt (cd b x) (cd b y)) := rfl
    rw [e, a1.1, a2.1, a3.1, sldFC, cd_lt b _ (hx x (.head _)) _ (hy y (.head _)), cd_lt b _ (hy y (.head _)) _ (hx x (.head _))]
    cases h1 : Nat.blt (cd b x) (cd b y) with
    | true =>
      rw [if_pos rfl]
      refine ⟨rfl, fun q h => ?_, a1.2.2⟩
      rcases List.mem_cons.mp h with rfl | h
      · exact hx _ (.head _)
      · exact a1.2.1 q h
    | false =>
      rw [if_neg Bool.false_ne_true]
      cases h2 : Nat.blt (cd b y) (cd b x) with
      | true =>
        rw [if_pos rfl]
        refine ⟨rfl, a2.2.1, fun q h => ?_⟩
        rcases List.mem_cons.mp h with rfl | h
        · exact hy _ (.head _)
        · exact a2.2.2 q h
      | false => rw [if_neg Bool.false_ne_true]; exact ⟨rfl, a3.2⟩
/-- all rows, by the kernel -/
theorem pairs_f : ((tab false).all fun p0 => (tab false).all fun p1 => pairR false p0 p1) = true := by decide +kernel
theorem pairs_t : ((tab true).all fun p0 => (tab true).all fun p1 => pairR true p0 p1) = true := by decide +kernel
theorem pairs_all : ∀ b : Bool, ((tab b).all fun p0 => (tab b).all fun p1 => pairR b p0 p1) = true := fun b => by
  cases b
  · exact pairs_f
  · exact pairs_t
theorem row_mem (b : Bool) {r : List Bool} (h : r.length ≤ 4) : (r, sufK b r r.length, (toldC b r).map (cd b)) ∈ tab b := by
  rw [tab_ok b]
  exact List.mem_map.mpr ⟨r, mem04 h, rfl⟩
theorem words4 : ∀ b : Bool, ∀ q ∈ wordsC b, q ∈ bools4 := by decide +kernel
theorem told4 {b : Bool} {r : List Bool} : ∀ q ∈ toldC b r, q ∈ bools4 := fun q h => words4 b q (List.mem_filter.mp h).1
theorem one_side {b : Bool} {n : Nat} (h1 : 1 ≤ n) (h4 : n ≤ 4) {G : List GC} {E : List Nat} (hG : (G.map (gamR b n)).reverse = begR (wt n) E) (hm : ∀ g ∈ G, g.1 ∈ bools4 ∧ g.1.length = n)
    {T : List (List Bool)} (hT : ∀ q ∈ T, q ∈ bools4) {f : Nat × Nat → Bool} {p : GC → Bool} (hp : ∀ g ∈ G, p g = f (gamR b n g)) (h : eqR (sizeR (wt n) (T.map (cd b))) (selR f (begR (wt n) E) []) = true) : sizeC n T = (G.filter p).map (·.1) := by
  have e := eqR_eq h
  rw [size_enc h1 h4 T hT, sel_eq, List.append_nil, ← hG, List.filter_reverse, List.map_reverse, List.reverse_reverse, List.filter_map, List.map_map] at e
  have e2 : G.filter (f ∘ gamR b n) = G.filter p := List.filter_congr fun g hg => (hp g hg).symm
  rw [e2] at e
  have d : ∀ q ∈ bools4, q.length = n → decK b n (cd b q / wt n) = q := fun q hq hl => by
    rw [(oneF b hq h1 h4).dec (by omega), ← hl, List.take_length]
  have e3 := congrArg (List.map (decK b n)) e
  rw [List.map_map, List.map_map] at e3
  have l1 : (sizeC n T).map (decK b n ∘ fun q => cd b q / wt n) = sizeC n T := by
    conv => rhs; rw [← List.map_id (sizeC n T)]
    refine List.map_congr_left fun q hq => ?_
    have := List.mem_filter.mp hq
    exact d q (hT q this.1) (of_decide_eq_true this.2)
  rw [l1] at e3
  rw [e3]
  refine List.map_congr_left fun g hg => ?_
  have := hm g (List.mem_filter.mp hg).1
  exact d g.1 this.1 this.2
theorem side_of {b : Bool} {r0 r1 : List Bool} (h0 : r0.length ≤ 4) (h1 : r1.length ≤ 4) (n : Nat) (hn : n < 3) :
    sizeC (n + 1) (toldC b r0) = ((begunC b (endsC b r0 r1) (sharedC (endsC b r0 r1)) (n + 1)).filter (inGC 0)).map (·.1) ∧
    sizeC (n + 1) (toldC b r1) = ((begunC b (endsC b r0 r1) (sharedC (endsC b r0 r1)) (n + 1)).filter (inGC 1)).map (·.1) ∧
    sizeC (n + 1) (sldC b (toldC b r0) (toldC b r1)).1 = ((begunC b (endsC b r0 r1) (sharedC (endsC b r0 r1)) (n + 1)).filter fun x => !inGC 1 x).map (·.1) ∧
    sizeC (n + 1) (sldC b (toldC b r0) (toldC b r1)).2 = ((begunC b (endsC b r0 r1) (sharedC (endsC b r0 r1)) (n + 1)).filter fun x => !inGC 0 x).map (·.1) := by
  obtain ⟨l0, a1, a2, a3⟩ := ends_enc (b := b) (r := r0) (o := 0) (.inl rfl) h0 (l := []) (fun y h => nomatch h) _ (Nat.le_refl _)
  obtain ⟨l, b1, b2, b3⟩ := ends_enc (b := b) (r := r1) (o := 1) (.inr rfl) h1 a3 _ (Nat.le_refl _)
  have hE : endsC b r0 r1 = l.reverse := by
    unfold endsC
    rw [show endsKC b r0 0 [] r0.length = l0.reverse from a1, b1]
  have hEn : l.map (enc b) = endsR (sufK b r1 r1.length) 1 (endsR (sufK b r0 r0.length) 0 []) := by rw [b2, a2]; rfl
  obtain ⟨g1, g2⟩ := beg_enc (b := b) (n := n + 1) (by omega) (by omega) l b3
  have hB : bAllC (n + 1) (endsC b r0 r1) (sharedC (endsC b r0 r1)) [] = bAllC (n + 1) l.reverse (shR l) [] := by
    rw [hE]
    by_cases e : l = []
    · subst e; simp [bAllC]
    · rw [shared_rev l e]
  obtain ⟨s1, s2, s3⟩ := sld_enc b ((toldC b r0).length + (toldC b r1).length) (toldC b r0) (toldC b r1) told4 told4
  have P := List.all_eq_true.mp (List.all_eq_true.mp (pairs_all b) _ (row_mem b h0)) _ (row_mem b h1)
  have P' : sideR b (n + 1) (wt (n + 1)) (l.map (enc b)) ((toldC b r0).map (cd b)) ((toldC b r1).map (cd b)) ((sldC b (toldC b r0) (toldC b r1)).1.map (cd b)) ((sldC b (toldC b r0) (toldC b r1)).2.map (cd b)) = true := by
    unfold pairR at P
    dsimp only at P
    rw [List.length_map, List.length_map, s1, ← hEn] at P
    rw [Bool.and_eq_true, Bool.and_eq_true] at P
    match n, hn with
    | 0, _ => exact P.1
    | 1, _ => exact P.2.1
    | 2, _ => exact P.2.2
  unfold begunC
  rw [hB]
  generalize hS : sldC b (toldC b r0) (toldC b r1) = A at *
  have hA1 : ∀ q ∈ A.1, q ∈ bools4 := by rw [← hS]; exact s2
  have hA2 : ∀ q ∈ A.2, q ∈ bools4 := by rw [← hS]; exact s3
  generalize bAllC (n + 1) l.reverse (shR l) [] = G at *
  unfold sideR at P'
  rw [Bool.and_eq_true, Bool.and_eq_true, Bool.and_eq_true] at P'
  have hkeep : ∀ g ∈ G, keepR b (n + 1) (gamR b (n + 1) g) = bKeepC b (n + 1) g := fun g hg => by
    have := (oneF b (g2 g hg).1 (n := n + 1) (by omega) (by omega)).last (g2 g hg).2
    unfold bKeepC
    rw [this, ← beqd]; rfl
  have hin0 : ∀ g : GC, Nat.beq ((gamR b (n + 1) g).2 % 2) 1 = inGC 0 g := fun g => by
    show Nat.beq (bitsC g.2 % 2) 1 = g.2.any (· == 0)
    unfold bitsC
    generalize g.2.any (· == 0) = x
    generalize g.2.any (· == 1) = y
    cases x <;> cases y <;> rfl
  have hin1 : ∀ g : GC, Nat.ble 2 (gamR b (n + 1) g).2 = inGC 1 g := fun g => by
    show Nat.ble 2 (bitsC g.2) = g.2.any (· == 1)
    unfold bitsC
    generalize g.2.any (· == 0) = x
    generalize g.2.any (· == 1) = y
    cases x <;> cases y <;> rfl
  have fin : ∀ {T : List (List Bool)} {f : Nat × Nat → Bool} {p : GC → Bool}, (∀ q ∈ T, q ∈ bools4) → (∀ g ∈ G, p g = f (gamR b (n + 1) g)) → eqR (sizeR (wt (n + 1)) (T.map (cd b))) (selR (fun g => and (keepR b (n + 1) g) (f g)) (begR (wt (n + 1)) (l.map (enc b))) []) = true → sizeC (n + 1) T = ((G.filter (bKeepC b (n + 1))).filter p).map (·.1) := fun hT hp h => by
    rw [List.filter_filter]
    exact one_side (by omega) (by omega) g1 g2 hT (fun g hg => by rw [hp g hg, ← hkeep g hg, Bool.and_comm]) h
  exact ⟨fin told4 (fun g hg => (hin0 g).symm) P'.1, fin told4 (fun g hg => (hin1 g).symm) P'.2.1, fin hA1 (f := fun g => not (Nat.ble 2 g.2)) (fun g hg => by rw [hin1 g]) P'.2.2.1, fin hA2 (f := fun g => not (Nat.beq (g.2 % 2) 1)) (fun g hg => by rw [hin0 g]) P'.2.2.2⟩
end Mine
end
section
open PySem PySem.W PySem.Spec PySem.Calls PyProof.Rows
set_option maxRecDepth 100000
set_option maxHeartbeats 4000000
namespace Mine
/-! the setting meets what the walk of the law asks -/
theorem words_all : ∀ b : Bool, (wordsC b).Nodup ∧ (∀ q ∈ wordsC b, q ∈ bools4) ∧ toldC b [] = [] := by decide +kernel
theorem told_map (b t : Bool) (r : List Bool) (hr : r.length ≤ 4) : toldS b t r = (toldC b (if t then [] else r)).map (wy b) := by
  unfold toldS wordsB
  rw [List.filter_map]
  cases t with
  | true =>
    rw [if_pos rfl, (words_all b).2.2]
    rw [List.filter_eq_nil_iff.mpr fun q hq => by
      have e : dm (hostS b true r) (dotted (wy b q)) = false := dm_eq b true (mem04 hr) hq
      rw [Function.comp_apply, e]; exact Bool.false_ne_true]
  | false =>
    rw [if_neg (by decide)]
    unfold toldC
    refine congrArg (List.map (wy b)) (List.filter_congr fun q hq => ?_)
    have e := dm_eq b false (mem04 hr) hq
    rw [Bool.not_false, Bool.true_and] at e
    rw [Function.comp_apply]
    exact e
theorem told_mem {b : Bool} {r q : List Bool} (h : q ∈ toldC b r) : q ∈ bools4 := told4 q h
theorem sldF_map (b : Bool) : ∀ (n : Nat) (xs ys : List (List Bool)), (∀ q ∈ xs, q ∈ bools4) → (∀ q ∈ ys, q ∈ bools4) →
    sldF n (xs.map (wy b)) (ys.map (wy b)) = ((sldFC b n xs ys).1.map (wy b), (sldFC b n xs ys).2.map (wy b)) ∧ (∀ q ∈ (sldFC b n xs ys).1, q ∈ bools4) ∧ ∀ q ∈ (sldFC b n xs ys).2, q ∈ bools4
  | 0, xs, ys, hx, hy => ⟨rfl, hx, hy⟩
  | n + 1, [], ys, hx, hy => ⟨rfl, hx, hy⟩
  | n + 1, x :: xs, [], hx, hy => ⟨rfl, hx, hy⟩
  | n + 1, x :: xs, y :: ys, hx, hy => by
    have a1 := sldF_map b n xs (y :: ys) (fun q h => hx q (.tail _ h)) hy
    have a2 := sldF_map b n (x :: xs) ys hx (fun q h => hy q (.tail _ h))
    have a3 := sldF_map b n xs ys (fun q h => hx q (.tail _ h)) (fun q h => hy q (.tail _ h))
    rw [List.map_cons] at a1 a2
    rw [List.map_cons, List.map_cons, sldF, sldFC, ltS_all b _ (hx x (.head _)) _ (hy y (.head _)), ltS_all b _ (hy y (.head _)) _ (hx x (.head _))]
    by_cases h1 : ltC b x y = true
    · rw [if_pos h1, if_pos h1, a1.1]
      refine ⟨rfl, fun q h => ?_, a1.2.2⟩
      rcases List.mem_cons.mp h with rfl | h
      · exact hx _ (.head _)
      · exact a1.2.1 q h
    · rw [if_neg h1, if_neg h1]
      by_cases h2 : ltC b y x = true
      · rw [if_pos h2, if_pos h2, a2.1]
        refine ⟨rfl, a2.2.1, fun q h => ?_⟩
        rcases List.mem_cons.mp h with rfl | h
        · exact hy _ (.head _)
        · exact a2.2.2 q h
      · rw [if_neg h2, if_neg h2]; exact a3
theorem size_map {b : Bool} {n : Nat} {l : List (List Bool)} (h : ∀ q ∈ l, q ∈ bools4) : sizeOf n (l.map (wy b)) = (sizeC n l).map (wy b) := by
  unfold sizeOf sizeC
  rw [List.filter_map]
  congr 1
  refine List.filter_congr fun q hq => ?_
  show decide (depth (wy b q) = n) = decide (q.length = n)
  rw [(pathF (b := b) (h q hq)).dp]
  exact decide_eq_decide.mpr (by omega)
theorem grp_map {b : Bool} {G : List GC} {f : GC → Bool} {f' : Grp → Bool} (hf : ∀ g, f' (gam b g) = f g) : ((G.map (gam b)).filter f').map (·.1) = ((G.filter f).map (·.1)).map (wy b) := by
  rw [List.filter_map, List.map_map, List.map_map]
  have : (f' ∘ gam b) = f := funext hf
  rw [this]; rfl
theorem adj_nodup {l : List Str} (h : l.Nodup) : Adj l := fun i x y h1 h2 => by
  obtain ⟨l1, rfl⟩ := List.getElem?_eq_some_iff.mp h1
  obtain ⟨l2, rfl⟩ := List.getElem?_eq_some_iff.mp h2
  rw [beq_eq_false_iff_ne]
  intro e
  have := List.pairwise_iff_getElem.mp h i (i + 1) l1 l2 (by omega)
  exact this e.symm
theorem wordsB_nodup (b : Bool) : (wordsB b).Nodup := by
  unfold wordsB
  have : ∀ l : List (List Bool), (∀ q ∈ l, q ∈ bools4) → l.Nodup → (l.map (wy b)).Nodup := fun l => by
    induction l with
    | nil => intro _ _; exact List.nodup_nil
    | cons x l ih =>
      intro h1 h2
      rw [List.map_cons, List.nodup_cons]
      rw [List.nodup_cons] at h2
      refine ⟨fun m => ?_, ih (fun q h => h1 q (.tail _ h)) h2.2⟩
      obtain ⟨q, hq, e⟩ := List.mem_map.mp m
      have := wy_inj (b := b) (h1 q (.tail _ hq)) (h1 x (.head _)) e
      subst this
      exact h2.1 hq
  exact this _ (words_all b).2.1 (words_all b).1
theorem lawOk (b : Bool) (tt : Nat → Bool) (rr : Nat → List Bool) (h : ∀ i, (rr i).length ≤ 4) : LawOk b tt rr := by
  obtain ⟨em, ep⟩ := ends_map b tt rr h
  have hh : ∀ i, (if tt i then [] else rr i).length ≤ 4 := fun i => by split; exact Nat.zero_le _; exact h i
  have l8 := endsI_len b tt rr h 2
  have T := fun i => told_map b (tt i) (rr i) (h i)
  have es : sharedS (endsI b tt rr 2) = sharedC (endsC b (if tt 0 then [] else rr 0) (if tt 1 then [] else rr 1)) := by rw [em]; exact shared_map ep
  have G : ∀ n, begun (endsI b tt rr 2) (sharedS (endsI b tt rr 2)) (n + 1) = (begunC b (endsC b (if tt 0 then [] else rr 0) (if tt 1 then [] else rr 1)) (sharedC (endsC b (if tt 0 then [] else rr 0) (if tt 1 then [] else rr 1))) (n + 1)).map (gam b) := fun n => by
    rw [es, em]; exact begun_map (by omega) ep
  have S := fun n (hn : n < 3) => side_of (b := b) (hh 0) (hh 1) n hn
  have D := sldF_map b ((toldC b (if tt 0 then [] else rr 0)).length + (toldC b (if tt 1 then [] else rr 1)).length) (toldC b (if tt 0 then [] else rr 0)) (toldC b (if tt 1 then [] else rr 1)) (fun q => told_mem) (fun q => told_mem)
  have D' : sld (toldS b (tt 0) (rr 0)) (toldS b (tt 1) (rr 1)) = ((sldC b (toldC b (if tt 0 then [] else rr 0)) (toldC b (if tt 1 then [] else rr 1))).1.map (wy b), (sldC b (toldC b (if tt 0 then [] else rr 0)) (toldC b (if tt 1 then [] else rr 1))).2.map (wy b)) := by
    unfold sld sldC
    rw [T 0, T 1, List.length_map, List.length_map]
    exact D.1
  refine ⟨h, fun i _ => ?_, fun i _ x hx => ?_, fun x hx => ?_, fun i _ => ?_, fun i hi => ?_, fun n hn => ?_, fun n hn i hi => ?_, fun n hn i hi => ?_⟩
  · obtain ⟨h1, h2, h3, _⟩ := host_all b (tt i) (rr i) (mem04 (h i))
    refine ⟨h1, ?_⟩
    have : (Txt.join dot (hostL b (tt i) (rr i))).length = (hostX b (tt i) (rr i)).length := by show (Txt.join dot (hostL b (tt i) (rr i))).cps.size = _; rw [h2]; simp
    omega
  · obtain ⟨q, hq, rfl⟩ := List.mem_map.mp (show x ∈ (wordsC b).map (wy b) from hx)
    have a := host_low (b := b) (t := tt i) (mem04 (h i))
    have c := word_low (b := b) hq
    obtain ⟨_, _, h3, _⟩ := host_all b (tt i) (rr i) (mem04 (h i))
    obtain ⟨_, w3, _⟩ := word_all b q hq
    refine ⟨⟨a.2, c.2, ⟨_, by rw [a.1]; exact reHost b (tt i) (rr i) (mem04 (h i))⟩, ⟨_, by rw [c.1]; exact reWord b q hq⟩⟩, ?_, ?_⟩
    · rw [a.1]; show (hostX b (tt i) (rr i)).toArray.size ≤ _; simp; omega
    · rw [c.1]; show (wordX b q).toArray.size ≤ _; simp; omega
  · obtain ⟨q, hq, rfl⟩ := List.mem_map.mp (show x ∈ (wordsC b).map (wy b) from hx)
    exact (word_all b q hq).2.2.2
  · exact adj_nodup ((wordsB_nodup b).filter _)
  · rw [em] at hi ⊢
    rw [List.length_map] at hi
    rw [nxt_phi (by omega), nxt_phi hi]
    exact (cpOk (ep _ (nxtC_mem (by omega))) (ep _ (nxtC_mem hi))).1
  · have ls : (sharedS (endsI b tt rr 2)).length = 1 + ((endsI b tt rr 2).length - 1) := by unfold sharedS; rw [List.length_cons, List.length_map, List.length_range]; omega
    refine ⟨by omega, by omega, by omega, by omega, fun e he => ?_⟩
    rw [em] at he
    obtain ⟨y, hy, rfl⟩ := List.mem_map.mp he
    have f := pathF (b := b) (ep y hy)
    have hd := (head_eq (b := b) (n := n + 1) (ep y hy)).1
    have hl : y.1.take (n + 1) ∈ bools04 := mem04 (Nat.le_trans (by rw [List.length_take]; omega) (mem4.mp (ep y hy)).2)
    obtain ⟨_, j2, j3, _⟩ := join_all b _ hl
    refine ⟨Nat.le_trans f.len (by decide), ?_, ?_, ?_⟩
    · show (Txt.split (wy b y.1) slash).length ≤ 1000
      rw [f.sp]
      have := (mem4.mp (ep y hy)).2
      unfold nms
      rw [List.length_cons, List.length_map]; omega
    · show JoinOk slash (((Txt.split (wy b y.1) slash).drop 1).take (n + 1)) = true
      rw [hd]; exact j2
    · show (Txt.join slash (((Txt.split (wy b y.1) slash).drop 1).take (n + 1))).length ≤ 1000
      rw [hd]; exact j3
  · obtain ⟨s1, s2, s3, s4⟩ := S n hn
    rw [T i, G n, size_map fun q => told_mem]
    match i, hi with
    | 0, _ => exact (congrArg (List.map (wy b)) s1).trans (grp_map (b := b) (f := inGC 0) (f' := inG 0) fun _ => rfl).symm
    | 1, _ => exact (congrArg (List.map (wy b)) s2).trans (grp_map (b := b) (f := inGC 1) (f' := inG 1) fun _ => rfl).symm
  · obtain ⟨s1, s2, s3, s4⟩ := S n hn
    rw [D', G n]
    match i, hi with
    | 0, _ =>
      rw [if_pos rfl]
      show sizeOf (n + 1) ((sldC b (toldC b (if tt 0 then [] else rr 0)) (toldC b (if tt 1 then [] else rr 1))).1.map (wy b)) = _
      rw [size_map (show ∀ q ∈ (sldC b (toldC b (if tt 0 then [] else rr 0)) (toldC b (if tt 1 then [] else rr 1))).1, q ∈ bools4 from D.2.1)]
      exact (congrArg (List.map (wy b)) s3).trans (grp_map (b := b) (f := fun x => !inGC 1 x) (f' := fun g => !inG 1 g) fun _ => rfl).symm
    | 1, _ =>
      rw [if_neg (by decide)]
      show sizeOf (n + 1) ((sldC b (toldC b (if tt 0 then [] else rr 0)) (toldC b (if tt 1 then [] else rr 1))).2.map (wy b)) = _
      rw [size_map (show ∀ q ∈ (sldC b (toldC b (if tt 0 then [] else rr 0)) (toldC b (if tt 1 then [] else rr 1))).2, q ∈ bools4 from D.2.2)]
      exact (congrArg (List.map (wy b)) s4).trans (grp_map (b := b) (f := fun x => !inGC 0 x) (f' := fun g => !inG 0 g) fun _ => rfl).symm
end Mine
end
open PySem PySem.W PySem.Spec PySem.Calls PyProof.Rows
set_option maxRecDepth 100000
namespace Mine
theorem well_ints {P : Params} {h : Heap} {B : Sto} : ∀ (ns : List Int) (vs : List Value), WellAll P h vs (ofPys (ns.map PyData.int)) → VAll B vs (ns.map .int)
  | [], _, x => by cases x; exact .nil
  | n :: ns, _, x => by
    have e : ofPys ((n :: ns).map PyData.int) = .int n :: ofPys (ns.map PyData.int) := rfl
    rw [e] at x
    cases x with
    | cons x r =>
      cases x
      exact .cons (.int _ _) (well_ints ns _ r)
theorem well_list {P : Params} {h : Heap} {a : Addr} (ns : List Int) (x : Well P h (.ref a) (ofPy (PyData.list (ns.map PyData.int)))) : ∃ vs, h.get? a = some (lstObj vs 0) ∧ WellAll P h vs (ofPys (ns.map PyData.int)) := by
  have e : ofPy (PyData.list (ns.map PyData.int)) = .list (ofPys (ns.map PyData.int)) := rfl
  rw [e] at x
  cases x with
  | list h1 h2 => exact ⟨_, h1, h2⟩
theorem callerRm : Rm 14 callerA := ⟨rfl, by decide, by decide⟩
theorem law_open (w : World) (ns : List Int) (hl : ns.length ≤ 63) (a : Addr) (s : Shared) {Q X : Value → Shared → Prop} (gd : Gd w s) (hw : Well w.params s.heap (.ref a) (ofPy (PyData.list (ns.map PyData.int))))
    (q : ∀ s', Keeps s s' → Q (.bool true) s') : wpAny (MM w) callerA (call (.ref 201) [.ref a]) Q X s := by
  obtain ⟨vs, h1, h2⟩ := well_list ns hw
  have rl : ∀ i : Nat, (if i = 0 then rowOf ns 0 else rowOf ns 1).length ≤ 4 := fun i => by
    split
    · exact Nat.le_trans (by unfold rowOf; rw [List.length_map]; exact Nat.le_refl _) (pick_le ns false hl)
    · exact Nat.le_trans (by unfold rowOf; rw [List.length_map]; exact Nat.le_refl _) (pick_le ns true hl)
  refine law_run w ns hl (fun i => if i = 0 then tOf ns 4 else tOf ns 16) (fun i => if i = 0 then rowOf ns 0 else rowOf ns 1) rfl rfl rfl rfl (lawOk _ _ _ rl) (A := callerA) rfl (B := fun b => if b = a then some (lstObj vs 0) else none) callerRm gd (fun b o e => ?_) (.cons (.lst (if_pos rfl) (well_ints ns vs h2)) .nil) fun v B' s' g hv => ?_
  · have e' : (if b = a then some (lstObj vs 0) else none) = some o := e
    by_cases q : b = a
    · rw [if_pos q] at e'; rw [q, h1]; exact e'
    · rw [if_neg q] at e'; cases e'
  · cases hv.inv_bool
    exact q s' g.kp
end Mine
set_option maxRecDepth 100000 in
set_option maxHeartbeats 8000000 in
theorem PySem.Challenge.cw_pd0170_01_holds : PySem.Challenge.rw_pd0170_01.Holds := by
  refine Mine.hd ?_
  k_fill
  intro w s₀ s₁ mg mb G Y fa o pm cd doc dV kV ho hd hcd hD hmg hg args vals as hpre hlay hrd hwl hlo
  have KX := kIn_of Y
  refine Ground.open G ?_
  intro T B D TE TW
  wrow_args hpre hlay hrd hwl hlo
  x_fa T KX hmg
  refine Mine.law_open w _ ?_ _ s₁ ⟨KX, ⟨mg, mb, T.g, T.b, T.builtins⟩, T.nolimit⟩ (by assumption) fun s' k => ?_
  · omega
  obtain ⟨h', tk, rfl, kk⟩ := k
  exact ⟨.inl ⟨_, .bool true, [], rfl, fun _ => rfl, ReadsW.bool true, (by first | rfl | wrow_post), fun _ => ⟨List.nodup_nil, fun _ hm => nomatch hm⟩⟩, OldK.of_keep kk, rfl, .of_eq hg⟩
