import PyProof.Rows.All
import Wide.All
import OpenK.AllK
import Wide.FinOn
import PySem.Challenge.RW_mg0040_01
set_option Elab.async false
section
open PySem PySem.W PyProof.Rows PySem.Calls PySem.Spec
set_option Elab.async false
set_option maxRecDepth 100000
set_option linter.all false
namespace Mine

/-- every list and every tuple of h stands in h' as it was -/
def KeepSeq (h h' : Heap) : Prop := ∀ b o xs n, h.get? b = some o → o.data = .seq xs n → h'.get? b = some o
theorem KeepSeq.refl (h : Heap) : KeepSeq h h := fun _ _ _ _ e _ => e
theorem KeepSeq.trans {h h' h'' : Heap} (a : KeepSeq h h') (b : KeepSeq h' h'') : KeepSeq h h'' := fun x o xs n e d => b x o xs n (a x o xs n e d) d
theorem KeepSeq.of {h h' : Heap} (k : ∀ b o, h.get? b = some o → h'.get? b = some o) : KeepSeq h h' := fun b o _ _ e _ => k b o e
theorem KeepSeq.but {h h' : Heap} {L : Addr} {m} (hn : h.Ns L m) (hs : Heap.SameBut L h h') : KeepSeq h h' := fun b o xs n e d => by
  obtain ⟨oL, es, ep, hL, hd, _⟩ := hn
  refine (hs.2 b ?_).trans e
  rintro rfl
  rw [hL] at e; cases e; rw [hd] at d; cases d
theorem KeepSeq.isList {h h' : Heap} {a : Addr} {items : Array Value} (k : KeepSeq h h') (l : h.IsList a items) : h'.IsList a items :=
  let ⟨o, ho, hc, n, hd⟩ := l; ⟨o, k _ _ _ _ ho hd, hc, n, hd⟩
theorem KeepSeq.isTup {h h' : Heap} {a : Addr} {items : Array Value} (k : KeepSeq h h') (l : IsTup h a items) : IsTup h' a items :=
  let ⟨o, ho, hc, n, hd⟩ := l; ⟨o, k _ _ _ _ ho hd, hc, n, hd⟩

/-- every place that is free in s is one of P -/
def Fo (P : Addr → Prop) (s : Shared) : Prop := ∀ b, s.heap.get? b = none → P b

mutual
/-- the value v bears the datum d in the heap h, on places of P alone -/
def Has (P : Addr → Prop) (h : Heap) : PyData → Value → Prop
  | .none, v => v = .none
  | .bool b, v => v = .bool b
  | .int i, v => ∃ t, v = .int i t
  | .str x, v => ∃ t, v = .str x t
  | .list xs, v => ∃ a items, v = .ref a ∧ P a ∧ h.IsList a items ∧ HasAll P h xs items.toList
  | .tuple xs, v => ∃ a items, v = .ref a ∧ P a ∧ IsTup h a items ∧ HasAll P h xs items.toList
  | .dict ks, v => ∃ a : Nat, ks = [(.int a, .none)] ∧ v = .ref a
def HasAll (P : Addr → Prop) (h : Heap) : List PyData → List Value → Prop
  | [], vs => vs = []
  | d :: ds, vs => ∃ v r, vs = v :: r ∧ Has P h d v ∧ HasAll P h ds r
end
section
variable {P P' : Addr → Prop}

mutual
theorem Has.go {h h' : Heap} (k : ∀ b o xs n, h.get? b = some o → o.data = .seq xs n → P b → h'.get? b = some o ∧ P' b) : ∀ {d : PyData} {v : Value}, Has P h d v → Has P' h' d v
  | .none, _, x => by simpa only [Has] using x
  | .bool _, _, x => by simpa only [Has] using x
  | .int _, _, x => by simpa only [Has] using x
  | .str _, _, x => by simpa only [Has] using x
  | .list xs, _, x => by
    simp only [Has] at x ⊢
    obtain ⟨a, items, rfl, hp, ⟨o, ho, hc, n, hd⟩, ha⟩ := x
    have q := k _ _ _ _ ho hd hp
    exact ⟨a, items, rfl, q.2, ⟨o, q.1, hc, n, hd⟩, HasAll.go k ha⟩
  | .tuple xs, _, x => by
    simp only [Has] at x ⊢
    obtain ⟨a, items, rfl, hp, ⟨o, ho, hc, n, hd⟩, ha⟩ := x
    have q := k _ _ _ _ ho hd hp
    exact ⟨a, items, rfl, q.2, ⟨o, q.1, hc, n, hd⟩, HasAll.go k ha⟩
  | .dict _, _, x => by simpa only [Has] using x
theorem HasAll.go {h h' : Heap} (k : ∀ b o xs n, h.get? b = some o → o.data = .seq xs n → P b → h'.get? b = some o ∧ P' b) : ∀ {ds : List PyData} {vs : List Value}, HasAll P h ds vs → HasAll P' h' ds vs
  | [], _, x => by simpa only [HasAll] using x
  | d :: ds, _, x => by
    simp only [HasAll] at x ⊢
    obtain ⟨v, r, rfl, hv, hr⟩ := x
    exact ⟨v, r, rfl, Has.go k hv, HasAll.go k hr⟩
end
theorem Has.mono {h h' : Heap} (k : KeepSeq h h') {d : PyData} {v : Value} (x : Has P h d v) : Has P h' d v := x.go fun b o xs n e q p => ⟨k b o xs n e q, p⟩
theorem HasAll.mono {h h' : Heap} (k : KeepSeq h h') {d : List PyData} {v : List Value} (x : HasAll P h d v) : HasAll P h' d v := x.go fun b o xs n e q p => ⟨k b o xs n e q, p⟩

mutual
/-- no unknown object within -/
def noObj : PyData → Bool
  | .dict _ => false
  | .list xs => noObjs xs
  | .tuple xs => noObjs xs
  | _ => true
def noObjs : List PyData → Bool
  | [] => true
  | d :: ds => noObj d && noObjs ds
end
mutual
theorem Has.reads {h : Heap} : ∀ {d : PyData} {v : Value}, Has P h d v → noObj d = true → ∃ as, Reads h v d as
  | .none, _, x, _ => by simp only [Has] at x; subst x; exact ⟨_, .none⟩
  | .bool _, _, x, _ => by simp only [Has] at x; subst x; exact ⟨_, .bool _⟩
  | .int _, _, x, _ => by simp only [Has] at x; obtain ⟨t, rfl⟩ := x; exact ⟨_, .int _ _⟩
  | .str _, _, x, _ => by simp only [Has] at x; obtain ⟨t, rfl⟩ := x; exact ⟨_, .str _ _⟩
  | .list xs, _, x, q => by
    simp only [Has] at x
    simp only [noObj] at q
    obtain ⟨a, items, rfl, _, ⟨o, ho, hc, n, hd⟩, ha⟩ := x
    obtain ⟨as, r⟩ := HasAll.reads ha q
    exact ⟨_, .list ho hc hd r⟩
  | .tuple xs, _, x, q => by
    simp only [Has] at x
    simp only [noObj] at q
    obtain ⟨a, items, rfl, _, ⟨o, ho, hc, n, hd⟩, ha⟩ := x
    obtain ⟨as, r⟩ := HasAll.reads ha q
    exact ⟨_, .tuple ho hc hd r⟩
  | .dict _, _, x, q => by simp [noObj] at q
theorem HasAll.reads {h : Heap} : ∀ {ds : List PyData} {vs : List Value}, HasAll P h ds vs → noObjs ds = true → ∃ as, ReadsAll h vs ds as
  | [], _, x, _ => by simp only [HasAll] at x; subst x; exact ⟨_, .nil⟩
  | d :: ds, _, x, q => by
    simp only [HasAll] at x
    simp only [noObjs, Bool.and_eq_true] at q
    obtain ⟨v, r, rfl, hv, hr⟩ := x
    obtain ⟨as, a⟩ := Has.reads hv q.1
    obtain ⟨bs, b⟩ := HasAll.reads hr q.2
    exact ⟨_, .cons a b⟩
end
theorem noObjs_strs : ∀ xs : List Str, noObjs (xs.map .str) = true
  | [] => rfl
  | _ :: xs => by simp only [List.map_cons, noObjs, noObj, noObjs_strs xs, Bool.and_self]
/-- an object at a, of which nothing is said -/
def ob (a : Addr) : PyData := .dict [(.int (a : Nat), .none)]
theorem has_ob {h : Heap} {a : Addr} {v : Value} : Has P h (ob a) v ↔ v = .ref a := by
  simp only [ob, Has]
  constructor
  · rintro ⟨b, e, rfl⟩
    simp only [List.cons.injEq, Prod.mk.injEq, PyData.int.injEq, and_true] at e
    have : a = b := by have := Int.ofNat.inj e; exact this
    rw [this]
  · rintro rfl; exact ⟨a, rfl, rfl⟩
theorem has_int {h : Heap} {i : Int} {v : Value} : Has P h (.int i) v ↔ ∃ t, v = .int i t := by simp only [Has]
theorem has_str {h : Heap} {i : Str} {v : Value} : Has P h (.str i) v ↔ ∃ t, v = .str i t := by simp only [Has]
theorem has_none {h : Heap} {v : Value} : Has P h .none v ↔ v = .none := by simp only [Has]
theorem has_bool {h : Heap} {b : Bool} {v : Value} : Has P h (.bool b) v ↔ v = .bool b := by simp only [Has]
theorem has_list {h : Heap} {xs : List PyData} {v : Value} : Has P h (.list xs) v ↔ ∃ a items, v = .ref a ∧ P a ∧ h.IsList a items ∧ HasAll P h xs items.toList := by simp only [Has]
theorem has_tuple {h : Heap} {xs : List PyData} {v : Value} : Has P h (.tuple xs) v ↔ ∃ a items, v = .ref a ∧ P a ∧ IsTup h a items ∧ HasAll P h xs items.toList := by simp only [Has]
theorem hasAll_nil {h : Heap} {vs : List Value} : HasAll P h [] vs ↔ vs = [] := by simp only [HasAll]
theorem hasAll_cons {h : Heap} {d : PyData} {ds : List PyData} {vs : List Value} : HasAll P h (d :: ds) vs ↔ ∃ v r, vs = v :: r ∧ Has P h d v ∧ HasAll P h ds r := by simp only [HasAll]

theorem HasAll.length {h : Heap} : ∀ {ds : List PyData} {vs : List Value}, HasAll P h ds vs → vs.length = ds.length
  | [], _, x => by rw [hasAll_nil] at x; subst x; rfl
  | d :: ds, _, x => by
    rw [hasAll_cons] at x
    obtain ⟨v, r, rfl, _, hr⟩ := x
    simp [HasAll.length hr]
theorem HasAll.append {h : Heap} : ∀ {ds es : List PyData} {vs us : List Value}, HasAll P h ds vs → HasAll P h es us → HasAll P h (ds ++ es) (vs ++ us)
  | [], _, _, _, x, y => by rw [hasAll_nil] at x; subst x; exact y
  | d :: ds, es, _, us, x, y => by
    rw [hasAll_cons] at x
    obtain ⟨v, r, rfl, hv, hr⟩ := x
    exact hasAll_cons.mpr ⟨v, r ++ us, rfl, hv, HasAll.append hr y⟩
theorem HasAll.get {h : Heap} : ∀ {ds : List PyData} {vs : List Value}, HasAll P h ds vs → ∀ {i : Nat} {v : Value}, vs[i]? = some v → ∃ d, ds[i]? = some d ∧ Has P h d v
  | [], _, x, i, v, e => by rw [hasAll_nil] at x; subst x; simp at e
  | d :: ds, _, x, i, v, e => by
    rw [hasAll_cons] at x
    obtain ⟨u, r, rfl, hv, hr⟩ := x
    cases i with
    | zero => simp at e; subst e; exact ⟨d, rfl, hv⟩
    | succ i => simpa using HasAll.get hr (i := i) (v := v) (by simpa using e)
theorem HasAll.take {h : Heap} : ∀ {ds : List PyData} {vs : List Value}, HasAll P h ds vs → ∀ n, HasAll P h (ds.take n) (vs.take n)
  | [], _, x, n => by rw [hasAll_nil] at x; subst x; simp [hasAll_nil]
  | d :: ds, _, x, n => by
    rw [hasAll_cons] at x
    obtain ⟨u, r, rfl, hv, hr⟩ := x
    cases n with
    | zero => simp [hasAll_nil]
    | succ n => exact hasAll_cons.mpr ⟨u, r.take n, rfl, hv, HasAll.take hr n⟩
theorem hasAll_strs {h : Heap} : ∀ {xs : List Str} {vs : List Value}, HasAll P h (xs.map PyData.str) vs → StrsAre vs xs
  | [], _, x => by simp only [List.map_nil, hasAll_nil] at x; subst x; exact .nil
  | y :: xs, _, x => by
    simp only [List.map_cons, hasAll_cons] at x
    obtain ⟨u, r, rfl, hv, hr⟩ := x
    obtain ⟨t, rfl⟩ := has_str.mp hv
    exact .cons y t (hasAll_strs hr)
theorem hasAll_of_strs {h : Heap} : ∀ {xs : List Str} {vs : List Value}, StrsAre vs xs → HasAll P h (xs.map PyData.str) vs
  | _, _, .nil => by simp [hasAll_nil]
  | _, _, .cons y t r => by simp only [List.map_cons]; exact hasAll_cons.mpr ⟨_, _, rfl, has_str.mpr ⟨t, rfl⟩, hasAll_of_strs r⟩

end
/-- the call changed nothing of what stood, but in toks -/
theorem keeps_refl (s : Shared) : Keeps s s := ⟨s.heap, s.toks, rfl, fun _ _ e => e⟩
theorem keeps_toks (s : Shared) (k : Nat) : Keeps s { s with toks := k } := ⟨s.heap, k, rfl, fun _ _ e => e⟩
theorem keeps_trans {a b c : Shared} (x : Keeps a b) (y : Keeps b c) : Keeps a c := by
  obtain ⟨h, t, rfl, k⟩ := x
  obtain ⟨h', t', rfl, k'⟩ := y
  exact ⟨h', t', rfl, fun b o e => k' b o (k b o e)⟩
theorem keeps_push (s : Shared) (o : Obj) (k : Nat) : Keeps s { s with heap := s.heap.push o, toks := k } := ⟨_, _, rfl, fun _ _ e => Heap.get?_push_of_some _ e⟩
theorem keeps_heap {s : Shared} {h' : Heap} (k : ∀ b o, s.heap.get? b = some o → h'.get? b = some o) : Keeps s { s with heap := h' } := ⟨_, _, rfl, k⟩
theorem keeps_get {a b : Shared} (x : Keeps a b) : ∀ c o, a.heap.get? c = some o → b.heap.get? c = some o := by
  obtain ⟨h, t, rfl, k⟩ := x; exact k
theorem keeps_seq {a b : Shared} (x : Keeps a b) : KeepSeq a.heap b.heap := .of (keeps_get x)

theorem Fo.later {P : Addr → Prop} {a b : Shared} (f : Fo P a) (x : Keeps a b) : Fo P b := fun c e => f c (by
  cases q : a.heap.get? c with
  | none => rfl
  | some o => rw [keeps_get x c o q] at e; cases e)
theorem Fo.new {P : Addr → Prop} {a : Shared} (f : Fo P a) : P a.heap.objs.size := f _ (Heap.get?_none_of_le (Nat.le_refl _))
end Mine
end
section
open PySem PySem.W PyProof.Rows PySem.Calls PySem.Spec
set_option Elab.async false
set_option maxRecDepth 100000
set_option linter.all false
namespace Mine

structure EnvOk (env : Env) : Prop where
  kind : env.scope.kind = .function
  globals : env.globals = mainGlobals
  builtins : env.builtins = builtinsNs

/-- the names of the frame bear these data -/
def Lc (P : Addr → Prop) (h : Heap) (env : Env) (ds : List (Str × PyData)) : Prop :=
  ∃ m, h.Ns env.locals m ∧ ∀ x d, ds.lookup x = some d → ∃ v, m x = some v ∧ Has P h d v
theorem Lc.keeps {P : Addr → Prop} {h h' : Heap} {env : Env} {ds} (x : Lc P h env ds) (k : ∀ b o, h.get? b = some o → h'.get? b = some o) : Lc P h' env ds := by
  obtain ⟨m, hn, hv⟩ := x
  exact ⟨m, hn.keeps k, fun y d e => let ⟨v, e1, e2⟩ := hv y d e; ⟨v, e1, e2.mono (.of k)⟩⟩

def Gd (p : Program) (loose : List Str) (mean : ExcName → Option Value) (mg mb : Str → Option Value) (K : Frag) (h : Heap) : Prop := Top p loose mean mg mb h ∧ K.In h
theorem Gd.keeps {p loose mean mg mb K} {h h' : Heap} (x : Gd p loose mean mg mb K h) (k : ∀ b o, h.get? b = some o → h'.get? b = some o) : Gd p loose mean mg mb K h' :=
  ⟨x.1.keeps k, x.2.keeps k⟩

section
variable {prog : Program} {w : World} {P : Addr → Prop} {A : Around} {env : Env} {s : Shared}

def Ev (prog : Program) (w : World) (P : Addr → Prop) (A : Around) (env : Env) (s : Shared) (e : Expr) (d : PyData) : Prop :=
  ∀ s₁ E, Keeps s s₁ → wpAny (model prog w) A (eval e env) (fun v s' => Has P s'.heap d v ∧ Keeps s₁ s') E s₁
def EvL (prog : Program) (w : World) (P : Addr → Prop) (A : Around) (env : Env) (s : Shared) (es : List Expr) (ds : List PyData) : Prop :=
  ∀ s₁ E pos, Keeps s s₁ → wpAny (model prog w) A (spliced (backTo pos (starEach es env))) (fun vs s' => HasAll P s'.heap ds vs ∧ Keeps s₁ s') E s₁

theorem Ev.use {s₁ : Shared} {e d} {Q : Value → Shared → Prop} {E} (x : Ev prog w P A env s e d) (k : Keeps s s₁) (h : ∀ v s', Has P s'.heap d v → Keeps s₁ s' → Q v s') :
    wpAny (model prog w) A (eval e env) Q E s₁ := wpAny_mono (x s₁ E k) (fun v s' y => h v s' y.1 y.2) fun _ _ y => y
theorem Ev.later {s₁ : Shared} {e d} (x : Ev prog w P A env s e d) (k : Keeps s s₁) : Ev prog w P A env s₁ e d := fun s₂ E k₂ => x s₂ E (keeps_trans k k₂)
theorem EvL.use {s₁ : Shared} {e d pos} {Q : List Value → Shared → Prop} {E} (x : EvL prog w P A env s e d) (k : Keeps s s₁) (h : ∀ v s', HasAll P s'.heap d v → Keeps s₁ s' → Q v s') :
    wpAny (model prog w) A (spliced (backTo pos (starEach e env))) Q E s₁ := wpAny_mono (x s₁ E pos k) (fun v s' y => h v s' y.1 y.2) fun _ _ y => y

theorem EvL.nil : EvL prog w P A env s [] [] := fun s₁ _ _ _ => args_nil ⟨hasAll_nil.mpr rfl, keeps_refl s₁⟩
theorem EvL.cons {e d es ds} (x : Ev prog w P A env s e d) (y : EvL prog w P A env s es ds) (he : starEach (e :: es) env = (false, eval e env) :: starEach es env := by rfl) :
    EvL prog w P A env s (e :: es) (d :: ds) := fun s₁ E pos k =>
  args_cons (x.use k fun v s₂ hv k₂ => y.use (keeps_trans k k₂) fun vs s₃ hvs k₃ => ⟨hasAll_cons.mpr ⟨v, vs, rfl, hv.mono (keeps_seq k₃), hvs⟩, keeps_trans k₂ k₃⟩) he

theorem Ev.name {ds x d pos} (L : Lc P s.heap env ds) (hk : EnvOk env) (hx : ds.lookup x = some d) (hl : env.kindOf x = some .local := by rfl) (hd : (x == ("__debug__" : Str)) = false := by decide) :
    Ev prog w P A env s (.Name x pos) d := fun s₁ E k => by
  obtain ⟨m, hn, hv⟩ := L.keeps (keeps_get k)
  obtain ⟨v, e1, e2⟩ := hv x d hx
  exact wpAny_Name (wpAny_loadName_local hk.kind hl hn e1 ⟨e2, keeps_refl _⟩) hd

theorem Ev.int {i kk pos} : Ev prog w P A env s (.Constant (.int i) kk pos) (.int i) := fun s₁ E _ => wpAny_Constant_int ⟨has_int.mpr ⟨_, rfl⟩, keeps_toks _ _⟩

/-- a tree that gives the datum d and keeps what stood -/
def To (prog : Program) (w : World) (P : Addr → Prop) (A : Around) (t : Sem Value) (d : PyData) (s : Shared) : Prop :=
  ∀ E, wpAny (model prog w) A t (fun v s' => Has P s'.heap d v ∧ Keeps s s') E s

theorem Ev.bin {l r o pos dl dr d} (hl : Ev prog w P A env s l dl) (hr : Ev prog w P A env s r dr)
    (op : ∀ s₁ va vb, Keeps s s₁ → Has P s₁.heap dl va → Has P s₁.heap dr vb → To prog w P A (binaryOp o va vb) d s₁) : Ev prog w P A env s (.BinOp l o r pos) d := fun s₁ E k =>
  wpAny_BinOp (hl.use k fun va s₂ ha k₂ => hr.use (keeps_trans k k₂) fun vb s₃ hb k₃ =>
    wpAny_mono (op s₃ va vb (keeps_trans k (keeps_trans k₂ k₃)) (ha.mono (keeps_seq k₃)) hb E) (fun v s' y => ⟨y.1, keeps_trans k₂ (keeps_trans k₃ y.2)⟩) fun _ _ y => y)

theorem Ev.tup {es kk pos ds} (fo : Fo P s) (x : EvL prog w P A env s es ds) (hsz : ds.length ≤ 1000 := by decide) : Ev prog w P A env s (.Tuple es kk pos) (.tuple ds) := fun s₁ E k =>
  Tuple_ (x.use k fun vs s₂ hvs k₂ => wpAny_newObj_type (T := "tuple") (data := .seq vs.toArray) ⟨has_tuple.mpr ⟨_, vs.toArray, rfl, (fo.later (keeps_trans k k₂)).new, ⟨_, Heap.get?_push_size _ rfl, rfl, _, rfl⟩, by
      simpa using hvs.mono (KeepSeq.of fun _ _ e => Heap.get?_push_of_some _ e)⟩, keeps_trans k₂ (keeps_push _ _ _)⟩
    (by show vs.toArray.size ≤ sizeLine; rw [List.size_toArray, hvs.length]; exact Nat.le_trans hsz (by rw [sizeLine_eq]; decide)))
theorem Ev.lst {es pos ds} (fo : Fo P s) (x : EvL prog w P A env s es ds) (hsz : ds.length ≤ 1000 := by decide) : Ev prog w P A env s (.List es pos) (.list ds) := fun s₁ E k =>
  List_ (x.use k fun vs s₂ hvs k₂ => wpAny_newObj_type (T := "list") (data := .seq vs.toArray) ⟨has_list.mpr ⟨_, vs.toArray, rfl, (fo.later (keeps_trans k k₂)).new, ⟨_, Heap.get?_push_size _ rfl, rfl, _, rfl⟩, by
      simpa using hvs.mono (KeepSeq.of fun _ _ e => Heap.get?_push_of_some _ e)⟩, keeps_trans k₂ (keeps_push _ _ _)⟩
    (by show vs.toArray.size ≤ sizeLine; rw [List.size_toArray, hvs.length]; exact Nat.le_trans hsz (by rw [sizeLine_eq]; decide)))

theorem to_fdiv {a b : Int} {va vb : Value} (ha : Has P s.heap (.int a) va) (hb : Has P s.heap (.int b) vb) (h0 : b ≠ 0) (hp : Builtin.divisionGoesByPylong a b = false) : To prog w P A (binaryOp .FloorDiv va vb) (.int (Int.fdiv a b)) s := fun E => by
  obtain ⟨t, rfl⟩ := has_int.mp ha
  obtain ⟨u, rfl⟩ := has_int.mp hb
  exact floordiv_int h0 ⟨has_int.mpr ⟨_, rfl⟩, keeps_toks _ _⟩ (.inl hp)
theorem to_mod {a b : Int} {va vb : Value} (ha : Has P s.heap (.int a) va) (hb : Has P s.heap (.int b) vb) (h0 : b ≠ 0) : To prog w P A (binaryOp .Mod va vb) (.int (Int.fmod a b)) s := fun E => by
  obtain ⟨t, rfl⟩ := has_int.mp ha
  obtain ⟨u, rfl⟩ := has_int.mp hb
  exact mod_int' h0 ⟨has_int.mpr ⟨_, rfl⟩, keeps_toks _ _⟩
theorem to_addStr {a b : Str} {va vb : Value} (ha : Has P s.heap (.str a) va) (hb : Has P s.heap (.str b) vb) (hsz : a.length + b.length ≤ sizeLine) : To prog w P A (binaryOp .Add va vb) (.str (a ++ b)) s := fun E => by
  obtain ⟨t, rfl⟩ := has_str.mp ha
  obtain ⟨u, rfl⟩ := has_str.mp hb
  exact add_str (fun t' tk => ⟨has_str.mpr ⟨_, rfl⟩, keeps_toks _ _⟩) hsz
end
end Mine
end
section
open PySem PySem.W PyProof.Rows PySem.Calls PySem.Spec
set_option Elab.async false
set_option maxRecDepth 100000
set_option linter.all false
namespace Mine
section
variable {prog : Program} {w : World} {P : Addr → Prop} {A : Around} {env : Env} {s : Shared}

theorem Ev.strc {x kk pos} : Ev prog w P A env s (.Constant (.str x) kk pos) (.str x) := fun s₁ E _ => wpAny_Constant_str ⟨has_str.mpr ⟨_, rfl⟩, keeps_toks _ _⟩
theorem Ev.nonec {kk pos} : Ev prog w P A env s (.Constant .none kk pos) .none := fun s₁ E _ => wpAny_Constant_none ⟨has_none.mpr rfl, keeps_refl _⟩

theorem to_sub {a b : Int} {va vb : Value} (ha : Has P s.heap (.int a) va) (hb : Has P s.heap (.int b) vb) : To prog w P A (binaryOp .Sub va vb) (.int (a - b)) s := fun E => by
  obtain ⟨t, rfl⟩ := has_int.mp ha
  obtain ⟨u, rfl⟩ := has_int.mp hb
  exact sub_int ⟨has_int.mpr ⟨_, rfl⟩, keeps_toks _ _⟩

theorem has_push {h : Heap} {d v} (o : Obj) (x : Has P h d v) : Has P (h.push o) d v := x.mono (.of fun _ _ e => Heap.get?_push_of_some _ e)
theorem hasAll_push {h : Heap} {d v} (o : Obj) (x : HasAll P h d v) : HasAll P (h.push o) d v := x.mono (.of fun _ _ e => Heap.get?_push_of_some _ e)
theorem has_newList {h : Heap} {ds : List PyData} {vs : Array Value} {n : Nat} (p : P h.objs.size) (x : HasAll P h ds vs.toList) : Has P (h.push { cls := .type "list", data := .seq vs n }) (.list ds) (.ref h.objs.size) :=
  has_list.mpr ⟨_, vs, rfl, p, ⟨_, Heap.get?_push_size _ rfl, rfl, _, rfl⟩, hasAll_push _ x⟩

theorem to_addList {as bs : List PyData} {va vb : Value} (ha : Has P s.heap (.list as) va) (hb : Has P s.heap (.list bs) vb) (hsz : as.length + bs.length ≤ sizeLine) (fo : Fo P s) : To prog w P A (binaryOp .Add va vb) (.list (as ++ bs)) s := fun E => by
  obtain ⟨l, its, rfl, _, hl, ia⟩ := has_list.mp ha
  obtain ⟨b, its2, rfl, _, hb, ib⟩ := has_list.mp hb
  obtain ⟨⟨cls, dd, data, sl⟩, ho, hc, n, hd⟩ := id hl
  obtain ⟨⟨cls2, dd2, data2, sl2⟩, ho2, hc2, n2, hd2⟩ := id hb
  simp only at hc hd hc2 hd2
  subst hc hd hc2 hd2
  refine concat_meets ⟨_, ho, rfl⟩ ⟨_, ho2, rfl⟩ noFill_list_add seq_list_add PySem.F.slot_list_add PySem.F.entry_list_add (PySem.F.args_list_add_2 _ _)
    (list_addW l b its its2 n n2 dd dd2 sl sl2 (by have := ia.length; have := ib.length; simp at *; omega)) ⟨ho, ho2, ?_⟩
  exact ⟨has_newList fo.new (by simpa using ia.append ib), keeps_push _ _ _⟩

theorem HasAll.at {h : Heap} : ∀ {ds : List PyData} {vs : List Value}, HasAll P h ds vs → ∀ {i : Nat} {d : PyData}, ds[i]? = some d → ∃ v, vs[i]? = some v ∧ Has P h d v
  | [], _, x, i, d, e => by simp at e
  | d' :: ds, _, x, i, d, e => by
    rw [hasAll_cons] at x
    obtain ⟨u, r, rfl, hv, hr⟩ := x
    cases i with
    | zero => simp at e; subst e; exact ⟨u, rfl, hv⟩
    | succ i => simpa using HasAll.at hr (i := i) (d := d) (by simpa using e)

/-- an item of a list, of a tuple, at a place in it -/
theorem Ev.idx {e sl pos ds k d} (he : Ev prog w P A env s e (.list ds)) (hi : Ev prog w P A env s sl (.int k)) (h0 : 0 ≤ k) (hk : k < 2 ^ 63) (hd : ds[k.toNat]? = some d)
    (hs : ∀ o i, subscripted sl false o i = operate [o, i] (getItem o i) := by intro _ _; with_unfolding_all rfl) : Ev prog w P A env s (.Subscript e sl pos) d := fun s₁ E k₁ =>
  Subscript_ (he.use k₁ fun vl s₂ hl k₂ => hi.use (keeps_trans k₁ k₂) fun vi s₃ hvi k₃ => by
    obtain ⟨a, items, rfl, _, hL, hA⟩ := has_list.mp (hl.mono (keeps_seq k₃))
    obtain ⟨t, rfl⟩ := has_int.mp hvi
    obtain ⟨v, hv, hV⟩ := hA.at hd
    exact tail_any hL.typeIs list_getitem_lookup (wpAny_getItem_list hL h0 hk (by simpa using hv) ⟨hV, keeps_trans k₂ k₃⟩) (hs _ _))
theorem Ev.idxNeg {e sl pos ds k d} (he : Ev prog w P A env s e (.list ds)) (hi : Ev prog w P A env s sl (.int k)) (h0 : k < 0) (hn : -(ds.length : Int) ≤ k) (hk : -2 ^ 63 ≤ k) (hd : ds[(k + ds.length).toNat]? = some d)
    (hs : ∀ o i, subscripted sl false o i = operate [o, i] (getItem o i) := by intro _ _; with_unfolding_all rfl) : Ev prog w P A env s (.Subscript e sl pos) d := fun s₁ E k₁ =>
  Subscript_ (he.use k₁ fun vl s₂ hl k₂ => hi.use (keeps_trans k₁ k₂) fun vi s₃ hvi k₃ => by
    obtain ⟨a, items, rfl, _, hL, hA⟩ := has_list.mp (hl.mono (keeps_seq k₃))
    obtain ⟨t, rfl⟩ := has_int.mp hvi
    obtain ⟨v, hv, hV⟩ := hA.at hd
    have hlen := hA.length
    have e : items.size = ds.length := by simpa using hlen
    exact tail_any hL.typeIs list_getitem_lookup (wpAny_getItem_list_neg hL h0 (by rw [e]; exact hn) hk (by rw [e]; simpa using hv) ⟨hV, keeps_trans k₂ k₃⟩) (hs _ _))
theorem Ev.idxT {e sl pos ds k d} (he : Ev prog w P A env s e (.tuple ds)) (hi : Ev prog w P A env s sl (.int k)) (h0 : 0 ≤ k) (hk : k < 2 ^ 63) (hd : ds[k.toNat]? = some d)
    (hs : ∀ o i, subscripted sl false o i = operate [o, i] (getItem o i) := by intro _ _; with_unfolding_all rfl) : Ev prog w P A env s (.Subscript e sl pos) d := fun s₁ E k₁ =>
  Subscript_ (he.use k₁ fun vl s₂ hl k₂ => hi.use (keeps_trans k₁ k₂) fun vi s₃ hvi k₃ => by
    obtain ⟨a, items, rfl, _, hL, hA⟩ := has_tuple.mp (hl.mono (keeps_seq k₃))
    obtain ⟨t, rfl⟩ := has_int.mp hvi
    obtain ⟨v, hv, hV⟩ := hA.at hd
    have hlt : k.toNat < ds.length := by
      rw [List.getElem?_eq_some_iff] at hd; exact hd.1
    have hlen := hA.length
    exact item_tupleT (l := items.toList) (j := k.toNat) (by simpa using hL) (by omega) hk (by
      unfold seqIndex?
      have n0 : ¬ k < 0 := by omega
      have n1 : k < (items.toList.length : Int) := by omega
      simp only [n0, if_false, h0, n1, decide_true, Bool.and_self, if_true]) hv ⟨hV, keeps_trans k₂ k₃⟩ (hs _ _))


/-- xs[:u] -/
theorem Ev.upto {e u sp pos ds} {k : Int} (he : Ev prog w P A env s e (.list ds)) (hu : Ev prog w P A env s u (.int k)) (h0 : 0 ≤ k) (hsz : ds.length ≤ sizeLine) (fo : Fo P s) :
    Ev prog w P A env s (.Subscript e (.Slice none (some u) none sp) pos) (.list (ds.take k.toNat)) := fun s₁ E k₁ =>
  Subscript_ (he.use k₁ fun vl s₂ hl k₂ => wpAny_Slice (wpAny_pure (hu.use (keeps_trans k₁ k₂) fun vi s₃ hvi k₃ => wpAny_pure (by
    obtain ⟨a, items, rfl, _, hL, hA⟩ := has_list.mp (hl.mono (keeps_seq k₃))
    obtain ⟨t, rfl⟩ := has_int.mp hvi
    have hlen := hA.length
    have hL' := hL.push { cls := .type "slice", data := .fields #[.none, .int k t, .none] }
    refine tail_any hL'.typeIs list_getitem_lookup (wpAny_getItem_list_slice hL' (Heap.IsSliceOf.new ..) .none (.int k t) .none (by simp) ?_ (by simp at hlen; omega)) (ops := [.ref s₃.heap.objs.size, .ref a]) (by rfl)
    have ek : k = (k.toNat : Int) := by omega
    rw [show slicePick items none (some k) none = (items.toList.take k.toNat).toArray by have e9 := slicePick_upto' items k.toNat; rw [← ek] at e9; exact e9]
    exact ⟨has_newList ((fo.later (keeps_trans (keeps_trans k₁ (keeps_trans k₂ k₃)) (keeps_push _ _ _))).new) (by simpa using hasAll_push _ (hA.take k.toNat)), keeps_trans k₂ (keeps_trans k₃ (keeps_trans (keeps_push _ _ _) (keeps_push _ _ _)))⟩))))
  
theorem keptH_keeps (s : Shared) : KeptH fun h' => ∀ b o, s.heap.get? b = some o → h'.get? b = some o := fun h ob k b o e => Heap.get?_push_of_some _ (k b o e)

/-- text[u:], text[:u], text[::-1] -/
theorem Ev.strFrom {e u sp pos} {x : Str} {k : Int} (he : Ev prog w P A env s e (.str x)) (hu : Ev prog w P A env s u (.int k)) (hsz : x.length ≤ sizeLine)
    (ht : ∀ v r, letTemporaryGo e (.str x v) r = pure () := by intro _ _; with_unfolding_all rfl) :
    Ev prog w P A env s (.Subscript e (.Slice (some u) none none sp) pos) (.str (Txt.slice x (some k) none)) := fun s₁ E k₁ =>
  Subscript_ (he.use k₁ fun vl s₂ hl k₂ => wpAny_Slice (hu.use (keeps_trans k₁ k₂) fun vi s₃ hvi k₃ => wpAny_pure (wpAny_pure (by
    obtain ⟨t, rfl⟩ := has_str.mp hl
    obtain ⟨t', rfl⟩ := has_int.mp hvi
    exact tail_of_ItemOn (SBH.sliceItem_sn (s := s₃) (keptH_keeps s₃) (fun _ _ e => e) (fun h' t' tk hk => ⟨has_str.mpr ⟨_, rfl⟩, keeps_trans k₂ (keeps_trans k₃ ⟨h', tk, rfl, hk⟩)⟩) hsz) (ops := [.ref s₃.heap.objs.size, .str x t]) (by rfl) (ht _)))))
theorem Ev.strUpto {e u sp pos} {x : Str} {k : Int} (he : Ev prog w P A env s e (.str x)) (hu : Ev prog w P A env s u (.int k)) (hsz : x.length ≤ sizeLine)
    (ht : ∀ v r, letTemporaryGo e (.str x v) r = pure () := by intro _ _; with_unfolding_all rfl) :
    Ev prog w P A env s (.Subscript e (.Slice none (some u) none sp) pos) (.str (Txt.slice x none (some k))) := fun s₁ E k₁ =>
  Subscript_ (he.use k₁ fun vl s₂ hl k₂ => wpAny_Slice (wpAny_pure (hu.use (keeps_trans k₁ k₂) fun vi s₃ hvi k₃ => wpAny_pure (by
    obtain ⟨t, rfl⟩ := has_str.mp hl
    obtain ⟨t', rfl⟩ := has_int.mp hvi
    exact tail_of_ItemOn (SBH.sliceItem_ns (s := s₃) (keptH_keeps s₃) (fun _ _ e => e) (fun h' t' tk hk => ⟨has_str.mpr ⟨_, rfl⟩, keeps_trans k₂ (keeps_trans k₃ ⟨h', tk, rfl, hk⟩)⟩) hsz) (ops := [.ref s₃.heap.objs.size, .str x t]) (by rfl) (ht _)))))
theorem Ev.strBy {e u sp pos} {x : Str} {k : Int} (he : Ev prog w P A env s e (.str x)) (hu : Ev prog w P A env s u (.int k)) (hk : (k == 0) = false) (hsz : x.length ≤ sizeLine)
    (ht : ∀ v r, letTemporaryGo e (.str x v) r = pure () := by intro _ _; with_unfolding_all rfl) :
    Ev prog w P A env s (.Subscript e (.Slice none none (some u) sp) pos) (.str (Txt.sliceBy x none none (k, 0))) := fun s₁ E k₁ =>
  Subscript_ (he.use k₁ fun vl s₂ hl k₂ => wpAny_Slice (wpAny_pure (wpAny_pure (hu.use (keeps_trans k₁ k₂) fun vi s₃ hvi k₃ => (by
    obtain ⟨t, rfl⟩ := has_str.mp hl
    obtain ⟨t', rfl⟩ := has_int.mp hvi
    refine tail_of_ItemOn (ops := [.str x t, .ref s₃.heap.objs.size]) ⟨"str", _, PySem.F.slot_str_getitem.lookup, typeIs_str _ _ _, wpAny_getItem_str_slice (l := none) (u := none) (st := some (k, t')) ⟨_, Heap.get?_push_size _ rfl, rfl, rfl⟩ hk
      (post_val_or_str ⟨Nat.le_trans (Txt.sliceBy_le x _ _ (k, t') (by simpa using hk)) hsz, fun t'' c => ⟨has_str.mpr ⟨_, rfl⟩, ?_⟩⟩)⟩ (by rfl) (ht _)
    exact keeps_trans k₂ (keeps_trans k₃ (keeps_push _ _ _)))))))

/-- a name of the top, of the built-ins -/
theorem glob_name {x : Str} {pos : Pos} {v : Value} {mg : Str → Option Value} {Q : Value → Shared → Prop} {E} (hk : EnvOk env) (hg : s.heap.Ns mainGlobals mg) (hv : mg x = some v)
    (h : Q v s) (hx : env.kindOf x = some .globalImplicit := by rfl) (hd : (x == ("__debug__" : Str)) = false := by decide) : wpAny (model prog w) A (eval (.Name x pos) env) Q E s :=
  Name_function_global hk.kind hx (loadGlobal_global (by rw [hk.globals]; exact hg) hv h) hd
theorem boot_name {x : Str} {pos : Pos} {v : Value} {mg mb : Str → Option Value} {Q : Value → Shared → Prop} {E} (hk : EnvOk env) (hg : s.heap.Ns mainGlobals mg) (hb : s.heap.Ns builtinsNs mb) (hn : mg x = none) (hv : mb x = some v)
    (h : Q v s) (hx : env.kindOf x = some .globalImplicit := by rfl) (hd : (x == ("__debug__" : Str)) = false := by decide) : wpAny (model prog w) A (eval (.Name x pos) env) Q E s :=
  Name_function_global hk.kind hx (loadGlobal_builtin (by rw [hk.globals]; exact hg) hn (by rw [hk.builtins]; exact hb) hv h) hd

end
end Mine
end
section
open PySem PySem.W PyProof.Rows PySem.Calls PySem.Spec
set_option Elab.async false
set_option maxRecDepth 100000
set_option linter.all false
namespace Mine
section
variable {prog : Program} {w : World} {P : Addr → Prop} {A : Around} {env : Env} {s : Shared}

/-- the def at f, called with data ds, gives d -/
def FnTo (prog : Program) (w : World) (A : Around) (f : Value) (ds : List PyData) (d : PyData) (s : Shared) : Prop :=
  ∀ (P : Addr → Prop) s₁ vs E, Keeps s s₁ → Fo P s₁ → HasAll P s₁.heap ds vs → wpAny (model prog w) A (call f vs) (fun v s' => Has P s'.heap d v ∧ Keeps s₁ s') E s₁
theorem FnTo.use {s₁ : Shared} {f ds d vs} {Q : Value → Shared → Prop} {E} (x : FnTo prog w A f ds d s) (k : Keeps s s₁) (fo : Fo P s₁) (hv : HasAll P s₁.heap ds vs) (h : ∀ v s', Has P s'.heap d v → Keeps s₁ s' → Q v s') :
    wpAny (model prog w) A (call f vs) Q E s₁ := wpAny_mono (x P s₁ vs E k fo hv) (fun v s' y => h v s' y.1 y.2) fun _ _ y => y

theorem Ev.callDef {x np pos e rest ds d mg f o fd} (hk : EnvOk env) (hg : s.heap.Ns mainGlobals mg) (hv : mg x = some (.ref f)) (ho : s.heap.get? f = some o) (hd : o.data = .func fd)
    (ha : EvL prog w P A env s (e :: rest) ds) (hf : FnTo prog w A (.ref f) ds d s) (fo : Fo P s) (hx : env.kindOf x = some .globalImplicit := by rfl) (hdb : (x == ("__debug__" : Str)) = false := by decide)
    (he : starEach (e :: rest) env = (false, eval e env) :: starEach rest env := by rfl) :
    Ev prog w P A env s (.Call (.Name x np) (e :: rest) [] pos) d := fun s₁ E k =>
  Call_ (glob_name hk (hg.keeps (keeps_get k)) hv (callWith_def hd (ha.use k fun vs s₂ hvs k₂ => ⟨keeps_get (keeps_trans k k₂) _ _ ho, hf.use (keeps_trans k k₂) (fo.later (keeps_trans k k₂)) hvs fun v s' h1 h2 => ⟨h1, keeps_trans k₂ h2⟩⟩) he) hx hdb)

theorem Ev.callType {x np pos e rest ds d mg mb T} (hk : EnvOk env) (hg : s.heap.Ns mainGlobals mg) (hb : s.heap.Ns builtinsNs mb) (hn : mg x = none) (hv : mb x = some (.type T))
    (ha : EvL prog w P A env s (e :: rest) ds) (hf : FnTo prog w A (.type T) ds d s) (fo : Fo P s) (hx : env.kindOf x = some .globalImplicit := by rfl) (hdb : (x == ("__debug__" : Str)) = false := by decide)
    (he : starEach (e :: rest) env = (false, eval e env) :: starEach rest env := by rfl) (hp : ∀ pos, (backTo pos (starEach rest env)).any (·.1) = false := by intro _; rfl) :
    Ev prog w P A env s (.Call (.Name x np) (e :: rest) [] pos) d := fun s₁ E k =>
  Call_ (boot_name hk (hg.keeps (keeps_get k)) (hb.keeps (keeps_get k)) hn hv (PyProof.Rows.callWith_type1 (ha.use k fun vs s₂ hvs k₂ => hf.use (keeps_trans k k₂) (fo.later (keeps_trans k k₂)) hvs fun v s' h1 h2 => ⟨h1, keeps_trans k₂ h2⟩) he (hp _)) hx hdb)

theorem Ev.callBuiltin {x np pos e rest ds d mg mb T} (hk : EnvOk env) (hg : s.heap.Ns mainGlobals mg) (hb : s.heap.Ns builtinsNs mb) (hn : mg x = none) (hv : mb x = some (.builtin T))
    (ha : EvL prog w P A env s (e :: rest) ds) (hf : FnTo prog w A (.builtin T) ds d s) (fo : Fo P s) (hx : env.kindOf x = some .globalImplicit := by rfl) (hdb : (x == ("__debug__" : Str)) = false := by decide)
    (he : starEach (e :: rest) env = (false, eval e env) :: starEach rest env := by rfl) (hp : ∀ pos, (backTo pos (starEach rest env)).any (·.1) = false := by intro _; rfl) :
    Ev prog w P A env s (.Call (.Name x np) (e :: rest) [] pos) d := fun s₁ E k =>
  Call_ (boot_name hk (hg.keeps (keeps_get k)) (hb.keeps (keeps_get k)) hn hv (PyProof.Rows.callWith_builtin1 (ha.use k fun vs s₂ hvs k₂ => hf.use (keeps_trans k k₂) (fo.later (keeps_trans k k₂)) hvs fun v s' h1 h2 => ⟨h1, keeps_trans k₂ h2⟩) he (hp _)) hx hdb)

theorem hasAll_one {h : Heap} {d : PyData} {vs : List Value} (x : HasAll P h [d] vs) : ∃ v, vs = [v] ∧ Has P h d v := by
  obtain ⟨v, r, rfl, hv, hr⟩ := hasAll_cons.mp x
  rw [hasAll_nil] at hr; subst hr
  exact ⟨v, rfl, hv⟩
theorem hasAll_two {h : Heap} {d e : PyData} {vs : List Value} (x : HasAll P h [d, e] vs) : ∃ u v, vs = [u, v] ∧ Has P h d u ∧ Has P h e v := by
  obtain ⟨v, r, rfl, hv, hr⟩ := hasAll_cons.mp x
  obtain ⟨u, rfl, hu⟩ := hasAll_one hr
  exact ⟨v, u, rfl, hv, hu⟩

theorem fn_abs {a : Int} : FnTo prog w A (.builtin "abs") [.int a] (.int (if a < 0 then -a else a)) s := fun P s₁ vs E k fo hv => by
  obtain ⟨v, rfl, hv1⟩ := hasAll_one hv
  obtain ⟨t, rfl⟩ := has_int.mp hv1
  exact call_abs_int fun u tk => ⟨has_int.mpr ⟨_, rfl⟩, keeps_toks _ _⟩
theorem fn_str {a : Int} (ha : a.natAbs.log2 < 1920) : FnTo prog w A (.type "str") [.int a] (.str (Str.ofString (toString a))) s := fun P s₁ vs E k fo hv => by
  obtain ⟨v, rfl, hv1⟩ := hasAll_one hv
  obtain ⟨t, rfl⟩ := has_int.mp hv1
  exact PySem.P.str_of_int ha ⟨has_str.mpr ⟨_, rfl⟩, keeps_toks _ _⟩
theorem fn_lenStr {x : Str} (hx : x.length ≤ sizeLine) : FnTo prog w A (.builtin "len") [.str x] (.int x.length) s := fun P s₁ vs E k fo hv => by
  obtain ⟨v, rfl, hv1⟩ := hasAll_one hv
  obtain ⟨t, rfl⟩ := has_str.mp hv1
  exact len_str (by rw [sizeLine_eq] at hx; omega) ⟨has_int.mpr ⟨_, rfl⟩, keeps_toks _ _⟩
theorem fn_lenList {xs : List PyData} (hx : xs.length ≤ sizeLine) : FnTo prog w A (.builtin "len") [.list xs] (.int xs.length) s := fun P s₁ vs E k fo hv => by
  obtain ⟨v, rfl, hv1⟩ := hasAll_one hv
  obtain ⟨a, items, rfl, _, hl, hA⟩ := has_list.mp hv1
  have e : items.size = xs.length := by simpa using hA.length
  exact len_list hl (by rw [e]; rw [sizeLine_eq] at hx; omega) (by rw [e]; exact ⟨has_int.mpr ⟨_, rfl⟩, keeps_toks _ _⟩)
theorem fn_list {xs : List PyData} (hx : xs.length ≤ sizeLine) : FnTo prog w A (.type "list") [.list xs] (.list xs) s := fun P s₁ vs E k fo hv => by
  obtain ⟨v, rfl, hv1⟩ := hasAll_one hv
  obtain ⟨a, items, rfl, _, ⟨o, ho, hc, n, hd⟩, hA⟩ := has_list.mp hv1
  have e : items.size = xs.length := by simpa using hA.length
  exact call_list_seq a (.inl rfl) ho hc hd (fun h' c' kk hn => ⟨has_list.mpr ⟨_, items, rfl, fo.new, ⟨_, hn, rfl, _, rfl⟩, hA.mono (.of kk)⟩, keeps_heap kk⟩) (by omega)

/-- '.'.join(e) and x.split(y) -/
theorem Ev.join {x : Str} {kk cp ap pos e} {ys : List Str} (he : Ev prog w P A env s e (.list (ys.map .str))) (hok : (ys.map (·.length)).sum + ys.length * x.length ≤ 16777216)
    (hs : starEach [e] env = (false, eval e env) :: starEach [] env := by rfl)
    (hm : ∃ pl, eval (.Call (.Attribute (.Constant (.str x) kk cp) "join" ap) [e] [] pos) env = (do
      let ov ← eval (.Constant (.str x) kk cp) env
      standAt ap.atName
      let (f, first) ← holding [ov] (getMethod ov "join" pl)
      callWith pos f first (backTo pos (starEach [e] env)) []) := by exact ⟨_, rfl⟩) :
    Ev prog w P A env s (.Call (.Attribute (.Constant (.str x) kk cp) "join" ap) [e] [] pos) (.str (Txt.join x ys)) := fun s₁ E k => by
  obtain ⟨pl, hm⟩ := hm
  refine MethodCall_ (pl := pl) (wpAny_Constant_str (GM.join ?_)) hm
  dsimp only
  rw [hs]
  refine callWith_builtin (by rfl) (evalArgs_plain (spliced_cons (he.use (keeps_trans k (keeps_toks _ _)) fun v s₂ hv k₂ => spliced_nil ?_)))
  obtain ⟨a, items, rfl, _, hl, hA⟩ := has_list.mp hv
  exact join_list hl (hasAll_strs hA) hok fun t' tk => ⟨has_str.mpr ⟨_, rfl⟩, keeps_trans (keeps_toks _ _) (keeps_trans k₂ (keeps_toks _ _))⟩

end
end Mine
end
section
open PySem PySem.W PyProof.Rows PySem.Calls PySem.Spec
set_option Elab.async false
set_option maxRecDepth 100000
set_option linter.all false
namespace Mine
/-- all that stood stands, at the places of F (the frames' names) but for the slots -/
def Kp (F : List Addr) (s s' : Shared) : Prop := ∃ h' tk, s' = { s with heap := h', toks := tk } ∧ ∀ b o, s.heap.get? b = some o → (b ∉ F → h'.get? b = some o) ∧ ∃ sl, h'.get? b = some { o with slots := sl }
theorem Kp.of {F : List Addr} {s s' : Shared} (k : Keeps s s') : Kp F s s' := by
  obtain ⟨h, t, rfl, k⟩ := k
  exact ⟨h, t, rfl, fun b o e => ⟨fun _ => k b o e, o.slots, k b o e⟩⟩
theorem Kp.refl (F : List Addr) (s : Shared) : Kp F s s := .of (keeps_refl s)
theorem Kp.trans {F : List Addr} {a b c : Shared} (x : Kp F a b) (y : Kp F b c) : Kp F a c := by
  obtain ⟨h, t, rfl, k⟩ := x
  obtain ⟨h', t', rfl, k'⟩ := y
  refine ⟨h', t', rfl, fun b o e => ⟨fun hb => (k' b o ((k b o e).1 hb)).1 hb, ?_⟩⟩
  obtain ⟨sl, e1⟩ := (k b o e).2
  obtain ⟨sl', e2⟩ := (k' b _ e1).2
  exact ⟨sl', e2⟩
theorem Kp.strict {s s' : Shared} (k : Kp [] s s') : Keeps s s' := by
  obtain ⟨h, t, rfl, k⟩ := k
  exact ⟨h, t, rfl, fun b o e => (k b o e).1 (by simp)⟩
theorem Kp.mono {F G : List Addr} {s s' : Shared} (k : Kp F s s') (h : ∀ b ∈ F, b ∈ G) : Kp G s s' := by
  obtain ⟨h', t, rfl, k⟩ := k
  exact ⟨h', t, rfl, fun b o e => ⟨fun hb => (k b o e).1 fun hf => hb (h b hf), (k b o e).2⟩⟩
/-- as if the places of F that did not stand were not in it -/
theorem Kp.drop {F G : List Addr} {s₀ s s' : Shared} (x : Kp F s₀ s) (y : Kp G s s') (h : ∀ b ∈ G, b ∉ F → s₀.heap.get? b = none) : Kp F s₀ s' := by
  obtain ⟨h₁, t, rfl, k⟩ := x
  obtain ⟨h', t', rfl, k'⟩ := y
  refine ⟨h', t', rfl, fun b o e => ⟨fun hb => (k' b o ((k b o e).1 hb)).1 fun hg => ?_, ?_⟩⟩
  · rw [h b hg hb] at e; cases e
  · obtain ⟨sl, e1⟩ := (k b o e).2
    obtain ⟨sl', e2⟩ := (k' b _ e1).2
    exact ⟨sl', e2⟩
theorem Kp.slots {F : List Addr} {s s' : Shared} (k : Kp F s s') : s.heap.UpToSlots s'.heap := by
  obtain ⟨h, t, rfl, k⟩ := k
  exact fun b o e _ => (k b o e).2
theorem kp_change {F : List Addr} {sB s s' : Shared} (k : Kp F sB s) {X : Addr → Prop} (hX : ∀ b, X b → sB.heap.get? b = none) (x : ∃ h' tk, s' = { s with heap := h', toks := tk } ∧ ∀ b o, ¬ X b → s.heap.get? b = some o → h'.get? b = some o) : Kp F sB s' := by
  obtain ⟨h, t, rfl, k⟩ := k
  obtain ⟨h', t', rfl, k'⟩ := x
  refine ⟨h', t', rfl, fun b o e => ?_⟩
  have hb : ¬ X b := fun q => by rw [hX b q] at e; cases e
  refine ⟨fun hf => k' b o hb ((k b o e).1 hf), ?_⟩
  obtain ⟨sl, e1⟩ := (k b o e).2
  exact ⟨sl, k' b _ hb e1⟩
mutual
theorem Has.slots {P : Addr → Prop} {h h' : Heap} (k : h.UpToSlots h') : ∀ {d : PyData} {v : Value}, Has P h d v → Has P h' d v
  | .none, _, x => by simpa only [Has] using x
  | .bool _, _, x => by simpa only [Has] using x
  | .int _, _, x => by simpa only [Has] using x
  | .str _, _, x => by simpa only [Has] using x
  | .list xs, _, x => by
    simp only [Has] at x ⊢
    obtain ⟨a, items, rfl, hp, ⟨o, ho, hc, n, hd⟩, ha⟩ := x
    obtain ⟨sl, q⟩ := k _ _ ho (fun vs e => by rw [hd] at e; cases e)
    exact ⟨a, items, rfl, hp, ⟨_, q, hc, n, hd⟩, HasAll.slots k ha⟩
  | .tuple xs, _, x => by
    simp only [Has] at x ⊢
    obtain ⟨a, items, rfl, hp, ⟨o, ho, hc, n, hd⟩, ha⟩ := x
    obtain ⟨sl, q⟩ := k _ _ ho (fun vs e => by rw [hd] at e; cases e)
    exact ⟨a, items, rfl, hp, ⟨_, q, hc, n, hd⟩, HasAll.slots k ha⟩
  | .dict _, _, x => by simpa only [Has] using x
theorem HasAll.slots {P : Addr → Prop} {h h' : Heap} (k : h.UpToSlots h') : ∀ {ds : List PyData} {vs : List Value}, HasAll P h ds vs → HasAll P h' ds vs
  | [], _, x => by simpa only [HasAll] using x
  | d :: ds, _, x => by
    simp only [HasAll] at x ⊢
    obtain ⟨v, r, rfl, hv, hr⟩ := x
    exact ⟨v, r, rfl, Has.slots k hv, HasAll.slots k hr⟩
end
theorem Lc.slots {P : Addr → Prop} {h h' : Heap} {env : Env} {ds} (x : Lc P h env ds) (k : h.UpToSlots h') : Lc P h' env ds := by
  obtain ⟨m, hn, hv⟩ := x
  exact ⟨m, k.ns hn, fun y d e => let ⟨v, e1, e2⟩ := hv y d e; ⟨v, e1, e2.slots k⟩⟩
theorem Fo.kp {P : Addr → Prop} {F : List Addr} {a b : Shared} (f : Fo P a) (x : Kp F a b) : Fo P b := fun c e => f c (by
  obtain ⟨h, t, rfl, k⟩ := x
  cases q : a.heap.get? c with
  | none => rfl
  | some o => obtain ⟨sl, e1⟩ := (k c o q).2; rw [e1] at e; cases e)

section
variable {prog : Program} {w : World} {P : Addr → Prop} {A : Around} {env : Env} {s : Shared} {F : List Addr}

/-- within a def's body: s₀ is the state ahead of the call, ds the names' data -/
structure Bd (F : List Addr) (P : Addr → Prop) (s₀ : Shared) (env : Env) (ds : List (Str × PyData)) (s : Shared) : Prop where
  keep : Kp F s₀ s
  lc : Lc P s.heap env ds
  above : s₀.heap.get? env.locals = none
theorem Bd.later {s₀ s s' : Shared} {ds} (B : Bd F P s₀ env ds s) (k : Keeps s s') : Bd F P s₀ env ds s' := ⟨B.keep.trans (.of k), B.lc.keeps (keeps_get k), B.above⟩
theorem Bd.out {s₀ s s' : Shared} {ds} (B : Bd [] P s₀ env ds s) (k : Keeps s s') : Keeps s₀ s' := keeps_trans B.keep.strict k
/-- behind a call that wrote into the frames' slots -/
theorem Bd.weak {s₀ s s' : Shared} {ds} (B : Bd F P s₀ env ds s) (k : Kp (env.locals :: F) s s') : Bd F P s₀ env ds s' := ⟨B.keep.drop k fun b hb hf => by
    rcases List.mem_cons.mp hb with rfl | hb
    · exact B.above
    · exact absurd hb hf, B.lc.slots k.slots, B.above⟩

theorem lc_store {h h' : Heap} {ds : List (Str × PyData)} {m : Str → Option Value} {x : Str} {v : Value} {d : PyData} (hn : h.Ns env.locals m) (hv : ∀ x d, ds.lookup x = some d → ∃ v, m x = some v ∧ Has P h d v) (hd : Has P h d v)
    (hn' : h'.Ns env.locals (fun y => if y = x then some v else m y)) (hs : Heap.SameBut env.locals h h') : Lc P h' env ((x, d) :: ds) := by
  have k := KeepSeq.but hn hs
  refine ⟨_, hn', fun y e he => ?_⟩
  rw [List.lookup_cons] at he
  by_cases hy : y = x
  · subst hy
    simp at he
    subst he
    exact ⟨v, by simp, hd.mono k⟩
  · rw [show (y == x) = false by simpa using hy] at he
    obtain ⟨u, hu, hU⟩ := hv y e he
    exact ⟨u, by simp [hy, hu], hU.mono k⟩

theorem kp_store {s₀ : Shared} {h' : Heap} {L : Addr} {tk : Nat} (k : Kp F s₀ s) (ha : s₀.heap.get? L = none) (hs : Heap.SameBut L s.heap h') : Kp F s₀ { s with heap := h', toks := tk } :=
  kp_change k (X := fun b => b = L) (by rintro b rfl; exact ha) ⟨h', tk, rfl, fun b o hb e => (hs.2 b hb).trans e⟩

theorem Bd.store {s₀ : Shared} {ds x d v} {Q : Unit → Shared → Prop} {E} (B : Bd F P s₀ env ds s) (hd : Has P s.heap d v) (hk : EnvOk env) (h : ∀ s', Bd F P s₀ env ((x, d) :: ds) s' → Q () s')
    (hl : env.kindOf x = some .local := by rfl) : wpAny (model prog w) A (storeName env x v) Q E s := by
  obtain ⟨m, hn, hv⟩ := B.lc
  refine wpAny_storeName_local hl hn (fun h' hn' hs => h _ ⟨kp_store B.keep B.above hs, lc_store hn hv hd hn' hs, B.above⟩) ?_
  rw [hk.kind]; rfl

theorem Bd.assign {s₀ : Shared} {ds x px e pos d} {Q : Flow → Shared → Prop} {E} (B : Bd F P s₀ env ds s) (hk : EnvOk env) (he : Ev prog w P A env s e d) (h : ∀ s', Bd F P s₀ env ((x, d) :: ds) s' → Q .next s')
    (hl : env.kindOf x = some .local := by rfl) (hs : swapsWith e (some (.Name x px)) pos.line env = pure false := by rfl) :
    wpAny (model prog w) A (exec (.Assign [.Name x px] e pos) env) Q E s :=
  wpAny_Assign_Name (he.use (keeps_refl _) fun v s₁ hv k₁ => (B.later k₁).store hv hk (fun s' B' => h s' B') hl) hs

theorem seq1 {st rest} {Q : Flow → Shared → Prop} {E} (P : Shared → Prop) (h1 : wpAny (model prog w) A (exec st env) (fun f s' => f = .next ∧ P s') E s) (h2 : ∀ s', P s' → wpAny (model prog w) A (execs rest env) Q E s') :
    wpAny (model prog w) A (execs (st :: rest) env) Q E s :=
  wpAny_execs_cons (wpAny_mono h1 (fun f s' x => by obtain ⟨rfl, x⟩ := x; exact h2 s' x) fun _ _ x => x)

/-- x = e; rest -/
theorem Bd.let {s₀ : Shared} {ds x px e pos d rest} {Q : Flow → Shared → Prop} {E} (B : Bd F P s₀ env ds s) (hk : EnvOk env) (he : Ev prog w P A env s e d)
    (h : ∀ s', Bd F P s₀ env ((x, d) :: ds) s' → wpAny (model prog w) A (execs rest env) Q E s')
    (hl : env.kindOf x = some .local := by rfl) (hs : swapsWith e (some (.Name x px)) pos.line env = pure false := by rfl) :
    wpAny (model prog w) A (execs (.Assign [.Name x px] e pos :: rest) env) Q E s :=
  seq1 (fun s' => Bd F P s₀ env ((x, d) :: ds) s') (B.assign hk he (fun s' B' => ⟨rfl, B'⟩) hl hs) h

theorem ret_ {e pos rest d} {Q : Flow → Shared → Prop} {E} (he : Ev prog w P A env s e d) (h : ∀ v s', Has P s'.heap d v → Keeps s s' → Q (.ret v) s') :
    wpAny (model prog w) A (execs (.Return (some e) pos :: rest) env) Q E s :=
  wpAny_execs_cons (wpAny_Return_some (he.use (keeps_refl _) fun v s' hv k => h v s' hv k))

/-- a test that is decided -/
def Ts (prog : Program) (w : World) (A : Around) (env : Env) (s : Shared) (e : Expr) (b : Bool) : Prop :=
  ∀ s₁ E, Keeps s s₁ → wpAny (model prog w) A (isTrue e env (eval e env)) (fun c s' => c = b ∧ Keeps s₁ s') E s₁
theorem Ts.use {s₁ : Shared} {e b} {Q : Bool → Shared → Prop} {E} (x : Ts prog w A env s e b) (k : Keeps s s₁) (h : ∀ s', Keeps s₁ s' → Q b s') :
    wpAny (model prog w) A (isTrue e env (eval e env)) Q E s₁ := wpAny_mono (x s₁ E k) (fun v s' y => by obtain ⟨rfl, y⟩ := y; exact h s' y) fun _ _ y => y

theorem if_ {t b1 b2 pos b} {Q : Flow → Shared → Prop} {E} (ht : Ts prog w A env s t b) (h : ∀ s', Keeps s s' → wpAny (model prog w) A (execs (if b then b1 else b2) env) Q E s') :
    wpAny (model prog w) A (exec (.If t b1 b2 pos) env) Q E s :=
  wpAny_If (ht.use (keeps_refl _) fun s' k => by have := h s' k; cases b <;> simpa using this)

theorem Ts.cmp {l r op pos dl dr b} (hl : Ev prog w P A env s l dl) (hr : Ev prog w P A env s r dr)
    (ho : ∀ s₁ va vb, Keeps s s₁ → Has P s₁.heap dl va → Has P s₁.heap dr vb → To prog w P A (compareOp op va vb) (.bool b) s₁) (hm : behindInMarks op r = false := by with_unfolding_all rfl) :
    Ts prog w A env s (.Compare l [op] [r] pos) b := fun s₁ E k =>
  wpAny_isTrue_Compare1 (hl.use k fun va s₂ ha k₂ => hr.use (keeps_trans k k₂) fun vb s₃ hb k₃ =>
    wpAny_mono (ho s₃ va vb (keeps_trans k (keeps_trans k₂ k₃)) (ha.mono (keeps_seq k₃)) hb E) (fun v s' y => by
      have e := has_bool.mp y.1
      subst e
      exact wpAny_truthy_bool ⟨rfl, keeps_trans k₂ (keeps_trans k₃ y.2)⟩) fun _ _ y => y) hm
theorem to_eqInt {a b : Int} {va vb : Value} (ha : Has P s.heap (.int a) va) (hb : Has P s.heap (.int b) vb) : To prog w P A (compareOp .Eq va vb) (.bool (a == b)) s := fun E => by
  obtain ⟨t, rfl⟩ := has_int.mp ha
  obtain ⟨u, rfl⟩ := has_int.mp hb
  exact eq_int ⟨has_bool.mpr rfl, keeps_refl _⟩
theorem to_eqStr {a b : Str} {va vb : Value} (ha : Has P s.heap (.str a) va) (hb : Has P s.heap (.str b) vb) : To prog w P A (compareOp .Eq va vb) (.bool (a == b)) s := fun E => by
  obtain ⟨t, rfl⟩ := has_str.mp ha
  obtain ⟨u, rfl⟩ := has_str.mp hb
  exact eq_str ⟨has_bool.mpr rfl, keeps_refl _⟩
theorem to_neData {a b : PyData} {va vb : Value} (ha : Has P s.heap a va) (hb : Has P s.heap b vb) (h1 : SeqAt.shaped a = true) (h2 : SeqAt.shaped b = true) (hu : A.units + 64 < cLine) (n1 : noObj a = true := by rfl) (n2 : noObj b = true := by rfl) :
    To prog w P A (compareOp .NotEq va vb) (.bool (!PyData.eqv a b)) s := fun E => by
  obtain ⟨as, ra⟩ := ha.reads n1
  obtain ⟨bs, rb⟩ := hb.reads n2
  exact ne_dataH ra rb h1 h2 hu ⟨has_bool.mpr rfl, keeps_refl _⟩

/-- a def of the written part, by its body -/
theorem fn_def {K : Frag} {f : Addr} {oc od osl} {name qual params body scope} {dV kV doc pm cdv ct : Value} {an} {ds : List PyData} {d : PyData} {bd : List (Str × PyData)} (binds : List Value → List (Str × Value))
    (X : K.In s.heap) (hlim : s.heap.NoLimit) (hf : K.lookup f = some ⟨oc, od, .func (fnOf name qual params body scope dV kV doc pm an cdv ct), osl⟩) (hcd : codeIn K cdv qual = true) (hroom : A.depth < recursionLimit)
    (hbind : ∀ (P : Addr → Prop) s₁ vs, Keeps s s₁ → HasAll P s₁.heap ds vs → BindsTo s₁ (fnOf name qual params body scope dV kV doc pm an cdv ct) ⟨vs, []⟩ (binds vs) ∧ (∀ y ∈ binds vs, scope.names.lookup y.1 = some .local) ∧
      ∀ h', KeepSeq s₁.heap h' → ∀ x d, bd.lookup x = some d → ∃ v, (binds vs).reverse.lookup x = some v ∧ Has P h' d v)
    (hbody : ∀ (P : Addr → Prop) s₀ s₁ L, Keeps s s₀ → Fo P s₀ → Bd [] P s₀ (envOf qual scope L f cdv) bd s₁ → wpAny (model prog w) (A.deeper (envOf qual scope L f cdv)) (execs body (envOf qual scope L f cdv))
      (fun fl s' => ∃ v, fl = .ret v ∧ Has P s'.heap d v ∧ Keeps s₀ s') (fun _ _ => False) s₁)
    (hco : scope.isCoroutine = false := by rfl) (hgen : scope.isGenerator = false := by rfl) (hk : scope.kind = .function := by rfl) (hcell : ∀ x ∈ scope.names, x.2 ≠ .cell := by decide) :
    FnTo prog w A (.ref f) ds d s := fun P s₁ vs E k fo hv => by
  obtain ⟨h1, h2, h3⟩ := hbind P s₁ vs k hv
  have X₁ := X.keeps (keeps_get k)
  refine wpAny_call (codeAny_call_def (fd := fnOf name qual params body scope dV kV doc pm an cdv ct) (body := body) (binds := binds vs) hroom (X₁ _ _ hf) rfl (hlim.keeps (keeps_get k)) (codeRec_of X₁ hcd) rfl h1 hcell h2 (fun h₁ hns hk₁ => ?_) hco hgen hk)
  refine wpAny_mono (hbody P s₁ { s₁ with heap := h₁, toks := s₁.toks + (binds vs).length } s₁.heap.objs.size k fo ⟨.of ⟨h₁, _, rfl, hk₁⟩, ⟨_, hns, h3 h₁ (.of hk₁)⟩, Heap.get?_none_of_le (Nat.le_refl _)⟩) (fun fl s' x => ?_) (fun _ _ x => x.elim)
  obtain ⟨v, rfl, x, y⟩ := x
  exact ⟨x, y⟩

theorem binds_one {x : Str} {s₁ : Shared} {d : PyData} {vs : List Value} (hv : HasAll P s₁.heap [d] vs) :
    ∀ h', KeepSeq s₁.heap h' → ∀ y e, [(x, d)].lookup y = some e → ∃ v, ([x].zip vs).reverse.lookup y = some v ∧ Has P h' e v := by
  obtain ⟨v, rfl, h1⟩ := hasAll_one hv
  intro h' k y e he
  rw [List.lookup_cons] at he
  by_cases hy : y = x
  · subst hy; simp at he; subst he
    exact ⟨v, by simp, h1.mono k⟩
  · rw [show (y == x) = false by simpa using hy] at he; simp at he
theorem binds_two {x z : Str} (hz : z ≠ x) {s₁ : Shared} {d d2 : PyData} {vs : List Value} (hv : HasAll P s₁.heap [d, d2] vs) :
    ∀ h', KeepSeq s₁.heap h' → ∀ y e, [(x, d), (z, d2)].lookup y = some e → ∃ v, ([x, z].zip vs).reverse.lookup y = some v ∧ Has P h' e v := by
  obtain ⟨u, v, rfl, h1, h2⟩ := hasAll_two hv
  intro h' k y e he
  rw [List.lookup_cons] at he
  by_cases hy : y = x
  · subst hy; simp at he; subst he
    refine ⟨u, ?_, h1.mono k⟩
    have : (y == z) = false := by simpa using Ne.symm hz
    simp [List.lookup_cons, this]
  · rw [show (y == x) = false by simpa using hy] at he
    rw [List.lookup_cons] at he
    by_cases hy2 : y = z
    · subst hy2; simp at he; subst he
      exact ⟨v, by simp [List.lookup_cons], h2.mono k⟩
    · rw [show (y == z) = false by simpa using hy2] at he; simp at he

theorem envOf_ok {qual scope L f cdv} (hk : scope.kind = .function := by rfl) : EnvOk (envOf qual scope L f cdv) := ⟨hk, rfl, rfl⟩
end
end Mine
end
section
open PySem PySem.W PyProof.Rows PySem.Calls PySem.Spec
set_option Elab.async false
set_option maxRecDepth 100000
set_option linter.all false
namespace Mine
section
variable {prog : Program} {w : World} {P : Addr → Prop} {A : Around} {env cenv : Env} {s : Shared}

/-- a target's names behind the assignment of a datum -/
def Tg (prog : Program) (w : World) (A : Around) (cenv : Env) (target : Expr) (d : PyData) (nb : List (Str × PyData)) : Prop :=
  ∀ (P : Addr → Prop) (s : Shared) v E Q, Has P s.heap d v → (∃ m, s.heap.Ns cenv.locals m) →
    (∀ h' tk, Lc P h' cenv nb → (∀ b o, b ≠ cenv.locals → s.heap.get? b = some o → h'.get? b = some o) → Q () { s with heap := h', toks := tk }) → wpAny (model prog w) A (assign target cenv v) Q E s

theorem tg_name {x px d} (hk : cenv.scope.kind = .function) (hl : cenv.kindOf x = some .local) : Tg prog w A cenv (.Name x px) d [(x, d)] := fun P s v E Q hd ⟨m, hn⟩ h => by
  refine wpAny_assign_Name (wpAny_storeName_local hl hn (fun h' hn' hs => ?_) (by rw [hk]; rfl))
  exact h h' _ (lc_store (ds := []) hn (by intro _ _ e; cases e) hd hn' hs) fun b o hb e => (hs.2 b hb).trans e

theorem tg_pair {x y px py kk tp d e} (hk : cenv.scope.kind = .function) (hh : A.handled = none) (hl : cenv.kindOf x = some .local) (hl2 : cenv.kindOf y = some .local) :
    Tg prog w A cenv (.Tuple [.Name x px, .Name y py] kk tp) (.tuple [d, e]) [(y, e), (x, d)] := fun P s v E Q hd ⟨m, hn⟩ h => by
  obtain ⟨a, items, rfl, hP, hT, hA⟩ := has_tuple.mp hd
  obtain ⟨u1, u2, hu, h1, h2⟩ := hasAll_two hA
  have hsz : items.size = 2 := by have := congrArg List.length hu; simpa using this
  refine assign_Tuple_tuple hh hT (by rw [hsz]; rfl) (by rfl) fun h₁ he => ?_
  have k₁ : ∀ b o, s.heap.get? b = some o → h₁.get? b = some o := fun b o q => he b o (Nat.ne_of_lt (Heap.lt_size q)) q
  rw [hu]
  show wpAny _ _ (assignInOrder [assign (.Name x px) cenv, assign (.Name y py) cenv] [u1, u2]) _ _ _
  unfold assignInOrder
  refine wpAny_bind (wpAny_holding (wpAny_assign_Name (wpAny_storeName_local hl (hn.keeps k₁) (fun h₂ hn₂ hs₂ => ?_) (by rw [hk]; rfl))))
  unfold assignInOrder
  refine wpAny_bind (wpAny_holding (wpAny_assign_Name (wpAny_storeName_local hl2 hn₂ (fun h₃ hn₃ hs₃ => ?_) (by rw [hk]; rfl))))
  unfold assignInOrder
  have L2 : Lc P h₂ cenv [(x, d)] := lc_store (ds := []) (hn.keeps k₁) (by intro _ _ e; cases e) (h1.mono (.of k₁)) hn₂ hs₂
  obtain ⟨m₂, hm₂, hv₂⟩ := L2
  refine wpAny_pure (h h₃ _ ?_ ?_)
  · have k2 := (KeepSeq.of k₁).trans (KeepSeq.but (hn.keeps k₁) hs₂)
    refine ⟨_, hn₃, fun z q hz => ?_⟩
    rw [List.lookup_cons] at hz
    by_cases hzy : z = y
    · subst hzy; simp at hz; subst hz
      exact ⟨u2, by simp, (h2.mono k2).mono (KeepSeq.but hn₂ hs₃)⟩
    · rw [show (z == y) = false by simpa using hzy] at hz
      rw [List.lookup_cons] at hz
      by_cases hzx : z = x
      · subst hzx; simp at hz; subst hz
        exact ⟨u1, by simp [hzy], (h1.mono k2).mono (KeepSeq.but hn₂ hs₃)⟩
      · rw [show (z == x) = false by simpa using hzx] at hz; simp at hz
  · intro b o hb e
    exact (hs₃.2 b hb).trans ((hs₂.2 b hb).trans (k₁ b o e))

/-- a comprehension at work: sB stood ahead of it, its names at C, its list at D -/
structure CS (sB : Shared) (P : Addr → Prop) (C D : Addr) (acc : List PyData) (s : Shared) : Prop where
  keep : Keeps sB s
  ns : ∃ m, s.heap.Ns C m
  lst : ∃ ys, s.heap.PlainList D ys ∧ HasAll (fun b => P b ∧ b ≠ D) s.heap acc ys.toList
def KB (C D : Addr) (s s' : Shared) : Prop := ∃ h' tk, s' = { s with heap := h', toks := tk } ∧ ∀ b o, b ≠ C → b ≠ D → s.heap.get? b = some o → h'.get? b = some o
theorem KB.trans {C D : Addr} {a b c : Shared} (x : KB C D a b) (y : KB C D b c) : KB C D a c := by
  obtain ⟨h, t, rfl, k⟩ := x
  obtain ⟨h', t', rfl, k'⟩ := y
  exact ⟨h', t', rfl, fun b o e f q => k' b o e f (k b o e f q)⟩
theorem KB.of {C D : Addr} {a b : Shared} (x : Keeps a b) : KB C D a b := by
  obtain ⟨h, t, rfl, k⟩ := x
  exact ⟨h, t, rfl, fun b o _ _ q => k b o q⟩
theorem keeps_change {sB s s' : Shared} (k : Keeps sB s) {X : Addr → Prop} (hX : ∀ b, X b → sB.heap.get? b = none) (x : ∃ h' tk, s' = { s with heap := h', toks := tk } ∧ ∀ b o, ¬ X b → s.heap.get? b = some o → h'.get? b = some o) : Keeps sB s' := by
  obtain ⟨h, t, rfl, k⟩ := k
  obtain ⟨h', t', rfl, k'⟩ := x
  exact ⟨h', t', rfl, fun b o e => k' b o (fun q => by rw [hX b q] at e; cases e) (k b o e)⟩
theorem isListIter_at {h h' : Heap} {I ax i} (x : h.IsListIter I ax i) (k : ∀ o, h.get? I = some o → h'.get? I = some o) : h'.IsListIter I ax i := let ⟨o, ho, r⟩ := x; ⟨o, k o ho, r⟩

theorem letOwned {target : Expr} {I ax i v} {Q : Unit → Shared → Prop} {E} (hI : s.heap.IsListIter I ax i) (h : Q () s) : wpAny (model prog w) A (letOwnedTupleGo target (.ref I) v) Q E s := by
  obtain ⟨o, ho, hc, hd⟩ := hI
  unfold letOwnedTupleGo
  split
  all_goals first
    | exact wpAny_pure h
    | (cases v <;> first
        | exact wpAny_pure h
        | (refine wpAny_bind (wpAny_load ho ?_)
           rw [hc, hd]
           exact wpAny_pure h))

theorem comp_loop {elt gens scope pos depth I ax C D items ds target ip} {nb : PyData → List (Str × PyData)} {g : PyData → List PyData} {rest : Sem Fin} {R : Result → Shared → Prop} {sB : Shared} {acc₀ : List PyData}
    (hh : A.handled = none) (hI : sB.heap.get? I = none) (hC : sB.heap.get? C = none) (hD : sB.heap.get? D = none) (hIC : I ≠ C) (hID : I ≠ D) (hCD : C ≠ D) (hL : cenv.locals = C)
    (hax : sB.heap.IsList ax items) (hds : HasAll P sB.heap ds items.toList)
    (htg : ∀ d ∈ ds, Tg prog w A cenv target d (nb d))
    (hturn : compTurn (.ListComp elt gens scope pos) depth (.ref I) (.ref D) cenv = (standAt ip >>= fun _ => pyNext (.ref I) >>= fun r => match r with
      | none => pure (.done .next)
      | some v => letOwnedTupleGo target (.ref I) v >>= fun _ => assign target cenv v >>= fun _ => rest))
    (hrest : ∀ E s acc d, d ∈ ds → acc.length ≤ (acc₀ ++ ds.flatMap g).length → CS sB P C D acc s → Lc (fun b => P b ∧ b ≠ D) s.heap cenv (nb d) →
      wpAny (model prog w) A rest (fun fin s' => fin = .again (.compLoop (.ListComp elt gens scope pos) depth (.ref I) (.ref D) cenv) ∧ CS sB P C D (acc ++ g d) s' ∧ KB C D s s') E s)
    (h0 : CS sB P C D acc₀ s) (hi0 : s.heap.IsListIter I ax 0)
    (hR : ∀ s', CS sB P C D (acc₀ ++ ds.flatMap g) s' → (∃ h' tk, s' = { s with heap := h', toks := tk } ∧ ∀ b o, b ≠ I → b ≠ C → b ≠ D → s.heap.get? b = some o → h'.get? b = some o) → R (.ok .next) s') :
    codeAny (model prog w) A (.compLoop (.ListComp elt gens scope pos) depth (.ref I) (.ref D) cenv) R s := by
  have hlen : items.size = ds.length := by simpa using hds.length
  refine codeAny_loop rfl (fun k s' => ∃ i, i ≤ ds.length ∧ k = ds.length + 1 - i ∧ CS sB P C D (acc₀ ++ (ds.take i).flatMap g) s' ∧ s'.heap.IsListIter I ax i ∧
    (∃ h' tk, s' = { s with heap := h', toks := tk } ∧ ∀ b o, b ≠ I → b ≠ C → b ≠ D → s.heap.get? b = some o → h'.get? b = some o)) ?_ (ds.length + 1)
    ⟨0, Nat.zero_le _, rfl, by simpa using h0, hi0, s.heap, s.toks, rfl, fun _ _ _ _ _ e => e⟩
  rintro k s' ⟨i, hle, rfl, hcs, hit, hkb⟩
  show wpAny _ A ((compTurn (.ListComp elt gens scope pos) depth (.ref I) (.ref D) cenv).onRaise (fun x => do noteFrame x cenv; theTreesLotGoes x)) _ _ s'
  refine wpAny_noted ?_
  rw [hturn]
  refine wpAny_bind (wpAny_standAt (wpAny_bind ?_))
  have hax' : s'.heap.IsList ax items := (keeps_seq hcs.keep).isList hax
  obtain ⟨m, hm⟩ := hcs.ns
  obtain ⟨ys, hys, hall⟩ := hcs.lst
  by_cases hlt : i < ds.length
  · have hx : items[i]? = some items[i] := by simp [hlen, hlt]
    have hxv : items.toList[i]? = some items[i] := by simpa using hx
    obtain ⟨d, hd, hv⟩ := hds.get hxv
    have hmem : d ∈ ds := List.mem_of_getElem? hd
    refine wpAny_pyNext_list_item hit hax' hx fun h₁ hit₁ hs₁ => ?_
    dsimp only
    refine wpAny_bind (letOwned hit₁ ?_)
    have kB₁ : Keeps sB { s' with heap := h₁ } := keeps_change hcs.keep (X := fun b => b = I) (by rintro b rfl; exact hI) ⟨h₁, s'.toks, rfl, fun b o hb e => (hs₁.2 b hb).trans e⟩
    have hvP : Has (fun b => P b ∧ b ≠ D) h₁ d items[i] := hv.go fun b o xs n e _ p => ⟨keeps_get kB₁ b o e, p, by rintro rfl; rw [hD] at e; cases e⟩
    have hm₁ : h₁.Ns C m := hm.sameBut hs₁ (Ne.symm hIC)
    refine wpAny_bind (htg d hmem (fun b => P b ∧ b ≠ D) { s' with heap := h₁ } items[i] _ _ hvP ⟨m, by rw [hL]; exact hm₁⟩ fun h₂ tk₂ L₂ k₂ => ?_)
    have kB₂ : Keeps sB { s' with heap := h₂, toks := tk₂ } := keeps_change kB₁ (X := fun b => b = C) (by rintro b rfl; exact hC) ⟨h₂, tk₂, rfl, fun b o hb e => k₂ b o (by rw [hL]; exact hb) e⟩
    have hDall : ∀ b o, b ≠ C → b ≠ I → s'.heap.get? b = some o → h₂.get? b = some o := fun b o hb hb' e => k₂ b o (by rw [hL]; exact hb) ((hs₁.2 b hb').trans e)
    have hs2 : ∀ b o xs n, s'.heap.get? b = some o → o.data = .seq xs n → h₂.get? b = some o := fun b o xs n e q => by
      refine hDall b o ?_ ?_ e
      · rintro rfl
        obtain ⟨oc, es, ep, h5, h6, _⟩ := hm
        rw [h5] at e; cases e; rw [h6] at q; cases q
      · rintro rfl
        obtain ⟨oc, h5, h6, h7⟩ := hit
        rw [h5] at e; cases e; rw [h7] at q; cases q
    have cs₂ : CS sB P C D (acc₀ ++ (ds.take i).flatMap g) { s' with heap := h₂, toks := tk₂ } := by
      refine ⟨kB₂, ?_, ys, ?_, ?_⟩
      · obtain ⟨m₂, hm₂, _⟩ := L₂
        exact ⟨m₂, by rw [← hL]; exact hm₂⟩
      · obtain ⟨n, e⟩ := hys
        exact ⟨n, hDall D _ (Ne.symm hCD) (Ne.symm hID) e⟩
      · exact hall.mono fun b o xs n e q => hs2 b o xs n e q
    refine wpAny_mono (hrest _ _ _ d hmem (by
      have e := congrArg (fun l => (l.flatMap g).length) (List.take_append_drop i ds)
      simp only [List.flatMap_append, List.length_append] at e ⊢
      omega) cs₂ L₂) (fun fin s₃ x => ?_) fun _ _ x => x
    obtain ⟨rfl, cs₃, kb₃⟩ := x
    refine ⟨rfl, ds.length + 1 - (i + 1), by omega, i + 1, hlt, rfl, ?_, ?_, ?_⟩
    · have e : (ds.take (i + 1)).flatMap g = (ds.take i).flatMap g ++ g d := by
        rw [List.take_add_one, hd]; simp
      rw [e, ← List.append_assoc]; exact cs₃
    · obtain ⟨h₃, tk₃, rfl, k₃⟩ := kb₃
      exact isListIter_at hit₁ fun o e => k₃ I o hIC hID (k₂ I o (by rw [hL]; exact hIC) e)
    · obtain ⟨h₃, tk₃, rfl, k₃⟩ := kb₃
      obtain ⟨h', tk', rfl, kk⟩ := hkb
      exact ⟨h₃, tk₃, rfl, fun b o a1 a2 a3 e => k₃ b o a2 a3 (k₂ b o (by rw [hL]; exact a2) ((hs₁.2 b a1).trans (kk b o a1 a2 a3 e)))⟩
  · have hie : i = ds.length := by omega
    refine wpAny_pyNext_list_end hh hit hax' (by simp [hlen, hie]) fun h₁ he₁ => ?_
    refine wpAny_pure (hR _ ?_ ?_)
    · rw [hie, List.take_length] at hcs
      obtain ⟨m, hm⟩ := hcs.ns
      refine ⟨keeps_change hcs.keep (X := fun b => b = I) (by rintro b rfl; exact hI) ⟨h₁, s'.toks, rfl, fun b o hb e => he₁ b o hb e⟩, ⟨m, ?_⟩, ?_⟩
      · obtain ⟨o, es, ep, h5, r⟩ := hm
        exact ⟨o, es, ep, he₁ _ _ (Ne.symm hIC) h5, r⟩
      · obtain ⟨ys, ⟨n, e⟩, ha⟩ := hcs.lst
        refine ⟨ys, ⟨n, he₁ _ _ (Ne.symm hID) e⟩, ha.mono fun b o xs n e q => he₁ b o ?_ e⟩
        rintro rfl
        obtain ⟨oc, h5, h6, h7⟩ := hit
        rw [h5] at e; cases e; rw [h7] at q; cases q
    · obtain ⟨h', tk', rfl, kk⟩ := hkb
      exact ⟨h₁, tk', rfl, fun b o a1 a2 a3 e => he₁ b o a1 (kk b o a1 a2 a3 e)⟩
end
end Mine
end
section
open PySem PySem.W PyProof.Rows PySem.Calls PySem.Spec
set_option Elab.async false
set_option maxRecDepth 100000
set_option linter.all false
namespace Mine
section
variable {prog : Program} {w : World} {P : Addr → Prop} {A : Around} {env cenv : Env} {s : Shared}

theorem fresh_size (s : Shared) : s.heap.get? s.heap.objs.size = none := Heap.get?_none_of_le (Nat.le_refl _)

theorem comp_core {elt target iter : Expr} {ifs : List Expr} {gens : List Comprehension} {scope : Scope} {pos : Pos} {ds : List PyData} {ip : Pos} {nb : PyData → List (Str × PyData)} {g : PyData → List PyData} {E : Value → Shared → Prop}
    {RR : Value → Addr → Result → Shared → Prop} (rest : Addr → Addr → Env → Sem Fin)
    (hh : A.handled = none) (hcell : ∀ y ∈ scope.names, y.2 ≠ .cell) (hkind : scope.kind = .function)
    (he : Ev prog w P A env s iter (.list ds)) 
    (htg : ∀ C, ∀ d ∈ ds, Tg prog w A (compEnvC scope [] C env) target d (nb d))
    (hturn : ∀ I D cenv, compTurn (.ListComp elt (⟨target, iter, ifs, 0⟩ :: gens) scope pos) 0 (.ref I) (.ref D) cenv = (standAt ip >>= fun _ => pyNext (.ref I) >>= fun r => match r with
      | none => pure (.done .next)
      | some v => letOwnedTupleGo target (.ref I) v >>= fun _ => assign target cenv v >>= fun _ => rest I D cenv))
    (hrest : ∀ I C D sB E s' acc d, Keeps s sB → sB.heap.get? C = none → sB.heap.get? D = none → C ≠ D → d ∈ ds → acc.length ≤ (ds.flatMap g).length → CS sB P C D acc s' → Lc (fun b => P b ∧ b ≠ D) s'.heap (compEnvC scope [] C env) (nb d) →
      wpAny (model prog w) A (rest I D (compEnvC scope [] C env)) (fun fin s'' => fin = .again (.compLoop (.ListComp elt (⟨target, iter, ifs, 0⟩ :: gens) scope pos) 0 (.ref I) (.ref D) (compEnvC scope [] C env)) ∧ CS sB P C D (acc ++ g d) s'' ∧ KB C D s' s'') E s')
    (hRR : ∀ C D sB s', Keeps s sB → sB.heap.get? C = none → sB.heap.get? D = none → C ≠ D → CS sB P C D (ds.flatMap g) s' → RR (.ref D) C (.ok .next) s') :
    wpAny (model prog w) A (eval iter env) (fun x s₁ => wpAny (model prog w) A (pyIter x) (fun it s₂ => wpAny (model prog w) A (newList []) (fun acc s₃ =>
      wpAny (model prog w) A (newFunctionEnv scope env.globals [] [] env.qual none .none (some env)) (fun cenv s₄ =>
        codeAny (model prog w) A (.compStart (.ListComp elt (⟨target, iter, ifs, 0⟩ :: gens) scope pos) 0 it acc { cenv with scope := relabel scope env }) (RR acc cenv.locals) s₄) E s₃) E s₂) E s₁) E s := by
  refine he.use (keeps_refl _) fun xv sB hxv kB => ?_
  obtain ⟨ax, items, rfl, hPa, hax, hA⟩ := has_list.mp hxv
  refine wpAny_pyIter_list hax (wpAny_newObj_type (wpAny_newFunctionEnv hcell (by intro y hy; simp at hy) (fun h₁ hns₁ hsb₁ => ?_) hkind))
  dsimp only at hns₁ hsb₁ ⊢
  generalize hH1 : sB.heap.push { cls := .type "list_iterator", dict := none, data := .fields #[.ref ax, .int 0 0] } = H1 at hns₁ hsb₁ ⊢
  generalize hH2 : H1.push { cls := .type "list", dict := none, data := .seq ([] : List Value).toArray } = H2 at hns₁ hsb₁ ⊢
  have z1 : H1.objs.size = sB.heap.objs.size + 1 := by rw [← hH1, Heap.size_push]
  have z2 : H2.objs.size = sB.heap.objs.size + 2 := by rw [← hH2, Heap.size_push, z1]
  have n1 : sB.heap.objs.size ≠ H2.objs.size := by omega
  have n2 : sB.heap.objs.size ≠ H1.objs.size := by omega
  have n3 : H2.objs.size ≠ H1.objs.size := by omega
  have hI0 : sB.heap.get? sB.heap.objs.size = none := fresh_size sB
  have hD0 : sB.heap.get? H1.objs.size = none := Heap.get?_none_of_le (by rw [z1]; exact Nat.le_succ _)
  have hC0 : sB.heap.get? H2.objs.size = none := Heap.get?_none_of_le (by rw [z2]; omega)
  have up : ∀ b o, H2.get? b = some o → h₁.get? b = some o := fun b o e => (hsb₁.2 b (Nat.ne_of_lt (Heap.lt_size e))).trans (Heap.get?_push_of_some _ e)
  have old : ∀ b o, sB.heap.get? b = some o → h₁.get? b = some o := fun b o e => up b o (hH2 ▸ Heap.get?_push_of_some _ (hH1 ▸ Heap.get?_push_of_some _ e))
  have hit : h₁.IsListIter sB.heap.objs.size ax 0 := ⟨_, up _ _ (hH2 ▸ Heap.get?_push_of_some _ (hH1 ▸ Heap.get?_push_size _ rfl)), rfl, rfl⟩
  have hlst : h₁.PlainList H1.objs.size #[] := ⟨_, up _ _ (hH2 ▸ Heap.get?_push_size _ rfl)⟩
  have loop : ∀ s₃ : Shared, s₃ = { sB with heap := h₁, toks := sB.toks + ([] : List (Str × Value)).length } →
      codeAny (model prog w) A (.compLoop (.ListComp elt (⟨target, iter, ifs, 0⟩ :: gens) scope pos) 0 (.ref sB.heap.objs.size) (.ref H1.objs.size) (compEnvC scope [] H2.objs.size env)) (RR (.ref H1.objs.size) H2.objs.size) s₃ := by
    rintro s₃ rfl
    refine comp_loop (acc₀ := []) (sB := sB) (g := g) (nb := nb) (ds := ds) (items := items) (ax := ax) (C := H2.objs.size) (rest := rest _ _ _) hh hI0 hC0 hD0 n1 n2 n3 rfl hax hA (htg _) (hturn _ _ _)
      (fun E s' acc d hd hz cs L => hrest _ _ _ sB E s' acc d kB hC0 hD0 n3 hd (by simpa using hz) cs L) ?_ hit ?_
    · exact ⟨⟨h₁, _, rfl, old⟩, ⟨_, hns₁⟩, #[], hlst, hasAll_nil.mpr rfl⟩
    · intro s' cs _
      exact hRR _ _ sB s' kB hC0 hD0 n3 (by simpa using cs)
  exact codeAny_compStart_list (loop _ rfl) (wpAny_pyIter_listiter hit (loop _ rfl))

def TsL (prog : Program) (w : World) (A : Around) (cenv : Env) (s : Shared) (ifs : List Expr) (b : Bool) : Prop :=
  ∀ s₁ E, Keeps s s₁ → wpAny (model prog w) A (forIn ifs true fun c r => if r = true then do let ok ← isTrue c cenv (eval c cenv); pure (ForInStep.yield ok) else pure (ForInStep.yield r)) (fun ok s' => ok = b ∧ Keeps s₁ s') E s₁
theorem TsL.nil : TsL prog w A cenv s [] true := fun s₁ E k => wpAny_tests_nil ⟨rfl, keeps_refl _⟩
theorem TsL.one {c b} (x : Ts prog w A cenv s c b) : TsL prog w A cenv s [c] b := fun s₁ E k => wpAny_tests_one (x s₁ E k)

def restOne (elt target iter : Expr) (ifs : List Expr) (scope : Scope) (pos : Pos) (I D : Addr) (cenv : Env) : Sem Fin := do
  let mut ok := true
  for c in ifs do
    if ok then ok ← isTrue c cenv (eval c cenv)
  if ok then
    (do let _ ← call (.builtin "list.append") [.ref D, ← eval elt cenv])
  again (.compLoop (.ListComp elt [⟨target, iter, ifs, 0⟩] scope pos) 0 (.ref I) (.ref D) cenv)

theorem turn_one {elt target iter ifs scope pos I D cenv} : compTurn (.ListComp elt [⟨target, iter, ifs, 0⟩] scope pos) 0 (.ref I) (.ref D) cenv = (standAt iter.pos >>= fun _ => pyNext (.ref I) >>= fun r => match r with
      | none => pure (.done .next)
      | some v => letOwnedTupleGo target (.ref I) v >>= fun _ => assign target cenv v >>= fun _ => restOne elt target iter ifs scope pos I D cenv) := by rfl

theorem has_notD {D : Addr} {h h' : Heap} {d v} (k : ∀ b o, b ≠ D → h.get? b = some o → h'.get? b = some o) (x : Has (fun b => P b ∧ b ≠ D) h d v) : Has (fun b => P b ∧ b ≠ D) h' d v :=
  x.go fun b o xs n e _ p => ⟨k b o p.2 e, p⟩
theorem hasAll_notD {D : Addr} {h h' : Heap} {d v} (k : ∀ b o, b ≠ D → h.get? b = some o → h'.get? b = some o) (x : HasAll (fun b => P b ∧ b ≠ D) h d v) : HasAll (fun b => P b ∧ b ≠ D) h' d v :=
  x.go fun b o xs n e _ p => ⟨k b o p.2 e, p⟩

theorem CS.later {sB : Shared} {C D : Addr} {acc} {s s' : Shared} (x : CS sB P C D acc s) (k : Keeps s s') : CS sB P C D acc s' := by
  refine ⟨keeps_trans x.keep k, ?_, ?_⟩
  · obtain ⟨m, hm⟩ := x.ns
    exact ⟨m, hm.keeps (keeps_get k)⟩
  · obtain ⟨ys, ⟨n, e⟩, h⟩ := x.lst
    exact ⟨ys, ⟨n, keeps_get k _ _ e⟩, h.mono (keeps_seq k)⟩

theorem CS.append {sB : Shared} {C D : Addr} {acc} {v d} {Q : Value → Shared → Prop} {E} (hD : sB.heap.get? D = none) (hCD : C ≠ D) (x : CS sB P C D acc s) (hv : Has (fun b => P b ∧ b ≠ D) s.heap d v) (hsz : acc.length ≤ sizeLine)
    (h : ∀ s', CS sB P C D (acc ++ [d]) s' → KB C D s s' → Q .none s') : wpAny (model prog w) A (call (.builtin "list.append") [.ref D, v]) Q E s := by
  obtain ⟨ys, hys, hall⟩ := x.lst
  obtain ⟨m, hm⟩ := x.ns
  have hl : ys.size = acc.length := by simpa using hall.length
  refine wpAny_list_append_plain hys (fun h' hl' hs' => h _ ?_ ?_) (by rw [hl]; exact hsz)
  · refine ⟨keeps_change x.keep (X := fun b => b = D) (by rintro b rfl; exact hD) ⟨h', s.toks, rfl, fun b o hb e => (hs'.2 b hb).trans e⟩, ⟨m, hm.sameBut hs' hCD⟩, _, hl', ?_⟩
    rw [Array.toList_push]
    exact hasAll_notD (fun b o hb e => (hs'.2 b hb).trans e) (hall.append (hasAll_cons.mpr ⟨v, [], rfl, hv, hasAll_nil.mpr rfl⟩))
  · exact ⟨h', s.toks, rfl, fun b o _ hb e => (hs'.2 b hb).trans e⟩

theorem fo_notD {s s' : Shared} {D : Addr} {o : Obj} (fo : Fo P s) (k : Keeps s s') (hD : s'.heap.get? D = some o) : Fo (fun b => P b ∧ b ≠ D) s' := fun b e => ⟨fo.later k b e, by rintro rfl; rw [hD] at e; cases e⟩

theorem rest_one {elt target iter ifs scope pos I C D sB s' acc nbd b f} {E : Value → Shared → Prop} (fo : Fo P sB) (hD : sB.heap.get? D = none) (hCD : C ≠ D) (cs : CS sB P C D acc s') (hsz : acc.length ≤ sizeLine)
    (L : Lc (fun b => P b ∧ b ≠ D) s'.heap (compEnvC scope [] C env) nbd)
    (ht : TsL prog w A (compEnvC scope [] C env) s' ifs b)
    (he : b = true → ∀ s'', Keeps s' s'' → Fo (fun b => P b ∧ b ≠ D) s'' → Lc (fun b => P b ∧ b ≠ D) s''.heap (compEnvC scope [] C env) nbd → Ev prog w (fun b => P b ∧ b ≠ D) A (compEnvC scope [] C env) s'' elt f) :
    wpAny (model prog w) A (restOne elt target iter ifs scope pos I D (compEnvC scope [] C env)) (fun fin s'' => fin = .again (.compLoop (.ListComp elt [⟨target, iter, ifs, 0⟩] scope pos) 0 (.ref I) (.ref D) (compEnvC scope [] C env)) ∧
      CS sB P C D (acc ++ if b then [f] else []) s'' ∧ KB C D s' s'') E s' := by
  unfold restOne
  refine wpAny_bind (wpAny_mono (ht s' E (keeps_refl _)) (fun ok s₁ x => ?_) fun _ _ x => x)
  obtain ⟨rfl, k₁⟩ := x
  cases ok with
  | false => exact wpAny_pure ⟨rfl, by simpa using cs.later k₁, .of k₁⟩
  | true =>
    have cs₁ := cs.later k₁
    obtain ⟨ys, ⟨n, hD1⟩, _⟩ := cs₁.lst
    have hev := he rfl s₁ k₁ (fo_notD fo cs₁.keep hD1) (L.keeps (keeps_get k₁))
    refine wpAny_bind (wpAny_bind (hev.use (keeps_refl _) fun v s₂ hv k₂ => wpAny_bind ((cs₁.later k₂).append hD hCD hv hsz fun s₃ cs₃ kb₃ => wpAny_pure (wpAny_pure ⟨rfl, ?_, ?_⟩))))
    · simpa using cs₃
    · exact (KB.of (keeps_trans k₁ k₂)).trans kb₃

theorem CS.done {sB : Shared} {C D : Addr} {acc} {s s' : Shared} (fo : Fo P sB) (hC : sB.heap.get? C = none) (hD : sB.heap.get? D = none) (x : CS sB P C D acc s) {h' : Heap} (hs : Heap.SameBut C s.heap h') :
    Has P h' (.list acc) (.ref D) ∧ Keeps sB { s with heap := h' } := by
  obtain ⟨m, hm⟩ := x.ns
  obtain ⟨ys, hys, ha⟩ := x.lst
  have k := KeepSeq.but hm hs
  refine ⟨has_list.mpr ⟨D, ys, rfl, fo _ hD, k.isList hys.isList, (ha.mono k).go fun b o xs n e _ p => ⟨e, p.1⟩⟩, ?_⟩
  exact keeps_change x.keep (X := fun b => b = C) (by rintro b rfl; exact hC) ⟨h', s.toks, rfl, fun b o hb e => (hs.2 b hb).trans e⟩
end
end Mine
end
section
open PySem PySem.W PyProof.Rows PySem.Calls PySem.Spec
set_option Elab.async false
set_option maxRecDepth 100000
set_option linter.all false
namespace Mine
section
variable {prog : Program} {w : World} {P : Addr → Prop} {A : Around} {env cenv : Env} {s : Shared} {F : List Addr}

def gOf (p : PyData → Bool) (f : PyData → PyData) (d : PyData) : List PyData := if p d then [f d] else []
theorem flatMap_gOf (p : PyData → Bool) (f : PyData → PyData) : ∀ ds : List PyData, ds.flatMap (gOf p f) = (ds.filter p).map f
  | [] => rfl
  | d :: ds => by
    rw [List.flatMap_cons, flatMap_gOf p f ds, List.filter_cons]
    unfold gOf
    cases p d <;> simp
theorem gOf_len (p : PyData → Bool) (f : PyData → PyData) (ds : List PyData) : (ds.flatMap (gOf p f)).length ≤ ds.length := by
  rw [flatMap_gOf, List.length_map]; exact List.length_filter_le _ _

structure CompOk (prog : Program) (w : World) (A : Around) (env : Env) (s : Shared) (scope : Scope) (target elt : Expr) (ifs : List Expr) (ds : List PyData) (nb : PyData → List (Str × PyData)) (p : PyData → Bool) (f : PyData → PyData) : Prop where
  tg : ∀ C, ∀ d ∈ ds, Tg prog w A (compEnvC scope [] C env) target d (nb d)
  ts : ∀ (P' : Addr → Prop) C s', Keeps s s' → ∀ d ∈ ds, Lc P' s'.heap (compEnvC scope [] C env) (nb d) → TsL prog w A (compEnvC scope [] C env) s' ifs (p d)
  el : ∀ (P' : Addr → Prop) C s', Keeps s s' → ∀ d ∈ ds, p d = true → Fo P' s' → Lc P' s'.heap (compEnvC scope [] C env) (nb d) → Ev prog w P' A (compEnvC scope [] C env) s' elt (f d)
theorem CompOk.later {scope target elt ifs ds nb p f} {s₁ : Shared} (x : CompOk prog w A env s scope target elt ifs ds nb p f) (k : Keeps s s₁) : CompOk prog w A env s₁ scope target elt ifs ds nb p f :=
  ⟨x.tg, fun P' C s' k' => x.ts P' C s' (keeps_trans k k'), fun P' C s' k' => x.el P' C s' (keeps_trans k k')⟩

theorem comp_one {elt target iter ifs scope pos ds nb p f} {E : Value → Shared → Prop} {RR : Value → Addr → Result → Shared → Prop} (hh : A.handled = none) (hcell : ∀ y ∈ scope.names, y.2 ≠ .cell) (hkind : scope.kind = .function)
    (he : Ev prog w P A env s iter (.list ds)) (fo : Fo P s) (hsz : ds.length ≤ sizeLine) (ok : CompOk prog w A env s scope target elt ifs ds nb p f)
    (hRR : ∀ C D sB s', Keeps s sB → sB.heap.get? C = none → sB.heap.get? D = none → C ≠ D → CS sB P C D ((ds.filter p).map f) s' → RR (.ref D) C (.ok .next) s') :
    wpAny (model prog w) A (eval iter env) (fun x s₁ => wpAny (model prog w) A (pyIter x) (fun it s₂ => wpAny (model prog w) A (newList []) (fun acc s₃ =>
      wpAny (model prog w) A (newFunctionEnv scope env.globals [] [] env.qual none .none (some env)) (fun cenv s₄ =>
        codeAny (model prog w) A (.compStart (.ListComp elt [⟨target, iter, ifs, 0⟩] scope pos) 0 it acc { cenv with scope := relabel scope env }) (RR acc cenv.locals) s₄) E s₃) E s₂) E s₁) E s := by
  refine comp_core (g := gOf p f) (nb := nb) (restOne elt target iter ifs scope pos) hh hcell hkind he ok.tg (fun _ _ _ => turn_one) ?_ ?_
  · intro I C D sB E s' acc d k hC hD hCD hd hz cs L
    have hz' : acc.length ≤ sizeLine := Nat.le_trans hz (Nat.le_trans (gOf_len p f ds) hsz)
    exact rest_one (fo.later k) hD hCD cs hz' L (ok.ts _ C s' (keeps_trans k cs.keep) d hd L) fun hb s'' k'' fo'' L'' => ok.el _ C s'' (keeps_trans k (keeps_trans cs.keep k'')) d hd hb fo'' L''
  · intro C D sB s' k hC hD hCD cs
    exact hRR C D sB s' k hC hD hCD (by rw [← flatMap_gOf]; exact cs)

/-- [elt for target in iter if ..] -/
theorem Ev.comp {elt target iter ifs scope pos ds nb p f} (hh : A.handled = none) (he : Ev prog w P A env s iter (.list ds)) (fo : Fo P s) (hsz : ds.length ≤ sizeLine) (ok : CompOk prog w A env s scope target elt ifs ds nb p f)
    (hcell : ∀ y ∈ scope.names, y.2 ≠ .cell := by decide) (hfree : ∀ y ∈ scope.names, y.2 ≠ .free := by decide) (hkind : scope.kind = .function := by rfl)
    (hnames : ∀ x ∈ scope.names, x.2 = .local → scope.names.lookup x.1 = some .local := by decide) (hs : ∀ x, foldedSetIterable iter env x = pure x := by intro _; rfl) :
    Ev prog w P A env s (.ListComp elt [⟨target, iter, ifs, 0⟩] scope pos) (.list ((ds.filter p).map f)) := fun s₁ E k => by
  rw [eval_ListComp]
  refine wpAny_comprehension_free (use := none) rfl hs (closureFor_none hfree) hkind hnames ?_
  refine comp_one (RR := fun acc C => compPost (model prog w) A E none _ acc C) hh hcell hkind (he.later k) (fo.later k) hsz (ok.later k) ?_
  intro C D sB s' k' hC hD hCD cs
  obtain ⟨m, hm⟩ := cs.ns
  refine ⟨m, hm, fun h' hs' => ?_⟩
  obtain ⟨a, b⟩ := cs.done (s' := s') ((fo.later k).later k') hC hD hs'
  exact ⟨a, keeps_trans k' b⟩

theorem Bd.compUse {s₀ : Shared} {ds' y py C D sB s' acc} {Q : Value → Shared → Prop} {E} (B : Bd F P s₀ env ds' s) (hk : EnvOk env) (fo : Fo P s) (kB : Keeps s sB) (hC : sB.heap.get? C = none) (hD : sB.heap.get? D = none) (hCD : C ≠ D)
    (cs : CS sB P C D acc s') (hy : env.kindOf y = some .local) (h : ∀ s'', Bd F P s₀ env ((y, .list acc) :: ds') s'' → Q .none s'') :
    compPost (model prog w) A E (some (PySem.assign (.Name y py) env)) Q (.ref D) C (.ok .next) s' := by
  show wpAny _ A (PySem.assign (.Name y py) env (.ref D)) _ _ _
  have B1 := (B.later kB).later cs.keep
  obtain ⟨mC, hmC⟩ := cs.ns
  obtain ⟨m, hn, hv⟩ := B1.lc
  have hLB : ∃ o, sB.heap.get? env.locals = some o := by
    obtain ⟨m0, ⟨o, es, ep, e, r⟩, _⟩ := (B.later kB).lc
    exact ⟨o, e⟩
  have hLC : env.locals ≠ C := by obtain ⟨o, e⟩ := hLB; rintro rfl; rw [hC] at e; cases e
  have hdat : Has P s'.heap (.list acc) (.ref D) := (cs.done (s' := s') (fo.later kB) hC hD (Heap.SameBut.refl ..)).1
  refine wpAny_assign_Name (wpAny_storeName_local hy hn (fun h₂ hn₂ hs₂ => ?_) (by rw [hk.kind]; rfl))
  refine ⟨mC, hmC.sameBut hs₂ (Ne.symm hLC), fun h₃ hs₃ => h _ ⟨?_, ?_, B.above⟩⟩
  · have k2 := kp_store (tk := s'.toks + 1) B1.keep B.above hs₂
    refine kp_change k2 (X := fun b => b = C) ?_ ⟨h₃, _, rfl, fun b o hb e => (hs₃.2 b hb).trans e⟩
    rintro b rfl
    cases q : s₀.heap.get? b with
    | none => rfl
    | some o =>
      obtain ⟨hh, tt, rfl, kk⟩ := B.keep
      obtain ⟨sl, e1⟩ := (kk b o q).2
      rw [keeps_get kB b _ e1] at hC; cases hC
  · obtain ⟨m₂, hm₂, hv₂⟩ := lc_store hn hv hdat hn₂ hs₂
    have kk := KeepSeq.but (hmC.sameBut hs₂ (Ne.symm hLC)) hs₃
    exact ⟨m₂, hm₂.sameBut hs₃ hLC, fun z d e => let ⟨v, e1, e2⟩ := hv₂ z d e; ⟨v, e1, e2.mono kk⟩⟩

/-- y = [elt for target in iter if ..]; rest -/
theorem Bd.letComp {s₀ : Shared} {ds' y py elt target iter ifs scope pos spos ds nb p f rest} {Q : Flow → Shared → Prop} {E} (B : Bd F P s₀ env ds' s) (hk : EnvOk env) (hh : A.handled = none) (he : Ev prog w P A env s iter (.list ds)) (fo : Fo P s)
    (hsz : ds.length ≤ sizeLine) (ok : CompOk prog w A env s scope target elt ifs ds nb p f)
    (h : ∀ s', Bd F P s₀ env ((y, .list ((ds.filter p).map f)) :: ds') s' → wpAny (model prog w) A (execs rest env) Q E s')
    (hcell : ∀ y ∈ scope.names, y.2 ≠ .cell := by decide) (hfree : ∀ y ∈ scope.names, y.2 ≠ .free := by decide) (hkind : scope.kind = .function := by rfl)
    (hnames : ∀ x ∈ scope.names, x.2 = .local → scope.names.lookup x.1 = some .local := by decide) (hs : ∀ x, foldedSetIterable iter env x = pure x := by intro _; rfl)
    (hsw : swapsWith (.ListComp elt [⟨target, iter, ifs, 0⟩] scope pos) (some (.Name y py)) spos.line env = pure true := by rfl) (hy : env.kindOf y = some .local := by rfl) :
    wpAny (model prog w) A (execs (.Assign [.Name y py] (.ListComp elt [⟨target, iter, ifs, 0⟩] scope pos) spos :: rest) env) Q E s := by
  refine seq1 (fun s' => Bd F P s₀ env ((y, .list ((ds.filter p).map f)) :: ds') s') ?_ h
  rw [exec_Assign_Name_used _ _ _ _ hsw]
  refine wpAny_bind (wpAny_standAt (wpAny_bind ?_))
  show wpAny _ A (do let _ ← comprehension (.ListComp elt [⟨target, iter, ifs, 0⟩] scope pos) scope env _ (newList []) false (eval iter env) (some (PySem.assign (.Name y py) env))) _ _ s
  refine wpAny_bind (wpAny_mono (wpAny_comprehension_free (use := some (PySem.assign (.Name y py) env)) (Q := fun _ s' => Bd F P s₀ env ((y, .list ((ds.filter p).map f)) :: ds') s') rfl hs (closureFor_none hfree) hkind hnames ?_) (fun _ s' hq => wpAny_pure (wpAny_pure ⟨rfl, hq⟩)) fun _ _ e => e)
  refine comp_one (RR := fun acc C => compPost (model prog w) A E (some (PySem.assign (.Name y py) env)) _ acc C) hh hcell hkind he fo hsz ok ?_
  intro C D sB s' k' hC hD hCD cs
  exact B.compUse hk fo k' hC hD hCD cs hy fun s'' x => x
end
end Mine
end
section
open PySem PySem.W PyProof.Rows PySem.Calls PySem.Spec
open Sem (wp)
set_option Elab.async false
set_option maxRecDepth 100000
set_option linter.all false
namespace Mine

/-- as codeAny and wpAny, but in contexts whose stack below is one of B -/
def codeB (B : List (Code × Pos) → Prop) (M : Model) (A : Around) (c : Code) (R : Result → Shared → Prop) (s : Shared) : Prop :=
  ∀ Γ p, Γ.code = c → B Γ.below → Γ.Below A → wpCode M Γ R p s
def wpB {α : Type} (B : List (Code × Pos) → Prop) (M : Model) (A : Around) (c : Code) (t : Sem α) (Q : α → Shared → Prop) (E : Value → Shared → Prop) (s : Shared) : Prop :=
  ∀ Γ p, Γ.code = c → B Γ.below → Γ.Below A → wp M Γ t (fun a _ s' => Q a s') (fun e _ s' => E e s') p s

section
variable {α β : Type} {B : List (Code × Pos) → Prop} {M : Model} {A : Around} {c : Code} {s : Shared} {E : Value → Shared → Prop}

theorem codeAny_of_codeB {R} (h : codeB (fun _ => True) M A c R s) : codeAny M A c R s := fun Γ p hc hΓ => h Γ p hc trivial hΓ
theorem codeB_of_codeAny {R} (h : codeAny M A c R s) : codeB B M A c R s := fun Γ p hc _ hΓ => h Γ p hc hΓ
theorem wpB_of {t : Sem α} {Q} (h : wpAny M (A.under c) t Q E s) : wpB B M A c t Q E s := fun Γ p hc _ hΓ => h Γ p (hc ▸ hΓ.in)
theorem wpB_pure {a : α} {Q : α → Shared → Prop} (h : Q a s) : wpB B M A c (pure a) Q E s := fun _ _ _ _ _ => h
theorem wpB_bind {m : Sem α} {f : α → Sem β} {Q} (h : wpB B M A c m (fun a s' => wpB B M A c (f a) Q E s') E s) : wpB B M A c (m >>= f) Q E s := fun Γ p hc hB hΓ => by
  rw [Sem.wp_bind']
  exact Sem.wp_mono M Γ m (fun a p' s' h' => h' Γ p' hc hB hΓ) (fun _ _ _ h' => h') p s (h Γ p hc hB hΓ)
theorem wpB_mono {t : Sem α} {Q Q'} {E'} (h : wpB B M A c t Q E s) (hQ : ∀ a s, Q a s → Q' a s) (hE : ∀ e s, E e s → E' e s) : wpB B M A c t Q' E' s :=
  fun Γ p hc hB hΓ => Sem.wp_mono M Γ t (fun a _ s => hQ a s) (fun e _ s => hE e s) p s (h Γ p hc hB hΓ)
theorem wpB_holding {vs : List Value} {m : Sem α} {Q} (h : wpB B M A c m Q E s) : wpB B M A c (holding vs m) Q E s := fun Γ p hc hB hΓ => by rw [Sem.wp_holding]; exact h Γ p hc hB hΓ
theorem wpB_call {f : Value} {pos : List Value} {kw : List (Str × Value)} {Q : Value → Shared → Prop}
    (hc : codeB (fun l => ∃ p b, l = (c, p) :: b ∧ B b) M (A.under c) (.call f ⟨pos, kw⟩) (fun r s' => match r with | .ok (.ret v) => Q v s' | .ok _ => False | .error e => E e s') s) :
    wpB B M A c (call f pos kw) Q E s := fun Γ p hcd hB hΓ => by
  show wp M Γ (runValue (.call f ⟨pos, kw⟩)) _ _ p s
  rw [Sem.wp_runValue]
  have hin : Γ.In (A.under c) := hcd ▸ hΓ.in
  exact hc _ p rfl ⟨p, Γ.below, by rw [← hcd]; rfl, hB⟩ (hin.enter _ none p (by intro x; cases x))
theorem codeB_tree {R} (h : wpB B M A c (M.den c) (fun fin s' => match fin with | .done f => R (.ok f) s' | .again c' => c'.quiet = true ∧ codeB B M A c' R s') (fun e s' => R (.error e) s') s) : codeB B M A c R s := fun Γ p hc hB hΓ => by
  rw [wpCode_iff_wp, hc]
  refine Sem.wp_mono M Γ _ (fun fin p' s' h' => ?_) (fun _ _ _ h' => h') p s (h Γ p hc hB hΓ)
  cases fin with
  | done f => exact h'
  | again c' => exact ⟨h'.1, h'.2 (Γ.goto c') p' rfl hB (hΓ.goto c')⟩
theorem codeB_mono {R R'} (h : codeB B M A c R s) (hR : ∀ r s, R r s → R' r s) : codeB B M A c R' s := fun Γ p hc hB hΓ => wpCode_mono hR (h Γ p hc hB hΓ)

/-- a built-in that is not python's own call stands between -/
def Between (l : List Code) : Prop := ∃ pre args post, l = pre ++ Code.builtin "map.__next__" args :: post ∧ ∀ c ∈ pre, c.env?.isNone = true
theorem between_cons {c : Code} {l : List Code} (hc : c.env?.isNone = true) (h : Between l) : Between (c :: l) := by
  obtain ⟨pre, args, post, rfl, hp⟩ := h
  refine ⟨c :: pre, args, post, rfl, ?_⟩
  intro x hx
  rcases List.mem_cons.mp hx with rfl | hx
  · exact hc
  · exact hp x hx
theorem not_python {l : List Code} (h : Between l) : pythonCodeMadeTheCall ["int.__new__"] l = false := by
  obtain ⟨pre, args, post, rfl, hp⟩ := h
  have e : ((pre ++ Code.builtin "map.__next__" args :: post).takeWhile (·.env?.isNone)).all (fun c => match c with
      | .call .. => true
      | .builtin id a => ["int.__new__"].contains id || (id == "type.__call__" && (match a.pos.head? with
        | some (.ref _) => true
        | some (.type n) => ["int.__new__"].contains (n ++ ".__new__")
        | _ => false))
      | _ => false) = false := by
    rw [List.all_eq_false]
    refine ⟨Code.builtin "map.__next__" args, ?_, ?_⟩
    · rw [List.takeWhile_append_of_pos (fun c hc => hp c hc)]
      refine List.mem_append_right _ ?_
      rw [List.takeWhile_cons_of_pos (by rfl)]
      exact List.mem_cons_self
    · show ¬ ((["int.__new__"].contains "map.__next__" || ("map.__next__" == "type.__call__" && _)) = true)
      rw [show ["int.__new__"].contains "map.__next__" = false by decide, show ("map.__next__" == "type.__call__") = false by decide]
      simp
  unfold pythonCodeMadeTheCall
  rw [Bool.and_eq_false_iff]
  exact .inr e

theorem wpB_mark {e : Value} {Q : Unit → Shared → Prop} (hcl : c.env?.isNone = true) (hB : ∀ l, B l → Between (l.map (·.1))) (h : Q () s) : wpB B M A c (markTheRefusal ["int.__new__"] e) Q E s := fun Γ p hc hb hΓ => by
  have e1 : pythonCodeMadeTheCall ["int.__new__"] (((Γ.code, p) :: Γ.below).map (·.1)) = false := not_python (between_cons (by rw [hc]; exact hcl) (hB _ hb))
  unfold markTheRefusal
  rw [Sem.wp_bind']
  show wp M Γ (if pythonCodeMadeTheCall ["int.__new__"] (((Γ.code, p) :: Γ.below).map (·.1)) = true then _ else _) _ _ p s
  rw [if_neg (by rw [e1]; exact Bool.false_ne_true)]
  exact h
end
end Mine
end
section
open PySem PySem.W PyProof.Rows PySem.Calls PySem.Spec PySem.NumText
open Sem (wp)
set_option Elab.async false
set_option maxRecDepth 100000
set_option linter.all false
set_option maxHeartbeats 4000000
namespace Mine

/-- a text of plain signs, not long -/
def Tx (x : Str) : Prop := x.length ≤ 640 ∧ ∀ c ∈ x.cps.toList, c < 128
theorem Tx.repr {x : Str} (h : Tx x) : (reprText x).length ≤ sizeLine := by
  have := StrLaws.reprText_len x fun c hc => Nat.lt_of_lt_of_le (h.2 c hc) (by decide)
  have := h.1
  rw [sizeLine_eq]; omega

section
variable {B : List (Code × Pos) → Prop} {prog : Program} {w : World} {A : Around} {c : Code} {s : Shared} {E : Value → Shared → Prop}

theorem wpB_ite_true {α : Type} {b : Prop} [Decidable b] {x y : Sem α} {Q} (hb : b) (h : wpB B (model prog w) A c x Q E s) : wpB B (model prog w) A c (if b then x else y) Q E s := by rw [if_pos hb]; exact h
theorem wpB_ite_false {α : Type} {b : Prop} [Decidable b] {x y : Sem α} {Q} (hb : ¬ b) (h : wpB B (model prog w) A c y Q E s) : wpB B (model prog w) A c (if b then x else y) Q E s := by rw [if_neg hb]; exact h

theorem refuse_tail {x : Str} {u : Tok} {Q : Value → Shared → Prop} (hh : (A.under c).handled = none) (hcl : c.env?.isNone = true) (hB : ∀ l, B l → Between (l.map (·.1))) (hx : Tx x)
    (hE : ∀ h' tk e, Heap.NewExc s.heap h' e "ValueError" → E (.ref e) { s with heap := h', toks := tk }) :
    wpB B (model prog w) A c (do
      rule "int.__new__.invalid-literal"
      let shown ← match ← (int_private% "bytesOf?") (.str x u) with
        | some b => pyRepr (← mkBytes (b.extract 0 200))
        | none => pyRepr (.str x u)
      let refusal ← newExc (.type "ValueError") [← mkStr (((s!"invalid literal for int() with base {10}: " : String) ++ ⟨shown.cps.extract 0 200⟩ : Str))]
      markTheRefusal ["int.__new__"] refusal
      raiseNew refusal) Q E s := by
  refine wpB_bind (wpB_of (wpAny_rule ?_))
  refine wpB_bind (wpB_of (wpAny_pure ?_))
  refine wpB_bind (wpB_of (wpAny_pyRepr_str ?_ hx.repr))
  refine wpB_bind (wpB_of (wpAny_mkStr ?_ ?_))
  · refine wpB_bind (wpB_of (wpAny_newExc_plain plainExc_ValueError fun h' e hm => ?_))
    refine wpB_bind (wpB_mark hcl hB ?_)
    exact wpB_of (wpAny_raiseNew_none hh (hE h' _ e hm.newExc))
  · refine Nat.le_trans (Nat.le_of_eq (Str.length_append _ _)) ?_
    have e1 : (Str.ofString (toString "invalid literal for int() with base " ++ toString 10 ++ toString ": ")).length ≤ 1000 := by decide +kernel
    have e2 : (⟨(reprText x).cps.extract 0 200⟩ : Str).length ≤ 200 := by
      show ((reprText x).cps.extract 0 200).size ≤ 200
      rw [Array.size_extract]; omega
    rw [sizeLine_eq]
    exact Nat.le_trans (Nat.add_le_add e1 e2) (by decide)


theorem text_refuses {x : Str} {u : Tok} {Q : Value → Shared → Prop} (hh : (A.under c).handled = none) (hcl : c.env?.isNone = true) (hB : ∀ l, B l → Between (l.map (·.1))) (hx : Tx x) (hn : PySem.intText? x = none)
    (hE : ∀ h' tk e, Heap.NewExc s.heap h' e "ValueError" → E (.ref e) { s with heap := h', toks := tk }) :
    wpB B (model prog w) A c ((int_private% "intFromText") (.str x u) (numTextOf x) 10) Q E s := by
  have hs : (numSeenOf x).length ≤ 640 := Nat.le_trans (seen_length x) hx.1
  have tail := refuse_tail (prog := prog) (w := w) (u := u) (Q := Q) hh hcl hB hx hE
  obtain ⟨hp, g, d, tk, os⟩ := s
  refine wpB_ite_true hs (wpB_bind (wpB_of (wpAny_pure ?_)))
  rcases read0 x hs with ⟨n, h1, _⟩ | ⟨_, hr | ⟨i, hr, ha⟩⟩
  · rw [hn] at h1; cases h1
  · dsimp only
    rw [hr]
    dsimp only
    refine wpB_bind (wpB_of (wpAny_pure ?_))
    exact wpB_ite_false (by simp) tail
  · dsimp only
    rw [hr]
    dsimp only
    exact wpB_ite_false ha tail

/-- int.__new__ on a text that is no number -/
theorem new_refuses {x : Str} {u : Tok} {Q : PySem.Fin → Shared → Prop} (hh : (A.under c).handled = none) (hcl : c.env?.isNone = true) (hB : ∀ l, B l → Between (l.map (·.1))) (hx : Tx x) (hn : PySem.intText? x = none)
    (hE : ∀ h' tk e, Heap.NewExc s.heap h' e "ValueError" → E (.ref e) { s with heap := h', toks := tk }) :
    wpB B (model prog w) A c (Builtin.«int.__new__» ⟨[.type "int", .str x u], []⟩) Q E s := by
  have f1 := PySem.F.conv_sub_int
  have f2 := PySem.F.madeHere_int
  have f3 := KIN.str_int
  have f4 := KIN.str_idx
  have f5 := KIN.str_trunc
  have f6 : typeOf (.str x u) = pure (.type "str") := rfl
  have g1 := KIN.Hid.mk hx
  have g2 := KIN.Hid.mk hn
  have g3 := KIN.Hid.mk hE
  have g4 := KIN.Hid.mk hB
  have g5 := KIN.Hid.mk hcl
  have g6 := KIN.Hid.mk hh
  clear hx hn hE hB hcl hh
  obtain ⟨hp, g, d, tk, os⟩ := s
  refine wpB_bind (wpB_of ?_)
  repeat (any_goals (first | assumption | wp_step))
  refine wpB_bind (wpB_of ?_)
  repeat (any_goals (first | assumption | wp_step))
  refine wpB_bind (wpB_of ?_)
  repeat (any_goals (first | assumption | wp_step))
  refine wpB_bind (wpB_of ?_)
  repeat (any_goals (first | assumption | wp_step))
  refine wpB_bind ?_
  refine wpB_bind (wpB_of ?_)
  repeat (any_goals (first | assumption | wp_step))
  refine wpB_bind (wpB_of ?_)
  repeat (any_goals (first | assumption | wp_step))
  refine wpB_bind (wpB_of ?_)
  repeat (any_goals (first | assumption | wp_step))
  refine wpB_bind (wpB_of ?_)
  repeat (any_goals (first | assumption | wp_step))
  exact text_refuses g6.out g5.out g4.out g1.out g2.out g3.out

end
end Mine
end
section
open PySem PySem.W PyProof.Rows PySem.Calls PySem.Spec PySem.NumText
open Sem (wp)
set_option Elab.async false
set_option maxRecDepth 100000
set_option linter.all false
set_option maxHeartbeats 4000000
namespace Mine
section
variable {B : List (Code × Pos) → Prop} {prog : Program} {w : World} {A : Around} {c : Code} {s : Shared} {E : Value → Shared → Prop}
theorem codeB_builtin {id : String} {args : Args} {b : Builtin} {R : Result → Shared → Prop} (hb : entryFor table id = some b)
    (h : wpB B (model prog w) A (.builtin id args) (b args) (fun fin s' => match fin with | .done f => R (.ok f) s' | .again c' => c'.quiet = true ∧ codeB B (model prog w) A c' R s') (fun e s' => R (.error e) s') s) :
    codeB B (model prog w) A (.builtin id args) R s := by
  refine codeB_tree ?_
  show wpB _ _ _ _ (match entryFor table id with | some b => b args | none => unsupported ((withoutEnding? id "#data").getD id)) _ _ s
  rw [hb]; exact h
theorem codeB_call_builtin {id : String} {args : Args} {R : Result → Shared → Prop} (hc : checkBuiltinCall id args = pure ()) (hq : (Code.builtin id args).quiet = true) (h : codeB B (model prog w) A (.builtin id args) R s) :
    codeB B (model prog w) A (.call (.builtin id) args) R s := by
  refine codeB_tree ?_
  show wpB _ _ _ _ (checkBuiltinCall id args >>= fun _ => again (.builtin id args)) _ _ s
  exact wpB_bind (wpB_of (wpAny_of_eq hc (wpB_pure ⟨hq, h⟩)))
theorem codeB_call_type {T : String} {args : List Value} {R : Result → Shared → Prop} (h : codeB B (model prog w) A (.builtin "type.__call__" ⟨.type T :: args, []⟩) R s) :
    codeB B (model prog w) A (.call (.type T) ⟨args, []⟩) R s :=
  codeB_tree (wpB_pure ⟨Code.quiet_builtin _ (by decide +kernel), h⟩)

/-- int(text) called where map.__next__ stands between -/
theorem codeB_int_refuses {x : Str} {u : Tok} {R : Result → Shared → Prop} (hh : A.handled = none) (hB : ∀ l, B l → Between (l.map (·.1))) (hx : Tx x) (hn : PySem.intText? x = none)
    (hR : ∀ h' tk e, Heap.NewExc s.heap h' e "ValueError" → R (.error (.ref e)) { s with heap := h', toks := tk }) :
    codeB B (model prog w) A (.call (.type "int") ⟨[.str x u], []⟩) R s := by
  refine codeB_call_type (codeB_builtin PySem.F.entry_type_call ?_)
  obtain ⟨c0, tl, f0⟩ := PySem.F.called_int.mro
  have f1 := PySem.F.called_int.made
  have f2 := PySem.F.typeCall_int_1 (.str x u)
  have f3 := PySem.F.called_int.canCreate
  have f4 := PySem.F.called_int.notType
  have g1 := KIN.Hid.mk hx
  have g2 := KIN.Hid.mk hn
  have g3 := KIN.Hid.mk hR
  have g4 := KIN.Hid.mk hB
  have g6 := KIN.Hid.mk hh
  clear hx hn hR hB hh
  obtain ⟨hp, g, d, tk, os⟩ := s
  unfold Builtin.«type.__call__»
  dsimp only
  simp only [f4, Bool.false_eq_true, if_false]
  rw [if_neg (by rw [f3]; exact Bool.false_ne_true)]
  refine wpB_bind (wpB_of (wpAny_of_eq f2 ?_))
  refine wpB_bind (wpB_of (wpAny_of_eq f0 ?_))
  refine wpB_ite_false (by simp) ?_
  refine wpB_bind (wpB_of (wpAny_of_eq f1 ?_))
  dsimp only
  refine wpB_bind (wpB_pure ?_)
  refine wpB_bind (wpB_holding (wpB_call ?_))
  refine codeB_call_builtin (PySem.F.newCall_int_1 _) (plainId_quiet PySem.F.called_int.plain _) (codeB_builtin PySem.F.entry_int_new ?_)
  refine new_refuses g6.out rfl ?_ g1.out g2.out g3.out
  rintro l ⟨p, b, rfl, hb⟩
  exact between_cons rfl (g4.out b hb)
end
end Mine
end
section
open PySem PySem.W PyProof.Rows PySem.Calls PySem.Spec PySem.NumText
open Sem (wp)
set_option Elab.async false
set_option maxRecDepth 100000
set_option linter.all false
set_option maxHeartbeats 4000000
namespace Mine
/-! map objects -/
theorem slot_map_next : Slot "map" "__next__" "map.__next__" :=
  .of (owner := "map") (n := "__next__") (by rw [typeLookup_type, builtinLookup_eq_fast]; kernel_rfl) (by decide +kernel) (by decide +kernel) (by decide +kernel)
    (by first | exact .inl (by decide +kernel) | exact .inr (by decide +kernel)) (by rw [isSubtype_type]; kernel_rfl)
theorem slot_map_iter : Slot "map" "__iter__" "map.__iter__" :=
  .of (owner := "map") (n := "__iter__") (by rw [typeLookup_type, builtinLookup_eq_fast]; kernel_rfl) (by decide +kernel) (by decide +kernel) (by decide +kernel)
    (by first | exact .inl (by decide +kernel) | exact .inr (by decide +kernel)) (by rw [isSubtype_type]; kernel_rfl)
theorem slot_map_init : Slot "map" "__init__" "object.__init__" :=
  .of (owner := "object") (n := "__init__") (by rw [typeLookup_type, builtinLookup_eq_fast]; kernel_rfl) (by decide +kernel) (by decide +kernel) (by decide +kernel)
    (by first | exact .inl (by decide +kernel) | exact .inr (by decide +kernel)) (by rw [isSubtype_type]; kernel_rfl)
theorem entry_map_next : entryFor table "map.__next__" = some Builtin.«map.__next__» := entryFor_of_tree (by kernel_rfl)
theorem entry_map_iter : entryFor table "map.__iter__" = some Builtin.«dict_keyiterator.__iter__» :=
  entryFor_alias (id' := "dict_keyiterator.__iter__") (by kernel_rfl) (by first | rfl | decide +kernel | (unfold String.splitOn; simp +decide [String.splitOnAux])) (by decide +kernel) (by kernel_rfl)
theorem entry_map_new : entryFor table "map.__new__" = some Builtin.«map.__new__» := entryFor_of_tree (by kernel_rfl)
theorem owner_map : Manifest.owners.lookup (String.ofList ['p', 'a', 'm'].reverse) = some Manifest.sig_map := by kernel_rfl
theorem args_map_next (a : Value) : argsOk "map.__next__" ⟨[a], []⟩ := by
  unfold argsOk; rw [signature?_of (id := "map.__next__") (n := ['_', '_', 't', 'x', 'e', 'n', '_', '_']) (o := ['p', 'a', 'm']) (by kernel_rfl) owner_map]; kernel_rfl
theorem args_map_iter (a : Value) : argsOk "map.__iter__" ⟨[a], []⟩ := by
  unfold argsOk; rw [signature?_of (id := "map.__iter__") (n := ['_', '_', 'r', 'e', 't', 'i', '_', '_']) (o := ['p', 'a', 'm']) (by kernel_rfl) owner_map]; kernel_rfl
theorem mro_map : mroOf (.type "map") = pure [.type "map", .type "object"] := by rw [mroOf_type]; kernel_rfl
theorem lookup_map_new : typeLookup (.type "map") "__new__" = pure (some (.builtin "map.__new__")) := by rw [typeLookup_type, builtinLookup_eq_fast]; kernel_rfl
theorem called_map : TypeCalled "map" "map.__new__" "object.__init__" :=
  ⟨by decide +kernel, by decide +kernel, ⟨_, _, mro_map⟩, madeBy_type mro_map lookup_map_new (by decide +kernel), by decide +kernel, by rw [isSubtype_type]; kernel_rfl, slot_map_init⟩
theorem typeCall_map (a b : Value) : checkTypeCall "map" ⟨[a, b], []⟩ = pure () := by kernel_rfl
theorem newCall_map (a b : Value) : checkBuiltinCall "map.__new__" ⟨[.type "map", a, b], []⟩ = pure () := by kernel_rfl
theorem no_len_map : typeLookup (.type "map") "__len__" = pure none := by rw [typeLookup_type, builtinLookup_eq_fast]; kernel_rfl
theorem no_hint_map : typeLookup (.type "map") "__length_hint__" = pure none := by rw [typeLookup_type, builtinLookup_eq_fast]; kernel_rfl

/-- a map object over one iterator -/
def MapAt (h : Heap) (M T I : Addr) (f : Value) : Prop :=
  h.get? M = some { cls := .type "map", data := .fields #[.ref T, f] } ∧ h.get? T = some { cls := .type "tuple", data := .seq #[.ref I] }
theorem MapAt.typeIs {s : Shared} {M T I f} (h : MapAt s.heap M T I f) : s.TypeIs (.ref M) "map" := ⟨_, h.1, rfl⟩

section
variable {prog : Program} {w : World} {A : Around} {E : Value → Shared → Prop} {s : Shared}

theorem pyIter_map {M T I f} {Q : Value → Shared → Prop} (hm : MapAt s.heap M T I f) (h : Q (.ref M) s) : wpAny (model prog w) A (pyIter (.ref M)) Q E s := by
  refine wpAny_pyIter_slot hm.typeIs slot_map_iter (wpAny_call_entry slot_map_iter hm.typeIs entry_map_iter ?_ (args_map_iter _))
  show wpAny _ _ (ret (.ref M)) _ _ s
  exact wpAny_pure ⟨_, rfl, "map", _, hm.typeIs, slot_map_next.lookup, h⟩

/-- map(f, v) -/
theorem call_map {f v : Value} {Q : Value → Shared → Prop}
    (hi : wpAny (model prog w) A.in1.in1 (pyIter v) (fun it s₁ => ∃ I, it = .ref I ∧
      ∀ h', MapAt h' (s₁.heap.objs.size + 1) s₁.heap.objs.size I f → (∀ b o, s₁.heap.get? b = some o → h'.get? b = some o) → h'.objs.size = s₁.heap.objs.size + 2 →
        Q (.ref (s₁.heap.objs.size + 1)) { s₁ with heap := h' }) E s) :
    wpAny (model prog w) A (call (.type "map") [f, v]) Q E s := by
  refine callType_codes (Q₁ := fun obj s₁ => s₁.TypeIs obj "map" ∧ Q obj s₁) called_map (typeCall_map _ _) F.entry_object_init ?_ fun obj s₁ hq => ⟨hq.1, F.args_object_init_3 _ _ _, ?_⟩
  · refine codeAny_call_builtin called_map.plain entry_map_new (wpAny_of_eq (newCall_map _ _) ?_)
    have hsub := called_map.sub
    unfold Builtin.«map.__new__» Builtin.SmallTypes.newClass Builtin.SmallTypes.refuseKeywords
    dsimp only
    refine wpAny_bind (wpAny_bind (wpAny_of_eq (a := true) (by rfl) ?_))
    refine wpAny_bind (wpAny_of_eq hsub (wpAny_pure ?_))
    refine wpAny_bind (wpAny_pure ?_)
    show wpAny _ _ (do
      let a ← Builtin.SmallTypes.iterAll [v]
      let b ← newTuple a
      let c ← Builtin.SmallTypes.newRecord (.type "map") [b, f]
      ret c) _ _ _
    refine wpAny_bind ?_
    unfold Builtin.SmallTypes.iterAll
    simp only [List.forIn_cons, List.forIn_nil]
    refine wpAny_bind (wpAny_bind (wpAny_bind (wpAny_holding (wpAny_mono hi (fun it s₁ h => ?_) fun _ _ x => x))))
    obtain ⟨I, rfl, h⟩ := h
    refine wpAny_pure (wpAny_pure (wpAny_pure ?_))
    refine wpAny_bind (wpAny_newObj_type (T := "tuple") (data := .seq #[.ref I]) ?_ (by show 1 ≤ sizeLine; rw [sizeLine_eq]; decide))
    refine wpAny_bind (wpAny_newObj_type (T := "map") (data := .fields #[.ref s₁.heap.objs.size, f]) ?_)
    have hz : ∀ o, (s₁.heap.push o).objs.size = s₁.heap.objs.size + 1 := fun o => Heap.size_push ..
    refine wpAny_pure ⟨⟨_, Heap.get?_push_size _ rfl, rfl⟩, ?_⟩
    rw [hz]
    refine h _ ⟨?_, ?_⟩ (fun b o e => Heap.get?_push_of_some _ (Heap.get?_push_of_some _ e)) (by rw [Heap.size_push, hz])
    · have := Heap.get?_push_size (s₁.heap.push { cls := .type "tuple", data := .seq #[.ref I] }) (o := { cls := .type "map", data := .fields #[.ref s₁.heap.objs.size, f] }) rfl
      rw [hz] at this; exact this
    · exact Heap.get?_push_of_some _ (Heap.get?_push_size _ rfl)
  · exact object_init_meets called_map.init.lookup called_map.made (by decide) prog w A.in1 _ s₁ ⟨hq.1, rfl, hq.2⟩
end
end Mine
end
section
open PySem PySem.W PyProof.Rows PySem.Calls PySem.Spec PySem.NumText
open Sem (wp)
set_option Elab.async false
set_option maxRecDepth 100000
set_option linter.all false
set_option maxHeartbeats 4000000
namespace Mine
section
variable {prog : Program} {w : World} {A : Around} {s : Shared}

/-- the iterator at I gives a value by Q, or raises by E -/
def Nx (prog : Program) (w : World) (A : Around) (I : Addr) (Q : Value → Shared → Prop) (E : Value → Shared → Prop) (s : Shared) : Prop :=
  wpAny (model prog w) A (callSpecial? (.ref I) "__next__") (fun r s' => ∃ v, r = some v ∧ Q v s') E s

theorem Nx.mono {I Q E Q' E'} (x : Nx prog w A I Q E s) (h : ∀ v s', Q v s' → Q' v s') (h' : ∀ v s', E v s' → E' v s') : Nx prog w A I Q' E' s :=
  wpAny_mono x (fun r s' ⟨v, e, q⟩ => ⟨v, e, h v s' q⟩) h'

theorem Nx.nextOf {I Q E} (x : Nx prog w A I Q E s) : wpAny (model prog w) A (Builtin.SmallTypes.nextOf (.ref I)) Q E s := by
  unfold Builtin.SmallTypes.nextOf
  refine wpAny_bind (wpAny_mono x (fun r s' h => ?_) fun _ _ h => h)
  obtain ⟨v, rfl, h⟩ := h
  exact wpAny_pure h

theorem nx_list_item {it l : Addr} {i : Nat} {items} {x : Value} {Q E} (hit : s.heap.IsListIter it l i)
    (hl : s.heap.IsList l items) (hx : items[i]? = some x)
    (hQ : ∀ h', h'.IsListIter it l (i + 1) → Heap.SameBut it s.heap h' → Q x { s with heap := h' }) : Nx prog w A it Q E s := by
  obtain ⟨o, ho, hc, hd⟩ := id hit
  obtain ⟨ol, hol, _, nl, hdl⟩ := hl
  refine wpAny_callSpecial?_slot (name := Str.ofString "__next__") hit.typeIs slot_listiter_next
    (wpAny_call_entry slot_listiter_next hit.typeIs entry_listiter_next ?_ (args_listiter_next _))
  show wpAny _ _ (field (.ref it) 0 >>= _) _ _ s
  refine wpAny_bind (wpAny_field ho hd (x := .ref l) rfl ?_)
  show wpAny _ _ (if (Value.ref l == Value.none) = true then _ else _) _ _ s
  rw [if_neg (show ¬ ((Value.ref l == Value.none) = true) from Bool.false_ne_true)]
  show wpAny _ _ (field (.ref it) 1 >>= _) _ _ s
  refine wpAny_bind (wpAny_field ho hd (x := .int i 0) rfl ?_)
  show wpAny _ _ (seqItems? (.ref l) >>= _) _ _ s
  refine wpAny_bind (wpAny_seqItems hol hdl ?_)
  simp only [Int.toNat_natCast, hx]
  refine wpAny_bind (wpAny_setField ho hd (by simp) (wpAny_pure ⟨x, rfl, x, rfl, (hQ _ ?_ (Heap.SameBut.update ..))⟩))
  exact ⟨_, Heap.get?_update_self _ ho (Obj.isFreed_of_fields (Obj.data_mapFields hd _)), (Obj.cls_mapFields ..).trans hc, by
    rw [Obj.data_mapFields hd]; simp [rawInt]⟩

theorem nx_list_end {it l : Addr} {i : Nat} {items} {Q E} (hh : A.handled = none)
    (hit : s.heap.IsListIter it l i) (hl : s.heap.IsList l items) (hx : items[i]? = none)
    (hE : ∀ h' e, Heap.ExtBut it s.heap h' → (Shared.TypeIs { s with heap := h' } e "StopIteration") → E e { s with heap := h' }) : Nx prog w A it Q E s := by
  obtain ⟨o, ho, hc, hd⟩ := id hit
  obtain ⟨ol, hol, _, nl, hdl⟩ := hl
  refine (wpAny_callSpecial?_slot (name := Str.ofString "__next__") hit.typeIs slot_listiter_next
    (wpAny_call_entry slot_listiter_next hit.typeIs entry_listiter_next ?_ (args_listiter_next _)))
  show wpAny _ _ (field (.ref it) 0 >>= _) _ _ s
  refine wpAny_bind (wpAny_field ho hd (x := .ref l) rfl ?_)
  show wpAny _ _ (if (Value.ref l == Value.none) = true then _ else _) _ _ s
  rw [if_neg (show ¬ ((Value.ref l == Value.none) = true) from Bool.false_ne_true)]
  show wpAny _ _ (field (.ref it) 1 >>= _) _ _ s
  refine wpAny_bind (wpAny_field ho hd (x := .int i 0) rfl ?_)
  show wpAny _ _ (seqItems? (.ref l) >>= _) _ _ s
  refine wpAny_bind (wpAny_seqItems hol hdl ?_)
  simp only [Int.toNat_natCast, hx]
  refine wpAny_bind (wpAny_rule (wpAny_bind (wpAny_setField ho hd (by simp) ?_)))
  show wpAny _ _ (newExc (.type "StopIteration") [] >>= _) _ _ _
  refine wpAny_bind ?_
  simp only [newExc, newTuple]
  refine wpAny_bind (wpAny_newObj_type ?_ (by size_fits))
  refine wpAny_bind (m := firstArgMember _ _) (wpAny_of_eq (a := Value.none) (by first | rfl | (simp only [firstArgMember]; rfl)) ?_)
  refine wpAny_newObj_type ?_ (by size_fits)
  simp only [raiseNew]
  refine wpAny_bind (wpAny_handled ?_)
  rw [show A.in1.handled = none from hh]
  refine wpAny_bind (wpAny_pure (wpAny_throw ?_))
  exact hE _ _ (((Heap.SameBut.update ..).extBut.push _).push _) ⟨_, Heap.get?_push_size _ rfl, rfl⟩

/-- the stack right below is map.__next__ -/
def UnderMap (l : List (Code × Pos)) : Prop := ∃ args p b, l = (Code.builtin "map.__next__" args, p) :: b
theorem UnderMap.between {l : List (Code × Pos)} (h : UnderMap l) : Between (l.map (·.1)) := by
  obtain ⟨args, p, b, rfl⟩ := h
  exact ⟨[], args, b.map (·.1), rfl, by intro c hc; cases hc⟩

theorem nx_map {M T I f} {Q E} (hm : MapAt s.heap M T I f)
    (hn : Nx prog w A.in1 I (fun v s' => s'.heap.get? M = s.heap.get? M ∧
      (wpAny (model prog w) A.in1 (call f [v]) Q E s' ∨ codeB UnderMap (model prog w) A.in1 (.call f ⟨[v], []⟩) (wants Q E) s')) E s) : Nx prog w A M Q E s := by
  refine (wpAny_callSpecial?_slot (name := Str.ofString "__next__") hm.typeIs slot_map_next (wpAny_call (codeAny_of_codeB (codeB_tree ?_))))
  show wpB _ _ _ _ (checkBuiltinCall "map.__next__" ⟨[.ref M], []⟩ >>= fun _ => again (.builtin "map.__next__" ⟨[.ref M], []⟩)) _ _ s
  refine wpB_bind (wpB_of (slot_map_next.check _ _ _ _ _ _ _ _ hm.typeIs (args_map_next _) (wpB_pure ⟨plainId_quiet slot_map_next.plain _, codeB_builtin entry_map_next ?_⟩)))
  have hu : A.under (.builtin "map.__next__" ⟨[.ref M], []⟩) = A.in1 := Around.under_plainId slot_map_next.plain _
  show wpB _ _ _ _ (field (.ref M) 0 >>= fun t => seqItems? t >>= _) _ _ s
  refine wpB_bind (wpB_of (wpAny_field hm.1 rfl (x := .ref T) rfl ?_))
  refine wpB_bind (wpB_of (wpAny_seqItems hm.2 rfl ?_))
  dsimp only
  simp only [List.forIn_toArray, List.forIn_cons, List.forIn_nil]
  refine wpB_bind (wpB_bind (wpB_bind (wpB_holding (wpB_of (hu.symm ▸ wpAny_mono hn.nextOf (fun v s₁ h => ?_) fun _ _ h => h)))))
  refine wpB_pure (wpB_pure ?_)
  refine wpB_bind (wpB_of (wpAny_field (h.1.trans hm.1) rfl (x := f) rfl ?_))
  have h2 := h.2
  rcases h2 with h2 | h2
  · refine wpB_bind (wpB_holding (wpB_of (hu.symm ▸ wpAny_mono h2 (fun u s₂ hr => ?_) fun _ _ h => h)))
    exact wpB_bind (wpB_of (wpAny_letGo (wpB_pure ⟨u, rfl, hr⟩)))
  refine wpB_bind (wpB_holding (wpB_call ?_))
  rw [hu]
  have hb : codeB (fun l => ∃ p b, l = (Code.builtin "map.__next__" ⟨[.ref M], []⟩, p) :: b ∧ True) (model prog w) A.in1 (.call f ⟨[v], []⟩) (wants Q E) s₁ :=
    fun Γ p hc ⟨p', b, e, _⟩ hΓ => h2 Γ p hc ⟨_, p', b, e⟩ hΓ
  refine codeB_mono hb fun r s₂ hr => ?_
  cases r with
  | error e => exact hr
  | ok fl =>
    cases fl with
    | ret u =>
      refine wpB_bind (wpB_of (wpAny_letGo (wpB_pure ?_)))
      exact ⟨u, rfl, hr⟩
    | _ => exact hr.elim
end
end Mine
end
section
open PySem PySem.W PyProof.Rows PySem.Calls PySem.Spec PySem.NumText
open Sem (wp)
set_option Elab.async false
set_option maxRecDepth 100000
set_option linter.all false
set_option maxHeartbeats 4000000
namespace Mine
/-- nothing changed but at the places of X -/
def KX (X : Addr → Prop) (s s' : Shared) : Prop := ∃ h' tk, s' = { s with heap := h', toks := tk } ∧ ∀ b o, ¬ X b → s.heap.get? b = some o → h'.get? b = some o
theorem KX.refl (X : Addr → Prop) (s : Shared) : KX X s s := ⟨s.heap, s.toks, rfl, fun _ _ _ e => e⟩
theorem KX.trans {X : Addr → Prop} {a b c : Shared} (x : KX X a b) (y : KX X b c) : KX X a c := by
  obtain ⟨h, t, rfl, k⟩ := x
  obtain ⟨h', t', rfl, k'⟩ := y
  exact ⟨h', t', rfl, fun b o e q => k' b o e (k b o e q)⟩
theorem KX.of {X : Addr → Prop} {a b : Shared} (x : Keeps a b) : KX X a b := by
  obtain ⟨h, t, rfl, k⟩ := x
  exact ⟨h, t, rfl, fun b o _ q => k b o q⟩
theorem KX.mono {X Y : Addr → Prop} {a b : Shared} (x : KX X a b) (h : ∀ b, X b → Y b) : KX Y a b := by
  obtain ⟨h', t', rfl, k'⟩ := x
  exact ⟨h', t', rfl, fun b o e q => k' b o (fun z => e (h b z)) q⟩
theorem KX.get {X : Addr → Prop} {a b : Shared} (x : KX X a b) {c o} (hc : ¬ X c) (e : a.heap.get? c = some o) : b.heap.get? c = some o := by
  obtain ⟨h', t', rfl, k'⟩ := x
  exact k' c o hc e
theorem KX.heap {X : Addr → Prop} {s : Shared} {h' : Heap} (k : ∀ b o, ¬ X b → s.heap.get? b = some o → h'.get? b = some o) : KX X s { s with heap := h' } := ⟨h', s.toks, rfl, k⟩
theorem KX.both {X : Addr → Prop} {s : Shared} {h' : Heap} {tk : Nat} (k : ∀ b o, ¬ X b → s.heap.get? b = some o → h'.get? b = some o) : KX X s { s with heap := h', toks := tk } := ⟨h', tk, rfl, k⟩
theorem KX.keeps {X : Addr → Prop} {sB s s' : Shared} (k : Keeps sB s) (hX : ∀ b, X b → sB.heap.get? b = none) (x : KX X s s') : Keeps sB s' := keeps_change k hX x

theorem MapAt.kx {X : Addr → Prop} {s s' : Shared} {M T I f} (m : MapAt s.heap M T I f) (k : KX X s s') (hM : ¬ X M) (hT : ¬ X T) : MapAt s'.heap M T I f :=
  ⟨k.get hM m.1, k.get hT m.2⟩

section
variable {prog : Program} {w : World} {A : Around} {s : Shared}

/-- map(str, map(int, iter(l))) -/
structure Pipe (h : Heap) (l I M T M2 T2 : Addr) (i : Nat) : Prop where
  it : h.IsListIter I l i
  m1 : MapAt h M T I (.type "int")
  m2 : MapAt h M2 T2 M (.type "str")
theorem Pipe.ne1 {h l I M T M2 T2 i} (p : Pipe h l I M T M2 T2 i) : M ≠ I := by
  rintro rfl
  obtain ⟨o, ho, hc, _⟩ := p.it
  rw [p.m1.1] at ho; cases ho; simp at hc
theorem Pipe.ne2 {h l I M T M2 T2 i} (p : Pipe h l I M T M2 T2 i) : M2 ≠ I := by
  rintro rfl
  obtain ⟨o, ho, hc, _⟩ := p.it
  rw [p.m2.1] at ho; cases ho; simp at hc
theorem Pipe.ne3 {h l I M T M2 T2 i} (p : Pipe h l I M T M2 T2 i) : T ≠ I := by
  rintro rfl
  obtain ⟨o, ho, hc, _⟩ := p.it
  rw [p.m1.2] at ho; cases ho; simp at hc
theorem Pipe.ne4 {h l I M T M2 T2 i} (p : Pipe h l I M T M2 T2 i) : T2 ≠ I := by
  rintro rfl
  obtain ⟨o, ho, hc, _⟩ := p.it
  rw [p.m2.2] at ho; cases ho; simp at hc
theorem Pipe.move {s s' : Shared} {l I M T M2 T2 i j} (p : Pipe s.heap l I M T M2 T2 i) (k : KX (· = I) s s') (hi : s'.heap.IsListIter I l j) : Pipe s'.heap l I M T M2 T2 j :=
  ⟨hi, p.m1.kx k p.ne1 p.ne3, p.m2.kx k p.ne2 p.ne4⟩

theorem pipe_item {l I M T M2 T2 i items x t n} {Q E} (p : Pipe s.heap l I M T M2 T2 i) (hl : s.heap.IsList l items) (hx : items[i]? = some (.str x t)) (hT : Tx x) (hn : PySem.intText? x = some n) (hs : n.natAbs.log2 < 1920)
    (hQ : ∀ u s', KX (· = I) s s' → Pipe s'.heap l I M T M2 T2 (i + 1) → Q (.str (Str.ofString (toString n)) u) s') : Nx prog w A M2 Q E s := by
  refine nx_map p.m2 (nx_map p.m1 (nx_list_item p.it hl hx fun h₁ hi₁ hs₁ => ?_))
  have k₁ : KX (· = I) s { s with heap := h₁ } := .heap fun b o hb e => (hs₁.2 b hb).trans e
  refine ⟨(hs₁.2 _ p.ne1), .inl (KIN.call_text hn hT.1 ⟨(hs₁.2 _ p.ne2), .inl (PySem.P.str_of_int hs ?_)⟩)⟩
  exact hQ _ _ (k₁.trans ⟨_, _, rfl, fun _ _ _ e => e⟩) (show Pipe h₁ l I M T M2 T2 (i + 1) from p.move (s' := { s with heap := h₁ }) k₁ hi₁)

theorem pipe_end {l I M T M2 T2 i items} {Q E} (hh : A.handled = none) (p : Pipe s.heap l I M T M2 T2 i) (hl : s.heap.IsList l items) (hx : items[i]? = none)
    (hE : ∀ e s', KX (· = I) s s' → s'.TypeIs e "StopIteration" → E e s') : Nx prog w A M2 Q E s :=
  nx_map p.m2 (nx_map p.m1 (nx_list_end hh p.it hl hx fun h' e hx' hT => hE e _ (.heap fun b o hb q => hx' b o hb q) hT))

theorem pipe_bad {l I M T M2 T2 i items x t} {Q E} (hh : A.handled = none) (p : Pipe s.heap l I M T M2 T2 i) (hl : s.heap.IsList l items) (hx : items[i]? = some (.str x t)) (hT : Tx x) (hn : PySem.intText? x = none)
    (hE : ∀ h₁ s₁ h' tk e, s₁ = { s with heap := h₁ } → KX (· = I) s s₁ → Heap.NewExc h₁ h' e "ValueError" → E (.ref e) { s₁ with heap := h', toks := tk }) : Nx prog w A M2 Q E s := by
  refine nx_map p.m2 (nx_map p.m1 (nx_list_item p.it hl hx fun h₁ hi₁ hs₁ => ?_))
  have k₁ : KX (· = I) s { s with heap := h₁ } := .heap fun b o hb e => (hs₁.2 b hb).trans e
  refine ⟨(hs₁.2 _ p.ne1), .inr (codeB_int_refuses (by exact hh) (fun l h => h.between) hT hn fun h' tk e hx => ?_)⟩
  exact hE h₁ _ h' tk e rfl k₁ hx

theorem Nx.pyNext_item {I E} {Q : Option Value → Shared → Prop} (x : Nx prog w A I (fun v s' => Q (some v) s') (fun _ _ => False) s) : wpAny (model prog w) A (pyNext (.ref I)) Q E s := by
  unfold pyNext
  refine wpAny_bind (wpAny_attempt (wpAny_mono x (fun r s' h => ?_) fun _ _ h => h.elim))
  obtain ⟨v, rfl, h⟩ := h
  exact wpAny_pure h
theorem Nx.pyNext_end {I E} {Q : Option Value → Shared → Prop} (x : Nx prog w A I (fun _ _ => False) (fun e s' => s'.TypeIs e "StopIteration" ∧ Q none s') s) : wpAny (model prog w) A (pyNext (.ref I)) Q E s := by
  unfold pyNext
  refine wpAny_bind (wpAny_attempt (wpAny_mono x (fun r s' h => ?_) fun e s' h => ?_))
  · obtain ⟨v, rfl, h⟩ := h; exact h.elim
  · exact wpAny_bind (wpAny_isInstance (T := "StopIteration") (b := true) h.1 isSubtype_stop (wpAny_pure h.2))
theorem sub_value_stop : isSubtype (.type "ValueError") (.type "StopIteration") = pure false := by rw [isSubtype_type]; kernel_rfl
theorem Nx.pyNext_raise {I E} {Q : Option Value → Shared → Prop} (x : Nx prog w A I (fun _ _ => False) (fun e s' => s'.TypeIs e "ValueError" ∧ E e s') s) : wpAny (model prog w) A (pyNext (.ref I)) Q E s := by
  unfold pyNext
  refine wpAny_bind (wpAny_attempt (wpAny_mono x (fun r s' h => ?_) fun e s' h => ?_))
  · obtain ⟨v, rfl, h⟩ := h; exact h.elim
  · exact wpAny_bind (wpAny_isInstance (T := "ValueError") (b := false) h.1 sub_value_stop (wpAny_throw h.2))
end
end Mine
end
section
open PySem PySem.W PyProof.Rows PySem.Calls PySem.Spec PySem.NumText
open Sem (wp)
set_option Elab.async false
set_option maxRecDepth 100000
set_option linter.all false
set_option maxHeartbeats 4000000
namespace Mine
def ts (n : Int) : Str := Str.ofString (toString n)
/-- a text that is a number n, not long -/
structure NumAt (items : Array Value) (sts : List Str) (m : Nat) : Prop where
  ex : ∃ x t n, items[m]? = some (.str x t) ∧ Tx x ∧ PySem.intText? x = some n ∧ n.natAbs.log2 < 1920 ∧ sts[m]? = some (ts n)

theorem strsAre_append {vs us : List Value} {xs ys : List Str} (h : StrsAre vs xs) (h' : StrsAre us ys) : StrsAre (vs ++ us) (xs ++ ys) := by
  induction h with
  | nil => exact h'
  | cons y t _ ih => exact .cons y t ih
theorem strsAre_length {vs : List Value} {xs : List Str} (h : StrsAre vs xs) : vs.length = xs.length := by
  induction h with
  | nil => rfl
  | cons y t _ ih => simp [ih]

section
variable {prog : Program} {w : World} {A : Around} {s : Shared} {l I M T M2 T2 S : Addr} {items : Array Value} {sts : List Str} {res : Value} {R : Result → Shared → Prop}

theorem isList_kx {X : Addr → Prop} {s s' : Shared} {l items} (h : s.heap.IsList l items) (k : KX X s s') (hl : ¬ X l) : s'.heap.IsList l items := by
  obtain ⟨o, ho, r⟩ := h; exact ⟨o, k.get hl ho, r⟩

theorem loop_to (hSI : S ≠ I) (hSl : l ≠ S) (hlI : l ≠ I) (hSM : S ≠ M ∧ S ≠ T ∧ S ≠ M2 ∧ S ≠ T2) (j : Nat) (hj : j ≤ 1000) : ∀ (k i : Nat) (s : Shared) (acc : Array Value) (c : Nat), i + k = j → (∀ m, m < j → NumAt items sts m) →
    Pipe s.heap l I M T M2 T2 i → s.heap.IsList l items → s.heap.get? S = some { cls := .type "list", dict := none, data := .seq acc c, slots := #[] } → StrsAre acc.toList (sts.take i) →
    (∀ s' acc' c', KX (fun b => b = S ∨ b = I) s s' → Pipe s'.heap l I M T M2 T2 j → s'.heap.IsList l items → s'.heap.get? S = some { cls := .type "list", dict := none, data := .seq acc' c', slots := #[] } → StrsAre acc'.toList (sts.take j) →
      codeAny (model prog w) A (.builtin "list.extend.loop" ⟨[.ref S, .ref M2, res], []⟩) R s') →
    codeAny (model prog w) A (.builtin "list.extend.loop" ⟨[.ref S, .ref M2, res], []⟩) R s := by
  intro k
  induction k with
  | zero =>
    intro i s acc c hij hx hp hl hS ha hR
    have : i = j := by omega
    subst this
    exact hR s acc c (.refl _ _) hp hl hS ha
  | succ k ih =>
    intro i s acc c hij hx hp hl hS ha hR
    obtain ⟨x, t, n, hx1, hx2, hx3, hx4, hx5⟩ := (hx i (by omega)).ex
    refine codeAny_builtin F.entry_extend_loop ?_
    rw [Around.under_plainId F.plain_extend_loop _]
    show wpAny _ A.in1 (pyNext (.ref M2) >>= _) _ _ s
    refine wpAny_bind (Nx.pyNext_item (pipe_item hp hl hx1 hx2 hx3 hx4 fun u s₁ k₁ p₁ => ?_))
    have hS₁ : s₁.heap.get? S = _ := k₁.get hSI hS
    have hsz : acc.size ≤ 1000 := by
      have := strsAre_length ha
      rw [List.length_take] at this
      simp at this; omega
    show wpAny _ A.in1 (updateSeq S (·.push (.str (ts n) u)) >>= _) _ _ _
    refine wpAny_bind (wpAny_updateSeq hS₁ rfl ?_ (Nat.le_trans hsz (by rw [sizeLine_eq]; decide)) (by show (acc.push _).size ≤ sizeLine + 1; rw [Array.size_push, sizeLine_eq]; omega))
    have k₂ : KX (fun b => b = S ∨ b = I) s { s₁ with heap := s₁.heap.update S (Obj.mapSeq (·.push (.str (ts n) u))) } :=
      (k₁.mono fun b h => .inr h).trans (.heap fun b o hb e => (Heap.get?_update_other _ _ (fun h : S = b => hb (.inl h.symm))).trans e)
    have k₃ : ∀ b o, b ≠ S → s₁.heap.get? b = some o → (s₁.heap.update S (Obj.mapSeq (·.push (.str (ts n) u)))).get? b = some o := fun b o hb e => (Heap.get?_update_other _ _ (fun h : S = b => hb h.symm)).trans e
    have p₂ : Pipe (s₁.heap.update S (Obj.mapSeq (·.push (.str (ts n) u)))) l I M T M2 T2 (i + 1) := by
      obtain ⟨a, b, c⟩ := p₁
      exact ⟨isListIter_at a fun o e => k₃ _ o hSI.symm e, ⟨k₃ _ _ hSM.1.symm b.1, k₃ _ _ hSM.2.1.symm b.2⟩, ⟨k₃ _ _ hSM.2.2.1.symm c.1, k₃ _ _ hSM.2.2.2.symm c.2⟩⟩
    refine wpAny_pure ⟨plainId_quiet F.plain_extend_loop _, ih (i + 1) _ (acc.push (.str (ts n) u)) _ (by omega) hx p₂ ?_ (Heap.get?_update_self _ hS₁ rfl) ?_ fun s' acc' c' k' p' l' S' a' => hR s' acc' c' (k₂.trans k') p' l' S' a'⟩
    · exact isList_kx hl k₂ (fun h => h.elim hSl hlI)
    · rw [Array.toList_push, List.take_add_one, hx5]
      simpa using strsAre_append ha (.cons (ts n) u .nil)

theorem loop_end (hh : A.handled = none) (hSI : S ≠ I) (hp : Pipe s.heap l I M T M2 T2 items.size) (hl : s.heap.IsList l items) {acc c} (hS : s.heap.get? S = some { cls := .type "list", dict := none, data := .seq acc c, slots := #[] })
    (hR : ∀ s', KX (fun b => b = S ∨ b = I) s s' → s'.heap.get? S = some { cls := .type "list", dict := none, data := .seq acc c, slots := #[] } → R (.ok (.ret res)) s') :
    codeAny (model prog w) A (.builtin "list.extend.loop" ⟨[.ref S, .ref M2, res], []⟩) R s := by
  refine codeAny_builtin F.entry_extend_loop ?_
  rw [Around.under_plainId F.plain_extend_loop _]
  show wpAny _ A.in1 (pyNext (.ref M2) >>= _) _ _ s
  refine wpAny_bind (Nx.pyNext_end (pipe_end hh hp hl (by simp) fun e s₁ k₁ hT => ⟨hT, wpAny_pure ?_⟩))
  exact hR s₁ (k₁.mono fun b h => .inr h) (k₁.get hSI hS)

theorem loop_bad (hh : A.handled = none) {i x t} (hp : Pipe s.heap l I M T M2 T2 i) (hl : s.heap.IsList l items) (hx : items[i]? = some (.str x t)) (hT : Tx x) (hn : PySem.intText? x = none)
    (hR : ∀ s₁ h' tk e, KX (fun b => b = S ∨ b = I) s s₁ → Heap.NewExc s₁.heap h' e "ValueError" → R (.error (.ref e)) { s₁ with heap := h', toks := tk }) :
    codeAny (model prog w) A (.builtin "list.extend.loop" ⟨[.ref S, .ref M2, res], []⟩) R s := by
  refine codeAny_builtin F.entry_extend_loop ?_
  rw [Around.under_plainId F.plain_extend_loop _]
  show wpAny _ A.in1 (pyNext (.ref M2) >>= _) _ _ s
  refine wpAny_bind (Nx.pyNext_raise (pipe_bad hh hp hl hx hT hn fun h₁ s₁ h' tk e hs₁ k₁ hx => ⟨?_, ?_⟩))
  · obtain ⟨ob, t, h1, h2, _⟩ := hx.there
    exact ⟨ob, h1, h2⟩
  · exact hR s₁ h' tk e (k₁.mono fun b h => .inr h) (by rw [hs₁]; exact hx)

/-- list(M2), by what the loop does -/
theorem call_list_map {Q E} (hm : MapAt s.heap M2 T2 M (.type "str"))
    (hloop : ∀ s₁ c, KX (fun b => b = s.heap.objs.size) s s₁ → s₁.heap.get? s.heap.objs.size = some { cls := .type "list", dict := none, data := .seq #[] c, slots := #[] } →
      codeAny (model prog w) A.in1 (.builtin "list.extend.loop" ⟨[.ref s.heap.objs.size, .ref M2, .none], []⟩) (wants (fun r s₂ => r = .none ∧ Q (.ref s.heap.objs.size) s₂) E) s₁) :
    wpAny (model prog w) A (call (.type "list") [.ref M2]) Q E s := by
  refine callType_codes (Q₁ := fun obj s₁ => obj = .ref s.heap.objs.size ∧ s₁ = { s with heap := s.heap.push { cls := .type "list", data := .seq #[] } }) F.called_list (F.typeCall_list_1 _) F.entry_list_init
    (code_list_new _ ⟨rfl, rfl⟩) fun obj s₁ h₁ => ?_
  obtain ⟨rfl, rfl⟩ := h₁
  generalize hS0 : s.heap.objs.size = S
  have hS : (s.heap.push { cls := .type "list", data := .seq #[] }).get? S = some { cls := .type "list", data := .seq #[] } := hS0 ▸ Heap.get?_push_size _ rfl
  have hSM : S ≠ M2 := fun e => by have := Heap.lt_size hm.1; rw [hS0, e] at this; exact Nat.lt_irrefl _ this
  have hST : S ≠ T2 := fun e => by have := Heap.lt_size hm.2; rw [hS0, e] at this; exact Nat.lt_irrefl _ this
  have hm₁ : MapAt (s.heap.push { cls := .type "list", data := .seq #[] }) M2 T2 M (.type "str") := ⟨Heap.get?_push_of_some _ hm.1, Heap.get?_push_of_some _ hm.2⟩
  refine ⟨⟨_, hS, rfl⟩, F.args_list_init_2 _ _, ?_⟩
  show wpAny _ A.in1.in1 (do let old ← Builtin.List.listItems (.ref S); Builtin.List.listUpdate (.ref S) (fun _ => #[]); letGo old.toList.reverse; Builtin.List.listExtendWith (.ref S) (.ref M2) .none) _ _ _
  refine wpAny_bind ?_
  unfold Builtin.List.listItems
  refine wpAny_bind (wpAny_seqItems hS rfl (wpAny_pure ?_))
  show wpAny _ _ (updateSeq S (fun _ => #[]) >>= fun _ => letGo (#[] : Array Value).toList.reverse >>= fun _ => Builtin.List.listExtendWith (.ref S) (.ref M2) .none) _ _ _
  refine wpAny_bind (wpAny_updateSeq hS rfl ?_)
  have hS₂ := Heap.get?_update_self (Obj.mapSeq (fun _ => (#[] : Array Value))) hS rfl
  have oth : ∀ {h : Heap} {f : Obj → Obj} b o, b ≠ S → h.get? b = some o → (h.update S f).get? b = some o := fun b o hb e => (Heap.get?_update_other _ _ (Ne.symm hb)).trans e
  refine wpAny_bind (wpAny_letGo ?_)
  have hm₂ : MapAt ((s.heap.push { cls := .type "list", data := .seq #[] }).update S (Obj.mapSeq (fun _ => (#[] : Array Value)))) M2 T2 M (.type "str") := ⟨oth _ _ hSM.symm hm₁.1, oth _ _ hST.symm hm₁.2⟩
  unfold Builtin.List.listExtendWith
  refine wpAny_bind (wpAny_typeOf (T := "map") ⟨_, hm₂.1, rfl⟩ ?_)
  have h1 : Builtin.List.listSameRef (.ref S) (.ref M2) = false := by simp [Builtin.List.listSameRef, hSM]
  have h2 : (Value.type "map" == Value.type "list") = false := by decide
  have h3 : (Value.type "map" == Value.type "tuple") = false := by decide
  simp only [h1, h2, h3, Bool.or_false, Bool.false_eq_true, if_false]
  refine wpAny_bind (pyIter_map hm₂ ?_)
  refine wpAny_bind (wpAny_holding ?_)
  unfold Builtin.List.listLengthHint
  refine wpAny_bind (wpAny_specialOf (T := "map") ⟨_, hm₂.1, rfl⟩ no_len_map ?_)
  show wpAny _ _ (specialOf (Value.ref M2) (Str.ofString "__length_hint__") >>= _) _ _ _
  refine wpAny_bind (wpAny_specialOf (T := "map") ⟨_, hm₂.1, rfl⟩ no_hint_map ?_)
  refine wpAny_pure ?_
  show wpAny _ _ (rule "list.extend.makes-room" >>= fun _ => Builtin.List.listTouch (.ref S) >>= fun _ =>
    again (.builtin "list.extend.loop" ⟨[.ref S, .ref M2, .none], []⟩)) _ _ _
  refine wpAny_bind (wpAny_rule ?_)
  refine wpAny_bind ?_
  show wpAny _ _ (updateSeq S (·.push .none) >>= fun _ => updateSeq S (·.pop)) _ _ _
  refine wpAny_bind (wpAny_updateSeq hS₂ rfl ?_)
  have hS₃ := Heap.get?_update_self (Obj.mapSeq (·.push Value.none)) hS₂ rfl
  refine wpAny_updateSeq (hz := by seq_fits) hS₃ rfl ?_
  have hS₄ := Heap.get?_update_self (Obj.mapSeq (·.pop)) hS₃ rfl
  refine wpAny_pure ⟨plainId_quiet F.plain_extend_loop _, ?_⟩
  rw [hS0] at hloop
  refine hloop _ _ (.heap fun b o hb e => ?_) hS₄
  exact oth _ _ hb (oth _ _ hb (oth _ _ hb (Heap.get?_push_of_some _ e)))
end
end Mine
end
section
open PySem PySem.W PyProof.Rows PySem.Calls PySem.Spec PySem.NumText
open Sem (wp)
set_option Elab.async false
set_option maxRecDepth 100000
set_option linter.all false
set_option maxHeartbeats 4000000
namespace Mine
section
variable {prog : Program} {w : World} {P : Addr → Prop} {A : Around} {env : Env} {s : Shared}

/-- the names that stand for what the machine brings -/
structure Nm (mg mb : Str → Option Value) (env : Env) (x : Str) (v : Value) : Prop where
  free : mg x = none
  boot : mb x = some v
  kind : env.kindOf x = some .globalImplicit
  dbg : (x == ("__debug__" : Str)) = false

theorem wp_call_boot {x : Str} {T : String} {np pos : Pos} {e : Expr} {rest : List Expr} {mg mb : Str → Option Value} {Q : Value → Shared → Prop} {E} (hk : EnvOk env) (hg : s.heap.Ns mainGlobals mg) (hb : s.heap.Ns builtinsNs mb)
    (hn : Nm mg mb env x (.type T)) (h : wpAny (model prog w) A (spliced (backTo pos (starEach (e :: rest) env))) (fun vs s₁ => wpAny (model prog w) A (call (.type T) vs) Q E s₁) E s)
    (he : starEach (e :: rest) env = (false, eval e env) :: starEach rest env := by rfl) (hp : ∀ pos, (backTo pos (starEach rest env)).any (·.1) = false := by intro _; rfl) :
    wpAny (model prog w) A (eval (.Call (.Name x np) (e :: rest) [] pos) env) Q E s :=
  Call_ (boot_name hk hg hb hn.free hn.boot (PyProof.Rows.callWith_type1 h he (hp _)) hn.kind hn.dbg)

/-- the state ahead of list(M2)'s loop -/
structure Ready (s s₁ : Shared) (l I M T M2 T2 S : Addr) (items : Array Value) : Prop where
  keep : Keeps s s₁
  pipe : Pipe s₁.heap l I M T M2 T2 0
  lst : s₁.heap.IsList l items
  new : ∃ c, s₁.heap.get? S = some { cls := .type "list", dict := none, data := .seq #[] c, slots := #[] }
  nI : s.heap.get? I = none
  nS : s.heap.get? S = none
  ne : S ≠ I ∧ l ≠ S ∧ l ≠ I ∧ S ≠ M ∧ S ≠ T ∧ S ≠ M2 ∧ S ≠ T2

theorem eval_pipe {n1 n2 n3 n4 n5 n6 p1 p2 p3 : Pos} {x : Str} {items : Array Value} {l : Addr} {mg mb : Str → Option Value} {Q : Value → Shared → Prop} {E} (hk : EnvOk env) (hg : s.heap.Ns mainGlobals mg) (hb : s.heap.Ns builtinsNs mb)
    (h1 : Nm mg mb env "list" (.type "list")) (h2 : Nm mg mb env "map" (.type "map")) (h3 : Nm mg mb env "str" (.type "str")) (h4 : Nm mg mb env "int" (.type "int"))
    (hl : ∀ Q' E', (Q' (.ref l) s → wpAny (model prog w) A (eval (.Name x n6) env) Q' E' s)) (hL : s.heap.IsList l items)
    (hloop : ∀ s₁ I M T M2 T2 S, Ready s s₁ l I M T M2 T2 S items → codeAny (model prog w) A.in1 (.builtin "list.extend.loop" ⟨[.ref S, .ref M2, .none], []⟩) (wants (fun r s₂ => r = .none ∧ Q (.ref S) s₂) E) s₁) :
    wpAny (model prog w) A (eval (.Call (.Name "list" n1) [.Call (.Name "map" n2) [.Name "str" n3, .Call (.Name "map" n4) [.Name "int" n5, .Name x n6] [] p3] [] p2] [] p1) env) Q E s := by
  refine wp_call_boot hk hg hb h1 (args_cons ?_)
  refine wp_call_boot hk hg hb h2 (args_cons ?_)
  refine boot_name hk hg hb h3.free h3.boot ?_ h3.kind h3.dbg
  refine args_cons ?_
  refine wp_call_boot hk hg hb h2 (args_cons ?_)
  refine boot_name hk hg hb h4.free h4.boot ?_ h4.kind h4.dbg
  refine args_cons (hl _ _ (args_nil (call_map (wpAny_pyIter_list hL ⟨_, rfl, fun h₁ m₁ k₁ z₁ => ?_⟩))))
  dsimp only at m₁ k₁ z₁ ⊢
  have kI : ∀ b o, s.heap.get? b = some o → h₁.get? b = some o := fun b o e => k₁ b o (Heap.get?_push_of_some _ e)
  have zz : (s.heap.push { cls := .type "list_iterator", data := .fields #[.ref l, .int 0 0] }).objs.size = s.heap.objs.size + 1 := Heap.size_push ..
  have iI : h₁.IsListIter s.heap.objs.size l 0 := ⟨_, k₁ _ _ (Heap.get?_push_size _ rfl), rfl, rfl⟩
  rw [zz] at m₁ z₁ ⊢
  refine args_nil (call_map (pyIter_map m₁ ⟨_, rfl, fun h₂ m₂ k₂ z₂ => ?_⟩))
  dsimp only at m₂ k₂ z₂ ⊢
  rw [z₁] at m₂ z₂ ⊢
  refine args_nil (call_list_map m₂ fun s₃ c k₃ hS => ?_)
  dsimp only at k₃ hS ⊢
  rw [z₂] at k₃ hS ⊢
  have lt : ∀ {b : Addr} {o : Obj}, h₂.get? b = some o → ¬ b = s.heap.objs.size + 1 + 2 + 2 := fun {b o} e q => by
    have := Heap.lt_size e
    rw [z₂, q] at this; exact Nat.lt_irrefl _ this
  have up : ∀ b o, h₁.get? b = some o → s₃.heap.get? b = some o := fun b o e => k₃.get (lt (k₂ b o e)) (k₂ b o e)
  have iI2 : s₃.heap.IsListIter s.heap.objs.size l 0 := isListIter_at iI fun o e => up _ o e
  have hkeep : Keeps s s₃ := by
    obtain ⟨h', tk, e, kk⟩ := k₃
    subst e
    exact ⟨h', tk, rfl, fun b o e => kk b o (lt (k₂ b o (kI b o e))) (k₂ b o (kI b o e))⟩
  have hl3 : s₃.heap.IsList l items := (keeps_seq hkeep).isList hL
  have ltl : l < s.heap.objs.size := by obtain ⟨o, ho, _⟩ := hL; exact Heap.lt_size ho
  refine hloop s₃ s.heap.objs.size _ _ _ _ _ ⟨hkeep, ⟨iI2, ⟨up _ _ m₁.1, up _ _ m₁.2⟩, ⟨k₃.get (lt m₂.1) m₂.1, k₃.get (lt m₂.2) m₂.2⟩⟩, hl3, ⟨c, hS⟩, fresh_size s, Heap.get?_none_of_le (by show s.heap.objs.size ≤ s.heap.objs.size + 1 + 2 + 2; omega), ?_⟩
  refine ⟨?_, fun q => ?_, fun q => ?_, ?_, ?_, ?_, ?_⟩
  rotate_left
  · rw [q] at ltl; exact absurd ltl (by show ¬ (s.heap.objs.size + 1 + 2 + 2 < s.heap.objs.size); omega)
  · rw [q] at ltl; exact Nat.lt_irrefl _ ltl
  all_goals (intro q; have q' : (_ : Nat) = (_ : Nat) := q; omega)
end
end Mine
end
section
open PySem PySem.W PyProof.Rows PySem.Calls PySem.Spec PySem.NumText
open Sem (wp)
set_option Elab.async false
set_option maxRecDepth 100000
set_option linter.all false
set_option maxHeartbeats 4000000
namespace Mine

theorem strsAre_get {vs : List Value} {xs : List Str} (h : StrsAre vs xs) : ∀ {m : Nat} {x : Str}, xs[m]? = some x → ∃ t, vs[m]? = some (.str x t) := by
  induction h with
  | nil => intro m x e; simp at e
  | cons y t _ ih =>
    intro m x e
    cases m with
    | zero => simp at e; subst e; exact ⟨t, rfl⟩
    | succ m => simpa using ih (m := m) (x := x) (by simpa using e)

/-- each text up to place j is a number, told by sts -/
def Nums (xs sts : List Str) (j : Nat) : Prop := ∀ m, m < j → ∃ x n, xs[m]? = some x ∧ Tx x ∧ PySem.intText? x = some n ∧ n.natAbs.log2 < 1920 ∧ sts[m]? = some (ts n)
theorem Nums.at {xs sts : List Str} {j : Nat} {items : Array Value} (h : Nums xs sts j) (hx : StrsAre items.toList xs) : ∀ m, m < j → NumAt items sts m := fun m hm => by
  obtain ⟨x, n, h1, h2, h3, h4, h5⟩ := h m hm
  obtain ⟨t, ht⟩ := strsAre_get hx h1
  exact ⟨⟨x, t, n, by simpa using ht, h2, h3, h4, h5⟩⟩

section
variable {prog : Program} {w : World} {P : Addr → Prop} {A : Around} {env : Env} {s : Shared}

theorem pipe_good {n1 n2 n3 n4 n5 n6 p1 p2 p3 : Pos} {x : Str} {xs sts : List Str} {mg mb : Str → Option Value} (hh : A.handled = none) (fo : Fo P s) (hk : EnvOk env) (hg : s.heap.Ns mainGlobals mg) (hb : s.heap.Ns builtinsNs mb)
    (h1 : Nm mg mb env "list" (.type "list")) (h2 : Nm mg mb env "map" (.type "map")) (h3 : Nm mg mb env "str" (.type "str")) (h4 : Nm mg mb env "int" (.type "int")) {m : Str → Option Value} {v : Value}
    (hns : s.heap.Ns env.locals m) (hv : m x = some v) (hd : Has P s.heap (.list (xs.map .str)) v) (hl : env.kindOf x = some .local) (hdb : (x == ("__debug__" : Str)) = false)
    (hN : Nums xs sts xs.length) (hs : sts.length = xs.length) (hz : xs.length ≤ 1000) {E} :
    wpAny (model prog w) A (eval (.Call (.Name "list" n1) [.Call (.Name "map" n2) [.Name "str" n3, .Call (.Name "map" n4) [.Name "int" n5, .Name x n6] [] p3] [] p2] [] p1) env)
      (fun v s' => Has P s'.heap (.list (sts.map .str)) v ∧ Keeps s s') E s := by
  obtain ⟨l, items, rfl, _, hL, hA⟩ := has_list.mp hd
  have hxs := hasAll_strs hA
  have hsz : items.size = xs.length := by have := strsAre_length hxs; simpa using this
  refine eval_pipe hk hg hb h1 h2 h3 h4 (fun Q' E' q => wpAny_Name (wpAny_loadName_local hk.kind hl hns hv q) hdb) hL fun s₁ I M T M2 T2 S R => ?_
  obtain ⟨c, hS⟩ := R.new
  obtain ⟨e1, e2, e3, e4⟩ := R.ne
  refine loop_to e1 e2 e3 e4 xs.length hz xs.length 0 s₁ #[] c (by omega) (hN.at hxs) R.pipe R.lst hS .nil fun s₂ acc c₂ k₂ p₂ l₂ S₂ a₂ => ?_
  refine loop_end hh e1 (by rw [hsz]; exact p₂) l₂ S₂ fun s₃ k₃ S₃ => ⟨rfl, ?_, ?_⟩
  · rw [← hs, List.take_length] at a₂
    exact has_list.mpr ⟨S, acc, rfl, fo S R.nS, ⟨_, S₃, rfl, _, rfl⟩, hasAll_of_strs a₂⟩
  · exact (k₂.trans k₃).keeps R.keep (fun b hb => hb.elim (fun h => h ▸ R.nS) (fun h => h ▸ R.nI))

theorem pipe_refuses {n1 n2 n3 n4 n5 n6 p1 p2 p3 : Pos} {x : Str} {xs sts : List Str} {mg mb : Str → Option Value} (hh : A.handled = none) (hk : EnvOk env) (hg : s.heap.Ns mainGlobals mg) (hb : s.heap.Ns builtinsNs mb)
    (h1 : Nm mg mb env "list" (.type "list")) (h2 : Nm mg mb env "map" (.type "map")) (h3 : Nm mg mb env "str" (.type "str")) (h4 : Nm mg mb env "int" (.type "int")) {m : Str → Option Value} {v : Value}
    (hns : s.heap.Ns env.locals m) (hv : m x = some v) (hd : Has P s.heap (.list (xs.map .str)) v) (hl : env.kindOf x = some .local) (hdb : (x == ("__debug__" : Str)) = false)
    {j : Nat} {y : Str} (hN : Nums xs sts j) (hj : xs[j]? = some y) (hy : Tx y) (hy' : PySem.intText? y = none) (hz : xs.length ≤ 1000) {Q : Value → Shared → Prop} {E : Value → Shared → Prop}
    (hE : ∀ s₁ h' tk e, Keeps s s₁ → Heap.NewExc s₁.heap h' e "ValueError" → E (.ref e) { s₁ with heap := h', toks := tk }) :
    wpAny (model prog w) A (eval (.Call (.Name "list" n1) [.Call (.Name "map" n2) [.Name "str" n3, .Call (.Name "map" n4) [.Name "int" n5, .Name x n6] [] p3] [] p2] [] p1) env) Q E s := by
  obtain ⟨l, items, rfl, _, hL, hA⟩ := has_list.mp hd
  have hxs := hasAll_strs hA
  have hjl : j < xs.length := by rw [List.getElem?_eq_some_iff] at hj; exact hj.1
  obtain ⟨t, ht⟩ := strsAre_get hxs hj
  refine eval_pipe hk hg hb h1 h2 h3 h4 (fun Q' E' q => wpAny_Name (wpAny_loadName_local hk.kind hl hns hv q) hdb) hL fun s₁ I M T M2 T2 S R => ?_
  obtain ⟨c, hS⟩ := R.new
  obtain ⟨e1, e2, e3, e4⟩ := R.ne
  refine loop_to (sts := sts) e1 e2 e3 e4 j (by omega) j 0 s₁ #[] c (by omega) (hN.at hxs) R.pipe R.lst hS .nil fun s₂ acc c₂ k₂ p₂ l₂ S₂ a₂ => ?_
  refine loop_bad hh p₂ l₂ (by simpa using ht) hy hy' fun s₃ h' tk e k₃ hx => ?_
  exact hE s₃ h' tk e ((k₂.trans k₃).keeps R.keep (fun b hb => hb.elim (fun h => h ▸ R.nS) (fun h => h ▸ R.nI))) hx
end
end Mine
end
section
open PySem PySem.W PyProof.Rows PySem.Calls PySem.Spec PySem.NumText
open Sem (wp)
set_option Elab.async false
set_option maxRecDepth 100000
set_option linter.all false
set_option maxHeartbeats 4000000
namespace Mine

/-- the frames of the stack, their names at the places F -/
def Stk (A : Around) (F : List Addr) (s : Shared) : Prop := ∃ outer, A.frames = some outer ∧ F = outer.filterMap (·.frame) ∧ s.heap.FunFrames (hideAll s.heap F) outer

theorem funFrames_again {base h h' : Heap} {as : List Addr} {l : List Env} (x : h.FunFrames base l) (hin : ∀ env ∈ l, ∀ a, env.frame = some a → a ∈ as)
    (k : ∀ b o, h.get? b = some o → ∃ sl, h'.get? b = some { o with slots := sl }) : h'.FunFrames (hideAll h' as) l :=
  funFrames_hide (x.of_keeps fun b o e _ => let ⟨sl, q⟩ := k b o e; ⟨_, q, rfl⟩) hin
theorem mem_frames {l : List Env} : ∀ env ∈ l, ∀ a, env.frame = some a → a ∈ l.filterMap (·.frame) := fun env he a ha => List.mem_filterMap.mpr ⟨env, he, ha⟩
theorem Stk.kp {A : Around} {F G : List Addr} {s s' : Shared} (x : Stk A F s) (k : Kp G s s') : Stk A F s' := by
  obtain ⟨outer, h1, rfl, h3⟩ := x
  obtain ⟨h, t, rfl, k⟩ := k
  exact ⟨outer, h1, rfl, funFrames_again h3 mem_frames fun b o e => (k b o e).2⟩
theorem Stk.push {A : Around} {F : List Addr} {s s' : Shared} {qual scope L f cdv m} (x : Stk A F s) (k : Keeps s s') (hn : s'.heap.Ns L m) (hk : scope.kind = .function := by rfl) : Stk (A.deeper (envOf qual scope L f cdv)) (L :: F) s' := by
  obtain ⟨outer, h1, rfl, h3⟩ := x
  obtain ⟨h, t, rfl, k⟩ := k
  refine ⟨envOf qual scope L f cdv :: outer, Around.frames_deeper h1, rfl, ?_⟩
  refine Heap.FunFrames.cons (by show scope.kind ≠ .module; rw [hk]; decide) rfl hn (hideAll_none _ (.head _)) ?_
  exact funFrames_again h3 (fun env he a ha => .tail _ (mem_frames env he a ha)) fun b o e => ⟨o.slots, k b o e⟩
theorem Stk.caller {A : Around} {s : Shared} (h : A.frames = some []) : Stk A [] s := ⟨[], h, rfl, trivial⟩
theorem Stk.mem {A : Around} {F : List Addr} {s : Shared} (x : Stk A F s) {b : Addr} (hb : b ∈ F) : ∃ o, s.heap.get? b = some o ∧ ∀ vs, o.data ≠ .fields vs := by
  obtain ⟨outer, h1, rfl, h3⟩ := x
  exact (h3.mem hb).2

section
variable {prog : Program} {w : World} {P : Addr → Prop} {A : Around} {env : Env} {s : Shared} {F : List Addr}

theorem note_first {base h : Heap} {outer : List Env} {L e : Addr} {cls : String} {Q : Unit → Shared → Prop} {E} (hfr : A.frames = some (env :: outer)) (hl : h.FunFrames base (env :: outer)) (hf : env.frame = some L)
    (hx : Heap.NewExc h s.heap e cls) (hkb : base.StaysIn h)
    (hQ : ∀ a0 h', Heap.HeldW base (env :: outer) e (.type cls) a0 L h' → s.heap.UpToSlots h' → Q () { s with heap := h' }) : wpAny (model prog w) A (noteFrame (.ref e) env) Q E s := by
  obtain ⟨ob, tp, he, hcls, hd⟩ := hx.there
  have hen : base.get? e = none := by
    cases hq : base.get? e with
    | none => rfl
    | some o' => have := hkb e o' hq; rw [hx.new] at this; cases this
  unfold noteFrame
  simp only [hf]
  refine wpAny_bind (wpAny_field he hd (x := .none) rfl ?_)
  rw [if_neg (by decide)]
  refine wpAny_entryW hfr (hl.of_keeps fun b o hb _ => ⟨o, hx.keeps b o hb, rfl⟩) hf he (fun b o hb => hx.keeps b o (hkb b o hb)) hen hd (by simp) (a0 := tp) rfl fun h' hN => ?_
  obtain ⟨k1, k2, k3, k4⟩ := hN
  exact hQ tp h' ⟨k1, hen, k2, by rw [← hcls]; exact k3⟩ k4

theorem handler_step {s₁ : Shared} {h' : Heap} {tk : Nat} {e : Addr} {np pos : Pos} {b₀ : Stmt} {suite : List Stmt} {rest : List ExceptHandler} {mg mb : Str → Option Value} {Q : Flow → Shared → Prop} {E : Value → Shared → Prop} {outer : List Env} {L : Addr}
    (S : Stk A F s₁) (hfr : A.frames = some (env :: outer)) (hf : env.frame = some L) (hx : Heap.NewExc s₁.heap h' e "ValueError") (hk : EnvOk env) (hg : s₁.heap.Ns mainGlobals mg) (hb : s₁.heap.Ns builtinsNs mb)
    (hn : Nm mg mb env "ValueError" (.type "ValueError"))
    (hQ : ∀ s₂ E', Kp F s₁ s₂ → wpAny (model prog w) (A.mark (some (.ref e))) (execs (b₀ :: suite) env) Q E' s₂) :
    wpAny (model prog w) A (noteFrame (.ref e) env) (fun _ s₂ => wpAny (model prog w) A (setFlight (.ref e) none) (fun _ s₃ =>
      wpAny (model prog w) A (handleBy (.ref e) env (.ExceptHandler (some (.Name "ValueError" np)) none (b₀ :: suite) pos :: rest)) Q E s₃) E s₂) E { s₁ with heap := h', toks := tk } := by
  obtain ⟨outer', e1, e2, hff⟩ := S
  rw [hfr] at e1
  obtain rfl : env :: outer = outer' := Option.some.inj e1
  refine note_first (s := { s₁ with heap := h', toks := tk }) hfr hff hf hx (fun b o q => of_hideAll _ q) fun a0 h₂ H₂ U₂ => ?_
  refine wpAny_landsW H₂ fun h₃ H₃ U₃ => ?_
  obtain ⟨ob, hob, hobc⟩ := H₃.there
  have up : s₁.heap.UpToSlots h₃ := ((Heap.UpToSlots.of_keeps hx.keeps).trans U₂).trans U₃
  refine wpAny_handleBy_builtin (X := "ValueError") (T := "ValueError") (b := true) (by rw [isSubtype_type]; kernel_rfl) (by rw [isSubtype_type]; kernel_rfl) (by rw [isSubtype_type]; kernel_rfl)
    (boot_name hk (up.ns hg) (up.ns hb) hn.free hn.boot ⟨rfl, ⟨ob, hob, hobc⟩, ?_⟩ hn.kind hn.dbg)
  rw [if_pos rfl]
  refine lands_againW H₃ fun h₄ H₄ U₄ => ?_
  refine hQ _ _ ⟨h₄, tk, rfl, fun b o q => ?_⟩
  have up₄ : s₁.heap.UpToSlots h₄ := up.trans U₄
  by_cases hbF : b ∈ F
  · refine ⟨fun n => absurd hbF n, ?_⟩
    rw [e2] at hbF
    obtain ⟨o', q', nf⟩ := (hff.mem hbF).2
    rw [q] at q'; cases q'
    exact up₄ b o q nf
  · have := H₄.1 b o (hideAll_get _ q hbF)
    exact ⟨fun _ => this, o.slots, this⟩
end
end Mine
end
section
open PySem PySem.W PyProof.Rows PySem.Calls PySem.Spec PySem.NumText
open Sem (wp)
set_option Elab.async false
set_option maxRecDepth 100000
set_option linter.all false
set_option maxHeartbeats 4000000
namespace Mine
section
variable {prog : Program} {w : World} {P : Addr → Prop} {A : Around} {env : Env} {s : Shared} {F : List Addr}

theorem execs_nil {Q : Flow → Shared → Prop} {E} (h : Q .next s) : wpAny (model prog w) A (execs [] env) Q E s := wpAny_execs_nil h

theorem Bd.tryGood {s₀ : Shared} {n1 n2 n3 n4 n5 n6 n7 p1 p2 p3 p4 tp : Pos} {x y : Str} {xs sts : List Str} {mg mb : Str → Option Value} {ds : List (Str × PyData)} {h₀ : ExceptHandler} {hs : List ExceptHandler} {rest : List Stmt} {Q : Flow → Shared → Prop} {E}
    (B : Bd F P s₀ env ds s) (hx : ds.lookup x = some (.list (xs.map .str))) (hh : A.handled = none) (fo : Fo P s) (hk : EnvOk env) (hg : s.heap.Ns mainGlobals mg) (hb : s.heap.Ns builtinsNs mb)
    (h1 : Nm mg mb env "list" (.type "list")) (h2 : Nm mg mb env "map" (.type "map")) (h3 : Nm mg mb env "str" (.type "str")) (h4 : Nm mg mb env "int" (.type "int"))
    (hN : Nums xs sts xs.length) (hs' : sts.length = xs.length) (hz : xs.length ≤ 1000)
    (h : ∀ s', Bd F P s₀ env ((y, .list (sts.map .str)) :: ds) s' → Kp F s₀ s' → wpAny (model prog w) A (execs rest env) Q E s')
    (hl : env.kindOf x = some .local := by rfl) (hy : env.kindOf y = some .local := by rfl) (hdb : (x == ("__debug__" : Str)) = false := by decide)
    (hsw : swapsWith (.Call (.Name "list" n1) [.Call (.Name "map" n2) [.Name "str" n3, .Call (.Name "map" n4) [.Name "int" n5, .Name x n6] [] p3] [] p2] [] p1) (some (.Name y n7)) p4.line env = pure false := by rfl) :
    wpAny (model prog w) A (execs (.Try [.Assign [.Name y n7] (.Call (.Name "list" n1) [.Call (.Name "map" n2) [.Name "str" n3, .Call (.Name "map" n4) [.Name "int" n5, .Name x n6] [] p3] [] p2] [] p1) p4] (h₀ :: hs) [] [] tp :: rest) env) Q E s := by
  obtain ⟨m, hns, hv⟩ := B.lc
  obtain ⟨v, hv1, hv2⟩ := hv x _ hx
  refine wpAny_execs_cons (wpAny_Try_except (wpAny_execs_cons (wpAny_Assign_Name (wpAny_mono (pipe_good hh fo hk hg hb h1 h2 h3 h4 hns hv1 hv2 hl hdb hN hs' hz) (fun v' s₁ r => ?_) fun _ _ e => e) hsw)))
  refine (B.later r.2).store r.1 hk (fun s₂ B₂ => ?_) hy
  exact execs_nil (execs_nil (h s₂ B₂ B₂.keep))

theorem Bd.tryBad {s₀ : Shared} {n1 n2 n3 n4 n5 n6 n7 n8 n9 p1 p2 p3 p4 p5 tp np hp : Pos} {x y : Str} {xs sts : List Str} {mg mb : Str → Option Value} {ds : List (Str × PyData)} {hs : List ExceptHandler} {rest : List Stmt} {Q : Flow → Shared → Prop} {E} {outer : List Env}
    (B : Bd F P s₀ env ds s) (hx : ds.lookup x = some (.list (xs.map .str))) (S : Stk A (env.locals :: F) s) (hfr : A.frames = some (env :: outer)) (hf : env.frame = some env.locals)
    (hh : A.handled = none) (hk : EnvOk env) (hg : s.heap.Ns mainGlobals mg) (hb : s.heap.Ns builtinsNs mb)
    (h1 : Nm mg mb env "list" (.type "list")) (h2 : Nm mg mb env "map" (.type "map")) (h3 : Nm mg mb env "str" (.type "str")) (h4 : Nm mg mb env "int" (.type "int")) (h5 : Nm mg mb env "ValueError" (.type "ValueError"))
    {j : Nat} {z : Str} (hN : Nums xs sts j) (hj : xs[j]? = some z) (hz1 : Tx z) (hz2 : PySem.intText? z = none) (hz : xs.length ≤ 1000)
    (h : ∀ s', Bd F P s₀ env ((y, .list (xs.map .str)) :: ds) s' → wpAny (model prog w) A (execs rest env) Q E s')
    (hl : env.kindOf x = some .local := by rfl) (hy : env.kindOf y = some .local := by rfl) (hdb : (x == ("__debug__" : Str)) = false := by decide)
    (hsw : swapsWith (.Call (.Name "list" n1) [.Call (.Name "map" n2) [.Name "str" n3, .Call (.Name "map" n4) [.Name "int" n5, .Name x n6] [] p3] [] p2] [] p1) (some (.Name y n7)) p4.line env = pure false := by rfl)
    (hsw' : swapsWith (.Name x n9) (some (.Name y n8)) p5.line env = pure false := by rfl) :
    wpAny (model prog w) A (execs (.Try [.Assign [.Name y n7] (.Call (.Name "list" n1) [.Call (.Name "map" n2) [.Name "str" n3, .Call (.Name "map" n4) [.Name "int" n5, .Name x n6] [] p3] [] p2] [] p1) p4]
      (.ExceptHandler (some (.Name "ValueError" np)) none [.Assign [.Name y n8] (.Name x n9) p5] hp :: hs) [] [] tp :: rest) env) Q E s := by
  obtain ⟨m, hns, hv⟩ := B.lc
  obtain ⟨v, hv1, hv2⟩ := hv x _ hx
  refine wpAny_execs_cons (wpAny_Try_except (wpAny_execs_cons (wpAny_Assign_Name (pipe_refuses hh hk hg hb h1 h2 h3 h4 hns hv1 hv2 hl hdb hN hj hz1 hz2 hz (fun s₁ h' tk e k₁ hx₁ => ?_)) hsw)))
  refine handler_step (S.kp (.of k₁) (G := [])) hfr hf hx₁ hk (hg.keeps (keeps_get k₁)) (hb.keeps (keeps_get k₁)) h5 fun s₂ E' k₂ => ?_
  have B₂ := (B.later k₁).weak k₂
  refine B₂.let hk (Ev.name B₂.lc hk hx hl hdb) (fun s₃ B₃ => execs_nil (h s₃ B₃)) hy hsw'
end
end Mine
end
section
open PySem PySem.W PyProof.Rows PySem.Calls PySem.Spec PySem.NumText
open Sem (wp)
open Builtin Builtin.Str
set_option Elab.async false
set_option maxRecDepth 100000
set_option linter.all false
set_option maxHeartbeats 4000000
namespace Mine

theorem strsAre_strValues : ∀ l : List (Str × Tok), StrsAre (strValues l) (l.map (·.1))
  | [] => .nil
  | (x, t) :: l => .cons x t (strsAre_strValues l)

section
variable {prog : Program} {w : World} {P : Addr → Prop} {A : Around} {env : Env} {s : Shared} {F : List Addr}

theorem call_split {x y : Str} {t u : Tok} {Q : Value → Shared → Prop} {E} (hy : (y.length == 0) = false)
    (hq : ∀ vs k, StrsAre vs (Txt.split x y) → Q (.ref s.heap.objs.size) { s with toks := k, heap := s.heap.push { cls := .type "list", data := .seq vs.toArray } })
    (hsz : x.length ≤ sizeLine) (hsz2 : (partsBetween x (occurrences x y 0 x.length (x.length + 1)) y.length).length ≤ sizeLine) :
    wpAny (model prog w) A (call (.builtin "str.split") [.str x t, .str y u]) Q E s := by
  cases h1 : (decide (x.length < y.length) || decide (strKind x < strKind y))
  · cases hf : (occurrences x y 0 x.length (x.length + 1)).isEmpty
    · refine call_meets F.slot_str_split (typeIs_str _ _ _) F.entry_str_split (F.args_str_split_2 _ _) (meets_str_split_sep x y t u h1 hy hf hsz hsz2) ?_
      show wants Q E _ { s with toks := _, heap := s.heap.push { cls := .type "list", data := .seq (strsFrom s.toks (partsBetween x (occurrences x y 0 x.length (x.length + 1)) y.length)).toArray } }
      rw [strsFrom_eq]
      refine hq _ _ ?_
      have e : (numbered s.toks (partsBetween x (occurrences x y 0 x.length (x.length + 1)) y.length)).map (·.1) = Txt.split x y := (numbered_texts s.toks (partsBetween x (occurrences x y 0 x.length (x.length + 1)) y.length)).trans ((if_neg (ne_true_of_eq_false h1)).trans (if_neg (ne_true_of_eq_false hf))).symm
      have := strsAre_strValues (numbered s.toks (partsBetween x (occurrences x y 0 x.length (x.length + 1)) y.length))
      rw [e] at this
      exact this
    · refine call_meets F.slot_str_split (typeIs_str _ _ _) F.entry_str_split (F.args_str_split_2 _ _) (meets_str_split_not_found x y t u h1 hy hf) (hq [.str x t] s.toks ?_)
      rw [show Txt.split x y = [x] from (if_neg (ne_true_of_eq_false h1)).trans (if_pos hf)]
      exact .cons x t .nil
  · refine call_meets F.slot_str_split (typeIs_str _ _ _) F.entry_str_split (F.args_str_split_2 _ _) (meets_str_split_cannot_occur x y t u h1) (hq [.str x t] s.toks ?_)
    rw [show Txt.split x y = [x] from (if_pos h1)]
    exact .cons x t .nil

theorem Ts.name {ds x pos y} (L : Lc P s.heap env ds) (hk : EnvOk env) (hx : ds.lookup x = some (.str y)) (hsz : y.length ≤ 1000000) (hl : env.kindOf x = some .local := by rfl) (hd : (x == ("__debug__" : Str)) = false := by decide) :
    Ts prog w A env s (.Name x pos) ((y.length : Int) != 0) := fun s₁ E k => by
  refine isTrue_plain ((Ev.name L hk hx hl hd).use k fun v s₂ hv k₂ => ?_)
  obtain ⟨t, rfl⟩ := has_str.mp hv
  exact PySem.P.truthy_str (by omega) ⟨rfl, keeps_trans k₂ (keeps_toks _ _)⟩

/-- l = version.split('.') ; if build: l.append(build) ; rest -/
theorem Bd.splitAppend {s₀ : Shared} {v b l : Str} {xv xb sep : Str} {ds : List (Str × PyData)} {kk : _} {n1 n2 n3 n4 n5 p1 p2 p3 p4 p5 p6 p7 p8 : Pos} {rest : List Stmt} {Q : Flow → Shared → Prop} {E}
    (B : Bd F P s₀ env ds s) (hP : ∀ b, P b ↔ s₀.heap.get? b = none) (hk : EnvOk env) (hv : ds.lookup v = some (.str xv)) (hb : ds.lookup b = some (.str xb)) (hds : ∀ y d, ds.lookup y = some d → ∃ z, d = .str z)
    (hbl : b ≠ l) (hsep : (sep.length == 0) = false) (hsz : xv.length ≤ 100000) (hsz2 : (partsBetween xv (occurrences xv sep 0 xv.length (xv.length + 1)) sep.length).length ≤ 100000) (hsz3 : xb.length ≤ 100000) (hsz4 : (Txt.split xv sep).length ≤ 100000)
    (h : ∀ s', Bd F P s₀ env ((l, .list ((Txt.split xv sep ++ if xb.length = 0 then [] else [xb]).map .str)) :: ds) s' → wpAny (model prog w) A (execs rest env) Q E s')
    (kv : env.kindOf v = some .local := by rfl) (kb : env.kindOf b = some .local := by rfl) (kl : env.kindOf l = some .local := by rfl)
    (dv : (v == ("__debug__" : Str)) = false := by decide) (db : (b == ("__debug__" : Str)) = false := by decide) (dl : (l == ("__debug__" : Str)) = false := by decide)
    (hm1 : ∃ pl, eval (.Call (.Attribute (.Name v n2) "split" p1) [.Constant (.str sep) kk p2] [] p3) env = (do
      let ov ← eval (.Name v n2) env
      standAt p1.atName
      let (f, first) ← holding [ov] (getMethod ov "split" pl)
      callWith p3 f first (backTo p3 (starEach [.Constant (.str sep) kk p2] env)) []) := by exact ⟨_, rfl⟩)
    (hm2 : ∃ pl, eval (.Call (.Attribute (.Name l n4) "append" p5) [.Name b n5] [] p6) env = (do
      let ov ← eval (.Name l n4) env
      standAt p5.atName
      let (f, first) ← holding [ov] (getMethod ov "append" pl)
      callWith p6 f first (backTo p6 (starEach [.Name b n5] env)) []) := by exact ⟨_, rfl⟩)
    (hsw : swapsWith (.Call (.Attribute (.Name v n2) "split" p1) [.Constant (.str sep) kk p2] [] p3) (some (.Name l n1)) p4.line env = pure false := by rfl)
    (hsw2 : swapsWith (.Call (.Attribute (.Name l n4) "append" p5) [.Name b n5] [] p6) none p7.line env = pure false := by rfl)
    (hint : interactive env = false := by rfl) :
    wpAny (model prog w) A (execs (.Assign [.Name l n1] (.Call (.Attribute (.Name v n2) "split" p1) [.Constant (.str sep) kk p2] [] p3) p4 ::
      .If (.Name b n3) [.Expr (.Call (.Attribute (.Name l n4) "append" p5) [.Name b n5] [] p6) p7] [] p8 :: rest) env) Q E s := by
  have hline : ∀ n : Nat, n ≤ 100000 → n ≤ sizeLine := fun n hn => by rw [sizeLine_eq]; omega
  obtain ⟨pl, hm1⟩ := hm1
  obtain ⟨pl2, hm2⟩ := hm2
  refine wpAny_execs_cons (wpAny_Assign_Name (MethodCall_ (pl := pl) ((Ev.name B.lc hk hv kv dv).use (keeps_refl _) fun v₁ s₁ hv₁ k₁ => ?_) hm1) hsw)
  obtain ⟨t, rfl⟩ := has_str.mp hv₁
  refine GM.split ?_
  dsimp only
  show wpAny _ _ (callWith p3 (.builtin "str.split") [.str xv t] (backTo p3 ((false, eval (.Constant (.str sep) kk p2) env) :: starEach [] env)) []) _ _ _
  refine callWith_builtin (by rfl) (evalArgs_plain (spliced_cons (wpAny_Constant_str (k := kk) (pos := p2) (spliced_nil (call_split hsep (fun vs k hvs => ?_) (hline _ hsz) (hline _ hsz2))))))
  dsimp only
  generalize hs₂ : ({ heap := s₁.heap.push { cls := .type "list", data := .seq vs.toArray }, gens := s₁.gens, drawn := s₁.drawn, toks := k, os := s₁.os } : Shared) = s₂
  have k₂ : Keeps s s₂ := keeps_trans k₁ (hs₂ ▸ keeps_push s₁ _ k)
  have B₂ := B.later k₂
  obtain ⟨m, hns, hmv⟩ := B₂.lc
  have hnew : s₁.heap.get? s₁.heap.objs.size = none := fresh_size s₁
  generalize hD : s₁.heap.objs.size = D at *
  have hD0 : s₀.heap.get? D = none := by
    cases q : s₀.heap.get? D with
    | none => rfl
    | some o =>
      obtain ⟨hh, tt, e, kk⟩ := B.keep
      subst e
      obtain ⟨sl, e1⟩ := (kk D o q).2
      rw [keeps_get k₁ D _ e1] at hnew; cases hnew
  have hDget : s₂.heap.get? D = some { cls := .type "list", data := .seq vs.toArray } := by subst hs₂; rw [← hD]; exact Heap.get?_push_size _ rfl
  have hDL : env.locals ≠ D := by
    rintro e
    obtain ⟨o, es, ep, q, q2, _⟩ := hns
    rw [e, hDget] at q; cases q; cases q2
  refine wpAny_storeName_local kl hns (fun h₃ hn₃ hs₃ => ?_) (by rw [hk.kind]; rfl)
  have B₃ : Bd F P s₀ env ((l, .list ((Txt.split xv sep).map .str)) :: ds) { s₂ with heap := h₃, toks := s₂.toks + 1 } := by
    refine ⟨kp_store B₂.keep B.above hs₃, lc_store hns hmv ?_ hn₃ hs₃, B.above⟩
    exact has_list.mpr ⟨D, vs.toArray, rfl, (hP D).mpr hD0, ⟨_, hDget, rfl, _, rfl⟩, by simpa using hasAll_of_strs hvs⟩
  have hD₃ : h₃.get? D = some { cls := .type "list", data := .seq vs.toArray } := (hs₃.2 D (Ne.symm hDL)).trans hDget
  generalize hs₃' : ({ s₂ with heap := h₃, toks := s₂.toks + 1 } : Shared) = s₃ at B₃
  have hb' : ((l, PyData.list ((Txt.split xv sep).map .str)) :: ds).lookup b = some (.str xb) := by
    rw [List.lookup_cons, show (b == l) = false by simpa using hbl]; exact hb
  refine wpAny_execs_cons (if_ (Ts.name B₃.lc hk hb' (by omega) kb db) fun s₄ k₄ => ?_)
  have B₄ := B₃.later k₄
  have hD₄ : s₄.heap.get? D = some { cls := .type "list", data := .seq vs.toArray } := keeps_get k₄ _ _ (by subst hs₃'; exact hD₃)
  by_cases hz : xb.length = 0
  · rw [show ((xb.length : Int) != 0) = false by simp [hz]]
    refine execs_nil (h s₄ ?_)
    rw [if_pos hz, List.append_nil]
    exact B₄
  · rw [show ((xb.length : Int) != 0) = true by simp; exact hz]
    have hn₄ : s₄.heap.Ns env.locals (fun y => if y = l then some (.ref D) else m y) := Heap.Ns.keeps (by subst hs₃'; exact hn₃) (keeps_get k₄)
    have hL₄ : s₄.heap.IsList D vs.toArray := ⟨_, hD₄, rfl, _, rfl⟩
    rw [if_pos rfl]
    refine wpAny_execs_cons (wpAny_Expr (MethodCall_ (pl := pl2) (wpAny_Name (wpAny_loadName_local hk.kind kl hn₄ (by simp) (getMethod_list_append hD₄ rfl rfl ?_)) dl) hm2) hint hsw2)
    dsimp only
    show wpAny _ _ (callWith p6 (.builtin "list.append") [.ref D] (backTo p6 ((false, eval (.Name b n5) env) :: starEach [] env)) []) _ _ _
    refine callWith_builtin (by rfl) (evalArgs_plain (spliced_cons ((Ev.name B₄.lc hk hb' kb db).use (keeps_refl _) fun v₅ s₅ hv₅ k₅ => spliced_nil ?_)))
    obtain ⟨t₅, rfl⟩ := has_str.mp hv₅
    refine wpAny_list_append ((keeps_seq k₅).isList hL₄) (fun h₆ hL₆ hs₆ => ?_) ?_
    · refine execs_nil (h _ ⟨?_, ?_, B.above⟩)
      · exact kp_change (B₄.later k₅).keep (X := fun b => b = D) (by rintro b rfl; exact hD0) ⟨h₆, s₅.toks, rfl, fun b o hb e => (hs₆.2 b hb).trans e⟩
      · refine ⟨_, (hn₄.keeps (keeps_get k₅)).sameBut hs₆ hDL, fun y d e => ?_⟩
        rw [List.lookup_cons] at e
        by_cases hy : y = l
        · subst hy
          simp at e
          subst e
          refine ⟨.ref D, by simp, ?_⟩
          refine has_list.mpr ⟨D, _, rfl, (hP D).mpr hD0, hL₆, ?_⟩
          have := hasAll_of_strs (P := P) (h := h₆) (strsAre_append hvs (.cons xb t₅ .nil))
          simpa [if_neg hz] using this
        · rw [show (y == l) = false by simpa using hy] at e
          obtain ⟨u, hu, hU⟩ := hmv y d e
          obtain ⟨z, rfl⟩ := hds y d e
          obtain ⟨tt, rfl⟩ := has_str.mp hU
          exact ⟨.str z tt, by simp [hy, hu], has_str.mpr ⟨tt, rfl⟩⟩
    · have := strsAre_length hvs
      simp only [List.size_toArray]
      exact hline _ (by omega)
end
end Mine
end
section
open PySem PySem.W PyProof.Rows PySem.Calls PySem.Spec PySem.NumText
open Sem (wp)
set_option Elab.async false
set_option maxRecDepth 100000
set_option linter.all false
set_option maxHeartbeats 4000000
namespace Mine

/-- the written part of the heap and the names, at the start of the call -/
structure Wd (K : Frag) (mg mb : Str → Option Value) (s : Shared) : Prop where
  X : K.In s.heap
  g : s.heap.Ns mainGlobals mg
  b : s.heap.Ns builtinsNs mb
  lim : s.heap.NoLimit
  boot : ∀ x : Str, x ≠ "__name__" → mb x = bootBuiltins x
theorem Wd.keeps {K mg mb} {s s' : Shared} (x : Wd K mg mb s) (k : Keeps s s') : Wd K mg mb s' :=
  ⟨x.X.keeps (keeps_get k), x.g.keeps (keeps_get k), x.b.keeps (keeps_get k), x.lim.keeps (keeps_get k), x.boot⟩

def FnIn (K : Frag) (f : Addr) (name : Str) (params : Arguments) (body : List Stmt) (scope : Scope) (dV : Value) : Prop :=
  ∃ qual oc od osl kV doc pm an cdv ct, K.lookup f = some ⟨oc, od, .func (fnOf name qual params body scope dV kV doc pm an cdv ct), osl⟩ ∧ codeIn K cdv qual = true
structure Fd where
  name : Str
  params : Arguments
  body : List Stmt
  scope : Scope
def pick (n : Nat) : Fd := match Challenge.pw_mg0040_01.main.body[n]? with
  | some (.FunctionDef name args body _ _ _ scope _ _ _) => ⟨name, args, body, scope⟩
  | _ => ⟨"", ⟨[], [], none, [], [], none, []⟩, [], ⟨.function, [], false, false, []⟩⟩
/-- the def number n of the text lies at f -/
def IsFn (K : Frag) (f : Addr) (n : Nat) (dV : Value) : Prop := FnIn K f (pick n).name (pick n).params (pick n).body (pick n).scope dV

theorem kp_get {F : List Addr} {a b : Shared} (k : Kp F a b) {c o} (h : c ∉ F) (e : a.heap.get? c = some o) : b.heap.get? c = some o := by
  obtain ⟨h', t, rfl, k⟩ := k
  exact (k c o e).1 h

theorem Kp.base {F : List Addr} {s s₀ s' : Shared} (k : Keeps s s₀) (x : Kp F s₀ s') (hF : ∀ b ∈ F, s.heap.get? b = none) : Keeps s s' := by
  obtain ⟨h, t, rfl, k⟩ := k
  obtain ⟨h', t', rfl, k'⟩ := x
  exact ⟨h', t', rfl, fun b o e => (k' b o (k b o e)).1 fun hb => by rw [hF b hb] at e; cases e⟩
theorem Stk.pushK {A : Around} {F : List Addr} {s s' : Shared} {qual scope L f cdv m} (x : Stk A F s) (k : Kp F s s') (hn : s'.heap.Ns L m) (hk : scope.kind = .function := by rfl) : Stk (A.deeper (envOf qual scope L f cdv)) (L :: F) s' :=
  (x.kp k).push (keeps_refl _) hn hk

section
variable {prog : Program} {w : World} {A : Around} {s : Shared} {F : List Addr}

/-- as FnTo, but the call may write into the slots of the frames F -/
def FnW (prog : Program) (w : World) (A : Around) (F : List Addr) (f : Value) (ds : List PyData) (d : PyData) (s : Shared) : Prop :=
  ∀ (P : Addr → Prop) s₁ vs E, Keeps s s₁ → Stk A F s₁ → Fo P s₁ → HasAll P s₁.heap ds vs → wpAny (model prog w) A (call f vs) (fun v s' => Has P s'.heap d v ∧ Kp F s₁ s') E s₁

/-- a def of the written part, by its body: the weaker keep -/
theorem fn_defW {K : Frag} {f : Addr} {name params body scope} {dV : Value} {ds : List PyData} {d : PyData} {bd : List (Str × PyData)} (binds : List Value → List (Str × Value))
    (X : K.In s.heap) (hlim : s.heap.NoLimit) (hf : FnIn K f name params body scope dV) (hroom : A.depth < recursionLimit)
    (hbind : ∀ qual kV doc pm an cdv ct (P : Addr → Prop) s₁ vs, Keeps s s₁ → HasAll P s₁.heap ds vs → BindsTo s₁ (fnOf name qual params body scope dV kV doc pm an cdv ct) ⟨vs, []⟩ (binds vs) ∧ (∀ y ∈ binds vs, scope.names.lookup y.1 = some .local) ∧
      ∀ h', KeepSeq s₁.heap h' → ∀ x d, bd.lookup x = some d → ∃ v, (binds vs).reverse.lookup x = some v ∧ Has P h' d v)
    (hbody : ∀ qual cdv (P : Addr → Prop) s₀ s₁ L, Keeps s s₀ → Stk A F s₀ → Fo P s₀ → Stk (A.deeper (envOf qual scope L f cdv)) (L :: F) s₁ → Keeps s₀ s₁ → Bd F P s₀ (envOf qual scope L f cdv) bd s₁ →
      wpAny (model prog w) (A.deeper (envOf qual scope L f cdv)) (execs body (envOf qual scope L f cdv))
      (fun fl s' => ∃ v, fl = .ret v ∧ Has P s'.heap d v ∧ Kp F s₀ s') (fun _ _ => False) s₁)
    (hco : scope.isCoroutine = false := by rfl) (hgen : scope.isGenerator = false := by rfl) (hk : scope.kind = .function := by rfl) (hcell : ∀ x ∈ scope.names, x.2 ≠ .cell := by decide) :
    FnW prog w A F (.ref f) ds d s := fun P s₁ vs E k S fo hv => by
  obtain ⟨qual, oc, od, osl, kV, doc, pm, an, cdv, ct, hf, hcd⟩ := hf
  obtain ⟨h1, h2, h3⟩ := hbind qual kV doc pm an cdv ct P s₁ vs k hv
  have X₁ := X.keeps (keeps_get k)
  refine wpAny_call (codeAny_call_def (fd := fnOf name qual params body scope dV kV doc pm an cdv ct) (body := body) (binds := binds vs) hroom (X₁ _ _ hf) rfl (hlim.keeps (keeps_get k)) (codeRec_of X₁ hcd) rfl h1 hcell h2 (fun h₁ hns hk₁ => ?_) hco hgen hk)
  have kk : Keeps s₁ { s₁ with heap := h₁, toks := s₁.toks + (binds vs).length } := ⟨h₁, _, rfl, hk₁⟩
  refine wpAny_mono (hbody qual cdv P s₁ { s₁ with heap := h₁, toks := s₁.toks + (binds vs).length } s₁.heap.objs.size k S fo (S.push kk hns hk) kk ⟨.of kk, ⟨_, hns, h3 h₁ (.of hk₁)⟩, Heap.get?_none_of_le (Nat.le_refl _)⟩) (fun fl s' x => ?_) (fun _ _ x => x.elim)
  obtain ⟨v, rfl, x, y⟩ := x
  exact ⟨x, y⟩

theorem fn_defS {K : Frag} {f : Addr} {name params body scope} {dV : Value} {ds : List PyData} {d : PyData} {bd : List (Str × PyData)} (binds : List Value → List (Str × Value))
    (X : K.In s.heap) (hlim : s.heap.NoLimit) (hf : FnIn K f name params body scope dV) (hroom : A.depth < recursionLimit)
    (hbind : ∀ qual kV doc pm an cdv ct (P : Addr → Prop) s₁ vs, Keeps s s₁ → HasAll P s₁.heap ds vs → BindsTo s₁ (fnOf name qual params body scope dV kV doc pm an cdv ct) ⟨vs, []⟩ (binds vs) ∧ (∀ y ∈ binds vs, scope.names.lookup y.1 = some .local) ∧
      ∀ h', KeepSeq s₁.heap h' → ∀ x d, bd.lookup x = some d → ∃ v, (binds vs).reverse.lookup x = some v ∧ Has P h' d v)
    (hbody : ∀ qual cdv (P : Addr → Prop) s₀ s₁ L, Keeps s s₀ → Fo P s₀ → Bd [] P s₀ (envOf qual scope L f cdv) bd s₁ →
      wpAny (model prog w) (A.deeper (envOf qual scope L f cdv)) (execs body (envOf qual scope L f cdv))
      (fun fl s' => ∃ v, fl = .ret v ∧ Has P s'.heap d v ∧ Keeps s₀ s') (fun _ _ => False) s₁)
    (hco : scope.isCoroutine = false := by rfl) (hgen : scope.isGenerator = false := by rfl) (hk : scope.kind = .function := by rfl) (hcell : ∀ x ∈ scope.names, x.2 ≠ .cell := by decide) :
    FnTo prog w A (.ref f) ds d s := by
  obtain ⟨qual, oc, od, osl, kV, doc, pm, an, cdv, ct, hf, hcd⟩ := hf
  exact fn_def binds X hlim hf hcd hroom (fun P s₁ vs k hv => hbind qual kV doc pm an cdv ct P s₁ vs k hv) (fun P s₀ s₁ L k fo B => hbody qual cdv P s₀ s₁ L k fo B) hco hgen hk hcell
end

/-- what _norm_version gives for the parts of a version and a build -/
structure Good (l sts : List Str) : Prop where
  tx : ∀ x ∈ l, Tx x
  len : l.length ≤ 1000
  out : (Nums l sts l.length ∧ sts.length = l.length) ∨ (sts = l ∧ ∃ j y q, Nums l q j ∧ l[j]? = some y ∧ PySem.intText? y = none)
  fits : ((sts.take 3).map (·.length)).sum + 3 ≤ 100000

section
variable {prog : Program} {w : World} {A : Around} {s : Shared} {F : List Addr} {K : Frag} {mg mb : Str → Option Value} {f : Addr} {dV : Value}

theorem norm_body {qual cdv} {P : Addr → Prop} {s₀ s₁ : Shared} {L : Addr} {ver bld : Str} {sts : List Str} (W : Wd K mg mb s) (hh : A.handled = none) (k₀ : Keeps s s₀) 
    (S : Stk A F s₀)
    (hlib : mg "list" = none ∧ mg "map" = none ∧ mg "str" = none ∧ mg "int" = none ∧ mg "ValueError" = none)
    (hF : ∀ b ∈ F, s.heap.get? b = none)
    (hv : ver.length ≤ 100000) (hb : bld.length ≤ 100000) (hz : (Builtin.Str.partsBetween ver (Builtin.Str.occurrences ver "." 0 ver.length (ver.length + 1)) (Str.length ".")).length ≤ 100000) (hz2 : (Txt.split ver ".").length ≤ 100000)
    (G : Good (Txt.split ver "." ++ if bld.length = 0 then [] else [bld]) sts)
    (B : Bd F P s₀ (envOf qual (pick 2).scope L f cdv) [("version", .str ver), ("build", .str bld)] s₁) :
      wpAny (model prog w) (A.deeper (envOf qual (pick 2).scope L f cdv)) (execs (pick 2).body (envOf qual (pick 2).scope L f cdv))
      (fun fl s' => ∃ v, fl = .ret v ∧ Has P s'.heap (.str (Txt.join "." (sts.take 3))) v ∧ Kp F s₀ s') (fun _ _ => False) s₁ := by
  have hstr : ∀ (y : Str) (d : PyData), [((Str.ofString "version"), PyData.str ver), ((Str.ofString "build"), PyData.str bld)].lookup y = some d → ∃ z, d = .str z := by
    intro y d e
    rw [List.lookup_cons] at e
    split at e
    · cases e; exact ⟨_, rfl⟩
    · rw [List.lookup_cons] at e
      split at e
      · cases e; exact ⟨_, rfl⟩
      · cases e
  have B' : Bd F (fun b => s₀.heap.get? b = none) s₀ (envOf qual (pick 2).scope L f cdv) [("version", .str ver), ("build", .str bld)] s₁ := by
    refine ⟨B.keep, ?_, B.above⟩
    obtain ⟨m, hn, hm⟩ := B.lc
    refine ⟨m, hn, fun x d e => ?_⟩
    obtain ⟨v, h1, h2⟩ := hm x d e
    refine ⟨v, h1, ?_⟩
    obtain ⟨z, rfl⟩ := hstr x d e
    exact has_str.mpr (has_str.mp h2)
  have ek : EnvOk (envOf qual (pick 2).scope L f cdv) := envOf_ok rfl
  refine B'.splitAppend (v := "version") (b := "build") (l := "l") (xv := ver) (xb := bld) (sep := ".") (fun b => Iff.rfl) ek rfl rfl hstr (by decide) (by decide) hv hz hb hz2 fun s₂ B₂ => ?_
  have tail : ∀ s₃ {ds}, Bd F (fun b => s₀.heap.get? b = none) s₀ (envOf qual (pick 2).scope L f cdv) (("strings", .list (sts.map .str)) :: ds) s₃ → wpAny (model prog w) (A.deeper (envOf qual (pick 2).scope L f cdv)) (execs ((pick 2).body.drop 3) (envOf qual (pick 2).scope L f cdv))
      (fun fl s' => ∃ v, fl = .ret v ∧ Has P s'.heap (.str (Txt.join "." (sts.take 3))) v ∧ Kp F s₀ s') (fun _ _ => False) s₃ := by
    intro s₃ ds B₃
    have fo₃ : Fo (fun b => s₀.heap.get? b = none) s₃ := Fo.kp (a := s₀) (fun b e => e) B₃.keep
    refine B₃.let ek (Ev.join (ys := sts.take 3) ?_ ?_) fun s₄ B₄ => ?_
    · rw [List.map_take]
      exact Ev.upto (k := 3) (Ev.name B₃.lc ek rfl) Ev.int (by decide) (by
        have : sts.length ≤ 1000 := by
          have hl := G.len
          rcases G.out with ⟨_, e⟩ | ⟨rfl, _⟩
          · omega
          · exact hl
        rw [List.length_map, sizeLine_eq]; omega) fo₃
    · have := G.fits
      have hl : (sts.take 3).length ≤ 3 := by rw [List.length_take]; omega
      have e1 : (Str.ofString ".").length = 1 := by decide
      rw [e1]; omega
    · refine ret_ (Ev.name B₄.lc ek rfl) fun v s₅ hv₅ k₅ => ⟨v, rfl, has_str.mpr (has_str.mp hv₅), B₄.keep.trans (.of k₅)⟩
  have fo₂ : Fo (fun b => s₀.heap.get? b = none) s₂ := Fo.kp (a := s₀) (fun b e => e) B₂.keep
  have W₂ := W.keeps (B₂.keep.base k₀ hF)
  have nm : ∀ (x : Str) (v : Value), mg x = none → x ≠ "__name__" → bootBuiltins x = some v → (envOf qual (pick 2).scope L f cdv).kindOf x = some .globalImplicit → (x == ("__debug__" : Str)) = false → Nm mg mb (envOf qual (pick 2).scope L f cdv) x v :=
    fun x v a b c d e => ⟨a, (W.boot x b).trans c, d, e⟩
  have n1 := nm "list" (.type "list") hlib.1 (by decide) (by decide +kernel) rfl (by decide)
  have n2 := nm "map" (.type "map") hlib.2.1 (by decide) (by decide +kernel) rfl (by decide)
  have n3 := nm "str" (.type "str") hlib.2.2.1 (by decide) (by decide +kernel) rfl (by decide)
  have n4 := nm "int" (.type "int") hlib.2.2.2.1 (by decide) (by decide +kernel) rfl (by decide)
  have n5 := nm "ValueError" (.type "ValueError") hlib.2.2.2.2 (by decide) (by decide +kernel) rfl (by decide)
  rcases G.out with ⟨hN, hl⟩ | ⟨rfl, j, y, q, hN, hj, hy⟩
  · exact B₂.tryGood rfl hh fo₂ ek W₂.g W₂.b n1 n2 n3 n4 hN hl G.len fun s₃ B₃ _ => tail s₃ B₃
  · obtain ⟨m₂, hn₂, _⟩ := B₂.lc
    obtain ⟨outer, hfr, hF', _⟩ := id S
    exact B₂.tryBad rfl (S.pushK B₂.keep hn₂ rfl) (Around.frames_deeper hfr) rfl hh ek W₂.g W₂.b n1 n2 n3 n4 n5 hN hj (G.tx y (List.mem_of_getElem? hj)) hy G.len fun s₃ B₃ => tail s₃ B₃
end
end Mine
end
section
open PySem PySem.W PyProof.Rows PySem.Calls PySem.Spec PySem.NumText
open Sem (wp)
set_option Elab.async false
set_option maxRecDepth 100000
set_option linter.all false
set_option maxHeartbeats 4000000
namespace Mine
section
variable {prog : Program} {w : World} {A : Around} {s : Shared} {F : List Addr} {K : Frag} {mg mb : Str → Option Value} {f : Addr} {dV : Value}

structure NormIn (ver bld : Str) (sts : List Str) : Prop where
  v : ver.length ≤ 100000
  b : bld.length ≤ 100000
  z : (Builtin.Str.partsBetween ver (Builtin.Str.occurrences ver "." 0 ver.length (ver.length + 1)) (Str.length ".")).length ≤ 100000
  z2 : (Txt.split ver ".").length ≤ 100000
  g : Good (Txt.split ver "." ++ if bld.length = 0 then [] else [bld]) sts

theorem norm_two {ver bld : Str} {sts : List Str} {T : Addr} {t : Tok} (W : Wd K mg mb s) (hf : IsFn K f 2 (.ref T)) (hT : ∃ n, K.lookup T = some { cls := .type "tuple", data := .seq #[.str "" t] n }) (hh : A.handled = none) (hroom : A.depth < recursionLimit)
    (hlib : mg "list" = none ∧ mg "map" = none ∧ mg "str" = none ∧ mg "int" = none ∧ mg "ValueError" = none) (hF : ∀ b ∈ F, s.heap.get? b = none) (N : NormIn ver bld sts) :
    FnW prog w A F (.ref f) [.str ver, .str bld] (.str (Txt.join "." (sts.take 3))) s := by
  refine fn_defW (bd := [("version", .str ver), ("build", .str bld)]) (fun vs => [Str.ofString "version", Str.ofString "build"].zip vs) W.X W.lim hf hroom ?_ ?_
  · intro qual kV doc pm an cdv ct P s₁ vs k hv
    refine ⟨?_, ?_, binds_two (x := "version") (z := "build") (by decide) hv⟩
    · obtain ⟨u, v, rfl, _, _⟩ := hasAll_two hv
      obtain ⟨n, hT⟩ := hT
      exact .of_defaults rfl ((W.X.keeps (keeps_get k)) _ _ hT) rfl rfl rfl
    · obtain ⟨u, v, rfl, _, _⟩ := hasAll_two hv
      intro y hy
      simp only [List.zip_cons_cons, List.zip_nil_right, List.mem_cons, List.not_mem_nil, or_false] at hy
      rcases hy with rfl | rfl <;> rfl
  · intro qual cdv P s₀ s₁ L k₀ S fo _ _ B
    exact norm_body W hh k₀ S hlib hF N.v N.b N.z N.z2 N.g B

theorem norm_one {ver : Str} {sts : List Str} {T : Addr} {t : Tok} (W : Wd K mg mb s) (hf : IsFn K f 2 (.ref T)) (hT : ∃ n, K.lookup T = some { cls := .type "tuple", data := .seq #[.str "" t] n }) (hh : A.handled = none) (hroom : A.depth < recursionLimit)
    (hlib : mg "list" = none ∧ mg "map" = none ∧ mg "str" = none ∧ mg "int" = none ∧ mg "ValueError" = none) (hF : ∀ b ∈ F, s.heap.get? b = none) (N : NormIn ver "" sts) :
    FnW prog w A F (.ref f) [.str ver] (.str (Txt.join "." (sts.take 3))) s := by
  refine fn_defW (bd := [("version", .str ver), ("build", .str "")]) (fun vs => [Str.ofString "version", Str.ofString "build"].zip (vs ++ [.str "" t])) W.X W.lim hf hroom ?_ ?_
  · intro qual kV doc pm an cdv ct P s₁ vs k hv
    have hv2 : HasAll P s₁.heap [.str ver, .str ""] (vs ++ [.str "" t]) := by
      obtain ⟨v, rfl, hv1⟩ := hasAll_one hv
      exact hasAll_cons.mpr ⟨_, _, rfl, hv1, hasAll_cons.mpr ⟨_, _, rfl, has_str.mpr ⟨t, rfl⟩, hasAll_nil.mpr rfl⟩⟩
    obtain ⟨n, hT⟩ := hT
    refine ⟨?_, ?_, binds_two (x := "version") (z := "build") (by decide) hv2⟩
    · obtain ⟨u, rfl, _⟩ := hasAll_one hv
      exact .of_defaults rfl ((W.X.keeps (keeps_get k)) _ _ hT) rfl rfl rfl
    · obtain ⟨u, rfl, _⟩ := hasAll_one hv
      intro y hy
      simp only [List.cons_append, List.nil_append, List.zip_cons_cons, List.zip_nil_right, List.mem_cons, List.not_mem_nil, or_false] at hy
      rcases hy with rfl | rfl <;> rfl
  · intro qual cdv P s₀ s₁ L k₀ S fo _ _ B
    exact norm_body W hh k₀ S hlib hF N.v N.b N.z N.z2 N.g B
end
end Mine
end
section
open PySem PySem.W PyProof.Rows PySem.Calls PySem.Spec PySem.NumText
open Sem (wp)
set_option Elab.async false
set_option maxRecDepth 100000
set_option linter.all false
set_option maxHeartbeats 4000000
namespace Mine

/-- each entry of ds is what ds' says of its name -/
def AllIn : List (Str × PyData) → List (Str × PyData) → Prop
  | [], _ => True
  | p :: r, ds' => ds'.lookup p.1 = some p.2 ∧ AllIn r ds'
theorem AllIn.sub : ∀ {ds ds' : List (Str × PyData)}, AllIn ds ds' → ∀ x d, ds.lookup x = some d → ds'.lookup x = some d
  | [], _, _, x, d, e => by cases e
  | (y, q) :: r, ds', h, x, d, e => by
    rw [List.lookup_cons] at e
    split at e
    · rename_i hxy
      cases e
      have : x = y := by simpa using hxy
      rw [this]; exact h.1
    · exact h.2.sub x d e

section
variable {prog : Program} {w : World} {P : Addr → Prop} {A : Around} {env : Env} {s : Shared} {F : List Addr}

theorem Lc.sub {h : Heap} {ds ds' : List (Str × PyData)} (x : Lc P h env ds') (k : AllIn ds ds') : Lc P h env ds := by
  obtain ⟨m, hn, hv⟩ := x
  exact ⟨m, hn, fun y d e => hv y d (k.sub y d e)⟩
theorem Bd.sub {s₀ : Shared} {ds ds' : List (Str × PyData)} (B : Bd F P s₀ env ds' s) (k : AllIn ds ds') : Bd F P s₀ env ds s := ⟨B.keep, B.lc.sub k, B.above⟩

/-- the state with the frame's own names hidden: all else stays from here on -/
def hid (env : Env) (s : Shared) : Shared := { s with heap := s.heap.hide env.locals }
theorem hid_get {b : Addr} {o : Obj} (h : s.heap.get? b = some o) (hb : b ≠ env.locals) : (hid env s).heap.get? b = some o := (Heap.hide_ne _ hb).trans h
theorem of_hid {b : Addr} {o : Obj} (h : (hid env s).heap.get? b = some o) : s.heap.get? b = some o := Heap.of_hide h
theorem hid_keeps : Keeps (hid env s) s := ⟨s.heap, s.toks, rfl, fun b o e => of_hid e⟩
theorem Bd.rebase {s₀ : Shared} {ds} (B : Bd F P s₀ env ds s) : Bd F P (hid env s) env ds s := ⟨.of hid_keeps, B.lc, Heap.hide_self ..⟩
theorem Bd.unbase {s₀ s' : Shared} {ds ds'} (B : Bd F P s₀ env ds s) (B' : Bd F P (hid env s) env ds' s') : Bd F P s₀ env ds' s' := by
  refine ⟨?_, B'.lc, B.above⟩
  have hk := B'.keep
  have h0 := B.keep
  obtain ⟨h, t, rfl, k⟩ := h0
  obtain ⟨h', t', rfl, k'⟩ := hk
  refine ⟨h', t', rfl, fun b o e => ?_⟩
  have hb : b ≠ env.locals := by rintro rfl; rw [B.above] at e; cases e
  refine ⟨fun hf => (k' b o (hid_get ((k b o e).1 hf) hb)).1 hf, ?_⟩
  obtain ⟨sl, e1⟩ := (k b o e).2
  obtain ⟨sl', e2⟩ := (k' b _ (hid_get e1 hb)).2
  exact ⟨sl', e2⟩
theorem Fo.bd {s₀ : Shared} {ds} (f : Fo P s₀) (B : Bd F P s₀ env ds s) : Fo P s := f.kp B.keep

/-- an object of fields -/
def IsRec (h : Heap) (I : Addr) : Prop := ∃ o vs, h.get? I = some o ∧ o.data = .fields vs
theorem Bd.kx {s₀ s' : Shared} {ds} {I : Addr} (B : Bd F P s₀ env ds s) (k : KX (· = I) s s') (hI : IsRec s.heap I) (h0 : s₀.heap.get? I = none) : Bd F P s₀ env ds s' := by
  obtain ⟨o, vs, ho, hd⟩ := hI
  refine ⟨kp_change B.keep (X := (· = I)) (by rintro b rfl; exact h0) k, ?_, B.above⟩
  obtain ⟨m, hn, hv⟩ := B.lc
  obtain ⟨h', t, rfl, k'⟩ := k
  refine ⟨m, ?_, fun y d e => ?_⟩
  · obtain ⟨oL, es, ep, q, q2, r⟩ := hn
    exact ⟨oL, es, ep, k' _ _ (by rintro rfl; rw [ho] at q; cases q; rw [hd] at q2; cases q2) q, q2, r⟩
  · obtain ⟨v, e1, e2⟩ := hv y d e
    refine ⟨v, e1, e2.mono fun b ob xs n q q2 => k' b ob ?_ q⟩
    rintro rfl
    rw [ho] at q; cases q; rw [hd] at q2; cases q2

/-- an iterator at I that draws N data -/
structure Drawer (prog : Program) (w : World) (A : Around) (I : Addr) (N : Nat) (item : Nat → PyData) (At : Nat → Heap → Prop) : Prop where
  frame : ∀ {i h h'}, At i h → h'.get? I = h.get? I → At i h'
  recd : ∀ {i h}, At i h → IsRec h I
  next : ∀ {i s E}, i < N → At i s.heap → wpAny (model prog w) A (pyNext (.ref I)) (fun r s' => ∃ v, r = some v ∧ (∀ P h, Has P h (item i) v) ∧ At (i + 1) s'.heap ∧ KX (· = I) s s') E s
  done : ∀ {s E}, At N s.heap → wpAny (model prog w) A (pyNext (.ref I)) (fun r s' => r = none ∧ KX (· = I) s s') E s

/-- the objects of s at the places of q alone -/
def restr (q : Addr → Bool) (h : Heap) : Heap := hideAll h ((List.range h.objs.size).filter fun b => !q b)
theorem restr_get {q : Addr → Bool} {h : Heap} {b : Addr} {o : Obj} (e : h.get? b = some o) (hb : q b = true) : (restr q h).get? b = some o :=
  hideAll_get _ e fun hm => by
    have := (List.mem_filter.mp hm).2
    rw [hb] at this; cases this
theorem of_restr {q : Addr → Bool} {h : Heap} {b : Addr} {o : Obj} (e : (restr q h).get? b = some o) : h.get? b = some o ∧ q b = true := by
  have e1 := of_hideAll _ e
  refine ⟨e1, ?_⟩
  cases hq : q b with
  | true => rfl
  | false =>
    have hm : b ∈ (List.range h.objs.size).filter fun b => !q b := List.mem_filter.mpr ⟨List.mem_range.mpr (Heap.lt_size e1), by rw [hq]; rfl⟩
    unfold restr at e
    rw [hideAll_none _ hm] at e; cases e

/-- s₀ and the object at I, as they are in s -/
def plusAt (s₀ : Shared) (I : Addr) (s : Shared) : Shared := { s with heap := restr (fun b => (s₀.heap.get? b).isSome || b == I) s.heap }
theorem plus_keeps {s₀ : Shared} {I : Addr} : Keeps (plusAt s₀ I s) s := ⟨s.heap, s.toks, rfl, fun b o e => (of_restr e).1⟩
theorem plus_dom {s₀ : Shared} {I b : Addr} {o : Obj} (e : (plusAt s₀ I s).heap.get? b = some o) : (∃ o', s₀.heap.get? b = some o') ∨ b = I := by
  have := (of_restr e).2
  rw [Bool.or_eq_true] at this
  rcases this with h | h
  · exact .inl (Option.isSome_iff_exists.mp h)
  · exact .inr (by simpa using h)
theorem plus_kp {s₀ : Shared} {I : Addr} (k : Kp F s₀ s) : Kp F s₀ (plusAt s₀ I s) := by
  obtain ⟨h, t, rfl, k⟩ := k
  refine ⟨_, t, rfl, fun b o e => ?_⟩
  have hq : ((s₀.heap.get? b).isSome || b == I) = true := by rw [e]; rfl
  refine ⟨fun hf => restr_get ((k b o e).1 hf) hq, ?_⟩
  obtain ⟨sl, e1⟩ := (k b o e).2
  exact ⟨sl, restr_get e1 hq⟩
theorem plus_at {s₀ : Shared} {I : Addr} {o : Obj} (e : s.heap.get? I = some o) : (plusAt s₀ I s).heap.get? I = some o := restr_get e (by simp)

theorem forLoop_bd {s₀ : Shared} {I : Addr} {N k : Nat} {item : Nat → PyData} {At : Nat → Heap → Prop} {x : Str} {px : Pos} {body : List Stmt} {J : Nat → List (Str × PyData)} {Jx : List (Str × PyData)} {R : Result → Shared → Prop}
    (D : Drawer prog w A I N item At) (hk : EnvOk env) (hx : env.kindOf x = some .local) (hIF : I ∉ F) (hI0 : s₀.heap.get? I = none) (hkN : k ≤ N)
    (hbody : ∀ i, i < k → ∀ sb s E, (∀ b o, sb.heap.get? b = some o → (∃ o', s₀.heap.get? b = some o') ∨ b = I) → Kp F s₀ sb → Fo P sb → Bd F P sb env ((x, item i) :: J i) s →
      wpAny (model prog w) A (execs body env) (fun f s' => f = .next ∧ Bd F P sb env (J (i + 1)) s') E s)
    (hbrk : k < N → ∀ sb s E, (∀ b o, sb.heap.get? b = some o → (∃ o', s₀.heap.get? b = some o') ∨ b = I) → Kp F s₀ sb → Fo P sb → Bd F P sb env ((x, item k) :: J k) s →
      wpAny (model prog w) A (execs body env) (fun f s' => f = .brk ∧ Bd F P sb env Jx s') E s)
    (hend : k = N → AllIn Jx (J N)) (hPP : ∀ b, s₀.heap.get? b = none → b ≠ I → P b) (B : Bd F P s₀ env (J 0) s) (h0 : At 0 s.heap)
    (hR : ∀ s', Bd F P s₀ env Jx s' → R (.ok .next) s') :
    codeAny (model prog w) A (.forLoop (.Name x px) (.ref I) body [] env) R s := by
  refine codeAny_forLoop (I := fun n s' => ∃ i, i ≤ k ∧ n = N + 1 - i ∧ Bd F P s₀ env (J i) s' ∧ At i s'.heap) ?_ (N + 1) ⟨0, Nat.zero_le _, rfl, B, h0⟩
  rintro n s' ⟨i, hi, rfl, B', ha⟩
  have hIL : I ≠ env.locals := by
    rintro rfl
    obtain ⟨o, vs, ho, hd⟩ := D.recd ha
    obtain ⟨m, ⟨oL, es, ep, q, q2, r⟩, _⟩ := B'.lc
    rw [ho] at q; cases q; rw [hd] at q2; cases q2
  by_cases hiN : i < N
  · refine wpAny_mono (D.next hiN ha) (fun r s₁ hr => ?_) fun _ _ e => e
    obtain ⟨v, rfl, hv, ha₁, k₁⟩ := hr
    have B₁ := B'.kx k₁ (D.recd ha) hI0
    obtain ⟨oI, vsI, hoI, _⟩ := D.recd ha₁
    have Bp : Bd F P (plusAt s₀ I s₁) env (J i) s₁ := by
      refine ⟨.of plus_keeps, B₁.lc, ?_⟩
      cases q : (plusAt s₀ I s₁).heap.get? env.locals with
      | none => rfl
      | some o =>
        rcases plus_dom q with ⟨o', h'⟩ | h'
        · rw [B₁.above] at h'; cases h'
        · exact absurd h'.symm hIL
    refine wpAny_assign_Name (Bp.store (hv _ _) hk (fun s₂ B₂ => ?_) hx)
    have fin : ∀ {s₃ ds}, Bd F P (plusAt s₀ I s₁) env ds s₃ → s₃.heap.get? I = some oI := fun {s₃ ds} B₃ => kp_get B₃.keep hIF (plus_at hoI)
    have fin2 : ∀ {s₃ ds}, Bd F P (plusAt s₀ I s₁) env ds s₃ → Bd F P s₀ env ds s₃ := fun {s₃ ds} B₃ => ⟨(plus_kp B₁.keep).trans B₃.keep, B₃.lc, B₁.above⟩
    have fo₂ : Fo P (plusAt s₀ I s₁) := fun b e => hPP b (by
      cases q : s₀.heap.get? b with
      | none => rfl
      | some o =>
        obtain ⟨h', t', e', kk⟩ := plus_kp (I := I) B₁.keep
        obtain ⟨sl, e1⟩ := (kk b o q).2
        rw [e'] at e
        rw [show ({ s₀ with heap := h', toks := t' } : Shared).heap.get? b = some _ from e1] at e; cases e) (by rintro rfl; rw [plus_at hoI] at e; cases e)
    have hdom : ∀ b o, (plusAt s₀ I s₁).heap.get? b = some o → (∃ o', s₀.heap.get? b = some o') ∨ b = I := fun b o q => plus_dom q
    by_cases hik : i < k
    · refine wpAny_mono (hbody i hik (plusAt s₀ I s₁) s₂ _ hdom (plus_kp B₁.keep) fo₂ B₂) (fun f s₃ h₃ => ?_) fun _ _ e => e
      obtain ⟨rfl, B₃⟩ := h₃
      exact ⟨N + 1 - (i + 1), by omega, i + 1, hik, rfl, fin2 B₃, D.frame ha₁ (by rw [fin B₃, hoI])⟩
    · have hk' : i = k := by omega
      subst hk'
      refine wpAny_mono (hbrk hiN (plusAt s₀ I s₁) s₂ _ hdom (plus_kp B₁.keep) fo₂ B₂) (fun f s₃ h₃ => ?_) fun _ _ e => e
      obtain ⟨rfl, B₃⟩ := h₃
      exact hR s₃ (fin2 B₃)
  · have hiE : i = N := by omega
    subst hiE
    refine wpAny_mono (D.done ha) (fun r s₁ hr => ?_) fun _ _ e => e
    obtain ⟨rfl, k₁⟩ := hr
    exact execs_nil (hR s₁ ((B'.kx k₁ (D.recd ha) hI0).sub (hend (by omega))))
end
end Mine
end
section
open PySem PySem.W PyProof.Rows PySem.Calls PySem.Spec PySem.NumText
open Sem (wp)
set_option Elab.async false
set_option maxRecDepth 100000
set_option linter.all false
set_option maxHeartbeats 4000000
namespace Mine

/-- data that lie in no heap -/
def flat : PyData → Bool
  | .list _ => false
  | .tuple _ => false
  | _ => true
theorem Has.flat {P P' : Addr → Prop} {h h' : Heap} {d : PyData} {v : Value} (hf : flat d = true) (x : Has P h d v) : Has P' h' d v := by
  cases d with
  | list => cases hf
  | tuple => cases hf
  | _ => simpa only [Has] using x

theorem HasAll.flat {P P' : Addr → Prop} {h h' : Heap} : ∀ {ds : List PyData} {vs : List Value}, (∀ d ∈ ds, Mine.flat d = true) → HasAll P h ds vs → HasAll P' h' ds vs
  | [], _, _, x => by rw [hasAll_nil] at x ⊢; exact x
  | d :: ds, _, hf, x => by
    rw [hasAll_cons] at x ⊢
    obtain ⟨v, r, rfl, hv, hr⟩ := x
    exact ⟨v, r, rfl, Has.flat (hf d (.head _)) hv, HasAll.flat (fun e he => hf e (.tail _ he)) hr⟩

section
variable {prog : Program} {w : World} {P : Addr → Prop} {A : Around} {env : Env} {s : Shared} {F : List Addr}

theorem to_addInt {a b : Int} {va vb : Value} (ha : Has P s.heap (.int a) va) (hb : Has P s.heap (.int b) vb) : To prog w P A (binaryOp .Add va vb) (.int (a + b)) s := fun E => by
  obtain ⟨t, rfl⟩ := has_int.mp ha
  obtain ⟨u, rfl⟩ := has_int.mp hb
  exact add_int ⟨has_int.mpr ⟨_, rfl⟩, keeps_toks _ _⟩
theorem to_geInt {a b : Int} {va vb : Value} (ha : Has P s.heap (.int a) va) (hb : Has P s.heap (.int b) vb) : To prog w P A (compareOp .GtE va vb) (.bool (decide (b ≤ a))) s := fun E => by
  obtain ⟨t, rfl⟩ := has_int.mp ha
  obtain ⟨u, rfl⟩ := has_int.mp hb
  exact ge_int ⟨has_bool.mpr rfl, keeps_refl _⟩
theorem to_leInt {a b : Int} {va vb : Value} (ha : Has P s.heap (.int a) va) (hb : Has P s.heap (.int b) vb) : To prog w P A (compareOp .LtE va vb) (.bool (decide (a ≤ b))) s := fun E => by
  obtain ⟨t, rfl⟩ := has_int.mp ha
  obtain ⟨u, rfl⟩ := has_int.mp hb
  exact le_int ⟨has_bool.mpr rfl, keeps_refl _⟩

theorem foldl_app (n : Nat) (a : Array Value) : ∀ acc : Array Value, (List.foldl (fun x1 x2 => x1 ++ x2) acc (List.replicate n a)).toList = acc.toList ++ (List.replicate n a.toList).flatten := by
  induction n with
  | zero => intro acc; simp
  | succ n ih => intro acc; rw [List.replicate_succ, List.foldl_cons, ih, List.replicate_succ, List.flatten_cons, Array.toList_append, List.append_assoc]

/-- [0] * k -/
theorem to_mulOne {d : PyData} {k : Int} {va vb : Value} (ha : Has P s.heap (.list [d]) va) (hb : Has P s.heap (.int k) vb) (h0 : 0 ≤ k) (hk : k ≤ 100000) (fo : Fo P s) : To prog w P A (binaryOp .Mult va vb) (.list (List.replicate k.toNat d)) s := fun E => by
  obtain ⟨l, its, rfl, _, hl, ia⟩ := has_list.mp ha
  obtain ⟨u, rfl⟩ := has_int.mp hb
  obtain ⟨⟨cls, dd, data, sl⟩, ho, hc, n, hd⟩ := id hl
  simp only at hc hd
  subst hc hd
  obtain ⟨v, hits, hv⟩ := hasAll_one ia
  have hsz : its.size = 1 := by have := congrArg List.length hits; simpa using this
  have hne : its.isEmpty = false := by simp [Array.isEmpty, hsz]
  refine wpAny_binaryOp_repeat_ref (T := "list") (U := "int") (by decide) ⟨_, ho, rfl⟩ (fun s' => typeIs_int s' k u) noFill_list_mul PySem.F.fills_int_mul PySem.F.slot_int_rmul repeat_list PySem.F.slot_int_index.lookup
    (call_meets PySem.F.slot_int_rmul (typeIs_int s k u) PySem.F.entry_int_rmul (PySem.F.args_int_rmul_2 _ _) (lm_int_rmul_list_any k u l its n dd sl)
      ⟨ho, rfl, ⟨_, ho, rfl⟩, call_meets PySem.F.slot_list_mul ⟨_, ho, rfl⟩ PySem.F.entry_list_mul (PySem.F.args_list_mul_2 _ _)
        (lm_list_mul_any l its n dd sl k u (by simp [Builtin.List.listFitsIndex]; omega) (by rw [hsz]; omega) (by simp [Builtin.List.listTooLong, sizeLine, hsz]; omega))
        ⟨ho, ?_⟩⟩)
  refine ⟨has_newList fo.new ?_, keeps_push _ _ _⟩
  rw [hne, if_neg (by decide), foldl_app, hits]
  have : ∀ n : Nat, HasAll P s.heap (List.replicate n d) ((List.replicate n [v]).flatten) := by
    intro n
    induction n with
    | zero => simp [hasAll_nil]
    | succ n ih => rw [List.replicate_succ, List.replicate_succ, List.flatten_cons]; exact hasAll_cons.mpr ⟨v, _, rfl, hv, ih⟩
  simpa using this k.toNat

theorem fn_tuple {xs : List PyData} (hx : xs.length ≤ sizeLine) : FnTo prog w A (.type "tuple") [.list xs] (.tuple xs) s := fun P s₁ vs E k fo hv => by
  obtain ⟨v, rfl, hv1⟩ := hasAll_one hv
  obtain ⟨a, items, rfl, _, hl, hA⟩ := has_list.mp hv1
  have e : items.size = xs.length := by simpa using hA.length
  refine call_tuple_list hl (fun h' kk => ?_) (by omega)
  have k2 : Keeps s₁ { s₁ with heap := h' } := keeps_heap kk
  refine ⟨has_tuple.mpr ⟨_, items, rfl, (fo.later k2).new, ⟨_, Heap.get?_push_size _ rfl, rfl, _, rfl⟩, hasAll_push _ (hA.mono (.of kk))⟩, keeps_trans k2 (keeps_push { s₁ with heap := h' } _ s₁.toks)⟩

theorem HasAll.set {h : Heap} : ∀ {ds : List PyData} {vs : List Value}, HasAll P h ds vs → ∀ {i : Nat} {d v}, Has P h d v → HasAll P h (ds.set i d) (vs.set i v)
  | [], _, x, i, d, v, hd => by rw [hasAll_nil] at x; subst x; simp [hasAll_nil]
  | e :: ds, _, x, i, d, v, hd => by
    rw [hasAll_cons] at x
    obtain ⟨u, r, rfl, hv, hr⟩ := x
    cases i with
    | zero => exact hasAll_cons.mpr ⟨v, r, rfl, hd, hr⟩
    | succ i => exact hasAll_cons.mpr ⟨u, r.set i v, rfl, hv, HasAll.set hr hd⟩

/-- x[i] = e, where all but x is flat -/
theorem Bd.setFlat {s₀ : Shared} {x : Str} {nx sp pos : Pos} {ei e : Expr} {ds : List (Str × PyData)} {acc : List PyData} {k : Int} {d : PyData} {rest : List Stmt} {Q : Flow → Shared → Prop} {E}
    (B : Bd F P s₀ env ds s) (hP : ∀ b, P b → s₀.heap.get? b = none) (hk : EnvOk env) (hx : ds.lookup x = some (.list acc)) (hfl : ∀ y d, y ≠ x → ds.lookup y = some d → flat d = true)
    (hacc : ∀ d ∈ acc, flat d = true) (he : Ev prog w P A env s e d) (hd : flat d = true) (hi : Ev prog w P A env s ei (.int k)) (h0 : 0 ≤ k) (hk2 : k < acc.length) (hk3 : k < 2 ^ 63)
    (h : ∀ s', Bd F P s₀ env ((x, .list (acc.set k.toNat d)) :: ds) s' → wpAny (model prog w) A (execs rest env) Q E s')
    (kx : env.kindOf x = some .local := by rfl) (dx : (x == ("__debug__" : Str)) = false := by decide)
    (hsw : swapsWith e (some (.Subscript (.Name x nx) ei sp)) pos.line env = pure false := by rfl) :
    wpAny (model prog w) A (execs (.Assign [.Subscript (.Name x nx) ei sp] e pos :: rest) env) Q E s := by
  refine wpAny_execs_cons (wpAny_Assign_Subscript (he.use (keeps_refl _) fun v s₁ hv k₁ => ?_) hsw)
  have B₁ := B.later k₁
  obtain ⟨m, hns₁, hmv₁⟩ := B₁.lc
  obtain ⟨u, hu, hU₁⟩ := hmv₁ x _ hx
  obtain ⟨D, items, rfl, hPD, hL₁, hA₁⟩ := has_list.mp hU₁
  refine wpAny_Name (wpAny_loadName_local hk.kind kx hns₁ hu (hi.use k₁ fun iv s₃ hiv k₃ => ?_)) dx
  have B₃ := B₁.later k₃
  obtain ⟨t, rfl⟩ := has_int.mp hiv
  have hns := hns₁.keeps (keeps_get k₃)
  have hmv : ∀ y d, ds.lookup y = some d → ∃ v, m y = some v ∧ Has P s₃.heap d v := fun y d e => let ⟨v, e1, e2⟩ := hmv₁ y d e; ⟨v, e1, e2.mono (keeps_seq k₃)⟩
  have hL := (keeps_seq k₃).isList hL₁
  have hA := hA₁.mono (keeps_seq k₃)
  have hlen : items.size = acc.length := by simpa using hA.length
  refine wpAny_setItem_list hL h0 hk3 (by rw [hlen]; exact hk2) fun h₄ hL₄ hs₄ => h _ ⟨?_, ?_, B.above⟩
  · exact kp_change B₃.keep (X := (· = D)) (by rintro b rfl; exact hP _ hPD) ⟨h₄, s₃.toks, rfl, fun b o hb e => (hs₄.2 b hb).trans e⟩
  · have hDL : env.locals ≠ D := by
      rintro e
      obtain ⟨o, es, ep, q, q2, _⟩ := hns
      obtain ⟨o', q', _, n, q2'⟩ := hL
      rw [e, q'] at q; cases q; rw [q2] at q2'; cases q2'
    refine ⟨m, hns.sameBut hs₄ hDL, fun y d' e => ?_⟩
    rw [List.lookup_cons] at e
    by_cases hy : y = x
    · subst hy
      simp at e
      subst e
      refine ⟨.ref D, hu, has_list.mpr ⟨D, _, rfl, hPD, hL₄, ?_⟩⟩
      rw [Array.toList_setIfInBounds]
      exact (HasAll.flat hacc hA).set (Has.flat hd hv)
    · rw [show (y == x) = false by simpa using hy] at e
      obtain ⟨u', hu', hU'⟩ := hmv y d' e
      exact ⟨u', hu', Has.flat (hfl y d' hy e) hU'⟩
end
end Mine
end
section
open PySem PySem.W PyProof.Rows PySem.Calls PySem.Spec PySem.NumText
open Sem (wp)
set_option Elab.async false
set_option maxRecDepth 100000
set_option linter.all false
set_option maxHeartbeats 4000000
namespace Mine
def none_ : Fd := ⟨"", ⟨[], [], none, [], [], none, []⟩, [], ⟨.function, [], false, false, []⟩⟩
def defOf : Option Stmt → Fd
  | some (.FunctionDef name args body _ _ _ scope _ _ _) => ⟨name, args, body, scope⟩
  | _ => none_
def suiteOf : Option Stmt → List Stmt
  | some (.ClassDef _ _ _ body _ _ _ _ _ _ _) => body
  | _ => []
def pickI : Fd := defOf ((suiteOf (Challenge.pw_mg0040_01.main.body[4]?))[1]?)

/-- the class at C in the written part -/
structure WsIn (K : Frag) (C fI : Addr) : Prop where
  makes : makesIn K C = true
  init : findIn K (.ref C) "__init__" = some (some (.ref fI))
  fn : typeIn K (.ref fI) = some (.type "function")
  body : FnIn K fI pickI.name pickI.params pickI.body pickI.scope .none
  reads : readsIn K C (.type "type") = true
  S : ∃ t, findCls K (.ref C) (.type "type") "S" = some (.val (.str " " t))
  T : ∃ t, findCls K (.ref C) (.type "type") "T" = some (.val (.str "\t" t))
  obj : ∃ nm q N bs sn sub col dd k0 k1 k2 k3 k5 od es ep, K.lookup C = some (excClassObj nm q C N bs [.type "object"] true sn sub false col dd k0 k1 k2 k3 k5 "object.__new__") ∧ K.lookup N = some od ∧ od.data = .dict es ep ∧
    (es.toList.all fun e => match e.key with | .str _ _ => true | _ => false) = true ∧ ∀ x ∈ ([Str.ofString "__setattr__", Str.ofString "__getattribute__", Str.ofString "raw", Str.ofString "n", Str.ofString "nt", Str.ofString "norm", Str.ofString "is_simple"] : List Str), nsFind es x = none

theorem strKeys_of {es : Array DictEntry} (h : (es.toList.all fun e => match e.key with | .str _ _ => true | _ => false) = true) : StrKeys es := fun e he => by
  have := List.all_eq_true.mp h e (by simpa using he)
  cases hk : e.key with
  | str n t => exact ⟨n, t, rfl⟩
  | _ => rw [hk] at this; cases this

theorem WsIn.at {K : Frag} {C fI : Addr} {h : Heap} (H : WsIn K C fI) (XK : K.In h) : ∃ N mN, ClsAt h C N mN := by
  obtain ⟨nm, q, N, bs, sn, sub, col, dd, k0, k1, k2, k3, k5, od, es, ep, hC, hN, hes, hks, hno⟩ := H.obj
  exact ⟨N, nsFind es, ⟨nm, q, bs, sn, sub, col, dd, k0, k1, k2, k3, k5, XK _ _ hC⟩, ⟨od, es, ep, XK _ _ hN, hes, strKeys_of hks, fun _ => rfl⟩⟩
section
variable {prog : Program} {w : World} {P : Addr → Prop} {A : Around} {env : Env} {s : Shared} {F : List Addr} {K : Frag} {mg mb : Str → Option Value} {C fI : Addr}

theorem ws_store {X : Addr} {mA : Str → Option Value} {name : Str} {v : Value} {ns : List Str} {Q : Unit → Shared → Prop} {E} (H : WsIn K C fI) (XK : K.In s.heap) (hCX : X ≠ C)
    (hname : name ∈ ([Str.ofString "raw", Str.ofString "n", Str.ofString "nt", Str.ofString "norm", Str.ofString "is_simple"] : List Str)) (hB : typeLookup (.type "object") name = pure none) (I : s.heap.Inst X C mA) (hw : Within mA ns) (hns : ns.length ≤ 100)
    (hq : ∀ h' tk' , h'.Inst X C (fun y => if y = name then some v else mA y) → (∀ b o, b ≠ X → (∀ o₀ dx, s.heap.get? X = some o₀ → o₀.dict = some dx → b ≠ dx) → s.heap.get? b = some o → h'.get? b = some o) →
      (∀ o₀, s.heap.get? X = some o₀ → ∃ o₁, h'.get? X = some o₁ ∧ o₁.cls = o₀.cls ∧ o₁.data = o₀.data ∧ o₁.slots = o₀.slots ∧ ∀ dx, o₀.dict = some dx → o₁.dict = some dx) → Q () { s with heap := h', toks := tk' }) :
    wpAny (model prog w) A (setAttr (.ref X) name v) Q E s := by
  obtain ⟨nm, q, N, bs, sn, sub, col, dd, k0, k1, k2, k3, k5, od, es, ep, hC, hN, hes, hks, hno⟩ := H.obj
  obtain ⟨h, g, d, t, os⟩ := s
  have hNs : h.Ns N (nsFind es) := ⟨od, es, ep, XK _ _ hN, hes, strKeys_of hks, fun _ => rfl⟩
  exact store_attr PySem.F.store_object (XK _ _ hC) hNs (hno _ (.head _)) (hno name (by
    rcases List.mem_cons.mp hname with rfl | hname
    · simp
    · exact .tail _ (.tail _ (.tail _ hname)))) hB hCX I hq hw (by rw [sizeLine_eq]; omega)

theorem ws_load {X : Addr} {mA : Str → Option Value} {name : Str} {v : Value} {Q : Value → Shared → Prop} {E} {expr : Bool} (H : WsIn K C fI) (XK : K.In s.heap)
    (hname : name ∈ ([Str.ofString "raw", Str.ofString "n"] : List Str)) (hB : typeLookup (.type "object") name = pure none) (I : s.heap.Inst X C mA) (hv : mA name = some v) (hh : handedOut v = pure v)
    (hq : Q v { s with toks := s.toks + 1 }) : wpAny (model prog w) A (getAttr (.ref X) name expr) Q E s := by
  obtain ⟨nm, q, N, bs, sn, sub, col, dd, k0, k1, k2, k3, k5, od, es, ep, hC, hN, hes, hks, hno⟩ := H.obj
  obtain ⟨h, g, d, t, os⟩ := s
  have hNs : h.Ns N (nsFind es) := ⟨od, es, ep, XK _ _ hN, hes, strKeys_of hks, fun _ => rfl⟩
  refine load_attr (XK _ _ hC) hNs (hno _ (.tail _ (.head _))) (hno name ?_) hB I hv hh hq
  rcases List.mem_cons.mp hname with rfl | hname
  · simp
  · rcases List.mem_cons.mp hname with rfl | hname
    · simp
    · cases hname

theorem lk_raw : typeLookup (.type "object") "raw" = pure none := by rw [typeLookup_type, builtinLookup_eq_fast]; kernel_rfl
theorem lk_n : typeLookup (.type "object") "n" = pure none := by rw [typeLookup_type, builtinLookup_eq_fast]; kernel_rfl
theorem lk_nt : typeLookup (.type "object") "nt" = pure none := by rw [typeLookup_type, builtinLookup_eq_fast]; kernel_rfl
theorem lk_norm : typeLookup (.type "object") "norm" = pure none := by rw [typeLookup_type, builtinLookup_eq_fast]; kernel_rfl
theorem lk_is_simple : typeLookup (.type "object") "is_simple" = pure none := by rw [typeLookup_type, builtinLookup_eq_fast]; kernel_rfl

/-- the object at X, its own dict at dx, not to be met by data -/
structure InstX (h : Heap) (X dx C : Addr) (mA : Str → Option Value) (ns : List Str) : Prop where
  inst : h.Inst X C mA
  obj : ∃ o, h.get? X = some o ∧ o.dict = some dx ∧ o.data = .plain
  dct : ∃ o es ep, h.get? dx = some o ∧ o.data = .dict es ep
  wit : Within mA ns
  len : ns.length ≤ 100
theorem InstX.at {h h' : Heap} {X dx C mA ns} (x : InstX h X dx C mA ns) (kX : ∀ o, h.get? X = some o → h'.get? X = some o) (kd : ∀ o, h.get? dx = some o → h'.get? dx = some o) : InstX h' X dx C mA ns := by
  obtain ⟨o, ho, hd, hp⟩ := x.obj
  obtain ⟨o₁, ho₁, hc, hnc, hh⟩ := x.inst
  rw [ho] at ho₁; cases ho₁
  refine ⟨⟨o, kX _ ho, hc, hnc, ?_⟩, ⟨o, kX _ ho, hd, hp⟩, ?_, x.wit, x.len⟩
  · rcases hh with hh | ⟨d, e1, e2, e3⟩
    · exact .inl hh
    · refine .inr ⟨d, e1, e2, e3.at ?_⟩
      rw [hd] at e1; cases e1
      exact kd
  · obtain ⟨od, es, ep, h1, h2⟩ := x.dct
    exact ⟨od, es, ep, kd _ h1, h2⟩

/-- self.name = e ; rest -/
theorem Bd.setAttr {s₀ : Shared} {x name : Str} {nx ap pos : Pos} {e : Expr} {ds : List (Str × PyData)} {d : PyData} {X dx : Addr} {mA ns} {rest : List Stmt} {Q : Flow → Shared → Prop} {E}
    (B : Bd F P s₀ env ds s) (H : WsIn K C fI) (XK : K.In s.heap) (hk : EnvOk env) (hx : ds.lookup x = some (ob X)) (I : InstX s.heap X dx C mA ns) (hCX : X ≠ C) (hX0 : s₀.heap.get? X = none) (hd0 : s₀.heap.get? dx = none) (he : Ev prog w P A env s e d)
    (hname : name ∈ ([Str.ofString "raw", Str.ofString "n", Str.ofString "nt", Str.ofString "norm", Str.ofString "is_simple"] : List Str)) (hB : typeLookup (.type "object") name = pure none) (hlen : ns.length < 100) (hdL : dx ≠ env.locals)
    (h : ∀ s' v, Bd F P s₀ env ds s' → Has P s'.heap d v → InstX s'.heap X dx C (fun y => if y = name then some v else mA y) (name :: ns) → (∀ b o, b ≠ X → b ≠ dx → s.heap.get? b = some o → s'.heap.get? b = some o) → wpAny (model prog w) A (execs rest env) Q E s')
    (kx : env.kindOf x = some .local := by rfl) (hdb : (x == ("__debug__" : Str)) = false := by decide)
    (hsw : swapsWithSole [.Attribute (.Name x nx) name ap] e pos.line env = pure false := by rfl) (hw : swappedStores [.Attribute (.Name x nx) name ap] e env = pure none := by rfl)
    (ha : (assignEach [.Attribute (.Name x nx) name ap] env).map (·.2) = [PySem.assign (.Attribute (.Name x nx) name ap) env] := by rfl) :
    wpAny (model prog w) A (execs (.Assign [.Attribute (.Name x nx) name ap] e pos :: rest) env) Q E s := by
  refine wpAny_execs_cons (wpAny_Assign_stores (he.use (keeps_refl _) fun v s₁ hv k₁ => ?_) hsw hw)
  rw [ha]
  show wpAny _ _ (PySem.assign (.Attribute (.Name x nx) name ap) env v) _ _ _
  show wpAny _ _ (do
    let ov ← holding [v] (eval (.Name x nx) env)
    standAt ap.atName
    holding [v, ov] (PySem.setAttr ov name v)
    release [v, ov] []) _ _ _
  have B₁ := B.later k₁
  refine wpAny_bind (wpAny_holding ((Ev.name B₁.lc hk hx kx hdb).use (keeps_refl _) fun ov s₂ ho k₂ => ?_))
  obtain rfl := has_ob.mp ho
  have B₂ := B₁.later k₂
  have kk := keeps_trans k₁ k₂
  have I₂ := I.at (keeps_get kk X) (keeps_get kk dx)
  refine wpAny_bind (wpAny_standAt (wpAny_bind (wpAny_holding (ws_store H (XK.keeps (keeps_get kk)) hCX hname hB I₂.inst I₂.wit I₂.len fun h' tk' I' k' kX' => ?_))))
  refine wpAny_release ?_
  obtain ⟨o, hoX, hod, hop⟩ := I₂.obj
  have hkk : ∀ b ob, b ≠ X → b ≠ dx → s₂.heap.get? b = some ob → h'.get? b = some ob := fun b ob hb hbd e => k' b ob hb (fun o₀ dx' q q' => by rw [hoX] at q; cases q; rw [hod] at q'; cases q'; exact hbd) e
  have B₃ : Bd F P s₀ env ds { s₂ with heap := h', toks := tk' } := by
    refine ⟨kp_change B₂.keep (X := fun b => b = X ∨ b = dx) (fun b hb => hb.elim (fun q => q ▸ hX0) (fun q => q ▸ hd0)) ⟨h', tk', rfl, fun b ob hb e => hkk b ob (fun q => hb (.inl q)) (fun q => hb (.inr q)) e⟩, ?_, B.above⟩
    obtain ⟨m, hn, hv'⟩ := B₂.lc
    have hXL : X ≠ env.locals := by
      rintro rfl
      obtain ⟨oL, es, ep, q, q2, _⟩ := hn
      rw [hoX] at q; cases q; rw [hop] at q2; cases q2
    refine ⟨m, ?_, fun y d' e => ?_⟩
    · obtain ⟨oL, es, ep, q, r⟩ := hn
      exact ⟨oL, es, ep, hkk _ _ (Ne.symm hXL) (Ne.symm hdL) q, r⟩
    · obtain ⟨u, e1, e2⟩ := hv' y d' e
      refine ⟨u, e1, e2.mono fun b ob xs n q q2 => hkk b ob ?_ ?_ q⟩
      · rintro rfl; rw [hoX] at q; cases q; rw [hop] at q2; cases q2
      · rintro rfl
        obtain ⟨od, es, ep, q3, q4⟩ := I₂.dct
        rw [q3] at q; cases q; rw [q4] at q2; cases q2
  obtain ⟨o₁, hoX₁, hc₁, hd₁, hs₁, hdd₁⟩ := kX' o hoX
  refine h _ v B₃ ((hv.mono (keeps_seq k₂)).mono fun b ob xs n q q2 => hkk b ob ?_ ?_ q) ⟨I', ⟨o₁, hoX₁, hdd₁ dx hod, hd₁.trans hop⟩, ?_, Within.cons name v I₂.wit, by simp; omega⟩ fun b ob hb hbd e => hkk b ob hb hbd (keeps_get kk b ob e)
  · rintro rfl; rw [hoX] at q; cases q; rw [hop] at q2; cases q2
  · rintro rfl
    obtain ⟨od, es, ep, q3, q4⟩ := I₂.dct
    rw [q3] at q; cases q; rw [q4] at q2; cases q2
  · obtain ⟨o₂, h₂, _, _, hh⟩ := I'
    rw [hoX₁] at h₂; cases h₂
    rcases hh with ⟨e, _⟩ | ⟨d₂, e1, _, od, es, ep, h3, h4, _⟩
    · rw [hdd₁ dx hod] at e; cases e
    · rw [hdd₁ dx hod] at e1; cases e1; exact ⟨od, es, ep, h3, h4⟩
end
end Mine
end
section
open PySem PySem.W PyProof.Rows PySem.Calls PySem.Spec PySem.NumText
open Sem (wp)
set_option Elab.async false
set_option maxRecDepth 100000
set_option linter.all false
set_option maxHeartbeats 4000000
namespace Mine
section
variable {prog : Program} {w : World} {P : Addr → Prop} {A : Around} {env : Env} {s : Shared} {F : List Addr}

theorem drawer_str (hh : A.handled = none) {I : Addr} {y : Str} {t : Tok} : Drawer prog w A I y.cps.size (fun i => .str ⟨#[y.cps.getD i 0]⟩) (fun i h => h.IsStrIter I "str_ascii_iterator" y t i) where
  frame := fun {i h h'} ⟨o, ho, r⟩ e => ⟨o, e.trans ho, r⟩
  recd := fun {i h} ⟨o, ho, hc, hd⟩ => ⟨o, _, ho, hd⟩
  next := fun {i s E} hi ha => by
    have hx : y.cps[i]? = some (y.cps.getD i 0) := by simp [Array.getD, hi]
    exact wpAny_pyNext_ascii_item ha hx fun h' hi' hs => ⟨_, rfl, fun P h => has_str.mpr ⟨_, rfl⟩, hi', .both fun b o hb e => (hs.2 b hb).trans e⟩
  done := fun {s E} ha => wpAny_pyNext_ascii_end hh ha (by simp) fun h' he => ⟨rfl, .heap fun b o hb e => he b o hb e⟩

theorem drawer_range (hh : A.handled = none) {I : Addr} {a : Int} {N : Nat} : Drawer prog w A I N (fun i => .int (a + i)) (fun i h => IsRangeIter h I (a + i) ((N : Int) - i) 1) where
  frame := fun {i h h'} ha e => e.trans ha
  recd := fun {i h} ha => ⟨_, _, ha, rfl⟩
  next := fun {i s E} hi ha => wpAny_pyNext_range_item ha (by omega) fun h' hi' hs => ⟨_, rfl, fun P h => has_int.mpr ⟨_, rfl⟩, by
      have e1 : a + (i : Int) + 1 = a + ((i + 1 : Nat) : Int) := by omega
      have e2 : (N : Int) - i - 1 = (N : Int) - ((i + 1 : Nat) : Int) := by omega
      rw [e1, e2] at hi'; exact hi', .both fun b o hb e => (hs.2 b hb).trans e⟩
  done := fun {s E} ha => wpAny_pyNext_range_end hh ha (by omega) fun h' he => ⟨rfl, .heap fun b o hb e => he b o hb e⟩

theorem fresh_of_kp {s₀ : Shared} {b : Addr} (k : Kp F s₀ s) (e : s.heap.get? b = none) : s₀.heap.get? b = none := by
  cases q : s₀.heap.get? b with
  | none => rfl
  | some o =>
    obtain ⟨h', t', rfl, kk⟩ := k
    obtain ⟨sl, e1⟩ := (kk b o q).2
    rw [e1] at e; cases e

/-- for x in e: body ; rest, where e is a text -/
theorem Bd.forStr {s₀ : Shared} {x : Str} {px pos : Pos} {iter : Expr} {body rest : List Stmt} {y : Str} {k : Nat} {J : Nat → List (Str × PyData)} {Jx : List (Str × PyData)} {Q : Flow → Shared → Prop} {E}
    (B : Bd F P s₀ env (J 0) s) (hP : ∀ b, P b ↔ s₀.heap.get? b = none) (hk : EnvOk env) (hh : A.handled = none) (hF : ∀ b ∈ F, ∃ o, s.heap.get? b = some o)
    (hev : ∀ (Q' : Value → Shared → Prop) E', (∀ s₁ t, Keeps s s₁ → Q' (.str y t) s₁) → wpAny (model prog w) A (eval iter env) Q' E' s) (hy : y.cps.all (· < 128) = true) (hkN : k ≤ y.cps.size)
    (hbody : ∀ (P' : Addr → Prop) i, i < k → ∀ sb s E, (∀ b, P' b → sb.heap.get? b = none) → Kp F s₀ sb → Fo P' sb → Bd F P' sb env ((x, .str ⟨#[y.cps.getD i 0]⟩) :: J i) s →
      wpAny (model prog w) A (execs body env) (fun f s' => f = .next ∧ Bd F P' sb env (J (i + 1)) s') E s)
    (hbrk : k < y.cps.size → ∀ (P' : Addr → Prop) sb s E, (∀ b, P' b → sb.heap.get? b = none) → Kp F s₀ sb → Fo P' sb → Bd F P' sb env ((x, .str ⟨#[y.cps.getD k 0]⟩) :: J k) s →
      wpAny (model prog w) A (execs body env) (fun f s' => f = .brk ∧ Bd F P' sb env Jx s') E s)
    (hend : k = y.cps.size → AllIn Jx (J y.cps.size))
    (h : ∀ s', Bd F P s₀ env Jx s' → wpAny (model prog w) A (execs rest env) Q E s')
    (hx : env.kindOf x = some .local := by rfl) (hs : ∀ x, foldedSetIterable iter env x = pure x := by intro _; rfl) :
    wpAny (model prog w) A (execs (.For (.Name x px) iter body [] pos :: rest) env) Q E s := by
  refine wpAny_execs_cons (wpAny_For (hev _ _ fun s₁ t k₁ => wpAny_pyIter_ascii hy ?_) hs)
  have hI0 : s₁.heap.get? s₁.heap.objs.size = none := fresh_size s₁
  have hI : (s₁.heap.push { cls := .type "str_ascii_iterator", data := .fields #[.str y t, .int 0 0] }).IsStrIter s₁.heap.objs.size "str_ascii_iterator" y t 0 := ⟨_, Heap.get?_push_size _ rfl, rfl, rfl⟩
  generalize s₁.heap.objs.size = I at hI0 hI
  have B₁ := B.later k₁
  have hI00 : s₀.heap.get? I = none := fresh_of_kp B₁.keep hI0
  have B₂ : Bd F (fun b => P b ∧ b ≠ I) s₀ env (J 0) { s₁ with heap := s₁.heap.push { cls := .type "str_ascii_iterator", data := .fields #[.str y t, .int 0 0] } } := by
    have := B₁.later (keeps_push s₁ { cls := .type "str_ascii_iterator", data := .fields #[.str y t, .int 0 0] } s₁.toks)
    refine ⟨this.keep, ?_, this.above⟩
    obtain ⟨m, hn, hv⟩ := B₁.lc
    refine ⟨m, hn.keeps fun b o e => Heap.get?_push_of_some _ e, fun z d e => ?_⟩
    obtain ⟨v, e1, e2⟩ := hv z d e
    exact ⟨v, e1, e2.go fun b o xs n q _ p => ⟨Heap.get?_push_of_some _ q, p, by rintro rfl; rw [hI0] at q; cases q⟩⟩
  have hP' : ∀ {sb : Shared}, (∀ b o, sb.heap.get? b = some o → (∃ o', s₀.heap.get? b = some o') ∨ b = I) → ∀ b, (P b ∧ b ≠ I) → sb.heap.get? b = none := fun {sb} hd b hb => by
    cases q : sb.heap.get? b with
    | none => rfl
    | some o =>
      rcases hd b o q with ⟨o', h'⟩ | h'
      · rw [(hP b).mp hb.1] at h'; cases h'
      · exact absurd h' hb.2
  refine forLoop_bd (k := k) (J := J) (Jx := Jx) (s₀ := s₀) (P := fun b => P b ∧ b ≠ I) (F := F) (drawer_str hh (I := I) (y := y) (t := t)) hk hx ?_ hI00 hkN ?_ ?_ hend ?_ B₂ hI ?_
  · intro hf
    obtain ⟨o, ho⟩ := hF I hf
    rw [keeps_get k₁ _ _ ho] at hI0; cases hI0
  · exact fun i hi sb s' E hd kp fo B => hbody _ i hi sb s' E (hP' hd) kp fo B
  · exact fun hi sb s' E hd kp fo B => hbrk hi _ sb s' E (hP' hd) kp fo B
  · exact fun b e hb => ⟨(hP b).mpr e, hb⟩
  · intro s' B'
    refine h s' ⟨B'.keep, ?_, B'.above⟩
    obtain ⟨m, hn, hv⟩ := B'.lc
    exact ⟨m, hn, fun z d e => let ⟨v, e1, e2⟩ := hv z d e; ⟨v, e1, e2.go fun b o xs n q _ p => ⟨q, p.1⟩⟩⟩
end
end Mine
end
section
open PySem PySem.W PyProof.Rows PySem.Calls PySem.Spec PySem.NumText
open Sem (wp)
set_option Elab.async false
set_option maxRecDepth 100000
set_option linter.all false
set_option maxHeartbeats 4000000
namespace Mine

/-- what Whitespace's loop keeps -/
structure W4 where
  cnt : List Int
  b : Int
  n : Int
  nt : Int
def grow (cnt : List Int) (b : Int) : List Int := if (cnt.length : Int) ≤ b then cnt ++ List.replicate (b - cnt.length + 1).toNat 0 else cnt
def W4.step (st : W4) (c : Nat) : W4 :=
  if c = 32 then ⟨st.cnt, st.b + 1, st.n + 1, st.nt⟩
  else ⟨(grow st.cnt st.b).set st.b.toNat ((grow st.cnt st.b).getD st.b.toNat 0 + 1), 0, st.n + 1, st.nt + 1⟩
structure W4.Ok (st : W4) (i : Nat) : Prop where
  n : st.n = i
  b0 : 0 ≤ st.b
  b1 : st.b ≤ i
  len : st.cnt.length ≤ i + 1
theorem grow_len {cnt : List Int} {b : Int} (h : 0 ≤ b) : b < (grow cnt b).length ∧ ((grow cnt b).length : Int) ≤ max (cnt.length : Int) (b + 1) := by
  unfold grow
  split
  · simp only [List.length_append, List.length_replicate]; omega
  · omega
theorem W4.Ok.step {st : W4} {i : Nat} (h : st.Ok i) (c : Nat) : (st.step c).Ok (i + 1) := by
  obtain ⟨h1, h2, h3, h4⟩ := h
  unfold W4.step
  split
  · exact ⟨by simp [h1], by simp; omega, by simp; omega, by simp; omega⟩
  · have := grow_len (cnt := st.cnt) h2
    exact ⟨by simp [h1], by simp, by simp; omega, by simp only [List.length_set]; omega⟩
def wsAt (cs : List Nat) : W4 := cs.foldl W4.step ⟨[], 0, 0, 0⟩
theorem wsAt_ok : ∀ (cs : List Nat), (wsAt cs).Ok cs.length := by
  have : ∀ (cs : List Nat) (st : W4) (i : Nat), st.Ok i → (cs.foldl W4.step st).Ok (i + cs.length) := by
    intro cs
    induction cs with
    | nil => intro st i h; simpa using h
    | cons c cs ih => intro st i h; have := ih _ _ (h.step c); simpa [Nat.add_assoc, Nat.add_comm 1] using this
  intro cs
  have h := this cs ⟨[], 0, 0, 0⟩ 0 ⟨rfl, by decide, by decide, by decide⟩
  rw [Nat.zero_add] at h; exact h
theorem wsAt_succ {cs : List Nat} {i : Nat} {c : Nat} (h : cs[i]? = some c) : wsAt (cs.take (i + 1)) = (wsAt (cs.take i)).step c := by
  unfold wsAt
  rw [List.take_add_one, h, List.foldl_append]; rfl

abbrev Jw (X : Addr) (y : Str) (st : W4) : List (Str × PyData) :=
  [("count", .list (st.cnt.map .int)), ("b", .int st.b), ("n", .int st.n), ("nt", .int st.nt), ("S", .str " "), ("T", .str "\t"), ("self", ob X), ("ws", .str y)]

section
variable {prog : Program} {w : World} {P : Addr → Prop} {A : Around} {s sW : Shared} {F : List Addr} {K : Frag} {mg mb : Str → Option Value} {C fI f : Addr} {qual : Str} {cdv : Value} {L X : Addr} {y : Str}

def bodyOf : Option Stmt → List Stmt
  | some (.For _ _ body _ _) => body
  | _ => []
def forBody : List Stmt := bodyOf (pickI.body[4]?)

theorem turn_space {sb : Shared} {st : W4} {E} (B : Bd F P sb (envOf qual pickI.scope L f cdv) (("ch", .str ⟨#[32]⟩) :: Jw X y st) s) :
    wpAny (model prog w) A (execs forBody (envOf qual pickI.scope L f cdv)) (fun f' s' => f' = .next ∧ Bd F P sb (envOf qual pickI.scope L f cdv) (Jw X y (st.step 32)) s') E s := by
  have ek : EnvOk (envOf qual pickI.scope L f cdv) := envOf_ok rfl
  refine wpAny_execs_cons ?_
  refine if_ (Ts.cmp (Ev.name B.lc ek rfl) (Ev.name B.lc ek rfl) (fun s₁ va vb k ha hb => to_eqStr ha hb)) fun s₁ k₁ => ?_
  rw [show ((⟨#[32]⟩ : Str) == Str.ofString " ") = true by decide]
  have B₁ := B.later k₁
  refine B₁.let ek (Ev.bin (Ev.name B₁.lc ek rfl) Ev.int (fun s va vb k ha hb => to_addInt ha hb)) fun s₂ B₂ => ?_
  refine B₂.let ek (Ev.bin (Ev.name B₂.lc ek rfl) Ev.int (fun s va vb k ha hb => to_addInt ha hb)) fun s₃ B₃ => ?_
  exact execs_nil (execs_nil ⟨rfl, B₃.sub ⟨rfl, rfl, rfl, rfl, rfl, rfl, rfl, rfl, trivial⟩⟩)

theorem turn_break {sb : Shared} {st : W4} {c : Nat} {E} (h1 : c ≠ 32) (h2 : c ≠ 9) (B : Bd F P sb (envOf qual pickI.scope L f cdv) (("ch", .str ⟨#[c]⟩) :: Jw X y st) s) :
    wpAny (model prog w) A (execs forBody (envOf qual pickI.scope L f cdv)) (fun f' s' => f' = .brk ∧ Bd F P sb (envOf qual pickI.scope L f cdv) (Jw X y st) s') E s := by
  have ek : EnvOk (envOf qual pickI.scope L f cdv) := envOf_ok rfl
  refine wpAny_execs_cons ?_
  refine if_ (Ts.cmp (Ev.name B.lc ek rfl) (Ev.name B.lc ek rfl) (fun s₁ va vb k ha hb => to_eqStr ha hb)) fun s₁ k₁ => ?_
  have e1 : ((⟨#[c]⟩ : Str) == Str.ofString " ") = false := by
    rw [beq_eq_false_iff_ne]; intro e; apply h1
    have := congrArg (fun x : Str => x.cps.getD 0 0) e
    exact this
  have e2 : ((⟨#[c]⟩ : Str) == Str.ofString "\t") = false := by
    rw [beq_eq_false_iff_ne]; intro e; apply h2
    have := congrArg (fun x : Str => x.cps.getD 0 0) e
    exact this
  rw [e1]
  have B₁ := B.later k₁
  refine wpAny_execs_cons ?_
  refine if_ (Ts.cmp (Ev.name B₁.lc ek rfl) (Ev.name B₁.lc ek rfl) (fun s₁ va vb k ha hb => to_eqStr ha hb)) fun s₂ k₂ => ?_
  rw [e2]
  have B₂ := B₁.later k₂
  refine wpAny_execs_cons ?_
  exact wpAny_Break ⟨rfl, B₂.sub ⟨rfl, rfl, rfl, rfl, rfl, rfl, rfl, rfl, trivial⟩⟩
end
end Mine
end
section
open PySem PySem.W PyProof.Rows PySem.Calls PySem.Spec PySem.NumText
open Sem (wp)
set_option Elab.async false
set_option maxRecDepth 100000
set_option linter.all false
set_option maxHeartbeats 4000000
namespace Mine
section
variable {prog : Program} {w : World} {P : Addr → Prop} {A : Around} {s sW : Shared} {F : List Addr} {K : Frag} {mg mb : Str → Option Value} {C fI f : Addr} {qual : Str} {cdv : Value} {L X : Addr} {y : Str}

theorem ev_len {env : Env} {e : Expr} {np pos : Pos} {xs : List PyData} (W : Wd K mg mb s) (ek : EnvOk env) (hl : mg "len" = none) (he : Ev prog w P A env s e (.list xs)) (fo : Fo P s) (hx : xs.length ≤ sizeLine) (hk : env.kindOf "len" = some .globalImplicit := by rfl)
    (hs : starEach [e] env = (false, eval e env) :: starEach [] env := by rfl) :
    Ev prog w P A env s (.Call (.Name "len" np) [e] [] pos) (.int xs.length) :=
  Ev.callBuiltin ek W.g W.b hl ((W.boot "len" (by decide)).trans (by decide +kernel)) (EvL.cons he EvL.nil hs) (fn_lenList hx) fo hk (by decide) hs (by intro _; rfl)

theorem flats {xs : List Int} : ∀ d ∈ xs.map PyData.int, flat d = true := by
  intro d hd
  obtain ⟨i, _, rfl⟩ := List.mem_map.mp hd
  rfl

def elseOf : Option Stmt → List Stmt
  | some (.If _ _ o _) => o
  | _ => []
def thenOf : Option Stmt → List Stmt
  | some (.If _ b _ _) => b
  | _ => []
def tabBody : List Stmt := thenOf ((elseOf (forBody[0]?))[0]?)

theorem flat_lookup {x : Str} : ∀ {ds : List (Str × PyData)}, (ds.all fun p => p.1 == x || flat p.2) = true → ∀ y d, y ≠ x → ds.lookup y = some d → flat d = true
  | [], _, y, d, _, e => by cases e
  | (z, q) :: r, h, y, d, hy, e => by
    rw [List.all_cons, Bool.and_eq_true] at h
    rw [List.lookup_cons] at e
    split at e
    · rename_i hz
      cases e
      have : y = z := by simpa using hz
      have h1 := h.1
      rw [Bool.or_eq_true] at h1
      rcases h1 with h1 | h1
      · exact absurd (this.trans (by simpa using h1)) hy
      · exact h1
    · exact flat_lookup h.2 y d hy e

theorem turn_tab {sb : Shared} {st : W4} {i : Nat} {E} (W : Wd K mg mb sW) (kW : Keeps sW sb) (hF : ∀ b ∈ F, sW.heap.get? b = none) (hl : mg "len" = none) (hP : ∀ b, P b → sb.heap.get? b = none) (fo : Fo P sb) (ok : st.Ok i) (hi : i ≤ 50000)
    (B : Bd F P sb (envOf qual pickI.scope L f cdv) (("ch", .str ⟨#[9]⟩) :: Jw X y st) s) :
    wpAny (model prog w) A (execs forBody (envOf qual pickI.scope L f cdv)) (fun f' s' => f' = .next ∧ Bd F P sb (envOf qual pickI.scope L f cdv) (Jw X y (st.step 9)) s') E s := by
  have ek : EnvOk (envOf qual pickI.scope L f cdv) := envOf_ok rfl
  have wd : ∀ {s' ds}, Bd F P sb (envOf qual pickI.scope L f cdv) ds s' → Wd K mg mb s' := fun B' => W.keeps (B'.keep.base kW hF)
  have foo : ∀ {s' ds}, Bd F P sb (envOf qual pickI.scope L f cdv) ds s' → Fo P s' := fun B' => fo.kp B'.keep
  obtain ⟨o1, o2, o3, o4⟩ := ok
  have hcl : (st.cnt.map PyData.int).length ≤ sizeLine := by rw [List.length_map, sizeLine_eq]; omega
  refine wpAny_execs_cons ?_
  refine if_ (Ts.cmp (Ev.name B.lc ek rfl) (Ev.name B.lc ek rfl) (fun s₁ va vb k ha hb => to_eqStr ha hb)) fun s₁ k₁ => ?_
  rw [show ((⟨#[9]⟩ : Str) == Str.ofString " ") = false by decide]
  have B₁ := B.later k₁
  refine wpAny_execs_cons ?_
  refine if_ (Ts.cmp (Ev.name B₁.lc ek rfl) (Ev.name B₁.lc ek rfl) (fun s₁ va vb k ha hb => to_eqStr ha hb)) fun s₂ k₂ => ?_
  rw [show ((⟨#[9]⟩ : Str) == Str.ofString "\t") = true by decide]
  have B₂ := B₁.later k₂
  refine B₂.let ek (Ev.bin (Ev.name B₂.lc ek rfl) Ev.int (fun s va vb k ha hb => to_addInt ha hb)) fun s₃ B₃ => ?_
  refine B₃.let ek (Ev.bin (Ev.name B₃.lc ek rfl) Ev.int (fun s va vb k ha hb => to_addInt ha hb)) fun s₄ B₄ => ?_
  have tail : ∀ s₆, Bd F P sb (envOf qual pickI.scope L f cdv) (Jw X y ⟨grow st.cnt st.b, st.b, st.n + 1, st.nt + 1⟩) s₆ →
      wpAny (model prog w) A (execs (tabBody.drop 3) (envOf qual pickI.scope L f cdv)) (fun f' s' => f' = .next ∧ Bd F P sb (envOf qual pickI.scope L f cdv) (Jw X y (st.step 9)) s') E s₆ := by
    intro s₆ B₆
    obtain ⟨g1, g2⟩ := grow_len (cnt := st.cnt) o2
    have hget : ((grow st.cnt st.b).map PyData.int)[st.b.toNat]? = some (.int ((grow st.cnt st.b).getD st.b.toNat 0)) := by
      have : st.b.toNat < (grow st.cnt st.b).length := by omega
      simp [List.getD, List.getElem?_eq_getElem this]
    refine B₆.setFlat (x := "count") (d := .int ((grow st.cnt st.b).getD st.b.toNat 0 + 1)) hP ek rfl (flat_lookup rfl) flats
      (Ev.bin (Ev.idx (Ev.name B₆.lc ek rfl) (Ev.name B₆.lc ek rfl) o2 (by show st.b < 2 ^ 63; omega) hget) Ev.int (fun s va vb k ha hb => to_addInt ha hb)) rfl (Ev.name B₆.lc ek rfl) o2 (by show st.b < _; rw [List.length_map]; omega) (by show st.b < 2 ^ 63; omega) fun s₇ B₇ => ?_
    rw [show (List.map PyData.int (grow st.cnt st.b)).set st.b.toNat (.int ((grow st.cnt st.b).getD st.b.toNat 0 + 1)) = ((grow st.cnt st.b).set st.b.toNat ((grow st.cnt st.b).getD st.b.toNat 0 + 1)).map .int from (List.map_set).symm] at B₇
    refine B₇.let ek Ev.int fun s₈ B₈ => ?_
    exact execs_nil ⟨rfl, B₈.sub ⟨rfl, rfl, rfl, rfl, rfl, rfl, rfl, rfl, trivial⟩⟩
  refine wpAny_execs_cons ?_
  refine if_ (Ts.cmp (Ev.name B₄.lc ek rfl) (ev_len (wd B₄) ek hl (Ev.name B₄.lc ek rfl) (foo B₄) hcl) (fun s₁ va vb k ha hb => to_geInt ha hb)) fun s₅ k₅ => ?_
  have B₅ := B₄.later k₅
  by_cases hb : (st.cnt.length : Int) ≤ st.b
  · rw [show decide (((List.map PyData.int st.cnt).length : Int) ≤ st.b) = true by rw [List.length_map]; exact decide_eq_true hb]
    refine B₅.let ek (Ev.bin (Ev.name B₅.lc ek rfl) (Ev.bin (Ev.lst (foo B₅) (EvL.cons Ev.int EvL.nil)) (Ev.bin (Ev.bin (Ev.name B₅.lc ek rfl) (ev_len (wd B₅) ek hl (Ev.name B₅.lc ek rfl) (foo B₅) hcl) (fun s va vb k ha hb => to_sub ha hb)) Ev.int (fun s va vb k ha hb => to_addInt ha hb))
      (fun s va vb k ha hb' => to_mulOne ha hb' (by rw [List.length_map]; omega) (by rw [List.length_map]; omega) ((foo B₅).later k))) (fun s va vb k ha hb' => to_addList ha hb' (by rw [List.length_map, List.length_replicate, sizeLine_eq]; omega) ((foo B₅).later k))) fun s₆ B₆ => ?_
    refine execs_nil (wpAny_mono (tail s₆ (B₆.sub ⟨?_, rfl, rfl, rfl, rfl, rfl, rfl, rfl, trivial⟩)) (fun f' s' hq => ?_) fun _ _ e => e)
    · show some _ = some _
      unfold grow
      rw [if_pos hb, List.map_append, List.map_replicate, List.length_map]
    · obtain ⟨rfl, hB⟩ := hq
      exact execs_nil (execs_nil ⟨rfl, hB⟩)
  · rw [show decide (((List.map PyData.int st.cnt).length : Int) ≤ st.b) = false by rw [List.length_map]; exact decide_eq_false hb]
    refine execs_nil (wpAny_mono (tail s₅ (B₅.sub ⟨?_, rfl, rfl, rfl, rfl, rfl, rfl, rfl, trivial⟩)) (fun f' s' hq => ?_) fun _ _ e => e)
    · show some _ = some _
      unfold grow
      rw [if_neg hb]
    · obtain ⟨rfl, hB⟩ := hq
      exact execs_nil (execs_nil ⟨rfl, hB⟩)
end
end Mine
end
section
open PySem PySem.W PyProof.Rows PySem.Calls PySem.Spec PySem.NumText
open Sem (wp)
set_option Elab.async false
set_option maxRecDepth 100000
set_option linter.all false
set_option maxHeartbeats 4000000
namespace Mine
section
variable {prog : Program} {w : World} {P : Addr → Prop} {A : Around} {env : Env} {s sW : Shared} {F : List Addr} {K : Frag} {mg mb : Str → Option Value} {C fI f : Addr} {qual : Str} {cdv : Value} {L X : Addr} {y : Str}

theorem Ev.cmp {l r op pos dl dr d} (hl : Ev prog w P A env s l dl) (hr : Ev prog w P A env s r dr)
    (ho : ∀ s₁ va vb, Keeps s s₁ → Has P s₁.heap dl va → Has P s₁.heap dr vb → To prog w P A (compareOp op va vb) d s₁) (hm : behindInMarks op r = false := by with_unfolding_all rfl) :
    Ev prog w P A env s (.Compare l [op] [r] pos) d := fun s₁ E k =>
  wpAny_Compare1 (hl.use k fun va s₂ ha k₂ => hr.use (keeps_trans k k₂) fun vb s₃ hb k₃ =>
    wpAny_mono (ho s₃ va vb (keeps_trans k (keeps_trans k₂ k₃)) (ha.mono (keeps_seq k₃)) hb E) (fun v s' y => ⟨y.1, keeps_trans k₂ (keeps_trans k₃ y.2)⟩) fun _ _ y => y) hm

/-- a, b = e ; rest (the stores swapped) -/
theorem Bd.letPair {s₀ : Shared} {ds : List (Str × PyData)} {x z : Str} {px pz tp pos : Pos} {kk : Nat} {e : Expr} {d d2 : PyData} {rest : List Stmt} {Q : Flow → Shared → Prop} {E} (B : Bd F P s₀ env ds s) (hk : EnvOk env) (hh : A.handled = none) (hf : flat d = true)
    (he : Ev prog w P A env s e (.tuple [d, d2])) (h : ∀ s', Bd F P s₀ env ((x, d) :: (z, d2) :: ds) s' → wpAny (model prog w) A (execs rest env) Q E s')
    (kx : env.kindOf x = some .local := by rfl) (kz : env.kindOf z = some .local := by rfl)
    (hs : swapsWithSole [.Tuple [.Name x px, .Name z pz] kk tp] e pos.line env = pure false := by rfl) (hw : swappedStores [.Tuple [.Name x px, .Name z pz] kk tp] e env = pure (some [x, z]) := by rfl) :
    wpAny (model prog w) A (execs (.Assign [.Tuple [.Name x px, .Name z pz] kk tp] e pos :: rest) env) Q E s := by
  refine wpAny_execs_cons (Assign_Tuple_swapped (he.use (keeps_refl _) fun v s₁ hv k₁ => ?_) hs hw)
  obtain ⟨a, items, rfl, _, hT, hA⟩ := has_tuple.mp hv
  obtain ⟨u1, u2, hu, h1, h2⟩ := hasAll_two hA
  have hsz : items.size = 2 := by have := congrArg List.length hu; simpa using this
  show wpAny _ _ (unpackItems (.ref a) 2 none) _ _ _
  rw [← hsz]
  refine unpackItems_tuple hh hT fun h₂ he₂ => ?_
  have k₂ : Keeps s₁ { s₁ with heap := h₂ } := keeps_heap fun b o q => he₂ b o (Nat.ne_of_lt (Heap.lt_size q)) q
  have B₂ := (B.later k₁).later k₂
  rw [hu]
  show wpAny _ _ (assignInOrder [fun v => bindName env z v, fun v => bindName env x v] [u2, u1]) _ _ _
  unfold assignInOrder
  refine wpAny_bind (wpAny_holding (wpAny_bindName (B₂.store (h2.mono (keeps_seq k₂)) hk (fun s₃ B₃ => ?_) kz)))
  unfold assignInOrder
  have h1' : Has P s₃.heap d u1 := Has.flat hf h1
  refine wpAny_bind (wpAny_holding (wpAny_bindName (B₃.store h1' hk (fun s₄ B₄ => ?_) kx)))
  unfold assignInOrder
  exact wpAny_pure (h s₄ B₄)

/-- a = b = c = e ; rest -/
theorem Bd.let3 {s₀ : Shared} {ds : List (Str × PyData)} {x1 x2 x3 : Str} {q1 q2 q3 pos : Pos} {e : Expr} {d : PyData} {rest : List Stmt} {Q : Flow → Shared → Prop} {E} (B : Bd F P s₀ env ds s) (hk : EnvOk env) (hf : flat d = true)
    (he : Ev prog w P A env s e d) (h : ∀ s', Bd F P s₀ env ((x3, d) :: (x2, d) :: (x1, d) :: ds) s' → wpAny (model prog w) A (execs rest env) Q E s')
    (k1 : env.kindOf x1 = some .local := by rfl) (k2 : env.kindOf x2 = some .local := by rfl) (k3 : env.kindOf x3 = some .local := by rfl)
    (ha : (assignEach [.Name x1 q1, .Name x2 q2, .Name x3 q3] env).map (·.2) = [PySem.assign (.Name x1 q1) env, PySem.assign (.Name x2 q2) env, PySem.assign (.Name x3 q3) env] := by rfl)
    (hw : swappedStores [.Name x1 q1, .Name x2 q2, .Name x3 q3] e env = pure none := by rfl) :
    wpAny (model prog w) A (execs (.Assign [.Name x1 q1, .Name x2 q2, .Name x3 q3] e pos :: rest) env) Q E s := by
  refine wpAny_execs_cons (wpAny_Assign_three (he.use (keeps_refl _) fun v s₁ hv k₁ => ?_) ha hw)
  refine wpAny_assign_Name ((B.later k₁).store hv hk (fun s₂ B₂ => ?_) k1)
  refine wpAny_assign_Name (B₂.store (Has.flat hf hv) hk (fun s₃ B₃ => ?_) k2)
  refine wpAny_assign_Name (B₃.store (Has.flat hf hv) hk (fun s₄ B₄ => ?_) k3)
  exact h s₄ B₄

/-- a name of the class -/
theorem ev_cls {np ap : Pos} {name : Str} {x : Str} {t : Tok} {n : Str} (W : Wd K mg mb s) (H : WsIn K C fI) (ek : EnvOk env) (hn : mg n = some (.ref C)) (hr : findCls K (.ref C) (.type "type") name = some (.val (.str x t)))
    (hk : env.kindOf n = some .globalImplicit := by rfl) (hd : (n == ("__debug__" : Str)) = false := by decide)
    (he : eval (.Attribute (.Name n np) name ap) env = (do
      let o ← eval (.Name n np) env
      standAt ap.atName
      let r ← holding [o] (getAttr o name true)
      letTemporaryGo (.Name n np) o r
      pure r) := by with_unfolding_all rfl) : Ev prog w P A env s (.Attribute (.Name n np) name ap) (.str x) := fun s₁ E k =>
  have W₁ := W.keeps k
  Attribute_any_ (glob_name ek W₁.g hn (cls_value W₁.X H.reads hr rfl ⟨has_str.mpr ⟨_, rfl⟩, keeps_toks _ _⟩) hk hd) he

theorem Lc.flat {h h' : Heap} {P' : Addr → Prop} {ds : List (Str × PyData)} (x : Lc P h env ds) (hf : (ds.all fun p => Mine.flat p.2) = true) (hn : ∀ m, h.Ns env.locals m → h'.Ns env.locals m) : Lc P' h' env ds := by
  obtain ⟨m, hns, hv⟩ := x
  refine ⟨m, hn m hns, fun z d e => ?_⟩
  obtain ⟨v, e1, e2⟩ := hv z d e
  refine ⟨v, e1, Has.flat ?_ e2⟩
  have : ∀ {ds : List (Str × PyData)}, (ds.all fun p => Mine.flat p.2) = true → ds.lookup z = some d → Mine.flat d = true := by
    intro ds
    induction ds with
    | nil => intro _ e; cases e
    | cons p r ih =>
      intro h e
      rw [List.all_cons, Bool.and_eq_true] at h
      obtain ⟨a, b⟩ := p
      rw [List.lookup_cons] at e
      split at e
      · cases e; exact h.1
      · exact ih h.2 e
  exact this hf e
end
end Mine
end
section
open PySem PySem.W PyProof.Rows PySem.Calls PySem.Spec PySem.NumText
open Sem (wp)
set_option Elab.async false
set_option maxRecDepth 100000
set_option linter.all false
set_option maxHeartbeats 4000000
namespace Mine
/-- how many blanks and tabs are ahead -/
def lead (y : Str) : Nat := (y.cps.toList.takeWhile fun c => c == 32 || c == 9).length
theorem lead_le (y : Str) : lead y ≤ y.cps.size := by
  unfold lead
  have : (y.cps.toList.takeWhile fun c => c == 32 || c == 9).length ≤ y.cps.toList.length := by
    have := congrArg List.length (List.takeWhile_append_dropWhile (p := fun c => c == 32 || c == 9) (l := y.cps.toList))
    rw [List.length_append] at this; omega
  simpa using this
theorem takeWhile_at {p : Nat → Bool} : ∀ {l : List Nat} {i : Nat}, i < (l.takeWhile p).length → ∃ c, l[i]? = some c ∧ p c = true
  | [], i, h => by simp at h
  | c :: l, i, h => by
    rw [List.takeWhile_cons] at h
    split at h
    · rename_i hc
      cases i with
      | zero => exact ⟨c, rfl, hc⟩
      | succ i => simpa using takeWhile_at (l := l) (i := i) (by simpa using h)
    · simp at h
theorem takeWhile_stop {p : Nat → Bool} : ∀ {l : List Nat}, (l.takeWhile p).length < l.length → ∃ c, l[(l.takeWhile p).length]? = some c ∧ p c = false
  | [], h => by simp at h
  | c :: l, h => by
    rw [List.takeWhile_cons] at h ⊢
    split at h
    · rename_i hc
      rw [if_pos hc]
      simpa using takeWhile_stop (l := l) (by simpa using h)
    · rename_i hc
      rw [if_neg hc]
      exact ⟨c, rfl, by simpa using hc⟩

section
variable {prog : Program} {w : World} {P : Addr → Prop} {A : Around} {s sW sC : Shared} {F : List Addr} {K : Frag} {mg mb : Str → Option Value} {C fI f : Addr} {qual : Str} {cdv : Value} {L X dx : Addr} {y : Str}

/-- what Whitespace asks of the names -/
structure WsNames (mg : Str → Option Value) (C : Addr) : Prop where
  len : mg "len" = none
  tuple : mg "tuple" = none
  ws : mg "Whitespace" = some (.ref C)

theorem init_body {E} (W : Wd K mg mb sW) (H : WsIn K C fI) (NW : WsNames mg C) (kW : Keeps sW sC) (hh : A.handled = none) (hy : y.cps.all (· < 128) = true) (hyl : y.length ≤ 10000) (hP : ∀ b, P b ↔ sC.heap.get? b = none)
    (I : InstX s.heap X dx C (fun _ => none) []) (hCX : X ≠ C) (hX0 : sC.heap.get? X = none) (hd0 : sC.heap.get? dx = none) (hdL : dx ≠ L) (hXL : X ≠ L)
    (B : Bd [] P sC (envOf qual pickI.scope L f cdv) [("self", ob X), ("ws", .str y)] s) :
    wpAny (model prog w) A (execs pickI.body (envOf qual pickI.scope L f cdv))
      (fun fl s' => fl = .next ∧ Keeps sC s' ∧ ∃ mA t, s'.heap.Inst X C mA ∧ mA "n" = some (.int (lead y) t)) E s := by
  have ek : EnvOk (envOf qual pickI.scope L f cdv) := envOf_ok rfl
  have wd : ∀ {P' : Addr → Prop} {s' ds}, Bd [] P' sC (envOf qual pickI.scope L f cdv) ds s' → Wd K mg mb s' := fun B' => W.keeps (B'.keep.base kW (by intro b hb; cases hb))
  refine B.setAttr (x := "self") (name := "raw") H (wd B).X ek rfl I hCX hX0 hd0 (Ev.name B.lc ek rfl) (.head _) lk_raw (by decide) hdL fun s₂ v₂ B₂ hv₂ I₂ _ => ?_
  obtain ⟨t₂, rfl⟩ := has_str.mp hv₂
  -- from here on the object stays, up to the loop's end
  have hL0 : sC.heap.get? L = none := B.above
  have kb : Keeps sW (hid (envOf qual pickI.scope L f cdv) s₂) := by
    obtain ⟨h, t, rfl, k⟩ := B₂.keep.strict
    obtain ⟨h', t', e', k'⟩ := kW
    subst e'
    refine ⟨_, t, rfl, fun b o e => hid_get (k b o (k' b o e)) fun hb => ?_⟩
    have q := k' _ _ e
    have hb' : b = L := hb
    rw [hb'] at q
    rw [show h'.get? L = none from hL0] at q; cases q
  have B₂' : Bd [] (fun b => (hid (envOf qual pickI.scope L f cdv) s₂).heap.get? b = none) (hid (envOf qual pickI.scope L f cdv) s₂) (envOf qual pickI.scope L f cdv) [("self", ob X), ("ws", .str y)] s₂ :=
    ⟨.of hid_keeps, B₂.lc.flat rfl (fun m h => h), Heap.hide_self ..⟩
  have sC_sb : ∀ b, (hid (envOf qual pickI.scope L f cdv) s₂).heap.get? b = none → sC.heap.get? b = none := fun b e => by
    cases q : sC.heap.get? b with
    | none => rfl
    | some o =>
      have hb : b ≠ L := by rintro rfl; rw [hL0] at q; cases q
      rw [hid_get (keeps_get B₂.keep.strict _ _ q) hb] at e; cases e
  generalize hsb : hid (envOf qual pickI.scope L f cdv) s₂ = sb at *
  have hXb : ∀ {o}, s₂.heap.get? X = some o → sb.heap.get? X = some o := fun {o} e => hsb ▸ hid_get e hXL
  have hdb : ∀ {o}, s₂.heap.get? dx = some o → sb.heap.get? dx = some o := fun {o} e => hsb ▸ hid_get e hdL
  have fo : ∀ {s' ds}, Bd [] (fun b => sb.heap.get? b = none) sb (envOf qual pickI.scope L f cdv) ds s' → Fo (fun b => sb.heap.get? b = none) s' := fun B' => Fo.kp (a := sb) (fun b e => e) B'.keep
  have wdb : ∀ {s' ds}, Bd [] (fun b => sb.heap.get? b = none) sb (envOf qual pickI.scope L f cdv) ds s' → Wd K mg mb s' := fun B' => W.keeps (keeps_trans kb B'.keep.strict)
  have inst : ∀ {s' : Shared}, Keeps sb s' → InstX s'.heap X dx C (fun y' => if y' = Str.ofString "raw" then some (.str y t₂) else none) [Str.ofString "raw"] := fun {s'} k => I₂.at (fun o e => keeps_get k _ _ (hXb e)) (fun o e => keeps_get k _ _ (hdb e))
  obtain ⟨tS, hS⟩ := H.S
  obtain ⟨tT, hT⟩ := H.T
  refine B₂'.letPair ek hh rfl (Ev.tup (fo B₂') (EvL.cons (ev_cls (wdb B₂') H ek NW.ws hS) (EvL.cons (ev_cls (wdb B₂') H ek NW.ws hT) EvL.nil))) fun s₃ B₃ => ?_
  refine B₃.let ek (Ev.lst (fo B₃) EvL.nil) fun s₄ B₄ => ?_
  refine B₄.let3 ek rfl Ev.int fun s₅ B₅ => ?_
  have hyl' : y.cps.size ≤ 10000 := hyl
  have hle := lead_le y
  have tail : ∀ s₆, Bd [] (fun b => sb.heap.get? b = none) sb (envOf qual pickI.scope L f cdv) (Jw X y (wsAt (y.cps.toList.take (lead y)))) s₆ →
      wpAny (model prog w) A (execs (pickI.body.drop 5) (envOf qual pickI.scope L f cdv)) (fun fl s' => fl = .next ∧ Keeps sC s' ∧ ∃ mA t, s'.heap.Inst X C mA ∧ mA "n" = some (.int (lead y) t)) E s₆ := by
    intro s₆ B₆
    have hk6 : Keeps sC s₆ := by
      have k1 := B₂.keep.strict
      have k2 := B₆.keep.strict
      obtain ⟨h, t, rfl, k⟩ := k1
      subst hsb
      obtain ⟨h', t', rfl, k'⟩ := k2
      refine ⟨h', t', rfl, fun b o e => k' b o (hid_get (k b o e) fun hb => ?_)⟩
      have hb' : b = L := hb
      rw [hb', hL0] at e; cases e
    have B₇ : Bd [] P sC (envOf qual pickI.scope L f cdv) (Jw X y (wsAt (y.cps.toList.take (lead y)))) s₆ := by
      refine ⟨.of hk6, ?_, hL0⟩
      obtain ⟨m, hn, hv⟩ := B₆.lc
      exact ⟨m, hn, fun z d e => let ⟨v, e1, e2⟩ := hv z d e; ⟨v, e1, e2.go fun b o xs n q _ p => ⟨q, (hP b).mpr (sC_sb b p)⟩⟩⟩
    have I₆ := inst B₆.keep.strict
    have foP : ∀ {s' ds}, Bd [] P sC (envOf qual pickI.scope L f cdv) ds s' → Fo P s' := fun B' => Fo.kp (a := sC) (fun b e => (hP b).mpr e) B'.keep
    have ok := wsAt_ok (y.cps.toList.take (lead y))
    have hil : (y.cps.toList.take (lead y)).length = lead y := by
      rw [List.length_take]; have : y.cps.toList.length = y.cps.size := by simp
      omega
    rw [hil] at ok
    generalize wsAt (y.cps.toList.take (lead y)) = st at *
    obtain ⟨o1, o2, o3, o4⟩ := ok
    have hcl : (st.cnt.map PyData.int).length ≤ sizeLine := by rw [List.length_map, sizeLine_eq]; omega
    refine B₇.setAttr (x := "self") (name := "n") H (wd B₇).X ek rfl I₆ hCX hX0 hd0 (Ev.name B₇.lc ek rfl) (.tail _ (.head _)) lk_n (by decide) hdL fun s₈ v₈ B₈ hv₈ I₈ _ => ?_
    obtain ⟨t₈, rfl⟩ := has_int.mp hv₈
    refine B₈.setAttr (x := "self") (name := "nt") H (wd B₈).X ek rfl I₈ hCX hX0 hd0 (Ev.name B₈.lc ek rfl) (.tail _ (.tail _ (.head _))) lk_nt (by decide) hdL fun s₉ v₉ B₉ hv₉ I₉ _ => ?_
    refine B₉.setAttr (x := "self") (name := "norm") H (wd B₉).X ek rfl I₉ hCX hX0 hd0 (Ev.tup (foP B₉) (EvL.cons (Ev.callType ek (wd B₉).g (wd B₉).b NW.tuple ((W.boot "tuple" (by decide)).trans (by decide +kernel)) (EvL.cons (Ev.name B₉.lc ek rfl) EvL.nil) (fn_tuple hcl) (foP B₉)) (EvL.cons (Ev.name B₉.lc ek rfl) EvL.nil)) (by show 2 ≤ 1000; decide))
      (.tail _ (.tail _ (.tail _ (.head _)))) lk_norm (by decide) hdL fun sa va Ba hva Ia _ => ?_
    refine Ba.setAttr (x := "self") (name := "is_simple") H (wd Ba).X ek rfl Ia hCX hX0 hd0 (Ev.cmp (ev_len (wd Ba) ek NW.len (Ev.name Ba.lc ek rfl) (foP Ba) hcl) Ev.int (fun s va vb k ha hb => to_leInt ha hb))
      (.tail _ (.tail _ (.tail _ (.tail _ (.head _))))) lk_is_simple (by decide) hdL fun sc vc Bc hvc Ic _ => ?_
    refine execs_nil ⟨rfl, Bc.keep.strict, _, t₈, Ic.inst, ?_⟩
    rw [← o1]
    rfl
  refine Bd.forStr (k := lead y) (J := fun i => Jw X y (wsAt (y.cps.toList.take i))) (Jx := Jw X y (wsAt (y.cps.toList.take (lead y)))) (P := fun b => sb.heap.get? b = none) (s₀ := sb) (y := y)
    (B₅.sub ⟨rfl, rfl, rfl, rfl, rfl, rfl, rfl, rfl, trivial⟩) (fun b => Iff.rfl) ek hh (by intro b hb; cases hb) ?_ hy hle ?_ ?_ ?_ tail
  · intro Q' E' hq
    refine Attribute_any_ ((Ev.name B₅.lc ek rfl).use (keeps_refl _) fun ov s' ho k' => ?_)
    obtain rfl := has_ob.mp ho
    have B' := B₅.later k'
    refine ws_load H (wdb B').X (.head _) lk_raw (inst B'.keep.strict).inst (v := .str y t₂) rfl rfl (hq _ t₂ (keeps_trans k' (keeps_toks _ _)))
  · intro P' i hi sb' s' E' hPb kp fo' B'
    obtain ⟨c, hc, hcc⟩ := takeWhile_at hi
    have hcg : y.cps.getD i 0 = c := by
      have : y.cps[i]? = some c := by simpa using hc
      rw [Array.getD_eq_getD_getElem?, this]; rfl
    have hst := wsAt_succ hc
    have hok := wsAt_ok (y.cps.toList.take i)
    have hil : (y.cps.toList.take i).length = i := by rw [List.length_take]; have : y.cps.toList.length = y.cps.size := by simp
                                                      unfold lead at hle hi; omega
    rw [hil] at hok
    rw [hcg] at B'
    rw [Bool.or_eq_true, beq_iff_eq, beq_iff_eq] at hcc
    rw [hst]
    rcases hcc with rfl | rfl
    · exact turn_space B'
    · exact turn_tab W (keeps_trans kb kp.strict) (by intro b hb; cases hb) NW.len hPb fo' hok (by unfold lead at hle hi; omega) B'
  · intro hlt P' sb' s' E' hPb kp fo' B'
    obtain ⟨c, hc, hcc⟩ := takeWhile_stop (p := fun c => c == 32 || c == 9) (l := y.cps.toList) (by unfold lead at hlt; simpa using hlt)
    have hcg : y.cps.getD (lead y) 0 = c := by
      have : y.cps[lead y]? = some c := by unfold lead; simpa using hc
      rw [Array.getD_eq_getD_getElem?, this]; rfl
    rw [hcg] at B'
    rw [Bool.or_eq_false_iff] at hcc
    exact turn_break (by simpa using hcc.1) (by simpa using hcc.2) B'
  · intro he
    rw [← he]
    exact ⟨rfl, rfl, rfl, rfl, rfl, rfl, rfl, rfl, trivial⟩
end
end Mine
end
section
open PySem PySem.W PyProof.Rows PySem.Calls PySem.Spec PySem.NumText
open Sem (wp)
set_option Elab.async false
set_option maxRecDepth 100000
set_option linter.all false
set_option maxHeartbeats 4000000
namespace Mine
section
variable {prog : Program} {w : World} {P : Addr → Prop} {A : Around} {env : Env} {s sW sC : Shared} {K : Frag} {mg mb : Str → Option Value} {C fI : Addr} {y : Str}

theorem ws_call {t : Tok} {E} (W : Wd K mg mb s) (H : WsIn K C fI) (NW : WsNames mg C) (hh : A.handled = none) (hroom : A.depth + 10 < recursionLimit) (hy : y.cps.all (· < 128) = true) (hyl : y.length ≤ 10000) :
    wpAny (model prog w) A (call (.ref C) [.str y t]) (fun v s' => ∃ X mA t', v = .ref X ∧ s'.heap.Inst X C mA ∧ mA "n" = some (.int (lead y) t') ∧ Keeps s s') E s := by
  obtain ⟨qual, oc, od, osl, kV, doc, pm, an, cdv, ct, hf, hcd⟩ := H.body
  have hC : ∃ o, s.heap.get? C = some o := by
    obtain ⟨nm, q, N, bs, sn, sub, col, dd, k0, k1, k2, k3, k5, od, es, ep, hC, _⟩ := H.obj
    exact ⟨_, W.X _ _ hC⟩
  obtain ⟨h, g, d, tk, os⟩ := s
  refine wpAny_call (make_core (makes_of W.X H.makes) (looks_findIn W.X H.init) (fun self => bind_fn W.X self H.fn) (.inl rfl) ?_)
  generalize hs1 : (⟨(h.push emptyDict).push (instObj C h.objs.size), g, d, tk, os⟩ : Shared) = s₁
  have z1 : (h.push emptyDict).objs.size = h.objs.size + 1 := Heap.size_push ..
  have k₁ : Keeps ⟨h, g, d, tk, os⟩ s₁ := hs1 ▸ ⟨_, _, rfl, fun b o e => Heap.get?_push_of_some _ (Heap.get?_push_of_some _ e)⟩
  have hX₁ : s₁.heap.get? (h.objs.size + 1) = some (instObj C h.objs.size) := by
    subst hs1
    have := Heap.get?_push_size (h.push emptyDict) (o := instObj C h.objs.size) rfl
    rw [z1] at this; exact this
  have hd₁ : s₁.heap.get? h.objs.size = some emptyDict := by subst hs1; exact Heap.get?_push_of_some _ (Heap.get?_push_size _ rfl)
  have hX0 : h.get? (h.objs.size + 1) = none := Heap.get?_none_of_le (Nat.le_succ _)
  have hd0 : h.get? h.objs.size = none := Heap.get?_none_of_le (Nat.le_refl _)
  have hCX : h.objs.size + 1 ≠ C := by
    obtain ⟨o, ho⟩ := hC
    intro e
    have := Heap.lt_size ho
    rw [← e] at this
    exact absurd this (by show ¬ (h.objs.size + 1 < h.objs.size); omega)
  have W₁ := W.keeps k₁
  have hdx : h.objs.size ≠ h.objs.size + 1 := by omega
  generalize h.objs.size + 1 = X at *
  generalize h.objs.size = dx at *
  refine codeAny_call_def (fd := fnOf pickI.name qual pickI.params pickI.body pickI.scope .none kV doc pm an cdv ct) (body := pickI.body) (binds := [(Str.ofString "self", .ref X), (Str.ofString "ws", .str y t)]) ?_ (W₁.X _ _ hf) rfl W₁.lim (codeRec_of W₁.X hcd) rfl (.of_eq rfl) (by show ∀ x ∈ pickI.scope.names, x.2 ≠ .cell; decide) (by
    intro z hz
    simp only [List.mem_cons, List.not_mem_nil, or_false] at hz
    rcases hz with rfl | rfl <;> rfl) (fun h₂ hns hk₂ => ?_) rfl rfl rfl
  · show A.depth + 1 < recursionLimit
    omega
  have k₂ : Keeps s₁ { s₁ with heap := h₂, toks := s₁.toks + 2 } := ⟨h₂, _, rfl, hk₂⟩
  have kk := keeps_trans k₁ k₂
  have hL0 : h.get? s₁.heap.objs.size = none := by
    cases q : h.get? s₁.heap.objs.size with
    | none => rfl
    | some o => exact absurd (Heap.lt_size (keeps_get k₁ _ _ q)) (Nat.lt_irrefl _)
  have hXL : X ≠ s₁.heap.objs.size := Nat.ne_of_lt (Heap.lt_size hX₁)
  have hdL : dx ≠ s₁.heap.objs.size := Nat.ne_of_lt (Heap.lt_size hd₁)
  have B : Bd [] (fun b => h.get? b = none) ⟨h, g, d, tk, os⟩ (envOf qual pickI.scope s₁.heap.objs.size fI cdv) [("self", ob X), ("ws", .str y)] { s₁ with heap := h₂, toks := s₁.toks + 2 } := by
    refine ⟨.of kk, ⟨_, hns, fun z e he => ?_⟩, hL0⟩
    rw [List.lookup_cons] at he
    split at he
    · rename_i hz
      cases he
      have : z = Str.ofString "self" := by simpa using hz
      subst this
      exact ⟨.ref X, rfl, has_ob.mpr rfl⟩
    · rw [List.lookup_cons] at he
      split at he
      · rename_i hz
        cases he
        have : z = Str.ofString "ws" := by simpa using hz
        subst this
        exact ⟨.str y t, rfl, has_str.mpr ⟨t, rfl⟩⟩
      · cases he
  have I : InstX h₂ X dx C (fun _ => none) [] := by
    have hx2 := hk₂ _ _ hX₁
    have hd2 := hk₂ _ _ hd₁
    refine ⟨⟨_, hx2, rfl, (by intro c e; cases e), .inr ⟨dx, rfl, hdx, ?_⟩⟩, ⟨_, hx2, rfl, rfl⟩, ⟨_, _, _, hd2, rfl⟩, Within.nil, by decide⟩
    exact Heap.Ns1.of_empty ⟨_, #[], _, hd2, rfl, fun e he => absurd he (by simp), fun _ => rfl⟩
  refine wpAny_mono (init_body W H NW (keeps_refl _) (by exact hh) hy hyl (fun b => Iff.rfl) I hCX hX0 hd0 hdL hXL B) (fun fl s' hq => ?_) fun _ _ e => e
  obtain ⟨rfl, k', mA, t', hI, hn⟩ := hq
  exact ⟨rfl, X, mA, t', rfl, hI, hn, k'⟩

/-- Whitespace(e).n -/
theorem Ev.wsN {np cp ap : Pos} {e : Expr} (W : Wd K mg mb s) (H : WsIn K C fI) (NW : WsNames mg C) (ek : EnvOk env) (hh : A.handled = none) (hroom : A.depth + 10 < recursionLimit) (he : Ev prog w P A env s e (.str y)) (hy : y.cps.all (· < 128) = true) (hyl : y.length ≤ 10000)
    (hk : env.kindOf "Whitespace" = some .globalImplicit := by rfl) (hs : starEach [e] env = (false, eval e env) :: starEach [] env := by rfl)
    (ha : eval (.Attribute (.Call (.Name "Whitespace" np) [e] [] cp) "n" ap) env = (do
      let o ← eval (.Call (.Name "Whitespace" np) [e] [] cp) env
      standAt ap.atName
      let r ← holding [o] (getAttr o "n" true)
      letTemporaryGo (.Call (.Name "Whitespace" np) [e] [] cp) o r
      pure r) := by with_unfolding_all rfl) :
    Ev prog w P A env s (.Attribute (.Call (.Name "Whitespace" np) [e] [] cp) "n" ap) (.int (lead y)) := fun s₁ E k => by
  have W₁ := W.keeps k
  obtain ⟨N, mN, hcls⟩ := H.at W₁.X
  refine Attribute_any_ (Call_ (glob_name ek W₁.g NW.ws (callWith_cls hcls (args_cons (he.use k fun v s₂ hv k₂ => args_nil ⟨keeps_get k₂, ?_⟩) hs) hs rfl) hk (by decide))) ha
  obtain ⟨t, rfl⟩ := has_str.mp hv
  have W₂ := W₁.keeps k₂
  refine wpAny_mono (ws_call W₂ H NW hh hroom hy hyl) (fun v s₃ hq => ?_) fun _ _ e => e
  obtain ⟨X, mA, t', rfl, hI, hn, k₃⟩ := hq
  exact ws_load H (W₂.keeps k₃).X (.tail _ (.head _)) lk_n hI hn rfl ⟨has_int.mpr ⟨_, rfl⟩, keeps_trans k₂ (keeps_trans k₃ (keeps_toks _ _))⟩
end
end Mine
end
section
open PySem PySem.W PyProof.Rows PySem.Calls PySem.Spec PySem.NumText
open Sem (wp)
set_option Elab.async false
set_option maxRecDepth 100000
set_option linter.all false
set_option maxHeartbeats 4000000
namespace Mine
/-! texts as lists of signs -/
def mk (l : List Nat) : Str := ⟨l.toArray⟩
theorem mk_toList (l : List Nat) : (mk l).cps.toList = l := by simp [mk]
theorem mk_len (l : List Nat) : (mk l).length = l.length := by show (mk l).cps.size = _; simp [mk]
theorem mk_of (x : Str) : mk x.cps.toList = x := by obtain ⟨c⟩ := x; simp [mk]
theorem str_len (x : Str) : x.cps.toList.length = x.length := Array.length_toList

def bl (c : Nat) : Bool := c == 32 || c == 9
theorem lead_eq (x : Str) : lead x = (x.cps.toList.takeWhile bl).length := rfl

theorem slice_from {x : Str} {k : Nat} (h : k ≤ x.length) : Txt.slice x (some (k : Int)) none = mk (x.cps.toList.drop k) := by
  rw [slice_from_eq (b := (x.length : Int)) (by omega) (by omega) rfl]
  show (⟨_⟩ : Str) = ⟨_⟩
  congr 2
  rw [Int.toNat_natCast]
  have e : ((x.length : Int) - (k : Int)).toNat = (x.cps.toList.drop k).length := by rw [List.length_drop, str_len]; omega
  rw [e, List.take_length]
theorem slice_to {x : Str} {k : Nat} (h : k ≤ x.length) : Txt.slice x none (some (k : Int)) = mk (x.cps.toList.take k) := by
  have := beq_iff_eq.mp (slice_closes_to (x := x) (j := (k : Int)) ⟨by omega, by rw [str_len]; omega⟩)
  rw [this]
  show (⟨_⟩ : Str) = ⟨_⟩
  congr 2
theorem rev_eq (x : Str) (u : Tok) : Txt.sliceBy x none none (-1, u) = mk x.cps.toList.reverse := by
  have h := step_rev_list x u
  have e : (Txt.sliceBy x none none (-1, u)) = mk ((List.range x.length).map fun k => x.cps.getD (x.length - 1 - k) 0) := by rw [← h, mk_of]
  rw [e]
  congr 1
  refine List.ext_getElem (by simp; rfl) fun i h1 h2 => ?_
  simp only [List.length_map, List.length_range] at h1
  simp only [List.getElem_map, List.getElem_range, List.getElem_reverse, Array.length_toList, Array.getElem_toList]
  have : x.length - 1 - i < x.cps.size := by show _ < x.length; omega
  simp [Array.getD, this]
  rfl

theorem drop_takeWhile {p : Nat → Bool} : ∀ l : List Nat, l.drop (l.takeWhile p).length = l.dropWhile p
  | [] => rfl
  | c :: l => by
    rw [List.takeWhile_cons, List.dropWhile_cons]
    split
    · simp [drop_takeWhile l]
    · rfl
theorem takeWhile_le {p : Nat → Bool} (l : List Nat) : (l.takeWhile p).length ≤ l.length := by
  have := congrArg List.length (List.takeWhile_append_dropWhile (p := p) (l := l))
  rw [List.length_append] at this; omega
/-- blanks and tabs off both ends -/
def strip (l : List Nat) : List Nat := ((l.dropWhile bl).reverse.dropWhile bl).reverse
theorem strip_take (l : List Nat) : strip l = (l.dropWhile bl).take ((l.dropWhile bl).length - ((l.dropWhile bl).reverse.takeWhile bl).length) := by
  unfold strip
  generalize l.dropWhile bl = m
  rw [← drop_takeWhile, List.drop_reverse, List.reverse_reverse]
theorem dropWhile_mem {p : Nat → Bool} {l : List Nat} {c : Nat} (h : c ∈ l.dropWhile p) : c ∈ l := (List.dropWhile_sublist p).subset h

def Ascii (x : Str) : Prop := ∀ c ∈ x.cps.toList, c < 128
theorem Ascii.all {x : Str} (h : Ascii x) : x.cps.all (· < 128) = true := by
  rw [← Array.all_toList, List.all_eq_true]
  intro c hc
  exact decide_eq_true (h c hc)

section
variable {prog : Program} {w : World} {A : Around} {s : Shared} {K : Frag} {mg mb : Str → Option Value} {C fI f : Addr}

theorem Ev.neg {P : Addr → Prop} {env : Env} {e pos} {i : Int} (h : Ev prog w P A env s e (.int i)) : Ev prog w P A env s (.UnaryOp .USub e pos) (.int (-i)) := fun s₁ E k =>
  UnaryOp_ (h.use k fun v s₂ hv k₂ => by
    obtain ⟨t, rfl⟩ := has_int.mp hv
    exact neg_int ⟨has_int.mpr ⟨_, rfl⟩, keeps_trans k₂ (keeps_toks _ _)⟩)

theorem ev_lenStr {P : Addr → Prop} {env : Env} {e : Expr} {np pos : Pos} {x : Str} (W : Wd K mg mb s) (ek : EnvOk env) (hl : mg "len" = none) (he : Ev prog w P A env s e (.str x)) (fo : Fo P s) (hx : x.length ≤ sizeLine) (hk : env.kindOf "len" = some .globalImplicit := by rfl)
    (hs : starEach [e] env = (false, eval e env) :: starEach [] env := by rfl) :
    Ev prog w P A env s (.Call (.Name "len" np) [e] [] pos) (.int x.length) :=
  Ev.callBuiltin ek W.g W.b hl ((W.boot "len" (by decide)).trans (by decide +kernel)) (EvL.cons he EvL.nil hs) (fn_lenStr hx) fo hk (by decide) hs (by intro _; rfl)

/-- e[::-1] -/
theorem Ev.strRev {P : Addr → Prop} {env : Env} {e : Expr} {kk p1 p2 sp pos} {x : Str} (he : Ev prog w P A env s e (.str x)) (hsz : x.length ≤ sizeLine)
    (ht : ∀ v r, letTemporaryGo e (.str x v) r = pure () := by intro _ _; with_unfolding_all rfl) :
    Ev prog w P A env s (.Subscript e (.Slice none none (some (.UnaryOp .USub (.Constant (.int 1) kk p1) p2)) sp) pos) (.str (mk x.cps.toList.reverse)) := by
  have := Ev.strBy (k := -1) (sp := sp) (pos := pos) he (Ev.neg (Ev.int (i := 1) (kk := kk) (pos := p1)) (pos := p2)) rfl hsz ht
  rw [rev_eq] at this
  exact this

/-- _law_cut -/
theorem cut_fn {x : Str} (W : Wd K mg mb s) (hf : IsFn K f 8 .none) (H : WsIn K C fI) (NW : WsNames mg C) (hh : A.handled = none) (hroom : A.depth + 20 < recursionLimit) (hx : Ascii x) (hl : x.length ≤ 10000) :
    FnTo prog w A (.ref f) [.str x] (.str (mk (strip x.cps.toList))) s := by
  refine fn_defS (bd := [("text", .str x)]) (fun vs => [Str.ofString "text"].zip vs) W.X W.lim hf (by omega) ?_ ?_
  · intro qual kV doc pm an cdv ct P s₁ vs k hv
    refine ⟨?_, ?_, binds_one (x := "text") hv⟩
    · obtain ⟨u, rfl, _⟩ := hasAll_one hv
      exact .of_eq rfl
    · obtain ⟨u, rfl, _⟩ := hasAll_one hv
      intro y hy
      simp only [List.zip_cons_cons, List.zip_nil_right, List.mem_cons, List.not_mem_nil, or_false] at hy
      rcases hy with rfl
      rfl
  · intro qual cdv P s₀ s₁ L k₀ fo B
    have ek : EnvOk (envOf qual (pick 8).scope L f cdv) := envOf_ok rfl
    have wd : ∀ {s' ds}, Bd [] P s₀ (envOf qual (pick 8).scope L f cdv) ds s' → Wd K mg mb s' := fun B' => W.keeps (keeps_trans k₀ B'.keep.strict)
    have foo : ∀ {s' ds}, Bd [] P s₀ (envOf qual (pick 8).scope L f cdv) ds s' → Fo P s' := fun B' => fo.kp B'.keep
    have hrm : (A.deeper (envOf qual (pick 8).scope L f cdv)).depth + 10 < recursionLimit := by show A.depth + 1 + 10 < _; omega
    have hls : x.length ≤ sizeLine := by rw [sizeLine_eq]; omega
    refine B.let ek (Ev.strFrom (Ev.name B.lc ek rfl) (Ev.wsN (wd B) H NW ek hh hrm (Ev.name B.lc ek rfl) hx.all hl) hls) fun s₂ B₂ => ?_
    have hy : Txt.slice x (some (lead x : Int)) none = mk (x.cps.toList.dropWhile bl) := by
      rw [slice_from (by have := lead_le x; exact this), lead_eq, drop_takeWhile]
    rw [hy] at B₂
    have hya : Ascii (mk (x.cps.toList.dropWhile bl)) := fun c hc => by rw [mk_toList] at hc; exact hx c (dropWhile_mem hc)
    have hyl : (mk (x.cps.toList.dropWhile bl)).length ≤ 10000 := by
      rw [mk_len]
      have := (List.dropWhile_sublist bl (l := x.cps.toList)).length_le
      rw [str_len] at this; omega
    generalize hye : mk (x.cps.toList.dropWhile bl) = y at *
    have hra : Ascii (mk y.cps.toList.reverse) := fun c hc => by rw [mk_toList, List.mem_reverse] at hc; exact hya c hc
    have hrl : (mk y.cps.toList.reverse).length ≤ 10000 := by rw [mk_len, List.length_reverse, str_len]; exact hyl
    have hls2 : y.length ≤ sizeLine := by rw [sizeLine_eq]; omega
    refine ret_ (Ev.strUpto (Ev.name B₂.lc ek rfl) (Ev.bin (ev_lenStr (wd B₂) ek NW.len (Ev.name B₂.lc ek rfl) (foo B₂) hls2) (Ev.wsN (wd B₂) H NW ek hh hrm (Ev.strRev (Ev.name B₂.lc ek rfl) hls2) hra.all hrl) (fun s va vb k ha hb => to_sub ha hb)) hls2) fun v s₃ hv k₃ => ⟨v, rfl, ?_, B₂.out k₃⟩
    have e2 : Txt.slice y none (some ((y.length : Int) - (lead (mk y.cps.toList.reverse) : Int))) = mk (strip x.cps.toList) := by
      have h1 := takeWhile_le (p := bl) y.cps.toList.reverse
      rw [List.length_reverse, str_len] at h1
      rw [lead_eq, mk_toList, show (y.length : Int) - ((y.cps.toList.reverse.takeWhile bl).length : Int) = ((y.length - (y.cps.toList.reverse.takeWhile bl).length : Nat) : Int) by omega, slice_to (by omega), strip_take, ← hye, mk_toList, mk_len]
    rw [← e2]; exact hv
end
end Mine
end
section
open PySem PySem.W PyProof.Rows PySem.Calls PySem.Spec PySem.NumText
open Sem (wp)
set_option Elab.async false
set_option maxRecDepth 100000
set_option linter.all false
set_option maxHeartbeats 4000000
namespace Mine
/-- a piece: its text, its number if it is one -/
abbrev Pc := Str × Option Int
def vd : Option Int → PyData
  | none => .none
  | some n => .int n
def pd (p : Pc) : PyData := .tuple [.str p.1, vd p.2]
def fst2 : PyData → PyData
  | .tuple [a, _] => a
  | _ => .none
def snd2 : PyData → PyData
  | .tuple [_, b] => b
  | _ => .none
def isNo : PyData → Bool
  | .none => true
  | _ => false
def lineOf (ps : List Pc) : Str := Txt.join "." (ps.map (·.1))
def toldOf (ps : List Pc) : Str := if ps.any (·.2.isNone) then lineOf (ps.take 3) else Txt.join "." ((ps.take 3).map fun p => ts (p.2.getD 0))

section
variable {prog : Program} {w : World} {P : Addr → Prop} {A : Around} {env : Env} {s : Shared} {K : Frag} {mg mb : Str → Option Value} {f : Addr}

theorem compEnv_ok {scope : Scope} {C : Addr} (ek : EnvOk env) (hk : scope.kind = .function := by rfl) : EnvOk (compEnvC scope [] C env) := by
  refine ⟨?_, ek.globals, ek.builtins⟩
  show (relabel scope env).kind = _
  exact hk

theorem tg_two {scope : Scope} {x y : Str} {px py tp : Pos} {kk : Nat} {ds : List PyData} (hds : ∀ d ∈ ds, ∃ a b, d = .tuple [a, b]) (hh : A.handled = none) (hk : ∀ C, (compEnvC scope [] C env).scope.kind = .function) (hl : ∀ C, (compEnvC scope [] C env).kindOf x = some .local) (hl2 : ∀ C, (compEnvC scope [] C env).kindOf y = some .local) :
    ∀ C, ∀ d ∈ ds, Tg prog w A (compEnvC scope [] C env) (.Tuple [.Name x px, .Name y py] kk tp) d [(y, snd2 d), (x, fst2 d)] := fun C d hd => by
  obtain ⟨a, b, rfl⟩ := hds d hd
  exact tg_pair (hk C) hh (hl C) (hl2 C)

theorem pd_two {ps : List Pc} : ∀ d ∈ ps.map pd, ∃ a b, d = .tuple [a, b] := by
  intro d hd
  obtain ⟨p, _, rfl⟩ := List.mem_map.mp hd
  exact ⟨_, _, rfl⟩
theorem map_fst {ps : List Pc} : (ps.map pd).map fst2 = (ps.map (·.1)).map .str := by
  rw [List.map_map, List.map_map]; rfl
theorem filter_true {α : Type} (l : List α) : l.filter (fun _ => true) = l := by simp

/-- _law_line -/
theorem line_fn {ps : List Pc} (W : Wd K mg mb s) (hf : IsFn K f 7 .none) (hh : A.handled = none) (hroom : A.depth + 20 < recursionLimit) (hn : ps.length ≤ 1000) (hl : (ps.map (·.1.length)).sum ≤ 100000) :
    FnTo prog w A (.ref f) [.list (ps.map pd)] (.str (lineOf ps)) s := by
  refine fn_defS (bd := [("pieces", .list (ps.map pd))]) (fun vs => [Str.ofString "pieces"].zip vs) W.X W.lim hf (by omega) ?_ ?_
  · intro qual kV doc pm an cdv ct P s₁ vs k hv
    refine ⟨?_, ?_, binds_one (x := "pieces") hv⟩
    · obtain ⟨u, rfl, _⟩ := hasAll_one hv
      exact .of_eq rfl
    · obtain ⟨u, rfl, _⟩ := hasAll_one hv
      intro y hy
      simp only [List.zip_cons_cons, List.zip_nil_right, List.mem_cons, List.not_mem_nil, or_false] at hy
      rcases hy with rfl
      rfl
  · intro qual cdv P s₀ s₁ L k₀ fo B
    have ek : EnvOk (envOf qual (pick 7).scope L f cdv) := envOf_ok rfl
    refine ret_ (Ev.join (ys := ps.map (·.1)) ?_ ?_) fun v s₃ hv k₃ => ⟨v, rfl, hv, B.out k₃⟩
    · rw [← map_fst, ← filter_true (ps.map pd)]
      refine Ev.comp hh (Ev.name B.lc ek rfl) (fo.kp B.keep) (by rw [List.length_map, sizeLine_eq]; omega) ⟨tg_two pd_two hh (fun _ => rfl) (fun _ => rfl) (fun _ => rfl), fun P' C s' k d hd L => TsL.nil, fun P' C s' k d hd hp fo' L => ?_⟩
      exact Ev.name L (compEnv_ok ek) rfl
    · have e1 : (Str.ofString ".").length = 1 := by decide
      rw [e1, List.length_map, List.map_map]
      have : (ps.map ((fun x : Str => x.length) ∘ fun x : Pc => x.1)).sum = (ps.map (·.1.length)).sum := rfl
      omega

theorem to_isNone {d : PyData} {va vb : Value} (hd : ∀ {v}, Has P s.heap d v → (v == .none) = isNo d) (ha : Has P s.heap d va) (hb : Has P s.heap .none vb) : To prog w P A (compareOp .Is va vb) (.bool (isNo d)) s := fun E => by
  obtain rfl := has_none.mp hb
  refine is_none_gen ⟨?_, keeps_refl _⟩
  rw [hd ha]; exact has_bool.mpr rfl
theorem vd_none {o : Option Int} {v : Value} (h : Has P s.heap (vd o) v) : (v == .none) = isNo (vd o) := by
  cases o with
  | none => obtain rfl := has_none.mp h; rfl
  | some n => obtain ⟨t, rfl⟩ := has_int.mp h; rfl

theorem fn_obj {n : Nat} {dV : Value} {h : Heap} (X : K.In h) (hf : IsFn K f n dV) : ∃ o fd, h.get? f = some o ∧ o.data = .func fd := by
  obtain ⟨qual, oc, od, osl, kV, doc, pm, an, cdv, ct, hf, hcd⟩ := hf
  exact ⟨_, _, X _ _ hf, rfl⟩
end
end Mine
end
section
open PySem PySem.W PyProof.Rows PySem.Calls PySem.Spec PySem.NumText
open Sem (wp)
set_option Elab.async false
set_option maxRecDepth 100000
set_option linter.all false
set_option maxHeartbeats 4000000
namespace Mine
theorem Ascii.strOk {x : Str} (h : Ascii x) : PyData.strOk x = true := by
  unfold PyData.strOk
  rw [← Array.all_toList, List.all_eq_true]
  intro c hc
  exact decide_eq_true (Nat.lt_of_lt_of_le (h c hc) (by decide))
theorem canLay_strs : ∀ {xs : List Str}, (∀ x ∈ xs, Ascii x) → PyData.canLayAll0 (xs.map .str) = true
  | [], _ => rfl
  | x :: xs, h => by
    rw [List.map_cons, PyData.canLayAll0, PyData.canLay0, (h x (.head _)).strOk, canLay_strs fun y hy => h y (.tail _ hy)]; rfl
theorem depthAll_strs : ∀ xs : List Str, PyData.depthAll (xs.map .str) = 0
  | [] => rfl
  | x :: xs => by rw [List.map_cons, PyData.depthAll, PyData.depth, depthAll_strs xs]; rfl
theorem depth_strs {xs : List Str} : PyData.depth (.list (xs.map .str)) ≤ 64 := by
  rw [PyData.depth, depthAll_strs]; decide
theorem shaped_strs {xs : List Str} (h : ∀ x ∈ xs, Ascii x) : SeqAt.shaped (.list (xs.map .str)) = true := by
  unfold SeqAt.shaped
  rw [show PyData.canLay0 (.list (xs.map .str)) = true by rw [PyData.canLay0]; exact canLay_strs h, Bool.true_and]
  exact decide_eq_true depth_strs
theorem eqv_nil {xs : List PyData} : PyData.eqv (.list xs) (.list []) = xs.isEmpty := by
  cases xs with
  | nil => rfl
  | cons => rfl

def testOf : Option Stmt → Expr
  | some (.If t _ _ _) => t
  | _ => .Constant .none 0 ⟨0, 0, 0, 0⟩
/-- the pieces' numbers are small, their texts plain and not long -/
structure PcsOk (ps : List Pc) : Prop where
  len : ps.length ≤ 1000
  tot : (ps.map (·.1.length)).sum ≤ 50000
  asc : ∀ p ∈ ps, Ascii p.1
  num : ∀ p ∈ ps, ∀ n, p.2 = some n → n.natAbs.log2 < 1920 ∧ (ts n).length ≤ 1000
theorem sum_take_le (l : List Nat) (n : Nat) : (l.take n).sum ≤ l.sum := by
  have := congrArg List.sum (List.take_append_drop n l)
  rw [List.sum_append] at this; omega
theorem PcsOk.take {ps : List Pc} (h : PcsOk ps) (n : Nat) : PcsOk (ps.take n) :=
  ⟨by rw [List.length_take]; have := h.len; omega, by rw [List.map_take]; exact Nat.le_trans (sum_take_le _ _) h.tot, fun p hp => h.asc p (List.mem_of_mem_take hp), fun p hp => h.num p (List.mem_of_mem_take hp)⟩
theorem sum_le_mul {l : List Nat} {k : Nat} (h : ∀ x ∈ l, x ≤ k) : l.sum ≤ l.length * k := by
  induction l with
  | nil => simp
  | cons a l ih =>
    rw [List.sum_cons, List.length_cons, Nat.add_mul]
    have := h a (.head _)
    have := ih fun x hx => h x (.tail _ hx)
    omega

def strOf2 (d : PyData) : PyData := match snd2 d with
  | .int n => .str (ts n)
  | _ => .none
section
variable {prog : Program} {w : World} {P : Addr → Prop} {A : Around} {env : Env} {s : Shared} {K : Frag} {mg mb : Str → Option Value} {f fl : Addr}

/-- _law_told -/
theorem told_fn {ps : List Pc} (W : Wd K mg mb s) (hf : IsFn K f 9 .none) (hfl : IsFn K fl 7 .none) (hl : mg "_law_line" = some (.ref fl)) (hst : mg "str" = none) (hh : A.handled = none) (hroom : A.depth + 30 < recursionLimit) (hu : A.units + 200 < cLine) (ok : PcsOk ps) :
    FnTo prog w A (.ref f) [.list (ps.map pd)] (.str (toldOf ps)) s := by
  refine fn_defS (bd := [("pieces", .list (ps.map pd))]) (fun vs => [Str.ofString "pieces"].zip vs) W.X W.lim hf (by omega) ?_ ?_
  · intro qual kV doc pm an cdv ct P s₁ vs k hv
    refine ⟨?_, ?_, binds_one (x := "pieces") hv⟩
    · obtain ⟨u, rfl, _⟩ := hasAll_one hv
      exact .of_eq rfl
    · obtain ⟨u, rfl, _⟩ := hasAll_one hv
      intro y hy
      simp only [List.zip_cons_cons, List.zip_nil_right, List.mem_cons, List.not_mem_nil, or_false] at hy
      rcases hy with rfl
      rfl
  · intro qual cdv P s₀ s₁ L k₀ fo B
    have ek : EnvOk (envOf qual (pick 9).scope L f cdv) := envOf_ok rfl
    have hlen := ok.len
    have hsz : (ps.map pd).length ≤ sizeLine := by rw [List.length_map, sizeLine_eq]; omega
    have efil : ((ps.map pd).filter (fun d => isNo (snd2 d))).map fst2 = ((ps.filter (·.2.isNone)).map (·.1)).map .str := by
      rw [List.filter_map, List.map_map, List.map_map]
      have e1 : ((fun d => isNo (snd2 d)) ∘ pd) = fun p : Pc => p.2.isNone := by
        funext p; obtain ⟨a, b⟩ := p; cases b <;> rfl
      rw [e1]; rfl
    have hasc : ∀ x ∈ (ps.filter (·.2.isNone)).map (·.1), Ascii x := by
      intro x hx
      obtain ⟨p, hp, rfl⟩ := List.mem_map.mp hx
      exact ok.asc p (List.mem_filter.mp hp).1
    have t1 : Ts prog w (A.deeper (envOf qual (pick 9).scope L f cdv)) (envOf qual (pick 9).scope L f cdv) s₁ (testOf ((pick 9).body[0]?)) (!(PyData.eqv (.list (((ps.filter (·.2.isNone)).map (·.1)).map .str)) (.list []))) := by
      refine Ts.cmp (P := P) (dl := .list (((ps.filter (·.2.isNone)).map (·.1)).map .str)) (dr := .list []) ?_ (Ev.lst (fo.kp B.keep) EvL.nil) (fun s va vb k ha hb => to_neData ha hb (shaped_strs hasc) rfl (by show A.units + 3 + 64 < _; omega) (noObjs_strs _) rfl)
      rw [← efil]
      refine Ev.comp hh (Ev.name B.lc ek rfl) (fo.kp B.keep) hsz ⟨tg_two pd_two hh (fun _ => rfl) (fun _ => rfl) (fun _ => rfl), fun P' C s' k d hd L => ?_, fun P' C s' k d hd hp fo' L => ?_⟩
      · refine TsL.one (Ts.cmp (Ev.name L (compEnv_ok ek) rfl) Ev.nonec (fun s va vb k ha hb => to_isNone ?_ ha hb))
        obtain ⟨p, _, rfl⟩ := List.mem_map.mp hd
        exact fun h => vd_none h
      · exact Ev.name L (compEnv_ok ek) rfl
    refine wpAny_execs_cons ?_
    refine if_ t1 fun s₂ k₂ => ?_
    have B₂ := B.later k₂
    rw [eqv_nil]
    have W₂ := W.keeps (keeps_trans k₀ B₂.keep.strict)
    have fo₂ : Fo P s₂ := fo.kp B₂.keep
    have esl : ∀ {n1 n2 n3 n4 kk}, Ev prog w P (A.deeper (envOf qual (pick 9).scope L f cdv)) (envOf qual (pick 9).scope L f cdv) s₂ (.Subscript (.Name "pieces" n1) (.Slice none (some (.Constant (.int 3) kk n2)) none n3) n4) (.list ((ps.take 3).map pd)) := by
      intro n1 n2 n3 n4 kk
      rw [List.map_take]
      exact Ev.upto (k := 3) (Ev.name B₂.lc ek rfl) Ev.int (by decide) hsz fo₂
    unfold toldOf
    by_cases hany : ps.any (·.2.isNone) = true
    · rw [if_pos hany]
      have hne : ((ps.filter (·.2.isNone)).map (·.1)).map PyData.str ≠ [] := by
        obtain ⟨p, hp, hn⟩ := List.any_eq_true.mp hany
        intro e
        have := List.map_eq_nil_iff.mp (List.map_eq_nil_iff.mp e)
        have hm : p ∈ ps.filter (·.2.isNone) := List.mem_filter.mpr ⟨hp, hn⟩
        rw [this] at hm; cases hm
      rw [show (!(((ps.filter (·.2.isNone)).map (·.1)).map PyData.str).isEmpty) = true by simpa [List.isEmpty_iff] using hne]
      obtain ⟨o, fd, ho, hd⟩ := fn_obj W₂.X hfl
      refine ret_ (Ev.callDef ek W₂.g hl ho hd (EvL.cons esl EvL.nil) (line_fn W₂ hfl hh (by show A.depth + 1 + 20 < _; omega) (ok.take 3).len (by have := (ok.take 3).tot; omega)) fo₂) fun v s₃ hv k₃ => ⟨v, rfl, hv, B₂.out k₃⟩
    · rw [if_neg hany]
      have hnil : ps.filter (·.2.isNone) = [] := by
        rw [List.filter_eq_nil_iff]
        intro p hp hn
        exact hany (List.any_eq_true.mpr ⟨p, hp, hn⟩)
      rw [hnil]
      refine execs_nil ?_
      have hall : ∀ p ∈ ps.take 3, ∃ n, p.2 = some n := by
        intro p hp
        cases hpn : p.2 with
        | none => exact absurd (List.any_eq_true.mpr ⟨p, List.mem_of_mem_take hp, by rw [hpn]; rfl⟩) hany
        | some n => exact ⟨n, rfl⟩
      have ok3 := ok.take 3
      have emap : ((ps.take 3).map pd).map strOf2 = ((ps.take 3).map fun p => ts (p.2.getD 0)).map .str := by
        rw [List.map_map, List.map_map]
        refine List.map_congr_left fun p hp => ?_
        obtain ⟨n, hn⟩ := hall p hp
        obtain ⟨a, b⟩ := p
        simp only at hn
        subst hn
        rfl
      refine ret_ (Ev.join (ys := (ps.take 3).map fun p => ts (p.2.getD 0)) ?_ ?_) fun v s₃ hv k₃ => ⟨v, rfl, hv, B₂.out k₃⟩
      · rw [← emap, ← filter_true ((ps.take 3).map pd)]
        refine Ev.comp hh esl fo₂ (by rw [List.length_map, sizeLine_eq]; have := ok3.len; omega) ⟨tg_two pd_two hh (fun _ => rfl) (fun _ => rfl) (fun _ => rfl), fun P' C s' k d hd L => TsL.nil, fun P' C s' k d hd hp fo' L => ?_⟩
        obtain ⟨p, hp', rfl⟩ := List.mem_map.mp hd
        obtain ⟨n, hn⟩ := hall p hp'
        have W₃ := W₂.keeps k
        have hsm := ok3.num p hp' n hn
        obtain ⟨a, b⟩ := p
        simp only at hn
        subst hn
        exact Ev.callType (compEnv_ok ek) W₃.g W₃.b hst ((W.boot "str" (by decide)).trans (by decide +kernel)) (EvL.cons (Ev.name (d := .int n) L (compEnv_ok ek) rfl) EvL.nil) (fn_str hsm.1) fo'
      · have e1 : (Str.ofString ".").length = 1 := by decide
        rw [e1, List.length_map, List.map_map]
        have hb : ∀ x ∈ (ps.take 3).map ((fun x : Str => x.length) ∘ fun p : Pc => ts (p.2.getD 0)), x ≤ 1000 := by
          intro x hx
          obtain ⟨p, hp, rfl⟩ := List.mem_map.mp hx
          obtain ⟨n, hn⟩ := hall p hp
          show (ts (p.2.getD 0)).length ≤ 1000
          rw [hn]; exact (ok3.num p hp n hn).2
        have h2 := sum_le_mul hb
        have h3 : (ps.take 3).length ≤ 3 := by rw [List.length_take]; omega
        rw [List.length_map] at h2
        have h4 : (ps.take 3).length * 1000 ≤ 3 * 1000 := Nat.mul_le_mul_right _ h3
        omega
end
end Mine
end
section
open PySem PySem.W PyProof.Rows PySem.Calls PySem.Spec PySem.NumText
open Sem (wp)
set_option Elab.async false
set_option maxRecDepth 100000
set_option linter.all false
set_option maxHeartbeats 4000000
namespace Mine
section
variable {prog : Program} {w : World} {P : Addr → Prop} {A : Around} {env : Env} {s : Shared} {F : List Addr} {K : Frag} {mg mb : Str → Option Value}

/-- x[-1-j] = v -/
theorem setItem_neg {l : Addr} {items : Array Value} {k : Int} {t : Tok} {v : Value} {Q : Unit → Shared → Prop} {E} (hl : s.heap.IsList l items)
    (h0 : k < 0) (h1 : -(items.size : Int) ≤ k) (hfit : -(2 ^ 63) ≤ k)
    (hQ : ∀ h', h'.IsList l (items.setIfInBounds (k + items.size).toNat v) → Heap.SameBut l s.heap h' → Q () { s with heap := h' }) :
    wpAny (model prog w) A (setItem (.ref l) (.int k t) v) Q E s := by
  obtain ⟨o, ho, hc, ne, hd⟩ := id hl
  unfold setItem
  try with_reducible refine wpAny_holding ?_
  first | refine wpAny_bind (wpAny_pure ?_) | skip
  refine wpAny_bind (wpAny_sequenceKey hl.typeIs (by decide) ?_)
  refine wpAny_bind (wpAny_callSpecial?_slot (name := Str.ofString "__setitem__") hl.typeIs slot_list_setitem
    (wpAny_call_entry slot_list_setitem hl.typeIs entry_list_setitem ?_ (args_list_setitem _ _ _)))
  show wpAny _ _ (Builtin.List.listSubscript? (.int k t) >>= _) _ _ s
  refine wpAny_bind (wpAny_listSubscript_int (fitsIndex_neg h0 hfit) ?_)
  clear hfit
  have hidx := seqIndex_neg h0 h1
  have hj : (k + items.size).toNat < items.size := by omega
  generalize (k + items.size).toNat = j at *
  obtain ⟨i, rfl⟩ : ∃ j : Nat, k = Int.negSucc j := by
    cases k with
    | ofNat n => exact absurd h0 (Int.not_lt.mpr (Int.ofNat_nonneg n))
    | negSucc n => exact ⟨n, rfl⟩
  have hx' : items[j]? = some items[j] := Array.getElem?_eq_getElem hj
  show wpAny _ _ ((Builtin.List.listItems (.ref l) >>= fun xs => pure ((seqIndex? (Int.negSucc i) xs.size).bind fun i => xs[i]?.map (i, ·))) >>= _) _ _ s
  refine wpAny_bind (wpAny_bind ?_)
  show wpAny _ _ (seqItems? (.ref l) >>= _) _ _ s
  refine wpAny_bind (wpAny_seqItems ho hd (wpAny_pure (wpAny_pure ?_)))
  rw [hidx]
  simp only [Option.bind_some, hx', Option.map_some]
  show wpAny _ _ (setSeqItemAt l j v >>= _) _ _ s
  obtain ⟨n', hd'⟩ := Obj.data_mapSeq hd (·.setIfInBounds j v)
  have hfin : (s.heap.update l (Obj.mapSeq (·.setIfInBounds j v))).IsList l (items.setIfInBounds j v) :=
    ⟨_, Heap.get?_update_self _ ho (Obj.isFreed_of_seq hd'), (Obj.cls_mapSeq ..).trans hc, n', hd'⟩
  refine wpAny_bind (wpAny_setSeqItemAt ho hd ?_)
  first
    | exact wpAny_bind (wpAny_pure (wpAny_pure ⟨.none, rfl, wpAny_pure (hQ _ hfin (Heap.SameBut.update ..))⟩))
    | exact wpAny_pure ⟨.none, rfl, wpAny_pure (hQ _ hfin (Heap.SameBut.update ..))⟩

/-- x names a list at D of its own; all other data keep off D -/
structure BdM (F : List Addr) (P : Addr → Prop) (s₀ : Shared) (env : Env) (x : Str) (D : Addr) (acc : List PyData) (ds : List (Str × PyData)) (s : Shared) : Prop where
  bd : Bd F (fun b => P b ∧ b ≠ D) s₀ env ((x, ob D) :: ds) s
  pD : P D
  new : s₀.heap.get? D = none
  lst : ∃ ys, s.heap.IsList D ys ∧ HasAll (fun b => P b ∧ b ≠ D) s.heap acc ys.toList
theorem BdM.later {s₀ s' : Shared} {x D acc ds} (B : BdM F P s₀ env x D acc ds s) (k : Keeps s s') : BdM F P s₀ env x D acc ds s' :=
  ⟨B.bd.later k, B.pD, B.new, let ⟨ys, a, b⟩ := B.lst; ⟨ys, (keeps_seq k).isList a, b.mono (keeps_seq k)⟩⟩
theorem BdM.read {s₀ : Shared} {x D acc ds} (B : BdM F P s₀ env x D acc ds s) : Bd F P s₀ env ((x, .list acc) :: ds) s := by
  refine ⟨B.bd.keep, ?_, B.bd.above⟩
  obtain ⟨m, hn, hv⟩ := B.bd.lc
  obtain ⟨ys, hl, ha⟩ := B.lst
  refine ⟨m, hn, fun y d e => ?_⟩
  rw [List.lookup_cons] at e
  by_cases hy : y = x
  · subst hy
    simp at e; subst e
    obtain ⟨v, e1, e2⟩ := hv y (ob D) (by simp)
    obtain rfl := has_ob.mp e2
    exact ⟨_, e1, has_list.mpr ⟨D, ys, rfl, B.pD, hl, ha.go fun b o xs n q _ p => ⟨q, p.1⟩⟩⟩
  · have hyx : (y == x) = false := by simpa using hy
    rw [hyx] at e
    obtain ⟨v, e1, e2⟩ := hv y d (by rw [List.lookup_cons, hyx]; exact e)
    exact ⟨v, e1, e2.go fun b o xs n q _ p => ⟨q, p.1⟩⟩

/-- x[k] in such a state -/
theorem BdM.idx {s₀ : Shared} {x : Str} {D acc ds nx pos} {sl : Expr} {k : Int} {d : PyData} (B : BdM F P s₀ env x D acc ds s) (ek : EnvOk env) (hi : Ev prog w (fun b => P b ∧ b ≠ D) A env s sl (.int k)) (h0 : 0 ≤ k) (hk : k < 2 ^ 63) (hd : acc[k.toNat]? = some d)
    (kx : env.kindOf x = some .local := by rfl) (dx : (x == ("__debug__" : Str)) = false := by decide)
    (hs : ∀ o i, subscripted sl false o i = operate [o, i] (getItem o i) := by intro _ _; with_unfolding_all rfl) : Ev prog w (fun b => P b ∧ b ≠ D) A env s (.Subscript (.Name x nx) sl pos) d := fun s₁ E k₁ =>
  Subscript_ ((Ev.name (d := ob D) B.bd.lc ek (by simp) kx dx).use k₁ fun vl s₂ hl k₂ => hi.use (keeps_trans k₁ k₂) fun vi s₃ hvi k₃ => by
    obtain rfl := has_ob.mp hl
    obtain ⟨ys, hL, hA⟩ := (B.later (keeps_trans k₁ (keeps_trans k₂ k₃))).lst
    obtain ⟨t, rfl⟩ := has_int.mp hvi
    obtain ⟨v, hv, hV⟩ := hA.at hd
    exact tail_any hL.typeIs list_getitem_lookup (wpAny_getItem_list hL h0 hk (by simpa using hv) ⟨hV, keeps_trans k₂ k₃⟩) (hs _ _))
theorem BdM.idxNeg {s₀ : Shared} {x : Str} {D acc ds nx pos} {sl : Expr} {k : Int} {d : PyData} (B : BdM F P s₀ env x D acc ds s) (ek : EnvOk env) (hi : Ev prog w (fun b => P b ∧ b ≠ D) A env s sl (.int k)) (h0 : k < 0) (hn : -(acc.length : Int) ≤ k) (hk : -2 ^ 63 ≤ k) (hd : acc[(k + acc.length).toNat]? = some d)
    (kx : env.kindOf x = some .local := by rfl) (dx : (x == ("__debug__" : Str)) = false := by decide)
    (hs : ∀ o i, subscripted sl false o i = operate [o, i] (getItem o i) := by intro _ _; with_unfolding_all rfl) : Ev prog w (fun b => P b ∧ b ≠ D) A env s (.Subscript (.Name x nx) sl pos) d := fun s₁ E k₁ =>
  Subscript_ ((Ev.name (d := ob D) B.bd.lc ek (by simp) kx dx).use k₁ fun vl s₂ hl k₂ => hi.use (keeps_trans k₁ k₂) fun vi s₃ hvi k₃ => by
    obtain rfl := has_ob.mp hl
    obtain ⟨ys, hL, hA⟩ := (B.later (keeps_trans k₁ (keeps_trans k₂ k₃))).lst
    obtain ⟨t, rfl⟩ := has_int.mp hvi
    obtain ⟨v, hv, hV⟩ := hA.at hd
    have e : ys.size = acc.length := by simpa using hA.length
    exact tail_any hL.typeIs list_getitem_lookup (wpAny_getItem_list_neg hL h0 (by rw [e]; exact hn) hk (by rw [e]; simpa using hv) ⟨hV, keeps_trans k₂ k₃⟩) (hs _ _))

theorem BdM.stored {s₀ : Shared} {x : Str} {D acc ds} {i : Nat} {d : PyData} {v : Value} {ys : Array Value} {h' : Heap} (B : BdM F P s₀ env x D acc ds s) (hL : s.heap.IsList D ys) (hA : HasAll (fun b => P b ∧ b ≠ D) s.heap acc ys.toList) (hv : Has (fun b => P b ∧ b ≠ D) s.heap d v)
    (hL' : h'.IsList D (ys.setIfInBounds i v)) (hs : Heap.SameBut D s.heap h') : BdM F P s₀ env x D (acc.set i d) ds { s with heap := h' } := by
  have hDL : env.locals ≠ D := by
    rintro e
    obtain ⟨m, ⟨o, es, ep, q, q2, _⟩, _⟩ := B.bd.lc
    obtain ⟨o', q', _, n, q2'⟩ := hL
    rw [e, q'] at q; cases q; rw [q2] at q2'; cases q2'
  refine ⟨⟨?_, ?_, B.bd.above⟩, B.pD, B.new, _, hL', ?_⟩
  · exact kp_change B.bd.keep (X := (· = D)) (by rintro b rfl; exact B.new) ⟨h', s.toks, rfl, fun b o hb e => (hs.2 b hb).trans e⟩
  · obtain ⟨m, hn, hv⟩ := B.bd.lc
    refine ⟨m, hn.sameBut hs hDL, fun y d e => ?_⟩
    obtain ⟨u, e1, e2⟩ := hv y d e
    exact ⟨u, e1, has_notD (fun b o hb e => (hs.2 b hb).trans e) e2⟩
  · rw [Array.toList_setIfInBounds]
    exact (hasAll_notD (fun b o hb e => (hs.2 b hb).trans e) hA).set (has_notD (fun b o hb e => (hs.2 b hb).trans e) hv)

/-- x[k] = e ; rest -/
theorem BdM.set {s₀ : Shared} {x : Str} {D acc ds} {nx sp pos : Pos} {ei e : Expr} {k : Int} {d : PyData} {rest : List Stmt} {Q : Flow → Shared → Prop} {E} (B : BdM F P s₀ env x D acc ds s) (ek : EnvOk env)
    (he : Ev prog w (fun b => P b ∧ b ≠ D) A env s e d) (hi : Ev prog w (fun b => P b ∧ b ≠ D) A env s ei (.int k)) (hk : (0 ≤ k ∧ k < acc.length ∧ k < 2 ^ 63) ∨ (k < 0 ∧ -(acc.length : Int) ≤ k ∧ -2 ^ 63 ≤ k))
    (h : ∀ s', BdM F P s₀ env x D (acc.set (if 0 ≤ k then k.toNat else (k + acc.length).toNat) d) ds s' → wpAny (model prog w) A (execs rest env) Q E s')
    (kx : env.kindOf x = some .local := by rfl) (dx : (x == ("__debug__" : Str)) = false := by decide)
    (hsw : swapsWith e (some (.Subscript (.Name x nx) ei sp)) pos.line env = pure false := by rfl) :
    wpAny (model prog w) A (execs (.Assign [.Subscript (.Name x nx) ei sp] e pos :: rest) env) Q E s := by
  refine wpAny_execs_cons (wpAny_Assign_Subscript (he.use (keeps_refl _) fun v s₁ hv k₁ => (Ev.name (d := ob D) (B.later k₁).bd.lc ek (by simp) kx dx).use (keeps_refl _) fun ov s₂ ho k₂ => hi.use (keeps_trans k₁ k₂) fun iv s₃ hiv k₃ => ?_) hsw)
  obtain rfl := has_ob.mp ho
  obtain ⟨t, rfl⟩ := has_int.mp hiv
  have B₃ := ((B.later k₁).later k₂).later k₃
  obtain ⟨ys, hL, hA⟩ := B₃.lst
  have hlen : ys.size = acc.length := by simpa using hA.length
  have hv₃ := hv.mono (keeps_seq (keeps_trans k₂ k₃))
  rcases hk with ⟨h0, h1, h2⟩ | ⟨h0, h1, h2⟩
  · refine wpAny_setItem_list hL h0 h2 (by rw [hlen]; exact h1) fun h₄ hL₄ hs₄ => h _ ?_
    rw [if_pos h0]
    exact B₃.stored hL hA hv₃ hL₄ hs₄
  · refine setItem_neg hL h0 (by rw [hlen]; exact h1) h2 fun h₄ hL₄ hs₄ => h _ ?_
    rw [if_neg (by omega)]
    rw [hlen] at hL₄
    exact B₃.stored hL hA hv₃ hL₄ hs₄

/-- x = list(e) ; rest -/
theorem Bd.letList {s₀ : Shared} {x : Str} {px np cp pos : Pos} {e : Expr} {acc : List PyData} {ds : List (Str × PyData)} {rest : List Stmt} {Q : Flow → Shared → Prop} {E} (B : Bd F P s₀ env ds s) (W : Wd K mg mb s) (ek : EnvOk env) (fo : Fo P s) (hl : mg "list" = none) (he : Ev prog w P A env s e (.list acc)) (hz : acc.length ≤ 1000)
    (h : ∀ D s', BdM F P s₀ env x D acc ds s' → wpAny (model prog w) A (execs rest env) Q E s')
    (kx : env.kindOf x = some .local := by rfl) (kl : env.kindOf "list" = some .globalImplicit := by rfl) (hs : starEach [e] env = (false, eval e env) :: starEach [] env := by rfl)
    (hsw : swapsWith (.Call (.Name "list" np) [e] [] cp) (some (.Name x px)) pos.line env = pure false := by rfl) :
    wpAny (model prog w) A (execs (.Assign [.Name x px] (.Call (.Name "list" np) [e] [] cp) pos :: rest) env) Q E s := by
  refine wpAny_execs_cons (wpAny_Assign_Name (Call_ (boot_name (v := .type "list") ek W.g W.b hl ((W.boot "list" (by decide)).trans (by decide +kernel)) (PyProof.Rows.callWith_type1 (args_cons (he.use (keeps_refl _) fun v s₁ hv k₁ => args_nil ?_) hs) hs rfl) kl (by decide))) hsw)
  obtain ⟨a, items, rfl, _, ⟨o, ho, hc, n, hd⟩, hA⟩ := has_list.mp hv
  have hsz : items.size = acc.length := by simpa using hA.length
  refine call_list_seq a (.inl rfl) ho hc hd (fun h₂ c' k₂ hn₂ => ?_) (by rw [sizeLine_eq]; omega)
  have hDn : s₁.heap.get? s₁.heap.objs.size = none := fresh_size s₁
  have hPD : P s₁.heap.objs.size := (fo.later k₁).new
  have B₁ := B.later k₁
  have hD0 : s₀.heap.get? s₁.heap.objs.size = none := fresh_of_kp B₁.keep hDn
  generalize s₁.heap.objs.size = D at *
  have k2 : Keeps s₁ { s₁ with heap := h₂ } := keeps_heap k₂
  have up : ∀ {d v}, Has P s₁.heap d v → Has (fun b => P b ∧ b ≠ D) h₂ d v := fun {d v} x => x.go fun b o xs n q _ p => ⟨k₂ b o q, p, by rintro rfl; rw [hDn] at q; cases q⟩
  have upA : ∀ {d v}, HasAll P s₁.heap d v → HasAll (fun b => P b ∧ b ≠ D) h₂ d v := fun {d v} x => x.go fun b o xs n q _ p => ⟨k₂ b o q, p, by rintro rfl; rw [hDn] at q; cases q⟩
  have B₂ : Bd F (fun b => P b ∧ b ≠ D) s₀ env ds { s₁ with heap := h₂ } := by
    refine ⟨(B₁.later k2).keep, ?_, B.above⟩
    obtain ⟨m, hn, hv'⟩ := B₁.lc
    exact ⟨m, hn.keeps k₂, fun y d e => let ⟨v, e1, e2⟩ := hv' y d e; ⟨v, e1, up e2⟩⟩
  obtain ⟨m, hn, hmv⟩ := B₂.lc
  have hDL : D ≠ env.locals := by
    rintro rfl
    obtain ⟨oL, es, ep, q, q2, _⟩ := hn
    rw [hn₂] at q; cases q; cases q2
  refine wpAny_storeName_local kx hn (fun h₃ hn₃ hs₃ => h D _ ⟨⟨kp_store B₂.keep B.above hs₃, lc_store hn hmv (has_ob.mpr rfl) hn₃ hs₃, B.above⟩, hPD, hD0, items, ?_, ?_⟩) (by rw [ek.kind]; rfl)
  · exact ⟨_, (hs₃.2 D hDL).trans hn₂, rfl, _, rfl⟩
  · exact (upA hA).mono (KeepSeq.but hn hs₃)
end
end Mine
end
section
open PySem PySem.W PyProof.Rows PySem.Calls PySem.Spec PySem.NumText
open Sem (wp)
set_option Elab.async false
set_option maxRecDepth 100000
set_option linter.all false
set_option maxHeartbeats 4000000
namespace Mine
/-! the drawn parts, plainly -/
def digs (v : Nat) : List Nat := if v < 10 then [48 + v] else if v < 100 then [48 + v / 10, 48 + v % 10] else [48 + v / 100, 48 + v / 10 % 10, 48 + v % 10]
theorem dc : ∀ d : Nat, d < 10 → (Nat.digitChar d).toNat = 48 + d := by decide
theorem td_step {m : Nat} (h : 10 ≤ m) : (Nat.toDigits 10 m).map Char.toNat = (Nat.toDigits 10 (m / 10)).map Char.toNat ++ [48 + m % 10] := by
  have hm : m % 10 < 10 := Nat.mod_lt m (by decide)
  have t : Nat.toDigits 10 (m / 10) ++ Nat.toDigits 10 (m % 10) = Nat.toDigits 10 (10 * (m / 10) + m % 10) := Nat.toDigits_append_toDigits (by decide) (by omega) hm
  rw [Nat.div_add_mod] at t
  rw [← t, List.map_append, Nat.toDigits_of_lt_base hm]
  show _ ++ [(Nat.digitChar (m % 10)).toNat] = _
  rw [dc _ hm]
theorem ts_digs {v : Nat} (h : v < 1000) : ts (v : Int) = mk (digs v) := by
  have e : (ts (v : Int)).cps.toList = digs v := by
    show (Str.ofString (toString ((v : Nat) : Int))).cps.toList = _
    rw [KIN.signs_num]
    have one : ∀ m : Nat, m < 10 → (Nat.toDigits 10 m).map Char.toNat = [48 + m] := fun m hm => by
      rw [Nat.toDigits_of_lt_base hm]
      show [(Nat.digitChar m).toNat] = _
      rw [dc _ hm]
    unfold digs
    split
    · exact one v ‹_›
    · split
      · rw [td_step (by omega), one _ (by omega)]; rfl
      · rw [td_step (by omega), td_step (by omega), one _ (by omega), Nat.div_div_eq_div_mul]; rfl
  rw [← e, mk_of]
theorem digs_len (v : Nat) : (digs v).length ≤ 3 ∧ 1 ≤ (digs v).length := by
  unfold digs; split <;> (try split) <;> simp
theorem ts_len {v : Int} (h0 : 0 ≤ v) (h1 : v < 1000) : (ts v).length ≤ 3 := by
  obtain ⟨n, rfl⟩ := Int.eq_ofNat_of_zero_le h0
  rw [ts_digs (by omega), mk_len]; exact (digs_len n).1

def leads : List Str := ["", " ", "\t", " \t", "\t  ", "  \t \t"]
def tails : List Str := ["", "", " ", "\t "]
def qOf (x : Int) : Int := if x.fdiv 7 < 0 then -(x.fdiv 7) else x.fdiv 7
def leadOf (x : Int) : Str := leads.getD ((qOf x).fmod 6).toNat ""
def tailOf (x : Int) : Str := tails.getD (((qOf x).fdiv 6).fmod 4).toNat ""
def vOf (x : Int) : Int := ((qOf x).fdiv 24).fmod 1000
def wrongs (t : Str) : List Str := ["", t ++ "b", "1 " ++ t, "_" ++ t, t ++ "_", "+ " ++ t, "+-" ++ t, "1__" ++ t]
def bareOf (x : Int) : List Pc :=
  let v := vOf x
  let t := ts v
  if x.fmod 7 = 0 then [(t, some v)]
  else if x.fmod 7 = 1 then [("00" ++ t, some v)]
  else if x.fmod 7 = 2 then [("+" ++ t, some v)]
  else if x.fmod 7 = 3 then [("-" ++ t, some (-v))]
  else if x.fmod 7 = 4 then [(ts (v.fdiv 10) ++ "_" ++ ts (v.fmod 10), some v)]
  else if x.fmod 7 = 5 then [((wrongs t).getD (v.fmod 8).toNat "", none)]
  else [(t, some v), ("0" ++ t, some v)]
/-- blanks ahead of the first text, behind the last -/
def padFirst (l : Str) : List Pc → List Pc
  | [] => []
  | p :: r => (l ++ p.1, p.2) :: r
def padLast (t : Str) : List Pc → List Pc
  | [] => []
  | [p] => [(p.1 ++ t, p.2)]
  | p :: r => p :: padLast t r
def fullOf (x : Int) : List Pc := padLast (tailOf x) (padFirst (leadOf x) (bareOf x))

theorem qOf_nonneg (x : Int) : 0 ≤ qOf x := by unfold qOf; split <;> omega
theorem fmod_bound {a b : Int} (hb : 0 < b) : 0 ≤ a.fmod b ∧ a.fmod b < b := ⟨Int.fmod_nonneg_of_pos a hb, Int.fmod_lt_of_pos a hb⟩
theorem vOf_bound (x : Int) : 0 ≤ vOf x ∧ vOf x < 1000 := fmod_bound (by decide)
theorem log2_small {n : Nat} (h : n < 1024) : n.log2 < 1920 := by
  by_cases h0 : n = 0
  · subst h0; decide
  · exact Nat.lt_trans ((Nat.log2_lt h0).mpr (show n < 2 ^ 10 from h)) (by decide)

section
variable {prog : Program} {w : World} {P : Addr → Prop} {A : Around} {s : Shared} {K : Frag} {mg mb : Str → Option Value} {f : Addr}

theorem strs_at {l : List Str} {k : Int} (h0 : 0 ≤ k) (h1 : k < l.length) : (l.map PyData.str)[k.toNat]? = some (.str (l.getD k.toNat "")) := by
  have : k.toNat < l.length := by omega
  simp [List.getD, List.getElem?_eq_getElem this]

structure PartNames (mg : Str → Option Value) : Prop where
  abs : mg "abs" = none
  str : mg "str" = none
  list : mg "list" = none

theorem part_head {qual cdv} {s₀ s₁ : Shared} {L : Addr} {x : Int} {Q : Flow → Shared → Prop} {E} (W : Wd K mg mb s) (k₀ : Keeps s s₀) (N : PartNames mg) (fo : Fo P s₀)
    (B : Bd [] P s₀ (envOf qual (pick 6).scope L f cdv) [("x", .int x)] s₁)
    (h : ∀ s', Bd [] P s₀ (envOf qual (pick 6).scope L f cdv) [("text", .str (ts (vOf x))), ("v", .int (vOf x)), ("tail", .str (tailOf x)), ("lead", .str (leadOf x)), ("x", .int x)] s' →
      wpAny (model prog w) A (execs ((pick 6).body.drop 5) (envOf qual (pick 6).scope L f cdv)) Q E s') :
    wpAny (model prog w) A (execs (pick 6).body (envOf qual (pick 6).scope L f cdv)) Q E s₁ := by
  have ek : EnvOk (envOf qual (pick 6).scope L f cdv) := envOf_ok rfl
  have wd : ∀ {s' ds}, Bd [] P s₀ (envOf qual (pick 6).scope L f cdv) ds s' → Wd K mg mb s' := fun B' => W.keeps (keeps_trans k₀ B'.keep.strict)
  have foo : ∀ {s' ds}, Bd [] P s₀ (envOf qual (pick 6).scope L f cdv) ds s' → Fo P s' := fun B' => fo.kp B'.keep
  have fd : ∀ (n : Int), n.natAbs < 1073741824 → ∀ a, Builtin.divisionGoesByPylong a n = false := fun n h a => PyProof.noPylong_small h
  refine B.let ek (d := .int (qOf x)) (Ev.callBuiltin ek (wd B).g (wd B).b N.abs ((W.boot "abs" (by decide)).trans (by decide +kernel)) (EvL.cons (Ev.bin (Ev.name B.lc ek rfl) Ev.int (fun s va vb k ha hb => to_fdiv ha hb (by decide) (fd _ (by decide) _))) EvL.nil) fn_abs (foo B)) fun s₂ B₂ => ?_
  have hq := qOf_nonneg x
  have b6 := fmod_bound (a := qOf x) (b := 6) (by decide)
  refine B₂.let ek (d := .str (leadOf x)) (Ev.idx (ds := leads.map .str) (Ev.lst (foo B₂) (EvL.cons Ev.strc (EvL.cons Ev.strc (EvL.cons Ev.strc (EvL.cons Ev.strc (EvL.cons Ev.strc (EvL.cons Ev.strc EvL.nil)))))))
    (Ev.bin (Ev.name B₂.lc ek rfl) Ev.int (fun s va vb k ha hb => to_mod ha hb (by decide))) b6.1 (by omega) (strs_at b6.1 (by show _ < (6 : Int); omega))) fun s₃ B₃ => ?_
  have b4 := fmod_bound (a := (qOf x).fdiv 6) (b := 4) (by decide)
  refine B₃.let ek (d := .str (tailOf x)) (Ev.idx (ds := tails.map .str) (Ev.lst (foo B₃) (EvL.cons Ev.strc (EvL.cons Ev.strc (EvL.cons Ev.strc (EvL.cons Ev.strc EvL.nil)))))
    (Ev.bin (Ev.bin (Ev.name B₃.lc ek rfl) Ev.int (fun s va vb k ha hb => to_fdiv ha hb (by decide) (fd _ (by decide) _))) Ev.int (fun s va vb k ha hb => to_mod ha hb (by decide))) b4.1 (by omega) (strs_at b4.1 (by show _ < (4 : Int); omega))) fun s₄ B₄ => ?_
  refine B₄.let ek (d := .int (vOf x)) (Ev.bin (Ev.bin (Ev.name B₄.lc ek rfl) Ev.int (fun s va vb k ha hb => to_fdiv ha hb (by decide) (fd _ (by decide) _))) Ev.int (fun s va vb k ha hb => to_mod ha hb (by decide))) fun s₅ B₅ => ?_
  have hv := vOf_bound x
  refine B₅.let ek (d := .str (ts (vOf x))) (Ev.callType ek (wd B₅).g (wd B₅).b N.str ((W.boot "str" (by decide)).trans (by decide +kernel)) (EvL.cons (Ev.name B₅.lc ek rfl) EvL.nil) (fn_str (log2_small (by omega))) (foo B₅)) fun s₆ B₆ => ?_
  exact h s₆ (B₆.sub ⟨rfl, rfl, rfl, rfl, rfl, trivial⟩)
end
end Mine
end
section
open PySem PySem.W PyProof.Rows PySem.Calls PySem.Spec PySem.NumText
open Sem (wp)
set_option Elab.async false
set_option maxRecDepth 100000
set_option linter.all false
set_option maxHeartbeats 4000000
namespace Mine
section
variable {prog : Program} {w : World} {P : Addr → Prop} {A : Around} {s : Shared} {K : Frag} {mg mb : Str → Option Value} {f : Addr}

theorem fo_ne {D : Addr} (fo : Fo P s) (h : ∃ o, s.heap.get? D = some o) : Fo (fun b => P b ∧ b ≠ D) s := fun b e => ⟨fo b e, by rintro rfl; obtain ⟨o, ho⟩ := h; rw [ho] at e; cases e⟩
theorem BdM.foM {F : List Addr} {s₀ : Shared} {env x D acc ds} (B : BdM F P s₀ env x D acc ds s) (fo : Fo P s₀) : Fo (fun b => P b ∧ b ≠ D) s :=
  fo_ne (fo.kp B.bd.keep) (by obtain ⟨ys, ⟨o, ho, _⟩, _⟩ := B.lst; exact ⟨o, ho⟩)

theorem part_tail {qual cdv} {s₀ s₁ : Shared} {L : Addr} {ld tl : Str} {bs : List Pc} {E} (W : Wd K mg mb s) (k₀ : Keeps s s₀) (N : PartNames mg) (fo : Fo P s₀) (hbs : (∃ p, bs = [p]) ∨ ∃ p r, bs = [p, r]) (hb : ∀ p ∈ bs, p.1.length ≤ 1000) (hld : ld.length ≤ 1000) (htl : tl.length ≤ 1000)
    (B : Bd [] P s₀ (envOf qual (pick 6).scope L f cdv) [("bare", .list (bs.map pd)), ("tail", .str tl), ("lead", .str ld)] s₁) :
    wpAny (model prog w) A (execs ((pick 6).body.drop 6) (envOf qual (pick 6).scope L f cdv))
      (fun fl s' => ∃ v, fl = .ret v ∧ Has P s'.heap (.tuple [.list ((padLast tl (padFirst ld bs)).map pd), .list (bs.map pd)]) v ∧ Keeps s₀ s') E s₁ := by
  have ek : EnvOk (envOf qual (pick 6).scope L f cdv) := envOf_ok rfl
  have wd : ∀ {s' ds}, Bd [] P s₀ (envOf qual (pick 6).scope L f cdv) ds s' → Wd K mg mb s' := fun B' => W.keeps (keeps_trans k₀ B'.keep.strict)
  have foo : ∀ {s' ds}, Bd [] P s₀ (envOf qual (pick 6).scope L f cdv) ds s' → Fo P s' := fun B' => fo.kp B'.keep
  have sl : ∀ n : Nat, n ≤ 10000 → n ≤ sizeLine := fun n h => by rw [sizeLine_eq]; omega
  refine B.letList (wd B) ek (foo B) N.list (Ev.name B.lc ek rfl) (by rcases hbs with ⟨p, rfl⟩ | ⟨p, r, rfl⟩ <;> simp) fun D s₂ M₂ => ?_
  rcases hbs with ⟨⟨a, va⟩, rfl⟩ | ⟨⟨a, va⟩, ⟨b, vb⟩, rfl⟩
  · have ha : a.length ≤ 1000 := hb _ (.head _)
    have hla : (ld ++ a).length ≤ 2000 := by rw [Str.length_append]; omega
    refine M₂.set ek (d := pd (ld ++ a, va)) (Ev.tup (M₂.foM fo) (EvL.cons (Ev.bin (Ev.name M₂.bd.lc ek rfl) (Ev.idxT (M₂.idx ek Ev.int (by decide) (by decide) rfl) Ev.int (by decide) (by decide) rfl) (fun s va vb k ha hb => to_addStr ha hb (sl _ (by omega))))
      (EvL.cons (Ev.idxT (M₂.idx ek Ev.int (by decide) (by decide) rfl) Ev.int (by decide) (by decide) rfl) EvL.nil)) (by show 2 ≤ 1000; decide)) Ev.int (.inl ⟨by decide, by show (0 : Int) < 1; decide, by decide⟩) fun s₃ M₃ => ?_
    have M₃' : BdM [] P s₀ (envOf qual (pick 6).scope L f cdv) "full" D [pd (ld ++ a, va)] [("bare", .list ([(a, va)].map pd)), ("tail", .str tl), ("lead", .str ld)] s₃ := M₃
    refine M₃'.set ek (d := pd (ld ++ a ++ tl, va)) (Ev.tup (M₃'.foM fo) (EvL.cons (Ev.bin (Ev.idxT (M₃'.idxNeg ek (Ev.neg Ev.int) (by decide) (by show (-1 : Int) ≤ -1; decide) (by decide) rfl) Ev.int (by decide) (by decide) rfl) (Ev.name M₃'.bd.lc ek rfl) (fun s va vb k ha hb => to_addStr ha hb (sl _ (by omega))))
      (EvL.cons (Ev.idxT (M₃'.idxNeg ek (Ev.neg Ev.int) (by decide) (by show (-1 : Int) ≤ -1; decide) (by decide) rfl) Ev.int (by decide) (by decide) rfl) EvL.nil)) (by show 2 ≤ 1000; decide)) (Ev.neg Ev.int) (.inr ⟨by decide, by show (-1 : Int) ≤ -1; decide, by decide⟩) fun s₄ M₄ => ?_
    have M₄' : BdM [] P s₀ (envOf qual (pick 6).scope L f cdv) "full" D [pd (ld ++ a ++ tl, va)] [("bare", .list ([(a, va)].map pd)), ("tail", .str tl), ("lead", .str ld)] s₄ := M₄
    have B₄ := M₄'.read
    refine ret_ (Ev.tup (foo B₄) (EvL.cons (Ev.name B₄.lc ek rfl) (EvL.cons (Ev.name B₄.lc ek rfl) EvL.nil)) (by show 2 ≤ 1000; decide)) fun v s₅ hv k₅ => ⟨v, rfl, hv, B₄.out k₅⟩
  · have ha : a.length ≤ 1000 := hb _ (.head _)
    have hb' : b.length ≤ 1000 := hb _ (.tail _ (.head _))
    refine M₂.set ek (d := pd (ld ++ a, va)) (Ev.tup (M₂.foM fo) (EvL.cons (Ev.bin (Ev.name M₂.bd.lc ek rfl) (Ev.idxT (M₂.idx ek Ev.int (by decide) (by decide) rfl) Ev.int (by decide) (by decide) rfl) (fun s va vb k ha hb => to_addStr ha hb (sl _ (by omega))))
      (EvL.cons (Ev.idxT (M₂.idx ek Ev.int (by decide) (by decide) rfl) Ev.int (by decide) (by decide) rfl) EvL.nil)) (by show 2 ≤ 1000; decide)) Ev.int (.inl ⟨by decide, by show (0 : Int) < 2; decide, by decide⟩) fun s₃ M₃ => ?_
    have M₃' : BdM [] P s₀ (envOf qual (pick 6).scope L f cdv) "full" D [pd (ld ++ a, va), pd (b, vb)] [("bare", .list ([(a, va), (b, vb)].map pd)), ("tail", .str tl), ("lead", .str ld)] s₃ := M₃
    refine M₃'.set ek (d := pd (b ++ tl, vb)) (Ev.tup (M₃'.foM fo) (EvL.cons (Ev.bin (Ev.idxT (M₃'.idxNeg ek (Ev.neg Ev.int) (by decide) (by show (-2 : Int) ≤ -1; decide) (by decide) rfl) Ev.int (by decide) (by decide) rfl) (Ev.name M₃'.bd.lc ek rfl) (fun s va vb k ha hb => to_addStr ha hb (sl _ (by omega))))
      (EvL.cons (Ev.idxT (M₃'.idxNeg ek (Ev.neg Ev.int) (by decide) (by show (-2 : Int) ≤ -1; decide) (by decide) rfl) Ev.int (by decide) (by decide) rfl) EvL.nil)) (by show 2 ≤ 1000; decide)) (Ev.neg Ev.int) (.inr ⟨by decide, by show (-2 : Int) ≤ -1; decide, by decide⟩) fun s₄ M₄ => ?_
    have M₄' : BdM [] P s₀ (envOf qual (pick 6).scope L f cdv) "full" D [pd (ld ++ a, va), pd (b ++ tl, vb)] [("bare", .list ([(a, va), (b, vb)].map pd)), ("tail", .str tl), ("lead", .str ld)] s₄ := M₄
    have B₄ := M₄'.read
    refine ret_ (Ev.tup (foo B₄) (EvL.cons (Ev.name B₄.lc ek rfl) (EvL.cons (Ev.name B₄.lc ek rfl) EvL.nil)) (by show 2 ≤ 1000; decide)) fun v s₅ hv k₅ => ⟨v, rfl, hv, B₄.out k₅⟩
end
end Mine
end
section
open PySem PySem.W PyProof.Rows PySem.Calls PySem.Spec PySem.NumText
open Sem (wp)
set_option Elab.async false
set_option maxRecDepth 100000
set_option linter.all false
set_option maxHeartbeats 4000000
namespace Mine
theorem leads_len : ∀ l ∈ leads, l.length ≤ 5 := by decide
theorem tails_len : ∀ l ∈ tails, l.length ≤ 5 := by decide
theorem getD_len {l : List Str} {n k : Nat} (h : ∀ x ∈ l, x.length ≤ k) : (l.getD n "").length ≤ k := by
  rw [List.getD_eq_getElem?_getD]
  cases e : l[n]? with
  | none => exact Nat.zero_le _
  | some x => exact h x (List.mem_of_getElem? e)
theorem lits : (Str.ofString "b").length = 1 ∧ (Str.ofString "1 ").length = 2 ∧ (Str.ofString "_").length = 1 ∧ (Str.ofString "+ ").length = 2 ∧ (Str.ofString "+-").length = 2 ∧ (Str.ofString "1__").length = 3 ∧ (Str.ofString "00").length = 2 ∧ (Str.ofString "+").length = 1 ∧ (Str.ofString "-").length = 1 ∧ (Str.ofString "0").length = 1 := by decide
theorem wrongs_len {t : Str} (h : t.length ≤ 3) : ∀ l ∈ wrongs t, l.length ≤ 100 := by
  obtain ⟨e1, e2, e3, e4, e5, e6, _⟩ := lits
  intro l hl
  simp only [wrongs, List.mem_cons, List.not_mem_nil, or_false] at hl
  rcases hl with rfl | rfl | rfl | rfl | rfl | rfl | rfl | rfl <;> (try simp only [Str.length_append]) <;> first | omega | decide
section
variable {prog : Program} {w : World} {A : Around} {s : Shared} {K : Frag} {mg mb : Str → Option Value} {f : Addr}

/-- _law_part -/
theorem part_fn {x : Int} (W : Wd K mg mb s) (hf : IsFn K f 6 .none) (N : PartNames mg) (hroom : A.depth + 20 < recursionLimit) :
    FnTo prog w A (.ref f) [.int x] (.tuple [.list ((fullOf x).map pd), .list ((bareOf x).map pd)]) s := by
  refine fn_defS (bd := [("x", .int x)]) (fun vs => [Str.ofString "x"].zip vs) W.X W.lim hf (by omega) ?_ ?_
  · intro qual kV doc pm an cdv ct P s₁ vs k hv
    refine ⟨?_, ?_, binds_one (x := "x") hv⟩
    · obtain ⟨u, rfl, _⟩ := hasAll_one hv
      exact .of_eq rfl
    · obtain ⟨u, rfl, _⟩ := hasAll_one hv
      intro y hy
      simp only [List.zip_cons_cons, List.zip_nil_right, List.mem_cons, List.not_mem_nil, or_false] at hy
      rcases hy with rfl
      rfl
  · intro qual cdv P s₀ s₁ L k₀ fo B
    have ek : EnvOk (envOf qual (pick 6).scope L f cdv) := envOf_ok rfl
    refine part_head W k₀ N fo B fun s₂ B₂ => ?_
    have hv := vOf_bound x
    have hvl := ts_len hv.1 hv.2
    have hld : (leadOf x).length ≤ 1000 := Nat.le_trans (getD_len leads_len) (by decide)
    have htl : (tailOf x).length ≤ 1000 := Nat.le_trans (getD_len tails_len) (by decide)
    have foo : ∀ {s' ds}, Bd [] P s₀ (envOf qual (pick 6).scope L f cdv) ds s' → Fo P s' := fun B' => fo.kp B'.keep
    have wd : ∀ {s' ds}, Bd [] P s₀ (envOf qual (pick 6).scope L f cdv) ds s' → Wd K mg mb s' := fun B' => W.keeps (keeps_trans k₀ B'.keep.strict)
    have sl : ∀ n : Nat, n ≤ 10000 → n ≤ sizeLine := fun n h => by rw [sizeLine_eq]; omega
    -- what is left behind the choice
    have fin : ∀ {bs : List Pc}, bareOf x = bs → ((∃ p, bs = [p]) ∨ ∃ p r, bs = [p, r]) → (∀ p ∈ bs, p.1.length ≤ 1000) → ∀ s₃, Bd [] P s₀ (envOf qual (pick 6).scope L f cdv) [("bare", .list (bs.map pd)), ("tail", .str (tailOf x)), ("lead", .str (leadOf x))] s₃ →
        wpAny (model prog w) (A.deeper (envOf qual (pick 6).scope L f cdv)) (execs ((pick 6).body.drop 6) (envOf qual (pick 6).scope L f cdv))
          (fun fl s' => ∃ v, fl = .ret v ∧ Has P s'.heap (.tuple [.list ((fullOf x).map pd), .list ((bareOf x).map pd)]) v ∧ Keeps s₀ s') (fun _ _ => False) s₃ := by
      intro bs e h1 h2 s₃ B₃
      unfold fullOf
      rw [e]
      exact part_tail W k₀ N fo h1 h2 hld htl B₃
    have test : ∀ {s' : Shared} {ds : List (Str × PyData)} {k : Int} {n1 n2 n3 n4 n5 : Pos} {k1 k2 : Nat}, Bd [] P s₀ (envOf qual (pick 6).scope L f cdv) ds s' → ds.lookup (Str.ofString "x") = some (PyData.int x) → Ts prog w (A.deeper (envOf qual (pick 6).scope L f cdv)) (envOf qual (pick 6).scope L f cdv) s' (.Compare (.BinOp (.Name "x" n1) .Mod (.Constant (.int 7) k1 n2) n3) [.Eq] [.Constant (.int k) k2 n4] n5) (x.fmod 7 == k) :=
      fun B' hx => Ts.cmp (Ev.bin (Ev.name B'.lc ek hx) Ev.int (fun s va vb k ha hb => to_mod ha hb (by decide))) Ev.int (fun s va vb k ha hb => to_eqInt ha hb)
    have hr := fmod_bound (a := x) (b := 7) (by decide)
    refine wpAny_execs_cons ?_
    refine if_ (test B₂ rfl) fun s₃ k₃ => ?_
    have B₃ := B₂.later k₃
    by_cases h0 : x.fmod 7 = 0
    · rw [h0, if_pos (by rfl)]
      refine B₃.let ek (d := .list ([(ts (vOf x), some (vOf x))].map pd)) (Ev.lst (foo B₃) (EvL.cons (Ev.tup (foo B₃) (EvL.cons (Ev.name B₃.lc ek rfl) (EvL.cons (Ev.name B₃.lc ek rfl) EvL.nil)) (by show 2 ≤ 1000; decide)) EvL.nil) (by show 1 ≤ 1000; decide)) fun s₄ B₄ => ?_
      refine execs_nil (fin (by unfold bareOf; simp [h0]) (.inl ⟨_, rfl⟩) (by intro p hp; cases hp with | head => show (ts (vOf x)).length ≤ 1000; omega | tail _ h => cases h) s₄ (B₄.sub ⟨rfl, rfl, rfl, trivial⟩))
    rw [if_neg (by simpa using h0)]
    obtain ⟨e1, e2, e3, e4, e5, e6, e7, e8, e9, e10⟩ := lits
    have hd1 : 0 ≤ (vOf x).fdiv 10 ∧ (vOf x).fdiv 10 < 1000 := by rw [Int.fdiv_eq_ediv_of_nonneg _ (by decide)]; omega
    have hd2 := fmod_bound (a := vOf x) (b := 10) (by decide)
    have hl1 := ts_len hd1.1 hd1.2
    have hl2 := ts_len hd2.1 (by omega)
    have estr : ∀ {s' : Shared} {ds : List (Str × PyData)} {n : Int} {e : Expr} {np pos : Pos} (B' : Bd [] P s₀ (envOf qual (pick 6).scope L f cdv) ds s'), Ev prog w P (A.deeper (envOf qual (pick 6).scope L f cdv)) (envOf qual (pick 6).scope L f cdv) s' e (.int n) → 0 ≤ n → n < 1000 →
        (starEach [e] (envOf qual (pick 6).scope L f cdv) = (false, eval e (envOf qual (pick 6).scope L f cdv)) :: starEach [] (envOf qual (pick 6).scope L f cdv)) →
        Ev prog w P (A.deeper (envOf qual (pick 6).scope L f cdv)) (envOf qual (pick 6).scope L f cdv) s' (.Call (.Name "str" np) [e] [] pos) (.str (ts n)) :=
      fun B' he h0 h1 hs => Ev.callType ek (wd B').g (wd B').b N.str ((W.boot "str" (by decide)).trans (by decide +kernel)) (EvL.cons he EvL.nil hs) (fn_str (log2_small (by omega))) (foo B') rfl (by decide) hs (by intro _; rfl)
    refine wpAny_execs_cons ?_
    refine if_ (test B₃ rfl) fun s11 k11 => ?_
    have B11 := B₃.later k11
    by_cases h1 : x.fmod 7 = 1
    · rw [h1, if_pos (by rfl)]
      refine B11.let ek (d := .list (([("00" ++ ts (vOf x), some (vOf x))] : List Pc).map pd)) (Ev.lst (foo B11) (EvL.cons (Ev.tup (foo B11) (EvL.cons (Ev.bin Ev.strc (Ev.name B11.lc ek rfl) (fun s va vb k ha hb => to_addStr ha hb (sl _ (by omega)))) (EvL.cons (Ev.name B11.lc ek rfl) EvL.nil)) (by show 2 ≤ 1000; decide)) EvL.nil) (by show 1 ≤ 1000; decide)) fun s₄ B₄ => ?_
      iterate 1 refine execs_nil ?_
      refine execs_nil (fin (by unfold bareOf; simp [h1]) (.inl ⟨_, rfl⟩) (by intro p hp; cases hp with | head => show ((Str.ofString "00") ++ ts (vOf x)).length ≤ 1000; rw [Str.length_append]; omega | tail _ h => cases h) s₄ (B₄.sub ⟨rfl, rfl, rfl, trivial⟩))
    rw [if_neg (by simpa using h1)]
    refine wpAny_execs_cons ?_
    refine if_ (test B11 rfl) fun s12 k12 => ?_
    have B12 := B11.later k12
    by_cases h2 : x.fmod 7 = 2
    · rw [h2, if_pos (by rfl)]
      refine B12.let ek (d := .list (([("+" ++ ts (vOf x), some (vOf x))] : List Pc).map pd)) (Ev.lst (foo B12) (EvL.cons (Ev.tup (foo B12) (EvL.cons (Ev.bin Ev.strc (Ev.name B12.lc ek rfl) (fun s va vb k ha hb => to_addStr ha hb (sl _ (by omega)))) (EvL.cons (Ev.name B12.lc ek rfl) EvL.nil)) (by show 2 ≤ 1000; decide)) EvL.nil) (by show 1 ≤ 1000; decide)) fun s₄ B₄ => ?_
      iterate 2 refine execs_nil ?_
      refine execs_nil (fin (by unfold bareOf; simp [h2]) (.inl ⟨_, rfl⟩) (by intro p hp; cases hp with | head => show ((Str.ofString "+") ++ ts (vOf x)).length ≤ 1000; rw [Str.length_append]; omega | tail _ h => cases h) s₄ (B₄.sub ⟨rfl, rfl, rfl, trivial⟩))
    rw [if_neg (by simpa using h2)]
    refine wpAny_execs_cons ?_
    refine if_ (test B12 rfl) fun s13 k13 => ?_
    have B13 := B12.later k13
    by_cases h3 : x.fmod 7 = 3
    · rw [h3, if_pos (by rfl)]
      refine B13.let ek (d := .list (([("-" ++ ts (vOf x), some (-vOf x))] : List Pc).map pd)) (Ev.lst (foo B13) (EvL.cons (Ev.tup (foo B13) (EvL.cons (Ev.bin Ev.strc (Ev.name B13.lc ek rfl) (fun s va vb k ha hb => to_addStr ha hb (sl _ (by omega)))) (EvL.cons (Ev.neg (Ev.name B13.lc ek rfl)) EvL.nil)) (by show 2 ≤ 1000; decide)) EvL.nil) (by show 1 ≤ 1000; decide)) fun s₄ B₄ => ?_
      iterate 3 refine execs_nil ?_
      refine execs_nil (fin (by unfold bareOf; simp [h3]) (.inl ⟨_, rfl⟩) (by intro p hp; cases hp with | head => show ((Str.ofString "-") ++ ts (vOf x)).length ≤ 1000; rw [Str.length_append]; omega | tail _ h => cases h) s₄ (B₄.sub ⟨rfl, rfl, rfl, trivial⟩))
    rw [if_neg (by simpa using h3)]
    refine wpAny_execs_cons ?_
    refine if_ (test B13 rfl) fun s14 k14 => ?_
    have B14 := B13.later k14
    by_cases h4 : x.fmod 7 = 4
    · rw [h4, if_pos (by rfl)]
      refine B14.let ek (d := .list (([(ts ((vOf x).fdiv 10) ++ "_" ++ ts ((vOf x).fmod 10), some (vOf x))] : List Pc).map pd)) (Ev.lst (foo B14) (EvL.cons (Ev.tup (foo B14) (EvL.cons (Ev.bin (Ev.bin (estr B14 (Ev.bin (Ev.name B14.lc ek rfl) Ev.int (fun s va vb k ha hb => to_fdiv ha hb (by decide) (PyProof.noPylong_small (by decide)))) hd1.1 hd1.2 rfl) Ev.strc (fun s va vb k ha hb => to_addStr ha hb (sl _ (by omega)))) (estr B14 (Ev.bin (Ev.name B14.lc ek rfl) Ev.int (fun s va vb k ha hb => to_mod ha hb (by decide))) hd2.1 (by omega) rfl) (fun s va vb k ha hb => to_addStr ha hb (sl _ (by rw [Str.length_append]; omega)))) (EvL.cons (Ev.name B14.lc ek rfl) EvL.nil)) (by show 2 ≤ 1000; decide)) EvL.nil) (by show 1 ≤ 1000; decide)) fun s₄ B₄ => ?_
      iterate 4 refine execs_nil ?_
      refine execs_nil (fin (by unfold bareOf; simp [h4]) (.inl ⟨_, rfl⟩) (by intro p hp; cases hp with | head => show (ts ((vOf x).fdiv 10) ++ Str.ofString "_" ++ ts ((vOf x).fmod 10)).length ≤ 1000; rw [Str.length_append, Str.length_append]; omega | tail _ h => cases h) s₄ (B₄.sub ⟨rfl, rfl, rfl, trivial⟩))
    rw [if_neg (by simpa using h4)]
    refine wpAny_execs_cons ?_
    refine if_ (test B14 rfl) fun s15 k15 => ?_
    have B15 := B14.later k15
    by_cases h5 : x.fmod 7 = 5
    · rw [h5, if_pos (by rfl)]
      have hw8 := fmod_bound (a := vOf x) (b := 8) (by decide)
      refine B15.let ek (d := .list ((wrongs (ts (vOf x))).map .str)) (Ev.lst (foo B15) (EvL.cons Ev.strc (EvL.cons (Ev.bin (Ev.name B15.lc ek rfl) Ev.strc (fun s va vb k ha hb => to_addStr ha hb (sl _ (by omega))))
        (EvL.cons (Ev.bin Ev.strc (Ev.name B15.lc ek rfl) (fun s va vb k ha hb => to_addStr ha hb (sl _ (by omega))))
        (EvL.cons (Ev.bin Ev.strc (Ev.name B15.lc ek rfl) (fun s va vb k ha hb => to_addStr ha hb (sl _ (by omega))))
        (EvL.cons (Ev.bin (Ev.name B15.lc ek rfl) Ev.strc (fun s va vb k ha hb => to_addStr ha hb (sl _ (by omega))))
        (EvL.cons (Ev.bin Ev.strc (Ev.name B15.lc ek rfl) (fun s va vb k ha hb => to_addStr ha hb (sl _ (by omega))))
        (EvL.cons (Ev.bin Ev.strc (Ev.name B15.lc ek rfl) (fun s va vb k ha hb => to_addStr ha hb (sl _ (by omega))))
        (EvL.cons (Ev.bin Ev.strc (Ev.name B15.lc ek rfl) (fun s va vb k ha hb => to_addStr ha hb (sl _ (by omega)))) EvL.nil)))))))) (by show 8 ≤ 1000; decide)) fun sw Bw => ?_
      refine Bw.let ek (d := .list (([((wrongs (ts (vOf x))).getD ((vOf x).fmod 8).toNat "", none)] : List Pc).map pd)) (Ev.lst (foo Bw) (EvL.cons (Ev.tup (foo Bw) (EvL.cons
        (Ev.idx (ds := (wrongs (ts (vOf x))).map .str) (Ev.name Bw.lc ek rfl) (Ev.bin (Ev.name Bw.lc ek rfl) Ev.int (fun s va vb k ha hb => to_mod ha hb (by decide))) hw8.1 (by omega) (strs_at hw8.1 (by show _ < (8 : Int); omega)))
        (EvL.cons Ev.nonec EvL.nil)) (by show 2 ≤ 1000; decide)) EvL.nil) (by show 1 ≤ 1000; decide)) fun s₄ B₄ => ?_
      iterate 5 refine execs_nil ?_
      refine execs_nil (fin (by unfold bareOf; simp [h5]) (.inl ⟨_, rfl⟩) (by intro p hp; cases hp with | head => exact Nat.le_trans (getD_len (wrongs_len hvl)) (by decide) | tail _ h => cases h) s₄ (B₄.sub ⟨rfl, rfl, rfl, trivial⟩))
    rw [if_neg (by simpa using h5)]
    refine B15.let ek (d := .list (([(ts (vOf x), some (vOf x)), ("0" ++ ts (vOf x), some (vOf x))] : List Pc).map pd)) (Ev.lst (foo B15) (EvL.cons (Ev.tup (foo B15) (EvL.cons (Ev.name B15.lc ek rfl) (EvL.cons (Ev.name B15.lc ek rfl) EvL.nil)) (by show 2 ≤ 1000; decide))
      (EvL.cons (Ev.tup (foo B15) (EvL.cons (Ev.bin Ev.strc (Ev.name B15.lc ek rfl) (fun s va vb k ha hb => to_addStr ha hb (sl _ (by omega)))) (EvL.cons (Ev.name B15.lc ek rfl) EvL.nil)) (by show 2 ≤ 1000; decide)) EvL.nil)) (by show 2 ≤ 1000; decide)) fun s₄ B₄ => ?_
    iterate 5 refine execs_nil ?_
    refine execs_nil (fin (by unfold bareOf; simp [h0, h1, h2, h3, h4, h5]) (.inr ⟨_, _, rfl⟩) (by
      intro p hp
      cases hp with
      | head => show (ts (vOf x)).length ≤ 1000; omega
      | tail _ h => cases h with
        | head => show ((Str.ofString "0") ++ ts (vOf x)).length ≤ 1000; rw [Str.length_append]; omega
        | tail _ h => cases h) s₄ (B₄.sub ⟨rfl, rfl, rfl, trivial⟩))
end
end Mine
end
section
open PySem PySem.W PyProof.Rows PySem.Calls PySem.Spec PySem.NumText
open Sem (wp)
set_option Elab.async false
set_option maxRecDepth 100000
set_option linter.all false
set_option maxHeartbeats 4000000
namespace Mine
/-! [elt for t1 in i1 for t2 in i2] -/
def two (elt t1 i1 t2 i2 : Expr) (scope : Scope) (pos : Pos) : Expr := .ListComp elt [⟨t1, i1, [], 0⟩, ⟨t2, i2, [], 0⟩] scope pos
def restTwo (elt t1 i1 t2 i2 : Expr) (scope : Scope) (pos : Pos) (I D : Addr) (cenv : Env) : Sem Fin := do
  let x ← eval i2 cenv
  standAt i2.pos
  let x ← foldedSetIterable i2 cenv x
  let _ ← runOwn (.compStart (two elt t1 i1 t2 i2 scope pos) 1 (← holding [x] (pyIter x)) (.ref D) cenv) cenv
  again (.compLoop (two elt t1 i1 t2 i2 scope pos) 0 (.ref I) (.ref D) cenv)
def restIn (elt t1 i1 t2 i2 : Expr) (scope : Scope) (pos : Pos) (I D : Addr) (cenv : Env) : Sem Fin := do
  (do let _ ← call (.builtin "list.append") [.ref D, ← eval elt cenv])
  again (.compLoop (two elt t1 i1 t2 i2 scope pos) 1 (.ref I) (.ref D) cenv)
theorem turn_two {elt t1 i1 t2 i2 scope pos I D cenv} : compTurn (two elt t1 i1 t2 i2 scope pos) 0 (.ref I) (.ref D) cenv = (standAt i1.pos >>= fun _ => pyNext (.ref I) >>= fun r => match r with
      | none => pure (.done .next)
      | some v => letOwnedTupleGo t1 (.ref I) v >>= fun _ => assign t1 cenv v >>= fun _ => restTwo elt t1 i1 t2 i2 scope pos I D cenv) := by rfl
theorem turn_in {elt t1 i1 t2 i2 scope pos I D cenv} : compTurn (two elt t1 i1 t2 i2 scope pos) 1 (.ref I) (.ref D) cenv = (standAt i2.pos >>= fun _ => pyNext (.ref I) >>= fun r => match r with
      | none => pure (.done .next)
      | some v => letOwnedTupleGo t2 (.ref I) v >>= fun _ => assign t2 cenv v >>= fun _ => restIn elt t1 i1 t2 i2 scope pos I D cenv) := by rfl

section
variable {prog : Program} {w : World} {P : Addr → Prop} {A : Around} {env cenv : Env} {s : Shared} {F : List Addr}

theorem compStart_1 {elt t1 i1 t2 i2 scope pos it acc} {R : Result → Shared → Prop}
    (h0 : codeAny (model prog w) A (.compLoop (two elt t1 i1 t2 i2 scope pos) 1 it acc cenv) R s)
    (h : wpAny (model prog w) A (pyIter it) (fun it' s' => codeAny (model prog w) A (.compLoop (two elt t1 i1 t2 i2 scope pos) 1 it' acc cenv) R s') (notedBy (model prog w) A cenv fun x s' => R (.error x) s') s) :
    codeAny (model prog w) A (.compStart (two elt t1 i1 t2 i2 scope pos) 1 it acc cenv) R s := by
  refine codeAny_of_tree ?_
  show wpAny _ _ ((compStart (two elt t1 i1 t2 i2 scope pos) 1 it acc cenv).onRaise (fun x => do noteFrame x cenv; standAt theWindowsPlace)) _ _ s
  refine wpAny_notedAt ?_
  unfold compStart
  show wpAny _ _ (ask >>= _) _ _ s
  refine wpAny_bind (wpAny_askSetting (wpAny_ite ?_))
  split
  · first
      | exact wpAny_bind (wpAny_pure (wpAny_pure (And.intro rfl h0)))
      | exact wpAny_pure (And.intro rfl h0)
  · first
      | exact wpAny_bind (wpAny_rule (wpAny_bind (wpAny_standAt (wpAny_bind (wpAny_mono h (fun it' s' h' => wpAny_pure (And.intro rfl h')) fun _ _ x => x)))))
      | (refine wpAny_bind (wpAny_rule ?_); show wpAny _ _ (standAt i2.pos >>= _) _ _ s; exact wpAny_bind (wpAny_standAt (wpAny_bind (wpAny_mono h (fun it' s' h' => wpAny_pure (And.intro rfl h')) fun _ _ x => x))))

def itemsOf2 : PyData → List PyData
  | .list xs => xs
  | _ => []

theorem rest_two {t1 i1 scope pos I C D sB s' acc} {x y : Str} {px py : Pos} {es : List PyData} {E : Value → Shared → Prop} {px2 : Pos} (hh : A.handled = none) (fo : Fo P sB) (hC : sB.heap.get? C = none) (hD : sB.heap.get? D = none) (hCD : C ≠ D) (hL : cenv.locals = C) (ek : EnvOk cenv)
    (cs : CS sB P C D acc s') (hsz : acc.length + es.length ≤ sizeLine) (L : Lc (fun b => P b ∧ b ≠ D) s'.heap cenv [(x, .list es)])
    (kx : cenv.kindOf x = some .local) (ky : cenv.kindOf y = some .local) (dx : (x == ("__debug__" : Str)) = false) (dy : (y == ("__debug__" : Str)) = false) (hs : ∀ v, foldedSetIterable (.Name x px) cenv v = pure v) :
    wpAny (model prog w) A (restTwo (.Name y px2) t1 i1 (.Name y py) (.Name x px) scope pos I D cenv) (fun fin s'' => fin = .again (.compLoop (two (.Name y px2) t1 i1 (.Name y py) (.Name x px) scope pos) 0 (.ref I) (.ref D) cenv) ∧
      CS sB P C D (acc ++ es) s'' ∧ KB C D s' s'') E s' := by
  unfold restTwo
  obtain ⟨m, hn, hmv⟩ := L
  obtain ⟨v, hv1, hv2⟩ := hmv x (.list es) (by simp)
  obtain ⟨ax, items, rfl, hPax, hax, hA⟩ := has_list.mp hv2
  refine wpAny_bind (wpAny_Name (wpAny_loadName_local ek.kind kx hn hv1 ?_) dx)
  refine wpAny_bind (wpAny_standAt (wpAny_bind (wpAny_of_eq (hs _) (wpAny_bind (wpAny_holding (wpAny_pyIter_list hax (wpAny_bind (wpAny_runOwn ?_))))))))
  have hI0 : s'.heap.get? s'.heap.objs.size = none := fresh_size s'
  have hit : (s'.heap.push { cls := .type "list_iterator", data := .fields #[.ref ax, .int 0 0] }).IsListIter s'.heap.objs.size ax 0 := ⟨_, Heap.get?_push_size _ rfl, rfl, rfl⟩
  generalize s'.heap.objs.size = I' at hI0 hit ⊢
  obtain ⟨ys, ⟨nD, hDs⟩, hall⟩ := cs.lst
  obtain ⟨mC, hCs⟩ := cs.ns
  have hIC : I' ≠ C := by
    rintro rfl
    obtain ⟨o, es', ep, q, _⟩ := hCs
    rw [hI0] at q; cases q
  have hID : I' ≠ D := by rintro rfl; rw [hI0] at hDs; cases hDs
  generalize hs2 : ({ s' with heap := s'.heap.push { cls := .type "list_iterator", data := .fields #[.ref ax, .int 0 0] } } : Shared) = s₂
  have k₂ : Keeps s' s₂ := hs2 ▸ keeps_push s' _ s'.toks
  have hit₂ : s₂.heap.IsListIter I' ax 0 := hs2 ▸ hit
  -- the state with the names and the list hidden
  have hget : ∀ {b o}, b ≠ C → b ≠ D → s'.heap.get? b = some o → ({ s' with heap := (s'.heap.hide C).hide D } : Shared).heap.get? b = some o := fun {b o} h1 h2 e => (Heap.hide_ne _ h2).trans ((Heap.hide_ne _ h1).trans e)
  have hof : ∀ {b o}, ({ s' with heap := (s'.heap.hide C).hide D } : Shared).heap.get? b = some o → s'.heap.get? b = some o := fun {b o} e => Heap.of_hide (Heap.of_hide e)
  have hC2 : ({ s' with heap := (s'.heap.hide C).hide D } : Shared).heap.get? C = none := (Heap.hide_ne _ hCD).trans (Heap.hide_self ..)
  have hD2 : ({ s' with heap := (s'.heap.hide C).hide D } : Shared).heap.get? D = none := Heap.hide_self ..
  have hI2 : ({ s' with heap := (s'.heap.hide C).hide D } : Shared).heap.get? I' = none := (Heap.hide_ne _ hID).trans ((Heap.hide_ne _ hIC).trans hI0)
  have kb : Keeps ({ s' with heap := (s'.heap.hide C).hide D } : Shared) s₂ := by
    obtain ⟨h, t, rfl, k⟩ := k₂
    exact ⟨h, t, rfl, fun b o e => k b o (hof e)⟩
  generalize ({ s' with heap := (s'.heap.hide C).hide D } : Shared) = sB2 at *
  have seqC : ∀ {b : Addr} {o : Obj} {xs : Array Value} {n : Nat}, s'.heap.get? b = some o → o.data = .seq xs n → b ≠ C := fun {b o xs n} q q2 => by
    rintro rfl
    obtain ⟨o', es', ep, q', q2', _⟩ := hCs
    rw [q'] at q; cases q; rw [q2'] at q2; cases q2
  have hax2 : sB2.heap.IsList ax items := by
    obtain ⟨o, ho, hc, n, hd⟩ := hax
    exact ⟨o, hget (seqC ho hd) hPax.2 ho, hc, n, hd⟩
  have hA2 : HasAll P sB2.heap es items.toList := hA.go fun b o xs n q q2 p => ⟨hget (seqC q q2) p.2 q, p.1⟩
  have cs2 : CS sB2 P C D acc s₂ := ⟨kb, ⟨mC, hCs.keeps (keeps_get k₂)⟩, ys, ⟨nD, keeps_get k₂ _ _ hDs⟩, hall.mono (keeps_seq k₂)⟩
  have loop : codeAny (model prog w) (A.mark none) (.compLoop (two (.Name y px2) t1 i1 (.Name y py) (.Name x px) scope pos) 1 (.ref I') (.ref D) cenv)
      (fun r s'' => match r with
        | .ok f => wpAny (model prog w) A (again (.compLoop (two (.Name y px2) t1 i1 (.Name y py) (.Name x px) scope pos) 0 (.ref I) (.ref D) cenv)) (fun fin s'' => fin = .again (.compLoop (two (.Name y px2) t1 i1 (.Name y py) (.Name x px) scope pos) 0 (.ref I) (.ref D) cenv) ∧
          CS sB P C D (acc ++ es) s'' ∧ KB C D s' s'') E s''
        | .error e => cameBackBy (model prog w) A cenv E e s'') s₂ := by
    refine comp_loop (A := A.mark none) (acc₀ := acc) (sB := sB2) (g := fun d => [d]) (nb := fun d => [(y, d)]) (ds := es) (items := items) (ax := ax) (C := C) (rest := restIn (.Name y px2) t1 i1 (.Name y py) (.Name x px) scope pos I' D cenv) (by show (none.or A.handled) = none; rw [hh]; rfl) hI2 hC2 hD2 hIC hID hCD hL hax2 hA2
      (fun d hd => tg_name ek.kind ky) turn_in ?_ cs2 hit₂ ?_
    · intro E' s₃ acc₃ d hd hz cs₃ L₃
      unfold restIn
      refine wpAny_bind (wpAny_bind ((Ev.name L₃ ek (by simp) ky dy).use (keeps_refl _) fun v s₄ hv k₄ => wpAny_bind ((cs₃.later k₄).append hD2 hCD hv ?_ fun s₅ cs₅ kb₅ => wpAny_pure (wpAny_pure ⟨rfl, cs₅, (KB.of k₄).trans kb₅⟩))))
      have e1 : (es.flatMap fun d => [d]) = es := by induction es with
        | nil => rfl
        | cons a r ih => simp [List.flatMap_cons]
      rw [e1, List.length_append] at hz
      omega
    · intro s₃ cs₃ hk₃
      have e1 : (es.flatMap fun d => [d]) = es := by simp
      rw [e1] at cs₃
      have kb3 : KB C D s' s₃ := by
        obtain ⟨h₃, t₃, rfl, kk⟩ := hk₃
        obtain ⟨h₂, t₂, rfl, k2⟩ := k₂
        exact ⟨h₃, t₃, rfl, fun b o hb hb' e => kk b o (by rintro rfl; rw [hI0] at e; cases e) hb hb' (k2 b o e)⟩
      refine wpAny_pure ⟨rfl, ⟨?_, cs₃.ns, cs₃.lst⟩, kb3⟩
      obtain ⟨h₃, t₃, e3, kk⟩ := kb3
      exact keeps_change cs.keep (X := fun b => b = C ∨ b = D) (fun b hb => hb.elim (fun q => q ▸ hC) (fun q => q ▸ hD)) ⟨h₃, t₃, e3, fun b o hb e => kk b o (fun q => hb (.inl q)) (fun q => hb (.inr q)) e⟩
  exact compStart_1 loop (wpAny_pyIter_listiter hit₂ loop)
end
end Mine
end
section
open PySem PySem.W PyProof.Rows PySem.Calls PySem.Spec PySem.NumText
open Sem (wp)
set_option Elab.async false
set_option maxRecDepth 100000
set_option linter.all false
set_option maxHeartbeats 4000000
namespace Mine
section
variable {prog : Program} {w : World} {P : Addr → Prop} {A : Around} {env cenv : Env} {s : Shared} {F : List Addr}

/-- y = [z for x in i1 for z in x]; rest -/
theorem Bd.letComp2 {s₀ : Shared} {ds' : List (Str × PyData)} {y x z : Str} {py px px' pz pz' pos spos : Pos} {iter : Expr} {scope : Scope} {ds : List PyData} {rest : List Stmt} {Q : Flow → Shared → Prop} {E} (B : Bd F P s₀ env ds' s) (hk : EnvOk env) (hh : A.handled = none) (he : Ev prog w P A env s iter (.list ds)) (fo : Fo P s)
    (hds : ∀ d ∈ ds, ∃ es, d = .list es) (hsz : (ds.flatMap itemsOf2).length ≤ 100000) (hsz2 : ∀ d ∈ ds, (itemsOf2 d).length ≤ 100000)
    (h : ∀ s', Bd F P s₀ env ((y, .list (ds.flatMap itemsOf2)) :: ds') s' → wpAny (model prog w) A (execs rest env) Q E s')
    (hcell : ∀ y ∈ scope.names, y.2 ≠ .cell := by decide) (hfree : ∀ y ∈ scope.names, y.2 ≠ .free := by decide) (hkind : scope.kind = .function := by rfl)
    (hnames : ∀ x ∈ scope.names, x.2 = .local → scope.names.lookup x.1 = some .local := by decide) (hs : ∀ x, foldedSetIterable iter env x = pure x := by intro _; rfl)
    (hsw : swapsWith (two (.Name z pz) (.Name x px) iter (.Name z pz') (.Name x px') scope pos) (some (.Name y py)) spos.line env = pure true := by rfl) (hy : env.kindOf y = some .local := by rfl)
    (kx : ∀ C, (compEnvC scope [] C env).kindOf x = some .local := by intro _; rfl) (kz : ∀ C, (compEnvC scope [] C env).kindOf z = some .local := by intro _; rfl)
    (dx : (x == ("__debug__" : Str)) = false := by decide) (dz : (z == ("__debug__" : Str)) = false := by decide) (hs2 : ∀ C v, foldedSetIterable (.Name x px') (compEnvC scope [] C env) v = pure v := by intro _ _; rfl) :
    wpAny (model prog w) A (execs (.Assign [.Name y py] (two (.Name z pz) (.Name x px) iter (.Name z pz') (.Name x px') scope pos) spos :: rest) env) Q E s := by
  refine seq1 (fun s' => Bd F P s₀ env ((y, .list (ds.flatMap itemsOf2)) :: ds') s') ?_ h
  rw [exec_Assign_Name_used _ _ _ _ hsw]
  refine wpAny_bind (wpAny_standAt (wpAny_bind ?_))
  show wpAny _ A (do let _ ← comprehension (two (.Name z pz) (.Name x px) iter (.Name z pz') (.Name x px') scope pos) scope env _ (newList []) false (eval iter env) (some (PySem.assign (.Name y py) env))) _ _ s
  refine wpAny_bind (wpAny_mono (wpAny_comprehension_free (use := some (PySem.assign (.Name y py) env)) (Q := fun _ s' => Bd F P s₀ env ((y, .list (ds.flatMap itemsOf2)) :: ds') s') rfl hs (closureFor_none hfree) hkind hnames ?_) (fun _ s' hq => wpAny_pure (wpAny_pure ⟨rfl, hq⟩)) fun _ _ e => e)
  refine comp_core (g := itemsOf2) (nb := fun d => [(x, d)]) (restTwo (.Name z pz) (.Name x px) iter (.Name z pz') (.Name x px') scope pos) (RR := fun acc C => compPost (model prog w) A E (some (PySem.assign (.Name y py) env)) _ acc C) hh hcell hkind he (fun C d hd => tg_name (compEnv_ok hk hkind).kind (kx C)) (fun _ _ _ => turn_two) ?_ ?_
  · intro I C D sB E' s' acc d k hC hD hCD hd hz cs L
    obtain ⟨es, rfl⟩ := hds d hd
    have h2 := hsz2 _ hd
    exact rest_two hh (fo.later k) hC hD hCD rfl (compEnv_ok hk hkind) cs (by have : es.length ≤ 100000 := h2; rw [sizeLine_eq]; omega) L (kx C) (kz C) dx dz (hs2 C)
  · intro C D sB s' k' hC hD hCD cs
    exact B.compUse hk fo k' hC hD hCD cs hy fun s'' x => x
end
end Mine
end
section
open PySem PySem.W PyProof.Rows PySem.Calls PySem.Spec PySem.NumText
open Sem (wp)
set_option Elab.async false
set_option maxRecDepth 100000
set_option linter.all false
set_option maxHeartbeats 4000000
namespace Mine
section
variable {prog : Program} {w : World} {P : Addr → Prop} {A : Around} {env : Env} {s sW : Shared} {F : List Addr} {K : Frag} {mg mb : Str → Option Value}

theorem to_neStr {a b : Str} {va vb : Value} (ha : Has P s.heap (.str a) va) (hb : Has P s.heap (.str b) vb) : To prog w P A (compareOp .NotEq va vb) (.bool (!(a == b))) s := fun E => by
  obtain ⟨t, rfl⟩ := has_str.mp ha
  obtain ⟨u, rfl⟩ := has_str.mp hb
  exact ne_str ⟨has_bool.mpr rfl, keeps_refl _⟩

theorem EvL.at {es ds pos} {Q : List Value → Shared → Prop} {E} (x : EvL prog w P A env s es ds) (h : ∀ v s', HasAll P s'.heap ds v → Keeps s s' → Q v s') : wpAny (model prog w) A (spliced (backTo pos (starEach es env))) Q E s := x.use (keeps_refl _) h

/-- a call that may write into the frames' slots -/
theorem Bd.weakCall {s₀ : Shared} {ds : List (Str × PyData)} {x : Str} {np pos : Pos} {e : Expr} {rest : List Expr} {as : List PyData} {d : PyData} {f : Addr} {o : Obj} {fd : FuncData} {E} (B : Bd F P s₀ env ds s) (W : Wd K mg mb s) (kW : Keeps sW s) (ek : EnvOk env) (fo : Fo P s) (S : Stk A (env.locals :: F) s)
    (hv : mg x = some (.ref f)) (ho : s.heap.get? f = some o) (hd : o.data = .func fd) (ha : EvL prog w P A env s (e :: rest) as) (hf : FnW prog w A (env.locals :: F) (.ref f) as d sW)
    (hx : env.kindOf x = some .globalImplicit := by rfl) (hdb : (x == ("__debug__" : Str)) = false := by decide) (he : starEach (e :: rest) env = (false, eval e env) :: starEach rest env := by rfl) :
    wpAny (model prog w) A (eval (.Call (.Name x np) (e :: rest) [] pos) env) (fun v s' => Has P s'.heap d v ∧ Kp (env.locals :: F) s s') E s :=
  Call_ (glob_name ek W.g hv (callWith_def hd (ha.at fun vs s₂ hvs k₂ => ⟨keeps_get k₂ _ _ ho, wpAny_mono (hf P s₂ vs E (keeps_trans kW k₂) (S.kp (.of k₂) (G := [])) (fo.later k₂) hvs) (fun v s' h => ⟨h.1, (Kp.of k₂).trans h.2⟩) fun _ _ e => e⟩) he) hx hdb)

/-- if f(..) != r: ..; where both are the same text -/
theorem Bd.ifSame {s₀ : Shared} {ds : List (Str × PyData)} {x : Str} {np cp pos ip : Pos} {e r : Expr} {rest : List Expr} {body rest' : List Stmt} {as : List PyData} {d : Str} {f : Addr} {o : Obj} {fd : FuncData} {Q : Flow → Shared → Prop} {E} (B : Bd F P s₀ env ds s) (W : Wd K mg mb s) (kW : Keeps sW s) (ek : EnvOk env) (fo : Fo P s) (S : Stk A (env.locals :: F) s)
    (hv : mg x = some (.ref f)) (ho : s.heap.get? f = some o) (hd : o.data = .func fd) (ha : EvL prog w P A env s (e :: rest) as) (hf : FnW prog w A (env.locals :: F) (.ref f) as (.str d) sW)
    (hr : ∀ s', Kp (env.locals :: F) s s' → Bd F P s₀ env ds s' → Ev prog w P A env s' r (.str d))
    (h : ∀ s', Bd F P s₀ env ds s' → wpAny (model prog w) A (execs rest' env) Q E s')
    (hx : env.kindOf x = some .globalImplicit := by rfl) (hdb : (x == ("__debug__" : Str)) = false := by decide) (he : starEach (e :: rest) env = (false, eval e env) :: starEach rest env := by rfl) (hm : behindInMarks .NotEq r = false := by with_unfolding_all rfl) :
    wpAny (model prog w) A (execs (.If (.Compare (.Call (.Name x np) (e :: rest) [] cp) [.NotEq] [r] pos) body [] ip :: rest') env) Q E s := by
  refine wpAny_execs_cons (wpAny_If (wpAny_isTrue_Compare1 (wpAny_mono (B.weakCall W kW ek fo S hv ho hd ha hf hx hdb he) (fun v s₁ h₁ => ?_) fun _ _ e => e) hm))
  have B₁ := B.weak h₁.2
  refine (hr s₁ h₁.2 B₁).use (keeps_refl _) fun vb s₂ hb k₂ => ?_
  refine wpAny_mono (to_neStr (h₁.1.mono (keeps_seq k₂)) hb E) (fun u s₃ hu => ?_) fun _ _ e => e
  have e1 := has_bool.mp hu.1
  rw [beq_self_eq_true] at e1
  subst e1
  refine wpAny_truthy_bool ?_
  exact execs_nil (h s₃ ((B₁.later k₂).later hu.2))
end
end Mine
end
section
open PySem PySem.W PyProof.Rows PySem.Calls PySem.Spec PySem.NumText
open Sem (wp)
set_option Elab.async false
set_option maxRecDepth 100000
set_option linter.all false
set_option maxHeartbeats 4000000
namespace Mine
def partD (ps : List Pc) : PyData := .list (ps.map pd)
def moreOf (b : Str) (ps : List Pc) : List Pc := if b = "" then [] else if ps.length = 1 then ps else [(b, none)]
/-- what is asked of one k -/
structure TurnOk (texts : List Str) (parts : List (List Pc)) (k : Nat) : Prop where
  p1 : PcsOk (parts.take k).flatten
  p2 : PcsOk ((parts.take k).flatten ++ moreOf (texts.getD k "") (parts.getD k []))
  n1 : ∃ sts, NormIn (Txt.join "." (texts.take k)) "" sts ∧ Txt.join "." (sts.take 3) = toldOf (parts.take k).flatten
  n2 : ∃ sts, NormIn (Txt.join "." (texts.take k)) (texts.getD k "") sts ∧ Txt.join "." (sts.take 3) = toldOf ((parts.take k).flatten ++ moreOf (texts.getD k "") (parts.getD k []))
structure HoldOk (texts : List Str) (parts : List (List Pc)) : Prop where
  len : texts.length = parts.length
  pos : 1 ≤ parts.length
  few : parts.length ≤ 100
  small : ∀ ps ∈ parts, ps.length ≤ 100
  tot : (texts.map (·.length)).sum ≤ 50000
  turn : ∀ k, 1 ≤ k → k < parts.length → TurnOk texts parts k

structure HoldNames (K : Frag) (mg : Str → Option Value) (fn fl ft T : Addr) (t : Tok) : Prop where
  norm : mg "_norm_version" = some (.ref fn)
  told : mg "_law_told" = some (.ref ft)
  line : mg "_law_line" = some (.ref fl)
  isN : IsFn K fn 2 (.ref T)
  isT : IsFn K ft 9 .none
  isL : IsFn K fl 7 .none
  tup : ∃ n, K.lookup T = some { cls := .type "tuple", data := .seq #[.str "" t] n }
  lib : mg "list" = none ∧ mg "map" = none ∧ mg "str" = none ∧ mg "int" = none ∧ mg "ValueError" = none
  len : mg "len" = none
  range : mg "range" = none

section
variable {prog : Program} {w : World} {P : Addr → Prop} {A : Around} {s sW : Shared} {F : List Addr} {K : Frag} {mg mb : Str → Option Value} {f fn fl ft T : Addr} {t : Tok} {qual : Str} {cdv : Value} {L : Addr}

def holdBody : List Stmt := bodyOf ((pick 10).body[0]?)
abbrev Jh (texts : List Str) (parts : List (List Pc)) : List (Str × PyData) := [("texts", .list (texts.map .str)), ("parts", .list (parts.map partD))]

theorem flat_items {parts : List (List Pc)} : (parts.map partD).flatMap itemsOf2 = parts.flatten.map pd := by
  induction parts with
  | nil => rfl
  | cons a r ih => rw [List.map_cons, List.flatMap_cons, ih, List.flatten_cons, List.map_append]; rfl

theorem hold_turn {texts : List Str} {parts : List (List Pc)} {s₀ sb : Shared} {k : Nat} {E} (W : Wd K mg mb sW) (k₀ : Keeps sW s₀) (N : HoldNames K mg fn fl ft T t) (hF : ∀ b ∈ F, sW.heap.get? b = none) (hL0 : s₀.heap.get? L = none)
    (hh : A.handled = none) (hroom : A.depth + 50 < recursionLimit) (hu : A.units + 400 < cLine) (S : Stk A F s₀) (kp : Kp F s₀ sb) (fo : Fo P sb) (ok : HoldOk texts parts) (h1 : 1 ≤ k) (h2 : k < parts.length)
    (B : Bd F P sb (envOf qual (pick 10).scope L f cdv) (("k", .int k) :: Jh texts parts) s) :
    wpAny (model prog w) (A.deeper (envOf qual (pick 10).scope L f cdv)) (execs holdBody (envOf qual (pick 10).scope L f cdv))
      (fun f' s' => f' = .next ∧ Bd F P sb (envOf qual (pick 10).scope L f cdv) (Jh texts parts) s') E s := by
  have ek : EnvOk (envOf qual (pick 10).scope L f cdv) := envOf_ok rfl
  have wd : ∀ {s' ds}, Bd F P sb (envOf qual (pick 10).scope L f cdv) ds s' → Keeps sW s' := fun B' => (kp.trans B'.keep).base k₀ hF
  have foo : ∀ {s' ds}, Bd F P sb (envOf qual (pick 10).scope L f cdv) ds s' → Fo P s' := fun B' => fo.kp B'.keep
  have stk : ∀ {s' ds}, Bd F P sb (envOf qual (pick 10).scope L f cdv) ds s' → Stk (A.deeper (envOf qual (pick 10).scope L f cdv)) (L :: F) s' := fun B' => by
    obtain ⟨m, hn, _⟩ := B'.lc
    exact S.pushK (kp.trans B'.keep) hn rfl
  have hLW : sW.heap.get? L = none := by
    cases q : sW.heap.get? L with
    | none => rfl
    | some o => rw [keeps_get k₀ _ _ q] at hL0; cases hL0
  have hF' : ∀ b ∈ L :: F, sW.heap.get? b = none := fun b hb => by
    rcases List.mem_cons.mp hb with rfl | hb
    · exact hLW
    · exact hF b hb
  have tok := ok.turn k h1 h2
  have hl := ok.len
  have hfew := ok.few
  have htot := ok.tot
  have e1 : (Str.ofString ".").length = 1 := by decide
  have hkt : ((k : Nat) : Int).toNat = k := Int.toNat_natCast k
  -- version
  refine B.let ek (d := .str (Txt.join "." (texts.take k))) (Ev.join (ys := texts.take k) (by
    rw [List.map_take, ← hkt]
    exact Ev.upto (k := (k : Int)) (Ev.name B.lc ek rfl) (Ev.name B.lc ek rfl) (by omega) (by rw [List.length_map, sizeLine_eq]; omega) (foo B)) (by
    rw [e1, List.map_take, List.length_take]
    have := sum_take_le (texts.map (·.length)) k
    omega)) fun s₁ B₁ => ?_
  -- pieces
  have hpt : ∀ ps ∈ parts.take k, ps.length ≤ 100 := fun ps h => ok.small ps (List.mem_of_mem_take h)
  refine B₁.letComp2 (ds := (parts.take k).map partD) ek hh (by
    rw [List.map_take, ← hkt]
    exact Ev.upto (k := (k : Int)) (Ev.name B₁.lc ek rfl) (Ev.name B₁.lc ek rfl) (by omega) (by rw [List.length_map, sizeLine_eq]; omega) (foo B₁)) (foo B₁) (by
    intro d hd
    obtain ⟨ps, _, rfl⟩ := List.mem_map.mp hd
    exact ⟨_, rfl⟩) (by rw [flat_items, List.length_map]; have := tok.p1.len; omega) (by
    intro d hd
    obtain ⟨ps, hp, rfl⟩ := List.mem_map.mp hd
    show (ps.map pd).length ≤ _
    rw [List.length_map]
    have := hpt ps hp
    omega) fun s₂ B₂ => ?_
  rw [flat_items] at B₂
  -- build
  have hkl : k < texts.length := by omega
  refine B₂.let ek (d := .str (texts.getD k "")) (Ev.idx (ds := texts.map .str) (Ev.name B₂.lc ek rfl) (Ev.name B₂.lc ek rfl) (by omega) (by omega) (by
    rw [hkt]
    simp [List.getD, List.getElem?_eq_getElem hkl])) fun s₃ B₃ => ?_
  -- the two questions
  have hmp : (parts.map partD)[((k : Nat) : Int).toNat]? = some (partD (parts.getD k [])) := by
    rw [hkt]
    simp [List.getD, List.getElem?_eq_getElem h2]
  have tail : ∀ s₄, Bd F P sb (envOf qual (pick 10).scope L f cdv) [("more", .list ((moreOf (texts.getD k "") (parts.getD k [])).map pd)), ("build", .str (texts.getD k "")), ("pieces", .list ((parts.take k).flatten.map pd)), ("version", .str (Txt.join "." (texts.take k))), ("texts", .list (texts.map .str)), ("parts", .list (parts.map partD))] s₄ →
      wpAny (model prog w) (A.deeper (envOf qual (pick 10).scope L f cdv)) (execs (holdBody.drop 4) (envOf qual (pick 10).scope L f cdv))
        (fun f' s' => f' = .next ∧ Bd F P sb (envOf qual (pick 10).scope L f cdv) (Jh texts parts) s') E s₄ := by
    intro s₄ B₄
    have hdep : (A.deeper (envOf qual (pick 10).scope L f cdv)).depth + 30 < recursionLimit := by show A.depth + 1 + 30 < _; omega
    have hun : (A.deeper (envOf qual (pick 10).scope L f cdv)).units + 200 < cLine := by show A.units + 3 + 200 < _; omega
    have told : ∀ {s' ds ps e} (B' : Bd F P sb (envOf qual (pick 10).scope L f cdv) ds s') {np pos}, Ev prog w P (A.deeper (envOf qual (pick 10).scope L f cdv)) (envOf qual (pick 10).scope L f cdv) s' e (.list (ps.map pd)) → PcsOk ps →
        (starEach [e] (envOf qual (pick 10).scope L f cdv) = (false, eval e (envOf qual (pick 10).scope L f cdv)) :: starEach [] (envOf qual (pick 10).scope L f cdv)) →
        Ev prog w P (A.deeper (envOf qual (pick 10).scope L f cdv)) (envOf qual (pick 10).scope L f cdv) s' (.Call (.Name "_law_told" np) [e] [] pos) (.str (toldOf ps)) := by
      intro s' ds ps e B' np pos he hp hs
      have W' := W.keeps (wd B')
      obtain ⟨o, fd, ho, hd⟩ := fn_obj W'.X N.isT
      exact Ev.callDef ek W'.g N.told ho hd (EvL.cons he EvL.nil hs) (told_fn W' N.isT N.isL N.line N.lib.2.2.1 hh hdep hun hp) (foo B') rfl (by decide) hs
    obtain ⟨st1, n1, q1⟩ := tok.n1
    obtain ⟨st2, n2, q2⟩ := tok.n2
    have W₄ := W.keeps (wd B₄)
    obtain ⟨o₄, fd₄, ho₄, hd₄⟩ := fn_obj W₄.X N.isN
    refine B₄.ifSame (d := toldOf (parts.take k).flatten) W₄ (wd B₄) ek (foo B₄) (stk B₄) N.norm ho₄ hd₄ (EvL.cons (Ev.name B₄.lc ek rfl) EvL.nil) (q1 ▸ norm_one W N.isN N.tup hh (by omega) N.lib hF' n1) (fun s' _ B' => told B' (Ev.name B'.lc ek rfl) tok.p1 rfl) fun s₅ B₅ => ?_
    have W₅ := W.keeps (wd B₅)
    obtain ⟨o₅, fd₅, ho₅, hd₅⟩ := fn_obj W₅.X N.isN
    refine B₅.ifSame (d := toldOf ((parts.take k).flatten ++ moreOf (texts.getD k "") (parts.getD k []))) W₅ (wd B₅) ek (foo B₅) (stk B₅) N.norm ho₅ hd₅ (EvL.cons (Ev.name B₅.lc ek rfl) (EvL.cons (Ev.name B₅.lc ek rfl) EvL.nil)) (q2 ▸ norm_two W N.isN N.tup hh (by omega) N.lib hF' n2) (fun s' _ B' => told B' (by
      rw [List.map_append]
      refine Ev.bin (Ev.name B'.lc ek rfl) (Ev.name B'.lc ek rfl) (fun s va vb k ha hb => to_addList ha hb ?_ ((foo B').later k))
      rw [← List.length_append, ← List.map_append, List.length_map, sizeLine_eq]
      have := tok.p2.len
      omega) tok.p2 rfl) fun s₆ B₆ => ?_
    exact execs_nil ⟨rfl, B₆.sub ⟨rfl, rfl, trivial⟩⟩
  refine wpAny_execs_cons ?_
  refine if_ (Ts.cmp (Ev.name B₃.lc ek rfl) Ev.strc (fun s va vb k ha hb => to_eqStr ha hb)) fun s₄ k₄ => ?_
  have B₄ := B₃.later k₄
  by_cases hb : texts.getD k "" = Str.ofString ""
  · rw [if_pos (by rw [beq_iff_eq]; exact hb)]
    refine B₄.let ek (Ev.lst (foo B₄) EvL.nil) fun s₅ B₅ => ?_
    refine execs_nil (tail s₅ (B₅.sub ⟨?_, rfl, rfl, rfl, rfl, rfl, trivial⟩))
    show some _ = some _
    unfold moreOf
    rw [if_pos hb]; rfl
  · rw [if_neg (by rw [beq_iff_eq]; exact hb)]
    refine wpAny_execs_cons ?_
    have hpl : (parts.getD k []).length ≤ 100 := by
      have : parts.getD k [] = parts[k] := by simp [List.getD, List.getElem?_eq_getElem h2]
      rw [this]; exact ok.small _ (List.getElem_mem h2)
    refine if_ (Ts.cmp (ev_len (xs := (parts.getD k []).map pd) (W.keeps (wd B₄)) ek N.len (Ev.idx (d := partD (parts.getD k [])) (Ev.name B₄.lc ek rfl) (Ev.name B₄.lc ek rfl) (by omega) (by omega) hmp) (foo B₄) (by rw [List.length_map, sizeLine_eq]; omega)) Ev.int (fun s va vb k ha hb => to_eqInt ha hb)) fun s₅ k₅ => ?_
    have B₅ := B₄.later k₅
    by_cases hone : (parts.getD k []).length = 1
    · rw [if_pos (by rw [List.length_map, hone]; rfl)]
      refine B₅.let ek (Ev.idx (d := partD (parts.getD k [])) (Ev.name B₅.lc ek rfl) (Ev.name B₅.lc ek rfl) (by omega) (by omega) hmp) fun s₆ B₆ => ?_
      refine execs_nil (execs_nil (tail s₆ (B₆.sub ⟨?_, rfl, rfl, rfl, rfl, rfl, trivial⟩)))
      show some _ = some _
      unfold moreOf
      rw [if_neg hb, if_pos hone]; rfl
    · rw [if_neg (by rw [List.length_map, beq_iff_eq]; omega)]
      refine B₅.let ek (Ev.lst (foo B₅) (EvL.cons (Ev.tup (foo B₅) (EvL.cons (Ev.name B₅.lc ek rfl) (EvL.cons Ev.nonec EvL.nil)) (by show 2 ≤ 1000; decide)) EvL.nil) (by show 1 ≤ 1000; decide)) fun s₆ B₆ => ?_
      refine execs_nil (execs_nil (tail s₆ (B₆.sub ⟨?_, rfl, rfl, rfl, rfl, rfl, trivial⟩)))
      show some _ = some _
      unfold moreOf
      rw [if_neg hb, if_neg hone]; rfl
end
end Mine
end
section
open PySem PySem.W PyProof.Rows PySem.Calls PySem.Spec PySem.NumText
open Sem (wp)
set_option Elab.async false
set_option maxRecDepth 100000
set_option linter.all false
set_option maxHeartbeats 4000000
namespace Mine
section
variable {prog : Program} {w : World} {P : Addr → Prop} {A : Around} {s sW : Shared} {F : List Addr} {K : Frag} {mg mb : Str → Option Value} {f fn fl ft T : Addr} {t : Tok}

def namePos : Option Stmt → Pos
  | some (.For (.Name _ p) _ _ _ _) => p
  | _ => ⟨0, 0, 0, 0⟩
theorem Ev.boolc {env : Env} {b kk pos} : Ev prog w P A env s (.Constant (.bool b) kk pos) (.bool b) := fun s₁ E _ => wpAny_Constant_bool ⟨has_bool.mpr rfl, keeps_refl _⟩
theorem range_one {n : Nat} (h : 1 ≤ n) : Builtin.Range.rangeSize 1 (n : Int) 1 = ((n - 1 : Nat) : Int) := by
  unfold Builtin.Range.rangeSize
  rw [if_pos (by decide)]
  split
  · rw [Int.ediv_one]; omega
  · omega
theorem fitsLong {x : Int} (h1 : -1000 ≤ x) (h2 : x ≤ 2000) : Builtin.Range.rangeFitsLong x = true := by
  unfold Builtin.Range.rangeFitsLong
  rw [Bool.and_eq_true]
  exact ⟨decide_eq_true (by omega), decide_eq_true (by omega)⟩
theorem range_small {n : Nat} (h : 1 ≤ n) (h2 : n ≤ 1000) : Builtin.Range.small 1 (n : Int) 1 = true := by
  unfold Builtin.Range.small
  rw [range_one h, if_pos (show (1 : Int) > 0 by decide), fitsLong (by decide) (by decide), fitsLong (by omega) (by omega), fitsLong (by omega) (by omega), fitsLong (by omega) (by omega)]
  simp

/-- _law_holds -/
theorem hold_fn {texts : List Str} {parts : List (List Pc)} (W : Wd K mg mb s) (hf : IsFn K f 10 .none) (N : HoldNames K mg fn fl ft T t) (hF : ∀ b ∈ F, s.heap.get? b = none) (hh : A.handled = none) (hroom : A.depth + 60 < recursionLimit) (hu : A.units + 500 < cLine) (ok : HoldOk texts parts) :
    FnW prog w A F (.ref f) [.list (texts.map .str), .list (parts.map partD)] (.bool true) s := by
  refine fn_defW (bd := Jh texts parts) (fun vs => [Str.ofString "texts", Str.ofString "parts"].zip vs) W.X W.lim hf (by omega) ?_ ?_
  · intro qual kV doc pm an cdv ct P s₁ vs k hv
    refine ⟨?_, ?_, binds_two (x := "texts") (z := "parts") (by decide) hv⟩
    · obtain ⟨u, v, rfl, _, _⟩ := hasAll_two hv
      exact .of_eq rfl
    · obtain ⟨u, v, rfl, _, _⟩ := hasAll_two hv
      intro y hy
      simp only [List.zip_cons_cons, List.zip_nil_right, List.mem_cons, List.not_mem_nil, or_false] at hy
      rcases hy with rfl | rfl <;> rfl
  · intro qual cdv P s₀ s₁ L k₀ S fo _ _ B
    have ek : EnvOk (envOf qual (pick 10).scope L f cdv) := envOf_ok rfl
    have wd : ∀ {s' ds}, Bd F P s₀ (envOf qual (pick 10).scope L f cdv) ds s' → Keeps s s' := fun B' => B'.keep.base k₀ hF
    have W₁ := W.keeps (wd B)
    have hfew := ok.few
    have hpos := ok.pos
    refine wpAny_execs_cons ?_
    refine wpAny_For (Call_ (boot_name (v := .type "range") ek W₁.g W₁.b N.range ((W.boot "range" (by decide)).trans (by decide +kernel)) (PyProof.Rows.callWith_type1 (EvL.use (EvL.cons Ev.int (EvL.cons (ev_len W₁ ek N.len (Ev.name B.lc ek rfl) (fo.kp B.keep) (by rw [List.length_map, sizeLine_eq]; omega)) EvL.nil)) (keeps_refl _) fun vs s₂ hvs k₂ => ?_)) rfl (by decide)))
    obtain ⟨u, v, rfl, h1, h2⟩ := hasAll_two hvs
    obtain ⟨tu, rfl⟩ := has_int.mp h1
    obtain ⟨tv, rfl⟩ := has_int.mp h2
    rw [List.length_map]
    refine call_range_2 ?_
    refine wpAny_pyIter_range (Heap.get?_push_size _ rfl) (range_small hpos (by omega)) ?_
    rw [range_one hpos]
    suffices key : ∀ s₃ : Shared, Keeps s₂ s₃ → ∀ R : Result → Shared → Prop, (∀ s', Bd F P s₀ (envOf qual (pick 10).scope L f cdv) (Jh texts parts) s' → R (.ok .next) s') →
        codeAny (model prog w) (A.deeper (envOf qual (pick 10).scope L f cdv)) (.forLoop (.Name "k" (namePos ((pick 10).body[0]?))) (.ref s₃.heap.objs.size) holdBody [] (envOf qual (pick 10).scope L f cdv)) R { s₃ with heap := s₃.heap.push { cls := .type "range_iterator", data := .fields #[rawInt 1, rawInt ((parts.length - 1 : Nat) : Int), rawInt 1] } } from
      key { s₂ with heap := s₂.heap.push { cls := .type "range", data := .fields #[.int 1 tu, .int (parts.length : Int) tv, .int 1 s₂.toks] }, toks := s₂.toks + 1 } (keeps_push s₂ _ _) _ fun s' B' => ret_ (Ev.boolc) fun v s₅ hv k₅ => ⟨v, rfl, hv, B'.keep.trans (.of k₅)⟩
    intro s₃ k₃ R hR
    have hI0 : s₃.heap.get? s₃.heap.objs.size = none := fresh_size s₃
    have hIt : IsRangeIter (s₃.heap.push { cls := .type "range_iterator", data := .fields #[rawInt 1, rawInt ((parts.length - 1 : Nat) : Int), rawInt 1] }) s₃.heap.objs.size 1 ((parts.length - 1 : Nat) : Int) 1 := Heap.get?_push_size _ rfl
    generalize hI : s₃.heap.objs.size = I at hI0 hIt
    have hk3 := keeps_trans k₂ k₃
    have B₃ := B.later hk3
    have k₄ : Keeps s₃ { s₃ with heap := s₃.heap.push { cls := .type "range_iterator", data := .fields #[rawInt 1, rawInt ((parts.length - 1 : Nat) : Int), rawInt 1] } } := keeps_push s₃ _ s₃.toks
    have hI00 : s₀.heap.get? I = none := fresh_of_kp B₃.keep hI0
    have hIF : I ∉ F := fun hf => by
      obtain ⟨o, ho, _⟩ := S.mem hf
      rw [hI00] at ho; cases ho
    have hfo : Fo P s₀ := fo
    · refine forLoop_bd (k := parts.length - 1) (J := fun _ => Jh texts parts) (Jx := Jh texts parts) (s₀ := s₀) (P := P) (F := F) (drawer_range (A := A.deeper (envOf qual (pick 10).scope L f cdv)) (by exact hh) (I := I) (a := 1) (N := parts.length - 1)) ek rfl hIF hI00 (Nat.le_refl _) ?_ (fun h => absurd h (Nat.lt_irrefl _)) (fun _ => ⟨rfl, rfl, trivial⟩) (fun b e _ => hfo b e) (B₃.later k₄) (by
        show IsRangeIter _ I (1 + ((0 : Nat) : Int)) (((parts.length - 1 : Nat) : Int) - ((0 : Nat) : Int)) 1
        rw [show (1 + ((0 : Nat) : Int)) = 1 by decide, show (((parts.length - 1 : Nat) : Int) - ((0 : Nat) : Int)) = ((parts.length - 1 : Nat) : Int) by omega]
        exact hIt) hR
      intro i hi sb s' E' hdom kp fob B'
      rw [show (1 : Int) + (i : Int) = ((i + 1 : Nat) : Int) by omega] at B'
      exact hold_turn W k₀ N hF B.above hh (by omega) (by omega) S kp fob ok (by omega) (by omega) B'
end
end Mine
end
section
open PySem PySem.W PyProof.Rows PySem.Calls PySem.Spec PySem.NumText
open Sem (wp)
set_option Elab.async false
set_option maxRecDepth 100000
set_option linter.all false
set_option maxHeartbeats 4000000
namespace Mine
def drawD : PyData → PyData
  | .int x => .tuple [partD (fullOf x), partD (bareOf x)]
  | _ => .none
def textOf : PyData → Str
  | .tuple [.str t, _] => t
  | _ => ""
def lineD : PyData → PyData
  | .list ds => .str (Txt.join "." (ds.map textOf))
  | _ => .none
def cutD : PyData → PyData
  | .str x => .str (mk (strip x.cps.toList))
  | _ => .none
theorem lineD_part (ps : List Pc) : lineD (partD ps) = .str (lineOf ps) := by
  unfold lineD partD lineOf
  simp only [List.map_map]
  rfl
theorem eqvAll_strs : ∀ xs : List Str, PyData.eqvAll (xs.map .str) (xs.map .str) = true
  | [] => rfl
  | x :: xs => by rw [List.map_cons, PyData.eqvAll, PyData.eqv, beq_self_eq_true, eqvAll_strs xs]; rfl
theorem eqv_strs (xs : List Str) : PyData.eqv (.list (xs.map .str)) (.list (xs.map .str)) = true := by
  rw [PyData.eqv]; exact eqvAll_strs xs

/-- all that the law asks, plainly -/
structure LawOk (xs : List Int) : Prop where
  few : xs.length ≤ 100
  fulls : ∀ x ∈ xs, (fullOf x).length ≤ 100 ∧ ((fullOf x).map (·.1.length)).sum ≤ 1000
  bares : ∀ x ∈ xs, (bareOf x).length ≤ 100 ∧ ((bareOf x).map (·.1.length)).sum ≤ 1000
  asc : ∀ x ∈ xs, Ascii (lineOf (fullOf x)) ∧ (lineOf (fullOf x)).length ≤ 10000
  ascB : ∀ x ∈ xs, Ascii (lineOf (bareOf x))
  cut : ∀ x ∈ xs, mk (strip (lineOf (fullOf x)).cps.toList) = lineOf (bareOf x)
  hold1 : HoldOk (xs.map fun x => lineOf (fullOf x)) (xs.map fullOf)
  hold2 : HoldOk (xs.map fun x => lineOf (bareOf x)) (xs.map bareOf)

section
variable {prog : Program} {w : World} {A : Around} {s sW : Shared} {K : Frag} {mg mb : Str → Option Value} {f fp fl fc fh fn ft T C fI : Addr} {t : Tok} {qual : Str} {cdv : Value} {L : Addr}

structure LawNames (K : Frag) (mg : Str → Option Value) (fp fl fc fh : Addr) : Prop where
  part : mg "_law_part" = some (.ref fp)
  line : mg "_law_line" = some (.ref fl)
  cut : mg "_law_cut" = some (.ref fc)
  holds : mg "_law_holds" = some (.ref fh)
  isP : IsFn K fp 6 .none
  isL : IsFn K fl 7 .none
  isC : IsFn K fc 8 .none
  isH : IsFn K fh 10 .none

theorem law_body {ns : List Int} {E} (W : Wd K mg mb sW) (N : LawNames K mg fp fl fc fh) (PN : PartNames mg) (HN : HoldNames K mg fn fl ft T t) (H : WsIn K C fI) (NW : WsNames mg C) (hh : A.handled = none) (hroom : A.depth + 100 < recursionLimit) (hu : A.units + 1000 < cLine) (hns : ns.length ≤ 63)
    (S : Stk A [] sW) (ok : LawOk (ns.take 5 ++ [1282, 8896, 264, 504]))
    (B : Bd [] (fun _ => True) sW (envOf qual (pick 11).scope L f cdv) [("script", .list (ns.map .int))] s) :
    wpAny (model prog w) (A.deeper (envOf qual (pick 11).scope L f cdv)) (execs (pick 11).body (envOf qual (pick 11).scope L f cdv))
      (fun fl s' => fl = .ret (.bool true) ∧ Keeps sW s') E s := by
  have ek : EnvOk (envOf qual (pick 11).scope L f cdv) := envOf_ok rfl
  have wd : ∀ {s' ds}, Bd [] (fun _ => True) sW (envOf qual (pick 11).scope L f cdv) ds s' → Keeps sW s' := fun B' => B'.keep.strict
  have fo : ∀ {s' : Shared}, Fo (fun _ => True) s' := fun b _ => trivial
  have hroom' : (A.deeper (envOf qual (pick 11).scope L f cdv)).depth + 90 < recursionLimit := by show A.depth + 1 + 90 < _; omega
  have hu' : (A.deeper (envOf qual (pick 11).scope L f cdv)).units + 900 < cLine := by show A.units + 3 + 900 < _; omega
  have hh' : (A.deeper (envOf qual (pick 11).scope L f cdv)).handled = none := hh
  generalize hxs : ns.take 5 ++ [1282, 8896, 264, 504] = xs at ok
  have few := ok.few
  -- drawn
  have hmem : ∀ d ∈ xs.map PyData.int, ∃ x ∈ xs, d = .int x := fun d hd => let ⟨x, hx, e⟩ := List.mem_map.mp hd; ⟨x, hx, e.symm⟩
  refine B.letComp (ds := xs.map .int) (nb := fun d => [("x", d)]) (p := fun _ => true) (f := drawD) ek hh' (by
    rw [← hxs, List.map_append, List.map_take]
    refine Ev.bin (Ev.upto (k := 5) (Ev.name B.lc ek rfl) Ev.int (by decide) (by rw [List.length_map, sizeLine_eq]; omega) fo) (Ev.lst fo (EvL.cons Ev.int (EvL.cons Ev.int (EvL.cons Ev.int (EvL.cons Ev.int EvL.nil))))) (fun s va vb k ha hb => to_addList ha hb ?_ fo)
    rw [List.length_take, List.length_map, sizeLine_eq]
    show _ + 4 ≤ _
    omega) fo (by rw [List.length_map, sizeLine_eq]; omega) ⟨fun C d hd => tg_name rfl rfl, fun P' C s' k d hd L => TsL.nil, fun P' C s' k d hd hp fo' Lc' => ?_⟩ fun s₁ B₁ => ?_
  · obtain ⟨x, hx, rfl⟩ := hmem d hd
    have W' := W.keeps (keeps_trans (wd B) k)
    obtain ⟨o, fd, ho, hd'⟩ := fn_obj W'.X N.isP
    exact Ev.callDef (compEnv_ok ek) W'.g N.part ho hd' (EvL.cons (Ev.name Lc' (compEnv_ok ek) rfl) EvL.nil) (part_fn W' N.isP PN (by omega)) fo'
  rw [filter_true] at B₁
  have e1 : (xs.map PyData.int).map drawD = xs.map fun x => .tuple [partD (fullOf x), partD (bareOf x)] := by rw [List.map_map]; rfl
  rw [e1] at B₁
  -- fulls
  have htwo : ∀ d ∈ xs.map (fun x => PyData.tuple [partD (fullOf x), partD (bareOf x)]), ∃ a b, d = .tuple [a, b] := fun d hd => let ⟨x, _, e⟩ := List.mem_map.mp hd; ⟨_, _, e.symm⟩
  have hlx : ∀ {g : Int → PyData}, (xs.map g).length ≤ sizeLine := fun {g} => by rw [List.length_map, sizeLine_eq]; omega
  refine B₁.letComp (ds := xs.map fun x => .tuple [partD (fullOf x), partD (bareOf x)]) (nb := fun d => [("bare", snd2 d), ("full", fst2 d)]) (p := fun _ => true) (f := fst2) ek hh' (Ev.name B₁.lc ek rfl) fo hlx
    ⟨tg_two htwo hh' (fun _ => rfl) (fun _ => rfl) (fun _ => rfl), fun P' C s' k d hd L => TsL.nil, fun P' C s' k d hd hp fo' Lc' => Ev.name Lc' (compEnv_ok ek) rfl⟩ fun s₂ B₂ => ?_
  rw [filter_true] at B₂
  rw [show (xs.map fun x => PyData.tuple [partD (fullOf x), partD (bareOf x)]).map fst2 = xs.map fun x => partD (fullOf x) by rw [List.map_map]; rfl] at B₂
  -- bares
  refine B₂.letComp (ds := xs.map fun x => .tuple [partD (fullOf x), partD (bareOf x)]) (nb := fun d => [("bare", snd2 d), ("full", fst2 d)]) (p := fun _ => true) (f := snd2) ek hh' (Ev.name B₂.lc ek rfl) fo hlx
    ⟨tg_two htwo hh' (fun _ => rfl) (fun _ => rfl) (fun _ => rfl), fun P' C s' k d hd L => TsL.nil, fun P' C s' k d hd hp fo' Lc' => Ev.name Lc' (compEnv_ok ek) rfl⟩ fun s₃ B₃ => ?_
  rw [filter_true] at B₃
  rw [show (xs.map fun x => PyData.tuple [partD (fullOf x), partD (bareOf x)]).map snd2 = xs.map fun x => partD (bareOf x) by rw [List.map_map]; rfl] at B₃
  -- texts
  refine B₃.letComp (ds := xs.map fun x => partD (fullOf x)) (nb := fun d => [("full", d)]) (p := fun _ => true) (f := lineD) ek hh' (Ev.name B₃.lc ek rfl) fo hlx ⟨fun C d hd => tg_name rfl rfl, fun P' C s' k d hd L => TsL.nil, fun P' C s' k d hd hp fo' Lc' => ?_⟩ fun s₄ B₄ => ?_
  · obtain ⟨x, hx, rfl⟩ := List.mem_map.mp hd
    have W' := W.keeps (keeps_trans (wd B₃) k)
    obtain ⟨o, fd, ho, hd'⟩ := fn_obj W'.X N.isL
    have hf := ok.fulls x hx
    rw [lineD_part]
    exact Ev.callDef (compEnv_ok ek) W'.g N.line ho hd' (EvL.cons (Ev.name Lc' (compEnv_ok ek) rfl) EvL.nil) (line_fn W' N.isL hh' (by omega) (by omega) (by omega)) fo'
  rw [filter_true] at B₄
  rw [show (xs.map fun x => partD (fullOf x)).map lineD = (xs.map fun x => lineOf (fullOf x)).map .str by
    rw [List.map_map, List.map_map]; exact List.map_congr_left fun x _ => lineD_part _] at B₄
  -- cuts
  refine B₄.letComp (ds := (xs.map fun x => lineOf (fullOf x)).map .str) (nb := fun d => [("text", d)]) (p := fun _ => true) (f := cutD) ek hh' (Ev.name B₄.lc ek rfl) fo (by rw [List.length_map]; rw [List.length_map, sizeLine_eq]; omega) ⟨fun C d hd => tg_name rfl rfl, fun P' C s' k d hd L => TsL.nil, fun P' C s' k d hd hp fo' Lc' => ?_⟩ fun s₅ B₅ => ?_
  · obtain ⟨y, hy, rfl⟩ := List.mem_map.mp hd
    obtain ⟨x, hx, rfl⟩ := List.mem_map.mp hy
    have W' := W.keeps (keeps_trans (wd B₄) k)
    obtain ⟨o, fd, ho, hd'⟩ := fn_obj W'.X N.isC
    have ha := ok.asc x hx
    exact Ev.callDef (compEnv_ok ek) W'.g N.cut ho hd' (EvL.cons (Ev.name Lc' (compEnv_ok ek) rfl) EvL.nil) (cut_fn W' N.isC H NW hh' (by omega) ha.1 ha.2) fo'
  rw [filter_true] at B₅
  rw [show ((xs.map fun x => lineOf (fullOf x)).map PyData.str).map cutD = (xs.map fun x => lineOf (bareOf x)).map .str by
    rw [List.map_map, List.map_map, List.map_map]
    refine List.map_congr_left fun x hx => ?_
    show PyData.str (mk (strip (lineOf (fullOf x)).cps.toList)) = _
    rw [ok.cut x hx]; rfl] at B₅
  -- the cuts are the bare lines
  have hasc : ∀ y ∈ xs.map (fun x => lineOf (bareOf x)), Ascii y := fun y hy => let ⟨x, hx, e⟩ := List.mem_map.mp hy; e ▸ ok.ascB x hx
  refine wpAny_execs_cons ?_
  refine if_ (b := !(PyData.eqv (.list ((xs.map fun x => lineOf (bareOf x)).map .str)) (.list ((xs.map fun x => lineOf (bareOf x)).map .str)))) (Ts.cmp (P := fun _ => True) (dl := .list ((xs.map fun x => lineOf (bareOf x)).map .str)) (dr := .list ((xs.map fun x => lineOf (bareOf x)).map .str)) (Ev.name B₅.lc ek rfl) (by
    rw [show (xs.map fun x => lineOf (bareOf x)).map PyData.str = ((xs.map fun x => partD (bareOf x)).filter (fun _ => true)).map lineD by
      rw [filter_true, List.map_map, List.map_map]; exact List.map_congr_left fun x _ => (lineD_part _).symm]
    refine Ev.comp (nb := fun d => [("bare", d)]) hh' (Ev.name B₅.lc ek rfl) fo hlx ⟨fun C d hd => tg_name rfl rfl, fun P' C s' k d hd L => TsL.nil, fun P' C s' k d hd hp fo' Lc' => ?_⟩
    obtain ⟨x, hx, rfl⟩ := List.mem_map.mp hd
    have W' := W.keeps (keeps_trans (wd B₅) k)
    obtain ⟨o, fd, ho, hd'⟩ := fn_obj W'.X N.isL
    have hf := ok.bares x hx
    rw [lineD_part]
    exact Ev.callDef (compEnv_ok ek) W'.g N.line ho hd' (EvL.cons (Ev.name Lc' (compEnv_ok ek) rfl) EvL.nil) (line_fn W' N.isL hh' (by omega) (by omega) (by omega)) fo')
    (fun s va vb k ha hb => to_neData ha hb (shaped_strs hasc) (shaped_strs hasc) (by omega) (noObjs_strs _) (noObjs_strs _))) fun s₆ k₆ => ?_
  rw [eqv_strs]
  have B₆ := B₅.later k₆
  refine execs_nil ?_
  -- the two questions
  have hLW : ∀ b ∈ [L], sW.heap.get? b = none := by
    intro b hb
    rcases List.mem_cons.mp hb with rfl | hb
    · exact B.above
    · cases hb
  have stk : ∀ {s' ds}, Bd [] (fun _ => True) sW (envOf qual (pick 11).scope L f cdv) ds s' → Stk (A.deeper (envOf qual (pick 11).scope L f cdv)) [L] s' := fun B' => by
    obtain ⟨m, hn, _⟩ := B'.lc
    exact S.pushK B'.keep hn rfl
  have m1 : ∀ g : Int → List Pc, (xs.map g).map partD = xs.map fun x => partD (g x) := fun g => by rw [List.map_map]; rfl
  refine wpAny_execs_cons (wpAny_Return_some (BoolOp_and ?_))
  have W₆ := W.keeps (wd B₆)
  obtain ⟨o₆, fd₆, ho₆, hd₆⟩ := fn_obj W₆.X N.isH
  refine wpAny_mono (B₆.weakCall (as := [.list ((xs.map fun x => lineOf (fullOf x)).map .str), .list ((xs.map fullOf).map partD)]) (d := .bool true) W₆ (wd B₆) ek fo (stk B₆) N.holds ho₆ hd₆ (by
    rw [m1]
    exact EvL.cons (Ev.name B₆.lc ek rfl) (EvL.cons (Ev.name B₆.lc ek rfl) EvL.nil)) (hold_fn W N.isH HN hLW hh' (by omega) (by omega) ok.hold1)) (fun v s₇ h₇ => ?_) fun _ _ e => e
  obtain rfl := has_bool.mp h₇.1
  refine wpAny_truthy_bool ?_
  rw [if_pos rfl]
  have B₇ := B₆.weak h₇.2
  have W₇ := W.keeps (wd B₇)
  obtain ⟨o₇, fd₇, ho₇, hd₇⟩ := fn_obj W₇.X N.isH
  refine BoolOp_one (wpAny_mono (B₇.weakCall (as := [.list ((xs.map fun x => lineOf (bareOf x)).map .str), .list ((xs.map bareOf).map partD)]) (d := .bool true) W₇ (wd B₇) ek fo (stk B₇) N.holds ho₇ hd₇ (by
    rw [m1]
    exact EvL.cons (Ev.name B₇.lc ek rfl) (EvL.cons (Ev.name B₇.lc ek rfl) EvL.nil)) (hold_fn W N.isH HN hLW hh' (by omega) (by omega) ok.hold2)) (fun v s₈ h₈ => ?_) fun _ _ e => e)
  obtain rfl := has_bool.mp h₈.1
  exact ⟨rfl, wd (B₇.weak h₈.2)⟩
end
end Mine
end
section
open PySem PySem.W PyProof.Rows PySem.Calls PySem.Spec PySem.NumText
set_option Elab.async false
set_option maxRecDepth 100000
set_option linter.all false
set_option maxHeartbeats 4000000
namespace Mine
/-! int(text), plainly -/
theorem cat_list (a b : Str) : (a ++ b).cps.toList = a.cps.toList ++ b.cps.toList := by
  show (a.cps ++ b.cps).toList = _
  rw [Array.toList_append]
def valD (neg : Bool) : Option (Array Nat) → Option Int
  | some ds => if ds.size ≤ 4300 then some (worth neg ds) else none
  | none => none
/-- the number that the signs of l tell, blanks at the ends off -/
def val (l : List Nat) : Option Int := valD (sign l).1 (digits? 10 (sign l).2)

theorem blank_bl {c : Nat} (h : bl c = true) : blank c = true := by
  unfold bl at h
  rw [Bool.or_eq_true, beq_iff_eq, beq_iff_eq] at h
  rcases h with rfl | rfl <;> rfl
theorem dropWhile_all {p : Nat → Bool} : ∀ {a : List Nat} (b : List Nat), (∀ c ∈ a, p c = true) → (a ++ b).dropWhile p = b.dropWhile p
  | [], b, _ => rfl
  | c :: a, b, h => by rw [List.cons_append, List.dropWhile_cons, if_pos (h c (.head _)), dropWhile_all b fun d hd => h d (.tail _ hd)]
theorem dropWhile_first {p : Nat → Bool} {l : List Nat} (h : ∀ a r, l = a :: r → p a = false) (b : List Nat) (hb : ∀ c ∈ b, p c = true) : (l ++ b).dropWhile p = if l = [] then [] else l ++ b := by
  cases l with
  | nil =>
    rw [if_pos rfl, List.nil_append]
    have := dropWhile_all (p := p) (a := b) [] hb
    rw [List.append_nil] at this
    exact this
  | cons a r => rw [if_neg (by simp), List.cons_append, List.dropWhile_cons, if_neg (by rw [h a r rfl]; decide)]

theorem sign_app {l : List Nat} (h : l ≠ []) (b : List Nat) : sign (l ++ b) = ((sign l).1, (sign l).2 ++ b) := by
  cases l with
  | nil => exact absurd rfl h
  | cons a r =>
    by_cases h1 : a = 45
    · subst h1; rfl
    · by_cases h2 : a = 43
      · subst h2; rfl
      · rw [List.cons_append, sign_of h1 h2, sign_of h1 h2]; rfl

/-- a text of plain signs between blanks -/
theorem read_pad {ld l tl : List Nat} (hl : ∀ c ∈ l, 0 < c ∧ c < 128) (h1 : ∀ c ∈ ld, bl c = true) (h2 : ∀ c ∈ tl, bl c = true) (f1 : ∀ a r, l = a :: r → blank a = false) (f2 : ∀ a r, l.reverse = a :: r → blank a = false) :
    PySem.intText? (mk (ld ++ l ++ tl)) = val l := by
  have hbl : ∀ {c}, bl c = true → 0 < c ∧ c < 128 := fun {c} h => by
    unfold bl at h
    rw [Bool.or_eq_true, beq_iff_eq, beq_iff_eq] at h
    omega
  have hall : ∀ c ∈ ld ++ l ++ tl, 0 < c ∧ c < 128 := by
    intro c hc
    rw [List.append_assoc, List.mem_append, List.mem_append] at hc
    rcases hc with h | h | h
    · exact hbl (h1 c h)
    · exact hl c h
    · exact hbl (h2 c h)
  have e1 : numTextOf (mk (ld ++ l ++ tl)) = ld ++ l ++ tl := by
    unfold numTextOf
    rw [if_pos, mk_toList]
    rw [← Array.all_toList, mk_toList, List.all_eq_true]
    exact fun c hc => decide_eq_true (hall c hc).2
  have e2 : numSeenOf (mk (ld ++ l ++ tl)) = ld ++ l ++ tl := by
    unfold numSeenOf
    rw [e1]
    exact takeWhile_all fun c hc => bne_iff_ne.mpr (by have := (hall c hc).1; omega)
  have e3 : (ld ++ l ++ tl).dropWhile blank = if l = [] then [] else l ++ tl := by
    rw [List.append_assoc, dropWhile_all _ fun c hc => blank_bl (h1 c hc), dropWhile_first f1 tl fun c hc => blank_bl (h2 c hc)]
  have e4 : sign ((ld ++ l ++ tl).dropWhile blank) = ((sign l).1, if l = [] then [] else (sign l).2 ++ tl) := by
    rw [e3]
    by_cases h : l = []
    · subst h; rfl
    · rw [if_neg h, if_neg h, sign_app h]
  have e5 : core (ld ++ l ++ tl) = (sign l).2 := by
    unfold core
    rw [e4]
    show ((if l = [] then [] else (sign l).2 ++ tl).reverse.dropWhile blank).reverse = _
    by_cases h : l = []
    · subst h; rfl
    · rw [if_neg h, List.reverse_append, dropWhile_all _ fun c hc => blank_bl (h2 c (List.mem_reverse.mp hc))]
      have : ((sign l).2.reverse).dropWhile blank = (sign l).2.reverse := by
        have g : ∀ a r, (sign l).2.reverse = a :: r → blank a = false := by
          intro a r e
          have hs : (sign l).2 = l ∨ ∃ b, l = b :: (sign l).2 := by
            cases l with
            | nil => exact .inl rfl
            | cons b q =>
              by_cases h1 : b = 45
              · subst h1; exact .inr ⟨45, rfl⟩
              · by_cases h2 : b = 43
                · subst h2; exact .inr ⟨43, rfl⟩
                · exact .inl (by rw [sign_of h1 h2])
          rcases hs with hs | ⟨b, hs⟩
          · rw [hs] at e; exact f2 a r e
          · refine f2 a (r ++ [b]) ?_
            have h9 := congrArg List.reverse hs
            rw [List.reverse_cons, e] at h9
            exact h9
        cases hq : (sign l).2.reverse with
        | nil => rfl
        | cons a r => rw [List.dropWhile_cons, if_neg (by rw [g a r hq]; decide)]
      rw [this, List.reverse_reverse]
  show (if ((numSeenOf (mk (ld ++ l ++ tl))).length == (numTextOf (mk (ld ++ l ++ tl))).length) = true then _ else _) = _
  rw [e2, e1, if_pos (beq_self_eq_true _), e5, e4]
  unfold val valD
  rfl

/-! digits -/
def Dg (cs : List Nat) : Prop := ∀ c ∈ cs, 48 ≤ c ∧ c ≤ 57
theorem step_dg {c : Nat} (h : 48 ≤ c ∧ c ≤ 57) (p : Array Nat × Bool) : step 10 p c = some (p.1.push (c - 48), true) := by
  unfold NumText.step digit?
  have h95 : (c == 95) = false := by simp; omega
  have hd : (decide (48 ≤ c) && decide (c ≤ 57)) = true := by simp; exact h
  rw [h95, if_neg (by decide), hd, if_pos rfl]
  show (if c - 48 < 10 then _ else _) = _
  rw [if_pos (by omega)]
def pushAll (ds : Array Nat) (cs : List Nat) : Array Nat := cs.foldl (fun acc c => acc.push (c - 48)) ds
theorem fold_dg : ∀ (cs : List Nat) (p : Array Nat × Bool), Dg cs → cs.foldlM (step 10) p = some (pushAll p.1 cs, if cs = [] then p.2 else true)
  | [], p, _ => rfl
  | c :: cs, p, h => by
    rw [List.foldlM_cons, step_dg (h c (.head _))]
    show cs.foldlM (step 10) (p.1.push (c - 48), true) = _
    rw [fold_dg cs _ fun d hd => h d (.tail _ hd)]
    congr 2
    split <;> simp
theorem step_bad {c : Nat} (h1 : c ≠ 95) (h2 : ¬ (48 ≤ c ∧ c ≤ 57)) (p : Array Nat × Bool) : step 10 p c = none := by
  unfold NumText.step digit?
  have h95 : (c == 95) = false := by simpa using h1
  rw [h95, if_neg (by decide)]
  have hd : (decide (48 ≤ c) && decide (c ≤ 57)) = false := by
    rw [Bool.and_eq_false_iff, decide_eq_false_iff_not, decide_eq_false_iff_not]; omega
  rw [hd, if_neg (by decide)]
  by_cases ha : (decide (97 ≤ c) && decide (c ≤ 122)) = true
  · rw [if_pos ha]
    rw [Bool.and_eq_true, decide_eq_true_eq, decide_eq_true_eq] at ha
    show (if c - 87 < 10 then _ else _) = _
    rw [if_neg (by omega)]
  · rw [if_neg ha]
    by_cases hb : (decide (65 ≤ c) && decide (c ≤ 90)) = true
    · rw [if_pos hb]
      rw [Bool.and_eq_true, decide_eq_true_eq, decide_eq_true_eq] at hb
      show (if c - 55 < 10 then _ else _) = _
      rw [if_neg (by omega)]
    · rw [if_neg hb]
theorem fold_bad : ∀ (cs : List Nat) (p : Array Nat × Bool), (∃ c ∈ cs, c ≠ 95 ∧ ¬ (48 ≤ c ∧ c ≤ 57)) → cs.foldlM (step 10) p = none
  | [], p, h => by obtain ⟨c, hc, _⟩ := h; cases hc
  | c :: cs, p, h => by
    rw [List.foldlM_cons]
    cases hs : step 10 p c with
    | none => rfl
    | some q =>
      show cs.foldlM (step 10) q = none
      refine fold_bad cs q ?_
      obtain ⟨d, hd, h1, h2⟩ := h
      rcases List.mem_cons.mp hd with rfl | hd
      · rw [step_bad h1 h2] at hs; cases hs
      · exact ⟨d, hd, h1, h2⟩
theorem digits_bad {cs : List Nat} (h : ∃ c ∈ cs, c ≠ 95 ∧ ¬ (48 ≤ c ∧ c ≤ 57)) : digits? 10 cs = none := by
  unfold digits?; rw [fold_bad cs _ h]; rfl
theorem digits_dg {cs : List Nat} (h : Dg cs) (hne : cs ≠ []) : digits? 10 cs = some (pushAll #[] cs) := by
  unfold digits?; rw [fold_dg cs _ h, if_neg hne]; rfl
theorem digits_under {a b : List Nat} (ha : Dg a) (hb : Dg b) (na : a ≠ []) (nb : b ≠ []) : digits? 10 (a ++ 95 :: b) = some (pushAll #[] (a ++ b)) := by
  unfold digits?
  rw [List.foldlM_append, fold_dg a _ ha, if_neg na]
  show ((95 :: b).foldlM (step 10) (pushAll #[] a, true)).bind _ = _
  rw [List.foldlM_cons]
  show (b.foldlM (step 10) (pushAll #[] a, false)).bind _ = _
  rw [fold_dg b _ hb, if_neg nb]
  unfold pushAll
  rw [List.foldl_append]; rfl
theorem digits_lead_under (b : List Nat) : digits? 10 (95 :: b) = none := rfl
theorem digits_tail_under {a : List Nat} (ha : Dg a) : digits? 10 (a ++ [95]) = none := by
  unfold digits?
  rw [List.foldlM_append, fold_dg a _ ha]
  by_cases h : a = []
  · subst h; rfl
  · rw [if_neg h]; rfl
theorem digits_two_under {a b : List Nat} (ha : Dg a) (na : a ≠ []) : digits? 10 (a ++ 95 :: 95 :: b) = none := by
  unfold digits?
  rw [List.foldlM_append, fold_dg a _ ha, if_neg na]
  rfl

def dval (cs : List Nat) : Nat := cs.foldl (fun acc c => acc * 10 + (c - 48)) 0
theorem push_val : ∀ (cs : List Nat) (ds : Array Nat), (pushAll ds cs).foldl (fun acc d => acc * 10 + d) 0 = cs.foldl (fun acc c => acc * 10 + (c - 48)) (ds.foldl (fun acc d => acc * 10 + d) 0)
  | [], _ => rfl
  | c :: cs, ds => by
    show (pushAll (ds.push (c - 48)) cs).foldl _ 0 = _
    rw [push_val cs (ds.push (c - 48)), List.foldl_cons]
    congr 1
    simp
theorem push_len : ∀ (cs : List Nat) (ds : Array Nat), (pushAll ds cs).size = ds.size + cs.length
  | [], _ => rfl
  | c :: cs, ds => by
    show (pushAll (ds.push (c - 48)) cs).size = _
    rw [push_len cs, Array.size_push, List.length_cons]; omega
theorem valD_push {cs : List Nat} {neg : Bool} (h : cs.length ≤ 1000) : valD neg (some (pushAll #[] cs)) = some (if neg then -(dval cs : Int) else (dval cs : Int)) := by
  show (if (pushAll #[] cs).size ≤ 4300 then _ else _) = _
  rw [if_pos (by rw [push_len]; simp only [Array.size_empty]; omega)]
  unfold worth
  rw [push_val]
  rfl
end Mine
end
section
open PySem PySem.W PyProof.Rows PySem.Calls PySem.Spec PySem.NumText
set_option Elab.async false
set_option maxRecDepth 100000
set_option linter.all false
set_option maxHeartbeats 4000000
namespace Mine
theorem digs_dg {n : Nat} (h : n < 1000) : Dg (digs n) := by
  intro c hc
  unfold digs at hc
  split at hc
  · simp only [List.mem_cons, List.not_mem_nil, or_false] at hc; omega
  · split at hc
    · simp only [List.mem_cons, List.not_mem_nil, or_false] at hc; omega
    · simp only [List.mem_cons, List.not_mem_nil, or_false] at hc; omega
theorem digs_val {n : Nat} (h : n < 1000) : dval (digs n) = n := by
  unfold digs dval
  split
  · simp only [List.foldl_cons, List.foldl_nil]; omega
  · split
    · simp only [List.foldl_cons, List.foldl_nil]; omega
    · simp only [List.foldl_cons, List.foldl_nil]; omega
theorem digs_ne (n : Nat) : digs n ≠ [] := by
  have := (digs_len n).2
  intro e; rw [e] at this; simp at this

/-- a text of a part, its number if it is one -/
structure CoreOk (l : List Nat) (o : Option Int) : Prop where
  asc : ∀ c ∈ l, 0 < c ∧ c < 128
  nd : ∀ c ∈ l, c ≠ 46
  f1 : ∀ a r, l = a :: r → blank a = false
  f2 : ∀ a r, l.reverse = a :: r → blank a = false
  len : l.length ≤ 10
  v : val l = o
  num : ∀ n, o = some n → n.natAbs < 1000

theorem bk {c : Nat} (h : 33 ≤ c) : blank c = false := blank_of h
theorem first_of {a : Nat} {r : List Nat} (h : 33 ≤ a) : ∀ a' r', a :: r = a' :: r' → blank a' = false := fun a' r' e => by
  injection e with e1 e2; subst e1; exact bk h
theorem first_dg {l : List Nat} (h : Dg l) : ∀ a r, l = a :: r → blank a = false := fun a r e => bk (by have := h a (by rw [e]; exact .head _); omega)
theorem first_app {a b : List Nat} (ha : a ≠ []) (h : ∀ x r, a = x :: r → blank x = false) : ∀ x r, a ++ b = x :: r → blank x = false := fun x r e => by
  cases a with
  | nil => exact absurd rfl ha
  | cons y q => injection e with e1 e2; subst e1; exact h _ _ rfl
theorem last_dg {ds : List Nat} (h : Dg ds) (hne : ds ≠ []) (pre : List Nat) : ∀ a r, (pre ++ ds).reverse = a :: r → blank a = false := fun a r e => by
  rw [List.reverse_append] at e
  exact first_app (by simpa using hne) (fun x r e => first_dg (fun c hc => h c (List.mem_reverse.mp hc)) x r e) a r e
theorem last_one {c : Nat} (h : 33 ≤ c) (pre : List Nat) : ∀ a r, (pre ++ [c]).reverse = a :: r → blank a = false := fun a r e => by
  rw [List.reverse_append] at e
  injection e with e1 e2; subst e1; exact bk h

theorem sign_plain {a : Nat} {r : List Nat} (h1 : a ≠ 45) (h2 : a ≠ 43) : sign (a :: r) = (false, a :: r) := sign_of h1 h2
theorem sign_dg {l : List Nat} (h : Dg l) : sign l = (false, l) := by
  cases l with
  | nil => rfl
  | cons a r =>
    have := h a (.head _)
    exact sign_of (by omega) (by omega)
theorem sign_dg_app {l b : List Nat} (h : Dg l) (hne : l ≠ []) : sign (l ++ b) = (false, l ++ b) := by
  rw [sign_app hne, sign_dg h]

theorem ok_empty : CoreOk [] none := by
  refine ⟨by simp, by simp, by simp, by simp, by decide, rfl, by simp⟩
section
variable {n : Nat} (h : n < 1000)
include h
theorem mem_dg {c : Nat} (hc : c ∈ digs n) : 48 ≤ c ∧ c ≤ 57 := digs_dg h c hc

theorem ok_plain : CoreOk (digs n) (some n) := by
  have hd := digs_dg h
  refine ⟨fun c hc => by have := hd c hc; omega, fun c hc => by have := hd c hc; omega, first_dg hd, fun a r e => last_dg hd (digs_ne n) [] a r e, by have := (digs_len n).1; omega, ?_, ?_⟩
  · unfold val; rw [sign_dg hd]; show valD false (digits? 10 (digs n)) = _
    rw [digits_dg hd (digs_ne n), valD_push (by have := (digs_len n).1; omega), digs_val h]; rfl
  · intro m e; injection e with e; subst e; omega
theorem ok_zeros (z : Nat) (hz : z = 1 ∨ z = 2) : CoreOk (List.replicate z 48 ++ digs n) (some n) := by
  have hd : Dg (List.replicate z 48 ++ digs n) := by
    intro c hc
    rcases List.mem_append.mp hc with hc | hc
    · have := (List.mem_replicate.mp hc).2; omega
    · exact digs_dg h c hc
  have hne : List.replicate z 48 ++ digs n ≠ [] := by simp [digs_ne]
  have hl : (List.replicate z 48 ++ digs n).length ≤ 5 := by rw [List.length_append, List.length_replicate]; have := (digs_len n).1; omega
  refine ⟨fun c hc => by have := hd c hc; omega, fun c hc => by have := hd c hc; omega, first_dg hd, fun a r e => last_dg hd hne [] a r e, by omega, ?_, ?_⟩
  · unfold val; rw [sign_dg hd]; show valD false (digits? 10 _) = _
    rw [digits_dg hd hne, valD_push (by omega)]
    have : dval (List.replicate z 48 ++ digs n) = n := by
      have := digs_val h
      rcases hz with rfl | rfl
      · exact this
      · exact this
    rw [this]; rfl
  · intro m e; injection e with e; subst e; omega
theorem ok_signed (c : Nat) (hc : c = 43 ∨ c = 45) : CoreOk (c :: digs n) (some (if c = 45 then -(n : Int) else n)) := by
  have hd := digs_dg h
  have hl := (digs_len n).1
  refine ⟨?_, ?_, first_of (by omega), fun a r e => last_dg hd (digs_ne n) [c] a r e, by simp only [List.length_cons]; omega, ?_, ?_⟩
  · intro d hm; rcases List.mem_cons.mp hm with rfl | hm
    · omega
    · have := hd d hm; omega
  · intro d hm; rcases List.mem_cons.mp hm with rfl | hm
    · omega
    · have := hd d hm; omega
  · rcases hc with rfl | rfl
    · show valD false (digits? 10 (digs n)) = _
      rw [digits_dg hd (digs_ne n), valD_push (by omega), digs_val h]; rfl
    · show valD true (digits? 10 (digs n)) = _
      rw [digits_dg hd (digs_ne n), valD_push (by omega), digs_val h]; rfl
  · intro m e; injection e with e; subst e; split <;> omega
theorem ok_under : CoreOk (digs (n / 10) ++ 95 :: digs (n % 10)) (some n) := by
  have ha := digs_dg (n := n / 10) (by omega)
  have hb := digs_dg (n := n % 10) (by omega)
  have la := (digs_len (n / 10)).1
  have lb := (digs_len (n % 10)).1
  have hm : ∀ c ∈ digs (n / 10) ++ 95 :: digs (n % 10), (48 ≤ c ∧ c ≤ 57) ∨ c = 95 := by
    intro c hc
    rcases List.mem_append.mp hc with hc | hc
    · exact .inl (ha c hc)
    · rcases List.mem_cons.mp hc with rfl | hc
      · exact .inr rfl
      · exact .inl (hb c hc)
  refine ⟨fun c hc => by have := hm c hc; omega, fun c hc => by have := hm c hc; omega, first_app (digs_ne _) (first_dg ha), ?_, by rw [List.length_append, List.length_cons]; omega, ?_, ?_⟩
  · intro a r e
    refine last_dg hb (digs_ne _) (digs (n / 10) ++ [95]) a r ?_
    rw [List.append_assoc]; exact e
  · unfold val; rw [sign_dg_app ha (digs_ne _)]; show valD false (digits? 10 _) = _
    rw [digits_under ha hb (digs_ne _) (digs_ne _), valD_push (by rw [List.length_append]; omega)]
    have : dval (digs (n / 10) ++ digs (n % 10)) = n := by
      have e2 : digs (n % 10) = [48 + n % 10] := by unfold digs; rw [if_pos (by omega)]
      have e1 := digs_val (n := n / 10) (by omega)
      unfold dval at e1 ⊢
      rw [e2, List.foldl_append, e1]
      simp only [List.foldl_cons, List.foldl_nil]; omega
    rw [this]; rfl
  · intro m e; injection e with e; subst e; omega

/-- the eight texts that are no number -/
def wrongL (n : Nat) : List (List Nat) := [[], digs n ++ [98], 49 :: 32 :: digs n, 95 :: digs n, digs n ++ [95], 43 :: 32 :: digs n, 43 :: 45 :: digs n, 49 :: 95 :: 95 :: digs n]
theorem ok_wrong : ∀ l ∈ wrongL n, CoreOk l none := by
  have hd := digs_dg h
  have hl := (digs_len n).1
  have gen : ∀ (pre post : List Nat), (∀ c ∈ pre, 0 < c ∧ c < 128 ∧ c ≠ 46) → (∀ c ∈ post, 0 < c ∧ c < 128 ∧ c ≠ 46) → pre.length + post.length ≤ 5 → (∀ a r, pre ++ digs n ++ post = a :: r → blank a = false) → (∀ a r, (pre ++ digs n ++ post).reverse = a :: r → blank a = false) →
      val (pre ++ digs n ++ post) = none → CoreOk (pre ++ digs n ++ post) none := by
    intro pre post h1 h2 h3 h4 h5 h6
    have hm : ∀ c ∈ pre ++ digs n ++ post, 0 < c ∧ c < 128 ∧ c ≠ 46 := by
      intro c hc
      rw [List.append_assoc, List.mem_append, List.mem_append] at hc
      rcases hc with hc | hc | hc
      · exact h1 c hc
      · have := hd c hc; omega
      · exact h2 c hc
    exact ⟨fun c hc => ⟨(hm c hc).1, (hm c hc).2.1⟩, fun c hc => (hm c hc).2.2, h4, h5, by rw [List.length_append, List.length_append]; omega, h6, fun n e => nomatch e⟩
  intro l hl'
  simp only [wrongL, List.mem_cons, List.not_mem_nil, or_false] at hl'
  rcases hl' with rfl | rfl | rfl | rfl | rfl | rfl | rfl | rfl
  · exact ok_empty
  · refine gen [] [98] (by simp) (by simp) (by simp) (first_app (digs_ne _) (first_dg hd)) (last_one (by decide) _) ?_
    show val (digs n ++ [98]) = none
    unfold val; rw [sign_dg_app hd (digs_ne _)]
    show valD false (digits? 10 _) = _
    rw [digits_bad ⟨98, by simp, by decide, by decide⟩]; rfl
  · have := gen [49, 32] [] (by simp) (by simp) (by simp) (first_of (by decide)) (fun a r e => last_dg hd (digs_ne n) [49, 32] a r (by simpa using e)) (by
      show valD false (digits? 10 (49 :: 32 :: (digs n ++ []))) = _
      rw [digits_bad ⟨32, by simp, by decide, by decide⟩]; rfl)
    simpa using this
  · have := gen [95] [] (by simp) (by simp) (by simp) (first_of (by decide)) (fun a r e => last_dg hd (digs_ne n) [95] a r (by simpa using e)) rfl
    simpa using this
  · refine gen [] [95] (by simp) (by simp) (by simp) (first_app (digs_ne _) (first_dg hd)) (last_one (by decide) _) ?_
    show val (digs n ++ [95]) = none
    unfold val; rw [sign_dg_app hd (digs_ne _)]
    show valD false (digits? 10 _) = _
    rw [digits_tail_under hd]; rfl
  · have := gen [43, 32] [] (by simp) (by simp) (by simp) (first_of (by decide)) (fun a r e => last_dg hd (digs_ne n) [43, 32] a r (by simpa using e)) (by
      show valD false (digits? 10 (32 :: (digs n ++ []))) = _
      rw [digits_bad ⟨32, by simp, by decide, by decide⟩]; rfl)
    simpa using this
  · have := gen [43, 45] [] (by simp) (by simp) (by simp) (first_of (by decide)) (fun a r e => last_dg hd (digs_ne n) [43, 45] a r (by simpa using e)) (by
      show valD false (digits? 10 (45 :: (digs n ++ []))) = _
      rw [digits_bad ⟨45, by simp, by decide, by decide⟩]; rfl)
    simpa using this
  · have := gen [49, 95, 95] [] (by simp) (by simp) (by simp) (first_of (by decide)) (fun a r e => last_dg hd (digs_ne n) [49, 95, 95] a r (by simpa using e)) (by
      show valD false (digits? 10 ([49] ++ 95 :: 95 :: (digs n ++ []))) = _
      rw [digits_two_under (by intro c hc; simp at hc; omega) (by simp)]; rfl)
    simpa using this
end
end Mine
end
section
open PySem PySem.W PyProof.Rows PySem.Calls PySem.Spec PySem.NumText
set_option Elab.async false
set_option maxRecDepth 100000
set_option linter.all false
set_option maxHeartbeats 4000000
namespace Mine
/-! joined by dots, and split again -/
def jn : List (List Nat) → List Nat
  | [] => []
  | [a] => a
  | a :: b :: r => a ++ 46 :: jn (b :: r)
def spl : List Nat → List (List Nat)
  | [] => [[]]
  | c :: r => if c = 46 then [] :: spl r else match spl r with
    | [] => [[c]]
    | h :: t => (c :: h) :: t
def Nd (a : List Nat) : Prop := ∀ c ∈ a, c ≠ 46
theorem spl_nd : ∀ {a : List Nat}, Nd a → spl a = [a]
  | [], _ => rfl
  | c :: r, h => by
    rw [spl, if_neg (h c (.head _)), spl_nd fun d hd => h d (.tail _ hd)]
theorem spl_app : ∀ {a : List Nat} (r : List Nat), Nd a → spl (a ++ 46 :: r) = a :: spl r
  | [], r, _ => by rw [List.nil_append, spl, if_pos rfl]
  | c :: q, r, h => by
    rw [List.cons_append, spl, if_neg (h c (.head _)), spl_app r fun d hd => h d (.tail _ hd)]
theorem spl_jn : ∀ {l : List (List Nat)}, l ≠ [] → (∀ a ∈ l, Nd a) → spl (jn l) = l
  | [], h, _ => absurd rfl h
  | [a], _, h => spl_nd (h a (.head _))
  | a :: b :: r, _, h => by
    rw [jn, spl_app _ (h a (.head _)), spl_jn (by simp) fun x hx => h x (.tail _ hx)]
theorem jn_app : ∀ {a b : List (List Nat)}, a ≠ [] → b ≠ [] → jn (a ++ b) = jn a ++ 46 :: jn b
  | [], b, h, _ => absurd rfl h
  | [x], b, _, hb => by
    cases b with
    | nil => exact absurd rfl hb
    | cons y r => rfl
  | x :: y :: r, b, _, hb => by
    have ih := jn_app (a := y :: r) (b := b) (by simp) hb
    show x ++ 46 :: jn (y :: r ++ b) = (x ++ 46 :: jn (y :: r)) ++ 46 :: jn b
    rw [ih, List.append_assoc]; rfl
theorem jn_flat : ∀ {p : List (List (List Nat))}, (∀ a ∈ p, a ≠ []) → jn (p.map jn) = jn p.flatten
  | [], _ => rfl
  | [a], _ => by simp [jn]
  | a :: b :: r, h => by
    have ih := jn_flat (p := b :: r) fun x hx => h x (.tail _ hx)
    have hb : (b :: r).flatten ≠ [] := by
      have := h b (.tail _ (.head _))
      simp [this]
    rw [List.flatten_cons, jn_app (h a (.head _)) hb, ← ih]; rfl

theorem dot_eq : (Str.ofString "." : Str) = ⟨#[46]⟩ := by decide +kernel
theorem join_str (l : List Str) : (Str.join "." l).cps.toList = jn (l.map (·.cps.toList)) := by
  induction l with
  | nil => rfl
  | cons a r ih =>
    cases r with
    | nil => rfl
    | cons b q =>
      show (a ++ Str.ofString "." ++ Str.join "." (b :: q)).cps.toList = a.cps.toList ++ 46 :: jn ((b :: q).map (·.cps.toList))
      rw [cat_list, cat_list, ih, dot_eq, List.append_assoc]; rfl
theorem join_jn (l : List Str) : (Txt.join "." l).cps.toList = jn (l.map (·.cps.toList)) := by
  show (Builtin.Str.glued _ l).cps.toList = _
  rw [StrLaws.glued_eq_join, join_str]
theorem split_ne (x : Str) : Txt.split x "." ≠ [] := by
  unfold Txt.split
  split
  · simp
  · split
    · simp
    · rw [StrLaws.partsBetween_eq]
      obtain ⟨p, r, e⟩ := StrLaws.partsFrom_ne x (Str.length ".") 0 (Builtin.Str.occurrences x "." 0 x.length (x.length + 1))
      rw [e]; simp
theorem map_list_inj : ∀ {a b : List Str}, a.map (·.cps.toList) = b.map (·.cps.toList) → a = b := fun {a b} h => by
  have := congrArg (List.map mk) h
  rw [List.map_map, List.map_map] at this
  have e : (mk ∘ fun x : Str => x.cps.toList) = id := by funext x; exact mk_of x
  rw [e, List.map_id, List.map_id] at this
  exact this
theorem split_join {l : List Str} (hne : l ≠ []) (h : ∀ x ∈ l, Nd x.cps.toList) : Txt.split (Txt.join "." l) "." = l := by
  have hs : ∀ p ∈ Txt.split (Txt.join "." l) ".", Nd p.cps.toList := fun p hp c hc e => by
    rw [dot_eq] at hp
    subst e
    exact StrLaws.split_free _ 46 p hp hc
  have e : Str.join "." (Txt.split (Txt.join "." l) ".") = Txt.join "." l := StrLaws.join_split _ _
  have e2 := congrArg (fun x : Str => spl x.cps.toList) e
  rw [join_str, join_jn, spl_jn, spl_jn] at e2
  · exact map_list_inj e2
  · simpa using hne
  · intro a ha
    obtain ⟨x, hx, rfl⟩ := List.mem_map.mp ha
    exact h x hx
  · simpa using split_ne _
  · intro a ha
    obtain ⟨x, hx, rfl⟩ := List.mem_map.mp ha
    exact hs x hx
theorem mk_inj {a b : Str} (h : a.cps.toList = b.cps.toList) : a = b := by rw [← mk_of a, h, mk_of]
theorem line_list (ps : List Pc) : (lineOf ps).cps.toList = jn (ps.map fun p => p.1.cps.toList) := by
  unfold lineOf
  rw [join_jn, List.map_map]; rfl
theorem line_flat {parts : List (List Pc)} (h : ∀ ps ∈ parts, ps ≠ []) : Txt.join "." (parts.map lineOf) = lineOf parts.flatten := by
  apply mk_inj
  rw [join_jn, line_list, List.map_map]
  have e : ((fun x : Str => x.cps.toList) ∘ lineOf) = jn ∘ (List.map fun p : Pc => p.1.cps.toList) := by funext ps; exact line_list ps
  rw [e, ← List.map_map, jn_flat, List.map_flatten]
  intro a ha
  obtain ⟨ps, hp, rfl⟩ := List.mem_map.mp ha
  simpa using h ps hp
theorem join_len (l : List Str) : (Txt.join "." l).length ≤ (l.map (·.length)).sum + l.length := by
  show (Builtin.Str.glued _ l).length ≤ _
  rw [StrLaws.glued_eq_join]
  have := StrLaws.join_length_le "." l
  have e1 : (Str.ofString ".").length = 1 := by decide
  rw [e1, Nat.mul_one] at this
  exact this
theorem parts_len (x : Str) : (Builtin.Str.partsBetween x (Builtin.Str.occurrences x "." 0 x.length (x.length + 1)) (Str.length ".")).length ≤ x.length + 2 := by
  have := StrLaws.occ_length_le x "." 0 x.length (x.length + 1)
  unfold Builtin.Str.partsBetween
  simp only [List.length_map, List.length_zip, List.length_cons, List.length_append, List.length_nil]
  omega

/-! a text with a dot is no number -/
theorem mem_dropWhile {p : Nat → Bool} {c : Nat} (hp : p c = false) : ∀ {l : List Nat}, c ∈ l → c ∈ l.dropWhile p
  | [], h => h
  | a :: r, h => by
    rw [List.dropWhile_cons]
    split
    · rcases List.mem_cons.mp h with rfl | h
      · rename_i q; rw [hp] at q; cases q
      · exact mem_dropWhile hp h
    · exact h
theorem mem_sign {c : Nat} (h1 : c ≠ 45) (h2 : c ≠ 43) {l : List Nat} (h : c ∈ l) : c ∈ (sign l).2 := by
  cases l with
  | nil => exact h
  | cons a r =>
    by_cases g1 : a = 45
    · subst g1
      rcases List.mem_cons.mp h with rfl | h
      · exact absurd rfl h1
      · exact h
    · by_cases g2 : a = 43
      · subst g2
        rcases List.mem_cons.mp h with rfl | h
        · exact absurd rfl h2
        · exact h
      · rw [sign_of g1 g2]; exact h
theorem read_dot {x : Str} (ha : Ascii x) (hd : 46 ∈ x.cps.toList) (hz : ∀ c ∈ x.cps.toList, 0 < c) : PySem.intText? x = none := by
  have e1 : numTextOf x = x.cps.toList := by
    unfold numTextOf
    rw [if_pos ha.all]
  have e2 : numSeenOf x = x.cps.toList := by
    unfold numSeenOf
    rw [e1]
    exact takeWhile_all fun c hc => bne_iff_ne.mpr (by have := hz c hc; omega)
  have e3 : 46 ∈ core x.cps.toList := by
    unfold core
    rw [List.mem_reverse]
    refine mem_dropWhile rfl ?_
    rw [List.mem_reverse]
    exact mem_sign (by decide) (by decide) (mem_dropWhile rfl hd)
  show (if ((numSeenOf x).length == (numTextOf x).length) = true then _ else _) = _
  rw [e2, e1, if_pos (beq_self_eq_true _), digits_bad ⟨46, e3, by decide, by decide⟩]

theorem ts_small {n : Int} (h : n.natAbs < 1000) : (ts n).length ≤ 1000 := by
  by_cases h0 : 0 ≤ n
  · exact Nat.le_trans (ts_len h0 (by omega)) (by decide)
  · obtain ⟨m, rfl⟩ : ∃ m : Nat, n = Int.negSucc m := by
      cases n with
      | ofNat k => exact absurd (Int.natCast_nonneg k) h0
      | negSucc m => exact ⟨m, rfl⟩
    have hm : m + 1 < 1000 := h
    have h2 := ts_len (v := ((m + 1 : Nat) : Int)) (by omega) (by omega)
    have l1 : ∀ s : String, (Str.ofString s).length = s.toList.length := fun s => by
      rw [Str.ofString_eq_toList]
      show Array.size _ = _
      simp
    have e : (ts (Int.negSucc m)).length = 1 + (ts ((m + 1 : Nat) : Int)).length := by
      show (Str.ofString ("-" ++ Nat.repr (m + 1))).length = 1 + (Str.ofString (Nat.repr (m + 1))).length
      rw [l1, l1, String.toList_append, List.length_append]; rfl
    omega

/-- a piece tells its number -/
structure PieceOk (q : Pc) : Prop where
  len : q.1.length ≤ 60
  asc : Ascii q.1
  v : PySem.intText? q.1 = q.2
  num : ∀ n, q.2 = some n → n.natAbs < 1000
theorem PieceOk.tx {q : Pc} (h : PieceOk q) : Tx q.1 := ⟨by have := h.len; omega, h.asc⟩
theorem log2_small' {n : Nat} (h : n < 1000) : n.log2 < 1920 := log2_small (by omega)
theorem pcs_ok {qs : List Pc} (h : ∀ q ∈ qs, PieceOk q) (hl : qs.length ≤ 800) : PcsOk qs := by
  refine ⟨by omega, ?_, fun p hp => (h p hp).asc, fun p hp n e => ⟨log2_small' ((h p hp).num n e), ts_small ((h p hp).num n e)⟩⟩
  have := sum_le_mul (l := qs.map (·.1.length)) (k := 60) (by
    intro x hx
    obtain ⟨p, hp, rfl⟩ := List.mem_map.mp hx
    exact (h p hp).len)
  rw [List.length_map] at this
  omega
theorem fits_of {sts : List Str} (h : ∀ x ∈ sts, x.length ≤ 1000) : ((sts.take 3).map (·.length)).sum + 3 ≤ 100000 := by
  have := sum_le_mul (l := (sts.take 3).map (·.length)) (k := 1000) (by
    intro x hx
    obtain ⟨p, hp, rfl⟩ := List.mem_map.mp hx
    exact h p (List.mem_of_mem_take hp))
  rw [List.length_map, List.length_take] at this
  omega
/-- the first piece that is no number -/
theorem first_none : ∀ {qs : List Pc}, qs.any (·.2.isNone) = true → ∃ (j : Nat) (q : Pc), qs[j]? = some q ∧ q.2 = none ∧ ∀ m : Nat, m < j → ∃ (p : Pc) (n : Int), qs[m]? = some p ∧ p.2 = some n
  | [], h => by simp at h
  | q :: r, h => by
    cases hq : q.2 with
    | none => exact ⟨0, q, rfl, hq, fun m hm => absurd hm (Nat.not_lt_zero m)⟩
    | some n =>
      rw [List.any_cons, hq] at h
      obtain ⟨j, p, h1, h2, h3⟩ := first_none (qs := r) (by simpa using h)
      refine ⟨j + 1, p, by simpa using h1, h2, fun m hm => ?_⟩
      cases m with
      | zero => exact ⟨q, n, rfl, hq⟩
      | succ m => simpa using h3 m (by omega)
theorem good_of {qs : List Pc} (h : ∀ q ∈ qs, PieceOk q) (hl : qs.length ≤ 800) : ∃ sts, Good (qs.map (·.1)) sts ∧ Txt.join "." (sts.take 3) = toldOf qs := by
  have htx : ∀ x ∈ qs.map (·.1), Tx x := by
    intro x hx
    obtain ⟨p, hp, rfl⟩ := List.mem_map.mp hx
    exact (h p hp).tx
  have at_ : ∀ {m : Nat} {p : Pc} {n : Int}, qs[m]? = some p → p.2 = some n → (qs.map (·.1))[m]? = some p.1 ∧ Tx p.1 ∧ PySem.intText? p.1 = some n ∧ n.natAbs.log2 < 1920 ∧ (qs.map fun p => ts (p.2.getD 0))[m]? = some (ts n) := by
    intro m p n e1 e2
    have hp := h p (List.mem_of_getElem? e1)
    refine ⟨by rw [List.getElem?_map, e1]; rfl, hp.tx, by rw [hp.v, e2], log2_small' (hp.num n e2), ?_⟩
    rw [List.getElem?_map, e1]
    show some (ts (p.2.getD 0)) = _
    rw [e2]; rfl
  unfold toldOf
  by_cases hany : qs.any (·.2.isNone) = true
  · rw [if_pos hany]
    refine ⟨qs.map (·.1), ⟨htx, by rw [List.length_map]; omega, .inr ⟨rfl, ?_⟩, fits_of ?_⟩, ?_⟩
    · obtain ⟨j, q, h1, h2, h3⟩ := first_none hany
      refine ⟨j, q.1, qs.map (fun p => ts (p.2.getD 0)), ?_, by rw [List.getElem?_map, h1]; rfl, by rw [(h q (List.mem_of_getElem? h1)).v, h2]⟩
      intro m hm
      obtain ⟨p, n, e1, e2⟩ := h3 m hm
      exact ⟨p.1, n, at_ e1 e2⟩
    · intro x hx
      have := (htx x hx).1
      omega
    · unfold lineOf; rw [List.map_take]
  · rw [if_neg hany]
    have hall : ∀ p ∈ qs, ∃ n, p.2 = some n := by
      intro p hp
      cases hpn : p.2 with
      | none => exact absurd (List.any_eq_true.mpr ⟨p, hp, by rw [hpn]; rfl⟩) hany
      | some n => exact ⟨n, rfl⟩
    refine ⟨qs.map (fun p => ts (p.2.getD 0)), ⟨htx, by rw [List.length_map]; omega, .inl ⟨?_, by rw [List.length_map, List.length_map]⟩, fits_of ?_⟩, by rw [List.map_take]⟩
    · intro m hm
      rw [List.length_map] at hm
      have e1 : qs[m]? = some qs[m] := List.getElem?_eq_getElem hm
      obtain ⟨n, e2⟩ := hall _ (List.getElem_mem hm)
      exact ⟨_, n, at_ e1 e2⟩
    · intro x hx
      obtain ⟨p, hp, rfl⟩ := List.mem_map.mp hx
      obtain ⟨n, e⟩ := hall p hp
      show (ts (p.2.getD 0)).length ≤ _
      rw [e]
      exact ts_small ((h p hp).num n e)
end Mine
end
section
open PySem PySem.W PyProof.Rows PySem.Calls PySem.Spec PySem.NumText
set_option Elab.async false
set_option maxRecDepth 100000
set_option linter.all false
set_option maxHeartbeats 4000000
namespace Mine
structure PartOk (ps : List Pc) : Prop where
  ne : ps ≠ []
  two : ps.length ≤ 2
  pc : ∀ p ∈ ps, PieceOk p
  nd : ∀ p ∈ ps, Nd p.1.cps.toList
  pos : ∀ p ∈ ps, ∀ c ∈ p.1.cps.toList, 0 < c
  short : ∀ p ∈ ps, p.1.length ≤ 25
theorem flat_len {parts : List (List Pc)} (h : ∀ ps ∈ parts, PartOk ps) : parts.flatten.length ≤ parts.length * 2 := by
  rw [List.length_flatten]
  have := sum_le_mul (l := parts.map List.length) (k := 2) (by
    intro x hx
    obtain ⟨p, hp, rfl⟩ := List.mem_map.mp hx
    exact (h p hp).two)
  rw [List.length_map] at this
  exact this
theorem mem_jn {c : Nat} : ∀ {l : List (List Nat)}, c ∈ jn l → c = 46 ∨ ∃ a ∈ l, c ∈ a
  | [], h => by cases h
  | [a], h => .inr ⟨a, .head _, h⟩
  | a :: b :: r, h => by
    rw [jn, List.mem_append, List.mem_cons] at h
    rcases h with h | h | h
    · exact .inr ⟨a, .head _, h⟩
    · exact .inl h
    · rcases mem_jn h with h | ⟨x, hx, h⟩
      · exact .inl h
      · exact .inr ⟨x, .tail _ hx, h⟩
theorem line_mem {ps : List Pc} {c : Nat} (h : c ∈ (lineOf ps).cps.toList) : c = 46 ∨ ∃ p ∈ ps, c ∈ p.1.cps.toList := by
  rw [line_list] at h
  rcases mem_jn h with h | ⟨a, ha, h⟩
  · exact .inl h
  · obtain ⟨p, hp, rfl⟩ := List.mem_map.mp ha
    exact .inr ⟨p, hp, h⟩
theorem line_asc {ps : List Pc} (h : ∀ p ∈ ps, Ascii p.1) : Ascii (lineOf ps) := fun c hc => by
  rcases line_mem hc with rfl | ⟨p, hp, hc⟩
  · decide
  · exact h p hp c hc
theorem line_len {ps : List Pc} (h : ∀ p ∈ ps, PieceOk p) : (lineOf ps).length ≤ ps.length * 61 := by
  have h1 := join_len (ps.map (·.1))
  have h2 := sum_le_mul (l := (ps.map (·.1)).map (·.length)) (k := 60) (by
    intro x hx
    obtain ⟨y, hy, rfl⟩ := List.mem_map.mp hx
    obtain ⟨p, hp, rfl⟩ := List.mem_map.mp hy
    exact (h p hp).len)
  rw [List.length_map] at h1
  rw [List.length_map, List.length_map] at h2
  unfold lineOf
  omega
theorem len_zero {x : Str} : x.length = 0 ↔ x = "" := by
  constructor
  · intro h
    apply mk_inj
    have : x.cps.toList = [] := by
      rw [← List.length_eq_zero_iff, str_len]; exact h
    rw [this]; rfl
  · rintro rfl; rfl

/-- the version's parts are the pieces -/
theorem ver_split {parts : List (List Pc)} (h : ∀ ps ∈ parts, PartOk ps) (hne : parts ≠ []) : Txt.split (Txt.join "." (parts.map lineOf)) "." = parts.flatten.map (·.1) := by
  rw [line_flat fun ps hp => (h ps hp).ne]
  unfold lineOf
  refine split_join ?_ ?_
  · cases parts with
    | nil => exact absurd rfl hne
    | cons a r =>
      have := (h a (.head _)).ne
      simp [this]
  · intro x hx
    obtain ⟨p, hp, rfl⟩ := List.mem_map.mp hx
    obtain ⟨ps, hps, hp⟩ := List.mem_flatten.mp hp
    exact (h ps hps).nd p hp
theorem norm_in {parts : List (List Pc)} (h : ∀ ps ∈ parts, PartOk ps) (hne : parts ≠ []) (hl : parts.length ≤ 100) {b : Str} (hb : b.length ≤ 1000) {sts : List Str}
    (g : Good (parts.flatten.map (·.1) ++ if b.length = 0 then [] else [b]) sts) : NormIn (Txt.join "." (parts.map lineOf)) b sts := by
  have hpc : ∀ p ∈ parts.flatten, PieceOk p := by
    intro p hp
    obtain ⟨ps, hps, hp⟩ := List.mem_flatten.mp hp
    exact (h ps hps).pc p hp
  have hf := flat_len h
  have hlen : (Txt.join "." (parts.map lineOf)).length ≤ 20000 := by
    rw [line_flat fun ps hp => (h ps hp).ne]
    have := line_len hpc
    omega
  refine ⟨by omega, by omega, ?_, ?_, ?_⟩
  · have := parts_len (Txt.join "." (parts.map lineOf)); omega
  · rw [ver_split h hne, List.length_map]; omega
  · rw [ver_split h hne]; exact g

theorem more_ok {ps : List Pc} (h : PartOk ps) : (∀ q ∈ moreOf (lineOf ps) ps, PieceOk q) ∧ (moreOf (lineOf ps) ps).length ≤ 1 ∧ (moreOf (lineOf ps) ps).map (·.1) = if (lineOf ps).length = 0 then [] else [lineOf ps] := by
  unfold moreOf
  by_cases hb : lineOf ps = ""
  · rw [if_pos hb, if_pos (len_zero.mpr hb)]
    refine ⟨fun q hq => by simp at hq, by decide, rfl⟩
  · rw [if_neg hb, if_neg (fun e => hb (len_zero.mp e))]
    by_cases h1 : ps.length = 1
    · rw [if_pos h1]
      refine ⟨h.pc, by omega, ?_⟩
      match ps, h1 with
      | [p], _ => rfl
    · rw [if_neg h1]
      refine ⟨fun q hq => ?_, Nat.le_refl _, rfl⟩
      rw [List.mem_singleton] at hq
      subst hq
      have hl := line_len h.pc
      have ht := h.two
      have hasc : Ascii (lineOf ps) := line_asc fun p hp => (h.pc p hp).asc
      have hdot : 46 ∈ (lineOf ps).cps.toList := by
        rw [line_list]
        match ps, h.ne, h1 with
        | [], hne, _ => exact absurd rfl hne
        | [p], _, h1 => exact absurd rfl h1
        | p :: q :: r, _, _ => simp [jn]
      have hlen : (lineOf ps).length ≤ 60 := by
        have g1 := join_len (ps.map (·.1))
        have g2 := sum_le_mul (l := (ps.map (·.1)).map (·.length)) (k := 25) (by
          intro x hx
          obtain ⟨y, hy, rfl⟩ := List.mem_map.mp hx
          obtain ⟨p, hp, rfl⟩ := List.mem_map.mp hy
          exact h.short p hp)
        rw [List.length_map] at g1
        rw [List.length_map, List.length_map] at g2
        unfold lineOf
        omega
      exact ⟨hlen, hasc, read_dot hasc hdot (fun c hc => by
        rcases line_mem hc with rfl | ⟨p, hp, hc⟩
        · decide
        · exact h.pos p hp c hc), fun n e => by cases e⟩

theorem hold_ok {parts : List (List Pc)} (h : ∀ ps ∈ parts, PartOk ps) (hne : 1 ≤ parts.length) (hl : parts.length ≤ 100) : HoldOk (parts.map lineOf) parts := by
  refine ⟨by rw [List.length_map], hne, hl, fun ps hp => by have := (h ps hp).two; omega, ?_, ?_⟩
  · have := sum_le_mul (l := (parts.map lineOf).map (·.length)) (k := 122) (by
      intro x hx
      obtain ⟨y, hy, rfl⟩ := List.mem_map.mp hx
      obtain ⟨ps, hp, rfl⟩ := List.mem_map.mp hy
      have h1 := line_len (h ps hp).pc
      have h2 := (h ps hp).two
      show (lineOf ps).length ≤ _
      omega)
    rw [List.length_map, List.length_map] at this
    omega
  · intro k h1 h2
    have hk : ∀ ps ∈ parts.take k, PartOk ps := fun ps hp => h ps (List.mem_of_mem_take hp)
    have hkl : (parts.take k).length = k := by rw [List.length_take]; omega
    have hkne : parts.take k ≠ [] := by
      intro e; rw [e] at hkl; simp at hkl; omega
    have hpc : ∀ p ∈ (parts.take k).flatten, PieceOk p := by
      intro p hp
      obtain ⟨ps, hps, hp⟩ := List.mem_flatten.mp hp
      exact (hk ps hps).pc p hp
    have hf := flat_len hk
    have e1 : (parts.map lineOf).take k = (parts.take k).map lineOf := by rw [List.map_take]
    have e2 : parts.getD k [] = parts[k] := by simp [List.getD, List.getElem?_eq_getElem h2]
    have e3 : (parts.map lineOf).getD k "" = lineOf parts[k] := by simp [List.getD, List.getElem?_eq_getElem h2]
    have hp := h _ (List.getElem_mem h2)
    obtain ⟨m1, m2, m3⟩ := more_ok hp
    have hpc2 : ∀ p ∈ (parts.take k).flatten ++ moreOf (lineOf parts[k]) parts[k], PieceOk p := by
      intro p hp
      rcases List.mem_append.mp hp with hp | hp
      · exact hpc p hp
      · exact m1 p hp
    have hl2 : ((parts.take k).flatten ++ moreOf (lineOf parts[k]) parts[k]).length ≤ 800 := by rw [List.length_append]; omega
    refine ⟨pcs_ok hpc (by omega), ?_, ?_, ?_⟩
    · rw [e2, e3]; exact pcs_ok hpc2 hl2
    · rw [e1]
      obtain ⟨sts, g, q⟩ := good_of hpc (by omega)
      refine ⟨sts, norm_in hk hkne (by omega) (by decide) ?_, q⟩
      rw [if_pos (by rfl), List.append_nil]; exact g
    · rw [e1, e2, e3]
      obtain ⟨sts, g, q⟩ := good_of hpc2 hl2
      refine ⟨sts, norm_in hk hkne (by omega) ?_ ?_, q⟩
      · have h1 := line_len hp.pc
        have h2 := hp.two
        omega
      · rw [← m3, ← List.map_append]; exact g
end Mine
end
section
open PySem PySem.W PyProof.Rows PySem.Calls PySem.Spec PySem.NumText
set_option Elab.async false
set_option maxRecDepth 100000
set_option linter.all false
set_option maxHeartbeats 4000000
namespace Mine
def Pad (a : List Nat) : Prop := a.length ≤ 5 ∧ ∀ c ∈ a, bl c = true
theorem mk_cat (a b : List Nat) : mk a ++ mk b = mk (a ++ b) := by
  apply mk_inj
  rw [cat_list, mk_toList, mk_toList, mk_toList]
theorem getD_or {l : List Str} {i : Nat} : l.getD i "" ∈ l ∨ l.getD i "" = "" := by
  by_cases h : i < l.length
  · left
    rw [List.getD, List.getElem?_eq_getElem h]
    exact List.getElem_mem h
  · right
    rw [List.getD, List.getElem?_eq_none (by omega)]; rfl
theorem pads_ok : (∀ s ∈ leads, Pad s.cps.toList) ∧ (∀ s ∈ tails, Pad s.cps.toList) := by
  unfold Pad
  constructor <;> decide +kernel
theorem pad_nil : Pad (Str.ofString "").cps.toList := by unfold Pad; decide +kernel
theorem lead_pad (x : Int) : Pad (leadOf x).cps.toList := by
  unfold leadOf
  rcases getD_or (l := leads) (i := ((qOf x).fmod 6).toNat) with h | h
  · exact pads_ok.1 _ h
  · rw [h]; exact pad_nil
theorem tail_pad (x : Int) : Pad (tailOf x).cps.toList := by
  unfold tailOf
  rcases getD_or (l := tails) (i := (((qOf x).fdiv 6).fmod 4).toNat) with h | h
  · exact pads_ok.2 _ h
  · rw [h]; exact pad_nil

theorem wrongs_mk {n : Nat} : wrongs (mk (digs n)) = (wrongL n).map mk := by
  have e1 : (Str.ofString "" : Str) = mk [] := by decide +kernel
  have e2 : (Str.ofString "b" : Str) = mk [98] := by decide +kernel
  have e3 : (Str.ofString "1 " : Str) = mk [49, 32] := by decide +kernel
  have e4 : (Str.ofString "_" : Str) = mk [95] := by decide +kernel
  have e5 : (Str.ofString "+ " : Str) = mk [43, 32] := by decide +kernel
  have e6 : (Str.ofString "+-" : Str) = mk [43, 45] := by decide +kernel
  have e7 : (Str.ofString "1__" : Str) = mk [49, 95, 95] := by decide +kernel
  show [Str.ofString "", mk (digs n) ++ Str.ofString "b", Str.ofString "1 " ++ mk (digs n), Str.ofString "_" ++ mk (digs n), mk (digs n) ++ Str.ofString "_", Str.ofString "+ " ++ mk (digs n), Str.ofString "+-" ++ mk (digs n), Str.ofString "1__" ++ mk (digs n)] = _
  rw [e1, e2, e3, e4, e5, e6, e7]
  simp only [mk_cat]
  rfl
/-- what a drawn part is -/
inductive Shape : List Pc → Prop
  | one {l o} : CoreOk l o → Shape [(mk l, o)]
  | two {l o l' o'} : CoreOk l o → CoreOk l' o' → Shape [(mk l, o), (mk l', o')]
theorem bare_shape (x : Int) : Shape (bareOf x) := by
  obtain ⟨h0, h1⟩ := vOf_bound x
  obtain ⟨n, hn⟩ := Int.eq_ofNat_of_zero_le h0
  have hlt : n < 1000 := by omega
  have et : ts (vOf x) = mk (digs n) := by rw [hn]; exact ts_digs hlt
  have e00 : (Str.ofString "00" : Str) = mk [48, 48] := by decide +kernel
  have e0 : (Str.ofString "0" : Str) = mk [48] := by decide +kernel
  have ep : (Str.ofString "+" : Str) = mk [43] := by decide +kernel
  have em : (Str.ofString "-" : Str) = mk [45] := by decide +kernel
  have eu : (Str.ofString "_" : Str) = mk [95] := by decide +kernel
  unfold bareOf
  simp only [et]
  split
  · rw [hn]; exact .one (ok_plain hlt)
  · split
    · rw [hn, e00, mk_cat]; exact .one (ok_zeros hlt 2 (.inr rfl))
    · split
      · rw [hn, ep, mk_cat]; exact .one (ok_signed hlt 43 (.inl rfl))
      · split
        · rw [hn, em, mk_cat]; exact .one (ok_signed hlt 45 (.inr rfl))
        · split
          · rw [hn]
            have d1 : Int.fdiv (n : Int) 10 = ((n / 10 : Nat) : Int) := by rw [Int.fdiv_eq_ediv_of_nonneg _ (by decide)]; omega
            have d2 : Int.fmod (n : Int) 10 = ((n % 10 : Nat) : Int) := by rw [Int.fmod_eq_emod_of_nonneg _ (by decide)]; omega
            rw [d1, d2, ts_digs (by omega), ts_digs (by omega), eu, mk_cat, mk_cat, List.append_assoc]
            exact .one (ok_under hlt)
          · split
            · have hb := fmod_bound (a := vOf x) (b := 8) (by decide)
              generalize hk : ((vOf x).fmod 8).toNat = k
              have hk8 : k < (wrongL n).length := by show k < 8; omega
              rw [wrongs_mk, List.getD, List.getElem?_map, List.getElem?_eq_getElem hk8]
              exact .one (ok_wrong hlt _ (List.getElem_mem hk8))
            · rw [hn, e0, mk_cat]; exact .two (ok_plain hlt) (ok_zeros hlt 1 (.inl rfl))

/-- the same part with blanks around it -/
inductive Shapes : List Pc → List Pc → Prop
  | one {a l b o} : Pad a → Pad b → CoreOk l o → Shapes [(mk l, o)] [(mk (a ++ l ++ b), o)]
  | two {a l o l' o' b} : Pad a → Pad b → CoreOk l o → CoreOk l' o' → Shapes [(mk l, o), (mk l', o')] [(mk (a ++ l), o), (mk (l' ++ b), o')]
theorem full_shape (x : Int) : Shapes (bareOf x) (fullOf x) := by
  have ha := lead_pad x
  have hb := tail_pad x
  unfold fullOf
  rw [← mk_of (leadOf x), ← mk_of (tailOf x)]
  generalize (leadOf x).cps.toList = a at *
  generalize (tailOf x).cps.toList = b at *
  have := bare_shape x
  generalize bareOf x = q at *
  cases this with
  | one h =>
    show Shapes _ [(mk a ++ mk _ ++ mk b, _)]
    rw [mk_cat, mk_cat]; exact .one ha hb h
  | two h1 h2 =>
    show Shapes _ [(mk a ++ mk _, _), (mk _ ++ mk b, _)]
    rw [mk_cat, mk_cat]; exact .two ha hb h1 h2

theorem bl_lt {c : Nat} (h : bl c = true) : c = 32 ∨ c = 9 := by
  unfold bl at h
  rw [Bool.or_eq_true, beq_iff_eq, beq_iff_eq] at h
  exact h
theorem pad_piece {a l b : List Nat} {o : Option Int} (ha : Pad a) (hb : Pad b) (h : CoreOk l o) : PieceOk (mk (a ++ l ++ b), o) ∧ Nd (mk (a ++ l ++ b)).cps.toList ∧ (∀ c ∈ (mk (a ++ l ++ b)).cps.toList, 0 < c) ∧ (mk (a ++ l ++ b)).length ≤ 25 := by
  have hm : ∀ c ∈ a ++ l ++ b, 0 < c ∧ c < 128 ∧ c ≠ 46 := by
    intro c hc
    rw [List.append_assoc, List.mem_append, List.mem_append] at hc
    rcases hc with hc | hc | hc
    · have := bl_lt (ha.2 c hc); omega
    · exact ⟨(h.asc c hc).1, (h.asc c hc).2, h.nd c hc⟩
    · have := bl_lt (hb.2 c hc); omega
  have hl : (mk (a ++ l ++ b)).length ≤ 25 := by
    rw [mk_len, List.length_append, List.length_append]
    have := ha.1; have := hb.1; have := h.len
    omega
  refine ⟨⟨by show (mk (a ++ l ++ b)).length ≤ 60; omega, fun c hc => ?_, ?_, h.num⟩, fun c hc => ?_, fun c hc => ?_, hl⟩
  · rw [mk_toList] at hc; exact (hm c hc).2.1
  · show PySem.intText? (mk (a ++ l ++ b)) = o
    rw [read_pad h.asc ha.2 hb.2 h.f1 h.f2]; exact h.v
  · rw [mk_toList] at hc; exact (hm c hc).2.2
  · rw [mk_toList] at hc; exact (hm c hc).1
theorem pad_none : Pad [] := ⟨by decide, fun c hc => nomatch hc⟩
theorem part_of {ps : List Pc} (hne : ps ≠ []) (h2 : ps.length ≤ 2) (h : ∀ p ∈ ps, ∃ a l b o, Pad a ∧ Pad b ∧ CoreOk l o ∧ p = (mk (a ++ l ++ b), o)) : PartOk ps := by
  refine ⟨hne, h2, fun p hp => ?_, fun p hp => ?_, fun p hp => ?_, fun p hp => ?_⟩
  all_goals
    obtain ⟨a, l, b, o, ha, hb, hc, rfl⟩ := h p hp
    have := pad_piece ha hb hc
  · exact this.1
  · exact this.2.1
  · exact this.2.2.1
  · exact this.2.2.2
theorem shapes_ok {q f : List Pc} (h : Shapes q f) : PartOk q ∧ PartOk f := by
  cases h with
  | one ha hb h =>
    constructor
    · refine part_of (by simp) (by simp) fun p hp => ?_
      rw [List.mem_singleton] at hp
      subst hp
      exact ⟨[], _, [], _, pad_none, pad_none, h, by simp⟩
    · refine part_of (by simp) (by simp) fun p hp => ?_
      rw [List.mem_singleton] at hp
      subst hp
      exact ⟨_, _, _, _, ha, hb, h, rfl⟩
  | two ha hb h1 h2 =>
    constructor
    · refine part_of (by simp) (by simp) fun p hp => ?_
      simp only [List.mem_cons, List.not_mem_nil, or_false] at hp
      rcases hp with rfl | rfl
      · exact ⟨[], _, [], _, pad_none, pad_none, h1, by simp⟩
      · exact ⟨[], _, [], _, pad_none, pad_none, h2, by simp⟩
    · refine part_of (by simp) (by simp) fun p hp => ?_
      simp only [List.mem_cons, List.not_mem_nil, or_false] at hp
      rcases hp with rfl | rfl
      · exact ⟨_, _, [], _, ha, pad_none, h1, by simp⟩
      · exact ⟨[], _, _, _, pad_none, hb, h2, by simp⟩

/-! the cut -/
theorem nbl {c : Nat} (h : blank c = false) : bl c = false := by
  cases hb : bl c with
  | false => rfl
  | true => rw [blank_bl hb] at h; cases h
theorem strip_pad {a m b : List Nat} (ha : Pad a) (hb : Pad b) (f1 : ∀ c r, m = c :: r → blank c = false) (f2 : ∀ c r, m.reverse = c :: r → blank c = false) : strip (a ++ m ++ b) = m := by
  unfold strip
  rw [List.append_assoc, dropWhile_all _ ha.2, dropWhile_first (fun c r e => nbl (f1 c r e)) b hb.2]
  by_cases h : m = []
  · rw [if_pos h, h]; rfl
  · rw [if_neg h, List.reverse_append, dropWhile_all _ fun c hc => hb.2 c (List.mem_reverse.mp hc)]
    have := dropWhile_first (p := bl) (l := m.reverse) (fun c r e => nbl (f2 c r e)) [] (fun c hc => nomatch hc)
    rw [List.append_nil] at this
    rw [this, if_neg (by simpa using h), List.reverse_reverse]
theorem shapes_cut {q f : List Pc} (h : Shapes q f) : mk (strip (lineOf f).cps.toList) = lineOf q := by
  apply mk_inj
  rw [mk_toList, line_list, line_list]
  cases h with
  | @one a l b o ha hb h =>
    show strip ((mk (a ++ l ++ b)).cps.toList) = (mk l).cps.toList
    rw [mk_toList, mk_toList, strip_pad ha hb h.f1 h.f2]
  | @two a l o l' o' b ha hb h1 h2 =>
    show strip ((mk (a ++ l)).cps.toList ++ 46 :: (mk (l' ++ b)).cps.toList) = (mk l).cps.toList ++ 46 :: (mk l').cps.toList
    rw [mk_toList, mk_toList, mk_toList, mk_toList]
    have e : (a ++ l) ++ 46 :: (l' ++ b) = a ++ (l ++ 46 :: l') ++ b := by simp
    rw [e]
    refine strip_pad ha hb ?_ ?_
    · intro c r e
      cases l with
      | nil => injection e with e1 _; subst e1; rfl
      | cons y q => injection e with e1 _; subst e1; exact h1.f1 _ _ rfl
    · intro c r e
      rw [List.reverse_append, List.reverse_cons, List.append_assoc] at e
      cases hq : l'.reverse with
      | nil => rw [hq] at e; injection e with e1 _; subst e1; rfl
      | cons y q => rw [hq] at e; injection e with e1 _; subst e1; exact h2.f2 _ _ hq

theorem law_ok {xs : List Int} (h1 : 1 ≤ xs.length) (h2 : xs.length ≤ 100) : LawOk xs := by
  have hF : ∀ x, PartOk (fullOf x) := fun x => (shapes_ok (full_shape x)).2
  have hB : ∀ x, PartOk (bareOf x) := fun x => (shapes_ok (full_shape x)).1
  have sm : ∀ {ps : List Pc}, PartOk ps → ps.length ≤ 100 ∧ (ps.map (·.1.length)).sum ≤ 1000 := fun {ps} h => by
    have ht := h.two
    have := sum_le_mul (l := ps.map (·.1.length)) (k := 25) (by
      intro x hx
      obtain ⟨p, hp, rfl⟩ := List.mem_map.mp hx
      exact h.short p hp)
    rw [List.length_map] at this
    omega
  have hd : ∀ (g : Int → List Pc), (∀ x, PartOk (g x)) → HoldOk (xs.map fun x => lineOf (g x)) (xs.map g) := fun g hg => by
    have := hold_ok (parts := xs.map g) (fun ps hp => by
      obtain ⟨x, _, rfl⟩ := List.mem_map.mp hp
      exact hg x) (by rw [List.length_map]; exact h1) (by rw [List.length_map]; exact h2)
    rw [List.map_map] at this
    exact this
  refine ⟨h2, fun x _ => sm (hF x), fun x _ => sm (hB x), fun x _ => ⟨line_asc fun p hp => ((hF x).pc p hp).asc, ?_⟩, fun x _ => line_asc fun p hp => ((hB x).pc p hp).asc, fun x _ => shapes_cut (full_shape x), hd _ hF, hd _ hB⟩
  have h3 := line_len (hF x).pc
  have h4 := (hF x).two
  omega
end Mine
end
section
open PySem PySem.W PyProof.Rows
namespace Mine
open_top hd for PySem.Challenge.rw_mg0040_01
end Mine
end
open PySem PySem.W PyProof.Rows PySem.Calls PySem.Spec PySem.NumText
set_option Elab.async false
set_option maxRecDepth 100000
set_option linter.all false
set_option maxHeartbeats 8000000
namespace Mine
theorem ws_in (p) : ∃ fI, WsIn (hd.heap_39 p) 91 fI := by
  refine ⟨_, by rfl, by rfl, by rfl, ⟨_, _, _, _, _, _, _, _, _, _, by rfl, by rfl⟩, by rfl, ⟨_, by rfl⟩, ⟨_, by rfl⟩, ?_⟩
  refine ⟨_, _, _, _, _, _, _, _, _, _, _, _, _, _, _, _, by rfl, by rfl, by rfl, by rfl, ?_⟩
  intro x hx
  simp only [List.mem_cons, List.not_mem_nil, or_false] at hx
  rcases hx with rfl | rfl | rfl | rfl | rfl | rfl | rfl <;> rfl
theorem hasAll_ints {P : Addr → Prop} {h : Heap} {vs : List Value} {ns : List Int} (x : IntsAre vs ns) : HasAll P h (ns.map .int) vs := by
  induction x with
  | nil => exact hasAll_nil.mpr rfl
  | cons a t _ ih => exact hasAll_cons.mpr ⟨_, _, rfl, has_int.mpr ⟨t, rfl⟩, ih⟩
end Mine
open Mine in
set_option maxRecDepth 100000 in
set_option maxHeartbeats 8000000 in
theorem PySem.Challenge.cw_mg0040_01_holds : PySem.Challenge.rw_mg0040_01.Holds := by
  refine hd ?_
  k_go0
  rename_i w s₀ s₁ mg mb G Y fa o pm doc kV ho hg KX X V GL T B TE TW w9 w8 M w7 w6 hcd ns hs hlay0 hlay hr1 hl2 w4 w3 a vs was hL ra w1 r0 hI hr hcond _ K0 hD h₁ F N0
  have W : Wd (hd.heap_39 w.params) mg mb s₁ := ⟨KX, T.g, T.b, T.nolimit, T.builtins⟩
  have nm : ∀ {x : Str} {v : Option Value}, nsIn (hd.heap_39 w.params) mainGlobals x = some v → mg x = v := fun {x v} e => by
    cases v with
    | none => exact mg_none_of KX T.g e
    | some v => exact mg_of KX T.g e
  obtain ⟨fI, H⟩ := ws_in w.params
  have N : LawNames (hd.heap_39 w.params) mg 102 107 114 124 := ⟨nm rfl, nm rfl, nm rfl, nm rfl, ⟨_, _, _, _, _, _, _, _, _, _, rfl, rfl⟩, ⟨_, _, _, _, _, _, _, _, _, _, rfl, rfl⟩, ⟨_, _, _, _, _, _, _, _, _, _, rfl, rfl⟩, ⟨_, _, _, _, _, _, _, _, _, _, rfl, rfl⟩⟩
  have PN : PartNames mg := ⟨nm rfl, nm rfl, nm rfl⟩
  have HN : HoldNames (hd.heap_39 w.params) mg 29 107 119 22 196 := ⟨nm rfl, nm rfl, nm rfl, ⟨_, _, _, _, _, _, _, _, _, _, rfl, rfl⟩, ⟨_, _, _, _, _, _, _, _, _, _, rfl, rfl⟩, ⟨_, _, _, _, _, _, _, _, _, _, rfl, rfl⟩, ⟨_, rfl⟩, ⟨nm rfl, nm rfl, nm rfl, nm rfl, nm rfl⟩, nm rfl, nm rfl⟩
  have NW : WsNames mg 91 := ⟨nm rfl, nm rfl, nm rfl⟩
  refine wpAny_mono (law_body (ns := ns) (E := fun _ _ => False) W N PN HN H NW rfl (by decide) (by decide) (by omega) (Stk.caller rfl) (law_ok (by rw [List.length_append]; show 1 ≤ _ + 4; omega) (by rw [List.length_append, List.length_take]; show _ + 4 ≤ 100; omega)) ⟨.of ⟨h₁, _, rfl, F.keep⟩, ⟨_, F.ns, ?_⟩, ?_⟩) (fun fl s' h => ?_) (fun _ _ h => h.elim)
  · intro x d e
    rw [List.lookup_cons] at e
    split at e
    · rename_i hx
      cases e
      have : x = Str.ofString "script" := by simpa using hx
      subst this
      refine ⟨.ref a, rfl, has_list.mpr ⟨a, vs.toArray, rfl, trivial, ?_, hasAll_ints (by simpa using hI)⟩⟩
      obtain ⟨o', ho', r⟩ := hL
      exact ⟨o', F.keep _ _ ho', r⟩
    · cases e
  · exact fresh_size s₁
  · obtain ⟨rfl, hk⟩ := h
    obtain ⟨h', tk, rfl, kk⟩ := hk
    exact ⟨.inl ⟨.bool true, .bool true, [], rfl, fun _ => rfl, .bool _, by first | kernel_rfl | wrow_post, fun _ => ⟨List.nodup_nil, fun a ha => nomatch ha⟩⟩, kk, rfl, hg⟩
