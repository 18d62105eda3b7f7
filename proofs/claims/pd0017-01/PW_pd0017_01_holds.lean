import PyProof.Rows.All
import Wide.All
import OpenK.AllK
import Wide.FinOn
import PySem.Challenge.RW_pd0017_01
set_option Elab.async false
set_option linter.all false

section
open PySem PySem.W PySem.Calls PyProof.Rows PySem.Spec
set_option maxRecDepth 100000
namespace Mine

noncomputable abbrev KeepH (h h' : Heap) : Prop := ∀ b o, h.get? b = some o → h'.get? b = some o
theorem KeepH.refl {h : Heap} : KeepH h h := fun _ _ e => e
theorem KeepH.trans {a b c : Heap} (x : KeepH a b) (y : KeepH b c) : KeepH a c := fun _ _ e => y _ _ (x _ _ e)
theorem keepH_push {h : Heap} (o : Obj) : KeepH h (h.push o) := fun _ _ e => Heap.get?_push_of_some _ e

-- h' keeps all of h but what lies in X
noncomputable def KeepB (X : Addr → Prop) (h h' : Heap) : Prop := ∀ b o, ¬ X b → h.get? b = some o → h'.get? b = some o
theorem KeepH.toB {X : Addr → Prop} {h h' : Heap} (x : KeepH h h') : KeepB X h h' := fun _ _ _ e => x _ _ e
theorem KeepB.trans {X : Addr → Prop} {a b c : Heap} (x : KeepB X a b) (y : KeepB X b c) : KeepB X a c := fun _ _ n e => y _ _ n (x _ _ n e)
theorem KeepB.mono {X Y : Addr → Prop} {a b : Heap} (x : KeepB X a b) (h : ∀ p, X p → Y p) : KeepB Y a b := fun _ _ n e => x _ _ (fun q => n (h _ q)) e
theorem KeepB.ofSame {X : Addr → Prop} {c : Addr} {a b : Heap} (x : Heap.SameBut c a b) (h : X c) : KeepB X a b := fun p _ n e => (x.2 p (fun q => n (q ▸ h))).trans e
theorem KeepB.ofExt {X : Addr → Prop} {c : Addr} {a b : Heap} (x : Heap.ExtBut c a b) (h : X c) : KeepB X a b := fun p o n e => x p o (fun q => n (q ▸ h)) e

-- stand-ins for the two classes str and bytes
noncomputable def tstrD : PyData := .dict [(.none, .none)]
noncomputable def tbytD : PyData := .dict [(.none, .bool true)]
-- stand-in for a reference of which nothing is said
noncomputable def addrD (a : Addr) : PyData := .dict [(.none, .int (a : Nat))]
mutual
-- the value v reads as d in h, and every object that it reaches lies off S
inductive Rd (P : Params) (S : Addr → Prop) (h : Heap) : Value → PyData → Prop
  | none : Rd P S h .none .none
  | bool (b) : Rd P S h (.bool b) (.bool b)
  | int (i t) : Rd P S h (.int i t) (.int i)
  | str (x t) : Rd P S h (.str x t) (.str x)
  | tstr : Rd P S h (.type "str") tstrD
  | tbyt : Rd P S h (.type "bytes") tbytD
  | addr (a) : Rd P S h (.ref a) (addrD a)
  | list {a o vs n xs} : ¬ S a → h.get? a = some o → o.cls = .type "list" → o.data = .seq vs n → RdAll P S h vs.toList xs → Rd P S h (.ref a) (.list xs)
  | tuple {a o vs n xs} : ¬ S a → h.get? a = some o → o.cls = .type "tuple" → o.data = .seq vs n → RdAll P S h vs.toList xs → Rd P S h (.ref a) (.tuple xs)
  | dict {a es n kvs} : ¬ S a → h.get? a = some ⟨.type "dict", Option.none, .dict es n, #[]⟩ → RdEs P S h es.toList kvs → Rd P S h (.ref a) (.dict kvs)
inductive RdAll (P : Params) (S : Addr → Prop) (h : Heap) : List Value → List PyData → Prop
  | nil : RdAll P S h [] []
  | cons {v vs d ds} : Rd P S h v d → RdAll P S h vs ds → RdAll P S h (v :: vs) (d :: ds)
inductive RdEs (P : Params) (S : Addr → Prop) (h : Heap) : List DictEntry → List (PyData × PyData) → Prop
  | nil : RdEs P S h [] []
  | cons {x t v d es kvs} : Rd P S h v d → RdEs P S h es kvs → RdEs P S h (⟨PyData.keyHash P x, .str x t, v⟩ :: es) ((.str x, d) :: kvs)
end

section
variable {P : Params} {S S' : Addr → Prop} {h h' : Heap}
mutual
theorem Rd.move (hk : ∀ a o, ¬ S a → h.get? a = some o → ¬ S' a ∧ h'.get? a = some o) : ∀ {v : Value} {d : PyData}, Rd P S h v d → Rd P S' h' v d
  | _, _, .none => .none
  | _, _, .bool b => .bool b
  | _, _, .int i t => .int i t
  | _, _, .str x t => .str x t
  | _, _, .tstr => .tstr
  | _, _, .tbyt => .tbyt
  | _, _, .addr a => .addr a
  | _, _, .list n g c e r => .list (hk _ _ n g).1 (hk _ _ n g).2 c e (RdAll.move hk r)
  | _, _, .tuple n g c e r => .tuple (hk _ _ n g).1 (hk _ _ n g).2 c e (RdAll.move hk r)
  | _, _, .dict n g r => .dict (hk _ _ n g).1 (hk _ _ n g).2 (RdEs.move hk r)
theorem RdAll.move (hk : ∀ a o, ¬ S a → h.get? a = some o → ¬ S' a ∧ h'.get? a = some o) : ∀ {vs : List Value} {ds : List PyData}, RdAll P S h vs ds → RdAll P S' h' vs ds
  | _, _, .nil => .nil
  | _, _, .cons x r => .cons (Rd.move hk x) (RdAll.move hk r)
theorem RdEs.move (hk : ∀ a o, ¬ S a → h.get? a = some o → ¬ S' a ∧ h'.get? a = some o) : ∀ {vs : List DictEntry} {ds : List (PyData × PyData)}, RdEs P S h vs ds → RdEs P S' h' vs ds
  | _, _, .nil => .nil
  | _, _, .cons x r => .cons (Rd.move hk x) (RdEs.move hk r)
end
theorem Rd.keep {v : Value} {d : PyData} (r : Rd P S h v d) (k : KeepH h h') : Rd P S h' v d := r.move fun _ _ n e => ⟨n, k _ _ e⟩
theorem RdAll.keep {v : List Value} {d : List PyData} (r : RdAll P S h v d) (k : KeepH h h') : RdAll P S h' v d := r.move fun _ _ n e => ⟨n, k _ _ e⟩
theorem Rd.keepB {v : Value} {d : PyData} (r : Rd P S h v d) (k : KeepB S h h') : Rd P S h' v d := r.move fun _ _ n e => ⟨n, k _ _ n e⟩
theorem RdAll.keepB {v : List Value} {d : List PyData} (r : RdAll P S h v d) (k : KeepB S h h') : RdAll P S h' v d := r.move fun _ _ n e => ⟨n, k _ _ n e⟩
-- a smaller set
theorem Rd.less {v : Value} {d : PyData} (r : Rd P S h v d) (k : ∀ a, S' a → S a) : Rd P S' h v d := r.move fun _ _ n e => ⟨fun q => n (k _ q), e⟩
theorem RdAll.less {v : List Value} {d : List PyData} (r : RdAll P S h v d) (k : ∀ a, S' a → S a) : RdAll P S' h v d := r.move fun _ _ n e => ⟨fun q => n (k _ q), e⟩
-- a set that grows by what is not in h
theorem Rd.more {v : Value} {d : PyData} (r : Rd P S h v d) (k : ∀ a, S' a → S a ∨ h.get? a = Option.none) : Rd P S' h v d :=
  r.move fun _ _ n e => ⟨fun q => (k _ q).elim n fun z => (by rw [z] at e; cases e), e⟩
theorem RdAll.more {v : List Value} {d : List PyData} (r : RdAll P S h v d) (k : ∀ a, S' a → S a ∨ h.get? a = Option.none) : RdAll P S' h v d :=
  r.move fun _ _ n e => ⟨fun q => (k _ q).elim n fun z => (by rw [z] at e; cases e), e⟩

theorem RdAll.length : ∀ {vs : List Value} {ds : List PyData}, RdAll P S h vs ds → vs.length = ds.length
  | _, _, .nil => rfl
  | _, _, .cons _ r => by rw [List.length_cons, List.length_cons, r.length]
theorem RdAll.get : ∀ {vs : List Value} {ds : List PyData}, RdAll P S h vs ds → ∀ {i : Nat} {d : PyData}, ds[i]? = some d → ∃ v, vs[i]? = some v ∧ Rd P S h v d
  | _, _, .nil, _, _, e => by simp at e
  | _, _, .cons x _, 0, _, e => by simp at e; subst e; exact ⟨_, rfl, x⟩
  | _, _, .cons _ r, i + 1, _, e => by simpa using r.get (i := i) (by simpa using e)
theorem RdAll.get' : ∀ {vs : List Value} {ds : List PyData}, RdAll P S h vs ds → ∀ {i : Nat} {v : Value}, vs[i]? = some v → ∃ d, ds[i]? = some d ∧ Rd P S h v d
  | _, _, .nil, _, _, e => by simp at e
  | _, _, .cons x _, 0, _, e => by simp at e; subst e; exact ⟨_, rfl, x⟩
  | _, _, .cons _ r, i + 1, _, e => by simpa using r.get' (i := i) (by simpa using e)
theorem RdAll.append : ∀ {vs ws : List Value} {ds es : List PyData}, RdAll P S h vs ds → RdAll P S h ws es → RdAll P S h (vs ++ ws) (ds ++ es)
  | _, _, _, _, .nil, k => k
  | _, _, _, _, .cons x r, k => .cons x (r.append k)
theorem RdAll.take : ∀ {vs : List Value} {ds : List PyData}, RdAll P S h vs ds → ∀ n : Nat, RdAll P S h (vs.take n) (ds.take n)
  | _, _, _, 0 => by simpa using .nil
  | _, _, .nil, _ + 1 => by simpa using .nil
  | _, _, .cons x r, n + 1 => .cons x (r.take n)
theorem RdAll.drop : ∀ {vs : List Value} {ds : List PyData}, RdAll P S h vs ds → ∀ n : Nat, RdAll P S h (vs.drop n) (ds.drop n)
  | _, _, k, 0 => k
  | _, _, .nil, _ + 1 => by simpa using .nil
  | _, _, .cons _ r, n + 1 => r.drop n

mutual
theorem Rd.reads : ∀ {v : Value} {d : PyData}, Rd P S h v d → d.canLay0 = true → ∃ as, Reads h v d as
  | _, _, .none, _ => ⟨_, .none⟩
  | _, _, .bool b, _ => ⟨_, .bool b⟩
  | _, _, .int i t, _ => ⟨_, .int i t⟩
  | _, _, .str x t, _ => ⟨_, .str x t⟩
  | _, _, .tstr, e => by simp [tstrD, PyData.canLay0] at e
  | _, _, .tbyt, e => by simp [tbytD, PyData.canLay0] at e
  | _, _, .addr a, e => by simp [addrD, PyData.canLay0] at e
  | _, _, .list _ g c e r, l => let ⟨_, q⟩ := RdAll.reads r (by simpa [PyData.canLay0] using l); ⟨_, .list g c e q⟩
  | _, _, .tuple _ g c e r, l => let ⟨_, q⟩ := RdAll.reads r (by simpa [PyData.canLay0] using l); ⟨_, .tuple g c e q⟩
  | _, _, .dict _ g r, e => by simp [PyData.canLay0] at e
theorem RdAll.reads : ∀ {vs : List Value} {ds : List PyData}, RdAll P S h vs ds → PyData.canLayAll0 ds = true → ∃ as, ReadsAll h vs ds as
  | _, _, .nil, _ => ⟨_, .nil⟩
  | _, _, .cons x r, l => by
    simp only [PyData.canLayAll0, Bool.and_eq_true] at l
    obtain ⟨_, q⟩ := Rd.reads x l.1
    obtain ⟨_, q'⟩ := RdAll.reads r l.2
    exact ⟨_, .cons q q'⟩
end
end
end Mine
end

section
open PySem PySem.W PySem.Calls PyProof.Rows PySem.Spec
set_option maxRecDepth 100000
namespace Mine

noncomputable def Room (A : Around) (n : Nat) : Prop := A.handled = none ∧ A.depth + n < 1000 ∧ A.units + 20 * n + 100 < 9900
theorem Room.le {A : Around} {n m : Nat} (r : Room A n) (h : m ≤ n) : Room A m := ⟨r.1, by have := r.2.1; omega, by have := r.2.2; omega⟩
theorem Room.deeper {A : Around} {n : Nat} {env : Env} (r : Room A (n + 1)) : Room (A.deeper env) n :=
  ⟨r.1, by have := r.2.1; show A.depth + 1 + n < 1000; omega, by have := r.2.2; show A.units + 3 + 20 * n + 100 < 9900; omega⟩
theorem Room.in1 {A : Around} {n : Nat} (r : Room A (n + 1)) : Room A.in1 n :=
  ⟨r.1, by have := r.2.1; show A.depth + n < 1000; omega, by have := r.2.2; show A.units + 1 + 20 * n + 100 < 9900; omega⟩
theorem Room.depth {A : Around} {n : Nat} (r : Room A n) : A.depth < recursionLimit := by have := r.2.1; show A.depth < 1000; omega
theorem Room.units {A : Around} {n : Nat} (r : Room A n) : A.units + 100 < cLine := by have := r.2.2; show A.units + 100 < 9900; omega

-- what the whole proof holds fixed
structure Cx where
  prog : Program
  w : World
  p : Program
  loose : List Str
  mean : ExcName → Option Value
  mg : Str → Option Value
  mb : Str → Option Value
  K : Frag
noncomputable abbrev Cx.M (c : Cx) : Model := model c.prog c.w
noncomputable abbrev Cx.P (c : Cx) : Params := c.w.params
structure Cx.Good (c : Cx) (h : Heap) : Prop where
  T : Top c.p c.loose c.mean c.mg c.mb h
  K : c.K.In h
theorem Cx.Good.keeps {c : Cx} {h h' : Heap} (g : c.Good h) (k : KeepH h h') : c.Good h' := ⟨g.T.keeps k, g.K.keeps k⟩

noncomputable def SB (S : Addr → Prop) (h : Heap) : Prop := ∀ a, S a → ∃ o, h.get? a = some o
theorem SB.keep {S : Addr → Prop} {h h' : Heap} (x : SB S h) (k : KeepH h h') : SB S h' := fun a ha => let ⟨o, e⟩ := x a ha; ⟨o, k _ _ e⟩
theorem get_size_none (h : Heap) : h.get? h.objs.size = none := by
  cases e : h.get? h.objs.size with
  | none => rfl
  | some o => exact absurd (Heap.lt_size e) (Nat.lt_irrefl _)
theorem SB.size {S : Addr → Prop} {h : Heap} (x : SB S h) : ¬ S h.objs.size := fun q => by
  obtain ⟨o, e⟩ := x _ q
  rw [get_size_none] at e; cases e

theorem Keeps.refl' {s : Shared} : Keeps s s := ⟨s.heap, s.toks, rfl, fun _ _ e => e⟩
theorem Keeps.h {s s' : Shared} (k : Keeps s s') : KeepH s.heap s'.heap := by obtain ⟨h', tk, rfl, q⟩ := k; exact q
theorem Keeps.trans' {a b d : Shared} (x : Keeps a b) (y : Keeps b d) : Keeps a d := by
  obtain ⟨h', tk, rfl, q⟩ := x
  obtain ⟨h'', tk', rfl, q'⟩ := y
  exact ⟨h'', tk', rfl, fun b o e => q' b o (q b o e)⟩
theorem Keeps.tok {s : Shared} (t : Nat) : Keeps s { s with toks := t } := ⟨s.heap, t, rfl, fun _ _ e => e⟩
theorem Keeps.push {s : Shared} (o : Obj) : Keeps s { s with heap := s.heap.push o } := ⟨_, s.toks, rfl, keepH_push o⟩

noncomputable def Post (c : Cx) (S : Addr → Prop) (s : Shared) (d : PyData) (v : Value) (s' : Shared) : Prop := Keeps s s' ∧ Rd c.P S s'.heap v d

-- the names of a frame
noncomputable def Binds (c : Cx) (env : Env) (S : Addr → Prop) (h : Heap) (σ : List (Str × PyData)) : Prop :=
  ∀ x d, σ.lookup x = some d → ∃ v, Rd c.P S h v d ∧ Looks c.M h (loadName env x) v
theorem Binds.keep {c : Cx} {env : Env} {S : Addr → Prop} {h h' : Heap} {σ : List (Str × PyData)} (b : Binds c env S h σ) (k : KeepH h h') : Binds c env S h' σ :=
  fun x d e => let ⟨v, r, l⟩ := b x d e; ⟨v, r.keep k, l.keeps k⟩

-- the plain part of a frame's environment
structure Plain (env : Env) : Prop where
  kind : env.scope.kind = .function
  g : env.globals = mainGlobals
  b : env.builtins = builtinsNs

-- the frame env in h: its names σ
structure Fr0 (c : Cx) (env : Env) (S : Addr → Prop) (σ : List (Str × PyData)) (h : Heap) : Prop where
  pl : Plain env
  names : ∃ m, h.Ns env.locals m ∧ ∀ x d, σ.lookup x = some d → ∃ v, Rd c.P S h v d ∧
    ((env.kindOf x = some .local ∧ m x = some v) ∨ (env.kindOf x = some .cell ∧ ∃ a, env.cells.lookup x = some a ∧ h.IsCell a (some v)))
  cells : ∀ p ∈ env.cells, ∃ o, h.IsCell p.2 o
  apart : env.cells.Pairwise fun p q => p.2 ≠ q.2
  loc : ∀ p ∈ env.cells, p.2 ≠ env.locals
theorem Fr0.binds {c : Cx} {env : Env} {S : Addr → Prop} {σ : List (Str × PyData)} {h : Heap} (f : Fr0 c env S σ h) : Binds c env S h σ := fun x d e => by
  obtain ⟨m, ns, hv⟩ := f.names
  obtain ⟨v, r, q⟩ := hv x d e
  refine ⟨v, r, ?_⟩
  rcases q with ⟨hk, hm⟩ | ⟨hk, a, ha, hc⟩
  · exact fun A Q E s k hq => wpAny_loadName_local f.pl.kind hk (ns.keeps k) hm hq
  · exact fun A Q E s k hq => wpAny_loadName_cell f.pl.kind hk ha (hc.keeps k) hq
theorem Fr0.move {c : Cx} {env : Env} {S S' : Addr → Prop} {σ : List (Str × PyData)} {h h' : Heap} (f : Fr0 c env S σ h) (hk : ∀ a o, ¬ S a → h.get? a = some o → ¬ S' a ∧ h'.get? a = some o) (hl : ∀ o, h.get? env.locals = some o → h'.get? env.locals = some o)
    (hc : ∀ p ∈ env.cells, ∀ o, h.get? p.2 = some o → h'.get? p.2 = some o) : Fr0 c env S' σ h' := by
  obtain ⟨m, ns, hv⟩ := f.names
  refine ⟨f.pl, ⟨m, ns.at' hl, fun x d e => ?_⟩, fun p hp => ?_, f.apart, f.loc⟩
  · obtain ⟨v, r, q⟩ := hv x d e
    refine ⟨v, r.move hk, q.imp id fun ⟨k, a, ha, o, ho, hd⟩ => ⟨k, a, ha, o, hc _ (PySem.mem_of_lookup ha) o ho, hd⟩⟩
  · obtain ⟨o, ob, ho, hd⟩ := f.cells p hp
    exact ⟨o, ob, hc p hp ob ho, hd⟩
theorem Fr0.keep {c : Cx} {env : Env} {S : Addr → Prop} {σ : List (Str × PyData)} {h h' : Heap} (f : Fr0 c env S σ h) (k : KeepH h h') : Fr0 c env S σ h' :=
  f.move (fun _ _ n e => ⟨n, k _ _ e⟩) (fun _ e => k _ _ e) fun _ _ _ e => k _ _ e
theorem Fr0.sub {c : Cx} {env : Env} {S : Addr → Prop} {σ σ' : List (Str × PyData)} {h : Heap} (f : Fr0 c env S σ h) (hs : ∀ x d, σ'.lookup x = some d → σ.lookup x = some d) : Fr0 c env S σ' h :=
  let ⟨m, ns, hv⟩ := f.names; ⟨f.pl, ⟨m, ns, fun x d e => hv x d (hs x d e)⟩, f.cells, f.apart, f.loc⟩

structure At (c : Cx) (env : Env) (n : Nat) (σ : List (Str × PyData)) (A : Around) (S : Addr → Prop) (s : Shared) : Prop where
  room : Room A n
  good : c.Good s.heap
  sb : SB S s.heap
  fr : Fr0 c env S σ s.heap
theorem At.keep {c : Cx} {env : Env} {n : Nat} {σ : List (Str × PyData)} {A : Around} {S : Addr → Prop} {s s' : Shared} (a : At c env n σ A S s) (k : Keeps s s') : At c env n σ A S s' :=
  ⟨a.room, a.good.keeps (Keeps.h k), a.sb.keep (Keeps.h k), a.fr.keep (Keeps.h k)⟩

noncomputable def Ev (c : Cx) (env : Env) (n : Nat) (σ : List (Str × PyData)) (e : Expr) (d : PyData) : Prop :=
  ∀ A S s E, At c env n σ A S s → wpAny c.M A (eval e env) (Post c S s d) E s
noncomputable def EvL (c : Cx) (env : Env) (n : Nat) (σ : List (Str × PyData)) (es : List Expr) (ds : List PyData) : Prop :=
  ∀ A S s E pos, At c env n σ A S s → wpAny c.M A (spliced (backTo pos (starEach es env))) (fun vs s' => Keeps s s' ∧ RdAll c.P S s'.heap vs ds) E s
noncomputable def EvT (c : Cx) (env : Env) (n : Nat) (σ : List (Str × PyData)) (e : Expr) (b : Bool) : Prop :=
  ∀ A S s E, At c env n σ A S s → wpAny c.M A (isTrue e env (eval e env)) (fun r s' => r = b ∧ Keeps s s') E s
noncomputable def CallsTo (c : Cx) (f : Value) (n : Nat) (ds : List PyData) (r : PyData) : Prop :=
  ∀ A S s vs E, Room A n → c.Good s.heap → SB S s.heap → RdAll c.P S s.heap vs ds → wpAny c.M A (call f vs) (Post c S s r) E s

section
variable {c : Cx} {env : Env} {n : Nat} {σ : List (Str × PyData)} {A : Around} {S : Addr → Prop} {s : Shared} {E : Value → Shared → Prop}

theorem ev_int {i k pos} : Ev c env n σ (.Constant (.int i) k pos) (.int i) := fun _ _ s _ _ => wpAny_Constant_int ⟨Keeps.tok _, .int _ _⟩
theorem ev_str {x k pos} : Ev c env n σ (.Constant (.str x) k pos) (.str x) := fun _ _ s _ _ => Constant_str ⟨Keeps.tok _, .str _ _⟩
theorem ev_bool {b k pos} : Ev c env n σ (.Constant (.bool b) k pos) (.bool b) := fun _ _ s _ _ => by
  rw [eval_Constant]; exact wpAny_pure ⟨Keeps.refl', .bool _⟩
theorem ev_name {x pos d} (h : σ.lookup x = some d) (hd : (x == ("__debug__" : Str)) = false := by decide) : Ev c env n σ (.Name x pos) d := fun _ _ s _ a => by
  obtain ⟨v, r, l⟩ := a.fr.binds x d h
  exact wpAny_Name (l.here ⟨Keeps.refl', r⟩) hd

theorem evL_nil : EvL c env n σ [] [] := fun _ _ s _ _ _ => spliced_nil ⟨Keeps.refl', .nil⟩
theorem evL_cons {e es d ds} (h : Ev c env n σ e d) (t : EvL c env n σ es ds) (hs : starEach (e :: es) env = (false, eval e env) :: starEach es env := by rfl) : EvL c env n σ (e :: es) (d :: ds) :=
  fun A S s E pos a => by
    rw [hs]
    refine spliced_cons (wpAny_mono (h A S s E a) (fun v s₁ h₁ => ?_) fun _ _ x => x)
    refine wpAny_mono (t A S s₁ E pos (a.keep h₁.1)) (fun vs s₂ h₂ => ?_) fun _ _ x => x
    exact ⟨Keeps.trans' h₁.1 h₂.1, .cons (h₁.2.keep (Keeps.h h₂.1)) h₂.2⟩

theorem post_new {T : String} {data : Data} {d : PyData} (hr : Rd c.P S (s.heap.push { cls := .type T, data }) (.ref s.heap.objs.size) d) (hd : sizeOk data) : wpAny c.M A (newObj (.type T) data) (Post c S s d) E s :=
  wpAny_newObj_type ⟨Keeps.push _, hr⟩ hd

theorem new_list {vs : List Value} {ds : List PyData} (sb : SB S s.heap) (r : RdAll c.P S s.heap vs ds) (hz : ds.length ≤ sizeLine) : wpAny c.M A (newList vs) (Post c S s (.list ds)) E s := by
  refine post_new (.list sb.size (Heap.get?_push_size _ rfl) rfl rfl (by simpa using r.keep (keepH_push _))) ?_
  show vs.toArray.size ≤ sizeLine
  rw [List.size_toArray, r.length]; exact hz
theorem new_tuple {vs : List Value} {ds : List PyData} (sb : SB S s.heap) (r : RdAll c.P S s.heap vs ds) (hz : ds.length ≤ sizeLine) : wpAny c.M A (newTuple vs) (Post c S s (.tuple ds)) E s := by
  refine post_new (.tuple sb.size (Heap.get?_push_size _ rfl) rfl rfl (by simpa using r.keep (keepH_push _))) ?_
  show vs.toArray.size ≤ sizeLine
  rw [List.size_toArray, r.length]; exact hz

theorem Post.from {s₁ s₂ : Shared} {d : PyData} {v : Value} (k : Keeps s s₁) (p : Post c S s₁ d v s₂) : Post c S s d v s₂ := ⟨Keeps.trans' k p.1, p.2⟩

theorem ev_list {es ds pos} (h : EvL c env n σ es ds) (hz : ds.length ≤ sizeLine := by decide) : Ev c env n σ (.List es pos) (.list ds) := fun A S s E a =>
  List_ (wpAny_mono (h A S s E pos a) (fun _ _ h₁ => wpAny_mono (new_list (a.keep h₁.1).sb h₁.2 hz) (fun _ _ p => p.from h₁.1) fun _ _ x => x) fun _ _ x => x)
theorem ev_tuple {es ds k pos} (h : EvL c env n σ es ds) (hz : ds.length ≤ sizeLine := by decide) : Ev c env n σ (.Tuple es k pos) (.tuple ds) := fun A S s E a =>
  Tuple_ (wpAny_mono (h A S s E pos a) (fun _ _ h₁ => wpAny_mono (new_tuple (a.keep h₁.1).sb h₁.2 hz) (fun _ _ p => p.from h₁.1) fun _ _ x => x) fun _ _ x => x)

-- two operands, then an operation on their values
theorem ev_binop {l op r pos d₁ d₂ d} (h₁ : Ev c env n σ l d₁) (h₂ : Ev c env n σ r d₂)
    (h : ∀ A S s E v₁ v₂, At c env n σ A S s → Rd c.P S s.heap v₁ d₁ → Rd c.P S s.heap v₂ d₂ → wpAny c.M A (binaryOp op v₁ v₂) (Post c S s d) E s) : Ev c env n σ (.BinOp l op r pos) d := fun A S s E a =>
  wpAny_BinOp (wpAny_mono (h₁ A S s E a) (fun v₁ s₁ p₁ => wpAny_mono (h₂ A S s₁ E (a.keep p₁.1)) (fun v₂ s₂ p₂ =>
    wpAny_mono (h A S s₂ E v₁ v₂ ((a.keep p₁.1).keep p₂.1) (p₁.2.keep (Keeps.h p₂.1)) p₂.2) (fun _ _ p => (p.from p₂.1).from p₁.1) fun _ _ x => x) fun _ _ x => x) fun _ _ x => x)

theorem Rd.int_inv {P h v i} (r : Rd P S h v (.int i)) : ∃ t, v = .int i t := by cases r; exact ⟨_, rfl⟩
theorem Rd.str_inv {P h v x} (r : Rd P S h v (.str x)) : ∃ t, v = .str x t := by cases r; exact ⟨_, rfl⟩
theorem Rd.bool_inv {P h v b} (r : Rd P S h v (.bool b)) : v = .bool b := by cases r; rfl

theorem ev_add_int {l r pos i j} (h₁ : Ev c env n σ l (.int i)) (h₂ : Ev c env n σ r (.int j)) : Ev c env n σ (.BinOp l .Add r pos) (.int (i + j)) :=
  ev_binop h₁ h₂ fun A S s E v₁ v₂ a r₁ r₂ => by
    obtain ⟨t, rfl⟩ := r₁.int_inv
    obtain ⟨u, rfl⟩ := r₂.int_inv
    exact add_int ⟨Keeps.tok _, .int _ _⟩
end
end Mine
end

section
open PySem PySem.W PySem.Calls PyProof.Rows PySem.Spec
set_option maxRecDepth 100000
namespace Mine
section
variable {c : Cx} {env : Env} {n : Nat} {σ : List (Str × PyData)} {A : Around} {S : Addr → Prop} {s : Shared} {E : Value → Shared → Prop}

theorem ev_mod_int {l r pos i j} (h₁ : Ev c env n σ l (.int i)) (h₂ : Ev c env n σ r (.int j)) (hj : j ≠ 0) : Ev c env n σ (.BinOp l .Mod r pos) (.int (i.fmod j)) :=
  ev_binop h₁ h₂ fun A S s E v₁ v₂ a r₁ r₂ => by
    obtain ⟨t, rfl⟩ := r₁.int_inv
    obtain ⟨u, rfl⟩ := r₂.int_inv
    exact mod_int' hj ⟨Keeps.tok _, .int _ _⟩
theorem ev_fdiv_int {l r pos i j} (h₁ : Ev c env n σ l (.int i)) (h₂ : Ev c env n σ r (.int j)) (hj : j ≠ 0) (hp : Builtin.divisionGoesByPylong i j = false) : Ev c env n σ (.BinOp l .FloorDiv r pos) (.int (i.fdiv j)) :=
  ev_binop h₁ h₂ fun A S s E v₁ v₂ a r₁ r₂ => by
    obtain ⟨t, rfl⟩ := r₁.int_inv
    obtain ⟨u, rfl⟩ := r₂.int_inv
    exact floordiv_int hj ⟨Keeps.tok _, .int _ _⟩ (Or.inl hp)
theorem ev_add_str {l r pos x y} (h₁ : Ev c env n σ l (.str x)) (h₂ : Ev c env n σ r (.str y)) (hz : x.length + y.length ≤ sizeLine) : Ev c env n σ (.BinOp l .Add r pos) (.str (x ++ y)) :=
  ev_binop h₁ h₂ fun A S s E v₁ v₂ a r₁ r₂ => by
    obtain ⟨t, rfl⟩ := r₁.str_inv
    obtain ⟨u, rfl⟩ := r₂.str_inv
    exact add_str (fun t' tk => ⟨Keeps.tok _, .str _ _⟩) hz
theorem ev_mul_str {l r pos x i} (h₁ : Ev c env n σ l (.str x)) (h₂ : Ev c env n σ r (.int i)) (hok : MulOk x i) : Ev c env n σ (.BinOp l .Mult r pos) (.str (Txt.mul x i)) :=
  ev_binop h₁ h₂ fun A S s E v₁ v₂ a r₁ r₂ => by
    obtain ⟨t, rfl⟩ := r₁.str_inv
    obtain ⟨u, rfl⟩ := r₂.int_inv
    exact SB.mul hok (fun t' tk => ⟨Keeps.tok _, .str _ _⟩)

theorem Rd.list_inv {P h v xs} (r : Rd P S h v (.list xs)) : ∃ a vs, v = .ref a ∧ h.IsList a vs.toArray ∧ RdAll P S h vs xs ∧ ¬ S a := by
  cases r with
  | list n g e d q => exact ⟨_, _, rfl, ⟨_, g, e, _, by simpa using d⟩, q, n⟩
theorem Rd.tuple_inv {P h v xs} (r : Rd P S h v (.tuple xs)) : ∃ a vs, v = .ref a ∧ IsTup h a vs.toArray ∧ RdAll P S h vs xs ∧ ¬ S a := by
  cases r with
  | tuple n g e d q => exact ⟨_, _, rfl, ⟨_, g, e, _, by simpa using d⟩, q, n⟩

theorem add_listsR {v₁ v₂ : Value} {xs ys : List PyData} (sb : SB S s.heap) (r₁ : Rd c.P S s.heap v₁ (.list xs)) (r₂ : Rd c.P S s.heap v₂ (.list ys)) (hz : xs.length + ys.length ≤ sizeLine) :
    wpAny c.M A (binaryOp .Add v₁ v₂) (Post c S s (.list (xs ++ ys))) E s := by
  obtain ⟨l, vs, rfl, hl, q₁, _⟩ := r₁.list_inv
  obtain ⟨b, ws, rfl, hb, q₂, _⟩ := r₂.list_inv
  obtain ⟨⟨cls, dd, data, sl⟩, ho, hc, m, hd⟩ := id hl
  obtain ⟨⟨cls2, dd2, data2, sl2⟩, ho2, hc2, m2, hd2⟩ := id hb
  simp only at hc hd hc2 hd2
  subst hc hd hc2 hd2
  have e : vs.toArray ++ ws.toArray = (vs ++ ws).toArray := by simp
  refine concat_meets ⟨_, ho, rfl⟩ ⟨_, ho2, rfl⟩ noFill_list_add seq_list_add PySem.F.slot_list_add PySem.F.entry_list_add (PySem.F.args_list_add_2 _ _) (list_addW l b vs.toArray ws.toArray m m2 dd dd2 sl sl2 (by simpa [q₁.length, q₂.length] using hz)) ⟨ho, ho2, ?_⟩
  rw [e]
  exact ⟨Keeps.push _, .list sb.size (Heap.get?_push_size _ rfl) rfl rfl (by simpa using (q₁.append q₂).keep (keepH_push _))⟩
theorem ev_add_list {l r pos xs ys} (h₁ : Ev c env n σ l (.list xs)) (h₂ : Ev c env n σ r (.list ys)) (hz : xs.length + ys.length ≤ sizeLine) : Ev c env n σ (.BinOp l .Add r pos) (.list (xs ++ ys)) :=
  ev_binop h₁ h₂ fun A S s E v₁ v₂ a r₁ r₂ => add_listsR a.sb r₁ r₂ hz

-- a comparison
theorem ev_cmp {l op r pos d₁ d₂ b} (h₁ : Ev c env n σ l d₁) (h₂ : Ev c env n σ r d₂)
    (h : ∀ A S s E v₁ v₂, At c env n σ A S s → Rd c.P S s.heap v₁ d₁ → Rd c.P S s.heap v₂ d₂ → wpAny c.M A (compareOp op v₁ v₂) (fun v s' => v = .bool b ∧ Keeps s s') E s)
    (hm : behindInMarks op r = false := by with_unfolding_all rfl) : Ev c env n σ (.Compare l [op] [r] pos) (.bool b) := fun A S s E a =>
  wpAny_Compare1 (wpAny_mono (h₁ A S s E a) (fun v₁ s₁ p₁ => wpAny_mono (h₂ A S s₁ E (a.keep p₁.1)) (fun v₂ s₂ p₂ =>
    wpAny_mono (h A S s₂ E v₁ v₂ ((a.keep p₁.1).keep p₂.1) (p₁.2.keep (Keeps.h p₂.1)) p₂.2) (fun v s₃ p => by
      obtain ⟨rfl, k⟩ := p
      exact ⟨Keeps.trans' p₁.1 (Keeps.trans' p₂.1 k), .bool _⟩) fun _ _ x => x) fun _ _ x => x) fun _ _ x => x) hm
theorem evT_cmp {l op r pos d₁ d₂ b} (h₁ : Ev c env n σ l d₁) (h₂ : Ev c env n σ r d₂)
    (h : ∀ A S s E v₁ v₂, At c env n σ A S s → Rd c.P S s.heap v₁ d₁ → Rd c.P S s.heap v₂ d₂ → wpAny c.M A (compareOp op v₁ v₂) (fun v s' => v = .bool b ∧ Keeps s s') E s)
    (hm : behindInMarks op r = false := by with_unfolding_all rfl) : EvT c env n σ (.Compare l [op] [r] pos) b := fun A S s E a =>
  wpAny_isTrue_Compare1 (wpAny_mono (h₁ A S s E a) (fun v₁ s₁ p₁ => wpAny_mono (h₂ A S s₁ E (a.keep p₁.1)) (fun v₂ s₂ p₂ =>
    wpAny_mono (h A S s₂ E v₁ v₂ ((a.keep p₁.1).keep p₂.1) (p₁.2.keep (Keeps.h p₂.1)) p₂.2) (fun v s₃ p => by
      obtain ⟨rfl, k⟩ := p
      exact wpAny_truthy_bool ⟨rfl, Keeps.trans' p₁.1 (Keeps.trans' p₂.1 k)⟩) fun _ _ x => x) fun _ _ x => x) fun _ _ x => x) hm

-- what an operator of comparison says of two data
noncomputable def CmpIs (c : Cx) (op : CmpOp) (d₁ d₂ : PyData) (b : Bool) : Prop :=
  ∀ A S s E v₁ v₂, A.units + 64 < cLine → Rd c.P S s.heap v₁ d₁ → Rd c.P S s.heap v₂ d₂ → wpAny c.M A (compareOp op v₁ v₂) (fun v s' => v = .bool b ∧ Keeps s s') E s
theorem ev_cmpIs {l op r pos d₁ d₂ b} (h₁ : Ev c env n σ l d₁) (h₂ : Ev c env n σ r d₂) (h : CmpIs c op d₁ d₂ b) (hm : behindInMarks op r = false := by with_unfolding_all rfl) :
    Ev c env n σ (.Compare l [op] [r] pos) (.bool b) := ev_cmp h₁ h₂ (fun A S s E v₁ v₂ a => h A S s E v₁ v₂ (by have := a.room.units; omega)) hm
theorem evT_cmpIs {l op r pos d₁ d₂ b} (h₁ : Ev c env n σ l d₁) (h₂ : Ev c env n σ r d₂) (h : CmpIs c op d₁ d₂ b) (hm : behindInMarks op r = false := by with_unfolding_all rfl) :
    EvT c env n σ (.Compare l [op] [r] pos) b := evT_cmp h₁ h₂ (fun A S s E v₁ v₂ a => h A S s E v₁ v₂ (by have := a.room.units; omega)) hm

theorem cmp_eq {d₁ d₂} (h₁ : SeqAt.shaped d₁ = true) (h₂ : SeqAt.shaped d₂ = true) : CmpIs c .Eq d₁ d₂ (PyData.eqv d₁ d₂) := fun A S s E v₁ v₂ hu r₁ r₂ => by
  obtain ⟨_, q₁⟩ := r₁.reads (SeqAt.canLay_of_shaped h₁)
  obtain ⟨_, q₂⟩ := r₂.reads (SeqAt.canLay_of_shaped h₂)
  exact SeqAt.compareEq_shaped q₁ q₂ h₁ h₂ hu ⟨rfl, Keeps.refl'⟩
theorem cmp_ne {d₁ d₂} (h₁ : SeqAt.shaped d₁ = true) (h₂ : SeqAt.shaped d₂ = true) : CmpIs c .NotEq d₁ d₂ (!PyData.eqv d₁ d₂) := fun A S s E v₁ v₂ hu r₁ r₂ => by
  obtain ⟨_, q₁⟩ := r₁.reads (SeqAt.canLay_of_shaped h₁)
  obtain ⟨_, q₂⟩ := r₂.reads (SeqAt.canLay_of_shaped h₂)
  exact SeqAt.compareNe_shaped q₁ q₂ h₁ h₂ hu ⟨rfl, Keeps.refl'⟩
theorem cmp_lt {i j} : CmpIs c .Lt (.int i) (.int j) (decide (i < j)) := fun A S s E v₁ v₂ hu r₁ r₂ => by
  obtain ⟨t, rfl⟩ := r₁.int_inv
  obtain ⟨u, rfl⟩ := r₂.int_inv
  exact PyProof.Rows.lt_int ⟨rfl, Keeps.refl'⟩
theorem cmp_gt {i j} : CmpIs c .Gt (.int i) (.int j) (decide (j < i)) := fun A S s E v₁ v₂ hu r₁ r₂ => by
  obtain ⟨t, rfl⟩ := r₁.int_inv
  obtain ⟨u, rfl⟩ := r₂.int_inv
  exact PyProof.Rows.gt_int ⟨rfl, Keeps.refl'⟩
theorem cmp_ge {i j} : CmpIs c .GtE (.int i) (.int j) (decide (j ≤ i)) := fun A S s E v₁ v₂ hu r₁ r₂ => by
  obtain ⟨t, rfl⟩ := r₁.int_inv
  obtain ⟨u, rfl⟩ := r₂.int_inv
  exact PyProof.Rows.ge_int ⟨rfl, Keeps.refl'⟩
theorem depthAll_le {xs : List PyData} (h : SeqAt.shaped (.list xs) = true) : PyData.depthAll xs ≤ 63 := by
  have := SeqAt.depth_of_shaped h
  simp only [PyData.depth] at this; omega
theorem cmp_in_list {xs d} (h₁ : SeqAt.shaped (.list xs) = true) (h₂ : SeqAt.shaped d = true) : CmpIs c .In d (.list xs) (xs.any fun y => PyData.eqv y d) := fun A S s E v₁ v₂ hu r₁ r₂ => by
  obtain ⟨_, q₁⟩ := r₁.reads (SeqAt.canLay_of_shaped h₂)
  obtain ⟨_, q₂⟩ := r₂.reads (SeqAt.canLay_of_shaped h₁)
  have := depthAll_le h₁
  refine SeqAt.in_list_reads q₂ q₁ (by simpa [PyData.canLay0] using SeqAt.canLay_of_shaped h₁) (SeqAt.canLay_of_shaped h₂) ?_ ⟨rfl, Keeps.refl'⟩
  have : min (PyData.depthAll xs) d.depth ≤ PyData.depthAll xs := Nat.min_le_left _ _
  omega
theorem cmp_notIn_tuple {xs d} (h₁ : SeqAt.shaped (.list xs) = true) (h₂ : SeqAt.shaped d = true) : CmpIs c .NotIn d (.tuple xs) (!xs.any fun y => PyData.eqv y d) := fun A S s E v₁ v₂ hu r₁ r₂ => by
  obtain ⟨_, q₁⟩ := r₁.reads (SeqAt.canLay_of_shaped h₂)
  obtain ⟨_, q₂⟩ := r₂.reads (by have := SeqAt.canLay_of_shaped h₁; simpa [PyData.canLay0] using this)
  have := depthAll_le h₁
  refine SeqAt.notIn_tuple_reads q₂ q₁ (by simpa [PyData.canLay0] using SeqAt.canLay_of_shaped h₁) (SeqAt.canLay_of_shaped h₂) ?_ ⟨rfl, Keeps.refl'⟩
  have : min (PyData.depthAll xs) d.depth ≤ PyData.depthAll xs := Nat.min_le_left _ _
  omega

-- a place of a list or a tuple
theorem ev_sub {value slice pos d₁ d₂ d} (h₁ : Ev c env n σ value d₁) (h₂ : Ev c env n σ slice d₂)
    (h : ∀ A S s E v₁ v₂, At c env n σ A S s → Rd c.P S s.heap v₁ d₁ → Rd c.P S s.heap v₂ d₂ → wpAny c.M A (subscriptTail value slice v₁ v₂) (Post c S s d) E s) : Ev c env n σ (.Subscript value slice pos) d := fun A S s E a =>
  Subscript_ (wpAny_mono (h₁ A S s E a) (fun v₁ s₁ p₁ => wpAny_mono (h₂ A S s₁ E (a.keep p₁.1)) (fun v₂ s₂ p₂ =>
    wpAny_mono (h A S s₂ E v₁ v₂ ((a.keep p₁.1).keep p₂.1) (p₁.2.keep (Keeps.h p₂.1)) p₂.2) (fun _ _ p => (p.from p₂.1).from p₁.1) fun _ _ x => x) fun _ _ x => x) fun _ _ x => x)
theorem ev_item_list {value slice pos xs d} {k : Int} (h₁ : Ev c env n σ value (.list xs)) (h₂ : Ev c env n σ slice (.int k)) (h0 : 0 ≤ k) (hx : xs[k.toNat]? = some d) (hz : k < 2 ^ 63)
    (hs : ∀ o i, subscripted slice false o i = operate [o, i] (getItem o i) := by intro _ _; rfl) : Ev c env n σ (.Subscript value slice pos) d :=
  ev_sub h₁ h₂ fun A S s E v₁ v₂ a r₁ r₂ => by
    obtain ⟨l, vs, rfl, hl, q₁, _⟩ := r₁.list_inv
    obtain ⟨u, rfl⟩ := r₂.int_inv
    obtain ⟨v, hv, r⟩ := q₁.get hx
    exact tail_any hl.typeIs slot_list_getitem.lookup (wpAny_getItem_list hl h0 hz (by simpa using hv) ⟨Keeps.refl', r⟩) (hs _ _)
theorem ev_item_tuple {value slice pos xs d} {k : Int} (h₁ : Ev c env n σ value (.tuple xs)) (h₂ : Ev c env n σ slice (.int k)) (h0 : 0 ≤ k) (hx : xs[k.toNat]? = some d) (hz : k < 2 ^ 63)
    (hs : ∀ o i, subscripted slice false o i = operate [o, i] (getItem o i) := by intro _ _; rfl) : Ev c env n σ (.Subscript value slice pos) d :=
  ev_sub h₁ h₂ fun A S s E v₁ v₂ a r₁ r₂ => by
    obtain ⟨l, vs, rfl, hl, q₁, _⟩ := r₁.tuple_inv
    obtain ⟨u, rfl⟩ := r₂.int_inv
    obtain ⟨v, hv, r⟩ := q₁.get hx
    have hlt : k.toNat < vs.length := (List.getElem?_eq_some_iff.mp hv).1
    refine item_tupleT (j := k.toNat) hl (by omega) hz ?_ hv ⟨Keeps.refl', r⟩ (hs _ _)
    unfold seqIndex?
    simp only [show ¬ k < 0 by omega, if_false]
    rw [if_pos (by simp; omega)]
-- the last place of a list
theorem ev_item_last {value slice pos xs d} (h₁ : Ev c env n σ value (.list xs)) (h₂ : Ev c env n σ slice (.int (-1))) (hx : xs.getLast? = some d)
    (hs : ∀ o i, subscripted slice false o i = operate [o, i] (getItem o i) := by intro _ _; rfl) : Ev c env n σ (.Subscript value slice pos) d :=
  ev_sub h₁ h₂ fun A S s E v₁ v₂ a r₁ r₂ => by
    obtain ⟨l, vs, rfl, hl, q₁, _⟩ := r₁.list_inv
    obtain ⟨u, rfl⟩ := r₂.int_inv
    rw [List.getLast?_eq_getElem?] at hx
    obtain ⟨v, hv, r⟩ := q₁.get hx
    have hlt := (List.getElem?_eq_some_iff.mp hx).1
    have hlen := q₁.length
    have e : ((-1 : Int) + vs.toArray.size).toNat = xs.length - 1 := by rw [List.size_toArray, hlen]; omega
    exact tail_any hl.typeIs slot_list_getitem.lookup (wpAny_getItem_list_neg (x := v) hl (by decide) (by rw [List.size_toArray, hlen]; omega) (by decide) (by rw [e]; simpa using hv) ⟨Keeps.refl', r⟩) (hs _ _)
end
end Mine
end

section
open PySem PySem.W PySem.Calls PyProof.Rows PySem.Spec
set_option maxRecDepth 100000
namespace Mine
section
variable {c : Cx} {env : Env} {n : Nat} {σ : List (Str × PyData)} {A : Around} {S : Addr → Prop} {s : Shared} {E : Value → Shared → Prop}

theorem ev_neg {e pos i} (h : Ev c env n σ e (.int i)) : Ev c env n σ (.UnaryOp .USub e pos) (.int (-i)) := fun A S s E a => by
  show wpAny _ _ (do let v ← eval e env; standAt pos; holding [v] (unaryOp .USub v)) _ _ s
  refine wpAny_bind (wpAny_mono (h A S s E a) (fun v s₁ p => wpAny_bind (wpAny_standAt (wpAny_holding ?_))) fun _ _ x => x)
  obtain ⟨t, rfl⟩ := p.2.int_inv
  exact PyProof.Rows.neg_int ⟨Keeps.trans' p.1 (Keeps.tok _), .int _ _⟩

-- an optional bound of a slice
noncomputable def EvO (c : Cx) (env : Env) (n : Nat) (σ : List (Str × PyData)) : Option Expr → Option Int → Prop
  | none, none => True
  | some e, some k => Ev c env n σ e (.int k)
  | _, _ => False
theorem evO {o k} (h : EvO c env n σ o k) (a : At c env n σ A S s) : wpAny c.M A (valueOrNone (evalOpt o env)) (fun v s' => Keeps s s' ∧ IsPart v k) E s := by
  cases o with
  | none => cases k with
    | none => exact wpAny_pure ⟨Keeps.refl', .none⟩
    | some k => exact h.elim
  | some e => cases k with
    | none => exact h.elim
    | some k => exact wpAny_mono (h A S s E a) (fun v s₁ p => by obtain ⟨t, rfl⟩ := p.2.int_inv; exact ⟨p.1, .int _ _⟩) fun _ _ x => x

theorem ev_slice {value lo hi sp pos d d'} {kl kh : Option Int} (h₁ : Ev c env n σ value d) (hl : EvO c env n σ lo kl) (hh : EvO c env n σ hi kh)
    (h : ∀ A S s E v vl vu, At c env n σ A S s → Rd c.P S s.heap v d → IsPart vl kl → IsPart vu kh →
      wpAny c.M A (subscriptTail value (.Slice lo hi none sp) v (.ref s.heap.objs.size)) (Post c S s d') E { s with heap := s.heap.push { cls := .type "slice", data := .fields #[vl, vu, .none] } }) :
    Ev c env n σ (.Subscript value (.Slice lo hi none sp) pos) d' := fun A S s E a => by
  refine Subscript_ (wpAny_mono (h₁ A S s E a) (fun v s₁ p₁ => ?_) fun _ _ x => x)
  have a₁ := a.keep p₁.1
  show wpAny _ _ (do
    let l ← valueOrNone (evalOpt lo env)
    let u ← holding [l] (valueOrNone (evalOpt hi env))
    let s ← holding [l, u] (valueOrNone (evalOpt none env))
    newFields "slice" [l, u, s]) _ _ s₁
  refine wpAny_bind (wpAny_mono (evO hl a₁) (fun vl s₂ p₂ => wpAny_bind (wpAny_holding (wpAny_mono (evO hh (a₁.keep p₂.1)) (fun vu s₃ p₃ => ?_) fun _ _ x => x))) fun _ _ x => x)
  have a₃ := (a₁.keep p₂.1).keep p₃.1
  refine wpAny_bind (wpAny_holding (wpAny_pure (wpAny_newObj_type ?_)))
  refine wpAny_mono (h A S s₃ E v vl vu a₃ (p₁.2.keep (Keeps.h (Keeps.trans' p₂.1 p₃.1))) p₂.2 p₃.2) (fun _ _ p => ((p.from p₃.1).from p₂.1).from p₁.1) fun _ _ x => x

theorem ev_slice_list {value lo hi sp pos xs ys} {kl kh : Option Int} (h₁ : Ev c env n σ value (.list xs)) (hl : EvO c env n σ lo kl) (hh : EvO c env n σ hi kh) (hz : xs.length ≤ sizeLine)
    (hy : ∀ vs : List Value, vs.length = xs.length → ∃ a b, slicePick vs.toArray kl kh none = ((vs.drop a).take b).toArray ∧ ys = (xs.drop a).take b) : Ev c env n σ (.Subscript value (.Slice lo hi none sp) pos) (.list ys) :=
  ev_slice h₁ hl hh fun A S s E v vl vu a r pl pu => by
    obtain ⟨l, vs, rfl, hl, q, _⟩ := r.list_inv
    obtain ⟨i, j, e1, e2⟩ := hy vs q.length
    refine tail_any (ops := [.ref s.heap.objs.size, .ref l]) (Heap.IsList.typeIs (s := { s with heap := s.heap.push { cls := .type "slice", data := .fields #[vl, vu, .none] } }) (hl.push _)) list_getitem_lookup
      (wpAny_getItem_list_slice (hl.push _) (Heap.IsSliceOf.new ..) pl pu .none (by simp) ?_ (by rw [List.size_toArray, q.length]; exact hz)) (by with_unfolding_all rfl)
    have k1 : KeepH s.heap (s.heap.push { cls := .type "slice", data := .fields #[vl, vu, .none] }) := keepH_push _
    refine ⟨⟨_, s.toks, rfl, fun b o e => keepH_push _ _ _ (k1 b o e)⟩, ?_⟩
    have sb := a.sb.keep k1
    refine .list sb.size (Heap.get?_push_size _ rfl) rfl rfl ?_
    rw [e1, e2]
    simpa using ((q.keep k1).keep (keepH_push _)).drop i |>.take j
theorem ev_slice_upto {value hi sp pos xs} {k : Int} (h₁ : Ev c env n σ value (.list xs)) (hh : Ev c env n σ hi (.int k)) (h0 : 0 ≤ k) (hz : xs.length ≤ sizeLine) :
    Ev c env n σ (.Subscript value (.Slice none (some hi) none sp) pos) (.list (xs.take k.toNat)) :=
  ev_slice_list (kl := none) (kh := some k) h₁ trivial hh hz fun vs _ => ⟨0, k.toNat, by
    obtain ⟨j, rfl⟩ := Int.eq_ofNat_of_zero_le h0
    rw [slicePick_upto']; simp, by simp⟩
theorem ev_slice_butLast {value hi sp pos xs} (h₁ : Ev c env n σ value (.list xs)) (hh : Ev c env n σ hi (.int (-1))) (hz : xs.length ≤ sizeLine) :
    Ev c env n σ (.Subscript value (.Slice none (some hi) none sp) pos) (.list xs.dropLast) :=
  ev_slice_list (kl := none) (kh := some (-1)) h₁ trivial hh hz fun vs e => ⟨0, xs.length - 1, by
    rw [show (-1 : Int) = -((1 : Nat) : Int) by rfl, slicePick_butLast _ _ (Nat.le_refl _)]; simp [e], by simp [List.dropLast_eq_take]⟩
theorem ev_slice_last {value lo sp pos xs} (h₁ : Ev c env n σ value (.list xs)) (hl : Ev c env n σ lo (.int (-1))) (hz : xs.length ≤ sizeLine) :
    Ev c env n σ (.Subscript value (.Slice (some lo) none none sp) pos) (.list (xs.drop (xs.length - 1))) :=
  ev_slice_list (kl := some (-1)) (kh := none) h₁ hl trivial hz fun vs e => ⟨xs.length - 1, xs.length, by
    rw [show (-1 : Int) = -((1 : Nat) : Int) by rfl, slicePick_last _ _ (Nat.le_refl _)]
    simp only [List.size_toArray, e]
    rw [List.take_of_length_le (by simp [e])], by rw [List.take_of_length_le (by simp)]⟩

theorem keptKeepH (h : Heap) : KeptH (KeepH h) := fun h' ob k => fun b o e => keepH_push ob b o (k b o e)
theorem tail_item {value slice : Expr} {o i : Value} {ops : List Value} {Q : Value → Shared → Prop} (h : ItemOn c.M A E o i Q s)
    (hs : subscripted slice false o i = operate ops (getItem o i)) : wpAny c.M A (subscriptTail value slice o i) Q E s := by
  obtain ⟨T, id, hl, hT, hg⟩ := h
  exact tail_any hT hl hg hs
theorem ev_slice_str_upto {value hi sp pos x} {k : Int} (h₁ : Ev c env n σ value (.str x)) (hh : Ev c env n σ hi (.int k)) (hz : x.length ≤ sizeLine) :
    Ev c env n σ (.Subscript value (.Slice none (some hi) none sp) pos) (.str (Txt.slice x none (some k))) :=
  ev_slice (kl := none) (kh := some k) h₁ trivial hh fun A S s E v vl vu a r pl pu => by
    obtain ⟨t, rfl⟩ := r.str_inv
    cases pl; cases pu
    exact tail_item (ops := [.ref s.heap.objs.size, .str x t]) (SBH.sliceItem_ns (keptKeepH s.heap) (fun _ _ e => e) (fun h' t' tk kp => ⟨⟨h', tk, rfl, kp⟩, .str _ _⟩) hz) (by with_unfolding_all rfl)
theorem ev_slice_str_from {value lo sp pos x} {k : Int} (h₁ : Ev c env n σ value (.str x)) (hl : Ev c env n σ lo (.int k)) (hz : x.length ≤ sizeLine) :
    Ev c env n σ (.Subscript value (.Slice (some lo) none none sp) pos) (.str (Txt.slice x (some k) none)) :=
  ev_slice (kl := some k) (kh := none) h₁ hl trivial fun A S s E v vl vu a r pl pu => by
    obtain ⟨t, rfl⟩ := r.str_inv
    cases pl; cases pu
    exact tail_item (ops := [.ref s.heap.objs.size, .str x t]) (SBH.sliceItem_sn (keptKeepH s.heap) (fun _ _ e => e) (fun h' t' tk kp => ⟨⟨h', tk, rfl, kp⟩, .str _ _⟩) hz) (by with_unfolding_all rfl)

-- a callee: a value that is no datum
noncomputable def EvV (c : Cx) (env : Env) (n : Nat) (σ : List (Str × PyData)) (e : Expr) (v : Value) : Prop :=
  ∀ A S s E, At c env n σ A S s → wpAny c.M A (eval e env) (fun v' s' => v' = v ∧ s' = s) E s

theorem evV_global {x pos v} (pl : Plain env) (hx : env.kindOf x = some .globalImplicit) (hv : c.mg x = some v) (hd : (x == ("__debug__" : Str)) = false := by decide) : EvV c env n σ (.Name x pos) v := fun A S s E a =>
  Name_function_global pl.kind hx (loadGlobal_global (by rw [pl.g]; exact a.good.T.g) hv ⟨rfl, rfl⟩) hd
theorem evV_builtin {x pos v} (pl : Plain env) (hx : env.kindOf x = some .globalImplicit) (hm : c.mg x = none) (hv : bootBuiltins x = some v) (hn : x ≠ "__name__" := by decide) (hd : (x == ("__debug__" : Str)) = false := by decide) :
    EvV c env n σ (.Name x pos) v := fun A S s E a =>
  Name_function_global pl.kind hx (loadGlobal_builtin (by rw [pl.g]; exact a.good.T.g) hm (by rw [pl.b]; exact a.good.T.b) ((a.good.T.builtins x hn).trans hv) ⟨rfl, rfl⟩) hd
-- a name of the module's that holds a plain datum
theorem ev_global {x pos d} (pl : Plain env) (hx : env.kindOf x = some .globalImplicit) (hv : ∃ v, c.mg x = some v ∧ ∀ S h, Rd c.P S h v d) (hd : (x == ("__debug__" : Str)) = false := by decide) : Ev c env n σ (.Name x pos) d := fun A S s E a => by
  obtain ⟨v, hv, r⟩ := hv
  exact Name_function_global pl.kind hx (loadGlobal_global (by rw [pl.g]; exact a.good.T.g) hv ⟨Keeps.refl', r _ _⟩) hd

theorem ev_call_builtin {x p e es pos id ds d} (hf : EvV c env n σ (.Name x p) (.builtin id)) (ha : EvL c env n σ (e :: es) ds)
    (h : ∀ A S s E vs, At c env n σ A S s → RdAll c.P S s.heap vs ds → wpAny c.M A (call (.builtin id) vs) (Post c S s d) E s)
    (he : starEach (e :: es) env = (false, eval e env) :: starEach es env := by rfl) (hp : (backTo pos (starEach es env)).any (·.1) = false := by rfl) :
    Ev c env n σ (.Call (.Name x p) (e :: es) [] pos) d := fun A S s E a => by
  show wpAny _ _ (eval (.Name x p) env >>= fun f => callWith pos f [] (backTo pos (starEach (e :: es) env)) (backToKw pos (keywordEach [] env))) _ _ s
  refine wpAny_bind (wpAny_mono (hf A S s E a) (fun v s₁ p₁ => ?_) fun _ _ x => x)
  obtain ⟨rfl, rfl⟩ := p₁
  refine callWith_method1 (wpAny_mono (ha A S _ E pos a) (fun vs s₂ p₂ => ?_) fun _ _ x => x) he hp
  exact wpAny_mono (h A S s₂ E vs (a.keep p₂.1) p₂.2) (fun _ _ p => p.from p₂.1) fun _ _ x => x
theorem ev_call_type {x p e es pos T ds d} (hf : EvV c env n σ (.Name x p) (.type T)) (ha : EvL c env n σ (e :: es) ds)
    (h : ∀ A S s E vs, At c env n σ A S s → RdAll c.P S s.heap vs ds → wpAny c.M A (call (.type T) vs) (Post c S s d) E s)
    (he : starEach (e :: es) env = (false, eval e env) :: starEach es env := by rfl) (hp : (backTo pos (starEach es env)).any (·.1) = false := by rfl) :
    Ev c env n σ (.Call (.Name x p) (e :: es) [] pos) d := fun A S s E a => by
  show wpAny _ _ (eval (.Name x p) env >>= fun f => callWith pos f [] (backTo pos (starEach (e :: es) env)) (backToKw pos (keywordEach [] env))) _ _ s
  refine wpAny_bind (wpAny_mono (hf A S s E a) (fun v s₁ p₁ => ?_) fun _ _ x => x)
  obtain ⟨rfl, rfl⟩ := p₁
  have ha' := ha A S _ E pos a
  rw [he] at ha' ⊢
  refine PySem.callWith_type (by show (false || (backTo pos (starEach es env)).any (·.1)) = false; rw [hp]; rfl) (evalArgs_plain (wpAny_mono ha' (fun vs s₂ p₂ => ?_) fun _ _ x => x))
  exact wpAny_mono (h A S s₂ E vs (a.keep p₂.1) p₂.2) (fun _ _ p => p.from p₂.1) fun _ _ x => x

-- f is a def of the text
noncomputable def IsDef (c : Cx) (f : Addr) : Prop := ∀ h, c.Good h → ∃ o fd, h.get? f = some o ∧ o.data = .func fd
theorem ev_call_def {x p e es pos f m ds d} (hf : EvV c env n σ (.Name x p) (.ref f)) (hd : IsDef c f) (ha : EvL c env n σ (e :: es) ds) (h : CallsTo c (.ref f) m ds d) (hm : m ≤ n)
    (he : starEach (e :: es) env = (false, eval e env) :: starEach es env := by rfl) :
    Ev c env n σ (.Call (.Name x p) (e :: es) [] pos) d := fun A S s E a => by
  show wpAny _ _ (eval (.Name x p) env >>= fun f => callWith pos f [] (backTo pos (starEach (e :: es) env)) (backToKw pos (keywordEach [] env))) _ _ s
  refine wpAny_bind (wpAny_mono (hf A S s E a) (fun v s₁ p₁ => ?_) fun _ _ x => x)
  obtain ⟨rfl, rfl⟩ := p₁
  have ha' := ha A S _ E pos a
  obtain ⟨o, fd, ho, hfd⟩ := hd _ a.good
  rw [he] at ha' ⊢
  refine Calls.callWith_function (o := o) (fd := fd) (evalArgs_plain (wpAny_mono ha' (fun vs s₂ p₂ => ⟨⟨Keeps.h p₂.1 _ _ ho, hfd⟩, ?_⟩) fun _ _ x => x))
  have a₂ := a.keep p₂.1
  exact wpAny_mono (h A S s₂ vs E (a₂.room.le hm) a₂.good a₂.sb p₂.2) (fun _ _ p => p.from p₂.1) fun _ _ x => x
end
end Mine
end

section
open PySem PySem.W PySem.Calls PyProof.Rows PySem.Spec
set_option maxRecDepth 100000
namespace Mine
section
variable {c : Cx} {env : Env} {n : Nat} {σ : List (Str × PyData)} {A : Around} {S : Addr → Prop} {s : Shared} {E : Value → Shared → Prop}

-- the truth of a datum
noncomputable def truthD : PyData → Bool
  | .none => false
  | .bool b => b
  | .int i => i != 0
  | .str x => x.length != 0
  | .list xs => !xs.isEmpty
  | .tuple xs => !xs.isEmpty
  | .dict kvs => !kvs.isEmpty
noncomputable def smallD : PyData → Prop
  | .str x => x.length ≤ sizeLine
  | .list xs => xs.length ≤ sizeLine
  | .bool _ => True
  | _ => False
theorem truthyR {v d} (r : Rd c.P S s.heap v d) (hz : smallD d) : wpAny c.M A (truthy v) (fun b s' => b = truthD d ∧ Keeps s s') E s := by
  have hs : sizeLine = 16777216 := rfl
  cases d with
  | bool b => rw [r.bool_inv]; exact wpAny_truthy_bool ⟨rfl, Keeps.refl'⟩
  | str x =>
    obtain ⟨t, rfl⟩ := r.str_inv
    simp only [smallD] at hz
    refine P.truthy_str (by omega) ⟨?_, Keeps.tok _⟩
    simp only [truthD]
    rcases Nat.eq_zero_or_pos x.length with e | e
    · rw [e]; rfl
    · have h1 : x.length ≠ 0 := by omega
      have h2 : (x.length : Int) ≠ 0 := by omega
      rw [bne_iff_ne.mpr h1, bne_iff_ne.mpr h2]
  | list xs =>
    obtain ⟨l, vs, rfl, hl, q, _⟩ := r.list_inv
    have := q.length
    simp only [smallD] at hz
    refine wpAny_truthy_list hl (by rw [List.size_toArray]; omega) ⟨?_, Keeps.tok _⟩
    simp only [truthD]
    cases vs <;> cases xs <;> simp_all
  | _ => exact hz.elim

theorem evT_plain {e d} (h : Ev c env n σ e d) (hz : smallD d) (he : ∀ whole, isTrue e env whole = (do let v ← whole; standAt e.pos; holding [v] (truthy v)) := by intro _; rfl) : EvT c env n σ e (truthD d) := fun A S s E a =>
  isTrue_plain (wpAny_mono (h A S s E a) (fun v s₁ p => wpAny_mono (truthyR p.2 hz) (fun b s₂ q => ⟨q.1, Keeps.trans' p.1 q.2⟩) fun _ _ x => x) fun _ _ x => x) (he _)
theorem evT_bool {e b} (h : Ev c env n σ e (.bool b)) (he : ∀ whole, isTrue e env whole = (do let v ← whole; standAt e.pos; holding [v] (truthy v)) := by intro _; rfl) : EvT c env n σ e b := evT_plain h trivial he
theorem evT_not {e pos b} (h : EvT c env n σ e b) : EvT c env n σ (.UnaryOp .Not e pos) (!b) := fun A S s E a =>
  isTrue_not (wpAny_mono (h A S s E a) (fun r s₁ p => ⟨by rw [p.1], p.2⟩) fun _ _ x => x)
theorem isT_and_nil {pos whole} (k : Shared) : wpAny c.M A (isTrue (.BoolOp .And [] pos) env whole) (fun r s' => r = true ∧ s' = s) E s := isTrue_and_nil ⟨rfl, rfl⟩
theorem evT_and2 {e₁ e₂ pos b₁ b₂} (h₁ : EvT c env n σ e₁ b₁) (h₂ : b₁ = true → EvT c env n σ e₂ b₂) (h₃ : b₁ = false → b₂ = false) : EvT c env n σ (.BoolOp .And [e₁, e₂] pos) b₂ := fun A S s E a => by
  refine isTrue_and (wpAny_mono (h₁ A S s E a) (fun r s₁ p => ?_) fun _ _ x => x)
  obtain ⟨rfl, k⟩ := p
  cases r with
  | false => exact ⟨(h₃ rfl).symm, k⟩
  | true =>
    refine isTrue_and (wpAny_mono (h₂ rfl A S s₁ E (a.keep k)) (fun r s₂ p => ?_) fun _ _ x => x)
    obtain ⟨rfl, k₂⟩ := p
    cases r with
    | false => exact ⟨rfl, Keeps.trans' k k₂⟩
    | true => exact isTrue_and_nil ⟨rfl, Keeps.trans' k k₂⟩
theorem evT_or2 {e₁ e₂ pos b₁ b₂} (h₁ : EvT c env n σ e₁ b₁) (h₂ : b₁ = false → EvT c env n σ e₂ b₂) (h₃ : b₁ = true → b₂ = true) : EvT c env n σ (.BoolOp .Or [e₁, e₂] pos) b₂ := fun A S s E a => by
  refine isTrue_or (wpAny_mono (h₁ A S s E a) (fun r s₁ p => ?_) fun _ _ x => x)
  obtain ⟨rfl, k⟩ := p
  cases r with
  | true => exact ⟨(h₃ rfl).symm, k⟩
  | false =>
    refine isTrue_or (wpAny_mono (h₂ rfl A S s₁ E (a.keep k)) (fun r s₂ p => ?_) fun _ _ x => x)
    obtain ⟨rfl, k₂⟩ := p
    cases r with
    | true => exact ⟨rfl, Keeps.trans' k k₂⟩
    | false => exact isTrue_or_nil ⟨rfl, Keeps.trans' k k₂⟩
-- e₁ and e₂, as a value
theorem ev_and2 {e₁ e₂ pos d₁ d₂} (h₁ : Ev c env n σ e₁ d₁) (hz : smallD d₁) (h₂ : truthD d₁ = true → Ev c env n σ e₂ d₂) (h₃ : truthD d₁ = false → d₁ = d₂) : Ev c env n σ (.BoolOp .And [e₁, e₂] pos) d₂ := fun A S s E a => by
  refine BoolOp_and (wpAny_mono (h₁ A S s E a) (fun v s₁ p => wpAny_mono (truthyR p.2 hz) (fun b s₂ q => ?_) fun _ _ x => x) fun _ _ x => x)
  obtain ⟨rfl, k⟩ := q
  cases hb : truthD d₁ with
  | false =>
    simp only [Bool.false_eq_true, if_false]
    exact ⟨Keeps.trans' p.1 k, h₃ hb ▸ p.2.keep (Keeps.h k)⟩
  | true =>
    simp only [if_true]
    exact BoolOp_one (wpAny_mono (h₂ hb A S s₂ E ((a.keep p.1).keep k)) (fun _ _ r => (r.from k).from p.1) fun _ _ x => x)
theorem ev_or2 {e₁ e₂ pos d₁ d₂} (h₁ : Ev c env n σ e₁ d₁) (hz : smallD d₁) (h₂ : truthD d₁ = false → Ev c env n σ e₂ d₂) (h₃ : truthD d₁ = true → d₁ = d₂) : Ev c env n σ (.BoolOp .Or [e₁, e₂] pos) d₂ := fun A S s E a => by
  refine BoolOp_or (wpAny_mono (h₁ A S s E a) (fun v s₁ p => wpAny_mono (truthyR p.2 hz) (fun b s₂ q => ?_) fun _ _ x => x) fun _ _ x => x)
  obtain ⟨rfl, k⟩ := q
  cases hb : truthD d₁ with
  | true =>
    simp only [if_true]
    exact ⟨Keeps.trans' p.1 k, h₃ hb ▸ p.2.keep (Keeps.h k)⟩
  | false =>
    simp only [Bool.false_eq_true, if_false]
    exact BoolOp_one (wpAny_mono (h₂ hb A S s₂ E ((a.keep p.1).keep k)) (fun _ _ r => (r.from k).from p.1) fun _ _ x => x)
theorem ev_ifexp {t e₁ e₂ pos b d} (h : EvT c env n σ t b) (h₁ : b = true → Ev c env n σ e₁ d) (h₂ : b = false → Ev c env n σ e₂ d) : Ev c env n σ (.IfExp t e₁ e₂ pos) d := fun A S s E a => by
  refine IfExp_ (wpAny_mono (h A S s E a) (fun r s₁ p => ?_) fun _ _ x => x)
  obtain ⟨rfl, k⟩ := p
  cases r with
  | true => exact wpAny_mono (h₁ rfl A S s₁ E (a.keep k)) (fun _ _ q => q.from k) fun _ _ x => x
  | false => exact wpAny_mono (h₂ rfl A S s₁ E (a.keep k)) (fun _ _ q => q.from k) fun _ _ x => x

-- a method of a str, upon one argument
theorem ev_method {o name apos e pos x id d d₂} {pl : Sem Bool} (ho : Ev c env n σ o (.str x)) (he : Ev c env n σ e d₂)
    (hg : ∀ (A : Around) (s : Shared) (t : Tok) (Q : Value × List Value → Shared → Prop) (E : Value → Shared → Prop), Q (.builtin id, [.str x t]) s → wpAny c.M A (getMethod (.str x t) name pl) Q E s)
    (h : ∀ A S s E t v, At c env n σ A S s → Rd c.P S s.heap v d₂ → wpAny c.M A (call (.builtin id) [.str x t, v]) (Post c S s d) E s)
    (hc : eval (.Call (.Attribute o name apos) [e] [] pos) env = (do
      let ov ← eval o env
      standAt apos.atName
      let (f, first) ← holding [ov] (getMethod ov name pl)
      callWith pos f first (backTo pos (starEach [e] env)) []))
    (hs : starEach [e] env = (false, eval e env) :: starEach [] env := by rfl) : Ev c env n σ (.Call (.Attribute o name apos) [e] [] pos) d := fun A S s E a => by
  refine MethodCall_ (pl := pl) (wpAny_mono (ho A S s E a) (fun ov s₁ p₁ => ?_) fun _ _ x => x) hc
  obtain ⟨t, rfl⟩ := p₁.2.str_inv
  refine hg A s₁ t _ _ ?_
  refine callWith_method1 (wpAny_mono (evL_cons he evL_nil hs A S s₁ E pos (a.keep p₁.1)) (fun vs s₂ p₂ => ?_) fun _ _ x => x) hs
  obtain ⟨k, r⟩ := p₂
  cases r with
  | cons r r' =>
    cases r'
    exact wpAny_mono (h A S s₂ E t _ ((a.keep p₁.1).keep k) r) (fun _ _ q => (q.from k).from p₁.1) fun _ _ x => x

theorem RdAll.strs {P : Params} {h : Heap} : ∀ {vs : List Value} {xs : List Str}, RdAll P S h vs (xs.map .str) → ∃ l : List (Str × Tok), vs = strValues l ∧ l.map (·.1) = xs
  | _, [], .nil => ⟨[], rfl, rfl⟩
  | _, x :: xs, .cons r r' => by
    obtain ⟨t, rfl⟩ := r.str_inv
    obtain ⟨l, rfl, rfl⟩ := RdAll.strs r'
    exact ⟨(x, t) :: l, rfl, rfl⟩

theorem ev_join {o apos e pos x xs} (ho : Ev c env n σ o (.str x)) (he : Ev c env n σ e (.list (xs.map .str))) (hok : JoinOk x xs = true)
    (hc : eval (.Call (.Attribute o (Str.ofString "join") apos) [e] [] pos) env = (do
      let ov ← eval o env
      standAt apos.atName
      let (f, first) ← holding [ov] (getMethod ov (Str.ofString "join") (do return (← importBound o env).getD true))
      callWith pos f first (backTo pos (starEach [e] env)) []) := by rfl)
    (hs : starEach [e] env = (false, eval e env) :: starEach [] env := by rfl) : Ev c env n σ (.Call (.Attribute o (Str.ofString "join") apos) [e] [] pos) (.str (Txt.join x xs)) :=
  ev_method ho he (fun A s t Q E h => GM.join h) (fun A S s E t v a r => by
    obtain ⟨l, vs, rfl, hl, q, _⟩ := r.list_inv
    obtain ⟨l', rfl, e⟩ := q.strs
    exact SC.join hl e hok fun t' k => ⟨Keeps.tok _, .str _ _⟩) hc hs
theorem ev_startswith {o apos e pos x y} (ho : Ev c env n σ o (.str x)) (he : Ev c env n σ e (.str y))
    (hc : eval (.Call (.Attribute o (Str.ofString "startswith") apos) [e] [] pos) env = (do
      let ov ← eval o env
      standAt apos.atName
      let (f, first) ← holding [ov] (getMethod ov (Str.ofString "startswith") (do return (← importBound o env).getD true))
      callWith pos f first (backTo pos (starEach [e] env)) []) := by rfl)
    (hs : starEach [e] env = (false, eval e env) :: starEach [] env := by rfl) : Ev c env n σ (.Call (.Attribute o (Str.ofString "startswith") apos) [e] [] pos) (.bool (Txt.startswith x y)) :=
  ev_method ho he (fun A s t Q E h => GM.startswith h) (fun A S s E t v a r => by obtain ⟨u, rfl⟩ := r.str_inv; exact SC.startswith ⟨Keeps.refl', .bool _⟩) hc hs
theorem ev_endswith {o apos e pos x y} (ho : Ev c env n σ o (.str x)) (he : Ev c env n σ e (.str y))
    (hc : eval (.Call (.Attribute o (Str.ofString "endswith") apos) [e] [] pos) env = (do
      let ov ← eval o env
      standAt apos.atName
      let (f, first) ← holding [ov] (getMethod ov (Str.ofString "endswith") (do return (← importBound o env).getD true))
      callWith pos f first (backTo pos (starEach [e] env)) []) := by rfl)
    (hs : starEach [e] env = (false, eval e env) :: starEach [] env := by rfl) : Ev c env n σ (.Call (.Attribute o (Str.ofString "endswith") apos) [e] [] pos) (.bool (Txt.endswith x y)) :=
  ev_method ho he (fun A s t Q E h => GM.endswith h) (fun A S s E t v a r => by obtain ⟨u, rfl⟩ := r.str_inv; exact SC.endswith ⟨Keeps.refl', .bool _⟩) hc hs
theorem ev_rfind {o apos e pos x y} (ho : Ev c env n σ o (.str x)) (he : Ev c env n σ e (.str y))
    (hc : eval (.Call (.Attribute o (Str.ofString "rfind") apos) [e] [] pos) env = (do
      let ov ← eval o env
      standAt apos.atName
      let (f, first) ← holding [ov] (getMethod ov (Str.ofString "rfind") (do return (← importBound o env).getD true))
      callWith pos f first (backTo pos (starEach [e] env)) []) := by rfl)
    (hs : starEach [e] env = (false, eval e env) :: starEach [] env := by rfl) : Ev c env n σ (.Call (.Attribute o (Str.ofString "rfind") apos) [e] [] pos) (.int (Txt.rfind x y)) :=
  ev_method ho he (fun A s t Q E h => GM.rfind h) (fun A S s E t v a r => by obtain ⟨u, rfl⟩ := r.str_inv; exact SC.rfind ⟨Keeps.tok _, .int _ _⟩) hc hs
theorem ev_rstrip {o apos e pos x y} (ho : Ev c env n σ o (.str x)) (he : Ev c env n σ e (.str y)) (hz : x.length ≤ sizeLine)
    (hc : eval (.Call (.Attribute o (Str.ofString "rstrip") apos) [e] [] pos) env = (do
      let ov ← eval o env
      standAt apos.atName
      let (f, first) ← holding [ov] (getMethod ov (Str.ofString "rstrip") (do return (← importBound o env).getD true))
      callWith pos f first (backTo pos (starEach [e] env)) []) := by rfl)
    (hs : starEach [e] env = (false, eval e env) :: starEach [] env := by rfl) : Ev c env n σ (.Call (.Attribute o (Str.ofString "rstrip") apos) [e] [] pos) (.str (Txt.rstripChars x y)) :=
  ev_method ho he (fun A s t Q E h => GM.rstrip h) (fun A S s E t v a r => by obtain ⟨u, rfl⟩ := r.str_inv; exact SC.rstripChars (fun t' k => ⟨Keeps.tok _, .str _ _⟩) hz) hc hs
theorem strValues_rd {P : Params} {h : Heap} : ∀ (l : List (Str × Tok)), RdAll P S h (strValues l) ((l.map (·.1)).map .str)
  | [] => .nil
  | (x, t) :: r => .cons (.str x t) (strValues_rd r)
theorem strs_pushed {l : List (Str × Tok)} {xs : List Str} {vs : List Value} (sb : SB S s.heap) (hv : vs = strValues l) (e : l.map (·.1) = xs) (tk : Nat) :
    Post c S s (.list (xs.map .str)) (.ref s.heap.objs.size) { s with heap := s.heap.push { cls := .type "list", data := .seq vs.toArray }, toks := tk } := by
  subst hv e
  exact ⟨⟨_, _, rfl, keepH_push _⟩, .list sb.size (Heap.get?_push_size _ rfl) rfl rfl (by simpa using strValues_rd l)⟩
open PySem.Builtin PySem.Builtin.Str in
theorem split_call {x y : Str} {t u : Tok} (sb : SB S s.heap) (hy : (y.length == 0) = false) (hsz : x.length ≤ sizeLine) (hsz2 : (partsBetween x (occurrences x y 0 x.length (x.length + 1)) y.length).length ≤ sizeLine) :
    wpAny c.M A (call (.builtin "str.split") [.str x t, .str y u]) (Post c S s (.list ((Txt.split x y).map .str))) E s := by
  cases h1 : (decide (x.length < y.length) || decide (strKind x < strKind y))
  · cases hf : (occurrences x y 0 x.length (x.length + 1)).isEmpty
    · refine call_meets F.slot_str_split (typeIs_str _ _ _) F.entry_str_split (F.args_str_split_2 _ _) (meets_str_split_sep x y t u h1 hy hf hsz hsz2) ?_
      show Post c S s _ _ { s with toks := _, heap := s.heap.push { cls := .type "list", data := .seq (strsFrom s.toks (partsBetween x (occurrences x y 0 x.length (x.length + 1)) y.length)).toArray } }
      exact strs_pushed (l := numbered s.toks _) sb (strsFrom_eq _ _) ((numbered_texts _ _).trans ((if_neg (ne_true_of_eq_false h1)).trans (if_neg (ne_true_of_eq_false hf))).symm) _
    · exact call_meets F.slot_str_split (typeIs_str _ _ _) F.entry_str_split (F.args_str_split_2 _ _) (meets_str_split_not_found x y t u h1 hy hf)
        (strs_pushed (l := [(x, t)]) sb rfl ((if_neg (ne_true_of_eq_false h1)).trans (if_pos hf)).symm s.toks)
  · exact call_meets F.slot_str_split (typeIs_str _ _ _) F.entry_str_split (F.args_str_split_2 _ _) (meets_str_split_cannot_occur x y t u h1)
      (strs_pushed (l := [(x, t)]) sb rfl (if_pos h1).symm s.toks)
open PySem.Builtin PySem.Builtin.Str in
theorem ev_split {o apos e pos x y} (ho : Ev c env n σ o (.str x)) (he : Ev c env n σ e (.str y)) (hz : x.length ≤ sizeLine) (hy : (y.length == 0) = false)
    (hz2 : (partsBetween x (occurrences x y 0 x.length (x.length + 1)) y.length).length ≤ sizeLine)
    (hc : eval (.Call (.Attribute o (Str.ofString "split") apos) [e] [] pos) env = (do
      let ov ← eval o env
      standAt apos.atName
      let (f, first) ← holding [ov] (getMethod ov (Str.ofString "split") (do return (← importBound o env).getD true))
      callWith pos f first (backTo pos (starEach [e] env)) []) := by rfl)
    (hs : starEach [e] env = (false, eval e env) :: starEach [] env := by rfl) : Ev c env n σ (.Call (.Attribute o (Str.ofString "split") apos) [e] [] pos) (.list ((Txt.split x y).map .str)) :=
  ev_method ho he (fun A s t Q E h => GM.split h) (fun A S s E t v a r => by
    obtain ⟨u, rfl⟩ := r.str_inv
    exact split_call a.sb hy hz hz2) hc hs

theorem RdAll.one {P : Params} {h : Heap} {vs d} (r : RdAll P S h vs [d]) : ∃ v, vs = [v] ∧ Rd P S h v d := by cases r with | cons r r' => cases r'; exact ⟨_, rfl, r⟩
theorem RdAll.two {P : Params} {h : Heap} {vs d d'} (r : RdAll P S h vs [d, d']) : ∃ v v', vs = [v, v'] ∧ Rd P S h v d ∧ Rd P S h v' d' := by
  cases r with | cons r r' => obtain ⟨v', rfl, r''⟩ := r'.one; exact ⟨_, _, rfl, r, r''⟩
theorem RdAll.three {P : Params} {h : Heap} {vs d d' d''} (r : RdAll P S h vs [d, d', d'']) : ∃ v v' v'', vs = [v, v', v''] ∧ Rd P S h v d ∧ Rd P S h v' d' ∧ Rd P S h v'' d'' := by
  cases r with | cons r r' => obtain ⟨v', v'', rfl, r', r''⟩ := r'.two; exact ⟨_, _, _, rfl, r, r', r''⟩

theorem ev_len_list {x p e pos xs} (hf : EvV c env n σ (.Name x p) (.builtin "len")) (he : Ev c env n σ e (.list xs)) (hz : xs.length ≤ sizeLine) (hs : starEach [e] env = (false, eval e env) :: starEach [] env := by rfl) :
    Ev c env n σ (.Call (.Name x p) [e] [] pos) (.int xs.length) :=
  ev_call_builtin hf (evL_cons he evL_nil hs) (fun A S s E vs a r => by
    obtain ⟨v, rfl, r₁⟩ := r.one
    obtain ⟨l, vs, rfl, hl, q, _⟩ := r₁.list_inv
    have := q.length
    have hs : sizeLine = 16777216 := rfl
    refine call_len_list hl (by rw [List.size_toArray]; omega) ⟨Keeps.tok _, ?_⟩
    rw [List.size_toArray, q.length]; exact .int _ _) hs
theorem ev_len_str {x p e pos y} (hf : EvV c env n σ (.Name x p) (.builtin "len")) (he : Ev c env n σ e (.str y)) (hz : y.length ≤ sizeLine) (hs : starEach [e] env = (false, eval e env) :: starEach [] env := by rfl) :
    Ev c env n σ (.Call (.Name x p) [e] [] pos) (.int y.length) :=
  ev_call_builtin hf (evL_cons he evL_nil hs) (fun A S s E vs a r => by
    obtain ⟨v, rfl, r₁⟩ := r.one
    obtain ⟨t, rfl⟩ := r₁.str_inv
    have hs : sizeLine = 16777216 := rfl
    exact P.len_str (by omega) ⟨Keeps.tok _, .int _ _⟩) hs
theorem ev_abs {x p e pos i} (hf : EvV c env n σ (.Name x p) (.builtin "abs")) (he : Ev c env n σ e (.int i)) (hs : starEach [e] env = (false, eval e env) :: starEach [] env := by rfl) :
    Ev c env n σ (.Call (.Name x p) [e] [] pos) (.int (if i < 0 then -i else i)) :=
  ev_call_builtin hf (evL_cons he evL_nil hs) (fun A S s E vs a r => by
    obtain ⟨v, rfl, r₁⟩ := r.one
    obtain ⟨t, rfl⟩ := r₁.int_inv
    exact call_abs_int fun u tk => ⟨Keeps.tok _, .int _ _⟩) hs
theorem ev_max2 {x p e e' pos i j} (hf : EvV c env n σ (.Name x p) (.builtin "max")) (he : Ev c env n σ e (.int i)) (he' : Ev c env n σ e' (.int j)) (hs : starEach [e, e'] env = (false, eval e env) :: starEach [e'] env := by rfl) (hs' : starEach [e'] env = (false, eval e' env) :: starEach [] env := by rfl) :
    Ev c env n σ (.Call (.Name x p) [e, e'] [] pos) (.int (if j > i then j else i)) :=
  ev_call_builtin hf (evL_cons he (evL_cons he' evL_nil hs') hs) (fun A S s E vs a r => by
    obtain ⟨v, v', rfl, r₁, r'⟩ := r.two
    obtain ⟨t, rfl⟩ := r₁.int_inv
    obtain ⟨u, rfl⟩ := r'.int_inv
    refine max_two_ints a.room.1 fun h' tk hk => ⟨⟨h', tk, rfl, hk⟩, ?_⟩
    by_cases q : j > i
    · simp only [if_pos q]; exact .int _ _
    · simp only [if_neg q]; exact .int _ _) hs (by rw [hs']; rfl)
end
end Mine
end

section
open PySem PySem.W PySem.Calls PyProof.Rows PySem.Spec
set_option maxRecDepth 100000
namespace Mine

-- the frame env in h: its names σ; X: what the frame itself may turn
structure Fm (c : Cx) (env : Env) (X S : Addr → Prop) (σ : List (Str × PyData)) (h : Heap) : Prop where
  fr : Fr0 c env S σ h
  xs : ∀ a, X a → S a
  xl : X env.locals
-- the addresses of a frame
noncomputable def FrA (env : Env) (a : Addr) : Prop := a = env.locals ∨ ∃ p ∈ env.cells, p.2 = a

noncomputable def GoodX (c : Cx) (X : Addr → Prop) (h : Heap) : Prop := ∃ h₀, c.Good h₀ ∧ KeepH h₀ h ∧ ∀ a, X a → h₀.get? a = none
theorem GoodX.good {c : Cx} {X : Addr → Prop} {h : Heap} (g : GoodX c X h) : c.Good h := let ⟨_, a, b, _⟩ := g; a.keeps b
theorem GoodX.keepB {c : Cx} {X : Addr → Prop} {h h' : Heap} (g : GoodX c X h) (k : KeepB X h h') : GoodX c X h' :=
  let ⟨h₀, a, b, n⟩ := g; ⟨h₀, a, fun p o e => k p o (fun q => by rw [n p q] at e; cases e) (b p o e), n⟩

-- all but X stays, the rest of the state too
noncomputable def KeepS (X : Addr → Prop) (s s' : Shared) : Prop := ∃ h' tk, s' = { s with heap := h', toks := tk } ∧ KeepB X s.heap h'
theorem KeepS.b {X : Addr → Prop} {s s' : Shared} (k : KeepS X s s') : KeepB X s.heap s'.heap := by obtain ⟨h', tk, rfl, q⟩ := k; exact q
theorem KeepS.refl {X : Addr → Prop} {s : Shared} : KeepS X s s := ⟨s.heap, s.toks, rfl, fun _ _ _ e => e⟩
theorem KeepS.of {X : Addr → Prop} {s s' : Shared} (k : Keeps s s') : KeepS X s s' := by obtain ⟨h', tk, rfl, q⟩ := k; exact ⟨h', tk, rfl, fun _ _ _ e => q _ _ e⟩
theorem KeepS.trans {X : Addr → Prop} {a b d : Shared} (x : KeepS X a b) (y : KeepS X b d) : KeepS X a d := by
  obtain ⟨h', tk, rfl, q⟩ := x
  obtain ⟨h'', tk', rfl, q'⟩ := y
  exact ⟨h'', tk', rfl, fun b o n e => q' b o n (q b o n e)⟩
theorem KeepS.mono {X Y : Addr → Prop} {s s' : Shared} (k : KeepS X s s') (h : ∀ a, X a → Y a) : KeepS Y s s' := by obtain ⟨h', tk, rfl, q⟩ := k; exact ⟨h', tk, rfl, q.mono h⟩

structure AtS (c : Cx) (env : Env) (n : Nat) (X : Addr → Prop) (σ : List (Str × PyData)) (A : Around) (S : Addr → Prop) (s : Shared) : Prop where
  room : Room A n
  good : GoodX c X s.heap
  sb : SB S s.heap
  fm : Fm c env X S σ s.heap

section
variable {c : Cx} {env : Env} {n : Nat} {X S S' : Addr → Prop} {σ σ' : List (Str × PyData)} {A : Around} {s s' : Shared} {h h' : Heap} {E : Value → Shared → Prop}

theorem AtS.at (a : AtS c env n X σ A S s) : At c env n σ A S s := ⟨a.room, a.good.good, a.sb, a.fm.fr⟩

-- the frame's facts where all but its own things may not change
theorem Fm.move (f : Fm c env X S σ h) (hS : ∀ a, X a → S' a) (hk : ∀ a o, ¬ S a → h.get? a = some o → ¬ S' a ∧ h'.get? a = some o) (hl : ∀ o, h.get? env.locals = some o → h'.get? env.locals = some o)
    (hc : ∀ p ∈ env.cells, ∀ o, h.get? p.2 = some o → h'.get? p.2 = some o) : Fm c env X S' σ h' := ⟨f.fr.move hk hl hc, hS, f.xl⟩
theorem Fm.keep (f : Fm c env X S σ h) (k : KeepH h h') : Fm c env X S σ h' := ⟨f.fr.keep k, f.xs, f.xl⟩
theorem AtS.keep (a : AtS c env n X σ A S s) (k : Keeps s s') : AtS c env n X σ A S s' := ⟨a.room, a.good.keepB (Keeps.h k).toB, a.sb.keep (Keeps.h k), a.fm.keep (Keeps.h k)⟩
theorem Fm.sub (f : Fm c env X S σ h) (hs : ∀ x d, σ'.lookup x = some d → σ.lookup x = some d) : Fm c env X S σ' h := ⟨f.fr.sub hs, f.xs, f.xl⟩
theorem AtS.sub (a : AtS c env n X σ A S s) (hs : ∀ x d, σ'.lookup x = some d → σ.lookup x = some d) : AtS c env n X σ' A S s := ⟨a.room, a.good, a.sb, a.fm.sub hs⟩

-- a store into a name of the frame's own
theorem store_name {x : Str} {v : Value} {d : PyData} {Q : Unit → Shared → Prop} (f : Fm c env X S σ s.heap) (r : Rd c.P S s.heap v d) (sb : SB S s.heap)
    (hx : env.kindOf x = some .local ∨ (env.kindOf x = some .cell ∧ ∃ a, env.cells.lookup x = some a ∧ X a))
    (hQ : ∀ s', KeepS X s s' → KeepB (FrA env) s.heap s'.heap → SB S s'.heap → Fm c env X S ((x, d) :: σ) s'.heap → Q () s') : wpAny c.M A (storeName env x v) Q E s := by
  obtain ⟨m, ns, hv⟩ := f.fr.names
  have pl := f.fr.pl
  have loc := f.fr.loc
  rcases hx with hk | ⟨hk, a, ha, hX⟩
  · refine wpAny_storeName_local hk ns (fun h' hn hs => ?_) (by rw [pl.kind]; rfl)
    have kb : KeepB X s.heap h' := KeepB.ofSame hs f.xl
    have hSl := f.xs _ f.xl
    refine hQ _ ⟨h', _, rfl, kb⟩ (KeepB.ofSame hs (.inl rfl)) (fun b hb => ?_) ⟨⟨pl, ⟨_, hn, fun y e he => ?_⟩, fun p hp => ?_, f.fr.apart, loc⟩, f.xs, f.xl⟩
    · by_cases q : b = env.locals
      · subst q; obtain ⟨o, _, _, ho, _⟩ := hn; exact ⟨o, ho⟩
      · obtain ⟨o, ho⟩ := sb b hb; exact ⟨o, (hs.2 b q).trans ho⟩
    · rw [List.lookup_cons] at he
      cases hy : y == x with
      | true =>
        rw [hy] at he
        cases he
        obtain rfl := beq_iff_eq.mp hy
        exact ⟨v, r.keepB (kb.mono f.xs), .inl ⟨hk, by simp⟩⟩
      | false =>
        rw [hy] at he
        obtain ⟨v', r', q⟩ := hv y e he
        have hne : y ≠ x := fun e => by rw [e] at hy; simp at hy
        refine ⟨v', r'.keepB (kb.mono f.xs), q.imp (fun ⟨a1, a2⟩ => ⟨a1, by rw [if_neg hne]; exact a2⟩) fun ⟨a1, b, hb, hc⟩ => ⟨a1, b, hb, hc.sameBut hs (loc _ (mem_of_lookup hb))⟩⟩
    · obtain ⟨o, hc⟩ := f.fr.cells p hp
      exact ⟨o, hc.sameBut hs (loc p hp)⟩
  · obtain ⟨o, hc⟩ := f.fr.cells _ (mem_of_lookup ha)
    refine wpAny_storeName_cell pl.kind hk ha hc fun h' hc' hs => ?_
    have kb : KeepB X s.heap h' := KeepB.ofSame hs hX
    have hal : env.locals ≠ a := Ne.symm (loc _ (mem_of_lookup ha))
    refine hQ _ ⟨h', _, rfl, kb⟩ (KeepB.ofSame hs (.inr ⟨_, mem_of_lookup ha, rfl⟩)) (fun b hb => ?_) ⟨⟨pl, ⟨m, ns.sameBut hs hal, fun y e he => ?_⟩, fun p hp => ?_, f.fr.apart, loc⟩, f.xs, f.xl⟩
    · by_cases q : b = a
      · subst q; obtain ⟨o, ho, _⟩ := hc'; exact ⟨o, ho⟩
      · obtain ⟨o, ho⟩ := sb b hb; exact ⟨o, (hs.2 b q).trans ho⟩
    · rw [List.lookup_cons] at he
      cases hy : y == x with
      | true =>
        rw [hy] at he
        cases he
        obtain rfl := beq_iff_eq.mp hy
        exact ⟨v, r.keepB (kb.mono f.xs), .inr ⟨hk, a, ha, hc'⟩⟩
      | false =>
        rw [hy] at he
        obtain ⟨v', r', q⟩ := hv y e he
        have hne : y ≠ x := fun e => by rw [e] at hy; simp at hy
        refine ⟨v', r'.keepB (kb.mono f.xs), q.imp id fun ⟨a1, b, hb, hcb⟩ => ⟨a1, b, hb, hcb.sameBut hs fun q => ?_⟩⟩
        exact hne (name_of_addr f.fr.apart (mem_of_lookup hb) (q ▸ mem_of_lookup ha))
    · by_cases q : p.2 = a
      · rw [q]; exact ⟨_, hc'⟩
      · obtain ⟨o, hcb⟩ := f.fr.cells p hp
        exact ⟨o, hcb.sameBut hs q⟩

-- what may be stored
noncomputable def CanStore (env : Env) (X : Addr → Prop) (x : Str) : Prop := env.kindOf x = some .local ∨ (env.kindOf x = some .cell ∧ ∃ a, env.cells.lookup x = some a ∧ X a)
theorem store_at {x : Str} {v : Value} {d : PyData} {Q : Unit → Shared → Prop} (a : AtS c env n X σ A S s) (r : Rd c.P S s.heap v d) (hx : CanStore env X x)
    (hQ : ∀ s', KeepS X s s' → KeepB (FrA env) s.heap s'.heap → AtS c env n X ((x, d) :: σ) A S s' → Q () s') : wpAny c.M A (storeName env x v) Q E s :=
  store_name a.fm r a.sb hx fun s' k kf sb f => hQ s' k kf ⟨a.room, a.good.keepB k.b, sb, f⟩
end

-- the iterators that own the tuple they hand out
noncomputable def ownIts : List String := ["enumerate", "zip", "dict_itemiterator", "dict_reverseitemiterator", "odict_iterator", "itertools.zip_longest", "itertools.pairwise"]
-- an iterator over data
noncomputable def ItOk (c : Cx) (A : Around) (S : Addr → Prop) (s : Shared) (ds : List PyData) (it : Value) (s₂ : Shared) : Prop :=
  ∃ I fp wr P St, it = .ref I ∧ Keeps s s₂ ∧ Walks c.prog c.w A I fp wr ds.length P St ∧ St 0 s₂.heap ∧ (∀ b ∈ fp, b < s₂.heap.objs.size ∧ ¬ S b) ∧ (∀ b ∈ wr, s.heap.get? b = none) ∧
    (∀ i h, St i h → ∀ b ∈ wr, ∃ o, h.get? b = some o) ∧ (∀ i h, St i h → ∃ o T, h.get? I = some o ∧ o.cls = .type T ∧ ownIts.contains T = false) ∧ ∀ i v, i < ds.length → P i v → ∃ d, ds[i]? = some d ∧ Rd c.P (fun a => S a ∨ a ∈ wr) s₂.heap v d
noncomputable def EvI (c : Cx) (env : Env) (n : Nat) (σ : List (Str × PyData)) (e : Expr) (ds : List PyData) : Prop :=
  ∀ A S s E, At c env n σ A S s → wpAny c.M A (eval e env) (fun x s₁ => wpAny c.M A (pyIter x) (ItOk c A S s ds) E s₁) E s

section
variable {c : Cx} {env : Env} {n : Nat} {σ : List (Str × PyData)} {A : Around} {S : Addr → Prop} {s s₁ : Shared} {E : Value → Shared → Prop}

theorem ItOk.from {ds it s₂} (k : Keeps s s₁) (h : ItOk c A S s₁ ds it s₂) : ItOk c A S s ds it s₂ := by
  obtain ⟨I, fp, wr, P, St, h1, h2, h3, h4, h5, h6, h7, h7', h8⟩ := h
  refine ⟨I, fp, wr, P, St, h1, Keeps.trans' k h2, h3, h4, h5, fun b hb => ?_, h7, h7', h8⟩
  cases e : s.heap.get? b with
  | none => rfl
  | some o => have := Keeps.h k _ _ e; rw [h6 b hb] at this; cases this
theorem iter_list {v ds} (hh : A.handled = none) (sb : SB S s.heap) (r : Rd c.P S s.heap v (.list ds)) : wpAny c.M A (pyIter v) (ItOk c A S s ds) E s := by
  obtain ⟨l, vs, rfl, hl, q, hS⟩ := r.list_inv
  have hne : l ≠ s.heap.objs.size := Nat.ne_of_lt (Heap.lt_size hl.choose_spec.1)
  have W := Walks.list (prog := c.prog) (w := c.w) hh s.heap.objs.size l hne vs.toArray
  rw [show vs.toArray.size = ds.length by rw [List.size_toArray, q.length]] at W
  refine wpAny_pyIter_list hl ⟨_, _, _, _, _, rfl, Keeps.push _, W, ⟨⟨_, Heap.get?_push_size _ rfl, rfl, rfl⟩, hl.push _⟩, ?_, ?_, ?_, (fun i h st => by obtain ⟨⟨o, ho, hc, _⟩, _⟩ := st; exact ⟨o, _, ho, hc, by decide⟩), ?_⟩
  · intro b hb
    have hlt := Heap.lt_size hl.choose_spec.1
    show b < (s.heap.push _).objs.size ∧ _
    rw [Heap.size_push]
    simp at hb
    rcases hb with e | e
    · rw [e]; exact ⟨Nat.lt_succ_self _, sb.size⟩
    · rw [e]; exact ⟨Nat.lt_succ_of_lt hlt, hS⟩
  · intro b hb
    simp at hb; subst hb
    exact get_size_none _
  · intro i h st b hb
    simp at hb; subst hb
    obtain ⟨⟨o, ho, _⟩, _⟩ := st
    exact ⟨o, ho⟩
  · intro i v _ hv
    have hv' : vs[i]? = some v := by simpa using hv
    obtain ⟨d, hd, r⟩ := q.get' hv'
    refine ⟨d, hd, (r.more fun a ha => ?_).keep (keepH_push _)⟩
    rcases ha with ha | ha
    · exact .inl ha
    · simp at ha; subst ha; exact .inr (get_size_none _)
theorem iter_tuple {v ds} (hh : A.handled = none) (sb : SB S s.heap) (r : Rd c.P S s.heap v (.tuple ds)) : wpAny c.M A (pyIter v) (ItOk c A S s ds) E s := by
  obtain ⟨l, vs, rfl, hl, q, hS⟩ := r.tuple_inv
  have hl' : s.heap.IsTuple l vs.toArray := hl
  have hne : l ≠ s.heap.objs.size := Nat.ne_of_lt (Heap.lt_size hl'.choose_spec.1)
  have W := Walks.tuple (prog := c.prog) (w := c.w) hh s.heap.objs.size l hne vs.toArray
  rw [show vs.toArray.size = ds.length by rw [List.size_toArray, q.length]] at W
  refine wpAny_pyIter_tuple hl' ⟨_, _, _, _, _, rfl, Keeps.push _, W, ⟨⟨_, Heap.get?_push_size _ rfl, rfl, rfl⟩, hl'.push _⟩, ?_, ?_, ?_, (fun i h st => by obtain ⟨⟨o, ho, hc, _⟩, _⟩ := st; exact ⟨o, _, ho, hc, by decide⟩), ?_⟩
  · intro b hb
    have hlt := Heap.lt_size hl'.choose_spec.1
    show b < (s.heap.push _).objs.size ∧ _
    rw [Heap.size_push]
    simp at hb
    rcases hb with e | e
    · rw [e]; exact ⟨Nat.lt_succ_self _, sb.size⟩
    · rw [e]; exact ⟨Nat.lt_succ_of_lt hlt, hS⟩
  · intro b hb
    simp at hb; subst hb
    exact get_size_none _
  · intro i h st b hb
    simp at hb; subst hb
    obtain ⟨⟨o, ho, _⟩, _⟩ := st
    exact ⟨o, ho⟩
  · intro i v _ hv
    have hv' : vs[i]? = some v := by simpa using hv
    obtain ⟨d, hd, r⟩ := q.get' hv'
    refine ⟨d, hd, (r.more fun a ha => ?_).keep (keepH_push _)⟩
    rcases ha with ha | ha
    · exact .inl ha
    · simp at ha; subst ha; exact .inr (get_size_none _)
theorem evI_list {e ds} (h : Ev c env n σ e (.list ds)) : EvI c env n σ e ds := fun A S s E a =>
  wpAny_mono (h A S s E a) (fun v s₁ p => wpAny_mono (iter_list a.room.1 (a.keep p.1).sb p.2) (fun _ _ q => q.from p.1) fun _ _ x => x) fun _ _ x => x
theorem evI_tuple {e ds} (h : Ev c env n σ e (.tuple ds)) : EvI c env n σ e ds := fun A S s E a =>
  wpAny_mono (h A S s E a) (fun v s₁ p => wpAny_mono (iter_tuple a.room.1 (a.keep p.1).sb p.2) (fun _ _ q => q.from p.1) fun _ _ x => x) fun _ _ x => x

-- the ints of a range
noncomputable def rangeD (a b : Int) : List PyData := (List.range (b - a).toNat).map fun i => .int (a + (i : Nat))
theorem iter_range {r : Addr} {a b : Int} {t u v : Tok} (hh : A.handled = none) (sb : SB S s.heap) (hr : IsRange s.heap r a b 1 t u v) (ha : -(2 ^ 31) ≤ a ∧ a < 2 ^ 31) (hb : -(2 ^ 31) ≤ b ∧ b < 2 ^ 31) :
    wpAny c.M A (pyIter (.ref r)) (ItOk c A S s (rangeD a b)) E s := by
  have hsz : Builtin.Range.rangeSize a b 1 = ((b - a).toNat : Int) := by
    rw [rangeSize_one]; split <;> omega
  have hsm : Builtin.Range.small a b 1 = true := by
    unfold Builtin.Range.small
    rw [hsz]
    simp only [Builtin.Range.rangeFitsLong, Bool.and_eq_true, Bool.or_eq_true, decide_eq_true_eq]
    refine ⟨⟨⟨⟨⟨?_, ?_⟩, ⟨?_, ?_⟩⟩, ⟨?_, ?_⟩⟩, ⟨?_, ?_⟩⟩, .inr ?_⟩ <;> first | omega | (simp; omega) | skip
  refine wpAny_pyIter_range hr hsm ?_
  have hl : (rangeD a b).length = (b - a).toNat := by simp [rangeD]
  have W := Walks.range (prog := c.prog) (w := c.w) hh s.heap.objs.size a 1 (b - a).toNat
  rw [← hl] at W
  refine ⟨_, _, _, _, _, rfl, Keeps.push _, W, ?_, ?_, ?_, ?_, (fun i h st => ⟨_, _, st, rfl, by decide⟩), ?_⟩
  · rw [hsz, hl]
    simpa using Heap.get?_push_size s.heap rfl
  · intro p hp
    show p < (s.heap.push _).objs.size ∧ _
    rw [Heap.size_push]
    simp at hp; rw [hp]; exact ⟨Nat.lt_succ_self _, sb.size⟩
  · intro p hp
    simp at hp; subst hp
    exact get_size_none _
  · intro i h st p hp
    simp at hp; subst hp
    exact ⟨_, st⟩
  · rintro i v hi ⟨t, rfl⟩
    refine ⟨.int (a + (i : Nat)), ?_, by simpa using Rd.int _ _⟩
    rw [hl] at hi
    simp [rangeD, hi]
theorem evI_range2 {x p e e' pos a b} (hf : EvV c env n σ (.Name x p) (.type "range")) (he : Ev c env n σ e (.int a)) (he' : Ev c env n σ e' (.int b)) (ha : -(2 ^ 31) ≤ a ∧ a < 2 ^ 31) (hb : -(2 ^ 31) ≤ b ∧ b < 2 ^ 31)
    (hs : starEach [e, e'] env = (false, eval e env) :: starEach [e'] env := by rfl) (hs' : starEach [e'] env = (false, eval e' env) :: starEach [] env := by rfl) :
    EvI c env n σ (.Call (.Name x p) [e, e'] [] pos) (rangeD a b) := fun A S s E at' => by
  show wpAny _ _ (eval (.Name x p) env >>= fun f => callWith pos f [] (backTo pos (starEach [e, e'] env)) (backToKw pos (keywordEach [] env))) _ _ s
  refine wpAny_bind (wpAny_mono (hf A S s E at') (fun v s₁ p₁ => ?_) fun _ _ x => x)
  obtain ⟨rfl, rfl⟩ := p₁
  have ha' := evL_cons he (evL_cons he' evL_nil hs') hs A S _ E pos at'
  rw [hs] at ha' ⊢
  refine PySem.callWith_type (by rw [hs']; rfl) (evalArgs_plain (wpAny_mono ha' (fun vs s₂ p₂ => ?_) fun _ _ x => x))
  obtain ⟨k, r⟩ := p₂
  obtain ⟨v, v', rfl, r₁, r₂⟩ := r.two
  obtain ⟨t, rfl⟩ := r₁.int_inv
  obtain ⟨u, rfl⟩ := r₂.int_inv
  refine call_range_2 ?_
  have k' : Keeps s₂ { s₂ with heap := s₂.heap.push { cls := .type "range", data := .fields #[.int a t, .int b u, .int 1 s₂.toks] }, toks := s₂.toks + 1 } := ⟨_, _, rfl, keepH_push _⟩
  exact wpAny_mono (iter_range at'.room.1 ((at'.keep k).keep k').sb (IsRange.new ..) ha hb) (fun _ _ q => (q.from k').from k) fun _ _ x => x
theorem evI_range1 {x p e pos b} (hf : EvV c env n σ (.Name x p) (.type "range")) (he : Ev c env n σ e (.int b)) (hb : -(2 ^ 31) ≤ b ∧ b < 2 ^ 31)
    (hs : starEach [e] env = (false, eval e env) :: starEach [] env := by rfl) :
    EvI c env n σ (.Call (.Name x p) [e] [] pos) (rangeD 0 b) := fun A S s E at' => by
  show wpAny _ _ (eval (.Name x p) env >>= fun f => callWith pos f [] (backTo pos (starEach [e] env)) (backToKw pos (keywordEach [] env))) _ _ s
  refine wpAny_bind (wpAny_mono (hf A S s E at') (fun v s₁ p₁ => ?_) fun _ _ x => x)
  obtain ⟨rfl, rfl⟩ := p₁
  have ha' := evL_cons he evL_nil hs A S _ E pos at'
  rw [hs] at ha' ⊢
  refine PySem.callWith_type rfl (evalArgs_plain (wpAny_mono ha' (fun vs s₂ p₂ => ?_) fun _ _ x => x))
  obtain ⟨k, r⟩ := p₂
  obtain ⟨v, rfl, r₁⟩ := r.one
  obtain ⟨t, rfl⟩ := r₁.int_inv
  refine call_range_1 ?_
  have k' : Keeps s₂ { s₂ with heap := s₂.heap.push { cls := .type "range", data := .fields #[.int 0 s₂.toks, .int b t, .int 1 (s₂.toks + 1)] }, toks := s₂.toks + 1 + 1 } := ⟨_, _, rfl, keepH_push _⟩
  exact wpAny_mono (iter_range at'.room.1 ((at'.keep k).keep k').sb (IsRange.new ..) (by decide) hb) (fun _ _ q => (q.from k').from k) fun _ _ x => x
end
end Mine
end

section
open PySem PySem.W PySem.Calls PyProof.Rows PySem.Spec
set_option maxRecDepth 100000
namespace Mine

-- a comprehension's frame with its list under way at D
structure CI (c : Cx) (env : Env) (n : Nat) (X : Addr → Prop) (D : Addr) (σ : List (Str × PyData)) (A : Around) (S : Addr → Prop) (ys : List PyData) (s : Shared) : Prop where
  toAt : AtS c env n X σ A S s
  acc : ∃ vs : List Value, s.heap.IsList D vs.toArray ∧ RdAll c.P S s.heap vs ys
  xd : X D
  dl : D ≠ env.locals
  dc : ∀ p ∈ env.cells, p.2 ≠ D

-- a target of a loop
noncomputable def Asg (c : Cx) (env : Env) (n : Nat) (X : Addr → Prop) (target : Expr) (d : PyData) (τ : List (Str × PyData)) : Prop :=
  ∀ A S s E σ v, AtS c env n X σ A S s → Rd c.P S s.heap v d → wpAny c.M A (assign target env v) (fun _ s' => KeepS X s s' ∧ KeepB (FrA env) s.heap s'.heap ∧ AtS c env n X (τ ++ σ) A S s') E s

section
variable {c : Cx} {env : Env} {n : Nat} {X S : Addr → Prop} {D : Addr} {σ : List (Str × PyData)} {A : Around} {s s' : Shared} {E : Value → Shared → Prop} {ys : List PyData}

theorem CI.keep (i : CI c env n X D σ A S ys s) (k : Keeps s s') : CI c env n X D σ A S ys s' :=
  let ⟨vs, hl, r⟩ := i.acc
  ⟨i.toAt.keep k, ⟨vs, (let ⟨o, ho, q⟩ := hl; ⟨o, Keeps.h k _ _ ho, q⟩), r.keep (Keeps.h k)⟩, i.xd, i.dl, i.dc⟩

theorem ci_append {v : Value} {d : PyData} {Q : Value → Shared → Prop} (i : CI c env n X D σ A S ys s) (r : Rd c.P S s.heap v d) (hz : ys.length ≤ sizeLine)
    (hQ : ∀ s', KeepS X s s' → CI c env n X D σ A S (ys ++ [d]) s' → Q .none s') : wpAny c.M A (call (.builtin "list.append") [.ref D, v]) Q E s := by
  obtain ⟨vs, hl, q⟩ := i.acc
  refine wpAny_list_append hl (fun h' hl' hs => ?_) (by rw [List.size_toArray, q.length]; exact hz)
  have kb : KeepB X s.heap h' := KeepB.ofSame hs i.xd
  have f := i.toAt.fm
  have kS := kb.mono f.xs
  refine hQ _ ⟨h', s.toks, rfl, kb⟩ ⟨⟨i.toAt.room, i.toAt.good.keepB kb, fun a ha => ?_, f.move f.xs (fun a o n e => ⟨n, kS a o n e⟩) (fun o e => (hs.2 _ (Ne.symm i.dl)).trans e) fun p hp o e => (hs.2 _ (i.dc p hp)).trans e⟩,
    ⟨vs ++ [v], by simpa using hl', (q.keepB kS).append (.cons (r.keepB kS) .nil)⟩, i.xd, i.dl, i.dc⟩
  by_cases e : a = D
  · subst e; obtain ⟨o, ho, _⟩ := hl'; exact ⟨o, ho⟩
  · obtain ⟨o, ho⟩ := i.toAt.sb a ha; exact ⟨o, (hs.2 _ e).trans ho⟩

theorem let_owned {target : Expr} {I : Addr} {v : Value} {Q : Unit → Shared → Prop} {o : Obj} {T : String} (ho : s.heap.get? I = some o) (hc : o.cls = .type T) (hT : ownIts.contains T = false) (h : Q () s) :
    wpAny c.M A (letOwnedTupleGo target (.ref I) v) Q E s := by
  have key : wpAny c.M A (do
    let (.ref r, .ref a) := (Value.ref I, v) | return
    let o ← load r
    match o.cls, o.data with
    | .type n, .fields vs =>
      if ownIts.contains n && vs[0]? == some (rawInt a) then
        rule "for.unpacks-the-owned-tuple"
        updateField r 0 .none
    | _, _ => pure () : Sem Unit) Q E s := by
    cases v <;> try exact wpAny_pure h
    refine wpAny_bind (wpAny_load ho ?_)
    rw [hc]
    split
    · rename_i vs e1 e2
      cases e1
      rw [hT]
      exact wpAny_pure h
    · exact wpAny_pure h
  unfold letOwnedTupleGo
  split
  · exact key
  · exact key
  · exact wpAny_pure h

-- the loop of a comprehension over an iterator, whatever a turn does to the list
theorem comp_loop {e : Expr} {depth : Nat} {I : Addr} {fp wr : List Addr} {P : Nat → Value → Prop} {St : Nat → Heap → Prop} {α : Type} {ds : List α} {dt : α → PyData} {g : α → List PyData} {R : Result → Shared → Prop} {target : Expr} {body : Value → Sem Unit}
    (W : Walks c.prog c.w A I fp wr ds.length P St) (hst : St 0 s.heap) (hfx : ∀ b ∈ fp, ¬ X b) (hwr : ∀ b ∈ wr, S b)
    (hob : ∀ i h, St i h → ∀ b ∈ wr, ∃ o, h.get? b = some o) (hpl : ∀ i h, St i h → ∃ o T, h.get? I = some o ∧ o.cls = .type T ∧ ownIts.contains T = false)
    (hP : ∀ (i : Nat) v, i < ds.length → P i v → ∃ d, ds[i]? = some d ∧ Rd c.P S s.heap v (dt d)) (hgw : GoodX c (fun a => X a ∨ a ∈ wr) s.heap)
    (hlw : env.locals ∉ wr) (hcw : ∀ p ∈ env.cells, p.2 ∉ wr)
    (ci : CI c env n X D σ A S ys s)
    (hq : (Code.compLoop e depth (.ref I) (.ref D) env).quiet = true)
    (hden : c.M.den (.compLoop e depth (.ref I) (.ref D) env) = (compTurn e depth (.ref I) (.ref D) env).onRaise (fun x => do noteFrame x env; theTreesLotGoes x))
    (hA : A.under (.compLoop e depth (.ref I) (.ref D) env) = A)
    (ht : ∀ Q E s, wpAny c.M A (pyNext (.ref I)) (fun r s₁ => match r with
      | none => Q (.done .next) s₁
      | some v => wpAny c.M A (letOwnedTupleGo target (.ref I) v) (fun _ s₂ => wpAny c.M A (body v) (fun _ s₃ => Q (.again (.compLoop e depth (.ref I) (.ref D) env)) s₃) E s₂) E s₁) E s →
      wpAny c.M A (compTurn e depth (.ref I) (.ref D) env) Q E s)
    (turn : ∀ (i : Nat) d v ys s' E, ds[i]? = some d → CI c env n X D σ A S ys s' → Rd c.P S s'.heap v (dt d) → ys.length + (g d).length ≤ sizeLine →
      wpAny c.M A (body v) (fun _ s'' => KeepS X s' s'' ∧ CI c env n X D σ A S (ys ++ g d) s'') E s')
    (hz : ys.length + (ds.flatMap g).length ≤ sizeLine)
    (done : ∀ s', KeepS (fun a => X a ∨ a ∈ wr) s s' → Fm c env X S σ s'.heap → (∃ vs : List Value, s'.heap.IsList D vs.toArray ∧ RdAll c.P S s'.heap vs (ys ++ ds.flatMap g)) → R (.ok .next) s') :
    codeAny c.M A (.compLoop e depth (.ref I) (.ref D) env) R s := by
  refine codeAny_loop hq (fun k s' => ∃ i, i ≤ ds.length ∧ k = ds.length + 1 - i ∧ St i s'.heap ∧ KeepS (fun a => X a ∨ a ∈ wr) s s' ∧ CI c env n X D σ A S (ys ++ (ds.take i).flatMap g) s') ?_ (ds.length + 1)
    ⟨0, Nat.zero_le _, rfl, hst, KeepS.refl, by simpa using ci⟩
  rintro k s' ⟨i, hi, rfl, st, ks, ci'⟩
  rw [hA, hden]
  refine wpAny_noted ?_
  refine ht _ _ _ ?_
  have f := ci'.toAt.fm
  by_cases hlt : i < ds.length
  · refine W.item i s' _ _ hlt st fun v h₁ tk₁ hPv st₁ hk₁ => ?_
    obtain ⟨d, hd, r⟩ := hP i v hlt hPv
    have kw : KeepB (fun a => a ∈ wr) s'.heap h₁ := fun b o n e => hk₁ b o n e
    have kwS : KeepB S s'.heap h₁ := kw.mono hwr
    have ks₁ : KeepS (fun a => X a ∨ a ∈ wr) s { s' with heap := h₁, toks := tk₁ } := ks.trans ⟨h₁, tk₁, rfl, kw.mono fun _ => .inr⟩
    have r₁ : Rd c.P S h₁ v (dt d) := r.keepB (ks₁.b.mono fun a q => q.elim (f.xs a) (hwr a))
    have f₁ : Fm c env X S σ h₁ := f.move f.xs (fun a o n e => ⟨n, kwS a o n e⟩) (fun o e => hk₁ _ o hlw e) fun p hp o e => hk₁ _ o (hcw p hp) e
    have sb₁ : SB S h₁ := fun a ha => by
      by_cases q : a ∈ wr
      · exact hob _ _ st₁ a q
      · obtain ⟨o, ho⟩ := ci'.toAt.sb a ha; exact ⟨o, hk₁ a o q ho⟩
    have hDw : D ∉ wr := fun q => hfx D (W.sub _ q) ci'.xd
    have ci₁ : CI c env n X D σ A S (ys ++ (ds.take i).flatMap g) { s' with heap := h₁, toks := tk₁ } := by
      obtain ⟨vs, hl, q⟩ := ci'.acc
      refine ⟨⟨ci'.toAt.room, ?_, sb₁, f₁⟩, ⟨vs, (let ⟨o, ho, z⟩ := hl; ⟨o, hk₁ _ _ hDw ho, z⟩), q.keepB kwS⟩, ci'.xd, ci'.dl, ci'.dc⟩
      obtain ⟨h₀, a, b, z⟩ := hgw
      exact ⟨h₀, a, fun p o e => ks₁.b p o (fun q => by rw [z p q] at e; cases e) (b p o e), fun a q => z a (.inl q)⟩
    obtain ⟨o, T, ho, hc, hT⟩ := hpl _ _ st₁
    refine let_owned (s := { s' with heap := h₁, toks := tk₁ }) ho hc hT ?_
    have hlen : (ys ++ (ds.take i).flatMap g).length + (g d).length ≤ sizeLine := by
      have : ds.flatMap g = (ds.take (i + 1)).flatMap g ++ (ds.drop (i + 1)).flatMap g := by rw [← List.flatMap_append, List.take_append_drop]
      rw [this, List.take_add_one, hd, List.flatMap_append] at hz
      simp at hz ⊢
      omega
    refine wpAny_mono (turn i d v _ _ _ hd ci₁ r₁ hlen) (fun _ s₂ h₂ => ?_) fun _ _ x => x
    obtain ⟨k₂, ci₂⟩ := h₂
    refine ⟨rfl, ds.length + 1 - (i + 1), by omega, i + 1, hlt, rfl, W.frame _ _ _ st₁ fun b hb o e => k₂.b b o (hfx b hb) e, ks₁.trans (k₂.mono fun _ => .inl), ?_⟩
    rw [List.take_add_one, hd, List.flatMap_append]
    simpa [List.append_assoc] using ci₂
  · obtain rfl : i = ds.length := by omega
    refine W.done s' _ _ st fun h₁ tk₁ hk₁ => ?_
    have kw : KeepB (fun a => a ∈ wr) s'.heap h₁ := fun b o n e => hk₁ b o n e
    have hDw : D ∉ wr := fun q => hfx D (W.sub _ q) ci'.xd
    have kwS : KeepB S s'.heap h₁ := kw.mono hwr
    have f₁ : Fm c env X S σ h₁ := f.move f.xs (fun a o n e => ⟨n, kwS a o n e⟩) (fun o e => hk₁ _ o hlw e) fun p hp o e => hk₁ _ o (hcw p hp) e
    obtain ⟨vs, hl, q⟩ := ci'.acc
    rw [List.take_length] at q
    exact done _ (ks.trans ⟨h₁, tk₁, rfl, kw.mono fun _ => .inr⟩) f₁ ⟨vs, (let ⟨o, ho, z⟩ := hl; ⟨o, hk₁ _ _ hDw ho, z⟩), q.keepB kwS⟩
end
end Mine
end

section
open PySem PySem.W PySem.Calls PyProof.Rows PySem.Spec
set_option maxRecDepth 100000
namespace Mine

section
variable {c : Cx} {env : Env} {n : Nat} {X S : Addr → Prop} {D : Addr} {σ : List (Str × PyData)} {A : Around} {s s' : Shared} {E : Value → Shared → Prop} {ys : List PyData}

theorem asg_name {x pos d} (hx : CanStore env X x) : Asg c env n X (.Name x pos) d [(x, d)] := fun A S s E σ v a r =>
  wpAny_assign_Name (store_at a r hx fun s' k kf a' => ⟨k, kf, a'⟩)
theorem KeepB.ofExtSize {Y : Addr → Prop} {h h' : Heap} (x : Heap.ExtBut h.objs.size h h') : KeepH h h' := fun b o e => x b o (Nat.ne_of_lt (Heap.lt_size e)) e
theorem asg_pair {x y px py k pos d₁ d₂} (hx : CanStore env X x) (hy : CanStore env X y) : Asg c env n X (.Tuple [.Name x px, .Name y py] k pos) (.tuple [d₁, d₂]) [(y, d₂), (x, d₁)] := fun A S s E σ v a r => by
  obtain ⟨t, vs, rfl, ht, q, _⟩ := r.tuple_inv
  obtain ⟨v₁, v₂, rfl, r₁, r₂⟩ := q.two
  refine wpAny_assign_Tuple a.room.1 ht rfl rfl fun h' he => ?_
  have k : Keeps s { s with heap := h' } := ⟨h', s.toks, rfl, KeepB.ofExtSize (Y := X) he⟩
  have a₁ := a.keep k
  show wpAny _ _ (holding [v₂] (assign (.Name x px) env v₁) >>= fun _ => holding [] (assign (.Name y py) env v₂) >>= fun _ => pure ()) _ _ _
  refine wpAny_bind (wpAny_holding (wpAny_assign_Name (store_at a₁ (r₁.keep (Keeps.h k)) hx fun s₂ k₂ kf₂ a₂ => ?_)))
  refine wpAny_bind (wpAny_holding (wpAny_assign_Name (store_at a₂ ((r₂.keep (Keeps.h k)).keepB (k₂.b.mono a₁.fm.xs)) hy fun s₃ k₃ kf₃ a₃ => wpAny_pure ⟨(KeepS.of k).trans (k₂.trans k₃), ?_, a₃⟩)))
  exact fun b o n e => kf₃ b o n (kf₂ b o n (Keeps.h k b o e))

-- the tests of a clause
noncomputable def testsOf (ifs : List Expr) (env : Env) : Sem Bool := forIn ifs true fun c r => if r = true then do let ok ← isTrue c env (eval c env); pure (ForInStep.yield ok) else pure (ForInStep.yield r)
noncomputable def EvTs (c : Cx) (env : Env) (n : Nat) (σ : List (Str × PyData)) (ifs : List Expr) (b : Bool) : Prop :=
  ∀ A S s E, At c env n σ A S s → wpAny c.M A (testsOf ifs env) (fun r s' => r = b ∧ Keeps s s') E s
theorem evTs_nil : EvTs c env n σ [] true := fun A S s E a => wpAny_tests_nil ⟨rfl, Keeps.refl'⟩
theorem evTs_one {e b} (h : EvT c env n σ e b) : EvTs c env n σ [e] b := fun A S s E a => wpAny_tests_one (h A S s E a)

noncomputable def emitOf (elt : Expr) (acc : Value) (env : Env) : Sem Unit := eval elt env >>= fun x => call (.builtin "list.append") [acc, x] >>= fun _ => pure ()
noncomputable def bodyOf (elt target : Expr) (ifs : List Expr) (acc : Value) (env : Env) (v : Value) : Sem Unit :=
  assign target env v >>= fun _ => testsOf ifs env >>= fun ok => if ok = true then emitOf elt acc env else pure ()

theorem turn_one {elt target iter : Expr} {ifs : List Expr} {scope : Scope} {pos : Pos} {I D : Addr} : ∀ Q E s, wpAny c.M A (pyNext (.ref I)) (fun r s₁ => match r with
      | none => Q (.done .next) s₁
      | some v => wpAny c.M A (letOwnedTupleGo target (.ref I) v) (fun _ s₂ => wpAny c.M A (bodyOf elt target ifs (.ref D) env v) (fun _ s₃ => Q (.again (.compLoop (.ListComp elt [⟨target, iter, ifs, 0⟩] scope pos) 0 (.ref I) (.ref D) env)) s₃) E s₂) E s₁) E s →
      wpAny c.M A (compTurn (.ListComp elt [⟨target, iter, ifs, 0⟩] scope pos) 0 (.ref I) (.ref D) env) Q E s := fun Q E s h => by
  rw [compTurn_list]
  refine wpAny_bind (wpAny_standAt (wpAny_bind (wpAny_mono h (fun r s₁ h₁ => ?_) fun _ _ x => x)))
  cases r with
  | none => exact wpAny_pure h₁
  | some v =>
    refine wpAny_bind (wpAny_mono h₁ (fun _ s₂ h₂ => ?_) fun _ _ x => x)
    have e : ∀ (t : Sem PySem.Fin), (bodyOf elt target ifs (.ref D) env v >>= fun _ => t) = (assign target env v >>= fun _ => testsOf ifs env >>= fun ok => if ok = true then emitOf elt (.ref D) env >>= fun _ => t else t) := by
      intro t
      unfold bodyOf
      rw [bind_assoc]
      refine congrArg _ (funext fun _ => ?_)
      rw [bind_assoc]
      refine congrArg _ (funext fun ok => ?_)
      cases ok <;> simp
    have h₃ : wpAny c.M A (bodyOf elt target ifs (.ref D) env v >>= fun _ => again (.compLoop (.ListComp elt [⟨target, iter, ifs, 0⟩] scope pos) 0 (.ref I) (.ref D) env)) Q E s₂ := wpAny_bind (wpAny_mono h₂ (fun _ _ x => wpAny_pure x) fun _ _ x => x)
    rw [e] at h₃
    exact h₃

-- one turn of a clause with tests and an element
theorem body_ok {cenv : Env} {σ0 : List (Str × PyData)} {elt target : Expr} {ifs : List Expr} {d r : PyData} {v : Value} {b : Bool} {τ : List (Str × PyData)} (ci : CI c cenv n X D σ0 A S ys s) (rv : Rd c.P S s.heap v d) (hz : ys.length ≤ sizeLine)
    (ha : Asg c cenv n X target d τ) (ht : EvTs c cenv n (τ ++ σ0) ifs b) (he : b = true → Ev c cenv n (τ ++ σ0) elt r) (hsub : ∀ x d, σ0.lookup x = some d → (τ ++ σ0).lookup x = some d) :
    wpAny c.M A (bodyOf elt target ifs (.ref D) cenv v) (fun _ s'' => KeepS X s s'' ∧ CI c cenv n X D σ0 A S (ys ++ if b then [r] else []) s'') E s := by
  refine wpAny_bind (wpAny_mono (ha A S s E σ0 v ci.toAt rv) (fun _ s₁ h₁ => ?_) fun _ _ x => x)
  obtain ⟨k₁, kf₁, a₁⟩ := h₁
  have hD : ¬ FrA cenv D := fun q => q.elim ci.dl fun ⟨p, hp, q⟩ => ci.dc p hp q
  have ci₁ : CI c cenv n X D (τ ++ σ0) A S ys s₁ := by
    obtain ⟨vs, hl, q⟩ := ci.acc
    exact ⟨a₁, ⟨vs, (let ⟨o, ho, z⟩ := hl; ⟨o, kf₁ _ _ hD ho, z⟩), q.keepB (k₁.b.mono ci.toAt.fm.xs)⟩, ci.xd, ci.dl, ci.dc⟩
  refine wpAny_bind (wpAny_mono (ht A S s₁ E a₁.at) (fun ok s₂ h₂ => ?_) fun _ _ x => x)
  obtain ⟨rfl, k₂⟩ := h₂
  have ci₂ := ci₁.keep k₂
  cases ok with
  | false =>
    simp only [Bool.false_eq_true, if_false, List.append_nil]
    exact wpAny_pure ⟨k₁.trans (KeepS.of k₂), ⟨ci₂.toAt.sub hsub, ci₂.acc, ci₂.xd, ci₂.dl, ci₂.dc⟩⟩
  | true =>
    simp only [if_true]
    refine wpAny_bind (wpAny_mono (he rfl A S s₂ E ci₂.toAt.at) (fun x s₃ p₃ => ?_) fun _ _ x => x)
    refine wpAny_bind (ci_append (ci₂.keep p₃.1) p₃.2 hz fun s₄ k₄ ci₄ => wpAny_pure ⟨(k₁.trans (KeepS.of k₂)).trans ((KeepS.of p₃.1).trans k₄), ?_⟩)
    exact ⟨ci₄.toAt.sub hsub, ci₄.acc, ci₄.xd, ci₄.dl, ci₄.dc⟩

-- the cells that a comprehension takes from around it
noncomputable def closL (cells : List (Str × Addr)) : List (Str × NameKind) → List (Str × Addr) → Option (List (Str × Addr))
  | [], acc => some acc
  | (x, k) :: r, acc => if k == .free then (match cells.lookup x with | some a => closL cells r ((x, a) :: acc) | none => none) else closL cells r acc
theorem closL_run {cells : List (Str × Addr)} {env : Env} (he : env.cells = cells) : ∀ (names : List (Str × NameKind)) (acc cl : List (Str × Addr)), closL cells names acc = some cl →
    (forIn names acc fun (x : Str × NameKind) (r : List (Str × Addr)) => (if (x.2 == .free) = true then do let a ← cellOf env x.1; pure (ForInStep.yield ((x.1, a) :: r)) else pure (ForInStep.yield r) : Sem (ForInStep (List (Str × Addr))))) = pure cl
  | [], acc, cl, h => by cases h; rfl
  | (x, k) :: r, acc, cl, h => by
    rw [List.forIn_cons]
    unfold closL at h
    cases hk : k == NameKind.free with
    | false =>
      rw [hk] at h
      simp only [hk, Bool.false_eq_true, if_false] at h ⊢
      rw [pure_bind]
      exact closL_run he r acc cl h
    | true =>
      rw [hk] at h
      simp only [hk, if_true] at h ⊢
      cases hl : cells.lookup x with
      | none => rw [hl] at h; cases h
      | some a =>
        rw [hl] at h
        have : cellOf env x = pure a := by unfold cellOf; rw [he, hl]
        rw [this, pure_bind, pure_bind]
        exact closL_run he r _ cl h
theorem closL_in {cells : List (Str × Addr)} : ∀ (names : List (Str × NameKind)) (acc cl : List (Str × Addr)), closL cells names acc = some cl → (∀ p ∈ acc, cells.lookup p.1 = some p.2) → ∀ p ∈ cl, cells.lookup p.1 = some p.2
  | [], acc, cl, h, ha => by cases h; exact ha
  | (x, k) :: r, acc, cl, h, ha => by
    unfold closL at h
    split at h
    · split at h
      · rename_i a hl
        refine closL_in r _ cl h fun p hp => ?_
        rcases List.mem_cons.mp hp with rfl | hp
        · exact hl
        · exact ha p hp
      · cases h
    · exact closL_in r _ cl h ha
theorem closureFor_of {scope : Scope} {cl : List (Str × Addr)} (h : closL env.cells scope.names [] = some cl) : closureFor scope env = pure cl := by
  unfold closureFor
  have := closL_run (env := env) rfl scope.names [] cl h
  show (forIn scope.names [] _ >>= fun cs => pure cs) = _
  rw [this]
  rfl
theorem cellsFrom_app : ∀ (names : List (Str × NameKind)) (k : Nat) (acc : List (Str × Addr)), cellsFrom k names acc = cellsFrom k names [] ++ acc
  | [], _, _ => rfl
  | (x, kd) :: r, k, acc => by
    unfold cellsFrom
    split
    · rw [cellsFrom_app r (k + 1) ((x, k) :: acc), cellsFrom_app r (k + 1) [(x, k)], List.append_assoc]; rfl
    · exact cellsFrom_app r k acc

-- the frame of a comprehension
noncomputable def cenvOf (scope : Scope) (cl : List (Str × Addr)) (C : Addr) (env : Env) : Env :=
  { scope := relabel scope env, locals := C, globals := env.globals, cells := cellsFrom (C + 1) scope.names cl, qual := env.qual, func := none, code := env.code, frame := env.frame, builtins := env.builtins }
theorem newEnv_comp {scope : Scope} {cl : List (Str × Addr)} {globals : Addr} {qual : Str} {Q : Env → Shared → Prop}
    (h : Q (newEnv scope s.heap.objs.size globals (cellsFrom (s.heap.objs.size + 1) scope.names cl) qual none .none (some env) builtinsNs) { s with heap := pushCells (s.heap.push { cls := .type "dict", data := .dict #[] }) scope.names }) :
    wpAny c.M A (newFunctionEnv scope globals cl [] qual none .none (some env)) Q E s := by
  simp only [newFunctionEnv, Option.isSome_some, if_true]
  refine wpAny_bind (wpAny_alloc ?_)
  refine wpAny_bind (wpAny_layCells _ (fun name kind cells => by cases hkc : kind == NameKind.cell <;> simp [hkc]) _ _ _ _ ?_)
  rw [show ({ s with heap := s.heap.push { cls := .type "dict", data := .dict #[] } } : Shared).heap.objs.size = s.heap.objs.size + 1 from Heap.size_push ..]
  exact wpAny_bind (wpAny_pure (wpAny_pure h))

-- a name that a comprehension takes from around it
noncomputable def CapOk (env : Env) (scope : Scope) (cl : List (Str × Addr)) (σ : List (Str × PyData)) (p : Str × PyData) : Prop :=
  σ.lookup p.1 = some p.2 ∧ env.kindOf p.1 = some .cell ∧ (relabel scope env).names.lookup p.1 = some .cell ∧ ∀ k, (cellsFrom k scope.names cl).lookup p.1 = env.cells.lookup p.1

theorem comp_start {s₀ s₂ : Shared} {scope : Scope} {cl : List (Str × Addr)} {σ0 : List (Str × PyData)} {wr : List Addr}
    (a : At c env n σ A S s₀) (k : Keeps s₀ s₂) (hw : ∀ b ∈ wr, s₀.heap.get? b = none) (hwa : ∀ b ∈ wr, ∃ o, s₂.heap.get? b = some o)
    (hcl : closL env.cells scope.names [] = some cl) (hnd : (cl.map (·.1)).Nodup) (hkind : scope.kind = .function) (hσ : ∀ p ∈ σ0, CapOk env scope cl σ p) :
    ∃ X : Addr → Prop, (∀ a, X a → s₂.heap.objs.size ≤ a ∧ (a = s₂.heap.objs.size ∨ FrA (cenvOf scope cl (s₂.heap.objs.size + 1) env) a)) ∧ (∀ x, scope.names.lookup x = some .local → CanStore (cenvOf scope cl (s₂.heap.objs.size + 1) env) X x) ∧
      (∀ x a, (relabel scope env).names.lookup x = some .cell → (cellsFrom (s₂.heap.objs.size + 1 + 1) scope.names []).lookup x = some a → CanStore (cenvOf scope cl (s₂.heap.objs.size + 1) env) X x) ∧
      GoodX c (fun a => X a ∨ a ∈ wr) (pushCells ((s₂.heap.push { cls := .type "list", data := .seq #[] }).push { cls := .type "dict", data := .dict #[] }) scope.names) ∧
      (∀ p ∈ (cenvOf scope cl (s₂.heap.objs.size + 1) env).cells, p.2 ∉ wr) ∧ KeepH s₂.heap (pushCells ((s₂.heap.push { cls := .type "list", data := .seq #[] }).push { cls := .type "dict", data := .dict #[] }) scope.names) ∧
      CI c (cenvOf scope cl (s₂.heap.objs.size + 1) env) n X s₂.heap.objs.size σ0 A (fun a => (S a ∨ a ∈ wr) ∨ X a) []
        { s₂ with heap := pushCells ((s₂.heap.push { cls := .type "list", data := .seq #[] }).push { cls := .type "dict", data := .dict #[] }) scope.names } := by
  have f := (a.keep k).fr
  have sb := (a.keep k).sb
  generalize hH : s₂.heap = H at *
  generalize hL : ({ cls := .type "list", data := .seq #[] } : Obj) = ol
  generalize hDd : ({ cls := .type "dict", data := .dict #[] } : Obj) = od
  have sz1 : (H.push ol).objs.size = H.objs.size + 1 := Heap.size_push ..
  have sz2 : ((H.push ol).push od).objs.size = H.objs.size + 2 := by rw [Heap.size_push, sz1]
  have ok := cellsFrom_ok scope.names ((H.push ol).push od) (H.objs.size + 2) [] ⟨fun _ _ hm => (nomatch hm), List.Pairwise.nil⟩ (by rw [sz2]; exact Nat.le_refl _)
  rw [sz2] at ok
  have kp : KeepH ((H.push ol).push od) (pushCells ((H.push ol).push od) scope.names) := pushCells_keeps _ _
  have kH : KeepH H (pushCells ((H.push ol).push od) scope.names) := fun b o e => kp b o (keepH_push _ _ _ (keepH_push _ _ _ e))
  have hD : (pushCells ((H.push ol).push od) scope.names).get? H.objs.size = some ol := kp _ _ (keepH_push _ _ _ (Heap.get?_push_size _ (by rw [← hL]; rfl)))
  have hC : (pushCells ((H.push ol).push od) scope.names).Ns (H.objs.size + 1) fun _ => none := by
    rw [← sz1, ← hDd]; exact (Heap.Ns.new _ _).keeps (pushCells_keeps _ _)
  generalize pushCells ((H.push ol).push od) scope.names = H4 at *
  have lk : ∀ b, H.objs.size ≤ b → H.get? b = none := fun b hb => by
    cases e : H.get? b with
    | none => rfl
    | some o => exact absurd (Heap.lt_size e) (Nat.not_lt.mpr hb)
  have hcells : (cenvOf scope cl (H.objs.size + 1) env).cells = cellsFrom (H.objs.size + 2) scope.names [] ++ cl := cellsFrom_app _ _ _
  have hclin := closL_in scope.names [] cl hcl (fun _ hm => nomatch hm)
  have clalive : ∀ p ∈ cl, p.2 < H.objs.size := fun p hp => by
    obtain ⟨o, ob, ho, _⟩ := f.cells _ (PySem.mem_of_lookup (hclin p hp))
    exact Heap.lt_size ho
  let X : Addr → Prop := fun a => a = H.objs.size ∨ a = H.objs.size + 1 ∨ ∃ p ∈ cellsFrom (H.objs.size + 2) scope.names [], p.2 = a
  have hXge : ∀ a, X a → H.objs.size ≤ a := by
    rintro a (rfl | rfl | ⟨p, hp, rfl⟩)
    · exact Nat.le_refl _
    · exact Nat.le_succ _
    · have := (ok.empty p.1 p.2 hp).2; omega
  have hXn : ∀ a, X a → H.get? a = none := fun a h => lk a (hXge a h)
  have hX0 : ∀ a, X a → s₀.heap.get? a = none := fun a h => by
    cases e : s₀.heap.get? a with
    | none => rfl
    | some o => have := Keeps.h k _ _ e; rw [hH, hXn a h] at this; cases this
  have hg0 : c.Good s₀.heap := a.good
  have hk0 : KeepH s₀.heap H4 := fun b o e => kH b o (hH ▸ Keeps.h k b o e)
  have hXf : ∀ a, X a → a = H.objs.size ∨ FrA (cenvOf scope cl (H.objs.size + 1) env) a := by
    rintro a (rfl | rfl | ⟨p, hp, rfl⟩)
    · exact .inl rfl
    · exact .inr (.inl rfl)
    · exact .inr (.inr ⟨p, by rw [hcells]; exact List.mem_append_left _ hp, rfl⟩)
  refine ⟨X, fun a q => ⟨hXge a q, hXf a q⟩, fun x hx => .inl (lookup_relabel_local hx), fun x b hx hb => .inr ⟨hx, b, ?_, .inr (.inr ⟨_, PySem.mem_of_lookup hb, rfl⟩)⟩, ⟨s₀.heap, hg0, hk0, fun b q => q.elim (hX0 b) (hw b)⟩, ?_, kH,
    ⟨⟨a.room, ⟨s₀.heap, hg0, hk0, hX0⟩, ?_, ⟨⟨⟨hkind, f.pl.g, f.pl.b⟩, ⟨_, hC, ?_⟩, ?_, ?_, ?_⟩, fun b q => .inr q, .inr (.inl rfl)⟩⟩, ⟨[], ⟨ol, hD, by rw [← hL], 0, by rw [← hL]⟩, .nil⟩, .inl rfl, ?_, ?_⟩⟩
  · rw [hcells, List.lookup_append, hb]; rfl
  · intro p hp hq
    obtain ⟨o, ho⟩ := hwa _ hq
    have h0 := hw _ hq
    rw [hcells] at hp
    rcases List.mem_append.mp hp with hp | hp
    · have h1 := (ok.empty p.1 p.2 hp).2
      exact absurd (Nat.lt_of_lt_of_le (Heap.lt_size ho) (Nat.le_trans (Nat.le_add_right _ 2) h1)) (Nat.lt_irrefl _)
    · obtain ⟨_, ob, hob, _⟩ := a.fr.cells _ (PySem.mem_of_lookup (hclin p hp))
      rw [h0] at hob; cases hob
  · rintro b ((hb | hb) | hb)
    · obtain ⟨o, ho⟩ := sb b hb; exact ⟨o, kH _ _ ho⟩
    · obtain ⟨o, ho⟩ := hwa b hb; exact ⟨o, kH _ _ ho⟩
    · rcases hb with rfl | rfl | ⟨p, hp, rfl⟩
      · exact ⟨_, hD⟩
      · obtain ⟨o, _, _, ho, _⟩ := hC; exact ⟨o, ho⟩
      · obtain ⟨o, ho, _⟩ := (ok.empty p.1 p.2 hp).1; exact ⟨o, ho⟩
  · intro x d hx
    obtain ⟨h1, h2, h3, h4⟩ := hσ _ (PySem.mem_of_lookup hx)
    obtain ⟨m, _, hv⟩ := a.fr.names
    obtain ⟨v, r, q⟩ := hv x d h1
    rcases q with ⟨q, _⟩ | ⟨_, b, hb, hc⟩
    · rw [h2] at q; cases q
    · refine ⟨v, (r.more fun b q => ?_).keep hk0, .inr ⟨h3, b, (h4 _).trans hb, hc.keeps hk0⟩⟩
      rcases q with (q | q) | q
      · exact .inl q
      · exact .inr (hw b q)
      · exact .inr (hX0 b q)
  · intro p hp
    rw [hcells] at hp
    rcases List.mem_append.mp hp with hp | hp
    · exact ⟨_, (ok.empty p.1 p.2 hp).1⟩
    · obtain ⟨o, hc⟩ := f.cells _ (PySem.mem_of_lookup (hclin p hp))
      exact ⟨o, hc.keeps kH⟩
  · rw [hcells, List.pairwise_append]
    refine ⟨ok.apart, ?_, fun p hp q hq e => ?_⟩
    · have nd : cl.Pairwise fun p q => p.1 ≠ q.1 := by
        rw [List.Nodup, List.pairwise_map] at hnd; exact hnd
      refine nd.imp_of_mem fun hp hq hne e => hne ?_
      exact name_of_addr f.apart (PySem.mem_of_lookup (hclin _ hp)) (e ▸ PySem.mem_of_lookup (hclin _ hq))
    · have h1 := (ok.empty p.1 p.2 hp).2
      have h2 := clalive q hq
      rw [← e] at h2
      exact absurd (Nat.lt_of_lt_of_le h2 (Nat.le_trans (Nat.le_add_right _ 2) h1)) (Nat.lt_irrefl _)
  · intro p hp
    show p.2 ≠ H.objs.size + 1
    rw [hcells] at hp
    rcases List.mem_append.mp hp with hp | hp
    · have h1 := (ok.empty p.1 p.2 hp).2; exact Nat.ne_of_gt h1
    · have h2 := clalive p hp; exact Nat.ne_of_lt (Nat.lt_succ_of_lt h2)
  · exact Nat.ne_of_lt (Nat.lt_succ_self _)
  · intro p hp
    rw [hcells] at hp
    rcases List.mem_append.mp hp with hp | hp
    · have h1 := (ok.empty p.1 p.2 hp).2; exact Nat.ne_of_gt (Nat.lt_of_lt_of_le (Nat.lt_succ_self _) (Nat.le_trans (Nat.le_succ _) h1))
    · have h2 := clalive p hp; exact Nat.ne_of_lt h2

theorem flat_filter {α : Type} (p : α → Bool) (f : α → PyData) (ds : List α) : ds.flatMap (fun d => if p d then [f d] else []) = (ds.filter p).map f := by
  induction ds with
  | nil => rfl
  | cons d ds ih => cases hp : p d <;> simp [hp, ih]
-- a comprehension of one clause, from its iterator on
theorem comp_core {s₂ : Shared} {it : Value} {elt target iter : Expr} {ifs : List Expr} {scope : Scope} {pos : Pos} {cl : List (Str × Addr)} {σ0 : List (Str × PyData)} {α : Type} {ds : List α} {dt : α → PyData} {RR : Value → Addr → Result → Shared → Prop}
    {p : α → Bool} {f : α → PyData} {τ : α → List (Str × PyData)}
    (a : At c env n σ A S s) (hit : ItOk c A S s (ds.map dt) it s₂)
    (hcl : closL env.cells scope.names [] = some cl) (hnd : (cl.map (·.1)).Nodup) (hkind : scope.kind = .function) (hσ : ∀ p ∈ σ0, CapOk env scope cl σ p)
    (ha : ∀ C X, (∀ x, scope.names.lookup x = some .local → CanStore (cenvOf scope cl C env) X x) →
      (∀ x a, (relabel scope env).names.lookup x = some .cell → (cellsFrom (C + 1) scope.names []).lookup x = some a → CanStore (cenvOf scope cl C env) X x) → ∀ d ∈ ds, Asg c (cenvOf scope cl C env) n X target (dt d) (τ d))
    (hsub : ∀ d ∈ ds, ∀ x e, σ0.lookup x = some e → (τ d ++ σ0).lookup x = some e)
    (ht : ∀ C, ∀ d ∈ ds, EvTs c (cenvOf scope cl C env) n (τ d ++ σ0) ifs (p d))
    (he : ∀ C, ∀ d ∈ ds, p d = true → Ev c (cenvOf scope cl C env) n (τ d ++ σ0) elt (f d))
    (hz : ds.length ≤ sizeLine)
    (hRR : ∀ D C s', Keeps s s' → s.heap.get? D = none → s.heap.get? C = none → (∃ m, s'.heap.Ns C m) → Rd c.P (fun a => S a ∨ a = C) s'.heap (.ref D) (.list ((ds.filter p).map f)) → RR (.ref D) C (.ok .next) s') :
    wpAny c.M A (newList []) (fun acc s₃ => wpAny c.M A (newFunctionEnv scope env.globals cl [] env.qual none .none (some env)) (fun cenv s₄ =>
      codeAny c.M A (.compStart (.ListComp elt [⟨target, iter, ifs, 0⟩] scope pos) 0 it acc { cenv with scope := relabel scope env }) (RR acc cenv.locals) s₄) E s₃) E s₂ := by
  obtain ⟨I, fp, wr, P, St, rfl, k, W, st, hfp, hw, hob, hpl, hP⟩ := hit
  rw [List.length_map] at W
  refine wpAny_newObj_type (newEnv_comp ?_)
  obtain ⟨X, hX1, hX2, hX3, hX4, hX5, kH, ci⟩ := comp_start (wr := wr) a k hw (hob _ _ st) hcl hnd hkind hσ
  have sz : ({ s₂ with heap := s₂.heap.push { cls := .type "list", data := .seq ([] : List Value).toArray } } : Shared).heap.objs.size = s₂.heap.objs.size + 1 := Heap.size_push ..
  rw [sz]
  show codeAny c.M A (.compStart (.ListComp elt [⟨target, iter, ifs, 0⟩] scope pos) 0 (.ref I) (.ref s₂.heap.objs.size) (cenvOf scope cl (s₂.heap.objs.size + 1) env)) (RR (.ref s₂.heap.objs.size) (s₂.heap.objs.size + 1))
    { s₂ with heap := pushCells ((s₂.heap.push { cls := .type "list", data := .seq #[] }).push { cls := .type "dict", data := .dict #[] }) scope.names }
  generalize pushCells ((s₂.heap.push { cls := .type "list", data := .seq #[] }).push { cls := .type "dict", data := .dict #[] }) scope.names = H4 at *
  have st4 : St 0 H4 := W.frame _ _ _ st fun b _ o e => kH b o e
  have hfx : ∀ b ∈ fp, ¬ X b := fun b hb q => Nat.lt_irrefl _ (Nat.lt_of_lt_of_le (hfp b hb).1 (hX1 b q).1)
  have hXn : ∀ b, X b → s.heap.get? b = none := fun b q => by
    cases e : s.heap.get? b with
    | none => rfl
    | some o => exact absurd (Nat.lt_of_lt_of_le (Heap.lt_size (Keeps.h k _ _ e)) (hX1 b q).1) (Nat.lt_irrefl _)
  have loop : codeAny c.M A (.compLoop (.ListComp elt [⟨target, iter, ifs, 0⟩] scope pos) 0 (.ref I) (.ref s₂.heap.objs.size) (cenvOf scope cl (s₂.heap.objs.size + 1) env)) (RR (.ref s₂.heap.objs.size) (s₂.heap.objs.size + 1)) { s₂ with heap := H4 } := by
    have hflat := flat_filter p f ds
    refine comp_loop (dt := dt) (g := fun d => if p d then [f d] else []) (target := target) (body := bodyOf elt target ifs (.ref s₂.heap.objs.size) (cenvOf scope cl (s₂.heap.objs.size + 1) env)) W st4 hfx (fun b hb => .inl (.inr hb)) hob hpl ?_ hX4 ?_ hX5 ci rfl rfl rfl turn_one ?_ ?_ ?_
    · intro i v hi hv
      obtain ⟨d, hd, r⟩ := hP i v (by rw [List.length_map]; exact hi) hv
      rw [List.getElem?_map, Option.map_eq_some_iff] at hd
      obtain ⟨d, hd, rfl⟩ := hd
      refine ⟨d, hd, (r.more fun b q => ?_).keep kH⟩
      rcases q with q | q
      · exact .inl q
      · refine .inr ?_
        cases e : s₂.heap.get? b with
        | none => rfl
        | some o => exact absurd (Nat.lt_of_lt_of_le (Heap.lt_size e) (hX1 b q).1) (Nat.lt_irrefl _)
    · intro q
      exact absurd (hfp _ (W.sub _ q)).1 (Nat.not_lt.mpr (Nat.le_succ _))
    · intro i d v ys s' E hd ci' r hz'
      have hm := List.mem_of_getElem? hd
      exact body_ok ci' r (Nat.le_trans (Nat.le_add_right _ _) hz') (ha _ X hX2 hX3 d hm) (ht _ d hm) (he _ d hm) (hsub d hm)
    · rw [hflat]
      have := List.length_filter_le p ds
      simp; omega
    · rintro s' ks fm ⟨vs, hl, q⟩
      rw [hflat] at q
      have kk : Keeps s s' := by
        obtain ⟨h₂, tk₂, rfl, kh₂⟩ := k
        obtain ⟨h', tk', rfl, kb⟩ := ks
        refine ⟨h', tk', rfl, fun b o e => kb b o (fun z => ?_) (kH b o (kh₂ b o e))⟩
        rcases z with z | z
        · rw [hXn b z] at e; cases e
        · rw [hw b z] at e; cases e
      obtain ⟨m, ns, _⟩ := fm.fr.names
      refine hRR _ _ s' kk (hXn _ ci.xd) (hXn _ ci.toAt.fm.xl) ⟨m, ns⟩ ?_
      obtain ⟨o, ho, hc, ne, hd⟩ := hl
      refine .list (fun z => ?_) ho hc hd ?_
      · rcases z with z | z
        · obtain ⟨ob, hob'⟩ := (a.keep k).sb _ z
          rw [get_size_none] at hob'; cases hob'
        · exact absurd z (Nat.ne_of_lt (Nat.lt_succ_self _))
      · simpa using q.less fun b z => z.elim (fun z => .inl (.inl z)) fun z => .inr (z ▸ ci.toAt.fm.xl)
  exact codeAny_compStart_list loop (W.self 0 _ _ _ st4 loop)
end
end Mine
end

section
open PySem PySem.W PySem.Calls PyProof.Rows PySem.Spec
set_option maxRecDepth 100000
namespace Mine

inductive Out where
  | next (σ : List (Str × PyData))
  | brk (σ : List (Str × PyData))
  | cont (σ : List (Str × PyData))
  | ret (d : PyData)

noncomputable def OutOk (c : Cx) (env : Env) (n : Nat) (A : Around) (S : Addr → Prop) (s : Shared) (Φ : Out → Prop) (f : Flow) (s' : Shared) : Prop :=
  KeepS (FrA env) s s' ∧ match f with
    | .next => ∃ σ', Φ (.next σ') ∧ AtS c env n (FrA env) σ' A S s'
    | .brk => ∃ σ', Φ (.brk σ') ∧ AtS c env n (FrA env) σ' A S s'
    | .cont => ∃ σ', Φ (.cont σ') ∧ AtS c env n (FrA env) σ' A S s'
    | .ret v => ∃ d, Φ (.ret d) ∧ Rd c.P S s'.heap v d
noncomputable def Exs (c : Cx) (env : Env) (n : Nat) (σ : List (Str × PyData)) (stmts : List Stmt) (Φ : Out → Prop) : Prop :=
  ∀ A S s E, AtS c env n (FrA env) σ A S s → wpAny c.M A (execs stmts env) (OutOk c env n A S s Φ) E s
noncomputable def Ex1 (c : Cx) (env : Env) (n : Nat) (σ : List (Str × PyData)) (stmt : Stmt) (Φ : Out → Prop) : Prop :=
  ∀ A S s E, AtS c env n (FrA env) σ A S s → wpAny c.M A (exec stmt env) (OutOk c env n A S s Φ) E s

section
variable {c : Cx} {env : Env} {n : Nat} {S S' : Addr → Prop} {σ : List (Str × PyData)} {A : Around} {s s₁ s' : Shared} {E : Value → Shared → Prop} {Φ Ψ : Out → Prop}

theorem OutOk.from {f} (k : KeepS (FrA env) s s₁) (h : OutOk c env n A S s₁ Φ f s') : OutOk c env n A S s Φ f s' := ⟨k.trans h.1, h.2⟩
theorem OutOk.mono {f} (hΦ : ∀ o, Φ o → Ψ o) (h : OutOk c env n A S s Φ f s') : OutOk c env n A S s Ψ f s' := by
  refine ⟨h.1, ?_⟩
  have h2 := h.2
  cases f with
  | ret v => obtain ⟨d, a, b⟩ := h2; exact ⟨d, hΦ _ a, b⟩
  | _ => obtain ⟨σ', a, b⟩ := h2; exact ⟨σ', hΦ _ a, b⟩
theorem exs_mono {stmts} (hΦ : ∀ o, Φ o → Ψ o) (h : Exs c env n σ stmts Φ) : Exs c env n σ stmts Ψ := fun A S s E a => wpAny_mono (h A S s E a) (fun _ _ q => q.mono hΦ) fun _ _ x => x
theorem exs_nil (h : Φ (.next σ)) : Exs c env n σ [] Φ := fun A S s E a => wpAny_execs_nil ⟨KeepS.refl, σ, h, a⟩
-- what is wanted behind a statement
noncomputable def Then (c : Cx) (env : Env) (n : Nat) (rest : List Stmt) (Φ : Out → Prop) : Out → Prop
  | .next σ' => Exs c env n σ' rest Φ
  | o => Φ o
theorem exs_cons {st rest} (h : Ex1 c env n σ st (Then c env n rest Φ)) : Exs c env n σ (st :: rest) Φ := fun A S s E a => by
  refine wpAny_execs_cons (wpAny_mono (h A S s E a) (fun f s₁ q => ?_) fun _ _ x => x)
  obtain ⟨k, q⟩ := q
  cases f with
  | next =>
    obtain ⟨σ', h', a'⟩ := q
    exact wpAny_mono (h' A S s₁ E a') (fun _ _ r => r.from k) fun _ _ x => x
  | brk => obtain ⟨σ', h', a'⟩ := q; exact ⟨k, σ', h', a'⟩
  | cont => obtain ⟨σ', h', a'⟩ := q; exact ⟨k, σ', h', a'⟩
  | ret v => obtain ⟨d, h', a'⟩ := q; exact ⟨k, d, h', a'⟩

-- a name of the frame that a statement may store
noncomputable def Own (env : Env) (x : Str) : Prop := env.kindOf x = some .local ∨ (env.kindOf x = some .cell ∧ ∃ a, env.cells.lookup x = some a)
theorem Own.can {x} (h : Own env x) : CanStore env (FrA env) x := h.imp id fun ⟨k, a, ha⟩ => ⟨k, a, ha, .inr ⟨_, PySem.mem_of_lookup ha, rfl⟩⟩

theorem ex_assign {x p e pos d} (he : Ev c env n σ e d) (hx : Own env x) (h : Φ (.next ((x, d) :: σ))) (hs : swapsWith e (some (.Name x p)) pos.line env = pure false := by rfl) : Ex1 c env n σ (.Assign [.Name x p] e pos) Φ := fun A S s E a =>
  wpAny_Assign_Name (wpAny_mono (he A S s E a.at) (fun v s₁ q => store_at (a.keep q.1) q.2 hx.can fun s₂ k kf a₂ => ⟨(KeepS.of q.1).trans k, _, h, a₂⟩) fun _ _ x => x) hs
theorem ex_aug_str {x p e pos y z} (hv : σ.lookup x = some (.str y)) (he : Ev c env n σ e (.str z)) (hx : Own env x) (hz : y.length + z.length ≤ sizeLine) (h : Φ (.next ((x, .str (y ++ z)) :: σ))) : Ex1 c env n σ (.AugAssign (.Name x p) .Add e pos) Φ := fun A S s E a => by
  obtain ⟨v, r, l⟩ := a.fm.fr.binds x _ hv
  refine wpAny_AugAssign_Name (l.here (wpAny_mono (he A S s E a.at) (fun v₂ s₁ q => ?_) fun _ _ x => x))
  obtain ⟨t, rfl⟩ := r.str_inv
  obtain ⟨u, rfl⟩ := q.2.str_inv
  refine iadd_str (fun t' tk => ?_) hz
  have k₁ : Keeps s { s₁ with toks := tk } := Keeps.trans' q.1 (Keeps.tok _)
  exact store_at (a.keep k₁) (.str _ _) hx.can fun s₂ k kf a₂ => ⟨(KeepS.of k₁).trans k, _, h, a₂⟩
theorem ex_return {e pos d} (he : Ev c env n σ e d) (h : Φ (.ret d)) : Ex1 c env n σ (.Return (some e) pos) Φ := fun A S s E a =>
  wpAny_Return_some (wpAny_mono (he A S s E a.at) (fun v s₁ q => ⟨KeepS.of q.1, d, h, q.2⟩) fun _ _ x => x)
theorem ex_break {pos} (h : Φ (.brk σ)) : Ex1 c env n σ (.Break pos) Φ := fun A S s E a => PySem.wpAny_Break ⟨KeepS.refl, σ, h, a⟩
theorem ex_if {t body orelse pos b} (ht : EvT c env n σ t b) (h₁ : b = true → Exs c env n σ body Φ) (h₂ : b = false → Exs c env n σ orelse Φ) : Ex1 c env n σ (.If t body orelse pos) Φ := fun A S s E a => by
  refine wpAny_If (wpAny_mono (ht A S s E a.at) (fun r s₁ q => ?_) fun _ _ x => x)
  obtain ⟨rfl, k⟩ := q
  cases r with
  | true => exact wpAny_mono (h₁ rfl A S s₁ E (a.keep k)) (fun _ _ z => z.from (KeepS.of k)) fun _ _ x => x
  | false => exact wpAny_mono (h₂ rfl A S s₁ E (a.keep k)) (fun _ _ z => z.from (KeepS.of k)) fun _ _ x => x

theorem AtS.less (a : AtS c env n (FrA env) σ A S' s) (h : ∀ a, S a → S' a) (hx : ∀ a, FrA env a → S a) : AtS c env n (FrA env) σ A S s :=
  ⟨a.room, a.good, fun b hb => a.sb b (h b hb), a.fm.move hx (fun _ _ n e => ⟨fun q => n (h _ q), e⟩) (fun _ e => e) fun _ _ _ e => e⟩

theorem ex_for {x px iter body pos ds} (J : Nat → List (Str × PyData) → Prop) (hi : EvI c env n σ iter ds) (hx : Own env x) (h0 : J 0 σ)
    (hb : ∀ (i : Nat) d σ', ds[i]? = some d → J i σ' → Exs c env n ((x, d) :: σ') body (fun o => match o with | .next σ'' => J (i + 1) σ'' | .cont σ'' => J (i + 1) σ'' | .brk σ'' => Φ (.next σ'') | .ret r => Φ (.ret r)))
    (hd : ∀ σ', J ds.length σ' → Φ (.next σ')) (hs : ∀ x, foldedSetIterable iter env x = pure x := by intro _; rfl) : Ex1 c env n σ (.For (.Name x px) iter body [] pos) Φ := fun A S s E a => by
  refine wpAny_For (wpAny_mono (hi A S s E a.at) (fun v s₁ h₁ => wpAny_mono h₁ (fun it s₂ h₂ => ?_) fun _ _ x => x) fun _ _ x => x) hs
  obtain ⟨I, fp, wr, P, St, rfl, k, W, st, hfp, hw, hob, hpl, hP⟩ := h₂
  let S₁ : Addr → Prop := fun b => S b ∨ b ∈ wr
  have hwS : ∀ b ∈ wr, ¬ S b := fun b hb q => by obtain ⟨o, ho⟩ := a.sb b q; rw [hw b hb] at ho; cases ho
  have hXS : ∀ b, FrA env b → S b := a.fm.xs
  have hwX : ∀ b ∈ wr, ¬ FrA env b := fun b hb q => hwS b hb (hXS b q)
  have a₂ : AtS c env n (FrA env) σ A S₁ s₂ := by
    have a' := a.keep k
    refine ⟨a'.room, a'.good, fun b hb => hb.elim (a'.sb b) (hob _ _ st b), ?_⟩
    have := a.fm.move (S' := S₁) (h' := s₂.heap) (fun b q => .inl (hXS b q)) (fun b o n e => ⟨fun q => q.elim n fun q => (by rw [hw b q] at e; cases e), Keeps.h k b o e⟩) (fun o e => Keeps.h k _ _ e) (fun _ _ o e => Keeps.h k _ _ e)
    exact this
  have good₂ : GoodX c (fun b => FrA env b ∨ b ∈ wr) s₂.heap := by
    obtain ⟨h₀, g, kk, z⟩ := a.good
    refine ⟨h₀, g, kk.trans (Keeps.h k), fun b q => q.elim (z b) fun q => ?_⟩
    cases e : h₀.get? b with
    | none => rfl
    | some o => have := kk b o e; rw [hw b q] at this; cases this
  -- back to the outer view
  have back : ∀ {s' : Shared}, KeepS (fun b => FrA env b ∨ b ∈ wr) s₂ s' → KeepS (FrA env) s s' := fun {s'} ks => by
    obtain ⟨h₂, tk₂, rfl, kh₂⟩ := k
    obtain ⟨h', tk', rfl, kb⟩ := ks
    exact ⟨h', tk', rfl, fun b o nx e => kb b o (fun q => q.elim nx fun q => by rw [hw b q] at e; cases e) (kh₂ b o e)⟩
  refine codeAny_forLoop (fun m s' => ∃ i σ', i ≤ ds.length ∧ m = ds.length + 1 - i ∧ J i σ' ∧ St i s'.heap ∧ KeepS (fun b => FrA env b ∨ b ∈ wr) s₂ s' ∧ AtS c env n (FrA env) σ' A S₁ s') ?_ (ds.length + 1)
    ⟨0, σ, Nat.zero_le _, rfl, h0, st, KeepS.refl, a₂⟩
  rintro m s' ⟨i, σ', hi', rfl, hJ, st', ks, a'⟩
  by_cases hlt : i < ds.length
  · refine W.item i s' _ _ hlt st' fun v h₃ tk₃ hPv st₃ hk₃ => ?_
    obtain ⟨d, hd', r⟩ := hP i v hlt hPv
    have kw : KeepB (fun b => b ∈ wr) s'.heap h₃ := fun b o nx e => hk₃ b o nx e
    have ks₃ : KeepS (fun b => FrA env b ∨ b ∈ wr) s₂ { s' with heap := h₃, toks := tk₃ } := ks.trans ⟨h₃, tk₃, rfl, kw.mono fun _ => .inr⟩
    have r₃ : Rd c.P S₁ h₃ v d := r.keepB (ks₃.b.mono fun b q => q.elim (fun q => .inl (hXS b q)) .inr)
    have a₃ : AtS c env n (FrA env) σ' A S₁ { s' with heap := h₃, toks := tk₃ } := by
      refine ⟨a'.room, ?_, fun b q => ?_, a'.fm.move a'.fm.xs (fun b o nx e => ⟨nx, hk₃ b o (fun z => nx (.inr z)) e⟩) (fun o e => hk₃ _ o (fun z => hwX _ z (.inl rfl)) e) fun p hp o e => hk₃ _ o (fun z => hwX _ z (.inr ⟨p, hp, rfl⟩)) e⟩
      · obtain ⟨h₀, g, kk, z⟩ := good₂
        exact ⟨h₀, g, fun b o e => ks₃.b b o (fun q => by rw [z b q] at e; cases e) (kk b o e), fun b q => z b (.inl q)⟩
      · by_cases z : b ∈ wr
        · exact hob _ _ st₃ b z
        · obtain ⟨o, ho⟩ := a'.sb b q; exact ⟨o, hk₃ b o z ho⟩
    refine wpAny_assign_Name (store_at a₃ r₃ hx.can fun s₄ k₄ kf₄ a₄ => ?_)
    have ks₄ := ks₃.trans (k₄.mono fun _ => .inl)
    have st₄ : St (i + 1) s₄.heap := W.frame _ _ _ st₃ fun b hb o e => k₄.b b o (fun q => (hfp b hb).2 (hXS b q)) e
    refine wpAny_mono (hb i d σ' hd' hJ A S₁ s₄ _ a₄) (fun f s₅ q => ?_) fun _ _ x => x
    obtain ⟨k₅, q⟩ := q
    have ks₅ := ks₄.trans (k₅.mono fun _ => .inl)
    have st₅ : St (i + 1) s₅.heap := W.frame _ _ _ st₄ fun b hb o e => k₅.b b o (fun q => (hfp b hb).2 (hXS b q)) e
    cases f with
    | next => obtain ⟨σ'', j, a₅⟩ := q; exact ⟨_, by omega, i + 1, σ'', hlt, rfl, j, st₅, ks₅, a₅⟩
    | cont => obtain ⟨σ'', j, a₅⟩ := q; exact ⟨_, by omega, i + 1, σ'', hlt, rfl, j, st₅, ks₅, a₅⟩
    | brk => obtain ⟨σ'', j, a₅⟩ := q; exact ⟨back ks₅, σ'', j, a₅.less (fun _ => .inl) hXS⟩
    | ret v => obtain ⟨r, j, a₅⟩ := q; exact ⟨back ks₅, r, j, a₅.less fun _ => .inl⟩
  · obtain rfl : i = ds.length := by omega
    refine W.done s' _ _ st' fun h₃ tk₃ hk₃ => ?_
    refine wpAny_execs_nil ?_
    have kw : KeepB (fun b => b ∈ wr) s'.heap h₃ := fun b o nx e => hk₃ b o nx e
    have ks₃ : KeepS (fun b => FrA env b ∨ b ∈ wr) s₂ { s' with heap := h₃, toks := tk₃ } := ks.trans ⟨h₃, tk₃, rfl, kw.mono fun _ => .inr⟩
    refine ⟨back ks₃, σ', hd σ' hJ, a'.room, ?_, fun b q => ?_, a'.fm.move hXS (fun b o nx e => ⟨fun z => nx (.inl z), hk₃ b o (fun z => nx (.inr z)) e⟩) (fun o e => hk₃ _ o (fun z => hwX _ z (.inl rfl)) e) fun p hp o e => hk₃ _ o (fun z => hwX _ z (.inr ⟨p, hp, rfl⟩)) e⟩
    · obtain ⟨h₀, g, kk, z⟩ := good₂
      exact ⟨h₀, g, fun b o e => ks₃.b b o (fun q => by rw [z b q] at e; cases e) (kk b o e), fun b q => z b (.inl q)⟩
    · obtain ⟨o, ho⟩ := a'.sb b (.inl q); exact ⟨o, hk₃ b o (fun z => hwS b z q) ho⟩
end
end Mine
end

section
open PySem PySem.W PySem.Calls PyProof.Rows PySem.Spec
set_option maxRecDepth 100000
namespace Mine
section
variable {c : Cx} {env : Env} {n : Nat} {S S' : Addr → Prop} {σ : List (Str × PyData)} {A : Around} {s s₁ s' : Shared} {E : Value → Shared → Prop} {Φ Ψ : Out → Prop}

theorem ex_while {t body pos} (J : Nat → List (Str × PyData) → Prop) (m : Nat) (h0 : J m σ)
    (turn : ∀ m σ', J m σ' → ∃ b, EvT c env n σ' t b ∧ (b = true → Exs c env n σ' body (fun o => match o with | .next σ'' => ∃ m', m' < m ∧ J m' σ'' | .cont σ'' => ∃ m', m' < m ∧ J m' σ'' | .brk σ'' => Φ (.next σ'') | .ret r => Φ (.ret r))) ∧ (b = false → Φ (.next σ'))) :
    Ex1 c env n σ (.While t body [] pos) Φ := fun A S s E a => by
  refine wpAny_While (codeAny_whileLoop (fun m s' => ∃ σ', J m σ' ∧ KeepS (FrA env) s s' ∧ AtS c env n (FrA env) σ' A S s') ?_ m ⟨σ, h0, KeepS.refl, a⟩)
  rintro m s' ⟨σ', hJ, ks, a'⟩
  obtain ⟨b, ht, h1, h2⟩ := turn m σ' hJ
  refine wpAny_mono (ht A S s' _ a'.at) (fun r s₂ q => ?_) fun _ _ x => x
  obtain ⟨rfl, k⟩ := q
  cases r with
  | false => exact wpAny_execs_nil ⟨ks.trans (KeepS.of k), σ', h2 rfl, a'.keep k⟩
  | true =>
    refine wpAny_mono (h1 rfl A S s₂ _ (a'.keep k)) (fun f s₃ q => ?_) fun _ _ x => x
    obtain ⟨k₃, q⟩ := q
    have ks₃ := (ks.trans (KeepS.of k)).trans k₃
    cases f with
    | next => obtain ⟨σ'', ⟨m', hm, j⟩, a₃⟩ := q; exact ⟨m', hm, σ'', j, ks₃, a₃⟩
    | cont => obtain ⟨σ'', ⟨m', hm, j⟩, a₃⟩ := q; exact ⟨m', hm, σ'', j, ks₃, a₃⟩
    | brk => obtain ⟨σ'', j, a₃⟩ := q; exact ⟨ks₃, σ'', j, a₃⟩
    | ret v => obtain ⟨r, j, a₃⟩ := q; exact ⟨ks₃, r, j, a₃⟩

-- the frame of a def
noncomputable def fenv (name : Str) (scope : Scope) (L a : Addr) (cd : Value) : Env :=
  { scope, locals := L, globals := mainGlobals, cells := cellsFrom (L + 1) scope.names [], qual := name ++ ".<locals>.", func := some a, code := cd, frame := some L, builtins := builtinsNs }

theorem bindL_skip {k : Str → Option NameKind} : ∀ (b : List (Str × Value)) (m : Str → Option Value) (x : Str), b.lookup x = none → bindL k b m x = m x
  | [], _, _, _ => rfl
  | (y, v) :: r, m, x, h => by
    rw [List.lookup_cons] at h
    cases hy : x == y with
    | true => rw [hy] at h; cases h
    | false =>
      rw [hy] at h
      have hne : x ≠ y := fun e => by rw [e] at hy; simp at hy
      unfold bindL
      rw [bindL_skip r _ x h]
      split
      · simp [hne]
      · rfl
theorem bindC_skip {k : Str → Option NameKind} : ∀ (b : List (Str × Value)) (m : Str → Option Value) (x : Str), b.lookup x = none → bindC k b m x = m x
  | [], _, _, _ => rfl
  | (y, v) :: r, m, x, h => by
    rw [List.lookup_cons] at h
    cases hy : x == y with
    | true => rw [hy] at h; cases h
    | false =>
      rw [hy] at h
      have hne : x ≠ y := fun e => by rw [e] at hy; simp at hy
      unfold bindC
      rw [bindC_skip r _ x h]
      split
      · rfl
      · simp [hne]
theorem lookup_none_of {α : Type} {b : List (Str × α)} {x : Str} (h : x ∉ b.map (·.1)) : b.lookup x = none := by
  cases e : b.lookup x with
  | none => rfl
  | some v => exact absurd (List.mem_map_of_mem (f := (·.1)) (PySem.mem_of_lookup e)) h
theorem bindL_get {k : Str → Option NameKind} : ∀ (b : List (Str × Value)) (m : Str → Option Value) (x : Str) (v : Value), (b.map (·.1)).Nodup → b.lookup x = some v → k x = some .local → bindL k b m x = some v
  | (y, w) :: r, m, x, v, hn, h, hk => by
    rw [List.map_cons, List.nodup_cons] at hn
    rw [List.lookup_cons] at h
    unfold bindL
    cases hy : x == y with
    | true =>
      rw [hy] at h; cases h
      obtain rfl := beq_iff_eq.mp hy
      rw [bindL_skip r _ x (lookup_none_of hn.1), if_pos hk]; simp
    | false => rw [hy] at h; exact bindL_get r _ x v hn.2 h hk
theorem bindC_get {k : Str → Option NameKind} : ∀ (b : List (Str × Value)) (m : Str → Option Value) (x : Str) (v : Value), (b.map (·.1)).Nodup → b.lookup x = some v → k x = some .cell → bindC k b m x = some v
  | (y, w) :: r, m, x, v, hn, h, hk => by
    rw [List.map_cons, List.nodup_cons] at hn
    rw [List.lookup_cons] at h
    unfold bindC
    cases hy : x == y with
    | true =>
      rw [hy] at h; cases h
      obtain rfl := beq_iff_eq.mp hy
      rw [bindC_skip r _ x (lookup_none_of hn.1), if_neg (by rw [hk]; decide)]; simp
    | false => rw [hy] at h; exact bindC_get r _ x v hn.2 h hk
theorem zip_lookup {P : Params} {h : Heap} : ∀ {names : List Str} {vs : List Value} {ds : List PyData} {x : Str} {d : PyData}, RdAll P S h vs ds → (names.zip ds).lookup x = some d → ∃ v, (names.zip vs).lookup x = some v ∧ Rd P S h v d
  | [], _, _, _, _, _, e => by simp at e
  | _ :: _, _, _, _, _, .nil, e => by simp at e
  | y :: ns, _, _, x, d, .cons r q, e => by
    rw [List.zip_cons_cons, List.lookup_cons] at e ⊢
    cases hy : x == y with
    | true => rw [hy] at e; cases e; exact ⟨_, rfl, r⟩
    | false => rw [hy] at e; exact zip_lookup q e

-- a def of the text by its body
structure DefOk (c : Cx) (f : Addr) (name : Str) (params : Arguments) (body : List Stmt) (scope : Scope) : Prop where
  there : ∀ h, c.Good h → ∃ o pm cd doc, h.get? f = some o ∧ o.data = .func (docDef name params body scope pm cd doc) ∧ h.CodeRec cd name
theorem DefOk.isDef {f name params body scope} (d : DefOk c f name params body scope) : IsDef c f := fun h g => let ⟨o, _, _, _, a, b, _⟩ := d.there h g; ⟨o, _, a, b⟩
-- what is to be seen of a def's scope: parameters are names of the frame
noncomputable def scopeSees (scope : Scope) (names : List Str) : Bool :=
  (scope.kind == .function) && !scope.isCoroutine && !scope.isGenerator && names.all (fun x => scope.names.lookup x == some .local || (scope.names.lookup x == some .cell && ((cellsFrom 0 scope.names []).lookup x).isSome)) && decide names.Nodup && decide ((cellsFrom 0 scope.names []).map (·.1)).Nodup
theorem cellsFrom_some' : ∀ (names : List (Str × NameKind)) (j k : Nat) (acc acc' : List (Str × Addr)) (x : Str), (acc.lookup x).isSome = (acc'.lookup x).isSome → ((cellsFrom j names acc).lookup x).isSome = ((cellsFrom k names acc').lookup x).isSome
  | [], _, _, _, _, _, h => h
  | (y, kd) :: r, j, k, acc, acc', x, h => by
    unfold cellsFrom
    split
    · refine cellsFrom_some' r _ _ _ _ x ?_
      rw [List.lookup_cons, List.lookup_cons]
      cases x == y <;> simp [h]
    · exact cellsFrom_some' r _ _ _ _ x h

-- as CallsTo, of the call's code itself
noncomputable def CallsC (c : Cx) (f : Value) (n : Nat) (ds : List PyData) (r : PyData) : Prop :=
  ∀ A S s vs, Room A n → c.Good s.heap → SB S s.heap → RdAll c.P S s.heap vs ds → codeAny c.M A (.call f ⟨vs, []⟩) (fun res s' => ∃ v, res = .ok (.ret v) ∧ Post c S s r v s') s
theorem CallsC.to {f ds r} (h : CallsC c f n ds r) : CallsTo c f n ds r := fun A S s vs E room good sb rv => wpAny_call (codeAny_mono (h A S s vs room good sb rv) fun res s' q => by obtain ⟨v, rfl, p⟩ := q; exact p)
theorem calls_defG {f name params body scope names ds ds' r} (D : DefOk c f name params body scope) (hs : scopeSees scope names = true) (hlen : names.length = ds'.length)
    (hb : ∀ pm cd doc A S s E vs, SB S s.heap → RdAll c.P S s.heap vs ds → wpAny c.M A (bindArgs (docDef name params body scope pm cd doc) ⟨vs, []⟩) (fun binds s' => Keeps s s' ∧ ∃ vs', binds = names.zip vs' ∧ RdAll c.P S s'.heap vs' ds') E s)
    (h : ∀ L cd, Exs c (fenv name scope L f cd) n (names.zip ds') body (fun o => o = .ret r)) : CallsC c (.ref f) (n + 1) ds r := fun A S s vs room good sb rv => by
  obtain ⟨o, pm, cd, doc, ho, hd, hcd⟩ := D.there _ good
  simp only [scopeSees, Bool.and_eq_true, Bool.not_eq_true', List.all_eq_true, Bool.or_eq_true, beq_iff_eq, decide_eq_true_eq] at hs
  obtain ⟨⟨⟨⟨⟨hk, hco⟩, hgen⟩, hnames⟩, hnd⟩, hnd2⟩ := hs
  refine codeAny_call_function room.depth ho hd hco hgen rfl hcd (wpAny_mono (hb pm cd doc A.in1 S s _ vs sb rv) (fun binds s₁ hb₁ => ?_) fun _ _ x => x)
  obtain ⟨k₁, vs', rfl, rv₁⟩ := hb₁
  have hkeys : ((names.zip vs').map (·.1)) = names := by
    rw [List.map_fst_zip]; rw [rv₁.length, hlen]; exact Nat.le_refl _
  have hkind : ∀ k, ∀ x ∈ names.zip vs', scope.names.lookup x.1 = some .local ∨ (scope.names.lookup x.1 = some .cell ∧ ((cellsFrom k scope.names []).lookup x.1).isSome = true) := fun k x hx => by
    have hm : x.1 ∈ names := hkeys ▸ List.mem_map_of_mem (f := (·.1)) hx
    exact (hnames _ hm).imp id fun ⟨a, b⟩ => ⟨a, (cellsFrom_some' _ _ _ _ _ _ rfl).trans b⟩
  refine wpAny_newFunctionEnv_cells hk (hkind _) fun env he s₂ x => ?_
  obtain rfl : env = fenv name scope s₁.heap.objs.size f cd := he
  have good₁ := good.keeps (Keeps.h k₁)
  refine ⟨good₁.T.nolimit.keeps x.toInCall.keep, codeAny_func ?_⟩
  generalize hL : s₁.heap.objs.size = L at *
  have hx0 : ∀ b, FrA (fenv name scope L f cd) b → s₁.heap.get? b = none := fun b q => by
    have hge : L ≤ b := by
      rcases q with rfl | ⟨p, hp, rfl⟩
      · exact Nat.le_refl _
      · exact Nat.le_of_lt (x.above p.1 p.2 hp)
    cases e : s₁.heap.get? b with
    | none => rfl
    | some o => exact absurd (Nat.lt_of_lt_of_le (Heap.lt_size e) (hL ▸ hge)) (Nat.lt_irrefl _)
  have keep₂ := x.toInCall.keep
  have a₂ : AtS c (fenv name scope L f cd) n (FrA (fenv name scope L f cd)) (names.zip ds') (A.deeper (fenv name scope L f cd)) (fun b => S b ∨ FrA (fenv name scope L f cd) b) s₂ := by
    refine ⟨room.deeper, ⟨s₁.heap, good₁, keep₂, hx0⟩, fun b q => ?_, ⟨⟨⟨hk, rfl, rfl⟩, ⟨_, x.toInCall.ns, fun y d hy => ?_⟩, fun p hp => ⟨_, x.cell _ _ (lookup_of_mem_nodup (cellsFrom_names scope.names 0 (L + 1) [] [] rfl ▸ hnd2) hp)⟩, x.apart, fun p hp => Nat.ne_of_gt (x.above p.1 p.2 hp)⟩, fun _ q => .inr q, .inl rfl⟩⟩
    · rcases q with q | rfl | ⟨p, hp, rfl⟩
      · obtain ⟨o, ho⟩ := sb b q; exact ⟨o, keep₂ _ _ (Keeps.h k₁ _ _ ho)⟩
      · obtain ⟨o, _, _, ho, _⟩ := x.toInCall.ns; exact ⟨o, ho⟩
      · have hl : (fenv name scope L f cd).cells.lookup p.1 = some p.2 := lookup_of_mem_nodup (cellsFrom_names scope.names 0 (L + 1) [] [] rfl ▸ hnd2) hp
        obtain ⟨o, ho, _⟩ := x.cell _ _ hl
        exact ⟨o, ho⟩
    · obtain ⟨v, hv, rd⟩ := zip_lookup rv₁ hy
      have rd₂ : Rd c.P (fun b => S b ∨ FrA (fenv name scope L f cd) b) s₂.heap v d := (rd.more fun b q => q.imp id (hx0 b)).keep keep₂
      rcases hkind (L + 1) (y, v) (PySem.mem_of_lookup hv) with hl | ⟨hc, hsm⟩
      · exact ⟨v, rd₂, .inl ⟨hl, bindL_get _ _ y v (by rw [hkeys]; exact hnd) hv hl⟩⟩
      · obtain ⟨b, hb'⟩ := Option.isSome_iff_exists.mp hsm
        refine ⟨v, rd₂, .inr ⟨hc, b, hb', ?_⟩⟩
        have := x.cell y b hb'
        rw [bindC_get _ _ y v (by rw [hkeys]; exact hnd) hv hc] at this
        exact this
  refine wpAny_mono (h L cd _ _ s₂ _ a₂) (fun fl s₃ q => ?_) fun _ _ x => x
  obtain ⟨k₃, q⟩ := q
  obtain ⟨h₂, tk₂, e₂, _⟩ := x.done
  cases fl with
  | ret v =>
    obtain ⟨d, hd', rd⟩ := q
    cases hd'
    refine ⟨v, rfl, ?_, rd.less fun _ => .inl⟩
    refine Keeps.trans' k₁ ?_
    subst e₂
    obtain ⟨h₃, tk₃, rfl, kb⟩ := k₃
    exact ⟨h₃, tk₃, rfl, fun b o e => kb b o (fun q => by rw [hx0 b q] at e; cases e) (keep₂ b o e)⟩
  | next => obtain ⟨σ', h', _⟩ := q; cases h'
  | brk => obtain ⟨σ', h', _⟩ := q; cases h'
  | cont => obtain ⟨σ', h', _⟩ := q; cases h'
end
end Mine
end

section
open PySem PySem.W PySem.Calls PyProof.Rows PySem.Spec
set_option maxRecDepth 100000
namespace Mine
section
variable {c : Cx} {env : Env} {n : Nat} {S S' : Addr → Prop} {σ : List (Str × PyData)} {A : Around} {s s₁ s' : Shared} {E : Value → Shared → Prop} {Φ Ψ : Out → Prop}

noncomputable def closN : List (Str × NameKind) → List Str → List Str
  | [], acc => acc
  | (x, k) :: r, acc => if k == .free then closN r (x :: acc) else closN r acc
theorem closL_names {cells : List (Str × Addr)} : ∀ (names : List (Str × NameKind)) (acc cl : List (Str × Addr)), closL cells names acc = some cl → cl.map (·.1) = closN names (acc.map (·.1))
  | [], acc, cl, h => by cases h; rfl
  | (x, k) :: r, acc, cl, h => by
    unfold closL at h
    unfold closN
    split at h
    · rename_i hk
      rw [if_pos hk]
      split at h
      · exact closL_names r _ cl h
      · cases h
    · rename_i hk
      rw [if_neg hk]
      exact closL_names r _ cl h
-- what is to be seen of a comprehension's scope
noncomputable def compSees (scope : Scope) : Bool := (scope.kind == .function) && scope.names.all (fun x => x.2 != .local || scope.names.lookup x.1 == some .local) && decide (closN scope.names []).Nodup
theorem compSees_of {scope : Scope} (h : compSees scope = true) : scope.kind = .function ∧ (∀ x ∈ scope.names, x.2 = .local → scope.names.lookup x.1 = some .local) ∧ (closN scope.names []).Nodup := by
  simp only [compSees, Bool.and_eq_true, List.all_eq_true, Bool.or_eq_true, beq_iff_eq, bne_iff_ne, decide_eq_true_eq] at h
  exact ⟨h.1.1, fun x hx hl => (h.1.2 x hx).resolve_left fun q => q hl, h.2⟩

-- all that one clause asks for
structure Comp1 (c : Cx) (env : Env) (n : Nat) (σ : List (Str × PyData)) (elt target iter : Expr) (ifs : List Expr) (scope : Scope) {α : Type} (ds : List α) (dt : α → PyData) (p : α → Bool) (f : α → PyData) : Prop where
  it : EvI c env n σ iter (ds.map dt)
  sees : compSees scope = true
  go : ∃ (cl : List (Str × Addr)) (σ0 : List (Str × PyData)) (τ : α → List (Str × PyData)), closL env.cells scope.names [] = some cl ∧ (∀ p ∈ σ0, CapOk env scope cl σ p) ∧
    (∀ C X, (∀ x, scope.names.lookup x = some .local → CanStore (cenvOf scope cl C env) X x) →
      (∀ x a, (relabel scope env).names.lookup x = some .cell → (cellsFrom (C + 1) scope.names []).lookup x = some a → CanStore (cenvOf scope cl C env) X x) → ∀ d ∈ ds, Asg c (cenvOf scope cl C env) n X target (dt d) (τ d)) ∧
    (∀ d ∈ ds, ∀ x e, σ0.lookup x = some e → (τ d ++ σ0).lookup x = some e) ∧
    (∀ C, ∀ d ∈ ds, EvTs c (cenvOf scope cl C env) n (τ d ++ σ0) ifs (p d)) ∧
    (∀ C, ∀ d ∈ ds, p d = true → Ev c (cenvOf scope cl C env) n (τ d ++ σ0) elt (f d))
  hz : ds.length ≤ sizeLine
  hs : ∀ x, foldedSetIterable iter env x = pure x

theorem ev_comp {elt target iter ifs scope pos} {α : Type} {ds : List α} {dt p f} (h : Comp1 c env n σ elt target iter ifs scope ds dt p f) : Ev c env n σ (.ListComp elt [⟨target, iter, ifs, 0⟩] scope pos) (.list ((ds.filter p).map f)) := fun A S s E a => by
  obtain ⟨cl, σ0, τ, hcl, hσ, ha, hsub, ht, he⟩ := h.go
  obtain ⟨hk, hn, hnd⟩ := compSees_of h.sees
  rw [eval_ListComp]
  refine wpAny_comprehension_free (use := none) rfl h.hs (closureFor_of hcl) hk hn (wpAny_mono (h.it A S s E a) (fun v s₁ h₁ => wpAny_mono h₁ (fun it s₂ h₂ => ?_) fun _ _ x => x) fun _ _ x => x)
  refine comp_core (RR := fun acc C => compPost c.M A E none (Post c S s (.list ((ds.filter p).map f))) acc C) a h₂ hcl (by rw [closL_names _ _ _ hcl]; exact hnd) hk hσ ha hsub ht he h.hz ?_
  rintro D C s' k hD hC ⟨m, ns⟩ r
  refine ⟨m, ns, fun h' hs' => ⟨?_, ?_⟩⟩
  · obtain ⟨h₁, tk₁, rfl, kh⟩ := k
    exact ⟨h', tk₁, rfl, fun b o e => (hs'.2 b (fun q => by rw [q, hC] at e; cases e)).trans (kh b o e)⟩
  · exact (r.keepB (KeepB.ofSame hs' (.inr rfl))).less fun _ => .inl

theorem ex_assign_comp {y py elt target iter ifs scope pos spos} {α : Type} {ds : List α} {dt p f} (h : Comp1 c env n σ elt target iter ifs scope ds dt p f) (hy : Own env y) (hΦ : Φ (.next ((y, .list ((ds.filter p).map f)) :: σ)))
    (hsw : swapsWith (.ListComp elt [⟨target, iter, ifs, 0⟩] scope pos) (some (.Name y py)) spos.line env = pure true := by rfl) : Ex1 c env n σ (.Assign [.Name y py] (.ListComp elt [⟨target, iter, ifs, 0⟩] scope pos) spos) Φ := fun A S s E a => by
  obtain ⟨cl, σ0, τ, hcl, hσ, ha, hsub, ht, he⟩ := h.go
  obtain ⟨hk, hn, hnd⟩ := compSees_of h.sees
  rw [exec_Assign_Name_used _ _ _ _ hsw]
  refine wpAny_bind (wpAny_standAt (wpAny_bind ?_))
  show wpAny _ A (do let _ ← comprehension (.ListComp elt [⟨target, iter, ifs, 0⟩] scope pos) scope env _ (newList []) false (eval iter env) (some (assign (.Name y py) env))) _ _ s
  refine wpAny_bind (wpAny_mono (wpAny_comprehension_free (use := some (assign (.Name y py) env)) (Q := fun _ s' => OutOk c env n A S s Φ .next s') rfl h.hs (closureFor_of hcl) hk hn
    (wpAny_mono (h.it A S s E a.at) (fun v s₁ h₁ => wpAny_mono h₁ (fun it s₂ h₂ => ?_) fun _ _ x => x) fun _ _ x => x)) (fun _ s' hq => wpAny_pure (wpAny_pure hq)) fun _ _ e => e)
  refine comp_core (RR := fun acc C => compPost c.M A E (some (assign (.Name y py) env)) (fun _ s' => OutOk c env n A S s Φ .next s') acc C) a.at h₂ hcl (by rw [closL_names _ _ _ hcl]; exact hnd) hk hσ ha hsub ht he h.hz ?_
  rintro D C s' k hD hC ⟨m, ns⟩ r
  have hCX : ¬ FrA env C := fun q => by obtain ⟨o, ho⟩ := a.sb C (a.fm.xs C q); rw [hC] at ho; cases ho
  have ksC : Keeps s s' := k
  have a' : AtS c env n (FrA env) σ A (fun b => S b ∨ b = C) s' := by
    refine ⟨a.room, a.good.keepB (Keeps.h k).toB, fun b q => ?_, a.fm.move (fun b q => .inl (a.fm.xs b q)) (fun b o nx e => ⟨fun q => q.elim nx fun q => (by rw [q, hC] at e; cases e), Keeps.h k b o e⟩) (fun o e => Keeps.h k _ _ e) fun _ _ o e => Keeps.h k _ _ e⟩
    rcases q with q | rfl
    · obtain ⟨o, ho⟩ := a.sb b q; exact ⟨o, Keeps.h k _ _ ho⟩
    · obtain ⟨o, _, _, ho, _⟩ := ns; exact ⟨o, ho⟩
  show wpAny _ A (assign (.Name y py) env (.ref D)) _ _ _
  refine wpAny_assign_Name (store_at a' r hy.can fun s₂ k₂ kf₂ a₂ => ?_)
  obtain ⟨oC, es, ep, hoC, rest⟩ := ns
  refine ⟨m, ⟨oC, es, ep, k₂.b _ _ hCX hoC, rest⟩, fun h' hs' => ?_⟩
  have kC : KeepB (fun b => b = C) s₂.heap h' := KeepB.ofSame hs' rfl
  refine ⟨?_, _, hΦ, a₂.room, ?_, fun b q => ?_, a₂.fm.move a.fm.xs (fun b o nx e => ⟨fun q => nx (.inl q), kC b o (fun q => nx (.inr q)) e⟩) (fun o e => kC _ o (fun q => hCX (.inl q.symm)) e) fun p hp o e => kC _ o (fun q => hCX (.inr ⟨p, hp, q⟩)) e⟩
  · obtain ⟨h₁, tk₁, rfl, kh⟩ := k
    obtain ⟨h₂, tk₂, rfl, kb⟩ := k₂
    exact ⟨h', tk₂, rfl, fun b o nx e => kC b o (fun q => by rw [q, hC] at e; cases e) (kb b o nx (kh b o e))⟩
  · obtain ⟨h₀, g, kk, z⟩ := a.good
    refine ⟨h₀, g, fun b o e => kC b o (fun q => by have := kk b o e; rw [q, hC] at this; cases this) (k₂.b b o (fun q => by rw [z b q] at e; cases e) (Keeps.h ksC b o (kk b o e))), z⟩
  · obtain ⟨o, ho⟩ := a₂.sb b (.inl q)
    exact ⟨o, kC b o (fun z => by rw [z] at q; obtain ⟨o', ho'⟩ := a.sb C q; rw [hC] at ho'; cases ho') ho⟩
end
end Mine
end

section
open PySem PySem.W PySem.Calls PyProof.Rows PySem.Spec
set_option maxRecDepth 100000
namespace Mine
section
variable {c : Cx} {env : Env} {n : Nat} {X S S' : Addr → Prop} {D : Addr} {ys : List PyData} {σ : List (Str × PyData)} {A : Around} {s s₁ s' : Shared} {E : Value → Shared → Prop} {Φ Ψ : Out → Prop}

theorem cap_nil {scope : Scope} {cl : List (Str × Addr)} : ∀ p ∈ ([] : List (Str × PyData)), CapOk env scope cl σ p := fun _ h => nomatch h
theorem cap_cons {scope : Scope} {cl : List (Str × Addr)} {x : Str} {d : PyData} {σ0 : List (Str × PyData)} (h1 : σ.lookup x = some d) (h2 : env.kindOf x = some .cell) (h3 : (relabel scope env).names.lookup x = some .cell)
    (h4 : ∀ k, (cellsFrom k scope.names cl).lookup x = env.cells.lookup x) (r : ∀ p ∈ σ0, CapOk env scope cl σ p) : ∀ p ∈ (x, d) :: σ0, CapOk env scope cl σ p := fun p hp => by
  rcases List.mem_cons.mp hp with rfl | hp
  · exact ⟨h1, h2, h3, h4⟩
  · exact r p hp

theorem lookup_cons_of {x : Str} {d : PyData} {σ0 : List (Str × PyData)} (h0 : σ0.lookup x = none) : ∀ y e, σ0.lookup y = some e → ([(x, d)] ++ σ0).lookup y = some e := fun y e h => by
  show ((x, d) :: σ0).lookup y = some e
  rw [List.lookup_cons]
  cases hy : y == x with
  | true => rw [beq_iff_eq.mp hy, h0] at h; cases h
  | false => exact h

-- a target that is a name: a local of the comprehension, or a cell of its own
noncomputable def TgtOk (env : Env) (scope : Scope) (x : Str) : Prop := scope.names.lookup x = some .local ∨ ((relabel scope env).names.lookup x = some .cell ∧ ∀ k, ∃ a, (cellsFrom k scope.names []).lookup x = some a)

theorem comp_name {elt x px iter ifs scope} {α : Type} {ds : List α} {dt p f} (cl : List (Str × Addr)) (σ0 : List (Str × PyData)) (hi : EvI c env n σ iter (ds.map dt)) (sees : compSees scope = true) (hcl : closL env.cells scope.names [] = some cl) (hσ : ∀ p ∈ σ0, CapOk env scope cl σ p)
    (hx : TgtOk env scope x) (h0 : σ0.lookup x = none) (hz : ds.length ≤ sizeLine)
    (ht : ∀ C, ∀ d ∈ ds, EvTs c (cenvOf scope cl C env) n ((x, dt d) :: σ0) ifs (p d)) (he : ∀ C, ∀ d ∈ ds, p d = true → Ev c (cenvOf scope cl C env) n ((x, dt d) :: σ0) elt (f d))
    (hs : ∀ x, foldedSetIterable iter env x = pure x := by intro _; rfl) : Comp1 c env n σ elt (.Name x px) iter ifs scope ds dt p f :=
  ⟨hi, sees, ⟨cl, σ0, fun d => [(x, dt d)], hcl, hσ, fun C X h1 h2 d _ => asg_name (hx.elim (h1 x) fun ⟨h, k⟩ => let ⟨a, ha⟩ := k (C + 1); h2 x a h ha), fun d _ => lookup_cons_of h0, ht, he⟩, hz, hs⟩
theorem comp_pair {elt x y px py k tp iter ifs scope} {α : Type} {ds : List α} {dt p f} (cl : List (Str × Addr)) (σ0 : List (Str × PyData)) (hi : EvI c env n σ iter (ds.map dt)) (sees : compSees scope = true) (hcl : closL env.cells scope.names [] = some cl) (hσ : ∀ p ∈ σ0, CapOk env scope cl σ p)
    (hx : TgtOk env scope x) (hy : TgtOk env scope y) (h0 : σ0.lookup x = none) (h0' : σ0.lookup y = none) (hz : ds.length ≤ sizeLine) (u v : α → PyData) (hd : ∀ d ∈ ds, dt d = .tuple [u d, v d])
    (ht : ∀ C, ∀ d ∈ ds, EvTs c (cenvOf scope cl C env) n ((y, v d) :: (x, u d) :: σ0) ifs (p d)) (he : ∀ C, ∀ d ∈ ds, p d = true → Ev c (cenvOf scope cl C env) n ((y, v d) :: (x, u d) :: σ0) elt (f d))
    (hs : ∀ x, foldedSetIterable iter env x = pure x := by intro _; rfl) : Comp1 c env n σ elt (.Tuple [.Name x px, .Name y py] k tp) iter ifs scope ds dt p f :=
  ⟨hi, sees, ⟨cl, σ0, fun d => [(y, v d), (x, u d)], hcl, hσ, fun C X h1 h2 d hm => by
    have := asg_pair (c := c) (env := cenvOf scope cl C env) (n := n) (X := X) (x := x) (y := y) (px := px) (py := py) (k := k) (pos := tp) (d₁ := u d) (d₂ := v d)
      (hx.elim (h1 x) fun ⟨h, k⟩ => let ⟨a, ha⟩ := k (C + 1); h2 x a h ha) (hy.elim (h1 y) fun ⟨h, k⟩ => let ⟨a, ha⟩ := k (C + 1); h2 y a h ha)
    rw [← hd d hm] at this
    exact this, fun d _ z e h => by
      show ((y, v d) :: (x, u d) :: σ0).lookup z = some e
      rw [List.lookup_cons, List.lookup_cons]
      cases hzy : z == y with
      | true => rw [beq_iff_eq.mp hzy, h0'] at h; cases h
      | false =>
        cases hzx : z == x with
        | true => rw [beq_iff_eq.mp hzx, h0] at h; cases h
        | false => exact h, ht, he⟩, hz, hs⟩

theorem filter_all {α : Type} (l : List α) : l.filter (fun _ => true) = l := List.filter_eq_self.mpr fun _ _ => rfl
theorem ev_map {elt target iter ifs scope pos} {α : Type} {ds : List α} {dt f} (h : Comp1 c env n σ elt target iter ifs scope ds dt (fun _ => true) f) : Ev c env n σ (.ListComp elt [⟨target, iter, ifs, 0⟩] scope pos) (.list (ds.map f)) := by
  have := ev_comp (pos := pos) h
  rw [filter_all] at this
  exact this
theorem ex_assign_map {y py elt target iter ifs scope pos spos} {α : Type} {ds : List α} {dt f} (h : Comp1 c env n σ elt target iter ifs scope ds dt (fun _ => true) f) (hy : Own env y) (hΦ : Φ (.next ((y, .list (ds.map f)) :: σ)))
    (hsw : swapsWith (.ListComp elt [⟨target, iter, ifs, 0⟩] scope pos) (some (.Name y py)) spos.line env = pure true := by rfl) : Ex1 c env n σ (.Assign [.Name y py] (.ListComp elt [⟨target, iter, ifs, 0⟩] scope pos) spos) Φ :=
  ex_assign_comp h hy (by rw [filter_all]; exact hΦ) hsw

-- two clauses without tests
noncomputable def body2 (e t1 iter2 : Expr) (acc : Value) (env : Env) (v : Value) : Sem Unit :=
  assign t1 env v >>= fun _ => eval iter2 env >>= fun x => standAt iter2.pos >>= fun _ => foldedSetIterable iter2 env x >>= fun x => holding [x] (pyIter x) >>= fun it => runOwn (.compStart e 1 it acc env) env >>= fun _ => pure ()

theorem turn_two0 {elt t1 i1 t2 i2 : Expr} {scope : Scope} {pos : Pos} {I D : Addr} : ∀ Q E s, wpAny c.M A (pyNext (.ref I)) (fun r s₁ => match r with
      | none => Q (.done .next) s₁
      | some v => wpAny c.M A (letOwnedTupleGo t1 (.ref I) v) (fun _ s₂ => wpAny c.M A (body2 (.ListComp elt [⟨t1, i1, [], 0⟩, ⟨t2, i2, [], 0⟩] scope pos) t1 i2 (.ref D) env v)
        (fun _ s₃ => Q (.again (.compLoop (.ListComp elt [⟨t1, i1, [], 0⟩, ⟨t2, i2, [], 0⟩] scope pos) 0 (.ref I) (.ref D) env)) s₃) E s₂) E s₁) E s →
      wpAny c.M A (compTurn (.ListComp elt [⟨t1, i1, [], 0⟩, ⟨t2, i2, [], 0⟩] scope pos) 0 (.ref I) (.ref D) env) Q E s := fun Q E s h => by
  have e0 : compTurn (.ListComp elt [⟨t1, i1, [], 0⟩, ⟨t2, i2, [], 0⟩] scope pos) 0 (.ref I) (.ref D) env = (standAt i1.pos >>= fun _ => pyNext (.ref I) >>= fun r => match r with
      | none => pure (.done .next)
      | some v => letOwnedTupleGo t1 (.ref I) v >>= fun _ => body2 (.ListComp elt [⟨t1, i1, [], 0⟩, ⟨t2, i2, [], 0⟩] scope pos) t1 i2 (.ref D) env v >>= fun _ => again (.compLoop (.ListComp elt [⟨t1, i1, [], 0⟩, ⟨t2, i2, [], 0⟩] scope pos) 0 (.ref I) (.ref D) env)) := by
    unfold body2
    simp only [bind_assoc, pure_bind]
    rfl
  rw [e0]
  refine wpAny_bind (wpAny_standAt (wpAny_bind (wpAny_mono h (fun r s₁ h₁ => ?_) fun _ _ x => x)))
  cases r with
  | none => exact wpAny_pure h₁
  | some v => exact wpAny_bind (wpAny_mono h₁ (fun _ s₂ h₂ => wpAny_bind (wpAny_mono h₂ (fun _ _ x => wpAny_pure x) fun _ _ x => x)) fun _ _ x => x)
theorem turn_two1 {elt t1 i1 t2 i2 : Expr} {scope : Scope} {pos : Pos} {I D : Addr} : ∀ Q E s, wpAny c.M A (pyNext (.ref I)) (fun r s₁ => match r with
      | none => Q (.done .next) s₁
      | some v => wpAny c.M A (letOwnedTupleGo t2 (.ref I) v) (fun _ s₂ => wpAny c.M A (bodyOf elt t2 [] (.ref D) env v)
        (fun _ s₃ => Q (.again (.compLoop (.ListComp elt [⟨t1, i1, [], 0⟩, ⟨t2, i2, [], 0⟩] scope pos) 1 (.ref I) (.ref D) env)) s₃) E s₂) E s₁) E s →
      wpAny c.M A (compTurn (.ListComp elt [⟨t1, i1, [], 0⟩, ⟨t2, i2, [], 0⟩] scope pos) 1 (.ref I) (.ref D) env) Q E s := fun Q E s h => by
  have e0 : compTurn (.ListComp elt [⟨t1, i1, [], 0⟩, ⟨t2, i2, [], 0⟩] scope pos) 1 (.ref I) (.ref D) env = (standAt i2.pos >>= fun _ => pyNext (.ref I) >>= fun r => match r with
      | none => pure (.done .next)
      | some v => letOwnedTupleGo t2 (.ref I) v >>= fun _ => bodyOf elt t2 [] (.ref D) env v >>= fun _ => again (.compLoop (.ListComp elt [⟨t1, i1, [], 0⟩, ⟨t2, i2, [], 0⟩] scope pos) 1 (.ref I) (.ref D) env)) := by
    unfold bodyOf testsOf
    simp only [bind_assoc, pure_bind, List.forIn_nil, if_true]
    rfl
  rw [e0]
  refine wpAny_bind (wpAny_standAt (wpAny_bind (wpAny_mono h (fun r s₁ h₁ => ?_) fun _ _ x => x)))
  cases r with
  | none => exact wpAny_pure h₁
  | some v => exact wpAny_bind (wpAny_mono h₁ (fun _ s₂ h₂ => wpAny_bind (wpAny_mono h₂ (fun _ _ x => wpAny_pure x) fun _ _ x => x)) fun _ _ x => x)

theorem compStart1 {elt t1 i1 t2 i2 : Expr} {scope : Scope} {pos : Pos} {it acc : Value} {R : Result → Shared → Prop}
    (h0 : codeAny c.M A (.compLoop (.ListComp elt [⟨t1, i1, [], 0⟩, ⟨t2, i2, [], 0⟩] scope pos) 1 it acc env) R s)
    (h : wpAny c.M A (pyIter it) (fun it' s' => codeAny c.M A (.compLoop (.ListComp elt [⟨t1, i1, [], 0⟩, ⟨t2, i2, [], 0⟩] scope pos) 1 it' acc env) R s')
      (notedBy c.M A env fun x s' => R (.error x) s') s) :
    codeAny c.M A (.compStart (.ListComp elt [⟨t1, i1, [], 0⟩, ⟨t2, i2, [], 0⟩] scope pos) 1 it acc env) R s := by
  refine codeAny_of_tree ?_
  show wpAny _ _ ((compStart (.ListComp elt [⟨t1, i1, [], 0⟩, ⟨t2, i2, [], 0⟩] scope pos) 1 it acc env).onRaise (fun x => do noteFrame x env; standAt theWindowsPlace)) _ _ s
  refine wpAny_notedAt ?_
  unfold compStart
  show wpAny _ _ (ask >>= _) _ _ s
  refine wpAny_bind (wpAny_askSetting (wpAny_ite ?_))
  split
  · first
      | exact wpAny_bind (wpAny_pure (wpAny_pure (And.intro rfl h0)))
      | exact wpAny_pure (And.intro rfl h0)
  · first
      | exact wpAny_bind (wpAny_rule (wpAny_bind (wpAny_standAt (wpAny_bind (wpAny_mono h (fun it' s' h' => wpAny_pure (And.intro rfl h')) fun _ _ x => x)))))
      | (refine wpAny_bind (wpAny_rule ?_); show wpAny _ _ (standAt i2.pos >>= _) _ _ s; exact wpAny_bind (wpAny_standAt (wpAny_bind (wpAny_mono h (fun it' s' h' => wpAny_pure (And.intro rfl h')) fun _ _ x => x))))

-- one turn of the outer clause of two
theorem body2_ok {cenv : Env} {σ0 : List (Str × PyData)} {elt i1 i2 : Expr} {x1 x2 : Str} {p1 p2 : Pos} {scope : Scope} {pos : Pos} {d : PyData} {ds2 : List PyData} {f : PyData → PyData} {v : Value}
    (ci : CI c cenv n X D σ0 A S ys s) (rv : Rd c.P S s.heap v d) (hz : ys.length + ds2.length ≤ sizeLine) (hx1 : CanStore cenv X x1) (hx2 : CanStore cenv X x2)
    (h01 : σ0.lookup x1 = none) (h02 : ((x1, d) :: σ0).lookup x2 = none)
    (hi : EvI c cenv n ((x1, d) :: σ0) i2 ds2) (he : ∀ e ∈ ds2, Ev c cenv n ((x2, e) :: (x1, d) :: σ0) elt (f e)) (hs : ∀ x, foldedSetIterable i2 cenv x = pure x)
    (hXf : ∀ a, X a → a = D ∨ FrA cenv a) :
    wpAny c.M A (body2 (.ListComp elt [⟨.Name x1 p1, i1, [], 0⟩, ⟨.Name x2 p2, i2, [], 0⟩] scope pos) (.Name x1 p1) i2 (.ref D) cenv v) (fun _ s'' => KeepS X s s'' ∧ CI c cenv n X D σ0 A S (ys ++ ds2.map f) s'') E s := by
  refine wpAny_bind (wpAny_mono (asg_name hx1 A S s E σ0 v ci.toAt rv) (fun _ s₁ h₁ => ?_) fun _ _ x => x)
  obtain ⟨k₁, kf₁, a₁⟩ := h₁
  have hD : ¬ FrA cenv D := fun q => q.elim ci.dl fun ⟨p, hp, q⟩ => ci.dc p hp q
  have ci₁ : CI c cenv n X D ((x1, d) :: σ0) A S ys s₁ := by
    obtain ⟨vs, hl, q⟩ := ci.acc
    exact ⟨a₁, ⟨vs, (let ⟨o, ho, z⟩ := hl; ⟨o, kf₁ _ _ hD ho, z⟩), q.keepB (k₁.b.mono ci.toAt.fm.xs)⟩, ci.xd, ci.dl, ci.dc⟩
  refine wpAny_bind (wpAny_mono (hi A S s₁ E a₁.at) (fun x s₂ h₂ => ?_) fun _ _ x => x)
  refine wpAny_bind (wpAny_standAt (wpAny_bind (wpAny_of_eq (hs x) (wpAny_bind (wpAny_holding (wpAny_mono h₂ (fun it s₃ h₃ => ?_) fun _ _ x => x))))))
  obtain ⟨I, fp, wr, P, St, rfl, k, W, st, hfp, hw, hob, hpl, hP⟩ := h₃
  have hXS : ∀ b, X b → S b := ci.toAt.fm.xs
  have hwS : ∀ b ∈ wr, ¬ S b := fun b hb q => by obtain ⟨o, ho⟩ := a₁.sb b q; rw [hw b hb] at ho; cases ho
  have hwX : ∀ b ∈ wr, ¬ X b := fun b hb q => hwS b hb (hXS b q)
  have hfx : ∀ b ∈ fp, ¬ X b := fun b hb q => (hfp b hb).2 (hXS b q)
  have hlw : cenv.locals ∉ wr := fun q => hwX _ q ci.toAt.fm.xl
  have hcw : ∀ p ∈ cenv.cells, p.2 ∉ wr := fun p hp q => by
    obtain ⟨_, o, ho, _⟩ := a₁.fm.fr.cells p hp
    rw [hw _ q] at ho; cases ho
  have a₃ : AtS c cenv n X ((x1, d) :: σ0) A (fun b => S b ∨ b ∈ wr) s₃ := by
    have a' := a₁.keep k
    refine ⟨a'.room, a'.good, fun b hb => hb.elim (a'.sb b) (hob _ _ st b), ?_⟩
    exact a₁.fm.move (fun b q => .inl (hXS b q)) (fun b o nx e => ⟨fun q => q.elim nx fun q => (by rw [hw b q] at e; cases e), Keeps.h k b o e⟩) (fun o e => Keeps.h k _ _ e) (fun _ _ o e => Keeps.h k _ _ e)
  have ci₃ : CI c cenv n X D ((x1, d) :: σ0) A (fun b => S b ∨ b ∈ wr) ys s₃ := by
    obtain ⟨vs, hl, q⟩ := ci₁.acc
    refine ⟨a₃, ⟨vs, (let ⟨o, ho, z⟩ := hl; ⟨o, Keeps.h k _ _ ho, z⟩), q.move fun b o nx e => ⟨fun q => q.elim nx fun q => (by rw [hw b q] at e; cases e), Keeps.h k b o e⟩⟩, ci.xd, ci.dl, ci.dc⟩
  have good₃ : GoodX c (fun b => X b ∨ b ∈ wr) s₃.heap := by
    obtain ⟨h₀, g, kk, z⟩ := a₁.good
    refine ⟨h₀, g, kk.trans (Keeps.h k), fun b q => q.elim (z b) fun q => ?_⟩
    cases e : h₀.get? b with
    | none => rfl
    | some o => have := kk b o e; rw [hw b q] at this; cases this
  have back : ∀ s' : Shared, KeepS (fun a => X a ∨ a ∈ wr) s₃ s' → Fm c cenv X (fun b => S b ∨ b ∈ wr) ((x1, d) :: σ0) s'.heap → (∃ vs : List Value, s'.heap.IsList D vs.toArray ∧ RdAll c.P (fun b => S b ∨ b ∈ wr) s'.heap vs (ys ++ ds2.map f)) →
      KeepS X s s' ∧ CI c cenv n X D σ0 A S (ys ++ ds2.map f) s' := by
    rintro s' ks fm ⟨vs, hl, q⟩
    have ks₁ : KeepS X s₁ s' := by
      obtain ⟨h₂, tk₂, rfl, kh₂⟩ := k
      obtain ⟨h', tk', rfl, kb⟩ := ks
      exact ⟨h', tk', rfl, fun b o nx e => kb b o (fun q => q.elim nx fun q => by rw [hw b q] at e; cases e) (kh₂ b o e)⟩
    refine ⟨k₁.trans ks₁, ⟨⟨ci.toAt.room, a₁.good.keepB ks₁.b, fun b hb => ?_, (fm.move (fun b q => hXS b q) (fun b o nx e => ⟨fun q => nx (.inl q), e⟩) (fun _ e => e) fun _ _ _ e => e).sub (lookup_cons_of h01)⟩, ⟨vs, hl, q.less fun _ => .inl⟩, ci.xd, ci.dl, ci.dc⟩⟩
    by_cases hx : X b
    · rcases hXf b hx with rfl | rfl | ⟨p, hp, rfl⟩
      · obtain ⟨o, ho, _⟩ := hl; exact ⟨o, ho⟩
      · obtain ⟨m, ⟨o, _, _, ho, _⟩, _⟩ := fm.fr.names; exact ⟨o, ho⟩
      · obtain ⟨_, o, ho, _⟩ := fm.fr.cells p hp; exact ⟨o, ho⟩
    · obtain ⟨o, ho⟩ := a₁.sb b hb; exact ⟨o, ks₁.b b o hx ho⟩
  have hone : ds2.flatMap (fun e => if (fun _ => true) e then [f e] else []) = ds2.map f := by
    rw [flat_filter (fun _ => true) f ds2, List.filter_eq_self.mpr fun _ _ => rfl]
  have loop : ∀ R : Result → Shared → Prop, (∀ s', KeepS X s s' ∧ CI c cenv n X D σ0 A S (ys ++ ds2.map f) s' → R (.ok .next) s') →
      codeAny c.M A (.compLoop (.ListComp elt [⟨.Name x1 p1, i1, [], 0⟩, ⟨.Name x2 p2, i2, [], 0⟩] scope pos) 1 (.ref I) (.ref D) cenv) R s₃ := fun R hR =>
    comp_loop (dt := id) (g := fun e => if (fun _ => true) e then [f e] else []) (target := .Name x2 p2) (body := bodyOf elt (.Name x2 p2) [] (.ref D) cenv) W st hfx (fun b hb => .inr hb) hob hpl
      (fun i v hi hv => hP i v hi hv) good₃ hlw hcw ci₃ rfl rfl rfl turn_two1
      (fun i e v ys' s' E he' ci' r hz' => body_ok ci' r (Nat.le_trans (Nat.le_add_right _ _) hz') (asg_name hx2) evTs_nil (fun _ => he e (List.mem_of_getElem? he')) (lookup_cons_of h02))
      (by rw [hone]; simpa using hz) (fun s' ks fm hv => hR s' (back s' ks fm (by rw [hone] at hv; exact hv)))
  refine wpAny_bind (wpAny_runOwn ?_)
  have l := loop (fun r s' => match r with | .ok fl => wpAny c.M A (pure () : Sem Unit) (fun _ s'' => KeepS X s s'' ∧ CI c cenv n X D σ0 A S (ys ++ ds2.map f) s'') E s' | .error e => cameBackBy c.M A cenv E e s') (fun s' h => wpAny_pure h)
  exact compStart1 l (W.self 0 _ _ _ st l)

-- a comprehension of two clauses over names
theorem ev_comp2 {elt x1 x2 : _} {p1 p2 : Pos} {i1 i2 : Expr} {scope : Scope} {pos : Pos} {α : Type} {ds : List α} {dt : α → PyData} {g : α → List PyData} {f : α → PyData → PyData} (cl : List (Str × Addr)) (σ0 : List (Str × PyData))
    (hi : EvI c env n σ i1 (ds.map dt)) (sees : compSees scope = true) (hcl : closL env.cells scope.names [] = some cl) (hσ : ∀ p ∈ σ0, CapOk env scope cl σ p)
    (hx1 : scope.names.lookup x1 = some .local) (hx2 : scope.names.lookup x2 = some .local) (h01 : σ0.lookup x1 = none) (h02 : σ0.lookup x2 = none) (h12 : (x2 == x1) = false)
    (hi2 : ∀ C, ∀ d ∈ ds, EvI c (cenvOf scope cl C env) n ((x1, dt d) :: σ0) i2 (g d)) (he : ∀ C, ∀ d ∈ ds, ∀ e ∈ g d, Ev c (cenvOf scope cl C env) n ((x2, e) :: (x1, dt d) :: σ0) elt (f d e))
    (hz : (ds.flatMap fun d => (g d).map (f d)).length ≤ sizeLine) (hs : ∀ x, foldedSetIterable i1 env x = pure x := by intro _; rfl) (hs2 : ∀ env x, foldedSetIterable i2 env x = pure x := by intro _ _; rfl) :
    Ev c env n σ (.ListComp elt [⟨.Name x1 p1, i1, [], 0⟩, ⟨.Name x2 p2, i2, [], 0⟩] scope pos) (.list (ds.flatMap fun d => (g d).map (f d))) := fun A S s E a => by
  obtain ⟨hk, hn, hnd⟩ := compSees_of sees
  rw [eval_ListComp]
  refine wpAny_comprehension_free (use := none) rfl hs (closureFor_of hcl) hk hn (wpAny_mono (hi A S s E a) (fun v s₁ h₁ => wpAny_mono h₁ (fun it s₂ h₂ => ?_) fun _ _ x => x) fun _ _ x => x)
  obtain ⟨I, fp, wr, P, St, rfl, k, W, st, hfp, hw, hob, hpl, hP⟩ := h₂
  rw [List.length_map] at W
  refine wpAny_newObj_type (newEnv_comp ?_)
  obtain ⟨X, hX1, hX2, hX3, hX4, hX5, kH, ci⟩ := comp_start (wr := wr) a k hw (hob _ _ st) hcl (by rw [closL_names _ _ _ hcl]; exact hnd) hk hσ
  have sz : ({ s₂ with heap := s₂.heap.push { cls := .type "list", data := .seq ([] : List Value).toArray } } : Shared).heap.objs.size = s₂.heap.objs.size + 1 := Heap.size_push ..
  rw [sz]
  show codeAny c.M A (.compStart (.ListComp elt [⟨.Name x1 p1, i1, [], 0⟩, ⟨.Name x2 p2, i2, [], 0⟩] scope pos) 0 (.ref I) (.ref s₂.heap.objs.size) (cenvOf scope cl (s₂.heap.objs.size + 1) env))
    (compPost c.M A E none (Post c S s (.list (ds.flatMap fun d => (g d).map (f d)))) (.ref s₂.heap.objs.size) (s₂.heap.objs.size + 1))
    { s₂ with heap := pushCells ((s₂.heap.push { cls := .type "list", data := .seq #[] }).push { cls := .type "dict", data := .dict #[] }) scope.names }
  generalize pushCells ((s₂.heap.push { cls := .type "list", data := .seq #[] }).push { cls := .type "dict", data := .dict #[] }) scope.names = H4 at *
  have st4 : St 0 H4 := W.frame _ _ _ st fun b _ o e => kH b o e
  have hfx : ∀ b ∈ fp, ¬ X b := fun b hb q => Nat.lt_irrefl _ (Nat.lt_of_lt_of_le (hfp b hb).1 (hX1 b q).1)
  have hXn : ∀ b, X b → s.heap.get? b = none := fun b q => by
    cases e : s.heap.get? b with
    | none => rfl
    | some o => exact absurd (Nat.lt_of_lt_of_le (Heap.lt_size (Keeps.h k _ _ e)) (hX1 b q).1) (Nat.lt_irrefl _)
  have loop : codeAny c.M A (.compLoop (.ListComp elt [⟨.Name x1 p1, i1, [], 0⟩, ⟨.Name x2 p2, i2, [], 0⟩] scope pos) 0 (.ref I) (.ref s₂.heap.objs.size) (cenvOf scope cl (s₂.heap.objs.size + 1) env))
      (compPost c.M A E none (Post c S s (.list (ds.flatMap fun d => (g d).map (f d)))) (.ref s₂.heap.objs.size) (s₂.heap.objs.size + 1)) { s₂ with heap := H4 } := by
    refine comp_loop (dt := dt) (g := fun d => (g d).map (f d)) (target := .Name x1 p1) (body := body2 (.ListComp elt [⟨.Name x1 p1, i1, [], 0⟩, ⟨.Name x2 p2, i2, [], 0⟩] scope pos) (.Name x1 p1) i2 (.ref s₂.heap.objs.size) (cenvOf scope cl (s₂.heap.objs.size + 1) env))
      W st4 hfx (fun b hb => .inl (.inr hb)) hob hpl ?_ hX4 ?_ hX5 ci rfl rfl rfl turn_two0 ?_ (by simpa using hz) ?_
    · intro i v hi hv
      obtain ⟨d, hd, r⟩ := hP i v (by rw [List.length_map]; exact hi) hv
      rw [List.getElem?_map, Option.map_eq_some_iff] at hd
      obtain ⟨d, hd, rfl⟩ := hd
      refine ⟨d, hd, (r.more fun b q => ?_).keep kH⟩
      rcases q with q | q
      · exact .inl q
      · refine .inr ?_
        cases e : s₂.heap.get? b with
        | none => rfl
        | some o => exact absurd (Nat.lt_of_lt_of_le (Heap.lt_size e) (hX1 b q).1) (Nat.lt_irrefl _)
    · intro q
      exact absurd (hfp _ (W.sub _ q)).1 (Nat.not_lt.mpr (Nat.le_succ _))
    · intro i d v ys s' E hd ci' r hz'
      have hm := List.mem_of_getElem? hd
      refine body2_ok ci' r (by simpa using hz') (hX2 _ hx1) (hX2 _ hx2) h01 ?_ (hi2 _ d hm) (he _ d hm) (hs2 _) (fun b q => (hX1 b q).2)
      rw [List.lookup_cons, h12]; exact h02
    · rintro s' ks fm ⟨vs, hl, q⟩
      have kk : Keeps s s' := by
        obtain ⟨h₂, tk₂, rfl, kh₂⟩ := k
        obtain ⟨h', tk', rfl, kb⟩ := ks
        refine ⟨h', tk', rfl, fun b o e => kb b o (fun z => ?_) (kH b o (kh₂ b o e))⟩
        rcases z with z | z
        · rw [hXn b z] at e; cases e
        · rw [hw b z] at e; cases e
      obtain ⟨m, ns, _⟩ := fm.fr.names
      have hC : s.heap.get? (s₂.heap.objs.size + 1) = none := hXn _ ci.toAt.fm.xl
      obtain ⟨o, ho, hc, ne, hd⟩ := hl
      have rr : Rd c.P (fun b => S b ∨ b = s₂.heap.objs.size + 1) s'.heap (.ref s₂.heap.objs.size) (.list (ds.flatMap fun d => (g d).map (f d))) := by
        refine .list (fun z => ?_) ho hc hd ?_
        · rcases z with z | z
          · obtain ⟨ob, hob'⟩ := (a.keep k).sb _ z
            rw [get_size_none] at hob'; cases hob'
          · exact absurd z (Nat.ne_of_lt (Nat.lt_succ_self _))
        · simpa using q.less fun b z => z.elim (fun z => .inl (.inl z)) fun z => .inr (z ▸ ci.toAt.fm.xl)
      refine ⟨m, ns, fun h' hs' => ⟨?_, ?_⟩⟩
      · obtain ⟨h₁, tk₁, rfl, kh⟩ := kk
        exact ⟨h', tk₁, rfl, fun b o e => (hs'.2 b (fun q => by rw [q, hC] at e; cases e)).trans (kh b o e)⟩
      · exact (rr.keepB (KeepB.ofSame hs' (.inr rfl))).less fun _ => .inl
  exact codeAny_compStart_list loop (W.self 0 _ _ _ st4 loop)
end
end Mine
end

section
open PySem PySem.W PySem.Calls PyProof.Rows PySem.Spec PySem.Builtin PySem.Builtin.Str
set_option maxRecDepth 100000
namespace Mine

-- a text by its signs
noncomputable def st (l : List Nat) : Str := ⟨l.toArray⟩
theorem st_app (a b : List Nat) : st a ++ st b = st (a ++ b) := PySem.Str.ext' (by simp [st, PySem.Str.cps_append])
theorem st_len (a : List Nat) : (st a).length = a.length := by simp [st, Str.length]
theorem st_inj {a b : List Nat} (h : st a = st b) : a = b := by
  have := congrArg (fun x => x.cps.toList) h
  simpa [st] using this
theorem st_empty : Str.empty = st [] := rfl
theorem size_line : sizeLine = 16777216 := rfl

theorem rep_fold (a : List Nat) : ∀ (k : Nat) (acc : Array Nat), (List.replicate k a.toArray).foldl (· ++ ·) acc = acc ++ ((List.replicate k a).flatten).toArray
  | 0, acc => by simp
  | k + 1, acc => by
    rw [List.replicate_succ, List.foldl_cons, rep_fold a k]
    simp [List.replicate_succ]
theorem mul_st (k : Nat) : Txt.mul (st [47]) (k : Int) = st (List.replicate k 47) := by
  unfold Txt.mul
  by_cases h : (k : Int) < 1
  · obtain rfl : k = 0 := by omega
    rfl
  · rw [if_neg h]
    split
    · rename_i h2
      simp [st_len] at h2
      have : k = 1 := by omega
      subst this; rfl
    · rename_i h2
      simp only [st, Int.toNat_natCast]
      rw [rep_fold]
      simp
theorem mulOk_st (k : Nat) (hk : k ≤ 1048576) : MulOk (st [47]) (k : Int) := by
  refine ⟨?_, fun h1 _ => ?_, fun _ _ => ?_⟩
  · simp; omega
  · rw [st_len]
    simp only [List.length_cons, List.length_nil]
    have h2 : (1 : Int) ≤ (2 ^ 63 - 1) / (k : Int) := by
      rw [Int.le_ediv_iff_mul_le (by omega)]
      omega
    omega
  · unfold tooLong
    rw [st_len]
    simp [size_line]; omega

theorem join_nil_st (xs : List (List Nat)) : Txt.join (st []) (xs.map st) = st xs.flatten := by
  unfold Txt.join
  rw [PySem.StrLaws.glued_eq_join]
  induction xs with
  | nil => rfl
  | cons x xs ih =>
    cases xs with
    | nil => simp [Str.join]
    | cons y ys =>
      rw [List.map_cons, List.map_cons, Str.join, ← List.map_cons, ih, st_app, st_app]
      · simp
      · simp
theorem join_st (xs : List (List Nat)) : Txt.join (st [47]) (xs.map st) = st (List.intercalate [47] xs) := by
  unfold Txt.join
  rw [PySem.StrLaws.glued_eq_join]
  induction xs with
  | nil => rfl
  | cons x xs ih =>
    cases xs with
    | nil => simp [Str.join, List.intercalate]
    | cons y ys =>
      rw [List.map_cons, List.map_cons, Str.join, ← List.map_cons, ih, st_app, st_app]
      · simp [List.intercalate, List.intersperse]
      · simp
theorem joinOk_fold (s : Nat) : ∀ (xs : List (List Nat)) (a : Nat), (xs.map st).foldl (fun a x => a + x.length + s) a = a + (xs.map List.length).sum + xs.length * s
  | [], a => by simp
  | x :: xs, a => by
    rw [List.map_cons, List.foldl_cons, joinOk_fold s xs, st_len]
    simp [Nat.add_mul]; omega
theorem joinOk_st {sep : List Nat} {xs : List (List Nat)} (h : (xs.map List.length).sum + xs.length * sep.length ≤ 16777216) : JoinOk (st sep) (xs.map st) = true := by
  unfold JoinOk tooLong
  have e := joinOk_fold sep.length xs 0
  rw [← List.foldl_toArray (f := fun a (x : Str) => a + x.length + sep.length)] at e
  simp only [Bool.not_eq_true', decide_eq_false_iff_not, Nat.not_lt, size_line, st_len]
  rw [e]; omega

theorem startswith_st (b : List Nat) : Txt.startswith (st b) (st [47]) = (b.head? == some 47) := by
  unfold Txt.startswith
  rw [PySem.StrLaws.subAt_eq, st_len, st_len]
  cases b with
  | nil => rfl
  | cons x r => simp [st]
theorem endswith_st (b : List Nat) : Txt.endswith (st b) (st [47]) = (b.getLast? == some 47) := by
  unfold Txt.endswith
  rw [PySem.StrLaws.subAt_eq, st_len, st_len]
  rcases List.eq_nil_or_concat b with rfl | ⟨r, x, rfl⟩
  · rfl
  · simp [st]
theorem slice_upto_st (l : List Nat) (k : Nat) : Txt.slice (st l) none (some (k : Int)) = st (l.take k) := by
  rcases Nat.le_total k l.length with h | h
  · have e := PySem.StrLaws.sliceText_to (x := st l) (j := (k : Int)) ⟨by omega, by simp [st]; omega⟩
    have e2 : PySem.StrLaws.sliceText (st l) none (some (k : Int)) = Txt.slice (st l) none (some (k : Int)) := rfl
    rw [← e2, e]
    simp [st]
  · have e3 : strSliceIndices none (some (k : Int)) 1 l.length = strSliceIndices none (some (l.length : Int)) 1 l.length := by
      have h1 : ¬ ((k : Int) < 0) := by omega
      have h2 : ¬ ((l.length : Int) < 0) := by omega
      have h3 : min (k : Int) (l.length : Int) = min (l.length : Int) (l.length : Int) := by omega
      simp [strSliceIndices, h1, h2, h3]
    have e4 : Txt.slice (st l) none (some (k : Int)) = Txt.slice (st l) none (some (l.length : Int)) := by
      unfold Txt.slice
      rw [st_len, e3]
    have e := PySem.StrLaws.sliceText_to (x := st l) (j := (l.length : Int)) ⟨by omega, by simp [st]⟩
    have e2 : PySem.StrLaws.sliceText (st l) none (some (l.length : Int)) = Txt.slice (st l) none (some (l.length : Int)) := rfl
    rw [e4, ← e2, e, List.take_of_length_le h]
    simp [st]
theorem slice_from_st (l : List Nat) (k : Nat) (h : k ≤ l.length) : Txt.slice (st l) (some (k : Int)) none = st (l.drop k) := by
  have e := PySem.StrLaws.sliceText_from (x := st l) (i := (k : Int)) ⟨by omega, by simp [st]; omega⟩
  have e2 : PySem.StrLaws.sliceText (st l) (some (k : Int)) none = Txt.slice (st l) (some (k : Int)) none := rfl
  rw [← e2, e]
  have : ((l.length : Int) - (k : Int)).toNat = l.length - k := by omega
  simp only [st, List.toList_toArray, Int.toNat_natCast, this]
  rw [List.take_of_length_le (by simp)]

-- where the last sign / ends
noncomputable def cutP (l : List Nat) : Nat := l.length - (l.reverse.takeWhile (fun x => x != 47)).length
-- without the signs / at the end
noncomputable def rstripS (l : List Nat) : List Nat := l.take (l.length - (l.reverse.takeWhile (fun x => x == 47)).length)
noncomputable def headP (l : List Nat) : List Nat := if l.take (cutP l) = List.replicate (l.take (cutP l)).length 47 then l.take (cutP l) else rstripS (l.take (cutP l))
noncomputable def tailP (l : List Nat) : List Nat := l.drop (cutP l)
theorem st_getD (l : List Nat) (k : Nat) : (st l).cps.getD k 0 = l.getD k 0 := by simp [st]
theorem at_st (l : List Nat) (k : Nat) : PySem.StrLaws.At (st l) (st [47]) (st l).length k ↔ k < l.length ∧ l.getD k 0 = 47 := by
  unfold PySem.StrLaws.At
  rw [PySem.StrLaws.subAt_eq, st_len, st_len]
  simp only [st, List.toList_toArray, List.length_cons, List.length_nil, beq_iff_eq]
  constructor
  · rintro ⟨h1, h2⟩
    have hk : k < l.length := by omega
    refine ⟨hk, ?_⟩
    rw [List.drop_eq_getElem_cons hk] at h2
    have h3 : l[k] = 47 := by
      have := congrArg List.head? h2
      simpa [List.take] using this
    simp [hk, h3]
  · rintro ⟨h1, h2⟩
    refine ⟨by omega, ?_⟩
    rw [List.drop_eq_getElem_cons h1]
    simp [h1] at h2
    simp [h2]
theorem cutP_facts (l : List Nat) : cutP l ≤ l.length ∧ (∀ k, cutP l ≤ k → k < l.length → l.getD k 0 ≠ 47) ∧ (cutP l = 0 ∨ l.getD (cutP l - 1) 0 = 47) := by
  have h := PyProof.Rows.hi_facts (fun x => x != 47) (st l) 0 (Nat.zero_le _)
  have e : stripHi (fun x => x != 47) true (st l) 0 = cutP l := by
    simp [stripHi, cutP, st, Str.length]
  rw [e, st_len] at h
  obtain ⟨_, h1, h2, h3⟩ := h
  refine ⟨h1, fun k a b => ?_, ?_⟩
  · have := h2 k a b
    rw [st_getD] at this
    simpa using this
  · rw [st_getD] at h3
    exact h3.imp id fun q => by simpa using q
theorem rfind_st (l : List Nat) : Txt.rfind (st l) (st [47]) + 1 = (cutP l : Int) := by
  obtain ⟨h1, h2, h3⟩ := cutP_facts l
  rcases PyProof.Rows.rfind_whole (st l) (st [47]) with ⟨e, hn⟩ | ⟨k, e, ha, hn⟩
  · rw [e]
    rcases h3 with h3 | h3
    · rw [h3]; rfl
    · exact absurd ((at_st l (cutP l - 1)).mpr ⟨by
        rcases Nat.eq_zero_or_pos l.length with z | z
        · have : l = [] := List.length_eq_zero_iff.mp z
          subst this
          simp at h3
        · omega, h3⟩) (hn _)
  · rw [e]
    rw [at_st] at ha
    have hk : k < cutP l := by
      rcases Nat.lt_or_ge k (cutP l) with q | q
      · exact q
      · exact absurd ha.2 (h2 k q ha.1)
    have hk2 : ¬ k < cutP l - 1 := fun q => by
      refine hn (cutP l - 1) q ((at_st l _).mpr ⟨by omega, h3.resolve_left (by omega)⟩)
    omega
theorem rstrip_st (l : List Nat) : Txt.rstripChars (st l) (st [47]) = st (rstripS l) := by
  have hg : (fun x => (st [47]).cps.contains x) = fun x => x == 47 := by
    funext x; simp [st]; rfl
  have hh : stripHi (fun x => x == 47) true (st l) 0 = l.length - (l.reverse.takeWhile (fun x => x == 47)).length := by simp [stripHi, st, Str.length]
  unfold Txt.rstripChars Txt.stripBy
  rw [show (st [47]).cps.contains = fun x => x == 47 from hg]
  split
  · rename_i h
    unfold stripSame at h
    simp only [stripLo, Bool.false_eq_true, if_false, beq_self_eq_true, Bool.true_and, beq_iff_eq] at h
    rw [hh, st_len] at h
    unfold rstripS
    rw [h, List.take_length]
  · unfold PySem.stripped
    simp only [stripLo, Bool.false_eq_true, if_false]
    rw [hh, PyProof.Rows.strSub_mk]
    simp [st, rstripS]
end Mine
end

section
open PySem PySem.W PySem.Calls PyProof.Rows PySem.Spec
set_option maxRecDepth 100000
namespace Mine
-- plain data of bounded depth: ints, texts, lists, tuples
noncomputable def okD : Nat → PyData → Bool
  | _, .none => true
  | _, .int _ => true
  | _, .str x => PyData.strOk x
  | n + 1, .list xs => xs.all (okD n)
  | n + 1, .tuple xs => xs.all (okD n)
  | _, _ => false
theorem okD_lay : ∀ (n : Nat) (d : PyData), okD n d = true → d.canLay0 = true ∧ d.depth ≤ n := by
  have all : ∀ n : Nat, (∀ d, okD n d = true → d.canLay0 = true ∧ d.depth ≤ n) → ∀ ds : List PyData, (∀ d ∈ ds, okD n d = true) → PyData.canLayAll0 ds = true ∧ PyData.depthAll ds ≤ n := by
    intro n ih ds
    induction ds with
    | nil => intro _; simp [PyData.canLayAll0, PyData.depthAll]
    | cons d ds hi =>
      intro h
      have h1 := ih d (h d (.head _))
      have h2 := hi fun e he => h e (.tail _ he)
      have a1 := h1.2
      have a2 := h2.2
      simp only [PyData.canLayAll0, PyData.depthAll, h1.1, h2.1, Bool.and_self, true_and]
      omega
  intro n
  induction n with
  | zero => intro d h; cases d <;> simp_all [okD, PyData.canLay0, PyData.depth]
  | succ n ih =>
    intro d h
    cases d with
    | list ds =>
      have q := all n ih ds (by simpa [okD] using h)
      have q2 := q.2
      simp only [PyData.canLay0, PyData.depth, q.1, true_and]; omega
    | tuple ds =>
      have q := all n ih ds (by simpa [okD] using h)
      have q2 := q.2
      simp only [PyData.canLay0, PyData.depth, q.1, true_and]; omega
    | _ => simp_all [okD, PyData.canLay0, PyData.depth]
theorem okD_shaped {n : Nat} {d : PyData} (h : okD n d = true) (hn : n ≤ 64 := by decide) : SeqAt.shaped d = true := by
  have := okD_lay n d h
  simp only [SeqAt.shaped, this.1, Bool.true_and, decide_eq_true_eq]; omega
theorem okD_eqv : ∀ (n : Nat) (d e : PyData) (k : Nat), okD n d = true → okD k e = true → (PyData.eqv d e = true ↔ d = e) := by
  have all : ∀ n : Nat, (∀ d e k, okD n d = true → okD k e = true → (PyData.eqv d e = true ↔ d = e)) → ∀ (k : Nat) (ds es : List PyData), (∀ d ∈ ds, okD n d = true) → (∀ d ∈ es, okD k d = true) → (PyData.eqvAll ds es = true ↔ ds = es) := by
    intro n ih k ds
    induction ds with
    | nil => intro es _ _; cases es <;> simp [PyData.eqvAll]
    | cons d ds hi =>
      intro es h1 h2
      cases es with
      | nil => simp [PyData.eqvAll]
      | cons e es =>
        have q1 := ih d e k (h1 d (.head _)) (h2 e (.head _))
        have q2 := hi es (fun x hx => h1 x (.tail _ hx)) fun x hx => h2 x (.tail _ hx)
        simp only [PyData.eqvAll, Bool.and_eq_true, q1, q2, List.cons.injEq]
  intro n
  induction n with
  | zero => intro d e k h1 h2; cases d <;> cases e <;> cases k <;> simp_all [okD, PyData.eqv]
  | succ n ih =>
    intro d e k h1 h2
    cases d with
    | tuple ds =>
      cases e with
      | tuple es =>
        cases k with
        | zero => simp [okD] at h2
        | succ k =>
          simp only [PyData.eqv, PyData.tuple.injEq]
          exact all n ih k ds es (by simpa [okD] using h1) (by simpa [okD] using h2)
      | _ => cases k <;> simp_all [okD, PyData.eqv]
    | list ds =>
      cases e with
      | list es =>
        cases k with
        | zero => simp [okD] at h2
        | succ k =>
          simp only [PyData.eqv, PyData.list.injEq]
          exact all n ih k ds es (by simpa [okD] using h1) (by simpa [okD] using h2)
      | _ => cases k <;> simp_all [okD, PyData.eqv]
    | _ => cases e <;> cases k <;> simp_all [okD, PyData.eqv]
theorem okD_up : ∀ {n m : Nat} {d : PyData}, okD n d = true → n ≤ m → okD m d = true := by
  intro n
  induction n with
  | zero => intro m d h hm; cases d <;> cases m <;> simp_all [okD]
  | succ n ih =>
    intro m d h hm
    obtain ⟨m, rfl⟩ : ∃ j, m = j + 1 := ⟨m - 1, by omega⟩
    cases d with
    | list ds => simp only [okD, List.all_eq_true] at h ⊢; exact fun x hx => ih (h x hx) (by omega)
    | tuple ds => simp only [okD, List.all_eq_true] at h ⊢; exact fun x hx => ih (h x hx) (by omega)
    | _ => simp_all [okD]
section
variable {c : Cx}
theorem cmp_eqD {d e : PyData} {n m : Nat} {b : Bool} (h₁ : okD n d = true) (h₂ : okD m e = true) (hb : b = true ↔ d = e) (hn : n ≤ 64 := by decide) (hm : m ≤ 64 := by decide) : CmpIs c .Eq d e b := by
  have := cmp_eq (c := c) (okD_shaped h₁ hn) (okD_shaped h₂ hm)
  rwa [show PyData.eqv d e = b from by rw [Bool.eq_iff_iff, okD_eqv n d e m h₁ h₂, hb]] at this
theorem cmp_neD {d e : PyData} {n m : Nat} {b : Bool} (h₁ : okD n d = true) (h₂ : okD m e = true) (hb : b = true ↔ d ≠ e) (hn : n ≤ 64 := by decide) (hm : m ≤ 64 := by decide) : CmpIs c .NotEq d e b := by
  have := cmp_ne (c := c) (okD_shaped h₁ hn) (okD_shaped h₂ hm)
  rwa [show (!PyData.eqv d e) = b from by
    have q := okD_eqv n d e m h₁ h₂
    rw [Bool.eq_iff_iff, Bool.not_eq_true', hb, ne_eq, ← q]; simp] at this
end
end Mine
end

section
open PySem PySem.W PySem.Calls PyProof.Rows PySem.Spec
set_option maxRecDepth 100000
namespace Mine
-- the frame's addresses and an own list
noncomputable def FrO (env : Env) (D a : Addr) : Prop := FrA env a ∨ a = D
structure AtO (c : Cx) (env : Env) (n : Nat) (D : Addr) (σ : List (Str × PyData)) (xs : List PyData) (A : Around) (S : Addr → Prop) (s : Shared) : Prop where
  at' : AtS c env n (FrO env D) σ A S s
  nf : ¬ FrA env D
  ls : ∃ vs : List Value, s.heap.PlainList D vs.toArray ∧ RdAll c.P S s.heap vs xs
noncomputable def OutO (c : Cx) (env : Env) (n : Nat) (D : Addr) (A : Around) (S : Addr → Prop) (s : Shared) (Φ : Out → List PyData → Prop) (f : Flow) (s' : Shared) : Prop :=
  KeepS (FrO env D) s s' ∧ match f with
    | .next => ∃ σ' xs', Φ (.next σ') xs' ∧ AtO c env n D σ' xs' A S s'
    | .brk => ∃ σ' xs', Φ (.brk σ') xs' ∧ AtO c env n D σ' xs' A S s'
    | .cont => ∃ σ' xs', Φ (.cont σ') xs' ∧ AtO c env n D σ' xs' A S s'
    | .ret v => ∃ d, Φ (.ret d) [] ∧ Rd c.P (fun a => S a ∧ a ≠ D) s'.heap v d
noncomputable def ExsO (c : Cx) (env : Env) (n : Nat) (D : Addr) (σ : List (Str × PyData)) (xs : List PyData) (stmts : List Stmt) (Φ : Out → List PyData → Prop) : Prop :=
  ∀ A S s E, AtO c env n D σ xs A S s → wpAny c.M A (execs stmts env) (OutO c env n D A S s Φ) E s
noncomputable def Ex1O (c : Cx) (env : Env) (n : Nat) (D : Addr) (σ : List (Str × PyData)) (xs : List PyData) (stmt : Stmt) (Φ : Out → List PyData → Prop) : Prop :=
  ∀ A S s E, AtO c env n D σ xs A S s → wpAny c.M A (exec stmt env) (OutO c env n D A S s Φ) E s
noncomputable def EvW (c : Cx) (env : Env) (n : Nat) (D : Addr) (σ : List (Str × PyData)) (xs : List PyData) (e : Expr) (d : PyData) : Prop :=
  ∀ A S s E, AtO c env n D σ xs A S s → wpAny c.M A (eval e env) (Post c S s d) E s

section
variable {c : Cx} {env : Env} {n : Nat} {D : Addr} {S S' X Y : Addr → Prop} {σ : List (Str × PyData)} {xs : List PyData} {A : Around} {s s₁ s' : Shared} {E : Value → Shared → Prop} {Φ Ψ : Out → List PyData → Prop}
theorem GoodX.less {h : Heap} (g : GoodX c X h) (k : ∀ a, Y a → X a) : GoodX c Y h := let ⟨h₀, a, b, z⟩ := g; ⟨h₀, a, b, fun p q => z p (k p q)⟩
theorem AtO.toA (a : AtO c env n D σ xs A S s) : AtS c env n (FrA env) σ A S s := ⟨a.at'.room, a.at'.good.less fun _ => .inl, a.at'.sb, ⟨a.at'.fm.fr, fun b q => a.at'.fm.xs b (.inl q), .inl rfl⟩⟩
theorem AtO.keep (a : AtO c env n D σ xs A S s) (k : Keeps s s') : AtO c env n D σ xs A S s' :=
  ⟨a.at'.keep k, a.nf, let ⟨vs, h, r⟩ := a.ls; ⟨vs, h.at fun o e => Keeps.h k _ _ e, r.keep (Keeps.h k)⟩⟩
-- after a run that turns the frame alone
theorem AtO.back {σ' : List (Str × PyData)} (a : AtO c env n D σ xs A S s) (k : KeepS (FrA env) s s') (a' : AtS c env n (FrA env) σ' A S s') : AtO c env n D σ' xs A S s' := by
  refine ⟨⟨a'.room, a.at'.good.keepB (k.b.mono fun _ => .inl), a'.sb, ⟨a'.fm.fr, a.at'.fm.xs, .inl (.inl rfl)⟩⟩, a.nf, ?_⟩
  obtain ⟨vs, h, r⟩ := a.ls
  exact ⟨vs, h.at fun o e => k.b _ o a.nf e, r.keepB (k.b.mono a.toA.fm.xs)⟩
theorem KeepS.toO (k : KeepS (FrA env) s s') : KeepS (FrO env D) s s' := k.mono fun _ => .inl
theorem OutO.from {f} (k : KeepS (FrO env D) s s₁) (h : OutO c env n D A S s₁ Φ f s') : OutO c env n D A S s Φ f s' := ⟨k.trans h.1, h.2⟩
theorem exO_nil (h : Φ (.next σ) xs) : ExsO c env n D σ xs [] Φ := fun A S s E a => wpAny_execs_nil ⟨KeepS.refl, σ, xs, h, a⟩
noncomputable def ThenO (c : Cx) (env : Env) (n : Nat) (D : Addr) (rest : List Stmt) (Φ : Out → List PyData → Prop) : Out → List PyData → Prop
  | .next σ', xs => ExsO c env n D σ' xs rest Φ
  | o, xs => Φ o xs
theorem exO_cons {st rest} (h : Ex1O c env n D σ xs st (ThenO c env n D rest Φ)) : ExsO c env n D σ xs (st :: rest) Φ := fun A S s E a => by
  refine wpAny_execs_cons (wpAny_mono (h A S s E a) (fun f s₁ q => ?_) fun _ _ x => x)
  obtain ⟨k, q⟩ := q
  cases f with
  | next =>
    obtain ⟨σ', xs', h', a'⟩ := q
    exact wpAny_mono (h' A S s₁ E a') (fun _ _ r => r.from k) fun _ _ x => x
  | brk => obtain ⟨σ', xs', h', a'⟩ := q; exact ⟨k, σ', xs', h', a'⟩
  | cont => obtain ⟨σ', xs', h', a'⟩ := q; exact ⟨k, σ', xs', h', a'⟩
  | ret v => obtain ⟨d, h', a'⟩ := q; exact ⟨k, d, h', a'⟩
-- a statement that does not touch the own list
theorem exO_lift {st} (h : Ex1 c env n σ st (fun o => match o with | .ret d => Φ (.ret d) [] | o => Φ o xs)) : Ex1O c env n D σ xs st Φ := fun A S s E a => by
  refine wpAny_mono (h A S s E a.toA) (fun f s₁ q => ?_) fun _ _ x => x
  obtain ⟨k, q⟩ := q
  refine ⟨k.toO, ?_⟩
  cases f with
  | next => obtain ⟨σ', h', a'⟩ := q; exact ⟨σ', xs, h', a.back k a'⟩
  | brk => obtain ⟨σ', h', a'⟩ := q; exact ⟨σ', xs, h', a.back k a'⟩
  | cont => obtain ⟨σ', h', a'⟩ := q; exact ⟨σ', xs, h', a.back k a'⟩
  | ret v => obtain ⟨d, h', r⟩ := q; exact ⟨d, h', r.less fun _ q => q.1⟩
theorem exO_if {t body orelse pos b} (ht : EvT c env n σ t b) (h₁ : b = true → ExsO c env n D σ xs body Φ) (h₂ : b = false → ExsO c env n D σ xs orelse Φ) : Ex1O c env n D σ xs (.If t body orelse pos) Φ := fun A S s E a => by
  refine wpAny_If (wpAny_mono (ht A S s E a.toA.at) (fun r s₁ q => ?_) fun _ _ x => x)
  obtain ⟨rfl, k⟩ := q
  cases r with
  | true => exact wpAny_mono (h₁ rfl A S s₁ E (a.keep k)) (fun _ _ z => z.from (KeepS.of k)) fun _ _ x => x
  | false => exact wpAny_mono (h₂ rfl A S s₁ E (a.keep k)) (fun _ _ z => z.from (KeepS.of k)) fun _ _ x => x
theorem exO_while {t body pos} (J : Nat → List (Str × PyData) → List PyData → Prop) (m : Nat) (h0 : J m σ xs)
    (turn : ∀ m σ' xs', J m σ' xs' → ∃ b, EvT c env n σ' t b ∧ (b = true → ExsO c env n D σ' xs' body (fun o ys => match o with | .next σ'' => ∃ m', m' < m ∧ J m' σ'' ys | .cont σ'' => ∃ m', m' < m ∧ J m' σ'' ys | .brk σ'' => Φ (.next σ'') ys | .ret r => Φ (.ret r) [])) ∧ (b = false → Φ (.next σ') xs')) :
    Ex1O c env n D σ xs (.While t body [] pos) Φ := fun A S s E a => by
  refine wpAny_While (codeAny_whileLoop (fun m s' => ∃ σ' xs', J m σ' xs' ∧ KeepS (FrO env D) s s' ∧ AtO c env n D σ' xs' A S s') ?_ m ⟨σ, xs, h0, KeepS.refl, a⟩)
  rintro m s' ⟨σ', xs', hJ, ks, a'⟩
  obtain ⟨b, ht, h1, h2⟩ := turn m σ' xs' hJ
  refine wpAny_mono (ht A S s' _ a'.toA.at) (fun r s₂ q => ?_) fun _ _ x => x
  obtain ⟨rfl, k⟩ := q
  cases r with
  | false => exact wpAny_execs_nil ⟨ks.trans (KeepS.of k), σ', xs', h2 rfl, a'.keep k⟩
  | true =>
    refine wpAny_mono (h1 rfl A S s₂ _ (a'.keep k)) (fun f s₃ q => ?_) fun _ _ x => x
    obtain ⟨k₃, q⟩ := q
    have ks₃ := (ks.trans (KeepS.of k)).trans k₃
    cases f with
    | next => obtain ⟨σ'', ys, ⟨m', hm, j⟩, a₃⟩ := q; exact ⟨m', hm, σ'', ys, j, ks₃, a₃⟩
    | cont => obtain ⟨σ'', ys, ⟨m', hm, j⟩, a₃⟩ := q; exact ⟨m', hm, σ'', ys, j, ks₃, a₃⟩
    | brk => obtain ⟨σ'', ys, j, a₃⟩ := q; exact ⟨ks₃, σ'', ys, j, a₃⟩
    | ret v => obtain ⟨r, j, a₃⟩ := q; exact ⟨ks₃, r, j, a₃⟩
theorem exO_for {x px iter body pos ds} (J : Nat → List (Str × PyData) → List PyData → Prop) (hi : EvI c env n σ iter ds) (hx : Own env x) (h0 : J 0 σ xs)
    (hb : ∀ (i : Nat) d σ' xs', ds[i]? = some d → J i σ' xs' → ExsO c env n D ((x, d) :: σ') xs' body (fun o ys => match o with | .next σ'' => J (i + 1) σ'' ys | .cont σ'' => J (i + 1) σ'' ys | .brk σ'' => Φ (.next σ'') ys | .ret r => Φ (.ret r) []))
    (hd : ∀ σ' xs', J ds.length σ' xs' → Φ (.next σ') xs') (hs : ∀ x, foldedSetIterable iter env x = pure x := by intro _; rfl) : Ex1O c env n D σ xs (.For (.Name x px) iter body [] pos) Φ := fun A S s E a => by
  refine wpAny_For (wpAny_mono (hi A S s E a.toA.at) (fun v s₁ h₁ => wpAny_mono h₁ (fun it s₂ h₂ => ?_) fun _ _ x => x) fun _ _ x => x) hs
  obtain ⟨I, fp, wr, P, St, rfl, k, W, st, hfp, hw, hob, hpl, hP⟩ := h₂
  let S₁ : Addr → Prop := fun b => S b ∨ b ∈ wr
  have hwS : ∀ b ∈ wr, ¬ S b := fun b hb q => by obtain ⟨o, ho⟩ := a.at'.sb b q; rw [hw b hb] at ho; cases ho
  have hXS : ∀ b, FrO env D b → S b := a.at'.fm.xs
  have hwX : ∀ b ∈ wr, ¬ FrO env D b := fun b hb q => hwS b hb (hXS b q)
  have a₂ : AtO c env n D σ xs A S₁ s₂ := by
    have a' := a.at'.keep k
    refine ⟨⟨a'.room, a'.good, fun b hb => hb.elim (a'.sb b) (hob _ _ st b), ?_⟩, a.nf, ?_⟩
    · exact a.at'.fm.move (S' := S₁) (h' := s₂.heap) (fun b q => .inl (hXS b q)) (fun b o n e => ⟨fun q => q.elim n fun q => (by rw [hw b q] at e; cases e), Keeps.h k b o e⟩) (fun o e => Keeps.h k _ _ e) (fun _ _ o e => Keeps.h k _ _ e)
    · obtain ⟨vs, h, r⟩ := a.ls
      exact ⟨vs, h.at fun o e => Keeps.h k _ _ e, r.move fun b o n e => ⟨fun q => q.elim n fun q => (by rw [hw b q] at e; cases e), Keeps.h k b o e⟩⟩
  have good₂ : GoodX c (fun b => FrO env D b ∨ b ∈ wr) s₂.heap := by
    obtain ⟨h₀, g, kk, z⟩ := a.at'.good
    refine ⟨h₀, g, kk.trans (Keeps.h k), fun b q => q.elim (z b) fun q => ?_⟩
    cases e : h₀.get? b with
    | none => rfl
    | some o => have := kk b o e; rw [hw b q] at this; cases this
  have back : ∀ {s' : Shared}, KeepS (fun b => FrO env D b ∨ b ∈ wr) s₂ s' → KeepS (FrO env D) s s' := fun {s'} ks => by
    obtain ⟨h₂, tk₂, rfl, kh₂⟩ := k
    obtain ⟨h', tk', rfl, kb⟩ := ks
    exact ⟨h', tk', rfl, fun b o nx e => kb b o (fun q => q.elim nx fun q => by rw [hw b q] at e; cases e) (kh₂ b o e)⟩
  have less : ∀ {σ' ys} {s' : Shared}, AtO c env n D σ' ys A S₁ s' → AtO c env n D σ' ys A S s' := fun {σ' ys s'} a' =>
    ⟨⟨a'.at'.room, a'.at'.good, fun b hb => a'.at'.sb b (.inl hb), a'.at'.fm.move hXS (fun _ _ n e => ⟨fun q => n (.inl q), e⟩) (fun _ e => e) fun _ _ _ e => e⟩, a'.nf, let ⟨vs, h, r⟩ := a'.ls; ⟨vs, h, r.less fun _ => .inl⟩⟩
  refine codeAny_forLoop (fun m s' => ∃ i σ' ys, i ≤ ds.length ∧ m = ds.length + 1 - i ∧ J i σ' ys ∧ St i s'.heap ∧ KeepS (fun b => FrO env D b ∨ b ∈ wr) s₂ s' ∧ AtO c env n D σ' ys A S₁ s') ?_ (ds.length + 1)
    ⟨0, σ, xs, Nat.zero_le _, rfl, h0, st, KeepS.refl, a₂⟩
  rintro m s' ⟨i, σ', ys, hi', rfl, hJ, st', ks, a'⟩
  -- a turn of the iterator
  have step : ∀ {h₃ : Heap} {tk₃ : Nat}, (∀ b o, b ∉ wr → s'.heap.get? b = some o → h₃.get? b = some o) → (∀ b ∈ wr, ∃ o, h₃.get? b = some o) → AtO c env n D σ' ys A S₁ { s' with heap := h₃, toks := tk₃ } := fun {h₃ tk₃} hk₃ hex => by
    have kw : KeepB (fun b => b ∈ wr) s'.heap h₃ := fun b o nx e => hk₃ b o nx e
    have ks₃ : KeepS (fun b => FrO env D b ∨ b ∈ wr) s₂ { s' with heap := h₃, toks := tk₃ } := ks.trans ⟨h₃, tk₃, rfl, kw.mono fun _ => .inr⟩
    refine ⟨⟨a'.at'.room, ?_, fun b q => ?_, a'.at'.fm.move a'.at'.fm.xs (fun b o nx e => ⟨nx, hk₃ b o (fun z => nx (.inr z)) e⟩) (fun o e => hk₃ _ o (fun z => hwX _ z (.inl (.inl rfl))) e) fun p hp o e => hk₃ _ o (fun z => hwX _ z (.inl (.inr ⟨p, hp, rfl⟩))) e⟩, a'.nf, ?_⟩
    · obtain ⟨h₀, g, kk, z⟩ := good₂
      exact ⟨h₀, g, fun b o e => ks₃.b b o (fun q => by rw [z b q] at e; cases e) (kk b o e), fun b q => z b (.inl q)⟩
    · by_cases z : b ∈ wr
      · exact hex b z
      · obtain ⟨o, ho⟩ := a'.at'.sb b q; exact ⟨o, hk₃ b o z ho⟩
    · obtain ⟨vs, h, r⟩ := a'.ls
      exact ⟨vs, h.at fun o e => hk₃ _ o (fun z => hwX _ z (.inr rfl)) e, r.move fun b o nx e => ⟨nx, hk₃ b o (fun z => nx (.inr z)) e⟩⟩
  by_cases hlt : i < ds.length
  · refine W.item i s' _ _ hlt st' fun v h₃ tk₃ hPv st₃ hk₃ => ?_
    obtain ⟨d, hd', r⟩ := hP i v hlt hPv
    have kw : KeepB (fun b => b ∈ wr) s'.heap h₃ := fun b o nx e => hk₃ b o nx e
    have ks₃ : KeepS (fun b => FrO env D b ∨ b ∈ wr) s₂ { s' with heap := h₃, toks := tk₃ } := ks.trans ⟨h₃, tk₃, rfl, kw.mono fun _ => .inr⟩
    have r₃ : Rd c.P S₁ h₃ v d := r.keepB (ks₃.b.mono fun b q => q.elim (fun q => .inl (hXS b q)) .inr)
    have a₃ := step (tk₃ := tk₃) (fun b o nx e => hk₃ b o nx e) (hob _ _ st₃)
    refine wpAny_assign_Name (store_at a₃.toA r₃ hx.can fun s₄ k₄ kf₄ a₄ => ?_)
    have b₄ := a₃.back k₄ a₄
    have ks₄ := ks₃.trans (k₄.mono fun _ q => .inl (.inl q))
    have st₄ : St (i + 1) s₄.heap := W.frame _ _ _ st₃ fun b hb o e => k₄.b b o (fun q => (hfp b hb).2 (hXS b (.inl q))) e
    refine wpAny_mono (hb i d σ' ys hd' hJ A S₁ s₄ _ b₄) (fun f s₅ q => ?_) fun _ _ x => x
    obtain ⟨k₅, q⟩ := q
    have ks₅ := ks₄.trans (k₅.mono fun _ => .inl)
    have st₅ : St (i + 1) s₅.heap := W.frame _ _ _ st₄ fun b hb o e => k₅.b b o (fun q => (hfp b hb).2 (hXS b q)) e
    cases f with
    | next => obtain ⟨σ'', zs, j, a₅⟩ := q; exact ⟨_, by omega, i + 1, σ'', zs, hlt, rfl, j, st₅, ks₅, a₅⟩
    | cont => obtain ⟨σ'', zs, j, a₅⟩ := q; exact ⟨_, by omega, i + 1, σ'', zs, hlt, rfl, j, st₅, ks₅, a₅⟩
    | brk => obtain ⟨σ'', zs, j, a₅⟩ := q; exact ⟨back ks₅, σ'', zs, j, less a₅⟩
    | ret v => obtain ⟨r, j, a₅⟩ := q; exact ⟨back ks₅, r, j, a₅.less fun b q => ⟨.inl q.1, q.2⟩⟩
  · obtain rfl : i = ds.length := by omega
    refine W.done s' _ _ st' fun h₃ tk₃ hk₃ => ?_
    refine wpAny_execs_nil ?_
    have kw : KeepB (fun b => b ∈ wr) s'.heap h₃ := fun b o nx e => hk₃ b o nx e
    have ks₃ : KeepS (fun b => FrO env D b ∨ b ∈ wr) s₂ { s' with heap := h₃, toks := tk₃ } := ks.trans ⟨h₃, tk₃, rfl, kw.mono fun _ => .inr⟩
    refine ⟨back ks₃, σ', ys, hd σ' ys hJ, ?_⟩
    refine ⟨⟨a'.at'.room, ?_, fun b q => ?_, a'.at'.fm.move hXS (fun b o nx e => ⟨fun z => nx (.inl z), hk₃ b o (fun z => nx (.inr z)) e⟩) (fun o e => hk₃ _ o (fun z => hwX _ z (.inl (.inl rfl))) e) fun p hp o e => hk₃ _ o (fun z => hwX _ z (.inl (.inr ⟨p, hp, rfl⟩))) e⟩, a'.nf, ?_⟩
    · obtain ⟨h₀, g, kk, z⟩ := good₂
      exact ⟨h₀, g, fun b o e => ks₃.b b o (fun q => by rw [z b q] at e; cases e) (kk b o e), fun b q => z b (.inl q)⟩
    · obtain ⟨o, ho⟩ := a'.at'.sb b (.inl q); exact ⟨o, hk₃ b o (fun z => hwS b z q) ho⟩
    · obtain ⟨vs, h, r⟩ := a'.ls
      exact ⟨vs, h.at fun o e => hk₃ _ o (fun z => hwX _ z (.inr rfl)) e, (r.move (S' := S₁) fun b o nx e => ⟨nx, hk₃ b o (fun z => nx (.inr z)) e⟩).less fun _ => .inl⟩
end
end Mine
end

section
open PySem PySem.W PySem.Calls PyProof.Rows PySem.Spec
set_option maxRecDepth 1000000
namespace Mine
-- the text's statements
noncomputable abbrev pw : Program := PySem.Challenge.pw_pd0017_01
noncomputable def fd (i : Nat) : Stmt := pw.main.body.getD i default
noncomputable def fBody : Stmt → List Stmt
  | .FunctionDef _ _ b _ _ _ _ _ _ _ => b
  | _ => []
noncomputable def fArgs : Stmt → Arguments
  | .FunctionDef _ a _ _ _ _ _ _ _ _ => a
  | _ => default
noncomputable def fScope : Stmt → Scope
  | .FunctionDef _ _ _ _ _ _ s _ _ _ => s
  | _ => default
-- an entry under a name
noncomputable def ke (P : Params) (k : String) (t : Tok) (v : Value) : DictEntry := ⟨PyData.keyHash P (Str.ofString k), .str (Str.ofString k) t, v⟩
-- the function that a statement of the text makes
noncomputable def fo (i : Nat) (n m : String) (mt : Tok) (cd : Addr) : Obj := ⟨.type "function", none, .func (docDef (Str.ofString n) (fArgs (fd i)) (fBody (fd i)) (fScope (fd i)) (.str (Str.ofString m) mt) (.ref cd) .none), #[]⟩
-- what the walk reads of the heap behind the top
noncomputable def kF (P : Params) : Frag := [
  (3, ⟨.type "dict", none, .dict #[ke P "__name__" 165 (.str (Str.ofString "law_pd0017_01") 554), ke P "__doc__" 166 .none, ke P "__package__" 167 .none, ke P "__loader__" 168 (.builtin "__main__.__loader__#opaque"), ke P "__spec__" 169 .none, ke P "__annotations__" 170 (.ref 6), ke P "__builtins__" 171 (.ref 4), ke P "__file__" 173 (.str (Str.ofString "/claim/cut.py") 172), ke P "__cached__" 174 .none, ke P "_wall" 193 (.ref 21), ke P "_plain_name" 204 (.ref 28), ke P "ABCMeta" 230 (.ref 45), ke P "_ABCLike" 273 (.ref 78), ke P "_abc_plain_meta" 280 (.ref 87), ke P "fspath" 292 (.ref 94), ke P "_check_arg_types" 305 (.ref 101), ke P "_get_sep" 314 (.ref 108), ke P "join" 325 (.ref 115), ke P "split" 336 (.ref 122), ke P "commonpath" 342 (.ref 127), ke P "LPAR" 346 (.int 7 345), ke P "RPAR" 348 (.int 8 347), ke P "LSQB" 350 (.int 9 349), ke P "RSQB" 352 (.int 10 351), ke P "COLON" 354 (.int 11 353), ke P "COMMA" 356 (.int 12 355), ke P "SEMI" 358 (.int 13 357), ke P "PLUS" 360 (.int 14 359), ke P "MINUS" 362 (.int 15 361), ke P "STAR" 364 (.int 16 363), ke P "SLASH" 366 (.int 17 365), ke P "VBAR" 368 (.int 18 367), ke P "AMPER" 370 (.int 19 369), ke P "LESS" 372 (.int 20 371), ke P "GREATER" 374 (.int 21 373), ke P "EQUAL" 376 (.int 22 375), ke P "DOT" 378 (.int 23 377), ke P "PERCENT" 380 (.int 24 379), ke P "LBRACE" 382 (.int 25 381), ke P "RBRACE" 384 (.int 26 383), ke P "EQEQUAL" 386 (.int 27 385), ke P "NOTEQUAL" 388 (.int 28 387), ke P "LESSEQUAL" 390 (.int 29 389), ke P "GREATEREQUAL" 392 (.int 30 391), ke P "TILDE" 394 (.int 31 393), ke P "CIRCUMFLEX" 396 (.int 32 395), ke P "LEFTSHIFT" 398 (.int 33 397), ke P "RIGHTSHIFT" 400 (.int 34 399), ke P "DOUBLESTAR" 402 (.int 35 401), ke P "PLUSEQUAL" 404 (.int 36 403), ke P "MINEQUAL" 406 (.int 37 405), ke P "STAREQUAL" 408 (.int 38 407), ke P "SLASHEQUAL" 410 (.int 39 409), ke P "PERCENTEQUAL" 412 (.int 40 411), ke P "AMPEREQUAL" 414 (.int 41 413), ke P "VBAREQUAL" 416 (.int 42 415), ke P "CIRCUMFLEXEQUAL" 418 (.int 43 417), ke P "LEFTSHIFTEQUAL" 420 (.int 44 419), ke P "RIGHTSHIFTEQUAL" 422 (.int 45 421), ke P "DOUBLESTAREQUAL" 424 (.int 46 423), ke P "DOUBLESLASH" 426 (.int 47 425), ke P "DOUBLESLASHEQUAL" 428 (.int 48 427), ke P "AT" 430 (.int 49 429), ke P "ATEQUAL" 432 (.int 50 431), ke P "RARROW" 434 (.int 51 433), ke P "ELLIPSIS" 436 (.int 52 435), ke P "COLONEQUAL" 438 (.int 53 437), ke P "EXCLAMATION" 440 (.int 54 439), ke P "NT_OFFSET" 442 (.int 256 441), ke P "EXACT_TOKEN_TYPES" 539 (.ref 128), ke P "ISTERMINAL" 546 (.ref 137), ke P "ISNONTERMINAL" 553 (.ref 144), ke P "_law_table" 564 (.ref 151), ke P "_law_node" 570 (.ref 156), ke P "_law_leaves" 576 (.ref 161), ke P "_law_read" 582 (.ref 166), ke P "_law_paths" 588 (.ref 171), ke P "_law_chains" 594 (.ref 176), ke P "_law_told" 600 (.ref 181), ke P "_law_alike" 606 (.ref 186), ke P "_law_below" 612 (.ref 191), ke P "_law_beside" 619 (.ref 198), ke P "law" 625 (.ref 203)] 83, #[]⟩),
  (93, ⟨.type "code", none, .fields #[.str (Str.ofString "fspath") 283, .str (Str.ofString "fspath") 284, .str (Str.ofString "/claim/cut.py") 285, .int 35 0, .int 1 0, .int 0 0, .int 0 0, .int 3 0, .ref 88, .bool true, .int 181 0, .ref 89, .none, .ref 90, .ref 91, .ref 92, .int 290 0, .int 35 0, .str (Str.ofString "/claim/cut.py") 291], #[]⟩),
  (94, fo 9 "fspath" "os" 281 93),
  (107, ⟨.type "code", none, .fields #[.str (Str.ofString "_get_sep") 308, .str (Str.ofString "_get_sep") 309, .str (Str.ofString "/claim/cut.py") 310, .int 64 0, .int 1 0, .int 0 0, .int 0 0, .int 3 0, .ref 102, .bool true, .int 181 0, .ref 103, .none, .ref 104, .ref 105, .ref 106, .int 312 0, .int 64 0, .str (Str.ofString "/claim/cut.py") 313], #[]⟩),
  (108, fo 13 "_get_sep" "cpy313.posixpath" 306 107),
  (114, ⟨.type "code", none, .fields #[.str (Str.ofString "join") 315, .str (Str.ofString "join") 316, .str (Str.ofString "/claim/cut.py") 317, .int 69 0, .int 1 0, .int 0 0, .int 0 0, .int 7 0, .ref 109, .bool true, .int 181 0, .ref 110, .none, .ref 111, .ref 112, .ref 113, .int 323 0, .int 69 0, .str (Str.ofString "/claim/cut.py") 324], #[]⟩),
  (115, fo 14 "join" "cpy313.posixpath" 306 114),
  (121, ⟨.type "code", none, .fields #[.str (Str.ofString "split") 326, .str (Str.ofString "split") 327, .str (Str.ofString "/claim/cut.py") 328, .int 86 0, .int 1 0, .int 0 0, .int 0 0, .int 3 0, .ref 116, .bool true, .int 181 0, .ref 117, .none, .ref 118, .ref 119, .ref 120, .int 334 0, .int 86 0, .str (Str.ofString "/claim/cut.py") 335], #[]⟩),
  (122, fo 15 "split" "cpy313.posixpath" 306 121),
  (126, ⟨.type "code", none, .fields #[.str (Str.ofString "commonpath") 337, .str (Str.ofString "commonpath") 338, .str (Str.ofString "/claim/cut.py") 339, .int 94 0, .int 1 0, .int 0 0, .int 0 0, .int 3 0, .ref 123, .bool true, .int 181 0, .ref 124, .none, .none, .none, .ref 125, .int 340 0, .int 94 0, .str (Str.ofString "/claim/cut.py") 341], #[]⟩),
  (127, fo 16 "commonpath" "cpy313.posixpath" 306 126),
  (128, ⟨.type "dict", none, .dict #[ke P "!" 443 (.int 54 439), ke P "!=" 445 (.int 28 387), ke P "%" 447 (.int 24 379), ke P "%=" 449 (.int 40 411), ke P "&" 451 (.int 19 369), ke P "&=" 453 (.int 41 413), ke P "(" 455 (.int 7 345), ke P ")" 457 (.int 8 347), ke P "*" 459 (.int 16 363), ke P "**" 461 (.int 35 401), ke P "**=" 463 (.int 46 423), ke P "*=" 465 (.int 38 407), ke P "+" 467 (.int 14 359), ke P "+=" 469 (.int 36 403), ke P "," 471 (.int 12 355), ke P "-" 473 (.int 15 361), ke P "-=" 475 (.int 37 405), ke P "->" 477 (.int 51 433), ke P "." 479 (.int 23 377), ke P "..." 481 (.int 52 435), ke P "/" 483 (.int 17 365), ke P "//" 485 (.int 47 425), ke P "//=" 487 (.int 48 427), ke P "/=" 489 (.int 39 409), ke P ":" 491 (.int 11 353), ke P ":=" 493 (.int 53 437), ke P ";" 495 (.int 13 357), ke P "<" 497 (.int 20 371), ke P "<<" 499 (.int 33 397), ke P "<<=" 501 (.int 44 419), ke P "<=" 503 (.int 29 389), ke P "=" 505 (.int 22 375), ke P "==" 507 (.int 27 385), ke P ">" 509 (.int 21 373), ke P ">=" 511 (.int 30 391), ke P ">>" 512 (.int 34 399), ke P ">>=" 513 (.int 45 421), ke P "@" 514 (.int 49 429), ke P "@=" 515 (.int 50 431), ke P "[" 516 (.int 9 349), ke P "]" 517 (.int 10 351), ke P "^" 518 (.int 32 395), ke P "^=" 519 (.int 43 417), ke P "{" 520 (.int 25 381), ke P "|" 521 (.int 18 367), ke P "|=" 522 (.int 42 415), ke P "}" 523 (.int 26 383), ke P "~" 524 (.int 31 393)] 48, #[]⟩),
  (136, ⟨.type "code", none, .fields #[.str (Str.ofString "ISTERMINAL") 540, .str (Str.ofString "ISTERMINAL") 541, .str (Str.ofString "/claim/cut.py") 542, .int 174 0, .int 1 0, .int 0 0, .int 0 0, .int 3 0, .ref 131, .bool true, .int 181 0, .ref 132, .none, .ref 133, .ref 134, .ref 135, .int 544 0, .int 174 0, .str (Str.ofString "/claim/cut.py") 545], #[]⟩),
  (137, fo 68 "ISTERMINAL" "cpy313.token" 343 136),
  (143, ⟨.type "code", none, .fields #[.str (Str.ofString "ISNONTERMINAL") 547, .str (Str.ofString "ISNONTERMINAL") 548, .str (Str.ofString "/claim/cut.py") 549, .int 176 0, .int 1 0, .int 0 0, .int 0 0, .int 3 0, .ref 138, .bool true, .int 181 0, .ref 139, .none, .ref 140, .ref 141, .ref 142, .int 551 0, .int 176 0, .str (Str.ofString "/claim/cut.py") 552], #[]⟩),
  (144, fo 69 "ISNONTERMINAL" "cpy313.token" 343 143),
  (150, ⟨.type "code", none, .fields #[.str (Str.ofString "_law_table") 556, .str (Str.ofString "_law_table") 557, .str (Str.ofString "/claim/cut.py") 558, .int 179 0, .int 1 0, .int 0 0, .int 0 0, .int 3 0, .ref 145, .bool true, .int 181 0, .ref 146, .none, .ref 147, .ref 148, .ref 149, .int 562 0, .int 179 0, .str (Str.ofString "/claim/cut.py") 563], #[]⟩),
  (151, fo 71 "_law_table" "law_pd0017_01" 554 150),
  (155, ⟨.type "code", none, .fields #[.str (Str.ofString "_law_node") 565, .str (Str.ofString "_law_node") 566, .str (Str.ofString "/claim/cut.py") 567, .int 184 0, .int 3 0, .int 0 0, .int 0 0, .int 3 0, .ref 152, .bool true, .int 181 0, .ref 153, .none, .none, .none, .ref 154, .int 568 0, .int 184 0, .str (Str.ofString "/claim/cut.py") 569], #[]⟩),
  (156, fo 72 "_law_node" "law_pd0017_01" 554 155),
  (160, ⟨.type "code", none, .fields #[.str (Str.ofString "_law_leaves") 571, .str (Str.ofString "_law_leaves") 572, .str (Str.ofString "/claim/cut.py") 573, .int 195 0, .int 1 0, .int 0 0, .int 0 0, .int 3 0, .ref 157, .bool true, .int 181 0, .ref 158, .none, .none, .none, .ref 159, .int 574 0, .int 195 0, .str (Str.ofString "/claim/cut.py") 575], #[]⟩),
  (161, fo 73 "_law_leaves" "law_pd0017_01" 554 160),
  (165, ⟨.type "code", none, .fields #[.str (Str.ofString "_law_read") 577, .str (Str.ofString "_law_read") 578, .str (Str.ofString "/claim/cut.py") 579, .int 199 0, .int 1 0, .int 0 0, .int 0 0, .int 3 0, .ref 162, .bool true, .int 181 0, .ref 163, .none, .none, .none, .ref 164, .int 580 0, .int 199 0, .str (Str.ofString "/claim/cut.py") 581], #[]⟩),
  (166, fo 74 "_law_read" "law_pd0017_01" 554 165),
  (170, ⟨.type "code", none, .fields #[.str (Str.ofString "_law_paths") 583, .str (Str.ofString "_law_paths") 584, .str (Str.ofString "/claim/cut.py") 585, .int 210 0, .int 2 0, .int 0 0, .int 0 0, .int 3 0, .ref 167, .bool true, .int 181 0, .ref 168, .none, .none, .none, .ref 169, .int 586 0, .int 210 0, .str (Str.ofString "/claim/cut.py") 587], #[]⟩),
  (171, fo 75 "_law_paths" "law_pd0017_01" 554 170),
  (175, ⟨.type "code", none, .fields #[.str (Str.ofString "_law_chains") 589, .str (Str.ofString "_law_chains") 590, .str (Str.ofString "/claim/cut.py") 591, .int 217 0, .int 1 0, .int 0 0, .int 0 0, .int 3 0, .ref 172, .bool true, .int 181 0, .ref 173, .none, .none, .none, .ref 174, .int 592 0, .int 217 0, .str (Str.ofString "/claim/cut.py") 593], #[]⟩),
  (176, fo 76 "_law_chains" "law_pd0017_01" 554 175),
  (180, ⟨.type "code", none, .fields #[.str (Str.ofString "_law_told") 595, .str (Str.ofString "_law_told") 596, .str (Str.ofString "/claim/cut.py") 597, .int 226 0, .int 3 0, .int 0 0, .int 0 0, .int 3 0, .ref 177, .bool true, .int 181 0, .ref 178, .none, .none, .none, .ref 179, .int 598 0, .int 226 0, .str (Str.ofString "/claim/cut.py") 599], #[]⟩),
  (181, fo 77 "_law_told" "law_pd0017_01" 554 180),
  (185, ⟨.type "code", none, .fields #[.str (Str.ofString "_law_alike") 601, .str (Str.ofString "_law_alike") 602, .str (Str.ofString "/claim/cut.py") 603, .int 229 0, .int 1 0, .int 0 0, .int 0 0, .int 3 0, .ref 182, .bool true, .int 181 0, .ref 183, .none, .none, .none, .ref 184, .int 604 0, .int 229 0, .str (Str.ofString "/claim/cut.py") 605], #[]⟩),
  (186, fo 78 "_law_alike" "law_pd0017_01" 554 185),
  (190, ⟨.type "code", none, .fields #[.str (Str.ofString "_law_below") 607, .str (Str.ofString "_law_below") 608, .str (Str.ofString "/claim/cut.py") 609, .int 232 0, .int 4 0, .int 0 0, .int 0 0, .int 3 0, .ref 187, .bool true, .int 181 0, .ref 188, .none, .none, .none, .ref 189, .int 610 0, .int 232 0, .str (Str.ofString "/claim/cut.py") 611], #[]⟩),
  (191, fo 79 "_law_below" "law_pd0017_01" 554 190),
  (197, ⟨.type "code", none, .fields #[.str (Str.ofString "_law_beside") 613, .str (Str.ofString "_law_beside") 614, .str (Str.ofString "/claim/cut.py") 615, .int 239 0, .int 1 0, .int 0 0, .int 0 0, .int 3 0, .ref 192, .bool true, .int 181 0, .ref 193, .none, .ref 194, .ref 195, .ref 196, .int 617 0, .int 239 0, .str (Str.ofString "/claim/cut.py") 618], #[]⟩),
  (198, fo 80 "_law_beside" "law_pd0017_01" 554 197),
  (202, ⟨.type "code", none, .fields #[.str (Str.ofString "law") 620, .str (Str.ofString "law") 621, .str (Str.ofString "/claim/cut.py") 622, .int 244 0, .int 1 0, .int 0 0, .int 0 0, .int 3 0, .ref 199, .bool true, .int 181 0, .ref 200, .none, .none, .none, .ref 201, .int 623 0, .int 244 0, .str (Str.ofString "/claim/cut.py") 624], #[]⟩),
  (203, fo 81 "law" "law_pd0017_01" 554 202)]
noncomputable def ka : List Addr := [3, 93, 94, 107, 108, 114, 115, 121, 122, 126, 127, 128, 136, 137, 143, 144, 150, 151, 155, 156, 160, 161, 165, 166, 170, 171, 175, 176, 180, 181, 185, 186, 190, 191, 197, 198, 202, 203]
-- the statements that the view keeps
noncomputable def vF : Program := { pw with main := { pw.main with body := (pw.main.body.zipIdx.filter fun x => !([1, 3, 5, 8, 10, 12, 17, 70] : List Nat).contains x.2).map (·.1) } }
noncomputable def ls : List Str := [Str.ofString "EXACT_TOKEN_TYPES"]
theorem ka_ok (P : Params) : ka = (kF P).map (·.1) := rfl
noncomputable def hk : Hook := kHook kF ka ka_ok
noncomputable abbrev rr : OpenRow := PySem.Challenge.rw_pd0017_01.row
noncomputable def xt (s : Shared) : Bool := xlAt vF [] s && recOk (RowW.records rr.toRowW) s
noncomputable def mods : List Str := importedModules rr.prog.main.body
noncomputable abbrev fA (s : Shared) := (seen ((recsOf vF).map (·.name)) (ownsOf vF) [] { s with gens := #[] }, s.heap.bltView,
   s.heap.keysOk (looseW vF ls) ((recsOf vF).map (·.name)) ((litsOf vF).map (·.1)) ((clssOf vF (looseW vF ls)).map (·.name)) && s.heap.accountedOkI mods && s.heap.isNs mainGlobals && s.heap.isNs builtinsNs && tablesOk vF s.heap && xt s && (if true then s.gens.size == 0 else !leftWithCleanup s.gens))
noncomputable abbrev gA := (expectedOf vF, bltViewBooted, true)
noncomputable abbrev fB (s : Shared) := (tabsOk vF s, pinSeenD vF (drecsOf vF) s, plainSeenE vF (looseW vF ls) s, plainSeenD vF ls s, wideSeen vF s, clsSeenW vF ls s, hk.obs s)
noncomputable abbrev gB (w : World) := (true, pinGoodD (drecsOf vF), plainGoodE vF (looseW vF ls), plainGoodD vF ls, wideGood vF, clsGoodW vF ls, hk.val w)
noncomputable abbrev EA (w : World) : Prop := (openEnds treeTable rr.prog w 5398).map fA = some gA
noncomputable abbrev EB (w : World) : Prop := (openEnds treeTable rr.prog w 5398).map fB = some (gB w)
noncomputable abbrev rw1 : String := "special-get-raises"
theorem tup {A B C D E F G H I O : Type} {a a' : A} {b b' : B} {c c' : C} {d d' : D} {e e' : E} {f f' : F} {g g' : G} {h h' : H} {i i' : I} {o o' : O}
    (x : (a, b, c) = (a', b', c')) (y : (d, e, f, g, h, i, o) = (d', e', f', g', h', i', o')) : ((a, b, c, d, e, f, g, h, i), o) = ((a', b', c', d', e', f', g', h', i'), o') := by
  cases x; cases y; rfl
theorem ends_of {w : World} (a : EA w) (b : EB w) : (openEnds treeTable rr.prog w 5398).map (fun s => (openSeen vF ls mods xt true s, hk.obs s)) = some (openGood vF ls, hk.val w) := by
  obtain ⟨s, e, h⟩ := Option.map_eq_some_iff.mp a
  obtain ⟨s', e', h'⟩ := Option.map_eq_some_iff.mp b
  rw [e] at e'
  cases e'
  rw [e]
  exact congrArg some (tup h h')
open PySem.W.Fast in
theorem end_a (w : World) : EA (w.withFollow rw1 false) := by
  unfold EA openEnds topFrom fA gA
  rw [te14082659384304107361, te14364793385576792824, te5160383126252970620, te5991557255702980513, te10880121769531294198, te14722251495701143533, te10994771534591457954, te7409074990110511671, te13664370479719496447, te3399658132070893891, te821141287760084731]
  kernel_rfl
open PySem.W.Fast in
theorem end_b (w : World) : EB (w.withFollow rw1 false) := by
  unfold EB openEnds topFrom fB gB
  rw [te14082659384304107361, te14364793385576792824, te479339242167458305, te16090120013241838585, te2386780881361962483, te11698064438423848299, te7317090234206586261, te7369524293546568484, te3247288618530077131, te821141287760084731]
  kernel_rfl
open PySem.W.Fast in
theorem end_c (w : World) : EA (w.withFollow rw1 true) := by
  unfold EA openEnds topFrom fA gA
  rw [te14082659384304107361, te14364793385576792824, te5160383126252970620, te5991557255702980513, te10880121769531294198, te14722251495701143533, te10994771534591457954, te7409074990110511671, te13664370479719496447, te3399658132070893891, te821141287760084731]
  kernel_rfl
open PySem.W.Fast in
theorem end_d (w : World) : EB (w.withFollow rw1 true) := by
  unfold EB openEnds topFrom fB gB
  rw [te14082659384304107361, te14364793385576792824, te479339242167458305, te16090120013241838585, te2386780881361962483, te11698064438423848299, te7317090234206586261, te7369524293546568484, te3247288618530077131, te821141287760084731]
  kernel_rfl
theorem left_ok : LeftO rr.prog vF ls xt hk.obs hk.val 5398 := fun w =>
  byRow2 rw1 (P := fun w => (openEnds treeTable rr.prog w 5398).map (fun s => (openSeen vF ls mods xt true s, hk.obs s)) = some (openGood vF ls, hk.val w)) (fun w => ends_of (end_a w) (end_b w)) (fun w => ends_of (end_c w) (end_d w)) w
open PySem.W.Fast in
theorem said_ok : PySem.Challenge.rw_pd0017_01.wellSaid = true := by
  rw [te9446332074065402090]
  kernel_rfl
theorem looks_ok : (chainsOk vF && opensWell rr.prog && (frees rr.toRowW && rr.within.isEmpty)) = true := by kernel_rfl
theorem bare_ok : rr.prog.bare := ⟨rfl, rfl, rfl, rfl, rfl, by decide +kernel⟩
theorem wit_ok : rr.toRowW.promised := ⟨[WData.list []], by decide +kernel, by decide +kernel⟩
theorem def_ok : rr.prog.theDef rr.name = (defOf vF rr.name).map fun x => (x.1.params, x.1.body, x.1.scope) := by kernel_rfl
theorem kwd_ok : ((defOf vF rr.name).map fun x => kwWritten? x.1.params.kwonlyargs x.1.params.kw_defaults) = (defOf vF rr.name).map fun x => some x.2 := by kernel_rfl
-- the head: behind the top a call is left
theorem head_of {d : DefRec} {kwd : List (Str × PySem.Expr)} (hdef : defOf vF rr.name = some (d, kwd)) (walk : WalkO vF ls (XL vF []) hk.says rr.toRowW d kwd fun f vs => PySem.call f vs) : PySem.Challenge.rw_pd0017_01.Holds :=
  holds_law said_ok fun s => holds_open (r := rr) (q := vF) (loose := ls) (Xt := xt) (XP := XL vF []) (Yf := hk.obs) (Ya := hk.val) (YP := hk.says) (N := 5398) left_ok hk.of hk.keeps (fun _ e => xl_of _ (Bool.and_eq_true_iff.mp e).1) XL.keeps hdef
    (by rw [def_ok, hdef]; rfl) (by have h := kwd_ok; rw [hdef] at h; exact Option.some.inj h) (fun _ e => recFacts_of (Bool.and_eq_true_iff.mp e).2) rfl s looks_ok bare_ok wit_ok walk
end Mine
end

section
open PySem PySem.W PySem.Calls PyProof.Rows PySem.Spec
set_option maxRecDepth 100000
namespace Mine

theorem len1 {α : Type} : ∀ {l : List α}, l.length = 1 → ∃ a, l = [a]
  | [a], _ => ⟨a, rfl⟩
theorem len_tail {α : Type} {n : Nat} : ∀ {l : List α}, l.length = n + 1 → ∃ a r, l = a :: r ∧ r.length = n
  | a :: r, h => ⟨a, r, rfl, Nat.succ.inj h⟩
theorem len2 {α : Type} {l : List α} (h : l.length = 2) : ∃ a b, l = [a, b] := by
  obtain ⟨a, r, rfl, q⟩ := len_tail h; obtain ⟨b, rfl⟩ := len1 q; exact ⟨a, b, rfl⟩
theorem len3 {α : Type} {l : List α} (h : l.length = 3) : ∃ a b c, l = [a, b, c] := by
  obtain ⟨a, r, rfl, q⟩ := len_tail h; obtain ⟨b, c, rfl⟩ := len2 q; exact ⟨a, b, c, rfl⟩
theorem len4 {α : Type} {l : List α} (h : l.length = 4) : ∃ a b c d, l = [a, b, c, d] := by
  obtain ⟨a, r, rfl, q⟩ := len_tail h; obtain ⟨b, c, d, rfl⟩ := len3 q; exact ⟨a, b, c, d, rfl⟩
structure Is (c : Cx) : Prop where
  hK : c.K = kF c.w.params
  mgS : ∀ x v, nsIn (kF c.w.params) mainGlobals x = some (some v) → c.mg x = some v
  mgN : ∀ x, nsIn (kF c.w.params) mainGlobals x = some none → c.mg x = none

section
variable {c : Cx} {env : Env} {n : Nat} {σ : List (Str × PyData)}
theorem vG {x pos v} (i : Is c) (pl : Plain env) (hx : env.kindOf x = some .globalImplicit) (h : nsIn (kF c.w.params) mainGlobals x = some (some v)) (hd : (x == ("__debug__" : Str)) = false := by decide) : EvV c env n σ (.Name x pos) v := evV_global pl hx (i.mgS x v h) hd
theorem vB {x pos v} (i : Is c) (pl : Plain env) (hx : env.kindOf x = some .globalImplicit) (h : nsIn (kF c.w.params) mainGlobals x = some none) (hv : bootBuiltins x = some v) (hn : x ≠ "__name__" := by decide) (hd : (x == ("__debug__" : Str)) = false := by decide) : EvV c env n σ (.Name x pos) v := evV_builtin pl hx (i.mgN x h) hv hn hd
theorem defOk_K {f o name params body scope pm cd doc} (i : Is c) (ho : (kF c.w.params).lookup f = some o) (hdt : o.data = .func (docDef name params body scope pm cd doc)) (hcd : codeIn (kF c.w.params) cd name = true) : DefOk c f name params body scope :=
  ⟨fun h g => ⟨o, pm, cd, doc, g.K _ _ (by rw [i.hK]; exact ho), hdt, codeRec_of (i.hK ▸ g.K) hcd⟩⟩
theorem calls_def {f name params body scope names ds r} (D : DefOk c f name params body scope) (hs : scopeSees scope names = true) (hlen : names.length = ds.length)
    (hb : ∀ pm cd doc vs, vs.length = ds.length → bindArgs (docDef name params body scope pm cd doc) ⟨vs, []⟩ = pure (names.zip vs))
    (h : ∀ L cd, Exs c (fenv name scope L f cd) n (names.zip ds) body (fun o => o = .ret r)) : CallsC c (.ref f) (n + 1) ds r :=
  calls_defG D hs hlen (fun pm cd doc A S s E vs sb rv => by rw [hb pm cd doc vs rv.length]; exact wpAny_pure ⟨Keeps.refl', vs, rfl, rv⟩) h
end

-- the names of the module
section
variable {P : Params}
theorem g_told : nsIn (kF P) mainGlobals (Str.ofString "_law_told") = some (some (.ref 181)) := by rfl
theorem g_max : nsIn (kF P) mainGlobals (Str.ofString "max") = some none := by rfl
end

-- an entry of the table
structure Ent where
  nm : List Nat
  sl : Nat
  pa : Nat
  deriving Inhabited
noncomputable def Ent.d (e : Ent) : PyData := .tuple [.str (st e.nm), .int e.sl, .int e.pa]
noncomputable def tblD (t : List Ent) : PyData := .list (t.map Ent.d)
noncomputable def en (t : List Ent) (i : Nat) : Ent := t.getD i default
noncomputable def intsD (l : List Nat) : PyData := .list (l.map fun (i : Nat) => .int (i : Int))

-- the text that a chain spells
noncomputable def told (root : List Nat) (t : List Ent) (ch : List Nat) : List Nat :=
  root ++ (ch.dropLast.map fun i => (en t i).nm ++ List.replicate (max 1 (en t i).sl) 47).flatten ++ ((ch.drop (ch.length - 1)).map fun i => (en t i).nm).flatten

theorem en_get {t : List Ent} {i : Nat} (h : i < t.length) : (t.map Ent.d)[((i : Nat) : Int).toNat]? = some (en t i).d := by simp [en, h]
section
variable {c : Cx} {env : Env} {n : Nat} {σ : List (Str × PyData)}
theorem ev_cast {e d d'} (h : Ev c env n σ e d) (q : d = d') : Ev c env n σ e d' := q ▸ h
theorem evI_cast {e d d'} (h : EvI c env n σ e d) (q : d = d') : EvI c env n σ e d' := q ▸ h
-- table[e]
theorem ev_ent {e e' pos t} {i : Nat} (h₁ : Ev c env n σ e (tblD t)) (h₂ : Ev c env n σ e' (.int i)) (hi : i < t.length) (hz : t.length ≤ 63) (hs : ∀ o i, subscripted e' false o i = operate [o, i] (getItem o i) := by intro _ _; rfl) :
    Ev c env n σ (.Subscript e e' pos) (en t i).d := ev_item_list h₁ h₂ (by omega) (en_get hi) (by omega) hs
theorem ev_nm {e k p pos} {u : Ent} (h : Ev c env n σ e u.d) : Ev c env n σ (.Subscript e (.Constant (.int 0) k p) pos) (.str (st u.nm)) := ev_item_tuple h ev_int (by decide) rfl (by decide)
theorem ev_sl {e k p pos} {u : Ent} (h : Ev c env n σ e u.d) : Ev c env n σ (.Subscript e (.Constant (.int 1) k p) pos) (.int u.sl) := ev_item_tuple h ev_int (by decide) rfl (by decide)
theorem ev_pa {e k p pos} {u : Ent} (h : Ev c env n σ e u.d) : Ev c env n σ (.Subscript e (.Constant (.int 2) k p) pos) (.int u.pa) := ev_item_tuple h ev_int (by decide) rfl (by decide)
end

section
variable {c : Cx} {env : Env} {n : Nat} {σ : List (Str × PyData)}
theorem ev_maxN {x p e e' pos} {i j : Nat} (hf : EvV c env n σ (.Name x p) (.builtin "max")) (he : Ev c env n σ e (.int (i : Int))) (he' : Ev c env n σ e' (.int (j : Int))) (hs : starEach [e, e'] env = (false, eval e env) :: starEach [e'] env := by rfl) (hs' : starEach [e'] env = (false, eval e' env) :: starEach [] env := by rfl) :
    Ev c env n σ (.Call (.Name x p) [e, e'] [] pos) (.int ((max i j : Nat) : Int)) := ev_cast (ev_max2 hf he he' hs hs') (by congr 1; split <;> omega)
theorem ev_slashes {e k p pos} {i : Nat} (he : Ev c env n σ e (.int (i : Int))) (hi : i ≤ 1048576) : Ev c env n σ (.BinOp (.Constant (.str (Str.ofString "/")) k p) .Mult e pos) (.str (st (List.replicate i 47))) :=
  ev_cast (ev_mul_str ev_str he (mulOk_st i hi)) (congrArg PyData.str (mul_st i))
theorem ev_addS {e e' pos a b} (h₁ : Ev c env n σ e (.str (st a))) (h₂ : Ev c env n σ e' (.str (st b))) (hz : a.length + b.length ≤ 1048576) : Ev c env n σ (.BinOp e .Add e' pos) (.str (st (a ++ b))) :=
  ev_cast (ev_add_str h₁ h₂ (by rw [st_len, st_len, size_line]; omega)) (by rw [st_app])
theorem ev_joinS {o apos e pos} {xs : List (List Nat)} {sep : List Nat} (ho : Ev c env n σ o (.str (st sep))) (he : Ev c env n σ e (.list (xs.map fun x => .str (st x)))) (hz : (xs.map List.length).sum + xs.length * sep.length ≤ 1048576)
    (hc : eval (.Call (.Attribute o (Str.ofString "join") apos) [e] [] pos) env = (do
      let ov ← eval o env
      standAt apos.atName
      let (f, first) ← holding [ov] (getMethod ov (Str.ofString "join") (do return (← importBound o env).getD true))
      callWith pos f first (backTo pos (starEach [e] env)) []) := by rfl)
    (hs : starEach [e] env = (false, eval e env) :: starEach [] env := by rfl) : Ev c env n σ (.Call (.Attribute o (Str.ofString "join") apos) [e] [] pos) (.str (Txt.join (st sep) (xs.map st))) :=
  ev_join ho (ev_cast he (by simp)) (joinOk_st (by omega)) hc hs
end

theorem sum_le {k : Nat} : ∀ {xs : List (List Nat)}, (∀ x ∈ xs, x.length ≤ k) → (xs.map List.length).sum ≤ xs.length * k
  | [], _ => by simp
  | x :: xs, h => by
    have h1 := h x List.mem_cons_self
    have h2 := sum_le fun y hy => h y (List.mem_cons_of_mem _ hy)
    simp only [List.map_cons, List.sum_cons, List.length_cons, Nat.add_mul]; omega
-- a table as the draws make it
structure TOk (t : List Ent) : Prop where
  nm : ∀ e ∈ t, e.nm.length ≤ 3 ∧ ∀ x ∈ e.nm, x < 128
  sl : ∀ e ∈ t, e.sl < 3
  len : t.length ≤ 10
theorem TOk.nm' {t : List Ent} (h : TOk t) (i : Nat) : (en t i).nm.length ≤ 3 := by
  unfold en
  rcases Nat.lt_or_ge i t.length with q | q
  · rw [List.getD_eq_getElem?_getD, List.getElem?_eq_getElem q]; exact (h.nm _ (List.getElem_mem q)).1
  · rw [List.getD_eq_getElem?_getD, List.getElem?_eq_none q]; simp [default]; decide
theorem TOk.sl' {t : List Ent} (h : TOk t) (i : Nat) : (en t i).sl < 3 := by
  unfold en
  rcases Nat.lt_or_ge i t.length with q | q
  · rw [List.getD_eq_getElem?_getD, List.getElem?_eq_getElem q]; exact h.sl _ (List.getElem_mem q)
  · rw [List.getD_eq_getElem?_getD, List.getElem?_eq_none q]; simp [default]; decide

set_option maxHeartbeats 4000000 in
theorem told_calls {c : Cx} (i : Is c) {n : Nat} {root : List Nat} {t : List Ent} {ch : List Nat} (hch : ∀ i ∈ ch, i < t.length) (hT : TOk t) (hl : ch.length ≤ 10) (hr : root.length ≤ 2) : CallsC c (.ref 181) (n + 1) [.str (st root), tblD t, intsD ch] (.str (st (told root t ch))) := by
  have D := defOk_K (f := 181) i rfl rfl rfl
  refine calls_def (names := [Str.ofString "root", Str.ofString "table", Str.ofString "chain"]) D (by decide) rfl (fun pm cd doc vs h => ?_) fun L cd => ?_
  · obtain ⟨a, b, c, rfl⟩ := len3 h; rfl
  clear D
  have hlen := hT.len
  have hzl : sizeLine = 16777216 := rfl
  refine exs_cons (ex_assign_map (ds := ch.dropLast) (dt := fun (i : Nat) => .int (i : Int)) (f := fun i => .str (st ((en t i).nm ++ List.replicate (max 1 (en t i).sl) 47)))
    (comp_name _ [(Str.ofString "table", tblD t)] (evI_cast (evI_list (ev_slice_butLast (ev_name rfl) (ev_neg ev_int) (by simp; omega))) (by simp [List.map_dropLast])) (by decide) rfl (cap_cons rfl rfl rfl (fun _ => rfl) cap_nil) (.inl rfl) rfl
      (by simp; omega) (fun C d _ => evTs_nil) fun C d hd _ => ?_) (.inl rfl) ?_)
  · have hd' := hch d (List.dropLast_subset _ hd)
    have h1 := hT.nm' d
    have h2 := hT.sl' d
    exact ev_addS (ev_nm (ev_ent (ev_name rfl) (ev_name rfl) hd' (by omega))) (ev_slashes (ev_maxN (i := 1) (vB i ⟨rfl, rfl, rfl⟩ rfl g_max Boot.«max») ev_int (ev_sl (ev_ent (ev_name rfl) (ev_name rfl) hd' (by omega)))) (by omega)) (by simp; omega)
  show Exs _ _ _ _ _ _
  refine exs_cons (ex_return (d := .str (st (told root t ch))) (ev_cast (ev_addS (ev_name rfl) (ev_cast (ev_joinS (sep := []) (xs := (ch.dropLast.map fun i => (en t i).nm ++ List.replicate (max 1 (en t i).sl) 47) ++ ((ch.drop (ch.length - 1)).map fun i => (en t i).nm)) ev_str
    (ev_cast (ev_add_list (ev_name rfl) (ev_map (ds := ch.drop (ch.length - 1)) (dt := fun (i : Nat) => PyData.int (i : Int)) (f := fun i => .str (st (en t i).nm))
      (comp_name _ [(Str.ofString "table", tblD t)] (evI_cast (evI_list (ev_slice_last (ev_name rfl) (ev_neg ev_int) ?_)) ?_) (by decide) rfl (cap_cons rfl rfl rfl (fun _ => rfl) cap_nil) (.inl rfl) rfl
        ?_ (fun C d _ => evTs_nil) fun C d hd _ => ev_nm (ev_ent (ev_name rfl) (ev_name rfl) (hch d (List.mem_of_mem_drop hd)) ?_))) ?_) ?_) ?_) (congrArg PyData.str (join_nil_st _))) ?_) ?_) rfl)
  · simp; omega
  · simp [List.map_drop]
  · simp; omega
  · omega
  · simp; omega
  · rw [List.map_append, List.map_map, List.map_map]; rfl
  · have hs := sum_le (k := 5) (xs := (ch.dropLast.map fun i => (en t i).nm ++ List.replicate (max 1 (en t i).sl) 47) ++ ((ch.drop (ch.length - 1)).map fun i => (en t i).nm)) (fun x hx => by
      rcases List.mem_append.mp hx with hx | hx
      · obtain ⟨j, _, rfl⟩ := List.mem_map.mp hx
        have h1 := hT.nm' j
        have h2 := hT.sl' j
        simp; omega
      · obtain ⟨j, _, rfl⟩ := List.mem_map.mp hx
        have h1 := hT.nm' j
        omega)
    simp only [List.length_append, List.length_map, List.length_dropLast, List.length_drop, List.length_nil, Nat.mul_zero] at hs ⊢
    omega
  · have hs := sum_le (k := 5) (xs := (ch.dropLast.map fun i => (en t i).nm ++ List.replicate (max 1 (en t i).sl) 47) ++ ((ch.drop (ch.length - 1)).map fun i => (en t i).nm)) (fun x hx => by
      rcases List.mem_append.mp hx with hx | hx
      · obtain ⟨j, _, rfl⟩ := List.mem_map.mp hx
        have h1 := hT.nm' j
        have h2 := hT.sl' j
        simp; omega
      · obtain ⟨j, _, rfl⟩ := List.mem_map.mp hx
        have h1 := hT.nm' j
        omega)
    rw [List.length_flatten]
    simp only [List.length_append, List.length_map, List.length_dropLast, List.length_drop, List.length_nil, Nat.mul_zero] at hs ⊢
    omega
  · simp [told]
end Mine
end

section
open PySem PySem.W PySem.Calls PyProof.Rows PySem.Spec
set_option maxRecDepth 100000
namespace Mine
section
variable {prog : Program} {w : World} {A : Around} {E : Value → Shared → Prop} {s : Shared}
theorem sub_str_self {k : Value} {dep : Int} {tk : Tok} {Q : PySem.Fin → Shared → Prop} (hk : k = .int dep tk) (hq : Q (.done (.ret (.bool true))) s) :
    wpAny (model prog w) A (Builtin.«issubclass.nested» ⟨[.type "str", .type "str", k], []⟩) Q E s := by
  subst hk
  have hm := F.isi_meta_str
  have hself := F.sub_str_str
  repeat (any_goals (first | assumption | (rw [if_pos hm]) | (rw [hself]) | (rw [hm]) | wp_step))
theorem kind_sub_nested : builtinKind "issubclass.nested" = none := by decide +kernel
theorem plain_sub_nested : plainId "issubclass.nested" = true := by decide +kernel
theorem args_sub_nested (a b c : Value) : argsOk "issubclass.nested" ⟨[a, b, c], []⟩ := by unfold argsOk; kernel_rfl
theorem sub_str_tuple {tp : Addr} {Q : PySem.Fin → Shared → Prop} (ht : IsTup s.heap tp [Value.type "str", Value.type "bytes"].toArray) (hq : Q (.done (.ret (.bool true))) s) :
    wpAny (model prog w) A (Builtin.«issubclass.nested» ⟨[.type "str", .ref tp, rawInt 0], []⟩) Q E s := by
  obtain ⟨h, g, d, tk, os⟩ := s
  obtain ⟨o, ho, hc, m, hd⟩ := id ht
  have hT2 : (⟨h, g, d, tk, os⟩ : Shared).TypeIs (.ref tp) "tuple" := ⟨_, ho, hc⟩
  have f1 := F.isi_sub_tuple
  repeat (any_goals (first | assumption | wp_step))
  rw [hd]
  refine wpAny_pure ?_
  refine wpAny_bind ?_
  rw [← Array.forIn_toList]
  show wpAny _ _ (forIn (Value.type "str" :: [Value.type "bytes"]) _ _) _ _ _
  rw [List.forIn_cons]
  refine wpAny_bind (wpAny_bind (call_function_meets kind_sub_nested plain_sub_nested F.entry_issubclass_nested (args_sub_nested _ _ _) (S := fun _ R s => R (.ok (.ret (.bool true))) s) (fun _ _ _ _ _ hs => sub_str_self rfl hs) ?_))
  refine wpAny_bind (m := truthy (.bool true)) (wpAny_pure ?_)
  exact wpAny_bind (wpAny_pure (wpAny_pure (wpAny_pure (wpAny_pure hq))))
theorem call_sub_str {tp : Addr} {Q : Value → Shared → Prop} (ht : IsTup s.heap tp [Value.type "str", Value.type "bytes"].toArray) (hq : Q (.bool true) s) :
    wpAny (model prog w) A (call (.builtin "issubclass") [.type "str", .ref tp]) Q E s :=
  call_issubclass (S := fun _ R s => IsTup s.heap tp [Value.type "str", Value.type "bytes"].toArray ∧ R (.ok (.ret (.bool true))) s) (fun _ _ _ _ _ hs => issubclass_outer (sub_str_tuple hs.1 hs.2)) ⟨ht, hq⟩
end

section
variable {P : Params}
theorem g_nt : ∃ t, nsIn (kF P) mainGlobals (Str.ofString "NT_OFFSET") = some (some (.int 256 t)) := ⟨_, rfl⟩
theorem g_type : nsIn (kF P) mainGlobals (Str.ofString "type") = some none := by rfl
theorem g_sub : nsIn (kF P) mainGlobals (Str.ofString "issubclass") = some none := by rfl
theorem g_isi : nsIn (kF P) mainGlobals (Str.ofString "isinstance") = some none := by rfl
theorem g_strT : nsIn (kF P) mainGlobals (Str.ofString "str") = some none := by rfl
theorem g_bytesT : nsIn (kF P) mainGlobals (Str.ofString "bytes") = some none := by rfl
end

section
variable {c : Cx} {env : Env} {n : Nat} {σ : List (Str × PyData)}
theorem ev_gint {x pos} {k : Int} (i : Is c) (pl : Plain env) (hx : env.kindOf x = some .globalImplicit) (h : ∃ t, nsIn (kF c.w.params) mainGlobals x = some (some (.int k t))) (hd : (x == ("__debug__" : Str)) = false := by decide) : Ev c env n σ (.Name x pos) (.int k) :=
  let ⟨_, h⟩ := h; ev_global pl hx ⟨_, i.mgS x _ h, fun _ _ => .int _ _⟩ hd
-- a class's name as a datum
theorem ev_strT {pos} (i : Is c) (pl : Plain env) (hx : env.kindOf (Str.ofString "str") = some .globalImplicit) : Ev c env n σ (.Name (Str.ofString "str") pos) tstrD := fun A S s E a =>
  wpAny_mono ((vB i pl hx g_strT Boot.«str» : EvV c env n σ (.Name (Str.ofString "str") pos) (.type "str")) A S s E a) (fun v s' p => by obtain ⟨rfl, rfl⟩ := p; exact ⟨Keeps.refl', .tstr⟩) fun _ _ x => x
theorem ev_bytT {pos} (i : Is c) (pl : Plain env) (hx : env.kindOf (Str.ofString "bytes") = some .globalImplicit) : Ev c env n σ (.Name (Str.ofString "bytes") pos) tbytD := fun A S s E a =>
  wpAny_mono ((vB i pl hx g_bytesT Boot.«bytes» : EvV c env n σ (.Name (Str.ofString "bytes") pos) (.type "bytes")) A S s E a) (fun v s' p => by obtain ⟨rfl, rfl⟩ := p; exact ⟨Keeps.refl', .tbyt⟩) fun _ _ x => x
theorem RdEs.key {P S h} : ∀ {es kvs}, RdEs P S h es kvs → ∀ p ∈ kvs, ∃ x, p.1 = .str x
  | _, _, .nil, _, hp => nomatch hp
  | _, _, .cons _ r, p, hp => by
    rcases List.mem_cons.mp hp with rfl | hp
    · exact ⟨_, rfl⟩
    · exact RdEs.key r p hp
theorem Rd.tstr_inv {P S h v} (r : Rd P S h v tstrD) : v = .type "str" := by
  unfold tstrD at r
  cases r with
  | tstr => rfl
  | dict _ _ q => obtain ⟨x, e⟩ := q.key _ List.mem_cons_self; cases e
theorem Rd.tbyt_inv {P S h v} (r : Rd P S h v tbytD) : v = .type "bytes" := by
  unfold tbytD at r
  cases r with
  | tbyt => rfl
  | dict _ _ q => obtain ⟨x, e⟩ := q.key _ List.mem_cons_self; cases e
theorem ev_type {p e pos y} (i : Is c) (pl : Plain env) (hx : env.kindOf (Str.ofString "type") = some .globalImplicit) (he : Ev c env n σ e (.str y)) (hs : starEach [e] env = (false, eval e env) :: starEach [] env := by rfl) :
    Ev c env n σ (.Call (.Name (Str.ofString "type") p) [e] [] pos) tstrD :=
  ev_call_type (vB i pl hx g_type Boot.«type») (evL_cons he evL_nil hs) (fun A S s E vs a r => by
    obtain ⟨v, rfl, r₁⟩ := r.one
    obtain ⟨t, rfl⟩ := r₁.str_inv
    exact call_type_of (typeIs_str _ _ _) (by decide) ⟨Keeps.refl', .tstr⟩) hs
theorem ev_sub_str {p e e' pos} (i : Is c) (pl : Plain env) (hx : env.kindOf (Str.ofString "issubclass") = some .globalImplicit) (he : Ev c env n σ e tstrD) (he' : Ev c env n σ e' (.tuple [tstrD, tbytD]))
    (hs : starEach [e, e'] env = (false, eval e env) :: starEach [e'] env := by rfl) (hs' : starEach [e'] env = (false, eval e' env) :: starEach [] env := by rfl) :
    Ev c env n σ (.Call (.Name (Str.ofString "issubclass") p) [e, e'] [] pos) (.bool true) :=
  ev_call_builtin (vB i pl hx g_sub Boot.«issubclass») (evL_cons he (evL_cons he' evL_nil hs') hs) (fun A S s E vs a r => by
    obtain ⟨v, v', rfl, r₁, r₂⟩ := r.two
    obtain rfl := r₁.tstr_inv
    obtain ⟨tp, us, rfl, ht, q, _⟩ := r₂.tuple_inv
    obtain ⟨u, u', rfl, q₁, q₂⟩ := q.two
    obtain rfl := q₁.tstr_inv
    obtain rfl := q₂.tbyt_inv
    exact call_sub_str ht ⟨Keeps.refl', .bool _⟩) hs (by rw [hs']; rfl)
theorem ev_isi_bytes {p e e' pos y} (i : Is c) (pl : Plain env) (hx : env.kindOf (Str.ofString "isinstance") = some .globalImplicit) (he : Ev c env n σ e (.str y)) (he' : Ev c env n σ e' tbytD)
    (hs : starEach [e, e'] env = (false, eval e env) :: starEach [e'] env := by rfl) (hs' : starEach [e'] env = (false, eval e' env) :: starEach [] env := by rfl) :
    Ev c env n σ (.Call (.Name (Str.ofString "isinstance") p) [e, e'] [] pos) (.bool false) :=
  ev_call_builtin (vB i pl hx g_isi Boot.«isinstance») (evL_cons he (evL_cons he' evL_nil hs') hs) (fun A S s E vs a r => by
    obtain ⟨v, v', rfl, r₁, r₂⟩ := r.two
    obtain ⟨t, rfl⟩ := r₁.str_inv
    obtain rfl := r₂.tbyt_inv
    exact PySem.IsiPair.str_bytes ⟨Keeps.tok _, .bool _⟩) hs (by rw [hs']; rfl)
end

theorem term_calls {c : Cx} (i : Is c) {n : Nat} {k : Int} : CallsC c (.ref 137) (n + 1) [.int k] (.bool (decide (k < 256))) := by
  have D := defOk_K (f := 137) i rfl rfl rfl
  refine calls_def (names := [Str.ofString "x"]) D (by decide) rfl (fun pm cd doc vs h => ?_) fun L cd => ?_
  · obtain ⟨a, rfl⟩ := len1 h; rfl
  clear D
  exact exs_cons (ex_return (ev_cmpIs (ev_name rfl) (ev_gint i ⟨rfl, rfl, rfl⟩ rfl g_nt) cmp_lt) rfl)
theorem nonterm_calls {c : Cx} (i : Is c) {n : Nat} {k : Int} : CallsC c (.ref 144) (n + 1) [.int k] (.bool (decide (256 ≤ k))) := by
  have D := defOk_K (f := 144) i rfl rfl rfl
  refine calls_def (names := [Str.ofString "x"]) D (by decide) rfl (fun pm cd doc vs h => ?_) fun L cd => ?_
  · obtain ⟨a, rfl⟩ := len1 h; rfl
  clear D
  exact exs_cons (ex_return (ev_cmpIs (ev_name rfl) (ev_gint i ⟨rfl, rfl, rfl⟩ rfl g_nt) cmp_ge) rfl)
theorem fspath_calls {c : Cx} (i : Is c) {n : Nat} {x : Str} : CallsC c (.ref 94) (n + 1) [.str x] (.str x) := by
  have D := defOk_K (f := 94) i rfl rfl rfl
  refine calls_def (names := [Str.ofString "path"]) D (by decide) rfl (fun pm cd doc vs h => ?_) fun L cd => ?_
  · obtain ⟨a, rfl⟩ := len1 h; rfl
  clear D
  refine exs_cons (ex_assign (ev_type i ⟨rfl, rfl, rfl⟩ rfl (ev_name rfl)) (.inl rfl) ?_)
  refine exs_cons (ex_if (evT_bool (ev_sub_str i ⟨rfl, rfl, rfl⟩ rfl (ev_name rfl) (ev_tuple (evL_cons (ev_strT i ⟨rfl, rfl, rfl⟩ rfl) (evL_cons (ev_bytT i ⟨rfl, rfl, rfl⟩ rfl) evL_nil))))) (fun _ => ?_) (fun h => nomatch h))
  exact exs_cons (ex_return (ev_name rfl) rfl)
theorem getsep_calls {c : Cx} (i : Is c) {n : Nat} {x : Str} : CallsC c (.ref 108) (n + 1) [.str x] (.str (st [47])) := by
  have D := defOk_K (f := 108) i rfl rfl rfl
  refine calls_def (names := [Str.ofString "path"]) D (by decide) rfl (fun pm cd doc vs h => ?_) fun L cd => ?_
  · obtain ⟨a, rfl⟩ := len1 h; rfl
  clear D
  refine exs_cons (ex_if (evT_bool (ev_isi_bytes i ⟨rfl, rfl, rfl⟩ rfl (ev_name rfl) (ev_bytT i ⟨rfl, rfl, rfl⟩ rfl))) (fun h => nomatch h) (fun _ => ?_))
  exact exs_cons (ex_return ev_str rfl)
end Mine
end

section
open PySem PySem.W PySem.Calls PyProof.Rows PySem.Spec
set_option maxRecDepth 100000
namespace Mine
section
variable {c : Cx} {env : Env} {n : Nat} {σ : List (Str × PyData)} {Φ : Out → Prop}
theorem evT_cast {e b b'} (h : EvT c env n σ e b) (q : b = b') : EvT c env n σ e b' := q ▸ h
theorem truth_st (a : List Nat) : truthD (.str (st a)) = !a.isEmpty := by simp only [truthD, st_len]; cases a <;> rfl
-- a try whose suite does not raise
theorem ex_try {body hs pos} (h : Exs c env n σ body Φ) : Ex1 c env n σ (.Try body hs [] [] pos) Φ := fun A S s E a => by
  show wpAny _ _ (do standAt pos; tryStmt false (execs body env) hs (execs [] env) [] env) _ _ s
  refine wpAny_bind (wpAny_standAt ?_)
  unfold tryStmt
  dsimp only
  refine wpAny_bind (m := (execs body env).attempt) (wpAny_attempt (wpAny_mono (h A S s (fun e s' => wpAny c.M A (do
      noteFrame e env
      if hs.isEmpty then throw e
      setFlight e none
      if false && hs.any (fun | .ExceptHandler none .. => true | _ => false) then unsupported "internal:except-star-without-type"
      if false then runOwn (.starHandlers e e (← newList []) hs env) env (some e) else handleBy e env hs) (OutOk c env n A S s Φ) E s') a) (fun f s₁ q => ?_) fun e s₁ q => ?_))
  · cases f with
    | next => exact wpAny_execs_nil q
    | brk => exact wpAny_pure q
    | cont => exact wpAny_pure q
    | ret v => exact wpAny_pure q
  · exact q
end

section
variable {P : Params}
theorem g_fspath : nsIn (kF P) mainGlobals (Str.ofString "fspath") = some (some (.ref 94)) := by rfl
theorem g_getsep : nsIn (kF P) mainGlobals (Str.ofString "_get_sep") = some (some (.ref 108)) := by rfl
theorem g_join : nsIn (kF P) mainGlobals (Str.ofString "join") = some (some (.ref 115)) := by rfl
theorem g_split : nsIn (kF P) mainGlobals (Str.ofString "split") = some (some (.ref 122)) := by rfl
theorem g_len : nsIn (kF P) mainGlobals (Str.ofString "len") = some none := by rfl
end
section
variable {c : Cx} {env : Env} {n : Nat} {σ : List (Str × PyData)}
theorem isDef_K {f o fd} (i : Is c) (ho : (kF c.w.params).lookup f = some o) (hdt : o.data = .func fd) : IsDef c f := fun h g => ⟨o, fd, g.K _ _ (by rw [i.hK]; exact ho), hdt⟩
theorem ev_fspath {p e pos x} (i : Is c) (pl : Plain env) (hx : env.kindOf (Str.ofString "fspath") = some .globalImplicit) (he : Ev c env n σ e (.str x)) (hn : 1 ≤ n) (hs : starEach [e] env = (false, eval e env) :: starEach [] env := by rfl) :
    Ev c env n σ (.Call (.Name (Str.ofString "fspath") p) [e] [] pos) (.str x) := ev_call_def (vG i pl hx g_fspath) (isDef_K i rfl rfl) (evL_cons he evL_nil hs) (fspath_calls (n := 0) i).to hn hs
theorem ev_getsep {p e pos x} (i : Is c) (pl : Plain env) (hx : env.kindOf (Str.ofString "_get_sep") = some .globalImplicit) (he : Ev c env n σ e (.str x)) (hn : 1 ≤ n) (hs : starEach [e] env = (false, eval e env) :: starEach [] env := by rfl) :
    Ev c env n σ (.Call (.Name (Str.ofString "_get_sep") p) [e] [] pos) (.str (st [47])) := ev_call_def (vG i pl hx g_getsep) (isDef_K i rfl rfl) (evL_cons he evL_nil hs) (getsep_calls (n := 0) i).to hn hs
end

-- join of two texts
noncomputable def joinP (a b : List Nat) : List Nat := if b.head? == some 47 || a.isEmpty then b else if a.getLast? == some 47 then a ++ b else a ++ (47 :: b)

set_option maxHeartbeats 4000000 in
theorem join_calls {c : Cx} (i : Is c) {n : Nat} {a b : List Nat} (ha : a.length ≤ 1000) (hb : b.length ≤ 1000) : CallsC c (.ref 115) (n + 2) [.str (st a), .str (st b)] (.str (st (joinP a b))) := by
  have D := defOk_K (f := 115) i rfl rfl rfl
  refine calls_defG (names := [Str.ofString "a", Str.ofString "p"]) (ds' := [.str (st a), .tuple [.str (st b)]]) D (by decide) rfl (fun pm cd doc A S s E vs sb rv => ?_) fun L cd => ?_
  · obtain ⟨v, v', rfl, r₁, r₂⟩ := rv.two
    show wpAny _ _ (newTuple [v'] >>= fun t => pure [(Str.ofString "a", v), (Str.ofString "p", t)]) _ _ _
    refine wpAny_bind (wpAny_mono (new_tuple sb (.cons r₂ .nil) (by simp [size_line])) (fun t s₁ q => ?_) fun _ _ x => x)
    exact wpAny_pure ⟨q.1, [v, t], rfl, .cons (r₁.keep (Keeps.h q.1)) (.cons q.2 .nil)⟩
  clear D
  have hzl : sizeLine = 16777216 := rfl
  refine exs_cons (ex_assign (ev_fspath i ⟨rfl, rfl, rfl⟩ rfl (ev_name rfl) (by omega)) (.inl rfl) ?_)
  refine exs_cons (ex_assign (ev_getsep i ⟨rfl, rfl, rfl⟩ rfl (ev_name rfl) (by omega)) (.inl rfl) ?_)
  refine exs_cons (ex_assign (ev_name rfl) (.inl rfl) ?_)
  refine exs_cons (ex_try (exs_cons (ex_for (fun k σ' => if k = 0 then σ' = _ else σ'.lookup (Str.ofString "path") = some (.str (st (joinP a b)))) (evI_tuple (ev_name rfl)) (.inl rfl) rfl (fun k d σ' hk hJ => ?_) fun σ' hJ => ?_)))
  · have hk0 : k = 0 := by
      rcases Nat.lt_or_ge k 1 with h | h
      · omega
      · rw [List.getElem?_eq_none (by simpa using h)] at hk; cases hk
    subst hk0
    simp only [if_true] at hJ
    subst hJ
    cases hk
    refine exs_cons (ex_assign (ev_fspath i ⟨rfl, rfl, rfl⟩ rfl (ev_name rfl) (by omega)) (.inl rfl) ?_)
    refine exs_cons (ex_if (b := (b.head? == some 47 || a.isEmpty)) ?_ (fun h => ?_) (fun h => ?_))
    · refine evT_or2 (b₁ := (b.head? == some 47)) ?_ (fun h => ?_) (fun h => by rw [h]; rfl)
      · exact startswith_st b ▸ evT_bool (ev_startswith (ev_name rfl) (ev_name rfl))
      · rw [h, Bool.false_or]
        exact evT_cast (evT_not (evT_plain (ev_name rfl) (by simp only [smallD, st_len]; omega))) (by rw [truth_st, Bool.not_not])
    · refine exs_cons (ex_assign (ev_name rfl) (.inl rfl) (exs_nil (exs_nil ?_)))
      show List.lookup (Str.ofString "path") _ = some (PyData.str (st (joinP a b)))
      rw [joinP, if_pos h]; rfl
    · refine exs_cons (ex_if (b := (a.getLast? == some 47)) (endswith_st a ▸ evT_bool (ev_endswith (ev_name rfl) (ev_name rfl))) (fun h' => ?_) (fun h' => ?_))
      · refine exs_cons (ex_aug_str rfl (ev_name rfl) (.inl rfl) (by rw [st_len, st_len]; omega) (exs_nil (exs_nil (exs_nil ?_))))
        show List.lookup (Str.ofString "path") _ = some (PyData.str (st (joinP a b)))
        rw [joinP, if_neg (by rw [h]; decide), if_pos h', ← st_app]; rfl
      · refine exs_cons (ex_aug_str rfl (ev_addS (ev_name rfl) (ev_name rfl) (by simp; omega)) (.inl rfl) (by rw [st_len, st_len]; simp; omega) (exs_nil (exs_nil (exs_nil ?_))))
        show List.lookup (Str.ofString "path") _ = some (PyData.str (st (joinP a b)))
        rw [joinP, if_neg (by rw [h]; decide), if_neg (by rw [h']; decide), st_app]; rfl
  · have hJ' : σ'.lookup (Str.ofString "path") = some (.str (st (joinP a b))) := hJ
    exact exs_nil (exs_cons (ex_return (ev_name hJ') rfl))
end Mine
end

section
open PySem PySem.W PySem.Calls PyProof.Rows PySem.Spec
set_option maxRecDepth 100000
namespace Mine
section
variable {c : Cx} {env : Env} {n : Nat} {σ : List (Str × PyData)} {Φ : Out → Prop}
theorem ex_assign2 {x y px py k tp e pos d₁ d₂} (he : Ev c env n σ e (.tuple [d₁, d₂])) (hx : Own env x) (hy : Own env y) (h : Φ (.next ((x, d₁) :: (y, d₂) :: σ)))
    (hs : swapsWithSole [.Tuple [.Name x px, .Name y py] k tp] e pos.line env = pure false := by rfl) (hw : swappedStores [.Tuple [.Name x px, .Name y py] k tp] e env = pure (some [x, y]) := by rfl) :
    Ex1 c env n σ (.Assign [.Tuple [.Name x px, .Name y py] k tp] e pos) Φ := fun A S s E a => by
  refine Assign_Tuple_swapped (names := [x, y]) (wpAny_mono (he A S s E a.at) (fun v s₁ p => ?_) fun _ _ x => x) hs hw
  obtain ⟨t, vs, rfl, ht, q, _⟩ := p.2.tuple_inv
  obtain ⟨v₁, v₂, rfl, r₁, r₂⟩ := q.two
  refine wpAny_unpackItems_tuple (items := [v₁, v₂].toArray) a.room.1 ht fun h' he' => ?_
  have k₁ : Keeps s { s₁ with heap := h' } := Keeps.trans' p.1 ⟨h', s₁.toks, rfl, KeepB.ofExtSize (Y := fun _ => False) he'⟩
  have kk : KeepH s₁.heap h' := KeepB.ofExtSize (Y := fun _ => False) he'
  have a₁ := a.keep k₁
  show wpAny _ _ (holding [v₁] (bindName env y v₂) >>= fun _ => holding [] (bindName env x v₁) >>= fun _ => pure ()) _ _ _
  refine wpAny_bind (wpAny_holding (wpAny_bindName (store_at a₁ (r₂.keep kk) hy.can fun s₂ k₂ kf₂ a₂ => ?_)))
  exact wpAny_bind (wpAny_holding (wpAny_bindName (store_at a₂ ((r₁.keep kk).keepB (k₂.b.mono a₁.fm.xs)) hx.can fun s₃ k₃ kf₃ a₃ => wpAny_pure ⟨(KeepS.of k₁).trans (k₂.trans k₃), _, h, a₃⟩)))
theorem ev_uptoS {value hi sp pos l} {k : Nat} (h₁ : Ev c env n σ value (.str (st l))) (hh : Ev c env n σ hi (.int (k : Int))) (hz : l.length ≤ 1048576) : Ev c env n σ (.Subscript value (.Slice none (some hi) none sp) pos) (.str (st (l.take k))) :=
  ev_cast (ev_slice_str_upto h₁ hh (by rw [st_len, size_line]; omega)) (congrArg PyData.str (slice_upto_st l k))
theorem ev_fromS {value lo sp pos l} {k : Nat} (h₁ : Ev c env n σ value (.str (st l))) (hl : Ev c env n σ lo (.int (k : Int))) (hk : k ≤ l.length) (hz : l.length ≤ 1048576) : Ev c env n σ (.Subscript value (.Slice (some lo) none none sp) pos) (.str (st (l.drop k))) :=
  ev_cast (ev_slice_str_from h₁ hl (by rw [st_len, size_line]; omega)) (congrArg PyData.str (slice_from_st l k hk))
theorem eqv_str (a b : List Nat) : PyData.eqv (.str (st a)) (.str (st b)) = decide (a = b) := by
  simp only [PyData.eqv]
  by_cases h : a = b
  · subst h; simp
  · simp only [h, decide_false]
    exact beq_eq_false_iff_ne.mpr fun e => h (st_inj e)
theorem shaped_str {a : List Nat} (h : ∀ x ∈ a, x < 128) : SeqAt.shaped (.str (st a)) = true := by
  simp only [SeqAt.shaped, PyData.canLay0, PyData.strOk, PyData.depth, Bool.and_eq_true, decide_eq_true_eq]
  refine ⟨?_, rfl⟩
  simp only [st, Array.all_eq_true']
  intro x hx
  have := h x (by simpa using hx)
  simp; omega
theorem slash_ok : ∀ k : Nat, ∀ x ∈ List.replicate k 47, x < 128 := fun k x hx => by rw [List.eq_of_mem_replicate hx]; decide
theorem mul_str' {e e' pos} {i : Nat} (h : Ev c env n σ e (.str (st [47]))) (he : Ev c env n σ e' (.int (i : Int))) (hi : i ≤ 1048576) : Ev c env n σ (.BinOp e .Mult e' pos) (.str (st (List.replicate i 47))) :=
  ev_cast (ev_mul_str h he (mulOk_st i hi)) (congrArg PyData.str (mul_st i))
end

set_option maxHeartbeats 4000000 in
theorem split_calls {c : Cx} (i : Is c) {n : Nat} {l : List Nat} (hl : l.length ≤ 1000) (hx : ∀ x ∈ l, x < 128) : CallsC c (.ref 122) (n + 2) [.str (st l)] (.tuple [.str (st (headP l)), .str (st (tailP l))]) := by
  have D := defOk_K (f := 122) i rfl rfl rfl
  refine calls_def (names := [Str.ofString "p"]) D (by decide) rfl (fun pm cd doc vs h => ?_) fun L cd => ?_
  · obtain ⟨a, rfl⟩ := len1 h; rfl
  clear D
  have hzl : sizeLine = 16777216 := rfl
  have hc := (cutP_facts l).1
  refine exs_cons (ex_assign (ev_fspath i ⟨rfl, rfl, rfl⟩ rfl (ev_name rfl) (by omega)) (.inl rfl) ?_)
  refine exs_cons (ex_assign (ev_getsep i ⟨rfl, rfl, rfl⟩ rfl (ev_name rfl) (by omega)) (.inl rfl) ?_)
  refine exs_cons (ex_assign (ev_cast (ev_add_int (ev_rfind (ev_name rfl) (ev_name rfl)) ev_int) (congrArg PyData.int (rfind_st l))) (.inl rfl) ?_)
  refine exs_cons (ex_assign2 (ev_tuple (evL_cons (ev_uptoS (ev_name rfl) (ev_name rfl) (by omega)) (evL_cons (ev_fromS (ev_name rfl) (ev_name rfl) hc (by omega)) evL_nil)) (by simp [size_line])) (.inl rfl) (.inl rfl) ?_)
  have hh : (l.take (cutP l)).length ≤ 1000 := by simp; omega
  have hxt : ∀ x ∈ l.take (cutP l), x < 128 := fun x h => hx x (List.mem_of_mem_take h)
  generalize hH : l.take (cutP l) = H at hh hxt
  refine exs_cons (ex_if (b := !decide (H = List.replicate H.length 47)) ?_ (fun h => ?_) (fun h => ?_))
  · refine evT_and2 (b₁ := !H.isEmpty) (truth_st H ▸ evT_plain (ev_name rfl) (by simp only [smallD, st_len]; omega)) (fun _ => ?_) (fun h => ?_)
    · refine evT_cast (evT_cmpIs (ev_name rfl) (mul_str' (ev_name rfl) (ev_cast (ev_len_str (vB i ⟨rfl, rfl, rfl⟩ rfl g_len Boot.«len») (ev_name rfl) (by rw [st_len]; omega)) (by rw [st_len])) (by omega)) (cmp_ne (shaped_str hxt) (shaped_str (slash_ok _)))) ?_
      rw [eqv_str]
    · have : H = [] := by cases H <;> simp_all
      subst this; rfl
  · refine exs_cons (ex_assign (ev_cast (ev_rstrip (ev_name rfl) (ev_name rfl) (by rw [st_len]; omega)) (congrArg PyData.str (rstrip_st H))) (.inl rfl) (exs_nil ?_))
    refine exs_cons (ex_return (ev_tuple (evL_cons (ev_name rfl) (evL_cons (ev_name rfl) evL_nil)) (by simp [size_line])) ?_)
    unfold headP tailP
    rw [hH, if_neg (by simpa using h)]
    exact rfl
  · refine exs_nil (exs_cons (ex_return (ev_tuple (evL_cons (ev_name rfl) (evL_cons (ev_name rfl) evL_nil)) (by simp [size_line])) ?_))
    unfold headP tailP
    rw [hH, if_pos (by simpa using h)]
    exact rfl
end Mine
end

section
open PySem PySem.W PySem.Calls PyProof.Rows PySem.Spec
set_option maxRecDepth 100000
namespace Mine
section
variable {P : Params}
theorem g_range : nsIn (kF P) mainGlobals (Str.ofString "range") = some none := by rfl
end
noncomputable def Asc (l : List Nat) : Prop := ∀ x ∈ l, x < 128
theorem strOk_st {l : List Nat} (h : Asc l) : PyData.strOk (st l) = true := by
  simp only [PyData.strOk, st, Array.all_eq_true']
  intro x hx
  have := h x (by simpa using hx)
  simp; omega
noncomputable def rowD (r : List (List Nat)) : PyData := .list (r.map fun x => .str (st x))
theorem okD_row {r : List (List Nat)} (h : ∀ x ∈ r, Asc x) (n : Nat := 1) : okD (n + 1) (rowD r) = true := by
  simp only [rowD, okD, List.all_map, List.all_eq_true, Function.comp]
  intro x hx
  cases n <;> exact strOk_st (h x hx)
theorem rowD_inj {a b : List (List Nat)} : rowD a = rowD b ↔ a = b := by
  constructor
  · intro h
    simp only [rowD, PyData.list.injEq] at h
    exact List.map_inj_right (fun x y q => st_inj (by injection q)) |>.mp h
  · rintro rfl; rfl
section
variable {c : Cx} {env : Env} {n : Nat} {σ : List (Str × PyData)}
theorem rangeD_nat (b : Nat) : rangeD 0 (b : Int) = (List.range b).map fun (i : Nat) => .int (i : Int) := by
  simp [rangeD]
theorem ev_range1 {p e pos} {b : Nat} (i : Is c) (pl : Plain env) (hx : env.kindOf (Str.ofString "range") = some .globalImplicit) (he : Ev c env n σ e (.int (b : Int))) (hb : b < 100000) (hs : starEach [e] env = (false, eval e env) :: starEach [] env := by rfl) :
    EvI c env n σ (.Call (.Name (Str.ofString "range") p) [e] [] pos) ((List.range b).map fun (i : Nat) => .int (i : Int)) :=
  evI_cast (evI_range1 (vB i pl hx g_range Boot.«range») he (by omega) hs) (rangeD_nat b)
theorem ev_uptoL {value hi sp pos xs} {k : Nat} (h₁ : Ev c env n σ value (.list xs)) (hh : Ev c env n σ hi (.int (k : Int))) (hz : xs.length ≤ sizeLine) :
    Ev c env n σ (.Subscript value (.Slice none (some hi) none sp) pos) (.list (xs.take k)) := ev_slice_upto h₁ hh (by omega) hz
theorem ev_lenN {p e pos xs} (i : Is c) (pl : Plain env) (hx : env.kindOf (Str.ofString "len") = some .globalImplicit) (he : Ev c env n σ e (.list xs)) (hz : xs.length ≤ sizeLine) (hs : starEach [e] env = (false, eval e env) :: starEach [] env := by rfl) :
    Ev c env n σ (.Call (.Name (Str.ofString "len") p) [e] [] pos) (.int (xs.length : Int)) := ev_len_list (vB i pl hx g_len Boot.«len») he hz hs
end

-- the longest common head of rows, as the law reckons it
noncomputable def alike (rows : List (List (List Nat))) : List (List Nat) :=
  (rows.headD []).take (((List.range ((rows.headD []).length + 1)).filter fun k => rows.all fun r => decide (r.take k = (rows.headD []).take k)).getLastD 0)

set_option maxHeartbeats 4000000 in
theorem alike_calls {c : Cx} (i : Is c) {n : Nat} {rows : List (List (List Nat))} (h0 : rows ≠ []) (hl : rows.length ≤ 1000) (hr : ∀ r ∈ rows, r.length ≤ 1000 ∧ ∀ x ∈ r, Asc x) :
    CallsC c (.ref 186) (n + 1) [.list (rows.map rowD)] (rowD (alike rows)) := by
  have D := defOk_K (f := 186) i rfl rfl rfl
  refine calls_def (names := [Str.ofString "rows"]) D (by decide) rfl (fun pm cd doc vs h => ?_) fun L cd => ?_
  · obtain ⟨a, rfl⟩ := len1 h; rfl
  clear D
  have hzl : sizeLine = 16777216 := rfl
  obtain ⟨r0, rest, rfl⟩ : ∃ r0 rest, rows = r0 :: rest := by cases rows with | nil => exact absurd rfl h0 | cons a b => exact ⟨a, b, rfl⟩
  have hr0 := hr r0 List.mem_cons_self
  refine exs_cons (ex_assign_comp (ds := List.range (r0.length + 1)) (dt := fun (i : Nat) => .int (i : Int)) (p := fun k => (r0 :: rest).all fun r => decide (r.take k = r0.take k)) (f := fun (i : Nat) => .int (i : Int))
    (comp_name _ [(Str.ofString "rows", .list ((r0 :: rest).map rowD))] ?_ (by decide) rfl (cap_cons rfl rfl rfl (fun _ => rfl) cap_nil) (.inr ⟨rfl, fun k => ⟨_, rfl⟩⟩) rfl (by simp; omega) (fun C d hd => evTs_one ?_) fun C d hd _ => ev_name rfl) (.inl rfl) ?_)
  · exact ev_range1 (b := r0.length + 1) i ⟨rfl, rfl, rfl⟩ rfl (ev_cast (ev_add_int (ev_lenN i ⟨rfl, rfl, rfl⟩ rfl (ev_item_list (k := 0) (xs := (r0 :: rest).map rowD) (d := rowD r0) (ev_name rfl) ev_int (by decide) rfl (by decide)) (by simp; omega)) ev_int) (by simp)) (by omega)
  · refine evT_cmpIs (ev_comp (ds := r0 :: rest) (dt := rowD) (p := fun r => decide (r.take d ≠ r0.take d)) (f := rowD)
      (comp_name _ [(Str.ofString "rows", .list ((r0 :: rest).map rowD)), (Str.ofString "size", .int (d : Int))] (evI_list (ev_name rfl)) (by decide) rfl (cap_cons rfl rfl rfl (fun _ => rfl) (cap_cons rfl rfl rfl (fun _ => rfl) cap_nil)) (.inl rfl) rfl (by omega)
        (fun C' r hr' => evTs_one ?_) fun C' r hr' _ => ev_name rfl)) (ev_list evL_nil) (cmp_eqD (n := 3) (m := 1) ?_ rfl ?_)
    · have hrr := hr r hr'
      refine evT_cmpIs (d₁ := rowD (r.take d)) (d₂ := rowD (r0.take d)) (ev_cast (ev_uptoL (k := d) (ev_name rfl) (ev_name rfl) (by simp; omega)) (by simp [rowD, List.map_take])) (ev_cast (ev_uptoL (k := d) (ev_item_list (k := 0) (xs := (r0 :: rest).map rowD) (d := rowD r0) (ev_name rfl) ev_int (by decide) rfl (by decide)) (ev_name rfl) (by simp; omega)) (by simp [rowD, List.map_take]))
        (cmp_neD (n := 2) (m := 2) (okD_row fun x hx => hrr.2 x (List.mem_of_mem_take hx)) (okD_row fun x hx => hr0.2 x (List.mem_of_mem_take hx)) ?_)
      rw [decide_eq_true_iff, Ne, Ne, rowD_inj]
    · simp only [okD, List.all_map, List.all_eq_true, Function.comp]
      intro r hr'
      exact okD_row (hr r (List.mem_filter.mp hr').1).2
    · rw [List.all_eq_true, PyData.list.injEq, List.map_eq_nil_iff, List.filter_eq_nil_iff]
      constructor
      · intro h a ha q
        exact of_decide_eq_true q (of_decide_eq_true (h a ha))
      · intro h a ha
        refine decide_eq_true ?_
        exact Classical.byContradiction fun q => h a ha (decide_eq_true q)
  show Exs _ _ _ _ _ _
  have hne : ((List.range (r0.length + 1)).filter fun k => (r0 :: rest).all fun r => decide (r.take k = r0.take k)) ≠ [] := by
    rw [Ne, List.filter_eq_nil_iff]
    intro h
    exact h 0 (by simp) (by simp)
  refine exs_cons (ex_return (d := rowD (alike (r0 :: rest))) (ev_cast (ev_uptoL (k := ((List.range (r0.length + 1)).filter fun k => (r0 :: rest).all fun r => decide (r.take k = r0.take k)).getLastD 0) (ev_item_list (k := 0) (xs := (r0 :: rest).map rowD) (d := rowD r0) (ev_name rfl) ev_int (by decide) rfl (by decide)) (ev_item_last (ev_name rfl) (ev_neg ev_int) ?_) ?_) ?_) rfl)
  · rw [List.getLast?_map, List.getLastD_eq_getLast?, List.getLast?_eq_some_getLast hne]; rfl
  · simp; omega
  · simp [rowD, List.map_take, alike]
end Mine
end

section
open PySem PySem.W PySem.Calls PyProof.Rows PySem.Spec
set_option maxRecDepth 100000
namespace Mine
-- the tree of tokens and nodes
inductive Tr where
  | leaf (k : Nat) (w : List Nat)
  | node (ps : List Tr)
mutual
noncomputable def Tr.d : Tr → PyData
  | .leaf k w => .tuple [.int (k : Int), .str (st w)]
  | .node ps => .tuple [.int 256, .list (trsD ps)]
noncomputable def trsD : List Tr → List PyData
  | [] => []
  | p :: ps => p.d :: trsD ps
end
mutual
noncomputable def Tr.leaves : Tr → List (Nat × List Nat)
  | .leaf k w => [(k, w)]
  | .node ps => leavesL ps
noncomputable def leavesL : List Tr → List (Nat × List Nat)
  | [] => []
  | p :: ps => p.leaves ++ leavesL ps
end
mutual
noncomputable def Tr.dep : Tr → Nat
  | .leaf _ _ => 0
  | .node ps => depL ps + 1
noncomputable def depL : List Tr → Nat
  | [] => 0
  | p :: ps => max p.dep (depL ps)
end
noncomputable def Tr.isW : Tr → Bool
  | .leaf k _ => !(k == 12 || k == 25 || k == 26)
  | .node _ => false
noncomputable def Tr.isN : Tr → Bool
  | .leaf _ _ => false
  | .node _ => true
noncomputable def Tr.w : Tr → List Nat
  | .leaf _ w => w
  | .node _ => []
noncomputable def wordsT (ps : List Tr) : List (List Nat) := (ps.filter Tr.isW).map Tr.w
mutual
noncomputable def Tr.ok : Tr → Prop
  | .leaf k w => k < 256 ∧ Asc w ∧ w.length ≤ 3
  | .node ps => okL ps ∧ ps.length ≤ 1000 ∧ (wordsT ps).flatten.length ≤ 20 ∧ (wordsT ps).length ≤ 20
noncomputable def okL : List Tr → Prop
  | [] => True
  | p :: ps => p.ok ∧ okL ps
end
theorem trsD_map : ∀ ps, trsD ps = ps.map Tr.d
  | [] => rfl
  | p :: ps => by rw [trsD, trsD_map ps]; rfl
theorem leavesL_map : ∀ ps, leavesL ps = ps.flatMap Tr.leaves
  | [] => rfl
  | p :: ps => by rw [leavesL, leavesL_map ps]; rfl
theorem okL_iff : ∀ {ps}, okL ps ↔ ∀ p ∈ ps, p.ok
  | [] => by simp [okL]
  | p :: ps => by rw [okL, okL_iff (ps := ps)]; simp
theorem depL_le : ∀ {ps k}, depL ps ≤ k → ∀ p ∈ ps, p.dep ≤ k
  | [], _, _, _, h => nomatch h
  | q :: ps, k, h, p, hp => by
    rw [depL] at h
    rcases List.mem_cons.mp hp with rfl | hp
    · omega
    · exact depL_le (by omega) p hp
noncomputable def leafD (x : Nat × List Nat) : PyData := .tuple [.int (x.1 : Int), .str (st x.2)]
noncomputable def leavesD (l : List (Nat × List Nat)) : PyData := .list (l.map leafD)
section
variable {P : Params}
theorem g_term : nsIn (kF P) mainGlobals (Str.ofString "ISTERMINAL") = some (some (.ref 137)) := by rfl
theorem g_nonterm : nsIn (kF P) mainGlobals (Str.ofString "ISNONTERMINAL") = some (some (.ref 144)) := by rfl
theorem g_leaves : nsIn (kF P) mainGlobals (Str.ofString "_law_leaves") = some (some (.ref 161)) := by rfl
theorem g_paths : nsIn (kF P) mainGlobals (Str.ofString "_law_paths") = some (some (.ref 171)) := by rfl
end
section
variable {c : Cx} {env : Env} {n : Nat} {σ : List (Str × PyData)}
theorem ev_term {p e pos} {k : Int} (i : Is c) (pl : Plain env) (hx : env.kindOf (Str.ofString "ISTERMINAL") = some .globalImplicit) (he : Ev c env n σ e (.int k)) (hn : 1 ≤ n) (hs : starEach [e] env = (false, eval e env) :: starEach [] env := by rfl) :
    Ev c env n σ (.Call (.Name (Str.ofString "ISTERMINAL") p) [e] [] pos) (.bool (decide (k < 256))) := ev_call_def (vG i pl hx g_term) (isDef_K i rfl rfl) (evL_cons he evL_nil hs) (term_calls (n := 0) i).to hn hs
theorem ev_nonterm {p e pos} {k : Int} (i : Is c) (pl : Plain env) (hx : env.kindOf (Str.ofString "ISNONTERMINAL") = some .globalImplicit) (he : Ev c env n σ e (.int k)) (hn : 1 ≤ n) (hs : starEach [e] env = (false, eval e env) :: starEach [] env := by rfl) :
    Ev c env n σ (.Call (.Name (Str.ofString "ISNONTERMINAL") p) [e] [] pos) (.bool (decide (256 ≤ k))) := ev_call_def (vG i pl hx g_nonterm) (isDef_K i rfl rfl) (evL_cons he evL_nil hs) (nonterm_calls (n := 0) i).to hn hs
noncomputable def Tr.num : Tr → Nat
  | .leaf k _ => k
  | .node _ => 256
theorem ev_num {e k p pos} {t : Tr} (h : Ev c env n σ e t.d) : Ev c env n σ (.Subscript e (.Constant (.int 0) k p) pos) (.int (t.num : Int)) := by
  cases t <;> exact ev_item_tuple h ev_int (by decide) rfl (by decide)
theorem ev_word {e k p pos i w} (h : Ev c env n σ e (Tr.leaf i w).d) : Ev c env n σ (.Subscript e (.Constant (.int 1) k p) pos) (.str (st w)) := ev_item_tuple h ev_int (by decide) rfl (by decide)
theorem ev_parts {e k p pos ps} (h : Ev c env n σ e (Tr.node ps).d) : Ev c env n σ (.Subscript e (.Constant (.int 1) k p) pos) (.list (ps.map Tr.d)) := ev_cast (ev_item_tuple h ev_int (by decide) rfl (by decide)) (by rw [trsD_map])
end

theorem flatMap_leaves_len {ps : List Tr} {p : Tr} (h : p ∈ ps) : p.leaves.length ≤ (leavesL ps).length := by
  rw [leavesL_map]
  induction ps with
  | nil => cases h
  | cons q ps ih =>
    rw [List.flatMap_cons, List.length_append]
    rcases List.mem_cons.mp h with rfl | h
    · omega
    · have := ih h; omega

set_option maxHeartbeats 4000000 in
theorem leaves_calls {c : Cx} (i : Is c) {n : Nat} : ∀ (k : Nat) (t : Tr), t.dep ≤ k → t.ok → t.leaves.length ≤ 1000 → CallsC c (.ref 161) (n + k + 2) [t.d] (leavesD t.leaves) := by
  intro k
  induction k with
  | zero =>
    intro t hd ho hl
    have D := defOk_K (f := 161) i rfl rfl rfl
    refine calls_def (names := [Str.ofString "node"]) D (by decide) rfl (fun pm cd doc vs h => ?_) fun L cd => ?_
    · obtain ⟨a, rfl⟩ := len1 h; rfl
    clear D
    cases t with
    | node ps => rw [Tr.dep] at hd; omega
    | leaf k w =>
      rw [Tr.ok] at ho
      refine exs_cons (ex_if (b := true) (evT_cast (evT_bool (ev_term i ⟨rfl, rfl, rfl⟩ rfl (ev_num (t := .leaf k w) (ev_name rfl)) (by omega))) (by simp only [Tr.num]; exact decide_eq_true (by omega))) (fun _ => ?_) (fun h => nomatch h))
      exact exs_cons (ex_return (ev_list (evL_cons (ev_name rfl) evL_nil) (by simp [size_line])) rfl)
  | succ k ih =>
    intro t hd ho hl
    have D := defOk_K (f := 161) i rfl rfl rfl
    refine calls_def (names := [Str.ofString "node"]) D (by decide) rfl (fun pm cd doc vs h => ?_) fun L cd => ?_
    · obtain ⟨a, rfl⟩ := len1 h; rfl
    clear D
    cases t with
    | leaf k w =>
      rw [Tr.ok] at ho
      refine exs_cons (ex_if (b := true) (evT_cast (evT_bool (ev_term i ⟨rfl, rfl, rfl⟩ rfl (ev_num (t := .leaf k w) (ev_name rfl)) (by omega))) (by simp only [Tr.num]; exact decide_eq_true (by omega))) (fun _ => ?_) (fun h => nomatch h))
      exact exs_cons (ex_return (ev_list (evL_cons (ev_name rfl) evL_nil) (by simp [size_line])) rfl)
    | node ps =>
      rw [Tr.ok] at ho
      rw [Tr.dep] at hd
      rw [Tr.leaves] at hl
      have hzl : sizeLine = 16777216 := rfl
      have hlen : (ps.flatMap fun p => (p.leaves.map leafD).map id).length = (leavesL ps).length := by
        rw [leavesL_map]; clear ih ho hd hl
        induction ps with
        | nil => rfl
        | cons q ps ih => rw [List.flatMap_cons, List.flatMap_cons, List.length_append, List.length_append, ih]; simp
      refine exs_cons (ex_if (b := false) (evT_cast (evT_bool (ev_term i ⟨rfl, rfl, rfl⟩ rfl (ev_num (t := .node ps) (ev_name rfl)) (by omega))) (by simp only [Tr.num]; rfl)) (fun h => nomatch h) (fun _ => exs_nil ?_))
      refine exs_cons (ex_return (d := leavesD (Tr.node ps).leaves) (ev_cast (ev_comp2 (ds := ps) (dt := Tr.d) (g := fun p => p.leaves.map leafD) (f := fun _ e => e) _ [] (evI_list (ev_parts (ev_name rfl))) (by decide) rfl cap_nil rfl rfl rfl rfl (by decide)
        (fun C p hp => evI_list (ev_call_def (vG i ⟨rfl, rfl, rfl⟩ rfl g_leaves) (isDef_K i rfl rfl) (evL_cons (ev_name rfl) evL_nil) (ih p (depL_le (by omega) p hp) (okL_iff.mp ho.1 p hp) (Nat.le_trans (flatMap_leaves_len hp) hl)).to (by omega)))
        (fun C p hp e he => ev_name rfl) ?_) ?_) rfl)
      · have : (ps.flatMap fun p => (p.leaves.map leafD).map fun e => e).length = (leavesL ps).length := hlen
        rw [this]; omega
      · simp only [Tr.leaves, leavesD, leavesL_map, PyData.list.injEq, List.map_flatMap]
        congr 1; funext p; simp
end Mine
end

section
open PySem PySem.W PySem.Calls PyProof.Rows PySem.Spec
set_option maxRecDepth 100000
namespace Mine
mutual
noncomputable def Tr.paths : Tr → List Nat → List (List Nat)
  | .leaf _ _, _ => []
  | .node ps, f => if ps.any Tr.isN then pathsL ps (joinP f (wordsT ps).flatten) else [joinP f (wordsT ps).flatten]
noncomputable def pathsL : List Tr → List Nat → List (List Nat)
  | [], _ => []
  | p :: ps, f => p.paths f ++ pathsL ps f
end
theorem pathsL_map : ∀ ps f, pathsL ps f = ps.flatMap fun p => p.paths f
  | [], _ => rfl
  | p :: ps, f => by rw [pathsL, pathsL_map ps f]; rfl
theorem pathsL_kids (ps : List Tr) (f : List Nat) : pathsL ps f = (ps.filter Tr.isN).flatMap fun p => p.paths f := by
  rw [pathsL_map]
  induction ps with
  | nil => rfl
  | cons p ps ih =>
    cases p with
    | leaf k w => rw [List.flatMap_cons, ih, Tr.paths]; rfl
    | node qs => rw [List.flatMap_cons, ih, List.filter_cons_of_pos (by rfl), List.flatMap_cons]
theorem okD_tr : ∀ (k : Nat) (t : Tr), t.dep ≤ k → t.ok → okD (2 * k + 2) t.d = true := by
  intro k
  induction k with
  | zero =>
    intro t hd ho
    cases t with
    | node ps => rw [Tr.dep] at hd; omega
    | leaf k w => rw [Tr.ok] at ho; simp [Tr.d, okD, strOk_st ho.2.1]
  | succ k ih =>
    intro t hd ho
    cases t with
    | leaf k w => rw [Tr.ok] at ho; simp [Tr.d, okD, strOk_st ho.2.1]
    | node ps =>
      rw [Tr.ok] at ho
      rw [Tr.dep] at hd
      simp only [Tr.d, okD, trsD_map, List.all_cons, List.all_nil, Bool.and_true, Bool.true_and]
      rw [List.all_map, List.all_eq_true]
      intro p hp
      exact ih p (depL_le (by omega) p hp) (okL_iff.mp ho.1 p hp)
theorem joinP_len (a b : List Nat) : (joinP a b).length ≤ a.length + b.length + 1 := by
  unfold joinP; split
  · omega
  · split <;> simp <;> omega
theorem pathsL_len {ps : List Tr} {p : Tr} {f : List Nat} (h : p ∈ ps) : (p.paths f).length ≤ (pathsL ps f).length := by
  rw [pathsL_map]
  induction ps with
  | nil => cases h
  | cons q ps ih =>
    rw [List.flatMap_cons, List.length_append]
    rcases List.mem_cons.mp h with rfl | h
    · omega
    · have := ih h; omega
section
variable {c : Cx} {env : Env} {n : Nat} {σ : List (Str × PyData)}
theorem ev_jn {p e e' pos a b} (i : Is c) (pl : Plain env) (hx : env.kindOf (Str.ofString "join") = some .globalImplicit) (he : Ev c env n σ e (.str (st a))) (he' : Ev c env n σ e' (.str (st b))) (ha : a.length ≤ 1000) (hb : b.length ≤ 1000) (hn : 2 ≤ n)
    (hs : starEach [e, e'] env = (false, eval e env) :: starEach [e'] env := by rfl) (hs' : starEach [e'] env = (false, eval e' env) :: starEach [] env := by rfl) :
    Ev c env n σ (.Call (.Name (Str.ofString "join") p) [e, e'] [] pos) (.str (st (joinP a b))) := ev_call_def (vG i pl hx g_join) (isDef_K i rfl rfl) (evL_cons he (evL_cons he' evL_nil hs') hs) (join_calls (n := 0) i ha hb).to hn (by rw [hs, hs'])
end

set_option maxHeartbeats 4000000 in
theorem paths_calls {c : Cx} (i : Is c) {n : Nat} : ∀ (k : Nat) (t : Tr) (f : List Nat), t.dep ≤ k → k ≤ 20 → t.isN = true → t.ok → f.length + 21 * k ≤ 1000 → (t.paths f).length ≤ 1000 → CallsC c (.ref 171) (n + k + 3) [t.d, .str (st f)] (rowD (t.paths f)) := by
  intro k
  induction k with
  | zero =>
    intro t f hd _ hn
    cases t with
    | leaf => cases hn
    | node ps => rw [Tr.dep] at hd; omega
  | succ k ih =>
    intro t f hd hk hn ho hf hl
    have D := defOk_K (f := 171) i rfl rfl rfl
    refine calls_def (names := [Str.ofString "node", Str.ofString "folder"]) D (by decide) rfl (fun pm cd doc vs h => ?_) fun L cd => ?_
    · obtain ⟨a, b, rfl⟩ := len2 h; rfl
    clear D
    cases t with
    | leaf => cases hn
    | node ps =>
      rw [Tr.ok] at ho
      rw [Tr.dep] at hd
      obtain ⟨ho, hpl, hw, hwl⟩ := ho
      have ho' := okL_iff.mp ho
      have hzl : sizeLine = 16777216 := rfl
      refine exs_cons (ex_assign_comp (ds := ps) (dt := Tr.d) (p := Tr.isW) (f := fun p => .str (st p.w)) (comp_name _ [] (evI_list (ev_parts (ev_name rfl))) (by decide) rfl cap_nil (.inl rfl) rfl (by omega) (fun C p hp => evTs_one ?_) fun C p hp hW => ?_) (.inl rfl) ?_)
      · have hop := ho' p hp
        cases p with
        | leaf k w =>
          rw [Tr.ok] at hop
          refine evT_and2 (b₁ := true) (evT_cast (evT_bool (ev_term i ⟨rfl, rfl, rfl⟩ rfl (ev_num (t := .leaf k w) (ev_name rfl)) (by omega))) (by simp only [Tr.num]; exact decide_eq_true (by omega))) (fun _ => ?_) (fun h => nomatch h)
          refine evT_cast (evT_cmpIs (ev_num (t := .leaf k w) (ev_name rfl)) (ev_tuple (evL_cons ev_int (evL_cons ev_int (evL_cons ev_int evL_nil)))) (cmp_notIn_tuple rfl rfl)) ?_
          show (!((PyData.eqv (.int 12) (.int (k : Int))) || ((PyData.eqv (.int 25) (.int (k : Int))) || ((PyData.eqv (.int 26) (.int (k : Int))) || false)))) = _
          simp only [PyData.eqv, Tr.isW, Bool.or_false, Bool.or_assoc]
          have e : ∀ a : Nat, ((a : Int) == (k : Int)) = (k == a) := fun a => by rw [Bool.eq_iff_iff]; simp; omega
          rw [← e 12, ← e 25, ← e 26]; rfl
        | node qs =>
          exact evT_and2 (b₁ := false) (evT_cast (evT_bool (ev_term i ⟨rfl, rfl, rfl⟩ rfl (ev_num (t := .node qs) (ev_name rfl)) (by omega))) (by simp only [Tr.num]; rfl)) (fun h => nomatch h) (fun _ => rfl)
      · cases p with
        | leaf k w => exact ev_word (ev_name rfl)
        | node qs => cases hW
      show Exs _ _ _ _ _ _
      refine exs_cons (ex_assign_comp (ds := ps) (dt := Tr.d) (p := Tr.isN) (f := Tr.d) (comp_name _ [] (evI_list (ev_parts (ev_name rfl))) (by decide) rfl cap_nil (.inl rfl) rfl (by omega) (fun C p hp => evTs_one ?_) fun C p hp hW => ev_name rfl) (.inl rfl) ?_)
      · have hop := ho' p hp
        refine evT_cast (evT_bool (ev_nonterm i ⟨rfl, rfl, rfl⟩ rfl (ev_num (t := p) (ev_name rfl)) (by omega))) ?_
        cases p with
        | leaf k w => rw [Tr.ok] at hop; simp only [Tr.num, Tr.isN]; exact decide_eq_false (by omega)
        | node qs => rfl
      show Exs _ _ _ _ _ _
      refine exs_cons (ex_assign (ev_jn i ⟨rfl, rfl, rfl⟩ rfl (ev_name rfl) (ev_cast (ev_joinS (sep := []) (xs := wordsT ps) ev_str (ev_cast (ev_name rfl) ?_) ?_) (congrArg PyData.str (join_nil_st _))) (by omega) (by omega) (by omega)) (.inr ⟨rfl, ⟨_, rfl⟩⟩) ?_)
      · rw [wordsT, List.map_map]; rfl
      · simp only [List.length_nil, Nat.mul_zero, Nat.add_zero]; rw [← List.length_flatten]; omega
      show Exs _ _ _ _ _ _
      have hjl := joinP_len f (wordsT ps).flatten
      rw [Tr.paths] at hl ⊢
      generalize joinP f (wordsT ps).flatten = here at hl hjl ⊢
      have hkn : ps.any Tr.isN = false ↔ ps.filter Tr.isN = [] := by
        rw [List.filter_eq_nil_iff, ← Bool.not_eq_true, List.any_eq_true]
        constructor
        · intro h a ha q; exact h ⟨a, ha, q⟩
        · rintro h ⟨a, ha, q⟩; exact h a ha q
      refine exs_cons (ex_if (b := !ps.any Tr.isN) (evT_cmpIs (ev_name rfl) (ev_list evL_nil) (cmp_eqD (n := 2 * 20 + 3) (m := 1) ?_ rfl ?_)) (fun h => ?_) (fun h => exs_nil ?_))
      · simp only [okD, List.all_map, List.all_eq_true]
        intro p hp
        exact okD_up (okD_tr k p (depL_le (by omega) p (List.mem_filter.mp hp).1) (ho' p (List.mem_filter.mp hp).1)) (by omega)
      · rw [Bool.not_eq_true', hkn, PyData.list.injEq, List.map_eq_nil_iff]
      · rw [Bool.not_eq_true'] at h
        rw [h]
        exact exs_cons (ex_return (ev_list (evL_cons (ev_name rfl) evL_nil) (by simp [size_line])) rfl)
      · rw [Bool.not_eq_false'] at h
        rw [if_pos h] at hl ⊢
        refine exs_cons (ex_return (d := rowD (pathsL ps here)) (ev_cast (ev_comp2 (ds := ps.filter Tr.isN) (dt := Tr.d) (g := fun p => (p.paths here).map fun x => .str (st x)) (f := fun _ e => e) _ [(Str.ofString "here", .str (st here))] (evI_list (ev_name rfl)) (by decide) rfl (cap_cons rfl rfl rfl (fun _ => rfl) cap_nil) rfl rfl rfl rfl (by decide)
          (fun C p hp => evI_list (ev_call_def (vG i ⟨rfl, rfl, rfl⟩ rfl g_paths) (isDef_K i rfl rfl) (evL_cons (ev_name rfl) (evL_cons (ev_name rfl) evL_nil)) (ih p here (depL_le (by omega) p (List.mem_filter.mp hp).1) (by omega) (List.mem_filter.mp hp).2 (ho' p (List.mem_filter.mp hp).1) (by omega) (Nat.le_trans (pathsL_len (List.mem_filter.mp hp).1) hl)).to (by omega)))
          (fun C p hp e he => ev_name rfl) ?_) ?_) rfl)
        · rw [pathsL_kids] at hl
          have : ∀ l : List Tr, (l.flatMap fun p => ((p.paths here).map fun x => PyData.str (st x)).map fun e => e).length = (l.flatMap fun p => p.paths here).length := fun l => by
            induction l with
            | nil => rfl
            | cons q l ih' => rw [List.flatMap_cons, List.flatMap_cons, List.length_append, List.length_append, ih']; simp
          rw [this]; omega
        · rw [pathsL_kids, rowD, PyData.list.injEq, List.map_flatMap]
          congr 1; funext p; simp
end Mine
end

section
open PySem PySem.W PySem.Calls PyProof.Rows PySem.Spec
set_option maxRecDepth 100000
namespace Mine
inductive RdPs (P : Params) (S : Addr → Prop) (h : Heap) : List (Value × Value) → List (Str × PyData) → Prop
  | nil : RdPs P S h [] []
  | cons {x t v d vs kvs} : Rd P S h v d → RdPs P S h vs kvs → RdPs P S h ((.str x t, v) :: vs) ((x, d) :: kvs)
noncomputable def dictD (kvs : List (Str × PyData)) : PyData := .dict (kvs.map fun p => (.str p.1, p.2))
section
variable {P : Params} {S S' : Addr → Prop} {h h' : Heap}
theorem RdPs.keep : ∀ {vs kvs}, RdPs P S h vs kvs → KeepH h h' → RdPs P S h' vs kvs
  | _, _, .nil, _ => .nil
  | _, _, .cons r q, k => .cons (r.keep k) (q.keep k)
theorem RdPs.all : ∀ {vs kvs}, RdPs P S h vs kvs → allStrKeys vs = true
  | _, _, .nil => rfl
  | _, _, .cons r q => q.all
theorem RdPs.keys : ∀ {vs kvs}, RdPs P S h vs kvs → (strPairs vs).map (·.1) = kvs.map (·.1)
  | _, _, .nil => rfl
  | _, _, .cons (x := x) r q => by show x :: (strPairs _).map (·.1) = x :: _; rw [q.keys]
theorem rdEs_of {prog : Program} {w : World} (hk : ∀ a o, ¬ S a → h.get? a = some o → ¬ S' a ∧ h'.get? a = some o) : ∀ {vs kvs}, RdPs w.params S h vs kvs → ∀ {es : List DictEntry}, (∀ e ∈ es, ∃ k, (strKind prog w).is k e.key = true ∧ e.hash = (strKind prog w).hash k) → Pairs (strKind prog w) es (strPairs vs) →
    RdEs w.params S' h' es (kvs.map fun p => (.str p.1, p.2))
  | _, _, .nil, es, _, hp => by cases hp; exact .nil
  | _, _, .cons (x := x) r q, es, hK, hp => by
    cases hp with
    | @cons e _ es _ h1 h2 h3 =>
      obtain ⟨k, hk1, hk2⟩ := hK e List.mem_cons_self
      obtain ⟨t, ht⟩ := Value.isStrOf_shape h1
      obtain ⟨eh, ek, ev⟩ := e
      cases ht
      cases h2
      have hk1' : Value.isStrOf k (.str x t) = true := hk1
      obtain ⟨t', ht'⟩ := Value.isStrOf_shape hk1'
      cases ht'
      cases hk2
      exact .cons (r.move hk) (rdEs_of hk q (fun e he => hK e (List.mem_cons_of_mem _ he)) h3)
theorem RdEs.keysOf {prog : Program} {w : World} : ∀ {es kvs}, RdEs w.params S h es kvs → ∀ e ∈ es, ∃ k, (strKind prog w).is k e.key = true ∧ e.hash = (strKind prog w).hash k
  | _, _, .nil, _, he => nomatch he
  | _, _, .cons (x := x) r q, e, he => by
    rcases List.mem_cons.mp he with rfl | he
    · exact ⟨x, strKind_is _ _ _ _, rfl⟩
    · exact q.keysOf e he
theorem RdEs.find : ∀ {es} {kvs : List (Str × PyData)} {x d}, RdEs P S h es (kvs.map fun p => (.str p.1, p.2)) → kvs.lookup x = some d → ∃ v, (es.find? fun e => Value.isStrOf x e.key).map (·.val) = some v ∧ Rd P S h v d
  | _, [], _, _, .nil, e => nomatch e
  | _, (y, d') :: kvs, x, d, .cons (es := es) (t := t) (v := v) r q, e => by
    rw [List.lookup_cons] at e
    cases hxy : x == y with
    | true =>
      rw [hxy] at e
      cases e
      have hyx := (beq_iff_eq.mp hxy).symm
      subst hyx
      refine ⟨v, ?_, r⟩
      rw [List.find?_cons_of_pos (by simp [Value.isStrOf])]; rfl
    | false =>
      rw [hxy] at e
      obtain ⟨u, hu, ru⟩ := RdEs.find q e
      refine ⟨u, ?_, ru⟩
      rw [List.find?_cons_of_neg]
      · exact hu
      · intro z
        have : (y == x) = true := z
        rw [beq_iff_eq] at this
        subst this
        simp at hxy
theorem Rd.dict_inv {v kvs} (r : Rd P S h v (dictD kvs)) (h0 : kvs ≠ []) : ∃ a es n, v = .ref a ∧ ¬ S a ∧ h.get? a = some ⟨.type "dict", Option.none, .dict es n, #[]⟩ ∧ RdEs P S h es.toList (kvs.map fun p => (.str p.1, p.2)) := by
  generalize hd : dictD kvs = d at r
  cases r <;> try (cases hd; done)
  · cases kvs with
    | nil => exact absurd rfl h0
    | cons p ps => simp [dictD, tstrD] at hd
  · cases kvs with
    | nil => exact absurd rfl h0
    | cons p ps => simp [dictD, tbytD] at hd
  · cases kvs with
    | nil => exact absurd rfl h0
    | cons p ps => simp [dictD, addrD] at hd
  · simp only [dictD, PyData.dict.injEq] at hd
    subst hd
    exact ⟨_, _, _, rfl, ‹_›, ‹_›, ‹_›⟩
end
section
variable {c : Cx} {env : Env} {n : Nat} {σ : List (Str × PyData)} {A : Around} {S : Addr → Prop} {s : Shared} {E : Value → Shared → Prop}
noncomputable def EvP (c : Cx) (env : Env) (n : Nat) (σ : List (Str × PyData)) (keys : List (Option Expr)) (values : List Expr) (pos : Pos) (kvs : List (Str × PyData)) : Prop :=
  ∀ A S s E, At c env n σ A S s → wpAny c.M A (evalPairs (pairTrees keys values env pos)) (fun vs s' => Keeps s s' ∧ RdPs c.P S s'.heap vs kvs) E s
theorem evP_nil {pos} : EvP c env n σ [] [] pos [] := fun A S s E a => pairTrees_nil_walk ⟨Keeps.refl', .nil⟩
theorem evP_cons {k p x v d ks vs pos kvs} (h : Ev c env n σ v d) (t : EvP c env n σ ks vs pos kvs) : EvP c env n σ (some (.Constant (.str x) k p) :: ks) (v :: vs) pos ((x, d) :: kvs) := fun A S s E a =>
  pairTrees_cons_walk (wpAny_mono (ev_str A S s E a) (fun kv s₁ p₁ => by
    obtain ⟨tk, rfl⟩ := p₁.2.str_inv
    exact wpAny_mono (h A S s₁ E (a.keep p₁.1)) (fun vv s₂ p₂ => wpAny_mono (t A S s₂ E ((a.keep p₁.1).keep p₂.1)) (fun r s₃ p₃ => ⟨Keeps.trans' p₁.1 (Keeps.trans' p₂.1 p₃.1), .cons (p₂.2.keep (Keeps.h p₃.1)) p₃.2⟩) fun _ _ x => x) fun _ _ x => x) fun _ _ x => x)
theorem ev_dict {keys values pos kvs} (h : EvP c env n σ keys values pos kvs) (hn : (kvs.map (·.1)).Nodup) (hall : keys.all (·.isSome) = true) (hl : keys.length = values.length) (h0 : keys ≠ []) (hlen : keys.length ≤ 15) :
    Ev c env n σ (.Dict keys values pos) (dictD kvs) := fun A S s E a => by
  refine wpAny_Dict_walk (knd := strKind c.prog c.w) hall hl h0 hlen ?_
  have hD : s.heap.get? s.heap.objs.size = none := get_size_none _
  have a' : At c env n σ A (fun b => S b ∨ b = s.heap.objs.size) { s with heap := s.heap.push { cls := .type "dict", data := .dict #[] } } := by
    have k := Keeps.push (s := s) { cls := .type "dict", data := .dict #[] }
    refine ⟨a.room, a.good.keeps (Keeps.h k), fun b q => ?_, a.fr.move (fun b o nx e => ⟨fun q => q.elim nx fun q => (by rw [q, hD] at e; cases e), Keeps.h k b o e⟩) (fun o e => Keeps.h k _ _ e) fun _ _ o e => Keeps.h k _ _ e⟩
    rcases q with q | rfl
    · obtain ⟨o, ho⟩ := a.sb b q; exact ⟨o, Keeps.h k _ _ ho⟩
    · exact ⟨_, Heap.get?_push_size _ rfl⟩
  refine wpAny_mono (h A _ _ E a') (fun vs s₁ q => ?_) fun _ _ x => x
  obtain ⟨k₁, q⟩ := q
  have hD₁ : s₁.heap.DictOf (strKind c.prog c.w) s.heap.objs.size [] := by
    obtain ⟨o, es, ep, ho, r⟩ := Heap.DictOf.new (knd := strKind c.prog c.w) s.heap
    exact ⟨o, es, ep, Keeps.h k₁ _ _ ho, r⟩
  refine display_done_str (P := fun h' => Post c S s (dictD kvs) (.ref s.heap.objs.size) { s₁ with heap := h', toks := s₁.toks + vs.length }) q.all (by rw [q.keys]; exact hn) hD₁ fun h' hm hs => ?_
  obtain ⟨h₁, tk₁, rfl, kh₁⟩ := k₁
  refine ⟨⟨h', _, rfl, fun b o e => (hs.2 b fun q => by rw [q, hD] at e; cases e).trans (kh₁ b o (keepH_push _ b o e))⟩, ?_⟩
  obtain ⟨⟨oc, od, ot, os⟩, es, ep, ho, ⟨hc, hdn, hsl⟩, hdt, hK, hP, _⟩ := hm
  cases hc; cases hdn; cases hsl; cases hdt
  refine .dict a.sb.size ho (rdEs_of (prog := c.prog) (h := h₁) (fun b o nx e => ⟨fun q => nx (.inl q), (hs.2 b fun q => nx (.inr q)).trans e⟩) q (fun e he => hK e (by simpa using he)) hP)
theorem ev_item_dict {value slice pos kvs x d} (h₁ : Ev c env n σ value (dictD kvs)) (h₂ : Ev c env n σ slice (.str x)) (hx : kvs.lookup x = some d)
    (hs : ∀ o i, subscripted slice false o i = operate [o, i] (getItem o i) := by intro _ _; rfl) : Ev c env n σ (.Subscript value slice pos) d :=
  ev_sub h₁ h₂ fun A S s E v₁ v₂ a r₁ r₂ => by
    obtain ⟨D, es, ep, rfl, _, ho, q⟩ := r₁.dict_inv (by rintro rfl; cases hx)
    obtain ⟨u, rfl⟩ := r₂.str_inv
    obtain ⟨v, hv, r⟩ := q.find hx
    have hm : s.heap.MapOf (strKind c.prog c.w) D (findBy (strKind c.prog c.w).is es) := ⟨_, es, ep, ho, ⟨rfl, rfl, rfl⟩, rfl, fun e he => q.keysOf e (by simpa using he), fun _ => rfl⟩
    refine tail_any hm.typeIs slot_dict_getitem.lookup (wpAny_getItem_of (strKind_is c.prog c.w x u) hm (v := v) ?_ ⟨Keeps.tok _, r⟩) (hs _ _)
    unfold findBy
    rw [← Array.find?_toList]; exact hv
end
end Mine
end

section
open PySem PySem.W PySem.Calls PyProof.Rows PySem.Spec
set_option maxRecDepth 100000
namespace Mine
noncomputable def slT : Nat → List Tr
  | 0 => []
  | 1 => [.leaf 17 [47]]
  | _ => [.leaf 47 [47, 47]]
noncomputable def nmL : List (List Nat × List Tr) := [([97], [.leaf 1 [97]]), ([98], [.leaf 1 [98]]), ([46], [.leaf 23 [46]]), ([46, 46], [.leaf 23 [46], .leaf 23 [46]]), ([46, 46, 46], [.leaf 52 [46, 46, 46]])]
noncomputable def nmT (x : List Nat) : List Tr := (nmL.lookup x).getD []
noncomputable def TN (t : List Ent) : Prop := ∀ e ∈ t, e.nm ∈ nmL.map (·.1)
noncomputable def kidsOf (t : List Ent) (place : Nat) : List Nat := ((List.range (t.length - (place + 1))).map fun j => place + 1 + j).filter fun k => (en t k).pa == place
noncomputable def mkT (t : List Ent) : Nat → Nat → Nat → Tr
  | 0, _, _ => .node []
  | f + 1, place, ahead =>
    .node (if kidsOf t place = [] then slT ahead ++ nmT (en t place).nm
      else (((slT ahead ++ nmT (en t place).nm) ++ slT (en t place).sl ++ [Tr.leaf 25 [123]] ++ ((kidsOf t place).flatMap fun k => [mkT t f k 0, Tr.leaf 12 [44]]))).dropLast ++ [Tr.leaf 26 [125]])
theorem kids_gt {t : List Ent} {p k : Nat} (h : k ∈ kidsOf t p) : p < k ∧ k < t.length := by
  obtain ⟨h, _⟩ := List.mem_filter.mp h
  obtain ⟨j, hj, rfl⟩ := List.mem_map.mp h
  have := List.mem_range.mp hj
  omega
section
variable {P : Params}
theorem g_node : nsIn (kF P) mainGlobals (Str.ofString "_law_node") = some (some (.ref 156)) := by rfl
end
noncomputable def tokD (k : Nat) (w : List Nat) : PyData := .tuple [.int (k : Int), .str (st w)]
theorem leaf_d (k : Nat) (w : List Nat) : (Tr.leaf k w).d = tokD k w := by rw [Tr.d, tokD]
noncomputable abbrev slD : List PyData := [.list [], .list [tokD 17 [47]], .list [tokD 47 [47, 47]]]
noncomputable abbrev nmD : List (Str × PyData) := [(Str.ofString "a", .list [tokD 1 [97]]), (Str.ofString "b", .list [tokD 1 [98]]), (Str.ofString ".", .list [tokD 23 [46]]), (Str.ofString "..", .list [tokD 23 [46], tokD 23 [46]]), (Str.ofString "...", .list [tokD 52 [46, 46, 46]])]
theorem slT_get {a : Nat} (h : a < 3) : slD[a]? = some (.list ((slT a).map Tr.d)) := by
  match a, h with
  | 0, _ => rfl
  | 1, _ => simp [slD, slT, leaf_d]
  | 2, _ => simp [slD, slT, leaf_d]
theorem slT_len (a : Nat) : (slT a).length ≤ 1 := by
  match a with
  | 0 => decide
  | 1 => decide
  | _ + 2 => exact Nat.le_refl 1
theorem en_mem {t : List Ent} {i : Nat} (h : i < t.length) : en t i ∈ t := by
  unfold en; rw [List.getD_eq_getElem?_getD, List.getElem?_eq_getElem h]; exact List.getElem_mem h
theorem nmD_nodup : (nmD.map (·.1)).Nodup := by decide
theorem nm_look {x : List Nat} (h : x ∈ nmL.map (·.1)) : nmD.lookup (st x) = some (.list ((nmT x).map Tr.d)) := by
  simp only [nmL, List.map_cons, List.map_nil, List.mem_cons, List.not_mem_nil, or_false] at h
  rcases h with rfl | rfl | rfl | rfl | rfl
  · simp only [nmT, nmL]; rw [show List.lookup [97] _ = some [Tr.leaf 1 [97]] from rfl]; simp only [Option.getD_some, List.map_cons, List.map_nil, leaf_d]; rfl
  · simp only [nmT, nmL]; rw [show List.lookup [98] _ = some [Tr.leaf 1 [98]] from rfl]; simp only [Option.getD_some, List.map_cons, List.map_nil, leaf_d]; rfl
  · simp only [nmT, nmL]; rw [show List.lookup [46] _ = some [Tr.leaf 23 [46]] from rfl]; simp only [Option.getD_some, List.map_cons, List.map_nil, leaf_d]; rfl
  · simp only [nmT, nmL]; rw [show List.lookup [46, 46] _ = some [Tr.leaf 23 [46], Tr.leaf 23 [46]] from rfl]; simp only [Option.getD_some, List.map_cons, List.map_nil, leaf_d]; rfl
  · simp only [nmT, nmL]; rw [show List.lookup [46, 46, 46] _ = some [Tr.leaf 52 [46, 46, 46]] from rfl]; simp only [Option.getD_some, List.map_cons, List.map_nil, leaf_d]; rfl
theorem nm_len {x : List Nat} (h : x ∈ nmL.map (·.1)) : (nmT x).length ≤ 2 := by
  simp only [nmL, List.map_cons, List.map_nil, List.mem_cons, List.not_mem_nil, or_false] at h
  rcases h with rfl | rfl | rfl | rfl | rfl <;> decide
end Mine
end

section
open PySem PySem.W PySem.Calls PyProof.Rows PySem.Spec
set_option maxRecDepth 100000
namespace Mine
section
variable {c : Cx} {env : Env} {n : Nat} {σ : List (Str × PyData)}
theorem ev_tok {e1 e2 k p} {a : Nat} {b : List Nat} (h1 : Ev c env n σ e1 (.int (a : Int))) (h2 : Ev c env n σ e2 (.str (st b))) (h3 : starEach [e1, e2] env = (false, eval e1 env) :: starEach [e2] env := by rfl) (h4 : starEach [e2] env = (false, eval e2 env) :: starEach [] env := by rfl) :
    Ev c env n σ (.Tuple [e1, e2] k p) (tokD a b) := ev_tuple (evL_cons h1 (evL_cons h2 evL_nil h4) h3) (by simp [size_line])
theorem ev_tok1 {i : Int} {a : Nat} {x b k1 p1 k2 p2 k p p3} (hi : i = (a : Int)) (hx : x = st b) : Ev c env n σ (.List [.Tuple [.Constant (.int i) k1 p1, .Constant (.str x) k2 p2] k p] p3) (.list [tokD a b]) := by
  subst hi; subst hx; exact ev_list (evL_cons (ev_tok ev_int ev_str) evL_nil) (by simp [size_line])
theorem ev_tok2 {i i' : Int} {a a' : Nat} {x b x' b' k1 p1 k2 p2 k p k1' p1' k2' p2' k' p' p3} (hi : i = (a : Int)) (hx : x = st b) (hi' : i' = (a' : Int)) (hx' : x' = st b') :
    Ev c env n σ (.List [.Tuple [.Constant (.int i) k1 p1, .Constant (.str x) k2 p2] k p, .Tuple [.Constant (.int i') k1' p1', .Constant (.str x') k2' p2'] k' p'] p3) (.list [tokD a b, tokD a' b']) := by
  subst hi; subst hx; subst hi'; subst hx'; exact ev_list (evL_cons (ev_tok ev_int ev_str) (evL_cons (ev_tok ev_int ev_str) evL_nil)) (by simp [size_line])
end
set_option maxHeartbeats 8000000 in
theorem node_calls {c : Cx} (i : Is c) {n : Nat} {t : List Ent} (hT : TOk t) (hN : TN t) : ∀ (f place ahead : Nat), t.length ≤ f + place → place < t.length → ahead < 3 → CallsC c (.ref 156) (n + f + 1) [tblD t, .int (place : Int), .int (ahead : Int)] (mkT t f place ahead).d := by
  intro f
  induction f with
  | zero => intro place ahead h1 h2; omega
  | succ f ih =>
    intro place ahead hf hp ha
    generalize hR : (mkT t (f + 1) place ahead).d = R
    have D := defOk_K (f := 156) i rfl rfl rfl
    refine calls_def (names := [Str.ofString "table", Str.ofString "place", Str.ofString "ahead"]) D (by decide) rfl (fun pm cd doc vs h => ?_) fun L cd => ?_
    · obtain ⟨a, b, c, rfl⟩ := len3 h; rfl
    clear D
    have hlen := hT.len
    have hzl : sizeLine = 16777216 := rfl
    refine exs_cons ?_
    with_reducible refine ex_assign (d := .tuple slD) ?_ ?_ ?_ ?_
    · with_reducible refine ev_tuple (evL_cons (ev_list evL_nil) (evL_cons (ev_tok1 ?_ ?_) (evL_cons (ev_tok1 ?_ ?_) evL_nil ?_) ?_) ?_) ?_
      all_goals first | rfl | decide
    · exact .inl rfl
    rotate_left
    · rfl
    show Exs _ _ _ _ _ _
    refine exs_cons ?_
    with_reducible refine ex_assign (d := dictD nmD) ?_ ?_ ?_ ?_
    · with_reducible refine ev_dict (evP_cons (ev_tok1 ?_ ?_) (evP_cons (ev_tok1 ?_ ?_) (evP_cons (ev_tok1 ?_ ?_) (evP_cons (ev_tok2 ?_ ?_ ?_ ?_) (evP_cons (ev_tok1 ?_ ?_) evP_nil))))) nmD_nodup ?_ ?_ ?_ ?_
      all_goals first | rfl | decide | simp
    · exact .inl rfl
    rotate_left
    · rfl
    show Exs _ _ _ _ _ _
    refine exs_cons (ex_assign_comp (ds := (List.range (t.length - (place + 1))).map fun j => place + 1 + j) (dt := fun (k : Nat) => .int (k : Int)) (p := fun k => (en t k).pa == place) (f := fun (k : Nat) => .int (k : Int))
      (comp_name _ [(Str.ofString "table", tblD t), (Str.ofString "place", .int (place : Int))] ?_ (by decide) rfl (cap_cons rfl rfl rfl (fun _ => rfl) (cap_cons rfl rfl rfl (fun _ => rfl) cap_nil)) (.inl rfl) rfl (by simp; omega) (fun C k hk => evTs_one ?_) fun C k hk _ => ev_name rfl) (.inl rfl) ?_)
    · refine evI_cast (evI_range2 (b := (t.length : Int)) (vB i ⟨rfl, rfl, rfl⟩ rfl g_range Boot.«range») (ev_add_int (ev_name rfl) ev_int) (ev_cast (ev_lenN i ⟨rfl, rfl, rfl⟩ rfl (ev_name rfl) (by simp; omega)) (by simp)) (by omega) (by omega)) ?_
      rw [rangeD, List.map_map]
      rw [show ((t.length : Int) - ((place : Int) + 1)).toNat = t.length - (place + 1) by omega]
      apply List.map_congr_left
      intro j hj
      simp
    · obtain ⟨j, hj, rfl⟩ := List.mem_map.mp hk
      have := List.mem_range.mp hj
      refine evT_cmpIs (ev_pa (ev_ent (i := place + 1 + j) (ev_name rfl) (ev_name rfl) (by omega) (by omega))) (ev_name rfl) (cmp_eqD (n := 0) (m := 0) rfl rfl ?_)
      rw [beq_iff_eq, PyData.int.injEq]; omega
    show Exs _ _ _ _ _ _
    have hnm := hN _ (en_mem hp)
    have hsl := hT.sl' place
    have l1 := slT_len ahead
    have l2 := nm_len hnm
    have l3 := slT_len (en t place).sl
    have hkl : (kidsOf t place).length ≤ 10 := by
      unfold kidsOf
      refine Nat.le_trans (List.length_filter_le _ _) ?_
      simp; omega
    refine exs_cons (ex_assign (d := .list ((slT ahead ++ nmT (en t place).nm).map Tr.d)) (ev_cast (ev_add_list (ev_item_tuple (k := (ahead : Int)) (ev_name rfl) (ev_name rfl) (by omega) (slT_get ha) (by omega)) (ev_item_dict (ev_name rfl) (ev_nm (ev_ent (i := place) (ev_name rfl) (ev_name rfl) hp (by omega))) (nm_look hnm)) (by simp; omega)) (congrArg PyData.list List.map_append.symm)) (.inl rfl) ?_)
    have hkD : ((List.range (t.length - (place + 1))).map fun j => place + 1 + j).filter (fun k => (en t k).pa == place) = kidsOf t place := rfl
    rw [hkD]
    show Exs _ _ _ _ _ _
    refine exs_cons (ex_if (b := !decide (kidsOf t place = [])) (evT_cmpIs (ev_name rfl) (ev_list evL_nil) (cmp_neD (n := 1) (m := 1) ?_ rfl ?_)) (fun h => ?_) (fun h => exs_nil ?_))
    · simp only [okD, List.all_map, List.all_eq_true]; intro _ _; rfl
    · rw [Bool.not_eq_true', decide_eq_false_iff_not, Ne, PyData.list.injEq, List.map_eq_nil_iff]
    · have hne : kidsOf t place ≠ [] := by simpa using h
      obtain ⟨P0, hP0⟩ : ∃ P0, P0 = (slT ahead ++ nmT (en t place).nm) ++ slT (en t place).sl ++ [Tr.leaf 25 [123]] := ⟨_, rfl⟩
      have hPl : P0.length ≤ 5 := by rw [hP0]; simp; omega
      refine exs_cons (ex_assign (d := .list (P0.map Tr.d)) (ev_cast (ev_add_list (ev_add_list (ev_name rfl) (ev_item_tuple (k := ((en t place).sl : Int)) (ev_name rfl) (ev_sl (ev_ent (i := place) (ev_name rfl) (ev_name rfl) hp (by omega))) (by omega) (slT_get hsl) (by omega)) (by simp; omega)) (ev_tok1 (a := 25) (b := [123]) rfl rfl) (by simp; omega)) ?_) (.inl rfl) ?_)
      · rw [hP0]; simp only [List.map_append, List.map_cons, List.map_nil, leaf_d]; rfl
      show Exs _ _ _ _ _ _
      have hfl : ∀ l : List Nat, (l.flatMap fun k => [mkT t f k 0, Tr.leaf 12 [44]]).length = 2 * l.length := fun l => by
        induction l with
        | nil => rfl
        | cons a l ih => rw [List.flatMap_cons, List.length_append, ih, List.length_cons]; simp; omega
      refine exs_cons (ex_for (fun k σ' => σ'.lookup (Str.ofString "parts") = some (.list ((P0 ++ ((kidsOf t place).take k).flatMap fun k => [mkT t f k 0, Tr.leaf 12 [44]]).map Tr.d)) ∧ σ'.lookup (Str.ofString "table") = some (tblD t)) (evI_list (ev_name rfl)) (.inl rfl) ⟨by simp, rfl⟩ (fun k d σ' hk hJ => ?_) fun σ' hJ => ?_)
      · rw [List.getElem?_map, Option.map_eq_some_iff] at hk
        obtain ⟨q, hq, rfl⟩ := hk
        have hqm := List.mem_of_getElem? hq
        have hg := kids_gt hqm
        have hkk : k < (kidsOf t place).length := (List.getElem?_eq_some_iff.mp hq).1
        have hz : (((kidsOf t place).take k).flatMap fun k => [mkT t f k 0, Tr.leaf 12 [44]]).length ≤ 20 := by rw [hfl]; simp; omega
        refine exs_cons (ex_assign (d := .list ((P0 ++ ((kidsOf t place).take (k + 1)).flatMap fun k => [mkT t f k 0, Tr.leaf 12 [44]]).map Tr.d)) (ev_cast (ev_add_list (ev_name hJ.1) (ev_list (evL_cons (ev_call_def (vG i ⟨rfl, rfl, rfl⟩ rfl g_node) (isDef_K i rfl rfl) (evL_cons (ev_name hJ.2) (evL_cons (ev_name rfl) (evL_cons ev_int evL_nil))) (ih q 0 (by omega) hg.2 (by omega)).to (by omega))
          (evL_cons (ev_tok (a := 12) (b := [44]) ev_int ev_str) evL_nil)) (by simp [size_line])) ?_) ?_) (.inl rfl) (exs_nil ⟨rfl, hJ.2⟩))
        · simp only [List.length_map, List.length_append, List.length_cons, List.length_nil]; omega
        · have ht : (kidsOf t place).take (k + 1) = (kidsOf t place).take k ++ [q] := by rw [List.take_add_one, hq]; rfl
          rw [ht, List.flatMap_append, ← List.append_assoc, List.map_append (l₁ := P0 ++ _), List.flatMap_cons, List.flatMap_nil, List.append_nil, List.map_cons, List.map_cons, List.map_nil, leaf_d]
      · rw [List.length_map, List.take_length] at hJ
        have hz := hfl (kidsOf t place)
        refine exs_cons (ex_assign (d := .list (((P0 ++ (kidsOf t place).flatMap fun k => [mkT t f k 0, Tr.leaf 12 [44]]).dropLast ++ [Tr.leaf 26 [125]]).map Tr.d)) (ev_cast (ev_add_list (ev_slice_butLast (ev_name hJ.1) (ev_neg ev_int) ?_) (ev_tok1 (a := 26) (b := [125]) rfl rfl) ?_) ?_) (.inl rfl) (exs_nil ?_))
        · simp only [List.length_map, List.length_append]; omega
        · simp only [List.length_map, List.length_append, List.length_dropLast, List.length_cons, List.length_nil]; omega
        · rw [List.map_append (l₁ := List.dropLast _), List.map_cons, List.map_nil, leaf_d, List.map_dropLast]
        refine exs_cons (ex_return (ev_tuple (evL_cons ev_int (evL_cons (ev_name rfl) evL_nil)) (by simp [size_line])) ?_)
        rw [← hR, mkT, if_neg hne, Tr.d, trsD_map, ← hP0]
        exact rfl
    · have hne : kidsOf t place = [] := by simpa using h
      refine exs_cons (ex_return (ev_tuple (evL_cons ev_int (evL_cons (ev_name rfl) evL_nil)) (by simp [size_line])) ?_)
      rw [← hR, mkT, if_pos hne, Tr.d, trsD_map]
      exact rfl
end Mine
end

section
open PySem PySem.W PySem.Calls PyProof.Rows PySem.Spec
set_option maxRecDepth 100000
namespace Mine
mutual
-- no list in the datum
noncomputable def noL : PyData → Bool
  | .none => true
  | .bool _ => true
  | .int _ => true
  | .str _ => true
  | .tuple xs => noLs xs
  | _ => false
noncomputable def noLs : List PyData → Bool
  | [] => true
  | x :: xs => noL x && noLs xs
end
section
variable {P : Params} {S S' : Addr → Prop} {h h' : Heap} {D : Addr}
mutual
theorem Rd.off {o : Obj} (ho : h.get? D = some o) (hc : o.cls = .type "list") (hS : ∀ a, S a → S' a ∨ a = D) : ∀ {v : Value} {d : PyData}, Rd P S' h v d → noL d = true → Rd P S h v d
  | _, _, .none, _ => .none
  | _, _, .bool b, _ => .bool b
  | _, _, .int i t, _ => .int i t
  | _, _, .str x t, _ => .str x t
  | _, _, .tstr, e => by simp [tstrD, noL] at e
  | _, _, .tbyt, e => by simp [tbytD, noL] at e
  | _, _, .addr a, e => by simp [addrD, noL] at e
  | _, _, .list _ _ _ _ _, e => by simp [noL] at e
  | _, _, .tuple n g c e r, l => .tuple (fun q => (hS _ q).elim n fun z => by
      subst z
      rw [ho] at g
      cases g
      rw [hc] at c
      exact absurd c (by decide)) g c e (RdAll.off ho hc hS r (by simpa [noL] using l))
  | _, _, .dict _ _ _, e => by simp [noL] at e
theorem RdAll.off {o : Obj} (ho : h.get? D = some o) (hc : o.cls = .type "list") (hS : ∀ a, S a → S' a ∨ a = D) : ∀ {vs : List Value} {ds : List PyData}, RdAll P S' h vs ds → noLs ds = true → RdAll P S h vs ds
  | _, _, .nil, _ => .nil
  | _, _, .cons x r, l => by
    simp only [noLs, Bool.and_eq_true] at l
    exact .cons (Rd.off ho hc hS x l.1) (RdAll.off ho hc hS r l.2)
end
theorem Rd.addr_inv {v : Value} (r : Rd P S h v (addrD D)) : v = .ref D := by
  generalize hd : addrD D = d at r
  cases r <;> try (cases hd; done)
  · simp only [addrD, PyData.dict.injEq, List.cons.injEq, Prod.mk.injEq, PyData.int.injEq, and_true, true_and] at hd
    exact congrArg Value.ref (Int.ofNat.inj hd).symm
  · rename_i hr
    simp only [addrD, PyData.dict.injEq] at hd
    subst hd
    generalize Array.toList _ = es at hr
    nomatch hr
end
section
variable {c : Cx} {env : Env} {n : Nat} {D : Addr} {S S' X Y : Addr → Prop} {σ : List (Str × PyData)} {xs : List PyData} {A : Around} {s s₁ s' : Shared} {E : Value → Shared → Prop} {Φ Ψ : Out → List PyData → Prop}
-- the own list as a list to read
theorem AtO.read {x : Str} (a : AtO c env n D σ xs A S s) (hx : σ.lookup x = some (addrD D)) : AtS c env n (FrA env) ((x, .list xs) :: σ) A (fun b => S b ∧ b ≠ D) s := by
  have f := a.at'.fm.fr
  obtain ⟨vs, ⟨k, ho⟩, r⟩ := a.ls
  obtain ⟨m, ns, hv⟩ := f.names
  refine ⟨a.at'.room, a.toA.good, fun b q => a.at'.sb b q.1, ⟨⟨f.pl, ⟨m, ns, fun y d hy => ?_⟩, f.cells, f.apart, f.loc⟩, fun b q => ⟨a.at'.fm.xs b (.inl q), fun z => a.nf (z ▸ q)⟩, .inl rfl⟩⟩
  rw [List.lookup_cons] at hy
  cases hyx : y == x with
  | true =>
    rw [hyx] at hy
    cases hy
    obtain rfl := beq_iff_eq.mp hyx
    obtain ⟨v, r', q⟩ := hv y _ hx
    obtain rfl := r'.addr_inv
    exact ⟨.ref D, .list (fun z => z.2 rfl) ho rfl rfl (r.less fun _ q => q.1), q⟩
  | false =>
    rw [hyx] at hy
    obtain ⟨v, r', q⟩ := hv y _ hy
    exact ⟨v, r'.less fun _ q => q.1, q⟩
theorem evW_of {e d} (h : Ev c env n σ e d) : EvW c env n D σ xs e d := fun A S s E a => h A S s E a.toA.at
theorem evW_read {x e d} (hx : σ.lookup x = some (addrD D)) (h : Ev c env n ((x, .list xs) :: σ) e d) (hn : noL d = true) : EvW c env n D σ xs e d := fun A S s E a => by
  obtain ⟨vs, ⟨k, ho⟩, _⟩ := a.ls
  refine wpAny_mono (h A _ s E (a.read hx).at) (fun v s₁ q => ⟨q.1, q.2.off (Keeps.h q.1 _ _ ho) rfl (fun b z => ?_) hn⟩) fun _ _ x => x
  by_cases e : b = D
  · exact .inr e
  · exact .inl ⟨z, e⟩
theorem exO_assign {y p e pos d} (he : EvW c env n D σ xs e d) (hy : Own env y) (h : Φ (.next ((y, d) :: σ)) xs) (hs : swapsWith e (some (.Name y p)) pos.line env = pure false := by rfl) : Ex1O c env n D σ xs (.Assign [.Name y p] e pos) Φ := fun A S s E a =>
  wpAny_Assign_Name (wpAny_mono (he A S s E a) (fun v s₁ q => store_at (a.keep q.1).toA q.2 hy.can fun s₂ k kf a₂ => ⟨((KeepS.of q.1).trans k).toO, _, xs, h, (a.keep q.1).back k a₂⟩) fun _ _ x => x) hs
theorem exO_release {x stmts} (hx : σ.lookup x = some (addrD D)) (h : Exs c env n ((x, .list xs) :: σ) stmts (fun o => match o with | .ret d => Φ (.ret d) [] | _ => False)) : ExsO c env n D σ xs stmts Φ := fun A S s E a => by
  refine wpAny_mono (h A _ s E (a.read hx)) (fun f s₁ q => ?_) fun _ _ x => x
  obtain ⟨k, q⟩ := q
  refine ⟨k.toO, ?_⟩
  cases f with
  | next => obtain ⟨_, h', _⟩ := q; exact h'.elim
  | brk => obtain ⟨_, h', _⟩ := q; exact h'.elim
  | cont => obtain ⟨_, h', _⟩ := q; exact h'.elim
  | ret v => obtain ⟨d, h', r⟩ := q; exact ⟨d, h', r⟩
theorem exs_new {Φ : Out → Prop} {x p pl pos rest} (hx : Own env x) (h : ∀ D, ExsO c env n D ((x, addrD D) :: σ) [] rest (fun o _ => match o with | .ret d => Φ (.ret d) | _ => False)) (hs : swapsWith (.List [] pl) (some (.Name x p)) pos.line env = pure false := by rfl) :
    Exs c env n σ (.Assign [.Name x p] (.List [] pl) pos :: rest) Φ := fun A S s E a => by
  refine wpAny_execs_cons (wpAny_Assign_Name (List_ (wpAny_mono (evL_nil A S s E pl a.at) (fun vs s₁ q => ?_) fun _ _ x => x)) hs)
  obtain ⟨k₁, q⟩ := q
  cases q
  refine wpAny_newObj_type ?_ (by show (#[] : Array Value).size ≤ sizeLine; simp)
  have hD : s₁.heap.get? s₁.heap.objs.size = none := get_size_none _
  generalize hDD : s₁.heap.objs.size = D at hD
  have hD0 : s.heap.get? D = none := by
    cases e : s.heap.get? D with
    | none => rfl
    | some o => have := Keeps.h k₁ _ _ e; rw [hD] at this; cases this
  have k₂ : Keeps s { s₁ with heap := s₁.heap.push { cls := .type "list", data := .seq ([] : List Value).toArray } } := Keeps.trans' k₁ (Keeps.push _)
  have hget : (s₁.heap.push { cls := .type "list", data := .seq ([] : List Value).toArray }).get? D = some { cls := .type "list", data := .seq ([] : List Value).toArray } := hDD ▸ Heap.get?_push_size _ rfl
  have nf : ¬ FrA env D := fun q => by obtain ⟨o, ho⟩ := a.sb D (a.fm.xs D q); rw [hD0] at ho; cases ho
  have nS : ¬ S D := fun q => by obtain ⟨o, ho⟩ := a.sb D q; rw [hD0] at ho; cases ho
  have a₂ : AtS c env n (FrA env) σ A (fun b => S b ∨ b = D) { s₁ with heap := s₁.heap.push { cls := .type "list", data := .seq ([] : List Value).toArray } } := by
    refine ⟨a.room, a.good.keepB (Keeps.h k₂).toB, fun b q => ?_, a.fm.move (fun b q => .inl (a.fm.xs b q)) (fun b o nx e => ⟨fun q => q.elim nx fun q => (by rw [q, hD0] at e; cases e), Keeps.h k₂ b o e⟩) (fun o e => Keeps.h k₂ _ _ e) fun _ _ o e => Keeps.h k₂ _ _ e⟩
    rcases q with q | rfl
    · obtain ⟨o, ho⟩ := a.sb b q; exact ⟨o, Keeps.h k₂ _ _ ho⟩
    · exact ⟨_, hget⟩
  refine store_at a₂ (.addr D) hx.can fun s₃ k₃ kf₃ a₃ => ?_
  have hget₃ := k₃.b D _ nf hget
  have kk : KeepS (FrA env) s s₃ := (KeepS.of k₂).trans k₃
  have o₃ : AtO c env n D ((x, addrD D) :: σ) [] A (fun b => S b ∨ b = D) s₃ := by
    refine ⟨⟨a₃.room, ?_, a₃.sb, ⟨a₃.fm.fr, fun b q => q.elim (fun q => .inl (a.fm.xs b q)) .inr, .inl (.inl rfl)⟩⟩, nf, ⟨[], ⟨_, hget₃⟩, .nil⟩⟩
    obtain ⟨h₀, g, z, w⟩ := a.good
    refine ⟨h₀, g, fun b o e => kk.b b o (fun q => by rw [w b q] at e; cases e) (z b o e), fun b q => q.elim (w b) fun q => ?_⟩
    cases e : h₀.get? b with
    | none => rfl
    | some o => have := z b o e; rw [q, hD0] at this; cases this
  refine wpAny_mono (h D A _ s₃ E o₃) (fun f s₄ q => ?_) fun _ _ x => x
  obtain ⟨k₄, q⟩ := q
  refine ⟨?_, ?_⟩
  · obtain ⟨h₃, tk₃, rfl, kb₃⟩ := kk
    obtain ⟨h₄, tk₄, rfl, kb₄⟩ := k₄
    exact ⟨h₄, tk₄, rfl, fun b o nx e => kb₄ b o (fun q => q.elim nx fun q => by rw [q, hD0] at e; cases e) (kb₃ b o nx e)⟩
  · cases f with
    | next => obtain ⟨_, _, h', _⟩ := q; exact h'.elim
    | brk => obtain ⟨_, _, h', _⟩ := q; exact h'.elim
    | cont => obtain ⟨_, _, h', _⟩ := q; exact h'.elim
    | ret v => obtain ⟨d, h', r⟩ := q; exact ⟨d, h', r.less fun b q => ⟨.inl q, fun z => nS (z ▸ q)⟩⟩
theorem exO_append {x px apos e pos spos d} (hx : σ.lookup x = some (addrD D)) (he : EvW c env n D σ xs e d) (hz : xs.length < sizeLine) (h : Φ (.next σ) (xs ++ [d])) (hxd : (x == ("__debug__" : Str)) = false := by decide)
    (hc : eval (.Call (.Attribute (.Name x px) (Str.ofString "append") apos) [e] [] pos) env = (do
      let ov ← eval (.Name x px) env
      standAt apos.atName
      let (f, first) ← holding [ov] (getMethod ov (Str.ofString "append") (do return (← importBound (.Name x px) env).getD true))
      callWith pos f first (backTo pos (starEach [e] env)) []) := by rfl)
    (hs : starEach [e] env = (false, eval e env) :: starEach [] env := by rfl) (hi : interactive env = false := by rfl) (hw : swapsWith (.Call (.Attribute (.Name x px) (Str.ofString "append") apos) [e] [] pos) none spos.line env = pure false := by rfl) :
    Ex1O c env n D σ xs (.Expr (.Call (.Attribute (.Name x px) (Str.ofString "append") apos) [e] [] pos) spos) Φ := fun A S s E a => by
  obtain ⟨v, r, l⟩ := a.toA.fm.fr.binds x _ hx
  obtain rfl := r.addr_inv
  refine wpAny_Expr (MethodCall_ (wpAny_Name (l.here ?_) hxd) hc) hi hw
  obtain ⟨vs, ⟨k, ho⟩, q⟩ := a.ls
  refine getMethod_list_append ho rfl rfl ?_
  refine callWith_method1 ?_ hs
  rw [hs]
  refine spliced_cons (wpAny_mono (he A S s E a) (fun v s₁ p => ?_) fun _ _ x => x)
  refine spliced_nil ?_
  have a₁ := a.keep p.1
  have q₁ := q.keep (Keeps.h p.1)
  show wpAny _ _ (call (.builtin "list.append") [.ref D, v]) _ _ _
  refine wpAny_list_append_plain (items := vs.toArray) ⟨k, Keeps.h p.1 _ _ ho⟩ (fun h' hl hsm => ?_) (by rw [List.size_toArray, q.length]; omega)
  have hD : S D := a.at'.fm.xs D (.inr rfl)
  have kb : KeepB S s₁.heap h' := KeepB.ofSame hsm hD
  have kO : KeepB (FrO env D) s₁.heap h' := KeepB.ofSame hsm (.inr rfl)
  refine ⟨(KeepS.of p.1).trans ⟨h', _, rfl, kO⟩, σ, xs ++ [d], h, ⟨⟨a₁.at'.room, a₁.at'.good.keepB kO, fun b z => ?_, a₁.at'.fm.move a₁.at'.fm.xs (fun b o nx e => ⟨nx, kb b o nx e⟩) (fun o e => (hsm.2 _ fun z => a.nf (.inl z.symm)).trans e) fun p' hp o e => (hsm.2 _ fun z => a.nf (.inr ⟨p', hp, z⟩)).trans e⟩, a.nf, ⟨vs ++ [v], by simpa using hl, (q₁.append (.cons p.2 .nil)).keepB kb⟩⟩⟩
  by_cases e : b = D
  · subst e; obtain ⟨_, ho'⟩ := hl; exact ⟨_, ho'⟩
  · obtain ⟨o, ho'⟩ := a₁.at'.sb b z; exact ⟨o, (hsm.2 b e).trans ho'⟩
end
end Mine
end

section
open PySem PySem.W PySem.Calls PyProof.Rows PySem.Spec
set_option maxRecDepth 100000
namespace Mine
noncomputable def nmOf (k : Nat) : List Nat := ([[97], [98], [46], [46, 46], [46, 46, 46]] : List (List Nat)).getD k []
noncomputable def entOf (y j : Nat) : Ent := ⟨nmOf (y % 5), y / 5 % 3, y / 15 % max 1 j⟩
noncomputable def tabOf (draws : List Nat) : List Ent := draws.zipIdx.map fun p => entOf p.1 p.2
theorem nmOf_get {k : Nat} (h : k < 5) : ([.str (Str.ofString "a"), .str (Str.ofString "b"), .str (Str.ofString "."), .str (Str.ofString ".."), .str (Str.ofString "...")] : List PyData)[k]? = some (.str (st (nmOf k))) := by
  match k, h with
  | 0, _ => rfl
  | 1, _ => rfl
  | 2, _ => rfl
  | 3, _ => rfl
  | 4, _ => rfl

theorem fmod_nat (a b : Nat) : Int.fmod (a : Int) (b : Int) = ((a % b : Nat) : Int) := by rw [Int.fmod_eq_emod_of_nonneg _ (by omega)]; rfl
theorem fdiv_nat (a b : Nat) : Int.fdiv (a : Int) (b : Int) = ((a / b : Nat) : Int) := by rw [Int.fdiv_eq_ediv_of_nonneg _ (by omega)]; rfl
section
variable {c : Cx} {env : Env} {n : Nat} {σ : List (Str × PyData)}
theorem ev_modN {l r pos} {i j : Nat} (h₁ : Ev c env n σ l (.int (i : Int))) (h₂ : Ev c env n σ r (.int (j : Int))) (hj : j ≠ 0) : Ev c env n σ (.BinOp l .Mod r pos) (.int ((i % j : Nat) : Int)) :=
  ev_cast (ev_mod_int h₁ h₂ (by omega)) (congrArg PyData.int (fmod_nat i j))
theorem ev_divN {l r pos} {i j : Nat} (h₁ : Ev c env n σ l (.int (i : Int))) (h₂ : Ev c env n σ r (.int (j : Int))) (hj : j ≠ 0) (hi : i < 1000000) (hb : j < 1000) : Ev c env n σ (.BinOp l .FloorDiv r pos) (.int ((i / j : Nat) : Int)) :=
  ev_cast (ev_fdiv_int h₁ h₂ (by omega) (PyProof.noPylong_small (by omega))) (congrArg PyData.int (fdiv_nat i j))
end
set_option maxHeartbeats 4000000 in
theorem table_calls {c : Cx} (i : Is c) {n : Nat} {draws : List Nat} (hl : draws.length ≤ 10) (hy : ∀ y ∈ draws, y < 37800) : CallsC c (.ref 151) (n + 1) [intsD draws] (tblD (tabOf draws)) := by
  have D := defOk_K (f := 151) i rfl rfl rfl
  refine calls_def (names := [Str.ofString "draws"]) D (by decide) rfl (fun pm cd doc vs h => ?_) fun L cd => ?_
  · obtain ⟨a, rfl⟩ := len1 h; rfl
  clear D
  have hzl : sizeLine = 16777216 := rfl
  refine exs_new (.inl rfl) fun D => ?_
  refine exO_cons (exO_for (fun k σ' xs' => σ'.lookup (Str.ofString "table") = some (addrD D) ∧ xs' = ((tabOf draws).take k).map Ent.d) (evI_list (ev_name rfl)) (.inl rfl) ⟨rfl, rfl⟩ (fun k d σ' xs' hk hJ => ?_) fun σ' xs' hJ => ?_)
  · rw [List.getElem?_map, Option.map_eq_some_iff] at hk
    obtain ⟨y, hq, rfl⟩ := hk
    obtain ⟨hJ1, rfl⟩ := hJ
    have hkk : k < draws.length := (List.getElem?_eq_some_iff.mp hq).1
    have hyy := hy y (List.mem_of_getElem? hq)
    have hlen : (((tabOf draws).take k).map Ent.d).length = k := by simp [tabOf]; omega
    refine exO_cons (exO_append (x := Str.ofString "table") (d := (entOf y k).d) hJ1 (evW_read (x := Str.ofString "table") hJ1 (ev_tuple (evL_cons (ev_item_tuple (k := ((y % 5 : Nat) : Int)) (ev_tuple (evL_cons ev_str (evL_cons ev_str (evL_cons ev_str (evL_cons ev_str (evL_cons ev_str evL_nil)))))) (ev_modN (j := 5) (ev_name rfl) ev_int (by decide)) (by omega) (nmOf_get (Nat.mod_lt _ (by decide))) (by omega))
      (evL_cons (ev_modN (j := 3) (ev_divN (j := 5) (ev_name rfl) ev_int (by decide) (by omega) (by decide)) ev_int (by decide)) (evL_cons (ev_modN (j := max 1 k) (ev_divN (j := 15) (ev_name rfl) ev_int (by decide) (by omega) (by decide)) (ev_maxN (i := 1) (j := k) (vB i ⟨rfl, rfl, rfl⟩ rfl g_max Boot.«max») ev_int (ev_cast (ev_lenN i ⟨rfl, rfl, rfl⟩ rfl (ev_name rfl) (by omega)) (by rw [hlen]))) (by omega)) evL_nil))) (by simp [size_line])) rfl) (by omega) (exO_nil ⟨hJ1, ?_⟩))
    have hg : (tabOf draws)[k]? = some (entOf y k) := by
      rw [tabOf, List.getElem?_map, List.getElem?_zipIdx, hq]; simp
    rw [List.take_add_one, hg, List.map_append]; rfl
  · obtain ⟨hJ1, rfl⟩ := hJ
    refine exO_release hJ1 (exs_cons (ex_return (ev_name rfl) ?_))
    show _ = _
    rw [List.length_map, List.take_of_length_le (by simp [tabOf])]
    rfl
end Mine
end

section
open PySem PySem.W PySem.Calls PyProof.Rows PySem.Spec
set_option maxRecDepth 1000000
namespace Mine
-- the signs of the law's texts
noncomputable def alph : List Nat := [97, 98, 46, 47, 123, 125, 44]
noncomputable def tkN (l : List Nat) : Option Nat := if l = [46] then some 23 else if l = [46, 46, 46] then some 52 else if l = [47] then some 17 else if l = [47, 47] then some 47 else if l = [123] then some 25 else if l = [125] then some 26 else if l = [44] then some 12 else none
noncomputable def wordsN : List (List Nat) := alph.map (fun a => [a]) ++ alph.flatMap (fun a => alph.map fun b => [a, b]) ++ alph.flatMap (fun a => alph.flatMap fun b => alph.map fun c => [a, b, c])
noncomputable def okV : Option Nat → Option (Option Value) → Bool
  | some k, some (some (.int i _)) => i == (k : Int)
  | none, some none => true
  | _, _ => false
noncomputable def kvOf (K : Frag) : List (Value × Value) := match K.lookup 128 with
  | some ⟨_, _, .dict es _, _⟩ => es.toList.map fun e => (e.key, e.val)
  | _ => []
noncomputable def nsKV (kv : List (Value × Value)) (x : Str) : Option (Option Value) := match kv.find? (fun e => e.1.isStr x) with
  | some e => some (some e.2)
  | none => some none
theorem find_kv (x : Str) : ∀ l : List DictEntry, ((l.map fun e => (e.key, e.val)).find? fun e => e.1.isStr x) = (l.find? (·.key.isStr x)).map fun e => (e.key, e.val)
  | [] => rfl
  | e :: l => by
    simp only [List.map_cons, List.find?_cons]
    cases e.key.isStr x with
    | true => rfl
    | false => exact find_kv x l
theorem nsIn_kv {K : Frag} {c dd es m sl} (h : K.lookup 128 = some ⟨c, dd, .dict es m, sl⟩) (hr : es.toList.any (·.refKey) = false) (x : Str) : nsIn K 128 x = nsKV (kvOf K) x := by
  unfold nsIn kvOf
  rw [h]
  dsimp only
  unfold nsKV
  rw [find_kv]
  cases es.toList.find? (·.key.isStr x) with
  | some e => rfl
  | none => simp only [hr]; rfl
noncomputable def P0 : Params := { strHash := fun _ => 0, shareClass := fun _ => 0, mergeTok := id, idOf := fun _ => 0, idOfShared := fun _ _ => 0, followText := fun _ => false, idOfImm := fun _ => 0 }
theorem kv_eq (P : Params) : kvOf (kF P) = kvOf (kF P0) := by rfl
theorem words0 : (wordsN.all fun w => okV (tkN w) (nsKV (kvOf (kF P0)) (st w))) = true := by decide +kernel
theorem nsIn_word (P : Params) {w : List Nat} (hw : w ∈ wordsN) : okV (tkN w) (nsIn (kF P) 128 (st w)) = true := by
  rw [nsIn_kv (K := kF P) rfl rfl, kv_eq]
  exact List.all_eq_true.mp words0 w hw
end Mine
end

section
open PySem PySem.W PySem.Calls PyProof.Rows PySem.Spec
set_option maxRecDepth 100000
namespace Mine
noncomputable def Al (l : List Nat) : Prop := ∀ x ∈ l, x ∈ alph
theorem Al.asc {l : List Nat} (h : Al l) : Asc l := fun x hx => by
  have := h x hx
  simp only [alph, List.mem_cons, List.not_mem_nil, or_false] at this
  omega
theorem Al.take {l : List Nat} (h : Al l) (k : Nat) : Al (l.take k) := fun x hx => h x (List.mem_of_mem_take hx)
theorem Al.drop {l : List Nat} (h : Al l) (k : Nat) : Al (l.drop k) := fun x hx => h x (List.mem_of_mem_drop hx)
theorem mem_words {w : List Nat} (h : Al w) (h0 : w ≠ []) (hl : w.length ≤ 3) : w ∈ wordsN := by
  match w, h, h0, hl with
  | [a], h, _, _ => exact List.mem_append_left _ (List.mem_append_left _ (List.mem_map.mpr ⟨a, h a (by simp), rfl⟩))
  | [a, b], h, _, _ => exact List.mem_append_left _ (List.mem_append_right _ (List.mem_flatMap.mpr ⟨a, h a (by simp), List.mem_map.mpr ⟨b, h b (by simp), rfl⟩⟩))
  | [a, b, c], h, _, _ => exact List.mem_append_right _ (List.mem_flatMap.mpr ⟨a, h a (by simp), List.mem_flatMap.mpr ⟨b, h b (by simp), List.mem_map.mpr ⟨c, h c (by simp), rfl⟩⟩⟩)
  | _ :: _ :: _ :: _ :: _, _, _, hl => simp at hl
noncomputable def step1 (rest : List Nat) : Nat × List Nat := match ([3, 2, 1] : List Nat).filter fun k => (tkN (rest.take k)).isSome with
  | k :: _ => ((tkN (rest.take k)).getD 0, rest.take k)
  | [] => (1, rest.take 1)
noncomputable def readN : Nat → List Nat → List (Nat × List Nat)
  | 0, _ => []
  | f + 1, rest => if rest = [] then [] else step1 rest :: readN f (rest.drop (step1 rest).2.length)
section
variable {P : Params}
theorem g_exact : nsIn (kF P) mainGlobals (Str.ofString "EXACT_TOKEN_TYPES") = some (some (.ref 128)) := by rfl
end
section
variable {c : Cx} {env : Env} {n : Nat} {σ : List (Str × PyData)}
theorem ev_addr {x pos} {a : Addr} (h : EvV c env n σ (.Name x pos) (.ref a)) : Ev c env n σ (.Name x pos) (addrD a) := fun A S s E at' =>
  wpAny_mono (h A S s E at') (fun v s' p => by obtain ⟨rfl, rfl⟩ := p; exact ⟨Keeps.refl', .addr _⟩) fun _ _ x => x
theorem map128 (i : Is c) {h : Heap} (g : c.Good h) : ∃ es, h.MapOf (strKind c.prog c.w) 128 (fun k => findBy Value.isStrOf es k) ∧ ∀ {x : Str} {r : Option Value}, nsIn (kF c.w.params) 128 x = some r → findBy Value.isStrOf es x = r := by
  have hl : ∃ es m, (kF c.w.params).lookup 128 = some ⟨.type "dict", none, .dict es m, #[]⟩ ∧ KeysLit c.w.params es.toList := by
    refine ⟨_, _, rfl, ?_⟩
    repeat first | exact ⟨⟨_, _, rfl, rfl⟩, ?_⟩ | exact trivial | refine ⟨⟨_, _, rfl, rfl⟩, ?_⟩
  obtain ⟨es, m, hl, hk⟩ := hl
  exact ⟨es, mapOf_K (prog := c.prog) (i.hK ▸ g.K) hl hk, fun e => find_K hl e⟩
theorem evT_in128 {l r pos} {w : List Nat} (i : Is c) (h₁ : Ev c env n σ l (.str (st w))) (h₂ : Ev c env n σ r (addrD 128)) (hw : w ∈ wordsN) (hm : behindInMarks .In r = false := by with_unfolding_all rfl) : EvT c env n σ (.Compare l [.In] [r] pos) (tkN w).isSome :=
  evT_cmp h₁ h₂ (fun A S s E v₁ v₂ a r₁ r₂ => by
    obtain ⟨t, rfl⟩ := r₁.str_inv
    obtain rfl := r₂.addr_inv
    obtain ⟨es, hmp, hf⟩ := map128 i a.good
    have hok := nsIn_word c.w.params hw
    refine wpAny_in_of (strKind_is c.prog c.w (st w) t) rfl hmp ⟨?_, Keeps.tok _⟩
    cases hn : nsIn (kF c.w.params) 128 (st w) with
    | none => rw [hn] at hok; cases h : tkN w <;> rw [h] at hok <;> simp [okV] at hok
    | some v =>
      rw [hf hn]
      rw [hn] at hok
      cases v with
      | none => cases h : tkN w <;> rw [h] at hok <;> simp [okV] at hok ⊢
      | some v => cases h : tkN w <;> rw [h] at hok <;> simp [okV] at hok ⊢) hm
theorem ev_item128 {value slice pos} {w : List Nat} {k : Nat} (i : Is c) (h₁ : Ev c env n σ value (addrD 128)) (h₂ : Ev c env n σ slice (.str (st w))) (hw : w ∈ wordsN) (hk : tkN w = some k)
    (hs : ∀ o i, subscripted slice false o i = operate [o, i] (getItem o i) := by intro _ _; rfl) : Ev c env n σ (.Subscript value slice pos) (.int (k : Int)) :=
  ev_sub h₁ h₂ fun A S s E v₁ v₂ a r₁ r₂ => by
    obtain rfl := r₁.addr_inv
    obtain ⟨u, rfl⟩ := r₂.str_inv
    obtain ⟨es, hmp, hf⟩ := map128 i a.good
    have hok := nsIn_word c.w.params hw
    rw [hk] at hok
    cases hn : nsIn (kF c.w.params) 128 (st w) with
    | none => rw [hn] at hok; simp [okV] at hok
    | some v =>
      rw [hn] at hok
      cases v with
      | none => simp [okV] at hok
      | some v =>
        cases v <;> try (simp [okV] at hok; done)
        rename_i j t
        simp only [okV, beq_iff_eq] at hok
        subst hok
        exact tail_any hmp.typeIs slot_dict_getitem.lookup (wpAny_getItem_of (strKind_is c.prog c.w (st w) u) hmp (hf hn) ⟨Keeps.tok _, .int _ _⟩) (hs _ _)
end
end Mine
end

section
open PySem PySem.W PySem.Calls PyProof.Rows PySem.Spec
set_option maxRecDepth 100000
namespace Mine
theorem step1_facts {rest : List Nat} (h : rest ≠ []) : 1 ≤ (step1 rest).2.length ∧ (step1 rest).2.length ≤ rest.length := by
  have h1 : 1 ≤ rest.length := List.length_pos_iff.mpr h
  unfold step1
  split
  · rename_i k l hk
    have := (List.mem_filter.mp (hk ▸ List.mem_cons_self : k ∈ _)).1
    simp only [List.mem_cons, List.not_mem_nil, or_false] at this
    simp; omega
  · simp; omega
set_option maxHeartbeats 4000000 in
theorem read_calls {c : Cx} (i : Is c) {n : Nat} {text : List Nat} (ht : Al text) (hl : text.length ≤ 1000) : CallsC c (.ref 166) (n + 1) [.str (st text)] (leavesD (readN text.length text)) := by
  have D := defOk_K (f := 166) i rfl rfl rfl
  refine calls_def (names := [Str.ofString "text"]) D (by decide) rfl (fun pm cd doc vs h => ?_) fun L cd => ?_
  · obtain ⟨a, rfl⟩ := len1 h; rfl
  clear D
  have hzl : sizeLine = 16777216 := rfl
  refine exs_new (.inl rfl) fun D => ?_
  refine exO_cons (exO_assign (evW_of (ev_name rfl)) (.inr ⟨rfl, ⟨_, rfl⟩⟩) ?_)
  refine exO_cons (exO_while (fun m σ' xs' => ∃ rest done f, m = rest.length ∧ rest.length ≤ f ∧ σ'.lookup (Str.ofString "rest") = some (.str (st rest)) ∧ σ'.lookup (Str.ofString "read") = some (addrD D) ∧ xs' = done.map leafD ∧ done ++ readN f rest = readN text.length text ∧ Al rest ∧ done.length + rest.length ≤ 1000) text.length
    ⟨text, [], text.length, rfl, Nat.le_refl _, rfl, rfl, rfl, rfl, ht, by simpa using hl⟩ ?_)
  rintro m σ' xs' ⟨rest, done, f, rfl, hf, hr, hD, rfl, hR, hA, hz⟩
  refine ⟨decide (rest ≠ []), evT_cmpIs (ev_name hr) ev_str (cmp_neD (n := 0) (m := 0) (e := .str (st [])) (strOk_st hA.asc) (strOk_st (l := []) fun _ h => nomatch h) ?_), fun h => ?_, fun h => ?_⟩
  · rw [decide_eq_true_iff, Ne, Ne, PyData.str.injEq]
    exact ⟨fun h q => h (st_inj q), fun h q => h (q ▸ rfl)⟩
  · have hne : rest ≠ [] := of_decide_eq_true h
    have hlp : 1 ≤ rest.length := List.length_pos_iff.mpr hne
    have hs1 := step1_facts hne
    have hw : ∀ k ∈ ([3, 2, 1] : List Nat), rest.take k ∈ wordsN := fun k hk => by
      simp only [List.mem_cons, List.not_mem_nil, or_false] at hk
      refine mem_words (hA.take k) ?_ (by simp; omega)
      intro q
      rcases List.take_eq_nil_iff.mp q with q | q
      · omega
      · exact hne q
    obtain ⟨f', rfl⟩ : ∃ f', f = f' + 1 := ⟨f - 1, by omega⟩
    have hstep : done ++ [step1 rest] ++ readN f' (rest.drop (step1 rest).2.length) = readN text.length text := by
      rw [← hR, readN, if_neg hne]; simp
    have hsl : ([3, 2, 1] : List Nat).map (fun (k : Nat) => PyData.int (k : Int)) = [.int 3, .int 2, .int 1] := rfl
    refine exO_cons (exO_lift (ex_assign_comp (ds := ([3, 2, 1] : List Nat)) (dt := fun (k : Nat) => .int (k : Int)) (p := fun k => (tkN (rest.take k)).isSome) (f := fun k => .str (st (rest.take k)))
      (comp_name _ [(Str.ofString "rest", .str (st rest))] (evI_tuple (ev_tuple (evL_cons ev_int (evL_cons ev_int (evL_cons ev_int evL_nil))))) (by decide) rfl (cap_cons hr rfl rfl (fun _ => rfl) cap_nil) (.inl rfl) rfl (by simp [size_line])
        (fun C k hk => evTs_one (evT_in128 i (ev_uptoS (ev_name rfl) (ev_name rfl) (by omega)) (ev_addr (vG i ⟨rfl, rfl, rfl⟩ rfl g_exact)) (hw k hk))) fun C k hk _ => ev_uptoS (ev_name rfl) (ev_name rfl) (by omega)) (.inl rfl) ?_))
    show ExsO _ _ _ _ _ _ _ _
    cases hF : ([3, 2, 1] : List Nat).filter fun k => (tkN (rest.take k)).isSome with
    | nil =>
      have hst : step1 rest = (1, rest.take 1) := by unfold step1; rw [hF]
      refine exO_cons (exO_if (b := false) (evT_cmpIs (ev_name rfl) (ev_list evL_nil) (cmp_neD (n := 1) (m := 1) rfl rfl (by simp))) (fun h => nomatch h) (fun _ => ?_))
      refine exO_cons (exO_append (x := Str.ofString "read") (d := leafD (step1 rest)) hD (evW_of (ev_cast (ev_tuple (evL_cons ev_int (evL_cons (ev_uptoS (k := 1) (ev_name hr) ev_int (by omega)) evL_nil)) (by simp [size_line])) (by rw [hst]; rfl))) (by simp; omega) (exO_nil ?_))
      refine exO_cons (exO_assign (d := .str (st (rest.drop (step1 rest).2.length))) (evW_read (x := Str.ofString "read") hD (ev_fromS (ev_name hr) (ev_cast (ev_len_str (vB i ⟨rfl, rfl, rfl⟩ rfl g_len Boot.«len») (ev_item_tuple (k := 1) (xs := [.int ((step1 rest).1 : Int), .str (st (step1 rest).2)]) (ev_item_last (ev_name rfl) (ev_neg ev_int) (by rw [List.getLast?_append]; rfl)) ev_int (by decide) rfl (by decide)) (by rw [st_len]; omega)) (by rw [st_len])) hs1.2 (by omega)) rfl) (.inr ⟨rfl, ⟨_, rfl⟩⟩) (exO_nil ?_))
      exact ⟨_, by simp; omega, rest.drop (step1 rest).2.length, done ++ [step1 rest], f', rfl, by simp; omega, rfl, hD, by simp, hstep, hA.drop _, by simp; omega⟩
    | cons k l =>
      have hkm : k ∈ ([3, 2, 1] : List Nat).filter fun k => (tkN (rest.take k)).isSome := by rw [hF]; exact List.mem_cons_self
      obtain ⟨hk1, hk2⟩ := List.mem_filter.mp hkm
      obtain ⟨v, hv⟩ := Option.isSome_iff_exists.mp hk2
      have hst : step1 rest = (v, rest.take k) := by unfold step1; rw [hF]; simp only [hv, Option.getD_some]
      refine exO_cons (exO_if (b := true) (evT_cmpIs (ev_name rfl) (ev_list evL_nil) (cmp_neD (n := 1) (m := 1) ?_ rfl (by simp))) (fun _ => ?_) (fun h => nomatch h))
      · simp only [okD, List.all_map, List.all_eq_true]
        intro j hj
        exact strOk_st (hA.take _).asc
      refine exO_cons (exO_append (x := Str.ofString "read") (d := leafD (step1 rest)) hD (evW_of (ev_cast (ev_tuple (evL_cons (ev_item128 i (w := rest.take k) (k := v) (ev_addr (vG i ⟨rfl, rfl, rfl⟩ rfl g_exact)) (ev_item_list (k := 0) (ev_name rfl) ev_int (by decide) rfl (by decide)) (hw k hk1) hv) (evL_cons (ev_item_list (k := 0) (ev_name rfl) ev_int (by decide) rfl (by decide)) evL_nil)) (by simp [size_line])) (by rw [hst]; rfl))) (by simp; omega) (exO_nil ?_))
      refine exO_cons (exO_assign (d := .str (st (rest.drop (step1 rest).2.length))) (evW_read (x := Str.ofString "read") hD (ev_fromS (ev_name hr) (ev_cast (ev_len_str (vB i ⟨rfl, rfl, rfl⟩ rfl g_len Boot.«len») (ev_item_tuple (k := 1) (xs := [.int ((step1 rest).1 : Int), .str (st (step1 rest).2)]) (ev_item_last (ev_name rfl) (ev_neg ev_int) (by rw [List.getLast?_append]; rfl)) ev_int (by decide) rfl (by decide)) (by rw [st_len]; omega)) (by rw [st_len])) hs1.2 (by omega)) rfl) (.inr ⟨rfl, ⟨_, rfl⟩⟩) (exO_nil ?_))
      exact ⟨_, by simp; omega, rest.drop (step1 rest).2.length, done ++ [step1 rest], f', rfl, by simp; omega, rfl, hD, by simp, hstep, hA.drop _, by simp; omega⟩
  · have h0 : rest = [] := by simpa using h
    subst h0
    refine exO_release hD (exs_cons (ex_return (ev_name rfl) ?_))
    have : readN f [] = [] := by cases f <;> simp [readN]
    rw [this, List.append_nil] at hR
    rw [hR]
    exact rfl
end Mine
end

section
open PySem PySem.W PySem.Calls PyProof.Rows PySem.Spec PySem.MeetsSeq PySem.SeqAt PySem.MeetsSeq2 PySem.MeetsSeq3 PySem.SeqRoads2
open PySem.AutoSeq1 (wpAny_loadPart')
set_option maxRecDepth 100000
namespace Mine

theorem lt_loop (l b : Addr) (items items2 : Array Value) (n n2 : Nat) (dd dd2 : Option Addr) (sl sl2 : Array (Option Value)) (e f res : Nat → Bool)
    (hres : ∀ i, res i = if i < items.size ∧ i < items2.size then (if e i then res (i + 1) else f i) else decide (items.size < items2.size)) (k : Nat) :
    ∀ i : Nat, min items.size items2.size - i = k → i ≤ min items.size items2.size → Meets (Builtin.«list.__eq__.loop» ⟨[.ref l, .ref b, rawInt i, rawInt 0], []⟩)
      (fun A R s => s.heap.get? l = some { cls := .type "list", dict := dd, data := .seq items n, slots := sl } ∧ s.heap.get? b = some { cls := .type "list", dict := dd2, data := .seq items2 n2, slots := sl2 } ∧
        (∀ j (h1 : j < items.size) (h2 : j < items2.size), EqAt A.in1 s items[j] items2[j] (e j)) ∧
        (∀ j (h1 : j < items.size) (h2 : j < items2.size) (prog : Program) (w : World) (E : Value → Shared → Prop) (Q : Value → Shared → Prop), Q (.bool (f j)) s → wpAny (model prog w) A.in1 (richCompare .Lt items[j] items2[j]) Q E s) ∧
        R (.ok (.ret (.bool (res i)))) s) := by
  induction k with
  | zero =>
    intro i hk hle prog w A R s h
    obtain ⟨hp, g, d, tk, os⟩ := s; obtain ⟨hl, hb, he, hf, h⟩ := h
    wp_walk using wpAny_loadPart' hl, wpAny_loadPart' hb
    have hn : ¬ (i < items.size ∧ i < items2.size) := by omega
    rw [hres, if_neg hn] at h
    have key : ∀ {Q : PySem.Fin → Shared → Prop} {E : Value → Shared → Prop} {x y : Option Value} {T : Value → Value → Sem PySem.Fin} {F : Sem PySem.Fin} {s : Shared}, (x = none ∨ y = none) → wpAny (model prog w) A.in1 F Q E s → wpAny (model prog w) A.in1 (match (x, y) with | (some a, some b) => T a b | _ => F) Q E s := by
      intro Q E x y T F s hxy hq
      cases x with
      | none => exact hq
      | some a => cases y with
        | none => exact hq
        | some b => rcases hxy with h | h <;> cases h
    have hxy : items[((i : Nat) : Int).toNat]? = none ∨ items2[((i : Nat) : Int).toNat]? = none := by
      simp only [Int.toNat_natCast, Array.getElem?_eq_none_iff]; omega
    rcases hxy with hi1 | hi2
    · rw [hi1]
      wp_walk using wpAny_loadPart' hl, wpAny_loadPart' hb
      show R (.ok (.ret (.bool (decide (items.size < items2.size))))) _
      exact h
    · rw [hi2]
      cases hi1 : items[((i : Nat) : Int).toNat]? with
      | none =>
        wp_walk using wpAny_loadPart' hl, wpAny_loadPart' hb
        show R (.ok (.ret (.bool (decide (items.size < items2.size))))) _
        exact h
      | some v =>
        wp_walk using wpAny_loadPart' hl, wpAny_loadPart' hb
        show R (.ok (.ret (.bool (decide (items.size < items2.size))))) _
        exact h
  | succ k ih =>
    intro i hk hle prog w A R s h
    obtain ⟨hp, g, d, tk, os⟩ := s; obtain ⟨hl, hb, he, hf, h⟩ := h
    wp_walk using wpAny_loadPart' hl, wpAny_loadPart' hb
    have hlt : i < items.size := by omega
    have hlt2 : i < items2.size := by omega
    have hi1 : items[((i : Nat) : Int).toNat]? = some items[i] := by simp [hlt]
    have hi2 : items2[((i : Nat) : Int).toNat]? = some items2[i] := by simp [hlt2]
    have hc : ((i : Int) + 1) = ((i + 1 : Nat) : Int) := by push_cast; rfl
    rw [hres, if_pos ⟨hlt, hlt2⟩] at h
    rw [hi1, hi2]
    refine wpAny_bind (he i hlt hlt2 prog w _ _ ?_)
    cases hb' : e i with
    | true =>
      rw [hb', if_pos rfl] at h
      wp_walk
      rw [hc]
      exact ⟨plainId_quiet plain_eq_loop _, codeAny_builtin entry_eq_loop (by
        rw [Around.under_plainId plain_eq_loop _]
        exact ih (i + 1) (by omega) (by omega) prog w A R _ ⟨hl, hb, he, hf, h⟩)⟩
    | false =>
      rw [hb', if_neg (by decide)] at h
      wp_walk using wpAny_loadPart' hl, wpAny_loadPart' hb
      rw [hi1, hi2]
      refine wpAny_bind (hf i hlt hlt2 prog w _ _ ?_)
      wp_walk
      exact h

theorem lt_at (l b : Addr) (items items2 : Array Value) (n n2 : Nat) (dd dd2 : Option Addr) (sl sl2 : Array (Option Value)) (e f res : Nat → Bool)
    (hres : ∀ i, res i = if i < items.size ∧ i < items2.size then (if e i then res (i + 1) else f i) else decide (items.size < items2.size)) :
    Meets (Builtin.«list.__lt__» ⟨[.ref l, .ref b], []⟩)
      (fun A R s => s.heap.get? l = some { cls := .type "list", dict := dd, data := .seq items n, slots := sl } ∧ s.heap.get? b = some { cls := .type "list", dict := dd2, data := .seq items2 n2, slots := sl2 } ∧
        (∀ j (h1 : j < items.size) (h2 : j < items2.size), EqAt A.in1 s items[j] items2[j] (e j)) ∧
        (∀ j (h1 : j < items.size) (h2 : j < items2.size) (prog : Program) (w : World) (E : Value → Shared → Prop) (Q : Value → Shared → Prop), Q (.bool (f j)) s → wpAny (model prog w) A.in1 (richCompare .Lt items[j] items2[j]) Q E s) ∧
        R (.ok (.ret (.bool (res 0)))) s) := by
  intro prog w A R s h
  obtain ⟨hp, g, d, tk, os⟩ := s; obtain ⟨hl, hb, he, hf, h⟩ := h
  have f3 := AutoSeq1.sub_list_list
  wp_walk using wpAny_loadPart' hl, wpAny_loadPart' hb
  exact ⟨plainId_quiet plain_eq_loop _, codeAny_builtin entry_eq_loop (by
    rw [Around.under_plainId plain_eq_loop _]
    exact lt_loop l b items items2 n n2 dd dd2 sl sl2 e f res hres _ 0 rfl (Nat.zero_le _) prog w A R _ ⟨hl, hb, he, hf, h⟩)⟩

theorem gt_loop (l b : Addr) (items items2 : Array Value) (n n2 : Nat) (dd dd2 : Option Addr) (sl sl2 : Array (Option Value)) (e f res : Nat → Bool)
    (hres : ∀ i, res i = if i < items.size ∧ i < items2.size then (if e i then res (i + 1) else f i) else decide (items.size > items2.size)) (k : Nat) :
    ∀ i : Nat, min items.size items2.size - i = k → i ≤ min items.size items2.size → Meets (Builtin.«list.__eq__.loop» ⟨[.ref l, .ref b, rawInt i, rawInt 4], []⟩)
      (fun A R s => s.heap.get? l = some { cls := .type "list", dict := dd, data := .seq items n, slots := sl } ∧ s.heap.get? b = some { cls := .type "list", dict := dd2, data := .seq items2 n2, slots := sl2 } ∧
        (∀ j (h1 : j < items.size) (h2 : j < items2.size), EqAt A.in1 s items[j] items2[j] (e j)) ∧
        (∀ j (h1 : j < items.size) (h2 : j < items2.size) (prog : Program) (w : World) (E : Value → Shared → Prop) (Q : Value → Shared → Prop), Q (.bool (f j)) s → wpAny (model prog w) A.in1 (richCompare .Gt items[j] items2[j]) Q E s) ∧
        R (.ok (.ret (.bool (res i)))) s) := by
  induction k with
  | zero =>
    intro i hk hle prog w A R s h
    obtain ⟨hp, g, d, tk, os⟩ := s; obtain ⟨hl, hb, he, hf, h⟩ := h
    wp_walk using wpAny_loadPart' hl, wpAny_loadPart' hb
    have hn : ¬ (i < items.size ∧ i < items2.size) := by omega
    rw [hres, if_neg hn] at h
    have key : ∀ {Q : PySem.Fin → Shared → Prop} {E : Value → Shared → Prop} {x y : Option Value} {T : Value → Value → Sem PySem.Fin} {F : Sem PySem.Fin} {s : Shared}, (x = none ∨ y = none) → wpAny (model prog w) A.in1 F Q E s → wpAny (model prog w) A.in1 (match (x, y) with | (some a, some b) => T a b | _ => F) Q E s := by
      intro Q E x y T F s hxy hq
      cases x with
      | none => exact hq
      | some a => cases y with
        | none => exact hq
        | some b => rcases hxy with h | h <;> cases h
    have hxy : items[((i : Nat) : Int).toNat]? = none ∨ items2[((i : Nat) : Int).toNat]? = none := by
      simp only [Int.toNat_natCast, Array.getElem?_eq_none_iff]; omega
    rcases hxy with hi1 | hi2
    · rw [hi1]
      wp_walk using wpAny_loadPart' hl, wpAny_loadPart' hb
      show R (.ok (.ret (.bool (decide (items.size > items2.size))))) _
      exact h
    · rw [hi2]
      cases hi1 : items[((i : Nat) : Int).toNat]? with
      | none =>
        wp_walk using wpAny_loadPart' hl, wpAny_loadPart' hb
        show R (.ok (.ret (.bool (decide (items.size > items2.size))))) _
        exact h
      | some v =>
        wp_walk using wpAny_loadPart' hl, wpAny_loadPart' hb
        show R (.ok (.ret (.bool (decide (items.size > items2.size))))) _
        exact h
  | succ k ih =>
    intro i hk hle prog w A R s h
    obtain ⟨hp, g, d, tk, os⟩ := s; obtain ⟨hl, hb, he, hf, h⟩ := h
    wp_walk using wpAny_loadPart' hl, wpAny_loadPart' hb
    have hlt : i < items.size := by omega
    have hlt2 : i < items2.size := by omega
    have hi1 : items[((i : Nat) : Int).toNat]? = some items[i] := by simp [hlt]
    have hi2 : items2[((i : Nat) : Int).toNat]? = some items2[i] := by simp [hlt2]
    have hc : ((i : Int) + 1) = ((i + 1 : Nat) : Int) := by push_cast; rfl
    rw [hres, if_pos ⟨hlt, hlt2⟩] at h
    rw [hi1, hi2]
    refine wpAny_bind (he i hlt hlt2 prog w _ _ ?_)
    cases hb' : e i with
    | true =>
      rw [hb', if_pos rfl] at h
      wp_walk
      rw [hc]
      exact ⟨plainId_quiet plain_eq_loop _, codeAny_builtin entry_eq_loop (by
        rw [Around.under_plainId plain_eq_loop _]
        exact ih (i + 1) (by omega) (by omega) prog w A R _ ⟨hl, hb, he, hf, h⟩)⟩
    | false =>
      rw [hb', if_neg (by decide)] at h
      wp_walk using wpAny_loadPart' hl, wpAny_loadPart' hb
      rw [hi1, hi2]
      refine wpAny_bind (hf i hlt hlt2 prog w _ _ ?_)
      wp_walk
      exact h

theorem gt_at (l b : Addr) (items items2 : Array Value) (n n2 : Nat) (dd dd2 : Option Addr) (sl sl2 : Array (Option Value)) (e f res : Nat → Bool)
    (hres : ∀ i, res i = if i < items.size ∧ i < items2.size then (if e i then res (i + 1) else f i) else decide (items.size > items2.size)) :
    Meets (Builtin.«list.__gt__» ⟨[.ref l, .ref b], []⟩)
      (fun A R s => s.heap.get? l = some { cls := .type "list", dict := dd, data := .seq items n, slots := sl } ∧ s.heap.get? b = some { cls := .type "list", dict := dd2, data := .seq items2 n2, slots := sl2 } ∧
        (∀ j (h1 : j < items.size) (h2 : j < items2.size), EqAt A.in1 s items[j] items2[j] (e j)) ∧
        (∀ j (h1 : j < items.size) (h2 : j < items2.size) (prog : Program) (w : World) (E : Value → Shared → Prop) (Q : Value → Shared → Prop), Q (.bool (f j)) s → wpAny (model prog w) A.in1 (richCompare .Gt items[j] items2[j]) Q E s) ∧
        R (.ok (.ret (.bool (res 0)))) s) := by
  intro prog w A R s h
  obtain ⟨hp, g, d, tk, os⟩ := s; obtain ⟨hl, hb, he, hf, h⟩ := h
  have f3 := AutoSeq1.sub_list_list
  wp_walk using wpAny_loadPart' hl, wpAny_loadPart' hb
  exact ⟨plainId_quiet plain_eq_loop _, codeAny_builtin entry_eq_loop (by
    rw [Around.under_plainId plain_eq_loop _]
    exact gt_loop l b items items2 n n2 dd dd2 sl sl2 e f res hres _ 0 rfl (Nat.zero_le _) prog w A R _ ⟨hl, hb, he, hf, h⟩)⟩
end Mine
end

section
open PySem PySem.W PySem.Calls PyProof.Rows PySem.Spec PySem.SeqAt
set_option maxRecDepth 100000
namespace Mine
noncomputable def kindS : PyData → Nat
  | .int _ => 1
  | .str _ => 2
  | _ => 0
noncomputable def ltS : PyData → PyData → Bool
  | .int i, .int j => decide (i < j)
  | .str x, .str y => decide (x.cps.toList < y.cps.toList)
  | _, _ => false
noncomputable def eqS : PyData → PyData → Bool
  | .int i, .int j => i == j
  | .str x, .str y => x == y
  | _, _ => false
theorem eqS_comm (d e : PyData) : eqS d e = eqS e d := by
  cases d <;> cases e <;> simp only [eqS] <;> exact BEq.comm
noncomputable def lexL : List PyData → List PyData → Bool
  | [], [] => false
  | [], _ :: _ => true
  | _ :: _, [] => false
  | x :: xs, y :: ys => if eqS x y then lexL xs ys else ltS x y
theorem lexL_res (xs ys : List PyData) (i : Nat) (h : i < xs.length ∧ i < ys.length) : lexL (xs.drop i) (ys.drop i) = if eqS (xs.getD i .none) (ys.getD i .none) then lexL (xs.drop (i + 1)) (ys.drop (i + 1)) else ltS (xs.getD i .none) (ys.getD i .none) := by
  rw [List.drop_eq_getElem_cons h.1, List.drop_eq_getElem_cons h.2, lexL]
  simp [h.1, h.2]
theorem lexL_end (xs ys : List PyData) (i : Nat) (h : i ≤ min xs.length ys.length) (hn : ¬ (i < xs.length ∧ i < ys.length)) : lexL (xs.drop i) (ys.drop i) = decide (xs.length < ys.length) := by
  by_cases h1 : i < xs.length
  · have h2 : ys.length ≤ i := by omega
    rw [List.drop_eq_getElem_cons h1, List.drop_of_length_le h2, lexL]
    simp; omega
  · rw [List.drop_of_length_le (by omega)]
    by_cases h2 : i < ys.length
    · rw [List.drop_eq_getElem_cons h2, lexL]; simp; omega
    · rw [List.drop_of_length_le (by omega), lexL]; simp; omega
section
variable {c : Cx} {A : Around} {S : Addr → Prop} {s : Shared} {E : Value → Shared → Prop}
theorem eqAt_S {P : Params} {v w : Value} {d e : PyData} {k : Nat} (hk : k ≠ 0) (r₁ : Rd P S s.heap v d) (r₂ : Rd P S s.heap w e) (h₁ : kindS d = k) (h₂ : kindS e = k) : EqAt A s v w (eqS d e) := by
  cases d <;> simp only [kindS] at h₁ <;> try (exact absurd h₁.symm hk)
  · obtain ⟨t, rfl⟩ := r₁.int_inv
    cases e <;> simp only [kindS] at h₂ <;> try omega
    obtain ⟨u, rfl⟩ := r₂.int_inv
    exact EqAt.int_int _ _ _ _
  · obtain ⟨t, rfl⟩ := r₁.str_inv
    cases e <;> simp only [kindS] at h₂ <;> try omega
    obtain ⟨u, rfl⟩ := r₂.str_inv
    exact EqAt.str_str _ _ _ _
theorem ltAt_S {P : Params} {v w : Value} {d e : PyData} {k : Nat} (hk : k ≠ 0) (r₁ : Rd P S s.heap v d) (r₂ : Rd P S s.heap w e) (h₁ : kindS d = k) (h₂ : kindS e = k) (prog : Program) (w' : World) (E : Value → Shared → Prop) (Q : Value → Shared → Prop) (hq : Q (.bool (ltS d e)) s) :
    wpAny (model prog w') A (richCompare .Lt v w) Q E s := by
  cases d <;> simp only [kindS] at h₁ <;> try (exact absurd h₁.symm hk)
  · obtain ⟨t, rfl⟩ := r₁.int_inv
    cases e <;> simp only [kindS] at h₂ <;> try omega
    obtain ⟨u, rfl⟩ := r₂.int_inv
    exact PyProof.Rows.lt_int hq
  · obtain ⟨t, rfl⟩ := r₁.str_inv
    cases e <;> simp only [kindS] at h₂ <;> try omega
    obtain ⟨u, rfl⟩ := r₂.str_inv
    exact PyProof.Rows.lt_str hq
theorem gtAt_S {P : Params} {v w : Value} {d e : PyData} {k : Nat} (hk : k ≠ 0) (r₁ : Rd P S s.heap v d) (r₂ : Rd P S s.heap w e) (h₁ : kindS d = k) (h₂ : kindS e = k) (prog : Program) (w' : World) (E : Value → Shared → Prop) (Q : Value → Shared → Prop) (hq : Q (.bool (ltS e d)) s) :
    wpAny (model prog w') A (richCompare .Gt v w) Q E s := by
  cases d <;> simp only [kindS] at h₁ <;> try (exact absurd h₁.symm hk)
  · obtain ⟨t, rfl⟩ := r₁.int_inv
    cases e <;> simp only [kindS] at h₂ <;> try omega
    obtain ⟨u, rfl⟩ := r₂.int_inv
    exact PyProof.Rows.gt_int hq
  · obtain ⟨t, rfl⟩ := r₁.str_inv
    cases e <;> simp only [kindS] at h₂ <;> try omega
    obtain ⟨u, rfl⟩ := r₂.str_inv
    exact PySem.P.gt_str hq
theorem RdAll.at {P : Params} {h : Heap} {vs : List Value} {ds : List PyData} (r : RdAll P S h vs ds) {j : Nat} (hj : j < vs.toArray.size) : Rd P S h vs.toArray[j] (ds.getD j .none) ∧ ds.getD j .none ∈ ds := by
  have hl := r.length
  simp only [List.size_toArray] at hj
  obtain ⟨v, hv, rv⟩ := r.get (i := j) (d := ds.getD j .none) (by simp [show j < ds.length by omega])
  have : vs[j]? = some vs[j] := by simp [hj]
  rw [this] at hv; cases hv
  refine ⟨by simpa using rv, ?_⟩
  simp [show j < ds.length by omega]
theorem lt_listsW {v₁ v₂ : Value} {xs ys : List PyData} {k : Nat} (hk : k ≠ 0) (hx : ∀ d ∈ xs, kindS d = k) (hy : ∀ d ∈ ys, kindS d = k) (r₁ : Rd c.P S s.heap v₁ (.list xs)) (r₂ : Rd c.P S s.heap v₂ (.list ys)) :
    ∃ l b, v₁ = .ref l ∧ v₂ = .ref b ∧ s.TypeIs v₁ "list" ∧ s.TypeIs v₂ "list" ∧ ∀ {Q : Value → Shared → Prop} {A : Around} {E : Value → Shared → Prop}, Q (.bool (lexL xs ys)) s → wpAny c.M A (call (.builtin "list.__lt__") [v₁, v₂]) Q E s := by
  obtain ⟨l, vs, rfl, hl, q₁, _⟩ := r₁.list_inv
  obtain ⟨b, ws, rfl, hb, q₂, _⟩ := r₂.list_inv
  obtain ⟨⟨cls, dd, data, sl⟩, ho, hc, m, hd⟩ := id hl
  obtain ⟨⟨cls2, dd2, data2, sl2⟩, ho2, hc2, m2, hd2⟩ := id hb
  simp only at hc hd hc2 hd2
  subst hc hd hc2 hd2
  have l1 := q₁.length
  have l2 := q₂.length
  refine ⟨l, b, rfl, rfl, ⟨_, ho, rfl⟩, ⟨_, ho2, rfl⟩, fun {Q A E} hq => ?_⟩
  refine call_meets F.slot_list_lt ⟨_, ho, rfl⟩ F.entry_list_lt (F.args_list_lt_2 _ _) (lt_at l b vs.toArray ws.toArray m m2 dd dd2 sl sl2 (fun j => eqS (xs.getD j .none) (ys.getD j .none)) (fun j => ltS (xs.getD j .none) (ys.getD j .none))
    (fun i => if i ≤ min xs.length ys.length then lexL (xs.drop i) (ys.drop i) else decide (xs.length < ys.length)) (fun i => ?_)) ⟨ho, ho2, fun j h1 h2 => ?_, fun j h1 h2 prog w E Q hq => ?_, ?_⟩
  · simp only [List.size_toArray, l1, l2]
    by_cases h : i < xs.length ∧ i < ys.length
    · have e1 : i ≤ min xs.length ys.length := by omega
      have e2 : i + 1 ≤ min xs.length ys.length := by omega
      simp only [e1, e2, h, and_self, if_true]
      exact lexL_res xs ys i h
    · rw [if_neg h]
      split
      · rename_i h'
        exact lexL_end xs ys i h' h
      · rfl
  · exact eqAt_S hk (q₁.at h1).1 (q₂.at h2).1 (hx _ (q₁.at h1).2) (hy _ (q₂.at h2).2)
  · exact ltAt_S hk (q₁.at h1).1 (q₂.at h2).1 (hx _ (q₁.at h1).2) (hy _ (q₂.at h2).2) prog w E Q hq
  · rw [if_pos (Nat.zero_le _)]; exact hq
theorem gt_listsW {v₁ v₂ : Value} {xs ys : List PyData} {k : Nat} (hk : k ≠ 0) (hx : ∀ d ∈ xs, kindS d = k) (hy : ∀ d ∈ ys, kindS d = k) (r₁ : Rd c.P S s.heap v₁ (.list xs)) (r₂ : Rd c.P S s.heap v₂ (.list ys)) :
    ∃ l b, v₁ = .ref l ∧ v₂ = .ref b ∧ s.TypeIs v₁ "list" ∧ s.TypeIs v₂ "list" ∧ ∀ {Q : Value → Shared → Prop} {A : Around} {E : Value → Shared → Prop}, Q (.bool (lexL ys xs)) s → wpAny c.M A (call (.builtin "list.__gt__") [v₁, v₂]) Q E s := by
  obtain ⟨l, vs, rfl, hl, q₁, _⟩ := r₁.list_inv
  obtain ⟨b, ws, rfl, hb, q₂, _⟩ := r₂.list_inv
  obtain ⟨⟨cls, dd, data, sl⟩, ho, hc, m, hd⟩ := id hl
  obtain ⟨⟨cls2, dd2, data2, sl2⟩, ho2, hc2, m2, hd2⟩ := id hb
  simp only at hc hd hc2 hd2
  subst hc hd hc2 hd2
  have l1 := q₁.length
  have l2 := q₂.length
  refine ⟨l, b, rfl, rfl, ⟨_, ho, rfl⟩, ⟨_, ho2, rfl⟩, fun {Q A E} hq => ?_⟩
  refine call_meets F.slot_list_gt ⟨_, ho, rfl⟩ F.entry_list_gt (F.args_list_gt_2 _ _) (gt_at l b vs.toArray ws.toArray m m2 dd dd2 sl sl2 (fun j => eqS (ys.getD j .none) (xs.getD j .none)) (fun j => ltS (ys.getD j .none) (xs.getD j .none))
    (fun i => if i ≤ min xs.length ys.length then lexL (ys.drop i) (xs.drop i) else decide (ys.length < xs.length)) (fun i => ?_)) ⟨ho, ho2, fun j h1 h2 => ?_, fun j h1 h2 prog w E Q hq => ?_, ?_⟩
  · simp only [List.size_toArray, l1, l2]
    by_cases h : i < xs.length ∧ i < ys.length
    · have e1 : i ≤ min xs.length ys.length := by omega
      have e2 : i + 1 ≤ min xs.length ys.length := by omega
      simp only [e1, e2, h, and_self, if_true]
      exact lexL_res ys xs i h.symm
    · rw [if_neg h]
      split
      · rename_i h'
        exact lexL_end ys xs i (by omega) (fun q => h q.symm)
      · rfl
  · rw [eqS_comm]
    exact eqAt_S hk (q₁.at h1).1 (q₂.at h2).1 (hx _ (q₁.at h1).2) (hy _ (q₂.at h2).2)
  · exact gtAt_S hk (q₁.at h1).1 (q₂.at h2).1 (hx _ (q₁.at h1).2) (hy _ (q₂.at h2).2) prog w E Q hq
  · rw [if_pos (Nat.zero_le _)]; exact hq
theorem rc_lt {v₁ v₂ : Value} {xs ys : List PyData} {k : Nat} {Q : Value → Shared → Prop} (hk : k ≠ 0) (hx : ∀ d ∈ xs, kindS d = k) (hy : ∀ d ∈ ys, kindS d = k) (r₁ : Rd c.P S s.heap v₁ (.list xs)) (r₂ : Rd c.P S s.heap v₂ (.list ys)) (hu : A.units < cLine) (hq : Q (.bool (lexL xs ys)) s) :
    wpAny c.M A (richCompare .Lt v₁ v₂) Q E s := by
  obtain ⟨l, b, _, _, t1, t2, hc⟩ := lt_listsW hk hx hy r₁ r₂
  exact wpAny_richCompare_same_room t1 t2 F.slot_list_lt (hc ⟨(fun h => nomatch h), hq⟩) hu
theorem rc_gt {v₁ v₂ : Value} {xs ys : List PyData} {k : Nat} {Q : Value → Shared → Prop} (hk : k ≠ 0) (hx : ∀ d ∈ xs, kindS d = k) (hy : ∀ d ∈ ys, kindS d = k) (r₁ : Rd c.P S s.heap v₁ (.list xs)) (r₂ : Rd c.P S s.heap v₂ (.list ys)) (hu : A.units < cLine) (hq : Q (.bool (lexL ys xs)) s) :
    wpAny c.M A (richCompare .Gt v₁ v₂) Q E s := by
  obtain ⟨l, b, _, _, t1, t2, hc⟩ := gt_listsW hk hx hy r₁ r₂
  exact wpAny_richCompare_same_room t1 t2 F.slot_list_gt (hc ⟨(fun h => nomatch h), hq⟩) hu
theorem oneLt_list {v₁ v₂ : Value} {xs ys : List PyData} {k : Nat} {Q : Bool → Shared → Prop} (hk : k ≠ 0) (hx : ∀ d ∈ xs, kindS d = k) (hy : ∀ d ∈ ys, kindS d = k) (r₁ : Rd c.P S s.heap v₁ (.list xs)) (r₂ : Rd c.P S s.heap v₂ (.list ys)) (hu : A.units < cLine) (hq : Q (lexL xs ys) s) :
    wpAny c.M A (oneLt' true v₁ v₂) Q E s := by
  obtain ⟨l, b, _, _, t1, t2, hc⟩ := lt_listsW hk hx hy r₁ r₂
  rw [oneLt'_eq]
  simp only [if_true]
  refine wpAny_bind (wpAny_cRoomFor hu ?_)
  refine wpAny_bind (wpAny_callSpecialIfBound?_slot t1 F.slot_list_lt (hc ?_))
  exact wpAny_truthy_bool hq
end
end Mine
end

section
open PySem PySem.W PySem.Calls PyProof.Rows PySem.Spec
set_option maxRecDepth 100000
namespace Mine
-- a tree of comparisons, of which each leaves the state
noncomputable def Tp (cmp : Nat → Nat → (Bool → Shared → Prop) → Shared → Prop) (s : Shared) {α : Type} (t : KasT α) (Φ : α → Prop) : Prop := ∀ Q : α → Shared → Prop, (∀ a, Φ a → Q a s) → t.kasWp cmp Q s
-- what is known of the comparisons
structure Ord (cmp : Nat → Nat → (Bool → Shared → Prop) → Shared → Prop) (s : Shared) (n : Nat) (o : Nat → Nat → Bool) : Prop where
  cmp : ∀ i j C, i < n → j < n → C (o i j) s → cmp i j C s
  tot : ∀ i j, i < n → j < n → i ≠ j → o i j = false → o j i = true
  trans : ∀ i j k, i < n → j < n → k < n → o i j = true → o j k = true → o i k = true
noncomputable def pv (p : Array Nat) (k : Nat) : Nat := p.getD k 0
-- a permutation of the places
noncomputable def PermN (n : Nat) (p : Array Nat) : Prop := p.Perm (List.range n).toArray
theorem PermN.size {n : Nat} {p : Array Nat} (h : PermN n p) : p.size = n := by simpa using h.size_eq
theorem PermN.lt {n : Nat} {p : Array Nat} (h : PermN n p) (hn : 0 < n) (k : Nat) : pv p k < n := by
  unfold pv
  by_cases hk : k < p.size
  · have : p[k] ∈ (List.range n).toArray := h.mem_iff.mp (Array.getElem_mem hk)
    simp at this
    simpa [Array.getD, hk] using this
  · simpa [Array.getD, hk] using hn
theorem PermN.ne {n : Nat} {p : Array Nat} (h : PermN n p) {i j : Nat} (hi : i < n) (hj : j < n) (hij : i ≠ j) : pv p i ≠ pv p j := by
  have hs := h.size
  have hp : p.toList.Perm (List.range n) := by simpa using Array.perm_iff_toList_perm.mp h
  have nd : p.toList.Nodup := hp.nodup_iff.mpr List.nodup_range
  unfold pv
  have e1 : p.getD i 0 = p.toList[i]'(by simp; omega) := by simp [Array.getD, show i < p.size by omega]
  have e2 : p.getD j 0 = p.toList[j]'(by simp; omega) := by simp [Array.getD, show j < p.size by omega]
  rw [e1, e2]
  intro q
  exact hij (List.getElem_inj nd |>.mp q)
theorem pv_congr {p q : Array Nat} {i j : Nat} (h : p[i]? = q[j]?) : pv p i = pv q j := by
  unfold pv
  rw [Array.getD_eq_getD_getElem?, Array.getD_eq_getD_getElem?, h]
theorem pv_bubble {p : Array Nat} {src d : Nat} (hs : src < p.size) (hd : d ≤ src) (k : Nat) : pv (bubble p src d) k = if k = src - d then pv p src else if src - d < k ∧ k ≤ src then pv p (k - 1) else pv p k := by
  have e := getElem?_bubble hs d hd k
  by_cases h1 : k = src - d
  · rw [if_pos h1] at e ⊢; exact pv_congr e
  · rw [if_neg h1] at e ⊢
    by_cases h2 : src - d < k ∧ k ≤ src
    · rw [if_pos h2] at e ⊢; exact pv_congr e
    · rw [if_neg h2] at e ⊢; exact pv_congr e
theorem pv_rev {p : Array Nat} {j : Nat} (hj : j ≤ p.size) (k : Nat) : pv (kas_rev p 0 j) k = if k < j then pv p (j - 1 - k) else pv p k := by
  have e := getElem?_mirror_all (i := 0) hj k
  unfold kas_rev
  by_cases h1 : k < j
  · rw [if_pos ⟨Nat.zero_le _, h1⟩] at e
    rw [if_pos h1]
    have := pv_congr e
    simpa using this
  · rw [if_neg (fun q => h1 q.2)] at e
    rw [if_neg h1]
    exact pv_congr e
section
variable {cmp : Nat → Nat → (Bool → Shared → Prop) → Shared → Prop} {s : Shared} {n : Nat} {o : Nat → Nat → Bool} {α β : Type}
theorem tp_ret {a : α} {Φ : α → Prop} (h : Φ a) : Tp cmp s (.ret a) Φ := fun Q hq => hq a h
theorem tp_bind {t : KasT α} {f : α → KasT β} {Ψ : α → Prop} {Φ : β → Prop} (h : Tp cmp s t Ψ) (hf : ∀ a, Ψ a → Tp cmp s (f a) Φ) : Tp cmp s (t.bind f) Φ := fun Q hq => by
  rw [KasT.kasWp_bind]
  exact h _ fun a ha => hf a ha Q hq
theorem tp_ask (O : Ord cmp s n o) {i j : Nat} {k : Bool → KasT α} {Φ : α → Prop} (hi : i < n) (hj : j < n) (h : Tp cmp s (k (o i j)) Φ) : Tp cmp s (.ask i j k) Φ := fun Q hq =>
  O.cmp i j _ hi hj (h Q hq)
-- rising up to m
noncomputable def Up (o : Nat → Nat → Bool) (p : Array Nat) (m : Nat) : Prop := ∀ i j, i < j → j < m → o (pv p i) (pv p j) = true
noncomputable def Down (o : Nat → Nat → Bool) (p : Array Nat) (m : Nat) : Prop := ∀ i j, i < j → j < m → o (pv p j) (pv p i) = true
theorem up_step (O : Ord cmp s n o) {p : Array Nat} (hp : PermN n p) {m : Nat} (hm : m < n) (h0 : 0 < m) (hu : Up o p m) (h : o (pv p (m - 1)) (pv p m) = true) : Up o p (m + 1) := fun i j hij hj => by
  have hn : 0 < n := by omega
  by_cases e : j < m
  · exact hu i j hij e
  · obtain rfl : j = m := by omega
    by_cases e2 : i = j - 1
    · rw [e2]; exact h
    · exact O.trans _ _ _ (hp.lt hn _) (hp.lt hn _) (hp.lt hn _) (hu i (j - 1) (by omega) (by omega)) h
theorem down_step (O : Ord cmp s n o) {p : Array Nat} (hp : PermN n p) {m : Nat} (hm : m < n) (h0 : 0 < m) (hu : Down o p m) (h : o (pv p m) (pv p (m - 1)) = true) : Down o p (m + 1) := fun i j hij hj => by
  have hn : 0 < n := by omega
  by_cases e : j < m
  · exact hu i j hij e
  · obtain rfl : j = m := by omega
    by_cases e2 : i = j - 1
    · rw [e2]; exact h
    · exact O.trans _ _ _ (hp.lt hn _) (hp.lt hn _) (hp.lt hn _) h (hu i (j - 1) (by omega) (by omega))
theorem tp_asc (O : Ord cmp s n o) {p : Array Nat} (hp : PermN n p) : ∀ (f m : Nat), 0 < m → m + f = n → Up o p m → Tp cmp s (kas_asc p f m) (fun k => m ≤ k ∧ k ≤ n ∧ Up o p k ∧ (k = n ∨ o (pv p k) (pv p (k - 1)) = true))
  | 0, m, h0, hf, hu => tp_ret ⟨Nat.le_refl _, by omega, hu, .inl (by omega)⟩
  | f + 1, m, h0, hf, hu => by
    have hn : 0 < n := by omega
    unfold kas_asc
    refine tp_ask O (hp.lt hn _) (hp.lt hn _) ?_
    show Tp cmp s (if o (pv p m) (pv p (m - 1)) = true then _ else _) _
    cases hc : o (pv p m) (pv p (m - 1)) with
    | true => rw [if_pos rfl]; exact tp_ret ⟨Nat.le_refl _, by omega, hu, .inr hc⟩
    | false =>
      rw [if_neg (by decide)]
      have h := O.tot _ _ (hp.lt hn _) (hp.lt hn _) (hp.ne (by omega) (by omega) (by omega)) hc
      intro Q hq
      exact tp_asc O hp f (m + 1) (by omega) (by omega) (up_step O hp (by omega) h0 hu h) Q fun a ha => hq a ⟨by omega, ha.2⟩
theorem tp_desc (O : Ord cmp s n o) {p : Array Nat} (hp : PermN n p) : ∀ (f m : Nat), 0 < m → m + f = n → Down o p m → Tp cmp s (kas_desc f p m 0) (fun r => r.1 = p ∧ m ≤ r.2.1 ∧ r.2.1 ≤ n ∧ r.2.2 = 0 ∧ Down o p r.2.1)
  | 0, m, h0, hf, hu => tp_ret ⟨rfl, Nat.le_refl _, (by show m ≤ n; omega), rfl, hu⟩
  | f + 1, m, h0, hf, hu => by
    have hn : 0 < n := by omega
    unfold kas_desc
    refine tp_ask O (hp.lt hn _) (hp.lt hn _) ?_
    show Tp cmp s (if o (pv p m) (pv p (m - 1)) = true then _ else _) _
    cases hc : o (pv p m) (pv p (m - 1)) with
    | true =>
      rw [if_pos rfl, if_neg (by omega)]
      intro Q hq
      exact tp_desc O hp f (m + 1) (by omega) (by omega) (down_step O hp (by omega) h0 hu hc) Q fun a ha => hq a ⟨ha.1, by omega, ha.2.2⟩
    | false =>
      rw [if_neg (by decide)]
      have h := O.tot _ _ (hp.lt hn _) (hp.lt hn _) (hp.ne (by omega) (by omega) (by omega)) hc
      refine tp_ask O (hp.lt hn _) (hp.lt hn _) ?_
      show Tp cmp s (if o (pv p (m - 1)) (pv p m) = true then _ else _) _
      rw [if_pos h]
      exact tp_ret ⟨rfl, Nat.le_refl _, (by show m ≤ n; omega), rfl, hu⟩
theorem perm_rev {p : Array Nat} (hp : PermN n p) (i j : Nat) : PermN n (kas_rev p i j) := (mirror_perm _ _ _ _).trans hp
theorem perm_bubble {p : Array Nat} (hp : PermN n p) (i j : Nat) : PermN n (bubble p i j) := (bubble_perm _ _ _).trans hp
theorem up_rev {p : Array Nat} (hp : PermN n p) {m : Nat} (hm : m ≤ n) (hd : Down o p m) : Up o (kas_rev p 0 m) m := fun i j hij hj => by
  have hs := hp.size
  rw [pv_rev (by omega), pv_rev (by omega), if_pos (by omega), if_pos hj]
  exact hd _ _ (by omega) (by omega)
theorem tp_count (O : Ord cmp s n o) {p : Array Nat} (hp : PermN n p) (h2 : 2 ≤ n) : Tp cmp s (kas_count n p) (fun r => 1 ≤ r.1 ∧ r.1 ≤ n ∧ PermN n r.2 ∧ Up o r.2 r.1) := by
  have hn : 0 < n := by omega
  unfold kas_count
  refine tp_bind (tp_asc O hp (n - 1) 1 (by omega) (by omega) (fun i j hij hj => by omega)) fun k hk => ?_
  obtain ⟨h1, hkn, hu, hor⟩ := hk
  by_cases e : k = n
  · subst e
    rw [if_pos (by simp)]
    exact tp_ret ⟨h1, Nat.le_refl _, hp, hu⟩
  · rw [if_neg (by simpa using e)]
    by_cases e1 : k > 1
    · rw [if_pos e1]
      refine tp_ask O (hp.lt hn _) (hp.lt hn _) ?_
      show Tp cmp s (if o (pv p 0) (pv p (k - 1)) = true then _ else _) _
      rw [if_pos (hu 0 (k - 1) (by omega) (by omega))]
      exact tp_ret ⟨h1, hkn, hp, hu⟩
    · rw [if_neg e1]
      obtain rfl : k = 1 := by omega
      have hd := hor.resolve_left e
      unfold kas_descPart
      refine tp_bind (tp_desc O hp (n - 2) 2 (by omega) (by omega) (fun i j hij hj => ?_)) fun r hr => ?_
      · obtain rfl : j = 1 := by omega
        obtain rfl : i = 0 := by omega
        exact hd
      · obtain ⟨r1, m, q⟩ := r
        obtain ⟨rfl, hm1, hm2, hq, hdn⟩ := hr
        simp only at hm1 hm2 hq hdn ⊢
        subst hq
        rw [if_neg (by omega)]
        unfold kas_tail3
        exact tp_bind (tp_asc O (perm_rev hp 0 m) (n - m) m (by omega) (by omega) (up_rev hp hm2 hdn)) fun k hk => tp_ret ⟨by simp only; omega, hk.2.1, perm_rev hp 0 m, hk.2.2.1⟩
theorem tp_place (O : Ord cmp s n o) {p : Array Nat} (hp : PermN n p) {k : Nat} (hk : k < n) (hu : Up o p k) : ∀ (f l r : Nat), r - l ≤ f → l ≤ r → r ≤ k → (∀ i, i < l → o (pv p i) (pv p k) = true) → (∀ i, r ≤ i → i < k → o (pv p k) (pv p i) = true) →
    Tp cmp s (kas_place p k f l r) (fun m => m ≤ k ∧ (∀ i, i < m → o (pv p i) (pv p k) = true) ∧ (∀ i, m ≤ i → i < k → o (pv p k) (pv p i) = true))
  | 0, l, r, hf, hlr, hr, h1, h2 => by
    obtain rfl : l = r := by omega
    exact tp_ret ⟨hr, h1, h2⟩
  | f + 1, l, r, hf, hlr, hr, h1, h2 => by
    have hn : 0 < n := by omega
    unfold kas_place
    by_cases e : l ≥ r
    · rw [if_pos e]
      obtain rfl : l = r := by omega
      exact tp_ret ⟨hr, h1, h2⟩
    · rw [if_neg e]
      have hmid : l ≤ (l + r) / 2 ∧ (l + r) / 2 < r := by omega
      generalize (l + r) / 2 = m at hmid
      refine tp_ask O (hp.lt hn _) (hp.lt hn _) ?_
      show Tp cmp s (if o (pv p k) (pv p m) = true then _ else _) _
      cases hc : o (pv p k) (pv p m) with
      | true =>
        rw [if_pos rfl]
        refine tp_place O hp hk hu f l m (by omega) (by omega) (by omega) h1 fun i hi hik => ?_
        by_cases q : i = m
        · rw [q]; exact hc
        · exact O.trans _ _ _ (hp.lt hn _) (hp.lt hn _) (hp.lt hn _) hc (hu m i (by omega) hik)
      | false =>
        rw [if_neg (by decide)]
        have h := O.tot _ _ (hp.lt hn _) (hp.lt hn _) (hp.ne (by omega) (by omega) (by omega)) hc
        refine tp_place O hp hk hu f (m + 1) r (by omega) (by omega) hr (fun i hi => ?_) h2
        by_cases q : i = m
        · rw [q]; exact h
        · exact O.trans _ _ _ (hp.lt hn _) (hp.lt hn _) (hp.lt hn _) (hu i m (by omega) (by omega)) h
theorem pv_lt {p : Array Nat} {k l i : Nat} (hk : k < p.size) (hl : l ≤ k) (h : i < l) : pv (bubble p k (k - l)) i = pv p i := by
  rw [pv_bubble hk (Nat.sub_le _ _), Nat.sub_sub_self hl, if_neg (Nat.ne_of_lt h), if_neg fun q => Nat.lt_asymm h q.1]
theorem pv_eq {p : Array Nat} {k l : Nat} (hk : k < p.size) (hl : l ≤ k) : pv (bubble p k (k - l)) l = pv p k := by
  rw [pv_bubble hk (Nat.sub_le _ _), Nat.sub_sub_self hl, if_pos rfl]
theorem pv_gt {p : Array Nat} {k l i : Nat} (hk : k < p.size) (hl : l ≤ k) (h : l < i) (hi : i ≤ k) : pv (bubble p k (k - l)) i = pv p (i - 1) := by
  rw [pv_bubble hk (Nat.sub_le _ _), Nat.sub_sub_self hl, if_neg (Nat.ne_of_gt h), if_pos ⟨h, hi⟩]
theorem up_bubble {p : Array Nat} {k l : Nat} (hk : k < p.size) (hl : l ≤ k) (hu : Up o p k) (h1 : ∀ i, i < l → o (pv p i) (pv p k) = true) (h2 : ∀ i, l ≤ i → i < k → o (pv p k) (pv p i) = true) : Up o (bubble p k (k - l)) (k + 1) := fun i j hij hj => by
  have hjk : j ≤ k := Nat.le_of_lt_succ hj
  rcases Nat.lt_trichotomy j l with c | c | c
  · rw [pv_lt hk hl c, pv_lt hk hl (Nat.lt_trans hij c)]
    exact hu i j hij (Nat.lt_of_lt_of_le c hl)
  · subst c
    rw [pv_eq hk hl, pv_lt hk hl hij]
    exact h1 i hij
  · have hj1 : j - 1 < k := Nat.lt_of_lt_of_le (Nat.sub_lt (Nat.lt_of_le_of_lt (Nat.zero_le _) c) Nat.zero_lt_one) hjk
    rw [pv_gt hk hl c hjk]
    rcases Nat.lt_trichotomy i l with d | d | d
    · rw [pv_lt hk hl d]
      exact hu i (j - 1) (Nat.lt_of_lt_of_le d (Nat.le_sub_one_of_lt c)) hj1
    · subst d
      rw [pv_eq hk hl]
      exact h2 (j - 1) (Nat.le_sub_one_of_lt c) hj1
    · rw [pv_gt hk hl d (Nat.le_trans (Nat.le_of_lt hij) hjk)]
      exact hu (i - 1) (j - 1) (Nat.sub_lt_sub_right (Nat.lt_of_le_of_lt (Nat.zero_le _) d) hij) hj1
theorem tp_bin (O : Ord cmp s n o) : ∀ (f : Nat) (p : Array Nat) (k : Nat), PermN n p → k + f = n → Up o p k → Tp cmp s (kas_bin f p k) (fun q => PermN n q ∧ Up o q n)
  | 0, p, k, hp, hf, hu => tp_ret ⟨hp, hf ▸ hu⟩
  | f + 1, p, k, hp, hf, hu => by
    have hs := hp.size
    have hk : k < n := hf ▸ Nat.lt_add_of_pos_right (Nat.succ_pos f)
    unfold kas_bin
    refine tp_bind (tp_place O hp hk hu k 0 k (Nat.le_refl _) (Nat.zero_le _) (Nat.le_refl _) (fun i hi => absurd hi (Nat.not_lt_zero i)) (fun i h1 h2 => absurd h2 (Nat.not_lt.mpr h1))) fun l hl => ?_
    obtain ⟨hlk, h1, h2⟩ := hl
    exact tp_bin O f _ (k + 1) (perm_bubble hp _ _) (by rw [← hf, Nat.add_assoc, Nat.add_comm 1 f]) (up_bubble (hs ▸ hk) hlk hu h1 h2)
theorem tp_sort (O : Ord cmp s n o) (h2 : 2 ≤ n) : Tp cmp s (kas_sort n) (fun q => PermN n q ∧ Up o q n) := by
  unfold kas_sort
  refine tp_bind (tp_count O (p := List.toArray (List.range n)) (Array.Perm.refl _) h2) fun r hr => ?_
  obtain ⟨h1, hn, hp, hu⟩ := hr
  by_cases e : r.1 < n
  · rw [if_pos e]
    have em : max r.1 1 = r.1 := by omega
    rw [em]
    exact tp_bin O _ _ _ hp (by omega) hu
  · rw [if_neg e]
    have : r.1 = n := by omega
    exact tp_ret ⟨hp, this ▸ hu⟩
end
end Mine
end

section
open PySem PySem.W PySem.Calls PyProof.Rows PySem.Spec
set_option maxRecDepth 100000
namespace Mine
theorem lexL_step {x y : PyData} {xs ys : List PyData} {b : Bool} (h : eqS x y = b) : lexL (x :: xs) (y :: ys) = if b = true then lexL xs ys else ltS x y := by subst h; rw [lexL]
theorem lexL_ints : ∀ a b : List Nat, lexL (a.map fun (i : Nat) => .int (i : Int)) (b.map fun (i : Nat) => .int (i : Int)) = decide (a < b)
  | [], [] => by simp [lexL]
  | [], _ :: _ => by simp [lexL]
  | _ :: _, [] => by simp [lexL]
  | x :: xs, y :: ys => by
    rw [List.map_cons, List.map_cons, lexL_step (b := decide (x = y)) (by simp only [eqS]; rw [Bool.eq_iff_iff]; simp; omega), lexL_ints xs ys, Bool.eq_iff_iff, decide_eq_true_iff (p := x :: xs < y :: ys), List.cons_lt_cons_iff]
    by_cases h : x = y
    · subst h; simp
    · simp [h, ltS]
theorem lexL_strs : ∀ a b : List (List Nat), lexL (a.map fun x => .str (st x)) (b.map fun x => .str (st x)) = decide (a < b)
  | [], [] => by simp [lexL]
  | [], _ :: _ => by simp [lexL]
  | _ :: _, [] => by simp [lexL]
  | x :: xs, y :: ys => by
    rw [List.map_cons, List.map_cons, lexL_step (b := decide (x = y)) (by simp only [eqS]; rw [Bool.eq_iff_iff]; simp only [beq_iff_eq, decide_eq_true_iff]; exact ⟨fun e => st_inj e, fun e => e ▸ rfl⟩), lexL_strs xs ys, Bool.eq_iff_iff, decide_eq_true_iff (p := x :: xs < y :: ys), List.cons_lt_cons_iff]
    by_cases h : x = y
    · subst h; simp [List.lt_irrefl]
    · simp [h, ltS, st]; exact decide_eq_true_iff
theorem lt_of_not {a b : List Nat} (h : ¬ a < b) (hn : b ≠ a) : b < a := by
  by_cases q : b < a
  · exact q
  · exact absurd (List.le_antisymm (List.not_lt.mp h) (List.not_lt.mp q)) hn
section
variable {prog : Program} {w : World} {A : Around} {E : Value → Shared → Prop} {s : Shared}
theorem sort_rows {a : Addr} {vs : List Value} {n : Nat} {P : PySem.Fin → Shared → Prop} {o : Nat → Nat → Bool} (ho : s.heap.get? a = some (seqObj "list" vs.toArray n)) (h64 : vs.length < 64)
    (hty : ∀ v ∈ vs, ∃ b ob, v = .ref b ∧ b ≠ a ∧ s.heap.get? b = some ob ∧ ob.cls = .type "list")
    (hO : ∀ s' : Shared, (∀ b ob, b ≠ a → s.heap.get? b = some ob → s'.heap.get? b = some ob) → Ord (kas_cmp prog w A oneType' (pairsOf vs)) s' vs.length o)
    (h : ∀ q, PermN vs.length q → Up o q vs.length → P (.done (.ret .none)) { s with heap := sortedHeap s.heap a vs (q.map fun i => vs.getD i .none) }) :
    wpAny (model prog w) A (Builtin.«list.sort» ⟨[.ref a], []⟩) P E s := by
  rw [list_sort_plain]
  have ha : a < s.heap.objs.size := Heap.lt_size ho
  refine wpAny_bind (listItems_at ho rfl (wpAny_bind (listUpdate_at ho rfl ?_)))
  obtain ⟨e1, ho1⟩ : ∃ e1, (s.heap.update a (Obj.mapSeq fun _ => #[])).get? a = some (seqObj "list" #[] e1) := ⟨_, get?_update_seq ho (fun _ => #[])⟩
  refine wpAny_bind (seqEpoch_at ho1 rfl (wpAny_bind (wpAny_newTuple (wpAny_bind (wpAny_newList (wpAny_holding ?_))))))
  have keep : ∀ b ob, b ≠ a → s.heap.get? b = some ob → (((s.heap.update a (Obj.mapSeq fun _ => #[])).push (seqObj "tuple" vs.toArray 0)).push (seqObj "list" #[] 0)).get? b = some ob := fun b ob hb e => by
    have hlt : b < s.heap.objs.size := Heap.lt_size e
    rw [Heap.get?_push_ne _ _ _ (by rw [size_push', Heap.size_update]; exact Nat.ne_of_lt (Nat.lt_succ_of_lt hlt)), Heap.get?_push_ne _ _ _ (by rw [Heap.size_update]; exact Nat.ne_of_lt hlt), Heap.get?_update_ne _ _ _ _ hb]
    exact e
  have ho6 : (((s.heap.update a (Obj.mapSeq fun _ => #[])).push (seqObj "tuple" vs.toArray 0)).push (seqObj "list" #[] 0)).get? a = some (seqObj "list" #[] e1) := by
    rw [Heap.get?_push_ne _ _ _ (by rw [size_push', Heap.size_update]; exact Nat.ne_of_lt (Nat.lt_succ_of_lt ha)), Heap.get?_push_ne _ _ _ (by rw [Heap.size_update]; exact Nat.ne_of_lt ha)]
    exact ho1
  show wpAny (model prog w) A _ P E { s with heap := ((s.heap.update a (Obj.mapSeq fun _ => #[])).push (seqObj "tuple" vs.toArray 0)).push (seqObj "list" #[] 0) }
  dsimp only
  by_cases h2 : vs.toArray.size < 2
  · rw [if_pos h2, if_pos h2]
    refine wpAny_bind (wpAny_pure ?_)
    rw [StateT.run_pure]
    refine wpAny_bind (wpAny_pure ?_)
    dsimp only
    refine wpAny_bind (seqEpoch_at ho6 rfl ?_)
    refine wpAny_bind (listUpdate_at ho6 rfl ?_ (hsz2 := by rw [Array.size_map]; show (pairsOf vs).size ≤ _; rw [pairsOf_size, sizeLine_eq]; omega))
    simp only [bne_self_eq_false, Bool.false_eq_true, if_false]
    have hfin := h (List.range vs.length).toArray (Array.Perm.refl _) (fun i j hij hj => by simp at h2; omega)
    have e : (Array.map (fun x => x.2) (arrOf (SortSt.mk' general' (vs.toArray.zip vs.toArray) #[] 7 none))) = ((List.range vs.length).toArray.map fun i => vs.getD i .none) := by
      show Array.map (fun x => x.2) (vs.toArray.zip vs.toArray) = _
      apply Array.ext_getElem?
      intro i
      by_cases hi : i < vs.length
      · simp [hi]
      · simp [hi]
    refine wpAny_pure ?_
    show P _ { s with heap := sortedHeap s.heap a vs (Array.map (fun x => x.2) (arrOf (SortSt.mk' general' (vs.toArray.zip vs.toArray) #[] 7 none))) }
    rw [e]
    exact hfin
  · rw [if_neg h2, if_neg h2]
    have h2' : 2 ≤ vs.length := by simp at h2; omega
    refine wpAny_bind (kas_kind (T := .type "list") h2' (fun v hv => ?_) (by decide) (by decide) ?_)
    · obtain ⟨b, ob, rfl, hb, hob, hc⟩ := hty v hv
      rw [← hc]
      exact (Looks.ld (keep b ob hb hob)).andThen .now
    have run := kas_runs (prog := prog) (w := w) (A := A) (E := E) (κ := oneType') (it := pairsOf vs) (n := vs.length) (s := { s with heap := ((s.heap.update a (Obj.mapSeq fun _ => #[])).push (seqObj "tuple" vs.toArray 0)).push (seqObj "list" #[] 0) })
      (Q := fun _ st' s' => ∃ p : Array Nat, s' = { s with heap := ((s.heap.update a (Obj.mapSeq fun _ => #[])).push (seqObj "tuple" vs.toArray 0)).push (seqObj "list" #[] 0) } ∧ arrOf st' = p.map (kas_item (pairsOf vs)) ∧ failedOf st' = none ∧ PermN vs.length p ∧ Up o p vs.length)
      (G := fun p s' => s' = { s with heap := ((s.heap.update a (Obj.mapSeq fun _ => #[])).push (seqObj "tuple" vs.toArray 0)).push (seqObj "list" #[] 0) } ∧ PermN vs.length p ∧ Up o p vs.length)
      h2' h64 (fun p' st' s' a1 a2 a3 a4 => ⟨p', a4.1, a2, a3, a4.2⟩) (tp_sort (hO _ keep) h2' _ fun p hp => ⟨rfl, hp⟩)
    have est : SortSt.mk' oneType' (vs.toArray.zip vs.toArray) #[] 7 none = kas_st oneType' (pairsOf vs) (List.toArray (List.range vs.length)) := by
      have e := kas_range (pairsOf vs)
      rw [pairsOf_size] at e
      show SortSt.mk' oneType' (pairsOf vs) #[] 7 none = SortSt.mk' oneType' ((List.toArray (List.range vs.length)).map (kas_item (pairsOf vs))) #[] 7 none
      rw [e]
    rw [← est] at run
    refine wpAny_bind (wpAny_mono run ?_ fun _ _ e => e)
    rintro ⟨⟨⟩, st'⟩ s' ⟨p, rfl, har, hf, hp, hu⟩
    dsimp only
    have hout : (arrOf st').map (·.2) = p.map fun i => vs.getD i .none := by
      rw [har, Array.map_map]
      congr 1
      funext i
      show (kas_item (pairsOf vs) i).2 = _
      rw [kas_item_eq]
    rw [hout]
    refine wpAny_bind (seqEpoch_at ho6 rfl ?_)
    refine wpAny_bind (listUpdate_at ho6 rfl ?_ (hsz2 := by rw [Array.size_map, hp.size, sizeLine_eq]; omega))
    rw [hf]
    simp only [bne_self_eq_false, Bool.false_eq_true, if_false]
    exact wpAny_pure (h p hp hu)
end
section
variable {c : Cx} {env : Env} {n : Nat} {σ : List (Str × PyData)} {A : Around} {S : Addr → Prop} {s : Shared} {E : Value → Shared → Prop}
theorem eq_of_up : ∀ {xs ys : List (List Nat)}, xs.Pairwise (· < ·) → ys.Pairwise (· < ·) → (∀ a, a ∈ xs ↔ a ∈ ys) → xs = ys
  | [], [], _, _, _ => rfl
  | [], y :: ys, _, _, h => by simp at h; exact absurd rfl (h y).1
  | x :: xs, [], _, _, h => by simp at h; exact absurd rfl (h x).1
  | x :: xs, y :: ys, hx, hy, h => by
    rw [List.pairwise_cons] at hx hy
    have e : x = y := by
      have h1 := (h x).mp List.mem_cons_self
      have h2 := (h y).mpr List.mem_cons_self
      rcases List.mem_cons.mp h1 with q | q
      · exact q
      · rcases List.mem_cons.mp h2 with q2 | q2
        · exact q2.symm
        · exact absurd (List.lt_trans (hx.1 y q2) (hy.1 x q)) (List.lt_irrefl _)
    subst e
    refine congrArg _ (eq_of_up hx.2 hy.2 fun a => ⟨fun ha => ?_, fun ha => ?_⟩)
    · rcases List.mem_cons.mp ((h a).mp (List.mem_cons_of_mem _ ha)) with q | q
      · subst q; exact absurd (hx.1 a ha) (List.lt_irrefl _)
      · exact q
    · rcases List.mem_cons.mp ((h a).mpr (List.mem_cons_of_mem _ ha)) with q | q
      · subst q; exact absurd (hy.1 a ha) (List.lt_irrefl _)
      · exact q
theorem sorted_rows {l : Value} {chs ys : List (List Nat)} (hu : A.units + 64 < cLine) (sb : SB S s.heap) (r : Rd c.P S s.heap l (.list (chs.map intsD))) (h64 : chs.length < 64) (hp : ys.Perm chs) (hs : ys.Pairwise (· < ·)) :
    wpAny c.M A (call (.builtin "sorted") [l]) (Post c S s (.list (ys.map intsD))) E s := by
  obtain ⟨l, vs, rfl, hl, q, hS⟩ := r.list_inv
  have hlen : vs.length = chs.length := by rw [q.length, List.length_map]
  have hnd : chs.Nodup := hp.nodup_iff.mp (hs.imp fun h e => by subst e; exact List.lt_irrefl _ h)
  have hv : ∀ i, i < vs.length → Rd c.P S s.heap (vs.getD i .none) (intsD (chs.getD i [])) := fun i hi => by
    obtain ⟨v, hv, rv⟩ := q.get (i := i) (d := intsD (chs.getD i [])) (by simp [show i < chs.length by omega])
    have : vs.getD i .none = v := by simp [hv]
    rw [this]; exact rv
  let o : Nat → Nat → Bool := fun i j => decide (chs.getD i [] < chs.getD j [])
  refine Calls.call_function_entry kind_sorted plain_sorted entry_sorted (args_sorted1 _) ?_
  unfold Builtin.«sorted»
  refine wpAny_bind (m := checkCount "sorted" 1 1 _) (wpAny_pure ?_)
  refine wpAny_bind (collect_list hl ?_ (by rw [sizeLine_eq]; omega))
  refine wpAny_bind (wpAny_newList ?_ (by rw [sizeLine_eq]; omega))
  have hsz : ((s.heap.push (seqObj "list" #[] 0)).update s.heap.objs.size (Obj.mapSeq (· ++ vs.toArray))).objs.size = s.heap.objs.size + 1 := by
    rw [Heap.size_update, size_push']
  have hoL : (((s.heap.push (seqObj "list" #[] 0)).update s.heap.objs.size (Obj.mapSeq (· ++ vs.toArray))).push (seqObj "list" vs.toArray 0)).get? (s.heap.objs.size + 1) = some (seqObj "list" vs.toArray 0) := by
    rw [← hsz]; exact Heap.get?_push_size _ rfl
  have keep : ∀ b ob, s.heap.get? b = some ob → (((s.heap.push (seqObj "list" #[] 0)).update s.heap.objs.size (Obj.mapSeq (· ++ vs.toArray))).push (seqObj "list" vs.toArray 0)).get? b = some ob := fun b ob e => by
    have hlt : b < s.heap.objs.size := Heap.lt_size e
    rw [Heap.get?_push_ne _ _ _ (by rw [hsz]; exact Nat.ne_of_lt (Nat.lt_succ_of_lt hlt)), Heap.get?_update_ne _ _ _ _ (Nat.ne_of_lt hlt), Heap.get?_push_ne _ _ _ (Nat.ne_of_lt hlt)]
    exact e
  show wpAny _ _ _ _ _ { s with heap := ((s.heap.push (seqObj "list" #[] 0)).update s.heap.objs.size (Obj.mapSeq (· ++ vs.toArray))).push (seqObj "list" vs.toArray 0) }
  rw [hsz]
  refine wpAny_bind (wpAny_holding (wpAny_call_entry slot_list_sort ⟨_, hoL, rfl⟩ entry_list_sort (sort_rows (o := o) hoL (by omega) (fun v hvm => ?_) (fun s' hk => ⟨fun i j C hi hj hC => ?_, fun i j hi hj hij ho => ?_, fun i j k _ _ _ h1 h2 => ?_⟩) fun p hpn hup => ⟨_, rfl, ?_⟩) (args_list_sort _)))
  · obtain ⟨i, hi, rfl⟩ := List.getElem_of_mem hvm
    have := hv i hi
    have e : vs.getD i .none = vs[i] := by simp [hi]
    rw [e] at this
    obtain ⟨b, ws, hb, ⟨ob, hob, hc, _⟩, _, _⟩ := this.list_inv
    exact ⟨b, ob, hb, Nat.ne_of_lt (Nat.lt_succ_of_lt (Heap.lt_size hob)), keep b ob hob, hc⟩
  · have kk : KeepH s.heap s'.heap := fun b ob e => hk b ob (Nat.ne_of_lt (Nat.lt_succ_of_lt (Heap.lt_size e))) (keep b ob e)
    unfold kas_cmp
    rw [kas_item_eq, kas_item_eq, keyLt'_oneType]
    refine oneLt_list (c := c) (k := 1) (by decide) (fun d hd => ?_) (fun d hd => ?_) ((hv i hi).keep kk) ((hv j hj).keep kk) ?_ ?_
    · obtain ⟨_, _, rfl⟩ := List.mem_map.mp hd; rfl
    · obtain ⟨_, _, rfl⟩ := List.mem_map.mp hd; rfl
    · show A.units + 1 + 1 < cLine; omega
    · rw [lexL_ints]; exact hC
  · have ho' : ¬ chs.getD i [] < chs.getD j [] := of_decide_eq_false ho
    refine decide_eq_true ?_
    refine lt_of_not ho' fun h => ?_
    · have e1 : chs.getD i [] = chs[i]'(by omega) := by simp [show i < chs.length by omega]
      have e2 : chs.getD j [] = chs[j]'(by omega) := by simp [show j < chs.length by omega]
      rw [e1, e2] at h
      exact hij ((List.getElem_inj hnd).mp h).symm
  · exact decide_eq_true (List.lt_trans (of_decide_eq_true h1) (of_decide_eq_true h2))
  · refine wpAny_pure ⟨_, rfl, ?_⟩
    show Post c S s _ _ { s with heap := sortedAll s.heap vs (p.map fun i => vs.getD i .none) }
    have kk : KeepH s.heap (sortedAll s.heap vs (p.map fun i => vs.getD i .none)) := fun b ob e => sortedAll_old e
    obtain ⟨e, he⟩ := sortedAll_at s.heap vs (p.map fun i => vs.getD i .none)
    refine ⟨⟨_, s.toks, rfl, kk⟩, .list (fun q => ?_) he rfl rfl ?_⟩
    · obtain ⟨ob, hob⟩ := sb _ q
      have := Heap.lt_size hob
      exact absurd this (Nat.not_lt_of_le (Nat.le_succ _))
    have hys : ys = p.toList.map fun i => chs.getD i [] := by
      have hpl : p.toList.Perm (List.range vs.length) := by simpa using Array.perm_iff_toList_perm.mp hpn
      have hmap : (p.toList.map fun i => chs.getD i []).Perm chs := by
        refine (hpl.map _).trans (List.Perm.of_eq ?_)
        apply List.ext_getElem
        · simp [hlen]
        · intro i h1 h2
          simp at h1
          simp [show i < chs.length by omega]
      refine eq_of_up hs ?_ fun a => hp.mem_iff.trans hmap.mem_iff.symm
      rw [List.pairwise_iff_getElem]
      intro i j hi hj hij
      simp only [List.length_map, Array.length_toList] at hi hj
      have := of_decide_eq_true (hup i j hij (by rw [← hpn.size]; exact hj))
      simpa [pv, Array.getD, hi, hj] using this
    rw [hys]
    have hlt : ∀ i ∈ p.toList, i < vs.length := fun i hi => by
      have : i ∈ (List.range vs.length).toArray := hpn.mem_iff.mp (by simpa using hi)
      simpa using this
    have : ∀ l : List Nat, (∀ i ∈ l, i < vs.length) → RdAll c.P S (sortedAll s.heap vs (p.map fun i => vs.getD i .none)) (l.map fun i => vs.getD i .none) ((l.map fun i => chs.getD i []).map intsD) := by
      intro l
      induction l with
      | nil => intro _; exact .nil
      | cons i l ih => intro h; exact .cons ((hv i (h i List.mem_cons_self)).keep kk) (ih fun j hj => h j (List.mem_cons_of_mem _ hj))
    simpa using this p.toList hlt
theorem ev_sorted {x p e pos} {chs ys : List (List Nat)} (hf : EvV c env n σ (.Name x p) (.builtin "sorted")) (he : Ev c env n σ e (.list (chs.map intsD))) (h64 : chs.length < 64) (hp : ys.Perm chs) (hs : ys.Pairwise (· < ·)) (hse : starEach [e] env = (false, eval e env) :: starEach [] env := by rfl) :
    Ev c env n σ (.Call (.Name x p) [e] [] pos) (.list (ys.map intsD)) :=
  ev_call_builtin hf (evL_cons he evL_nil hse) (fun A S s E vs a r => by
    obtain ⟨v, rfl, r₁⟩ := r.one
    exact sorted_rows (by have := a.room.units; omega) a.sb r₁ h64 hp hs) hse
end
end Mine
end

section
open PySem PySem.W PySem.Calls PyProof.Rows PySem.Spec
set_option maxRecDepth 100000
namespace Mine
-- the chain of parents down to a place
noncomputable def chF (t : List Ent) : Nat → Nat → List Nat
  | 0, p => [p]
  | f + 1, p => if p = 0 then [0] else chF t f (en t p).pa ++ [p]
noncomputable def kids1 (t : List Ent) (place : Nat) : List Nat := ((List.range (t.length - 1)).map fun j => 1 + j).filter fun k => (en t k).pa == place
noncomputable def chsOf (t : List Ent) : List (List Nat) := ((List.range t.length).filter fun p => decide (kids1 t p = [])).map fun p => chF t p p
-- each parent lies ahead
noncomputable def PA (t : List Ent) : Prop := ∀ i, 0 < i → i < t.length → (en t i).pa < i
theorem chF_len (t : List Ent) : ∀ f p, (chF t f p).length ≤ f + 1
  | 0, p => by simp [chF]
  | f + 1, p => by
    rw [chF]; split
    · simp
    · have := chF_len t f (en t p).pa
      simp; omega
section
variable {P : Params}
theorem g_sorted : nsIn (kF P) mainGlobals (Str.ofString "sorted") = some none := by rfl
theorem g_chains : nsIn (kF P) mainGlobals (Str.ofString "_law_chains") = some (some (.ref 176)) := by rfl
end
set_option maxHeartbeats 4000000 in
theorem chains_calls {c : Cx} (i : Is c) {n : Nat} {t : List Ent} (hT : TOk t) (hPA : PA t) {ys : List (List Nat)} (hp : ys.Perm (chsOf t)) (hs : ys.Pairwise (· < ·)) : CallsC c (.ref 176) (n + 1) [tblD t] (.list (ys.map intsD)) := by
  have D := defOk_K (f := 176) i rfl rfl rfl
  refine calls_def (names := [Str.ofString "table"]) D (by decide) rfl (fun pm cd doc vs h => ?_) fun L cd => ?_
  · obtain ⟨a, rfl⟩ := len1 h; rfl
  clear D
  have hlen := hT.len
  have hzl : sizeLine = 16777216 := rfl
  refine exs_new (.inl rfl) fun D => ?_
  refine exO_cons (exO_for (ds := (List.range t.length).map fun (k : Nat) => .int (k : Int)) (fun k σ' xs' => σ'.lookup (Str.ofString "chains") = some (addrD D) ∧ σ'.lookup (Str.ofString "table") = some (tblD t) ∧ xs' = (((List.range k).filter fun p => decide (kids1 t p = [])).map fun p => chF t p p).map intsD)
    (ev_range1 i ⟨rfl, rfl, rfl⟩ rfl (ev_cast (ev_lenN i ⟨rfl, rfl, rfl⟩ rfl (ev_name rfl) (by simp; omega)) (by simp)) (by omega)) (.inr ⟨rfl, ⟨_, rfl⟩⟩) ⟨rfl, rfl, rfl⟩ (fun k d σ' xs' hk hJ => ?_) fun σ' xs' hJ => ?_)
  · rw [List.getElem?_map, Option.map_eq_some_iff] at hk
    obtain ⟨k', hk', rfl⟩ := hk
    rw [List.getElem?_eq_some_iff] at hk'
    obtain ⟨hkt, hk'⟩ := hk'
    rw [List.getElem_range] at hk'
    subst hk'
    rw [List.length_range] at hkt
    obtain ⟨hJ1, hJ2, rfl⟩ := hJ
    refine exO_cons (exO_assign (d := intsD [k]) (evW_of (ev_list (evL_cons (ev_name rfl) evL_nil) (by simp [size_line]))) (.inl rfl) ?_)
    refine exO_cons (exO_lift (ex_while (fun m σ1 => ∃ q f rest, m = q ∧ q ≤ f ∧ q < t.length ∧ σ1.lookup (Str.ofString "chain") = some (intsD (q :: rest)) ∧ rest.length + q ≤ 10 ∧ chF t f q ++ rest = chF t k k ∧ σ1.lookup (Str.ofString "chains") = some (addrD D) ∧ σ1.lookup (Str.ofString "table") = some (tblD t) ∧ σ1.lookup (Str.ofString "place") = some (.int (k : Int))) k
      ⟨k, k, [], rfl, Nat.le_refl _, hkt, rfl, by simp; omega, by simp, hJ1, hJ2, rfl⟩ ?_))
    rintro m σ1 ⟨q, f, rest, rfl, hqf, hqt, hc, hrl, hch, h1, h2, h3⟩
    refine ⟨decide (0 < m), evT_cast (evT_cmpIs (ev_item_list (k := 0) (d := .int (m : Int)) (ev_name hc) ev_int (by decide) rfl (by decide)) ev_int cmp_gt) (by rw [decide_eq_decide]; omega), fun h => ?_, fun h => ?_⟩
    · have hm : 0 < m := of_decide_eq_true h
      have hpa := hPA m hm hqt
      obtain ⟨f', rfl⟩ : ∃ f', f = f' + 1 := ⟨f - 1, by omega⟩
      refine exs_cons (ex_assign (d := intsD ((en t m).pa :: m :: rest)) (ev_cast (ev_add_list (ev_list (evL_cons (ev_pa (ev_ent (i := m) (ev_name h2) (ev_item_list (k := 0) (d := .int (m : Int)) (ev_name hc) ev_int (by decide) rfl (by decide)) hqt (by omega))) evL_nil) (by simp [size_line])) (ev_name hc) (by simp; omega)) rfl) (.inl rfl) (exs_nil ?_))
      refine ⟨(en t m).pa, hpa, (en t m).pa, f', m :: rest, rfl, by omega, by omega, rfl, by simp; omega, ?_, h1, h2, h3⟩
      rw [← hch, chF, if_neg (by omega)]; simp
    · have hm : m = 0 := by have := of_decide_eq_false h; omega
      subst hm
      have hcc : 0 :: rest = chF t k k := by
        rw [← hch]
        cases f with
        | zero => rfl
        | succ f => rw [chF, if_pos rfl]; rfl
      show ExsO _ _ _ _ _ _ _ _
      refine exO_cons (exO_if (b := decide (kids1 t k = [])) (evT_cmpIs (ev_comp (ds := (List.range (t.length - 1)).map fun j => 1 + j) (dt := fun (k : Nat) => .int (k : Int)) (p := fun j => (en t j).pa == k) (f := fun (k : Nat) => .int (k : Int))
        (comp_name _ [(Str.ofString "table", tblD t), (Str.ofString "place", .int (k : Int))] ?_ (by decide) rfl (cap_cons h2 rfl rfl (fun _ => rfl) (cap_cons h3 rfl rfl (fun _ => rfl) cap_nil)) (.inl rfl) rfl (by simp; omega) (fun C j hj => evTs_one ?_) fun C j hj _ => ev_name rfl)) (ev_list evL_nil) (cmp_eqD (n := 1) (m := 1) ?_ rfl ?_)) (fun h => ?_) (fun h => exO_nil ?_))
      · refine evI_cast (evI_range2 (a := 1) (b := (t.length : Int)) (vB i ⟨rfl, rfl, rfl⟩ rfl g_range Boot.«range») ev_int (ev_cast (ev_lenN i ⟨rfl, rfl, rfl⟩ rfl (ev_name h2) (by simp; omega)) (by simp)) (by omega) (by omega)) ?_
        rw [rangeD, List.map_map]
        rw [show ((t.length : Int) - 1).toNat = t.length - 1 by omega]
        apply List.map_congr_left
        intro j hj
        simp
      · obtain ⟨j', hj', rfl⟩ := List.mem_map.mp hj
        have := List.mem_range.mp hj'
        refine evT_cmpIs (ev_pa (ev_ent (i := 1 + j') (ev_name rfl) (ev_name rfl) (by omega) (by omega))) (ev_name rfl) (cmp_eqD (n := 0) (m := 0) rfl rfl ?_)
        rw [beq_iff_eq, PyData.int.injEq]; omega
      · simp only [okD, List.all_map, List.all_eq_true]; intro _ _; rfl
      · rw [decide_eq_true_iff, PyData.list.injEq, List.map_eq_nil_iff]; rfl
      · refine exO_cons (exO_append (x := Str.ofString "chains") (d := intsD (0 :: rest)) h1 (evW_of (ev_name hc)) ?_ (exO_nil (exO_nil ⟨h1, h2, ?_⟩)))
        · have hq := List.length_filter_le (fun p => decide (kids1 t p = [])) (List.range k)
          rw [List.length_range] at hq
          simp only [List.length_map]; omega
        · rw [List.range_succ, List.filter_append, List.map_append, List.map_append, hcc]
          simp [of_decide_eq_true h]
      · refine exO_nil ⟨h1, h2, ?_⟩
        rw [List.range_succ, List.filter_append, List.map_append, List.map_append]
        simp [of_decide_eq_false h]
  · obtain ⟨hJ1, hJ2, rfl⟩ := hJ
    rw [List.length_map, List.length_range]
    refine exO_release hJ1 (exs_cons (ex_return (ev_sorted (chs := chsOf t) (ys := ys) (vB i ⟨rfl, rfl, rfl⟩ rfl g_sorted Boot.«sorted») (ev_name rfl) ?_ hp hs) ?_))
    · have hq := List.length_filter_le (fun p => decide (kids1 t p = [])) (List.range t.length)
      rw [List.length_range] at hq
      simp only [chsOf, List.length_map]; omega
    · rfl
end Mine
end

section
open PySem PySem.W PySem.Calls PyProof.Rows PySem.Spec
set_option maxRecDepth 100000
namespace Mine
theorem owner_map : Manifest.owners.lookup (String.ofList ['p', 'a', 'm'].reverse) = some Manifest.sig_map := by kernel_rfl
theorem slot_map_init : Slot "map" "__init__" "object.__init__" :=
  .of (owner := "object") (n := "__init__") (by rw [typeLookup_type, builtinLookup_eq_fast]; kernel_rfl) (by decide +kernel) (by decide +kernel) (by decide +kernel)
    (by first | exact .inl (by decide +kernel) | exact .inr (by decide +kernel)) (by rw [isSubtype_type]; kernel_rfl)
theorem slot_map_next : Slot "map" "__next__" "map.__next__" :=
  .of (owner := "map") (n := "__next__") (by rw [typeLookup_type, builtinLookup_eq_fast]; kernel_rfl) (by decide +kernel) (by decide +kernel) (by decide +kernel)
    (by first | exact .inl (by decide +kernel) | exact .inr (by decide +kernel)) (by rw [isSubtype_type]; kernel_rfl)
theorem slot_map_iter : Slot "map" "__iter__" "map.__iter__" :=
  .of (owner := "map") (n := "__iter__") (by rw [typeLookup_type, builtinLookup_eq_fast]; kernel_rfl) (by decide +kernel) (by decide +kernel) (by decide +kernel)
    (by first | exact .inl (by decide +kernel) | exact .inr (by decide +kernel)) (by rw [isSubtype_type]; kernel_rfl)
theorem entry_map_next : entryFor table "map.__next__" = some Builtin.«map.__next__» := entryFor_of_tree (by kernel_rfl)
theorem entry_map_new : entryFor table "map.__new__" = some Builtin.«map.__new__» := entryFor_of_tree (by kernel_rfl)
theorem entry_map_iter : entryFor table "map.__iter__" = some Builtin.«dict_keyiterator.__iter__» :=
  entryFor_alias (id' := "dict_keyiterator.__iter__") (by kernel_rfl) (by first | rfl | decide +kernel | (unfold String.splitOn; simp +decide [String.splitOnAux])) (by decide +kernel) (by kernel_rfl)
theorem args_map_next (a : Value) : argsOk "map.__next__" ⟨[a], []⟩ := by
  unfold argsOk; rw [signature?_of (id := "map.__next__") (n := ['_', '_', 't', 'x', 'e', 'n', '_', '_']) (o := ['p', 'a', 'm']) (by kernel_rfl) owner_map]; kernel_rfl
theorem args_map_iter (a : Value) : argsOk "map.__iter__" ⟨[a], []⟩ := by
  unfold argsOk; rw [signature?_of (id := "map.__iter__") (n := ['_', '_', 'r', 'e', 't', 'i', '_', '_']) (o := ['p', 'a', 'm']) (by kernel_rfl) owner_map]; kernel_rfl
theorem mro_map : mroOf (.type "map") = pure [.type "map", .type "object"] := by rw [mroOf_type]; kernel_rfl
theorem lookup_map_new : typeLookup (.type "map") "__new__" = pure (some (.builtin "map.__new__")) := by rw [typeLookup_type, builtinLookup_eq_fast]; kernel_rfl
theorem called_map : TypeCalled "map" "map.__new__" "object.__init__" :=
  ⟨by decide +kernel, by decide +kernel, ⟨_, _, mro_map⟩, madeBy_type mro_map lookup_map_new (by decide +kernel), by decide +kernel, by rw [isSubtype_type]; kernel_rfl, slot_map_init⟩
theorem typeCall_map (a b : Value) : checkTypeCall "map" ⟨[a, b], []⟩ = pure () := by kernel_rfl
theorem newCall_map (a b : Value) : checkBuiltinCall "map.__new__" ⟨[.type "map", a, b], []⟩ = pure () := by kernel_rfl
theorem sub_map : isSubtype (.type "map") (.type "map") = pure true := by rw [isSubtype_type]; kernel_rfl
theorem map_no_len : typeLookup (.type "map") "__len__" = pure none := by rw [typeLookup_type, builtinLookup_eq_fast]; kernel_rfl
theorem map_no_hint : typeLookup (.type "map") "__length_hint__" = pure none := by rw [typeLookup_type, builtinLookup_eq_fast]; kernel_rfl

noncomputable abbrev IsMap (h : Heap) (m T : Addr) (f : Value) : Prop := h.get? m = some { cls := .type "map", dict := none, data := .fields #[.ref T, f], slots := #[] }
noncomputable abbrev IsOne (h : Heap) (T : Addr) (a : Value) : Prop := h.get? T = some { cls := .type "tuple", data := .seq #[a] }
noncomputable abbrev mapH1 (h : Heap) (l : Addr) : Heap := h.push { cls := .type "list_iterator", data := .fields #[.ref l, .int 0 0] }
noncomputable abbrev mapH2 (h : Heap) (l : Addr) : Heap := (mapH1 h l).push { cls := .type "tuple", data := .seq #[.ref h.objs.size] }
noncomputable abbrev mapH3 (h : Heap) (l : Addr) (f : Value) : Heap := (mapH2 h l).push { cls := .type "map", data := .fields #[.ref (mapH1 h l).objs.size, f] }
theorem meets_map_new (l : Addr) (f : Value) (xs : Array Value) :
    Meets (Builtin.«map.__new__» ⟨[.type "map", f, .ref l], []⟩) (fun _ R s => s.heap.IsList l xs ∧ R (.ok (.ret (.ref (mapH2 s.heap l).objs.size))) { s with heap := mapH3 s.heap l f }) :=
  .of_wp fun prog w A R s h => by
    obtain ⟨hp, g, d, tk, os⟩ := s; obtain ⟨hl, h⟩ := h
    have hsub := sub_map
    have hL : Heap.IsList (Shared.heap ⟨hp, g, d, tk, os⟩) l xs := hl
    wp_walk using wpAny_pyIter_list hL
    exact ⟨_, rfl, h⟩
section
variable {prog : Program} {w : World} {A : Around} {E : Value → Shared → Prop} {s : Shared}
theorem call_map {l : Addr} {f : Value} {xs : Array Value} {Q : Value → Shared → Prop} (hl : s.heap.IsList l xs)
    (h : ∀ h', IsMap h' (s.heap.objs.size + 2) (s.heap.objs.size + 1) f → IsOne h' (s.heap.objs.size + 1) (.ref s.heap.objs.size) → h'.IsListIter s.heap.objs.size l 0 → h'.objs.size = s.heap.objs.size + 3 →
      (∀ c o, s.heap.get? c = some o → h'.get? c = some o) → Q (.ref (s.heap.objs.size + 2)) { s with heap := h' }) :
    wpAny (model prog w) A (call (.type "map") [f, .ref l]) Q E s := by
  refine callType_new called_map (by decide) (typeCall_map _ _) (newCall_map _ _) (fun obj => F.args_object_init_3 obj _ _) entry_map_new (meets_map_new l f xs) ⟨hl, ?_⟩
  have z1 : (mapH1 s.heap l).objs.size = s.heap.objs.size + 1 := Heap.size_push ..
  have z2 : (mapH2 s.heap l).objs.size = s.heap.objs.size + 2 := by rw [Heap.size_push, z1]
  have z3 : (mapH3 s.heap l f).objs.size = s.heap.objs.size + 3 := by rw [Heap.size_push, z2]
  have g3 : (mapH3 s.heap l f).get? (mapH2 s.heap l).objs.size = some _ := Heap.get?_push_size _ rfl
  have g2 : (mapH3 s.heap l f).get? (mapH1 s.heap l).objs.size = some _ := Heap.get?_push_of_some _ (Heap.get?_push_size _ rfl)
  have g1 : (mapH3 s.heap l f).get? s.heap.objs.size = some _ := Heap.get?_push_of_some _ (Heap.get?_push_of_some _ (Heap.get?_push_size _ rfl))
  show _ ∧ _
  rw [z1, z2] at g3
  rw [z1] at g2
  rw [z2]
  exact ⟨⟨_, g3, rfl⟩, h _ g3 g2 ⟨_, g1, rfl, rfl⟩ z3 fun c o x => Heap.get?_push_of_some _ (Heap.get?_push_of_some _ (Heap.get?_push_of_some _ x))⟩
theorem next_map_item {m T I l : Addr} {f : Value} {k : Nat} {xs : Array Value} {x : Value} {Q : Option Value → Shared → Prop} (hmI : m ≠ I) (hTI : T ≠ I) (hm : IsMap s.heap m T f) (hT : IsOne s.heap T (.ref I)) (h1 : s.heap.IsListIter I l k) (hl : s.heap.IsList l xs) (hx : xs[k]? = some x)
    (hQ : ∀ h', h'.IsListIter I l (k + 1) → Heap.SameBut I s.heap h' → ∀ E, wpAny (model prog w) A.in1 (call f [x]) (fun v s' => Q (some v) s') E { s with heap := h' }) :
    wpAny (model prog w) A (pyNext (.ref m)) Q E s := by
  have hTy : s.TypeIs (.ref m) "map" := ⟨_, hm, rfl⟩
  unfold pyNext
  refine wpAny_bind (wpAny_attempt (wpAny_callSpecial?_slot (name := Str.ofString "__next__") hTy slot_map_next (wpAny_call_entry slot_map_next hTy entry_map_next ?_ (args_map_next _))))
  show wpAny _ _ (field (.ref m) 0 >>= _) _ _ _
  refine wpAny_bind (wpAny_field hm rfl (x := .ref T) rfl ?_)
  refine wpAny_bind (wpAny_seqItems hT rfl ?_)
  refine wpAny_bind ?_
  rw [← Array.forIn_toList]
  simp only [List.forIn_cons, List.forIn_nil]
  refine wpAny_bind (wpAny_bind (wpAny_holding (wpAny_nextOf_list_item h1 hl hx fun h' h1' hs' => wpAny_pure (wpAny_pure ?_))))
  have hm' : IsMap h' m T f := hs'.extBut _ _ hmI hm
  refine wpAny_bind (wpAny_field (s := { s with heap := h' }) hm' rfl (x := f) rfl ?_)
  refine wpAny_bind (wpAny_holding ?_)
  refine wpAny_mono (hQ h' h1' hs' _) (fun v s' hv => ?_) fun _ _ x => x
  exact wpAny_bind (wpAny_letGo (wpAny_pure ⟨_, rfl, wpAny_pure hv⟩))
theorem next_map_end {m T I l : Addr} {f : Value} {k : Nat} {xs : Array Value} {Q : Option Value → Shared → Prop} (hh : A.handled = none) (hm : IsMap s.heap m T f) (hT : IsOne s.heap T (.ref I)) (h1 : s.heap.IsListIter I l k) (hl : s.heap.IsList l xs) (hx : xs[k]? = none)
    (hQ : ∀ h', Heap.ExtBut I s.heap h' → Q none { s with heap := h' }) :
    wpAny (model prog w) A (pyNext (.ref m)) Q E s := by
  have hTy : s.TypeIs (.ref m) "map" := ⟨_, hm, rfl⟩
  unfold pyNext
  refine wpAny_bind (wpAny_attempt (wpAny_callSpecial?_slot (name := Str.ofString "__next__") hTy slot_map_next (wpAny_call_entry slot_map_next hTy entry_map_next ?_ (args_map_next _))))
  show wpAny _ _ (field (.ref m) 0 >>= _) _ _ _
  refine wpAny_bind (wpAny_field hm rfl (x := .ref T) rfl ?_)
  refine wpAny_bind (wpAny_seqItems hT rfl ?_)
  refine wpAny_bind ?_
  rw [← Array.forIn_toList]
  simp only [List.forIn_cons, List.forIn_nil]
  refine wpAny_bind (wpAny_bind (wpAny_holding (wpAny_nextOf_list_end hh h1 hl hx fun h' e he ho => ?_)))
  obtain ⟨o, ho, hc⟩ := ho
  refine wpAny_bind (wpAny_isInstance (T := "StopIteration") (b := true) ⟨o, ho, hc⟩ isSubtype_stop ?_)
  exact wpAny_pure (hQ _ he)
theorem iter_map {m T : Addr} {f : Value} {Q : Value → Shared → Prop} (hm : IsMap s.heap m T f) (h : Q (.ref m) s) : wpAny (model prog w) A (pyIter (.ref m)) Q E s := by
  have hT : s.TypeIs (.ref m) "map" := ⟨_, hm, rfl⟩
  refine wpAny_pyIter_slot hT slot_map_iter (wpAny_call_entry slot_map_iter hT entry_map_iter ?_ (args_map_iter _))
  show wpAny _ _ (ret (.ref m)) _ _ s
  exact wpAny_pure ⟨_, rfl, "map", _, hT, slot_map_next.lookup, h⟩
end
end Mine
end

section
open PySem PySem.W PySem.Calls PyProof.Rows PySem.Spec
set_option maxRecDepth 100000
namespace Mine
section
variable {c : Cx} {A : Around} {S : Addr → Prop} {E : Value → Shared → Prop}
-- all but what is new since s₀ stays
structure MapAt (c : Cx) (s₀ : Shared) (m T I l : Addr) (vs : List Value) (j : Nat) (s : Shared) : Prop where
  k : Keeps s₀ s
  m : IsMap s.heap m T (.ref 94)
  t : IsOne s.heap T (.ref I)
  i : s.heap.IsListIter I l j
  l : s.heap.IsList l vs.toArray
structure MapNew (s₀ : Shared) (m T I l : Addr) (vs : List Value) : Prop where
  mI : m ≠ I
  tI : T ≠ I
  l : s₀.heap.IsList l vs.toArray
  i0 : s₀.heap.get? I = none
theorem KeepS.new {X : Addr → Prop} {s₀ s s' : Shared} (k : Keeps s₀ s) (q : KeepS X s s') (h : ∀ b, X b → s₀.heap.get? b = none) : Keeps s₀ s' := by
  obtain ⟨h₁, tk, rfl, kk⟩ := k
  obtain ⟨h₂, tk₂, rfl, kb⟩ := q
  exact ⟨h₂, tk₂, rfl, fun b o e => kb b o (fun hb => by rw [h b hb] at e; cases e) (kk b o e)⟩
theorem map_turn (i : Is c) {s₀ s : Shared} {m T I l : Addr} {vs : List Value} {j n : Nat} {x : Str} {t : Tok} {Q : Option Value → Shared → Prop} (N : MapNew s₀ m T I l vs) (M : MapAt c s₀ m T I l vs j s) (g : c.Good s₀.heap) (room : Room A (n + 2))
    (hx : vs[j]? = some (.str x t)) (hQ : ∀ t' s', KeepS (fun b => b = I) s s' → MapAt c s₀ m T I l vs (j + 1) s' → Q (some (.str x t')) s') : wpAny c.M A (pyNext (.ref m)) Q E s := by
  refine next_map_item N.mI N.tI M.m M.t M.i M.l (by simpa using hx) fun h' h1' hs' E' => ?_
  have k₁ : KeepS (fun b => b = I) s { s with heap := h' } := ⟨h', s.toks, rfl, KeepB.ofSame hs' rfl⟩
  have kk : Keeps s₀ { s with heap := h' } := KeepS.new M.k k₁ fun b hb => hb ▸ N.i0
  refine wpAny_mono ((fspath_calls (n := n) i).to A.in1 (fun _ => False) { s with heap := h' } [.str x t] _ room.in1 (g.keeps (Keeps.h kk)) (fun _ q => q.elim) (.cons (.str x t) .nil)) (fun v s' p => ?_) fun _ _ e => e
  obtain ⟨t', rfl⟩ := p.2.str_inv
  have kh := Keeps.h p.1
  have l' : h'.IsList l vs.toArray := let ⟨o, ho, q⟩ := N.l; ⟨o, Keeps.h kk _ _ ho, q⟩
  refine hQ t' s' (k₁.trans (KeepS.of p.1)) ⟨Keeps.trans' kk p.1, kh _ _ (hs'.extBut _ _ N.mI M.m), kh _ _ (hs'.extBut _ _ N.tI M.t), (let ⟨o, ho, q⟩ := h1'; ⟨o, kh _ _ ho, q⟩), let ⟨o, ho, q⟩ := l'; ⟨o, kh _ _ ho, q⟩⟩

theorem map_loop (i : Is c) {s₀ : Shared} {m T I l D : Addr} {vs : List Value} {xs : List Str} {n : Nat} {res : Value} {R : Result → Shared → Prop} (N : MapNew s₀ m T I l vs) (g : c.Good s₀.heap) (room : Room A (n + 3)) (hvs : RdAll c.P S s₀.heap vs (xs.map .str)) (hz : xs.length ≤ sizeLine) (d0 : s₀.heap.get? D = none) (dm : D ≠ m) (dT : D ≠ T) (dI : D ≠ I)
    (hR : ∀ s' acc cc, Keeps s₀ s' → RdAll c.P S s₀.heap acc (xs.map .str) → s'.heap.get? D = some { cls := .type "list", data := .seq acc.toArray cc } → R (.ok (.ret res)) s') :
    ∀ (k j : Nat) (s : Shared) (acc : List Value) (cc : Nat), xs.length - j = k → j ≤ xs.length → MapAt c s₀ m T I l vs j s → s.heap.get? D = some { cls := .type "list", data := .seq acc.toArray cc } → RdAll c.P S s₀.heap acc ((xs.take j).map .str) →
    codeAny c.M A (.builtin "list.extend.loop" ⟨[.ref D, .ref m, res], []⟩) R s := by
  have hlen : vs.length = xs.length := by rw [hvs.length, List.length_map]
  intro k
  induction k with
  | zero =>
    intro j s acc cc hk hj M hD hacc
    obtain rfl : j = xs.length := by omega
    refine codeAny_builtin F.entry_extend_loop ?_
    rw [Around.under_plainId F.plain_extend_loop _]
    show wpAny _ A.in1 (pyNext (.ref m) >>= _) _ _ s
    refine wpAny_bind (next_map_end (A := A.in1) (f := .ref 94) room.1 M.m M.t M.i M.l (by simp [hlen]) fun h' he => ?_)
    have kk : Keeps s₀ { s with heap := h' } := KeepS.new M.k (⟨h', s.toks, rfl, KeepB.ofExt he rfl⟩ : KeepS (fun b => b = I) s { s with heap := h' }) fun b hb => hb ▸ N.i0
    refine wpAny_pure (hR _ acc cc kk ?_ (he _ _ dI hD))
    rwa [List.take_of_length_le (Nat.le_refl _)] at hacc
  | succ k ih =>
    intro j s acc cc hk hj M hD hacc
    have hlt : j < xs.length := by omega
    obtain ⟨v, hv, rv⟩ := hvs.get (i := j) (d := .str xs[j]) (by simp [hlt])
    obtain ⟨t, rfl⟩ := rv.str_inv
    refine codeAny_builtin F.entry_extend_loop ?_
    rw [Around.under_plainId F.plain_extend_loop _]
    show wpAny _ A.in1 (pyNext (.ref m) >>= _) _ _ s
    refine wpAny_bind (map_turn (A := A.in1) i N M g (room.in1 (n := n + 2)) hv fun t' s' ks M' => ?_)
    have hD' := ks.b D _ dI hD
    have hal := hacc.length
    show wpAny _ A.in1 (updateSeq D (·.push (.str xs[j] t')) >>= _) _ _ _
    refine wpAny_bind ?_
    refine wpAny_updateSeq hD' rfl (wpAny_pure ⟨plainId_quiet F.plain_extend_loop _, ih (j + 1) _ (acc ++ [.str xs[j] t']) _ (by omega) hlt ?_ (by
      have := Heap.get?_update_self (Obj.mapSeq (·.push (Value.str xs[j] t'))) hD' rfl
      rw [this]; simp [Obj.mapSeq]; rfl) ?_⟩) (by simp at hal ⊢; omega) (by simp at hal ⊢; omega)
    · have oth : ∀ b o, b ≠ D → s'.heap.get? b = some o → (s'.heap.update D (Obj.mapSeq (·.push (Value.str xs[j] t')))).get? b = some o := fun b o hb e => (Heap.get?_update_other _ _ (Ne.symm hb)).trans e
      have dl : l ≠ D := fun q => by obtain ⟨o, ho, _⟩ := N.l; rw [q, d0] at ho; cases ho
      refine ⟨KeepS.new M'.k (⟨_, s'.toks, rfl, fun b o nb e => oth b o nb e⟩ : KeepS (fun b => b = D) s' _) fun b hb => hb ▸ d0, oth _ _ dm.symm M'.m, oth _ _ dT.symm M'.t, (let ⟨o, ho, q⟩ := M'.i; ⟨o, oth _ _ dI.symm ho, q⟩), let ⟨o, ho, q⟩ := M'.l; ⟨o, oth _ _ dl ho, q⟩⟩
    · rw [List.take_add_one, List.getElem?_eq_getElem hlt, List.map_append]
      exact hacc.append (.cons (.str _ _) .nil)
end
end Mine
end

section
open PySem PySem.W PySem.Calls PyProof.Rows PySem.Spec
set_option maxRecDepth 100000
namespace Mine
section
variable {c : Cx} {A : Around} {S : Addr → Prop} {E : Value → Shared → Prop}
theorem map_self {s : Shared} {m T : Addr} {f : Value} {Q : Value → Shared → Prop} (hm : IsMap s.heap m T f) (h : Q (.ref m) s) : wpAny c.M A (pyIter (.ref m)) Q E s := iter_map hm h
theorem map_collect (i : Is c) {s₀ s : Shared} {m T I l : Addr} {vs : List Value} {xs : List Str} {n : Nat} {Q : List Value → Shared → Prop} (N : MapNew s₀ m T I l vs) (M : MapAt c s₀ m T I l vs 0 s) (g : c.Good s₀.heap) (room : Room A (n + 3)) (hvs : RdAll c.P S s₀.heap vs (xs.map .str)) (hz : xs.length ≤ sizeLine)
    (hQ : ∀ s' acc, Keeps s₀ s' → RdAll c.P S s₀.heap acc (xs.map .str) → Q acc s') : wpAny c.M A (collect (.ref m)) Q E s := by
  have hDm : s.heap.objs.size ≠ m := Nat.ne_of_gt (Heap.lt_size M.m)
  have hDT : s.heap.objs.size ≠ T := Nat.ne_of_gt (Heap.lt_size M.t)
  have hDI : s.heap.objs.size ≠ I := by obtain ⟨o, ho, _⟩ := M.i; exact Nat.ne_of_gt (Heap.lt_size ho)
  have hDl : s.heap.objs.size ≠ l := by obtain ⟨o, ho, _⟩ := M.l; exact Nat.ne_of_gt (Heap.lt_size ho)
  have d0 : s₀.heap.get? s.heap.objs.size = none := by
    cases e : s₀.heap.get? s.heap.objs.size with
    | none => rfl
    | some o => have := Keeps.h M.k _ _ e; rw [get_size_none] at this; cases this
  have hTm : s.TypeIs (.ref m) "map" := ⟨_, M.m, rfl⟩
  unfold collect
  refine wpAny_bind (wpAny_runValue (codeAny_builtin F.entry_proto_collect ?_))
  rw [Around.under_plainId F.plain_proto_collect _]
  show wpAny _ A.in1 (newList [] >>= fun l => again (.builtin "list.__iadd__" ⟨[l, .ref m], []⟩)) _ _ s
  refine wpAny_bind (wpAny_newObj_type ?_)
  refine wpAny_pure ⟨plainId_quiet F.plain_list_iadd _, codeAny_builtin F.entry_list_iadd ?_⟩
  rw [Around.under_plainId F.plain_list_iadd _]
  have hTm₁ : ({ s with heap := s.heap.push { cls := .type "list", data := .seq ([] : List Value).toArray } } : Shared).TypeIs (.ref m) "map" := ⟨_, Heap.get?_push_of_some _ M.m, rfl⟩
  show wpAny _ A.in1 (Builtin.List.listExtendWith (.ref s.heap.objs.size) (.ref m) (.ref s.heap.objs.size)) _ _ _
  unfold Builtin.List.listExtendWith
  refine wpAny_bind (wpAny_typeOf hTm₁ ?_)
  have h1 : Builtin.List.listSameRef (.ref s.heap.objs.size) (.ref m) = false := by simp [Builtin.List.listSameRef, hDm]
  have h2 : (Value.type "map" == Value.type "list") = false := by decide
  have h3 : (Value.type "map" == Value.type "tuple") = false := by decide
  simp only [h1, h2, h3, Bool.or_false, Bool.false_eq_true, if_false]
  refine wpAny_bind (map_self (T := T) (f := .ref 94) (s := { s with heap := s.heap.push { cls := .type "list", data := .seq ([] : List Value).toArray } }) (Heap.get?_push_of_some _ M.m) ?_)
  refine wpAny_bind (wpAny_holding ?_)
  unfold Builtin.List.listLengthHint
  refine wpAny_bind (wpAny_specialOf hTm₁ map_no_len ?_)
  show wpAny _ A.in1 (specialOf (Value.ref m) (Str.ofString "__length_hint__") >>= _) _ _ _
  refine wpAny_bind (wpAny_specialOf hTm₁ map_no_hint ?_)
  refine wpAny_pure ?_
  show wpAny _ A.in1 (rule "list.extend.makes-room" >>= fun _ => Builtin.List.listTouch (.ref s.heap.objs.size) >>= fun _ =>
    again (.builtin "list.extend.loop" ⟨[.ref s.heap.objs.size, .ref m, .ref s.heap.objs.size], []⟩)) _ _ _
  refine wpAny_bind (wpAny_rule ?_)
  have hS₁ : (s.heap.push { cls := .type "list", data := .seq ([] : List Value).toArray }).get? s.heap.objs.size = some { cls := .type "list", data := .seq ([] : List Value).toArray } := Heap.get?_push_size _ rfl
  refine wpAny_bind ?_
  show wpAny _ A.in1 (updateSeq s.heap.objs.size (·.push .none) >>= fun _ => updateSeq s.heap.objs.size (·.pop)) _ _ _
  refine wpAny_bind (wpAny_updateSeq hS₁ rfl ?_)
  have hS₂ := Heap.get?_update_self (Obj.mapSeq (·.push Value.none)) hS₁ rfl
  refine wpAny_updateSeq hS₂ rfl ?_
  have hS₃ := Heap.get?_update_self (Obj.mapSeq (·.pop)) hS₂ rfl
  have oth : ∀ b o, b ≠ s.heap.objs.size → (s.heap.push { cls := .type "list", data := .seq ([] : List Value).toArray }).get? b = some o →
      (((s.heap.push { cls := .type "list", data := .seq ([] : List Value).toArray }).update s.heap.objs.size (Obj.mapSeq (·.push Value.none))).update s.heap.objs.size (Obj.mapSeq (·.pop))).get? b = some o :=
    fun b o hb e => (Heap.get?_update_other _ _ (Ne.symm hb)).trans ((Heap.get?_update_other _ _ (Ne.symm hb)).trans e)
  have oth' : ∀ b o, b ≠ s.heap.objs.size → s.heap.get? b = some o → _ := fun b o hb e => oth b o hb (Heap.get?_push_of_some _ e)
  refine wpAny_pure ⟨plainId_quiet F.plain_extend_loop _, map_loop (s₀ := s₀) (I := I) (T := T) (l := l) (vs := vs) (n := n) i N g room hvs hz d0 hDm hDT hDI (fun s' acc cc kk hacc hD => ?_) xs.length 0 _ [] _ rfl (Nat.zero_le _) ?_ hS₃ .nil⟩
  · show wpAny _ A (load s.heap.objs.size >>= _) _ _ s'
    refine wpAny_bind (wpAny_load hD ?_)
    exact wpAny_pure (hQ s' acc kk hacc)
  · have ks : KeepS (fun b => b = s.heap.objs.size) s { s with heap := ((s.heap.push { cls := .type "list", data := .seq ([] : List Value).toArray }).update s.heap.objs.size (Obj.mapSeq (·.push Value.none))).update s.heap.objs.size (Obj.mapSeq (·.pop)) } := ⟨_, s.toks, rfl, fun b o nb e => oth' b o nb e⟩
    exact ⟨KeepS.new M.k ks fun b hb => hb ▸ d0, oth' _ _ hDm.symm M.m, oth' _ _ hDT.symm M.t, (let ⟨o, ho, q⟩ := M.i; ⟨o, oth' _ _ hDI.symm ho, q⟩), let ⟨o, ho, q⟩ := M.l; ⟨o, oth' _ _ hDl.symm ho, q⟩⟩
theorem code_tuple_map (i : Is c) {s₀ s : Shared} {m T I l : Addr} {vs : List Value} {xs : List Str} {n : Nat} {Q₁ : Value → Shared → Prop} (N : MapNew s₀ m T I l vs) (M : MapAt c s₀ m T I l vs 0 s) (g : c.Good s₀.heap) (room : Room A (n + 5)) (sb : SB S s₀.heap) (hvs : RdAll c.P S s₀.heap vs (xs.map .str)) (hz : xs.length ≤ sizeLine)
    (hQ : ∀ v s', s'.TypeIs v "tuple" → Post c S s₀ (.tuple (xs.map .str)) v s' → Q₁ v s') :
    codeAny c.M A (.call (.builtin "tuple.__new__") ⟨[.type "tuple", .ref m], []⟩) (wants Q₁ E) s := by
  refine codeAny_of_tree ?_
  show wpAny _ A.in1 (do checkBuiltinCall "tuple.__new__" ⟨[.type "tuple", .ref m], []⟩; again (.builtin "tuple.__new__" ⟨[.type "tuple", .ref m], []⟩)) _ _ s
  refine wpAny_bind (wpAny_of_eq (F.newCall_tuple_1 _) (wpAny_pure ⟨plainId_quiet F.plain_tuple_new _, codeAny_builtin F.entry_tuple_new ?_⟩))
  rw [Around.under_plainId F.plain_tuple_new _]
  have hsub := sub_tuple_self
  have hinit := init_tuple_lookup
  have hmh := madeHere_tuple
  have hTI : s.TypeIs (.ref m) "map" := ⟨_, M.m, rfl⟩
  have room' : Room A.in1 (n + 1 + 3) := room.in1 (n := n + 4)
  wp_walk using wpAny_typeOf hTI, map_collect (n := n + 1) i N M g room' hvs hz
  intro s' acc k hacc
  show wpAny _ _ (Builtin.Tuple.tupleExact acc.toArray >>= fun v => ret v) _ _ _
  unfold Builtin.Tuple.tupleExact
  have hal : acc.length = xs.length := by rw [hacc.length, List.length_map]
  refine wpAny_bind (wpAny_newObj_type ?_ (by show acc.toArray.size ≤ sizeLine; simp; omega))
  refine wpAny_pure ?_
  have hk2 : Keeps s₀ { s' with heap := s'.heap.push { cls := .type "tuple", data := .seq acc.toArray } } := Keeps.trans' k (Keeps.push _)
  refine hQ _ _ ⟨_, Heap.get?_push_size _ rfl, rfl⟩ ⟨hk2, .tuple ((sb.keep (Keeps.h k)).size) (Heap.get?_push_size _ rfl) rfl rfl ?_⟩
  simpa using hacc.keep (Keeps.h hk2)
theorem call_tuple_map (i : Is c) {s₀ s : Shared} {m T I l : Addr} {vs : List Value} {xs : List Str} {n : Nat} {Q : Value → Shared → Prop} (N : MapNew s₀ m T I l vs) (M : MapAt c s₀ m T I l vs 0 s) (g : c.Good s₀.heap) (room : Room A (n + 6)) (sb : SB S s₀.heap) (hvs : RdAll c.P S s₀.heap vs (xs.map .str)) (hz : xs.length ≤ sizeLine)
    (hQ : ∀ v s', Post c S s₀ (.tuple (xs.map .str)) v s' → Q v s') : wpAny c.M A (call (.type "tuple") [.ref m]) Q E s := by
  refine callType_codes (Q₁ := fun obj s₁ => s₁.TypeIs obj "tuple" ∧ Q obj s₁) F.called_tuple (F.typeCall_tuple_1 _) F.entry_object_init
    (code_tuple_map (n := n) i N M g (room.in1 (n := n + 5)) sb hvs hz fun v s' ht p => ⟨ht, hQ v s' p⟩) fun obj s₁ h₁ => ?_
  exact ⟨h₁.1, F.args_object_init_2 obj _, object_init_meets F.called_tuple.init.lookup F.called_tuple.made (by decide) c.prog c.w A.in1 _ s₁ ⟨h₁.1, rfl, h₁.2⟩⟩
end
end Mine
end

section
open PySem PySem.W PySem.Calls PyProof.Rows PySem.Spec
set_option maxRecDepth 100000
namespace Mine
section
variable {P : Params}
theorem g_tuple : nsIn (kF P) mainGlobals (Str.ofString "tuple") = some none := by rfl
theorem g_map : nsIn (kF P) mainGlobals (Str.ofString "map") = some none := by rfl
theorem g_min : nsIn (kF P) mainGlobals (Str.ofString "min") = some none := by rfl
theorem g_enumerate : nsIn (kF P) mainGlobals (Str.ofString "enumerate") = some none := by rfl
theorem g_ValueError : nsIn (kF P) mainGlobals (Str.ofString "ValueError") = some none := by rfl
end
section
variable {c : Cx} {env : Env} {n : Nat} {σ : List (Str × PyData)}
theorem ev_tuple_map {p p1 p2 e p4 p5} {xs : List Str} (i : Is c) (pl : Plain env) (hx : env.kindOf (Str.ofString "tuple") = some .globalImplicit) (hx2 : env.kindOf (Str.ofString "map") = some .globalImplicit) (hx3 : env.kindOf (Str.ofString "fspath") = some .globalImplicit)
    (he : Ev c env n σ e (.list (xs.map .str))) (hn : 6 ≤ n) (hz : xs.length ≤ sizeLine)
    (hs : starEach [.Name (Str.ofString "fspath") p2, e] env = (false, eval (.Name (Str.ofString "fspath") p2) env) :: starEach [e] env := by rfl) (hs' : starEach [e] env = (false, eval e env) :: starEach [] env := by rfl) :
    Ev c env n σ (.Call (.Name (Str.ofString "tuple") p) [.Call (.Name (Str.ofString "map") p1) [.Name (Str.ofString "fspath") p2, e] [] p4] [] p5) (.tuple (xs.map .str)) := fun A S s E a => by
  show wpAny _ _ (eval (.Name (Str.ofString "tuple") p) env >>= fun f => callWith p5 f [] (backTo p5 ((false, eval (.Call (.Name (Str.ofString "map") p1) [.Name (Str.ofString "fspath") p2, e] [] p4) env) :: starEach [] env)) (backToKw p5 (keywordEach [] env))) _ _ s
  refine wpAny_bind (wpAny_mono ((vB i pl hx g_tuple Boot.«tuple» : EvV c env n σ (.Name (Str.ofString "tuple") p) (.type "tuple")) A S s E a) (fun v s₁ p₁ => ?_) fun _ _ x => x)
  obtain ⟨rfl, rfl⟩ := p₁
  refine PySem.callWith_type rfl (evalArgs_plain (spliced_cons ?_))
  show wpAny _ _ (eval (.Name (Str.ofString "map") p1) env >>= fun f => callWith p4 f [] (backTo p4 (starEach [.Name (Str.ofString "fspath") p2, e] env)) (backToKw p4 (keywordEach [] env))) _ _ _
  refine wpAny_bind (wpAny_mono ((vB i pl hx2 g_map Boot.«map» : EvV c env n σ (.Name (Str.ofString "map") p1) (.type "map")) A S _ E a) (fun v s₁ p₁ => ?_) fun _ _ x => x)
  obtain ⟨rfl, rfl⟩ := p₁
  have ha' := evL_cons (ev_addr (vG i pl hx3 g_fspath)) (evL_cons he evL_nil hs') hs A S _ E p4 a
  rw [hs] at ha' ⊢
  refine PySem.callWith_type (by rw [hs']; rfl) (evalArgs_plain (wpAny_mono ha' (fun vs s₂ p₂ => ?_) fun _ _ x => x))
  obtain ⟨k, r⟩ := p₂
  obtain ⟨v, v', rfl, r₁, r₂⟩ := r.two
  obtain rfl := r₁.addr_inv
  obtain ⟨l, ws, rfl, hl, q, hS⟩ := r₂.list_inv
  have a₂ := a.keep k
  refine call_map hl fun h' hm ho hi hsz hk => ?_
  refine spliced_nil ?_
  have l' : h'.IsList l ws.toArray := let ⟨o, ho, q⟩ := hl; ⟨o, hk _ _ ho, q⟩
  exact call_tuple_map (s₀ := s₂) (S := S) (n := n - 6) (vs := ws) i ⟨Nat.ne_of_gt (Nat.lt_add_of_pos_right (by decide)), Nat.ne_of_gt (Nat.lt_add_of_pos_right (by decide)), hl, get_size_none _⟩ ⟨⟨h', s₂.toks, rfl, hk⟩, hm, ho, hi, l'⟩ a₂.good (a₂.room.le (by omega)) a₂.sb q hz fun v s' p => p.from k
end
end Mine
end

section
open PySem PySem.W PySem.Calls PyProof.Rows PySem.Spec
set_option maxRecDepth 100000
namespace Mine
-- the hash of a bool
noncomputable def hb (b : Bool) : Int := if b then 1 else 0
-- a set that holds False if f, True if t
noncomputable def setData (led : Bool) : Bool → Bool → Data
  | false, false => .set #[] 0 (.fresh 0 0 led)
  | true, false => .set #[(0, .bool false)] 1 { mask := 7, place := #[0], dummies := #[], finger := 0, led := led, moves := 0, plain := true }
  | false, true => .set #[(1, .bool true)] 1 { mask := 7, place := #[1], dummies := #[], finger := 0, led := led, moves := 0, plain := true }
  | true, true => .set #[(0, .bool false), (1, .bool true)] 2 { mask := 7, place := #[0, 1], dummies := #[], finger := 0, led := led, moves := 0, plain := true }
noncomputable def setObj (led f t : Bool) : Obj := { cls := .type "set", dict := none, data := setData led f t }
section
variable {prog : Program} {w : World} {A : Around} {E : Value → Shared → Prop} {s : Shared} {a : Addr} {led f t b : Bool}
theorem hash_bool {Q : Int → Shared → Prop} (h : ∀ tk, Q (hb b) { s with toks := tk }) : wpAny (model prog w) A (pyHash (.bool b)) Q E s := by
  refine pyHash_slot (T := "bool") rfl F.slot_bool_hash entry_int_hash (args_int_hash _) (beq_builtin_none _) (.inl rfl) ?_
  cases b
  · exact (show wpAny _ _ (do ret (← mkInt 0)) _ _ s from wpAny_bind (wpAny_mkInt (wpAny_pure ⟨_, _, rfl, h _⟩)))
  · exact (show wpAny _ _ (do ret (← mkInt 1)) _ _ s from wpAny_bind (wpAny_mkInt (wpAny_pure ⟨_, _, rfl, h _⟩)))
theorem eqBool_same {Q : Bool → Shared → Prop} (h : Q true s) : wpAny (model prog w) A (eqBool (.bool b) (.bool b)) Q E s := by
  unfold eqBool
  show wpAny _ _ (if (Value.bool b == Value.bool b) = true then _ else _) Q E s
  rw [if_pos (by cases b <;> rfl)]
  exact wpAny_bind (wpAny_rule (wpAny_pure h))
theorem state_set {Q : (Array (Int × Value) × Nat × SetTable) → Shared → Prop} {es ep tb} (ho : s.heap.get? a = some (setObj led f t)) (he : setData led f t = .set es ep tb) (hf : tb.fits es.size = true) (h : Q (es, ep, tb) s) : wpAny (model prog w) A (setState a) Q E s :=
  wpAny_setState_of ho he hf h
theorem scan_hit {Q : ScanMet → Shared → Prop} {es ep tb} (ho : s.heap.get? a = some (setObj led f t)) (he : setData led f t = .set es ep tb) (hf : tb.fits es.size = true) {l i h} (hh : h = hb b) (hQ : Q (.found i) s) : wpAny (model prog w) A (setScanFrom a (.bool b) h true ((h, .bool b) :: l) i) Q E s := by
  unfold setScanFrom
  rw [if_pos (by simp)]
  refine wpAny_bind (wpAny_setEpoch_of ho he hf (wpAny_bind (eqBool_same ?_)))
  simp only [Bool.and_self, if_true]
  exact wpAny_pure hQ
theorem scan_miss {Q : ScanMet → Shared → Prop} {v : Value} {l i h h'} (hh : h' ≠ h) (hQ : wpAny (model prog w) A (setScanFrom a (.bool b) h true l (i + 1)) Q E s) : wpAny (model prog w) A (setScanFrom a (.bool b) h true ((h', v) :: l) i) Q E s := by
  unfold setScanFrom
  rw [if_neg (by simpa using hh)]
  exact hQ
theorem scan_nil {Q : ScanMet → Shared → Prop} {i h} (hQ : Q .absent s) : wpAny (model prog w) A (setScanFrom a (.bool b) h true [] i) Q E s := by
  unfold setScanFrom; exact wpAny_pure hQ
theorem stepSet (g t' : Bool) {Q : Bool → Shared → Prop} {es ep tb es' tb' wd gv} (ho : s.heap.get? a = some (setObj led f t)) (he : setData led f t = .set es ep tb) (hf : tb.fits es.size = true) (hl : layNew tb es (hb b) (.bool b) = (es', tb', wd, gv)) (hgv : gv = false) (hp : tb'.plain = true)
    (hs : tb'.tooFull = false) (hn : setData led g t' = .set es' (ep + 1) tb') (hsz : es'.size ≤ sizeLine) (hsc : wpAny (model prog w) A (setScanFrom a (.bool b) (hb b) true es.toList 0) (fun m s' => m = .absent ∧ s' = s) E s) (hby : byScan (.bool b) es = true)
    (h : ∀ h', Heap.SameBut a s.heap h' → h'.get? a = some (setObj led g t') → Q true { s with heap := h' }) : wpAny (model prog w) A (setAddHashed a (.bool b) (hb b)) Q E s := by
  unfold setAddHashed setAddHashedIn
  refine wpAny_holding (wpAny_bind (state_set ho he hf ?_))
  dsimp only
  rw [hby]
  simp only [↓reduceIte]
  unfold setAddByScan
  refine wpAny_bind (wpAny_bind (wpAny_rule (wpAny_bind (wpAny_mono hsc (fun m s' q => ?_) fun _ _ e => e))))
  obtain ⟨rfl, rfl⟩ := q
  dsimp only
  rw [hl]
  dsimp only
  subst hgv
  refine wpAny_bind (wpAny_pure ?_)
  rw [if_pos hp]
  refine wpAny_bind ?_
  rw [hashByValue_scannable 8 (x := .bool b) rfl]
  refine wpAny_pure ?_
  rw [show plainKind (.bool b) = true from rfl]
  simp only [↓reduceIte]
  refine wpAny_bind ?_
  unfold storeSet
  refine wpAny_bind (wpAny_load ho ?_)
  show wpAny _ _ (match setData led f t with | .set .. => _ | _ => _) _ _ _
  rw [he]
  dsimp only
  rw [if_neg (by omega)]
  refine wpAny_bind (wpAny_pure ?_)
  refine wpAny_update ho ?_
  rw [hs]
  simp only [Bool.and_false, Bool.false_eq_true, if_false]
  refine wpAny_pure (wpAny_pure (h _ (Heap.SameBut.update ..) ?_))
  rw [Heap.get?_update_self _ ho (by show Obj.isFreed _ = false; unfold setObj; rw [he]; rfl)]
  unfold setObj
  rw [he, hn]; rfl
theorem stayS {Q : Bool → Shared → Prop} {es ep tb i} (ho : s.heap.get? a = some (setObj led f t)) (he : setData led f t = .set es ep tb) (hf : tb.fits es.size = true) (hsc : wpAny (model prog w) A (setScanFrom a (.bool b) (hb b) true es.toList 0) (fun m s' => m = .found i ∧ s' = s) E s) (hby : byScan (.bool b) es = true)
    (h : Q false s) : wpAny (model prog w) A (setAddHashed a (.bool b) (hb b)) Q E s := by
  unfold setAddHashed setAddHashedIn
  refine wpAny_holding (wpAny_bind (state_set ho he hf ?_))
  dsimp only
  rw [hby]
  simp only [↓reduceIte]
  unfold setAddByScan
  refine wpAny_bind (wpAny_bind (wpAny_rule (wpAny_bind (wpAny_mono hsc (fun m s' q => ?_) fun _ _ e => e))))
  obtain ⟨rfl, rfl⟩ := q
  exact wpAny_pure (wpAny_pure h)
theorem addHashed_bool {Q : Bool → Shared → Prop} (ho : s.heap.get? a = some (setObj led f t)) (h : ∀ r h', Heap.SameBut a s.heap h' → h'.get? a = some (setObj led (f || !b) (t || b)) → Q r { s with heap := h' }) : wpAny (model prog w) A (setAddHashed a (.bool b) (hb b)) Q E s := by
  have hself : ∀ r, setObj led f t = setObj led (f || !b) (t || b) → Q r s := fun r e => by
    have := h r s.heap (Heap.SameBut.refl a s.heap) (e ▸ ho)
    exact this
  cases f <;> cases t <;> cases b
  · exact stepSet true false ho rfl (by cases led <;> rfl) (es' := #[(0, .bool false)]) (tb' := { mask := 7, place := #[0], dummies := #[], finger := 0, led := led, moves := 0, plain := true }) (wd := false) (gv := false) (by cases led <;> rfl) rfl rfl (by cases led <;> rfl) rfl (by simp [sizeLine_eq]) (scan_nil ⟨rfl, rfl⟩) (by simp [byScan, Value.scannable, scanBound]) fun h' => h true h'
  · exact stepSet false true ho rfl (by cases led <;> rfl) (es' := #[(1, .bool true)]) (tb' := { mask := 7, place := #[1], dummies := #[], finger := 0, led := led, moves := 0, plain := true }) (wd := false) (gv := false) (by cases led <;> rfl) rfl rfl (by cases led <;> rfl) rfl (by simp [sizeLine_eq]) (scan_nil ⟨rfl, rfl⟩) (by simp [byScan, Value.scannable, scanBound]) fun h' => h true h'
  · exact stepSet true true ho rfl (by cases led <;> rfl) (es' := #[(0, .bool false), (1, .bool true)]) (tb' := { mask := 7, place := #[0, 1], dummies := #[], finger := 0, led := led, moves := 0, plain := true }) (wd := false) (gv := false) (by cases led <;> rfl) rfl rfl (by cases led <;> rfl) rfl (by simp [sizeLine_eq]) (scan_miss (by decide) (scan_nil ⟨rfl, rfl⟩)) (by simp [byScan, Value.scannable, scanBound]) fun h' => h true h'
  · exact stayS ho rfl (by cases led <;> rfl) (scan_hit ho rfl (by cases led <;> rfl) rfl ⟨rfl, rfl⟩) (by simp [byScan, Value.scannable, scanBound]) (hself false rfl)
  · exact stayS ho rfl (by cases led <;> rfl) (scan_hit ho rfl (by cases led <;> rfl) rfl ⟨rfl, rfl⟩) (by simp [byScan, Value.scannable, scanBound]) (hself false rfl)
  · exact stepSet true true ho rfl (by cases led <;> rfl) (es' := #[(0, .bool false), (1, .bool true)]) (tb' := { mask := 7, place := #[0, 1], dummies := #[], finger := 0, led := led, moves := 0, plain := true }) (wd := false) (gv := false) (by cases led <;> rfl) rfl rfl (by cases led <;> rfl) rfl (by simp [sizeLine_eq]) (scan_miss (by decide) (scan_nil ⟨rfl, rfl⟩)) (by simp [byScan, Value.scannable, scanBound]) fun h' => h true h'
  · exact stayS ho rfl (by cases led <;> rfl) (scan_hit ho rfl (by cases led <;> rfl) rfl ⟨rfl, rfl⟩) (by simp [byScan, Value.scannable, scanBound]) (hself false rfl)
  · exact stayS ho rfl (by cases led <;> rfl) (scan_miss (by decide) (scan_hit ho rfl (by cases led <;> rfl) rfl ⟨rfl, rfl⟩)) (by simp [byScan, Value.scannable, scanBound]) (hself false rfl)
theorem add_bool {Q : Value → Shared → Prop} (ho : s.heap.get? a = some (setObj led f t)) (h : ∀ h' tk, Heap.SameBut a s.heap h' → h'.get? a = some (setObj led (f || !b) (t || b)) → Q .none { s with heap := h', toks := tk }) :
    wpAny (model prog w) A (call (.builtin "set.add") [.ref a, .bool b]) Q E s := by
  refine wpAny_call_entry F.slot_set_add (⟨_, ho, rfl⟩ : s.TypeIs (.ref a) "set") F.entry_set_add ?_ (F.args_set_add_2 _ _)
  unfold Builtin.«set.add» Builtin.Frozenset.oneOther
  simp only [List.isEmpty_nil, bind_assoc]
  unfold Builtin.Frozenset.addrOf setAdd
  refine wpAny_bind (wpAny_pure ?_)
  try dsimp only
  refine wpAny_bind (wpAny_pure ?_)
  try dsimp only
  refine wpAny_bind ?_
  refine wpAny_holding ?_
  refine wpAny_bind (hash_bool fun tk => ?_)
  refine addHashed_bool (s := { s with toks := tk }) ho fun r h' hsb hS' => ?_
  show wpAny _ _ (ret Value.none) _ _ _
  exact wpAny_pure ⟨_, rfl, h h' tk hsb hS'⟩
end
end Mine
end

section
open PySem PySem.W PySem.Calls PyProof.Rows PySem.Spec
set_option maxRecDepth 100000
namespace Mine
theorem owner_set_iterator : Manifest.owners.lookup (String.ofList ['s', 'e', 't', '_', 'i', 't', 'e', 'r', 'a', 't', 'o', 'r']) = some Manifest.sig_set_iterator := by kernel_rfl
theorem slot_set_iterator_next : Slot "set_iterator" "__next__" "set_iterator.__next__" :=
  .of (owner := "set_iterator") (n := "__next__") (by rw [typeLookup_type, builtinLookup_eq_fast]; kernel_rfl) (by decide +kernel) (by decide +kernel) (by decide +kernel)
    (by first | exact .inl (by decide +kernel) | exact .inr (by decide +kernel)) (by rw [isSubtype_type]; kernel_rfl)
theorem entry_set_iterator_next : entryFor table "set_iterator.__next__" = some Builtin.«set_iterator.__next__» := entryFor_of_tree (by kernel_rfl)
theorem args_set_iterator_next (a : Value) : argsOk "set_iterator.__next__" ⟨[a], []⟩ := by
  unfold argsOk; rw [signature?_of (id := "set_iterator.__next__") (n := ['_', '_', 't', 'x', 'e', 'n', '_', '_']) (o := ['r', 'o', 't', 'a', 'r', 'e', 't', 'i', '_', 't', 'e', 's']) (by kernel_rfl) owner_set_iterator]; kernel_rfl
theorem entry_set_iter : entryFor table "set.__iter__" = some Builtin.«frozenset.__iter__» :=
  entryFor_alias (id' := "frozenset.__iter__") (by kernel_rfl) rfl (by decide +kernel) (by kernel_rfl)
end Mine
namespace Mine
theorem pick1 {α : Type} (g : Nat → Nat) (e : α) : pickOrder g #[e] = #[e] := by
  unfold pickOrder
  show pickOrder.go g 1 0 [e] #[] = _
  unfold pickOrder.go
  have : g 0 % [e].length = 0 := Nat.mod_one _
  rw [this]; rfl
theorem pick2 {α : Type} (g : Nat → Nat) (e d : α) : pickOrder g #[e, d] = #[e, d] ∨ pickOrder g #[e, d] = #[d, e] := by
  unfold pickOrder
  have h : g 0 % 2 = 0 ∨ g 0 % 2 = 1 := by omega
  have h1 : g 1 % 1 = 0 := Nat.mod_one _
  rcases h with h | h
  · left
    show pickOrder.go g 2 0 [e, d] #[] = _
    unfold pickOrder.go
    rw [show g 0 % [e, d].length = 0 from h]
    show pickOrder.go g 1 1 [d] #[e] = _
    unfold pickOrder.go
    rw [show g 1 % [d].length = 0 from h1]; rfl
  · right
    show pickOrder.go g 2 0 [e, d] #[] = _
    unfold pickOrder.go
    rw [show g 0 % [e, d].length = 1 from h]
    show pickOrder.go g 1 1 [e] #[d] = _
    unfold pickOrder.go
    rw [show g 1 % [e].length = 0 from h1]; rfl
-- the worlds in which a set's order is by the text
noncomputable def bt (w : World) : Bool := w.params.followText "set-order"
section
variable {prog : Program} {w : World} {A : Around} {E : Value → Shared → Prop} {s : Shared} {a : Addr} {f t b : Bool}
theorem byText_at {Q : Bool → Shared → Prop} (h : Q (bt w) s) : wpAny (model prog w) A setsByText Q E s := by
  unfold setsByText
  exact wpAny_bind (wpAny_askSetting (wpAny_pure h))
theorem fitsSet (led : Bool) : ∃ es tb, setData led f t = .set es (f.toNat + t.toNat) tb ∧ tb.fits es.size = true ∧ es.size = f.toNat + t.toNat ∧ tb.led = led ∧ tb.plain = true := by
  cases f <;> cases t <;> exact ⟨_, _, rfl, by cases led <;> rfl, rfl, rfl, rfl⟩
theorem drawn_set {Q : Bool → Shared → Prop} {led : Bool} (ho : s.heap.get? a = some (setObj led f t)) (h : Q false s) : wpAny (model prog w) A (setDrawn a) Q E s := by
  obtain ⟨es, tb, he, hf, _, _, hp⟩ := fitsSet (f := f) (t := t) led
  unfold setDrawn
  refine wpAny_bind (state_set ho he hf (wpAny_bind (byText_at (wpAny_pure ?_))))
  refine (congrArg (fun b => Q b s) ?_).mpr h
  show (!bt w && (!tb.plain && _)) = false
  rw [hp]; simp
theorem entries_set {Q : Array (Int × Value) → Shared → Prop} {led : Bool} {es ep tb} (ho : s.heap.get? a = some (setObj led f t)) (he : setData led f t = .set es ep tb) (hf : tb.fits es.size = true) (h : Q es s) : wpAny (model prog w) A (setEntries a) Q E s := by
  unfold setEntries
  exact wpAny_bind (state_set ho he hf (wpAny_pure h))
noncomputable abbrev setIterObj (S : Addr) (slot i n : Nat) : Obj := { cls := .type "set_iterator", data := .fields #[rawInt slot, rawInt i, .ref S, rawInt n, rawInt n] }
theorem iter_set {led : Bool} {Q : Value → Shared → Prop} (ho : s.heap.get? a = some (setObj led f t)) (h : Q (.ref s.heap.objs.size) { s with heap := s.heap.push (setIterObj a 0 0 (f.toNat + t.toNat)) }) : wpAny (model prog w) A (pyIter (.ref a)) Q E s := by
  have hT : s.TypeIs (.ref a) "set" := ⟨_, ho, rfl⟩
  obtain ⟨es, tb, he, hf, hs, _, hp⟩ := fitsSet (f := f) (t := t) led
  refine wpAny_pyIter_slot hT F.slot_set_iter (wpAny_call_entry F.slot_set_iter hT entry_set_iter ?_ (F.args_set_iter_1 _))
  unfold Builtin.«frozenset.__iter__» Builtin.Frozenset.slot0 slotArgs
  simp only [List.isEmpty_nil, Bool.not_true, Bool.false_eq_true, ↓reduceIte, bind_assoc, List.length_nil, bne_self_eq_false]
  unfold Builtin.Frozenset.addrOf Builtin.Frozenset.sizeOf
  refine wpAny_bind (wpAny_pure ?_)
  try dsimp only
  refine wpAny_bind (wpAny_pure ?_)
  refine wpAny_bind (wpAny_bind (entries_set ho he hf (wpAny_pure ?_)))
  refine wpAny_bind (drawn_set ho ?_)
  simp only [Bool.false_eq_true, ↓reduceIte]
  refine wpAny_bind (wpAny_pure ?_)
  refine wpAny_bind (wpAny_setEpoch_of ho he hf ?_)
  refine wpAny_bind (wpAny_newObj_type (wpAny_pure ⟨_, rfl, "set_iterator", _, ⟨_, Heap.get?_push_size _ rfl, rfl⟩, slot_set_iterator_next.lookup, ?_⟩))
  rw [hs]
  exact h
end
end Mine
end

section
open PySem PySem.W PySem.Calls PyProof.Rows PySem.Spec
set_option maxRecDepth 100000
namespace Mine
section
variable {prog : Program} {w : World} {A : Around} {E : Value → Shared → Prop} {s : Shared} {a : Addr} {f t b : Bool}
theorem walk_set {Q : Array (Int × Value) → Shared → Prop} {led : Bool} {es ep tb} (ho : s.heap.get? a = some (setObj led f t)) (he : setData led f t = .set es ep tb) (hf : tb.fits es.size = true) (hbt : bt w = true) (h : Q (pickOrder (w.params.setOrder a ep) es) s) : wpAny (model prog w) A (setWalk a) Q E s := by
  unfold setWalk
  refine wpAny_bind (state_set ho he hf (wpAny_bind (byText_at ?_)))
  rw [hbt]
  simp only [if_true]
  exact wpAny_bind (wpAny_askSetting (wpAny_pure h))
-- the next element by the text's order
theorem next_text {Q : Option (Value × Nat) → Shared → Prop} {led : Bool} {es ep tb} {slot i : Nat} (ho : s.heap.get? a = some (setObj led f t)) (he : setData led f t = .set es ep tb) (hf : tb.fits es.size = true) (hbt : bt w = true)
    (h : Q (((pickOrder (w.params.setOrder a ep) es)[i]?).map fun e => (e.2, slot)) s) : wpAny (model prog w) A (setNext a slot i ep) Q E s := by
  unfold setNext
  refine wpAny_bind (state_set ho he hf (wpAny_bind (byText_at ?_)))
  rw [hbt]
  simp only [if_true]
  rw [if_neg (by simp)]
  exact wpAny_bind (walk_set ho he hf hbt (wpAny_pure h))
-- and by the table's places
theorem next_place {Q : Option (Value × Nat) → Shared → Prop} {es ep tb} {slot i ep' : Nat} (ho : s.heap.get? a = some (setObj true f t)) (he : setData true f t = .set es ep tb) (hf : tb.fits es.size = true) (hbt : bt w = false) (hp : tb.plain = true) (hl : tb.led = true)
    (h : Q (match es[SetTable.below tb.place slot]?, tb.place[SetTable.below tb.place slot]? with
    | some (_, x), some j => some (x, j + 1)
    | _, _ => none) s) : wpAny (model prog w) A (setNext a slot i ep') Q E s := by
  unfold setNext
  refine wpAny_bind (state_set ho he hf (wpAny_bind (byText_at ?_)))
  rw [hbt]
  simp only [Bool.false_eq_true, if_false]
  rw [if_neg (by show ¬ ((!tb.plain && _) = true); rw [hp]; simp)]
  refine wpAny_bind ?_
  show wpAny _ _ (if (!tb.led && _) = true then _ else _) _ _ _
  rw [if_neg (by rw [hl]; simp)]
  exact wpAny_pure (wpAny_pure h)
noncomputable def slot1 (w : World) (b : Bool) : Nat := if bt w then 0 else if b then 2 else 1
-- a set of the one element b
noncomputable abbrev One (w : World) (b : Bool) : Obj := setObj (!bt w) (!b) b
noncomputable abbrev Two (w : World) : Obj := setObj (!bt w) true true
theorem next_one {Q : Option (Value × Nat) → Shared → Prop} (ho : s.heap.get? a = some (One w b)) (h : Q (some (.bool b, slot1 w b)) s) : wpAny (model prog w) A (setNext a 0 0 1) Q E s := by
  unfold One at ho
  unfold slot1 at h
  cases hbt : bt w with
  | true =>
    rw [hbt] at ho h
    cases b
    · exact next_text ho rfl rfl hbt (by rw [pick1]; exact h)
    · exact next_text ho rfl rfl hbt (by rw [pick1]; exact h)
  | false =>
    rw [hbt] at ho h
    cases b
    · exact next_place ho rfl rfl hbt rfl rfl h
    · exact next_place ho rfl rfl hbt rfl rfl h
theorem next_one_end {Q : Option (Value × Nat) → Shared → Prop} (ho : s.heap.get? a = some (One w b)) (h : Q none s) : wpAny (model prog w) A (setNext a (slot1 w b) 1 1) Q E s := by
  unfold One at ho
  unfold slot1
  cases hbt : bt w with
  | true =>
    rw [hbt] at ho
    cases b
    · exact next_text ho rfl rfl hbt (by rw [pick1]; exact h)
    · exact next_text ho rfl rfl hbt (by rw [pick1]; exact h)
  | false =>
    rw [hbt] at ho
    cases b
    · exact next_place ho rfl rfl hbt rfl rfl h
    · exact next_place ho rfl rfl hbt rfl rfl h
theorem next_two (a : Addr) : ∃ x sl y sl', (∀ (A : Around) (E : Value → Shared → Prop) (s : Shared) (Q : Option (Value × Nat) → Shared → Prop), s.heap.get? a = some (Two w) → Q (some (x, sl)) s → wpAny (model prog w) A (setNext a 0 0 2) Q E s) ∧
    (∀ (A : Around) (E : Value → Shared → Prop) (s : Shared) (Q : Option (Value × Nat) → Shared → Prop), s.heap.get? a = some (Two w) → Q (some (y, sl')) s → wpAny (model prog w) A (setNext a sl 1 2) Q E s) := by
  cases hbt : bt w with
  | true =>
    rcases pick2 (w.params.setOrder a 2) ((0 : Int), Value.bool false) ((1 : Int), Value.bool true) with h | h
    · exact ⟨.bool false, 0, .bool true, 0, fun A E s Q ho hq => by unfold Two at ho; rw [hbt] at ho; exact next_text ho rfl rfl hbt (by rw [h]; exact hq), fun A E s Q ho hq => by unfold Two at ho; rw [hbt] at ho; exact next_text ho rfl rfl hbt (by rw [h]; exact hq)⟩
    · exact ⟨.bool true, 0, .bool false, 0, fun A E s Q ho hq => by unfold Two at ho; rw [hbt] at ho; exact next_text ho rfl rfl hbt (by rw [h]; exact hq), fun A E s Q ho hq => by unfold Two at ho; rw [hbt] at ho; exact next_text ho rfl rfl hbt (by rw [h]; exact hq)⟩
  | false =>
    exact ⟨.bool false, 1, .bool true, 2, fun A E s Q ho hq => by unfold Two at ho; rw [hbt] at ho; exact next_place ho rfl rfl hbt rfl rfl hq, fun A E s Q ho hq => by unfold Two at ho; rw [hbt] at ho; exact next_place ho rfl rfl hbt rfl rfl hq⟩

-- one step of the set's iterator
theorem set_step {I S : Addr} {slot i n : Nat} {x : Value} {nx : Nat} {led : Bool} {Q : Option Value → Shared → Prop} (hI : s.heap.get? I = some (setIterObj S slot i n)) (hS : s.heap.get? S = some (setObj led f t)) (hn : n = f.toNat + t.toNat)
    (hx : ∀ (A : Around) (E : Value → Shared → Prop) (Q : Option (Value × Nat) → Shared → Prop), Q (some (x, nx)) s → wpAny (model prog w) A (setNext S slot i n) Q E s)
    (hQ : ∀ h', Heap.SameBut I s.heap h' → h'.get? I = some (setIterObj S nx (i + 1) n) → Q (some x) { s with heap := h' }) : wpAny (model prog w) A (pyNext (.ref I)) Q E s := by
  have hT : s.TypeIs (.ref I) "set_iterator" := ⟨_, hI, rfl⟩
  obtain ⟨es, tb, he, hf, hs, _, hp⟩ := fitsSet (f := f) (t := t) led
  unfold pyNext
  refine wpAny_bind (wpAny_attempt (wpAny_callSpecial?_slot (name := Str.ofString "__next__") hT slot_set_iterator_next (wpAny_call_entry slot_set_iterator_next hT entry_set_iterator_next ?_ (args_set_iterator_next _))))
  unfold Builtin.«set_iterator.__next__» slotArgs
  simp only [List.isEmpty_nil, Bool.not_true, Bool.false_eq_true, ↓reduceIte, List.length_nil, bne_self_eq_false]
  refine wpAny_bind (wpAny_pure ?_)
  dsimp only
  refine wpAny_bind (m := fieldsOf (.ref I)) (wpAny_bind (wpAny_load hI (wpAny_pure ?_)))
  dsimp only [rawInt]
  refine wpAny_bind (entries_set hS he hf ?_)
  rw [if_neg (by rw [hs, hn]; simp)]
  refine wpAny_bind (hx _ _ _ ?_)
  dsimp only
  refine wpAny_bind (wpAny_setField hI rfl (by simp) ?_)
  have h1 := Heap.get?_update_self (Obj.mapFields (·.setIfInBounds 0 (rawInt nx))) hI rfl
  refine wpAny_bind (wpAny_setField h1 rfl (by simp [Obj.mapFields]) ?_)
  have h2 := Heap.get?_update_self (Obj.mapFields (·.setIfInBounds 1 (rawInt ((i : Int) + 1)))) h1 rfl
  exact wpAny_pure ⟨x, rfl, wpAny_pure (hQ _ ((Heap.SameBut.update ..).trans (Heap.SameBut.update ..)) h2)⟩
theorem set_step_end {I S : Addr} {slot i n : Nat} {led : Bool} {Q : Option Value → Shared → Prop} (hh : A.handled = none) (hI : s.heap.get? I = some (setIterObj S slot i n)) (hS : s.heap.get? S = some (setObj led f t)) (hn : n = f.toNat + t.toNat)
    (hx : ∀ (A : Around) (E : Value → Shared → Prop) (Q : Option (Value × Nat) → Shared → Prop), Q none s → wpAny (model prog w) A (setNext S slot i n) Q E s)
    (hQ : ∀ h', Heap.ExtBut I s.heap h' → Q none { s with heap := h' }) : wpAny (model prog w) A (pyNext (.ref I)) Q E s := by
  have hT : s.TypeIs (.ref I) "set_iterator" := ⟨_, hI, rfl⟩
  obtain ⟨es, tb, he, hf, hs, _, hp⟩ := fitsSet (f := f) (t := t) led
  unfold pyNext
  refine wpAny_bind (wpAny_attempt (wpAny_callSpecial?_slot (name := Str.ofString "__next__") hT slot_set_iterator_next (wpAny_call_entry slot_set_iterator_next hT entry_set_iterator_next ?_ (args_set_iterator_next _))))
  unfold Builtin.«set_iterator.__next__» slotArgs
  simp only [List.isEmpty_nil, Bool.not_true, Bool.false_eq_true, ↓reduceIte, List.length_nil, bne_self_eq_false]
  refine wpAny_bind (wpAny_pure ?_)
  dsimp only
  refine wpAny_bind (m := fieldsOf (.ref I)) (wpAny_bind (wpAny_load hI (wpAny_pure ?_)))
  dsimp only [rawInt]
  refine wpAny_bind (entries_set hS he hf ?_)
  rw [if_neg (by rw [hs, hn]; simp)]
  refine wpAny_bind (hx _ _ _ ?_)
  dsimp only
  refine wpAny_bind (wpAny_setField hI rfl (by simp) ?_)
  show wpAny _ _ (newExc (.type "StopIteration") [] >>= _) _ _ _
  refine wpAny_bind ?_
  simp only [newExc, newTuple]
  refine wpAny_bind (wpAny_newObj_type ?_ (by size_fits))
  refine wpAny_bind (m := firstArgMember _ _) (wpAny_of_eq (a := Value.none) (by first | rfl | (simp only [firstArgMember]; rfl)) ?_)
  refine wpAny_newObj_type ?_ (by size_fits)
  simp only [raiseNew]
  refine wpAny_bind (wpAny_handled ?_)
  first | rw [show A.in1.handled = none from hh] | rw [hh]
  refine wpAny_bind (wpAny_pure (wpAny_throw ?_))
  refine wpAny_bind (wpAny_isInstance (T := "StopIteration") (b := true) ⟨_, Heap.get?_push_size _ rfl, rfl⟩ isSubtype_stop ?_)
  exact wpAny_pure (hQ _ (((Heap.SameBut.update ..).extBut.push _).push _))
end
end Mine
end

section
open PySem PySem.W PySem.Calls PyProof.Rows PySem.Spec
set_option maxRecDepth 100000
namespace Mine
section
variable {c : Cx} {env : Env} {n : Nat} {X S : Addr → Prop} {D : Addr} {σ : List (Str × PyData)} {A : Around} {s s' : Shared} {E : Value → Shared → Prop}
theorem comp_startG {s₀ s₂ : Shared} {ol : Obj} (hol : ol.isFreed = false) {scope : Scope} {cl : List (Str × Addr)} {σ0 : List (Str × PyData)} {wr : List Addr}
    (a : At c env n σ A S s₀) (k : Keeps s₀ s₂) (hw : ∀ b ∈ wr, s₀.heap.get? b = none) (hwa : ∀ b ∈ wr, ∃ o, s₂.heap.get? b = some o)
    (hcl : closL env.cells scope.names [] = some cl) (hnd : (cl.map (·.1)).Nodup) (hkind : scope.kind = .function) (hσ : ∀ p ∈ σ0, CapOk env scope cl σ p) :
    ∃ X : Addr → Prop, (∀ a, X a → s₂.heap.objs.size ≤ a ∧ (a = s₂.heap.objs.size ∨ FrA (cenvOf scope cl (s₂.heap.objs.size + 1) env) a)) ∧ (∀ x, scope.names.lookup x = some .local → CanStore (cenvOf scope cl (s₂.heap.objs.size + 1) env) X x) ∧
      (∀ x a, (relabel scope env).names.lookup x = some .cell → (cellsFrom (s₂.heap.objs.size + 1 + 1) scope.names []).lookup x = some a → CanStore (cenvOf scope cl (s₂.heap.objs.size + 1) env) X x) ∧
      GoodX c (fun a => X a ∨ a ∈ wr) (pushCells ((s₂.heap.push ol).push { cls := .type "dict", data := .dict #[] }) scope.names) ∧
      (∀ p ∈ (cenvOf scope cl (s₂.heap.objs.size + 1) env).cells, p.2 ∉ wr) ∧ KeepH s₂.heap (pushCells ((s₂.heap.push ol).push { cls := .type "dict", data := .dict #[] }) scope.names) ∧
      (AtS c (cenvOf scope cl (s₂.heap.objs.size + 1) env) n X σ0 A (fun a => (S a ∨ a ∈ wr) ∨ X a)
        { s₂ with heap := pushCells ((s₂.heap.push ol).push { cls := .type "dict", data := .dict #[] }) scope.names } ∧ (pushCells ((s₂.heap.push ol).push { cls := .type "dict", data := .dict #[] }) scope.names).get? s₂.heap.objs.size = some ol ∧ X s₂.heap.objs.size ∧
        s₂.heap.objs.size ≠ (cenvOf scope cl (s₂.heap.objs.size + 1) env).locals ∧ ∀ p ∈ (cenvOf scope cl (s₂.heap.objs.size + 1) env).cells, p.2 ≠ s₂.heap.objs.size) := by
  have f := (a.keep k).fr
  have sb := (a.keep k).sb
  generalize hH : s₂.heap = H at *
  generalize hDd : ({ cls := .type "dict", data := .dict #[] } : Obj) = od
  have sz1 : (H.push ol).objs.size = H.objs.size + 1 := Heap.size_push ..
  have sz2 : ((H.push ol).push od).objs.size = H.objs.size + 2 := by rw [Heap.size_push, sz1]
  have ok := cellsFrom_ok scope.names ((H.push ol).push od) (H.objs.size + 2) [] ⟨fun _ _ hm => (nomatch hm), List.Pairwise.nil⟩ (by rw [sz2]; exact Nat.le_refl _)
  rw [sz2] at ok
  have kp : KeepH ((H.push ol).push od) (pushCells ((H.push ol).push od) scope.names) := pushCells_keeps _ _
  have kH : KeepH H (pushCells ((H.push ol).push od) scope.names) := fun b o e => kp b o (keepH_push _ _ _ (keepH_push _ _ _ e))
  have hD : (pushCells ((H.push ol).push od) scope.names).get? H.objs.size = some ol := kp _ _ (keepH_push _ _ _ (Heap.get?_push_size _ hol))
  have hC : (pushCells ((H.push ol).push od) scope.names).Ns (H.objs.size + 1) fun _ => none := by
    rw [← sz1, ← hDd]; exact (Heap.Ns.new _ _).keeps (pushCells_keeps _ _)
  generalize pushCells ((H.push ol).push od) scope.names = H4 at *
  have lk : ∀ b, H.objs.size ≤ b → H.get? b = none := fun b hb => by
    cases e : H.get? b with
    | none => rfl
    | some o => exact absurd (Heap.lt_size e) (Nat.not_lt.mpr hb)
  have hcells : (cenvOf scope cl (H.objs.size + 1) env).cells = cellsFrom (H.objs.size + 2) scope.names [] ++ cl := cellsFrom_app _ _ _
  have hclin := closL_in scope.names [] cl hcl (fun _ hm => nomatch hm)
  have clalive : ∀ p ∈ cl, p.2 < H.objs.size := fun p hp => by
    obtain ⟨o, ob, ho, _⟩ := f.cells _ (PySem.mem_of_lookup (hclin p hp))
    exact Heap.lt_size ho
  let X : Addr → Prop := fun a => a = H.objs.size ∨ a = H.objs.size + 1 ∨ ∃ p ∈ cellsFrom (H.objs.size + 2) scope.names [], p.2 = a
  have hXge : ∀ a, X a → H.objs.size ≤ a := by
    rintro a (rfl | rfl | ⟨p, hp, rfl⟩)
    · exact Nat.le_refl _
    · exact Nat.le_succ _
    · have := (ok.empty p.1 p.2 hp).2; omega
  have hXn : ∀ a, X a → H.get? a = none := fun a h => lk a (hXge a h)
  have hX0 : ∀ a, X a → s₀.heap.get? a = none := fun a h => by
    cases e : s₀.heap.get? a with
    | none => rfl
    | some o => have := Keeps.h k _ _ e; rw [hH, hXn a h] at this; cases this
  have hg0 : c.Good s₀.heap := a.good
  have hk0 : KeepH s₀.heap H4 := fun b o e => kH b o (hH ▸ Keeps.h k b o e)
  have hXf : ∀ a, X a → a = H.objs.size ∨ FrA (cenvOf scope cl (H.objs.size + 1) env) a := by
    rintro a (rfl | rfl | ⟨p, hp, rfl⟩)
    · exact .inl rfl
    · exact .inr (.inl rfl)
    · exact .inr (.inr ⟨p, by rw [hcells]; exact List.mem_append_left _ hp, rfl⟩)
  refine ⟨X, fun a q => ⟨hXge a q, hXf a q⟩, fun x hx => .inl (lookup_relabel_local hx), fun x b hx hb => .inr ⟨hx, b, ?_, .inr (.inr ⟨_, PySem.mem_of_lookup hb, rfl⟩)⟩, ⟨s₀.heap, hg0, hk0, fun b q => q.elim (hX0 b) (hw b)⟩, ?_, kH,
    ⟨⟨a.room, ⟨s₀.heap, hg0, hk0, hX0⟩, ?_, ⟨⟨⟨hkind, f.pl.g, f.pl.b⟩, ⟨_, hC, ?_⟩, ?_, ?_, ?_⟩, fun b q => .inr q, .inr (.inl rfl)⟩⟩, hD, .inl rfl, ?_, ?_⟩⟩
  · rw [hcells, List.lookup_append, hb]; rfl
  · intro p hp hq
    obtain ⟨o, ho⟩ := hwa _ hq
    have h0 := hw _ hq
    rw [hcells] at hp
    rcases List.mem_append.mp hp with hp | hp
    · have h1 := (ok.empty p.1 p.2 hp).2
      exact absurd (Nat.lt_of_lt_of_le (Heap.lt_size ho) (Nat.le_trans (Nat.le_add_right _ 2) h1)) (Nat.lt_irrefl _)
    · obtain ⟨_, ob, hob, _⟩ := a.fr.cells _ (PySem.mem_of_lookup (hclin p hp))
      rw [h0] at hob; cases hob
  · rintro b ((hb | hb) | hb)
    · obtain ⟨o, ho⟩ := sb b hb; exact ⟨o, kH _ _ ho⟩
    · obtain ⟨o, ho⟩ := hwa b hb; exact ⟨o, kH _ _ ho⟩
    · rcases hb with rfl | rfl | ⟨p, hp, rfl⟩
      · exact ⟨_, hD⟩
      · obtain ⟨o, _, _, ho, _⟩ := hC; exact ⟨o, ho⟩
      · obtain ⟨o, ho, _⟩ := (ok.empty p.1 p.2 hp).1; exact ⟨o, ho⟩
  · intro x d hx
    obtain ⟨h1, h2, h3, h4⟩ := hσ _ (PySem.mem_of_lookup hx)
    obtain ⟨m, _, hv⟩ := a.fr.names
    obtain ⟨v, r, q⟩ := hv x d h1
    rcases q with ⟨q, _⟩ | ⟨_, b, hb, hc⟩
    · rw [h2] at q; cases q
    · refine ⟨v, (r.more fun b q => ?_).keep hk0, .inr ⟨h3, b, (h4 _).trans hb, hc.keeps hk0⟩⟩
      rcases q with (q | q) | q
      · exact .inl q
      · exact .inr (hw b q)
      · exact .inr (hX0 b q)
  · intro p hp
    rw [hcells] at hp
    rcases List.mem_append.mp hp with hp | hp
    · exact ⟨_, (ok.empty p.1 p.2 hp).1⟩
    · obtain ⟨o, hc⟩ := f.cells _ (PySem.mem_of_lookup (hclin p hp))
      exact ⟨o, hc.keeps kH⟩
  · rw [hcells, List.pairwise_append]
    refine ⟨ok.apart, ?_, fun p hp q hq e => ?_⟩
    · have nd : cl.Pairwise fun p q => p.1 ≠ q.1 := by
        rw [List.Nodup, List.pairwise_map] at hnd; exact hnd
      refine nd.imp_of_mem fun hp hq hne e => hne ?_
      exact name_of_addr f.apart (PySem.mem_of_lookup (hclin _ hp)) (e ▸ PySem.mem_of_lookup (hclin _ hq))
    · have h1 := (ok.empty p.1 p.2 hp).2
      have h2 := clalive q hq
      rw [← e] at h2
      exact absurd (Nat.lt_of_lt_of_le h2 (Nat.le_trans (Nat.le_add_right _ 2) h1)) (Nat.lt_irrefl _)
  · intro p hp
    show p.2 ≠ H.objs.size + 1
    rw [hcells] at hp
    rcases List.mem_append.mp hp with hp | hp
    · have h1 := (ok.empty p.1 p.2 hp).2; exact Nat.ne_of_gt h1
    · have h2 := clalive p hp; exact Nat.ne_of_lt (Nat.lt_succ_of_lt h2)
  · exact Nat.ne_of_lt (Nat.lt_succ_self _)
  · intro p hp
    rw [hcells] at hp
    rcases List.mem_append.mp hp with hp | hp
    · have h1 := (ok.empty p.1 p.2 hp).2; exact Nat.ne_of_gt (Nat.lt_of_lt_of_le (Nat.lt_succ_self _) (Nat.le_trans (Nat.le_succ _) h1))
    · have h2 := clalive p hp; exact Nat.ne_of_lt h2


-- a comprehension's frame whose set holds False if f, True if t
structure SI (c : Cx) (env : Env) (n : Nat) (X : Addr → Prop) (D : Addr) (σ : List (Str × PyData)) (A : Around) (S : Addr → Prop) (f t : Bool) (s : Shared) : Prop where
  toAt : AtS c env n X σ A S s
  acc : s.heap.get? D = some (setObj (!bt c.w) f t)
  xd : X D
  dl : D ≠ env.locals
  dc : ∀ p ∈ env.cells, p.2 ≠ D
theorem SI.keep {f t} (i : SI c env n X D σ A S f t s) (k : Keeps s s') : SI c env n X D σ A S f t s' := ⟨i.toAt.keep k, Keeps.h k _ _ i.acc, i.xd, i.dl, i.dc⟩
theorem si_add {f t b : Bool} {Q : Value → Shared → Prop} (i : SI c env n X D σ A S f t s) (hQ : ∀ s', KeepS X s s' → SI c env n X D σ A S (f || !b) (t || b) s' → Q .none s') :
    wpAny c.M A (call (.builtin "set.add") [.ref D, .bool b]) Q E s := by
  refine add_bool i.acc fun h' tk hs hS => ?_
  have kb : KeepB X s.heap h' := KeepB.ofSame hs i.xd
  have f := i.toAt.fm
  have kS := kb.mono f.xs
  refine hQ _ ⟨h', tk, rfl, kb⟩ ⟨⟨i.toAt.room, i.toAt.good.keepB kb, fun a ha => ?_, f.move f.xs (fun a o n e => ⟨n, kS a o n e⟩) (fun o e => (hs.2 _ (Ne.symm i.dl)).trans e) fun p hp o e => (hs.2 _ (i.dc p hp)).trans e⟩, hS, i.xd, i.dl, i.dc⟩
  obtain ⟨o, ho⟩ := i.toAt.sb a ha
  by_cases q : a = D
  · subst q; exact ⟨_, hS⟩
  · exact ⟨o, (hs.2 _ q).trans ho⟩
theorem compTurn_set (elt target iter : Expr) (scope : Scope) (pos : Pos) (it acc : Value) (env : Env) :
    compTurn (.SetComp elt [⟨target, iter, [], 0⟩] scope pos) 0 it acc env = (standAt iter.pos >>= fun _ => pyNext it >>= fun r => match r with
      | none => pure (.done .next)
      | some v => letOwnedTupleGo target it v >>= fun _ => assign target env v >>= fun _ =>
        (eval elt env >>= fun x => standAt elt.pos >>= fun _ => call (.builtin "set.add") [acc, x] >>= fun _ => pure ()) >>= fun _ =>
          again (.compLoop (.SetComp elt [⟨target, iter, [], 0⟩] scope pos) 0 it acc env)) := by rfl
theorem compStart_set {R : Result → Shared → Prop} {elt target iter ifs rest scope pos it acc}
    (h0 : codeAny c.M A (.compLoop (.SetComp elt (⟨target, iter, ifs, 0⟩ :: rest) scope pos) 0 it acc env) R s)
    (h : wpAny c.M A (pyIter it) (fun it' s' => codeAny c.M A (.compLoop (.SetComp elt (⟨target, iter, ifs, 0⟩ :: rest) scope pos) 0 it' acc env) R s')
      (notedBy c.M A env fun x s' => R (.error x) s') s) :
    codeAny c.M A (.compStart (.SetComp elt (⟨target, iter, ifs, 0⟩ :: rest) scope pos) 0 it acc env) R s := by
  refine codeAny_of_tree ?_
  show wpAny _ _ ((compStart (.SetComp elt (⟨target, iter, ifs, 0⟩ :: rest) scope pos) 0 it acc env).onRaise (fun x => do noteFrame x env; standAt theWindowsPlace)) _ _ s
  refine wpAny_notedAt ?_
  unfold compStart
  show wpAny _ _ (ask >>= _) _ _ s
  refine wpAny_bind (wpAny_askSetting (wpAny_ite ?_))
  split
  · first
      | exact wpAny_bind (wpAny_pure (wpAny_pure (And.intro rfl h0)))
      | exact wpAny_pure (And.intro rfl h0)
  · first
      | exact wpAny_bind (wpAny_rule (wpAny_bind (wpAny_standAt (wpAny_bind (wpAny_mono h (fun it' s' h' => wpAny_pure (And.intro rfl h')) fun _ _ x => x)))))
      | (refine wpAny_bind (wpAny_rule ?_); show wpAny _ _ (standAt iter.pos >>= _) _ _ s; exact wpAny_bind (wpAny_standAt (wpAny_bind (wpAny_mono h (fun it' s' h' => wpAny_pure (And.intro rfl h')) fun _ _ x => x))))
noncomputable def anyT {α : Type} (g : α → Bool) (b : Bool) (ds : List α) : Bool := ds.any fun d => g d == b
-- the loop of a set comprehension of bools
theorem set_loop {elt target iter : Expr} {scope : Scope} {pos : Pos} {I : Addr} {fp wr : List Addr} {P : Nat → Value → Prop} {St : Nat → Heap → Prop} {α : Type} {ds : List α} {dt : α → PyData} {g : α → Bool} {τ : α → List (Str × PyData)} {R : Result → Shared → Prop}
    (W : Walks c.prog c.w A I fp wr ds.length P St) (hst : St 0 s.heap) (hfx : ∀ b ∈ fp, ¬ X b) (hwr : ∀ b ∈ wr, S b)
    (hob : ∀ i h, St i h → ∀ b ∈ wr, ∃ o, h.get? b = some o) (hpl : ∀ i h, St i h → ∃ o T, h.get? I = some o ∧ o.cls = .type T ∧ ownIts.contains T = false)
    (hP : ∀ (i : Nat) v, i < ds.length → P i v → ∃ d, ds[i]? = some d ∧ Rd c.P S s.heap v (dt d)) (hgw : GoodX c (fun a => X a ∨ a ∈ wr) s.heap)
    (hlw : env.locals ∉ wr) (hcw : ∀ p ∈ env.cells, p.2 ∉ wr) (ha : ∀ d ∈ ds, Asg c env n X target (dt d) (τ d)) (hsub : ∀ d ∈ ds, ∀ x e, σ.lookup x = some e → (τ d ++ σ).lookup x = some e)
    (he : ∀ d ∈ ds, Ev c env n (τ d ++ σ) elt (.bool (g d)))
    (si : SI c env n X D σ A S false false s)
    (done : ∀ s', KeepS (fun a => X a ∨ a ∈ wr) s s' → Fm c env X S σ s'.heap → s'.heap.get? D = some (setObj (!bt c.w) (anyT g false ds) (anyT g true ds)) → R (.ok .next) s') :
    codeAny c.M A (.compLoop (.SetComp elt [⟨target, iter, [], 0⟩] scope pos) 0 (.ref I) (.ref D) env) R s := by
  refine codeAny_loop rfl (fun k s' => ∃ i, i ≤ ds.length ∧ k = ds.length + 1 - i ∧ St i s'.heap ∧ KeepS (fun a => X a ∨ a ∈ wr) s s' ∧ SI c env n X D σ A S (anyT g false (ds.take i)) (anyT g true (ds.take i)) s') ?_ (ds.length + 1)
    ⟨0, Nat.zero_le _, rfl, hst, KeepS.refl, by simpa [anyT] using si⟩
  rintro k s' ⟨i, hi, rfl, st, ks, si'⟩
  show wpAny _ _ ((compTurn (.SetComp elt [⟨target, iter, [], 0⟩] scope pos) 0 (.ref I) (.ref D) env).onRaise (fun x => do noteFrame x env; theTreesLotGoes x)) _ _ _
  refine wpAny_noted ?_
  rw [compTurn_set]
  refine wpAny_bind (wpAny_standAt (wpAny_bind ?_))
  have f := si'.toAt.fm
  by_cases hlt : i < ds.length
  · refine W.item i s' _ _ hlt st fun v h₁ tk₁ hPv st₁ hk₁ => ?_
    obtain ⟨d, hd, r⟩ := hP i v hlt hPv
    have hm := List.mem_of_getElem? hd
    have kw : KeepB (fun a => a ∈ wr) s'.heap h₁ := fun b o n e => hk₁ b o n e
    have kwS : KeepB S s'.heap h₁ := kw.mono hwr
    have ks₁ : KeepS (fun a => X a ∨ a ∈ wr) s { s' with heap := h₁, toks := tk₁ } := ks.trans ⟨h₁, tk₁, rfl, kw.mono fun _ => .inr⟩
    have r₁ : Rd c.P S h₁ v (dt d) := r.keepB (ks₁.b.mono fun a q => q.elim (f.xs a) (hwr a))
    have f₁ : Fm c env X S σ h₁ := f.move f.xs (fun a o n e => ⟨n, kwS a o n e⟩) (fun o e => hk₁ _ o hlw e) fun p hp o e => hk₁ _ o (hcw p hp) e
    have sb₁ : SB S h₁ := fun a ha => by
      by_cases q : a ∈ wr
      · exact hob _ _ st₁ a q
      · obtain ⟨o, ho⟩ := si'.toAt.sb a ha; exact ⟨o, hk₁ a o q ho⟩
    have hDw : D ∉ wr := fun q => hfx D (W.sub _ q) si'.xd
    have si₁ : SI c env n X D σ A S (anyT g false (ds.take i)) (anyT g true (ds.take i)) { s' with heap := h₁, toks := tk₁ } := by
      refine ⟨⟨si'.toAt.room, ?_, sb₁, f₁⟩, hk₁ _ _ hDw si'.acc, si'.xd, si'.dl, si'.dc⟩
      obtain ⟨h₀, a, b, z⟩ := hgw
      exact ⟨h₀, a, fun p o e => ks₁.b p o (fun q => by rw [z p q] at e; cases e) (b p o e), fun a q => z a (.inl q)⟩
    obtain ⟨o, T, ho, hc, hT⟩ := hpl _ _ st₁
    refine wpAny_bind (let_owned (s := { s' with heap := h₁, toks := tk₁ }) ho hc hT ?_)
    refine wpAny_bind (wpAny_mono (ha d hm A S _ _ σ v si₁.toAt r₁) (fun _ s₂ h₂ => ?_) fun _ _ x => x)
    obtain ⟨k₂, kf₂, a₂⟩ := h₂
    have hD : ¬ FrA env D := fun q => q.elim si₁.dl fun ⟨p, hp, q⟩ => si₁.dc p hp q
    have si₂ : SI c env n X D (τ d ++ σ) A S (anyT g false (ds.take i)) (anyT g true (ds.take i)) s₂ := ⟨a₂, kf₂ _ _ hD si₁.acc, si₁.xd, si₁.dl, si₁.dc⟩
    refine wpAny_bind (wpAny_bind (wpAny_mono (he d hm A S s₂ _ si₂.toAt.at) (fun x s₃ p₃ => ?_) fun _ _ x => x))
    have si₃ := si₂.keep p₃.1
    rw [p₃.2.bool_inv]
    refine wpAny_bind (wpAny_standAt (wpAny_bind (si_add si₃ fun s₄ k₄ si₄ => wpAny_pure ?_)))
    have k5 : KeepS X { s' with heap := h₁, toks := tk₁ } s₄ := k₂.trans ((KeepS.of p₃.1).trans k₄)
    refine wpAny_pure ⟨rfl, ds.length + 1 - (i + 1), by omega, i + 1, hlt, rfl, W.frame _ _ _ st₁ fun b hb o e => k5.b b o (hfx b hb) e, ks₁.trans (k5.mono fun _ => .inl), ?_⟩
    have e0 : anyT g false (ds.take (i + 1)) = (anyT g false (ds.take i) || !g d) := by rw [List.take_add_one, hd]; simp [anyT]
    have e1 : anyT g true (ds.take (i + 1)) = (anyT g true (ds.take i) || g d) := by rw [List.take_add_one, hd]; simp [anyT]
    rw [e0, e1]
    exact ⟨si₄.toAt.sub (hsub d hm), si₄.acc, si₄.xd, si₄.dl, si₄.dc⟩
  · obtain rfl : i = ds.length := by omega
    refine W.done s' _ _ st fun h₁ tk₁ hk₁ => ?_
    have kw : KeepB (fun a => a ∈ wr) s'.heap h₁ := fun b o n e => hk₁ b o n e
    have hDw : D ∉ wr := fun q => hfx D (W.sub _ q) si'.xd
    have kwS : KeepB S s'.heap h₁ := kw.mono hwr
    have f₁ : Fm c env X S σ h₁ := f.move f.xs (fun a o n e => ⟨n, kwS a o n e⟩) (fun o e => hk₁ _ o hlw e) fun p hp o e => hk₁ _ o (hcw p hp) e
    have acc := si'.acc
    rw [List.take_length] at acc
    exact wpAny_pure (done _ (ks.trans ⟨h₁, tk₁, rfl, kw.mono fun _ => .inr⟩) f₁ (hk₁ _ _ hDw acc))
-- an expression whose value is a set of bools
noncomputable def EvSet (c : Cx) (env : Env) (n : Nat) (σ : List (Str × PyData)) (e : Expr) (f t : Bool) : Prop :=
  ∀ A S s E, At c env n σ A S s → wpAny c.M A (eval e env) (fun v s' => Keeps s s' ∧ ∃ D, v = .ref D ∧ s'.heap.get? D = some (setObj (!bt c.w) f t)) E s
theorem newSet_at {Q : Value → Shared → Prop} (h : Q (.ref s.heap.objs.size) { s with heap := s.heap.push (setObj (!bt c.w) false false) }) : wpAny c.M A (newSet (.type "set")) Q E s := by
  unfold newSet
  refine wpAny_bind (byText_at ?_)
  exact wpAny_newObj_type h (by simp [sizeOk])
theorem evSet_comp {elt iter : Expr} {x : Str} {px : Pos} {scope : Scope} {pos : Pos} {α : Type} {ds : List α} {dt : α → PyData} {g : α → Bool} {cl : List (Str × Addr)} {σ0 : List (Str × PyData)}
    (hi : EvI c env n σ iter (ds.map dt)) (hsees : compSees scope = true) (hcl : closL env.cells scope.names [] = some cl) (hσ : ∀ p ∈ σ0, CapOk env scope cl σ p) (hx : scope.names.lookup x = some .local) (hx0 : ∀ p ∈ σ0, p.1 ≠ x)
    (he : ∀ C, ∀ d ∈ ds, Ev c (cenvOf scope cl C env) n ((x, dt d) :: σ0) elt (.bool (g d))) (hs : ∀ x, foldedSetIterable iter env x = pure x := by intro _; rfl) :
    EvSet c env n σ (.SetComp elt [⟨.Name x px, iter, [], 0⟩] scope pos) (anyT g false ds) (anyT g true ds) := fun A S s E a => by
  obtain ⟨hk, hn, hnd⟩ := compSees_of hsees
  show wpAny _ _ (comprehension (.SetComp elt [⟨.Name x px, iter, [], 0⟩] scope pos) scope env (firstIterPos [⟨.Name x px, iter, [], 0⟩] pos) (newSet (.type "set")) false (eval iter env)) _ _ _
  refine wpAny_comprehension_free (use := none) rfl hs (closureFor_of hcl) hk hn (wpAny_mono (hi A S s E a) (fun v s₁ h₁ => wpAny_mono h₁ (fun it s₂ h₂ => ?_) fun _ _ x => x) fun _ _ x => x)
  obtain ⟨I, fp, wr, P, St, rfl, k, W, st, hfp, hw, hob, hpl, hP⟩ := h₂
  rw [List.length_map] at W
  refine newSet_at (newEnv_comp ?_)
  obtain ⟨X, hX1, hX2, hX3, hX4, hX5, kH, at4, hD4, xd, dl, dc⟩ := comp_startG (ol := setObj (!bt c.w) false false) (wr := wr) rfl a k hw (hob _ _ st) hcl (by rw [closL_names _ _ _ hcl]; exact hnd) hk hσ
  have sz : ({ s₂ with heap := s₂.heap.push (setObj (!bt c.w) false false) } : Shared).heap.objs.size = s₂.heap.objs.size + 1 := Heap.size_push ..
  rw [sz]
  show codeAny c.M A (.compStart (.SetComp elt [⟨.Name x px, iter, [], 0⟩] scope pos) 0 (.ref I) (.ref s₂.heap.objs.size) (cenvOf scope cl (s₂.heap.objs.size + 1) env)) _
    { s₂ with heap := pushCells ((s₂.heap.push (setObj (!bt c.w) false false)).push { cls := .type "dict", data := .dict #[] }) scope.names }
  generalize pushCells ((s₂.heap.push (setObj (!bt c.w) false false)).push { cls := .type "dict", data := .dict #[] }) scope.names = H4 at *
  have st4 : St 0 H4 := W.frame _ _ _ st fun b _ o e => kH b o e
  have hfx : ∀ b ∈ fp, ¬ X b := fun b hb q => Nat.lt_irrefl _ (Nat.lt_of_lt_of_le (hfp b hb).1 (hX1 b q).1)
  have hXn : ∀ b, X b → s.heap.get? b = none := fun b q => by
    cases e : s.heap.get? b with
    | none => rfl
    | some o => exact absurd (Nat.lt_of_lt_of_le (Heap.lt_size (Keeps.h k _ _ e)) (hX1 b q).1) (Nat.lt_irrefl _)
  have loop : codeAny c.M A (.compLoop (.SetComp elt [⟨.Name x px, iter, [], 0⟩] scope pos) 0 (.ref I) (.ref s₂.heap.objs.size) (cenvOf scope cl (s₂.heap.objs.size + 1) env))
      (compPost c.M A E none (fun v s' => Keeps s s' ∧ ∃ D, v = .ref D ∧ s'.heap.get? D = some (setObj (!bt c.w) (anyT g false ds) (anyT g true ds))) (.ref s₂.heap.objs.size) (s₂.heap.objs.size + 1)) { s₂ with heap := H4 } := by
    refine set_loop (dt := dt) (g := g) (τ := fun d => [(x, dt d)]) W st4 hfx (fun b hb => .inl (.inr hb)) hob hpl ?_ hX4 ?_ hX5 (fun d hd => asg_name (hX2 x hx)) ?_ (fun d hd => he _ d hd) ⟨at4, hD4, xd, dl, dc⟩ ?_
    · intro i v hi hv
      obtain ⟨d, hd, r⟩ := hP i v (by rw [List.length_map]; exact hi) hv
      rw [List.getElem?_map, Option.map_eq_some_iff] at hd
      obtain ⟨d, hd, rfl⟩ := hd
      refine ⟨d, hd, (r.more fun b q => ?_).keep kH⟩
      rcases q with q | q
      · exact .inl q
      · refine .inr ?_
        cases e : s₂.heap.get? b with
        | none => rfl
        | some o => exact absurd (Nat.lt_of_lt_of_le (Heap.lt_size e) (hX1 b q).1) (Nat.lt_irrefl _)
    · intro q
      exact absurd (hfp _ (W.sub _ q)).1 (Nat.not_lt.mpr (Nat.le_succ _))
    · intro d hd y e hy
      have hne : y ≠ x := hx0 _ (PySem.mem_of_lookup hy)
      show List.lookup y ((x, dt d) :: σ0) = some e
      rw [List.lookup_cons, beq_eq_false_iff_ne.mpr hne]; exact hy
    · rintro s' ks fm hD'
      have kk : Keeps s s' := by
        obtain ⟨h₂, tk₂, rfl, kh₂⟩ := k
        obtain ⟨h', tk', rfl, kb⟩ := ks
        refine ⟨h', tk', rfl, fun b o e => kb b o (fun z => ?_) (kH b o (kh₂ b o e))⟩
        rcases z with z | z
        · rw [hXn b z] at e; cases e
        · rw [hw b z] at e; cases e
      obtain ⟨m, ns, _⟩ := fm.fr.names
      have hC : s.heap.get? (s₂.heap.objs.size + 1) = none := hXn _ at4.fm.xl
      refine ⟨m, ns, fun h' hs' => ⟨?_, s₂.heap.objs.size, rfl, (hs'.2 _ (Nat.ne_of_lt (Nat.lt_succ_self _))).trans hD'⟩⟩
      obtain ⟨h₁, tk₁, rfl, kh⟩ := kk
      exact ⟨h', tk₁, rfl, fun b o e => (hs'.2 b (fun q => by rw [q, hC] at e; cases e)).trans (kh b o e)⟩
  exact compStart_set loop (W.self 0 _ _ _ st4 loop)
end
end Mine
end

section
open PySem PySem.W PySem.Calls PyProof.Rows PySem.Spec
set_option maxRecDepth 100000
namespace Mine
section
variable {c : Cx} {env : Env} {n : Nat} {σ : List (Str × PyData)} {Φ : Out → Prop} {A : Around} {s : Shared} {E : Value → Shared → Prop}
theorem unpack_one {D : Addr} {b : Bool} {Q : List Value → Shared → Prop} (hh : A.handled = none) (ho : s.heap.get? D = some (One c.w b)) (hQ : ∀ h', KeepH s.heap h' → Q [.bool b] { s with heap := h' }) : wpAny c.M A (unpackItems (.ref D) 1 none) Q E s := by
  have hT : s.TypeIs (.ref D) "set" := ⟨_, ho, rfl⟩
  have hn : (1 : Nat) = (!b).toNat + b.toNat := by cases b <;> rfl
  have hDs : D ≠ s.heap.objs.size := Nat.ne_of_lt (Heap.lt_size ho)
  unfold unpackItems
  refine wpAny_bind ?_
  unfold notIterableAtAll
  refine wpAny_bind (wpAny_specialOf hT F.slot_set_iter.lookup ?_)
  refine wpAny_pure ?_
  simp only [Bool.false_eq_true, if_false]
  refine wpAny_bind (wpAny_holding (iter_set ho ?_))
  rw [← hn]
  have ho1 : (s.heap.push (setIterObj D 0 0 1)).get? D = some (One c.w b) := Heap.get?_push_of_some _ ho
  refine wpAny_bind (wpAny_holding ?_)
  show wpAny _ _ (pyNext (.ref s.heap.objs.size) >>= _) _ _ _
  refine wpAny_bind (set_step (s := { s with heap := s.heap.push (setIterObj D 0 0 1) }) (Heap.get?_push_size _ rfl) ho1 hn (fun A E Q hq => next_one ho1 hq) fun h₁ hs₁ hI₁ => ?_)
  refine wpAny_bind (wpAny_holding ?_)
  show wpAny _ _ (pure []) _ _ _
  refine wpAny_pure (wpAny_pure ?_)
  rw [if_neg (by simp)]
  have ho2 : h₁.get? D = some (One c.w b) := (hs₁.2 _ hDs).trans ho1
  refine wpAny_bind (wpAny_holding (set_step_end (s := { s with heap := h₁ }) hh hI₁ ho2 hn (fun A E Q hq => next_one_end ho2 hq) fun h₂ he₂ => ?_))
  simp only [Option.isSome_none, Bool.false_eq_true, if_false]
  exact wpAny_pure (hQ h₂ fun d o e => he₂ d o (Nat.ne_of_lt (Heap.lt_size e)) ((hs₁.2 d (Nat.ne_of_lt (Heap.lt_size e))).trans (Heap.get?_push_of_some _ e)))
theorem unpack_two {D : Addr} {Q : List Value → Shared → Prop} (hh : A.handled = none) (ho : s.heap.get? D = some (Two c.w)) (hQ : ∀ h' tk e, Heap.NewExc s.heap h' e "ValueError" → E (.ref e) { s with heap := h', toks := tk }) : wpAny c.M A (unpackItems (.ref D) 1 none) Q E s := by
  have hT : s.TypeIs (.ref D) "set" := ⟨_, ho, rfl⟩
  have hDs : D ≠ s.heap.objs.size := Nat.ne_of_lt (Heap.lt_size ho)
  obtain ⟨x, sl, y, sl', n1, n2⟩ := next_two (prog := c.prog) (w := c.w) D
  unfold unpackItems
  refine wpAny_bind ?_
  unfold notIterableAtAll
  refine wpAny_bind (wpAny_specialOf hT F.slot_set_iter.lookup ?_)
  refine wpAny_pure ?_
  simp only [Bool.false_eq_true, if_false]
  refine wpAny_bind (wpAny_holding (iter_set ho ?_))
  have ho1 : (s.heap.push (setIterObj D 0 0 2)).get? D = some (Two c.w) := Heap.get?_push_of_some _ ho
  refine wpAny_bind (wpAny_holding ?_)
  show wpAny _ _ (pyNext (.ref s.heap.objs.size) >>= _) _ _ { s with heap := s.heap.push (setIterObj D 0 0 2) }
  refine wpAny_bind (set_step (s := { s with heap := s.heap.push (setIterObj D 0 0 2) }) (Heap.get?_push_size _ rfl) ho1 rfl (fun A E Q hq => n1 A E _ Q ho1 hq) fun h₁ hs₁ hI₁ => ?_)
  refine wpAny_bind (wpAny_holding ?_)
  show wpAny _ _ (pure []) _ _ _
  refine wpAny_pure (wpAny_pure ?_)
  rw [if_neg (by simp)]
  have ho2 : h₁.get? D = some (Two c.w) := (hs₁.2 _ hDs).trans ho1
  refine wpAny_bind (wpAny_holding (set_step (s := { s with heap := h₁ }) hI₁ ho2 rfl (fun A E Q hq => n2 A E _ Q ho2 hq) fun h₂ hs₂ hI₂ => ?_))
  simp only [Option.isSome_some, if_true]
  have k2 : KeepH s.heap h₂ := fun d o e => (hs₂.2 d (Nat.ne_of_lt (Heap.lt_size e))).trans ((hs₁.2 d (Nat.ne_of_lt (Heap.lt_size e))).trans (Heap.get?_push_of_some _ e))
  refine wpAny_bind (wpAny_rule ?_)
  refine wpAny_bind ?_
  refine wpAny_raiseErrorMade plainExc_ValueError hh (fun h' tk e hx => ?_) ?_
  · refine hQ h' tk e ⟨fun b o q => hx.keeps b o (k2 b o q), ?_, hx.there⟩
    cases q : s.heap.get? e with
    | none => rfl
    | some o => have := k2 _ _ q; rw [hx.new] at this; cases this
  · size_fits
theorem ex_unpack_set {x px k tp e pos} {b : Bool} (he : EvSet c env n σ e (!b) b) (hx : Own env x) (h : Φ (.next ((x, .bool b) :: σ)))
    (hs : swapsWithSole [.Tuple [.Name x px] k tp] e pos.line env = pure false := by rfl) (hw : swappedStores [.Tuple [.Name x px] k tp] e env = pure none := by rfl) :
    Ex1 c env n σ (.Assign [.Tuple [.Name x px] k tp] e pos) Φ := fun A S s E a => by
  refine Assign_Tuple (wpAny_mono (he A S s E a.at) (fun v s₁ p => ?_) fun _ _ x => x) hs hw
  obtain ⟨k₁, D, rfl, hD⟩ := p
  rw [arm_assign_Tuple]
  refine wpAny_bind (wpAny_standAt ?_)
  show wpAny _ _ (unpack (.ref D) [(false, assign (.Name x px) env)]) _ _ _
  unfold unpack
  refine wpAny_bind (wpAny_holding ?_)
  refine unpack_one a.room.1 hD fun h' kh => ?_
  have k₂ : Keeps s { s₁ with heap := h' } := Keeps.trans' k₁ ⟨h', s₁.toks, rfl, kh⟩
  show wpAny _ _ (holding [] (assign (.Name x px) env (.bool b)) >>= fun _ => assignInOrder [] []) _ _ _
  refine wpAny_bind (wpAny_holding (wpAny_assign_Name (store_at (a.keep k₂) (.bool b) hx.can fun s₃ k₃ kf a₃ => wpAny_pure ⟨(KeepS.of k₂).trans k₃, _, h, a₃⟩)))
end
end Mine
end

section
open PySem PySem.W PySem.Calls PyProof.Rows PySem.Spec
set_option maxRecDepth 100000
namespace Mine
section
variable {prog : Program} {w : World} {A : Around} {R : Result → Shared → Prop} {I : Addr} {fp wr : List Addr} {n : Nat} {P : Nat → Value → Prop} {St : Nat → Heap → Prop}
-- what is known of comparisons in any heap that keeps h₀
noncomputable def CmpIn (prog : Program) (w : World) (A : Around) (h₀ : Heap) (op : CmpOp) (P : Nat → Value → Prop) (bt : Nat → Nat → Bool) : Prop :=
  ∀ i j vi vj (s : Shared) (Q : Value → Shared → Prop) (E : Value → Shared → Prop), KeepH h₀ s.heap → P i vi → P j vj → Q (.bool (bt i j)) s → wpAny (model prog w) A (richCompare op vi vj) Q E s

theorem min_loop (W : Walks prog w A.in1 I fp wr n P St) {h₀ : Heap} (bt : Nat → Nat → Bool) (hcmp : CmpIn prog w A.in1 h₀ .Lt P bt) (S : Addr) (hSf : S ∉ fp) (hw0 : ∀ b ∈ wr, h₀.get? b = none) (hS0 : h₀.get? S = none) :
    ∀ (k j : Nat) (s : Shared) (vb : Value) (c : Nat), n - (j + 1) = k → j + 1 ≤ n → St (j + 1) s.heap → P (argBest bt j) vb → KeepH h₀ s.heap →
    s.heap.get? S = some { cls := .type "list", dict := none, data := .seq #[vb, vb] c, slots := #[] } →
    (∀ v h' tk, P (argBest bt (n - 1)) v → KeepH h₀ h' → R (.ok (.ret v)) { s with heap := h', toks := tk }) →
    codeAny (model prog w) A (.builtin "min.loop" ⟨[.ref I, .none, .ref S], []⟩) R s := by
  have hSw : S ∉ wr := fun h => hSf (W.sub _ h)
  have hname : (toString "min" ++ toString ".loop" : String) = "min.loop" := by decide
  have kw : ∀ {h h' : Heap}, KeepH h₀ h → (∀ b o, b ∉ wr → h.get? b = some o → h'.get? b = some o) → KeepH h₀ h' := fun k q b o e => q b o (fun hb => by rw [hw0 b hb] at e; cases e) (k b o e)
  have kS : ∀ {h : Heap} {f : Obj → Obj}, KeepH h₀ h → KeepH h₀ (h.update S f) := fun k b o e => (Heap.get?_update_other _ _ (fun q : S = b => by rw [← q, hS0] at e; cases e)).trans (k b o e)
  intro k
  induction k with
  | zero =>
    intro j s vb c hk hj hst hPb hk0 hS hR
    have hin : j + 1 = n := by omega
    refine codeAny_builtin F.entry_min_loop ?_
    rw [Around.under_plainId F.plain_min_loop _]
    show wpAny _ A.in1 (seqItems? (.ref S) >>= _) _ _ s
    refine wpAny_bind (wpAny_seqItems hS rfl ?_)
    show wpAny _ A.in1 (tryCatch (pyNext (.ref I)) _ >>= _) _ _ s
    refine wpAny_bind (wpAny_tryCatch (W.done s _ _ (hin ▸ hst) fun h' tk hk' => ?_))
    have hS' := hk' S _ hSw hS
    show wpAny _ A.in1 (updateSeq S (fun _ => #[]) >>= _) _ _ _
    refine wpAny_bind ?_
    refine wpAny_updateSeq hS' rfl (wpAny_bind (wpAny_letGo (wpAny_pure ?_)))
    exact hR vb _ tk (by rw [← hin]; exact hPb) (kS (kw hk0 hk'))
  | succ k ih =>
    intro j s vb c hk hj hst hPb hk0 hS hR
    have hlt : j + 1 < n := by omega
    refine codeAny_builtin F.entry_min_loop ?_
    rw [Around.under_plainId F.plain_min_loop _]
    show wpAny _ A.in1 (seqItems? (.ref S) >>= _) _ _ s
    refine wpAny_bind (wpAny_seqItems hS rfl ?_)
    show wpAny _ A.in1 (tryCatch (pyNext (.ref I)) _ >>= _) _ _ s
    refine wpAny_bind (wpAny_tryCatch (W.item (j + 1) s _ _ hlt hst fun v h' tk hP hst' hk' => ?_))
    have hS' := hk' S _ hSw hS
    have hk1 := kw hk0 hk'
    show wpAny _ A.in1 (tryCatch (holding [v, v] (richCompare .Lt v vb >>= _)) _ >>= _) _ _ _
    refine wpAny_bind (wpAny_tryCatch (wpAny_holding (wpAny_bind (hcmp (j + 1) (argBest bt j) v vb _ _ _ hk1 hP hPb ?_))))
    refine wpAny_bind (wpAny_holding (wpAny_truthy_bool ?_))
    refine wpAny_bind (wpAny_letGo (wpAny_pure ?_))
    cases hb : bt (j + 1) (argBest bt j) with
    | true =>
      simp only [if_true]
      refine wpAny_bind ?_
      refine wpAny_updateSeq hS' rfl (wpAny_bind (wpAny_letGo ?_))
      rw [hname]
      refine wpAny_pure ⟨plainId_quiet F.plain_min_loop _, ih (j + 1) _ v _ (by omega) hlt (W.frame _ _ _ hst' fun b hbf o e => ?_) (by simp only [argBest, hb, if_true]; exact hP) (kS hk1) (Heap.get?_update_self _ hS' rfl)
        fun v' h'' tk'' hP' hk'' => ?_⟩
      · exact (Heap.get?_update_other _ _ (fun h : S = b => hSf (by rw [h]; exact hbf))).trans e
      · exact hR v' h'' tk'' hP' hk''
    | false =>
      simp only [Bool.false_eq_true, if_false]
      refine wpAny_bind (wpAny_letGo ?_)
      rw [hname]
      refine wpAny_pure ⟨plainId_quiet F.plain_min_loop _, ih (j + 1) _ vb c (by omega) hlt hst' (by simp only [argBest, hb, Bool.false_eq_true, if_false]; exact hPb) hk1 hS' fun v' h'' tk'' hP' hk'' => ?_⟩
      exact hR v' h'' tk'' hP' hk''
theorem min_first (W : Walks prog w A.in1 I fp wr n P St) {h₀ : Heap} (bt : Nat → Nat → Bool) (hcmp : CmpIn prog w A.in1 h₀ .Lt P bt) (S : Addr) (hSf : S ∉ fp) (hw0 : ∀ b ∈ wr, h₀.get? b = none) (hS0 : h₀.get? S = none) (hn : 0 < n) {s : Shared} {c : Nat} (hst : St 0 s.heap) (hk0 : KeepH h₀ s.heap)
    (hS : s.heap.get? S = some { cls := .type "list", dict := none, data := .seq #[] c, slots := #[] })
    (hR : ∀ v h' tk, P (argBest bt (n - 1)) v → KeepH h₀ h' → R (.ok (.ret v)) { s with heap := h', toks := tk }) :
    codeAny (model prog w) A (.builtin "min.loop" ⟨[.ref I, .none, .ref S], []⟩) R s := by
  have hSw : S ∉ wr := fun h => hSf (W.sub _ h)
  have hname : (toString "min" ++ toString ".loop" : String) = "min.loop" := by decide
  refine codeAny_builtin F.entry_min_loop ?_
  rw [Around.under_plainId F.plain_min_loop _]
  show wpAny _ A.in1 (seqItems? (.ref S) >>= _) _ _ s
  refine wpAny_bind (wpAny_seqItems hS rfl ?_)
  show wpAny _ A.in1 (tryCatch (pyNext (.ref I)) _ >>= _) _ _ s
  refine wpAny_bind (wpAny_tryCatch (W.item 0 s _ _ hn hst fun v h' tk hP hst' hk' => ?_))
  have hS' := hk' S _ hSw hS
  have hk1 : KeepH h₀ h' := fun b o e => hk' b o (fun hb => by rw [hw0 b hb] at e; cases e) (hk0 b o e)
  show wpAny _ A.in1 (updateSeq S (fun _ => #[v, v]) >>= _) _ _ _
  refine wpAny_bind ?_
  refine wpAny_updateSeq hS' rfl ?_
  rw [hname]
  refine wpAny_pure ⟨plainId_quiet F.plain_min_loop _, min_loop W bt hcmp S hSf hw0 hS0 _ 0 _ v _ rfl hn (W.frame _ _ _ hst' fun b hbf o e => ?_) hP ?_ (Heap.get?_update_self _ hS' rfl) fun v' h'' tk'' hP' hk'' => ?_⟩
  · exact (Heap.get?_update_other _ _ (fun h : S = b => hSf (by rw [h]; exact hbf))).trans e
  · exact fun b o e => (Heap.get?_update_other _ _ (fun q : S = b => by rw [← q, hS0] at e; cases e)).trans (hk1 b o e)
  · exact hR v' h'' tk'' hP' hk''
theorem min_rows {c : Cx} {A : Around} {S : Addr → Prop} {s : Shared} {E : Value → Shared → Prop} {l : Value} {rows : List (List (List Nat))} (hh : A.handled = none) (hu : A.units + 8 < cLine) (sb : SB S s.heap) (r : Rd c.P S s.heap l (.list (rows.map rowD))) (h0 : 0 < rows.length) :
    wpAny c.M A (call (.builtin "min") [l]) (Post c S s (rowD (rows.getD (argBest (fun i j => decide (rows.getD i [] < rows.getD j [])) (rows.length - 1)) []))) E s := by
  obtain ⟨l, vs, rfl, hl, q, hS⟩ := r.list_inv
  have hlen : vs.length = rows.length := by rw [q.length, List.length_map]
  have hname : (toString "min" ++ toString ".loop" : String) = "min.loop" := by decide
  refine call_function_tree F.kind_min F.plain_min F.entry_min (F.args_min1 _) ?_
  show wpAny _ A.in1 (Builtin.Builtins.bindParams "min" ["key", "default"] 0 ⟨[], []⟩ >>= _) _ _ s
  refine wpAny_bind (wpAny_of_eq (show Builtin.Builtins.bindParams "min" ["key", "default"] 0 ⟨[], []⟩ = pure [none, none] from rfl) ?_)
  refine wpAny_bind (wpAny_pure ?_)
  refine wpAny_bind (wpAny_pyIter_list hl ?_)
  refine wpAny_bind (wpAny_newObj_type ?_)
  rw [hname]
  have hlt : l < s.heap.objs.size := Heap.lt_size hl.choose_spec.1
  have hne : l ≠ s.heap.objs.size := Nat.ne_of_lt hlt
  have W := Walks.list (prog := c.prog) (w := c.w) (A := A.in1) hh s.heap.objs.size l hne vs.toArray
  have sz : ({ s with heap := s.heap.push { cls := .type "list_iterator", data := .fields #[.ref l, .int 0 0] } } : Shared).heap.objs.size = s.heap.objs.size + 1 := Heap.size_push ..
  rw [sz]
  have hv : ∀ {i : Nat} {v : Value}, vs.toArray[i]? = some v → ∃ r, rows[i]? = some r ∧ Rd c.P S s.heap v (rowD r) := fun {i v} e => by
    obtain ⟨d, hd, rd⟩ := q.get' (i := i) (v := v) (by simpa using e)
    rw [List.getElem?_map, Option.map_eq_some_iff] at hd
    obtain ⟨r, hr, rfl⟩ := hd
    exact ⟨r, hr, rd⟩
  have hI0 : ∀ b ∈ [s.heap.objs.size], s.heap.get? b = none := fun b hb => by rw [List.mem_singleton.mp hb]; exact get_size_none _
  have hD0 : s.heap.get? (s.heap.objs.size + 1) = none := by
    cases e : s.heap.get? (s.heap.objs.size + 1) with
    | none => rfl
    | some o => exact absurd (Heap.lt_size e) (Nat.not_lt_of_le (Nat.le_succ _))
  have hk2 : KeepH s.heap ((s.heap.push { cls := .type "list_iterator", data := .fields #[.ref l, .int 0 0] }).push { cls := .type "list", data := .seq ([] : List Value).toArray }) := fun b o e => keepH_push _ _ _ (keepH_push _ _ _ e)
  refine wpAny_pure ⟨plainId_quiet F.plain_min_loop _, min_first W (h₀ := s.heap) (fun i j => decide (rows.getD i [] < rows.getD j [])) (fun i j vi vj s' Q E hk hi hj hQ => ?_) (s.heap.objs.size + 1) ?_ hI0 hD0 (by simp; omega) ?_ hk2 (by rw [← sz]; exact Heap.get?_push_size _ rfl) fun v h' tk hP hk => ?_⟩
  · obtain ⟨r₁, e₁, rd₁⟩ := hv hi
    obtain ⟨r₂, e₂, rd₂⟩ := hv hj
    have g₁ : rows.getD i [] = r₁ := by simp [e₁]
    have g₂ : rows.getD j [] = r₂ := by simp [e₂]
    have hb : (fun i j => decide (rows.getD i [] < rows.getD j [])) i j = lexL (r₁.map fun x => .str (st x)) (r₂.map fun x => .str (st x)) := by rw [lexL_strs]; simp only [g₁, g₂]
    have hQ' : Q (.bool (lexL (r₁.map fun x => .str (st x)) (r₂.map fun x => .str (st x)))) s' := hb ▸ hQ
    refine rc_lt (c := c) (k := 2) (by decide) (fun d hd => ?_) (fun d hd => ?_) (rd₁.keep hk) (rd₂.keep hk) (by show A.units + 1 < cLine; omega) hQ'
    · obtain ⟨_, _, rfl⟩ := List.mem_map.mp hd; rfl
    · obtain ⟨_, _, rfl⟩ := List.mem_map.mp hd; rfl
  · intro hm
    rcases List.mem_cons.mp hm with h | hm
    · exact absurd h (Nat.succ_ne_self _)
    · rcases List.mem_cons.mp hm with h | hm
      · exact absurd h (Nat.ne_of_gt (Nat.lt_succ_of_lt hlt))
      · cases hm
  · exact ⟨⟨_, keepH_push _ _ _ (Heap.get?_push_size _ rfl), rfl, rfl⟩, (hl.push _).push _⟩
  · obtain ⟨r, e, rd⟩ := hv hP
    have hsz : vs.toArray.size = rows.length := by simpa using hlen
    rw [hsz] at e
    refine ⟨⟨h', tk, rfl, hk⟩, ?_⟩
    have : rows.getD (argBest (fun i j => decide (rows.getD i [] < rows.getD j [])) (rows.length - 1)) [] = r := by rw [List.getD_eq_getElem?_getD, e]; rfl
    rw [this]
    exact rd.keep hk

theorem max_loop (W : Walks prog w A.in1 I fp wr n P St) {h₀ : Heap} (bt : Nat → Nat → Bool) (hcmp : CmpIn prog w A.in1 h₀ .Gt P bt) (S : Addr) (hSf : S ∉ fp) (hw0 : ∀ b ∈ wr, h₀.get? b = none) (hS0 : h₀.get? S = none) :
    ∀ (k j : Nat) (s : Shared) (vb : Value) (c : Nat), n - (j + 1) = k → j + 1 ≤ n → St (j + 1) s.heap → P (argBest bt j) vb → KeepH h₀ s.heap →
    s.heap.get? S = some { cls := .type "list", dict := none, data := .seq #[vb, vb] c, slots := #[] } →
    (∀ v h' tk, P (argBest bt (n - 1)) v → KeepH h₀ h' → R (.ok (.ret v)) { s with heap := h', toks := tk }) →
    codeAny (model prog w) A (.builtin "max.loop" ⟨[.ref I, .none, .ref S], []⟩) R s := by
  have hSw : S ∉ wr := fun h => hSf (W.sub _ h)
  have hname : (toString "max" ++ toString ".loop" : String) = "max.loop" := by decide
  have kw : ∀ {h h' : Heap}, KeepH h₀ h → (∀ b o, b ∉ wr → h.get? b = some o → h'.get? b = some o) → KeepH h₀ h' := fun k q b o e => q b o (fun hb => by rw [hw0 b hb] at e; cases e) (k b o e)
  have kS : ∀ {h : Heap} {f : Obj → Obj}, KeepH h₀ h → KeepH h₀ (h.update S f) := fun k b o e => (Heap.get?_update_other _ _ (fun q : S = b => by rw [← q, hS0] at e; cases e)).trans (k b o e)
  intro k
  induction k with
  | zero =>
    intro j s vb c hk hj hst hPb hk0 hS hR
    have hin : j + 1 = n := by omega
    refine codeAny_builtin F.entry_max_loop ?_
    rw [Around.under_plainId F.plain_max_loop _]
    show wpAny _ A.in1 (seqItems? (.ref S) >>= _) _ _ s
    refine wpAny_bind (wpAny_seqItems hS rfl ?_)
    show wpAny _ A.in1 (tryCatch (pyNext (.ref I)) _ >>= _) _ _ s
    refine wpAny_bind (wpAny_tryCatch (W.done s _ _ (hin ▸ hst) fun h' tk hk' => ?_))
    have hS' := hk' S _ hSw hS
    show wpAny _ A.in1 (updateSeq S (fun _ => #[]) >>= _) _ _ _
    refine wpAny_bind ?_
    refine wpAny_updateSeq hS' rfl (wpAny_bind (wpAny_letGo (wpAny_pure ?_)))
    exact hR vb _ tk (by rw [← hin]; exact hPb) (kS (kw hk0 hk'))
  | succ k ih =>
    intro j s vb c hk hj hst hPb hk0 hS hR
    have hlt : j + 1 < n := by omega
    refine codeAny_builtin F.entry_max_loop ?_
    rw [Around.under_plainId F.plain_max_loop _]
    show wpAny _ A.in1 (seqItems? (.ref S) >>= _) _ _ s
    refine wpAny_bind (wpAny_seqItems hS rfl ?_)
    show wpAny _ A.in1 (tryCatch (pyNext (.ref I)) _ >>= _) _ _ s
    refine wpAny_bind (wpAny_tryCatch (W.item (j + 1) s _ _ hlt hst fun v h' tk hP hst' hk' => ?_))
    have hS' := hk' S _ hSw hS
    have hk1 := kw hk0 hk'
    show wpAny _ A.in1 (tryCatch (holding [v, v] (richCompare .Gt v vb >>= _)) _ >>= _) _ _ _
    refine wpAny_bind (wpAny_tryCatch (wpAny_holding (wpAny_bind (hcmp (j + 1) (argBest bt j) v vb _ _ _ hk1 hP hPb ?_))))
    refine wpAny_bind (wpAny_holding (wpAny_truthy_bool ?_))
    refine wpAny_bind (wpAny_letGo (wpAny_pure ?_))
    cases hb : bt (j + 1) (argBest bt j) with
    | true =>
      simp only [if_true]
      refine wpAny_bind ?_
      refine wpAny_updateSeq hS' rfl (wpAny_bind (wpAny_letGo ?_))
      rw [hname]
      refine wpAny_pure ⟨plainId_quiet F.plain_max_loop _, ih (j + 1) _ v _ (by omega) hlt (W.frame _ _ _ hst' fun b hbf o e => ?_) (by simp only [argBest, hb, if_true]; exact hP) (kS hk1) (Heap.get?_update_self _ hS' rfl)
        fun v' h'' tk'' hP' hk'' => ?_⟩
      · exact (Heap.get?_update_other _ _ (fun h : S = b => hSf (by rw [h]; exact hbf))).trans e
      · exact hR v' h'' tk'' hP' hk''
    | false =>
      simp only [Bool.false_eq_true, if_false]
      refine wpAny_bind (wpAny_letGo ?_)
      rw [hname]
      refine wpAny_pure ⟨plainId_quiet F.plain_max_loop _, ih (j + 1) _ vb c (by omega) hlt hst' (by simp only [argBest, hb, Bool.false_eq_true, if_false]; exact hPb) hk1 hS' fun v' h'' tk'' hP' hk'' => ?_⟩
      exact hR v' h'' tk'' hP' hk''
theorem max_first (W : Walks prog w A.in1 I fp wr n P St) {h₀ : Heap} (bt : Nat → Nat → Bool) (hcmp : CmpIn prog w A.in1 h₀ .Gt P bt) (S : Addr) (hSf : S ∉ fp) (hw0 : ∀ b ∈ wr, h₀.get? b = none) (hS0 : h₀.get? S = none) (hn : 0 < n) {s : Shared} {c : Nat} (hst : St 0 s.heap) (hk0 : KeepH h₀ s.heap)
    (hS : s.heap.get? S = some { cls := .type "list", dict := none, data := .seq #[] c, slots := #[] })
    (hR : ∀ v h' tk, P (argBest bt (n - 1)) v → KeepH h₀ h' → R (.ok (.ret v)) { s with heap := h', toks := tk }) :
    codeAny (model prog w) A (.builtin "max.loop" ⟨[.ref I, .none, .ref S], []⟩) R s := by
  have hSw : S ∉ wr := fun h => hSf (W.sub _ h)
  have hname : (toString "max" ++ toString ".loop" : String) = "max.loop" := by decide
  refine codeAny_builtin F.entry_max_loop ?_
  rw [Around.under_plainId F.plain_max_loop _]
  show wpAny _ A.in1 (seqItems? (.ref S) >>= _) _ _ s
  refine wpAny_bind (wpAny_seqItems hS rfl ?_)
  show wpAny _ A.in1 (tryCatch (pyNext (.ref I)) _ >>= _) _ _ s
  refine wpAny_bind (wpAny_tryCatch (W.item 0 s _ _ hn hst fun v h' tk hP hst' hk' => ?_))
  have hS' := hk' S _ hSw hS
  have hk1 : KeepH h₀ h' := fun b o e => hk' b o (fun hb => by rw [hw0 b hb] at e; cases e) (hk0 b o e)
  show wpAny _ A.in1 (updateSeq S (fun _ => #[v, v]) >>= _) _ _ _
  refine wpAny_bind ?_
  refine wpAny_updateSeq hS' rfl ?_
  rw [hname]
  refine wpAny_pure ⟨plainId_quiet F.plain_max_loop _, max_loop W bt hcmp S hSf hw0 hS0 _ 0 _ v _ rfl hn (W.frame _ _ _ hst' fun b hbf o e => ?_) hP ?_ (Heap.get?_update_self _ hS' rfl) fun v' h'' tk'' hP' hk'' => ?_⟩
  · exact (Heap.get?_update_other _ _ (fun h : S = b => hSf (by rw [h]; exact hbf))).trans e
  · exact fun b o e => (Heap.get?_update_other _ _ (fun q : S = b => by rw [← q, hS0] at e; cases e)).trans (hk1 b o e)
  · exact hR v' h'' tk'' hP' hk''
theorem max_rows {c : Cx} {A : Around} {S : Addr → Prop} {s : Shared} {E : Value → Shared → Prop} {l : Value} {rows : List (List (List Nat))} (hh : A.handled = none) (hu : A.units + 8 < cLine) (sb : SB S s.heap) (r : Rd c.P S s.heap l (.list (rows.map rowD))) (h0 : 0 < rows.length) :
    wpAny c.M A (call (.builtin "max") [l]) (Post c S s (rowD (rows.getD (argBest (fun i j => decide (rows.getD j [] < rows.getD i [])) (rows.length - 1)) []))) E s := by
  obtain ⟨l, vs, rfl, hl, q, hS⟩ := r.list_inv
  have hlen : vs.length = rows.length := by rw [q.length, List.length_map]
  have hname : (toString "max" ++ toString ".loop" : String) = "max.loop" := by decide
  refine call_function_tree F.kind_max F.plain_max F.entry_max (F.args_max1 _) ?_
  show wpAny _ A.in1 (Builtin.Builtins.bindParams "max" ["key", "default"] 0 ⟨[], []⟩ >>= _) _ _ s
  refine wpAny_bind (wpAny_of_eq (show Builtin.Builtins.bindParams "max" ["key", "default"] 0 ⟨[], []⟩ = pure [none, none] from rfl) ?_)
  refine wpAny_bind (wpAny_pure ?_)
  refine wpAny_bind (wpAny_pyIter_list hl ?_)
  refine wpAny_bind (wpAny_newObj_type ?_)
  rw [hname]
  have hlt : l < s.heap.objs.size := Heap.lt_size hl.choose_spec.1
  have hne : l ≠ s.heap.objs.size := Nat.ne_of_lt hlt
  have W := Walks.list (prog := c.prog) (w := c.w) (A := A.in1) hh s.heap.objs.size l hne vs.toArray
  have sz : ({ s with heap := s.heap.push { cls := .type "list_iterator", data := .fields #[.ref l, .int 0 0] } } : Shared).heap.objs.size = s.heap.objs.size + 1 := Heap.size_push ..
  rw [sz]
  have hv : ∀ {i : Nat} {v : Value}, vs.toArray[i]? = some v → ∃ r, rows[i]? = some r ∧ Rd c.P S s.heap v (rowD r) := fun {i v} e => by
    obtain ⟨d, hd, rd⟩ := q.get' (i := i) (v := v) (by simpa using e)
    rw [List.getElem?_map, Option.map_eq_some_iff] at hd
    obtain ⟨r, hr, rfl⟩ := hd
    exact ⟨r, hr, rd⟩
  have hI0 : ∀ b ∈ [s.heap.objs.size], s.heap.get? b = none := fun b hb => by rw [List.mem_singleton.mp hb]; exact get_size_none _
  have hD0 : s.heap.get? (s.heap.objs.size + 1) = none := by
    cases e : s.heap.get? (s.heap.objs.size + 1) with
    | none => rfl
    | some o => exact absurd (Heap.lt_size e) (Nat.not_lt_of_le (Nat.le_succ _))
  have hk2 : KeepH s.heap ((s.heap.push { cls := .type "list_iterator", data := .fields #[.ref l, .int 0 0] }).push { cls := .type "list", data := .seq ([] : List Value).toArray }) := fun b o e => keepH_push _ _ _ (keepH_push _ _ _ e)
  refine wpAny_pure ⟨plainId_quiet F.plain_max_loop _, max_first W (h₀ := s.heap) (fun i j => decide (rows.getD j [] < rows.getD i [])) (fun i j vi vj s' Q E hk hi hj hQ => ?_) (s.heap.objs.size + 1) ?_ hI0 hD0 (by simp; omega) ?_ hk2 (by rw [← sz]; exact Heap.get?_push_size _ rfl) fun v h' tk hP hk => ?_⟩
  · obtain ⟨r₁, e₁, rd₁⟩ := hv hi
    obtain ⟨r₂, e₂, rd₂⟩ := hv hj
    have g₁ : rows.getD i [] = r₁ := by simp [e₁]
    have g₂ : rows.getD j [] = r₂ := by simp [e₂]
    have hb : (fun i j => decide (rows.getD j [] < rows.getD i [])) i j = lexL (r₂.map fun x => .str (st x)) (r₁.map fun x => .str (st x)) := by rw [lexL_strs]; simp only [g₁, g₂]
    have hQ' : Q (.bool (lexL (r₂.map fun x => .str (st x)) (r₁.map fun x => .str (st x)))) s' := hb ▸ hQ
    refine rc_gt (c := c) (k := 2) (by decide) (fun d hd => ?_) (fun d hd => ?_) (rd₁.keep hk) (rd₂.keep hk) (by show A.units + 1 < cLine; omega) hQ'
    · obtain ⟨_, _, rfl⟩ := List.mem_map.mp hd; rfl
    · obtain ⟨_, _, rfl⟩ := List.mem_map.mp hd; rfl
  · intro hm
    rcases List.mem_cons.mp hm with h | hm
    · exact absurd h (Nat.succ_ne_self _)
    · rcases List.mem_cons.mp hm with h | hm
      · exact absurd h (Nat.ne_of_gt (Nat.lt_succ_of_lt hlt))
      · cases hm
  · exact ⟨⟨_, keepH_push _ _ _ (Heap.get?_push_size _ rfl), rfl, rfl⟩, (hl.push _).push _⟩
  · obtain ⟨r, e, rd⟩ := hv hP
    have hsz : vs.toArray.size = rows.length := by simpa using hlen
    rw [hsz] at e
    refine ⟨⟨h', tk, rfl, hk⟩, ?_⟩
    have : rows.getD (argBest (fun i j => decide (rows.getD j [] < rows.getD i [])) (rows.length - 1)) [] = r := by rw [List.getD_eq_getElem?_getD, e]; rfl
    rw [this]
    exact rd.keep hk
end
section
variable {c : Cx} {env : Env} {n : Nat} {σ : List (Str × PyData)}
noncomputable def minRow (rows : List (List (List Nat))) : List (List Nat) := rows.getD (argBest (fun i j => decide (rows.getD i [] < rows.getD j [])) (rows.length - 1)) []
noncomputable def maxRow (rows : List (List (List Nat))) : List (List Nat) := rows.getD (argBest (fun i j => decide (rows.getD j [] < rows.getD i [])) (rows.length - 1)) []
theorem ev_minRow {p e pos} {rows : List (List (List Nat))} (i : Is c) (pl : Plain env) (hx : env.kindOf (Str.ofString "min") = some .globalImplicit) (he : Ev c env n σ e (.list (rows.map rowD))) (h0 : 0 < rows.length) (hs : starEach [e] env = (false, eval e env) :: starEach [] env := by rfl) :
    Ev c env n σ (.Call (.Name (Str.ofString "min") p) [e] [] pos) (rowD (minRow rows)) :=
  ev_call_builtin (vB i pl hx g_min Boot.«min») (evL_cons he evL_nil hs) (fun A S s E vs a r => by
    obtain ⟨v, rfl, r₁⟩ := r.one
    exact min_rows a.room.1 (by have := a.room.units; omega) a.sb r₁ h0) hs
theorem ev_maxRow {p e pos} {rows : List (List (List Nat))} (i : Is c) (pl : Plain env) (hx : env.kindOf (Str.ofString "max") = some .globalImplicit) (he : Ev c env n σ e (.list (rows.map rowD))) (h0 : 0 < rows.length) (hs : starEach [e] env = (false, eval e env) :: starEach [] env := by rfl) :
    Ev c env n σ (.Call (.Name (Str.ofString "max") p) [e] [] pos) (rowD (maxRow rows)) :=
  ev_call_builtin (vB i pl hx g_max Boot.«max») (evL_cons he evL_nil hs) (fun A S s E vs a r => by
    obtain ⟨v, rfl, r₁⟩ := r.one
    exact max_rows a.room.1 (by have := a.room.units; omega) a.sb r₁ h0) hs
end
end Mine
end

section
open PySem PySem.W PySem.Calls PyProof.Rows PySem.Spec
set_option maxRecDepth 100000
namespace Mine
section
variable {c : Cx} {env : Env} {n : Nat} {S : Addr → Prop} {σ : List (Str × PyData)} {A : Around} {s s₁ s' : Shared} {E : Value → Shared → Prop} {Φ : Out → Prop}
theorem ex_forEnum {x y px py k tp nm p e ipos body pos ds} (J : Nat → List (Str × PyData) → Prop) (hf : EvV c env n σ (.Name nm p) (.type "enumerate")) (he : Ev c env n σ e (.list ds)) (hx : Own env x) (hy : Own env y) (h0 : J 0 σ)
    (hb : ∀ (i : Nat) d σ', ds[i]? = some d → J i σ' → Exs c env n ((y, d) :: (x, .int (i : Int)) :: σ') body (fun o => match o with | .next σ'' => J (i + 1) σ'' | .cont σ'' => J (i + 1) σ'' | .brk σ'' => Φ (.next σ'') | .ret r => Φ (.ret r)))
    (hd : ∀ σ', J ds.length σ' → Φ (.next σ')) (hse : starEach [e] env = (false, eval e env) :: starEach [] env := by rfl) (hs : ∀ x, foldedSetIterable (.Call (.Name nm p) [e] [] ipos) env x = pure x := by intro _; rfl) :
    Ex1 c env n σ (.For (.Tuple [.Name x px, .Name y py] k tp) (.Call (.Name nm p) [e] [] ipos) body [] pos) Φ := fun A S s E a => by
  refine wpAny_For ?_ hs
  show wpAny _ _ (eval (.Name nm p) env >>= fun f => callWith ipos f [] (backTo ipos (starEach [e] env)) (backToKw ipos (keywordEach [] env))) _ _ s
  refine wpAny_bind (wpAny_mono (hf A S s E a.at) (fun v s₁ p₁ => ?_) fun _ _ x => x)
  obtain ⟨rfl, rfl⟩ := p₁
  have ha' := evL_cons he evL_nil hse A S s₁ E ipos a.at
  rw [hse] at ha' ⊢
  refine PySem.callWith_type rfl (evalArgs_plain (wpAny_mono ha' (fun vs s₂ p₂ => ?_) fun _ _ x => x))
  obtain ⟨k₁, r⟩ := p₂
  obtain ⟨v, rfl, r₁⟩ := r.one
  obtain ⟨l, vs, rfl, hl, q, hSl⟩ := r₁.list_inv
  have a₁ := a.keep k₁
  have hlen : vs.length = ds.length := q.length
  refine call_enumerate_list hl fun h₁ hen hit hsz hk => ?_
  have k₂ : Keeps s₂ { s₂ with heap := h₁ } := ⟨h₁, s₂.toks, rfl, hk⟩
  have kk : Keeps s₁ { s₂ with heap := h₁ } := Keeps.trans' k₁ k₂
  refine wpAny_pyIter_enum (s := { s₂ with heap := h₁ }) hen ?_
  generalize hen0 : s₂.heap.objs.size + 1 = e0 at *
  generalize hit0 : s₂.heap.objs.size = i0 at *
  have hlt : l < i0 := by rw [← hit0]; exact Heap.lt_size hl.choose_spec.1
  have hw : ∀ b ∈ [e0, i0], s₂.heap.get? b = none := fun b hb => by
    cases e : s₂.heap.get? b with
    | none => rfl
    | some o =>
      have h := Heap.lt_size e
      rcases List.mem_cons.mp hb with rfl | hb
      · exact absurd h (by rw [hit0, ← hen0]; exact Nat.not_lt_of_le (Nat.le_succ _))
      · rw [List.mem_singleton.mp hb, hit0] at h; exact absurd h (Nat.lt_irrefl _)
  have hw0 : ∀ b ∈ [e0, i0], s₁.heap.get? b = none := fun b hb => by
    cases e : s₁.heap.get? b with
    | none => rfl
    | some o => have := Keeps.h k₁ _ _ e; rw [hw b hb] at this; cases this
  have W := WalksT.enumerate (prog := c.prog) (w := c.w) (A := A) a.room.1 e0 i0 l (by rw [← hen0]; exact Nat.succ_ne_self _) (Nat.ne_of_lt (Nat.lt_trans hlt (by rw [← hen0]; exact Nat.lt_succ_self _))) (Nat.ne_of_lt hlt) vs.toArray
  rw [show vs.toArray.size = ds.length by rw [List.size_toArray, hlen]] at W
  let S₁ : Addr → Prop := fun b => S b ∨ b ∈ [e0, i0]
  have hwS : ∀ b ∈ [e0, i0], ¬ S b := fun b hb q => by obtain ⟨o, ho⟩ := a.sb b q; rw [hw0 b hb] at ho; cases ho
  have hXS : ∀ b, FrA env b → S b := a.fm.xs
  have hwX : ∀ b ∈ [e0, i0], ¬ FrA env b := fun b hb q => hwS b hb (hXS b q)
  have hfS : ∀ b ∈ [e0, i0, l], ¬ S b := fun b hb => by
    rcases List.mem_cons.mp hb with rfl | hb
    · exact hwS _ (List.mem_cons_self ..)
    · rcases List.mem_cons.mp hb with rfl | hb
      · exact hwS _ (List.mem_cons_of_mem _ (List.mem_cons_self ..))
      · rw [List.mem_singleton.mp hb]; exact hSl
  have hsp : SB S s₁.heap := a.sb
  have hl₁ : h₁.IsList l vs.toArray := let ⟨o, ho, q⟩ := hl; ⟨o, hk _ _ ho, q⟩
  have st0 : (∃ old, IsEnum h₁ e0 i0 ((0 : Nat) : Int) old) ∧ h₁.IsListIter i0 l 0 ∧ h₁.IsList l vs.toArray := ⟨⟨_, hen⟩, hit, hl₁⟩
  have hob : ∀ i (h : Heap), ((∃ old, IsEnum h e0 i0 ((i : Nat) : Int) old) ∧ h.IsListIter i0 l i ∧ h.IsList l vs.toArray) → ∀ b ∈ [e0, i0], ∃ o, h.get? b = some o := fun i h st b hb => by
    obtain ⟨⟨old, h1⟩, ⟨o2, h2, _⟩, _⟩ := st
    rcases List.mem_cons.mp hb with rfl | hb
    · exact ⟨_, h1⟩
    · rw [List.mem_singleton.mp hb]; exact ⟨_, h2⟩
  have a₂ : AtS c env n (FrA env) σ A S₁ { s₂ with heap := h₁ } := by
    have a' := a.keep kk
    refine ⟨a'.room, a'.good, fun b hb => hb.elim (a'.sb b) (hob _ _ st0 b), ?_⟩
    exact a.fm.move (S' := S₁) (h' := h₁) (fun b q => .inl (hXS b q)) (fun b o n e => ⟨fun q => q.elim n fun q => (by rw [hw0 b q] at e; cases e), Keeps.h kk b o e⟩) (fun o e => Keeps.h kk _ _ e) (fun _ _ o e => Keeps.h kk _ _ e)
  have good₂ : GoodX c (fun b => FrA env b ∨ b ∈ [e0, i0]) h₁ := by
    obtain ⟨h₀, g, kk', z⟩ := a.good
    refine ⟨h₀, g, kk'.trans (Keeps.h kk), fun b q => q.elim (z b) fun q => ?_⟩
    cases e : h₀.get? b with
    | none => rfl
    | some o => have := kk' b o e; rw [hw0 b q] at this; cases this
  have back : ∀ {s' : Shared}, KeepS (fun b => FrA env b ∨ b ∈ [e0, i0]) { s₂ with heap := h₁ } s' → KeepS (FrA env) s₁ s' := fun {s'} ks => by
    obtain ⟨h₂, tk₂, e₂, kh₂⟩ := kk
    obtain ⟨h', tk', rfl, kb⟩ := ks
    injection e₂ with e1 e2 e3 e4 e5
    refine ⟨h', tk', ?_, fun b o nx e => kb b o (fun q => q.elim nx fun q => by rw [hw0 b q] at e; cases e) (by show h₁.get? b = some o; rw [e1]; exact kh₂ b o e)⟩
    rw [e2, e3, e5]
  have hvR : ∀ {i : Nat} {x : Value} {s' : Shared}, vs.toArray[i]? = some x → KeepS (fun b => FrA env b ∨ b ∈ [e0, i0]) { s₂ with heap := h₁ } s' → ∃ d, ds[i]? = some d ∧ Rd c.P S₁ s'.heap x d := fun {i x s'} e ks => by
    obtain ⟨d, hd, rd⟩ := q.get' (i := i) (v := x) (by simpa using e)
    refine ⟨d, hd, ((rd.more (S' := S₁) fun b q => q.imp id (hw b)).keep hk).keepB (ks.b.mono fun b q => q.elim (fun q => .inl (hXS b q)) .inr)⟩
  refine codeAny_forLoop_any (fun m s' => ∃ i σ', i ≤ ds.length ∧ m = ds.length + 1 - i ∧ J i σ' ∧ ((∃ old, IsEnum s'.heap e0 i0 ((i : Nat) : Int) old) ∧ s'.heap.IsListIter i0 l i ∧ s'.heap.IsList l vs.toArray) ∧ KeepS (fun b => FrA env b ∨ b ∈ [e0, i0]) { s₂ with heap := h₁ } s' ∧ AtS c env n (FrA env) σ' A S₁ s') ?_ (ds.length + 1)
    ⟨0, σ, Nat.zero_le _, rfl, h0, st0, KeepS.refl, a₂⟩
  rintro m s' ⟨i, σ', hi', rfl, hJ, st', ks, a'⟩
  by_cases hlt' : i < ds.length
  · refine W.item i s' _ _ hlt' st' fun T vals h₃ tk₃ hPv hTs hT hMid hk₃ => ?_
    obtain ⟨t, xv, hxv, rfl⟩ := hPv
    refine W.go _ k tp i T { s' with heap := h₃, toks := tk₃ } _ _ hMid fun h₄ st₄ hk₄ => ?_
    have hTw := W.apart i T h₃ hMid
    have hT₄ : h₄.IsTuple T #[.int (i : Int) t, xv] := hT.at fun o e => hk₄ T o hTw e
    have kw : KeepB (fun b => b ∈ [e0, i0]) s'.heap h₄ := fun b o nx e => hk₄ b o nx (hk₃ b o nx e)
    have ks₃ : KeepS (fun b => FrA env b ∨ b ∈ [e0, i0]) { s₂ with heap := h₁ } { s' with heap := h₄, toks := tk₃ } := ks.trans ⟨h₄, tk₃, rfl, kw.mono fun _ => .inr⟩
    obtain ⟨d, hdd, rd⟩ := hvR hxv ks₃
    have a₃ : AtS c env n (FrA env) σ' A S₁ { s' with heap := h₄, toks := tk₃ } := by
      refine ⟨a'.room, ?_, fun b q => ?_, a'.fm.move a'.fm.xs (fun b o nx e => ⟨nx, kw b o (fun z => nx (.inr z)) e⟩) (fun o e => kw _ o (fun z => hwX _ z (.inl rfl)) e) fun p hp o e => kw _ o (fun z => hwX _ z (.inr ⟨p, hp, rfl⟩)) e⟩
      · obtain ⟨h₀, g, kk, z⟩ := good₂
        exact ⟨h₀, g, fun b o e => ks₃.b b o (fun q => by rw [z b q] at e; cases e) (kk b o e), fun b q => z b (.inl q)⟩
      · by_cases z : b ∈ [e0, i0]
        · exact hob _ _ st₄ b z
        · obtain ⟨o, ho⟩ := a'.sb b q; exact ⟨o, kw b o z ho⟩
    have hTS : ¬ S₁ T := fun q => q.elim (fun q => by
      obtain ⟨o, ho⟩ := a'.sb T (.inl q)
      exact absurd (Heap.lt_size ho) (Nat.not_lt_of_le hTs)) hTw
    have rT : Rd c.P S₁ h₄ (.ref T) (.tuple [.int (i : Int), d]) := by
      obtain ⟨o, ho, hc, nn, hdt⟩ := hT₄
      exact .tuple hTS ho hc hdt (.cons (.int _ _) (.cons rd .nil))
    refine wpAny_mono (asg_pair hx.can hy.can A S₁ { s' with heap := h₄, toks := tk₃ } _ σ' (.ref T) a₃ rT) (fun _ s₄ q₄ => ?_) fun _ _ x => x
    obtain ⟨k₄, kf₄, a₄⟩ := q₄
    have ks₄ := ks₃.trans (k₄.mono fun _ => .inl)
    have st₅ := W.frame (i + 1) _ s₄.heap st₄ fun b hb o e => k₄.b b o (fun q => hfS b hb (hXS b q)) e
    refine wpAny_mono (hb i d σ' hdd hJ A S₁ s₄ _ a₄) (fun f s₅ q => ?_) fun _ _ x => x
    obtain ⟨k₅, q⟩ := q
    have ks₅ := ks₄.trans (k₅.mono fun _ => .inl)
    have st₆ := W.frame (i + 1) _ s₅.heap st₅ fun b hb o e => k₅.b b o (fun q => hfS b hb (hXS b q)) e
    cases f with
    | next => obtain ⟨σ'', j, a₅⟩ := q; exact ⟨_, by omega, i + 1, σ'', hlt', rfl, j, st₆, ks₅, a₅⟩
    | cont => obtain ⟨σ'', j, a₅⟩ := q; exact ⟨_, by omega, i + 1, σ'', hlt', rfl, j, st₆, ks₅, a₅⟩
    | brk => obtain ⟨σ'', j, a₅⟩ := q; exact ⟨back ks₅, σ'', j, a₅.less (fun _ => .inl) hXS⟩
    | ret v => obtain ⟨r, j, a₅⟩ := q; exact ⟨back ks₅, r, j, a₅.less fun _ => .inl⟩
  · obtain rfl : i = ds.length := by omega
    refine W.done s' _ _ st' fun h₃ tk₃ hk₃ => ?_
    refine wpAny_execs_nil ?_
    have kw : KeepB (fun b => b ∈ [e0, i0]) s'.heap h₃ := fun b o nx e => hk₃ b o nx e
    have ks₃ : KeepS (fun b => FrA env b ∨ b ∈ [e0, i0]) { s₂ with heap := h₁ } { s' with heap := h₃, toks := tk₃ } := ks.trans ⟨h₃, tk₃, rfl, kw.mono fun _ => .inr⟩
    refine ⟨back ks₃, σ', hd σ' hJ, a'.room, ?_, fun b q => ?_, a'.fm.move hXS (fun b o nx e => ⟨fun z => nx (.inl z), hk₃ b o (fun z => nx (.inr z)) e⟩) (fun o e => hk₃ _ o (fun z => hwX _ z (.inl rfl)) e) fun p hp o e => hk₃ _ o (fun z => hwX _ z (.inr ⟨p, hp, rfl⟩)) e⟩
    · obtain ⟨h₀, g, kk, z⟩ := good₂
      exact ⟨h₀, g, fun b o e => ks₃.b b o (fun q => by rw [z b q] at e; cases e) (kk b o e), fun b q => z b (.inl q)⟩
    · obtain ⟨o, ho⟩ := a'.sb b (.inl q); exact ⟨o, hk₃ b o (fun z => hwS b z q) ho⟩
end
end Mine
end

section
open PySem PySem.W PySem.Calls PyProof.Rows PySem.Spec
set_option maxRecDepth 100000
namespace Mine
-- a text cut at its slashes
noncomputable def splitL : List Nat → List (List Nat)
  | [] => [[]]
  | x :: r => if x = 47 then [] :: splitL r else match splitL r with
    | p :: ps => (x :: p) :: ps
    | [] => [[x]]
theorem splitL_ne : ∀ l, splitL l ≠ []
  | [] => by simp [splitL]
  | x :: r => by
    unfold splitL
    split
    · simp
    · split <;> simp
theorem splitL_free : ∀ l, ∀ p ∈ splitL l, 47 ∉ p
  | [], p, hp => by simp [splitL] at hp; subst hp; simp
  | x :: r, p, hp => by
    have ih := splitL_free r
    unfold splitL at hp
    split at hp
    · rcases List.mem_cons.mp hp with rfl | hp
      · simp
      · exact ih p hp
    · rename_i hx
      split at hp
      · rename_i q qs hq
        rw [hq] at ih
        rcases List.mem_cons.mp hp with rfl | hp
        · intro h
          rcases List.mem_cons.mp h with h | h
          · exact hx h.symm
          · exact ih q List.mem_cons_self h
        · exact ih p (List.mem_cons_of_mem _ hp)
      · rename_i hq; exact absurd hq (splitL_ne r)
theorem inter_cons (p q : List Nat) (r : List (List Nat)) : List.intercalate [47] (p :: q :: r) = p ++ 47 :: List.intercalate [47] (q :: r) := by
  simp [List.intercalate, List.intersperse]
theorem inter_one (p : List Nat) : List.intercalate [47] [p] = p := by simp [List.intercalate, List.intersperse]
theorem splitL_inter : ∀ l, List.intercalate [47] (splitL l) = l
  | [] => by simp [splitL, inter_one]
  | x :: r => by
    have ih := splitL_inter r
    unfold splitL
    obtain ⟨p, ps, hp⟩ : ∃ p ps, splitL r = p :: ps := by
      cases h : splitL r with
      | nil => exact absurd h (splitL_ne r)
      | cons p ps => exact ⟨p, ps, rfl⟩
    rw [hp] at ih ⊢
    split
    · rename_i hx
      rw [inter_cons, ih, hx]; rfl
    · cases ps with
      | nil => rw [inter_one] at ih ⊢; rw [ih]
      | cons q qs => rw [inter_cons] at ih ⊢; rw [List.cons_append, ih]
theorem cut_uniq {p q a b : List Nat} (hp : 47 ∉ p) (hq : 47 ∉ q) (h : p ++ 47 :: a = q ++ 47 :: b) : p = q ∧ a = b := by
  induction p generalizing q with
  | nil =>
    cases q with
    | nil => simp at h; exact ⟨rfl, h⟩
    | cons y q => simp at h; exact absurd h.1 (fun e => hq (e ▸ List.mem_cons_self))
  | cons x p ih =>
    cases q with
    | nil => simp at h; exact absurd h.1.symm (fun e => hp (e ▸ List.mem_cons_self))
    | cons y q =>
      simp only [List.cons_append, List.cons.injEq] at h
      obtain ⟨rfl, h⟩ := h
      have := ih (fun z => hp (List.mem_cons_of_mem _ z)) (fun z => hq (List.mem_cons_of_mem _ z)) h
      exact ⟨by rw [this.1], this.2⟩
theorem inter_uniq : ∀ {P Q : List (List Nat)}, (∀ p ∈ P, 47 ∉ p) → (∀ p ∈ Q, 47 ∉ p) → P ≠ [] → Q ≠ [] → List.intercalate [47] P = List.intercalate [47] Q → P = Q
  | [], _, _, _, h, _, _ => absurd rfl h
  | _, [], _, _, _, h, _ => absurd rfl h
  | [p], [q], _, _, _, _, e => by rw [inter_one, inter_one] at e; rw [e]
  | [p], q :: q' :: r, hP, _, _, _, e => by
    rw [inter_one, inter_cons] at e
    exact absurd (e ▸ (by simp : 47 ∈ q ++ 47 :: List.intercalate [47] (q' :: r))) (hP p List.mem_cons_self)
  | p :: p' :: r, [q], _, hQ, _, _, e => by
    rw [inter_one, inter_cons] at e
    exact absurd (e ▸ (by simp : 47 ∈ p ++ 47 :: List.intercalate [47] (p' :: r))) (hQ q List.mem_cons_self)
  | p :: p' :: r, q :: q' :: r', hP, hQ, _, _, e => by
    rw [inter_cons, inter_cons] at e
    obtain ⟨e1, e2⟩ := cut_uniq (hP p List.mem_cons_self) (hQ q List.mem_cons_self) e
    rw [e1, inter_uniq (fun x hx => hP x (List.mem_cons_of_mem _ hx)) (fun x hx => hQ x (List.mem_cons_of_mem _ hx)) (by simp) (by simp) e2]
theorem st_toList (x : Str) : st x.cps.toList = x := PySem.Str.ext' (by simp [st])
theorem split_ne (x : Str) : Txt.split x (st [47]) ≠ [] := by
  unfold Txt.split
  split
  · simp
  · split
    · simp
    · rw [PySem.StrLaws.partsBetween_eq]
      obtain ⟨p, r, h⟩ := PySem.StrLaws.partsFrom_ne x (st [47]).length 0 (Builtin.Str.occurrences x (st [47]) 0 x.length (x.length + 1))
      rw [h]; simp
theorem split_st (l : List Nat) : Txt.split (st l) (st [47]) = (splitL l).map st := by
  have e : Txt.split (st l) (st [47]) = ((Txt.split (st l) (st [47])).map fun p => p.cps.toList).map st := by
    rw [List.map_map]
    have : (st ∘ fun p : Str => p.cps.toList) = id := funext fun p => st_toList p
    rw [this, List.map_id]
  rw [e]
  congr 1
  refine inter_uniq (fun p hp => ?_) (splitL_free l) (by simpa using split_ne (st l)) (splitL_ne l) ?_
  · obtain ⟨q, hq, rfl⟩ := List.mem_map.mp hp
    exact PySem.StrLaws.split_free (st l) 47 q hq
  · rw [splitL_inter]
    have h := PySem.StrLaws.join_split (st l) (st [47])
    rw [e, ← PySem.StrLaws.glued_eq_join] at h
    have h2 := join_st ((Txt.split (st l) (st [47])).map fun p => p.cps.toList)
    unfold Txt.join at h2
    rw [h] at h2
    exact (st_inj h2).symm
-- the parts of a path that count
noncomputable def compF (l : List Nat) : List (List Nat) := (splitL l).filter fun p => !p.isEmpty && decide (p ≠ [46])
theorem splitL_app : ∀ (a b : List Nat), splitL (a ++ 47 :: b) = splitL a ++ splitL b
  | [], b => by simp [splitL]
  | x :: a, b => by
    rw [List.cons_append, splitL, splitL_app a b, splitL]
    split
    · rfl
    · cases h : splitL a with
      | nil => exact absurd h (splitL_ne a)
      | cons p ps => rfl
theorem compF_app (a b : List Nat) : compF (a ++ 47 :: b) = compF a ++ compF b := by
  unfold compF; rw [splitL_app, List.filter_append]
theorem splitL_one {p : List Nat} (h : 47 ∉ p) : splitL p = [p] := by
  refine inter_uniq (splitL_free p) (fun q hq => ?_) (splitL_ne p) (by simp) (by rw [splitL_inter, inter_one])
  rw [List.mem_singleton.mp hq]; exact h
theorem splitL_len : ∀ l, (splitL l).length ≤ l.length + 1
  | [] => by simp [splitL]
  | x :: r => by
    have ih := splitL_len r
    unfold splitL
    split
    · simp; omega
    · split
      · rename_i h; rw [h] at ih; simp at ih ⊢; omega
      · simp
theorem splitL_part : ∀ l, ∀ p ∈ splitL l, ∀ x ∈ p, x ∈ l
  | [], p, hp, x, hx => by simp [splitL] at hp; subst hp; exact hx
  | y :: r, p, hp, x, hx => by
    have ih := splitL_part r
    unfold splitL at hp
    split at hp
    · rcases List.mem_cons.mp hp with rfl | hp
      · cases hx
      · exact List.mem_cons_of_mem _ (ih p hp x hx)
    · split at hp
      · rename_i q qs hq
        rw [hq] at ih
        rcases List.mem_cons.mp hp with rfl | hp
        · rcases List.mem_cons.mp hx with rfl | hx
          · exact List.mem_cons_self
          · exact List.mem_cons_of_mem _ (ih q List.mem_cons_self x hx)
        · exact List.mem_cons_of_mem _ (ih p (List.mem_cons_of_mem _ hp) x hx)
      · rename_i hq; exact absurd hq (splitL_ne r)
theorem parts_len (l : List Nat) : (Builtin.Str.partsBetween (st l) (Builtin.Str.occurrences (st l) (st [47]) 0 (st l).length ((st l).length + 1)) (st [47]).length).length ≤ l.length + 2 := by
  have h := PySem.StrLaws.occ_length_le (st l) (st [47]) 0 (st l).length ((st l).length + 1)
  rw [st_len] at h
  unfold Builtin.Str.partsBetween
  simp only [List.length_map, List.length_zip, List.length_cons, List.length_append, List.length_nil, st_len]
  omega
end Mine
end

section
open PySem PySem.W PySem.Calls PyProof.Rows PySem.Spec
set_option maxRecDepth 100000
namespace Mine
noncomputable abbrev Row := List (List Nat)
theorem row_trans {a b c : Row} (h : a < b) (h' : b < c) : a < c := by
  haveI : Trans (α := List Nat) (β := List Nat) (γ := List Nat) (· < ·) (· < ·) (· < ·) := ⟨List.lt_trans⟩
  exact List.lt_trans h h'
theorem row_irrefl (a : Row) : ¬ a < a := by
  haveI : Std.Irrefl (α := List Nat) (· < ·) := ⟨List.lt_irrefl⟩
  exact List.lt_irrefl a
theorem best_min (r : Nat → Row) : ∀ k j, j ≤ k → ¬ r j < r (argBest (fun i j => decide (r i < r j)) k)
  | 0, j, hj => by obtain rfl : j = 0 := by omega
                   exact row_irrefl _
  | k + 1, j, hj => by
    have ih := best_min r k
    unfold argBest
    by_cases h : r (k + 1) < r (argBest (fun i j => decide (r i < r j)) k)
    · rw [if_pos (decide_eq_true h)]
      by_cases hjk : j = k + 1
      · rw [hjk]; exact row_irrefl _
      · exact fun q => ih j (by omega) (row_trans q h)
    · rw [if_neg (by simpa using h)]
      by_cases hjk : j = k + 1
      · rw [hjk]; exact h
      · exact ih j (by omega)
theorem best_max (r : Nat → Row) : ∀ k j, j ≤ k → ¬ r (argBest (fun i j => decide (r j < r i)) k) < r j
  | 0, j, hj => by obtain rfl : j = 0 := by omega
                   exact row_irrefl _
  | k + 1, j, hj => by
    have ih := best_max r k
    unfold argBest
    by_cases h : r (argBest (fun i j => decide (r j < r i)) k) < r (k + 1)
    · rw [if_pos (decide_eq_true h)]
      by_cases hjk : j = k + 1
      · rw [hjk]; exact row_irrefl _
      · exact fun q => ih j (by omega) (row_trans h q)
    · rw [if_neg (by simpa using h)]
      by_cases hjk : j = k + 1
      · rw [hjk]; exact h
      · exact ih j (by omega)
theorem best_le (b : Nat → Nat → Bool) : ∀ k, argBest b k ≤ k
  | 0 => Nat.le_refl _
  | k + 1 => by
    unfold argBest
    split
    · exact Nat.le_refl _
    · exact Nat.le_succ_of_le (best_le b k)
theorem minRow_mem {rows : List Row} (h : rows ≠ []) : minRow rows ∈ rows := by
  have hp := List.length_pos_iff.mpr h
  have := best_le (fun i j => decide (rows.getD i [] < rows.getD j [])) (rows.length - 1)
  unfold minRow
  rw [List.getD_eq_getElem?_getD, List.getElem?_eq_getElem (by omega)]
  exact List.getElem_mem _
theorem maxRow_mem {rows : List Row} (h : rows ≠ []) : maxRow rows ∈ rows := by
  have hp := List.length_pos_iff.mpr h
  have := best_le (fun i j => decide (rows.getD j [] < rows.getD i [])) (rows.length - 1)
  unfold maxRow
  rw [List.getD_eq_getElem?_getD, List.getElem?_eq_getElem (by omega)]
  exact List.getElem_mem _
theorem minRow_le {rows : List Row} {r : Row} (h : r ∈ rows) : ¬ r < minRow rows := by
  obtain ⟨i, hi, rfl⟩ := List.getElem_of_mem h
  have := best_min (fun i => rows.getD i []) (rows.length - 1) i (by omega)
  have e : rows.getD i [] = rows[i] := by rw [List.getD_eq_getElem?_getD, List.getElem?_eq_getElem hi]; rfl
  rw [← e]; exact this
theorem maxRow_ge {rows : List Row} {r : Row} (h : r ∈ rows) : ¬ maxRow rows < r := by
  obtain ⟨i, hi, rfl⟩ := List.getElem_of_mem h
  have := best_max (fun i => rows.getD i []) (rows.length - 1) i (by omega)
  have e : rows.getD i [] = rows[i] := by rw [List.getD_eq_getElem?_getD, List.getElem?_eq_getElem hi]; rfl
  rw [← e]; exact this
-- the common head of two rows
noncomputable def com : Row → Row → Row
  | x :: xs, y :: ys => if x = y then x :: com xs ys else []
  | _, _ => []
theorem com_cut : ∀ {s1 s2 : Row} {i : Nat} {c d : List Nat}, s1.take i = s2.take i → s1[i]? = some c → s2[i]? = some d → c ≠ d → com s1 s2 = s1.take i
  | [], _, i, _, _, _, h, _, _ => by simp at h
  | _ :: _, [], i, _, _, _, _, h, _ => by simp at h
  | x :: s1, y :: s2, 0, c, d, _, h1, h2, h => by
    simp at h1 h2; subst h1; subst h2
    simp [com, h]
  | x :: s1, y :: s2, i + 1, c, d, ht, h1, h2, h => by
    simp only [List.take_succ_cons, List.cons.injEq] at ht
    simp only [List.getElem?_cons_succ] at h1 h2
    rw [List.take_succ_cons, com, if_pos ht.1, com_cut ht.2 h1 h2 h]
theorem com_all : ∀ {s1 s2 : Row}, s1.take s1.length = s2.take s1.length → com s1 s2 = s1
  | [], _, _ => by simp [com]
  | x :: s1, [], h => by simp at h
  | x :: s1, y :: s2, h => by
    simp only [List.length_cons, List.take_succ_cons, List.cons.injEq] at h
    rw [com, if_pos h.1, com_all h.2]
theorem com_len : ∀ s1 s2 : Row, (com s1 s2).length ≤ s1.length
  | [], _ => by simp [com]
  | x :: s1, [] => by simp [com]
  | x :: s1, y :: s2 => by
    unfold com; split
    · have := com_len s1 s2; simp; omega
    · simp
theorem com_mem : ∀ {s1 s2 : Row} {p : List Nat}, p ∈ com s1 s2 → p ∈ s1
  | [], _, _, h => by simp [com] at h
  | x :: s1, [], _, h => by simp [com] at h
  | x :: s1, y :: s2, p, h => by
    unfold com at h; split at h
    · rcases List.mem_cons.mp h with rfl | h
      · exact List.mem_cons_self
      · exact List.mem_cons_of_mem _ (com_mem h)
    · cases h
theorem idx_ok : ∀ {s1 s2 : Row} {i : Nat}, ¬ s2 < s1 → s1.take i = s2.take i → i < s1.length → i < s2.length
  | [], _, _, _, _, h => by simp at h
  | x :: s1, [], _, h, _, _ => absurd (by simp) h
  | x :: s1, y :: s2, 0, _, _, _ => by simp
  | x :: s1, y :: s2, i + 1, h, ht, hi => by
    simp only [List.take_succ_cons, List.cons.injEq] at ht
    have : ¬ s2 < s1 := fun q => h (by rw [List.cons_lt_cons_iff]; exact .inr ⟨ht.1.symm, q⟩)
    have := idx_ok this ht.2 (by simpa using hi)
    simpa using this
theorem inter_len (P : Row) : (List.intercalate [47] P).length ≤ (P.map List.length).sum + P.length := by
  induction P with
  | nil => simp [List.intercalate]
  | cons p P ih =>
    cases P with
    | nil => rw [inter_one]; simp
    | cons q P => rw [inter_cons]; simp at ih ⊢; omega
noncomputable def rowsOf (xs : List (List Nat)) : List Row := xs.map compF
-- what commonpath gives for paths of one kind
noncomputable def cpath (b : Bool) (xs : List (List Nat)) : List Nat := (if b then [47] else []) ++ List.intercalate [47] (com (minRow (rowsOf xs)) (maxRow (rowsOf xs)))
section
variable {c : Cx} {env : Env} {n : Nat} {σ : List (Str × PyData)}
theorem evT_tuple {e xs} (h : Ev c env n σ e (.tuple xs)) (hz : xs.length ≤ sizeLine) (he : ∀ whole, isTrue e env whole = (do let v ← whole; standAt e.pos; holding [v] (truthy v)) := by intro _; rfl) : EvT c env n σ e (!xs.isEmpty) := fun A S s E a =>
  isTrue_plain (wpAny_mono (h A S s E a) (fun v s₁ p => by
    obtain ⟨t, vs, rfl, ht, q, _⟩ := p.2.tuple_inv
    have hl := q.length
    have hs : sizeLine = 16777216 := rfl
    refine truthy_tuple ht (by rw [List.size_toArray]; omega) ⟨?_, Keeps.trans' p.1 (Keeps.tok _)⟩
    cases vs <;> cases xs <;> simp_all) fun _ _ x => x) (he _)
theorem ev_splitS {o apos e pos} {l : List Nat} (ho : Ev c env n σ o (.str (st l))) (he : Ev c env n σ e (.str (st [47]))) (hz : l.length ≤ 1048576)
    (hc : eval (.Call (.Attribute o (Str.ofString "split") apos) [e] [] pos) env = (do
      let ov ← eval o env
      standAt apos.atName
      let (f, first) ← holding [ov] (getMethod ov (Str.ofString "split") (do return (← importBound o env).getD true))
      callWith pos f first (backTo pos (starEach [e] env)) []) := by rfl)
    (hs : starEach [e] env = (false, eval e env) :: starEach [] env := by rfl) : Ev c env n σ (.Call (.Attribute o (Str.ofString "split") apos) [e] [] pos) (rowD (splitL l)) :=
  ev_cast (ev_split ho he (by rw [st_len, size_line]; omega) (by rw [st_len]; rfl) (by have := parts_len l; rw [size_line]; omega) hc hs) (by rw [split_st, rowD, List.map_map]; rfl)
end
end Mine
end

section
open PySem PySem.W PySem.Calls PyProof.Rows PySem.Spec
set_option maxRecDepth 100000
namespace Mine
section
variable {P : Params}
theorem g_commonpath : nsIn (kF P) mainGlobals (Str.ofString "commonpath") = some (some (.ref 127)) := by rfl
end
theorem part_asc {l : List Nat} (h : Asc l) {p : List Nat} (hp : p ∈ splitL l) : Asc p := fun x hx => h x (splitL_part l p hp x hx)
theorem comp_asc {l : List Nat} (h : Asc l) {p : List Nat} (hp : p ∈ compF l) : Asc p := part_asc h (List.mem_filter.mp hp).1
theorem part_len : ∀ (l : List Nat), ((splitL l).map List.length).sum ≤ l.length
  | [] => by simp [splitL]
  | x :: r => by
    have ih := part_len r
    unfold splitL
    split
    · simp; omega
    · split
      · rename_i h; rw [h] at ih; simp at ih ⊢; omega
      · simp
theorem com_sum : ∀ (s1 s2 : Row), ((com s1 s2).map List.length).sum ≤ (s1.map List.length).sum
  | [], _ => by simp [com]
  | x :: s1, [] => by simp [com]
  | x :: s1, y :: s2 => by
    unfold com; split
    · have := com_sum s1 s2; simp; omega
    · simp
theorem filter_sum (p : List Nat → Bool) : ∀ (l : Row), ((l.filter p).map List.length).sum ≤ (l.map List.length).sum
  | [] => by simp
  | x :: l => by
    have := filter_sum p l
    rw [List.filter_cons]; split <;> simp <;> omega
theorem compF_bounds {l : List Nat} (h : l.length ≤ 200) : (compF l).length ≤ 201 ∧ ((compF l).map List.length).sum ≤ 200 := by
  have h1 := splitL_len l
  have h2 := part_len l
  have h3 := filter_sum (fun p => !p.isEmpty && decide (p ≠ [46])) (splitL l)
  have h4 := List.length_filter_le (fun p => !p.isEmpty && decide (p ≠ [46])) (splitL l)
  unfold compF
  omega
theorem exs_cons_to {c : Cx} {env : Env} {n : Nat} {σ : List (Str × PyData)} {Φ : Out → Prop} {st rest} (P : List (Str × PyData) → Prop) (h : Ex1 c env n σ st (fun o => ∃ σ', o = .next σ' ∧ P σ')) (k : ∀ σ', P σ' → Exs c env n σ' rest Φ) : Exs c env n σ (st :: rest) Φ :=
  exs_cons fun A S s E a => wpAny_mono (h A S s E a) (fun _ _ q => q.mono fun o ho => by obtain ⟨σ', rfl, hp⟩ := ho; exact k σ' hp) fun _ _ x => x
theorem len_le_sum : ∀ {l : Row} {p : List Nat}, p ∈ l → p.length ≤ (l.map List.length).sum
  | q :: l, p, h => by
    rcases List.mem_cons.mp h with rfl | h
    · simp
    · have := len_le_sum h; simp; omega
theorem evSet_cast {c : Cx} {env : Env} {n : Nat} {σ : List (Str × PyData)} {e f t f' t'} (h : EvSet c env n σ e f t) (h1 : f = f') (h2 : t = t') : EvSet c env n σ e f' t' := h1 ▸ h2 ▸ h
set_option maxHeartbeats 8000000 in
theorem common_calls {c : Cx} (i : Is c) {n : Nat} {xs : List (List Nat)} {b : Bool} (h0 : xs ≠ []) (hx : ∀ x ∈ xs, Asc x ∧ x.length ≤ 200 ∧ (x.head? == some 47) = b) (hz : xs.length ≤ 100) :
    CallsC c (.ref 127) (n + 7) [rowD xs] (.str (st (cpath b xs))) := by
  have D := defOk_K (f := 127) i rfl rfl rfl
  refine calls_def (names := [Str.ofString "paths"]) D (by decide) rfl (fun pm cd doc vs h => ?_) fun L cd => ?_
  · obtain ⟨a, rfl⟩ := len1 h; rfl
  clear D
  have hzl : sizeLine = 16777216 := rfl
  obtain ⟨x0, rest, rfl⟩ : ∃ x0 rest, xs = x0 :: rest := by cases xs with | nil => exact absurd rfl h0 | cons a b => exact ⟨a, b, rfl⟩
  obtain ⟨tups, htups⟩ : ∃ tups : List PyData, tups = (x0 :: rest).map fun x => .str (st x) := ⟨_, rfl⟩
  have htl : tups.length = (x0 :: rest).length := by rw [htups, List.length_map]
  have hlen : (x0 :: rest).length ≤ 100 := hz
  refine exs_cons (ex_assign (d := .tuple tups) (ev_cast (ev_tuple_map (xs := (x0 :: rest).map st) i ⟨rfl, rfl, rfl⟩ rfl rfl rfl (ev_cast (ev_name rfl) (by rw [rowD, List.map_map]; rfl)) (by omega) (by rw [List.length_map]; omega)) (by rw [htups, List.map_map]; rfl)) (.inl rfl) ?_)
  refine exs_cons (ex_if (b := false) (evT_cast (evT_not (evT_tuple (ev_name rfl) (by omega))) (by rw [htups]; rfl)) (fun h => nomatch h) (fun _ => exs_nil ?_))
  refine exs_cons (ex_if (b := false) (evT_bool (ev_isi_bytes (y := st x0) i ⟨rfl, rfl, rfl⟩ rfl (ev_item_tuple (k := 0) (ev_name rfl) ev_int (by decide) (by rw [htups]; rfl) (by decide)) (ev_bytT i ⟨rfl, rfl, rfl⟩ rfl))) (fun h => nomatch h) (fun _ => ?_))
  refine exs_cons (ex_assign ev_str (.inr ⟨rfl, ⟨_, rfl⟩⟩) (exs_cons (ex_assign ev_str (.inr ⟨rfl, ⟨_, rfl⟩⟩) (exs_nil ?_))))
  refine exs_cons (ex_try ?_)
  refine exs_cons (ex_assign_map (ds := x0 :: rest) (dt := fun x => .str (st x)) (f := fun x => rowD (splitL x))
    (comp_name _ [(Str.ofString "sep", .str (st [47]))] (evI_cast (evI_tuple (ev_name rfl)) htups) (by decide) rfl (cap_cons rfl rfl rfl (fun _ => rfl) cap_nil) (.inl rfl) rfl (by omega) (fun C d _ => evTs_nil) fun C d hd _ => ev_splitS (ev_name rfl) (ev_name rfl) (by have := (hx d hd).2.1; omega)) (.inl rfl) ?_)
  show Exs _ _ _ _ _ _
  have hany : ∀ b', anyT (fun x : List Nat => x.head? == some 47) b' (x0 :: rest) = (b == b') := fun b' => by
    have h1 : ∀ x ∈ x0 :: rest, (x.head? == some 47) = b := fun x hx' => (hx x hx').2.2
    unfold anyT
    rw [Bool.eq_iff_iff, List.any_eq_true]
    constructor
    · rintro ⟨x, hm, e⟩
      have := h1 x hm
      simp only [this] at e; exact e
    · intro e
      refine ⟨x0, List.mem_cons_self, ?_⟩
      have := h1 x0 List.mem_cons_self
      simp only [this]; exact e
  have e1 : anyT (fun x : List Nat => x.head? == some 47) false (x0 :: rest) = !b := by rw [hany]; cases b <;> rfl
  have e2 : anyT (fun x : List Nat => x.head? == some 47) true (x0 :: rest) = b := by rw [hany]; cases b <;> rfl
  refine exs_cons (ex_try (exs_cons (ex_unpack_set (b := b) ?_ (.inl rfl) (exs_nil ?_))))
  · exact evSet_cast (evSet_comp (ds := x0 :: rest) (dt := fun x => .str (st x)) (g := fun x : List Nat => x.head? == some 47) (σ0 := [(Str.ofString "sep", .str (st [47]))]) (evI_cast (evI_tuple (ev_name rfl)) htups) (by decide) rfl (cap_cons rfl rfl rfl (fun _ => rfl) cap_nil) rfl (fun p hp => by rw [List.mem_singleton.mp hp]; decide)
      (fun C d hd => startswith_st d ▸ ev_startswith (ev_name rfl) (ev_name rfl))) e1 e2
  show Exs _ _ _ _ _ _
  have hrows : ∀ s ∈ rowsOf (x0 :: rest), s.length ≤ 201 ∧ (s.map List.length).sum ≤ 200 ∧ ∀ p ∈ s, Asc p := fun s hs => by
    obtain ⟨l, hl, rfl⟩ := List.mem_map.mp hs
    have := compF_bounds (hx l hl).2.1
    exact ⟨this.1, this.2, fun p hp => comp_asc (hx l hl).1 hp⟩
  refine exs_cons (ex_assign_map (ds := x0 :: rest) (dt := fun x => rowD (splitL x)) (f := fun x => rowD (compF x))
    (comp_name _ [(Str.ofString "curdir", .str (st [46]))] (evI_list (ev_name rfl)) (by decide) rfl (cap_cons rfl rfl rfl (fun _ => rfl) cap_nil) (.inl rfl) rfl (by omega) (fun C d _ => evTs_nil) fun C d hd _ => ?_) (.inl rfl) ?_)
  · have hdl := splitL_len d
    have hd2 := (hx d hd).2.1
    refine ev_comp (ds := splitL d) (dt := fun p => .str (st p)) (p := fun p => !p.isEmpty && decide (p ≠ [46])) (f := fun p => .str (st p))
      (comp_name _ [(Str.ofString "curdir", .str (st [46]))] (evI_list (ev_name rfl)) (by decide) rfl (cap_cons rfl rfl rfl (fun _ => rfl) cap_nil) (.inl rfl) rfl (by omega) (fun C' p hp => evTs_one ?_) fun C' p hp _ => ev_name rfl)
    have hpl : p.length ≤ 1000 := by
      have h1 := part_len d
      have h2 : p.length ≤ ((splitL d).map List.length).sum := len_le_sum hp
      omega
    refine evT_and2 (b₁ := !p.isEmpty) (evT_cast (evT_plain (ev_name rfl) (by simp only [smallD, st_len]; omega)) (truth_st p)) (fun h => ?_) (fun h => by rw [h]; rfl)
    rw [h, Bool.true_and]
    refine evT_cmpIs (ev_name rfl) (ev_name rfl) (cmp_neD (n := 0) (m := 0) (strOk_st (part_asc (hx d hd).1 hp)) (strOk_st (l := [46]) fun x hx => by rw [List.mem_singleton.mp hx]; decide) ?_)
    rw [decide_eq_true_iff, Ne, Ne, PyData.str.injEq]
    exact ⟨fun h q => h (st_inj q), fun h q => h (q ▸ rfl)⟩
  show Exs _ _ _ _ _ _
  have hrl : 0 < (rowsOf (x0 :: rest)).length := by simp [rowsOf]
  have hne : rowsOf (x0 :: rest) ≠ [] := by simp [rowsOf]
  refine exs_cons (ex_assign (ev_minRow (rows := rowsOf (x0 :: rest)) i ⟨rfl, rfl, rfl⟩ rfl (ev_cast (ev_name rfl) (by rw [rowsOf, List.map_map]; rfl)) hrl) (.inl rfl) ?_)
  refine exs_cons (ex_assign (ev_maxRow (rows := rowsOf (x0 :: rest)) i ⟨rfl, rfl, rfl⟩ rfl (ev_cast (ev_name rfl) (by rw [rowsOf, List.map_map]; rfl)) hrl) (.inl rfl) ?_)
  refine exs_cons (ex_assign (ev_name rfl) (.inl rfl) ?_)
  have hcp : cpath b (x0 :: rest) = (if b then [47] else []) ++ List.intercalate [47] (com (minRow (rowsOf (x0 :: rest))) (maxRow (rowsOf (x0 :: rest)))) := rfl
  have hm1 := hrows _ (minRow_mem hne)
  have hm2 := hrows _ (maxRow_mem hne)
  have hlt := minRow_le (maxRow_mem hne)
  show Exs _ _ _ _ _ _
  generalize minRow (rowsOf (x0 :: rest)) = s1 at *
  generalize maxRow (rowsOf (x0 :: rest)) = s2 at *
  refine exs_cons_to (fun σ' => σ'.lookup (Str.ofString "common") = some (rowD (com s1 s2)) ∧ σ'.lookup (Str.ofString "isabs") = some (.bool b) ∧ σ'.lookup (Str.ofString "sep") = some (.str (st [47]))) (ex_forEnum (fun k σ' => σ'.lookup (Str.ofString "common") = some (rowD s1) ∧ σ'.lookup (Str.ofString "s1") = some (rowD s1) ∧ σ'.lookup (Str.ofString "s2") = some (rowD s2) ∧ σ'.lookup (Str.ofString "isabs") = some (.bool b) ∧ σ'.lookup (Str.ofString "sep") = some (.str (st [47])) ∧ s1.take k = s2.take k)
    (vB i ⟨rfl, rfl, rfl⟩ rfl g_enumerate Boot.«enumerate») (ev_name rfl) (.inl rfl) (.inl rfl) ⟨rfl, rfl, rfl, rfl, rfl, rfl⟩ (fun k d σ' hk hJ => ?_) fun σ' hJ => ?_) fun σ' hP => ?_
  · obtain ⟨h1, h2, h3, h4, h5, h6⟩ := hJ
    rw [List.getElem?_map, Option.map_eq_some_iff] at hk
    obtain ⟨p, hp, rfl⟩ := hk
    have hk1 : k < s1.length := (List.getElem?_eq_some_iff.mp hp).1
    have hk2 := idx_ok hlt h6 hk1
    have hq : s2[k]? = some s2[k] := List.getElem?_eq_getElem hk2
    generalize s2[k] = q at hq
    have hpm := List.mem_of_getElem? hp
    have hqm := List.mem_of_getElem? hq
    refine exs_cons (ex_if (b := decide (p ≠ q)) (evT_cmpIs (ev_name rfl) (ev_item_list (k := (k : Int)) (d := .str (st q)) (ev_name h3) (ev_name rfl) (by omega) (by rw [Int.toNat_natCast, List.getElem?_map, hq]; rfl) (by omega)) (cmp_neD (n := 0) (m := 0) (strOk_st (hm1.2.2 p hpm)) (strOk_st (hm2.2.2 q hqm)) ?_)) (fun h => ?_) (fun h => exs_nil (exs_nil ⟨h1, h2, h3, h4, h5, ?_⟩)))
    · rw [decide_eq_true_iff, Ne, Ne, PyData.str.injEq]
      exact ⟨fun h q => h (st_inj q), fun h q => h (q ▸ rfl)⟩
    · have hne' : p ≠ q := of_decide_eq_true h
      refine exs_cons (ex_assign (d := rowD (s1.take k)) (ev_cast (ev_uptoL (k := k) (ev_name h2) (ev_name rfl) (by rw [List.length_map]; omega)) (by rw [rowD, List.map_take])) (.inl rfl) (exs_cons (ex_break ?_)))
      refine ⟨_, rfl, ?_, h4, h5⟩
      rw [com_cut h6 hp hq hne']; rfl
    · have he : p = q := by simpa using h
      rw [List.take_add_one, List.take_add_one, hp, hq, h6, he]
  · obtain ⟨h1, h2, h3, h4, h5, h6⟩ := hJ
    rw [List.length_map] at h6
    exact ⟨σ', rfl, by rw [com_all h6]; exact h1, h4, h5⟩
  · obtain ⟨h1, h2, h3⟩ := hP
    have hcl := com_len s1 s2
    have hcs := com_sum s1 s2
    refine exs_cons (ex_assign (d := .str (st (if b then [47] else []))) (ev_ifexp (evT_bool (ev_name h2)) (fun hb => ?_) (fun hb => ?_)) (.inl rfl) ?_)
    · rw [hb]; exact ev_name h3
    · rw [hb]; exact ev_uptoS (k := 0) (ev_name h3) ev_int (by decide)
    · have hbl : (if b then [47] else ([] : List Nat)).length ≤ 1 := by cases b <;> decide
      refine exs_cons (ex_return (ev_cast (ev_addS (ev_name rfl) (ev_cast (ev_joinS (sep := [47]) (xs := com s1 s2) (ev_name h3) (ev_name h1) (by simp; omega)) (congrArg PyData.str (join_st _))) (by have := inter_len (com s1 s2); omega)) (by rw [hcp])) rfl)
end Mine
end

section
open PySem PySem.W PySem.Calls PyProof.Rows PySem.Spec
set_option maxRecDepth 100000
namespace Mine
section
variable {P : Params}
theorem g_alike : nsIn (kF P) mainGlobals (Str.ofString "_law_alike") = some (some (.ref 186)) := by rfl
theorem g_below : nsIn (kF P) mainGlobals (Str.ofString "_law_below") = some (some (.ref 191)) := by rfl
theorem g_beside : nsIn (kF P) mainGlobals (Str.ofString "_law_beside") = some (some (.ref 198)) := by rfl
theorem g_told' : nsIn (kF P) mainGlobals (Str.ofString "_law_told") = some (some (.ref 181)) := by rfl
end
theorem inter_asc : ∀ {P : Row}, (∀ p ∈ P, Asc p) → Asc (List.intercalate [47] P)
  | [], _ => by simp [List.intercalate]; exact fun _ h => nomatch h
  | [p], h => by rw [inter_one]; exact h p List.mem_cons_self
  | p :: q :: r, h => by
    rw [inter_cons]
    intro x hx
    rcases List.mem_append.mp hx with hx | hx
    · exact h p List.mem_cons_self x hx
    · rcases List.mem_cons.mp hx with rfl | hx
      · decide
      · exact inter_asc (fun y hy => h y (List.mem_cons_of_mem _ hy)) x hx
theorem cpath_asc {b : Bool} {xs : List (List Nat)} (h0 : xs ≠ []) (h : ∀ x ∈ xs, Asc x) : Asc (cpath b xs) := by
  unfold cpath
  intro x hx
  rcases List.mem_append.mp hx with hx | hx
  · cases b <;> simp at hx; subst hx; decide
  · refine inter_asc (fun p hp => ?_) x hx
    have hm := minRow_mem (rows := rowsOf xs) (by simpa [rowsOf] using h0)
    obtain ⟨l, hl, e⟩ := List.mem_map.mp hm
    exact comp_asc (h l hl) (e ▸ com_mem hp)
-- the chains through a place
noncomputable def belowOf (chs : List (List Nat)) (place : Nat) : List Nat := (List.range chs.length).filter fun k => (chs.getD k []).contains place
noncomputable def namesOf (t : List Ent) (ch : List Nat) : Row := (ch.filter fun i => decide ((en t i).nm ≠ [46])).map fun i => (en t i).nm
-- what _law_below asks at a place
noncomputable def BelowOk (root : List Nat) (t : List Ent) (chs : List (List Nat)) (ps : List (List Nat)) (b : Bool) (place : Nat) : Prop :=
  belowOf chs place ≠ [] ∧ cpath b ((belowOf chs place).map fun k => ps.getD k []) = root.take 1 ++ List.intercalate [47] (alike ((belowOf chs place).map fun k => namesOf t (chs.getD k [])))
theorem alike_sum (rows : List Row) : ((alike rows).map List.length).sum ≤ ((rows.headD []).map List.length).sum ∧ (alike rows).length ≤ (rows.headD []).length := by
  unfold alike
  generalize (((List.range ((rows.headD []).length + 1)).filter fun k => rows.all fun r => decide (r.take k = (rows.headD []).take k)).getLastD 0) = k
  constructor
  · have h := List.take_append_drop k (rows.headD [])
    have : ((rows.headD []).map List.length).sum = (((rows.headD []).take k).map List.length).sum + (((rows.headD []).drop k).map List.length).sum := by
      rw [← List.sum_append_nat, ← List.map_append, h]
    omega
  · rw [List.length_take]; exact Nat.min_le_right _ _
theorem any_ints (l : List Nat) (j : Nat) : ((l.map fun (i : Nat) => PyData.int (i : Int)).any fun y => PyData.eqv y (.int (j : Int))) = l.contains j := by
  rw [List.any_map, Bool.eq_iff_iff, List.any_eq_true, List.contains_iff_mem]
  constructor
  · rintro ⟨x, hx, e⟩
    have : x = j := by simpa [PyData.eqv, Int.ofNat_inj] using e
    exact this ▸ hx
  · intro h; exact ⟨j, h, by simp [PyData.eqv]⟩
theorem shaped_ints (l : List Nat) : SeqAt.shaped (intsD l) = true := okD_shaped (n := 1) (by simp [intsD, okD])
set_option maxHeartbeats 8000000 in
theorem below_calls {c : Cx} (i : Is c) {n : Nat} {root : List Nat} {t : List Ent} {chs : List (List Nat)} {ps : List (List Nat)} {b : Bool} (hT : TOk t) (hr : root.length ≤ 2) (hra : Asc root) (hcl : chs.length ≤ 10) (hch : ∀ ch ∈ chs, ch.length ≤ 10 ∧ ∀ i ∈ ch, i < t.length) (hpl : ps.length = chs.length)
    (hps : ∀ x ∈ ps, Asc x ∧ x.length ≤ 200 ∧ (x.head? == some 47) = b) (hok : ∀ place, place < t.length → BelowOk root t chs ps b place) :
    CallsC c (.ref 191) (n + 8) [.str (st root), tblD t, .list (chs.map intsD), rowD ps] (.bool true) := by
  have D := defOk_K (f := 191) i rfl rfl rfl
  refine calls_def (names := [Str.ofString "root", Str.ofString "table", Str.ofString "chains", Str.ofString "paths"]) D (by decide) rfl (fun pm cd doc vs h => ?_) fun L cd => ?_
  · obtain ⟨a, b, c, d, rfl⟩ := len4 h; rfl
  clear D
  have hzl : sizeLine = 16777216 := rfl
  have hlen := hT.len
  refine exs_cons_to (fun _ => True) (ex_for (ds := (List.range t.length).map fun (k : Nat) => .int (k : Int)) (fun k σ' => σ'.lookup (Str.ofString "root") = some (.str (st root)) ∧ σ'.lookup (Str.ofString "table") = some (tblD t) ∧ σ'.lookup (Str.ofString "chains") = some (.list (chs.map intsD)) ∧ σ'.lookup (Str.ofString "paths") = some (rowD ps))
    (ev_range1 i ⟨rfl, rfl, rfl⟩ rfl (ev_cast (ev_lenN i ⟨rfl, rfl, rfl⟩ rfl (ev_name rfl) (by simp; omega)) (by simp)) (by omega)) (.inr ⟨rfl, ⟨_, rfl⟩⟩) ⟨rfl, rfl, rfl, rfl⟩ (fun place d σ' hk hJ => ?_) fun σ' hJ => ⟨σ', rfl, trivial⟩) fun σ' _ => exs_cons (ex_return ev_bool rfl)
  obtain ⟨h1, h2, h3, h4⟩ := hJ
  rw [List.getElem?_map, Option.map_eq_some_iff] at hk
  obtain ⟨place', hk', rfl⟩ := hk
  rw [List.getElem?_eq_some_iff] at hk'
  obtain ⟨hkt, hk'⟩ := hk'
  rw [List.getElem_range] at hk'
  subst hk'
  rw [List.length_range] at hkt
  obtain ⟨hb0, hbe⟩ := hok place hkt
  have hchk : ∀ k, k < chs.length → (chs.map intsD)[((k : Nat) : Int).toNat]? = some (intsD (chs.getD k [])) ∧ chs.getD k [] ∈ chs := fun k hk => by
    have e : chs.getD k [] = chs[k] := by rw [List.getD_eq_getElem?_getD, List.getElem?_eq_getElem hk]; rfl
    rw [e]
    exact ⟨by simp [hk], List.getElem_mem hk⟩
  refine exs_cons (ex_assign_comp (ds := List.range chs.length) (dt := fun (k : Nat) => .int (k : Int)) (p := fun k => (chs.getD k []).contains place) (f := fun (k : Nat) => .int (k : Int))
    (comp_name _ [(Str.ofString "chains", .list (chs.map intsD)), (Str.ofString "place", .int (place : Int))] (ev_range1 i ⟨rfl, rfl, rfl⟩ rfl (ev_cast (ev_lenN i ⟨rfl, rfl, rfl⟩ rfl (ev_name h3) (by simp; omega)) (by simp)) (by omega)) (by decide) rfl (cap_cons h3 rfl rfl (fun _ => rfl) (cap_cons rfl rfl rfl (fun _ => rfl) cap_nil)) (.inl rfl) rfl (by simp; omega)
      (fun C k hk => evTs_one ?_) fun C k hk _ => ev_name rfl) (.inl rfl) ?_)
  · have hk' := hchk k (List.mem_range.mp hk)
    exact evT_cast (evT_cmpIs (ev_name rfl) (ev_item_list (k := (k : Int)) (d := intsD (chs.getD k [])) (ev_name rfl) (ev_name rfl) (by omega) hk'.1 (by have := List.mem_range.mp hk; omega)) (cmp_in_list (shaped_ints _) rfl)) (any_ints _ _)
  have hBd : (List.range chs.length).filter (fun k => (chs.getD k []).contains place) = belowOf chs place := rfl
  rw [hBd]
  show Exs _ _ _ _ _ _
  have hbk : ∀ k ∈ belowOf chs place, k < chs.length := fun k hk => List.mem_range.mp (List.mem_filter.mp hk).1
  have hbl : (belowOf chs place).length ≤ 10 := by
    have := List.length_filter_le (fun k => (chs.getD k []).contains place) (List.range chs.length)
    rw [List.length_range] at this
    have h' : (belowOf chs place).length ≤ chs.length := this
    omega
  generalize belowOf chs place = B at *
  refine exs_cons (ex_assign_map (ds := B) (dt := fun (k : Nat) => .int (k : Int)) (f := fun k => rowD (namesOf t (chs.getD k [])))
    (comp_name _ [(Str.ofString "chains", .list (chs.map intsD)), (Str.ofString "table", tblD t)] (evI_list (ev_name rfl)) (by decide) rfl (cap_cons h3 rfl rfl (fun _ => rfl) (cap_cons h2 rfl rfl (fun _ => rfl) cap_nil)) (.inl rfl) rfl (by omega) (fun C k _ => evTs_nil) fun C k hk _ => ?_) (.inl rfl) ?_)
  · have hk' := hchk k (hbk k hk)
    have hcc := hch _ hk'.2
    have hkb := hbk k hk
    refine ev_cast (ev_comp (ds := chs.getD k []) (dt := fun (j : Nat) => .int (j : Int)) (p := fun j => decide ((en t j).nm ≠ [46])) (f := fun j => .str (st (en t j).nm))
      (comp_name _ [(Str.ofString "table", tblD t)] (evI_cast (evI_list (ev_item_list (k := (k : Int)) (d := intsD (chs.getD k [])) (ev_name rfl) (ev_name rfl) (by omega) hk'.1 (by omega))) rfl) (by decide) rfl (cap_cons rfl rfl rfl (fun _ => rfl) cap_nil) (.inl rfl) rfl (by omega) (fun C' j hj => evTs_one ?_) fun C' j hj _ => ev_nm (ev_ent (ev_name rfl) (ev_name rfl) (hcc.2 j hj) (by omega)))) (by rw [rowD, namesOf, List.map_map]; rfl)
    refine evT_cmpIs (ev_nm (ev_ent (ev_name rfl) (ev_name rfl) (hcc.2 j hj) (by omega))) ev_str (cmp_neD (n := 0) (m := 0) (e := .str (st [46])) (strOk_st (hT.nm _ (en_mem (hcc.2 j hj))).2) (strOk_st (l := [46]) fun x hx => by rw [List.mem_singleton.mp hx]; decide) ?_)
    rw [decide_eq_true_iff, Ne, Ne, PyData.str.injEq]
    exact ⟨fun h q => h (st_inj q), fun h q => h (q ▸ rfl)⟩
  show Exs _ _ _ _ _ _
  have hpk : ∀ k ∈ B, ps.getD k [] ∈ ps := fun k hk => by
    have h := hbk k hk
    rw [List.getD_eq_getElem?_getD, List.getElem?_eq_getElem (by omega)]
    exact List.getElem_mem _
  have hrow : ∀ r ∈ B.map (fun k => namesOf t (chs.getD k [])), r.length ≤ 10 ∧ (r.map List.length).sum ≤ 30 ∧ ∀ x ∈ r, Asc x := fun r hr => by
    obtain ⟨k, hk, rfl⟩ := List.mem_map.mp hr
    have hcc := hch _ (hchk k (hbk k hk)).2
    have h1 : (namesOf t (chs.getD k [])).length ≤ 10 := by
      unfold namesOf
      rw [List.length_map]
      exact Nat.le_trans (List.length_filter_le _ _) hcc.1
    refine ⟨h1, ?_, fun x hx => ?_⟩
    · have h2 := sum_le (k := 3) (xs := namesOf t (chs.getD k [])) fun x hx => by
        obtain ⟨j, hj, rfl⟩ := List.mem_map.mp hx
        exact hT.nm' j
      omega
    · obtain ⟨j, hj, rfl⟩ := List.mem_map.mp hx
      exact (hT.nm _ (en_mem (hcc.2 j (List.mem_filter.mp hj).1))).2
  have hal := alike_sum (B.map fun k => namesOf t (chs.getD k []))
  have hh : (B.map fun k => namesOf t (chs.getD k [])).headD [] ∈ B.map fun k => namesOf t (chs.getD k []) := by
    cases B with
    | nil => exact absurd rfl hb0
    | cons a B => simp
  have hhb := hrow _ hh
  have hpx : ∀ x ∈ B.map (fun k => ps.getD k []), Asc x ∧ x.length ≤ 200 ∧ (x.head? == some 47) = b := fun x hx => by
    obtain ⟨k, hk, rfl⟩ := List.mem_map.mp hx
    exact hps _ (hpk k hk)
  have hil := inter_len (alike (B.map fun k => namesOf t (chs.getD k [])))
  refine exs_cons (ex_if (b := false) (evT_cmpIs (d₁ := .str (st (cpath b (B.map fun k => ps.getD k [])))) (d₂ := .str (st (root.take 1 ++ List.intercalate [47] (alike (B.map fun k => namesOf t (chs.getD k [])))))) ?_ ?_ (cmp_neD (n := 0) (m := 0) (strOk_st (cpath_asc (by simpa using hb0) fun x hx => (hpx x hx).1)) (by rw [← hbe]; exact strOk_st (cpath_asc (by simpa using hb0) fun x hx => (hpx x hx).1)) (by rw [hbe]; simp))) (fun h => nomatch h) (fun _ => exs_nil (exs_nil ⟨h1, h2, h3, h4⟩)))
  · refine ev_call_def (vG i ⟨rfl, rfl, rfl⟩ rfl g_commonpath) (isDef_K i rfl rfl) (evL_cons (d := rowD (B.map fun k => ps.getD k [])) (ev_cast (ev_map (ds := B) (dt := fun (k : Nat) => .int (k : Int)) (f := fun k => .str (st (ps.getD k [])))
      (comp_name _ [(Str.ofString "paths", rowD ps)] (evI_list (ev_name rfl)) (by decide) rfl (cap_cons h4 rfl rfl (fun _ => rfl) cap_nil) (.inl rfl) rfl (by omega) (fun C k _ => evTs_nil) fun C k hk _ => ?_)) (by rw [rowD, List.map_map]; rfl)) evL_nil) (common_calls (n := n) i (by simpa using hb0) hpx (by rw [List.length_map]; omega)).to (by omega)
    have hkb := hbk k hk
    refine ev_item_list (k := (k : Int)) (ev_name rfl) (ev_name rfl) (by omega) ?_ (by omega)
    rw [Int.toNat_natCast, List.getElem?_map, List.getD_eq_getElem?_getD, List.getElem?_eq_getElem (by omega)]; rfl
  · exact ev_addS (ev_uptoS (k := 1) (ev_name h1) ev_int (by omega)) (ev_cast (ev_joinS (sep := [47]) (xs := alike (B.map fun k => namesOf t (chs.getD k []))) ev_str (ev_call_def (vG i ⟨rfl, rfl, rfl⟩ rfl g_alike) (isDef_K i rfl rfl) (evL_cons (d := .list ((B.map fun k => namesOf t (chs.getD k [])).map rowD)) (ev_cast (ev_name rfl) (by rw [List.map_map]; rfl)) evL_nil) (alike_calls (n := 0) i (by simpa using hb0) (by rw [List.length_map]; omega) fun r hr => ⟨by have := (hrow r hr).1; omega, (hrow r hr).2.2⟩).to (by omega)) (by rw [show ([47] : List Nat).length = 1 from rfl]; omega)) (congrArg PyData.str (join_st _))) (by rw [List.length_take]; omega)
end Mine
end

section
open PySem PySem.W PySem.Calls PyProof.Rows PySem.Spec
set_option maxRecDepth 100000
namespace Mine
theorem minRow_nil {rows : List Row} (h : [] ∈ rows) : minRow rows = [] := by
  have := minRow_le h
  cases e : minRow rows with
  | nil => rfl
  | cons a b => rw [e] at this; exact absurd (by simp) this
theorem cpath_slash (ps : List (List Nat)) : cpath true (ps ++ [[47]]) = [47] := by
  have : minRow (rowsOf (ps ++ [[47]])) = [] := minRow_nil (by simp [rowsOf]; exact .inr (by decide))
  unfold cpath
  rw [this]
  simp [com, List.intercalate]
theorem beside_calls {c : Cx} (i : Is c) {n : Nat} {ps : List (List Nat)} (hps : ∀ x ∈ ps, Asc x ∧ x.length ≤ 200 ∧ (x.head? == some 47) = true) (hl : ps.length ≤ 50) : CallsC c (.ref 198) (n + 8) [rowD ps] (.str (st [47])) := by
  have D := defOk_K (f := 198) i rfl rfl rfl
  refine calls_def (names := [Str.ofString "paths"]) D (by decide) rfl (fun pm cd doc vs h => ?_) fun L cd => ?_
  · obtain ⟨a, rfl⟩ := len1 h; rfl
  clear D
  have hzl : sizeLine = 16777216 := rfl
  refine exs_cons (ex_try (exs_cons (ex_return (d := .str (st (cpath true (ps ++ [[47]])))) (ev_call_def (vG i ⟨rfl, rfl, rfl⟩ rfl g_commonpath) (isDef_K i rfl rfl) (evL_cons (d := rowD (ps ++ [[47]])) (ev_cast (ev_add_list (ev_name rfl) (ev_list (evL_cons ev_str evL_nil) (by simp [size_line])) (by simp; omega)) (by rw [rowD, List.map_append]; rfl)) evL_nil) (common_calls (n := n) i (by simp) (fun x hx => ?_) (by simp; omega)).to (by omega)) ?_)))
  · rcases List.mem_append.mp hx with hx | hx
    · exact hps x hx
    · rw [List.mem_singleton.mp hx]; exact ⟨by intro y hy; rw [List.mem_singleton.mp hy]; decide, by decide, rfl⟩
  · rw [cpath_slash]; exact rfl
end Mine
end

section
open PySem PySem.W PySem.Calls PyProof.Rows PySem.Spec
set_option maxRecDepth 100000
namespace Mine
section
variable {M : Model} {A : Around} {E : Value → Shared → Prop} {s : Shared}
-- an exception, its traceback at T, its flight fl, its context ctx
noncomputable def ExAt (B : Heap) (l : List Env) (e : Addr) (cls : Value) (a0 ctx fl : Value) (h : Heap) : Prop :=
  B.StaysIn h ∧ B.get? e = none ∧ h.FunFrames B l ∧ ∃ oe vs T oT ts, h.get? e = some oe ∧ oe.cls = cls ∧ oe.data = .fields vs ∧ vs[0]? = some a0 ∧ vs[1]? = some (.ref T) ∧ vs[2]? = some ctx ∧ B.get? T = none ∧ T ≠ e ∧ h.get? T = some oT ∧ oT.data = .fields ts ∧ ts[3]? = some fl
theorem ExAt.traced {B : Heap} {l e cls a0 ctx fl h} (x : ExAt B l e cls a0 ctx fl h) : h.TracedAtW B e cls a0 fl := by
  obtain ⟨_, _, _, oe, vs, T, oT, ts, a1, a2, a3, a4, a5, a6, a7, a8, a9, a10, a11⟩ := x
  exact ⟨oe, vs, T, oT, ts, a1, ⟨a2, a4⟩, a3, a5, a7, a8, a9, a10, a11⟩
theorem ExAt.held {B : Heap} {l e cls a0 ctx h} {L : Addr} (x : ExAt B l e cls a0 ctx (rawInt L) h) : Heap.HeldW B l e cls a0 L h := ⟨x.1, x.2.1, x.2.2.1, x.traced⟩
theorem ExAt.typeIs {B : Heap} {l e T a0 ctx fl} (x : ExAt B l e (.type T) a0 ctx fl s.heap) : s.TypeIs (.ref e) T := by
  obtain ⟨_, _, _, oe, vs, _, _, _, a1, a2, _⟩ := x
  exact ⟨oe, a1, a2⟩
-- the first note of an exception that has no traceback
theorem note_first {B : Heap} {env : Env} {outer : List Env} {L e : Addr} {oe : Obj} {vs : Array Value} {a0 ctx : Value} {Q : Unit → Shared → Prop}
    (hfr : A.frames = some (env :: outer)) (hl : s.heap.FunFrames B (env :: outer)) (hf : env.frame = some L)
    (he : s.heap.get? e = some oe) (hkb : B.StaysIn s.heap) (hen : B.get? e = none) (hd : oe.data = .fields vs) (h0 : vs[0]? = some a0) (h1 : vs[1]? = some .none) (h2 : vs[2]? = some ctx)
    (h : ∀ h', ExAt B (env :: outer) e oe.cls a0 ctx (rawInt L) h' → s.heap.UpToSlots h' → Q () { s with heap := h' }) : wpAny M A (noteFrame (.ref e) env) Q E s := by
  have hene : e ∉ (env :: outer).filterMap (·.frame) := fun hm => by
    obtain ⟨_, o, ho, hnf⟩ := hl.mem hm
    rw [he] at ho; injection ho with ho; subst ho; exact hnf vs hd
  have hsz : 1 < vs.size := (Array.getElem?_eq_some_iff.mp h1).1
  unfold noteFrame
  simp only [hf]
  refine wpAny_bind (wpAny_field he hd h1 ?_)
  rw [if_neg (by decide)]
  refine wpAny_bind (wpAny_frameOf_fun hfr hl hf fun h₁ hs₁ => ?_)
  refine wpAny_bind (wpAny_entryPlaceOf fun pl hpl => ?_)
  unfold EntryCells.newEntry newFields
  refine wpAny_bind (wpAny_newObj_type ?_ (hpl.sizeOk5 _ _ _ _ _))
  have he₁ : h₁.get? e = some oe := (hs₁.2.1 e hene).trans he
  have kb₁ : B.StaysIn h₁ := fun b o hbo => (hs₁.2.1 b fun hm => by rw [(hl.mem hm).1] at hbo; cases hbo).trans (hkb b o hbo)
  have he₂ := Heap.get?_push_of_some (h := h₁) { cls := .type "traceback", dict := none, data := .fields ([Value.none, .ref L, .none, rawInt L, .none] ++ (if pl.isEmpty then List.replicate 6 Value.none else pl)).toArray } he₁
  refine wpAny_setField he₂ hd hsz (h _ ?_ ?_)
  all_goals
    have hTe : h₁.objs.size ≠ e := Nat.ne_of_gt (Heap.lt_size he₁)
    have hd₃ := Obj.data_mapFields hd (·.setIfInBounds 1 (Value.ref h₁.objs.size))
    have he₃ := Heap.get?_update_self (Obj.mapFields (·.setIfInBounds 1 (Value.ref h₁.objs.size))) he₂ (Obj.isFreed_of_fields hd₃)
    have hT₃ := (Heap.get?_update_other (h₁.push { cls := .type "traceback", dict := none, data := .fields ([Value.none, .ref L, .none, rawInt L, .none] ++ (if pl.isEmpty then List.replicate 6 Value.none else pl)).toArray })
      (Obj.mapFields (·.setIfInBounds 1 (Value.ref h₁.objs.size))) (Ne.symm hTe)).trans (Heap.get?_push_size h₁ rfl)
    have keep : ∀ b o, b ≠ e → h₁.get? b = some o →
        ((h₁.push { cls := .type "traceback", dict := none, data := .fields ([Value.none, .ref L, .none, rawInt L, .none] ++ (if pl.isEmpty then List.replicate 6 Value.none else pl)).toArray }).update e (Obj.mapFields (·.setIfInBounds 1 (Value.ref h₁.objs.size)))).get? b = some o :=
      fun b o hbe hb => by
        rw [Heap.get?_update_other _ _ (Ne.symm hbe)]
        exact Heap.get?_push_of_some _ hb
    have noRecord : ∀ b o, s.heap.get? b = some o → (∀ vs, o.data ≠ .fields vs) → b ≠ e := fun b o hb hnf q => by
      rw [q, he] at hb; injection hb with hb; subst hb; exact hnf vs hd
  · refine ⟨fun b o hbo => keep b o (fun q => by rw [q, hen] at hbo; cases hbo) (kb₁ b o hbo), hen, hl.of_keeps fun b o hb hnf => ?_, ?_⟩
    · obtain ⟨sl, hs⟩ := hs₁.2.2 b o hb
      exact ⟨_, keep b _ (noRecord b o hb hnf) hs, rfl⟩
    · exact ⟨_, _, h₁.objs.size, _, _, he₃, Obj.cls_mapFields _ _, hd₃, by rw [Array.getElem?_setIfInBounds_ne (by decide)]; exact h0, by simp [hsz], by rw [Array.getElem?_setIfInBounds_ne (by decide)]; exact h2, kb₁.fresh, hTe, hT₃, rfl, by first | (simp; done) | (rcases hpl with rfl | ⟨_, _, _, _, _, _, _, rfl⟩ <;> simp)⟩
  · intro b o hb hnf
    obtain ⟨sl, hs⟩ := hs₁.2.2 b o hb
    exact ⟨sl, keep b _ (noRecord b o hb hnf) hs⟩
-- the flight set
theorem flight_set {B : Heap} {l : List Env} {e : Addr} {cls a0 ctx fl : Value} {fr : Option Addr} {Q : Unit → Shared → Prop} (x : ExAt B l e cls a0 ctx fl s.heap)
    (h : ∀ h', ExAt B l e cls a0 ctx (fr.elim .none fun f => rawInt f) h' → s.heap.UpToSlots h' → Q () { s with heap := h' }) : wpAny M A (setFlight (.ref e) fr) Q E s := by
  obtain ⟨hkb, hen, hl, oe, vs, T, oT, ts, he, hc, hd, h0, h1, h2, hnT, hTe, hT, hdT, h3⟩ := x
  have hsz3 : 3 < ts.size := (Array.getElem?_eq_some_iff.mp h3).1
  have other : ∀ b, b ≠ T → (s.heap.update T (Obj.mapFields (·.setIfInBounds 3 (fr.elim Value.none fun f => rawInt f)))).get? b = s.heap.get? b := fun b hb => Heap.get?_update_other _ _ (Ne.symm hb)
  have noRecord : ∀ b o, s.heap.get? b = some o → (∀ vs, o.data ≠ .fields vs) → b ≠ T := fun b o hb hnf q => by
    rw [q, hT] at hb; injection hb with hb; subst hb; exact hnf ts hdT
  unfold setFlight
  refine wpAny_bind (wpAny_field he hd h1 ?_)
  rw [if_pos (show (Value.ref T != Value.none) = true from by simp)]
  refine wpAny_setField hT hdT hsz3 (h _ ?_ fun b o hb hn => ⟨o.slots, (other b (noRecord b o hb hn)).trans hb⟩)
  refine ⟨fun b o hbo => (other b fun q => by rw [q, hnT] at hbo; cases hbo).trans (hkb b o hbo), hen, hl.of_keeps fun b o hb hnf => ⟨o, (other b (noRecord b o hb hnf)).trans hb, rfl⟩, ?_⟩
  exact ⟨oe, vs, T, _, _, (other e (Ne.symm hTe)).trans he, hc, hd, h0, h1, h2, hnT, hTe, Heap.get?_update_self _ hT (Obj.isFreed_of_fields (Obj.data_mapFields hdT _)), Obj.data_mapFields hdT _, by simp [hsz3]⟩
theorem note_again {B : Heap} {l : List Env} {env : Env} {L e : Addr} {cls a0 ctx : Value} {Q : Unit → Shared → Prop} (hf : env.frame = some L) (x : ExAt B l e cls a0 ctx (rawInt L) s.heap) (h : Q () s) : wpAny M A (noteFrame (.ref e) env) Q E s :=
  wpAny_noteFrame_againW hf x.traced h
theorem passOn_at {α : Type} {B : Heap} {l : List Env} {env : Env} {e : Addr} {cls a0 ctx fl : Value} {what : String} {Q : α → Shared → Prop} (x : ExAt B l e cls a0 ctx fl s.heap)
    (h : ∀ h', ExAt B l e cls a0 ctx (env.frame.elim .none fun f => rawInt f) h' → s.heap.UpToSlots h' → E (.ref e) { s with heap := h' }) : wpAny M A (PySem.passOn what (.ref e) env : Sem α) Q E s := by
  obtain ⟨hkb, hen, hl, oe, vs, T, oT, ts, he, hc, hd, h0, h1, r⟩ := id x
  unfold PySem.passOn
  refine wpAny_bind (wpAny_field he hd h1 ?_)
  rw [if_neg (by simp)]
  exact wpAny_bind (flight_set x fun h' x' u => wpAny_throw (h h' x' u))
theorem cameBack_at {B : Heap} {l : List Env} {env : Env} {e : Addr} {cls a0 ctx fl : Value} (x : ExAt B l e cls a0 ctx fl s.heap)
    (h : ∀ h', ExAt B l e cls a0 ctx (env.frame.elim .none fun f => rawInt f) h' → s.heap.UpToSlots h' → E (.ref e) { s with heap := h' }) : cameBackBy M A env E (.ref e) s := by
  obtain ⟨hkb, hen, hl, oe, vs, T, oT, ts, he, hc, hd, h0, h1, r⟩ := id x
  unfold cameBackBy
  refine wpAny_bind (wpAny_field he hd h1 ?_)
  rw [if_neg (by simp)]
  exact flight_set x h
end
section
variable {prog : Program} {w : World} {A : Around} {E : Value → Shared → Prop} {s : Shared}
theorem entry_unchain : entryFor table "proto.unchain" = some Builtin.«proto.unchain» := entryFor_of_tree (by kernel_rfl)
theorem plain_unchain : plainId "proto.unchain" = true := by decide +kernel
-- a new exception raised while another is handled
theorem raise_handled {α : Type} {e h1 : Addr} {oe oh : Obj} {vs hs : Array Value} {Q : α → Shared → Prop} (hh : A.handled = some (.ref h1)) (hne : h1 ≠ e) (ho : s.heap.get? h1 = some oh) (hd : oh.data = .fields hs) (h2 : hs[2]? = some .none)
    (he : s.heap.get? e = some oe) (hde : oe.data = .fields vs) (hsz : 2 < vs.size)
    (h : E (.ref e) { s with heap := s.heap.update e (Obj.mapFields (·.setIfInBounds 2 (.ref h1))) }) : wpAny (model prog w) A (raiseNew (.ref e) : Sem α) Q E s := by
  unfold raiseNew
  refine wpAny_bind (wpAny_handled ?_)
  rw [hh]
  dsimp only
  rw [if_pos (by simp [hne])]
  refine wpAny_bind (wpAny_holding (wpAny_runValue (codeAny_builtin entry_unchain ?_)))
  rw [Around.under_plainId plain_unchain _]
  unfold Builtin.«proto.unchain»
  dsimp only
  refine wpAny_bind (wpAny_field ho hd h2 ?_)
  rw [if_pos (by decide)]
  refine wpAny_pure ?_
  show wpAny _ _ (updateField e 2 (.ref h1) >>= fun _ => throw (.ref e)) _ _ _
  refine wpAny_bind ?_
  show wpAny _ _ (setField (.ref e) 2 (.ref h1)) _ _ _
  exact wpAny_setField he hde hsz (wpAny_throw h)
end
end Mine
end

section
open PySem PySem.W PySem.Calls PyProof.Rows PySem.Spec
set_option maxRecDepth 100000
namespace Mine
noncomputable abbrev excObj (t : Value) (c3 c4 : Value) : Obj := { cls := .type "ValueError", data := .fields #[t, .none, .none, c3, c4, .none] }
section
variable {M : Model} {A : Around} {E : Value → Shared → Prop} {s : Shared} {env : Env}
theorem raise_none {x c : Sem Value} {Q : Flow → Shared → Prop}
    (h : wpAny M A x (fun v s₁ => ∃ e t, v = .ref e ∧ s₁.heap.get? e = some (excObj t .none (.bool false)) ∧ wpAny M A c (fun cv s₂ => cv = .none ∧ s₂ = s₁) E s₁ ∧
      ∀ h', Heap.SameBut e s₁.heap h' → h'.get? e = some (excObj t .none (.bool true)) → wpAny M A (raiseNew (.ref e)) Q E { s₁ with heap := h' }) E s) :
    wpAny M A (raiseStmt env (some x) (some c)) Q E s := by
  unfold raiseStmt
  refine wpAny_bind (wpAny_mono h (fun v s₁ h₁ => ?_) fun _ _ x => x)
  obtain ⟨e, t, rfl, he, hc, hE⟩ := h₁
  refine wpAny_bind (wpAny_holding (wpAny_mono hc (fun cv s₂ h₂ => ?_) fun _ _ x => x))
  obtain ⟨rfl, rfl⟩ := h₂
  refine wpAny_bind (wpAny_pure ?_)
  dsimp only
  obtain ⟨hp, g, d, tk, os⟩ := s₂
  have hsub := F.excRaise_ValueError.isExc
  have hmeta := F.excRaise_ValueError.plainMeta
  have step : ∀ {Q : Value → Shared → Prop}, Q (.ref e) ⟨hp, g, d, tk, os⟩ → wpAny M A (excFromValue (.ref e) "exceptions must derive from BaseException") Q E ⟨hp, g, d, tk, os⟩ := fun {Q} hq => by
    unfold excFromValue isExcClass
    repeat (first | refine wpAny_loadPart he ?_ | wp_step)
    exact hq
  refine wpAny_bind (wpAny_holding (step ?_))
  rw [if_pos (by decide)]
  refine wpAny_bind (wpAny_pure ?_)
  refine wpAny_bind (wpAny_setField (s := ⟨hp, g, d, tk, os⟩) he rfl (by simp) ?_)
  have e1 := Heap.get?_update_self (Obj.mapFields (·.setIfInBounds 3 Value.none)) he rfl
  refine wpAny_bind (wpAny_setField (s := ⟨_, g, d, tk, os⟩) e1 rfl (by simp [Obj.mapFields]) ?_)
  have e2 : _ = some (excObj t .none (.bool true)) := Heap.get?_update_self (Obj.mapFields (·.setIfInBounds 4 (Value.bool true))) e1 rfl
  have hE' := hE _ ((Heap.SameBut.update ..).trans (Heap.SameBut.update ..)) e2
  generalize ((hp.update e (Obj.mapFields (·.setIfInBounds 3 Value.none))).update e (Obj.mapFields (·.setIfInBounds 4 (Value.bool true)))) = hp2 at *
  repeat (first | refine wpAny_loadPart e2 ?_ | wp_step)
  exact hE'
end
theorem FunFrames_keep {B h h' : Heap} {l : List Env} (x : h.FunFrames B l) (k : KeepH h h') : h'.FunFrames B l := x.of_keeps fun b o hb _ => ⟨o, k b o hb, rfl⟩
theorem upTo_keep {h h' : Heap} (k : KeepH h h') : h.UpToSlots h' := Heap.UpToSlots.of_keeps k
theorem fresh_B {B h : Heap} (k : B.StaysIn h) {b : Addr} (e : h.get? b = none) : B.get? b = none := by
  cases q : B.get? b with
  | none => rfl
  | some o => have := k b o q; rw [e] at this; cases this
section
variable {c : Cx} {env : Env} {n : Nat} {σ : List (Str × PyData)} {A : Around} {S : Addr → Prop} {s : Shared} {E : Value → Shared → Prop}
theorem vB_at {x pos v} {Q : Value → Shared → Prop} (i : Is c) (pl : Plain env) (hx : env.kindOf x = some .globalImplicit) (h : nsIn (kF c.w.params) mainGlobals x = some none) (hv : bootBuiltins x = some v) (g : c.Good s.heap) (hq : Q v s)
    (hn : x ≠ "__name__" := by decide) (hd : (x == ("__debug__" : Str)) = false := by decide) : wpAny c.M A (eval (.Name x pos) env) Q E s :=
  Name_function_global pl.kind hx (loadGlobal_builtin (by rw [pl.g]; exact g.T.g) (i.mgN x h) (by rw [pl.b]; exact g.T.b) ((g.T.builtins x hn).trans hv) hq) hd
theorem ve_exc : isSubtype (.type "ValueError") (.type "BaseException") = pure true := F.excRaise_ValueError.isExc
theorem ve_meta : isSubtype (.type ((Manifest.find? "ValueError").elim "type" fun x => x.metatype)) (.type "tuple") = pure false := by rw [isSubtype_type]; kernel_rfl
theorem ve_self : isSubtype (.type "ValueError") (.type "ValueError") = pure true := by rw [isSubtype_type]; kernel_rfl
-- the raise within the clause
theorem reraise {outer : List Env} {B : Heap} {e1 : Addr} {a0 : Value} {msg : Str} {np2 cpos rpos cp npp : Pos} {ck nk : Nat} {Q : Flow → Shared → Prop} (i : Is c) (pl : Plain env) (hxV : env.kindOf (Str.ofString "ValueError") = some .globalImplicit) (gB : c.Good B)
    (hf : env.frame = some env.locals) (hfr : A.frames = some (env :: outer)) (x : ExAt B (env :: outer) e1 (.type "ValueError") a0 .none .none s.heap)
    (h : ∀ e2 a1 ctx h' tk, ExAt B (env :: outer) e2 (.type "ValueError") a1 ctx (rawInt env.locals) h' → s.heap.UpToSlots h' → E (.ref e2) { s with heap := h', toks := tk }) :
    wpAny c.M (A.mark (some (.ref e1))) (execs [.Raise (some (.Call (.Name (Str.ofString "ValueError") np2) [.Constant (.str msg) ck cp] [] cpos)) (some (.Constant .none nk npp)) rpos] env) Q (notedBy c.M (A.mark (some (.ref e1))) env (cameBackBy c.M A env E)) s := by
  refine wpAny_execs_cons ?_
  rw [arm_exec_Raise]
  refine wpAny_bind (wpAny_standAt ?_)
  show wpAny _ _ (raiseStmt env (some (do let v ← eval (.Call (.Name (Str.ofString "ValueError") np2) [.Constant (.str msg) ck cp] [] cpos) env; standAt rpos; pure v)) (some (do let v ← eval (.Constant .none nk npp) env; standAt rpos; pure v))) _ _ _
  refine raise_none ?_
  refine wpAny_bind (wpAny_Call_ofName (vB_at i pl hxV g_ValueError Boot.«ValueError» (gB.keeps x.1) (callWith_excType rfl (evalArgs_plain ?_))))
  refine spliced_cons (Constant_str (k := ck) (pos := cp) ?_)
  refine spliced_nil ?_
  obtain ⟨hp, g, d, tk, os⟩ := s
  refine wpAny_call_exc F.excCall_ValueError (fun h₅ e2 hm => ?_) (by simp [sizeLine_eq])
  refine wpAny_bind (wpAny_standAt (wpAny_pure ?_))
  obtain ⟨t, he2, htn, ht⟩ := hm.there
  refine ⟨e2, .ref t, rfl, he2, wpAny_bind (by rw [eval_Constant]; exact wpAny_pure (wpAny_bind (wpAny_standAt (wpAny_pure ⟨rfl, rfl⟩)))), fun h₆ hs₆ he6 => ?_⟩
  obtain ⟨hkb, hen, hl, oe, vs, T, oT, ts, a1, a2, a3, a4, a5, a6, a7, a8, a9, a10, a11⟩ := id x
  have hne : e1 ≠ e2 := fun q => by have := hm.new; rw [← q] at this; rw [show hp.get? e1 = some oe from a1] at this; cases this
  have k6 : KeepH hp h₆ := fun b o e => (hs₆.2 b (fun q => by have := hm.new; rw [← q] at this; rw [this] at e; cases e)).trans (hm.keeps b o e)
  refine raise_handled (s := ⟨h₆, g, d, _, os⟩) rfl hne (k6 _ _ a1) a3 a6 he6 rfl (by simp) ?_
  have e7 := Heap.get?_update_self (Obj.mapFields (·.setIfInBounds 2 (.ref e1))) he6 rfl
  have k7 : KeepH hp (h₆.update e2 (Obj.mapFields (·.setIfInBounds 2 (.ref e1)))) := fun b o e => (Heap.get?_update_other _ _ (fun q : e2 = b => by have := hm.new; rw [q] at this; rw [this] at e; cases e)).trans (k6 b o e)
  generalize h₆.update e2 (Obj.mapFields (·.setIfInBounds 2 (.ref e1))) = h₇ at e7 k7 ⊢
  have hB7 : B.StaysIn h₇ := fun b o e => k7 b o (hkb b o e)
  refine note_first (s := ⟨h₇, g, d, _, os⟩) (B := B) (outer := outer) (L := env.locals) hfr (FunFrames_keep hl k7) hf e7 hB7 (fresh_B hkb hm.new) rfl rfl rfl rfl fun h₈ x₈ u₈ => ?_
  refine cameBack_at x₈ fun h₉ x₉ u₉ => ?_
  rw [hf] at x₉
  exact h e2 _ _ h₉ _ x₉ (((upTo_keep k7).trans u₈).trans u₉)
end
end Mine
end

section
open PySem PySem.W PySem.Calls PyProof.Rows PySem.Spec
set_option maxRecDepth 100000
namespace Mine
section
variable {c : Cx} {env : Env} {n : Nat} {σ : List (Str × PyData)} {A : Around} {S : Addr → Prop} {s : Shared} {E : Value → Shared → Prop}
theorem mix_try {outer : List Env} {B : Heap} {x msg : Str} {px np np2 cpos rpos cp npp tp apos hpos tpos : Pos} {k ck nk : Nat} {e : Expr} (i : Is c) (hxV : env.kindOf (Str.ofString "ValueError") = some .globalImplicit) (gB : c.Good B)
    (hf : env.frame = some env.locals) (hfr : A.frames = some (env :: outer)) (a : AtS c env n (FrA env) σ A S s) (hB : B.StaysIn s.heap) (hl : s.heap.FunFrames B (env :: outer)) (he : EvSet c env n σ e true true)
    (h : ∀ e2 a1 ctx h' tk, ExAt B (env :: outer) e2 (.type "ValueError") a1 ctx (rawInt env.locals) h' → s.heap.UpToSlots h' → E (.ref e2) { s with heap := h', toks := tk })
    (hs : swapsWithSole [.Tuple [.Name x px] k tp] e apos.line env = pure false := by rfl) (hw : swappedStores [.Tuple [.Name x px] k tp] e env = pure none := by rfl) :
    wpAny c.M A (exec (.Try [.Assign [.Tuple [.Name x px] k tp] e apos] [.ExceptHandler (some (.Name (Str.ofString "ValueError") np)) none [.Raise (some (.Call (.Name (Str.ofString "ValueError") np2) [.Constant (.str msg) ck cp] [] cpos)) (some (.Constant .none nk npp)) rpos] hpos] [] [] tpos) env) (fun _ _ => False) E s := by
  have pl := a.fm.fr.pl
  refine wpAny_Try_except ?_
  refine wpAny_execs_cons ?_
  refine Assign_Tuple (wpAny_mono (he A S s _ a.at) (fun v s₁ p => ?_) fun _ _ x => x) hs hw
  obtain ⟨k₁, D, rfl, hD⟩ := p
  rw [arm_assign_Tuple]
  refine wpAny_bind (wpAny_standAt ?_)
  show wpAny _ _ (unpack (.ref D) [(false, assign (.Name x px) env)]) _ _ _
  unfold unpack
  refine wpAny_bind (wpAny_holding ?_)
  refine unpack_two a.room.1 hD fun h' tk e1 hx => ?_
  obtain ⟨ob, t, hob, hcls, hdt⟩ := hx.there
  have k2 : KeepH s.heap h' := fun b o q => hx.keeps b o (Keeps.h k₁ b o q)
  have hB2 : B.StaysIn h' := fun b o q => k2 b o (hB b o q)
  have hen : B.get? e1 = none := fresh_B (fun b o q => Keeps.h k₁ b o (hB b o q)) hx.new
  obtain ⟨cls, dd, data, sl⟩ := ob
  simp only at hcls hdt
  subst hcls hdt
  refine note_first (s := { s₁ with heap := h', toks := tk }) (B := B) (outer := outer) (L := env.locals) hfr (FunFrames_keep hl k2) hf hob hB2 hen rfl rfl rfl rfl fun h₂ x₂ u₂ => ?_
  refine flight_set (s := { s₁ with heap := h₂, toks := tk }) (fr := none) x₂ fun h₃ x₃ u₃ => ?_
  refine wpAny_handleBy_builtin (X := "ValueError") (T := "ValueError") (b := true) ve_exc ve_meta ve_self (vB_at i pl hxV g_ValueError Boot.«ValueError» (gB.keeps x₃.1) ⟨rfl, x₃.typeIs (s := { s₁ with heap := h₃, toks := tk }), ?_⟩)
  rw [if_pos rfl]
  refine flight_set (s := { s₁ with heap := h₃, toks := tk }) (fr := none) x₃ fun h₄ x₄ u₄ => ?_
  obtain ⟨hp, tk1, rfl, _⟩ := k₁
  refine reraise i pl hxV gB hf hfr x₄ fun e2 a1 ctx h₅ tk5 x₅ u₅ => ?_
  exact h e2 a1 ctx h₅ tk5 x₅ ((((upTo_keep k2).trans u₂).trans u₃).trans (u₄.trans u₅))
end
end Mine
end

section
open PySem PySem.W PySem.Calls PyProof.Rows PySem.Spec
set_option maxRecDepth 100000
namespace Mine
theorem FunFrames_at {B h h' : Heap} : ∀ {l : List Env}, h.FunFrames B l → (∀ env ∈ l, ∀ L, env.frame = some L → ∀ o, h.get? L = some o → h'.get? L = some o) → h'.FunFrames B l
  | [], _, _ => trivial
  | env :: l, ⟨hk, ⟨L, o, hf, hn, ho, hd⟩, r⟩, k => ⟨hk, ⟨L, o, hf, hn, k env List.mem_cons_self L hf o ho, hd⟩, FunFrames_at r fun e he => k e (List.mem_cons_of_mem _ he)⟩
-- all but the frame's own things stays up to slots
noncomputable def KeepU (env : Env) (s₀ s' : Shared) : Prop := ∃ h' tk, s' = { s₀ with heap := h', toks := tk } ∧ ∀ b o, ¬ FrA env b → s₀.heap.get? b = some o → (∀ vs, o.data ≠ .fields vs) → ∃ sl, h'.get? b = some { o with slots := sl }
theorem KeepU.of {env : Env} {s₀ s : Shared} (k : KeepS (FrA env) s₀ s) {h' : Heap} {tk : Nat} (u : s.heap.UpToSlots h') : KeepU env s₀ { s with heap := h', toks := tk } := by
  obtain ⟨h₁, tk₁, rfl, kb⟩ := k
  exact ⟨h', tk, rfl, fun b o n e hd => u b o (kb b o n e) hd⟩
theorem KeepU.then {env : Env} {s₀ s : Shared} (k : KeepU env s₀ s) {h' : Heap} (u : s.heap.UpToSlots h') : KeepU env s₀ { s with heap := h' } := by
  obtain ⟨h₁, tk₁, rfl, kb⟩ := k
  refine ⟨h', tk₁, rfl, fun b o n e hd => ?_⟩
  obtain ⟨sl, e₁⟩ := kb b o n e hd
  obtain ⟨sl', e₂⟩ := u b _ e₁ hd
  exact ⟨sl', e₂⟩
theorem ExAt.keep {B : Heap} {l e cls a0 ctx fl} {h h' : Heap} (x : ExAt B l e cls a0 ctx fl h) (k : KeepH h h') : ExAt B l e cls a0 ctx fl h' := by
  obtain ⟨hkb, hen, hl, oe, vs, T, oT, ts, a1, a2, a3, a4, a5, a6, a7, a8, a9, a10, a11⟩ := x
  exact ⟨fun b o e => k b o (hkb b o e), hen, FunFrames_keep hl k, oe, vs, T, oT, ts, k _ _ a1, a2, a3, a4, a5, a6, a7, a8, k _ _ a9, a10, a11⟩
section
variable {c : Cx} {env : Env} {n : Nat} {σ : List (Str × PyData)} {A : Around} {outer : List Env} {B : Heap} {s₀ : Shared}
-- statements that end in a ValueError
noncomputable def Rz (c : Cx) (env : Env) (n : Nat) (outer : List Env) (B : Heap) (A : Around) (s₀ : Shared) (stmts : List Stmt) (σ : List (Str × PyData)) : Prop :=
  ∀ S s E, AtS c env n (FrA env) σ A S s → KeepS (FrA env) s₀ s → (∀ e2 a1 ctx s', ExAt B (env :: outer) e2 (.type "ValueError") a1 ctx (rawInt env.locals) s'.heap → KeepU env s₀ s' → E (.ref e2) s') → wpAny c.M A (execs stmts env) (fun _ _ => False) E s
-- what the frame's base is to be
structure Bs (c : Cx) (env : Env) (outer : List Env) (B : Heap) (A : Around) (s₀ : Shared) : Prop where
  gB : c.Good B
  hf : env.frame = some env.locals
  hfr : A.frames = some (env :: outer)
  hB : B.StaysIn s₀.heap
  hX : ∀ b, FrA env b → B.get? b = none
  hk : env.scope.kind ≠ .module
  hl : s₀.heap.FunFrames B outer
  ho : ∀ e ∈ outer, ∀ L, e.frame = some L → ¬ FrA env L
theorem Bs.stays {s : Shared} (b : Bs c env outer B A s₀) (k : KeepS (FrA env) s₀ s) : B.StaysIn s.heap := fun p o e => k.b p o (fun q => by rw [b.hX p q] at e; cases e) (b.hB p o e)
theorem Bs.frames {s : Shared} {S : Addr → Prop} (b : Bs c env outer B A s₀) (k : KeepS (FrA env) s₀ s) (a : AtS c env n (FrA env) σ A S s) : s.heap.FunFrames B (env :: outer) := by
  obtain ⟨m, ns, _⟩ := a.fm.fr.names
  exact Heap.FunFrames.cons b.hk b.hf ns (b.hX _ (.inl rfl)) (FunFrames_at b.hl fun e he L hL o ho => k.b L o (b.ho e he L hL) ho)
theorem rz_cons {st rest} (P : List (Str × PyData) → Prop) (h : Ex1 c env n σ st (fun o => ∃ σ', o = .next σ' ∧ P σ')) (k : ∀ σ', P σ' → Rz c env n outer B A s₀ rest σ') : Rz c env n outer B A s₀ (st :: rest) σ := fun S s E a ks hE => by
  refine wpAny_execs_cons (wpAny_mono (h A S s E a) (fun f s₁ q => ?_) fun _ _ x => x)
  obtain ⟨k₁, q⟩ := q
  cases f with
  | next =>
    obtain ⟨σ', ⟨σ'', e, hP⟩, a'⟩ := q
    cases e
    exact k σ' hP S s₁ E a' (ks.trans k₁) hE
  | brk => obtain ⟨σ', ⟨σ'', e, hP⟩, a'⟩ := q; cases e
  | cont => obtain ⟨σ', ⟨σ'', e, hP⟩, a'⟩ := q; cases e
  | ret v => obtain ⟨σ', ⟨σ'', e, hP⟩, a'⟩ := q; cases e
theorem rz_mix {x msg : Str} {px np np2 cpos rpos cp npp tp apos hpos tpos : Pos} {k ck nk : Nat} {e : Expr} {rest : List Stmt} (i : Is c) (b : Bs c env outer B A s₀) (hxV : env.kindOf (Str.ofString "ValueError") = some .globalImplicit) (he : EvSet c env n σ e true true)
    (hs : swapsWithSole [.Tuple [.Name x px] k tp] e apos.line env = pure false := by rfl) (hw : swappedStores [.Tuple [.Name x px] k tp] e env = pure none := by rfl) :
    Rz c env n outer B A s₀ ((.Try [.Assign [.Tuple [.Name x px] k tp] e apos] [.ExceptHandler (some (.Name (Str.ofString "ValueError") np)) none [.Raise (some (.Call (.Name (Str.ofString "ValueError") np2) [.Constant (.str msg) ck cp] [] cpos)) (some (.Constant .none nk npp)) rpos] hpos] [] [] tpos) :: rest) σ := fun S s E a ks hE => by
  refine wpAny_execs_cons (wpAny_mono (mix_try i hxV b.gB b.hf b.hfr a (b.stays ks) (b.frames ks a) he (fun e2 a1 ctx h' tk x u => hE e2 a1 ctx _ x (KeepU.of ks u)) hs hw) (fun _ _ q => q.elim) fun _ _ x => x)
theorem te_exc : isSubtype (.type "TypeError") (.type "BaseException") = pure true := F.excRaise_TypeError.isExc
theorem te_meta : isSubtype (.type ((Manifest.find? "TypeError").elim "type" fun x => x.metatype)) (.type "tuple") = pure false := by rw [isSubtype_type]; kernel_rfl
theorem ve_te : isSubtype (.type "ValueError") (.type "TypeError") = pure false := by rw [isSubtype_type]; kernel_rfl
theorem ae_exc : isSubtype (.type "AttributeError") (.type "BaseException") = pure true := by rw [isSubtype_type]; kernel_rfl
theorem ae_meta : isSubtype (.type ((Manifest.find? "AttributeError").elim "type" fun x => x.metatype)) (.type "tuple") = pure false := by rw [isSubtype_type]; kernel_rfl
theorem ve_ae : isSubtype (.type "ValueError") (.type "AttributeError") = pure false := by rw [isSubtype_type]; kernel_rfl
section
variable {P : Params}
theorem g_TypeError : nsIn (kF P) mainGlobals (Str.ofString "TypeError") = some none := by rfl
theorem g_AttributeError : nsIn (kF P) mainGlobals (Str.ofString "AttributeError") = some none := by rfl
end
theorem rz_try2 {body : List Stmt} {p1 p2 tp hpos pos : Pos} {k : Nat} {b₀ : Stmt} {suite rest : List Stmt} (i : Is c) (b : Bs c env outer B A s₀) (hx1 : env.kindOf (Str.ofString "TypeError") = some .globalImplicit) (hx2 : env.kindOf (Str.ofString "AttributeError") = some .globalImplicit)
    (h : Rz c env n outer B A s₀ body σ) (hs : starEach [.Name (Str.ofString "TypeError") p1, .Name (Str.ofString "AttributeError") p2] env = [(false, eval (.Name (Str.ofString "TypeError") p1) env), (false, eval (.Name (Str.ofString "AttributeError") p2) env)] := by rfl) :
    Rz c env n outer B A s₀ ((.Try body [.ExceptHandler (some (.Tuple [.Name (Str.ofString "TypeError") p1, .Name (Str.ofString "AttributeError") p2] k tp)) none (b₀ :: suite) hpos] [] [] pos) :: rest) σ := fun S s E a ks hE => by
  have pl := a.fm.fr.pl
  refine wpAny_execs_cons (wpAny_Try_except (wpAny_mono (h S s _ a ks fun e2 a1 ctx s' x u => ?_) (fun _ _ q => q.elim) fun _ _ x => x))
  refine note_again b.hf x (flight_set (fr := none) x fun h₁ x₁ u₁ => ?_)
  refine wpAny_handleBy_tup2 (X := "ValueError") (T1 := "TypeError") (T2 := "AttributeError") (b1 := false) (b2 := false) te_exc te_meta ae_exc ae_meta ve_te ve_ae ?_
  have g₁ : c.Good h₁ := b.gB.keeps x₁.1
  refine Tuple_ ?_
  rw [hs]
  refine spliced_cons (vB_at (s := { s' with heap := h₁ }) i pl hx1 g_TypeError Boot.«TypeError» g₁ ?_)
  refine spliced_cons (vB_at (s := { s' with heap := h₁ }) i pl hx2 g_AttributeError Boot.«AttributeError» g₁ ?_)
  refine spliced_nil ?_
  refine wpAny_newTuple ?_ (by simp [sizeLine_eq])
  have x₂ := x₁.keep (keepH_push { cls := .type "tuple", data := .seq [Value.type "TypeError", Value.type "AttributeError"].toArray })
  refine ⟨_, rfl, ⟨_, Heap.get?_push_size _ rfl, rfl, 0, rfl⟩, x₂.typeIs (s := { s' with heap := h₁.push { cls := .type "tuple", data := .seq [Value.type "TypeError", Value.type "AttributeError"].toArray } }), ?_⟩
  simp only [Bool.or_self, Bool.false_eq_true, if_false]
  refine wpAny_handleBy_nil (passOn_at (s := { s' with heap := h₁.push { cls := .type "tuple", data := .seq [Value.type "TypeError", Value.type "AttributeError"].toArray } }) x₂ fun h₃ x₃ u₃ => ?_)
  rw [b.hf] at x₃
  exact hE e2 a1 ctx _ x₃ (((u.then u₁).then (upTo_keep (keepH_push _))).then u₃)
end
end Mine
end

section
open PySem PySem.W PySem.Calls PyProof.Rows PySem.Spec
set_option maxRecDepth 100000
namespace Mine
section
variable {c : Cx} {n : Nat}
theorem raises_def {f name params body scope names ds} (D : DefOk c f name params body scope) (hs : scopeSees scope names = true) (hlen : names.length = ds.length)
    (hb : ∀ pm cd doc vs, vs.length = ds.length → bindArgs (docDef name params body scope pm cd doc) ⟨vs, []⟩ = pure (names.zip vs))
    {A : Around} {S : Addr → Prop} {s : Shared} {vs : List Value} {outer : List Env} {B : Heap} {E : Value → Shared → Prop} {Q : Value → Shared → Prop}
    (room : Room A (n + 1)) (good : c.Good s.heap) (sb : SB S s.heap) (rv : RdAll c.P S s.heap vs ds) (hfr : A.frames = some outer) (gB : c.Good B) (hB : B.StaysIn s.heap) (hl : s.heap.FunFrames B outer)
    (h : ∀ L cd s₀, Bs c (fenv name scope L f cd) outer B (A.deeper (fenv name scope L f cd)) s₀ → Rz c (fenv name scope L f cd) n outer B (A.deeper (fenv name scope L f cd)) s₀ body (names.zip ds))
    (hE : ∀ e2 a1 ctx h' tk, ExAt B outer e2 (.type "ValueError") a1 ctx .none h' → s.heap.UpToSlots h' → E (.ref e2) { s with heap := h', toks := tk }) : wpAny c.M A (call (.ref f) vs) Q E s := by
  refine wpAny_call ?_
  obtain ⟨o, pm, cd, doc, ho, hd, hcd⟩ := D.there _ good
  simp only [scopeSees, Bool.and_eq_true, Bool.not_eq_true', List.all_eq_true, Bool.or_eq_true, beq_iff_eq, decide_eq_true_eq] at hs
  obtain ⟨⟨⟨⟨⟨hk, hco⟩, hgen⟩, hnames⟩, hnd⟩, hnd2⟩ := hs
  refine codeAny_call_function room.depth ho hd hco hgen rfl hcd ?_
  rw [hb pm cd doc vs rv.length]
  refine wpAny_pure ?_
  have hkeys : ((names.zip vs).map (·.1)) = names := by
    rw [List.map_fst_zip]; rw [rv.length, hlen]; exact Nat.le_refl _
  have hkind : ∀ k, ∀ x ∈ names.zip vs, scope.names.lookup x.1 = some .local ∨ (scope.names.lookup x.1 = some .cell ∧ ((cellsFrom k scope.names []).lookup x.1).isSome = true) := fun k x hx => by
    have hm : x.1 ∈ names := hkeys ▸ List.mem_map_of_mem (f := (·.1)) hx
    exact (hnames _ hm).imp id fun ⟨a, b⟩ => ⟨a, (cellsFrom_some' _ _ _ _ _ _ rfl).trans b⟩
  refine wpAny_newFunctionEnv_cells hk (hkind _) fun env he s₂ x => ?_
  obtain rfl : env = fenv name scope s.heap.objs.size f cd := he
  refine ⟨good.T.nolimit.keeps x.toInCall.keep, codeAny_func ?_⟩
  generalize hL : s.heap.objs.size = L at *
  have hx0 : ∀ b, FrA (fenv name scope L f cd) b → s.heap.get? b = none := fun b q => by
    have hge : L ≤ b := by
      rcases q with rfl | ⟨p, hp, rfl⟩
      · exact Nat.le_refl _
      · exact Nat.le_of_lt (x.above p.1 p.2 hp)
    cases e : s.heap.get? b with
    | none => rfl
    | some o => exact absurd (Nat.lt_of_lt_of_le (Heap.lt_size e) (hL ▸ hge)) (Nat.lt_irrefl _)
  have keep₂ := x.toInCall.keep
  have a₂ : AtS c (fenv name scope L f cd) n (FrA (fenv name scope L f cd)) (names.zip ds) (A.deeper (fenv name scope L f cd)) (fun b => S b ∨ FrA (fenv name scope L f cd) b) s₂ := by
    refine ⟨room.deeper, ⟨s.heap, good, keep₂, hx0⟩, fun b q => ?_, ⟨⟨⟨hk, rfl, rfl⟩, ⟨_, x.toInCall.ns, fun y d hy => ?_⟩, fun p hp => ⟨_, x.cell _ _ (lookup_of_mem_nodup (cellsFrom_names scope.names 0 (L + 1) [] [] rfl ▸ hnd2) hp)⟩, x.apart, fun p hp => Nat.ne_of_gt (x.above p.1 p.2 hp)⟩, fun _ q => .inr q, .inl rfl⟩⟩
    · rcases q with q | rfl | ⟨p, hp, rfl⟩
      · obtain ⟨o, ho⟩ := sb b q; exact ⟨o, keep₂ _ _ ho⟩
      · obtain ⟨o, _, _, ho, _⟩ := x.toInCall.ns; exact ⟨o, ho⟩
      · have hl : (fenv name scope L f cd).cells.lookup p.1 = some p.2 := lookup_of_mem_nodup (cellsFrom_names scope.names 0 (L + 1) [] [] rfl ▸ hnd2) hp
        obtain ⟨o, ho, _⟩ := x.cell _ _ hl
        exact ⟨o, ho⟩
    · obtain ⟨v, hv, rd⟩ := zip_lookup rv hy
      have rd₂ : Rd c.P (fun b => S b ∨ FrA (fenv name scope L f cd) b) s₂.heap v d := (rd.more fun b q => q.imp id (hx0 b)).keep keep₂
      rcases hkind (L + 1) (y, v) (PySem.mem_of_lookup hv) with hl | ⟨hc, hsm⟩
      · exact ⟨v, rd₂, .inl ⟨hl, bindL_get _ _ y v (by rw [hkeys]; exact hnd) hv hl⟩⟩
      · obtain ⟨b, hb'⟩ := Option.isSome_iff_exists.mp hsm
        refine ⟨v, rd₂, .inr ⟨hc, b, hb', ?_⟩⟩
        have := x.cell y b hb'
        rw [bindC_get _ _ y v (by rw [hkeys]; exact hnd) hv hc] at this
        exact this
  have bs : Bs c (fenv name scope L f cd) outer B (A.deeper (fenv name scope L f cd)) s₂ := by
    refine ⟨gB, rfl, Around.frames_deeper hfr, fun b o e => keep₂ b o (hB b o e), fun b q => fresh_B hB (hx0 b q), ?_, FunFrames_keep hl keep₂, fun e' he' L' hL' q => ?_⟩
    · show scope.kind ≠ .module; rw [hk]; decide
    · obtain ⟨_, o, ho, _⟩ := hl.mem (List.mem_filterMap.mpr ⟨e', he', hL'⟩)
      rw [hx0 _ q] at ho; cases ho
  refine wpAny_mono (h L cd s₂ bs _ s₂ _ a₂ KeepS.refl fun e2 a1 ctx s' xe u => ?_) (fun _ _ q => q.elim) fun _ _ x => x
  unfold leaving
  refine wpAny_bind (note_again rfl xe (flight_set (fr := none) xe fun h₁ x₁ u₁ => ?_))
  obtain ⟨h₂, tk₂, e₂, _⟩ := x.done
  obtain ⟨h₃, tk₃, rfl, kb⟩ := u
  subst e₂
  obtain ⟨hkb, hen, ⟨_, _, hl'⟩, r⟩ := x₁
  refine hE e2 a1 ctx h₁ tk₃ ⟨hkb, hen, hl', r⟩ fun b o e hdn => ?_
  obtain ⟨sl, e₁⟩ := kb b o (fun q => by rw [hx0 b q] at e; cases e) (keep₂ b o e) hdn
  obtain ⟨sl', e₃⟩ := u₁ b _ e₁ hdn
  exact ⟨sl', e₃⟩
end
set_option maxHeartbeats 8000000 in
theorem common_raises {c : Cx} (i : Is c) {n : Nat} {xs : List (List Nat)} (hx : ∀ x ∈ xs, Asc x ∧ x.length ≤ 200) (hz : xs.length ≤ 100) {xa xr : List Nat} (ha : xa ∈ xs) (ha' : (xa.head? == some 47) = true) (hr : xr ∈ xs) (hr' : (xr.head? == some 47) = false)
    {A : Around} {S : Addr → Prop} {s : Shared} {vs : List Value} {outer : List Env} {B : Heap} {E : Value → Shared → Prop} {Q : Value → Shared → Prop}
    (room : Room A (n + 7)) (good : c.Good s.heap) (sb : SB S s.heap) (rv : RdAll c.P S s.heap vs [rowD xs]) (hfr : A.frames = some outer) (gB : c.Good B) (hB : B.StaysIn s.heap) (hl : s.heap.FunFrames B outer)
    (hE : ∀ e2 a1 ctx h' tk, ExAt B outer e2 (.type "ValueError") a1 ctx .none h' → s.heap.UpToSlots h' → E (.ref e2) { s with heap := h', toks := tk }) : wpAny c.M A (call (.ref 127) vs) Q E s := by
  have D := defOk_K (f := 127) i rfl rfl rfl
  refine raises_def (n := n + 6) (names := [Str.ofString "paths"]) D (by decide) rfl (fun pm cd doc vs h => ?_) room good sb rv hfr gB hB hl (fun L cd s₀ b => ?_) hE
  · obtain ⟨a, rfl⟩ := len1 h; rfl
  clear D
  have hzl : sizeLine = 16777216 := rfl
  obtain ⟨x0, rest, rfl⟩ : ∃ x0 rest, xs = x0 :: rest := by cases xs with | nil => cases ha | cons a b => exact ⟨a, b, rfl⟩
  obtain ⟨tups, htups⟩ : ∃ tups : List PyData, tups = (x0 :: rest).map fun x => .str (st x) := ⟨_, rfl⟩
  have htl : tups.length = (x0 :: rest).length := by rw [htups, List.length_map]
  have hlen : (x0 :: rest).length ≤ 100 := hz
  refine rz_cons (fun σ' => σ' = _) (ex_assign (d := .tuple tups) (ev_cast (ev_tuple_map (xs := (x0 :: rest).map st) i ⟨rfl, rfl, rfl⟩ rfl rfl rfl (ev_cast (ev_name rfl) (by rw [rowD, List.map_map]; rfl)) (by omega) (by rw [List.length_map]; omega)) (by rw [htups, List.map_map]; rfl)) (.inl rfl) ⟨_, rfl, rfl⟩) fun σ' e => ?_
  subst e
  refine rz_cons (fun σ' => σ' = _) (ex_if (b := false) (evT_cast (evT_not (evT_tuple (ev_name rfl) (by omega))) (by rw [htups]; rfl)) (fun h => nomatch h) (fun _ => exs_nil ⟨_, rfl, rfl⟩)) fun σ' e => ?_
  subst e
  refine rz_cons (fun σ' => σ' = _) (ex_if (b := false) (evT_bool (ev_isi_bytes (y := st x0) i ⟨rfl, rfl, rfl⟩ rfl (ev_item_tuple (k := 0) (ev_name rfl) ev_int (by decide) (by rw [htups]; rfl) (by decide)) (ev_bytT i ⟨rfl, rfl, rfl⟩ rfl))) (fun h => nomatch h) (fun _ => exs_cons (ex_assign ev_str (.inr ⟨rfl, ⟨_, rfl⟩⟩) (exs_cons (ex_assign ev_str (.inr ⟨rfl, ⟨_, rfl⟩⟩) (exs_nil ⟨_, rfl, rfl⟩)))))) fun σ' e => ?_
  subst e
  refine rz_try2 i b rfl rfl ?_
  refine rz_cons (fun σ' => σ' = _) (ex_assign_map (ds := x0 :: rest) (dt := fun x => .str (st x)) (f := fun x => rowD (splitL x))
    (comp_name _ [(Str.ofString "sep", .str (st [47]))] (evI_cast (evI_tuple (ev_name rfl)) htups) (by decide) rfl (cap_cons rfl rfl rfl (fun _ => rfl) cap_nil) (.inl rfl) rfl (by omega) (fun C d _ => evTs_nil) fun C d hd _ => ev_splitS (ev_name rfl) (ev_name rfl) (by have := (hx d hd).2; omega)) (.inl rfl) ⟨_, rfl, rfl⟩) fun σ' e => ?_
  subst e
  have hany : ∀ b', anyT (fun x : List Nat => x.head? == some 47) b' (x0 :: rest) = true := fun b' => by
    unfold anyT
    rw [List.any_eq_true]
    cases b' with
    | true => exact ⟨xa, ha, by simp only [ha']; rfl⟩
    | false => exact ⟨xr, hr, by simp only [hr']; rfl⟩
  refine rz_mix i b rfl (evSet_cast (evSet_comp (ds := x0 :: rest) (dt := fun x => .str (st x)) (g := fun x : List Nat => x.head? == some 47) (σ0 := [(Str.ofString "sep", .str (st [47]))]) (evI_cast (evI_tuple (ev_name rfl)) htups) (by decide) rfl (cap_cons rfl rfl rfl (fun _ => rfl) cap_nil) rfl (fun p hp => by rw [List.mem_singleton.mp hp]; decide)
      (fun C d hd => startswith_st d ▸ ev_startswith (ev_name rfl) (ev_name rfl))) (hany false) (hany true))
end Mine
end

section
open PySem PySem.W PySem.Calls PyProof.Rows PySem.Spec
set_option maxRecDepth 100000
namespace Mine
section
variable {c : Cx} {n : Nat}
theorem enter_def {f name params body scope names ds} (D : DefOk c f name params body scope) (hs : scopeSees scope names = true) (hlen : names.length = ds.length)
    (hb : ∀ pm cd doc vs, vs.length = ds.length → bindArgs (docDef name params body scope pm cd doc) ⟨vs, []⟩ = pure (names.zip vs))
    {A : Around} {S : Addr → Prop} {s : Shared} {vs : List Value} {outer : List Env} {B : Heap} {E : Value → Shared → Prop} {Q : Value → Shared → Prop}
    (room : Room A (n + 1)) (good : c.Good s.heap) (sb : SB S s.heap) (rv : RdAll c.P S s.heap vs ds) (hfr : A.frames = some outer) (gB : c.Good B) (hB : B.StaysIn s.heap) (hl : s.heap.FunFrames B outer)
    (h : ∀ L cd s₂, Bs c (fenv name scope L f cd) outer B (A.deeper (fenv name scope L f cd)) s₂ → AtS c (fenv name scope L f cd) n (FrA (fenv name scope L f cd)) (names.zip ds) (A.deeper (fenv name scope L f cd)) (fun b => S b ∨ FrA (fenv name scope L f cd) b) s₂ →
      (∀ b, FrA (fenv name scope L f cd) b → s.heap.get? b = none) → KeepH s.heap s₂.heap → (∃ h₂ tk₂, s₂ = { s with heap := h₂, toks := tk₂ }) →
      wpAny c.M (A.deeper (fenv name scope L f cd)) (execs body (fenv name scope L f cd)) (fun fl s' => Q (match fl with | .ret v => v | _ => .none) s') (fun e s' => wpAny c.M (A.deeper (fenv name scope L f cd)) (leaving (fenv name scope L f cd) e) (fun _ s'' => E e s'') E s') s₂)
    : wpAny c.M A (call (.ref f) vs) Q E s := by
  refine wpAny_call ?_
  obtain ⟨o, pm, cd, doc, ho, hd, hcd⟩ := D.there _ good
  simp only [scopeSees, Bool.and_eq_true, Bool.not_eq_true', List.all_eq_true, Bool.or_eq_true, beq_iff_eq, decide_eq_true_eq] at hs
  obtain ⟨⟨⟨⟨⟨hk, hco⟩, hgen⟩, hnames⟩, hnd⟩, hnd2⟩ := hs
  refine codeAny_call_function room.depth ho hd hco hgen rfl hcd ?_
  rw [hb pm cd doc vs rv.length]
  refine wpAny_pure ?_
  have hkeys : ((names.zip vs).map (·.1)) = names := by
    rw [List.map_fst_zip]; rw [rv.length, hlen]; exact Nat.le_refl _
  have hkind : ∀ k, ∀ x ∈ names.zip vs, scope.names.lookup x.1 = some .local ∨ (scope.names.lookup x.1 = some .cell ∧ ((cellsFrom k scope.names []).lookup x.1).isSome = true) := fun k x hx => by
    have hm : x.1 ∈ names := hkeys ▸ List.mem_map_of_mem (f := (·.1)) hx
    exact (hnames _ hm).imp id fun ⟨a, b⟩ => ⟨a, (cellsFrom_some' _ _ _ _ _ _ rfl).trans b⟩
  refine wpAny_newFunctionEnv_cells hk (hkind _) fun env he s₂ x => ?_
  obtain rfl : env = fenv name scope s.heap.objs.size f cd := he
  refine ⟨good.T.nolimit.keeps x.toInCall.keep, codeAny_func ?_⟩
  generalize hL : s.heap.objs.size = L at *
  have hx0 : ∀ b, FrA (fenv name scope L f cd) b → s.heap.get? b = none := fun b q => by
    have hge : L ≤ b := by
      rcases q with rfl | ⟨p, hp, rfl⟩
      · exact Nat.le_refl _
      · exact Nat.le_of_lt (x.above p.1 p.2 hp)
    cases e : s.heap.get? b with
    | none => rfl
    | some o => exact absurd (Nat.lt_of_lt_of_le (Heap.lt_size e) (hL ▸ hge)) (Nat.lt_irrefl _)
  have keep₂ := x.toInCall.keep
  have a₂ : AtS c (fenv name scope L f cd) n (FrA (fenv name scope L f cd)) (names.zip ds) (A.deeper (fenv name scope L f cd)) (fun b => S b ∨ FrA (fenv name scope L f cd) b) s₂ := by
    refine ⟨room.deeper, ⟨s.heap, good, keep₂, hx0⟩, fun b q => ?_, ⟨⟨⟨hk, rfl, rfl⟩, ⟨_, x.toInCall.ns, fun y d hy => ?_⟩, fun p hp => ⟨_, x.cell _ _ (lookup_of_mem_nodup (cellsFrom_names scope.names 0 (L + 1) [] [] rfl ▸ hnd2) hp)⟩, x.apart, fun p hp => Nat.ne_of_gt (x.above p.1 p.2 hp)⟩, fun _ q => .inr q, .inl rfl⟩⟩
    · rcases q with q | rfl | ⟨p, hp, rfl⟩
      · obtain ⟨o, ho⟩ := sb b q; exact ⟨o, keep₂ _ _ ho⟩
      · obtain ⟨o, _, _, ho, _⟩ := x.toInCall.ns; exact ⟨o, ho⟩
      · have hl : (fenv name scope L f cd).cells.lookup p.1 = some p.2 := lookup_of_mem_nodup (cellsFrom_names scope.names 0 (L + 1) [] [] rfl ▸ hnd2) hp
        obtain ⟨o, ho, _⟩ := x.cell _ _ hl
        exact ⟨o, ho⟩
    · obtain ⟨v, hv, rd⟩ := zip_lookup rv hy
      have rd₂ : Rd c.P (fun b => S b ∨ FrA (fenv name scope L f cd) b) s₂.heap v d := (rd.more fun b q => q.imp id (hx0 b)).keep keep₂
      rcases hkind (L + 1) (y, v) (PySem.mem_of_lookup hv) with hl | ⟨hc, hsm⟩
      · exact ⟨v, rd₂, .inl ⟨hl, bindL_get _ _ y v (by rw [hkeys]; exact hnd) hv hl⟩⟩
      · obtain ⟨b, hb'⟩ := Option.isSome_iff_exists.mp hsm
        refine ⟨v, rd₂, .inr ⟨hc, b, hb', ?_⟩⟩
        have := x.cell y b hb'
        rw [bindC_get _ _ y v (by rw [hkeys]; exact hnd) hv hc] at this
        exact this
  have bs : Bs c (fenv name scope L f cd) outer B (A.deeper (fenv name scope L f cd)) s₂ := by
    refine ⟨gB, rfl, Around.frames_deeper hfr, fun b o e => keep₂ b o (hB b o e), fun b q => fresh_B hB (hx0 b q), ?_, FunFrames_keep hl keep₂, fun e' he' L' hL' q => ?_⟩
    · show scope.kind ≠ .module; rw [hk]; decide
    · obtain ⟨_, o, ho, _⟩ := hl.mem (List.mem_filterMap.mpr ⟨e', he', hL'⟩)
      rw [hx0 _ q] at ho; cases ho
  obtain ⟨h₂, tk₂, e₂, _⟩ := x.done
  exact h L cd s₂ bs a₂ hx0 keep₂ ⟨h₂, tk₂, e₂⟩
end
theorem arg_slash {c : Cx} {env : Env} {n : Nat} {σ : List (Str × PyData)} {e bp lp p k} {ps : List (List Nat)} (h : Ev c env n σ e (rowD ps)) (hz : ps.length ≤ 50) (hs : starEach [Expr.BinOp e .Add (.List [.Constant (.str (Str.ofString "/")) k p] lp) bp] env = (false, eval (Expr.BinOp e .Add (.List [.Constant (.str (Str.ofString "/")) k p] lp) bp) env) :: starEach [] env := by rfl) :
    EvL c env n σ [.BinOp e .Add (.List [.Constant (.str (Str.ofString "/")) k p] lp) bp] [rowD (ps ++ [[47]])] :=
  have hzl : sizeLine = 16777216 := rfl
  evL_cons (d := rowD (ps ++ [[47]])) (ev_cast (ev_add_list (xs := ps.map fun x => .str (st x)) (ys := [.str (st [47])]) h (ev_list (evL_cons ev_str evL_nil) (by simp [size_line])) (by simp; omega)) (by rw [rowD, List.map_append]; rfl)) evL_nil hs
noncomputable def refusedL : List Nat := [114, 101, 102, 117, 115, 101, 100]
theorem beside_refused {c : Cx} (i : Is c) {n : Nat} {ps : List (List Nat)} (hps : ∀ x ∈ ps, Asc x ∧ x.length ≤ 200) (hl50 : ps.length ≤ 50) {xr : List Nat} (hr : xr ∈ ps) (hr' : (xr.head? == some 47) = false)
    {A : Around} {S : Addr → Prop} {s : Shared} {vs : List Value} {outer : List Env} {B : Heap} {E : Value → Shared → Prop} {Q : Value → Shared → Prop}
    (room : Room A (n + 8)) (good : c.Good s.heap) (sb : SB S s.heap) (rv : RdAll c.P S s.heap vs [rowD ps]) (hfr : A.frames = some outer) (gB : c.Good B) (hB : B.StaysIn s.heap) (hl : s.heap.FunFrames B outer)
    (hQ : ∀ t h' tk, B.StaysIn h' → s.heap.UpToSlots h' → Q (.str (st refusedL) t) { s with heap := h', toks := tk }) : wpAny c.M A (call (.ref 198) vs) Q E s := by
  have D := defOk_K (f := 198) i rfl rfl rfl
  refine enter_def (n := n + 7) (names := [Str.ofString "paths"]) D (by decide) rfl (fun pm cd doc vs h => ?_) room good sb rv hfr gB hB hl (fun L cd s₂ bs a hx0 k0 hsame => ?_)
  · obtain ⟨a, rfl⟩ := len1 h; rfl
  clear D
  have hzl : sizeLine = 16777216 := rfl
  have pl := a.fm.fr.pl
  refine wpAny_execs_cons (wpAny_Try_except ?_)
  refine wpAny_execs_cons (wpAny_Return_some ?_)
  show wpAny _ _ (eval (.Name (Str.ofString "commonpath") _) _ >>= fun f => callWith _ f [] (backTo _ (starEach [_] _)) (backToKw _ (keywordEach [] _))) _ _ s₂
  refine wpAny_bind (wpAny_mono ((vG i pl rfl g_commonpath : EvV c _ (n + 7) _ (.Name (Str.ofString "commonpath") _) (.ref 127)) _ _ s₂ _ a.at) (fun v s₃ p₁ => ?_) fun _ _ x => x)
  obtain ⟨rfl, rfl⟩ := p₁
  obtain ⟨o, fd, ho, hfd⟩ := isDef_K (f := 127) i rfl rfl _ a.good.good
  refine Calls.callWith_function (o := o) (fd := fd) (evalArgs_plain (wpAny_mono ((arg_slash (ev_name (x := Str.ofString "paths") (σ := [Str.ofString "paths"].zip [rowD ps]) rfl) (by omega) : EvL c _ (n + 7) _ _ _) _ _ _ _ _ a.at) (fun vs s₃ p₂ => ?_) fun _ _ x => x))
  refine ⟨⟨Keeps.h p₂.1 _ _ ho, hfd⟩, ?_⟩
  have a₃ := a.keep p₂.1
  refine common_raises (n := n) i (xs := ps ++ [[47]]) (xa := [47]) (xr := xr) (fun x hx => ?_) (by simp; omega) (by simp) rfl (by simp [hr]) hr' a₃.room a₃.good.good a₃.sb p₂.2 bs.hfr gB (bs.stays (KeepS.of p₂.1)) (bs.frames (KeepS.of p₂.1) a₃) fun e2 a1 ctx h₄ tk₄ x₄ u₄ => ?_
  · rcases List.mem_append.mp hx with hx | hx
    · exact hps x hx
    · rw [List.mem_singleton.mp hx]; exact ⟨by intro y hy; rw [List.mem_singleton.mp hy]; decide, by decide⟩
  have fl₄ : Heap.FlyingW B (_ :: outer) e2 (.type "ValueError") a1 h₄ := ⟨x₄.1, x₄.2.1, x₄.2.2.1, x₄.traced⟩
  refine wpAny_looks_onW (s := { s₃ with heap := h₄, toks := tk₄ }) bs.hfr bs.hf fl₄ fun h₅ held₅ u₅ => ?_
  refine wpAny_landsW (s := { s₃ with heap := h₅, toks := tk₄ }) held₅ fun h₆ fl₆ u₆ => ?_
  obtain ⟨ob, hob, hcls⟩ := fl₆.there
  refine wpAny_handleBy_builtin (X := "ValueError") (T := "ValueError") (b := true) ve_exc ve_meta ve_self (vB_at (s := { s₃ with heap := h₆, toks := tk₄ }) i pl rfl g_ValueError Boot.«ValueError» (gB.keeps fl₆.1) ⟨rfl, ⟨ob, hob, hcls⟩, ?_⟩)
  rw [if_pos rfl]
  refine wpAny_setFlight_noneW (s := { s₃ with heap := h₆, toks := tk₄ }) fl₆.1 fl₆.2.2.1 fl₆.2.2.2.at fun h₇ k1 k2 k3 k4 => ?_
  refine wpAny_execs_cons (wpAny_Return_some (Constant_str ?_))
  obtain ⟨h₂, tk₂, rfl⟩ := hsame
  obtain ⟨h₃, tk₃, rfl, kb⟩ := p₂.1
  refine hQ _ h₇ _ k1 ?_
  refine (upTo_keep k0).trans ((upTo_keep kb).trans (u₄.trans (u₅.trans (u₆.trans fun b o hb hn => ⟨o.slots, k4 b o hb hn⟩))))
end Mine
end

section
open PySem PySem.W PySem.Calls PyProof.Rows PySem.Spec
set_option maxRecDepth 100000
namespace Mine
section
variable {P : Params}
theorem g_tableF : nsIn (kF P) mainGlobals (Str.ofString "_law_table") = some (some (.ref 151)) := by rfl
theorem g_read : nsIn (kF P) mainGlobals (Str.ofString "_law_read") = some (some (.ref 166)) := by rfl
theorem g_abs : nsIn (kF P) mainGlobals (Str.ofString "abs") = some none := by rfl
end
section
variable {c : Cx} {env : Env} {n : Nat} {σ : List (Str × PyData)} {A : Around} {s₀ : Shared} {Ψ : Flow → Shared → Prop} {E : Value → Shared → Prop}
-- statements run at one place
noncomputable def ExsA (c : Cx) (env : Env) (n : Nat) (A : Around) (s₀ : Shared) (E : Value → Shared → Prop) (Ψ : Flow → Shared → Prop) (stmts : List Stmt) (σ : List (Str × PyData)) : Prop :=
  ∀ S s, AtS c env n (FrA env) σ A S s → KeepS (FrA env) s₀ s → wpAny c.M A (execs stmts env) Ψ E s
theorem exsA_cons {st rest} (P : List (Str × PyData) → Prop) (h : Ex1 c env n σ st (fun o => ∃ σ', o = .next σ' ∧ P σ')) (k : ∀ σ', P σ' → ExsA c env n A s₀ E Ψ rest σ') : ExsA c env n A s₀ E Ψ (st :: rest) σ := fun S s a ks => by
  refine wpAny_execs_cons (wpAny_mono (h A S s E a) (fun f s₁ q => ?_) fun _ _ x => x)
  obtain ⟨k₁, q⟩ := q
  cases f with
  | next =>
    obtain ⟨σ', ⟨σ'', e, hP⟩, a'⟩ := q
    cases e
    exact k σ' hP S s₁ a' (ks.trans k₁)
  | brk => obtain ⟨σ', ⟨σ'', e, hP⟩, a'⟩ := q; cases e
  | cont => obtain ⟨σ', ⟨σ'', e, hP⟩, a'⟩ := q; cases e
  | ret v => obtain ⟨σ', ⟨σ'', e, hP⟩, a'⟩ := q; cases e
end
noncomputable def drawsOf (ns : List Int) : List Nat := if ns.take 10 = [] then [20, 13, 16, 19] else (ns.take 10).map fun x => x.natAbs % 37800
noncomputable def rootOf (a : Nat) : List Nat := List.replicate a 47
-- what the law asks of a table
structure LawOk (t : List Ent) (a : Nat) (ys : List (List Nat)) : Prop where
  t0 : 0 < t.length
  tok : TOk t
  tn : TN t
  pa : PA t
  a3 : a < 3
  ok : (mkT t 10 0 a).ok
  dep : (mkT t 10 0 a).dep ≤ 12
  lvl : (mkT t 10 0 a).leaves.length ≤ 1000
  al : Al ((mkT t 10 0 a).leaves.map (·.2)).flatten
  txl : ((mkT t 10 0 a).leaves.map (·.2)).flatten.length ≤ 1000
  lvw : ∀ x ∈ (mkT t 10 0 a).leaves, Asc x.2
  read : readN ((mkT t 10 0 a).leaves.map (·.2)).flatten.length ((mkT t 10 0 a).leaves.map (·.2)).flatten = (mkT t 10 0 a).leaves
  perm : ys.Perm (chsOf t)
  sorted : ys.Pairwise (· < ·)
  ysl : ys.length ≤ 10
  ys0 : ys ≠ []
  chs : ∀ ch ∈ ys, ch ≠ [] ∧ ch.length ≤ 10 ∧ ∀ i ∈ ch, i < t.length
  paths : (mkT t 10 0 a).paths [] = ys.map (told (rootOf a) t)
  pth : ∀ ch ∈ ys, Asc (told (rootOf a) t ch) ∧ (told (rootOf a) t ch).length ≤ 200 ∧ ((told (rootOf a) t ch).head? == some 47) = decide (a ≠ 0)
  split : ∀ ch ∈ ys, headP (told (rootOf a) t ch) = told (rootOf a) t ch.dropLast ∧ tailP (told (rootOf a) t ch) = (en t (ch.getLastD 0)).nm
  below : ∀ place, place < t.length → BelowOk (rootOf a) t ys (ys.map (told (rootOf a) t)) (decide (a ≠ 0)) place
theorem drawsOf_ok (ns : List Int) : (drawsOf ns).length ≤ 10 ∧ (∀ y ∈ drawsOf ns, y < 37800) ∧ drawsOf ns ≠ [] := by
  unfold drawsOf
  split
  · exact ⟨by decide, by decide, by decide⟩
  · rename_i h
    refine ⟨by simp; omega, fun y hy => ?_, by simpa using h⟩
    obtain ⟨x, _, rfl⟩ := List.mem_map.mp hy
    exact Nat.mod_lt _ (by decide)
theorem abs_mod (i : Int) : Int.fmod (if i < 0 then -i else i) 37800 = ((i.natAbs % 37800 : Nat) : Int) := by
  rw [Int.fmod_eq_emod_of_nonneg _ (by decide)]
  split <;> omega
section
variable {c : Cx} {env : Env} {n : Nat} {σ : List (Str × PyData)}
theorem replicate_asc (a : Nat) : Asc (List.replicate a 47) := fun x hx => by rw [List.eq_of_mem_replicate hx]; decide
end
end Mine
end

section
open PySem PySem.W PySem.Calls PyProof.Rows PySem.Spec
set_option maxRecDepth 100000
namespace Mine
theorem headP_mem {l : List Nat} {x : Nat} (h : x ∈ headP l) : x ∈ l := by
  unfold headP at h
  split at h
  · exact List.mem_of_mem_take h
  · unfold rstripS at h
    exact List.mem_of_mem_take (List.mem_of_mem_take h)
-- the frame behind a call whose exception was caught within
theorem at_after {c : Cx} {env : Env} {n : Nat} {σ : List (Str × PyData)} {A : Around} {S : Addr → Prop} {s : Shared} (a : AtS c env n (FrA env) σ A S s) (gB : c.Good (hideAll s.heap [env.locals])) {h' : Heap} {tk : Nat} (hB : (hideAll s.heap [env.locals]).StaysIn h') (u : s.heap.UpToSlots h') :
    At c env n σ A S { s with heap := h', toks := tk } := by
  have kp : ∀ b o, b ≠ env.locals → s.heap.get? b = some o → h'.get? b = some o := fun b o n e => hB b o (hideAll_get _ e (by simpa using n))
  obtain ⟨m, ns, hv⟩ := a.fm.fr.names
  refine ⟨a.room, gB.keeps hB, fun b q => ?_, a.fm.fr.pl, ⟨m, u.ns ns, fun x d e => ?_⟩, fun p hp => ?_, a.fm.fr.apart, a.fm.fr.loc⟩
  · obtain ⟨o, ho⟩ := a.sb b q
    by_cases e : b = env.locals
    · subst e
      obtain ⟨o', _, _, ho', _⟩ := u.ns ns
      exact ⟨o', ho'⟩
    · exact ⟨o, kp b o e ho⟩
  · obtain ⟨v, r, q⟩ := hv x d e
    refine ⟨v, r.move fun b o nb eb => ⟨nb, kp b o (fun z => nb (z ▸ a.fm.xs _ (.inl rfl))) eb⟩, q.imp id fun ⟨k, b, hb, o, ho, hd⟩ => ⟨k, b, hb, o, kp _ _ (a.fm.fr.loc _ (PySem.mem_of_lookup hb)) ho, hd⟩⟩
  · obtain ⟨o, ob, ho, hd⟩ := a.fm.fr.cells p hp
    exact ⟨o, ob, kp _ _ (a.fm.fr.loc p hp) ho, hd⟩
theorem good_hide {c : Cx} {env : Env} {n : Nat} {σ : List (Str × PyData)} {A : Around} {S : Addr → Prop} {s : Shared} (a : AtS c env n (FrA env) σ A S s) : c.Good (hideAll s.heap [env.locals]) := by
  obtain ⟨h₀, g, k, z⟩ := a.good
  exact g.keeps fun b o e => hideAll_get _ (k b o e) (by simp; rintro rfl; rw [z _ (.inl rfl)] at e; cases e)
set_option maxHeartbeats 8000000 in
theorem law_walk {c : Cx} (i : Is c) {ns : List Int} (hns : ns.length ≤ 63) {a : Nat} (ha : (drawsOf ns).headD 0 / 15 % 3 = a) {ys : List (List Nat)} (hL : LawOk (tabOf (drawsOf ns)) a ys)
    {A : Around} {S : Addr → Prop} {s : Shared} {vs : List Value} {E : Value → Shared → Prop} {Q : Value → Shared → Prop}
    (room : Room A 25) (good : c.Good s.heap) (sb : SB S s.heap) (rv : RdAll c.P S s.heap vs [.list (ns.map .int)]) (hfr : A.frames = some [])
    (hQ : ∀ s', Keeps s s' → Q (.bool true) s') : wpAny c.M A (call (.ref 203) vs) Q E s := by
  have D := defOk_K (f := 203) i rfl rfl rfl
  refine enter_def (n := 24) (B := s.heap) (names := [Str.ofString "script"]) D (by decide) rfl (fun pm cd doc vs h => ?_) room good sb rv hfr good (fun _ _ e => e) trivial (fun L cd s₂ bs a₀ hx0 k0 hsame => ?_)
  · obtain ⟨a, rfl⟩ := len1 h; rfl
  clear D
  have hzl : sizeLine = 16777216 := rfl
  obtain ⟨hdl, hdm, hd0⟩ := drawsOf_ok ns
  have htl := hL.tok.len
  have ht0 := hL.t0
  have ha3 := hL.a3
  refine (?_ : ExsA c _ 24 _ s₂ _ _ _ _) _ s₂ a₀ KeepS.refl
  refine exsA_cons (fun σ' => σ' = _) (ex_assign (d := intsD (drawsOf ns)) (ev_or2 (d₁ := .list ((ns.take 10).map fun x => .int ((x.natAbs % 37800 : Nat) : Int))) (ev_map (ds := ns.take 10) (dt := fun x => .int x) (f := fun x => .int ((x.natAbs % 37800 : Nat) : Int))
    (comp_name _ [] (evI_cast (evI_list (ev_slice_upto (k := 10) (ev_name rfl) ev_int (by decide) (by simp; omega))) (by rw [List.map_take]; rfl)) (by decide) rfl cap_nil (.inl rfl) rfl (by simp; omega) (fun C d _ => evTs_nil) fun C d hd _ => ev_cast (ev_mod_int (ev_abs (vB i ⟨rfl, rfl, rfl⟩ rfl g_abs Boot.«abs») (ev_name rfl)) ev_int (by decide)) (by rw [abs_mod]))) (by simp only [smallD, List.length_map, List.length_take]; omega) (fun h => ?_) (fun h => ?_)) (.inl rfl) ⟨_, rfl, rfl⟩) fun σ' e => ?_
  · have h' : ns.take 10 = [] := by
      simp only [truthD, Bool.not_eq_false', List.isEmpty_iff, List.map_eq_nil_iff] at h; exact h
    have : drawsOf ns = [20, 13, 16, 19] := by unfold drawsOf; rw [if_pos h']
    rw [this]
    exact ev_list (evL_cons ev_int (evL_cons ev_int (evL_cons ev_int (evL_cons ev_int evL_nil))))
  · have h' : ns.take 10 ≠ [] := by
      intro q; rw [q] at h; cases h
    unfold drawsOf intsD
    rw [if_neg h', List.map_map]; rfl
  subst e
  obtain ⟨y0, yr, hy0⟩ : ∃ y0 yr, drawsOf ns = y0 :: yr := by
    cases h : drawsOf ns with
    | nil => exact absurd h hd0
    | cons a b => exact ⟨a, b, rfl⟩
  have hy : y0 < 37800 := hdm y0 (by rw [hy0]; exact List.mem_cons_self)
  rw [hy0] at ha
  refine exsA_cons (fun σ' => σ' = _) (ex_assign (d := .int (a : Int)) (ev_cast (ev_modN (i := y0 / 15) (j := 3) (ev_divN (i := y0) (j := 15) (ev_item_list (k := 0) (xs := (drawsOf ns).map fun (i : Nat) => .int (i : Int)) (ev_name rfl) ev_int (by decide) (by rw [hy0]; rfl) (by decide)) ev_int (by decide) (by omega) (by decide)) ev_int (by decide)) (by rw [← ha]; rfl)) (.inl rfl) ⟨_, rfl, rfl⟩) fun σ' e => ?_
  subst e
  refine exsA_cons (fun σ' => σ' = _) (ex_assign (d := .str (st (rootOf a))) (ev_slashes (ev_name rfl) (by omega)) (.inr ⟨rfl, ⟨_, rfl⟩⟩) ⟨_, rfl, rfl⟩) fun σ' e => ?_
  subst e
  refine exsA_cons (fun σ' => σ' = _) (ex_assign (ev_call_def (vG i ⟨rfl, rfl, rfl⟩ rfl g_tableF) (isDef_K i rfl rfl) (evL_cons (ev_name rfl) evL_nil) (table_calls (n := 0) i hdl hdm).to (by omega)) (.inr ⟨rfl, ⟨_, rfl⟩⟩) ⟨_, rfl, rfl⟩) fun σ' e => ?_
  subst e
  generalize tabOf (drawsOf ns) = t at hL htl ht0 ⊢
  refine exsA_cons (fun σ' => σ' = _) (ex_assign (ev_call_def (vG i ⟨rfl, rfl, rfl⟩ rfl g_node) (isDef_K i rfl rfl) (evL_cons (ev_name rfl) (evL_cons ev_int (evL_cons (ev_name rfl) evL_nil))) (node_calls (n := 0) i hL.tok hL.tn 10 0 a (by omega) ht0 ha3).to (by omega)) (.inl rfl) ⟨_, rfl, rfl⟩) fun σ' e => ?_
  subst e
  have hLl := hL.lvl
  have hLok := hL.ok
  have hLd := hL.dep
  refine exsA_cons (fun σ' => σ' = _) (ex_assign (ev_call_def (vG i ⟨rfl, rfl, rfl⟩ rfl g_leaves) (isDef_K i rfl rfl) (evL_cons (ev_name rfl) evL_nil) (leaves_calls (n := 0) i 12 _ hLd hLok hLl).to (by omega)) (.inl rfl) ⟨_, rfl, rfl⟩) fun σ' e => ?_
  subst e
  have hrd := hL.read
  have hal := hL.al
  have htx := hL.txl
  have hlw := hL.lvw
  have hpt := hL.paths
  generalize hT : mkT t 10 0 a = T at hLl hLok hLd hrd hal htx hlw hpt ⊢
  have hTN : T.isN = true := by rw [← hT]; rfl
  have hokL : ∀ l : List (Nat × List Nat), (∀ x ∈ l, Asc x.2) → okD 2 (leavesD l) = true := fun l hl => by
    simp only [leavesD, okD, List.all_map, List.all_eq_true]
    intro x hx
    simp [leafD, okD, strOk_st (hl x hx)]
  refine exsA_cons (fun σ' => σ' = _) (ex_if (b := false) (evT_cmpIs (d₁ := leavesD T.leaves) (d₂ := leavesD T.leaves) ?_ (ev_name rfl) (cmp_neD (n := 2) (m := 2) (hokL _ hlw) (hokL _ hlw) (by simp))) (fun h => nomatch h) (fun _ => exs_nil ⟨_, rfl, rfl⟩)) fun σ' e => ?_
  · refine ev_cast (ev_call_def (vG i ⟨rfl, rfl, rfl⟩ rfl g_read) (isDef_K i rfl rfl) (evL_cons (d := .str (st (T.leaves.map (·.2)).flatten)) (ev_cast (ev_joinS (sep := []) (xs := T.leaves.map (·.2)) ev_str (ev_cast (ev_map (ds := T.leaves) (dt := leafD) (f := fun x => .str (st x.2))
      (comp_pair _ [] (evI_list (ev_name rfl)) (by decide) rfl cap_nil (.inl rfl) (.inl rfl) rfl rfl (by omega) (fun x => .int (x.1 : Int)) (fun x => .str (st x.2)) (fun x _ => rfl) (fun C d _ => evTs_nil) fun C d hd _ => ev_name rfl)) (by rw [List.map_map]; rfl)) ?_) (congrArg PyData.str (join_nil_st _))) evL_nil) (read_calls (n := 0) i hal htx).to (by omega)) (by rw [hrd])
    simp only [List.length_nil, Nat.mul_zero, Nat.add_zero]; rw [← List.length_flatten]; omega
  subst e
  refine exsA_cons (fun σ' => σ' = _) (ex_assign (ev_call_def (vG i ⟨rfl, rfl, rfl⟩ rfl g_chains) (isDef_K i rfl rfl) (evL_cons (ev_name rfl) evL_nil) (chains_calls (n := 0) i hL.tok hL.pa hL.perm hL.sorted).to (by omega)) (.inl rfl) ⟨_, rfl, rfl⟩) fun σ' e => ?_
  subst e
  have hyl := hL.ysl
  refine exsA_cons (fun σ' => σ' = _) (ex_assign (ev_cast (ev_call_def (vG i ⟨rfl, rfl, rfl⟩ rfl g_paths) (isDef_K i rfl rfl) (evL_cons (ev_name rfl) (evL_cons (d := .str (st [])) ev_str evL_nil)) (paths_calls (n := 0) i 12 T [] hLd (by omega) hTN hLok (by simp) (by rw [hpt, List.length_map]; omega)).to (by omega)) (by rw [hpt])) (.inl rfl) ⟨_, rfl, rfl⟩) fun σ' e => ?_
  subst e
  have hps : ∀ x ∈ ys.map (told (rootOf a) t), Asc x ∧ x.length ≤ 200 ∧ (x.head? == some 47) = decide (a ≠ 0) := fun x hx => by
    obtain ⟨ch, hc, rfl⟩ := List.mem_map.mp hx
    exact hL.pth ch hc
  have hrl : (rootOf a).length ≤ 2 := by simp [rootOf]; omega
  have hcs := hL.chs
  have hsp := hL.split
  have hokR : ∀ r : List (List Nat), (∀ x ∈ r, Asc x) → okD 1 (rowD r) = true := fun r hr => by
    simp only [rowD, okD, List.all_map, List.all_eq_true]
    intro x hx
    exact strOk_st (hr x hx)
  refine exsA_cons (fun σ' => σ' = _) (ex_if (b := false) (evT_cmpIs (d₁ := rowD (ys.map (told (rootOf a) t))) (d₂ := rowD (ys.map (told (rootOf a) t))) (ev_name rfl) ?_ (cmp_neD (n := 1) (m := 1) (hokR _ fun x hx => (hps x hx).1) (hokR _ fun x hx => (hps x hx).1) (by simp))) (fun h => nomatch h) (fun _ => exs_nil ⟨_, rfl, rfl⟩)) fun σ' e => ?_
  · exact ev_cast (ev_map (ds := ys) (dt := intsD) (f := fun ch => .str (st (told (rootOf a) t ch)))
      (comp_name _ [(Str.ofString "root", .str (st (rootOf a))), (Str.ofString "table", tblD t)] (evI_list (ev_name rfl)) (by decide) rfl (cap_cons rfl rfl rfl (fun _ => rfl) (cap_cons rfl rfl rfl (fun _ => rfl) cap_nil)) (.inl rfl) rfl (by omega) (fun C d _ => evTs_nil) fun C ch hc _ =>
        ev_call_def (vG i ⟨rfl, rfl, rfl⟩ rfl g_told') (isDef_K i rfl rfl) (evL_cons (ev_name rfl) (evL_cons (ev_name rfl) (evL_cons (ev_name rfl) evL_nil))) (told_calls (n := 0) i (hcs ch hc).2.2 hL.tok (hcs ch hc).2.1 hrl).to (by omega))) (by rw [rowD, List.map_map]; rfl)
  subst e
  have hal2 : ∀ ch ∈ ys, Asc (told (rootOf a) t ch.dropLast) ∧ Asc (en t (ch.getLastD 0)).nm := fun ch hc => by
    have h1 := (hL.pth ch hc).1
    obtain ⟨e1, e2⟩ := hsp ch hc
    exact ⟨e1 ▸ fun x hx => h1 x (headP_mem hx), e2 ▸ fun x hx => h1 x (List.mem_of_mem_drop hx)⟩
  have hok2 : okD 2 (.list (ys.map fun ch => .tuple [.str (st (told (rootOf a) t ch.dropLast)), .str (st (en t (ch.getLastD 0)).nm)])) = true := by
    simp only [okD, List.all_map, List.all_eq_true]
    intro ch hc
    show okD 1 (.tuple [.str (st (told (rootOf a) t ch.dropLast)), .str (st (en t (ch.getLastD 0)).nm)]) = true
    simp only [okD, List.all_cons, List.all_nil, Bool.and_true, strOk_st (hal2 ch hc).1, strOk_st (hal2 ch hc).2]
  refine exsA_cons (fun σ' => σ' = _) (ex_if (b := false) (evT_cmpIs (d₁ := .list (ys.map fun ch => .tuple [.str (st (told (rootOf a) t ch.dropLast)), .str (st (en t (ch.getLastD 0)).nm)])) (d₂ := .list (ys.map fun ch => .tuple [.str (st (told (rootOf a) t ch.dropLast)), .str (st (en t (ch.getLastD 0)).nm)])) ?_ ?_ (cmp_neD (n := 2) (m := 2) hok2 hok2 (by simp))) (fun h => nomatch h) (fun _ => exs_nil ⟨_, rfl, rfl⟩)) fun σ' e => ?_
  · refine ev_cast (ev_map (ds := ys.map (told (rootOf a) t)) (dt := fun x => .str (st x)) (f := fun x => .tuple [.str (st (headP x)), .str (st (tailP x))])
      (comp_name _ [] (evI_list (ev_name rfl)) (by decide) rfl cap_nil (.inl rfl) rfl (by rw [List.length_map]; omega) (fun C d _ => evTs_nil) fun C x hx _ =>
        ev_call_def (vG i ⟨rfl, rfl, rfl⟩ rfl g_split) (isDef_K i rfl rfl) (evL_cons (ev_name rfl) evL_nil) (split_calls (n := 0) i (by have := (hps x hx).2.1; omega) (hps x hx).1).to (by omega))) ?_
    rw [List.map_map]
    refine congrArg PyData.list (List.map_congr_left fun ch hc => ?_)
    obtain ⟨e1, e2⟩ := hsp ch hc
    simp only [Function.comp, e1, e2]
  · refine ev_map (ds := ys) (dt := intsD) (f := fun ch => .tuple [.str (st (told (rootOf a) t ch.dropLast)), .str (st (en t (ch.getLastD 0)).nm)])
      (comp_name _ [(Str.ofString "root", .str (st (rootOf a))), (Str.ofString "table", tblD t)] (evI_list (ev_name rfl)) (by decide) rfl (cap_cons rfl rfl rfl (fun _ => rfl) (cap_cons rfl rfl rfl (fun _ => rfl) cap_nil)) (.inl rfl) rfl (by omega) (fun C d _ => evTs_nil) fun C ch hc _ => ?_)
    obtain ⟨hc0, hc1, hc2⟩ := hcs ch hc
    have hlast : ch.getLast? = some (ch.getLastD 0) := by
      rw [List.getLastD_eq_getLast?, List.getLast?_eq_some_getLast hc0]; rfl
    have hlm : ch.getLastD 0 ∈ ch := List.mem_of_getLast? hlast
    refine ev_tuple (evL_cons (ev_call_def (vG i ⟨rfl, rfl, rfl⟩ rfl g_told') (isDef_K i rfl rfl) (evL_cons (ev_name rfl) (evL_cons (ev_name rfl) (evL_cons (d := intsD ch.dropLast) (ev_cast (ev_slice_butLast (ev_name rfl) (ev_neg ev_int) (by simp; omega)) (by rw [intsD, List.map_dropLast])) evL_nil)))
      (told_calls (n := 0) i (fun j hj => hc2 j (List.dropLast_subset _ hj)) hL.tok (by rw [List.length_dropLast]; omega) hrl).to (by omega)) (evL_cons (ev_nm (ev_ent (i := ch.getLastD 0) (ev_name rfl) (ev_item_last (ev_name rfl) (ev_neg ev_int) (by rw [List.getLast?_map, hlast]; rfl)) (hc2 _ hlm) (by omega))) evL_nil)) (by simp [size_line])
  subst e
  have hbel := hL.below
  have hroot : decide (rootOf a = []) = decide (a = 0) := by
    rw [decide_eq_decide]
    constructor
    · intro h; have := congrArg List.length h; simpa [rootOf] using this
    · rintro rfl; rfl
  intro S₁ s₃ a₃ k₃
  have pl := a₃.fm.fr.pl
  have fin : ∀ {s' : Shared}, Keeps s₃ s' → Keeps s s' := fun {s'} k => by
    obtain ⟨h₂, tk₂, rfl⟩ := hsame
    obtain ⟨h₃, tk₃, rfl, kb⟩ := k₃
    obtain ⟨h₄, tk₄, rfl, kh⟩ := k
    exact ⟨h₄, tk₄, rfl, fun b o e => kh b o (kb b o (fun q => by rw [hx0 b q] at e; cases e) (k0 b o e))⟩
  refine wpAny_execs_cons (wpAny_Return_some ?_)
  have hB : CallsTo c (.ref 191) 8 [.str (st (rootOf a)), tblD t, .list (ys.map intsD), rowD (ys.map (told (rootOf a) t))] (.bool true) :=
    (below_calls (n := 0) (b := decide (a ≠ 0)) i hL.tok hrl (replicate_asc a) hyl (fun ch hc => ⟨(hcs ch hc).2.1, (hcs ch hc).2.2⟩) (by rw [List.length_map]) hps hbel).to
  by_cases ha0 : a = 0
  · subst ha0
    refine BoolOp_and (wpAny_mono ((?_ : Ev c _ 24 _ _ (.bool true)) _ S₁ s₃ _ a₃.at) (fun v s₄ p => wpAny_mono (truthyR p.2 trivial) (fun b s₅ q => ?_) fun _ _ x => x) fun _ _ x => x)
    · exact ev_call_def (vG i pl rfl g_below) (isDef_K i rfl rfl) (evL_cons (ev_name rfl) (evL_cons (ev_name rfl) (evL_cons (ev_name rfl) (evL_cons (ev_name rfl) evL_nil)))) hB (by omega)
    obtain ⟨rfl, k₅⟩ := q
    simp only [truthD, if_true]
    have a₅ := (a₃.keep p.1).keep k₅
    refine BoolOp_one (wpAny_Compare1 ?_ (by with_unfolding_all rfl))
    show wpAny _ _ (eval (.Name (Str.ofString "_law_beside") _) _ >>= fun f => callWith _ f [] (backTo _ (starEach [_] _)) (backToKw _ (keywordEach [] _))) _ _ s₅
    refine wpAny_bind (wpAny_mono ((vG i pl rfl g_beside : EvV c _ 24 _ (.Name (Str.ofString "_law_beside") _) (.ref 198)) _ _ s₅ _ a₅.at) (fun v s₆ p₁ => ?_) fun _ _ x => x)
    obtain ⟨rfl, rfl⟩ := p₁
    obtain ⟨o, fd, ho, hfd⟩ := isDef_K (f := 198) i rfl rfl _ a₅.good.good
    refine Calls.callWith_function (o := o) (fd := fd) (evalArgs_plain (wpAny_mono ((?_ : EvL c _ 24 _ [.Name (Str.ofString "paths") ⟨259, 66, 259, 71⟩] [rowD (ys.map (told (rootOf 0) t))]) _ S₁ _ _ ⟨259, 54, 259, 72⟩ a₅.at) (fun vs s₇ p₂ => ?_) fun _ _ x => x))
    · exact evL_cons (ev_name rfl) evL_nil
    refine ⟨⟨Keeps.h p₂.1 _ _ ho, hfd⟩, ?_⟩
    have a₇ := a₅.keep p₂.1
    have gB := good_hide a₇
    obtain ⟨ch, yr', hys⟩ : ∃ ch yr', ys = ch :: yr' := by
      cases h : ys with
      | nil => exact absurd h hL.ys0
      | cons a b => exact ⟨a, b, rfl⟩
    have hcm : told (rootOf 0) t ch ∈ ys.map (told (rootOf 0) t) := List.mem_map_of_mem (by rw [hys]; exact List.mem_cons_self)
    obtain ⟨m, ns7, _⟩ := a₇.fm.fr.names
    have fin7 := fin (Keeps.trans' (Keeps.trans' p.1 k₅) p₂.1)
    refine beside_refused (n := 0) i (fun x hx => ⟨(hps x hx).1, (hps x hx).2.1⟩) (by rw [List.length_map]; omega) hcm (hps _ hcm).2.2 (a₇.room.le (by omega)) a₇.good.good a₇.sb p₂.2 bs.hfr gB (fun b o e => of_hideAll _ e) (Heap.FunFrames.cons bs.hk bs.hf ns7 (hideAll_none _ (by simp)) trivial) fun tk1 h' tk kB u => ?_
    have fin8 : Keeps s { s₇ with heap := h', toks := tk } := by
      obtain ⟨h₇, tk₇, rfl, kh⟩ := fin7
      refine ⟨h', tk, rfl, fun b o e => kB b o (hideAll_get _ (kh b o e) fun hm => ?_)⟩
      have := hx0 b (.inl (List.mem_singleton.mp hm))
      rw [this] at e; cases e
    have a₈ := at_after (tk := tk) a₇ gB kB u
    refine wpAny_mono ((?_ : Ev c _ 24 _ _ (.str (st refusedL))) _ S₁ _ _ a₈) (fun v₂ s₉ p₃ => ?_) fun _ _ x => x
    · exact ev_ifexp (b := false) (evT_cmpIs (ev_name rfl) ev_str (cmp_neD (n := 0) (m := 0) (d := .str (st [])) (e := .str (st [])) (strOk_st (l := []) fun _ h => nomatch h) (strOk_st (l := []) fun _ h => nomatch h) (by simp))) (fun h => nomatch h) (fun _ => ev_str)
    have hra : Asc refusedL := fun x hx => by simp [refusedL] at hx; omega
    refine wpAny_mono ((cmp_eqD (n := 0) (m := 0) (b := true) (strOk_st hra) (strOk_st hra) (by simp) : CmpIs c .Eq (.str (st refusedL)) (.str (st refusedL)) true) _ S₁ s₉ _ _ _ (by have := a₈.room.units; omega) (.str _ _) p₃.2) (fun v s₁₀ q => ?_) fun _ _ x => x
    obtain ⟨rfl, k10⟩ := q
    exact hQ _ (Keeps.trans' fin8 (Keeps.trans' p₃.1 k10))
  · have hpa : ∀ x ∈ ys.map (told (rootOf a) t), Asc x ∧ x.length ≤ 200 ∧ (x.head? == some 47) = true := fun x hx => by
      have := hps x hx
      rw [decide_eq_true ha0] at this; exact this
    refine wpAny_mono ((?_ : Ev c _ 24 _ _ (.bool true)) _ S₁ s₃ _ a₃.at) (fun v s₄ p => ?_) fun _ _ x => x
    · exact ev_and2 (d₁ := .bool true) (ev_call_def (vG i pl rfl g_below) (isDef_K i rfl rfl) (evL_cons (ev_name rfl) (evL_cons (ev_name rfl) (evL_cons (ev_name rfl) (evL_cons (ev_name rfl) evL_nil)))) hB (by omega)) trivial
        (fun _ => ev_cmpIs (d₁ := .str (st [47])) (d₂ := .str (st [47])) (ev_call_def (vG i pl rfl g_beside) (isDef_K i rfl rfl) (evL_cons (ev_name rfl) evL_nil) (beside_calls (n := 0) i hpa (by rw [List.length_map]; omega)).to (by omega))
          (ev_ifexp (b := true) (evT_cmpIs (ev_name rfl) ev_str (cmp_neD (n := 0) (m := 0) (e := .str (st [])) (strOk_st (replicate_asc a)) (strOk_st (l := []) fun _ h => nomatch h) (by
            simp only [true_iff]
            intro q
            have := st_inj (PyData.str.inj q)
            have := congrArg List.length this
            simp [rootOf] at this; omega))) (fun _ => ev_str) (fun h => nomatch h)) (cmp_eqD (n := 0) (m := 0) (strOk_st (replicate_asc 1)) (strOk_st (replicate_asc 1)) (by simp))) (fun h => nomatch h)
    · rw [p.2.bool_inv]
      exact hQ _ (fin p.1)
end Mine
end

section
open PySem PySem.W PySem.Calls PyProof.Rows PySem.Spec
set_option maxRecDepth 100000
namespace Mine
theorem rdInts {P : Params} {S : Addr → Prop} {h : Heap} : ∀ {vs : List Value} {ns : List Int}, IntsAre vs ns → RdAll P S h vs (ns.map .int)
  | _, _, .nil => .nil
  | _, _, .cons n t r => .cons (.int n t) (rdInts r)
section
variable {P : Params}
theorem g_law : nsIn (kF P) mainGlobals (Str.ofString "law") = some (some (.ref 203)) := by rfl
end
theorem is_of {w : World} {p : Program} {loose : List Str} {mean : ExcName → Option Value} {mg mb : Str → Option Value} {h : Heap} {pr : Program} (T : Top p loose mean mg mb h) (X : (kF w.params).In h) : Is ⟨pr, w, p, loose, mean, mg, mb, kF w.params⟩ :=
  ⟨rfl, fun x v e => mg_of X T.g e, fun x e => mg_none_of X T.g e⟩
set_option maxHeartbeats 4000000 in
theorem holds_of (H : ∀ ns : List Int, ns.length ≤ 63 → ∃ ys, LawOk (tabOf (drawsOf ns)) ((drawsOf ns).headD 0 / 15 % 3) ys) : PySem.Challenge.rw_pd0017_01.Holds := by
  refine head_of rfl ?_
  intro w s₀ s₁ mg mb G Y fa o pm cd doc dV kV ho hd' hcd hD hmg hg args vals as hpre hlay hrd hwl hlo
  have KX := kIn_of Y
  clear Y
  clear hd' hcd hD
  wrow_args hpre hlay hrd hwl hlo
  rename_i ns hs hlay0 hL1 hr1 hl2 a4 a3 l vs a5 hl ra w1 r0 hI hr hcond _
  have GT := G.T
  have hfa : fa = 203 := by
    have h1 := mg_of KX GT.g (g_law (P := w.params))
    have h2 : mg (Str.ofString "law") = some (Value.ref fa) := hmg
    rw [h1] at h2
    injection h2 with h2
    injection h2 with h2
    exact h2.symm
  subst hfa
  have hn : ns.length ≤ 63 := by omega
  obtain ⟨ys, hL⟩ := H ns hn
  refine law_walk (is_of (pr := PySem.Challenge.rw_pd0017_01.row.prog) GT KX) hn rfl hL (S := fun _ => False) ?_ ⟨GT, KX⟩ ?_ ?_ rfl fun s' k => ?_
  · exact ⟨rfl, by decide, by decide⟩
  · exact fun _ q => q.elim
  · obtain ⟨o, ho, hc, n, hdt⟩ := hl
    exact .cons (.list (fun q => q) ho hc hdt (rdInts hI)) .nil
  · obtain ⟨h', tk, rfl, kh⟩ := k
    exact GoodW.toG ⟨.inl ⟨_, .bool true, [], rfl, fun _ => rfl, .bool true, by wrow_post, unshared_nil⟩, kh, rfl, hg⟩
end Mine
end

section
open PySem PySem.W PySem.Calls PyProof.Rows PySem.Spec
set_option maxRecDepth 100000
namespace Mine
-- a table, as the draws make it
structure TabOk (t : List Ent) : Prop where
  t0 : 0 < t.length
  tok : TOk t
  tn : TN t
  pa : PA t
theorem nmOf_mem (k : Nat) (h : k < 5) : nmOf k ∈ nmL.map (·.1) := by
  match k, h with
  | 0, _ => decide
  | 1, _ => decide
  | 2, _ => decide
  | 3, _ => decide
  | 4, _ => decide
theorem nm_cases {x : List Nat} (h : x ∈ nmL.map (·.1)) : x = [97] ∨ x = [98] ∨ x = [46] ∨ x = [46, 46] ∨ x = [46, 46, 46] := by
  simpa only [nmL, List.map_cons, List.map_nil, List.mem_cons, List.not_mem_nil, or_false] using h
theorem tabOf_len (ds : List Nat) : (tabOf ds).length = ds.length := by simp [tabOf]
theorem tabOf_mem {ds : List Nat} {e : Ent} (h : e ∈ tabOf ds) : ∃ y i, e = entOf y i := by
  obtain ⟨p, _, rfl⟩ := List.mem_map.mp h
  exact ⟨_, _, rfl⟩
theorem tabOf_en {ds : List Nat} {i : Nat} (h : i < ds.length) : ∃ y, en (tabOf ds) i = entOf y i := by
  refine ⟨ds[i], ?_⟩
  unfold en
  rw [List.getD_eq_getElem?_getD, tabOf, List.getElem?_map, List.getElem?_zipIdx, List.getElem?_eq_getElem h]
  simp
theorem tabOf_ok {ds : List Nat} (h : ds.length ≤ 10) (h0 : ds ≠ []) : TabOk (tabOf ds) where
  t0 := by rw [tabOf_len]; exact List.length_pos_iff.mpr h0
  tok := {
    nm := fun e he => by
      obtain ⟨y, i, rfl⟩ := tabOf_mem he
      have := nm_cases (nmOf_mem (y % 5) (Nat.mod_lt _ (by decide)))
      show (nmOf (y % 5)).length ≤ 3 ∧ ∀ x ∈ nmOf (y % 5), x < 128
      rcases this with h | h | h | h | h <;> rw [h] <;> decide
    sl := fun e he => by
      obtain ⟨y, i, rfl⟩ := tabOf_mem he
      exact Nat.mod_lt _ (by decide)
    len := by rw [tabOf_len]; exact h }
  tn := fun e he => by
    obtain ⟨y, i, rfl⟩ := tabOf_mem he
    exact nmOf_mem _ (Nat.mod_lt _ (by decide))
  pa := fun i h0 hi => by
    rw [tabOf_len] at hi
    obtain ⟨y, e⟩ := tabOf_en hi
    rw [e]
    show y / 15 % max 1 i < i
    have : max 1 i = i := by omega
    rw [this]
    exact Nat.mod_lt _ h0
section
variable {t : List Ent}
theorem TabOk.name (h : TabOk t) {i : Nat} (hi : i < t.length) : (en t i).nm = [97] ∨ (en t i).nm = [98] ∨ (en t i).nm = [46] ∨ (en t i).nm = [46, 46] ∨ (en t i).nm = [46, 46, 46] := nm_cases (h.tn _ (en_mem hi))
theorem TabOk.no47 (h : TabOk t) {i : Nat} (hi : i < t.length) : 47 ∉ (en t i).nm := by
  rcases h.name hi with q | q | q | q | q <;> rw [q] <;> decide
theorem TabOk.nm0 (h : TabOk t) {i : Nat} (hi : i < t.length) : (en t i).nm ≠ [] := by
  rcases h.name hi with q | q | q | q | q <;> rw [q] <;> decide

-- the way down
noncomputable def Rl (t : List Ent) (i j : Nat) : Prop := j < t.length ∧ i < j ∧ (en t j).pa = i
theorem mem_kids {i k : Nat} : k ∈ kidsOf t i ↔ Rl t i k := by
  constructor
  · intro h
    have h1 := kids_gt h
    have h2 := (List.mem_filter.mp h).2
    exact ⟨h1.2, h1.1, by simpa using h2⟩
  · rintro ⟨h1, h2, h3⟩
    refine List.mem_filter.mpr ⟨List.mem_map.mpr ⟨k - (i + 1), List.mem_range.mpr (by omega), by omega⟩, by simpa using h3⟩
theorem kids_sorted (i : Nat) : (kidsOf t i).Pairwise (· < ·) := by
  unfold kidsOf
  refine List.Pairwise.filter _ (List.Pairwise.map _ (fun a b h => ?_) List.pairwise_lt_range)
  omega
theorem kids1_iff (h : TabOk t) (i : Nat) : kids1 t i = [] ↔ kidsOf t i = [] := by
  rw [List.eq_nil_iff_forall_not_mem, List.eq_nil_iff_forall_not_mem]
  have key : ∀ k, k ∈ kids1 t i ↔ k ∈ kidsOf t i := fun k => by
    rw [mem_kids]
    constructor
    · intro q
      obtain ⟨q1, q2⟩ := List.mem_filter.mp q
      obtain ⟨j, hj, rfl⟩ := List.mem_map.mp q1
      have hj := List.mem_range.mp hj
      have q2 : (en t (1 + j)).pa = i := by simpa using q2
      have := h.pa (1 + j) (by omega) (by omega)
      exact ⟨by omega, by omega, q2⟩
    · rintro ⟨h1, h2, h3⟩
      exact List.mem_filter.mpr ⟨List.mem_map.mpr ⟨k - 1, List.mem_range.mpr (by omega), by omega⟩, by simpa using h3⟩
  constructor
  · intro q k; rw [← key]; exact q k
  · intro q k; rw [key]; exact q k

-- a way down
noncomputable def Way (t : List Ent) : List Nat → Prop
  | i :: j :: r => Rl t i j ∧ Way t (j :: r)
  | _ => True
-- the ways down from a place to the places that q marks
noncomputable def dG (t : List Ent) (q : Nat → Bool) : Nat → Nat → List (List Nat)
  | 0, _ => []
  | f + 1, p => (if q p then [[p]] else []) ++ (kidsOf t p).flatMap fun k => (dG t q f k).map (p :: ·)
theorem dG_head {q : Nat → Bool} : ∀ {f p s}, s ∈ dG t q f p → ∃ r, s = p :: r
  | 0, _, _, h => nomatch h
  | f + 1, p, s, h => by
    rw [dG, List.mem_append] at h
    rcases h with h | h
    · split at h
      · exact ⟨[], List.mem_singleton.mp h⟩
      · cases h
    · obtain ⟨k, _, h⟩ := List.mem_flatMap.mp h
      obtain ⟨r, _, rfl⟩ := List.mem_map.mp h
      exact ⟨r, rfl⟩
theorem dG_sorted {q : Nat → Bool} : ∀ f p, (dG t q f p).Pairwise (· < ·)
  | 0, _ => List.Pairwise.nil
  | f + 1, p => by
    rw [dG, List.pairwise_append]
    refine ⟨by split <;> simp, ?_, ?_⟩
    · rw [List.pairwise_flatMap]
      refine ⟨fun k hk => ?_, ?_⟩
      · refine List.Pairwise.map _ (fun a b h => ?_) (dG_sorted f k)
        rw [List.cons_lt_cons_iff]; exact .inr ⟨rfl, h⟩
      · refine (kids_sorted p).imp fun {k k'} hkk x hx y hy => ?_
        obtain ⟨a, ha, rfl⟩ := List.mem_map.mp hx
        obtain ⟨b, hb, rfl⟩ := List.mem_map.mp hy
        obtain ⟨a', rfl⟩ := dG_head ha
        obtain ⟨b', rfl⟩ := dG_head hb
        rw [List.cons_lt_cons_iff]; refine .inr ⟨rfl, ?_⟩
        rw [List.cons_lt_cons_iff]; exact .inl hkk
    · intro x hx y hy
      split at hx
      · obtain rfl := List.mem_singleton.mp hx
        obtain ⟨k, _, hy⟩ := List.mem_flatMap.mp hy
        obtain ⟨b, hb, rfl⟩ := List.mem_map.mp hy
        obtain ⟨b', rfl⟩ := dG_head hb
        rw [List.cons_lt_cons_iff]; exact .inr ⟨rfl, by simp⟩
      · cases hx
theorem dG_mem {q : Nat → Bool} : ∀ {f p s}, t.length ≤ f + p → p < t.length → (s ∈ dG t q f p ↔ (∃ r, s = p :: r) ∧ Way t s ∧ q (s.getLastD 0) = true)
  | 0, p, s, hf, hp => by omega
  | f + 1, p, s, hf, hp => by
    rw [dG, List.mem_append]
    constructor
    · rintro (h | h)
      · split at h
        · rename_i hq
          obtain rfl := List.mem_singleton.mp h
          exact ⟨⟨[], rfl⟩, trivial, hq⟩
        · cases h
      · obtain ⟨k, hk, h⟩ := List.mem_flatMap.mp h
        obtain ⟨r, hr, rfl⟩ := List.mem_map.mp h
        have hkk := mem_kids.mp hk
        obtain ⟨⟨r', rfl⟩, h2, h3⟩ := (dG_mem (f := f) (p := k) (by have := hkk.2.1; omega) hkk.1).mp hr
        refine ⟨⟨_, rfl⟩, ⟨hkk, h2⟩, ?_⟩
        simpa only [List.getLastD_cons] using h3
    · rintro ⟨⟨r, rfl⟩, h2, h3⟩
      cases r with
      | nil =>
        refine .inl ?_
        have h3 : q p = true := h3
        rw [if_pos h3]; exact List.mem_singleton.mpr rfl
      | cons k r =>
        obtain ⟨hkk, h2⟩ := h2
        refine .inr (List.mem_flatMap.mpr ⟨k, mem_kids.mpr hkk, List.mem_map.mpr ⟨k :: r, (dG_mem (f := f) (p := k) (by have := hkk.2.1; omega) hkk.1).mpr ⟨⟨r, rfl⟩, h2, ?_⟩, rfl⟩⟩)
        simpa only [List.getLastD_cons] using h3
end
end Mine
end

section
open PySem PySem.W PySem.Calls PyProof.Rows PySem.Spec
set_option maxRecDepth 100000
namespace Mine
section
variable {t : List Ent}
theorem way_app : ∀ {a : List Nat} {p : Nat} {b : List Nat}, Way t (a ++ p :: b) ↔ Way t (a ++ [p]) ∧ Way t (p :: b)
  | [], p, b => by simp [Way]
  | [i], p, b => by
    show (Rl t i p ∧ Way t (p :: b)) ↔ (Rl t i p ∧ True) ∧ _
    simp
  | i :: j :: a, p, b => by
    show (Rl t i j ∧ Way t (j :: a ++ p :: b)) ↔ (Rl t i j ∧ Way t (j :: a ++ [p])) ∧ _
    rw [way_app (a := j :: a), and_assoc]
theorem snoc_of {α : Type} {s : List α} (h : s ≠ []) : ∃ c p, s = c ++ [p] := ⟨s.dropLast, s.getLast h, (List.dropLast_concat_getLast h).symm⟩
theorem chF_snoc : ∀ f p, ∃ c, chF t f p = c ++ [p]
  | 0, p => ⟨[], rfl⟩
  | f + 1, p => by
    rw [chF]; split
    · rename_i h; exact ⟨[], by rw [h]; rfl⟩
    · exact ⟨_, rfl⟩
theorem chF_last (f p : Nat) : (chF t f p).getLastD 0 = p := by
  obtain ⟨c, e⟩ := chF_snoc (t := t) f p
  rw [e, List.getLastD_concat]
theorem chF_of_way : ∀ {f : Nat} {s : List Nat} {p : Nat}, Way t (s ++ [p]) → (s ++ [p]).head? = some 0 → p ≤ f → s ++ [p] = chF t f p
  | f, s, p, hw, hh, hp => by
    by_cases hs : s = []
    · subst hs
      have : p = 0 := by simpa using hh
      subst this
      cases f with
      | zero => rfl
      | succ f => rw [chF, if_pos rfl]; rfl
    · obtain ⟨c, q, rfl⟩ := snoc_of hs
      have hw' : Way t (c ++ q :: [p]) := by simpa using hw
      obtain ⟨h1, h2⟩ := way_app.mp hw'
      have h3 : Rl t q p := h2.1
      obtain ⟨h4, h5, h6⟩ := h3
      cases f with
      | zero => omega
      | succ f =>
        rw [chF, if_neg (by omega), h6, ← chF_of_way (f := f) h1 (by rw [← hh]; cases c <;> rfl) (by omega)]
theorem chF_way (h : TabOk t) : ∀ f p, p < t.length → p ≤ f → Way t (chF t f p) ∧ (chF t f p).head? = some 0
  | 0, p, hp, hf => by
    obtain rfl : p = 0 := by omega
    exact ⟨trivial, rfl⟩
  | f + 1, p, hp, hf => by
    rw [chF]
    split
    · exact ⟨trivial, rfl⟩
    · rename_i h0
      have hpa := h.pa p (by omega) hp
      obtain ⟨h1, h2⟩ := chF_way h f (en t p).pa (by omega) (by omega)
      obtain ⟨c, e⟩ := chF_snoc (t := t) f (en t p).pa
      rw [e] at h1 h2 ⊢
      refine ⟨?_, ?_⟩
      · rw [List.append_assoc]
        exact way_app.mpr ⟨h1, ⟨hp, hpa, rfl⟩, trivial⟩
      · rw [← h2]; cases c <;> rfl
theorem way_lt : ∀ {s : List Nat}, Way t s → (∀ p, s.head? = some p → p < t.length) → ∀ i ∈ s, i < t.length
  | [], _, _, i, hi => by cases hi
  | [p], _, hh, i, hi => by
    obtain rfl := List.mem_singleton.mp hi
    exact hh _ rfl
  | p :: k :: r, hw, hh, i, hi => by
    rcases List.mem_cons.mp hi with rfl | hi
    · exact hh _ rfl
    · exact way_lt (s := k :: r) hw.2 (fun q hq => by cases hq; exact hw.1.1) i hi
-- the ways from the top are the chains
theorem dG_perm (h : TabOk t) (q : Nat → Bool) : (dG t q 10 0).Perm (((List.range t.length).filter q).map fun p => chF t p p) := by
  have hl := h.tok.len
  have h0 := h.t0
  refine (List.perm_ext_iff_of_nodup ?_ ?_).mpr fun s => ?_
  · refine List.Pairwise.imp (R := (· < ·)) (fun {a b} (hab : a < b) => ?_) (dG_sorted 10 0)
    intro e
    subst e
    exact List.lt_irrefl _ hab
  · refine List.Pairwise.map _ (fun a b hab e => hab ?_) (List.Pairwise.filter _ List.nodup_range)
    have := congrArg (fun l => l.getLastD 0) e
    simpa only [chF_last] using this
  · rw [dG_mem (by omega) h0, List.mem_map]
    constructor
    · rintro ⟨⟨r, rfl⟩, hw, hq⟩
      obtain ⟨c, p, e⟩ := snoc_of (s := 0 :: r) (by simp)
      rw [e] at hw hq
      rw [List.getLastD_concat] at hq
      have hp : p < t.length := way_lt hw (fun q hq => by rw [← e] at hq; cases hq; exact h0) p (by simp)
      refine ⟨p, List.mem_filter.mpr ⟨List.mem_range.mpr hp, hq⟩, ?_⟩
      rw [e]
      exact (chF_of_way hw (by rw [← e]; rfl) (Nat.le_refl _)).symm
    · rintro ⟨p, hp, rfl⟩
      obtain ⟨hp, hq⟩ := List.mem_filter.mp hp
      obtain ⟨h1, h2⟩ := chF_way h p p (List.mem_range.mp hp) (Nat.le_refl _)
      refine ⟨?_, h1, by rw [chF_last]; exact hq⟩
      cases hc : chF t p p with
      | nil => rw [hc] at h2; cases h2
      | cons a r => rw [hc] at h2; cases h2; exact ⟨r, rfl⟩
-- the places without children
noncomputable def lf (t : List Ent) (p : Nat) : Bool := decide (kidsOf t p = [])
-- the chains in order
noncomputable def ysOf (t : List Ent) : List (List Nat) := dG t (lf t) 10 0
theorem ysOf_perm (h : TabOk t) : (ysOf t).Perm (chsOf t) := by
  refine (dG_perm h (lf t)).trans (.of_eq ?_)
  unfold chsOf
  congr 1
  refine List.filter_congr fun p _ => ?_
  unfold lf
  rw [decide_eq_decide]
  exact (kids1_iff h p).symm
theorem ysOf_sorted : (ysOf t).Pairwise (· < ·) := dG_sorted 10 0
theorem dG_len (h : TabOk t) (q : Nat → Bool) : (dG t q 10 0).length ≤ 10 := by
  rw [(dG_perm h q).length_eq, List.length_map]
  have h1 := List.length_filter_le q (List.range t.length)
  have h2 := h.tok.len
  rw [List.length_range] at h1
  omega
theorem ysOf_mem (h : TabOk t) {s : List Nat} (hs : s ∈ ysOf t) : ∃ p, p < t.length ∧ s = chF t p p ∧ Way t s ∧ s.head? = some 0 := by
  have := (dG_perm h (lf t)).mem_iff.mp hs
  obtain ⟨p, hp, rfl⟩ := List.mem_map.mp this
  have hp := List.mem_range.mp (List.mem_filter.mp hp).1
  obtain ⟨h1, h2⟩ := chF_way h p p hp (Nat.le_refl _)
  exact ⟨p, hp, rfl, h1, h2⟩
theorem ysOf_chs (h : TabOk t) : ∀ ch ∈ ysOf t, ch ≠ [] ∧ ch.length ≤ 10 ∧ ∀ i ∈ ch, i < t.length := fun ch hc => by
  obtain ⟨p, hp, e, hw, hh⟩ := ysOf_mem h hc
  refine ⟨(fun q => by rw [q] at hh; cases hh), ?_, way_lt hw fun q hq => ?_⟩
  · have := chF_len t p p
    have := h.tok.len
    rw [e]; omega
  · rw [hh] at hq; cases hq; exact h.t0
theorem dG_ne : ∀ f p, t.length ≤ f + p → p < t.length → dG t (lf t) f p ≠ []
  | 0, p, hf, hp => by omega
  | f + 1, p, hf, hp => by
    rw [dG]
    by_cases hk : kidsOf t p = []
    · rw [if_pos (by unfold lf; exact decide_eq_true hk)]; simp
    · obtain ⟨k, hk⟩ := List.exists_mem_of_ne_nil _ hk
      have hkk := mem_kids.mp hk
      obtain ⟨s, hs⟩ := List.exists_mem_of_ne_nil _ (dG_ne f k (by have := hkk.2.1; omega) hkk.1)
      refine List.ne_nil_of_mem (a := p :: s) (List.mem_append_right _ (List.mem_flatMap.mpr ⟨k, hk, List.mem_map_of_mem hs⟩))
theorem ysOf_below (h : TabOk t) {p : Nat} (hp : p < t.length) : ∃ ch ∈ ysOf t, p ∈ ch := by
  have hl := h.tok.len
  obtain ⟨s, hs⟩ := List.exists_mem_of_ne_nil _ (dG_ne 10 p (by omega) hp)
  obtain ⟨⟨r, rfl⟩, hw, hq⟩ := (dG_mem (by omega) hp).mp hs
  obtain ⟨h1, h2⟩ := chF_way h p p hp (Nat.le_refl _)
  obtain ⟨c, e⟩ := chF_snoc (t := t) p p
  rw [e] at h1 h2
  refine ⟨c ++ p :: r, (dG_mem (by omega) h.t0).mpr ⟨?_, way_app.mpr ⟨h1, hw⟩, ?_⟩, by simp⟩
  · cases c with
    | nil => cases h2; exact ⟨r, rfl⟩
    | cons a c => cases h2; exact ⟨_, rfl⟩
  · rw [← hq, List.getLastD_eq_getLast?, List.getLastD_eq_getLast?, List.getLast?_append, List.getLast?_eq_some_getLast (l := p :: r) (by simp)]
    rfl
theorem ysOf_ne (h : TabOk t) : ysOf t ≠ [] := by
  obtain ⟨ch, hc, _⟩ := ysOf_below h h.t0
  exact List.ne_nil_of_mem hc
end
end Mine
end

section
open PySem PySem.W PySem.Calls PyProof.Rows PySem.Spec
set_option maxRecDepth 100000
namespace Mine
section
variable {t : List Ent}
-- a name and the slashes behind it
noncomputable def bit (t : List Ent) (i : Nat) : List Nat := (en t i).nm ++ List.replicate (max 1 (en t i).sl) 47
noncomputable def bits (t : List Ent) (c : List Nat) : List Nat := (c.map (bit t)).flatten
theorem told_snoc (root c : List Nat) (p : Nat) : told root t (c ++ [p]) = root ++ bits t c ++ (en t p).nm := by
  unfold told bits
  rw [List.dropLast_concat, List.length_append]
  simp only [List.length_singleton, Nat.add_sub_cancel]
  rw [List.drop_left]
  simp only [List.map_cons, List.map_nil, List.flatten_cons, List.flatten_nil, List.append_nil]
  rfl
theorem told_nil (root : List Nat) : told root t [] = root := by simp [told]
theorem told_cons (root : List Nat) (p : Nat) {s : List Nat} (h : s ≠ []) : told root t (p :: s) = told (root ++ bit t p) t s := by
  obtain ⟨c, q, rfl⟩ := snoc_of h
  rw [← List.cons_append, told_snoc, told_snoc]
  simp [bits]
theorem told_one (root : List Nat) (p : Nat) : told root t [p] = root ++ (en t p).nm := by
  have := told_snoc (t := t) root [] p
  simpa [bits] using this
theorem bits_snoc (c : List Nat) (q : Nat) : bits t (c ++ [q]) = bits t c ++ bit t q := by simp [bits]

-- the parts of a told text
theorem compF_nil : compF [] = [] := by decide
theorem compF_rep (k : Nat) (x : List Nat) : compF (List.replicate k 47 ++ x) = compF x := by
  induction k with
  | zero => rfl
  | succ k ih =>
    rw [List.replicate_succ, List.cons_append]
    have := compF_app [] (List.replicate k 47 ++ x)
    rw [List.nil_append] at this
    rw [this, compF_nil, List.nil_append, ih]
theorem compF_name (h : TabOk t) {i : Nat} (hi : i < t.length) : compF (en t i).nm = if (en t i).nm = [46] then [] else [(en t i).nm] := by
  unfold compF
  rw [splitL_one (h.no47 hi)]
  have h0 := h.nm0 hi
  generalize (en t i).nm = x at h0 ⊢
  rw [List.filter_cons, List.filter_nil]
  by_cases hx : x = [46]
  · rw [if_pos hx]; subst hx; rfl
  · rw [if_neg hx, if_pos]
    simp [h0, hx]
theorem compF_bit (h : TabOk t) {i : Nat} (hi : i < t.length) (x : List Nat) : compF (bit t i ++ x) = compF (en t i).nm ++ compF x := by
  obtain ⟨k, hk⟩ : ∃ k, max 1 (en t i).sl = k + 1 := ⟨max 1 (en t i).sl - 1, by omega⟩
  unfold bit
  rw [hk, List.replicate_succ, List.append_assoc, List.cons_append, compF_app, compF_rep]
theorem namesOf_cons (i : Nat) (c : List Nat) : namesOf t (i :: c) = (if (en t i).nm = [46] then [] else [(en t i).nm]) ++ namesOf t c := by
  unfold namesOf
  rw [List.filter_cons]
  by_cases hx : (en t i).nm = [46]
  · rw [if_pos hx, if_neg (by simpa using hx)]; rfl
  · rw [if_neg hx, if_pos (by simpa using hx)]; rfl
theorem compF_bits (h : TabOk t) : ∀ {c : List Nat}, (∀ i ∈ c, i < t.length) → ∀ x, compF (bits t c ++ x) = namesOf t c ++ compF x
  | [], _, x => rfl
  | i :: c, hc, x => by
    have e : bits t (i :: c) = bit t i ++ bits t c := by simp [bits]
    have hi := hc i List.mem_cons_self
    rw [e, List.append_assoc, compF_bit h hi, compF_bits h (fun j hj => hc j (List.mem_cons_of_mem _ hj)), namesOf_cons, compF_name h hi, List.append_assoc]
theorem compF_told (h : TabOk t) (a : Nat) {ch : List Nat} (hc : ∀ i ∈ ch, i < t.length) (h0 : ch ≠ []) : compF (told (rootOf a) t ch) = namesOf t ch := by
  obtain ⟨c, p, rfl⟩ := snoc_of h0
  rw [told_snoc, rootOf, List.append_assoc, compF_rep, compF_bits h fun i hi => hc i (by simp [hi])]
  rw [compF_name h (hc p (by simp))]
  have e1 : namesOf t (c ++ [p]) = namesOf t c ++ namesOf t [p] := by unfold namesOf; simp
  rw [e1, namesOf_cons p []]
  simp [namesOf]

-- head and tail of a told text
theorem takeWhile_all {α : Type} {p : α → Bool} : ∀ {a b : List α}, (∀ x ∈ a, p x = true) → (∀ x, b.head? = some x → p x = false) → (a ++ b).takeWhile p = a
  | [], [], _, _ => rfl
  | [], y :: b, _, h => by
    rw [List.nil_append, List.takeWhile_cons, h y rfl]; rfl
  | x :: a, b, h, h' => by
    rw [List.cons_append, List.takeWhile_cons, if_pos (h x List.mem_cons_self), takeWhile_all (fun y hy => h y (List.mem_cons_of_mem _ hy)) h']
theorem cutP_app {H x : List Nat} (hx : 47 ∉ x) (hH : ∀ y, H.getLast? = some y → y = 47) : cutP (H ++ x) = H.length := by
  unfold cutP
  rw [List.reverse_append, takeWhile_all, List.length_append, List.length_reverse]
  · omega
  · intro y hy
    have : y ≠ 47 := fun e => hx (by rw [← e]; exact List.mem_reverse.mp hy)
    simpa using this
  · intro y hy
    rw [List.head?_reverse] at hy
    rw [hH y hy]; rfl
theorem rstripS_app {x : List Nat} (k : Nat) (hx : ∀ y, x.getLast? = some y → y ≠ 47) : rstripS (x ++ List.replicate k 47) = x := by
  unfold rstripS
  rw [List.reverse_append, List.reverse_replicate, takeWhile_all, List.length_append, List.length_replicate, Nat.add_sub_cancel, List.take_left]
  · intro y hy; rw [List.eq_of_mem_replicate hy]; rfl
  · intro y hy
    rw [List.head?_reverse] at hy
    simpa using hx y hy
theorem last_of_app {α : Type} {a b : List α} (h : b ≠ []) : (a ++ b).getLast? = b.getLast? := by
  rw [List.getLast?_append, List.getLast?_eq_some_getLast h]; rfl
theorem bit_last (i : Nat) : (bit t i).getLast? = some 47 := by
  obtain ⟨k, hk⟩ : ∃ k, max 1 (en t i).sl = k + 1 := ⟨max 1 (en t i).sl - 1, by omega⟩
  unfold bit
  rw [hk, List.replicate_succ', ← List.append_assoc, List.getLast?_concat]
theorem head_last (a : Nat) (c : List Nat) : ∀ y, (rootOf a ++ bits t c).getLast? = some y → y = 47 := fun y hy => by
  by_cases hc : c = []
  · subst hc
    have : y ∈ rootOf a := by
      have := List.mem_of_getLast? hy
      simpa [bits] using this
    exact List.eq_of_mem_replicate this
  · obtain ⟨c, q, rfl⟩ := snoc_of hc
    rw [bits_snoc, ← List.append_assoc, last_of_app, bit_last] at hy
    · cases hy; rfl
    · intro e; have := bit_last (t := t) q; rw [e] at this; cases this
theorem name_last (h : TabOk t) {i : Nat} (hi : i < t.length) (H : List Nat) : ∀ y, (H ++ (en t i).nm).getLast? = some y → y ≠ 47 := fun y hy => by
  rw [last_of_app (h.nm0 hi)] at hy
  exact fun e => h.no47 hi (e ▸ List.mem_of_getLast? hy)
theorem split_told (h : TabOk t) (a : Nat) {ch : List Nat} (hc : ∀ i ∈ ch, i < t.length) (h0 : ch ≠ []) :
    headP (told (rootOf a) t ch) = told (rootOf a) t ch.dropLast ∧ tailP (told (rootOf a) t ch) = (en t (ch.getLastD 0)).nm := by
  obtain ⟨c, p, rfl⟩ := snoc_of h0
  have hp := hc p (by simp)
  rw [told_snoc, List.dropLast_concat, List.getLastD_concat]
  have hcut := cutP_app (h.no47 hp) (head_last (t := t) a c)
  constructor
  · unfold headP
    rw [hcut, List.take_left]
    by_cases hcc : c = []
    · subst hcc
      rw [told_nil, if_pos]
      · simp [bits]
      · simp [bits, rootOf]
    · obtain ⟨c, q, rfl⟩ := snoc_of hcc
      have hq := hc q (by simp)
      rw [if_neg, told_snoc, bits_snoc, bit, ← List.append_assoc, ← List.append_assoc, rstripS_app _ (name_last h hq _)]
      intro e
      obtain ⟨y, hy⟩ := List.exists_mem_of_ne_nil _ (h.nm0 hq)
      have : y ∈ rootOf a ++ bits t (c ++ [q]) := by
        rw [bits_snoc]
        refine List.mem_append_right _ (List.mem_append_right _ (List.mem_append_left _ hy))
      rw [e] at this
      exact h.no47 hq ((List.eq_of_mem_replicate this) ▸ hy)
  · unfold tailP
    rw [hcut, List.drop_left]

-- signs, length, head
theorem bit_len (h : TabOk t) (i : Nat) : (bit t i).length ≤ 5 := by
  have h1 := h.tok.nm' i
  have h2 := h.tok.sl' i
  simp [bit]; omega
theorem bits_len (h : TabOk t) : ∀ c, (bits t c).length ≤ 5 * c.length
  | [] => by simp [bits]
  | i :: c => by
    have e : bits t (i :: c) = bit t i ++ bits t c := by simp [bits]
    have h1 := bit_len h i
    have h2 := bits_len h c
    rw [e, List.length_append, List.length_cons]; omega
theorem name_asc (h : TabOk t) {i : Nat} (hi : i < t.length) : Asc (en t i).nm := by
  rcases h.name hi with q | q | q | q | q <;> rw [q] <;> simp [Asc]
theorem bits_asc (h : TabOk t) {c : List Nat} (hc : ∀ i ∈ c, i < t.length) : Asc (bits t c) := fun x hx => by
  obtain ⟨l, hl, hx⟩ := List.mem_flatten.mp hx
  obtain ⟨i, hi, rfl⟩ := List.mem_map.mp hl
  rcases List.mem_append.mp hx with hx | hx
  · exact name_asc h (hc i hi) x hx
  · exact replicate_asc _ x hx
theorem told_head (h : TabOk t) (a : Nat) {ch : List Nat} (hc : ∀ i ∈ ch, i < t.length) (h0 : ch ≠ []) : ((told (rootOf a) t ch).head? == some 47) = decide (a ≠ 0) := by
  obtain ⟨c, p, rfl⟩ := snoc_of h0
  rw [told_snoc]
  cases a with
  | succ a => rfl
  | zero =>
    show ((bits t c ++ (en t p).nm).head? == some 47) = false
    have key : ∀ i, i < t.length → ∀ x, ((en t i).nm ++ x).head? ≠ some 47 := fun i hi x e => by
      cases hn : (en t i).nm with
      | nil => exact h.nm0 hi hn
      | cons y r =>
        rw [hn] at e
        have : y = 47 := by simpa using e
        exact h.no47 hi (by rw [hn, this]; exact List.mem_cons_self)
    cases c with
    | nil =>
      have := key p (hc p (by simp)) []
      simpa [bits] using this
    | cons i c =>
      have e : bits t (i :: c) ++ (en t p).nm = (en t i).nm ++ (List.replicate (max 1 (en t i).sl) 47 ++ (bits t c ++ (en t p).nm)) := by simp [bits, bit]
      have := key i (hc i (by simp)) (List.replicate (max 1 (en t i).sl) 47 ++ (bits t c ++ (en t p).nm))
      rw [e]
      simpa using this
theorem told_pth (h : TabOk t) {a : Nat} (ha : a < 3) {ch : List Nat} (hc : ∀ i ∈ ch, i < t.length) (h0 : ch ≠ []) (hl : ch.length ≤ 10) :
    Asc (told (rootOf a) t ch) ∧ (told (rootOf a) t ch).length ≤ 200 ∧ ((told (rootOf a) t ch).head? == some 47) = decide (a ≠ 0) := by
  refine ⟨?_, ?_, told_head h a hc h0⟩
  · obtain ⟨c, p, rfl⟩ := snoc_of h0
    rw [told_snoc]
    intro x hx
    rcases List.mem_append.mp hx with hx | hx
    · rcases List.mem_append.mp hx with hx | hx
      · exact replicate_asc _ x hx
      · exact bits_asc h (fun i hi => hc i (by simp [hi])) x hx
    · exact name_asc h (hc p (by simp)) x hx
  · obtain ⟨c, p, rfl⟩ := snoc_of h0
    rw [told_snoc]
    have h1 := bits_len h c
    have h2 := h.tok.nm' p
    simp only [List.length_append, List.length_singleton] at hl ⊢
    simp only [rootOf, List.length_replicate]
    omega
end
end Mine
end

section
open PySem PySem.W PySem.Calls PyProof.Rows PySem.Spec
set_option maxRecDepth 100000
namespace Mine
theorem names_tri : ∀ {a b : List Nat}, ¬ a < b → ¬ b < a → a = b
  | [], [], _, _ => rfl
  | [], y :: b, h, _ => absurd (by simp) h
  | x :: a, [], _, h => absurd (by simp) h
  | x :: a, y :: b, h, h' => by
    rw [List.cons_lt_cons_iff] at h h'
    have hxy : x = y := by omega
    subst hxy
    rw [names_tri (fun q => h (.inr ⟨rfl, q⟩)) fun q => h' (.inr ⟨rfl, q⟩)]
theorem com_between : ∀ {m M r : Row}, ¬ r < m → ¬ M < r → r.take (com m M).length = com m M
  | [], _, _, _, _ => by simp [com]
  | _ :: _, [], _, _, _ => by simp [com]
  | x :: m, y :: M, r, h, h' => by
    by_cases e : x = y
    · subst e
      rw [com, if_pos rfl]
      cases r with
      | nil => exact absurd (by simp) h
      | cons z r =>
        rw [List.cons_lt_cons_iff] at h h'
        have hz : z = x := names_tri (fun q => h (.inl q)) fun q => h' (.inl q)
        subst hz
        rw [List.length_cons, List.take_succ_cons, com_between (fun q => h (.inr ⟨rfl, q⟩)) fun q => h' (.inr ⟨rfl, q⟩)]
    · rw [com, if_neg e]; simp
theorem com_ge : ∀ {m M : Row} {k : Nat}, m.take k = M.take k → k ≤ m.length → k ≤ (com m M).length
  | _, _, 0, _, _ => Nat.zero_le _
  | [], _, k + 1, _, h => by simp at h
  | x :: m, [], k + 1, h, _ => by simp at h
  | x :: m, y :: M, k + 1, h, hk => by
    simp only [List.take_succ_cons, List.cons.injEq] at h
    rw [com, if_pos h.1, List.length_cons]
    have := com_ge h.2 (by simpa using hk)
    omega
theorem last_max : ∀ {l : List Nat} {x : Nat}, l.Pairwise (· < ·) → x ∈ l → (∀ y ∈ l, y ≤ x) → l.getLastD 0 = x
  | l, x, hp, hx, hm => by
    obtain ⟨c, p, rfl⟩ := snoc_of (List.ne_nil_of_mem hx)
    rw [List.getLastD_concat]
    have h1 := hm p (by simp)
    rcases List.mem_append.mp hx with hx | hx
    · have := (List.pairwise_append.mp hp).2.2 x hx p (by simp)
      omega
    · exact (List.mem_singleton.mp hx).symm
theorem alike_com {rows : List Row} (h0 : rows ≠ []) : com (minRow rows) (maxRow rows) = alike rows := by
  obtain ⟨r0, rest, rfl⟩ : ∃ r0 rest, rows = r0 :: rest := by
    cases rows with
    | nil => exact absurd rfl h0
    | cons a b => exact ⟨a, b, rfl⟩
  have hm := minRow_mem h0
  have hM := maxRow_mem h0
  have hlo : ∀ {r}, r ∈ r0 :: rest → ¬ r < minRow (r0 :: rest) := minRow_le
  have hhi : ∀ {r}, r ∈ r0 :: rest → ¬ maxRow (r0 :: rest) < r := maxRow_ge
  generalize minRow (r0 :: rest) = m at hm hlo ⊢
  generalize maxRow (r0 :: rest) = M at hM hhi ⊢
  have hr : ∀ r ∈ r0 :: rest, r.take (com m M).length = com m M := fun r q => com_between (hlo q) (hhi q)
  have h0' := hr r0 List.mem_cons_self
  have hle : (com m M).length ≤ r0.length := by
    have := congrArg List.length h0'
    rw [List.length_take] at this; omega
  have key : ((List.range (r0.length + 1)).filter fun k => (r0 :: rest).all fun r => decide (r.take k = r0.take k)).getLastD 0 = (com m M).length := by
    refine last_max (List.Pairwise.filter _ List.pairwise_lt_range) (List.mem_filter.mpr ⟨List.mem_range.mpr (by omega), ?_⟩) fun k hk => ?_
    · rw [List.all_eq_true]
      intro r q
      rw [h0', hr r q]; exact decide_eq_true rfl
    · obtain ⟨h1, h2⟩ := List.mem_filter.mp hk
      have h1 := List.mem_range.mp h1
      rw [List.all_eq_true] at h2
      have e1 : m.take k = r0.take k := of_decide_eq_true (h2 m hm)
      have e2 : M.take k = r0.take k := of_decide_eq_true (h2 M hM)
      refine com_ge (e1.trans e2.symm) ?_
      have := congrArg List.length e1
      rw [List.length_take, List.length_take] at this
      omega
  unfold alike
  rw [List.headD_cons, key, h0']
section
variable {t : List Ent}
theorem below_ok (h : TabOk t) {a : Nat} (ha : a < 3) {p : Nat} (hp : p < t.length) : BelowOk (rootOf a) t (ysOf t) ((ysOf t).map (told (rootOf a) t)) (decide (a ≠ 0)) p := by
  have hne : belowOf (ysOf t) p ≠ [] := by
    obtain ⟨ch, hc, hpc⟩ := ysOf_below h hp
    obtain ⟨k, hk, e⟩ := List.getElem_of_mem hc
    refine List.ne_nil_of_mem (a := k) (List.mem_filter.mpr ⟨List.mem_range.mpr hk, ?_⟩)
    rw [List.getD_eq_getElem?_getD, List.getElem?_eq_getElem hk, e]
    simpa using hpc
  refine ⟨hne, ?_⟩
  have hrows : rowsOf ((belowOf (ysOf t) p).map fun k => ((ysOf t).map (told (rootOf a) t)).getD k []) = (belowOf (ysOf t) p).map fun k => namesOf t ((ysOf t).getD k []) := by
    unfold rowsOf
    rw [List.map_map]
    refine List.map_congr_left fun k hk => ?_
    have hk := List.mem_range.mp (List.mem_filter.mp hk).1
    have hm := List.getElem_mem hk
    obtain ⟨h1, h2, h3⟩ := ysOf_chs h _ hm
    simp only [Function.comp, List.getD_eq_getElem?_getD, List.getElem?_map, List.getElem?_eq_getElem hk, Option.map_some, Option.getD_some]
    exact compF_told h a h3 h1
  unfold cpath
  rw [hrows, alike_com (by simpa using hne)]
  congr 1
  match a with
  | 0 => rfl
  | a + 1 => simp [rootOf]
end
end Mine
end

section
open PySem PySem.W PySem.Calls PyProof.Rows PySem.Spec
set_option maxRecDepth 100000
namespace Mine
noncomputable def sepT (g : Nat → Tr) : List Nat → List Tr
  | [] => []
  | [k] => [g k]
  | k :: l :: r => g k :: .leaf 12 [44] :: sepT g (l :: r)
theorem sepT_drop (g : Nat → Tr) : ∀ ks, (ks.flatMap fun k => [g k, Tr.leaf 12 [44]]).dropLast = sepT g ks
  | [] => rfl
  | [k] => rfl
  | k :: l :: r => by
    have ih := sepT_drop g (l :: r)
    rw [List.flatMap_cons, List.dropLast_append_of_ne_nil (by simp), ih]
    rfl
noncomputable def partsT (t : List Ent) (f p a : Nat) : List Tr :=
  if kidsOf t p = [] then slT a ++ nmT (en t p).nm
  else slT a ++ nmT (en t p).nm ++ slT (en t p).sl ++ [.leaf 25 [123]] ++ sepT (fun k => mkT t f k 0) (kidsOf t p) ++ [.leaf 26 [125]]
theorem mkT_succ (t : List Ent) (f p a : Nat) : mkT t (f + 1) p a = .node (partsT t f p a) := by
  rw [mkT, partsT]
  split
  · rfl
  · rename_i hk
    rw [List.dropLast_append_of_ne_nil, sepT_drop]
    intro e
    obtain ⟨k, hk⟩ := List.exists_mem_of_ne_nil _ hk
    have : Tr.leaf 12 [44] ∈ (kidsOf t p).flatMap fun k => [mkT t f k 0, Tr.leaf 12 [44]] := List.mem_flatMap.mpr ⟨k, hk, by simp⟩
    rw [e] at this; cases this
-- the tokens of a law's text
noncomputable def toks : List (Nat × List Nat) := [(17, [47]), (47, [47, 47]), (1, [97]), (1, [98]), (23, [46]), (52, [46, 46, 46]), (25, [123]), (26, [125]), (12, [44])]
noncomputable def isLf : Tr → Prop
  | .leaf k w => (k, w) ∈ toks
  | .node _ => False
theorem slT_lf (a : Nat) : ∀ p ∈ slT a, isLf p := by
  match a with
  | 0 => intro p hp; cases hp
  | 1 => intro p hp; obtain rfl := List.mem_singleton.mp hp; simp [isLf, toks]
  | _ + 2 => intro p hp; obtain rfl := List.mem_singleton.mp hp; simp [isLf, toks]
section
variable {t : List Ent}
theorem nmT_cases (h : TabOk t) {i : Nat} (hi : i < t.length) : nmT (en t i).nm = [.leaf 1 [97]] ∨ nmT (en t i).nm = [.leaf 1 [98]] ∨ nmT (en t i).nm = [.leaf 23 [46]] ∨ nmT (en t i).nm = [.leaf 23 [46], .leaf 23 [46]] ∨ nmT (en t i).nm = [.leaf 52 [46, 46, 46]] := by
  rcases h.name hi with q | q | q | q | q <;> rw [q]
  · exact .inl rfl
  · exact .inr (.inl rfl)
  · exact .inr (.inr (.inl rfl))
  · exact .inr (.inr (.inr (.inl rfl)))
  · exact .inr (.inr (.inr (.inr rfl)))
theorem nmT_lf (h : TabOk t) {i : Nat} (hi : i < t.length) : ∀ p ∈ nmT (en t i).nm, isLf p := by
  rcases nmT_cases h hi with q | q | q | q | q <;> rw [q] <;> simp [isLf, toks]
theorem wordsT_app (a b : List Tr) : wordsT (a ++ b) = wordsT a ++ wordsT b := by unfold wordsT; rw [List.filter_append, List.map_append]
theorem wordsT_sl {a : Nat} (ha : a < 3) : (wordsT (slT a)).flatten = List.replicate a 47 ∧ (wordsT (slT a)).length ≤ 1 := by
  match a, ha with
  | 0, _ => exact ⟨rfl, by decide⟩
  | 1, _ => exact ⟨rfl, by decide⟩
  | 2, _ => exact ⟨rfl, by decide⟩
theorem wordsT_nm (h : TabOk t) {i : Nat} (hi : i < t.length) : (wordsT (nmT (en t i).nm)).flatten = (en t i).nm ∧ (wordsT (nmT (en t i).nm)).length ≤ 2 := by
  rcases h.name hi with q | q | q | q | q <;> rw [q]
  · exact ⟨rfl, by decide⟩
  · exact ⟨rfl, by decide⟩
  · exact ⟨rfl, by decide⟩
  · exact ⟨rfl, by decide⟩
  · exact ⟨rfl, by decide⟩
theorem mkT_node (f p a : Nat) : ∃ ps, mkT t f p a = .node ps := by
  cases f with
  | zero => exact ⟨_, rfl⟩
  | succ f => exact ⟨_, mkT_succ t f p a⟩
theorem sepT_mem {g : Nat → Tr} {x : Tr} : ∀ {ks}, x ∈ sepT g ks → x = .leaf 12 [44] ∨ ∃ k ∈ ks, x = g k
  | [], h => by cases h
  | [k], h => .inr ⟨k, by simp, List.mem_singleton.mp h⟩
  | k :: l :: r, h => by
    rw [sepT] at h
    rcases List.mem_cons.mp h with h | h
    · exact .inr ⟨k, by simp, h⟩
    · rcases List.mem_cons.mp h with h | h
      · exact .inl h
      · rcases sepT_mem h with h | ⟨j, hj, h⟩
        · exact .inl h
        · exact .inr ⟨j, List.mem_cons_of_mem _ hj, h⟩
theorem sepT_has {g : Nat → Tr} : ∀ {ks : List Nat} {k}, k ∈ ks → g k ∈ sepT g ks
  | [], _, h => by cases h
  | [j], k, h => by obtain rfl := List.mem_singleton.mp h; exact List.mem_cons_self
  | j :: l :: r, k, h => by
    rw [sepT]
    rcases List.mem_cons.mp h with rfl | h
    · exact List.mem_cons_self
    · exact List.mem_cons_of_mem _ (List.mem_cons_of_mem _ (sepT_has h))
theorem sepT_len (g : Nat → Tr) : ∀ ks, (sepT g ks).length ≤ 2 * ks.length
  | [] => by simp [sepT]
  | [k] => by simp [sepT]
  | k :: l :: r => by
    have := sepT_len g (l :: r)
    rw [sepT]; simp at this ⊢; omega
theorem parts_mem {f p a : Nat} (h : TabOk t) (hp : p < t.length) {x : Tr} (hx : x ∈ partsT t f p a) : isLf x ∨ ∃ k ∈ kidsOf t p, x = mkT t f k 0 := by
  unfold partsT at hx
  split at hx
  · rcases List.mem_append.mp hx with hx | hx
    · exact .inl (slT_lf _ x hx)
    · exact .inl (nmT_lf h hp x hx)
  · simp only [List.mem_append, List.mem_singleton] at hx
    rcases hx with ((((hx | hx) | hx) | hx) | hx) | hx
    · exact .inl (slT_lf _ x hx)
    · exact .inl (nmT_lf h hp x hx)
    · exact .inl (slT_lf _ x hx)
    · subst hx; exact .inl (by simp [isLf, toks])
    · rcases sepT_mem hx with rfl | q
      · exact .inl (by simp [isLf, toks])
      · exact .inr q
    · subst hx; exact .inl (by simp [isLf, toks])
theorem wordsT_sep (f : Nat) (ks : List Nat) : wordsT (sepT (fun k => mkT t f k 0) ks) = [] := by
  unfold wordsT
  rw [List.map_eq_nil_iff, List.filter_eq_nil_iff]
  intro x hx
  rcases sepT_mem hx with rfl | ⟨k, _, rfl⟩
  · simp [Tr.isW]
  · obtain ⟨ps, e⟩ := mkT_node (t := t) f k 0
    rw [e]; simp [Tr.isW]
theorem words_parts {f p a : Nat} (h : TabOk t) (hp : p < t.length) (ha : a < 3) : (wordsT (partsT t f p a)).flatten = List.replicate a 47 ++ (en t p).nm ++ (if kidsOf t p = [] then [] else List.replicate (en t p).sl 47) ∧ (wordsT (partsT t f p a)).length ≤ 4 := by
  have h1 := wordsT_sl ha
  have h2 := wordsT_nm h hp
  have h3 := wordsT_sl (h.tok.sl' p)
  unfold partsT
  split
  · rw [wordsT_app, List.flatten_append, h1.1, h2.1, List.length_append]
    exact ⟨by simp, by omega⟩
  · have e1 : wordsT [Tr.leaf 25 [123]] = [] := by simp [wordsT, Tr.isW]
    have e2 : wordsT [Tr.leaf 26 [125]] = [] := by simp [wordsT, Tr.isW]
    simp only [wordsT_app, wordsT_sep, e1, e2, List.append_nil, List.flatten_append, List.length_append, h1.1, h2.1, h3.1]
    exact ⟨trivial, by omega⟩
theorem partsT_len {f p a : Nat} (h : TabOk t) (hp : p < t.length) : (partsT t f p a).length ≤ 30 := by
  have h1 := slT_len a
  have h2 := nm_len (h.tn _ (en_mem hp))
  have h3 := slT_len (en t p).sl
  have h4 := sepT_len (fun k => mkT t f k 0) (kidsOf t p)
  have h5 : (kidsOf t p).length ≤ 10 := by
    unfold kidsOf
    have := List.length_filter_le (fun k => (en t k).pa == p) ((List.range (t.length - (p + 1))).map fun j => p + 1 + j)
    rw [List.length_map, List.length_range] at this
    have := h.tok.len
    omega
  unfold partsT
  split
  · simp only [List.length_append]; omega
  · simp only [List.length_append, List.length_singleton]; omega
theorem lf_ok {x : Tr} (h : isLf x) : x.ok ∧ x.dep = 0 := by
  cases x with
  | node ps => cases h
  | leaf k w =>
    simp only [isLf, toks, List.mem_cons, List.not_mem_nil, or_false, Prod.mk.injEq] at h
    rw [Tr.ok, Tr.dep]
    rcases h with h | h | h | h | h | h | h | h | h <;> obtain ⟨rfl, rfl⟩ := h <;> simp [Asc]
theorem mkT_ok (h : TabOk t) : ∀ f p a, p < t.length → a < 3 → (mkT t f p a).ok ∧ (mkT t f p a).dep ≤ f + 1
  | 0, p, a, hp, ha => by
    rw [mkT, Tr.ok, Tr.dep]
    exact ⟨⟨trivial, by simp, by simp [wordsT], by simp [wordsT]⟩, by simp [depL]⟩
  | f + 1, p, a, hp, ha => by
    have hw := words_parts (f := f) h hp ha
    have hl := partsT_len (f := f) (a := a) h hp
    have hm : ∀ x ∈ partsT t f p a, x.ok ∧ x.dep ≤ f + 1 := fun x hx => by
      rcases parts_mem h hp hx with hx | ⟨k, hk, rfl⟩
      · have := lf_ok hx
        exact ⟨this.1, by omega⟩
      · exact mkT_ok h f k 0 (mem_kids.mp hk).1 (by omega)
    rw [mkT_succ, Tr.ok, Tr.dep]
    refine ⟨⟨okL_iff.mpr fun x hx => (hm x hx).1, by omega, ?_, by omega⟩, ?_⟩
    · rw [hw.1]
      have h1 := h.tok.nm' p
      have h2 := h.tok.sl' p
      simp only [List.length_append, List.length_replicate]
      split
      · simp; omega
      · simp; omega
    · have : ∀ ps : List Tr, (∀ x ∈ ps, x.dep ≤ f + 1) → depL ps ≤ f + 1 := by
        intro ps hps
        induction ps with
        | nil => simp [depL]
        | cons x ps ih =>
          rw [depL]
          have h1 := hps x List.mem_cons_self
          have h2 := ih fun y hy => hps y (List.mem_cons_of_mem _ hy)
          omega
      have := this _ fun x hx => (hm x hx).2
      omega
end
end Mine
end

section
open PySem PySem.W PySem.Calls PyProof.Rows PySem.Spec
set_option maxRecDepth 100000
namespace Mine
section
variable {t : List Ent}
theorem pathsL_app (a b : List Tr) (f : List Nat) : pathsL (a ++ b) f = pathsL a f ++ pathsL b f := by
  rw [pathsL_map, pathsL_map, pathsL_map, List.flatMap_append]
theorem pathsL_lf {a : List Tr} (h : ∀ p ∈ a, isLf p) (f : List Nat) : pathsL a f = [] := by
  rw [pathsL_map, List.flatMap_eq_nil_iff]
  intro p hp
  have := h p hp
  cases p with
  | leaf k w => rfl
  | node ps => cases this
theorem pathsL_sep (g : Nat → Tr) (f : List Nat) : ∀ ks, pathsL (sepT g ks) f = ks.flatMap fun k => (g k).paths f
  | [] => rfl
  | [k] => by simp [sepT, pathsL]
  | k :: l :: r => by
    have ih := pathsL_sep g f (l :: r)
    rw [sepT, pathsL, pathsL, ih, Tr.paths]
    simp
theorem pathsL_parts (h : TabOk t) {f p a : Nat} (hp : p < t.length) (x : List Nat) : pathsL (partsT t f p a) x = (kidsOf t p).flatMap fun k => (mkT t f k 0).paths x := by
  unfold partsT
  have h1 := pathsL_lf (slT_lf a) x
  have h2 := pathsL_lf (nmT_lf h hp) x
  have h3 := pathsL_lf (slT_lf (en t p).sl) x
  split
  · rename_i hk
    rw [pathsL_app, h1, h2, hk]; rfl
  · have e1 : pathsL [Tr.leaf 25 [123]] x = [] := rfl
    have e2 : pathsL [Tr.leaf 26 [125]] x = [] := rfl
    simp only [pathsL_app, h1, h2, h3, e1, e2, pathsL_sep, List.nil_append, List.append_nil]
theorem any_parts (h : TabOk t) {f p a : Nat} (hp : p < t.length) : (partsT t f p a).any Tr.isN = !decide (kidsOf t p = []) := by
  have hlf : ∀ {x : Tr}, isLf x → x.isN = false := fun {x} q => by
    cases x with
    | leaf k w => rfl
    | node ps => cases q
  by_cases hk : kidsOf t p = []
  · rw [decide_eq_true hk, Bool.not_true, List.any_eq_false]
    intro x hx
    rcases parts_mem h hp hx with q | ⟨k, hk', _⟩
    · rw [hlf q]; decide
    · rw [hk] at hk'; cases hk'
  · rw [decide_eq_false hk, Bool.not_false, List.any_eq_true]
    obtain ⟨k, hk'⟩ := List.exists_mem_of_ne_nil _ hk
    obtain ⟨ps, e⟩ := mkT_node (t := t) f k 0
    refine ⟨mkT t f k 0, ?_, by rw [e]; rfl⟩
    unfold partsT
    rw [if_neg hk]
    exact List.mem_append_left _ (List.mem_append_right _ (sepT_has (g := fun k => mkT t f k 0) hk'))
-- the words of a place
noncomputable def wd (t : List Ent) (p a : Nat) : List Nat := List.replicate a 47 ++ (en t p).nm ++ (if kidsOf t p = [] then [] else List.replicate (en t p).sl 47)
theorem wd_head (h : TabOk t) {k : Nat} (hk : k < t.length) : (wd t k 0).head? ≠ some 47 ∧ wd t k 0 ≠ [] := by
  unfold wd
  cases hn : (en t k).nm with
  | nil => exact absurd hn (h.nm0 hk)
  | cons y r =>
    have hy : y ≠ 47 := fun e => h.no47 hk (by rw [hn, e]; exact List.mem_cons_self)
    simp [hy]
theorem join_wd (h : TabOk t) {p k : Nat} (hp : p < t.length) (hk : k < t.length) (B : List Nat) : joinP (B ++ (en t p).nm ++ List.replicate (en t p).sl 47) (wd t k 0) = (B ++ bit t p) ++ wd t k 0 := by
  obtain ⟨h1, h2⟩ := wd_head h hk
  unfold joinP
  rw [if_neg]
  · cases hs : (en t p).sl with
    | zero =>
      have hl := name_last h hp B
      rw [if_neg]
      · simp [bit, hs]
      · intro q
        have q : (B ++ (en t p).nm).getLast? = some 47 := by simpa using q
        exact hl 47 q rfl
    | succ s =>
      rw [if_pos]
      · have : max 1 (s + 1) = s + 1 := by omega
        simp [bit, hs, this]
      · rw [List.replicate_succ', ← List.append_assoc, List.getLast?_concat]; rfl
  · intro q
    rcases Bool.or_eq_true _ _ |>.mp q with q | q
    · exact h1 (by simpa using q)
    · have q : B ++ (en t p).nm ++ List.replicate (en t p).sl 47 = [] := by simpa using q
      simp at q
      exact h.nm0 hp q.2.1
theorem mkT_paths (h : TabOk t) : ∀ f p a B fold, t.length ≤ f + p → p < t.length → a < 3 → joinP fold (wd t p a) = B ++ wd t p 0 → (mkT t f p a).paths fold = (dG t (lf t) f p).map (told B t)
  | 0, p, a, B, fold, hf, hp, _, _ => by omega
  | f + 1, p, a, B, fold, hf, hp, ha, hj => by
    rw [mkT_succ, Tr.paths, any_parts h hp, (words_parts h hp ha).1, dG, pathsL_parts h hp]
    have hj' : joinP fold (List.replicate a 47 ++ (en t p).nm ++ (if kidsOf t p = [] then [] else List.replicate (en t p).sl 47)) = B ++ wd t p 0 := hj
    rw [hj']
    by_cases hk : kidsOf t p = []
    · have e : lf t p = true := decide_eq_true hk
      rw [decide_eq_true hk, e, hk]
      show [B ++ wd t p 0] = [told B t [p]]
      rw [told_one, wd, if_pos hk]; simp
    · have e : lf t p = false := decide_eq_false hk
      rw [decide_eq_false hk, e]
      simp only [Bool.not_false, if_true, Bool.false_eq_true, if_false, List.nil_append]
      rw [List.map_flatMap]
      have hw : B ++ wd t p 0 = B ++ (en t p).nm ++ List.replicate (en t p).sl 47 := by unfold wd; rw [if_neg hk]; simp
      rw [hw]
      have : ∀ ks : List Nat, (∀ k ∈ ks, k ∈ kidsOf t p) → (ks.flatMap fun k => (mkT t f k 0).paths (B ++ (en t p).nm ++ List.replicate (en t p).sl 47)) = ks.flatMap fun k => ((dG t (lf t) f k).map (p :: ·)).map (told B t) := by
        intro ks hks
        induction ks with
        | nil => rfl
        | cons k ks ih =>
          have hkk := mem_kids.mp (hks k List.mem_cons_self)
          rw [List.flatMap_cons, List.flatMap_cons, ih fun j hj => hks j (List.mem_cons_of_mem _ hj), mkT_paths h f k 0 (B ++ bit t p) _ (by have := hkk.2.1; omega) hkk.1 (by omega) (join_wd h hp hkk.1 B)]
          congr 1
          rw [List.map_map]
          refine List.map_congr_left fun s hs => ?_
          obtain ⟨r, rfl⟩ := dG_head hs
          exact (told_cons B p (by simp)).symm
      exact this _ fun k hk => hk
theorem paths_ys (h : TabOk t) {a : Nat} (ha : a < 3) : (mkT t 10 0 a).paths [] = (ysOf t).map (told (rootOf a) t) := by
  have := h.tok.len
  refine mkT_paths h 10 0 a (rootOf a) [] (by omega) h.t0 ha ?_
  unfold joinP
  rw [if_pos (by simp)]
  simp [wd, rootOf]

-- how many leaves
theorem leavesL_app (a b : List Tr) : leavesL (a ++ b) = leavesL a ++ leavesL b := by rw [leavesL_map, leavesL_map, leavesL_map, List.flatMap_append]
theorem leavesL_lf : ∀ {a : List Tr}, (∀ p ∈ a, isLf p) → (leavesL a).length = a.length
  | [], _ => rfl
  | p :: a, h => by
    have h1 := h p List.mem_cons_self
    cases p with
    | node ps => cases h1
    | leaf k w =>
      have ih := leavesL_lf fun q hq => h q (List.mem_cons_of_mem _ hq)
      rw [leavesL, Tr.leaves, List.length_append, ih]; simp; omega
theorem leavesL_sep {f p : Nat} {q : Nat → Bool} : ∀ {ks : List Nat}, (∀ k ∈ ks, (mkT t f k 0).leaves.length + 1 ≤ 8 * (dG t q f k).length) → (leavesL (sepT (fun k => mkT t f k 0) ks)).length ≤ 8 * (ks.flatMap fun k => (dG t q f k).map (p :: ·)).length
  | [], _ => by simp [sepT, leavesL]
  | [k], h => by
    have := h k (by simp)
    simp [sepT, leavesL]; omega
  | k :: l :: r, h => by
    have h1 := h k (by simp)
    have ih := leavesL_sep (p := p) (ks := l :: r) fun j hj => h j (List.mem_cons_of_mem _ hj)
    rw [sepT, leavesL, leavesL, List.flatMap_cons, List.length_append, List.length_append, List.length_append, Tr.leaves, List.length_map, List.length_singleton]
    omega
theorem mkT_leaves (h : TabOk t) : ∀ f p a, t.length ≤ f + p → p < t.length → (mkT t f p a).leaves.length + 1 ≤ 8 * (dG t (fun _ => true) f p).length
  | 0, p, a, hf, hp => by omega
  | f + 1, p, a, hf, hp => by
    have hs := leavesL_sep (p := p) (q := fun _ => true) (f := f) (ks := kidsOf t p) fun k hk => mkT_leaves h f k 0 (by have := (mem_kids.mp hk).2.1; omega) (mem_kids.mp hk).1
    have h1 := leavesL_lf (slT_lf a)
    have h2 := leavesL_lf (nmT_lf h hp)
    have h3 := leavesL_lf (slT_lf (en t p).sl)
    have h4 := slT_len a
    have h5 := nm_len (h.tn _ (en_mem hp))
    have h6 := slT_len (en t p).sl
    rw [mkT_succ, Tr.leaves, dG, if_pos rfl, List.length_append, List.length_singleton]
    unfold partsT
    have e1 : leavesL [Tr.leaf 25 [123]] = [(25, [123])] := rfl
    have e2 : leavesL [Tr.leaf 26 [125]] = [(26, [125])] := rfl
    split
    · rw [leavesL_app, List.length_append]; omega
    · simp only [leavesL_app, e1, e2, List.length_append, List.length_singleton]; omega
end
end Mine
end

section
open PySem PySem.W PySem.Calls PyProof.Rows PySem.Spec
set_option maxRecDepth 100000
namespace Mine
theorem tk3 (a b c : Nat) : tkN [a, b, c] = if a = 46 ∧ b = 46 ∧ c = 46 then some 52 else none := by simp [tkN]
theorem tk2 (a b : Nat) : tkN [a, b] = if a = 47 ∧ b = 47 then some 47 else none := by simp [tkN]
theorem tk1 (a : Nat) : tkN [a] = if a = 46 then some 23 else if a = 47 then some 17 else if a = 123 then some 25 else if a = 125 then some 26 else if a = 44 then some 12 else none := by simp [tkN]
noncomputable def txt (l : List (Nat × List Nat)) : List Nat := (l.map (·.2)).flatten
-- leaves that read as they stand
noncomputable def Gd : List (Nat × List Nat) → Prop
  | [] => True
  | x :: r => x ∈ toks ∧ (x.2 = [47] → (txt r).head? ≠ some 47) ∧ (x.2 = [46] → ∀ z, txt r ≠ 46 :: 46 :: z) ∧ Gd r
theorem step_gd {x : Nat × List Nat} {R : List Nat} (h : x ∈ toks) (h1 : x.2 = [47] → R.head? ≠ some 47) (h2 : x.2 = [46] → ∀ z, R ≠ 46 :: 46 :: z) : step1 (x.2 ++ R) = x := by
  simp only [toks, List.mem_cons, List.not_mem_nil, or_false] at h
  rcases h with rfl | rfl | rfl | rfl | rfl | rfl | rfl | rfl | rfl
  · have h1 := h1 rfl
    rcases R with _ | ⟨a, _ | ⟨b, R⟩⟩
    · simp [step1, tk1]
    · simp at h1; simp [step1, tk1, tk2, h1]
    · simp at h1; simp [step1, tk1, tk2, tk3, h1]
  · rcases R with _ | ⟨a, R⟩
    · simp [step1, tk1, tk2]
    · simp [step1, tk1, tk2, tk3]
  · rcases R with _ | ⟨a, _ | ⟨b, R⟩⟩ <;> simp [step1, tk1, tk2, tk3]
  · rcases R with _ | ⟨a, _ | ⟨b, R⟩⟩ <;> simp [step1, tk1, tk2, tk3]
  · have h2 := h2 rfl
    rcases R with _ | ⟨a, _ | ⟨b, R⟩⟩
    · simp [step1, tk1]
    · simp [step1, tk1, tk2]
    · have : ¬ (a = 46 ∧ b = 46) := fun ⟨e, e'⟩ => h2 R (by rw [e, e'])
      simp [step1, tk1, tk2, tk3, this]
  · simp [step1, tk1, tk2, tk3]
  · rcases R with _ | ⟨a, _ | ⟨b, R⟩⟩ <;> simp [step1, tk1, tk2, tk3]
  · rcases R with _ | ⟨a, _ | ⟨b, R⟩⟩ <;> simp [step1, tk1, tk2, tk3]
  · rcases R with _ | ⟨a, _ | ⟨b, R⟩⟩ <;> simp [step1, tk1, tk2, tk3]
theorem toks_ne {x : Nat × List Nat} (h : x ∈ toks) : x.2 ≠ [] ∧ x.2.length ≤ 3 ∧ Al x.2 := by
  simp only [toks, List.mem_cons, List.not_mem_nil, or_false] at h
  rcases h with rfl | rfl | rfl | rfl | rfl | rfl | rfl | rfl | rfl <;> simp [Al, alph]
theorem txt_cons (x : Nat × List Nat) (r : List (Nat × List Nat)) : txt (x :: r) = x.2 ++ txt r := by simp [txt]
theorem read_gd : ∀ {l : List (Nat × List Nat)} {n : Nat}, Gd l → (txt l).length ≤ n → readN n (txt l) = l
  | [], n, _, _ => by
    cases n with
    | zero => rfl
    | succ n => rw [readN]; rfl
  | x :: r, n, h, hn => by
    obtain ⟨h1, h2, h3, h4⟩ := h
    have h5 := (toks_ne h1).1
    rw [txt_cons] at hn ⊢
    have hp := List.length_pos_iff.mpr h5
    rw [List.length_append] at hn
    cases n with
    | zero => omega
    | succ n =>
      rw [readN, if_neg (by simp [h5]), step_gd h1 h2 h3, List.drop_left, read_gd h4 (by omega)]
theorem gd_mem : ∀ {l : List (Nat × List Nat)}, Gd l → ∀ x ∈ l, x ∈ toks
  | [], _, x, hx => by cases hx
  | y :: r, h, x, hx => by
    rcases List.mem_cons.mp hx with rfl | hx
    · exact h.1
    · exact gd_mem h.2.2.2 x hx
theorem txt_len : ∀ {l : List (Nat × List Nat)}, (∀ x ∈ l, x ∈ toks) → (txt l).length ≤ 3 * l.length
  | [], _ => by simp [txt]
  | x :: r, h => by
    have h1 := (toks_ne (h x List.mem_cons_self)).2.1
    have h2 := txt_len fun y hy => h y (List.mem_cons_of_mem _ hy)
    rw [txt_cons, List.length_append, List.length_cons]; omega
-- the text opens with none of these signs
noncomputable def Hd (l : List (Nat × List Nat)) (c : Nat) : Prop := (txt l).head? ≠ some c
section
variable {t : List Ent}
theorem gd_sl {a : Nat} {R : List (Nat × List Nat)} (h : Gd R) (h1 : Hd R 47) : Gd (leavesL (slT a) ++ R) := by
  match a with
  | 0 => exact h
  | 1 => exact ⟨by simp [toks], fun _ => h1, fun q => by simp at q, h⟩
  | _ + 2 => exact ⟨by simp [toks], fun q => by simp at q, fun q => by simp at q, h⟩
theorem hd_cons (k c' c : Nat) (w : List Nat) (R : List (Nat × List Nat)) (h : c' ≠ c) : Hd ((k, c' :: w) :: R) c := by
  unfold Hd
  rw [txt_cons]
  simp [h]
theorem hd_sl {a : Nat} {R : List (Nat × List Nat)} {c : Nat} (h : Hd R c) (h1 : c ≠ 47) : Hd (leavesL (slT a) ++ R) c := by
  match a with
  | 0 => exact h
  | 1 => exact hd_cons _ _ _ _ _ (Ne.symm h1)
  | _ + 2 => exact hd_cons _ _ _ _ _ (Ne.symm h1)
theorem gd_nm (h : TabOk t) {p : Nat} (hp : p < t.length) {R : List (Nat × List Nat)} (hg : Gd R) (h1 : Hd R 46) : Gd (leavesL (nmT (en t p).nm) ++ R) ∧ Hd (leavesL (nmT (en t p).nm) ++ R) 47 := by
  have key : ∀ z, txt R ≠ 46 :: z := fun z e => h1 (by rw [e]; rfl)
  rcases nmT_cases h hp with q | q | q | q | q <;> rw [q]
  · exact ⟨⟨by simp [toks], fun q => by simp at q, fun q => by simp at q, hg⟩, hd_cons _ _ _ _ _ (by decide)⟩
  · exact ⟨⟨by simp [toks], fun q => by simp at q, fun q => by simp at q, hg⟩, hd_cons _ _ _ _ _ (by decide)⟩
  · exact ⟨⟨by simp [toks], fun q => by simp at q, fun q z e => key _ e, hg⟩, hd_cons _ _ _ _ _ (by decide)⟩
  · refine ⟨⟨by simp [toks], fun q => by simp at q, fun q z e => ?_, by simp [toks], fun q => by simp at q, fun q z e => key _ e, hg⟩, hd_cons _ _ _ _ _ (by decide)⟩
    have e : 46 :: txt R = 46 :: 46 :: z := e
    injection e with _ e
    exact key _ e
  · exact ⟨⟨by simp [toks], fun q => by simp at q, fun q => by simp at q, hg⟩, hd_cons _ _ _ _ _ (by decide)⟩
theorem gd_tok {k : Nat} {w : List Nat} {R : List (Nat × List Nat)} (h : (k, w) ∈ toks) (h1 : w ≠ [47]) (h2 : w ≠ [46]) (hg : Gd R) : Gd ((k, w) :: R) := ⟨h, fun q => absurd q h1, fun q => absurd q h2, hg⟩
theorem gd_sep {f : Nat} : ∀ {ks : List Nat} {R : List (Nat × List Nat)}, (∀ k ∈ ks, ∀ R, Gd R → Hd R 46 → Hd R 47 → Gd ((mkT t f k 0).leaves ++ R)) → Gd R → Hd R 46 → Hd R 47 → Gd (leavesL (sepT (fun k => mkT t f k 0) ks) ++ R)
  | [], R, _, hg, _, _ => hg
  | [k], R, h, hg, h1, h2 => by
    have := h k (by simp) R hg h1 h2
    simpa [sepT, leavesL] using this
  | k :: l :: r, R, h, hg, h1, h2 => by
    have ih := gd_sep (ks := l :: r) (fun j hj => h j (List.mem_cons_of_mem _ hj)) hg h1 h2
    have := h k (by simp) ((12, [44]) :: (leavesL (sepT (fun k => mkT t f k 0) (l :: r)) ++ R)) (gd_tok (by simp [toks]) (by decide) (by decide) ih) (hd_cons _ _ _ _ _ (by decide)) (hd_cons _ _ _ _ _ (by decide))
    rw [sepT, leavesL, leavesL, Tr.leaves, List.append_assoc, List.append_assoc]
    exact this
theorem gd_mkT (h : TabOk t) : ∀ f p a, p < t.length → ∀ R, Gd R → Hd R 46 → Hd R 47 → Gd ((mkT t f p a).leaves ++ R)
  | 0, p, a, hp, R, hg, _, _ => hg
  | f + 1, p, a, hp, R, hg, h1, h2 => by
    rw [mkT_succ, Tr.leaves, partsT]
    split
    · rw [leavesL_app, List.append_assoc]
      obtain ⟨g1, g2⟩ := gd_nm h hp hg h1
      exact gd_sl g1 g2
    · have e1 : leavesL [Tr.leaf 25 [123]] = [(25, [123])] := rfl
      have e2 : leavesL [Tr.leaf 26 [125]] = [(26, [125])] := rfl
      simp only [leavesL_app, e1, e2, List.append_assoc, List.singleton_append]
      have s1 : Gd ((26, [125]) :: R) := gd_tok (by simp [toks]) (by decide) (by decide) hg
      have s2 := gd_sep (ks := kidsOf t p) (fun k hk R => gd_mkT h f k 0 (mem_kids.mp hk).1 R) s1 (hd_cons _ _ _ _ _ (by decide)) (hd_cons _ _ _ _ _ (by decide))
      have s3 := gd_tok (k := 25) (w := [123]) (by simp [toks]) (by decide) (by decide) s2
      have s4 := gd_sl (a := (en t p).sl) s3 (hd_cons _ _ _ _ _ (by decide))
      have s5 := gd_nm h hp s4 (hd_sl (hd_cons _ _ _ _ _ (by decide)) (by decide))
      exact gd_sl s5.1 s5.2
-- the law holds of every table
theorem lawOk (h : TabOk t) {a : Nat} (ha : a < 3) : LawOk t a (ysOf t) := by
  have hg : Gd (mkT t 10 0 a).leaves := by
    have := gd_mkT h 10 0 a h.t0 [] trivial (by simp [Hd, txt]) (by simp [Hd, txt])
    simpa using this
  have hl : (mkT t 10 0 a).leaves.length ≤ 80 := by
    have h1 := mkT_leaves h 10 0 a (by have := h.tok.len; omega) h.t0
    have h2 := dG_len h fun _ => true
    omega
  have hm := gd_mem hg
  have hx := txt_len hm
  have hok := mkT_ok h 10 0 a h.t0 ha
  exact {
    t0 := h.t0
    tok := h.tok
    tn := h.tn
    pa := h.pa
    a3 := ha
    ok := hok.1
    dep := by have := hok.2; omega
    lvl := by omega
    al := fun x hx => by
      obtain ⟨w, hw, hx⟩ := List.mem_flatten.mp hx
      obtain ⟨y, hy, rfl⟩ := List.mem_map.mp hw
      exact (toks_ne (hm y hy)).2.2 x hx
    txl := by
      show (txt (mkT t 10 0 a).leaves).length ≤ 1000
      omega
    lvw := fun x hx => (toks_ne (hm x hx)).2.2.asc
    read := read_gd hg (Nat.le_refl _)
    perm := ysOf_perm h
    sorted := ysOf_sorted
    ysl := dG_len h _
    ys0 := ysOf_ne h
    chs := ysOf_chs h
    paths := paths_ys h ha
    pth := fun ch hc => told_pth h ha (ysOf_chs h ch hc).2.2 (ysOf_chs h ch hc).1 (ysOf_chs h ch hc).2.1
    split := fun ch hc => split_told h a (ysOf_chs h ch hc).2.2 (ysOf_chs h ch hc).1
    below := fun p hp => below_ok h ha hp }
end
end Mine
end

set_option maxRecDepth 100000 in
theorem PySem.Challenge.cw_pd0017_01_holds : PySem.Challenge.rw_pd0017_01.Holds :=
  Mine.holds_of fun ns hn => by
  obtain ⟨h1, _, h3⟩ := Mine.drawsOf_ok ns
  exact ⟨_, Mine.lawOk (Mine.tabOf_ok h1 h3) (Nat.mod_lt _ (by decide))⟩
