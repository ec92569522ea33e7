import PyProof.Rows.All
import Wide.All
import OpenK.AllK
import Wide.FinOn
import PySem.Challenge.RW_rt0086_01
open PySem PySem.Calls PySem.Spec PyProof.Rows PySem.W
set_option Elab.async false
set_option linter.unusedVariables false
set_option linter.unusedSectionVars false
set_option linter.unusedSimpArgs false
set_option maxRecDepth 100000

/-! V1 -/
namespace Rt

/-- behind this address the law's own objects lie -/
noncomputable def B1 : Nat := 240
/-- a dict of the law's own whose keys are all texts, as a namespace is -/
noncomputable def NsObj (b : Addr) (o : Obj) : Prop := B1 < b ∧ ∀ es ep, o.data = .dict es ep → StrKeys es
/-- all that stood, stands; but a frame's object may have got its slots -/
noncomputable def Soft (h h' : Heap) : Prop := ∀ b o, h.get? b = some o → h'.get? b = some o ∨ (NsObj b o ∧ ∃ es ep o', o.data = .dict es ep ∧ h'.get? b = some o' ∧ o'.cls = o.cls ∧ o'.data = o.data)
theorem Soft.of {h h' : Heap} (k : h.StaysIn h') : Soft h h' := fun b o e => .inl (k b o e)
theorem Soft.nd {h h' : Heap} (k : Soft h h') {b : Addr} {o : Obj} (e : h.get? b = some o) (hd : ∀ es ep, o.data ≠ .dict es ep) : h'.get? b = some o := by
  rcases k b o e with q | ⟨_, es, ep, _, q, _⟩
  · exact q
  · exact absurd q (hd es ep)
theorem Soft.some {h h' : Heap} (k : Soft h h') {b : Addr} {o : Obj} (e : h.get? b = some o) : ∃ o', h'.get? b = some o' ∧ o'.cls = o.cls ∧ o'.data = o.data := by
  rcases k b o e with q | ⟨_, _, _, o', _, q1, q2, q3⟩
  · exact ⟨o, q, rfl, rfl⟩
  · exact ⟨o', q1, q2, q3⟩
theorem Soft.ns {h h' : Heap} (k : Soft h h') {a : Addr} {m : Str → Option Value} (x : h.Ns a m) : h'.Ns a m := by
  obtain ⟨o, es, ep, e, hd, r⟩ := x
  obtain ⟨o', e', _, hd'⟩ := k.some e
  exact ⟨o', es, ep, e', hd'.trans hd, r⟩
theorem Soft.cell {h h' : Heap} (k : Soft h h') {a : Addr} {v : Option Value} (x : h.IsCell a v) : h'.IsCell a v := by
  obtain ⟨o, e, hd⟩ := x
  exact ⟨o, k.nd e (by intro _ _ q; rw [hd] at q; cases q), hd⟩
theorem Soft.lim {h h' : Heap} (k : Soft h h') (x : h.NoLimit) : h'.NoLimit := let ⟨mc, hn, e⟩ := x; ⟨mc, k.ns hn, e⟩
theorem Soft.code {h h' : Heap} (k : Soft h h') {cd : Value} {q : Str} (x : h.CodeRec cd q) : h'.CodeRec cd q := by
  obtain ⟨c, o, vs, t, e1, e2, e3, e4⟩ := x
  exact ⟨c, o, vs, t, e1, k.nd e2 (by intro _ _ q; rw [e3] at q; cases q), e3, e4⟩

/-- a deep value, as far as this law has them -/
inductive PV where
  | none
  | bool (b : Bool)
  | int (i : Int)
  | str (s : Str)
  | list (xs : List PV)
  | tup (xs : List PV)
  | atom (v : Value)

mutual
inductive Val (av : Addr → Prop) (h : Heap) : Value → PV → Prop
  | none : Val av h .none .none
  | bool (b) : Val av h (.bool b) (.bool b)
  | int (i t) : Val av h (.int i t) (.int i)
  | str (x t) : Val av h (.str x t) (.str x)
  | list {a vs xs} : h.IsList a vs → ¬ av a → Vals av h vs.toList xs → Val av h (.ref a) (.list xs)
  | tup {a vs xs} : IsTup h a vs → ¬ av a → Vals av h vs.toList xs → Val av h (.ref a) (.tup xs)
  | atom (v) : Val av h v (.atom v)
inductive Vals (av : Addr → Prop) (h : Heap) : List Value → List PV → Prop
  | nil : Vals av h [] []
  | cons {v vs p ps} : Val av h v p → Vals av h vs ps → Vals av h (v :: vs) (p :: ps)
end

/-- what keeps the deep values: every object that is a sequence and is not to be avoided stands -/
noncomputable def SeqKeeps (av : Addr → Prop) (h h' : Heap) : Prop := ∀ a o xs n, ¬ av a → h.get? a = some o → o.data = .seq xs n → h'.get? a = some o

theorem isList_seq {av : Addr → Prop} {h h' : Heap} (k : SeqKeeps av h h') {a vs} (n : ¬ av a) (x : h.IsList a vs) : h'.IsList a vs := by
  obtain ⟨o, ho, hc, m, hd⟩ := x
  exact ⟨o, k a o _ _ n ho hd, hc, m, hd⟩
theorem isTup_seq {av : Addr → Prop} {h h' : Heap} (k : SeqKeeps av h h') {a vs} (n : ¬ av a) (x : IsTup h a vs) : IsTup h' a vs := by
  obtain ⟨o, ho, hc, m, hd⟩ := x
  exact ⟨o, k a o _ _ n ho hd, hc, m, hd⟩

theorem Val.keep {av av' : Addr → Prop} {h h' : Heap} (k : SeqKeeps av h h') (ha : ∀ a, (h.get? a).isSome = true → ¬ av a → ¬ av' a) {v p} (w : Val av h v p) : Val av' h' v p :=
  Val.rec (motive_1 := fun v p _ => Val av' h' v p) (motive_2 := fun vs ps _ => Vals av' h' vs ps) .none .bool .int .str
    (fun l n _ r => .list (isList_seq k n l) (ha _ (by obtain ⟨o, ho, u⟩ := l; rw [ho]; rfl) n) r) (fun l n _ r => .tup (isTup_seq k n l) (ha _ (by obtain ⟨o, ho, u⟩ := l; rw [ho]; rfl) n) r) .atom
    .nil (fun _ _ a b => .cons a b) w
theorem Vals.keep {av av' : Addr → Prop} {h h' : Heap} (k : SeqKeeps av h h') (ha : ∀ a, (h.get? a).isSome = true → ¬ av a → ¬ av' a) {vs ps} (w : Vals av h vs ps) : Vals av' h' vs ps :=
  Vals.rec (motive_1 := fun v p _ => Val av' h' v p) (motive_2 := fun vs ps _ => Vals av' h' vs ps) .none .bool .int .str
    (fun l n _ r => .list (isList_seq k n l) (ha _ (by obtain ⟨o, ho, u⟩ := l; rw [ho]; rfl) n) r) (fun l n _ r => .tup (isTup_seq k n l) (ha _ (by obtain ⟨o, ho, u⟩ := l; rw [ho]; rfl) n) r) .atom
    .nil (fun _ _ a b => .cons a b) w
theorem SeqKeeps.of_stays {av : Addr → Prop} {h h' : Heap} (k : Soft h h') : SeqKeeps av h h' := fun a o _ _ _ e d => k.nd e fun _ _ q => by rw [d] at q; cases q
theorem Val.stays {av : Addr → Prop} {h h' : Heap} (k : Soft h h') {v p} (x : Val av h v p) : Val av h' v p := x.keep (.of_stays k) fun _ _ n => n
theorem Vals.stays {av : Addr → Prop} {h h' : Heap} (k : Soft h h') {v p} (x : Vals av h v p) : Vals av h' v p := x.keep (.of_stays k) fun _ _ n => n

theorem Vals.length {av : Addr → Prop} {h : Heap} {vs : List Value} {ps : List PV} (w : Vals av h vs ps) : vs.length = ps.length := by
  induction vs generalizing ps with
  | nil => cases w; rfl
  | cons v vs ih => cases w with
    | cons a b => exact congrArg (· + 1) (ih b)
theorem Vals.get {av : Addr → Prop} {h : Heap} {vs : List Value} {ps : List PV} (w : Vals av h vs ps) {i : Nat} {p : PV} (e : ps[i]? = some p) : ∃ v, vs[i]? = some v ∧ Val av h v p := by
  induction vs generalizing ps i with
  | nil => cases w; cases e
  | cons v vs ih => cases w with
    | cons a b => cases i with
      | zero => obtain rfl := Option.some.inj e; exact ⟨v, rfl, a⟩
      | succ i => exact ih b e
theorem Vals.get' {av : Addr → Prop} {h : Heap} {vs : List Value} {ps : List PV} (w : Vals av h vs ps) {i : Nat} {v : Value} (e : vs[i]? = some v) : ∃ p, ps[i]? = some p ∧ Val av h v p := by
  induction vs generalizing ps i with
  | nil => cases e
  | cons v vs ih => cases w with
    | cons a b => cases i with
      | zero => obtain rfl := Option.some.inj e; exact ⟨_, rfl, a⟩
      | succ i => exact ih b e
theorem Vals.append {av : Addr → Prop} {h : Heap} {vs : List Value} {ps : List PV} {ws : List Value} {qs : List PV} (w : Vals av h vs ps) (y : Vals av h ws qs) : Vals av h (vs ++ ws) (ps ++ qs) := by
  induction vs generalizing ps with
  | nil => cases w; exact y
  | cons v vs ih => cases w with
    | cons a b => exact .cons a (ih b)

/-- what a name of the frame holds -/
inductive SV where
  | un
  | v (p : PV)
  | mut (k : Nat)
  | bnd (k : Nat)

structure St where
  loc : List SV
  own : List (Option (List SV))

structure Pr where
  prog : Program
  w : World
  mg : Str → Option Value
  mb : Str → Option Value
  recs : List DefRec
  ex : Heap → Prop

structure Glb (P : Pr) (h : Heap) : Prop where
  lim : h.NoLimit
  g : h.Ns mainGlobals P.mg
  b : h.Ns builtinsNs P.mb
  bb : ∀ x : Str, x ≠ "__name__" → P.mb x = bootBuiltins x
  fn : ∀ d ∈ P.recs, ∃ a o pm code doc, P.mg d.name = some (.ref a) ∧ h.get? a = some o ∧ o.data = .func (docDef d.name d.params d.body d.scope pm code doc) ∧ h.CodeRec code d.name
  ex : P.ex h
  exm : ∀ h h' : Heap, P.ex h → Soft h h' → P.ex h'
  top : (h.get? B1).isSome = true
theorem Glb.keeps {P : Pr} {h h' : Heap} (G : Glb P h) (k : Soft h h') : Glb P h' where
  lim := k.lim G.lim
  g := k.ns G.g
  b := k.ns G.b
  bb := G.bb
  fn := fun d hd => by
    obtain ⟨a, o, pm, c, dc, h1, h2, h3, h4⟩ := G.fn d hd
    exact ⟨a, o, pm, c, dc, h1, k.nd h2 (by intro _ _ q; rw [h3] at q; cases q), h3, k.code h4⟩
  ex := G.exm _ _ G.ex k
  exm := G.exm
  top := by
    obtain ⟨o, e⟩ := Option.isSome_iff_exists.mp G.top
    obtain ⟨o', e', _⟩ := k.some e
    rw [e']; rfl
theorem Glb.size {P : Pr} {h : Heap} (G : Glb P h) : B1 < h.objs.size := by
  obtain ⟨o, e⟩ := Option.isSome_iff_exists.mp G.top
  exact Heap.lt_size e

/-- room for n frames more, and no exception in hand -/
structure Room (A : Around) (n : Nat) : Prop where
  depth : A.depth + n ≤ 900
  units : A.units + 10 * n ≤ 9000
theorem Room.le {A : Around} {n m : Nat} (r : Room A n) (h : m ≤ n) : Room A m := ⟨by have := r.depth; lia, by have := r.units; lia⟩
theorem Room.lt {A : Around} {n : Nat} (r : Room A n) : A.depth < recursionLimit := by have := r.depth; show A.depth < 1000; lia
theorem Room.u {A : Around} {n : Nat} (r : Room A n) : A.units ≤ 9000 := by have := r.units; lia
theorem Room.deeper {A : Around} {n : Nat} (r : Room A (n + 1)) (env : Env) : Room (A.deeper env) n := ⟨by have := r.depth; show A.depth + 1 + n ≤ 900; lia, by have := r.units; show A.units + 3 + 10 * n ≤ 9000; lia⟩
/-- the frames on the stack are alive -/
noncomputable def FrAt (A : Around) (h : Heap) : Prop := ∃ fs, A.frames = some fs ∧ ∀ env ∈ fs, env.scope.kind ≠ .module ∧ ∃ L, env.frame = some L ∧ B1 < L ∧ ∃ o es ep, h.get? L = some o ∧ o.data = .dict es ep ∧ StrKeys es
theorem FrAt.soft {A : Around} {h h' : Heap} (k : Soft h h') (x : FrAt A h) : FrAt A h' := by
  obtain ⟨fs, e, hf⟩ := x
  refine ⟨fs, e, fun env he => ?_⟩
  obtain ⟨k1, L, k2, kL, o, es, ep, k3, k4⟩ := hf env he
  obtain ⟨o', e', _, hd'⟩ := k.some k3
  exact ⟨k1, L, k2, kL, o', es, ep, e', hd'.trans k4.1, k4.2⟩
/-- what a call is given -/
structure Called (A : Around) (n : Nat) (h : Heap) : Prop where
  room : Room A n
  handled : A.handled = none
  fr : FrAt A h

/-- a frame, or the block of a comprehension -/
structure Ctx where
  n : Nat
  P : Pr
  env : Env
  A : Around
  av : Addr → Prop
  h₀ : Heap
  names : List Str

/-- the room of a frame -/
structure RoomH (C : Ctx) : Prop extends Room C.A C.n where
  fr : ∃ fs, C.A.frames = some fs ∧ ∀ env ∈ fs, env.scope.kind ≠ .module ∧ ∃ L, env.frame = some L ∧ B1 < L ∧ (L = C.env.locals ∨ ∃ o es ep, C.h₀.get? L = some o ∧ o.data = .dict es ep ∧ StrKeys es)

noncomputable def Ctx.avo (C : Ctx) (own : List (Option (List SV))) (adr : List Addr) (a : Addr) : Prop := C.av a ∨ ∃ (k : Nat) (xs : List SV), own[k]? = some (some xs) ∧ adr[k]? = some a

/-- the value of a bound list.append -/
noncomputable def IsBnd (h : Heap) (b a : Addr) : Prop := ∃ o, h.get? b = some o ∧ o.cls = .type "builtin_function_or_method" ∧ o.data = .fields #[.builtin "list.append", .ref a]

noncomputable def BfmKeeps (h h' : Heap) : Prop := ∀ a o vs, h.get? a = some o → o.cls = .type "builtin_function_or_method" → o.data = .fields vs → h'.get? a = some o

noncomputable def SVal (av : Addr → Prop) (adr : List Addr) (h : Heap) (v : Value) : SV → Prop
  | .un => False
  | .v p => Val av h v p
  | .mut k => ∃ a, adr[k]? = some a ∧ v = .ref a
  | .bnd k => ∃ a b, adr[k]? = some a ∧ v = .ref b ∧ IsBnd h b a

inductive SVals (av : Addr → Prop) (adr : List Addr) (h : Heap) : List Value → List SV → Prop
  | nil : SVals av adr h [] []
  | cons {v vs p ps} : SVal av adr h v p → SVals av adr h vs ps → SVals av adr h (v :: vs) (p :: ps)

theorem SVal.keep {av av' : Addr → Prop} {adr : List Addr} {h h' : Heap} (k : SeqKeeps av h h') (ha : ∀ a, (h.get? a).isSome = true → ¬ av a → ¬ av' a)
    (kf : BfmKeeps h h') : ∀ {v sv}, SVal av adr h v sv → SVal av' adr h' v sv
  | _, .un, x => x
  | _, .v _, x => Val.keep k ha x
  | _, .mut _, x => x
  | _, .bnd _, ⟨a, b, e, e', o, ho, hc, hd⟩ => ⟨a, b, e, e', o, kf _ _ _ ho hc hd, hc, hd⟩
theorem SVals.keep {av av' : Addr → Prop} {adr : List Addr} {h h' : Heap} (k : SeqKeeps av h h') (ha : ∀ a, (h.get? a).isSome = true → ¬ av a → ¬ av' a)
    (kf : BfmKeeps h h') {vs : List Value} {svs : List SV} (w : SVals av adr h vs svs) : SVals av' adr h' vs svs := by
  induction w with
  | nil => exact .nil
  | cons a b ih => exact .cons (a.keep k ha kf) ih
theorem SVals.length {av : Addr → Prop} {adr : List Addr} {h : Heap} {vs : List Value} {ps : List SV} (w : SVals av adr h vs ps) : vs.length = ps.length := by
  induction w with
  | nil => rfl
  | cons a b ih => exact congrArg (· + 1) ih
theorem SVals.append {av : Addr → Prop} {adr : List Addr} {h : Heap} {vs : List Value} {ps : List SV} {ws : List Value} {qs : List SV} (w : SVals av adr h vs ps) (y : SVals av adr h ws qs) : SVals av adr h (vs ++ ws) (ps ++ qs) := by
  induction w with
  | nil => exact y
  | cons a b ih => exact .cons a ih

/-- where a name of the block stands: in the namespace, or in a cell -/
noncomputable def Read (env : Env) (h : Heap) (x : Str) (v : Value) : Prop :=
  (env.kindOf x = some .local ∧ ∃ m, h.Ns env.locals m ∧ m x = some v) ∨
  ((env.kindOf x = some .cell ∨ (env.kindOf x = some .free ∧ (x == ("__classdict__" : Str)) = false)) ∧ ∃ c, env.cells.lookup x = some c ∧ h.IsCell c (some v))

structure Holds (C : Ctx) (σ : St) (adr : List Addr) (h : Heap) : Prop where
  keep : Soft C.h₀ h
  glb : Glb C.P C.h₀
  kind : C.env.scope.kind = .function
  gl : C.env.globals = mainGlobals ∧ C.env.builtins = builtinsNs
  ns : ∃ m, h.Ns C.env.locals m
  cellsIn : ∀ x c, C.env.cells.lookup x = some c → ∃ v, h.IsCell c v
  vars : ∀ (i : Nat) (x : Str) (sv : SV), C.names[i]? = some x → σ.loc[i]? = some sv → sv = .un ∨ ∃ v, Read C.env h x v ∧ SVal (C.avo σ.own adr) adr h v sv
  len : adr.length = σ.own.length
  nodup : adr.Nodup
  own : ∀ (k : Nat) (xs : List SV) (a : Addr), σ.own[k]? = some (some xs) → adr[k]? = some a → ∃ items, h.PlainList a items ∧ SVals (C.avo σ.own adr) adr h items.toList xs
  fresh : ∀ a ∈ adr, C.h₀.get? a = none
  adrin : ∀ a ∈ adr, (h.get? a).isSome = true
  avold : ∀ a, C.av a → (C.h₀.get? a).isSome = true
  room : RoomH C
end Rt

/-! V2 -/
namespace Rt

theorem Read.stays {env : Env} {h h' : Heap} {x : Str} {v : Value} (k : Soft h h') (r : Read env h x v) : Read env h' x v := by
  rcases r with ⟨e, m, hn, hm⟩ | ⟨e, c, hc, hv⟩
  · exact .inl ⟨e, m, k.ns hn, hm⟩
  · exact .inr ⟨e, c, hc, k.cell hv⟩
theorem SVal.stays {av : Addr → Prop} {adr : List Addr} {h h' : Heap} (k : Soft h h') {v sv} (x : SVal av adr h v sv) : SVal av adr h' v sv :=
  x.keep (.of_stays k) (fun _ _ n => n) fun a o _ e _ d => k.nd e fun _ _ q => by rw [d] at q; cases q
theorem SVals.stays {av : Addr → Prop} {adr : List Addr} {h h' : Heap} (k : Soft h h') {v sv} (x : SVals av adr h v sv) : SVals av adr h' v sv :=
  x.keep (.of_stays k) (fun _ _ n => n) fun a o _ e _ d => k.nd e fun _ _ q => by rw [d] at q; cases q
theorem isList_stays {h h' : Heap} (k : Soft h h') {a its} (x : h.IsList a its) : h'.IsList a its := let ⟨o, ho, hc, n, hd⟩ := x; ⟨o, k.nd ho (fun _ _ q => by rw [hd] at q; cases q), hc, n, hd⟩

theorem plain_stays {h h' : Heap} (k : Soft h h') {a its} (x : h.PlainList a its) : h'.PlainList a its := let ⟨n, ho⟩ := x; ⟨n, k.nd ho fun _ _ q => nomatch q⟩
theorem stays_refl (h : Heap) : Soft h h := fun _ _ e => .inl e
theorem stays_trans {a b c : Heap} (x : Soft a b) (y : Soft b c) : Soft a c := fun d o e => by
  rcases x d o e with q | ⟨f, es, ep, o', q1, q2, q3, q4⟩
  · exact y d o q
  · rcases y d o' q2 with r | ⟨_, es', ep', o'', r1, r2, r3, r4⟩
    · exact .inr ⟨f, es, ep, o', q1, r, q3, q4⟩
    · exact .inr ⟨f, es, ep, o'', q1, r2, r3.trans q3, r4.trans q4⟩
theorem stays_push (h : Heap) (o : Obj) : Soft h (h.push o) := fun _ _ e => .inl (Heap.get?_push_of_some _ e)
theorem Soft.alive {h h' : Heap} (k : Soft h h') {a : Addr} (e : (h.get? a).isSome = true) : (h'.get? a).isSome = true := by
  obtain ⟨o, ho⟩ := Option.isSome_iff_exists.mp e
  obtain ⟨o', ho', _⟩ := k.some ho
  rw [ho']; rfl
theorem Holds.stays {C : Ctx} {σ : St} {adr : List Addr} {h h' : Heap} (H : Holds C σ adr h) (k : Soft h h') : Holds C σ adr h' where
  keep := stays_trans H.keep k
  glb := H.glb
  kind := H.kind
  gl := H.gl
  ns := let ⟨m, hm⟩ := H.ns; ⟨m, k.ns hm⟩
  cellsIn := fun x c e => let ⟨v, hv⟩ := H.cellsIn x c e; ⟨v, k.cell hv⟩
  vars := fun i x sv h1 h2 => (H.vars i x sv h1 h2).imp_right fun ⟨v, r, w⟩ => ⟨v, r.stays k, w.stays k⟩
  len := H.len
  nodup := H.nodup
  own := fun i xs a h1 h2 => let ⟨its, l, w⟩ := H.own i xs a h1 h2; ⟨its, plain_stays k l, w.stays k⟩
  fresh := H.fresh
  adrin := fun a ha => k.alive (H.adrin a ha)
  avold := H.avold
  room := H.room
theorem Holds.frAt {C : Ctx} {σ : St} {adr : List Addr} {h : Heap} (H : Holds C σ adr h) : FrAt C.A h := by
  obtain ⟨fs, e, hf⟩ := H.room.fr
  refine ⟨fs, e, fun env he => ?_⟩
  obtain ⟨k1, L, k2, kL, k3⟩ := hf env he
  refine ⟨k1, L, k2, kL, ?_⟩
  rcases k3 with rfl | ⟨o, es, ep, k3, k4⟩
  · obtain ⟨m, o, es, ep, ho, hd, hk, _⟩ := H.ns
    exact ⟨o, es, ep, ho, hd, hk⟩
  · obtain ⟨o', e', _, hd'⟩ := H.keep.some k3
    exact ⟨o', es, ep, e', hd'.trans k4.1, k4.2⟩
theorem Holds.called {C : Ctx} {σ : St} {adr : List Addr} {h : Heap} (H : Holds C σ adr h) (hh : C.A.handled = none) {n : Nat} (hn : n ≤ C.n) : Called C.A n h := ⟨H.room.toRoom.le hn, hh, H.frAt⟩
theorem Holds.g {C : Ctx} {σ : St} {adr : List Addr} {h : Heap} (H : Holds C σ adr h) : Glb C.P h := H.glb.keeps H.keep
/-- what is to be avoided stands -/
noncomputable def AvIn (av : Addr → Prop) (h : Heap) : Prop := ∀ a, av a → (h.get? a).isSome = true
theorem AvIn.stays {av : Addr → Prop} {h h' : Heap} (x : AvIn av h) (k : Soft h h') : AvIn av h' := fun a ha => k.alive (x a ha)
theorem AvIn.fresh {av : Addr → Prop} {h : Heap} (x : AvIn av h) : ¬ av h.objs.size := fun q => by
  obtain ⟨o, ho⟩ := Option.isSome_iff_exists.mp (x _ q)
  exact Nat.lt_irrefl _ (Heap.lt_size ho)
theorem Holds.avin {C : Ctx} {σ : St} {adr : List Addr} {h : Heap} (H : Holds C σ adr h) : AvIn (C.avo σ.own adr) h := fun a ha => by
  rcases ha with q | ⟨k, xs, h1, h2⟩
  · exact H.keep.alive (H.avold a q)
  · obtain ⟨_, ⟨n, ho⟩, _⟩ := H.own k xs a h1 h2
    rw [ho]; rfl

/-- a step that leaves all that stood as it was -/
noncomputable abbrev Then (s : Shared) (av : Addr → Prop) (p : PV) (Q : Value → Shared → Prop) : Prop :=
  ∀ v h' tk, Soft s.heap h' → Val av h' v p → Q v { s with heap := h', toks := tk }
noncomputable abbrev ThenB (s : Shared) (Q : Bool → Shared → Prop) (b : Bool) : Prop := ∀ h' tk, Soft s.heap h' → Q b { s with heap := h', toks := tk }

noncomputable def Ev (C : Ctx) (σ : St) (e : Expr) (sv : SV) : Prop := ∀ adr s (Q : Value → Shared → Prop) (E : Value → Shared → Prop), Holds C σ adr s.heap →
  (∀ v h' tk, Soft s.heap h' → SVal (C.avo σ.own adr) adr h' v sv → Q v { s with heap := h', toks := tk }) →
  wpAny (model C.P.prog C.P.w) C.A (eval e C.env) Q E s
noncomputable def Tr (C : Ctx) (σ : St) (e : Expr) (b : Bool) : Prop := ∀ adr s (Q : Bool → Shared → Prop) (E : Value → Shared → Prop), Holds C σ adr s.heap → ThenB s Q b →
  wpAny (model C.P.prog C.P.w) C.A (isTrue e C.env (eval e C.env)) Q E s
noncomputable def Evs (C : Ctx) (σ : St) (es : List Expr) (svs : List SV) : Prop := ∀ adr s (pos : Pos) (Q : List Value → Shared → Prop) (E : Value → Shared → Prop), Holds C σ adr s.heap →
  (∀ vs h' tk, Soft s.heap h' → SVals (C.avo σ.own adr) adr h' vs svs → Q vs { s with heap := h', toks := tk }) →
  wpAny (model C.P.prog C.P.w) C.A (spliced (backTo pos (starEach es C.env))) Q E s

section
variable {C : Ctx} {σ : St}

theorem ev_name (i : Nat) {x : Str} {pos : Pos} {sv : SV} (hn : C.names[i]? = some x) (hl : σ.loc[i]? = some sv) (hu : sv ≠ .un) (hd : (x == ("__debug__" : Str)) = false) : Ev C σ (.Name x pos) sv := by
  intro adr s Q E H k
  rcases H.vars i x sv hn hl with e | ⟨v, r, w⟩
  · exact absurd e hu
  · refine wpAny_Name ?_ hd
    have q := k v s.heap s.toks (stays_refl _) w
    rcases r with ⟨e, m, hn, hm⟩ | ⟨e | ⟨e, ec⟩, c, hc, hv⟩
    · exact wpAny_loadName_local H.kind e hn hm q
    · exact wpAny_loadName_cell H.kind e hc hv q
    · exact wpAny_loadName_free H.kind e hc hv q ec
theorem ev_global {x : Str} {pos : Pos} {v : Value} (hk : C.env.kindOf x = some .globalImplicit) (hv : C.P.mg x = some v) (hd : (x == ("__debug__" : Str)) = false) : Ev C σ (.Name x pos) (.v (.atom v)) := by
  intro adr s Q E H k
  refine Name_function_global H.kind hk (loadGlobal_global (mg := C.P.mg) ?_ hv (k v s.heap s.toks (stays_refl _) (.atom v))) hd
  rw [H.gl.1]; exact H.g.g
theorem ev_builtin {x : Str} {pos : Pos} {v : Value} (hk : C.env.kindOf x = some .globalImplicit) (hv : C.P.mg x = none) (hb : bootBuiltins x = some v) (hx : x ≠ "__name__") (hd : (x == ("__debug__" : Str)) = false) :
    Ev C σ (.Name x pos) (.v (.atom v)) := by
  intro adr s Q E H k
  refine Name_function_global H.kind hk (loadGlobal_builtin (mg := C.P.mg) (mb := C.P.mb) ?_ hv ?_ ((H.g.bb x hx).trans hb) (k v s.heap s.toks (stays_refl _) (.atom v))) hd
  · rw [H.gl.1]; exact H.g.g
  · rw [H.gl.2]; exact H.g.b
theorem ev_none {k : Nat} {pos : Pos} : Ev C σ (.Constant .none k pos) (.v .none) := fun _ s _ _ _ k => wpAny_Constant_none (k _ s.heap s.toks (stays_refl _) .none)
theorem ev_bool {b : Bool} {k : Nat} {pos : Pos} : Ev C σ (.Constant (.bool b) k pos) (.v (.bool b)) := fun _ s _ _ _ k => wpAny_Constant_bool (k _ s.heap s.toks (stays_refl _) (.bool b))
theorem ev_int {i : Int} {k : Nat} {pos : Pos} : Ev C σ (.Constant (.int i) k pos) (.v (.int i)) := fun _ s _ _ _ k => wpAny_Constant_int (k _ s.heap _ (stays_refl _) (.int i _))
theorem ev_str {x : Str} {k : Nat} {pos : Pos} : Ev C σ (.Constant (.str x) k pos) (.v (.str x)) := fun _ s _ _ _ k => wpAny_Constant_str (k _ s.heap _ (stays_refl _) (.str x _))

/-- what an operation on values gives -/
noncomputable def BinR (P : Pr) (A : Around) (f : Value → Value → Sem Value) (p q r : PV) : Prop := ∀ av s v1 v2 (Q : Value → Shared → Prop) (E : Value → Shared → Prop), Glb P s.heap → Room A 0 → AvIn av s.heap →
  Val av s.heap v1 p → Val av s.heap v2 q → Then s av r Q → wpAny (model P.prog P.w) A (f v1 v2) Q E s
noncomputable def UnR (P : Pr) (A : Around) (f : Value → Sem Value) (p r : PV) : Prop := ∀ av s v1 (Q : Value → Shared → Prop) (E : Value → Shared → Prop), Glb P s.heap → Room A 0 → AvIn av s.heap →
  Val av s.heap v1 p → Then s av r Q → wpAny (model P.prog P.w) A (f v1) Q E s
noncomputable def TruR (P : Pr) (A : Around) (p : PV) (b : Bool) : Prop := ∀ av s v1 (Q : Bool → Shared → Prop) (E : Value → Shared → Prop), Glb P s.heap → AvIn av s.heap →
  Val av s.heap v1 p → ThenB s Q b → wpAny (model P.prog P.w) A (truthy v1) Q E s

theorem ev_bin2 {l r : Expr} {p q z : PV} {t : Sem Value} {f : Value → Value → Sem Value}
    (ht : ∀ (s : Shared) (Q : Value → Shared → Prop) (E : Value → Shared → Prop), wpAny (model C.P.prog C.P.w) C.A (eval l C.env) (fun a s₁ => wpAny (model C.P.prog C.P.w) C.A (eval r C.env) (fun b s₂ => wpAny (model C.P.prog C.P.w) C.A (f a b) Q E s₂) E s₁) E s → wpAny (model C.P.prog C.P.w) C.A t Q E s)
    (hl : Ev C σ l (.v p)) (hr : Ev C σ r (.v q)) (hb : BinR C.P C.A f p q z) {adr s} {Q : Value → Shared → Prop} {E : Value → Shared → Prop} (H : Holds C σ adr s.heap)
    (k : Then s (C.avo σ.own adr) z Q) : wpAny (model C.P.prog C.P.w) C.A t Q E s := by
  refine ht _ _ _ (hl adr s _ E H fun v1 h1 t1 k1 w1 => hr adr _ _ E (H.stays k1) fun v2 h2 t2 k2 w2 => ?_)
  have H2 := (H.stays k1).stays k2
  exact hb _ _ v1 v2 Q E H2.g (H2.room.toRoom.le (Nat.zero_le _)) H2.avin (Val.stays k2 w1) w2 fun v h3 t3 k3 w3 => k v h3 t3 (stays_trans (stays_trans k1 k2) k3) w3
theorem ev_binop {l r : Expr} {op : Operator} {pos : Pos} {p q z : PV} (hl : Ev C σ l (.v p)) (hr : Ev C σ r (.v q)) (hb : BinR C.P C.A (binaryOp op) p q z) : Ev C σ (.BinOp l op r pos) (.v z) :=
  fun _ _ _ _ H k => ev_bin2 (fun _ _ _ h => wpAny_BinOp h) hl hr hb H k
theorem ev_cmp {l r : Expr} {op : CmpOp} {pos : Pos} {p q z : PV} (hl : Ev C σ l (.v p)) (hr : Ev C σ r (.v q)) (hb : BinR C.P C.A (compareOp op) p q z) (hm : behindInMarks op r = false) : Ev C σ (.Compare l [op] [r] pos) (.v z) :=
  fun _ _ _ _ H k => ev_bin2 (fun _ _ _ h => wpAny_Compare1 h hm) hl hr hb H k
theorem ev_un {x : Expr} {op : UnaryOp} {pos : Pos} {p z : PV} (hl : Ev C σ x (.v p)) (hb : UnR C.P C.A (unaryOp op) p z) : Ev C σ (.UnaryOp op x pos) (.v z) := by
  intro adr s Q E H k
  refine wpAny_UnaryOp (hl adr s _ E H fun v1 h1 t1 k1 w1 => ?_)
  have H1 := H.stays k1
  exact hb _ _ v1 Q E H1.g (H1.room.toRoom.le (Nat.zero_le _)) H1.avin w1 fun v h3 t3 k3 w3 => k v h3 t3 (stays_trans k1 k3) w3
/-- a test that is a value's truth -/
theorem tr_value {e : Expr} {p : PV} {b : Bool} (he : Ev C σ e (.v p)) (ht : TruR C.P C.A p b) (hi : isTrue e C.env (eval e C.env) = (do let v ← eval e C.env; standAt e.pos; holding [v] (truthy v))) : Tr C σ e b := by
  intro adr s Q E H k
  refine wpAny_isTrue_value (he adr s _ E H fun v1 h1 t1 k1 w1 => ?_) hi
  have H1 := H.stays k1
  exact ht _ _ v1 Q E H1.g H1.avin w1 fun h3 t3 k3 => k h3 t3 (stays_trans k1 k3)
theorem tr_cmp {l r : Expr} {op : CmpOp} {pos : Pos} {p q : PV} {b : Bool} (hl : Ev C σ l (.v p)) (hr : Ev C σ r (.v q)) (hb : BinR C.P C.A (compareOp op) p q (.bool b)) (hm : behindInMarks op r = false) : Tr C σ (.Compare l [op] [r] pos) b := by
  intro adr s Q E H k
  refine wpAny_isTrue_Compare1 ?_ hm
  refine hl adr s _ E H fun v1 h1 t1 k1 w1 => hr adr _ _ E (H.stays k1) fun v2 h2 t2 k2 w2 => ?_
  have H2 := (H.stays k1).stays k2
  refine hb _ _ v1 v2 _ E H2.g (H2.room.toRoom.le (Nat.zero_le _)) H2.avin (Val.stays k2 w1) w2 fun v h3 t3 k3 w3 => ?_
  cases w3
  exact wpAny_truthy_bool (k h3 t3 (stays_trans (stays_trans k1 k2) k3))
theorem tr_not {x : Expr} {pos : Pos} {b : Bool} (hx : Tr C σ x b) : Tr C σ (.UnaryOp .Not x pos) (!b) :=
  fun adr s _ E H k => wpAny_isTrue_Not (hx adr s _ E H fun h' tk k' => k h' tk k')
theorem ev_ifexp {t a b : Expr} {pos : Pos} {c : Bool} {sv : SV} (ht : Tr C σ t c) (h1 : c = true → Ev C σ a sv) (h2 : c = false → Ev C σ b sv) : Ev C σ (.IfExp t a b pos) sv := by
  intro adr s Q E H k
  refine wpAny_IfExp (ht adr s _ E H fun h' tk k' => ?_)
  have kk : ∀ v h'' tk', Soft h' h'' → SVal (C.avo σ.own adr) adr h'' v sv → Q v { s with heap := h'', toks := tk' } := fun v h'' tk' k'' w => k v h'' tk' (stays_trans k' k'') w
  cases c with
  | true => rw [if_pos rfl]; exact h1 rfl adr _ Q E (H.stays k') kk
  | false => rw [if_neg (by decide)]; exact h2 rfl adr _ Q E (H.stays k') kk
theorem evs_nil : Evs C σ [] [] := fun _ s _ _ _ _ k => wpAny_items_nil (k [] s.heap s.toks (stays_refl _) .nil)
theorem evs_cons {e : Expr} {es : List Expr} {sv : SV} {svs : List SV} (h : Ev C σ e sv) (hs : Evs C σ es svs) (he : starEach (e :: es) C.env = (false, eval e C.env) :: starEach es C.env) : Evs C σ (e :: es) (sv :: svs) := by
  intro adr s pos Q E H k
  refine wpAny_items_cons (h adr s _ E H fun v1 h1 t1 k1 w1 => hs adr _ pos _ E (H.stays k1) fun vs h2 t2 k2 w2 => k _ h2 t2 (stays_trans k1 k2) (.cons (w1.stays k2) w2)) he
end
end Rt

/-! V3a -/
namespace Rt
section
variable {P : Pr} {A : Around}

-- ints
theorem b_add (a b : Int) : BinR P A (binaryOp .Add) (.int a) (.int b) (.int (a + b)) := by
  intro av s v1 v2 Q E _ _ _ h1 h2 k; cases h1; cases h2
  with_reducible refine PyProof.Rows.add_int ?_
  exact k _ s.heap _ (stays_refl _) (.int _ _)
theorem b_sub (a b : Int) : BinR P A (binaryOp .Sub) (.int a) (.int b) (.int (a - b)) := by
  intro av s v1 v2 Q E _ _ _ h1 h2 k; cases h1; cases h2
  with_reducible refine PyProof.Rows.sub_int ?_
  exact k _ s.heap _ (stays_refl _) (.int _ _)
theorem b_mod (a b : Int) (hb : b ≠ 0) : BinR P A (binaryOp .Mod) (.int a) (.int b) (.int (a.fmod b)) := by
  intro av s v1 v2 Q E _ _ _ h1 h2 k; cases h1; cases h2
  with_reducible refine mod_int' hb ?_
  exact k _ s.heap _ (stays_refl _) (.int _ _)
theorem b_fdiv (a b : Int) (hb : b ≠ 0) (hs : b.natAbs < 1073741824) : BinR P A (binaryOp .FloorDiv) (.int a) (.int b) (.int (a.fdiv b)) := by
  intro av s v1 v2 Q E G r _ h1 h2 k; cases h1; cases h2
  with_reducible refine floordiv_int hb ?_ (.inl (PyProof.noPylong_small hs))
  exact k _ s.heap _ (stays_refl _) (.int _ _)
theorem b_pow (a n : Int) (h0 : 0 ≤ n) (h1 : n ≤ 1000000) (ha : a.natAbs < 2 ^ 64) : BinR P A (binaryOp .Pow) (.int a) (.int n) (.int (a ^ n.toNat)) := by
  intro av s v1 v2 Q E _ _ _ x1 x2 k; cases x1; cases x2
  with_reducible refine pow_int_small h0 h1 ha ?_
  exact k _ s.heap _ (stays_refl _) (.int _ _)
theorem b_lt (a b : Int) : BinR P A (compareOp .Lt) (.int a) (.int b) (.bool (decide (a < b))) := by
  intro av s v1 v2 Q E _ _ _ h1 h2 k; cases h1; cases h2
  with_reducible refine PySem.P.lt_int ?_
  exact k _ s.heap s.toks (stays_refl _) (.bool _)
theorem b_le (a b : Int) : BinR P A (compareOp .LtE) (.int a) (.int b) (.bool (decide (a ≤ b))) := by
  intro av s v1 v2 Q E _ _ _ h1 h2 k; cases h1; cases h2
  with_reducible refine PySem.P.le_int ?_
  exact k _ s.heap s.toks (stays_refl _) (.bool _)
theorem b_eqI (a b : Int) : BinR P A (compareOp .Eq) (.int a) (.int b) (.bool (a == b)) := by
  intro av s v1 v2 Q E _ _ _ h1 h2 k; cases h1; cases h2
  with_reducible refine PySem.P.eq_int ?_
  exact k _ s.heap s.toks (stays_refl _) (.bool _)
theorem b_neI (a b : Int) : BinR P A (compareOp .NotEq) (.int a) (.int b) (.bool (a != b)) := by
  intro av s v1 v2 Q E _ _ _ h1 h2 k; cases h1; cases h2
  with_reducible refine PySem.P.ne_int ?_
  exact k _ s.heap s.toks (stays_refl _) (.bool _)
theorem u_neg (a : Int) : UnR P A (unaryOp .USub) (.int a) (.int (-a)) := by
  intro av s v1 Q E _ _ _ h1 k; cases h1
  with_reducible refine PySem.P.neg_int ?_
  exact k _ s.heap _ (stays_refl _) (.int _ _)
theorem t_bool (b : Bool) : TruR P A (.bool b) b := by
  intro av s v1 Q E _ _ h1 k; cases h1
  with_reducible refine wpAny_truthy_bool ?_
  exact k s.heap s.toks (stays_refl _)
-- texts
theorem b_adds (x y : Str) (hs : x.length + y.length ≤ sizeLine) : BinR P A (binaryOp .Add) (.str x) (.str y) (.str (x ++ y)) := by
  intro av s v1 v2 Q E _ _ _ h1 h2 k; cases h1; cases h2
  with_reducible refine PyProof.Rows.add_str (fun t' tk => ?_) hs
  exact k _ s.heap tk (stays_refl _) (.str _ _)
theorem b_iadds (x y : Str) (hs : x.length + y.length ≤ sizeLine) : BinR P A (inplaceOp .Add) (.str x) (.str y) (.str (x ++ y)) := by
  intro av s v1 v2 Q E _ _ _ h1 h2 k; cases h1; cases h2
  with_reducible refine PyProof.Rows.iadd_str (fun t' tk => ?_) hs
  exact k _ s.heap tk (stays_refl _) (.str _ _)
theorem b_iadd (a b : Int) : BinR P A (inplaceOp .Add) (.int a) (.int b) (.int (a + b)) := by
  intro av s v1 v2 Q E _ _ _ h1 h2 k; cases h1; cases h2
  with_reducible refine PyProof.Rows.iadd_int ?_
  exact k _ s.heap _ (stays_refl _) (.int _ _)
theorem b_eqS (x y : Str) : BinR P A (compareOp .Eq) (.str x) (.str y) (.bool (x == y)) := by
  intro av s v1 v2 Q E _ _ _ h1 h2 k; cases h1; cases h2
  with_reducible refine PyProof.Rows.eq_str ?_
  exact k _ s.heap s.toks (stays_refl _) (.bool _)
theorem b_neS (x y : Str) : BinR P A (compareOp .NotEq) (.str x) (.str y) (.bool (x != y)) := by
  intro av s v1 v2 Q E _ _ _ h1 h2 k; cases h1; cases h2
  with_reducible refine PyProof.Rows.ne_str ?_
  exact k _ s.heap s.toks (stays_refl _) (.bool _)
theorem b_ltS (x y : Str) : BinR P A (compareOp .Lt) (.str x) (.str y) (.bool (decide (x.cps.toList < y.cps.toList))) := by
  intro av s v1 v2 Q E _ _ _ h1 h2 k; cases h1; cases h2
  with_reducible refine PyProof.Rows.lt_str ?_
  exact k _ s.heap s.toks (stays_refl _) (.bool _)
theorem b_inS (x y : Str) : BinR P A (compareOp .In) (.str y) (.str x) (.bool (!(Builtin.Str.occurrences x y 0 x.length 1).isEmpty)) := by
  intro av s v1 v2 Q E _ _ _ h1 h2 k; cases h1; cases h2
  with_reducible refine PyProof.Rows.in_str ?_
  exact k _ s.heap s.toks (stays_refl _) (.bool _)
-- is
theorem b_isNone (v : PV) (hv : v = .none ∨ (∃ xs, v = .list xs) ∨ (∃ xs, v = .tup xs)) : BinR P A (compareOp .Is) v .none (.bool (match v with | .none => true | _ => false)) := by
  intro av s v1 v2 Q E _ _ _ h1 h2 k
  cases h2
  · rcases hv with rfl | ⟨xs, rfl⟩ | ⟨xs, rfl⟩
    · cases h1
      with_reducible refine wpAny_is_plain rfl ?_
      exact k _ s.heap s.toks (stays_refl _) (.bool _)
    · cases h1
      exact wpAny_is_other rfl (fun e => nomatch e) (k _ s.heap s.toks (stays_refl _) (.bool _))
    · cases h1
      exact wpAny_is_other rfl (fun e => nomatch e) (k _ s.heap s.toks (stays_refl _) (.bool _))
end
end Rt

/-! V3b -/
namespace Rt

mutual
noncomputable def toPD : PV → PyData
  | .none => .none
  | .bool b => .bool b
  | .int i => .int i
  | .str x => .str x
  | .list xs => .list (toPDs xs)
  | .tup xs => .tuple (toPDs xs)
  | .atom _ => .dict []
noncomputable def toPDs : List PV → List PyData
  | [] => []
  | x :: r => toPD x :: toPDs r
end
noncomputable def lay (p : PV) : Bool := (toPD p).canLay0 && decide ((toPD p).depth ≤ 50)
theorem Val.reads {av : Addr → Prop} {h : Heap} {v : Value} {p : PV} (w : Val av h v p) : (toPD p).canLay0 = true → ∃ as, Reads h v (toPD p) as :=
  Val.rec (motive_1 := fun v p _ => (toPD p).canLay0 = true → ∃ as, Reads h v (toPD p) as) (motive_2 := fun vs ps _ => PyData.canLayAll0 (toPDs ps) = true → ∃ as, ReadsAll h vs (toPDs ps) as)
    (fun _ => ⟨_, .none⟩) (fun b _ => ⟨_, .bool b⟩) (fun i t _ => ⟨_, .int i t⟩) (fun x t _ => ⟨_, .str x t⟩)
    (fun l _ _ ih e => let ⟨_, ho, hc, _, hd⟩ := l; let ⟨_, ra⟩ := ih e; ⟨_, .list ho hc hd ra⟩)
    (fun l _ _ ih e => let ⟨_, ho, hc, _, hd⟩ := l; let ⟨_, ra⟩ := ih e; ⟨_, .tuple ho hc hd ra⟩) (fun _ e => nomatch e)
    (fun _ => ⟨_, .nil⟩) (fun _ _ iha ihb e => let ⟨_, ra⟩ := iha (Bool.and_eq_true_iff.mp e).1; let ⟨_, rb⟩ := ihb (Bool.and_eq_true_iff.mp e).2; ⟨_, .cons ra rb⟩) w
theorem lay1 {p : PV} (h : lay p = true) : (toPD p).canLay0 = true := (Bool.and_eq_true_iff.mp h).1
theorem lay2 {p : PV} (h : lay p = true) : (toPD p).depth ≤ 50 := of_decide_eq_true (Bool.and_eq_true_iff.mp h).2

noncomputable def eqv (p q : PV) : Bool := PyData.eqv (toPD p) (toPD q)
section
variable {P : Pr} {A : Around}
theorem b_eq (p q : PV) (hp : lay p = true) (hq : lay q = true) : BinR P A (compareOp .Eq) p q (.bool (eqv p q)) := by
  intro av s v1 v2 Q E _ R _ h1 h2 k
  obtain ⟨as, r1⟩ := h1.reads (lay1 hp)
  obtain ⟨bs, r2⟩ := h2.reads (lay1 hq)
  refine cmp_ofEq (SeqAt.eqOverData _ _ _ _ _ _ _ _ _ _ _ _ r1 r2 (lay1 hp) (lay1 hq) ?_ (k _ s.heap s.toks (stays_refl _) (.bool _)))
  have := lay2 hp; have := R.u; show _ < 9900; lia
theorem b_ne (p q : PV) (hp : lay p = true) (hq : lay q = true) : BinR P A (compareOp .NotEq) p q (.bool (!eqv p q)) := by
  intro av s v1 v2 Q E _ R _ h1 h2 k
  obtain ⟨as, r1⟩ := h1.reads (lay1 hp)
  obtain ⟨bs, r2⟩ := h2.reads (lay1 hq)
  refine cmp_ofNotEq (SeqAt.neOverData _ _ _ _ _ _ _ _ _ _ _ _ r1 r2 (lay1 hp) (lay1 hq) ?_ (k _ s.heap s.toks (stays_refl _) (.bool _)))
  have := lay2 hp; have := R.u; show _ < 9900; lia
theorem b_in (p : PV) (xs : List PV) (hp : lay p = true) (hx : lay (.list xs) = true) : BinR P A (compareOp .In) p (.list xs) (.bool ((toPDs xs).any fun y => PyData.eqv y (toPD p))) := by
  intro av s v1 v2 Q E _ R _ h1 h2 k
  obtain ⟨as, r1⟩ := h1.reads (lay1 hp)
  obtain ⟨bs, r2⟩ := h2.reads (lay1 hx)
  have l := lay1 hx
  rw [toPD] at r2 l
  refine SeqAt.in_list_reads r2 r1 (by simpa [PyData.canLay0] using l) (lay1 hp) ?_ (k _ s.heap s.toks (stays_refl _) (.bool _))
  have := lay2 hp; have := R.u; show _ < 9900; lia
theorem b_nin (p : PV) (xs : List PV) (hp : lay p = true) (hx : lay (.list xs) = true) : BinR P A (compareOp .NotIn) p (.list xs) (.bool (!(toPDs xs).any fun y => PyData.eqv y (toPD p))) := by
  intro av s v1 v2 Q E _ R _ h1 h2 k
  obtain ⟨as, r1⟩ := h1.reads (lay1 hp)
  obtain ⟨bs, r2⟩ := h2.reads (lay1 hx)
  have l := lay1 hx
  rw [toPD] at r2 l
  refine SeqAt.notIn_list_reads r2 r1 (by simpa [PyData.canLay0] using l) (lay1 hp) ?_ (k _ s.heap s.toks (stays_refl _) (.bool _))
  have := lay2 hp; have := R.u; show _ < 9900; lia
theorem val_newlist {av : Addr → Prop} {h : Heap} {vs : Array Value} {xs : List PV} (ai : AvIn av h) (w : Vals av h vs.toList xs) : Val av (h.push { cls := .type "list", data := .seq vs }) (.ref h.objs.size) (.list xs) :=
  .list ⟨_, Heap.get?_push_size _ rfl, rfl, _, rfl⟩ ai.fresh (w.stays (stays_push _ _))
theorem val_newtup {av : Addr → Prop} {h : Heap} {vs : Array Value} {xs : List PV} (ai : AvIn av h) (w : Vals av h vs.toList xs) : Val av (h.push { cls := .type "tuple", data := .seq vs }) (.ref h.objs.size) (.tup xs) :=
  .tup ⟨_, Heap.get?_push_size _ rfl, rfl, _, rfl⟩ ai.fresh (w.stays (stays_push _ _))
theorem b_addl (xs ys : List PV) (hs : xs.length + ys.length ≤ sizeLine) : BinR P A (binaryOp .Add) (.list xs) (.list ys) (.list (xs ++ ys)) := by
  intro av s v1 v2 Q E _ R ai h1 h2 k
  cases h1 with
  | list l1 n1 w1 =>
  cases h2 with
  | list l2 n2 w2 =>
  rename_i a vs b ws
  obtain ⟨⟨cls, dd, data, sl⟩, ho, hc, n, hd⟩ := l1
  obtain ⟨⟨cls2, dd2, data2, sl2⟩, ho2, hc2, n2, hd2⟩ := l2
  simp only at hc hd hc2 hd2
  subst hc hd hc2 hd2
  have e1 := w1.length; have e2 := w2.length
  refine concat_meets ⟨_, ho, rfl⟩ ⟨_, ho2, rfl⟩ noFill_list_add seq_list_add PySem.F.slot_list_add PySem.F.entry_list_add (PySem.F.args_list_add_2 _ _) (list_addW a b vs ws n n2 dd dd2 sl sl2 (by simp only [Array.length_toList] at e1 e2; lia)) ⟨ho, ho2, ?_⟩
  exact k _ _ s.toks (stays_push _ _) (val_newlist ai (by rw [Array.toList_append]; exact w1.append w2))
theorem t_list (xs : List PV) (hs : xs.length ≤ sizeLine) : TruR P A (.list xs) (!xs.isEmpty) := by
  intro av s v1 Q E _ _ h1 k
  cases h1 with
  | list l1 n1 w1 =>
  have e1 := w1.length
  simp only [Array.length_toList] at e1
  refine wpAny_truthy_list l1 (by rw [e1]; have : sizeLine = 16777216 := rfl; lia) ?_
  have : (!(Array.isEmpty ‹_›)) = !xs.isEmpty := by
    rename_i a vs
    congr 1
    rw [Bool.eq_iff_iff]
    simp [Array.isEmpty, ← List.length_eq_zero_iff, e1]
  rw [this]
  exact k _ _ (stays_refl _)
theorem t_str (x : Str) (hx : x.length ≤ sizeLine) : TruR P A (.str x) (!(x.length == 0)) := by
  intro av s v1 Q E _ _ h1 k
  cases h1
  have e : ((x.length : Int) != 0) = !(x.length == 0) := by
    by_cases h : x.length = 0
    · simp [h]
    · have h' : (x.length : Int) ≠ 0 := by lia
      rw [beq_eq_false_iff_ne.mpr h]
      exact bne_iff_ne.mpr h'
  have hl : sizeLine = 16777216 := rfl
  refine PySem.P.truthy_str (by lia) ?_
  rw [e]
  exact k _ _ (stays_refl _)
end

theorem svals_vals {av : Addr → Prop} {adr : List Addr} {h : Heap} {vs : List Value} {ps : List PV} (w : SVals av adr h vs (ps.map SV.v)) : Vals av h vs ps := by
  induction ps generalizing vs with
  | nil => cases w; exact .nil
  | cons p ps ih => cases w with
    | cons a b => exact .cons a (ih b)

section
variable {C : Ctx} {σ : St}
theorem ev_list {es : List Expr} {pos : Pos} {ps : List PV} (h : Evs C σ es (ps.map .v)) (hs : ps.length ≤ sizeLine) : Ev C σ (.List es pos) (.v (.list ps)) := by
  intro adr s Q E H k
  refine wpAny_List_spliced (h adr s pos _ E H fun vs h' tk k' w => ?_)
  have w' := svals_vals w
  refine ⟨by rw [w'.length]; exact hs, ?_⟩
  exact k _ _ tk (stays_trans k' (stays_push _ _)) (val_newlist (H.stays k').avin (by simpa using w'))
theorem ev_tup {es : List Expr} {n : Nat} {pos : Pos} {ps : List PV} (h : Evs C σ es (ps.map .v)) (hs : ps.length ≤ sizeLine) : Ev C σ (.Tuple es n pos) (.v (.tup ps)) := by
  intro adr s Q E H k
  refine wpAny_Tuple_spliced (h adr s pos _ E H fun vs h' tk k' w => ?_)
  have w' := svals_vals w
  refine ⟨by rw [w'.length]; exact hs, ?_⟩
  exact k _ _ tk (stays_trans k' (stays_push _ _)) (val_newtup (H.stays k').avin (by simpa using w'))

/-- an item of a value -/
noncomputable def GetR (P : Pr) (A : Around) (p q r : PV) : Prop := ∀ av s o i, Glb P s.heap → AvIn av s.heap → Val av s.heap o p → Val av s.heap i q →
  ∃ T id, s.TypeIs o T ∧ typeLookup (.type T) "__getitem__" = pure (some (.builtin id)) ∧ ∀ (Q : Value → Shared → Prop) (E : Value → Shared → Prop), Then s av r Q → wpAny (model P.prog P.w) A (getItem o i) Q E s
theorem ev_sub {value slice : Expr} {pos : Pos} {p q r : PV} (hv : Ev C σ value (.v p)) (hi : Ev C σ slice (.v q)) (hg : GetR C.P C.A p q r)
    (hs : ∀ o i, subscripted slice false o i = operate [o, i] (getItem o i)) : Ev C σ (.Subscript value slice pos) (.v r) := by
  intro adr s Q E H k
  refine Subscript_ (hv adr s _ E H fun o h1 t1 k1 w1 => hi adr _ _ E (H.stays k1) fun i h2 t2 k2 w2 => ?_)
  have H2 := (H.stays k1).stays k2
  obtain ⟨T, id, hT, hl, hgo⟩ := hg (C.avo σ.own adr) { s with heap := h2, toks := t2 } o i H2.g H2.avin (Val.stays k2 w1) w2
  exact tail_any hT hl (hgo Q E fun v h3 t3 k3 w3 => k v h3 t3 (stays_trans (stays_trans k1 k2) k3) w3) (hs o i)
theorem g_list {P : Pr} {A : Around} (xs : List PV) (i : Int) (p : PV) (h0 : 0 ≤ i) (hx : xs[i.toNat]? = some p) (hs : xs.length ≤ sizeLine) : GetR P A (.list xs) (.int i) p := by
  intro av s o iv _ _ h1 h2
  cases h2
  cases h1 with
  | list l n w =>
  obtain ⟨v, hv, w'⟩ := w.get hx
  refine ⟨_, _, l.typeIs, slot_list_getitem.lookup, fun Q E k => wpAny_getItem_list l h0 ?_ (by simpa using hv) (k v s.heap s.toks (stays_refl _) w')⟩
  have := (List.getElem?_eq_some_iff.mp hx).1
  have : sizeLine = 16777216 := rfl
  lia
theorem g_listneg {P : Pr} {A : Around} (xs : List PV) (i : Int) (p : PV) (h0 : i < 0) (h1 : -(xs.length : Int) ≤ i) (hx : xs[(i + xs.length).toNat]? = some p) (hs : xs.length ≤ sizeLine) : GetR P A (.list xs) (.int i) p := by
  intro av s o iv _ _ w1 w2
  cases w2
  cases w1 with
  | list l n w =>
  obtain ⟨v, hv, w'⟩ := w.get hx
  have e1 := w.length
  simp only [Array.length_toList] at e1
  have : sizeLine = 16777216 := rfl
  refine ⟨_, _, l.typeIs, slot_list_getitem.lookup, fun Q E k => wpAny_getItem_list_neg l h0 (by lia) (by lia) (by rw [e1]; simpa using hv) (k v s.heap s.toks (stays_refl _) w')⟩
theorem g_tup {P : Pr} {A : Around} (xs : List PV) (i : Int) (j : Nat) (p : PV) (hlo : -(2 ^ 63) ≤ i) (hhi : i < 2 ^ 63) (hj : seqIndex? i xs.length = some j) (hx : xs[j]? = some p) : GetR P A (.tup xs) (.int i) p := by
  intro av s o iv _ _ w1 w2
  cases w2
  cases w1 with
  | tup l n w =>
  obtain ⟨v, hv, w'⟩ := w.get hx
  have e1 := w.length
  simp only [Array.length_toList] at e1
  exact ⟨_, _, l.typeIs, slot_tuple_getitem.lookup, fun Q E k => getItem_tuple l hlo hhi (by rw [e1]; exact hj) (by simpa using hv) (k v s.heap s.toks (stays_refl _) w')⟩
theorem g_str {P : Pr} {A : Around} (x : Str) (i : Int) (c : Nat) (hr : (decide (i < -(2 ^ 63 : Int)) || decide (i ≥ 2 ^ 63)) = false) (hc : (seqIndex? i x.length).bind (x.cps[·]?) = some c) : GetR P A (.str x) (.int i) (.str ⟨#[c]⟩) := by
  intro av s o iv _ _ w1 w2
  cases w2
  cases w1
  exact ⟨_, _, typeIs_str _ _ _, slot_str_getitem.lookup, fun Q E k => getItem_str hr hc (k _ s.heap _ (stays_refl _) (.str _ _))⟩

/-- a written part of a slice -/
noncomputable def EvPart (C : Ctx) (σ : St) : Option Expr → Option Int → Prop
  | none, none => True
  | some e, some i => Ev C σ e (.v (.int i))
  | _, _ => False
theorem ev_part {e : Option Expr} {i : Option Int} (h : EvPart C σ e i) {adr s} {Q : Value → Shared → Prop} {E : Value → Shared → Prop} (H : Holds C σ adr s.heap)
    (k : ∀ v h' tk, Soft s.heap h' → IsPart v i → Q v { s with heap := h', toks := tk }) : wpAny (model C.P.prog C.P.w) C.A (evalPart e C.env) Q E s := by
  cases e with
  | none => cases i with
    | none => exact wpAny_evalPart_none (k _ s.heap s.toks (stays_refl _) .none)
    | some _ => exact h.elim
  | some e => cases i with
    | none => exact h.elim
    | some i =>
      refine wpAny_evalPart_some ?_
      have h' : Ev C σ e (.v (.int i)) := h
      refine h' adr s _ E H fun v h' tk k' w => k v h' tk k' ?_
      cases w
      exact .int _ _
theorem ev_slice {value : Expr} {lo hi : Option Expr} {ps pos : Pos} {p r : PV} {i j : Option Int} (hv : Ev C σ value (.v p)) (hl : EvPart C σ lo i) (hh : EvPart C σ hi j)
    (hg : ∀ av s o vl vu, AvIn av s.heap → Val av s.heap o p → IsPart vl i → IsPart vu j → ∃ T id, s.TypeIs o T ∧ typeLookup (.type T) "__getitem__" = pure (some (.builtin id)) ∧
      ∀ (Q : Value → Shared → Prop) (E : Value → Shared → Prop), Then s av r Q →
        wpAny (model C.P.prog C.P.w) C.A (getItem o (.ref s.heap.objs.size)) Q E { s with heap := s.heap.push { cls := .type "slice", data := .fields #[vl, vu, .none] } }) :
    Ev C σ (.Subscript value (.Slice lo hi none ps) pos) (.v r) := by
  intro adr s Q E H k
  refine Subscript_ (hv adr s _ E H fun o h1 t1 k1 w1 => wpAny_Slice (ev_part hl (H.stays k1) fun vl h2 t2 k2 w2 => ev_part hh ((H.stays k1).stays k2) fun vu h3 t3 k3 w3 => wpAny_evalPart_none ?_))
  have H3 := ((H.stays k1).stays k2).stays k3
  obtain ⟨T, id, hT, hl, hgo⟩ := hg (C.avo σ.own adr) { s with heap := h3, toks := t3 } o vl vu H3.avin (Val.stays k3 (Val.stays k2 w1)) w2 w3
  have hT' : Shared.TypeIs { s with heap := h3.push { cls := .type "slice", data := .fields #[vl, vu, .none] }, toks := t3 } o T := by
    cases o <;> first | exact hT | (obtain ⟨ob, ho, hc⟩ := hT; exact ⟨ob, Heap.get?_push_of_some _ ho, hc⟩)
  exact tail_any hT' hl (hgo Q E fun v h4 t4 k4 w4 => k v h4 t4 (stays_trans (stays_trans (stays_trans k1 k2) k3) k4) w4) rfl

theorem ev_slice_str {value : Expr} {lo hi : Option Expr} {ps pos : Pos} {x : Str} {i j : Option Int} (hv : Ev C σ value (.v (.str x))) (hl : EvPart C σ lo i) (hh : EvPart C σ hi j) (hs : x.length ≤ sizeLine) :
    Ev C σ (.Subscript value (.Slice lo hi none ps) pos) (.v (.str (Txt.slice x i j))) := by
  refine ev_slice hv hl hh fun av s o vl vu ai w pl pu => ?_
  cases w
  rename_i t
  have kk : KeptH fun h => Soft s.heap h := fun h ob q => stays_trans q (stays_push h ob)
  cases pl <;> cases pu
  · exact ⟨_, _, typeIs_str _ _ _, F.slot_str_getitem.lookup, fun Q E k => (SBH.sliceItem_nn kk (stays_refl _) (fun h' t' q m => k _ h' q m (.str _ _)) hs).elim fun _ h => h.elim fun _ h => h.2.2⟩
  · exact ⟨_, _, typeIs_str _ _ _, F.slot_str_getitem.lookup, fun Q E k => (SBH.sliceItem_ns kk (stays_refl _) (fun h' t' q m => k _ h' q m (.str _ _)) hs).elim fun _ h => h.elim fun _ h => h.2.2⟩
  · exact ⟨_, _, typeIs_str _ _ _, F.slot_str_getitem.lookup, fun Q E k => (SBH.sliceItem_sn kk (stays_refl _) (fun h' t' q m => k _ h' q m (.str _ _)) hs).elim fun _ h => h.elim fun _ h => h.2.2⟩
  · exact ⟨_, _, typeIs_str _ _ _, F.slot_str_getitem.lookup, fun Q E k => (SBH.sliceItem_ss kk (stays_refl _) (fun h' t' q m => k _ h' q m (.str _ _)) hs).elim fun _ h => h.elim fun _ h => h.2.2⟩

noncomputable def pickL {α : Type} (xs : List α) (lo hi : Option Int) : List α := (sliceRange (sliceBounds lo hi none xs.length).1 (sliceBounds lo hi none xs.length).2.1 (sliceBounds lo hi none xs.length).2.2).filterMap (xs[·]?)
theorem vals_pick {av : Addr → Prop} {h : Heap} {vs : List Value} {ps : List PV} (w : Vals av h vs ps) : ∀ ks : List Nat, Vals av h (ks.filterMap (vs[·]?)) (ks.filterMap (ps[·]?))
  | [] => .nil
  | k :: ks => by
    have ih := vals_pick w ks
    cases e : ps[k]? with
    | none =>
      have e' : vs[k]? = none := by
        have hl := w.length
        rw [List.getElem?_eq_none_iff] at e ⊢; lia
      rw [List.filterMap_cons, List.filterMap_cons, e, e']; exact ih
    | some p =>
      obtain ⟨v, hv, w'⟩ := w.get e
      rw [List.filterMap_cons, List.filterMap_cons, e, hv]; exact .cons w' ih
theorem ev_slice_list {value : Expr} {lo hi : Option Expr} {ps pos : Pos} {xs : List PV} {i j : Option Int} (hv : Ev C σ value (.v (.list xs))) (hl : EvPart C σ lo i) (hh : EvPart C σ hi j) (hs : xs.length ≤ sizeLine) :
    Ev C σ (.Subscript value (.Slice lo hi none ps) pos) (.v (.list (pickL xs i j))) := by
  refine ev_slice hv hl hh fun av s o vl vu ai w pl pu => ?_
  cases w with
  | list l n w =>
  rename_i a vs
  have e1 := w.length
  simp only [Array.length_toList] at e1
  refine ⟨_, _, l.typeIs, slot_list_getitem.lookup, fun Q E k => ?_⟩
  refine wpAny_getItem_list_slice (l.push _) (Heap.IsSliceOf.new ..) pl pu .none (fun e => nomatch e) ?_ (by rw [e1]; exact hs)
  refine k _ _ s.toks (stays_trans (stays_push _ _) (stays_push _ _)) (.list ⟨_, Heap.get?_push_size _ rfl, rfl, _, rfl⟩ (fun q => ?_) ?_)
  · exact (AvIn.stays ai (stays_push _ _)).fresh q
  · refine Vals.stays (stays_trans (stays_push _ _) (stays_push _ _)) ?_
    have := vals_pick w (sliceRange (sliceBounds i j none vs.size).1 (sliceBounds i j none vs.size).2.1 (sliceBounds i j none vs.size).2.2)
    unfold slicePick pickL
    rw [← e1]
    simpa using this
end
end Rt

/-! V3c -/
namespace Rt

/-- what a call of f gives, n frames deep at most -/
noncomputable def CallR (P : Pr) (n : Nat) (f : Value) (ps : List PV) (r : PV) : Prop := ∀ A av s vs (Q : Value → Shared → Prop) (E : Value → Shared → Prop), Called A n s.heap → Glb P s.heap → AvIn av s.heap →
  Vals av s.heap vs ps → Then s av r Q → wpAny (model P.prog P.w) A (call f vs) Q E s

section
variable {C : Ctx} {σ : St}
theorem ev_call_b {func : Expr} {e : Expr} {rest : List Expr} {pos : Pos} {id : String} {ps : List PV} {r : PV} {n : Nat} (hf : Ev C σ func (.v (.atom (.builtin id)))) (hes : Evs C σ (e :: rest) (ps.map .v)) (hc : CallR C.P n (.builtin id) ps r) (hn : n ≤ C.n) (hh : C.A.handled = none)
    (he : eval (.Call func (e :: rest) [] pos) C.env = (do callWith pos (← eval func C.env) [] (backTo pos (starEach (e :: rest) C.env)) (backToKw pos (keywordEach [] C.env))))
    (hst : starEach (e :: rest) C.env = (false, eval e C.env) :: starEach rest C.env) (hpl : (backTo pos (starEach rest C.env)).any (·.1) = false) :
    Ev C σ (.Call func (e :: rest) [] pos) (.v r) := by
  intro adr s Q E H k
  refine Call_ (hf adr s _ E H fun fv h1 t1 k1 w1 => ?_) he
  cases w1
  refine callWith_builtin1 (hes adr _ pos _ E (H.stays k1) fun vs h2 t2 k2 w2 => ?_) hst hpl
  have H2 := (H.stays k1).stays k2
  exact hc C.A _ _ vs Q E (H2.called hh hn) H2.g H2.avin (svals_vals w2) fun v h3 t3 k3 w3 => k v h3 t3 (stays_trans (stays_trans k1 k2) k3) w3
theorem ev_call_t {func : Expr} {e : Expr} {rest : List Expr} {pos : Pos} {id : String} {ps : List PV} {r : PV} {n : Nat} (hf : Ev C σ func (.v (.atom (.type id)))) (hes : Evs C σ (e :: rest) (ps.map .v)) (hc : CallR C.P n (.type id) ps r) (hn : n ≤ C.n) (hh : C.A.handled = none)
    (he : eval (.Call func (e :: rest) [] pos) C.env = (do callWith pos (← eval func C.env) [] (backTo pos (starEach (e :: rest) C.env)) (backToKw pos (keywordEach [] C.env))))
    (hst : starEach (e :: rest) C.env = (false, eval e C.env) :: starEach rest C.env) (hpl : (backTo pos (starEach rest C.env)).any (·.1) = false) :
    Ev C σ (.Call func (e :: rest) [] pos) (.v r) := by
  intro adr s Q E H k
  refine Call_ (hf adr s _ E H fun fv h1 t1 k1 w1 => ?_) he
  cases w1
  refine callWith_type1 (hes adr _ pos _ E (H.stays k1) fun vs h2 t2 k2 w2 => ?_) hst hpl
  have H2 := (H.stays k1).stays k2
  exact hc C.A _ _ vs Q E (H2.called hh hn) H2.g H2.avin (svals_vals w2) fun v h3 t3 k3 w3 => k v h3 t3 (stays_trans (stays_trans k1 k2) k3) w3
/-- a def of the text -/
theorem ev_call_d {func : Expr} {e : Expr} {rest : List Expr} {pos : Pos} {f : Value} {ps : List PV} {r : PV} {n : Nat} (d : DefRec) (hd : d ∈ C.P.recs) (hfv : C.P.mg d.name = some f) (hf : Ev C σ func (.v (.atom f))) (hes : Evs C σ (e :: rest) (ps.map .v)) (hc : CallR C.P n f ps r) (hn : n ≤ C.n) (hh : C.A.handled = none)
    (he : eval (.Call func (e :: rest) [] pos) C.env = (do callWith pos (← eval func C.env) [] (backTo pos (starEach (e :: rest) C.env)) (backToKw pos (keywordEach [] C.env))))
    (hst : starEach (e :: rest) C.env = (false, eval e C.env) :: starEach rest C.env) :
    Ev C σ (.Call func (e :: rest) [] pos) (.v r) := by
  intro adr s Q E H k
  refine Call_ (hf adr s _ E H fun fv h1 t1 k1 w1 => ?_) he
  cases w1
  obtain ⟨a, o, pm, code, doc, h1', h2', h3', h4'⟩ := H.g.fn d hd
  rw [h1'] at hfv; cases hfv
  refine callWith_def (o := o) h3' (hes adr _ pos _ E (H.stays k1) fun vs h2 t2 k2 w2 => ⟨(stays_trans k1 k2).nd h2' (fun _ _ q => by rw [h3'] at q; cases q), ?_⟩) hst
  have H2 := (H.stays k1).stays k2
  exact hc C.A _ _ vs Q E (H2.called hh hn) H2.g H2.avin (svals_vals w2) fun v h3 t3 k3 w3 => k v h3 t3 (stays_trans (stays_trans k1 k2) k3) w3
/-- a method of a value that is no list of the frame's own -/
theorem ev_meth {o : Expr} {name : Str} {e : Expr} {rest : List Expr} {apos pos : Pos} {T id : String} {p : PV} {ps : List PV} {r : PV} {n : Nat} (pl : Sem Bool) (ho : Ev C σ o (.v p)) (hes : Evs C σ (e :: rest) (ps.map .v)) (hc : CallR C.P n (.builtin id) (p :: ps) r) (hn : n ≤ C.n) (hh : C.A.handled = none)
    (hT : ∀ av h v (s : Shared), s.heap = h → Val av h v p → s.TypeIs v T ∧ ∀ a, v ≠ .ref a) (pa : PlainAttrs T) (slot : Slot T name id) (hty : typeOf (.builtin id) = pure (.type "method_descriptor"))
    (he : eval (.Call (.Attribute o name apos) (e :: rest) [] pos) C.env = (do
      let ov ← eval o C.env
      standAt apos.atName
      let (f, first) ← holding [ov] (getMethod ov name pl)
      callWith pos f first (backTo pos (starEach (e :: rest) C.env)) []))
    (hst : starEach (e :: rest) C.env = (false, eval e C.env) :: starEach rest C.env) (hpl : (backTo pos (starEach rest C.env)).any (·.1) = false) :
    Ev C σ (.Call (.Attribute o name apos) (e :: rest) [] pos) (.v r) := by
  intro adr s Q E H k
  refine MethodCall_ (pl := pl) (ho adr s _ E H fun ov h1 t1 k1 w1 => ?_) he
  have tt := hT _ _ ov { s with heap := h1, toks := t1 } rfl w1
  refine PySem.getMethod_builtin tt.1 pa slot hty (fun a e => absurd e (tt.2 a)) ?_
  refine callWith_method1 (hes adr _ pos _ E (H.stays k1) fun vs h2 t2 k2 w2 => ?_) hst hpl
  have H2 := (H.stays k1).stays k2
  exact hc C.A _ _ (ov :: vs) Q E (H2.called hh hn) H2.g H2.avin (.cons (Val.stays k2 w1) (svals_vals w2)) fun v h3 t3 k3 w3 => k v h3 t3 (stays_trans (stays_trans k1 k2) k3) w3
theorem ev_meth0 {o : Expr} {name : Str} {apos pos : Pos} {T id : String} {p : PV} {r : PV} {n : Nat} (pl : Sem Bool) (ho : Ev C σ o (.v p)) (hc : CallR C.P n (.builtin id) [p] r) (hn : n ≤ C.n) (hh : C.A.handled = none)
    (hT : ∀ av h v (s : Shared), s.heap = h → Val av h v p → s.TypeIs v T ∧ ∀ a, v ≠ .ref a) (pa : PlainAttrs T) (slot : Slot T name id) (hty : typeOf (.builtin id) = pure (.type "method_descriptor"))
    (he : eval (.Call (.Attribute o name apos) [] [] pos) C.env = (do
      let ov ← eval o C.env
      standAt apos.atName
      let (f, first) ← holding [ov] (getMethod ov name pl)
      callWith pos f first (backTo pos (starEach [] C.env)) [])) :
    Ev C σ (.Call (.Attribute o name apos) [] [] pos) (.v r) := by
  intro adr s Q E H k
  refine MethodCall_ (pl := pl) (ho adr s _ E H fun ov h1 t1 k1 w1 => ?_) he
  have tt := hT _ _ ov { s with heap := h1, toks := t1 } rfl w1
  refine PySem.getMethod_builtin tt.1 pa slot hty (fun a e => absurd e (tt.2 a)) ?_
  refine callWith_method0 ?_
  have H1 := H.stays k1
  exact hc C.A _ _ [ov] Q E (H1.called hh hn) H1.g H1.avin (.cons w1 .nil) fun v h3 t3 k3 w3 => k v h3 t3 (stays_trans k1 k3) w3
theorem str_T (x : Str) : ∀ (av : Addr → Prop) (h : Heap) v (s : Shared), s.heap = h → Val av h v (.str x) → s.TypeIs v "str" ∧ ∀ a, v ≠ .ref a := by
  intro av h v s _ w
  cases w
  exact ⟨typeIs_str _ _ _, fun _ e => nomatch e⟩
end

section
variable {P : Pr} {n : Nat}
theorem c_len (xs : List PV) (hs : xs.length ≤ sizeLine) : CallR P n (.builtin "len") [.list xs] (.int xs.length) := by
  intro A av s vs Q E _ _ _ w k
  cases w with
  | cons w w0 =>
  cases w0
  cases w with
  | list l _ w =>
  have e1 := w.length
  simp only [Array.length_toList] at e1
  have : sizeLine = 16777216 := rfl
  refine call_len_list l (by lia) ?_
  rw [e1]
  exact k _ s.heap _ (stays_refl _) (.int _ _)
theorem c_lens (x : Str) (hs : x.length ≤ sizeLine) : CallR P n (.builtin "len") [.str x] (.int x.length) := by
  intro A av s vs Q E _ _ _ w k
  cases w with
  | cons w w0 =>
  cases w0
  cases w
  have : sizeLine = 16777216 := rfl
  refine PyProof.Rows.len_str (by lia) ?_
  exact k _ s.heap _ (stays_refl _) (.int _ _)
theorem c_isalnum (x : Str) : CallR P n (.builtin "str.isalnum") [.str x] (.bool (Txt.isalnum x)) := by
  intro A av s vs Q E _ _ _ w k
  cases w with
  | cons w w0 =>
  cases w0
  cases w
  exact SC.isalnum (k _ s.heap s.toks (stays_refl _) (.bool _))
theorem c_starts (x y : Str) : CallR P n (.builtin "str.startswith") [.str x, .str y] (.bool (Txt.startswith x y)) := by
  intro A av s vs Q E _ _ _ w k
  cases w with
  | cons w w0 =>
  cases w0 with
  | cons w1 w0 =>
  cases w0
  cases w
  cases w1
  exact SC.startswith (k _ s.heap s.toks (stays_refl _) (.bool _))
theorem c_ends (x y : Str) : CallR P n (.builtin "str.endswith") [.str x, .str y] (.bool (Txt.endswith x y)) := by
  intro A av s vs Q E _ _ _ w k
  cases w with
  | cons w w0 =>
  cases w0 with
  | cons w1 w0 =>
  cases w0
  cases w
  cases w1
  exact SC.endswith (k _ s.heap s.toks (stays_refl _) (.bool _))
theorem vals_strs {av : Addr → Prop} {h : Heap} {vs : List Value} {xs : List Str} (w : Vals av h vs (xs.map .str)) : StrsAre vs xs := by
  induction xs generalizing vs with
  | nil => cases w; exact .nil
  | cons x xs ih =>
    cases w with
    | cons a b => cases a with
      | str x t => exact .cons x t (ih b)
theorem strs_vals {av : Addr → Prop} {h : Heap} : ∀ {vs : List Value} {xs : List Str}, StrsAre vs xs → Vals av h vs (xs.map .str) := fun w => by
  induction w with
  | nil => exact .nil
  | cons x t b ih => exact .cons (.str x t) ih
theorem c_join (x : Str) (ys : List Str) (hx : x.length ≤ 64) (hs : (ys.map (·.length)).sum + ys.length * 64 ≤ 16777216) : CallR P n (.builtin "str.join") [.str x, .list (ys.map .str)] (.str (Txt.join x ys)) := by
  intro A av s vs Q E _ _ _ w k
  cases w with
  | cons w w0 =>
  cases w0 with
  | cons w1 w0 =>
  cases w0
  cases w
  cases w1 with
  | list l _ w =>
  exact join_listC l (vals_strs w) hx hs fun t' tk => k _ s.heap tk (stays_refl _) (.str _ _)
theorem vals_strValues {av : Addr → Prop} {h : Heap} : ∀ (l : List (Str × Tok)), Vals av h (strValues l) ((l.map (·.1)).map .str)
  | [] => .nil
  | (x, t) :: r => .cons (.str x t) (vals_strValues r)
open PySem.Builtin.Str in
theorem c_split (x y : Str) (hy : (y.length == 0) = false) (hsz : x.length ≤ sizeLine)
    (hsz2 : (partsBetween x (occurrences x y 0 x.length (x.length + 1)) y.length).length ≤ sizeLine) : CallR P n (.builtin "str.split") [.str x, .str y] (.list ((Txt.split x y).map .str)) := by
  intro A av s vs Q E _ _ ai w k
  cases w with
  | cons w w0 =>
  cases w0 with
  | cons w1 w0 =>
  cases w0
  cases w with
  | str _ t =>
  cases w1 with
  | str _ u =>
  have hq : ∀ (l : List (Str × Tok)) tk, l.map (·.1) = Txt.split x y → Q (.ref s.heap.objs.size) { s with heap := s.heap.push { cls := .type "list", data := .seq (strValues l).toArray }, toks := tk } := fun l tk e =>
    k _ _ tk (stays_push _ _) (val_newlist ai (by rw [← e]; simpa using vals_strValues l))
  cases h1 : (decide (x.length < y.length) || decide (strKind x < strKind y))
  · cases hf : (occurrences x y 0 x.length (x.length + 1)).isEmpty
    · refine call_meets F.slot_str_split (typeIs_str _ _ _) F.entry_str_split (F.args_str_split_2 _ _) (meets_str_split_sep x y t u h1 hy hf hsz hsz2) ?_
      show wants Q E _ { s with toks := _, heap := s.heap.push { cls := .type "list", data := .seq (strsFrom s.toks (partsBetween x (occurrences x y 0 x.length (x.length + 1)) y.length)).toArray } }
      rw [strsFrom_eq]
      exact hq (numbered s.toks _) _ ((numbered_texts _ _).trans ((if_neg (ne_true_of_eq_false h1)).trans (if_neg (ne_true_of_eq_false hf))).symm)
    · exact call_meets F.slot_str_split (typeIs_str _ _ _) F.entry_str_split (F.args_str_split_2 _ _) (meets_str_split_not_found x y t u h1 hy hf)
        (hq [(x, t)] _ ((if_neg (ne_true_of_eq_false h1)).trans (if_pos hf)).symm)
  · exact call_meets F.slot_str_split (typeIs_str _ _ _) F.entry_str_split (F.args_str_split_2 _ _) (meets_str_split_cannot_occur x y t u h1)
      (hq [(x, t)] _ (if_pos h1).symm)
theorem c_sorted (xs : List Str) (hs : xs.length < 64) : ∀ A av s vs (Q : Value → Shared → Prop) (E : Value → Shared → Prop), AvIn av s.heap → Vals av s.heap vs [.list (xs.map .str)] →
    (∀ ys v h' tk, ys.Perm xs → sortedS ys = true → Soft s.heap h' → Val av h' v (.list (ys.map .str)) → Q v { s with heap := h', toks := tk }) → wpAny (model P.prog P.w) A (call (.builtin "sorted") vs) Q E s := by
  intro A av s vs Q E ai w k
  cases w with
  | cons w w0 =>
  cases w0
  cases w with
  | list l _ w =>
  have e1 := w.length
  simp only [List.length_map] at e1
  rename_i a its hn
  refine sorted_strs (vs := its.toList) l (vals_strs w) (by lia) fun out ss' h1 h2 h3 => ?_
  obtain ⟨e, he⟩ := sortedAll_at s.heap its.toList out
  refine k ss' _ _ s.toks h2 h3 (Soft.of fun _ _ => sortedAll_old) (.list ⟨_, he, rfl, _, rfl⟩ (fun q => ?_) ?_)
  · obtain ⟨o, ho⟩ := Option.isSome_iff_exists.mp (ai _ q)
    exact Nat.not_lt.mpr (Nat.le_succ _) (Heap.lt_size ho)
  · simpa using strs_vals h1
theorem c_type_str (x : Str) : CallR P n (.type "type") [.str x] (.atom (.type "str")) := by
  intro A av s vs Q E _ _ _ w k
  cases w with
  | cons w w0 =>
  cases w0
  cases w
  exact call_type_of (typeIs_str _ _ _) (by decide) (k _ s.heap s.toks (stays_refl _) (.atom _))
end
end Rt

/-! V4a -/
namespace Rt

noncomputable def St.setv (σ : St) (i : Nat) (sv : SV) : St := { σ with loc := σ.loc.set i sv }

noncomputable abbrev Owns := List (Option (List SV))
noncomputable def al (own : Owns) (adr : List Addr) (a : Addr) : Prop := ∃ (k : Nat) (xs : List SV), own[k]? = some (some xs) ∧ adr[k]? = some a
noncomputable def SoftAt (o : Obj) (h' : Heap) (b : Addr) : Prop := h'.get? b = some o ∨ (NsObj b o ∧ ∃ es ep o', o.data = .dict es ep ∧ h'.get? b = some o' ∧ o'.cls = o.cls ∧ o'.data = o.data)
/-- what a statement may have changed: the frame's own objects alone -/
structure Frm (C : Ctx) (own : Owns) (adr : List Addr) (h : Heap) (own' : Owns) (adr' : List Addr) (h' : Heap) : Prop where
  keep : ∀ b o, h.get? b = some o → b ≠ C.env.locals → (∀ x c, C.env.cells.lookup x = some c → b ≠ c) → ¬ al own adr b → SoftAt o h' b
  als : ∀ a, al own' adr' a → al own adr a ∨ h.get? a = none
  alive : ∀ b, (h.get? b).isSome = true → (h'.get? b).isSome = true
  adrs : ∀ a ∈ adr', a ∈ adr ∨ h.get? a = none
theorem Frm.refl (C : Ctx) (own : Owns) (adr : List Addr) (h : Heap) : Frm C own adr h own adr h := ⟨fun _ _ e _ _ _ => .inl e, fun _ h => .inl h, fun _ h => h, fun _ h => .inl h⟩
theorem alive_stays {h h' : Heap} (k : Soft h h') : ∀ b, (h.get? b).isSome = true → (h'.get? b).isSome = true := fun b hb => k.alive hb
theorem Frm.of_stays {C : Ctx} {own : Owns} {adr : List Addr} {h h' : Heap} (k : Soft h h') : Frm C own adr h own adr h' := ⟨fun b o e _ _ _ => k b o e, fun _ h => .inl h, alive_stays k, fun _ h => .inl h⟩
theorem Frm.trans {C : Ctx} {o1 o2 o3 : Owns} {a1 a2 a3 : List Addr} {h1 h2 h3 : Heap} (x : Frm C o1 a1 h1 o2 a2 h2) (y : Frm C o2 a2 h2 o3 a3 h3) : Frm C o1 a1 h1 o3 a3 h3 := by
  have n2 : ∀ b o, h1.get? b = some o → ¬ al o1 a1 b → ¬ al o2 a2 b := fun b o e hb h2 => (x.als b h2).elim hb fun q => by rw [q] at e; cases e
  refine ⟨fun b o e hl hc hb => by
    rcases x.keep b o e hl hc hb with q | ⟨f, es, ep, o', q1, q2, q3, q4⟩
    · exact y.keep b o q hl hc (n2 b o e hb)
    · rcases y.keep b o' q2 hl hc (n2 b o e hb) with r | ⟨_, es', ep', o'', r1, r2, r3, r4⟩
      · exact .inr ⟨f, es, ep, o', q1, r, q3, q4⟩
      · exact .inr ⟨f, es, ep, o'', q1, r2, r3.trans q3, r4.trans q4⟩, fun a ha => ?_, fun b hb => y.alive b (x.alive b hb), fun a ha => ?_⟩
  · rcases y.als a ha with q | q
    · exact x.als a q
    · cases e : h1.get? a with
      | none => exact .inr rfl
      | some o =>
        have := x.alive a (by rw [e]; rfl)
        rw [q] at this; cases this
  · rcases y.adrs a ha with q | q
    · exact x.adrs a q
    · cases e : h1.get? a with
      | none => exact .inr rfl
      | some o =>
        have := x.alive a (by rw [e]; rfl)
        rw [q] at this; cases this

/-- the objects that the deep values and the bound methods are made of stand, but for one that is none of them -/
theorem seq_sameBut {av : Addr → Prop} {h h' : Heap} {a : Addr} (hs : Heap.SameBut a h h') (na : ∀ o, h.get? a = some o → ∀ xs n, o.data ≠ .seq xs n) : SeqKeeps av h h' := fun b o xs n _ e d => by
  by_cases hb : b = a
  · subst hb; exact absurd d (na o e xs n)
  · rw [hs.2 b hb]; exact e
theorem bfm_sameBut {h h' : Heap} {a : Addr} (hs : Heap.SameBut a h h') (na : ∀ o, h.get? a = some o → o.cls = .type "builtin_function_or_method" → ∀ vs, o.data ≠ .fields vs) : BfmKeeps h h' := fun b o vs e c d => by
  by_cases hb : b = a
  · subst hb; exact absurd d (na o e c vs)
  · rw [hs.2 b hb]; exact e
theorem isList_sameBut {h h' : Heap} {a l : Addr} {its : Array Value} (hs : Heap.SameBut a h h') (x : h.IsList l its) (na : l ≠ a) : h'.IsList l its := let ⟨o, ho, r⟩ := x; ⟨o, by rw [hs.2 l na]; exact ho, r⟩

structure CtxOk (C : Ctx) : Prop where
  nodup : C.names.Nodup
  apart : C.env.cells.Pairwise fun x y => x.2 ≠ y.2
  locals : C.h₀.get? C.env.locals = none
  /-- the namespace is no bound method -/
  hp : (C.env.scope.kind == .class || (C.env.scope.kind == .module && C.env.locals != C.env.globals)) = false

theorem cell_of_lookup {cs : List (Str × Addr)} (ap : cs.Pairwise fun x y => x.2 ≠ y.2) {x y : Str} {c : Addr} (h1 : cs.lookup x = some c) (h2 : cs.lookup y = some c) : x = y :=
  name_of_addr ap (mem_of_lookup h1) (mem_of_lookup h2)

theorem soft_but {h0 h h' : Heap} {a : Addr} (k : Soft h0 h) (hs : Heap.SameBut a h h') (hf : h0.get? a = none) : Soft h0 h' := fun b o e => by
  have hb : b ≠ a := by rintro rfl; rw [hf] at e; cases e
  rw [hs.2 b hb]; exact k b o e
theorem soft_ext {h0 h h' : Heap} {a : Addr} (k : Soft h0 h) (hs : Heap.ExtBut a h h') (hf : h0.get? a = none) : Soft h0 h' := fun b o e => by
  have hb : b ≠ a := by rintro rfl; rw [hf] at e; cases e
  rcases k b o e with q | ⟨f, es, ep, o', q1, q2, q3⟩
  · exact .inl (hs b o hb q)
  · exact .inr ⟨f, es, ep, o', q1, hs b o' hb q2, q3⟩
section
variable {C : Ctx} {σ : St} {adr : List Addr} {s : Shared}

/-- one object of the frame's storage is changed, none of the values -/
theorem Holds.change {h h' : Heap} {a : Addr} (H : Holds C σ adr h) (hs : Heap.SameBut a h h') (nd : ∀ o, h.get? a = some o → (∀ xs n, o.data ≠ .seq xs n) ∧ (o.cls = .type "builtin_function_or_method" → ∀ vs, o.data ≠ .fields vs))
    (hf : C.h₀.get? a = none) (al : (h'.get? a).isSome = true) (ns : ∃ m, h'.Ns C.env.locals m) (ci : ∀ x c, C.env.cells.lookup x = some c → ∃ v, h'.IsCell c v)
    (vars : ∀ (i : Nat) (x : Str) (sv : SV), C.names[i]? = some x → σ.loc[i]? = some sv → sv = .un ∨ ∃ v, Read C.env h' x v ∧ SVal (C.avo σ.own adr) adr h v sv) : Holds C σ adr h' := by
  have sk : ∀ av, SeqKeeps av h h' := fun av => seq_sameBut hs fun o e => (nd o e).1
  have bk : BfmKeeps h h' := bfm_sameBut hs fun o e => (nd o e).2
  refine ⟨?_, H.glb, H.kind, H.gl, ns, ci, fun i x sv h1 h2 => (vars i x sv h1 h2).imp_right fun ⟨v, r, w⟩ => ⟨v, r, w.keep (sk _) (fun _ _ n => n) bk⟩, H.len, H.nodup, fun k xs b h1 h2 => ?_, H.fresh, fun b hb => ?_, H.avold, H.room⟩
  · exact soft_but H.keep hs hf
  · obtain ⟨its, l, w⟩ := H.own k xs b h1 h2
    refine ⟨its, l.extBut hs.extBut ?_, w.keep (sk _) (fun _ _ n => n) bk⟩
    rintro rfl
    obtain ⟨n, ho⟩ := l
    exact (nd _ ho).1 _ _ rfl
  · by_cases e : b = a
    · subst e; exact al
    · rw [hs.2 b e]; exact H.adrin b hb
theorem names_ne (K : CtxOk C) {i j : Nat} {x y : Str} (hi : C.names[i]? = some x) (hj : C.names[j]? = some y) (ne : i ≠ j) : x ≠ y := by
  rintro rfl
  obtain ⟨li, ei⟩ := List.getElem?_eq_some_iff.mp hi
  obtain ⟨lj, ej⟩ := List.getElem?_eq_some_iff.mp hj
  exact ne ((List.getElem_inj K.nodup).mp (ei.trans ej.symm))
theorem ns_ne_cell {h : Heap} {L c : Addr} {m : Str → Option Value} {v : Option Value} (hn : h.Ns L m) (hc : h.IsCell c v) : L ≠ c := by
  rintro rfl
  obtain ⟨o, es, ep, ho, hd, _⟩ := hn
  obtain ⟨o', ho', hd'⟩ := hc
  rw [ho] at ho'; cases ho'
  rw [hd] at hd'; cases hd'
theorem alive_ns {h : Heap} {L : Addr} {m : Str → Option Value} (hn : h.Ns L m) : (h.get? L).isSome = true := by obtain ⟨o, es, ep, ho, _⟩ := hn; rw [ho]; rfl
theorem Frm.sameBut {h h' : Heap} {a : Addr} (hs : Heap.SameBut a h h') (hal : (h'.get? a).isSome = true) (ha : a = C.env.locals ∨ (∃ x, C.env.cells.lookup x = some a) ∨ al σ.own adr a) : Frm C σ.own adr h σ.own adr h' :=
  ⟨fun b o e h1 h2 h3 => .inl (by rw [hs.2 b (by rintro rfl; rcases ha with q | ⟨x, q⟩ | q; exact h1 q; exact h2 _ _ q rfl; exact h3 q)]; exact e), fun _ h => .inl h, fun b hb => by
    by_cases e : b = a
    · subst e; exact hal
    · rw [hs.2 b e]; exact hb, fun _ h => .inl h⟩

theorem setv_get {i j : Nat} {sv sv' : SV} (e : (σ.setv i sv).loc[j]? = some sv') : (j = i ∧ sv' = sv) ∨ (j ≠ i ∧ σ.loc[j]? = some sv') := by
  have e' : (σ.loc.set i sv)[j]? = some sv' := e
  rw [List.getElem?_set] at e'
  by_cases hj : i = j
  · subst hj
    rw [if_pos rfl] at e'
    by_cases hl : i < σ.loc.length
    · rw [if_pos hl] at e'; cases e'; exact .inl ⟨rfl, rfl⟩
    · rw [if_neg hl] at e'; cases e'
  · rw [if_neg hj] at e'; exact .inr ⟨Ne.symm hj, e'⟩
theorem Holds.clear {h : Heap} (H : Holds C σ adr h) (i : Nat) : Holds C (σ.setv i .un) adr h :=
  ⟨H.keep, H.glb, H.kind, H.gl, H.ns, H.cellsIn, fun j y sv' h1 h2 => by
    rcases setv_get h2 with ⟨rfl, rfl⟩ | ⟨ne, h2⟩
    · exact .inl rfl
    · exact H.vars j y sv' h1 h2, H.len, H.nodup, H.own, H.fresh, H.adrin, H.avold, H.room⟩
theorem Holds.fill {h : Heap} {i : Nat} {x : Str} {v : Value} {sv : SV} (H : Holds C (σ.setv i .un) adr h) (hn : C.names[i]? = some x) (r : Read C.env h x v) (w : SVal (C.avo σ.own adr) adr h v sv) : Holds C (σ.setv i sv) adr h :=
  ⟨H.keep, H.glb, H.kind, H.gl, H.ns, H.cellsIn, fun j y sv' h1 h2 => by
    rcases setv_get h2 with ⟨rfl, rfl⟩ | ⟨ne, h2⟩
    · rw [hn] at h1; cases h1; exact .inr ⟨v, r, w⟩
    · refine H.vars j y sv' h1 ?_
      show (σ.loc.set i .un)[j]? = some sv'
      rw [List.getElem?_set_ne (Ne.symm ne)]; exact h2, H.len, H.nodup, H.own, H.fresh, H.adrin, H.avold, H.room⟩

/-- a name of the frame is stored -/
theorem store_any (K : CtxOk C) (i : Nat) {x : Str} {v : Value} {sv : SV} {Q : Unit → Shared → Prop} {E : Value → Shared → Prop} (hn : C.names[i]? = some x)
    (hk : C.env.kindOf x = some .local ∨ (C.env.kindOf x = some .cell ∧ ∃ c, C.env.cells.lookup x = some c ∧ C.h₀.get? c = none)) (H : Holds C σ adr s.heap) (w : SVal (C.avo σ.own adr) adr s.heap v sv)
    (k : ∀ h' tk, Holds C (σ.setv i sv) adr h' → Frm C σ.own adr s.heap σ.own adr h' → (∀ u su, SVal (C.avo σ.own adr) adr s.heap u su → SVal (C.avo σ.own adr) adr h' u su) → Q () { s with heap := h', toks := tk }) :
    wpAny (model C.P.prog C.P.w) C.A (storeName C.env x v) Q E s := by
  obtain ⟨m, hm⟩ := H.ns
  have H0 := H.clear i
  rcases hk with hl | ⟨hl, c, hc, hc0⟩
  · refine wpAny_storeName_local hl hm (fun h' hn' hs => ?_) K.hp
    have nd : ∀ o, s.heap.get? C.env.locals = some o → (∀ xs n, o.data ≠ .seq xs n) ∧ (o.cls = .type "builtin_function_or_method" → ∀ vs, o.data ≠ .fields vs) := fun o e => by
      obtain ⟨o', es, ep, ho, hd, _⟩ := hm
      rw [ho] at e; cases e
      rw [hd]; exact ⟨(fun _ _ q => nomatch q), (fun _ _ q => nomatch q)⟩
    have rd : ∀ y u, y ≠ x → Read C.env s.heap y u → Read C.env h' y u := fun y u ne r => by
      rcases r with ⟨e, m₂, hm₂, hv⟩ | ⟨e, c, hc, hv⟩
      · refine .inl ⟨e, _, hn', ?_⟩
        have : m₂ y = m y := by
          obtain ⟨o, es, ep, ho, hd, hk, hf⟩ := hm
          obtain ⟨o', es', ep', ho', hd', hk', hf'⟩ := hm₂
          rw [ho] at ho'; cases ho'
          rw [hd] at hd'; cases hd'
          rw [← hf, ← hf']
        rw [if_neg ne, ← this]; exact hv
      · exact .inr ⟨e, c, hc, hv.sameBut hs (Ne.symm (ns_ne_cell hm hv))⟩
    have sk := seq_sameBut (av := C.avo σ.own adr) hs fun o e => (nd o e).1
    have bk := bfm_sameBut hs fun o e => (nd o e).2
    refine k h' _ ?_ (Frm.sameBut hs (alive_ns hn') (.inl rfl)) (fun u su x => x.keep sk (fun _ _ n => n) bk)
    have H1 : Holds C (σ.setv i .un) adr h' := H0.change hs nd K.locals (alive_ns hn') ⟨_, hn'⟩ (fun y c e => let ⟨v, hv⟩ := H.cellsIn y c e; ⟨v, hv.sameBut hs (Ne.symm (ns_ne_cell hm hv))⟩) fun j y sv' h1 h2 => by
      rcases setv_get h2 with ⟨rfl, rfl⟩ | ⟨ne, h2⟩
      · exact .inl rfl
      · exact (H.vars j y sv' h1 h2).imp_right fun ⟨u, r, w'⟩ => ⟨u, rd y u (names_ne K h1 hn ne) r, w'⟩
    exact H1.fill hn (.inl ⟨hl, _, hn', if_pos rfl⟩) (w.keep sk (fun _ _ n => n) bk)
  · obtain ⟨v₀, hcell⟩ := H.cellsIn x c hc
    refine wpAny_storeName_cell H.kind hl hc hcell (fun h' hv' hs => ?_)
    have nd : ∀ o, s.heap.get? c = some o → (∀ xs n, o.data ≠ .seq xs n) ∧ (o.cls = .type "builtin_function_or_method" → ∀ vs, o.data ≠ .fields vs) := fun o e => by
      obtain ⟨o', ho, hd⟩ := hcell
      rw [ho] at e; cases e
      rw [hd]; exact ⟨(fun _ _ q => nomatch q), (fun _ _ q => nomatch q)⟩
    have hLc := ns_ne_cell hm hcell
    have al : (h'.get? c).isSome = true := by obtain ⟨o, ho, _⟩ := hv'; rw [ho]; rfl
    have rd : ∀ y u, y ≠ x → Read C.env s.heap y u → Read C.env h' y u := fun y u ne r => by
      rcases r with ⟨e, m₂, hm₂, hv⟩ | ⟨e, c', hc', hv⟩
      · exact .inl ⟨e, m₂, hm₂.sameBut hs hLc, hv⟩
      · refine .inr ⟨e, c', hc', hv.sameBut hs ?_⟩
        rintro rfl
        exact ne (cell_of_lookup K.apart hc' hc)
    have sk := seq_sameBut (av := C.avo σ.own adr) hs fun o e => (nd o e).1
    have bk := bfm_sameBut hs fun o e => (nd o e).2
    refine k h' _ ?_ (Frm.sameBut hs al (.inr (.inl ⟨x, hc⟩))) (fun u su x => x.keep sk (fun _ _ n => n) bk)
    have H1 : Holds C (σ.setv i .un) adr h' := H0.change hs nd hc0 al ⟨m, hm.sameBut hs hLc⟩ (fun y c' e => by
      by_cases q : c' = c
      · subst q; exact ⟨_, hv'⟩
      · obtain ⟨v, hv⟩ := H.cellsIn y c' e; exact ⟨v, hv.sameBut hs q⟩) fun j y sv' h1 h2 => by
      rcases setv_get h2 with ⟨rfl, rfl⟩ | ⟨ne, h2⟩
      · exact .inl rfl
      · exact (H.vars j y sv' h1 h2).imp_right fun ⟨u, r, w'⟩ => ⟨u, rd y u (names_ne K h1 hn ne) r, w'⟩
    exact H1.fill hn (.inr ⟨.inl hl, c, hc, hv'⟩) (w.keep sk (fun _ _ n => n) bk)
end
end Rt

/-! V4b -/
namespace Rt

inductive Out where
  | next | brk | cont
  | ret (p : SV)
noncomputable def Fl (C : Ctx) (σ : St) (adr : List Addr) (h : Heap) : Flow → Out → Prop
  | .next, .next => True
  | .brk, .brk => True
  | .cont, .cont => True
  | .ret v, .ret sv => SVal (C.avo σ.own adr) adr h v sv
  | _, _ => False

noncomputable abbrev ThenS (C : Ctx) (own : Owns) (σ : St) (o : Out) (adr : List Addr) (s : Shared) (Q : Flow → Shared → Prop) : Prop :=
  ∀ f h' tk adr', Holds C σ adr' h' → Frm C own adr s.heap σ.own adr' h' → Fl C σ adr' h' f o → Q f { s with heap := h', toks := tk }
noncomputable def Ex (C : Ctx) (σ : St) (st : Stmt) (o : Out) (σ' : St) : Prop := ∀ adr s (Q : Flow → Shared → Prop) (E : Value → Shared → Prop), Holds C σ adr s.heap → ThenS C σ.own σ' o adr s Q →
  wpAny (model C.P.prog C.P.w) C.A (exec st C.env) Q E s
noncomputable def Exs (C : Ctx) (σ : St) (st : List Stmt) (o : Out) (σ' : St) : Prop := ∀ adr s (Q : Flow → Shared → Prop) (E : Value → Shared → Prop), Holds C σ adr s.heap → ThenS C σ.own σ' o adr s Q →
  wpAny (model C.P.prog C.P.w) C.A (execs st C.env) Q E s

section
variable {C : Ctx} {σ σ₁ σ' : St} {o : Out}
theorem exs_nil : Exs C σ [] .next σ := fun adr s _ _ H k => wpAny_execs_nil (k .next s.heap s.toks adr H (Frm.refl ..) trivial)
theorem exs_cons {st : Stmt} {rest : List Stmt} (h : Ex C σ st .next σ₁) (hr : Exs C σ₁ rest o σ') : Exs C σ (st :: rest) o σ' := by
  intro adr s Q E H k
  refine wpAny_execs_cons (h adr s _ E H fun f h1 t1 a1 H1 F1 w1 => ?_)
  cases f <;> first | exact hr a1 _ Q E H1 (fun f h2 t2 a2 H2 F2 w2 => k f h2 t2 a2 H2 (F1.trans F2) w2) | exact w1.elim
theorem exs_stop {st : Stmt} {rest : List Stmt} (ho : o ≠ .next) (h : Ex C σ st o σ') : Exs C σ (st :: rest) o σ' := by
  intro adr s Q E H k
  refine wpAny_execs_cons (h adr s _ E H fun f h1 t1 a1 H1 F1 w1 => ?_)
  cases o with
  | next => exact absurd rfl ho
  | brk => cases f <;> first | exact w1.elim | exact k _ h1 t1 a1 H1 F1 w1
  | cont => cases f <;> first | exact w1.elim | exact k _ h1 t1 a1 H1 F1 w1
  | ret p => cases f <;> first | exact w1.elim | exact k _ h1 t1 a1 H1 F1 w1
theorem ex_if {test : Expr} {a b : List Stmt} {pos : Pos} {c : Bool} (ht : Tr C σ test c) (h1 : c = true → Exs C σ a o σ') (h2 : c = false → Exs C σ b o σ') : Ex C σ (.If test a b pos) o σ' := by
  intro adr s Q E H k
  refine wpAny_If (ht adr s _ E H fun h' tk k' => ?_)
  have kk : ThenS C σ.own σ' o adr { s with heap := h', toks := tk } Q := fun f h2 t2 a2 H2 F2 w2 => k f h2 t2 a2 H2 ((Frm.of_stays k').trans F2) w2
  cases c with
  | true => rw [if_pos rfl]; exact h1 rfl adr _ Q E (H.stays k') kk
  | false => rw [if_neg (by decide)]; exact h2 rfl adr _ Q E (H.stays k') kk
theorem ex_ret {e : Expr} {pos : Pos} {sv : SV} (h : Ev C σ e sv) : Ex C σ (.Return (some e) pos) (.ret sv) σ := by
  intro adr s Q E H k
  exact wpAny_Return_some (h adr s _ E H fun v h' tk k' w => k (.ret v) h' tk adr (H.stays k') (Frm.of_stays k') w)
theorem ex_brk {pos : Pos} : Ex C σ (.Break pos) .brk σ := fun adr s _ _ H k => wpAny_Break (k .brk s.heap s.toks adr H (Frm.refl ..) trivial)
theorem ex_cont {pos : Pos} : Ex C σ (.Continue pos) .cont σ := fun adr s _ _ H k => wpAny_Continue (k .cont s.heap s.toks adr H (Frm.refl ..) trivial)
theorem ex_assert {test : Expr} {pos : Pos} (hh : C.A.handled = none) (ht : Tr C σ test true) : Ex C σ (.Assert test none pos) .next σ := by
  intro adr s Q E H k
  refine wpAny_Assert hh (ht adr s _ E H fun h' tk k' => ?_)
  rw [if_pos rfl]
  exact k .next h' tk adr (H.stays k') (Frm.of_stays k') trivial

/-- where a name of the frame may be stored -/
noncomputable def Slotted (C : Ctx) (x : Str) : Prop := C.env.kindOf x = some .local ∨ (C.env.kindOf x = some .cell ∧ ∃ c, C.env.cells.lookup x = some c ∧ C.h₀.get? c = none)

theorem ex_store (K : CtxOk C) (i : Nat) {x : Str} {v : Value} {sv : SV} {adr : List Addr} {s : Shared} {Q : Unit → Shared → Prop} {E : Value → Shared → Prop} (hn : C.names[i]? = some x) (hk : Slotted C x) (H : Holds C σ adr s.heap) (w : SVal (C.avo σ.own adr) adr s.heap v sv)
    (k : ∀ h' tk, Holds C (σ.setv i sv) adr h' → Frm C σ.own adr s.heap σ.own adr h' → Q () { s with heap := h', toks := tk }) :
    wpAny (model C.P.prog C.P.w) C.A (storeName C.env x v) Q E s := store_any K i hn hk H w fun h' tk H' F _ => k h' tk H' F
theorem ex_assign (K : CtxOk C) (i : Nat) {x : Str} {e : Expr} {p pos : Pos} {sv : SV} (hn : C.names[i]? = some x) (hk : Slotted C x) (h : Ev C σ e sv) (hs : swapsWith e (some (.Name x p)) pos.line C.env = pure false) :
    Ex C σ (.Assign [.Name x p] e pos) .next (σ.setv i sv) := by
  intro adr s Q E H k
  refine wpAny_Assign_Name (h adr s _ E H fun v h1 t1 k1 w1 => ?_) hs
  exact ex_store K i hn hk (H.stays k1) w1 fun h2 t2 H2 F2 => k .next h2 t2 adr H2 ((Frm.of_stays k1).trans F2) trivial
theorem ld_name (i : Nat) {x : Str} {sv : SV} (hn : C.names[i]? = some x) (hl : σ.loc[i]? = some sv) (hu : sv ≠ .un) {adr : List Addr} {s : Shared} {Q : Value → Shared → Prop} {E : Value → Shared → Prop} (H : Holds C σ adr s.heap)
    (k : ∀ v, SVal (C.avo σ.own adr) adr s.heap v sv → Q v s) : wpAny (model C.P.prog C.P.w) C.A (loadName C.env x) Q E s := by
  rcases H.vars i x sv hn hl with e | ⟨v, r, w⟩
  · exact absurd e hu
  · have q := k v w
    rcases r with ⟨e, m, hn, hm⟩ | ⟨e | ⟨e, ec⟩, c, hc, hv⟩
    · exact wpAny_loadName_local H.kind e hn hm q
    · exact wpAny_loadName_cell H.kind e hc hv q
    · exact wpAny_loadName_free H.kind e hc hv q ec
theorem ex_aug (K : CtxOk C) (i : Nat) {x : Str} {e : Expr} {op : Operator} {p pos : Pos} {a b r : PV} (hn : C.names[i]? = some x) (hk : Slotted C x) (hl : σ.loc[i]? = some (.v a)) (h : Ev C σ e (.v b)) (hb : BinR C.P C.A (inplaceOp op) a b r) :
    Ex C σ (.AugAssign (.Name x p) op e pos) .next (σ.setv i (.v r)) := by
  intro adr s Q E H k
  refine wpAny_AugAssign_Name (ld_name i hn hl (fun q => nomatch q) H fun v1 w1 => h adr _ _ E H fun v2 h2 t2 k2 w2 => ?_)
  have H2 := H.stays k2
  have w1' : Val (C.avo σ.own adr) s.heap v1 a := w1
  refine hb _ _ v1 v2 _ E H2.g (H2.room.toRoom.le (Nat.zero_le _)) H2.avin (Val.stays k2 w1') w2 fun v h3 t3 k3 w3 => ?_
  exact ex_store (sv := .v r) K i hn hk (H2.stays k3) w3 fun h4 t4 H4 F4 => k .next h4 t4 adr H4 ((Frm.of_stays (stays_trans k2 k3)).trans F4) trivial

/-- the stores of an unpacked tuple, one by one -/
noncomputable def St.setvs (σ : St) : List (Nat × SV) → St
  | [] => σ
  | (i, sv) :: r => (σ.setv i sv).setvs r
theorem setvs_own (σ : St) : ∀ l, (σ.setvs l).own = σ.own
  | [] => rfl
  | (_, _) :: r => by rw [St.setvs, setvs_own]; rfl
theorem avo_setvs (σ : St) (l) (adr : List Addr) : C.avo (σ.setvs l).own adr = C.avo σ.own adr := by rw [setvs_own]
theorem svals_map {av : Addr → Prop} {adr : List Addr} {h h' : Heap} (kp : ∀ u su, SVal av adr h u su → SVal av adr h' u su) : ∀ {vs svs}, SVals av adr h vs svs → SVals av adr h' vs svs := fun w => by
  induction w with
  | nil => exact .nil
  | cons a b ih => exact .cons (kp _ _ a) ih
noncomputable abbrev Tgt := Nat × Str × (Value → Sem Unit)
noncomputable def TgtOk (C : Ctx) (E : Value → Shared → Prop) (t : Tgt) : Prop := C.names[t.1]? = some t.2.1 ∧ Slotted C t.2.1 ∧ ∀ v (s : Shared) (Q : Unit → Shared → Prop), wpAny (model C.P.prog C.P.w) C.A (storeName C.env t.2.1 v) Q E s → wpAny (model C.P.prog C.P.w) C.A (t.2.2 v) Q E s
theorem stores_seq (K : CtxOk C) {adr : List Addr} {E : Value → Shared → Prop} (ts : List Tgt) : ∀ (vs : List Value) (svs : List SV) (σ : St) (s : Shared) (Q : Unit → Shared → Prop),
    (∀ t ∈ ts, TgtOk C E t) → ts.length = svs.length → Holds C σ adr s.heap → SVals (C.avo σ.own adr) adr s.heap vs svs →
    (∀ h' tk, Holds C (σ.setvs ((ts.map (·.1)).zip svs)) adr h' → Frm C σ.own adr s.heap σ.own adr h' → Q () { s with heap := h', toks := tk }) →
    wpAny (model C.P.prog C.P.w) C.A (assignInOrder (ts.map (·.2.2)) vs) Q E s := by
  induction ts with
  | nil =>
    intro vs svs σ s Q ht hl H w k
    cases w with
    | nil => exact wpAny_assignInOrder_none (k s.heap s.toks H (Frm.refl ..))
    | cons _ _ => simp at hl
  | cons t ts ih =>
    intro vs svs σ s Q ht hl H w k
    cases w with
    | nil => simp at hl
    | cons w ws =>
      obtain ⟨h1, h2, h3⟩ := ht t (.head _)
      refine wpAny_assignInOrder_more (h3 _ s _ (store_any K t.1 h1 h2 H w fun h' tk H' F kp => ?_))
      refine ih _ _ _ _ Q (fun t' m => ht t' (.tail _ m)) (by simpa using hl) H' (svals_map kp ws) fun h2 t2 H2 F2 => k h2 t2 H2 (F.trans F2)
theorem ex_tuple (K : CtxOk C) (hh : C.A.handled = none) {elts : List Expr} {n : Nat} {tpos pos : Pos} {e : Expr} {ps : List PV} (ts : List Tgt)
    (hts : ∀ (E : Value → Shared → Prop), ∀ t ∈ ts, TgtOk C E t)
    (hlen : ts.length = ps.length) (h : Ev C σ e (.v (.tup ps))) (hel : assignEach elts C.env = ts.map fun t => (false, t.2.2))
    (hs : swapsWithSole [.Tuple elts n tpos] e pos.line C.env = pure false) (hw : swappedStores [.Tuple elts n tpos] e C.env = pure none) :
    Ex C σ (.Assign [.Tuple elts n tpos] e pos) .next (σ.setvs ((ts.map (·.1)).zip (ps.map .v))) := by
  intro adr s Q E H k
  refine Assign_Tuple (h adr s _ E H fun v h1 t1 k1 w1 => ?_) hs hw
  have w1' : Val (C.avo σ.own adr) h1 v (.tup ps) := w1
  cases w1' with
  | tup l na w =>
  rename_i a its
  have e1 := w.length
  simp only [Array.length_toList] at e1
  have H1 := H.stays k1
  refine wpAny_assign_Tuple (items := its) hh l (by rw [hel, List.length_map, hlen, e1]) (by rw [hel]; exact findIdx_false ts) fun h2 x2 => ?_
  have st : Soft h1 h2 := fun b o e => .inl (x2 b o (Nat.ne_of_lt (Heap.lt_size e)) e)
  rw [hel]
  have em : (ts.map fun t => (false, t.2.2)).map (·.2) = ts.map (·.2.2) := by simp
  rw [em]
  refine stores_seq K ts its.toList (ps.map .v) σ _ _ (hts E) (by simpa using hlen) (H1.stays st) (vals_svals (w.stays st)) fun h3 t3 H3 F3 => ?_
  exact k .next h3 t3 adr H3 (by rw [setvs_own]; exact (Frm.of_stays (stays_trans k1 st)).trans F3) trivial
where
  findIdx_false : ∀ (ts : List (Nat × Str × (Value → Sem Unit))), (ts.map fun t => (false, t.2.2)).findIdx? (·.1) = none
    | [] => rfl
    | t :: r => by rw [List.map_cons, List.findIdx?_cons]; simp [findIdx_false r]
  vals_svals {av : Addr → Prop} {adr : List Addr} {h : Heap} : ∀ {vs} {ps : List PV}, Vals av h vs ps → SVals av adr h vs (ps.map SV.v)
    | _, _, .nil => .nil
    | _, _, .cons a b => .cons a (vals_svals b)
end
end Rt

/-! V4c -/
namespace Rt

theorem SVal.adr {av : Addr → Prop} {adr adr' : List Addr} {h : Heap} (ha : ∀ (k : Nat) (a : Addr), adr[k]? = some a → adr'[k]? = some a) : ∀ {v sv}, SVal av adr h v sv → SVal av adr' h v sv
  | _, .un, x => x
  | _, .v _, x => x
  | _, .mut _, ⟨a, h1, h2⟩ => ⟨a, ha _ _ h1, h2⟩
  | _, .bnd _, ⟨a, b, h1, h2⟩ => ⟨a, b, ha _ _ h1, h2⟩
theorem SVals.adr {av : Addr → Prop} {adr adr' : List Addr} {h : Heap} (ha : ∀ (k : Nat) (a : Addr), adr[k]? = some a → adr'[k]? = some a) : ∀ {vs svs}, SVals av adr h vs svs → SVals av adr' h vs svs := fun w => by
  induction w with
  | nil => exact .nil
  | cons a b ih => exact .cons (a.adr ha) ih

section
variable {C : Ctx} {σ : St} {adr : List Addr} {s : Shared} {h : Heap}
noncomputable def St.addOwn (σ : St) (xs : List SV) : St := ⟨σ.loc, σ.own ++ [some xs]⟩
noncomputable def St.updOwn (σ : St) (k : Nat) (xs : List SV) : St := ⟨σ.loc, σ.own.set k (some xs)⟩

theorem getElem?_snoc {α : Type} {l : List α} {x y : α} {k : Nat} (e : (l ++ [x])[k]? = some y) : l[k]? = some y ∨ (k = l.length ∧ y = x) := by
  rcases Nat.lt_trichotomy k l.length with q | q | q
  · exact .inl (by rwa [List.getElem?_append_left q] at e)
  · subst q; rw [List.getElem?_append_right (Nat.le_refl _)] at e; simp at e; exact .inr ⟨rfl, e.symm⟩
  · rw [List.getElem?_append_right (Nat.le_of_lt q)] at e
    have : k - l.length ≠ 0 := by omega
    obtain ⟨m, hm⟩ := Nat.exists_eq_succ_of_ne_zero this
    rw [hm] at e; simp at e
theorem get_left {α : Type} {l : List α} {x y : α} {k : Nat} (e : l[k]? = some y) : (l ++ [x])[k]? = some y := by
  rw [List.getElem?_append_left (List.getElem?_eq_some_iff.mp e).1]; exact e

theorem Holds.addOwn (H : Holds C σ adr h) {vs : Array Value} {xs : List SV} (w : SVals (C.avo σ.own adr) adr h vs.toList xs) :
    Holds C (σ.addOwn xs) (adr ++ [h.objs.size]) (h.push { cls := .type "list", data := .seq vs }) := by
  have st := stays_push h { cls := .type "list", data := .seq vs }
  have X := H.stays st
  have nav : ∀ a, (h.get? a).isSome = true → ¬ C.avo σ.own adr a → ¬ C.avo (σ.addOwn xs).own (adr ++ [h.objs.size]) a := fun a ha na q => by
    rcases q with q | ⟨k, ys, h1, h2⟩
    · exact na (.inl q)
    · rcases getElem?_snoc h2 with h2 | ⟨rfl, rfl⟩
      · rcases getElem?_snoc h1 with h1 | ⟨rfl, _⟩
        · exact na (.inr ⟨k, ys, h1, h2⟩)
        · have := (List.getElem?_eq_some_iff.mp h2).1
          rw [H.len] at this; exact absurd this (Nat.lt_irrefl _)
      · obtain ⟨o, ho⟩ := Option.isSome_iff_exists.mp ha
        exact absurd (Heap.lt_size ho) (Nat.lt_irrefl _)
  have lift : ∀ {v sv}, SVal (C.avo σ.own adr) adr h v sv → SVal (C.avo (σ.addOwn xs).own (adr ++ [h.objs.size])) (adr ++ [h.objs.size]) (h.push { cls := .type "list", data := .seq vs }) v sv := fun w =>
    (w.keep (.of_stays st) nav fun a o _ e _ d => st.nd e fun _ _ q => by rw [d] at q; cases q).adr fun _ _ => get_left
  have lifts : ∀ {v sv}, SVals (C.avo σ.own adr) adr h v sv → SVals (C.avo (σ.addOwn xs).own (adr ++ [h.objs.size])) (adr ++ [h.objs.size]) (h.push { cls := .type "list", data := .seq vs }) v sv := fun w =>
    (w.keep (.of_stays st) nav fun a o _ e _ d => st.nd e fun _ _ q => by rw [d] at q; cases q).adr fun _ _ => get_left
  refine ⟨X.keep, X.glb, X.kind, X.gl, X.ns, X.cellsIn, fun i x sv h1 h2 => (H.vars i x sv h1 h2).imp_right fun ⟨v, r, w⟩ => ⟨v, r.stays st, lift w⟩, ?_, ?_, fun k ys a h1 h2 => ?_, fun a ha => ?_, fun a ha => ?_, X.avold, X.room⟩
  · show (adr ++ [_]).length = (σ.own ++ [_]).length
    simp [H.len]
  · refine List.nodup_append.mpr ⟨H.nodup, by simp, fun a ha b hb e => ?_⟩
    simp at hb; subst hb; subst e
    obtain ⟨o, ho⟩ := Option.isSome_iff_exists.mp (H.adrin _ ha)
    exact absurd (Heap.lt_size ho) (Nat.lt_irrefl _)
  · have h1' : (σ.own ++ [some xs])[k]? = some (some ys) := h1
    rcases getElem?_snoc h1' with h1' | ⟨rfl, e⟩
    · rcases getElem?_snoc h2 with h2 | ⟨rfl, rfl⟩
      · obtain ⟨its, l, w⟩ := H.own k ys a h1' h2
        exact ⟨its, plain_stays st l, lifts w⟩
      · have := (List.getElem?_eq_some_iff.mp h1').1
        rw [H.len] at this; exact absurd this (Nat.lt_irrefl _)
    · cases e
      rcases getElem?_snoc h2 with h2 | ⟨_, rfl⟩
      · have := (List.getElem?_eq_some_iff.mp h2).1
        rw [H.len] at this; exact absurd this (Nat.lt_irrefl _)
      · exact ⟨vs, ⟨_, Heap.get?_push_size _ rfl⟩, lifts w⟩
  · rcases List.mem_append.mp ha with ha | ha
    · exact H.fresh a ha
    · simp at ha; subst ha
      cases e : C.h₀.get? h.objs.size with
      | none => rfl
      | some o => obtain ⟨o', e', _⟩ := H.keep.some e; exact absurd (Heap.lt_size e') (Nat.lt_irrefl _)
  · rcases List.mem_append.mp ha with ha | ha
    · exact X.adrin a ha
    · simp at ha; subst ha
      rw [Heap.get?_push_size _ rfl]; rfl
theorem Frm.addOwn (H : Holds C σ adr h) (vs : Array Value) (xs : List SV) : Frm C σ.own adr h (σ.addOwn xs).own (adr ++ [h.objs.size]) (h.push { cls := .type "list", data := .seq vs }) :=
  ⟨fun b o e _ _ _ => .inl (Heap.get?_push_of_some _ e), fun a ⟨k, ys, h1, h2⟩ => by
    have h1' : (σ.own ++ [some xs])[k]? = some (some ys) := h1
    rcases getElem?_snoc h2 with h2 | ⟨_, rfl⟩
    · rcases getElem?_snoc h1' with h1 | ⟨rfl, _⟩
      · exact .inl ⟨k, ys, h1, h2⟩
      · have := (List.getElem?_eq_some_iff.mp h2).1
        rw [H.len] at this; exact absurd this (Nat.lt_irrefl _)
    · exact .inr (by
        cases e : h.get? h.objs.size with
        | none => rfl
        | some o => exact absurd (Heap.lt_size e) (Nat.lt_irrefl _)), alive_stays (stays_push _ _), fun a ha => by
    rcases List.mem_append.mp ha with ha | ha
    · exact .inl ha
    · simp at ha; subst ha
      exact .inr (by
        cases e : h.get? h.objs.size with
        | none => rfl
        | some o => exact absurd (Heap.lt_size e) (Nat.lt_irrefl _))⟩
theorem al_updOwn {k : Nat} {xs xs' : List SV} (hk : σ.own[k]? = some (some xs)) {a : Addr} (q : al (σ.updOwn k xs').own adr a) : al σ.own adr a := by
  obtain ⟨j, ys, h1, h2⟩ := q
  have e' : (σ.own.set k (some xs'))[j]? = some (some ys) := h1
  rw [List.getElem?_set] at e'
  by_cases e : k = j
  · subst e; exact ⟨k, xs, hk, h2⟩
  · rw [if_neg e] at e'; exact ⟨j, ys, e', h2⟩
theorem Frm.updOwn {h' : Heap} {k : Nat} {a : Addr} {xs xs' : List SV} (hk : σ.own[k]? = some (some xs)) (ha : adr[k]? = some a) (hs : Heap.SameBut a h h') (al' : (h'.get? a).isSome = true) : Frm C σ.own adr h (σ.updOwn k xs').own adr h' :=
  let F := Frm.sameBut (C := C) (σ := σ) hs al' (.inr (.inr ⟨k, xs, hk, ha⟩))
  ⟨F.keep, fun _ q => .inl (al_updOwn hk q), F.alive, F.adrs⟩

theorem Holds.updOwn (H : Holds C σ adr h) {h' : Heap} {k : Nat} {a : Addr} {xs xs' : List SV} {its : Array Value} (hk : σ.own[k]? = some (some xs)) (ha : adr[k]? = some a) (hs : Heap.SameBut a h h') (hl : h'.PlainList a its) (w : SVals (C.avo σ.own adr) adr h its.toList xs') :
    Holds C (σ.updOwn k xs') adr h' := by
  obtain ⟨its0, l0, w0⟩ := H.own k xs a hk ha
  have am : a ∈ adr := List.mem_of_getElem? ha
  have kl : k < σ.own.length := (List.getElem?_eq_some_iff.mp hk).1
  have og : ∀ (j : Nat) (ys : List SV), (σ.updOwn k xs').own[j]? = some (some ys) → (j = k ∧ ys = xs') ∨ (j ≠ k ∧ σ.own[j]? = some (some ys)) := fun j ys e => by
    have e' : (σ.own.set k (some xs'))[j]? = some (some ys) := e
    rw [List.getElem?_set] at e'
    by_cases q : k = j
    · subst q; rw [if_pos rfl, if_pos kl] at e'; cases e'; exact .inl ⟨rfl, rfl⟩
    · rw [if_neg q] at e'; exact .inr ⟨Ne.symm q, e'⟩
  have avi : ∀ b, C.avo (σ.updOwn k xs').own adr b → C.avo σ.own adr b := fun b q => by
    rcases q with q | ⟨j, ys, h1, h2⟩
    · exact .inl q
    · rcases og j ys h1 with ⟨rfl, rfl⟩ | ⟨_, h1⟩
      · exact .inr ⟨j, xs, hk, h2⟩
      · exact .inr ⟨j, ys, h1, h2⟩
  have hav : C.avo σ.own adr a := .inr ⟨k, xs, hk, ha⟩
  have sk : SeqKeeps (C.avo σ.own adr) h h' := fun b o ys n nb e _ => by rw [hs.2 b (by rintro rfl; exact nb hav)]; exact e
  obtain ⟨oa, hoa, hca, na, hda⟩ := l0.isList
  have bk : BfmKeeps h h' := bfm_sameBut hs fun o e _ vs q => by rw [hoa] at e; cases e; rw [hda] at q; cases q
  have hal : (h'.get? a).isSome = true := by obtain ⟨n, ho⟩ := hl; rw [ho]; rfl
  have lift : ∀ {v sv}, SVal (C.avo σ.own adr) adr h v sv → SVal (C.avo (σ.updOwn k xs').own adr) adr h' v sv := fun w => w.keep sk (fun b _ nb q => nb (avi b q)) bk
  have lifts : ∀ {v sv}, SVals (C.avo σ.own adr) adr h v sv → SVals (C.avo (σ.updOwn k xs').own adr) adr h' v sv := fun w => w.keep sk (fun b _ nb q => nb (avi b q)) bk
  obtain ⟨m, hm⟩ := H.ns
  have nL : C.env.locals ≠ a := by
    rintro rfl
    obtain ⟨o', es, ep, ho, hd, _⟩ := hm
    rw [hoa] at ho; cases ho
    rw [hda] at hd; cases hd
  have nC : ∀ {c v}, h.IsCell c v → c ≠ a := by
    rintro c v ⟨o', ho, hd⟩ rfl
    rw [hoa] at ho; cases ho
    rw [hda] at hd; cases hd
  have rd : ∀ y u, Read C.env h y u → Read C.env h' y u := fun y u r => by
    rcases r with ⟨e, m₂, hm₂, hv⟩ | ⟨e, c', hc', hv⟩
    · exact .inl ⟨e, m₂, hm₂.sameBut hs nL, hv⟩
    · exact .inr ⟨e, c', hc', hv.sameBut hs (nC hv)⟩
  refine ⟨?_, H.glb, H.kind, H.gl, ⟨m, hm.sameBut hs nL⟩, fun x c e => ?_, fun i x sv h1 h2 => (H.vars i x sv h1 h2).imp_right fun ⟨v, r, w⟩ => ⟨v, rd _ _ r, lift w⟩, ?_, H.nodup, fun j ys b h1 h2 => ?_, H.fresh, fun b hb => ?_, H.avold, H.room⟩
  · exact soft_but H.keep hs (H.fresh _ am)
  · obtain ⟨v, hv⟩ := H.cellsIn x c e
    exact ⟨v, hv.sameBut hs (nC hv)⟩
  · show adr.length = (σ.own.set k _).length
    rw [List.length_set]; exact H.len
  · rcases og j ys h1 with ⟨rfl, rfl⟩ | ⟨ne, h1⟩
    · rw [ha] at h2; cases h2
      exact ⟨its, hl, lifts w⟩
    · obtain ⟨its1, l1, w1⟩ := H.own j ys b h1 h2
      refine ⟨its1, l1.extBut hs.extBut ?_, lifts w1⟩
      rintro rfl
      exact ne ((List.getElem?_inj (List.getElem?_eq_some_iff.mp h2).1 H.nodup).mp (h2.trans ha.symm))
  · by_cases q : b = a
    · subst q; exact hal
    · rw [hs.2 b q]; exact H.adrin b hb

noncomputable def SV.frz (k : Nat) (ps : List PV) : SV → SV
  | .mut j => if j = k then .v (.list ps) else .mut j
  | sv => sv

noncomputable def St.frz (σ : St) (k : Nat) (ps : List PV) : St := ⟨σ.loc.map (SV.frz k ps), (σ.own.set k none).map (Option.map (List.map (SV.frz k ps)))⟩
theorem frz_own {σ : St} {k : Nat} {ps : List PV} {j : Nat} {ys : List SV} (e : (σ.frz k ps).own[j]? = some (some ys)) : j ≠ k ∧ ∃ zs, σ.own[j]? = some (some zs) ∧ ys = zs.map (SV.frz k ps) := by
  have e' : ((σ.own.set k none).map (Option.map (List.map (SV.frz k ps))))[j]? = some (some ys) := e
  rw [List.getElem?_map, List.getElem?_set] at e'
  by_cases q : k = j
  · subst q
    rw [if_pos rfl] at e'
    split at e' <;> cases e'
  · rw [if_neg q] at e'
    cases h : σ.own[j]? with
    | none => rw [h] at e'; cases e'
    | some z =>
      rw [h] at e'
      cases z with
      | none => cases e'
      | some zs => cases e'; exact ⟨Ne.symm q, zs, rfl, rfl⟩
theorem Holds.frz (H : Holds C σ adr h) {k : Nat} {ps : List PV} (hk : σ.own[k]? = some (some (ps.map .v))) : Holds C (σ.frz k ps) adr h := by
  have avi : ∀ b, C.avo (σ.frz k ps).own adr b → C.avo σ.own adr b := fun b q => by
    rcases q with q | ⟨j, ys, h1, h2⟩
    · exact .inl q
    · obtain ⟨_, zs, h3, _⟩ := frz_own h1
      exact .inr ⟨j, zs, h3, h2⟩
  have kl : k < adr.length := by rw [H.len]; exact (List.getElem?_eq_some_iff.mp hk).1
  obtain ⟨a, ha⟩ : ∃ a, adr[k]? = some a := ⟨adr[k], List.getElem?_eq_getElem kl⟩
  obtain ⟨its, l, w⟩ := H.own k _ a hk ha
  have na : ¬ C.avo (σ.frz k ps).own adr a := fun q => by
    rcases q with q | ⟨j, ys, h1, h2⟩
    · have := H.avold a q
      rw [H.fresh a (List.mem_of_getElem? ha)] at this; cases this
    · obtain ⟨ne, _⟩ := frz_own h1
      exact ne ((List.getElem?_inj (List.getElem?_eq_some_iff.mp h2).1 H.nodup).mp (h2.trans ha.symm))
  have down : ∀ {v sv}, SVal (C.avo σ.own adr) adr h v sv → SVal (C.avo (σ.frz k ps).own adr) adr h v sv := fun w => w.keep (.of_stays (stays_refl h)) (fun b _ nb q => nb (avi b q)) fun b o _ e _ _ => e
  have downV : ∀ {v sv}, Vals (C.avo σ.own adr) h v sv → Vals (C.avo (σ.frz k ps).own adr) h v sv := fun w => w.keep (.of_stays (stays_refl h)) (fun b _ nb q => nb (avi b q))
  have lift : ∀ {v sv}, SVal (C.avo σ.own adr) adr h v sv → SVal (C.avo (σ.frz k ps).own adr) adr h v (SV.frz k ps sv) := fun {v sv} w' => by
    cases sv with
    | un => exact w'.elim
    | v p => exact down (sv := .v p) w'
    | «mut» j =>
      obtain ⟨b, h1, rfl⟩ := w'
      by_cases q : j = k
      · subst q
        rw [show SV.frz j ps (SV.mut j) = .v (.list ps) from if_pos rfl]
        rw [ha] at h1; cases h1
        exact .list l.isList na (downV (svals_vals w))
      · rw [show SV.frz k ps (SV.mut j) = .mut j from if_neg q]; exact ⟨b, h1, rfl⟩
    | bnd j => exact down (sv := .bnd j) w'
  have lifts : ∀ {vs svs}, SVals (C.avo σ.own adr) adr h vs svs → SVals (C.avo (σ.frz k ps).own adr) adr h vs (svs.map (SV.frz k ps)) := fun {vs svs} w' => by
    induction w' with
    | nil => exact .nil
    | cons a _ ih => exact .cons (lift a) ih
  refine ⟨H.keep, H.glb, H.kind, H.gl, H.ns, H.cellsIn, fun i x sv h1 h2 => ?_, ?_, H.nodup, fun j ys b h1 h2 => ?_, H.fresh, H.adrin, H.avold, H.room⟩
  · have h2' : (σ.loc.map (SV.frz k ps))[i]? = some sv := h2
    rw [List.getElem?_map] at h2'
    cases e : σ.loc[i]? with
    | none => rw [e] at h2'; cases h2'
    | some sv0 =>
      rw [e] at h2'; cases h2'
      rcases H.vars i x sv0 h1 e with rfl | ⟨v, r, w'⟩
      · exact .inl rfl
      · exact .inr ⟨v, r, lift w'⟩
  · show adr.length = ((σ.own.set k none).map _).length
    rw [List.length_map, List.length_set]; exact H.len
  · obtain ⟨ne, zs, h3, rfl⟩ := frz_own h1
    obtain ⟨its1, l1, w1⟩ := H.own j zs b h3 h2
    exact ⟨its1, l1, lifts w1⟩
theorem al_frz {k : Nat} {ps : List PV} {a : Addr} (q : al (σ.frz k ps).own adr a) : al σ.own adr a := by
  obtain ⟨j, ys, h1, h2⟩ := q
  obtain ⟨_, zs, h3, _⟩ := frz_own h1
  exact ⟨j, zs, h3, h2⟩
theorem exs_frz {st : List Stmt} {o : Out} {σ' : St} (k : Nat) (ps : List PV) (hk : σ.own[k]? = some (some (ps.map .v))) (h : Exs C (σ.frz k ps) st o σ') : Exs C σ st o σ' :=
  fun adr s Q E H kk => h adr s Q E (H.frz hk) fun f h' tk adr' H' F w => kk f h' tk adr' H' ⟨fun b o e h1 h2 h3 => F.keep b o e h1 h2 fun q => h3 (al_frz q), fun a q => (F.als a q).imp_left al_frz, F.alive, F.adrs⟩ w

/-- x = [] : a list of the frame's own -/
theorem ex_new (K : CtxOk C) (i : Nat) {x : Str} {p lp pos : Pos} (hn : C.names[i]? = some x) (hk : Slotted C x) (hs : swapsWith (.List [] lp) (some (.Name x p)) pos.line C.env = pure false) :
    Ex C σ (.Assign [.Name x p] (.List [] lp) pos) .next ((σ.addOwn []).setv i (.mut σ.own.length)) := by
  intro adr s Q E H k
  refine wpAny_Assign_Name (wpAny_List_spliced (wpAny_items_nil ⟨Nat.zero_le _, ?_⟩)) hs
  have H1 := H.addOwn (vs := #[]) (xs := []) .nil
  refine ex_store K i hn hk (s := { s with heap := s.heap.push { cls := .type "list", data := .seq #[] } }) H1 (sv := .mut σ.own.length) ⟨s.heap.objs.size, ?_, rfl⟩ fun h2 t2 H2 F2 => ?_
  · rw [← H.len, List.getElem?_append_right (Nat.le_refl _)]; simp
  · exact k .next h2 t2 _ H2 ((Frm.addOwn H #[] []).trans F2) trivial

theorem wp_append {a : Addr} {its : Array Value} {v : Value} {Q : Value → Shared → Prop} {E : Value → Shared → Prop} (hl : s.heap.PlainList a its) (hsz : its.size ≤ sizeLine) (hQ : ∀ h', h'.PlainList a (its.push v) → Heap.SameBut a s.heap h' → Q .none { s with heap := h' }) :
    wpAny (model C.P.prog C.P.w) C.A (call (.builtin "list.append") [.ref a, v]) Q E s := wpAny_list_append_plain hl hQ hsz
/-- x.append(e) on a list of the frame's own -/
theorem ex_append (k : Nat) {o e : Expr} {apos cpos pos : Pos} {sv : SV} {xs : List SV} (pl : Sem Bool) (ho : Ev C σ o (.mut k)) (hk : σ.own[k]? = some (some xs)) (he : Ev C σ e sv) (hsz : xs.length ≤ sizeLine)
    (hm : eval (.Call (.Attribute o "append" apos) [e] [] cpos) C.env = (do
      let ov ← eval o C.env
      standAt apos.atName
      let (f, first) ← holding [ov] (getMethod ov "append" pl)
      callWith cpos f first (backTo cpos (starEach [e] C.env)) []))
    (hst : starEach [e] C.env = (false, eval e C.env) :: starEach [] C.env) (hi : interactive C.env = false) (hs : swapsWith (.Call (.Attribute o "append" apos) [e] [] cpos) none pos.line C.env = pure false) :
    Ex C σ (.Expr (.Call (.Attribute o "append" apos) [e] [] cpos) pos) .next (σ.updOwn k (xs ++ [sv])) := by
  intro adr s Q E H kk
  refine wpAny_Expr ?_ hi hs
  refine MethodCall_ (pl := pl) (ho adr s _ E H fun ov h1 t1 k1 w1 => ?_) hm
  obtain ⟨a, ha, rfl⟩ := w1
  have H1 := H.stays k1
  obtain ⟨its, l, ws⟩ := H1.own k xs a hk ha
  obtain ⟨n, hob⟩ := id l
  refine PySem.getMethod_builtin (T := "list") ⟨_, hob, rfl⟩ PySem.F.plainAttrs_list PySem.F.slot_list_append PySem.F.type_list_append (fun b e => by cases e; exact ⟨_, hob, rfl⟩) ?_
  refine callWith_method1 (wpAny_items_cons (he adr _ _ E H1 fun v h2 t2 k2 w2 => wpAny_items_nil ?_) hst) hst rfl
  have l2 := plain_stays k2 l
  have e1 := ws.length
  simp only [Array.length_toList] at e1
  refine wp_append l2 (by rw [e1]; exact hsz) fun h3 l3 s3 => ?_
  have H2 := H1.stays k2
  refine kk .next h3 t2 adr (H2.updOwn hk ha s3 l3 (by rw [Array.toList_push]; exact (ws.stays k2).append (.cons w2 .nil))) ?_ trivial
  refine (Frm.of_stays (stays_trans k1 k2)).trans (Frm.updOwn hk ha s3 ?_)
  obtain ⟨n3, ho3⟩ := l3
  rw [ho3]; rfl
end
end Rt

/-! V4d -/
namespace Rt

/-- the runs of a while, by the number of their turns -/
inductive WhileR (C : Ctx) (test : Expr) (body : List Stmt) : Nat → St → Out → St → Prop
  | done {σ} : Tr C σ test false → WhileR C test body 0 σ .next σ
  | next {n σ σ₁ o σ'} : Tr C σ test true → Exs C σ body .next σ₁ → WhileR C test body n σ₁ o σ' → WhileR C test body (n + 1) σ o σ'
  | cont {n σ σ₁ o σ'} : Tr C σ test true → Exs C σ body .cont σ₁ → WhileR C test body n σ₁ o σ' → WhileR C test body (n + 1) σ o σ'
  | brk {σ σ₁} : Tr C σ test true → Exs C σ body .brk σ₁ → WhileR C test body 0 σ .next σ₁
  | ret {σ σ₁ p} : Tr C σ test true → Exs C σ body (.ret p) σ₁ → WhileR C test body 0 σ (.ret p) σ₁

theorem fl_next {C : Ctx} {σ : St} {adr : List Addr} {h : Heap} {f : Flow} (w : Fl C σ adr h f .next) : f = .next := by cases f <;> first | rfl | exact w.elim
theorem fl_cont {C : Ctx} {σ : St} {adr : List Addr} {h : Heap} {f : Flow} (w : Fl C σ adr h f .cont) : f = .cont := by cases f <;> first | rfl | exact w.elim
theorem fl_brk {C : Ctx} {σ : St} {adr : List Addr} {h : Heap} {f : Flow} (w : Fl C σ adr h f .brk) : f = .brk := by cases f <;> first | rfl | exact w.elim
theorem fl_ret {C : Ctx} {σ : St} {adr : List Addr} {h : Heap} {f : Flow} {p : SV} (w : Fl C σ adr h f (.ret p)) : ∃ v, f = .ret v ∧ SVal (C.avo σ.own adr) adr h v p := by cases f <;> first | exact ⟨_, rfl, w⟩ | exact w.elim

theorem ex_while {C : Ctx} {test : Expr} {body : List Stmt} {pos : Pos} {n : Nat} {σ σ' : St} {o : Out} (R : WhileR C test body n σ o σ') : Ex C σ (.While test body [] pos) o σ' := by
  intro adr s Q E H k
  refine wpAny_While (codeAny_whileLoop (fun n' s' => ∃ σ₁ h₁ t₁ a₁, s' = { s with heap := h₁, toks := t₁ } ∧ Holds C σ₁ a₁ h₁ ∧ Frm C σ.own adr s.heap σ₁.own a₁ h₁ ∧ WhileR C test body n' σ₁ o σ') ?_ n ⟨σ, s.heap, s.toks, adr, rfl, H, Frm.refl .., R⟩)
  rintro n' s' ⟨σ₁, h₁, t₁, a₁, rfl, H₁, F₁, R₁⟩
  cases R₁ with
  | done ht =>
    refine ht a₁ _ _ _ H₁ fun h2 t2 k2 => ?_
    rw [if_neg (by decide)]
    exact wpAny_execs_nil (k .next h2 t2 a₁ (H₁.stays k2) (F₁.trans (Frm.of_stays k2)) trivial)
  | next ht hb hr =>
    refine ht a₁ _ _ _ H₁ fun h2 t2 k2 => ?_
    rw [if_pos rfl]
    refine hb a₁ _ _ _ (H₁.stays k2) fun f h3 t3 a3 H3 F3 w3 => ?_
    rw [fl_next w3]
    exact ⟨_, Nat.lt_succ_self _, _, h3, t3, a3, rfl, H3, (F₁.trans (Frm.of_stays k2)).trans F3, hr⟩
  | cont ht hb hr =>
    refine ht a₁ _ _ _ H₁ fun h2 t2 k2 => ?_
    rw [if_pos rfl]
    refine hb a₁ _ _ _ (H₁.stays k2) fun f h3 t3 a3 H3 F3 w3 => ?_
    rw [fl_cont w3]
    exact ⟨_, Nat.lt_succ_self _, _, h3, t3, a3, rfl, H3, (F₁.trans (Frm.of_stays k2)).trans F3, hr⟩
  | brk ht hb =>
    refine ht a₁ _ _ _ H₁ fun h2 t2 k2 => ?_
    rw [if_pos rfl]
    refine hb a₁ _ _ _ (H₁.stays k2) fun f h3 t3 a3 H3 F3 w3 => ?_
    rw [fl_brk w3]
    exact k .next h3 t3 a3 H3 ((F₁.trans (Frm.of_stays k2)).trans F3) trivial
  | ret ht hb =>
    refine ht a₁ _ _ _ H₁ fun h2 t2 k2 => ?_
    rw [if_pos rfl]
    refine hb a₁ _ _ _ (H₁.stays k2) fun f h3 t3 a3 H3 F3 w3 => ?_
    obtain ⟨v, rfl, w⟩ := fl_ret w3
    exact k (.ret v) h3 t3 a3 H3 ((F₁.trans (Frm.of_stays k2)).trans F3) w

/-- the runs of a for, over what is left; t: the target's slot -/
inductive ForR (C : Ctx) (t : Nat) (body : List Stmt) : List PV → St → Out → St → Prop
  | done {σ} : ForR C t body [] σ .next σ
  | next {d ds σ σ₁ o σ'} : Exs C (σ.setv t (.v d)) body .next σ₁ → ForR C t body ds σ₁ o σ' → ForR C t body (d :: ds) σ o σ'
  | cont {d ds σ σ₁ o σ'} : Exs C (σ.setv t (.v d)) body .cont σ₁ → ForR C t body ds σ₁ o σ' → ForR C t body (d :: ds) σ o σ'
  | brk {d ds σ σ₁} : Exs C (σ.setv t (.v d)) body .brk σ₁ → ForR C t body (d :: ds) σ .next σ₁
  | ret {d ds σ σ₁ p} : Exs C (σ.setv t (.v d)) body (.ret p) σ₁ → ForR C t body (d :: ds) σ (.ret p) σ₁

/-- an object of the run's own that is no part of a value nor of the frame -/
theorem Holds.side {C : Ctx} {σ : St} {adr : List Addr} {h h' : Heap} {it : Addr} {o : Obj} {vs : Array Value} (H : Holds C σ adr h) (ho : h.get? it = some o) (hd : o.data = .fields vs) (hc : o.cls ≠ .type "builtin_function_or_method") (hf : C.h₀.get? it = none)
    (hs : Heap.ExtBut it h h') (hal : it ∉ adr) : Holds C σ adr h' := by
  obtain ⟨m, hm⟩ := H.ns
  have nL : C.env.locals ≠ it := by
    rintro rfl
    obtain ⟨o', es, ep, ho', hd', _⟩ := hm
    rw [ho] at ho'; cases ho'
    rw [hd] at hd'; cases hd'
  have nC : ∀ {c v}, h.IsCell c v → c ≠ it := by
    rintro c v ⟨o', ho', hd'⟩ rfl
    rw [ho] at ho'; cases ho'
    rw [hd] at hd'; cases hd'
  have cellk : ∀ {c v}, h.IsCell c v → h'.IsCell c v := fun hv => by
    obtain ⟨o', ho', hd'⟩ := id hv
    exact ⟨o', hs _ _ (nC hv) ho', hd'⟩
  have sk : ∀ av, SeqKeeps av h h' := fun av b ob xs n _ e d => hs b ob (by rintro rfl; rw [ho] at e; cases e; rw [hd] at d; cases d) e
  have bk : BfmKeeps h h' := fun b ob xs e c d => hs b ob (by rintro rfl; rw [ho] at e; cases e; exact hc c) e
  have nsk : ∀ {m}, h.Ns C.env.locals m → h'.Ns C.env.locals m := fun {m} x => let ⟨o', es, ep, e, r⟩ := x; ⟨o', es, ep, hs _ _ nL e, r⟩
  have rd : ∀ y u, Read C.env h y u → Read C.env h' y u := fun y u r => by
    rcases r with ⟨e, m₂, hm₂, hv⟩ | ⟨e, c', hc', hv⟩
    · exact .inl ⟨e, m₂, nsk hm₂, hv⟩
    · exact .inr ⟨e, c', hc', cellk hv⟩
  refine ⟨?_, H.glb, H.kind, H.gl, ⟨m, nsk hm⟩, fun x c e => let ⟨v, hv⟩ := H.cellsIn x c e; ⟨v, cellk hv⟩, fun i x sv h1 h2 => (H.vars i x sv h1 h2).imp_right fun ⟨v, r, w⟩ => ⟨v, rd _ _ r, w.keep (sk _) (fun _ _ n => n) bk⟩, H.len, H.nodup, fun k xs b h1 h2 => ?_, H.fresh, fun b hb => ?_, H.avold, H.room⟩
  · exact soft_ext H.keep hs hf
  · obtain ⟨its, l, w⟩ := H.own k xs b h1 h2
    refine ⟨its, l.extBut hs ?_, w.keep (sk _) (fun _ _ n => n) bk⟩
    rintro rfl
    obtain ⟨n, e⟩ := l
    rw [ho] at e; cases e
    cases hd
  · by_cases q : b = it
    · subst q; exact absurd hb hal
    · obtain ⟨ob, e⟩ := Option.isSome_iff_exists.mp (H.adrin b hb)
      rw [hs b ob q e]; rfl
/-- what the frame has not of its own, stands behind the turn of a loop -/
theorem Frm.keeps {C : Ctx} {σ : St} {own' : Owns} {adr adr' : List Addr} {h h' : Heap} (H : Holds C σ adr h) (F : Frm C σ.own adr h own' adr' h') {b : Addr} {o : Obj} (e : h.get? b = some o) (hd : ∀ es ep, o.data ≠ .dict es ep) (hc : ∀ v, o.data ≠ .cell v) (na : ¬ al σ.own adr b) : h'.get? b = some o := by
  have key : SoftAt o h' b := F.keep b o e (fun q => ?_) (fun x c hx q => ?_) na
  rotate_left
  · subst q
    obtain ⟨m, o', es, ep, ho, hd', _⟩ := H.ns
    rw [ho] at e; cases e; exact hd _ _ hd'
  · subst q
    obtain ⟨v, o', ho, hd'⟩ := H.cellsIn x _ hx
    rw [ho] at e; cases e; exact hc _ hd'
  · rcases key with q | ⟨_, es, ep, _, q, _⟩
    · exact q
    · exact absurd q (hd es ep)
theorem Frm.seq {C : Ctx} {σ : St} {own' : Owns} {adr adr' : List Addr} {h h' : Heap} (H : Holds C σ adr h) (F : Frm C σ.own adr h own' adr' h') : SeqKeeps (C.avo σ.own adr) h h' := fun b o xs n na e d =>
  F.keeps H e (fun _ _ q => by rw [d] at q; cases q) (fun _ q => by rw [d] at q; cases q) fun q => na (.inr q)
theorem Frm.av {C : Ctx} {σ : St} {own' : Owns} {adr adr' : List Addr} {h h' : Heap} (F : Frm C σ.own adr h own' adr' h') : ∀ a, (h.get? a).isSome = true → ¬ C.avo σ.own adr a → ¬ C.avo own' adr' a := fun a ha na q => by
  rcases q with q | q
  · exact na (.inl q)
  · rcases F.als a q with q | q
    · exact na (.inr q)
    · rw [q] at ha; cases ha
theorem Frm.val {C : Ctx} {σ : St} {own' : Owns} {adr adr' : List Addr} {h h' : Heap} (H : Holds C σ adr h) (F : Frm C σ.own adr h own' adr' h') {v p} (w : Val (C.avo σ.own adr) h v p) : Val (C.avo own' adr') h' v p := w.keep (F.seq H) F.av
theorem Frm.vals {C : Ctx} {σ : St} {own' : Owns} {adr adr' : List Addr} {h h' : Heap} (H : Holds C σ adr h) (F : Frm C σ.own adr h own' adr' h') {v p} (w : Vals (C.avo σ.own adr) h v p) : Vals (C.avo own' adr') h' v p := w.keep (F.seq H) F.av
theorem notal {C : Ctx} {σ : St} {own' : Owns} {adr adr' : List Addr} {h h' : Heap} (F : Frm C σ.own adr h own' adr' h') {b : Addr} {o : Obj} (e : h.get? b = some o) (n : ¬ al σ.own adr b) : ¬ al own' adr' b := fun q => by
  rcases F.als b q with q | q
  · exact n q
  · rw [q] at e; cases e
theorem Frm.side {C : Ctx} {o o' : Owns} {a a' : List Addr} {h h1 h2 : Heap} {it : Addr} (F : Frm C o a h o' a' h1) (hs : Heap.ExtBut it h1 h2) (hn : h.get? it = none) : Frm C o a h o' a' h2 :=
  ⟨fun b ob e h1' h2' h3' => by
    have hb : b ≠ it := by rintro rfl; rw [hn] at e; cases e
    rcases F.keep b ob e h1' h2' h3' with q | ⟨f, es, ep, o', q1, q2, q3⟩
    · exact .inl (hs b ob hb q)
    · exact .inr ⟨f, es, ep, o', q1, hs b o' hb q2, q3⟩, F.als, fun b hb => by
    obtain ⟨ob, e⟩ := Option.isSome_iff_exists.mp (F.alive b hb)
    rw [hs b ob (by rintro rfl; rw [hn] at hb; cases hb) e]; rfl, F.adrs⟩
theorem vals_kp {av : Addr → Prop} {adr : List Addr} {h h' : Heap} (kp : ∀ u su, SVal av adr h u su → SVal av adr h' u su) {vs : List Value} {ps : List PV} (w : Vals av h vs ps) : Vals av h' vs ps := by
  induction ps generalizing vs with
  | nil => cases w; exact .nil
  | cons p ps ih =>
    cases w with
    | cons a b => exact .cons (kp _ (.v p) a) (ih b)
end Rt

/-! V4e -/
namespace Rt

theorem bindL_cons {kf : Str → Option NameKind} (n : Str) (v : Value) (r : List (Str × Value)) (m : Str → Option Value) : bindL kf ((n, v) :: r) m = bindL kf r (if kf n = some .local then fun y => if y = n then some v else m y else m) := rfl
theorem bindC_cons {kf : Str → Option NameKind} (n : Str) (v : Value) (r : List (Str × Value)) (m : Str → Option Value) : bindC kf ((n, v) :: r) m = bindC kf r (if kf n = some .local then m else fun y => if y = n then some v else m y) := rfl
theorem bindL_other {kf : Str → Option NameKind} (b : List (Str × Value)) (m : Str → Option Value) (y : Str) (h : ∀ p ∈ b, p.1 ≠ y) : bindL kf b m y = m y := by
  induction b generalizing m with
  | nil => rfl
  | cons p r ih =>
    obtain ⟨n, v⟩ := p
    rw [bindL_cons, ih _ fun p hp => h p (.tail _ hp)]
    by_cases hk : kf n = some .local
    · rw [if_pos hk]; exact if_neg (Ne.symm (h (n, v) (.head _)))
    · rw [if_neg hk]
theorem bindC_other {kf : Str → Option NameKind} (b : List (Str × Value)) (m : Str → Option Value) (y : Str) (h : ∀ p ∈ b, p.1 ≠ y) : bindC kf b m y = m y := by
  induction b generalizing m with
  | nil => rfl
  | cons p r ih =>
    obtain ⟨n, v⟩ := p
    rw [bindC_cons, ih _ fun p hp => h p (.tail _ hp)]
    by_cases hk : kf n = some .local
    · rw [if_pos hk]
    · rw [if_neg hk]; exact if_neg (Ne.symm (h (n, v) (.head _)))
theorem bindL_at {kf : Str → Option NameKind} (b : List (Str × Value)) (m : Str → Option Value) (i : Nat) (x : Str) (v : Value) (hn : (b.map (·.1)).Nodup) (e : b[i]? = some (x, v)) (hk : kf x = some .local) : bindL kf b m x = some v := by
  induction b generalizing m i with
  | nil => cases e
  | cons p r ih =>
    obtain ⟨n, u⟩ := p
    cases i with
    | zero =>
      cases e
      rw [bindL_cons, bindL_other r _ x fun p hp q => (List.nodup_cons.mp hn).1 (List.mem_map.mpr ⟨p, hp, q⟩), if_pos hk]; exact if_pos rfl
    | succ i => exact ih _ i (List.nodup_cons.mp hn).2 e
theorem bindC_at {kf : Str → Option NameKind} (b : List (Str × Value)) (m : Str → Option Value) (i : Nat) (x : Str) (v : Value) (hn : (b.map (·.1)).Nodup) (e : b[i]? = some (x, v)) (hk : kf x ≠ some .local) : bindC kf b m x = some v := by
  induction b generalizing m i with
  | nil => cases e
  | cons p r ih =>
    obtain ⟨n, u⟩ := p
    cases i with
    | zero =>
      cases e
      rw [bindC_cons, bindC_other r _ x fun p hp q => (List.nodup_cons.mp hn).1 (List.mem_map.mpr ⟨p, hp, q⟩), if_neg hk]; exact if_pos rfl
    | succ i => exact ih _ i (List.nodup_cons.mp hn).2 e

/-- the frame of a def that is called -/
noncomputable abbrev fctx (P : Pr) (n : Nat) (d : DefRec) (names : List Str) (L a : Addr) (cd : Value) (A : Around) (av : Addr → Prop) (h₀ : Heap) : Ctx :=
  { n, P, env := envOfC d.name d.scope L a cd, A := A.deeper (envOfC d.name d.scope L a cd), av, h₀, names }
/-- its slots at the start: the parameters, and the rest unbound -/
noncomputable def st0 (ps : List PV) (rest : Nat) : St := ⟨ps.map .v ++ List.replicate rest .un, []⟩

noncomputable def kindsOk (d : DefRec) (xs : List Str) : Bool := xs.all fun x => d.scope.names.lookup x == some .local || (d.scope.names.lookup x == some .cell && ((cellsFrom 0 d.scope.names []).lookup x).isSome)
theorem cells_shift {x : Str} : ∀ (names : List (Str × NameKind)) (n m : Nat) (acc acc' : List (Str × Addr)), (acc.lookup x).isSome = (acc'.lookup x).isSome → ((cellsFrom n names acc).lookup x).isSome = ((cellsFrom m names acc').lookup x).isSome
  | [], _, _, _, _, h => h
  | (y, k) :: r, n, m, acc, acc', h => by
    unfold cellsFrom
    by_cases hk : (k == .cell) = true
    · rw [if_pos hk, if_pos hk]
      refine cells_shift r (n + 1) (m + 1) _ _ ?_
      rw [List.lookup_cons, List.lookup_cons]
      split <;> simp_all
    · rw [if_neg hk, if_neg hk]
      exact cells_shift r n m acc acc' h

theorem fctx_room {P : Pr} {n : Nat} {d : DefRec} {names : List Str} {L a : Addr} {cd : Value} {A : Around} {av : Addr → Prop} {h₀ : Heap} (R : Called A (n + 1) h₀) (hk : d.scope.kind = .function) (hB : B1 < L) : RoomH (fctx P n d names L a cd A av h₀) := by
  refine ⟨R.room.deeper _, ?_⟩
  obtain ⟨fs, e, hf⟩ := R.fr
  refine ⟨_, (show A.frames.map _ = _ by rw [e]; rfl), fun env he => ?_⟩
  rcases List.mem_cons.mp he with rfl | he
  · exact ⟨(by show d.scope.kind ≠ _; rw [hk]; decide), L, rfl, hB, .inl rfl⟩
  · obtain ⟨k1, M, k2, kM, k3⟩ := hf env he
    exact ⟨k1, M, k2, kM, .inr k3⟩
theorem call_ok {P : Pr} {n : Nat} (d : DefRec) (hd : d ∈ P.recs) {f : Value} (hf : P.mg d.name = some f) (xs names : List Str) (ps : List PV) (r : PV)
    (hx : xs.length = ps.length) (hnames : names.take xs.length = xs) (hnd : names.Nodup)
    (hbind : ∀ pm cd doc vs, vs.length = xs.length → bindArgs (docDef d.name d.params d.body d.scope pm cd doc) ⟨vs, []⟩ = pure (xs.zip vs))
    (hkind : kindsOk d xs = true) (hco : d.scope.isCoroutine = false) (hgen : d.scope.isGenerator = false) (hk : d.scope.kind = .function)
    (body : ∀ L a cd A av h₀, A.handled = none → CtxOk (fctx P n d names L a cd A av h₀) → (∀ c, L ≤ c → h₀.get? c = none) →
      ∃ σ' sv, Exs (fctx P n d names L a cd A av h₀) (st0 ps (names.length - xs.length)) d.body (.ret sv) σ' ∧ sv = .v r) :
    CallR P (n + 1) f ps r := by
  intro A av s vs Q E R G ai w k
  obtain ⟨a, o, pm, cd, doc, e1, e2, e3, e4⟩ := G.fn d hd
  rw [e1] at hf; cases hf
  have hl := w.length
  have hvl : vs.length = xs.length := by lia
  have hkinds : ∀ y ∈ xs, d.scope.names.lookup y = some .local ∨ (d.scope.names.lookup y = some .cell ∧ ∀ m, ((cellsFrom m d.scope.names []).lookup y).isSome = true) := fun y hy => by
    have := List.all_eq_true.mp hkind y hy
    rcases Bool.or_eq_true_iff.mp this with q | q
    · exact .inl (by simpa using q)
    · obtain ⟨q1, q2⟩ := Bool.and_eq_true_iff.mp q
      exact .inr ⟨by simpa using q1, fun m => (cells_shift d.scope.names m 0 [] [] rfl).trans q2⟩
  have hmap : (xs.zip vs).map (·.1) = xs := by rw [List.map_fst_zip]; lia
  refine wpAny_call (call_cells (binds := xs.zip vs) R.room.lt e2 e3 G.lim e4 (hbind pm cd doc vs hvl) (fun p hp => ?_) (fun h₁ tk F X => ?_) hco hgen hk)
  · have : p.1 ∈ xs := by rw [← hmap]; exact List.mem_map_of_mem hp
    exact (hkinds _ this).imp_right fun q => ⟨q.1, q.2 _⟩
  · let C := fctx P n d names s.heap.objs.size a cd A av s.heap
    have fr : ∀ c, s.heap.objs.size ≤ c → s.heap.get? c = none := fun c hc => by
      cases e : s.heap.get? c with
      | none => rfl
      | some o' => exact absurd (Heap.lt_size e) (Nat.not_lt.mpr hc)
    have K : CtxOk C := ⟨hnd, X.apart, fr _ (Nat.le_refl _), by show (d.scope.kind == .class || (d.scope.kind == .module && _)) = false; rw [hk]; rfl⟩
    have H : Holds C (st0 ps (names.length - xs.length)) [] h₁ := by
      refine ⟨.of F.keep, G, hk, ⟨rfl, rfl⟩, ⟨_, F.ns⟩, fun x c e => ⟨_, X.cell x c e⟩, fun i x sv h1 h2 => ?_, rfl, List.nodup_nil, (fun k ys b q => by simp [st0] at q), (fun b hb => nomatch hb), (fun b hb => nomatch hb), ai, fctx_room R hk G.size⟩
      by_cases hi : i < ps.length
      · have h2' : (ps.map SV.v ++ List.replicate (names.length - xs.length) SV.un)[i]? = some sv := h2
        rw [List.getElem?_append_left (by simpa using hi), List.getElem?_map] at h2'
        obtain ⟨p, hp, rfl⟩ := Option.map_eq_some_iff.mp h2'
        obtain ⟨v, hv, wv⟩ := w.get hp
        have hxi : xs[i]? = some x := by
          rw [← hnames, List.getElem?_take]
          rw [if_pos (by lia)]; exact h1
        have hz : (xs.zip vs)[i]? = some (x, v) := by
          rw [List.getElem?_zip_eq_some]; exact ⟨hxi, hv⟩
        have hnz : ((xs.zip vs).map (·.1)).Nodup := by
          rw [hmap, ← hnames]; exact (List.take_sublist _ _).nodup hnd
        refine .inr ⟨v, ?_, ?_⟩
        · rcases hkinds x (List.mem_of_getElem? hxi) with q | ⟨q, q2⟩
          · exact .inl ⟨q, _, F.ns, bindL_at _ _ i x v hnz hz q⟩
          · obtain ⟨c, hc⟩ := Option.isSome_iff_exists.mp (q2 (s.heap.objs.size + 1))
            refine .inr ⟨.inl q, c, hc, ?_⟩
            have := X.cell x c hc
            rwa [bindC_at _ _ i x v hnz hz (by show d.scope.names.lookup x ≠ _; rw [q]; decide)] at this
        · show Val _ h₁ v p
          refine (wv.stays (.of F.keep)).keep (.of_stays (stays_refl _)) fun b _ nb q => ?_
          rcases q with q | ⟨j, ys, q, _⟩
          · exact nb q
          · simp [st0] at q
      · refine .inl ?_
        have h2' : (ps.map SV.v ++ List.replicate (names.length - xs.length) SV.un)[i]? = some sv := h2
        rw [List.getElem?_append_right (by simp; lia), List.getElem?_replicate] at h2'
        split at h2' <;> cases h2'
        rfl
    obtain ⟨σ', sv, B, rfl⟩ := body s.heap.objs.size a cd A av s.heap R.handled K fr
    refine B [] { s with heap := h₁, toks := tk } _ _ H fun g h' tk' adr' H' _ wf => ?_
    obtain ⟨v, rfl, wv⟩ := fl_ret wf
    have wv' : Val (C.avo σ'.own adr') h' v r := wv
    exact k v h' tk' H'.keep (wv'.keep (.of_stays (stays_refl _)) fun b _ nb q => nb (.inl q))
end Rt

/-! V4f -/
namespace Rt

/-- values that no heap is asked for -/
noncomputable def flat : PV → Bool
  | .none => true
  | .bool _ => true
  | .int _ => true
  | .str _ => true
  | _ => false
theorem flat_val {av av' : Addr → Prop} {h h' : Heap} {v : Value} {p : PV} (f : flat p = true) (w : Val av h v p) : Val av' h' v p := by
  cases w <;> first | exact .none | exact .bool _ | exact .int _ _ | exact .str _ _ | cases f

/-- a source, and what it draws from -/
structure Src (P : Pr) (A : Around) (av : Addr → Prop) (hb h' : Heap) (I : Addr) (ds : List PV) (fp : List Addr) (Pv : Nat → Value → Prop) (St : Nat → Heap → Prop) : Prop where
  walks : Walks P.prog P.w A I fp [I] ds.length Pv St
  st : St 0 h'
  fp : ∀ b ∈ fp, b ≠ I → ¬ av b ∧ ∃ o, h'.get? b = some o ∧ (∀ es ep, o.data ≠ .dict es ep) ∧ ∀ v, o.data ≠ .cell v
  it : ∀ i h, St i h → ∃ o vs, h.get? I = some o ∧ o.data = .fields vs ∧ o.cls ≠ .type "builtin_function_or_method"
  fresh : hb.get? I = none
  vals : ∀ j v, Pv j v → ∃ d, ds[j]? = some d ∧ Val av h' v d
noncomputable def ItR (C : Ctx) (σ : St) (iter : Expr) (ds : List PV) : Prop := ∀ adr s (Q : Value → Shared → Prop) (E : Value → Shared → Prop), Holds C σ adr s.heap →
  (∀ I fp Pv St h' tk, Soft s.heap h' → Src C.P C.A (C.avo σ.own adr) s.heap h' I ds fp Pv St → Q (.ref I) { s with heap := h', toks := tk }) →
  wpAny (model C.P.prog C.P.w) C.A (eval iter C.env) (fun xv s₁ => wpAny (model C.P.prog C.P.w) C.A (pyIter xv) Q E s₁) E s
theorem fresh_none {h h' : Heap} (k : Soft h h') : h.get? h'.objs.size = none := by
  cases e : h.get? h'.objs.size with
  | none => rfl
  | some o => obtain ⟨o', e', _⟩ := k.some e; exact absurd (Heap.lt_size e') (Nat.lt_irrefl _)
theorem it_list {C : Ctx} {σ : St} {iter : Expr} {ds : List PV} (hh : C.A.handled = none) (h : Ev C σ iter (.v (.list ds))) : ItR C σ iter ds := by
  intro adr s Q E H k
  refine h adr s _ E H fun v h1 t1 k1 w1 => ?_
  have w1' : Val (C.avo σ.own adr) h1 v (.list ds) := w1
  cases w1' with
  | list l na ws =>
  rename_i a its
  have e1 := ws.length
  simp only [Array.length_toList] at e1
  have ait : a ≠ h1.objs.size := by
    rintro rfl
    obtain ⟨o, e, _⟩ := l
    exact absurd (Heap.lt_size e) (Nat.lt_irrefl _)
  have st := stays_push h1 { cls := .type "list_iterator", data := .fields #[.ref a, .int 0 0] }
  refine wpAny_pyIter_list l (k h1.objs.size _ _ _ _ t1 (stays_trans k1 st) ⟨e1 ▸ Walks.list hh h1.objs.size a ait its, ⟨⟨_, Heap.get?_push_size _ rfl, rfl, rfl⟩, isList_stays st l⟩, fun b hb nb => ?_, fun i h hs => ?_, fresh_none k1, fun j v hj => ?_⟩)
  · simp only [List.mem_cons, List.not_mem_nil, or_false] at hb
    rcases hb with rfl | rfl
    · exact absurd rfl nb
    · obtain ⟨o, e, _, _, hd⟩ := l
      exact ⟨na, o, Heap.get?_push_of_some _ e, (fun _ _ q => by rw [hd] at q; cases q), fun _ q => by rw [hd] at q; cases q⟩
  · obtain ⟨⟨o, e, hc, hd⟩, _⟩ := hs
    exact ⟨o, _, e, hd, by rw [hc]; decide⟩
  · have hj' : its.toList[j]? = some v := by rw [Array.getElem?_toList]; exact hj
    obtain ⟨d, hd, w⟩ := ws.get' hj'
    exact ⟨d, hd, w.stays st⟩
theorem it_tup {C : Ctx} {σ : St} {iter : Expr} {ds : List PV} (hh : C.A.handled = none) (h : Ev C σ iter (.v (.tup ds))) : ItR C σ iter ds := by
  intro adr s Q E H k
  refine h adr s _ E H fun v h1 t1 k1 w1 => ?_
  have w1' : Val (C.avo σ.own adr) h1 v (.tup ds) := w1
  cases w1' with
  | tup l na ws =>
  rename_i a its
  have e1 := ws.length
  simp only [Array.length_toList] at e1
  have ait : a ≠ h1.objs.size := by
    rintro rfl
    obtain ⟨o, e, _⟩ := l
    exact absurd (Heap.lt_size e) (Nat.lt_irrefl _)
  have st := stays_push h1 { cls := .type "tuple_iterator", data := .fields #[.ref a, .int 0 0] }
  have l' : h1.IsTuple a its := l
  refine wpAny_pyIter_tuple l' (k h1.objs.size _ _ _ _ t1 (stays_trans k1 st) ⟨e1 ▸ Walks.tuple hh h1.objs.size a ait its, ⟨⟨_, Heap.get?_push_size _ rfl, rfl, rfl⟩, let ⟨o, ho, r⟩ := l'; ⟨o, Heap.get?_push_of_some _ ho, r⟩⟩, fun b hb nb => ?_, fun i h hs => ?_, fresh_none k1, fun j v hj => ?_⟩)
  · simp only [List.mem_cons, List.not_mem_nil, or_false] at hb
    rcases hb with rfl | rfl
    · exact absurd rfl nb
    · obtain ⟨o, e, _, _, hd⟩ := l
      exact ⟨na, o, Heap.get?_push_of_some _ e, (fun _ _ q => by rw [hd] at q; cases q), fun _ q => by rw [hd] at q; cases q⟩
  · obtain ⟨⟨o, e, hc, hd⟩, _⟩ := hs
    exact ⟨o, _, e, hd, by rw [hc]; decide⟩
  · have hj' : its.toList[j]? = some v := by rw [Array.getElem?_toList]; exact hj
    obtain ⟨d, hd, w⟩ := ws.get' hj'
    exact ⟨d, hd, w.stays st⟩
/-- the signs of a text -/
noncomputable def signsP (x : Str) : List PV := x.cps.toList.map fun c => .str ⟨#[c]⟩
theorem it_str {C : Ctx} {σ : St} {iter : Expr} {x : Str} (hh : C.A.handled = none) (h : Ev C σ iter (.v (.str x))) : ItR C σ iter (signsP x) := by
  intro adr s Q E H k
  refine h adr s _ E H fun v h1 t1 k1 w1 => ?_
  have w1' : Val (C.avo σ.own adr) h1 v (.str x) := w1
  cases w1' with
  | str _ t =>
  have e1 : x.cps.size = (signsP x).length := by simp [signsP]
  have vals : ∀ {h2}, ∀ j v, SignAt x j v → ∃ d, (signsP x)[j]? = some d ∧ Val (C.avo σ.own adr) h2 v d := fun j v ⟨c, u, hc, e⟩ => by
    subst e
    exact ⟨.str ⟨#[c]⟩, by simp [signsP, hc], .str _ u⟩
  cases ha : x.cps.all (· < 128)
  · refine wpAny_pyIter_wide ha (k h1.objs.size _ _ _ _ t1 (stays_trans k1 (stays_push h1 _)) ⟨e1 ▸ Walks.strWide hh h1.objs.size x t, ⟨_, Heap.get?_push_size _ rfl, rfl, rfl⟩, fun b hb nb => absurd (by simpa using hb) nb, fun i h hs => ?_, fresh_none k1, vals⟩)
    obtain ⟨o, e, hc, hd⟩ := hs
    exact ⟨o, _, e, hd, by rw [hc]; decide⟩
  · refine wpAny_pyIter_ascii ha (k h1.objs.size _ _ _ _ t1 (stays_trans k1 (stays_push h1 _)) ⟨e1 ▸ Walks.strAscii hh h1.objs.size x t, ⟨_, Heap.get?_push_size _ rfl, rfl, rfl⟩, fun b hb nb => absurd (by simpa using hb) nb, fun i h hs => ?_, fresh_none k1, vals⟩)
    obtain ⟨o, e, hc, hd⟩ := hs
    exact ⟨o, _, e, hd, by rw [hc]; decide⟩

section
variable {C : Ctx} {σ : St} {adr : List Addr} {h h' : Heap}
noncomputable def Fp (own : Owns) (adr : List Addr) (fp : List Addr) (I : Addr) (h : Heap) : Prop := ∀ b ∈ fp, b ≠ I → ¬ al own adr b ∧ ∃ o, h.get? b = some o ∧ (∀ es ep, o.data ≠ .dict es ep) ∧ ∀ v, o.data ≠ .cell v
theorem st_frm (H : Holds C σ adr h) {own' : Owns} {adr' : List Addr} (F : Frm C σ.own adr h own' adr' h') {fp : List Addr} {I : Addr} (fpo : Fp σ.own adr fp I h)
    {hb : Heap} {av : Addr → Prop} {h0 : Heap} {ds : List PV} {Pv : Nat → Value → Prop} {St : Nat → Heap → Prop} (S : Src C.P C.A av hb h0 I ds fp Pv St) {i : Nat} (st : St i h) (nI : ¬ al σ.own adr I) : St i h' ∧ Fp own' adr' fp I h' ∧ ¬ al own' adr' I := by
  obtain ⟨oi, vs, ei, di, ci⟩ := S.it _ _ st
  have ki : h'.get? I = some oi := F.keeps H ei (fun _ _ q => by rw [di] at q; cases q) (fun _ q => by rw [di] at q; cases q) nI
  refine ⟨S.walks.frame _ _ _ st fun b hb o e => ?_, fun b hb ne => ?_, notal F ei nI⟩
  · by_cases q : b = I
    · subst q; rw [ei] at e; cases e; exact ki
    · obtain ⟨n, o', e', d1, d2⟩ := fpo b hb q
      rw [e'] at e; cases e
      exact F.keeps H e' d1 d2 n
  · obtain ⟨n, o, e, d1, d2⟩ := fpo b hb ne
    exact ⟨notal F e n, o, F.keeps H e d1 d2 n, d1, d2⟩
end
end Rt

/-! V4g -/
namespace Rt

/-- what a loop over a source carries, ahead of its turn i -/
structure LoopAt (C : Ctx) (adr₀ : List Addr) (own₀ : Owns) (hb : Heap) (I : Addr) (ds : List PV) (fp : List Addr) (Pv : Nat → Value → Prop) (St' : Nat → Heap → Prop) (i : Nat) (σ : St) (adr : List Addr) (h : Heap) : Prop where
  holds : Holds C σ adr h
  frm : Frm C own₀ adr₀ hb σ.own adr h
  st : St' i h
  fp : Fp σ.own adr fp I h
  nI : ¬ al σ.own adr I
  nIa : I ∉ adr
  vals : ∀ j v, Pv j v → ∃ d, ds[j]? = some d ∧ Val (C.avo σ.own adr) h v d

section
variable {C : Ctx} {adr₀ : List Addr} {own₀ : Owns} {hb : Heap} {I : Addr} {ds : List PV} {fp : List Addr} {Pv : Nat → Value → Prop} {St' : Nat → Heap → Prop} {i : Nat} {σ : St} {adr : List Addr} {h0 : Heap}

/-- the source is asked: behind it the same, one further -/
theorem LoopAt.asked {h h' : Heap} {av0 : Addr → Prop} {hb0 : Heap} (L : LoopAt C adr₀ own₀ hb I ds fp Pv St' i σ adr h) (S : Src C.P C.A av0 hb0 h0 I ds fp Pv St') (hI : hb.get? I = none) (hI0 : C.h₀.get? I = none) {j : Nat} (st : St' j h') (hk : ∀ b o, b ∉ [I] → h.get? b = some o → h'.get? b = some o) :
    LoopAt C adr₀ own₀ hb I ds fp Pv St' j σ adr h' := by
  obtain ⟨oi, vs, ei, di, ci⟩ := S.it _ _ L.st
  have eb : Heap.ExtBut I h h' := fun b o ne e => hk b o (by simpa using ne) e
  refine ⟨L.holds.side ei di ci hI0 eb L.nIa, L.frm.side eb hI, st, fun b hb ne => ?_, L.nI, L.nIa, fun j v hv => ?_⟩
  · obtain ⟨n, o, e, d1, d2⟩ := L.fp b hb ne
    exact ⟨n, o, eb b o ne e, d1, d2⟩
  · obtain ⟨d, hd, w⟩ := L.vals j v hv
    refine ⟨d, hd, w.keep (fun b o xs n _ e q => eb b o ?_ e) fun _ _ n => n⟩
    rintro rfl
    rw [ei] at e; cases e
    rw [di] at q; cases q
/-- a piece of the frame's work -/
theorem LoopAt.worked {h h' : Heap} {av0 : Addr → Prop} {hb0 : Heap} {σ' : St} {adr' : List Addr} (L : LoopAt C adr₀ own₀ hb I ds fp Pv St' i σ adr h) (S : Src C.P C.A av0 hb0 h0 I ds fp Pv St') (H' : Holds C σ' adr' h') (F : Frm C σ.own adr h σ'.own adr' h') :
    LoopAt C adr₀ own₀ hb I ds fp Pv St' i σ' adr' h' := by
  obtain ⟨oi, vs, ei, di, ci⟩ := S.it _ _ L.st
  obtain ⟨a, b, c⟩ := st_frm L.holds F L.fp S L.st L.nI
  exact ⟨H', L.frm.trans F, a, b, c, (fun q => (F.adrs _ q).elim L.nIa fun q => by rw [ei] at q; cases q), fun j v hv => let ⟨d, hd, w⟩ := L.vals j v hv; ⟨d, hd, F.val L.holds w⟩⟩
theorem LoopAt.state {h : Heap} (L : LoopAt C adr₀ own₀ hb I ds fp Pv St' i σ adr h) {σ' : St} (e : σ'.own = σ.own) (H : Holds C σ' adr h) : LoopAt C adr₀ own₀ hb I ds fp Pv St' i σ' adr h :=
  ⟨H, e ▸ L.frm, L.st, e ▸ L.fp, e ▸ L.nI, L.nIa, fun j v hv => by rw [e]; exact L.vals j v hv⟩
theorem LoopAt.start {s h1 : Heap} {adr : List Addr} (H : Holds C σ adr s) (k : Soft s h1) (S : Src C.P C.A (C.avo σ.own adr) s h1 I ds fp Pv St') : LoopAt C adr σ.own s I ds fp Pv St' 0 σ adr h1 := by
  have nI : ∀ {a}, (s.get? a).isSome = true → a ≠ I := by
    rintro a h rfl; rw [S.fresh] at h; cases h
  refine ⟨H.stays k, Frm.of_stays k, S.st, fun b hb ne => ?_, fun ⟨k, xs, _, q⟩ => nI (H.adrin _ (List.mem_of_getElem? q)) rfl, fun q => nI (H.adrin _ q) rfl, S.vals⟩
  obtain ⟨n, r⟩ := S.fp b hb ne
  exact ⟨fun q => n (.inr q), r⟩
end

/-- the body of a for, once -/
theorem for_body {C : Ctx} {t : Nat} {body : List Stmt} {d : PV} {dr : List PV} {σ₁ σ' : St} {o : Out} {a₁ : List Addr} {s : Shared} {Q : Flow → Shared → Prop} {E : Value → Shared → Prop} (R : ForR C t body (d :: dr) σ₁ o σ') (H : Holds C (σ₁.setv t (.v d)) a₁ s.heap)
    (kn : ∀ f h4 t4 a₂ σ₂, (f = .next ∨ f = .cont) → Holds C σ₂ a₂ h4 → Frm C σ₁.own a₁ s.heap σ₂.own a₂ h4 → ForR C t body dr σ₂ o σ' → Q f { s with heap := h4, toks := t4 })
    (kb : ∀ h4 t4 a₂, o = .next → Holds C σ' a₂ h4 → Frm C σ₁.own a₁ s.heap σ'.own a₂ h4 → Q .brk { s with heap := h4, toks := t4 })
    (kr : ∀ v h4 t4 a₂, Fl C σ' a₂ h4 (.ret v) o → Holds C σ' a₂ h4 → Frm C σ₁.own a₁ s.heap σ'.own a₂ h4 → Q (.ret v) { s with heap := h4, toks := t4 }) :
    wpAny (model C.P.prog C.P.w) C.A (execs body C.env) Q E s := by
  cases R with
  | next hb hr => exact hb a₁ _ _ _ H fun f h4 t4 a₂ H4 F4 w4 => kn f h4 t4 a₂ _ (.inl (fl_next w4)) H4 F4 hr
  | cont hb hr => exact hb a₁ _ _ _ H fun f h4 t4 a₂ H4 F4 w4 => kn f h4 t4 a₂ _ (.inr (fl_cont w4)) H4 F4 hr
  | brk hb => exact hb a₁ _ _ _ H fun f h4 t4 a₂ H4 F4 w4 => fl_brk w4 ▸ kb h4 t4 a₂ rfl H4 F4
  | ret hb =>
    refine hb a₁ _ _ _ H fun f h4 t4 a₂ H4 F4 w4 => ?_
    obtain ⟨v, rfl, w⟩ := fl_ret w4
    exact kr v h4 t4 a₂ w H4 F4
/-- a for over any source -/
theorem ex_forS {C : Ctx} (K : CtxOk C) {x : Str} {xp pos : Pos} {iter : Expr} {body : List Stmt} {t : Nat} {ds : List PV} {σ σ' : St} {o : Out} (hn : C.names[t]? = some x) (hx : Slotted C x) (hi : ItR C σ iter ds) (R : ForR C t body ds σ o σ')
    (hs : ∀ v, foldedSetIterable iter C.env v = pure v) : Ex C σ (.For (.Name x xp) iter body [] pos) o σ' := by
  intro adr s Q E H k
  refine wpAny_For (hi adr s _ E H fun I fp Pv St' h1 t1 k1 S => ?_) hs
  have hI0 : C.h₀.get? I = none := by
    cases e : C.h₀.get? I with
    | none => rfl
    | some ob => obtain ⟨u, this, u1⟩ := H.keep.some e; rw [S.fresh] at this; cases this
  refine codeAny_forLoop (fun n' s' => ∃ σ₁ a₁ i, s' = { s with heap := s'.heap, toks := s'.toks } ∧ LoopAt C adr σ.own s.heap I ds fp Pv St' i σ₁ a₁ s'.heap ∧ i ≤ ds.length ∧ n' = ds.length - i ∧ ForR C t body (ds.drop i) σ₁ o σ') ?_ ds.length
    ⟨σ, adr, 0, rfl, .start H k1 S, Nat.zero_le _, rfl, R⟩
  rintro n' s' ⟨σ₁, a₁, i, es, L, hle, rfl, R₁⟩
  by_cases hlt : i < ds.length
  · refine S.walks.item i _ _ _ hlt L.st fun v h2 t2 hp st2 hk2 => ?_
    have L2 := L.asked S S.fresh hI0 st2 hk2
    obtain ⟨d, hd, wd⟩ := L2.vals i v hp
    have hd1 : ds.drop i = d :: ds.drop (i + 1) := by
      obtain ⟨q, e⟩ := List.getElem?_eq_some_iff.mp hd
      rw [← e]; exact List.drop_eq_getElem_cons q
    rw [hd1] at R₁
    refine wpAny_assign_Name (store_any K t hn hx (s := { s' with heap := h2, toks := t2 }) L2.holds (sv := .v d) wd fun h3 t3 H3 F3 kp3 => ?_)
    have L3 : LoopAt C adr σ.own s.heap I ds fp Pv St' (i + 1) (σ₁.setv t (.v d)) a₁ h3 := L2.worked S H3 F3
    refine for_body R₁ (s := { s' with heap := h3, toks := t3 }) H3 (fun f h4 t4 a₂ σ₂ hf H4 F4 R4 => ?_) (fun h4 t4 a₂ ho H4 F4 => ?_) (fun v h4 t4 a₂ w H4 F4 => ?_)
    · have L5 := L3.worked S H4 F4
      have e5 : ({ s' with heap := h4, toks := t4 } : Shared) = { s with heap := h4, toks := t4 } := by rw [es]
      rcases hf with rfl | rfl
      · exact ⟨_, Nat.sub_succ_lt_self _ _ hlt, σ₂, a₂, i + 1, e5, L5, hlt, rfl, R4⟩
      · exact ⟨_, Nat.sub_succ_lt_self _ _ hlt, σ₂, a₂, i + 1, e5, L5, hlt, rfl, R4⟩
    · subst ho
      rw [es]
      exact k .next h4 t4 a₂ H4 (L3.frm.trans F4) trivial
    · rw [es]
      exact k (.ret v) h4 t4 a₂ H4 (L3.frm.trans F4) w
  · have hi : i = ds.length := Nat.le_antisymm hle (Nat.not_lt.mp hlt)
    subst hi
    rw [List.drop_length] at R₁
    cases R₁
    refine S.walks.done _ _ _ L.st fun h2 t2 hk2 => ?_
    obtain ⟨oi, vs, ei, di, ci⟩ := S.it _ _ L.st
    have eb : Heap.ExtBut I s'.heap h2 := fun b o ne e => hk2 b o (by simpa using ne) e
    rw [es]
    exact wpAny_execs_nil (k .next h2 t2 a₁ (L.holds.side ei di ci hI0 eb L.nIa) (L.frm.side eb S.fresh) trivial)

/-- the turns of a comprehension: what the generators that are left, lay to the list -/
inductive Rel2 {α β : Type} (F : α → β → Prop) : List α → List β → Prop
  | nil : Rel2 F [] []
  | cons {a b r q} : F a b → Rel2 F r q → Rel2 F (a :: r) (b :: q)
noncomputable def Trs (C : Ctx) (σ : St) : List Expr → Bool → Prop
  | [], b => b = true
  | [e], b => Tr C σ e b
  | _, _ => False
noncomputable def CompB (C : Ctx) (elt : Expr) : List Comprehension → List SV → List PV → Prop
  | [], loc, xs => ∃ p, xs = [p] ∧ ∀ acc, Ev C ⟨loc, [some acc]⟩ elt (.v p)
  | g :: gs, loc, xs => ∃ x xp iter ifs t ds, g = ⟨.Name x xp, iter, ifs, 0⟩ ∧ C.names[t]? = some x ∧ Slotted C x ∧ loc[t]? = some .un ∧ (∀ v, foldedSetIterable iter C.env v = pure v) ∧ (∀ acc, ItR C ⟨loc, [some acc]⟩ iter ds) ∧
      ∃ xss : List (List PV), xs = xss.flatten ∧ Rel2 (fun d ys => ∃ b, (∀ acc, Trs C ⟨loc.set t (.v d), [some acc]⟩ ifs b) ∧ (b = true → CompB C elt gs (loc.set t (.v d)) ys) ∧ (b = false → ys = [])) ds xss

theorem compTurn_last {elt : Expr} {gens : List Comprehension} {target iter : Expr} {ifs : List Expr} {scope : Scope} {pos : Pos} {depth : Nat} {it acc : Value} {env : Env} (hg : gens[depth]? = some ⟨target, iter, ifs, 0⟩) (hn : gens[depth + 1]? = none) :
    compTurn (.ListComp elt gens scope pos) depth it acc env = (do
      standAt iter.pos
      match ← pyNext it with
      | none => pure (.done .next)
      | some v =>
        letOwnedTupleGo target it v
        assign target env v
        let mut ok := true
        for c in ifs do
          if ok then ok ← isTrue c env (eval c env)
        if ok then
          (do let _ ← call (.builtin "list.append") [acc, ← eval elt env])
        again (.compLoop (.ListComp elt gens scope pos) depth it acc env)) := by
  unfold compTurn
  simp only [hg, hn]
  rfl
theorem compTurn_more {elt : Expr} {gens : List Comprehension} {target iter target' iter' : Expr} {ifs ifs' : List Expr} {scope : Scope} {pos : Pos} {depth : Nat} {it acc : Value} {env : Env} (hg : gens[depth]? = some ⟨target, iter, ifs, 0⟩) (hn : gens[depth + 1]? = some ⟨target', iter', ifs', 0⟩) :
    compTurn (.ListComp elt gens scope pos) depth it acc env = (do
      standAt iter.pos
      match ← pyNext it with
      | none => pure (.done .next)
      | some v =>
        letOwnedTupleGo target it v
        assign target env v
        let mut ok := true
        for c in ifs do
          if ok then ok ← isTrue c env (eval c env)
        if ok then
            let x ← eval iter' env
            standAt iter'.pos
            let x ← foldedSetIterable iter' env x
            let y ← holding [x] (pyIter x)
            let _ ← runOwn (.compStart (.ListComp elt gens scope pos) (depth + 1) y acc env) env
            again (.compLoop (.ListComp elt gens scope pos) depth it acc env)
        else again (.compLoop (.ListComp elt gens scope pos) depth it acc env)) := by
  unfold compTurn
  simp only [hg, hn]
  rfl

theorem cstart {prog : Program} {w : World} {A : Around} {R : Result → Shared → Prop} {s : Shared} {elt target iter : Expr} {gens : List Comprehension} {ifs : List Expr} {scope : Scope} {pos : Pos} {depth : Nat} {it acc : Value} {env : Env} (hg : gens[depth]? = some ⟨target, iter, ifs, 0⟩)
    (h0 : codeAny (model prog w) A (.compLoop (.ListComp elt gens scope pos) depth it acc env) R s)
    (h : wpAny (model prog w) A (pyIter it) (fun it' s' => codeAny (model prog w) A (.compLoop (.ListComp elt gens scope pos) depth it' acc env) R s')
      (notedBy (model prog w) A env fun x s' => R (.error x) s') s) :
    codeAny (model prog w) A (.compStart (.ListComp elt gens scope pos) depth it acc env) R s := by
  refine codeAny_of_tree ?_
  show wpAny _ _ ((compStart (.ListComp elt gens scope pos) depth it acc env).onRaise (fun x => do noteFrame x env; standAt theWindowsPlace)) _ _ s
  refine wpAny_notedAt ?_
  have e : compStart (.ListComp elt gens scope pos) depth it acc env = (do
      if (← ask).params.followText "comprehension-iter-twice" then return ← again (.compLoop (.ListComp elt gens scope pos) depth it acc env)
      rule "comprehension.iter-twice"
      standAt iter.pos
      again (.compLoop (.ListComp elt gens scope pos) depth (← pyIter it) acc env)) := by
    have e : clausesOf (.ListComp elt gens scope pos) = gens := rfl
    unfold compStart
    rw [e, hg]
    rfl
  rw [e]
  refine wpAny_bind (wpAny_askSetting (wpAny_ite ?_))
  split
  · first
      | exact wpAny_bind (wpAny_pure (wpAny_pure (And.intro rfl h0)))
      | exact wpAny_pure (And.intro rfl h0)
  · first
      | exact wpAny_bind (wpAny_pure (wpAny_bind (wpAny_rule (wpAny_bind (wpAny_standAt (wpAny_bind (wpAny_mono h (fun it' s' h' => wpAny_pure (And.intro rfl h')) fun _ _ x => x)))))))
      | exact wpAny_bind (wpAny_rule (wpAny_bind (wpAny_standAt (wpAny_bind (wpAny_mono h (fun it' s' h' => wpAny_pure (And.intro rfl h')) fun _ _ x => x)))))

theorem wp_tests {C : Ctx} {σ : St} {adr : List Addr} {s : Shared} {ifs : List Expr} {b : Bool} {Q : Bool → Shared → Prop} {E : Value → Shared → Prop} (h : Trs C σ ifs b) (H : Holds C σ adr s.heap) (k : ThenB s Q b) :
    wpAny (model C.P.prog C.P.w) C.A (forIn ifs true fun c r => if r = true then do let ok ← isTrue c C.env (eval c C.env); pure (ForInStep.yield ok) else pure (ForInStep.yield r)) Q E s := by
  match ifs, h with
  | [], h => cases h; exact wpAny_tests_nil (k s.heap s.toks (stays_refl _))
  | [e], h => exact wpAny_tests_one (h adr s _ E H k)
theorem Rel2.get {α β : Type} {F : α → β → Prop} {l : List α} {q : List β} (r : Rel2 F l q) {i : Nat} {a : α} (e : l[i]? = some a) : ∃ b, q[i]? = some b ∧ F a b := by
  induction r generalizing i with
  | nil => cases e
  | cons h r ih =>
    cases i with
    | zero => obtain rfl := Option.some.inj e; exact ⟨_, rfl, h⟩
    | succ i => exact ih e
theorem Rel2.length {α β : Type} {F : α → β → Prop} {l : List α} {q : List β} (r : Rel2 F l q) : l.length = q.length := by
  induction r with
  | nil => rfl
  | cons h r ih => exact congrArg (· + 1) ih
theorem reset {loc : List SV} {t : Nat} {d : PV} (h : loc[t]? = some .un) : (loc.set t (.v d)).set t .un = loc := by
  rw [List.set_set]
  obtain ⟨q, e⟩ := List.getElem?_eq_some_iff.mp h
  rw [← e]; exact List.set_getElem_self q
theorem flat_take {α : Type} {xss : List (List α)} {i : Nat} {ys : List α} (h : xss[i]? = some ys) : (xss.take (i + 1)).flatten = (xss.take i).flatten ++ ys := by
  rw [List.take_add_one, h]; simp

theorem flat_take_le {α : Type} (xss : List (List α)) (i : Nat) : (xss.take i).flatten.length ≤ xss.flatten.length := by
  conv => rhs; rw [← List.take_append_drop i xss, List.flatten_append, List.length_append]
  exact Nat.le_add_right _ _

/-- a turn of a comprehension's loop, whatever is done with what is taken -/
theorem comp_turn {C : Ctx} (K : CtxOk C) {x : Str} {xp : Pos} {iter : Expr} {ifs : List Expr} {t : Nat} (hn : C.names[t]? = some x) (hx : Slotted C x) {loc cur : List SV} (hun : loc[t]? = some .un) {ds : List PV}
    {I : Addr} {fp : List Addr} {Pv : Nat → Value → Prop} {St' : Nat → Heap → Prop} {av0 : Addr → Prop} {hb0 h0 : Heap} (S : Src C.P C.A av0 hb0 h0 I ds fp Pv St') {adr₀ : List Addr} {own₀ : Owns} {hb : Heap} (hbI : hb.get? I = none) (hI0 : C.h₀.get? I = none) {D : Addr} {i : Nat} {s : Shared}
    {Q : Fin → Shared → Prop} {E : Value → Shared → Prop} {stop : Sem Fin} {rest : Bool → Sem Fin} (L : LoopAt C adr₀ own₀ hb I ds fp Pv St' i ⟨loc, [some cur]⟩ [D] s.heap) (hle : i ≤ ds.length)
    (kd : i = ds.length → ∀ h2 t2, Holds C ⟨loc, [some cur]⟩ [D] h2 → Frm C own₀ adr₀ hb [some cur] [D] h2 → wpAny (model C.P.prog C.P.w) C.A stop Q E { s with heap := h2, toks := t2 })
    (kn : ∀ d, ds[i]? = some d → ∃ b, Trs C ⟨loc.set t (.v d), [some cur]⟩ ifs b ∧ ∀ h4 t4, Holds C ⟨loc.set t (.v d), [some cur]⟩ [D] h4 →
      (∀ ys h5, Holds C ⟨loc.set t (.v d), [some (cur ++ ys)]⟩ [D] h5 → Frm C [some cur] [D] h4 [some (cur ++ ys)] [D] h5 → LoopAt C adr₀ own₀ hb I ds fp Pv St' (i + 1) ⟨loc, [some (cur ++ ys)]⟩ [D] h5) →
      wpAny (model C.P.prog C.P.w) C.A (rest b) Q E { s with heap := h4, toks := t4 }) :
    wpAny (model C.P.prog C.P.w) C.A (do
      standAt iter.pos
      match ← pyNext (.ref I) with
      | none => stop
      | some v =>
        letOwnedTupleGo (.Name x xp) (.ref I) v
        assign (.Name x xp) C.env v
        let ok ← forIn ifs true fun c r => if r = true then do let ok ← isTrue c C.env (eval c C.env); pure (ForInStep.yield ok) else pure (ForInStep.yield r)
        rest ok) Q E s := by
  refine wpAny_bind (wpAny_standAt (wpAny_bind ?_))
  by_cases hlt : i < ds.length
  · refine S.walks.item i _ _ _ hlt L.st fun v h2 t2 hp st2 hk2 => ?_
    have L2 := L.asked S hbI hI0 st2 hk2
    obtain ⟨d, hd, wd⟩ := L2.vals i v hp
    obtain ⟨b, hb1, k⟩ := kn d hd
    refine wpAny_bind (wpAny_of_eq (show letOwnedTupleGo (.Name x xp) (.ref I) v = pure () from rfl) ?_)
    refine wpAny_bind (wpAny_assign_Name (store_any K t hn hx (s := { s with heap := h2, toks := t2 }) L2.holds (sv := .v d) wd fun h3 t3 H3 F3 kp3 => ?_))
    have L3 := L2.worked S H3 F3
    refine wpAny_bind (wp_tests (s := { s with heap := h3, toks := t3 }) hb1 H3 fun h4 t4 k4 => ?_)
    have H4 := H3.stays k4
    have L4 := L3.worked S H4 (Frm.of_stays k4)
    refine k h4 t4 H4 fun ys h5 H5 F5 => (L4.worked S H5 F5).state rfl ?_
    have q := H5.clear t
    rwa [show (St.setv ⟨loc.set t (.v d), [some (cur ++ ys)]⟩ t .un : St) = ⟨loc, [some (cur ++ ys)]⟩ from congrArg (fun l => (⟨l, _⟩ : St)) (reset hun)] at q
  · have hi : i = ds.length := Nat.le_antisymm hle (Nat.not_lt.mp hlt)
    refine S.walks.done _ _ _ (hi ▸ L.st) fun h2 t2 hk2 => ?_
    obtain ⟨oi, vs, ei, di, ci⟩ := S.it _ _ L.st
    have eb : Heap.ExtBut I s.heap h2 := fun b o ne e => hk2 b o (by simpa using ne) e
    exact kd hi h2 t2 (L.holds.side ei di ci hI0 eb L.nIa) (L.frm.side eb hbI)
/-- all turns -/
theorem comp_iter {C : Ctx} (K : CtxOk C) {elt : Expr} {gens : List Comprehension} {scope : Scope} {pos : Pos} {D : Addr} {depth : Nat} {x : Str} {xp : Pos} {iter : Expr} {ifs : List Expr} {t : Nat} (hn : C.names[t]? = some x) (hx : Slotted C x) {loc : List SV} (hun : loc[t]? = some .un)
    {B : Bool → PV → List PV → Prop} {ds : List PV} {xss : List (List PV)} (rel : Rel2 (fun d ys => ∃ b, (∀ acc, Trs C ⟨loc.set t (.v d), [some acc]⟩ ifs b) ∧ B b d ys) ds xss)
    {I : Addr} {fp : List Addr} {Pv : Nat → Value → Prop} {St' : Nat → Heap → Prop} {av0 : Addr → Prop} {hb0 h0 : Heap} (S : Src C.P C.A av0 hb0 h0 I ds fp Pv St') {adr₀ : List Addr} {own₀ : Owns} {hb : Heap} (hbI : hb.get? I = none) (hI0 : C.h₀.get? I = none) {rest : Bool → Sem Fin}
    (ht : compTurn (.ListComp elt gens scope pos) depth (.ref I) (.ref D) C.env = (do
      standAt iter.pos
      match ← pyNext (.ref I) with
      | none => pure (.done .next)
      | some v =>
        letOwnedTupleGo (.Name x xp) (.ref I) v
        assign (.Name x xp) C.env v
        let ok ← forIn ifs true fun c r => if r = true then do let ok ← isTrue c C.env (eval c C.env); pure (ForInStep.yield ok) else pure (ForInStep.yield r)
        rest ok))
    (kn : ∀ d ys b cur (s4 : Shared) (Q : Fin → Shared → Prop) (E : Value → Shared → Prop), B b d ys → cur.length + ys.length ≤ sizeLine → Holds C ⟨loc.set t (.v d), [some cur]⟩ [D] s4.heap →
      (∀ h5 t5, Holds C ⟨loc.set t (.v d), [some (cur ++ ys.map .v)]⟩ [D] h5 → Frm C [some cur] [D] s4.heap [some (cur ++ ys.map .v)] [D] h5 → Q (.again (.compLoop (.ListComp elt gens scope pos) depth (.ref I) (.ref D) C.env)) { s4 with heap := h5, toks := t5 }) →
      wpAny (model C.P.prog C.P.w) C.A (rest b) Q E s4)
    {acc : List SV} {s : Shared} {R : Result → Shared → Prop} (L : LoopAt C adr₀ own₀ hb I ds fp Pv St' 0 ⟨loc, [some acc]⟩ [D] s.heap) (hsz : acc.length + xss.flatten.length ≤ sizeLine)
    (k : ∀ h' tk, Holds C ⟨loc, [some (acc ++ xss.flatten.map .v)]⟩ [D] h' → Frm C own₀ adr₀ hb [some (acc ++ xss.flatten.map .v)] [D] h' → R (.ok .next) { s with heap := h', toks := tk }) :
    codeAny (model C.P.prog C.P.w) C.A (.compLoop (.ListComp elt gens scope pos) depth (.ref I) (.ref D) C.env) R s := by
  refine codeAny_loop rfl (fun n' s' => ∃ i cur, s' = { s with heap := s'.heap, toks := s'.toks } ∧ cur = acc ++ (xss.take i).flatten.map .v ∧ LoopAt C adr₀ own₀ hb I ds fp Pv St' i ⟨loc, [some cur]⟩ [D] s'.heap ∧ i ≤ ds.length ∧ n' = ds.length - i) ?_ ds.length
    ⟨0, acc, rfl, (List.append_nil acc).symm, L, Nat.zero_le _, rfl⟩
  rintro n' s' ⟨i, cur, hs, hcur, L1, hle, rfl⟩
  show wpAny _ C.A ((compTurn (.ListComp elt gens scope pos) depth (.ref I) (.ref D) C.env).onRaise (fun x => do noteFrame x C.env; theTreesLotGoes x)) _ _ _
  refine wpAny_noted ?_
  rw [ht]
  refine comp_turn K hn hx hun S hbI hI0 L1 hle (fun hi h2 t2 H2 F2 => ?_) fun d hd => ?_
  · have et : (xss.take i).flatten = xss.flatten := by rw [hi, rel.length, List.take_length]
    rw [hcur, et] at H2 F2
    rw [hs]
    exact wpAny_pure (k h2 t2 H2 F2)
  · obtain ⟨ys, hys, b, hb1, hb2⟩ := rel.get hd
    have ft := flat_take hys
    have hsz' : cur.length + ys.length ≤ sizeLine := by
      have q := flat_take_le xss (i + 1)
      rw [ft, List.length_append] at q
      rw [hcur, List.length_append, List.length_map, Nat.add_assoc]
      exact Nat.le_trans (Nat.add_le_add_left q _) hsz
    refine ⟨b, hb1 cur, fun h4 t4 H4 nx => kn d ys b cur _ _ _ hb2 hsz' H4 fun h5 t5 H5 F5 => ⟨rfl, ds.length - (i + 1), Nat.sub_succ_lt_self _ _ (List.getElem?_eq_some_iff.mp hd).1, i + 1, _, ?_, ?_, nx _ h5 H5 F5, (List.getElem?_eq_some_iff.mp hd).1, rfl⟩⟩
    · rw [hs]
    · rw [hcur, ft, List.map_append, List.append_assoc]

theorem comp_loop {C : Ctx} (K : CtxOk C) {elt : Expr} {gens : List Comprehension} {scope : Scope} {pos : Pos} {D : Addr} :
    ∀ (gs : List Comprehension), (∀ g ∈ gs, ∃ x xp iter ifs, g = ⟨.Name x xp, iter, ifs, 0⟩) → ∀ (depth : Nat) (x : Str) (xp : Pos) (iter : Expr) (ifs : List Expr) (t : Nat), gens.drop depth = ⟨.Name x xp, iter, ifs, 0⟩ :: gs → C.names[t]? = some x → Slotted C x → ∀ (loc : List SV), loc[t]? = some .un →
      ∀ (ds : List PV) (xss : List (List PV)), Rel2 (fun d ys => ∃ b, (∀ acc, Trs C ⟨loc.set t (.v d), [some acc]⟩ ifs b) ∧ (b = true → CompB C elt gs (loc.set t (.v d)) ys) ∧ (b = false → ys = [])) ds xss →
      ∀ (I : Addr) (fp : List Addr) (Pv : Nat → Value → Prop) (St' : Nat → Heap → Prop) (av0 : Addr → Prop) (hb0 h0 : Heap), Src C.P C.A av0 hb0 h0 I ds fp Pv St' → ∀ (adr₀ : List Addr) (own₀ : Owns) (hb : Heap), hb.get? I = none → C.h₀.get? I = none →
      ∀ (acc : List SV) (s : Shared) (R : Result → Shared → Prop), LoopAt C adr₀ own₀ hb I ds fp Pv St' 0 ⟨loc, [some acc]⟩ [D] s.heap → acc.length + xss.flatten.length ≤ sizeLine →
      (∀ h' tk, Holds C ⟨loc, [some (acc ++ xss.flatten.map .v)]⟩ [D] h' → Frm C own₀ adr₀ hb [some (acc ++ xss.flatten.map .v)] [D] h' → R (.ok .next) { s with heap := h', toks := tk }) →
      codeAny (model C.P.prog C.P.w) C.A (.compLoop (.ListComp elt gens scope pos) depth (.ref I) (.ref D) C.env) R s := by
  intro gs
  induction gs with
  | nil =>
    intro hgs depth x xp iter ifs t hg hn hx loc hun ds xss rel I fp Pv St' av0 hb0 h0 S adr₀ own₀ hb hbI hI0 acc s R L hsz k
    have g0 : gens[depth]? = some ⟨.Name x xp, iter, ifs, 0⟩ := by rw [← List.head?_drop, hg]; rfl
    have g1 : gens[depth + 1]? = none := by rw [← List.head?_drop, ← List.drop_drop, hg]; rfl
    refine comp_iter K hn hx hun rel S hbI hI0 (compTurn_last g0 g1) (fun d ys b cur s4 Q E hB hsz' H4 k4 => ?_) L hsz k
    obtain ⟨hb2, hb3⟩ := hB
    cases b with
    | false =>
      obtain rfl := hb3 rfl
      rw [List.map_nil, List.append_nil] at k4
      exact wpAny_pure (k4 _ _ H4 (Frm.refl C _ _ _))
    | true =>
      obtain ⟨p, rfl, he⟩ := hb2 rfl
      refine wpAny_bind (wpAny_bind (he _ _ s4 _ _ H4 fun u h5 t5 k5 w5 => wpAny_bind ?_))
      have H5 := H4.stays k5
      obtain ⟨its, l, ws⟩ := H5.own 0 _ D rfl rfl
      have e1 := ws.length
      rw [Array.length_toList] at e1
      refine wp_append l (by rw [e1]; exact Nat.le_trans (Nat.le_add_right _ _) hsz') fun h6 l6 s6 => ?_
      refine wpAny_pure (wpAny_pure (k4 _ _ (H5.updOwn (k := 0) (a := D) (xs' := cur ++ [p].map SV.v) rfl rfl s6 l6 (by rw [Array.toList_push]; exact ws.append (.cons w5 .nil))) ?_))
      refine (Frm.of_stays k5).trans (Frm.updOwn (k := 0) (a := D) (σ := ⟨loc.set t (.v d), [some cur]⟩) rfl rfl s6 ?_)
      obtain ⟨n3, ho3⟩ := l6
      rw [ho3]; rfl
  | cons g gs ih =>
    intro hgs depth x xp iter ifs t hg hn hx loc hun ds xss rel I fp Pv St' av0 hb0 h0 S adr₀ own₀ hb hbI hI0 acc s R L hsz k
    have g0 : gens[depth]? = some ⟨.Name x xp, iter, ifs, 0⟩ := by rw [← List.head?_drop, hg]; rfl
    have g1 : gens[depth + 1]? = some g := by rw [← List.head?_drop, ← List.drop_drop, hg]; rfl
    have gd : gens.drop (depth + 1) = g :: gs := by rw [← List.drop_drop, hg]; rfl
    obtain ⟨x', xp', iter', ifs', rfl⟩ := hgs g (.head _)
    refine comp_iter K hn hx hun rel S hbI hI0 (compTurn_more g0 g1) (fun d ys b cur s4 Q E hB hsz' H4 k4 => ?_) L hsz k
    obtain ⟨hb2, hb3⟩ := hB
    cases b with
    | false =>
      obtain rfl := hb3 rfl
      rw [List.map_nil, List.append_nil] at k4
      exact wpAny_pure (k4 _ _ H4 (Frm.refl C _ _ _))
    | true =>
      obtain ⟨x2, xp2, iter2, ifs2, t', ds', eg, hn', hx', hun', hs', hi', xss', rfl, rel'⟩ := hb2 rfl
      cases eg
      refine wpAny_bind (wpAny_mono (hi' _ _ s4 (fun y s2 => wpAny (model C.P.prog C.P.w) C.A (runOwn (.compStart (.ListComp elt gens scope pos) (depth + 1) y (.ref D) C.env) C.env >>= fun u => again (.compLoop (.ListComp elt gens scope pos) depth (.ref I) (.ref D) C.env)) Q E s2) _ H4
        fun I' fp' Pv' St2 h5 t5 k5 S' => ?_) (fun xv s₁ h₁ => wpAny_bind (wpAny_standAt (wpAny_bind (wpAny_of_eq (hs' xv) (wpAny_bind (wpAny_holding h₁)))))) (fun _ _ e => e))
      have gI : C.h₀.get? I' = none := by
        cases e : C.h₀.get? I' with
        | none => rfl
        | some ob => obtain ⟨_, this, _⟩ := H4.keep.some e; rw [S'.fresh] at this; cases this
      have lp := ih (fun g hg => hgs g (.tail _ hg)) (depth + 1) _ _ _ _ t' gd hn' hx' _ hun' ds' xss' rel' I' fp' Pv' St2 _ _ _ S' [D] _ _ S'.fresh gI _ { s4 with heap := h5, toks := t5 } (fun r s' => match r with
        | .ok f => f = .next ∧ ∃ h6 t6, s' = { s4 with heap := h6, toks := t6 } ∧ Q (.again (.compLoop (.ListComp elt gens scope pos) depth (.ref I) (.ref D) C.env)) { s4 with heap := h6, toks := t6 }
        | .error _ => False) (.start H4 k5 S') hsz' fun h6 t6 H6 F6 => ⟨rfl, h6, t6, rfl, k4 h6 t6 H6 F6⟩
      refine wpAny_bind (wpAny_runOwn ?_)
      refine codeAny_mono (cstart (it := .ref I') g1 lp (S'.walks.self 0 _ _ _ S'.st lp)) fun r s' hr => ?_
      cases r with
      | error _ => exact hr.elim
      | ok f =>
        obtain ⟨rfl, h6, t6, rfl, q⟩ := hr
        exact wpAny_pure q
end Rt

/-! V4h -/
namespace Rt

/-- the cells that a comprehension's block takes from around it -/
noncomputable def closL (cells : List (Str × Addr)) : List (Str × NameKind) → List (Str × Addr) → Option (List (Str × Addr))
  | [], acc => some acc
  | (n, k) :: r, acc => if k == .free then (match cells.lookup n with | some c => closL cells r ((n, c) :: acc) | none => none) else closL cells r acc
theorem closL_forIn {env : Env} (f : Str × NameKind → List (Str × Addr) → Sem (ForInStep (List (Str × Addr)))) (hf : ∀ name kind acc, f (name, kind) acc = if kind == .free then (do let c ← cellOf env name; pure (.yield ((name, c) :: acc))) else pure (.yield acc)) :
    ∀ (names : List (Str × NameKind)) (acc cl : List (Str × Addr)), closL env.cells names acc = some cl → forIn names acc f = pure cl
  | [], acc, cl, h => by cases h; rfl
  | (n, k) :: r, acc, cl, h => by
    rw [List.forIn_cons, hf]
    unfold closL at h
    split at h
    · rename_i hk
      rw [if_pos hk]
      cases e : env.cells.lookup n with
      | none => rw [e] at h; cases h
      | some c =>
        rw [e] at h
        have : cellOf env n = pure c := by unfold cellOf; rw [e]
        rw [this]
        exact closL_forIn f hf r _ cl h
    · rename_i hk
      rw [if_neg hk]
      exact closL_forIn f hf r _ cl h
theorem closureFor_closL {scope : Scope} {env : Env} {cl : List (Str × Addr)} (h : closL env.cells scope.names [] = some cl) : closureFor scope env = pure cl := by
  simp only [closureFor]
  rw [closL_forIn (env := env) _ (fun name kind acc => by cases hk : kind == NameKind.free <;> simp) scope.names [] cl h]
  rfl
theorem closL_mem {cells : List (Str × Addr)} : ∀ (names : List (Str × NameKind)) (acc cl : List (Str × Addr)), closL cells names acc = some cl → (∀ p ∈ acc, cells.lookup p.1 = some p.2) → ∀ p ∈ cl, cells.lookup p.1 = some p.2
  | [], acc, cl, h, ha => by cases h; exact ha
  | (n, k) :: r, acc, cl, h, ha => by
    unfold closL at h
    split at h
    · cases e : cells.lookup n with
      | none => rw [e] at h; cases h
      | some c =>
        rw [e] at h
        refine closL_mem r _ cl h fun p hp => ?_
        rcases List.mem_cons.mp hp with rfl | hp
        · exact e
        · exact ha p hp
    · exact closL_mem r _ cl h ha
theorem closL_names {cells : List (Str × Addr)} : ∀ (names : List (Str × NameKind)) (acc cl : List (Str × Addr)), closL cells names acc = some cl → ∀ y, (y ∈ cl.map (·.1) ↔ (y, NameKind.free) ∈ names ∨ y ∈ acc.map (·.1))
  | [], acc, cl, h, y => by cases h; simp
  | (n, k) :: r, acc, cl, h, y => by
    unfold closL at h
    split at h
    · rename_i hk
      have hk' : k = .free := by simpa using hk
      subst hk'
      cases e : cells.lookup n with
      | none => rw [e] at h; cases h
      | some c =>
        rw [e] at h
        rw [closL_names r _ cl h y]
        simp only [List.map_cons, List.mem_cons, Prod.mk.injEq, and_true]
        rw [or_comm (a := y = n) (b := (y, NameKind.free) ∈ r), or_assoc]
    · rename_i hk
      have hk' : k ≠ .free := by simpa using hk
      rw [closL_names r _ cl h y]
      simp only [List.mem_cons, Prod.mk.injEq]
      constructor
      · rintro (q | q)
        · exact .inl (.inr q)
        · exact .inr q
      · rintro ((⟨_, q⟩ | q) | q)
        · exact absurd q.symm hk'
        · exact .inl q
        · exact .inr q
theorem closL_nodup {cells : List (Str × Addr)} : ∀ (names : List (Str × NameKind)) (acc cl : List (Str × Addr)), closL cells names acc = some cl → (names.map (·.1)).Nodup → (acc.map (·.1)).Nodup → (∀ y ∈ acc.map (·.1), y ∉ names.map (·.1)) → (cl.map (·.1)).Nodup
  | [], acc, cl, h, _, ha, _ => by cases h; exact ha
  | (n, k) :: r, acc, cl, h, hn, ha, hd => by
    rw [List.map_cons, List.nodup_cons] at hn
    unfold closL at h
    split at h
    · cases e : cells.lookup n with
      | none => rw [e] at h; cases h
      | some c =>
        rw [e] at h
        refine closL_nodup r _ cl h hn.2 ?_ fun y hy => ?_
        · rw [List.map_cons, List.nodup_cons]; exact ⟨fun q => hd _ q (by simp), ha⟩
        · rw [List.map_cons, List.mem_cons] at hy
          rcases hy with rfl | hy
          · exact hn.1
          · exact fun q => hd y hy (by rw [List.map_cons]; exact .tail _ q)
    · exact closL_nodup r _ cl h hn.2 ha fun y hy q => hd y hy (by rw [List.map_cons]; exact .tail _ q)
theorem lookup_of_mem {β : Type} : ∀ {l : List (Str × β)} {x : Str} {b : β}, (l.map (·.1)).Nodup → (x, b) ∈ l → l.lookup x = some b
  | (y, c) :: r, x, b, hn, hm => by
    rw [List.map_cons, List.nodup_cons] at hn
    rcases List.mem_cons.mp hm with e | hm'
    · cases e; simp
    · have ne : (x == y) = false := by
        rw [beq_eq_false_iff_ne]; rintro rfl
        exact hn.1 (List.mem_map.mpr ⟨(_, b), hm', rfl⟩)
      rw [List.lookup_cons, ne]; exact lookup_of_mem hn.2 hm'

/-- the cells of a block: its own, and those it took -/
theorem cells_mem : ∀ (names : List (Str × NameKind)) (h : Heap) (acc : List (Str × Addr)) (x : Str) (c : Addr), (x, c) ∈ cellsFrom h.objs.size names acc → (x, c) ∈ acc ∨ ((x, NameKind.cell) ∈ names ∧ h.objs.size ≤ c ∧ (pushCells h names).IsCell c none)
  | [], _, _, _, _, h => .inl h
  | (n, k) :: r, h, acc, x, c, hm => by
    unfold cellsFrom at hm
    unfold pushCells
    split at hm
    · rename_i hk
      rw [if_pos hk]
      have hk' : k = .cell := by simpa using hk
      subst hk'
      have hm' : (x, c) ∈ cellsFrom (h.push { cls := .type "cell", data := .cell none }).objs.size r ((n, h.objs.size) :: acc) := by rw [Heap.size_push]; exact hm
      rcases cells_mem r _ _ x c hm' with q | ⟨q1, q2, q3⟩
      · rcases List.mem_cons.mp q with e | q
        · cases e
          exact .inr ⟨.head _, Nat.le_refl _, _, pushCells_keeps r _ _ _ (Heap.get?_push_size _ rfl), rfl⟩
        · exact .inl q
      · rw [Heap.size_push] at q2
        exact .inr ⟨.tail _ q1, Nat.le_of_succ_le q2, q3⟩
    · rename_i hk
      rw [if_neg hk]
      rcases cells_mem r h acc x c hm with q | ⟨q1, q2, q3⟩
      · exact .inl q
      · exact .inr ⟨.tail _ q1, q2, q3⟩
theorem cells_apart : ∀ (names : List (Str × NameKind)) (n : Nat) (acc : List (Str × Addr)), acc.Pairwise (fun x y => x.2 ≠ y.2) → (∀ p ∈ acc, p.2 < n) → (cellsFrom n names acc).Pairwise fun x y => x.2 ≠ y.2
  | [], _, _, h, _ => h
  | (x, k) :: r, n, acc, h, hl => by
    unfold cellsFrom
    split
    · refine cells_apart r (n + 1) _ (List.pairwise_cons.mpr ⟨fun y hy e => ?_, h⟩) fun p hp => ?_
      · have := hl y hy
        have e' : n = y.2 := e
        rw [← e'] at this
        exact absurd this (Nat.lt_irrefl _)
      · rcases List.mem_cons.mp hp with rfl | hp
        · exact Nat.lt_succ_self _
        · exact Nat.lt_succ_of_lt (hl p hp)
    · exact cells_apart r n acc h hl
theorem cells_cell : ∀ (names : List (Str × NameKind)) (n : Nat) (acc : List (Str × Addr)) (x : Str), (x, NameKind.cell) ∈ names → ∃ c, (x, c) ∈ cellsFrom n names acc ∧ n ≤ c
  | (y, k) :: r, n, acc, x, hm => by
    unfold cellsFrom
    have keep : ∀ (names : List (Str × NameKind)) (n : Nat) (acc : List (Str × Addr)) (p : Str × Addr), p ∈ acc → p ∈ cellsFrom n names acc := by
      intro names
      induction names with
      | nil => intro n acc p h; exact h
      | cons q r ih =>
        intro n acc p h
        obtain ⟨q1, q2⟩ := q
        unfold cellsFrom
        split
        · exact ih _ _ p (.tail _ h)
        · exact ih _ _ p h
    rcases List.mem_cons.mp hm with e | hm
    · cases e
      rw [if_pos (by rfl)]
      exact ⟨n, keep r _ _ _ (.head _), Nat.le_refl _⟩
    · split
      · obtain ⟨c, h1, h2⟩ := cells_cell r (n + 1) ((y, n) :: acc) x hm
        exact ⟨c, h1, Nat.le_of_succ_le h2⟩
      · exact cells_cell r n acc x hm
theorem cells_old : ∀ (names : List (Str × NameKind)) (n : Nat) (acc : List (Str × Addr)) (p : Str × Addr), p ∈ acc → p ∈ cellsFrom n names acc
  | [], _, _, _, h => h
  | (q1, q2) :: r, n, acc, p, h => by
    unfold cellsFrom
    split
    · exact cells_old r _ _ p (.tail _ h)
    · exact cells_old r _ _ p h
theorem cells_names : ∀ (names : List (Str × NameKind)) (n : Nat) (acc : List (Str × Addr)), (names.map (·.1)).Nodup → (acc.map (·.1)).Nodup → (∀ y ∈ acc.map (·.1), (y, NameKind.cell) ∉ names) → ((cellsFrom n names acc).map (·.1)).Nodup
  | [], _, _, _, h, _ => h
  | (x, k) :: r, n, acc, hn, ha, hd => by
    rw [List.map_cons, List.nodup_cons] at hn
    unfold cellsFrom
    split
    · rename_i hk
      have hk' : k = .cell := by simpa using hk
      subst hk'
      refine cells_names r _ _ hn.2 ?_ fun y hy q => ?_
      · rw [List.map_cons, List.nodup_cons]; exact ⟨fun q => hd _ q (.head _), ha⟩
      · rw [List.map_cons, List.mem_cons] at hy
        rcases hy with rfl | hy
        · exact hn.1 (List.mem_map_of_mem (f := (·.1)) q)
        · exact hd y hy (.tail _ q)
    · exact cells_names r _ _ hn.2 ha fun y hy q => hd y hy (.tail _ q)

theorem wp_newEnv {M : Model} {A : Around} {E : Value → Shared → Prop} {s : Shared} {scope : Scope} {globals : Addr} {cl : List (Str × Addr)} {qual : Str} {env : Env} {Q : Env → Shared → Prop}
    (hQ : Q { scope, locals := s.heap.objs.size, globals, cells := cellsFrom (s.heap.objs.size + 1) scope.names cl, qual, func := none, code := env.code, frame := env.frame, builtins := env.builtins }
      { s with heap := pushCells (s.heap.push { cls := .type "dict", data := .dict #[] }) scope.names }) :
    wpAny M A (newFunctionEnv scope globals cl [] qual none .none (some env)) Q E s := by
  simp only [newFunctionEnv, Option.isSome_some, if_true]
  refine wpAny_bind (wpAny_alloc ?_)
  refine wpAny_bind (wpAny_layCells _ (fun name kind cells => by cases hkc : kind == NameKind.cell <;> simp [hkc]) _ _ _ _ ?_)
  rw [show ({ s with heap := s.heap.push { cls := .type "dict", data := .dict #[] } } : Shared).heap.objs.size = s.heap.objs.size + 1 from Heap.size_push ..]
  exact wpAny_bind (wpAny_pure (wpAny_pure hQ))
end Rt

/-! V4i -/
namespace Rt

/-- the block of a comprehension -/
noncomputable def cctx (C : Ctx) (scope : Scope) (cl : List (Str × Addr)) (L : Addr) (av : Addr → Prop) (hx : Heap) (names : List Str) : Ctx :=
  { n := C.n, P := C.P, env := { scope := relabel scope C.env, locals := L, globals := C.env.globals, cells := cellsFrom (L + 1) scope.names cl, qual := C.env.qual, func := none, code := C.env.code, frame := C.env.frame, builtins := C.env.builtins }, A := C.A, av, h₀ := hx, names }
noncomputable def capV : Option SV → SV
  | some (.v p) => .v p
  | _ => .un
/-- what the block has at its start: its targets unbound, and what it took -/
noncomputable def cloc (σ : St) (tg : List Str) (cap : List (Str × Nat)) : List SV := List.replicate tg.length .un ++ cap.map fun q => capV σ.loc[q.2]?
structure ScOk (C : Ctx) (scope : Scope) (tg : List Str) (cap : List (Str × Nat)) : Prop where
  kind : scope.kind = .function
  nd : (scope.names.map (·.1)).Nodup
  tgs : ∀ x ∈ tg, (x, NameKind.local) ∈ scope.names ∨ (x, NameKind.cell) ∈ scope.names
  caps : ∀ q ∈ cap, (q.1, NameKind.free) ∈ scope.names ∧ C.names[q.2]? = some q.1 ∧ (C.env.kindOf q.1 = some .cell ∨ (C.env.kindOf q.1 = some .free ∧ (q.1 == ("__classdict__" : Str)) = false))
  nodup : (tg ++ cap.map (·.1)).Nodup

section
variable {C : Ctx} {σ : St} {scope : Scope} {tg : List Str} {cap : List (Str × Nat)} {cl : List (Str × Addr)}
theorem relabel_free (S : ScOk C scope tg cap) (hk : C.env.scope.kind = .function) {y : Str} (hy : (y, NameKind.free) ∈ scope.names) :
    (C.env.kindOf y = some .cell → (relabel scope C.env).names.lookup y = some .cell) ∧ (C.env.kindOf y = some .free → (relabel scope C.env).names.lookup y = some .free) := by
  have nd : ((relabel scope C.env).names.map (·.1)).Nodup := by
    have : (relabel scope C.env).names.map (·.1) = scope.names.map (·.1) := by
      show (scope.names.map _).map _ = _
      rw [List.map_map]
      refine List.map_congr_left fun p _ => ?_
      obtain ⟨a, b⟩ := p
      show (if _ then (a, NameKind.cell) else (a, b)).1 = a
      split <;> rfl
    rw [this]; exact S.nd
  constructor
  · intro e
    refine lookup_of_mem nd ?_
    refine List.mem_map.mpr ⟨(y, .free), hy, ?_⟩
    show (if (NameKind.free == NameKind.free && C.env.scope.kind == .function && C.env.kindOf y == some .cell) = true then _ else _) = _
    rw [hk, e]; rfl
  · intro e
    refine lookup_of_mem nd ?_
    refine List.mem_map.mpr ⟨(y, .free), hy, ?_⟩
    show (if (NameKind.free == NameKind.free && C.env.scope.kind == .function && C.env.kindOf y == some .cell) = true then _ else _) = _
    rw [hk, e]; rfl
theorem relabel_own (S : ScOk C scope tg cap) {y : Str} {k : NameKind} (hy : (y, k) ∈ scope.names) (nf : k ≠ .free) : (relabel scope C.env).names.lookup y = some k := by
  have nd : ((relabel scope C.env).names.map (·.1)).Nodup := by
    have : (relabel scope C.env).names.map (·.1) = scope.names.map (·.1) := by
      show (scope.names.map _).map _ = _
      rw [List.map_map]
      refine List.map_congr_left fun p _ => ?_
      obtain ⟨a, b⟩ := p
      show (if _ then (a, NameKind.cell) else (a, b)).1 = a
      split <;> rfl
    rw [this]; exact S.nd
  refine lookup_of_mem nd (List.mem_map.mpr ⟨(y, k), hy, ?_⟩)
  have e : (k == NameKind.free) = false := by cases k <;> first | rfl | exact absurd rfl nf
  show (if (k == NameKind.free && C.env.scope.kind == .function && C.env.kindOf y == some .cell) = true then _ else _) = _
  rw [e]; rfl

theorem cl_lt {adr : List Addr} {h : Heap} (H : Holds C σ adr h) (hcl : closL C.env.cells scope.names [] = some cl) {L : Addr} (hL : ∀ c, L ≤ c → h.get? c = none) : ∀ p ∈ cl, p.2 < L := fun p hp => by
  obtain ⟨v, o, ho, _⟩ := H.cellsIn _ _ (closL_mem _ _ _ hcl (fun _ q => nomatch q) p hp)
  refine Nat.lt_of_not_le fun q => ?_
  rw [hL _ q] at ho; cases ho
theorem cl_nodup (S : ScOk C scope tg cap) (hcl : closL C.env.cells scope.names [] = some cl) : (cl.map (·.1)).Nodup := closL_nodup _ _ _ hcl S.nd List.nodup_nil (fun _ q => nomatch q)
theorem cctx_ok (K : CtxOk C) (S : ScOk C scope tg cap) (hcl : closL C.env.cells scope.names [] = some cl) {adr : List Addr} {h : Heap} (H : Holds C σ adr h) {L : Addr} (hL : ∀ c, L ≤ c → h.get? c = none) {av : Addr → Prop} :
    CtxOk (cctx C scope cl L av h (tg ++ cap.map (·.1))) := by
  refine ⟨S.nodup, cells_apart _ _ _ ?_ fun p hp => Nat.lt_succ_of_lt (cl_lt H hcl hL p hp), ?_, ?_⟩
  · have nd := cl_nodup S hcl
    rw [List.Nodup, List.pairwise_map] at nd
    refine nd.imp_of_mem fun {a b} ha hb ne e => ne ?_
    have h1 := closL_mem _ _ _ hcl (fun _ q => nomatch q) a ha
    have h2 := closL_mem _ _ _ hcl (fun _ q => nomatch q) b hb
    rw [e] at h1
    exact cell_of_lookup K.apart h1 h2
  · exact hL _ (Nat.le_refl _)
  · show (scope.kind == .class || (scope.kind == .module && _)) = false
    rw [S.kind]; rfl
/-- where the targets of a block are stored -/
theorem cctx_slot (S : ScOk C scope tg cap) (hcl : closL C.env.cells scope.names [] = some cl) {h : Heap} {L : Addr} (hL : ∀ c, L ≤ c → h.get? c = none) {av : Addr → Prop} {names : List Str} {x : Str} (hx : x ∈ tg) : Slotted (cctx C scope cl L av h names) x := by
  rcases S.tgs x hx with q | q
  · exact .inl (relabel_own S q (by decide))
  · refine .inr ⟨relabel_own S q (by decide), ?_⟩
    obtain ⟨c, h1, h2⟩ := cells_cell scope.names (L + 1) cl x q
    refine ⟨c, lookup_of_mem (cells_names _ _ _ S.nd (cl_nodup S hcl) fun y hy q => ?_) h1, ?_⟩
    · rw [closL_names _ _ _ hcl] at hy
      rcases hy with hy | hy
      · have e1 := lookup_of_mem S.nd hy
        rw [lookup_of_mem S.nd q] at e1; cases e1
      · simp at hy
    · exact hL c (Nat.le_of_succ_le h2)

theorem cctx_fr {adr : List Addr} {s : Heap} (H : Holds C σ adr s) {L : Addr} : ∃ fs, C.A.frames = some fs ∧ ∀ env ∈ fs, env.scope.kind ≠ .module ∧ ∃ M, env.frame = some M ∧ B1 < M ∧ (M = L ∨ ∃ o es ep, s.get? M = some o ∧ o.data = .dict es ep ∧ StrKeys es) := by
  obtain ⟨fs, e, hf⟩ := H.frAt
  refine ⟨fs, e, fun env he => ?_⟩
  obtain ⟨k1, M, k2, kM, k3⟩ := hf env he
  exact ⟨k1, M, k2, kM, .inr k3⟩
theorem cctx_holds (S : ScOk C scope tg cap) (hcl : closL C.env.cells scope.names [] = some cl) {adr : List Addr} {s h1 : Heap} (H : Holds C σ adr s) (k1 : Soft s h1) :
    Holds (cctx C scope cl (h1.objs.size + 1) (C.avo σ.own adr) s (tg ++ cap.map (·.1))) ⟨cloc σ tg cap, [some []]⟩ [h1.objs.size] (pushCells ((h1.push { cls := .type "list", data := .seq #[] }).push { cls := .type "dict", data := .dict #[] }) scope.names) := by
  have e2 : (h1.push { cls := .type "list", data := .seq #[] }).objs.size = h1.objs.size + 1 := Heap.size_push ..
  generalize hh2 : h1.push { cls := .type "list", data := .seq #[] } = h2 at e2 ⊢
  have e3 : (h2.push { cls := .type "dict", data := .dict #[] }).objs.size = h1.objs.size + 1 + 1 := by rw [Heap.size_push, e2]
  have hns := Heap.Ns.new h2 (.type "dict")
  rw [e2] at hns
  generalize hh3 : h2.push { cls := .type "dict", data := .dict #[] } = h3 at e3 hns ⊢
  have k2 : Soft h1 h2 := hh2 ▸ stays_push _ _
  have k3 : Soft h2 h3 := hh3 ▸ stays_push _ _
  have k4 : Soft h3 (pushCells h3 scope.names) := .of (pushCells_keeps _ _)
  have kk : Soft s (pushCells h3 scope.names) := stays_trans (stays_trans (stays_trans k1 k2) k3) k4
  have hD : (pushCells h3 scope.names).get? h1.objs.size = some { cls := .type "list", data := .seq #[] } := pushCells_keeps _ _ _ _ (hh3 ▸ Heap.get?_push_of_some _ (hh2 ▸ Heap.get?_push_size _ rfl))
  have nD : s.get? h1.objs.size = none := fresh_none k1
  refine ⟨kk, H.g, S.kind, H.gl, ⟨_, k4.ns hns⟩, fun x c e => ?_, fun i x sv h1' h2' => ?_, rfl, by simp, fun k xs a h1' h2' => ?_, fun a ha => ?_, fun a ha => ?_, H.avin, ⟨H.room.toRoom, cctx_fr H⟩⟩
  · have hm : (x, c) ∈ cellsFrom h3.objs.size scope.names cl := by rw [e3]; exact mem_of_lookup e
    rcases cells_mem _ _ _ _ _ hm with q | ⟨_, _, q⟩
    · obtain ⟨v, hv⟩ := H.cellsIn _ _ (closL_mem _ _ _ hcl (fun _ q => nomatch q) _ q)
      exact ⟨v, kk.cell hv⟩
    · exact ⟨_, q⟩
  · have h1'' : (tg ++ cap.map (·.1))[i]? = some x := h1'
    have h2'' : (List.replicate tg.length SV.un ++ cap.map fun q => capV σ.loc[q.2]?)[i]? = some sv := h2'
    by_cases hi : i < tg.length
    · rw [List.getElem?_append_left (by simpa using hi), List.getElem?_replicate, if_pos hi] at h2''
      cases h2''; exact .inl rfl
    · rw [List.getElem?_append_right (by lia), List.getElem?_map] at h1''
      rw [List.getElem?_append_right (by simp; lia), List.getElem?_map, List.length_replicate] at h2''
      cases eq : cap[i - tg.length]? with
      | none => rw [eq] at h1''; cases h1''
      | some q =>
        rw [eq] at h1'' h2''
        cases h1''; cases h2''
        obtain ⟨c1, c2, c3⟩ := S.caps q (List.mem_of_getElem? eq)
        show capV σ.loc[q.2]? = .un ∨ ∃ v, Read _ _ q.1 v ∧ SVal _ _ _ v (capV σ.loc[q.2]?)
        cases el : σ.loc[q.2]? with
        | none => exact .inl rfl
        | some sv =>
          cases sv with
          | v p =>
            rcases H.vars q.2 q.1 (.v p) c2 el with e | ⟨v, r, w⟩
            · cases e
            · refine .inr ⟨v, ?_, ?_⟩
              · obtain ⟨hk, c, hc, hv⟩ : (C.env.kindOf q.1 = some .cell ∨ (C.env.kindOf q.1 = some .free ∧ (q.1 == ("__classdict__" : Str)) = false)) ∧ ∃ c, C.env.cells.lookup q.1 = some c ∧ s.IsCell c (some v) := by
                  rcases r with ⟨e, _⟩ | r
                  · rcases c3 with c3 | c3
                    · rw [e] at c3; cases c3
                    · rw [e] at c3; cases c3.1
                  · exact r
                refine .inr ⟨?_, c, ?_, kk.cell hv⟩
                · rcases hk with hk | ⟨hk, hc⟩
                  · exact .inl ((relabel_free S H.kind c1).1 hk)
                  · exact .inr ⟨(relabel_free S H.kind c1).2 hk, hc⟩
                · have hm : q.1 ∈ cl.map (·.1) := (closL_names _ _ _ hcl q.1).mpr (.inl c1)
                  obtain ⟨⟨y, c'⟩, hy, e⟩ := List.mem_map.mp hm
                  have e' : y = q.1 := e
                  subst e'
                  have := closL_mem _ _ _ hcl (fun _ q => nomatch q) _ hy
                  have e2 : some c' = some c := this.symm.trans hc
                  cases e2
                  refine lookup_of_mem (cells_names _ _ _ S.nd (cl_nodup S hcl) fun z hz qz => ?_) (cells_old _ _ _ _ hy)
                  rw [closL_names _ _ _ hcl] at hz
                  rcases hz with hz | hz
                  · have e1 := lookup_of_mem S.nd hz
                    rw [lookup_of_mem S.nd qz] at e1; cases e1
                  · simp at hz
              · show Val _ _ v p
                refine Val.keep (.of_stays kk) (fun b hb nb x => ?_) w
                rcases x with x | ⟨k, xs, x1, x2⟩
                · exact nb x
                · cases k with
                  | zero =>
                    cases x2
                    rw [nD] at hb; cases hb
                  | succ k => cases x2
          | un => exact .inl rfl
          | «mut» _ => exact .inl rfl
          | bnd _ => exact .inl rfl
  · cases k with
    | zero => cases h1'; cases h2'; exact ⟨#[], ⟨_, hD⟩, .nil⟩
    | succ k => cases h2'
  · simp at ha; subst ha; exact nD
  · simp at ha; subst ha; rw [hD]; rfl
end
end Rt

/-! V4j -/
namespace Rt

section
variable {C : Ctx} {σ : St} {scope : Scope} {tg : List Str} {cap : List (Str × Nat)} {cl : List (Str × Addr)} {elt iter : Expr} {x : Str} {xp pos : Pos} {ifs : List Expr} {gs : List Comprehension} {t : Nat} {ds xs : List PV}

/-- what the block of a comprehension lays to its list, wherever it stands -/
noncomputable def Block (C : Ctx) (σ : St) (scope : Scope) (tg : List Str) (cap : List (Str × Nat)) (cl : List (Str × Addr)) (elt : Expr) (ifs : List Expr) (gs : List Comprehension) (t : Nat) (ds xs : List PV) : Prop :=
  ∀ L av hx, (∀ c, L ≤ c → hx.get? c = none) → CtxOk (cctx C scope cl L av hx (tg ++ cap.map (·.1))) →
    ∃ xss : List (List PV), xs = xss.flatten ∧ Rel2 (fun d ys => ∃ b, (∀ acc, Trs (cctx C scope cl L av hx (tg ++ cap.map (·.1))) ⟨(cloc σ tg cap).set t (.v d), [some acc]⟩ ifs b) ∧
      (b = true → CompB (cctx C scope cl L av hx (tg ++ cap.map (·.1))) elt gs ((cloc σ tg cap).set t (.v d)) ys) ∧ (b = false → ys = [])) ds xss

theorem comp_block (K : CtxOk C) (S : ScOk C scope tg cap) (hcl : closL C.env.cells scope.names [] = some cl) (ht : tg[t]? = some x) (hgs : ∀ g ∈ gs, ∃ x xp iter ifs, g = ⟨.Name x xp, iter, ifs, 0⟩) (B : Block C σ scope tg cap cl elt ifs gs t ds xs) (hsz : xs.length ≤ sizeLine)
    {adr : List Addr} {s : Shared} {h1 : Heap} {t1 : Nat} {E : Value → Shared → Prop} (H : Holds C σ adr s.heap) (k1 : Soft s.heap h1) {I : Addr} {fp : List Addr} {Pv : Nat → Value → Prop} {St' : Nat → Heap → Prop} (Sr : Src C.P C.A (C.avo σ.own adr) s.heap h1 I ds fp Pv St') {RR : Value → Addr → Result → Shared → Prop}
    (hRR : ∀ D L h' tk m, Soft s.heap h' → h'.Ns L m → s.heap.get? L = none → Val (C.avo σ.own adr) h' (.ref D) (.list xs) → RR (.ref D) L (.ok .next) { s with heap := h', toks := tk }) :
    wpAny (model C.P.prog C.P.w) C.A (newList []) (fun acc s₃ => wpAny (model C.P.prog C.P.w) C.A (newFunctionEnv scope C.env.globals cl [] C.env.qual none .none (some C.env)) (fun cenv s₄ =>
      codeAny (model C.P.prog C.P.w) C.A (.compStart (.ListComp elt (⟨.Name x xp, iter, ifs, 0⟩ :: gs) scope pos) 0 (.ref I) acc { cenv with scope := relabel scope C.env }) (RR acc cenv.locals) s₄) E s₃) E { s with heap := h1, toks := t1 } := by
  refine wpAny_newObj_type (wp_newEnv ?_)
  have e2 : (h1.push { cls := .type "list", data := .seq #[] }).objs.size = h1.objs.size + 1 := Heap.size_push ..
  have H0 := cctx_holds S hcl H k1
  have hle : ∀ c, h1.objs.size + 1 ≤ c → s.heap.get? c = none := fun c hc => by
    cases e : s.heap.get? c with
    | none => rfl
    | some o => obtain ⟨_, e', _⟩ := k1.some e; exact absurd (Heap.lt_size e') (Nat.not_lt.mpr (Nat.le_of_succ_le hc))
  have K0 := cctx_ok K S hcl H hle (av := C.avo σ.own adr)
  obtain ⟨xss, rfl, rel⟩ := B _ _ _ hle K0
  have kk : Soft h1 (pushCells ((h1.push { cls := .type "list", data := .seq #[] }).push { cls := .type "dict", data := .dict #[] }) scope.names) := stays_trans (stays_trans (stays_push _ _) (stays_push _ _)) (.of (pushCells_keeps _ _))
  have kr : h1.StaysIn (pushCells ((h1.push { cls := .type "list", data := .seq #[] }).push { cls := .type "dict", data := .dict #[] }) scope.names) := fun b o e => pushCells_keeps _ _ b o (Heap.get?_push_of_some _ (Heap.get?_push_of_some _ e))
  have nD : s.heap.get? h1.objs.size = none := fresh_none k1
  have fI : h1.objs.size ≠ I := by
    rintro rfl
    obtain ⟨o, vs, e, _⟩ := Sr.it _ _ Sr.st
    exact absurd (Heap.lt_size e) (Nat.lt_irrefl _)
  have nal : ∀ {b : Addr}, b ≠ h1.objs.size → ¬ al [some ([] : List SV)] [h1.objs.size] b := fun {b} ne ⟨k, xs, _, q⟩ => by
    cases k with
    | zero => cases q; exact ne rfl
    | succ k => cases q
  have ltb : ∀ {b : Addr} {o : Obj}, h1.get? b = some o → b ≠ h1.objs.size := fun {b o} e q => by subst q; exact absurd (Heap.lt_size e) (Nat.lt_irrefl _)
  have L0 : LoopAt (cctx C scope cl (h1.objs.size + 1) (C.avo σ.own adr) s.heap (tg ++ cap.map (·.1))) [h1.objs.size] [some []] s.heap I ds fp Pv St' 0 ⟨cloc σ tg cap, [some []]⟩ [h1.objs.size] (pushCells ((h1.push { cls := .type "list", data := .seq #[] }).push { cls := .type "dict", data := .dict #[] }) scope.names) := by
    refine ⟨H0, Frm.of_stays (stays_trans k1 kk), Sr.walks.frame _ _ _ Sr.st fun b _ o e => kr b o e, fun b hb ne => ?_, nal (Ne.symm fI), by simpa using Ne.symm fI, fun j v hv => ?_⟩
    · obtain ⟨n, o, e, d1, d2⟩ := Sr.fp b hb ne
      exact ⟨nal (ltb e), o, kr _ _ e, d1, d2⟩
    · obtain ⟨d, hd, w⟩ := Sr.vals j v hv
      refine ⟨d, hd, w.keep (.of_stays kk) fun b hb nb q => ?_⟩
      rcases q with q | q
      · exact nb q
      · obtain ⟨o, e⟩ := Option.isSome_iff_exists.mp hb
        exact nal (ltb e) q
  have un : (cloc σ tg cap)[t]? = some .un := by
    have hl := (List.getElem?_eq_some_iff.mp ht).1
    show (List.replicate tg.length SV.un ++ _)[t]? = _
    rw [List.getElem?_append_left (by simpa using hl), List.getElem?_replicate, if_pos hl]
  have hn : (cctx C scope cl (h1.objs.size + 1) (C.avo σ.own adr) s.heap (tg ++ cap.map (·.1))).names[t]? = some x := by
    have hl := (List.getElem?_eq_some_iff.mp ht).1
    show (tg ++ _)[t]? = _
    rw [List.getElem?_append_left hl]; exact ht
  have hx : Slotted (cctx C scope cl (h1.objs.size + 1) (C.avo σ.own adr) s.heap (tg ++ cap.map (·.1))) x := cctx_slot S hcl hle (List.mem_of_getElem? ht)
  have loop : ∀ s₃ : Shared, s₃ = { s with heap := pushCells ((h1.push { cls := .type "list", data := .seq #[] }).push { cls := .type "dict", data := .dict #[] }) scope.names, toks := t1 } →
      codeAny (model C.P.prog C.P.w) C.A (.compLoop (.ListComp elt (⟨.Name x xp, iter, ifs, 0⟩ :: gs) scope pos) 0 (.ref I) (.ref h1.objs.size) (cctx C scope cl (h1.objs.size + 1) (C.avo σ.own adr) s.heap (tg ++ cap.map (·.1))).env) (RR (.ref h1.objs.size) (h1.objs.size + 1)) s₃ := by
    rintro s₃ rfl
    refine comp_loop (C := cctx C scope cl (h1.objs.size + 1) (C.avo σ.own adr) s.heap (tg ++ cap.map (·.1))) K0 gs hgs 0 x xp iter ifs t rfl hn hx _ un ds xss rel I fp Pv St' _ _ _ Sr [h1.objs.size] _ s.heap Sr.fresh Sr.fresh [] _ _ L0 (by simpa using hsz) fun h' tk H' F' => ?_
    obtain ⟨its, l, ws⟩ := H'.own 0 _ h1.objs.size rfl rfl
    obtain ⟨m, hm⟩ := H'.ns
    refine hRR _ _ h' tk m H'.keep hm ?_ (.list l.isList (fun q => ?_) ?_)
    · exact hle _ (Nat.le_refl _)
    · obtain ⟨o, e⟩ := Option.isSome_iff_exists.mp (H.avin _ q)
      rw [nD] at e; cases e
    · exact (svals_vals ws).keep (.of_stays (stays_refl _)) fun b _ nb q => nb (.inl q)
  have e3 : ({ s with heap := h1.push { cls := .type "list", data := .seq #[] }, toks := t1 } : Shared).heap.objs.size = h1.objs.size + 1 := e2
  have lp := loop _ rfl
  rw [show (cctx C scope cl (h1.objs.size + 1) (C.avo σ.own adr) s.heap (tg ++ cap.map (·.1))).env = { scope := relabel scope C.env, locals := (h1.push { cls := .type "list", data := .seq #[] }).objs.size, globals := C.env.globals, cells := cellsFrom ((h1.push { cls := .type "list", data := .seq #[] }).objs.size + 1) scope.names cl, qual := C.env.qual, func := none, code := C.env.code, frame := C.env.frame, builtins := C.env.builtins } from by rw [e2]; rfl] at lp
  rw [← e2] at lp
  exact cstart rfl lp (Sr.walks.self 0 _ _ _ L0.st lp)
end
end Rt

/-! V4k -/
namespace Rt

section
variable {C : Ctx} {σ : St} {scope : Scope} {tg : List Str} {cap : List (Str × Nat)} {cl : List (Str × Addr)} {elt iter : Expr} {x : Str} {xp pos : Pos} {ifs : List Expr} {gs : List Comprehension} {t : Nat} {ds xs : List PV}

theorem scope_names (S : ScOk C scope tg cap) : ∀ y ∈ scope.names, y.2 = .local → scope.names.lookup y.1 = some .local := fun y hy e => lookup_of_mem S.nd (by rw [← e]; exact hy)
theorem val_sameBut {av : Addr → Prop} {h h' : Heap} {L : Addr} {m : Str → Option Value} {v : Value} {p : PV} (hs : Heap.SameBut L h h') (hm : h.Ns L m) (w : Val av h v p) : Val av h' v p :=
  w.keep (seq_sameBut hs fun o e xs n d => by
    obtain ⟨o', es, ep, ho, hd, _⟩ := hm
    rw [ho] at e; cases e
    rw [hd] at d; cases d) fun _ _ n => n

theorem ev_comp (K : CtxOk C) (S : ScOk C scope tg cap) (hcl : closL C.env.cells scope.names [] = some cl) (ht : tg[t]? = some x) (hgs : ∀ g ∈ gs, ∃ x xp iter ifs, g = ⟨.Name x xp, iter, ifs, 0⟩) (hi : ItR C σ iter ds) (hs : ∀ v, foldedSetIterable iter C.env v = pure v)
    (B : Block C σ scope tg cap cl elt ifs gs t ds xs) (hsz : xs.length ≤ sizeLine) : Ev C σ (.ListComp elt (⟨.Name x xp, iter, ifs, 0⟩ :: gs) scope pos) (.v (.list xs)) := by
  intro adr s Q E H k
  rw [eval_ListComp]
  refine wpAny_comprehension_free (use := none) (g := ⟨.Name x xp, iter, ifs, 0⟩) (gs := gs) rfl hs (closureFor_closL hcl) S.kind (scope_names S) ?_
  show wpAny _ C.A (eval iter C.env) _ E s
  refine hi adr s _ E H fun I fp Pv St' h1 t1 k1 Sr => ?_
  refine comp_block K S hcl ht hgs B hsz H k1 Sr (RR := fun acc L => compPost (model C.P.prog C.P.w) C.A E none Q acc L) fun D L h' tk m k' hm hL w => ?_
  refine ⟨m, hm, fun h'' hs' => k _ h'' tk (soft_but k' hs' hL) (val_sameBut hs' hm w)⟩

/-- an object that is none of the frame's is changed -/
theorem Holds.other {adr : List Addr} {h h' : Heap} {a : Addr} {o : Obj} (H : Holds C σ adr h) (hs : Heap.SameBut a h h') (ho : h.get? a = some o) (d1 : ∀ xs n, o.data ≠ .seq xs n) (d2 : o.cls = .type "builtin_function_or_method" → ∀ vs, o.data ≠ .fields vs)
    (hf : C.h₀.get? a = none) (hL : C.env.locals ≠ a) (hc : ∀ x c, C.env.cells.lookup x = some c → c ≠ a) (ha : a ∉ adr) : Holds C σ adr h' := by
  have sk : ∀ av, SeqKeeps av h h' := fun av => seq_sameBut hs fun o' e => by rw [ho] at e; cases e; exact d1
  have bk : BfmKeeps h h' := bfm_sameBut hs fun o' e => by rw [ho] at e; cases e; exact d2
  obtain ⟨m, hm⟩ := H.ns
  have rd : ∀ y u, Read C.env h y u → Read C.env h' y u := fun y u r => by
    rcases r with ⟨e, m₂, hm₂, hv⟩ | ⟨e, c', hc', hv⟩
    · exact .inl ⟨e, m₂, hm₂.sameBut hs hL, hv⟩
    · exact .inr ⟨e, c', hc', hv.sameBut hs (hc _ _ hc')⟩
  refine ⟨soft_but H.keep hs hf, H.glb, H.kind, H.gl, ⟨m, hm.sameBut hs hL⟩, fun x c e => let ⟨v, hv⟩ := H.cellsIn x c e; ⟨v, hv.sameBut hs (hc x c e)⟩, fun i x sv h1 h2 => (H.vars i x sv h1 h2).imp_right fun ⟨v, r, w⟩ => ⟨v, rd _ _ r, w.keep (sk _) (fun _ _ n => n) bk⟩, H.len, H.nodup, fun k xs b h1 h2 => ?_, H.fresh, fun b hb => ?_, H.avold, H.room⟩
  · obtain ⟨its, l, w⟩ := H.own k xs b h1 h2
    refine ⟨its, l.extBut hs.extBut ?_, w.keep (sk _) (fun _ _ n => n) bk⟩
    rintro rfl
    exact ha (List.mem_of_getElem? h2)
  · rw [hs.2 b (by rintro rfl; exact ha hb)]; exact H.adrin b hb

/-- x = [comprehension], where the name is stored ahead of the block's letting go -/
theorem ex_comp (K : CtxOk C) (S : ScOk C scope tg cap) (hcl : closL C.env.cells scope.names [] = some cl) (ht : tg[t]? = some x) (hgs : ∀ g ∈ gs, ∃ x xp iter ifs, g = ⟨.Name x xp, iter, ifs, 0⟩) (hi : ItR C σ iter ds) (hs : ∀ v, foldedSetIterable iter C.env v = pure v)
    (B : Block C σ scope tg cap cl elt ifs gs t ds xs) (hsz : xs.length ≤ sizeLine) (i : Nat) {y : Str} {yp spos : Pos} (hn : C.names[i]? = some y) (hy : Slotted C y)
    (hsw : swapsWith (.ListComp elt (⟨.Name x xp, iter, ifs, 0⟩ :: gs) scope pos) (some (.Name y yp)) spos.line C.env = pure true) :
    Ex C σ (.Assign [.Name y yp] (.ListComp elt (⟨.Name x xp, iter, ifs, 0⟩ :: gs) scope pos) spos) .next (σ.setv i (.v (.list xs))) := by
  intro adr s Q E H k
  rw [exec_Assign_Name_used _ _ _ _ hsw]
  refine wpAny_bind (wpAny_standAt (wpAny_bind ?_))
  show wpAny _ C.A (do let _ ← comprehension (.ListComp elt (⟨.Name x xp, iter, ifs, 0⟩ :: gs) scope pos) scope C.env _ (newList []) false (eval iter C.env) (some (assign (.Name y yp) C.env))) _ _ s
  refine wpAny_bind (wpAny_mono (wpAny_comprehension_free (use := some (assign (.Name y yp) C.env)) (Q := fun _ s' => Q .next s') (g := ⟨.Name x xp, iter, ifs, 0⟩) (gs := gs) rfl hs (closureFor_closL hcl) S.kind (scope_names S)
    (hi adr s _ E H fun I fp Pv St' h1 t1 k1 Sr => ?_)) (fun _ s' hq => wpAny_pure (wpAny_pure hq)) fun _ _ e => e)
  refine comp_block K S hcl ht hgs B hsz H k1 Sr (RR := fun acc L => compPost (model C.P.prog C.P.w) C.A E (some (assign (.Name y yp) C.env)) (fun _ s' => Q .next s') acc L) fun D L h' tk m k' hm hL w => ?_
  show wpAny _ C.A (assign (.Name y yp) C.env (.ref D)) _ _ _
  have H1 := H.stays k'
  have al0 : ∀ {b : Addr}, (s.heap.get? b).isSome = true → b ≠ L := by
    rintro b h rfl; rw [hL] at h; cases h
  have nL : C.env.locals ≠ L := by obtain ⟨m₀, hm₀⟩ := H.ns; exact al0 (alive_ns hm₀)
  have nc : ∀ x c, C.env.cells.lookup x = some c → c ≠ L := fun x c e => by
    obtain ⟨v, o, ho, _⟩ := H.cellsIn x c e
    exact al0 (by rw [ho]; rfl)
  have na : L ∉ adr := fun q => al0 (H.adrin _ q) rfl
  have nal : ¬ al σ.own adr L := fun ⟨k, xs, _, q⟩ => na (List.mem_of_getElem? q)
  have hf : C.h₀.get? L = none := by
    cases e : C.h₀.get? L with
    | none => rfl
    | some o => obtain ⟨_, this, _⟩ := H.keep.some e; rw [hL] at this; cases this
  refine wpAny_assign_Name (store_any K i hn hy (s := { s with heap := h', toks := tk }) H1 (sv := .v (.list xs)) w fun h2 t2 H2 F2 kp2 => ?_)
  obtain ⟨oL, es, ep, ho, hd, hr⟩ := hm
  obtain ⟨oL, e2, hd⟩ : ∃ o', h2.get? L = some o' ∧ o'.data = .dict es ep := by
    rcases F2.keep L oL ho (Ne.symm nL) (fun x c e q => nc x c e q.symm) nal with q | ⟨_, _, _, o', _, q2, _, q4⟩
    · exact ⟨oL, q, hd⟩
    · exact ⟨o', q2, q4.trans hd⟩
  refine ⟨m, ⟨oL, es, ep, e2, hd, hr⟩, fun h3 hs3 => ?_⟩
  refine k .next h3 t2 adr (H2.other hs3 e2 (fun _ _ q => by rw [hd] at q; cases q) (fun _ _ q => by rw [hd] at q; cases q) hf nL nc na) ?_ trivial
  exact ((Frm.of_stays k').trans F2).side hs3.extBut hL
end
end Rt

/-! V5a -/
namespace Rt

/-- a value and what is asked for it -/
structure R where
  v : PV
  ok : Prop
inductive Callee where
  | d
  | b (id : String)
  | t (id : String)
structure Ent where
  name : Str
  cal : Callee
  F : List PV → Option R
/-- what is known of a block's names -/
structure Sc where
  names : List Str
  kind : Str → Option NameKind
  T : List Ent

noncomputable def ConR (P : Pr) (n : Nat) (v : Value) (F : List PV → Option R) : Prop := ∀ ps r, F ps = some r → r.ok → CallR P n v ps r.v
noncomputable def EntOk (P : Pr) (n : Nat) (e : Ent) : Prop := match e.cal with
  | .d => ∃ d ∈ P.recs, d.name = e.name ∧ ∃ v, P.mg e.name = some v ∧ ConR P n v e.F
  | .b id => P.mg e.name = none ∧ bootBuiltins e.name = some (.builtin id) ∧ e.name ≠ "__name__" ∧ ConR P n (.builtin id) e.F
  | .t id => P.mg e.name = none ∧ bootBuiltins e.name = some (.type id) ∧ e.name ≠ "__name__" ∧ ConR P n (.type id) e.F
structure Stat (C : Ctx) (Γ : Sc) : Prop where
  names : C.names = Γ.names
  kind : ∀ x, C.env.kindOf x = Γ.kind x
  T : ∀ e ∈ Γ.T, EntOk C.P C.n e
  fk : C.env.scope.kind = .function
  hh : C.A.handled = none
  cells : ∀ x, C.env.kindOf x = some .cell ∨ C.env.kindOf x = some .free → ∃ c, C.env.cells.lookup x = some c

noncomputable def sameS (x y : Str) : Bool := x.cps.toList == y.cps.toList
theorem sameS_eq {x y : Str} (h : sameS x y = true) : x = y := by
  obtain ⟨⟨a⟩⟩ := x; obtain ⟨⟨b⟩⟩ := y
  have : a = b := by simpa [sameS] using h
  rw [this]
theorem sameS_ne {x y : Str} (h : sameS x y = false) : (x == y) = false := by
  rw [beq_eq_false_iff_ne]; rintro rfl
  simp [sameS] at h
noncomputable def idxS (x : Str) : List Str → Option Nat
  | [] => none
  | y :: r => match sameS y x with
    | true => some 0
    | false => (idxS x r).map (· + 1)
theorem idxS_get {x : Str} : ∀ {l : List Str} {i : Nat}, idxS x l = some i → l[i]? = some x
  | y :: r, i, h => by
    unfold idxS at h
    cases e : sameS y x with
    | true => rw [e] at h; cases h; rw [sameS_eq e]; rfl
    | false =>
      rw [e] at h
      obtain ⟨j, hj, rfl⟩ := Option.map_eq_some_iff.mp h
      have := idxS_get (l := r) hj
      simpa using this
/-! contracts by their arguments -/
noncomputable def asStr : PV → Option Str
  | .str x => some x
  | _ => none
noncomputable def asInt : PV → Option Int
  | .int x => some x
  | _ => none
noncomputable def asList : PV → Option (List PV)
  | .list x => some x
  | _ => none
noncomputable def asTup : PV → Option (List PV)
  | .tup x => some x
  | _ => none
noncomputable def asAtom : PV → Option Value
  | .atom x => some x
  | _ => none
noncomputable def asRef (p : PV) : Option Addr := (asAtom p).bind fun v => match v with
  | .ref a => some a
  | _ => none
theorem asStr_inv {p : PV} {x : Str} (h : asStr p = some x) : p = .str x := by cases p <;> first | exact congrArg PV.str (Option.some.inj h) | cases h
theorem asInt_inv {p : PV} {x : Int} (h : asInt p = some x) : p = .int x := by cases p <;> first | exact congrArg PV.int (Option.some.inj h) | cases h
theorem asList_inv {p : PV} {x : List PV} (h : asList p = some x) : p = .list x := by cases p <;> first | exact congrArg PV.list (Option.some.inj h) | cases h
theorem asTup_inv {p : PV} {x : List PV} (h : asTup p = some x) : p = .tup x := by cases p <;> first | exact congrArg PV.tup (Option.some.inj h) | cases h
theorem asAtom_inv {p : PV} {x : Value} (h : asAtom p = some x) : p = .atom x := by cases p <;> first | exact congrArg PV.atom (Option.some.inj h) | cases h
theorem asRef_inv {p : PV} {x : Addr} (h : asRef p = some x) : p = .atom (.ref x) := by
  obtain ⟨v, h1, h2⟩ := Option.bind_eq_some_iff.mp h
  rw [asAtom_inv h1]
  cases v <;> first | exact congrArg (fun a => PV.atom (.ref a)) (Option.some.inj h2) | cases h2
noncomputable def on1 {α : Type} (a : PV → Option α) (f : α → R) : List PV → Option R
  | [p] => (a p).map f
  | _ => none
theorem on1_inv {α : Type} {a : PV → Option α} {f : α → R} {ps : List PV} {r : R} (h : on1 a f ps = some r) : ∃ p x, ps = [p] ∧ a p = some x ∧ f x = r := by
  rcases ps with _ | ⟨p, _ | ⟨_, _⟩⟩
  · cases h
  · obtain ⟨x, h1, h2⟩ := Option.map_eq_some_iff.mp h
    exact ⟨p, x, rfl, h1, h2⟩
  · cases h
noncomputable def on2 {α β : Type} (a : PV → Option α) (b : PV → Option β) (f : α → β → R) : List PV → Option R
  | p :: ps => (a p).bind fun x => on1 b (f x) ps
  | _ => none
theorem on2_inv {α β : Type} {a : PV → Option α} {b : PV → Option β} {f : α → β → R} {ps : List PV} {r : R} (h : on2 a b f ps = some r) : ∃ p q x y, ps = [p, q] ∧ a p = some x ∧ b q = some y ∧ f x y = r := by
  cases ps with
  | nil => cases h
  | cons p ps =>
    obtain ⟨x, h1, h2⟩ := Option.bind_eq_some_iff.mp h
    obtain ⟨q, y, rfl, h3, h4⟩ := on1_inv h2
    exact ⟨p, q, x, y, rfl, h1, h3, h4⟩
noncomputable def on3 {α β γ : Type} (a : PV → Option α) (b : PV → Option β) (c : PV → Option γ) (f : α → β → γ → R) : List PV → Option R
  | p :: ps => (a p).bind fun x => on2 b c (f x) ps
  | _ => none
theorem on3_inv {α β γ : Type} {a : PV → Option α} {b : PV → Option β} {c : PV → Option γ} {f : α → β → γ → R} {ps : List PV} {r : R} (h : on3 a b c f ps = some r) : ∃ p q s x y z, ps = [p, q, s] ∧ a p = some x ∧ b q = some y ∧ c s = some z ∧ f x y z = r := by
  cases ps with
  | nil => cases h
  | cons p ps =>
    obtain ⟨x, h1, h2⟩ := Option.bind_eq_some_iff.mp h
    obtain ⟨q, s, y, z, rfl, h3, h4, h5⟩ := on2_inv h2
    exact ⟨p, q, s, x, y, z, rfl, h1, h3, h4, h5⟩
noncomputable def findT (x : Str) : List Ent → Option Ent
  | [] => none
  | e :: r => match sameS e.name x with
    | true => some e
    | false => findT x r
theorem findT_mem {x : Str} : ∀ {l : List Ent} {e : Ent}, findT x l = some e → e ∈ l ∧ e.name = x
  | y :: r, e, h => by
    unfold findT at h
    cases q : sameS y.name x with
    | true => rw [q] at h; cases h; exact ⟨.head _, sameS_eq q⟩
    | false => rw [q] at h; exact ⟨.tail _ (findT_mem h).1, (findT_mem h).2⟩

noncomputable def strsP : List PV → List Str
  | [] => []
  | .str x :: r => x :: strsP r
  | _ :: r => strsP r
theorem strsP_map (l : List Str) : strsP (l.map .str) = l := by
  induction l with
  | nil => rfl
  | cons a l ih => show a :: strsP (l.map .str) = _; rw [ih]

noncomputable def idxL (xs : List PV) (i : Int) : PV := (if i < 0 then xs[(i + xs.length).toNat]? else xs[i.toNat]?).getD .none
noncomputable def idxOk {α : Type} (xs : List α) (i : Int) : Prop := -(xs.length : Int) ≤ i ∧ i < xs.length ∧ xs.length ≤ sizeLine
noncomputable def idxC (x : Str) (i : Int) : Str := ⟨#[(if i < 0 then x.cps.toList[(i + x.cps.toList.length).toNat]? else x.cps.toList[i.toNat]?).getD 0]⟩

noncomputable def asBool : PV → Option Bool
  | .bool x => some x
  | _ => none
theorem asBool_inv {p : PV} {x : Bool} (h : asBool p = some x) : p = .bool x := by cases p <;> first | exact congrArg PV.bool (Option.some.inj h) | cases h
/-! two steps of an option -/
noncomputable def on {α β γ : Type} (x : Option α) (y : Option β) (f : α → β → Option γ) : Option γ := x.bind fun a => y.bind fun b => f a b
theorem on_inv {α β γ : Type} {x : Option α} {y : Option β} {f : α → β → Option γ} {c : γ} (h : on x y f = some c) : ∃ a b, x = some a ∧ y = some b ∧ f a b = some c := by
  obtain ⟨a, h1, h2⟩ := Option.bind_eq_some_iff.mp h
  obtain ⟨b, h3, h4⟩ := Option.bind_eq_some_iff.mp h2
  exact ⟨a, b, h1, h3, h4⟩
noncomputable def ors {γ : Type} (x y : Option γ) : Option γ := match x with
  | some c => some c
  | none => y
theorem ors_inv {γ : Type} {x y : Option γ} {c : γ} (h : ors x y = some c) : x = some c ∨ y = some c := by
  cases x with
  | none => exact .inr h
  | some c => exact .inl h
theorem cond_inv {γ : Type} {b : Bool} {x y : Option γ} {c : γ} (h : cond b x y = some c) : b = true ∧ x = some c ∨ b = false ∧ y = some c := by
  cases b with
  | false => exact .inr ⟨rfl, h⟩
  | true => exact .inl ⟨rfl, h⟩
theorem cond_nl {γ : Type} {b : Bool} {y : Option γ} {c : γ} (h : cond b none y = some c) : b = false ∧ y = some c := by
  cases b with
  | false => exact ⟨rfl, h⟩
  | true => cases h
theorem cond_nr {γ : Type} {b : Bool} {y : Option γ} {c : γ} (h : cond b y none = some c) : b = true ∧ y = some c := by
  cases b with
  | false => cases h
  | true => exact ⟨rfl, h⟩
noncomputable def i2 (p q : PV) (f : Int → Int → R) : Option R := on (asInt p) (asInt q) fun a b => some (f a b)
noncomputable def s2 (p q : PV) (f : Str → Str → R) : Option R := on (asStr p) (asStr q) fun a b => some (f a b)
noncomputable def l2 (p q : PV) (f : List PV → List PV → R) : Option R := on (asList p) (asList q) fun a b => some (f a b)
theorem i2_inv {p q : PV} {f : Int → Int → R} {c : R} (h : i2 p q f = some c) : ∃ a b, p = .int a ∧ q = .int b ∧ c = f a b := by
  obtain ⟨a, b, h1, h2, h3⟩ := on_inv h
  exact ⟨a, b, asInt_inv h1, asInt_inv h2, (Option.some.inj h3).symm⟩
theorem s2_inv {p q : PV} {f : Str → Str → R} {c : R} (h : s2 p q f = some c) : ∃ a b, p = .str a ∧ q = .str b ∧ c = f a b := by
  obtain ⟨a, b, h1, h2, h3⟩ := on_inv h
  exact ⟨a, b, asStr_inv h1, asStr_inv h2, (Option.some.inj h3).symm⟩
theorem l2_inv {p q : PV} {f : List PV → List PV → R} {c : R} (h : l2 p q f = some c) : ∃ a b, p = .list a ∧ q = .list b ∧ c = f a b := by
  obtain ⟨a, b, h1, h2, h3⟩ := on_inv h
  exact ⟨a, b, asList_inv h1, asList_inv h2, (Option.some.inj h3).symm⟩

noncomputable def binI (op : Operator) (p q : PV) : Option R := match op with
  | .Add => ors (i2 p q fun a b => ⟨.int (a + b), True⟩) (ors (s2 p q fun x y => ⟨.str (x ++ y), x.length + y.length ≤ sizeLine⟩) (l2 p q fun xs ys => ⟨.list (xs ++ ys), xs.length + ys.length ≤ sizeLine⟩))
  | .Sub => i2 p q fun a b => ⟨.int (a - b), True⟩
  | .Mod => i2 p q fun a b => ⟨.int (a.fmod b), b ≠ 0⟩
  | .FloorDiv => i2 p q fun a b => ⟨.int (a.fdiv b), b ≠ 0 ∧ b.natAbs < 1073741824⟩
  | .Pow => i2 p q fun a n => ⟨.int (a ^ n.toNat), 0 ≤ n ∧ n ≤ 1000000 ∧ a.natAbs < 2 ^ 64⟩
  | _ => none
noncomputable def isP : PV → Option R
  | .none => some ⟨.bool true, True⟩
  | .list _ => some ⟨.bool false, True⟩
  | .tup _ => some ⟨.bool false, True⟩
  | _ => none
noncomputable def isNo : PV → Bool
  | .none => true
  | _ => false
noncomputable def cmpI (op : CmpOp) (p q : PV) : Option R := match op with
  | .Eq => ors (i2 p q fun a b => ⟨.bool (a == b), True⟩) (ors (s2 p q fun x y => ⟨.bool (x == y), True⟩) (some ⟨.bool (eqv p q), lay p = true ∧ lay q = true⟩))
  | .NotEq => ors (i2 p q fun a b => ⟨.bool (a != b), True⟩) (ors (s2 p q fun x y => ⟨.bool (x != y), True⟩) (some ⟨.bool (!eqv p q), lay p = true ∧ lay q = true⟩))
  | .Lt => i2 p q fun a b => ⟨.bool (decide (a < b)), True⟩
  | .LtE => i2 p q fun a b => ⟨.bool (decide (a ≤ b)), True⟩
  | .In => ors (s2 p q fun y x => ⟨.bool (!(Builtin.Str.occurrences x y 0 x.length 1).isEmpty), True⟩) ((asList q).map fun xs => ⟨.bool ((toPDs xs).any fun y => PyData.eqv y (toPD p)), lay p = true ∧ lay (.list xs) = true⟩)
  | .NotIn => (asList q).map fun xs => ⟨.bool (!(toPDs xs).any fun y => PyData.eqv y (toPD p)), lay p = true ∧ lay (.list xs) = true⟩
  | .Is => cond (isNo q) (isP p) none
  | _ => none
noncomputable def truV : PV → Option (Bool × Prop)
  | .bool b => some (b, True)
  | .list xs => some (!xs.isEmpty, xs.length ≤ sizeLine)
  | .str x => some (!(x.length == 0), x.length ≤ sizeLine)
  | _ => none
noncomputable def meth1 (m : Str) (x : Str) (q : PV) : Option (String × R) := match q with
  | .list ys => cond (sameS m "join") (some ("str.join", ⟨.str (Txt.join x (strsP ys)), ys = (strsP ys).map .str ∧ x.length ≤ 64 ∧ ((strsP ys).map (·.length)).sum + (strsP ys).length * 64 ≤ 16777216⟩)) none
  | .str y => cond (sameS m "startswith") (some ("str.startswith", ⟨.bool (Txt.startswith x y), True⟩))
    (cond (sameS m "endswith") (some ("str.endswith", ⟨.bool (Txt.endswith x y), True⟩))
    (cond (sameS m "split") (some ("str.split", ⟨.list ((Txt.split x y).map .str), (y.length == 0) = false ∧ x.length ≤ sizeLine ∧ (Builtin.Str.partsBetween x (Builtin.Str.occurrences x y 0 x.length (x.length + 1)) y.length).length ≤ sizeLine⟩)) none))
  | _ => none
noncomputable def methI (m : Str) (p : PV) (qs : List PV) : Option (String × R) := (asStr p).bind fun x => match qs with
  | [] => cond (sameS m "isalnum") (some ("str.isalnum", ⟨.bool (Txt.isalnum x), True⟩)) none
  | q :: r => cond r.isEmpty (meth1 m x q) none
noncomputable def getI (p q : PV) : Option R := (asInt q).bind fun i => match p with
  | .list xs => some ⟨idxL xs i, idxOk xs i⟩
  | .tup xs => some ⟨idxL xs i, idxOk xs i⟩
  | .str x => some ⟨.str (idxC x i), idxOk x.cps.toList i⟩
  | _ => none
noncomputable def sliI (p : PV) (i j : Option Int) : Option R := match p with
  | .str x => some ⟨.str (Txt.slice x i j), x.length ≤ sizeLine⟩
  | .list xs => some ⟨.list (pickL xs i j), xs.length ≤ sizeLine⟩
  | _ => none
noncomputable def noBase : Expr → Bool
  | .Call (.Name _ _) [] [] _ => false
  | _ => true
noncomputable def isStar : Expr → Bool
  | .Starred .. => true
  | _ => false
noncomputable def isSlice : Expr → Bool
  | .Slice .. => true
  | _ => false
noncomputable def ifV (c : Bool) (p q : PV) : Option PV := match p with
  | .bool a => (asBool q).map fun b => .bool (bif c then a else b)
  | .int a => (asInt q).map fun b => .int (bif c then a else b)
  | .str a => (asStr q).map fun b => .str (bif c then a else b)
  | .list a => (asList q).map fun b => .list (bif c then a else b)
  | _ => none

/-! the evaluator, a level at a time: f what is known of the expressions behind, t of the tests -/
noncomputable def isGI : Option NameKind → Bool
  | some .globalImplicit => true
  | _ => false
noncomputable def svI : SV → Option R
  | .v p => some ⟨p, True⟩
  | _ => none
noncomputable def entI (e : Ent) : Option R := match e.cal with
  | .b id => some ⟨.atom (.builtin id), True⟩
  | .t id => some ⟨.atom (.type id), True⟩
  | .d => none
noncomputable def nameI (Γ : Sc) (loc : List SV) (x : Str) : Option R := cond (sameS x "__debug__") none (match idxS x Γ.names with
  | some i => loc[i]?.bind svI
  | none => cond (isGI (Γ.kind x)) ((findT x Γ.T).bind entI) none)
noncomputable def constI : Const → Option R
  | .none => some ⟨.none, True⟩
  | .bool b => some ⟨.bool b, True⟩
  | .int i => some ⟨.int i, True⟩
  | .str s => some ⟨.str s, True⟩
  | _ => none
noncomputable def res2 (x y : Option R) (g : PV → PV → Option R) : Option R := on x y fun a b => (g a.v b.v).map fun c => ⟨c.v, a.ok ∧ b.ok ∧ c.ok⟩
theorem res2_inv {x y : Option R} {g : PV → PV → Option R} {r : R} (h : res2 x y g = some r) : ∃ a b c, x = some a ∧ y = some b ∧ g a.v b.v = some c ∧ r = ⟨c.v, a.ok ∧ b.ok ∧ c.ok⟩ := by
  obtain ⟨a, b, h1, h2, h3⟩ := on_inv h
  obtain ⟨c, h4, h5⟩ := Option.map_eq_some_iff.mp h3
  exact ⟨a, b, c, h1, h2, h4, h5.symm⟩
noncomputable def one {α : Type} : List α → Option α
  | [a] => some a
  | _ => none
theorem one_inv {α : Type} {l : List α} {a : α} (h : one l = some a) : l = [a] := by
  rcases l with _ | ⟨p, _ | ⟨u, v⟩⟩
  · cases h
  · cases h; rfl
  · cases h
noncomputable def cmpE (f : Expr → Option R) (l : Expr) (ops : List CmpOp) (rs : List Expr) : Option R := on (one ops) (one rs) fun op r => cond (behindInMarks op r) none (res2 (f l) (f r) (cmpI op))
noncomputable def evsI (f : Expr → Option R) : List Expr → Option (List PV × Prop)
  | [] => some ([], True)
  | e :: es => cond (isStar e) none (on (f e) (evsI f es) fun a q => some (a.v :: q.1, a.ok ∧ q.2))
noncomputable def ptI (f : Expr → Option R) : Option Expr → Option (Option Int × Prop)
  | none => some (none, True)
  | some e => (f e).bind fun a => (asInt a.v).map fun i => (some i, a.ok)
noncomputable def sliE (f : Expr → Option R) (o : Expr) (lo hi : Option Expr) : Option R := (f o).bind fun a => on (ptI f lo) (ptI f hi) fun x y => (sliI a.v x.1 y.1).map fun c => ⟨c.v, a.ok ∧ x.2 ∧ y.2 ∧ c.ok⟩
noncomputable def subE (f : Expr → Option R) (o i : Expr) : Option R := match i with
  | .Slice lo hi st _ => cond st.isNone (sliE f o lo hi) none
  | i => cond (isSlice i) none (res2 (f o) (f i) getI)
noncomputable def callN (Γ : Sc) (f : Expr → Option R) (x : Str) (as : List Expr) : Option R := cond (sameS x "__debug__" || as.isEmpty) none (cond ((idxS x Γ.names).isNone && isGI (Γ.kind x))
  (on (findT x Γ.T) (evsI f as) fun t q => (t.F q.1).map fun c => ⟨c.v, q.2 ∧ c.ok⟩) none)
noncomputable def methE (f : Expr → Option R) (o : Expr) (m : Str) (p1 : Pos) (as : List Expr) (p2 : Pos) : Option R := cond (noBase o && decide (as.length < 30) && (p1.endLine == p2.line))
  (on (f o) (evsI f as) fun a q => (methI m a.v q.1).map fun c => ⟨c.2.v, a.ok ∧ q.2 ∧ c.2.ok⟩) none
noncomputable def callE (Γ : Sc) (f : Expr → Option R) (g : Expr) (as : List Expr) (p2 : Pos) : Option R := match g with
  | .Name x _ => callN Γ f x as
  | .Attribute o m p1 => methE f o m p1 as p2
  | _ => none
noncomputable def isUSub : UnaryOp → Bool
  | .USub => true
  | _ => false
noncomputable def isNot : UnaryOp → Bool
  | .Not => true
  | _ => false
noncomputable def evS (Γ : Sc) (loc : List SV) (f : Expr → Option R) (t : Expr → Option (Bool × Prop)) (e : Expr) : Option R := match e with
  | .Name x _ => nameI Γ loc x
  | .Constant c _ _ => constI c
  | .BinOp l op r _ => res2 (f l) (f r) (binI op)
  | .Compare l ops rs _ => cmpE f l ops rs
  | .UnaryOp op x _ => cond (isUSub op) ((f x).bind fun a => (asInt a.v).map fun i => ⟨.int (-i), a.ok⟩) none
  | .IfExp c a b _ => (t c).bind fun q => on (f a) (f b) fun x y => (ifV q.1 x.v y.v).map fun z => ⟨z, q.2 ∧ (q.1 = true → x.ok) ∧ (q.1 = false → y.ok)⟩
  | .List es _ => (evsI f es).map fun q => ⟨.list q.1, q.2 ∧ q.1.length ≤ sizeLine⟩
  | .Tuple es _ _ => (evsI f es).map fun q => ⟨.tup q.1, q.2 ∧ q.1.length ≤ sizeLine⟩
  | .Subscript o i _ => subE f o i
  | .Call g as ks p2 => cond ks.isEmpty (callE Γ f g as p2) none
  | _ => none
noncomputable def boolI (op : BoolOp) (x y : Option (Bool × Prop)) : Option (Bool × Prop) := match op with
  | .And => on x y fun a b => some (a.1 && b.1, a.2 ∧ (a.1 = true → b.2))
  | .Or => on x y fun a b => some (a.1 || b.1, a.2 ∧ (a.1 = false → b.2))
noncomputable def boolE (t : Expr → Option (Bool × Prop)) (op : BoolOp) (es : List Expr) : Option (Bool × Prop) := match es with
  | x :: r => (one r).bind fun y => boolI op (t x) (t y)
  | [] => none
noncomputable def valT (f : Expr → Option R) (e : Expr) : Option (Bool × Prop) := (f e).bind fun a => (truV a.v).map fun q => (q.1, a.ok ∧ q.2)
noncomputable def isTst : Expr → Bool
  | .UnaryOp .. => true
  | .BoolOp .. => true
  | .IfExp .. => true
  | .Compare .. => true
  | _ => false
noncomputable def trS (f : Expr → Option R) (t : Expr → Option (Bool × Prop)) (e : Expr) : Option (Bool × Prop) := match e with
  | .UnaryOp op x _ => cond (isNot op) ((t x).map fun q => (!q.1, q.2)) none
  | .BoolOp op es _ => boolE t op es
  | .Compare l ops rs _ => (cmpE f l ops rs).bind fun a => (asBool a.v).map fun b => (b, a.ok)
  | e => cond (isTst e) none (valT f e)
noncomputable def recI (Γ : Sc) (loc : List SV) : Nat → (Expr → Option R) × (Expr → Option (Bool × Prop))
  | 0 => (fun _ => none, fun _ => none)
  | n + 1 => (evS Γ loc (recI Γ loc n).1 (recI Γ loc n).2, trS (recI Γ loc n).1 (recI Γ loc n).2)
noncomputable def evI (Γ : Sc) (loc : List SV) (n : Nat) : Expr → Option R := (recI Γ loc n).1
noncomputable def trI (Γ : Sc) (loc : List SV) (n : Nat) : Expr → Option (Bool × Prop) := (recI Γ loc n).2
end Rt

/-! V5b -/
namespace Rt

theorem binI_sound {P : Pr} {A : Around} {op : Operator} {p q : PV} {c : R} (h : binI op p q = some c) (ok : c.ok) : BinR P A (binaryOp op) p q c.v := by
  cases op with
  | Add =>
    rcases ors_inv h with h | h
    · obtain ⟨a, b, rfl, rfl, rfl⟩ := i2_inv h; exact b_add _ _
    · rcases ors_inv h with h | h
      · obtain ⟨a, b, rfl, rfl, rfl⟩ := s2_inv h; exact b_adds _ _ ok
      · obtain ⟨a, b, rfl, rfl, rfl⟩ := l2_inv h; exact b_addl _ _ ok
  | Sub => obtain ⟨a, b, rfl, rfl, rfl⟩ := i2_inv h; exact b_sub _ _
  | Mod => obtain ⟨a, b, rfl, rfl, rfl⟩ := i2_inv h; exact b_mod _ _ ok
  | FloorDiv => obtain ⟨a, b, rfl, rfl, rfl⟩ := i2_inv h; exact b_fdiv _ _ ok.1 ok.2
  | Pow => obtain ⟨a, b, rfl, rfl, rfl⟩ := i2_inv h; exact b_pow _ _ ok.1 ok.2.1 ok.2.2
  | _ => cases h
theorem isNo_eq {p : PV} (h : isNo p = true) : p = .none := by cases p <;> first | rfl | cases h
theorem cmpI_sound {P : Pr} {A : Around} {op : CmpOp} {p q : PV} {c : R} (h : cmpI op p q = some c) (ok : c.ok) : BinR P A (compareOp op) p q c.v := by
  cases op with
  | Eq =>
    rcases ors_inv h with h | h
    · obtain ⟨a, b, rfl, rfl, rfl⟩ := i2_inv h; exact b_eqI _ _
    · rcases ors_inv h with h | h
      · obtain ⟨a, b, rfl, rfl, rfl⟩ := s2_inv h; exact b_eqS _ _
      · obtain rfl := Option.some.inj h; exact b_eq _ _ ok.1 ok.2
  | NotEq =>
    rcases ors_inv h with h | h
    · obtain ⟨a, b, rfl, rfl, rfl⟩ := i2_inv h; exact b_neI _ _
    · rcases ors_inv h with h | h
      · obtain ⟨a, b, rfl, rfl, rfl⟩ := s2_inv h; exact b_neS _ _
      · obtain rfl := Option.some.inj h; exact b_ne _ _ ok.1 ok.2
  | Lt => obtain ⟨a, b, rfl, rfl, rfl⟩ := i2_inv h; exact b_lt _ _
  | LtE => obtain ⟨a, b, rfl, rfl, rfl⟩ := i2_inv h; exact b_le _ _
  | In =>
    rcases ors_inv h with h | h
    · obtain ⟨a, b, rfl, rfl, rfl⟩ := s2_inv h; exact b_inS _ _
    · obtain ⟨xs, h1, rfl⟩ := Option.map_eq_some_iff.mp h
      obtain rfl := asList_inv h1
      exact b_in _ _ ok.1 ok.2
  | NotIn =>
    obtain ⟨xs, h1, rfl⟩ := Option.map_eq_some_iff.mp h
    obtain rfl := asList_inv h1
    exact b_nin _ _ ok.1 ok.2
  | Is =>
    obtain ⟨h1, h2⟩ := cond_nr h
    obtain rfl := isNo_eq h1
    cases p with
    | none => obtain rfl := Option.some.inj h2; exact b_isNone .none (.inl rfl)
    | list xs => obtain rfl := Option.some.inj h2; exact b_isNone (.list _) (.inr (.inl ⟨_, rfl⟩))
    | tup xs => obtain rfl := Option.some.inj h2; exact b_isNone (.tup _) (.inr (.inr ⟨_, rfl⟩))
    | _ => cases h2
  | _ => cases h
theorem truV_sound {P : Pr} {A : Around} {p : PV} {b : Bool} {ok : Prop} (h : truV p = some (b, ok)) (k : ok) : TruR P A p b := by
  cases p with
  | bool b => cases h; exact t_bool _
  | list xs => cases h; exact t_list _ k
  | str x => cases h; exact t_str _ k
  | _ => cases h
theorem idx_get {α : Type} (xs : List α) (i : Int) (k : idxOk xs i) : ∃ p, (if i < 0 then xs[(i + xs.length).toNat]? else xs[i.toNat]?) = some p := by
  obtain ⟨h1, h2, _⟩ := k
  split
  · have : (i + xs.length).toNat < xs.length := by lia
    exact ⟨_, List.getElem?_eq_getElem this⟩
  · have : i.toNat < xs.length := by lia
    exact ⟨_, List.getElem?_eq_getElem this⟩
theorem seqIdx (i : Int) (n : Nat) (h1 : -(n : Int) ≤ i) (h2 : i < n) : seqIndex? i n = some (if i < 0 then (i + n).toNat else i.toNat) := by
  unfold seqIndex?
  by_cases hi : i < 0
  · have a1 : 0 ≤ i + (n : Int) := by lia
    have a2 : i + (n : Int) < n := by lia
    simp [hi, a1]; exact a2
  · have a1 : 0 ≤ i := by lia
    simp [hi, a1, h2]
theorem idxL_some {xs : List PV} {i : Int} {p : PV} (hp : (if i < 0 then xs[(i + xs.length).toNat]? else xs[i.toNat]?) = some p) : idxL xs i = p := congrArg (fun o => o.getD PV.none) hp
theorem getI_list {P : Pr} {A : Around} {xs : List PV} {i : Int} (ok : idxOk xs i) : GetR P A (.list xs) (.int i) (idxL xs i) := by
  obtain ⟨p, hp⟩ := idx_get xs i ok
  rw [idxL_some hp]
  by_cases hi : i < 0
  · rw [if_pos hi] at hp
    exact g_listneg xs i p hi ok.1 hp ok.2.2
  · rw [if_neg hi] at hp
    exact g_list xs i p (Int.not_lt.mp hi) hp ok.2.2
theorem getI_tup {P : Pr} {A : Around} {xs : List PV} {i : Int} (ok : idxOk xs i) : GetR P A (.tup xs) (.int i) (idxL xs i) := by
  have hL : sizeLine = 16777216 := rfl
  obtain ⟨p, hp⟩ := idx_get xs i ok
  obtain ⟨h1, h2, h3⟩ := ok
  rw [idxL_some hp]
  by_cases hi : i < 0
  · rw [if_pos hi] at hp
    refine g_tup xs i (i + xs.length).toNat p (by lia) (by lia) ?_ hp
    rw [seqIdx i _ h1 h2, if_pos hi]
  · rw [if_neg hi] at hp
    refine g_tup xs i i.toNat p (by lia) (by lia) ?_ hp
    rw [seqIdx i _ h1 h2, if_neg hi]
theorem getI_str {P : Pr} {A : Around} {x : Str} {i : Int} (ok : idxOk x.cps.toList i) : GetR P A (.str x) (.int i) (.str (idxC x i)) := by
  have hL : sizeLine = 16777216 := rfl
  obtain ⟨p, hp⟩ := idx_get x.cps.toList i ok
  obtain ⟨h1, h2, h3⟩ := ok
  rw [show idxC x i = ⟨#[p]⟩ by unfold idxC; rw [hp]; rfl]
  refine g_str x i p ?_ ?_
  · rw [Bool.or_eq_false_iff]
    constructor <;> rw [decide_eq_false_iff_not] <;> lia
  · have e : x.length = x.cps.toList.length := by simp [Str.length]
    rw [e, seqIdx i _ h1 h2]
    by_cases hi : i < 0
    · rw [if_pos hi] at hp ⊢
      simpa using hp
    · rw [if_neg hi] at hp ⊢
      simpa using hp
theorem getI_sound {P : Pr} {A : Around} {p q : PV} {c : R} (h : getI p q = some c) (ok : c.ok) : GetR P A p q c.v := by
  obtain ⟨i, h1, h2⟩ := Option.bind_eq_some_iff.mp h
  obtain rfl := asInt_inv h1
  cases p with
  | list xs => obtain rfl := Option.some.inj h2; exact getI_list ok
  | tup xs => obtain rfl := Option.some.inj h2; exact getI_tup ok
  | str x => obtain rfl := Option.some.inj h2; exact getI_str ok
  | _ => cases h2

noncomputable def MethOk (P : Pr) (n : Nat) (m : Str) (p : PV) (qs : List PV) (t : String × R) : Prop :=
  CallR P n (.builtin t.1) (p :: qs) t.2.v ∧ Slot "str" m t.1 ∧ typeOf (.builtin t.1) = pure (.type "method_descriptor") ∧ ∃ x, p = .str x
theorem meth1_sound {P : Pr} {n : Nat} {m x : Str} {q : PV} {t : String × R} (h : meth1 m x q = some t) (ok : t.2.ok) : MethOk P n m (.str x) [q] t := by
  cases q with
  | list ys =>
    obtain ⟨hm, h⟩ := cond_nr h
    obtain rfl := Option.some.inj h
    rw [sameS_eq hm]
    refine ⟨?_, F.slot_str_join, F.type_str_join, x, rfl⟩
    have := c_join (P := P) (n := n) _ _ ok.2.1 ok.2.2
    rw [← ok.1] at this; exact this
  | str y =>
    rcases cond_inv h with ⟨hm, h⟩ | ⟨u, h⟩
    · obtain rfl := Option.some.inj h
      rw [sameS_eq hm]
      exact ⟨c_starts _ _, F.slot_str_startswith, F.type_str_startswith, x, rfl⟩
    · rcases cond_inv h with ⟨hm, h⟩ | ⟨u, h⟩
      · obtain rfl := Option.some.inj h
        rw [sameS_eq hm]
        exact ⟨c_ends _ _, F.slot_str_endswith, F.type_str_endswith, x, rfl⟩
      · obtain ⟨hm, h⟩ := cond_nr h
        obtain rfl := Option.some.inj h
        rw [sameS_eq hm]
        exact ⟨c_split _ _ ok.1 ok.2.1 ok.2.2, F.slot_str_split, F.type_str_split, x, rfl⟩
  | _ => cases h
theorem methI_sound {P : Pr} {n : Nat} {m : Str} {p : PV} {qs : List PV} {t : String × R} (h : methI m p qs = some t) (ok : t.2.ok) : MethOk P n m p qs t := by
  obtain ⟨x, h1, h2⟩ := Option.bind_eq_some_iff.mp h
  obtain rfl := asStr_inv h1
  cases qs with
  | nil =>
    obtain ⟨hm, h⟩ := cond_nr h2
    obtain rfl := Option.some.inj h
    rw [sameS_eq hm]
    exact ⟨c_isalnum _, F.slot_str_isalnum, F.type_str_isalnum, x, rfl⟩
  | cons q r =>
    obtain ⟨hr, h⟩ := cond_nr h2
    cases r with
    | nil => exact meth1_sound h ok
    | cons a b => cases hr
end Rt

/-! V5c -/
namespace Rt

theorem starEach_plain {e : Expr} {es : List Expr} {env : Env} (h : isStar e = false) : starEach (e :: es) env = (false, eval e env) :: starEach es env := by
  cases e <;> first | rfl | cases h
theorem plain_any {pos : Pos} : ∀ {es : List Expr} {env : Env}, es.all (fun e => !isStar e) = true → (backTo pos (starEach es env)).any (·.1) = false
  | [], _, _ => rfl
  | e :: es, env, h => by
    rw [List.all_cons, Bool.and_eq_true] at h
    rw [starEach_plain (by simpa using h.1)]
    show (false || (backTo pos (starEach es env)).any (·.1)) = false
    rw [plain_any h.2]; rfl
theorem noBase_eq {o : Expr} {name : Str} {env : Env} {m : Sem Value} (h : noBase o = true) : attributeBase o name env m = m := by
  cases o <;> first | rfl | skip
  rename_i f as ks p
  cases f <;> first | rfl | skip
  cases as <;> first | rfl | skip
  cases ks <;> first | rfl | cases h
theorem meth_eq {o : Expr} {name : Str} {apos pos : Pos} {args : List Expr} {env : Env} (hb : noBase o = true) (hs : args.all (fun e => !isStar e) = true) (hl : args.length < 30) (hp : (apos.endLine == pos.line) = true) :
    eval (.Call (.Attribute o name apos) args [] pos) env = (do
      let ov ← eval o env
      standAt apos.atName
      let (f, first) ← holding [ov] (getMethod ov name (do return (← importBound o env).getD true))
      callWith pos f first (backTo pos (starEach args env)) []) := by
  rw [arm_eval_Call, noBase_eq hb]
  have e2 : methodCallForm (args.length + ([] : List Keyword).length) (backTo pos (starEach args env)) (backToKw pos (keywordEach [] env)) = true := by
    have h1 : (backTo pos (starEach args env)).all (!·.1) = true := by
      have := plain_any (pos := pos) (env := env) hs
      rw [List.all_eq_true]
      intro x hx
      rw [List.any_eq_false] at this
      simpa using this x hx
    unfold methodCallForm
    rw [h1]
    show (true && true && decide (args.length + 0 + 0 < 30)) = true
    simpa using hl
  have e3 : backToKw pos (keywordEach [] env) = [] := rfl
  unfold methodCall calleeOf methodCallPos
  rw [e2]
  simp only [hp, Bool.not_true, Bool.false_or, if_true, pure_bind, e3]
theorem tr_and {C : Ctx} {σ : St} {x y : Expr} {pos : Pos} {a b : Bool} (hx : Tr C σ x a) (hy : a = true → Tr C σ y b) : Tr C σ (.BoolOp .And [x, y] pos) (a && b) := by
  intro adr s Q E H k
  refine wpAny_isTrue_BoolOp (wpAny_allTrue_And_cons (hx adr s _ E H fun h1 t1 k1 => ?_))
  cases a with
  | false => exact k h1 t1 k1
  | true =>
    refine wpAny_allTrue_And_cons (hy rfl adr _ _ E (H.stays k1) fun h2 t2 k2 => ?_)
    cases b with
    | false => exact k h2 t2 (stays_trans k1 k2)
    | true => exact wpAny_allTrue_And_nil (k h2 t2 (stays_trans k1 k2))
theorem tr_or {C : Ctx} {σ : St} {x y : Expr} {pos : Pos} {a b : Bool} (hx : Tr C σ x a) (hy : a = false → Tr C σ y b) : Tr C σ (.BoolOp .Or [x, y] pos) (a || b) := by
  intro adr s Q E H k
  refine wpAny_isTrue_BoolOp (wpAny_allTrue_Or_cons (hx adr s _ E H fun h1 t1 k1 => ?_))
  cases a with
  | true => exact k h1 t1 k1
  | false =>
    refine wpAny_allTrue_Or_cons (hy rfl adr _ _ E (H.stays k1) fun h2 t2 k2 => ?_)
    cases b with
    | true => exact k h2 t2 (stays_trans k1 k2)
    | false => exact wpAny_allTrue_Or_nil (k h2 t2 (stays_trans k1 k2))
/-- and, as a value -/
theorem ev_and {C : Ctx} {σ : St} {x y : Expr} {pos : Pos} {a b : Bool} (hx : Ev C σ x (.v (.bool a))) (hy : a = true → Ev C σ y (.v (.bool b))) : Ev C σ (.BoolOp .And [x, y] pos) (.v (.bool (a && b))) := by
  intro adr s Q E H k
  refine wpAny_And2 (hx adr s _ E H fun v h1 t1 k1 w1 => ?_)
  cases w1
  refine wpAny_truthy_bool ?_
  cases a with
  | false => exact k _ h1 t1 k1 (.bool _)
  | true => exact hy rfl adr _ _ E (H.stays k1) fun v h2 t2 k2 w2 => k v h2 t2 (stays_trans k1 k2) w2

theorem cellKind {C : Ctx} {σ : St} {x : Str} {pos : Pos} {i : Nat} {p : PV} (hn : C.names[i]? = some x) (hl : σ.loc[i]? = some (.v p)) (hd : sameS x "__debug__" = false) : Ev C σ (.Name x pos) (.v p) :=
  ev_name i hn hl (fun h => nomatch h) (sameS_ne hd)

theorem isGI_eq {k : Option NameKind} (h : isGI k = true) : k = some .globalImplicit := by
  cases k with
  | none => cases h
  | some k => cases k <;> first | rfl | cases h
section
variable {C : Ctx} {Γ : Sc} (S : Stat C Γ) {σ : St}
include S
theorem nameI_sound {x : Str} {pos : Pos} {r : R} (h : nameI Γ σ.loc x = some r) : Ev C σ (.Name x pos) (.v r.v) := by
  obtain ⟨hd, h⟩ := cond_nl h
  cases hi : idxS x Γ.names with
  | some i =>
    rw [hi] at h
    obtain ⟨p, hp, h⟩ := Option.bind_eq_some_iff.mp h
    cases p with
    | v p => obtain rfl := Option.some.inj h; exact cellKind (by rw [S.names]; exact idxS_get hi) hp hd
    | _ => cases h
  | none =>
    rw [hi] at h
    obtain ⟨hk, h⟩ := cond_nr h
    obtain ⟨t, hT, he⟩ := Option.bind_eq_some_iff.mp h
    obtain ⟨hm, hn⟩ := findT_mem hT
    have ent := S.T t hm
    obtain ⟨nm, cal, F⟩ := t
    subst hn
    have hk' := (S.kind nm).trans (isGI_eq hk)
    cases cal with
    | d => cases he
    | b id => obtain rfl := Option.some.inj he; exact ev_builtin hk' ent.1 ent.2.1 ent.2.2.1 (sameS_ne hd)
    | t id => obtain rfl := Option.some.inj he; exact ev_builtin hk' ent.1 ent.2.1 ent.2.2.1 (sameS_ne hd)
omit S in
theorem constI_sound {c : Const} {k : Nat} {pos : Pos} {r : R} (h : constI c = some r) : Ev C σ (.Constant c k pos) (.v r.v) := by
  cases c with
  | none => obtain rfl := Option.some.inj h; exact ev_none
  | bool b => obtain rfl := Option.some.inj h; exact ev_bool
  | int i => obtain rfl := Option.some.inj h; exact ev_int
  | str x => obtain rfl := Option.some.inj h; exact ev_str
  | _ => cases h

noncomputable def FOk (C : Ctx) (σ : St) (f : Expr → Option R) : Prop := ∀ e r, f e = some r → r.ok → Ev C σ e (.v r.v)
noncomputable def TOk (C : Ctx) (σ : St) (t : Expr → Option (Bool × Prop)) : Prop := ∀ e b, t e = some b → b.2 → Tr C σ e b.1
variable {f : Expr → Option R} {t : Expr → Option (Bool × Prop)} (hf : FOk C σ f) (ht : TOk C σ t)
include hf
omit S in
theorem evsI_sound : ∀ {es : List Expr} {q : List PV × Prop}, evsI f es = some q → q.2 → Evs C σ es (q.1.map .v) ∧ es.all (fun e => !isStar e) = true
  | [], q, h, k => by obtain rfl := Option.some.inj h; exact ⟨evs_nil, rfl⟩
  | e :: es, q, h, k => by
    obtain ⟨hs, h⟩ := cond_nl h
    obtain ⟨a, w, ha, hw, h⟩ := on_inv h
    obtain rfl := Option.some.inj h
    obtain ⟨q1, q2⟩ := evsI_sound hw k.2
    exact ⟨evs_cons (hf e a ha k.1) q1 (starEach_plain hs), by rw [List.all_cons, hs, q2]; rfl⟩
omit S in
theorem ptI_sound {o : Option Expr} {q : Option Int × Prop} (h : ptI f o = some q) (k : q.2) : EvPart C σ o q.1 := by
  cases o with
  | none => obtain rfl := Option.some.inj h; trivial
  | some e =>
    obtain ⟨a, ha, h⟩ := Option.bind_eq_some_iff.mp h
    obtain ⟨i, hi, rfl⟩ := Option.map_eq_some_iff.mp h
    have := hf e a ha k
    rw [asInt_inv hi] at this
    exact this
omit S in
theorem sliE_sound {o : Expr} {lo hi : Option Expr} {sp pos : Pos} {r : R} (h : sliE f o lo hi = some r) (k : r.ok) : Ev C σ (.Subscript o (.Slice lo hi none sp) pos) (.v r.v) := by
  obtain ⟨a, ha, h⟩ := Option.bind_eq_some_iff.mp h
  obtain ⟨x, y, hx, hy, h⟩ := on_inv h
  obtain ⟨c, hc, rfl⟩ := Option.map_eq_some_iff.mp h
  have e1 := hf o a ha k.1
  have e2 := ptI_sound hf hx k.2.1
  have e3 := ptI_sound hf hy k.2.2.1
  have k4 : c.ok := k.2.2.2
  cases hv : a.v with
  | str x =>
    rw [hv] at e1 hc
    obtain rfl := Option.some.inj hc
    exact ev_slice_str e1 e2 e3 k4
  | list x =>
    rw [hv] at e1 hc
    obtain rfl := Option.some.inj hc
    exact ev_slice_list e1 e2 e3 k4
  | _ => rw [hv] at hc; cases hc
omit S in
theorem subE_sound {o i : Expr} {pos : Pos} {r : R} (h : subE f o i = some r) (k : r.ok) : Ev C σ (.Subscript o i pos) (.v r.v) := by
  have gen : isSlice i = false → (∀ o' i', subscripted i false o' i' = operate [o', i'] (getItem o' i')) → res2 (f o) (f i) getI = some r → Ev C σ (.Subscript o i pos) (.v r.v) := fun u hs h => by
    obtain ⟨a, b, c, ha, hb, hc, rfl⟩ := res2_inv h
    exact ev_sub (hf o a ha k.1) (hf i b hb k.2.1) (getI_sound (c := c) hc k.2.2) hs
  cases i with
  | Slice lo hi st sp =>
    obtain ⟨hs, h⟩ := cond_nr h
    cases st with
    | none => exact sliE_sound hf h k
    | some s => cases hs
  | _ => exact gen rfl (fun o' i' => rfl) h
theorem callN_sound {x : Str} {fp pos : Pos} {as : List Expr} {r : R} (h : callN Γ f x as = some r) (k : r.ok) : Ev C σ (.Call (.Name x fp) as [] pos) (.v r.v) := by
  obtain ⟨hd, h⟩ := cond_nl h
  obtain ⟨hi, h⟩ := cond_nr h
  obtain ⟨t, q, hT, hq, h⟩ := on_inv h
  obtain ⟨c, hc, rfl⟩ := Option.map_eq_some_iff.mp h
  obtain ⟨hd', he⟩ := Bool.or_eq_false_iff.mp hd
  obtain ⟨u, hk⟩ := Bool.and_eq_true_iff.mp hi
  have hk' := (S.kind x).trans (isGI_eq hk)
  obtain ⟨hes, hpl⟩ := evsI_sound hf hq k.1
  obtain ⟨hm, hn⟩ := findT_mem hT
  have ent := S.T t hm
  cases as with
  | nil => cases he
  | cons e es =>
    obtain ⟨hp1, hp2⟩ := Bool.and_eq_true_iff.mp hpl
    have hst := starEach_plain (es := es) (env := C.env) (show isStar e = false from Bool.not_eq_true' (isStar e) ▸ hp1)
    obtain ⟨nm, cal, F⟩ := t
    cases hn
    cases cal with
    | d =>
      obtain ⟨d, hd1, hd2, v, hv1, hv2⟩ := ent
      exact ev_call_d d hd1 (hd2 ▸ hv1) (ev_global hk' hv1 (sameS_ne hd')) hes (hv2 q.1 c hc k.2) (Nat.le_refl _) S.hh rfl hst
    | b id => exact ev_call_b (ev_builtin hk' ent.1 ent.2.1 ent.2.2.1 (sameS_ne hd')) hes (ent.2.2.2 q.1 c hc k.2) (Nat.le_refl _) S.hh rfl hst (plain_any hp2)
    | t id => exact ev_call_t (ev_builtin hk' ent.1 ent.2.1 ent.2.2.1 (sameS_ne hd')) hes (ent.2.2.2 q.1 c hc k.2) (Nat.le_refl _) S.hh rfl hst (plain_any hp2)
theorem methE_sound {o : Expr} {m : Str} {p1 pos : Pos} {as : List Expr} {r : R} (h : methE f o m p1 as pos = some r) (k : r.ok) : Ev C σ (.Call (.Attribute o m p1) as [] pos) (.v r.v) := by
  obtain ⟨hb, h⟩ := cond_nr h
  obtain ⟨a, q, ha, hq, h⟩ := on_inv h
  obtain ⟨c, hc, rfl⟩ := Option.map_eq_some_iff.mp h
  obtain ⟨f0, f3⟩ := Bool.and_eq_true_iff.mp hb
  obtain ⟨f1, f2⟩ := Bool.and_eq_true_iff.mp f0
  obtain ⟨hes, hpl⟩ := evsI_sound hf hq k.2.1
  obtain ⟨m1, m2, m3, x, m4⟩ := methI_sound (P := C.P) (n := C.n) hc k.2.2
  have ho := hf o a ha k.1
  have eq := meth_eq (name := m) (env := C.env) f1 hpl (of_decide_eq_true f2) f3
  rw [m4] at ho m1
  cases as with
  | nil =>
    obtain rfl := Option.some.inj hq
    exact ev_meth0 (T := "str") (id := c.1) _ ho m1 (Nat.le_refl _) S.hh (str_T x) F.plainAttrs_str m2 m3 eq
  | cons e es =>
    obtain ⟨hp1, hp2⟩ := Bool.and_eq_true_iff.mp hpl
    have hst := starEach_plain (es := es) (env := C.env) (show isStar e = false from Bool.not_eq_true' (isStar e) ▸ hp1)
    exact ev_meth (T := "str") (id := c.1) _ ho hes m1 (Nat.le_refl _) S.hh (str_T x) F.plainAttrs_str m2 m3 eq hst (plain_any hp2)
omit S in
theorem cmpE_inv {l : Expr} {ops : List CmpOp} {rs : List Expr} {r : R} (h : cmpE f l ops rs = some r) (k : r.ok) : ∃ op e p q, ops = [op] ∧ rs = [e] ∧ behindInMarks op e = false ∧ Ev C σ l (.v p) ∧ Ev C σ e (.v q) ∧ BinR C.P C.A (compareOp op) p q r.v := by
  obtain ⟨op, e, h1, h2, h⟩ := on_inv h
  obtain ⟨hm, h⟩ := cond_nl h
  obtain ⟨a, b, c, ha, hb, hc, rfl⟩ := res2_inv h
  exact ⟨op, e, a.v, b.v, one_inv h1, one_inv h2, hm, hf l a ha k.1, hf e b hb k.2.1, cmpI_sound (c := c) hc k.2.2⟩
omit S hf in
theorem ifV_eq {c : Bool} {p q z : PV} (h : ifV c p q = some z) : (if c then p else q) = z := by
  cases p with
  | bool a => obtain ⟨b, hb, rfl⟩ := Option.map_eq_some_iff.mp h; rw [asBool_inv hb]; cases c <;> rfl
  | int a => obtain ⟨b, hb, rfl⟩ := Option.map_eq_some_iff.mp h; rw [asInt_inv hb]; cases c <;> rfl
  | str a => obtain ⟨b, hb, rfl⟩ := Option.map_eq_some_iff.mp h; rw [asStr_inv hb]; cases c <;> rfl
  | list a => obtain ⟨b, hb, rfl⟩ := Option.map_eq_some_iff.mp h; rw [asList_inv hb]; cases c <;> rfl
  | _ => cases h
include ht
theorem evS_sound : FOk C σ (evS Γ σ.loc f t) := by
  intro e r h k
  cases e with
  | Name x pos => exact nameI_sound S h
  | Constant c n pos => exact constI_sound h
  | BinOp l op e pos =>
    obtain ⟨a, b, c, ha, hb, hc, rfl⟩ := res2_inv h
    exact ev_binop (hf l a ha k.1) (hf e b hb k.2.1) (binI_sound (c := c) hc k.2.2)
  | Compare l ops rs pos =>
    obtain ⟨op, e, p, q, rfl, rfl, hm, h1, h2, h3⟩ := cmpE_inv hf h k
    exact ev_cmp h1 h2 h3 hm
  | UnaryOp op x pos =>
    obtain ⟨hu, h⟩ := cond_nr h
    obtain ⟨a, ha, h⟩ := Option.bind_eq_some_iff.mp h
    obtain ⟨i, hi, rfl⟩ := Option.map_eq_some_iff.mp h
    have h1 := hf x a ha k
    rw [asInt_inv hi] at h1
    cases op <;> first | exact ev_un h1 (u_neg i) | cases hu
  | IfExp c a b pos =>
    obtain ⟨q, hq, h⟩ := Option.bind_eq_some_iff.mp h
    obtain ⟨x, y, hx, hy, h⟩ := on_inv h
    obtain ⟨z, hz, rfl⟩ := Option.map_eq_some_iff.mp h
    have hz' := ifV_eq hz
    refine ev_ifexp (ht c q hq k.1) (fun hc => ?_) (fun hc => ?_)
    · rw [hc] at hz'; exact hz' ▸ hf a x hx (k.2.1 hc)
    · rw [hc] at hz'; exact hz' ▸ hf b y hy (k.2.2 hc)
  | List es pos =>
    obtain ⟨q, hq, rfl⟩ := Option.map_eq_some_iff.mp h
    exact ev_list (evsI_sound hf hq k.1).1 k.2
  | Tuple es u pos =>
    obtain ⟨q, hq, rfl⟩ := Option.map_eq_some_iff.mp h
    exact ev_tup (evsI_sound hf hq k.1).1 k.2
  | Subscript o i pos => exact subE_sound hf h k
  | Call g as ks pos =>
    obtain ⟨hk, h⟩ := cond_nr h
    cases ks with
    | cons u v => cases hk
    | nil =>
      cases g with
      | Name x fp => exact callN_sound S hf h k
      | Attribute o m p1 => exact methE_sound S hf h k
      | _ => cases h
  | _ => cases h
omit S in
theorem trS_sound : TOk C σ (trS f t) := by
  intro e b h k
  have gen : (isTrue e C.env (eval e C.env) = (do let v ← eval e C.env; standAt e.pos; holding [v] (truthy v))) → valT f e = some b → Tr C σ e b.1 := fun hi h => by
    obtain ⟨a, ha, h⟩ := Option.bind_eq_some_iff.mp h
    obtain ⟨q, hq, rfl⟩ := Option.map_eq_some_iff.mp h
    exact tr_value (hf e a ha k.1) (truV_sound (b := q.1) (ok := q.2) hq k.2) hi
  cases e with
  | UnaryOp op x pos =>
    obtain ⟨hu, h⟩ := cond_nr h
    obtain ⟨q, hq, rfl⟩ := Option.map_eq_some_iff.mp h
    cases op <;> first | exact tr_not (ht x q hq k) | cases hu
  | BoolOp op es pos =>
    cases es with
    | nil => cases h
    | cons x es =>
      obtain ⟨y, hy, h⟩ := Option.bind_eq_some_iff.mp h
      obtain rfl := one_inv hy
      cases op with
      | And =>
        obtain ⟨u, v, hu, hv, h⟩ := on_inv h
        obtain rfl := Option.some.inj h
        exact tr_and (ht x u hu k.1) fun q => ht y v hv (k.2 q)
      | Or =>
        obtain ⟨u, v, hu, hv, h⟩ := on_inv h
        obtain rfl := Option.some.inj h
        exact tr_or (ht x u hu k.1) fun q => ht y v hv (k.2 q)
  | IfExp => cases h
  | Compare l ops rs pos =>
    obtain ⟨a, ha, h⟩ := Option.bind_eq_some_iff.mp h
    obtain ⟨c, hc, rfl⟩ := Option.map_eq_some_iff.mp h
    obtain ⟨op, e, p, q, rfl, rfl, hm, h1, h2, h3⟩ := cmpE_inv hf ha k
    rw [asBool_inv hc] at h3
    exact tr_cmp h1 h2 h3 hm
  | _ => exact gen rfl h
omit hf ht in
theorem evI_sound (σ : St) : ∀ n, FOk C σ (evI Γ σ.loc n) ∧ TOk C σ (trI Γ σ.loc n)
  | 0 => ⟨fun e r h => (nomatch h), fun e b h => (nomatch h)⟩
  | n + 1 => ⟨evS_sound S (evI_sound σ n).1 (evI_sound σ n).2, trS_sound (evI_sound σ n).1 (evI_sound σ n).2⟩
end
end Rt

/-! V5d -/
namespace Rt
noncomputable def intsP (a : Int) (n : Nat) : List PV := (List.range n).map fun (i : Nat) => .int (a + i)
section
variable {C : Ctx} {σ : St}
theorem src_range {av : Addr → Prop} {hb h : Heap} (hh : C.A.handled = none) (k : Soft hb h) (a : Int) (n : Nat) :
    Src C.P C.A av hb (h.push { cls := .type "range_iterator", data := .fields #[rawInt a, rawInt n, rawInt 1] }) h.objs.size (intsP a n) [h.objs.size] (fun i v => i < n ∧ ∃ t, v = .int (a + i * 1) t) (fun i h' => IsRangeIter h' h.objs.size (a + (i : Nat) * 1) ((n : Int) - (i : Nat)) 1) := by
  refine ⟨?_, ?_, fun b hb nb => absurd (by simpa using hb) nb, fun i h' hs => ⟨_, _, hs, rfl, fun q => absurd (show Value.type "range_iterator" = Value.type "builtin_function_or_method" from q) (by decide)⟩, fresh_none k, fun j v hv => ?_⟩
  · have : (intsP a n).length = n := by simp [intsP]
    rw [this]
    exact (Walks.range hh _ a 1 n).bound
  · have e : h.objs.size = h.objs.size := rfl
    show Heap.get? _ _ = some _
    rw [Heap.get?_push_size _ rfl]
    simp [rawInt]
  · obtain ⟨hj, t, rfl⟩ := hv
    refine ⟨.int (a + j), by simp [intsP, hj], ?_⟩
    rw [Int.mul_one]; exact .int _ t
theorem it_range1 {func e : Expr} {pos : Pos} {n : Nat} (hh : C.A.handled = none) (hf : Ev C σ func (.v (.atom (.type "range")))) (he : Ev C σ e (.v (.int n))) (hn : n ≤ sizeLine) (hst : isStar e = false)
    (hc : eval (.Call func [e] [] pos) C.env = (do callWith pos (← eval func C.env) [] (backTo pos (starEach [e] C.env)) (backToKw pos (keywordEach [] C.env)))) : ItR C σ (.Call func [e] [] pos) (intsP 0 n) := by
  have hL : sizeLine = 16777216 := rfl
  intro adr s Q E H k
  refine Call_ (hf adr s _ E H fun fv h1 t1 k1 w1 => ?_) hc
  cases w1
  refine callWith_type1 (wpAny_items_cons (he adr _ _ E (H.stays k1) fun v h2 t2 k2 w2 => wpAny_items_nil ?_) (starEach_plain hst)) (starEach_plain hst) rfl
  cases w2
  rename_i tn
  refine call_range_1 ?_
  have k3 := stays_push h2 { cls := .type "range", data := .fields #[.int 0 t2, Value.int n tn, .int 1 (t2 + 1)] }
  refine wpAny_pyIter_range (IsRange.new h2 0 n 1 _ _ _) (small_one (by lia) (by lia) (by lia) (by lia)) ?_
  have e1 : Builtin.Range.rangeSize 0 (n : Int) 1 = n := by
    rw [rangeSize_one]; split <;> lia
  rw [e1]
  have kk := stays_trans (stays_trans k1 k2) k3
  exact k _ _ _ _ _ _ (stays_trans kk (stays_push _ _)) (src_range hh kk 0 n)
theorem it_range2 {func e e' : Expr} {pos : Pos} {a b : Int} (hh : C.A.handled = none) (hf : Ev C σ func (.v (.atom (.type "range")))) (he : Ev C σ e (.v (.int a))) (he' : Ev C σ e' (.v (.int b))) (ha : a.natAbs ≤ sizeLine) (hb : b.natAbs ≤ sizeLine) (hst : isStar e = false) (hst' : isStar e' = false)
    (hc : eval (.Call func [e, e'] [] pos) C.env = (do callWith pos (← eval func C.env) [] (backTo pos (starEach [e, e'] C.env)) (backToKw pos (keywordEach [] C.env)))) : ItR C σ (.Call func [e, e'] [] pos) (intsP a (b - a).toNat) := by
  have hL : sizeLine = 16777216 := rfl
  intro adr s Q E H k
  refine Call_ (hf adr s _ E H fun fv h1 t1 k1 w1 => ?_) hc
  cases w1
  refine callWith_type1 (wpAny_items_cons (he adr _ _ E (H.stays k1) fun v h2 t2 k2 w2 => wpAny_items_cons (he' adr _ _ E ((H.stays k1).stays k2) fun v' h3 t3 k3 w3 => wpAny_items_nil ?_) (starEach_plain hst')) (starEach_plain hst)) (starEach_plain hst) (plain_any (by simp [hst']))
  cases w2; cases w3
  rename_i tb ta
  refine call_range_2 ?_
  have k4 := stays_push h3 { cls := .type "range", data := .fields #[Value.int a tb, .int b ta, .int 1 t3] }
  refine wpAny_pyIter_range (IsRange.new h3 a b 1 _ _ _) (small_one (by lia) (by lia) (by lia) (by lia)) ?_
  have e1 : Builtin.Range.rangeSize a b 1 = (b - a).toNat := by
    rw [rangeSize_one]; split <;> lia
  rw [e1]
  have kk := stays_trans (stays_trans (stays_trans k1 k2) k3) k4
  exact k _ _ _ _ _ _ (stays_trans kk (stays_push _ _)) (src_range hh kk a _)
end
end Rt

/-! V5e -/
namespace Rt

noncomputable def relK (kind : Str → Option NameKind) (names : List (Str × NameKind)) : List (Str × NameKind) := names.map fun (n, k) => if (k == .free && kind n == some .cell) then (n, .cell) else (n, k)
noncomputable def lookS {β : Type} (x : Str) : List (Str × β) → Option β
  | [] => none
  | (y, b) :: r => match sameS y x with
    | true => some b
    | false => lookS x r
theorem lookS_eq {β : Type} (x : Str) : ∀ l : List (Str × β), l.lookup x = lookS x l
  | [] => rfl
  | (y, b) :: r => by
    unfold lookS
    cases h : sameS y x with
    | true => rw [sameS_eq h]; simp
    | false =>
      have : (x == y) = false := by
        rw [beq_eq_false_iff_ne]; rintro rfl
        have := sameS_ne h
        rw [beq_eq_false_iff_ne] at this; exact this rfl
      rw [List.lookup_cons, this]; exact lookS_eq x r
noncomputable def Sc.comp (Γ : Sc) (scope : Scope) (tg : List Str) (cap : List (Str × Nat)) : Sc := ⟨tg ++ cap.map (·.1), fun y => lookS y (relK Γ.kind scope.names), Γ.T⟩
noncomputable def memS (x : Str) (l : List Str) : Bool := (idxS x l).isSome
theorem memS_iff {x : Str} {l : List Str} : memS x l = true ↔ x ∈ l := by
  constructor
  · intro h
    obtain ⟨i, hi⟩ := Option.isSome_iff_exists.mp h
    exact List.mem_of_getElem? (idxS_get hi)
  · intro h
    induction l with
    | nil => cases h
    | cons y r ih =>
      unfold memS idxS
      cases e : sameS y x with
      | true => rfl
      | false =>
        rcases List.mem_cons.mp h with rfl | h
        · simp [sameS] at e
        · have := ih h
          unfold memS at this
          rw [Option.isSome_map]; exact this
noncomputable def nodupS : List Str → Bool
  | [] => true
  | x :: r => !memS x r && nodupS r
theorem nodupS_iff : ∀ {l : List Str}, nodupS l = true → l.Nodup
  | [], _ => List.nodup_nil
  | x :: r, h => by
    unfold nodupS at h
    rw [Bool.and_eq_true] at h
    refine List.nodup_cons.mpr ⟨fun q => ?_, nodupS_iff h.2⟩
    rw [memS_iff.mpr q] at h; cases h.1
noncomputable def okFree (Γ : Sc) (cap : List (Str × Nat)) : Str × NameKind → Bool
  | (n, .free) => memS n (cap.map (·.1))
  | _ => true
noncomputable def okTg (names : List (Str × NameKind)) (x : Str) : Bool := match lookS x names with
  | some .local => true
  | some .cell => true
  | _ => false
noncomputable def okCap (Γ : Sc) (names : List (Str × NameKind)) (q : Str × Nat) : Bool := (match lookS q.1 names with | some .free => true | _ => false) && (match Γ.names[q.2]? with | some y => sameS y q.1 | none => false) &&
  (match Γ.kind q.1 with | some .cell => true | some .free => !sameS q.1 "__classdict__" | _ => false)
noncomputable def scOkB (Γ : Sc) (scope : Scope) (tg : List Str) (cap : List (Str × Nat)) : Bool :=
  (match scope.kind with | .function => true | _ => false) && nodupS (scope.names.map (·.1)) && tg.all (okTg scope.names) && cap.all (okCap Γ scope.names) && nodupS (tg ++ cap.map (·.1)) && scope.names.all (okFree Γ cap)
theorem mem_of_lookS {β : Type} {x : Str} {b : β} {l : List (Str × β)} (h : lookS x l = some b) : (x, b) ∈ l := by
  rw [← lookS_eq] at h; exact mem_of_lookup h
theorem scOk_of {C : Ctx} {Γ : Sc} (S : Stat C Γ) {scope : Scope} {tg : List Str} {cap : List (Str × Nat)} (h : scOkB Γ scope tg cap = true) : ScOk C scope tg cap ∧ ∀ n, (n, NameKind.free) ∈ scope.names → n ∈ cap.map (·.1) := by
  unfold scOkB at h
  simp only [Bool.and_eq_true] at h
  obtain ⟨⟨⟨⟨⟨h1, h2⟩, h3⟩, h4⟩, h5⟩, h6⟩ := h
  refine ⟨⟨?_, nodupS_iff h2, fun x hx => ?_, fun q hq => ?_, nodupS_iff h5⟩, fun n hn => ?_⟩
  · revert h1; cases scope.kind <;> intro h1 <;> first | rfl | cases h1
  · have := List.all_eq_true.mp h3 x hx
    unfold okTg at this
    split at this
    · rename_i e; exact .inl (mem_of_lookS e)
    · rename_i e; exact .inr (mem_of_lookS e)
    · cases this
  · have := List.all_eq_true.mp h4 q hq
    unfold okCap at this
    simp only [Bool.and_eq_true] at this
    obtain ⟨⟨a, b⟩, c⟩ := this
    refine ⟨?_, ?_, ?_⟩
    · split at a
      · rename_i e; exact mem_of_lookS e
      · cases a
    · rw [S.names]
      split at b
      · rename_i y e; rw [e, sameS_eq b]
      · cases b
    · rw [S.kind]
      split at c
      · rename_i e; exact .inl e
      · rename_i e; exact .inr ⟨e, sameS_ne (by simpa using c)⟩
      · cases c
  · have := List.all_eq_true.mp h6 _ hn
    exact memS_iff.mp this
theorem closL_some {cells : List (Str × Addr)} : ∀ (names : List (Str × NameKind)) (acc : List (Str × Addr)), (∀ n, (n, NameKind.free) ∈ names → ∃ c, cells.lookup n = some c) → ∃ cl, closL cells names acc = some cl
  | [], acc, _ => ⟨acc, rfl⟩
  | (n, k) :: r, acc, h => by
    unfold closL
    split
    · rename_i hk
      have hk' : k = .free := by simpa using hk
      subst hk'
      obtain ⟨c, hc⟩ := h n (.head _)
      rw [hc]
      exact closL_some r _ fun m hm => h m (.tail _ hm)
    · exact closL_some r _ fun m hm => h m (.tail _ hm)
theorem stat_comp {C : Ctx} {Γ : Sc} (S : Stat C Γ) {scope : Scope} {tg : List Str} {cap : List (Str × Nat)} (So : ScOk C scope tg cap) {cl : List (Str × Addr)} (hcl : closL C.env.cells scope.names [] = some cl) (L : Addr) (av : Addr → Prop) (hx : Heap) :
    Stat (cctx C scope cl L av hx (tg ++ cap.map (·.1))) (Γ.comp scope tg cap) where
  names := rfl
  kind := fun y => by
    show (relabel scope C.env).names.lookup y = lookS y (relK Γ.kind scope.names)
    rw [← lookS_eq]
    congr 1
    show scope.names.map _ = scope.names.map _
    refine List.map_congr_left fun p _ => ?_
    obtain ⟨n, k⟩ := p
    show (if (k == NameKind.free && C.env.scope.kind == .function && C.env.kindOf n == some .cell) = true then _ else _) = (if (k == NameKind.free && Γ.kind n == some .cell) = true then _ else _)
    rw [S.fk, S.kind]
    simp
  T := S.T
  fk := So.kind
  hh := S.hh
  cells := fun y hy => by
    show ∃ c, (cellsFrom (L + 1) scope.names cl).lookup y = some c
    have e : (relabel scope C.env).names.lookup y = some .cell ∨ (relabel scope C.env).names.lookup y = some .free := hy
    have hm : (y, NameKind.cell) ∈ scope.names ∨ (y, NameKind.free) ∈ scope.names := by
      have key : ∀ k', (relabel scope C.env).names.lookup y = some k' → k' = .cell ∨ k' = .free → (y, NameKind.cell) ∈ scope.names ∨ (y, NameKind.free) ∈ scope.names := fun k' hk hh => by
        have := mem_of_lookup hk
        obtain ⟨⟨n, k⟩, hp, e2⟩ := List.mem_map.mp this
        have e3 : (if (k == NameKind.free && C.env.scope.kind == .function && C.env.kindOf n == some .cell) = true then (n, NameKind.cell) else (n, k)) = (y, k') := e2
        split at e3
        · rename_i hc
          cases e3
          simp only [Bool.and_eq_true, beq_iff_eq] at hc
          obtain ⟨⟨rfl, _⟩, _⟩ := hc
          exact .inr hp
        · cases e3
          rcases hh with rfl | rfl
          · exact .inl hp
          · exact .inr hp
      rcases e with e | e
      · exact key _ e (.inl rfl)
      · exact key _ e (.inr rfl)
    have ex : ∃ c, (y, c) ∈ cellsFrom (L + 1) scope.names cl := by
      rcases hm with hm | hm
      · obtain ⟨c, h1, _⟩ := cells_cell scope.names (L + 1) cl y hm
        exact ⟨c, h1⟩
      · have := (closL_names _ _ _ hcl y).mpr (.inl hm)
        obtain ⟨⟨z, c⟩, h1, h2⟩ := List.mem_map.mp this
        have h2' : z = y := h2
        subst h2'
        exact ⟨c, cells_old _ _ _ _ h1⟩
    obtain ⟨c, hc⟩ := ex
    refine ⟨c, lookup_of_mem (cells_names _ _ _ So.nd (cl_nodup So hcl) fun z hz qz => ?_) hc⟩
    rw [closL_names _ _ _ hcl] at hz
    rcases hz with hz | hz
    · have e1 := lookup_of_mem So.nd hz
      rw [lookup_of_mem So.nd qz] at e1; cases e1
    · simp at hz

/-- what the block of a comprehension does, for all that is known of its names -/
noncomputable def BlockG (C : Ctx) (Γ : Sc) (σ : St) (scope : Scope) (tg : List Str) (cap : List (Str × Nat)) (elt : Expr) (ifs : List Expr) (gs : List Comprehension) (t : Nat) (ds xs : List PV) : Prop :=
  ∀ C', C'.P = C.P → CtxOk C' → Stat C' (Γ.comp scope tg cap) → (∀ x ∈ tg, Slotted C' x) → 
    ∃ xss : List (List PV), xs = xss.flatten ∧ Rel2 (fun d ys => ∃ b, (∀ acc, Trs C' ⟨(cloc σ tg cap).set t (.v d), [some acc]⟩ ifs b) ∧ (b = true → CompB C' elt gs ((cloc σ tg cap).set t (.v d)) ys) ∧ (b = false → ys = [])) ds xss
theorem blockG {C : Ctx} {Γ : Sc} {σ : St} (S : Stat C Γ) {scope : Scope} {tg : List Str} {cap : List (Str × Nat)} {elt : Expr} {ifs : List Expr} {gs : List Comprehension} {t : Nat} {ds xs : List PV} (h : scOkB Γ scope tg cap = true) (B : BlockG C Γ σ scope tg cap elt ifs gs t ds xs) :
    ∃ cl, closL C.env.cells scope.names [] = some cl ∧ ScOk C scope tg cap ∧ Block C σ scope tg cap cl elt ifs gs t ds xs := by
  obtain ⟨So, hf⟩ := scOk_of S h
  obtain ⟨cl, hcl⟩ := closL_some (cells := C.env.cells) scope.names [] fun n hn => by
    obtain ⟨q, hq, e⟩ := List.mem_map.mp (hf n hn)
    have e' : q.1 = n := e
    subst e'
    exact S.cells _ ((So.caps q hq).2.2.imp_right And.left)
  exact ⟨cl, hcl, So, fun L av hx hL K' => B _ rfl K' (stat_comp S So hcl L av hx) fun x hx' => cctx_slot So hcl hL hx'⟩

theorem rel2_map {α : Type} {F : PV → List PV → Prop} (l : List α) (f : α → PV) (g : α → List PV) (h : ∀ a ∈ l, F (f a) (g a)) : Rel2 F (l.map f) (l.map g) := by
  induction l with
  | nil => exact .nil
  | cons a l ih => exact .cons (h a (.head _)) (ih fun b hb => h b (.tail _ hb))
theorem flat_filter {α : Type} (l : List α) (b : α → Bool) (g : α → PV) : (l.map fun a => if b a = true then [g a] else []).flatten = (l.filter b).map g := by
  induction l with
  | nil => rfl
  | cons a l ih =>
    rw [List.map_cons, List.flatten_cons, ih, List.filter_cons]
    cases b a <;> simp
/-- one generator -/
theorem block1 {C : Ctx} {Γ : Sc} {σ : St} {scope : Scope} {tg : List Str} {cap : List (Str × Nat)} {elt : Expr} {ifs : List Expr} {α : Type} (l : List α) (f g : α → PV) (b : α → Bool)
    (h : ∀ C', C'.P = C.P → CtxOk C' → Stat C' (Γ.comp scope tg cap) → ∀ a ∈ l, ∀ acc, Trs C' ⟨(cloc σ tg cap).set 0 (.v (f a)), [some acc]⟩ ifs (b a) ∧ (b a = true → Ev C' ⟨(cloc σ tg cap).set 0 (.v (f a)), [some acc]⟩ elt (.v (g a)))) :
    BlockG C Γ σ scope tg cap elt ifs [] 0 (l.map f) ((l.filter b).map g) := by
  intro C' e K' S' _
  refine ⟨l.map fun a => if b a = true then [g a] else [], (flat_filter l b g).symm, rel2_map l f _ fun a ha => ⟨b a, fun acc => (h C' e K' S' a ha acc).1, fun hb => ?_, fun hb => ?_⟩⟩
  · rw [if_pos hb]; exact ⟨g a, rfl, fun acc => (h C' e K' S' a ha acc).2 hb⟩
  · rw [hb]; rfl
theorem evc {C : Ctx} {Γ : Sc} {σ : St} (K : CtxOk C) (S : Stat C Γ) {scope : Scope} {x : Str} {xp pos : Pos} {elt iter : Expr} {ifs : List Expr} {gs : List Comprehension} {ds xs : List PV} (tg : List Str) (cap : List (Str × Nat)) (h : scOkB Γ scope tg cap = true) (ht : tg[0]? = some x) (hgs : ∀ g ∈ gs, ∃ x xp iter ifs, g = ⟨.Name x xp, iter, ifs, 0⟩)
    (hi : ItR C σ iter ds) (hs : ∀ v, foldedSetIterable iter C.env v = pure v) (B : BlockG C Γ σ scope tg cap elt ifs gs 0 ds xs) (hsz : xs.length ≤ sizeLine) : Ev C σ (.ListComp elt (⟨.Name x xp, iter, ifs, 0⟩ :: gs) scope pos) (.v (.list xs)) :=
  let ⟨_, hcl, So, Bl⟩ := blockG S h B
  ev_comp K So hcl ht hgs hi hs Bl hsz
theorem exc {C : Ctx} {Γ : Sc} {σ : St} (K : CtxOk C) (S : Stat C Γ) {scope : Scope} {x : Str} {xp pos : Pos} {elt iter : Expr} {ifs : List Expr} {gs : List Comprehension} {ds xs : List PV} (tg : List Str) (cap : List (Str × Nat)) (h : scOkB Γ scope tg cap = true) (ht : tg[0]? = some x) (hgs : ∀ g ∈ gs, ∃ x xp iter ifs, g = ⟨.Name x xp, iter, ifs, 0⟩)
    (hi : ItR C σ iter ds) (hs : ∀ v, foldedSetIterable iter C.env v = pure v) (B : BlockG C Γ σ scope tg cap elt ifs gs 0 ds xs) (hsz : xs.length ≤ sizeLine) (i : Nat) {y : Str} {yp spos : Pos} (hn : C.names[i]? = some y) (hy : Slotted C y)
    (hsw : swapsWith (.ListComp elt (⟨.Name x xp, iter, ifs, 0⟩ :: gs) scope pos) (some (.Name y yp)) spos.line C.env = pure true) :
    Ex C σ (.Assign [.Name y yp] (.ListComp elt (⟨.Name x xp, iter, ifs, 0⟩ :: gs) scope pos) spos) .next (σ.setv i (.v (.list xs))) :=
  let ⟨_, hcl, So, Bl⟩ := blockG S h B
  ex_comp K So hcl ht hgs hi hs Bl hsz i hn hy hsw
end Rt

/-! V5f -/
namespace Rt
section
variable {C : Ctx} {Γ : Sc} {σ : St}
theorem evG (S : Stat C Γ) {e : Expr} {r : R} {v : PV} (h : evI Γ σ.loc 20 e = some r) (k : r.ok) (hv : r.v = v) : Ev C σ e (.v v) := hv ▸ (evI_sound S σ 20).1 e r h k
theorem trG (S : Stat C Γ) {e : Expr} {b b' : Bool} {ok : Prop} (h : trI Γ σ.loc 20 e = some (b, ok)) (k : ok) (hb : b = b') : Tr C σ e b' := hb ▸ (evI_sound S σ 20).2 e (b, ok) h k
theorem trsG (S : Stat C Γ) {e : Expr} {b b' : Bool} {ok : Prop} (h : trI Γ σ.loc 20 e = some (b, ok)) (k : ok) (hb : b = b') : Trs C σ [e] b' := trG S h k hb
theorem it_r1 (S : Stat C Γ) {fp pos : Pos} {e : Expr} {n : Nat} {r : R} (hf : evI Γ σ.loc 2 (.Name "range" fp) = some ⟨.atom (.type "range"), True⟩) (he : evI Γ σ.loc 20 e = some r) (k : r.ok) (hr : r.v = .int n) (hn : n ≤ sizeLine) (hs : isStar e = false := by rfl) : ItR C σ (.Call (.Name "range" fp) [e] [] pos) (intsP 0 n) :=
  it_range1 S.hh ((evI_sound S σ 2).1 _ _ hf trivial) (evG S he k hr) hn hs rfl
theorem it_r2 (S : Stat C Γ) {fp pos : Pos} {e e' : Expr} {a b : Int} {r r' : R} (hf : evI Γ σ.loc 2 (.Name "range" fp) = some ⟨.atom (.type "range"), True⟩) (he : evI Γ σ.loc 20 e = some r) (he' : evI Γ σ.loc 20 e' = some r') (k : r.ok) (k' : r'.ok) (hr : r.v = .int a) (hr' : r'.v = .int b) (ha : a.natAbs ≤ sizeLine) (hb : b.natAbs ≤ sizeLine)
    (hs : isStar e = false := by rfl) (hs' : isStar e' = false := by rfl) : ItR C σ (.Call (.Name "range" fp) [e, e'] [] pos) (intsP a (b - a).toNat) :=
  it_range2 S.hh ((evI_sound S σ 2).1 _ _ hf trivial) (evG S he k hr) (evG S he' k' hr') ha hb hs hs' rfl
theorem it_l (S : Stat C Γ) {e : Expr} {r : R} {xs : List PV} (h : evI Γ σ.loc 20 e = some r) (k : r.ok) (hv : r.v = .list xs) : ItR C σ e xs := it_list S.hh (evG S h k hv)
theorem it_t (S : Stat C Γ) {e : Expr} {r : R} {xs : List PV} (h : evI Γ σ.loc 20 e = some r) (k : r.ok) (hv : r.v = .tup xs) : ItR C σ e xs := it_tup S.hh (evG S h k hv)
theorem it_s (S : Stat C Γ) {e : Expr} {r : R} {x : Str} (h : evI Γ σ.loc 20 e = some r) (k : r.ok) (hv : r.v = .str x) : ItR C σ e (signsP x) := it_str S.hh (evG S h k hv)
end

theorem eqv_str (x y : Str) : eqv (.str x) (.str y) = (x == y) := by simp [eqv, toPD, PyData.eqv]
theorem eqvd_str (x y : Str) : PyData.eqv (toPD (.str x)) (toPD (.str y)) = (x == y) := by simp [toPD, PyData.eqv]
theorem eqvAll_strs : ∀ a b : List Str, PyData.eqvAll (toPDs (a.map .str)) (toPDs (b.map .str)) = (a == b)
  | [], [] => by simp [toPDs, PyData.eqvAll]
  | [], _ :: _ => by simp [toPDs, PyData.eqvAll]
  | _ :: _, [] => by simp [toPDs, PyData.eqvAll]
  | x :: a, y :: b => by
    simp only [List.map_cons, toPDs, PyData.eqvAll, eqvAll_strs a b, toPD, PyData.eqv]
    rfl
theorem eqv_strs (a b : List Str) : eqv (.list (a.map .str)) (.list (b.map .str)) = (a == b) := by
  simp only [eqv, toPD, PyData.eqv]; exact eqvAll_strs a b
theorem eqv_nil (a : List PV) : eqv (.list a) (.list []) = a.isEmpty := by
  cases a <;> simp [eqv, toPD, toPDs, PyData.eqv, PyData.eqvAll]
theorem any_strs (l : List Str) (x : Str) : ((toPDs (l.map .str)).any fun y => PyData.eqv y (toPD (.str x))) = l.contains x := by
  induction l with
  | nil => simp [toPDs]
  | cons a l ih =>
    rw [List.map_cons, toPDs, List.any_cons, ih, eqvd_str, List.contains_cons]
    rw [show (a == x) = (x == a) from by rw [Bool.eq_iff_iff, beq_iff_eq, beq_iff_eq]; exact ⟨Eq.symm, Eq.symm⟩]
theorem lay_flat {p : PV} (h : flat p = true) (hs : ∀ x, p = .str x → PyData.strOk x = true) : lay p = true := by
  cases p <;> first | cases h | skip
  · simp [lay, toPD, PyData.canLay0, PyData.depth]
  · simp [lay, toPD, PyData.canLay0, PyData.depth]
  · simp [lay, toPD, PyData.canLay0, PyData.depth]
  · rename_i x
    simp [lay, toPD, PyData.canLay0, PyData.depth, hs x rfl]
theorem lay_str {x : Str} (h : PyData.strOk x = true) : lay (.str x) = true := lay_flat rfl fun y e => by cases e; exact h
noncomputable def layN (n : Nat) (p : PV) : Prop := (toPD p).canLay0 = true ∧ (toPD p).depth ≤ n
theorem layN_lay {n : Nat} {p : PV} (h : layN n p) (hn : n ≤ 50) : lay p = true := by
  unfold lay; rw [h.1, Bool.true_and]; exact decide_eq_true (Nat.le_trans h.2 hn)
theorem layN_list {n : Nat} : ∀ {xs : List PV}, (∀ x ∈ xs, layN n x) → layN (n + 1) (.list xs)
  | [], _ => ⟨by simp [toPD, toPDs, PyData.canLay0, PyData.canLayAll0], by simp [toPD, toPDs, PyData.depth, PyData.depthAll]⟩
  | x :: r, h => by
    obtain ⟨i1, i2⟩ := layN_list (n := n) (xs := r) fun y hy => h y (.tail _ hy)
    obtain ⟨a1, a2⟩ := h x (.head _)
    simp only [toPD, PyData.canLay0, PyData.depth] at i1 i2
    refine ⟨by simp only [toPD, toPDs, PyData.canLay0, PyData.canLayAll0, a1, i1, Bool.and_self], ?_⟩
    simp only [toPD, toPDs, PyData.depth, PyData.depthAll]
    lia
theorem layN_flat {p : PV} (h : flat p = true) (hs : ∀ x, p = .str x → PyData.strOk x = true) : layN 0 p := by
  cases p <;> first | cases h | skip
  · exact ⟨by simp [toPD, PyData.canLay0], by simp [toPD, PyData.depth]⟩
  · exact ⟨by simp [toPD, PyData.canLay0], by simp [toPD, PyData.depth]⟩
  · exact ⟨by simp [toPD, PyData.canLay0], by simp [toPD, PyData.depth]⟩
  · rename_i x
    exact ⟨by simp [toPD, PyData.canLay0, hs x rfl], by simp [toPD, PyData.depth]⟩
theorem layN_str {x : Str} (h : PyData.strOk x = true) : layN 0 (.str x) := layN_flat rfl fun y e => by cases e; exact h
theorem layN_int (i : Int) : layN 0 (.int i) := layN_flat rfl fun y e => nomatch e
theorem layN_strs {l : List Str} (h : ∀ x ∈ l, PyData.strOk x = true) : layN 1 (.list (l.map .str)) := layN_list fun p hp => by
  obtain ⟨x, hx, rfl⟩ := List.mem_map.mp hp
  exact layN_str (h x hx)

theorem idxL_nat {xs : List PV} {k : Nat} {p : PV} (h : xs[k]? = some p) : idxL xs (k : Int) = p := by
  unfold idxL
  rw [if_neg (by lia), Int.toNat_natCast, h]; rfl
theorem idxL_strs {l : List Str} {k : Nat} {x : Str} (h : l[k]? = some x) : idxL (l.map .str) (k : Int) = .str x := idxL_nat (by rw [List.getElem?_map, h]; rfl)
theorem idxL_int {xs : List PV} {i : Int} {p : PV} (h0 : 0 ≤ i) (h : xs[i.toNat]? = some p) : idxL xs i = p := by
  unfold idxL
  rw [if_neg (by lia), h]; rfl
theorem idxC_nat {w : Str} {k c : Nat} (h : w.cps.toList[k]? = some c) : idxC w (k : Int) = ⟨#[c]⟩ := by
  unfold idxC
  rw [if_neg (by lia), Int.toNat_natCast, h]; rfl
noncomputable def signAt (w : Str) (i : Nat) : Option Str := w.cps.toList[i]?.map fun c => ⟨#[c]⟩
theorem strOk_sign {w : Str} (h : PyData.strOk w = true) {k c : Nat} (e : w.cps.toList[k]? = some c) : PyData.strOk ⟨#[c]⟩ = true := by
  have hm : c ∈ w.cps.toList := List.mem_of_getElem? e
  unfold PyData.strOk at h ⊢
  rw [Array.all_eq_true'] at h
  have := h c (Array.mem_toList_iff.mp hm)
  simpa using this
theorem len_list (w : Str) : w.cps.toList.length = w.length := by simp [Str.length]
theorem any_cons (x : PV) (l : List PV) (f : PyData → Bool) : (toPDs (x :: l)).any f = (f (toPD x) || (toPDs l).any f) := by rw [toPDs, List.any_cons]
theorem any_nil (f : PyData → Bool) : (toPDs []).any f = false := by rw [toPDs]; rfl
theorem beq_comm' (x y : Str) : (x == y) = (y == x) := by rw [Bool.eq_iff_iff, beq_iff_eq, beq_iff_eq]; exact ⟨Eq.symm, Eq.symm⟩

theorem sgn (c d : Nat) : ((⟨#[c]⟩ : Str) == ⟨#[d]⟩) = (c == d) := by rw [Bool.eq_iff_iff, beq_iff_eq, beq_iff_eq]; simp
theorem strOk1 {c : Nat} (h : c < 0x110000) : PyData.strOk ⟨#[c]⟩ = true := by simp [PyData.strOk, h]
end Rt

/-! V5g -/
namespace Rt
theorem vals_of {av : Addr → Prop} {h : Heap} : ∀ {l : List Value} {ds : List PV}, l.length = ds.length → (∀ (j : Nat) (v : Value), l[j]? = some v → ∃ d, ds[j]? = some d ∧ Val av h v d) → Vals av h l ds
  | [], [], _, _ => .nil
  | v :: l, d :: ds, e, k => .cons (by obtain ⟨d', e', w⟩ := k 0 v rfl; cases e'; exact w) (vals_of (by simpa using e) fun j v' hv => by
      obtain ⟨d', e', w⟩ := k (j + 1) v' (by simpa using hv)
      exact ⟨d', by simpa using e', w⟩)
section
variable {C : Ctx} {σ : St}
theorem ev_listrange {lf func e e' : Expr} {pos rpos : Pos} {a b : Int} (hh : C.A.handled = none) (hlf : Ev C σ lf (.v (.atom (.type "list")))) (hf : Ev C σ func (.v (.atom (.type "range")))) (he : Ev C σ e (.v (.int a))) (he' : Ev C σ e' (.v (.int b))) (ha : a.natAbs ≤ 1000000) (hb : b.natAbs ≤ 1000000) (hst : isStar e = false) (hst' : isStar e' = false)
    (hc : eval (.Call func [e, e'] [] rpos) C.env = (do callWith rpos (← eval func C.env) [] (backTo rpos (starEach [e, e'] C.env)) (backToKw rpos (keywordEach [] C.env))))
    (hc' : eval (.Call lf [.Call func [e, e'] [] rpos] [] pos) C.env = (do callWith pos (← eval lf C.env) [] (backTo pos (starEach [.Call func [e, e'] [] rpos] C.env)) (backToKw pos (keywordEach [] C.env)))) :
    Ev C σ (.Call lf [.Call func [e, e'] [] rpos] [] pos) (.v (.list (intsP a (b - a).toNat))) := by
  intro adr s Q E H k
  refine Call_ (hlf adr s _ E H fun fv h0 t0 k0 w0 => ?_) hc'
  cases w0
  refine callWith_type1 (wpAny_items_cons ?_ rfl) rfl rfl
  have H0 := H.stays k0
  refine Call_ (hf adr _ _ E H0 fun fv h1 t1 k1 w1 => ?_) hc
  cases w1
  refine callWith_type1 (wpAny_items_cons (he adr _ _ E (H0.stays k1) fun v h2 t2 k2 w2 => wpAny_items_cons (he' adr _ _ E ((H0.stays k1).stays k2) fun v' h3 t3 k3 w3 => wpAny_items_nil ?_) (starEach_plain hst')) (starEach_plain hst)) (starEach_plain hst) (plain_any (by simp [hst']))
  cases w2; cases w3
  rename_i tb ta
  refine call_range_2 ?_
  have k4 := stays_push h3 { cls := .type "range", data := .fields #[Value.int a tb, .int b ta, .int 1 t3] }
  have e1 : Builtin.Range.rangeSize a b 1 = (b - a).toNat := by
    rw [rangeSize_one]; split <;> lia
  refine wpAny_items_nil (call_list_range hh (IsRange.new h3 a b 1 tb ta t3) (small_one (by lia) (by lia) (by lia) (by lia)) e1 (by lia) fun h' tk acc' c' hk hS hI => ?_)
  have kk := stays_trans (stays_trans (stays_trans (stays_trans k0 k1) k2) k3) k4
  refine k _ h' tk (stays_trans kk (.of hk)) ?_
  refine .list ⟨_, hS, rfl, _, rfl⟩ (fun q => ?_) ?_
  · obtain ⟨o, ho⟩ := Option.isSome_iff_exists.mp (H.avin _ q)
    obtain ⟨o', ho', _⟩ := kk.some ho
    exact absurd (Heap.lt_size ho') (Nat.lt_irrefl _)
  · obtain ⟨hs, hi⟩ := hI
    refine vals_of (by rw [Array.length_toList, hs]; simp [intsP]) fun j v hv => ?_
    rw [Array.getElem?_toList] at hv
    obtain ⟨tt, rfl⟩ := hi j v hv
    have hj : j < (b - a).toNat := by
      have := (Array.getElem?_eq_some_iff.mp hv).1
      lia
    refine ⟨.int (a + j), by simp [intsP, hj], ?_⟩
    rw [Int.mul_one]; exact .int _ _
end

theorem setv_setv (σ : St) (t : Nat) (a b : SV) : (σ.setv t a).setv t b = σ.setv t b := by
  show (⟨(σ.loc.set t a).set t b, σ.own⟩ : St) = ⟨σ.loc.set t b, σ.own⟩
  rw [List.set_set]
/-- a for whose turns all go on -/
theorem forR_steps {C : Ctx} {t : Nat} {body : List Stmt} {α β : Type} (g : α → PV) (st : β → St) (f : β → α → β) (I : β → Prop) : ∀ (l : List α) (b : β) (sv : SV), I b →
    (∀ b a, I b → a ∈ l → I (f b a) ∧ ∃ sv', Exs C ((st b).setv t (.v (g a))) body .next ((st (f b a)).setv t sv') ∨ Exs C ((st b).setv t (.v (g a))) body .cont ((st (f b a)).setv t sv')) →
    ∃ sv', ForR C t body (l.map g) ((st b).setv t sv) .next ((st (l.foldl f b)).setv t sv') ∧ I (l.foldl f b)
  | [], b, sv, hI, _ => ⟨sv, .done, hI⟩
  | a :: l, b, sv, hI, h => by
    obtain ⟨hI', sv1, hs⟩ := h b a hI (.head _)
    obtain ⟨sv2, R, hI2⟩ := forR_steps (t := t) g st f I l (f b a) sv1 hI' fun b' a' hb ha => h b' a' hb (.tail _ ha)
    refine ⟨sv2, ?_, hI2⟩
    rcases hs with hs | hs
    · exact .next (by rw [setv_setv]; exact hs) R
    · exact .cont (by rw [setv_setv]; exact hs) R
theorem exs_to {C : Ctx} {σ σ₁ σ' : St} {b : List Stmt} {o : Out} (h : Exs C σ b o σ₁) (e : σ₁ = σ') : Exs C σ b o σ' := e ▸ h
theorem ev_to {C : Ctx} {σ : St} {e : Expr} {p q : PV} (h : Ev C σ e (.v p)) (k : p = q) : Ev C σ e (.v q) := k ▸ h
noncomputable def slotB (Γ : Sc) (x : Str) : Bool := match Γ.kind x with
  | some .local => true
  | some .cell => true
  | _ => false
noncomputable def Slots (C : Ctx) (Γ : Sc) : Prop := ∀ x, slotB Γ x = true → Slotted C x
section
variable {C : Ctx} {Γ : Sc} {σ : St}
theorem exA (K : CtxOk C) (S : Stat C Γ) (Sl : Slots C Γ) (i : Nat) {x : Str} {e : Expr} {p pos : Pos} {v : PV} (hn : Γ.names[i]? = some x) (hk : slotB Γ x = true) (h : Ev C σ e (.v v)) (hs : swapsWith e (some (.Name x p)) pos.line C.env = pure false) :
    Ex C σ (.Assign [.Name x p] e pos) .next (σ.setv i (.v v)) := ex_assign K i (by rw [S.names]; exact hn) (Sl x hk) h hs
theorem exG (K : CtxOk C) (S : Stat C Γ) (Sl : Slots C Γ) (i : Nat) {x : Str} {e : Expr} {p pos : Pos} {r : R} {v : PV} (hn : Γ.names[i]? = some x) (hk : slotB Γ x = true) (h : evI Γ σ.loc 20 e = some r) (k : r.ok) (hv : r.v = v) (hs : swapsWith e (some (.Name x p)) pos.line C.env = pure false) :
    Ex C σ (.Assign [.Name x p] e pos) .next (σ.setv i (.v v)) := exA K S Sl i hn hk (evG S h k hv) hs
theorem exAug (K : CtxOk C) (S : Stat C Γ) (Sl : Slots C Γ) (i : Nat) {x : Str} {e : Expr} {op : Operator} {p pos : Pos} {a b z : PV} {r : R} (hn : Γ.names[i]? = some x) (hk : slotB Γ x = true) (hl : σ.loc[i]? = some (.v a)) (h : evI Γ σ.loc 20 e = some r) (k : r.ok) (hv : r.v = b) (hb : BinR C.P C.A (inplaceOp op) a b z) :
    Ex C σ (.AugAssign (.Name x p) op e pos) .next (σ.setv i (.v z)) := ex_aug K i (by rw [S.names]; exact hn) (Sl x hk) hl (evG S h k hv) hb
theorem exFor (K : CtxOk C) (S : Stat C Γ) (Sl : Slots C Γ) {x : Str} {xp pos : Pos} {iter : Expr} {body : List Stmt} (t : Nat) {ds : List PV} {σ' : St} {o : Out} (hn : Γ.names[t]? = some x) (hk : slotB Γ x = true) (hi : ItR C σ iter ds) (R : ForR C t body ds σ o σ')
    (hs : ∀ v, foldedSetIterable iter C.env v = pure v) : Ex C σ (.For (.Name x xp) iter body [] pos) o σ' := ex_forS K (by rw [S.names]; exact hn) (Sl x hk) hi R hs
theorem ev_listr (S : Stat C Γ) {lp fp pos rpos : Pos} {e e' : Expr} {a b : Int} {r r' : R} (hl : evI Γ σ.loc 2 (.Name "list" lp) = some ⟨.atom (.type "list"), True⟩) (hf : evI Γ σ.loc 2 (.Name "range" fp) = some ⟨.atom (.type "range"), True⟩) (he : evI Γ σ.loc 20 e = some r) (he' : evI Γ σ.loc 20 e' = some r') (k : r.ok) (k' : r'.ok)
    (hr : r.v = .int a) (hr' : r'.v = .int b) (ha : a.natAbs ≤ 1000000) (hb : b.natAbs ≤ 1000000) (hs : isStar e = false := by rfl) (hs' : isStar e' = false := by rfl) :
    Ev C σ (.Call (.Name "list" lp) [.Call (.Name "range" fp) [e, e'] [] rpos] [] pos) (.v (.list (intsP a (b - a).toNat))) :=
  ev_listrange S.hh ((evI_sound S σ 2).1 _ _ hl trivial) ((evI_sound S σ 2).1 _ _ hf trivial) (evG S he k hr) (evG S he' k' hr') ha hb hs hs' rfl rfl

theorem swaps_true (S : Stat C Γ) {elt : Expr} {gens : List Comprehension} {scope : Scope} {cpos p : Pos} {t : Str} {line : Nat} (hk : Γ.kind t = some .local) (hl : (p.line == cpos.line) = true) (hn : (scope.names.any fun q => q.1 == t && (q.2 == .local || q.2 == .cell)) = false) :
    swapsWith (.ListComp elt gens scope cpos) (some (.Name t p)) line C.env = pure true := by
  have bk : C.env.blockKind = .function := by
    unfold Env.blockKind
    rw [S.fk]; rfl
  unfold swapsWith
  show (do return C.env.blockKind == .function && C.env.kindOf t == some .local && p.line == cpos.line && !(scope.names.any fun q => q.1 == t && (q.2 == .local || q.2 == .cell)) : Sem Bool) = _
  rw [bk, S.kind, hk, hl, hn]; rfl
theorem exC (K : CtxOk C) (S : Stat C Γ) (Sl : Slots C Γ) {scope : Scope} {x : Str} {xp pos : Pos} {elt iter : Expr} {ifs : List Expr} {gs : List Comprehension} {ds xs : List PV} (tg : List Str) (cap : List (Str × Nat)) (h : scOkB Γ scope tg cap = true) (ht : tg[0]? = some x) (hgs : ∀ g ∈ gs, ∃ x xp iter ifs, g = ⟨.Name x xp, iter, ifs, 0⟩)
    (hi : ItR C σ iter ds) (hs : ∀ v, foldedSetIterable iter C.env v = pure v) (B : BlockG C Γ σ scope tg cap elt ifs gs 0 ds xs) (hsz : xs.length ≤ sizeLine) (i : Nat) {y : Str} {yp spos : Pos} (hn : Γ.names[i]? = some y) (hy : slotB Γ y = true)
    (hk : Γ.kind y = some .local) (hl : (yp.line == pos.line) = true) (ha : (scope.names.any fun q => q.1 == y && (q.2 == .local || q.2 == .cell)) = false) :
    Ex C σ (.Assign [.Name y yp] (.ListComp elt (⟨.Name x xp, iter, ifs, 0⟩ :: gs) scope pos) spos) .next (σ.setv i (.v (.list xs))) :=
  exc K S tg cap h ht hgs hi hs B hsz i (by rw [S.names]; exact hn) (Sl y hy) (swaps_true S hk hl ha)
end
end Rt

/-! V5h -/
namespace Rt
noncomputable def clampN (v : Option Int) (d n : Nat) : Nat := match v with
  | none => d
  | some i => (max 0 (min (if i < 0 then i + n else i) n)).toNat
theorem pick_range {α : Type} (xs : List α) (a : Nat) : ∀ k, ((List.range k).map (a + ·)).filterMap (xs[·]?) = (xs.drop a).take k
  | 0 => rfl
  | k + 1 => by
    rw [List.range_succ, List.map_append, List.filterMap_append, pick_range xs a k, List.take_add_one, List.getElem?_drop]
    show _ ++ (match xs[a + k]? with | none => [] | some b => [b]) = _
    cases xs[a + k]? <;> rfl
theorem pickL_eq {α : Type} (xs : List α) (lo hi : Option Int) : pickL xs lo hi = (xs.drop (clampN lo 0 xs.length)).take (clampN hi xs.length xs.length - clampN lo 0 xs.length) := by
  have e1 : (sliceBounds lo hi none xs.length).1 = (clampN lo 0 xs.length : Int) := by
    unfold sliceBounds clampN
    cases lo with
    | none => rfl
    | some i =>
      dsimp only [Option.getD]
      rw [if_pos (by decide), Int.toNat_of_nonneg (by lia)]
  have e2 : (sliceBounds lo hi none xs.length).2.1 = (clampN hi xs.length xs.length : Int) := by
    unfold sliceBounds clampN
    cases hi with
    | none => rfl
    | some i =>
      dsimp only [Option.getD]
      rw [if_pos (by decide), Int.toNat_of_nonneg (by lia)]
  have e3 : (sliceBounds lo hi none xs.length).2.2 = 1 := rfl
  unfold pickL
  rw [e1, e2, e3, sliceRange_one, pick_range]
/-- without the first and the last -/
theorem pick_mid {α : Type} (xs : List α) : pickL xs (some 1) (some (-1)) = (xs.drop 1).take (xs.length - 2) := by
  rw [pickL_eq]
  have e1 : clampN (some 1) 0 xs.length = min 1 xs.length := by unfold clampN; simp only [show ¬ ((1 : Int) < 0) from by decide, if_false]; lia
  have e2 : clampN (some (-1)) xs.length xs.length = xs.length - 1 := by unfold clampN; simp; lia
  rw [e1, e2]
  cases xs with
  | nil => rfl
  | cons a l =>
    have : min 1 (a :: l).length = 1 := by simp
    rw [this]
    rfl
theorem pick_map {α β : Type} (f : α → β) (xs : List α) (lo hi : Option Int) : pickL (xs.map f) lo hi = (pickL xs lo hi).map f := by
  rw [pickL_eq, pickL_eq, List.length_map, List.map_take, List.map_drop]

/-- a call by name, of arguments that were shown apart -/
theorem evCall {C : Ctx} {Γ : Sc} {σ : St} (S : Stat C Γ) {f : Str} {fp pos : Pos} {e : Expr} {es : List Expr} {vs : List PV} {t : Ent} {c : R} {v : PV} (hes : Evs C σ (e :: es) (vs.map .v)) (hpl : (e :: es).all (fun e => !isStar e) = true) (hd : sameS f "__debug__" = false) (hk : Γ.kind f = some .globalImplicit) (hT : findT f Γ.T = some t)
    (hc : t.F vs = some c) (ok : c.ok) (hv : c.v = v) : Ev C σ (.Call (.Name f fp) (e :: es) [] pos) (.v v) := by
  subst hv
  obtain ⟨hm, hn⟩ := findT_mem hT
  have ent := S.T _ hm
  rw [List.all_cons, Bool.and_eq_true] at hpl
  have hst := starEach_plain (es := es) (env := C.env) (show isStar e = false by simpa using hpl.1)
  unfold EntOk at ent
  cases hcal : t.cal with
  | d =>
    rw [hcal] at ent
    obtain ⟨d, hd1, hd2, v, hv1, hv2⟩ := ent
    exact ev_call_d d hd1 (hd2 ▸ hv1) (ev_global ((S.kind _).trans hk) (by rw [← hn]; exact hv1) (sameS_ne hd)) hes (hv2 _ c hc ok) (Nat.le_refl _) S.hh rfl hst
  | b id =>
    rw [hcal] at ent
    obtain ⟨a1, a2, a3, a4⟩ := ent
    rw [hn] at a1 a2 a3
    exact ev_call_b (ev_builtin ((S.kind _).trans hk) a1 a2 a3 (sameS_ne hd)) hes (a4 _ c hc ok) (Nat.le_refl _) S.hh rfl hst (plain_any hpl.2)
  | t id =>
    rw [hcal] at ent
    obtain ⟨a1, a2, a3, a4⟩ := ent
    rw [hn] at a1 a2 a3
    exact ev_call_t (ev_builtin ((S.kind _).trans hk) a1 a2 a3 (sameS_ne hd)) hes (a4 _ c hc ok) (Nat.le_refl _) S.hh rfl hst (plain_any hpl.2)
theorem idxL_last {xs : List PV} {p : PV} (h : xs.getLast? = some p) : idxL xs (-1) = p := by
  unfold idxL
  rw [if_pos (by decide)]
  rw [List.getLast?_eq_getElem?] at h
  have : ((-1 : Int) + xs.length).toNat = xs.length - 1 := by lia
  rw [this, h]; rfl
end Rt

/-! V5i -/
namespace Rt
theorem kind_issub_nested : builtinKind "issubclass.nested" = none := by decide +kernel
theorem plain_issub_nested : plainId "issubclass.nested" = true := by decide +kernel
theorem args_issub_nested_3 (a b c : Value) : argsOk "issubclass.nested" ⟨[a, b, c], []⟩ := by unfold argsOk; kernel_rfl
section
variable {prog : Program} {w : World} {A : Around} {E : Value → Shared → Prop}
theorem issub_nested_self {k : Value} {dep : Int} {tk : Tok} {Q : Fin → Shared → Prop} {s : Shared} (hk : k = .int dep tk) (hq : Q (.done (.ret (.bool true))) s) :
    wpAny (model prog w) A (Builtin.«issubclass.nested» ⟨[.type "str", .type "str", k], []⟩) Q E s := by
  subst hk
  have hm := F.isi_meta_str
  have hself := F.sub_str_str
  repeat (any_goals (first | assumption | (rw [if_pos hm]) | (rw [hself]) | wp_step))
theorem issub_meets (dep : Int) (tk : Tok) : Meets (Builtin.«issubclass.nested» ⟨[.type "str", .type "str", .int dep tk], []⟩) (fun _ R s => R (.ok (.ret (.bool true))) s) :=
  fun _ _ _ _ _ hs => issub_nested_self rfl hs
theorem issub_nested_tuple {tp : Addr} {n : Nat} {dict : Option Addr} {sl : Array (Option Value)} {tk : Tok} {cs : List Value} {s : Shared} {Q : Fin → Shared → Prop}
    (htp : s.heap.get? tp = some { cls := .type "tuple", dict := dict, data := .seq cs.toArray n, slots := sl }) (hcs : cs = [.type "str", .type "bytes"])
    (hq : ∀ tk', Q (.done (.ret (.bool true))) { s with toks := tk' }) : wpAny (model prog w) A (Builtin.«issubclass.nested» ⟨[.type "str", .ref tp, .int 0 tk], []⟩) Q E s := by
  obtain ⟨h, g, d, t, os⟩ := s
  have hT2 : (⟨h, g, d, t, os⟩ : Shared).TypeIs (.ref tp) "tuple" := ⟨_, htp, rfl⟩
  have f1 := F.isi_sub_tuple
  repeat (any_goals (first | assumption | wp_step))
  refine wpAny_arrayLoop ?_
  simp only [Option.getD_some, List.toList_toArray]
  rw [hcs, List.forIn_cons]
  refine wpAny_bind (wpAny_bind (call_function_meets kind_issub_nested plain_issub_nested F.entry_issubclass_nested (args_issub_nested_3 _ _ _) (issub_meets _ _) ?_))
  refine wpAny_bind (m := truthy (.bool true)) (wpAny_pure ?_)
  refine wpAny_bind (wpAny_pure (wpAny_pure (wpAny_pure ?_)))
  repeat (any_goals (first | assumption | wp_step))
  exact hq t
end
open PyProof.Rows in
theorem c_issub {P : Pr} {n : Nat} : CallR P n (.builtin "issubclass") [.atom (.type "str"), .tup [.atom (.type "str"), .atom (.type "bytes")]] (.bool true) := by
  intro A av s vs Q E _ _ _ w k
  cases w with
  | cons w w0 =>
  cases w0 with
  | cons w1 w0 =>
  cases w0
  cases w
  cases w1 with
  | tup l _ ws =>
  rename_i tp its _
  obtain ⟨o, ho, hc, m, hd⟩ := l
  obtain ⟨cls, dict, data, slots⟩ := o
  subst hc; subst hd
  have hits : its.toList = [.type "str", .type "bytes"] := by
    generalize its.toList = l at ws
    cases ws with
    | cons a r =>
      cases a
      cases r with
      | cons b r =>
        cases b
        cases r
        rfl
  refine call_issubclass (S := fun _ R s => s.heap.get? tp = some { cls := .type "tuple", dict := dict, data := .seq its m, slots := slots } ∧ ∀ tk, R (.ok (.ret (.bool true))) { s with toks := tk }) (fun _ _ _ _ _ hs => issubclass_outer (issub_nested_tuple (cs := its.toList) (by simpa using hs.1) hits hs.2)) ⟨ho, fun tk => ?_⟩
  exact k _ s.heap tk (stays_refl _) (.bool _)
end Rt

/-! V5j -/
namespace Rt
section
variable {C : Ctx} {σ : St} {adr : List Addr} {s : Shared}
theorem plain_map {h : Heap} {a : Addr} {its : Array Value} (hl : h.PlainList a its) (f : Array Value → Array Value) : (h.update a (Obj.mapSeq f)).PlainList a (f its) := by
  obtain ⟨n, ho⟩ := hl
  have : ∃ m, Obj.mapSeq f { cls := .type "list", data := .seq its n } = { cls := .type "list", data := .seq (f its) m } := ⟨_, rfl⟩
  obtain ⟨m, hm⟩ := this
  refine ⟨m, ?_⟩
  rw [Heap.get?_update_self _ ho (by rw [hm]; rfl), hm]
theorem svals_dropLast {av : Addr → Prop} {h : Heap} {vs : List Value} {svs : List SV} (w : SVals av adr h vs svs) : SVals av adr h vs.dropLast svs.dropLast := by
  induction w with
  | nil => exact .nil
  | cons a r ih => cases r with
    | nil => exact .nil
    | cons b r => exact .cons a ih
theorem svals_get {av : Addr → Prop} {h : Heap} {vs : List Value} {svs : List SV} (w : SVals av adr h vs svs) {i : Nat} {sv : SV} (e : svs[i]? = some sv) : ∃ v, vs[i]? = some v ∧ SVal av adr h v sv := by
  induction w generalizing i with
  | nil => cases e
  | cons a b ih => cases i with
    | zero => obtain rfl := Option.some.inj e; exact ⟨_, rfl, a⟩
    | succ i => exact ih e
/-- o.m() on a list of the frame's own, as a statement -/
theorem ex_pop (k : Nat) {o : Expr} {apos cpos pos : Pos} {xs : List SV} (ho : Ev C σ o (.mut k)) (hk : σ.own[k]? = some (some xs)) (x : Str) (hx : xs.getLast? = some (.v (.str x))) (hsz : xs.length ≤ sizeLine) (hb : noBase o = true) (hp : (apos.endLine == cpos.line) = true)
    (hi : interactive C.env = false) (hs : swapsWith (.Call (.Attribute o "pop" apos) [] [] cpos) none pos.line C.env = pure false) :
    Ex C σ (.Expr (.Call (.Attribute o "pop" apos) [] [] cpos) pos) .next (σ.updOwn k xs.dropLast) := by
  intro adr s Q E H kk
  refine wpAny_Expr ?_ hi hs
  refine MethodCall_ (ho adr s _ E H fun ov h1 t1 k1 w1 => ?_) (meth_eq hb rfl (by decide) hp)
  obtain ⟨a, ha, rfl⟩ := w1
  have H1 := H.stays k1
  obtain ⟨its, l, ws⟩ := H1.own k xs a hk ha
  have e1 := ws.length
  simp only [Array.length_toList] at e1
  obtain ⟨n, hob⟩ := id l
  refine PySem.getMethod_builtin (T := "list") ⟨_, hob, rfl⟩ F.plainAttrs_list F.slot_list_pop F.type_list_pop (fun b e => by cases e; exact ⟨_, hob, rfl⟩) ?_
  have hpos : 0 < its.size := by
    rw [e1]
    refine List.length_pos_iff.mpr ?_
    rintro rfl; cases hx
  rw [List.getLast?_eq_getElem?] at hx
  obtain ⟨y, hy', wy⟩ := svals_get ws hx
  rw [← e1, Array.getElem?_toList] at hy'
  have wy' : Val (C.avo σ.own adr) h1 y (.str x) := wy
  cases wy' with
  | str _ t =>
  have hy := hy'
  refine PySem.P.pop_list (l := a) (items := its) hob hy ?_ (by omega)
  have al' : ((h1.update a (Obj.mapSeq fun xs => xs.eraseIdxIfInBounds (its.size - 1))).get? a).isSome = true := by
    obtain ⟨m, hm⟩ := plain_map l (fun xs => xs.eraseIdxIfInBounds (its.size - 1))
    rw [hm]; rfl
  have hd : (its.eraseIdxIfInBounds (its.size - 1)).toList = its.toList.dropLast := by
    unfold Array.eraseIdxIfInBounds
    rw [dif_pos (by omega)]
    simp [List.eraseIdx_eq_take_drop_succ, List.dropLast_eq_take]
    omega
  refine kk .next _ t1 adr (H1.updOwn hk ha (Heap.SameBut.update ..) (plain_map l _) ?_) ((Frm.of_stays k1).trans (Frm.updOwn hk ha (Heap.SameBut.update ..) al')) trivial
  rw [hd]
  exact svals_dropLast ws
/-- a test of what the frame's own list holds -/
theorem tr_own {e : Expr} {b : Bool} (k : Nat) (ps : List PV) (hk : σ.own[k]? = some (some (ps.map .v))) (h : Tr C (σ.frz k ps) e b) : Tr C σ e b := fun adr s Q E H kk => h adr s Q E (H.frz hk) kk
theorem ev_own {e : Expr} {p : PV} (k : Nat) (ps : List PV) (hk : σ.own[k]? = some (some (ps.map .v))) (hf : flat p = true) (h : Ev C (σ.frz k ps) e (.v p)) : Ev C σ e (.v p) := fun adr s Q E H kk => h adr s Q E (H.frz hk) fun v h' tk k' w => kk v h' tk k' (flat_val (av := C.avo (σ.frz k ps).own adr) (h := h') hf w)

theorem tr_or3 {x y z : Expr} {pos : Pos} {a b c : Bool} (hx : Tr C σ x a) (hy : a = false → Tr C σ y b) (hz : a = false → b = false → Tr C σ z c) : Tr C σ (.BoolOp .Or [x, y, z] pos) (a || b || c) := by
  intro adr s Q E H k
  refine wpAny_isTrue_BoolOp (wpAny_allTrue_Or_cons (hx adr s _ E H fun h1 t1 k1 => ?_))
  cases a with
  | true => exact k h1 t1 k1
  | false =>
    refine wpAny_allTrue_Or_cons (hy rfl adr _ _ E (H.stays k1) fun h2 t2 k2 => ?_)
    cases b with
    | true => exact k h2 t2 (stays_trans k1 k2)
    | false =>
      refine wpAny_allTrue_Or_cons (hz rfl rfl adr _ _ E ((H.stays k1).stays k2) fun h3 t3 k3 => ?_)
      cases c with
      | true => exact k h3 t3 (stays_trans (stays_trans k1 k2) k3)
      | false => exact wpAny_allTrue_Or_nil (k h3 t3 (stays_trans (stays_trans k1 k2) k3))
/-- or, as a value: the first, if it is true -/
theorem ev_or1 {x y : Expr} {pos : Pos} {p : PV} (hx : Ev C σ x (.v p)) (ht : TruR C.P C.A p true) : Ev C σ (.BoolOp .Or [x, y] pos) (.v p) := by
  intro adr s Q E H k
  refine wpAny_Or2 (hx adr s _ E H fun v h1 t1 k1 w1 => ?_)
  have H1 := H.stays k1
  refine ht _ _ v _ E H1.g H1.avin w1 fun h2 t2 k2 => ?_
  exact k v h2 t2 (stays_trans k1 k2) (Val.stays k2 w1)
theorem inter_false {Γ : Sc} (S : Stat C Γ) : interactive C.env = false := by
  unfold interactive
  rw [S.fk]; rfl
theorem exApp {Γ : Sc} (S : Stat C Γ) (i k : Nat) {x : Str} {e : Expr} {np apos cpos pos : Pos} {sv : SV} {xs : List SV} (hn : Γ.names[i]? = some x) (hl : σ.loc[i]? = some (.mut k)) (hd : sameS x "__debug__" = false) (hk : σ.own[k]? = some (some xs)) (he : Ev C σ e sv) (hst : isStar e = false) (hsz : xs.length ≤ sizeLine) (hp : (apos.endLine == cpos.line) = true)
    (hs : swapsWith (.Call (.Attribute (.Name x np) "append" apos) [e] [] cpos) none pos.line C.env = pure false) : Ex C σ (.Expr (.Call (.Attribute (.Name x np) "append" apos) [e] [] cpos) pos) .next (σ.updOwn k (xs ++ [sv])) :=
  ex_append k _ (ev_name i (by rw [S.names]; exact hn) hl (fun h => nomatch h) (sameS_ne hd)) hk he hsz (meth_eq rfl (by rw [List.all_cons, hst]; rfl) (by show 1 < 30; decide) hp) (starEach_plain hst) (inter_false S) hs
theorem exPop {Γ : Sc} (S : Stat C Γ) (i k : Nat) {x : Str} {np apos cpos pos : Pos} {xs : List SV} (hn : Γ.names[i]? = some x) (hl : σ.loc[i]? = some (.mut k)) (hd : sameS x "__debug__" = false) (hk : σ.own[k]? = some (some xs)) (y : Str) (hx : xs.getLast? = some (.v (.str y))) (hsz : xs.length ≤ sizeLine) (hp : (apos.endLine == cpos.line) = true)
    (hs : swapsWith (.Call (.Attribute (.Name x np) "pop" apos) [] [] cpos) none pos.line C.env = pure false) : Ex C σ (.Expr (.Call (.Attribute (.Name x np) "pop" apos) [] [] cpos) pos) .next (σ.updOwn k xs.dropLast) :=
  ex_pop k (ev_name i (by rw [S.names]; exact hn) hl (fun h => nomatch h) (sameS_ne hd)) hk y hx hsz rfl hp (inter_false S) hs
theorem exNew {Γ : Sc} (K : CtxOk C) (S : Stat C Γ) (Sl : Slots C Γ) (i : Nat) {x : Str} {p lp pos : Pos} (hn : Γ.names[i]? = some x) (hk : slotB Γ x = true) (hs : swapsWith (.List [] lp) (some (.Name x p)) pos.line C.env = pure false) :
    Ex C σ (.Assign [.Name x p] (.List [] lp) pos) .next ((σ.addOwn []).setv i (.mut σ.own.length)) := ex_new K i (by rw [S.names]; exact hn) (Sl x hk) hs

/-- x, y, z = e -/
theorem exTup3 {Γ : Sc} (K : CtxOk C) (S : Stat C Γ) (Sl : Slots C Γ) (i j k : Nat) {x y z : Str} {px py pz tpos pos : Pos} {n : Nat} {e : Expr} {a b c : PV} (hx : Γ.names[i]? = some x) (hy : Γ.names[j]? = some y) (hz : Γ.names[k]? = some z) (kx : slotB Γ x = true) (ky : slotB Γ y = true) (kz : slotB Γ z = true)
    (h : Ev C σ e (.v (.tup [a, b, c]))) (hs : swapsWithSole [.Tuple [.Name x px, .Name y py, .Name z pz] n tpos] e pos.line C.env = pure false) (hw : swappedStores [.Tuple [.Name x px, .Name y py, .Name z pz] n tpos] e C.env = pure none) :
    Ex C σ (.Assign [.Tuple [.Name x px, .Name y py, .Name z pz] n tpos] e pos) .next (((σ.setv i (.v a)).setv j (.v b)).setv k (.v c)) := by
  refine ex_tuple K S.hh (ps := [a, b, c]) [(i, x, assign (.Name x px) C.env), (j, y, assign (.Name y py) C.env), (k, z, assign (.Name z pz) C.env)] (fun E t ht => ?_) rfl h rfl hs hw
  simp only [List.mem_cons, List.not_mem_nil, or_false] at ht
  rcases ht with rfl | rfl | rfl
  · exact ⟨by rw [S.names]; exact hx, Sl x kx, fun v s Q hh => wpAny_assign_Name hh⟩
  · exact ⟨by rw [S.names]; exact hy, Sl y ky, fun v s Q hh => wpAny_assign_Name hh⟩
  · exact ⟨by rw [S.names]; exact hz, Sl z kz, fun v s Q hh => wpAny_assign_Name hh⟩
end

/-- a for whose turns all go on; the assumption knows how many are left -/
theorem forR_stepsN {C : Ctx} {t : Nat} {body : List Stmt} {α β : Type} (g : α → PV) (st : β → St) (f : β → α → β) (I : Nat → β → Prop) : ∀ (l : List α) (b : β) (sv : SV), I l.length b →
    (∀ k b a, I (k + 1) b → a ∈ l → I k (f b a) ∧ ∃ sv', Exs C ((st b).setv t (.v (g a))) body .next ((st (f b a)).setv t sv') ∨ Exs C ((st b).setv t (.v (g a))) body .cont ((st (f b a)).setv t sv')) →
    ∃ sv', ForR C t body (l.map g) ((st b).setv t sv) .next ((st (l.foldl f b)).setv t sv') ∧ I 0 (l.foldl f b)
  | [], b, sv, hI, _ => ⟨sv, .done, hI⟩
  | a :: l, b, sv, hI, h => by
    obtain ⟨hI', sv1, hs⟩ := h l.length b a hI (.head _)
    obtain ⟨sv2, R, hI2⟩ := forR_stepsN (t := t) g st f I l (f b a) sv1 hI' fun k b' a' hb ha => h k b' a' hb (.tail _ ha)
    refine ⟨sv2, ?_, hI2⟩
    rcases hs with hs | hs
    · exact .next (by rw [setv_setv]; exact hs) R
    · exact .cont (by rw [setv_setv]; exact hs) R
theorem len_append (x y : Str) : (x ++ y).length = x.length + y.length := Array.size_append
end Rt

/-! V5k -/
namespace Rt
/-- a call of a def with one parameter and a star parameter -/
theorem call_star {P : Pr} {n : Nat} (d : DefRec) (hd : d ∈ P.recs) {f : Value} (hf : P.mg d.name = some f) (x y : Str) (names : List Str) (p0 : PV) (rest : List PV) (r : PV)
    (hnames : names.take 2 = [x, y]) (hnd : names.Nodup) (hsz : rest.length ≤ sizeLine)
    (hbind : ∀ pm cd doc v0 vs, vs.length = rest.length → bindArgs (docDef d.name d.params d.body d.scope pm cd doc) ⟨v0 :: vs, []⟩ = (newTuple vs >>= fun t => pure [(x, v0), (y, t)]))
    (hkind : kindsOk d [x, y] = true) (hco : d.scope.isCoroutine = false) (hgen : d.scope.isGenerator = false) (hk : d.scope.kind = .function)
    (body : ∀ L a cd A av h₀, A.handled = none → CtxOk (fctx P n d names L a cd A av h₀) → (∀ c, L ≤ c → h₀.get? c = none) →
      ∃ σ' sv, Exs (fctx P n d names L a cd A av h₀) (st0 [p0, .tup rest] (names.length - 2)) d.body (.ret sv) σ' ∧ sv = .v r) :
    CallR P (n + 1) f (p0 :: rest) r := by
  intro A av s vs0 Q E R G ai w0 k
  cases w0 with
  | cons wa wr =>
  rename_i v0 vs
  obtain ⟨a, o, pm, cd, doc, e1, e2, e3, e4⟩ := G.fn d hd
  rw [e1] at hf; cases hf
  have hkinds : ∀ z ∈ [x, y], d.scope.names.lookup z = some .local ∨ (d.scope.names.lookup z = some .cell ∧ ∀ m, ((cellsFrom m d.scope.names []).lookup z).isSome = true) := fun z hz => by
    have := List.all_eq_true.mp hkind z hz
    rcases Bool.or_eq_true_iff.mp this with q | q
    · exact .inl (by simpa using q)
    · obtain ⟨q1, q2⟩ := Bool.and_eq_true_iff.mp q
      exact .inr ⟨by simpa using q1, fun m => (cells_shift d.scope.names m 0 [] [] rfl).trans q2⟩
  have st1 := stays_push s.heap { cls := .type "tuple", data := .seq vs.toArray }
  have wt : Val av (s.heap.push { cls := .type "tuple", data := .seq vs.toArray }) (.ref s.heap.objs.size) (.tup rest) := val_newtup ai (by simpa using wr)
  have hxy : x ≠ y := by
    rintro rfl
    have : (names.take 2).Nodup := (List.take_sublist _ _).nodup hnd
    rw [hnames] at this; simp at this
  refine wpAny_call (codeAny_call_function (fd := docDef d.name d.params d.body d.scope pm cd doc) (body := d.body) R.room.lt e2 e3 hco hgen rfl e4 ?_)
  rw [hbind pm cd doc v0 vs wr.length]
  refine wpAny_bind (wpAny_newTuple (wpAny_pure ?_) (by rw [wr.length]; exact hsz))
  have G1 := G.keeps st1
  have ai1 := ai.stays st1
  have w1 : Vals av (s.heap.push { cls := .type "tuple", data := .seq vs.toArray }) [v0, .ref s.heap.objs.size] [p0, .tup rest] := .cons (Val.stays st1 wa) (.cons wt .nil)
  generalize hs1 : s.heap.push { cls := .type "tuple", data := .seq vs.toArray } = h1 at *
  refine wpAny_newFunctionEnv_cells (s := { s with heap := h1 }) hk (fun p hp => ?_) fun env he s' X' => ?_
  · have : p.1 ∈ [x, y] := by
      simp only [List.mem_cons, List.not_mem_nil, or_false] at hp ⊢
      rcases hp with rfl | rfl
      · exact .inl rfl
      · exact .inr rfl
    exact (hkinds _ this).imp_right fun q => ⟨q.1, q.2 _⟩
  subst he
  obtain ⟨h₁, tk, rfl, _⟩ := X'.done
  refine ⟨G1.lim.keeps X'.toInCall.keep, codeAny_func ?_⟩
  have F : Fr h1 h1.objs.size h₁ (bindL (envOfC d.name d.scope h1.objs.size a cd).kindOf [(x, v0), (y, .ref s.heap.objs.size)] fun _ => none) := ⟨X'.toInCall.ns, X'.toInCall.keep, X'.toInCall.fresh⟩
  have X : Cl h1.objs.size (cellsFrom (h1.objs.size + 1) d.scope.names []) h₁ (bindC (envOfC d.name d.scope h1.objs.size a cd).kindOf [(x, v0), (y, .ref s.heap.objs.size)] fun _ => none) := ⟨X'.cell, X'.apart, X'.above⟩
  let C := fctx P n d names h1.objs.size a cd A av h1
  have fr : ∀ c, h1.objs.size ≤ c → h1.get? c = none := fun c hc => by
    cases e : h1.get? c with
    | none => rfl
    | some o' => exact absurd (Heap.lt_size e) (Nat.not_lt.mpr hc)
  have K : CtxOk C := ⟨hnd, X.apart, fr _ (Nat.le_refl _), by show (d.scope.kind == .class || (d.scope.kind == .module && _)) = false; rw [hk]; rfl⟩
  have hn0 : names[0]? = some x := by
    have := congrArg (·[0]?) hnames
    simpa [List.getElem?_take] using this
  have hn1 : names[1]? = some y := by
    have := congrArg (·[1]?) hnames
    simpa [List.getElem?_take] using this
  have H : Holds C (st0 [p0, .tup rest] (names.length - 2)) [] h₁ := by
    refine ⟨.of F.keep, G1, hk, ⟨rfl, rfl⟩, ⟨_, F.ns⟩, fun x c e => ⟨_, X.cell x c e⟩, fun i z sv h1' h2' => ?_, rfl, List.nodup_nil, (fun k ys b q => by simp [st0] at q), (fun b hb => nomatch hb), (fun b hb => nomatch hb), ai1, fctx_room ⟨R.room, R.handled, R.fr.soft st1⟩ hk G1.size⟩
    have key : ∀ (i : Nat) (z : Str) (v : Value) (p : PV), [(x, v0), (y, Value.ref s.heap.objs.size)][i]? = some (z, v) → Val av h1 v p → z ∈ [x, y] → SV.v p = .un ∨ ∃ v, Read C.env h₁ z v ∧ SVal (C.avo (st0 [p0, .tup rest] (names.length - 2)).own []) [] h₁ v (.v p) := fun i z v p hz wv hm => by
      have hnz : ([(x, v0), (y, Value.ref s.heap.objs.size)].map (·.1)).Nodup := by simp [hxy]
      refine .inr ⟨v, ?_, ?_⟩
      · rcases hkinds z hm with q | ⟨q, q2⟩
        · exact .inl ⟨q, _, F.ns, bindL_at _ _ i z v hnz hz q⟩
        · obtain ⟨c, hc⟩ := Option.isSome_iff_exists.mp (q2 (h1.objs.size + 1))
          refine .inr ⟨.inl q, c, hc, ?_⟩
          have := X.cell z c hc
          rwa [bindC_at _ _ i z v hnz hz (by show d.scope.names.lookup z ≠ _; rw [q]; decide)] at this
      · show Val _ h₁ v p
        refine (wv.stays (.of F.keep)).keep (.of_stays (stays_refl _)) fun b _ nb q => ?_
        rcases q with q | ⟨j, ys, q, _⟩
        · exact nb q
        · simp [st0] at q
    have h2'' : ([SV.v p0, SV.v (.tup rest)] ++ List.replicate (names.length - 2) SV.un)[i]? = some sv := h2'
    match i, h1', h2'' with
    | 0, h1', h2'' =>
      cases h2''
      have h1'' : names[0]? = some z := h1'
      rw [hn0] at h1''; cases h1''
      exact key 0 x v0 p0 rfl (Val.stays st1 wa) (.head _)
    | 1, h1', h2'' =>
      cases h2''
      have h1'' : names[1]? = some z := h1'
      rw [hn1] at h1''; cases h1''
      exact key 1 y _ (.tup rest) rfl wt (.tail _ (.head _))
    | i + 2, _, h2'' =>
      refine .inl ?_
      have e : (List.replicate (names.length - 2) SV.un)[i]? = some sv := h2''
      rw [List.getElem?_replicate] at e
      split at e <;> cases e
      rfl
  obtain ⟨σ', sv, B, rfl⟩ := body h1.objs.size a cd A av h1 R.handled K fr
  refine B [] { s with heap := h₁, toks := tk } _ _ H fun g h' tk' adr' H' _ wf => ?_
  obtain ⟨v, rfl, wv⟩ := fl_ret wf
  have wv' : Val (C.avo σ'.own adr') h' v r := wv
  exact k v h' tk' (stays_trans st1 H'.keep) (wv'.keep (.of_stays (stays_refl _)) fun b _ nb q => nb (.inl q))
end Rt

/-! V5l -/
namespace Rt
/-- a try whose block ends well -/
theorem ex_try {C : Ctx} {σ σ' : St} {body : List Stmt} {h0 : ExceptHandler} {hs : List ExceptHandler} {pos : Pos} (h : Exs C σ body .next σ') : Ex C σ (.Try body (h0 :: hs) [] [] pos) .next σ' := by
  intro adr s Q E H k
  refine wpAny_Try_except (h adr s _ _ H fun f h' tk adr' H' F' w => ?_)
  rw [fl_next w]
  exact wpAny_execs_nil (k .next h' tk adr' H' F' trivial)
end Rt

/-! V5m -/
namespace Rt
noncomputable def leS (a b : Str) : Bool := decide (a.cps.toList ≤ b.cps.toList)
noncomputable def sortS (xs : List Str) : List Str := xs.mergeSort leS
theorem leS_trans (a b c : Str) (h1 : leS a b = true) (h2 : leS b c = true) : leS a c = true := by
  unfold leS at *
  rw [decide_eq_true_eq] at *
  exact List.le_trans h1 h2
theorem leS_total (a b : Str) : (leS a b || leS b a) = true := by
  unfold leS
  rw [Bool.or_eq_true, decide_eq_true_eq, decide_eq_true_eq]
  exact List.le_total _ _
theorem leS_antisymm (a b : Str) (h1 : leS a b = true) (h2 : leS b a = true) : a = b := by
  unfold leS at *
  rw [decide_eq_true_eq] at *
  have := List.le_antisymm h1 h2
  obtain ⟨⟨x⟩⟩ := a; obtain ⟨⟨y⟩⟩ := b
  have e : x = y := this
  rw [e]
theorem rising_le {p x : Str} {r : List Str} (h : risingS p (x :: r) = true) : leS p x = true ∧ risingS x r = true := by
  unfold risingS at h
  rw [Bool.and_eq_true] at h
  refine ⟨?_, h.2⟩
  have h1 := h.1
  rw [ltCps_eq] at h1
  unfold leS
  rw [decide_eq_true_eq]
  simpa [List.not_lt] using h1
theorem rising_pw : ∀ (l : List Str) (p : Str), risingS p l = true → (p :: l).Pairwise fun a b => leS a b = true
  | [], p, _ => List.pairwise_singleton _ _
  | x :: r, p, h => by
    obtain ⟨h1, h2⟩ := rising_le h
    have ih := rising_pw r x h2
    refine List.pairwise_cons.mpr ⟨fun y hy => ?_, ih⟩
    rcases List.mem_cons.mp hy with rfl | hy
    · exact h1
    · exact leS_trans _ _ _ h1 (List.rel_of_pairwise_cons ih hy)
theorem sorted_pw : ∀ (l : List Str), sortedS l = true → l.Pairwise fun a b => leS a b = true
  | [], _ => List.Pairwise.nil
  | x :: r, h => rising_pw r x h
theorem sort_pw (xs : List Str) : (sortS xs).Pairwise fun a b => leS a b = true := List.pairwise_mergeSort leS_trans leS_total xs
theorem sort_perm (xs : List Str) : (sortS xs).Perm xs := List.mergeSort_perm xs leS
theorem sort_unique {ys xs : List Str} (h : ys.Perm xs) (s : sortedS ys = true) : ys = sortS xs :=
  List.Perm.eq_of_pairwise (le := fun a b => leS a b = true) (fun a b _ _ h1 h2 => leS_antisymm a b h1 h2) (sorted_pw ys s) (sort_pw xs) (h.trans (sort_perm xs).symm)
theorem c_sort {P : Pr} {n : Nat} (xs : List Str) (hs : xs.length < 64) : CallR P n (.builtin "sorted") [.list (xs.map .str)] (.list ((sortS xs).map .str)) := by
  intro A av s vs Q E _ _ ai w k
  exact c_sorted (P := P) xs hs A av s vs Q E ai w fun ys v h' tk hp hs' k' w' => k v h' tk k' (by rw [← sort_unique hp hs']; exact w')
end Rt

/-! V6a -/
namespace Rt
open PySem.Challenge
noncomputable def recsL : { l : List DefRec // l = recsOf pw_rt0086_01 } := by
  refine ⟨[⟨?_, ?_, ?_, ?_, ?_⟩, ⟨?_, ?_, ?_, ?_, ?_⟩, ⟨?_, ?_, ?_, ?_, ?_⟩, ⟨?_, ?_, ?_, ?_, ?_⟩, ⟨?_, ?_, ?_, ?_, ?_⟩, ⟨?_, ?_, ?_, ?_, ?_⟩, ⟨?_, ?_, ?_, ?_, ?_⟩, ⟨?_, ?_, ?_, ?_, ?_⟩, ⟨?_, ?_, ?_, ?_, ?_⟩, ⟨?_, ?_, ?_, ?_, ?_⟩, ⟨?_, ?_, ?_, ?_, ?_⟩, ⟨?_, ?_, ?_, ?_, ?_⟩, ⟨?_, ?_, ?_, ?_, ?_⟩, ⟨?_, ?_, ?_, ?_, ?_⟩, ⟨?_, ?_, ?_, ?_, ?_⟩, ⟨?_, ?_, ?_, ?_, ?_⟩, ⟨?_, ?_, ?_, ?_, ?_⟩, ⟨?_, ?_, ?_, ?_, ?_⟩, ⟨?_, ?_, ?_, ?_, ?_⟩, ⟨?_, ?_, ?_, ?_, ?_⟩, ⟨?_, ?_, ?_, ?_, ?_⟩, ⟨?_, ?_, ?_, ?_, ?_⟩, ⟨?_, ?_, ?_, ?_, ?_⟩], ?h⟩
  case h => exact rfl
noncomputable def dr (i : Nat) (h : i < 23) : DefRec := recsL.1[i]'h
end Rt

/-! V6b -/
namespace Rt
/-- a def's own block, at what is known -/
noncomputable def dSc (d : DefRec) (names : List Str) (T : List Ent) : Sc := ⟨names, fun x => lookS x d.scope.names, T⟩
theorem stat_def {P : Pr} {n : Nat} {d : DefRec} {names : List Str} {L a : Addr} {cd : Value} {A : Around} {av : Addr → Prop} {h₀ : Heap} {T : List Ent} (hT : ∀ e ∈ T, EntOk P n e) (hk : d.scope.kind = .function) (hf : d.scope.names.all (fun p => p.2 != .free) = true) (hn : nodupS (d.scope.names.map (·.1)) = true) (hh : A.handled = none) :
    Stat (fctx P n d names L a cd A av h₀) (dSc d names T) where
  names := rfl
  kind := fun x => lookS_eq x _
  T := hT
  fk := hk
  hh := hh
  cells := fun x hx => by
    show ∃ c, (cellsFrom (L + 1) d.scope.names []).lookup x = some c
    have hx' : d.scope.names.lookup x = some .cell ∨ d.scope.names.lookup x = some .free := hx
    rcases hx' with hx' | hx'
    · obtain ⟨c, h1, _⟩ := cells_cell d.scope.names (L + 1) [] x (mem_of_lookup hx')
      exact ⟨c, lookup_of_mem (cells_names _ _ _ (nodupS_iff hn) List.nodup_nil (fun _ q => nomatch q)) h1⟩
    · have := List.all_eq_true.mp hf _ (mem_of_lookup hx')
      simp at this
theorem slots_def {P : Pr} {n : Nat} {d : DefRec} {names : List Str} {L a : Addr} {cd : Value} {A : Around} {av : Addr → Prop} {h₀ : Heap} {T : List Ent} (hn : nodupS (d.scope.names.map (·.1)) = true) (fr : ∀ c, L ≤ c → h₀.get? c = none) :
    Slots (fctx P n d names L a cd A av h₀) (dSc d names T) := fun x hx => by
  have hx : d.scope.names.lookup x = some .local ∨ d.scope.names.lookup x = some .cell := by
    rw [lookS_eq]
    unfold slotB dSc at hx
    dsimp only at hx
    split at hx
    · rename_i e; exact .inl e
    · rename_i e; exact .inr e
    · cases hx
  rcases hx with hx | hx
  · exact .inl hx
  · refine .inr ⟨hx, ?_⟩
    obtain ⟨c, h1, h2⟩ := cells_cell d.scope.names (L + 1) [] x (mem_of_lookup hx)
    exact ⟨c, lookup_of_mem (cells_names _ _ _ (nodupS_iff hn) List.nodup_nil (fun _ q => nomatch q)) h1, fr c (Nat.le_of_succ_le h2)⟩
/-- a def is right, if its block is -/
theorem len0 {α : Type} {l : List α} (h : l.length = 0) : l = [] := List.length_eq_zero_iff.mp h
theorem lenS {α : Type} {l : List α} {n : Nat} (h : l.length = n + 1) : ∃ a r, l = a :: r ∧ r.length = n := by
  cases l with
  | nil => cases h
  | cons a r => exact ⟨a, r, rfl, Nat.succ.inj h⟩
theorem len1 {α : Type} {l : List α} (h : l.length = 1) : ∃ a, l = [a] := by
  obtain ⟨a, r, rfl, h'⟩ := lenS h
  exact ⟨a, by rw [len0 h']⟩
theorem len2 {α : Type} {l : List α} (h : l.length = 2) : ∃ a b, l = [a, b] := by
  obtain ⟨a, r, rfl, h'⟩ := lenS h
  obtain ⟨b, rfl⟩ := len1 h'
  exact ⟨a, b, rfl⟩
theorem len3 {α : Type} {l : List α} (h : l.length = 3) : ∃ a b c, l = [a, b, c] := by
  obtain ⟨a, r, rfl, h'⟩ := lenS h
  obtain ⟨b, c, rfl⟩ := len2 h'
  exact ⟨a, b, c, rfl⟩
theorem len4 {α : Type} {l : List α} (h : l.length = 4) : ∃ a b c d, l = [a, b, c, d] := by
  obtain ⟨a, r, rfl, h'⟩ := lenS h
  obtain ⟨b, c, d, rfl⟩ := len3 h'
  exact ⟨a, b, c, d, rfl⟩
theorem def_ok {P : Pr} {n : Nat} (d : DefRec) (hd : d ∈ P.recs) {f : Value} (hf : P.mg d.name = some f) (xs names : List Str) (ps : List PV) (r : PV) {T : List Ent} (hT : ∀ e ∈ T, EntOk P n e)
    (hx : xs.length = ps.length) (hnames : names.take xs.length = xs) (hnd : nodupS names = true)
    (hbind : ∀ pm cd doc vs, vs.length = xs.length → bindArgs (docDef d.name d.params d.body d.scope pm cd doc) ⟨vs, []⟩ = pure (xs.zip vs))
    (hkind : kindsOk d xs = true) (hco : d.scope.isCoroutine = false) (hgen : d.scope.isGenerator = false) (hk : d.scope.kind = .function) (hfr : d.scope.names.all (fun p => p.2 != .free) = true) (hn : nodupS (d.scope.names.map (·.1)) = true)
    (body : ∀ C, C.P = P → CtxOk C → Stat C (dSc d names T) → Slots C (dSc d names T) →
      ∃ σ' sv, Exs C (st0 ps (names.length - xs.length)) d.body (.ret sv) σ' ∧ sv = .v r) : CallR P (n + 1) f ps r := by
  refine call_ok d hd hf xs names ps r hx hnames (nodupS_iff hnd) hbind hkind hco hgen hk fun L a cd A av h₀ hh K fr => ?_
  refine body _ rfl K (stat_def hT hk hfr hn hh) fun x hx => ?_
  have hx : d.scope.names.lookup x = some .local ∨ d.scope.names.lookup x = some .cell := by
    rw [lookS_eq]
    unfold slotB dSc at hx
    dsimp only at hx
    split at hx
    · rename_i e; exact .inl e
    · rename_i e; exact .inr e
    · cases hx
  rcases hx with hx | hx
  · exact .inl hx
  · refine .inr ⟨hx, ?_⟩
    obtain ⟨c, h1, h2⟩ := cells_cell d.scope.names (L + 1) [] x (mem_of_lookup hx)
    exact ⟨c, lookup_of_mem (cells_names _ _ _ (nodupS_iff hn) List.nodup_nil (fun _ q => nomatch q)) h1, fr c (Nat.le_of_succ_le h2)⟩

noncomputable def forB (b : List Stmt) (i : Nat) : List Stmt := match b[i]? with
  | some (.For _ _ body _ _) => body
  | _ => []
noncomputable def stB (b : List Stmt) (i : Nat) : Stmt := (b[i]?).getD (.Pass ⟨0, 0, 0, 0⟩)
noncomputable def whileB (b : List Stmt) (i : Nat) : List Stmt := match b[i]? with
  | some (.While _ body _ _) => body
  | _ => []
noncomputable def lenF : List PV → Option R
  | [.list xs] => some ⟨.int xs.length, xs.length ≤ sizeLine⟩
  | [.str x] => some ⟨.int x.length, x.length ≤ sizeLine⟩
  | _ => none
noncomputable def eLen : Ent := ⟨"len", .b "len", lenF⟩
noncomputable def eRange : Ent := ⟨"range", .t "range", fun _ => none⟩
theorem conLen (P : Pr) (n : Nat) : ConR P n (.builtin "len") lenF := by
  intro ps r h ok
  unfold lenF at h
  split at h <;> cases h
  · exact c_len _ ok
  · exact c_lens _ ok

/-- the signs that escape puts a backslash ahead of -/
noncomputable def isSp (c : Nat) : Bool := [40, 41, 91, 93, 123, 125, 63, 42, 43, 45, 124, 94, 36, 92, 46, 38, 126, 35, 32, 9, 10, 13, 11, 12].contains c
noncomputable def SpF (f : Int → Option Value) : Prop := ∀ c : Nat, c < 128 → (isSp c = true → ∃ t, f c = some (.str ⟨#[92, c]⟩ t)) ∧ (isSp c = false → f c = none)
/-- what is known of the run's globals -/
structure Base (P : Pr) : Prop where
  recs : P.recs = recsL.1
  mgd : ∀ d ∈ recsL.1, ∃ a, P.mg d.name = some (.ref a)
  nb : ∀ x ∈ (["len", "range", "sorted", "list", "isinstance", "issubclass", "str", "bytes", "type", "object", "IndexError", "TypeError"] : List Str), P.mg x = none
  sp : ∃ d, P.mg "_special_chars_map" = some (.ref d) ∧ (d == sysModules) = false ∧ ∀ h, P.ex h → ∃ f, h.MapOf (intKind P.prog P.w) d f ∧ SpF f
theorem Base.d {P : Pr} (B : Base P) (i : Nat) (h : i < 23) : dr i h ∈ P.recs ∧ ∃ v, P.mg (dr i h).name = some v := by
  have m : dr i h ∈ recsL.1 := List.getElem_mem _
  obtain ⟨a, e⟩ := B.mgd _ m
  exact ⟨by rw [B.recs]; exact m, _, e⟩
theorem ok_len {P : Pr} (B : Base P) (n : Nat) : EntOk P n eLen := ⟨B.nb "len" (by simp), Boot.«len», by decide, conLen P n⟩
theorem ok_range {P : Pr} (B : Base P) (n : Nat) : EntOk P n eRange := ⟨B.nb "range" (by simp), Boot.«range», by decide, fun _ _ h => nomatch h⟩
theorem forall_cons {α : Type} {p : α → Prop} {a : α} {l : List α} (h : p a) (r : ∀ x ∈ l, p x) : ∀ x ∈ a :: l, p x := fun x hx => by
  rcases List.mem_cons.mp hx with rfl | hx
  · exact h
  · exact r x hx
theorem forall_nil {α : Type} {p : α → Prop} : ∀ x ∈ ([] : List α), p x := fun _ q => nomatch q

noncomputable abbrev dStands : DefRec := dr 17 (by decide)
noncomputable def stands (rs : List Str) (w : Str) (p : Nat) : Bool := decide (p + rs.length ≤ w.length) && ((List.range rs.length).filter fun k => !(rs[k]? == some ("" : Str) || rs[k]? == signAt w (p + k))).isEmpty
theorem stands_body (C : Ctx) (K : CtxOk C) (S : Stat C (dSc dStands ["run", "word", "place"] [eLen, eRange])) (rs : List Str) (w : Str) (p : Nat) (h1 : ∀ x ∈ rs, PyData.strOk x = true) (h2 : PyData.strOk w = true) (h3 : rs.length ≤ 100000) (h4 : w.length ≤ 100000) :
    ∃ σ' sv, Exs C (st0 [.list (rs.map .str), .str w, .int p] 0) dStands.body (.ret sv) σ' ∧ sv = .v (.bool (stands rs w p)) := by
  have hL : sizeLine = 16777216 := rfl
  refine ⟨_, _, exs_stop (fun h => nomatch h) (ex_ret (ev_and (a := decide (p + rs.length ≤ w.length)) (evG S (by rfl) ?_ ?_) fun hle => ev_cmp (evc K S ["k"] [("run", 0), ("word", 1), ("place", 2)] (by rfl) rfl (fun _ q => nomatch q) (it_r1 S (n := rs.length) (by rfl) (by rfl) ?_ ?_ ?_) (fun _ => rfl)
    (block1 (List.range rs.length) (fun (i : Nat) => .int (0 + i)) (fun (i : Nat) => .int (0 + i)) (fun k => !(rs[k]? == some ("" : Str) || rs[k]? == signAt w (p + k))) fun C' hC' K' S' a ha acc => ⟨trsG S' (by rfl) ?_ ?_, fun _ => evG S' (by rfl) trivial rfl⟩) ?_) (ev_list (ps := []) evs_nil (Nat.zero_le _)) (b_eq _ _ ?_ ?_) rfl)), ?_⟩
  · simp; lia
  · simp; lia
  · simp; lia
  · simp
  · lia
  · have ha' : a < rs.length := List.mem_range.mp ha
    have hle' := of_decide_eq_true hle
    have hb : p + a < w.cps.toList.length := by rw [len_list]; lia
    have e1 : rs[a]? = some rs[a] := List.getElem?_eq_getElem ha'
    have e2 := List.getElem?_eq_getElem hb
    simp
    rw [← Int.natCast_add, idxL_strs e1, idxC_nat e2]
    refine ⟨⟨?_, ?_, ?_⟩, ⟨⟨?_, ?_, ?_⟩, ?_⟩, lay_str (h1 _ (List.getElem_mem ha')), ?_⟩
    iterate 3 (first | (simp; lia) | (rw [len_list]; lia) | lia)
    iterate 3 (first | (simp; lia) | (rw [len_list]; lia) | lia)
    · lia
    · exact layN_lay (layN_strs (l := ["", ⟨#[w.cps.toList[p + a]]⟩]) fun x hx => by
        simp only [List.mem_cons, List.not_mem_nil, or_false] at hx
        rcases hx with rfl | rfl
        · decide +kernel
        · exact strOk_sign h2 e2) (by decide)
  · have ha' : a < rs.length := List.mem_range.mp ha
    have hle' := of_decide_eq_true hle
    have hb : p + a < w.cps.toList.length := by rw [len_list]; lia
    have e1 : rs[a]? = some rs[a] := List.getElem?_eq_getElem ha'
    have e2 := List.getElem?_eq_getElem hb
    simp
    rw [← Int.natCast_add, idxL_strs e1, idxC_nat e2, any_cons, any_cons, any_nil, eqvd_str, eqvd_str, e1]
    unfold signAt
    rw [e2, Bool.or_false, beq_comm' "" _, beq_comm' _ rs[a]]
    rfl
  · simp
    refine Nat.le_trans (List.length_filter_le _ _) ?_
    rw [List.length_range]; lia
  · exact layN_lay (n := 1) (layN_list fun q hq => by
      obtain ⟨i, _, rfl⟩ := List.mem_map.mp hq
      exact layN_int _) (by decide)
  · exact layN_lay (n := 1) (layN_list fun q hq => nomatch hq) (by decide)
  · rw [eqv_nil]
    unfold stands
    simp

noncomputable def standsF : List PV → Option R := on3 asList asStr asInt fun rs w p => ⟨.bool (stands (strsP rs) w p.toNat), rs = (strsP rs).map .str ∧ 0 ≤ p ∧ (∀ x ∈ strsP rs, PyData.strOk x = true) ∧ PyData.strOk w = true ∧ (strsP rs).length ≤ 100000 ∧ w.length ≤ 100000⟩
noncomputable def eStands : Ent := ⟨"_law_stands", .d, standsF⟩
theorem ok_stands {P : Pr} (B : Base P) (n : Nat) : EntOk P (n + 1) eStands := by
  obtain ⟨hd, v, hv⟩ := B.d 17 (by decide)
  refine ⟨dStands, hd, rfl, v, hv, fun ps r h ok => ?_⟩
  obtain ⟨p'1, p'2, p'3, rs, w, p, rfl, e'1, e'2, e'3, rfl⟩ := on3_inv (show on3 asList asStr asInt _ ps = some r from h)
  obtain rfl := asList_inv e'1
  obtain rfl := asStr_inv e'2
  obtain rfl := asInt_inv e'3
  obtain ⟨k1, k2, k3, k4, k5, k6⟩ := ok
  refine def_ok dStands hd hv ["run", "word", "place"] ["run", "word", "place"] _ _ (T := [eLen, eRange]) (forall_cons (ok_len B n) (forall_cons (ok_range B n) forall_nil)) rfl rfl (by rfl) (fun pm cd doc vs hvs => ?_) (by decide +kernel) rfl rfl rfl (by decide +kernel) (by decide +kernel) fun C _ K S _ => ?_
  · obtain ⟨a, b, c, rfl⟩ := len3 hvs
    rfl
  · have := stands_body C K S (strsP rs) w p.toNat k3 k4 k5 k6
    rw [← k1, Int.toNat_of_nonneg k2] at this
    exact this
end Rt

/-! V6c -/
namespace Rt
noncomputable def eList : Ent := ⟨"list", .t "list", fun _ => none⟩
theorem ok_list {P : Pr} (B : Base P) (n : Nat) : EntOk P n eList := ⟨B.nb "list" (by simp), Boot.«list», by decide, fun _ _ h => nomatch h⟩

noncomputable abbrev dFits : DefRec := dr 19 (by decide)
noncomputable def cpAt (w : Str) (i : Nat) : Option Nat := w.cps.toList[i]?
noncomputable def fitStep (w : Str) (places : List Nat) (c : Nat) : List Nat :=
  if c = 42 then (match places with | [] => [] | p :: _ => (List.range (w.length + 1 - p)).map (p + ·))
  else (places.filter fun k => decide (k < w.length) && (c == 63 || cpAt w k == some c)).map (· + 1)
noncomputable def fits (pat w : Str) : Bool := (pat.cps.toList.foldl (fitStep w) [0]).contains w.length
noncomputable def natsP (l : List Nat) : List PV := l.map fun (i : Nat) => .int i
/-- places, as they may be -/
noncomputable def plOk (w : Str) (l : List Nat) : Prop := l.length ≤ w.length + 1 ∧ ∀ k ∈ l, k ≤ w.length
theorem fitStep_ok (w : Str) (l : List Nat) (c : Nat) (h : plOk w l) : plOk w (fitStep w l c) := by
  unfold fitStep
  split
  · cases l with
    | nil => exact ⟨Nat.zero_le _, fun _ q => nomatch q⟩
    | cons p r =>
      refine ⟨by simp, fun k hk => ?_⟩
      obtain ⟨i, hi, rfl⟩ := List.mem_map.mp hk
      have := List.mem_range.mp hi
      lia
  · refine ⟨?_, fun k hk => ?_⟩
    · rw [List.length_map]; exact Nat.le_trans (List.length_filter_le _ _) h.1
    · obtain ⟨i, hi, rfl⟩ := List.mem_map.mp hk
      have := (List.mem_filter.mp hi).2
      rw [Bool.and_eq_true] at this
      have := of_decide_eq_true this.1
      lia
noncomputable abbrev scFits : Sc := dSc dFits ["pattern", "word", "places", "sign"] [eLen, eRange, eList]
noncomputable def stFits (pat w : Str) (l : List Nat) : St := ⟨[.v (.str pat), .v (.str w), .v (.list (natsP l)), .un], []⟩
theorem fits_turn (C : Ctx) (K : CtxOk C) (S : Stat C scFits) (Sl : Slots C scFits) (pat w : Str) (h2 : PyData.strOk w = true) (h4 : w.length ≤ 100000) (l : List Nat) (hl : plOk w l) (c : Nat) (hc0 : c < 0x110000) :
    ∃ sv', Exs C ((stFits pat w l).setv 3 (.v (.str ⟨#[c]⟩))) (forB dFits.body 1) .next ((stFits pat w (fitStep w l c)).setv 3 sv') := by
  have hL : sizeLine = 16777216 := rfl
  obtain ⟨hl1, hl2⟩ := hl
  refine ⟨.v (.str ⟨#[c]⟩), exs_cons (ex_if (c := c == 42) (trG S (by rfl) ?_ ?_) (fun hc => ?_) fun hc => ?_) exs_nil⟩
  · simp
  · show ((⟨#[c]⟩ : Str) == "*") = (c == 42)
    rw [show ("*" : Str) = ⟨#[42]⟩ from by decide +kernel, sgn]
  · have hc' : c = 42 := by simpa using hc
    subst hc'
    refine exs_to (exs_cons (exA (v := .list (natsP (fitStep w l 42))) K S Sl 2 rfl rfl (ev_ifexp (c := !l.isEmpty) (trG S (by rfl) ?_ ?_) (fun hb => ev_to (ev_listr (a := (l.headD 0 : Nat)) (b := w.length + 1) S (by rfl) (by rfl) (by rfl) (by rfl) ?_ ?_ ?_ ?_ ?_ ?_) ?_) fun hb => evG S (by rfl) ?_ ?_) rfl) exs_nil) rfl
    · refine ⟨trivial, ⟨trivial, Nat.zero_le _⟩, ?_, ?_⟩
      · exact layN_lay (n := 1) (layN_list fun q hq => by
          obtain ⟨i, _, rfl⟩ := List.mem_map.mp hq
          exact layN_int _) (by decide)
      · exact layN_lay (n := 1) (layN_list fun q hq => nomatch hq) (by decide)
    · show (!eqv (.list (natsP l)) (.list [])) = _
      rw [eqv_nil]
      cases l <;> rfl
    · cases l with
      | nil => cases hb
      | cons p r => exact ⟨trivial, trivial, by refine ⟨?_, ?_, ?_⟩ <;> simp [natsP] at * <;> lia⟩
    · refine ⟨⟨⟨trivial, trivial⟩, ?_⟩, trivial, trivial⟩
      show w.length ≤ sizeLine
      lia
    · cases l with
      | nil => cases hb
      | cons p r => rfl
    · rfl
    · cases l with
      | nil => cases hb
      | cons p r =>
        have := hl2 p (.head _)
        show (p : Int).natAbs ≤ _
        lia
    · lia
    · cases l with
      | nil => cases hb
      | cons p r =>
        have := hl2 p (.head _)
        show PV.list (intsP (p : Int) ((w.length : Int) + 1 - (p : Int)).toNat) = PV.list (natsP (fitStep w (p :: r) 42))
        congr 1
        unfold fitStep natsP intsP
        rw [if_pos rfl, List.map_map]
        rw [show (((w.length : Int) + 1) - (p : Int)).toNat = w.length + 1 - p by lia]
        rfl
    · exact ⟨trivial, Nat.zero_le _⟩
    · cases l with
      | nil => rfl
      | cons p r => cases hb
  · have hc' : c ≠ 42 := by simpa using hc
    refine exs_to (exs_cons (exC K S Sl ["k"] [("sign", 3), ("word", 1)] (by rfl) rfl (fun _ q => absurd q List.not_mem_nil) (it_l S (by rfl) ?_ rfl) (fun _ => rfl)
      (block1 l (fun (i : Nat) => .int i) (fun (i : Nat) => .int (i + 1)) (fun k => decide (k < w.length) && (c == 63 || cpAt w k == some c)) fun C' hC' K' S' a ha acc => ⟨trsG S' (by rfl) ?_ ?_, fun _ => evG S' (by rfl) ?_ rfl⟩) ?_ 2 rfl rfl rfl rfl ?_) exs_nil) ?_
    · trivial
    · simp
      refine ⟨by lia, fun h => ?_⟩
      have e2 := List.getElem?_eq_getElem (show a < w.cps.toList.length by rw [len_list]; exact h)
      rw [idxC_nat e2]
      refine ⟨⟨⟨by lia, by rw [len_list]; lia, by rw [len_list]; lia⟩, by lia⟩, lay_str (strOk1 hc0), ?_⟩
      exact layN_lay (layN_strs (l := ["?", ⟨#[w.cps.toList[a]]⟩]) fun x hx => by
        simp only [List.mem_cons, List.not_mem_nil, or_false] at hx
        rcases hx with rfl | rfl
        · decide +kernel
        · exact strOk_sign h2 e2) (by decide)
    · simp
      by_cases h : a < w.length
      · have e2 := List.getElem?_eq_getElem (show a < w.cps.toList.length by rw [len_list]; exact h)
        rw [idxC_nat e2, any_cons, any_cons, any_nil, eqvd_str, eqvd_str, show ("?" : Str) = ⟨#[63]⟩ from by decide +kernel, sgn, sgn]
        unfold cpAt
        rw [e2, Bool.or_false, show (63 == c) = (c == 63) from by rw [Bool.eq_iff_iff, beq_iff_eq, beq_iff_eq]; exact ⟨Eq.symm, Eq.symm⟩]
        rfl
      · simp [h]
    · simp
    · simp
      exact Nat.le_trans (List.length_filter_le _ _) (by lia)
    · decide +kernel
    · have e : (List.map (fun (i : Nat) => PV.int (↑i + 1)) (List.filter (fun k => decide (k < w.length) && (c == 63 || cpAt w k == some c)) l)) = natsP (fitStep w l c) := by
        unfold fitStep natsP
        rw [if_neg hc', List.map_map]
        rfl
      rw [e]; rfl

theorem any_nats (l : List Nat) (n : Nat) : ((toPDs (natsP l)).any fun y => PyData.eqv y (toPD (.int n))) = l.contains n := by
  induction l with
  | nil => simp [natsP, toPDs]
  | cons a l ih =>
    show (toPDs (PV.int a :: natsP l)).any _ = _
    rw [any_cons, ih, List.contains_cons]
    congr 1
    show PyData.eqv (.int a) (.int n) = _
    simp only [PyData.eqv]
    rw [Bool.eq_iff_iff, beq_iff_eq, beq_iff_eq]
    lia
theorem lay_nats (l : List Nat) : lay (.list (natsP l)) = true := layN_lay (n := 1) (layN_list fun q hq => by
  obtain ⟨i, _, rfl⟩ := List.mem_map.mp hq
  exact layN_int _) (by decide)
theorem strOk_mem {w : Str} (h : PyData.strOk w = true) {c : Nat} (hm : c ∈ w.cps.toList) : c < 0x110000 := by
  unfold PyData.strOk at h
  rw [Array.all_eq_true'] at h
  simpa using h c (Array.mem_toList_iff.mp hm)
theorem fits_body (C : Ctx) (K : CtxOk C) (S : Stat C scFits) (Sl : Slots C scFits) (pat w : Str) (h1 : PyData.strOk pat = true) (h2 : PyData.strOk w = true) (h4 : w.length ≤ 100000) :
    ∃ σ' sv, Exs C (st0 [.str pat, .str w] 2) dFits.body (.ret sv) σ' ∧ sv = .v (.bool (fits pat w)) := by
  obtain ⟨sv', R, hI⟩ := forR_steps (C := C) (t := 3) (fun (c : Nat) => .str ⟨#[c]⟩) (stFits pat w) (fitStep w) (plOk w) pat.cps.toList [0] .un ⟨by simp, by simp⟩ fun l c hl hc =>
    ⟨fitStep_ok w l c hl, (fits_turn C K S Sl pat w h2 h4 l hl c (strOk_mem h1 hc)).imp fun _ h => .inl h⟩
  refine ⟨_, _, exs_cons (exG (v := .list (natsP [0])) K S Sl 2 rfl rfl (by rfl) (by exact ⟨⟨trivial, trivial⟩, by decide⟩) rfl rfl) (exs_cons (exFor K S Sl 3 rfl rfl (it_s S (by rfl) (by trivial) rfl) R (fun _ => rfl)) (exs_stop (fun h => nomatch h) (ex_ret (evG S (by rfl) ?_ rfl)))), ?_⟩
  · refine ⟨⟨⟨trivial, trivial⟩, ?_⟩, trivial, ?_, lay_nats _⟩
    · show w.length ≤ sizeLine
      have hL : sizeLine = 16777216 := rfl
      lia
    · exact layN_lay (layN_int _) (by decide)
  · show SV.v (.bool _) = _
    congr 2
    exact any_nats _ _
noncomputable def fitsF : List PV → Option R := on2 asStr asStr fun pat w => ⟨.bool (fits pat w), PyData.strOk pat = true ∧ PyData.strOk w = true ∧ w.length ≤ 100000⟩
noncomputable def eFits : Ent := ⟨"_law_fits", .d, fitsF⟩
theorem ok_fits {P : Pr} (B : Base P) (n : Nat) : EntOk P (n + 1) eFits := by
  obtain ⟨hd, v, hv⟩ := B.d 19 (by decide)
  refine ⟨dFits, hd, rfl, v, hv, fun ps r h ok => ?_⟩
  obtain ⟨p'1, p'2, x1, x2, rfl, e'1, e'2, rfl⟩ := on2_inv (show on2 asStr asStr _ ps = some r from h)
  obtain rfl := asStr_inv e'1
  obtain rfl := asStr_inv e'2
  obtain ⟨k1, k2, k3⟩ := ok
  refine def_ok dFits hd hv ["pattern", "word"] ["pattern", "word", "places", "sign"] _ _ (T := [eLen, eRange, eList]) (forall_cons (ok_len B n) (forall_cons (ok_range B n) (forall_cons (ok_list B n) forall_nil))) rfl rfl (by rfl) (fun pm cd doc vs hvs => ?_) (by decide +kernel) rfl rfl rfl (by decide +kernel) (by decide +kernel) fun C _ K S Sl => fits_body C K S Sl _ _ k1 k2 k3
  obtain ⟨a, b, rfl⟩ := len2 hvs
  rfl
end Rt

/-! V6d -/
namespace Rt
theorem filt_true {α : Type} (l : List α) : l.filter (fun _ => true) = l := List.filter_eq_self.mpr fun _ _ => rfl
noncomputable abbrev dNames : DefRec := dr 14 (by decide)
noncomputable def nm4 : List Str := ["a", "b", "a.b", "+"]
noncomputable def nameIx (x : Int) (k : Nat) : Nat := (((x.fdiv 9).fdiv (4 ^ k)).fmod 4).toNat
noncomputable def namesN (x : Int) : Nat := (1 + x.fmod 3).toNat
noncomputable def lawNames (x : Int) : List Str := (List.range (namesN x)).map fun k => nm4.getD (nameIx x k) ""
noncomputable abbrev scNames : Sc := dSc dNames ["x"] [eRange]
theorem mod_range (x m : Int) (hm : 0 < m) : 0 ≤ x.fmod m ∧ x.fmod m < m := by
  rw [Int.fmod_eq_emod_of_nonneg _ (by omega)]
  exact ⟨Int.emod_nonneg _ (by omega), Int.emod_lt_of_pos _ hm⟩
theorem names_body (C : Ctx) (K : CtxOk C) (S : Stat C scNames) (x : Int) :
    ∃ σ' sv, Exs C (st0 [.int x] 0) dNames.body (.ret sv) σ' ∧ sv = .v (.list ((lawNames x).map .str)) := by
  have hL : sizeLine = 16777216 := rfl
  obtain ⟨m1, m2⟩ := mod_range x 3 (by decide)
  have hn : ((namesN x : Nat) : Int) = 1 + x.fmod 3 := Int.toNat_of_nonneg (by omega)
  have hn3 : namesN x ≤ 3 := by unfold namesN; omega
  refine ⟨_, _, exs_stop (fun h => nomatch h) (ex_ret (evc K S ["k"] [("x", 0)] (by rfl) rfl (fun _ q => absurd q List.not_mem_nil) (it_r1 S (n := namesN x) (by rfl) (by rfl) ?_ ?_ ?_) (fun _ => rfl)
    (block1 (List.range (namesN x)) (fun (i : Nat) => .int (0 + i)) (fun k => .str (nm4.getD (nameIx x k) "")) (fun _ => true) fun C' hC' K' S' a ha acc => ⟨rfl, fun _ => evG S' (by rfl) ?_ ?_⟩) ?_)), ?_⟩
  · dsimp only; simp
  · dsimp only; rw [hn]
  · omega
  · have ha' : a < namesN x := List.mem_range.mp ha
    obtain ⟨q1, q2⟩ := mod_range ((x.fdiv 9).fdiv (4 ^ a)) 4 (by decide)
    have p4 : (4 : Int) ^ a = 1 ∨ (4 : Int) ^ a = 4 ∨ (4 : Int) ^ a = 16 := by
      have : a = 0 ∨ a = 1 ∨ a = 2 := by omega
      rcases this with rfl | rfl | rfl <;> simp
    dsimp only
    simp only [Int.zero_add, Int.toNat_natCast]
    refine ⟨⟨⟨trivial, trivial, trivial, trivial, trivial⟩, by decide⟩, ⟨⟨⟨trivial, trivial, by decide, by decide⟩, ⟨trivial, trivial, by omega, by omega, by decide⟩, ?_, ?_⟩, trivial, by decide⟩, ?_, ?_, ?_⟩
    · rcases p4 with e | e | e <;> rw [e] <;> decide
    · rcases p4 with e | e | e <;> rw [e] <;> decide
    · show -(4 : Int) ≤ _; omega
    · show _ < (4 : Int); omega
    · decide
  · dsimp only
    simp only [Int.zero_add, Int.toNat_natCast]
    obtain ⟨q1, q2⟩ := mod_range ((x.fdiv 9).fdiv (4 ^ a)) 4 (by decide)
    have e : (((x.fdiv 9).fdiv (4 ^ a)).fmod 4) = (nameIx x a : Int) := (Int.toNat_of_nonneg q1).symm
    have hlt : nameIx x a < 4 := by unfold nameIx; omega
    rw [e]
    exact idxL_strs (l := nm4) (by
      generalize nameIx x a = j at hlt
      match j, hlt with
      | 0, _ => rfl
      | 1, _ => rfl
      | 2, _ => rfl
      | 3, _ => rfl)
  · rw [List.length_map, filt_true, List.length_range]; omega
  · unfold lawNames
    rw [filt_true, List.map_map]
    rfl
noncomputable def namesF : List PV → Option R := on1 asInt fun x => ⟨.list ((lawNames x).map .str), True⟩
noncomputable def eNames : Ent := ⟨"_law_names", .d, namesF⟩
theorem ok_names {P : Pr} (B : Base P) (n : Nat) : EntOk P (n + 1) eNames := by
  obtain ⟨hd, v, hv⟩ := B.d 14 (by decide)
  refine ⟨dNames, hd, rfl, v, hv, fun ps r h ok => ?_⟩
  obtain ⟨p'1, x1, rfl, e'1, rfl⟩ := on1_inv (show on1 asInt _ ps = some r from h)
  obtain rfl := asInt_inv e'1
  refine def_ok dNames hd hv ["x"] ["x"] _ _ (T := [eRange]) (forall_cons (ok_range B n) forall_nil) rfl rfl (by rfl) (fun pm cd doc vs hvs => ?_) (by decide +kernel) rfl rfl rfl (by decide +kernel) (by decide +kernel) fun C _ K S Sl => names_body C K S _
  obtain ⟨a, rfl⟩ := len1 hvs
  rfl
end Rt

/-! V6e -/
namespace Rt
noncomputable abbrev dTakes : DefRec := dr 18 (by decide)
noncomputable def firstsAt (r : List Str) (w : Str) (p : Nat) : List Nat := (List.range (w.length + 1 - p)).filter fun i => stands r w (p + i)
noncomputable def takesGo (w : Str) : List (List Str) → Nat → Option Nat
  | [], p => some p
  | r :: rs, p => match firstsAt r w p with
    | [] => none
    | i :: _ => takesGo w rs (p + i + r.length)
noncomputable def takes : Option (List (List Str) × Str) → Str → Bool
  | none, _ => false
  | some (rs, st), w => match rs with
    | [] => false
    | r0 :: _ => stands r0 w 0 && (match takesGo w ((rs.drop 1).take (rs.length - 2)) r0.length with
      | none => false
      | some p => if st == "front" then p == w.length else
        let l := rs.getLastD []
        decide (p + l.length ≤ w.length) && stands l w (w.length - l.length))
noncomputable def runP (r : List Str) : PV := .list (r.map .str)
noncomputable def readP : Option (List (List Str) × Str) → PV
  | none => .none
  | some (rs, st) => .list [.list (rs.map runP), .str st]
noncomputable abbrev scTakes : Sc := dSc dTakes ["read", "word", "place", "run", "firsts", "behind"] [eLen, eRange, eStands]
noncomputable def stTakes (rd : PV) (w : Str) (p : Nat) (f : SV) : St := ⟨[.v rd, .v (.str w), .v (.int p), .un, f, .un], []⟩
/-- runs, as they may be -/
noncomputable def runOk (r : List Str) : Prop := (∀ x ∈ r, PyData.strOk x = true) ∧ r.length ≤ 1000
theorem strsP_run (r : List Str) : strsP (r.map .str) = r := strsP_map r
theorem takes_firsts (C : Ctx) (K : CtxOk C) (S : Stat C scTakes) (Sl : Slots C scTakes) (rd : PV) (w : Str) (h2 : PyData.strOk w = true) (h4 : w.length ≤ 10000) (r : List Str) (hr : runOk r) (p : Nat) (hp : p ≤ w.length) (f : SV) :
    Ex C ((stTakes rd w p f).setv 3 (.v (runP r))) (stB (forB dTakes.body 2) 0) .next (((stTakes rd w p f).setv 3 (.v (runP r))).setv 4 (.v (.list ((firstsAt r w p).map fun (i : Nat) => .int (p + i))))) := by
  have hL : sizeLine = 16777216 := rfl
  have hn : (((w.length : Int) + 1 - p).toNat) = w.length + 1 - p := by omega
  refine exC K S Sl ["k"] [("run", 3), ("word", 1)] (by rfl) rfl (fun _ q => absurd q List.not_mem_nil) (it_r2 S (a := p) (b := w.length + 1) (by rfl) (by rfl) (by rfl) ?_ ?_ ?_ ?_ ?_ ?_) (fun _ => rfl)
      (show BlockG _ _ _ _ _ _ _ _ _ _ _ (.map _ (firstsAt r w p)) from by
        unfold firstsAt intsP
        rw [hn]
        exact block1 (List.range (w.length + 1 - p)) (fun (i : Nat) => .int (p + i)) (fun (i : Nat) => .int (p + i)) (fun i => stands r w (p + i)) fun C' hC' K' S' a ha acc => ⟨trsG S' (by rfl) (by
          simp only [strsP_run, and_true, true_and]
          exact ⟨by omega, hr.1, h2, Nat.le_trans hr.2 (by decide), by omega⟩) (by
          simp only [strsP_run]
          rw [← Int.natCast_add, Int.toNat_natCast]), fun _ => evG S' (by rfl) (by simp) rfl⟩) ?_ 4 rfl rfl rfl rfl ?_
  · trivial
  · exact ⟨⟨⟨trivial, trivial⟩, by show w.length ≤ sizeLine; omega⟩, trivial, trivial⟩
  · rfl
  · rfl
  · omega
  · omega
  · rw [List.length_map]
    refine Nat.le_trans (List.length_filter_le _ _) ?_
    rw [List.length_range]; omega
  · decide +kernel
theorem lay_firsts (p : Nat) (l : List Nat) : lay (.list (l.map fun (i : Nat) => .int ((p : Int) + i))) = true := layN_lay (n := 1) (layN_list fun q hq => by
  obtain ⟨i, _, rfl⟩ := List.mem_map.mp hq
  exact layN_int _) (by decide)
theorem lay_nil : lay (.list []) = true := layN_lay (n := 1) (layN_list fun q hq => nomatch hq) (by decide)
theorem firsts_lt {r : List Str} {w : Str} {p i : Nat} {l : List Nat} (h : firstsAt r w p = i :: l) : p + i + r.length ≤ w.length := by
  have : i ∈ firstsAt r w p := by rw [h]; exact .head _
  have := (List.mem_filter.mp this).2
  unfold stands at this
  rw [Bool.and_eq_true] at this
  exact of_decide_eq_true this.1
theorem takes_turn (C : Ctx) (K : CtxOk C) (S : Stat C scTakes) (Sl : Slots C scTakes) (rd : PV) (w : Str) (h2 : PyData.strOk w = true) (h4 : w.length ≤ 10000) (r : List Str) (hr : runOk r) (p : Nat) (hp : p ≤ w.length) (f : SV) :
    (firstsAt r w p = [] → ∃ σ', Exs C ((stTakes rd w p f).setv 3 (.v (runP r))) (forB dTakes.body 2) (.ret (.v (.bool false))) σ') ∧
    (∀ i l, firstsAt r w p = i :: l → ∃ f', Exs C ((stTakes rd w p f).setv 3 (.v (runP r))) (forB dTakes.body 2) .next ((stTakes rd w (p + i + r.length) f').setv 3 (.v (runP r)))) := by
  have hL : sizeLine = 16777216 := rfl
  have h1 := takes_firsts C K S Sl rd w h2 h4 r hr p hp f
  constructor
  · intro e
    rw [e] at h1
    exact ⟨_, exs_cons h1 (exs_stop (fun h => nomatch h) (ex_if (c := true) (trG S (by rfl) (by exact ⟨trivial, ⟨trivial, Nat.zero_le _⟩, lay_nil, lay_nil⟩) (by exact eqv_nil _)) (fun _ => exs_stop (fun h => nomatch h) (ex_ret (evG S (by rfl) (by trivial) rfl))) fun h => nomatch h))⟩
  · intro i l e
    have hlt := firsts_lt e
    rw [e] at h1
    refine ⟨_, exs_to (exs_cons h1 (exs_cons (ex_if (c := false) (trG S (by rfl) (by exact ⟨trivial, ⟨trivial, Nat.zero_le _⟩, lay_firsts p (i :: l), lay_nil⟩) (by exact eqv_nil _)) (fun h => nomatch h) fun _ => exs_nil)
      (exs_cons (exG (v := .int (p + i + r.length : Nat)) K S Sl 2 rfl rfl (by rfl) ?_ ?_ rfl) exs_nil))) rfl⟩
    · have hlen : (i :: l).length ≤ w.length + 1 := by
        rw [← e]
        refine Nat.le_trans (List.length_filter_le _ _) ?_
        rw [List.length_range]; omega
      refine ⟨⟨trivial, trivial, ⟨?_, ?_, ?_⟩⟩, ⟨⟨trivial, trivial⟩, ?_⟩, trivial⟩
      · rw [List.length_map]; omega
      · rw [List.length_map, List.length_cons]; omega
      · rw [List.length_map]; omega
      · show (r.map PV.str).length ≤ sizeLine
        rw [List.length_map]; have := hr.2; omega
    · show PV.int ((p : Int) + (i : Int) + ((r.map PV.str).length : Int)) = _
      rw [List.length_map]
      congr 1
theorem takes_loop (C : Ctx) (K : CtxOk C) (S : Stat C scTakes) (Sl : Slots C scTakes) (rd : PV) (w : Str) (h2 : PyData.strOk w = true) (h4 : w.length ≤ 10000) : ∀ (rs : List (List Str)), (∀ r ∈ rs, runOk r) → ∀ (p : Nat), p ≤ w.length → ∀ (f sv : SV),
    (takesGo w rs p = none → ∃ σ', ForR C 3 (forB dTakes.body 2) (rs.map runP) ((stTakes rd w p f).setv 3 sv) (.ret (.v (.bool false))) σ') ∧
    (∀ q, takesGo w rs p = some q → q ≤ w.length ∧ ∃ f' sv', ForR C 3 (forB dTakes.body 2) (rs.map runP) ((stTakes rd w p f).setv 3 sv) .next ((stTakes rd w q f').setv 3 sv'))
  | [], _, p, hp, f, sv => by
    refine ⟨fun h => (nomatch h), fun q h => ?_⟩
    cases h; exact ⟨hp, f, sv, .done⟩
  | r :: rs, hr, p, hp, f, sv => by
    obtain ⟨t1, t2⟩ := takes_turn C K S Sl rd w h2 h4 r (hr r (.head _)) p hp f
    cases e : firstsAt r w p with
    | nil =>
      refine ⟨fun _ => ?_, fun q h => ?_⟩
      · obtain ⟨σ', h⟩ := t1 e
        exact ⟨σ', .ret (by rw [setv_setv]; exact h)⟩
      · rw [takesGo, e] at h; cases h
    | cons i l =>
      obtain ⟨f', h⟩ := t2 i l e
      have hlt := firsts_lt e
      obtain ⟨l1, l2⟩ := takes_loop C K S Sl rd w h2 h4 rs (fun r hr' => hr r (.tail _ hr')) (p + i + r.length) hlt f' (.v (runP r))
      refine ⟨fun hq => ?_, fun q hq => ?_⟩
      · rw [takesGo, e] at hq
        obtain ⟨σ', R⟩ := l1 hq
        exact ⟨σ', .next (by rw [setv_setv]; exact h) R⟩
      · rw [takesGo, e] at hq
        obtain ⟨hle, f2, sv2, R⟩ := l2 q hq
        exact ⟨hle, f2, sv2, .next (by rw [setv_setv]; exact h) R⟩
noncomputable def readOk : Option (List (List Str) × Str) → Prop
  | none => True
  | some (rs, st) => rs ≠ [] ∧ rs.length ≤ 1000 ∧ (∀ r ∈ rs, runOk r)
theorem takes_body (C : Ctx) (K : CtxOk C) (S : Stat C scTakes) (Sl : Slots C scTakes) (rd : Option (List (List Str) × Str)) (hrd : readOk rd) (w : Str) (h2 : PyData.strOk w = true) (h4 : w.length ≤ 10000) :
    ∃ σ' sv, Exs C (st0 [readP rd, .str w] 4) dTakes.body (.ret sv) σ' ∧ sv = .v (.bool (takes rd w)) := by
  have hL : sizeLine = 16777216 := rfl
  match rd, hrd with
  | none, _ =>
    exact ⟨_, _, exs_stop (fun h => nomatch h) (ex_if (c := true) (tr_or (a := true) (b := false) (trG S (by rfl) (by exact ⟨trivial, trivial, trivial⟩) (by rfl)) fun h => nomatch h) (fun _ => exs_stop (fun h => nomatch h) (ex_ret (evG S (by rfl) (by trivial) rfl))) fun h => nomatch h), rfl⟩
  | some (r0 :: rs, st), ⟨_, hlen, hrs⟩ =>
    have ix0 : idxOk (List.map runP (r0 :: rs)) 0 := ⟨by rw [List.length_map]; omega, by rw [List.length_map, List.length_cons]; omega, by rw [List.length_map]; omega⟩
    have ixm : idxOk (List.map runP (r0 :: rs)) (-1) := ⟨by rw [List.length_map, List.length_cons]; omega, by rw [List.length_map, List.length_cons]; omega, by rw [List.length_map]; omega⟩
    have jx0 : idxOk [PV.list (List.map runP (r0 :: rs)), PV.str st] 0 := ⟨by show -(2 : Int) ≤ 0; decide, by show (0 : Int) < 2; decide, by show 2 ≤ sizeLine; decide⟩
    have jx1 : idxOk [PV.list (List.map runP (r0 :: rs)), PV.str st] 1 := ⟨by show -(2 : Int) ≤ 1; decide, by show (1 : Int) < 2; decide, by show 2 ≤ sizeLine; decide⟩
    have r0k := hrs r0 (.head _)
    have t1 : Tr C (st0 [readP (some (r0 :: rs, st)), .str w] 4) (match stB dTakes.body 0 with | .If t _ _ _ => t | _ => .Constant .none 0 ⟨0, 0, 0, 0⟩) (!stands r0 w 0) := by
      refine tr_or (a := false) (trG S (by rfl) (by exact ⟨trivial, trivial, trivial⟩) (by rfl)) fun _ => trG S (by rfl) ?_ ?_
      · refine ⟨⟨⟨⟨⟨trivial, trivial, jx0⟩, trivial, ix0⟩, trivial, trivial, trivial⟩, ?_⟩, trivial⟩
        simp only [strsP_run]
        exact ⟨trivial, by decide, r0k.1, h2, Nat.le_trans r0k.2 (by decide), by omega⟩
      · simp only [strsP_run]
        show (!stands r0 w 0) = _
        cases stands r0 w 0 <;> rfl
    cases hs : stands r0 w 0 with
    | false =>
      rw [hs] at t1
      refine ⟨_, _, exs_stop (fun h => nomatch h) (ex_if (c := true) t1 (fun _ => exs_stop (fun h => nomatch h) (ex_ret (evG S (by rfl) (by trivial) rfl))) fun h => nomatch h), ?_⟩
      show SV.v (.bool false) = SV.v (.bool (stands r0 w 0 && _))
      rw [hs]; rfl
    | true =>
      rw [hs] at t1
      have hle0 : r0.length ≤ w.length := by
        have := hs
        unfold stands at this
        rw [Bool.and_eq_true] at this
        have := of_decide_eq_true this.1
        omega
      obtain ⟨l, hl⟩ : ∃ l, (r0 :: rs).getLast? = some l := ⟨_, List.getLast?_eq_some_getLast (by simp)⟩
      have hlm : l ∈ r0 :: rs := List.mem_of_getLast? hl
      have lk := hrs l hlm
      have hlp : (List.map runP (r0 :: rs)).getLast? = some (runP l) := by rw [List.getLast?_map, hl]; rfl
      have hmid : ∀ r ∈ ((r0 :: rs).drop 1).take ((r0 :: rs).length - 2), runOk r := fun r hr => hrs r (List.mem_of_mem_drop (List.mem_of_mem_take hr))
      obtain ⟨l1, l2⟩ := takes_loop C K S Sl (readP (some (r0 :: rs, st))) w h2 h4 (((r0 :: rs).drop 1).take ((r0 :: rs).length - 2)) hmid r0.length hle0 .un .un
      have hgl : (r0 :: rs).getLastD [] = l := by rw [List.getLastD_eq_getLast?, hl]; rfl
      have s1 : Ex C (st0 [readP (some (r0 :: rs, st)), .str w] 4) (stB dTakes.body 0) .next (st0 [readP (some (r0 :: rs, st)), .str w] 4) := ex_if (c := false) t1 (fun h => nomatch h) fun _ => exs_nil
      have s2 : Ex C (st0 [readP (some (r0 :: rs, st)), .str w] 4) (stB dTakes.body 1) .next ((st0 [readP (some (r0 :: rs, st)), .str w] 4).setv 2 (.v (.int r0.length))) := exG K S Sl 2 rfl rfl (by rfl) (by
        refine ⟨⟨⟨⟨trivial, trivial, jx0⟩, trivial, ix0⟩, trivial⟩, ?_⟩
        show (List.map PV.str r0).length ≤ sizeLine
        rw [List.length_map]; have := r0k.2; omega) (by
        show PV.int ((List.map PV.str r0).length : Int) = _
        rw [List.length_map]) rfl
      have i3 : ItR C (stTakes (readP (some (r0 :: rs, st))) w r0.length .un) (match stB dTakes.body 2 with | .For _ it _ _ _ => it | _ => .Constant .none 0 ⟨0, 0, 0, 0⟩) ((((r0 :: rs).drop 1).take ((r0 :: rs).length - 2)).map runP) := it_l S (by rfl) (by
        refine ⟨⟨trivial, trivial, jx0⟩, trivial, trivial, ?_⟩
        show (List.map runP (r0 :: rs)).length ≤ sizeLine
        rw [List.length_map]; omega) (by
        show PV.list (pickL (List.map runP (r0 :: rs)) (some 1) (some (-1))) = _
        rw [pick_map, pick_mid])
      cases hg : takesGo w (((r0 :: rs).drop 1).take ((r0 :: rs).length - 2)) r0.length with
      | none =>
        obtain ⟨σ', R⟩ := l1 hg
        refine ⟨_, _, exs_cons s1 (exs_cons s2 (exs_stop (fun h => nomatch h) (exFor K S Sl 3 rfl rfl i3 R (fun _ => rfl)))), ?_⟩
        show SV.v (.bool false) = SV.v (.bool (stands r0 w 0 && (match takesGo w (((r0 :: rs).drop 1).take ((r0 :: rs).length - 2)) r0.length with | none => false | some p => _)))
        rw [hg, hs]; rfl
      | some q =>
        obtain ⟨hq, f', sv', R⟩ := l2 q hg
        have s3 : Ex C (stTakes (readP (some (r0 :: rs, st))) w r0.length .un) (stB dTakes.body 2) .next ((stTakes (readP (some (r0 :: rs, st))) w q f').setv 3 sv') := exFor K S Sl 3 rfl rfl i3 R (fun _ => rfl)
        have t4 : Tr C ((stTakes (readP (some (r0 :: rs, st))) w q f').setv 3 sv') (match stB dTakes.body 3 with | .If t _ _ _ => t | _ => .Constant .none 0 ⟨0, 0, 0, 0⟩) (st == "front") := trG S (by rfl) (by exact ⟨⟨trivial, trivial, jx1⟩, trivial, trivial⟩) (by rfl)
        cases hst : st == "front" with
        | true =>
          rw [hst] at t4
          refine ⟨_, _, exs_cons s1 (exs_cons s2 (exs_cons s3 (exs_stop (fun h => nomatch h) (ex_if (c := true) t4 (fun _ => exs_stop (fun h => nomatch h) (ex_ret (evG S (by rfl) ?_ rfl))) fun h => nomatch h)))), ?_⟩
          · exact ⟨trivial, ⟨⟨trivial, trivial⟩, by show w.length ≤ sizeLine; omega⟩, trivial⟩
          · show SV.v (.bool ((q : Int) == (w.length : Int))) = SV.v (.bool (stands r0 w 0 && (match takesGo w (((r0 :: rs).drop 1).take ((r0 :: rs).length - 2)) r0.length with | none => false | some p => if st == "front" then p == w.length else _)))
            rw [hg, hs]
            show _ = SV.v (.bool (true && (if st == "front" then q == w.length else _)))
            rw [if_pos hst, Bool.true_and]
            congr 2
            rw [Bool.eq_iff_iff, beq_iff_eq, beq_iff_eq]; omega
        | false =>
          rw [hst] at t4
          have s4 : Ex C ((stTakes (readP (some (r0 :: rs, st))) w q f').setv 3 sv') (stB dTakes.body 3) .next ((stTakes (readP (some (r0 :: rs, st))) w q f').setv 3 sv') := ex_if (c := false) t4 (fun h => nomatch h) fun _ => exs_nil
          have s5 : Ex C ((stTakes (readP (some (r0 :: rs, st))) w q f').setv 3 sv') (stB dTakes.body 4) .next (((stTakes (readP (some (r0 :: rs, st))) w q f').setv 3 sv').setv 5 (.v (.int ((w.length : Int) - l.length)))) := exA K S Sl 5 rfl rfl (ev_binop (evG S (v := .int w.length) (by rfl) (by
              refine ⟨⟨trivial, trivial⟩, ?_⟩
              show w.length ≤ sizeLine; omega) rfl) (evCall S (vs := [runP l]) (v := .int l.length) (evs_cons (evG S (by rfl) (by exact ⟨⟨trivial, trivial, jx0⟩, trivial, ixm⟩) (idxL_last hlp)) evs_nil rfl) rfl (by decide +kernel) rfl (by rfl) (by rfl) (by
                show (l.map PV.str).length ≤ sizeLine
                rw [List.length_map]; have := lk.2; omega) (by
                show PV.int ((l.map PV.str).length : Int) = _
                rw [List.length_map])) (b_sub _ _)) rfl
          have v1 : Ev C (((stTakes (readP (some (r0 :: rs, st))) w q f').setv 3 sv').setv 5 (.v (.int ((w.length : Int) - l.length)))) (match stB dTakes.body 5 with | .Return (some e) _ => e | _ => .Constant .none 0 ⟨0, 0, 0, 0⟩) (.v (.bool (decide (q + l.length ≤ w.length) && stands l w (w.length - l.length)))) := by
            refine ev_and (evG S (by rfl) (by exact ⟨trivial, trivial, trivial⟩) ?_) fun hle => evCall S (vs := [runP l, .str w, .int ((w.length : Int) - l.length)]) (evs_cons (evG S (by rfl) (by exact ⟨⟨trivial, trivial, jx0⟩, trivial, ixm⟩) (idxL_last hlp)) (evs_cons (evG S (by rfl) (by trivial) rfl) (evs_cons (evG S (by rfl) (by trivial) rfl) evs_nil rfl) rfl) rfl) rfl (by decide +kernel) rfl (by rfl) (by rfl) ?_ ?_
            · show PV.bool (decide ((q : Int) ≤ (w.length : Int) - l.length)) = _
              congr 1
              rw [decide_eq_decide]; omega
            · have hle := of_decide_eq_true hle
              simp only [strsP_run]
              exact ⟨trivial, by omega, lk.1, h2, Nat.le_trans lk.2 (by decide), by omega⟩
            · have hle := of_decide_eq_true hle
              show PV.bool (stands (strsP (l.map PV.str)) w ((w.length : Int) - l.length).toNat) = _
              rw [strsP_run, show ((w.length : Int) - l.length).toNat = w.length - l.length by omega]
          refine ⟨_, _, exs_cons s1 (exs_cons s2 (exs_cons s3 (exs_cons s4 (exs_cons s5 (exs_stop (fun h => nomatch h) (ex_ret v1)))))), ?_⟩
          show _ = SV.v (.bool (stands r0 w 0 && (match takesGo w (((r0 :: rs).drop 1).take ((r0 :: rs).length - 2)) r0.length with | none => false | some p => if st == "front" then p == w.length else (decide (p + ((r0 :: rs).getLastD []).length ≤ w.length) && stands ((r0 :: rs).getLastD []) w (w.length - ((r0 :: rs).getLastD []).length)))))
          rw [hg, hs, hgl]
          show _ = SV.v (.bool (true && (if st == "front" then q == w.length else _)))
          rw [if_neg (by rw [hst]; decide), Bool.true_and]
noncomputable def readV : PV → Option (Option (List (List Str) × Str))
  | .none => some none
  | .list [.list rs, .str st] => some (some (rs.map (fun p => match p with | .list r => strsP r | _ => []), st))
  | _ => none
theorem readV_P (rd : Option (List (List Str) × Str)) : readV (readP rd) = some rd := by
  cases rd with
  | none => rfl
  | some p =>
    obtain ⟨rs, st⟩ := p
    show some (some ((rs.map runP).map _, st)) = _
    rw [List.map_map]
    congr 3
    conv => rhs; rw [← List.map_id rs]
    exact List.map_congr_left fun r _ => strsP_map r
noncomputable def takesF : List PV → Option R
  | [p, .str w] => match readV p with
    | some rd => some ⟨.bool (takes rd w), p = readP rd ∧ readOk rd ∧ PyData.strOk w = true ∧ w.length ≤ 10000⟩
    | none => none
  | _ => none
noncomputable def eTakes : Ent := ⟨"_law_takes", .d, takesF⟩
theorem ok_takes {P : Pr} (B : Base P) (n : Nat) : EntOk P (n + 2) eTakes := by
  obtain ⟨hd, v, hv⟩ := B.d 18 (by decide)
  refine ⟨dTakes, hd, rfl, v, hv, fun ps r h ok => ?_⟩
  change takesF ps = some r at h
  unfold takesF at h
  split at h
  · split at h <;> cases h
    rename_i p w _ rd _
    obtain ⟨rfl, k2, k3, k4⟩ := ok
    refine def_ok dTakes hd hv ["read", "word"] ["read", "word", "place", "run", "firsts", "behind"] _ _ (T := [eLen, eRange, eStands]) (forall_cons (ok_len B (n + 1)) (forall_cons (ok_range B (n + 1)) (forall_cons (ok_stands B n) forall_nil))) rfl rfl (by rfl) (fun pm cd doc vs hvs => ?_) (by decide +kernel) rfl rfl rfl (by decide +kernel) (by decide +kernel) fun C _ K S Sl => takes_body C K S Sl rd k2 w k3 k4
    obtain ⟨a, b, rfl⟩ := len2 hvs
    rfl
  · cases h
end Rt

/-! V6f -/
namespace Rt
noncomputable def isiF : List PV → Option R
  | [.str _, .atom (.type t)] => if t = "bytes" then some ⟨.bool false, True⟩ else if t = "str" then some ⟨.bool true, True⟩ else none
  | _ => none
noncomputable def typeF : List PV → Option R := on1 asStr fun _ => ⟨.atom (.type "str"), True⟩
noncomputable def tyV : Value → Option String
  | .type a => some a
  | _ => none
theorem tyV_inv {v : Value} {a : String} (h : tyV v = some a) : v = .type a := by cases v <;> first | exact congrArg Value.type (Option.some.inj h) | cases h
noncomputable def asTyp (p : PV) : Option String := (asAtom p).bind tyV
theorem asTyp_inv {p : PV} {a : String} (h : asTyp p = some a) : p = .atom (.type a) := by
  obtain ⟨v, h1, h2⟩ := Option.bind_eq_some_iff.mp h
  rw [asAtom_inv h1, tyV_inv h2]
noncomputable def asTy2 (p : PV) : Option (String × String) := (asTup p).bind fun l => match l with
  | a :: r => on (asTyp a) ((one r).bind asTyp) fun x y => some (x, y)
  | [] => none
theorem asTy2_inv {p : PV} {q : String × String} (h : asTy2 p = some q) : p = .tup [.atom (.type q.1), .atom (.type q.2)] := by
  obtain ⟨l, h1, h2⟩ := Option.bind_eq_some_iff.mp h
  rw [asTup_inv h1]
  cases l with
  | nil => cases h2
  | cons a r =>
    obtain ⟨x, y, h3, h4, h5⟩ := on_inv h2
    obtain ⟨b, h6, h7⟩ := Option.bind_eq_some_iff.mp h4
    obtain rfl := Option.some.inj h5
    rw [asTyp_inv h3, one_inv h6, asTyp_inv h7]
noncomputable def issubF : List PV → Option R := on2 asTyp asTy2 fun a q => ⟨.bool true, a = "str" ∧ q = ("str", "bytes")⟩
noncomputable def eIsi : Ent := ⟨"isinstance", .b "isinstance", isiF⟩
noncomputable def eType : Ent := ⟨"type", .t "type", typeF⟩
noncomputable def eIssub : Ent := ⟨"issubclass", .b "issubclass", issubF⟩
noncomputable def eStr : Ent := ⟨"str", .t "str", fun _ => none⟩
noncomputable def eBytes : Ent := ⟨"bytes", .t "bytes", fun _ => none⟩
theorem c_isi_bytes {P : Pr} {n : Nat} (x : Str) : CallR P n (.builtin "isinstance") [.str x, .atom (.type "bytes")] (.bool false) := by
  intro A av s vs Q E _ _ _ w k
  cases w with
  | cons w w0 =>
  cases w0 with
  | cons w1 w0 =>
  cases w0; cases w; cases w1
  exact PySem.IsiPair.str_bytes (k _ s.heap _ (stays_refl _) (.bool _))
theorem c_isi_str {P : Pr} {n : Nat} (x : Str) : CallR P n (.builtin "isinstance") [.str x, .atom (.type "str")] (.bool true) := by
  intro A av s vs Q E _ _ _ w k
  cases w with
  | cons w w0 =>
  cases w0 with
  | cons w1 w0 =>
  cases w0; cases w; cases w1
  exact PySem.IsiPair.str_str (k _ s.heap s.toks (stays_refl _) (.bool _))
theorem ok_isi {P : Pr} (B : Base P) (n : Nat) : EntOk P n eIsi := by
  refine ⟨B.nb "isinstance" (by simp), Boot.«isinstance», by decide, fun ps r h _ => ?_⟩
  change isiF ps = some r at h
  unfold isiF at h
  split at h
  · split at h
    · rename_i e; subst e; cases h; exact c_isi_bytes _
    · split at h
      · rename_i e; subst e; cases h; exact c_isi_str _
      · cases h
  · cases h
theorem ok_type {P : Pr} (B : Base P) (n : Nat) : EntOk P n eType := by
  refine ⟨B.nb "type" (by simp), Boot.«type», by decide, fun ps r h _ => ?_⟩
  obtain ⟨p'1, x1, rfl, e'1, rfl⟩ := on1_inv (show on1 asStr _ ps = some r from h)
  obtain rfl := asStr_inv e'1
  exact c_type_str _
theorem ok_issub {P : Pr} (B : Base P) (n : Nat) : EntOk P n eIssub := by
  refine ⟨B.nb "issubclass" (by simp), Boot.«issubclass», by decide, fun ps r h k => ?_⟩
  obtain ⟨p, q, x, y, rfl, h1, h2, rfl⟩ := on2_inv (show on2 asTyp asTy2 _ ps = some r from h)
  obtain ⟨rfl, rfl⟩ := k
  rw [asTyp_inv h1, asTy2_inv h2]
  exact c_issub
theorem ok_str {P : Pr} (B : Base P) (n : Nat) : EntOk P n eStr := ⟨B.nb "str" (by simp), Boot.«str», by decide, fun _ _ h => nomatch h⟩
theorem ok_bytes {P : Pr} (B : Base P) (n : Nat) : EntOk P n eBytes := ⟨B.nb "bytes" (by simp), Boot.«bytes», by decide, fun _ _ h => nomatch h⟩

noncomputable abbrev dFspath : DefRec := dr 8 (by decide)
noncomputable abbrev scFspath : Sc := dSc dFspath ["path", "kind", "hook", "given"] [eType, eIssub, eStr, eBytes]
theorem fspath_body (C : Ctx) (K : CtxOk C) (S : Stat C scFspath) (Sl : Slots C scFspath) (x : Str) :
    ∃ σ' sv, Exs C (st0 [.str x] 3) dFspath.body (.ret sv) σ' ∧ sv = .v (.str x) :=
  ⟨_, _, exs_cons (exG (v := .atom (.type "str")) K S Sl 1 rfl rfl (by rfl) (by exact ⟨⟨trivial, trivial⟩, trivial⟩) (by rfl) rfl) (exs_stop (fun h => nomatch h) (ex_if (c := true) (trG S (by rfl) (by exact ⟨⟨⟨trivial, ⟨⟨trivial, trivial, trivial⟩, by decide⟩, trivial⟩, rfl, rfl⟩, trivial⟩) (by rfl)) (fun _ => exs_stop (fun h => nomatch h) (ex_ret (evG S (by rfl) (by trivial) rfl))) fun h => nomatch h)), rfl⟩
noncomputable def fspathF : List PV → Option R := on1 asStr fun x => ⟨.str x, True⟩
noncomputable def eFspath : Ent := ⟨"fspath", .d, fspathF⟩
theorem ok_fspath {P : Pr} (B : Base P) (n : Nat) : EntOk P (n + 1) eFspath := by
  obtain ⟨hd, v, hv⟩ := B.d 8 (by decide)
  refine ⟨dFspath, hd, rfl, v, hv, fun ps r h ok => ?_⟩
  obtain ⟨p'1, x1, rfl, e'1, rfl⟩ := on1_inv (show on1 asStr _ ps = some r from h)
  obtain rfl := asStr_inv e'1
  refine def_ok dFspath hd hv ["path"] ["path", "kind", "hook", "given"] _ _ (T := [eType, eIssub, eStr, eBytes]) (forall_cons (ok_type B n) (forall_cons (ok_issub B n) (forall_cons (ok_str B n) (forall_cons (ok_bytes B n) forall_nil)))) rfl rfl (by rfl) (fun pm cd doc vs hvs => ?_) (by decide +kernel) rfl rfl rfl (by decide +kernel) (by decide +kernel) fun C _ K S Sl => fspath_body C K S Sl _
  obtain ⟨a, rfl⟩ := len1 hvs
  rfl

noncomputable abbrev dSep : DefRec := dr 10 (by decide)
noncomputable abbrev scSep : Sc := dSc dSep ["path"] [eIsi, eBytes]
theorem sep_body (C : Ctx) (S : Stat C scSep) (x : Str) :
    ∃ σ' sv, Exs C (st0 [.str x] 0) dSep.body (.ret sv) σ' ∧ sv = .v (.str "/") :=
  ⟨_, _, exs_stop (fun h => nomatch h) (ex_if (c := false) (trG S (by rfl) (by exact ⟨⟨⟨trivial, trivial, trivial⟩, trivial⟩, trivial⟩) (by rfl)) (fun h => nomatch h) fun _ => exs_stop (fun h => nomatch h) (ex_ret (evG S (by rfl) (by trivial) rfl))), rfl⟩
noncomputable def sepF : List PV → Option R := on1 asStr fun _ => ⟨.str "/", True⟩
noncomputable def eSep : Ent := ⟨"_get_sep", .d, sepF⟩
theorem ok_sep {P : Pr} (B : Base P) (n : Nat) : EntOk P (n + 1) eSep := by
  obtain ⟨hd, v, hv⟩ := B.d 10 (by decide)
  refine ⟨dSep, hd, rfl, v, hv, fun ps r h ok => ?_⟩
  obtain ⟨p'1, x1, rfl, e'1, rfl⟩ := on1_inv (show on1 asStr _ ps = some r from h)
  obtain rfl := asStr_inv e'1
  refine def_ok dSep hd hv ["path"] ["path"] _ _ (T := [eIsi, eBytes]) (forall_cons (ok_isi B n) (forall_cons (ok_bytes B n) forall_nil)) rfl rfl (by rfl) (fun pm cd doc vs hvs => ?_) (by decide +kernel) rfl rfl rfl (by decide +kernel) (by decide +kernel) fun C _ K S Sl => sep_body C S _
  obtain ⟨a, rfl⟩ := len1 hvs
  rfl

noncomputable abbrev dRoot : DefRec := dr 12 (by decide)
noncomputable abbrev scRoot : Sc := dSc dRoot ["p", "sep", "empty"] [eFspath, eIsi, eBytes]
theorem root_body (C : Ctx) (K : CtxOk C) (S : Stat C scRoot) (Sl : Slots C scRoot) (x : Str) (hs : x.length ≤ sizeLine) (h1 : (Txt.slice x none (some 1) == "/") = true) (h2 : (Txt.slice x (some 1) (some 2) == "/") = false) :
    ∃ σ' sv, Exs C (st0 [.str x] 2) dRoot.body (.ret sv) σ' ∧ sv = .v (.tup [.str "", .str "/", .str (Txt.slice x (some 1) none)]) := by
  refine ⟨_, _, exs_cons (exG (v := .str x) K S Sl 0 rfl rfl (by rfl) (by exact ⟨⟨trivial, trivial⟩, trivial⟩) (by rfl) rfl) (exs_cons (ex_if (c := false) (σ' := ⟨[.v (.str x), .v (.str "/"), .v (.str "")], []⟩) (trG S (by rfl) (by exact ⟨⟨⟨trivial, trivial, trivial⟩, trivial⟩, trivial⟩) (by rfl)) (fun h => nomatch h) fun _ =>
    exs_to (exs_cons (exG (v := .str "/") K S Sl 1 rfl rfl (by rfl) (by trivial) rfl rfl) (exs_cons (exG (v := .str "") K S Sl 2 rfl rfl (by rfl) (by trivial) rfl rfl) exs_nil)) rfl)
    (exs_stop (fun h => nomatch h) (ex_if (c := false) (trG S (by rfl) (by exact ⟨⟨trivial, trivial, trivial, hs⟩, trivial, trivial⟩) ?_) (fun h => nomatch h) fun _ => exs_stop (fun h => nomatch h) (ex_if (c := true) (tr_or (a := true) (b := false) (trG S (by rfl) (by exact ⟨⟨trivial, trivial, trivial, hs⟩, trivial, trivial⟩) ?_) fun h => nomatch h) (fun _ => exs_stop (fun h => nomatch h) (ex_ret (evG S (by rfl) ?_ rfl))) fun h => nomatch h)))), ?_⟩
  · show (Txt.slice x none (some 1) != "/") = false
    rw [bne, h1]; rfl
  · show (Txt.slice x (some 1) (some 2) != "/") = true
    rw [bne, h2]; rfl
  · exact ⟨⟨trivial, trivial, ⟨trivial, trivial, trivial, hs⟩, trivial⟩, by show 3 ≤ sizeLine; decide⟩
  · rfl
noncomputable def rootF : List PV → Option R := on1 asStr fun x => ⟨.tup [.str "", .str "/", .str (Txt.slice x (some 1) none)], x.length ≤ sizeLine ∧ (Txt.slice x none (some 1) == "/") = true ∧ (Txt.slice x (some 1) (some 2) == "/") = false⟩
noncomputable def eRoot : Ent := ⟨"splitroot", .d, rootF⟩
theorem ok_root {P : Pr} (B : Base P) (n : Nat) : EntOk P (n + 2) eRoot := by
  obtain ⟨hd, v, hv⟩ := B.d 12 (by decide)
  refine ⟨dRoot, hd, rfl, v, hv, fun ps r h ok => ?_⟩
  obtain ⟨p'1, x1, rfl, e'1, rfl⟩ := on1_inv (show on1 asStr _ ps = some r from h)
  obtain rfl := asStr_inv e'1
  refine def_ok dRoot hd hv ["p"] ["p", "sep", "empty"] _ _ (T := [eFspath, eIsi, eBytes]) (forall_cons (ok_fspath B n) (forall_cons (ok_isi B _) (forall_cons (ok_bytes B _) forall_nil))) rfl rfl (by rfl) (fun pm cd doc vs hvs => ?_) (by decide +kernel) rfl rfl rfl (by decide +kernel) (by decide +kernel) fun C _ K S Sl => root_body C K S Sl _ ok.1 ok.2.1 ok.2.2
  obtain ⟨a, rfl⟩ := len1 hvs
  rfl
end Rt

/-! V6g -/
namespace Rt
noncomputable abbrev dNorm : DefRec := dr 13 (by decide)
noncomputable abbrev scNorm : Sc := dSc dNorm ["path", "sep", "dot", "dotdot", "_", "initial_slashes", "comps", "new_comps", "comp"] [eFspath, eIsi, eBytes, eRoot]
noncomputable def normStep (l : List Str) (c : Str) : List Str :=
  if c.length == 0 || c == "." then l
  else if c != ".." || (!l.isEmpty && l.getLastD "" == "..") then l ++ [c]
  else l.dropLast
noncomputable def stNorm (p : Str) (cs : List PV) (l : List Str) : St := ⟨[.v (.str p), .v (.str "/"), .v (.str "."), .v (.str ".."), .v (.str ""), .v (.str "/"), .v (.list cs), .mut 0, .un], [some ((l.map PV.str).map .v)]⟩
theorem norm_turn (C : Ctx) (K : CtxOk C) (S : Stat C scNorm) (Sl : Slots C scNorm) (p : Str) (cs : List PV) (l : List Str) (hl : l.length ≤ 1000) (c : Str) (hc : c.length ≤ 100000) :
    ∃ sv', Exs C ((stNorm p cs l).setv 8 (.v (.str c))) (forB dNorm.body 6) .next ((stNorm p cs (normStep l c)).setv 8 sv') ∨ Exs C ((stNorm p cs l).setv 8 (.v (.str c))) (forB dNorm.body 6) .cont ((stNorm p cs (normStep l c)).setv 8 sv') := by
  have hL : sizeLine = 16777216 := rfl
  have t1 : Tr C ((stNorm p cs l).setv 8 (.v (.str c))) (match stB (forB dNorm.body 6) 0 with | .If t _ _ _ => t | _ => .Constant .none 0 ⟨0, 0, 0, 0⟩) (c.length == 0 || c == ".") := trG S (by rfl) (by exact ⟨⟨trivial, by show c.length ≤ sizeLine; omega⟩, fun _ => ⟨trivial, trivial, trivial⟩⟩) (by
    show (!(!(c.length == 0)) || (c == ".")) = _
    rw [Bool.not_not])
  refine ⟨.v (.str c), ?_⟩
  cases h1 : c.length == 0 || c == "." with
  | true =>
    rw [h1] at t1
    refine .inr (exs_to (exs_stop (fun h => nomatch h) (ex_if (c := true) t1 (fun _ => exs_stop (fun h => nomatch h) ex_cont) fun h => nomatch h)) ?_)
    unfold normStep
    rw [h1]; rfl
  | false =>
    rw [h1] at t1
    refine .inl ?_
    have s1 : Ex C ((stNorm p cs l).setv 8 (.v (.str c))) (stB (forB dNorm.body 6) 0) .next ((stNorm p cs l).setv 8 (.v (.str c))) := ex_if (c := false) t1 (fun h => nomatch h) fun _ => exs_nil
    have t2 : Tr C ((stNorm p cs l).setv 8 (.v (.str c))) (match stB (forB dNorm.body 6) 1 with | .If t _ _ _ => t | _ => .Constant .none 0 ⟨0, 0, 0, 0⟩) (c != ".." || (false && false) || (!l.isEmpty && l.getLastD "" == "..")) := by
      refine tr_own 0 (l.map .str) rfl (tr_or3 (trG S (by rfl) (by exact ⟨trivial, trivial, trivial⟩) (by rfl)) (fun _ => tr_and (trG S (by rfl) (by exact ⟨trivial, by decide⟩) (by rfl)) fun h => nomatch h) fun _ _ => tr_and (a := !l.isEmpty) (trG S (by rfl) ?_ ?_) fun hne => ?_)
      · exact ⟨trivial, by show (l.map PV.str).length ≤ sizeLine; rw [List.length_map]; omega⟩
      · cases l <;> rfl
      · obtain ⟨y, hy⟩ : ∃ y, l.getLast? = some y := by
          cases l with
          | nil => cases hne
          | cons a r => exact ⟨_, List.getLast?_eq_some_getLast (by simp)⟩
        have hlp : (l.map PV.str).getLast? = some (.str y) := by rw [List.getLast?_map, hy]; rfl
        have hgl : l.getLastD "" = y := by rw [List.getLastD_eq_getLast?, hy]; rfl
        have hpos : 0 < l.length := by
          cases l with
          | nil => cases hne
          | cons a r => simp
        rw [hgl]
        exact tr_cmp (evG S (by rfl) (by exact ⟨trivial, trivial, by rw [List.length_map]; omega, by rw [List.length_map]; omega, by rw [List.length_map]; omega⟩) (idxL_last hlp)) (evG S (by rfl) (by trivial) rfl) (b_eqS _ _) rfl
    rw [show (false && false) = false from rfl, Bool.or_false] at t2
    cases h2 : c != ".." || (!l.isEmpty && l.getLastD "" == "..") with
    | true =>
      rw [h2] at t2
      refine exs_to (exs_cons s1 (exs_cons (ex_if (c := true) t2 (fun _ => exs_cons (exApp S 7 0 rfl rfl (by decide +kernel) rfl (evG S (by rfl) (by trivial) rfl) rfl (by rw [List.length_map, List.length_map]; omega) rfl rfl) exs_nil) fun h => nomatch h) exs_nil)) ?_
      unfold normStep
      rw [h1, h2]
      show (⟨_, _⟩ : St) = ⟨_, _⟩
      congr 1
      show [some _] = [some _]
      rw [if_neg (by decide), if_pos rfl, List.map_append, List.map_append]
      rfl
    | false =>
      rw [h2] at t2
      have t3 : Tr C ((stNorm p cs l).setv 8 (.v (.str c))) (match stB (forB dNorm.body 6) 1 with | .If _ _ [.If t _ _ _] _ => t | _ => .Constant .none 0 ⟨0, 0, 0, 0⟩) (!l.isEmpty) := tr_own 0 (l.map .str) rfl (trG S (by rfl) (by exact ⟨trivial, by show (l.map PV.str).length ≤ sizeLine; rw [List.length_map]; omega⟩) (by cases l <;> rfl))
      cases h3 : l.isEmpty with
      | true =>
        rw [h3] at t3
        refine exs_to (exs_cons s1 (exs_cons (ex_if (c := false) t2 (fun h => nomatch h) fun _ => exs_cons (ex_if (c := false) t3 (fun h => nomatch h) fun _ => exs_nil) exs_nil) exs_nil)) ?_
        unfold normStep
        rw [h1, h2, if_neg (by decide), if_neg (by decide)]
        cases l with
        | nil => rfl
        | cons a r => cases h3
      | false =>
        rw [h3] at t3
        obtain ⟨y, hy⟩ : ∃ y, l.getLast? = some y := by
          cases l with
          | nil => cases h3
          | cons a r => exact ⟨_, List.getLast?_eq_some_getLast (by simp)⟩
        refine exs_to (exs_cons s1 (exs_cons (ex_if (c := false) t2 (fun h => nomatch h) fun _ => exs_cons (ex_if (c := true) t3 (fun _ => exs_cons (exPop S 7 0 rfl rfl (by decide +kernel) rfl y (by rw [List.getLast?_map, List.getLast?_map, hy]; rfl) (by rw [List.length_map, List.length_map]; omega) rfl rfl) exs_nil) fun h => nomatch h) exs_nil) exs_nil)) ?_
        unfold normStep
        rw [h1, h2, if_neg (by decide), if_neg (by decide)]
        show (⟨_, _⟩ : St) = ⟨_, _⟩
        congr 1
        show [some _] = [some _]
        rw [List.map_dropLast, List.map_dropLast]
theorem normStep_len (l : List Str) (c : Str) : (normStep l c).length ≤ l.length + 1 := by
  unfold normStep
  split
  · omega
  · split
    · simp
    · simp; omega

noncomputable def normTail (p : Str) : Str := Txt.slice p (some 1) none
noncomputable def normParts (p : Str) : List Str := Txt.split (normTail p) "/"
noncomputable def normComps (p : Str) : List Str := (normParts p).foldl normStep []
noncomputable def normS (p : Str) : Str := "/" ++ Txt.join "/" (normComps p)
structure NormOk (p : Str) : Prop where
  len : p.length ≤ 1000
  one : (Txt.slice p none (some 1) == "/") = true
  two : (Txt.slice p (some 1) (some 2) == "/") = false
  ne : (p.length == 0) = false
  tl : (normTail p).length ≤ 1000
  pb : (Builtin.Str.partsBetween (normTail p) (Builtin.Str.occurrences (normTail p) "/" 0 (normTail p).length ((normTail p).length + 1)) ("/" : Str).length).length ≤ sizeLine
  pn : (normParts p).length ≤ 900
  pl : ∀ c ∈ normParts p, c.length ≤ 100000
  jn : ((normComps p).map (·.length)).sum + (normComps p).length * 64 ≤ 16777216
  jl : (Txt.join "/" (normComps p)).length ≤ 100000
theorem norm_body (C : Ctx) (K : CtxOk C) (S : Stat C scNorm) (Sl : Slots C scNorm) (p : Str) (h : NormOk p) :
    ∃ σ' sv, Exs C (st0 [.str p] 8) dNorm.body (.ret sv) σ' ∧ sv = .v (.str (normS p)) := by
  have hL : sizeLine = 16777216 := rfl
  obtain ⟨len, one, two, ne, tl, pb, pn, pl, jn, jl⟩ := h
  obtain ⟨sv', R, hI⟩ := forR_stepsN (C := C) (t := 8) (body := forB dNorm.body 6) PV.str (stNorm (normTail p) ((normParts p).map .str)) normStep (fun k l => l.length + k ≤ 900) (normParts p) [] .un (by simpa using pn) fun k l c hk hc => ⟨by
    have := normStep_len l c
    show (normStep l c).length + k ≤ 900
    have hk' : l.length + (k + 1) ≤ 900 := hk
    omega, norm_turn C K S Sl (normTail p) _ l (by have hk' : l.length + (k + 1) ≤ 900 := hk; omega) c (pl c hc)⟩
  refine ⟨_, _, exs_cons (exG (v := .str p) K S Sl 0 rfl rfl (by rfl) (by exact ⟨⟨trivial, trivial⟩, trivial⟩) (by rfl) rfl) (exs_cons (ex_if (c := false) (σ' := ⟨[.v (.str p), .v (.str "/"), .v (.str "."), .v (.str ".."), .un, .un, .un, .un, .un], []⟩) (trG S (by rfl) (by exact ⟨⟨⟨trivial, trivial, trivial⟩, trivial⟩, trivial⟩) (by rfl)) (fun h => nomatch h) fun _ =>
    exs_to (exs_cons (exG (v := .str "/") K S Sl 1 rfl rfl (by rfl) (by trivial) rfl rfl) (exs_cons (exG (v := .str ".") K S Sl 2 rfl rfl (by rfl) (by trivial) rfl rfl) (exs_cons (exG (v := .str "..") K S Sl 3 rfl rfl (by rfl) (by trivial) rfl rfl) exs_nil))) rfl)
    (exs_cons (ex_if (c := false) (trG S (by rfl) ?_ ?_) (fun h => nomatch h) fun _ => exs_nil)
    (exs_cons (exTup3 (a := .str "") (b := .str "/") (c := .str (normTail p)) K S Sl 4 5 0 rfl rfl rfl rfl rfl rfl (evG S (by rfl) ?_ ?_) rfl rfl)
    (exs_cons (exG (v := .list ((normParts p).map .str)) K S Sl 6 rfl rfl (by rfl) ?_ ?_ rfl)
    (exs_cons (exNew K S Sl 7 rfl rfl rfl)
    (exs_cons (exFor K S Sl 8 rfl rfl (it_l S (by rfl) (by trivial) rfl) R (fun _ => rfl))
    (exs_frz 0 ((normComps p).map .str) rfl
    (exs_cons (exG (v := .list ((normComps p).map .str)) K S Sl 6 rfl rfl (by rfl) ?_ ?_ rfl)
    (exs_cons (exG (v := .str (normS p)) K S Sl 0 rfl rfl (by rfl) ?_ ?_ rfl)
    (exs_stop (fun h => nomatch h) (ex_ret (ev_or1 (evG S (by rfl) ?_ rfl) ?_)))))))))))), ?_⟩
  · exact ⟨trivial, by show p.length ≤ sizeLine; omega⟩
  · show (!(!(p.length == 0))) = false
    rw [Bool.not_not]; exact ne
  · exact ⟨⟨trivial, trivial⟩, by omega, one, two⟩
  · rfl
  · exact ⟨trivial, ⟨trivial, trivial⟩, by decide +kernel, by omega, pb⟩
  · rfl
  · trivial
  · rfl
  · refine ⟨trivial, ⟨trivial, ⟨trivial, trivial⟩, ?_, by decide +kernel, ?_⟩, ?_⟩
    · rw [strsP_map]
    · rw [strsP_map]; exact jn
    · show ("/" : Str).length + (Txt.join "/" (strsP ((normComps p).map .str))).length ≤ sizeLine
      rw [strsP_map, show ("/" : Str).length = 1 from by decide +kernel]; omega
  · show PV.str ("/" ++ Txt.join "/" (strsP ((normComps p).map .str))) = _
    rw [strsP_map]; rfl
  · trivial
  · have e : (normS p).length = 1 + (Txt.join "/" (normComps p)).length := by
      unfold normS
      rw [len_append, show ("/" : Str).length = 1 from by decide +kernel]
    have := t_str (P := C.P) (A := C.A) (normS p) (by omega)
    rw [show (!((normS p).length == 0)) = true from by rw [e]; simp] at this
    exact this
  · rfl
noncomputable def normF : List PV → Option R := on1 asStr fun p => ⟨.str (normS p), NormOk p⟩
noncomputable def eNorm : Ent := ⟨"normpath", .d, normF⟩
theorem ok_norm {P : Pr} (B : Base P) (n : Nat) : EntOk P (n + 3) eNorm := by
  obtain ⟨hd, v, hv⟩ := B.d 13 (by decide)
  refine ⟨dNorm, hd, rfl, v, hv, fun ps r h ok => ?_⟩
  obtain ⟨p'1, x1, rfl, e'1, rfl⟩ := on1_inv (show on1 asStr _ ps = some r from h)
  obtain rfl := asStr_inv e'1
  refine def_ok dNorm hd hv ["path"] ["path", "sep", "dot", "dotdot", "_", "initial_slashes", "comps", "new_comps", "comp"] _ _ (T := [eFspath, eIsi, eBytes, eRoot]) (forall_cons (ok_fspath B (n + 1)) (forall_cons (ok_isi B _) (forall_cons (ok_bytes B _) (forall_cons (ok_root B n) forall_nil)))) rfl rfl (by rfl) (fun pm cd doc vs hvs => ?_) (by decide +kernel) rfl rfl rfl (by decide +kernel) (by decide +kernel) fun C _ K S Sl => norm_body C K S Sl _ ok
  obtain ⟨a, rfl⟩ := len1 hvs
  rfl
end Rt

/-! V6h -/
namespace Rt
noncomputable abbrev dJoin : DefRec := dr 11 (by decide)
noncomputable abbrev scJoin : Sc := dSc dJoin ["a", "p", "sep", "path", "b"] [eFspath, eSep]
noncomputable def joinStep (path b : Str) : Str :=
  if Txt.startswith b "/" || path.length == 0 then b
  else if Txt.endswith path "/" then path ++ b
  else path ++ ("/" ++ b)
noncomputable def stJoin (a : Str) (ps : List Str) (path : Str) : St := ⟨[.v (.str a), .v (.tup (ps.map .str)), .v (.str "/"), .v (.str path), .un], []⟩
noncomputable def tryB (b : List Stmt) (i : Nat) : List Stmt := match b[i]? with
  | some (.Try body _ _ _ _) => body
  | _ => []
theorem joinStep_len (path b : Str) : (joinStep path b).length ≤ path.length + b.length + 1 := by
  have e1 : ("/" : Str).length = 1 := by decide +kernel
  unfold joinStep
  split
  · omega
  · split
    · rw [len_append]; omega
    · rw [len_append, len_append, e1]; omega
theorem join_turn (C : Ctx) (K : CtxOk C) (S : Stat C scJoin) (Sl : Slots C scJoin) (a : Str) (ps : List Str) (path : Str) (hp : path.length ≤ 100000) (b : Str) (hb : b.length ≤ 100000) :
    ∃ sv', Exs C ((stJoin a ps path).setv 4 (.v (.str b))) (forB (tryB dJoin.body 3) 0) .next ((stJoin a ps (joinStep path b)).setv 4 sv') := by
  have hL : sizeLine = 16777216 := rfl
  have e1 : ("/" : Str).length = 1 := by decide +kernel
  have s1 : Ex C ((stJoin a ps path).setv 4 (.v (.str b))) (stB (forB (tryB dJoin.body 3) 0) 0) .next ((stJoin a ps path).setv 4 (.v (.str b))) := exG (v := .str b) K S Sl 4 rfl rfl (by rfl) (by exact ⟨⟨trivial, trivial⟩, trivial⟩) (by rfl) rfl
  have t2 : Tr C ((stJoin a ps path).setv 4 (.v (.str b))) (match stB (forB (tryB dJoin.body 3) 0) 1 with | .If t _ _ _ => t | _ => .Constant .none 0 ⟨0, 0, 0, 0⟩) (Txt.startswith b "/" || path.length == 0) := trG S (by rfl) (by exact ⟨⟨⟨trivial, ⟨trivial, trivial⟩, trivial⟩, trivial⟩, fun _ => ⟨trivial, by show path.length ≤ sizeLine; omega⟩⟩) (by
    show (Txt.startswith b "/" || !(!(path.length == 0))) = _
    rw [Bool.not_not])
  have t3 : Tr C ((stJoin a ps path).setv 4 (.v (.str b))) (match stB (forB (tryB dJoin.body 3) 0) 1 with | .If _ _ [.If t _ _ _] _ => t | _ => .Constant .none 0 ⟨0, 0, 0, 0⟩) (Txt.endswith path "/") := trG S (by rfl) (by exact ⟨⟨trivial, ⟨trivial, trivial⟩, trivial⟩, trivial⟩) (by rfl)
  refine ⟨.v (.str b), ?_⟩
  cases h1 : Txt.startswith b "/" || path.length == 0 with
  | true =>
    rw [h1] at t2
    refine exs_to (exs_cons s1 (exs_cons (ex_if (c := true) t2 (fun _ => exs_cons (exG (v := .str b) K S Sl 3 rfl rfl (by rfl) (by trivial) (by rfl) rfl) exs_nil) fun h => nomatch h) exs_nil)) ?_
    unfold joinStep
    rw [h1]; rfl
  | false =>
    rw [h1] at t2
    cases h2 : Txt.endswith path "/" with
    | true =>
      rw [h2] at t3
      refine exs_to (exs_cons s1 (exs_cons (ex_if (c := false) t2 (fun h => nomatch h) fun _ => exs_cons (ex_if (c := true) t3 (fun _ => exs_cons (exAug (b := .str b) K S Sl 3 rfl rfl rfl (by rfl) (by trivial) (by rfl) (b_iadds _ _ (by omega))) exs_nil) fun h => nomatch h) exs_nil) exs_nil)) ?_
      unfold joinStep
      rw [h1, h2]; rfl
    | false =>
      rw [h2] at t3
      refine exs_to (exs_cons s1 (exs_cons (ex_if (c := false) t2 (fun h => nomatch h) fun _ => exs_cons (ex_if (c := false) t3 (fun h => nomatch h) fun _ => exs_cons (exAug (b := .str ("/" ++ b)) K S Sl 3 rfl rfl rfl (by rfl) (by exact ⟨trivial, trivial, by show ("/" : Str).length + b.length ≤ sizeLine; omega⟩) (by rfl) (b_iadds _ _ (by rw [len_append]; omega))) exs_nil) exs_nil) exs_nil)) ?_
      unfold joinStep
      rw [h1, h2]; rfl
noncomputable def joinS (a : Str) (ps : List Str) : Str := ps.foldl joinStep a
theorem join_body (C : Ctx) (K : CtxOk C) (S : Stat C scJoin) (Sl : Slots C scJoin) (a : Str) (ps : List Str) (ha : a.length ≤ 1000) (hp : ∀ b ∈ ps, b.length ≤ 1000) (hn : ps.length ≤ 50) :
    ∃ σ' sv, Exs C (st0 [.str a, .tup (ps.map .str)] 3) dJoin.body (.ret sv) σ' ∧ sv = .v (.str (joinS a ps)) := by
  obtain ⟨sv', R, _⟩ := forR_stepsN (C := C) (t := 4) (body := forB (tryB dJoin.body 3) 0) PV.str (stJoin a ps) joinStep (fun k path => path.length + k * 1001 ≤ 52000) ps a .un (by omega) fun k path b hk hb => ⟨by
    have h1 := joinStep_len path b
    have h2 := hp b hb
    show (joinStep path b).length + k * 1001 ≤ 52000
    have hk' : path.length + (k + 1) * 1001 ≤ 52000 := hk
    omega, (join_turn C K S Sl a ps path (by have hk' : path.length + (k + 1) * 1001 ≤ 52000 := hk; omega) b (by have := hp b hb; omega)).imp fun _ h => .inl h⟩
  exact ⟨_, _, exs_cons (exG (v := .str a) K S Sl 0 rfl rfl (by rfl) (by exact ⟨⟨trivial, trivial⟩, trivial⟩) (by rfl) rfl) (exs_cons (exG (v := .str "/") K S Sl 2 rfl rfl (by rfl) (by exact ⟨⟨trivial, trivial⟩, trivial⟩) (by rfl) rfl) (exs_cons (exG (v := .str a) K S Sl 3 rfl rfl (by rfl) (by trivial) (by rfl) rfl)
    (exs_cons (ex_try (exs_cons (exFor K S Sl 4 rfl rfl (it_t S (by rfl) (by trivial) rfl) R (fun _ => rfl)) exs_nil)) (exs_stop (fun h => nomatch h) (ex_ret (evG S (by rfl) (by trivial) rfl)))))), rfl⟩

noncomputable def joinF : List PV → Option R
  | .str a :: rest => some ⟨.str (joinS a (strsP rest)), rest = (strsP rest).map .str ∧ a.length ≤ 1000 ∧ (∀ b ∈ strsP rest, b.length ≤ 1000) ∧ (strsP rest).length = 3⟩
  | _ => none
noncomputable def eJoin : Ent := ⟨"join", .d, joinF⟩
theorem ok_join {P : Pr} (B : Base P) (n : Nat) : EntOk P (n + 2) eJoin := by
  obtain ⟨hd, v, hv⟩ := B.d 11 (by decide)
  refine ⟨dJoin, hd, rfl, v, hv, fun ps r h ok => ?_⟩
  change joinF ps = some r at h
  unfold joinF at h
  split at h <;> cases h
  rename_i a rest
  obtain ⟨k1, k2, k3, k4⟩ := ok
  have hT : ∀ e ∈ [eFspath, eSep], EntOk P (n + 1) e := forall_cons (ok_fspath B n) (forall_cons (ok_sep B n) forall_nil)
  have hn : nodupS (dJoin.scope.names.map (·.1)) = true := by decide +kernel
  refine call_star dJoin hd hv "a" "p" ["a", "p", "sep", "path", "b"] (.str a) rest _ rfl (nodupS_iff (by rfl)) (by rw [k1, List.length_map]; have hL : sizeLine = 16777216 := rfl; omega) (fun pm cd doc v0 vs hvs => ?_) (by decide +kernel) rfl rfl rfl fun L a' cd A av h₀ hh K fr => ?_
  · rw [k1, List.length_map, k4] at hvs
    obtain ⟨b, c, d, rfl⟩ := len3 hvs
    rfl
  · have := join_body _ K (stat_def hT rfl (by decide +kernel) hn hh) (slots_def hn fr) a (strsP rest) k2 k3 (by omega)
    rw [← k1] at this
    exact this
end Rt

/-! V6i -/
namespace Rt
noncomputable def pathStep (p n : Str) : Str := joinS p ["x", "..", n]
noncomputable def pathN (ns : List Str) : Str := ns.foldl pathStep "/"
noncomputable def pathOf (x : Int) : Str := pathN (lawNames x)
noncomputable def flatS (ns : List Str) : Str := "/" ++ Txt.join "/" ns
noncomputable def normOkB (p : Str) : Bool :=
  decide (p.length ≤ 1000) && (Txt.slice p none (some 1) == "/") && !(Txt.slice p (some 1) (some 2) == "/") && !(p.length == 0) && decide ((normTail p).length ≤ 1000) &&
  decide ((Builtin.Str.partsBetween (normTail p) (Builtin.Str.occurrences (normTail p) "/" 0 (normTail p).length ((normTail p).length + 1)) ("/" : Str).length).length ≤ 1000) &&
  decide ((normParts p).length ≤ 900) && (normParts p).all (fun c => decide (c.length ≤ 100000)) && decide (((normComps p).map (·.length)).sum + (normComps p).length * 64 ≤ 16777216) && decide ((Txt.join "/" (normComps p)).length ≤ 100000)
theorem normOk_of {p : Str} (h : normOkB p = true) : NormOk p := by
  unfold normOkB at h
  simp only [Bool.and_eq_true, decide_eq_true_eq, Bool.not_eq_true'] at h
  obtain ⟨⟨⟨⟨⟨⟨⟨⟨⟨h1, h2⟩, h3⟩, h4⟩, h5⟩, h6⟩, h7⟩, h8⟩, h9⟩, h10⟩ := h
  have hL : sizeLine = 16777216 := rfl
  exact ⟨h1, h2, h3, h4, h5, by omega, h7, fun c hc => of_decide_eq_true (List.all_eq_true.mp h8 c hc), h9, h10⟩
noncomputable def namesOf : Nat → List (List Str)
  | 0 => [[]]
  | n + 1 => (namesOf n).flatMap fun l => nm4.map fun x => l ++ [x]
noncomputable def allNames : List (List Str) := namesOf 1 ++ namesOf 2 ++ namesOf 3
noncomputable def goodB (ns : List Str) : Bool := normOkB (pathN ns) && PyData.strOk (flatS ns) && (normS (pathN ns) == flatS ns) && decide ((flatS ns).length ≤ 20) && ns.all fun n => decide (n.length ≤ 3)
set_option maxHeartbeats 4000000 in
theorem good_all : allNames.all goodB = true := by decide +kernel
theorem nm4_mem {j : Nat} (h : j < 4) : nm4.getD j "" ∈ nm4 := by
  match j, h with
  | 0, _ => exact .head _
  | 1, _ => exact .tail _ (.head _)
  | 2, _ => exact .tail _ (.tail _ (.head _))
  | 3, _ => exact .tail _ (.tail _ (.tail _ (.head _)))
theorem namesOf_mem (f : Nat → Nat) (hf : ∀ k, f k < 4) : ∀ n, (List.range n).map (fun k => nm4.getD (f k) "") ∈ namesOf n
  | 0 => .head _
  | n + 1 => by
    rw [List.range_succ, List.map_append]
    exact List.mem_flatMap.mpr ⟨_, namesOf_mem f hf n, List.mem_map.mpr ⟨_, nm4_mem (hf n), rfl⟩⟩
theorem nameIx_lt (x : Int) (k : Nat) : nameIx x k < 4 := by
  obtain ⟨q1, q2⟩ := mod_range ((x.fdiv 9).fdiv (4 ^ k)) 4 (by decide)
  unfold nameIx; omega
theorem lawNames_mem (x : Int) : lawNames x ∈ allNames := by
  have h := namesOf_mem (nameIx x) (nameIx_lt x) (namesN x)
  obtain ⟨m1, m2⟩ := mod_range x 3 (by decide)
  have hn : namesN x = 1 ∨ namesN x = 2 ∨ namesN x = 3 := by unfold namesN; omega
  unfold allNames
  rcases hn with e | e | e <;> rw [e] at h
  · exact List.mem_append.mpr (.inl (List.mem_append.mpr (.inl (by unfold lawNames; rw [e]; exact h))))
  · exact List.mem_append.mpr (.inl (List.mem_append.mpr (.inr (by unfold lawNames; rw [e]; exact h))))
  · exact List.mem_append.mpr (.inr (by unfold lawNames; rw [e]; exact h))
theorem good (x : Int) : NormOk (pathOf x) ∧ PyData.strOk (flatS (lawNames x)) = true ∧ normS (pathOf x) = flatS (lawNames x) ∧ (flatS (lawNames x)).length ≤ 20 ∧ ∀ n ∈ lawNames x, n.length ≤ 3 := by
  have h := List.all_eq_true.mp good_all _ (lawNames_mem x)
  unfold goodB at h
  simp only [Bool.and_eq_true] at h
  obtain ⟨⟨⟨⟨h1, h2⟩, h3⟩, h4⟩, h5⟩ := h
  exact ⟨normOk_of h1, h2, beq_iff_eq.mp h3, of_decide_eq_true h4, fun n hn => of_decide_eq_true (List.all_eq_true.mp h5 n hn)⟩
end Rt

/-! V6j -/
namespace Rt
noncomputable def sortedF : List PV → Option R := on1 asList fun xs => ⟨.list ((sortS (strsP xs)).map .str), xs = (strsP xs).map .str ∧ (strsP xs).length < 64⟩
noncomputable def eSorted : Ent := ⟨"sorted", .b "sorted", sortedF⟩
theorem ok_sorted {P : Pr} (B : Base P) (n : Nat) : EntOk P n eSorted := by
  refine ⟨B.nb "sorted" (by simp), Boot.«sorted», by decide, fun ps r h ok => ?_⟩
  obtain ⟨p'1, x1, rfl, e'1, rfl⟩ := on1_inv (show on1 asList _ ps = some r from h)
  obtain rfl := asList_inv e'1
  have := c_sort (P := P) (n := n) _ ok.2
  rw [← ok.1] at this
  exact this
noncomputable abbrev dShelf : DefRec := dr 15 (by decide)
noncomputable abbrev scShelf : Sc := dSc dShelf ["numbers", "other", "shelf", "x", "path", "name"] [eNames, eJoin, eNorm, eSorted]
noncomputable def shelfStep (other : Int) (l : List Str) (x : Int) : List Str := if (x.fdiv 3).fmod 3 != other && !l.contains (normS (pathOf x)) then l ++ [normS (pathOf x)] else l
noncomputable def lawShelf (numbers : List Int) (other : Int) : List Str := sortS (numbers.foldl (shelfStep other) [])
noncomputable def stShelf (nums : List PV) (other : Int) (l : List Str) (x : SV) (p : SV) (n : SV) : St := ⟨[.v (.list nums), .v (.int other), .mut 0, x, p, n], [some ((l.map PV.str).map .v)]⟩
theorem pathStep_len (p n : Str) (hn : n.length ≤ 3) : (pathStep p n).length ≤ p.length + 20 := by
  have e1 : ("x" : Str).length = 1 := by decide +kernel
  have e2 : (".." : Str).length = 2 := by decide +kernel
  have h1 := joinStep_len p "x"
  have h2 := joinStep_len (joinStep p "x") ".."
  have h3 := joinStep_len (joinStep (joinStep p "x") "..") n
  show (joinStep (joinStep (joinStep p "x") "..") n).length ≤ _
  omega
theorem shelf_inner (C : Ctx) (K : CtxOk C) (S : Stat C scShelf) (Sl : Slots C scShelf) (nums : List PV) (other : Int) (l : List Str) (x : Int) (sv : SV) :
    ∃ sv', ForR C 5 (forB (forB dShelf.body 1) 1) ((lawNames x).map .str) ((stShelf nums other l (.v (.int x)) (.v (.str "/")) .un).setv 5 sv) .next ((stShelf nums other l (.v (.int x)) (.v (.str (pathOf x))) .un).setv 5 sv') := by
  obtain ⟨_, _, _, _, g5⟩ := good x
  have hn3 : (lawNames x).length ≤ 3 := by
    unfold lawNames namesN
    obtain ⟨m1, m2⟩ := mod_range x 3 (by decide)
    rw [List.length_map, List.length_range]; omega
  have e0 : ("/" : Str).length = 1 := by decide +kernel
  obtain ⟨sv', R, _⟩ := forR_stepsN (C := C) (t := 5) (body := forB (forB dShelf.body 1) 1) PV.str (fun p => stShelf nums other l (.v (.int x)) (.v (.str p)) .un) pathStep (fun k p => p.length + k * 20 ≤ 400) (lawNames x) "/" sv (by rw [e0]; omega) fun k p n hk hn => ⟨by
    have h1 := pathStep_len p n (g5 n hn)
    have hk' : p.length + (k + 1) * 20 ≤ 400 := hk
    show (pathStep p n).length + k * 20 ≤ 400
    omega, .v (.str n), .inl (by
      have hk' : p.length + (k + 1) * 20 ≤ 400 := hk
      refine exs_to (exs_cons (exG (v := .str (pathStep p n)) K S Sl 4 rfl rfl (by rfl) ?_ (by rfl) rfl) exs_nil) rfl
      refine ⟨⟨trivial, trivial, trivial, trivial, trivial⟩, rfl, by omega, fun b hb => ?_, rfl⟩
      have hb' : b ∈ ([("x" : Str), "..", n] : List Str) := hb
      simp only [List.mem_cons, List.not_mem_nil, or_false] at hb'
      rcases hb' with rfl | rfl | rfl
      · decide +kernel
      · decide +kernel
      · have := g5 _ hn; omega)⟩
  exact ⟨sv', R⟩

theorem st_app (nums : List PV) (other : Int) (l : List Str) (x : Int) (p : Str) (n : SV) (y : Str) : ((stShelf nums other l (.v (.int x)) (.v (.str p)) .un).setv 5 n).updOwn 0 ((l.map PV.str).map SV.v ++ [.v (.str y)]) = (stShelf nums other (l ++ [y]) .un (.v (.str p)) n).setv 3 (.v (.int x)) := by
  have e : ((l ++ [y]).map PV.str).map SV.v = (l.map PV.str).map SV.v ++ [.v (.str y)] := by rw [List.map_append, List.map_append]; rfl
  unfold stShelf
  rw [e]; rfl
theorem st_same (nums : List PV) (other : Int) (l : List Str) (x : Int) (p : Str) (n : SV) : ((stShelf nums other l (.v (.int x)) (.v (.str p)) .un).setv 5 n) = (stShelf nums other l .un (.v (.str p)) n).setv 3 (.v (.int x)) := rfl
noncomputable def shelfOk (l : List Str) : Prop := ∀ s ∈ l, PyData.strOk s = true
theorem shelf_turn (C : Ctx) (K : CtxOk C) (S : Stat C scShelf) (Sl : Slots C scShelf) (nums : List PV) (other : Int) (l : List Str) (hl : l.length ≤ 50) (hk : shelfOk l) (x : Int) (p n : SV) :
    ∃ p' n', Exs C ((stShelf nums other l .un p n).setv 3 (.v (.int x))) (forB dShelf.body 1) .next ((stShelf nums other (shelfStep other l x) .un p' n').setv 3 (.v (.int x))) := by
  have hL : sizeLine = 16777216 := rfl
  obtain ⟨g1, g2, g3, g4, _⟩ := good x
  obtain ⟨sv', R⟩ := shelf_inner C K S Sl nums other l x n
  have s1 : Ex C ((stShelf nums other l .un p n).setv 3 (.v (.int x))) (stB (forB dShelf.body 1) 0) .next ((stShelf nums other l (.v (.int x)) (.v (.str "/")) .un).setv 5 n) := exG (v := .str "/") K S Sl 4 rfl rfl (by rfl) (by trivial) (by rfl) rfl
  have s2 : Ex C ((stShelf nums other l (.v (.int x)) (.v (.str "/")) .un).setv 5 n) (stB (forB dShelf.body 1) 1) .next ((stShelf nums other l (.v (.int x)) (.v (.str (pathOf x))) .un).setv 5 sv') := exFor K S Sl 5 rfl rfl (it_l S (by rfl) (by exact ⟨⟨trivial, trivial⟩, trivial⟩) rfl) R (fun _ => rfl)
  have hn : PyData.strOk (normS (pathOf x)) = true := by rw [g3]; exact g2
  have t3 : Tr C ((stShelf nums other l (.v (.int x)) (.v (.str (pathOf x))) .un).setv 5 sv') (match stB (forB dShelf.body 1) 2 with | .If t _ _ _ => t | _ => .Constant .none 0 ⟨0, 0, 0, 0⟩) ((x.fdiv 3).fmod 3 != other && !l.contains (normS (pathOf x))) := by
    refine tr_and (trG S (by rfl) (by exact ⟨⟨⟨trivial, trivial, by show (3 : Int) ≠ 0; decide, by decide⟩, trivial, by show (3 : Int) ≠ 0; decide⟩, trivial, trivial⟩) (by rfl)) fun _ => tr_own 0 (l.map .str) rfl (trG S (by rfl) ?_ ?_)
    · exact ⟨⟨⟨trivial, trivial⟩, g1⟩, trivial, lay_str hn, layN_lay (layN_strs hk) (by decide)⟩
    · show (!(toPDs (l.map .str)).any fun y => PyData.eqv y (toPD (.str (normS (pathOf x))))) = _
      rw [any_strs]
  cases h : (x.fdiv 3).fmod 3 != other && !l.contains (normS (pathOf x)) with
  | true =>
    rw [h] at t3
    refine ⟨.v (.str (pathOf x)), sv', exs_to (exs_cons s1 (exs_cons s2 (exs_cons (ex_if (c := true) t3 (fun _ => exs_cons (exApp S 2 0 rfl rfl (by decide +kernel) rfl (evG S (v := .str (normS (pathOf x))) (by rfl) (by exact ⟨⟨trivial, trivial⟩, g1⟩) (by rfl)) rfl (by rw [List.length_map, List.length_map]; omega) rfl rfl) exs_nil) fun h => nomatch h) exs_nil))) ?_⟩
    rw [shelfStep, if_pos h]
    exact st_app _ _ _ _ _ _ _
  | false =>
    rw [h] at t3
    refine ⟨.v (.str (pathOf x)), sv', exs_to (exs_cons s1 (exs_cons s2 (exs_cons (ex_if (c := false) t3 (fun h => nomatch h) fun _ => exs_nil) exs_nil))) ?_⟩
    rw [shelfStep, if_neg (by rw [h]; decide)]
    exact st_same _ _ _ _ _ _
theorem shelfStep_ok (other : Int) (l : List Str) (x : Int) (h : shelfOk l) : shelfOk (shelfStep other l x) ∧ (shelfStep other l x).length ≤ l.length + 1 := by
  obtain ⟨g1, g2, g3, g4, _⟩ := good x
  unfold shelfStep
  split
  · refine ⟨fun s hs => ?_, by simp⟩
    rcases List.mem_append.mp hs with hs | hs
    · exact h s hs
    · simp only [List.mem_cons, List.not_mem_nil, or_false] at hs
      subst hs; rw [g3]; exact g2
  · exact ⟨h, by omega⟩
theorem shelf_loop (C : Ctx) (K : CtxOk C) (S : Stat C scShelf) (Sl : Slots C scShelf) (nums : List PV) (other : Int) : ∀ (xs : List Int) (l : List Str) (p n sv : SV), l.length + xs.length ≤ 50 → shelfOk l →
    ∃ p' n' sv', ForR C 3 (forB dShelf.body 1) (xs.map .int) ((stShelf nums other l .un p n).setv 3 sv) .next ((stShelf nums other (xs.foldl (shelfStep other) l) .un p' n').setv 3 sv')
  | [], l, p, n, sv, _, _ => ⟨p, n, sv, .done⟩
  | x :: xs, l, p, n, sv, hlen, hk => by
    rw [List.length_cons] at hlen
    obtain ⟨p1, n1, h⟩ := shelf_turn C K S Sl nums other l (by omega) hk x p n
    obtain ⟨k1, k2⟩ := shelfStep_ok other l x hk
    obtain ⟨p2, n2, sv2, R⟩ := shelf_loop C K S Sl nums other xs (shelfStep other l x) p1 n1 (.v (.int x)) (by omega) k1
    exact ⟨p2, n2, sv2, .next (by rw [setv_setv]; exact h) R⟩
theorem shelf_body (C : Ctx) (K : CtxOk C) (S : Stat C scShelf) (Sl : Slots C scShelf) (xs : List Int) (other : Int) (hx : xs.length ≤ 20) :
    ∃ σ' sv, Exs C (st0 [.list (xs.map .int), .int other] 4) dShelf.body (.ret sv) σ' ∧ sv = .v (.list ((lawShelf xs other).map .str)) := by
  obtain ⟨p, n, sv, R⟩ := shelf_loop C K S Sl (xs.map .int) other xs [] .un .un .un (by simp; omega) (fun _ h => nomatch h)
  have hlen : ∀ (ys : List Int) (l : List Str), (ys.foldl (shelfStep other) l).length ≤ l.length + ys.length := by
    intro ys
    induction ys with
    | nil => intro l; exact Nat.le_refl _
    | cons y ys ih =>
      intro l
      rw [List.foldl_cons, List.length_cons]
      have h1 := ih (shelfStep other l y)
      have h2 : (shelfStep other l y).length ≤ l.length + 1 := by
        unfold shelfStep; split
        · simp
        · omega
      omega
  have hl := hlen xs []
  refine ⟨_, _, exs_cons (exNew K S Sl 2 rfl rfl rfl) (exs_cons (exFor K S Sl 3 rfl rfl (it_l S (by rfl) (by trivial) rfl) R (fun _ => rfl)) (exs_frz 0 ((xs.foldl (shelfStep other) []).map .str) rfl (exs_stop (fun h => nomatch h) (ex_ret (evG S (by rfl) ?_ rfl))))), ?_⟩
  · refine ⟨⟨trivial, trivial⟩, ?_, ?_⟩
    · rw [strsP_map]
    · rw [strsP_map]; simp at hl; omega
  · show SV.v (.list ((sortS (strsP ((xs.foldl (shelfStep other) []).map .str))).map .str)) = _
    rw [strsP_map]; rfl
noncomputable def intsOf : List PV → List Int
  | [] => []
  | .int x :: r => x :: intsOf r
  | _ :: r => intsOf r
theorem intsOf_map (l : List Int) : intsOf (l.map .int) = l := by
  induction l with
  | nil => rfl
  | cons a l ih => show a :: intsOf (l.map .int) = _; rw [ih]
noncomputable def shelfF : List PV → Option R := on2 asList asInt fun xs o => ⟨.list ((lawShelf (intsOf xs) o).map .str), xs = (intsOf xs).map .int ∧ (intsOf xs).length ≤ 20⟩
noncomputable def eShelf : Ent := ⟨"_law_shelf", .d, shelfF⟩
theorem ok_shelf {P : Pr} (B : Base P) (n : Nat) : EntOk P (n + 4) eShelf := by
  obtain ⟨hd, v, hv⟩ := B.d 15 (by decide)
  refine ⟨dShelf, hd, rfl, v, hv, fun ps r h ok => ?_⟩
  obtain ⟨p'1, p'2, xs, o, rfl, e'1, e'2, rfl⟩ := on2_inv (show on2 asList asInt _ ps = some r from h)
  obtain rfl := asList_inv e'1
  obtain rfl := asInt_inv e'2
  obtain ⟨k1, k2⟩ := ok
  refine def_ok dShelf hd hv ["numbers", "other"] ["numbers", "other", "shelf", "x", "path", "name"] _ _ (T := [eNames, eJoin, eNorm, eSorted]) (forall_cons (ok_names B (n + 2)) (forall_cons (ok_join B (n + 1)) (forall_cons (ok_norm B n) (forall_cons (ok_sorted B _) forall_nil)))) rfl rfl (by rfl) (fun pm cd doc vs hvs => ?_) (by decide +kernel) rfl rfl rfl (by decide +kernel) (by decide +kernel) fun C _ K S Sl => ?_
  · obtain ⟨a, b, rfl⟩ := len2 hvs
    rfl
  · have := shelf_body C K S Sl (intsOf xs) o k2
    rw [← k1] at this
    exact this
end Rt

/-! V7a -/
namespace Rt
/-- the exception in hand, if there is one, has no other behind it -/
noncomputable def HOk (A : Around) (h : Heap) : Prop := A.handled = none ∨ ∃ e ob vs, A.handled = some (.ref e) ∧ h.get? e = some ob ∧ ob.data = .fields vs ∧ vs[2]? = some .none
noncomputable def ctxt (A : Around) : Value := A.handled.getD .none
theorem entry_unchain : entryFor table "proto.unchain" = some Builtin.«proto.unchain» := entryFor_of_fast (by kernel_rfl)
theorem wp_raise {α : Type} {prog : Program} {w : World} {A : Around} {E : Value → Shared → Prop} {s : Shared} {msg : String} {Q : α → Shared → Prop} (hh : HOk A s.heap)
    (h : ∀ h' tk e t, (∀ b o, s.heap.get? b = some o → h'.get? b = some o) → s.heap.get? e = none → (∃ ob, h'.get? e = some ob ∧ ob.cls = .type "IndexError" ∧ ob.data = .fields #[t, .none, ctxt A, .none, .bool false, .none]) → E (.ref e) { s with heap := h', toks := tk }) :
    wpAny (model prog w) A (raiseErrorWords "IndexError" msg : Sem α) Q E s := by
  unfold raiseErrorWords
  refine wpAny_bind (wpAny_mkText (wpAny_bind (wpAny_newExc_plain plainExc_IndexError fun h' e hm => ?_)))
  obtain ⟨t, he, _, _⟩ := hm.there
  rcases hh with hn | ⟨e0, ob0, vs0, hs, h0, d0, c0⟩
  · refine wpAny_raiseNew_none hn (h _ _ e (.ref t) hm.keeps hm.new ⟨_, he, rfl, ?_⟩)
    rw [ctxt, hn]; rfl
  · have ne : e0 ≠ e := by
      rintro rfl
      have := hm.new
      rw [show ({ s with toks := s.toks + 1 } : Shared).heap = s.heap from rfl, h0] at this
      cases this
    unfold raiseNew
    refine wpAny_bind (wpAny_handled ?_)
    rw [hs]
    have hne : ((Value.ref e0 != Value.ref e) = true) := by simp [ne]
    dsimp only
    rw [if_pos hne]
    refine wpAny_bind (wpAny_holding (wpAny_runValue (codeAny_builtin entry_unchain ?_)))
    unfold Builtin.«proto.unchain»
    dsimp only
    refine wpAny_bind (wpAny_field (hm.keeps _ _ h0) d0 c0 ?_)
    rw [if_pos (show (Value.none == Value.none) = true from rfl)]
    refine wpAny_pure ?_
    show wpAny (model prog w) A (updateField e 2 (Value.ref e0) >>= fun _ => throw (Value.ref e)) Q E _
    refine wpAny_bind (wpAny_setField (a := e) he rfl (i := 2) (by show 2 < 6; decide) (wpAny_throw ?_))
    refine h _ _ e (.ref t) (fun b o hb => ?_) hm.new ⟨_, Heap.get?_update_self _ he rfl, rfl, ?_⟩
    · rw [Heap.get?_update_other _ _ (by rintro rfl; have := hm.new; rw [show ({ s with toks := s.toks + 1 } : Shared).heap = s.heap from rfl, hb] at this; cases this)]
      exact hm.keeps b o hb
    · rw [ctxt, hs]; rfl
theorem wp_item_out {prog : Program} {w : World} {A : Around} {E : Value → Shared → Prop} {s : Shared} {l : Addr} {items : Array Value} {k : Int} {t : Tok} {Q : Value → Shared → Prop} (hh : HOk A s.heap) (hl : s.heap.IsList l items)
    (h0 : 0 ≤ k) (hout : (items.size : Int) ≤ k) (hhi : k < 2 ^ 63)
    (h : ∀ h' tk e t, (∀ b o, s.heap.get? b = some o → h'.get? b = some o) → s.heap.get? e = none → (∃ ob, h'.get? e = some ob ∧ ob.cls = .type "IndexError" ∧ ob.data = .fields #[t, .none, ctxt A, .none, .bool false, .none]) → E (.ref e) { s with heap := h', toks := tk }) :
    wpAny (model prog w) A (getItem (.ref l) (.int k t)) Q E s := by
  obtain ⟨o, ho, hc, ne, hd⟩ := id hl
  unfold getItem
  try with_reducible refine wpAny_holding ?_
  first | refine wpAny_bind (wpAny_pure ?_) | skip
  refine wpAny_bind (wpAny_sequenceKey hl.typeIs (by decide) ?_)
  refine wpAny_bind (wpAny_callSpecial?_slot (name := Str.ofString "__getitem__") hl.typeIs slot_list_getitem
    (wpAny_call_entry slot_list_getitem hl.typeIs entry_list_getitem ?_ (args_list_getitem _ _)))
  show wpAny _ _ (Builtin.List.listSubscript? (.int k t) >>= _) _ _ s
  refine wpAny_bind (wpAny_listSubscript_int (fitsIndex_of h0 hhi) ?_)
  clear hhi
  obtain ⟨k, rfl⟩ := Int.eq_ofNat_of_zero_le h0
  have hx : items[k]? = none := Array.getElem?_eq_none (by omega)
  show wpAny _ _ ((seqItemAt l k >>= fun r => pure (r.map (k, ·))) >>= _) _ _ s
  refine wpAny_bind (wpAny_bind (wpAny_seqItemAt ho hd (wpAny_pure ?_)))
  rw [hx]
  first
    | exact wpAny_bind (wpAny_rule (wp_raise hh h))
    | exact wpAny_bind (wpAny_rule (wpAny_bind (wp_raise hh h)))
    | exact wpAny_bind (wpAny_bind (wpAny_rule (wp_raise hh h)))
    | exact wpAny_rule (wp_raise hh h)

/-- the objects that a step may change: those of X, which are new; and the slots of dicts -/
noncomputable def Exch (X : Addr → Prop) (h h' : Heap) : Prop := ∀ b o, h.get? b = some o → (X b ∧ (h'.get? b).isSome = true) ∨ SoftAt o h' b
noncomputable def XOk (C : Ctx) (X : Addr → Prop) (h : Heap) : Prop := ∀ b, X b → C.h₀.get? b = none ∧ ∀ o, h.get? b = some o → ∃ vs, o.data = .fields vs ∧ o.cls ≠ .type "builtin_function_or_method"
theorem SoftAt.nd {o : Obj} {h' : Heap} {b : Addr} (k : SoftAt o h' b) (hd : ∀ es ep, o.data ≠ .dict es ep) : h'.get? b = some o := by
  rcases k with q | ⟨_, es, ep, _, q, _⟩
  · exact q
  · exact absurd q (hd es ep)
theorem SoftAt.trans {o : Obj} {h1 h2 : Heap} {b : Addr} (x : SoftAt o h1 b) (y : ∀ o', h1.get? b = some o' → SoftAt o' h2 b) : SoftAt o h2 b := by
  rcases x with q | ⟨f, es, ep, o', q1, q2, q3, q4⟩
  · exact y o q
  · rcases y o' q2 with r | ⟨_, es', ep', o'', r1, r2, r3, r4⟩
    · exact .inr ⟨f, es, ep, o', q1, r, q3, q4⟩
    · exact .inr ⟨f, es, ep, o'', q1, r2, r3.trans q3, r4.trans q4⟩
theorem SoftAt.isSome {o : Obj} {h' : Heap} {b : Addr} (k : SoftAt o h' b) : (h'.get? b).isSome = true := by
  rcases k with q | ⟨_, _, _, _, _, q, _⟩ <;> rw [q] <;> rfl
section
variable {C : Ctx} {σ : St} {adr : List Addr} {h h' : Heap} {X : Addr → Prop}
theorem Holds.exch (H : Holds C σ adr h) (k : Exch X h h') (x : XOk C X h) : Holds C σ adr h' := by
  have nf : ∀ {b : Addr} {o : Obj}, h.get? b = some o → (∀ vs, o.data = .fields vs → o.cls = .type "builtin_function_or_method") → SoftAt o h' b := fun {b o} e hn => by
    rcases k b o e with ⟨xb, _⟩ | q
    · obtain ⟨vs, d, c⟩ := (x b xb).2 o e
      exact absurd (hn vs d) c
    · exact q
  have nsk : ∀ {a m}, h.Ns a m → h'.Ns a m := fun {a m} y => by
    obtain ⟨o, es, ep, ho, hd, r⟩ := y
    rcases nf ho (fun vs q => by rw [hd] at q; cases q) with q | ⟨_, _, _, o', _, q2, _, q4⟩
    · exact ⟨o, es, ep, q, hd, r⟩
    · exact ⟨o', es, ep, q2, q4.trans hd, r⟩
  have ck : ∀ {c v}, h.IsCell c v → h'.IsCell c v := fun {c v} y => by
    obtain ⟨o, ho, hd⟩ := y
    exact ⟨o, (nf ho (fun vs q => by rw [hd] at q; cases q)).nd (fun _ _ q => by rw [hd] at q; cases q), hd⟩
  have sk : ∀ av, SeqKeeps av h h' := fun av b o xs n _ e d => (nf e (fun vs q => by rw [d] at q; cases q)).nd fun _ _ q => by rw [d] at q; cases q
  have bk : BfmKeeps h h' := fun b o vs e c d => (nf e fun _ _ => c).nd fun _ _ q => by rw [d] at q; cases q
  have rd : ∀ y u, Read C.env h y u → Read C.env h' y u := fun y u r => by
    rcases r with ⟨e, m₂, hm₂, hv⟩ | ⟨e, c', hc', hv⟩
    · exact .inl ⟨e, m₂, nsk hm₂, hv⟩
    · exact .inr ⟨e, c', hc', ck hv⟩
  obtain ⟨m, hm⟩ := H.ns
  refine ⟨fun b o e => ?_, H.glb, H.kind, H.gl, ⟨m, nsk hm⟩, fun x c e => let ⟨v, hv⟩ := H.cellsIn x c e; ⟨v, ck hv⟩, fun i x sv h1 h2 => (H.vars i x sv h1 h2).imp_right fun ⟨v, r, w⟩ => ⟨v, rd _ _ r, w.keep (sk _) (fun _ _ n => n) bk⟩, H.len, H.nodup, fun k xs b h1 h2 => ?_, H.fresh, fun b hb => ?_, H.avold, H.room⟩
  · have hx : ¬ X b := fun q => by rw [(x b q).1] at e; cases e
    exact SoftAt.trans (H.keep b o e) fun o' e' => (k b o' e').elim (fun q => absurd q.1 hx) id
  · obtain ⟨its, ⟨n, ho⟩, w⟩ := H.own k xs b h1 h2
    exact ⟨its, ⟨n, (nf ho (fun vs q => nomatch q)).nd fun _ _ q => nomatch q⟩, w.keep (sk _) (fun _ _ n => n) bk⟩
  · obtain ⟨o, e⟩ := Option.isSome_iff_exists.mp (H.adrin b hb)
    rcases k b o e with q | q
    · exact q.2
    · exact q.isSome
theorem Frm.exch {own own' : Owns} {adr0 : List Addr} {hb : Heap} (F : Frm C own adr0 hb own' adr h) (k : Exch X h h') (x : ∀ b, X b → hb.get? b = none) : Frm C own adr0 hb own' adr h' := by
  refine ⟨fun b o e h1 h2 h3 => ?_, F.als, fun b e => ?_, F.adrs⟩
  · have hx : ¬ X b := fun q => by rw [x b q] at e; cases e
    exact SoftAt.trans (F.keep b o e h1 h2 h3) fun o' e' => (k b o' e').elim (fun q => absurd q.1 hx) id
  · obtain ⟨o, e'⟩ := Option.isSome_iff_exists.mp (F.alive b e)
    rcases k b o e' with q | q
    · exact q.2
    · exact q.isSome
end

/-- an exception that was made behind hb -/
structure XAt (hb h : Heap) (e : Addr) (vs : Array Value) (c : Value) : Prop where
  fresh : hb.get? e = none
  there : ∃ ob, h.get? e = some ob ∧ ob.cls = .type "IndexError" ∧ ob.data = .fields vs
  sz : vs.size = 6
  c : vs[2]? = some c
structure Trc (hb h : Heap) (e : Addr) (vs : Array Value) (fl : Value) (T : Addr) : Prop where
  ne : T ≠ e
  fresh : hb.get? T = none
  at1 : vs[1]? = some (.ref T)
  there : ∃ ob ts, h.get? T = some ob ∧ ob.cls = .type "traceback" ∧ ob.data = .fields ts ∧ ts[3]? = some fl
noncomputable def Flown (fl c : Value) (hb h : Heap) (e : Addr) : Prop := ∃ vs T, XAt hb h e vs c ∧ Trc hb h e vs fl T
noncomputable def Raised (L : Addr) (c : Value) (hb h : Heap) (e : Addr) : Prop := (∃ vs, XAt hb h e vs c ∧ vs[1]? = some .none) ∨ Flown (rawInt L) c hb h e
noncomputable def Olds (h0 hb : Heap) : Prop := ∀ b, h0.get? b ≠ none → hb.get? b ≠ none
theorem Olds.none {h0 hb : Heap} (k : Olds h0 hb) {b : Addr} (e : hb.get? b = none) : h0.get? b = none := by
  cases q : h0.get? b with
  | none => rfl
  | some o => exact absurd e (k b (by rw [q]; exact fun x => nomatch x))
theorem Olds.soft {h0 hb : Heap} (k : Soft h0 hb) : Olds h0 hb := fun b q => by
  cases e : h0.get? b with
  | none => exact absurd e q
  | some o => obtain ⟨o', e', _⟩ := k.some e; rw [e']; exact fun x => nomatch x
theorem Olds.frm {C : Ctx} {own own' : Owns} {adr adr' : List Addr} {h h' : Heap} (F : Frm C own adr h own' adr' h') : Olds h h' := fun b q => by
  cases e : h.get? b with
  | none => exact absurd e q
  | some o =>
    have := F.alive b (by rw [e]; rfl)
    cases e' : h'.get? b with
    | none => rw [e'] at this; cases this
    | some _ => exact fun x => nomatch x
theorem Olds.trans {a b c : Heap} (x : Olds a b) (y : Olds b c) : Olds a c := fun d q => y d (x d q)
theorem XAt.mono {h0 hb h : Heap} {e : Addr} {vs : Array Value} {c : Value} (x : XAt hb h e vs c) (k : Olds h0 hb) : XAt h0 h e vs c := ⟨k.none x.fresh, x.there, x.sz, x.c⟩
theorem Flown.mono {h0 hb h : Heap} {e : Addr} {fl c : Value} (x : Flown fl c hb h e) (k : Olds h0 hb) : Flown fl c h0 h e := let ⟨vs, T, a, b⟩ := x; ⟨vs, T, a.mono k, ⟨b.ne, k.none b.fresh, b.at1, b.there⟩⟩
theorem Raised.mono {h0 hb h : Heap} {e L : Addr} {c : Value} (x : Raised L c hb h e) (k : Olds h0 hb) : Raised L c h0 h e := x.imp (fun ⟨vs, a, b⟩ => ⟨vs, a.mono k, b⟩) fun y => y.mono k

/-- where a piece of work stands: what it started from, and what is now -/
structure Thr (C : Ctx) (own : Owns) (adr : List Addr) (hb : Heap) (σ' : St) (adr' : List Addr) (h : Heap) : Prop where
  holds : Holds C σ' adr' h
  frm : Frm C own adr hb σ'.own adr' h
  base : Olds C.h₀ hb
theorem Thr.exch {C : Ctx} {own : Owns} {adr adr' : List Addr} {hb h h' : Heap} {σ' : St} {X : Addr → Prop} (T : Thr C own adr hb σ' adr' h) (k : Exch X h h') (x : ∀ b, X b → hb.get? b = none ∧ ∀ o, h.get? b = some o → ∃ vs, o.data = .fields vs ∧ o.cls ≠ .type "builtin_function_or_method") : Thr C own adr hb σ' adr' h' :=
  ⟨T.holds.exch k fun b q => ⟨T.base.none (x b q).1, (x b q).2⟩, T.frm.exch k fun b q => (x b q).1, T.base⟩
end Rt

/-! V7b -/
namespace Rt
theorem Thr.soft {C : Ctx} {own : Owns} {adr adr' : List Addr} {hb h h' : Heap} {σ' : St} (T : Thr C own adr hb σ' adr' h) (k : Soft h h') : Thr C own adr hb σ' adr' h' := ⟨T.holds.stays k, T.frm.trans (Frm.of_stays k), T.base⟩
theorem Thr.start {C : Ctx} {σ : St} {adr : List Addr} {h : Heap} (H : Holds C σ adr h) : Thr C σ.own adr h σ adr h := ⟨H, Frm.refl .., Olds.soft H.keep⟩
theorem Thr.then {C : Ctx} {own : Owns} {adr adr' adr2 : List Addr} {hb h h' : Heap} {σ' σ2 : St} (T : Thr C own adr hb σ' adr' h) (H : Holds C σ2 adr2 h') (F : Frm C σ'.own adr' h σ2.own adr2 h') : Thr C own adr hb σ2 adr2 h' := ⟨H, T.frm.trans F, T.base⟩
theorem Thr.olds {C : Ctx} {own : Owns} {adr adr' : List Addr} {hb h : Heap} {σ' : St} (T : Thr C own adr hb σ' adr' h) : Olds hb h := Olds.frm T.frm
/-- a record of fields stands behind a piece of the frame's work -/
theorem Frm.fld {C : Ctx} {σ : St} {own' : Owns} {adr adr' : List Addr} {h h' : Heap} (H : Holds C σ adr h) (F : Frm C σ.own adr h own' adr' h') {b : Addr} {o : Obj} {vs : Array Value} (e : h.get? b = some o) (hd : o.data = .fields vs) : h'.get? b = some o := by
  refine F.keeps H e (fun _ _ q => by rw [hd] at q; cases q) (fun _ q => by rw [hd] at q; cases q) fun ⟨k, xs, h1, h2⟩ => ?_
  obtain ⟨its, ⟨n, ho⟩, _⟩ := H.own k xs b h1 h2
  rw [ho] at e; cases e; cases hd
theorem Flown.frm {C : Ctx} {σ : St} {own' : Owns} {adr adr' : List Addr} {hb h h' : Heap} {e : Addr} {fl c : Value} (H : Holds C σ adr h) (F : Frm C σ.own adr h own' adr' h') (x : Flown fl c hb h e) : Flown fl c hb h' e := by
  obtain ⟨vs, T, ⟨a1, ⟨ob, a2, a3, a4⟩, a5, a6⟩, b1, b2, b3, ot, ts, b4, b5, b6, b7⟩ := x
  exact ⟨vs, T, ⟨a1, ⟨ob, F.fld H a2 a4, a3, a4⟩, a5, a6⟩, b1, b2, b3, ot, ts, F.fld H b4 b6, b5, b6, b7⟩
theorem Flown.soft {hb h h' : Heap} {e : Addr} {fl c : Value} (k : Soft h h') (x : Flown fl c hb h e) : Flown fl c hb h' e := by
  obtain ⟨vs, T, ⟨a1, ⟨ob, a2, a3, a4⟩, a5, a6⟩, b1, b2, b3, ot, ts, b4, b5, b6, b7⟩ := x
  exact ⟨vs, T, ⟨a1, ⟨ob, k.nd a2 (fun _ _ q => by rw [a4] at q; cases q), a3, a4⟩, a5, a6⟩, b1, b2, b3, ot, ts, k.nd b4 (fun _ _ q => by rw [b6] at q; cases q), b5, b6, b7⟩
theorem HOk.frm {C : Ctx} {σ : St} {own' : Owns} {adr adr' : List Addr} {h h' : Heap} (H : Holds C σ adr h) (F : Frm C σ.own adr h own' adr' h') (x : HOk C.A h) : HOk C.A h' := x.imp id fun ⟨e, ob, vs, a, b, c, d⟩ => ⟨e, ob, vs, a, F.fld H b c, c, d⟩
theorem HOk.soft {A : Around} {h h' : Heap} (k : Soft h h') (x : HOk A h) : HOk A h' := x.imp id fun ⟨e, ob, vs, a, b, c, d⟩ => ⟨e, ob, vs, a, k.nd b (fun _ _ q => by rw [c] at q; cases q), c, d⟩

section
variable {C : Ctx} {own : Owns} {adr adr' : List Addr} {hb : Heap} {σ' : St} {M : Model} {A : Around} {s : Shared} {e L : Addr} {fl c : Value} {outer : List Env}
theorem wp_flight (fo : Option Addr) {Q : Unit → Shared → Prop} {E : Value → Shared → Prop} (T : Thr C own adr hb σ' adr' s.heap) (x : Flown fl c hb s.heap e)
    (k : ∀ h', Thr C own adr hb σ' adr' h' → Flown (fo.elim .none fun f => rawInt f) c hb h' e → Q () { s with heap := h' }) : wpAny M A (setFlight (.ref e) fo) Q E s := by
  obtain ⟨vs, tb, ⟨a1, ⟨ob, a2, a3, a4⟩, a5, a6⟩, b1, b2, b3, ot, ts, b4, b5, b6, b7⟩ := x
  have hsz : 3 < ts.size := (Array.getElem?_eq_some_iff.mp b7).1
  unfold setFlight
  refine wpAny_bind (wpAny_field a2 a4 b3 ?_)
  rw [if_pos (show (Value.ref tb != Value.none) = true from by simp)]
  have dt : (Obj.mapFields (·.setIfInBounds 3 (fo.elim .none fun f => rawInt f)) ot).data = .fields (ts.setIfInBounds 3 (fo.elim .none fun f => rawInt f)) := Obj.data_mapFields b6 _
  have gt := Heap.get?_update_self (Obj.mapFields (·.setIfInBounds 3 (fo.elim .none fun f => rawInt f))) b4 (Obj.isFreed_of_fields dt)
  have go : ∀ b, b ≠ tb → (s.heap.update tb (Obj.mapFields (·.setIfInBounds 3 (fo.elim .none fun f => rawInt f)))).get? b = s.heap.get? b := fun b hb => Heap.get?_update_other _ _ (Ne.symm hb)
  refine wpAny_setField b4 b6 hsz (k _ (T.exch (X := (· = tb)) (fun b o eb => ?_) fun b q => ?_) ⟨vs, tb, ⟨a1, ⟨ob, (go e (Ne.symm b1)).trans a2, a3, a4⟩, a5, a6⟩, b1, b2, b3, _, _, gt, (Obj.cls_mapFields _ _).trans b5, dt, by simp [hsz]⟩)
  · by_cases q : b = tb
    · subst q; exact .inl ⟨rfl, by rw [gt]; rfl⟩
    · exact .inr (.inl ((go b q).trans eb))
  · subst q
    exact ⟨b2, fun o eo => by rw [b4] at eo; cases eo; exact ⟨ts, b6, by rw [b5]; decide⟩⟩
theorem wp_note {Q : Unit → Shared → Prop} {E : Value → Shared → Prop} (hfr : C.A.frames = some (C.env :: outer)) (hL : C.env.frame = some L) (hA : A.frames = C.A.frames) (T : Thr C own adr hb σ' adr' s.heap) (x : Raised L c hb s.heap e)
    (k : ∀ h', Thr C own adr hb σ' adr' h' → Flown (rawInt L) c hb h' e → Q () { s with heap := h' }) : wpAny M A (noteFrame (.ref e) C.env) Q E s := by
  rcases x with ⟨vs, ⟨a1, ⟨ob, a2, a3, a4⟩, a5, a6⟩, b1⟩ | ⟨vs, tb, ⟨a1, ⟨ob, a2, a3, a4⟩, a5, a6⟩, b1, b2, b3, ot, ts, b4, b5, b6, b7⟩
  · unfold noteFrame
    simp only [hL]
    refine wpAny_bind (wpAny_field a2 a4 b1 ?_)
    rw [if_neg (by decide)]
    obtain ⟨fs, e1, hfs⟩ := T.holds.frAt
    rw [hfr] at e1; cases e1
    have hff : ∀ l : List Env, (∀ env ∈ l, env ∈ C.env :: outer) → s.heap.FunFrames {} l := by
      intro l
      induction l with
      | nil => intro _; trivial
      | cons env r ih =>
        intro hl
        obtain ⟨k1, M', k2, _, o, es, ep, k3, k4⟩ := hfs env (hl env (.head _))
        exact ⟨k1, ⟨M', o, k2, by simp [Heap.get?], k3, fun vs q => by rw [k4.1] at q; cases q⟩, ih fun x hx => hl x (.tail _ hx)⟩
    refine wpAny_bind (wpAny_frameOf_fun (hA.trans hfr) (hff _ fun _ h => h) hL fun h₁ hs₁ => ?_)
    refine wpAny_bind (wpAny_entryPlaceOf fun pl hpl => ?_)
    unfold EntryCells.newEntry newFields
    refine wpAny_bind (wpAny_newObj_type ?_ (hpl.sizeOk5 _ _ _ _ _))
    have dictF : ∀ b ∈ (C.env :: outer).filterMap (·.frame), ∀ o, s.heap.get? b = some o → B1 < b ∧ ∃ es ep, o.data = .dict es ep ∧ StrKeys es := fun b hb o eo => by
      obtain ⟨env, he, hf⟩ := List.mem_filterMap.mp hb
      obtain ⟨_, M', k2, kM, o', es, ep, k3, k4⟩ := hfs env he
      rw [hf] at k2; cases k2
      rw [k3] at eo; cases eo
      exact ⟨kM, es, ep, k4⟩
    have soft1 : ∀ b o, s.heap.get? b = some o → SoftAt o h₁ b := fun b o eo => by
      by_cases hb : b ∈ (C.env :: outer).filterMap (·.frame)
      · obtain ⟨hB, es, ep, hd, hks⟩ := dictF b hb o eo
        obtain ⟨sl, hsl⟩ := hs₁.2.2 b o eo
        exact .inr ⟨⟨hB, fun es' ep' q => by rw [hd] at q; cases q; exact hks⟩, es, ep, _, hd, hsl, rfl, rfl⟩
      · exact .inl ((hs₁.2.1 b hb).trans eo)
    have e1 : h₁.get? e = some ob := (soft1 e ob a2).nd fun _ _ q => by rw [a4] at q; cases q
    have hsz : 1 < vs.size := by rw [a5]; decide
    have e2 := Heap.get?_push_of_some (h := h₁) { cls := .type "traceback", dict := none, data := .fields ([Value.none, .ref L, .none, rawInt L, .none] ++ (if pl.isEmpty then List.replicate 6 Value.none else pl)).toArray } e1
    refine wpAny_setField e2 a4 hsz ?_
    have hTe : h₁.objs.size ≠ e := Nat.ne_of_gt (Heap.lt_size e1)
    have hd3 := Obj.data_mapFields a4 (·.setIfInBounds 1 (Value.ref h₁.objs.size))
    have e3 := Heap.get?_update_self (Obj.mapFields (·.setIfInBounds 1 (Value.ref h₁.objs.size))) e2 (Obj.isFreed_of_fields hd3)
    have keep : ∀ b, b ≠ e → ∀ o, h₁.get? b = some o → ((h₁.push { cls := .type "traceback", dict := none, data := .fields ([Value.none, .ref L, .none, rawInt L, .none] ++ (if pl.isEmpty then List.replicate 6 Value.none else pl)).toArray }).update e (Obj.mapFields (·.setIfInBounds 1 (Value.ref h₁.objs.size)))).get? b = some o := fun b hb o ho => by
      rw [Heap.get?_update_other _ _ (Ne.symm hb)]
      exact Heap.get?_push_of_some _ ho
    have hT3 : ((h₁.push { cls := .type "traceback", dict := none, data := .fields ([Value.none, .ref L, .none, rawInt L, .none] ++ (if pl.isEmpty then List.replicate 6 Value.none else pl)).toArray }).update e (Obj.mapFields (·.setIfInBounds 1 (Value.ref h₁.objs.size)))).get? h₁.objs.size = some { cls := .type "traceback", dict := none, data := .fields ([Value.none, .ref L, .none, rawInt L, .none] ++ (if pl.isEmpty then List.replicate 6 Value.none else pl)).toArray } := by
      rw [Heap.get?_update_other _ _ (Ne.symm hTe)]
      exact Heap.get?_push_size _ rfl
    have hTn : s.heap.get? h₁.objs.size = none := Heap.get?_none_of_le (by rw [hs₁.1]; exact Nat.le_refl _)
    refine k _ (T.exch (X := (· = e)) (fun b o eb => ?_) fun b q => ?_) ⟨_, h₁.objs.size, ⟨a1, ⟨_, e3, (Obj.cls_mapFields _ _).trans a3, hd3⟩, by simpa using a5, by rw [Array.getElem?_setIfInBounds_ne (by decide)]; exact a6⟩, hTe, T.olds.none hTn, by simp [hsz], _, _, hT3, rfl, rfl, ?_⟩
    · by_cases q : b = e
      · subst q; exact .inl ⟨rfl, by rw [e3]; rfl⟩
      · exact .inr (SoftAt.trans (soft1 b o eb) fun o' e' => .inl (keep b q o' e'))
    · subst q
      exact ⟨a1, fun o eo => by rw [a2] at eo; cases eo; exact ⟨vs, a4, by rw [a3]; decide⟩⟩
    · simp
  · unfold noteFrame
    simp only [hL]
    refine wpAny_bind (wpAny_field a2 a4 b3 ?_)
    rw [if_pos (show (Value.ref tb != Value.none) = true from by simp)]
    refine wpAny_bind (wpAny_field b4 b6 b7 ?_)
    rw [if_pos (show (rawInt L == rawInt L) = true from by simp)]
    exact wpAny_pure (k s.heap T ⟨vs, tb, ⟨a1, ⟨ob, a2, a3, a4⟩, a5, a6⟩, b1, b2, b3, ot, ts, b4, b5, b6, b7⟩)
theorem wp_came {E : Value → Shared → Prop} (hL : C.env.frame = some L) (T : Thr C own adr hb σ' adr' s.heap) (x : Flown fl c hb s.heap e)
    (k : ∀ h', Thr C own adr hb σ' adr' h' → Raised L c hb h' e → E (.ref e) { s with heap := h' }) : cameBackBy M A C.env E (.ref e) s := by
  obtain ⟨vs, tb, ⟨a1, ⟨ob, a2, a3, a4⟩, a5, a6⟩, b1, b2, b3, r⟩ := id x
  unfold cameBackBy
  refine wpAny_bind (wpAny_field a2 a4 b3 ?_)
  rw [if_neg (show ¬ ((Value.ref tb == Value.none) = true) from by simp)]
  refine wpAny_mono (wp_flight C.env.frame T x (Q := fun _ s'' => E (.ref e) s'') (E := E) fun h' T' x' => k h' T' (.inr (by rw [hL] at x'; exact x'))) (fun _ _ h => h) fun _ _ h => h
theorem wp_passOn {α : Type} {what : String} {Q : α → Shared → Prop} {E : Value → Shared → Prop} (hL : C.env.frame = some L) (T : Thr C own adr hb σ' adr' s.heap) (x : Flown fl c hb s.heap e)
    (k : ∀ h', Thr C own adr hb σ' adr' h' → Raised L c hb h' e → E (.ref e) { s with heap := h' }) : wpAny M A (PySem.passOn what (.ref e) C.env : Sem α) Q E s := by
  obtain ⟨vs, tb, ⟨a1, ⟨ob, a2, a3, a4⟩, a5, a6⟩, b1, b2, b3, r⟩ := id x
  unfold PySem.passOn
  refine wpAny_bind (wpAny_field a2 a4 b3 ?_)
  rw [if_neg (show ¬ ((Value.ref tb == Value.none) = true) from by simp)]
  first
    | exact wpAny_bind (wp_flight C.env.frame T x fun h' T' x' => wpAny_throw (k h' T' (.inr (by rw [hL] at x'; exact x'))))
    | exact wpAny_bind (wpAny_pure (wpAny_bind (wp_flight C.env.frame T x fun h' T' x' => wpAny_throw (k h' T' (.inr (by rw [hL] at x'; exact x'))))))
end
end Rt

/-! V7c -/
namespace Rt
/-- what raises -/
noncomputable def New (A : Around) (hb h : Heap) (x : Addr) : Prop := ∃ vs, XAt hb h x vs (ctxt A) ∧ vs[1]? = some .none
noncomputable def EvX (C : Ctx) (σ : St) (e : Expr) : Prop := ∀ adr s (Q : Value → Shared → Prop) (E : Value → Shared → Prop), Holds C σ adr s.heap → HOk C.A s.heap →
  (∀ x h' tk, Soft s.heap h' → New C.A s.heap h' x → E (.ref x) { s with heap := h', toks := tk }) → wpAny (model C.P.prog C.P.w) C.A (eval e C.env) Q E s
noncomputable def TrX (C : Ctx) (σ : St) (e : Expr) : Prop := ∀ adr s (Q : Bool → Shared → Prop) (E : Value → Shared → Prop), Holds C σ adr s.heap → HOk C.A s.heap →
  (∀ x h' tk, Soft s.heap h' → New C.A s.heap h' x → E (.ref x) { s with heap := h', toks := tk }) → wpAny (model C.P.prog C.P.w) C.A (isTrue e C.env (eval e C.env)) Q E s
/-- where a frame is on the stack -/
structure OnTop (C : Ctx) (L : Addr) : Prop where
  L : C.env.frame = some L
  fr : ∀ fs, C.A.frames = some fs → ∃ outer, fs = C.env :: outer
noncomputable def ExX (C : Ctx) (L : Addr) (P : Value → Prop) (σ : St) (st : Stmt) (σ' : St) : Prop := ∀ adr s (Q : Flow → Shared → Prop) (E : Value → Shared → Prop), Holds C σ adr s.heap → HOk C.A s.heap →
  (∀ x h' tk adr' c, P c → Thr C σ.own adr s.heap σ' adr' h' → Raised L c s.heap h' x → E (.ref x) { s with heap := h', toks := tk }) → wpAny (model C.P.prog C.P.w) C.A (exec st C.env) Q E s
noncomputable def ExsX (C : Ctx) (L : Addr) (P : Value → Prop) (σ : St) (st : List Stmt) (σ' : St) : Prop := ∀ adr s (Q : Flow → Shared → Prop) (E : Value → Shared → Prop), Holds C σ adr s.heap → HOk C.A s.heap →
  (∀ x h' tk adr' c, P c → Thr C σ.own adr s.heap σ' adr' h' → Raised L c s.heap h' x → E (.ref x) { s with heap := h', toks := tk }) → wpAny (model C.P.prog C.P.w) C.A (execs st C.env) Q E s
theorem New.raised {A : Around} {hb h : Heap} {x L : Addr} (y : New A hb h x) : Raised L (ctxt A) hb h x := .inl y
theorem New.mono {A : Around} {h0 hb h : Heap} {x : Addr} (y : New A hb h x) (k : Olds h0 hb) : New A h0 h x := let ⟨vs, a, b⟩ := y; ⟨vs, a.mono k, b⟩
section
variable {C : Ctx} {σ σ₁ σ' : St} {L : Addr} {P : Value → Prop}
theorem evX_item {value slice : Expr} {pos : Pos} {xs : List PV} {i : Int} (hv : Ev C σ value (.v (.list xs))) (hi : Ev C σ slice (.v (.int i))) (h0 : 0 ≤ i) (hout : (xs.length : Int) ≤ i) (hhi : i < 2 ^ 60)
    (hs : ∀ o i, subscripted slice false o i = operate [o, i] (getItem o i)) : EvX C σ (.Subscript value slice pos) := by
  intro adr s Q E H hk k
  refine Subscript_ (hv adr s _ E H fun o h1 t1 k1 w1 => hi adr _ _ E (H.stays k1) fun i h2 t2 k2 w2 => ?_)
  have w1' : Val (C.avo σ.own adr) h2 o (.list xs) := Val.stays k2 w1
  cases w2
  cases w1' with
  | list l n w =>
  have e1 := w.length
  simp only [Array.length_toList] at e1
  refine tail_any l.typeIs slot_list_getitem.lookup (wp_item_out (s := { s with heap := h2, toks := t2 }) ((hk.soft k1).soft k2) l h0 (by lia) (by lia) fun h3 t3 x t k3 hn ⟨ob, a, b, c⟩ => ?_) (hs _ _)
  have kk : Soft s.heap h3 := stays_trans (stays_trans k1 k2) (.of k3)
  have nn : s.heap.get? x = none := (Olds.soft (stays_trans k1 k2)).none hn
  exact k x h3 t3 kk ⟨_, ⟨nn, ⟨ob, a, b, c⟩, rfl, rfl⟩, rfl⟩
theorem trX_cmp {l r : Expr} {op : CmpOp} {pos : Pos} (hl : EvX C σ l) (hm : behindInMarks op r = false) : TrX C σ (.Compare l [op] [r] pos) := by
  intro adr s Q E H hk k
  exact wpAny_isTrue_Compare1 (hl adr s _ E H hk k) hm
theorem exX_assign {x : Str} {e : Expr} {p pos : Pos} (h : EvX C σ e) (hs : swapsWith e (some (.Name x p)) pos.line C.env = pure false) (hP : P (ctxt C.A)) : ExX C L P σ (.Assign [.Name x p] e pos) σ := by
  intro adr s Q E H hk k
  exact wpAny_Assign_Name (h adr s _ E H hk fun x h' tk kk hn => k x h' tk adr _ hP ((Thr.start H).soft kk) hn.raised) hs
theorem exX_if {test : Expr} {a b : List Stmt} {pos : Pos} {c : Bool} (ht : Tr C σ test c) (h1 : c = true → ExsX C L P σ a σ') (h2 : c = false → ExsX C L P σ b σ') : ExX C L P σ (.If test a b pos) σ' := by
  intro adr s Q E H hk k
  refine wpAny_If (ht adr s _ E H fun h' tk k' => ?_)
  have kk : ∀ x h2 tk2 adr' c, P c → Thr C σ.own adr h' σ' adr' h2 → Raised L c h' h2 x → E (.ref x) { s with heap := h2, toks := tk2 } := fun x h2 tk2 adr' c hP T hr =>
    k x h2 tk2 adr' c hP ⟨T.holds, (Frm.of_stays k').trans T.frm, (Thr.start H).base⟩ (hr.mono (Olds.soft k'))
  cases c with
  | true => rw [if_pos rfl]; exact h1 rfl adr _ Q E (H.stays k') (hk.soft k') kk
  | false => rw [if_neg (by decide)]; exact h2 rfl adr _ Q E (H.stays k') (hk.soft k') kk
theorem exsX_here {st : Stmt} {rest : List Stmt} (h : ExX C L P σ st σ') : ExsX C L P σ (st :: rest) σ' := fun adr s _ E H hk k => wpAny_execs_cons (h adr s _ E H hk k)
theorem exsX_next {st : Stmt} {rest : List Stmt} (h : Ex C σ st .next σ₁) (hr : ExsX C L P σ₁ rest σ') : ExsX C L P σ (st :: rest) σ' := by
  intro adr s Q E H hk k
  refine wpAny_execs_cons (h adr s _ E H fun f h1 t1 a1 H1 F1 w1 => ?_)
  rw [fl_next w1]
  exact hr a1 _ Q E H1 (hk.frm H F1) fun x h2 t2 a2 c hP T hr => k x h2 t2 a2 c hP ⟨T.holds, F1.trans T.frm, (Thr.start H).base⟩ (hr.mono (Olds.frm F1))
/-- the runs of a while that ends in its test's raising -/
inductive WhileX (C : Ctx) (test : Expr) (body : List Stmt) : Nat → St → St → Prop
  | test {s0 : St} : TrX C s0 test → WhileX C test body 0 s0 s0
  | next {n : Nat} {s0 s1 s2 : St} : Tr C s0 test true → Exs C s0 body .next s1 → WhileX C test body n s1 s2 → WhileX C test body (n + 1) s0 s2
theorem exX_while {test : Expr} {body : List Stmt} {pos : Pos} {n : Nat} (O : OnTop C L) (hP : P (ctxt C.A)) (R : WhileX C test body n σ σ') : ExX C L P σ (.While test body [] pos) σ' := by
  intro adr s Q E H hk k
  refine wpAny_While (codeAny_whileLoop (fun n' s' => ∃ σ₁ h₁ t₁ a₁, s' = { s with heap := h₁, toks := t₁ } ∧ Thr C σ.own adr s.heap σ₁ a₁ h₁ ∧ HOk C.A h₁ ∧ WhileX C test body n' σ₁ σ') ?_ n ⟨σ, s.heap, s.toks, adr, rfl, .start H, hk, R⟩)
  rintro n' s' ⟨σ₁, h₁, t₁, a₁, rfl, T₁, hk₁, R₁⟩
  cases R₁ with
  | test ht =>
    refine ht a₁ _ _ _ T₁.holds hk₁ fun x h2 t2 k2 hn => ?_
    have T2 := T₁.soft k2
    obtain ⟨fs, hfs, _⟩ := T2.holds.frAt
    obtain ⟨outer, rfl⟩ := O.fr fs hfs
    refine wp_note (s := { s with heap := h2, toks := t2 }) hfs O.L rfl T2 (hn.mono T₁.olds).raised fun h3 T3 x3 => ?_
    exact wp_came (s := { s with heap := h3, toks := t2 }) O.L T3 x3 fun h4 T4 x4 => k x h4 t2 a₁ _ hP T4 x4
  | next ht hb hr =>
    refine ht a₁ _ _ _ T₁.holds fun h2 t2 k2 => ?_
    rw [if_pos rfl]
    refine hb a₁ _ _ _ (T₁.holds.stays k2) fun f h3 t3 a3 H3 F3 w3 => ?_
    rw [fl_next w3]
    exact ⟨_, Nat.lt_succ_self _, _, h3, t3, a3, rfl, (T₁.soft k2).then H3 F3, (hk₁.soft k2).frm (T₁.holds.stays k2) F3, hr⟩

/-- the frame, with an exception in hand -/
noncomputable def mkC (C : Ctx) (e : Addr) : Ctx := { C with A := C.A.mark (some (.ref e)) }
theorem Holds.mrk {adr : List Addr} {h : Heap} {e : Addr} (H : Holds C σ adr h) : Holds (mkC C e) σ adr h :=
  ⟨H.keep, H.glb, H.kind, H.gl, H.ns, H.cellsIn, H.vars, H.len, H.nodup, H.own, H.fresh, H.adrin, H.avold, ⟨⟨H.room.depth, H.room.units⟩, H.room.fr⟩⟩
theorem Holds.unmk {adr : List Addr} {h : Heap} {e : Addr} (H : Holds (mkC C e) σ adr h) (R : RoomH C) : Holds C σ adr h :=
  ⟨H.keep, H.glb, H.kind, H.gl, H.ns, H.cellsIn, H.vars, H.len, H.nodup, H.own, H.fresh, H.adrin, H.avold, R⟩
theorem Frm.unmk {own own' : Owns} {adr adr' : List Addr} {h h' : Heap} {e : Addr} (F : Frm (mkC C e) own adr h own' adr' h') : Frm C own adr h own' adr' h' := ⟨F.keep, F.als, F.alive, F.adrs⟩
theorem Fl.unmk {adr : List Addr} {h : Heap} {e : Addr} {f : Flow} {o : Out} (F : Fl (mkC C e) σ adr h f o) : Fl C σ adr h f o := by
  cases f <;> cases o <;> exact F
theorem CtxOk.mrk {e : Addr} (K : CtxOk C) : CtxOk (mkC C e) := ⟨K.nodup, K.apart, K.locals, K.hp⟩
theorem OnTop.mrk {e : Addr} (O : OnTop C L) : OnTop (mkC C e) L := ⟨O.L, O.fr⟩
theorem ctxt_mk {e : Addr} : ctxt (mkC C e).A = .ref e := rfl

theorem Flown.hok {e : Addr} {fl : Value} {hb h : Heap} (x : Flown fl .none hb h e) : HOk (mkC C e).A h := by
  obtain ⟨vs, T, ⟨a1, ⟨ob, a2, a3, a4⟩, a5, a6⟩, _⟩ := x
  exact .inr ⟨e, ob, vs, rfl, a2, a4, a6⟩
theorem ref_ne_bp (a : Addr) : Value.ref a ≠ byPass := fun x => nomatch x

/-- try: .. finally: .., where the block raises, and the suite ends well -/
theorem exX_tryf_on {body : List Stmt} {f0 : Stmt} {fs : List Stmt} {pos : Pos} {P' : Value → Prop} (O : OnTop C L) (hb : ExsX C L P' σ body σ₁) (hP : ∀ c, P' c → P c) (hf : ∀ e, Exs (mkC C e) σ₁ (f0 :: fs) .next σ') : ExX C L P σ (.Try body [] [] (f0 :: fs) pos) σ' := by
  intro adr s Q E H hk k
  refine wpAny_Try_finally (hb adr s _ _ H hk fun x h1 t1 a1 c hc T1 r1 => ?_)
  obtain ⟨fr, hfr, _⟩ := T1.holds.frAt
  obtain ⟨outer, rfl⟩ := O.fr fr hfr
  refine wp_note (s := { s with heap := h1, toks := t1 }) hfr O.L rfl T1 r1 fun h2 T2 x2 => ⟨ref_ne_bp _, ?_⟩
  refine wp_note (s := { s with heap := h2, toks := t1 }) hfr O.L rfl T2 (.inr x2) fun h3 T3 x3 => ?_
  refine wp_flight (s := { s with heap := h3, toks := t1 }) none T3 x3 fun h4 T4 x4 => ?_
  refine hf x a1 { s with heap := h4, toks := t1 } _ _ T4.holds.mrk fun f h5 t5 a5 H5 F5 w5 => ?_
  rw [fl_next w5]
  have F5' := F5.unmk
  have T5 := T4.then (H5.unmk T4.holds.room) F5'
  exact wp_passOn (s := { s with heap := h5, toks := t5 }) O.L T5 (x4.frm T4.holds F5') fun h6 T6 x6 => k x h6 t5 a5 c (hP c hc) T6 x6
/-- where the suite raises as well -/
theorem exX_tryf_new {body : List Stmt} {f0 : Stmt} {fs : List Stmt} {pos : Pos} {P' : Value → Prop} (O : OnTop C L) (hb : ExsX C L (· = .none) σ body σ₁) (hP : ∀ c, P' c → P c) (hf : ∀ e, ExsX (mkC C e) L P' σ₁ (f0 :: fs) σ') : ExX C L P σ (.Try body [] [] (f0 :: fs) pos) σ' := by
  intro adr s Q E H hk k
  refine wpAny_Try_finally (hb adr s _ _ H hk fun x h1 t1 a1 c hc T1 r1 => ?_)
  subst hc
  obtain ⟨fr, hfr, _⟩ := T1.holds.frAt
  obtain ⟨outer, rfl⟩ := O.fr fr hfr
  refine wp_note (s := { s with heap := h1, toks := t1 }) hfr O.L rfl T1 r1 fun h2 T2 x2 => ⟨ref_ne_bp _, ?_⟩
  refine wp_note (s := { s with heap := h2, toks := t1 }) hfr O.L rfl T2 (.inr x2) fun h3 T3 x3 => ?_
  refine wp_flight (s := { s with heap := h3, toks := t1 }) none T3 x3 fun h4 T4 x4 => ?_
  refine hf x a1 { s with heap := h4, toks := t1 } _ _ T4.holds.mrk x4.hok fun y h5 t5 a5 c' hc' T5 r5 => ?_
  have T5' : Thr C σ.own adr s.heap σ' a5 h5 := T4.then (T5.holds.unmk T4.holds.room) T5.frm.unmk
  refine wp_note (C := C) (s := { s with heap := h5, toks := t5 }) hfr O.L rfl T5' (r5.mono T4.olds) fun h6 T6 x6 => ?_
  exact wp_came (s := { s with heap := h6, toks := t5 }) O.L T6 x6 fun h7 T7 x7 => k y h7 t5 a5 c' (hP c' hc') T7 x7
/-- where the block ends well, and the suite raises -/
theorem exX_tryf_plain {body : List Stmt} {f0 : Stmt} {fs : List Stmt} {pos : Pos} (O : OnTop C L) (hb : Exs C σ body .next σ₁) (hf : ExsX C L P σ₁ (f0 :: fs) σ') : ExX C L P σ (.Try body [] [] (f0 :: fs) pos) σ' := by
  intro adr s Q E H hk k
  refine wpAny_Try_finally (hb adr s _ _ H fun f h1 t1 a1 H1 F1 w1 => ?_)
  rw [fl_next w1]
  refine wpAny_execs_nil ?_
  have T1 := (Thr.start H).then H1 F1
  refine hf a1 { s with heap := h1, toks := t1 } _ _ H1 (hk.frm H F1) fun y h5 t5 a5 c' hc' T5 r5 => ?_
  have T5' : Thr C σ.own adr s.heap σ' a5 h5 := T1.then T5.holds T5.frm
  obtain ⟨fr, hfr, _⟩ := T5'.holds.frAt
  obtain ⟨outer, rfl⟩ := O.fr fr hfr
  refine wp_note (C := C) (s := { s with heap := h5, toks := t5 }) hfr O.L rfl T5' (r5.mono T1.olds) fun h6 T6 x6 => ?_
  exact wp_came (s := { s with heap := h6, toks := t5 }) O.L T6 x6 fun h7 T7 x7 => k y h7 t5 a5 c' hc' T7 x7
/-- where both end well -/
theorem ex_tryf {body : List Stmt} {f0 : Stmt} {fs : List Stmt} {pos : Pos} (hb : Exs C σ body .next σ₁) (hf : Exs C σ₁ (f0 :: fs) .next σ') : Ex C σ (.Try body [] [] (f0 :: fs) pos) .next σ' := by
  intro adr s Q E H k
  refine wpAny_Try_finally (hb adr s _ _ H fun f h1 t1 a1 H1 F1 w1 => ?_)
  rw [fl_next w1]
  refine wpAny_execs_nil (hf a1 { s with heap := h1, toks := t1 } _ _ H1 fun g h2 t2 a2 H2 F2 w2 => ?_)
  rw [fl_next w2]
  exact k .next h2 t2 a2 H2 (F1.trans F2) trivial

theorem isExc_IE : isSubtype (.type "IndexError") (.type "BaseException") = pure true := PySem.F.isExc_IndexError
/-- try: .. except IndexError: .., where the block raises -/
theorem ex_tryx {body b0s : List Stmt} {b0 : Stmt} {np hp pos : Pos} {x : Str} {o : Out} (O : OnTop C L) (hh : C.A.handled = none) (hb : ExsX C L P σ body σ₁) (hx : ∀ e, Ev (mkC C e) σ₁ (.Name x np) (.v (.atom (.type "IndexError")))) (hs : ∀ e, Exs (mkC C e) σ₁ (b0 :: b0s) o σ') :
    Ex C σ (.Try body [.ExceptHandler (some (.Name x np)) none (b0 :: b0s) hp] [] [] pos) o σ' := by
  intro adr s Q E H k
  refine wpAny_Try_except (hb adr s _ _ H (.inl hh) fun x h1 t1 a1 c hc T1 r1 => ?_)
  obtain ⟨fr, hfr, _⟩ := T1.holds.frAt
  obtain ⟨outer, rfl⟩ := O.fr fr hfr
  refine wp_note (s := { s with heap := h1, toks := t1 }) hfr O.L rfl T1 r1 fun h2 T2 x2 => ?_
  refine wp_flight (s := { s with heap := h2, toks := t1 }) none T2 x2 fun h3 T3 x3 => ?_
  refine wpAny_handleBy_builtin (X := "IndexError") (T := "IndexError") (b := true) isExc_IE PySem.F.notTuple_IndexError PySem.F.self_IndexError (hx x a1 { s with heap := h3, toks := t1 } _ _ T3.holds.mrk fun v h4 t4 k4 w4 => ?_)
  have w4' : Val ((mkC C x).avo σ₁.own a1) h4 v (.atom (.type "IndexError")) := w4
  cases w4'
  have x4 := x3.soft k4
  have T4 := T3.soft k4
  refine ⟨rfl, ?_, ?_⟩
  · obtain ⟨vs, T, ⟨_, ⟨ob, q1, q2, _⟩, _⟩, _⟩ := x4
    exact ⟨ob, q1, q2⟩
  · rw [if_pos rfl]
    refine wp_flight (s := { s with heap := h4, toks := t4 }) none T4 x4 fun h5 T5 x5 => ?_
    refine hs x a1 { s with heap := h5, toks := t4 } _ _ T5.holds.mrk fun f h6 t6 a6 H6 F6 w6 => ?_
    exact k f h6 t6 a6 (H6.unmk T5.holds.room) (T5.frm.trans F6.unmk) w6.unmk
end
end Rt

/-! V7d -/
namespace Rt
theorem list_extendW (l : Addr) (items : Array Value) (n : Nat) (b : Addr) (items2 : Array Value) (n2 : Nat) (dd2 : Option Addr) (sl2 : Array (Option Value)) (hc0 : ¬(!items.isEmpty && Builtin.List.listTooLong (items.size + items2.size)) = true) (hc1 : items.size ≤ sizeLine) (hs2 : items.size + items2.size ≤ sizeLine + 1) :
    Meets (Builtin.«list.extend» ⟨[.ref l, .ref b], []⟩) (fun _ R s => s.heap.get? l = some { cls := .type "list", dict := none, data := .seq items n, slots := #[] } ∧ s.heap.get? b = some { cls := .type "list", dict := dd2, data := .seq items2 n2, slots := sl2 } ∧ R (.ok (.ret Value.none)) { s with heap := s.heap.update l (Obj.mapSeq fun x => x ++ items2), toks := s.toks }) :=
  .of_wp fun prog w A R s h => by
    obtain ⟨hp, g, d, tk, os⟩ := s; obtain ⟨hl, hb, h⟩ := h; have f1 := PySem.AutoSeq1.idx_int; have f2 := PySem.AutoSeq1.sub_tuple_tuple; have f3 := PySem.AutoSeq1.sub_list_list; have f4 := PySem.AutoSeq1.sub_tuple_list; have f5 := PySem.AutoSeq1.sub_list_tuple
    have hz' : (items ++ items2).size ≤ sizeLine + 1 := by rw [Array.size_append]; exact hs2
    wp_walk using (wpAny_updateSeq hl rfl (hz := hc1) (_hz' := hz')), wpAny_loadPart' hl, wpAny_loadPart' hb; exact ⟨_, rfl, h⟩
section
variable {P : Pr} {A : Around}
theorem b_gtS (x y : Str) : BinR P A (compareOp .Gt) (.str x) (.str y) (.bool (decide (y.cps.toList < x.cps.toList))) := by
  intro av s v1 v2 Q E _ _ _ h1 h2 k; cases h1; cases h2
  with_reducible refine PySem.P.gt_str ?_
  exact k _ s.heap s.toks (stays_refl _) (.bool _)
end
section
variable {C : Ctx} {σ : St}
theorem svals_of {av : Addr → Prop} {adr : List Addr} {h : Heap} {vs : List Value} {ps : List PV} (w : Vals av h vs ps) : SVals av adr h vs (ps.map .v) := by
  induction vs generalizing ps with
  | nil => cases w; exact .nil
  | cons v vs ih => cases w with
    | cons a b => exact .cons a (ih b)
/-- x.extend(e) on a list of the frame's own -/
theorem ex_extend (k : Nat) {o e : Expr} {apos cpos pos : Pos} {ys : List PV} {xs : List SV} (ho : Ev C σ o (.mut k)) (hk : σ.own[k]? = some (some xs)) (he : Ev C σ e (.v (.list ys))) (hsz : xs.length + ys.length ≤ 1000000) (hb : noBase o = true) (hst : isStar e = false) (hp : (apos.endLine == cpos.line) = true)
    (hi : interactive C.env = false) (hs : swapsWith (.Call (.Attribute o "extend" apos) [e] [] cpos) none pos.line C.env = pure false) :
    Ex C σ (.Expr (.Call (.Attribute o "extend" apos) [e] [] cpos) pos) .next (σ.updOwn k (xs ++ ys.map .v)) := by
  have hL : sizeLine = 16777216 := rfl
  intro adr s Q E H kk
  refine wpAny_Expr ?_ hi hs
  refine MethodCall_ (ho adr s _ E H fun ov h1 t1 k1 w1 => ?_) (meth_eq hb (by rw [List.all_cons, hst]; rfl) (by show 1 < 30; decide) hp)
  obtain ⟨a, ha, rfl⟩ := w1
  have H1 := H.stays k1
  obtain ⟨its, l, ws⟩ := H1.own k xs a hk ha
  obtain ⟨n, hob⟩ := id l
  refine PySem.getMethod_builtin (T := "list") ⟨_, hob, rfl⟩ F.plainAttrs_list F.slot_list_extend F.type_list_extend (fun b e => by cases e; exact ⟨_, hob, rfl⟩) ?_
  refine callWith_method1 (wpAny_items_cons (he adr _ _ E H1 fun v h2 t2 k2 w2 => wpAny_items_nil ?_) (starEach_plain hst)) (starEach_plain hst) rfl
  obtain ⟨n2, hob2⟩ := plain_stays k2 l
  have e1 := ws.length
  simp only [Array.length_toList] at e1
  have w2' : Val (C.avo σ.own adr) h2 v (.list ys) := w2
  cases w2' with
  | list l2 na2 wy =>
  rename_i b its2
  have e2 := wy.length
  simp only [Array.length_toList] at e2
  obtain ⟨⟨cls, dd, data, sl⟩, hb2, hc, m2, hd⟩ := l2
  simp only at hc hd
  subst hc hd
  have l3 : (h2.update a (Obj.mapSeq fun x => x ++ its2)).PlainList a (its ++ its2) := plain_map ⟨n2, hob2⟩ _
  refine call_meets F.slot_list_extend ⟨_, hob2, rfl⟩ F.entry_list_extend (F.args_list_extend_2 _ _) (list_extendW a its n2 b its2 m2 dd sl (extend_door (by lia)) (by lia) (by lia)) ⟨hob2, hb2, ?_⟩
  have H2 := H1.stays k2
  refine kk .next _ t2 adr (H2.updOwn hk ha (Heap.SameBut.update ..) l3 ?_) ((Frm.of_stays (stays_trans k1 k2)).trans (Frm.updOwn hk ha (Heap.SameBut.update ..) ?_)) trivial
  · rw [Array.toList_append]
    exact (ws.stays k2).append (svals_of wy)
  · obtain ⟨m3, hm3⟩ := l3
    rw [hm3]; rfl
/-- x = y = e -/
theorem ex_two (K : CtxOk C) (i j : Nat) {x y : Str} {e : Expr} {p q pos : Pos} {sv : SV} (hx : C.names[i]? = some x) (hy : C.names[j]? = some y) (kx : Slotted C x) (ky : Slotted C y) (h : Ev C σ e sv) (hw : swappedStores [.Name x p, .Name y q] e C.env = pure none) :
    Ex C σ (.Assign [.Name x p, .Name y q] e pos) .next ((σ.setv i sv).setv j sv) := by
  intro adr s Q E H k
  refine wpAny_Assign_two (h adr s _ E H fun v h1 t1 k1 w1 => ?_) rfl hw
  refine wpAny_assign_Name (store_any K i hx kx (s := { s with heap := h1, toks := t1 }) (H.stays k1) w1 fun h2 t2 H2 F2 kp => ?_)
  refine wpAny_assign_Name (store_any K j hy ky (s := { s with heap := h2, toks := t2 }) H2 (kp _ _ w1) fun h3 t3 H3 F3 _ => ?_)
  exact k .next h3 t3 adr H3 ((Frm.of_stays k1).trans (F2.trans F3)) trivial
theorem setv_self {σ : St} {i : Nat} {sv : SV} (h : σ.loc[i]? = some sv) : σ.setv i sv = σ := by
  obtain ⟨q, e⟩ := List.getElem?_eq_some_iff.mp h
  show (⟨σ.loc.set i sv, σ.own⟩ : St) = σ
  rw [← e, List.set_getElem_self]
theorem setv_ne {σ : St} {i j : Nat} {sv : SV} (h : i ≠ j) : (σ.setv i sv).loc[j]? = σ.loc[j]? := List.getElem?_set_ne h
theorem setv_at {σ : St} {i : Nat} {sv sv' : SV} (h : σ.loc[i]? = some sv') : (σ.setv i sv).loc[i]? = some sv := by
  show (σ.loc.set i sv)[i]? = _
  rw [List.getElem?_set, if_pos rfl, if_pos (List.getElem?_eq_some_iff.mp h).1]

/-- how far the same goes on -/
noncomputable def same (v : Str) (l : List Str) : Nat := (l.takeWhile (· == v)).length
theorem same_le (v : Str) (l : List Str) : same v l ≤ l.length := by
  unfold same
  exact (List.takeWhile_sublist _).length_le
/-- i += 1 on, while x[i] == v -/
theorem skip_loop (K : CtxOk C) {nX nI nV : Str} {p1 p2 p3 p4 p5 p6 p7 p8 : Pos} {k7 : Nat} {ix ii iv : Nat} (hX : C.names[ix]? = some nX) (hI : C.names[ii]? = some nI) (hV : C.names[iv]? = some nV) (dX : sameS nX "__debug__" = false) (dI : sameS nI "__debug__" = false) (dV : sameS nV "__debug__" = false) (sl : Slotted C nI)
    (n1 : ii ≠ ix) (n2 : ii ≠ iv) (xs : List Str) (v : Str) (hsz : xs.length ≤ 100000) : ∀ (n : Nat) (σ : St) (i : Nat), n = xs.length - i → i ≤ xs.length → σ.loc[ix]? = some (.v (.list (xs.map .str))) → σ.loc[ii]? = some (.v (.int i)) → σ.loc[iv]? = some (.v (.str v)) →
    (i + same v (xs.drop i) < xs.length → ∃ m, WhileR C (.Compare (.Subscript (.Name nX p1) (.Name nI p2) p3) [.Eq] [.Name nV p4] p5) [.AugAssign (.Name nI p6) .Add (.Constant (.int 1) k7 p7) p8] m σ .next (σ.setv ii (.v (.int (i + same v (xs.drop i) : Nat))))) ∧
    (i + same v (xs.drop i) = xs.length → ∃ m, WhileX C (.Compare (.Subscript (.Name nX p1) (.Name nI p2) p3) [.Eq] [.Name nV p4] p5) [.AugAssign (.Name nI p6) .Add (.Constant (.int 1) k7 p7) p8] m σ (σ.setv ii (.v (.int (i + same v (xs.drop i) : Nat))))) := by
  intro n
  induction n with
  | zero =>
    intro σ i hn hi eX eI eV
    have hi' : i = xs.length := by lia
    have e0 : same v (xs.drop i) = 0 := by rw [hi', List.drop_length]; rfl
    rw [e0, Nat.add_zero]
    refine ⟨fun h => by lia, fun _ => ⟨0, ?_⟩⟩
    rw [setv_self eI]
    exact .test (trX_cmp (evX_item (cellKind hX eX dX) (cellKind hI eI dI) (by lia) (by rw [List.length_map]; lia) (by lia) fun _ _ => rfl) rfl)
  | succ n ih =>
    intro σ i hn hi eX eI eV
    have hlt : i < xs.length := by lia
    have hd : xs.drop i = xs[i] :: xs.drop (i + 1) := List.drop_eq_getElem_cons hlt
    have eg : xs[i]? = some xs[i] := List.getElem?_eq_getElem hlt
    have hL : sizeLine = 16777216 := rfl
    have tst : Tr C σ (.Compare (.Subscript (.Name nX p1) (.Name nI p2) p3) [.Eq] [.Name nV p4] p5) (xs[i] == v) :=
      tr_cmp (ev_sub (cellKind hX eX dX) (cellKind hI eI dI) (g_list (xs.map .str) i (.str xs[i]) (by lia) (by rw [Int.toNat_natCast, List.getElem?_map, eg]; rfl) (by rw [List.length_map]; lia)) fun _ _ => rfl) (cellKind hV eV dV) (b_eqS _ _) rfl
    cases hc : xs[i] == v with
    | true =>
      rw [hc] at tst
      have es : same v (xs.drop i) = 1 + same v (xs.drop (i + 1)) := by
        rw [hd]; unfold same
        rw [List.takeWhile_cons, if_pos hc, List.length_cons]; lia
      have step : Exs C σ [.AugAssign (.Name nI p6) .Add (.Constant (.int 1) k7 p7) p8] .next (σ.setv ii (.v (.int (i + 1 : Nat)))) := exs_cons (ex_aug K ii hI sl eI ev_int (b_iadd _ _)) exs_nil
      obtain ⟨q1, q2⟩ := ih (σ.setv ii (.v (.int (i + 1 : Nat)))) (i + 1) (by lia) hlt ((setv_ne n1).trans eX) (setv_at eI) ((setv_ne n2).trans eV)
      have ea : i + same v (xs.drop i) = i + 1 + same v (xs.drop (i + 1)) := by lia
      rw [ea]
      rw [setv_setv] at q1 q2
      exact ⟨fun h => let ⟨m, R⟩ := q1 h; ⟨m + 1, .next tst step R⟩, fun h => let ⟨m, R⟩ := q2 h; ⟨m + 1, .next tst step R⟩⟩
    | false =>
      rw [hc] at tst
      have es : same v (xs.drop i) = 0 := by
        rw [hd]; unfold same
        rw [List.takeWhile_cons, if_neg (by rw [hc]; decide)]; rfl
      rw [es, Nat.add_zero]
      refine ⟨fun _ => ⟨0, ?_⟩, fun h => by lia⟩
      rw [setv_self eI]
      exact .done tst
end
end Rt

/-! V8a -/
namespace Rt
noncomputable def eIE : Ent := ⟨"IndexError", .t "IndexError", fun _ => none⟩
theorem ok_IE {P : Pr} (B : Base P) (n : Nat) : EntOk P n eIE := ⟨B.nb "IndexError" (by simp), Boot.«IndexError», by decide, fun _ _ h => nomatch h⟩
theorem onTop_fctx {P : Pr} {n : Nat} {d : DefRec} {names : List Str} {L a : Addr} {cd : Value} {A : Around} {av : Addr → Prop} {h₀ : Heap} : OnTop (fctx P n d names L a cd A av h₀) L := by
  refine ⟨rfl, fun fs e => ?_⟩
  have e' : A.frames.map (envOfC d.name d.scope L a cd :: ·) = some fs := e
  obtain ⟨o, _, rfl⟩ := Option.map_eq_some_iff.mp e'
  exact ⟨o, rfl⟩
/-- a def is right, if its block is; and its frame is on the stack -/
theorem def_okF {P : Pr} {n : Nat} (d : DefRec) (hd : d ∈ P.recs) {f : Value} (hf : P.mg d.name = some f) (xs names : List Str) (ps : List PV) (r : PV) {T : List Ent} (hT : ∀ e ∈ T, EntOk P n e)
    (hx : xs.length = ps.length) (hnames : names.take xs.length = xs) (hnd : nodupS names = true)
    (hbind : ∀ pm cd doc vs, vs.length = xs.length → bindArgs (docDef d.name d.params d.body d.scope pm cd doc) ⟨vs, []⟩ = pure (xs.zip vs))
    (hkind : kindsOk d xs = true) (hco : d.scope.isCoroutine = false) (hgen : d.scope.isGenerator = false) (hk : d.scope.kind = .function) (hfr : d.scope.names.all (fun p => p.2 != .free) = true) (hn : nodupS (d.scope.names.map (·.1)) = true)
    (body : ∀ C L, C.P = P → CtxOk C → Stat C (dSc d names T) → Slots C (dSc d names T) → OnTop C L →
      ∃ σ' sv, Exs C (st0 ps (names.length - xs.length)) d.body (.ret sv) σ' ∧ sv = .v r) : CallR P (n + 1) f ps r :=
  call_ok d hd hf xs names ps r hx hnames (nodupS_iff hnd) hbind hkind hco hgen hk fun L a cd A av h₀ hh K fr => body _ L rfl K (stat_def hT hk hfr hn hh) (slots_def hn fr) onTop_fctx

noncomputable abbrev dSld : DefRec := dr 1 (by decide)
noncomputable abbrev scSld : Sc := dSc dSld ["expected", "actual", "i", "j", "missing", "unexpected", "e", "a"] [eIE]
noncomputable def stSld (xs ys : List Str) (i j : Nat) (m u : List Str) (e a : SV) : St := ⟨[.v (.list (xs.map .str)), .v (.list (ys.map .str)), .v (.int i), .v (.int j), .mut 0, .mut 1, e, a], [some ((m.map PV.str).map .v), some ((u.map PV.str).map .v)]⟩
noncomputable def ltS (x y : Str) : Bool := decide (x.cps.toList < y.cps.toList)
noncomputable def stepI (xs ys : List Str) (i j : Nat) : Nat × Nat × List Str × List Str := match xs[i]?, ys[j]? with
  | some x, some y => if ltS x y then (i + 1 + same x (xs.drop (i + 1)), j, [x], [])
    else if ltS y x then (i, j + 1 + same y (ys.drop (j + 1)), [], [y])
    else (i + 1 + same x (xs.drop (i + 1)), j + 1 + same y (ys.drop (j + 1)), [], [])
  | _, _ => (i, j, [], [])
theorem st_m (xs ys : List Str) (i j : Nat) (m u : List Str) (e a : SV) (x : Str) : (stSld xs ys i j m u e a).updOwn 0 ((m.map PV.str).map SV.v ++ [.v (.str x)]) = stSld xs ys i j (m ++ [x]) u e a := by
  have e1 : ((m ++ [x]).map PV.str).map SV.v = (m.map PV.str).map SV.v ++ [.v (.str x)] := by rw [List.map_append, List.map_append]; rfl
  unfold stSld
  rw [e1]; rfl
theorem st_u (xs ys : List Str) (i j : Nat) (m u : List Str) (e a : SV) (x : Str) : (stSld xs ys i j m u e a).updOwn 1 ((u.map PV.str).map SV.v ++ [.v (.str x)]) = stSld xs ys i j m (u ++ [x]) e a := by
  have e1 : ((u ++ [x]).map PV.str).map SV.v = (u.map PV.str).map SV.v ++ [.v (.str x)] := by rw [List.map_append, List.map_append]; rfl
  unfold stSld
  rw [e1]; rfl
theorem st_ms (xs ys : List Str) (i j : Nat) (m u : List Str) (e a : SV) (l : List Str) : (stSld xs ys i j m u e a).updOwn 0 ((m.map PV.str).map SV.v ++ (l.map PV.str).map SV.v) = stSld xs ys i j (m ++ l) u e a := by
  have e1 : ((m ++ l).map PV.str).map SV.v = (m.map PV.str).map SV.v ++ (l.map PV.str).map SV.v := by rw [List.map_append, List.map_append]
  unfold stSld
  rw [e1]; rfl
theorem st_us (xs ys : List Str) (i j : Nat) (m u : List Str) (e a : SV) (l : List Str) : (stSld xs ys i j m u e a).updOwn 1 ((u.map PV.str).map SV.v ++ (l.map PV.str).map SV.v) = stSld xs ys i j m (u ++ l) e a := by
  have e1 : ((u ++ l).map PV.str).map SV.v = (u.map PV.str).map SV.v ++ (l.map PV.str).map SV.v := by rw [List.map_append, List.map_append]
  unfold stSld
  rw [e1]; rfl
theorem ex_to {C : Ctx} {σ σ₁ σ' : St} {b : Stmt} {o : Out} (h : Ex C σ b o σ₁) (e : σ₁ = σ') : Ex C σ b o σ' := e ▸ h
theorem exsX_to {C : Ctx} {L : Addr} {P : Value → Prop} {σ σ₁ σ' : St} {b : List Stmt} (h : ExsX C L P σ b σ₁) (e : σ₁ = σ') : ExsX C L P σ b σ' := e ▸ h
theorem pick_from {α : Type} (xs : List α) (i : Nat) (h : i ≤ xs.length) : pickL xs (some (i : Int)) none = xs.drop i := by
  rw [pickL_eq]
  have e1 : clampN (some (i : Int)) 0 xs.length = i := by
    unfold clampN
    simp only [show ¬ ((i : Int) < 0) from by omega, if_false]; omega
  have e2 : clampN none xs.length xs.length = xs.length := rfl
  rw [e1, e2]
  exact List.take_of_length_le (by rw [List.length_drop]; exact Nat.le_refl _)

section
variable {C : Ctx} {L : Addr} (K : CtxOk C) (S : Stat C scSld) (Sl : Slots C scSld) (O : OnTop C L) (xs ys : List Str) (hx : xs.length ≤ 10000) (hy : ys.length ≤ 10000)
include K S Sl hx hy
theorem nm {i : Nat} {x : Str} (h : scSld.names[i]? = some x) : C.names[i]? = some x := by rw [S.names]; exact h
/-- the frame with or without an exception in hand -/
theorem sld_i {C' : Ctx} (K' : CtxOk C') (hn : C'.names = C.names) (hs : Slotted C' "i") (i j : Nat) (m u : List Str) (x : Str) (a : SV) (hi : i < xs.length) {p1 p2 p3 p4 p5 p6 p7 p8 : Pos} {k7 : Nat} :
    (i + 1 + same x (xs.drop (i + 1)) < xs.length → ∃ n, WhileR C' (.Compare (.Subscript (.Name "expected" p1) (.Name "i" p2) p3) [.Eq] [.Name "e" p4] p5) [.AugAssign (.Name "i" p6) .Add (.Constant (.int 1) k7 p7) p8] n (stSld xs ys (i + 1) j m u (.v (.str x)) a) .next (stSld xs ys (i + 1 + same x (xs.drop (i + 1))) j m u (.v (.str x)) a)) ∧
    (i + 1 + same x (xs.drop (i + 1)) = xs.length → ∃ n, WhileX C' (.Compare (.Subscript (.Name "expected" p1) (.Name "i" p2) p3) [.Eq] [.Name "e" p4] p5) [.AugAssign (.Name "i" p6) .Add (.Constant (.int 1) k7 p7) p8] n (stSld xs ys (i + 1) j m u (.v (.str x)) a) (stSld xs ys (i + 1 + same x (xs.drop (i + 1))) j m u (.v (.str x)) a)) :=
  skip_loop K' (ix := 0) (ii := 2) (iv := 6) (hn ▸ nm K S Sl xs ys hx hy rfl) (hn ▸ nm K S Sl xs ys hx hy rfl) (hn ▸ nm K S Sl xs ys hx hy rfl) (by decide +kernel) (by decide +kernel) (by decide +kernel) hs (by decide) (by decide) xs x (by omega) _ (stSld xs ys (i + 1) j m u (.v (.str x)) a) (i + 1) rfl hi rfl rfl rfl
theorem sld_j {C' : Ctx} (K' : CtxOk C') (hn : C'.names = C.names) (hs : Slotted C' "j") (i j : Nat) (m u : List Str) (y : Str) (e : SV) (hj : j < ys.length) {p1 p2 p3 p4 p5 p6 p7 p8 : Pos} {k7 : Nat} :
    (j + 1 + same y (ys.drop (j + 1)) < ys.length → ∃ n, WhileR C' (.Compare (.Subscript (.Name "actual" p1) (.Name "j" p2) p3) [.Eq] [.Name "a" p4] p5) [.AugAssign (.Name "j" p6) .Add (.Constant (.int 1) k7 p7) p8] n (stSld xs ys i (j + 1) m u e (.v (.str y))) .next (stSld xs ys i (j + 1 + same y (ys.drop (j + 1))) m u e (.v (.str y)))) ∧
    (j + 1 + same y (ys.drop (j + 1)) = ys.length → ∃ n, WhileX C' (.Compare (.Subscript (.Name "actual" p1) (.Name "j" p2) p3) [.Eq] [.Name "a" p4] p5) [.AugAssign (.Name "j" p6) .Add (.Constant (.int 1) k7 p7) p8] n (stSld xs ys i (j + 1) m u e (.v (.str y))) (stSld xs ys i (j + 1 + same y (ys.drop (j + 1))) m u e (.v (.str y)))) :=
  skip_loop K' (ix := 1) (ii := 3) (iv := 7) (hn ▸ nm K S Sl xs ys hx hy rfl) (hn ▸ nm K S Sl xs ys hx hy rfl) (hn ▸ nm K S Sl xs ys hx hy rfl) (by decide +kernel) (by decide +kernel) (by decide +kernel) hs (by decide) (by decide) ys y (by omega) _ (stSld xs ys i (j + 1) m u e (.v (.str y))) (j + 1) rfl hj rfl rfl rfl
end
end Rt

/-! V8b -/
namespace Rt
noncomputable abbrev bTry : List Stmt := tryB (whileB dSld.body 3) 0
section
variable {C : Ctx} {L : Addr} (K : CtxOk C) (S : Stat C scSld) (Sl : Slots C scSld) (O : OnTop C L) (xs ys : List Str) (hx : xs.length ≤ 10000) (hy : ys.length ≤ 10000)
include K S Sl hx hy
theorem sld_e {x : Str} {i : Nat} (hi : xs[i]? = some x) (j : Nat) (m u : List Str) (e a : SV) : Ex C (stSld xs ys i j m u e a) (stB bTry 0) .next (stSld xs ys i j m u (.v (.str x)) a) := by
  have hL : sizeLine = 16777216 := rfl
  have hl := (List.getElem?_eq_some_iff.mp hi).1
  exact ex_to (exG (v := .str x) K S Sl 6 rfl rfl (by rfl) (by exact ⟨trivial, trivial, by rw [List.length_map]; omega, by rw [List.length_map]; omega, by rw [List.length_map]; omega⟩) (idxL_strs hi) rfl) rfl
theorem sld_a {y : Str} {j : Nat} (hj : ys[j]? = some y) (i : Nat) (m u : List Str) (e a : SV) : Ex C (stSld xs ys i j m u e a) (stB bTry 1) .next (stSld xs ys i j m u e (.v (.str y))) := by
  have hL : sizeLine = 16777216 := rfl
  have hl := (List.getElem?_eq_some_iff.mp hj).1
  exact ex_to (exG (v := .str y) K S Sl 7 rfl rfl (by rfl) (by exact ⟨trivial, trivial, by rw [List.length_map]; omega, by rw [List.length_map]; omega, by rw [List.length_map]; omega⟩) (idxL_strs hj) rfl) rfl
noncomputable abbrev bLt : List Stmt := match stB bTry 2 with | .If _ a _ _ => a | _ => []
noncomputable abbrev bGe : List Stmt := match stB bTry 2 with | .If _ _ b _ => b | _ => []
noncomputable abbrev bGt : List Stmt := match stB bGe 0 with | .If _ a _ _ => a | _ => []
noncomputable abbrev bEq : List Stmt := match stB bGe 0 with | .If _ _ b _ => b | _ => []
include O
theorem sld_lt {x : Str} {i : Nat} (hi : xs[i]? = some x) (j : Nat) (m u : List Str) (a : SV) (hm : m.length ≤ i) :
    (i + 1 + same x (xs.drop (i + 1)) < xs.length → Exs C (stSld xs ys i j m u (.v (.str x)) a) bLt .next (stSld xs ys (i + 1 + same x (xs.drop (i + 1))) j (m ++ [x]) u (.v (.str x)) a)) ∧
    (i + 1 + same x (xs.drop (i + 1)) = xs.length → ExsX C L (fun _ => True) (stSld xs ys i j m u (.v (.str x)) a) bLt (stSld xs ys (i + 1 + same x (xs.drop (i + 1))) j (m ++ [x]) u (.v (.str x)) a)) := by
  have hL : sizeLine = 16777216 := rfl
  have hl := (List.getElem?_eq_some_iff.mp hi).1
  have s1 : Ex C (stSld xs ys i j m u (.v (.str x)) a) (stB bLt 0) .next (stSld xs ys i j (m ++ [x]) u (.v (.str x)) a) := ex_to (exApp S 4 0 rfl rfl (by decide +kernel) rfl (evG S (v := .str x) (by rfl) (by trivial) rfl) rfl (by rw [List.length_map, List.length_map]; omega) rfl rfl) (st_m ..)
  have s2 : Ex C (stSld xs ys i j (m ++ [x]) u (.v (.str x)) a) (stB bLt 1) .next (stSld xs ys (i + 1) j (m ++ [x]) u (.v (.str x)) a) := ex_to (exAug (b := .int 1) K S Sl 2 rfl rfl rfl (by rfl) (by trivial) (by rfl) (b_iadd _ _)) rfl
  obtain ⟨w1, w2⟩ := sld_i K S Sl xs ys hx hy K rfl (Sl "i" rfl) i j (m ++ [x]) u x a hl (p1 := ⟨17, 22, 17, 30⟩) (p2 := ⟨17, 31, 17, 32⟩) (p3 := ⟨17, 22, 17, 33⟩) (p4 := ⟨17, 37, 17, 38⟩) (p5 := ⟨17, 22, 17, 38⟩) (p6 := ⟨18, 20, 18, 21⟩) (p7 := ⟨18, 25, 18, 26⟩) (p8 := ⟨18, 20, 18, 26⟩) (k7 := 0)
  refine ⟨fun h => ?_, fun h => ?_⟩
  · obtain ⟨n, R⟩ := w1 h
    exact exs_cons s1 (exs_cons s2 (exs_cons (ex_while R) exs_nil))
  · obtain ⟨n, R⟩ := w2 h
    exact exsX_next s1 (exsX_next s2 (exsX_here (exX_while O trivial R)))
theorem sld_gt {y : Str} {j : Nat} (hj : ys[j]? = some y) (i : Nat) (m u : List Str) (e : SV) (hu : u.length ≤ j) :
    (j + 1 + same y (ys.drop (j + 1)) < ys.length → Exs C (stSld xs ys i j m u e (.v (.str y))) bGt .next (stSld xs ys i (j + 1 + same y (ys.drop (j + 1))) m (u ++ [y]) e (.v (.str y)))) ∧
    (j + 1 + same y (ys.drop (j + 1)) = ys.length → ExsX C L (fun _ => True) (stSld xs ys i j m u e (.v (.str y))) bGt (stSld xs ys i (j + 1 + same y (ys.drop (j + 1))) m (u ++ [y]) e (.v (.str y)))) := by
  have hL : sizeLine = 16777216 := rfl
  have hl := (List.getElem?_eq_some_iff.mp hj).1
  have s1 : Ex C (stSld xs ys i j m u e (.v (.str y))) (stB bGt 0) .next (stSld xs ys i j m (u ++ [y]) e (.v (.str y))) := ex_to (exApp S 5 1 rfl rfl (by decide +kernel) rfl (evG S (v := .str y) (by rfl) (by trivial) rfl) rfl (by rw [List.length_map, List.length_map]; omega) rfl rfl) (st_u ..)
  have s2 : Ex C (stSld xs ys i j m (u ++ [y]) e (.v (.str y))) (stB bGt 1) .next (stSld xs ys i (j + 1) m (u ++ [y]) e (.v (.str y))) := ex_to (exAug (b := .int 1) K S Sl 3 rfl rfl rfl (by rfl) (by trivial) (by rfl) (b_iadd _ _)) rfl
  obtain ⟨w1, w2⟩ := sld_j K S Sl xs ys hx hy K rfl (Sl "j" rfl) i j m (u ++ [y]) y e hl (p1 := ⟨22, 22, 22, 28⟩) (p2 := ⟨22, 29, 22, 30⟩) (p3 := ⟨22, 22, 22, 31⟩) (p4 := ⟨22, 35, 22, 36⟩) (p5 := ⟨22, 22, 22, 36⟩) (p6 := ⟨23, 20, 23, 21⟩) (p7 := ⟨23, 25, 23, 26⟩) (p8 := ⟨23, 20, 23, 26⟩) (k7 := 0)
  refine ⟨fun h => ?_, fun h => ?_⟩
  · obtain ⟨n, R⟩ := w1 h
    exact exs_cons s1 (exs_cons s2 (exs_cons (ex_while R) exs_nil))
  · obtain ⟨n, R⟩ := w2 h
    exact exsX_next s1 (exsX_next s2 (exsX_here (exX_while O trivial R)))
theorem sld_eq {x y : Str} {i j : Nat} (hi : xs[i]? = some x) (hj : ys[j]? = some y) (m u : List Str) :
    (i + 1 + same x (xs.drop (i + 1)) < xs.length ∧ j + 1 + same y (ys.drop (j + 1)) < ys.length → Exs C (stSld xs ys i j m u (.v (.str x)) (.v (.str y))) bEq .next (stSld xs ys (i + 1 + same x (xs.drop (i + 1))) (j + 1 + same y (ys.drop (j + 1))) m u (.v (.str x)) (.v (.str y)))) ∧
    (i + 1 + same x (xs.drop (i + 1)) = xs.length ∨ j + 1 + same y (ys.drop (j + 1)) = ys.length → ExsX C L (fun _ => True) (stSld xs ys i j m u (.v (.str x)) (.v (.str y))) bEq (stSld xs ys (i + 1 + same x (xs.drop (i + 1))) (j + 1 + same y (ys.drop (j + 1))) m u (.v (.str x)) (.v (.str y)))) := by
  have hL : sizeLine = 16777216 := rfl
  have hli := (List.getElem?_eq_some_iff.mp hi).1
  have hlj := (List.getElem?_eq_some_iff.mp hj).1
  have s1 : Ex C (stSld xs ys i j m u (.v (.str x)) (.v (.str y))) (stB bEq 0) .next (stSld xs ys (i + 1) j m u (.v (.str x)) (.v (.str y))) := ex_to (exAug (b := .int 1) K S Sl 2 rfl rfl rfl (by rfl) (by trivial) (by rfl) (b_iadd _ _)) rfl
  obtain ⟨w1, w2⟩ := sld_i K S Sl xs ys hx hy K rfl (Sl "i" rfl) i j m u x (.v (.str y)) hli (p1 := ⟨27, 26, 27, 34⟩) (p2 := ⟨27, 35, 27, 36⟩) (p3 := ⟨27, 26, 27, 37⟩) (p4 := ⟨27, 41, 27, 42⟩) (p5 := ⟨27, 26, 27, 42⟩) (p6 := ⟨28, 24, 28, 25⟩) (p7 := ⟨28, 29, 28, 30⟩) (p8 := ⟨28, 24, 28, 30⟩) (k7 := 0)
  have aug : ∀ {C' : Ctx} (K' : CtxOk C') (hn : C'.names = C.names) (hs : Slotted C' "j") (i' : Nat), Ex C' (stSld xs ys i' j m u (.v (.str x)) (.v (.str y))) (.AugAssign (.Name "j" ⟨30, 20, 30, 21⟩) .Add (.Constant (.int 1) 0 ⟨30, 25, 30, 26⟩) ⟨30, 20, 30, 26⟩) .next (stSld xs ys i' (j + 1) m u (.v (.str x)) (.v (.str y))) := fun {C'} K' hn hs i' =>
    ex_to (ex_aug K' 3 (hn ▸ nm K S Sl xs ys hx hy rfl) hs rfl ev_int (b_iadd _ _)) rfl
  have wj := fun {C' : Ctx} (K' : CtxOk C') (hn : C'.names = C.names) (hs : Slotted C' "j") (i' : Nat) => sld_j K S Sl xs ys hx hy K' hn hs i' j m u y (.v (.str x)) hlj (p1 := ⟨31, 26, 31, 32⟩) (p2 := ⟨31, 33, 31, 34⟩) (p3 := ⟨31, 26, 31, 35⟩) (p4 := ⟨31, 39, 31, 40⟩) (p5 := ⟨31, 26, 31, 40⟩) (p6 := ⟨32, 24, 32, 25⟩) (p7 := ⟨32, 29, 32, 30⟩) (p8 := ⟨32, 24, 32, 30⟩) (k7 := 0)
  have hsi := same_le x (xs.drop (i + 1))
  have hsj := same_le y (ys.drop (j + 1))
  rw [List.length_drop] at hsi hsj
  have sj : ∀ e, Slotted (mkC C e) "j" := fun e => Sl "j" rfl
  refine ⟨fun ⟨h1, h2⟩ => ?_, fun h => ?_⟩
  · obtain ⟨n, R⟩ := w1 h1
    obtain ⟨n2, R2⟩ := (wj K rfl (Sl "j" rfl) _).1 h2
    exact exs_cons s1 (exs_cons (ex_tryf (exs_cons (ex_while R) exs_nil) (exs_cons (aug K rfl (Sl "j" rfl) _) (exs_cons (ex_while R2) exs_nil))) exs_nil)
  · by_cases h1 : i + 1 + same x (xs.drop (i + 1)) = xs.length
    · obtain ⟨n, R⟩ := w2 h1
      have hP : ctxt C.A = .none := by rw [ctxt, S.hh]; rfl
      by_cases h2 : j + 1 + same y (ys.drop (j + 1)) = ys.length
      · exact exsX_next s1 (exsX_here (exX_tryf_new (P' := fun _ => True) O (exsX_here (exX_while O hP R)) (fun _ _ => trivial) fun e => by
          obtain ⟨n2, R2⟩ := (wj K.mrk rfl (sj e) _).2 h2
          exact exsX_next (aug K.mrk rfl (sj e) _) (exsX_here (exX_while O.mrk trivial R2))))
      · exact exsX_next s1 (exsX_here (exX_tryf_on (P' := (· = .none)) O (exsX_here (exX_while O hP R)) (fun _ _ => trivial) fun e => by
          obtain ⟨n2, R2⟩ := (wj K.mrk rfl (sj e) _).1 (by omega)
          exact exs_cons (aug K.mrk rfl (sj e) _) (exs_cons (ex_while R2) exs_nil)))
    · have h2 : j + 1 + same y (ys.drop (j + 1)) = ys.length := h.resolve_left h1
      obtain ⟨n, R⟩ := w1 (by omega)
      obtain ⟨n2, R2⟩ := (wj K rfl (Sl "j" rfl) _).2 h2
      exact exsX_next s1 (exsX_here (exX_tryf_plain O (exs_cons (ex_while R) exs_nil) (exsX_next (aug K rfl (Sl "j" rfl) _) (exsX_here (exX_while O trivial R2)))))
end
end Rt

/-! V8c -/
namespace Rt
noncomputable abbrev bExc : List Stmt := match stB (whileB dSld.body 3) 0 with | .Try _ [.ExceptHandler _ _ b _] _ _ _ => b | _ => []
section
variable {C : Ctx} {L : Addr} (K : CtxOk C) (S : Stat C scSld) (Sl : Slots C scSld) (O : OnTop C L) (xs ys : List Str) (hx : xs.length ≤ 10000) (hy : ys.length ≤ 10000)
include K S Sl hx hy
theorem sld_exc (e0 : Addr) (i j : Nat) (m u : List Str) (e a : SV) (hi : i ≤ xs.length) (hj : j ≤ ys.length) (hm : m.length ≤ i) (hu : u.length ≤ j) :
    Exs (mkC C e0) (stSld xs ys i j m u e a) bExc .brk (stSld xs ys i j (m ++ xs.drop i) (u ++ ys.drop j) e a) := by
  have hL : sizeLine = 16777216 := rfl
  have hif : interactive (mkC C e0).env = false := (inter_false S : interactive C.env = false)
  have q1 : Ev (mkC C e0) (stSld xs ys i j m u e a) (.Subscript (.Name "expected" ⟨34, 27, 34, 35⟩) (.Slice (some (.Name "i" ⟨34, 36, 34, 37⟩)) none none ⟨34, 36, 34, 38⟩) ⟨34, 27, 34, 39⟩) (.v (.list ((xs.drop i).map .str))) :=
    ev_to (ev_slice_list (i := some (i : Int)) (j := none) (cellKind (C := mkC C e0) (i := 0) (nm K S Sl xs ys hx hy rfl) rfl (by decide +kernel)) (cellKind (C := mkC C e0) (i := 2) (nm K S Sl xs ys hx hy rfl) rfl (by decide +kernel)) trivial (by rw [List.length_map]; omega)) (by rw [pick_map, pick_from _ _ hi])
  have q2 : Ev (mkC C e0) (stSld xs ys i j (m ++ xs.drop i) u e a) (.Subscript (.Name "actual" ⟨35, 30, 35, 36⟩) (.Slice (some (.Name "j" ⟨35, 37, 35, 38⟩)) none none ⟨35, 37, 35, 39⟩) ⟨35, 30, 35, 40⟩) (.v (.list ((ys.drop j).map .str))) :=
    ev_to (ev_slice_list (i := some (j : Int)) (j := none) (cellKind (C := mkC C e0) (i := 1) (nm K S Sl xs ys hx hy rfl) rfl (by decide +kernel)) (cellKind (C := mkC C e0) (i := 3) (nm K S Sl xs ys hx hy rfl) rfl (by decide +kernel)) trivial (by rw [List.length_map]; omega)) (by rw [pick_map, pick_from _ _ hj])
  have s1 : Ex (mkC C e0) (stSld xs ys i j m u e a) (stB bExc 0) .next (stSld xs ys i j (m ++ xs.drop i) u e a) :=
    ex_to (ex_extend (C := mkC C e0) 0 (ev_name 4 (nm K S Sl xs ys hx hy rfl) rfl (fun h => nomatch h) (sameS_ne (by decide +kernel))) rfl q1 (by rw [List.length_map, List.length_map, List.length_map, List.length_drop]; omega) rfl rfl rfl hif rfl) (st_ms ..)
  have s2 : Ex (mkC C e0) (stSld xs ys i j (m ++ xs.drop i) u e a) (stB bExc 1) .next (stSld xs ys i j (m ++ xs.drop i) (u ++ ys.drop j) e a) :=
    ex_to (ex_extend (C := mkC C e0) 1 (ev_name 5 (nm K S Sl xs ys hx hy rfl) rfl (fun h => nomatch h) (sameS_ne (by decide +kernel))) rfl q2 (by rw [List.length_map, List.length_map, List.length_map, List.length_drop]; omega) rfl rfl rfl hif rfl) (st_us ..)
  exact exs_cons s1 (exs_cons s2 (exs_stop (fun h => nomatch h) ex_brk))
include O
/-- the block of the try -/
theorem sld_block (i j : Nat) (m u : List Str) (e a : SV) (hi : i ≤ xs.length) (hj : j ≤ ys.length) (hm : m.length ≤ i) (hu : u.length ≤ j) :
    ((stepI xs ys i j).1 < xs.length ∧ (stepI xs ys i j).2.1 < ys.length → ∃ e' a', Exs C (stSld xs ys i j m u e a) bTry .next (stSld xs ys (stepI xs ys i j).1 (stepI xs ys i j).2.1 (m ++ (stepI xs ys i j).2.2.1) (u ++ (stepI xs ys i j).2.2.2) e' a')) ∧
    (¬ ((stepI xs ys i j).1 < xs.length ∧ (stepI xs ys i j).2.1 < ys.length) → ∃ e' a', ExsX C L (fun _ => True) (stSld xs ys i j m u e a) bTry (stSld xs ys (stepI xs ys i j).1 (stepI xs ys i j).2.1 (m ++ (stepI xs ys i j).2.2.1) (u ++ (stepI xs ys i j).2.2.2) e' a')) := by
  have hL : sizeLine = 16777216 := rfl
  by_cases h1 : i < xs.length
  · have g1 := List.getElem?_eq_getElem h1
    generalize xs[i] = x at g1
    have s0 := sld_e K S Sl xs ys hx hy g1 j m u e a
    by_cases h2 : j < ys.length
    · have g2 := List.getElem?_eq_getElem h2
      generalize ys[j] = y at g2
      have s1 := sld_a K S Sl xs ys hx hy g2 i m u (.v (.str x)) a
      have hsi := same_le x (xs.drop (i + 1))
      have hsj := same_le y (ys.drop (j + 1))
      rw [List.length_drop] at hsi hsj
      have t1 : Tr C (stSld xs ys i j m u (.v (.str x)) (.v (.str y))) (match stB bTry 2 with | .If t _ _ _ => t | _ => .Constant .none 0 ⟨0, 0, 0, 0⟩) (ltS x y) := tr_cmp (evG S (v := .str x) (by rfl) (by trivial) rfl) (evG S (v := .str y) (by rfl) (by trivial) rfl) (b_ltS _ _) rfl
      have t2 : Tr C (stSld xs ys i j m u (.v (.str x)) (.v (.str y))) (match stB bGe 0 with | .If t _ _ _ => t | _ => .Constant .none 0 ⟨0, 0, 0, 0⟩) (ltS y x) := tr_cmp (evG S (v := .str x) (by rfl) (by trivial) rfl) (evG S (v := .str y) (by rfl) (by trivial) rfl) (b_gtS _ _) rfl
      cases c1 : ltS x y with
      | true =>
        rw [c1] at t1
        have es : stepI xs ys i j = (i + 1 + same x (xs.drop (i + 1)), j, [x], []) := by unfold stepI; rw [g1, g2]; dsimp only; rw [c1, if_pos rfl]
        obtain ⟨w1, w2⟩ := sld_lt K S Sl O xs ys hx hy g1 j m u (.v (.str y)) hm
        rw [es, List.append_nil]
        exact ⟨fun h => ⟨_, _, exs_cons s0 (exs_cons s1 (exs_cons (ex_if (c := true) t1 (fun _ => w1 h.1) fun h => nomatch h) exs_nil))⟩,
          fun h => ⟨_, _, exsX_next s0 (exsX_next s1 (exsX_here (exX_if (c := true) t1 (fun _ => w2 (by dsimp only at h; omega)) fun h => nomatch h)))⟩⟩
      | false =>
        rw [c1] at t1
        cases c2 : ltS y x with
        | true =>
          rw [c2] at t2
          have es : stepI xs ys i j = (i, j + 1 + same y (ys.drop (j + 1)), [], [y]) := by unfold stepI; rw [g1, g2]; dsimp only; rw [c1, c2, if_neg (by decide), if_pos rfl]
          obtain ⟨w1, w2⟩ := sld_gt K S Sl O xs ys hx hy g2 i m u (.v (.str x)) hu
          rw [es, List.append_nil]
          exact ⟨fun h => ⟨_, _, exs_cons s0 (exs_cons s1 (exs_cons (ex_if (c := false) t1 (fun h => nomatch h) fun _ => exs_cons (ex_if (c := true) t2 (fun _ => w1 h.2) fun h => nomatch h) exs_nil) exs_nil))⟩,
            fun h => ⟨_, _, exsX_next s0 (exsX_next s1 (exsX_here (exX_if (c := false) t1 (fun h => nomatch h) fun _ => exsX_here (exX_if (c := true) t2 (fun _ => w2 (by dsimp only at h; omega)) fun h => nomatch h))))⟩⟩
        | false =>
          rw [c2] at t2
          have es : stepI xs ys i j = (i + 1 + same x (xs.drop (i + 1)), j + 1 + same y (ys.drop (j + 1)), [], []) := by unfold stepI; rw [g1, g2]; dsimp only; rw [c1, c2, if_neg (by decide), if_neg (by decide)]
          obtain ⟨w1, w2⟩ := sld_eq K S Sl O xs ys hx hy g1 g2 m u
          rw [es, List.append_nil, List.append_nil]
          exact ⟨fun h => ⟨_, _, exs_cons s0 (exs_cons s1 (exs_cons (ex_if (c := false) t1 (fun h => nomatch h) fun _ => exs_cons (ex_if (c := false) t2 (fun h => nomatch h) fun _ => w1 h) exs_nil) exs_nil))⟩,
            fun h => ⟨_, _, exsX_next s0 (exsX_next s1 (exsX_here (exX_if (c := false) t1 (fun h => nomatch h) fun _ => exsX_here (exX_if (c := false) t2 (fun h => nomatch h) fun _ => w2 (by dsimp only at h; omega)))))⟩⟩
    · have es : stepI xs ys i j = (i, j, [], []) := by unfold stepI; rw [g1, List.getElem?_eq_none (by omega : ys.length ≤ j)]
      rw [es, List.append_nil, List.append_nil]
      refine ⟨fun h => absurd h.2 h2, fun _ => ⟨_, _, exsX_next s0 (exsX_here (exX_assign (evX_item (evG S (v := .list (ys.map .str)) (by rfl) (by trivial) rfl) (evG S (v := .int j) (by rfl) (by trivial) rfl) (by omega) (by rw [List.length_map]; omega) (by omega) fun _ _ => rfl) rfl trivial))⟩⟩
  · have es : stepI xs ys i j = (i, j, [], []) := by unfold stepI; rw [List.getElem?_eq_none (by omega : xs.length ≤ i)]
    rw [es, List.append_nil, List.append_nil]
    exact ⟨fun h => absurd h.1 h1, fun _ => ⟨_, _, exsX_here (exX_assign (evX_item (evG S (v := .list (xs.map .str)) (by rfl) (by trivial) rfl) (evG S (v := .int i) (by rfl) (by trivial) rfl) (by omega) (by rw [List.length_map]; omega) (by omega) fun _ _ => rfl) rfl trivial)⟩⟩
theorem stepI_ok (i j : Nat) (hi : i ≤ xs.length) (hj : j ≤ ys.length) : i ≤ (stepI xs ys i j).1 ∧ (stepI xs ys i j).1 ≤ xs.length ∧ j ≤ (stepI xs ys i j).2.1 ∧ (stepI xs ys i j).2.1 ≤ ys.length ∧ i + (stepI xs ys i j).2.2.1.length ≤ (stepI xs ys i j).1 ∧ j + (stepI xs ys i j).2.2.2.length ≤ (stepI xs ys i j).2.1 := by
  unfold stepI
  split
  · rename_i x y g1 g2
    have l1 := (List.getElem?_eq_some_iff.mp g1).1
    have l2 := (List.getElem?_eq_some_iff.mp g2).1
    have hsi := same_le x (xs.drop (i + 1))
    have hsj := same_le y (ys.drop (j + 1))
    rw [List.length_drop] at hsi hsj
    split
    · simp; omega
    · split
      · simp; omega
      · simp; omega
  · simp; omega
/-- a turn of the outer loop -/
theorem sld_turn (i j : Nat) (m u : List Str) (e a : SV) (hi : i ≤ xs.length) (hj : j ≤ ys.length) (hm : m.length ≤ i) (hu : u.length ≤ j) :
    ((stepI xs ys i j).1 < xs.length ∧ (stepI xs ys i j).2.1 < ys.length → ∃ e' a', Exs C (stSld xs ys i j m u e a) (whileB dSld.body 3) .next (stSld xs ys (stepI xs ys i j).1 (stepI xs ys i j).2.1 (m ++ (stepI xs ys i j).2.2.1) (u ++ (stepI xs ys i j).2.2.2) e' a')) ∧
    (¬ ((stepI xs ys i j).1 < xs.length ∧ (stepI xs ys i j).2.1 < ys.length) → ∃ e' a', Exs C (stSld xs ys i j m u e a) (whileB dSld.body 3) .brk (stSld xs ys (stepI xs ys i j).1 (stepI xs ys i j).2.1 (m ++ (stepI xs ys i j).2.2.1 ++ xs.drop (stepI xs ys i j).1) (u ++ (stepI xs ys i j).2.2.2 ++ ys.drop (stepI xs ys i j).2.1) e' a')) := by
  obtain ⟨b1, b2⟩ := sld_block K S Sl O xs ys hx hy i j m u e a hi hj hm hu
  obtain ⟨o1, o2, o3, o4, o5, o6⟩ := stepI_ok K S Sl O xs ys hx hy i j hi hj
  have ie : ∀ e0 σ, Ev (mkC C e0) σ (.Name "IndexError" ⟨33, 15, 33, 25⟩) (.v (.atom (.type "IndexError"))) := fun e0 σ => by
    obtain ⟨a1, a2, a3, _⟩ := S.T eIE (.head _)
    exact ev_builtin (C := mkC C e0) (σ := σ) ((S.kind "IndexError").trans (by rfl)) a1 a2 a3 (sameS_ne (by decide +kernel))
  refine ⟨fun h => ?_, fun h => ?_⟩
  · obtain ⟨e', a', h'⟩ := b1 h
    exact ⟨e', a', exs_cons (ex_try h') exs_nil⟩
  · obtain ⟨e', a', h'⟩ := b2 h
    refine ⟨e', a', exs_stop (fun h => nomatch h) (ex_tryx O S.hh h' (fun e0 => ie e0 _) fun e0 => sld_exc K S Sl xs ys hx hy e0 _ _ _ _ e' a' o2 o4 ?_ ?_)⟩
    · rw [List.length_append]; omega
    · rw [List.length_append]; omega
end
end Rt

/-! V8d -/
namespace Rt
noncomputable def sldF : Nat → List Str → List Str → List Str × List Str
  | n + 1, x :: xs, y :: ys =>
    if ltS x y then (x :: (sldF n (xs.drop (same x xs)) (y :: ys)).1, (sldF n (xs.drop (same x xs)) (y :: ys)).2)
    else if ltS y x then ((sldF n (x :: xs) (ys.drop (same y ys))).1, y :: (sldF n (x :: xs) (ys.drop (same y ys))).2)
    else sldF n (xs.drop (same x xs)) (ys.drop (same y ys))
  | _, xs, ys => (xs, ys)
noncomputable def sldR (xs ys : List Str) : List Str × List Str := sldF (xs.length + ys.length) xs ys
theorem sldF_nil {n : Nat} {xs ys : List Str} (h : xs = [] ∨ ys = []) : sldF n xs ys = (xs, ys) := by
  rcases h with rfl | rfl
  · cases n <;> rfl
  · cases n with
    | zero => rfl
    | succ n => cases xs <;> rfl
theorem sldF_step {xs ys : List Str} {i j n : Nat} (hi : i < xs.length) (hj : j < ys.length) :
    sldF (n + 1) (xs.drop i) (ys.drop j) = ((stepI xs ys i j).2.2.1 ++ (sldF n (xs.drop (stepI xs ys i j).1) (ys.drop (stepI xs ys i j).2.1)).1, (stepI xs ys i j).2.2.2 ++ (sldF n (xs.drop (stepI xs ys i j).1) (ys.drop (stepI xs ys i j).2.1)).2) := by
  have g1 := List.getElem?_eq_getElem hi
  have g2 := List.getElem?_eq_getElem hj
  have d1 : xs.drop i = xs[i] :: xs.drop (i + 1) := List.drop_eq_getElem_cons hi
  have d2 : ys.drop j = ys[j] :: ys.drop (j + 1) := List.drop_eq_getElem_cons hj
  generalize xs[i] = x at g1 d1
  generalize ys[j] = y at g2 d2
  have dd1 : (xs.drop (i + 1)).drop (same x (xs.drop (i + 1))) = xs.drop (i + 1 + same x (xs.drop (i + 1))) := List.drop_drop
  have dd2 : (ys.drop (j + 1)).drop (same y (ys.drop (j + 1))) = ys.drop (j + 1 + same y (ys.drop (j + 1))) := List.drop_drop
  have es : stepI xs ys i j = if ltS x y then (i + 1 + same x (xs.drop (i + 1)), j, [x], []) else if ltS y x then (i, j + 1 + same y (ys.drop (j + 1)), [], [y]) else (i + 1 + same x (xs.drop (i + 1)), j + 1 + same y (ys.drop (j + 1)), [], []) := by
    unfold stepI; rw [g1, g2]
  rw [es, d1, d2]
  show (if ltS x y then _ else if ltS y x then _ else _) = _
  rw [dd1, dd2, ← d1, ← d2]
  cases ltS x y
  · cases ltS y x
    · simp
    · simp
  · simp
section
variable {C : Ctx} {L : Addr} (K : CtxOk C) (S : Stat C scSld) (Sl : Slots C scSld) (O : OnTop C L) (xs ys : List Str) (hx : xs.length ≤ 10000) (hy : ys.length ≤ 10000)
include K S Sl hx hy O
theorem sld_loop {pos : Pos} {k : Nat} : ∀ (n i j : Nat) (m u : List Str) (e a : SV), i ≤ xs.length → j ≤ ys.length → m.length ≤ i → u.length ≤ j → (xs.length - i) + (ys.length - j) ≤ n →
    ∃ t i' j' e' a', WhileR C (.Constant (.bool true) k pos) (whileB dSld.body 3) t (stSld xs ys i j m u e a) .next (stSld xs ys i' j' (m ++ (sldF n (xs.drop i) (ys.drop j)).1) (u ++ (sldF n (xs.drop i) (ys.drop j)).2) e' a') := by
  intro n
  induction n with
  | zero =>
    intro i j m u e a hi hj hm hu hn
    have es : stepI xs ys i j = (i, j, [], []) := by unfold stepI; rw [List.getElem?_eq_none (by omega : xs.length ≤ i)]
    obtain ⟨_, t2⟩ := sld_turn K S Sl O xs ys hx hy i j m u e a hi hj hm hu
    rw [es] at t2
    dsimp only at t2
    rw [List.append_nil, List.append_nil] at t2
    obtain ⟨e', a', h⟩ := t2 (by omega)
    exact ⟨_, i, j, e', a', .brk (trG S (by rfl) (by exact ⟨trivial, trivial⟩) rfl) h⟩
  | succ n ih =>
    intro i j m u e a hi hj hm hu hn
    have tt : Tr C (stSld xs ys i j m u e a) (.Constant (.bool true) k pos) true := trG S (by rfl) (by exact ⟨trivial, trivial⟩) rfl
    obtain ⟨t1, t2⟩ := sld_turn K S Sl O xs ys hx hy i j m u e a hi hj hm hu
    obtain ⟨o1, o2, o3, o4, o5, o6⟩ := stepI_ok K S Sl O xs ys hx hy i j hi hj
    by_cases hr : i < xs.length ∧ j < ys.length
    · rw [sldF_step hr.1 hr.2]
      by_cases h : (stepI xs ys i j).1 < xs.length ∧ (stepI xs ys i j).2.1 < ys.length
      · obtain ⟨e', a', hb⟩ := t1 h
        have adv : (stepI xs ys i j).1 + (stepI xs ys i j).2.1 > i + j := by
          have g1 := List.getElem?_eq_getElem hr.1
          have g2 := List.getElem?_eq_getElem hr.2
          unfold stepI
          rw [g1, g2]
          dsimp only
          split
          · dsimp only; omega
          · split <;> dsimp only <;> omega
        obtain ⟨t, i', j', e2, a2, R⟩ := ih _ _ _ _ e' a' o2 o4 (by rw [List.length_append]; omega : (m ++ (stepI xs ys i j).2.2.1).length ≤ _) (by rw [List.length_append]; omega : (u ++ (stepI xs ys i j).2.2.2).length ≤ _) (by omega)
        rw [List.append_assoc, List.append_assoc] at R
        exact ⟨t + 1, i', j', e2, a2, .next tt hb R⟩
      · obtain ⟨e', a', hb⟩ := t2 h
        have en : sldF n (xs.drop (stepI xs ys i j).1) (ys.drop (stepI xs ys i j).2.1) = (xs.drop (stepI xs ys i j).1, ys.drop (stepI xs ys i j).2.1) := sldF_nil (by
          by_cases q : (stepI xs ys i j).1 < xs.length
          · exact .inr (List.drop_eq_nil_of_le (by omega))
          · exact .inl (List.drop_eq_nil_of_le (by omega)))
        rw [en]
        rw [List.append_assoc, List.append_assoc] at hb
        exact ⟨_, _, _, e', a', .brk tt hb⟩
    · have es : stepI xs ys i j = (i, j, [], []) := by
        unfold stepI
        by_cases q : i < xs.length
        · rw [List.getElem?_eq_getElem q, List.getElem?_eq_none (by omega : ys.length ≤ j)]
        · rw [List.getElem?_eq_none (by omega : xs.length ≤ i)]
      rw [es] at t2
      dsimp only at t2
      rw [List.append_nil, List.append_nil] at t2
      obtain ⟨e', a', hb⟩ := t2 hr
      have en : sldF (n + 1) (xs.drop i) (ys.drop j) = (xs.drop i, ys.drop j) := sldF_nil (by
          by_cases q : i < xs.length
          · exact .inr (List.drop_eq_nil_of_le (by omega))
          · exact .inl (List.drop_eq_nil_of_le (by omega)))
      rw [en]
      exact ⟨_, i, j, e', a', .brk tt hb⟩
theorem frz_map (k : Nat) (qs ps : List PV) : (ps.map SV.v).map (SV.frz k qs) = ps.map SV.v := by
  rw [List.map_map]; rfl
theorem sld_body : ∃ σ' sv, Exs C (st0 [.list (xs.map .str), .list (ys.map .str)] 6) dSld.body (.ret sv) σ' ∧ sv = .v (.tup [.list ((sldR xs ys).1.map .str), .list ((sldR xs ys).2.map .str)]) := by
  obtain ⟨t, i', j', e', a', R⟩ := sld_loop K S Sl O xs ys hx hy (k := 0) (pos := ⟨10, 10, 10, 14⟩) (xs.length + ys.length) 0 0 [] [] .un .un (Nat.zero_le _) (Nat.zero_le _) (Nat.le_refl _) (Nat.le_refl _) (by omega)
  rw [List.nil_append, List.nil_append, List.drop_zero, List.drop_zero] at R
  have s0 : Exs C (stSld xs ys i' j' (sldR xs ys).1 (sldR xs ys).2 e' a') [stB dSld.body 4] (.ret (.v (.tup [.list ((sldR xs ys).1.map .str), .list ((sldR xs ys).2.map .str)]))) _ :=
    exs_frz 0 ((sldR xs ys).1.map .str) rfl (exs_frz 1 ((sldR xs ys).2.map .str) (by
      show some (some _) = some (some _)
      rw [frz_map K S Sl O xs ys hx hy]) (exs_stop (fun h => nomatch h) (ex_ret (evG S (by rfl) (by exact ⟨⟨trivial, trivial, trivial⟩, by show 2 ≤ sizeLine; decide⟩) rfl))))
  exact ⟨_, _, exs_cons (ex_two K 2 3 (nm K S Sl xs ys hx hy rfl) (nm K S Sl xs ys hx hy rfl) (Sl "i" rfl) (Sl "j" rfl) ev_int rfl) (exs_cons (exNew K S Sl 4 rfl rfl rfl) (exs_cons (exNew K S Sl 5 rfl rfl rfl) (exs_cons (ex_while R) s0))), rfl⟩
end
noncomputable def sldC : List PV → Option R := on2 asList asList fun xs ys => ⟨.tup [.list ((sldR (strsP xs) (strsP ys)).1.map .str), .list ((sldR (strsP xs) (strsP ys)).2.map .str)], xs = (strsP xs).map .str ∧ ys = (strsP ys).map .str ∧ (strsP xs).length ≤ 10000 ∧ (strsP ys).length ≤ 10000⟩
noncomputable def eSld : Ent := ⟨"sorted_list_difference", .d, sldC⟩
theorem ok_sld {P : Pr} (B : Base P) (n : Nat) : EntOk P (n + 1) eSld := by
  obtain ⟨hd, v, hv⟩ := B.d 1 (by decide)
  refine ⟨dSld, hd, rfl, v, hv, fun ps r h ok => ?_⟩
  obtain ⟨p'1, p'2, xs, ys, rfl, e'1, e'2, rfl⟩ := on2_inv (show on2 asList asList _ ps = some r from h)
  obtain rfl := asList_inv e'1
  obtain rfl := asList_inv e'2
  obtain ⟨k1, k2, k3, k4⟩ := ok
  refine def_okF dSld hd hv ["expected", "actual"] ["expected", "actual", "i", "j", "missing", "unexpected", "e", "a"] _ _ (T := [eIE]) (forall_cons (ok_IE B n) forall_nil) rfl rfl (by rfl) (fun pm cd doc vs hvs => ?_) (by decide +kernel) rfl rfl rfl (by decide +kernel) (by decide +kernel) fun C L _ K S Sl O => ?_
  · obtain ⟨a, b, rfl⟩ := len2 hvs
    rfl
  · have := sld_body K S Sl O (strsP xs) (strsP ys) k3 k4
    rw [← k1, ← k2] at this
    exact this
end Rt

/-! V5n -/
namespace Rt
section
variable {C : Ctx} {σ : St}
/-- an expression that leaves the heap alone -/
noncomputable def EvE (C : Ctx) (σ : St) (e : Expr) (sv : SV) : Prop := ∀ adr s (Q : Value → Shared → Prop) (E : Value → Shared → Prop), Holds C σ adr s.heap →
  (∀ v tk, SVal (C.avo σ.own adr) adr s.heap v sv → Q v { s with toks := tk }) → wpAny (model C.P.prog C.P.w) C.A (eval e C.env) Q E s
theorem evE_name {i : Nat} {x : Str} {pos : Pos} {sv : SV} (hn : C.names[i]? = some x) (hl : σ.loc[i]? = some sv) (hu : sv ≠ .un) (hd : sameS x "__debug__" = false) : EvE C σ (.Name x pos) sv := by
  intro adr s Q E H k
  rcases H.vars i x sv hn hl with e | ⟨v, r, w⟩
  · exact absurd e hu
  · refine wpAny_Name ?_ (sameS_ne hd)
    have q := k v s.toks w
    rcases r with ⟨e, m, hn, hm⟩ | ⟨e | ⟨e, ec⟩, c, hc, hv⟩
    · exact wpAny_loadName_local H.kind e hn hm q
    · exact wpAny_loadName_cell H.kind e hc hv q
    · exact wpAny_loadName_free H.kind e hc hv q ec
theorem evE_str {x : Str} {k : Nat} {pos : Pos} : EvE C σ (.Constant (.str x) k pos) (.v (.str x)) := fun _ s _ _ _ k => wpAny_Constant_str (k _ _ (.str x _))
theorem EvE.ev {e : Expr} {sv : SV} (h : EvE C σ e sv) : Ev C σ e sv := fun adr s Q E H k => h adr s Q E H fun v tk w => k v s.heap tk (stays_refl _) w

noncomputable def nameOf (env : Env) (px : Pos) : Expr → Option Str
  | .Name id pos => if env.kindOf id == some .local && pos.line == px.line then some id else none
  | _ => none
theorem swapped_form (env : Env) (x y : Str) (px py tp vp : Pos) (n n' : Nat) (e1 e2 : Expr) : swappedStores [.Tuple [.Name x px, .Name y py] n tp] (.Tuple [e1, e2] n' vp) env =
    (if (!(2 == 2 || 2 == 3) || (2 != 2) || env.blockKind != .function) = true then pure none else if ([e1, e2].any isStar) = true then pure none else
      if (([Expr.Name x px, Expr.Name y py].filterMap (nameOf env px)).length != 2 || ([Expr.Name x px, Expr.Name y py].filterMap (nameOf env px)).eraseDups.length != ([Expr.Name x px, Expr.Name y py].filterMap (nameOf env px)).length) = true then pure none else
      if [e1, e2].all (foldedForSure 8) = true then pure none else if [e1, e2].all (constantsAlone 8) = true then unsupported "assign.tuple-of-constant-expressions:order-of-the-stores" else pure (some ([Expr.Name x px, Expr.Name y py].filterMap (nameOf env px)))) := by
  rfl
theorem swapped2 {Γ : Sc} (S : Stat C Γ) {x y : Str} {px py tp vp : Pos} {n n' : Nat} {e1 e2 : Expr} (kx : Γ.kind x = some .local) (ky : Γ.kind y = some .local) (hl : (py.line == px.line) = true) (ne : sameS y x = false)
    (h1 : isStar e1 = false) (h2 : isStar e2 = false) (hf : [e1, e2].all (foldedForSure 8) = false) (hc : [e1, e2].all (constantsAlone 8) = false) :
    swappedStores [.Tuple [.Name x px, .Name y py] n tp] (.Tuple [e1, e2] n' vp) C.env = pure (some [x, y]) := by
  have bk : C.env.blockKind = .function := by
    unfold Env.blockKind
    rw [S.fk]; rfl
  have ne' : (y == x) = false := sameS_ne ne
  have hs : [e1, e2].any isStar = false := by simp [h1, h2]
  have hn : [Expr.Name x px, Expr.Name y py].filterMap (nameOf C.env px) = [x, y] := by
    simp only [List.filterMap_cons, List.filterMap_nil, nameOf]
    rw [S.kind, S.kind, kx, ky, hl]
    simp
  have ed : ([x, y] : List Str).eraseDups.length = 2 := by
    simp [List.eraseDups_cons, ne']
  rw [swapped_form, hn, ed, bk, hs, hf, hc]
  rfl
/-- x, y = e, where the stores are swapped -/
theorem ex_tupS (K : CtxOk C) (hh : C.A.handled = none) (i j : Nat) {x y : Str} {px py tp pos : Pos} {n : Nat} {e : Expr} {a b : PV} (hx : C.names[i]? = some x) (hy : C.names[j]? = some y) (kx : Slotted C x) (ky : Slotted C y) (h : Ev C σ e (.v (.tup [a, b])))
    (hs : swapsWithSole [.Tuple [.Name x px, .Name y py] n tp] e pos.line C.env = pure false) (hw : swappedStores [.Tuple [.Name x px, .Name y py] n tp] e C.env = pure (some [x, y])) :
    Ex C σ (.Assign [.Tuple [.Name x px, .Name y py] n tp] e pos) .next ((σ.setv j (.v b)).setv i (.v a)) := by
  intro adr s Q E H k
  refine Assign_Tuple_swapped (h adr s _ E H fun v h1 t1 k1 w1 => ?_) hs hw
  have w1' : Val (C.avo σ.own adr) h1 v (.tup [a, b]) := w1
  cases w1' with
  | tup l na w =>
  rename_i t its
  have e1 := w.length
  simp only [Array.length_toList] at e1
  have H1 := H.stays k1
  have e2 : ([x, y] : List Str).length = its.size := by rw [e1]; rfl
  rw [e2]
  refine wpAny_unpackItems_tuple hh l fun h2 x2 => ?_
  have st : Soft h1 h2 := fun b o e => .inl (x2 b o (Nat.ne_of_lt (Heap.lt_size e)) e)
  have w2 := w.stays st
  generalize its.toList = vs at w2
  cases w2 with
  | cons wa wr =>
  cases wr with
  | cons wb wn =>
  cases wn
  rename_i va vb
  have key := stores_seq K (adr := adr) (E := E) [(j, y, fun v => bindName C.env y v), (i, x, fun v => bindName C.env x v)] [vb, va] [.v b, .v a] σ { s with heap := h2, toks := t1 } (fun _ s' => Q .next s') (fun t ht => by
    simp only [List.mem_cons, List.not_mem_nil, or_false] at ht
    rcases ht with rfl | rfl
    · exact ⟨hy, ky, fun v s Q hh => wpAny_bindName hh⟩
    · exact ⟨hx, kx, fun v s Q hh => wpAny_bindName hh⟩) rfl (H1.stays st) (.cons wb (.cons wa .nil)) fun h3 t3 H3 F3 => k .next h3 t3 adr H3 ((Frm.of_stays (stays_trans k1 st)).trans F3) trivial
  exact key
theorem exTupS {Γ : Sc} (K : CtxOk C) (S : Stat C Γ) (Sl : Slots C Γ) (i j : Nat) {x y : Str} {px py tp vp pos : Pos} {n n' : Nat} {e1 e2 : Expr} {a b : PV} (hx : Γ.names[i]? = some x) (hy : Γ.names[j]? = some y) (kx : Γ.kind x = some .local) (ky : Γ.kind y = some .local) (hl : (py.line == px.line) = true) (ne : sameS y x = false)
    (h1 : isStar e1 = false) (h2 : isStar e2 = false) (hf : [e1, e2].all (foldedForSure 8) = false) (hc : [e1, e2].all (constantsAlone 8) = false) (h : Ev C σ (.Tuple [e1, e2] n' vp) (.v (.tup [a, b])))
    (hs : swapsWithSole [.Tuple [.Name x px, .Name y py] n tp] (.Tuple [e1, e2] n' vp) pos.line C.env = pure false) :
    Ex C σ (.Assign [.Tuple [.Name x px, .Name y py] n tp] (.Tuple [e1, e2] n' vp) pos) .next ((σ.setv j (.v b)).setv i (.v a)) :=
  ex_tupS K S.hh i j (by rw [S.names]; exact hx) (by rw [S.names]; exact hy) (Sl x (by unfold slotB; rw [kx])) (Sl y (by unfold slotB; rw [ky])) h hs (swapped2 S kx ky hl ne h1 h2 hf hc)
end
end Rt

/-! V5o -/
namespace Rt
section
variable {C : Ctx} {σ : St}
theorem flat_sval {av av' : Addr → Prop} {adr adr' : List Addr} {h h' : Heap} {v : Value} {p : PV} (f : flat p = true) (w : SVal av adr h v (.v p)) : SVal av' adr' h' v (.v p) := flat_val (p := p) f w
/-- a, x, b, c = (e1, [[]], e3, e4) -/
theorem ex_tup4 (K : CtxOk C) (hh : C.A.handled = none) (i1 i2 i3 i4 : Nat) {x1 x2 x3 x4 : Str} {q1 q2 q3 q4 tp vp lp1 lp2 pos : Pos} {n n' : Nat} {e1 e3 e4 : Expr} {a c d : PV} (n1 : C.names[i1]? = some x1) (n2 : C.names[i2]? = some x2) (n3 : C.names[i3]? = some x3) (n4 : C.names[i4]? = some x4)
    (k1 : Slotted C x1) (k2 : Slotted C x2) (k3 : Slotted C x3) (k4 : Slotted C x4) (s1 : isStar e1 = false) (s3 : isStar e3 = false) (s4 : isStar e4 = false) (fa : flat a = true)
    (h1 : Ev C σ e1 (.v a)) (h3 : Ev C ((σ.addOwn []).addOwn [.mut σ.own.length]) e3 (.v c)) (h4 : Ev C ((σ.addOwn []).addOwn [.mut σ.own.length]) e4 (.v d))
    (hs : swapsWithSole [.Tuple [.Name x1 q1, .Name x2 q2, .Name x3 q3, .Name x4 q4] n tp] (.Tuple [e1, .List [.List [] lp1] lp2, e3, e4] n' vp) pos.line C.env = pure false)
    (hw : swappedStores [.Tuple [.Name x1 q1, .Name x2 q2, .Name x3 q3, .Name x4 q4] n tp] (.Tuple [e1, .List [.List [] lp1] lp2, e3, e4] n' vp) C.env = pure none) :
    Ex C σ (.Assign [.Tuple [.Name x1 q1, .Name x2 q2, .Name x3 q3, .Name x4 q4] n tp] (.Tuple [e1, .List [.List [] lp1] lp2, e3, e4] n' vp) pos) .next
      ((((((σ.addOwn []).addOwn [.mut σ.own.length]).setv i1 (.v a)).setv i2 (.mut (σ.own.length + 1))).setv i3 (.v c)).setv i4 (.v d)) := by
  intro adr s Q E H k
  refine Assign_Tuple (wpAny_Tuple_spliced (wpAny_items_cons (h1 adr s _ E H fun v1 g1 t1 r1 w1 => ?_) (starEach_plain s1))) hs hw
  have H1 := H.stays r1
  refine wpAny_items_cons (wpAny_List_spliced (wpAny_items_cons (wpAny_List_spliced (wpAny_items_nil ⟨Nat.zero_le _, ?_⟩)) rfl)) rfl
  have H2 := H1.addOwn (vs := #[]) (xs := []) .nil
  have F2 := Frm.addOwn H1 #[] []
  refine wpAny_items_nil ⟨by show 1 ≤ sizeLine; decide, ?_⟩
  have e2 : adr.length = σ.own.length := H.len
  have w2 : SVals (C.avo (σ.addOwn []).own (adr ++ [g1.objs.size])) (adr ++ [g1.objs.size]) (g1.push { cls := .type "list", data := .seq #[] }) [Value.ref g1.objs.size] [.mut σ.own.length] :=
    .cons ⟨g1.objs.size, by rw [← e2, List.getElem?_append_right (Nat.le_refl _)]; simp, rfl⟩ .nil
  have H3 := H2.addOwn (vs := #[.ref g1.objs.size]) (xs := [.mut σ.own.length]) w2
  have F3 := Frm.addOwn H2 #[.ref g1.objs.size] [.mut σ.own.length]
  generalize hg2 : g1.push { cls := .type "list", data := .seq #[] } = g2 at *
  generalize hg3 : g2.push { cls := .type "list", data := .seq #[.ref g1.objs.size] } = g3 at *
  generalize hadr : adr ++ [g1.objs.size] ++ [g2.objs.size] = adr3 at *
  have a1 : adr3[σ.own.length + 1]? = some g2.objs.size := by
    rw [← hadr, ← e2, List.getElem?_append_right (by simp)]; simp
  have goal3 : wpAny (model C.P.prog C.P.w) C.A (spliced (backTo vp (starEach [e3, e4] C.env))) (fun vs s₁ => (v1 :: Value.ref g2.objs.size :: vs).length ≤ sizeLine ∧
      wpAny (model C.P.prog C.P.w) C.A (assign (.Tuple [.Name x1 q1, .Name x2 q2, .Name x3 q3, .Name x4 q4] n tp) C.env (.ref s₁.heap.objs.size)) (fun _ => Q .next) E { s₁ with heap := s₁.heap.push { cls := .type "tuple", data := .seq (v1 :: Value.ref g2.objs.size :: vs).toArray } }) E { s with heap := g3, toks := t1 } := by
    refine wpAny_items_cons (h3 adr3 _ _ E H3 fun v3 g4 t4 r4 w4 => wpAny_items_cons (h4 adr3 _ _ E (H3.stays r4) fun v4 g5 t5 r5 w5 => wpAny_items_nil ⟨by show 4 ≤ sizeLine; decide, ?_⟩) (starEach_plain s4)) (starEach_plain s3)
    have H5 := (H3.stays r4).stays r5
    have pk := stays_push g5 { cls := .type "tuple", data := .seq (v1 :: Value.ref g2.objs.size :: [v3, v4]).toArray }
    have H6 := H5.stays pk
    refine wpAny_assign_Tuple (items := (v1 :: Value.ref g2.objs.size :: [v3, v4]).toArray) hh ⟨_, Heap.get?_push_size _ rfl, rfl, _, rfl⟩ rfl rfl fun g7 x7 => ?_
    have st : Soft (g5.push { cls := .type "tuple", data := .seq (v1 :: Value.ref g2.objs.size :: [v3, v4]).toArray }) g7 := fun b o e => .inl (x7 b o (Nat.ne_of_lt (Heap.lt_size e)) e)
    have up : ∀ {v sv}, SVal (C.avo ((σ.addOwn []).addOwn [.mut σ.own.length]).own adr3) adr3 g5 v sv → SVal (C.avo ((σ.addOwn []).addOwn [.mut σ.own.length]).own adr3) adr3 g7 v sv := fun w => (w.stays pk).stays st
    refine stores_seq K (adr := adr3) (E := E) [(i1, x1, assign (.Name x1 q1) C.env), (i2, x2, assign (.Name x2 q2) C.env), (i3, x3, assign (.Name x3 q3) C.env), (i4, x4, assign (.Name x4 q4) C.env)] _ [.v a, .mut (σ.own.length + 1), .v c, .v d] ((σ.addOwn []).addOwn [.mut σ.own.length]) { s with heap := g7, toks := t5 } (fun _ => Q .next) (fun t ht => ?_) rfl (H6.stays st)
      (.cons (flat_sval fa w1) (.cons ⟨_, a1, rfl⟩ (.cons (up (w4.stays r5)) (.cons (up w5) .nil)))) fun g8 t8 H8 F8 => ?_
    · simp only [List.mem_cons, List.not_mem_nil, or_false] at ht
      rcases ht with rfl | rfl | rfl | rfl
      · exact ⟨n1, k1, fun v s Q hh => wpAny_assign_Name hh⟩
      · exact ⟨n2, k2, fun v s Q hh => wpAny_assign_Name hh⟩
      · exact ⟨n3, k3, fun v s Q hh => wpAny_assign_Name hh⟩
      · exact ⟨n4, k4, fun v s Q hh => wpAny_assign_Name hh⟩
    · refine k .next g8 t8 adr3 H8 ?_ trivial
      exact (Frm.of_stays r1).trans (F2.trans (F3.trans ((Frm.of_stays (stays_trans (stays_trans (stays_trans r4 r5) pk) st)).trans F8)))
  exact goal3
/-- x.append([]) : a new list of the frame's own goes to another -/
theorem ex_appNew (k : Nat) {o : Expr} {apos cpos lp pos : Pos} {xs : List SV} (ho : Ev C σ o (.mut k)) (hk : σ.own[k]? = some (some xs)) (hsz : xs.length ≤ sizeLine) (hb : noBase o = true) (hp : (apos.endLine == cpos.line) = true)
    (hi : interactive C.env = false) (hs : swapsWith (.Call (.Attribute o "append" apos) [.List [] lp] [] cpos) none pos.line C.env = pure false) :
    Ex C σ (.Expr (.Call (.Attribute o "append" apos) [.List [] lp] [] cpos) pos) .next ((σ.addOwn []).updOwn k (xs ++ [.mut σ.own.length])) := by
  intro adr s Q E H kk
  refine wpAny_Expr ?_ hi hs
  refine MethodCall_ (ho adr s _ E H fun ov h1 t1 k1 w1 => ?_) (meth_eq hb rfl (by show 1 < 30; decide) hp)
  obtain ⟨a, ha, rfl⟩ := w1
  have H1 := H.stays k1
  obtain ⟨its, l, ws⟩ := H1.own k xs a hk ha
  obtain ⟨n, hob⟩ := id l
  refine PySem.getMethod_builtin (T := "list") ⟨_, hob, rfl⟩ PySem.F.plainAttrs_list PySem.F.slot_list_append PySem.F.type_list_append (fun b e => by cases e; exact ⟨_, hob, rfl⟩) ?_
  refine callWith_method1 (wpAny_items_cons (wpAny_List_spliced (wpAny_items_nil ⟨Nat.zero_le _, wpAny_items_nil ?_⟩)) rfl) rfl rfl
  have e2 : adr.length = σ.own.length := H.len
  have H2 := H1.addOwn (vs := #[]) (xs := []) .nil
  have F2 := Frm.addOwn H1 #[] []
  have hk2 : (σ.addOwn []).own[k]? = some (some xs) := get_left hk
  have ha2 : (adr ++ [h1.objs.size])[k]? = some a := get_left ha
  obtain ⟨its2, l2, ws2⟩ := H2.own k xs a hk2 ha2
  have e1 := ws2.length
  simp only [Array.length_toList] at e1
  refine wp_append (s := { s with heap := h1.push { cls := .type "list", data := .seq #[] }, toks := t1 }) l2 (by rw [e1]; exact hsz) fun h3 l3 s3 => ?_
  have wn : SVal (C.avo (σ.addOwn []).own (adr ++ [h1.objs.size])) (adr ++ [h1.objs.size]) (h1.push { cls := .type "list", data := .seq #[] }) (Value.ref h1.objs.size) (.mut σ.own.length) := ⟨h1.objs.size, by rw [← e2, List.getElem?_append_right (Nat.le_refl _)]; simp, rfl⟩
  refine kk .next h3 t1 _ (H2.updOwn hk2 ha2 s3 l3 (by rw [Array.toList_push]; exact ws2.append (.cons wn .nil))) ?_ trivial
  refine (Frm.of_stays k1).trans (F2.trans (Frm.updOwn hk2 ha2 s3 ?_))
  obtain ⟨n3, ho3⟩ := l3
  rw [ho3]; rfl
/-- the last of a list of the frame's own -/
theorem ev_last (k : Nat) {o slice : Expr} {pos : Pos} {xs : List SV} {sv : SV} (ho : Ev C σ o (.mut k)) (hk : σ.own[k]? = some (some xs)) (hx : xs.getLast? = some sv) (hi : Ev C σ slice (.v (.int (-1)))) (hsz : xs.length ≤ sizeLine)
    (hs : ∀ o i, subscripted slice false o i = operate [o, i] (getItem o i)) : Ev C σ (.Subscript o slice pos) sv := by
  have hL : sizeLine = 16777216 := rfl
  intro adr s Q E H kk
  refine Subscript_ (ho adr s _ E H fun ov h1 t1 k1 w1 => hi adr _ _ E (H.stays k1) fun i h2 t2 k2 w2 => ?_)
  cases w2
  obtain ⟨a, ha, rfl⟩ := w1
  have H2 := (H.stays k1).stays k2
  obtain ⟨its, l, ws⟩ := H2.own k xs a hk ha
  have e1 := ws.length
  simp only [Array.length_toList] at e1
  have hpos : 0 < xs.length := by
    cases xs with
    | nil => cases hx
    | cons _ _ => simp
  rw [List.getLast?_eq_getElem?] at hx
  obtain ⟨v, hv, wv⟩ := svals_get ws hx
  have hv' : its[((-1 : Int) + its.size).toNat]? = some v := by
    rw [show ((-1 : Int) + its.size).toNat = xs.length - 1 by omega]; simpa using hv
  exact tail_any l.isList.typeIs slot_list_getitem.lookup (wpAny_getItem_list_neg l.isList (by decide) (by omega) (by omega) hv' (kk v h2 t2 (stays_trans k1 k2) wv)) (hs _ _)
end
end Rt

/-! V5p -/
namespace Rt
section
variable {C : Ctx} {σ : St}
theorem notMods {h : Heap} {P : Pr} (G : Glb P h) {D : Addr} (hD : h.objs.size ≤ D) : (D == sysModules) = false := by
  obtain ⟨o, _, _, ho, _⟩ := G.g
  have h3 : (3 : Nat) < h.objs.size := Heap.lt_size ho
  rw [beq_eq_false_iff_ne]
  intro q
  rw [q] at hD
  exact absurd (Nat.lt_of_lt_of_le h3 hD) (by decide)
theorem val_str {av : Addr → Prop} {h : Heap} {v : Value} {x : Str} (w : Val av h v (.str x)) : ∃ u, v = .str x u := by
  cases w with
  | str x u => exact ⟨u, rfl⟩
/-- a dict of two texts, made -/
theorem wp_dict2 {x : Str} {c1 c2 c3 vx : Str} {i : Nat} {k1 k2 k3 : Nat} {q1 q2 q3 px dp : Pos} (hx : C.names[i]? = some x) (lx : σ.loc[i]? = some (.v (.str vx))) (dx : sameS x "__debug__" = false) {adr : List Addr} {s : Shared} {Q E : Value → Shared → Prop} (H : Holds C σ adr s.heap)
    (k : ∀ D h' tk u2 u4, s.heap.objs.size ≤ D → h'.DictOf (strKind C.P.prog C.P.w) D (merged [] [(c1, .str vx u2), (c2, .str c3 u4)]) → Soft s.heap h' → Q (.ref D) { s with heap := h', toks := tk }) :
    wpAny (model C.P.prog C.P.w) C.A (eval (.Dict [some (.Constant (.str c1) k1 q1), some (.Constant (.str c2) k2 q2)] [.Name x px, .Constant (.str c3) k3 q3] dp) C.env) Q E s := by
  refine wpAny_Dict_walk (knd := strKind C.P.prog C.P.w) rfl rfl (fun h => nomatch h) (by show 2 ≤ 15; decide) ?_
  have pk := stays_push s.heap { cls := .type "dict", data := .dict #[] }
  have H1 := H.stays pk
  refine pairTrees_cons_walk (evE_str adr _ _ E H1 fun a1 t1 w1 => evE_name hx lx (fun h => nomatch h) dx adr _ _ E H1 fun b1 t2 w2 => pairTrees_cons_walk (evE_str adr _ _ E H1 fun a2 t3 w3 => evE_str adr _ _ E H1 fun b2 t4 w4 => pairTrees_nil_walk ?_))
  obtain ⟨u1, rfl⟩ := val_str w1
  obtain ⟨u2, rfl⟩ := val_str w2
  obtain ⟨u3, rfl⟩ := val_str w3
  obtain ⟨u4, rfl⟩ := val_str w4
  exact ⟨[(c1, .str vx u2), (c2, .str c3 u4)], ⟨strKind_is _ _ _ _, rfl, strKind_is _ _ _ _, rfl, trivial⟩, Heap.DictOf.new _, fun h' hd hs => k _ h' _ u2 u4 (Nat.le_refl _) hd (soft_but pk hs (Heap.get?_none_of_le (Nat.le_refl _)))⟩
theorem dget_val {c1 c2 c3 vx vy : Str} (hne : c1 ≠ c2) (u2 u4 u6 : Tok) : ∃ u, (valueAt (merged ([] : List (Str × Value)) [(c1, .str vx u2), (c2, .str c3 u4)]) vy).getD (.str vy u6) = .str (if vy = c1 then vx else if vy = c2 then c3 else vy) u := by
  have em : merged ([] : List (Str × Value)) [(c1, .str vx u2), (c2, .str c3 u4)] = [(c1, .str vx u2), (c2, .str c3 u4)] := by
    simp [merged, stored, hne]
  rw [em]
  by_cases e1 : vy = c1
  · rw [if_pos e1]
    subst e1
    exact ⟨u2, by simp [valueAt]⟩
  · rw [if_neg e1]
    by_cases e2 : vy = c2
    · rw [if_pos e2]
      subst e2
      exact ⟨u4, by simp [valueAt, hne]⟩
    · rw [if_neg e2]
      exact ⟨u6, by simp [valueAt, Ne.symm e1, Ne.symm e2]⟩
/-- o.get(y, y) on a dict of texts -/
theorem ev_dgetO {o : Expr} {y : Str} {vy r : Str} {j : Nat} {py1 py2 ap cp : Pos} {ps : Nat → Nat → List (Str × Value)} (hb : noBase o = true) (hy : C.names[j]? = some y) (ly : σ.loc[j]? = some (.v (.str vy))) (dy : sameS y "__debug__" = false) (hp : (ap.endLine == cp.line) = true)
    (ho : ∀ adr s (Q E : Value → Shared → Prop), Holds C σ adr s.heap → (∀ D h' tk u2 u4, s.heap.objs.size ≤ D → h'.DictOf (strKind C.P.prog C.P.w) D (ps u2 u4) → Soft s.heap h' → Q (.ref D) { s with heap := h', toks := tk }) → wpAny (model C.P.prog C.P.w) C.A (eval o C.env) Q E s)
    (hr : ∀ u2 u4 u6, ∃ u, (valueAt (ps u2 u4) vy).getD (.str vy u6) = .str r u) :
    Ev C σ (.Call (.Attribute o "get" ap) [.Name y py1, .Name y py2] [] cp) (.v (.str r)) := by
  intro adr s Q E H k
  refine MethodCall_ ?_ (meth_eq hb rfl (by show 2 < 30; decide) hp)
  refine ho adr s _ E H fun D h' tk u2 u4 hD hd st => ?_
  have H2 := H.stays st
  have hm := hd.mapOf
  refine PySem.getMethod_builtin (T := "dict") hm.typeIs PySem.F.plainAttrs_dict PySem.F.slot_dict_get PySem.F.type_dict_get (fun b e => by cases e; obtain ⟨o, es, ep, ho, hc, hdd, u⟩ := hd; exact ⟨_, ho, hc.2.1⟩) ?_
  refine callWith_method1 (wpAny_items_cons (evE_name hy ly (fun h => nomatch h) dy adr { s with heap := h', toks := _ } _ E H2 fun a t5 wa => wpAny_items_cons (evE_name hy ly (fun h => nomatch h) dy adr { s with heap := h', toks := _ } _ E H2 fun b t6 wb => wpAny_items_nil ?_) rfl) rfl) rfl rfl
  obtain ⟨u5, rfl⟩ := val_str wa
  obtain ⟨u6, rfl⟩ := val_str wb
  refine call_meetsIn F.slot_dict_get hm.typeIs F.entry_dict_get (F.args_dict_get_3 _ _ _) (meets_dict_get_default (strKind C.P.prog C.P.w) D (strKind_is _ _ vy u5) (notMods H.g hD) (.str vy u6)) ⟨_, hm, ?_⟩
  obtain ⟨u, eu⟩ := hr u2 u4 u6
  show Q _ _
  rw [eu]
  exact k _ h' _ st (.str _ u)
/-- {c1: x, c2: c3}.get(y, y) -/
theorem ev_dget {x y : Str} {c1 c2 c3 vx vy : Str} {i j : Nat} {k1 k2 k3 : Nat} {q1 q2 q3 px py1 py2 dp ap cp : Pos} (hx : C.names[i]? = some x) (lx : σ.loc[i]? = some (.v (.str vx))) (dx : sameS x "__debug__" = false) (hy : C.names[j]? = some y) (ly : σ.loc[j]? = some (.v (.str vy))) (dy : sameS y "__debug__" = false)
    (hne : c1 ≠ c2) (hp : (ap.endLine == cp.line) = true) :
    Ev C σ (.Call (.Attribute (.Dict [some (.Constant (.str c1) k1 q1), some (.Constant (.str c2) k2 q2)] [.Name x px, .Constant (.str c3) k3 q3] dp) "get" ap) [.Name y py1, .Name y py2] [] cp) (.v (.str (if vy = c1 then vx else if vy = c2 then c3 else vy))) :=
  ev_dgetO rfl hy ly dy hp (fun adr s Q E H k => wp_dict2 hx lx dx H k) (dget_val hne)
end
end Rt

/-! V8e -/
namespace Rt
noncomputable abbrev dRuns : DefRec := dr 16 (by decide)
noncomputable abbrev scRuns : Sc := dSc dRuns ["text", "inner", "runs", "k", "state", "sign", "behind"] [eLen]
noncomputable abbrev bRuns : List Stmt := whileB dRuns.body 2
noncomputable def stRuns (t w : Str) (k : Nat) (st : Str) (sg bh : SV) (own : Owns) : St := ⟨[.v (.str t), .v (.str w), .mut 1, .v (.int k), .v (.str st), sg, bh], own⟩
noncomputable def runV (r : List Str) : SV := .v (runP r)
structure RInv (own : Owns) (c : Nat) (done : List (List Str)) (cur : List Str) : Prop where
  out : own[1]? = some (some (done.map runV ++ [.mut c]))
  cur : own[c]? = some (some ((cur.map PV.str).map .v))
  ne : c ≠ 1
noncomputable def frzO (own : Owns) (c : Nat) (ps : List PV) : Owns := (own.set c none).map (Option.map (List.map (SV.frz c ps)))
theorem frz_st {t w : Str} {k : Nat} {st : Str} {p q : PV} {own : Owns} {c : Nat} {ps : List PV} (h : c ≠ 1) : (stRuns t w k st (.v p) (.v q) own).frz c ps = stRuns t w k st (.v p) (.v q) (frzO own c ps) := by
  have e : SV.frz c ps (.mut 1) = .mut 1 := if_neg (Ne.symm h)
  show (⟨[.v (.str t), .v (.str w), SV.frz c ps (.mut 1), .v (.int k), .v (.str st), .v p, .v q], frzO own c ps⟩ : St) = _
  rw [e]; rfl
theorem frzO_out {own : Owns} {c : Nat} {done : List (List Str)} {cur : List Str} (I : RInv own c done cur) : (frzO own c (cur.map .str))[1]? = some (some ((done ++ [cur]).map runV)) := by
  unfold frzO
  rw [List.getElem?_map, List.getElem?_set_ne I.ne, I.out]
  show some (some (List.map _ (done.map runV ++ [.mut c]))) = _
  rw [List.map_append, List.map_append, List.map_map]
  have e : SV.frz c (cur.map .str) (.mut c) = .v (.list (cur.map .str)) := if_pos rfl
  show some (some (_ ++ [SV.frz c (cur.map .str) (.mut c)])) = _
  rw [e]; rfl
noncomputable def beh (w : Str) (k : Nat) : Str := Txt.slice w (some ((k : Int) + 1)) (some ((k : Int) + 2))
noncomputable def spec12 : Str := "()[]{}?*+|^$"
noncomputable def inS (x y : Str) : Bool := !(Builtin.Str.occurrences x y 0 x.length 1).isEmpty
inductive RStep where
  | bad
  | app (k : Nat) (st : Str)
  | shut (k : Nat)
  | add (k : Nat) (z : Str)
noncomputable def isFC (st : Str) : Bool := st == "front" || st == "closed"
noncomputable def runsStep (w : Str) (k : Nat) (st : Str) : RStep :=
  if Txt.slice w (some (k : Int)) (some ((k : Int) + 6)) == "(?>.*?" && isFC st then .app (k + 6) "group"
  else if idxC w k == ")" && st == "group" then .shut (k + 1)
  else if idxC w k ++ beh w k == ".*" && isFC st then .app (k + 2) "last"
  else if st == "closed" || inS spec12 (idxC w k) || (idxC w k == "\\" && (beh w k == "" || Txt.isalnum (beh w k))) then .bad
  else .add (bif idxC w k == "\\" then k + 2 else k + 1) (if idxC w k = "\\" then beh w k else if idxC w k = "." then "" else idxC w k)
theorem strOk_fc {l : List Str} (h : l.all PyData.strOk = true) : lay (.list (l.map .str)) = true := layN_lay (layN_strs (l := l) fun x hx => List.all_eq_true.mp h x hx) (by decide)
theorem any2 (a b x : Str) : ((toPDs ([a, b].map .str)).any fun y => PyData.eqv y (toPD (.str x))) = (x == a || x == b) := by
  rw [any_strs, List.contains_cons, List.contains_cons, List.contains_nil, Bool.or_false]
theorem slice_len (w : Str) (i j : Option Int) : True := trivial
section
variable {C : Ctx} (K : CtxOk C) (S : Stat C scRuns) (Sl : Slots C scRuns)
include K S Sl
theorem runs_head (t w : Str) (hw : w.length ≤ 10000) (k : Nat) (hk : k < w.length) (st : Str) (sg bh : SV) (own : Owns) :
    Ex C (stRuns t w k st sg bh own) (stB bRuns 0) .next (stRuns t w k st (.v (.str (idxC w k))) (.v (.str (beh w k))) own) := by
  have hL : sizeLine = 16777216 := rfl
  exact ex_to (exTupS K S Sl 5 6 rfl rfl rfl rfl rfl (by decide +kernel) rfl rfl rfl rfl (evG (v := .tup [.str (idxC w k), .str (beh w k)]) S (by rfl) (by
    exact ⟨⟨⟨trivial, trivial, by rw [len_list]; omega, by rw [len_list]; omega, by rw [len_list]; omega⟩, ⟨trivial, ⟨trivial, trivial, trivial⟩, ⟨trivial, trivial, trivial⟩, by omega⟩, trivial⟩, by show 2 ≤ sizeLine; decide⟩) rfl) rfl) rfl
where ex_to {C : Ctx} {σ σ₁ σ' : St} {b : Stmt} {o : Out} (h : Ex C σ b o σ₁) (e : σ₁ = σ') : Ex C σ b o σ' := e ▸ h
end
end Rt

/-! V8f -/
namespace Rt
noncomputable abbrev rIf1 : Stmt := stB bRuns 1
noncomputable abbrev rA1 : List Stmt := match rIf1 with | .If _ a _ _ => a | _ => []
noncomputable abbrev rIf2 : Stmt := match rIf1 with | .If _ _ b _ => stB b 0 | _ => .Pass ⟨0, 0, 0, 0⟩
noncomputable abbrev rA2 : List Stmt := match rIf2 with | .If _ a _ _ => a | _ => []
noncomputable abbrev rIf3 : Stmt := match rIf2 with | .If _ _ b _ => stB b 0 | _ => .Pass ⟨0, 0, 0, 0⟩
noncomputable abbrev rA3 : List Stmt := match rIf3 with | .If _ a _ _ => a | _ => []
noncomputable abbrev rIf4 : Stmt := match rIf3 with | .If _ _ b _ => stB b 0 | _ => .Pass ⟨0, 0, 0, 0⟩
noncomputable abbrev rA4 : List Stmt := match rIf4 with | .If _ a _ _ => a | _ => []
noncomputable abbrev rB4 : List Stmt := match rIf4 with | .If _ _ b _ => b | _ => []
noncomputable abbrev tOf (s : Stmt) : Expr := match s with | .If t _ _ _ => t | _ => .Constant .none 0 ⟨0, 0, 0, 0⟩
section
variable {C : Ctx} (K : CtxOk C) (S : Stat C scRuns) (Sl : Slots C scRuns)
include K S Sl
theorem runs_t1 (t w : Str) (hw : w.length ≤ 10000) (k : Nat) (st : Str) (hst : PyData.strOk st = true) (sg bh : Str) (own : Owns) :
    Tr C (stRuns t w k st (.v (.str sg)) (.v (.str bh)) own) (tOf rIf1) (Txt.slice w (some (k : Int)) (some ((k : Int) + 6)) == "(?>.*?" && isFC st) := by
  have hL : sizeLine = 16777216 := rfl
  refine trG S (by rfl) (by exact ⟨⟨⟨trivial, trivial, ⟨trivial, trivial, trivial⟩, by omega⟩, trivial, trivial⟩, fun _ => ⟨trivial, ⟨⟨trivial, trivial, trivial⟩, by show 2 ≤ sizeLine; decide⟩, lay_str hst, strOk_fc (l := ["front", "closed"]) (by decide +kernel)⟩⟩) ?_
  exact congrArg (_ && ·) (any2 "front" "closed" st)
theorem runs_t2 (t w : Str) (k : Nat) (st : Str) (sg bh : Str) (own : Owns) :
    Tr C (stRuns t w k st (.v (.str sg)) (.v (.str bh)) own) (tOf rIf2) (sg == ")" && st == "group") :=
  trG S (by rfl) (by exact ⟨⟨trivial, trivial, trivial⟩, fun _ => ⟨trivial, trivial, trivial⟩⟩) rfl
theorem runs_t3 (t w : Str) (k : Nat) (st : Str) (hst : PyData.strOk st = true) (sg bh : Str) (hs : sg.length + bh.length ≤ 10000) (own : Owns) :
    Tr C (stRuns t w k st (.v (.str sg)) (.v (.str bh)) own) (tOf rIf3) (sg ++ bh == ".*" && isFC st) := by
  have hL : sizeLine = 16777216 := rfl
  refine trG S (by rfl) (by exact ⟨⟨⟨trivial, trivial, by omega⟩, trivial, trivial⟩, fun _ => ⟨trivial, ⟨⟨trivial, trivial, trivial⟩, by show 2 ≤ sizeLine; decide⟩, lay_str hst, strOk_fc (l := ["front", "closed"]) (by decide +kernel)⟩⟩) ?_
  exact congrArg (_ && ·) (any2 "front" "closed" st)
theorem runs_t4 (t w : Str) (k : Nat) (st : Str) (sg bh : Str) (own : Owns) :
    Tr C (stRuns t w k st (.v (.str sg)) (.v (.str bh)) own) (tOf rIf4) (st == "closed" || inS spec12 sg || (sg == "\\" && (bh == "" || Txt.isalnum bh))) :=
  tr_or3 (trG S (by rfl) (by exact ⟨trivial, trivial, trivial⟩) (by rfl)) (fun _ => trG S (by rfl) (by exact ⟨trivial, trivial, trivial⟩) (by rfl)) fun _ _ => trG S (by rfl) (by exact ⟨⟨trivial, trivial, trivial⟩, fun _ => ⟨⟨trivial, trivial, trivial⟩, fun _ => ⟨⟨trivial, trivial, trivial⟩, trivial⟩⟩⟩) (by rfl)
/-- a new run is begun -/
theorem runs_app (t w : Str) (k : Nat) (st : Str) (sg bh : Str) {own : Owns} {c : Nat} {done : List (List Str)} {cur : List Str} (I : RInv own c done cur) (hd : done.length ≤ 10000) :
    (∃ own', Exs C (stRuns t w k st (.v (.str sg)) (.v (.str bh)) own) rA1 .next (stRuns t w (k + 6) "group" (.v (.str sg)) (.v (.str bh)) own') ∧ ∃ c', RInv own' c' (done ++ [cur]) []) ∧
    (∃ own', Exs C (stRuns t w k st (.v (.str sg)) (.v (.str bh)) own) rA3 .next (stRuns t w (k + 2) "last" (.v (.str sg)) (.v (.str bh)) own') ∧ ∃ c', RInv own' c' (done ++ [cur]) []) := by
  have hL : sizeLine = 16777216 := rfl
  have ho := frzO_out I
  have l1 : 1 < (frzO own c (cur.map .str)).length := (List.getElem?_eq_some_iff.mp ho).1
  have inv : RInv (((frzO own c (cur.map .str)) ++ [some []]).set 1 (some ((done ++ [cur]).map runV ++ [SV.mut (frzO own c (cur.map .str)).length]))) (frzO own c (cur.map .str)).length (done ++ [cur]) [] := by
    refine ⟨?_, ?_, by omega⟩
    · rw [List.getElem?_set, if_pos rfl, if_pos (by rw [List.length_append]; omega)]
    · rw [List.getElem?_set_ne (by omega), List.getElem?_append_right (Nat.le_refl _)]; simp
  have s1 : ∀ {lp pos ap cp : Pos} {np : Pos}, (ap.endLine == cp.line) = true → swapsWith (.Call (.Attribute (.Name "runs" np) "append" ap) [.List [] lp] [] cp) none pos.line C.env = pure false → Ex C (stRuns t w k st (.v (.str sg)) (.v (.str bh)) (frzO own c (cur.map .str))) (.Expr (.Call (.Attribute (.Name "runs" np) "append" ap) [.List [] lp] [] cp) pos) .next (stRuns t w k st (.v (.str sg)) (.v (.str bh)) (((frzO own c (cur.map .str)) ++ [some []]).set 1 (some ((done ++ [cur]).map runV ++ [SV.mut (frzO own c (cur.map .str)).length])))) := fun {lp pos ap cp np} hp hs =>
    ex_to (ex_appNew 1 (ev_name 2 (by rw [S.names]; rfl) rfl (fun h => nomatch h) (sameS_ne (by decide +kernel))) ho (by rw [List.length_map, List.length_append, List.length_singleton]; omega) rfl hp (inter_false S) hs) rfl
  constructor
  · refine ⟨_, exs_frz c (cur.map .str) I.cur ?_, _, inv⟩
    rw [frz_st I.ne]
    exact exs_to (exs_cons (s1 rfl rfl) (exs_cons (exTupS K S Sl 3 4 rfl rfl rfl rfl rfl (by decide +kernel) rfl rfl rfl rfl (evG (v := .tup [.int (k + 6 : Nat), .str "group"]) S (by rfl) (by exact ⟨⟨⟨trivial, trivial, trivial⟩, trivial, trivial⟩, by show 2 ≤ sizeLine; decide⟩) rfl) rfl) exs_nil)) rfl
  · refine ⟨_, exs_frz c (cur.map .str) I.cur ?_, _, inv⟩
    rw [frz_st I.ne]
    exact exs_to (exs_cons (s1 rfl rfl) (exs_cons (exTupS K S Sl 3 4 rfl rfl rfl rfl rfl (by decide +kernel) rfl rfl rfl rfl (evG (v := .tup [.int (k + 2 : Nat), .str "last"]) S (by rfl) (by exact ⟨⟨⟨trivial, trivial, trivial⟩, trivial, trivial⟩, by show 2 ≤ sizeLine; decide⟩) rfl) rfl) exs_nil)) rfl
theorem runs_shut (t w : Str) (k : Nat) (st : Str) (sg bh : Str) (own : Owns) :
    Exs C (stRuns t w k st (.v (.str sg)) (.v (.str bh)) own) rA2 .next (stRuns t w (k + 1) "closed" (.v (.str sg)) (.v (.str bh)) own) :=
  exs_to (exs_cons (exTupS K S Sl 3 4 rfl rfl rfl rfl rfl (by decide +kernel) rfl rfl rfl rfl (evG (v := .tup [.int (k + 1 : Nat), .str "closed"]) S (by rfl) (by exact ⟨⟨⟨trivial, trivial, trivial⟩, trivial, trivial⟩, by show 2 ≤ sizeLine; decide⟩) rfl) rfl) exs_nil) rfl
theorem runs_add (t w : Str) (k : Nat) (st : Str) (sg bh : Str) {own : Owns} {c : Nat} {done : List (List Str)} {cur : List Str} (I : RInv own c done cur) (hd : done.length ≤ 10000) (hc : cur.length ≤ 10000) :
    ∃ own', Exs C (stRuns t w k st (.v (.str sg)) (.v (.str bh)) own) rB4 .next (stRuns t w (bif sg == "\\" then k + 2 else k + 1) st (.v (.str sg)) (.v (.str bh)) own') ∧ RInv own' c done (cur ++ [if sg = "\\" then bh else if sg = "." then "" else sg]) := by
  have hL : sizeLine = 16777216 := rfl
  have lc := (List.getElem?_eq_some_iff.mp I.cur).1
  have hr : Ev C (stRuns t w k st (.v (.str sg)) (.v (.str bh)) own) (.Subscript (.Name "runs" ⟨292, 12, 292, 16⟩) (.UnaryOp .USub (.Constant (.int 1) 0 ⟨292, 18, 292, 19⟩) ⟨292, 17, 292, 19⟩) ⟨292, 12, 292, 20⟩) (.mut c) :=
    ev_last 1 (ev_name 2 (by rw [S.names]; rfl) rfl (fun h => nomatch h) (sameS_ne (by decide +kernel))) I.out (by rw [List.getLast?_append]; rfl) (evG S (by rfl) (by trivial) rfl) (by rw [List.length_append, List.length_map, List.length_singleton]; omega) fun _ _ => rfl
  have s1 : Ex C (stRuns t w k st (.v (.str sg)) (.v (.str bh)) own) (stB rB4 0) .next (stRuns t w k st (.v (.str sg)) (.v (.str bh)) (own.set c (some ((cur.map PV.str).map .v ++ [.v (.str (if sg = "\\" then bh else if sg = "." then "" else sg))])))) :=
    ex_to (ex_append c _ hr I.cur (ev_dget (i := 6) (j := 5) (by rw [S.names]; rfl) rfl (by decide +kernel) (by rw [S.names]; rfl) rfl (by decide +kernel) (by decide +kernel) rfl) (by rw [List.length_map, List.length_map]; omega) (meth_eq rfl rfl (by show 1 < 30; decide) rfl) (starEach_plain rfl) (inter_false S) rfl) rfl
  refine ⟨own.set c (some ((cur.map PV.str).map .v ++ [.v (.str (if sg = "\\" then bh else if sg = "." then "" else sg))])), exs_to (exs_cons s1 (exs_cons (exG (v := .int (bif sg == "\\" then k + 2 else k + 1 : Nat)) K S Sl 3 rfl rfl (by rfl) (by exact ⟨⟨trivial, trivial, trivial⟩, fun _ => ⟨trivial, trivial, trivial⟩, fun _ => ⟨trivial, trivial, trivial⟩⟩) ?_ rfl) exs_nil)) rfl, ?_, ?_, I.ne⟩
  · show PV.int (bif sg == "\\" then (k : Int) + 2 else (k : Int) + 1) = _
    cases sg == "\\" <;> rfl
  · rw [List.getElem?_set_ne I.ne]; exact I.out
  · rw [List.getElem?_set, if_pos rfl, if_pos lc, List.map_append, List.map_append]
    rfl
end
end Rt

/-! V8g -/
namespace Rt
noncomputable def runsGo (w : Str) : Nat → Nat → Str → List (List Str) → List Str → Option (List (List Str) × Str)
  | 0, _, st, done, cur => some (done ++ [cur], st)
  | f + 1, k, st, done, cur => if k < w.length then
      match runsStep w k st with
      | .bad => none
      | .app k' st' => runsGo w f k' st' (done ++ [cur]) []
      | .shut k' => runsGo w f k' "closed" done cur
      | .add k' z => runsGo w f k' st done (cur ++ [z])
    else some (done ++ [cur], st)
noncomputable def innerOf (t : Str) : Str := Txt.slice t (some 4) (some (-3))
noncomputable def lawRuns (t : Str) : Option (List (List Str) × Str) :=
  if t != "(?s:" ++ innerOf t ++ ")\\Z" then none else
  match runsGo (innerOf t) (innerOf t).length 0 "front" [] [] with
  | none => none
  | some (rs, s) => if s == "group" || s == "closed" then none else some (rs, s)
noncomputable def Quiet (sv : SV) : Prop := ∀ c ps, SV.frz c ps sv = sv
theorem quiet_v (p : PV) : Quiet (.v p) := fun _ _ => rfl
theorem quiet_un : Quiet .un := fun _ _ => rfl
theorem frz_stQ {t w : Str} {k : Nat} {st : Str} {sg bh : SV} (q1 : Quiet sg) (q2 : Quiet bh) {own : Owns} {c : Nat} {ps : List PV} (h : c ≠ 1) : (stRuns t w k st sg bh own).frz c ps = stRuns t w k st sg bh (frzO own c ps) := by
  have e : SV.frz c ps (.mut 1) = .mut 1 := if_neg (Ne.symm h)
  show (⟨[.v (.str t), .v (.str w), SV.frz c ps (.mut 1), .v (.int k), .v (.str st), SV.frz c ps sg, SV.frz c ps bh], frzO own c ps⟩ : St) = _
  rw [e, q1, q2]; rfl
theorem frz_st1 {t w : Str} {k : Nat} {st : Str} {sg bh : SV} (q1 : Quiet sg) (q2 : Quiet bh) {own : Owns} {ps : List PV} : (stRuns t w k st sg bh own).frz 1 ps = ⟨[.v (.str t), .v (.str w), .v (.list ps), .v (.int k), .v (.str st), sg, bh], frzO own 1 ps⟩ := by
  show (⟨[.v (.str t), .v (.str w), SV.frz 1 ps (.mut 1), .v (.int k), .v (.str st), SV.frz 1 ps sg, SV.frz 1 ps bh], frzO own 1 ps⟩ : St) = _
  rw [q1, q2]; rfl
section
variable {C : Ctx} (K : CtxOk C) (S : Stat C scRuns) (Sl : Slots C scRuns)
include K S Sl
theorem sign_ok {w : Str} (hw : w.length ≤ 10000) (k : Nat) : (idxC w k).length + (beh w k).length ≤ 10001 := by
  have h1 : (idxC w k).length = 1 := rfl
  have h2 := Txt.slice_le w (some ((k : Int) + 1)) (some ((k : Int) + 2))
  unfold beh
  omega
/-- a turn -/
theorem runs_turn (t w : Str) (hw : w.length ≤ 9000) (k : Nat) (hk : k < w.length) (st : Str) (hst : PyData.strOk st = true) (sg bh : SV) {own : Owns} {c : Nat} {done : List (List Str)} {cur : List Str} (I : RInv own c done cur) (hb : done.length + cur.length ≤ k) :
    match runsStep w k st with
    | .bad => ∃ σ', Exs C (stRuns t w k st sg bh own) bRuns (.ret (.v .none)) σ'
    | .app k' st' => PyData.strOk st' = true ∧ k + 1 ≤ k' ∧ ∃ own' c', Exs C (stRuns t w k st sg bh own) bRuns .next (stRuns t w k' st' (.v (.str (idxC w k))) (.v (.str (beh w k))) own') ∧ RInv own' c' (done ++ [cur]) []
    | .shut k' => k + 1 ≤ k' ∧ Exs C (stRuns t w k st sg bh own) bRuns .next (stRuns t w k' "closed" (.v (.str (idxC w k))) (.v (.str (beh w k))) own)
    | .add k' z => k + 1 ≤ k' ∧ ∃ own', Exs C (stRuns t w k st sg bh own) bRuns .next (stRuns t w k' st (.v (.str (idxC w k))) (.v (.str (beh w k))) own') ∧ RInv own' c done (cur ++ [z]) := by
  have s0 := runs_head K S Sl t w (by omega) k hk st sg bh own
  have h1 : (idxC w k).length = 1 := rfl
  have h2 := Txt.slice_le w (some ((k : Int) + 1)) (some ((k : Int) + 2))
  have t1 := runs_t1 K S Sl t w (by omega) k st hst (idxC w k) (beh w k) own
  have t2 := runs_t2 K S Sl t w k st (idxC w k) (beh w k) own
  have t3 := runs_t3 K S Sl t w k st hst (idxC w k) (beh w k) (by unfold beh; omega) own
  have t4 := runs_t4 K S Sl t w k st (idxC w k) (beh w k) own
  generalize c1 : (Txt.slice w (some (k : Int)) (some ((k : Int) + 6)) == "(?>.*?" && isFC st) = b1 at t1
  generalize c2 : (idxC w k == ")" && st == "group") = b2 at t2
  generalize c3 : (idxC w k ++ beh w k == ".*" && isFC st) = b3 at t3
  generalize c4 : (st == "closed" || inS spec12 (idxC w k) || (idxC w k == "\\" && (beh w k == "" || Txt.isalnum (beh w k)))) = b4 at t4
  unfold runsStep
  rw [c1, c2, c3, c4]
  cases b1 with
  | true =>
    obtain ⟨⟨own', h, c', I'⟩, _⟩ := runs_app K S Sl t w k st (idxC w k) (beh w k) I (by omega)
    exact ⟨by decide +kernel, by omega, own', c', exs_cons s0 (exs_cons (ex_if (c := true) t1 (fun _ => h) fun h => nomatch h) exs_nil), I'⟩
  | false =>
    cases b2 with
    | true => exact ⟨by omega, exs_cons s0 (exs_cons (ex_if (c := false) t1 (fun h => nomatch h) fun _ => exs_cons (ex_if (c := true) t2 (fun _ => runs_shut K S Sl t w k st (idxC w k) (beh w k) own) fun h => nomatch h) exs_nil) exs_nil)⟩
    | false =>
      cases b3 with
      | true =>
        obtain ⟨_, own', h, c', I'⟩ := runs_app K S Sl t w k st (idxC w k) (beh w k) I (by omega)
        exact ⟨by decide +kernel, by omega, own', c', exs_cons s0 (exs_cons (ex_if (c := false) t1 (fun h => nomatch h) fun _ => exs_cons (ex_if (c := false) t2 (fun h => nomatch h) fun _ => exs_cons (ex_if (c := true) t3 (fun _ => h) fun h => nomatch h) exs_nil) exs_nil) exs_nil), I'⟩
      | false =>
        cases b4 with
        | true => exact ⟨_, exs_cons s0 (exs_stop (fun h => nomatch h) (ex_if (c := false) t1 (fun h => nomatch h) fun _ => exs_stop (fun h => nomatch h) (ex_if (c := false) t2 (fun h => nomatch h) fun _ => exs_stop (fun h => nomatch h) (ex_if (c := false) t3 (fun h => nomatch h) fun _ => exs_stop (fun h => nomatch h) (ex_if (c := true) t4 (fun _ => exs_stop (fun h => nomatch h) (ex_ret (evG S (by rfl) (by trivial) rfl))) fun h => nomatch h)))))⟩
        | false =>
          obtain ⟨own', h, I'⟩ := runs_add K S Sl t w k st (idxC w k) (beh w k) I (by omega) (by omega)
          refine ⟨?_, own', exs_cons s0 (exs_cons (ex_if (c := false) t1 (fun h => nomatch h) fun _ => exs_cons (ex_if (c := false) t2 (fun h => nomatch h) fun _ => exs_cons (ex_if (c := false) t3 (fun h => nomatch h) fun _ => exs_cons (ex_if (c := false) t4 (fun h => nomatch h) fun _ => h) exs_nil) exs_nil) exs_nil) exs_nil), I'⟩
          cases idxC w k == "\\" <;> simp
noncomputable abbrev rTest : Expr := match stB dRuns.body 2 with | .While t _ _ _ => t | _ => .Constant .none 0 ⟨0, 0, 0, 0⟩
/-- what the loop does, by what is read -/
noncomputable def RunsL (C : Ctx) (t w : Str) (k : Nat) (st : Str) (sg bh : SV) (own : Owns) (o : Option (List (List Str) × Str)) : Prop := match o with
  | none => ∃ n σ', WhileR C rTest bRuns n (stRuns t w k st sg bh own) (.ret (.v .none)) σ'
  | some q => ∃ n k' sg' bh' own' c' dn cr, WhileR C rTest bRuns n (stRuns t w k st sg bh own) .next (stRuns t w k' q.2 sg' bh' own') ∧ RInv own' c' dn cr ∧ q.1 = dn ++ [cr] ∧ PyData.strOk q.2 = true ∧ Quiet sg' ∧ Quiet bh'
omit K S Sl in
theorem RunsL.step {t w : Str} {k k1 : Nat} {st st1 : Str} {sg bh sg1 bh1 : SV} {own own1 : Owns} (hd : Tr C (stRuns t w k st sg bh own) rTest true) (h : Exs C (stRuns t w k st sg bh own) bRuns .next (stRuns t w k1 st1 sg1 bh1 own1)) {o : Option (List (List Str) × Str)} (r : RunsL C t w k1 st1 sg1 bh1 own1 o) : RunsL C t w k st sg bh own o := by
  cases o with
  | none =>
    obtain ⟨n, σ', R⟩ := r
    exact ⟨n + 1, σ', .next hd h R⟩
  | some q =>
    obtain ⟨n, k2, sg2, bh2, own2, c2, dn, cr, R, r⟩ := r
    exact ⟨n + 1, k2, sg2, bh2, own2, c2, dn, cr, .next hd h R, r⟩
omit K Sl in
theorem runs_tst (t w : Str) (hw : w.length ≤ 9000) (k : Nat) (st : Str) (sg bh : SV) (own : Owns) : Tr C (stRuns t w k st sg bh own) rTest (decide (k < w.length)) := trG S (by rfl) (by exact ⟨trivial, ⟨⟨trivial, trivial⟩, Nat.le_trans hw (by decide)⟩, trivial⟩) (by
  show decide ((k : Int) < (w.length : Int)) = _
  rw [decide_eq_decide]; exact Int.ofNat_lt)
theorem runs_loop (t w : Str) (hw : w.length ≤ 9000) : ∀ (f k : Nat) (st : Str) (done : List (List Str)) (cur : List Str) (own : Owns) (c : Nat) (sg bh : SV), RInv own c done cur → PyData.strOk st = true → done.length + cur.length ≤ k → w.length - k ≤ f → Quiet sg → Quiet bh →
    RunsL C t w k st sg bh own (runsGo w f k st done cur) := by
  intro f
  induction f with
  | zero =>
    intro k st done cur own c sg bh I hst hb hf q1 q2
    have hd := runs_tst S t w hw k st sg bh own
    rw [decide_eq_false (Nat.not_lt.mpr (Nat.le_of_sub_eq_zero (Nat.le_zero.mp hf)))] at hd
    exact ⟨0, k, sg, bh, own, c, done, cur, .done hd, I, rfl, hst, q1, q2⟩
  | succ f ih =>
    intro k st done cur own c sg bh I hst hb hf q1 q2
    have hd := runs_tst S t w hw k st sg bh own
    unfold runsGo
    by_cases hk : k < w.length
    · rw [decide_eq_true hk] at hd
      rw [if_pos hk]
      have ht := runs_turn K S Sl t w hw k hk st hst sg bh I hb
      have fw : ∀ {k'}, k + 1 ≤ k' → w.length - k' ≤ f := fun h1 => by omega
      generalize runsStep w k st = rst at ht
      cases rst with
      | bad =>
        obtain ⟨σ', h⟩ := ht
        exact ⟨0, σ', .ret hd h⟩
      | app k' st' =>
        obtain ⟨h1, h2, own', c', h, I'⟩ := ht
        exact .step hd h (ih k' st' (done ++ [cur]) [] own' c' _ _ I' h1 (by rw [List.length_append]; exact Nat.le_trans (Nat.add_le_add_right (Nat.le_trans (Nat.le_add_right _ _) hb) 1) h2) (fw h2) (quiet_v _) (quiet_v _))
      | shut k' =>
        obtain ⟨h2, h⟩ := ht
        exact .step hd h (ih k' "closed" done cur own c _ _ I (by decide +kernel) (Nat.le_trans hb (Nat.le_of_succ_le h2)) (fw h2) (quiet_v _) (quiet_v _))
      | add k' z =>
        obtain ⟨h2, own', h, I'⟩ := ht
        exact .step hd h (ih k' st done (cur ++ [z]) own' c _ _ I' hst (by rw [List.length_append]; exact Nat.le_trans (Nat.succ_le_succ hb) h2) (fw h2) (quiet_v _) (quiet_v _))
    · rw [decide_eq_false hk] at hd
      rw [if_neg hk]
      exact ⟨0, k, sg, bh, own, c, done, cur, .done hd, I, rfl, hst, q1, q2⟩
theorem runs_body (t : Str) (ht : t.length ≤ 9000) : ∃ σ' sv, Exs C (st0 [.str t] 6) dRuns.body (.ret sv) σ' ∧ sv = .v (readP (lawRuns t)) := by
  have hL : sizeLine = 16777216 := rfl
  have hin : (innerOf t).length ≤ 9000 := Nat.le_trans (Txt.slice_le _ _ _) ht
  have s0 : Ex C (st0 [.str t] 6) (stB dRuns.body 0) .next (stRuns t (innerOf t) 0 "front" .un .un [some [], some [.mut 0]]) :=
    ex_to (ex_tup4 K S.hh 1 2 3 4 (by rw [S.names]; rfl) (by rw [S.names]; rfl) (by rw [S.names]; rfl) (by rw [S.names]; rfl) (Sl "inner" rfl) (Sl "runs" rfl) (Sl "k" rfl) (Sl "state" rfl) rfl rfl rfl (a := .str (innerOf t)) rfl (evG S (by rfl) (by exact ⟨trivial, trivial, trivial, by omega⟩) rfl) (ev_int (i := 0)) (ev_str (x := "front")) rfl rfl) rfl
  have t1 : Tr C (stRuns t (innerOf t) 0 "front" .un .un [some [], some [.mut 0]]) (tOf (stB dRuns.body 1)) (t != "(?s:" ++ innerOf t ++ ")\\Z") := trG S (by rfl) (by
    have e1 : ("(?s:" : Str).length = 4 := by decide +kernel
    have e2 : (")\\Z" : Str).length = 3 := by decide +kernel
    exact ⟨trivial, ⟨⟨trivial, trivial, by show ("(?s:" : Str).length + (innerOf t).length ≤ sizeLine; omega⟩, trivial, by show ("(?s:" ++ innerOf t : Str).length + (")\\Z" : Str).length ≤ sizeLine; rw [len_append]; omega⟩, trivial⟩) rfl
  unfold lawRuns
  cases hc : t != "(?s:" ++ innerOf t ++ ")\\Z" with
  | true =>
    rw [hc] at t1
    exact ⟨_, _, exs_cons s0 (exs_stop (fun h => nomatch h) (ex_if (c := true) t1 (fun _ => exs_stop (fun h => nomatch h) (ex_ret (evG S (by rfl) (by trivial) rfl))) fun h => nomatch h)), rfl⟩
  | false =>
    rw [hc] at t1
    rw [if_neg (by decide)]
    have s1 : Ex C (stRuns t (innerOf t) 0 "front" .un .un [some [], some [.mut 0]]) (stB dRuns.body 1) .next (stRuns t (innerOf t) 0 "front" .un .un [some [], some [.mut 0]]) := ex_if (c := false) t1 (fun h => nomatch h) fun _ => exs_nil
    have l0 := runs_loop K S Sl t (innerOf t) hin (innerOf t).length 0 "front" [] [] [some [], some [.mut 0]] 0 .un .un ⟨rfl, rfl, by decide⟩ (by decide +kernel) (Nat.le_refl _) (by omega) quiet_un quiet_un
    cases hg : runsGo (innerOf t) (innerOf t).length 0 "front" [] [] with
    | none =>
      rw [hg] at l0
      obtain ⟨n, σ', R⟩ := l0
      exact ⟨_, _, exs_cons s0 (exs_cons s1 (exs_stop (fun h => nomatch h) (ex_while R))), rfl⟩
    | some p =>
      obtain ⟨rs, s⟩ := p
      rw [hg] at l0
      obtain ⟨n, k', sg', bh', own', c', dn, cr, R, I, er, hs, q1, q2⟩ := l0
      obtain rfl : rs = dn ++ [cr] := er
      have t3 : ∀ own x, Tr C (⟨[.v (.str t), .v (.str (innerOf t)), x, .v (.int k'), .v (.str s), sg', bh'], own⟩ : St) (match stB dRuns.body 3 with | .Return (some (.IfExp t _ _ _)) _ => t | _ => .Constant .none 0 ⟨0, 0, 0, 0⟩) (s == "group" || s == "closed") := fun own x =>
        trG S (by rfl) (by exact ⟨trivial, ⟨⟨trivial, trivial, trivial⟩, by show 2 ≤ sizeLine; decide⟩, lay_str hs, strOk_fc (l := ["group", "closed"]) (by decide +kernel)⟩) (any2 "group" "closed" s)
      dsimp only
      cases hq : s == "group" || s == "closed" with
      | true =>
        have t3' := t3 own' (.mut 1)
        rw [hq] at t3'
        exact ⟨_, _, exs_cons s0 (exs_cons s1 (exs_cons (ex_while R) (exs_stop (fun h => nomatch h) (ex_ret (ev_ifexp (c := true) t3' (fun _ => ev_none) fun h => nomatch h))))), rfl⟩
      | false =>
        have hfo := frzO_out I
        have hm : (dn ++ [cr]).map runV = ((dn ++ [cr]).map runP).map SV.v := by rw [List.map_map]; rfl
        rw [hm] at hfo
        have t3' := t3 (frzO (frzO own' c' (cr.map .str)) 1 ((dn ++ [cr]).map runP)) (.v (.list ((dn ++ [cr]).map runP)))
        rw [hq] at t3'
        have f1 : ∃ σ', Exs C (⟨[.v (.str t), .v (.str (innerOf t)), .v (.list ((dn ++ [cr]).map runP)), .v (.int k'), .v (.str s), sg', bh'], frzO (frzO own' c' (cr.map .str)) 1 ((dn ++ [cr]).map runP)⟩ : St) [stB dRuns.body 3] (.ret (.v (readP (some (dn ++ [cr], s))))) σ' :=
          ⟨_, exs_stop (fun h => nomatch h) (ex_ret (ev_ifexp (c := false) t3' (fun h => nomatch h) fun _ => evG (v := readP (some (dn ++ [cr], s))) S (by rfl) (by exact ⟨⟨trivial, trivial, trivial⟩, by show 2 ≤ sizeLine; decide⟩) rfl))⟩
        obtain ⟨σ', f1⟩ := f1
        rw [← frz_st1 q1 q2] at f1
        have f2 := exs_frz 1 _ hfo f1
        rw [← frz_stQ q1 q2 I.ne] at f2
        exact ⟨_, _, exs_cons s0 (exs_cons s1 (exs_cons (ex_while R) (exs_frz c' (cr.map .str) I.cur f2))), rfl⟩
end
noncomputable def runsC : List PV → Option R := on1 asStr fun t => ⟨readP (lawRuns t), t.length ≤ 9000⟩
noncomputable def eRuns : Ent := ⟨"_law_runs", .d, runsC⟩
theorem ok_runs {P : Pr} (B : Base P) (n : Nat) : EntOk P (n + 1) eRuns := by
  obtain ⟨hd, v, hv⟩ := B.d 16 (by decide)
  refine ⟨dRuns, hd, rfl, v, hv, fun ps r h ok => ?_⟩
  obtain ⟨p'1, x1, rfl, e'1, rfl⟩ := on1_inv (show on1 asStr _ ps = some r from h)
  obtain rfl := asStr_inv e'1
  refine def_ok dRuns hd hv ["text"] ["text", "inner", "runs", "k", "state", "sign", "behind"] _ _ (T := [eLen]) (forall_cons (ok_len B n) forall_nil) rfl rfl (by rfl) (fun pm cd doc vs hvs => ?_) (by decide +kernel) rfl rfl rfl (by decide +kernel) (by decide +kernel) fun C _ K S Sl => runs_body K S Sl _ ok
  obtain ⟨a, rfl⟩ := len1 hvs
  rfl
end Rt

/-! V5q -/
namespace Rt
theorem sub_KE : isSubtype (.type "KeyError") (.type "LookupError") = pure true := by rw [isSubtype_type]; kernel_rfl
section
variable {prog : Program} {w : World} {A : Around} {E : Value → Shared → Prop} {s : Shared} {d : Addr} {f : Int → Option Value}
theorem wp_lookup_hit {c : Nat} {t : Str} {u : Tok} {Q : Builtin.Str.Mapped → Shared → Prop} (hm : s.heap.MapOf (intKind prog w) d f) (hf : f c = some (.str t u)) (h : ∀ tk, Q (.text t) { s with toks := tk }) :
    wpAny (model prog w) A (Builtin.Str.tableLookup (.ref d) c) Q E s := by
  unfold Builtin.Str.tableLookup
  refine wpAny_bind (wpAny_attempt (wpAny_bind (wpAny_mkInt (wpAny_getItem_of (knd := intKind prog w) (k := (c : Int)) (intKind_is _ _ _ _) hm hf ?_))))
  dsimp only
  refine wpAny_bind (wpAny_of_eq (a := none) rfl ?_)
  refine wpAny_bind (wpAny_of_eq (a := some t) rfl ?_)
  exact wpAny_pure (h _)
theorem wp_lookup_miss {c : Nat} {Q : Builtin.Str.Mapped → Shared → Prop} (hh : A.handled = none) (hd : (d == sysModules) = false) (hm : s.heap.MapOf (intKind prog w) d f) (hf : f c = none) (h : ∀ h' tk, Soft s.heap h' → Q .keep { s with heap := h', toks := tk }) :
    wpAny (model prog w) A (Builtin.Str.tableLookup (.ref d) c) Q E s := by
  unfold Builtin.Str.tableLookup
  refine wpAny_bind (wpAny_attempt (wpAny_bind (wpAny_mkInt (wpAny_getItem_missing_of (knd := intKind prog w) (k := (c : Int)) (intKind_is _ _ _ _) hd hh hm hf fun h' e hx => ?_))))
  dsimp only
  obtain ⟨ob, tv, he, hc, hdd⟩ := hx.there
  refine wpAny_bind (wpAny_isInstance (T := "KeyError") ⟨ob, he, hc⟩ sub_KE ?_)
  rw [if_pos rfl]
  exact wpAny_bind (wpAny_rule (wpAny_pure (h h' _ (.of hx.keeps))))
theorem wp_translate_hit {c : Nat} {t : Tok} {u : Str} {v : Tok} {Q : Fin → Shared → Prop} (hc : c < 128) (hm : s.heap.MapOf (intKind prog w) d f) (hf : f c = some (.str u v)) (hu : u.length = 2)
    (h : ∀ t' tk, Q (.done (.ret (.str u t'))) { s with toks := tk }) : wpAny (model prog w) A (Builtin.«str.translate» ⟨[.str ⟨#[c]⟩ t, .ref d], []⟩) Q E s := by
  unfold Builtin.«str.translate»
  refine wpAny_bind (wpAny_of_eq (a := (Value.str ⟨#[c]⟩ t, ⟨#[c]⟩, Value.ref d)) rfl ?_)
  dsimp only
  rw [if_neg (show ¬ (((⟨#[c]⟩ : Str).length == 0) = true) from fun q => nomatch q)]
  have hall : (#[c].all fun x => decide (x < 128)) = true := by simp [hc]
  rw [hall, show (#[c] : Array Nat) = [c].toArray from rfl, List.forIn_toArray, List.forIn_cons]
  dsimp only
  rw [if_neg (show ¬ (Builtin.Str.tooLong 0 = true) from by decide), if_pos rfl]
  dsimp only [List.lookup_nil]
  refine wpAny_bind (wpAny_bind (wpAny_bind (wp_lookup_hit hm hf fun tk => ?_)))
  dsimp only
  rw [if_neg (show ¬ ((u.length == 1 && _) = true) from by rw [hu]; simp)]
  dsimp only
  refine wpAny_bind (wpAny_pure ?_)
  dsimp only
  refine wpAny_bind (wpAny_rule ?_)
  rw [if_neg (by decide)]
  refine wpAny_bind (wp_lookup_hit (s := { s with toks := tk }) hm hf fun tk2 => ?_)
  dsimp only
  refine wpAny_pure ?_
  dsimp only
  rw [List.forIn_nil]
  refine wpAny_pure ?_
  dsimp only
  have hs : Builtin.Str.tooLong (0 + u.length) = false := by rw [hu]; decide
  rw [if_neg (show ¬ (Builtin.Str.tooLong (0 + u.length) = true) from by rw [hs]; decide)]
  have eu : (⟨[u].reverse.foldl (fun acc p => acc ++ p.cps) #[]⟩ : Str) = u := by simp
  rw [eu]
  unfold retStr
  refine wpAny_bind (wpAny_mkStr ?_ (by rw [hu]; decide))
  exact wpAny_pure (h _ _)
theorem wp_translate_miss {c : Nat} {t : Tok} {Q : Fin → Shared → Prop} (hc : c < 128) (hh : A.handled = none) (hd : (d == sysModules) = false) (hm : s.heap.MapOf (intKind prog w) d f) (hf : f c = none)
    (h : ∀ h' t' tk, Soft s.heap h' → Q (.done (.ret (.str ⟨#[c]⟩ t'))) { s with heap := h', toks := tk }) : wpAny (model prog w) A (Builtin.«str.translate» ⟨[.str ⟨#[c]⟩ t, .ref d], []⟩) Q E s := by
  unfold Builtin.«str.translate»
  refine wpAny_bind (wpAny_of_eq (a := (Value.str ⟨#[c]⟩ t, ⟨#[c]⟩, Value.ref d)) rfl ?_)
  dsimp only
  rw [if_neg (show ¬ (((⟨#[c]⟩ : Str).length == 0) = true) from fun q => nomatch q)]
  have hall : (#[c].all fun x => decide (x < 128)) = true := by simp [hc]
  rw [hall, show (#[c] : Array Nat) = [c].toArray from rfl, List.forIn_toArray, List.forIn_cons]
  dsimp only
  rw [if_neg (show ¬ (Builtin.Str.tooLong 0 = true) from by decide), if_pos rfl]
  dsimp only [List.lookup_nil]
  refine wpAny_bind (wpAny_bind (wpAny_bind (wp_lookup_miss hh hd hm hf fun h' tk k' => ?_)))
  dsimp only
  refine wpAny_bind (wpAny_pure ?_)
  dsimp only
  refine wpAny_pure ?_
  dsimp only
  rw [List.forIn_nil]
  refine wpAny_pure ?_
  dsimp only
  rw [if_neg (show ¬ (Builtin.Str.tooLong (0 + 1) = true) from by decide)]
  unfold retStr
  have eu : (⟨[(⟨#[c]⟩ : Str)].reverse.foldl (fun acc p => acc ++ p.cps) #[]⟩ : Str) = ⟨#[c]⟩ := by simp
  rw [eu]
  refine wpAny_bind (wpAny_mkStr ?_ (by show 1 ≤ sizeLine; decide))
  exact wpAny_pure (h _ _ _ k')
end
noncomputable def escS (c : Nat) : Str := if isSp c then ⟨#[92, c]⟩ else ⟨#[c]⟩
theorem c_translate {P : Pr} {n : Nat} {d : Addr} (hd : (d == sysModules) = false) (hex : ∀ h, P.ex h → ∃ f, h.MapOf (intKind P.prog P.w) d f ∧ SpF f) (c : Nat) (hc : c < 128) : CallR P n (.builtin "str.translate") [.str ⟨#[c]⟩, .atom (.ref d)] (.str (escS c)) := by
  intro A av s vs Q E R G ai w k
  cases w with
  | cons w w0 =>
  cases w0 with
  | cons w1 w0 =>
  cases w0; cases w; cases w1
  obtain ⟨f, hm, sp⟩ := hex _ G.ex
  obtain ⟨s1, s2⟩ := sp c hc
  refine wpAny_call_entry F.slot_str_translate (typeIs_str _ _ _) F.entry_str_translate ?_ (F.args_str_translate_2 _ _)
  unfold escS at k
  cases hs : isSp c with
  | true =>
    rw [hs, if_pos rfl] at k
    obtain ⟨t, ht⟩ := s1 hs
    exact wp_translate_hit hc hm ht rfl fun t' tk => ⟨_, rfl, k _ s.heap tk (stays_refl _) (.str _ _)⟩
  | false =>
    rw [hs, if_neg (by decide)] at k
    exact wp_translate_miss hc R.handled hd hm (s2 hs) fun h' t' tk k' => ⟨_, rfl, k _ h' tk k' (.str _ _)⟩

noncomputable abbrev dEsc : DefRec := dr 3 (by decide)
noncomputable abbrev scEsc : Sc := dSc dEsc ["pattern"] [eIsi, eStr]
theorem esc_body {P : Pr} (B : Base P) (C : Ctx) (hP : C.P = P) (K : CtxOk C) (S : Stat C scEsc) (c : Nat) (hc : c < 128) :
    ∃ σ' sv, Exs C (st0 [.str ⟨#[c]⟩] 0) dEsc.body (.ret sv) σ' ∧ sv = .v (.str (escS c)) := by
  obtain ⟨d, h1, h2, h3⟩ := B.sp
  refine ⟨_, _, exs_stop (fun h => nomatch h) (ex_if (c := true) (trG S (by rfl) (by exact ⟨⟨⟨trivial, trivial, trivial⟩, trivial⟩, trivial⟩) (by rfl)) (fun _ => exs_stop (fun h => nomatch h) (ex_ret (ev_meth (T := "str") (id := "str.translate") _ (p := .str ⟨#[c]⟩) (ps := [.atom (.ref d)]) (evG S (by rfl) (by trivial) rfl) (evs_cons (ev_global (S.kind _) (by rw [hP]; exact h1) (sameS_ne (by decide +kernel))) evs_nil rfl) (c_translate (n := C.n) h2 (by rw [hP]; exact h3) c hc) (Nat.le_refl _) S.hh (str_T _) F.plainAttrs_str F.slot_str_translate F.type_str_translate (meth_eq rfl rfl (by show 1 < 30; decide) rfl) rfl rfl))) fun h => nomatch h), rfl⟩
noncomputable def escC : List PV → Option R := on1 asStr fun x => ⟨.str (escS (x.cps.toList.headD 0)), x = ⟨#[x.cps.toList.headD 0]⟩ ∧ x.cps.toList.headD 0 < 128⟩
noncomputable def eEsc : Ent := ⟨"escape", .d, escC⟩
theorem ok_esc {P : Pr} (B : Base P) (n : Nat) : EntOk P (n + 1) eEsc := by
  obtain ⟨hd, v, hv⟩ := B.d 3 (by decide)
  refine ⟨dEsc, hd, rfl, v, hv, fun ps r h ok => ?_⟩
  obtain ⟨p'1, x, rfl, e'1, rfl⟩ := on1_inv (show on1 asStr _ ps = some r from h)
  obtain rfl := asStr_inv e'1
  obtain ⟨k1, k2⟩ := ok
  refine def_ok dEsc hd hv ["pattern"] ["pattern"] _ _ (T := [eIsi, eStr]) (forall_cons (ok_isi B n) (forall_cons (ok_str B n) forall_nil)) rfl rfl (by rfl) (fun pm cd doc vs hvs => ?_) (by decide +kernel) rfl rfl rfl (by decide +kernel) (by decide +kernel) fun C hP K S Sl => ?_
  · obtain ⟨a, rfl⟩ := len1 hvs
    rfl
  · have := esc_body B C hP K S (x.cps.toList.headD 0) k2
    rw [← k1] at this
    exact this
end Rt

/-! V5r -/
namespace Rt
theorem slot_md_get : Slot "method_descriptor" "__get__" "method_descriptor.__get__" :=
  .of (owner := "method_descriptor") (n := "__get__") (by rw [typeLookup_type, builtinLookup_eq_fast]; kernel_rfl) (by decide +kernel) (by decide +kernel) (by decide +kernel)
    (by first | exact .inl (by decide +kernel) | exact .inr (by decide +kernel)) (by rw [isSubtype_type]; kernel_rfl)
theorem md_set_none : typeLookup (.type "method_descriptor") "__set__" = pure none := by rw [typeLookup_type, builtinLookup_eq_fast]; kernel_rfl
theorem md_del_none : typeLookup (.type "method_descriptor") "__delete__" = pure none := by rw [typeLookup_type, builtinLookup_eq_fast]; kernel_rfl
theorem entry_md_get : entryFor table "method_descriptor.__get__" = some Builtin.«method_descriptor.__get__» := entryFor_of_tree (by kernel_rfl)
theorem args_md_get (a b c : Value) : argsOk "method_descriptor.__get__" ⟨[a, b, c], []⟩ := by unfold argsOk; kernel_rfl
theorem lk_append : typeLookup (.type "list") "append" = pure (some (.builtin "list.append")) := F.slot_list_append.lookup
theorem sub_list_owner : isSubtype (.type "list") (.type (".".intercalate ("list.append".cutAt '.').dropLast)) = pure true := by
  rw [show (".".intercalate ("list.append".cutAt '.').dropLast) = "list" from by decide +kernel, isSubtype_type]; kernel_rfl
section
variable {prog : Program} {w : World} {A : Around} {E : Value → Shared → Prop} {h : Heap} {g : Array GenState} {d : Drawn} {t : Nat} {os : OsState} {a : Addr} {o : Obj}
theorem append_entry {its : Array Value} {n : Nat} {tk : Tok} {Q : Fin → Shared → Prop} (hx : h.get? a = some { cls := .type "list", data := .seq its n }) (hq : Q (.done (.ret (.ref h.objs.size))) ⟨h.push { cls := .type "builtin_function_or_method", data := .fields #[.builtin "list.append", .ref a] }, g, d, t, os⟩) :
    wpAny (model prog w) A (Builtin.«object.__getattribute__» ⟨[.ref a, .str "append" tk], []⟩) Q E ⟨h, g, d, t, os⟩ := by
  have hT : (⟨h, g, d, t, os⟩ : Shared).TypeIs (.ref a) "list" := ⟨_, hx, rfl⟩
  have hT5 : (⟨h, g, d, t, os⟩ : Shared).TypeIs (.builtin "list.append") "method_descriptor" := F.type_list_append
  have f4 := lk_append
  have f5 := F.type_list_append
  have f6 := slot_md_get.lookup
  have f7 := md_set_none
  have f8 := md_del_none
  unfold Builtin.«object.__getattribute__»
  repeat (any_goals (first | assumption | wp_step))
  refine codeAny_call_builtin slot_md_get.plain entry_md_get (slot_md_get.check _ _ _ _ _ _ _ _ hT5 (args_md_get _ _ _) ?_)
  unfold Builtin.«method_descriptor.__get__»
  refine wpAny_bind (wpAny_of_eq (a := (.builtin "list.append", some (.ref a), some (.type "list"))) rfl ?_)
  dsimp only
  rw [if_neg (show ¬ (Manifest.toldItsClass.contains "list.append" = true) from by decide +kernel)]
  show wpAny _ _ (_ >>= fun _ => newFields "builtin_function_or_method" [.builtin "list.append", .ref a] >>= fun v => ret v) _ _ _
  refine wpAny_bind ?_
  show wpAny _ _ (_ >>= fun p => _) _ _ _
  refine wpAny_bind (wpAny_of_eq (a := (Str.ofString (("list.append".cutAt '.').getLastD ""), Value.type (".".intercalate ("list.append".cutAt '.').dropLast))) rfl ?_)
  dsimp only
  refine wpAny_bind (wpAny_isInstance hT sub_list_owner ?_)
  rw [if_neg (by decide)]
  refine wpAny_pure ?_
  unfold newFields
  refine wpAny_bind (wpAny_newObj_type ?_)
  refine wpAny_pure ?_
  dsimp only
  exact wpAny_pure hq
theorem append_call {its : Array Value} {n : Nat} {tk : Tok} {R : Result → Shared → Prop} (hx : h.get? a = some { cls := .type "list", data := .seq its n }) (hq : R (.ok (.ret (.ref h.objs.size))) ⟨h.push { cls := .type "builtin_function_or_method", data := .fields #[.builtin "list.append", .ref a] }, g, d, t, os⟩) :
    codeAny (model prog w) A (.call (.builtin "list.__getattribute__") ⟨[.ref a, .str "append" tk], []⟩) R ⟨h, g, d, t, os⟩ :=
  codeAny_call_builtin F.slot_list_getattribute.plain F.entry_list_ga (F.slot_list_getattribute.check _ _ _ _ _ _ _ _ (show (⟨h, g, d, t, os⟩ : Shared).TypeIs (.ref a) "list" from ⟨_, hx, rfl⟩) (F.args_list_getattribute_2 _ _) (append_entry hx hq))
theorem append_by {its : Array Value} {n : Nat} {tk : Tok} {Q : Value → Shared → Prop} (hx : h.get? a = some { cls := .type "list", data := .seq its n }) (hq : Q (.ref h.objs.size) ⟨h.push { cls := .type "builtin_function_or_method", data := .fields #[.builtin "list.append", .ref a] }, g, d, t, os⟩) : wpAny (model prog w) A (getAttrBy (.ref a) (.str "append" tk) true true) Q E ⟨h, g, d, t, os⟩ := by
  have hT : (⟨h, g, d, t, os⟩ : Shared).TypeIs (.ref a) "list" := ⟨_, hx, rfl⟩
  have f2 := F.slot_list_getattribute.lookup
  have f3 := F.slot_list_getattribute.bind (.ref a)
  unfold getAttrBy
  repeat (any_goals (first | assumption | wp_step))
  refine append_call hx ?_
  show wpAny _ _ (handedOut (.ref h.objs.size)) _ _ _
  repeat (any_goals (first | assumption | wp_step))
end
section
variable {M : Model} {prog : Program} {w : World} {A : Around} {E : Value → Shared → Prop} {s : Shared} {a b : Addr}
theorem callWith_bfm {pos : Pos} {o : Obj} {id : String} {self : Value} {x : Sem Value} {Q : Value → Shared → Prop} (hc : o.cls = .type "builtin_function_or_method") (hd : o.data = .fields #[.builtin id, self])
    (h : wpAny M A x (fun v s₁ => s₁.heap.get? b = some o ∧ wpAny M A (call (.ref b) [v]) Q E s₁) E s) :
    wpAny M A (callWith pos (.ref b) [] [(false, x)] []) Q E s := by
  unfold callWith
  refine wpAny_bind (wpAny_holding (evalArgs_plain (Calls.spliced_cons (wpAny_mono h (fun v s₁ h₁ => Calls.spliced_nil (wpAny_bind (wpAny_standAt ?_))) fun _ _ e => e))))
  have tail : ∀ {t : Sem Value}, wpAny M A t Q E s₁ → wpAny M A (t >>= fun r => holding [r] point >>= fun _ => pure r) Q E s₁ :=
    fun ht => wpAny_bind (wpAny_mono ht (fun r s₂ hr => wpAny_bind (wpAny_holding (wpAny_point (wpAny_pure hr)))) fun _ _ x => x)
  simp only [List.any_nil, List.any_cons, Bool.or_false]
  refine wpAny_bind (m := keeperOf (.ref b)) ?_
  unfold keeperOf
  refine wpAny_bind (wpAny_load h₁.1 ?_)
  rw [hd]
  dsimp only
  rw [hc, if_pos (by decide), if_pos (by decide)]
  refine wpAny_pure ?_
  exact tail h₁.2
theorem call_bfm_append {v : Value} {o : Obj} {its : Array Value} {Q : Value → Shared → Prop} (hb : s.heap.get? b = some o) (hc : o.cls = .type "builtin_function_or_method") (hd : o.data = .fields #[.builtin "list.append", .ref a]) (hl : s.heap.PlainList a its)
    (hQ : ∀ h', h'.PlainList a (its.push v) → Heap.SameBut a s.heap h' → Q .none { s with heap := h' }) (hsz : its.size ≤ sizeLine) : wpAny (model prog w) A (call (.ref b) [v]) Q E s := by
  obtain ⟨hp, g, d, t, os⟩ := s
  obtain ⟨n, ho⟩ := hl
  have hT : (⟨hp, g, d, t, os⟩ : Shared).TypeIs (.ref a) "list" := ⟨_, ho, rfl⟩
  refine wpAny_call (codeAny_of_tree ?_)
  show wpAny _ A.in1 (callAny (.ref b) ⟨[v], []⟩) _ _ _
  unfold callAny
  dsimp only
  refine wpAny_bind (wpAny_load hb ?_)
  rw [hd]
  dsimp only
  rw [hc, if_pos (by decide)]
  show wpAny _ A.in1 (checkBoundCall "list.append" ⟨[.ref a, v], []⟩ >>= fun _ => again (.builtin "list.append" ⟨[.ref a, v], []⟩)) _ _ _
  refine wpAny_bind ?_
  have hsig : Manifest.signature? "list.append" = some ⟨.oneArg, "list.append", "append", .self, [⟨"object", .posOnly, true⟩]⟩ := by kernel_rfl
  have hk : builtinKind "list.append" = some .method := by decide +kernel
  have hv : Manifest.varargsMethods.contains "list.append" = false := by decide +kernel
  have hm : isSubtype (.type "list") (.type "module") = pure false := by rw [isSubtype_type]; kernel_rfl
  have hargs : Bind.checkArgs "list.append" ⟨.oneArg, "list.append", "append", .self, [⟨"object", .posOnly, true⟩]⟩ ⟨[.ref a, v], []⟩ = pure () := by
    have := args_list_append (.ref a) v
    unfold argsOk at this
    rw [hsig] at this
    exact this
  have hf : toString (Bind.lastOf "list") ++ toString "." ++ toString (Bind.lastOf "list.append") = "list.append" := by decide +kernel
  unfold checkBoundCall
  rw [hsig, hk]
  dsimp only
  rw [if_neg (by decide)]
  refine wpAny_bind (wpAny_isInstance hT hm ?_)
  rw [hv, if_neg (by decide)]
  unfold isType
  refine wpAny_bind (wpAny_bind (wpAny_load ho ?_))
  refine wpAny_pure ?_
  dsimp only
  rw [if_neg (by decide)]
  refine wpAny_bind (wpAny_typeOf hT ?_)
  dsimp only
  rw [hf]
  refine wpAny_of_eq hargs ?_
  refine wpAny_pure ⟨Code.quiet_builtin _ (by decide +kernel), codeAny_builtin entry_list_append ?_⟩
  show wpAny _ _ (updateSeq a (·.push v) >>= fun _ => ret .none) _ _ _
  refine wpAny_bind (wpAny_updateSeq ho rfl (wpAny_pure ?_) (by omega) (by rw [Array.size_push]; omega))
  refine hQ _ ⟨n + 1, ?_⟩ (Heap.SameBut.update ..)
  rw [Heap.get?_update_self _ ho (by rw [Obj.mapSeq_push_plain]; rfl), Obj.mapSeq_push_plain]
end
section
variable {C : Ctx} {σ : St}
/-- x.append, not called -/
theorem ev_bound (k : Nat) {x : Str} {xp pos : Pos} {xs : List SV} (ho : Ev C σ (.Name x xp) (.mut k)) (hk : σ.own[k]? = some (some xs)) : Ev C σ (.Attribute (.Name x xp) "append" pos) (.bnd k) := by
  intro adr s Q E H kk
  refine Attribute_name (ho adr s _ E H fun ov h1 t1 k1 w1 => ?_)
  obtain ⟨a, ha, rfl⟩ := w1
  have H1 := H.stays k1
  obtain ⟨its, ⟨n, hob⟩, ws⟩ := H1.own k xs a hk ha
  unfold getAttr
  refine wpAny_bind (wpAny_mkText (append_by hob ?_))
  have st := stays_push h1 { cls := .type "builtin_function_or_method", data := .fields #[.builtin "list.append", .ref a] }
  exact kk _ _ _ (stays_trans k1 st) ⟨a, _, ha, rfl, _, Heap.get?_push_size _ rfl, rfl, rfl⟩
/-- add(e), where add is such a method -/
theorem ex_addB (k : Nat) {x : Str} {xp cp pos : Pos} {e : Expr} {sv : SV} {xs : List SV} (ho : Ev C σ (.Name x xp) (.bnd k)) (hk : σ.own[k]? = some (some xs)) (he : Ev C σ e sv) (hst : isStar e = false) (hsz : xs.length ≤ 1000000) (hi : interactive C.env = false)
    (hs : swapsWith (.Call (.Name x xp) [e] [] cp) none pos.line C.env = pure false) : Ex C σ (.Expr (.Call (.Name x xp) [e] [] cp) pos) .next (σ.updOwn k (xs ++ [sv])) := by
  have hL : sizeLine = 16777216 := rfl
  intro adr s Q E H kk
  refine wpAny_Expr ?_ hi hs
  refine Call_Name1 (ho adr s _ E H fun fv h1 t1 k1 w1 => ?_) (by rw [starEach_plain hst]; rfl)
  obtain ⟨a, b, ha, rfl, ob, hob, hc, hd⟩ := w1
  have H1 := H.stays k1
  refine callWith_bfm hc hd (he adr _ _ E H1 fun v h2 t2 k2 w2 => ⟨k2.nd hob (fun _ _ q => by rw [hd] at q; cases q), ?_⟩)
  have H2 := H1.stays k2
  obtain ⟨its, l, ws⟩ := H2.own k xs a hk ha
  have e1 := ws.length
  simp only [Array.length_toList] at e1
  refine call_bfm_append (s := { s with heap := h2, toks := t2 }) (k2.nd hob (fun _ _ q => by rw [hd] at q; cases q)) hc hd l (fun h3 l3 s3 => ?_) (by rw [e1]; omega)
  refine kk .next h3 t2 adr (H2.updOwn hk ha s3 l3 (by rw [Array.toList_push]; exact ws.append (.cons w2 .nil))) ?_ trivial
  refine (Frm.of_stays (stays_trans k1 k2)).trans (Frm.updOwn hk ha s3 ?_)
  obtain ⟨n3, ho3⟩ := l3
  rw [ho3]; rfl
end
section
variable {P : Pr} {A : Around}
theorem b_isNot_str (x : Str) (a : Addr) : BinR P A (compareOp .IsNot) (.str x) (.atom (.ref a)) (.bool true) := by
  intro av s v1 v2 Q E _ _ _ h1 h2 k; cases h1; cases h2
  exact wpAny_isNot_other rfl (fun e => nomatch e) (k _ s.heap s.toks (stays_refl _) (.bool _))
theorem b_isNot_self (a : Addr) : BinR P A (compareOp .IsNot) (.atom (.ref a)) (.atom (.ref a)) (.bool false) := by
  intro av s v1 v2 Q E _ _ _ h1 h2 k; cases h1; cases h2
  exact wpAny_isNot_ref_self (k _ s.heap s.toks (stays_refl _) (.bool _))
theorem b_is_self (a : Addr) : BinR P A (compareOp .Is) (.atom (.ref a)) (.atom (.ref a)) (.bool true) := by
  intro av s v1 v2 Q E _ _ _ h1 h2 k; cases h1; cases h2
  exact wpAny_is_ref_self (k _ s.heap s.toks (stays_refl _) (.bool _))
end
section
variable {C : Ctx} {σ : St}
/-- f'c1{x}c2' -/
theorem ev_fstr {c1 c2 z : Str} {k1 k2 : Nat} {q1 q2 q3 pos : Pos} {e : Expr} (he : Ev C σ e (.v (.str z))) (hsz : c1.length + z.length + c2.length ≤ 1000000) :
    Ev C σ (.JoinedStr [.Constant (.str c1) k1 q1, .FormattedValue e (-1) none q2, .Constant (.str c2) k2 q3] pos) (.v (.str (c1 ++ z ++ c2))) := by
  have hL : sizeLine = 16777216 := rfl
  intro adr s Q E H k
  refine JoinedStr_many (joinParts_cons (wpAny_Constant_str ?_))
  have em : (Str.empty ++ c1 : Str) = c1 := by
    show (⟨#[] ++ c1.cps⟩ : Str) = c1
    simp
  refine ⟨by rw [em]; omega, ?_⟩
  rw [em]
  refine joinParts_cons (FormattedValue_plain (he adr { s with toks := s.toks + 1 } _ E H fun v h1 t1 w1k w1 => ?_))
  have w1' : Val (C.avo σ.own adr) h1 v (.str z) := w1
  cases w1' with
  | str _ u =>
  refine formatField_str (fun t' tk => ?_) (by omega)
  refine ⟨by rw [len_append]; omega, ?_⟩
  refine joinParts_cons (wpAny_Constant_str ⟨by rw [len_append, len_append]; omega, joinParts_nil ?_ (by rw [len_append, len_append]; omega)⟩)
  exact k _ _ _ w1k (.str _ _)
end
end Rt

/-! V5s -/
namespace Rt
theorem mro_object : mroOf (.type "object") = pure [.type "object"] := by kernel_rfl
theorem lookup_object_new : typeLookup (.type "object") "__new__" = pure (some (.builtin "object.__new__")) := by rw [typeLookup_type, builtinLookup_eq_fast]; kernel_rfl
theorem sub_object : isSubtype (.type "object") (.type "object") = pure true := by rw [isSubtype_type]; kernel_rfl
theorem slot_object_init : Slot "object" "__init__" "object.__init__" :=
  .of (owner := "object") (n := "__init__") (by rw [typeLookup_type, builtinLookup_eq_fast]; kernel_rfl) (by decide +kernel) (by decide +kernel) (by decide +kernel)
    (by first | exact .inl (by decide +kernel) | exact .inr (by decide +kernel)) (by rw [isSubtype_type]; kernel_rfl)
theorem called_object : TypeCalled "object" "object.__new__" "object.__init__" :=
  ⟨by decide +kernel, by decide +kernel, ⟨_, _, mro_object⟩, madeBy_type mro_object lookup_object_new (by decide +kernel), by decide +kernel, sub_object, slot_object_init⟩
theorem typeCall_object : checkTypeCall "object" ⟨[], []⟩ = pure () := by kernel_rfl
theorem newCall_object : checkBuiltinCall "object.__new__" ⟨[.type "object"], []⟩ = pure () := by kernel_rfl
theorem entry_obj_new : entryFor table "object.__new__" = some Builtin.«object.__new__» := entryFor_of_tree (by kernel_rfl)
theorem entry_obj_init : entryFor table "object.__init__" = some Builtin.«object.__init__» := entryFor_of_tree (by kernel_rfl)
theorem args_obj_init (a : Value) : argsOk "object.__init__" ⟨[a], []⟩ := by unfold argsOk; kernel_rfl
theorem madeHere_object : Bind.madeHere "object.__new__" (.type "object") = pure () := by kernel_rfl
theorem meets_obj_new : Meets (Builtin.«object.__new__» ⟨[.type "object"], []⟩) (fun _ R s => R (.ok (.ret (.ref s.heap.objs.size))) { s with heap := s.heap.push { cls := .type "object", data := .plain } }) :=
  .of_wp fun prog w A R s h => by
    obtain ⟨hp, g, d, tk, os⟩ := s
    have f1 := madeHere_object
    unfold Builtin.«object.__new__»
    have hd : typeHasDict (.type "object") = false := by decide +kernel
    have hdel : diesByItsTypesDel "object" = false := by decide +kernel
    refine wpAny_bind (wpAny_of_eq (a := true) rfl ?_)
    rw [if_neg (show ¬ ((!true) = true) from by decide)]
    dsimp only
    rw [if_neg (show ¬ (((Manifest.find? "object").elim false fun x => x.mro.any fun t => (Manifest.find? t).elim false fun x => x.noNew) = true) from by decide +kernel)]
    rw [if_neg (show ¬ ((!([] : List Value).isEmpty || !([] : List (Str × Value)).isEmpty) = true) from by decide)]
    repeat (any_goals (first | assumption | wp_step))
    exact ⟨_, rfl, h⟩
theorem obj_init_meets (self : Value) : Meets (Builtin.«object.__init__» ⟨[self], []⟩) (fun _ R s => R (.ok (.ret .none)) s) :=
  .of_wp fun prog w A R s h => wpAny_pure ⟨_, rfl, h⟩
section
variable {prog : Program} {w : World} {A : Around} {E : Value → Shared → Prop} {s : Shared}
theorem call_object {Q : Value → Shared → Prop} (h : Q (.ref s.heap.objs.size) { s with heap := s.heap.push { cls := .type "object", data := .plain } }) :
    wpAny (model prog w) A (call (.type "object") []) Q E s :=
  callType_meets called_object typeCall_object newCall_object entry_obj_new entry_obj_init meets_obj_new (Q₁ := fun obj s₁ => s₁.TypeIs obj "object" ∧ Q obj s₁)
    (show wants _ _ _ _ from ⟨⟨_, Heap.get?_push_size _ rfl, rfl⟩, h⟩) fun obj s₁ hq => ⟨hq.1, args_obj_init _, _, obj_init_meets _, rfl, hq.2⟩
end
section
variable {C : Ctx} {σ σ' : St}
noncomputable def St.forget (σ : St) : St := ⟨σ.loc.map fun _ => .un, σ.own⟩
theorem Holds.forget {adr : List Addr} {h : Heap} (H : Holds C σ adr h) : Holds C σ.forget adr h :=
  { H with
    vars := fun i x sv h1 h2 => by
      have h2' : (σ.loc.map fun _ => SV.un)[i]? = some sv := h2
      rw [List.getElem?_map] at h2'
      cases e : σ.loc[i]? with
      | none => rw [e] at h2'; cases h2'
      | some y => rw [e] at h2'; cases h2'; exact .inl rfl }
theorem exs_forget {ss : List Stmt} {o : Out} (h : Exs C σ ss o σ') : Exs C σ ss o σ'.forget :=
  fun adr s Q E H k => h adr s Q E H fun f h1 t1 a1 H1 F1 w1 => k f h1 t1 a1 H1.forget F1 (by cases o <;> exact w1)
/-- x = object(), and what is done with it -/
theorem exs_object {Γ : Sc} (K : CtxOk C) (S : Stat C Γ) (Sl : Slots C Γ) (i : Nat) {x : Str} {q fp cp pos : Pos} {rest : List Stmt} {sv : SV} (hn : Γ.names[i]? = some x) (hx : slotB Γ x = true) (hnb : Γ.kind "object" = some .globalImplicit) (hg : C.P.mg "object" = none)
    (hr : ∀ a, ∃ σ₁, Exs C (σ.setv i (.v (.atom (.ref a)))) rest (.ret sv) σ₁ ∧ σ₁.forget = σ')
    (hs : swapsWith (.Call (.Name "object" fp) [] [] cp) (some (.Name x q)) pos.line C.env = pure false) :
    Exs C σ (.Assign [.Name x q] (.Call (.Name "object" fp) [] [] cp) pos :: rest) (.ret sv) σ' := by
  intro adr s Q E H k
  have hb : bootBuiltins "object" = some (.type "object") := Boot.«object»
  refine wpAny_execs_cons (wpAny_Assign_Name (Call_Name0 (ev_builtin (S.kind _ ▸ hnb) hg hb (by decide) (sameS_ne (by decide +kernel)) adr s _ E H fun fv h1 t1 k1 w1 => ?_)) hs)
  cases w1
  refine callWith_type0 (env := C.env) (call_object ?_)
  have st := stays_push h1 { cls := .type "object", data := .plain }
  have k2 := stays_trans k1 st
  obtain ⟨σ₁, g1, e1⟩ := hr h1.objs.size
  subst e1
  exact ex_store K i (by rw [S.names]; exact hn) (Sl x hx) (H.stays k2) (sv := .v (.atom (.ref h1.objs.size))) (.atom _) fun h3 t3 H3 F3 => exs_forget g1 adr _ Q E H3 fun f h4 t4 a4 H4 F4 w4 => k f h4 t4 a4 H4 ((Frm.of_stays k2).trans (F3.trans F4)) w4
end
end Rt

/-! V9a -/
namespace Rt
noncomputable abbrev dTr : DefRec := dr 4 (by decide)
noncomputable abbrev scTr : Sc := dSc dTr ["pat", "STAR", "QUESTION_MARK", "res", "add", "i", "n", "c", "j", "stuff", "chunks", "k", "chunk"] [eLen, eEsc]
noncomputable abbrev bTr : List Stmt := whileB dTr.body 3
noncomputable abbrev tTest : Expr := match stB dTr.body 3 with | .While t _ _ _ => t | _ => .Constant .none 0 ⟨0, 0, 0, 0⟩
noncomputable abbrev aOf (s : Stmt) : List Stmt := match s with | .If _ a _ _ => a | _ => []
noncomputable abbrev eOf (s : Stmt) : List Stmt := match s with | .If _ _ b _ => b | _ => []
noncomputable abbrev bOr (i : Nat) (e : Expr) : Expr := match e with | .BoolOp _ vs _ => vs[i]?.getD (.Constant .none 0 ⟨0, 0, 0, 0⟩) | _ => .Constant .none 0 ⟨0, 0, 0, 0⟩
noncomputable def pvPart (a : Addr) : Option Str → PV
  | none => .atom (.ref a)
  | some z => .str z
noncomputable abbrev pvParts (a : Addr) (l : List (Option Str)) : List PV := l.map (pvPart a)
noncomputable def stTr (w : Str) (a : Addr) (i : Nat) (c : SV) (res : List (Option Str)) : St :=
  ⟨[.v (.str w), .v (.atom (.ref a)), .v (.str "."), .mut 0, .bnd 0, .v (.int i), .v (.int w.length), c, .un, .un, .un, .un, .un], [some ((pvParts a res).map .v)]⟩
noncomputable def trStep (c : Nat) (res : List (Option Str)) : List (Option Str) :=
  if c = 42 then (if res.getLast? = some none then res else res ++ [none])
  else if c = 63 then res ++ [some ("." : Str)]
  else res ++ [some (escS c)]
noncomputable def sgnAt (w : Str) (i : Nat) : Nat := w.cps.toList[i]?.getD 0
theorem idxC_sgn (w : Str) (i : Nat) : idxC w i = ⟨#[sgnAt w i]⟩ := by
  unfold idxC sgnAt
  rw [if_neg (by omega)]; rfl
theorem one_eq (x y : Nat) : ((⟨#[x]⟩ : Str) == (⟨#[y]⟩ : Str)) = decide (x = y) := by
  by_cases h : x = y
  · subst h; rw [decide_eq_true rfl]; simp
  · rw [decide_eq_false h]
    exact beq_eq_false_iff_ne.mpr fun e => h (by
      have := congrArg (fun s : Str => s.cps.toList) e
      simpa using this)
theorem lit_star : ("*" : Str) = ⟨#[42]⟩ := by decide +kernel
theorem lit_q : ("?" : Str) = ⟨#[63]⟩ := by decide +kernel
theorem lit_br : ("[" : Str) = ⟨#[91]⟩ := by decide +kernel
section
variable {C : Ctx} (K : CtxOk C) (S : Stat C scTr) (Sl : Slots C scTr)
include K S Sl
theorem tr_add (w : Str) (a : Addr) (i : Nat) (c : SV) (res : List (Option Str)) (p : Option Str) (hl : res.length ≤ 10000) {e : Expr} {q cp pos : Pos} (he : Ev C (stTr w a i c res) e (.v (pvPart a p))) (hst : isStar e = false)
    (hs : swapsWith (.Call (.Name "add" q) [e] [] cp) none pos.line C.env = pure false) : Ex C (stTr w a i c res) (.Expr (.Call (.Name "add" q) [e] [] cp) pos) .next (stTr w a i c (res ++ [p])) :=
  ex_to (ex_addB 0 (ev_name 4 (by rw [S.names]; rfl) rfl (fun h => nomatch h) (sameS_ne (by decide +kernel))) rfl he hst (by rw [List.length_map, List.length_map]; omega) (inter_false S) hs) (by
    unfold stTr pvParts
    rw [List.map_append, List.map_append]; rfl)
theorem tr_turn (w : Str) (hw : w.length ≤ 9000) (hc : ∀ x ∈ w.cps.toList, x < 128 ∧ x ≠ 91) (a : Addr) (i : Nat) (hi : i < w.length) (c : SV) (res : List (Option Str)) (hr : res.length ≤ i) :
    Exs C (stTr w a i c res) bTr .next (stTr w a (i + 1) (.v (.str ⟨#[sgnAt w i]⟩)) (trStep (sgnAt w i) res)) := by
  have hL : sizeLine = 16777216 := rfl
  have hx : sgnAt w i < 128 ∧ sgnAt w i ≠ 91 := by
    unfold sgnAt
    rw [List.getElem?_eq_getElem (by rw [len_list]; exact hi)]
    exact hc _ (List.getElem_mem _)
  have s0 : Ex C (stTr w a i c res) (stB bTr 0) .next (stTr w a i (.v (.str ⟨#[sgnAt w i]⟩)) res) :=
    ex_to (exG (v := .str ⟨#[sgnAt w i]⟩) K S Sl 7 rfl rfl (by rfl) (by exact ⟨trivial, trivial, by rw [len_list]; omega, by rw [len_list]; omega, by rw [len_list]; omega⟩) (congrArg PV.str (idxC_sgn w i)) rfl) rfl
  generalize sgnAt w i = x at *
  have s1 : Ex C (stTr w a i (.v (.str ⟨#[x]⟩)) res) (stB bTr 1) .next (stTr w a (i + 1) (.v (.str ⟨#[x]⟩)) res) :=
    ex_to (exG (v := .int (i + 1 : Nat)) K S Sl 5 rfl rfl (by rfl) (by exact ⟨trivial, trivial, trivial⟩) rfl rfl) rfl
  have t1 : Tr C (stTr w a (i + 1) (.v (.str ⟨#[x]⟩)) res) (tOf (stB bTr 2)) (decide (x = 42)) := trG S (by rfl) (by exact ⟨trivial, trivial, trivial⟩) (by
    show ((⟨#[x]⟩ : Str) == "*") = _
    rw [lit_star, one_eq])
  have t2 : Tr C (stTr w a (i + 1) (.v (.str ⟨#[x]⟩)) res) (tOf (stB (eOf (stB bTr 2)) 0)) (decide (x = 63)) := trG S (by rfl) (by exact ⟨trivial, trivial, trivial⟩) (by
    show ((⟨#[x]⟩ : Str) == "?") = _
    rw [lit_q, one_eq])
  have t3 : Tr C (stTr w a (i + 1) (.v (.str ⟨#[x]⟩)) res) (tOf (stB (eOf (stB (eOf (stB bTr 2)) 0)) 0)) false := trG S (by rfl) (by exact ⟨trivial, trivial, trivial⟩) (by
    show ((⟨#[x]⟩ : Str) == "[") = _
    rw [lit_br, one_eq, decide_eq_false hx.2])
  have n0 : Tr C (stTr w a (i + 1) (.v (.str ⟨#[x]⟩)) res) (bOr 0 (tOf (stB (aOf (stB bTr 2)) 0))) res.isEmpty :=
    tr_own 0 (pvParts a res) rfl (trG S (by rfl) (by exact ⟨trivial, by rw [List.length_map]; omega⟩) (by cases res <;> rfl))
  have n1 : res.isEmpty = false → Tr C (stTr w a (i + 1) (.v (.str ⟨#[x]⟩)) res) (bOr 1 (tOf (stB (aOf (stB bTr 2)) 0))) (decide (res.getLast? ≠ some none)) := fun he => by
    have hl : ∃ p, res.getLast? = some p := by
      cases res with
      | nil => cases he
      | cons y ys => exact ⟨_, List.getLast?_eq_some_getLast (by simp)⟩
    obtain ⟨p, hp⟩ := hl
    have hb : BinR C.P C.A (compareOp .IsNot) (pvPart a p) (.atom (.ref a)) (.bool (decide (res.getLast? ≠ some none))) := by
      rw [hp]
      cases p with
      | none => exact b_isNot_self a
      | some z => exact b_isNot_str z a
    exact tr_cmp (ev_last 0 (ev_name 3 (by rw [S.names]; rfl) rfl (fun h => nomatch h) (sameS_ne (by decide +kernel))) rfl (sv := .v (pvPart a p)) (by rw [List.getLast?_map, List.getLast?_map, hp]; rfl) (evG S (by rfl) (by trivial) rfl) (by rw [List.length_map, List.length_map]; omega) fun _ _ => rfl) (evG S (by rfl) (by trivial) rfl) hb rfl
  have tI : Tr C (stTr w a (i + 1) (.v (.str ⟨#[x]⟩)) res) (tOf (stB (aOf (stB bTr 2)) 0)) (decide (res.getLast? ≠ some none)) := by
    have := tr_or (pos := ⟨61, 15, 61, 45⟩) n0 n1
    have e : (res.isEmpty || decide (res.getLast? ≠ some none)) = decide (res.getLast? ≠ some none) := by
      cases res with
      | nil => rfl
      | cons y ys => rfl
    rw [e] at this
    exact this
  refine exs_cons s0 (exs_cons s1 (exs_cons ?_ exs_nil))
  unfold trStep
  by_cases h1 : x = 42
  · rw [decide_eq_true h1] at t1
    rw [if_pos h1]
    refine ex_if (c := true) t1 (fun _ => exs_cons ?_ exs_nil) fun h => nomatch h
    by_cases h2 : res.getLast? = some none
    · rw [if_pos h2]
      rw [decide_eq_false (by simpa using h2)] at tI
      exact ex_if (c := false) tI (fun h => nomatch h) fun _ => exs_nil
    · rw [if_neg h2]
      rw [decide_eq_true h2] at tI
      exact ex_if (c := true) tI (fun _ => exs_cons (tr_add K S Sl w a (i + 1) _ res none (by omega) (evG S (by rfl) (by trivial) rfl) rfl rfl) exs_nil) fun h => nomatch h
  · rw [decide_eq_false h1] at t1
    rw [if_neg h1]
    refine ex_if (c := false) t1 (fun h => nomatch h) fun _ => exs_cons ?_ exs_nil
    by_cases h2 : x = 63
    · rw [decide_eq_true h2] at t2
      rw [if_pos h2]
      exact ex_if (c := true) t2 (fun _ => exs_cons (tr_add K S Sl w a (i + 1) _ res (some ".") (by omega) (evG S (by rfl) (by trivial) rfl) rfl rfl) exs_nil) fun h => nomatch h
    · rw [decide_eq_false h2] at t2
      rw [if_neg h2]
      exact ex_if (c := false) t2 (fun h => nomatch h) fun _ => exs_cons (ex_if (c := false) t3 (fun h => nomatch h) fun _ => exs_cons (tr_add K S Sl w a (i + 1) _ res (some (escS x)) (by omega) (evG S (by rfl) (by exact ⟨⟨trivial, trivial⟩, rfl, hx.1⟩) rfl) rfl rfl) exs_nil) exs_nil
theorem tr_loop (w : Str) (hw : w.length ≤ 9000) (hc : ∀ x ∈ w.cps.toList, x < 128 ∧ x ≠ 91) (a : Addr) : ∀ (f i : Nat) (c : SV) (res : List (Option Str)), w.length - i = f → i ≤ w.length → res.length ≤ i →
    ∃ n c', WhileR C tTest bTr n (stTr w a i c res) .next (stTr w a w.length c' ((w.cps.toList.drop i).foldl (fun r x => trStep x r) res)) := by
  have hL : sizeLine = 16777216 := rfl
  have tst : ∀ (i : Nat) (c : SV) (res : List (Option Str)), Tr C (stTr w a i c res) tTest (decide (i < w.length)) := fun i c res => trG S (by rfl) (by exact ⟨trivial, trivial, trivial⟩) (by
    show decide ((i : Int) < (w.length : Int)) = _
    rw [decide_eq_decide]; omega)
  intro f
  induction f with
  | zero =>
    intro i c res hf h1 h2
    have e : i = w.length := by omega
    subst e
    have hd := tst w.length c res
    rw [decide_eq_false (by omega)] at hd
    rw [List.drop_eq_nil_of_le (by rw [len_list]; exact Nat.le_refl _)]
    exact ⟨0, c, .done hd⟩
  | succ f ih =>
    intro i c res hf h1 h2
    have hi : i < w.length := by omega
    have hd := tst i c res
    rw [decide_eq_true hi] at hd
    have ht := tr_turn K S Sl w hw hc a i hi c res h2
    have hi' : i < w.cps.toList.length := by rw [len_list]; exact hi
    have es : w.cps.toList[i] = sgnAt w i := by unfold sgnAt; rw [List.getElem?_eq_getElem hi']; rfl
    obtain ⟨n, c', R⟩ := ih (i + 1) (.v (.str ⟨#[sgnAt w i]⟩)) (trStep (sgnAt w i) res) (by omega) (by omega) (by
      unfold trStep
      split
      · split
        · omega
        · rw [List.length_append, List.length_singleton]; omega
      · split <;> (rw [List.length_append, List.length_singleton]; omega))
    rw [List.drop_eq_getElem_cons hi', List.foldl_cons, es]
    exact ⟨n + 1, c', .next hd ht R⟩
noncomputable def partsOf (w : Str) : List (Option Str) := w.cps.toList.foldl (fun r x => trStep x r) []
theorem tr_body (w : Str) (hw : w.length ≤ 9000) (hc : ∀ x ∈ w.cps.toList, x < 128 ∧ x ≠ 91) (a : Addr) : ∃ σ' sv, Exs C (st0 [.str w, .atom (.ref a), .str "."] 10) dTr.body (.ret sv) σ' ∧ sv = .v (.list (pvParts a (partsOf w))) := by
  have hL : sizeLine = 16777216 := rfl
  have s0 := exNew (σ := st0 [.str w, .atom (.ref a), .str "."] 10) K S Sl 3 (x := "res") (p := ⟨54, 4, 54, 7⟩) (lp := ⟨54, 10, 54, 12⟩) (pos := ⟨54, 4, 54, 12⟩) rfl rfl rfl
  obtain ⟨n, c', R⟩ := tr_loop K S Sl w hw hc a w.length 0 .un [] rfl (by omega) (Nat.le_refl _)
  rw [List.drop_zero] at R
  have tA : Tr C (stTr w a w.length c' (partsOf w)) (match stB dTr.body 4 with | .Assert t _ _ => t | _ => .Constant .none 0 ⟨0, 0, 0, 0⟩) true := trG S (by rfl) (by exact ⟨trivial, trivial, trivial⟩) (by
    show ((w.length : Int) == (w.length : Int)) = true
    simp)
  have sR : ∃ σ', Exs C ((stTr w a w.length c' (partsOf w)).frz 0 (pvParts a (partsOf w))) [stB dTr.body 5] (.ret (.v (.list (pvParts a (partsOf w))))) σ' :=
    ⟨_, exs_stop (fun h => nomatch h) (ex_ret (evG S (by rfl) (by trivial) rfl))⟩
  obtain ⟨σ', sR⟩ := sR
  refine ⟨_, _, exs_cons s0 (exs_cons (ex_assign K 4 (by rw [S.names]; rfl) (Sl "add" rfl) (ev_bound 0 (ev_name 3 (by rw [S.names]; rfl) rfl (fun h => nomatch h) (sameS_ne (by decide +kernel))) rfl) rfl) (exs_cons (σ₁ := stTr w a 0 .un []) (ex_to (exTupS K S Sl 5 6 rfl rfl rfl rfl rfl (by decide +kernel) rfl rfl rfl rfl (evG (v := .tup [.int 0, .int w.length]) S (by rfl) (by exact ⟨⟨trivial, ⟨⟨trivial, trivial⟩, by show w.length ≤ sizeLine; omega⟩, trivial⟩, by show 2 ≤ sizeLine; decide⟩) rfl) rfl) rfl) (exs_cons (ex_while R) (exs_cons (ex_assert S.hh tA) (exs_frz 0 (pvParts a (partsOf w)) rfl sR))))), rfl⟩
end
noncomputable def trC : List PV → Option R := on3 asStr asRef asStr fun w a z => ⟨.list (pvParts a (partsOf w)), z = "." ∧ w.length ≤ 9000 ∧ ∀ x ∈ w.cps.toList, x < 128 ∧ x ≠ 91⟩
noncomputable def eTr : Ent := ⟨"_translate", .d, trC⟩
theorem ok_tr {P : Pr} (B : Base P) (n : Nat) : EntOk P (n + 2) eTr := by
  obtain ⟨hd, v, hv⟩ := B.d 4 (by decide)
  refine ⟨dTr, hd, rfl, v, hv, fun ps r h ok => ?_⟩
  obtain ⟨p'1, p'2, p'3, x1, x2, x3, rfl, e'1, e'2, e'3, rfl⟩ := on3_inv (show on3 asStr asRef asStr _ ps = some r from h)
  obtain rfl := asStr_inv e'1
  obtain rfl := asRef_inv e'2
  obtain rfl := asStr_inv e'3
  obtain ⟨rfl, h1, h2⟩ := ok
  refine def_ok dTr hd hv ["pat", "STAR", "QUESTION_MARK"] ["pat", "STAR", "QUESTION_MARK", "res", "add", "i", "n", "c", "j", "stuff", "chunks", "k", "chunk"] _ _ (T := [eLen, eEsc]) (forall_cons (ok_len B (n + 1)) (forall_cons (ok_esc B n) forall_nil)) rfl rfl (by rfl) (fun pm cd doc vs hvs => ?_) (by decide +kernel) rfl rfl rfl (by decide +kernel) (by decide +kernel) fun C _ K S Sl => tr_body K S Sl _ h1 h2 _
  obtain ⟨a, b, c, rfl⟩ := len3 hvs
  rfl
end Rt

/-! V9b -/
namespace Rt
noncomputable abbrev dJn : DefRec := dr 5 (by decide)
noncomputable abbrev scJn : Sc := dSc dJn ["inp", "STAR", "res", "add", "i", "n", "fixed"] [eLen]
noncomputable abbrev wTest (s : Stmt) : Expr := match s with | .While t _ _ _ => t | _ => .Constant .none 0 ⟨0, 0, 0, 0⟩
noncomputable abbrev wBody (s : Stmt) : List Stmt := match s with | .While _ b _ _ => b | _ => []
noncomputable abbrev aTest (s : Stmt) : Expr := match s with | .Assert t _ _ => t | _ => .Constant .none 0 ⟨0, 0, 0, 0⟩
noncomputable abbrev bJ1 : Stmt := stB dJn.body 3
noncomputable abbrev bJ2 : Stmt := stB dJn.body 4
noncomputable abbrev bJ3 : Stmt := stB (wBody bJ2) 5
noncomputable abbrev Parts := List (Option Str)
noncomputable def fixOf : Parts → List Str
  | some z :: r => z :: fixOf r
  | _ => []
noncomputable def restOf : Parts → Parts
  | some _ :: r => restOf r
  | l => l
noncomputable abbrev cat (l : List Str) : Str := Txt.join "" l
noncomputable def starsOf : Nat → Parts → List Str
  | 0, _ => []
  | f + 1, none :: r => match r with
    | [] => [".*"]
    | _ => match restOf r with
      | [] => [".*", cat (fixOf r)]
      | r' => ("(?>.*?" ++ cat (fixOf r) ++ ")") :: starsOf f r'
  | _ + 1, _ => []
noncomputable def joinP (l : Parts) : Str := "(?s:" ++ cat (fixOf l ++ starsOf l.length (restOf l)) ++ ")\\Z"
theorem fix_rest (l : Parts) : l = (fixOf l).map some ++ restOf l := by
  induction l with
  | nil => rfl
  | cons x l ih =>
    cases x with
    | none => rfl
    | some z => show some z :: l = some z :: ((fixOf l).map some ++ restOf l); rw [← ih]
theorem fix_drop : ∀ l : Parts, l.drop (fixOf l).length = restOf l
  | [] => rfl
  | none :: l => rfl
  | some z :: l => fix_drop l
theorem cat_len (l : List Str) : (cat l).length ≤ (l.map (·.length)).sum := by
  show (Builtin.Str.glued "" l).length ≤ _
  rw [StrLaws.glued_eq_join]
  have := StrLaws.join_length_le "" l
  have e : ("" : Str).length = 0 := by decide +kernel
  rw [e, Nat.mul_zero] at this
  exact this
noncomputable def jOwn (acc : List Str) (m : Nat) : Owns := some ((acc.map PV.str).map .v) :: List.replicate m none
noncomputable def stJ (l : Parts) (a : Addr) (i : Nat) (acc : List Str) (m : Nat) (fx : SV) : St :=
  ⟨[.v (.list (pvParts a l)), .v (.atom (.ref a)), .mut 0, .bnd 0, .v (.int i), .v (.int l.length), fx], jOwn acc m⟩
noncomputable def stF (l : Parts) (a : Addr) (i : Nat) (acc : List Str) (m : Nat) (cur : List Str) : St :=
  ⟨[.v (.list (pvParts a l)), .v (.atom (.ref a)), .mut 0, .bnd 0, .v (.int i), .v (.int l.length), .mut (m + 1)], jOwn acc m ++ [some ((cur.map PV.str).map .v)]⟩
section
variable {C : Ctx} (K : CtxOk C) (S : Stat C scJn) (Sl : Slots C scJn)
include K S Sl
theorem idx_part {l : Parts} {a : Addr} {i : Nat} {p : Option Str} (h : l[i]? = some p) : idxL (pvParts a l) i = pvPart a p := by
  unfold idxL
  rw [if_neg (by omega), List.getElem?_map, show ((i : Int).toNat) = i from rfl, h]; rfl
theorem ev_inpJ {l : Parts} (hl : l.length ≤ 10000) {a : Addr} {i : Nat} {p : Option Str} (h : l[i]? = some p) (acc : List Str) (m : Nat) (fx : SV) {q1 q2 q3 : Pos} : Ev C (stJ l a i acc m fx) (.Subscript (.Name "inp" q1) (.Name "i" q2) q3) (.v (pvPart a p)) := by
  have hL : sizeLine = 16777216 := rfl
  have hi := (List.getElem?_eq_some_iff.mp h).1
  exact evG S (by rfl) (by exact ⟨trivial, trivial, by rw [List.length_map]; omega, by rw [List.length_map]; omega, by rw [List.length_map]; omega⟩) (idx_part (C := C) K S Sl h)
theorem ev_inpF {l : Parts} (hl : l.length ≤ 10000) {a : Addr} {i : Nat} {p : Option Str} (h : l[i]? = some p) (acc : List Str) (m : Nat) (cur : List Str) {q1 q2 q3 : Pos} : Ev C (stF l a i acc m cur) (.Subscript (.Name "inp" q1) (.Name "i" q2) q3) (.v (pvPart a p)) := by
  have hL : sizeLine = 16777216 := rfl
  have hi := (List.getElem?_eq_some_iff.mp h).1
  exact evG S (by rfl) (by exact ⟨trivial, trivial, by rw [List.length_map]; omega, by rw [List.length_map]; omega, by rw [List.length_map]; omega⟩) (idx_part (C := C) K S Sl h)
theorem b_isn (a : Addr) (p : Option Str) : BinR C.P C.A (compareOp .IsNot) (pvPart a p) (.atom (.ref a)) (.bool p.isSome) := by
  cases p with
  | none => exact b_isNot_self a
  | some z => exact b_isNot_str z a
noncomputable def isFix (p : Option (Option Str)) : Bool := match p with
  | some (some _) => true
  | _ => false
/-- i < n and inp[i] is not STAR -/
theorem tr_fixJ {l : Parts} (hl : l.length ≤ 10000) (a : Addr) (i : Nat) (acc : List Str) (m : Nat) (fx : SV) : Tr C (stJ l a i acc m fx) (wTest bJ1) (isFix l[i]?) := by
  have h1 : Tr C (stJ l a i acc m fx) (bOr 0 (wTest bJ1)) (decide (i < l.length)) := trG S (by rfl) (by exact ⟨trivial, trivial, trivial⟩) (by
    show decide ((i : Int) < (l.length : Int)) = _
    rw [decide_eq_decide]; omega)
  have h2 : decide (i < l.length) = true → Tr C (stJ l a i acc m fx) (bOr 1 (wTest bJ1)) (isFix l[i]?) := fun h => by
    have h' := of_decide_eq_true h
    have e := List.getElem?_eq_getElem h'
    generalize l[i] = p at e
    have e2 : isFix l[i]? = p.isSome := by rw [e]; cases p <;> rfl
    rw [e2]
    exact tr_cmp (ev_inpJ K S Sl hl e acc m fx) (evG S (by rfl) (by trivial) rfl) (b_isn K S Sl a p) rfl
  have h3 : (decide (i < l.length) && isFix l[i]?) = isFix l[i]? := by
    by_cases h : i < l.length
    · rw [decide_eq_true h, Bool.true_and]
    · rw [decide_eq_false h, List.getElem?_eq_none (Nat.le_of_not_lt h)]; rfl
  have := tr_and (pos := ⟨119, 10, 119, 38⟩) h1 h2
  rw [h3] at this
  exact this
theorem tr_fixF {l : Parts} (hl : l.length ≤ 10000) (a : Addr) (i : Nat) (acc : List Str) (m : Nat) (cur : List Str) : Tr C (stF l a i acc m cur) (wTest bJ3) (isFix l[i]?) := by
  have h1 : Tr C (stF l a i acc m cur) (bOr 0 (wTest bJ3)) (decide (i < l.length)) := trG S (by rfl) (by exact ⟨trivial, trivial, trivial⟩) (by
    show decide ((i : Int) < (l.length : Int)) = _
    rw [decide_eq_decide]; omega)
  have h2 : decide (i < l.length) = true → Tr C (stF l a i acc m cur) (bOr 1 (wTest bJ3)) (isFix l[i]?) := fun h => by
    have h' := of_decide_eq_true h
    have e := List.getElem?_eq_getElem h'
    generalize l[i] = p at e
    have e2 : isFix l[i]? = p.isSome := by rw [e]; cases p <;> rfl
    rw [e2]
    exact tr_cmp (ev_inpF K S Sl hl e acc m cur) (evG S (by rfl) (by trivial) rfl) (b_isn K S Sl a p) rfl
  have h3 : (decide (i < l.length) && isFix l[i]?) = isFix l[i]? := by
    by_cases h : i < l.length
    · rw [decide_eq_true h, Bool.true_and]
    · rw [decide_eq_false h, List.getElem?_eq_none (Nat.le_of_not_lt h)]; rfl
  have := tr_and (pos := ⟨130, 14, 130, 42⟩) h1 h2
  rw [h3] at this
  exact this
theorem jn_add (l : Parts) (a : Addr) (i : Nat) (acc : List Str) (m : Nat) (fx : SV) (z : Str) (hl : acc.length ≤ 100000) {e : Expr} {q cp pos : Pos} (he : Ev C (stJ l a i acc m fx) e (.v (.str z))) (hst : isStar e = false)
    (hs : swapsWith (.Call (.Name "add" q) [e] [] cp) none pos.line C.env = pure false) : Ex C (stJ l a i acc m fx) (.Expr (.Call (.Name "add" q) [e] [] cp) pos) .next (stJ l a i (acc ++ [z]) m fx) :=
  ex_to (ex_addB 0 (ev_name 3 (by rw [S.names]; rfl) rfl (fun h => nomatch h) (sameS_ne (by decide +kernel))) rfl he hst (by rw [List.length_map, List.length_map]; omega) (inter_false S) hs) (by
    unfold stJ jOwn
    rw [List.map_append, List.map_append]; rfl)
theorem jn_inc (l : Parts) (a : Addr) (i : Nat) (acc : List Str) (m : Nat) (fx : SV) {q1 q2 pos : Pos} {k : Nat} : Ex C (stJ l a i acc m fx) (.AugAssign (.Name "i" q1) .Add (.Constant (.int 1) k q2) pos) .next (stJ l a (i + 1) acc m fx) :=
  ex_to (exAug K S Sl 4 rfl rfl rfl (by rfl) (by trivial) rfl (b_iadd i 1)) rfl
theorem jn_incF (l : Parts) (a : Addr) (i : Nat) (acc : List Str) (m : Nat) (cur : List Str) {q1 q2 pos : Pos} {k : Nat} : Ex C (stF l a i acc m cur) (.AugAssign (.Name "i" q1) .Add (.Constant (.int 1) k q2) pos) .next (stF l a (i + 1) acc m cur) :=
  ex_to (exAug K S Sl 4 rfl rfl rfl (by rfl) (by trivial) rfl (b_iadd i 1)) rfl
theorem loopJ {l : Parts} (hl : l.length ≤ 9000) (a : Addr) (m : Nat) (fx : SV) : ∀ (r : Parts) (i : Nat) (acc : List Str), l.drop i = r → acc.length ≤ 2 * i → i ≤ l.length →
    ∃ n, WhileR C (wTest bJ1) (wBody bJ1) n (stJ l a i acc m fx) .next (stJ l a (i + (fixOf r).length) (acc ++ fixOf r) m fx)
  | [], i, acc, e, _, _ => by
    have t := tr_fixJ (l := l) K S Sl (by omega) a i acc m fx
    have h : l[i]? = none := List.getElem?_eq_none (by simpa using e)
    rw [h] at t
    show ∃ n, WhileR C _ _ n _ .next (stJ l a (i + 0) (acc ++ []) m fx)
    rw [List.append_nil]
    exact ⟨0, .done t⟩
  | none :: r, i, acc, e, _, _ => by
    have t := tr_fixJ (l := l) K S Sl (by omega) a i acc m fx
    have h : l[i]? = some none := by rw [← List.head?_drop, e]; rfl
    rw [h] at t
    show ∃ n, WhileR C _ _ n _ .next (stJ l a (i + 0) (acc ++ []) m fx)
    rw [List.append_nil]
    exact ⟨0, .done t⟩
  | some z :: r, i, acc, e, ha, hi => by
    have t := tr_fixJ (l := l) K S Sl (by omega) a i acc m fx
    have h : l[i]? = some (some z) := by rw [← List.head?_drop, e]; rfl
    have hlt := (List.getElem?_eq_some_iff.mp h).1
    have e' : l.drop (i + 1) = r := by rw [← List.tail_drop, e]; rfl
    obtain ⟨n, R⟩ := loopJ hl a m fx r (i + 1) (acc ++ [z]) e' (by rw [List.length_append, List.length_singleton]; omega) hlt
    rw [h] at t
    show ∃ n, WhileR C _ _ n _ .next (stJ l a (i + ((fixOf r).length + 1)) (acc ++ z :: fixOf r) m fx)
    rw [show i + ((fixOf r).length + 1) = i + 1 + (fixOf r).length from by omega, show acc ++ z :: fixOf r = acc ++ [z] ++ fixOf r from by simp]
    exact ⟨n + 1, .next t (exs_cons (jn_add K S Sl l a i acc m fx z (by omega) (ev_inpJ (l := l) K S Sl (by omega) h acc m fx) rfl rfl) (exs_cons (jn_inc K S Sl l a i _ m fx) exs_nil)) R⟩
theorem loopF {l : Parts} (hl : l.length ≤ 9000) (a : Addr) (m : Nat) (acc : List Str) : ∀ (r : Parts) (i : Nat) (cur : List Str), l.drop i = r → cur.length ≤ i → i ≤ l.length →
    ∃ n, WhileR C (wTest bJ3) (wBody bJ3) n (stF l a i acc m cur) .next (stF l a (i + (fixOf r).length) acc m (cur ++ fixOf r))
  | [], i, cur, e, _, _ => by
    have t := tr_fixF (l := l) K S Sl (by omega) a i acc m cur
    have h : l[i]? = none := List.getElem?_eq_none (by simpa using e)
    rw [h] at t
    show ∃ n, WhileR C _ _ n _ .next (stF l a (i + 0) acc m (cur ++ []))
    rw [List.append_nil]
    exact ⟨0, .done t⟩
  | none :: r, i, cur, e, _, _ => by
    have t := tr_fixF (l := l) K S Sl (by omega) a i acc m cur
    have h : l[i]? = some none := by rw [← List.head?_drop, e]; rfl
    rw [h] at t
    show ∃ n, WhileR C _ _ n _ .next (stF l a (i + 0) acc m (cur ++ []))
    rw [List.append_nil]
    exact ⟨0, .done t⟩
  | some z :: r, i, cur, e, ha, hi => by
    have t := tr_fixF (l := l) K S Sl (by omega) a i acc m cur
    have h : l[i]? = some (some z) := by rw [← List.head?_drop, e]; rfl
    have hlt := (List.getElem?_eq_some_iff.mp h).1
    have e' : l.drop (i + 1) = r := by rw [← List.tail_drop, e]; rfl
    obtain ⟨n, R⟩ := loopF hl a m acc r (i + 1) (cur ++ [z]) e' (by rw [List.length_append, List.length_singleton]; omega) hlt
    rw [h] at t
    show ∃ n, WhileR C _ _ n _ .next (stF l a (i + ((fixOf r).length + 1)) acc m (cur ++ z :: fixOf r))
    rw [show i + ((fixOf r).length + 1) = i + 1 + (fixOf r).length from by omega, show cur ++ z :: fixOf r = cur ++ [z] ++ fixOf r from by simp]
    have hlo : (jOwn acc m).length = m + 1 := by unfold jOwn; simp
    have hk : (stF l a i acc m cur).own[m + 1]? = some (some ((cur.map PV.str).map .v)) := by
      show (jOwn acc m ++ [some ((cur.map PV.str).map SV.v)])[m + 1]? = _
      rw [List.getElem?_append_right (by omega), hlo, Nat.sub_self]; rfl
    have up : (stF l a i acc m cur).updOwn (m + 1) ((cur.map PV.str).map SV.v ++ [.v (.str z)]) = stF l a i acc m (cur ++ [z]) := by
      show (⟨_, (jOwn acc m ++ [some ((cur.map PV.str).map SV.v)]).set (m + 1) _⟩ : St) = _
      rw [List.set_append_right _ _ (by omega), hlo, Nat.sub_self]
      unfold stF
      rw [List.map_append, List.map_append]; rfl
    exact ⟨n + 1, .next t (exs_cons (ex_to (exApp S 6 (m + 1) rfl rfl (by decide +kernel) hk (ev_inpF (l := l) K S Sl (by omega) h acc m cur) rfl (by rw [List.length_map, List.length_map]; show _ ≤ 16777216; omega) rfl rfl) up) (exs_cons (jn_incF K S Sl l a i _ m _) exs_nil)) R⟩
structure JInv (l : Parts) (i : Nat) (acc : List Str) : Prop where
  len : acc.length ≤ 2 * i
  sum : (acc.map (·.length)).sum ≤ 10 * i
theorem fix_sum (hz : ∀ l : Parts, True) : ∀ r : Parts, (∀ z, some z ∈ r → z.length ≤ 2) → ((fixOf r).map (·.length)).sum ≤ 2 * (fixOf r).length
  | [], _ => Nat.le_refl _
  | none :: r, _ => Nat.le_refl _
  | some z :: r, h => by
    have ih := fix_sum hz r fun z hz => h z (.tail _ hz)
    have := h z (.head _)
    show ((z :: fixOf r).map (·.length)).sum ≤ 2 * ((fixOf r).length + 1)
    rw [List.map_cons, List.sum_cons]; omega
theorem frzF {l : Parts} {a : Addr} {i : Nat} {acc : List Str} {m : Nat} {cur : List Str} : (stF l a i acc m cur).frz (m + 1) (cur.map .str) = stJ l a i acc (m + 1) (.v (.list (cur.map .str))) := by
  have hlo : (jOwn acc m).length = m + 1 := by unfold jOwn; simp
  have e0 : SV.frz (m + 1) (cur.map .str) (.mut 0) = .mut 0 := by
    unfold SV.frz
    exact if_neg (Nat.ne_of_lt (Nat.succ_pos m))
  have e1 : SV.frz (m + 1) (cur.map .str) (.bnd 0) = .bnd 0 := rfl
  have e2 : SV.frz (m + 1) (cur.map .str) (.mut (m + 1)) = .v (.list (cur.map .str)) := if_pos rfl
  show (⟨[.v (.list (pvParts a l)), .v (.atom (.ref a)), SV.frz (m + 1) (cur.map .str) (.mut 0), SV.frz (m + 1) (cur.map .str) (.bnd 0), .v (.int i), .v (.int l.length), SV.frz (m + 1) (cur.map .str) (.mut (m + 1))], ((jOwn acc m ++ [some ((cur.map PV.str).map SV.v)]).set (m + 1) none).map (Option.map (List.map (SV.frz (m + 1) (cur.map .str))))⟩ : St) = _
  rw [e0, e1, e2, List.set_append_right _ _ (by omega), hlo, Nat.sub_self]
  unfold stJ
  congr 1
  show List.map _ (jOwn acc m ++ [none]) = _
  unfold jOwn
  rw [List.map_append, List.map_cons, List.map_replicate, List.replicate_succ', Option.map_none, ← List.cons_append]
  congr 1
  congr 1
  show some (List.map _ ((acc.map PV.str).map SV.v)) = some _
  rw [List.map_map]; rfl
theorem jn_turn {l : Parts} (hl : l.length ≤ 9000) (hz : ∀ z, some z ∈ l → z.length ≤ 2) (hn : ∀ i, l[i]? = some none → l[i + 1]? ≠ some none) (a : Addr) (i : Nat) (acc : List Str) (m : Nat) (fx : SV) (r : Parts) (he : l.drop i = none :: r) (I : JInv l i acc) :
    (r = [] → Exs C (stJ l a i acc m fx) (wBody bJ2) .brk (stJ l a (i + 1) (acc ++ [(".*" : Str)]) m fx)) ∧
    (r ≠ [] → restOf r = [] → ∃ m' z, Exs C (stJ l a i acc m fx) (wBody bJ2) .next (stJ l a (i + 1 + (fixOf r).length) (acc ++ [(".*" : Str), cat (fixOf r)]) m' (.v (.str z)))) ∧
    (r ≠ [] → restOf r ≠ [] → ∃ m' z, Exs C (stJ l a i acc m fx) (wBody bJ2) .next (stJ l a (i + 1 + (fixOf r).length) (acc ++ ["(?>.*?" ++ cat (fixOf r) ++ ")"]) m' (.v (.str z)))) := by
  have hL : sizeLine = 16777216 := rfl
  have h : l[i]? = some none := by rw [← List.head?_drop, he]; rfl
  have hlt := (List.getElem?_eq_some_iff.mp h).1
  have e' : l.drop (i + 1) = r := by rw [← List.tail_drop, he]; rfl
  have el : l.length = i + 1 + r.length := by
    have := congrArg List.length e'
    rw [List.length_drop] at this; omega
  have s0 : Ex C (stJ l a i acc m fx) (stB (wBody bJ2) 0) .next (stJ l a i acc m fx) :=
    ex_assert S.hh (tr_cmp (ev_inpJ (l := l) K S Sl (by omega) h acc m fx) (evG S (by rfl) (by trivial) rfl) (b_is_self a) rfl)
  have s1 : Ex C (stJ l a i acc m fx) (stB (wBody bJ2) 1) .next (stJ l a (i + 1) acc m fx) := jn_inc K S Sl l a i acc m fx
  have tE : ∀ (i : Nat) (m : Nat) (fx : SV), Tr C (stJ l a i acc m fx) (tOf (stB (wBody bJ2) 2)) (decide (i = l.length)) := fun i m fx => trG S (by rfl) (by exact ⟨trivial, trivial, trivial⟩) (by
    show ((i : Int) == (l.length : Int)) = _
    by_cases hq : i = l.length
    · subst hq; simp
    · rw [decide_eq_false hq]; exact beq_eq_false_iff_ne.mpr fun q => hq (Int.ofNat.inj q))
  have tE' : ∀ (i : Nat) (m : Nat) (fx : SV), Tr C (stJ l a i acc m fx) (tOf (stB (wBody bJ2) 7)) (decide (i = l.length)) := fun i m fx => trG S (by rfl) (by exact ⟨trivial, trivial, trivial⟩) (by
    show ((i : Int) == (l.length : Int)) = _
    by_cases hq : i = l.length
    · subst hq; simp
    · rw [decide_eq_false hq]; exact beq_eq_false_iff_ne.mpr fun q => hq (Int.ofNat.inj q))
  have hal := I.len
  constructor
  · intro hr
    have t := tE (i + 1) m fx
    rw [decide_eq_true (by rw [el, hr]; rfl)] at t
    exact exs_cons s0 (exs_cons s1 (exs_stop (fun h => nomatch h) (ex_if (c := true) t (fun _ => exs_cons (jn_add K S Sl l a (i + 1) acc m fx ".*" (by omega) ev_str rfl rfl) (exs_stop (fun h => nomatch h) ex_brk)) fun h => nomatch h)))
  have both : r ≠ [] → ∀ (add : List Str), (∀ z, z = cat (fixOf r) → ∀ (i' : Nat), i' = i + 1 + (fixOf r).length → Ex C (stJ l a i' acc (m + 1) (.v (.str z))) (stB (wBody bJ2) 7) .next (stJ l a i' (acc ++ add) (m + 1) (.v (.str z)))) →
      ∃ m' z, Exs C (stJ l a i acc m fx) (wBody bJ2) .next (stJ l a (i + 1 + (fixOf r).length) (acc ++ add) m' (.v (.str z))) := fun hr add hs => by
    have t := tE (i + 1) m fx
    have hrl : 0 < r.length := List.length_pos_iff.mpr hr
    rw [decide_eq_false (by omega)] at t
    have hlt1 : i + 1 < l.length := by omega
    have h1 := List.getElem?_eq_getElem hlt1
    generalize l[i + 1] = p at h1
    have hp : p.isSome = true := by
      cases p with
      | none => exact absurd h1 (hn i h)
      | some z => rfl
    have s3 : Ex C (stJ l a (i + 1) acc m fx) (stB (wBody bJ2) 3) .next (stJ l a (i + 1) acc m fx) :=
      ex_assert S.hh (tr_cmp (ev_inpJ (l := l) K S Sl (by omega) h1 acc m fx) (evG S (by rfl) (by trivial) rfl) (hp ▸ b_isn K S Sl a p) rfl)
    have hlo : (jOwn acc m).length = m + 1 := by unfold jOwn; simp
    have s4 : Ex C (stJ l a (i + 1) acc m fx) (stB (wBody bJ2) 4) .next (stF l a (i + 1) acc m []) :=
      ex_to (exNew K S Sl 6 rfl rfl rfl) (by
        show (⟨[.v (.list (pvParts a l)), .v (.atom (.ref a)), .mut 0, .bnd 0, .v (.int (i + 1 : Nat)), .v (.int l.length), .mut (jOwn acc m).length], jOwn acc m ++ [some []]⟩ : St) = _
        rw [hlo]; rfl)
    obtain ⟨n, R⟩ := loopF (l := l) K S Sl hl a m acc r (i + 1) [] e' (Nat.zero_le _) (by omega)
    rw [List.nil_append] at R
    have hfl : (fixOf r).length ≤ r.length := by
      have := congrArg List.length (fix_rest r)
      rw [List.length_append, List.length_map] at this; omega
    have hfs := fix_sum (C := C) K S Sl (fun _ => trivial) r fun z hz' => hz z (by
      have : some z ∈ l.drop (i + 1) := e' ▸ hz'
      exact List.mem_of_mem_drop this)
    have hk : (stF l a (i + 1 + (fixOf r).length) acc m (fixOf r)).own[m + 1]? = some (some (((fixOf r).map PV.str).map SV.v)) := by
      show (jOwn acc m ++ [some (((fixOf r).map PV.str).map SV.v)])[m + 1]? = _
      rw [List.getElem?_append_right (by omega), hlo, Nat.sub_self]; rfl
    have s6 : Ex C (stJ l a (i + 1 + (fixOf r).length) acc (m + 1) (.v (.list ((fixOf r).map .str)))) (stB (wBody bJ2) 6) .next (stJ l a (i + 1 + (fixOf r).length) acc (m + 1) (.v (.str (cat (fixOf r))))) :=
      ex_to (exG (v := .str (cat (fixOf r))) K S Sl 6 rfl rfl (by rfl) (by
        refine ⟨trivial, ⟨trivial, trivial⟩, ?_⟩
        rw [strsP_map]
        exact ⟨rfl, by decide, by omega⟩) (by show PV.str (Txt.join "" (strsP ((fixOf r).map .str))) = _; rw [strsP_map]) rfl) rfl
    refine ⟨m + 1, cat (fixOf r), exs_cons s0 (exs_cons s1 (exs_cons (ex_if (c := false) t (fun h => nomatch h) fun _ => exs_nil) (exs_cons s3 (exs_cons s4 (exs_cons (ex_while R) (exs_frz (m + 1) ((fixOf r).map .str) hk ?_))))))⟩
    rw [frzF K S Sl]
    exact exs_cons s6 (exs_cons (hs _ rfl _ rfl) exs_nil)
  have ed : l.length = i + 1 + (fixOf r).length + (restOf r).length := by
    have := congrArg List.length (fix_rest r)
    rw [List.length_append, List.length_map] at this; omega
  have hfs := fix_sum (C := C) K S Sl (fun _ => trivial) r fun z hz' => hz z (by
      have : some z ∈ l.drop (i + 1) := e' ▸ hz'
      exact List.mem_of_mem_drop this)
  refine ⟨fun hr hq => both hr [(".*" : Str), cat (fixOf r)] fun z hz' i' hi' => ?_, fun hr hq => both hr ["(?>.*?" ++ cat (fixOf r) ++ ")"] fun z hz' i' hi' => ?_⟩
  · have t := tE' i' (m + 1) (.v (.str z))
    rw [decide_eq_true (by rw [hi', ed, hq]; rfl)] at t
    have e3 : acc ++ [(".*" : Str), cat (fixOf r)] = acc ++ [(".*" : Str)] ++ [z] := by rw [hz']; simp
    rw [e3]
    exact ex_if (c := true) t (fun _ => exs_cons (jn_add K S Sl l a i' acc (m + 1) _ ".*" (by omega) ev_str rfl rfl) (exs_cons (jn_add K S Sl l a i' (acc ++ [(".*" : Str)]) (m + 1) _ z (by rw [List.length_append, List.length_singleton]; omega) (evG S (by rfl) (by trivial) rfl) rfl rfl) exs_nil)) fun h => nomatch h
  · have t := tE' i' (m + 1) (.v (.str z))
    have hq' : 0 < (restOf r).length := List.length_pos_iff.mpr hq
    rw [decide_eq_false (by omega)] at t
    have hzl : z.length ≤ 20000 := by have := cat_len (fixOf r); rw [hz']; omega
    rw [← hz']
    have l1 : ("(?>.*?" : Str).length = 6 := by decide +kernel
    have l2 : (")" : Str).length = 1 := by decide +kernel
    exact ex_if (c := false) t (fun h => nomatch h) fun _ => exs_cons (jn_add K S Sl l a i' acc (m + 1) _ _ (by omega) (ev_fstr (evG S (by rfl) (by trivial) rfl) (by omega)) rfl rfl) exs_nil
end
end Rt

/-! V9c -/
namespace Rt
theorem rest_idem : ∀ l : Parts, restOf (restOf l) = restOf l
  | [] => rfl
  | none :: l => rfl
  | some z :: l => rest_idem l
theorem rest_cases {r : Parts} (h : restOf r = r) : r = [] ∨ ∃ q, r = none :: q := by
  cases r with
  | nil => exact .inl rfl
  | cons x q =>
    cases x with
    | none => exact .inr ⟨q, rfl⟩
    | some z =>
      have hl : ∀ l : Parts, (restOf l).length ≤ l.length := fun l => by
        have := congrArg List.length (fix_rest l)
        rw [List.length_append] at this; omega
      have := congrArg List.length h
      have h2 : (restOf (some z :: q)).length ≤ q.length := hl q
      rw [List.length_cons] at this; omega
theorem stars_last {f : Nat} {r : Parts} (h : r ≠ []) (hq : restOf r = []) : starsOf (f + 1) (none :: r) = [(".*" : Str), cat (fixOf r)] := by
  cases r with
  | nil => exact absurd rfl h
  | cons x r0 =>
    show (match restOf (x :: r0) with | [] => [(".*" : Str), cat (fixOf (x :: r0))] | r' => ("(?>.*?" ++ cat (fixOf (x :: r0)) ++ ")") :: starsOf f r') = _
    rw [hq]
theorem stars_more {f : Nat} {r : Parts} (h : r ≠ []) (hq : restOf r ≠ []) : starsOf (f + 1) (none :: r) = ("(?>.*?" ++ cat (fixOf r) ++ ")") :: starsOf f (restOf r) := by
  cases r with
  | nil => exact absurd rfl h
  | cons x r0 =>
    show (match restOf (x :: r0) with | [] => [(".*" : Str), cat (fixOf (x :: r0))] | r' => ("(?>.*?" ++ cat (fixOf (x :: r0)) ++ ")") :: starsOf f r') = _
    cases e : restOf (x :: r0) with
    | nil => exact absurd e hq
    | cons y ys => rfl
section
variable {C : Ctx} (K : CtxOk C) (S : Stat C scJn) (Sl : Slots C scJn)
include K S Sl
theorem jn_loop {l : Parts} (hl : l.length ≤ 9000) (hz : ∀ z, some z ∈ l → z.length ≤ 2) (hn : ∀ i, l[i]? = some none → l[i + 1]? ≠ some none) (a : Addr) : ∀ (f : Nat) (r : Parts) (i : Nat) (acc : List Str) (m : Nat) (fx : SV), r.length ≤ f → l.drop i = r → restOf r = r → JInv l i acc → i ≤ l.length → Quiet fx →
    ∃ n m' fx', WhileR C (wTest bJ2) (wBody bJ2) n (stJ l a i acc m fx) .next (stJ l a l.length (acc ++ starsOf f r) m' fx') ∧ JInv l l.length (acc ++ starsOf f r) ∧ Quiet fx' := by
  have tst : ∀ (i : Nat) (acc : List Str) (m : Nat) (fx : SV), Tr C (stJ l a i acc m fx) (wTest bJ2) (decide (i < l.length)) := fun i acc m fx => trG S (by rfl) (by exact ⟨trivial, trivial, trivial⟩) (by
    show decide ((i : Int) < (l.length : Int)) = _
    rw [decide_eq_decide]; omega)
  have stop : ∀ (f i : Nat) (acc : List Str) (m : Nat) (fx : SV), l.drop i = [] → JInv l i acc → i ≤ l.length → Quiet fx → ∃ n m' fx', WhileR C (wTest bJ2) (wBody bJ2) n (stJ l a i acc m fx) .next (stJ l a l.length (acc ++ starsOf f []) m' fx') ∧ JInv l l.length (acc ++ starsOf f []) ∧ Quiet fx' := fun f i acc m fx he I hi q => by
    have e : i = l.length := by
      have := congrArg List.length he
      rw [List.length_drop, List.length_nil] at this; omega
    have h0 : starsOf f [] = [] := by cases f <;> rfl
    rw [h0, List.append_nil]
    subst e
    have t := tst l.length acc m fx
    rw [decide_eq_false (by omega)] at t
    exact ⟨0, m, fx, .done t, I, q⟩
  intro f
  induction f with
  | zero =>
    intro r i acc m fx hf he hr I hi q
    have : r = [] := List.length_eq_zero_iff.mp (by omega)
    subst this
    exact stop 0 i acc m fx he I hi q
  | succ f ih =>
    intro r i acc m fx hf he hr I hi q
    rcases rest_cases hr with rfl | ⟨r, rfl⟩
    · exact stop (f + 1) i acc m fx he I hi q
    have h : l[i]? = some none := by rw [← List.head?_drop, he]; rfl
    have hlt := (List.getElem?_eq_some_iff.mp h).1
    have t := tst i acc m fx
    rw [decide_eq_true hlt] at t
    have e' : l.drop (i + 1) = r := by rw [← List.tail_drop, he]; rfl
    have el : l.length = i + 1 + r.length := by
      have := congrArg List.length e'
      rw [List.length_drop] at this; omega
    have ed : l.length = i + 1 + (fixOf r).length + (restOf r).length := by
      have := congrArg List.length (fix_rest r)
      rw [List.length_append, List.length_map] at this; omega
    have hfs := fix_sum (C := C) K S Sl (fun _ => trivial) r fun z hz' => hz z (by
      have : some z ∈ l.drop (i + 1) := e' ▸ hz'
      exact List.mem_of_mem_drop this)
    have hcl := cat_len (fixOf r)
    obtain ⟨I1, I2⟩ := I
    obtain ⟨w1, w2, w3⟩ := jn_turn K S Sl hl hz hn a i acc m fx r he ⟨I1, I2⟩
    have l1 : ("(?>.*?" : Str).length = 6 := by decide +kernel
    have l2 : (")" : Str).length = 1 := by decide +kernel
    have l3 : (".*" : Str).length = 2 := by decide +kernel
    cases r with
    | nil =>
      have el' : l.length = i + 1 := el
      show ∃ n m' fx', WhileR C _ _ n _ .next (stJ l a l.length (acc ++ [(".*" : Str)]) m' fx') ∧ _ ∧ _
      rw [el']
      refine ⟨0, m, fx, .brk t (w1 rfl), ⟨?_, ?_⟩, q⟩
      · rw [List.length_append]; show acc.length + 1 ≤ _; omega
      · show ((acc ++ [(".*" : Str)]).map (·.length)).sum ≤ _
        rw [List.map_append, List.sum_append]
        show _ + ((".*" : Str).length + 0) ≤ _; omega
    | cons x r0 =>
      generalize hR : x :: r0 = r at *
      have hne : r ≠ [] := by rw [← hR]; exact fun h => nomatch h
      by_cases hq : restOf r = []
      · have es := stars_last (f := f) hne hq
        obtain ⟨m', z, hs⟩ := w2 hne hq
        have el' : i + 1 + (fixOf r).length = l.length := by rw [ed, hq]; rfl
        rw [el'] at hs
        have t2 := tst l.length (acc ++ [(".*" : Str), cat (fixOf r)]) m' (.v (.str z))
        rw [decide_eq_false (by omega)] at t2
        rw [es]
        refine ⟨1, m', _, .next t hs (.done t2), ⟨?_, ?_⟩, quiet_v _⟩
        · rw [List.length_append]; show acc.length + 2 ≤ _; omega
        · rw [List.map_append, List.sum_append]
          show _ + ((".*" : Str).length + ((cat (fixOf r)).length + 0)) ≤ _; omega
      · have es := stars_more (f := f) hne hq
        obtain ⟨m', z, hs⟩ := w3 hne hq
        have hd : l.drop (i + 1 + (fixOf r).length) = restOf r := by rw [← List.drop_drop, e', fix_drop]
        obtain ⟨n, m2, fx2, R, J, q2⟩ := ih (restOf r) (i + 1 + (fixOf r).length) (acc ++ ["(?>.*?" ++ cat (fixOf r) ++ ")"]) m' (.v (.str z)) (by rw [List.length_cons] at hf; omega) hd (rest_idem r) ⟨by rw [List.length_append]; show acc.length + 1 ≤ _; omega, by
          rw [List.map_append, List.sum_append]
          show _ + (("(?>.*?" ++ cat (fixOf r) ++ ")" : Str).length + 0) ≤ _
          rw [len_append, len_append]; omega⟩ (by omega) (quiet_v _)
        rw [es]
        rw [show acc ++ ("(?>.*?" ++ cat (fixOf r) ++ ")") :: starsOf f (restOf r) = acc ++ ["(?>.*?" ++ cat (fixOf r) ++ ")"] ++ starsOf f (restOf r) from by simp]
        exact ⟨n + 1, m2, fx2, .next t hs R, J, q2⟩
theorem frzJ {l : Parts} {a : Addr} {i : Nat} {acc : List Str} {m : Nat} {fx : SV} (q : Quiet fx) : (stJ l a i acc m fx).frz 0 (acc.map .str) = ⟨[.v (.list (pvParts a l)), .v (.atom (.ref a)), .v (.list (acc.map .str)), .bnd 0, .v (.int i), .v (.int l.length), fx], List.replicate (m + 1) none⟩ := by
  have e2 : SV.frz 0 (acc.map .str) (.mut 0) = .v (.list (acc.map .str)) := by
    unfold SV.frz
    exact if_pos rfl
  show (⟨[.v (.list (pvParts a l)), .v (.atom (.ref a)), SV.frz 0 (acc.map .str) (.mut 0), .bnd 0, .v (.int i), .v (.int l.length), SV.frz 0 (acc.map .str) fx], (none :: List.replicate m none).map (Option.map (List.map (SV.frz 0 (acc.map .str))))⟩ : St) = _
  rw [e2, q, List.map_cons, List.map_replicate]; rfl
theorem jn_body {l : Parts} (hl : l.length ≤ 9000) (hz : ∀ z, some z ∈ l → z.length ≤ 2) (hn : ∀ i, l[i]? = some none → l[i + 1]? ≠ some none) (a : Addr) : ∃ σ' sv, Exs C (st0 [.list (pvParts a l), .atom (.ref a)] 5) dJn.body (.ret sv) σ' ∧ sv = .v (.str (joinP l)) := by
  have hL : sizeLine = 16777216 := rfl
  have s0 := exNew (σ := st0 [.list (pvParts a l), .atom (.ref a)] 5) K S Sl 2 (x := "res") (p := ⟨116, 4, 116, 7⟩) (lp := ⟨116, 10, 116, 12⟩) (pos := ⟨116, 4, 116, 12⟩) rfl rfl rfl
  obtain ⟨n1, R1⟩ := loopJ (l := l) K S Sl hl a 0 .un l 0 [] rfl (Nat.zero_le _) (Nat.zero_le _)
  rw [Nat.zero_add, List.nil_append] at R1
  have ed : l.length = (fixOf l).length + (restOf l).length := by
    have := congrArg List.length (fix_rest l)
    rw [List.length_append, List.length_map] at this; omega
  have hfs := fix_sum (C := C) K S Sl (fun _ => trivial) l hz
  obtain ⟨n2, m2, fx2, R2, J, q2⟩ := jn_loop K S Sl hl hz hn a l.length (restOf l) (fixOf l).length (fixOf l) 0 .un (by omega) (fix_drop l) (rest_idem l) ⟨by omega, by omega⟩ (by omega) quiet_un
  unfold joinP
  generalize hacc : fixOf l ++ starsOf l.length (restOf l) = acc at *
  obtain ⟨J1, J2⟩ := J
  have tA : Tr C (stJ l a l.length acc m2 fx2) (aTest (stB dJn.body 5)) true := trG S (by rfl) (by exact ⟨trivial, trivial, trivial⟩) (by
    show ((l.length : Int) == (l.length : Int)) = true
    simp)
  have hcl := cat_len acc
  have l1 : ("(?s:" : Str).length = 4 := by decide +kernel
  have l2 : (")\\Z" : Str).length = 3 := by decide +kernel
  have sR : ∃ σ', Exs C ((stJ l a l.length acc m2 fx2).frz 0 (acc.map .str)) [stB dJn.body 6, stB dJn.body 7] (.ret (.v (.str ("(?s:" ++ cat acc ++ ")\\Z")))) σ' := by
    rw [frzJ K S Sl q2]
    exact ⟨_, exs_cons (exG (v := .str (cat acc)) K S Sl 2 rfl rfl (by rfl) (by
        refine ⟨trivial, ⟨trivial, trivial⟩, ?_⟩
        rw [strsP_map]
        exact ⟨rfl, by decide, by omega⟩) (by show PV.str (Txt.join "" (strsP (acc.map .str))) = _; rw [strsP_map]) rfl)
      (exs_stop (fun h => nomatch h) (ex_ret (ev_fstr (evG S (by rfl) (by trivial) rfl) (by omega))))⟩
  obtain ⟨σ', sR⟩ := sR
  refine ⟨_, _, exs_cons s0 (exs_cons (ex_assign K 3 (by rw [S.names]; rfl) (Sl "add" rfl) (ev_bound 0 (ev_name 2 (by rw [S.names]; rfl) rfl (fun h => nomatch h) (sameS_ne (by decide +kernel))) rfl) rfl) (exs_cons (σ₁ := stJ l a 0 [] 0 .un) (ex_to (exTupS K S Sl 4 5 rfl rfl rfl rfl rfl (by decide +kernel) rfl rfl rfl rfl (evG (v := .tup [.int 0, .int (pvParts a l).length]) S (by rfl) (by exact ⟨⟨trivial, ⟨⟨trivial, trivial⟩, by show (pvParts a l).length ≤ sizeLine; rw [List.length_map]; omega⟩, trivial⟩, by show 2 ≤ sizeLine; decide⟩) rfl) rfl) (by rw [List.length_map]; rfl)) (exs_cons (ex_while R1) (exs_cons (ex_while R2) (exs_cons (ex_assert S.hh tA) (exs_frz 0 (acc.map .str) rfl sR)))))), rfl⟩
end
noncomputable def optP : PV → Option Str
  | .str z => some z
  | _ => none
noncomputable def jnC : List PV → Option R := on2 asList asRef fun ps a => ⟨.str (joinP (ps.map optP)), ps = pvParts a (ps.map optP) ∧ ps.length ≤ 9000 ∧ (∀ z, some z ∈ ps.map optP → z.length ≤ 2) ∧ ∀ i, (ps.map optP)[i]? = some none → (ps.map optP)[i + 1]? ≠ some none⟩
noncomputable def eJn : Ent := ⟨"_join_translated_parts", .d, jnC⟩
theorem ok_jn {P : Pr} (B : Base P) (n : Nat) : EntOk P (n + 1) eJn := by
  obtain ⟨hd, v, hv⟩ := B.d 5 (by decide)
  refine ⟨dJn, hd, rfl, v, hv, fun ps r h ok => ?_⟩
  obtain ⟨p'1, p'2, ps, a, rfl, e'1, e'2, rfl⟩ := on2_inv (show on2 asList asRef _ ps = some r from h)
  obtain rfl := asList_inv e'1
  obtain rfl := asRef_inv e'2
  obtain ⟨h1, h2, h3, h4⟩ := ok
  have hlen : (ps.map optP).length ≤ 9000 := by rw [List.length_map]; exact h2
  generalize ps.map optP = l at *
  subst h1
  refine def_ok dJn hd hv ["inp", "STAR"] ["inp", "STAR", "res", "add", "i", "n", "fixed"] _ _ (T := [eLen]) (forall_cons (ok_len B n) forall_nil) rfl rfl (by rfl) (fun pm cd doc vs hvs => ?_) (by decide +kernel) rfl rfl rfl (by decide +kernel) (by decide +kernel) fun C _ K S Sl => jn_body K S Sl hlen h3 h4 _
  obtain ⟨a, b, rfl⟩ := len2 hvs
  rfl
theorem optP_parts (a : Addr) (l : Parts) : (pvParts a l).map optP = l := by
  rw [List.map_map]
  conv => rhs; rw [← List.map_id l]
  refine List.map_congr_left fun p _ => ?_
  cases p <;> rfl

/-! translate -/
noncomputable abbrev dTl : DefRec := dr 2 (by decide)
noncomputable abbrev scTl : Sc := dSc dTl ["pat", "STAR", "parts"] [eTr, eJn]
theorem parts_inv (w : List Nat) : (∀ z, some z ∈ w.foldl (fun r x => trStep x r) [] → z.length ≤ 2) ∧ (∀ i, (w.foldl (fun r x => trStep x r) [])[i]? = some none → (w.foldl (fun r x => trStep x r) [])[i + 1]? ≠ some none) ∧ (w.foldl (fun r x => trStep x r) []).length ≤ w.length := by
  have key : ∀ (w : List Nat) (r : Parts), ((∀ z, some z ∈ r → z.length ≤ 2) ∧ (∀ i, r[i]? = some none → r[i + 1]? ≠ some none)) →
      (∀ z, some z ∈ w.foldl (fun r x => trStep x r) r → z.length ≤ 2) ∧ (∀ i, (w.foldl (fun r x => trStep x r) r)[i]? = some none → (w.foldl (fun r x => trStep x r) r)[i + 1]? ≠ some none) ∧ (w.foldl (fun r x => trStep x r) r).length ≤ r.length + w.length := by
    intro w
    induction w with
    | nil => intro r h; exact ⟨h.1, h.2, by simp⟩
    | cons x w ih =>
      intro r h
      have snoc : ∀ (p : Option Str), (∀ z, p = some z → z.length ≤ 2) → (p = none → r.getLast? ≠ some none) → ((∀ z, some z ∈ r ++ [p] → z.length ≤ 2) ∧ (∀ i, (r ++ [p])[i]? = some none → (r ++ [p])[i + 1]? ≠ some none)) := fun p h1 h2 => by
        refine ⟨fun z hz => ?_, fun i hi hi' => ?_⟩
        · rcases List.mem_append.mp hz with q | q
          · exact h.1 z q
          · exact h1 z (List.mem_singleton.mp q).symm
        · have hlt := (List.getElem?_eq_some_iff.mp hi').1
          rw [List.length_append, List.length_singleton] at hlt
          rw [List.getElem?_append_left (by omega)] at hi
          by_cases hq : i + 1 < r.length
          · rw [List.getElem?_append_left hq] at hi'
            exact h.2 i hi hi'
          · rw [List.getElem?_append_right (by omega), show i + 1 - r.length = 0 from by omega] at hi'
            have hp : p = none := by simpa using hi'
            refine h2 hp ?_
            rw [List.getLast?_eq_getElem?, show r.length - 1 = i from by omega]
            exact hi
      have st : ((∀ z, some z ∈ trStep x r → z.length ≤ 2) ∧ (∀ i, (trStep x r)[i]? = some none → (trStep x r)[i + 1]? ≠ some none)) ∧ (trStep x r).length ≤ r.length + 1 := by
        unfold trStep
        split
        · split
          · exact ⟨h, Nat.le_succ _⟩
          · rename_i q
            exact ⟨snoc none (fun z h => nomatch h) fun _ => q, by simp⟩
        · split
          · exact ⟨snoc (some ".") (fun z h => by cases h; decide +kernel) (fun h => nomatch h), by simp⟩
          · refine ⟨snoc (some (escS x)) (fun z h => ?_) (fun h => nomatch h), by simp⟩
            cases h
            unfold escS
            split
            · exact Nat.le_refl 2
            · exact Nat.le_succ 1
      obtain ⟨k1, k2, k3⟩ := ih (trStep x r) st.1
      refine ⟨k1, k2, ?_⟩
      rw [List.foldl_cons, List.length_cons]
      have := st.2
      omega
  obtain ⟨a, b, c⟩ := key w [] ⟨(fun z h => nomatch h), (fun i h => by cases h)⟩
  rw [List.length_nil, Nat.zero_add] at c
  exact ⟨a, b, c⟩
noncomputable def transS (w : Str) : Str := joinP (partsOf w)
theorem tl_body {P : Pr} (B : Base P) {C : Ctx} (hP : C.P = P) (K : CtxOk C) (S : Stat C scTl) (Sl : Slots C scTl) (w : Str) (hw : w.length ≤ 9000) (hc : ∀ x ∈ w.cps.toList, x < 128 ∧ x ≠ 91) : ∃ σ' sv, Exs C (st0 [.str w] 2) dTl.body (.ret sv) σ' ∧ sv = .v (.str (transS w)) := by
  obtain ⟨p1, p2, p3⟩ := parts_inv w.cps.toList
  refine ⟨⟨[.un, .un, .un], []⟩, .v (.str (transS w)), exs_object K S Sl 1 rfl rfl (by decide +kernel) (by rw [hP]; exact B.nb "object" (by simp)) (fun a => ⟨_, exs_cons (exG (v := .list (pvParts a (partsOf w))) K S Sl 2 rfl rfl (by rfl) (by exact ⟨⟨trivial, trivial, trivial, trivial⟩, rfl, hw, hc⟩) rfl rfl) (exs_stop (fun h => nomatch h) (ex_ret (evG S (by rfl) (by
      refine ⟨⟨trivial, trivial, trivial⟩, ?_⟩
      show pvParts a (partsOf w) = pvParts a ((pvParts a (partsOf w)).map optP) ∧ (pvParts a (partsOf w)).length ≤ 9000 ∧ (∀ z, some z ∈ (pvParts a (partsOf w)).map optP → z.length ≤ 2) ∧ ∀ i, ((pvParts a (partsOf w)).map optP)[i]? = some none → ((pvParts a (partsOf w)).map optP)[i + 1]? ≠ some none
      rw [optP_parts]
      exact ⟨rfl, by rw [List.length_map]; exact Nat.le_trans p3 (by rw [len_list]; exact hw), p1, p2⟩) (by
      show PV.str (joinP ((pvParts a (partsOf w)).map optP)) = _
      rw [optP_parts]; rfl)))), rfl⟩) rfl, rfl⟩
noncomputable def tlC : List PV → Option R := on1 asStr fun w => ⟨.str (transS w), w.length ≤ 9000 ∧ ∀ x ∈ w.cps.toList, x < 128 ∧ x ≠ 91⟩
noncomputable def eTl : Ent := ⟨"translate", .d, tlC⟩
theorem ok_tl {P : Pr} (B : Base P) (n : Nat) : EntOk P (n + 3) eTl := by
  obtain ⟨hd, v, hv⟩ := B.d 2 (by decide)
  refine ⟨dTl, hd, rfl, v, hv, fun ps r h ok => ?_⟩
  obtain ⟨p'1, x1, rfl, e'1, rfl⟩ := on1_inv (show on1 asStr _ ps = some r from h)
  obtain rfl := asStr_inv e'1
  obtain ⟨h1, h2⟩ := ok
  refine def_ok dTl hd hv ["pat"] ["pat", "STAR", "parts"] _ _ (T := [eTr, eJn]) (forall_cons (ok_tr B n) (forall_cons (ok_jn B (n + 1)) forall_nil)) rfl rfl (by rfl) (fun pm cd doc vs hvs => ?_) (by decide +kernel) rfl rfl rfl (by decide +kernel) (by decide +kernel) fun C hP K S Sl => tl_body B hP K S Sl _ h1 h2
  obtain ⟨a, rfl⟩ := len1 hvs
  rfl
end Rt

/-! V9d -/
namespace Rt
noncomputable abbrev dAlone : DefRec := dr 20 (by decide)
noncomputable abbrev scAlone : Sc := dSc dAlone ["one", "two", "alone", "more", "first", "second"] [eSld, eRange, eLen]
noncomputable def moreOf (r : List Str) : List Str := ((List.range r.length).map fun k => List.replicate (1 + k % 3) (r.getD k "")).flatten ++ [("~" : Str)]
theorem flat_len : ∀ (l : List (List Str)), (∀ x ∈ l, x.length ≤ 3) → l.flatten.length ≤ 3 * l.length
  | [], _ => Nat.zero_le _
  | x :: l, h => by
    have := flat_len l fun y hy => h y (.tail _ hy)
    have := h x (.head _)
    rw [List.flatten_cons, List.length_append, List.length_cons]; omega
theorem more_len (r : List Str) : (moreOf r).length ≤ 3 * r.length + 1 := by
  unfold moreOf
  have := flat_len ((List.range r.length).map fun k => List.replicate (1 + k % 3) (r.getD k "")) fun x hx => by
    obtain ⟨k, _, rfl⟩ := List.mem_map.mp hx
    rw [List.length_replicate]; omega
  rw [List.length_map, List.length_range] at this
  rw [List.length_append, List.length_singleton]; omega
theorem layN_tup {n : Nat} {xs : List PV} (h : layN (n + 1) (.list xs)) : layN (n + 1) (.tup xs) := by
  obtain ⟨a, b⟩ := h
  simp only [toPD, PyData.canLay0, PyData.depth] at a b
  exact ⟨by simp only [toPD, PyData.canLay0]; exact a, by simp only [toPD, PyData.depth]; exact b⟩
noncomputable def tup2 (a b : List Str) : PV := .tup [.list (a.map .str), .list (b.map .str)]
theorem lay_tup2 {a b : List Str} (ha : ∀ x ∈ a, PyData.strOk x = true) (hb : ∀ x ∈ b, PyData.strOk x = true) : lay (tup2 a b) = true :=
  layN_lay (n := 2) (layN_tup (layN_list fun p hp => by
    simp only [List.mem_cons, List.not_mem_nil, or_false] at hp
    rcases hp with rfl | rfl
    · exact layN_strs ha
    · exact layN_strs hb)) (by decide)
theorem lay_list2 {a b : List Str} (ha : ∀ x ∈ a, PyData.strOk x = true) (hb : ∀ x ∈ b, PyData.strOk x = true) : lay (.list [.list (a.map .str), .list (b.map .str)]) = true :=
  layN_lay (n := 2) (layN_list fun p hp => by
    simp only [List.mem_cons, List.not_mem_nil, or_false] at hp
    rcases hp with rfl | rfl
    · exact layN_strs ha
    · exact layN_strs hb) (by decide)
theorem eqvd_strs (a b : List Str) : PyData.eqv (toPD (.list (a.map .str))) (toPD (.list (b.map .str))) = (a == b) := eqv_strs a b
theorem eqv_tup2 (a b c d : List Str) : eqv (tup2 a b) (tup2 c d) = (a == c && b == d) := by
  have h1 := eqvd_strs a c
  have h2 := eqvd_strs b d
  simp only [toPD] at h1 h2
  simp only [eqv, tup2, toPD, toPDs, PyData.eqv, PyData.eqvAll, Bool.and_true]
  simp only [PyData.eqv] at h1 h2
  rw [h1, h2]
theorem eqv_list2 (a b c d : List Str) : eqv (.list [.list (a.map .str), .list (b.map .str)]) (.list [.list (c.map .str), .list (d.map .str)]) = (a == c && b == d) := by
  have h1 := eqvd_strs a c
  have h2 := eqvd_strs b d
  simp only [toPD] at h1 h2
  simp only [eqv, toPD, toPDs, PyData.eqv, PyData.eqvAll, Bool.and_true]
  simp only [PyData.eqv] at h1 h2
  rw [h1, h2]
theorem pick_all {α : Type} (xs : List α) : pickL xs none none = xs := by
  rw [pickL_eq]
  have e1 : clampN none 0 xs.length = 0 := rfl
  have e2 : clampN none xs.length xs.length = xs.length := rfl
  rw [e1, e2, List.drop_zero, Nat.sub_zero, List.take_length]
theorem sldF_mem : ∀ (n : Nat) (xs ys : List Str), (∀ z ∈ (sldF n xs ys).1, z ∈ xs) ∧ (∀ z ∈ (sldF n xs ys).2, z ∈ ys)
  | 0, xs, ys => ⟨fun z h => h, fun z h => h⟩
  | n + 1, [], ys => ⟨fun z h => h, fun z h => h⟩
  | n + 1, x :: xs, [] => ⟨fun z h => h, fun z h => h⟩
  | n + 1, x :: xs, y :: ys => by
    unfold sldF
    split
    · obtain ⟨a, b⟩ := sldF_mem n (xs.drop (same x xs)) (y :: ys)
      refine ⟨fun z h => ?_, b⟩
      rcases List.mem_cons.mp h with rfl | h
      · exact .head _
      · exact .tail _ (List.mem_of_mem_drop (a z h))
    · split
      · obtain ⟨a, b⟩ := sldF_mem n (x :: xs) (ys.drop (same y ys))
        refine ⟨a, fun z h => ?_⟩
        rcases List.mem_cons.mp h with rfl | h
        · exact .head _
        · exact .tail _ (List.mem_of_mem_drop (b z h))
      · obtain ⟨a, b⟩ := sldF_mem n (xs.drop (same x xs)) (ys.drop (same y ys))
        exact ⟨fun z h => .tail _ (List.mem_of_mem_drop (a z h)), fun z h => .tail _ (List.mem_of_mem_drop (b z h))⟩
noncomputable def notIn (xs ys : List Str) : List Str := xs.filter fun p => !ys.contains p
noncomputable def aloneOk (one two : List Str) : Bool := (sldR one two).1 == notIn one two && (sldR one two).2 == notIn two one && ((sldR (moreOf one) (moreOf two)).1 == notIn one two && (sldR (moreOf one) (moreOf two)).2 == notIn two one)
section
variable {C : Ctx} (K : CtxOk C) (S : Stat C scAlone) (Sl : Slots C scAlone) (one two : List Str) (h1 : ∀ x ∈ one, PyData.strOk x = true) (h2 : ∀ x ∈ two, PyData.strOk x = true) (l1 : one.length ≤ 3000) (l2 : two.length ≤ 3000)
include K S Sl h1 h2 l1 l2
theorem al_s0 : Ex C (st0 [.list (one.map .str), .list (two.map .str)] 4) (stB dAlone.body 0) .next ⟨[.v (.list (one.map .str)), .v (.list (two.map .str)), .v (tup2 (notIn one two) (notIn two one)), .un, .un, .un], []⟩ := by
  have hL : sizeLine = 16777216 := rfl
  refine ex_to (exA (v := tup2 (notIn one two) (notIn two one)) K S Sl 2 rfl rfl (ev_tup (ps := [.list ((notIn one two).map .str), .list ((notIn two one).map .str)]) (evs_cons (evc K S ["p"] [("two", 1)] (by rfl) rfl (fun _ q => nomatch q) (it_l S (by rfl) (by trivial) rfl) (fun _ => rfl)
    (block1 one PV.str PV.str (fun p => !two.contains p) fun C' hC' K' S' a ha acc => ⟨trsG S' (by rfl) (by exact ⟨trivial, trivial, lay_str (h1 a ha), layN_lay (layN_strs h2) (by decide)⟩) ?_, fun _ => evG S' (by rfl) trivial rfl⟩) ?_)
    (evs_cons (evc K S ["p"] [("one", 0)] (by rfl) rfl (fun _ q => nomatch q) (it_l S (by rfl) (by trivial) rfl) (fun _ => rfl)
    (block1 two PV.str PV.str (fun p => !one.contains p) fun C' hC' K' S' a ha acc => ⟨trsG S' (by rfl) (by exact ⟨trivial, trivial, lay_str (h2 a ha), layN_lay (layN_strs h1) (by decide)⟩) ?_, fun _ => evG S' (by rfl) trivial rfl⟩) ?_) evs_nil rfl) rfl) (by show 2 ≤ sizeLine; decide)) rfl) rfl
  · show (!(toPDs (two.map .str)).any fun y => PyData.eqv y (toPD (.str a))) = _
    rw [any_strs]
  · rw [List.length_map]
    exact Nat.le_trans (List.length_filter_le _ _) (by omega)
  · show (!(toPDs (one.map .str)).any fun y => PyData.eqv y (toPD (.str a))) = _
    rw [any_strs]
  · rw [List.length_map]
    exact Nat.le_trans (List.length_filter_le _ _) (by omega)
noncomputable abbrev stAl (m f g : SV) : St := ⟨[.v (.list (one.map .str)), .v (.list (two.map .str)), .v (tup2 (notIn one two) (notIn two one)), m, f, g], []⟩
noncomputable abbrev moreP (r : List Str) : PV := .list ((moreOf r).map .str)
theorem al_s1 : Ex C (stAl one two .un .un .un) (stB dAlone.body 1) .next (stAl one two (.v (.list [moreP one, moreP two])) .un .un) := by
  have hL : sizeLine = 16777216 := rfl
  refine ex_to (exC K S Sl ["row"] [] (by rfl) rfl (fun _ q => absurd q List.not_mem_nil) (it_l S (xs := [.list (one.map .str), .list (two.map .str)]) (by rfl) (by exact ⟨⟨trivial, trivial, trivial⟩, by show 2 ≤ sizeLine; decide⟩) rfl) (fun _ => rfl)
    (block1 [one, two] (fun r => .list (r.map .str)) (fun r => .list ((moreOf r).map .str)) (fun _ => true) fun C' hC' K' S' r hr acc => ⟨by exact rfl, fun _ => ?_⟩) (by show 2 ≤ sizeLine; decide) 3 rfl rfl rfl rfl (by decide +kernel)) rfl
  have hl : r.length ≤ 3000 := by
    simp only [List.mem_cons, List.not_mem_nil, or_false] at hr
    rcases hr with rfl | rfl <;> assumption
  have hm := more_len r
  have key : PV.list ((moreOf r).map .str) = .list ((((List.range r.length).map fun k => List.replicate (1 + k % 3) (PV.str (r.getD k ""))).flatten) ++ [.str "~"]) := by
    unfold moreOf
    rw [List.map_append, List.map_flatten, List.map_map]
    congr 1
    congr 1
    refine congrArg List.flatten (List.map_congr_left fun k _ => ?_)
    show (List.replicate (1 + k % 3) (r.getD k "")).map PV.str = _
    rw [List.map_replicate]
  rw [key]
  have hlen : ((List.range r.length).map fun k => List.replicate (1 + k % 3) (PV.str (r.getD k ""))).flatten.length ≤ 9000 := by
    have := congrArg (fun p => match p with | PV.list l => l.length | _ => 0) key
    dsimp only at this
    rw [List.length_map, List.length_append, List.length_singleton] at this
    omega
  refine ev_binop (evc K' S' ["k", "turn"] [("row", 0)] (by rfl) rfl (fun g hg => ?_) (it_r1 S' (n := r.length) (by rfl) (by rfl) ?_ ?_ (by omega)) (fun _ => rfl) (fun C2 hC2 K2 S2 sl2 => ⟨(List.range r.length).map fun k => List.replicate (1 + k % 3) (PV.str (r.getD k "")), rfl, ?_⟩) (by omega)) (evG S' (v := .list [.str "~"]) (by rfl) (by exact ⟨⟨trivial, trivial⟩, by show 1 ≤ sizeLine; decide⟩) rfl) (b_addl _ _ (by rw [List.length_singleton]; omega))
  · obtain rfl := List.mem_singleton.mp hg
    exact ⟨_, _, _, _, rfl⟩
  · exact ⟨⟨trivial, trivial⟩, by show (r.map PV.str).length ≤ sizeLine; rw [List.length_map]; omega⟩
  · show PV.int ((r.map PV.str).length : Int) = _
    rw [List.length_map]
  · refine rel2_map _ _ _ fun k hk => ⟨true, fun _ => rfl, fun _ => ?_, fun h => nomatch h⟩
    have hk' : k < r.length := List.mem_range.mp hk
    refine ⟨_, _, _, _, 1, intsP 0 (1 + k % 3), rfl, by rw [S2.names]; rfl, sl2 "turn" (by simp), rfl, fun _ => rfl, fun acc => it_r1 S2 (n := 1 + k % 3) (by rfl) (by rfl) (by exact ⟨trivial, ⟨trivial, trivial, by show (3 : Int) ≠ 0; decide⟩, trivial⟩) ?_ (by omega), ?_⟩
    · show PV.int (1 + (0 + (k : Int)).fmod 3) = _
      rw [Int.zero_add, Int.fmod_eq_emod_of_nonneg _ (by omega)]
      congr 1
    · refine ⟨(List.range (1 + k % 3)).map fun _ => [PV.str (r.getD k "")], ?_, rel2_map _ _ _ fun j hj => ⟨true, fun _ => rfl, fun _ => ⟨_, rfl, fun acc => evG S2 (by rfl) (by
        refine ⟨trivial, trivial, ?_, ?_, ?_⟩
        · rw [List.length_map]; omega
        · rw [List.length_map]; omega
        · rw [List.length_map]; omega) ?_⟩, fun h => nomatch h⟩⟩
      · rw [List.map_const', List.length_range]
        induction (1 + k % 3) with
        | zero => rfl
        | succ n ih => rw [List.replicate_succ, List.replicate_succ, List.flatten_cons, ← ih]; rfl
      · show idxL (r.map .str) (0 + (k : Int)) = _
        rw [Int.zero_add]
        exact idxL_strs (by rw [List.getD_eq_getElem?_getD, List.getElem?_eq_getElem hk']; rfl)
theorem al_s2 (m : SV) : Ex C (stAl one two m .un .un) (stB dAlone.body 2) .next (stAl one two m (.v (.list (one.map .str))) (.v (.list (two.map .str)))) := by
  have hL : sizeLine = 16777216 := rfl
  refine ex_to (exTupS K S Sl 4 5 rfl rfl rfl rfl rfl (by decide +kernel) rfl rfl rfl rfl (evG (v := .tup [.list (one.map .str), .list (two.map .str)]) S (by rfl) (by
    refine ⟨⟨⟨trivial, trivial, trivial, ?_⟩, ⟨trivial, trivial, trivial, ?_⟩, trivial⟩, by show 2 ≤ sizeLine; decide⟩
    · rw [List.length_map]; omega
    · rw [List.length_map]; omega) ?_) rfl) rfl
  show PV.tup [.list (pickL (one.map PV.str) none none), .list (pickL (two.map PV.str) none none)] = _
  rw [pick_all, pick_all]
theorem sld_ok2 {a b : List Str} (ha : ∀ x ∈ a, PyData.strOk x = true) (hb : ∀ x ∈ b, PyData.strOk x = true) : (∀ x ∈ (sldR a b).1, PyData.strOk x = true) ∧ (∀ x ∈ (sldR a b).2, PyData.strOk x = true) :=
  ⟨fun x hx => ha x ((sldF_mem _ a b).1 x hx), fun x hx => hb x ((sldF_mem _ a b).2 x hx)⟩
theorem notIn_ok {a b : List Str} (ha : ∀ x ∈ a, PyData.strOk x = true) : ∀ x ∈ notIn a b, PyData.strOk x = true := fun x hx => ha x (List.mem_filter.mp hx).1
theorem more_ok {a : List Str} (ha : ∀ x ∈ a, PyData.strOk x = true) : ∀ x ∈ moreOf a, PyData.strOk x = true := fun x hx => by
  unfold moreOf at hx
  rcases List.mem_append.mp hx with q | q
  · obtain ⟨l, hl, hxl⟩ := List.mem_flatten.mp q
    obtain ⟨k, hk, rfl⟩ := List.mem_map.mp hl
    have := List.eq_of_mem_replicate hxl
    rw [this, List.getD_eq_getElem?_getD, List.getElem?_eq_getElem (List.mem_range.mp hk)]
    exact ha _ (List.getElem_mem _)
  · rw [List.mem_singleton.mp q]; decide +kernel
noncomputable def lawAlone (one two : List Str) : PV := if aloneOk one two then tup2 (notIn one two) (notIn two one) else .none
theorem al_body : ∃ σ' sv, Exs C (st0 [.list (one.map .str), .list (two.map .str)] 4) dAlone.body (.ret sv) σ' ∧ sv = .v (lawAlone one two) := by
  have hL : sizeLine = 16777216 := rfl
  have s0 := al_s0 K S Sl one two h1 h2 l1 l2
  have s1 := al_s1 K S Sl one two h1 h2 l1 l2
  have s2 := al_s2 K S Sl one two h1 h2 l1 l2 (.v (.list [moreP one, moreP two]))
  obtain ⟨o1, o2⟩ := sld_ok2 K S Sl one two h1 h2 l1 l2 (a := one) (b := two) h1 h2
  obtain ⟨o3, o4⟩ := sld_ok2 K S Sl one two h1 h2 l1 l2 (a := moreOf one) (b := moreOf two) (more_ok K S Sl one two h1 h2 l1 l2 h1) (more_ok K S Sl one two h1 h2 l1 l2 h2)
  have n1 := notIn_ok K S Sl one two h1 h2 l1 l2 (a := one) (b := two) h1
  have n2 := notIn_ok K S Sl one two h1 h2 l1 l2 (a := two) (b := one) h2
  have m1 := more_len one
  have m2 := more_len two
  have t3 : Tr C (stAl one two (.v (.list [moreP one, moreP two])) (.v (.list (one.map .str))) (.v (.list (two.map .str)))) (tOf (stB dAlone.body 3)) (!((sldR one two).1 == notIn one two && (sldR one two).2 == notIn two one)) := by
    refine trG S (by rfl) (by
      refine ⟨⟨⟨⟨trivial, trivial, trivial⟩, ?_⟩, trivial, ?_, lay_tup2 n1 n2⟩, fun _ => ⟨⟨⟨trivial, trivial, trivial⟩, by show 2 ≤ sizeLine; decide⟩, ⟨⟨trivial, trivial, trivial⟩, by show 2 ≤ sizeLine; decide⟩, lay_list2 h1 h2, lay_list2 h1 h2⟩⟩
      · show one.map PV.str = (strsP (one.map .str)).map .str ∧ two.map PV.str = (strsP (two.map .str)).map .str ∧ (strsP (one.map .str)).length ≤ 10000 ∧ (strsP (two.map .str)).length ≤ 10000
        rw [strsP_map, strsP_map]
        exact ⟨rfl, rfl, by omega, by omega⟩
      · show lay (tup2 (sldR (strsP (one.map .str)) (strsP (two.map .str))).1 (sldR (strsP (one.map .str)) (strsP (two.map .str))).2) = true
        rw [strsP_map, strsP_map]
        exact lay_tup2 o1 o2) ?_
    show (!eqv (tup2 (sldR (strsP (one.map .str)) (strsP (two.map .str))).1 (sldR (strsP (one.map .str)) (strsP (two.map .str))).2) (tup2 (notIn one two) (notIn two one)) || !eqv (.list [.list (one.map .str), .list (two.map .str)]) (.list [.list (one.map .str), .list (two.map .str)])) = _
    rw [strsP_map, strsP_map, eqv_tup2, eqv_list2]
    simp
  have t4 : Tr C (stAl one two (.v (.list [moreP one, moreP two])) (.v (.list (one.map .str))) (.v (.list (two.map .str)))) (match stB dAlone.body 4 with | .Return (some (.IfExp t _ _ _)) _ => t | _ => .Constant .none 0 ⟨0, 0, 0, 0⟩) ((sldR (moreOf one) (moreOf two)).1 == notIn one two && (sldR (moreOf one) (moreOf two)).2 == notIn two one) := by
    refine trG S (by rfl) (by
      refine ⟨⟨⟨⟨trivial, trivial, ?_⟩, ⟨trivial, trivial, ?_⟩, trivial⟩, ?_⟩, trivial, ?_, lay_tup2 n1 n2⟩
      · exact ⟨by show -(2 : Int) ≤ 0; decide, by show (0 : Int) < 2; decide, by show 2 ≤ sizeLine; decide⟩
      · exact ⟨by show -(2 : Int) ≤ 1; decide, by show (1 : Int) < 2; decide, by show 2 ≤ sizeLine; decide⟩
      · show (moreOf one).map PV.str = (strsP ((moreOf one).map .str)).map .str ∧ (moreOf two).map PV.str = (strsP ((moreOf two).map .str)).map .str ∧ (strsP ((moreOf one).map .str)).length ≤ 10000 ∧ (strsP ((moreOf two).map .str)).length ≤ 10000
        rw [strsP_map, strsP_map]
        exact ⟨rfl, rfl, by omega, by omega⟩
      · show lay (tup2 (sldR (strsP ((moreOf one).map .str)) (strsP ((moreOf two).map .str))).1 (sldR (strsP ((moreOf one).map .str)) (strsP ((moreOf two).map .str))).2) = true
        rw [strsP_map, strsP_map]
        exact lay_tup2 o3 o4) ?_
    show eqv (tup2 (sldR (strsP ((moreOf one).map .str)) (strsP ((moreOf two).map .str))).1 (sldR (strsP ((moreOf one).map .str)) (strsP ((moreOf two).map .str))).2) (tup2 (notIn one two) (notIn two one)) = _
    rw [strsP_map, strsP_map, eqv_tup2]
  unfold lawAlone aloneOk
  cases c3 : (sldR one two).1 == notIn one two && (sldR one two).2 == notIn two one with
  | false =>
    rw [c3] at t3
    exact ⟨_, _, exs_cons s0 (exs_cons s1 (exs_cons s2 (exs_stop (fun h => nomatch h) (ex_if (c := true) t3 (fun _ => exs_stop (fun h => nomatch h) (ex_ret ev_none)) fun h => nomatch h)))), rfl⟩
  | true =>
    rw [c3] at t3
    rw [Bool.true_and]
    cases c4 : (sldR (moreOf one) (moreOf two)).1 == notIn one two && (sldR (moreOf one) (moreOf two)).2 == notIn two one with
    | true =>
      rw [c4] at t4
      exact ⟨_, _, exs_cons s0 (exs_cons s1 (exs_cons s2 (exs_cons (ex_if (c := false) t3 (fun h => nomatch h) fun _ => exs_nil) (exs_stop (fun h => nomatch h) (ex_ret (ev_ifexp (c := true) t4 (fun _ => evG S (by rfl) (by trivial) rfl) fun h => nomatch h)))))), rfl⟩
    | false =>
      rw [c4] at t4
      exact ⟨_, _, exs_cons s0 (exs_cons s1 (exs_cons s2 (exs_cons (ex_if (c := false) t3 (fun h => nomatch h) fun _ => exs_nil) (exs_stop (fun h => nomatch h) (ex_ret (ev_ifexp (c := false) t4 (fun h => nomatch h) fun _ => ev_none)))))), rfl⟩
end
noncomputable def aloneF : List PV → Option R := on2 asList asList fun xs ys => ⟨lawAlone (strsP xs) (strsP ys), xs = (strsP xs).map .str ∧ ys = (strsP ys).map .str ∧ (∀ x ∈ strsP xs, PyData.strOk x = true) ∧ (∀ x ∈ strsP ys, PyData.strOk x = true) ∧ (strsP xs).length ≤ 3000 ∧ (strsP ys).length ≤ 3000⟩
noncomputable def eAlone : Ent := ⟨"_law_alone", .d, aloneF⟩
theorem ok_alone {P : Pr} (B : Base P) (n : Nat) : EntOk P (n + 2) eAlone := by
  obtain ⟨hd, v, hv⟩ := B.d 20 (by decide)
  refine ⟨dAlone, hd, rfl, v, hv, fun ps r h ok => ?_⟩
  obtain ⟨p'1, p'2, xs, ys, rfl, e'1, e'2, rfl⟩ := on2_inv (show on2 asList asList _ ps = some r from h)
  obtain rfl := asList_inv e'1
  obtain rfl := asList_inv e'2
  obtain ⟨k1, k2, k3, k4, k5, k6⟩ := ok
  refine def_ok dAlone hd hv ["one", "two"] ["one", "two", "alone", "more", "first", "second"] _ _ (T := [eSld, eRange, eLen]) (forall_cons (ok_sld B n) (forall_cons (ok_range B (n + 1)) (forall_cons (ok_len B (n + 1)) forall_nil))) rfl rfl (by rfl) (fun pm cd doc vs hvs => ?_) (by decide +kernel) rfl rfl rfl (by decide +kernel) (by decide +kernel) fun C _ K S Sl => ?_
  · obtain ⟨a, b, rfl⟩ := len2 hvs
    rfl
  · have := al_body K S Sl (strsP xs) (strsP ys) k3 k4 k5 k6
    rw [← k1, ← k2] at this
    exact this
end Rt

/-! V9e -/
namespace Rt
noncomputable abbrev dRight : DefRec := dr 21 (by decide)
noncomputable abbrev scRight : Sc := dSc dRight ["one", "two", "alone", "pattern", "read", "kept", "due"] [eSld, eRuns, eTl, eTakes, eFits]
noncomputable def rdOf (pat : Str) : Option (List (List Str) × Str) := lawRuns (transS pat)
noncomputable def lawRight (one two d1 d2 : List Str) (pat : Str) : Bool :=
  (sldR (one.filter (takes (rdOf pat))) (two.filter (takes (rdOf pat)))).1 == d1.filter (fits pat) && (sldR (one.filter (takes (rdOf pat))) (two.filter (takes (rdOf pat)))).2 == d2.filter (fits pat)
noncomputable def okL (l : List Str) : Prop := (∀ x ∈ l, PyData.strOk x = true ∧ x.length ≤ 10000) ∧ l.length ≤ 3000
theorem okL_f {l : List Str} (h : okL l) (f : Str → Bool) : okL (l.filter f) := ⟨fun x hx => h.1 x (List.mem_filter.mp hx).1, Nat.le_trans (List.length_filter_le _ _) h.2⟩
theorem okL_s {l : List Str} (h : okL l) : ∀ x ∈ l, PyData.strOk x = true := fun x hx => (h.1 x hx).1
section
variable {C : Ctx} (K : CtxOk C) (S : Stat C scRight) (Sl : Slots C scRight) (one two d1 d2 : List Str) (h1 : okL one) (h2 : okL two) (h3 : okL d1) (h4 : okL d2) (pat : Str) (hp1 : pat.length ≤ 9000) (hp2 : ∀ x ∈ pat.cps.toList, x < 128 ∧ x ≠ 91) (hp3 : (transS pat).length ≤ 9000) (hp4 : PyData.strOk pat = true) (hr : readOk (rdOf pat))
include K S Sl h1 h2 h3 h4 hp1 hp2 hp3 hp4 hr
noncomputable abbrev stRt (rd : PV) (k d : SV) : St := ⟨[.v (.list (one.map .str)), .v (.list (two.map .str)), .v (tup2 d1 d2), .v (.str pat), .v rd, k, d], []⟩
noncomputable abbrev two2 (a b : List Str) : PV := .list [.list (a.map .str), .list (b.map .str)]
theorem rt_s0 : Ex C (st0 [.list (one.map .str), .list (two.map .str), tup2 d1 d2, .str pat] 3) (stB dRight.body 0) .next (stRt one two d1 d2 pat (readP (rdOf pat)) .un .un) :=
  ex_to (exG (v := readP (rdOf pat)) K S Sl 4 rfl rfl (by rfl) (by exact ⟨⟨⟨⟨trivial, trivial⟩, hp1, hp2⟩, trivial⟩, hp3⟩) rfl rfl) rfl
theorem rt_s1 : Ex C (stRt one two d1 d2 pat (readP (rdOf pat)) .un .un) (stB dRight.body 1) .next (stRt one two d1 d2 pat (readP (rdOf pat)) (.v (two2 (one.filter (takes (rdOf pat))) (two.filter (takes (rdOf pat))))) .un) := by
  have hL : sizeLine = 16777216 := rfl
  refine ex_to (exC K S Sl ["row"] [("read", 4)] (by rfl) rfl (fun _ q => absurd q List.not_mem_nil) (it_l S (xs := [.list (one.map .str), .list (two.map .str)]) (by rfl) (by exact ⟨⟨trivial, trivial, trivial⟩, by show 2 ≤ sizeLine; decide⟩) rfl) (fun _ => rfl)
    (block1 [one, two] (fun r => .list (r.map .str)) (fun r => .list ((r.filter (takes (rdOf pat))).map .str)) (fun _ => true) fun C' hC' K' S' r hr' acc => ⟨by exact rfl, fun _ => ?_⟩) (by show 2 ≤ sizeLine; decide) 5 rfl rfl rfl rfl (by decide +kernel)) rfl
  have hok : okL r := by
    simp only [List.mem_cons, List.not_mem_nil, or_false] at hr'
    rcases hr' with rfl | rfl <;> assumption
  refine evc K' S' ["p"] [("read", 1)] (by rfl) rfl (fun _ q => nomatch q) (it_l S' (xs := r.map .str) (by rfl) (by trivial) rfl) (fun _ => rfl)
    (block1 r PV.str PV.str (takes (rdOf pat)) fun C2 hC2 K2 S2 w hw acc => ⟨?_, fun _ => evG S2 (by rfl) trivial rfl⟩) (by rw [List.length_map]; have := (okL_f hok (takes (rdOf pat))).2; omega)
  exact tr_value (evCall (vs := [readP (rdOf pat), .str w]) (t := eTakes) (c := ⟨.bool (takes (rdOf pat) w), readP (rdOf pat) = readP (rdOf pat) ∧ readOk (rdOf pat) ∧ PyData.strOk w = true ∧ w.length ≤ 10000⟩) S2 (evs_cons (evG S2 (by rfl) (by trivial) rfl) (evs_cons (evG S2 (by rfl) (by trivial) rfl) evs_nil rfl) rfl) (by rfl) (by decide +kernel) (by rfl) (by rfl) (by
    show takesF [readP (rdOf pat), .str w] = _
    unfold takesF
    dsimp only
    rw [readV_P]) ⟨rfl, hr, (hok.1 w hw).1, (hok.1 w hw).2⟩ rfl) (t_bool _) rfl
theorem rt_s2 (k : SV) : Ex C (stRt one two d1 d2 pat (readP (rdOf pat)) k .un) (stB dRight.body 2) .next (stRt one two d1 d2 pat (readP (rdOf pat)) k (.v (two2 (d1.filter (fits pat)) (d2.filter (fits pat))))) := by
  have hL : sizeLine = 16777216 := rfl
  refine ex_to (exC K S Sl ["row"] [("pattern", 3)] (by rfl) rfl (fun _ q => absurd q List.not_mem_nil) (it_t S (xs := [.list (d1.map .str), .list (d2.map .str)]) (by rfl) (by trivial) rfl) (fun _ => rfl)
    (block1 [d1, d2] (fun r => .list (r.map .str)) (fun r => .list ((r.filter (fits pat)).map .str)) (fun _ => true) fun C' hC' K' S' r hr' acc => ⟨by exact rfl, fun _ => ?_⟩) (by show 2 ≤ sizeLine; decide) 6 rfl rfl rfl rfl (by decide +kernel)) rfl
  have hok : okL r := by
    simp only [List.mem_cons, List.not_mem_nil, or_false] at hr'
    rcases hr' with rfl | rfl <;> assumption
  refine evc K' S' ["p"] [("pattern", 1)] (by rfl) rfl (fun _ q => nomatch q) (it_l S' (xs := r.map .str) (by rfl) (by trivial) rfl) (fun _ => rfl)
    (block1 r PV.str PV.str (fits pat) fun C2 hC2 K2 S2 w hw acc => ⟨trsG S2 (by rfl) (by exact ⟨⟨⟨trivial, trivial, trivial⟩, hp4, (hok.1 w hw).1, by have := (hok.1 w hw).2; omega⟩, trivial⟩) rfl, fun _ => evG S2 (by rfl) trivial rfl⟩) (by rw [List.length_map]; have := (okL_f hok (fits pat)).2; omega)
theorem rt_s3 (rd : PV) (a b c d : List Str) (k1 : okL a) (k2 : okL b) (k3 : okL c) (k4 : okL d) : Ex C (stRt one two d1 d2 pat rd (.v (two2 a b)) (.v (two2 c d))) (stB dRight.body 3) (.ret (.v (.bool ((sldR a b).1 == c && (sldR a b).2 == d)))) (stRt one two d1 d2 pat rd (.v (two2 a b)) (.v (two2 c d))) := by
  have i0 : -(2 : Int) ≤ 0 ∧ (0 : Int) < 2 ∧ 2 ≤ sizeLine := ⟨by decide, by decide, by decide⟩
  have i1 : -(2 : Int) ≤ 1 ∧ (1 : Int) < 2 ∧ 2 ≤ sizeLine := ⟨by decide, by decide, by decide⟩
  refine ex_ret (evG S (by rfl) (by
    refine ⟨⟨⟨⟨trivial, trivial, i0⟩, ⟨trivial, trivial, i1⟩, trivial⟩, ?_⟩, ⟨⟨⟨trivial, trivial, i0⟩, ⟨trivial, trivial, i1⟩, trivial⟩, by show 2 ≤ sizeLine; decide⟩, ?_, lay_tup2 (okL_s k3) (okL_s k4)⟩
    · show a.map PV.str = (strsP (a.map .str)).map .str ∧ b.map PV.str = (strsP (b.map .str)).map .str ∧ (strsP (a.map .str)).length ≤ 10000 ∧ (strsP (b.map .str)).length ≤ 10000
      rw [strsP_map, strsP_map]
      exact ⟨rfl, rfl, Nat.le_trans k1.2 (by decide), Nat.le_trans k2.2 (by decide)⟩
    · show lay (tup2 (sldR (strsP (a.map .str)) (strsP (b.map .str))).1 (sldR (strsP (a.map .str)) (strsP (b.map .str))).2) = true
      rw [strsP_map, strsP_map]
      exact lay_tup2 (fun x hx => okL_s k1 x ((sldF_mem _ a b).1 x hx)) (fun x hx => okL_s k2 x ((sldF_mem _ a b).2 x hx))) ?_)
  show PV.bool (eqv (tup2 (sldR (strsP (a.map .str)) (strsP (b.map .str))).1 (sldR (strsP (a.map .str)) (strsP (b.map .str))).2) (tup2 c d)) = _
  rw [strsP_map, strsP_map, eqv_tup2]
theorem rt_body : ∃ σ' sv, Exs C (st0 [.list (one.map .str), .list (two.map .str), tup2 d1 d2, .str pat] 3) dRight.body (.ret sv) σ' ∧ sv = .v (.bool (lawRight one two d1 d2 pat)) := by
  have s0 := rt_s0 K S Sl one two d1 d2 h1 h2 h3 h4 pat hp1 hp2 hp3 hp4 hr
  have s1 := rt_s1 K S Sl one two d1 d2 h1 h2 h3 h4 pat hp1 hp2 hp3 hp4 hr
  have s2 := rt_s2 K S Sl one two d1 d2 h1 h2 h3 h4 pat hp1 hp2 hp3 hp4 hr (.v (two2 (one.filter (takes (rdOf pat))) (two.filter (takes (rdOf pat)))))
  exact ⟨_, _, exs_cons s0 (exs_cons s1 (exs_cons s2 (exs_stop (fun h => nomatch h) (rt_s3 K S Sl one two d1 d2 h1 h2 h3 h4 pat hp1 hp2 hp3 hp4 hr _ _ _ _ _ (okL_f h1 _) (okL_f h2 _) (okL_f h3 _) (okL_f h4 _))))), rfl⟩
end
noncomputable def asTup2 (p : PV) : Option (List PV × List PV) := (asTup p).bind fun l => match l with
  | [a, b] => (asList a).bind fun x => (asList b).map fun y => (x, y)
  | _ => none
theorem asTup2_inv {p : PV} {q : List PV × List PV} (h : asTup2 p = some q) : p = .tup [.list q.1, .list q.2] := by
  obtain ⟨l, h1, h2⟩ := Option.bind_eq_some_iff.mp h
  rw [asTup_inv h1]
  rcases l with _ | ⟨a, _ | ⟨b, _ | ⟨_, _⟩⟩⟩
  · cases h2
  · cases h2
  · obtain ⟨x, h3, h4⟩ := Option.bind_eq_some_iff.mp h2
    obtain ⟨y, h5, h6⟩ := Option.map_eq_some_iff.mp h4
    rw [asList_inv h3, asList_inv h5, ← h6]
  · cases h2
noncomputable def rightF : List PV → Option R
  | p :: ps => (asList p).bind fun xs => on3 asList asTup2 asStr (fun ys q pat => ⟨.bool (lawRight (strsP xs) (strsP ys) (strsP q.1) (strsP q.2) pat), (xs = (strsP xs).map .str ∧ ys = (strsP ys).map .str ∧ q.1 = (strsP q.1).map .str ∧ q.2 = (strsP q.2).map .str) ∧ (okL (strsP xs) ∧ okL (strsP ys) ∧ okL (strsP q.1) ∧ okL (strsP q.2)) ∧ pat.length ≤ 9000 ∧ (∀ x ∈ pat.cps.toList, x < 128 ∧ x ≠ 91) ∧ (transS pat).length ≤ 9000 ∧ PyData.strOk pat = true ∧ readOk (rdOf pat)⟩) ps
  | _ => none
noncomputable def eRight : Ent := ⟨"_law_right", .d, rightF⟩
theorem ok_right {P : Pr} (B : Base P) (n : Nat) : EntOk P (n + 4) eRight := by
  obtain ⟨hd, v, hv⟩ := B.d 21 (by decide)
  refine ⟨dRight, hd, rfl, v, hv, fun ps r h ok => ?_⟩
  cases ps with
  | nil => cases h
  | cons p'0 ps =>
  obtain ⟨xs, e'0, h⟩ := Option.bind_eq_some_iff.mp (show ((asList p'0).bind fun xs => on3 asList asTup2 asStr _ ps) = some r from h)
  obtain ⟨p'1, p'2, p'3, ys, q, pat, rfl, e'1, e'2, e'3, rfl⟩ := on3_inv h
  obtain rfl := asList_inv e'0
  obtain rfl := asList_inv e'1
  obtain rfl := asTup2_inv e'2
  obtain rfl := asStr_inv e'3
  obtain ⟨ds, es⟩ := q
  obtain ⟨⟨e1, e2, e3, e4⟩, ⟨k1, k2, k3, k4⟩, q1, q2, q3, q4, q5⟩ := ok
  refine def_ok dRight hd hv ["one", "two", "alone", "pattern"] ["one", "two", "alone", "pattern", "read", "kept", "due"] _ _ (T := [eSld, eRuns, eTl, eTakes, eFits]) (forall_cons (ok_sld B (n + 2)) (forall_cons (ok_runs B (n + 2)) (forall_cons (ok_tl B n) (forall_cons (ok_takes B (n + 1)) (forall_cons (ok_fits B (n + 2)) forall_nil))))) rfl rfl (by rfl) (fun pm cd doc vs hvs => ?_) (by decide +kernel) rfl rfl rfl (by decide +kernel) (by decide +kernel) fun C _ K S Sl => ?_
  · obtain ⟨a, b, c, d, rfl⟩ := len4 hvs
    rfl
  · have := rt_body K S Sl (strsP xs) (strsP ys) (strsP ds) (strsP es) k1 k2 k3 k4 pat q1 q2 q3 q4 q5
    rw [← e1, ← e2] at this
    unfold tup2 at this
    rw [← e3, ← e4] at this
    exact this
end Rt

/-! V9f -/
namespace Rt
/-- x, y = e1, e2 where x is a cell -/
theorem swapped_no {C : Ctx} {Γ : Sc} (S : Stat C Γ) {x y : Str} {px py tp vp : Pos} {n n' : Nat} {e1 e2 : Expr} (kx : Γ.kind x = some .cell) (h1 : isStar e1 = false) (h2 : isStar e2 = false) :
    swappedStores [.Tuple [.Name x px, .Name y py] n tp] (.Tuple [e1, e2] n' vp) C.env = pure none := by
  have bk : C.env.blockKind = .function := by
    unfold Env.blockKind
    rw [S.fk]; rfl
  have hs : [e1, e2].any isStar = false := by simp [h1, h2]
  have hn : ([Expr.Name x px, Expr.Name y py].filterMap (nameOf C.env px)).length ≠ 2 := by
    have e : nameOf C.env px (.Name x px) = none := by
      show (if (C.env.kindOf x == some .local && px.line == px.line) = true then some x else none) = none
      rw [S.kind, kx]; rfl
    rw [List.filterMap_cons_none e]
    have := List.length_filterMap_le (nameOf C.env px) [Expr.Name y py]
    simp only [List.length_singleton] at this
    omega
  rw [swapped_form, bk, hs, if_neg (by decide), if_neg (by decide), if_pos (by rw [Bool.or_eq_true]; exact .inl (bne_iff_ne.mpr hn))]
theorem exTup2c {C : Ctx} {σ : St} {Γ : Sc} (K : CtxOk C) (S : Stat C Γ) (Sl : Slots C Γ) (i j : Nat) {x y : Str} {px py tp vp pos : Pos} {n n' : Nat} {e1 e2 : Expr} {a b : PV} (hx : Γ.names[i]? = some x) (hy : Γ.names[j]? = some y) (kx : Γ.kind x = some .cell) (ky : slotB Γ y = true) (s1 : isStar e1 = false) (s2 : isStar e2 = false)
    (h1 : Ev C σ e1 (.v a)) (h2 : Ev C σ e2 (.v b)) (hs : swapsWithSole [.Tuple [.Name x px, .Name y py] n tp] (.Tuple [e1, e2] n' vp) pos.line C.env = pure false) :
    Ex C σ (.Assign [.Tuple [.Name x px, .Name y py] n tp] (.Tuple [e1, e2] n' vp) pos) .next ((σ.setv i (.v a)).setv j (.v b)) := by
  refine ex_tuple K S.hh (ps := [a, b]) [(i, x, assign (.Name x px) C.env), (j, y, assign (.Name y py) C.env)] (fun E t ht => ?_) rfl (ev_tup (ps := [a, b]) (evs_cons h1 (evs_cons h2 evs_nil (starEach_plain s2)) (by
    cases e1 <;> first | rfl | cases s1)) (by show 2 ≤ sizeLine; decide)) rfl hs (swapped_no S kx s1 s2)
  simp only [List.mem_cons, List.not_mem_nil, or_false] at ht
  rcases ht with rfl | rfl
  · exact ⟨by rw [S.names]; exact hx, Sl x (by unfold slotB; rw [kx]), fun v s Q hh => wpAny_assign_Name hh⟩
  · exact ⟨by rw [S.names]; exact hy, Sl y ky, fun v s Q hh => wpAny_assign_Name hh⟩
theorem b_isNot_none {P : Pr} {A : Around} (ps : List PV) : BinR P A (compareOp .IsNot) (.tup ps) .none (.bool true) := by
  intro av s v1 v2 Q E _ _ _ h1 h2 k; cases h1; cases h2
  exact wpAny_isNot_other rfl (fun e => nomatch e) (k _ s.heap s.toks (stays_refl _) (.bool _))
noncomputable abbrev dLaw : DefRec := dr 22 (by decide)
noncomputable abbrev scLaw : Sc := dSc dLaw ["script", "numbers", "one", "two", "paths", "alone", "signs", "patterns"] [eShelf, eAlone, eNames, eSorted, eRange, eLen, eRight]
noncomputable def numsOf (sc : List Int) : List Int := pickL sc none (some 3) ++ [28, 21, 95, 6, 52, 9, 39]
noncomputable def pathsOf (nums : List Int) (other : Int) : List Str := (nums.filter fun x => (x.fdiv 3).fmod 3 != other).map fun x => flatS (lawNames x)
noncomputable def dedupR (row : List Str) : List Str := ((List.range row.length).filter fun k => !(row.take k).contains (row.getD k "")).map fun k => row.getD k ""
noncomputable def sgnX (x : Int) : Str := idxC "*?ab/.+" (x.fmod 7)
noncomputable def signsOf (sc : List Int) : Str := cat ((pickL sc (some 3) (some 6)).map sgnX)
noncomputable def patsOf (s : Str) : List Str := ["/*" ++ s ++ "b", "*a" ++ s ++ "*/?*", "/" ++ s]
structure PatOk (pat : Str) : Prop where
  len : pat.length ≤ 9000
  sg : ∀ x ∈ pat.cps.toList, x < 128 ∧ x ≠ 91
  tl : (transS pat).length ≤ 9000
  ok : PyData.strOk pat = true
  rd : readOk (rdOf pat)
section
variable {C : Ctx} (K : CtxOk C) (S : Stat C scLaw) (Sl : Slots C scLaw) (sc : List Int) (hl : (pickL sc none (some 3)).length ≤ 3) (hl2 : (pickL sc (some 3) (some 6)).length ≤ 3) (hsz : sc.length ≤ 1000) (one two : List Str) (h1 : lawShelf (numsOf sc) 2 = one) (h2 : lawShelf (numsOf sc) 1 = two)
include K S Sl hl hl2 hsz h1 h2
noncomputable abbrev stLaw (o t : SV) (p al sg pt : SV) : St := ⟨[.v (.list (sc.map .int)), .v (.list ((numsOf sc).map .int)), o, t, p, al, sg, pt], []⟩
theorem nums_len : (numsOf sc).length ≤ 10 := by
  unfold numsOf
  rw [List.length_append]
  show _ + 7 ≤ 10
  omega
theorem law_s0 : Ex C (st0 [.list (sc.map .int)] 7) (stB dLaw.body 0) .next (stLaw sc .un .un .un .un .un .un) := by
  have hL : sizeLine = 16777216 := rfl
  refine ex_to (exG (v := .list ((numsOf sc).map .int)) K S Sl 1 rfl rfl (by rfl) (by
    refine ⟨⟨trivial, trivial, trivial, ?_⟩, ⟨⟨trivial, trivial, trivial, trivial, trivial, trivial, trivial, trivial⟩, by show 7 ≤ sizeLine; decide⟩, ?_⟩
    · rw [List.length_map]; omega
    · show (pickL (sc.map PV.int) none (some 3)).length + 7 ≤ sizeLine
      rw [pick_map, List.length_map]; omega) ?_ rfl) rfl
  show PV.list (pickL (sc.map PV.int) none (some 3) ++ [28, 21, 95, 6, 52, 9, 39].map PV.int) = _
  rw [pick_map, ← List.map_append]; rfl
theorem law_s1 : Ex C (stLaw sc .un .un .un .un .un .un) (stB dLaw.body 1) .next (stLaw sc (.v (.list (one.map .str))) (.v (.list (two.map .str))) .un .un .un .un) := by
  have hn := nums_len K S Sl sc hl hl2 hsz one two h1 h2
  refine ex_to (exTup2c K S Sl 2 3 rfl rfl (by rfl) (by rfl) rfl rfl (evG (v := .list (one.map .str)) S (by rfl) (by
    refine ⟨⟨trivial, trivial, trivial⟩, ?_⟩
    show (numsOf sc).map PV.int = (intsOf ((numsOf sc).map .int)).map .int ∧ (intsOf ((numsOf sc).map .int)).length ≤ 20
    rw [intsOf_map]
    exact ⟨rfl, by omega⟩) (by
    show PV.list ((lawShelf (intsOf ((numsOf sc).map .int)) 2).map .str) = _
    rw [intsOf_map, h1])) (evG (v := .list (two.map .str)) S (by rfl) (by
    refine ⟨⟨trivial, trivial, trivial⟩, ?_⟩
    show (numsOf sc).map PV.int = (intsOf ((numsOf sc).map .int)).map .int ∧ (intsOf ((numsOf sc).map .int)).length ≤ 20
    rw [intsOf_map]
    exact ⟨rfl, by omega⟩) (by
    show PV.list ((lawShelf (intsOf ((numsOf sc).map .int)) 1).map .str) = _
    rw [intsOf_map, h2])) rfl) rfl
noncomputable abbrev rows2 : PV := .list [.list ((pathsOf (numsOf sc) 2).map .str), .list ((pathsOf (numsOf sc) 1).map .str)]
theorem law_s2 (o t : SV) : Ex C (stLaw sc o t .un .un .un .un) (stB dLaw.body 2) .next (stLaw sc o t (.v (rows2 sc)) .un .un .un) := by
  have hL : sizeLine = 16777216 := rfl
  have hn := nums_len K S Sl sc hl hl2 hsz one two h1 h2
  refine ex_to (exC K S Sl ["other"] [("numbers", 1)] (by rfl) rfl (fun _ q => absurd q List.not_mem_nil) (it_l S (xs := [.int 2, .int 1]) (by rfl) (by exact ⟨⟨trivial, trivial, trivial⟩, by show 2 ≤ sizeLine; decide⟩) rfl) (fun _ => rfl)
    (block1 [(2 : Int), 1] PV.int (fun o => .list ((pathsOf (numsOf sc) o).map .str)) (fun _ => true) fun C' hC' K' S' r hr' acc => ⟨by exact rfl, fun _ => ?_⟩) (by show 2 ≤ sizeLine; decide) 4 rfl rfl rfl rfl (by decide +kernel)) rfl
  have e : (pathsOf (numsOf sc) r).map PV.str = ((numsOf sc).filter fun x => (x.fdiv 3).fmod 3 != r).map fun x => PV.str (flatS (lawNames x)) := by
    unfold pathsOf
    rw [List.map_map]; rfl
  rw [e]
  refine evc K' S' ["x"] [("other", 0)] (by rfl) rfl (fun _ q => nomatch q) (it_l S' (xs := (numsOf sc).map .int) (by rfl) (by trivial) rfl) (fun _ => rfl)
    (block1 (numsOf sc) PV.int (fun x => PV.str (flatS (lawNames x))) (fun x => (x.fdiv 3).fmod 3 != r) fun C2 hC2 K2 S2 x hx acc => ⟨trsG S2 (by rfl) (by exact ⟨⟨⟨trivial, trivial, by show (3 : Int) ≠ 0; decide, by decide⟩, trivial, by show (3 : Int) ≠ 0; decide⟩, trivial, trivial⟩) rfl, fun _ => evG S2 (by rfl) ?_ ?_⟩) (by
      rw [List.length_map]
      exact Nat.le_trans (List.length_filter_le _ _) (by omega))
  · obtain ⟨_, _, _, g4, g5⟩ := good x
    have hn3 : (lawNames x).length ≤ 3 := by
      unfold lawNames namesN
      obtain ⟨m1, m2⟩ := mod_range x 3 (by decide)
      rw [List.length_map, List.length_range]; omega
    refine ⟨trivial, ⟨trivial, ⟨⟨⟨trivial, trivial⟩, trivial⟩, trivial⟩, ?_⟩, ?_⟩
    · show (lawNames x).map PV.str = (strsP ((lawNames x).map .str)).map .str ∧ ("/" : Str).length ≤ 64 ∧ ((strsP ((lawNames x).map .str)).map (·.length)).sum + (strsP ((lawNames x).map .str)).length * 64 ≤ 16777216
      rw [strsP_map]
      refine ⟨rfl, by decide +kernel, ?_⟩
      have : ∀ l : List Str, (∀ n ∈ l, n.length ≤ 3) → (l.map (·.length)).sum ≤ 3 * l.length := by
        intro l
        induction l with
        | nil => intro _; exact Nat.le_refl _
        | cons a l ih =>
          intro h
          have := ih fun n hn => h n (.tail _ hn)
          have := h a (.head _)
          rw [List.map_cons, List.sum_cons, List.length_cons]; omega
      have := this _ g5
      omega
    · show ("/" : Str).length + (Txt.join "/" (strsP ((lawNames x).map .str))).length ≤ sizeLine
      rw [strsP_map]
      have : (flatS (lawNames x)).length = ("/" : Str).length + (Txt.join "/" (lawNames x)).length := len_append _ _
      omega
  · show PV.str ("/" ++ Txt.join "/" (strsP ((lawNames x).map .str))) = _
    rw [strsP_map]; rfl
end
end Rt

/-! V9g -/
namespace Rt
section
variable {C : Ctx} (K : CtxOk C) (S : Stat C scLaw) (Sl : Slots C scLaw) (sc : List Int) (hl : (pickL sc none (some 3)).length ≤ 3) (hl2 : (pickL sc (some 3) (some 6)).length ≤ 3) (hsz : sc.length ≤ 1000) (one two : List Str) (h1 : lawShelf (numsOf sc) 2 = one) (h2 : lawShelf (numsOf sc) 1 = two)
  (d1 : one = sortS (dedupR (pathsOf (numsOf sc) 2))) (d2 : two = sortS (dedupR (pathsOf (numsOf sc) 1))) (k1 : okL one) (k2 : okL two)
include K S Sl hl hl2 hsz h1 h2 d1 d2 k1 k2
noncomputable abbrev stL3 (p al sg pt : SV) : St := stLaw sc (.v (.list (one.map .str))) (.v (.list (two.map .str))) p al sg pt
theorem paths_ok (o : Int) : (∀ x ∈ pathsOf (numsOf sc) o, PyData.strOk x = true ∧ x.length ≤ 20) ∧ (pathsOf (numsOf sc) o).length ≤ 10 := by
  have hn := nums_len K S Sl sc hl hl2 hsz one two h1 h2
  constructor
  · intro x hx
    obtain ⟨y, _, rfl⟩ := List.mem_map.mp hx
    obtain ⟨_, g2, _, g4, _⟩ := good y
    exact ⟨g2, g4⟩
  · unfold pathsOf
    rw [List.length_map]
    exact Nat.le_trans (List.length_filter_le _ _) hn
theorem pick_to {α : Type} (xs : List α) (k : Nat) (h : k ≤ xs.length) : pickL xs none (some (k : Int)) = xs.take k := by
  rw [pickL_eq]
  have e1 : clampN none 0 xs.length = 0 := rfl
  have e2 : clampN (some (k : Int)) xs.length xs.length = k := by
    unfold clampN
    simp only [show ¬ ((k : Int) < 0) from by omega, if_false]; omega
  rw [e1, e2, List.drop_zero, Nat.sub_zero]
theorem ev_dedup {C' : Ctx} (K' : CtxOk C') (S' : Stat C' (scLaw.comp (match stB dLaw.body 3 with | .If (.Compare _ _ [.ListComp _ _ s _] _) _ _ _ => s | _ => default) ["row"] [])) (row : List Str) (hr : ∀ x ∈ row, PyData.strOk x = true) (hlr : row.length ≤ 10) (acc : List SV) :
    Ev C' ⟨[.v (.list (row.map .str))], [some acc]⟩ (match stB dLaw.body 3 with | .If (.Compare _ _ [.ListComp (.Call _ [e] _ _) _ _ _] _) _ _ _ => e | _ => .Constant .none 0 ⟨0, 0, 0, 0⟩) (.v (.list ((dedupR row).map .str))) := by
  have hL : sizeLine = 16777216 := rfl
  have e : (dedupR row).map PV.str = ((List.range row.length).filter fun k => !(row.take k).contains (row.getD k "")).map fun k => PV.str (row.getD k "") := by
    unfold dedupR
    rw [List.map_map]; rfl
  rw [e]
  have ix : ∀ k, k < row.length → idxL (row.map .str) (0 + (k : Int)) = .str (row.getD k "") := fun k hk => by
    rw [Int.zero_add]
    exact idxL_strs (by rw [List.getD_eq_getElem?_getD, List.getElem?_eq_getElem hk]; rfl)
  have iok : ∀ k, k < row.length → idxOk (row.map PV.str) (0 + (k : Int)) := fun k hk => ⟨by rw [List.length_map]; omega, by rw [List.length_map]; omega, by rw [List.length_map]; omega⟩
  have gok : ∀ k, k < row.length → PyData.strOk (row.getD k "") = true := fun k hk => by
    rw [List.getD_eq_getElem?_getD, List.getElem?_eq_getElem hk]
    exact hr _ (List.getElem_mem _)
  refine evc K' S' ["k"] [("row", 0)] (by rfl) rfl (fun _ q => nomatch q) (it_r1 S' (n := row.length) (by rfl) (by rfl) (by exact ⟨⟨trivial, trivial⟩, by show (row.map PV.str).length ≤ sizeLine; rw [List.length_map]; omega⟩) (by show PV.int ((row.map PV.str).length : Int) = _; rw [List.length_map]) (by omega)) (fun _ => rfl)
    (block1 (List.range row.length) (fun (k : Nat) => .int (0 + k)) (fun k => PV.str (row.getD k "")) (fun k => !(row.take k).contains (row.getD k "")) fun C2 hC2 K2 S2 k hk acc => ⟨trsG S2 (by rfl) ?_ ?_, fun _ => evG S2 (by rfl) (by exact ⟨trivial, trivial, iok k (List.mem_range.mp hk)⟩) (ix k (List.mem_range.mp hk))⟩) (by
      rw [List.length_map]
      exact Nat.le_trans (List.length_filter_le _ _) (by rw [List.length_range]; omega))
  · have hk' := List.mem_range.mp hk
    refine ⟨⟨trivial, trivial, iok k hk'⟩, ⟨trivial, trivial, trivial, by rw [List.length_map]; omega⟩, ?_, ?_⟩
    · show lay (idxL (row.map .str) (0 + (k : Int))) = true
      rw [ix k hk']
      exact lay_str (gok k hk')
    · show lay (.list (pickL (row.map PV.str) none (some (0 + (k : Int))))) = true
      rw [pick_map]
      exact layN_lay (layN_strs fun x hx => by
        rw [Int.zero_add, pick_to K S Sl sc hl hl2 hsz one two h1 h2 d1 d2 k1 k2 _ _ (Nat.le_of_lt hk')] at hx
        exact hr x (List.mem_of_mem_take hx)) (by decide)
  · have hk' := List.mem_range.mp hk
    show (!(toPDs (pickL (row.map PV.str) none (some (0 + (k : Int))))).any fun y => PyData.eqv y (toPD (idxL (row.map .str) (0 + (k : Int))))) = _
    rw [ix k hk', pick_map, any_strs, Int.zero_add, pick_to K S Sl sc hl hl2 hsz one two h1 h2 d1 d2 k1 k2 _ _ (Nat.le_of_lt hk')]
theorem dedup_len (row : List Str) : (dedupR row).length ≤ row.length := by
  unfold dedupR
  rw [List.length_map]
  exact Nat.le_trans (List.length_filter_le _ _) (by rw [List.length_range]; exact Nat.le_refl _)
theorem law_t3 : Tr C (stL3 sc one two (.v (rows2 sc)) .un .un .un) (tOf (stB dLaw.body 3)) false := by
  have hL : sizeLine = 16777216 := rfl
  have hp2 := paths_ok K S Sl sc hl hl2 hsz one two h1 h2 d1 d2 k1 k2 2
  have hp1 := paths_ok K S Sl sc hl hl2 hsz one two h1 h2 d1 d2 k1 k2 1
  have hr : Ev C (stL3 sc one two (.v (rows2 sc)) .un .un .un) (match stB dLaw.body 3 with | .If (.Compare _ _ [e] _) _ _ _ => e | _ => .Constant .none 0 ⟨0, 0, 0, 0⟩) (.v (.list [.list (one.map .str), .list (two.map .str)])) := by
    rw [d1, d2]
    refine evc K S ["row"] [] (by rfl) rfl (fun _ q => nomatch q) (it_l S (xs := [.list ((pathsOf (numsOf sc) 2).map .str), .list ((pathsOf (numsOf sc) 1).map .str)]) (by rfl) (by trivial) rfl) (fun _ => rfl)
      (block1 [pathsOf (numsOf sc) 2, pathsOf (numsOf sc) 1] (fun r => .list (r.map .str)) (fun r => .list ((sortS (dedupR r)).map .str)) (fun _ => true) fun C' hC' K' S' r hr' acc => ⟨by exact rfl, fun _ => ?_⟩) (by show 2 ≤ sizeLine; decide)
    have hok : (∀ x ∈ r, PyData.strOk x = true) ∧ r.length ≤ 10 := by
      simp only [List.mem_cons, List.not_mem_nil, or_false] at hr'
      rcases hr' with rfl | rfl
      · exact ⟨fun x hx => (hp2.1 x hx).1, hp2.2⟩
      · exact ⟨fun x hx => (hp1.1 x hx).1, hp1.2⟩
    refine evCall (vs := [.list ((dedupR r).map .str)]) (t := eSorted) S' (evs_cons (ev_dedup K S Sl sc hl hl2 hsz one two h1 h2 d1 d2 k1 k2 K' S' r hok.1 hok.2 acc) evs_nil rfl) (by rfl) (by decide +kernel) (by rfl) (by rfl) rfl ?_ ?_
    · have := dedup_len K S Sl sc hl hl2 hsz one two h1 h2 d1 d2 k1 k2 r
      show (dedupR r).map PV.str = (strsP ((dedupR r).map .str)).map .str ∧ (strsP ((dedupR r).map .str)).length < 64
      rw [strsP_map]
      exact ⟨rfl, by omega⟩
    · show PV.list ((sortS (strsP ((dedupR r).map .str))).map .str) = _
      rw [strsP_map]
  exact tr_cmp (evG (v := .list [.list (one.map .str), .list (two.map .str)]) S (by rfl) (by exact ⟨⟨trivial, trivial, trivial⟩, by show 2 ≤ sizeLine; decide⟩) rfl) hr (by
    have := b_ne (P := C.P) (A := C.A) (.list [.list (one.map .str), .list (two.map .str)]) (.list [.list (one.map .str), .list (two.map .str)]) (lay_list2 (okL_s k1) (okL_s k2)) (lay_list2 (okL_s k1) (okL_s k2))
    rw [eqv_list2] at this
    simpa using this) rfl
variable (hal : aloneOk one two = true) (hpt : ∀ pat ∈ patsOf (signsOf sc), PatOk pat) (hrt : ∀ pat ∈ patsOf (signsOf sc), lawRight one two (notIn one two) (notIn two one) pat = true)
include hal hpt hrt
noncomputable abbrev ali (one two : List Str) : PV := tup2 (notIn one two) (notIn two one)
theorem sgn_len (x : Int) : (sgnX x).length = 1 := rfl
theorem cat_signs : (cat ((pickL sc (some 3) (some 6)).map sgnX)).length ≤ 3 := by
  have h := cat_len ((pickL sc (some 3) (some 6)).map sgnX)
  have : ∀ l : List Int, ((l.map sgnX).map (·.length)).sum = l.length := by
    intro l
    induction l with
    | nil => rfl
    | cons a l ih => rw [List.map_cons, List.map_cons, List.sum_cons, ih, List.length_cons]; show 1 + _ = _; omega
  rw [this] at h
  omega
theorem law_s4 (p : SV) : Ex C (stL3 sc one two p .un .un .un) (stB dLaw.body 4) .next (stL3 sc one two p (.v (ali one two)) (.v (.str (signsOf sc))) .un) := by
  have hL : sizeLine = 16777216 := rfl
  have hal' : lawAlone one two = ali one two := by unfold lawAlone; rw [if_pos hal]
  refine ex_to (exTup2c K S Sl 5 6 rfl rfl (by rfl) (by rfl) rfl rfl (evG (v := ali one two) S (by rfl) (by
    refine ⟨⟨trivial, trivial, trivial⟩, ?_⟩
    show one.map PV.str = (strsP (one.map .str)).map .str ∧ two.map PV.str = (strsP (two.map .str)).map .str ∧ (∀ x ∈ strsP (one.map .str), PyData.strOk x = true) ∧ (∀ x ∈ strsP (two.map .str), PyData.strOk x = true) ∧ (strsP (one.map .str)).length ≤ 3000 ∧ (strsP (two.map .str)).length ≤ 3000
    rw [strsP_map, strsP_map]
    exact ⟨rfl, rfl, okL_s k1, okL_s k2, k1.2, k2.2⟩) (by
    show lawAlone (strsP (one.map .str)) (strsP (two.map .str)) = _
    rw [strsP_map, strsP_map, hal'])) (ev_meth (T := "str") (id := "str.join") (n := C.n) (pure false) (p := .str "") (ps := [.list (((pickL sc (some 3) (some 6)).map sgnX).map .str)]) (r := .str (signsOf sc)) (evG S (by rfl) (by trivial) rfl) (evs_cons ?_ evs_nil rfl) (c_join "" ((pickL sc (some 3) (some 6)).map sgnX) (by decide) ?_) (Nat.le_refl _) S.hh (str_T _) F.plainAttrs_str F.slot_str_join F.type_str_join (meth_eq rfl rfl (by show 1 < 30; decide) rfl) rfl rfl) rfl) rfl
  · rw [List.map_map]
    refine evc K S ["x"] [] (by rfl) rfl (fun _ q => nomatch q) (it_l S (xs := (pickL sc (some 3) (some 6)).map .int) (by rfl) (by exact ⟨trivial, trivial, trivial, by rw [List.length_map]; omega⟩) (by show PV.list (pickL (sc.map PV.int) (some 3) (some 6)) = _; rw [pick_map])) (fun _ => rfl)
      (show BlockG _ _ _ _ _ _ _ _ _ _ _ (.map _ (pickL sc (some 3) (some 6))) from by
        have b := block1 (C := C) (Γ := scLaw) (σ := stL3 sc one two p .un .un .un) (scope := (match stB dLaw.body 4 with | .Assign _ (.Tuple [_, .Call _ [.ListComp _ _ s _] _ _] _ _) _ => s | _ => default)) (tg := ["x"]) (cap := []) (elt := (match stB dLaw.body 4 with | .Assign _ (.Tuple [_, .Call _ [.ListComp e _ _ _] _ _] _ _) _ => e | _ => default)) (ifs := []) (pickL sc (some 3) (some 6)) PV.int (PV.str ∘ sgnX) (fun _ => true) fun C' hC' K' S' x hx acc => ⟨rfl, fun _ => evG S' (by rfl) (by
          obtain ⟨m1, m2⟩ := mod_range x 7 (by decide)
          exact ⟨trivial, ⟨trivial, trivial, by show (7 : Int) ≠ 0; decide⟩, by show -(7 : Int) ≤ _; omega, by show _ < (7 : Int); omega, by show 7 ≤ sizeLine; decide⟩) rfl⟩
        rw [filt_true] at b
        exact b) (by rw [List.length_map]; omega)
  · have := cat_signs K S Sl sc hl hl2 hsz one two h1 h2 d1 d2 k1 k2 hal hpt hrt
    have : ∀ l : List Int, ((l.map sgnX).map (·.length)).sum = l.length := by
      intro l
      induction l with
      | nil => rfl
      | cons a l ih => rw [List.map_cons, List.map_cons, List.sum_cons, ih, List.length_cons]; show 1 + _ = _; omega
    rw [this, List.length_map]; omega
end
end Rt

/-! V9h -/
namespace Rt
section
variable {C : Ctx} (K : CtxOk C) (S : Stat C scLaw) (Sl : Slots C scLaw) (sc : List Int) (hl : (pickL sc none (some 3)).length ≤ 3) (hl2 : (pickL sc (some 3) (some 6)).length ≤ 3) (hsz : sc.length ≤ 1000) (one two : List Str) (h1 : lawShelf (numsOf sc) 2 = one) (h2 : lawShelf (numsOf sc) 1 = two)
  (d1 : one = sortS (dedupR (pathsOf (numsOf sc) 2))) (d2 : two = sortS (dedupR (pathsOf (numsOf sc) 1))) (k1 : okL one) (k2 : okL two)
  (hal : aloneOk one two = true) (hpt : ∀ pat ∈ patsOf (signsOf sc), PatOk pat) (hrt : ∀ pat ∈ patsOf (signsOf sc), lawRight one two (notIn one two) (notIn two one) pat = true)
include K S Sl hl hl2 hsz h1 h2 d1 d2 k1 k2 hal hpt hrt
theorem law_s5 (p : SV) : Ex C (stL3 sc one two p (.v (ali one two)) (.v (.str (signsOf sc))) .un) (stB dLaw.body 5) .next (stL3 sc one two p (.v (ali one two)) (.v (.str (signsOf sc))) (.v (.list ((patsOf (signsOf sc)).map .str)))) := by
  have hL : sizeLine = 16777216 := rfl
  have hs : (signsOf sc).length ≤ 3 := cat_signs K S Sl sc hl hl2 hsz one two h1 h2 d1 d2 k1 k2 hal hpt hrt
  generalize signsOf sc = s at *
  have e1 : ("/*" : Str).length = 2 := by decide +kernel
  have e2 : ("b" : Str).length = 1 := by decide +kernel
  have e3 : ("*a" : Str).length = 2 := by decide +kernel
  have e4 : ("*/?*" : Str).length = 4 := by decide +kernel
  have e5 : ("/" : Str).length = 1 := by decide +kernel
  refine ex_to (exG (v := .list ((patsOf s).map .str)) K S Sl 7 rfl rfl (by rfl) (by
    refine ⟨⟨⟨⟨trivial, trivial, ?_⟩, trivial, ?_⟩, ⟨⟨trivial, trivial, ?_⟩, trivial, ?_⟩, ⟨trivial, trivial, ?_⟩, trivial⟩, by show 3 ≤ sizeLine; decide⟩
    · show ("/*" : Str).length + s.length ≤ sizeLine; omega
    · show ("/*" ++ s : Str).length + ("b" : Str).length ≤ sizeLine; rw [len_append]; omega
    · show ("*a" : Str).length + s.length ≤ sizeLine; omega
    · show ("*a" ++ s : Str).length + ("*/?*" : Str).length ≤ sizeLine; rw [len_append]; omega
    · show ("/" : Str).length + s.length ≤ sizeLine; omega) rfl rfl) rfl
theorem okL_n {a b : List Str} (h : okL a) : okL (notIn a b) := okL_f h _
theorem law_s6 (p : SV) : Ex C (stL3 sc one two p (.v (ali one two)) (.v (.str (signsOf sc))) (.v (.list ((patsOf (signsOf sc)).map .str)))) (stB dLaw.body 6) (.ret (.v (.bool true))) (stL3 sc one two p (.v (ali one two)) (.v (.str (signsOf sc))) (.v (.list ((patsOf (signsOf sc)).map .str)))) := by
  have hL : sizeLine = 16777216 := rfl
  have hn1 := okL_f k1 (fun p => !two.contains p)
  have hn2 := okL_f k2 (fun p => !one.contains p)
  refine ex_ret (ev_and (a := true) (b := true) (ev_cmp (evG (v := ali one two) S (by rfl) (by trivial) rfl) ev_none (b_isNot_none _) rfl) fun _ => ?_)
  have hev : Ev C (stL3 sc one two p (.v (ali one two)) (.v (.str (signsOf sc))) (.v (.list ((patsOf (signsOf sc)).map .str)))) (match stB dLaw.body 6 with | .Return (some (.BoolOp _ [_, .Compare e _ _ _] _)) _ => e | _ => default) (.v (.list [])) := by
    have b := block1 (C := C) (Γ := scLaw) (σ := stL3 sc one two p (.v (ali one two)) (.v (.str (signsOf sc))) (.v (.list ((patsOf (signsOf sc)).map .str)))) (scope := (match stB dLaw.body 6 with | .Return (some (.BoolOp _ [_, .Compare (.ListComp _ _ s _) _ _ _] _)) _ => s | _ => default)) (tg := ["pattern"]) (cap := [("alone", 5), ("one", 2), ("two", 3)]) (elt := (match stB dLaw.body 6 with | .Return (some (.BoolOp _ [_, .Compare (.ListComp e _ _ _) _ _ _] _)) _ => e | _ => default)) (ifs := (match stB dLaw.body 6 with | .Return (some (.BoolOp _ [_, .Compare (.ListComp _ (g :: _) _ _) _ _ _] _)) _ => g.ifs | _ => default)) (patsOf (signsOf sc)) PV.str PV.str (fun _ => false) fun C' hC' K' S' pat hx acc => ⟨trsG S' (by rfl) (by
      obtain ⟨q1, q2, q3, q4, q5⟩ := hpt pat hx
      refine ⟨⟨⟨trivial, trivial, trivial, trivial, trivial⟩, ?_⟩, trivial⟩
      show (one.map PV.str = (strsP (one.map .str)).map .str ∧ two.map PV.str = (strsP (two.map .str)).map .str ∧ (notIn one two).map PV.str = (strsP ((notIn one two).map .str)).map .str ∧ (notIn two one).map PV.str = (strsP ((notIn two one).map .str)).map .str) ∧ (okL (strsP (one.map .str)) ∧ okL (strsP (two.map .str)) ∧ okL (strsP ((notIn one two).map .str)) ∧ okL (strsP ((notIn two one).map .str))) ∧ pat.length ≤ 9000 ∧ (∀ x ∈ pat.cps.toList, x < 128 ∧ x ≠ 91) ∧ (transS pat).length ≤ 9000 ∧ PyData.strOk pat = true ∧ readOk (rdOf pat)
      rw [strsP_map, strsP_map, strsP_map, strsP_map]
      exact ⟨⟨rfl, rfl, rfl, rfl⟩, ⟨k1, k2, hn1, hn2⟩, q1, q2, q3, q4, q5⟩) (by
      show (!(lawRight (strsP (one.map .str)) (strsP (two.map .str)) (strsP ((notIn one two).map .str)) (strsP ((notIn two one).map .str)) pat)) = false
      rw [strsP_map, strsP_map, strsP_map, strsP_map, hrt pat hx]; rfl), fun h => nomatch h⟩
    have e : (List.filter (fun _ => false) (patsOf (signsOf sc))).map PV.str = [] := by
      rw [List.filter_eq_nil_iff.mpr (fun _ _ h => by cases h)]; rfl
    rw [e] at b
    exact evc K S ["pattern"] [("alone", 5), ("one", 2), ("two", 3)] (by rfl) rfl (fun _ q => nomatch q) (it_l S (xs := (patsOf (signsOf sc)).map .str) (by rfl) (by trivial) rfl) (fun _ => rfl) b (Nat.zero_le _)
  have := ev_cmp (pos := ⟨338, 33, 338, 116⟩) hev (evG (v := .list []) S (e := .List [] ⟨338, 114, 338, 116⟩) (by rfl) (by exact ⟨trivial, Nat.zero_le _⟩) rfl) (b_eq _ _ lay_nil lay_nil) rfl
  rw [eqv_nil] at this
  exact this
theorem law_body : ∃ σ' sv, Exs C (st0 [.list (sc.map .int)] 7) dLaw.body (.ret sv) σ' ∧ sv = .v (.bool true) :=
  ⟨_, _, exs_cons (law_s0 K S Sl sc hl hl2 hsz one two h1 h2) (exs_cons (law_s1 K S Sl sc hl hl2 hsz one two h1 h2) (exs_cons (law_s2 K S Sl sc hl hl2 hsz one two h1 h2 _ _) (exs_cons (ex_if (c := false) (law_t3 K S Sl sc hl hl2 hsz one two h1 h2 d1 d2 k1 k2) (fun h => nomatch h) fun _ => exs_nil)
    (exs_cons (law_s4 K S Sl sc hl hl2 hsz one two h1 h2 d1 d2 k1 k2 hal hpt hrt _) (exs_cons (law_s5 K S Sl sc hl hl2 hsz one two h1 h2 d1 d2 k1 k2 hal hpt hrt _) (exs_stop (fun h => nomatch h) (law_s6 K S Sl sc hl hl2 hsz one two h1 h2 d1 d2 k1 k2 hal hpt hrt _))))))), rfl⟩
end
/-- what the law needs of plain facts -/
structure Plain (sc : List Int) : Prop where
  d1 : lawShelf (numsOf sc) 2 = sortS (dedupR (pathsOf (numsOf sc) 2))
  d2 : lawShelf (numsOf sc) 1 = sortS (dedupR (pathsOf (numsOf sc) 1))
  k1 : okL (lawShelf (numsOf sc) 2)
  k2 : okL (lawShelf (numsOf sc) 1)
  al : aloneOk (lawShelf (numsOf sc) 2) (lawShelf (numsOf sc) 1) = true
  pt : ∀ pat ∈ patsOf (signsOf sc), PatOk pat
  rt : ∀ pat ∈ patsOf (signsOf sc), lawRight (lawShelf (numsOf sc) 2) (lawShelf (numsOf sc) 1) (notIn (lawShelf (numsOf sc) 2) (lawShelf (numsOf sc) 1)) (notIn (lawShelf (numsOf sc) 1) (lawShelf (numsOf sc) 2)) pat = true
theorem pick3 (sc : List Int) : (pickL sc none (some 3)).length ≤ 3 ∧ (pickL sc (some 3) (some 6)).length ≤ 3 := by
  rw [pickL_eq, pickL_eq, List.length_take, List.length_take]
  have c : ∀ (k d n : Nat), clampN (some (k : Int)) d n = min k n := fun k d n => by
    show (max (0 : Int) (min (if (k : Int) < 0 then (k : Int) + n else k) n)).toNat = min k n
    rw [if_neg (Int.not_lt.mpr (Int.natCast_nonneg k))]
    rcases Nat.le_total k n with q | q
    · rw [Int.min_eq_left (Int.ofNat_le.mpr q), Nat.min_eq_left q, Int.max_eq_right (Int.natCast_nonneg k), Int.toNat_natCast]
    · rw [Int.min_eq_right (Int.ofNat_le.mpr q), Nat.min_eq_right q, Int.max_eq_right (Int.natCast_nonneg n), Int.toNat_natCast]
  refine ⟨Nat.le_trans (Nat.min_le_left _ _) (Nat.le_trans (Nat.sub_le _ _) ?_), Nat.le_trans (Nat.min_le_left _ _) ?_⟩
  · exact c 3 _ _ ▸ Nat.min_le_left _ _
  · have c3 : clampN (some 3) 0 sc.length = min 3 sc.length := c 3 _ _
    have c6 : clampN (some 6) sc.length sc.length = min 6 sc.length := c 6 _ _
    rw [c3, c6]
    rcases Nat.le_total 3 sc.length with q | q
    · rw [Nat.min_eq_left q]; exact Nat.sub_le_of_le_add (Nat.min_le_left _ _)
    · rw [Nat.min_eq_right q]; exact Nat.le_trans (Nat.sub_le_of_le_add (Nat.le_trans (Nat.min_le_right _ _) (Nat.le_add_left _ 3))) (Nat.le_refl 3)
theorem law_call {P : Pr} (B : Base P) (n : Nat) {f : Value} (hf : P.mg dLaw.name = some f) (sc : List Int) (hsz : sc.length ≤ 1000) (H : Plain sc) : CallR P (n + 5) f [.list (sc.map .int)] (.bool true) := by
  obtain ⟨hd, _, _⟩ := B.d 22 (by decide)
  refine def_ok dLaw hd hf ["script"] ["script", "numbers", "one", "two", "paths", "alone", "signs", "patterns"] _ _ (T := [eShelf, eAlone, eNames, eSorted, eRange, eLen, eRight]) (forall_cons (ok_shelf B n) (forall_cons (ok_alone B (n + 2)) (forall_cons (ok_names B (n + 3)) (forall_cons (ok_sorted B _) (forall_cons (ok_range B _) (forall_cons (ok_len B _) (forall_cons (ok_right B n) forall_nil))))))) rfl rfl (by rfl) (fun pm cd doc vs hvs => ?_) (by decide +kernel) rfl rfl rfl (by decide +kernel) (by decide +kernel) fun C _ K S Sl => law_body K S Sl sc (pick3 sc).1 (pick3 sc).2 hsz _ _ rfl rfl H.d1 H.d2 H.k1 H.k2 H.al H.pt H.rt
  obtain ⟨a, rfl⟩ := len1 hvs
  rfl
end Rt

/-! W1 -/
namespace Rt
theorem ltS_irrefl (a : Str) : ltS a a = false := by
  unfold ltS
  exact decide_eq_false (List.lt_irrefl _)
theorem ltS_trans {a b c : Str} (h1 : ltS a b = true) (h2 : ltS b c = true) : ltS a c = true := by
  unfold ltS at *
  rw [decide_eq_true_eq] at *
  exact List.lt_trans h1 h2
theorem ltS_asymm {a b : Str} (h1 : ltS a b = true) : ltS b a = false := by
  cases h : ltS b a with
  | false => rfl
  | true => have := ltS_trans h1 h; rw [ltS_irrefl] at this; cases this
theorem ltS_tri {a b : Str} (h1 : ltS a b = false) (h2 : ltS b a = false) : a = b := by
  unfold ltS at *
  rw [decide_eq_false_iff_not, List.not_lt] at *
  exact leS_antisymm a b (by unfold leS; exact decide_eq_true h2) (by unfold leS; exact decide_eq_true h1)
theorem ltS_ne {a b : Str} (h : ltS a b = true) : a ≠ b := fun e => by rw [e, ltS_irrefl] at h; cases h
theorem lt_of_le {a b : Str} (h : leS a b = true) (n : a ≠ b) : ltS a b = true := by
  cases e : ltS a b with
  | true => rfl
  | false =>
    refine absurd (leS_antisymm a b h ?_) n
    unfold ltS at e
    rw [decide_eq_false_iff_not, List.not_lt] at e
    unfold leS; exact decide_eq_true e
noncomputable abbrev Rise (l : List Str) : Prop := l.Pairwise fun a b => ltS a b = true
theorem sort_rise {xs : List Str} (h : xs.Nodup) : Rise (sortS xs) := by
  have h1 := sort_pw xs
  have h2 : (sortS xs).Nodup := (sort_perm xs).nodup_iff.mpr h
  refine List.Pairwise.imp₂ (R := fun a b => leS a b = true) (S := fun a b => a ≠ b) (fun a b h n => lt_of_le h n) h1 h2
theorem sort_mem {xs : List Str} {x : Str} : x ∈ sortS xs ↔ x ∈ xs := (sort_perm xs).mem_iff
theorem sort_len (xs : List Str) : (sortS xs).length = xs.length := (sort_perm xs).length_eq
/-- runs of alike texts -/
noncomputable def expand : List (Str × Nat) → List Str
  | [] => []
  | (x, m) :: r => List.replicate (m + 1) x ++ expand r
noncomputable abbrev keys (l : List (Str × Nat)) : List Str := l.map (·.1)
/-- the ends that may stand -/
noncomputable def EndOk (T : List Str) (A : List (Str × Nat)) : Prop := (∃ z, T = [z] ∧ ∀ x ∈ keys A, ltS x z = true) ∨ (T = [] ∧ ∀ p ∈ A, p.2 = 0)
theorem expand_mem {A : List (Str × Nat)} {y : Str} (h : y ∈ expand A) : y ∈ keys A := by
  induction A with
  | nil => cases h
  | cons p A ih =>
    obtain ⟨x, m⟩ := p
    rcases List.mem_append.mp h with h | h
    · rw [List.eq_of_mem_replicate h]; exact .head _
    · exact .tail _ (ih h)
theorem same_skip {x : Str} {m : Nat} {R : List Str} (h : ∀ y, R.head? = some y → y ≠ x) : (List.replicate m x ++ R).drop (same x (List.replicate m x ++ R)) = R := by
  have e : same x (List.replicate m x ++ R) = m := by
    unfold same
    rw [List.takeWhile_append_of_pos (fun y hy => by rw [List.eq_of_mem_replicate hy]; simp)]
    rw [List.length_append, List.length_replicate]
    cases R with
    | nil => rfl
    | cons y R =>
      have := h y rfl
      rw [List.takeWhile_cons, if_neg (by simpa using this)]; rfl
  rw [e, List.drop_append_of_le_length (by rw [List.length_replicate]; exact Nat.le_refl _), List.drop_eq_nil_of_le (by rw [List.length_replicate]; exact Nat.le_refl _), List.nil_append]
theorem end_tail {T : List Str} {p : Str × Nat} {A : List (Str × Nat)} (h : EndOk T (p :: A)) : EndOk T A := by
  rcases h with ⟨z, e, h⟩ | ⟨e, h⟩
  · exact .inl ⟨z, e, fun x hx => h x (.tail _ hx)⟩
  · exact .inr ⟨e, fun x hx => h x (.tail _ hx)⟩
theorem head_ne {T : List Str} {x : Str} {m : Nat} {A : List (Str × Nat)} (h : EndOk T ((x, m) :: A)) (hs : Rise (keys ((x, m) :: A))) : ∀ y, (expand A ++ T).head? = some y → y ≠ x := by
  intro y hy
  have hm := List.mem_of_mem_head? (by rw [hy]; rfl : y ∈ (expand A ++ T).head?)
  rcases List.mem_append.mp hm with q | q
  · exact fun e => ltS_ne (List.rel_of_pairwise_cons hs (expand_mem q)) e.symm
  · rcases h with ⟨z, e, h⟩ | ⟨e, h⟩
    · rw [e] at q
      rw [List.mem_singleton.mp q]
      exact fun e => ltS_ne (h x (.head _)) e.symm
    · rw [e] at q; cases q
theorem expand_one {A : List (Str × Nat)} (h : ∀ p ∈ A, p.2 = 0) : expand A = keys A := by
  induction A with
  | nil => rfl
  | cons p A ih =>
    obtain ⟨x, m⟩ := p
    have : m = 0 := h _ (.head _)
    subst this
    show List.replicate 1 x ++ expand A = x :: keys A
    rw [ih fun p hp => h p (.tail _ hp)]; rfl
theorem filter_all {α : Type} {l : List α} {p : α → Bool} (h : ∀ x ∈ l, p x = true) : l.filter p = l := List.filter_eq_self.mpr h
theorem notIn_cons_lt {x : Str} {a b : List Str} (h : ∀ y ∈ b, ltS x y = true) : notIn (x :: a) b = x :: notIn a b := by
  unfold notIn
  rw [List.filter_cons, if_pos]
  rw [Bool.not_eq_true']
  cases e : b.contains x with
  | false => rfl
  | true => exact absurd rfl (ltS_ne (h x (by simpa using e)))
theorem notIn_skip {x : Str} {a b : List Str} (h : ∀ y ∈ a, ltS x y = true) : notIn a (x :: b) = notIn a b := by
  unfold notIn
  refine List.filter_congr fun y hy => ?_
  rw [List.contains_cons]
  have : (y == x) = false := beq_eq_false_iff_ne.mpr fun e => ltS_ne (h y hy) e.symm
  rw [this, Bool.false_or]
theorem notIn_cons_in {x : Str} {a b : List Str} : notIn (x :: a) (x :: b) = notIn a (x :: b) := by
  unfold notIn
  rw [List.filter_cons, if_neg]
  simp
theorem sldF_lt (n : Nat) {x y : Str} (xs ys : List Str) (h : ltS x y = true) : sldF (n + 1) (x :: xs) (y :: ys) = (x :: (sldF n (xs.drop (same x xs)) (y :: ys)).1, (sldF n (xs.drop (same x xs)) (y :: ys)).2) := by
  rw [sldF, if_pos h]
theorem sldF_gt (n : Nat) {x y : Str} (xs ys : List Str) (h : ltS y x = true) : sldF (n + 1) (x :: xs) (y :: ys) = ((sldF n (x :: xs) (ys.drop (same y ys))).1, y :: (sldF n (x :: xs) (ys.drop (same y ys))).2) := by
  rw [sldF, if_neg (by rw [ltS_asymm h]; decide), if_pos h]
theorem sldF_eq (n : Nat) {x : Str} (xs ys : List Str) : sldF (n + 1) (x :: xs) (x :: ys) = sldF n (xs.drop (same x xs)) (ys.drop (same x ys)) := by
  rw [sldF, if_neg (by rw [ltS_irrefl]; decide), if_neg (by rw [ltS_irrefl]; decide)]
theorem exp_cons (x : Str) (m : Nat) (A : List (Str × Nat)) (T : List Str) : expand ((x, m) :: A) ++ T = x :: (List.replicate m x ++ (expand A ++ T)) := by
  show List.replicate (m + 1) x ++ expand A ++ T = _
  rw [List.replicate_succ, List.cons_append, List.cons_append, List.append_assoc]
theorem sld_blocks (T : List Str) : ∀ (n : Nat) (A B : List (Str × Nat)), Rise (keys A) → Rise (keys B) → EndOk T A → EndOk T B → A.length + B.length + T.length ≤ n → sldF n (expand A ++ T) (expand B ++ T) = (notIn (keys A) (keys B), notIn (keys B) (keys A)) := by
  have base : ∀ n, sldF (n + T.length) T T = ([], []) ∨ (∀ z, T ≠ [z]) := fun n => by
    match T with
    | [] => exact .inl (sldF_nil (.inl rfl))
    | [z] => exact .inl (by rw [show n + [z].length = n + 1 from rfl, sldF_eq]; exact sldF_nil (.inl rfl))
    | _ :: _ :: _ => exact .inr (fun z => by simp)
  intro n
  induction n with
  | zero =>
    intro A B _ _ hA hB hn
    have e1 : A = [] := List.length_eq_zero_iff.mp (by omega)
    have e2 : B = [] := List.length_eq_zero_iff.mp (by omega)
    have e3 : T = [] := List.length_eq_zero_iff.mp (by omega)
    subst e1; subst e2; subst e3
    rfl
  | succ n ih =>
    intro A B rA rB hA hB hn
    match A, B, rA, rB, hA, hB, hn with
    | [], [], _, _, hA, _, hn =>
      show sldF (n + 1) T T = ([], [])
      rcases hA with ⟨z, e, _⟩ | ⟨e, _⟩
      · rw [e, sldF_eq]; exact sldF_nil (.inl rfl)
      · rw [e]; exact sldF_nil (.inl rfl)
    | (x, m) :: A, [], rA, _, hA, _, hn =>
      have hne := head_ne hA rA
      rcases hA with ⟨z, e, h⟩ | ⟨e, h⟩
      · subst e
        rw [exp_cons]
        show sldF (n + 1) (x :: _) [z] = _
        rw [sldF_lt n _ _ (h x (.head _)), same_skip hne]
        have := ih A [] (List.Pairwise.of_cons rA) .nil (.inl ⟨z, rfl, fun y hy => h y (.tail _ hy)⟩) (.inl ⟨z, rfl, fun y hy => nomatch hy⟩) (by simp only [List.length_cons, List.length_nil] at hn ⊢; omega)
        have this' : sldF n (expand A ++ [z]) [z] = _ := this
        rw [this']
        show (x :: notIn (keys A) [], notIn [] (keys A)) = (notIn (x :: keys A) [], notIn [] (x :: keys A))
        rw [notIn_cons_lt (b := []) (fun y hy => by cases hy)]; rfl
      · subst e
        rw [List.append_nil, List.append_nil, expand_one h]
        show sldF (n + 1) (keys ((x, m) :: A)) [] = _
        rw [sldF_nil (.inr rfl)]
        show (_, _) = (notIn _ [], notIn [] _)
        rw [show notIn (keys ((x, m) :: A)) [] = keys ((x, m) :: A) from filter_all fun y _ => rfl]; rfl
    | [], (y, m) :: B, _, rB, _, hB, hn =>
      have hne := head_ne hB rB
      rcases hB with ⟨z, e, h⟩ | ⟨e, h⟩
      · subst e
        rw [exp_cons]
        show sldF (n + 1) [z] (y :: _) = _
        rw [sldF_gt n _ _ (h y (.head _)), same_skip hne]
        have := ih [] B .nil (List.Pairwise.of_cons rB) (.inl ⟨z, rfl, fun y hy => nomatch hy⟩) (.inl ⟨z, rfl, fun y hy => h y (.tail _ hy)⟩) (by simp only [List.length_cons, List.length_nil] at hn ⊢; omega)
        have this' : sldF n [z] (expand B ++ [z]) = _ := this
        rw [this']
        show (notIn [] (keys B), y :: notIn (keys B) []) = (notIn [] (y :: keys B), notIn (y :: keys B) [])
        rw [notIn_cons_lt (b := []) (fun y hy => by cases hy)]; rfl
      · subst e
        rw [List.append_nil, List.append_nil, expand_one h]
        show sldF (n + 1) [] (keys ((y, m) :: B)) = _
        rw [sldF_nil (.inl rfl)]
        show (_, _) = (notIn [] _, notIn _ [])
        rw [show notIn (keys ((y, m) :: B)) [] = keys ((y, m) :: B) from filter_all fun y _ => rfl]; rfl
    | (x, m) :: A, (y, k) :: B, rA, rB, hA, hB, hn =>
      have nA := head_ne hA rA
      have nB := head_ne hB rB
      have tA := end_tail hA
      have tB := end_tail hB
      have rA' := List.Pairwise.of_cons rA
      have rB' := List.Pairwise.of_cons rB
      have aA : ∀ z ∈ keys A, ltS x z = true := fun z hz => List.rel_of_pairwise_cons rA hz
      have aB : ∀ z ∈ keys B, ltS y z = true := fun z hz => List.rel_of_pairwise_cons rB hz
      simp only [List.length_cons] at hn
      cases c1 : ltS x y with
      | true =>
        rw [exp_cons, exp_cons, sldF_lt n _ _ c1, same_skip nA, ← exp_cons]
        rw [ih A ((y, k) :: B) rA' rB tA hB (by simp only [List.length_cons]; omega)]
        have aBx : ∀ z ∈ y :: keys B, ltS x z = true := fun z hz => by
          rcases List.mem_cons.mp hz with rfl | hz
          · exact c1
          · exact ltS_trans c1 (aB z hz)
        show (x :: notIn (keys A) (y :: keys B), notIn (y :: keys B) (keys A)) = (notIn (x :: keys A) (y :: keys B), notIn (y :: keys B) (x :: keys A))
        rw [notIn_cons_lt aBx, notIn_skip aBx]
      | false =>
        cases c2 : ltS y x with
        | true =>
          rw [exp_cons, exp_cons, sldF_gt n _ _ c2, same_skip nB, ← exp_cons]
          rw [ih ((x, m) :: A) B rA rB' hA tB (by simp only [List.length_cons]; omega)]
          have aAy : ∀ z ∈ x :: keys A, ltS y z = true := fun z hz => by
            rcases List.mem_cons.mp hz with rfl | hz
            · exact c2
            · exact ltS_trans c2 (aA z hz)
          show (notIn (x :: keys A) (keys B), y :: notIn (keys B) (x :: keys A)) = (notIn (x :: keys A) (y :: keys B), notIn (y :: keys B) (x :: keys A))
          rw [notIn_cons_lt aAy, notIn_skip aAy]
        | false =>
          have e := ltS_tri c1 c2
          subst e
          rw [exp_cons, exp_cons, sldF_eq, same_skip nA, same_skip nB]
          rw [ih A B rA' rB' tA tB (by omega)]
          show (notIn (keys A) (keys B), notIn (keys B) (keys A)) = (notIn (x :: keys A) (x :: keys B), notIn (x :: keys B) (x :: keys A))
          rw [notIn_cons_in, notIn_cons_in, notIn_skip aA, notIn_skip aB]
theorem map_getD (xs : List Str) : (List.range xs.length).map (fun k => xs.getD k "") = xs := by
  refine List.ext_getElem (by rw [List.length_map, List.length_range]) fun k h1 h2 => ?_
  rw [List.getElem_map, List.getElem_range, List.getD_eq_getElem?_getD, List.getElem?_eq_getElem h2]; rfl
theorem sld_plain {xs ys : List Str} (hx : Rise xs) (hy : Rise ys) : sldR xs ys = (notIn xs ys, notIn ys xs) := by
  have k : ∀ l : List Str, keys (l.map fun x => (x, 0)) = l := fun l => by
    show (l.map fun x => (x, 0)).map (·.1) = l
    rw [List.map_map]
    exact List.map_id l
  have z : ∀ l : List Str, ∀ p ∈ l.map fun x => (x, 0), p.2 = 0 := fun l p hp => by
    obtain ⟨y, _, rfl⟩ := List.mem_map.mp hp; rfl
  have e : ∀ l : List Str, expand (l.map fun x => (x, 0)) ++ [] = l := fun l => by
    rw [List.append_nil, expand_one (z l), k]
  have := sld_blocks [] (xs.length + ys.length) (xs.map fun x => (x, 0)) (ys.map fun x => (x, 0)) (by rw [k]; exact hx) (by rw [k]; exact hy) (.inr ⟨rfl, z xs⟩) (.inr ⟨rfl, z ys⟩) (by rw [List.length_map, List.length_map]; exact Nat.le_refl _)
  rw [e, e, k, k] at this
  exact this
noncomputable def blocksOf (xs : List Str) : List (Str × Nat) := (List.range xs.length).map fun k => (xs.getD k "", k % 3)
theorem blocks_keys (xs : List Str) : keys (blocksOf xs) = xs := by
  show ((List.range xs.length).map _).map _ = xs
  rw [List.map_map]
  exact map_getD xs
theorem blocks_expand (xs : List Str) : expand (blocksOf xs) ++ [("~" : Str)] = moreOf xs := by
  unfold moreOf blocksOf
  congr 1
  generalize List.range xs.length = l
  induction l with
  | nil => rfl
  | cons k l ih =>
    show List.replicate (k % 3 + 1) _ ++ expand (l.map _) = _
    rw [ih, List.map_cons, List.flatten_cons, Nat.add_comm 1]
theorem sld_more {xs ys : List Str} (hx : Rise xs) (hy : Rise ys) (tx : ∀ x ∈ xs, ltS x "~" = true) (ty : ∀ x ∈ ys, ltS x "~" = true) : sldR (moreOf xs) (moreOf ys) = (notIn xs ys, notIn ys xs) := by
  have := sld_blocks [("~" : Str)] ((moreOf xs).length + (moreOf ys).length) (blocksOf xs) (blocksOf ys) (by rw [blocks_keys]; exact hx) (by rw [blocks_keys]; exact hy) (.inl ⟨_, rfl, by rw [blocks_keys]; exact tx⟩) (.inl ⟨_, rfl, by rw [blocks_keys]; exact ty⟩) (by
    have h : ∀ l : List Str, (blocksOf l).length + 1 ≤ (moreOf l).length := fun l => by
      rw [← blocks_expand, List.length_append, List.length_singleton]
      have : ∀ b : List (Str × Nat), b.length ≤ (expand b).length := by
        intro b
        induction b with
        | nil => exact Nat.le_refl _
        | cons p b ih =>
          obtain ⟨x, m⟩ := p
          show b.length + 1 ≤ (List.replicate (m + 1) x ++ expand b).length
          rw [List.length_append, List.length_replicate]; omega
      have := this (blocksOf l)
      omega
    have h1 := h xs
    have h2 := h ys
    show _ + 1 ≤ _
    omega)
  rw [blocks_expand, blocks_expand, blocks_keys, blocks_keys] at this
  exact this
theorem rise_filter {xs : List Str} (h : Rise xs) (f : Str → Bool) : Rise (xs.filter f) := h.filter f
theorem notIn_filter (xs ys : List Str) (f : Str → Bool) : notIn (xs.filter f) (ys.filter f) = (notIn xs ys).filter f := by
  unfold notIn
  rw [List.filter_filter, List.filter_filter]
  refine List.filter_congr fun x _ => ?_
  cases h : f x with
  | false => simp
  | true =>
    have : (ys.filter f).contains x = ys.contains x := by
      rw [Bool.eq_iff_iff, List.contains_iff_mem, List.contains_iff_mem, List.mem_filter, h]
      simp
    rw [this]
    simp
/-- the law's last word, from what is known of the matching -/
theorem right_of {xs ys : List Str} (hx : Rise xs) (hy : Rise ys) (pat : Str) (h : ∀ w, w ∈ xs ∨ w ∈ ys → takes (rdOf pat) w = fits pat w) : lawRight xs ys (notIn xs ys) (notIn ys xs) pat = true := by
  have e1 : xs.filter (takes (rdOf pat)) = xs.filter (fits pat) := List.filter_congr fun w hw => h w (.inl hw)
  have e2 : ys.filter (takes (rdOf pat)) = ys.filter (fits pat) := List.filter_congr fun w hw => h w (.inr hw)
  unfold lawRight
  rw [e1, e2, sld_plain (rise_filter hx _) (rise_filter hy _), notIn_filter, notIn_filter]
  simp
theorem alone_of {xs ys : List Str} (hx : Rise xs) (hy : Rise ys) (tx : ∀ x ∈ xs, ltS x "~" = true) (ty : ∀ x ∈ ys, ltS x "~" = true) : aloneOk xs ys = true := by
  unfold aloneOk
  rw [sld_plain hx hy, sld_more hx hy tx ty]
  simp
/-! the shelves -/
noncomputable def addS (l : List Str) (p : Str) : List Str := if l.contains p then l else l ++ [p]
theorem shelf_fold (o : Int) : ∀ (nums : List Int) (l : List Str), nums.foldl (shelfStep o) l = (pathsOf nums o).foldl addS l
  | [], l => rfl
  | x :: nums, l => by
    obtain ⟨_, _, g3, _, _⟩ := good x
    rw [List.foldl_cons, shelf_fold o nums]
    unfold pathsOf
    rw [List.filter_cons]
    unfold shelfStep
    rw [g3]
    cases (x.fdiv 3).fmod 3 != o with
    | false => rfl
    | true =>
      rw [if_pos rfl, List.map_cons, List.foldl_cons]
      congr 1
      unfold addS
      cases l.contains (flatS (lawNames x)) <;> rfl
theorem adds_mem : ∀ (ps l : List Str) (x : Str), x ∈ ps.foldl addS l ↔ x ∈ l ∨ x ∈ ps
  | [], l, x => by simp
  | p :: ps, l, x => by
    rw [List.foldl_cons, adds_mem ps, List.mem_cons]
    unfold addS
    split
    · rename_i h
      constructor
      · rintro (q | q)
        · exact .inl q
        · exact .inr (.inr q)
      · rintro (q | rfl | q)
        · exact .inl q
        · exact .inl (by simpa using h)
        · exact .inr q
    · rw [List.mem_append, List.mem_singleton, or_assoc]
theorem adds_nodup : ∀ (ps l : List Str), l.Nodup → (ps.foldl addS l).Nodup
  | [], l, h => h
  | p :: ps, l, h => by
    rw [List.foldl_cons]
    refine adds_nodup ps _ ?_
    unfold addS
    split
    · exact h
    · rename_i q
      rw [List.nodup_append]
      refine ⟨h, by simp, fun a ha b hb => ?_⟩
      rw [List.mem_singleton] at hb
      subst hb
      exact fun e => q (by rw [← e]; simpa using ha)
theorem dedup_snoc (ps : List Str) (p : Str) : dedupR (ps ++ [p]) = if ps.contains p then dedupR ps else dedupR ps ++ [p] := by
  unfold dedupR
  rw [List.length_append, List.length_singleton, List.range_succ, List.filter_append, List.map_append]
  have e0 : ∀ k, k < ps.length → (ps ++ [p]).getD k "" = ps.getD k "" := fun k hk => by
    rw [List.getD_eq_getElem?_getD, List.getD_eq_getElem?_getD, List.getElem?_append_left hk]
  have e1 : (List.range ps.length).filter (fun k => !((ps ++ [p]).take k).contains ((ps ++ [p]).getD k "")) = (List.range ps.length).filter (fun k => !(ps.take k).contains (ps.getD k "")) :=
    List.filter_congr fun k hk => by
      have hk' := List.mem_range.mp hk
      rw [e0 k hk', List.take_append_of_le_length (Nat.le_of_lt hk')]
  have e2 : ∀ l : List Nat, (∀ k ∈ l, k < ps.length) → l.map (fun k => (ps ++ [p]).getD k "") = l.map fun k => ps.getD k "" := fun l hl => List.map_congr_left fun k hk => e0 k (hl k hk)
  rw [e1, e2 _ fun k hk => List.mem_range.mp (List.mem_filter.mp hk).1]
  have e3 : (ps ++ [p]).getD ps.length "" = p := by
    rw [List.getD_eq_getElem?_getD, List.getElem?_append_right (Nat.le_refl _), Nat.sub_self]; rfl
  have e4 : (ps ++ [p]).take ps.length = ps := by rw [List.take_append_of_le_length (Nat.le_refl _), List.take_length]
  rw [List.filter_cons, e3, e4]
  cases ps.contains p with
  | true => simp
  | false => simp
theorem dedup_adds (ps : List Str) : ps.foldl addS [] = dedupR ps := by
  have key : ∀ (n : Nat) (ps : List Str), ps.length = n → ps.foldl addS [] = dedupR ps := by
    intro n
    induction n with
    | zero =>
      intro ps h
      have := List.length_eq_zero_iff.mp h
      subst this; rfl
    | succ n ih =>
      intro ps h
      have hne : ps ≠ [] := fun e => by rw [e] at h; cases h
      have e := List.dropLast_concat_getLast hne
      have ih' := ih ps.dropLast (by rw [List.length_dropLast, h]; rfl)
      generalize ps.dropLast = qs at *
      generalize ps.getLast hne = p at *
      subst e
      rw [List.foldl_append, List.foldl_cons, List.foldl_nil, dedup_snoc, ← ih']
      have : (qs.foldl addS []).contains p = qs.contains p := by
        rw [Bool.eq_iff_iff, List.contains_iff_mem, List.contains_iff_mem, adds_mem]; simp
      rw [addS, this]
  exact key _ ps rfl
theorem shelf_eq (nums : List Int) (o : Int) : lawShelf nums o = sortS (dedupR (pathsOf nums o)) := by
  unfold lawShelf
  rw [shelf_fold, dedup_adds]
theorem shelf_rise (nums : List Int) (o : Int) : Rise (lawShelf nums o) := by
  rw [shelf_eq, ← dedup_adds]
  exact sort_rise (adds_nodup _ _ List.nodup_nil)
theorem shelf_mem {nums : List Int} {o : Int} {w : Str} (h : w ∈ lawShelf nums o) : ∃ x, w = flatS (lawNames x) := by
  rw [shelf_eq, sort_mem, ← dedup_adds, adds_mem] at h
  rcases h with h | h
  · cases h
  · obtain ⟨x, _, rfl⟩ := List.mem_map.mp h
    exact ⟨x, rfl⟩
theorem flat_lt (ns : List Str) : ltS (flatS ns) "~" = true := by
  unfold ltS flatS
  refine decide_eq_true ?_
  have e : ("/" ++ Txt.join "/" ns : Str).cps.toList = 47 :: (Txt.join "/" ns).cps.toList := by
    show (("/" : Str).cps ++ (Txt.join "/" ns).cps).toList = _
    rw [Array.toList_append]; rfl
  have e2 : ("~" : Str).cps.toList = [126] := by decide +kernel
  rw [e, e2]
  exact List.Lex.rel (by decide)
theorem shelf_okL (nums : List Int) (o : Int) (hn : nums.length ≤ 1000) : okL (lawShelf nums o) := by
  refine ⟨fun w hw => ?_, ?_⟩
  · obtain ⟨x, rfl⟩ := shelf_mem hw
    obtain ⟨_, g2, _, g4, _⟩ := good x
    exact ⟨g2, Nat.le_trans g4 (by decide)⟩
  · rw [shelf_eq, sort_len]
    unfold dedupR
    rw [List.length_map]
    refine Nat.le_trans (List.length_filter_le _ _) ?_
    rw [List.length_range]
    unfold pathsOf
    rw [List.length_map]
    exact Nat.le_trans (List.length_filter_le _ _) (by omega)
end Rt

/-! W2 -/
namespace Rt
noncomputable def chN (c : Nat) : Str := if c = 63 then "" else ⟨#[c]⟩
theorem one_inj (x y : Nat) : ((⟨#[x]⟩ : Str) = ⟨#[y]⟩) ↔ x = y := by
  constructor
  · intro e
    have := congrArg (fun s : Str => s.cps.toList) e
    simpa using this
  · rintro rfl; rfl
theorem stands_nil (w : Str) (p : Nat) : stands [] w p = decide (p ≤ w.length) := by
  unfold stands
  simp
noncomputable def oneAt (w : Str) (c p : Nat) : Bool := decide (p < w.length) && (c == 63 || cpAt w p == some c)
theorem unit_eq (w : Str) (c p : Nat) (hp : p < w.length) : (some (chN c) == some ("" : Str) || some (chN c) == signAt w p) = (c == 63 || cpAt w p == some c) := by
  have hp' : p < w.cps.toList.length := by rw [len_list]; exact hp
  unfold chN signAt cpAt
  rw [List.getElem?_eq_getElem hp']
  generalize w.cps.toList[p] = d
  by_cases h : c = 63
  · subst h; rfl
  · rw [if_neg h]
    have h1 : (c == 63) = false := beq_eq_false_iff_ne.mpr h
    have h2 : (some (⟨#[c]⟩ : Str) == some ("" : Str)) = false := by
      rw [beq_eq_false_iff_ne]
      intro e
      have := congrArg (fun s : Option Str => s.map (·.length)) e
      have h3 : ("" : Str).length = 0 := by decide +kernel
      simp only [Option.map_some, h3] at this
      cases this
    rw [h1, h2, Bool.false_or, Bool.false_or]
    show (some (⟨#[c]⟩ : Str) == some (⟨#[d]⟩ : Str)) = (some d == some c)
    rw [Bool.eq_iff_iff, beq_iff_eq, beq_iff_eq, Option.some.injEq, Option.some.injEq, one_inj]
    exact eq_comm
theorem stands_cons (r : List Str) (w : Str) (c p : Nat) : stands (chN c :: r) w p = (oneAt w c p && stands r w (p + 1)) := by
  rw [Bool.eq_iff_iff]
  have key : ∀ (rs : List Str) (p : Nat), stands rs w p = true ↔ p + rs.length ≤ w.length ∧ ∀ k, k < rs.length → (rs[k]? == some ("" : Str) || rs[k]? == signAt w (p + k)) = true := fun rs p => by
    unfold stands
    rw [Bool.and_eq_true, decide_eq_true_eq, List.isEmpty_iff, List.filter_eq_nil_iff]
    constructor
    · rintro ⟨h1, h2⟩
      refine ⟨h1, fun k hk => ?_⟩
      have := h2 k (List.mem_range.mpr hk)
      simpa [Decidable.imp_iff_not_or] using this
    · rintro ⟨h1, h2⟩
      refine ⟨h1, fun k hk => ?_⟩
      rw [h2 k (List.mem_range.mp hk)]; decide
  rw [Bool.and_eq_true, key, key]
  unfold oneAt
  rw [Bool.and_eq_true, decide_eq_true_eq, List.length_cons]
  constructor
  · rintro ⟨h1, h2⟩
    have hp : p < w.length := by omega
    refine ⟨⟨hp, ?_⟩, by omega, fun k hk => ?_⟩
    · have := h2 0 (by omega)
      rw [← unit_eq w c p hp]
      exact this
    · have := h2 (k + 1) (by omega)
      rw [show p + 1 + k = p + (k + 1) from by omega]
      exact this
  · rintro ⟨⟨hp, h1⟩, h2, h3⟩
    refine ⟨by omega, fun k hk => ?_⟩
    cases k with
    | zero =>
      show (some (chN c) == _ || some (chN c) == signAt w (p + 0)) = true
      rw [Nat.add_zero, unit_eq w c p hp]; exact h1
    | succ k =>
      have := h3 k (by omega)
      rw [show p + 1 + k = p + (k + 1) from by omega] at this
      exact this
theorem step_fix (w : Str) (P : List Nat) {c : Nat} (h : c ≠ 42) : fitStep w P c = (P.filter (oneAt w c)).map (· + 1) := by
  unfold fitStep
  rw [if_neg h]; rfl
theorem fold_fix (w : Str) : ∀ (r : List Nat) (P : List Nat), (∀ c ∈ r, c ≠ 42) → (∀ k ∈ P, k ≤ w.length) → r.foldl (fitStep w) P = (P.filter (stands (r.map chN) w)).map (· + r.length)
  | [], P, _, hP => by
    have : P.filter (stands ([].map chN) w) = P := filter_all fun k hk => by
      show stands [] w k = true
      rw [stands_nil]; exact decide_eq_true (hP k hk)
    rw [this]
    show P = P.map (· + 0)
    exact (List.map_id P).symm
  | c :: r, P, h, hP => by
    have hP' : ∀ k ∈ (P.filter (oneAt w c)).map (· + 1), k ≤ w.length := fun k hk => by
      obtain ⟨j, hj, rfl⟩ := List.mem_map.mp hk
      have := (List.mem_filter.mp hj).2
      unfold oneAt at this
      rw [Bool.and_eq_true, decide_eq_true_eq] at this
      exact this.1
    rw [List.foldl_cons, step_fix w P (h c (.head _)), fold_fix w r _ (fun d hd => h d (.tail _ hd)) hP', List.filter_map, List.map_map, List.filter_filter]
    have e1 : (fun k => (stands (r.map chN) w ∘ (· + 1)) k && oneAt w c k) = stands ((c :: r).map chN) w := by
      funext k
      show (stands (r.map chN) w (k + 1) && oneAt w c k) = stands (chN c :: r.map chN) w k
      rw [stands_cons, Bool.and_comm]
    rw [e1]
    refine List.map_congr_left fun k _ => ?_
    show k + 1 + r.length = k + (r.length + 1)
    omega
theorem fold_nil (w : Str) : ∀ r : List Nat, r.foldl (fitStep w) [] = []
  | [] => rfl
  | c :: r => by
    have e : fitStep w [] c = [] := by
      unfold fitStep
      split <;> rfl
    rw [List.foldl_cons, e, fold_nil w r]
noncomputable def upTo (w : Str) (p : Nat) : List Nat := (List.range (w.length + 1 - p)).map (p + ·)
theorem star_cons (w : Str) (p : Nat) (P : List Nat) : fitStep w (p :: P) 42 = upTo w p := rfl
theorem up_head (w : Str) (p : Nat) (h : p ≤ w.length) : ∃ r, upTo w p = p :: r := by
  unfold upTo
  rw [show w.length + 1 - p = (w.length - p) + 1 from by omega, List.range_succ_eq_map, List.map_cons]
  exact ⟨_, rfl⟩
theorem star_idem (w : Str) (P : List Nat) (h : ∀ k ∈ P, k ≤ w.length) : fitStep w (fitStep w P 42) 42 = fitStep w P 42 := by
  cases P with
  | nil => rfl
  | cons p P =>
    obtain ⟨r, e⟩ := up_head w p (h p (.head _))
    rw [star_cons, e, star_cons, e]
theorem up_le (w : Str) (p : Nat) : ∀ k ∈ upTo w p, k ≤ w.length := fun k hk => by
  obtain ⟨i, hi, rfl⟩ := List.mem_map.mp hk
  have := List.mem_range.mp hi
  omega
/-- a star and a run behind it -/
noncomputable def starRun (w : Str) (P : List Nat) (g : List Nat) : List Nat := g.foldl (fitStep w) (fitStep w P 42)
theorem starRun_cons (w : Str) (p : Nat) (P g : List Nat) (hg : ∀ c ∈ g, c ≠ 42) : starRun w (p :: P) g = (firstsAt (g.map chN) w p).map fun i => p + i + g.length := by
  unfold starRun
  rw [star_cons, fold_fix w g _ hg (up_le w p)]
  unfold upTo firstsAt
  rw [List.filter_map, List.map_map]; rfl
theorem runs_nil (w : Str) (gs : List (List Nat)) : gs.foldl (starRun w) [] = [] := by
  induction gs with
  | nil => rfl
  | cons g gs ih =>
    have : starRun w [] g = [] := fold_nil w g
    rw [List.foldl_cons, this, ih]
theorem go_runs (w : Str) : ∀ (gs : List (List Nat)) (l : List Nat) (p : Nat) (P : List Nat), p ≤ w.length → (∀ g ∈ gs, ∀ c ∈ g, c ≠ 42) → (∀ c ∈ l, c ≠ 42) →
    ((gs ++ [l]).foldl (starRun w) (p :: P)).contains w.length = (match takesGo w (gs.map (List.map chN)) p with
      | none => false
      | some q => decide (q + (l.map chN).length ≤ w.length) && stands (l.map chN) w (w.length - (l.map chN).length))
  | [], l, p, P, hp, _, hl => by
    show (starRun w (p :: P) l).contains w.length = (decide (p + (l.map chN).length ≤ w.length) && stands (l.map chN) w (w.length - (l.map chN).length))
    rw [starRun_cons w p P l hl, Bool.eq_iff_iff, List.contains_iff_mem, List.mem_map, Bool.and_eq_true, decide_eq_true_eq, List.length_map]
    constructor
    · rintro ⟨i, hi, e⟩
      have h2 := (List.mem_filter.mp hi).2
      refine ⟨by omega, ?_⟩
      rw [show w.length - l.length = p + i from by omega]
      exact h2
    · rintro ⟨h1, h2⟩
      refine ⟨w.length - l.length - p, List.mem_filter.mpr ⟨List.mem_range.mpr (by omega), ?_⟩, by omega⟩
      rw [show p + (w.length - l.length - p) = w.length - l.length from by omega]
      exact h2
  | g :: gs, l, p, P, hp, hg, hl => by
    rw [List.cons_append, List.foldl_cons, starRun_cons w p P g (hg g (.head _))]
    show _ = (match takesGo w (g.map chN :: gs.map (List.map chN)) p with | none => _ | some q => _)
    unfold takesGo
    cases h : firstsAt (g.map chN) w p with
    | nil =>
      dsimp only
      rw [List.map_nil, runs_nil]; rfl
    | cons i is =>
      dsimp only
      rw [List.map_cons]
      have hlt := firsts_lt h
      rw [List.length_map] at hlt
      rw [go_runs w gs l (p + i + g.length) _ hlt (fun g' hg' => hg g' (.tail _ hg')) hl, List.length_map, List.length_map]
/-- a pattern: a run, and stars with runs -/
noncomputable def patN (f0 : List Nat) (gs : List (List Nat)) : List Nat := f0 ++ gs.flatMap (42 :: ·)
noncomputable def readN (f0 : List Nat) (gs : List (List Nat)) : List (List Str) × Str := (f0.map chN :: gs.map (List.map chN), if gs = [] then "front" else "last")
theorem fold_pat (w : Str) (f0 : List Nat) (gs : List (List Nat)) (P : List Nat) : (patN f0 gs).foldl (fitStep w) P = gs.foldl (starRun w) (f0.foldl (fitStep w) P) := by
  unfold patN
  rw [List.foldl_append]
  generalize f0.foldl (fitStep w) P = Q
  induction gs generalizing Q with
  | nil => rfl
  | cons g gs ih =>
    rw [List.flatMap_cons, List.foldl_append, ih]; rfl
theorem takes_pat (w : Str) (f0 : List Nat) (gs : List (List Nat)) (h0 : ∀ c ∈ f0, c ≠ 42) (hg : ∀ g ∈ gs, ∀ c ∈ g, c ≠ 42) : takes (some (readN f0 gs)) w = ((patN f0 gs).foldl (fitStep w) [0]).contains w.length := by
  rw [fold_pat, fold_fix w f0 [0] h0 (fun k hk => by rw [List.mem_singleton.mp hk]; exact Nat.zero_le _)]
  unfold readN takes
  dsimp only
  rw [List.filter_cons, List.filter_nil]
  cases hs : stands (f0.map chN) w 0 with
  | false =>
    rw [Bool.false_and, if_neg (by decide), List.map_nil, runs_nil]; rfl
  | true =>
    rw [Bool.true_and, if_pos rfl, List.map_cons, List.map_nil]
    have hle : f0.length ≤ w.length := by
      unfold stands at hs
      rw [Bool.and_eq_true, decide_eq_true_eq, List.length_map] at hs
      omega
    by_cases hgs : gs = []
    · subst hgs
      show (if (("front" : Str) == "front") = true then (f0.map chN).length == w.length else _) = ([0 + f0.length] : List Nat).contains w.length
      rw [if_pos (beq_self_eq_true _), List.length_map, Nat.zero_add, List.contains_cons, List.contains_nil, Bool.or_false, Bool.eq_iff_iff, beq_iff_eq, beq_iff_eq]
      exact eq_comm
    · rw [if_neg hgs]
      have e := List.dropLast_concat_getLast hgs
      generalize gs.getLast hgs = l at e
      generalize gs.dropLast = g0 at e
      subst e
      have e1 : ((f0.map chN :: (g0 ++ [l]).map (List.map chN)).drop 1).take ((f0.map chN :: (g0 ++ [l]).map (List.map chN)).length - 2) = g0.map (List.map chN) := by
        rw [List.drop_one, List.tail_cons, List.length_cons, List.map_append, List.length_append, List.length_map, List.take_append_of_le_length (by rw [List.length_map]; simp)]
        rw [List.take_of_length_le (by rw [List.length_map]; simp)]
      have e2 : (f0.map chN :: (g0 ++ [l]).map (List.map chN)).getLastD [] = l.map chN := by
        rw [List.map_append]
        show ((f0.map chN :: g0.map (List.map chN)) ++ [l.map chN]).getLastD [] = _
        rw [List.getLastD_concat]
      rw [e1, e2, Nat.zero_add, go_runs w g0 l f0.length [] hle (fun g hg' => hg g (List.mem_append.mpr (.inl hg'))) (hg l (List.mem_append.mpr (.inr (.head _)))), List.length_map]
      cases takesGo w (g0.map (List.map chN)) f0.length with
      | none => rfl
      | some q =>
        dsimp only
        rw [if_neg (by decide +kernel), List.length_map]
end Rt

/-! W3 -/
namespace Rt
open Builtin Builtin.Str in
theorem idx_clip (i j : Int) (n : Nat) (hi : 0 ≤ i) (hj : 0 ≤ j) : strSliceIndices (some i) (some j) 1 n = strSliceIndices (some (min i n)) (some (min j n)) 1 n := by
  have a : ¬ (i < 0) := by omega
  have b : ¬ (j < 0) := by omega
  have a' : ¬ (min i (n : Int) < 0) := by omega
  have b' : ¬ (min j (n : Int) < 0) := by omega
  unfold strSliceIndices
  simp only [a, b, a', b', if_false]
  have e1 : min (min i (n : Int)) n = min i n := by omega
  have e2 : min (min j (n : Int)) n = min j n := by omega
  rw [e1, e2]
  simp only [show (1 : Int) > 0 from by decide, if_true]
open Builtin Builtin.Str in
theorem sl_nat (x : Str) (a b : Nat) (hab : a ≤ b) : (Txt.slice x (some (a : Int)) (some (b : Int))).cps.toList = (x.cps.toList.drop a).take (b - a) := by
  have e0 : Txt.slice x (some (a : Int)) (some (b : Int)) = Txt.slice x (some ((min a x.length : Nat) : Int)) (some ((min b x.length : Nat) : Int)) := by
    unfold Txt.slice
    rw [idx_clip a b x.length (by omega) (by omega)]
    have e1 : min (a : Int) (x.length : Int) = ((min a x.length : Nat) : Int) := by omega
    have e2 : min (b : Int) (x.length : Int) = ((min b x.length : Nat) : Int) := by omega
    rw [e1, e2]
  rw [e0]
  have := StrLaws.sliceText_nat x (a := min a x.length) (b := min b x.length) (by omega) (by omega)
  rw [show Txt.slice x (some ((min a x.length : Nat) : Int)) (some ((min b x.length : Nat) : Int)) = StrLaws.sliceText x (some ((min a x.length : Nat) : Int)) (some ((min b x.length : Nat) : Int)) from rfl, this]
  have hl : x.length = x.cps.toList.length := (len_list x).symm
  show (x.cps.toList.drop (min a x.length)).take (min b x.length - min a x.length) = _
  rw [hl]
  generalize x.cps.toList = l
  by_cases h : a ≤ l.length
  · rw [Nat.min_eq_left h]
    by_cases h2 : b ≤ l.length
    · rw [Nat.min_eq_left h2]
    · rw [List.take_of_length_le (by rw [List.length_drop]; omega), List.take_of_length_le (by rw [List.length_drop]; omega)]
  · rw [List.drop_eq_nil_of_le (by omega), List.drop_eq_nil_of_le (by omega), List.take_nil, List.take_nil]
open Builtin Builtin.Str in
theorem sl_inner (x : Str) (h : 7 ≤ x.length) : (Txt.slice x (some 4) (some (-3))).cps.toList = (x.cps.toList.drop 4).take (x.length - 7) := by
  have e0 : Txt.slice x (some 4) (some (-3)) = Txt.slice x (some ((4 : Nat) : Int)) (some ((x.length - 3 : Nat) : Int)) := by
    unfold Txt.slice
    have e : strSliceIndices (some 4) (some (-3)) 1 x.length = strSliceIndices (some ((4 : Nat) : Int)) (some ((x.length - 3 : Nat) : Int)) 1 x.length := by
      unfold strSliceIndices
      have a : (-3 : Int) < 0 := by decide
      have b : ¬ (((x.length - 3 : Nat) : Int) < 0) := by omega
      simp only [a, b, if_true, if_false]
      have e3 : (-3 : Int) + (x.length : Int) = ((x.length - 3 : Nat) : Int) := by omega
      rw [e3]; rfl
    rw [e]
  rw [e0, sl_nat x 4 (x.length - 3) (by omega)]
  congr 1
noncomputable def lst (s : Str) : List Nat := s.cps.toList
theorem lst_inj {a b : Str} : lst a = lst b ↔ a = b := by
  constructor
  · intro h
    obtain ⟨⟨x⟩⟩ := a; obtain ⟨⟨y⟩⟩ := b
    have e : x = y := h
    rw [e]
  · rintro rfl; rfl
theorem lst_app (a b : Str) : lst (a ++ b) = lst a ++ lst b := by
  show (a.cps ++ b.cps).toList = _
  rw [Array.toList_append]; rfl
theorem lst_len (a : Str) : (lst a).length = a.length := len_list a
theorem lst_cat : ∀ l : List Str, lst (cat l) = (l.map lst).flatten := by
  have key : ∀ l : List Str, lst (Str.join "" l) = (l.map lst).flatten := by
    intro l
    induction l with
    | nil => rfl
    | cons x l ih =>
      cases l with
      | nil =>
        show lst x = lst x ++ []
        rw [List.append_nil]
      | cons y l =>
        show lst (x ++ "" ++ Str.join "" (y :: l)) = _
        rw [lst_app, lst_app, ih]
        show lst x ++ [] ++ _ = lst x ++ _
        rw [List.append_nil]
  intro l
  show lst (Builtin.Str.glued "" l) = _
  rw [StrLaws.glued_eq_join]
  exact key l
theorem beq_lst (a b : Str) : (a == b) = (lst a == lst b) := by
  rw [Bool.eq_iff_iff, beq_iff_eq, beq_iff_eq, lst_inj]
end Rt

/-! W4 -/
namespace Rt
noncomputable def uL (c : Nat) : List Nat := if c = 63 then [46] else if isSp c then [92, c] else [c]
noncomputable def ok6 (c : Nat) : Prop := c = 63 ∨ c = 97 ∨ c = 98 ∨ c = 47 ∨ c = 46 ∨ c = 43
noncomputable abbrev nh (T : List Nat) : Prop := T.head? ≠ some 42
section
variable {w : Str} {k : Nat} {st : Str}
theorem drop_lt {c : Nat} {T : List Nat} (h : (lst w).drop k = c :: T) : k < w.length := by
  have := congrArg List.length h
  rw [List.length_drop, List.length_cons, lst_len] at this
  omega
theorem idx_of {c : Nat} {T : List Nat} (h : (lst w).drop k = c :: T) : idxC w k = ⟨#[c]⟩ := by
  rw [idxC_sgn]
  unfold sgnAt
  have : (lst w)[k]? = some c := by rw [← List.head?_drop, h]; rfl
  rw [show w.cps.toList[k]? = some c from this]; rfl
theorem beh_of {c : Nat} {T : List Nat} (h : (lst w).drop k = c :: T) : lst (beh w k) = T.take 1 := by
  have e := sl_nat w (k + 1) (k + 2) (by omega)
  rw [show k + 2 - (k + 1) = 1 from by omega] at e
  have e2 : (lst w).drop (k + 1) = T := by rw [← List.tail_drop, h]; rfl
  show (Txt.slice w (some ((k : Int) + 1)) (some ((k : Int) + 2))).cps.toList = _
  rw [← e2]
  exact e
theorem grp_of {T : List Nat} (h : (lst w).drop k = T) : (Txt.slice w (some (k : Int)) (some ((k : Int) + 6)) == ("(?>.*?" : Str)) = (T.take 6 == [40, 63, 62, 46, 42, 63]) := by
  rw [beq_lst]
  have e := sl_nat w k (k + 6) (by omega)
  rw [show k + 6 - k = 6 from by omega] at e
  have e1 : lst (Txt.slice w (some (k : Int)) (some ((k : Int) + 6))) = T.take 6 := by rw [← h]; exact e
  have e2 : lst ("(?>.*?" : Str) = [40, 63, 62, 46, 42, 63] := by decide +kernel
  rw [e1, e2]
theorem grp_no {c : Nat} {T : List Nat} (h : (lst w).drop k = c :: T) (hc : c ≠ 40) : (Txt.slice w (some (k : Int)) (some ((k : Int) + 6)) == ("(?>.*?" : Str)) = false := by
  rw [grp_of h]
  show (c :: T.take 5 == [40, 63, 62, 46, 42, 63]) = false
  rw [beq_eq_false_iff_ne]
  intro e
  injection e with e1 e2
  exact hc e1
theorem l_close : (")" : Str) = ⟨#[41]⟩ := by decide +kernel
theorem l_dot : ("." : Str) = ⟨#[46]⟩ := by decide +kernel
theorem l_bs : ("\\" : Str) = ⟨#[92]⟩ := by decide +kernel
theorem l_ds : lst (".*" : Str) = [46, 42] := by decide +kernel
theorem ds_no {c : Nat} {T : List Nat} (h : (lst w).drop k = c :: T) (hc : c ≠ 46 ∨ nh T) : (idxC w k ++ beh w k == (".*" : Str)) = false := by
  rw [beq_lst, lst_app, beh_of h, idx_of h, l_ds, beq_eq_false_iff_ne]
  intro e
  have e' : c :: T.take 1 = [46, 42] := e
  injection e' with e1 e2
  rcases hc with q | q
  · exact q e1
  · refine q ?_
    cases T with
    | nil => cases e2
    | cons d T => injection e2 with e3; rw [e3]; rfl
theorem one_ne {x y : Nat} (h : x ≠ y) : ((⟨#[x]⟩ : Str) == ⟨#[y]⟩) = false := by rw [one_eq]; exact decide_eq_false h
theorem step_unit {c : Nat} {T : List Nat} (hc : ok6 c) (h : (lst w).drop k = uL c ++ T) (hT : nh T) (hst : st = "front" ∨ st = "group" ∨ st = "last") : runsStep w k st = .add (k + (uL c).length) (chN c) := by
  have hcl : (st == ("closed" : Str)) = false := by rcases hst with rfl | rfl | rfl <;> decide +kernel
  have plain : ∀ (d : Nat) (T : List Nat), (lst w).drop k = d :: T → d ≠ 40 → d ≠ 41 → (d ≠ 46 ∨ nh T) → inS spec12 ⟨#[d]⟩ = false → d ≠ 92 → runsStep w k st = .add (k + 1) (if (⟨#[d]⟩ : Str) = "." then "" else ⟨#[d]⟩) := fun d T h h1 h2 h3 h4 h5 => by
    unfold runsStep
    rw [grp_no h h1, ds_no h h3, idx_of h, l_close, one_ne h2, h4, l_bs, one_ne h5, hcl]
    simp only [Bool.false_and, Bool.or_false, Bool.false_eq_true, if_false, cond_false]
    rw [if_neg (fun e => h5 ((one_inj d 92).mp e))]
  have esc : ∀ (d : Nat) (T : List Nat), (lst w).drop k = 92 :: d :: T → Txt.isalnum ⟨#[d]⟩ = false → runsStep w k st = .add (k + 2) ⟨#[d]⟩ := fun d T h h1 => by
    have hb : beh w k = ⟨#[d]⟩ := lst_inj.mp (by rw [beh_of h]; rfl)
    have he : ((⟨#[d]⟩ : Str) == ("" : Str)) = false := by
      rw [beq_lst, beq_eq_false_iff_ne]
      intro e
      have e' : [d] = [] := e
      cases e'
    have h4 : inS spec12 ⟨#[92]⟩ = false := by decide +kernel
    unfold runsStep
    rw [grp_no h (by decide), ds_no h (.inl (by decide)), idx_of h, l_close, one_ne (by decide : (92 : Nat) ≠ 41), h4, l_bs, hb, he, h1, hcl]
    simp only [Bool.false_and, Bool.or_false, Bool.and_false, Bool.false_eq_true, if_false, beq_self_eq_true, cond_true, if_true]
  rcases hc with rfl | rfl | rfl | rfl | rfl | rfl
  · have := plain 46 T h (by decide) (by decide) (.inr hT) (by decide +kernel) (by decide)
    rw [this, l_dot, if_pos rfl]; rfl
  · have := plain 97 T h (by decide) (by decide) (.inl (by decide)) (by decide +kernel) (by decide)
    rw [this, l_dot, if_neg (fun e => absurd ((one_inj _ _).mp e) (by decide))]; rfl
  · have := plain 98 T h (by decide) (by decide) (.inl (by decide)) (by decide +kernel) (by decide)
    rw [this, l_dot, if_neg (fun e => absurd ((one_inj _ _).mp e) (by decide))]; rfl
  · have := plain 47 T h (by decide) (by decide) (.inl (by decide)) (by decide +kernel) (by decide)
    rw [this, l_dot, if_neg (fun e => absurd ((one_inj _ _).mp e) (by decide))]; rfl
  · exact esc 46 T h (by decide +kernel)
  · exact esc 43 T h (by decide +kernel)
theorem fc_of (hst : st = "front" ∨ st = "closed") : isFC st = true := by rcases hst with rfl | rfl <;> decide +kernel
theorem step_group {T : List Nat} (h : (lst w).drop k = [40, 63, 62, 46, 42, 63] ++ T) (hst : st = "front" ∨ st = "closed") : runsStep w k st = .app (k + 6) "group" := by
  have e : (Txt.slice w (some (k : Int)) (some ((k : Int) + 6)) == ("(?>.*?" : Str)) = true := by
    rw [grp_of h]; rfl
  unfold runsStep
  rw [e, fc_of hst]; rfl
theorem step_shut {T : List Nat} (h : (lst w).drop k = 41 :: T) : runsStep w k "group" = .shut (k + 1) := by
  unfold runsStep
  rw [grp_no h (by decide), idx_of h, l_close]
  simp only [Bool.false_and, Bool.false_eq_true, if_false, beq_self_eq_true, Bool.and_self, if_true]
theorem step_last {T : List Nat} (h : (lst w).drop k = 46 :: 42 :: T) (hst : st = "front" ∨ st = "closed") : runsStep w k st = .app (k + 2) "last" := by
  have e : (idxC w k ++ beh w k == (".*" : Str)) = true := by
    rw [beq_lst, lst_app, beh_of h, idx_of h, l_ds]; rfl
  unfold runsStep
  rw [e, grp_no h (by decide), idx_of h, l_close, one_ne (by decide : (46 : Nat) ≠ 41), fc_of hst]; rfl
theorem uL_head {c : Nat} (hc : ok6 c) (T : List Nat) : nh (uL c ++ T) := by
  rcases hc with rfl | rfl | rfl | rfl | rfl | rfl <;> exact fun e => absurd (Option.some.inj e) (by decide)
theorem us_head : ∀ {us : List Nat} (h : ∀ c ∈ us, ok6 c) {T : List Nat} (hT : nh T), nh (us.flatMap uL ++ T)
  | [], _, T, hT => hT
  | c :: us, h, T, hT => by
    rw [List.flatMap_cons, List.append_assoc]
    exact uL_head (h c (.head _)) _
theorem drop_add {a T : List Nat} (h : (lst w).drop k = a ++ T) : (lst w).drop (k + a.length) = T := by
  rw [← List.drop_drop, h, List.drop_append_of_le_length (Nat.le_refl _), List.drop_eq_nil_of_le (Nat.le_refl _), List.nil_append]
theorem uL_pos (c : Nat) : 1 ≤ (uL c).length := by
  unfold uL
  split
  · exact Nat.le_refl _
  · split <;> simp
theorem go_units (f : Nat) (hst : st = "front" ∨ st = "group" ∨ st = "last") (done : List (List Str)) : ∀ (us : List Nat) (k : Nat) (cur : List Str) (T : List Nat), (∀ c ∈ us, ok6 c) → (lst w).drop k = us.flatMap uL ++ T → nh T →
    runsGo w (us.length + f) k st done cur = runsGo w f (k + (us.flatMap uL).length) st done (cur ++ us.map chN)
  | [], k, cur, T, _, _, _ => by
    show runsGo w (0 + f) k st done cur = runsGo w f (k + 0) st done (cur ++ [])
    rw [Nat.zero_add, List.append_nil]; rfl
  | c :: us, k, cur, T, hu, h, hT => by
    rw [List.flatMap_cons, List.append_assoc] at h
    have hk : k < w.length := by
      have := congrArg List.length h
      have := uL_pos c
      rw [List.length_drop, List.length_append, lst_len] at *
      omega
    have hs := step_unit (hu c (.head _)) h (us_head (fun d hd => hu d (.tail _ hd)) hT) hst
    rw [show (c :: us).length + f = (us.length + f) + 1 from by rw [List.length_cons]; omega, runsGo, if_pos hk, hs]
    dsimp only
    rw [go_units f hst done us _ _ T (fun d hd => hu d (.tail _ hd)) (drop_add h) hT, List.flatMap_cons, List.length_append, List.map_cons, List.append_assoc, ← Nat.add_assoc]; rfl
end
noncomputable def textN : List (List Nat) → List Nat
  | [] => []
  | [g] => [46, 42] ++ g.flatMap uL
  | g :: gs => [40, 63, 62, 46, 42, 63] ++ (g.flatMap uL ++ (41 :: textN gs))
theorem units_le : ∀ us : List Nat, us.length ≤ (us.flatMap uL).length
  | [] => Nat.le_refl _
  | c :: us => by
    have := units_le us
    have := uL_pos c
    rw [List.flatMap_cons, List.length_append, List.length_cons]; omega
theorem go_end {w : Str} {k : Nat} {st : Str} {done : List (List Str)} {cur : List Str} (f : Nat) (h : (lst w).drop k = []) : runsGo w f k st done cur = some (done ++ [cur], st) := by
  have hk : ¬ k < w.length := by
    have := congrArg List.length h
    rw [List.length_drop, List.length_nil, lst_len] at this
    omega
  cases f with
  | zero => rfl
  | succ f => rw [runsGo, if_neg hk]
theorem go_stars {w : Str} : ∀ (gs : List (List Nat)) (f k : Nat) (st : Str) (done : List (List Str)) (cur : List Str), (∀ g ∈ gs, ∀ c ∈ g, ok6 c) → (st = "front" ∨ st = "closed") → (lst w).drop k = textN gs → (textN gs).length ≤ f →
    runsGo w f k st done cur = some (done ++ [cur] ++ gs.map (List.map chN), if gs = [] then st else "last")
  | [], f, k, st, done, cur, _, _, h, _ => by
    rw [go_end f h, if_pos rfl, List.map_nil, List.append_nil]
  | [g], f, k, st, done, cur, hu, hst, h, hf => by
    have h' : (lst w).drop k = 46 :: 42 :: g.flatMap uL := h
    have hlen : (textN [g]).length = 2 + (g.flatMap uL).length := by show ([46, 42] ++ g.flatMap uL).length = _; rw [List.length_append]; rfl
    have hle := units_le g
    obtain ⟨f, rfl⟩ : ∃ f', f = g.length + f' + 1 := ⟨f - g.length - 1, by omega⟩
    rw [runsGo, if_pos (drop_lt h'), step_last h' hst]
    dsimp only
    have h2 : (lst w).drop (k + 2) = g.flatMap uL ++ [] := by
      rw [List.append_nil]
      exact drop_add (a := [46, 42]) h'
    rw [go_units f (.inr (.inr rfl)) _ g (k + 2) [] [] (hu g (.head _)) h2 (fun e => nomatch e), List.nil_append, go_end f (drop_add h2), if_neg (fun e => nomatch e), List.map_cons, List.map_nil]
  | g :: g' :: gs, f, k, st, done, cur, hu, hst, h, hf => by
    have h' : (lst w).drop k = [40, 63, 62, 46, 42, 63] ++ (g.flatMap uL ++ (41 :: textN (g' :: gs))) := h
    have hlen : (textN (g :: g' :: gs)).length = 6 + (g.flatMap uL).length + 1 + (textN (g' :: gs)).length := by
      show ([40, 63, 62, 46, 42, 63] ++ (g.flatMap uL ++ (41 :: textN (g' :: gs)))).length = _
      rw [List.length_append, List.length_append, show (41 :: textN (g' :: gs)).length = (textN (g' :: gs)).length + 1 from rfl]
      show 6 + _ = _
      omega
    have hle := units_le g
    obtain ⟨f, rfl⟩ : ∃ f', f = g.length + (f' + 1) + 1 := ⟨f - g.length - 2, by omega⟩
    rw [runsGo, if_pos (drop_lt h'), step_group h' hst]
    dsimp only
    have h2 := drop_add h'
    have h2' : (lst w).drop (k + 6) = g.flatMap uL ++ (41 :: textN (g' :: gs)) := h2
    rw [go_units (f + 1) (.inr (.inl rfl)) _ g (k + 6) [] _ (hu g (.head _)) h2' (fun e => absurd (Option.some.inj e) (by decide)), List.nil_append]
    have h3 := drop_add h2'
    rw [runsGo, if_pos (drop_lt h3), step_shut h3]
    dsimp only
    have h4 : (lst w).drop (k + 6 + (g.flatMap uL).length + 1) = textN (g' :: gs) := drop_add (a := [41]) h3
    rw [go_stars (g' :: gs) f _ "closed" _ _ (fun x hx => hu x (.tail _ hx)) (.inr rfl) h4 (by omega), if_neg (fun e => nomatch e), if_neg (fun e => nomatch e), List.map_cons (a := g)]
    simp
theorem text_head (gs : List (List Nat)) : nh (textN gs) := by
  match gs with
  | [] => exact fun e => nomatch e
  | [g] => exact fun e => absurd (Option.some.inj e) (by decide)
  | g :: g' :: gs => exact fun e => absurd (Option.some.inj e) (by decide)
theorem lawRuns_of (t : Str) (f0 : List Nat) (gs : List (List Nat)) (h0 : ∀ c ∈ f0, ok6 c) (hg : ∀ g ∈ gs, ∀ c ∈ g, ok6 c) (ht : lst t = [40, 63, 115, 58] ++ (f0.flatMap uL ++ textN gs) ++ [41, 92, 90]) : lawRuns t = some (readN f0 gs) := by
  have hlt : t.length = 7 + (f0.flatMap uL ++ textN gs).length := by
    rw [← lst_len, ht, List.length_append, List.length_append]
    show 4 + _ + 3 = _
    omega
  have hin : lst (innerOf t) = f0.flatMap uL ++ textN gs := by
    have := sl_inner t (by omega)
    show (Txt.slice t (some 4) (some (-3))).cps.toList = _
    rw [this]
    show ((lst t).drop 4).take (t.length - 7) = _
    rw [ht, List.append_assoc, List.drop_append_of_le_length (Nat.le_refl 4), show ([40, 63, 115, 58] : List Nat).drop 4 = [] from rfl, List.nil_append, hlt, show 7 + (f0.flatMap uL ++ textN gs).length - 7 = (f0.flatMap uL ++ textN gs).length from by omega]
    rw [List.take_append_of_le_length (Nat.le_refl _), List.take_length]
  have hne : (t != "(?s:" ++ innerOf t ++ ")\\Z") = false := by
    rw [bne_eq_false_iff_eq, ← lst_inj, lst_app, lst_app, hin, ht]
    have a : lst ("(?s:" : Str) = [40, 63, 115, 58] := by decide +kernel
    have b : lst (")\\Z" : Str) = [41, 92, 90] := by decide +kernel
    rw [a, b]
  have hil : (innerOf t).length = (f0.flatMap uL).length + (textN gs).length := by rw [← lst_len, hin, List.length_append]
  have hle := units_le f0
  unfold lawRuns
  rw [hne, if_neg (by decide)]
  have hd : (lst (innerOf t)).drop 0 = f0.flatMap uL ++ textN gs := hin
  obtain ⟨f, hf⟩ : ∃ f', (innerOf t).length = f0.length + f' := ⟨(innerOf t).length - f0.length, by omega⟩
  rw [hf, go_units f (.inl rfl) [] f0 0 [] (textN gs) h0 hd (text_head gs), List.nil_append, go_stars gs f _ "front" [] (f0.map chN) hg (.inl rfl) (drop_add hd) (by omega)]
  dsimp only
  rw [if_neg]
  · rfl
  · split <;> decide +kernel
end Rt

/-! W5 -/
namespace Rt
noncomputable def toPart (c : Nat) : Option Str := if c = 42 then none else if c = 63 then some ("." : Str) else some (escS c)
noncomputable def unitT (c : Nat) : Str := if c = 63 then "." else escS c
theorem lst_unit (c : Nat) : lst (unitT c) = uL c := by
  unfold unitT uL escS
  split
  · decide +kernel
  · split <;> rfl
theorem part_fix {c : Nat} (h : c ≠ 42) : toPart c = some (unitT c) := by
  unfold toPart unitT
  rw [if_neg h]
  split <;> rfl
/-- stars side by side are one -/
noncomputable def cstep (c : Nat) (r : List Nat) : List Nat := if c = 42 ∧ r.getLast? = some 42 then r else r ++ [c]
theorem part_none (c : Nat) : toPart c = none ↔ c = 42 := by
  unfold toPart
  by_cases h : c = 42
  · rw [if_pos h]; exact ⟨fun _ => h, fun _ => rfl⟩
  · rw [if_neg h]
    refine ⟨fun e => ?_, fun e => absurd e h⟩
    split at e <;> cases e
theorem tr_cstep (c : Nat) (r : List Nat) : trStep c (r.map toPart) = (cstep c r).map toPart := by
  unfold trStep cstep
  have hl : ((r.map toPart).getLast? = some none) ↔ r.getLast? = some 42 := by
    rw [List.getLast?_map]
    cases r.getLast? with
    | none => simp
    | some d =>
      rw [Option.map_some, Option.some.injEq, Option.some.injEq]
      exact part_none d
  by_cases h : c = 42
  · rw [if_pos h]
    by_cases h2 : r.getLast? = some 42
    · rw [if_pos (hl.mpr h2), if_pos ⟨h, h2⟩]
    · rw [if_neg (fun e => h2 (hl.mp e)), if_neg (fun e => h2 e.2), List.map_append, h]; rfl
  · have hc : (if c = 42 ∧ r.getLast? = some 42 then r else r ++ [c]) = r ++ [c] := if_neg fun e => h e.1
    rw [if_neg h, hc, List.map_append]
    by_cases h3 : c = 63
    · rw [if_pos h3, h3]; rfl
    · rw [if_neg h3]
      show _ = r.map toPart ++ [toPart c]
      unfold toPart
      rw [if_neg h, if_neg h3]
noncomputable def comp (l : List Nat) : List Nat := l.foldl (fun r x => cstep x r) []
theorem parts_comp (w : Str) : partsOf w = (comp (lst w)).map toPart := by
  unfold partsOf comp
  have key : ∀ (l : List Nat) (r : List Nat), l.foldl (fun r x => trStep x r) (r.map toPart) = (l.foldl (fun r x => cstep x r) r).map toPart := by
    intro l
    induction l with
    | nil => intro r; rfl
    | cons c l ih => intro r; rw [List.foldl_cons, List.foldl_cons, tr_cstep, ih]
  exact key _ []
theorem places_le (w : Str) : ∀ (l : List Nat) (P : List Nat), (∀ k ∈ P, k ≤ w.length) → ∀ k ∈ l.foldl (fitStep w) P, k ≤ w.length
  | [], P, h => h
  | c :: l, P, h => by
    rw [List.foldl_cons]
    refine places_le w l _ fun k hk => ?_
    unfold fitStep at hk
    split at hk
    · cases P with
      | nil => cases hk
      | cons p P =>
        exact up_le w p k hk
    · obtain ⟨j, hj, rfl⟩ := List.mem_map.mp hk
      have := (List.mem_filter.mp hj).2
      rw [Bool.and_eq_true, decide_eq_true_eq] at this
      exact this.1
theorem fits_comp (w : Str) : ∀ (l r P : List Nat), (∀ k ∈ P, k ≤ w.length) → l.foldl (fitStep w) (r.foldl (fitStep w) P) = (l.foldl (fun r x => cstep x r) r).foldl (fitStep w) P
  | [], r, P, _ => rfl
  | c :: l, r, P, hP => by
    rw [List.foldl_cons, List.foldl_cons, ← fits_comp w l (cstep c r) P hP]
    congr 1
    unfold cstep
    split
    · rename_i h
      obtain ⟨rfl, h2⟩ := h
      have hne : r ≠ [] := fun e => by rw [e] at h2; cases h2
      have e := List.dropLast_concat_getLast hne
      have e2 : r.getLast hne = 42 := by
        rw [List.getLast?_eq_some_getLast hne] at h2
        exact Option.some.inj h2
      rw [e2] at e
      rw [← e, List.foldl_append, List.foldl_cons, List.foldl_nil]
      exact star_idem w _ (places_le w _ P hP)
    · rw [List.foldl_append]; rfl
theorem fits_eq (pat w : Str) : fits pat w = ((comp (lst pat)).foldl (fitStep w) [0]).contains w.length := by
  unfold fits comp
  have := fits_comp w (lst pat) [] [0] (fun k hk => by rw [List.mem_singleton.mp hk]; exact Nat.zero_le _)
  rw [← this]; rfl
/-- a pattern in its runs -/
noncomputable def splitS : List Nat → List Nat × List (List Nat)
  | [] => ([], [])
  | c :: r => if c = 42 then ([], (splitS r).1 :: (splitS r).2) else (c :: (splitS r).1, (splitS r).2)
theorem split_pat : ∀ q : List Nat, patN (splitS q).1 (splitS q).2 = q
  | [] => rfl
  | c :: r => by
    have ih := split_pat r
    unfold splitS
    split
    · rename_i h
      show [] ++ ((splitS r).1 :: (splitS r).2).flatMap (42 :: ·) = _
      rw [List.flatMap_cons, List.nil_append, h]
      show 42 :: ((splitS r).1 ++ (splitS r).2.flatMap (42 :: ·)) = _
      have : (splitS r).1 ++ (splitS r).2.flatMap (42 :: ·) = r := ih
      rw [this]
    · show c :: ((splitS r).1 ++ (splitS r).2.flatMap (42 :: ·)) = _
      have : (splitS r).1 ++ (splitS r).2.flatMap (42 :: ·) = r := ih
      rw [this]
theorem split_mem : ∀ (q : List Nat), (∀ c ∈ (splitS q).1, c ∈ q ∧ c ≠ 42) ∧ (∀ g ∈ (splitS q).2, ∀ c ∈ g, c ∈ q ∧ c ≠ 42)
  | [] => ⟨(fun c hc => nomatch hc), (fun g hg => nomatch hg)⟩
  | d :: r => by
    obtain ⟨a, b⟩ := split_mem r
    unfold splitS
    split
    · refine ⟨(fun c hc => nomatch hc), fun g hg c hc => ?_⟩
      rcases List.mem_cons.mp hg with rfl | hg
      · exact ⟨.tail _ (a c hc).1, (a c hc).2⟩
      · exact ⟨.tail _ (b g hg c hc).1, (b g hg c hc).2⟩
    · rename_i h
      refine ⟨fun c hc => ?_, fun g hg c hc => ⟨.tail _ (b g hg c hc).1, (b g hg c hc).2⟩⟩
      rcases List.mem_cons.mp hc with rfl | hc
      · exact ⟨.head _, h⟩
      · exact ⟨.tail _ (a c hc).1, (a c hc).2⟩
/-- runs between stars are not empty -/
noncomputable def Tight : List (List Nat) → Prop
  | [] => True
  | [_] => True
  | g :: g' :: gs => g ≠ [] ∧ Tight (g' :: gs)
noncomputable abbrev NoAdj (q : List Nat) : Prop := ∀ i : Nat, q[i]? = some 42 → q[i + 1]? ≠ some 42
theorem split_tight : ∀ q : List Nat, NoAdj q → Tight (splitS q).2
  | [], _ => trivial
  | c :: r, h => by
    have hr : NoAdj r := fun i hi => h (i + 1) hi
    have ih := split_tight r hr
    unfold splitS
    split
    · rename_i hc
      subst hc
      show Tight ((splitS r).1 :: (splitS r).2)
      cases r with
      | nil => exact trivial
      | cons d r =>
        have hd : d ≠ 42 := fun e => h 0 rfl (by rw [e]; rfl)
        have e1 : (splitS (d :: r)).1 ≠ [] := by unfold splitS; rw [if_neg hd]; exact fun e => nomatch e
        cases e2 : (splitS (d :: r)).2 with
        | nil => exact trivial
        | cons g' gs => rw [e2] at ih; exact ⟨e1, ih⟩
    · exact ih
theorem comp_noadj (l : List Nat) : NoAdj (comp l) ∧ ∀ c ∈ comp l, c ∈ l := by
  have key : ∀ (l r : List Nat), NoAdj r → NoAdj (l.foldl (fun r x => cstep x r) r) ∧ ∀ c ∈ l.foldl (fun r x => cstep x r) r, c ∈ r ∨ c ∈ l := by
    intro l
    induction l with
    | nil => intro r h; exact ⟨h, fun c hc => .inl hc⟩
    | cons x l ih =>
      intro r h
      have h1 : NoAdj (cstep x r) ∧ ∀ c ∈ cstep x r, c ∈ r ∨ c = x := by
        unfold cstep
        split
        · exact ⟨h, fun c hc => .inl hc⟩
        · rename_i q
          refine ⟨fun i hi hi' => ?_, fun c hc => ?_⟩
          · have hlt := (List.getElem?_eq_some_iff.mp hi').1
            rw [List.length_append, List.length_singleton] at hlt
            rw [List.getElem?_append_left (by omega)] at hi
            by_cases hq : i + 1 < r.length
            · rw [List.getElem?_append_left hq] at hi'
              exact h i hi hi'
            · rw [List.getElem?_append_right (by omega), show i + 1 - r.length = 0 from by omega] at hi'
              have hx : x = 42 := by simpa using hi'
              refine q ⟨hx, ?_⟩
              rw [List.getLast?_eq_getElem?, show r.length - 1 = i from by omega]
              exact hi
          · rcases List.mem_append.mp hc with q | q
            · exact .inl q
            · exact .inr (List.mem_singleton.mp q)
      obtain ⟨i1, i2⟩ := ih _ h1.1
      refine ⟨i1, fun c hc => ?_⟩
      rcases i2 c hc with q | q
      · rcases h1.2 c q with q | rfl
        · exact .inl q
        · exact .inr (.head _)
      · exact .inr (.tail _ q)
  obtain ⟨a, b⟩ := key l [] fun i hi => by cases hi
  exact ⟨a, fun c hc => (b c hc).resolve_left fun q => nomatch q⟩
/-! the text of the parts -/
noncomputable abbrev starParts (gs : List (List Nat)) : Parts := (gs.flatMap (42 :: ·)).map toPart
theorem fix_parts : ∀ (f : List Nat) (R : Parts), (∀ c ∈ f, c ≠ 42) → restOf R = R → fixOf (f.map toPart ++ R) = f.map unitT ∧ restOf (f.map toPart ++ R) = R
  | [], R, _, hR => by
    refine ⟨?_, hR⟩
    rcases rest_cases hR with rfl | ⟨q, rfl⟩ <;> rfl
  | c :: f, R, h, hR => by
    obtain ⟨a, b⟩ := fix_parts f R (fun d hd => h d (.tail _ hd)) hR
    rw [List.map_cons, List.cons_append, part_fix (h c (.head _))]
    exact ⟨congrArg (unitT c :: ·) a, b⟩
theorem star_rest (gs : List (List Nat)) : restOf (starParts gs) = starParts gs := by
  cases gs with
  | nil => rfl
  | cons g gs => rfl
theorem lst_units (us : List Nat) : lst (cat (us.map unitT)) = us.flatMap uL := by
  rw [lst_cat, List.map_map, List.flatMap_def]
  congr 1
  exact List.map_congr_left fun c _ => lst_unit c
theorem stars_text : ∀ (gs : List (List Nat)) (f : Nat), (∀ g ∈ gs, ∀ c ∈ g, c ≠ 42) → Tight gs → (starParts gs).length ≤ f → ((starsOf f (starParts gs)).map lst).flatten = textN gs
  | [], f, _, _, _ => by cases f <;> rfl
  | [g], f, hg, _, hf => by
    obtain ⟨f, rfl⟩ : ∃ f', f = f' + 1 := ⟨f - 1, by
      have : (starParts [g]).length = g.length + 1 := by
        show ((([g] : List (List Nat)).flatMap (42 :: ·)).map toPart).length = _
        rw [List.length_map, List.flatMap_cons, List.flatMap_nil, List.append_nil, List.length_cons]
      omega⟩
    have e : starParts [g] = none :: (g.map toPart ++ []) := by
      show ((([g] : List (List Nat)).flatMap (42 :: ·)).map toPart) = _
      rw [List.flatMap_cons, List.flatMap_nil, List.append_nil, List.append_nil]; rfl
    rw [e]
    obtain ⟨a, b⟩ := fix_parts g [] (hg g (.head _)) rfl
    cases g with
    | nil =>
      show (([(".*" : Str)] : List Str).map lst).flatten = [46, 42]
      decide +kernel
    | cons c g =>
      rw [stars_last (r := (c :: g).map toPart ++ []) (by simp) b, a, List.map_cons, List.map_cons, List.map_nil, List.flatten_cons, List.flatten_cons, List.flatten_nil, List.append_nil, lst_units, l_ds]; rfl
  | g :: g' :: gs, f, hg, ht, hf => by
    have e : starParts (g :: g' :: gs) = none :: (g.map toPart ++ starParts (g' :: gs)) := by
      show ((g :: g' :: gs).flatMap (42 :: ·)).map toPart = _
      rw [List.flatMap_cons, List.map_append]; rfl
    have hlen : (starParts (g :: g' :: gs)).length = 1 + g.length + (starParts (g' :: gs)).length := by
      rw [e, List.length_cons, List.length_append, List.length_map]; omega
    obtain ⟨f, rfl⟩ : ∃ f', f = f' + 1 := ⟨f - 1, by omega⟩
    rw [e]
    obtain ⟨a, b⟩ := fix_parts g (starParts (g' :: gs)) (hg g (.head _)) (star_rest _)
    have hne : g.map toPart ++ starParts (g' :: gs) ≠ [] := fun h => by
      have := (List.append_eq_nil_iff.mp h).2
      cases this
    rw [stars_more hne (by rw [b]; exact fun e => nomatch e), a, b, List.map_cons, List.flatten_cons, lst_app, lst_app, lst_units, stars_text (g' :: gs) f (fun x hx => hg x (.tail _ hx)) ht.2 (by omega)]
    have e1 : lst ("(?>.*?" : Str) = [40, 63, 62, 46, 42, 63] := by decide +kernel
    have e2 : lst (")" : Str) = [41] := by decide +kernel
    rw [e1, e2]
    show _ = [40, 63, 62, 46, 42, 63] ++ (g.flatMap uL ++ (41 :: textN (g' :: gs)))
    simp
theorem join_text (f0 : List Nat) (gs : List (List Nat)) (h0 : ∀ c ∈ f0, c ≠ 42) (hg : ∀ g ∈ gs, ∀ c ∈ g, c ≠ 42) (ht : Tight gs) : lst (joinP ((patN f0 gs).map toPart)) = [40, 63, 115, 58] ++ (f0.flatMap uL ++ textN gs) ++ [41, 92, 90] := by
  have e : (patN f0 gs).map toPart = f0.map toPart ++ starParts gs := by unfold patN; rw [List.map_append]
  obtain ⟨a, b⟩ := fix_parts f0 (starParts gs) h0 (star_rest gs)
  unfold joinP
  rw [lst_app, lst_app, lst_cat, e, a, b, List.map_append, List.flatten_append, stars_text gs _ hg ht (by rw [List.length_append]; omega)]
  have e0 : ((f0.map unitT).map lst).flatten = f0.flatMap uL := by rw [← lst_cat, lst_units]
  have e1 : lst ("(?s:" : Str) = [40, 63, 115, 58] := by decide +kernel
  have e2 : lst (")\\Z" : Str) = [41, 92, 90] := by decide +kernel
  rw [e0, e1, e2]
/-- the text of a pattern, read again -/
theorem read_back (pat : Str) (h : ∀ c ∈ lst pat, c = 42 ∨ ok6 c) : rdOf pat = some (readN (splitS (comp (lst pat))).1 (splitS (comp (lst pat))).2) := by
  obtain ⟨n1, n2⟩ := comp_noadj (lst pat)
  obtain ⟨m1, m2⟩ := split_mem (comp (lst pat))
  have ok : ∀ c, c ∈ comp (lst pat) ∧ c ≠ 42 → ok6 c := fun c hc => (h c (n2 c hc.1)).resolve_left hc.2
  have hp := split_pat (comp (lst pat))
  refine lawRuns_of _ _ _ (fun c hc => ok c (m1 c hc)) (fun g hg c hc => ok c (m2 g hg c hc)) ?_
  show lst (joinP (partsOf pat)) = _
  rw [parts_comp]
  conv => lhs; rw [← hp]
  exact join_text _ _ (fun c hc => (m1 c hc).2) (fun g hg c hc => (m2 g hg c hc).2) (split_tight _ n1)
theorem takes_fits (pat w : Str) (h : ∀ c ∈ lst pat, c = 42 ∨ ok6 c) : takes (rdOf pat) w = fits pat w := by
  obtain ⟨m1, m2⟩ := split_mem (comp (lst pat))
  rw [read_back pat h, takes_pat w _ _ (fun c hc => (m1 c hc).2) (fun g hg c hc => (m2 g hg c hc).2), split_pat, fits_eq]
end Rt

/-! W6 -/
namespace Rt
noncomputable abbrev ok7 (c : Nat) : Prop := c = 42 ∨ ok6 c
theorem ok7_lt {c : Nat} (h : ok7 c) : c < 128 ∧ c ≠ 91 := by
  rcases h with rfl | rfl | rfl | rfl | rfl | rfl | rfl <;> decide
theorem strOk_of {s : Str} (h : ∀ c ∈ lst s, c < 128) : PyData.strOk s = true := by
  unfold PyData.strOk
  rw [Array.all_eq_true']
  intro c hc
  have := h c (Array.mem_toList_iff.mpr hc)
  simp
  omega
theorem uL_le (c : Nat) : (uL c).length ≤ 2 := by
  unfold uL
  split
  · exact Nat.le_succ _
  · split
    · exact Nat.le_refl _
    · exact Nat.le_succ _
theorem units_len : ∀ us : List Nat, (us.flatMap uL).length ≤ 2 * us.length
  | [] => Nat.le_refl _
  | c :: us => by
    have := units_len us
    have := uL_le c
    rw [List.flatMap_cons, List.length_append, List.length_cons]; omega
theorem text_len : ∀ gs : List (List Nat), (textN gs).length ≤ 7 * (gs.flatMap (42 :: ·)).length
  | [] => Nat.le_refl _
  | [g] => by
    have := units_len g
    show ([46, 42] ++ g.flatMap uL).length ≤ _
    rw [List.length_append, List.flatMap_cons, List.flatMap_nil, List.append_nil, List.length_cons (a := 42)]
    show 2 + _ ≤ _
    omega
  | g :: g' :: gs => by
    have := units_len g
    have := text_len (g' :: gs)
    show ([40, 63, 62, 46, 42, 63] ++ (g.flatMap uL ++ (41 :: textN (g' :: gs)))).length ≤ _
    rw [List.flatMap_cons, List.length_append, List.length_append, List.length_append, show (41 :: textN (g' :: gs)).length = (textN (g' :: gs)).length + 1 from rfl, List.length_cons (a := 42)]
    show 6 + _ ≤ _
    omega
theorem comp_len (l : List Nat) : (comp l).length ≤ l.length := by
  have key : ∀ (l r : List Nat), (l.foldl (fun r x => cstep x r) r).length ≤ r.length + l.length := by
    intro l
    induction l with
    | nil => intro r; exact Nat.le_refl _
    | cons x l ih =>
      intro r
      have := ih (cstep x r)
      have h2 : (cstep x r).length ≤ r.length + 1 := by
        unfold cstep
        split
        · exact Nat.le_succ _
        · rw [List.length_append]; exact Nat.le_refl _
      rw [List.foldl_cons, List.length_cons]; omega
  have := key l []
  rw [List.length_nil, Nat.zero_add] at this
  exact this
theorem ch_ok {c : Nat} (h : ok6 c) : PyData.strOk (chN c) = true := by
  refine strOk_of fun d hd => ?_
  unfold chN at hd
  split at hd
  · cases hd
  · have : d = c := by simpa [lst] using hd
    rw [this]; exact (ok7_lt (.inr h)).1
theorem pat_ok {pat : Str} (h : ∀ c ∈ lst pat, ok7 c) (hl : pat.length ≤ 20) : PatOk pat := by
  obtain ⟨n1, n2⟩ := comp_noadj (lst pat)
  obtain ⟨m1, m2⟩ := split_mem (comp (lst pat))
  have hp := split_pat (comp (lst pat))
  have hc := comp_len (lst pat)
  rw [lst_len] at hc
  have ok : ∀ c, c ∈ comp (lst pat) ∧ c ≠ 42 → ok6 c := fun c hc => (h c (n2 c hc.1)).resolve_left hc.2
  have hrd := read_back pat h
  have htl : (transS pat).length ≤ 7 + 7 * 20 := by
    have e : lst (transS pat) = [40, 63, 115, 58] ++ ((splitS (comp (lst pat))).1.flatMap uL ++ textN (splitS (comp (lst pat))).2) ++ [41, 92, 90] := by
      show lst (joinP (partsOf pat)) = _
      rw [parts_comp]
      conv => lhs; rw [← hp]
      exact join_text _ _ (fun c hc => (m1 c hc).2) (fun g hg c hc => (m2 g hg c hc).2) (split_tight _ n1)
    have e2 := congrArg List.length e
    rw [lst_len, List.length_append, List.length_append, List.length_append] at e2
    have a := units_len (splitS (comp (lst pat))).1
    have b := text_len (splitS (comp (lst pat))).2
    have c := congrArg List.length hp
    unfold patN at c
    rw [List.length_append] at c
    have e3 : (transS pat).length = 4 + (((splitS (comp (lst pat))).1.flatMap uL).length + (textN (splitS (comp (lst pat))).2).length) + 3 := e2
    omega
  refine ⟨by omega, fun x hx => ok7_lt (h x hx), by omega, strOk_of fun c hc => (ok7_lt (h c hc)).1, ?_⟩
  rw [hrd]
  generalize splitS (comp (lst pat)) = sp at *
  obtain ⟨f0, gs⟩ := sp
  have cl := congrArg List.length hp
  unfold patN at cl
  rw [List.length_append] at cl
  have mem_le : ∀ (gs : List (List Nat)), gs.length ≤ (gs.flatMap (42 :: ·)).length ∧ ∀ g ∈ gs, g.length ≤ (gs.flatMap (42 :: ·)).length := by
    intro gs
    induction gs with
    | nil => exact ⟨Nat.le_refl _, fun g hg => nomatch hg⟩
    | cons g gs ih =>
      rw [List.flatMap_cons, List.length_append, List.length_cons, List.length_cons]
      refine ⟨by omega, fun x hx => ?_⟩
      rcases List.mem_cons.mp hx with rfl | hx
      · omega
      · have := ih.2 x hx; omega
  obtain ⟨q1, q2⟩ := mem_le gs
  show _ ≠ [] ∧ _ ∧ _
  refine And.intro (fun e => by cases e) (And.intro ?_ fun r hr => ?_)
  · show (f0.map chN :: gs.map (List.map chN)).length ≤ 1000
    rw [List.length_cons, List.length_map]
    dsimp only at cl
    omega
  · have hr' : r ∈ f0.map chN :: gs.map (List.map chN) := hr
    have : ∃ g : List Nat, r = g.map chN ∧ (∀ c ∈ g, ok6 c) ∧ g.length ≤ 20 := by
      rcases List.mem_cons.mp hr' with rfl | hr'
      · exact ⟨f0, rfl, fun c hc => ok c (m1 c hc), by dsimp only at cl; omega⟩
      · obtain ⟨g, hg, rfl⟩ := List.mem_map.mp hr'
        exact ⟨g, rfl, fun c hc => ok c (m2 g hg c hc), by have := q2 g hg; dsimp only at cl; omega⟩
    obtain ⟨g, rfl, hg, hgl⟩ := this
    refine ⟨fun x hx => ?_, by rw [List.length_map]; omega⟩
    obtain ⟨c, hc, rfl⟩ := List.mem_map.mp hx
    exact ch_ok (hg c hc)
theorem sgn_ok (x : Int) : ∃ c, lst (sgnX x) = [c] ∧ ok7 c := by
  obtain ⟨m1, m2⟩ := mod_range x 7 (by decide)
  have e : lst ("*?ab/.+" : Str) = [42, 63, 97, 98, 47, 46, 43] := by decide +kernel
  refine ⟨_, rfl, ?_⟩
  rw [if_neg (by omega)]
  show ok7 ((lst ("*?ab/.+" : Str))[(x.fmod 7).toNat]?.getD 0)
  rw [e]
  have : (x.fmod 7).toNat < 7 := by omega
  generalize (x.fmod 7).toNat = j at this
  match j, this with
  | 0, _ => exact .inl rfl
  | 1, _ => exact .inr (.inl rfl)
  | 2, _ => exact .inr (.inr (.inl rfl))
  | 3, _ => exact .inr (.inr (.inr (.inl rfl)))
  | 4, _ => exact .inr (.inr (.inr (.inr (.inl rfl))))
  | 5, _ => exact .inr (.inr (.inr (.inr (.inr (.inl rfl)))))
  | 6, _ => exact .inr (.inr (.inr (.inr (.inr (.inr rfl)))))
theorem signs_ok (sc : List Int) : (∀ c ∈ lst (signsOf sc), ok7 c) ∧ (signsOf sc).length ≤ 3 := by
  have hl := (pick3 sc).2
  have e : lst (signsOf sc) = ((pickL sc (some 3) (some 6)).map fun x => lst (sgnX x)).flatten := by
    unfold signsOf
    rw [lst_cat, List.map_map]; rfl
  constructor
  · intro c hc
    rw [e] at hc
    obtain ⟨l, hl, hcl⟩ := List.mem_flatten.mp hc
    obtain ⟨x, _, rfl⟩ := List.mem_map.mp hl
    obtain ⟨d, hd, ok⟩ := sgn_ok x
    rw [hd] at hcl
    rw [List.mem_singleton.mp hcl]; exact ok
  · rw [← lst_len, e]
    have : ∀ l : List Int, ((l.map fun x => lst (sgnX x)).flatten).length = l.length := by
      intro l
      induction l with
      | nil => rfl
      | cons x l ih =>
        obtain ⟨d, hd, _⟩ := sgn_ok x
        rw [List.map_cons, List.flatten_cons, List.length_append, ih, hd]
        show 1 + l.length = l.length + 1
        omega
    rw [this]; exact hl
theorem pats_ok (sc : List Int) : ∀ pat ∈ patsOf (signsOf sc), (∀ c ∈ lst pat, ok7 c) ∧ pat.length ≤ 20 := by
  obtain ⟨s1, s2⟩ := signs_ok sc
  generalize signsOf sc = s at *
  have e1 : lst ("/*" : Str) = [47, 42] := by decide +kernel
  have e2 : lst ("b" : Str) = [98] := by decide +kernel
  have e3 : lst ("*a" : Str) = [42, 97] := by decide +kernel
  have e4 : lst ("*/?*" : Str) = [42, 47, 63, 42] := by decide +kernel
  have e5 : lst ("/" : Str) = [47] := by decide +kernel
  have o47 : ok7 47 := .inr (.inr (.inr (.inr (.inl rfl))))
  have o42 : ok7 42 := .inl rfl
  have o63 : ok7 63 := .inr (.inl rfl)
  have o97 : ok7 97 := .inr (.inr (.inl rfl))
  have o98 : ok7 98 := .inr (.inr (.inr (.inl rfl)))
  have two : ∀ {a b : List Nat}, (∀ c ∈ a, ok7 c) → (∀ c ∈ b, ok7 c) → ∀ c ∈ a ++ b, ok7 c := fun ha hb c hc => (List.mem_append.mp hc).elim (ha c) (hb c)
  have one : ∀ {d : Nat} {a : List Nat}, ok7 d → (∀ c ∈ a, ok7 c) → ∀ c ∈ d :: a, ok7 c := fun hd ha c hc => (List.mem_cons.mp hc).elim (fun e => e ▸ hd) (ha c)
  have nil : ∀ c ∈ ([] : List Nat), ok7 c := fun c hc => nomatch hc
  rw [← lst_len] at s2
  intro pat hp
  have hp' : pat ∈ ([("/*" : Str) ++ s ++ "b", "*a" ++ s ++ "*/?*", "/" ++ s] : List Str) := hp
  simp only [List.mem_cons, List.not_mem_nil, or_false] at hp'
  rw [← lst_len]
  rcases hp' with rfl | rfl | rfl
  · rw [lst_app, lst_app, e1, e2]
    exact ⟨two (two (one o47 (one o42 nil)) s1) (one o98 nil), by rw [List.length_append, List.length_append]; show 2 + _ + 1 ≤ 20; omega⟩
  · rw [lst_app, lst_app, e3, e4]
    exact ⟨two (two (one o42 (one o97 nil)) s1) (one o42 (one o47 (one o63 (one o42 nil)))), by rw [List.length_append, List.length_append]; show 2 + _ + 4 ≤ 20; omega⟩
  · rw [lst_app, e5]
    exact ⟨two (one o47 nil) s1, by rw [List.length_append]; show 1 + _ ≤ 20; omega⟩
theorem nums_le (sc : List Int) : (numsOf sc).length ≤ 1000 := by
  have := (pick3 sc).1
  unfold numsOf
  rw [List.length_append]
  show _ + 7 ≤ _
  omega
theorem plain (sc : List Int) : Plain sc where
  d1 := shelf_eq _ _
  d2 := shelf_eq _ _
  k1 := shelf_okL _ _ (nums_le sc)
  k2 := shelf_okL _ _ (nums_le sc)
  al := alone_of (shelf_rise _ _) (shelf_rise _ _) (fun w hw => by obtain ⟨x, rfl⟩ := shelf_mem hw; exact flat_lt _) (fun w hw => by obtain ⟨x, rfl⟩ := shelf_mem hw; exact flat_lt _)
  pt := fun pat hp => pat_ok (pats_ok sc pat hp).1 (pats_ok sc pat hp).2
  rt := fun pat hp => right_of (shelf_rise _ _) (shelf_rise _ _) pat fun w _ => takes_fits pat w (pats_ok sc pat hp).1
/-- the law, called -/
theorem law_holds {P : Pr} (B : Base P) (n : Nat) {f : Value} (hf : P.mg dLaw.name = some f) (sc : List Int) (hsz : sc.length ≤ 1000) : CallR P (n + 5) f [.list (sc.map .int)] (.bool true) := law_call B n hf sc hsz (plain sc)
end Rt

/-! H1 -/
namespace Rt
noncomputable abbrev pwR : Program := PySem.Challenge.pw_rt0086_01
noncomputable def keepR : List Nat := [0, 1, 3, 5, 6, 8, 9, 11, 12, 14, 16, 18, 19, 21, 23, 25, 26, 27, 28, 30, 31, 32, 33, 34, 35, 36, 37, 38]
noncomputable def qR : Program := view pwR keepR
noncomputable def looseR : List Str := ["_twin_re_1", "_special_chars_map"]
noncomputable def keyInt (e : DictEntry) : Bool := match e.key with
  | .int k _ => e.hash == hashInt k
  | _ => false
noncomputable def spAt (sp : Nat → Bool) (es : Array DictEntry) (c : Nat) : Bool := match findBy Value.isInt es (c : Int) with
  | some (.str x _) => sp c && (x == ⟨#[92, c]⟩)
  | some _ => false
  | none => !sp c
noncomputable def spObj (sp : Nat → Bool) (o : Obj) : Bool := (o.cls == .type "dict") && o.dict.isNone && o.slots.isEmpty && match o.data with
  | .dict es _ => es.toList.all keyInt && (List.range 128).all (spAt sp es)
  | _ => false
noncomputable def spHeap (sp : Nat → Bool) (h : Heap) : Bool := match h.nsMap mainGlobals "_special_chars_map" with
  | some (.ref d) => (d != sysModules) && Nat.ble d 240 && match h.get? d with
    | some o => spObj sp o
    | none => false
  | _ => false
noncomputable def specials : List Nat := [40, 41, 91, 93, 123, 125, 63, 42, 43, 45, 124, 94, 36, 92, 46, 38, 126, 35, 32, 9, 10, 13, 11, 12]
noncomputable def XtR (s : Shared) : Bool := spHeap (fun c => specials.contains c) s.heap && (s.heap.get? 240).isSome
noncomputable def PR (w : World) : Prop := (openEnds treeTable pwR w 5440).map (fun s => (openSeen qR looseR (importedModules pwR.main.body) XtR true s, s.heap.objs.size)) = some (openGood qR looseR, 241)
theorem leafA : ∀ w : World, PR ((w.withFollow "special-get-raises" false).withFollow "comprehension-iter-twice" false) := fun w => by
  unfold PR
  kernel_rfl
theorem leafB : ∀ w : World, PR ((w.withFollow "special-get-raises" true).withFollow "comprehension-iter-twice" false) := fun w => by
  unfold PR
  kernel_rfl
theorem leafC : ∀ w : World, PR ((w.withFollow "special-get-raises" false).withFollow "comprehension-iter-twice" true) := fun w => by
  unfold PR
  kernel_rfl
theorem leafD : ∀ w : World, PR ((w.withFollow "special-get-raises" true).withFollow "comprehension-iter-twice" true) := fun w => by
  unfold PR
  kernel_rfl
theorem left_R : LeftO pwR qR looseR XtR (fun s => s.heap.objs.size) (fun _ => 241) 5440 :=
  fun w => byRow2 "comprehension-iter-twice" (P := PR)
    (fun w => byRow2 "special-get-raises" (P := fun w => PR (w.withFollow "comprehension-iter-twice" false)) leafA leafB w)
    (fun w => byRow2 "special-get-raises" (P := fun w => PR (w.withFollow "comprehension-iter-twice" true)) leafC leafD w) w
end Rt

/-! H2a -/
namespace Rt
noncomputable abbrev lawR : OpenLaw := PySem.Challenge.rw_rt0086_01
noncomputable abbrev rowR : OpenRow := lawR.row
/-! the arguments -/
theorem ints_of : ∀ {xs : List WData}, WShape.hasItems [] xs .int = true → ∃ ns : List Int, xs = ns.map .int
  | [], _ => ⟨[], rfl⟩
  | x :: xs, h => by
    have h : WShape.has [] x .int = true ∧ WShape.hasItems [] xs .int = true := Bool.and_eq_true_iff.mp h
    obtain ⟨ns, rfl⟩ := ints_of h.2
    cases x with
    | int i => exact ⟨i :: ns, rfl⟩
    | _ => exact Bool.noConfusion (show false = true from h.1)
theorem args_of {args : List WData} (h : rowR.toRowW.claim.pre args = true) : ∃ ns : List Int, args = [.list (ns.map .int)] ∧ ns.length ≤ 63 := by
  obtain ⟨h1, h2⟩ := pre_splitW h
  have h1' : WShape.hasAll [] args [.list .int] = true := h1
  obtain ⟨d, r, rfl, hd, hr⟩ := hasAllW_cons h1'
  have hr' : r = [] := by
    cases r with
    | nil => rfl
    | cons a b => exact Bool.noConfusion (show false = true from hr)
  subst hr'
  cases d with
  | list xs =>
    have hx : WShape.hasItems [] xs .int = true := (Bool.or_false _).symm.trans hd
    obtain ⟨ns, rfl⟩ := ints_of hx
    refine ⟨ns, rfl, ?_⟩
    have h2' : (WTm.value [] lawR.pre { args := [.list (ns.map .int)] }) = some (.bool true) := by
      have : WTm.holds [] lawR.pre { args := [.list (ns.map .int)] } = true := h2
      unfold WTm.holds at this
      split at this
      · assumption
      · cases this
    have e : lawR.pre = .and (.not (.lt (.lit (.int 63)) (.len (.arg 0)))) (.lit (.bool true)) := rfl
    rw [e] at h2'
    have e2 : WTm.value [] (.and (.not (.lt (.lit (.int 63)) (.len (.arg 0)))) (.lit (.bool true))) { args := [.list (ns.map .int)] } = some (.bool (!decide ((63 : Int) < (ns.map WData.int).length))) := by
      have e3 : WTm.value [] (.not (.lt (.lit (.int 63)) (.len (.arg 0)))) { args := [.list (ns.map .int)] } = some (.bool (!decide ((63 : Int) < (ns.map WData.int).length))) := rfl
      rw [WTm.value, e3]
      cases decide ((63 : Int) < (ns.map WData.int).length) <;> rfl
    rw [e2, List.length_map] at h2'
    have h3 : (!decide ((63 : Int) < ns.length)) = true := by
      injection h2' with h2'
      injection h2'
    rw [Bool.not_eq_true', decide_eq_false_iff_not] at h3
    omega
  | _ => exact Bool.noConfusion (show false = true from hd)
theorem lay_ints (cl : Str → Option Addr) (P : Params) (ord : List DictEntry → List DictEntry) : ∀ (ns : List Int) (s : Shared), ∃ vs t, layAllW [] cl P ord (ns.map .int) s = some (vs, { s with toks := t }) ∧ ∀ (av : Addr → Prop) (h : Heap), Vals av h vs (ns.map .int)
  | [], s => ⟨[], s.toks, rfl, fun _ _ => .nil⟩
  | n :: ns, s => by
    obtain ⟨vs, t, e, hv⟩ := lay_ints cl P ord ns { s with toks := s.toks + 1 }
    refine ⟨.int n s.toks :: vs, t, ?_, fun av h => .cons (.int _ _) (hv av h)⟩
    show layAllW [] cl P ord (.int n :: ns.map .int) s = _
    simp only [layAllW, layW]
    rw [e]
theorem lay_script (cl : Str → Option Addr) (P : Params) (ord : List DictEntry → List DictEntry) (ns : List Int) (s : Shared) : ∃ vs t, layAllW [] cl P ord [.list (ns.map .int)] s = some ([.ref s.heap.objs.size], { s with toks := t, heap := s.heap.push { cls := .type "list", data := .seq vs.toArray } }) ∧ ∀ (av : Addr → Prop) (h : Heap), Vals av h vs (ns.map .int) := by
  obtain ⟨vs, t, e, hv⟩ := lay_ints cl P ord ns s
  refine ⟨vs, t, ?_, hv⟩
  simp only [layAllW, layW]
  rw [e]
end Rt

/-! H2b -/
namespace Rt
theorem wall_recs : True := trivial
/-- the frames' address bound -/
theorem B1_eq : B1 = 240 := rfl
noncomputable def mainR (mg : Str → Option Value) (h : Heap) : Prop := ∃ d o, mg "_special_chars_map" = some (.ref d) ∧ (d == sysModules) = false ∧ d ≤ 240 ∧ h.get? d = some o ∧ o.ExactDict ∧ ∃ es ep, o.data = .dict es ep ∧ (∀ e ∈ es, ∃ k, Value.isInt k e.key = true ∧ e.hash = hashInt k) ∧ SpF (findBy Value.isInt es)
theorem mainR.keeps {mg : Str → Option Value} {h h' : Heap} (x : mainR mg h) (k : ∀ b o, h.get? b = some o → h'.get? b = some o) : mainR mg h' := by
  obtain ⟨d, o, a1, a2, a3, a4, r⟩ := x
  exact ⟨d, o, a1, a2, a3, k _ _ a4, r⟩
theorem mainR.soft {mg : Str → Option Value} {h h' : Heap} (x : mainR mg h) (k : Soft h h') : mainR mg h' := by
  obtain ⟨d, o, a1, a2, a3, a4, r⟩ := x
  refine ⟨d, o, a1, a2, a3, ?_, r⟩
  rcases k d o a4 with q | ⟨⟨q, _⟩, _⟩
  · exact q
  · rw [B1_eq] at q; exact absurd a3 (Nat.not_le.mpr q)
noncomputable def prR (w : World) (mg mb : Str → Option Value) : Pr := ⟨PySem.Challenge.pw_rt0086_01, w, mg, mb, recsL.1, mainR mg⟩
/-- what is known of the heap gives what the proofs ask of the globals -/
theorem base_of {w : World} {mg mb : Str → Option Value} {h : Heap} (hX : mainR mg h) (hm : ∀ d ∈ recsL.1, ∃ a, mg d.name = some (.ref a)) (hnb : ∀ x ∈ (["len", "range", "sorted", "list", "isinstance", "issubclass", "str", "bytes", "type", "object", "IndexError", "TypeError"] : List Str), mg x = none) : Base (prR w mg mb) where
  recs := rfl
  mgd := hm
  nb := hnb
  sp := by
    obtain ⟨d, o, a1, a2, a3, _⟩ := hX
    refine ⟨d, a1, a2, fun h' hx => ?_⟩
    obtain ⟨d', o', b1, b2, b3, b4, b5, es, ep, b6, b7, b8⟩ := hx
    have : d' = d := by
      have e : some (Value.ref d') = some (.ref d) := b1.symm.trans a1
      cases e; rfl
    subst this
    exact ⟨_, ⟨o', es, ep, b4, b5, b6, b7, fun k => rfl⟩, b8⟩
theorem glb_of {w : World} {mg mb : Str → Option Value} {h : Heap} (hX : mainR mg h) (lim : h.NoLimit) (hg : h.Ns mainGlobals mg) (hb : h.Ns builtinsNs mb) (hbb : ∀ x : Str, x ≠ "__name__" → mb x = bootBuiltins x)
    (hfn : ∀ d ∈ recsL.1, ∃ a o pm code doc, mg d.name = some (.ref a) ∧ h.get? a = some o ∧ o.data = .func (docDef d.name d.params d.body d.scope pm code doc) ∧ h.CodeRec code d.name) (top : (h.get? B1).isSome = true) : Glb (prR w mg mb) h :=
  ⟨lim, hg, hb, hbb, hfn, hX, fun _ _ x k => x.soft k, top⟩
/-- the law's call, from a heap that is known -/
theorem call_of {w : World} {mg mb : Str → Option Value} {s : Shared} (hX : mainR mg s.heap) (lim : s.heap.NoLimit) (hg : s.heap.Ns mainGlobals mg) (hb : s.heap.Ns builtinsNs mb) (hbb : ∀ x : Str, x ≠ "__name__" → mb x = bootBuiltins x)
    (hfn : ∀ d ∈ recsL.1, ∃ a o pm code doc, mg d.name = some (.ref a) ∧ s.heap.get? a = some o ∧ o.data = .func (docDef d.name d.params d.body d.scope pm code doc) ∧ s.heap.CodeRec code d.name) (top : (s.heap.get? B1).isSome = true)
    (hnb : ∀ x ∈ (["len", "range", "sorted", "list", "isinstance", "issubclass", "str", "bytes", "type", "object", "IndexError", "TypeError"] : List Str), mg x = none)
    {f : Value} (hf : mg dLaw.name = some f) (ns : List Int) (hn : ns.length ≤ 63) {vs : List Value} (hv : Vals (fun _ => False) s.heap vs [.list (ns.map .int)])
    {Q : Value → Shared → Prop} {E : Value → Shared → Prop} (k : ∀ h' tk, Soft s.heap h' → Q (.bool true) { s with heap := h', toks := tk }) : wpAny (model PySem.Challenge.pw_rt0086_01 w) callerA (PySem.call f vs) Q E s := by
  have B : Base (prR w mg mb) := base_of hX (fun d hd => let ⟨a, _, _, _, _, e, _⟩ := hfn d hd; ⟨a, e⟩) hnb
  have G : Glb (prR w mg mb) s.heap := glb_of hX lim hg hb hbb hfn top
  refine law_holds B 0 hf ns (by omega) callerA (fun _ => False) s vs Q E ⟨⟨?_, ?_⟩, rfl, ⟨[], rfl, fun env he => nomatch he⟩⟩ G (fun a ha => ha.elim) hv fun v h' tk kk wv => ?_
  · decide +kernel
  · decide +kernel
  · cases wv
    exact k h' tk kk
end Rt

/-! H3 -/
namespace Rt
theorem recs_q : recsOf qR = recsOf pwR := by kernel_rfl
noncomputable def nbL : List Str := ["len", "range", "sorted", "list", "isinstance", "issubclass", "str", "bytes", "type", "object", "IndexError", "TypeError"]
theorem names_free : ∀ x ∈ nbL, x ∉ startupNames ∧ x ∉ looseW qR looseR ∧ x ∉ (recsOf qR).map (·.name) ∧ x ∉ (litsOf qR).map (·.1) ∧ x ∉ (clssOf qR (looseW qR looseR)).map (·.name) := by decide +kernel
theorem sp_obj {o : Obj} (h : spObj (fun c => specials.contains c) o = true) : o.ExactDict ∧ ∃ es ep, o.data = .dict es ep ∧ (∀ e ∈ es, ∃ k, Value.isInt k e.key = true ∧ e.hash = hashInt k) ∧ SpF (findBy Value.isInt es) := by
  unfold spObj at h
  simp only [Bool.and_eq_true] at h
  obtain ⟨⟨⟨h1, h2⟩, h3⟩, h4⟩ := h
  refine ⟨⟨beq_iff_eq.mp h1, Option.isNone_iff_eq_none.mp h2, Array.isEmpty_iff.mp h3⟩, ?_⟩
  split at h4
  · rename_i es ep hd
    rw [Bool.and_eq_true, List.all_eq_true, List.all_eq_true] at h4
    obtain ⟨k1, k2⟩ := h4
    refine ⟨es, ep, hd, fun e he => ?_, fun c hc => ?_⟩
    · have := k1 e (Array.mem_toList_iff.mpr he)
      unfold keyInt at this
      split at this
      · rename_i k t hk
        exact ⟨k, by rw [hk]; simp [Value.isInt], beq_iff_eq.mp this⟩
      · cases this
    · have := k2 c (List.mem_range.mpr hc)
      have es' : isSp c = specials.contains c := rfl
      unfold spAt at this
      rw [es']
      split at this
      · rename_i x t hx
        rw [Bool.and_eq_true] at this
        refine ⟨fun _ => ⟨t, by rw [hx, beq_iff_eq.mp this.2]⟩, fun q => ?_⟩
        have t1 : specials.contains c = true := this.1
        rw [t1] at q; cases q
      · cases this
      · rename_i hx
        refine ⟨fun q => ?_, fun _ => hx⟩
        have t1 : (!specials.contains c) = true := this
        rw [q] at t1; cases t1
  · cases h4
theorem main_of {s : Shared} (h : XtR s = true) : mainR (s.heap.nsMap mainGlobals) s.heap ∧ (s.heap.get? B1).isSome = true := by
  unfold XtR at h
  rw [Bool.and_eq_true] at h
  obtain ⟨h, h240⟩ := h
  refine ⟨?_, h240⟩
  unfold spHeap at h
  split at h
  · rename_i d hd
    rw [Bool.and_eq_true, Bool.and_eq_true] at h
    obtain ⟨⟨h1, h2⟩, h3⟩ := h
    split at h3
    · rename_i o ho
      exact ⟨d, o, hd, by simpa using h1, Nat.le_of_ble_eq_true h2, ho, sp_obj h3⟩
    · cases h3
  · cases h
noncomputable def XPR (mg : Str → Option Value) (h : Heap) : Prop := mainR mg h ∧ (h.get? B1).isSome = true
theorem XPR.keeps (mg : Str → Option Value) (h h' : Heap) (x : XPR mg h) (k : ∀ b o, h.get? b = some o → h'.get? b = some o) : XPR mg h' := by
  refine ⟨x.1.keeps k, ?_⟩
  obtain ⟨o, e⟩ := Option.isSome_iff_exists.mp x.2
  rw [k _ _ e]; rfl
theorem chains_q : chainsOk qR = true := by decide +kernel
theorem post_R (ns : List Int) : rowR.toRowW.claim.post [.list (ns.map .int)] (.bool true) [.list (ns.map .int)] = true := by
  have e1 : WShape.has [] (.bool true) .bool = true := by decide +kernel
  have e2 : W.same (.bool true) (.bool true) = true := by decide +kernel
  show (WShape.has [] (.bool true) .bool && WTm.holds [] (.eq .res (.lit (.bool true))) { args := [.list (ns.map .int)], res := some (.bool true), after := [.list (ns.map .int)] }) = true
  rw [e1, Bool.true_and]
  have e3 : WTm.value [] (.eq .res (.lit (.bool true))) { args := [.list (ns.map .int)], res := some (.bool true), after := [.list (ns.map .int)] } = some (.bool (W.same (.bool true) (.bool true))) := rfl
  unfold WTm.holds
  rw [e3, e2]
theorem said_R : lawR.wellSaid = true := by decide +kernel
theorem wit_R : ∃ args, rowR.toRowW.claim.pre args = true ∧ (WData.layableAll args && rowR.toRowW.returnsAt args) = true := ⟨[.list []], by decide +kernel, by decide +kernel⟩
theorem wit2_R : ∃ args, rowR.toRowW.claim.pre args = true ∧ WData.layableAll args = true := ⟨[.list []], by decide +kernel, by decide +kernel⟩
theorem whole_R : PySem.Challenge.pw_rt0086_01.tablesWhole = true := by decide +kernel
theorem bare_R : PySem.Challenge.pw_rt0086_01.bare := ⟨rfl, rfl, rfl, rfl, rfl, whole_R⟩
theorem opens_R : opensWell PySem.Challenge.pw_rt0086_01 = true := by decide +kernel
theorem ends_R (w : World) (s : Shared) (hz : s.asleep) (hgens : s.gens = #[]) (hg : s.heap.isNs mainGlobals = true)
    (G : Ground qR looseR [] XPR w s (s.heap.nsMap mainGlobals) (s.heap.nsMap builtinsNs) s.heap) (y : s.heap.objs.size = 241) (free : Addr → Prop) (gens : Prop) (kept : Heap → Prop) (hk : ∀ h, kept h) :
    rowR.toRowW.claim.CallFrom (callStub rowR.name) w free gens kept s := by
  refine ClaimW.callFrom_of_specG (c := rowR.toRowW.claim) (tree := fun vs => (callStub rowR.name vs).cur) hz hgens fun args hpre hlay ord hord => ?_
  obtain ⟨ns, rfl, hlen⟩ := args_of hpre
  obtain ⟨vals, t, e, hv⟩ := lay_script (classAt s.heap) w.params ord ns s
  have keeps := layAllW_keeps _ _ _ e
  obtain ⟨as, hrd, hin, hold⟩ := reads_layAllW hord _ _ _ e hlay _ (fun _ _ e => e)
  have L : Laid [] w s _ _ _ as := ⟨⟨ord, hord, e⟩, hrd, hin, hold, keeps, hgens, rfl⟩
  refine ⟨_, _, e, ?_⟩
  generalize hs1 : ({ s with toks := t, heap := s.heap.push { cls := .type "list", data := .seq vals.toArray } } : Shared) = s₁ at *
  have hheap : s₁.heap = s.heap.push { cls := .type "list", data := .seq vals.toArray } := by rw [← hs1]
  have hlist : s₁.heap.get? s.heap.objs.size = some { cls := .type "list", data := .seq vals.toArray } := by
    rw [hheap]; exact Heap.get?_push_size _ rfl
  have G₁ := G.keeps XPR.keeps keeps
  have hfn : ∀ d ∈ recsL.1, ∃ a o pm code doc, s.heap.nsMap mainGlobals d.name = some (.ref a) ∧ s₁.heap.get? a = some o ∧ o.data = .func (docDef d.name d.params d.body d.scope pm code doc) ∧ s₁.heap.CodeRec code d.name := fun d hd => G₁.T.fn d (by rw [recs_q, ← recsL.2]; exact hd)
  obtain ⟨fa, fo, _, _, _, hfa, _⟩ := hfn dLaw (List.getElem_mem _)
  have hnb : ∀ x ∈ nbL, s.heap.nsMap mainGlobals x = none := fun x hx => let ⟨a, b, c, d, f⟩ := names_free x hx; G₁.T.free x a b c d f
  show wpAny (model PySem.Challenge.pw_rt0086_01 w) callerA (nsGet mainNs rowR.name >>= fun r => match r with
      | some f => PySem.call f [.ref s.heap.objs.size] >>= fun v => ret v
      | none => unsupported "claim.caller:no-such-global") _ _ _
  refine wpAny_bind (wpAny_nsGet G₁.T.g ?_)
  have hfa' : s.heap.nsMap mainGlobals rowR.name = some (.ref fa) := hfa
  rw [hfa']
  refine wpAny_bind (call_of G₁.X.1 G₁.T.nolimit G₁.T.g G₁.T.b G₁.T.builtins hfn G₁.X.2 hnb hfa' ns hlen (.cons (.list ⟨_, hlist, rfl, _, rfl⟩ id (by simpa using hv _ _)) .nil) fun h' tk kk => ?_)
  refine wpAny_pure ⟨.ret (.bool true), rfl, ?_⟩
  have old : ∀ b o, s₁.heap.get? b = some o → h'.get? b = some o := fun b o eb => by
    rcases kk b o eb with q | ⟨⟨q, _⟩, es, ep, _, hd, _⟩
    · exact q
    · rw [B1_eq] at q
      have hb : b < 242 := by
        have := Heap.lt_size eb
        rw [hheap, Heap.size_push, y] at this
        exact this
      have q' : 240 < b := q
      have hb' : (b : Nat) = 241 := by
        have q2 : (240 : Nat) < b := q
        have h2 : (b : Nat) < 242 := hb
        exact Nat.le_antisymm (Nat.le_of_lt_succ h2) q2
      have : b = s.heap.objs.size := hb'.trans y.symm
      subst this
      rw [hlist] at eb
      cases eb
      cases hd
  have g : GoodWG rowR.toRowW.claim (classAt s.heap) (ExcName.means s.heap) [.list (ns.map .int)] s₁ (.ok (.ret (.bool true))) { s₁ with heap := h', toks := tk } :=
    ⟨.inl ⟨.bool true, .bool true, [], rfl, fun cls => rfl, .bool true, post_R ns, fun _ => ⟨List.nodup_nil, fun a ha => nomatch ha⟩⟩, .of_keep old, rfl, .of_eq L.gens⟩
  have z := g.laid (c := rowR.toRowW.claim) rfl rfl (ident_freeW (r := rowR.toRowW) rfl rfl rfl) L
  exact ⟨z.1, z.2.1, z.2.2, hk _⟩
theorem holds_R : lawR.Holds := by
  refine holds_law said_R fun said => ⟨said, wit_R, ⟨⟨bare_R, opens_R, rfl⟩, wit2_R, fun w => ?_⟩⟩
  have bh := left_R.behind (XP := XPR) (fun s hs => main_of hs) chains_q w
  refine ⟨bh.1, fun s' hs' => ?_⟩
  obtain ⟨s₀, hf, hg0, s, hT, hz, hgens, hg, G, y⟩ := bh.2 s' hs'
  refine ⟨s₀, hf, hg0, s, hT, fun n hn => ?_, (fun x hx => nomatch hx), (fun x hx => nomatch hx), ends_R w s hz (Array.eq_empty_of_size_eq_zero (beq_iff_eq.mp hgens)) hg G y _ _ _ fun h q => by cases q⟩
  have hn' : n ∈ [rowR.name] := hn
  obtain rfl := List.mem_singleton.mp hn'
  exact pinned_of_view hg G (by rfl) (by rfl) (by rfl)
end Rt
theorem PySem.Challenge.cw_rt0086_01_holds : PySem.Challenge.rw_rt0086_01.Holds := by
  exact Rt.holds_R
