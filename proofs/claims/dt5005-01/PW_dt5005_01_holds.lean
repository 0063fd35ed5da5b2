import PyProof.Rows.All
import Wide.All
import OpenK.AllK
import Wide.FinOn
import KE.KWithOwn
import KE.KSortKey
import KE.KLam
import Lean
import PySem.Challenge.RW_dt5005_01
set_option Elab.async false
section
open PySem PySem.W PyProof.Rows
set_option maxRecDepth 100000 in
set_option maxHeartbeats 0 in
open_top Mine.hd for PySem.Challenge.rw_dt5005_01
end
section
open PySem PySem.W PySem.Calls PyProof.Rows
set_option maxRecDepth 100000
set_option autoImplicit false
set_option linter.unusedVariables false
namespace Mine

abbrev PG : Program := PySem.Challenge.rw_dt5005_01.row.prog

/-- a text by its signs -/
def S (l : List Nat) : Str := ⟨l.toArray⟩
theorem S_toList (x : Str) : S x.cps.toList = x := by cases x; simp [S]

/-- values without their tokens -/
inductive AV where
  | int (i : Int) | str (x : List Nat) | bool (b : Bool) | none | ref (a : Addr) | raw (v : Value)

def AV.is : AV → Value → Prop
  | .int i, v => ∃ t, v = .int i t
  | .str x, v => ∃ t, v = .str (S x) t
  | .bool b, v => v = .bool b
  | .none, v => v = .none
  | .ref a, v => v = .ref a
  | .raw u, v => v = u

def avOf : Value → AV
  | .int i _ => .int i
  | .str x _ => .str x.cps.toList
  | .bool b => .bool b
  | .none => .none
  | .ref a => .ref a
  | v => .raw v
theorem avOf_is (v : Value) : (avOf v).is v := by
  cases v <;> first | exact ⟨_, by rw [S_toList]⟩ | exact ⟨_, rfl⟩ | exact rfl

inductive AllIs : List AV → List Value → Prop
  | nil : AllIs [] []
  | cons {a as v vs} : a.is v → AllIs as vs → AllIs (a :: as) (v :: vs)

def OptIs : Option AV → Option Value → Prop
  | none, none => True
  | some a, some v => a.is v
  | _, _ => False

abbrev Vars := List (Str × Option AV)

/-- what an owned object is -/
inductive Ob where
  | list (vs : List AV)
  | tup (vs : List AV)
  | ns (es : Vars)
  | dict (es : Vars)
  | inst (C dx : Addr)
  | cell (v : Option AV)
  | raw (o : Obj)
  | sat (P : Obj → Prop)

@[reducible] def LS (xs : List (List Nat)) : Ob := .list (xs.map .str)
@[reducible] def LI (xs : List Int) : Ob := .list (xs.map .int)

def NsOk (es : Vars) (o : Obj) : Prop := (es.map (·.1)).Nodup ∧ ∃ des n, o.data = .dict des n ∧ StrKeys des ∧ ∀ x, OptIs ((es.lookup x).join) (nsFind des x)

def Ob.ok : Ob → Obj → Prop
  | .list as, o => ∃ vs n, AllIs as vs ∧ o = { cls := .type "list", data := .seq vs.toArray n }
  | .tup as, o => ∃ vs n, AllIs as vs ∧ o = { cls := .type "tuple", data := .seq vs.toArray n }
  | .ns es, o => NsOk es o
  | .dict es, o => NsOk es o ∧ ∃ des n, o.data = .dict des n ∧ UniqKeys des
  | .inst C dx, o => o = instObj C dx
  | .cell v, o => ∃ u, o = { cls := .type "cell", data := .cell u } ∧ OptIs v u
  | .raw p, o => o = p
  | .sat P, o => P o

abbrev Led := List (Addr × Ob)

structure Wd where
  w : World
  B : Heap
  mg : Str → Option Value
  mb : Str → Option Value
  mean : ExcName → Option Value
  loose : List Str
  os : OsState
  G : Array GenState
  inK : (hd.heap_39 w.params).In B
  top : Top topProg loose mean mg mb B
  c1 : CodeHd B 367 363
  c2 : CodeHd B 259 255
  c3 : CodeHd B 244 240

abbrev Wd.M (D : Wd) : Model := model PG D.w

structure Rep (D : Wd) (led : Led) (s : Shared) : Prop where
  keep : ∀ b o, D.B.get? b = some o → s.heap.get? b = some o
  own : ∀ p ∈ led, ∃ o, s.heap.get? p.1 = some o ∧ p.2.ok o
  fresh : ∀ p ∈ led, D.B.get? p.1 = none
  nodup : (led.map (·.1)).Nodup
  os : s.os = D.os
  gk : ∀ (i : Nat) (x : GenState), D.G[i]? = some x → s.gens[i]? = some x
  bare : AllBare s.gens

theorem Rep.inK {D : Wd} {led : Led} {s : Shared} (R : Rep D led s) : (hd.heap_39 D.w.params).In s.heap := D.inK.keeps R.keep
theorem Rep.nolimit {D : Wd} {led : Led} {s : Shared} (R : Rep D led s) : s.heap.NoLimit := D.top.nolimit.keeps R.keep

theorem Rep.perm {D : Wd} {l l' : Led} {s : Shared} (R : Rep D l s) (p : l.Perm l') : Rep D l' s :=
  ⟨R.keep, fun q hq => R.own q (p.mem_iff.mpr hq), fun q hq => R.fresh q (p.mem_iff.mpr hq), (p.map _).nodup_iff.mp R.nodup, R.os, R.gk, R.bare⟩

theorem Rep.drop {D : Wd} {l r : Led} {s : Shared} (R : Rep D (l ++ r) s) : Rep D l s :=
  ⟨R.keep, fun q hq => R.own q (List.mem_append_left _ hq), fun q hq => R.fresh q (List.mem_append_left _ hq), by
    have := R.nodup
    rw [List.map_append] at this
    exact (List.nodup_append.mp this).1, R.os, R.gk, R.bare⟩

/-- l is part of l' -/
def Sub (l l' : Led) : Prop := ∃ r, l'.Perm (l ++ r)
theorem Sub.refl (l : Led) : Sub l l := ⟨[], by rw [List.append_nil]⟩
theorem Sub.perm {l l' : Led} (p : l'.Perm l) : Sub l l' := ⟨[], by rw [List.append_nil]; exact p⟩
theorem Sub.skip {l l' : Led} {x : Addr × Ob} (h : Sub l l') : Sub l (x :: l') := by
  obtain ⟨r, p⟩ := h
  exact ⟨x :: r, (p.cons x).trans List.perm_middle.symm⟩
theorem Sub.cons {l l' : Led} {x : Addr × Ob} (h : Sub l l') : Sub (x :: l) (x :: l') := by
  obtain ⟨r, p⟩ := h
  exact ⟨r, p.cons x⟩
theorem Sub.trans {a b c : Led} (h : Sub a b) (k : Sub b c) : Sub a c := by
  obtain ⟨r, p⟩ := h
  obtain ⟨q, t⟩ := k
  exact ⟨r ++ q, t.trans (by rw [← List.append_assoc]; exact p.append_right q)⟩
theorem Rep.sub {D : Wd} {l l' : Led} {s : Shared} (R : Rep D l' s) (h : Sub l l') : Rep D l s := by
  obtain ⟨r, p⟩ := h
  exact (R.perm p).drop

/-- taking entries out of a ledger -/
def Take1 (x : Addr × Ob) (l m : Led) : Prop := l.Perm (x :: m)
inductive Take : Led → Led → Led → Prop
  | nil {l : Led} : Take [] l l
  | cons {x : Addr × Ob} {P l m r : Led} : Take1 x l m → Take P m r → Take (x :: P) l r
theorem Take1.head {x : Addr × Ob} {l : Led} : Take1 x (x :: l) l := List.Perm.refl _
theorem Take1.tail {x y : Addr × Ob} {l m : Led} (h : Take1 x l m) : Take1 x (y :: l) (y :: m) := (List.Perm.cons y h).trans (List.Perm.swap x y m)
theorem Take.perm {P l r : Led} (h : Take P l r) : l.Perm (P ++ r) := by
  induction h with
  | nil => exact List.Perm.refl _
  | cons h1 _ ih => exact h1.trans (ih.cons _)

abbrev none_E : Value → Shared → Prop := fun _ _ => False

/-- the judgement under a frame L -/
def W (D : Wd) (A : Around) (L : Addr) {α : Type} (t : Sem α) (Q : α → Vars → Led → Prop) (vs : Vars) (led : Led) : Prop :=
  ∀ s, Rep D ((L, .ns vs) :: led) s → wpAny D.M A t (fun a s' => ∃ vs' led', Rep D ((L, .ns vs') :: led') s' ∧ Q a vs' led') none_E s

/-- a call, without a frame -/
def Cl (D : Wd) (A : Around) (f : Value) (args : List Value) (kw : List (Str × Value)) (Q : Value → Led → Prop) (led : Led) : Prop :=
  ∀ s, Rep D led s → codeAny D.M A (.call f ⟨args, kw⟩) (fun r s' => ∃ v led', r = .ok (.ret v) ∧ Rep D led' s' ∧ Q v led') s

def Back (L : Addr) (Q : Value → Vars → Led → Prop) (v : Value) (led' : Led) : Prop := ∃ vs'' led'', Sub ((L, .ns vs'') :: led'') led' ∧ Q v vs'' led''

section
variable {D : Wd} {A : Around} {L : Addr} {α β : Type} {vs : Vars} {led : Led}

theorem W.mono {t : Sem α} {Q Q' : α → Vars → Led → Prop} (h : W D A L t Q vs led) (k : ∀ a vs led, Q a vs led → Q' a vs led) : W D A L t Q' vs led :=
  fun s R => wpAny_mono (h s R) (fun a s' ⟨vs', led', R', q⟩ => ⟨vs', led', R', k _ _ _ q⟩) fun _ _ x => x
theorem W.pure {a : α} {Q : α → Vars → Led → Prop} (h : Q a vs led) : W D A L (pure a) Q vs led := fun _ R => wpAny_pure ⟨vs, led, R, h⟩
theorem W.bind {t : Sem α} {f : α → Sem β} {Q : β → Vars → Led → Prop} (h : W D A L t (fun a vs led => W D A L (f a) Q vs led) vs led) : W D A L (t >>= f) Q vs led :=
  fun s R => wpAny_bind (wpAny_mono (h s R) (fun a s' ⟨vs', led', R', q⟩ => q s' R') fun _ _ x => x)
theorem W.sub {t : Sem α} {Q : α → Vars → Led → Prop} {led' : Led} (p : Sub led' led) (h : W D A L t Q vs led') : W D A L t Q vs led :=
  fun s R => h s (R.sub (Sub.cons p))
theorem W.looks {t : Sem α} {r : α} {Q : α → Vars → Led → Prop} (x : Looks D.M D.B t r) (h : Q r vs led) : W D A L t Q vs led :=
  fun s R => x A _ _ s R.keep ⟨vs, led, R, h⟩
theorem W.of_eq {t t' : Sem α} {Q : α → Vars → Led → Prop} (e : t = t') (h : W D A L t' Q vs led) : W D A L t Q vs led := e ▸ h

theorem W.call {f : Value} {args : List Value} {kw : List (Str × Value)} {Q : Value → Vars → Led → Prop} (h : Cl D A f args kw (Back L Q) ((L, .ns vs) :: led)) :
    W D A L (PySem.call f args kw) Q vs led := fun s R => wpAny_call (codeAny_mono (h s R) fun r s' ⟨v, led', hr, R', vs'', led'', hs, q⟩ => by
  subst hr
  exact ⟨vs'', led'', R'.sub hs, q⟩)
/-- a call by a contract: P is what it wants of the ledger -/
theorem W.use {f : Value} {args : List Value} {kw : List (Str × Value)} {Q : Value → Vars → Led → Prop} {P R : Led} (ht : Take P led R)
    (h : Cl D A f args kw (Back L Q) (P ++ (L, .ns vs) :: R)) : W D A L (PySem.call f args kw) Q vs led :=
  W.call fun s Rp => h s (Rp.perm ((ht.perm.cons _).trans List.perm_middle.symm))
theorem Back.intro {Q : Value → Vars → Led → Prop} {v : Value} {P R : Led} (h : Q v vs (P ++ R)) : Back L Q v (P ++ (L, .ns vs) :: R) :=
  ⟨vs, P ++ R, Sub.perm List.perm_middle, h⟩
theorem Cl.mono {f : Value} {args : List Value} {kw : List (Str × Value)} {Q Q' : Value → Led → Prop} (h : Cl D A f args kw Q led) (k : ∀ v l, Q v l → Q' v l) : Cl D A f args kw Q' led :=
  fun s R => codeAny_mono (h s R) fun r s' ⟨v, led', hr, R', q⟩ => ⟨v, led', hr, R', k _ _ q⟩
end

/-- room for n frames more -/
def Room (A : Around) (n : Nat) : Prop := A.depth + n < recursionLimit ∧ A.units + 8 * n < cLine ∧ A.handled = none
theorem Room.deeper {A : Around} {n : Nat} {env : Env} (h : Room A (n + 1)) : Room (A.deeper env) n := by
  obtain ⟨a, b, c⟩ := h
  exact ⟨by show A.depth + 1 + n < _; omega, by show A.units + 3 + 8 * n < _; omega, c⟩
theorem Room.less {A : Around} {n m : Nat} (h : Room A n) (k : m ≤ n) : Room A m := by
  obtain ⟨a, b, c⟩ := h
  exact ⟨by omega, by omega, c⟩
theorem Room.depth {A : Around} {n : Nat} (h : Room A n) : A.depth < recursionLimit := by have := h.1; omega
theorem Room.units {A : Around} {n : Nat} (h : Room A n) : A.units < cLine := by have := h.2.1; omega

/-- what a def's environment is -/
structure Fn (env : Env) (L : Addr) (ls gs : List Str) : Prop where
  fk : env.scope.kind = .function
  lo : env.locals = L
  gl : env.globals = mainGlobals
  bl : env.builtins = builtinsNs
  ls : ∀ x ∈ ls, env.kindOf x = some .local ∧ (x == ("__debug__" : Str)) = false
  gs : ∀ x ∈ gs, env.kindOf x = some .globalImplicit ∧ (x == ("__debug__" : Str)) = false

def fnOk (fd : FuncData) (ls gs : List Str) : Bool :=
  fd.scope.kind == .function && !fd.scope.isCoroutine && !fd.scope.isGenerator && fd.globals == mainGlobals && fd.builtins == builtinsNs &&
  (fd.scope.names.all fun x => x.2 != .cell) &&
  decide ls.Nodup && (ls.all fun x => fd.scope.names.lookup x == some .local && !(x == ("__debug__" : Str))) &&
  (gs.all fun x => fd.scope.names.lookup x == some .globalImplicit && !(x == ("__debug__" : Str)))

/-- where a body ends: with its value, the frame and what else is dropped -/
def Fin (Q : Value → Led → Prop) (f : Flow) (_ : Vars) (led : Led) : Prop := ∃ led', Sub led' led ∧ Q (match f with | .ret v => v | _ => .none) led'

theorem frame_ns {h : Heap} {L : Addr} {binds : List (Str × Value)} {vs : Vars} (hnd : (vs.map (·.1)).Nodup) (hn : h.Ns L (fun x => binds.reverse.lookup x)) (hv : ∀ x, OptIs ((vs.lookup x).join) (binds.reverse.lookup x)) :
    ∃ o, h.get? L = some o ∧ (Ob.ns vs).ok o := by
  obtain ⟨o, es, ep, ho, hd, hk, hm⟩ := hn
  exact ⟨o, ho, hnd, es, ep, hd, hk, fun x => by rw [hm]; exact hv x⟩

/-- the names of a frame, bound -/
def varsOf (ls : List Str) (binds : List (Str × Value)) : Vars := ls.map fun x => (x, (binds.lookup x).map avOf)

theorem lookup_reverse_of_nodup {binds : List (Str × Value)} (hn : (binds.map (·.1)).Nodup) (x : Str) : binds.reverse.lookup x = binds.lookup x := by
  induction binds with
  | nil => rfl
  | cons p r ih =>
    obtain ⟨k, v⟩ := p
    rw [List.map_cons, List.nodup_cons] at hn
    rw [List.reverse_cons, List.lookup_append, ih hn.2, List.lookup_cons, List.lookup_cons, List.lookup_nil]
    by_cases hx : x = k
    · subst hx
      have : r.lookup x = none := by
        rw [List.lookup_eq_none_iff]
        intro p hp
        have : x ≠ p.1 := fun e => hn.1 (List.mem_map.mpr ⟨p, hp, e.symm⟩)
        simpa [bne_iff_ne] using this
      simp [this]
    · have : (x == k) = false := by simpa using hx
      simp [this]

theorem varsOf_ok {ls : List Str} {binds : List (Str × Value)} (hn : (binds.map (·.1)).Nodup) (hs : ∀ p ∈ binds, p.1 ∈ ls) (x : Str) : OptIs (((varsOf ls binds).lookup x).join) (binds.reverse.lookup x) := by
  rw [lookup_reverse_of_nodup hn]
  unfold varsOf
  by_cases hx : x ∈ ls
  · have : (ls.map fun x => (x, (binds.lookup x).map avOf)).lookup x = some ((binds.lookup x).map avOf) := by
      clear hs
      induction ls with
      | nil => cases hx
      | cons y r ih =>
        rw [List.map_cons, List.lookup_cons]
        by_cases h : x = y
        · subst h; simp
        · have e : (x == y) = false := by simpa using h
          simp only [e]
          exact ih ((List.mem_cons.mp hx).resolve_left h)
    rw [this, Option.join_some]
    cases binds.lookup x with
    | none => exact trivial
    | some v => exact avOf_is v
  · have e1 : (ls.map fun x => (x, (binds.lookup x).map avOf)).lookup x = none := by
      rw [List.lookup_eq_none_iff]
      intro p hp
      obtain ⟨y, hy, rfl⟩ := List.mem_map.mp hp
      have : x ≠ y := fun e => hx (e ▸ hy)
      simpa [bne_iff_ne] using this
    have e2 : binds.lookup x = none := by
      rw [List.lookup_eq_none_iff]
      intro p hp
      have : x ≠ p.1 := fun e => hx (e ▸ hs p hp)
      simpa [bne_iff_ne] using this
    rw [e1, e2]
    exact trivial

def bindsOk (fd : FuncData) (ls : List Str) (names : List Str) : Bool :=
  decide names.Nodup && names.all fun x => ls.contains x && fd.scope.names.lookup x == some .local

section
variable {D : Wd} {A : Around} {args : List Value} {kw : List (Str × Value)} {Q : Value → Led → Prop} {led : Led}

theorem Rep.addFrame {h' : Heap} {s : Shared} {L : Addr} {vs : Vars} {tk : Nat} (R : Rep D led s) (hL : L = s.heap.objs.size) (hf : ∃ o, h'.get? L = some o ∧ (Ob.ns vs).ok o)
    (hk : ∀ b o, s.heap.get? b = some o → h'.get? b = some o) : Rep D ((L, .ns vs) :: led) { s with heap := h', toks := tk } := by
  have nw : ∀ b o, s.heap.get? b = some o → b ≠ L := fun b o e q => by
    have := Heap.lt_size e
    rw [q, hL] at this
    exact absurd this (Nat.lt_irrefl _)
  refine ⟨fun b o e => hk _ _ (R.keep _ _ e), fun p hp => ?_, fun p hp => ?_, ?_, R.os, R.gk, R.bare⟩
  · rcases List.mem_cons.mp hp with rfl | hp
    · exact hf
    · obtain ⟨o, ho, hok⟩ := R.own p hp
      exact ⟨o, hk _ _ ho, hok⟩
  · rcases List.mem_cons.mp hp with rfl | hp
    · show D.B.get? L = none
      cases q : D.B.get? L with
      | none => rfl
      | some o => exact absurd rfl (nw _ _ (R.keep _ _ q))
    · exact R.fresh p hp
  · rw [List.map_cons, List.nodup_cons]
    refine ⟨fun hm => ?_, R.nodup⟩
    obtain ⟨p, hp, e⟩ := List.mem_map.mp hm
    obtain ⟨o, ho, _⟩ := R.own p hp
    exact nw _ _ ho e

theorem Cl.def_ {f : Addr} {fd : FuncData} {oc : Value} {od : Option Addr} {osl : Array (Option Value)} {binds : List (Str × Value)} {body : List Stmt} {ls gs : List Str} {n : Nat} {vs : Vars}
    (hK : (hd.heap_39 D.w.params).lookup f = some ⟨oc, od, .func fd, osl⟩) (hcd : codeIn (hd.heap_39 D.w.params) fd.code fd.qualname = true) (hroom : Room A (n + 1))
    (hbody : fd.body = .stmts body) (hok : fnOk fd ls gs = true) (hb : ∀ S, peek (hd.heap_39 D.w.params) S (bindArgs fd ⟨args, kw⟩) = some binds) (hbo : bindsOk fd ls (binds.map (·.1)) = true)
    (hvs : varsOf ls binds = vs) (h : ∀ env L A', Fn env L ls gs → Room A' n → W D A' L (execs body env) (Fin Q) vs led) : Cl D A (.ref f) args kw Q led := by
  intro s R
  subst hvs
  simp only [fnOk, Bool.and_eq_true, List.all_eq_true, Bool.not_eq_true', beq_iff_eq, decide_eq_true_eq] at hok
  obtain ⟨⟨⟨⟨⟨⟨⟨⟨h1, h2⟩, h3⟩, h4⟩, h5⟩, h6⟩, hnd⟩, h7⟩, h8⟩ := hok
  simp only [bindsOk, Bool.and_eq_true, List.all_eq_true, decide_eq_true_eq, beq_iff_eq, List.contains_iff_mem] at hbo
  have X := R.inK
  refine codeAny_call_def hroom.depth (X _ _ hK) rfl R.nolimit (codeRec_of X hcd) hbody (kp_binds X hb) (fun x hx => by simpa using h6 x hx) (fun x hx => (hbo.2 _ (List.mem_map_of_mem hx)).2) (fun h₀ hns hkeep => ?_) h2 h3 h1
  have Fd : Fn (callEnv fd s.heap.objs.size f) s.heap.objs.size ls gs := ⟨h1, rfl, h4, h5, fun x hx => by
      have := h7 x hx; exact ⟨this.1, by simpa using this.2⟩, fun x hx => by have := h8 x hx; exact ⟨this.1, by simpa using this.2⟩⟩
  have R' := R.addFrame (tk := s.toks + binds.length) (L := s.heap.objs.size) (vs := varsOf ls binds) rfl (frame_ns (by unfold varsOf; rw [List.map_map]; show (ls.map id).Nodup; rw [List.map_id]; exact hnd) hns (varsOf_ok hbo.1 fun p hp => (hbo.2 _ (List.mem_map_of_mem hp)).1)) hkeep
  refine wpAny_mono (h _ _ _ Fd hroom.deeper _ R') (fun fl s' ⟨vs', led', R'', q⟩ => ?_) fun _ _ x => x.elim
  obtain ⟨l2, hs, hq⟩ := q
  exact ⟨_, l2, rfl, R''.sub (hs.skip), hq⟩
end
end Mine
end
section
open PySem PySem.W PySem.Calls PyProof.Rows
set_option maxRecDepth 100000
set_option autoImplicit false
set_option linter.unusedVariables false
namespace Mine
section
variable {D : Wd} {A : Around} {L : Addr} {α β : Type} {vs : Vars} {led : Led} {env : Env}

theorem W.standAt {p : Pos} {Q : Unit → Vars → Led → Prop} (h : Q () vs led) : W D A L (PySem.standAt p) Q vs led := fun _ R => wpAny_standAt ⟨vs, led, R, h⟩
theorem W.rule {tag : String} {Q : Unit → Vars → Led → Prop} (h : Q () vs led) : W D A L (PySem.rule tag) Q vs led := fun _ R => wpAny_rule ⟨vs, led, R, h⟩
theorem W.point {Q : Unit → Vars → Led → Prop} (h : Q () vs led) : W D A L PySem.point Q vs led := fun _ R => wpAny_point ⟨vs, led, R, h⟩
theorem W.holding {xs : List Value} {m : Sem α} {Q : α → Vars → Led → Prop} (h : W D A L m Q vs led) : W D A L (PySem.holding xs m) Q vs led := fun s R => wpAny_holding (h s R)
theorem W.operate {xs : List Value} {m : Sem Value} {Q : Value → Vars → Led → Prop} (h : W D A L m Q vs led) : W D A L (PySem.operate xs m) Q vs led := fun s R => wpAny_operateT (h s R)
theorem W.release {xs ys : List Value} {Q : Unit → Vars → Led → Prop} (h : Q () vs led) : W D A L (PySem.release xs ys) Q vs led := fun s R Γ p hΓ => by
  rw [Sem.wp_release]; exact ⟨vs, led, R, h⟩
theorem W.keep {xs : List Value} {m : Sem α} {Q : α → Vars → Led → Prop} (h : W D A L m Q vs led) : W D A L (m.keep xs) Q vs led := fun s R => Calls.wpAny_keep (h s R)
theorem W.onRaise {m : Sem α} {k : Value → Sem Unit} {Q : α → Vars → Led → Prop} (h : W D A L m Q vs led) : W D A L (m.onRaise k) Q vs led := fun s R => wpAny_onRaise (wpAny_mono (h s R) (fun _ _ x => x) fun _ _ x => x.elim)
theorem W.mkInt {i : Int} {Q : Value → Vars → Led → Prop} (h : ∀ t, Q (.int i t) vs led) : W D A L (PySem.mkInt i) Q vs led :=
  fun s R => wpAny_mkInt ⟨vs, led, ⟨R.keep, R.own, R.fresh, R.nodup, R.os, R.gk, R.bare⟩, h _⟩
theorem W.mkText {x : Str} {Q : Value → Vars → Led → Prop} (h : ∀ t, Q (.str x t) vs led) : W D A L (PySem.mkText x) Q vs led :=
  fun s R => wpAny_mkText ⟨vs, led, ⟨R.keep, R.own, R.fresh, R.nodup, R.os, R.gk, R.bare⟩, h _⟩
theorem W.ite {c : Prop} [Decidable c] {a b : Sem α} {Q : α → Vars → Led → Prop} (h1 : c → W D A L a Q vs led) (h2 : ¬ c → W D A L b Q vs led) : W D A L (if c then a else b) Q vs led := by
  split
  · exact h1 ‹_›
  · exact h2 ‹_›

/-- a W step on a tree that a library rule takes at any heap like s's, tokens aside -/
theorem Rep.toks {s : Shared} {tk : Nat} (R : Rep D led s) : Rep D led { s with toks := tk } := ⟨R.keep, R.own, R.fresh, R.nodup, R.os, R.gk, R.bare⟩

/- guards: which kind of step is due -/
theorem W.isEval {e : Expr} {Q : Value → Vars → Led → Prop} (h : W D A L (eval e env) Q vs led) : W D A L (eval e env) Q vs led := h
theorem W.isExec {e : Stmt} {Q : Flow → Vars → Led → Prop} (h : W D A L (exec e env) Q vs led) : W D A L (exec e env) Q vs led := h
theorem W.isExecs {e : List Stmt} {Q : Flow → Vars → Led → Prop} (h : W D A L (execs e env) Q vs led) : W D A L (execs e env) Q vs led := h
theorem W.isTest {e : Expr} {m : Sem Value} {Q : Bool → Vars → Led → Prop} (h : W D A L (isTrue e env m) Q vs led) : W D A L (isTrue e env m) Q vs led := h
theorem W.isBin {op : Operator} {a b : Value} {Q : Value → Vars → Led → Prop} (h : W D A L (binaryOp op a b) Q vs led) : W D A L (binaryOp op a b) Q vs led := h
theorem W.isInpl {op : Operator} {a b : Value} {Q : Value → Vars → Led → Prop} (h : W D A L (inplaceOp op a b) Q vs led) : W D A L (inplaceOp op a b) Q vs led := h
theorem W.isCmp {op : CmpOp} {a b : Value} {Q : Value → Vars → Led → Prop} (h : W D A L (compareOp op a b) Q vs led) : W D A L (compareOp op a b) Q vs led := h
theorem W.isCall {f : Value} {a : List Value} {k : List (Str × Value)} {Q : Value → Vars → Led → Prop} (h : W D A L (PySem.call f a k) Q vs led) : W D A L (PySem.call f a k) Q vs led := h
theorem W.isTail {e f : Expr} {a b : Value} {Q : Value → Vars → Led → Prop} (h : W D A L (subscriptTail e f a b) Q vs led) : W D A L (subscriptTail e f a b) Q vs led := h
theorem W.isSpl {l : List (Bool × Sem Value)} {Q : List Value → Vars → Led → Prop} (h : W D A L (spliced l) Q vs led) : W D A L (spliced l) Q vs led := h
theorem W.isMeth {r : Value} {x : Str} {pl : Sem Bool} {Q : Value × List Value → Vars → Led → Prop} (h : W D A L (getMethod r x pl) Q vs led) : W D A L (getMethod r x pl) Q vs led := h
theorem W.isTruthy {r : Value} {Q : Bool → Vars → Led → Prop} (h : W D A L (truthy r) Q vs led) : W D A L (truthy r) Q vs led := h

/- statements -/
def Nx (D : Wd) (A : Around) (L : Addr) (rest : List Stmt) (env : Env) (Q : Flow → Vars → Led → Prop) : Flow → Vars → Led → Prop
  | .next, vs, led => W D A L (execs rest env) Q vs led
  | f, vs, led => Q f vs led
theorem Nx.next {rest : List Stmt} {Q : Flow → Vars → Led → Prop} (h : W D A L (execs rest env) Q vs led) : Nx D A L rest env Q .next vs led := h
theorem Nx.ret {rest : List Stmt} {Q : Flow → Vars → Led → Prop} {v : Value} (h : Q (.ret v) vs led) : Nx D A L rest env Q (.ret v) vs led := h
theorem Nx.brk {rest : List Stmt} {Q : Flow → Vars → Led → Prop} (h : Q .brk vs led) : Nx D A L rest env Q .brk vs led := h
theorem Nx.cont {rest : List Stmt} {Q : Flow → Vars → Led → Prop} (h : Q .cont vs led) : Nx D A L rest env Q .cont vs led := h
theorem W.execs_nil {Q : Flow → Vars → Led → Prop} (h : Q .next vs led) : W D A L (execs [] env) Q vs led := W.pure h
theorem W.execs_cons {st : Stmt} {rest : List Stmt} {Q : Flow → Vars → Led → Prop} (h : W D A L (exec st env) (Nx D A L rest env Q) vs led) : W D A L (execs (st :: rest) env) Q vs led := by
  rw [PySem.execs_cons]
  refine W.bind (W.mono h fun f vs led q => ?_)
  cases f <;> first | exact q | exact W.pure q
theorem W.execs_one {st : Stmt} {Q : Flow → Vars → Led → Prop} (h : W D A L (exec st env) Q vs led) : W D A L (execs [st] env) Q vs led := by
  refine W.execs_cons (W.mono h fun f vs led q => ?_)
  cases f <;> first | exact q | exact W.pure q

theorem W.Pass {pos : Pos} {Q : Flow → Vars → Led → Prop} (h : Q .next vs led) : W D A L (exec (.Pass pos) env) Q vs led := W.bind (W.standAt (W.pure h))
theorem W.Break {pos : Pos} {Q : Flow → Vars → Led → Prop} (h : Q .brk vs led) : W D A L (exec (.Break pos) env) Q vs led := W.bind (W.standAt (W.pure h))
theorem W.Continue {pos : Pos} {Q : Flow → Vars → Led → Prop} (h : Q .cont vs led) : W D A L (exec (.Continue pos) env) Q vs led := W.bind (W.standAt (W.pure h))
theorem W.Return {e : Expr} {pos : Pos} {Q : Flow → Vars → Led → Prop} (h : W D A L (eval e env) (fun v => Q (.ret v)) vs led) : W D A L (exec (.Return (some e) pos) env) Q vs led :=
  W.bind (W.standAt (W.bind (W.mono h fun _ _ _ q => W.pure q)))
theorem W.Return0 {pos : Pos} {Q : Flow → Vars → Led → Prop} (h : Q (.ret .none) vs led) : W D A L (exec (.Return none pos) env) Q vs led := W.bind (W.standAt (W.pure h))
theorem W.bindName {x : Str} {v : Value} {Q : Unit → Vars → Led → Prop} (h : W D A L (storeName env x v) Q vs led) : W D A L (PySem.bindName env x v) Q vs led :=
  fun s R => wpAny_bindName (h s R)
theorem W.Assign_Name {x : Str} {p' pos : Pos} {value : Expr} {Q : Flow → Vars → Led → Prop} (h : W D A L (eval value env) (fun v vs led => W D A L (storeName env x v) (fun _ => Q .next) vs led) vs led)
    (hs : swapsWith value (some (.Name x p')) pos.line env = Pure.pure false := by rfl) : W D A L (exec (.Assign [.Name x p'] value pos) env) Q vs led := by
  rw [exec_Assign_Name env x p' value pos hs]
  exact W.bind (W.standAt (W.bind (W.mono h fun _ _ _ q => W.bind (W.standAt (W.bind (W.bindName (W.mono q fun _ _ _ q => W.pure q)))))))
theorem W.AugAssign_Name {x : Str} {p' pos : Pos} {op : Operator} {value : Expr} {Q : Flow → Vars → Led → Prop}
    (h : W D A L (loadName env x) (fun old vs led => W D A L (eval value env) (fun v vs led => W D A L (inplaceOp op old v) (fun r vs led => W D A L (storeName env x r) (fun _ => Q .next) vs led) vs led) vs led) vs led) :
    W D A L (exec (.AugAssign (.Name x p') op value pos) env) Q vs led := by
  rw [exec_AugAssign_Name]
  exact W.bind (W.standAt (W.bind (W.mono h fun _ _ _ q => W.bind (W.holding (W.mono q fun _ _ _ q => W.bind (W.standAt (W.bind (W.operate (W.mono q fun _ _ _ q => W.bind (W.standAt (W.bind (W.bindName (W.mono q fun _ _ _ q => W.pure q)))))))))))))
/-- both ways of a test -/
theorem W.If {test : Expr} {body orelse : List Stmt} {pos : Pos} {Q : Flow → Vars → Led → Prop}
    (h : W D A L (isTrue test env (eval test env)) (fun b vs led => (b = true → W D A L (execs body env) Q vs led) ∧ (b = false → W D A L (execs orelse env) Q vs led)) vs led) : W D A L (exec (.If test body orelse pos) env) Q vs led := by
  rw [exec_If]
  refine W.bind (W.standAt (W.bind (W.mono h fun b _ _ q => ?_)))
  cases b
  · exact q.2 rfl
  · exact q.1 rfl
theorem W.IfExp {test body orelse : Expr} {pos : Pos} {Q : Value → Vars → Led → Prop}
    (h : W D A L (isTrue test env (eval test env)) (fun b vs led => (b = true → W D A L (eval body env) Q vs led) ∧ (b = false → W D A L (eval orelse env) Q vs led)) vs led) : W D A L (eval (.IfExp test body orelse pos) env) Q vs led := by
  rw [eval_IfExp]
  refine W.bind (W.mono h fun b _ _ q => ?_)
  cases b
  · exact q.2 rfl
  · exact q.1 rfl
/-- a test whose way is known -/
theorem way_t {b : Bool} {P Q : Prop} (e : b = true) (h : P) : (b = true → P) ∧ (b = false → Q) := ⟨fun _ => h, fun f => (by rw [e] at f; cases f)⟩
theorem way_f {b : Bool} {P Q : Prop} (e : b = false) (h : Q) : (b = true → P) ∧ (b = false → Q) := ⟨fun f => (by rw [e] at f; cases f), fun _ => h⟩
theorem way_d {p P Q : Prop} [Decidable p] (h1 : p → P) (h2 : ¬ p → Q) : (decide p = true → P) ∧ (decide p = false → Q) := ⟨fun e => h1 (of_decide_eq_true e), fun e => h2 (of_decide_eq_false e)⟩

theorem W.Expr_ {e : Expr} {pos : Pos} {Q : Flow → Vars → Led → Prop} (h : W D A L (eval e env) (fun v => Q .next) vs led) (hi : interactive env = false) (hs : swapsWith e none pos.line env = Pure.pure false := by rfl) :
    W D A L (exec (.Expr e pos) env) Q vs led := fun s R => by
  refine wpAny_Expr_any (wpAny_mono (h s R) (fun v s' q => q) fun _ _ x => x) hi hs

/- expressions -/
theorem W.Constant_int {i : Int} {k : Nat} {pos : Pos} {Q : Value → Vars → Led → Prop} (h : ∀ t, Q (.int i t) vs led) : W D A L (eval (.Constant (.int i) k pos) env) Q vs led := W.mkInt h
theorem W.Constant_str {x : Str} {l : List Nat} {k : Nat} {pos : Pos} {Q : Value → Vars → Led → Prop} (e : x = S l) (h : ∀ t, Q (.str (S l) t) vs led) : W D A L (eval (.Constant (.str x) k pos) env) Q vs led := by subst e; exact W.mkText h
theorem W.Constant_none {k : Nat} {pos : Pos} {Q : Value → Vars → Led → Prop} (h : Q .none vs led) : W D A L (eval (.Constant .none k pos) env) Q vs led := W.pure h
theorem W.Constant_bool {b : Bool} {k : Nat} {pos : Pos} {Q : Value → Vars → Led → Prop} (h : Q (.bool b) vs led) : W D A L (eval (.Constant (.bool b) k pos) env) Q vs led := W.pure h
theorem W.BinOp {l r : Expr} {op : Operator} {pos : Pos} {Q : Value → Vars → Led → Prop}
    (h : W D A L (eval l env) (fun a vs led => W D A L (eval r env) (fun b vs led => W D A L (binaryOp op a b) Q vs led) vs led) vs led) : W D A L (eval (.BinOp l op r pos) env) Q vs led := by
  rw [eval_BinOp]
  exact W.bind (W.mono h fun _ _ _ q => W.bind (W.holding (W.mono q fun _ _ _ q => W.bind (W.standAt (W.operate q)))))
theorem W.Compare1 {l r : Expr} {op : CmpOp} {pos : Pos} {Q : Value → Vars → Led → Prop}
    (h : W D A L (eval l env) (fun a vs led => W D A L (eval r env) (fun b vs led => W D A L (compareOp op a b) Q vs led) vs led) vs led) (hm : behindInMarks op r = false := by rfl) :
    W D A L (eval (.Compare l [op] [r] pos) env) Q vs led := by
  rw [eval_Compare1, markedBehindIn_of_false hm]
  exact W.bind (W.mono h fun _ _ _ q => W.bind (W.holding (W.mono q fun _ _ _ q => W.bind (W.standAt (W.operate q)))))
theorem W.isTrue_Compare1 {l r : Expr} {op : CmpOp} {pos : Pos} {whole : Sem Value} {Q : Bool → Vars → Led → Prop}
    (h : W D A L (eval l env) (fun a vs led => W D A L (eval r env) (fun b vs led => W D A L (compareOp op a b) (fun c vs led => W D A L (truthy c) Q vs led) vs led) vs led) vs led) (hm : behindInMarks op r = false := by rfl) :
    W D A L (isTrue (.Compare l [op] [r] pos) env whole) Q vs led := by
  rw [PySem.isTrue_Compare1, markedBehindIn_of_false hm]
  exact W.bind (W.mono h fun _ _ _ q => W.bind (W.holding (W.mono q fun _ _ _ q => W.bind (W.standAt (W.bind (W.operate (W.mono q fun _ _ _ q => W.holding q)))))))
theorem W.isTrue_plain {e : Expr} {whole : Sem Value} {Q : Bool → Vars → Led → Prop} (h : W D A L whole (fun v vs led => W D A L (truthy v) Q vs led) vs led)
    (he : isTrue e env whole = (do let v ← whole; PySem.standAt e.pos; PySem.holding [v] (truthy v)) := by rfl) : W D A L (isTrue e env whole) Q vs led := by
  rw [he]
  exact W.bind (W.mono h fun _ _ _ q => W.bind (W.standAt (W.holding q)))
theorem W.isTrue_not {x : Expr} {pos : Pos} {whole : Sem Value} {Q : Bool → Vars → Led → Prop} (h : W D A L (isTrue x env (eval x env)) (fun c vs led => Q (!c) vs led) vs led) : W D A L (isTrue (.UnaryOp .Not x pos) env whole) Q vs led := by
  show W D A L (do return !(← isTrue x env (eval x env))) Q vs led
  exact W.bind (W.mono h fun _ _ _ q => W.pure q)
theorem W.isTrue_and_nil {pos : Pos} {whole : Sem Value} {Q : Bool → Vars → Led → Prop} (h : Q true vs led) : W D A L (isTrue (.BoolOp .And [] pos) env whole) Q vs led := W.pure (a := true) h
theorem W.isTrue_or_nil {pos : Pos} {whole : Sem Value} {Q : Bool → Vars → Led → Prop} (h : Q false vs led) : W D A L (isTrue (.BoolOp .Or [] pos) env whole) Q vs led := W.pure (a := false) h
theorem W.isTrue_and {x : Expr} {rest : List Expr} {pos : Pos} {whole : Sem Value} {Q : Bool → Vars → Led → Prop}
    (h : W D A L (isTrue x env (eval x env)) (fun c vs led => (c = true → W D A L (isTrue (.BoolOp .And rest pos) env whole) Q vs led) ∧ (c = false → Q false vs led)) vs led) : W D A L (isTrue (.BoolOp .And (x :: rest) pos) env whole) Q vs led := by
  show W D A L (do
    match BoolOp.And, ← isTrue x env (eval x env) with
    | .And, false => Pure.pure false
    | .Or, true => Pure.pure true
    | _, _ => allTrue .And rest env) Q vs led
  refine W.bind (W.mono h fun c _ _ q => ?_)
  cases c with
  | false => exact W.pure (q.2 rfl)
  | true => exact q.1 rfl
theorem W.isTrue_or {x : Expr} {rest : List Expr} {pos : Pos} {whole : Sem Value} {Q : Bool → Vars → Led → Prop}
    (h : W D A L (isTrue x env (eval x env)) (fun c vs led => (c = true → Q true vs led) ∧ (c = false → W D A L (isTrue (.BoolOp .Or rest pos) env whole) Q vs led)) vs led) : W D A L (isTrue (.BoolOp .Or (x :: rest) pos) env whole) Q vs led := by
  show W D A L (do
    match BoolOp.Or, ← isTrue x env (eval x env) with
    | .And, false => Pure.pure false
    | .Or, true => Pure.pure true
    | _, _ => allTrue .Or rest env) Q vs led
  refine W.bind (W.mono h fun c _ _ q => ?_)
  cases c with
  | false => exact q.2 rfl
  | true => exact W.pure (q.1 rfl)
theorem W.truthy_bool {b : Bool} {Q : Bool → Vars → Led → Prop} (h : Q b vs led) : W D A L (truthy (.bool b)) Q vs led := fun s R => wpAny_truthy_bool ⟨vs, led, R, h⟩
theorem W.truthy_none {Q : Bool → Vars → Led → Prop} (h : Q false vs led) : W D A L (truthy .none) Q vs led := fun s R => PyProof.Rows.truthy_none ⟨vs, led, R, h⟩
theorem W.not_of {v : Value} {Q : Value → Vars → Led → Prop} (h : W D A L (truthy v) (fun c vs led => Q (.bool (!c)) vs led) vs led) : W D A L (unaryOp .Not v) Q vs led := fun s R => PyProof.Rows.not_of (h s R)
theorem W.UnaryOp {op : UnaryOp} {x : Expr} {pos : Pos} {Q : Value → Vars → Led → Prop} (h : W D A L (eval x env) (fun v vs led => W D A L (unaryOp op v) Q vs led) vs led) : W D A L (eval (.UnaryOp op x pos) env) Q vs led := by
  rw [eval_UnaryOp]
  exact W.bind (W.mono h fun _ _ _ q => W.bind (W.standAt (W.holding q)))

/- names -/
inductive Get (x : Str) (a : AV) : Vars → Prop
  | here {r : Vars} : Get x a ((x, some a) :: r)
  | there {p : Str × Option AV} {r : Vars} : Get x a r → Get x a (p :: r)
inductive Put (x : Str) (a : AV) : Vars → Vars → Prop
  | here {b : Option AV} {r : Vars} : Put x a ((x, b) :: r) ((x, some a) :: r)
  | there {p : Str × Option AV} {r r' : Vars} : Put x a r r' → Put x a (p :: r) (p :: r')
theorem Get.lookup {x : Str} {a : AV} {vs : Vars} (g : Get x a vs) (hn : (vs.map (·.1)).Nodup) : vs.lookup x = some (some a) := by
  induction g with
  | here => simp
  | @there p r g ih =>
    rw [List.map_cons, List.nodup_cons] at hn
    have m : x ∈ r.map (·.1) := by
      clear ih hn
      induction g with
      | here => exact .head _
      | there _ ih => exact .tail _ ih
    have : (x == p.1) = false := by
      cases q : x == p.1 with
      | false => rfl
      | true => exact absurd (by rw [← eq_of_beq q]; exact m) hn.1
    obtain ⟨k, v⟩ := p
    rw [List.lookup_cons, this]
    exact ih hn.2
theorem Put.names {x : Str} {a : AV} {vs vs' : Vars} (p : Put x a vs vs') : vs'.map (·.1) = vs.map (·.1) := by
  induction p with
  | here => rfl
  | there _ ih => rw [List.map_cons, List.map_cons, ih]
theorem Put.mem {x : Str} {a : AV} {vs vs' : Vars} (p : Put x a vs vs') : x ∈ vs.map (·.1) := by
  induction p with
  | here => exact .head _
  | there _ ih => exact .tail _ ih
theorem Put.lookup {x : Str} {a : AV} {vs vs' : Vars} (p : Put x a vs vs') (hn : (vs.map (·.1)).Nodup) (y : Str) : vs'.lookup y = if y = x then some (some a) else vs.lookup y := by
  induction p with
  | here => 
    rw [List.lookup_cons, List.lookup_cons]
    by_cases h : y = x
    · subst h; simp
    · have : (y == x) = false := by simpa using h
      simp [this, h]
  | @there q r r' g ih =>
    obtain ⟨k, v⟩ := q
    rw [List.map_cons, List.nodup_cons] at hn
    rw [List.lookup_cons, List.lookup_cons, ih hn.2]
    by_cases h : y = k
    · subst h
      have : y ≠ x := fun e => hn.1 (e ▸ g.mem)
      simp [this]
    · have : (y == k) = false := by simpa using h
      simp [this]
theorem NsOk.get {x : Str} {a : AV} {vs : Vars} {o : Obj} (h : NsOk vs o) (g : Get x a vs) : ∃ v, a.is v ∧ ∃ des n, o.data = .dict des n ∧ StrKeys des ∧ nsFind des x = some v := by
  obtain ⟨hn, des, n, hd, hk, hm⟩ := h
  have := hm x
  rw [g.lookup hn, Option.join_some] at this
  cases q : nsFind des x with
  | none => rw [q] at this; exact this.elim
  | some v => rw [q] at this; exact ⟨v, this, des, n, hd, hk, q⟩
theorem Rep.frame {s : Shared} {vs : Vars} (R : Rep D ((L, .ns vs) :: led) s) : ∃ m, s.heap.Ns L m ∧ ∀ x, OptIs ((vs.lookup x).join) (m x) := by
  obtain ⟨o, ho, hn, des, n, hd, hk, hm⟩ := R.own _ (.head _)
  exact ⟨nsFind des, ⟨o, des, n, ho, hd, hk, fun _ => rfl⟩, hm⟩
theorem Rep.vnodup {s : Shared} {vs : Vars} (R : Rep D ((L, .ns vs) :: led) s) : (vs.map (·.1)).Nodup := by
  obtain ⟨o, ho, hn, _⟩ := R.own _ (.head _)
  exact hn
/-- one owned object changed -/
theorem Rep.change {s : Shared} {h' : Heap} {tk : Nat} {a : Addr} {ob ob' : Ob} (R : Rep D ((a, ob) :: led) s) (hs : Heap.SameBut a s.heap h') (hn : ∃ o, h'.get? a = some o ∧ ob'.ok o) :
    Rep D ((a, ob') :: led) { s with heap := h', toks := tk } := by
  have hne : ∀ p ∈ led, p.1 ≠ a := fun p hp e => by
    have := R.nodup
    rw [List.map_cons, List.nodup_cons] at this
    exact this.1 (List.mem_map.mpr ⟨p, hp, e⟩)
  have ha : D.B.get? a = none := R.fresh _ (.head _)
  refine ⟨fun b o e => (hs.2 b (fun q => by rw [q, ha] at e; cases e)).trans (R.keep b o e), fun p hp => ?_, fun p hp => ?_, R.nodup, R.os, R.gk, R.bare⟩
  · rcases List.mem_cons.mp hp with rfl | hp
    · exact hn
    · obtain ⟨o, ho, hk⟩ := R.own p (.tail _ hp)
      exact ⟨o, (hs.2 _ (hne p hp)).trans ho, hk⟩
  · rcases List.mem_cons.mp hp with rfl | hp
    · exact ha
    · exact R.fresh p (.tail _ hp)

theorem W.loadL {x : Str} {a : AV} {ls gs : List Str} {Q : Value → Vars → Led → Prop} (F : Fn env L ls gs) (hx : x ∈ ls) (g : Get x a vs) (h : ∀ v, a.is v → Q v vs led) : W D A L (loadName env x) Q vs led := fun s R => by
  obtain ⟨m, hm, hv⟩ := R.frame
  have := hv x
  rw [g.lookup R.vnodup, Option.join_some] at this
  cases q : m x with
  | none => rw [q] at this; exact this.elim
  | some v =>
    rw [q] at this
    exact wpAny_loadName_local F.fk (F.ls x hx).1 (F.lo ▸ hm) q ⟨vs, led, R, h v this⟩
theorem W.ld {x : Str} {pos : Pos} {a : AV} {ls gs : List Str} {Q : Value → Vars → Led → Prop} (F : Fn env L ls gs) (hx : x ∈ ls) (g : Get x a vs) (h : ∀ v, a.is v → Q v vs led) : W D A L (eval (.Name x pos) env) Q vs led := by
  rw [eval_Name env x pos (F.ls x hx).2]
  exact W.bind (W.standAt (W.loadL F hx g h))
theorem W.ld_int {x : Str} {pos : Pos} {i : Int} {ls gs : List Str} {Q : Value → Vars → Led → Prop} (F : Fn env L ls gs) (hx : x ∈ ls) (g : Get x (.int i) vs) (h : ∀ t, Q (.int i t) vs led) : W D A L (eval (.Name x pos) env) Q vs led :=
  W.ld F hx g fun v ⟨t, e⟩ => e ▸ h t
theorem W.ld_str {x : Str} {pos : Pos} {i : List Nat} {ls gs : List Str} {Q : Value → Vars → Led → Prop} (F : Fn env L ls gs) (hx : x ∈ ls) (g : Get x (.str i) vs) (h : ∀ t, Q (.str (S i) t) vs led) : W D A L (eval (.Name x pos) env) Q vs led :=
  W.ld F hx g fun v ⟨t, e⟩ => e ▸ h t
theorem W.ld_ref {x : Str} {pos : Pos} {i : Addr} {ls gs : List Str} {Q : Value → Vars → Led → Prop} (F : Fn env L ls gs) (hx : x ∈ ls) (g : Get x (.ref i) vs) (h : Q (.ref i) vs led) : W D A L (eval (.Name x pos) env) Q vs led :=
  W.ld F hx g fun v e => by cases (show v = .ref i from e); exact h
theorem W.ld_bool {x : Str} {pos : Pos} {i : Bool} {ls gs : List Str} {Q : Value → Vars → Led → Prop} (F : Fn env L ls gs) (hx : x ∈ ls) (g : Get x (.bool i) vs) (h : Q (.bool i) vs led) : W D A L (eval (.Name x pos) env) Q vs led :=
  W.ld F hx g fun v e => by cases (show v = .bool i from e); exact h
theorem W.ld_none {x : Str} {pos : Pos} {ls gs : List Str} {Q : Value → Vars → Led → Prop} (F : Fn env L ls gs) (hx : x ∈ ls) (g : Get x .none vs) (h : Q .none vs led) : W D A L (eval (.Name x pos) env) Q vs led :=
  W.ld F hx g fun v e => by cases (show v = .none from e); exact h
theorem W.st {x : Str} {v : Value} {a : AV} {ls gs : List Str} {vs' : Vars} {Q : Unit → Vars → Led → Prop} (F : Fn env L ls gs) (hx : x ∈ ls) (ha : a.is v) (p : Put x a vs vs') (h : Q () vs' led) : W D A L (storeName env x v) Q vs led := fun s R => by
  obtain ⟨m, hm, hv⟩ := R.frame
  have hn := R.vnodup
  have lo := F.lo
  refine wpAny_storeName_local (F.ls x hx).1 (lo ▸ hm) (fun h' hns hs => ⟨vs', led, R.change (lo ▸ hs) ?_, h⟩) (by rw [F.fk]; rfl)
  rw [lo] at hns
  obtain ⟨o, des, n, ho, hd, hk, hf⟩ := hns
  refine ⟨o, ho, by rw [p.names]; exact hn, des, n, hd, hk, fun y => ?_⟩
  rw [hf, p.lookup hn]
  dsimp only
  by_cases e : y = x
  · rw [if_pos e, if_pos e]; exact ha
  · rw [if_neg e, if_neg e]; exact hv y
theorem is_int {i : Int} {t : Tok} : (AV.int i).is (.int i t) := ⟨t, rfl⟩
theorem is_str {i : List Nat} {t : Tok} : (AV.str i).is (.str (S i) t) := ⟨t, rfl⟩
theorem is_bool {i : Bool} : (AV.bool i).is (.bool i) := rfl
theorem is_ref {i : Addr} : (AV.ref i).is (.ref i) := rfl
theorem is_none : AV.none.is .none := rfl

/- names of the module's top and of the built-ins -/
def Glb (D : Wd) (x : Str) (f : Value) : Prop := D.mg x = some f ∨ (D.mg x = none ∧ D.mb x = some f)
theorem Glb.top {x : Str} {f : Value} (e : nsIn (hd.heap_39 D.w.params) mainGlobals x = some (some f)) : Glb D x f := .inl (mg_of D.inK D.top.g e)
theorem Glb.boot {x : Str} {f : Value} (e : nsIn (hd.heap_39 D.w.params) mainGlobals x = some none) (hv : bootBuiltins x = some f) (hn : x ≠ "__name__") : Glb D x f := .inr ⟨mg_none_of D.inK D.top.g e, (D.top.builtins x hn).trans hv⟩
theorem W.glb {x : Str} {pos : Pos} {f : Value} {ls gs : List Str} {Q : Value → Vars → Led → Prop} (F : Fn env L ls gs) (hx : x ∈ gs) (g : Glb D x f) (h : Q f vs led) : W D A L (eval (.Name x pos) env) Q vs led := fun s R => by
  refine Calls.Name_function_global F.fk (F.gs x hx).1 ?_ (F.gs x hx).2
  rcases g with g | ⟨g1, g2⟩
  · exact Calls.loadGlobal_global (by rw [F.gl]; exact D.top.g.keeps R.keep) g ⟨vs, led, R, h⟩
  · exact Calls.loadGlobal_builtin (by rw [F.gl]; exact D.top.g.keeps R.keep) g1 (by rw [F.bl]; exact D.top.b.keeps R.keep) g2 ⟨vs, led, R, h⟩

/- calls -/
theorem keeperOf_fn {f : Addr} {oc : Value} {od : Option Addr} {fd : FuncData} {sl : Array (Option Value)} (h : (hd.heap_39 D.w.params).lookup f = some ⟨oc, od, .func fd, sl⟩) : Looks D.M D.B (keeperOf (.ref f)) .frame := by
  intro A Q E s k q
  unfold keeperOf
  refine wpAny_bind (wpAny_load (k _ _ (D.inK _ _ h)) ?_)
  exact wpAny_pure q
theorem keeperOf_builtin {id : String} : Looks D.M D.B (keeperOf (.builtin id)) .machine := Looks.of_pure rfl
theorem keeperOf_type {id : String} : Looks D.M D.B (keeperOf (.type id)) .machine := Looks.of_pure rfl

theorem W.spliced_nil {Q : List Value → Vars → Led → Prop} (h : Q [] vs led) : W D A L (spliced []) Q vs led := W.pure h
theorem W.spliced_cons {x : Sem Value} {rest : List (Bool × Sem Value)} {Q : List Value → Vars → Led → Prop} (h : W D A L x (fun v vs led => W D A L (spliced rest) (fun l vs led => Q (v :: l) vs led) vs led) vs led) :
    W D A L (spliced ((false, x) :: rest)) Q vs led :=
  fun s R => Calls.spliced_cons (wpAny_mono (h s R) (fun v s' ⟨vs', led', R', q⟩ => q s' R') fun _ _ x => x)
theorem W.args_nil {pos : Pos} {Q : List Value → Vars → Led → Prop} (h : Q [] vs led) : W D A L (spliced (backTo pos (starEach [] env))) Q vs led := W.pure h
theorem W.args_cons {e : Expr} {rest : List Expr} {pos : Pos} {Q : List Value → Vars → Led → Prop}
    (h : W D A L (eval e env) (fun v vs led => W D A L (spliced (backTo pos (starEach rest env))) (fun l vs led => Q (v :: l) vs led) vs led) vs led)
    (he : starEach (e :: rest) env = (false, eval e env) :: starEach rest env := by rfl) : W D A L (spliced (backTo pos (starEach (e :: rest) env))) Q vs led := by
  rw [he]
  exact W.spliced_cons h
/-- arguments by place alone -/
theorem W.callWith {pos : Pos} {f : Value} {first : List Value} {args : List (Bool × Sem Value)} {k : Keeper} {Q : Value → Vars → Led → Prop} (hk : Looks D.M D.B (keeperOf f) k)
    (h : W D A L (spliced args) (fun l vs led => W D A L (PySem.call f (first ++ l)) Q vs led) vs led) (hp : args.any (·.1) = false) : W D A L (callWith pos f first args []) Q vs led := by
  have fin : ∀ {t : Sem Value} {vs led}, W D A L t Q vs led → W D A L (t >>= fun r => PySem.holding [r] PySem.point >>= fun _ => Pure.pure r) Q vs led :=
    fun h => W.bind (W.mono h fun _ _ _ q => W.bind (W.holding (W.point (W.pure q))))
  have ea : evalArgs f true args [] = (do let l ← spliced args; PySem.holding l (Pure.pure ⟨l, []⟩)) := by
    unfold evalArgs
    have : ∀ (x : Sem Value), args ≠ [(true, x)] := by rintro x rfl; cases hp
    rcases args with _ | ⟨⟨b, x⟩, r⟩
    · simp [evalAll, Option.toList]
    · cases b
      · simp [evalAll, Option.toList]
      · simp at hp
  unfold PySem.callWith
  rw [ea]
  refine W.bind (W.holding (W.bind (W.mono h fun l vs led q => W.holding (W.pure (W.bind (W.standAt ?_))))))
  simp only [hp, List.any_nil, Bool.or_false]
  refine W.bind (t := keeperOf f) (W.looks hk ?_)
  cases k
  · dsimp only
    split
    · exact fin q
    · exact fin (W.keep q)
  · dsimp only
    split
    · exact fin q
    · exact fin (W.keep q)
  · exact fin q
  · exact fin (W.operate q)
end
end Mine
end
section
open PySem PySem.W PySem.Calls PyProof.Rows
set_option maxRecDepth 100000
set_option autoImplicit false
set_option linter.unusedVariables false
namespace Mine
section
variable {D : Wd} {A : Around} {L : Addr} {α β : Type} {vs : Vars} {led led' : Led} {env : Env} {s : Shared} {a b : Addr} {as bs : List AV}

/-- one entry changed in place -/
inductive Up (a : Addr) (ob ob' : Ob) : Led → Led → Prop
  | here {r : Led} : Up a ob ob' ((a, ob) :: r) ((a, ob') :: r)
  | there {p : Addr × Ob} {r r' : Led} : Up a ob ob' r r' → Up a ob ob' (p :: r) (p :: r')
theorem Up.perm {ob ob' : Ob} (u : Up a ob ob' led led') : ∃ r, led.Perm ((a, ob) :: r) ∧ led'.Perm ((a, ob') :: r) := by
  induction u with
  | @here r => exact ⟨r, .refl _, .refl _⟩
  | @there p r r' _ ih =>
    obtain ⟨q, h1, h2⟩ := ih
    exact ⟨p :: q, (h1.cons p).trans (List.Perm.swap ..), (h2.cons p).trans (List.Perm.swap ..)⟩
theorem Up.mem {ob ob' : Ob} (u : Up a ob ob' led led') : (a, ob) ∈ led := by
  induction u with
  | here => exact .head _
  | there _ ih => exact .tail _ ih
theorem Rep.up {h' : Heap} {tk : Nat} {ob ob' : Ob} {vs : Vars} (R : Rep D ((L, .ns vs) :: led) s) (u : Up a ob ob' led led') (hs : Heap.SameBut a s.heap h') (hn : ∃ o, h'.get? a = some o ∧ ob'.ok o) :
    Rep D ((L, .ns vs) :: led') { s with heap := h', toks := tk } := by
  obtain ⟨r, h1, h2⟩ := u.perm
  have R1 := R.perm ((h1.cons (L, .ns vs)).trans (List.Perm.swap ..))
  have R2 := R1.change (tk := tk) hs hn
  exact R2.perm (((List.Perm.swap ..)).trans (h2.symm.cons _))
/-- an object made -/
theorem Rep.made {ob : Ob} {o : Obj} {h' : Heap} {tk : Nat} {vs : Vars} (R : Rep D ((L, .ns vs) :: led) s) (hs : ∀ b x, s.heap.get? b = some x → h'.get? b = some x) (ha : s.heap.objs.size ≤ a) (hg : h'.get? a = some o) (hok : ob.ok o) :
    Rep D ((L, .ns vs) :: (a, ob) :: led) { s with heap := h', toks := tk } := by
  have nw : ∀ b x, s.heap.get? b = some x → b ≠ a := fun b x e q => by
    have := Heap.lt_size e
    rw [q] at this
    exact absurd (Nat.lt_of_lt_of_le this ha) (Nat.lt_irrefl _)
  have R1 : Rep D ((a, ob) :: (L, .ns vs) :: led) { s with heap := h', toks := tk } := by
    refine ⟨fun b o e => hs _ _ (R.keep _ _ e), fun p hp => ?_, fun p hp => ?_, ?_, R.os, R.gk, R.bare⟩
    · rcases List.mem_cons.mp hp with rfl | hp
      · exact ⟨o, hg, hok⟩
      · obtain ⟨o', ho, hok⟩ := R.own p hp
        exact ⟨o', hs _ _ ho, hok⟩
    · rcases List.mem_cons.mp hp with rfl | hp
      · show D.B.get? a = none
        cases q : D.B.get? a with
        | none => rfl
        | some o => exact absurd rfl (nw _ _ (R.keep _ _ q))
      · exact R.fresh p hp
    · rw [List.map_cons, List.nodup_cons]
      refine ⟨fun hm => ?_, R.nodup⟩
      obtain ⟨p, hp, e⟩ := List.mem_map.mp hm
      obtain ⟨o', ho, _⟩ := R.own p hp
      exact nw _ _ ho e
  exact R1.perm (List.Perm.swap ..)
theorem Rep.pushed {ob : Ob} {o : Obj} {tk : Nat} {vs : Vars} (R : Rep D ((L, .ns vs) :: led) s) (hf : o.isFreed = false) (hok : ob.ok o) :
    Rep D ((L, .ns vs) :: (s.heap.objs.size, ob) :: led) { s with heap := s.heap.push o, toks := tk } :=
  R.made (fun b x e => Heap.get?_push_of_some _ e) (Nat.le_refl _) (Heap.get?_push_size _ hf) hok

theorem AllIs.length {as : List AV} {vals : List Value} (h : AllIs as vals) : vals.length = as.length := by
  induction h with
  | nil => rfl
  | cons _ _ ih => rw [List.length_cons, List.length_cons, ih]
theorem AllIs.get {as : List AV} {vals : List Value} (h : AllIs as vals) : ∀ {i : Nat} {x : AV}, as[i]? = some x → ∃ v, vals[i]? = some v ∧ x.is v := by
  induction h with
  | nil => intro i x e; simp at e
  | cons h0 _ ih =>
    intro i x e
    cases i with
    | zero => simp at e; subst e; exact ⟨_, rfl, h0⟩
    | succ i => simpa using ih (by simpa using e)
theorem AllIs.append {as bs : List AV} {vals us : List Value} (h : AllIs as vals) (k : AllIs bs us) : AllIs (as ++ bs) (vals ++ us) := by
  induction h with
  | nil => exact k
  | cons h0 _ ih => exact .cons h0 ih
theorem AllIs.set {as : List AV} {vals : List Value} (h : AllIs as vals) {x : AV} {v : Value} (k : x.is v) : ∀ i, AllIs (as.set i x) (vals.set i v) := by
  induction h with
  | nil => intro i; exact .nil
  | cons h0 h1 ih =>
    intro i
    cases i with
    | zero => exact .cons k h1
    | succ i => exact .cons h0 (ih i)
theorem AllIs.eraseIdx {as : List AV} {vals : List Value} (h : AllIs as vals) : ∀ i, AllIs (as.eraseIdx i) (vals.eraseIdx i) := by
  induction h with
  | nil => intro i; exact .nil
  | cons h0 h1 ih =>
    intro i
    cases i with
    | zero => exact h1
    | succ i => exact .cons h0 (ih i)
theorem AllIs.reverse {as : List AV} {vals : List Value} (h : AllIs as vals) : AllIs as.reverse vals.reverse := by
  induction h with
  | nil => exact .nil
  | cons h0 h1 ih => rw [List.reverse_cons, List.reverse_cons]; exact ih.append (.cons h0 .nil)
theorem AllIs.drop {as : List AV} {vals : List Value} (h : AllIs as vals) : ∀ n, AllIs (as.drop n) (vals.drop n) := by
  induction h with
  | nil => intro n; simp; exact .nil
  | cons h0 h1 ih =>
    intro n
    cases n with
    | zero => exact .cons h0 h1
    | succ n => exact ih n
theorem AllIs.take {as : List AV} {vals : List Value} (h : AllIs as vals) : ∀ n, AllIs (as.take n) (vals.take n) := by
  induction h with
  | nil => intro n; simp; exact .nil
  | cons h0 h1 ih =>
    intro n
    cases n with
    | zero => exact .nil
    | succ n => exact .cons h0 (ih n)

theorem Rep.listAt (R : Rep D led s) (hm : (a, .list as) ∈ led) : ∃ vals n, AllIs as vals ∧ s.heap.get? a = some { cls := .type "list", data := .seq vals.toArray n } := by
  obtain ⟨o, ho, vals, n, h1, rfl⟩ := R.own _ hm
  exact ⟨vals, n, h1, ho⟩
theorem Rep.tupAt (R : Rep D led s) (hm : (a, .tup as) ∈ led) : ∃ vals n, AllIs as vals ∧ s.heap.get? a = some { cls := .type "tuple", data := .seq vals.toArray n } := by
  obtain ⟨o, ho, vals, n, h1, rfl⟩ := R.own _ hm
  exact ⟨vals, n, h1, ho⟩
theorem isL {vals : Array Value} {n : Nat} (h : s.heap.get? a = some { cls := .type "list", data := .seq vals n }) : s.heap.IsList a vals := ⟨_, h, rfl, n, rfl⟩

/- displays -/
theorem W.newList {vals : List Value} {Q : Value → Vars → Led → Prop} (hi : AllIs as vals) (hz : vals.length ≤ 1000) (h : ∀ a, Q (.ref a) vs ((a, .list as) :: led)) : W D A L (newList vals) Q vs led := fun s R =>
  wpAny_newObj_type (Q := fun v s' => ∃ vs' led', Rep D ((L, .ns vs') :: led') s' ∧ Q v vs' led') ⟨vs, _, R.pushed (ob := .list as) (tk := s.toks) rfl ⟨vals, 0, hi, rfl⟩, h _⟩ (by show vals.toArray.size ≤ sizeLine; rw [List.size_toArray, sizeLine_eq]; omega)
theorem W.newTuple {vals : List Value} {Q : Value → Vars → Led → Prop} (hi : AllIs as vals) (hz : vals.length ≤ 1000) (h : ∀ a, Q (.ref a) vs ((a, .tup as) :: led)) : W D A L (newTuple vals) Q vs led := fun s R =>
  wpAny_newObj_type (Q := fun v s' => ∃ vs' led', Rep D ((L, .ns vs') :: led') s' ∧ Q v vs' led') ⟨vs, _, R.pushed (ob := .tup as) (tk := s.toks) rfl ⟨vals, 0, hi, rfl⟩, h _⟩ (by show vals.toArray.size ≤ sizeLine; rw [List.size_toArray, sizeLine_eq]; omega)

theorem W.List_ {elts : List Expr} {pos : Pos} {Q : Value → Vars → Led → Prop} (h : W D A L (spliced (backTo pos (starEach elts env))) (fun l vs led => W D A L (PySem.newList l) Q vs led) vs led) : W D A L (eval (.List elts pos) env) Q vs led := by
  show W D A L (do PySem.standAt pos; PySem.newList (← spliced (backTo pos (starEach elts env)))) Q vs led
  exact W.bind (W.standAt (W.bind h))
theorem W.Tuple_ {elts : List Expr} {k : Nat} {pos : Pos} {Q : Value → Vars → Led → Prop} (h : W D A L (spliced (backTo pos (starEach elts env))) (fun l vs led => W D A L (PySem.newTuple l) Q vs led) vs led) : W D A L (eval (.Tuple elts k pos) env) Q vs led := by
  show W D A L (do PySem.standAt pos; PySem.newTuple (← spliced (backTo pos (starEach elts env)))) Q vs led
  exact W.bind (W.standAt (W.bind h))

/- subscripts -/
theorem W.letTemporaryGo {base : Expr} {o r : Value} {Q : Unit → Vars → Led → Prop} (h : Q () vs led) : W D A L (letTemporaryGo base o r) Q vs led := fun s R => wpAny_letTemporaryGo ⟨vs, led, R, h⟩
theorem W.Subscript {value slice : Expr} {pos : Pos} {Q : Value → Vars → Led → Prop}
    (h : W D A L (eval value env) (fun o vs led => W D A L (eval slice env) (fun i vs led => W D A L (subscriptTail value slice o i) Q vs led) vs led) vs led) : W D A L (eval (.Subscript value slice pos) env) Q vs led := by
  rw [eval_Subscript]
  exact W.bind (W.mono h fun _ _ _ q => W.bind (W.holding (W.mono q fun _ _ _ q => W.bind (W.standAt q))))
def isSl : Expr → Bool
  | .Slice _ _ none _ => true
  | _ => false
theorem subscripted_plain {slice : Expr} (hs : isSl slice = false) (o i : Value) : subscripted slice false o i = PySem.operate [o, i] (PySem.getItem o i) := by
  unfold subscripted
  split
  · simp [isSl] at hs
  · rename_i h; cases h
  · rfl
theorem tail_of {prog : Program} {w : World} {E : Value → Shared → Prop} {value slice : Expr} {o i : Value} {T id : String} {Q : Value → Shared → Prop} (hT : s.TypeIs o T)
    (hl : typeLookup (.type T) "__getitem__" = pure (some (.builtin id))) (h : wpAny (model prog w) A (PySem.getItem o i) Q E s) (hs : isSl slice = false) : wpAny (model prog w) A (subscriptTail value slice o i) Q E s := by
  unfold subscriptTail
  refine wpAny_bind ?_
  rw [getitemInPython_of_ne hT.not_modules]
  refine wpAny_bind (wpAny_specialOf hT hl ?_)
  have fin : wpAny (model prog w) A (subscripted slice false o i) (fun r s₃ => wpAny (model prog w) A (PySem.letTemporaryGo value o r >>= fun _ => pure r) Q E s₃) E s := by
    rw [subscripted_plain hs]
    exact wpAny_operating (wpAny_mono h (fun r s₃ h₃ => wpAny_bind (wpAny_letTemporaryGo (wpAny_pure h₃))) fun _ _ x => x)
  exact wpAny_pure (wpAny_bind fin)
theorem W.item_list {value slice : Expr} {k : Int} {u : Tok} {x : AV} {Q : Value → Vars → Led → Prop} (hm : (a, .list as) ∈ led) (h0 : 0 ≤ k) (hx : as[k.toNat]? = some x) (hz : as.length ≤ 10000000) (h : ∀ v, x.is v → Q v vs led)
    (hs : isSl slice = false := by rfl) : W D A L (subscriptTail value slice (.ref a) (.int k u)) Q vs led := fun s R => by
  obtain ⟨vals, n, hi, hl⟩ := R.listAt (.tail _ hm)
  obtain ⟨v, hv, hq⟩ := hi.get hx
  have hlt : k.toNat < as.length := by
    rcases Nat.lt_or_ge k.toNat as.length with q | q
    · exact q
    · rw [List.getElem?_eq_none q] at hx; cases hx
  exact tail_of (isL hl).typeIs slot_list_getitem.lookup (wpAny_getItem_list (isL hl) h0 (by omega) (by simpa using hv) ⟨vs, led, R, h v hq⟩) hs
theorem W.item_last {value slice : Expr} {k : Int} {u : Tok} {x : AV} {Q : Value → Vars → Led → Prop} (hm : (a, .list as) ∈ led) (h0 : k = -1) (hx : as.getLast? = some x) (hz : as.length ≤ 10000000) (h : ∀ v, x.is v → Q v vs led)
    (hs : isSl slice = false := by rfl) : W D A L (subscriptTail value slice (.ref a) (.int k u)) Q vs led := fun s R => by
  obtain ⟨vals, n, hi, hl⟩ := R.listAt (.tail _ hm)
  rw [List.getLast?_eq_getElem?] at hx
  obtain ⟨v, hv, hq⟩ := hi.get hx
  have hlen := hi.length
  have hne : 0 < as.length := by
    rcases as with _ | _
    · simp at hx
    · simp
  exact tail_of (isL hl).typeIs slot_list_getitem.lookup (wpAny_getItem_list_neg (isL hl) (by omega) (by simp; omega) (by omega) (by
    have e : (k + (vals.toArray.size : Int)).toNat = as.length - 1 := by simp; omega
    rw [e]; simpa using hv) ⟨vs, led, R, h v hq⟩) hs
theorem W.item_tup {value slice : Expr} {k : Int} {u : Tok} {x : AV} {Q : Value → Vars → Led → Prop} (hm : (a, .tup as) ∈ led) (h0 : 0 ≤ k) (hx : as[k.toNat]? = some x) (hz : as.length ≤ 10000000) (h : ∀ v, x.is v → Q v vs led)
    (hs : isSl slice = false := by rfl) : W D A L (subscriptTail value slice (.ref a) (.int k u)) Q vs led := fun s R => by
  obtain ⟨vals, n, hi, hl⟩ := R.tupAt (.tail _ hm)
  obtain ⟨v, hv, hq⟩ := hi.get hx
  have hlt : k.toNat < as.length := by
    rcases Nat.lt_or_ge k.toNat as.length with q | q
    · exact q
    · rw [List.getElem?_eq_none q] at hx; cases hx
  have ht : IsTup s.heap a vals.toArray := ⟨_, hl, rfl, n, rfl⟩
  have hlen := hi.length
  exact tail_of ht.typeIs slot_tuple_getitem.lookup (getItem_tuple (j := k.toNat) ht (by omega) (by omega) (seqIndex_of h0 (by simp; omega)) (by simpa using hv) ⟨vs, led, R, h v hq⟩) hs

/- stores -/
theorem AllIs.setA {as : List AV} {vals : List Value} (h : AllIs as vals) {x : AV} {v : Value} (k : x.is v) (i : Nat) : AllIs (as.set i x) (vals.toArray.setIfInBounds i v).toList := by
  simpa using h.set k i
theorem toArray_toList_eq (x : Array Value) : x.toList.toArray = x := by simp
theorem setItem_plain {prog : Program} {w : World} {E : Value → Shared → Prop} {l : Addr} {items : Array Value} {n : Nat} {k : Int} {t : Tok} {v : Value} {Q : Unit → Shared → Prop} (hl : IsL s.heap l items n)
    (h0 : 0 ≤ k) (hfit : k < 2 ^ 63) (hn : k < items.size) (hQ : Q () { s with heap := s.heap.update l (Obj.mapSeq (·.setIfInBounds k.toNat v)) }) : wpAny (model prog w) A (setItem (.ref l) (.int k t) v) Q E s := by
  have hT := (IsL.isList hl).typeIs
  unfold setItem
  refine wpAny_holding ?_
  refine wpAny_bind (wpAny_sequenceKey hT (by decide) ?_)
  refine wpAny_bind (wpAny_callSpecial?_slot (name := Str.ofString "__setitem__") hT slot_list_setitem
    (wpAny_call_entry slot_list_setitem hT entry_list_setitem ?_ (args_list_setitem _ _ _)))
  show wpAny _ _ (Builtin.List.listSubscript? (.int k t) >>= _) _ _ s
  refine wpAny_bind (wpAny_listSubscript_int (fitsIndex_of h0 hfit) ?_)
  clear hfit
  obtain ⟨j, rfl⟩ := Int.eq_ofNat_of_zero_le h0
  have hj : j < items.size := by omega
  have hx' : items[j]? = some items[j] := Array.getElem?_eq_getElem hj
  show wpAny _ _ ((seqItemAt l j >>= fun r => pure (r.map (j, ·))) >>= _) _ _ s
  refine wpAny_bind (wpAny_bind (wpAny_seqItemAt hl rfl (wpAny_pure ?_)))
  rw [hx']
  show wpAny _ _ (setSeqItemAt l j v >>= _) _ _ s
  refine wpAny_bind (wpAny_setSeqItemAt hl rfl ?_)
  first
    | exact wpAny_bind (wpAny_pure (wpAny_pure ⟨.none, rfl, wpAny_pure hQ⟩))
    | exact wpAny_pure ⟨.none, rfl, wpAny_pure hQ⟩
/-- a list changed by a map of its items -/
theorem Rep.upSeq {tk : Nat} {vs : Vars} {xs ys : List AV} {vals : List Value} {n : Nat} {f : Array Value → Array Value} (R : Rep D ((L, .ns vs) :: led) s) (u : Up a (.list xs) (.list ys) led led') (hl : IsL s.heap a vals.toArray n) (hy : AllIs ys (f vals.toArray).toList) :
    Rep D ((L, .ns vs) :: led') { s with heap := s.heap.update a (Obj.mapSeq f), toks := tk } :=
  R.up u (Heap.SameBut.update ..) ⟨_, IsL.update hl f, _, _, hy, rfl⟩
theorem W.setItem_list {k : Int} {u : Tok} {v : Value} {x : AV} {Q : Unit → Vars → Led → Prop} (hu : Up a (.list as) (.list (as.set k.toNat x)) led led') (h0 : 0 ≤ k) (hk : k.toNat < as.length) (hz : as.length ≤ 10000000) (hx : x.is v) (h : Q () vs led') :
    W D A L (setItem (.ref a) (.int k u) v) Q vs led := fun s R => by
  obtain ⟨vals, n, hi, hl⟩ := R.listAt (.tail _ hu.mem)
  have hlen := hi.length
  exact setItem_plain (n := n) hl h0 (by omega) (by simp; omega) ⟨vs, led', R.upSeq (tk := s.toks) hu hl (hi.setA hx _), h⟩

theorem W.setItem0 {u : Tok} {v : Value} {x y : AV} {Q : Unit → Vars → Led → Prop} (hx : x.is v) (hu : Up a (.list (y :: as)) (.list (x :: as)) led led') (hz : as.length ≤ 1000000) (h : Q () vs led') :
    W D A L (setItem (.ref a) (.int 0 u) v) Q vs led := W.setItem_list (x := x) hu (by decide) (by simp) (by simp; omega) hx h
theorem W.setLast {k : Int} {u : Tok} {v : Value} {x y : AV} {Q : Unit → Vars → Led → Prop} (hx : x.is v) (hu : Up a (.list (as ++ [y])) (.list (as ++ [x])) led led') (hz : as.length ≤ 1000000) (h0 : k = -1) (h : Q () vs led') :
    W D A L (setItem (.ref a) (.int k u) v) Q vs led := fun s R => by
  obtain ⟨vals, n, hi, hl⟩ := R.listAt (.tail _ hu.mem)
  have hlen := hi.length
  have hsz : vals.length = as.length + 1 := by simpa using hlen
  subst h0
  have hT := (IsL.isList (n := n) hl).typeIs
  unfold setItem
  refine wpAny_holding ?_
  refine wpAny_bind (wpAny_sequenceKey hT (by decide) ?_)
  refine wpAny_bind (wpAny_callSpecial?_slot (name := Str.ofString "__setitem__") hT slot_list_setitem
    (wpAny_call_entry slot_list_setitem hT entry_list_setitem ?_ (args_list_setitem _ _ _)))
  show wpAny _ _ (Builtin.List.listSubscript? (.int (-1) u) >>= _) _ _ s
  refine wpAny_bind (wpAny_listSubscript_int (fitsIndex_neg (by decide) (by decide)) ?_)
  have hidx := seqIndex_neg (k := -1) (n := vals.toArray.size) (by decide) (by simp; omega)
  show wpAny _ _ ((Builtin.List.listItems (.ref a) >>= fun xs => Pure.pure ((seqIndex? (Int.negSucc 0) xs.size).bind fun i => xs[i]?.map (i, ·))) >>= _) _ _ s
  refine wpAny_bind (wpAny_bind ?_)
  show wpAny _ _ (seqItems? (.ref a) >>= _) _ _ s
  refine wpAny_bind (wpAny_seqItems hl rfl (wpAny_pure (wpAny_pure ?_)))
  have hj : ((-1 : Int) + (vals.toArray.size : Int)).toNat = as.length := by simp; omega
  rw [hj] at hidx
  have hlast : (as ++ [y])[as.length]? = some y := by simp
  obtain ⟨v0, hv0, hq0⟩ := hi.get hlast
  have hx' : vals.toArray[as.length]? = some v0 := by simpa using hv0
  rw [show Int.negSucc 0 = (-1 : Int) from rfl, hidx]
  simp only [Option.bind_some, hx', Option.map_some]
  show wpAny _ _ (setSeqItemAt a as.length v >>= _) _ _ s
  have hy : AllIs (as ++ [x]) (vals.toArray.setIfInBounds as.length v).toList := by
    have := hi.setA hx as.length
    simpa using this
  refine wpAny_bind (wpAny_setSeqItemAt hl rfl ?_)
  first
    | exact wpAny_bind (wpAny_pure (wpAny_pure ⟨.none, rfl, wpAny_pure ⟨vs, led', R.upSeq (tk := s.toks) hu hl hy, h⟩⟩))
    | exact wpAny_pure ⟨.none, rfl, wpAny_pure ⟨vs, led', R.upSeq (tk := s.toks) hu hl hy, h⟩⟩
theorem W.item_end {value slice : Expr} {k : Int} {u : Tok} {x : AV} {Q : Value → Vars → Led → Prop} (hm : (a, .list (as ++ [x])) ∈ led) (h0 : k = -1) (hz : as.length ≤ 1000000) (h : ∀ v, x.is v → Q v vs led)
    (hs : isSl slice = false := by rfl) : W D A L (subscriptTail value slice (.ref a) (.int k u)) Q vs led := W.item_last hm h0 (by simp) (by simp; omega) h hs
theorem W.eq_bool {c d : Bool} {Q : Value → Vars → Led → Prop} (h : Q (.bool (decide (c = d))) vs led) : W D A L (compareOp .Eq (.bool c) (.bool d)) Q vs led := fun s R => PyProof.Rows.eq_bool (by
  have e : (c == d) = decide (c = d) := by cases c <;> cases d <;> rfl
  rw [e]; exact ⟨vs, led, R, h⟩)
theorem W.eq_bool_none {c : Bool} {Q : Value → Vars → Led → Prop} (h : Q (.bool false) vs led) : W D A L (compareOp .Eq (.bool c) .none) Q vs led := fun s R => PySem.EqNone.eq_bool_none ⟨vs, led, R, h⟩

/- method calls -/
theorem W.MethodCall {o : Expr} {name : Str} {apos pos : Pos} {args : List Expr} {pl : Sem Bool} {Q : Value → Vars → Led → Prop}
    (h : W D A L (eval o env) (fun ov vs led => W D A L (getMethod ov name pl) (fun fx vs led => W D A L (PySem.callWith pos fx.1 fx.2 (backTo pos (starEach args env)) []) Q vs led) vs led) vs led)
    (he : eval (.Call (.Attribute o name apos) args [] pos) env = (do
      let ov ← eval o env
      PySem.standAt apos.atName
      let (f, first) ← PySem.holding [ov] (getMethod ov name pl)
      PySem.callWith pos f first (backTo pos (starEach args env)) []) := by rfl) :
    W D A L (eval (.Call (.Attribute o name apos) args [] pos) env) Q vs led := by
  rw [he]
  exact W.bind (W.mono h fun _ _ _ q => W.bind (W.standAt (W.bind (W.holding (W.mono q fun _ _ _ q => q)))))
theorem W.callWith1 {pos : Pos} {f x : Value} {args : List (Bool × Sem Value)} {k : Keeper} {Q : Value → Vars → Led → Prop} (hk : Looks D.M D.B (keeperOf f) k)
    (h : W D A L (spliced args) (fun l vs led => W D A L (PySem.call f (x :: l)) Q vs led) vs led) (hp : args.any (·.1) = false) : W D A L (PySem.callWith pos f [x] args []) Q vs led := W.callWith hk h hp
theorem W.callWith0 {pos : Pos} {f : Value} {args : List (Bool × Sem Value)} {k : Keeper} {Q : Value → Vars → Led → Prop} (hk : Looks D.M D.B (keeperOf f) k)
    (h : W D A L (spliced args) (fun l vs led => W D A L (PySem.call f l) Q vs led) vs led) (hp : args.any (·.1) = false) : W D A L (PySem.callWith pos f [] args []) Q vs led := W.callWith hk h hp
/-- a method of a built-in type, found and called -/
theorem W.mcL {name : Str} {id : String} {pl : Sem Bool} {pos : Pos} {args : List (Bool × Sem Value)} {Q : Value → Vars → Led → Prop} (hm : (a, .list as) ∈ led) (slot : Slot "list" name id) (ty : typeOf (.builtin id) = Pure.pure (.type "method_descriptor"))
    (h : W D A L (spliced args) (fun l vs led => W D A L (PySem.call (.builtin id) (.ref a :: l)) Q vs led) vs led) (hp : args.any (·.1) = false) :
    W D A L (getMethod (.ref a) name pl) (fun fx vs led => W D A L (PySem.callWith pos fx.1 fx.2 args []) Q vs led) vs led := fun s R => by
  obtain ⟨vals, n, hi, hl⟩ := R.listAt (.tail _ hm)
  exact getMethod_builtin ⟨_, hl, rfl⟩ F.plainAttrs_list slot ty (fun b e => by cases e; exact ⟨_, hl, rfl⟩) ⟨vs, led, R, W.callWith1 keeperOf_builtin h hp⟩
theorem W.mcS {x : Str} {t : Tok} {name : Str} {id : String} {pl : Sem Bool} {pos : Pos} {args : List (Bool × Sem Value)} {Q : Value → Vars → Led → Prop} (slot : Slot "str" name id) (ty : typeOf (.builtin id) = Pure.pure (.type "method_descriptor"))
    (h : W D A L (spliced args) (fun l vs led => W D A L (PySem.call (.builtin id) (.str x t :: l)) Q vs led) vs led) (hp : args.any (·.1) = false) :
    W D A L (getMethod (.str x t) name pl) (fun fx vs led => W D A L (PySem.callWith pos fx.1 fx.2 args []) Q vs led) vs led := fun s R =>
  getMethod_builtin (typeIs_str s x t) F.plainAttrs_str slot ty (fun b e => by cases e) ⟨vs, led, R, W.callWith1 keeperOf_builtin h hp⟩
theorem W.list_append {v : Value} {x : AV} {Q : Value → Vars → Led → Prop} (hu : Up a (.list as) (.list (as ++ [x])) led led') (hz : as.length ≤ 10000000) (hx : x.is v) (h : Q .none vs led') : W D A L (PySem.call (.builtin "list.append") [.ref a, v]) Q vs led := fun s R => by
  obtain ⟨vals, n, hi, hl⟩ := R.listAt (.tail _ hu.mem)
  have hlen := hi.length
  refine call_meets F.slot_list_append (T := "list") ⟨_, hl, rfl⟩ F.entry_list_append (F.args_list_append_2 _ _) (PySem.list_append a vals.toArray n v (by rw [List.size_toArray, sizeLine_eq]; omega)) ⟨hl, ?_⟩
  exact ⟨vs, led', R.upSeq hu hl (by simpa using hi.append (.cons hx .nil)), h⟩
theorem W.list_pop0 {u : Tok} {x : AV} {Q : Value → Vars → Led → Prop} (hu : Up a (.list (x :: as)) (.list as) led led') (hz : as.length ≤ 1000000) (h : ∀ v, x.is v → Q v vs led') : W D A L (PySem.call (.builtin "list.pop") [.ref a, .int 0 u]) Q vs led := fun s R => by
  obtain ⟨vals, n, hi, hl⟩ := R.listAt (.tail _ hu.mem)
  have hlen := hi.length
  cases hi with
  | @cons _ _ v vals h0 h1 =>
    refine call_meets F.slot_list_pop (T := "list") ⟨_, hl, rfl⟩ F.entry_list_pop (F.args_list_pop_2 _ _) (PySem.MeetsSeq.list_pop_at a (v :: vals).toArray n 0 u 0 v (by decide) (by simp [seqIndex?]) (by simp) (by rw [List.size_toArray, sizeLine_eq]; simp at hlen ⊢; omega)) ⟨hl, ?_⟩
    exact ⟨vs, led', R.upSeq hu hl (by simpa [Array.eraseIdxIfInBounds] using h1), h _ h0⟩
theorem W.list_pop {x : AV} {Q : Value → Vars → Led → Prop} (hu : Up a (.list (as ++ [x])) (.list as) led led') (hz : as.length ≤ 1000000) (h : ∀ v, x.is v → Q v vs led') : W D A L (PySem.call (.builtin "list.pop") [.ref a]) Q vs led := fun s R => by
  obtain ⟨vals, n, hi, hl⟩ := R.listAt (.tail _ hu.mem)
  have hlen := hi.length
  have hlast : (as ++ [x])[as.length]? = some x := by simp
  obtain ⟨v, hv, hq⟩ := hi.get hlast
  have hsz : vals.length = as.length + 1 := by simpa using hlen
  refine call_meets F.slot_list_pop (T := "list") ⟨_, hl, rfl⟩ F.entry_list_pop (F.args_list_pop_1 _) (PySem.MeetsSeq.list_pop_last a vals.toArray n v (by simpa [hsz] using hv) (by rw [List.size_toArray, sizeLine_eq]; omega)) ⟨hl, ?_⟩
  refine ⟨vs, led', R.upSeq hu hl ?_, h _ hq⟩
  have h2 := hi.eraseIdx as.length
  have e1 : (as ++ [x]).eraseIdx as.length = as := by
    rw [List.eraseIdx_append_of_length_le (Nat.le_refl _)]; simp
  rw [e1] at h2
  simpa [Array.eraseIdxIfInBounds, hsz] using h2
theorem W.list_reverse {Q : Value → Vars → Led → Prop} (hu : Up a (.list as) (.list as.reverse) led led') (hz : as.length ≤ 10000000) (h : Q .none vs led') : W D A L (PySem.call (.builtin "list.reverse") [.ref a]) Q vs led := fun s R => by
  obtain ⟨vals, n, hi, hl⟩ := R.listAt (.tail _ hu.mem)
  have hlen := hi.length
  refine call_meets F.slot_list_reverse (T := "list") ⟨_, hl, rfl⟩ F.entry_list_reverse (F.args_list_reverse_1 _) (AutoSeq1.list_reverse_list_0 a vals.toArray n (by rw [List.size_toArray, sizeLine_eq]; omega)) ⟨hl, ?_⟩
  exact ⟨vs, led', R.upSeq hu hl (by simpa using hi.reverse), h⟩
theorem W.len_list {Q : Value → Vars → Led → Prop} (hm : (a, .list as) ∈ led) (hz : as.length ≤ 10000000) (h : ∀ t, Q (.int as.length t) vs led) : W D A L (PySem.call (.builtin "len") [.ref a]) Q vs led := fun s R => by
  obtain ⟨vals, n, hi, hl⟩ := R.listAt (.tail _ hm)
  have hlen := hi.length
  refine Calls.call_len_list (isL hl) (by simp; omega) ?_
  rw [List.size_toArray, hlen]
  exact ⟨vs, led, R.toks, h _⟩
theorem W.truthy_list {Q : Bool → Vars → Led → Prop} (hm : (a, .list as) ∈ led) (hz : as.length ≤ 10000000) (h : Q (!as.isEmpty) vs led) : W D A L (truthy (.ref a)) Q vs led := fun s R => by
  obtain ⟨vals, n, hi, hl⟩ := R.listAt (.tail _ hm)
  have hlen := hi.length
  refine wpAny_truthy_list (isL hl) (by simp; omega) ?_
  have : vals.toArray.isEmpty = as.isEmpty := by cases hi <;> rfl
  rw [this]
  exact ⟨vs, led, R.toks, h⟩
/-- two lists compared, one of them empty -/
theorem W.ne_nil {Q : Value → Vars → Led → Prop} {n : Nat} (hr : Room A n) (hm : (a, .list as) ∈ led) (hb : (b, .list []) ∈ led) (h : Q (.bool (!as.isEmpty)) vs led) : W D A L (compareOp .NotEq (.ref a) (.ref b)) Q vs led := fun s R => by
  obtain ⟨vals, n, hi, hl⟩ := R.listAt (.tail _ hm)
  obtain ⟨vals2, n2, hi2, hl2⟩ := R.listAt (.tail _ hb)
  cases hi2
  cases hi with
  | nil =>
    have := PySem.SeqAt.RcNeAt.lists (A := A) (e := fun _ => true) (isL hl) (isL hl2) rfl hr.units (fun j h1 _ => absurd h1 (by simp)) PG D.w none_E (fun v s' => ∃ vs' led', Rep D ((L, .ns vs') :: led') s' ∧ Q v vs' led')
    exact this ⟨vs, led, R, h⟩
  | cons h0 h1 =>
    have := PySem.SeqAt.RcNeAt.lists_lengths (A := A) (isL hl) (isL hl2) (by simp) hr.units PG D.w none_E (fun v s' => ∃ vs' led', Rep D ((L, .ns vs') :: led') s' ∧ Q v vs' led')
    exact this ⟨vs, led, R, h⟩
theorem W.eq_nil {Q : Value → Vars → Led → Prop} {n : Nat} (hr : Room A n) (hm : (a, .list as) ∈ led) (hb : (b, .list []) ∈ led) (h : Q (.bool as.isEmpty) vs led) : W D A L (compareOp .Eq (.ref a) (.ref b)) Q vs led := fun s R => by
  obtain ⟨vals, n, hi, hl⟩ := R.listAt (.tail _ hm)
  obtain ⟨vals2, n2, hi2, hl2⟩ := R.listAt (.tail _ hb)
  cases hi2
  cases hi with
  | nil =>
    have := PySem.SeqAt.RcAt.lists (A := A) (e := fun _ => true) (isL hl) (isL hl2) rfl hr.units (fun j h1 _ => absurd h1 (by simp)) PG D.w none_E (fun v s' => ∃ vs' led', Rep D ((L, .ns vs') :: led') s' ∧ Q v vs' led')
    exact this ⟨vs, led, R, h⟩
  | cons h0 h1 =>
    have := PySem.SeqAt.RcAt.lists_lengths (A := A) (isL hl) (isL hl2) (by simp) hr.units PG D.w none_E (fun v s' => ∃ vs' led', Rep D ((L, .ns vs') :: led') s' ∧ Q v vs' led')
    exact this ⟨vs, led, R, h⟩
theorem W.add_list {Q : Value → Vars → Led → Prop} (hm : (a, .list as) ∈ led) (hb : (b, .list bs) ∈ led) (hz : as.length + bs.length ≤ 10000000) (h : ∀ c, Q (.ref c) vs ((c, .list (as ++ bs)) :: led)) : W D A L (binaryOp .Add (.ref a) (.ref b)) Q vs led := fun s R => by
  obtain ⟨vals, n, hi, hl⟩ := R.listAt (.tail _ hm)
  obtain ⟨vals2, n2, hi2, hl2⟩ := R.listAt (.tail _ hb)
  have e1 := hi.length
  have e2 := hi2.length
  exact P.add_list (n := n) (n2 := n2) hl hl2 ⟨vs, _, R.pushed (ob := .list (as ++ bs)) (tk := s.toks) rfl ⟨vals ++ vals2, 0, hi.append hi2, by simp⟩, h _⟩ (by simp [sizeLine_eq]; omega)
theorem W.del_last {k : Int} {u : Tok} {x : AV} {Q : Unit → Vars → Led → Prop} (hu : Up a (.list (as ++ [x])) (.list as) led led') (h0 : k = -1) (hz : as.length ≤ 1000000) (h : Q () vs led') : W D A L (delItem (.ref a) (.int k u)) Q vs led := fun s R => by
  obtain ⟨vals, n, hi, hl⟩ := R.listAt (.tail _ hu.mem)
  have hlen := hi.length
  have hsz : vals.length = as.length + 1 := by simpa using hlen
  subst h0
  refine P.delItem_list (n := n) hl (k := as.length) (by decide) ?_ ⟨vs, led', R.upSeq (tk := s.toks) hu hl ?_, h⟩ (by rw [List.size_toArray, sizeLine_eq]; omega)
  · rw [seqIndex_neg (by decide) (by simp; omega)]
    congr 1
    simp
    omega
  · have h2 := hi.eraseIdx as.length
    have e1 : (as ++ [x]).eraseIdx as.length = as := by
      rw [List.eraseIdx_append_of_length_le (Nat.le_refl _)]; simp
    rw [e1] at h2
    simpa [Array.eraseIdxIfInBounds, hsz] using h2

/- ints -/
theorem W.add_int {x y : Int} {t u : Tok} {Q : Value → Vars → Led → Prop} (h : ∀ t, Q (.int (x + y) t) vs led) : W D A L (binaryOp .Add (.int x t) (.int y u)) Q vs led := fun s R => PyProof.Rows.add_int ⟨vs, led, R.toks, h _⟩
theorem W.iadd_int {x y : Int} {t u : Tok} {Q : Value → Vars → Led → Prop} (h : ∀ t, Q (.int (x + y) t) vs led) : W D A L (inplaceOp .Add (.int x t) (.int y u)) Q vs led := fun s R => PyProof.Rows.iadd_int ⟨vs, led, R.toks, h _⟩
theorem W.sub_int {x y : Int} {t u : Tok} {Q : Value → Vars → Led → Prop} (h : ∀ t, Q (.int (x - y) t) vs led) : W D A L (binaryOp .Sub (.int x t) (.int y u)) Q vs led := fun s R => PyProof.Rows.sub_int ⟨vs, led, R.toks, h _⟩
theorem W.mul_int {x y : Int} {t u : Tok} {Q : Value → Vars → Led → Prop} (hm : IntMulOk x y) (h : ∀ t, Q (.int (x * y) t) vs led) : W D A L (binaryOp .Mult (.int x t) (.int y u)) Q vs led := fun s R => PyProof.Rows.mul_int ⟨vs, led, R.toks, h _⟩ hm
theorem W.mod_int {x y : Int} {t u : Tok} {Q : Value → Vars → Led → Prop} (hy : 0 < y) (h : ∀ t, Q (.int (x % y) t) vs led) : W D A L (binaryOp .Mod (.int x t) (.int y u)) Q vs led := fun s R =>
  PyProof.Rows.mod_int' (by omega) (by rw [Int.fmod_eq_emod_of_nonneg _ (Int.le_of_lt hy)]; exact ⟨vs, led, R.toks, h _⟩)
theorem W.fdiv_int {x y : Int} {t u : Tok} {Q : Value → Vars → Led → Prop} (hy : 0 < y) (hx : 0 ≤ x) (hb : x < 2 ^ 62) (hb2 : y < 2 ^ 29) (h : ∀ t, Q (.int (x / y) t) vs led) : W D A L (binaryOp .FloorDiv (.int x t) (.int y u)) Q vs led := fun s R =>
  PyProof.Rows.floordiv_int (by omega) (by rw [Int.fdiv_eq_ediv_of_nonneg _ (Int.le_of_lt hy)]; exact ⟨vs, led, R.toks, h _⟩) (Or.inl (PyProof.noPylong_small (by omega)))
theorem W.neg_int {x : Int} {t : Tok} {Q : Value → Vars → Led → Prop} (h : ∀ t, Q (.int (-x) t) vs led) : W D A L (unaryOp .USub (.int x t)) Q vs led := fun s R => PyProof.Rows.neg_int ⟨vs, led, R.toks, h _⟩
theorem W.lt_int {x y : Int} {t u : Tok} {Q : Value → Vars → Led → Prop} (h : Q (.bool (decide (x < y))) vs led) : W D A L (compareOp .Lt (.int x t) (.int y u)) Q vs led := fun s R => PyProof.Rows.lt_int ⟨vs, led, R, h⟩
theorem W.gt_int {x y : Int} {t u : Tok} {Q : Value → Vars → Led → Prop} (h : Q (.bool (decide (y < x))) vs led) : W D A L (compareOp .Gt (.int x t) (.int y u)) Q vs led := fun s R => PyProof.Rows.gt_int ⟨vs, led, R, h⟩
theorem W.eq_int {x y : Int} {t u : Tok} {Q : Value → Vars → Led → Prop} (h : Q (.bool (decide (x = y))) vs led) : W D A L (compareOp .Eq (.int x t) (.int y u)) Q vs led := fun s R => PyProof.Rows.eq_int (by
  have e : (x == y) = decide (x = y) := by by_cases q : x = y <;> simp [q]
  rw [e]; exact ⟨vs, led, R, h⟩)
theorem W.ne_int {x y : Int} {t u : Tok} {Q : Value → Vars → Led → Prop} (h : Q (.bool (decide (x ≠ y))) vs led) : W D A L (compareOp .NotEq (.int x t) (.int y u)) Q vs led := fun s R => PyProof.Rows.ne_int (by
  have e : (x != y) = decide (x ≠ y) := by by_cases q : x = y <;> simp [q]
  rw [e]; exact ⟨vs, led, R, h⟩)
theorem W.max_int {x y : Int} {t u : Tok} {n : Nat} {Q : Value → Vars → Led → Prop} (hr : Room A n) (h : ∀ t, Q (.int (max x y) t) vs led) : W D A L (PySem.call (.builtin "max") [.int x t, .int y u]) Q vs led := fun s R =>
  max_two_ints hr.2.2 fun h' tk hk => by
    have R' : Rep D ((L, .ns vs) :: led) { s with heap := h', toks := tk } := ⟨fun b o e => hk _ _ (R.keep _ _ e), fun p hp => by
      obtain ⟨o, ho, q⟩ := R.own p hp; exact ⟨o, hk _ _ ho, q⟩, R.fresh, R.nodup, R.os, R.gk, R.bare⟩
    refine ⟨vs, led, R', ?_⟩
    by_cases c : y > x
    · rw [if_pos c]; have := h u; rwa [Int.max_eq_right (by omega)] at this
    · rw [if_neg c]; have := h t; rwa [Int.max_eq_left (by omega)] at this
theorem W.min_int {x y : Int} {t u : Tok} {n : Nat} {Q : Value → Vars → Led → Prop} (hr : Room A n) (h : ∀ t, Q (.int (min x y) t) vs led) : W D A L (PySem.call (.builtin "min") [.int x t, .int y u]) Q vs led := fun s R =>
  min_two_ints hr.2.2 fun h' tk hk => by
    have R' : Rep D ((L, .ns vs) :: led) { s with heap := h', toks := tk } := ⟨fun b o e => hk _ _ (R.keep _ _ e), fun p hp => by
      obtain ⟨o, ho, q⟩ := R.own p hp; exact ⟨o, hk _ _ ho, q⟩, R.fresh, R.nodup, R.os, R.gk, R.bare⟩
    refine ⟨vs, led, R', ?_⟩
    by_cases c : y < x
    · rw [if_pos c]; have := h u; rwa [Int.min_eq_right (by omega)] at this
    · rw [if_neg c]; have := h t; rwa [Int.min_eq_left (by omega)] at this

theorem all_int {i : Int} {P : Value → Prop} (h : ∀ t, P (.int i t)) : ∀ v, (AV.int i).is v → P v := fun v ⟨t, e⟩ => e ▸ h t
theorem all_str {i : List Nat} {P : Value → Prop} (h : ∀ t, P (.str (S i) t)) : ∀ v, (AV.str i).is v → P v := fun v ⟨t, e⟩ => e ▸ h t
theorem all_ref {i : Addr} {P : Value → Prop} (h : P (.ref i)) : ∀ v, (AV.ref i).is v → P v := fun v e => by cases (show v = .ref i from e); exact h
theorem all_bool {i : Bool} {P : Value → Prop} (h : P (.bool i)) : ∀ v, (AV.bool i).is v → P v := fun v e => by cases (show v = .bool i from e); exact h
theorem all_none {P : Value → Prop} (h : P .none) : ∀ v, AV.none.is v → P v := fun v e => by cases (show v = .none from e); exact h
theorem assign_Sub (o i : Expr) (p : Pos) (env : Env) (v : Value) : assign (.Subscript o i p) env v = (do
    let ov ← PySem.holding [v] (eval o env)
    let iv ← PySem.holding [v, ov] (eval i env)
    PySem.standAt p
    PySem.holding [v, ov, iv] (setItem ov iv v)
    PySem.release (match i with | .Slice _ _ none _ => [iv, v, ov] | _ => [v, ov, iv]) []) := rfl
theorem W.Assign_Sub {o i value : Expr} {p pos : Pos} {Q : Flow → Vars → Led → Prop} (h : W D A L (eval value env) (fun v vs led => W D A L (eval o env) (fun ov vs led => W D A L (eval i env) (fun iv vs led => W D A L (setItem ov iv v) (fun _ => Q .next) vs led) vs led) vs led) vs led)
    (hs : swapsWithSole [.Subscript o i p] value pos.line env = Pure.pure false := by rfl) : W D A L (exec (.Assign [.Subscript o i p] value pos) env) Q vs led := by
  rw [exec_Assign_arm]
  refine W.bind (W.standAt ?_)
  rw [hs]
  refine W.bind (W.pure ?_)
  rw [if_neg (by decide)]
  refine W.bind (W.mono h fun v vs led q => ?_)
  show W D A L (do assignAll v ((assignEach [.Subscript o i p] env).map (·.2)); Pure.pure .next) Q vs led
  refine W.bind ?_
  show W D A L (assign (.Subscript o i p) env v) _ vs led
  rw [assign_Sub]
  exact W.bind (W.holding (W.mono q fun _ _ _ q => W.bind (W.holding (W.mono q fun _ _ _ q => W.bind (W.standAt (W.bind (W.holding (W.mono q fun _ _ _ q => W.release (W.pure q)))))))))

/-- a statement by what holds behind it -/
theorem W.cut {st : Stmt} {rest : List Stmt} {Q : Flow → Vars → Led → Prop} (I : Vars → Led → Prop) (h1 : W D A L (exec st env) (fun f vs led => f = .next ∧ I vs led) vs led) (h2 : ∀ vs led, I vs led → W D A L (execs rest env) Q vs led) :
    W D A L (execs (st :: rest) env) Q vs led :=
  W.execs_cons (W.mono h1 fun f vs led ⟨e, i⟩ => by subst e; exact Nx.next (h2 vs led i))
end
end Mine
end
section
open PySem PySem.W PySem.Calls PyProof.Rows
set_option maxRecDepth 100000
set_option autoImplicit false
set_option linter.unusedVariables false
namespace Mine

/- texts by their signs -/
theorem S_len (x : List Nat) : (S x).length = x.length := by simp [S, Str.length]
theorem S_cps (x : List Nat) : (S x).cps.toList = x := by simp [S]
theorem S_app (x y : List Nat) : S x ++ S y = S (x ++ y) := by
  show (⟨x.toArray ++ y.toArray⟩ : Str) = ⟨(x ++ y).toArray⟩
  simp
theorem S_ext {x : Str} {y : List Nat} (h : x.cps.toList = y) : x = S y := by subst h; exact (S_toList x).symm
theorem S_inj {x y : List Nat} (h : S x = S y) : x = y := by rw [← S_cps x, h, S_cps]
theorem S_beq (x y : List Nat) : (S x == S y) = (x == y) := by
  rw [Bool.eq_iff_iff, beq_iff_eq, beq_iff_eq]
  exact ⟨S_inj, fun h => by rw [h]⟩

def joinL (sep : List Nat) : List (List Nat) → List Nat
  | [] => []
  | [x] => x
  | x :: y :: r => x ++ sep ++ joinL sep (y :: r)
theorem Str_join_S (sep : List Nat) : ∀ xs : List (List Nat), Str.join (S sep) (xs.map S) = S (joinL sep xs)
  | [] => rfl
  | [x] => rfl
  | x :: y :: r => by
    show S x ++ S sep ++ Str.join (S sep) (S y :: r.map S) = _
    have := Str_join_S sep (y :: r)
    rw [List.map_cons] at this
    rw [this, S_app, S_app]
    rfl
theorem Txt_join_S (sep : List Nat) (xs : List (List Nat)) : Txt.join (S sep) (xs.map S) = S (joinL sep xs) := by
  show Builtin.Str.glued (S sep) (xs.map S) = _
  rw [StrLaws.glued_eq_join, Str_join_S]
theorem joinL_len (sep : List Nat) : ∀ xs : List (List Nat), (joinL sep xs).length ≤ (xs.map (·.length)).sum + xs.length * sep.length
  | [] => by simp [joinL]
  | [x] => by simp [joinL]
  | x :: y :: r => by
    have := joinL_len sep (y :: r)
    simp only [joinL, List.length_append, List.map_cons, List.sum_cons, List.length_cons, Nat.succ_mul] at this ⊢
    omega

def stripL (g : Nat → Bool) (l r : Bool) (x : List Nat) : List Nat :=
  let y := if l then x.dropWhile g else x
  if r then (y.reverse.dropWhile g).reverse else y
theorem drop_takeWhile (g : Nat → Bool) (x : List Nat) : x.drop (x.takeWhile g).length = x.dropWhile g := by
  have h := List.takeWhile_append_dropWhile (p := g) (l := x)
  generalize x.takeWhile g = a at h ⊢
  generalize x.dropWhile g = b at h ⊢
  subst h
  simp
theorem take_rev (g : Nat → Bool) (y : List Nat) : y.take (y.length - (y.reverse.takeWhile g).length) = (y.reverse.dropWhile g).reverse := by
  have h := List.takeWhile_append_dropWhile (p := g) (l := y.reverse)
  generalize y.reverse.takeWhile g = a at h ⊢
  generalize y.reverse.dropWhile g = b at h ⊢
  have e : y = b.reverse ++ a.reverse := by rw [← List.reverse_append, h, List.reverse_reverse]
  subst e
  simp
theorem Txt_strip_S (g : Nat → Bool) (l r : Bool) (x : List Nat) : Txt.stripBy g l r (S x) = S (stripL g l r x) := by
  rw [PyProof.Rows.stripBy_eq]
  refine S_ext ?_
  rw [StrLaws.strSub_toList, S_cps]
  unfold stripLo stripHi stripL
  rw [S_cps, S_len]
  cases l <;> cases r <;> simp only [if_true, if_false, Bool.false_eq_true, List.drop_zero, Nat.sub_zero, drop_takeWhile]
  · rw [List.take_length]
  · exact take_rev g x
  · refine List.take_of_length_le ?_
    rw [← drop_takeWhile, List.length_drop]
    exact Nat.le_refl _
  · rw [← take_rev g (x.dropWhile g)]
    congr 1
    rw [← drop_takeWhile g x, List.length_drop, ]
    omega

theorem contains_one (x : List Nat) (c : Nat) : (!(Builtin.Str.occurrences (S x) (S [c]) 0 (S x).length 1).isEmpty) = x.contains c := by
  rw [Bool.eq_iff_iff, StrLaws.found_iff, List.contains_iff_mem]
  constructor
  · rintro ⟨i, h1, h2⟩
    rw [StrLaws.subAt_eq, S_cps, S_cps, S_len] at h2
    have h3 := eq_of_beq h2
    have : c ∈ (x.drop i).take 1 := by
      show c ∈ (x.drop i).take [c].length
      rw [h3]; exact .head _
    exact List.mem_of_mem_drop (List.mem_of_mem_take this)
  · intro h
    obtain ⟨i, hi, rfl⟩ := List.getElem_of_mem h
    refine ⟨i, by rw [S_len, S_len]; exact hi, ?_⟩
    rw [StrLaws.subAt_eq, S_cps, S_cps, S_len, beq_iff_eq]
    show (x.drop i).take 1 = [x[i]]
    rw [List.drop_eq_getElem_cons hi]
    rfl

theorem sliceSame {x : List Nat} {a b : Nat} (hab : a ≤ b) (hb : b ≤ x.length) : Txt.slice (S x) (some (a : Int)) (some (b : Int)) = S ((x.drop a).take (b - a)) := by
  have := StrLaws.sliceText_nat (S x) hab (by rw [S_len]; exact hb)
  rw [S_cps] at this
  exact this

section
variable {D : Wd} {A : Around} {L : Addr} {α β : Type} {vs : Vars} {led led' : Led} {env : Env} {s : Shared} {a b : Addr} {as bs : List AV} {x y : List Nat} {t u : Tok}

theorem fits_S {n : Nat} (h : n ≤ 10000000) : n ≤ sizeLine := by rw [sizeLine_eq]; omega
theorem W.add_str {Q : Value → Vars → Led → Prop} (hz : x.length + y.length ≤ 10000000) (h : ∀ t, Q (.str (S (x ++ y)) t) vs led) : W D A L (binaryOp .Add (.str (S x) t) (.str (S y) u)) Q vs led := fun s R => by
  refine P.add_str ?_
  rw [S_len, S_len]
  cases x with
  | nil => exact ⟨vs, led, R.toks (tk := s.toks), h u⟩
  | cons c r =>
    cases y with
    | nil => have := h t; rw [List.append_nil] at this; exact ⟨vs, led, R.toks (tk := s.toks), this⟩
    | cons d q =>
      rw [S_app]
      exact ⟨by rw [S_len]; exact fits_S (by simp at hz ⊢; omega), vs, led, R.toks, h _⟩
theorem W.iadd_str {Q : Value → Vars → Led → Prop} (hz : x.length + y.length ≤ 10000000) (h : ∀ t, Q (.str (S (x ++ y)) t) vs led) : W D A L (inplaceOp .Add (.str (S x) t) (.str (S y) u)) Q vs led := fun s R => by
  refine P.iadd_str ?_
  rw [S_len, S_len]
  cases x with
  | nil => exact ⟨vs, led, R.toks (tk := s.toks), h u⟩
  | cons c r =>
    cases y with
    | nil => have := h t; rw [List.append_nil] at this; exact ⟨vs, led, R.toks (tk := s.toks), this⟩
    | cons d q =>
      rw [S_app]
      exact ⟨by rw [S_len]; exact fits_S (by simp at hz ⊢; omega), vs, led, R.toks, h _⟩
theorem W.eq_str {Q : Value → Vars → Led → Prop} (h : Q (.bool (decide (x = y))) vs led) : W D A L (compareOp .Eq (.str (S x) t) (.str (S y) u)) Q vs led := fun s R => P.eq_str (by
  rw [S_cps, S_cps]
  have e : (x == y) = decide (x = y) := by by_cases q : x = y <;> simp [q]
  rw [e]; exact ⟨vs, led, R, h⟩)
theorem W.ne_str {Q : Value → Vars → Led → Prop} (h : Q (.bool (decide (x ≠ y))) vs led) : W D A L (compareOp .NotEq (.str (S x) t) (.str (S y) u)) Q vs led := fun s R => P.ne_str (by
  rw [S_cps, S_cps]
  have e : (x != y) = decide (x ≠ y) := by by_cases q : x = y <;> simp [q]
  rw [e]; exact ⟨vs, led, R, h⟩)
theorem W.in_sign {c : Nat} {Q : Value → Vars → Led → Prop} (h : Q (.bool (x.contains c)) vs led) : W D A L (compareOp .In (.str (S [c]) t) (.str (S x) u)) Q vs led := fun s R => P.in_str (by
  rw [contains_one]; exact ⟨vs, led, R, h⟩)
theorem W.len_str {Q : Value → Vars → Led → Prop} (hz : x.length ≤ 10000000) (h : ∀ t, Q (.int x.length t) vs led) : W D A L (PySem.call (.builtin "len") [.str (S x) t]) Q vs led := fun s R =>
  P.len_str (by rw [S_len]; omega) (by rw [S_len]; exact ⟨vs, led, R.toks, h _⟩)
theorem W.truthy_str {Q : Bool → Vars → Led → Prop} (hz : x.length ≤ 10000000) (h : Q (!x.isEmpty) vs led) : W D A L (truthy (.str (S x) t)) Q vs led := fun s R =>
  P.truthy_str (by rw [S_len]; omega) (by
    rw [S_len]
    have e : ((x.length : Int) != 0) = !x.isEmpty := by cases x <;> simp; omega
    rw [e]; exact ⟨vs, led, R.toks, h⟩)
theorem W.truthy_int {i : Int} {Q : Bool → Vars → Led → Prop} (h : Q (i != 0) vs led) : W D A L (truthy (.int i t)) Q vs led := fun s R =>
  PyProof.Rows.truthy_int ⟨vs, led, R, h⟩
theorem W.mul_str {n : Int} {Q : Value → Vars → Led → Prop} (hz : n ≤ 1000000) (hy : -1000000 ≤ n) (h : ∀ t, Q (.str (S (List.replicate n.toNat 32)) t) vs led) : W D A L (binaryOp .Mult (.str (S [32]) t) (.int n u)) Q vs led := fun s R => by
  refine P.mul_str (by rw [decide_eq_false (by omega), decide_eq_false (by omega)]; rfl) (fun h1 h2 => ?_) (fun h1 h2 => ?_) ?_
  · rw [S_len]
    have : (2 ^ 63 - 1) / n ≥ 1 := by
      have := Int.ediv_le_ediv (a := n) (b := 2 ^ 63 - 1) (c := n) (by omega) (by omega)
      rw [Int.ediv_self (by omega)] at this
      exact this
    simp only [List.length_singleton]
    omega
  · unfold Builtin.Str.tooLong
    rw [S_len, sizeLine_eq]
    simp only [List.length_singleton]
    exact decide_eq_false (by omega)
  · by_cases h1 : n < 1
    · rw [if_pos h1]
      have e : n.toNat = 0 := by omega
      have := h s.toks
      rw [e] at this
      exact ⟨by decide, vs, led, R.toks, this⟩
    · rw [if_neg h1]
      by_cases h2 : n = 1
      · subst h2
        exact ⟨vs, led, R.toks (tk := s.toks), h t⟩
      · rw [S_len, if_neg (by simpa using h2)]
        have e : (⟨(List.replicate n.toNat (S [32]).cps).foldl (· ++ ·) #[]⟩ : Str) = S (List.replicate n.toNat 32) := by
          refine S_ext ?_
          show ((List.replicate n.toNat (#[32] : Array Nat)).foldl (· ++ ·) #[]).toList = _
          have : ∀ k (acc : Array Nat), ((List.replicate k (#[32] : Array Nat)).foldl (· ++ ·) acc).toList = acc.toList ++ List.replicate k 32 := by
            intro k
            induction k with
            | zero => intro acc; simp
            | succ k ih => intro acc; rw [List.replicate_succ, List.foldl_cons, ih, List.replicate_succ]; simp
          rw [this]; simp
        rw [e]
        exact ⟨by rw [S_len, List.length_replicate]; exact fits_S (by omega), vs, led, R.toks, h _⟩

/- slices -/
def slObj (l u : Value) : Obj := { cls := .type "slice", data := .fields #[l, u, .none] }
theorem W.Slice_ {lower upper : Option Expr} {p : Pos} {Q : Value → Vars → Led → Prop}
    (h : W D A L (evalPart lower env) (fun l vs led => W D A L (evalPart upper env) (fun u vs led => ∀ a, Q (.ref a) vs ((a, .raw (slObj l u)) :: led)) vs led) vs led) :
    W D A L (eval (.Slice lower upper none p) env) Q vs led := fun s R =>
  wpAny_Slice (wpAny_mono (h s R) (fun l s1 ⟨vs1, led1, R1, h1⟩ => wpAny_mono (h1 s1 R1) (fun u s2 ⟨vs2, led2, R2, h2⟩ => wpAny_pure ⟨vs2, _, R2.pushed (ob := .raw (slObj l u)) (tk := s2.toks) rfl rfl, h2 _⟩) fun _ _ x => x) fun _ _ x => x)
theorem W.part_none {Q : Value → Vars → Led → Prop} (h : Q .none vs led) : W D A L (evalPart none env) Q vs led := W.pure h
theorem W.part_some {e : Expr} {Q : Value → Vars → Led → Prop} (h : W D A L (eval e env) Q vs led) : W D A L (evalPart (some e) env) Q vs led := h

theorem Rep.skipHead {p : Addr × Ob} {led0 : Led} (R : Rep D ((L, .ns vs) :: p :: led0) s) : Rep D ((L, .ns vs) :: led0) s := R.sub (.cons (.skip (.refl _)))
theorem tail_of_slice {prog : Program} {w : World} {E : Value → Shared → Prop} {value : Expr} {lower upper : Option Expr} {p : Pos} {o i : Value} {T id : String} {Q : Value → Shared → Prop} (hT : s.TypeIs o T)
    (hl : typeLookup (.type T) "__getitem__" = pure (some (.builtin id))) (h : wpAny (model prog w) A (PySem.getItem o i) Q E s) : wpAny (model prog w) A (subscriptTail value (.Slice lower upper none p) o i) Q E s := by
  unfold subscriptTail
  refine wpAny_bind ?_
  rw [getitemInPython_of_ne hT.not_modules]
  refine wpAny_bind (wpAny_specialOf hT hl ?_)
  have fin : wpAny (model prog w) A (subscripted (.Slice lower upper none p) false o i) (fun r s₃ => wpAny (model prog w) A (PySem.letTemporaryGo value o r >>= fun _ => pure r) Q E s₃) E s :=
    wpAny_operating (wpAny_mono h (fun r s₃ h₃ => wpAny_bind (wpAny_letTemporaryGo (wpAny_pure h₃))) fun _ _ x => x)
  exact wpAny_pure (wpAny_bind fin)

theorem W.sl_str {value : Expr} {lower upper : Option Expr} {p : Pos} {l u : Option (Int × Tok)} {sl : Addr} {y : List Nat} {led0 : Led} {Q : Value → Vars → Led → Prop} (hy : Txt.slice (S x) (l.map (·.1)) (u.map (·.1)) = S y) (hz : x.length ≤ 10000000) (h : ∀ t, Q (.str (S y) t) vs led0) :
    W D A L (subscriptTail value (.Slice lower upper none p) (.str (S x) t) (.ref sl)) Q vs ((sl, .raw (slObj (partValue l) (partValue u))) :: led0) := fun s R => by
  obtain ⟨o, ho, rfl⟩ := R.own _ (.tail _ (.head _))
  refine tail_of_slice (typeIs_str _ _ _) F.slot_str_getitem.lookup (wpAny_getItem_str_slice (l := l) (u := u) (st := none) ⟨_, ho, rfl, rfl⟩ rfl ?_)
  refine post_val_or_str ⟨Nat.le_trans (Txt.slice_le (S x) _ _) (by rw [S_len]; exact fits_S hz), fun t' k => ?_⟩
  have e : Txt.slice (S x) (l.map (·.1)) (u.map (·.1)) = S y := hy
  refine ⟨vs, led0, R.skipHead.toks, ?_⟩
  have := h t'
  rw [← e] at this
  exact this
theorem slice_upto {k : Nat} : Txt.slice (S x) none (some (k : Int)) = S (x.take k) := by
  by_cases h : k ≤ x.length
  · have := sliceSame (x := x) (Nat.zero_le k) h
    unfold Txt.slice at this ⊢
    rw [StrLaws.sliceIdx_none_lo]
    simpa using this
  · have e : x.take k = x := List.take_of_length_le (by omega)
    rw [e]
    have hs : Builtin.Str.strSliceIndices none (some (k : Int)) 1 (S x).length = Builtin.Str.strSliceIndices (some ((0 : Nat) : Int)) (some (x.length : Int)) 1 (S x).length := by
      rw [StrLaws.sliceIdx_none_lo, S_len]
      have a1 : ¬ ((k : Int) < 0) := by omega
      have a2 : ¬ ((x.length : Int) < 0) := by omega
      simp only [Builtin.Str.strSliceIndices, a1, a2, if_false]
      have : min (k : Int) (x.length : Int) = min (x.length : Int) (x.length : Int) := by omega
      simp [this]
    have := sliceSame (x := x) (Nat.zero_le x.length) (Nat.le_refl _)
    unfold Txt.slice at this ⊢
    rw [hs]
    simpa using this
theorem slice_ab {a b : Nat} (hab : a ≤ b) : Txt.slice (S x) (some (a : Int)) (some (b : Int)) = S ((x.drop a).take (b - a)) := by
  have e : Builtin.Str.strSliceIndices (some (a : Int)) (some (b : Int)) 1 x.length = Builtin.Str.strSliceIndices (some ((min a x.length : Nat) : Int)) (some ((min b x.length : Nat) : Int)) 1 x.length := by
    have a1 : ¬ ((a : Int) < 0) := by omega
    have a2 : ¬ ((b : Int) < 0) := by omega
    have a3 : ¬ (((min a x.length : Nat) : Int) < 0) := by omega
    have a4 : ¬ (((min b x.length : Nat) : Int) < 0) := by omega
    simp only [Builtin.Str.strSliceIndices, a1, a2, a3, a4, if_false]
    have b1 : min (a : Int) (x.length : Int) = min ((min a x.length : Nat) : Int) (x.length : Int) := by omega
    have b2 : min (b : Int) (x.length : Int) = min ((min b x.length : Nat) : Int) (x.length : Int) := by omega
    simp only [show ((1 : Int) > 0) = True from by simp, if_true]
    rw [b1, b2]
  have k := sliceSame (x := x) (a := min a x.length) (b := min b x.length) (by omega) (by omega)
  have e2 : (x.drop (min a x.length)).take (min b x.length - min a x.length) = (x.drop a).take (b - a) := by
    rcases Nat.le_total a x.length with h | h
    · rw [Nat.min_eq_left h]
      rcases Nat.le_total b x.length with h2 | h2
      · rw [Nat.min_eq_left h2]
      · rw [Nat.min_eq_right h2, List.take_of_length_le (by simp), List.take_of_length_le (by simp; omega)]
    · rw [Nat.min_eq_right h, List.drop_of_length_le (Nat.le_refl _), List.drop_of_length_le h]; simp
  rw [e2] at k
  rw [← k]
  unfold Txt.slice
  rw [S_len, e]
theorem slice_from {a : Nat} : Txt.slice (S x) (some (a : Int)) none = S (x.drop a) := by
  have k := slice_ab (x := x) (a := a) (b := max a x.length) (by omega)
  have e2 : (x.drop a).take (max a x.length - a) = x.drop a := List.take_of_length_le (by simp; omega)
  rw [e2] at k
  rw [← k]
  unfold Txt.slice
  rw [S_len, StrLaws.sliceIdx_none_hi]
  have e : Builtin.Str.strSliceIndices (some (a : Int)) (some (x.length : Int)) 1 x.length = Builtin.Str.strSliceIndices (some (a : Int)) (some ((max a x.length : Nat) : Int)) 1 x.length := by
    have a2 : ¬ ((x.length : Int) < 0) := by omega
    have a4 : ¬ (((max a x.length : Nat) : Int) < 0) := by omega
    simp only [Builtin.Str.strSliceIndices, a2, a4, if_false]
    have b2 : min (x.length : Int) (x.length : Int) = min ((max a x.length : Nat) : Int) (x.length : Int) := by omega
    simp only [show ((1 : Int) > 0) = True from by simp, if_true]
    rw [b2]
  rw [e]

/-- a list's part -/
theorem W.sl_list {value : Expr} {lower upper : Option Expr} {p : Pos} {vl vu : Value} {lo hi : Option Int} {sl : Addr} {led0 : Led} {Q : Value → Vars → Led → Prop} (hm : (a, .list as) ∈ led0) (pl : IsPart vl lo) (pu : IsPart vu hi)
    (hb : ∀ vals : List Value, AllIs as vals → AllIs bs (slicePick vals.toArray lo hi none).toList) (hz : as.length ≤ 10000000) (h : ∀ c, Q (.ref c) vs ((c, .list bs) :: led0)) :
    W D A L (subscriptTail value (.Slice lower upper none p) (.ref a) (.ref sl)) Q vs ((sl, .raw (slObj vl vu)) :: led0) := fun s R => by
  obtain ⟨o, ho, rfl⟩ := R.own _ (.tail _ (.head _))
  obtain ⟨vals, n, hi2, hl⟩ := R.listAt (.tail _ (.tail _ hm))
  have hlen := hi2.length
  exact tail_of_slice (isL hl).typeIs slot_list_getitem.lookup (wpAny_getItem_list_slice (isL hl) ⟨_, ho, rfl, rfl⟩ pl pu .none (by simp)
    ⟨vs, _, R.skipHead.pushed (ob := .list bs) (tk := s.toks) rfl ⟨_, 0, hb vals hi2, rfl⟩, h _⟩ (by rw [List.size_toArray]; exact fits_S (by omega)))
theorem pick_from {k : Nat} (vals : List Value) (h : AllIs as vals) : AllIs (as.drop k) (slicePick vals.toArray (some (k : Int)) none none).toList := by
  rw [slicePick_from']; exact h.drop k
theorem pick_upto {k : Nat} (vals : List Value) (h : AllIs as vals) : AllIs (as.take k) (slicePick vals.toArray none (some (k : Int)) none).toList := by
  rw [slicePick_upto']; exact h.take k
theorem pick_butLast (vals : List Value) (h : AllIs as vals) : AllIs as.dropLast (slicePick vals.toArray none (some (-1)) none).toList := by
  have := slicePick_butLast vals.toArray 1 (Nat.le_refl _)
  rw [show (-(((1 : Nat) : Int))) = -1 from rfl] at this
  rw [this, List.dropLast_eq_take, ← h.length]
  exact h.take _

/- methods of texts -/
theorem W.strip0 {Q : Value → Vars → Led → Prop} (hz : x.length ≤ 10000000) (h : ∀ t, Q (.str (S (stripL Unicode.isSpace true true x)) t) vs led) : W D A L (PySem.call (.builtin "str.strip") [.str (S x) t]) Q vs led := fun s R =>
  SC.strip (fun t' k => by unfold Txt.strip; rw [Txt_strip_S]; exact ⟨vs, led, R.toks, h _⟩) (by rw [S_len]; exact fits_S hz)
theorem W.lstrip0 {Q : Value → Vars → Led → Prop} (hz : x.length ≤ 10000000) (h : ∀ t, Q (.str (S (stripL Unicode.isSpace true false x)) t) vs led) : W D A L (PySem.call (.builtin "str.lstrip") [.str (S x) t]) Q vs led := fun s R =>
  SC.lstrip (fun t' k => by unfold Txt.lstrip; rw [Txt_strip_S]; exact ⟨vs, led, R.toks, h _⟩) (by rw [S_len]; exact fits_S hz)
theorem contains_S (y : List Nat) : (S y).cps.contains = fun c => y.contains c := by
  funext c; simp [S]
theorem W.strip1 {Q : Value → Vars → Led → Prop} (hz : x.length ≤ 10000000) (h : ∀ t, Q (.str (S (stripL (fun c => y.contains c) true true x)) t) vs led) : W D A L (PySem.call (.builtin "str.strip") [.str (S x) t, .str (S y) u]) Q vs led := fun s R =>
  SC.stripChars (fun t' k => by unfold Txt.stripChars; rw [Txt_strip_S, contains_S]; exact ⟨vs, led, R.toks, h _⟩) (by rw [S_len]; exact fits_S hz)
theorem W.lstrip1 {Q : Value → Vars → Led → Prop} (hz : x.length ≤ 10000000) (h : ∀ t, Q (.str (S (stripL (fun c => y.contains c) true false x)) t) vs led) : W D A L (PySem.call (.builtin "str.lstrip") [.str (S x) t, .str (S y) u]) Q vs led := fun s R =>
  SC.lstripChars (fun t' k => by unfold Txt.lstripChars; rw [Txt_strip_S, contains_S]; exact ⟨vs, led, R.toks, h _⟩) (by rw [S_len]; exact fits_S hz)
theorem W.rstrip1 {Q : Value → Vars → Led → Prop} (hz : x.length ≤ 10000000) (h : ∀ t, Q (.str (S (stripL (fun c => y.contains c) false true x)) t) vs led) : W D A L (PySem.call (.builtin "str.rstrip") [.str (S x) t, .str (S y) u]) Q vs led := fun s R =>
  SC.rstripChars (fun t' k => by unfold Txt.rstripChars; rw [Txt_strip_S, contains_S]; exact ⟨vs, led, R.toks, h _⟩) (by rw [S_len]; exact fits_S hz)
theorem W.isalnum0 {Q : Value → Vars → Led → Prop} (h : Q (.bool (decide (x.length > 0) && x.all Unicode.isAlnum)) vs led) : W D A L (PySem.call (.builtin "str.isalnum") [.str (S x) t]) Q vs led := fun s R =>
  SC.isalnum (by unfold Txt.isalnum; rw [S_len]; exact ⟨vs, led, R, by simpa [S] using h⟩)
theorem W.expandtabs0 {Q : Value → Vars → Led → Prop} (hx : 9 ∉ x) (h : ∀ t, Q (.str (S x) t) vs led) : W D A L (PySem.call (.builtin "str.expandtabs") [.str (S x) t]) Q vs led := fun s R => by
  have hc : (S x).cps.contains 9 = false := by simpa [S] using hx
  refine call_gives F.slot_str_expandtabs (typeIs_str _ _ _) F.entry_str_expandtabs (F.args_str_expandtabs_1 _) (m := .val (.str (S x) t)) ?_ ⟨vs, led, R.toks (tk := s.toks), h t⟩
  show Gives (if (!(S x).cps.contains 9) = true then (do PySem.rule "str.expandtabs.no-tab"; PySem.ret (.str (S x) t)) else _) _
  rw [hc]
  exact .rule (.of_eq rfl)
end
end Mine
end
section
open PySem PySem.W PySem.Calls PyProof.Rows
set_option maxRecDepth 100000
set_option autoImplicit false
set_option linter.unusedVariables false
namespace Mine
/- split and lines -/
def splitL (c : Nat) : List Nat → List (List Nat)
  | [] => [[]]
  | d :: r => if d = c then [] :: splitL c r else match splitL c r with
    | [] => [[d]]
    | p :: q => (d :: p) :: q
theorem splitL_ne (c : Nat) (x : List Nat) : splitL c x ≠ [] := by
  cases x with
  | nil => simp [splitL]
  | cons d r =>
    unfold splitL
    split
    · simp
    · split <;> simp
theorem splitL_app (c : Nat) : ∀ (p x : List Nat), c ∉ p → splitL c (p ++ c :: x) = p :: splitL c x
  | [], x, _ => by simp [splitL]
  | d :: p, x, h => by
    have h1 : d ≠ c := fun e => h (e ▸ .head _)
    have := splitL_app c p x (fun m => h (.tail _ m))
    show (if d = c then [] :: splitL c (p ++ c :: x) else match splitL c (p ++ c :: x) with | [] => [[d]] | p :: q => (d :: p) :: q) = _
    rw [if_neg h1, this]
theorem splitL_free (c : Nat) : ∀ (p : List Nat), c ∉ p → splitL c p = [p]
  | [], _ => rfl
  | d :: p, h => by
    have h1 : d ≠ c := fun e => h (e ▸ .head _)
    have := splitL_free c p (fun m => h (.tail _ m))
    unfold splitL
    rw [if_neg h1, this]
theorem splitL_join (c : Nat) : ∀ (ps : List (List Nat)), ps ≠ [] → (∀ p ∈ ps, c ∉ p) → splitL c (joinL [c] ps) = ps
  | [], h, _ => absurd rfl h
  | [p], _, h => splitL_free c p (h p (.head _))
  | p :: q :: r, _, h => by
    show splitL c (p ++ [c] ++ joinL [c] (q :: r)) = _
    rw [List.append_assoc]
    show splitL c (p ++ c :: joinL [c] (q :: r)) = _
    rw [splitL_app c p _ (h p (.head _)), splitL_join c (q :: r) (by simp) fun a ha => h a (.tail _ ha)]
theorem map_S (ys : List Str) : (ys.map fun y => y.cps.toList).map S = ys := by
  induction ys with
  | nil => rfl
  | cons y r ih => rw [List.map_cons, List.map_cons, ih, S_toList]
theorem Txt_split_S (c : Nat) (x : List Nat) : Txt.split (S x) (S [c]) = (splitL c x).map S := by
  have h1 := StrLaws.join_split (S x) (S [c])
  have h2 := StrLaws.split_free (S x) c
  have h3 := PyProof.Rows.split_pos (S x) (S [c])
  change ∀ p ∈ Txt.split (S x) (S [c]), c ∉ p.cps.toList at h2
  generalize Txt.split (S x) (S [c]) = ys at h1 h2 h3
  rw [← map_S ys] at h1 h2 ⊢
  rw [← map_S ys] at h3
  generalize ys.map (fun y => y.cps.toList) = zs at h1 h2 h3 ⊢
  rw [Str_join_S] at h1
  have h4 := S_inj h1
  have h5 : ∀ p ∈ zs, c ∉ p := fun p hp => by
    have := h2 (S p) (List.mem_map_of_mem hp)
    rwa [S_cps] at this
  rw [← h4, splitL_join c zs (by rintro rfl; simp at h3) h5]

/-- the lines: as split at 10, without an empty one at the end -/
def linesFrom (acc : List Nat) : List Nat → List (List Nat)
  | [] => if acc = [] then [] else [acc]
  | d :: r => if d = 10 then acc :: linesFrom [] r else linesFrom (acc ++ [d]) r
def linesL (x : List Nat) : List (List Nat) := linesFrom [] x

theorem ls_from (x : List Nat) (hb : ∀ c ∈ x, Unicode.isLineBreak c = decide (c = 10) ∧ c ≠ 13) : ∀ (m cur : Nat) (arr : Array (Nat × Nat × Nat)) (start : Nat), cur + m = x.length → start ≤ cur →
    ((StrLaws.lsEnd (S x) (Id.run (forIn (m := Id) (List.range' cur m) ((arr, start) : StrLaws.LsSt) (StrLaws.lsBody (S x))))).map fun p => Builtin.Str.strSub (S x) p.1 p.2.1) =
      (arr.toList.map fun p => Builtin.Str.strSub (S x) p.1 p.2.1) ++ (linesFrom ((x.drop start).take (cur - start)) (x.drop cur)).map S
  | 0, cur, arr, start, h, hs => by
    have e : x.drop cur = [] := List.drop_of_length_le (by omega)
    rw [e]
    show ((StrLaws.lsEnd (S x) (arr, start)).map _) = _
    unfold StrLaws.lsEnd linesFrom
    rw [S_len]
    have e2 : (x.drop start).take (cur - start) = x.drop start := List.take_of_length_le (by simp; omega)
    rw [e2]
    by_cases q : start < x.length
    · have hne : x.drop start ≠ [] := by simpa using q
      simp only [q, if_true, hne, if_false]
      rw [Array.toList_push, List.map_append]
      congr 1
      show [Builtin.Str.strSub (S x) start x.length] = [S (x.drop start)]
      congr 1
      refine S_ext ?_
      rw [StrLaws.strSub_toList, S_cps, List.take_of_length_le (by simp)]
    · have hne : x.drop start = [] := List.drop_of_length_le (by omega)
      simp [q, hne]
  | m + 1, cur, arr, start, h, hs => by
    have hlt : cur < x.length := by omega
    have hd : x.drop cur = x[cur] :: x.drop (cur + 1) := List.drop_eq_getElem_cons hlt
    obtain ⟨hb1, hb2⟩ := hb _ (List.getElem_mem hlt)
    have hg : (S x).cps.getD cur 0 = x[cur] := by simp [S, Array.getD, hlt]
    rw [List.range'_succ, List.forIn_cons]
    unfold StrLaws.lsBody
    have hn : StrLaws.lsNext (S x) cur = cur + 1 := by
      unfold StrLaws.lsNext
      rw [hg]
      have : (x[cur] == 13) = false := by simpa using hb2
      rw [this]; rfl
    simp only [hg, hs, decide_true, Bool.true_and, hb1, hn]
    rw [hd]
    by_cases q : x[cur] = 10
    · simp only [q, decide_true, if_true]
      have ih := ls_from x hb m (cur + 1) (arr.push (start, cur, cur + 1)) (cur + 1) (by omega) (Nat.le_refl _)
      refine Eq.trans ih ?_
      rw [Array.toList_push, List.map_append, List.append_assoc]
      congr 1
      have e5 : linesFrom ((x.drop start).take (cur - start)) (10 :: x.drop (cur + 1)) = (x.drop start).take (cur - start) :: linesFrom [] (x.drop (cur + 1)) := rfl
      rw [e5, List.map_cons]
      simp only [List.map_cons, List.map_nil, Nat.sub_self, List.take_zero, List.singleton_append]
      congr 1
      refine S_ext ?_
      rw [StrLaws.strSub_toList, S_cps]
    · simp only [q, decide_false, if_false, Bool.false_eq_true]
      have ih := ls_from x hb m (cur + 1) arr start (by omega) (by omega)
      refine Eq.trans ih ?_
      congr 1
      conv => rhs; unfold linesFrom
      rw [if_neg q]
      congr 2
      have : cur + 1 - start = (cur - start) + 1 := by omega
      rw [this, List.take_add_one, List.getElem?_drop]
      have e3 : start + (cur - start) = cur := by omega
      rw [e3, List.getElem?_eq_getElem hlt]
      rfl
theorem Txt_lines_S (x : List Nat) (hb : ∀ c ∈ x, Unicode.isLineBreak c = decide (c = 10) ∧ c ≠ 13) : Txt.lines (S x) = (linesL x).map S := by
  have key := ls_from x hb x.length 0 #[] 0 (by omega) (Nat.le_refl _)
  have e : Builtin.Str.lineSpans (S x) = _ := StrLaws.ls_eq (S x)
  rw [S_len] at e
  rw [← e] at key
  simp only [List.map_nil, List.nil_append, List.drop_zero, Nat.sub_self, List.take_zero] at key
  have k2 : linesOf (S x) = (linesL x).map S := by
    unfold linesOf lineCuts
    rw [List.map_map]
    exact key
  unfold Txt.lines
  split
  · rename_i h
    have h := eq_of_beq h
    unfold linesOf at k2
    rw [h] at k2
    rw [← k2]
    simp only [List.map_cons, List.map_nil]
    rw [StrLaws.sub_whole]
  · exact k2

theorem linesFrom_len : ∀ (x acc : List Nat), (linesFrom acc x).length ≤ x.length + 1
  | [], acc => by unfold linesFrom; split <;> simp
  | d :: r, acc => by
    unfold linesFrom
    split
    · have := linesFrom_len r []; simp; omega
    · have := linesFrom_len r (acc ++ [d]); simp; omega

section
variable {D : Wd} {A : Around} {L : Addr} {α β : Type} {vs : Vars} {led led' : Led} {env : Env} {s : Shared} {a b : Addr} {as bs : List AV} {x y : List Nat} {t u : Tok}
theorem AllIs.strs {xs : List (List Nat)} {vals : List Value} (h : AllIs (xs.map .str) vals) : ∃ l : List (Str × Tok), strValues l = vals ∧ l.map (·.1) = xs.map S := by
  induction xs generalizing vals with
  | nil => cases h; exact ⟨[], rfl, rfl⟩
  | cons x r ih =>
    cases h with
    | cons h0 h1 =>
      obtain ⟨t, rfl⟩ := h0
      obtain ⟨l, rfl, e⟩ := ih h1
      exact ⟨(S x, t) :: l, rfl, by rw [List.map_cons, List.map_cons, e]⟩
theorem AllIs.of_strs : ∀ (l : List (Str × Tok)) (xs : List (List Nat)), l.map (·.1) = xs.map S → AllIs (xs.map .str) (strValues l)
  | [], [], _ => .nil
  | [], _ :: _, h => by cases h
  | _ :: _, [], h => by cases h
  | (y, t) :: l, x :: xs, h => by
    rw [List.map_cons, List.map_cons] at h
    obtain ⟨h1, h2⟩ := List.cons.inj h
    exact .cons ⟨t, by cases h1; rfl⟩ (AllIs.of_strs l xs h2)
theorem sum_map_S (xs : List (List Nat)) : ((xs.map S).map (·.length)).sum = (xs.map (·.length)).sum := by
  induction xs with
  | nil => rfl
  | cons x r ih => simp only [List.map_cons, List.sum_cons, ih, S_len]
theorem W.join_list {xs : List (List Nat)} {sep : List Nat} {Q : Value → Vars → Led → Prop} (hm : (a, LS xs) ∈ led) (hz : (xs.map (·.length)).sum + xs.length * sep.length ≤ 10000000) (h : ∀ t, Q (.str (S (joinL sep xs)) t) vs led) :
    W D A L (PySem.call (.builtin "str.join") [.str (S sep) t, .ref a]) Q vs led := fun s R => by
  obtain ⟨vals, n, hi, hl⟩ := R.listAt (.tail _ hm)
  obtain ⟨l, rfl, e⟩ := hi.strs
  refine SC.join (texts := xs.map S) ⟨_, hl, rfl, n, rfl⟩ e (PyProof.Rows.joinOk_of ?_) fun t' k => ?_
  · rw [sum_map_S, List.length_map, S_len]; omega
  · rw [Txt_join_S]
    exact ⟨vs, led, R.toks, h _⟩
theorem W.split1 {c : Nat} {Q : Value → Vars → Led → Prop} (hz : x.length ≤ 1000000) (h : ∀ d, Q (.ref d) vs ((d, LS (splitL c x)) :: led)) :
    W D A L (PySem.call (.builtin "str.split") [.str (S x) t, .str (S [c]) u]) Q vs led := fun s R => by
  have ho := StrLaws.occ_length_le (S x) (S [c]) 0 (S x).length ((S x).length + 1)
  have hs := Txt_split_S c x
  rw [S_len] at ho
  unfold Txt.split at hs
  have one : S x :: [] = (splitL c x).map S → (∀ d, Q (.ref d) vs ((d, LS (splitL c x)) :: led)) → listOfItself (S x) t A.in1 (wants (fun v s' => ∃ vs' led', Rep D ((L, .ns vs') :: led') s' ∧ Q v vs' led') none_E) s := fun e h =>
    ⟨vs, _, R.pushed (ob := LS (splitL c x)) (tk := s.toks) rfl ⟨_, 0, AllIs.of_strs [(S x, t)] _ e, rfl⟩, h _⟩
  cases h1 : (decide ((S x).length < (S [c]).length) || decide (Builtin.Str.strKind (S x) < Builtin.Str.strKind (S [c])))
  · rw [if_neg (by rw [h1]; exact Bool.false_ne_true)] at hs
    cases hf : (Builtin.Str.occurrences (S x) (S [c]) 0 (S x).length ((S x).length + 1)).isEmpty
    · rw [if_neg (by rw [hf]; exact Bool.false_ne_true)] at hs
      refine call_meets F.slot_str_split (typeIs_str _ _ _) F.entry_str_split (F.args_str_split_2 _ _) (meets_str_split_sep (S x) (S [c]) t u h1 rfl hf (by rw [S_len]; exact fits_S (by omega)) (by
        rw [length_partsBetween, S_len]; exact fits_S (by omega))) ?_
      rw [strsFrom_eq]
      refine ⟨vs, _, R.pushed (ob := LS (splitL c x)) rfl ⟨_, 0, AllIs.of_strs (numbered s.toks _) _ ?_, rfl⟩, h _⟩
      rw [numbered_texts]; exact hs
    · rw [if_pos hf] at hs
      exact call_meets F.slot_str_split (typeIs_str _ _ _) F.entry_str_split (F.args_str_split_2 _ _) (meets_str_split_not_found (S x) (S [c]) t u h1 rfl hf) (one hs h)
  · rw [if_pos h1] at hs
    exact call_meets F.slot_str_split (typeIs_str _ _ _) F.entry_str_split (F.args_str_split_2 _ _) (meets_str_split_cannot_occur (S x) (S [c]) t u h1) (one hs h)
theorem W.lines0 {Q : Value → Vars → Led → Prop} (hb : ∀ c ∈ x, Unicode.isLineBreak c = decide (c = 10) ∧ c ≠ 13) (hz : x.length ≤ 1000000) (h : ∀ d, Q (.ref d) vs ((d, LS (linesL x)) :: led)) :
    W D A L (PySem.call (.builtin "str.splitlines") [.str (S x) t]) Q vs led := fun s R => by
  have hs := Txt_lines_S x hb
  have hlen : (lineCuts (S x)).length = (linesL x).length ∨ True := .inr trivial
  unfold Txt.lines at hs
  refine call_meets F.slot_str_splitlines (typeIs_str _ _ _) F.entry_str_splitlines (F.args_str_splitlines_1 _) (meets_str_splitlines (S x) t (by rw [S_len]; exact fits_S (by omega)) ?_) ?_
  · have := PyProof.Rows.len_le_of_lines (l := (Txt.lines (S x)).map fun y => (y, 0)) (x := S x) (by rw [List.map_map]; exact List.map_id _)
    rw [List.length_map, S_len] at this
    unfold Txt.lines at this
    by_cases q : (lineCuts (S x) == [(0, (S x).length)]) = true
    · rw [eq_of_beq q]; exact fits_S (by simp)
    · rw [if_neg q] at this
      unfold linesOf at this
      rw [List.length_map] at this
      exact fits_S (by omega)
  · by_cases hw : (lineCuts (S x) == [(0, (S x).length)]) = true
    · rw [if_pos hw] at hs ⊢
      exact ⟨vs, _, R.pushed (ob := LS (linesL x)) (tk := s.toks) rfl ⟨_, 0, AllIs.of_strs [(S x, t)] _ hs, rfl⟩, h _⟩
    · rw [if_neg hw] at hs ⊢
      rw [strsFrom_eq]
      refine ⟨vs, _, R.pushed (ob := LS (linesL x)) rfl ⟨_, 0, AllIs.of_strs (numbered s.toks _) _ ?_, rfl⟩, h _⟩
      rw [numbered_texts]; exact hs
end
end Mine
end
section
open PySem PySem.W PySem.Calls PyProof.Rows
set_option maxRecDepth 100000
set_option autoImplicit false
set_option linter.unusedVariables false
namespace Mine
section
variable {D : Wd} {A : Around} {L : Addr} {α β : Type} {vs : Vars} {led led' : Led} {env : Env} {s : Shared} {a b : Addr} {as bs : List AV} {x y : List Nat} {t u : Tok}

theorem Rep.ext {h' : Heap} {tk : Nat} (R : Rep D led s) (k : ∀ b o, s.heap.get? b = some o → h'.get? b = some o) : Rep D led { s with heap := h', toks := tk } :=
  ⟨fun b o e => k _ _ (R.keep _ _ e), fun p hp => by obtain ⟨o, ho, q⟩ := R.own p hp; exact ⟨o, k _ _ ho, q⟩, R.fresh, R.nodup, R.os, R.gk, R.bare⟩
theorem Rep.lt {p : Addr × Ob} (R : Rep D led s) (hm : p ∈ led) : p.1 < s.heap.objs.size := by
  obtain ⟨o, ho, _⟩ := R.own _ hm
  exact Heap.lt_size ho
theorem Rep.ne {p q : Addr × Ob} {r : Led} (R : Rep D (p :: r) s) (hm : q ∈ r) : q.1 ≠ p.1 := fun e => by
  have := R.nodup
  rw [List.map_cons, List.nodup_cons] at this
  exact this.1 (List.mem_map.mpr ⟨q, hm, e⟩)

/- stores of many -/
def Stores (D : Wd) (A : Around) (L : Addr) (env : Env) (Q : Unit → Vars → Led → Prop) : List Str → List AV → Vars → Led → Prop
  | [], [], vs, led => Q () vs led
  | x :: xs, a :: as, vs, led => ∀ v, a.is v → W D A L (storeName env x v) (fun _ vs led => Stores D A L env Q xs as vs led) vs led
  | _, _, _, _ => False
theorem Stores.nil {Q : Unit → Vars → Led → Prop} (h : Q () vs led) : Stores D A L env Q [] [] vs led := h
theorem Stores.cons {Q : Unit → Vars → Led → Prop} {n : Str} {ns : List Str} {x : AV} {xs : List AV} (h : ∀ v, x.is v → W D A L (storeName env n v) (fun _ vs led => Stores D A L env Q ns xs vs led) vs led) : Stores D A L env Q (n :: ns) (x :: xs) vs led := h

theorem W.unpack_tup {n k : Nat} {Q : List Value → Vars → Led → Prop} (hr : Room A k) (hm : (a, .tup as) ∈ led) (hn : n = as.length) (h : ∀ items, AllIs as items → Q items vs led) : W D A L (unpackItems (.ref a) n none) Q vs led := fun s R => by
  obtain ⟨vals, n2, hi, hl⟩ := R.tupAt (.tail _ hm)
  have hlen := hi.length
  have ht : s.heap.IsTuple a vals.toArray := ⟨_, hl, rfl, n2, rfl⟩
  have := wpAny_unpackItems_tuple (prog := PG) (w := D.w) (E := none_E) (Q := fun v s' => ∃ vs' led', Rep D ((L, .ns vs') :: led') s' ∧ Q v vs' led') hr.2.2 ht (fun h' he => ⟨vs, led, R.ext (tk := s.toks) (fun b o e => he b o (Nat.ne_of_lt (Heap.lt_size e)) e), h _ (by simpa using hi)⟩)
  rw [List.size_toArray, hlen, ← hn] at this
  exact this
theorem W.inOrder_names (f : Str → Value → Sem Unit) (hf : ∀ n v (Q : Unit → Vars → Led → Prop) vs led, W D A L (storeName env n v) Q vs led → W D A L (f n v) Q vs led) :
    ∀ (ns : List Str) (as : List AV) (items : List Value) (Q : Unit → Vars → Led → Prop) (vs : Vars) (led : Led), AllIs as items → Stores D A L env Q ns as vs led → W D A L (assignInOrder (ns.map f) items) Q vs led
  | [], [], _, Q, vs, led, hi, h => by cases hi; exact W.pure h
  | [], _ :: _, _, Q, vs, led, hi, h => h.elim
  | _ :: _, [], _, Q, vs, led, hi, h => h.elim
  | n :: ns, x :: xs, _, Q, vs, led, hi, h => by
    cases hi with
    | cons h0 h1 =>
      show W D A L (do PySem.holding _ (f n _); assignInOrder (ns.map f) _) Q vs led
      exact W.bind (W.holding (W.mono (hf _ _ _ _ _ (h _ h0)) fun _ vs led q => W.inOrder_names f hf ns xs _ Q vs led h1 q))
theorem AllIs.rev {as : List AV} {vals : List Value} (h : AllIs as vals) : AllIs as.reverse vals.reverse := h.reverse

/-- names alone: what their assign is -/
def nameAssigns (elts : List Expr) (ns : List Str) : Prop := ∀ env, (assignEach elts env).map (·.2) = (ns.zip (elts.map Expr.pos)).map fun p v => do PySem.standAt p.2; PySem.bindName env p.1 v

theorem W.inOrder_zip : ∀ (ns : List Str) (ps : List Pos) (as : List AV) (items : List Value) (Q : Unit → Vars → Led → Prop) (vs : Vars) (led : Led), ns.length = ps.length → AllIs as items → Stores D A L env Q ns as vs led →
    W D A L (assignInOrder ((ns.zip ps).map fun p v => do PySem.standAt p.2; PySem.bindName env p.1 v) items) Q vs led
  | [], [], [], _, Q, vs, led, _, hi, h => by cases hi; exact W.pure h
  | [], [], _ :: _, _, Q, vs, led, _, hi, h => h.elim
  | _ :: _, _, [], _, Q, vs, led, _, hi, h => h.elim
  | n :: ns, p :: ps, x :: xs, _, Q, vs, led, hl, hi, h => by
    cases hi with
    | cons h0 h1 =>
      show W D A L (do PySem.holding _ (do PySem.standAt p; PySem.bindName env n _); assignInOrder ((ns.zip ps).map _) _) Q vs led
      exact W.bind (W.holding (W.bind (W.standAt (W.bindName (W.mono (h _ h0) fun _ vs led q => W.inOrder_zip ns ps xs _ Q vs led (by simpa using hl) h1 q)))))
  | [], _ :: _, _, _, _, _, _, hl, _, _ => by simp at hl
  | _ :: _, [], _ :: _, _, _, _, _, hl, _, _ => by simp at hl

theorem W.assign_tup {elts : List Expr} {ns : List Str} {k : Nat} {pos : Pos} {n : Nat} {Q : Unit → Vars → Led → Prop} (hr : Room A n) (he : (assignEach elts env).map (·.2) = (ns.zip (elts.map Expr.pos)).map fun p v => do PySem.standAt p.2; PySem.bindName env p.1 v)
    (hst : (assignEach elts env).findIdx? (·.1) = none) (hm : (a, .tup as) ∈ led) (hn : (assignEach elts env).length = as.length) (hl : ns.length = elts.length) (h : Stores D A L env Q ns as vs led) : W D A L (assign (.Tuple elts k pos) env (.ref a)) Q vs led := by
  show W D A L (do PySem.standAt pos; unpack (.ref a) (assignEach elts env)) Q vs led
  refine W.bind (W.standAt ?_)
  unfold unpack
  rw [hst, he]
  refine W.bind (W.holding (W.unpack_tup hr hm hn fun items hi => ?_))
  exact W.inOrder_zip ns _ as items Q vs led (by rw [List.length_map]; exact hl) hi h
theorem W.assign_name {n : Str} {pos : Pos} {v : Value} {Q : Unit → Vars → Led → Prop} (h : W D A L (storeName env n v) Q vs led) : W D A L (assign (.Name n pos) env v) Q vs led := by
  show W D A L (do PySem.standAt pos; PySem.bindName env n v) Q vs led
  exact W.bind (W.standAt (W.bindName h))

/-- a tuple of targets, one by one -/
theorem W.Assign_tup {elts : List Expr} {k : Nat} {tpos pos : Pos} {value : Expr} {Q : Flow → Vars → Led → Prop} (h : W D A L (eval value env) (fun v vs led => W D A L (assign (.Tuple elts k tpos) env v) (fun _ => Q .next) vs led) vs led)
    (hs : swapsWithSole [.Tuple elts k tpos] value pos.line env = Pure.pure false) (hw : swappedStores [.Tuple elts k tpos] value env = Pure.pure none) :
    W D A L (exec (.Assign [.Tuple elts k tpos] value pos) env) Q vs led := by
  rw [exec_Assign_arm]
  refine W.bind (W.standAt ?_)
  rw [hs]
  refine W.bind (W.pure ?_)
  rw [if_neg (by decide)]
  refine W.bind (W.mono h fun v vs led q => ?_)
  rw [hw]
  refine W.bind (W.pure ?_)
  show W D A L (do assignAll v [assign (.Tuple elts k tpos) env]; Pure.pure .next) Q vs led
  exact W.bind (W.mono q fun _ _ _ q => W.pure q)
theorem W.Assign_swap {elts : List Expr} {k m : Nat} {tpos pos : Pos} {value : Expr} {names : List Str} {Q : Flow → Vars → Led → Prop} (hr : Room A m)
    (hw : swappedStores [.Tuple elts k tpos] value env = Pure.pure (some names))
    (h : W D A L (eval value env) (fun v vs led => ∃ a as, v = .ref a ∧ (a, .tup as) ∈ led ∧ names.length = as.length ∧ Stores D A L env (fun _ => Q .next) names.reverse as.reverse vs led) vs led)
    (hs : swapsWithSole [.Tuple elts k tpos] value pos.line env = Pure.pure false) :
    W D A L (exec (.Assign [.Tuple elts k tpos] value pos) env) Q vs led := by
  rw [exec_Assign_arm]
  refine W.bind (W.standAt ?_)
  rw [hs]
  refine W.bind (W.pure ?_)
  rw [if_neg (by decide)]
  refine W.bind (W.mono h fun v vs led ⟨a, as, hv, hm, hn, q⟩ => ?_)
  rw [hw]
  subst hv
  refine W.bind (W.pure ?_)
  show W D A L (do PySem.rule "assign.swapped-stores"; let items ← unpackItems _ names.length none; assignInOrder (names.reverse.map fun n => PySem.bindName env n) items.reverse; Pure.pure .next) Q vs led
  refine W.bind (W.rule (W.bind (W.unpack_tup hr hm hn fun items hi => ?_)))
  exact W.bind (W.mono (W.inOrder_names (fun n => PySem.bindName env n) (fun n v Q vs led h => W.bindName h) _ _ _ _ _ _ hi.reverse q) fun _ _ _ q => W.pure q)
theorem swap2 {x y : Str} {px py tp vp : Pos} {k m : Nat} {v1 v2 : Expr} {ls gs : List Str} (F : Fn env L ls gs) (hx : x ∈ ls) (hy : y ∈ ls) (hne : (x == y) = false) (hl : (py.line == px.line) = true) (hst : ([v1, v2].any fun | .Starred .. => true | _ => false) = false)
    (hf : ([v1, v2].all (foldedForSure 8)) = false) (hc : ([v1, v2].all (constantsAlone 8)) = false) :
    swappedStores [.Tuple [.Name x px, .Name y py] k tp] (.Tuple [v1, v2] m vp) env = Pure.pure (some [x, y]) := by
  have b : env.blockKind = .function := by unfold Env.blockKind; rw [F.fk]; rfl
  have k1 := (F.ls x hx).1
  have k2 := (F.ls y hy).1
  have hyx : (y == x) = false := by rw [Bool.eq_false_iff] at hne ⊢; exact fun h => hne (by rw [beq_iff_eq] at h ⊢; exact h.symm)
  have e1 : ([Expr.Name x px, Expr.Name y py].filterMap fun | .Name id pos => if (env.kindOf id == some .local && pos.line == (([Expr.Name x px, Expr.Name y py].head?.map (·.pos.line)).getD 0)) = true then some id else none | _ => none) = [x, y] := by
    simp only [List.filterMap_cons, List.filterMap_nil, List.head?_cons, Option.map_some, Option.getD_some, k1, k2]
    have l1 : (px.line == (Expr.Name x px).pos.line) = true := by simp [Expr.pos]
    have l2 : (py.line == (Expr.Name x px).pos.line) = true := hl
    rw [l1, l2]; rfl
  have e2 : [x, y].eraseDups.length = 2 := by
    simp [List.eraseDups_cons, hyx]
  unfold swappedStores
  have nt : ∀ {c : Bool}, c = false → ¬ c = true := fun h h' => by rw [h] at h'; cases h'
  refine Eq.trans (if_neg (nt (by rw [b]; rfl))) ?_
  refine Eq.trans (if_neg (nt hst)) ?_
  refine Eq.trans (if_neg (nt (Eq.trans (congrArg (fun l : List Str => (l.length != 2 || l.eraseDups.length != l.length)) e1) (by show (2 != 2 || ([x, y]).eraseDups.length != 2) = false; rw [e2]; rfl)))) ?_
  refine Eq.trans (if_neg (nt hf)) ?_
  refine Eq.trans (if_neg (nt hc)) ?_
  exact congrArg (fun l : List Str => (Pure.pure (some l) : Sem (Option (List Str)))) e1
theorem swap3 {x y z : Str} {px py pz tp vp : Pos} {k m : Nat} {v1 v2 v3 : Expr} {ls gs : List Str} (F : Fn env L ls gs) (hx : x ∈ ls) (hy : y ∈ ls) (hz : z ∈ ls) (hne : (x == y) = false) (hne2 : (x == z) = false) (hne3 : (y == z) = false) (hl : (py.line == px.line) = true) (hl2 : (pz.line == px.line) = true)
    (hst : ([v1, v2, v3].any fun | .Starred .. => true | _ => false) = false) (hf : ([v1, v2, v3].all (foldedForSure 8)) = false) (hc : ([v1, v2, v3].all (constantsAlone 8)) = false) :
    swappedStores [.Tuple [.Name x px, .Name y py, .Name z pz] k tp] (.Tuple [v1, v2, v3] m vp) env = Pure.pure (some [x, y, z]) := by
  have b : env.blockKind = .function := by unfold Env.blockKind; rw [F.fk]; rfl
  have k1 := (F.ls x hx).1
  have k2 := (F.ls y hy).1
  have k3 := (F.ls z hz).1
  have sy : ∀ {p q : Str}, (p == q) = false → (q == p) = false := fun {p q} h => by rw [Bool.eq_false_iff] at h ⊢; exact fun h' => h (by rw [beq_iff_eq] at h' ⊢; exact h'.symm)
  have e1 : ([Expr.Name x px, Expr.Name y py, Expr.Name z pz].filterMap fun | .Name id pos => if (env.kindOf id == some .local && pos.line == (([Expr.Name x px, Expr.Name y py, Expr.Name z pz].head?.map (·.pos.line)).getD 0)) = true then some id else none | _ => none) = [x, y, z] := by
    simp only [List.filterMap_cons, List.filterMap_nil, List.head?_cons, Option.map_some, Option.getD_some, k1, k2, k3]
    have l1 : (px.line == (Expr.Name x px).pos.line) = true := by simp [Expr.pos]
    have l2 : (py.line == (Expr.Name x px).pos.line) = true := hl
    have l3 : (pz.line == (Expr.Name x px).pos.line) = true := hl2
    rw [l1, l2, l3]; rfl
  have e2 : [x, y, z].eraseDups.length = 3 := by
    simp [List.eraseDups_cons, sy hne, sy hne2, sy hne3]
  unfold swappedStores
  have nt : ∀ {c : Bool}, c = false → ¬ c = true := fun h h' => by rw [h] at h'; cases h'
  refine Eq.trans (if_neg (nt (by rw [b]; rfl))) ?_
  refine Eq.trans (if_neg (nt hst)) ?_
  refine Eq.trans (if_neg (nt (Eq.trans (congrArg (fun l : List Str => (l.length != 3 || l.eraseDups.length != l.length)) e1) (by show (3 != 3 || ([x, y, z]).eraseDups.length != 3) = false; rw [e2]; rfl)))) ?_
  refine Eq.trans (if_neg (nt hf)) ?_
  refine Eq.trans (if_neg (nt hc)) ?_
  exact congrArg (fun l : List Str => (Pure.pure (some l) : Sem (Option (List Str)))) e1
end
end Mine
end
section
open PySem PySem.W PySem.Calls PyProof.Rows
set_option maxRecDepth 100000
set_option autoImplicit false
set_option linter.unusedVariables false
namespace Mine
section
variable {D : Wd} {A : Around} {L : Addr} {α β : Type} {vs : Vars} {led led' : Led} {env : Env} {s : Shared} {a b : Addr} {as bs : List AV} {x y : List Nat} {t u : Tok}

abbrev Post (D : Wd) (L : Addr) {α : Type} (Q : α → Vars → Led → Prop) : α → Shared → Prop := fun v s' => ∃ vs' led', Rep D ((L, .ns vs') :: led') s' ∧ Q v vs' led'

/-- what a loop's body comes to -/
def Turn (Q : Flow → Vars → Led → Prop) (again : Vars → Led → Prop) : Flow → Vars → Led → Prop
  | .next, vs, led => again vs led
  | .cont, vs, led => again vs led
  | .brk, vs, led => Q .next vs led
  | .ret v, vs, led => Q (.ret v) vs led

theorem W.While_ {test : Expr} {body orelse : List Stmt} {pos : Pos} {Q : Flow → Vars → Led → Prop} (I : Nat → Vars → Led → Prop) (n : Nat) (h0 : I n vs led)
    (turn : ∀ n vs led, I n vs led → W D A L (isTrue test env (eval test env)) (fun b vs led => (b = true → W D A L (execs body env) (Turn Q fun vs led => ∃ m, m < n ∧ I m vs led) vs led) ∧ (b = false → W D A L (execs orelse env) Q vs led)) vs led) :
    W D A L (exec (.While test body orelse pos) env) Q vs led := fun s R => by
  refine wpAny_While (codeAny_whileLoop (I := fun n s => ∃ vs led, Rep D ((L, .ns vs) :: led) s ∧ I n vs led) (fun n s ⟨vs, led, R, i⟩ => ?_) n ⟨vs, led, R, h0⟩)
  refine wpAny_mono (turn n vs led i s R) (fun b s2 ⟨vs2, led2, R2, h2⟩ => ?_) fun _ _ x => x.elim
  cases b with
  | false =>
    rw [if_neg Bool.false_ne_true]
    exact wpAny_mono (h2.2 rfl s2 R2) (fun f s3 q => q) fun _ _ x => x.elim
  | true =>
    rw [if_pos rfl]
    refine wpAny_mono (h2.1 rfl s2 R2) (fun f s3 ⟨vs3, led3, R3, h3⟩ => ?_) fun _ _ x => x.elim
    cases f with
    | next => obtain ⟨m, hm, i'⟩ := h3; exact ⟨m, hm, vs3, led3, R3, i'⟩
    | cont => obtain ⟨m, hm, i'⟩ := h3; exact ⟨m, hm, vs3, led3, R3, i'⟩
    | brk => exact ⟨vs3, led3, R3, h3⟩
    | ret v => exact ⟨vs3, led3, R3, h3⟩

/-- an iterator's step and end -/
def NextIs (D : Wd) (A : Around) (L it : Addr) (need : Led → Prop) (ob ob' : Ob) (x : AV) : Prop :=
  ∀ vs led s, need led → Rep D ((L, .ns vs) :: (it, ob) :: led) s → wpAny D.M A (pyNext (.ref it)) (fun r s' => ∃ v, r = some v ∧ x.is v ∧ Rep D ((L, .ns vs) :: (it, ob') :: led) s') none_E s
def EndIs (D : Wd) (A : Around) (L it : Addr) (need : Led → Prop) (ob : Ob) : Prop :=
  ∀ vs led s, need led → Rep D ((L, .ns vs) :: (it, ob) :: led) s → wpAny D.M A (pyNext (.ref it)) (fun r s' => r = none ∧ Rep D ((L, .ns vs) :: led) s') none_E s
def LetsGo (D : Wd) (A : Around) (L it : Addr) (target : Expr) (ob : Ob) : Prop :=
  ∀ vs led s v, Rep D ((L, .ns vs) :: (it, ob) :: led) s → wpAny D.M A (letOwnedTupleGo target (.ref it) v) (fun _ s' => s' = s) none_E s
theorem LetsGo.name {it : Addr} {x : Str} {p : Pos} {ob : Ob} : LetsGo D A L it (.Name x p) ob := fun _ _ _ _ _ => wpAny_pure rfl

/-- a for over an iterator at hand -/
theorem W.forLoop {target : Expr} {body orelse : List Stmt} {it : Addr} {need : Led → Prop} {obs : Nat → Ob} {items : List AV} {Q : Flow → Vars → Led → Prop} (I : List AV → Vars → Led → Prop)
    (hneed : ∀ r vs led, I r vs led → need led) (hnext : ∀ i x, items[i]? = some x → NextIs D A L it need (obs i) (obs (i + 1)) x) (hend : EndIs D A L it need (obs items.length)) (hlet : ∀ i, LetsGo D A L it target (obs i))
    (turn : ∀ x r vs led ob v, x.is v → I (x :: r) vs led → W D A L (assign target env v) (fun _ vs led => W D A L (execs body env) (Turn Q fun vs l => ∃ l2, Sub ((it, ob) :: l2) l ∧ I r vs l2) vs led) vs ((it, ob) :: led))
    (done : ∀ vs led, I [] vs led → W D A L (execs orelse env) Q vs led) (h0 : I items vs led) (R : Rep D ((L, .ns vs) :: (it, obs 0) :: led) s) :
    codeAny D.M A (.forLoop target (.ref it) body orelse env) (fun r s' => match r with | .ok f => Post D L Q f s' | .error e => cameBackBy D.M A env none_E e s') s := by
  refine codeAny_forLoop_any (R := fun r s' => match r with | .ok f => Post D L Q f s' | .error e => cameBackBy D.M A env none_E e s') (fun n s => ∃ i vs led, n = items.length - i ∧ Rep D ((L, .ns vs) :: (it, obs i) :: led) s ∧ I (items.drop i) vs led ∧ i ≤ items.length) ?_ items.length ⟨0, vs, led, rfl, R, h0, Nat.zero_le _⟩
  rintro n s ⟨i, vs, led, rfl, R, hI, hi⟩
  rcases Nat.lt_or_ge i items.length with q | q
  · have hd : items.drop i = items[i] :: items.drop (i + 1) := List.drop_eq_getElem_cons q
    rw [hd] at hI
    refine wpAny_mono (hnext i items[i] (by simp [q]) vs led s (hneed _ _ _ hI) R) (fun r s1 ⟨v, hr, hv, R1⟩ => ?_) fun _ _ x => x.elim
    subst hr
    refine wpAny_mono (hlet _ vs led s1 v R1) (fun _ s2 e => ?_) fun _ _ x => x.elim
    subst e
    refine wpAny_mono (turn _ _ vs led _ v hv hI _ R1) (fun _ s3 ⟨vs3, led3, R3, h3⟩ => ?_) fun _ _ x => x.elim
    refine wpAny_mono (h3 _ R3) (fun f s4 ⟨vs4, led4, R4, h4⟩ => ?_) fun _ _ x => x.elim
    cases f with
    | next => obtain ⟨l2, hs, i2⟩ := h4; exact ⟨items.length - (i + 1), by omega, i + 1, vs4, l2, rfl, R4.sub (.cons hs), i2, q⟩
    | cont => obtain ⟨l2, hs, i2⟩ := h4; exact ⟨items.length - (i + 1), by omega, i + 1, vs4, l2, rfl, R4.sub (.cons hs), i2, q⟩
    | brk => exact ⟨vs4, led4, R4, h4⟩
    | ret v => exact ⟨vs4, led4, R4, h4⟩
  · have e : i = items.length := by omega
    subst e
    rw [List.drop_of_length_le (Nat.le_refl _)] at hI
    refine wpAny_mono (hend vs led s (hneed _ _ _ hI) R) (fun r s1 ⟨hr, R1⟩ => ?_) fun _ _ x => x.elim
    subst hr
    exact wpAny_mono (done vs led hI s1 R1) (fun f s2 q => q) fun _ _ x => x.elim

theorem NextIs.change {ob ob' : Ob} {it : Addr} {h' : Heap} {tk : Nat} (R : Rep D ((L, .ns vs) :: (it, ob) :: led) s) (hs : Heap.SameBut it s.heap h') (hn : ∃ o, h'.get? it = some o ∧ ob'.ok o) :
    Rep D ((L, .ns vs) :: (it, ob') :: led) { s with heap := h', toks := tk } := R.up .here hs hn
theorem EndIs.extBut {ob : Ob} {it : Addr} {h' : Heap} {tk : Nat} (R : Rep D ((L, .ns vs) :: (it, ob) :: led) s) (hs : Heap.ExtBut it s.heap h') : Rep D ((L, .ns vs) :: led) { s with heap := h', toks := tk } := by
  have R1 := R.perm (List.Perm.swap ..)
  have hne : ∀ p ∈ (L, .ns vs) :: led, p.1 ≠ it := fun p hp => R1.ne hp
  have hf := R1.fresh _ (.head _)
  exact ⟨fun b o e => hs b o (fun q => by subst q; rw [hf] at e; cases e) (R.keep _ _ e), fun p hp => by
    obtain ⟨o, ho, k⟩ := R1.own p (.tail _ hp)
    exact ⟨o, hs _ _ (hne p hp) ho, k⟩, fun p hp => R1.fresh p (.tail _ hp), (List.nodup_cons.mp R1.nodup).2, R.os, R.gk, R.bare⟩

/- lists -/
def listIt (a : Addr) (i : Nat) : Ob := .sat fun o => o.cls = .type "list_iterator" ∧ o.data = .fields #[.ref a, .int (i : Int) 0]
theorem listIt.at {it : Addr} {i : Nat} (R : Rep D led s) (hm : (it, listIt a i) ∈ led) : s.heap.IsListIter it a i := by
  obtain ⟨o, ho, h1, h2⟩ := R.own _ hm
  exact ⟨o, ho, h1, h2⟩
theorem next_list {it : Addr} {i : Nat} {x : AV} (hx : as[i]? = some x) : NextIs D A L it (fun led => (a, .list as) ∈ led) (listIt a i) (listIt a (i + 1)) x := fun vs led s hm R => by
  obtain ⟨vals, n, hi, hl⟩ := R.listAt (.tail _ (.tail _ hm))
  obtain ⟨v, hv, hq⟩ := hi.get hx
  exact wpAny_pyNext_list_item (listIt.at R (.tail _ (.head _))) (isL hl) (x := v) (by simpa using hv) fun h' ⟨o, ho, h1, h2⟩ hs => ⟨v, rfl, hq, NextIs.change (tk := s.toks) R hs ⟨o, ho, h1, h2⟩⟩
theorem end_list {n : Nat} {it : Addr} (hr : Room A n) : EndIs D A L it (fun led => (a, .list as) ∈ led) (listIt a as.length) := fun vs led s hm R => by
  obtain ⟨vals, n, hi, hl⟩ := R.listAt (.tail _ (.tail _ hm))
  have := hi.length
  exact wpAny_pyNext_list_end hr.2.2 (listIt.at R (.tail _ (.head _))) (isL hl) (by simp; omega) fun h' he => ⟨rfl, EndIs.extBut (tk := s.toks) R he⟩
theorem LetsGo.list {it : Addr} {target : Expr} {i : Nat} : LetsGo D A L it target (listIt a i) := fun vs led s v R => by
  obtain ⟨o, ho, h1, h2⟩ := listIt.at R (.tail _ (.head _))
  unfold letOwnedTupleGo
  split
  · cases v with
    | ref b =>
      refine wpAny_bind (wpAny_load ho ?_)
      simp only [h1, h2]
      exact wpAny_pure rfl
    | _ => exact wpAny_pure rfl
  · cases v with
    | ref b =>
      refine wpAny_bind (wpAny_load ho ?_)
      simp only [h1, h2]
      exact wpAny_pure rfl
    | _ => exact wpAny_pure rfl
  · exact wpAny_pure rfl

theorem W.For_list {target iter : Expr} {body orelse : List Stmt} {pos : Pos} {n : Nat} {Q : Flow → Vars → Led → Prop} (hr : Room A n) (hs : ∀ x, foldedSetIterable iter env x = Pure.pure x)
    (h : W D A L (eval iter env) (fun v vs led => ∃ (a : Addr) (as : List AV) (I : List AV → Vars → Led → Prop), v = .ref a ∧ (∀ r vs led, I r vs led → (a, .list as) ∈ led) ∧ I as vs led ∧
      (∀ x r vs led it ob v, x.is v → I (x :: r) vs led → W D A L (assign target env v) (fun _ vs led => W D A L (execs body env) (Turn Q fun vs l => ∃ l2, Sub ((it, ob) :: l2) l ∧ I r vs l2) vs led) vs ((it, ob) :: led)) ∧
      (∀ vs led, I [] vs led → W D A L (execs orelse env) Q vs led)) vs led) : W D A L (exec (.For target iter body orelse pos) env) Q vs led := fun s R => by
  refine wpAny_For (wpAny_mono (h s R) (fun v s1 ⟨vs1, led1, R1, a, as, I, hv, hm, h0, turn, done⟩ => ?_) fun _ _ x => x.elim) hs
  subst hv
  obtain ⟨vals, n2, hi, hl⟩ := R1.listAt (.tail _ (hm _ _ _ h0))
  refine wpAny_pyIter_list (isL hl) ?_
  exact W.forLoop (obs := listIt a) I hm (fun i x hx => next_list hx) (end_list hr) (fun i => .list) (fun x r vs led ob v => turn x r vs led _ ob v) done h0 (R1.pushed (ob := listIt a 0) (tk := s1.toks) rfl ⟨rfl, rfl⟩)

/- ranges from zero by one -/
def rangeIt (lo n i : Int) : Ob := .raw { cls := .type "range_iterator", dict := none, data := .fields #[rawInt (lo + i), rawInt (n - i), rawInt 1], slots := #[] }
theorem next_range {it : Addr} {lo n : Int} {i : Nat} (hx : (i : Int) < n) : NextIs D A L it (fun _ => True) (rangeIt lo n i) (rangeIt lo n (i + 1 : Nat)) (.int (lo + i)) := fun vs led s hm R => by
  obtain ⟨o, ho, rfl⟩ := R.own _ (.tail _ (.head _))
  refine wpAny_pyNext_range_item ho (by omega) fun h' hi hs => ⟨_, rfl, ⟨_, rfl⟩, NextIs.change R hs ⟨_, hi, ?_⟩⟩
  show _ = _
  have e1 : lo + (i : Int) + 1 = lo + ((i + 1 : Nat) : Int) := by omega
  have e2 : n - (i : Int) - 1 = n - ((i + 1 : Nat) : Int) := by omega
  rw [e1, e2]
theorem end_range {it : Addr} {lo n : Int} {i m : Nat} (hr : Room A m) (hx : n ≤ (i : Int)) : EndIs D A L it (fun _ => True) (rangeIt lo n i) := fun vs led s hm R => by
  obtain ⟨o, ho, rfl⟩ := R.own _ (.tail _ (.head _))
  exact wpAny_pyNext_range_end hr.2.2 ho (by omega) fun h' he => ⟨rfl, EndIs.extBut (tk := s.toks) R he⟩
/-- lo, lo + 1, ... : n of them -/
def upFrom (lo : Int) : Nat → List Int
  | 0 => []
  | n + 1 => lo :: upFrom (lo + 1) n
theorem upFrom_len (n : Nat) : ∀ lo, (upFrom lo n).length = n := by
  induction n with
  | zero => intro lo; rfl
  | succ n ih => intro lo; simp [upFrom, ih]
theorem upFrom_get (n : Nat) : ∀ (lo : Int) (i : Nat), i < n → (upFrom lo n)[i]? = some (lo + i) := by
  induction n with
  | zero => intro lo i h; omega
  | succ n ih =>
    intro lo i h
    cases i with
    | zero => simp [upFrom]
    | succ i => simp only [upFrom, List.getElem?_cons_succ]; rw [ih (lo + 1) i (by omega)]; congr 1; omega
def rangeOb (lo hi : Int) : Ob := .sat fun o => ∃ t u v, o = { cls := .type "range", dict := none, data := .fields #[.int lo t, .int hi u, .int 1 v], slots := #[] }
theorem W.For_range {x : Str} {px : Pos} {iter : Expr} {body orelse : List Stmt} {pos : Pos} {n : Nat} {Q : Flow → Vars → Led → Prop} (hr : Room A n) (hs : ∀ x, foldedSetIterable iter env x = Pure.pure x)
    (h : W D A L (eval iter env) (fun v vs led => ∃ (a : Addr) (lo hi : Int) (I : List Int → Vars → Led → Prop), v = .ref a ∧ (a, rangeOb lo hi) ∈ led ∧ (0 ≤ lo ∧ lo ≤ 1000000 ∧ hi ≤ 1000000 ∧ -1000000 ≤ hi) ∧
      I (upFrom lo (hi - lo).toNat) vs led ∧
      (∀ k r vs led it ob t, I (k :: r) vs led → W D A L (storeName env x (.int k t)) (fun _ vs led => W D A L (execs body env) (Turn Q fun vs l => ∃ l2, Sub ((it, ob) :: l2) l ∧ I r vs l2) vs led) vs ((it, ob) :: led)) ∧
      (∀ vs led, I [] vs led → W D A L (execs orelse env) Q vs led)) vs led) : W D A L (exec (.For (.Name x px) iter body orelse pos) env) Q vs led := fun s R => by
  refine wpAny_For (wpAny_mono (h s R) (fun v s1 ⟨vs1, led1, R1, a, lo, hi, I, hv, hm, ⟨b1, b2, b3, b4⟩, h0, turn, done⟩ => ?_) fun _ _ x => x.elim) hs
  subst hv
  obtain ⟨o, ho, t, u, v, rfl⟩ := R1.own _ (.tail _ hm)
  have e : Builtin.Range.rangeSize lo hi 1 = ((hi - lo).toNat : Int) := PyProof.Rows.rangeSize_nat lo hi
  refine wpAny_pyIter_range ho ?_ ?_
  · unfold Builtin.Range.small
    rw [e]
    have f : ∀ z : Int, -3000000 ≤ z → z ≤ 3000000 → Builtin.Range.rangeFitsLong z = true := fun z h1 h2 => by
      unfold Builtin.Range.rangeFitsLong
      simp
      omega
    rw [f lo (by omega) (by omega), f hi (by omega) (by omega), f 1 (by omega) (by omega), f _ (by omega) (by omega)]
    rw [if_pos (by decide), f (hi + (1 - 1)) (by omega) (by omega)]
    simp
  · rw [e]
    refine W.forLoop (need := fun _ => True) (obs := fun i => rangeIt lo (hi - lo).toNat i) (items := (upFrom lo (hi - lo).toNat).map .int) (fun r vs led => ∃ ks : List Int, r = ks.map .int ∧ I ks vs led) (fun _ _ _ _ => trivial) (fun i x hx => ?_) ?_ (fun i => .name) ?_ ?_ ⟨_, rfl, h0⟩ (R1.pushed (ob := rangeIt lo (hi - lo).toNat 0) (tk := s1.toks) rfl ?_)
    · rw [List.getElem?_map] at hx
      have hlt : i < (hi - lo).toNat := by
        rcases Nat.lt_or_ge i (hi - lo).toNat with q | q
        · exact q
        · rw [List.getElem?_eq_none (by rw [upFrom_len]; exact q)] at hx; cases hx
      rw [upFrom_get _ _ _ hlt] at hx
      obtain rfl := (Option.some.inj hx)
      exact next_range (by omega)
    · rw [List.length_map, upFrom_len]
      exact end_range hr (by omega)
    · rintro x r vs led ob v hv ⟨ks, hk, hI⟩
      cases ks with
      | nil => cases hk
      | cons k ks =>
        rw [List.map_cons] at hk
        obtain ⟨rfl, rfl⟩ := List.cons.inj hk
        obtain ⟨t, rfl⟩ := hv
        refine W.assign_name (W.mono (turn k ks vs led _ ob t hI) fun _ vs led q => W.mono q fun f vs led q => ?_)
        cases f with
        | next => obtain ⟨l2, h1, h2⟩ := q; exact ⟨l2, h1, ks, rfl, h2⟩
        | cont => obtain ⟨l2, h1, h2⟩ := q; exact ⟨l2, h1, ks, rfl, h2⟩
        | brk => exact q
        | ret v => exact q
    · rintro vs led ⟨ks, hk, hI⟩
      cases ks with
      | nil => exact done _ _ hI
      | cons k ks => cases hk
    · show _ = _
      rw [show lo + (0 : Int) = lo from Int.add_zero _, show (((hi - lo).toNat : Int)) - 0 = ((hi - lo).toNat : Int) from Int.sub_zero _]
theorem W.range1 {m : Int} {t : Tok} {Q : Value → Vars → Led → Prop} (h : ∀ a, Q (.ref a) vs ((a, rangeOb 0 m) :: led)) : W D A L (PySem.call (.type "range") [.int m t]) Q vs led := fun s R =>
  call_range_1 ⟨vs, _, R.pushed (ob := rangeOb 0 m) rfl ⟨_, _, _, rfl⟩, h _⟩
theorem W.range2 {k m : Int} {t u : Tok} {Q : Value → Vars → Led → Prop} (h : ∀ a, Q (.ref a) vs ((a, rangeOb k m) :: led)) : W D A L (PySem.call (.type "range") [.int k t, .int m u]) Q vs led := fun s R =>
  call_range_2 ⟨vs, _, R.pushed (ob := rangeOb k m) rfl ⟨_, _, _, rfl⟩, h _⟩

/- signs of a text -/
def strIt (x : List Nat) (t : Tok) (i : Nat) : Ob := .sat fun o => o.cls = .type "str_ascii_iterator" ∧ o.data = .fields #[.str (S x) t, .int (i : Int) 0]
theorem W.For_str {x : Str} {px : Pos} {iter : Expr} {body orelse : List Stmt} {pos : Pos} {n : Nat} {Q : Flow → Vars → Led → Prop} (hr : Room A n) (hs : ∀ x, foldedSetIterable iter env x = Pure.pure x)
    (h : W D A L (eval iter env) (fun v vs led => ∃ (y : List Nat) (t : Tok) (I : List Nat → Vars → Led → Prop), v = .str (S y) t ∧ (∀ c ∈ y, c < 128) ∧
      I y vs led ∧
      (∀ c r vs led it ob t, I (c :: r) vs led → W D A L (storeName env x (.str (S [c]) t)) (fun _ vs led => W D A L (execs body env) (Turn Q fun vs l => ∃ l2, Sub ((it, ob) :: l2) l ∧ I r vs l2) vs led) vs ((it, ob) :: led)) ∧
      (∀ vs led, I [] vs led → W D A L (execs orelse env) Q vs led)) vs led) : W D A L (exec (.For (.Name x px) iter body orelse pos) env) Q vs led := fun s R => by
  refine wpAny_For (wpAny_mono (h s R) (fun v s1 ⟨vs1, led1, R1, y, t, I, hv, ha, h0, turn, done⟩ => ?_) fun _ _ x => x.elim) hs
  subst hv
  have hat : ∀ {it : Addr} {i : Nat} {led : Led} {s : Shared}, Rep D led s → (it, strIt y t i) ∈ led → s.heap.IsStrIter it "str_ascii_iterator" (S y) t i := fun {it i led s} R hm => by
    obtain ⟨o, ho, h1, h2⟩ := R.own _ hm
    exact ⟨o, ho, h1, h2⟩
  refine wpAny_pyIter_ascii (by simpa [S, List.all_eq_true] using ha) ?_
  refine W.forLoop (need := fun _ => True) (obs := fun i => strIt y t i) (items := y.map fun c => .str [c]) (fun r vs led => ∃ ks : List Nat, r = ks.map (fun c => AV.str [c]) ∧ I ks vs led) (fun _ _ _ _ => trivial) (fun i x hx => ?_) ?_ (fun i => .name) ?_ ?_ ⟨_, rfl, h0⟩ (R1.pushed (ob := strIt y t 0) (tk := s1.toks) rfl ⟨rfl, rfl⟩)
  · rw [List.getElem?_map] at hx
    cases hc : y[i]? with
    | none => rw [hc] at hx; cases hx
    | some c =>
      rw [hc] at hx
      obtain rfl := (Option.some.inj hx)
      intro vs led s _ R
      refine wpAny_pyNext_ascii_item (hat R (.tail _ (.head _))) (c := c) (by simpa [S] using hc) fun h' ⟨o, ho, h1, h2⟩ hs => ⟨_, rfl, ⟨_, rfl⟩, NextIs.change R hs ⟨o, ho, h1, h2⟩⟩
  · intro vs led s _ R
    exact wpAny_pyNext_ascii_end hr.2.2 (hat R (.tail _ (.head _))) (by simp [S]) fun h' he => ⟨rfl, EndIs.extBut (tk := s.toks) R he⟩
  · rintro x r vs led ob v hv ⟨ks, hk, hI⟩
    cases ks with
    | nil => cases hk
    | cons k ks =>
      rw [List.map_cons] at hk
      obtain ⟨rfl, rfl⟩ := List.cons.inj hk
      obtain ⟨t, rfl⟩ := hv
      refine W.assign_name (W.mono (turn k ks vs led _ ob t hI) fun _ vs led q => W.mono q fun f vs led q => ?_)
      cases f with
      | next => obtain ⟨l2, h1, h2⟩ := q; exact ⟨l2, h1, ks, rfl, h2⟩
      | cont => obtain ⟨l2, h1, h2⟩ := q; exact ⟨l2, h1, ks, rfl, h2⟩
      | brk => exact q
      | ret v => exact q
  · rintro vs led ⟨ks, hk, hI⟩
    cases ks with
    | nil => exact done _ _ hI
    | cons k ks => cases hk
end
end Mine
end
section
open PySem PySem.W PySem.Calls PyProof.Rows
set_option maxRecDepth 100000
set_option autoImplicit false
set_option linter.unusedVariables false
namespace Mine
/-- a width's digits -/
def digs (n : Nat) : List Nat := (Str.ofString (toString (n : Int))).cps.toList
def fmtOk (n : Nat) : Bool :=
  ((digs n).all (· < 128)) && (match Builtin.Float.parseFormatSpec (62 :: digs n) "str" 60 with
  | .ok f => f.align == 62 && f.sign.isNone && !f.noNeg0 && !f.alt && f.precision.isNone && f.grouping.isNone && f.type.isNone && (if n = 0 then f.width.all (· ≤ 0) else f.width == some n && f.fill == 32)
  | .error _ => false) && (62 :: digs n).getLast? != some 0 && (digs n).length ≤ 10
theorem fmtOk_all : (List.range 400).all fmtOk = true := by decide +kernel
theorem fmtOk_of {n : Nat} (h : n < 400) : fmtOk n = true := List.all_eq_true.mp fmtOk_all n (List.mem_range.mpr h)
section
open Builtin Builtin.Str
theorem fmt_meets {n : Nat} (hn : n < 400) (x : List Nat) (hx : x.length ≤ 1000000) (t u : Tok) : Meets («str.__format__» ⟨[.str (S x) t, .str (S (62 :: digs n)) u], []⟩)
    (fun _ R s => ∀ t' k, R (.ok (.ret (.str (S (List.replicate (n - x.length) 32 ++ x)) t'))) { s with toks := k }) := by
  have hok := fmtOk_of hn
  unfold fmtOk at hok
  simp only [Bool.and_eq_true] at hok
  obtain ⟨⟨⟨h1, h2⟩, h3⟩, h4⟩ := hok
  refine PySem.W.KPc.meets_of fun prog w A s Q E hQ => ?_
  unfold Builtin.«str.__format__»
  refine wpAny_bind (wpAny_of_eq (a := (_, _, _)) rfl ?_)
  refine wpAny_bind (wpAny_of_eq (a := some _) rfl ?_)
  have nt : ∀ {c : Bool}, c = false → ¬ c = true := fun h h' => by rw [h] at h'; cases h'
  dsimp only
  rw [if_neg (by rw [S_len]; simp)]
  rw [if_neg (nt (by
    rw [S_cps]
    have a1 : ((List.drop 1 (62 :: digs n)).any fun x => decide (x ≥ 128)) = false := by
      rw [List.any_eq_false]
      intro c hc
      have := List.all_eq_true.mp h1 c hc
      simp at this ⊢; omega
    rw [a1]
    simp [S]))]
  refine wpAny_bind (PySem.W.KXf.cut_str ?_)
  rw [S_cps]
  cases hp : Float.parseFormatSpec (62 :: digs n) "str" 60 with
  | error m => rw [hp] at h2; exact absurd h2 Bool.false_ne_true
  | ok f =>
    rw [hp] at h2
    obtain ⟨fill, align, sign, noNeg0, alt, width, grouping, precision, type⟩ := f
    simp only [Bool.and_eq_true, Option.isNone_iff_eq_none, beq_iff_eq, Bool.not_eq_true'] at h2
    obtain ⟨⟨⟨⟨⟨⟨⟨rfl, rfl⟩, rfl⟩, rfl⟩, rfl⟩, rfl⟩, rfl⟩, hw⟩ := h2
    have hb : ((S (62 :: digs n)).cps.back? == some 0) = false := by
      have : (S (62 :: digs n)).cps.back? = (62 :: digs n).getLast? := by rw [List.getLast?_eq_getElem?]; simp [S, Array.back?]
      rw [this]
      simpa using h3
    simp only [hb, Bool.and_false, Bool.false_eq_true, if_false, Except.bind, Bind.bind, Except.pure, Pure.pure]
    have hg : width.getD 0 ≤ 400 := by
      by_cases q : n = 0
      · rw [if_pos q] at hw
        cases width with
        | none => simp
        | some k => simp at hw ⊢; omega
      · rw [if_neg q] at hw
        simp only [Bool.and_eq_true, beq_iff_eq] at hw
        rw [hw.1]; simp; omega
    have ht : tooLong (width.getD 0) = false := by
      unfold tooLong
      rw [sizeLine_eq]
      exact decide_eq_false (by omega)
    rw [ht]
    simp only [Bool.false_eq_true, if_false]
    have hf : strField (S x) { fill := fill, align := 62, width := width } "str" = .ok (if width.all (· ≤ (S x).length) = true then none else some (padded (strSub (S x) 0 (S x).length) (width.getD 0 - (strSub (S x) 0 (S x).length).length) 0 fill)) := by
      unfold strField
      simp only [Option.all_none, Bool.and_true, Bind.bind, Except.bind, Pure.pure, Except.pure]
      simp
      split <;> rfl
    rw [hf]
    simp only
    have key : width.all (· ≤ (S x).length) = decide (n ≤ x.length) ∧ (n ≤ x.length ∨ (width = some n ∧ fill = 32)) := by
      rw [S_len]
      by_cases q : n = 0
      · subst q
        rw [if_pos rfl] at hw
        refine ⟨?_, .inl (Nat.zero_le _)⟩
        cases width with
        | none => simp
        | some k => simp at hw ⊢; omega
      · rw [if_neg q] at hw
        simp only [Bool.and_eq_true, beq_iff_eq] at hw
        rw [hw.1]
        exact ⟨by simp, .inr ⟨rfl, hw.2⟩⟩
    rw [key.1]
    by_cases q : n ≤ x.length
    · rw [if_pos (decide_eq_true q)]
      refine wpAny_bind (wpAny_rule (PySem.W.KXf.ret_same ?_ hQ))
      rw [Nat.sub_eq_zero_of_le q]; rfl
    · rw [if_neg (by rw [decide_eq_false q]; exact Bool.false_ne_true)]
      obtain ⟨rfl, rfl⟩ := key.2.resolve_left q
      refine PySem.W.KXf.ret_text ?_ ?_ hQ
      · rw [StrLaws.sub_whole]
        refine S_ext ?_
        simp [padded, S, Str.length]
      · rw [StrLaws.sub_whole]
        rw [size_padded, S_len]
        exact fits_S (by simp; omega)
end
section
variable {D : Wd} {A : Around} {L : Addr} {α β : Type} {vs : Vars} {led led' : Led} {env : Env} {s : Shared} {a b : Addr} {as bs : List AV} {x y : List Nat} {t u : Tok}
/- f-strings -/
theorem W.Joined_ {values : List Expr} {pos : Pos} {Q : Value → Vars → Led → Prop} (h : W D A L (joinParts (S []) (evalEach values env)) Q vs led) (hl : ∀ v, evalEach values env ≠ [v] := by intro v hv; cases hv) : W D A L (eval (.JoinedStr values pos) env) Q vs led := by
  have e : eval (.JoinedStr values pos) env = joinedStr (evalEach values env) := rfl
  rw [e]
  unfold joinedStr
  split
  · rename_i v hv; exact absurd hv (hl v)
  · exact h
theorem W.parts_nil {Q : Value → Vars → Led → Prop} (hz : x.length ≤ 10000000) (h : ∀ t, Q (.str (S x) t) vs led) : W D A L (joinParts (S x) []) Q vs led := fun s R => by
  show wpAny _ _ (mkStr (S x)) _ _ s
  exact wpAny_mkStr ⟨vs, led, R.toks, h _⟩ (by rw [S_len]; exact fits_S hz)
/-- a part read: what is due of its text -/
def PartDue (D : Wd) (A : Around) (L : Addr) (x : List Nat) (rest : List (Sem Value)) (Q : Value → Vars → Led → Prop) (v : Value) (vs : Vars) (led : Led) : Prop :=
  ∃ y t, v = .str (S y) t ∧ x.length + y.length ≤ 10000000 ∧ W D A L (joinParts (S (x ++ y)) rest) Q vs led
theorem W.parts_cons {m : Sem Value} {rest : List (Sem Value)} {Q : Value → Vars → Led → Prop} (h : W D A L m (PartDue D A L x rest Q) vs led) : W D A L (joinParts (S x) (m :: rest)) Q vs led := by
  show W D A L (do
    let some s ← asStr? (← m) | unsupported "internal:joinedstr"
    if (S x).length + s.length > sizeLine then unsupported "str:memory"
    joinParts (S x ++ s) rest) Q vs led
  refine W.bind (W.mono h fun v vs led ⟨y, t, hv, hz, q⟩ => ?_)
  subst hv
  refine W.bind (W.pure ?_)
  show W D A L (if (S x).length + (S y).length > sizeLine then _ else _) Q vs led
  rw [if_neg (by rw [S_len, S_len, sizeLine_eq]; omega), S_app]
  first
    | exact q
    | exact W.bind (W.pure q)
theorem PartDue.intro {rest : List (Sem Value)} {Q : Value → Vars → Led → Prop} (hz : x.length + y.length ≤ 10000000) (h : W D A L (joinParts (S (x ++ y)) rest) Q vs led) : PartDue D A L x rest Q (.str (S y) t) vs led := ⟨y, t, rfl, hz, h⟩
theorem W.Formatted0 {value : Expr} {pos : Pos} {Q : Value → Vars → Led → Prop} (h : W D A L (eval value env) (fun v vs led => W D A L (formatField v (S [])) Q vs led) vs led) : W D A L (eval (.FormattedValue value (-1) none pos) env) Q vs led := fun s R =>
  wpAny_FormattedValue_plain (wpAny_mono (h s R) (fun v s1 ⟨vs1, led1, R1, q⟩ => q s1 R1) fun _ _ x => x)
theorem W.Formatted1 {value spec : Expr} {pos : Pos} {Q : Value → Vars → Led → Prop} (h : W D A L (eval value env) (fun v vs led => W D A L (eval spec env) (fun r vs led => ∃ sp t, r = .str sp t ∧ W D A L (formatField v sp) Q vs led) vs led) vs led) : W D A L (eval (.FormattedValue value (-1) (some spec) pos) env) Q vs led := fun s R =>
  wpAny_FormattedValue_spec (wpAny_mono (h s R) (fun v s1 ⟨vs1, led1, R1, q⟩ => wpAny_mono (q s1 R1) (fun r s2 ⟨vs2, led2, R2, sp, t, hr, q2⟩ => ⟨sp, t, hr, q2 s2 R2⟩) fun _ _ x => x) fun _ _ x => x)
theorem W.field_str {Q : Value → Vars → Led → Prop} (hz : x.length ≤ 10000000) (h : ∀ t, Q (.str (S x) t) vs led) : W D A L (formatField (.str (S x) t) (S [])) Q vs led := fun s R =>
  wpAny_formatField_str ⟨vs, led, R, h _⟩ ⟨vs, led, R.toks, h _⟩ (by rw [S_len]; exact fits_S hz)
theorem W.field_int {n : Nat} {Q : Value → Vars → Led → Prop} (hn : n < 1000000) (h : ∀ t, Q (.str (S (digs n)) t) vs led) : W D A L (formatField (.int (n : Int) t) (S [])) Q vs led := fun s R => by
  refine wpAny_formatField_int ?_ ?_
  · have : (n : Int).natAbs < 2 ^ 1920 := Nat.lt_of_lt_of_le (by simp; exact hn) (by decide)
    by_cases q : (n : Int).natAbs = 0
    · rw [q]; decide
    · exact (Nat.log2_lt q).mpr this
  · rw [← S_toList (Str.ofString (toString (n : Int)))]
    exact ⟨vs, led, R.toks, h _⟩
theorem W.field_pad {n : Nat} {sp : List Nat} {Q : Value → Vars → Led → Prop} (e : sp = 62 :: digs n) (hn : n < 400) (hz : x.length ≤ 1000000) (h : ∀ t, Q (.str (S (List.replicate (n - x.length) 32 ++ x)) t) vs led) : W D A L (formatField (.str (S x) t) (S sp)) Q vs led := fun s R => by
  subst e
  have hok := fmtOk_of hn
  unfold fmtOk at hok
  simp only [Bool.and_eq_true, decide_eq_true_eq] at hok
  exact PySem.W.KXf.field_str rfl rfl (by rw [S_len]; simp) (by rw [S_len]; exact fits_S (by simp; omega)) (fun u => fmt_meets hn x hz t u) (fun t' k => ⟨vs, led, R.toks, h _⟩)

/- calls by a name -/
theorem W.Call_ {x : Str} {np pos : Pos} {args : List Expr} {keywords : List Keyword} {Q : Value → Vars → Led → Prop}
    (h : W D A L (eval (.Name x np) env) (fun f vs led => W D A L (PySem.callWith pos f [] (backTo pos (starEach args env)) (backToKw pos (keywordEach keywords env))) Q vs led) vs led) : W D A L (eval (.Call (.Name x np) args keywords pos) env) Q vs led := by
  show W D A L (do PySem.callWith pos (← eval (.Name x np) env) [] (backTo pos (starEach args env)) (backToKw pos (keywordEach keywords env))) Q vs led
  exact W.bind h
theorem W.callNo {pos : Pos} {f : Value} {args : List Expr} {k : Keeper} {Q : Value → Vars → Led → Prop} (hk : Looks D.M D.B (keeperOf f) k)
    (h : W D A L (spliced (backTo pos (starEach args env))) (fun l vs led => W D A L (PySem.call f l) Q vs led) vs led) (hp : (backTo pos (starEach args env)).any (·.1) = false) : W D A L (PySem.callWith pos f [] (backTo pos (starEach args env)) (backToKw pos (keywordEach [] env))) Q vs led :=
  W.callWith0 hk h hp
def kwNames (keywords : List (Option Str × Sem Value)) (ks : List Value) : List (Str × Value) := (keywords.filterMap (·.1)).zip ks
theorem W.callKw {pos : Pos} {f : Value} {first : List Value} {args : List (Bool × Sem Value)} {keywords : List (Option Str × Sem Value)} {k : Keeper} {Q : Value → Vars → Led → Prop} (hk : Looks D.M D.B (keeperOf f) k)
    (h : W D A L (spliced args) (fun l vs led => W D A L (evalAll (keywords.map (·.2))) (fun ks vs led => W D A L (PySem.call f (first ++ l) (kwNames keywords ks)) Q vs led) vs led) vs led) (hp : args.any (·.1) = false) (hall : keywords.all (·.1.isSome) = true) :
    W D A L (PySem.callWith pos f first args keywords) Q vs led := by
  have fin : ∀ {t : Sem Value} {vs led}, W D A L t Q vs led → W D A L (t >>= fun r => PySem.holding [r] PySem.point >>= fun _ => Pure.pure r) Q vs led :=
    fun h => W.bind (W.mono h fun _ _ _ q => W.bind (W.holding (W.point (W.pure q))))
  have hn : keywords.any (·.1.isNone) = false := by
    rw [List.any_eq_false]
    intro p hp h
    have := List.all_eq_true.mp hall p hp
    rw [Option.isNone_iff_eq_none] at h
    rw [h] at this; cases this
  have ea : evalArgs f true args keywords = (do let l ← spliced args; PySem.holding l (do let ks ← evalAll (keywords.map (·.2)); Pure.pure ⟨l, kwNames keywords ks⟩)) := by
    unfold evalArgs
    have : ∀ (x : Sem Value), args ≠ [(true, x)] := by rintro x rfl; cases hp
    rcases args with _ | ⟨⟨b, x⟩, r⟩
    · simp [hall, Option.toList, kwNames]
    · cases b
      · simp [hall, Option.toList, kwNames]
      · simp at hp
  unfold PySem.callWith
  rw [ea]
  refine W.bind (W.holding (W.bind (W.mono h fun l vs led q => W.holding (W.bind (W.mono q fun ks vs led q => W.pure (W.bind (W.standAt ?_)))))))
  simp only [hp, hn, Bool.or_false]
  refine W.bind (t := keeperOf f) (W.looks hk ?_)
  cases k
  · dsimp only
    split
    · exact fin q
    · exact fin (W.keep q)
  · dsimp only
    split
    · exact fin q
    · exact fin (W.keep q)
  · exact fin q
  · exact fin (W.operate q)
theorem W.kws_nil {pos : Pos} {Q : List Value → Vars → Led → Prop} (h : Q [] vs led) : W D A L (evalAll ((backToKw pos (keywordEach [] env)).map (·.2))) Q vs led := W.pure h
theorem W.kws_cons {pos p : Pos} {n : Option Str} {value : Expr} {rest : List Keyword} {Q : List Value → Vars → Led → Prop}
    (h : W D A L (eval value env) (fun v vs led => W D A L (evalAll ((backToKw pos (keywordEach rest env)).map (·.2))) (fun l vs led => Q (v :: l) vs led) vs led) vs led) : W D A L (evalAll ((backToKw pos (keywordEach (⟨n, value, p⟩ :: rest) env)).map (·.2))) Q vs led := by
  show W D A L (do let v ← (do let v ← eval value env; PySem.standAt pos; Pure.pure v); return v :: (← PySem.holding [v] (evalAll ((backToKw pos (keywordEach rest env)).map (·.2))))) Q vs led
  exact W.bind (W.bind (W.mono h fun v vs led q => W.bind (W.standAt (W.pure (W.bind (W.holding (W.mono q fun l vs led q => W.pure q)))))))
end
end Mine
end
section
open PySem PySem.W PySem.Calls PyProof.Rows
set_option maxRecDepth 100000
set_option autoImplicit false
set_option linter.unusedVariables false
namespace Mine
noncomputable abbrev Wd.K (D : Wd) : Frag := hd.heap_39 D.w.params
theorem lookIn_of {name : Str} {o : Obj} {des : Array DictEntry} {n : Nat} (hd : o.data = .dict des n) (hk : StrKeys des) : lookIn name o = some (nsFind des name) := by
  unfold lookIn
  rw [hd]
  dsimp only
  unfold nsFind findBy
  rw [← Array.find?_toList]
  have hr : des.toList.any (·.refKey) = false := by
    rw [List.any_eq_false]
    intro e he
    obtain ⟨n, t, h⟩ := hk e (Array.mem_toList_iff.mp he)
    simp [DictEntry.refKey, h]
  cases des.toList.find? (fun e => e.key.isStr name) with
  | none => simp [hr]
  | some e => simp
theorem lookup_some_mem {x : Str} {vs : Vars} {v : Value} (h : OptIs ((vs.lookup x).join) (some v)) : x ∈ vs.map (·.1) := by
  induction vs with
  | nil => exact h.elim
  | cons p r ih =>
    obtain ⟨k, w⟩ := p
    rw [List.lookup_cons] at h
    cases q : x == k with
    | true => rw [eq_of_beq q]; exact .head _
    | false => rw [q] at h; exact .tail _ (ih h)
theorem nodup_sub_len {α : Type} [DecidableEq α] : ∀ (l m : List α), l.Nodup → (∀ x ∈ l, x ∈ m) → l.length ≤ m.length
  | [], m, _, _ => Nat.zero_le _
  | a :: l, m, hn, hs => by
    rw [List.nodup_cons] at hn
    have := nodup_sub_len l (m.erase a) hn.2 fun x hx => (List.mem_erase_of_ne (fun e => hn.1 (by rw [← e]; exact hx))).mpr (hs x (.tail _ hx))
    rw [List.length_erase_of_mem (hs a (.head _))] at this
    have hp : 0 < m.length := List.length_pos_of_mem (hs a (.head _))
    simp only [List.length_cons]
    omega
theorem dict_size {es : Vars} {o : Obj} (h : (Ob.dict es).ok o) : ∃ des n, o.data = .dict des n ∧ des.size ≤ es.length := by
  obtain ⟨⟨hn, des, n, hd, hk, hm⟩, des', n', hd', hu⟩ := h
  rw [hd] at hd'
  cases hd'
  refine ⟨des, n, hd, ?_⟩
  let nameOf : DictEntry → Str := fun e => match e.key with | .str n _ => n | _ => Str.empty
  have h1 : (des.toList.map nameOf).Nodup := by
    unfold UniqKeys at hu
    rw [List.Nodup, List.pairwise_map]
    refine (List.pairwise_iff_forall_sublist.mpr ?_)
    intro a b hab e
    have hp := (List.pairwise_iff_forall_sublist.mp hu) hab
    obtain ⟨n1, t1, k1⟩ := hk a (Array.mem_toList_iff.mp (hab.subset (.head _)))
    obtain ⟨n2, t2, k2⟩ := hk b (Array.mem_toList_iff.mp (hab.subset (.tail _ (.head _))))
    have e1 : nameOf a = n1 := by show (match a.key with | .str n _ => n | _ => Str.empty) = _; rw [k1]
    have e2 : nameOf b = n2 := by show (match b.key with | .str n _ => n | _ => Str.empty) = _; rw [k2]
    rw [e1, e2] at e
    exact hp n1 (by rw [k1]; simp [Value.isStr]) (by rw [k2, ← e]; simp [Value.isStr])
  have h2 : ∀ x ∈ des.toList.map nameOf, x ∈ es.map (·.1) := by
    intro x hx
    obtain ⟨e, he, rfl⟩ := List.mem_map.mp hx
    obtain ⟨n1, t1, k1⟩ := hk e (Array.mem_toList_iff.mp he)
    have e1 : nameOf e = n1 := by show (match e.key with | .str n _ => n | _ => Str.empty) = _; rw [k1]
    rw [e1]
    have h3 := hm n1
    cases q : nsFind des n1 with
    | some v => rw [q] at h3; exact lookup_some_mem h3
    | none =>
      exfalso
      unfold nsFind findBy at q
      rw [Option.map_eq_none_iff, Array.find?_eq_none] at q
      exact q e (Array.mem_toList_iff.mp he) (by rw [k1]; simp [Value.isStr])
  have := nodup_sub_len _ _ h1 h2
  simpa using this

section
variable {D : Wd} {A : Around} {L : Addr} {α β : Type} {vs : Vars} {led led' : Led} {env : Env} {s : Shared} {a b x dx C : Addr} {as bs : List AV} {es : Vars}

theorem Rep.instAt (R : Rep D led s) (h1 : (x, .inst C dx) ∈ led) (h2 : (dx, .dict es) ∈ led) : ∃ o, InstAt s.heap x (instObj C dx) C (some o) ∧ s.heap.get? dx = some o ∧ (Ob.dict es).ok o := by
  obtain ⟨o1, ho1, rfl⟩ := R.own _ h1
  obtain ⟨o2, ho2, k⟩ := R.own _ h2
  exact ⟨o2, ⟨ho1, rfl, rfl, ho2⟩, ho2, k⟩
def attrOk (K : Frag) (C : Addr) (name : Str) : Bool :=
  (findIn K (.ref C) "__getattribute__" == some (some (.builtin "object.__getattribute__"))) && (findIn K (.ref C) name == some none) && (clsIn K C).any (·.hasDict)
theorem W.getA {name : Str} {av : AV} {Q : Value → Vars → Led → Prop} (hk : attrOk D.K C name = true) (h1 : (x, .inst C dx) ∈ led) (h2 : (dx, .dict es) ∈ led) (g : Get name av es) (hc : copiedNames.contains name = false := by rfl) (hh : ∀ v, av.is v → handedIn v = true) (h : ∀ v, av.is v → Q v vs led) :
    W D A L (getAttr (.ref x) name true) Q vs led := fun s R => by
  simp only [attrOk, Bool.and_eq_true, beq_iff_eq] at hk
  obtain ⟨⟨k1, k2⟩, k3⟩ := hk
  obtain ⟨o, I, ho, hok⟩ := R.instAt (.tail _ h1) (.tail _ h2)
  obtain ⟨v, hv, des, n, hd, hks, hf⟩ := hok.1.get g
  obtain ⟨cd, hcd, hdict⟩ : ∃ cd, clsIn D.K C = some cd ∧ cd.hasDict = true := by
    cases q : clsIn D.K C with
    | none => rw [q] at k3; cases k3
    | some cd => rw [q] at k3; exact ⟨cd, rfl, k3⟩
  refine get_value R.inK I k1 (v := v) ?_ (hh v hv) ⟨vs, led, R.toks, h v hv⟩
  unfold findObj
  have hl : lookIn name o = some (some v) := by rw [lookIn_of hd hks, hf]
  rw [hcd, k2]
  simp only [Option.bind_some]
  unfold PySem.W.ownOf
  rw [if_pos hdict]
  simp only [hl, Option.bind_some]
theorem W.Attribute_ {value : Expr} {attr : Str} {pos : Pos} {Q : Value → Vars → Led → Prop} (h : W D A L (eval value env) (fun o vs led => W D A L (getAttr o attr true) Q vs led) vs led) (hb : ∀ m, attributeBase value attr env m = m := by intro m; rfl) : W D A L (eval (.Attribute value attr pos) env) Q vs led := by
  show W D A L (do
    let o ← attributeBase value attr env (eval value env)
    PySem.standAt pos.atName
    let r ← PySem.holding [o] (getAttr o attr true)
    PySem.letTemporaryGo value o r
    Pure.pure r) Q vs led
  rw [hb]
  exact W.bind (W.mono h fun _ _ _ q => W.bind (W.standAt (W.bind (W.holding (W.mono q fun _ _ _ q => W.bind (W.letTemporaryGo (W.pure q)))))))

def storeOk (K : Frag) (C : Addr) (name : Str) : Bool :=
  (findIn K (.ref C) "__setattr__" == some (some (.builtin "object.__setattr__"))) && plainOver K C && (takerIn K C name == some none) && (clsIn K C).any (·.hasDict)
theorem W.setA {name : Str} {v : Value} {av : AV} {es' : Vars} {Q : Unit → Vars → Led → Prop} (hk : storeOk D.K C name = true) (h1 : (x, .inst C dx) ∈ led) (hv : av.is v) (p : Put name av es es') (u : Up dx (.dict es) (.dict es') led led') (hz : es.length ≤ 1000) (h : Q () vs led') :
    W D A L (setAttr (.ref x) name v) Q vs led := fun s R => by
  simp only [storeOk, Bool.and_eq_true, beq_iff_eq] at hk
  obtain ⟨⟨⟨k1, k2⟩, k3⟩, k4⟩ := hk
  obtain ⟨o, I, ho, hok⟩ := R.instAt (.tail _ h1) (.tail _ u.mem)
  obtain ⟨cd, hcd, hdict⟩ : ∃ cd, clsIn D.K C = some cd ∧ cd.hasDict = true := by
    cases q : clsIn D.K C with
    | none => rw [q] at k4; cases k4
    | some cd => rw [q] at k4; exact ⟨cd, rfl, k4⟩
  refine set_plain R.inK I k1 (osa_open R.inK I k2 k3 fun b => ?_)
  obtain ⟨o1, hx, rfl⟩ := R.own _ (.tail _ h1)
  refine wpAny_bind (wpAny_pure (wpAny_bind (wpAny_bind (wpAny_loadPart hx (wpAny_bind ((looks_clsIn R.inK hcd) _ _ _ _ (fun _ _ e => e) ?_))))))
  rw [hdict]
  refine wpAny_pure (a := some dx) (wpAny_bind (wpAny_pure (wpAny_bind ?_)))
  obtain ⟨⟨hn, des, n, hd, hks, hm⟩, des', n', hd', hu⟩ := id hok
  rw [hd] at hd'
  cases hd'
  refine wpAny_nsSet1 (m := nsFind des) ⟨o, des, n, ho, hd, hks, hu, fun _ => rfl⟩ fun h' ⟨o2, des2, n2, ho2, hd2, hk2, hu2, hf2⟩ hs => ?_
  have ok2 : (Ob.dict es').ok o2 := by
    refine ⟨⟨by rw [p.names]; exact hn, des2, n2, hd2, hk2, fun y => ?_⟩, des2, n2, hd2, hu2⟩
    rw [hf2, p.lookup hn]
    dsimp only
    by_cases e : y = name
    · rw [if_pos e, if_pos e]; exact hv
    · rw [if_neg e, if_neg e]; exact hm y
  obtain ⟨des3, n3, hd3, hz3⟩ := dict_size ok2
  have hl : es'.length = es.length := by have := congrArg List.length p.names; simpa using this
  refine wpAny_bind (wpAny_lookBehind ho2 (by rw [hd3]; exact pastItsLine_dict (by rw [sizeLine_eq]; omega)) ?_)
  exact wpAny_pure ⟨vs, led', R.up u hs ⟨o2, ho2, ok2⟩, h⟩
theorem W.Assign_Attr {o value : Expr} {attr : Str} {p pos : Pos} {Q : Flow → Vars → Led → Prop} (h : W D A L (eval value env) (fun v vs led => W D A L (eval o env) (fun ov vs led => W D A L (setAttr ov attr v) (fun _ => Q .next) vs led) vs led) vs led)
    (hs : swapsWithSole [.Attribute o attr p] value pos.line env = Pure.pure false := by rfl) : W D A L (exec (.Assign [.Attribute o attr p] value pos) env) Q vs led := by
  rw [exec_Assign_arm]
  refine W.bind (W.standAt ?_)
  rw [hs]
  refine W.bind (W.pure ?_)
  rw [if_neg (by decide)]
  refine W.bind (W.mono h fun v vs led q => ?_)
  show W D A L (do assignAll v ((assignEach [.Attribute o attr p] env).map (·.2)); Pure.pure .next) Q vs led
  refine W.bind ?_
  show W D A L (do
    let ov ← PySem.holding [v] (eval o env)
    PySem.standAt p.atName
    PySem.holding [v, ov] (setAttr ov attr v)
    PySem.release [v, ov] []) _ vs led
  exact W.bind (W.holding (W.mono q fun _ _ _ q => W.bind (W.standAt (W.bind (W.holding (W.mono q fun _ _ _ q => W.release (W.pure q)))))))
theorem W.Aug_Attr {o value : Expr} {attr : Str} {op : Operator} {tpos pos : Pos} {Q : Flow → Vars → Led → Prop}
    (h : W D A L (eval o env) (fun ov vs led => W D A L (getAttr ov attr true) (fun old vs led => W D A L (eval value env) (fun v vs led => W D A L (inplaceOp op old v) (fun new vs led => W D A L (setAttr ov attr new) (fun _ => Q .next) vs led) vs led) vs led) vs led) vs led) :
    W D A L (exec (.AugAssign (.Attribute o attr tpos) op value pos) env) Q vs led := by
  show W D A L (do
    PySem.standAt pos
    let ov ← eval o env
    let new ← PySem.holding [ov] do
      PySem.standAt tpos.atName
      let old ← getAttr ov attr true
      let v ← PySem.holding [old] (eval value env)
      PySem.standAt pos
      PySem.operate [old, v] (inplaceOp op old v)
    PySem.standAt tpos.atName
    PySem.holding [new, ov] (setAttr ov attr new)
    PySem.release [new, ov] []
    Pure.pure .next) Q vs led
  exact W.bind (W.standAt (W.bind (W.mono h fun ov vs led q => W.bind (W.holding (W.bind (W.standAt (W.bind (W.mono q fun old vs led q => W.bind (W.holding (W.mono q fun v vs led q => W.bind (W.standAt (W.operate (W.mono q fun new vs led q =>
    W.bind (W.standAt (W.bind (W.holding (W.mono q fun _ _ _ q => W.bind (W.release (W.pure q)))))))))))))))))))
def methOk (K : Frag) (C f : Addr) (name : Str) : Bool :=
  plainGet K C name && (findIn K (.ref C) name == some (some (.ref f))) && (typeIn K (.ref f) == some (.type "function"))
/-- a method of one's own, found -/
theorem W.meth {name : Str} {f : Addr} {pl : Sem Bool} {Q : Value × List Value → Vars → Led → Prop} (hk : methOk D.K C f name = true) (h1 : (x, .inst C dx) ∈ led) (h2 : (dx, .dict es) ∈ led) (hn : es.lookup name = none) (h : Q (.ref f, [.ref x]) vs led) : W D A L (getMethod (.ref x) name pl) Q vs led := fun s R => by
  simp only [methOk, Bool.and_eq_true, beq_iff_eq] at hk
  obtain ⟨⟨k1, k2⟩, k3⟩ := hk
  obtain ⟨o, I, ho, hok⟩ := R.instAt (.tail _ h1) (.tail _ h2)
  obtain ⟨hnn, des, n, hd, hks, hm⟩ := hok.1
  refine method_fn R.inK I (plainGet_of k1).1 (plainGet_of k1).2 k2 k3 ?_ ⟨vs, led, R, h⟩
  have h3 := hm name
  rw [hn] at h3
  have h4 : nsFind des name = none := by
    cases q : nsFind des name with
    | none => rfl
    | some v => rw [q] at h3; exact h3.elim
  show (lookIn name o).map _ = _
  rw [lookIn_of hd hks, h4]; rfl
theorem Room.in1 {n : Nat} (h : Room A (n + 1)) : Room A.in1 n := by
  obtain ⟨h1, h2, h3⟩ := h
  exact ⟨by show A.depth + n < _; omega, by show A.units + 1 + 8 * n < _; omega, h3⟩
def makeOk (K : Frag) (C fI : Addr) : Bool := makesIn K C && (findIn K (.ref C) "__init__" == some (some (.ref fI))) && (typeIn K (.ref fI) == some (.type "function"))
theorem tc_weight (C : Addr) (args : List Value) (kw : List (Str × Value)) : (Code.builtin "type.__call__" ⟨.ref C :: args, kw⟩).weight = 1 := by kernel_rfl
theorem tc_units (C : Addr) (args : List Value) (kw : List (Str × Value)) : (Code.builtin "type.__call__" ⟨.ref C :: args, kw⟩).cUnits = 1 := by kernel_rfl
theorem Room.tc {n : Nat} {args : List Value} {kw : List (Str × Value)} (h : Room A (n + 1)) : Room (A.under (.builtin "type.__call__" ⟨.ref C :: args, kw⟩)) n := by
  obtain ⟨h1, h2, h3⟩ := h
  have a := tc_weight C args kw
  have b := tc_units C args kw
  exact ⟨by show A.depth + (Code.builtin "type.__call__" ⟨.ref C :: args, kw⟩).weight + n < _; rw [a]; omega, by show A.units + (Code.builtin "type.__call__" ⟨.ref C :: args, kw⟩).cUnits + 8 * n < _; rw [b]; omega, h3⟩
theorem W.make {fI : Addr} {args : List Value} {kw : List (Str × Value)} {Q : Value → Vars → Led → Prop} (names : List Str) (hk : makeOk D.K C fI = true) (hn : names.Nodup)
    (h : ∀ x dx, Cl D (A.under (.builtin "type.__call__" ⟨.ref C :: args, kw⟩)) (.ref fI) (.ref x :: args) kw (fun v l => v = .none ∧ Back L (fun _ => Q (.ref x)) .none l) ((x, .inst C dx) :: (dx, .dict (names.map fun n => (n, none))) :: (L, .ns vs) :: led)) : W D A L (PySem.call (.ref C) args kw) Q vs led := fun s R => by
  simp only [makeOk, Bool.and_eq_true, beq_iff_eq] at hk
  obtain ⟨⟨k1, k2⟩, k3⟩ := hk
  refine wpAny_call ?_
  have X := R.inK
  have R1 := R.pushed (ob := .dict (names.map fun n => (n, none))) (o := emptyDict) (tk := s.toks) rfl ⟨⟨by rw [List.map_map]; show (names.map id).Nodup; rw [List.map_id]; exact hn, #[], 0, rfl, fun e he => absurd he (Array.not_mem_empty e), fun y => by
    have : ((names.map fun n => (n, (none : Option AV))).lookup y).join = none := by
      clear hn h
      induction names with
      | nil => rfl
      | cons n r ih =>
        rw [List.map_cons, List.lookup_cons]
        cases y == n with
        | true => rfl
        | false => exact ih
    rw [this]; exact trivial⟩, #[], 0, rfl, .nil⟩
  have R2 := R1.pushed (ob := .inst C s.heap.objs.size) (o := instObj C s.heap.objs.size) (tk := s.toks) rfl rfl
  obtain ⟨hh, g, d, t, os⟩ := s
  refine make_core (makes_of X k1) (looks_findIn X k2) (fun self => bind_fn X self k3) (.inl rfl) ?_
  have e : (hh.push emptyDict).objs.size = hh.objs.size + 1 := Heap.size_push ..
  rw [e] at R2
  refine codeAny_mono (h (hh.objs.size + 1) hh.objs.size _ (R2.perm ?_)) fun r s' ⟨v, l, hr, R', hv, vs'', led'', hs, q⟩ => ?_
  · exact (List.Perm.swap ..).trans ((List.Perm.swap ..).cons _)
  · subst hr
    subst hv
    exact ⟨rfl, vs'', led'', R'.sub hs, q⟩
end
end Mine
end
section
open PySem PySem.W PySem.Calls PyProof.Rows
set_option maxRecDepth 100000
set_option autoImplicit false
set_option linter.unusedVariables false
namespace Mine
def isFnK (K : Frag) (a : Addr) : Bool := match K.lookup a with | some ⟨_, _, .func _, _⟩ => true | _ => false
theorem kpFn {D : Wd} {a : Addr} (e : isFnK D.K a = true) : Looks D.M D.B (keeperOf (.ref a)) .frame := by
  unfold isFnK at e
  split at e
  · rename_i h; exact keeperOf_fn h
  · cases e
theorem kpCls {D : Wd} {C : Addr} (e : keepIn D.K (.ref C) = true) (hf : (match D.K.lookup C with | some ⟨_, _, .func _, _⟩ => true | _ => false) = false) : ∃ k, Looks D.M D.B (keeperOf (.ref C)) k := by
  obtain ⟨k, _, h⟩ := looks_keep (M := D.M) (h := D.B) e D.inK
  exact ⟨k, h⟩
section
variable {D : Wd}
theorem gl_strip_ansi : Glb D "strip_ansi" (.ref 170) := Glb.top (by kernel_rfl)
theorem gl__ansi_match : Glb D "_ansi_match" (.ref 177) := Glb.top (by kernel_rfl)
theorem gl_term_len : Glb D "term_len" (.ref 184) := Glb.top (by kernel_rfl)
theorem gl__truncate_visible : Glb D "_truncate_visible" (.ref 191) := Glb.top (by kernel_rfl)
theorem gl__split_opt : Glb D "_split_opt" (.ref 238) := Glb.top (by kernel_rfl)
theorem gl_measure_table : Glb D "measure_table" (.ref 245) := Glb.top (by kernel_rfl)
theorem gl_iter_rows : Glb D "iter_rows" (.ref 252) := Glb.top (by kernel_rfl)
theorem gl_wrap_text : Glb D "wrap_text" (.ref 260) := Glb.top (by kernel_rfl)
theorem gl_join_options : Glb D "join_options" (.ref 368) := Glb.top (by kernel_rfl)
theorem gl__law_take : Glb D "_law_take" (.ref 375) := Glb.top (by kernel_rfl)
theorem gl__law_parts : Glb D "_law_parts" (.ref 382) := Glb.top (by kernel_rfl)
theorem gl__law_laid : Glb D "_law_laid" (.ref 389) := Glb.top (by kernel_rfl)
theorem gl__law_paragraphs : Glb D "_law_paragraphs" (.ref 396) := Glb.top (by kernel_rfl)
theorem gl__law_wrapped : Glb D "_law_wrapped" (.ref 401) := Glb.top (by kernel_rfl)
theorem gl__law_word : Glb D "_law_word" (.ref 408) := Glb.top (by kernel_rfl)
theorem gl__law_line : Glb D "_law_line" (.ref 415) := Glb.top (by kernel_rfl)
theorem gl__law_text : Glb D "_law_text" (.ref 422) := Glb.top (by kernel_rfl)
theorem gl__law_usage : Glb D "_law_usage" (.ref 429) := Glb.top (by kernel_rfl)
theorem gl__law_list : Glb D "_law_list" (.ref 434) := Glb.top (by kernel_rfl)
theorem gl__law_done : Glb D "_law_done" (.ref 439) := Glb.top (by kernel_rfl)
theorem gl__law_joined : Glb D "_law_joined" (.ref 444) := Glb.top (by kernel_rfl)
theorem gl_ExtraIndent : Glb D "ExtraIndent" (.ref 124) := Glb.top (by kernel_rfl)
theorem gl_TextWrapper : Glb D "TextWrapper" (.ref 229) := Glb.top (by kernel_rfl)
theorem gl_HelpFormatter : Glb D "HelpFormatter" (.ref 357) := Glb.top (by kernel_rfl)
theorem gl_len : Glb D "len" (.builtin "len") := Glb.boot (by kernel_rfl) (by kernel_rfl) (by decide)
theorem gl_max : Glb D "max" (.builtin "max") := Glb.boot (by kernel_rfl) (by kernel_rfl) (by decide)
theorem gl_min : Glb D "min" (.builtin "min") := Glb.boot (by kernel_rfl) (by kernel_rfl) (by decide)
theorem gl_sum : Glb D "sum" (.builtin "sum") := Glb.boot (by kernel_rfl) (by kernel_rfl) (by decide)
theorem gl_sorted : Glb D "sorted" (.builtin "sorted") := Glb.boot (by kernel_rfl) (by kernel_rfl) (by decide)
theorem gl_abs : Glb D "abs" (.builtin "abs") := Glb.boot (by kernel_rfl) (by kernel_rfl) (by decide)
theorem gl_range : Glb D "range" (.type "range") := Glb.boot (by kernel_rfl) (by kernel_rfl) (by decide)
theorem gl_enumerate : Glb D "enumerate" (.type "enumerate") := Glb.boot (by kernel_rfl) (by kernel_rfl) (by decide)
theorem gl_list : Glb D "list" (.type "list") := Glb.boot (by kernel_rfl) (by kernel_rfl) (by decide)
theorem gl_tuple : Glb D "tuple" (.type "tuple") := Glb.boot (by kernel_rfl) (by kernel_rfl) (by decide)
theorem gl_map : Glb D "map" (.type "map") := Glb.boot (by kernel_rfl) (by kernel_rfl) (by decide)
theorem gl_ansi_re : Glb D "_ansi_re" (.ref 43) := Glb.top (by kernel_rfl)
theorem gl_FORCED_WIDTH : Glb D "FORCED_WIDTH" .none := Glb.top (by kernel_rfl)
theorem kp_65 : Looks D.M D.B (keeperOf (.ref 65)) .frame := kpFn (by kernel_rfl)
theorem kp_72 : Looks D.M D.B (keeperOf (.ref 72)) .frame := kpFn (by kernel_rfl)
theorem kp_79 : Looks D.M D.B (keeperOf (.ref 79)) .frame := kpFn (by kernel_rfl)
theorem kp_86 : Looks D.M D.B (keeperOf (.ref 86)) .frame := kpFn (by kernel_rfl)
theorem kp_107 : Looks D.M D.B (keeperOf (.ref 107)) .frame := kpFn (by kernel_rfl)
theorem kp_114 : Looks D.M D.B (keeperOf (.ref 114)) .frame := kpFn (by kernel_rfl)
theorem kp_121 : Looks D.M D.B (keeperOf (.ref 121)) .frame := kpFn (by kernel_rfl)
theorem kp_170 : Looks D.M D.B (keeperOf (.ref 170)) .frame := kpFn (by kernel_rfl)
theorem kp_177 : Looks D.M D.B (keeperOf (.ref 177)) .frame := kpFn (by kernel_rfl)
theorem kp_184 : Looks D.M D.B (keeperOf (.ref 184)) .frame := kpFn (by kernel_rfl)
theorem kp_191 : Looks D.M D.B (keeperOf (.ref 191)) .frame := kpFn (by kernel_rfl)
theorem kp_205 : Looks D.M D.B (keeperOf (.ref 205)) .frame := kpFn (by kernel_rfl)
theorem kp_212 : Looks D.M D.B (keeperOf (.ref 212)) .frame := kpFn (by kernel_rfl)
theorem kp_219 : Looks D.M D.B (keeperOf (.ref 219)) .frame := kpFn (by kernel_rfl)
theorem kp_226 : Looks D.M D.B (keeperOf (.ref 226)) .frame := kpFn (by kernel_rfl)
theorem kp_238 : Looks D.M D.B (keeperOf (.ref 238)) .frame := kpFn (by kernel_rfl)
theorem kp_245 : Looks D.M D.B (keeperOf (.ref 245)) .frame := kpFn (by kernel_rfl)
theorem kp_252 : Looks D.M D.B (keeperOf (.ref 252)) .frame := kpFn (by kernel_rfl)
theorem kp_260 : Looks D.M D.B (keeperOf (.ref 260)) .frame := kpFn (by kernel_rfl)
theorem kp_275 : Looks D.M D.B (keeperOf (.ref 275)) .frame := kpFn (by kernel_rfl)
theorem kp_282 : Looks D.M D.B (keeperOf (.ref 282)) .frame := kpFn (by kernel_rfl)
theorem kp_289 : Looks D.M D.B (keeperOf (.ref 289)) .frame := kpFn (by kernel_rfl)
theorem kp_296 : Looks D.M D.B (keeperOf (.ref 296)) .frame := kpFn (by kernel_rfl)
theorem kp_304 : Looks D.M D.B (keeperOf (.ref 304)) .frame := kpFn (by kernel_rfl)
theorem kp_311 : Looks D.M D.B (keeperOf (.ref 311)) .frame := kpFn (by kernel_rfl)
theorem kp_318 : Looks D.M D.B (keeperOf (.ref 318)) .frame := kpFn (by kernel_rfl)
theorem kp_325 : Looks D.M D.B (keeperOf (.ref 325)) .frame := kpFn (by kernel_rfl)
theorem kp_333 : Looks D.M D.B (keeperOf (.ref 333)) .frame := kpFn (by kernel_rfl)
theorem kp_354 : Looks D.M D.B (keeperOf (.ref 354)) .frame := kpFn (by kernel_rfl)
theorem kp_368 : Looks D.M D.B (keeperOf (.ref 368)) .frame := kpFn (by kernel_rfl)
theorem kp_375 : Looks D.M D.B (keeperOf (.ref 375)) .frame := kpFn (by kernel_rfl)
theorem kp_382 : Looks D.M D.B (keeperOf (.ref 382)) .frame := kpFn (by kernel_rfl)
theorem kp_389 : Looks D.M D.B (keeperOf (.ref 389)) .frame := kpFn (by kernel_rfl)
theorem kp_396 : Looks D.M D.B (keeperOf (.ref 396)) .frame := kpFn (by kernel_rfl)
theorem kp_401 : Looks D.M D.B (keeperOf (.ref 401)) .frame := kpFn (by kernel_rfl)
theorem kp_408 : Looks D.M D.B (keeperOf (.ref 408)) .frame := kpFn (by kernel_rfl)
theorem kp_415 : Looks D.M D.B (keeperOf (.ref 415)) .frame := kpFn (by kernel_rfl)
theorem kp_422 : Looks D.M D.B (keeperOf (.ref 422)) .frame := kpFn (by kernel_rfl)
theorem kp_429 : Looks D.M D.B (keeperOf (.ref 429)) .frame := kpFn (by kernel_rfl)
theorem kp_434 : Looks D.M D.B (keeperOf (.ref 434)) .frame := kpFn (by kernel_rfl)
theorem kp_439 : Looks D.M D.B (keeperOf (.ref 439)) .frame := kpFn (by kernel_rfl)
theorem kp_444 : Looks D.M D.B (keeperOf (.ref 444)) .frame := kpFn (by kernel_rfl)
theorem kp_449 : Looks D.M D.B (keeperOf (.ref 449)) .frame := kpFn (by kernel_rfl)
theorem kp_124 : ∃ k, Looks D.M D.B (keeperOf (.ref 124)) k := kpCls (by kernel_rfl) (by kernel_rfl)
theorem kp_229 : ∃ k, Looks D.M D.B (keeperOf (.ref 229)) k := kpCls (by kernel_rfl) (by kernel_rfl)
theorem kp_357 : ∃ k, Looks D.M D.B (keeperOf (.ref 357)) k := kpCls (by kernel_rfl) (by kernel_rfl)
end
theorem lit_0 : Str.ofString "" = S [] := by kernel_rfl
theorem lit_1 : Str.ofString " " = S [32] := by kernel_rfl
theorem lit_2 : Str.ofString "\n" = S [10] := by kernel_rfl
theorem lit_3 : Str.ofString "\n\n" = S [10, 10] := by kernel_rfl
theorem lit_4 : Str.ofString ":\n" = S [58, 10] := by kernel_rfl
theorem lit_5 : Str.ofString ">" = S [62] := by kernel_rfl
theorem lit_6 : Str.ofString "\u0008" = S [8] := by kernel_rfl
theorem lit_7 : Str.ofString "/b" = S [47, 98] := by kernel_rfl
theorem lit_8 : Str.ofString "/" = S [47] := by kernel_rfl
theorem lit_9 : Str.ofString "-" = S [45] := by kernel_rfl
theorem lit_10 : Str.ofString ", " = S [44, 32] := by kernel_rfl
theorem lit_11 : Str.ofString "abcdefghijklmnop" = S [97, 98, 99, 100, 101, 102, 103, 104, 105, 106, 107, 108, 109, 110, 111, 112] := by kernel_rfl
theorem lit_12 : Str.ofString "ponmlkjihgfedcba" = S [112, 111, 110, 109, 108, 107, 106, 105, 104, 103, 102, 101, 100, 99, 98, 97] := by kernel_rfl
theorem lit_13 : Str.ofString "Usage: " = S [85, 115, 97, 103, 101, 58, 32] := by kernel_rfl
theorem lit_14 : Str.ofString "  " = S [32, 32] := by kernel_rfl
theorem lit_15 : Str.ofString " \n" = S [32, 10] := by kernel_rfl
theorem lit_16 : Str.ofString "-a" = S [45, 97] := by kernel_rfl
theorem lit_17 : Str.ofString "--all" = S [45, 45, 97, 108, 108] := by kernel_rfl
theorem lit_18 : Str.ofString "+c" = S [43, 99] := by kernel_rfl
theorem lit_19 : Str.ofString "++deep" = S [43, 43, 100, 101, 101, 112] := by kernel_rfl
theorem lit_20 : Str.ofString "word" = S [119, 111, 114, 100] := by kernel_rfl
theorem lit_21 : Str.ofString "--" = S [45, 45] := by kernel_rfl
theorem lit_22 : Str.ofString "+" = S [43] := by kernel_rfl
theorem lit_23 : Str.ofString "\t\n\u000b\u000c\u000d " = S [9, 10, 11, 12, 13, 32] := by kernel_rfl
theorem lit_24 : Str.ofString " [...]" = S [32, 91, 46, 46, 46, 93] := by kernel_rfl
end Mine
end
section
open PySem PySem.W PySem.Calls PyProof.Rows
set_option maxRecDepth 100000
set_option autoImplicit false
set_option linter.unusedVariables false
namespace Mine
section
variable {D : Wd} {A : Around} {L : Addr} {α β : Type} {vs : Vars} {led led' : Led} {env : Env} {s : Shared} {a b : Addr} {as bs : List AV} {x y : List Nat} {t u : Tok}
theorem Sub.consE {ob ob' : Ob} {l l' : Led} (e : ob = ob') (h : Sub l l') : Sub ((a, ob) :: l) ((a, ob') :: l') := by subst e; exact .cons h
theorem Sub.pick {x : Addr × Ob} {l l' m : Led} (h : Take1 x l' m) (k : Sub l m) : Sub (x :: l) l' := by
  obtain ⟨r, p⟩ := k
  exact ⟨r, h.trans (p.cons x)⟩
theorem Take1.headE {ob ob' : Ob} {l : Led} (e : ob = ob') : Take1 (a, ob) ((a, ob') :: l) l := by subst e; exact .head
theorem Turn.next {Q : Flow → Vars → Led → Prop} {again : Vars → Led → Prop} (h : again vs led) : Turn Q again .next vs led := h
theorem Turn.cont {Q : Flow → Vars → Led → Prop} {again : Vars → Led → Prop} (h : again vs led) : Turn Q again .cont vs led := h
theorem Turn.brk {Q : Flow → Vars → Led → Prop} {again : Vars → Led → Prop} (h : Q .next vs led) : Turn Q again .brk vs led := h
theorem Turn.ret {Q : Flow → Vars → Led → Prop} {again : Vars → Led → Prop} {v : Value} (h : Q (.ret v) vs led) : Turn Q again (.ret v) vs led := h
theorem W.cutN {st : Stmt} {rest : List Stmt} {Q : Flow → Vars → Led → Prop} (I : Vars → Led → Prop) (h1 : W D A L (exec st env) (fun f vs led => f = .next ∧ I vs led) vs led) (h2 : ∀ vs led, I vs led → W D A L (execs rest env) Q vs led) : W D A L (exec st env) (Nx D A L rest env Q) vs led :=
  W.mono h1 fun f vs led ⟨e, i⟩ => by subst e; exact Nx.next (h2 vs led i)
theorem allAddr {P : Addr → Prop} (h : ∀ a : Addr, P a) : ∀ a : Addr, P a := h
theorem W.sl_tail {value : Expr} {lower upper : Option Expr} {p : Pos} {sl : Addr} {led0 : Led} {x : AV} {Q : Value → Vars → Led → Prop} (hm : (a, .list (x :: as)) ∈ led0) (hz : as.length ≤ 1000000) (h : ∀ c, Q (.ref c) vs ((c, .list as) :: led0)) :
    W D A L (subscriptTail value (.Slice lower upper none p) (.ref a) (.ref sl)) Q vs ((sl, .raw (slObj (.int 1 t) .none)) :: led0) :=
  W.sl_list (lo := some 1) (hi := none) (bs := as) hm (.int _ _) .none (fun v h => pick_from (k := 1) v h) (by simp; omega) h
theorem W.sl_butlast {value : Expr} {lower upper : Option Expr} {p : Pos} {sl : Addr} {led0 : Led} {Q : Value → Vars → Led → Prop} (hm : (a, .list as) ∈ led0) (hz : as.length ≤ 10000000) (h : ∀ c, Q (.ref c) vs ((c, .list as.dropLast) :: led0)) :
    W D A L (subscriptTail value (.Slice lower upper none p) (.ref a) (.ref sl)) Q vs ((sl, .raw (slObj .none (.int (-1) t))) :: led0) :=
  W.sl_list (lo := none) (hi := some (-1)) hm .none (.int _ _) (fun v h => pick_butLast v h) hz h
theorem W.sl_upto {value : Expr} {lower upper : Option Expr} {p : Pos} {sl : Addr} {led0 : Led} {i : Int} {Q : Value → Vars → Led → Prop} (h0 : 0 ≤ i) (hz : x.length ≤ 10000000) (h : ∀ t, Q (.str (S (x.take i.toNat)) t) vs led0) :
    W D A L (subscriptTail value (.Slice lower upper none p) (.str (S x) t) (.ref sl)) Q vs ((sl, .raw (slObj .none (.int i u))) :: led0) := by
  obtain ⟨k, rfl⟩ := Int.eq_ofNat_of_zero_le h0
  exact W.sl_str (l := none) (u := some (_, _)) slice_upto hz h
theorem W.sl_from {value : Expr} {lower upper : Option Expr} {p : Pos} {sl : Addr} {led0 : Led} {i : Int} {Q : Value → Vars → Led → Prop} (h0 : 0 ≤ i) (hz : x.length ≤ 10000000) (h : ∀ t, Q (.str (S (x.drop i.toNat)) t) vs led0) :
    W D A L (subscriptTail value (.Slice lower upper none p) (.str (S x) t) (.ref sl)) Q vs ((sl, .raw (slObj (.int i u) .none)) :: led0) := by
  obtain ⟨k, rfl⟩ := Int.eq_ofNat_of_zero_le h0
  exact W.sl_str (l := some (_, _)) (u := none) slice_from hz h
theorem W.sl_12 {value : Expr} {lower upper : Option Expr} {p : Pos} {sl : Addr} {led0 : Led} {v : Tok} {Q : Value → Vars → Led → Prop} (hz : x.length ≤ 10000000) (h : ∀ t, Q (.str (S ((x.drop 1).take 1)) t) vs led0) :
    W D A L (subscriptTail value (.Slice lower upper none p) (.str (S x) t) (.ref sl)) Q vs ((sl, .raw (slObj (.int 1 u) (.int 2 v))) :: led0) :=
  W.sl_str (l := some (1, _)) (u := some (2, _)) (slice_ab (a := 1) (b := 2) (by decide)) hz h
theorem swapDue2 {x y : Str} {p q : AV} {Q : Unit → Vars → Led → Prop} (hm : (a, .tup [p, q]) ∈ led) (h : Stores D A L env Q [y, x] [q, p] vs led) : ∃ a' as, Value.ref a = .ref a' ∧ (a', .tup as) ∈ led ∧ [x, y].length = as.length ∧ Stores D A L env Q [x, y].reverse as.reverse vs led := ⟨_, _, rfl, hm, rfl, h⟩
theorem swapDue3 {x y z : Str} {p q r : AV} {Q : Unit → Vars → Led → Prop} (hm : (a, .tup [p, q, r]) ∈ led) (h : Stores D A L env Q [z, y, x] [r, q, p] vs led) : ∃ a' as, Value.ref a = .ref a' ∧ (a', .tup as) ∈ led ∧ [x, y, z].length = as.length ∧ Stores D A L env Q [x, y, z].reverse as.reverse vs led := ⟨_, _, rfl, hm, rfl, h⟩
theorem wayD {p P Q : Prop} {d : Decidable p} (h1 : p → P) (h2 : ¬ p → Q) : (@decide p d = true → P) ∧ (@decide p d = false → Q) := ⟨fun e => h1 (of_decide_eq_true e), fun e => h2 (of_decide_eq_false e)⟩
theorem W.item_str0 {value slice : Expr} {c : Nat} {r : List Nat} {Q : Value → Vars → Led → Prop} (h : ∀ t, Q (.str (S [c]) t) vs led) (hs : isSl slice = false) : W D A L (subscriptTail value slice (.str (S (c :: r)) t) (.int 0 u)) Q vs led := fun s R =>
  tail_of (typeIs_str _ _ _) F.slot_str_getitem.lookup (P.getItem_str (by decide) (c := c) (by rw [S_len]; simp [seqIndex?, S]) ⟨vs, led, R.toks, h _⟩) hs
theorem Fn.inter {ls gs : List Str} (F : Fn env L ls gs) : interactive env = false := by
  unfold interactive; rw [F.fk]; rfl
theorem W.isCW {pos : Pos} {f : Value} {first : List Value} {args : List (Bool × Sem Value)} {kws : List (Option Str × Sem Value)} {Q : Value → Vars → Led → Prop} (h : W D A L (PySem.callWith pos f first args kws) Q vs led) : W D A L (PySem.callWith pos f first args kws) Q vs led := h
theorem W.callNo' {pos : Pos} {f : Value} {args : List Expr} {Q : Value → Vars → Led → Prop} (hk : ∃ k, Looks D.M D.B (keeperOf f) k)
    (h : W D A L (spliced (backTo pos (starEach args env))) (fun l vs led => W D A L (PySem.call f l) Q vs led) vs led) (hp : (backTo pos (starEach args env)).any (·.1) = false) : W D A L (PySem.callWith pos f [] (backTo pos (starEach args env)) (backToKw pos (keywordEach [] env))) Q vs led := by
  obtain ⟨k, hk⟩ := hk
  exact W.callWith0 hk h hp
theorem W.callKw' {pos : Pos} {f : Value} {first : List Value} {args : List (Bool × Sem Value)} {keywords : List (Option Str × Sem Value)} {Q : Value → Vars → Led → Prop} (hk : ∃ k, Looks D.M D.B (keeperOf f) k)
    (h : W D A L (spliced args) (fun l vs led => W D A L (evalAll (keywords.map (·.2))) (fun ks vs led => W D A L (PySem.call f (first ++ l) (kwNames keywords ks)) Q vs led) vs led) vs led) (hp : args.any (·.1) = false) (hall : keywords.all (·.1.isSome) = true) :
    W D A L (PySem.callWith pos f first args keywords) Q vs led := by
  obtain ⟨k, hk⟩ := hk
  exact W.callKw hk h hp hall
theorem W.mcO {name : Str} {f x dx C : Addr} {es : Vars} {pl : Sem Bool} {pos : Pos} {args : List (Bool × Sem Value)} {k : Keeper} {Q : Value → Vars → Led → Prop} (hk : methOk D.K C f name = true) (h1 : (x, .inst C dx) ∈ led) (h2 : (dx, .dict es) ∈ led) (hn : es.lookup name = none) (hf : Looks D.M D.B (keeperOf (.ref f)) k)
    (h : W D A L (spliced args) (fun l vs led => W D A L (PySem.call (.ref f) (.ref x :: l)) Q vs led) vs led) (hp : args.any (·.1) = false) :
    W D A L (getMethod (.ref x) name pl) (fun fx vs led => W D A L (PySem.callWith pos fx.1 fx.2 args []) Q vs led) vs led :=
  W.meth hk h1 h2 hn (W.callWith1 hf h hp)
theorem W.le_int {x y : Int} {t u : Tok} {Q : Value → Vars → Led → Prop} (h : Q (.bool (decide (x ≤ y))) vs led) : W D A L (compareOp .LtE (.int x t) (.int y u)) Q vs led := fun s R => PyProof.Rows.le_int ⟨vs, led, R, h⟩
theorem W.ge_int {x y : Int} {t u : Tok} {Q : Value → Vars → Led → Prop} (h : Q (.bool (decide (y ≤ x))) vs led) : W D A L (compareOp .GtE (.int x t) (.int y u)) Q vs led := fun s R => PyProof.Rows.ge_int ⟨vs, led, R, h⟩
theorem W.is_none_none {Q : Value → Vars → Led → Prop} (h : Q (.bool true) vs led) : W D A L (compareOp .Is .none .none) Q vs led := fun s R => PyProof.Rows.is_none_none ⟨vs, led, R, h⟩
theorem W.isnot_none_none {Q : Value → Vars → Led → Prop} (h : Q (.bool false) vs led) : W D A L (compareOp .IsNot .none .none) Q vs led := fun s R => PyProof.Rows.isnot_none_none ⟨vs, led, R, h⟩
theorem W.is_none_ref {Q : Value → Vars → Led → Prop} (h : Q (.bool false) vs led) : W D A L (compareOp .Is (.ref a) .none) Q vs led := fun s R => PyProof.Rows.is_none_ne (by nofun) ⟨vs, led, R, h⟩
theorem W.is_none_int {i : Int} {Q : Value → Vars → Led → Prop} (h : Q (.bool false) vs led) : W D A L (compareOp .Is (.int i t) .none) Q vs led := fun s R => PyProof.Rows.is_none_ne (by nofun) ⟨vs, led, R, h⟩
theorem W.is_none_str {i : Str} {Q : Value → Vars → Led → Prop} (h : Q (.bool false) vs led) : W D A L (compareOp .Is (.str i t) .none) Q vs led := fun s R => PyProof.Rows.is_none_ne (by nofun) ⟨vs, led, R, h⟩
end
end Mine
end
section
open PySem PySem.W PySem.Calls PyProof.Rows
set_option maxRecDepth 100000
set_option autoImplicit false
namespace Mine
theorem slot_pat_sub : Slot "re.Pattern" "sub" "re.Pattern.sub" :=
  .of (owner := "re.Pattern") (n := "sub") (by rw [typeLookup_type, builtinLookup_eq_fast]; kernel_rfl) (by decide +kernel) (by decide +kernel) (by decide +kernel)
    (by first | exact .inl (by decide +kernel) | exact .inr (by decide +kernel)) (by rw [isSubtype_type]; kernel_rfl)
theorem type_pat_sub : typeOf (.builtin "re.Pattern.sub") = pure (.type "method_descriptor") := by show builtinType _ = _; rw [builtinType_eq_fast]; kernel_rfl
theorem entry_pat_sub : entryFor table "re.Pattern.sub" = some Builtin.«re.Pattern.sub» := entryFor_of_tree (by kernel_rfl)
theorem entry_pat_loop : entryFor table "re.Pattern.sub.loop" = some Builtin.«re.Pattern.sub.loop» := entryFor_of_tree (by kernel_rfl)
theorem slot_pat_match : Slot "re.Pattern" "match" "re.Pattern.match" :=
  .of (owner := "re.Pattern") (n := "match") (by rw [typeLookup_type, builtinLookup_eq_fast]; kernel_rfl) (by decide +kernel) (by decide +kernel) (by decide +kernel)
    (by first | exact .inl (by decide +kernel) | exact .inr (by decide +kernel)) (by rw [isSubtype_type]; kernel_rfl)
theorem type_pat_match : typeOf (.builtin "re.Pattern.match") = pure (.type "method_descriptor") := by show builtinType _ = _; rw [builtinType_eq_fast]; kernel_rfl
theorem entry_pat_match : entryFor table "re.Pattern.match" = some Builtin.«re.Pattern.match» := entryFor_of_tree (by kernel_rfl)
theorem plainAttrs_pat : PlainAttrs "re.Pattern" :=
  ⟨⟨"object.__getattribute__", by rw [typeLookup_type, builtinLookup_eq_fast]; kernel_rfl, by decide +kernel⟩, by rw [typeLookup_type, builtinLookup_eq_fast]; kernel_rfl⟩
theorem args_pat_sub (a b c : Value) : argsOk "re.Pattern.sub" ⟨[a, b, c], []⟩ := by
  unfold argsOk; kernel_rfl
theorem args_pat_match (a b c : Value) : argsOk "re.Pattern.match" ⟨[a, b, c], []⟩ := by
  unfold argsOk; kernel_rfl

section
open PySem.Sre PySem.Builtin.Re
def CODE : Array Nat := #[14, 10, 1, 3, 4294967295, 2, 2, 27, 91, 0, 0, 16, 27, 16, 91, 24, 10, 0, 4294967295, 13, 5, 22, 48, 63, 0, 1, 24, 10, 0, 4294967295, 13, 5, 22, 32, 47, 0, 1, 13, 5, 22, 64, 126, 0, 1]
def stepsM : Nat → M → M
  | 0, m => m
  | n + 1, m => stepsM n m.step
theorem step_done {m : M} (h : m.outcome.isSome = true) : m.step = m := by unfold M.step; rw [if_pos h]
theorem steps_done {m : M} (h : m.outcome.isSome = true) : ∀ n, stepsM n m = m
  | 0 => rfl
  | n + 1 => by show stepsM n m.step = m; rw [step_done h, steps_done h n]
theorem steps_add (a : Nat) : ∀ (b : Nat) (m : M), stepsM (a + b) m = stepsM b (stepsM a m) := by
  induction a with
  | zero => intro b m; rw [Nat.zero_add]; rfl
  | succ a ih => intro b m; rw [Nat.succ_add]; exact ih b m.step
theorem runFor_eq : ∀ (n : Nat) (m : M), m.runFor n = stepsM n m
  | 0, m => rfl
  | n + 1, m => by
    unfold M.runFor
    split
    · rename_i h; rw [steps_done h]
    · exact runFor_eq n m.step
def Fails (m : M) (n : Nat) : Prop := (stepsM n m).outcome matches some .failed
def isFailed (m : M) : Prop := ∃ x, m.outcome = some x ∧ (match x with | .failed => True | _ => False)
theorem drive {M' : Model} {A : Around} {E : Value → Shared → Prop} {s : Shared} {Q : M → Shared → Prop} (hQ : ∀ m', isFailed m' → Q m' s) : ∀ (turns n : Nat) (m : M), n ≤ 4 * turns → 0 < turns → isFailed (stepsM n m) → wpAny M' A (reDrive turns m) Q E s
  | 0, _, _, _, h, _ => absurd h (by decide)
  | turns + 1, n, m, hn, _, hf => by
    show wpAny M' A (if (m.runFor reTurnSteps).outcome.isSome = true then pure (m.runFor reTurnSteps) else do PySem.rule "sre.turn"; reDrive turns (m.runFor reTurnSteps)) Q E s
    rw [runFor_eq]
    show wpAny M' A (if (stepsM 4 m).outcome.isSome = true then pure (stepsM 4 m) else do PySem.rule "sre.turn"; reDrive turns (stepsM 4 m)) Q E s
    have hfs : (stepsM n m).outcome.isSome = true := by obtain ⟨x, h, _⟩ := hf; rw [h]; rfl
    rcases Nat.le_total n 4 with q | q
    · have e : stepsM 4 m = stepsM n m := by
        have := steps_add n (4 - n) m
        rw [show n + (4 - n) = 4 from by omega] at this
        rw [this, steps_done hfs]
      rw [e, if_pos hfs]
      exact wpAny_pure (hQ _ hf)
    · have e : stepsM n m = stepsM (n - 4) (stepsM 4 m) := by
        have := steps_add 4 (n - 4) m
        rwa [show 4 + (n - 4) = n from by omega] at this
      by_cases hs : (stepsM 4 m).outcome.isSome = true
      · rw [if_pos hs]
        rw [e, steps_done hs] at hf
        exact wpAny_pure (hQ _ hf)
      · rw [if_neg hs]
        refine wpAny_bind (wpAny_rule ?_)
        have hpos : n - 4 ≠ 0 := fun h0 => by rw [e, h0] at hfs; exact hs hfs
        exact drive hQ turns (n - 4) _ (by omega) (by omega) (by rw [← e]; exact hf)
theorem toEnd {M' : Model} {A : Around} {E : Value → Shared → Prop} {s : Shared} {Q : Option M → Shared → Prop} {n : Nat} {m : M} (hn : n ≤ 1000000000) (hf : isFailed (stepsM n m)) (h : Q none s) : wpAny M' A (reRunToEnd m) Q E s := by
  unfold reRunToEnd
  refine wpAny_bind (drive (fun m' hm => ?_) (2 ^ 64) n m (by omega) (by decide) hf)
  refine wpAny_bind (wpAny_forIn_list _ (fun _ _ s' => s' = s) _ (fun x rest b s' hs => ?_) (fun b s' hs => ?_) _ _ rfl)
  · subst hs
    split
    · exact wpAny_bind (wpAny_rule (wpAny_pure rfl))
    · exact wpAny_pure rfl
  · subst hs
    obtain ⟨x, hx, hy⟩ := hm
    rw [hx]
    cases x with
    | failed => exact wpAny_pure h
    | matched => exact hy.elim
    | stuck _ => exact hy.elim

end
end Mine
end
section
open PySem PySem.W PySem.Calls PyProof.Rows
set_option maxRecDepth 100000
set_option autoImplicit false
set_option linter.unusedVariables false
namespace Mine
section
open PySem.Sre PySem.Builtin.Re
/-- an attempt at a place, under way -/
structure Att (tx : Array Nat) (p : Nat) (m : M) : Prop where
  code : m.code = CODE
  text : m.text = tx
  lim : m.lim = tx.size
  last : m.lastStart = tx.size
  pc : m.pc = 11
  pos : m.pos = p
  ans : m.answer = none
  out : m.outcome = none
  weight : m.weight = 1
  frames : ∃ f : Sre.Frame, m.frames = [f] ∧ f.pc = 11 ∧ f.pos = p ∧ f.kept.marks = #[] ∧ (match f.wait with | .nextStart => True | _ => False)
theorem att_go {text : Array Nat} (ht : ∀ c ∈ text, c ≠ 27) {p : Nat} {m : M} (h : Att text p m) : isFailed (stepsM 3 m) ∨ (p < text.size ∧ Att text (p + 1) (stepsM 2 m)) := by
  obtain ⟨h1, h2, h3, h4, h5, h6, h7, h8, h9, f, h10, h11, h12, h13, h14⟩ := h
  obtain ⟨code, txt, lim, start, lastStart, wholeText, mustAdvance, pc, pos, handed, outermost, marks, lastmark, lastindex, loops, inner, frames, weight, answer, seen, outcome⟩ := m
  obtain ⟨wait, fpc, fpos, fout, fcount, fkept, floop, fbegan⟩ := f
  obtain ⟨k1, k2, k3, k4⟩ := fkept
  dsimp only at *
  subst h1 h2 h3 h4 h5 h6 h7 h8 h9 h10 h11 h12 h13
  cases wait <;> first | exact h14.elim | skip
  have w0 : CODE.getD 11 0 = 16 := rfl
  have w1 : CODE.getD 12 0 = 27 := rfl
  have o16 : ops[16]? = some .LITERAL := rfl
  have hz : 11 < CODE.size := by decide
  have e1 : ∃ seen', M.step { code := CODE, text := txt, lim := txt.size, start, lastStart := txt.size, wholeText, mustAdvance, pc := 11, pos := fpos, handed, outermost, marks, lastmark, lastindex, loops, inner, frames := [{ wait := .nextStart, pc := 11, pos := fpos, outermost := fout, count := fcount, kept := ⟨k1, k2, k3, #[]⟩, loop := floop, began := fbegan }], weight := 1, answer := none, seen, outcome := none } =
      { code := CODE, text := txt, lim := txt.size, start, lastStart := txt.size, wholeText, mustAdvance, pc := 11, pos := fpos, handed, outermost, marks, lastmark, lastindex, loops, inner, frames := [{ wait := .nextStart, pc := 11, pos := fpos, outermost := fout, count := fcount, kept := ⟨k1, k2, k3, #[]⟩, loop := floop, began := fbegan }], weight := 1, answer := some false, seen := seen', outcome := none } := by
    unfold M.step
    simp only [Option.isSome_none, Bool.false_eq_true, if_false, hz, if_true]
    unfold M.exec
    simp only [M.word, Nat.add_zero, w0, o16]
    by_cases q : fpos ≥ txt.size
    · rw [if_pos q]
      exact ⟨_, rfl⟩
    · rw [if_neg q]
      have hne : (txt.getD fpos 0 == 27) = false := by
        have hlt : fpos < txt.size := by omega
        have : txt.getD fpos 0 = txt[fpos] := by simp [Array.getD, hlt]
        rw [this]
        simpa using ht _ (Array.getElem_mem hlt)
      unfold accepts
      simp only [w0, o16, w1, hne]
      exact ⟨_, rfl⟩
  obtain ⟨seen', e1⟩ := e1
  by_cases q : fpos < txt.size
  · right
    refine ⟨q, ?_⟩
    show Att txt (fpos + 1) (M.step (M.step _))
    rw [e1]
    have e2 : M.step { code := CODE, text := txt, lim := txt.size, start, lastStart := txt.size, wholeText, mustAdvance, pc := 11, pos := fpos, handed, outermost, marks, lastmark, lastindex, loops, inner, frames := [{ wait := .nextStart, pc := 11, pos := fpos, outermost := fout, count := fcount, kept := ⟨k1, k2, k3, #[]⟩, loop := floop, began := fbegan }], weight := 1, answer := some false, seen := seen', outcome := none } =
       { code := CODE, text := txt, lim := txt.size, start := fpos + 1, lastStart := txt.size, wholeText, mustAdvance := false, pc := 11, pos := fpos + 1, handed := fpos + 1, outermost := false, marks, lastmark := -1, lastindex := -1, loops, inner, frames := [{ wait := .nextStart, pc := 11, pos := fpos + 1, outermost := false }], weight := 1, answer := none, seen := seen', outcome := none } := by
      unfold M.step
      simp only [Option.isSome_none, Bool.false_eq_true, if_false]
      unfold M.resume
      simp only [Bool.false_eq_true, if_false, q, if_true]
      rfl
    rw [e2]
    exact ⟨rfl, rfl, rfl, rfl, rfl, rfl, rfl, rfl, rfl, _, rfl, rfl, rfl, rfl, trivial⟩
  · left
    show isFailed (M.step (M.step (M.step _)))
    rw [e1]
    have e2 : M.step { code := CODE, text := txt, lim := txt.size, start, lastStart := txt.size, wholeText, mustAdvance, pc := 11, pos := fpos, handed, outermost, marks, lastmark, lastindex, loops, inner, frames := [{ wait := .nextStart, pc := 11, pos := fpos, outermost := fout, count := fcount, kept := ⟨k1, k2, k3, #[]⟩, loop := floop, began := fbegan }], weight := 1, answer := some false, seen := seen', outcome := none } =
       { code := CODE, text := txt, lim := txt.size, start, lastStart := txt.size, wholeText, mustAdvance, pc := 11, pos := fpos, handed, outermost := fout, marks, lastmark, lastindex, loops, inner, frames := [], weight := 0, answer := some false, seen := seen', outcome := none } := by
      unfold M.step
      simp only [Option.isSome_none, Bool.false_eq_true, if_false]
      unfold M.resume
      simp only [Bool.false_eq_true, if_false, q]
      rfl
    rw [e2]
    refine ⟨.failed, ?_, trivial⟩
    unfold M.step
    simp only [Option.isSome_none, Bool.false_eq_true, if_false]
theorem att_fails {text : Array Nat} (ht : ∀ c ∈ text, c ≠ 27) : ∀ (k p : Nat) (m : M), text.size - p ≤ k → Att text p m → ∃ n, n ≤ 2 * k + 3 ∧ isFailed (stepsM n m)
  | 0, p, m, hk, h => by
    rcases att_go ht h with q | ⟨q, _⟩
    · exact ⟨3, by omega, q⟩
    · omega
  | k + 1, p, m, hk, h => by
    rcases att_go ht h with q | ⟨q, a⟩
    · exact ⟨3, by omega, q⟩
    · obtain ⟨n, hn, hf⟩ := att_fails ht k (p + 1) _ (by omega) a
      exact ⟨2 + n, by omega, by rw [steps_add]; exact hf⟩
theorem att_fails' {text : Array Nat} (ht : ∀ c ∈ text, c ≠ 27) {m : M} (h : Att text 0 m) : ∃ n, n ≤ 2 * text.size + 10 ∧ isFailed (stepsM n m) := by
  obtain ⟨n, hn, hf⟩ := att_fails ht text.size 0 m (by omega) h
  exact ⟨n, by omega, hf⟩
theorem search_fails {text : Array Nat} (ht : ∀ c ∈ text, c ≠ 27) : ∃ n, n ≤ 2 * text.size + 10 ∧ isFailed (stepsM n (forSearch CODE text 0 0 text.size false)) := by
  have hd : header CODE = (3, 11) := rfl
  unfold forSearch
  rw [hd]
  dsimp only
  by_cases q : (decide (0 > text.size) || decide (text.size - 0 < 3)) = true
  · refine ⟨1, by omega, .failed, ?_, trivial⟩
    rw [if_pos (by simpa using q)]
    rfl
  · rw [if_neg (by simpa using q)]
    exact att_fails' ht ⟨rfl, rfl, rfl, rfl, rfl, rfl, rfl, rfl, rfl, _, rfl, rfl, rfl, rfl, trivial⟩
theorem mat_fails {m : M} (h1 : m.code = CODE) (h3 : m.lim = m.text.size) (h5 : m.pc = 11) (h7 : m.answer = none) (h8 : m.outcome = none) (h10 : m.frames = []) (ht : ∀ c ∈ m.text, c ≠ 27) : isFailed (stepsM 2 m) := by
  obtain ⟨code, txt, lim, start, lastStart, wholeText, mustAdvance, pc, pos, handed, outermost, marks, lastmark, lastindex, loops, inner, frames, weight, answer, seen, outcome⟩ := m
  dsimp only at *
  subst h1 h3 h5 h7 h8 h10
  have w0 : CODE.getD 11 0 = 16 := rfl
  have w1 : CODE.getD 12 0 = 27 := rfl
  have o16 : ops[16]? = some .LITERAL := rfl
  have hz : 11 < CODE.size := by decide
  have e1 : ∃ seen', M.step { code := CODE, text := txt, lim := txt.size, start, lastStart, wholeText, mustAdvance, pc := 11, pos, handed, outermost, marks, lastmark, lastindex, loops, inner, frames := [], weight, answer := none, seen, outcome := none } =
      { code := CODE, text := txt, lim := txt.size, start, lastStart, wholeText, mustAdvance, pc := 11, pos, handed, outermost, marks, lastmark, lastindex, loops, inner, frames := [], weight, answer := some false, seen := seen', outcome := none } := by
    unfold M.step
    simp only [Option.isSome_none, Bool.false_eq_true, if_false, hz, if_true]
    unfold M.exec
    simp only [M.word, Nat.add_zero, w0, o16]
    by_cases q : pos ≥ txt.size
    · rw [if_pos q]
      exact ⟨_, rfl⟩
    · rw [if_neg q]
      have hne : (txt.getD pos 0 == 27) = false := by
        have hlt : pos < txt.size := by omega
        have : txt.getD pos 0 = txt[pos] := by simp [Array.getD, hlt]
        rw [this]
        simpa using ht _ (Array.getElem_mem hlt)
      unfold accepts
      simp only [w0, o16, w1, hne]
      exact ⟨_, rfl⟩
  obtain ⟨seen', e1⟩ := e1
  show isFailed (M.step (M.step _))
  rw [e1]
  refine ⟨.failed, ?_, trivial⟩
  unfold M.step
  simp only [Option.isSome_none, Bool.false_eq_true, if_false]
theorem match_fails {text : Array Nat} (ht : ∀ c ∈ text, c ≠ 27) {p : Nat} : ∃ n, n ≤ 3 ∧ isFailed (stepsM n (forMatch CODE text 0 p text.size false false)) := by
  have hd : header CODE = (3, 11) := rfl
  unfold forMatch
  rw [hd]
  dsimp only
  by_cases q : ((decide (3 ≠ 0) && decide (p ≤ text.size)) && decide (text.size - p < 3)) = true
  · refine ⟨1, by omega, .failed, ?_, trivial⟩
    rw [if_pos (by simpa using q)]
    rfl
  · rw [if_neg (by simpa using q)]
    exact ⟨2, by omega, mat_fails rfl rfl rfl rfl rfl rfl ht⟩
end
end Mine
end
section
open PySem PySem.W PySem.Calls PyProof.Rows
set_option maxRecDepth 100000
set_option autoImplicit false
set_option linter.unusedVariables false
namespace Mine
section
open PySem.Builtin.Re
def patOk (K : Frag) : Bool := match K.lookup 43 with
  | some ⟨c, none, .fields vs, _⟩ => c == .type "re.Pattern" && vs.getD 5 .none == .ref 42 && reRawNat (vs.getD 6 .none) == 0 && reRawNat (vs.getD 2 .none) == 0
  | _ => false
def codeOk (K : Frag) : Bool := match K.lookup 42 with
  | some ⟨_, _, .seq vs _, _⟩ => (vs.map reRawOf).map (·.toNat) == CODE
  | _ => false
theorem pat_at {D : Wd} : ∃ vs sl, D.K.lookup 43 = some ⟨.type "re.Pattern", none, .fields vs, sl⟩ ∧ vs.getD 5 .none = .ref 42 ∧ reRawNat (vs.getD 6 .none) = 0 ∧ reRawNat (vs.getD 2 .none) = 0 := by
  have e : patOk D.K = true := by kernel_rfl
  unfold patOk at e
  split at e
  · rename_i h
    simp only [Bool.and_eq_true, beq_iff_eq] at e
    obtain ⟨⟨⟨rfl, h2⟩, h3⟩, h4⟩ := e
    exact ⟨_, _, h, h2, h3, h4⟩
  · cases e
theorem code_at {D : Wd} : ∃ c d vs n sl, D.K.lookup 42 = some ⟨c, d, .seq vs n, sl⟩ ∧ (vs.map reRawOf).map (·.toNat) = CODE := by
  have e : codeOk D.K = true := by kernel_rfl
  unfold codeOk at e
  split at e
  · rename_i h; exact ⟨_, _, _, _, _, h, eq_of_beq e⟩
  · cases e
section
variable {D : Wd} {A : Around} {L : Addr} {α β : Type} {vs : Vars} {led led' : Led} {env : Env} {s : Shared} {a b : Addr} {as bs : List AV} {x y : List Nat} {t u v : Tok}
theorem Rep.pat (R : Rep D led s) : s.TypeIs (.ref 43) "re.Pattern" ∧ ∀ b, (Value.ref 43) = .ref b → ∃ o, s.heap.get? b = some o ∧ o.dict = none := by
  obtain ⟨vs, sl, h, -⟩ := pat_at (D := D)
  have := R.inK _ _ h
  exact ⟨⟨_, this, rfl⟩, fun b e => by cases e; exact ⟨_, this, rfl⟩⟩
theorem W.mcP {name : Str} {id : String} {pl : Sem Bool} {pos : Pos} {args : List (Bool × Sem Value)} {Q : Value → Vars → Led → Prop} (slot : Slot "re.Pattern" name id) (ty : typeOf (.builtin id) = Pure.pure (.type "method_descriptor"))
    (h : W D A L (spliced args) (fun l vs led => W D A L (PySem.call (.builtin id) (.ref 43 :: l)) Q vs led) vs led) (hp : args.any (·.1) = false) :
    W D A L (getMethod (.ref 43) name pl) (fun fx vs led => W D A L (PySem.callWith pos fx.1 fx.2 args []) Q vs led) vs led := fun s R =>
  getMethod_builtin R.pat.1 plainAttrs_pat slot ty R.pat.2 ⟨vs, led, R, W.callWith1 keeperOf_builtin h hp⟩
theorem noCall_str : typeLookup (.type "str") "__call__" = pure none := by rw [typeLookup_type, builtinLookup_eq_fast]; kernel_rfl
theorem whole_target {M : Model} {E : Value → Shared → Prop} {Q : ReTarget → Shared → Prop} (R : Rep D led s) (h : Q { pattern := .ref 43, string := .str (S x) t, code := CODE, text := (S x).cps, kind := 0, groups := 0, pos := 0, lim := (S x).cps.size } s) :
    wpAny M A (reWholeTarget (.ref 43) (.str (S x) t)) Q E s := by
  obtain ⟨vs, sl, h1, h2, h3, h4⟩ := pat_at (D := D)
  obtain ⟨c, d, ws, n, sl2, g1, g2⟩ := code_at (D := D)
  unfold reWholeTarget
  refine wpAny_bind (wpAny_fieldsOf (R.inK _ _ h1) rfl ?_)
  refine wpAny_bind (wpAny_of_eq (a := ((S x).cps, 0)) rfl ?_)
  dsimp only
  rw [h3]
  refine wpAny_bind (wpAny_of_eq (a := ()) rfl ?_)
  rw [h2, h4]
  refine wpAny_bind (wpAny_bind (wpAny_seqItems (R.inK _ _ g1) rfl (wpAny_pure ?_)))
  refine wpAny_pure ?_
  show Q { pattern := .ref 43, string := .str (S x) t, code := (ws.map reRawOf).map (·.toNat), text := (S x).cps, kind := 0, groups := 0, pos := 0, lim := (S x).cps.size } s
  rw [g2]
  exact h
theorem W.pat_match {i : Int} {Q : Value → Vars → Led → Prop} (hx : 27 ∉ x) (hz : x.length ≤ 1000000) (h0 : 0 ≤ i) (h1 : i ≤ 1000000) (h : Q .none vs led) : W D A L (PySem.call (.builtin "re.Pattern.match") [.ref 43, .str (S x) t, .int i u]) Q vs led := fun s R => by
  obtain ⟨vs2, sl, p1, p2, p3, p4⟩ := pat_at (D := D)
  obtain ⟨c, d, ws, n, sl2, g1, g2⟩ := code_at (D := D)
  refine wpAny_call (codeAny_call_builtin slot_pat_match.plain entry_pat_match (slot_pat_match.check _ _ _ _ _ _ _ _ R.pat.1 (args_pat_match _ _ _) ?_))
  unfold Builtin.«re.Pattern.match» reTarget
  refine wpAny_bind (wpAny_bind (wpAny_of_eq (a := [some (.str (S x) t), some (.int i u), none]) rfl ?_))
  dsimp only
  refine wpAny_bind (wpAny_bind (m := asIndex (.int i u)) (wpAny_of_eq (a := i) rfl ?_))
  rw [if_neg (by simp; omega)]
  refine wpAny_pure ?_
  refine wpAny_bind (wpAny_pure ?_)
  refine wpAny_bind (wpAny_fieldsOf (R.inK _ _ p1) rfl ?_)
  refine wpAny_bind (wpAny_of_eq (a := ((S x).cps, 0)) rfl ?_)
  dsimp only
  rw [p3]
  refine wpAny_bind (wpAny_of_eq (a := ()) rfl ?_)
  rw [p2, p4]
  refine wpAny_bind (wpAny_bind (wpAny_seqItems (R.inK _ _ g1) rfl (wpAny_pure ?_)))
  refine wpAny_pure ?_
  have hlim : min ((2 : Int) ^ 63 - 1).toNat (S x).cps.size = (S x).cps.size := by
    have : (S x).cps.size = x.length := by simp [S]
    rw [this]
    have e : ((2 : Int) ^ 63 - 1).toNat = 9223372036854775807 := rfl
    rw [e]; omega
  rw [Option.getD_some, g2, hlim]
  have hx' : ∀ c ∈ (S x).cps, c ≠ 27 := fun c hc e => hx (by
    subst e
    simpa [S] using hc)
  obtain ⟨k, hk, hf⟩ := match_fails hx' (p := min i.toNat (S x).cps.size)
  unfold reAnswer
  refine wpAny_bind (toEnd (n := k) (by omega) hf ?_)
  exact wpAny_pure ⟨vs, led, R, h⟩
theorem wpAny_of_mkStr {M : Model} {tx : Array Nat} {y : List Nat} (e : (⟨tx.extract 0 0⟩ : Str) = S []) : wpAny M A (reSlice tx 0 0 0) (fun v s' => ∃ tk, v = .str (S []) tk ∧ ∃ k, s' = { s with toks := k }) none_E s := by
  show wpAny M A (mkStr ⟨tx.extract 0 0⟩) _ _ s
  rw [e]
  exact wpAny_mkStr ⟨_, rfl, _, rfl⟩ (by decide)
theorem W.pat_sub {Q : Value → Vars → Led → Prop} (hx : 27 ∉ x) (hz : x.length ≤ 1000000) (h : ∀ t, Q (.str (S x) t) vs led) : W D A L (PySem.call (.builtin "re.Pattern.sub") [.ref 43, .str (S []) t, .str (S x) u]) Q vs led := fun s R => by
  refine wpAny_call (codeAny_call_builtin slot_pat_sub.plain entry_pat_sub (slot_pat_sub.check _ _ _ _ _ _ _ _ R.pat.1 (args_pat_sub _ _ _) ?_))
  unfold Builtin.«re.Pattern.sub» reSubstitute
  refine wpAny_bind (wpAny_of_eq (a := [some (.str (S []) t), some (.str (S x) u), none]) rfl ?_)
  dsimp only
  refine wpAny_bind (wpAny_pure ?_)
  refine wpAny_bind (wpAny_specialOf (typeIs_str _ _ _) noCall_str ?_)
  rw [if_neg (show ¬ ((none : Option Value).isSome = true) from Bool.false_ne_true)]
  refine wpAny_bind (wpAny_of_eq (a := some (S [])) rfl ?_)
  dsimp only
  refine wpAny_bind (wpAny_of_eq (a := true) (by simp [S]) ?_)
  rw [if_neg (show ¬ ((none : Option Value).isSome = true) from Bool.false_ne_true), if_pos rfl]
  refine wpAny_bind (wpAny_pure ?_)
  refine wpAny_bind (wpAny_holding (whole_target R ?_))
  dsimp only
  rw [if_neg (show ¬ (((0 : Int) == 1) = true) from by decide)]
  have R1 := R.pushed (ob := .list []) (o := { cls := .type "list", data := .seq #[] }) (tk := s.toks) rfl ⟨[], 0, .nil, rfl⟩
  refine wpAny_bind (wpAny_newObj_type ?_ (by size_fits))
  refine wpAny_pure ⟨Code.quiet_builtin _ (by decide +kernel), codeAny_builtin entry_pat_loop ?_⟩
  have hp : s.heap.objs.size < (s.heap.push { cls := .type "list", data := .seq #[] }).objs.size := by rw [Heap.size_push]; exact Nat.lt_succ_self _
  generalize s.heap.objs.size = p at R1 hp
  unfold Builtin.«re.Pattern.sub.loop»
  dsimp only
  refine wpAny_bind (whole_target R1 ?_)
  rw [if_pos (show ((0 : Int) == 0) = true from by decide)]
  refine wpAny_bind (wpAny_of_eq (a := ()) rfl ?_)
  rw [if_neg (show ¬ ((((0 : Int) != 0) && decide ((0 : Int) ≥ 0)) = true) from by decide)]
  have hx' : ∀ c ∈ (S x).cps, c ≠ 27 := fun c hc e => hx (by
    subst e
    simpa [S] using hc)
  have hsz : (S x).cps.size = x.length := by simp [S]
  obtain ⟨k, hk, hf⟩ := search_fails hx'
  refine wpAny_bind (toEnd (n := k) (by omega) hf ?_)
  dsimp only
  cases x with
  | nil =>
    rw [if_neg (by rw [hsz]; decide)]
    have e0 : (⟨(S []).cps.extract 0 0⟩ : Str) = S [] := by refine S_ext ?_; simp [S]
    refine wpAny_bind ?_
    refine wpAny_mono (wpAny_of_mkStr (y := []) e0) (fun v s' hv => ?_) fun _ _ x => x.elim
    obtain ⟨tk, rfl, k2, rfl⟩ := hv
    obtain ⟨o, ho, vals, n2, hi2, rfl⟩ := R1.own _ (.tail _ (.head _))
    cases hi2
    refine wpAny_bind (wpAny_seqItems ho rfl ?_)
    rw [if_pos (show (((some #[]).getD #[] : Array Value)).isEmpty = true from rfl)]
    refine wpAny_bind (wpAny_pure (wpAny_pure ⟨vs, led, R1.skipHead.toks, h _⟩))
  | cons c r =>
    rw [if_pos (by rw [hsz]; simp)]
    have e : (⟨(S (c :: r)).cps.extract (Int.toNat 0) (S (c :: r)).cps.size⟩ : Str) = S (c :: r) := by
      refine S_ext ?_
      simp [S]
    refine wpAny_bind (wpAny_mkStr ?_ (by rw [e, S_len]; exact fits_S (by omega)))
    rw [e]
    obtain ⟨o, ho, vals, n2, hi2, rfl⟩ := R1.own _ (.tail _ (.head _))
    cases hi2
    refine wpAny_bind (wpAny_updateSeq ho rfl ?_ (by decide) (by rw [Array.size_push, sizeLine_eq]; decide))
    have R2 := Rep.upSeq (D := D) (tk := s.toks + 1) (ys := [.str (c :: r)]) (f := fun x => x.push (Value.str (S (c :: r)) s.toks)) R1 .here ho (.cons ⟨_, rfl⟩ .nil)
    have e0 : (⟨(S (c :: r)).cps.extract 0 0⟩ : Str) = S [] := by refine S_ext ?_; simp [S]
    refine wpAny_bind ?_
    refine wpAny_mono (wpAny_of_mkStr (y := []) e0) (fun v s' hv => ?_) fun _ _ x => x.elim
    obtain ⟨tk, rfl, k2, rfl⟩ := hv
    obtain ⟨o2, ho2, vals2, n3, hi3, rfl⟩ := R2.own _ (.tail _ (.head _))
    have hne : vals2.toArray.isEmpty = false := by cases hi3; rfl
    refine wpAny_bind (wpAny_seqItems ho2 rfl ?_)
    rw [Option.getD_some, hne, if_neg Bool.false_ne_true]
    refine wpAny_bind (W.join_list (L := L) (vs := vs) (led := (p, LS [c :: r]) :: led) (Q := fun v vs' led' => ∃ t, v = .str (S (c :: r)) t ∧ vs' = vs ∧ led' = (p, LS [c :: r]) :: led) (.head _) (by simp at hz ⊢; omega) (fun t => ⟨t, rfl, rfl, rfl⟩) _ R2.toks |> fun z => wpAny_mono z (fun v s' ⟨vs', led', R3, t', e1, e2, e3⟩ => ?_) fun _ _ x => x.elim)
    subst e1 e2 e3
    exact wpAny_pure ⟨vs', led, R3.skipHead, h _⟩
end
end
end Mine
end
section
open PySem PySem.W PySem.Calls PyProof.Rows
set_option maxRecDepth 100000
set_option autoImplicit false
set_option linter.unusedVariables false
namespace Mine
theorem handed_int {i : Int} : ∀ v, (AV.int i).is v → handedIn v = true := fun v ⟨t, e⟩ => by subst e; rfl
theorem handed_str {i : List Nat} : ∀ v, (AV.str i).is v → handedIn v = true := fun v ⟨t, e⟩ => by subst e; rfl
theorem handed_ref {i : Addr} : ∀ v, (AV.ref i).is v → handedIn v = true := fun v e => by cases (show v = .ref i from e); rfl
theorem handed_bool {i : Bool} : ∀ v, (AV.bool i).is v → handedIn v = true := fun v e => by cases (show v = .bool i from e); rfl
theorem handed_none : ∀ v, AV.none.is v → handedIn v = true := fun v e => by cases (show v = .none from e); rfl
section
variable {D : Wd} {A : Around} {L : Addr} {vs es : Vars} {led led' : Led} {x dx C : Addr}
theorem W.partsE_cons {env : Env} {e : Expr} {rest : List Expr} {x : List Nat} {Q : Value → Vars → Led → Prop} (h : W D A L (eval e env) (PartDue D A L x (evalEach rest env) Q) vs led) : W D A L (joinParts (S x) (evalEach (e :: rest) env)) Q vs led := W.parts_cons h
theorem W.partsE_nil {env : Env} {x : List Nat} {Q : Value → Vars → Led → Prop} (hz : x.length ≤ 10000000) (h : ∀ t, Q (.str (S x) t) vs led) : W D A L (joinParts (S x) (evalEach [] env)) Q vs led := W.parts_nil hz h
theorem specDue {y : List Nat} {t : Tok} {v : Value} {Q : Value → Vars → Led → Prop} (h : W D A L (formatField v (S y)) Q vs led) : ∃ sp t', Value.str (S y) t = .str sp t' ∧ W D A L (formatField v sp) Q vs led := ⟨_, _, rfl, h⟩
theorem W.isub_int {x y : Int} {t u : Tok} {Q : Value → Vars → Led → Prop} (h : ∀ t, Q (.int (x - y) t) vs led) : W D A L (inplaceOp .Sub (.int x t) (.int y u)) Q vs led := fun s R => PyProof.Rows.isub_int ⟨vs, led, R.toks, h _⟩
theorem W.setA' {name : Str} {v : Value} {av : AV} {es' : Vars} {Q : Unit → Vars → Led → Prop} (hk : storeOk D.K C name = true) (h1 : (x, .inst C dx) ∈ led) (h2 : (dx, .dict es) ∈ led) (hv : av.is v) (p : Put name av es es') (u : Up dx (.dict es) (.dict es') led led') (hz : es.length ≤ 1000) (h : Q () vs led') :
    W D A L (setAttr (.ref x) name v) Q vs led := W.setA hk h1 hv p u hz h
theorem W.setB {name : Str} {v : Value} {av : AV} {es' : Vars} {Q : Unit → Vars → Led → Prop} (h1 : (x, .inst C dx) ∈ led) (hk : storeOk D.K C name = true) (h2 : (dx, .dict es) ∈ led) (hv : av.is v) (p : Put name av es es') (u : Up dx (.dict es) (.dict es') led led') (hz : es.length ≤ 1000) (h : Q () vs led') :
    W D A L (setAttr (.ref x) name v) Q vs led := W.setA hk h1 hv p u hz h
theorem W.getB {name : Str} {av : AV} {Q : Value → Vars → Led → Prop} (h1 : (x, .inst C dx) ∈ led) (hk : attrOk D.K C name = true) (h2 : (dx, .dict es) ∈ led) (g : Get name av es) (hc : copiedNames.contains name = false := by rfl) (hh : ∀ v, av.is v → handedIn v = true) (h : ∀ v, av.is v → Q v vs led) :
    W D A L (getAttr (.ref x) name true) Q vs led := W.getA hk h1 h2 g hc hh h
end
section
variable {D : Wd}
theorem at_357_indent_increment : attrOk D.K 357 "indent_increment" = true := by kernel_rfl
theorem st_357_indent_increment : storeOk D.K 357 "indent_increment" = true := by kernel_rfl
theorem at_357_width : attrOk D.K 357 "width" = true := by kernel_rfl
theorem st_357_width : storeOk D.K 357 "width" = true := by kernel_rfl
theorem at_357_current_indent : attrOk D.K 357 "current_indent" = true := by kernel_rfl
theorem st_357_current_indent : storeOk D.K 357 "current_indent" = true := by kernel_rfl
theorem at_357_buffer : attrOk D.K 357 "buffer" = true := by kernel_rfl
theorem st_357_buffer : storeOk D.K 357 "buffer" = true := by kernel_rfl
theorem at_229_width : attrOk D.K 229 "width" = true := by kernel_rfl
theorem st_229_width : storeOk D.K 229 "width" = true := by kernel_rfl
theorem at_229_initial_indent : attrOk D.K 229 "initial_indent" = true := by kernel_rfl
theorem st_229_initial_indent : storeOk D.K 229 "initial_indent" = true := by kernel_rfl
theorem at_229_subsequent_indent : attrOk D.K 229 "subsequent_indent" = true := by kernel_rfl
theorem st_229_subsequent_indent : storeOk D.K 229 "subsequent_indent" = true := by kernel_rfl
theorem at_229_replace_whitespace : attrOk D.K 229 "replace_whitespace" = true := by kernel_rfl
theorem st_229_replace_whitespace : storeOk D.K 229 "replace_whitespace" = true := by kernel_rfl
theorem at_229_drop_whitespace : attrOk D.K 229 "drop_whitespace" = true := by kernel_rfl
theorem st_229_drop_whitespace : storeOk D.K 229 "drop_whitespace" = true := by kernel_rfl
theorem at_229_break_long_words : attrOk D.K 229 "break_long_words" = true := by kernel_rfl
theorem st_229_break_long_words : storeOk D.K 229 "break_long_words" = true := by kernel_rfl
theorem at_229_max_lines : attrOk D.K 229 "max_lines" = true := by kernel_rfl
theorem st_229_max_lines : storeOk D.K 229 "max_lines" = true := by kernel_rfl
theorem at_229_placeholder : attrOk D.K 229 "placeholder" = true := by kernel_rfl
theorem st_229_placeholder : storeOk D.K 229 "placeholder" = true := by kernel_rfl
theorem at_124_wrapper : attrOk D.K 124 "wrapper" = true := by kernel_rfl
theorem st_124_wrapper : storeOk D.K 124 "wrapper" = true := by kernel_rfl
theorem at_124_indent : attrOk D.K 124 "indent" = true := by kernel_rfl
theorem st_124_indent : storeOk D.K 124 "indent" = true := by kernel_rfl
theorem at_124_old_initial_indent : attrOk D.K 124 "old_initial_indent" = true := by kernel_rfl
theorem st_124_old_initial_indent : storeOk D.K 124 "old_initial_indent" = true := by kernel_rfl
theorem at_124_old_subsequent_indent : attrOk D.K 124 "old_subsequent_indent" = true := by kernel_rfl
theorem st_124_old_subsequent_indent : storeOk D.K 124 "old_subsequent_indent" = true := by kernel_rfl
theorem me_357_write : methOk D.K 357 282 "write" = true := by kernel_rfl
theorem me_357_indent : methOk D.K 357 289 "indent" = true := by kernel_rfl
theorem me_357_dedent : methOk D.K 357 296 "dedent" = true := by kernel_rfl
theorem me_357_write_usage : methOk D.K 357 304 "write_usage" = true := by kernel_rfl
theorem me_357_write_heading : methOk D.K 357 311 "write_heading" = true := by kernel_rfl
theorem me_357_write_paragraph : methOk D.K 357 318 "write_paragraph" = true := by kernel_rfl
theorem me_357_write_text : methOk D.K 357 325 "write_text" = true := by kernel_rfl
theorem me_357_write_dl : methOk D.K 357 333 "write_dl" = true := by kernel_rfl
theorem me_357_getvalue : methOk D.K 357 354 "getvalue" = true := by kernel_rfl
theorem me_229__split : methOk D.K 229 72 "_split" = true := by kernel_rfl
theorem me_229_fill : methOk D.K 229 86 "fill" = true := by kernel_rfl
theorem me_229_wrap : methOk D.K 229 79 "wrap" = true := by kernel_rfl
theorem me_229__wrap_chunks : methOk D.K 229 212 "_wrap_chunks" = true := by kernel_rfl
theorem me_229__handle_long_word : methOk D.K 229 205 "_handle_long_word" = true := by kernel_rfl
theorem me_229_extra_indent : methOk D.K 229 219 "extra_indent" = true := by kernel_rfl
theorem me_229_indent_only : methOk D.K 229 226 "indent_only" = true := by kernel_rfl
theorem mk_357 : makeOk D.K 357 275 = true := by kernel_rfl
theorem mk_229 : makeOk D.K 229 65 = true := by kernel_rfl
theorem mk_124 : makeOk D.K 124 107 = true := by kernel_rfl
end
end Mine
end
section
open PySem PySem.W PySem.Calls PyProof.Rows
set_option maxRecDepth 100000
set_option autoImplicit false
set_option linter.unusedVariables false
namespace Mine
open Sem (wp)
theorem slot_map_init : Slot "map" "__init__" "object.__init__" :=
  .of (owner := "object") (n := "__init__") (by rw [typeLookup_type, builtinLookup_eq_fast]; kernel_rfl) (by decide +kernel) (by decide +kernel) (by decide +kernel)
    (by first | exact .inl (by decide +kernel) | exact .inr (by decide +kernel)) (by rw [isSubtype_type]; kernel_rfl)
theorem slot_map_iter : Slot "map" "__iter__" "map.__iter__" :=
  .of (owner := "map") (n := "__iter__") (by rw [typeLookup_type, builtinLookup_eq_fast]; kernel_rfl) (by decide +kernel) (by decide +kernel) (by decide +kernel)
    (by first | exact .inl (by decide +kernel) | exact .inr (by decide +kernel)) (by rw [isSubtype_type]; kernel_rfl)
theorem slot_map_next : Slot "map" "__next__" "map.__next__" :=
  .of (owner := "map") (n := "__next__") (by rw [typeLookup_type, builtinLookup_eq_fast]; kernel_rfl) (by decide +kernel) (by decide +kernel) (by decide +kernel)
    (by first | exact .inl (by decide +kernel) | exact .inr (by decide +kernel)) (by rw [isSubtype_type]; kernel_rfl)
theorem owner_map : Manifest.owners.lookup (String.ofList ['p', 'a', 'm'].reverse) = some Manifest.sig_map := by kernel_rfl
theorem args_map_iter_1 (a : Value) : argsOk "map.__iter__" ⟨[a], []⟩ := by
  unfold argsOk; rw [signature?_of (id := "map.__iter__") (n := ['_', '_', 'r', 'e', 't', 'i', '_', '_']) (o := ['p', 'a', 'm']) (by kernel_rfl) owner_map]; kernel_rfl
theorem args_map_next_1 (a : Value) : argsOk "map.__next__" ⟨[a], []⟩ := by
  unfold argsOk; rw [signature?_of (id := "map.__next__") (n := ['_', '_', 't', 'x', 'e', 'n', '_', '_']) (o := ['p', 'a', 'm']) (by kernel_rfl) owner_map]; kernel_rfl
theorem entry_map_iter : entryFor table "map.__iter__" = some Builtin.«dict_keyiterator.__iter__» :=
  entryFor_alias (id' := "dict_keyiterator.__iter__") (by kernel_rfl) (by first | rfl | decide +kernel | (unfold String.splitOn; simp +decide [String.splitOnAux])) (by decide +kernel) (by kernel_rfl)
theorem entry_map_next : entryFor table "map.__next__" = some Builtin.«map.__next__» := entryFor_of_tree (by kernel_rfl)
theorem entry_map_new : entryFor table "map.__new__" = some Builtin.«map.__new__» := entryFor_of_tree (by kernel_rfl)
theorem mro_map : mroOf (.type "map") = pure [.type "map", .type "object"] := by rw [mroOf_type]; kernel_rfl
theorem lookup_map_new : typeLookup (.type "map") "__new__" = pure (some (.builtin "map.__new__")) := by rw [typeLookup_type, builtinLookup_eq_fast]; kernel_rfl
theorem called_map : TypeCalled "map" "map.__new__" "object.__init__" :=
  ⟨by decide +kernel, by decide +kernel, ⟨_, _, mro_map⟩, madeBy_type mro_map lookup_map_new (by decide +kernel), by decide +kernel, by rw [isSubtype_type]; kernel_rfl, slot_map_init⟩
theorem typeCall_map_2 (a b : Value) : checkTypeCall "map" ⟨[a, b], []⟩ = pure () := by kernel_rfl
theorem newCall_map_2 (a b : Value) : checkBuiltinCall "map.__new__" ⟨[.type "map", a, b], []⟩ = pure () := by kernel_rfl
theorem sub_map : isSubtype (.type "map") (.type "map") = pure true := by rw [isSubtype_type]; kernel_rfl
def mapObj (ti f : Addr) : Obj := { cls := .type "map", dict := none, data := .fields #[.ref ti, .ref f], slots := #[] }
def mapH (h : Heap) (l f : Addr) : Heap := ((h.push { cls := .type "list_iterator", data := .fields #[.ref l, .int 0 0] }).push { cls := .type "tuple", data := .seq #[.ref h.objs.size] }).push (mapObj (h.objs.size + 1) f)
theorem meets_map_new (l f : Addr) (xs : Array Value) :
    Meets (Builtin.«map.__new__» ⟨[.type "map", .ref f, .ref l], []⟩) (fun _ R s => s.heap.IsList l xs ∧ R (.ok (.ret (.ref (s.heap.objs.size + 2)))) { s with heap := mapH s.heap l f }) :=
  .of_wp fun prog w A R s h => by
    obtain ⟨hp, g, d, tk, os⟩ := s; obtain ⟨hl1, h⟩ := h
    have hsub := sub_map
    have hL1 : Heap.IsList (Shared.heap ⟨hp, g, d, tk, os⟩) l xs := hl1
    wp_walk using wpAny_pyIter_list hL1
    refine ⟨_, rfl, ?_⟩
    simpa [mapH, mapObj, Heap.size_push] using h
end Mine
end
section
open PySem PySem.W PySem.Calls PyProof.Rows
set_option maxRecDepth 100000
set_option autoImplicit false
set_option linter.unusedVariables false
namespace Mine
open Sem (wp)
section
variable {D : Wd} {A : Around} {L : Addr} {vs : Vars} {led led' : Led} {s : Shared} {a f m ti it : Addr} {as : List AV}
def mapOb (ti f : Addr) : Ob := .raw (mapObj ti f)
theorem W.call_map {Q : Value → Vars → Led → Prop} (hm : (a, .list as) ∈ led) (h : ∀ m ti it, Q (.ref m) vs ((m, mapOb ti f) :: (ti, .tup [.ref it]) :: (it, listIt a 0) :: led)) : W D A L (PySem.call (.type "map") [.ref f, .ref a]) Q vs led := fun s R => by
  obtain ⟨vals, n, hi, hl⟩ := R.listAt (.tail _ hm)
  refine callType_new called_map (by decide) (typeCall_map_2 _ _) (newCall_map_2 _ _) (fun obj => F.args_object_init_3 obj _ _) entry_map_new (meets_map_new a f vals.toArray) ⟨isL hl, ?_⟩
  have R1 := R.pushed (ob := listIt a 0) (tk := s.toks) (o := { cls := .type "list_iterator", data := .fields #[.ref a, .int 0 0] }) rfl ⟨rfl, rfl⟩
  have R2 := R1.pushed (ob := .tup [.ref s.heap.objs.size]) (tk := s.toks) (o := { cls := .type "tuple", data := .seq #[.ref s.heap.objs.size] }) rfl ⟨_, _, .cons rfl .nil, rfl⟩
  have R3 := R2.pushed (ob := mapOb (s.heap.objs.size + 1) f) (tk := s.toks) (o := mapObj (s.heap.objs.size + 1) f) rfl rfl
  simp only [Heap.size_push] at R3
  obtain ⟨o, ho, hok⟩ := R3.own _ (.tail _ (.head _))
  refine ⟨⟨o, ho, ?_⟩, vs, _, R3, h _ _ _⟩
  rw [show o = mapObj _ _ from hok]; rfl
theorem mapAt (R : Rep D led s) (hm : (m, mapOb ti f) ∈ led) : s.heap.get? m = some (mapObj ti f) := by
  obtain ⟨o, ho, hok⟩ := R.own _ hm
  rw [show o = mapObj _ _ from hok] at ho
  exact ho
theorem tup1At (R : Rep D led s) (hm : (ti, .tup [.ref it]) ∈ led) : ∃ n, s.heap.get? ti = some { cls := .type "tuple", data := .seq #[.ref it] n } := by
  obtain ⟨vals, n, hi, hl⟩ := R.tupAt hm
  cases hi with
  | cons h0 h1 => cases h1; cases (show _ = _ from h0); exact ⟨n, hl⟩
theorem pyIter_map {Q : Value → Shared → Prop} {E : Value → Shared → Prop} (hm : s.heap.get? m = some (mapObj ti f)) (h : Q (.ref m) s) : wpAny D.M A (pyIter (.ref m)) Q E s := by
  have hT : s.TypeIs (.ref m) "map" := ⟨_, hm, rfl⟩
  refine wpAny_pyIter_slot hT slot_map_iter (wpAny_call_entry slot_map_iter hT entry_map_iter ?_ (args_map_iter_1 _))
  show wpAny _ _ (ret (.ref m)) _ _ s
  exact wpAny_pure ⟨_, rfl, "map", _, hT, slot_map_next.lookup, h⟩
theorem next_map {i n : Nat} {xs : List (List Nat)} {x : List Nat} (room : Room A (n + 1)) (hf : ∀ A' led Q t, Room A' n → (∀ t, Q (.int x.length t) led) → Cl D A' (.ref f) [.str (S x) t] [] Q led)
    (hx : xs[i]? = some x) (R : Rep D ((L, .ns vs) :: (it, listIt a i) :: led) s) (h1 : (m, mapOb ti f) ∈ led) (h2 : (ti, .tup [.ref it]) ∈ led) (h3 : (a, LS xs) ∈ led) :
    wpAny D.M A (pyNext (.ref m)) (fun r s' => ∃ t, r = some (.int x.length t) ∧ Rep D ((L, .ns vs) :: (it, listIt a (i + 1)) :: led) s') none_E s := by
  have hm := mapAt R (.tail _ (.tail _ h1))
  obtain ⟨n2, ht⟩ := tup1At R (.tail _ (.tail _ h2))
  obtain ⟨vals, n3, hi, hl⟩ := R.listAt (.tail _ (.tail _ h3))
  obtain ⟨v, hv, hq⟩ := hi.get (show (xs.map AV.str)[i]? = some (.str x) by rw [List.getElem?_map, hx]; rfl)
  have hT : s.TypeIs (.ref m) "map" := ⟨_, hm, rfl⟩
  unfold pyNext
  refine wpAny_bind (wpAny_attempt (wpAny_callSpecial?_slot (name := Str.ofString "__next__") hT slot_map_next (wpAny_call_entry slot_map_next hT entry_map_next ?_ (args_map_next_1 _))))
  show wpAny _ _ (field (.ref m) 0 >>= _) _ _ _
  refine wpAny_bind (wpAny_field hm rfl (x := .ref ti) rfl ?_)
  refine wpAny_bind (wpAny_seqItems ht rfl ?_)
  dsimp only
  rw [← Array.forIn_toList]
  simp only [List.forIn_cons, List.forIn_nil]
  refine wpAny_bind (wpAny_bind (wpAny_bind (wpAny_holding (wpAny_nextOf_list_item (listIt.at R (.tail _ (.head _))) (isL hl) (x := v) (by simpa using hv) fun h' ⟨o, ho, e1, e2⟩ hs => wpAny_pure (wpAny_pure ?_)))))
  have R' := NextIs.change (tk := s.toks) (ob' := listIt a (i + 1)) R hs ⟨o, ho, e1, e2⟩
  obtain ⟨t, rfl⟩ := hq
  have hm' := mapAt R' (.tail _ (.tail _ h1))
  refine wpAny_bind (wpAny_field hm' rfl (x := .ref f) rfl ?_)
  refine wpAny_bind (wpAny_holding (wpAny_call (codeAny_mono (hf A.in1 _ (fun v l => ∃ t, v = .int x.length t ∧ l = (L, .ns vs) :: (it, listIt a (i + 1)) :: led) t room.in1 (fun t => ⟨t, rfl, rfl⟩) _ R') fun r s2 ⟨v, l, hr, R2, ⟨t2, hv2, hl2⟩⟩ => ?_)))
  subst hr hv2 hl2
  dsimp only
  refine wpAny_bind (wpAny_letGo ?_)
  exact wpAny_pure ⟨_, rfl, wpAny_pure ⟨_, rfl, R2⟩⟩
theorem end_map {i n : Nat} {xs : List (List Nat)} (room : Room A (n + 1)) (hi : i = xs.length) (R : Rep D ((L, .ns vs) :: (it, listIt a i) :: led) s) (h1 : (m, mapOb ti f) ∈ led) (h2 : (ti, .tup [.ref it]) ∈ led) (h3 : (a, LS xs) ∈ led) :
    wpAny D.M A (pyNext (.ref m)) (fun r s' => r = none ∧ Rep D ((L, .ns vs) :: led) s') none_E s := by
  have hm := mapAt R (.tail _ (.tail _ h1))
  obtain ⟨n2, ht⟩ := tup1At R (.tail _ (.tail _ h2))
  obtain ⟨vals, n3, hii, hl⟩ := R.listAt (.tail _ (.tail _ h3))
  have hlen := hii.length
  rw [List.length_map] at hlen
  have hT : s.TypeIs (.ref m) "map" := ⟨_, hm, rfl⟩
  unfold pyNext
  refine wpAny_bind (wpAny_attempt (wpAny_callSpecial?_slot (name := Str.ofString "__next__") hT slot_map_next (wpAny_call_entry slot_map_next hT entry_map_next ?_ (args_map_next_1 _))))
  show wpAny _ _ (field (.ref m) 0 >>= _) _ _ _
  refine wpAny_bind (wpAny_field hm rfl (x := .ref ti) rfl ?_)
  refine wpAny_bind (wpAny_seqItems ht rfl ?_)
  dsimp only
  rw [← Array.forIn_toList]
  simp only [List.forIn_cons, List.forIn_nil]
  refine wpAny_bind (wpAny_bind (wpAny_bind (wpAny_holding (wpAny_nextOf_list_end room.2.2 (listIt.at R (.tail _ (.head _))) (isL hl) (by simp; omega) fun h' e he ⟨o, ho, hc⟩ => ?_))))
  refine wpAny_bind (wpAny_isInstance (T := "StopIteration") (b := true) ⟨o, ho, hc⟩ isSubtype_stop ?_)
  exact wpAny_pure ⟨rfl, EndIs.extBut (tk := s.toks) R he⟩
theorem wp_if {α : Type} {M : Model} {c : Bool} {x y : Sem α} {Q : α → Shared → Prop} {E : Value → Shared → Prop} (h : c = true) (k : wpAny M A x Q E s) : wpAny M A (if c = true then x else y) Q E s := by rw [if_pos h]; exact k
theorem fits_add {a b : Int} (h0 : 0 ≤ b) (h1 : b ≤ 10000000) (h2 : 0 ≤ a + b) (h3 : a + b ≤ 10000000) : ((decide (-(2 ^ 63) ≤ b) && decide (b < 2 ^ 63)) && (decide (-(2 ^ 63) ≤ a + b) && decide (a + b < 2 ^ 63))) = true := by
  simp only [Bool.and_eq_true, decide_eq_true_eq]
  omega
theorem wp_ifn {α : Type} {M : Model} {c : Bool} {x y : Sem α} {Q : α → Shared → Prop} {E : Value → Shared → Prop} (h : c = false) (k : wpAny M A y Q E s) : wpAny M A (if c = true then x else y) Q E s := by subst h; exact k
def total (xs : List (List Nat)) : Int := ((xs.map (·.length)).sum : Nat)
theorem sum_map_loop {n : Nat} {xs : List (List Nat)} {S : Addr} (room : Room A (n + 2)) (hf : ∀ x ∈ xs, ∀ A' led Q t, Room A' n → (∀ t, Q (.int x.length t) led) → Cl D A' (.ref f) [.str (Mine.S x) t] [] Q led) (hsm : (xs.map (·.length)).sum ≤ 10000000)
    (h1 : (m, mapOb ti f) ∈ led) (h2 : (ti, .tup [.ref it]) ∈ led) (h3 : (a, LS xs) ∈ led) : ∀ (k i : Nat) (s : Shared), xs.length - i = k → i ≤ xs.length → Rep D ((L, .ns vs) :: (it, listIt a i) :: (S, .list [.int (total (xs.take i))]) :: led) s →
    codeAny D.M A (.builtin "sum.loop" ⟨[.ref m, .ref S, rawInt 0, rawInt 0], []⟩) (fun r s' => ∃ t, r = .ok (.ret (.int (total xs) t)) ∧ Rep D ((L, .ns vs) :: led) s') s := by
  intro k
  induction k with
  | zero =>
    intro i s hk hi R
    have hin : i = xs.length := by omega
    subst hin
    refine codeAny_builtin F.entry_sum_loop ?_
    rw [Around.under_plainId F.plain_sum_loop _]
    obtain ⟨vals, n3, hii, hl⟩ := R.listAt (.tail _ (.tail _ (.head _)))
    cases hii with
    | cons q0 q1 =>
      cases q1
      obtain ⟨t0, rfl⟩ := q0
      show wpAny _ A.in1 (seqItems? (.ref S) >>= _) _ _ s
      refine wpAny_bind (wpAny_seqItems hl rfl ?_)
      show wpAny _ A.in1 (tryCatch (pyNext (.ref m)) _ >>= _) _ _ s
      refine wpAny_bind (wpAny_tryCatch (wpAny_mono (end_map room.in1 rfl R (.tail _ h1) (.tail _ h2) (.tail _ h3)) (fun r s' ⟨hr, R'⟩ => ?_) fun _ _ x => x.elim))
      subst hr
      rw [List.take_length]
      exact wpAny_pure ⟨_, rfl, R'.sub (.cons (.skip (.refl _)))⟩
  | succ k ih =>
    intro i s hk hi R
    have hlt : i < xs.length := by omega
    refine codeAny_builtin F.entry_sum_loop ?_
    rw [Around.under_plainId F.plain_sum_loop _]
    obtain ⟨vals, n3, hii, hl⟩ := R.listAt (.tail _ (.tail _ (.head _)))
    cases hii with
    | cons q0 q1 =>
      cases q1
      obtain ⟨t0, rfl⟩ := q0
      show wpAny _ A.in1 (seqItems? (.ref S) >>= _) _ _ s
      refine wpAny_bind (wpAny_seqItems hl rfl ?_)
      show wpAny _ A.in1 (tryCatch (pyNext (.ref m)) _ >>= _) _ _ s
      refine wpAny_bind (wpAny_tryCatch (wpAny_mono (next_map (x := xs[i]) room.in1 (fun A' led Q t => hf xs[i] (by simp) A' led Q t) (by simp [hlt]) R (.tail _ h1) (.tail _ h2) (.tail _ h3)) (fun r s' ⟨t, hr, R'⟩ => ?_) fun _ _ x => x.elim))
      subst hr
      obtain ⟨vals2, n4, hii2, hl2⟩ := R'.listAt (.tail _ (.tail _ (.head _)))
      have htk : total (xs.take (i + 1)) = total (xs.take i) + (xs[i].length : Int) := by
        unfold total
        rw [List.take_succ_eq_append_getElem hlt]
        simp only [List.map_append, List.map_cons, List.map_nil, List.sum_append_nat, List.sum_cons, List.sum_nil]
        omega
      have hle : ∀ j, 0 ≤ total (xs.take j) ∧ total (xs.take j) ≤ 10000000 := fun j => by
        unfold total
        refine ⟨by omega, ?_⟩
        have : ((xs.take j).map (·.length)).sum + ((xs.drop j).map (·.length)).sum = (xs.map (·.length)).sum := by rw [← List.sum_append_nat, ← List.map_append, List.take_append_drop]
        omega
      have hc := fits_add (a := total (xs.take i)) (b := (xs[i].length : Int)) (by omega) (by have := hle (i + 1); rw [htk] at this; have := hle i; omega) (by have := hle (i + 1); rw [htk] at this; have := hle i; omega) (by have := hle (i + 1); rw [htk] at this; have := hle i; omega)
      generalize (xs[i].length : Int) = b at htk hc ⊢
      generalize total (xs.take i) = a0 at R' htk hc ⊢
      refine wp_ifn (c := (0 : Int) != 0) rfl ?_
      refine wp_if hc ?_
      refine wpAny_bind (wpAny_mkInt ?_)
      show wpAny _ A.in1 (updateSeq S (fun _ => #[.int (a0 + b) s'.toks]) >>= _) _ _ _
      refine wpAny_bind ?_
      have hsz : vals2.toArray.size ≤ sizeLine := by have := hii2.length; simp at this; simp [this, sizeLine_eq]
      refine wpAny_updateSeq hl2 rfl (wpAny_pure ⟨plainId_quiet F.plain_sum_loop _, ih (i + 1) _ (by omega) hlt ?_⟩)
      rw [htk]
      exact R'.upSeq (tk := s'.toks + 1) (.there .here) hl2 (f := fun _ => #[.int (a0 + b) s'.toks]) (.cons ⟨_, rfl⟩ .nil)
theorem W.sum_map {Q : Value → Vars → Led → Prop} {n : Nat} {xs : List (List Nat)} (room : Room A (n + 2)) (hf : ∀ x ∈ xs, ∀ A' led Q t, Room A' n → (∀ t, Q (.int x.length t) led) → Cl D A' (.ref f) [.str (Mine.S x) t] [] Q led) (hsm : (xs.map (·.length)).sum ≤ 10000000)
    (h3 : (a, LS xs) ∈ led) (h : ∀ t, Q (.int (total xs) t) vs led) : W D A L (PySem.call (.builtin "sum") [.ref m]) Q vs ((m, mapOb ti f) :: (ti, .tup [.ref it]) :: (it, listIt a 0) :: led) := fun s R => by
  refine call_function_tree F.kind_sum F.plain_sum F.entry_sum (F.args_sum1 _) ?_
  unfold Builtin.«sum»
  simp only [List.length_cons, List.length_nil]
  rw [if_neg (by decide)]
  refine wpAny_bind (wpAny_of_eq (show Builtin.Builtins.bindParams "sum" ["start"] 0 { } = Pure.pure [none] from rfl) ?_)
  refine wpAny_bind (pyIter_map (mapAt R (.tail _ (.head _))) ?_)
  refine wpAny_bind (wpAny_mkInt ?_)
  refine wpAny_bind (wpAny_pure ?_)
  simp only [List.forIn_cons, List.forIn_nil]
  refine wpAny_bind (wpAny_bind (wpAny_bind (wpAny_isInstance (T := "int") (b := false) (typeIs_int _ _ _) PySem.sub_int_str ?_)))
  simp only [Bool.false_eq_true, if_false]
  refine wpAny_pure (wpAny_bind (wpAny_bind (wpAny_isInstance (T := "int") (b := false) (typeIs_int _ _ _) PySem.sub_int_bytes ?_)))
  simp only [Bool.false_eq_true, if_false]
  refine wpAny_pure (wpAny_bind (wpAny_bind (wpAny_isInstance (T := "int") (b := false) (typeIs_int _ _ _) PySem.sub_int_bytearray ?_)))
  simp only [Bool.false_eq_true, if_false]
  refine wpAny_pure (wpAny_pure ?_)
  refine wpAny_bind (wpAny_newObj_type ?_)
  have R1 := (R.toks (tk := s.toks + 1)).pushed (ob := .list [.int (total (xs.take 0))]) (tk := s.toks + 1) (o := { cls := .type "list", data := .seq #[.int 0 s.toks] }) rfl ⟨_, _, .cons ⟨_, rfl⟩ .nil, rfl⟩
  refine wpAny_pure ⟨plainId_quiet F.plain_sum_loop _, codeAny_mono (sum_map_loop (L := L) (it := it) (vs := vs) (led := (m, mapOb ti f) :: (ti, .tup [.ref it]) :: led) room hf hsm (.head _) (.tail _ (.head _)) (.tail _ (.tail _ h3)) _ 0 _ rfl (Nat.zero_le _) ?_) fun r s2 ⟨t, hr, R2⟩ => ?_⟩
  · refine R1.perm (List.Perm.cons _ ?_)
    have p1 : ∀ (x y z w : Addr × Ob) (l : Led), (x :: y :: z :: w :: l).Perm (w :: x :: y :: z :: l) := fun x y z w l => (List.perm_middle (a := w) (l₁ := [x, y, z]) (l₂ := l))
    have p2 : ∀ (x y z w : Addr × Ob) (l : Led), (x :: y :: z :: w :: l).Perm (w :: x :: y :: z :: l) := p1
    exact p1 _ _ _ _ _
  · subst hr
    exact ⟨vs, led, R2.sub (.cons (.skip (.skip (.refl _)))), h t⟩
end
end Mine
end
section
open PySem PySem.W PySem.Calls PyProof.Rows
set_option maxRecDepth 100000
set_option autoImplicit false
set_option linter.unusedVariables false
namespace Mine
section
variable {D : Wd} {A : Around} {L : Addr} {vs : Vars} {led led' : Led} {env : Env} {a : Addr} {as : List AV}
theorem W.Delete_Sub {o i : Expr} {p pos : Pos} {Q : Flow → Vars → Led → Prop} (h : W D A L (eval o env) (fun ov vs led => W D A L (eval i env) (fun iv vs led => W D A L (delItem ov iv) (fun _ => Q .next) vs led) vs led) vs led) :
    W D A L (exec (.Delete [.Subscript o i p] pos) env) Q vs led := by
  rw [arm_exec_Delete]
  refine W.bind (W.standAt (W.bind ?_))
  rw [arm_deleteEach_cons, arm_delete_Subscript]
  refine W.bind (W.bind (W.mono h fun ov vs led q => W.bind (W.holding (W.mono q fun iv vs led q => W.bind (W.standAt (W.bind (W.holding (W.mono q fun _ vs led q => W.release ?_))))))))
  rw [arm_deleteEach_nil]
  exact W.pure (W.pure q)
end
end Mine
end
section
open PySem PySem.W PySem.Calls PyProof.Rows
set_option maxRecDepth 100000
set_option autoImplicit false
set_option linter.unusedVariables false
namespace Mine
def withOk (K : Frag) (C fe fx : Addr) : Bool := (findIn K (.ref C) "__enter__" == some (some (.ref fe))) && isFn K (.ref fe) && (findIn K (.ref C) "__exit__" == some (some (.ref fx))) && isFn K (.ref fx)
section
variable {D : Wd} {A : Around} {L : Addr} {vs : Vars} {led led' : Led} {env : Env} {a : Addr} {as : List AV}
theorem W.With {C fe fx : Addr} {ctx : Expr} {body : List Stmt} {pos : Pos} {Q : Flow → Vars → Led → Prop} (hk : withOk D.K C fe fx = true)
    (h : W D A L (eval ctx env) (fun v vs led => ∃ x dx es, v = .ref x ∧ (x, .inst C dx) ∈ led ∧ (dx, .dict es) ∈ led ∧
      W D A L (PySem.call (.ref fe) [.ref x]) (fun _ vs led => W D A L (execs body env) (fun f vs led => W D A L (PySem.call (.ref fx) [.ref x, .none, .none, .none]) (fun _ => Q f) vs led) vs led) vs led) vs led) :
    W D A L (exec (.With [⟨ctx, none⟩] body pos) env) Q vs led := fun s R => by
  simp only [withOk, Bool.and_eq_true, beq_iff_eq] at hk
  obtain ⟨⟨⟨k1, k2⟩, k3⟩, k4⟩ := hk
  refine kw_exec0 (wpAny_mono (h s R) (fun v s1 ⟨vs1, led1, R1, x, dx, es, hv, h1, h2, q⟩ => ?_) fun _ _ x => x)
  subst hv
  obtain ⟨o, I, ho, hok⟩ := R1.instAt (.tail _ h1) (.tail _ h2)
  refine kw_core0 (R1.inK) I k1 k2 k3 k4 (wpAny_mono (q s1 R1) (fun v s2 ⟨vs2, led2, R2, q2⟩ => ?_) fun _ _ x => x)
  exact wpAny_mono (q2 s2 R2) (fun f s3 ⟨vs3, led3, R3, q3⟩ => q3 s3 R3) fun _ _ x => x
end
section
variable {D : Wd}
theorem wi_124 : withOk D.K 124 114 121 = true := by kernel_rfl
end
end Mine
end
section
open PySem PySem.W PySem.Calls PyProof.Rows
set_option maxRecDepth 100000
set_option autoImplicit false
set_option linter.unusedVariables false
namespace Mine
section
variable {D : Wd} {A : Around} {L : Addr} {vs : Vars} {led led' : Led} {env : Env} {a it e : Addr} {as : List AV} {s : Shared} {β : Type}
theorem ltne {a k : Addr} {n : Nat} (h : a < n) (h2 : n ≤ k) : a ≠ k := fun e => absurd (Nat.lt_of_lt_of_le h h2) (by rw [e]; exact Nat.lt_irrefl _)
theorem Rep.redo {h' : Heap} {tk : Nat} (R : Rep D led s) (ws : List Addr) (hw : ∀ b ∈ ws, b ∈ led.map (·.1)) (hk : ∀ b o, b ∉ ws → s.heap.get? b = some o → h'.get? b = some o)
    (hown : ∀ p ∈ led', ∃ o, h'.get? p.1 = some o ∧ p.2.ok o) (hmem : ∀ p ∈ led', p.1 ∈ led.map (·.1) ∨ s.heap.objs.size ≤ p.1) (hn : (led'.map (·.1)).Nodup) : Rep D led' { s with heap := h', toks := tk } := by
  have hfr : ∀ b ∈ led.map (·.1), D.B.get? b = none := fun b hb => by
    obtain ⟨p, hp, rfl⟩ := List.mem_map.mp hb
    exact R.fresh p hp
  refine ⟨fun b o e => hk b o (fun hb => ?_) (R.keep _ _ e), hown, fun p hp => ?_, hn, R.os, R.gk, R.bare⟩
  · have := hfr b (hw b hb)
    rw [this] at e; cases e
  · rcases hmem p hp with h | h
    · exact hfr _ h
    · cases q : D.B.get? p.1 with
      | none => rfl
      | some o => exact absurd (Heap.lt_size (R.keep _ _ q)) (Nat.not_lt.mpr h)
/-- what feeds a loop -/
structure Feeds (D : Wd) (A : Around) (L it : Addr) (target : Expr) (items : List β) (st : Nat → Led) (need : Led → Prop) (Out : Nat → β → Value → Led → Prop) : Prop where
  next : ∀ i x vs led s, items[i]? = some x → need led → Rep D ((L, .ns vs) :: (st i ++ led)) s → wpAny D.M A (pyNext (.ref it)) (fun r s1 => ∃ v, r = some v ∧ wpAny D.M A (letOwnedTupleGo target (.ref it) v) (fun _ s2 => ∃ new, Out i x v new ∧ Rep D ((L, .ns vs) :: (new ++ (st (i + 1) ++ led))) s2) none_E s1) none_E s
  done : ∀ vs led s, need led → Rep D ((L, .ns vs) :: (st items.length ++ led)) s → wpAny D.M A (pyNext (.ref it)) (fun r s' => r = none ∧ Rep D ((L, .ns vs) :: led) s') none_E s
theorem W.forFeeds {target : Expr} {body orelse : List Stmt} {items : List β} {st : Nat → Led} {need : Led → Prop} {Out : Nat → β → Value → Led → Prop} {Q : Flow → Vars → Led → Prop} (Fd : Feeds D A L it target items st need Out) (I : Nat → List β → Vars → Led → Prop)
    (hneed : ∀ i r vs led, I i r vs led → need led)
    (turn : ∀ i x r vs led v new, items.drop i = x :: r → I i (x :: r) vs led → Out i x v new → W D A L (assign target env v) (fun _ vs led => W D A L (execs body env) (Turn Q fun vs l => ∃ l2, Sub (st (i + 1) ++ l2) l ∧ I (i + 1) r vs l2) vs led) vs (new ++ (st (i + 1) ++ led)))
    (done : ∀ vs led, I items.length [] vs led → W D A L (execs orelse env) Q vs led) (h0 : I 0 items vs led) (R : Rep D ((L, .ns vs) :: (st 0 ++ led)) s) :
    codeAny D.M A (.forLoop target (.ref it) body orelse env) (fun r s' => match r with | .ok f => Post D L Q f s' | .error e => cameBackBy D.M A env none_E e s') s := by
  refine codeAny_forLoop_any (R := fun r s' => match r with | .ok f => Post D L Q f s' | .error e => cameBackBy D.M A env none_E e s') (fun n s => ∃ i vs led, n = items.length - i ∧ Rep D ((L, .ns vs) :: (st i ++ led)) s ∧ I i (items.drop i) vs led ∧ i ≤ items.length) ?_ items.length ⟨0, vs, led, rfl, R, h0, Nat.zero_le _⟩
  rintro n s ⟨i, vs, led, rfl, R, hI, hi⟩
  rcases Nat.lt_or_ge i items.length with q | q
  · have hd : items.drop i = items[i] :: items.drop (i + 1) := List.drop_eq_getElem_cons q
    rw [hd] at hI
    refine wpAny_mono (Fd.next i items[i] vs led s (by simp [q]) (hneed _ _ _ _ hI) R) (fun r s1 ⟨v, hr, h1⟩ => ?_) fun _ _ x => x.elim
    subst hr
    refine wpAny_mono h1 (fun _ s2 ⟨new, ho, R2⟩ => ?_) fun _ _ x => x.elim
    refine wpAny_mono (turn i _ _ vs led v new hd hI ho _ R2) (fun _ s3 ⟨vs3, led3, R3, h3⟩ => ?_) fun _ _ x => x.elim
    refine wpAny_mono (h3 _ R3) (fun f s4 ⟨vs4, led4, R4, h4⟩ => ?_) fun _ _ x => x.elim
    cases f with
    | next => obtain ⟨l2, hs, i2⟩ := h4; exact ⟨items.length - (i + 1), by omega, i + 1, vs4, l2, rfl, R4.sub (.cons hs), i2, q⟩
    | cont => obtain ⟨l2, hs, i2⟩ := h4; exact ⟨items.length - (i + 1), by omega, i + 1, vs4, l2, rfl, R4.sub (.cons hs), i2, q⟩
    | brk => exact ⟨vs4, led4, R4, h4⟩
    | ret v => exact ⟨vs4, led4, R4, h4⟩
  · have e : i = items.length := by omega
    subst e
    rw [List.drop_of_length_le (Nat.le_refl _)] at hI
    refine wpAny_mono (Fd.done vs led s (hneed _ _ _ _ hI) R) (fun r s1 ⟨hr, R1⟩ => ?_) fun _ _ x => x.elim
    subst hr
    exact wpAny_mono (done vs led hI s1 R1) (fun f s2 q => q) fun _ _ x => x.elim
theorem W.For_feeds {target iter : Expr} {body orelse : List Stmt} {pos : Pos} {Q : Flow → Vars → Led → Prop} (hs : ∀ x, foldedSetIterable iter env x = Pure.pure x)
    (h : W D A L (eval iter env) (fun v vs led => ∃ (it : Addr) (led0 : Led) (items : List β) (st : Nat → Led) (need : Led → Prop) (Out : Nat → β → Value → Led → Prop) (I : Nat → List β → Vars → Led → Prop), v = .ref it ∧ Sub (st 0 ++ led0) led ∧ Feeds D A L it target items st need Out ∧
      (∀ s Q E, Rep D ((L, .ns vs) :: led) s → Q (.ref it) s → wpAny D.M A (pyIter (.ref it)) Q E s) ∧ (∀ i r vs led, I i r vs led → need led) ∧ I 0 items vs led0 ∧
      (∀ i x r vs led v new, items.drop i = x :: r → I i (x :: r) vs led → Out i x v new → W D A L (assign target env v) (fun _ vs led => W D A L (execs body env) (Turn Q fun vs l => ∃ l2, Sub (st (i + 1) ++ l2) l ∧ I (i + 1) r vs l2) vs led) vs (new ++ (st (i + 1) ++ led))) ∧
      (∀ vs led, I items.length [] vs led → W D A L (execs orelse env) Q vs led)) vs led) : W D A L (exec (.For target iter body orelse pos) env) Q vs led := fun s R => by
  refine wpAny_For (wpAny_mono (h s R) (fun v s1 ⟨vs1, led1, R1, it, led0, items, st, need, Out, I, hv, hsub, Fd, hit, hneed, h0, turn, done⟩ => ?_) fun _ _ x => x.elim) hs
  subst hv
  refine hit _ _ _ R1 ?_
  exact W.forFeeds Fd I hneed turn done h0 (R1.sub (.cons hsub))

/- enumerate -/
def enumOb (it : Addr) (i : Nat) : Ob := .sat fun o => ∃ old, o = { cls := .type "enumerate", dict := none, data := .fields #[.none, .bool false, .ref it, rawInt (i : Int), .none, old], slots := #[] }
theorem enumOb.at {i : Nat} (R : Rep D led s) (hm : (e, enumOb it i) ∈ led) : ∃ old, IsEnum s.heap e it (i : Int) old := by
  obtain ⟨o, ho, old, h⟩ := R.own _ hm
  subst h
  exact ⟨old, ho⟩
theorem W.call_enum {Q : Value → Vars → Led → Prop} (hm : (a, .list as) ∈ led) (h : ∀ e it, Q (.ref e) vs ((e, enumOb it 0) :: (it, listIt a 0) :: led)) : W D A L (PySem.call (.type "enumerate") [.ref a]) Q vs led := fun s R => by
  obtain ⟨vals, n, hi, hl⟩ := R.listAt (.tail _ hm)
  refine call_enumerate_1 (n := n) hl fun h' he hit hsz hk => ?_
  have hf : ∀ p ∈ (L, Ob.ns vs) :: led, p.1 < s.heap.objs.size := fun p hp => R.lt hp
  refine ⟨vs, _, R.redo (led' := (L, .ns vs) :: (s.heap.objs.size + 1, enumOb s.heap.objs.size 0) :: (s.heap.objs.size, listIt a 0) :: led) [] (fun _ h => by cases h) (fun b o _ e => hk b o e) (fun p hp => ?_) (fun p hp => ?_) ?_, h _ _⟩
  · rcases List.mem_cons.mp hp with rfl | hp
    · obtain ⟨o, ho, k⟩ := R.own _ (.head _); exact ⟨o, hk _ _ ho, k⟩
    rcases List.mem_cons.mp hp with rfl | hp
    · exact ⟨_, he, _, rfl⟩
    rcases List.mem_cons.mp hp with rfl | hp
    · obtain ⟨o, ho, k1, k2⟩ := hit; exact ⟨o, ho, k1, k2⟩
    · obtain ⟨o, ho, k⟩ := R.own _ (.tail _ hp); exact ⟨o, hk _ _ ho, k⟩
  · rcases List.mem_cons.mp hp with rfl | hp
    · exact .inl (by simp)
    rcases List.mem_cons.mp hp with rfl | hp
    · exact .inr (Nat.le_succ _)
    rcases List.mem_cons.mp hp with rfl | hp
    · exact .inr (Nat.le_refl _)
    · exact .inl (List.mem_map_of_mem (.tail _ hp))
  · have nd := R.nodup
    simp only [List.map_cons, List.nodup_cons, List.mem_cons, not_or] at nd ⊢
    have l1 := hf _ (.head _)
    have l2 : ∀ k, s.heap.objs.size ≤ k → k ∉ led.map (·.1) := fun k hk hm => by
      obtain ⟨p, hp, e⟩ := List.mem_map.mp hm
      exact ltne (hf p (.tail _ hp)) hk e
    exact ⟨⟨ltne l1 (Nat.le_succ _), ltne l1 (Nat.le_refl _), nd.1⟩, ⟨Nat.succ_ne_self _, l2 _ (Nat.le_succ _)⟩, l2 _ (Nat.le_refl _), nd.2⟩
theorem pyIter_enumOb {i : Nat} {Q : Value → Shared → Prop} {E : Value → Shared → Prop} (R : Rep D led s) (hm : (e, enumOb it i) ∈ led) (h : Q (.ref e) s) : wpAny D.M A (pyIter (.ref e)) Q E s := by
  obtain ⟨old, he⟩ := enumOb.at R hm
  exact wpAny_pyIter_enum he h
theorem Feeds.enumL {n : Nat} {elts : List Expr} {x1 : Nat} {pos : Pos} (hr : Room A n) : Feeds D A L e (.Tuple elts x1 pos) as (fun i => [(e, enumOb it i), (it, listIt a i)]) (fun led => (a, .list as) ∈ led) (fun i x v new => ∃ T, v = .ref T ∧ new = [(T, .tup [.int i, x])]) where
  next := fun i x vs led s hx hm R => by
    obtain ⟨vals, n, hi, hl⟩ := R.listAt (.tail _ (.tail _ (.tail _ hm)))
    obtain ⟨v, hv, hq⟩ := hi.get hx
    obtain ⟨old, he⟩ := enumOb.at R (.tail _ (.head _))
    have hit := listIt.at R (.tail _ (.tail _ (.head _)))
    have nd := R.nodup
    have lt : ∀ p ∈ (L, Ob.ns vs) :: ([(e, enumOb it i), (it, listIt a i)] ++ led), p.1 < s.heap.objs.size := fun p hp => R.lt hp
    simp only [List.map_cons, List.cons_append, List.nil_append, List.nodup_cons, List.mem_cons, not_or] at nd
    refine wpAny_pyNext_enum_item he hit (isL hl) (x := v) (by simpa using hv) nd.2.1.1 fun h' ho hit' hT hsz hk => ⟨_, rfl, ?_⟩
    refine wpAny_letOwnedTupleGo_enum ho fun h2 he2 hs2 => ⟨_, ⟨_, rfl, rfl⟩, ?_⟩
    have l1 := lt _ (.head _)
    have l2 := lt _ (.tail _ (.head _))
    have l3 := lt _ (.tail _ (.tail _ (.head _)))
    have keep2 : ∀ b o, b ≠ e → b ≠ it → s.heap.get? b = some o → h2.get? b = some o := fun b o n1 n2 q => (hs2.2 b n1).trans (hk b o n1 n2 q)
    have n3 : ∀ q : Addr × Ob, q ∈ led → q.1 ≠ e ∧ q.1 ≠ it := fun q hq => ⟨fun h => nd.2.1.2 (h ▸ List.mem_map_of_mem hq), fun h => nd.2.2.1 (h ▸ List.mem_map_of_mem hq)⟩
    refine R.redo (led' := (L, .ns vs) :: (s.heap.objs.size, .tup [.int i, x]) :: (e, enumOb it (i + 1)) :: (it, listIt a (i + 1)) :: led) [e, it] (fun b hb => ?_) (fun b o hb q => ?_) (fun p hp => ?_) (fun p hp => ?_) ?_
    · rcases List.mem_cons.mp hb with rfl | hb
      · simp
      · rw [List.mem_singleton] at hb; subst hb; simp
    · simp only [List.mem_cons, List.not_mem_nil, or_false, not_or] at hb
      exact keep2 b o hb.1 hb.2 q
    · rcases List.mem_cons.mp hp with rfl | hp
      · obtain ⟨o, ho, k⟩ := R.own _ (.head _); exact ⟨o, keep2 _ _ nd.1.1 nd.1.2.1 ho, k⟩
      rcases List.mem_cons.mp hp with rfl | hp
      · exact ⟨_, (hs2.2 _ (ltne l2 (Nat.le_refl _)).symm).trans hT, _, _, .cons ⟨_, rfl⟩ (.cons hq .nil), rfl⟩
      rcases List.mem_cons.mp hp with rfl | hp
      · exact ⟨_, he2, _, rfl⟩
      rcases List.mem_cons.mp hp with rfl | hp
      · obtain ⟨o, ho, k1, k2⟩ := hit'; exact ⟨o, (hs2.2 _ (Ne.symm nd.2.1.1)).trans ho, k1, k2⟩
      · obtain ⟨o, ho, k⟩ := R.own _ (.tail _ (.tail _ (.tail _ hp))); exact ⟨o, keep2 _ _ (n3 p hp).1 (n3 p hp).2 ho, k⟩
    · rcases List.mem_cons.mp hp with rfl | hp
      · exact .inl (by simp)
      rcases List.mem_cons.mp hp with rfl | hp
      · exact .inr (Nat.le_refl _)
      · exact .inl (by
          rcases List.mem_cons.mp hp with rfl | hp
          · simp
          rcases List.mem_cons.mp hp with rfl | hp
          · simp
          · exact List.mem_map_of_mem (.tail _ (.tail _ (.tail _ hp))))
    · have l4 : s.heap.objs.size ∉ led.map (·.1) := fun hm => by
        obtain ⟨p, hp, e⟩ := List.mem_map.mp hm
        exact ltne (lt p (.tail _ (.tail _ (.tail _ hp)))) (Nat.le_refl _) e
      simp only [List.map_cons, List.nodup_cons, List.mem_cons, not_or]
      simp only at l1 l2 l3
      exact ⟨⟨ltne l1 (Nat.le_refl _), nd.1⟩, ⟨(ltne l2 (Nat.le_refl _)).symm, (ltne l3 (Nat.le_refl _)).symm, l4⟩, nd.2⟩
  done := fun vs led s hm R => by
    obtain ⟨vals, n, hi, hl⟩ := R.listAt (.tail _ (.tail _ (.tail _ hm)))
    have hlen := hi.length
    obtain ⟨old, he⟩ := enumOb.at R (.tail _ (.head _))
    have hit := listIt.at R (.tail _ (.tail _ (.head _)))
    refine wpAny_pyNext_enum_end hr.2.2 he hit (isL hl) (by simp; omega) fun h' hx => ⟨rfl, ?_⟩
    exact (EndIs.extBut (tk := s.toks) (R.perm (List.Perm.cons _ (List.Perm.swap ..))) hx).sub (.cons (.skip (.refl _)))
end
end Mine
end
section
open PySem PySem.W PySem.Calls PyProof.Rows
set_option maxRecDepth 100000
set_option autoImplicit false
set_option linter.unusedVariables false
namespace Mine
section
variable {D : Wd} {A : Around} {L : Addr} {vs : Vars} {led led' : Led} {env : Env} {a it e : Addr} {as : List AV} {s : Shared}
theorem W.assign_two {x y : Str} {px py pos : Pos} {k n : Nat} {p q : AV} {Q : Unit → Vars → Led → Prop} (hr : Room A n) (hm : (a, .tup [p, q]) ∈ led) (h : Stores D A L env Q [x, y] [p, q] vs led) : W D A L (assign (.Tuple [.Name x px, .Name y py] k pos) env (.ref a)) Q vs led :=
  W.assign_tup (ns := [x, y]) hr rfl rfl hm rfl rfl h
end
end Mine
end
section
open PySem PySem.W PySem.Calls PyProof.Rows
set_option maxRecDepth 100000
set_option autoImplicit false
set_option linter.unusedVariables false
namespace Mine
/-- a name kept in a cell -/
structure CellVar (env : Env) (x : Str) (c : Addr) : Prop where
  fk : env.scope.kind = .function
  kd : env.kindOf x = some .cell ∨ (env.kindOf x = some .free ∧ (x == ("__classdict__" : Str)) = false)
  lk : env.cells.lookup x = some c
  nd : (x == ("__debug__" : Str)) = false
def cellOb (v : Option AV) : Ob := .sat fun o => ∃ u, o.data = .cell u ∧ OptIs v u
section
variable {D : Wd} {A : Around} {L : Addr} {vs : Vars} {led led' : Led} {env : Env} {a it e c : Addr} {as : List AV} {s : Shared} {x : Str} {av : AV}
theorem cellAt {v : Option AV} (R : Rep D led s) (hm : (c, cellOb v) ∈ led) : ∃ u, s.heap.IsCell c u ∧ OptIs v u := by
  obtain ⟨o, ho, u, hd, hu⟩ := R.own _ hm
  exact ⟨u, ⟨o, ho, hd⟩, hu⟩
theorem W.loadC {Q : Value → Vars → Led → Prop} (hc : CellVar env x c) (hm : (c, cellOb (some av)) ∈ led) (h : ∀ v, av.is v → Q v vs led) : W D A L (loadName env x) Q vs led := fun s R => by
  obtain ⟨u, hi, hu⟩ := cellAt R (.tail _ hm)
  cases u with
  | none => exact hu.elim
  | some v =>
    rcases hc.kd with k | ⟨k, k2⟩
    · exact wpAny_loadName_cell hc.fk k hc.lk hi ⟨vs, led, R, h v hu⟩
    · exact wpAny_loadName_free hc.fk k hc.lk hi ⟨vs, led, R, h v hu⟩ k2
theorem W.ldC {pos : Pos} {Q : Value → Vars → Led → Prop} (hc : CellVar env x c) (hm : (c, cellOb (some av)) ∈ led) (h : ∀ v, av.is v → Q v vs led) : W D A L (eval (.Name x pos) env) Q vs led := fun s R =>
  wpAny_Name (W.loadC hc hm h s R) hc.nd
theorem W.stC {v : Value} {ov : Option AV} {Q : Unit → Vars → Led → Prop} (hc : CellVar env x c) (hk : env.kindOf x = some .cell) (hv : av.is v) (u : Up c (cellOb ov) (cellOb (some av)) led led') (h : Q () vs led') : W D A L (storeName env x v) Q vs led := fun s R => by
  obtain ⟨w, hi, hu⟩ := cellAt R (.tail _ u.mem)
  refine wpAny_storeName_cell hc.fk hk hc.lk hi fun h' ⟨o, ho, hd⟩ hs => ⟨vs, led', ?_, h⟩
  exact R.up (tk := s.toks) u hs ⟨o, ho, _, hd, hv⟩
end
theorem bindL_eq (k : Str → Option NameKind) : ∀ (binds : List (Str × Value)) (m : Str → Option Value) (y : Str), (binds.map (·.1)).Nodup → bindL k binds m y = if k y = some .local ∧ (binds.lookup y).isSome = true then binds.lookup y else m y
  | [], m, y, _ => by simp [bindL]
  | (n, v) :: r, m, y, hn => by
    rw [List.map_cons, List.nodup_cons] at hn
    unfold bindL
    rw [bindL_eq k r _ y hn.2, List.lookup_cons]
    by_cases e : y = n
    · subst e
      have hr : r.lookup y = none := by
        rw [List.lookup_eq_none_iff]
        intro p hp
        have : y ≠ p.1 := fun e => hn.1 (List.mem_map.mpr ⟨p, hp, e.symm⟩)
        simpa [bne_iff_ne] using this
      simp only [hr, beq_self_eq_true]
      by_cases q : k y = some .local
      · simp [q]
      · simp [q]
    · have e2 : (y == n) = false := by simpa using e
      simp only [e2]
      by_cases q : k n = some .local
      · simp [q, e]
      · simp [q]
theorem bindC_eq (k : Str → Option NameKind) : ∀ (binds : List (Str × Value)) (m : Str → Option Value) (y : Str), (binds.map (·.1)).Nodup → bindC k binds m y = if k y ≠ some .local ∧ (binds.lookup y).isSome = true then binds.lookup y else m y
  | [], m, y, _ => by simp [bindC]
  | (n, v) :: r, m, y, hn => by
    rw [List.map_cons, List.nodup_cons] at hn
    unfold bindC
    rw [bindC_eq k r _ y hn.2, List.lookup_cons]
    by_cases e : y = n
    · subst e
      have hr : r.lookup y = none := by
        rw [List.lookup_eq_none_iff]
        intro p hp
        have : y ≠ p.1 := fun e => hn.1 (List.mem_map.mpr ⟨p, hp, e.symm⟩)
        simpa [bne_iff_ne] using this
      simp only [hr, beq_self_eq_true]
      by_cases q : k y = some .local
      · simp [q]
      · simp [q]
    · have e2 : (y == n) = false := by simpa using e
      simp only [e2]
      by_cases q : k n = some .local
      · simp [q]
      · simp [q, e]
def fnOkC (fd : FuncData) (ls gs cn : List Str) : Bool :=
  fd.scope.kind == .function && !fd.scope.isCoroutine && !fd.scope.isGenerator && fd.globals == mainGlobals && fd.builtins == builtinsNs && fd.closure.isEmpty &&
  decide ls.Nodup && decide cn.Nodup && (ls.all fun x => fd.scope.names.lookup x == some .local && !(x == ("__debug__" : Str))) &&
  (gs.all fun x => fd.scope.names.lookup x == some .globalImplicit && !(x == ("__debug__" : Str))) &&
  (cn.all fun x => fd.scope.names.lookup x == some .cell && !(x == ("__debug__" : Str)) && ((cellsFrom 0 fd.scope.names []).lookup x).isSome)
def bindsOkC (fd : FuncData) (ls cn : List Str) (names : List Str) : Bool :=
  decide names.Nodup && names.all fun x => (ls.contains x && fd.scope.names.lookup x == some .local) || (cn.contains x && fd.scope.names.lookup x == some .cell)
theorem cellsFrom_some : ∀ (names : List (Str × NameKind)) (n m : Nat) (acc acc2 : List (Str × Addr)) (x : Str), ((acc.lookup x).isSome = true → (acc2.lookup x).isSome = true) → ((cellsFrom n names acc).lookup x).isSome = true → ((cellsFrom m names acc2).lookup x).isSome = true
  | [], n, m, acc, acc2, x, h, k => h k
  | (nm, kd) :: r, n, m, acc, acc2, x, h, k => by
    unfold cellsFrom at k ⊢
    split at k
    · rename_i hk
      rw [if_pos hk]
      refine cellsFrom_some r (n + 1) (m + 1) _ _ x (fun q => ?_) k
      rw [List.lookup_cons] at q ⊢
      cases hb : x == nm with
      | true => rfl
      | false => rw [hb] at q; exact h q
    · rename_i hk
      rw [if_neg hk]
      exact cellsFrom_some r n m _ _ x h k
theorem varsOf_in {ls : List Str} (binds : List (Str × Value)) {x : Str} (hx : x ∈ ls) : ((varsOf ls binds).lookup x).join = (binds.lookup x).map avOf := by
  unfold varsOf
  induction ls with
  | nil => cases hx
  | cons y r ih =>
    rw [List.map_cons, List.lookup_cons]
    by_cases h : x = y
    · subst h; simp
    · have e : (x == y) = false := by simpa using h
      simp only [e]
      exact ih ((List.mem_cons.mp hx).resolve_left h)
theorem varsOf_out {ls : List Str} (binds : List (Str × Value)) {x : Str} (hx : x ∉ ls) : ((varsOf ls binds).lookup x).join = none := by
  have e1 : (varsOf ls binds).lookup x = none := by
    unfold varsOf
    rw [List.lookup_eq_none_iff]
    intro p hp
    obtain ⟨y, hy, rfl⟩ := List.mem_map.mp hp
    have : x ≠ y := fun e => hx (e ▸ hy)
    simpa [bne_iff_ne] using this
  rw [e1]; rfl
theorem call_cellsB {M : Program} {w : World} {A : Around} {s : Shared} {R : Result → Shared → Prop} {a : Addr} {o : Obj} {fd : FuncData} {body : List Stmt} {args : Args} {binds : List (Str × Value)}
    (hroom : A.depth < recursionLimit) (ho : s.heap.get? a = some o) (hdata : o.data = .func fd) (hlim : s.heap.NoLimit) (hcd : s.heap.CodeRec fd.code fd.qualname)
    (hbody : fd.body = .stmts body) (hbind : BindsTo s fd args binds) (hclo : fd.closure = [])
    (hkind : ∀ x ∈ binds, fd.scope.names.lookup x.1 = some .local ∨ (fd.scope.names.lookup x.1 = some .cell ∧ ((cellsFrom (s.heap.objs.size + 1) fd.scope.names []).lookup x.1).isSome = true))
    (h : ∀ s₁, InCallC s (callEnvC fd s.heap.objs.size a).locals (bindL (callEnvC fd s.heap.objs.size a).kindOf binds fun _ => none) (callEnvC fd s.heap.objs.size a).cells
        (bindC (callEnvC fd s.heap.objs.size a).kindOf binds fun _ => none) s₁ →
      wpAny (model M w) (A.deeper (callEnvC fd s.heap.objs.size a)) (execs body (callEnvC fd s.heap.objs.size a)) (fun f s' => R (.ok (.ret (match f with | .ret v => v | _ => .none))) s')
        (fun e s' => wpAny (model M w) (A.deeper (callEnvC fd s.heap.objs.size a)) (leaving (callEnvC fd s.heap.objs.size a) e) (fun _ s'' => R (.error e) s'') (fun e' s'' => R (.error e') s'') s') s₁)
    (hco : fd.scope.isCoroutine = false) (hgen : fd.scope.isGenerator = false) (hk : fd.scope.kind = .function) :
    codeAny (model M w) A (.call (.ref a) args) R s := by
  refine codeAny_call_function hroom ho hdata hco hgen hbody hcd (hbind _ _ _ _ ?_)
  rw [hclo]
  refine wpAny_newFunctionEnv_cells hk hkind fun env he s' x => ?_
  subst he
  exact ⟨hlim.keeps x.toInCall.keep, codeAny_func (h s' x)⟩
section
variable {D : Wd} {A : Around} {args : List Value} {kw : List (Str × Value)} {Q : Value → Led → Prop} {led : Led}
theorem Cl.defC {f : Addr} {fd : FuncData} {oc : Value} {od : Option Addr} {osl : Array (Option Value)} {binds : List (Str × Value)} {body : List Stmt} {ls gs cn : List Str} {n : Nat} {vs : Vars}
    (hK : (hd.heap_39 D.w.params).lookup f = some ⟨oc, od, .func fd, osl⟩) (hcd : codeIn (hd.heap_39 D.w.params) fd.code fd.qualname = true) (hroom : Room A (n + 1))
    (hbody : fd.body = .stmts body) (hok : fnOkC fd ls gs cn = true) (hb : ∀ S, peek (hd.heap_39 D.w.params) S (bindArgs fd ⟨args, kw⟩) = some binds) (hbo : bindsOkC fd ls cn (binds.map (·.1)) = true)
    (hvs : varsOf ls binds = vs) (h : ∀ env L A' (ca : Str → Addr), Fn env L ls gs → env.code = fd.code → env.qual = fd.qualname ++ ".<locals>." → (∀ x ∈ cn, CellVar env x (ca x) ∧ env.kindOf x = some .cell) → Room A' n →
      W D A' L (execs body env) (Fin Q) vs (cn.map (fun x => (ca x, cellOb ((binds.lookup x).map avOf))) ++ led)) : Cl D A (.ref f) args kw Q led := by
  intro s R
  subst hvs
  simp only [fnOkC, Bool.and_eq_true, List.all_eq_true, Bool.not_eq_true', beq_iff_eq, decide_eq_true_eq, List.isEmpty_iff] at hok
  obtain ⟨⟨⟨⟨⟨⟨⟨⟨⟨⟨h1, h2⟩, h3⟩, h4⟩, h5⟩, h6⟩, hnd⟩, hcn⟩, h7⟩, h8⟩, h9⟩ := hok
  simp only [bindsOkC, Bool.and_eq_true, Bool.or_eq_true, List.all_eq_true, decide_eq_true_eq, beq_iff_eq, List.contains_iff_mem] at hbo
  have X := R.inK
  have hcs : ∀ x ∈ cn, ∃ c, (cellsFrom (s.heap.objs.size + 1) fd.scope.names []).lookup x = some c := fun x hx =>
    Option.isSome_iff_exists.mp (cellsFrom_some fd.scope.names 0 (s.heap.objs.size + 1) [] [] x (fun q => q) (h9 x hx).2)
  refine call_cellsB hroom.depth (X _ _ hK) rfl R.nolimit (codeRec_of X hcd) hbody (kp_binds X hb) h6 (fun x hx => ?_) (fun s₁ I => ?_) h2 h3 h1
  · rcases hbo.2 _ (List.mem_map_of_mem hx) with q | q
    · exact .inl q.2
    · exact .inr ⟨q.2, Option.isSome_iff_exists.mpr (hcs _ q.1)⟩
  generalize hEnv : callEnvC fd s.heap.objs.size f = env at *
  have eS : env.scope = fd.scope := by rw [← hEnv]; rfl
  have eL : env.locals = s.heap.objs.size := by rw [← hEnv]; rfl
  have eC : env.cells = cellsFrom (s.heap.objs.size + 1) fd.scope.names [] := by rw [← hEnv]; rfl
  have eK : ∀ x, env.kindOf x = fd.scope.names.lookup x := fun x => by rw [← hEnv]; rfl
  have Fd : Fn env s.heap.objs.size ls gs := ⟨by rw [eS]; exact h1, eL, by rw [← hEnv]; exact h4, by rw [← hEnv]; exact h5, fun x hx => by
      have := h7 x hx; exact ⟨by rw [eK]; exact this.1, by simpa using this.2⟩, fun x hx => by have := h8 x hx; exact ⟨by rw [eK]; exact this.1, by simpa using this.2⟩⟩
  let ca : Str → Addr := fun x => (env.cells.lookup x).getD 0
  have hca : ∀ x ∈ cn, env.cells.lookup x = some (ca x) := fun x hx => by
    obtain ⟨c, hc⟩ := hcs x hx
    rw [← eC] at hc
    show _ = some ((env.cells.lookup x).getD 0)
    rw [hc]; rfl
  have CV : ∀ x ∈ cn, CellVar env x (ca x) ∧ env.kindOf x = some .cell := fun x hx =>
    ⟨⟨by rw [eS]; exact h1, .inl (by rw [eK]; exact (h9 x hx).1.1), hca x hx, by simpa using (h9 x hx).1.2⟩, by rw [eK]; exact (h9 x hx).1.1⟩
  obtain ⟨h', tk, hs1, hkeep⟩ := I.done
  have hns := I.toInCall.ns
  subst hs1
  rw [eL] at hns
  have hlt : ∀ p ∈ led, p.1 < s.heap.objs.size := fun p hp => R.lt hp
  have habove : ∀ x ∈ cn, s.heap.objs.size < ca x := fun x hx => by
    have := I.above x (ca x) (mem_of_lookup (hca x hx))
    rwa [eL] at this
  have Rn : Rep D ((s.heap.objs.size, .ns (varsOf ls binds)) :: (cn.map (fun x => (ca x, cellOb ((binds.lookup x).map avOf))) ++ led)) { s with heap := h', toks := tk } := by
    refine R.redo [] (fun _ h => by cases h) (fun b o _ e => hkeep b o e) (fun p hp => ?_) (fun p hp => ?_) ?_
    · rcases List.mem_cons.mp hp with rfl | hp
      · obtain ⟨o, es, ep, ho, hd, hk, hm⟩ := hns
        refine ⟨o, ho, ?_, es, ep, hd, hk, fun x => ?_⟩
        · unfold varsOf; rw [List.map_map]; show (ls.map id).Nodup; rw [List.map_id]; exact hnd
        · rw [hm, bindL_eq _ _ _ _ hbo.1]
          rw [eK]
          by_cases hx : x ∈ ls
          · rw [varsOf_in _ hx, (h7 x hx).1]
            cases q : binds.lookup x with
            | none => exact trivial
            | some v => exact avOf_is v
          · rw [varsOf_out _ hx]
            split
            · rename_i hc
              exfalso
              obtain ⟨v, hv⟩ := Option.isSome_iff_exists.mp hc.2
              rcases hbo.2 _ (List.mem_map_of_mem (mem_of_lookup hv)) with q | q
              · exact hx q.1
              · rw [hc.1] at q; exact absurd q.2 (by decide)
            · exact trivial
      · rcases List.mem_append.mp hp with hp | hp
        · obtain ⟨x, hx, rfl⟩ := List.mem_map.mp hp
          obtain ⟨o, ho, hd⟩ := I.cell x (ca x) (hca x hx)
          refine ⟨o, ho, _, hd, ?_⟩
          rw [bindC_eq _ _ _ _ hbo.1]
          have hnl : env.kindOf x ≠ some .local := by rw [(CV x hx).2]; decide
          cases q : binds.lookup x with
          | none => simp [q]; exact trivial
          | some v => simp [q, hnl]; exact avOf_is v
        · obtain ⟨o, ho, k⟩ := R.own p hp
          exact ⟨o, hkeep _ _ ho, k⟩
    · rcases List.mem_cons.mp hp with rfl | hp
      · exact .inr (Nat.le_refl _)
      · rcases List.mem_append.mp hp with hp | hp
        · obtain ⟨x, hx, rfl⟩ := List.mem_map.mp hp
          exact .inr (Nat.le_of_lt (habove x hx))
        · exact .inl (List.mem_map_of_mem hp)
    · rw [List.map_cons, List.map_append, List.map_map, List.nodup_cons, List.nodup_append]
      refine ⟨fun hm => ?_, ?_, R.nodup, fun b hb d hd => ?_⟩
      · rcases List.mem_append.mp hm with hm | hm
        · obtain ⟨x, hx, e⟩ := List.mem_map.mp hm
          exact ltne (habove x hx) (Nat.le_refl _) e.symm
        · obtain ⟨p, hp, e⟩ := List.mem_map.mp hm
          exact ltne (hlt p hp) (Nat.le_refl _) e
      · refine (List.pairwise_map.mpr ?_)
        refine List.Pairwise.imp_of_mem ?_ hcn
        intro x y hx hy hne e
        exact hne (name_of_addr I.apart (mem_of_lookup (hca x hx)) (by rw [show ca x = ca y from e]; exact mem_of_lookup (hca y hy)))
      · obtain ⟨x, hx, rfl⟩ := List.mem_map.mp hb
        obtain ⟨p, hp, rfl⟩ := List.mem_map.mp hd
        exact fun e => ltne (hlt p hp) (Nat.le_of_lt (habove x hx)) e.symm
  refine wpAny_mono (h env _ _ ca Fd (by rw [← hEnv]; rfl) (by rw [← hEnv]; rfl) CV hroom.deeper _ Rn) (fun fl s' ⟨vs', led', R'', l2, hs, hq⟩ => ?_) fun _ _ x => x.elim
  exact ⟨_, l2, rfl, R''.sub (hs.skip), hq⟩
end
end Mine
end
section
open PySem PySem.W PySem.Calls PyProof.Rows
set_option maxRecDepth 100000
set_option autoImplicit false
set_option linter.unusedVariables false
namespace Mine
/-- a code object by its name -/
def codeOb (qual : Str) : Ob := .sat fun o => ∃ vs t, o.data = .fields vs ∧ vs[1]? = some (.str qual t)
/-- the table of a function's inner code: empty, or with one entry -/
def TabL (P : Addr) (qual : Str) (pos : Pos) : Option Addr → Led
  | none => [(P, .raw (tabObj #[]))]
  | some c => [(P, .raw (tabObj #[rawInt pos.line, rawInt pos.col, .ref c])), (c, codeOb qual)]
def closL (ca : Str → Addr) : List (Str × NameKind) → List (Str × Addr) → List (Str × Addr)
  | [], acc => acc
  | (n, k) :: r, acc => closL ca r (if k == .free then (n, ca n) :: acc else acc)
theorem closureFor_eq {env : Env} {ca : Str → Addr} : ∀ (names : List (Str × NameKind)) (acc : List (Str × Addr)), (∀ x ∈ names, x.2 = .free → env.cells.lookup x.1 = some (ca x.1)) →
    (forIn names acc (fun (p : Str × NameKind) (cs : List (Str × Addr)) => (match p with | (name, kind) => if kind == .free then (do let c ← cellOf env name; Pure.pure (ForInStep.yield ((name, c) :: cs))) else Pure.pure (ForInStep.yield cs) : Sem (ForInStep (List (Str × Addr)))))) = (Pure.pure (closL ca names acc) : Sem (List (Str × Addr)))
  | [], acc, _ => by rw [List.forIn_nil]; rfl
  | (n, k) :: r, acc, h => by
    rw [List.forIn_cons]
    have ih := fun acc => closureFor_eq r acc fun x hx => h x (.tail _ hx)
    dsimp only
    by_cases q : k = .free
    · subst q
      have := h (n, .free) (.head _) rfl
      rw [if_pos (by decide)]
      have e : cellOf env n = Pure.pure (ca n) := by unfold cellOf; rw [this]
      rw [e]
      simp only [pure_bind]
      rw [ih]
      rfl
    · have q2 : ¬ (k == NameKind.free) = true := by cases k <;> first | decide | exact absurd rfl q
      rw [if_neg q2]
      simp only [pure_bind]
      rw [ih]
      have q3 : (k == NameKind.free) = false := by simpa using q2
      show _ = Pure.pure (closL ca r (if (k == NameKind.free) = true then _ else acc))
      rw [q3]; rfl
section
variable {D : Wd} {A : Around} {L : Addr} {vs : Vars} {led led' : Led} {env : Env} {a it e c P f : Addr} {as : List AV} {s : Shared} {x : Str} {av : AV}
theorem W.DefStmt0 {name qual : Str} {params : Arguments} {body : List Stmt} {scope : Scope} {pos : Pos} {Q : Flow → Vars → Led → Prop} {st : Option Addr} {ls gs : List Str} {ca : Str → Addr} {led0 : Led} (Fd : Fn env L ls gs) (hcode : env.code = .ref c) (C : CodeHd D.B c P) (hq : qualnameIn env name name = qual)
    (hd0 : params.defaults = []) (hk0 : params.kw_defaults = []) (ha : annTrees params none env = []) (hfree : ∀ x ∈ scope.names, x.2 = .free → env.cells.lookup x.1 = some (ca x.1)) (hled : Sub (TabL P qual pos st ++ led0) led)
    (h : ∀ f c' ctv doc pm, W D A L (storeName env name (.ref f)) (fun _ => Q .next) vs ((f, .raw (fnMade name qual params body scope (closL ca scope.names []) doc pm c' ctv)) :: (TabL P qual pos (some c') ++ led0))) :
    W D A L (exec (.FunctionDef name params body [] none [] scope none name pos) env) Q vs led := fun s R0 => by
  have R := R0.sub (.cons hled)
  refine nestDef_K hd0 hk0 ha ?_
  rw [hq]
  have T := D.top
  have hgs := T.g.keeps R.keep
  obtain ⟨bm, ob, b1, b2, b3, b4, b5, b6⟩ := T.bmain
  have hPn : D.B.get? P = none := by cases st <;> exact R.fresh _ (.tail _ (.head _))
  have hgP : mainGlobals ≠ P := fun q => by
    obtain ⟨o, es, ep, e, hd, _⟩ := T.g
    rw [q, hPn] at e; cases e
  have hbP : bm ≠ P := fun q => by rw [q, hPn] at b3; cases b3
  have hbG : bm ≠ mainGlobals := fun q => by
    obtain ⟨o, es, ep, e, hd, _⟩ := T.g
    rw [q, e] at b3; cases b3; rw [hd] at b6; cases b6
  have hB : s.heap.BuiltinsAt D.mg P := ⟨bm, ob, b1, b2, hbG, hbP, R.keep _ _ b3, b4, b5, b6⟩
  have hcl : closureFor scope env = Pure.pure (closL ca scope.names []) := by
    unfold closureFor
    have := closureFor_eq (env := env) (ca := ca) scope.names [] hfree
    refine Eq.trans (congrArg (· >>= fun r => Pure.pure r) (Eq.trans ?_ this)) (by simp only [pure_bind])
    congr 1
  cases st with
  | none =>
    have hP : s.heap.get? P = some (tabObj #[]) := by obtain ⟨o, ho, rfl⟩ := R.own _ (.tail _ (.head _)); exact ho
    have nd := R.nodup
    simp only [TabL, List.cons_append, List.nil_append, List.map_cons, List.nodup_cons, List.mem_cons, not_or] at nd
    refine makeFunction_K (mg := D.mg) hcl Fd.gl hgs hcode (C.keeps R.keep) hP trivial rfl hgP hB fun c' ctv doc h' tk hx hge hlt hrec htb => ?_
    obtain ⟨c2, oc, vs2, t, e2, hoc, hd, hv⟩ := hrec
    cases e2
    have lt : ∀ p ∈ (L, Ob.ns vs) :: (TabL P qual pos none ++ led0), p.1 < s.heap.objs.size := fun p hp => R.lt hp
    have l1 := lt _ (.head _)
    have l2 := lt _ (.tail _ (.head _))
    have hf : s.heap.objs.size ≤ h'.objs.size := Nat.le_trans hge (Nat.le_of_lt hlt)
    refine h h'.objs.size c' ctv doc ((D.mg "__name__").getD .none) _ (R.redo (led' := (L, .ns vs) :: (h'.objs.size, .raw _) :: (P, .raw (tabObj #[rawInt pos.line, rawInt pos.col, .ref c'])) :: (c', codeOb qual) :: led0) [P] (fun b hb => ?_) (fun b o hb e => ?_) (fun p hp => ?_) (fun p hp => ?_) ?_)
    · rw [List.mem_singleton] at hb; subst hb; simp [TabL]
    · exact Heap.get?_push_of_some _ (hx b o (fun q => hb (by rw [q]; exact .head _)) e)
    · rcases List.mem_cons.mp hp with rfl | hp
      · obtain ⟨o, ho, k⟩ := R.own _ (.head _); exact ⟨o, Heap.get?_push_of_some _ (hx _ _ nd.1.1 ho), k⟩
      rcases List.mem_cons.mp hp with rfl | hp
      · exact ⟨_, Heap.get?_push_size _ rfl, rfl⟩
      rcases List.mem_cons.mp hp with rfl | hp
      · exact ⟨_, Heap.get?_push_of_some _ htb, rfl⟩
      rcases List.mem_cons.mp hp with rfl | hp
      · exact ⟨_, Heap.get?_push_of_some _ hoc, vs2, t, hd, hv⟩
      · obtain ⟨o, ho, k⟩ := R.own _ (.tail _ (.tail _ hp))
        exact ⟨o, Heap.get?_push_of_some _ (hx _ _ (fun q => nd.2.1 (List.mem_map.mpr ⟨_, hp, q⟩)) ho), k⟩
    · rcases List.mem_cons.mp hp with rfl | hp
      · exact .inl (by simp)
      rcases List.mem_cons.mp hp with rfl | hp
      · exact .inr hf
      rcases List.mem_cons.mp hp with rfl | hp
      · exact .inl (by simp [TabL])
      rcases List.mem_cons.mp hp with rfl | hp
      · exact .inr hge
      · exact .inl (List.mem_map_of_mem (.tail _ (.tail _ hp)))
    · have l4 : ∀ k, s.heap.objs.size ≤ k → k ∉ led0.map (·.1) := fun k hk hm => by
        obtain ⟨p, hp, e⟩ := List.mem_map.mp hm
        exact ltne (lt p (.tail _ (.tail _ hp))) hk e
      simp only [List.map_cons, List.nodup_cons, List.mem_cons, not_or]
      exact ⟨⟨ltne l1 hf, nd.1.1, ltne l1 hge, nd.1.2⟩, ⟨(ltne l2 hf).symm, (Nat.ne_of_lt hlt).symm, l4 _ hf⟩, ⟨ltne l2 hge, nd.2.1⟩, l4 _ hge, nd.2.2⟩
  | some c' =>
    have hP : s.heap.get? P = some (tabObj #[rawInt pos.line, rawInt pos.col, .ref c']) := by obtain ⟨o, ho, rfl⟩ := R.own _ (.tail _ (.head _)); exact ho
    refine makeFunction_hit (mg := D.mg) (cv := .ref c') hcl Fd.gl hgs hcode (C.keeps R.keep) hP trivial (by simp [codeAmong, rawInt]) hB fun ctv doc h' tk hk hsz => ?_
    have lt : ∀ p ∈ (L, Ob.ns vs) :: (TabL P qual pos (some c') ++ led0), p.1 < s.heap.objs.size := fun p hp => R.lt hp
    refine h h'.objs.size c' ctv doc ((D.mg "__name__").getD .none) _ (R.redo (led' := (L, .ns vs) :: (h'.objs.size, .raw _) :: (TabL P qual pos (some c') ++ led0)) [] (fun b hb => by cases hb) (fun b o hb e => Heap.get?_push_of_some _ (hk b o e)) (fun p hp => ?_) (fun p hp => ?_) ?_)
    · rcases List.mem_cons.mp hp with rfl | hp
      · obtain ⟨o, ho, k⟩ := R.own _ (.head _); exact ⟨o, Heap.get?_push_of_some _ (hk _ _ ho), k⟩
      rcases List.mem_cons.mp hp with rfl | hp
      · exact ⟨_, Heap.get?_push_size _ rfl, rfl⟩
      · obtain ⟨o, ho, k⟩ := R.own _ (.tail _ hp); exact ⟨o, Heap.get?_push_of_some _ (hk _ _ ho), k⟩
    · rcases List.mem_cons.mp hp with rfl | hp
      · exact .inl (by simp)
      rcases List.mem_cons.mp hp with rfl | hp
      · exact .inr hsz
      · exact .inl (List.mem_map_of_mem (.tail _ hp))
    · have nd := R.nodup
      rw [List.map_cons, List.nodup_cons] at nd
      rw [List.map_cons, List.map_cons, List.nodup_cons, List.nodup_cons, List.mem_cons, not_or]
      exact ⟨⟨ltne (lt _ (.head _)) hsz, nd.1⟩, fun hm => by
        obtain ⟨p, hp, e⟩ := List.mem_map.mp hm
        exact ltne (lt p (.tail _ hp)) hsz e, nd.2⟩
theorem W.DefStmt {name qual : Str} {params : Arguments} {body : List Stmt} {scope : Scope} {pos : Pos} {Q : Flow → Vars → Led → Prop} {st : Option Addr} {ls gs : List Str} {ca : Str → Addr} {led0 : Led} (Fd : Fn env L ls gs) (hcode : env.code = .ref c) (C : CodeHd D.B c P) (hq : qualnameIn env name name = qual)
    (hd0 : params.defaults = []) (hk0 : params.kw_defaults = []) (ha : annTrees params none env = []) (hfree : ∀ x ∈ scope.names, x.2 = .free → env.cells.lookup x.1 = some (ca x.1)) (hled : Sub (TabL P qual pos st ++ led0) led)
    (h : ∀ f c' ctv doc pm fo, fo = fnMade name qual params body scope (closL ca scope.names []) doc pm c' ctv → W D A L (storeName env name (.ref f)) (fun _ => Q .next) vs ((f, .raw fo) :: (TabL P qual pos (some c') ++ led0))) :
    W D A L (exec (.FunctionDef name params body [] none [] scope none name pos) env) Q vs led := W.DefStmt0 Fd hcode C hq hd0 hk0 ha hfree hled fun f c' ctv doc pm => h f c' ctv doc pm _ rfl
def fnOkO (scope : Scope) (ls gs fr : List Str) : Bool :=
  scope.kind == .function && !scope.isCoroutine && !scope.isGenerator && (scope.names.all fun x => x.2 != .cell) &&
  decide ls.Nodup && (ls.all fun x => scope.names.lookup x == some .local && !(x == ("__debug__" : Str))) &&
  (gs.all fun x => scope.names.lookup x == some .globalImplicit && !(x == ("__debug__" : Str))) &&
  (fr.all fun x => scope.names.lookup x == some .free && !(x == ("__debug__" : Str)) && !(x == ("__classdict__" : Str)))
theorem closL_lookup (ca : Str → Addr) : ∀ (names : List (Str × NameKind)) (acc : List (Str × Addr)) (x : Str), (acc.lookup x = some (ca x) ∨ (names.lookup x = some .free)) → (closL ca names acc).lookup x = some (ca x)
  | [], acc, x, h => by
    rcases h with h | h
    · exact h
    · cases h
  | (n, k) :: r, acc, x, h => by
    unfold closL
    refine closL_lookup ca r _ x ?_
    rcases h with h | h
    · left
      split
      · rw [List.lookup_cons]
        cases q : x == n with
        | true => rw [beq_iff_eq.mp q]
        | false => exact h
      · exact h
    · rw [List.lookup_cons] at h
      cases q : x == n with
      | true =>
        rw [q] at h
        cases h
        left
        show List.lookup x ((n, ca n) :: acc) = _
        rw [List.lookup_cons, q, beq_iff_eq.mp q]
      | false => rw [q] at h; exact .inr h
theorem Cl.defO0 {Q : Value → Led → Prop} {name qual : Str} {params : Arguments} {body : List Stmt} {scope : Scope} {ca : Str → Addr} {doc pm ctv : Value} {c' : Addr} {ls gs fr : List Str} {n : Nat} {vs : Vars} {binds : List (Str × Value)} {args : List Value} (hroom : Room A (n + 1))
    (hm : (f, .raw (fnMade name qual params body scope (closL ca scope.names []) doc pm c' ctv)) ∈ led) (hc : (c', codeOb qual) ∈ led) (hok : fnOkO scope ls gs fr = true)
    (hb : ∀ cl doc pm c' ctv, bindArgs (fnX name qual params body scope cl .none .none doc pm none (.ref c') ctv) ⟨args, []⟩ = Pure.pure binds) (hbo : bindsOk (fnX name qual params body scope [] .none .none .none .none none .none .none) ls (binds.map (·.1)) = true) (hvs : varsOf ls binds = vs)
    (h : ∀ env L A', Fn env L ls gs → (∀ x ∈ fr, CellVar env x (ca x)) → Room A' n → W D A' L (execs body env) (Fin Q) vs led) : Cl D A (.ref f) args [] Q led := by
  intro s R
  subst hvs
  simp only [fnOkO, Bool.and_eq_true, List.all_eq_true, Bool.not_eq_true', beq_iff_eq, decide_eq_true_eq] at hok
  obtain ⟨⟨⟨⟨⟨⟨⟨h1, h2⟩, h3⟩, h6⟩, hnd⟩, h7⟩, h8⟩, h9⟩ := hok
  simp only [bindsOk, Bool.and_eq_true, List.all_eq_true, decide_eq_true_eq, beq_iff_eq, List.contains_iff_mem] at hbo
  obtain ⟨o, ho, rfl⟩ := R.own _ hm
  obtain ⟨oc, hoc, vs2, t, hd, hv⟩ := R.own _ hc
  have hcd : s.heap.CodeRec (.ref c') qual := ⟨c', oc, vs2, t, rfl, hoc, hd, hv⟩
  refine codeAny_call_def hroom.depth ho rfl R.nolimit hcd rfl (BindsTo.of_eq (hb _ _ _ _ _)) (fun x hx => by simpa using h6 x hx) (fun x hx => (hbo.2 _ (List.mem_map_of_mem hx)).2) (fun h₀ hns hkeep => ?_) h2 h3 h1
  generalize hEnv : callEnv (fnX name qual params body scope (closL ca scope.names []) .none .none doc pm none (.ref c') ctv) s.heap.objs.size f = env at *
  have eS : env.scope = scope := by rw [← hEnv]; rfl
  have eK : ∀ x, env.kindOf x = scope.names.lookup x := fun x => by rw [← hEnv]; rfl
  have Fd : Fn env s.heap.objs.size ls gs := ⟨by rw [eS]; exact h1, by rw [← hEnv]; rfl, by rw [← hEnv]; rfl, by rw [← hEnv]; rfl, fun x hx => by
      have := h7 x hx; exact ⟨by rw [eK]; exact this.1, by simpa using this.2⟩, fun x hx => by have := h8 x hx; exact ⟨by rw [eK]; exact this.1, by simpa using this.2⟩⟩
  have R' := R.addFrame (tk := s.toks + binds.length) (L := s.heap.objs.size) (vs := varsOf ls binds) rfl (frame_ns (by unfold varsOf; rw [List.map_map]; show (ls.map id).Nodup; rw [List.map_id]; exact hnd) hns (varsOf_ok hbo.1 fun p hp => (hbo.2 _ (List.mem_map_of_mem hp)).1)) hkeep
  refine wpAny_mono (h env _ _ Fd (fun x hx => ⟨by rw [eS]; exact h1, .inr ⟨by rw [eK]; exact (h9 x hx).1.1, by simpa using (h9 x hx).2⟩, ?_, by simpa using (h9 x hx).1.2⟩) hroom.deeper _ R') (fun fl s' ⟨vs', led', R'', q⟩ => ?_) fun _ _ x => x.elim
  · rw [← hEnv]
    exact closL_lookup ca _ _ x (.inr (h9 x hx).1.1)
  · obtain ⟨l2, hs, hq⟩ := q
    exact ⟨_, l2, rfl, R''.sub (hs.skip), hq⟩
theorem Cl.defO {Q : Value → Led → Prop} {name qual : Str} {params : Arguments} {body : List Stmt} {scope : Scope} {ca : Str → Addr} {doc pm ctv : Value} {c' : Addr} {fo : Obj} {ls gs fr : List Str} {n : Nat} {vs : Vars} {binds : List (Str × Value)} {args : List Value} (hfo : fo = fnMade name qual params body scope (closL ca scope.names []) doc pm c' ctv) (hroom : Room A (n + 1))
    (hm : (f, .raw fo) ∈ led) (hc : (c', codeOb qual) ∈ led) (hok : fnOkO scope ls gs fr = true)
    (hb : ∀ cl doc pm c' ctv, bindArgs (fnX name qual params body scope cl .none .none doc pm none (.ref c') ctv) ⟨args, []⟩ = Pure.pure binds) (hbo : bindsOk (fnX name qual params body scope [] .none .none .none .none none .none .none) ls (binds.map (·.1)) = true) (hvs : varsOf ls binds = vs)
    (h : ∀ env L A', Fn env L ls gs → (∀ x ∈ fr, CellVar env x (ca x)) → Room A' n → W D A' L (execs body env) (Fin Q) vs led) : Cl D A (.ref f) args [] Q led := by
  subst hfo
  exact Cl.defO0 hroom hm hc hok hb hbo hvs h
end
end Mine
end
section
open PySem PySem.W PySem.Calls PyProof.Rows
set_option maxRecDepth 100000
set_option autoImplicit false
set_option linter.unusedVariables false
namespace Mine
section
variable {D : Wd} {A : Around} {L : Addr} {vs : Vars} {led led' : Led} {env : Env} {a sl : Addr} {as : List AV} {s : Shared}
theorem W.truthy_intD {i : Int} {t : Tok} {Q : Bool → Vars → Led → Prop} (h : Q (decide (i ≠ 0)) vs led) : W D A L (truthy (.int i t)) Q vs led := W.truthy_int (by
  have : (i != 0) = decide (i ≠ 0) := by by_cases q : i = 0 <;> simp [q]
  rw [this]; exact h)
theorem W.callOwn0 {pos : Pos} {f : Addr} {fo : Obj} {fd : FuncData} {Q : Value → Vars → Led → Prop} (hm : (f, .raw fo) ∈ led) (hfo : fo = { cls := .type "function", data := .func fd }) (h : W D A L (PySem.call (.ref f) []) Q vs led) :
    W D A L (PySem.callWith pos (.ref f) [] (backTo pos (starEach [] env)) (backToKw pos (keywordEach [] env))) Q vs led := fun s R => by
  subst hfo
  obtain ⟨o, ho, rfl⟩ := R.own _ (.tail _ hm)
  exact callWith_F0 ⟨_, _, _, _, ho⟩ (h s R)
theorem W.assign_three {x y z : Str} {px py pz pos : Pos} {k n : Nat} {p q r : AV} {b : Addr} {Q : Unit → Vars → Led → Prop} (hr : Room A n) (hm : (b, .tup [p, q, r]) ∈ led) (h : Stores D A L env Q [x, y, z] [p, q, r] vs led) : W D A L (assign (.Tuple [.Name x px, .Name y py, .Name z pz] k pos) env (.ref b)) Q vs led :=
  W.assign_tup (ns := [x, y, z]) hr rfl rfl hm rfl rfl h
theorem W.BoolOp_or {x y : Expr} {pos : Pos} {Q : Value → Vars → Led → Prop} (h : W D A L (eval x env) (fun v vs led => W D A L (truthy v) (fun b vs led => (b = true → Q v vs led) ∧ (b = false → W D A L (eval y env) Q vs led)) vs led) vs led) : W D A L (eval (.BoolOp .Or [x, y] pos) env) Q vs led := by
  rw [arm_eval_BoolOp]
  show W D A L (boolOp pos .Or [eval x env, eval y env]) Q vs led
  unfold boolOp
  refine W.bind (W.mono h fun v vs led q => W.bind (W.standAt (W.bind (W.holding (W.mono q fun b vs led q => ?_)))))
  cases b with
  | true => exact W.pure (q.1 rfl)
  | false =>
    show W D A L (boolOp pos .Or [eval y env]) Q vs led
    unfold boolOp
    exact q.2 rfl
def IntDue (Q : Value → Vars → Led → Prop) (v : Value) (vs : Vars) (led : Led) : Prop := ∃ i t, v = .int i t ∧ ∀ t, Q (.int i t) vs led
theorem IntDue.intro {i : Int} {t : Tok} {Q : Value → Vars → Led → Prop} (h : ∀ t, Q (.int i t) vs led) : IntDue Q (.int i t) vs led := ⟨i, t, rfl, h⟩
theorem W.or_zero {x : Expr} {k : Nat} {p pos : Pos} {Q : Value → Vars → Led → Prop} (h : W D A L (eval x env) (IntDue Q) vs led) : W D A L (eval (.BoolOp .Or [x, .Constant (.int 0) k p] pos) env) Q vs led := by
  refine W.BoolOp_or (W.mono h fun v vs led ⟨i, t, hv, q⟩ => ?_)
  subst hv
  refine W.truthy_intD ⟨fun _ => q t, fun e => ?_⟩
  have : i = 0 := by simpa using e
  subst this
  exact W.Constant_int q
theorem all_selected {xs : List Value} {sel : Nat → Bool} (h : ∀ k, k < xs.length → sel k = true) : (xs.zipIdx.filterMap fun (p : Value × Nat) => if sel p.2 = true then none else some p.1) = [] := by
  rw [List.filterMap_eq_nil_iff]
  intro p hp
  rw [if_pos (h _ (by simpa using List.snd_lt_of_mem_zipIdx hp))]
theorem W.del_all {Q : Unit → Vars → Led → Prop} (hu : Up a (.list as) (.list []) led led') (hz : as.length ≤ 1000000) (h : Q () vs led') : W D A L (delItem (.ref a) (.ref sl)) Q vs ((sl, .raw (slObj .none .none)) :: led) := fun s R => by
  obtain ⟨vals, n, hi, hl⟩ := R.listAt (.tail _ (.tail _ hu.mem))
  have hlen := hi.length
  obtain ⟨os, hos, rfl⟩ := R.own _ (.tail _ (.head _))
  have hTs : s.TypeIs (.ref sl) "slice" := ⟨_, hos, rfl⟩
  have hT : s.TypeIs (.ref a) "list" := ⟨_, hl, rfl⟩
  refine wpAny_delItem_slot hT (by decide) F.slot_list_delitem (wpAny_call_entry F.slot_list_delitem hT F.entry_list_delitem ?_ (F.args_list_delitem_2 _ _))
  show wpAny _ _ (Builtin.List.listSubscript? (.ref sl) >>= _) _ _ s
  refine wpAny_bind ?_
  unfold Builtin.List.listSubscript?
  refine wpAny_bind (wpAny_specialOf hTs slice_no_index ?_)
  simp only [Option.isNone_none, if_true]
  refine wpAny_pure ?_
  show wpAny _ _ (typeOf (.ref sl) >>= _) _ _ s
  refine wpAny_bind (wpAny_typeOf hTs ?_)
  rw [if_neg (by decide)]
  rw [listSliceParts_eq]
  refine wpAny_bind (wpAny_bind (wpAny_field hos rfl (x := .none) rfl (wpAny_bind (wpAny_listPart .none ?_))))
  rw [if_neg (by decide)]
  refine wpAny_bind (wpAny_field hos rfl (x := .none) rfl (wpAny_bind (wpAny_listPart .none ?_)))
  refine wpAny_bind (wpAny_field hos rfl (x := .none) rfl (wpAny_bind (wpAny_listPart .none (wpAny_pure ?_))))
  refine wpAny_bind (m := Builtin.List.listItems (.ref a)) ?_
  unfold Builtin.List.listItems
  refine wpAny_bind (wpAny_seqItems hl rfl (wpAny_pure ?_))
  refine wpAny_bind (wpAny_of_eq (sliceIndices_raw none none none vals.toArray.size (by simp)) ?_)
  refine wpAny_bind (wpAny_rule ?_)
  refine wpAny_bind (m := updateSeq a _) (wpAny_updateSeq hl rfl ?_ (by rw [List.size_toArray, sizeLine_eq]; omega) ?_)
  · refine wpAny_bind (wpAny_letGo (wpAny_pure ⟨_, rfl, vs, led', ?_, h⟩))
    refine (R.sub (.cons (.skip (.refl _)))).upSeq (tk := s.toks) hu hl ?_
    refine (?_ : AllIs [] _)
    rw [List.toList_toArray, all_selected]
    · exact .nil
    · intro k hk
      show (if (1 : Int) > 0 then decide ((0 : Int) ≤ (k : Int)) && decide ((k : Int) < (vals.toArray.size : Int)) && (((k : Int) - 0) % 1 == 0) else _) = true
      rw [if_pos (by decide)]
      simp at hk ⊢
      omega
  · rw [List.size_toArray, sizeLine_eq]
    have := List.length_filterMap_le (fun (x : Value × Nat) => (none : Option Value)) vals.toArray.toList.zipIdx
    refine Nat.le_trans (List.length_filterMap_le _ _) ?_
    simp
    omega
end
end Mine
end
section
set_option autoImplicit false
set_option linter.unusedVariables false
namespace Mine
/- the pure side: texts laid into lines -/
abbrev T := List Nat
def okc (c : Nat) : Prop := c = 8 ∨ c = 10 ∨ (32 ≤ c ∧ c < 127)
def Tx (x : T) : Prop := ∀ c ∈ x, okc c
def lnc (c : Nat) : Prop := c = 8 ∨ (32 ≤ c ∧ c < 127)
def Ln (x : T) : Prop := ∀ c ∈ x, lnc c
theorem Ln.tx {x : T} (h : Ln x) : Tx x := fun c hc => by have := h c hc; unfold lnc at this; unfold okc; omega
theorem Tx.esc {x : T} (h : Tx x) : 27 ∉ x := fun m => by have := h _ m; unfold okc at this; omega
theorem Tx.ascii {x : T} (h : Tx x) : ∀ c ∈ x, c < 128 := fun c m => by have := h _ m; unfold okc at this; omega
theorem Tx.tab {x : T} (h : Tx x) : 9 ∉ x := fun m => by have := h _ m; unfold okc at this; omega
theorem Tx.app {x y : T} (h : Tx x) (k : Tx y) : Tx (x ++ y) := fun c hc => (List.mem_append.mp hc).elim (h c) (k c)
theorem Ln.app {x y : T} (h : Ln x) (k : Ln y) : Ln (x ++ y) := fun c hc => (List.mem_append.mp hc).elim (h c) (k c)
theorem Ln.sub {x y : T} (h : Ln x) (s : ∀ c ∈ y, c ∈ x) : Ln y := fun c hc => h c (s c hc)
theorem Ln.nil : Ln [] := fun _ h => by cases h
theorem Ln.blanks {n : Nat} : Ln (List.replicate n 32) := fun c hc => by rw [List.mem_replicate] at hc; unfold lnc; omega
def asciiSpace : Bool := (List.range 128).all fun c => PySem.Unicode.isSpace c == ((9 ≤ c && c ≤ 13) || (28 ≤ c && c ≤ 32))
theorem asciiSpace_ok : asciiSpace = true := by decide +kernel
def asciiBreak : Bool := (List.range 128).all fun c => PySem.Unicode.isLineBreak c == ((10 ≤ c && c ≤ 13) || (28 ≤ c && c ≤ 30))
theorem asciiBreak_ok : asciiBreak = true := by decide +kernel
theorem space_of {c : Nat} (h : okc c) : PySem.Unicode.isSpace c = (decide (c = 32) || decide (c = 10)) := by
  have := List.all_eq_true.mp asciiSpace_ok c (List.mem_range.mpr (by unfold okc at h; omega))
  rw [eq_of_beq this, Bool.eq_iff_iff]
  unfold okc at h
  simp
  omega
theorem break_of {c : Nat} (h : okc c) : PySem.Unicode.isLineBreak c = decide (c = 10) := by
  have := List.all_eq_true.mp asciiBreak_ok c (List.mem_range.mpr (by unfold okc at h; omega))
  rw [eq_of_beq this, Bool.eq_iff_iff]
  unfold okc at h
  simp
  omega
theorem space_ln {c : Nat} (h : lnc c) : PySem.Unicode.isSpace c = decide (c = 32) := by
  rw [space_of (by unfold lnc at h; unfold okc; omega), Bool.eq_iff_iff]
  unfold lnc at h
  simp
  omega

/- stripping -/
theorem dropWhile_congr {p q : Nat → Bool} : ∀ {x : T}, (∀ c ∈ x, p c = q c) → x.dropWhile p = x.dropWhile q
  | [], _ => rfl
  | c :: r, h => by
    rw [List.dropWhile_cons, List.dropWhile_cons, h c (.head _), dropWhile_congr fun d hd => h d (.tail _ hd)]
theorem mem_dropWhile {p : Nat → Bool} {c : Nat} : ∀ {x : T}, c ∈ x.dropWhile p → c ∈ x
  | [], h => h
  | d :: r, h => by
    rw [List.dropWhile_cons] at h
    split at h
    · exact .tail _ (mem_dropWhile h)
    · exact h
theorem stripL_congr {p q : Nat → Bool} {l r : Bool} {x : T} (h : ∀ c ∈ x, p c = q c) : stripL p l r x = stripL q l r x := by
  unfold stripL
  cases l <;> cases r <;> simp only [if_true, if_false, Bool.false_eq_true]
  · rw [dropWhile_congr fun c hc => h c (List.mem_reverse.mp hc)]
  · rw [dropWhile_congr h]
  · rw [dropWhile_congr h, dropWhile_congr fun c hc => h c (mem_dropWhile (List.mem_reverse.mp hc))]
def rstrip (x : T) : T := stripL (fun c => [32].contains c) false true x
def lstrip (x : T) : T := stripL (fun c => [32].contains c) true false x
def blank (x : T) : Bool := x.all (· == 32)
theorem dropWhile_nil_iff {p : Nat → Bool} : ∀ {x : T}, x.dropWhile p = [] ↔ x.all p = true
  | [] => by simp
  | c :: r => by
    rw [List.dropWhile_cons, List.all_cons]
    cases h : p c
    · simp
    · simp only [if_true, Bool.true_and]; exact dropWhile_nil_iff
theorem dropWhile_head {p : Nat → Bool} : ∀ {x : T} {c : Nat} {r : T}, x.dropWhile p = c :: r → p c = false
  | [], _, _, h => by cases h
  | d :: r, _, _, h => by
    rw [List.dropWhile_cons] at h
    cases q : p d
    · rw [q] at h; simp at h; rw [← h.1]; exact q
    · rw [q] at h; exact dropWhile_head h
theorem strip_nil {x : T} (h : Ln x) : (stripL PySem.Unicode.isSpace true true x = []) ↔ blank x = true := by
  rw [stripL_congr (q := (· == 32)) fun c hc => by rw [space_ln (h c hc)]; by_cases q : c = 32 <;> simp [q]]
  unfold stripL blank
  simp only [if_true, List.reverse_eq_nil_iff]
  rw [dropWhile_nil_iff, List.all_reverse]
  constructor
  · intro h2
    cases q : x.dropWhile (· == 32) with
    | nil => exact dropWhile_nil_iff.mp q
    | cons c r =>
      have h3 := dropWhile_head q
      rw [q] at h2
      rw [List.all_cons, h3] at h2
      cases h2
  · intro h2
    rw [dropWhile_nil_iff.mpr h2]; rfl

/- pieces -/
def Hom (b : Bool) (p : T) : Prop := p ≠ [] ∧ ∀ c ∈ p, decide (c = 32) = b
def AltB : Bool → List T → Prop
  | _, [] => True
  | b, p :: r => Hom b p ∧ AltB (!b) r
def mu (parts : List T) : Nat := (parts.map (·.length)).sum + parts.length
theorem mu_cons (p : T) (r : List T) : mu (p :: r) = p.length + 1 + mu r := by
  unfold mu; simp only [List.map_cons, List.sum_cons, List.length_cons]; omega

/- one line -/
def dropB (lines parts : List T) : List T := match parts with
  | [] => []
  | p :: r => if lines ≠ [] ∧ blank p = true then r else p :: r
def fill (room : Int) (line : T) : List T → T × List T
  | [] => (line, [])
  | p :: r => if (line.length : Int) + (p.length : Int) ≤ room then fill room (line ++ p) r else (line, p :: r)
def cutOf (room : Int) (line : T) : Nat := (max 1 (room - (line.length : Int))).toNat
def cutL (room : Int) (line : T) : List T → T × List T
  | [] => (line, [])
  | p :: r => if (p.length : Int) > room then (line ++ p.take (cutOf room line), p.drop (cutOf room line) :: r) else (line, p :: r)
def markOf (first rest : T) (lines : List T) : T := if lines ≠ [] then rest else first
def stepL (width : Int) (first rest : T) (lines parts : List T) : List T × List T :=
  let mark := markOf first rest lines
  let room := width - (mark.length : Int)
  let f := fill room [] (dropB lines parts)
  let c := cutL room f.1 f.2
  let l := rstrip c.1
  (if l ≠ [] then lines ++ [mark ++ l] else lines, c.2)
def laidN (width : Int) (first rest : T) : Nat → List T → List T → List T
  | 0, lines, _ => lines
  | _ + 1, lines, [] => lines
  | n + 1, lines, p :: r => laidN width first rest n (stepL width first rest lines (p :: r)).1 (stepL width first rest lines (p :: r)).2

/-- the state between lines -/
def LSt (lines parts : List T) : Prop := (lines = [] → AltB false parts) ∧ (∃ b, AltB b parts ∨ ∃ r, parts = [] :: r ∧ AltB b r)

theorem fill_mu (room : Int) : ∀ (parts : List T) (line : T), mu (fill room line parts).2 ≤ mu parts
  | [], line => Nat.le_refl _
  | p :: r, line => by
    unfold fill
    split
    · have := fill_mu room r (line ++ p); rw [mu_cons]; omega
    · exact Nat.le_refl _
theorem fill_alt (room : Int) : ∀ (parts : List T) (line : T) (b : Bool), AltB b parts → ∃ b', AltB b' (fill room line parts).2
  | [], line, b, h => ⟨b, h⟩
  | p :: r, line, b, h => by
    unfold fill
    split
    · exact fill_alt room r (line ++ p) (!b) h.2
    · exact ⟨b, h⟩
theorem fill_pre (room : Int) : ∀ (parts : List T) (line : T), ∃ y, (fill room line parts).1 = line ++ y
  | [], line => ⟨[], by simp [fill]⟩
  | p :: r, line => by
    unfold fill
    split
    · obtain ⟨y, h⟩ := fill_pre room r (line ++ p); exact ⟨p ++ y, by rw [h, List.append_assoc]⟩
    · exact ⟨[], by simp⟩
theorem fill_len (room : Int) : ∀ (parts : List T) (line : T), (fill room line parts).1.length + mu (fill room line parts).2 ≤ line.length + mu parts
  | [], line => by simp [fill]
  | p :: r, line => by
    unfold fill
    split
    · have := fill_len room r (line ++ p)
      rw [List.length_append] at this
      rw [mu_cons]; omega
    · exact Nat.le_refl _
theorem cutOf_pos (room : Int) (line : T) : 1 ≤ cutOf room line := by unfold cutOf; omega
theorem cutL_mu (room : Int) (line : T) (parts : List T) : mu (cutL room line parts).2 ≤ mu parts := by
  cases parts with
  | nil => exact Nat.le_refl _
  | cons p r =>
    unfold cutL
    dsimp only
    split
    · rw [mu_cons, mu_cons, List.length_drop]; omega
    · exact Nat.le_refl _
theorem cutL_len (room : Int) (line : T) (parts : List T) : (cutL room line parts).1.length + mu (cutL room line parts).2 ≤ line.length + mu parts := by
  cases parts with
  | nil => exact Nat.le_refl _
  | cons p r =>
    unfold cutL
    dsimp only
    split
    · rw [mu_cons, mu_cons, List.length_drop, List.length_append, List.length_take]; omega
    · exact Nat.le_refl _
theorem Hom.drop {b : Bool} {p : T} (h : Hom b p) {n : Nat} (hn : p.drop n ≠ []) : Hom b (p.drop n) := ⟨hn, fun c hc => h.2 c (List.mem_of_mem_drop hc)⟩
theorem rstrip_ne {x : T} {c : Nat} (hc : c ∈ x) (h : c ≠ 32) : rstrip x ≠ [] := by
  unfold rstrip stripL
  simp only [Bool.false_eq_true, if_false, if_true]
  intro e
  rw [List.reverse_eq_nil_iff, dropWhile_nil_iff, List.all_reverse, List.all_eq_true] at e
  have := e c hc
  simp at this
  exact h this
theorem rstrip_len (x : T) : (rstrip x).length ≤ x.length := by
  unfold rstrip stripL
  simp only [Bool.false_eq_true, if_false, if_true, List.length_reverse]
  have := (List.dropWhile_sublist (fun c => [32].contains c) (l := x.reverse)).length_le
  rwa [List.length_reverse] at this

theorem cut_state {room : Int} {line : T} {parts : List T} {b : Bool} (h : AltB b parts) : ∃ b, AltB b (cutL room line parts).2 ∨ ∃ r, (cutL room line parts).2 = [] :: r ∧ AltB b r := by
  cases parts with
  | nil => exact ⟨b, .inl h⟩
  | cons p r =>
    unfold cutL
    dsimp only
    split
    · by_cases q : p.drop (cutOf room line) = []
      · exact ⟨!b, .inr ⟨r, by rw [q], h.2⟩⟩
      · exact ⟨b, .inl ⟨h.1.drop q, h.2⟩⟩
    · exact ⟨b, .inl h⟩
theorem LSt.dropB {lines : List T} {p : T} {r : List T} (h : LSt lines (p :: r)) : ∃ b, AltB b (dropB lines (p :: r)) ∧ (Mine.dropB lines (p :: r) = r ∨ Mine.dropB lines (p :: r) = p :: r ∧ p ≠ []) := by
  unfold Mine.dropB
  dsimp only
  by_cases q : lines ≠ [] ∧ blank p = true
  · rw [if_pos q]
    obtain ⟨b, h1 | ⟨r', e, h1⟩⟩ := h.2
    · exact ⟨!b, h1.2, .inl rfl⟩
    · cases e; exact ⟨b, h1, .inl rfl⟩
  · rw [if_neg q]
    obtain ⟨b, h1 | ⟨r', e, h1⟩⟩ := h.2
    · exact ⟨b, h1, .inr ⟨rfl, h1.1.1⟩⟩
    · cases e
      exfalso
      by_cases ql : lines = []
      · have := h.1 ql; exact this.1.1 rfl
      · exact q ⟨ql, rfl⟩
theorem step_state {width : Int} {first rest : T} {lines : List T} {p : T} {r : List T} (h : LSt lines (p :: r)) :
    LSt (stepL width first rest lines (p :: r)).1 (stepL width first rest lines (p :: r)).2 ∧ mu (stepL width first rest lines (p :: r)).2 < mu (p :: r) ∧ (stepL width first rest lines (p :: r)).1 ≠ [] := by
  obtain ⟨b, hb, hd⟩ := h.dropB
  unfold stepL
  dsimp only
  generalize hroom : width - ((markOf first rest lines).length : Int) = room
  obtain ⟨b2, hb2⟩ := fill_alt room _ [] b hb
  have hmu : mu (cutL room (fill room [] (Mine.dropB lines (p :: r))).1 (fill room [] (Mine.dropB lines (p :: r))).2).2 < mu (p :: r) := by
    have a1 := cutL_mu room (fill room [] (Mine.dropB lines (p :: r))).1 (fill room [] (Mine.dropB lines (p :: r))).2
    have a2 := fill_mu room (Mine.dropB lines (p :: r)) []
    rcases hd with e | ⟨e, hp⟩
    · rw [e] at a1 a2 ⊢
      rw [mu_cons]; omega
    · rw [e] at a1 a2 ⊢
      have hl : 0 < p.length := List.length_pos_iff.mpr hp
      unfold fill at a1 a2 ⊢
      simp only [List.length_nil, Int.natCast_zero, Int.zero_add, List.nil_append] at a1 a2 ⊢
      by_cases q : (p.length : Int) ≤ room
      · rw [if_pos q] at a1 a2 ⊢
        have a3 := fill_mu room r p
        rw [mu_cons]; omega
      · rw [if_neg q]
        unfold cutL
        dsimp only
        rw [if_pos (by omega), mu_cons, mu_cons, List.length_drop]
        have := cutOf_pos room []
        omega
  have hne : (if rstrip (cutL room (fill room [] (Mine.dropB lines (p :: r))).1 (fill room [] (Mine.dropB lines (p :: r))).2).1 ≠ [] then lines ++ [markOf first rest lines ++ rstrip (cutL room (fill room [] (Mine.dropB lines (p :: r))).1 (fill room [] (Mine.dropB lines (p :: r))).2).1] else lines) ≠ [] := by
    by_cases ql : lines = []
    · have ha := h.1 ql
      have e : Mine.dropB lines (p :: r) = p :: r := by unfold Mine.dropB; dsimp only; rw [if_neg (fun q => q.1 ql)]
      rw [e]
      obtain ⟨c, p', hp⟩ := List.exists_cons_of_ne_nil ha.1.1
      have hc : c ≠ 32 := by have := ha.1.2 c (by rw [hp]; exact .head _); simpa using this
      have hmem : c ∈ (cutL room (fill room [] (p :: r)).1 (fill room [] (p :: r)).2).1 := by
        unfold fill
        simp only [List.length_nil, Int.natCast_zero, Int.zero_add, List.nil_append]
        by_cases q : (p.length : Int) ≤ room
        · rw [if_pos q]
          obtain ⟨y, hy⟩ := fill_pre room r p
          have : c ∈ (fill room p r).1 := by rw [hy, hp]; exact .head _
          unfold cutL
          split
          · exact this
          · split
            · exact List.mem_append_left _ this
            · exact this
        · rw [if_neg q]
          unfold cutL
          dsimp only
          rw [if_pos (by omega), List.nil_append, hp]
          have := cutOf_pos room []
          obtain ⟨n, hn⟩ : ∃ n, cutOf room [] = n + 1 := ⟨cutOf room [] - 1, by omega⟩
          rw [hn, List.take_succ_cons]
          exact .head _
      rw [if_pos (rstrip_ne hmem hc)]
      simp
    · split
      · simp
      · exact ql
  exact ⟨⟨fun e => absurd e hne, cut_state hb2⟩, hmu, hne⟩
theorem step_len {width : Int} {first rest : T} {lines : List T} {parts : List T} {B M : Nat} (h : ∀ l ∈ lines, l.length ≤ M + B) (hf : first.length ≤ M) (hr : rest.length ≤ M) (hB : mu parts ≤ B) :
    (∀ l ∈ (stepL width first rest lines parts).1, l.length ≤ M + B) ∧ (stepL width first rest lines parts).1.length ≤ lines.length + 1 := by
  unfold stepL
  dsimp only
  split
  · refine ⟨fun l hl => ?_, by simp⟩
    rcases List.mem_append.mp hl with hl | hl
    · exact h l hl
    · rw [List.mem_singleton] at hl
      subst hl
      rw [List.length_append]
      have a1 : (markOf first rest lines).length ≤ M := by unfold markOf; split <;> assumption
      generalize width - ((markOf first rest lines).length : Int) = room
      have a2 := rstrip_len (cutL room (fill room [] (dropB lines parts)).1 (fill room [] (dropB lines parts)).2).1
      have a3 := cutL_len room (fill room [] (dropB lines parts)).1 (fill room [] (dropB lines parts)).2
      have a4 := fill_len room (dropB lines parts) []
      have a5 : mu (dropB lines parts) ≤ mu parts := by
        unfold dropB
        split
        · exact Nat.le_refl _
        · split
          · rw [mu_cons]; omega
          · exact Nat.le_refl _
      simp only [List.length_nil] at a4
      omega
  · exact ⟨h, by omega⟩
end Mine
end
section
set_option autoImplicit false
set_option linter.unusedVariables false
namespace Mine
/-- runs of blanks and of other signs -/
def pgo (pre : List T) (cur : T) (b : Bool) : T → List T
  | [] => pre ++ [cur]
  | c :: r => if decide (c = 32) = b then pgo pre (cur ++ [c]) b r else pgo (pre ++ [cur]) [c] (decide (c = 32)) r
def partsL : T → List T
  | [] => []
  | c :: r => pgo [] [c] (decide (c = 32)) r
theorem pgo_eq : ∀ (r : T) (pre : List T) (cur : T) (b : Bool), Hom b cur → ∃ q, pgo pre cur b r = pre ++ q ∧ AltB b q ∧ q.flatten = cur ++ r ∧ mu q ≤ cur.length + 1 + 2 * r.length
  | [], pre, cur, b, h => ⟨[cur], rfl, ⟨h, trivial⟩, by simp, by simp [mu]⟩
  | c :: r, pre, cur, b, h => by
    unfold pgo
    by_cases q : decide (c = 32) = b
    · rw [if_pos q]
      obtain ⟨z, h1, h2, h3, h4⟩ := pgo_eq r pre (cur ++ [c]) b ⟨by simp, fun d hd => by
        rcases List.mem_append.mp hd with hd | hd
        · exact h.2 d hd
        · rw [List.mem_singleton] at hd; subst hd; exact q⟩
      exact ⟨z, h1, h2, by rw [h3]; simp, by simp at h4 ⊢; omega⟩
    · rw [if_neg q]
      obtain ⟨z, h1, h2, h3, h4⟩ := pgo_eq r (pre ++ [cur]) [c] (decide (c = 32)) ⟨by simp, fun d hd => by rw [List.mem_singleton] at hd; subst hd; rfl⟩
      refine ⟨cur :: z, by rw [h1]; simp, ⟨h, ?_⟩, by rw [List.flatten_cons, h3]; simp, by rw [mu_cons]; simp at h4 ⊢; omega⟩
      have : (!b) = decide (c = 32) := by cases b <;> cases hc : decide (c = 32) <;> simp_all
      rw [this]; exact h2
theorem parts_facts (c : Nat) (r : T) : AltB (decide (c = 32)) (partsL (c :: r)) ∧ (partsL (c :: r)).flatten = c :: r ∧ mu (partsL (c :: r)) ≤ 2 * (c :: r).length := by
  obtain ⟨z, h1, h2, h3, h4⟩ := pgo_eq r [] [c] (decide (c = 32)) ⟨by simp, fun d hd => by rw [List.mem_singleton] at hd; subst hd; rfl⟩
  have e : partsL (c :: r) = z := by show pgo [] [c] (decide (c = 32)) r = z; rw [h1]; rfl
  rw [e]
  exact ⟨h2, h3, by simp at h4 ⊢; omega⟩
theorem parts_mu (x : T) : mu (partsL x) ≤ 2 * x.length := by
  cases x with
  | nil => simp [partsL, mu]
  | cons c r => exact (parts_facts c r).2.2
theorem parts_flat (x : T) : (partsL x).flatten = x := by
  cases x with
  | nil => rfl
  | cons c r => exact (parts_facts c r).2.1
/-- begins with a sign that is no blank, or is empty -/
def Firm (x : T) : Prop := ∀ c r, x = c :: r → c ≠ 32
theorem parts_state {x : T} (h : Firm x) : LSt [] (partsL x) := by
  cases x with
  | nil => exact ⟨fun _ => trivial, false, .inl trivial⟩
  | cons c r =>
    have := (parts_facts c r).1
    rw [decide_eq_false (h c r rfl)] at this
    exact ⟨fun _ => this, false, .inl this⟩
theorem parts_mem {x p : T} (h : p ∈ partsL x) : ∀ c ∈ p, c ∈ x := fun c hc => by
  have := parts_flat x
  rw [← this]
  exact List.mem_flatten.mpr ⟨p, h, hc⟩

def laidL (width : Int) (first rest x : T) : List T := laidN width first rest (mu (partsL x)) [] (partsL x)

/- the other road: pieces kept apart until the line is closed -/
def fillC (room : Int) (cur : List T) : List T → List T × List T
  | [] => (cur, [])
  | p :: r => if ((cur.flatten.length : Nat) : Int) + (p.length : Int) ≤ room then fillC room (cur ++ [p]) r else (cur, p :: r)
theorem fillC_eq (room : Int) : ∀ (parts cur : List T), fill room cur.flatten parts = ((fillC room cur parts).1.flatten, (fillC room cur parts).2)
  | [], cur => rfl
  | p :: r, cur => by
    unfold fill fillC
    by_cases q : (cur.flatten.length : Int) + (p.length : Int) ≤ room
    · rw [if_pos q, if_pos q, ← fillC_eq room r (cur ++ [p])]
      simp
    · rw [if_neg q, if_neg q]
def cutC (room : Int) (cur : List T) : List T → List T × List T
  | [] => (cur, [])
  | p :: r => if (p.length : Int) > room then (cur ++ [p.take (cutOf room cur.flatten)], p.drop (cutOf room cur.flatten) :: r) else (cur, p :: r)
theorem cutC_eq (room : Int) (cur parts : List T) : cutL room cur.flatten parts = ((cutC room cur parts).1.flatten, (cutC room cur parts).2) := by
  cases parts with
  | nil => rfl
  | cons p r =>
    unfold cutL cutC
    dsimp only
    split
    · simp
    · rfl
/-- the last piece away if it is blank -/
def dropEnd (cur : List T) : List T := match cur.getLast? with
  | some p => if blank p = true then cur.dropLast else cur
  | none => cur
def stepC (width : Int) (first rest : T) (lines parts : List T) : List T × List T :=
  let mark := markOf first rest lines
  let room := width - (mark.length : Int)
  let f := fillC room [] (dropB lines parts)
  let c := cutC room f.1 f.2
  let l := dropEnd c.1
  (if l ≠ [] then lines ++ [mark ++ l.flatten] else lines, c.2)

/-- pieces in turn, ending so that the next is of kind b -/
inductive AltTo : Bool → List T → Prop
  | nil {b : Bool} : AltTo b []
  | snoc {b c : Bool} {ps : List T} {p : T} : AltTo b ps → Hom b p → c = (!b) → AltTo c (ps ++ [p])
theorem fillC_alt (room : Int) : ∀ (parts cur : List T) (b : Bool), AltTo b cur → AltB b parts → ∃ b', AltTo b' (fillC room cur parts).1 ∧ AltB b' (fillC room cur parts).2
  | [], cur, b, h, _ => ⟨b, h, trivial⟩
  | p :: r, cur, b, h, k => by
    unfold fillC
    split
    · exact fillC_alt room r (cur ++ [p]) (!b) (.snoc h k.1 rfl) k.2
    · exact ⟨b, h, k⟩
theorem Hom.take {b : Bool} {p : T} (h : Hom b p) {n : Nat} (hn : 1 ≤ n) : Hom b (p.take n) := ⟨(fun e => by
  obtain ⟨c, r, hp⟩ := List.exists_cons_of_ne_nil h.1
  obtain ⟨m, rfl⟩ : ∃ m, n = m + 1 := ⟨n - 1, by omega⟩
  rw [hp, List.take_succ_cons] at e; cases e), fun c hc => h.2 c (List.mem_of_mem_take hc)⟩
theorem cutC_alt {room : Int} {cur parts : List T} {b : Bool} (h : AltTo b cur) (k : AltB b parts) : ∃ b', AltTo b' (cutC room cur parts).1 := by
  cases parts with
  | nil => exact ⟨b, h⟩
  | cons p r =>
    unfold cutC
    dsimp only
    split
    · exact ⟨!b, .snoc h (k.1.take (cutOf_pos _ _)) rfl⟩
    · exact ⟨b, h⟩
theorem blank_hom {b : Bool} {p : T} (h : Hom b p) : blank p = b := by
  obtain ⟨c, r, hp⟩ := List.exists_cons_of_ne_nil h.1
  cases b with
  | true => exact List.all_eq_true.mpr fun d hd => by have := h.2 d hd; simpa using this
  | false =>
    rw [Bool.eq_false_iff]
    intro e
    have h1 := List.all_eq_true.mp e c (by rw [hp]; exact .head _)
    have h2 := h.2 c (by rw [hp]; exact .head _)
    simp at h1 h2
    exact h2 h1
theorem rstrip_snoc_blank {x p : T} (h : blank p = true) : rstrip (x ++ p) = rstrip x := by
  unfold rstrip stripL
  simp only [Bool.false_eq_true, if_false, if_true, List.reverse_append]
  congr 1
  have : ∀ c ∈ p.reverse, (fun c => [32].contains c) c = true := fun c hc => by
    have := List.all_eq_true.mp h c (List.mem_reverse.mp hc)
    simpa using this
  generalize p.reverse = q at this
  clear h
  induction q with
  | nil => rfl
  | cons c r ih =>
    rw [List.cons_append, List.dropWhile_cons, if_pos (this c (.head _))]
    exact ih fun d hd => this d (.tail _ hd)
theorem rstrip_snoc_firm {x p : T} (h : Hom false p) : rstrip (x ++ p) = x ++ p := by
  unfold rstrip stripL
  simp only [Bool.false_eq_true, if_false, if_true]
  have : (x ++ p).reverse.dropWhile (fun c => [32].contains c) = (x ++ p).reverse := by
    rw [List.reverse_append]
    have hne : p.reverse ≠ [] := by simpa using h.1
    obtain ⟨c, r, hp⟩ := List.exists_cons_of_ne_nil hne
    rw [hp, List.cons_append, List.dropWhile_cons]
    have hc := h.2 c (List.mem_reverse.mp (by rw [hp]; exact .head _))
    have : [32].contains c = false := by simpa using hc
    rw [this]; rfl
  rw [this, List.reverse_reverse]
theorem dropEnd_eq {b : Bool} {cur : List T} (h : AltTo b cur) : (dropEnd cur).flatten = rstrip cur.flatten ∧ (dropEnd cur = [] ↔ rstrip cur.flatten = []) := by
  cases h with
  | nil => exact ⟨rfl, by simp [dropEnd, rstrip, stripL]⟩
  | @snoc b c ps p h1 h2 hc =>
    unfold dropEnd
    rw [List.getLast?_concat]
    dsimp only
    rw [blank_hom h2, List.flatten_append]
    simp only [List.flatten_cons, List.flatten_nil, List.append_nil]
    cases b with
    | false =>
      rw [if_neg Bool.false_ne_true, rstrip_snoc_firm h2, List.flatten_append]
      simp only [List.flatten_cons, List.flatten_nil, List.append_nil, true_and]
      simp [h2.1]
    | true =>
      rw [if_pos rfl, List.dropLast_concat, rstrip_snoc_blank (by rw [blank_hom h2])]
      cases h1 with
      | nil => simp [rstrip, stripL]
      | @snoc b' c' qs q g1 g2 e =>
        have : b' = false := by
          cases b' with
          | false => rfl
          | true => exact absurd e (by decide)
        subst this
        rw [List.flatten_append]
        simp only [List.flatten_cons, List.flatten_nil, List.append_nil]
        rw [rstrip_snoc_firm g2]
        refine ⟨rfl, ?_⟩
        simp [g2.1]
theorem stepC_eq {width : Int} {first rest : T} {lines : List T} {p : T} {r : List T} (h : LSt lines (p :: r)) : stepC width first rest lines (p :: r) = stepL width first rest lines (p :: r) := by
  obtain ⟨b, hb, -⟩ := h.dropB
  unfold stepC stepL
  dsimp only
  generalize width - ((markOf first rest lines).length : Int) = room
  have e1 := fillC_eq room (Mine.dropB lines (p :: r)) []
  obtain ⟨b1, ha, hb1⟩ := fillC_alt room (Mine.dropB lines (p :: r)) [] b .nil hb
  rw [List.flatten_nil] at e1
  rw [e1]
  dsimp only
  rw [cutC_eq]
  obtain ⟨b2, ha2⟩ := cutC_alt (room := room) ha hb1
  obtain ⟨k1, k2⟩ := dropEnd_eq ha2
  dsimp only
  rw [k1]
  congr 1
  by_cases q : rstrip (cutC room (fillC room [] (Mine.dropB lines (p :: r))).1 (fillC room [] (Mine.dropB lines (p :: r))).2).1.flatten = []
  · rw [if_neg (fun n => n (k2.mpr q)), if_neg (fun n => n q)]
  · rw [if_pos (fun e => q (k2.mp e)), if_pos q]
end Mine
end
section
set_option autoImplicit false
set_option linter.unusedVariables false
namespace Mine
/-- paragraphs: the indent and the rows of each -/
def paraGo : List T → Nat → List T → List (Nat × List T)
  | rows, ind, [] => if rows = [] then [] else [(ind, rows)]
  | rows, ind, l :: r => if l = [] then (if rows = [] then paraGo [] ind r else (ind, rows) :: paraGo [] ind r) else if rows = [] then paraGo [lstrip l] (l.length - (lstrip l).length) r else paraGo (rows ++ [l]) ind r
theorem para_ind : ∀ (lines : List T) (i j : Nat), paraGo [] i lines = paraGo [] j lines
  | [], i, j => rfl
  | l :: r, i, j => by
    unfold paraGo
    by_cases q : l = []
    · rw [if_pos q, if_pos q, if_pos rfl, if_pos rfl, para_ind r i j]
    · rw [if_neg q, if_neg q, if_pos rfl, if_pos rfl]
theorem para_end : ∀ (lines rows : List T) (i : Nat), paraGo rows i (lines ++ [[]]) = paraGo rows i lines
  | [], rows, i => by
    show paraGo rows i [[]] = paraGo rows i []
    unfold paraGo
    by_cases q : rows = []
    · rw [if_pos rfl, if_pos q, if_pos q]; rfl
    · rw [if_pos rfl, if_neg q, if_neg q]; rfl
  | l :: r, rows, i => by
    show paraGo rows i (l :: (r ++ [[]])) = paraGo rows i (l :: r)
    unfold paraGo
    rw [para_end r, para_end r, para_end r]
def parasL (x : T) : List (Nat × List T) := paraGo [] 0 (splitL 10 x)
theorem split_acc : ∀ (x acc : T), ∃ p q, splitL 10 x = p :: q ∧ (linesFrom acc x = (acc ++ p) :: q ∧ (q ≠ [] → q.getLast? ≠ some []) ∧ ((q = []) → acc ++ p ≠ []) ∨ (linesFrom acc x ++ [[]] = (acc ++ p) :: q))
  | [], acc => by
    refine ⟨[], [], rfl, ?_⟩
    by_cases q : acc = []
    · right; subst q; rfl
    · left
      unfold linesFrom
      rw [if_neg q]
      exact ⟨by simp, fun h => absurd rfl h, fun _ => by simpa using q⟩
  | d :: r, acc => by
    by_cases q : d = 10
    · subst q
      obtain ⟨p, t, h1, h2⟩ := split_acc r []
      refine ⟨[], splitL 10 r, rfl, ?_⟩
      have e : linesFrom acc (10 :: r) = acc :: linesFrom [] r := rfl
      rw [e, h1]
      rcases h2 with ⟨h2, h3, h4⟩ | h2
      · left
        rw [h2]
        refine ⟨by simp, fun _ => ?_, fun h => by cases h⟩
        cases t with
        | nil => have := h4 rfl; simpa using this
        | cons a b => rw [List.getLast?_cons_cons]; exact h3 (by simp)
      · right
        rw [List.cons_append, h2]; simp
    · obtain ⟨p, t, h1, h2⟩ := split_acc r (acc ++ [d])
      refine ⟨d :: p, t, by unfold splitL; rw [if_neg q, h1], ?_⟩
      have e : linesFrom acc (d :: r) = linesFrom (acc ++ [d]) r := by conv => lhs; unfold linesFrom; rw [if_neg q]
      rw [e]
      rcases h2 with ⟨h2, h3, h4⟩ | h2
      · left; exact ⟨by rw [h2]; simp, h3, fun h => by have := h4 h; simpa using this⟩
      · right; rw [h2]; simp
/-- both readings give the same paragraphs -/
theorem para_lines (x : T) : paraGo [] 0 (linesL x) = parasL x := by
  obtain ⟨p, q, h1, h2⟩ := split_acc x []
  unfold parasL linesL
  rw [h1]
  rcases h2 with ⟨h2, -, -⟩ | h2
  · rw [h2]; rfl
  · rw [← para_end, h2]; rfl
end Mine
end
section
open PySem PySem.W PySem.Calls PyProof.Rows
set_option maxRecDepth 100000
set_option autoImplicit false
set_option linter.unusedVariables false
namespace Mine
def testIfs (ifs : List Expr) (env : Env) : Sem Bool := forIn ifs true fun c r => if r = true then (do let ok ← isTrue c env (eval c env); Pure.pure (ForInStep.yield ok)) else Pure.pure (ForInStep.yield r)
theorem compTurn_ifs (elt target iter : Expr) (ifs : List Expr) (scope : Scope) (pos : Pos) (it acc : Value) (env : Env) :
    compTurn (.ListComp elt [⟨target, iter, ifs, 0⟩] scope pos) 0 it acc env = (standAt iter.pos >>= fun _ => pyNext it >>= fun r => match r with
      | none => Pure.pure (.done .next)
      | some v => letOwnedTupleGo target it v >>= fun _ => assign target env v >>= fun _ => testIfs ifs env >>= fun ok =>
        if ok = true then ((eval elt env >>= fun x => PySem.call (.builtin "list.append") [acc, x] >>= fun _ => Pure.pure ()) >>= fun _ => again (.compLoop (.ListComp elt [⟨target, iter, ifs, 0⟩] scope pos) 0 it acc env))
        else again (.compLoop (.ListComp elt [⟨target, iter, ifs, 0⟩] scope pos) 0 it acc env)) := by rfl
section
variable {D : Wd} {A : Around} {L C acc : Addr} {vs : Vars} {led led' : Led} {env cenv : Env} {a it e : Addr} {as : List AV} {s : Shared}
/-- what a turn of a list comprehension comes to -/
def Emit (I : List AV → Vars → Led → Prop) (it : Addr) (ob : Ob) (acc : Addr) (outs : List AV) (y : Value) (vs : Vars) (l : Led) : Prop :=
  ∃ av l2, AV.is av y ∧ Sub ((it, ob) :: (acc, .list outs) :: l2) l ∧ I (outs ++ [av]) vs l2
theorem comp_loop {elt target iter : Expr} {ifs : List Expr} {scope : Scope} {pos : Pos} {need : Led → Prop} {obs : Nat → Ob} {items : List AV} {R' : Result → Shared → Prop} (I : List AV → List AV → Vars → Led → Prop)
    (hneed : ∀ r outs vs led, I r outs vs led → need led ∧ outs.length ≤ 100000) (hnext : ∀ i x, items[i]? = some x → NextIs D A C it need (obs i) (obs (i + 1)) x) (hend : EndIs D A C it need (obs items.length)) (hlet : ∀ i, LetsGo D A C it target (obs i))
    (hneed2 : ∀ outs led, need led → need ((acc, .list outs) :: led))
    (turn : ∀ x r outs vs led ob v, x.is v → I (x :: r) outs vs led → W D A C (assign target cenv v) (fun _ vs led => W D A C (testIfs ifs cenv) (fun ok vs led =>
      (ok = true → W D A C (eval elt cenv) (Emit (fun o vs l => I r o vs l) it ob acc outs) vs led) ∧ (ok = false → ∃ l2, Sub ((it, ob) :: (acc, .list outs) :: l2) led ∧ I r outs vs l2)) vs led) vs ((it, ob) :: (acc, .list outs) :: led))
    (fin : ∀ outs vs led s', I [] outs vs led → Rep D ((C, .ns vs) :: (acc, .list outs) :: led) s' → R' (.ok .next) s')
    (h0 : I items [] vs led) (R : Rep D ((C, .ns vs) :: (it, obs 0) :: (acc, .list []) :: led) s) :
    codeAny D.M A (.compLoop (.ListComp elt [⟨target, iter, ifs, 0⟩] scope pos) 0 (.ref it) (.ref acc) cenv) R' s := by
  refine codeAny_loop rfl (fun n s => ∃ i outs vs led, n = items.length - i ∧ Rep D ((C, .ns vs) :: (it, obs i) :: (acc, .list outs) :: led) s ∧ I (items.drop i) outs vs led ∧ i ≤ items.length) (fun n s hI => ?_) items.length ⟨0, [], vs, led, rfl, R, h0, Nat.zero_le _⟩
  obtain ⟨i, outs, vs, led, rfl, R, hI, hi⟩ := hI
  show wpAny _ _ ((compTurn (.ListComp elt [⟨target, iter, ifs, 0⟩] scope pos) 0 (.ref it) (.ref acc) cenv).onRaise (fun x => do noteFrame x cenv; theTreesLotGoes x)) _ _ s
  refine wpAny_noted ?_
  rw [compTurn_ifs]
  refine wpAny_bind (wpAny_standAt (wpAny_bind ?_))
  rcases Nat.lt_or_ge i items.length with q | q
  · have hd : items.drop i = items[i] :: items.drop (i + 1) := List.drop_eq_getElem_cons q
    rw [hd] at hI
    refine wpAny_mono (hnext i items[i] (by simp [q]) vs _ s (hneed2 _ _ (hneed _ _ _ _ hI).1) R) (fun r s1 ⟨v, hr, hv, R1⟩ => ?_) fun _ _ x => x.elim
    subst hr
    refine wpAny_bind (wpAny_mono (hlet _ vs _ s1 v R1) (fun _ s2 e => ?_) fun _ _ x => x.elim)
    subst e
    refine wpAny_bind (wpAny_mono (turn _ _ _ vs led _ v hv hI _ R1) (fun _ s3 ⟨vs3, led3, R3, h3⟩ => ?_) fun _ _ x => x.elim)
    refine wpAny_bind (wpAny_mono (h3 _ R3) (fun ok s4 ⟨vs4, led4, R4, h4⟩ => ?_) fun _ _ x => x.elim)
    cases ok with
    | false =>
      rw [if_neg Bool.false_ne_true]
      obtain ⟨l2, hs, i2⟩ := h4.2 rfl
      exact wpAny_pure ⟨rfl, items.length - (i + 1), by omega, i + 1, outs, vs4, l2, rfl, R4.sub (.cons hs), i2, q⟩
    | true =>
      rw [if_pos rfl]
      refine wpAny_bind (wpAny_bind (wpAny_mono (h4.1 rfl _ R4) (fun y s5 ⟨vs5, led5, R5, av, l2, hy, hs, i2⟩ => ?_) fun _ _ x => x.elim))
      have R6 := R5.sub (.cons hs)
      have hol := (hneed _ _ _ _ i2).2
      have ap : W D A C (PySem.call (.builtin "list.append") [.ref acc, y]) (fun _ vs l => vs = vs5 ∧ l = (it, obs (i + 1)) :: (acc, .list (outs ++ [av])) :: l2) vs5 ((it, obs (i + 1)) :: (acc, .list outs) :: l2) :=
        W.list_append (.there .here) (by simp at hol; omega) hy ⟨rfl, rfl⟩
      refine wpAny_bind (wpAny_mono (ap _ R6) (fun _ s7 ⟨vs7, led7, R7, e1, e2⟩ => ?_) fun _ _ x => x.elim)
      subst e1 e2
      exact wpAny_pure (wpAny_pure ⟨rfl, items.length - (i + 1), by omega, i + 1, _, _, l2, rfl, R7, i2, q⟩)
  · have e : i = items.length := by omega
    subst e
    rw [List.drop_of_length_le (Nat.le_refl _)] at hI
    refine wpAny_mono (hend vs _ s (hneed2 _ _ (hneed _ _ _ _ hI).1) R) (fun r s1 ⟨hr, R1⟩ => ?_) fun _ _ x => x.elim
    subst hr
    exact wpAny_pure (fin _ _ _ _ hI R1)
end
end Mine
end
section
open PySem PySem.W PySem.Calls PyProof.Rows
set_option maxRecDepth 100000
set_option autoImplicit false
set_option linter.unusedVariables false
namespace Mine
def compOk (scope : Scope) (ls gs fr : List Str) : Bool :=
  scope.kind == .function && (scope.names.all fun x => x.2 != .cell) && (scope.names.all fun x => x.2 != .local || scope.names.lookup x.1 == some .local) &&
  decide ls.Nodup && (ls.all fun x => scope.names.lookup x == some .local && !(x == ("__debug__" : Str))) &&
  (gs.all fun x => scope.names.lookup x == some .globalImplicit && !(x == ("__debug__" : Str))) &&
  (fr.all fun x => scope.names.lookup x == some .free && !(x == ("__debug__" : Str)) && !(x == ("__classdict__" : Str)))
theorem lookup_relabel (env : Env) : ∀ (names : List (Str × NameKind)) (x : Str),
    (names.map fun (n, k) => if (k == NameKind.free && env.scope.kind == .function && env.kindOf n == some .cell) then (n, NameKind.cell) else (n, k)).lookup x =
      (names.lookup x).map fun k => if (k == NameKind.free && env.scope.kind == .function && env.kindOf x == some .cell) = true then NameKind.cell else k
  | [], x => rfl
  | (n, k) :: r, x => by
    have ih := lookup_relabel env r x
    rw [List.map_cons]
    by_cases hx : x = n
    · subst hx
      dsimp only
      by_cases hc : (k == NameKind.free && env.scope.kind == .function && env.kindOf x == some .cell) = true
      · rw [if_pos hc]
        simp only [List.lookup_cons, beq_self_eq_true, Option.map_some]
        rw [if_pos hc]
      · rw [if_neg hc]
        simp only [List.lookup_cons, beq_self_eq_true, Option.map_some]
        rw [if_neg hc]
    · have e : (x == n) = false := by simpa using hx
      dsimp only
      by_cases hc : (k == NameKind.free && env.scope.kind == .function && env.kindOf n == some .cell) = true
      · rw [if_pos hc]
        simp only [List.lookup_cons, e]
        exact ih
      · rw [if_neg hc]
        simp only [List.lookup_cons, e]
        exact ih
section
variable {D : Wd} {A : Around} {L : Addr} {vs : Vars} {led led' : Led} {env : Env} {a it e : Addr} {as : List AV} {s : Shared}
theorem Rep.dropHead {p : Addr × Ob} {h' : Heap} {tk : Nat} (R : Rep D (p :: led) s) (hs : Heap.SameBut p.1 s.heap h') : Rep D led { s with heap := h', toks := tk } := by
  have nd := R.nodup
  rw [List.map_cons, List.nodup_cons] at nd
  refine R.redo [p.1] (fun b hb => ?_) (fun b o hb e => (hs.2 b (fun q => hb (by rw [q]; exact .head _))).trans e) (fun q hq => ?_) (fun q hq => .inl (List.mem_map_of_mem (.tail _ hq))) nd.2
  · rw [List.mem_singleton] at hb; subst hb; simp
  · obtain ⟨o, ho, k⟩ := R.own _ (.tail _ hq)
    exact ⟨o, (hs.2 _ (fun e => nd.1 (e ▸ List.mem_map_of_mem hq))).trans ho, k⟩
/-- what a comprehension goes over -/
structure Source (D : Wd) (A : Around) (L : Addr) (vs : Vars) (led : Led) (target : Expr) (v : Value) (items : List AV) (need : Led → Prop) (obs : Nat → Ob) : Prop where
  iter : ∀ s Q E, Rep D ((L, .ns vs) :: led) s → (∀ it s', Rep D ((L, .ns vs) :: (it, obs 0) :: led) s' → Q (.ref it) s') → wpAny D.M A (pyIter v) Q E s
  next : ∀ C it i x, items[i]? = some x → NextIs D A C it need (obs i) (obs (i + 1)) x
  done : ∀ C it, EndIs D A C it need (obs items.length)
  lets : ∀ C it i, LetsGo D A C it target (obs i)
  self : ∀ it s Q E led', Rep D led' s → (it, obs 0) ∈ led' → Q (.ref it) s → wpAny D.M A (pyIter (.ref it)) Q E s
  more : ∀ p led, need led → need (p :: led)
theorem W.ListComp {elt target iter : Expr} {ifs : List Expr} {scope : Scope} {pos : Pos} {ls gs ls0 gs0 fr : List Str} {ca : Str → Addr} {Q : Value → Vars → Led → Prop} (Fd : Fn env L ls0 gs0) (hok : compOk scope ls gs fr = true)
    (hfree : ∀ x ∈ scope.names, x.2 = .free → env.cells.lookup x.1 = some (ca x.1)) (hs : ∀ x, foldedSetIterable iter env x = Pure.pure x)
    (h : W D A L (eval iter env) (fun v vs led => ∃ (items : List AV) (need : Led → Prop) (obs : Nat → Ob) (I : List AV → List AV → Vars → Led → Prop), Source D A L vs led target v items need obs ∧
      (∀ r outs vs led, I r outs vs led → need led ∧ outs.length ≤ 100000) ∧ I items [] (ls.map fun x => (x, none)) ((L, .ns vs) :: led) ∧
      (∀ C cenv acc it, Fn cenv C ls gs → (∀ x ∈ fr, CellVar cenv x (ca x)) → ∀ x r outs vs led ob v, x.is v → I (x :: r) outs vs led → W D A C (assign target cenv v) (fun _ vs led => W D A C (testIfs ifs cenv) (fun ok vs led =>
        (ok = true → W D A C (eval elt cenv) (Emit (fun o vs l => I r o vs l) it ob acc outs) vs led) ∧ (ok = false → ∃ l2, Sub ((it, ob) :: (acc, .list outs) :: l2) led ∧ I r outs vs l2)) vs led) vs ((it, ob) :: (acc, .list outs) :: led)) ∧
      (∀ outs vsC ledC, I [] outs vsC ledC → ∃ vs' led', Sub ((L, .ns vs') :: led') ledC ∧ ∀ acc, Q (.ref acc) vs' ((acc, .list outs) :: led'))) vs led) :
    W D A L (eval (.ListComp elt [⟨target, iter, ifs, 0⟩] scope pos) env) Q vs led := fun s R => by
  simp only [compOk, Bool.and_eq_true, List.all_eq_true, Bool.not_eq_true', beq_iff_eq, decide_eq_true_eq, Bool.or_eq_true, bne_iff_ne] at hok
  obtain ⟨⟨⟨⟨⟨⟨k1, k2⟩, k3⟩, k4⟩, k5⟩, k6⟩, k7⟩ := hok
  have hcl : closureFor scope env = Pure.pure (closL ca scope.names []) := by
    unfold closureFor
    have := closureFor_eq (env := env) (ca := ca) scope.names [] hfree
    refine Eq.trans (congrArg (· >>= fun r => Pure.pure r) (Eq.trans ?_ this)) (by simp only [pure_bind])
    congr 1
  rw [eval_ListComp]
  refine wpAny_comprehension_free (cl := closL ca scope.names []) rfl hs hcl k1 (fun x hx hl => (k3 x hx).resolve_left (fun n => n hl)) ?_
  refine wpAny_mono (h s R) (fun v s1 ⟨vs1, led1, R1, items, need, obs, I, hsrc, hneed, h0, turn, fin⟩ => ?_) fun _ _ x => x.elim
  refine hsrc.iter _ _ _ R1 fun it s2 R2 => ?_
  refine wpAny_newList ?_
  have R3 := R2.pushed (ob := .list []) (tk := s2.toks) (o := { cls := .type "list", data := .seq #[] }) rfl ⟨[], 0, .nil, rfl⟩
  refine wpAny_newFunctionEnv (fun x hx => k2 x hx) (fun x hx => by cases hx) (fun h' hns hsb => ?_) k1
  have R4 := R3.addFrame (h' := h') (tk := s2.toks) (L := _) (vs := varsOf ls []) rfl (frame_ns (by unfold varsOf; rw [List.map_map]; show (ls.map id).Nodup; rw [List.map_id]; exact k4) hns (varsOf_ok (by simp) (fun p hp => by cases hp))) (fun b o e => hsb.extBut b o (Nat.ne_of_lt (Heap.lt_size e)) (Heap.get?_push_of_some _ e))
  generalize hC : (s2.heap.push _).objs.size = C at *
  have eK : ∀ x, (compEnvC scope (closL ca scope.names []) C env).kindOf x = (scope.names.lookup x).map fun k => if (k == NameKind.free && env.scope.kind == .function && env.kindOf x == some .cell) = true then NameKind.cell else k := fun x => lookup_relabel env scope.names x
  have Fc : Fn (compEnvC scope (closL ca scope.names []) C env) C ls gs := ⟨k1, rfl, Fd.gl, Fd.bl, fun x hx => ⟨by rw [eK, (k5 x hx).1]; rfl, by simpa using (k5 x hx).2⟩, fun x hx => ⟨by rw [eK, (k6 x hx).1]; rfl, by simpa using (k6 x hx).2⟩⟩
  have Fv : ∀ x ∈ fr, CellVar (compEnvC scope (closL ca scope.names []) C env) x (ca x) := fun x hx => by
    refine ⟨k1, ?_, closL_lookup ca _ _ x (.inr (k7 x hx).1.1), by simpa using (k7 x hx).1.2⟩
    rw [eK, (k7 x hx).1.1]
    simp only [Option.map_some]
    split
    · exact .inl rfl
    · exact .inr ⟨rfl, by simpa using (k7 x hx).2⟩
  have hvv : varsOf ls [] = ls.map fun x => (x, (none : Option AV)) := rfl
  rw [hvv] at R4
  have R5 := R4.perm (List.Perm.cons _ (l₂ := (it, obs 0) :: (s2.heap.objs.size, .list []) :: (L, .ns vs1) :: led1) (((List.Perm.swap _ _ _).trans (List.Perm.cons _ (List.Perm.swap _ _ _))).trans (List.Perm.swap _ _ _)))
  have core : ∀ s4, Rep D ((C, .ns (ls.map fun x => (x, none))) :: (it, obs 0) :: (s2.heap.objs.size, .list []) :: (L, .ns vs1) :: led1) s4 → codeAny D.M A (.compLoop (.ListComp elt [⟨target, iter, ifs, 0⟩] scope pos) 0 (.ref it) (.ref s2.heap.objs.size) (compEnvC scope (closL ca scope.names []) C env)) (compPost D.M A none_E none (fun a s' => ∃ vs' led', Rep D ((L, .ns vs') :: led') s' ∧ Q a vs' led') (.ref s2.heap.objs.size) C) s4 := fun s4 R6 => by
    refine comp_loop (obs := obs) (items := items) I hneed (hsrc.next C it) (hsrc.done C it) (hsrc.lets C it) (fun outs led h => hsrc.more _ _ h) (turn C _ _ it Fc Fv) (fun outs vsC ledC s' hI R7 => ?_) h0 R6
    obtain ⟨m, hm, -⟩ := R7.frame
    obtain ⟨vs', led', hsub, hq⟩ := fin _ _ _ hI
    refine ⟨m, hm, fun h2 hs2 => ⟨vs', _, ?_, hq _⟩⟩
    have R8 := R7.dropHead (tk := s'.toks) hs2
    exact (R8.sub (.cons hsub)).perm (List.Perm.swap ..)
  refine codeAny_compStart_list (rest := []) (core _ R5) ?_
  exact hsrc.self it _ _ _ _ R5 (.tail _ (.head _)) (core _ R5)
end
end Mine
end
section
open PySem PySem.W PySem.Calls PyProof.Rows
set_option maxRecDepth 100000
set_option autoImplicit false
set_option linter.unusedVariables false
namespace Mine
section
variable {D : Wd} {A : Around} {L : Addr} {vs : Vars} {led led' : Led} {env : Env} {a it e : Addr} {as : List AV} {s : Shared}
theorem W.testIfs_nil {Q : Bool → Vars → Led → Prop} (h : Q true vs led) : W D A L (testIfs [] env) Q vs led := W.pure (a := true) h
theorem W.testIfs_one {c : Expr} {Q : Bool → Vars → Led → Prop} (h : W D A L (isTrue c env (eval c env)) Q vs led) : W D A L (testIfs [c] env) Q vs led := by
  unfold testIfs
  simp only [List.forIn_cons, List.forIn_nil, if_true]
  exact W.bind (W.bind (W.mono h fun b vs led q => W.pure (W.pure q)))
theorem Source.list {n : Nat} {target : Expr} (hr : Room A n) (hm : (a, .list as) ∈ led) : Source D A L vs led target (.ref a) as (fun led => (a, .list as) ∈ led) (listIt a) where
  iter := fun s Q E R h => by
    obtain ⟨vals, n2, hi, hl⟩ := R.listAt (.tail _ hm)
    exact wpAny_pyIter_list (isL hl) (h _ _ (R.pushed (ob := listIt a 0) (tk := s.toks) rfl ⟨rfl, rfl⟩))
  next := fun C it i x hx => next_list hx
  done := fun C it => end_list hr
  lets := fun C it i => .list
  self := fun it s Q E led' R hm h => wpAny_pyIter_listiter (listIt.at R hm) h
  more := fun p led h => .tail _ h
theorem Source.range {n : Nat} {x : Str} {px : Pos} {lo hi : Int} (hr : Room A n) (hm : (a, rangeOb lo hi) ∈ led) (hb : 0 ≤ lo ∧ lo ≤ 1000000 ∧ hi ≤ 1000000 ∧ -1000000 ≤ hi) :
    Source D A L vs led (.Name x px) (.ref a) ((upFrom lo (hi - lo).toNat).map .int) (fun _ => True) (fun i => rangeIt lo (hi - lo).toNat i) where
  iter := fun s Q E R h => by
    obtain ⟨b1, b2, b3, b4⟩ := hb
    obtain ⟨o, ho, t, u, v, rfl⟩ := R.own _ (.tail _ hm)
    have e : Builtin.Range.rangeSize lo hi 1 = ((hi - lo).toNat : Int) := PyProof.Rows.rangeSize_nat lo hi
    refine wpAny_pyIter_range ho ?_ ?_
    · unfold Builtin.Range.small
      rw [e]
      have f : ∀ z : Int, -3000000 ≤ z → z ≤ 3000000 → Builtin.Range.rangeFitsLong z = true := fun z h1 h2 => by
        unfold Builtin.Range.rangeFitsLong
        simp
        omega
      rw [f lo (by omega) (by omega), f hi (by omega) (by omega), f 1 (by omega) (by omega), f _ (by omega) (by omega)]
      rw [if_pos (by decide), f (hi + (1 - 1)) (by omega) (by omega)]
      simp
    · rw [e]
      refine h _ _ (R.pushed (ob := rangeIt lo (hi - lo).toNat 0) (tk := s.toks) rfl ?_)
      show _ = _
      rw [show lo + (0 : Int) = lo from Int.add_zero _, show (((hi - lo).toNat : Int)) - 0 = ((hi - lo).toNat : Int) from Int.sub_zero _]
  next := fun C it i x hx => by
    rw [List.getElem?_map] at hx
    have hlt : i < (hi - lo).toNat := by
      rcases Nat.lt_or_ge i (hi - lo).toNat with q | q
      · exact q
      · rw [List.getElem?_eq_none (by rw [upFrom_len]; exact q)] at hx; cases hx
    rw [upFrom_get _ _ _ hlt] at hx
    obtain rfl := (Option.some.inj hx)
    exact next_range (by omega)
  done := fun C it => by
    rw [List.length_map, upFrom_len]
    exact end_range hr (by omega)
  lets := fun C it i => .name
  self := fun it s Q E led' R hm h => by
    obtain ⟨o, ho, rfl⟩ := R.own _ hm
    exact wpAny_pyIter_rangeiter ho h
  more := fun p led h => trivial
end
end Mine
end
section
open PySem PySem.W PySem.Calls PyProof.Rows
set_option maxRecDepth 100000
set_option autoImplicit false
set_option linter.unusedVariables false
namespace Mine
def maxI (is : List Int) : Int := is.foldl max 0
theorem AllIs.ints : ∀ {is : List Int} {vals : List Value}, AllIs (is.map .int) vals → ∃ xs : List (Int × Tok), xs.map (·.1) = is ∧ vals.toArray = intItems xs.toArray
  | [], _, h => by cases h; exact ⟨[], rfl, by simp [intItems]⟩
  | i :: r, _, h => by
    cases h with
    | cons h0 h1 =>
      obtain ⟨t, rfl⟩ := h0
      obtain ⟨xs, e1, e2⟩ := AllIs.ints h1
      refine ⟨(i, t) :: xs, by simp [e1], ?_⟩
      have : ∀ (ys : List (Int × Tok)), intItems ys.toArray = (ys.map fun p => Value.int p.1 p.2).toArray := fun ys => by simp [intItems]
      rw [this] at e2 ⊢
      have e3 := congrArg Array.toList e2
      simp at e3
      simp [e3]
theorem argBest_max (f : Nat → Int) (h : ∀ i, 0 ≤ f i) : ∀ k, f (argBest (fun i j => decide (f i > f j)) k) = ((List.range (k + 1)).map f).foldl max 0
  | 0 => by
    have := h 0
    simp [argBest]; omega
  | k + 1 => by
    have ih := argBest_max f h k
    rw [List.range_succ, List.map_append, List.foldl_append, ← ih]
    have e : argBest (fun i j => decide (f i > f j)) (k + 1) = if decide (f (k + 1) > f (argBest (fun i j => decide (f i > f j)) k)) = true then k + 1 else argBest (fun i j => decide (f i > f j)) k := rfl
    rw [e]
    simp only [List.map_cons, List.map_nil, List.foldl_cons, List.foldl_nil, decide_eq_true_eq]
    split <;> omega
section
variable {D : Wd} {A : Around} {L : Addr} {vs : Vars} {led led' : Led} {env : Env} {a : Addr} {s : Shared}
theorem W.max_list {is : List Int} {n : Nat} {Q : Value → Vars → Led → Prop} (hr : Room A n) (hm : (a, LI is) ∈ led) (hne : is ≠ []) (h0 : ∀ i ∈ is, 0 ≤ i) (h : ∀ t, Q (.int (maxI is) t) vs led) : W D A L (PySem.call (.builtin "max") [.ref a]) Q vs led := fun s R => by
  obtain ⟨vals, n2, hi, hl⟩ := R.listAt (.tail _ hm)
  obtain ⟨xs, e1, e2⟩ := AllIs.ints hi
  rw [e2] at hl
  have hlen : xs.length = is.length := by rw [← e1, List.length_map]
  have hpos : 0 < is.length := List.length_pos_iff.mpr hne
  have hnum : ∀ i, numAt xs.toArray i = (is[i]?).getD 0 := fun i => by
    unfold numAt
    rw [← e1]
    simp
  refine max_intList hr.2.2 (isL hl) (by simp; omega) fun v h' tk hv hk => ?_
  obtain ⟨t, rfl⟩ := intItems_at hv
  refine ⟨vs, led, R.ext hk, ?_⟩
  rw [argBest_max (numAt xs.toArray) (fun i => by
    rw [hnum]
    cases q : is[i]? with
    | none => simp
    | some z => exact h0 z (List.mem_of_getElem? q))]
  have e3 : (List.range (xs.toArray.size - 1 + 1)).map (numAt xs.toArray) = is := by
    apply List.ext_getElem
    · simp; omega
    · intro i h1 h2
      simp only [List.getElem_map, List.getElem_range]
      rw [hnum, List.getElem?_eq_getElem h2]; rfl
  rw [e3]
  exact h t
end
end Mine
end
section
open PySem PySem.W PySem.Calls PyProof.Rows
set_option maxRecDepth 100000
set_option autoImplicit false
set_option linter.unusedVariables false
namespace Mine
/-- a dict from ints to ints -/
def dictI (D : Wd) (ks : List (Int × Int)) : Ob := .sat fun o => ∃ vals : List (Int × Int × Tok), vals.map (fun x => (x.1, x.2.1)) = ks ∧ o.IsDictOf (intKind PG D.w) (intPairs vals)
def tupIt (a : Addr) (i : Nat) : Ob := .sat fun o => o.cls = .type "tuple_iterator" ∧ o.data = .fields #[.ref a, .int (i : Int) 0]
def putI (ks : List (Int × Int)) (k v : Int) : List (Int × Int) := if ks.any (fun p => p.1 = k) then ks.map (fun p => if p.1 = k then (p.1, v) else p) else ks ++ [(k, v)]
def getI (ks : List (Int × Int)) (k z : Int) : Int := ((ks.find? fun p => p.1 = k).map (·.2)).getD z
theorem putI_pairs (vals : List (Int × Int × Tok)) (k v : Int) (t : Tok) : ∃ vals2, vals2.map (fun x => (x.1, x.2.1)) = putI (vals.map fun x => (x.1, x.2.1)) k v ∧ stored (intPairs vals) k (.int v t) = intPairs vals2 := by
  by_cases h : vals.any (fun x => x.1 = k) = true
  · refine ⟨vals.map fun x => if x.1 = k then (x.1, v, t) else x, ?_, ?_⟩
    · unfold putI
      rw [if_pos (by rw [List.any_map]; exact h), List.map_map, List.map_map]
      refine List.map_congr_left fun x _ => ?_
      by_cases q : x.1 = k <;> simp [q]
    · unfold stored intPairs
      rw [if_pos (by rw [List.any_map]; exact h), List.map_map, List.map_map]
      refine List.map_congr_left fun x _ => ?_
      by_cases q : x.1 = k <;> simp [q]
  · refine ⟨vals ++ [(k, v, t)], ?_, ?_⟩
    · unfold putI
      rw [if_neg (by rw [List.any_map]; exact h), List.map_append]; rfl
    · unfold stored intPairs
      rw [if_neg (by rw [List.any_map]; exact h), List.map_append]; rfl
theorem getI_pairs (vals : List (Int × Int × Tok)) (k : Int) (n : Int) (t : Tok) : ∃ t', (valueAt (intPairs vals) k).getD (.int n t) = .int (getI (vals.map fun x => (x.1, x.2.1)) k n) t' := by
  obtain ⟨t', e⟩ := getD_valueAt_intPairs vals k n t
  refine ⟨t', e.trans ?_⟩
  congr 1
  unfold getI PySem.intAt
  rw [List.find?_map]
  cases q : vals.find? (fun x => x.1 = k) with
  | none =>
    have : List.find? ((fun p : Int × Int => decide (p.1 = k)) ∘ fun x : Int × Int × Tok => (x.1, x.2.1)) vals = none := q
    rw [this]; rfl
  | some x =>
    have : List.find? ((fun p : Int × Int => decide (p.1 = k)) ∘ fun x : Int × Int × Tok => (x.1, x.2.1)) vals = some x := q
    rw [this]; rfl
section
variable {D : Wd} {A : Around} {L : Addr} {vs : Vars} {led led' : Led} {env : Env} {a it e d : Addr} {as : List AV} {ks : List (Int × Int)} {s : Shared}
theorem Rep.dictAt (R : Rep D led s) (hm : (d, dictI D ks) ∈ led) : ∃ vals : List (Int × Int × Tok), vals.map (fun x => (x.1, x.2.1)) = ks ∧ s.heap.DictOf (intKind PG D.w) d (intPairs vals) := by
  obtain ⟨o, ho, vals, hv, hd⟩ := R.own _ hm
  exact ⟨vals, hv, Heap.dictOf_iff.mpr ⟨o, ho, hd⟩⟩
theorem W.Dict_empty {pos : Pos} {Q : Value → Vars → Led → Prop} (h : ∀ d, (d == sysModules) = false → Q (.ref d) vs ((d, dictI D []) :: led)) : W D A L (eval (.Dict [] [] pos) env) Q vs led := fun s R => by
  refine wpAny_Dict_empty ⟨vs, _, R.pushed (ob := dictI D []) (tk := s.toks) rfl ⟨[], rfl, ?_⟩, h _ ?_⟩
  · obtain ⟨o, ho, hd⟩ := Heap.dictOf_iff.mp (Heap.DictOf.new (knd := intKind PG D.w) s.heap)
    rw [Heap.get?_push_size _ rfl] at ho
    cases ho
    exact hd
  · have hg : mainGlobals < s.heap.objs.size := by
      obtain ⟨o, es, ep, e, -⟩ := D.top.g.keeps R.keep
      exact Heap.lt_size e
    have : s.heap.objs.size ≠ sysModules := fun q => by rw [q] at hg; exact absurd hg (by decide)
    simpa using this
theorem W.mcD {name : Str} {id : String} {pl : Sem Bool} {pos : Pos} {args : List (Bool × Sem Value)} {Q : Value → Vars → Led → Prop} (hm : (d, dictI D ks) ∈ led) (slot : Slot "dict" name id) (ty : typeOf (.builtin id) = Pure.pure (.type "method_descriptor"))
    (h : W D A L (spliced args) (fun l vs led => W D A L (PySem.call (.builtin id) (.ref d :: l)) Q vs led) vs led) (hp : args.any (·.1) = false) :
    W D A L (getMethod (.ref d) name pl) (fun fx vs led => W D A L (PySem.callWith pos fx.1 fx.2 args []) Q vs led) vs led := fun s R => by
  obtain ⟨vals, hv, hd⟩ := R.dictAt (.tail _ hm)
  exact getMethod_builtin hd.typeIs F.plainAttrs_dict slot ty hd.mapOf.noDict ⟨vs, led, R, W.callWith1 keeperOf_builtin h hp⟩
theorem W.dict_get2 {k z : Int} {t u : Tok} {Q : Value → Vars → Led → Prop} (hm : (d, dictI D ks) ∈ led) (hd : (d == sysModules) = false) (h : ∀ t, Q (.int (getI ks k z) t) vs led) : W D A L (PySem.call (.builtin "dict.get") [.ref d, .int k t, .int z u]) Q vs led := fun s R => by
  obtain ⟨vals, rfl, ho⟩ := R.dictAt (.tail _ hm)
  refine call_meetsIn F.slot_dict_get ho.typeIs F.entry_dict_get (F.args_dict_get_3 _ _ _) (meets_dict_get_default (intKind PG D.w) d (intKind_is PG D.w k t) hd _) ⟨_, ho.mapOf, ?_⟩
  obtain ⟨t', e⟩ := getI_pairs vals k z u
  rw [e]
  exact ⟨vs, led, R.toks, h _⟩
theorem W.setItemD {k z : Int} {t u : Tok} {Q : Unit → Vars → Led → Prop} (hu : Up d (dictI D ks) (dictI D (putI ks k z)) led led') (hz : ks.length ≤ 1000) (h : Q () vs led') : W D A L (setItem (.ref d) (.int k t) (.int z u)) Q vs led := fun s R => by
  obtain ⟨vals, hv, ho⟩ := R.dictAt (.tail _ hu.mem)
  have hl : vals.length = ks.length := by rw [← hv, List.length_map]
  refine wpAny_setItem_pairs (knd := intKind PG D.w) (intKind_is PG D.w k t) ho (fun h' hd' hs' => ?_) (by unfold intPairs; rw [List.length_map, sizeLine_eq]; omega)
  obtain ⟨vals2, e1, e2⟩ := putI_pairs vals k z u
  rw [e2] at hd'
  obtain ⟨o, ho', hd2⟩ := Heap.dictOf_iff.mp hd'
  exact ⟨vs, led', R.up hu hs' ⟨o, ho', vals2, by rw [e1, hv], hd2⟩, h⟩

/- tuples -/
theorem W.list_copy {Q : Value → Vars → Led → Prop} (hm : (a, .list as) ∈ led) (hz : as.length ≤ 10000000) (h : ∀ c, Q (.ref c) vs ((c, .list as) :: led)) : W D A L (PySem.call (.type "list") [.ref a]) Q vs led := fun s R => by
  obtain ⟨vals, n, hi, hl⟩ := R.listAt (.tail _ hm)
  have hlen := hi.length
  refine call_list_seq (T := "list") a (.inl rfl) hl rfl rfl (fun h' c' hk ho => ?_) (by rw [List.size_toArray, sizeLine_eq]; omega)
  exact ⟨vs, _, R.made (ob := .list as) (tk := s.toks) (fun b x e => hk b x e) (Nat.le_refl _) ho ⟨vals, c', hi, rfl⟩, h _⟩
theorem W.len_tup {Q : Value → Vars → Led → Prop} (hm : (a, .tup as) ∈ led) (hz : as.length ≤ 10000000) (h : ∀ t, Q (.int as.length t) vs led) : W D A L (PySem.call (.builtin "len") [.ref a]) Q vs led := fun s R => by
  obtain ⟨vals, n, hi, hl⟩ := R.tupAt (.tail _ hm)
  have hlen := hi.length
  refine P.len_tuple hl (by simp; omega) ?_
  rw [List.size_toArray, hlen]
  exact ⟨vs, led, R.toks, h _⟩
theorem W.add_tup_nil {b : Addr} {x : AV} {Q : Value → Vars → Led → Prop} (hm : (a, .tup (x :: as)) ∈ led) (hb : (b, .tup []) ∈ led) (h : Q (.ref a) vs led) : W D A L (binaryOp .Add (.ref a) (.ref b)) Q vs led := fun s R => by
  obtain ⟨vals, n, hi, hl⟩ := R.tupAt (.tail _ hm)
  obtain ⟨vals2, n2, hi2, hl2⟩ := R.tupAt (.tail _ hb)
  cases hi2
  cases hi with
  | @cons _ _ v vr h0 h1 =>
    exact concat_meets ⟨_, hl, rfl⟩ ⟨_, hl2, rfl⟩ noFill_tuple_add seq_tuple_add F.slot_tuple_add F.entry_tuple_add (F.args_tuple_add_2 _ _) (AutoSeq1.tuple___add___tuple_tuple_1 a (v :: vr).toArray n b #[] n2 (by simp) (by rfl)) ⟨hl, hl2, vs, led, R, h⟩
theorem noFill_tuple_mul : fillsNumberSlot (.type "tuple") "mul" = Pure.pure false :=
  PySem.fillsNumberSlot_seq (id := "tuple.__mul__") (r := some (.builtin "tuple.__rmul__")) F.slot_tuple_mul.lookup (by decide +kernel) F.slot_tuple_rmul.lookup (by decide +kernel)
theorem repeat_tuple : seqRepeat? (.type "tuple") = Pure.pure (some (.builtin "tuple.__mul__")) := by
  unfold seqRepeat?
  rw [PySem.seqSlot_of (T := "tuple") (name := "__mul__") (id := "tuple.__mul__") F.slot_tuple_mul.lookup (by decide +kernel), PySem.seqSlot_of (T := "tuple") (name := "__rmul__") (id := "tuple.__rmul__") F.slot_tuple_rmul.lookup (by decide +kernel)]
  rfl
theorem tuple_mul0 (l : Addr) (v : Value) (vr : List Value) (n : Nat) (u : Tok) :
    Meets (Builtin.«tuple.__mul__» ⟨[.ref l, .int 0 u], []⟩) (fun _ R s => s.heap.get? l = some { cls := .type "tuple", dict := none, data := .seq (v :: vr).toArray n, slots := #[] } ∧ R (.ok (.ret (.ref s.heap.objs.size))) { s with heap := s.heap.push { cls := .type "tuple", data := .seq #[] } }) :=
  .of_wp fun prog w A R s h => by
    obtain ⟨hp, g, d, tk, os⟩ := s; obtain ⟨hl, h⟩ := h
    wp_walk using AutoSeq1.wpAny_loadPart' hl
    exact ⟨_, rfl, h⟩
theorem int_rmul_tuple (z : Int) (t : Tok) (l : Addr) (vals : Array Value) (n : Nat) :
    Meets (Builtin.«int.__rmul__» ⟨[.int z t, .ref l], []⟩) (fun _ R s => s.heap.get? l = some { cls := .type "tuple", dict := none, data := .seq vals n, slots := #[] } ∧ R (.ok (.ret Value.notImplemented)) s) :=
  .of_wp fun prog w A R s h => by obtain ⟨hp, g, d, tk, os⟩ := s; obtain ⟨hl, h⟩ := h; wp_walk; exact ⟨_, rfl, h⟩
theorem W.mul_tup0 {x : AV} {u : Tok} {Q : Value → Vars → Led → Prop} (hm : (a, .tup (x :: as)) ∈ led) (h : ∀ b, Q (.ref b) vs ((b, .tup []) :: led)) : W D A L (binaryOp .Mult (.ref a) (.int 0 u)) Q vs led := fun s R => by
  obtain ⟨vals, n, hi, hl⟩ := R.tupAt (.tail _ hm)
  cases hi with
  | @cons _ _ v vr h0 h1 =>
    refine wpAny_binaryOp_repeat_ref (T := "tuple") (U := "int") (by decide) ⟨_, hl, rfl⟩ (fun s' => typeIs_int s' 0 u) noFill_tuple_mul F.fills_int_mul F.slot_int_rmul repeat_tuple F.slot_int_index.lookup ?_
    refine call_meets F.slot_int_rmul (typeIs_int _ _ _) F.entry_int_rmul (F.args_int_rmul_2 _ _) (int_rmul_tuple 0 u a _ n) ⟨hl, rfl, ⟨_, hl, rfl⟩, ?_⟩
    refine call_meets F.slot_tuple_mul ⟨_, hl, rfl⟩ F.entry_tuple_mul (F.args_tuple_mul_2 _ _) (tuple_mul0 a v vr n u) ⟨hl, ?_⟩
    exact ⟨vs, _, R.pushed (ob := .tup []) (tk := s.toks) rfl ⟨[], 0, .nil, rfl⟩, h _⟩
end
end Mine
end
section
open PySem PySem.W PySem.Calls PyProof.Rows
set_option maxRecDepth 100000
set_option autoImplicit false
set_option linter.unusedVariables false
namespace Mine
theorem meets_enumT (l : Addr) (items : Array Value) (n : Nat) :
    Meets (Builtin.«enumerate.__new__» ⟨[.type "enumerate", .ref l], []⟩) (fun _ R s => s.heap.get? l = some { cls := .type "tuple", dict := none, data := .seq items n, slots := #[] } ∧
      R (.ok (.ret (.ref (s.heap.push { cls := .type "tuple_iterator", data := .fields #[.ref l, .int 0 0] }).objs.size)))
        { s with heap := (s.heap.push { cls := .type "tuple_iterator", data := .fields #[.ref l, .int 0 0] }).push { cls := .type "enumerate", data := .fields #[.none, .bool false, .ref s.heap.objs.size, rawInt 0, .none, .none] } }) :=
  .of_wp fun prog w A R s h => by
    obtain ⟨hp, g, d, tk, os⟩ := s; obtain ⟨hl, h⟩ := h
    have hsub := sub_enumerate
    have hL : Heap.IsTuple (Shared.heap ⟨hp, g, d, tk, os⟩) l items := ⟨_, hl, rfl, n, rfl⟩
    wp_walk using AutoSeq1.wpAny_loadPart' hl
    refine wpAny_stack_any fun st => wpAny_pure ?_
    split
    · rename_i c _ _ _ _ _
      cases (c == Value.type "enumerate")
      · wp_walk using AutoSeq1.wpAny_loadPart' hl, wpAny_pyIter_tuple hL
        exact ⟨_, rfl, h⟩
      · wp_walk using AutoSeq1.wpAny_loadPart' hl, wpAny_pyIter_tuple hL
        exact ⟨_, rfl, h⟩
    · wp_walk using AutoSeq1.wpAny_loadPart' hl, wpAny_pyIter_tuple hL
      exact ⟨_, rfl, h⟩
section
variable {prog : Program} {w : World} {A : Around} {E : Value → Shared → Prop} {s : Shared}
theorem nextOf_tup_item {it t : Addr} {i : Nat} {items : Array Value} {x : Value} {Q : Value → Shared → Prop} (hit : s.heap.IsTupleIter it t i) (ht : s.heap.IsTuple t items) (hx : items[i]? = some x)
    (hQ : ∀ h', h'.IsTupleIter it t (i + 1) → Heap.SameBut it s.heap h' → Q x { s with heap := h' }) : wpAny (model prog w) A (Builtin.SmallTypes.nextOf (.ref it)) Q E s := by
  obtain ⟨o, ho, hc, hd⟩ := id hit
  obtain ⟨ol, hol, _, nl, hdl⟩ := ht
  unfold Builtin.SmallTypes.nextOf
  refine wpAny_bind (wpAny_callSpecial?_slot (name := Str.ofString "__next__") hit.typeIs F.slot_tuple_iterator_next
    (wpAny_call_entry F.slot_tuple_iterator_next hit.typeIs F.entry_tuple_iterator_next ?_ (F.args_tuple_iterator_next_1 _)))
  show wpAny _ _ (field (.ref it) 0 >>= _) _ _ s
  refine wpAny_bind (wpAny_field ho hd (x := .ref t) rfl ?_)
  show wpAny _ _ (if (Value.ref t == Value.none) = true then _ else _) _ _ s
  rw [if_neg (show ¬ ((Value.ref t == Value.none) = true) from Bool.false_ne_true)]
  show wpAny _ _ (field (.ref it) 1 >>= _) _ _ s
  refine wpAny_bind (wpAny_field ho hd (x := .int i 0) rfl ?_)
  show wpAny _ _ (seqItems? (.ref t) >>= _) _ _ s
  refine wpAny_bind (wpAny_seqItems hol hdl ?_)
  simp only [Int.toNat_natCast, hx]
  refine wpAny_bind (wpAny_setField ho hd (by simp) (wpAny_pure ⟨x, rfl, wpAny_pure (hQ _ ?_ (Heap.SameBut.update ..))⟩))
  exact ⟨_, Heap.get?_update_self _ ho (Obj.isFreed_of_fields (Obj.data_mapFields hd _)), (Obj.cls_mapFields ..).trans hc, by rw [Obj.data_mapFields hd]; simp [rawInt]⟩
theorem nextOf_tup_end {it t : Addr} {i : Nat} {items : Array Value} {Q : Value → Shared → Prop} (hh : A.handled = none) (hit : s.heap.IsTupleIter it t i) (ht : s.heap.IsTuple t items) (hx : items[i]? = none)
    (hE : ∀ h' e, Heap.ExtBut it s.heap h' → (∃ o, h'.get? e = some o ∧ o.cls = .type "StopIteration") → E (.ref e) { s with heap := h' }) : wpAny (model prog w) A (Builtin.SmallTypes.nextOf (.ref it)) Q E s := by
  obtain ⟨o, ho, hc, hd⟩ := id hit
  obtain ⟨ol, hol, _, nl, hdl⟩ := ht
  unfold Builtin.SmallTypes.nextOf
  refine wpAny_bind (wpAny_callSpecial?_slot (name := Str.ofString "__next__") hit.typeIs F.slot_tuple_iterator_next
    (wpAny_call_entry F.slot_tuple_iterator_next hit.typeIs F.entry_tuple_iterator_next ?_ (F.args_tuple_iterator_next_1 _)))
  show wpAny _ _ (field (.ref it) 0 >>= _) _ _ s
  refine wpAny_bind (wpAny_field ho hd (x := .ref t) rfl ?_)
  show wpAny _ _ (if (Value.ref t == Value.none) = true then _ else _) _ _ s
  rw [if_neg (show ¬ ((Value.ref t == Value.none) = true) from Bool.false_ne_true)]
  show wpAny _ _ (field (.ref it) 1 >>= _) _ _ s
  refine wpAny_bind (wpAny_field ho hd (x := .int i 0) rfl ?_)
  show wpAny _ _ (seqItems? (.ref t) >>= _) _ _ s
  refine wpAny_bind (wpAny_seqItems hol hdl ?_)
  simp only [Int.toNat_natCast, hx]
  refine wpAny_bind (wpAny_rule (wpAny_bind (wpAny_setField ho hd (by simp) ?_)))
  show wpAny _ _ (newExc (.type "StopIteration") [] >>= _) _ _ _
  refine wpAny_bind ?_
  simp only [newExc, newTuple]
  refine wpAny_bind (wpAny_newObj_type ?_ (by size_fits))
  refine wpAny_bind (m := firstArgMember _ _) (wpAny_of_eq (a := Value.none) (by first | rfl | (simp only [firstArgMember]; rfl)) ?_)
  refine wpAny_newObj_type ?_ (by size_fits)
  simp only [raiseNew]
  refine wpAny_bind (wpAny_handled ?_)
  first | rw [show A.in1.handled = none from hh] | rw [hh]
  refine wpAny_bind (wpAny_pure (wpAny_throw ?_))
  exact hE _ _ (((Heap.SameBut.update ..).extBut.push _).push _) ⟨_, Heap.get?_push_size _ rfl, rfl⟩
end
theorem drawsT {prog : Program} {w : World} {A : Around} (hh : A.handled = none) (it t : Addr) (hne : t ≠ it) (items : Array Value) :
    Draws prog w A it [it, t] items.size (fun i v => items[i]? = some v) (fun i h => h.IsTupleIter it t i ∧ h.IsTuple t items) where
  live := fun _ _ st => let ⟨o, ho, _⟩ := st.1; ⟨o, ho⟩
  frame := fun _ _ _ st hk => ⟨let ⟨o, ho, r⟩ := st.1; ⟨o, hk it (by simp) o ho, r⟩, let ⟨o, ho, r⟩ := st.2; ⟨o, hk t (by simp) o ho, r⟩⟩
  item := fun i s Q E hi st hQ => by
    refine nextOf_tup_item st.1 st.2 (x := items[i]) (by simp [hi]) fun h' hit' hs' => ?_
    exact hQ _ h' s.toks (by simp [hi]) ⟨hit', st.2.extBut hs'.extBut hne⟩ hs'
  done := fun s Q E st hE => nextOf_tup_end hh st.1 st.2 (by simp) hE
section
variable {D : Wd} {A : Around} {L : Addr} {vs : Vars} {led led' : Led} {env : Env} {a it e : Addr} {as : List AV} {s : Shared}
theorem W.call_enumT {Q : Value → Vars → Led → Prop} (hm : (a, .tup as) ∈ led) (h : ∀ e it, Q (.ref e) vs ((e, enumOb it 0) :: (it, tupIt a 0) :: led)) : W D A L (PySem.call (.type "enumerate") [.ref a]) Q vs led := fun s R => by
  obtain ⟨vals, n, hi, hl⟩ := R.tupAt (.tail _ hm)
  refine callType_new F.called_enumerate (by decide) (F.typeCall_enumerate_1 _) (F.newCall_enumerate_1 _) (fun obj => F.args_object_init_2 obj _) F.entry_enumerate_new
    (meets_enumT a vals.toArray n) ⟨hl, ?_⟩
  have R1 := R.pushed (ob := tupIt a 0) (tk := s.toks) (o := { cls := .type "tuple_iterator", data := .fields #[.ref a, .int 0 0] }) rfl ⟨rfl, rfl⟩
  have R2 := R1.pushed (ob := enumOb s.heap.objs.size 0) (tk := s.toks) (o := { cls := .type "enumerate", data := .fields #[.none, .bool false, .ref s.heap.objs.size, rawInt 0, .none, .none] }) rfl ⟨.none, rfl⟩
  exact ⟨⟨_, Heap.get?_push_size _ rfl, rfl⟩, vs, _, R2, h _ _⟩
theorem tupIt.at {i : Nat} (R : Rep D led s) (hm : (it, tupIt a i) ∈ led) : s.heap.IsTupleIter it a i := by
  obtain ⟨o, ho, h1, h2⟩ := R.own _ hm
  exact ⟨o, ho, h1, h2⟩
theorem Feeds.enumT {n : Nat} {elts : List Expr} {x1 : Nat} {pos : Pos} (hr : Room A n) : Feeds D A L e (.Tuple elts x1 pos) as (fun i => [(e, enumOb it i), (it, tupIt a i)]) (fun led => (a, .tup as) ∈ led) (fun i x v new => ∃ T, v = .ref T ∧ new = [(T, .tup [.int i, x])]) where
  next := fun i x vs led s hx hm R => by
    obtain ⟨vals, n, hi, hl⟩ := R.tupAt (.tail _ (.tail _ (.tail _ hm)))
    obtain ⟨v, hv, hq⟩ := hi.get hx
    obtain ⟨old, he⟩ := enumOb.at R (.tail _ (.head _))
    have hit := tupIt.at R (.tail _ (.tail _ (.head _)))
    have nd := R.nodup
    have lt : ∀ p ∈ (L, Ob.ns vs) :: ([(e, enumOb it i), (it, tupIt a i)] ++ led), p.1 < s.heap.objs.size := fun p hp => R.lt hp
    simp only [List.map_cons, List.cons_append, List.nil_append, List.nodup_cons, List.mem_cons, not_or] at nd
    have hat : a ∈ led.map (·.1) := List.mem_map_of_mem (f := (·.1)) hm
    have hae : a ≠ e := fun q => nd.2.1.2 (q ▸ hat)
    have hai : a ≠ it := fun q => nd.2.2.1 (q ▸ hat)
    have hT : s.heap.IsTuple a vals.toArray := ⟨_, hl, rfl, n, rfl⟩
    have hlt : i < vals.toArray.size := by
      rw [List.size_toArray]
      rcases Nat.lt_or_ge i vals.length with q | q
      · exact q
      · rw [List.getElem?_eq_none q] at hv; cases hv
    refine wpAny_pyNext_enum_itemD (drawsT (A := A.in1) hr.2.2 it a hai vals.toArray) he ⟨hit, hT⟩ hlt nd.2.1.1 (by simp only [List.mem_cons, List.not_mem_nil, or_false, not_or]; exact ⟨nd.2.1.1, Ne.symm hae⟩) fun x' h' tk hx' ho hst' hT' hsz hk => ⟨_, rfl, ?_⟩
    have hxx : x' = v := by
      have e1 : vals[i]? = some x' := by simpa using hx'
      rw [hv] at e1; exact (Option.some.inj e1).symm
    subst hxx
    refine wpAny_letOwnedTupleGo_enum ho fun h2 he2 hs2 => ⟨_, ⟨_, rfl, rfl⟩, ?_⟩
    have l1 := lt _ (.head _)
    have l2 := lt _ (.tail _ (.head _))
    have l3 := lt _ (.tail _ (.tail _ (.head _)))
    have keep2 : ∀ b o, b ≠ e → b ≠ it → s.heap.get? b = some o → h2.get? b = some o := fun b o n1 n2 q => (hs2.2 b n1).trans (hk b o n1 n2 q)
    have n3 : ∀ q : Addr × Ob, q ∈ led → q.1 ≠ e ∧ q.1 ≠ it := fun q hq => ⟨fun h => nd.2.1.2 (h ▸ List.mem_map_of_mem hq), fun h => nd.2.2.1 (h ▸ List.mem_map_of_mem hq)⟩
    refine R.redo (led' := (L, .ns vs) :: (s.heap.objs.size, .tup [.int i, x]) :: (e, enumOb it (i + 1)) :: (it, tupIt a (i + 1)) :: led) [e, it] (fun b hb => ?_) (fun b o hb q => ?_) (fun p hp => ?_) (fun p hp => ?_) ?_
    · rcases List.mem_cons.mp hb with rfl | hb
      · simp
      · rw [List.mem_singleton] at hb; subst hb; simp
    · simp only [List.mem_cons, List.not_mem_nil, or_false, not_or] at hb
      exact keep2 b o hb.1 hb.2 q
    · rcases List.mem_cons.mp hp with rfl | hp
      · obtain ⟨o, ho, k⟩ := R.own _ (.head _); exact ⟨o, keep2 _ _ nd.1.1 nd.1.2.1 ho, k⟩
      rcases List.mem_cons.mp hp with rfl | hp
      · exact ⟨_, (hs2.2 _ (ltne l2 (Nat.le_refl _)).symm).trans hT', _, _, .cons ⟨_, rfl⟩ (.cons hq .nil), rfl⟩
      rcases List.mem_cons.mp hp with rfl | hp
      · exact ⟨_, he2, _, rfl⟩
      rcases List.mem_cons.mp hp with rfl | hp
      · obtain ⟨o, ho, k1, k2⟩ := hst'.1; exact ⟨o, (hs2.2 _ (Ne.symm nd.2.1.1)).trans ho, k1, k2⟩
      · obtain ⟨o, ho, k⟩ := R.own _ (.tail _ (.tail _ (.tail _ hp))); exact ⟨o, keep2 _ _ (n3 p hp).1 (n3 p hp).2 ho, k⟩
    · rcases List.mem_cons.mp hp with rfl | hp
      · exact .inl (by simp)
      rcases List.mem_cons.mp hp with rfl | hp
      · exact .inr (Nat.le_refl _)
      · exact .inl (by
          rcases List.mem_cons.mp hp with rfl | hp
          · simp
          rcases List.mem_cons.mp hp with rfl | hp
          · simp
          · exact List.mem_map_of_mem (.tail _ (.tail _ (.tail _ hp))))
    · have l4 : s.heap.objs.size ∉ led.map (·.1) := fun hm => by
        obtain ⟨p, hp, e⟩ := List.mem_map.mp hm
        exact ltne (lt p (.tail _ (.tail _ (.tail _ hp)))) (Nat.le_refl _) e
      simp only [List.map_cons, List.nodup_cons, List.mem_cons, not_or]
      simp only at l1 l2 l3
      exact ⟨⟨ltne l1 (Nat.le_refl _), nd.1⟩, ⟨(ltne l2 (Nat.le_refl _)).symm, (ltne l3 (Nat.le_refl _)).symm, l4⟩, nd.2⟩
  done := fun vs led s hm R => by
    obtain ⟨vals, n, hi, hl⟩ := R.tupAt (.tail _ (.tail _ (.tail _ hm)))
    have hlen := hi.length
    obtain ⟨old, he⟩ := enumOb.at R (.tail _ (.head _))
    have hit := tupIt.at R (.tail _ (.tail _ (.head _)))
    have nd := R.nodup
    simp only [List.map_cons, List.cons_append, List.nil_append, List.nodup_cons, List.mem_cons, not_or] at nd
    have hat : a ∈ led.map (·.1) := List.mem_map_of_mem (f := (·.1)) hm
    have hai : a ≠ it := fun q => nd.2.2.1 (q ▸ hat)
    have hT : s.heap.IsTuple a vals.toArray := ⟨_, hl, rfl, n, rfl⟩
    rw [← hlen] at hit
    refine wpAny_pyNext_enum_endD (drawsT (A := A.in1) hr.2.2 it a hai vals.toArray) he (by simpa using ⟨hit, hT⟩) fun h' hx => ⟨rfl, ?_⟩
    exact (EndIs.extBut (tk := s.toks) (R.perm (List.Perm.cons _ (List.Perm.swap ..))) hx).sub (.cons (.skip (.refl _)))
end
end Mine
end
section
open PySem PySem.W PySem.Calls PyProof.Rows
set_option maxRecDepth 100000
set_option autoImplicit false
set_option linter.unusedVariables false
namespace Mine
/-- no heap at all: with it the library's rules on frames and news speak of any heap -/
def e0 : Heap := {}
theorem e0_none (a : Addr) : e0.get? a = none := by
  cases q : e0.get? a with
  | none => rfl
  | some o => exact absurd (Heap.lt_size q) (Nat.not_lt_zero _)
def others (h : Heap) (L : Addr) : List (Addr × Obj) := (List.range h.objs.size).filterMap fun b => if b = L then none else (h.get? b).map fun o => (b, o)
theorem others_mem {h : Heap} {L b : Addr} {o : Obj} : (b, o) ∈ others h L ↔ b ≠ L ∧ h.get? b = some o := by
  unfold others
  rw [List.mem_filterMap]
  constructor
  · rintro ⟨c, -, hc⟩
    split at hc
    · cases hc
    · rename_i hn
      cases q : h.get? c with
      | none => rw [q] at hc; cases hc
      | some o' =>
        rw [q] at hc
        cases hc
        exact ⟨hn, q⟩
  · rintro ⟨hn, e⟩
    exact ⟨b, List.mem_range.mpr (Heap.lt_size e), by rw [if_neg hn, e]; rfl⟩
theorem others_fr {h : Heap} {L : Addr} {m : Str → Option Value} (hn : h.Ns L m) : Fr e0 L h m := ⟨hn, fun b o e => (by rw [e0_none] at e; cases e), Nat.zero_le _⟩
theorem others_news (h : Heap) (L : Addr) : News e0 L h (others h L) := fun p hp => by
  obtain ⟨b, o⟩ := p
  obtain ⟨h1, h2⟩ := others_mem.mp hp
  exact ⟨h2, h1, e0_none _⟩
theorem kas2 {cmp : Nat → Nat → (Bool → Shared → Prop) → Shared → Prop} {Q : Array Nat → Shared → Prop} {s : Shared} (mono : ∀ (P P' : Bool → Shared → Prop) s, (∀ b s', P b s' → P' b s') → cmp 1 0 P s → cmp 1 0 P' s)
    (h : cmp 1 0 (fun b s' => b = false ∧ Q #[0, 1] s') s) : (kas_sort 2).kasWp cmp Q s := by
  unfold kas_sort kas_count
  have hr : List.toArray (List.range 2) = #[0, 1] := rfl
  rw [hr]
  show cmp 1 0 _ s
  refine mono _ _ _ (fun b s' hb => ?_) h
  obtain ⟨rfl, q⟩ := hb
  exact q
section
variable {D : Wd} {A : Around} {L : Addr} {vs : Vars} {led led' : Led} {env : Env} {a it e d : Addr} {as : List AV} {ks : List (Int × Int)} {s : Shared}
theorem Rep.ofNews {new : Led} {X : List (Addr × Obj)} {h' : Heap} {tk : Nat} {m : Str → Option Value} (R : Rep D ((L, .ns vs) :: led) s) (hm : ∀ x, OptIs ((vs.lookup x).join) (m x)) (F : Fr e0 L h' m) (N : News e0 L h' (X ++ others s.heap L))
    (hX : ∀ p ∈ new, (∃ o, (p.1, o) ∈ X ∧ p.2.ok o) ∧ ∀ q ∈ others s.heap L, q.1 < p.1) (hn : (new.map (·.1)).Nodup) : Rep D ((L, .ns vs) :: (new ++ led)) { s with heap := h', toks := tk } := by
  have nd := R.nodup
  rw [List.map_cons, List.nodup_cons] at nd
  have lo : ∀ p ∈ led, ∃ o, (p.1, o) ∈ others s.heap L ∧ p.2.ok o := fun p hp => by
    obtain ⟨o, ho, k⟩ := R.own _ (.tail _ hp)
    exact ⟨o, others_mem.mpr ⟨fun q => nd.1 (q ▸ List.mem_map_of_mem (f := (·.1)) hp), ho⟩, k⟩
  have bo : ∀ b o, D.B.get? b = some o → (b, o) ∈ others s.heap L := fun b o e => others_mem.mpr ⟨fun q => by
    have e2 := R.fresh _ (.head _)
    rw [q, e2] at e
    exact absurd e (by simp), R.keep _ _ e⟩
  refine ⟨fun b o e => (N _ (List.mem_append_right _ (bo b o e))).1, fun p hp => ?_, fun p hp => ?_, ?_, R.os, R.gk, R.bare⟩
  · rcases List.mem_cons.mp hp with rfl | hp
    · obtain ⟨o, es, ep, ho, hd, hk, hq⟩ := F.ns
      exact ⟨o, ho, R.vnodup, es, ep, hd, hk, fun x => by rw [hq]; exact hm x⟩
    rcases List.mem_append.mp hp with hp | hp
    · obtain ⟨⟨o, ho, k⟩, -⟩ := hX p hp
      exact ⟨o, (N _ (List.mem_append_left _ ho)).1, k⟩
    · obtain ⟨o, ho, k⟩ := lo p hp
      exact ⟨o, (N _ (List.mem_append_right _ ho)).1, k⟩
  · rcases List.mem_cons.mp hp with rfl | hp
    · exact R.fresh _ (.head _)
    rcases List.mem_append.mp hp with hp | hp
    · cases q : D.B.get? p.1 with
      | none => rfl
      | some o => exact absurd ((hX p hp).2 _ (bo _ _ q)) (Nat.lt_irrefl _)
    · exact R.fresh _ (.tail _ hp)
  · rw [List.map_cons, List.map_append, List.nodup_cons, List.mem_append, not_or, List.nodup_append]
    refine ⟨⟨fun hq => ?_, nd.1⟩, hn, nd.2, fun x hx y hy q => ?_⟩
    · obtain ⟨p, hp, q⟩ := List.mem_map.mp hq
      obtain ⟨⟨o, ho, k⟩, -⟩ := hX p hp
      exact (N _ (List.mem_append_left _ ho)).2.1 q
    · subst q
      obtain ⟨p, hp, rfl⟩ := List.mem_map.mp hx
      obtain ⟨r, hr, e⟩ := List.mem_map.mp hy
      obtain ⟨o, ho, k⟩ := lo r hr
      have := (hX p hp).2 _ ho
      rw [e] at this
      exact absurd this (Nat.lt_irrefl _)
def viewOb (d : Addr) : Ob := .raw { cls := .type "dict_items", data := .fields #[.ref d] }
theorem W.dict_items {Q : Value → Vars → Led → Prop} (hm : (d, dictI D ks) ∈ led) (hd : (d == sysModules) = false) (h : ∀ v, Q (.ref v) vs ((v, viewOb d) :: led)) : W D A L (PySem.call (.builtin "dict.items") [.ref d]) Q vs led := fun s R => by
  obtain ⟨vals, rfl, ho⟩ := R.dictAt (.tail _ hm)
  exact call_meetsIn F.slot_dict_items ho.typeIs F.entry_dict_items (F.args_dict_items_1 _) (meets_dict_items (intKind PG D.w) d hd) ⟨⟨_, ho⟩, vs, _, R.pushed (ob := viewOb d) (tk := s.toks) rfl rfl, h _⟩
theorem W.sorted2 {v : Addr} {x y : Int} {n : Nat} {Q : Value → Vars → Led → Prop} (hr : Room A n) (hv : (v, viewOb d) ∈ led) (hm : (d, dictI D [(0, x), (1, y)]) ∈ led)
    (h : ∀ B t1 t2, Q (.ref B) vs ((B, .list [.ref t1, .ref t2]) :: (t1, .tup [.int 0, .int x]) :: (t2, .tup [.int 1, .int y]) :: led)) : W D A L (PySem.call (.builtin "sorted") [.ref v]) Q vs led := fun s R => by
  have nd := R.nodup
  rw [List.map_cons, List.nodup_cons] at nd
  obtain ⟨m, hns, hmm⟩ := R.frame
  obtain ⟨ov, hov, rfl⟩ := R.own _ (.tail _ hv)
  obtain ⟨od, hod, vals, hvals, hdict⟩ := R.own _ (.tail _ hm)
  have hvL : v ≠ L := fun q => nd.1 (q ▸ List.mem_map_of_mem (f := (·.1)) hv)
  have hdL : d ≠ L := fun q => nd.1 (q ▸ List.mem_map_of_mem (f := (·.1)) hm)
  obtain ⟨k0, k1, rfl, e0', e1'⟩ : ∃ k0 k1 : Tok, vals = [(0, x, k0), (1, y, k1)] ∧ True ∧ True := by
    match vals, hvals with
    | [(i, xi, t0), (j, yj, t1)], hvals =>
      simp only [List.map_cons, List.map_nil, List.cons.injEq, Prod.mk.injEq, and_true] at hvals
      obtain ⟨⟨rfl, rfl⟩, rfl, rfl⟩ := hvals
      exact ⟨t0, t1, rfl, trivial, trivial⟩
  refine kdx_sortedN (knd := intKind PG D.w) (K := Int) (enc := fun i => .int i) (od := od) (kvs := intPairs [(0, x, k0), (1, y, k1)]) (ps := [(kyVal (.int 0), .int x k0), (kyVal (.int 1), .int y k1)]) hr.2.2 (others_fr hns) (others_news s.heap L) (others_mem.mpr ⟨hvL, hov⟩) (others_mem.mpr ⟨hdL, hod⟩) hdict (by simp [intPairs]) ?_ rfl ?_
  · intro k u hk
    cases u with
    | int i t =>
      have : i = k := by simpa [intKind, Value.isInt] using hk
      exact ⟨t, by rw [this]; rfl⟩
    | _ => exact absurd hk (by simp [intKind, Value.isInt])
  · intro lo hlo
    refine KdxOpen.cons fun a1 t1 l1 g1 _ => KdxOpen.cons fun a2 t2 l2 g2 g12 => KdxOpen.nil fun B h' tk hB F' N' => ?_
    have n12 : a1 < a2 := g12 (a1, _) (.head _)
    have n1B : a1 < B := hB (a1, _) (List.mem_append_left _ (.tail _ (.head _)))
    have n2B : a2 < B := hB (a2, _) (List.mem_append_left _ (.head _))
    refine kat_lsort (vs := [.ref a1, .ref a2]) F' N' (.head fun p hp => Nat.ne_of_lt (hB p hp)) rfl (Nat.le_refl _) (Nat.le_of_ble_eq_true rfl) fun e1 h2 F2 N2 => ?_
    have o2 := (N2 (a2, _) (.tail _ (List.mem_append_left _ (.head _)))).1
    have o1 := (N2 (a1, _) (.tail _ (List.mem_append_left _ (.tail _ (.head _))))).1
    refine kat_kind (fs := [.int 0 t1, .int 1 t2]) (T := .type "int") (KatTups.cons (xs := #[.int 0 t1, .int x k0]) o1 rfl rfl rfl (KatTups.cons (xs := #[.int 1 t2, .int y k1]) o2 rfl rfl rfl KatTups.nil)) (Nat.le_of_ble_eq_true rfl) (fun w hw => ?_) (by decide) ?_
    · rcases List.mem_cons.mp hw with rfl | hw
      · exact .now
      rcases List.mem_cons.mp hw with rfl | hw
      · exact .now
      · cases hw
    · refine kas2 (fun P P' s hP q => wpAny_mono q (fun b s' hb => hP b s' hb) fun _ _ x => x) ?_
      refine wpAny_mono (Q := fun b s3 => b = false ∧ s3 = { s with heap := h2, toks := tk }) (kat_lt (x := a2) (y := a1) (xs := #[.int 1 t2, .int y k1]) (ys := #[.int 0 t1, .int x k0]) o2 rfl o1 rfl (kat_cons (wpAny_eqBool_int (kat_no ?_)))) (fun b s3 hb => ?_) fun _ _ q => q
      · exact oneLt_int ⟨by decide, rfl⟩
      · obtain ⟨rfl, rfl⟩ := hb
        refine ⟨rfl, ?_⟩
        show KasFin e0 L m B e1 [.ref a1, .ref a2] _ _
        refine KasFin.intro F2 N2 (.head fun p hp => Nat.ne_of_lt (hB p hp)) fun h3 c F3 N3 => ?_
        refine ⟨vs, _, Rep.ofNews (s := s) (new := [(B, .list [.ref a1, .ref a2]), (a1, .tup [.int 0, .int x]), (a2, .tup [.int 1, .int y])]) (X := (B, _) :: ([(a2, _), (a1, _)])) (tk := tk) R hmm F3 (by simpa using N3) (fun p hp => ?_) ?_, h B a1 a2⟩
        · rcases List.mem_cons.mp hp with rfl | hp
          · exact ⟨⟨_, .head _, [.ref a1, .ref a2], c, .cons rfl (.cons rfl .nil), rfl⟩, fun q hq => hB q (List.mem_append_right _ hq)⟩
          rcases List.mem_cons.mp hp with rfl | hp
          · exact ⟨⟨_, .tail _ (.tail _ (.head _)), _, 0, .cons ⟨_, rfl⟩ (.cons ⟨_, rfl⟩ .nil), rfl⟩, fun q hq => g1 q hq⟩
          rcases List.mem_cons.mp hp with rfl | hp
          · exact ⟨⟨_, .tail _ (.head _), _, 0, .cons ⟨_, rfl⟩ (.cons ⟨_, rfl⟩ .nil), rfl⟩, fun q hq => g2 q hq⟩
          · cases hp
        · simp only [List.map_cons, List.map_nil, List.nodup_cons, List.mem_cons, List.not_mem_nil, or_false, not_or, not_false_eq_true, List.nodup_nil, and_true]
          exact ⟨⟨Nat.ne_of_gt n1B, Nat.ne_of_gt n2B⟩, Nat.ne_of_lt n12⟩
end
end Mine
end
section
open PySem PySem.W PySem.Calls PyProof.Rows
set_option maxRecDepth 100000
set_option autoImplicit false
set_option linter.unusedVariables false
namespace Mine
/-- a table of code objects, with whatever is in it -/
def tabG : Ob := .sat fun o => ∃ ps, o = tabObj ps ∧ TriplesOk ps.toList
section
variable {M : Model} {A : Around} {E : Value → Shared → Prop} {s : Shared}
theorem wp_genCode {env : Env} {c P : Addr} {ps : Array Value} {pos : Pos} {q : Str} {scope : Scope} {Q : Value → Shared → Prop} (hc : env.code = .ref c) (C : CodeHd s.heap c P) (hP : s.heap.get? P = some (tabObj ps)) (ht : TriplesOk ps.toList)
    (hQ : ∀ code h' tk ps', Heap.ExtBut P s.heap h' → s.heap.objs.size ≤ h'.objs.size → h'.get? P = some (tabObj ps') → TriplesOk ps'.toList → Q code { s with heap := h', toks := tk }) : wpAny M A (genexprCode env pos q scope) Q E s := by
  cases hnf : codeAmong pos ps.toList with
  | none =>
    refine wpAny_genexprCodeX hc (C.code hP ht) (C.tab hP) hnf fun c' h' tk hx hge hlt hcode hrec htab _ => hQ _ h' tk _ hx (Nat.le_trans hge (Nat.le_of_lt hlt)) htab.2 ?_
    rw [Array.toList_append]
    exact TriplesOk_snoc _ _ _ _ ht
  | some cv =>
    obtain ⟨o, vs, file, tf, flags, tg, inF, text, tt, ho, hcl, hd, h11a, h11, h2, h7, h9, h10, hne⟩ := C
    unfold genexprCode codeAt
    rw [hc, if_neg (show ¬ ((Value.ref c == Value.none) = true) from Bool.false_ne_true)]
    refine wpAny_bind (wpAny_fieldsOf ho hd ?_)
    rw [h11]
    refine wpAny_bind (wpAny_fieldsOf hP rfl ?_)
    rw [hnf]
    exact wpAny_pure (hQ cv s.heap s.toks ps (fun b o _ e => e) (Nat.le_refl _) hP ht)
theorem wp_callM {pos : Pos} {f : Value} {first : List Value} {x : Sem Value} {Q : Value → Shared → Prop} (hk : keeperOf f = Pure.pure .machine) (h : wpAny M A x (fun v s' => wpAny M A (PySem.call f (first ++ [v])) Q E s') E s) :
    wpAny M A (PySem.callWith pos f first [(false, x)] []) Q E s := by
  unfold PySem.callWith
  refine wpAny_bind (wpAny_holding (Calls.evalArgs_plain (Calls.spliced_cons (wpAny_mono h (fun v s1 h1 => Calls.spliced_nil (wpAny_bind (wpAny_standAt ?_))) fun _ _ x => x))))
  rw [hk]
  refine wpAny_bind (wpAny_pure ?_)
  dsimp only [List.any_cons, List.any_nil, Bool.or_false]
  refine wpAny_bind (wpAny_mono h1 (fun r s2 q => wpAny_bind (wpAny_holding (wpAny_point (wpAny_pure q)))) fun _ _ x => x)
end
section
variable {D : Wd} {A : Around} {L : Addr} {vs : Vars} {led led' : Led} {env : Env} {a it e d P : Addr} {as : List AV} {s s' : Shared}
theorem Rep.after (R : Rep D ((L, .ns vs) :: led) s) (hP : (P, tabG) ∈ led) (keep : ∀ b o, b ≠ P → s.heap.get? b = some o → s'.heap.get? b = some o) (tab : ∃ ps, s'.heap.get? P = some (tabObj ps) ∧ TriplesOk ps.toList)
    (hos : s'.os = s.os) (gk : ∀ (i : Nat) (x : GenState), s.gens[i]? = some x → s'.gens[i]? = some x) (hb : AllBare s'.gens) : Rep D ((L, .ns vs) :: led) s' := by
  have hPB := R.fresh _ (.tail _ hP)
  have nd := R.nodup
  refine ⟨fun b o e => keep b o (fun q => by rw [q, hPB] at e; cases e) (R.keep _ _ e), fun p hp => ?_, R.fresh, R.nodup, hos.trans R.os, fun i x h => gk i x (R.gk i x h), hb⟩
  by_cases q : p.1 = P
  · have : p = (P, tabG) := by
      obtain ⟨p1, p2⟩ := p
      obtain rfl : p1 = P := q
      have hm : (p1, tabG) ∈ (L, Ob.ns vs) :: led := .tail _ hP
      have key : ∀ (l : Led), (l.map (·.1)).Nodup → ∀ x y z, (x, y) ∈ l → (x, z) ∈ l → y = z := by
        intro l
        induction l with
        | nil => intro _ x y z h; cases h
        | cons w r ih =>
          intro hn x y z h1 h2
          rw [List.map_cons, List.nodup_cons] at hn
          rcases List.mem_cons.mp h1 with e1 | g1
          · rcases List.mem_cons.mp h2 with e2 | g2
            · rw [← e1] at e2
              exact (Prod.mk.inj e2).2.symm
            · rw [← e1] at hn
              exact absurd (List.mem_map_of_mem (f := (·.1)) g2) hn.1
          · rcases List.mem_cons.mp h2 with e2 | g2
            · rw [← e2] at hn
              exact absurd (List.mem_map_of_mem (f := (·.1)) g1) hn.1
            · exact ih hn.2 x y z g1 g2
      rw [key _ nd _ _ _ hp hm]
    subst this
    obtain ⟨ps, h1, h2⟩ := tab
    exact ⟨_, h1, ps, rfl, h2⟩
  · obtain ⟨o, ho, k⟩ := R.own p hp
    exact ⟨o, keep _ _ q ho, k⟩
/-- tuples of two in a list -/
def PairsAt (h : Heap) (tl : List (Addr × AV × AV)) : Prop := ∀ p ∈ tl, ∃ va vb, p.2.1.is va ∧ p.2.2.is vb ∧ h.IsTuple p.1 #[va, vb]
theorem PairsAt.keeps {h h' : Heap} {tl : List (Addr × AV × AV)} (x : PairsAt h tl) (k : ∀ b ∈ tl.map (·.1), ∀ o, h.get? b = some o → h'.get? b = some o) : PairsAt h' tl := fun p hp => by
  obtain ⟨va, vb, h1, h2, o, ho, r⟩ := x p hp
  exact ⟨va, vb, h1, h2, o, k _ (List.mem_map_of_mem hp) _ ho, r⟩
theorem letGo_list {prog : Program} {w : World} {it B : Addr} {i : Nat} {target : Expr} {v : Value} {s : Shared} {Q : Unit → Shared → Prop} {E : Value → Shared → Prop} (h : s.heap.IsListIter it B i) (hq : Q () s) : wpAny (model prog w) A (letOwnedTupleGo target (.ref it) v) Q E s := by
  obtain ⟨o, ho, h1, h2⟩ := h
  unfold letOwnedTupleGo
  split
  · cases v with
    | ref b =>
      refine wpAny_bind (wpAny_load ho ?_)
      simp only [h1, h2]
      exact wpAny_pure hq
    | _ => exact wpAny_pure hq
  · cases v with
    | ref b =>
      refine wpAny_bind (wpAny_load ho ?_)
      simp only [h1, h2]
      exact wpAny_pure hq
    | _ => exact wpAny_pure hq
  · exact wpAny_pure hq
theorem walksPairs {prog : Program} {w : World} (hh : A.handled = none) (I B : Addr) (hne : B ≠ I) (tl : List (Addr × AV × AV)) (hI : I ∉ tl.map (·.1)) (items : Array Value) (hit : items.toList = tl.map fun p => Value.ref p.1) :
    WalksU prog w A I (I :: B :: tl.map (·.1)) [I] tl.length (fun i vals => ∃ p va vb, tl[i]? = some p ∧ vals = #[va, vb] ∧ p.2.1.is va ∧ p.2.2.is vb) (fun i h => h.IsListIter I B i ∧ h.IsList B items ∧ PairsAt h tl)
      (fun i T h => T ≠ I ∧ h.IsListIter I B (i + 1) ∧ h.IsList B items ∧ PairsAt h tl) where
  sub := fun b hb => by rw [List.mem_singleton] at hb; subst hb; exact .head _
  frame := fun i h h' st hk => ⟨st.1.at fun o e => hk I (.head _) o e, st.2.1.at fun o e => hk B (.tail _ (.head _)) o e, st.2.2.keeps fun b hb o e => hk b (.tail _ (.tail _ hb)) o e⟩
  item := fun i s Q E hi st hQ => by
    have hx : items[i]? = some (.ref tl[i].1) := by
      have : items.toList[i]? = some (.ref tl[i].1) := by rw [hit, List.getElem?_map, List.getElem?_eq_getElem hi]; rfl
      simpa using this
    refine wpAny_pyNext_list_item st.1 st.2.1 hx fun h' hit' hs' => ?_
    have hT : tl[i].1 ≠ I := fun q => hI (q ▸ List.mem_map_of_mem (List.getElem_mem hi))
    have hp' : PairsAt h' tl := st.2.2.keeps fun b hb o e => hs'.extBut b o (fun q => hI (q ▸ hb)) e
    obtain ⟨va, vb, h1, h2, h3⟩ := hp' _ (List.getElem_mem hi)
    exact hQ tl[i].1 #[va, vb] h' s.toks ⟨_, va, vb, List.getElem?_eq_getElem hi, rfl, h1, h2⟩ h3 ⟨hT, hit', st.2.1.extBut hs'.extBut hne, hp'⟩ fun b o hb e => hs'.extBut b o (fun q => hb (by rw [q]; exact .head _)) e
  go := fun elts k pos i T s Q E hm hQ => letGo_list hm.2.1 (hQ s.heap hm.2 fun b o _ e => e)
  apart := fun i T h hm => by rw [List.mem_singleton]; exact hm.1
  done := fun s Q E st hQ => wpAny_pyNext_list_end hh st.1 st.2.1 (by
      have : items.size = tl.length := by rw [← Array.length_toList, hit, List.length_map]
      rw [← this]; simp) fun h' he' => hQ h' s.toks fun b o hb e => he' b o (fun h => hb (by rw [h]; exact .head _)) e
  self := fun i s Q E st hQ => wpAny_pyIter_listiter st.1 hQ
theorem passing_all (n : Nat) : passing (fun _ => true) n 0 = List.range n := by
  unfold passing
  rw [List.drop_zero, List.filter_eq_self]
  intro _ _; rfl
theorem gens_moved {a b : Array GenState} {gs : GenState} {i : Nat} {x : GenState} (hm : GenOnlyQ a.size (a.push gs) b) (hx : a[i]? = some x) : b[i]? = some x := by
  have hi : i < a.size := by
    rcases Nat.lt_or_ge i a.size with q | q
    · exact q
    · rw [Array.getElem?_eq_none q] at hx; cases hx
  have h1 : (a.push gs)[i]? = some x := by rw [Array.getElem?_push_lt hi, ← hx, Array.getElem?_eq_getElem hi]
  rcases hm with rfl | ⟨⟨_, h2⟩, _⟩
  · exact h1
  · rw [h2 i (Nat.ne_of_lt hi)]; exact h1
end
end Mine
end
section
open PySem PySem.W PySem.Calls PyProof.Rows
set_option maxRecDepth 100000
set_option autoImplicit false
set_option linter.unusedVariables false
namespace Mine
section
variable {D : Wd} {A : Around} {L : Addr} {vs : Vars} {led led' : Led} {env : Env} {a it e d P c : Addr} {as : List AV} {s s' : Shared}
abbrev sc2 (x y : Str) : Scope := { kind := .function, names := [(".0", .local), (x, .local), (y, .local)], isGenerator := true, isCoroutine := false, more := [] }
abbrev sc1 (x : Str) : Scope := { kind := .function, names := [(".0", .local), (x, .local)], isGenerator := true, isCoroutine := false, more := [] }
theorem clos2 (x y : Str) (env : Env) : closureFor (sc2 x y) env = Pure.pure [] := rfl
theorem clos1 (x : Str) (env : Env) : closureFor (sc1 x) env = Pure.pure [] := rfl
theorem pairs_of (R : Rep D led s) {tl : List (Addr × AV × AV)} (h : ∀ p ∈ tl, (p.1, Ob.tup [p.2.1, p.2.2]) ∈ led) : PairsAt s.heap tl := fun p hp => by
  obtain ⟨vals, n, hi, hl⟩ := R.tupAt (h p hp)
  cases hi with
  | cons h0 h1 => cases h1 with
    | cons h2 h3 =>
      cases h3
      exact ⟨_, _, h0, h2, _, hl, rfl, n, rfl⟩
theorem allIs_of {F : Nat → AV → Prop} : ∀ (as : List AV) (l : List Value), l.length = as.length → (∀ (i : Nat) (x : AV) (v : Value), as[i]? = some x → l[i]? = some v → x.is v) → AllIs as l
  | [], [], _, _ => .nil
  | [], _ :: _, h, _ => by simp at h
  | _ :: _, [], h, _ => by simp at h
  | a :: as, v :: l, h, k => .cons (k 0 a v rfl rfl) (allIs_of (F := F) as l (by simpa using h) fun i x w h1 h2 => k (i + 1) x w (by simpa using h1) (by simpa using h2))
theorem BMod_of (R : Rep D led s) (hg : env.globals = mainGlobals) : ∃ bm ob, BMod s.heap env.globals D.mg bm ob := by
  obtain ⟨bm, ob, b1, b2, b3, b4, b5, b6⟩ := D.top.bmain
  exact ⟨bm, ob, by rw [hg]; exact D.top.g.keeps R.keep, b1, b2, R.keep _ _ b3, b4, b5, b6⟩
theorem W.tuple_gen {iter : Expr} {p1 p2 p3 p4 p5 p6 p7 : Pos} {k n : Nat} {ls gs : List Str} {Q : Value → Vars → Led → Prop} (Fd : Fn env L ls gs) (htup : ("tuple" : Str) ∈ gs) (hcode : env.code = .ref c) (C : CodeHd D.B c P) (hr : Room A n) (hs : ∀ x, genFold iter env x = Pure.pure x)
    (h : W D A L (eval iter env) (fun v vs led => ∃ (B : Addr) (tl : List (Addr × AV × AV)), v = .ref B ∧ (P, tabG) ∈ led ∧ (B, Ob.list (tl.map fun (p : Addr × AV × AV) => .ref p.1)) ∈ led ∧ (∀ p ∈ tl, (p.1, Ob.tup [p.2.1, p.2.2]) ∈ led) ∧ tl.length ≤ 1000 ∧ ∀ r, Q (.ref r) vs ((r, .tup (tl.map (·.2.2))) :: led)) vs led) :
    W D A L (eval (.Call (.Name "tuple" p1) [.GeneratorExp (.Name "y" p2) [⟨.Tuple [.Name "x" p3, .Name "y" p4] k p5, iter, [], 0⟩] (sc2 "x" "y") p6] [] p7) env) Q vs led := by
  refine W.Call_ (W.glb Fd htup gl_tuple ?_)
  intro s R
  refine wp_callM rfl ?_
  refine wpAny_GeneratorExp_walksQT hr.2.2 rfl (clos2 _ _ _) (by decide) (by decide) (by decide) (by decide) (by decide) rfl hr.depth ?_ hs
  refine wpAny_mono (h s R) (fun v s1 ⟨vs1, led1, R1, B, tl, hv, hP, hB, htl, hlen, hq⟩ => ?_) fun _ _ x => x.elim
  subst hv
  obtain ⟨vals, nB, hi, hl⟩ := R1.listAt (.tail _ hB)
  have hvals : vals = tl.map fun p => Value.ref p.1 := by
    clear hl hB htl hq hlen
    generalize hZ : (tl.map fun p => AV.ref p.1) = Z at hi
    induction hi generalizing tl with
    | nil => cases tl with
      | nil => rfl
      | cons a b => cases hZ
    | cons h0 h1 ih => cases tl with
      | nil => cases hZ
      | cons a b =>
        rw [List.map_cons] at hZ
        injection hZ with z1 z2
        subst z1
        rw [List.map_cons, ← ih b z2, show _ = Value.ref a.1 from h0]
  have hpr := pairs_of R1 (tl := tl) fun p hp => .tail _ (htl p hp)
  refine wpAny_pyIter_list (isL hl) ?_
  have hPB := R1.fresh _ (.tail _ hP)
  obtain ⟨oP, hoP, ps, rfl, htr⟩ := R1.own _ (.tail _ hP)
  have hPlt : P < s1.heap.objs.size := Heap.lt_size hoP
  have hBlt : B < s1.heap.objs.size := Heap.lt_size hl
  refine ⟨R1.nolimit.push _, ?_⟩
  refine wp_genCode hcode ((C.keeps R1.keep).keeps fun b o e => Heap.get?_push_of_some _ e) (Heap.get?_push_of_some _ hoP) htr fun code h3 tk3 ps' hx hge htab htr' => ?_
  obtain ⟨bm, ob, BM⟩ := BMod_of (env := env) R1 Fd.gl
  have hbP : bm ≠ P := fun q => by
    obtain ⟨bm2, ob2, b1, b2, b3, b4, b5, b6⟩ := D.top.bmain
    have e1 := BM.name
    rw [b1] at e1
    cases e1
    rw [q, hPB] at b3; cases b3
  have hgP : env.globals ≠ P := fun q => by
    obtain ⟨o, es, ep, e, -⟩ := D.top.g
    rw [← Fd.gl, q, hPB] at e; cases e
  refine wpAny_builtinsFor ((BM.ns.push _).extBut hx hgP) BM.name BM.ne (hx _ _ hbP (Heap.get?_push_of_some _ BM.obj)) BM.cls BM.dict BM.data ?_
  have keep3 : ∀ b o, b ≠ P → s1.heap.get? b = some o → h3.get? b = some o := fun b o hb e => hx b o hb (Heap.get?_push_of_some _ e)
  have hIsz : (s1.heap.push { cls := .type "list_iterator", data := .fields #[.ref B, .int 0 0] }).objs.size = s1.heap.objs.size + 1 := Heap.size_push ..
  have hI3 : s1.heap.objs.size < h3.objs.size := by rw [hIsz] at hge; omega
  have htlt : ∀ b ∈ tl.map (·.1), b < s1.heap.objs.size := fun b hb => by
    obtain ⟨p, hp, rfl⟩ := List.mem_map.mp hb
    obtain ⟨va, vb, _, _, o, ho, _⟩ := hpr p hp
    exact Heap.lt_size ho
  have hBP : B ≠ P := fun q => by rw [q, hoP] at hl; cases hl
  have htP : ∀ b ∈ tl.map (·.1), b ≠ P := fun b hb q => by
    obtain ⟨p, hp, rfl⟩ := List.mem_map.mp hb
    obtain ⟨va, vb, _, _, o, ho, hc, _⟩ := hpr p hp
    rw [q, hoP] at ho
    cases ho; cases hc
  have hst3 : (fun i (h : Heap) => h.IsListIter s1.heap.objs.size B i ∧ h.IsList B vals.toArray ∧ PairsAt h tl) 0 h3 :=
    ⟨⟨_, hx _ _ (Nat.ne_of_gt hPlt) (Heap.get?_push_size _ rfl), rfl, rfl⟩, ((isL hl).push _).extBut hx hBP, hpr.keeps fun b hb o e => keep3 b o (htP b hb) e⟩
  have hIn : s1.heap.objs.size ∉ tl.map (·.1) := fun hm => Nat.lt_irrefl _ (htlt _ hm)
  refine ⟨s1.heap.objs.size, s1.heap.objs.size :: B :: tl.map (·.1), [s1.heap.objs.size], tl.length, _, _, _, (fun _ => true), (fun i y => ∃ p, tl[i]? = some p ∧ p.2.2.is y), rfl, fun A' hA => walksPairs hA _ B (Nat.ne_of_lt hBlt) tl hIn vals.toArray (by rw [hvals]), ?_, hst3, ?_, ?_, ?_, ?_, ?_⟩
  · rintro i v ⟨p, va, vb, _, e, _, _⟩
    exact ⟨va, vb, e⟩
  · intro b hb
    rcases List.mem_cons.mp hb with rfl | hb
    · exact hI3
    rcases List.mem_cons.mp hb with rfl | hb
    · exact Nat.lt_trans hBlt hI3
    · exact Nat.lt_trans (htlt _ hb) hI3
  · have hcP : cStatics ≠ P := fun q => by
      obtain ⟨mc, ⟨o, es, ep, e, -⟩, -⟩ := D.top.nolimit
      rw [q, hPB] at e; cases e
    exact (R1.nolimit.push _).extBut hx hcP
  · intro hm
    rw [List.mem_singleton] at hm
    obtain ⟨mc, ⟨o, es, ep, e, -⟩, -⟩ := R1.nolimit
    exact Nat.lt_irrefl _ (hm ▸ Heap.lt_size e)
  · intro href hhref
    refine ⟨fun A' E' i va vb s2 m2 hA hPt hn hma hmb hk => wpAny_pure ⟨rfl, s2.heap, s2.toks, rfl, fun b o e => e⟩, fun A' E' i va vb s2 m2 hA hPt hpz hn hma hmb hk => ?_⟩
    refine ldG hn hmb ⟨?_, s2.heap, s2.toks, rfl, fun b o e => e⟩ rfl rfl (by decide)
    obtain ⟨p, va', vb', hp, e, h1, h2⟩ := hPt
    have : vb = vb' := by
      have := congrArg (fun l : Array Value => l.toList) e
      simp at this
      exact this.2
    exact ⟨p, hp, this ▸ h2⟩
  · intro a h5 tk gs hgb hag hsz5 hk5 Wk hat
    rw [passing_all] at Wk
    simp only [passing_all] at hat
    rw [List.length_range] at Wk
    refine call_tuple_gen (I := a) (Wk.of_in1 (A := A.in1.in1.in1)) (fun i s' st => st.1.typeIs) hat (fun b hb => ?_) (.head _) (fun s6 acc hm hacc => ?_) (by rw [sizeLine_eq]; omega)
    · show b < h5.objs.size
      rw [hsz5]
      rcases List.mem_cons.mp hb with rfl | hb
      · exact Nat.lt_succ_self _
      rcases List.mem_cons.mp hb with rfl | hb
      · exact Nat.lt_succ_of_lt hag
      · exact Nat.lt_succ_of_lt (Nat.lt_trans (List.mem_range.mp hb) hag)
    · have keep6 : ∀ b o, b < s1.heap.objs.size → h3.get? b = some o → s6.heap.get? b = some o := fun b o hb e => hm.heap b o (fun q => by
        rcases List.mem_cons.mp q with rfl | q
        · exact absurd hb (Nat.not_lt.mpr (Nat.le_of_lt hI3))
        · rw [List.mem_singleton] at q
          subst q
          exact Nat.lt_irrefl _ hb) (hk5 _ _ e)
      have hgm : GenOnlyQ s1.gens.size (s1.gens.push gs) s6.gens := hm.gens
      have R6 : Rep D ((L, .ns vs1) :: led1) s6 := R1.after hP (fun b o hb e => keep6 b o (Heap.lt_size e) (keep3 b o hb e)) ⟨ps', keep6 _ _ hPlt htab, htr'⟩ hm.os (fun i x hx => gens_moved hgm hx) (AllBare.movedS (AllBare.push R1.bare hgb) hm)
      have hall : AllIs (tl.map (·.2.2)) acc.toList := by
        refine allIs_of (F := fun _ _ => True) _ _ (by rw [Array.length_toList, hacc.1, List.length_map]) fun i x v hx hv => ?_
        obtain ⟨j, hj, p, hp, hpv⟩ := hacc.2 i v (by simpa using hv)
        rw [List.getElem?_range (by
          rcases Nat.lt_or_ge i tl.length with q | q
          · exact q
          · rw [List.getElem?_map, List.getElem?_eq_none q] at hx; cases hx)] at hj
        cases hj
        rw [List.getElem?_map, hp] at hx
        cases hx
        exact hpv
      exact ⟨vs1, _, R6.pushed (ob := .tup (tl.map (·.2.2))) (tk := s6.toks) rfl ⟨acc.toList, 0, hall, by simp⟩, hq _⟩
end
end Mine
end
section
open PySem PySem.W PySem.Calls PyProof.Rows
set_option maxRecDepth 100000
set_option autoImplicit false
set_option linter.unusedVariables false
namespace Mine
/-- the world as it is but for what is one's own -/
def Wd.grow (D : Wd) (s : Shared) (own : Led) (hk : ∀ b o, D.B.get? b = some o → (hideAll s.heap (own.map (·.1))).get? b = some o) : Wd :=
  { D with B := hideAll s.heap (own.map (·.1)), G := s.gens, os := s.os, inK := D.inK.keeps hk, top := D.top.keeps hk, c1 := D.c1.keeps hk, c2 := D.c2.keeps hk, c3 := D.c3.keeps hk }
section
variable {D : Wd} {A : Around} {L : Addr} {vs : Vars} {led led' own own' : Led} {env : Env} {a it e d P c : Addr} {as : List AV} {s s' : Shared}
theorem Rep.growOk (R : Rep D (own ++ led) s) : ∀ b o, D.B.get? b = some o → (hideAll s.heap (own.map (·.1))).get? b = some o := fun b o e => hideAll_get _ (R.keep _ _ e) fun hm => by
  obtain ⟨p, hp, rfl⟩ := List.mem_map.mp hm
  rw [R.fresh p (List.mem_append_left _ hp)] at e
  cases e
theorem Rep.grow (R : Rep D (own ++ led) s) : Rep (D.grow s own R.growOk) own s :=
  ⟨fun b o e => of_hideAll _ e, fun p hp => R.own p (List.mem_append_left _ hp), fun p hp => hideAll_none _ (List.mem_map_of_mem hp), by
    have := R.nodup
    rw [List.map_append, List.nodup_append] at this
    exact this.1, rfl, fun i x h => h, R.bare⟩
theorem Rep.ungrow {hk : ∀ b o, D.B.get? b = some o → (hideAll s.heap (own.map (·.1))).get? b = some o} (R : Rep D (own ++ led) s) (R' : Rep (D.grow s own hk) own' s') : Rep D (own' ++ led) s' := by
  have nd := R.nodup
  rw [List.map_append, List.nodup_append] at nd
  have lo : ∀ p ∈ led, ∃ o, (hideAll s.heap (own.map (·.1))).get? p.1 = some o ∧ p.2.ok o := fun p hp => by
    obtain ⟨o, ho, k⟩ := R.own p (List.mem_append_right _ hp)
    exact ⟨o, hideAll_get _ ho fun hm => nd.2.2 _ hm _ (List.mem_map_of_mem hp) rfl, k⟩
  refine ⟨fun b o e => R'.keep b o (hk b o e), fun p hp => ?_, fun p hp => ?_, ?_, R'.os.trans R.os, fun i x h => R'.gk i x (R.gk i x h), R'.bare⟩
  · rcases List.mem_append.mp hp with hp | hp
    · exact R'.own p hp
    · obtain ⟨o, ho, k⟩ := lo p hp
      exact ⟨o, R'.keep _ _ ho, k⟩
  · rcases List.mem_append.mp hp with hp | hp
    · cases q : D.B.get? p.1 with
      | none => rfl
      | some o =>
        have h1 := R'.fresh p hp
        have h2 : (hideAll s.heap (own.map (·.1))).get? p.1 = some o := hk _ _ q
        exact absurd (h1.symm.trans h2) (by simp)
    · exact R.fresh p (List.mem_append_right _ hp)
  · rw [List.map_append, List.nodup_append]
    refine ⟨R'.nodup, nd.2.1, fun x hx y hy q => ?_⟩
    subst q
    obtain ⟨p, hp, rfl⟩ := List.mem_map.mp hx
    obtain ⟨r, hr, e⟩ := List.mem_map.mp hy
    obtain ⟨o, ho, k⟩ := lo r hr
    have h1 := R'.fresh p hp
    rw [e] at ho
    exact absurd (h1.symm.trans ho) (by simp)
theorem Rep.setG {g : Nat} {x : GenState} (R : Rep D led s) (hg : D.G.size ≤ g) (hb : x.bare = true) : Rep D led (s.setGen g x) :=
  ⟨R.keep, R.own, R.fresh, R.nodup, R.os, fun i y h => by
    have hi : i < D.G.size := by
      rcases Nat.lt_or_ge i D.G.size with q | q
      · exact q
      · rw [Array.getElem?_eq_none q] at h; cases h
    have := R.gk i y h
    show (s.gens.setIfInBounds g x)[i]? = some y
    rw [Array.getElem?_setIfInBounds_ne (by omega)]
    exact this, fun y hy => by
    have hy' : y ∈ s.gens.setIfInBounds g x := hy
    obtain ⟨i, hi, rfl⟩ := Array.mem_iff_getElem.mp hy'
    have hi2 : i < s.gens.size := by simpa using hi
    rw [Array.getElem_setIfInBounds hi2]
    split
    · exact hb
    · exact R.bare _ (Array.getElem_mem (by simpa using hi))⟩
end
section
variable {prog : Program} {w : World} {A : Around} {E : Value → Shared → Prop} {s : Shared}
theorem pyNext_genB {a : Addr} {g n : Nat} {gs : GenState} {P : Nat → Shared → Shared → Prop} {Y : Protocol} {Q : Option Value → Shared → Prop} (hh : A.handled = none) (hl : s.heap.NoLimit) (hroom : A.depth < recursionLimit) (hg : s.heap.IsGen a g) (hgs : s.gens[g]? = some gs)
    (hgo : gs.Goes (model prog w) A.in1 (fun n s₀ r s₁ => r = .ok (.ret .none) ∧ P n s₀ s₁) Y n (.send .none) (s.setGen g .running))
    (hY : ∀ v s₁ gs', gs'.bare = true → Y (n - 1) (s.setGen g .running) v s₁ (fun r' s'' => match n with
        | 0 => False
        | m + 1 => gs'.Goes (model prog w) A.in1 (fun n s₀ r s₁ => r = .ok (.ret .none) ∧ P n s₀ s₁) Y m r' s'') → Q (some v) (s₁.setGen g gs'))
    (hP : ∀ s₁, P n (s.setGen g .running) s₁ → ∀ h', (∀ b o, s₁.heap.get? b = some o → h'.get? b = some o) → Q none { s₁.setGen g .finished with heap := h' }) :
    wpAny (model prog w) A (pyNext (.ref a)) Q E s := by
  unfold pyNext
  refine wpAny_bind (wpAny_attempt (wpAny_callSpecial?_slot (name := Str.ofString "__next__") hg.typeIs slot_gen_next
    (wpAny_call_entry slot_gen_next hg.typeIs entry_gen_next ?_ (args_gen_next _))))
  show wpAny _ A.in1 (Builtin.Generator.genWake (.ref a) (.send .none)) _ _ s
  unfold Builtin.Generator.genWake
  refine wpAny_bind (wpAny_holding (wpAny_genNumber hg (wpAny_bind (wpAny_genState hgs ?_))))
  cases gs with
  | running => exact hgo.elim
  | finished => exact hgo.elim
  | _ =>
    refine wpAny_bind (wpAny_roomToWake hl hroom ?_)
    show wpAny _ A.in1 (.resume g (.send .none) [] _) _ _ s
    refine wpAny_resumeQ hgs hgo (fun x s₁ hx => ?_) (fun v s₁ gs' hb hv => ?_)
    · obtain ⟨rfl, hp⟩ := hx
      show wpAny _ A.in1 (newExc (.type "StopIteration") [] >>= _) _ _ _
      refine wpAny_bind ?_
      simp only [newExc, newTuple]
      refine wpAny_bind (wpAny_newObj_type ?_ (by size_fits))
      refine wpAny_bind (m := firstArgMember _ _) (wpAny_of_eq (a := Value.none) (by first | rfl | (simp only [firstArgMember]; rfl)) ?_)
      refine wpAny_newObj_type ?_ (by size_fits)
      simp only [raiseNew]
      refine wpAny_bind (wpAny_bind (wpAny_handled ?_))
      first | rw [show A.in1.handled = none from hh] | rw [hh]
      refine wpAny_throw ?_
      refine wpAny_bind (wpAny_isInstance (T := "StopIteration") (b := true) ⟨_, Heap.get?_push_size _ rfl, rfl⟩ isSubtype_stop ?_)
      exact wpAny_pure (hP s₁ hp _ fun b o hb => Heap.get?_push_of_some _ (Heap.get?_push_of_some _ hb))
    · exact wpAny_pure ⟨v, rfl, wpAny_pure (hY v s₁ gs' hb hv)⟩
end
end Mine
end
section
open PySem PySem.W PySem.Calls PyProof.Rows
set_option maxRecDepth 100000
set_option autoImplicit false
set_option linter.unusedVariables false
namespace Mine
def AV.pd : AV → PyData
  | .int i => .int i
  | .str x => .str (S x)
  | .bool b => .bool b
  | _ => .none
/-- small values that are no objects -/
def AV.flat : AV → Prop
  | .int i => 0 ≤ i ∧ i ≤ 1000000
  | .str x => x.length ≤ 1000 ∧ ∀ c ∈ x, c < 128
  | .bool _ => True
  | _ => False
theorem reads_av {h : Heap} {a : AV} {v : Value} (x : a.is v) (f : a.flat) : Reads h v a.pd [] := by
  cases a with
  | int i => obtain ⟨t, rfl⟩ := x; exact .int _ _
  | str i => obtain ⟨t, rfl⟩ := x; exact .str _ _
  | bool b => cases (show v = .bool b from x); exact .bool _
  | none => exact f.elim
  | ref _ => exact f.elim
  | raw _ => exact f.elim
theorem readsAll_av {h : Heap} : ∀ {as : List AV} {vs : List Value}, AllIs as vs → (∀ a ∈ as, a.flat) → ReadsAll h vs (as.map AV.pd) []
  | _, _, .nil, _ => .nil
  | _, _, .cons x r, f => .cons (as := []) (bs := []) (reads_av x (f _ (.head _))) (readsAll_av r fun a ha => f a (.tail _ ha))
theorem str_ok {x : List Nat} (h : ∀ c ∈ x, c < 128) : PyData.strOk (S x) = true := by
  show (x.toArray.all fun c => decide (c < 0x110000)) = true
  rw [List.all_toArray, List.all_eq_true]
  intro c hc
  have := h c hc
  simp only [decide_eq_true_eq]
  omega
theorem lay_av {a : AV} (f : a.flat) : a.pd.canLay0 = true ∧ a.pd.depth = 0 ∧ a.pd.weight ≤ 1000 := by
  cases a with
  | int i =>
    refine ⟨by simp [AV.pd, PyData.canLay0], by simp [AV.pd, PyData.depth], ?_⟩
    obtain ⟨h1, h2⟩ := f
    simp only [AV.pd, PyData.weight]
    split
    · omega
    · have h3 : i.natAbs < 2 ^ 64 := by omega
      have h4 : i.natAbs.log2 < 64 := by
        rcases Nat.eq_zero_or_pos i.natAbs with h0 | hp
        · rw [h0]; decide
        · exact (Nat.log2_lt (Nat.ne_of_gt hp)).mpr h3
      omega
  | str x =>
    refine ⟨by simp only [AV.pd, PyData.canLay0]; exact str_ok f.2, by simp [AV.pd, PyData.depth], ?_⟩
    simp only [AV.pd, PyData.weight, S, List.size_toArray]
    exact f.1
  | bool b => exact ⟨by simp [AV.pd, PyData.canLay0], by simp [AV.pd, PyData.depth], by simp [AV.pd, PyData.weight]⟩
  | none => exact f.elim
  | ref _ => exact f.elim
  | raw _ => exact f.elim
theorem lay_two {a b : AV} (f : a.flat) (g : b.flat) : (PyData.tuple [a.pd, b.pd]).layable0 = true := by
  obtain ⟨a1, a2, a3⟩ := lay_av f
  obtain ⟨b1, b2, b3⟩ := lay_av g
  simp only [PyData.layable0, PyData.canLay0, PyData.canLayAll0, PyData.depth, PyData.depthAll, PyData.weight, PyData.weightAll, a1, b1, a2, b2, Bool.and_true, Bool.true_and, Bool.and_eq_true, decide_eq_true_eq]
  exact ⟨by omega, decide_eq_true (by omega)⟩
theorem eqv_flat {a : AV} (f : a.flat) : PyData.eqv a.pd a.pd = true := by
  cases a with
  | int i => simp [AV.pd, PyData.eqv]
  | str x => simp [AV.pd, PyData.eqv]
  | bool b => simp [AV.pd, PyData.eqv]
  | none => exact f.elim
  | ref _ => exact f.elim
  | raw _ => exact f.elim
theorem eqv_two {a b : AV} (f : a.flat) (g : b.flat) : PyData.eqv (.tuple [a.pd, b.pd]) (.tuple [a.pd, b.pd]) = true := by
  simp [PyData.eqv, PyData.eqvAll, eqv_flat f, eqv_flat g]
section
variable {D : Wd} {A : Around} {L : Addr} {vs : Vars} {led led' : Led} {env : Env} {a b : Addr} {as : List AV} {s : Shared}
theorem Rep.readsTwo {p q : AV} (R : Rep D led s) (hm : (a, .tup [p, q]) ∈ led) (f : p.flat) (g : q.flat) : Reads s.heap (.ref a) (.tuple [p.pd, q.pd]) [] := by
  obtain ⟨vals, n, hi, hl⟩ := R.tupAt hm
  exact .tuple hl rfl rfl (by simpa using readsAll_av hi (by simpa using ⟨f, g⟩))
theorem W.ne_two {p q : AV} {n : Nat} {Q : Value → Vars → Led → Prop} (hr : Room A n) (hn : 8 ≤ n) (h1 : (a, .tup [p, q]) ∈ led) (h2 : (b, .tup [p, q]) ∈ led) (f : p.flat) (g : q.flat) (h : Q (.bool false) vs led) : W D A L (compareOp .NotEq (.ref a) (.ref b)) Q vs led := fun s R =>
  ne_dataS (R.readsTwo (.tail _ h1) f g) (R.readsTwo (.tail _ h2) f g) (lay_two f g) (lay_two f g) (by have := hr.2.1; omega) (by rw [eqv_two f g]; exact ⟨vs, led, R, h⟩)
theorem W.eq_two {p q : AV} {n : Nat} {Q : Value → Vars → Led → Prop} (hr : Room A n) (hn : 8 ≤ n) (h1 : (a, .tup [p, q]) ∈ led) (h2 : (b, .tup [p, q]) ∈ led) (f : p.flat) (g : q.flat) (h : Q (.bool true) vs led) : W D A L (compareOp .Eq (.ref a) (.ref b)) Q vs led := fun s R =>
  eq_dataS (R.readsTwo (.tail _ h1) f g) (R.readsTwo (.tail _ h2) f g) (lay_two f g) (lay_two f g) (by have := hr.2.1; omega) (by rw [eqv_two f g]; exact ⟨vs, led, R, h⟩)
theorem strs_are : ∀ {ys : List (List Nat)} {vals : List Value}, AllIs (ys.map .str) vals → StrsAre vals (ys.map S)
  | [], _, .nil => .nil
  | y :: r, _, .cons h k => by obtain ⟨t, rfl⟩ := h; exact .cons _ _ (strs_are k)
theorem any_S (x : List Nat) (ys : List (List Nat)) : (ys.map S).any (· == S x) = ys.contains x := by
  rw [List.any_map, Bool.eq_iff_iff, List.any_eq_true, List.contains_iff_mem]
  constructor
  · rintro ⟨y, hy, h⟩
    have : S y = S x := by simpa using h
    rw [← S_inj this]; exact hy
  · intro h
    exact ⟨x, h, by simp⟩
theorem W.in_tup {x : List Nat} {t : Tok} {ys : List (List Nat)} {Q : Value → Vars → Led → Prop} (hm : (a, .tup (ys.map .str)) ∈ led) (h : Q (.bool (ys.contains x)) vs led) : W D A L (compareOp .In (.str (S x) t) (.ref a)) Q vs led := fun s R => by
  obtain ⟨vals, n, hi, hl⟩ := R.tupAt (.tail _ hm)
  exact in_tuple_strs (ys := ys.map S) ⟨_, hl, rfl, n, rfl⟩ (strs_are hi) (by rw [any_S]; exact ⟨vs, led, R, h⟩)
theorem ints_all : ∀ {ns : List Int} {vals : List Value}, IntsAre vals ns → AllIs (ns.map .int) vals
  | _, _, .nil => .nil
  | _, _, .cons n t h => .cons ⟨t, rfl⟩ (ints_all h)
theorem W.sl_base {value : Expr} {lower upper : Option Expr} {p : Pos} {sl : Addr} {led0 : Led} {its : List Value} {ns : List Int} {k : Nat} {t : Tok} {Q : Value → Vars → Led → Prop} (hB : D.B.IsList a its.toArray) (hI : IntsAre its ns) (hz : ns.length ≤ 1000) (h : ∀ c, Q (.ref c) vs ((c, LI (ns.take k)) :: led0)) :
    W D A L (subscriptTail value (.Slice lower upper none p) (.ref a) (.ref sl)) Q vs ((sl, .raw (slObj .none (.int (k : Nat) t))) :: led0) := fun s R => by
  obtain ⟨o, ho, rfl⟩ := R.own _ (.tail _ (.head _))
  have hl : s.heap.IsList a its.toArray := by
    obtain ⟨o, e, r⟩ := hB
    exact ⟨o, R.keep _ _ e, r⟩
  have hi2 := ints_all hI
  have hlen := hI.length
  exact tail_of_slice hl.typeIs slot_list_getitem.lookup (wpAny_getItem_list_slice hl ⟨_, ho, rfl, rfl⟩ .none (.int _ _) .none (by simp)
    ⟨vs, _, R.skipHead.pushed (ob := LI (ns.take k)) (tk := s.toks) rfl ⟨_, 0, by have := pick_upto (k := k) its hi2; rw [List.map_take]; exact this, rfl⟩, h _⟩ (by rw [List.size_toArray]; exact fits_S (by omega)))
theorem W.abs_int {x : Int} {t : Tok} {Q : Value → Vars → Led → Prop} (h : ∀ t, Q (.int (x.natAbs : Int) t) vs led) : W D A L (PySem.call (.builtin "abs") [.int x t]) Q vs led := fun s R =>
  call_abs_int fun u tk => by
    have e : (if x < 0 then -x else x) = (x.natAbs : Int) := by split <;> omega
    rw [e]
    exact ⟨vs, led, R.toks, h u⟩
theorem W.pow_int {x n : Int} {t u : Tok} {Q : Value → Vars → Led → Prop} (h0 : 0 ≤ n) (h1 : n ≤ 1000) (hx : x.natAbs < 2 ^ 64) (h : ∀ t, Q (.int (x ^ n.toNat) t) vs led) : W D A L (binaryOp .Pow (.int x t) (.int n u)) Q vs led := fun s R =>
  pow_int_small h0 (by omega) hx ⟨vs, led, R.toks, h _⟩
theorem W.mul_small {x y : Int} {t u : Tok} {Q : Value → Vars → Led → Prop} (h1 : -1000000 ≤ y ∧ y ≤ 1000000) (h : ∀ t, Q (.int (x * y) t) vs led) : W D A L (binaryOp .Mult (.int x t) (.int y u)) Q vs led :=
  W.mul_int (IntMulOk.of_right (intBits_le_64 (by omega) (by omega))) h
theorem W.assign_four {x y z w : Str} {px py pz pw pos : Pos} {k n : Nat} {p q r o : AV} {b : Addr} {Q : Unit → Vars → Led → Prop} (hr : Room A n) (hm : (b, .tup [p, q, r, o]) ∈ led) (h : Stores D A L env Q [x, y, z, w] [p, q, r, o] vs led) : W D A L (assign (.Tuple [.Name x px, .Name y py, .Name z pz, .Name w pw] k pos) env (.ref b)) Q vs led :=
  W.assign_tup (ns := [x, y, z, w]) hr rfl rfl hm rfl rfl h
theorem W.cutF {st : Stmt} {rest : List Stmt} {Q : Flow → Vars → Led → Prop} (I : Vars → Led → Prop) (h1 : W D A L (exec st env) (fun f vs led => (f = .next ∧ I vs led) ∨ (f ≠ .next ∧ Q f vs led)) vs led) (h2 : ∀ vs led, I vs led → W D A L (execs rest env) Q vs led) : W D A L (exec st env) (Nx D A L rest env Q) vs led :=
  W.mono h1 fun f vs led h => by
    rcases h with ⟨e, i⟩ | ⟨e, q⟩
    · subst e; exact Nx.next (h2 vs led i)
    · cases f <;> first | exact absurd rfl e | exact q
end
end Mine
end
section
open PySem PySem.W PySem.Calls PyProof.Rows
set_option maxRecDepth 100000
set_option autoImplicit false
set_option linter.unusedVariables false
namespace Mine
/- the run of a sort over int keys, without the machine: its shadow is found by unification -/
abbrev Sh := Array Keyed × Array (Nat × Nat × Nat)
abbrev ShM := StateT Sh Option
abbrev stOf (p : Sh) : SortSt := SortSt.mk' oneType' p.1 p.2 7 none
def Sim {α : Type} (m : StateT SortSt Sem α) (f : ShM α) : Prop := ∀ (prog : Program) (w : World) (A : Around) (E : Value → Shared → Prop) (s : Shared) (p p' : Sh) (a : α), f.run p = some (a, p') → wpS (model prog w) A E s m (fun b st => b = a ∧ st = stOf p') (stOf p)
def shLt (i j : Nat) : ShM (Option Bool) := fun p => match p.1[i]?, p.1[j]? with
  | some (.int a _, _), some (.int b _, _) => some (some (decide (a < b)), p)
  | _, _ => none
def shNo {α : Type} : ShM α := fun _ => none
section
variable {α β γ : Type}
theorem Sim.pure {a : α} : Sim (Pure.pure a) (Pure.pure a) := fun prog w A E s p p' b h => by
  have h2 : some (a, p) = some (b, p') := h
  cases h2
  exact wpS_pure ⟨rfl, rfl⟩
theorem Sim.bind {m : StateT SortSt Sem α} {f : ShM α} {k : α → StateT SortSt Sem β} {g : α → ShM β} (h : Sim m f) (hk : ∀ a, Sim (k a) (g a)) : Sim (m >>= k) (f >>= g) := fun prog w A E s p p' b e => by
  rw [StateT.run_bind] at e
  obtain ⟨⟨a, q⟩, e1, e2⟩ := Option.bind_eq_some_iff.mp e
  refine wpS_bind (wpS_mono (h prog w A E s p q a e1) fun a' st ⟨h1, h2⟩ => ?_)
  subst h1 h2
  exact hk a' prog w A E s q p' b e2
theorem Sim.bindO {m : StateT SortSt Sem (Option α)} {f : ShM (Option α)} {k : Option α → StateT SortSt Sem β} {g : α → ShM β} {g0 : ShM β} (h : Sim m f) (hk : ∀ a, Sim (k (some a)) (g a)) (hn : Sim (k none) g0) : Sim (m >>= k) (f >>= fun o => o.elim g0 g) := Sim.bind h fun a => by
  cases a with
  | none => exact hn
  | some a => exact hk a
theorem Sim.bindP {m : StateT SortSt Sem (Option α × γ)} {f : ShM (Option α × γ)} {k : Option α × γ → StateT SortSt Sem β} {g : α → γ → ShM β} {g0 : γ → ShM β} (h : Sim m f) (hk : ∀ a c, Sim (k (some a, c)) (g a c)) (hn : ∀ c, Sim (k (none, c)) (g0 c)) : Sim (m >>= k) (f >>= fun o => o.1.elim (g0 o.2) fun a => g a o.2) := Sim.bind h fun a => by
  obtain ⟨a, c⟩ := a
  cases a with
  | none => exact hn c
  | some a => exact hk a c
theorem Sim.getBind {k : SortSt → StateT SortSt Sem β} {g : Sh → ShM β} (hk : ∀ p, Sim (k (stOf p)) (g p)) : Sim (get >>= k) (get >>= g) := fun prog w A E s p p' b e => wpS_bind (wpS_get (hk p prog w A E s p p' b e))
theorem Sim.modify {F : SortSt → SortSt} {G : Sh → Array Keyed} {H : Sh → Array (Nat × Nat × Nat)} (h : ∀ p, F (stOf p) = stOf (G p, H p)) : Sim (_root_.modify F) (_root_.modify fun p => (G p, H p)) := fun prog w A E s p p' b e => by
  have h2 : some (PUnit.unit, (G p, H p)) = some (b, p') := e
  cases h2
  exact wpS_modify ⟨rfl, h p⟩
theorem Sim.forList {f : Nat → β → StateT SortSt Sem (ForInStep β)} {g : Nat → β → ShM (ForInStep β)} (h : ∀ i b, Sim (f i b) (g i b)) : ∀ (l : List Nat) (c : β), Sim (forIn l c f) (forIn l c g)
  | [], c => by rw [List.forIn_nil, List.forIn_nil]; exact Sim.pure
  | x :: r, c => by
    rw [List.forIn_cons, List.forIn_cons]
    refine Sim.bind (h x c) fun q => ?_
    cases q with
    | done b => exact Sim.pure
    | yield b => exact Sim.forList h r b
theorem Sim.forRange {a b : Nat} {f : Nat → β → StateT SortSt Sem (ForInStep β)} {g : Nat → β → ShM (ForInStep β)} {c : β} (h : ∀ i b, Sim (f i b) (g i b)) : Sim (forIn [a:b] c f) (forIn (List.range' a (b - a)) c g) := by
  rw [Std.Legacy.Range.forIn_eq_forIn_range']
  have hsz : ([a:b] : Std.Legacy.Range).size = b - a := by simp [Std.Legacy.Range.size]
  show Sim (forIn (List.range' a ([a:b] : Std.Legacy.Range).size 1) c f) _
  rw [hsz]
  exact Sim.forList h _ _
theorem Sim.ite {c : Prop} [Decidable c] {a a' : StateT SortSt Sem α} {b b' : ShM α} (h : Sim a b) (h' : Sim a' b') : Sim (if c then a else a') (if c then b else b') := by
  split
  · exact h
  · exact h'
theorem Sim.no {m : StateT SortSt Sem α} : Sim m shNo := fun prog w A E s p p' b e => by cases e
theorem Sim.opt {o : Option α} {m : StateT SortSt Sem β} {f : ShM β} (h : o = none → Sim m f) : Sim m (o.elim f fun _ => shNo) := by
  cases o with
  | none => exact h rfl
  | some a => exact Sim.no
theorem Sim.lt {i j : Nat} : Sim (ltAt' i j) (shLt i j) := fun prog w A E s p p' b e => by
  have e : shLt i j p = some (b, p') := e
  unfold shLt at e
  split at e
  · rename_i a t p1 b1 u p2 h1 h2
    cases e
    exact wpS_ltAt rfl h1 h2 ⟨rfl, rfl⟩
  · cases e
theorem Sim.rule {tag : String} : Sim (liftM (PySem.rule tag)) (Pure.pure ()) := fun prog w A E s p p' b e => by
  have h2 : some (PUnit.unit, p) = some (b, p') := e
  cases h2
  exact wpS_lift (wpAny_rule ⟨rfl, rfl, rfl⟩)
end
noncomputable def shRev (i j : Nat) : { f : ShM Unit // Sim (reverseSlice' i j) f } := by
  apply Subtype.mk
  rw [reverseSlice'_eq]
  exact Sim.modify fun p => rfl
noncomputable def shMove (i j : Nat) : { f : ShM Unit // Sim (moveDown' i j) f } := by
  apply Subtype.mk
  rw [moveDown'_eq]
  exact Sim.modify fun p => rfl
theorem Sim.mergeB {β : Type} {i : Nat} {k : Bool → StateT SortSt Sem β} : Sim (mergeAt' i >>= k) shNo := Sim.no
noncomputable def shCount (lo nrem : Nat) : { f : ShM (Option Nat) // Sim (countRun' lo nrem) f } := by
  apply Subtype.mk
  rw [countRun'_eq]
  repeat' (first
    | (with_reducible exact Sim.pure) | (with_reducible exact Sim.lt) | (with_reducible exact Sim.rule) | (with_reducible exact (shRev _ _).2) | (with_reducible exact (shMove _ _).2) | (with_reducible exact Sim.mergeB)
    | (with_reducible apply Sim.forRange; intro i b)
    | (with_reducible apply Sim.getBind; intro p)
    | (with_reducible apply Sim.bindO)
    | (with_reducible apply Sim.bindP)
    | (with_reducible apply Sim.bind)
    | (with_reducible apply Sim.ite)
    | (with_reducible apply Sim.modify; intro p; rfl)
    | (with_reducible intro _)
    | dsimp only)
noncomputable def shBin (lo n ok : Nat) : { f : ShM Bool // Sim (binarySort' lo n ok) f } := by
  apply Subtype.mk
  rw [binarySort'_eq]
  repeat' (first
    | (with_reducible exact Sim.pure) | (with_reducible exact Sim.lt) | (with_reducible exact Sim.rule) | (with_reducible exact (shRev _ _).2) | (with_reducible exact (shMove _ _).2) | (with_reducible exact Sim.mergeB)
    | (with_reducible apply Sim.forRange; intro i b)
    | (with_reducible apply Sim.getBind; intro p)
    | (with_reducible apply Sim.bindO)
    | (with_reducible apply Sim.bindP)
    | (with_reducible apply Sim.bind)
    | (with_reducible apply Sim.ite)
    | (with_reducible apply Sim.modify; intro p; rfl)
    | (with_reducible intro _)
    | dsimp only)
noncomputable def shRuns : { f : ShM Unit // Sim sortRuns' f } := by
  apply Subtype.mk
  rw [sortRuns'_eq]
  repeat' (first
    | (with_reducible exact Sim.pure) | (with_reducible exact Sim.lt) | (with_reducible exact Sim.rule) | (with_reducible exact (shRev _ _).2) | (with_reducible exact (shMove _ _).2) | (with_reducible exact Sim.mergeB) | (with_reducible exact (shCount _ _).2) | (with_reducible exact (shBin _ _ _).2)
    | (with_reducible apply Sim.forRange; intro i b)
    | (with_reducible apply Sim.getBind; intro p)
    | (with_reducible apply Sim.bindO)
    | (with_reducible apply Sim.bindP)
    | (with_reducible apply Sim.bind)
    | (with_reducible apply Sim.ite)
    | (with_reducible apply Sim.modify; intro p; rfl)
    | (with_reducible intro _)
    | dsimp only
    | (with_reducible apply Sim.opt (o := p.snd.back?); intro h0; rw [show (pendingOf (stOf p)).back? = none from h0]))
/-- in the order of the keys, otherwise as they stood -/
def stab {α : Type} (ks : List (Int × α)) : List (Int × α) := ks.filter (fun x => decide (x.1 = 0)) ++ ks.filter (fun x => decide (x.1 = 1)) ++ ks.filter (fun x => decide (x.1 = 2))
abbrev keyed (x : Int × Tok × Value) : Keyed := (.int x.1 x.2.1, x.2.2)
def small3 (k : Int) : Prop := k = 0 ∨ k = 1 ∨ k = 2
theorem runs_stable {ks : List (Int × Tok × Value)} (h2 : 2 ≤ ks.length) (h4 : ks.length ≤ 4) (hk : ∀ x ∈ ks, small3 x.1) :
    (shRuns.1.run ((ks.map keyed).toArray, #[])).map (fun x => x.2.1) = some ((stab ks).map keyed).toArray := by
  rcases ks with _ | ⟨⟨k0, t0, v0⟩, ks⟩
  · simp at h2
  rcases ks with _ | ⟨⟨k1, t1, v1⟩, ks⟩
  · simp at h2
  have e0 : small3 k0 := hk _ (.head _)
  have e1 : small3 k1 := hk _ (.tail _ (.head _))
  rcases ks with _ | ⟨⟨k2, t2, v2⟩, ks⟩
  · rcases e0 with rfl | rfl | rfl <;> rcases e1 with rfl | rfl | rfl <;> kernel_rfl
  have e2 : small3 k2 := hk _ (.tail _ (.tail _ (.head _)))
  rcases ks with _ | ⟨⟨k3, t3, v3⟩, ks⟩
  · rcases e0 with rfl | rfl | rfl <;> rcases e1 with rfl | rfl | rfl <;> rcases e2 with rfl | rfl | rfl <;> kernel_rfl
  have e3 : small3 k3 := hk _ (.tail _ (.tail _ (.tail _ (.head _))))
  rcases ks with _ | ⟨⟨k4, t4, v4⟩, ks⟩
  · rcases e0 with rfl | rfl | rfl <;> rcases e1 with rfl | rfl | rfl <;> rcases e2 with rfl | rfl | rfl <;> rcases e3 with rfl | rfl | rfl <;> kernel_rfl
  · simp at h4
end Mine
end
section
open PySem PySem.W PySem.Calls PyProof.Rows
set_option maxRecDepth 100000
set_option maxHeartbeats 1000000
set_option autoImplicit false
set_option linter.unusedVariables false
namespace Mine
theorem permQ {α : Type} {l₁ l₂ : List α} (h : ∀ (_ : DecidableEq α) (z : α), l₁.count z = l₂.count z) : l₁.Perm l₂ := by
  letI : DecidableEq α := fun a b => Classical.propDecidable (a = b)
  exact List.perm_iff_count.mpr (h _)
theorem stab_small {α : Type} {ks : List (Int × α)} (h : ks.length < 2) (hk : ∀ x ∈ ks, small3 x.1) : stab ks = ks := by
  rcases ks with _ | ⟨⟨k, x⟩, r⟩
  · rfl
  · rcases r with _ | ⟨y, r⟩
    · rcases (hk _ (.head _) : small3 k) with rfl | rfl | rfl <;> simp [stab]
    · simp at h; omega
theorem ints_are : ∀ {xs : List (Int × Tok)} {vals : List Value}, vals = xs.map (fun p => Value.int p.1 p.2) → IntsAre vals (xs.map (·.1))
  | [], _, rfl => .nil
  | p :: r, _, rfl => .cons _ _ (ints_are (xs := r) rfl)
theorem AllIs.ints2 : ∀ {is : List Int} {vals : List Value}, AllIs (is.map .int) vals → ∃ xs : List (Int × Tok), xs.map (·.1) = is ∧ vals = xs.map (fun p => Value.int p.1 p.2)
  | [], _, .nil => ⟨[], rfl, rfl⟩
  | i :: r, _, .cons ⟨t, e⟩ k => by
    obtain ⟨xs, h1, h2⟩ := AllIs.ints2 (is := r) k
    exact ⟨(i, t) :: xs, by rw [List.map_cons, h1], by rw [List.map_cons, ← h2, e]⟩
/-- three lists side by side -/
def trip : List (Int × Tok) → List Value → List (Int × Tok × Value)
  | x :: xs, v :: vs => (x.1, x.2, v) :: trip xs vs
  | _, _ => []
theorem trip_len : ∀ (xs : List (Int × Tok)) (vs : List Value), xs.length = vs.length → (trip xs vs).length = vs.length
  | [], [], _ => rfl
  | x :: xs, v :: vs, h => by simp only [trip, List.length_cons]; rw [trip_len xs vs (by simpa using h)]
  | [], _ :: _, h => by simp at h
  | _ :: _, [], h => by simp at h
theorem trip_keys : ∀ (xs : List (Int × Tok)) (vs : List Value), ∀ y ∈ trip xs vs, y.1 ∈ xs.map (·.1)
  | [], _, y, h => by cases h
  | _ :: _, [], y, h => by cases h
  | x :: xs, v :: vs, y, h => by
    rcases List.mem_cons.mp h with rfl | h
    · exact .head _
    · exact .tail _ (trip_keys xs vs y h)
theorem trip_zip : ∀ (xs : List (Int × Tok)) (vs : List Value), xs.length = vs.length → (trip xs vs).map keyed = (xs.map fun p => Value.int p.1 p.2).zip vs
  | [], [], _ => rfl
  | x :: xs, v :: vs, h => by
    show keyed _ :: (trip xs vs).map keyed = _
    rw [trip_zip xs vs (by simpa using h)]; rfl
  | [], _ :: _, h => by simp at h
  | _ :: _, [], h => by simp at h
/-- a stab of values follows a stab of what they are -/
theorem stab_is {as : List AV} : ∀ {xs : List (Int × Tok)} {vals : List Value}, AllIs as vals → xs.length = vals.length → ∀ p : Int → Bool, AllIs ((((xs.map (·.1)).zip as).filter fun x => p x.1).map (·.2)) (((trip xs vals).filter fun x => p x.1).map (·.2.2)) := by
  intro xs vals h
  induction h generalizing xs with
  | nil => intro _ p; cases xs <;> exact .nil
  | @cons a as v vs h0 h1 ih =>
    intro hl p
    cases xs with
    | nil => simp at hl
    | cons x xs =>
      have i := ih (xs := xs) (by simpa using hl) p
      show AllIs (((((x.1, a) :: ((xs.map (·.1)).zip as))).filter _).map _) ((((x.1, x.2, v) :: trip xs vs).filter _).map _)
      rw [List.filter_cons, List.filter_cons]
      by_cases hp : p x.1 = true
      · rw [if_pos hp, if_pos hp]; exact .cons h0 i
      · rw [if_neg hp, if_neg hp]; exact i
section
variable {D : Wd} {A : Around} {L : Addr} {vs : Vars} {led led' : Led} {env : Env} {a q : Addr} {as : List AV} {ks : List Int} {s : Shared}
theorem W.sort_key {Q : Value → Vars → Led → Prop} (hlen : ks.length = as.length) (h4 : as.length ≤ 4) (hk : ∀ k ∈ ks, small3 k)
    (hcall : ∀ (i : Nat) (x : AV) (v : Value) (k : Int), as[i]? = some x → x.is v → ks[i]? = some k → ∀ pre : Led, W D A.in1 L (PySem.call (.ref q) [v]) (fun r vs' led' => (∃ t, r = .int k t) ∧ vs' = vs ∧ Sub (pre ++ led) led') vs (pre ++ led))
    (h : Q .none vs ((a, .list ((stab (ks.zip as)).map (·.2))) :: led)) : W D A L (PySem.call (.builtin "list.sort") [.ref a] [("key", .ref q)]) Q vs ((a, .list as) :: led) := fun s R => by
  obtain ⟨vals, n, hi, hl⟩ := R.listAt (.tail _ (.head _))
  have hvl := hi.length
  refine wpAny_call_entry_kw slot_list_sort (T := "list") ⟨_, hl, rfl⟩ entry_list_sort ?_ (ksk_l1 _ _)
  show wpAny _ _ (ksk_tree a (.ref q) false) _ _ s
  have s1 := Heap.SameBut.update s.heap a (Obj.mapSeq fun _ => (#[] : Array Value))
  obtain ⟨e1, ho1⟩ : ∃ e1, (s.heap.update a (Obj.mapSeq fun _ => (#[] : Array Value))).get? a = some (seqObj "list" #[] e1) := ⟨_, get?_update_seq hl fun _ => #[]⟩
  have R1 : Rep D ((L, .ns vs) :: (a, .raw (seqObj "list" #[] e1)) :: led) { s with heap := s.heap.update a (Obj.mapSeq fun _ => (#[] : Array Value)) } :=
    ((R.perm (List.Perm.swap _ _ _)).change (ob' := .raw (seqObj "list" #[] e1)) (tk := s.toks) s1 ⟨_, ho1, rfl⟩).perm (List.Perm.swap _ _ _)
  unfold ksk_tree
  refine wpAny_bind (listItems_at hl rfl ?_)
  refine wpAny_bind (listUpdate_at hl rfl ?_ (by rw [List.size_toArray, sizeLine_eq]; omega) (Nat.zero_le _))
  refine wpAny_bind (seqEpoch_at ho1 rfl ?_)
  refine wpAny_bind (wpAny_newTuple ?_ (by show vals.length ≤ _; rw [sizeLine_eq]; omega))
  refine wpAny_bind (wpAny_newList ?_ (Nat.zero_le _))
  refine wpAny_holding ?_
  have R2 := R1.pushed (ob := .sat fun _ => True) (tk := s.toks) (o := seqObj "tuple" vals.toArray 0) rfl trivial
  have R3 := R2.pushed (ob := .list []) (tk := s.toks) (o := seqObj "list" #[] 0) rfl ⟨[], 0, .nil, rfl⟩
  generalize hkS : ((s.heap.update a (Obj.mapSeq fun _ => (#[] : Array Value))).push (seqObj "tuple" vals.toArray 0)).objs.size = kS at *
  generalize hHd : (s.heap.update a (Obj.mapSeq fun _ => (#[] : Array Value))).objs.size = held at *
  unfold ksk_rest
  refine wpAny_bind (wpAny_rule ?_)
  rw [List.forIn_toArray]
  refine wpAny_bind (ksk_fold (fun i s' => Rep D ((L, .ns vs) :: (kS, .list ((ks.take i).map .int)) :: (held, .sat fun _ => True) :: (a, .raw (seqObj "list" #[] e1)) :: led) s') vals 0 _ R3 ?step ?done)
  case step =>
    intro j x s' hx R'
    rw [Nat.zero_add] at R' ⊢
    have hj : j < vals.length := (List.getElem?_eq_some_iff.mp hx).1
    have hja : j < as.length := by omega
    have hkj : ks[j]? = some ks[j] := List.getElem?_eq_getElem (by omega)
    have hx2 : (as[j]).is x := by
      obtain ⟨v, hv, hq⟩ := hi.get (List.getElem?_eq_getElem hja)
      rw [hx] at hv
      cases hv
      exact hq
    refine wpAny_bind (wpAny_attempt (wpAny_mono (hcall j as[j] x ks[j] (List.getElem?_eq_getElem hja) hx2 hkj [(kS, .list ((ks.take j).map .int)), (held, .sat fun _ => True), (a, .raw (seqObj "list" #[] e1))] s' R') (fun v s'' he => ?_) fun _ _ hF => hF.elim))
    obtain ⟨vs', led', R4, ⟨t, rfl⟩, rfl, hsub⟩ := he
    have R5 := R4.sub (.cons hsub)
    obtain ⟨kv, kn, hki, hkl⟩ := R5.listAt (.tail _ (.head _))
    have hkvl := hki.length
    simp only [List.length_map, List.length_take] at hkvl
    dsimp only
    refine wpAny_bind (listUpdate_at hkl rfl ?_ (by rw [List.size_toArray, sizeLine_eq]; omega) (Nat.le_trans (Nat.le_of_eq (Array.size_push ..)) (by rw [List.size_toArray, sizeLine_eq]; omega)))
    refine wpAny_pure ⟨rfl, ?_⟩
    have ek : ks.take (j + 1) = ks.take j ++ [ks[j]] := by rw [List.take_add_one, hkj]; simp
    rw [ek]
    exact R5.upSeq (tk := s''.toks) .here hkl (by rw [List.map_append]; simpa using hki.append (.cons (a := .int ks[j]) (v := .int ks[j] t) ⟨t, rfl⟩ .nil))
  case done =>
    intro s' R'
    rw [Nat.zero_add, List.take_of_length_le (by omega)] at R'
    obtain ⟨kv, kn, hki, hkl⟩ := R'.listAt (.tail _ (.head _))
    obtain ⟨xs, hx1, rfl⟩ := AllIs.ints2 hki
    have hxl : xs.length = vals.length := by have := congrArg List.length hx1; simp at this; omega
    refine wpAny_bind (listItems_at hkl rfl ?_)
    have hpairs : ((xs.map fun p => Value.int p.1 p.2).toArray.zip vals.toArray) = ((trip xs vals).map keyed).toArray := by
      rw [trip_zip xs vals hxl]; simp
    have htk : ∀ y ∈ trip xs vals, small3 y.1 := fun y hy => hk _ (by rw [← hx1]; exact trip_keys xs vals y hy)
    have htl := trip_len xs vals hxl
    unfold ksk_end
    dsimp only
    rw [hpairs, if_neg (by decide)]
    have fin : ∀ (st : SortSt), (arrOf st).map (·.2) = (((stab (trip xs vals)).map (·.2.2))).toArray → failedOf st = none → wpAny D.M A.in1 (ksk_tail a false e1 (.ref kS) st) (fun fin s' => ∃ v, fin = .done (.ret v) ∧ ∃ vs' led', Rep D ((L, .ns vs') :: led') s' ∧ Q v vs' led') none_E s' := by
      intro st hst hf
      have hout : AllIs ((stab (ks.zip as)).map (·.2)) ((stab (trip xs vals)).map (·.2.2)) := by
        unfold stab
        simp only [List.map_append]
        rw [← hx1]
        exact ((stab_is hi hxl (fun i => decide (i = 0))).append (stab_is hi hxl (fun i => decide (i = 1)))).append (stab_is hi hxl (fun i => decide (i = 2)))
      have hol := hout.length
      have hol2 : ((stab (ks.zip as)).map (·.2)).length ≤ 12 := by
        unfold stab
        have h1 := fun p : Int × AV → Bool => List.length_filter_le p (ks.zip as)
        have h2 := List.length_zip (l₁ := ks) (l₂ := as)
        simp only [List.length_map, List.length_append]
        have a1 := h1 (fun x => decide (x.1 = 0))
        have a2 := h1 (fun x => decide (x.1 = 1))
        have a3 := h1 (fun x => decide (x.1 = 2))
        omega
      unfold ksk_tail
      dsimp only
      refine wpAny_bind (listUpdate_at hkl rfl ?_ (by rw [List.size_toArray, List.length_map, sizeLine_eq]; omega) (Nat.zero_le _))
      have R6 := R'.upSeq (ys := []) (f := fun _ => #[]) (tk := s'.toks) .here hkl (by simpa using AllIs.nil)
      refine wpAny_bind (wpAny_letGo ?_)
      generalize s'.heap.update kS (Obj.mapSeq fun _ => (#[] : Array Value)) = h6 at R6 ⊢
      obtain ⟨oa, hoa, rfl⟩ := R6.own _ (.tail _ (.tail _ (.tail _ (.head _))))
      refine wpAny_bind (seqEpoch_at hoa rfl ?_)
      rw [hst, if_neg (by decide)]
      generalize hout2 : (stab (trip xs vals)).map (·.2.2) = out at *
      have hoo : out.length ≤ 12 := by omega
      obtain ⟨c2, hc2⟩ : ∃ c2, (h6.update a (Obj.mapSeq fun _ => out.toArray)).get? a = some (seqObj "list" out.toArray c2) := ⟨_, get?_update_seq hoa fun _ => out.toArray⟩
      have hsb := Heap.SameBut.update h6 a (Obj.mapSeq fun _ => out.toArray)
      refine wpAny_bind (listUpdate_at hoa rfl ?_ (Nat.zero_le _) (by rw [List.size_toArray, sizeLine_eq]; omega))
      generalize h6.update a (Obj.mapSeq fun _ => out.toArray) = h7 at hc2 hsb ⊢
      rw [hf]
      simp only [bne_self_eq_false, Bool.false_eq_true, if_false]
      have R7 := (R6.perm (l' := (a, .raw (seqObj "list" #[] e1)) :: (L, .ns vs) :: (kS, .list []) :: (held, .sat fun _ => True) :: led) (permQ fun _ z => by simp only [List.count_cons]; omega)).change (ob' := .list ((stab (ks.zip as)).map (·.2))) (tk := s'.toks) hsb ⟨_, hc2, out, c2, hout, rfl⟩
      refine wpAny_pure ⟨_, rfl, vs, _, (R7.perm (l' := (L, .ns vs) :: (a, .list ((stab (ks.zip as)).map (·.2))) :: (kS, .list []) :: (held, .sat fun _ => True) :: led) (List.Perm.swap _ _ _)).sub ?_, h⟩
      exact .cons (.cons (.skip (.skip (.refl _))))
    by_cases h2 : vals.toArray.size < 2
    · rw [if_pos h2, if_pos h2]
      refine wpAny_bind (wpAny_pure ?_)
      rw [StateT.run_pure]
      refine wpAny_bind (wpAny_pure ?_)
      refine fin _ ?_ rfl
      rw [List.size_toArray] at h2
      rw [stab_small (by omega) htk]
      show ((trip xs vals).map keyed).toArray.map (·.2) = _
      simp
    · rw [if_neg h2, if_neg h2]
      rw [List.size_toArray] at h2
      rw [ksk_kind (kz := ks) (by rw [← hx1]; exact ints_are rfl) (by simp; omega)]
      refine wpAny_bind (wpAny_pure ?_)
      obtain ⟨⟨⟩, p', hp, hpo⟩ : ∃ (u : PUnit) (p' : Sh), shRuns.1.run (((trip xs vals).map keyed).toArray, #[]) = some (u, p') ∧ p'.1 = ((stab (trip xs vals)).map keyed).toArray := by
        have := runs_stable (ks := trip xs vals) (by omega) (by omega) htk
        cases q : shRuns.1.run (((trip xs vals).map keyed).toArray, #[]) with
        | none => rw [q] at this; cases this
        | some z => rw [q] at this; exact ⟨z.1, z.2, rfl, Option.some.inj this⟩
      refine wpAny_bind (wpAny_mono (shRuns.2 PG D.w A.in1 none_E s' _ _ _ hp) ?_ fun _ _ e => e)
      rintro ⟨⟨⟩, st'⟩ s'' ⟨rfl, -, rfl⟩
      refine fin _ ?_ rfl
      show p'.1.map (·.2) = _
      rw [hpo]
      simp
end
end Mine
end
section
open PySem PySem.W PySem.Calls PyProof.Rows
set_option maxRecDepth 100000
set_option maxHeartbeats 1000000
set_option autoImplicit false
set_option linter.unusedVariables false
namespace Mine
section
variable {D : Wd} {A : Around} {L : Addr} {vs : Vars} {led led' : Led} {env : Env} {a f c P : Addr} {s : Shared} {n : Nat} {ls gs : List Str}
theorem tabG_one {pos : Pos} {c' : Addr} : tabG.ok (tabObj #[rawInt pos.line, rawInt pos.col, .ref c']) := ⟨_, rfl, trivial⟩
theorem W.Lambda {params : Arguments} {body : Expr} {scope : Scope} {pos : Pos} {Q : Value → Vars → Led → Prop} {led0 : Led} (Fd : Fn env L ls gs) (hcode : env.code = .ref c) (C : CodeHd D.B c P) (hdef : defaultsOf params env = ([], [])) (hcl : closureFor scope env = Pure.pure []) (hled : Sub ((P, .raw (tabObj #[])) :: led0) led)
    (h : ∀ f c' ctv pm fo, fo = kla_obj "<lambda>" (env.qual ++ "<lambda>") params body scope [] pm c' ctv → Q (.ref f) vs ((f, .raw fo) :: (P, tabG) :: (c', codeOb (env.qual ++ "<lambda>")) :: led0)) :
    W D A L (eval (.Lambda params body scope pos) env) Q vs led := fun s R0 => by
  have R := R0.sub (.cons hled)
  refine kla_eval hdef ?_
  have T := D.top
  have hgs := T.g.keeps R.keep
  obtain ⟨bm, ob, b1, b2, b3, b4, b5, b6⟩ := T.bmain
  have hPn : D.B.get? P = none := R.fresh _ (.tail _ (.head _))
  have hgP : mainGlobals ≠ P := fun q => by
    obtain ⟨o, es, ep, e, hd, _⟩ := T.g
    rw [q, hPn] at e; cases e
  have hbP : bm ≠ P := fun q => by rw [q, hPn] at b3; cases b3
  have hbG : bm ≠ mainGlobals := fun q => by
    obtain ⟨o, es, ep, e, hd, _⟩ := T.g
    rw [q, e] at b3; cases b3; rw [hd] at b6; cases b6
  have hB : s.heap.BuiltinsAt D.mg P := ⟨bm, ob, b1, b2, hbG, hbP, R.keep _ _ b3, b4, b5, b6⟩
  have hP : s.heap.get? P = some (tabObj #[]) := by obtain ⟨o, ho, rfl⟩ := R.own _ (.tail _ (.head _)); exact ho
  have nd := R.nodup
  simp only [List.map_cons, List.nodup_cons, List.mem_cons, not_or] at nd
  refine kla_makeFunction (mg := D.mg) hcl Fd.gl hgs hcode (C.keeps R.keep) hP trivial rfl hgP hB fun c' ctv h' tk hx hge hlt hrec htb => ?_
  obtain ⟨c2, oc, vs2, t, e2, hoc, hd, hv⟩ := hrec
  cases e2
  have lt : ∀ p ∈ (L, Ob.ns vs) :: (P, Ob.raw (tabObj #[])) :: led0, p.1 < s.heap.objs.size := fun p hp => R.lt hp
  have l1 := lt _ (.head _)
  have l2 := lt _ (.tail _ (.head _))
  have hf : s.heap.objs.size ≤ h'.objs.size := Nat.le_trans hge (Nat.le_of_lt hlt)
  refine ⟨vs, _, R.redo (led' := (L, .ns vs) :: (h'.objs.size, .raw _) :: (P, tabG) :: (c', codeOb (env.qual ++ "<lambda>")) :: led0) [P] (fun b hb => ?_) (fun b o hb e => ?_) (fun p hp => ?_) (fun p hp => ?_) ?_, h h'.objs.size c' ctv ((D.mg "__name__").getD .none) _ rfl⟩
  · rw [List.mem_singleton] at hb; subst hb; simp
  · exact Heap.get?_push_of_some _ (hx b o (fun q => hb (by rw [q]; exact .head _)) e)
  · rcases List.mem_cons.mp hp with rfl | hp
    · obtain ⟨o, ho, k⟩ := R.own _ (.head _); exact ⟨o, Heap.get?_push_of_some _ (hx _ _ nd.1.1 ho), k⟩
    rcases List.mem_cons.mp hp with rfl | hp
    · exact ⟨_, Heap.get?_push_size _ rfl, rfl⟩
    rcases List.mem_cons.mp hp with rfl | hp
    · exact ⟨_, Heap.get?_push_of_some _ htb, tabG_one⟩
    rcases List.mem_cons.mp hp with rfl | hp
    · exact ⟨_, Heap.get?_push_of_some _ hoc, vs2, t, hd, hv⟩
    · obtain ⟨o, ho, k⟩ := R.own _ (.tail _ (.tail _ hp))
      exact ⟨o, Heap.get?_push_of_some _ (hx _ _ (fun q => nd.2.1 (List.mem_map.mpr ⟨_, hp, q⟩)) ho), k⟩
  · rcases List.mem_cons.mp hp with rfl | hp
    · exact .inl (by simp)
    rcases List.mem_cons.mp hp with rfl | hp
    · exact .inr hf
    rcases List.mem_cons.mp hp with rfl | hp
    · exact .inl (by simp)
    rcases List.mem_cons.mp hp with rfl | hp
    · exact .inr hge
    · exact .inl (List.mem_map_of_mem (.tail _ (.tail _ hp)))
  · have l4 : ∀ k, s.heap.objs.size ≤ k → k ∉ led0.map (·.1) := fun k hk hm => by
      obtain ⟨p, hp, e⟩ := List.mem_map.mp hm
      exact ltne (lt p (.tail _ (.tail _ hp))) hk e
    simp only [List.map_cons, List.nodup_cons, List.mem_cons, not_or]
    exact ⟨⟨ltne l1 hf, nd.1.1, ltne l1 hge, nd.1.2⟩, ⟨(ltne l2 hf).symm, (Nat.ne_of_lt hlt).symm, l4 _ hf⟩, ⟨ltne l2 hge, nd.2.1⟩, l4 _ hge, nd.2.2⟩
theorem Cl.lam {Q : Value → Led → Prop} {name qual : Str} {params : Arguments} {body : Expr} {scope : Scope} {pm ctv : Value} {c' : Addr} {fo : Obj} {vs : Vars} {binds : List (Str × Value)} {args : List Value} (hfo : fo = kla_obj name qual params body scope [] pm c' ctv) (hroom : Room A (n + 1))
    (hm : (f, .raw fo) ∈ led) (hc : (c', codeOb qual) ∈ led) (hok : fnOkO scope ls gs [] = true)
    (hb : ∀ pm c' ctv, bindArgs (kla_fn name qual params body scope [] pm (.ref c') ctv) ⟨args, []⟩ = Pure.pure binds) (hbo : bindsOk (kla_fn name qual params body scope [] .none .none .none) ls (binds.map (·.1)) = true) (hvs : varsOf ls binds = vs)
    (h : ∀ env L A', Fn env L ls gs → Room A' n → W D A' L (eval body env) (fun v vs led => ∃ led', Sub led' led ∧ Q v led') vs led) : Cl D A (.ref f) args [] Q led := by
  intro s R
  subst hvs hfo
  simp only [fnOkO, Bool.and_eq_true, List.all_eq_true, Bool.not_eq_true', beq_iff_eq, decide_eq_true_eq] at hok
  obtain ⟨⟨⟨⟨⟨⟨⟨h1, h2⟩, h3⟩, h6⟩, hnd⟩, h7⟩, h8⟩, h9⟩ := hok
  simp only [bindsOk, Bool.and_eq_true, List.all_eq_true, decide_eq_true_eq, beq_iff_eq, List.contains_iff_mem] at hbo
  obtain ⟨o, ho, rfl⟩ := R.own _ hm
  obtain ⟨oc, hoc, vs2, t, hd, hv⟩ := R.own _ hc
  have hcd : s.heap.CodeRec (.ref c') qual := ⟨c', oc, vs2, t, rfl, hoc, hd, hv⟩
  refine kla_callFunE hroom.depth ho rfl h2 h3 rfl hcd ?_
  rw [hb]
  refine wpAny_pure (wpAny_newFunctionEnv (fun x hx => by simpa using h6 x hx) (fun x hx => (hbo.2 _ (List.mem_map_of_mem hx)).2) (fun h₀ hns hsb => ⟨R.nolimit.fresh _ hsb, ?_⟩) h1)
  have hkeep : ∀ b o, s.heap.get? b = some o → h₀.get? b = some o := fun b o e => hsb.extBut b o (Nat.ne_of_lt (Heap.lt_size e)) (Heap.get?_push_of_some _ e)
  have R' := R.addFrame (tk := s.toks + binds.length) (L := s.heap.objs.size) (vs := varsOf ls binds) rfl (frame_ns (by unfold varsOf; rw [List.map_map]; show (ls.map id).Nodup; rw [List.map_id]; exact hnd) hns (varsOf_ok hbo.1 fun p hp => (hbo.2 _ (List.mem_map_of_mem hp)).1)) hkeep
  refine kla_codeExpr (wpAny_mono (h _ s.heap.objs.size _ ⟨h1, rfl, rfl, rfl, fun x hx => ?_, fun x hx => ?_⟩ hroom.deeper _ R') (fun v s' ⟨vs', led', R'', l2, hs, hq⟩ => ⟨v, l2, rfl, R''.sub hs.skip, hq⟩) fun _ _ x => x.elim)
  · have := h7 x hx; exact ⟨this.1, by simpa using this.2⟩
  · have := h8 x hx; exact ⟨this.1, by simpa using this.2⟩
end
end Mine
end
section
open PySem PySem.W PySem.Calls PyProof.Rows
set_option maxRecDepth 100000
set_option maxHeartbeats 1000000
set_option autoImplicit false
set_option linter.unusedVariables false
namespace Mine
/-- tuples of an int and a text -/
abbrev TwoL := List (Addr × Int × List Nat)
def TwoAt (h : Heap) (tl : TwoL) : Prop := ∀ p ∈ tl, ∃ va t, h.IsTuple p.1 #[va, .str (S p.2.2) t]
theorem TwoAt.keeps {h h' : Heap} {tl : TwoL} (x : TwoAt h tl) (k : ∀ b ∈ tl.map (·.1), ∀ o, h.get? b = some o → h'.get? b = some o) : TwoAt h' tl := fun p hp => by
  obtain ⟨va, t, o, ho, r⟩ := x p hp
  exact ⟨va, t, o, k _ (List.mem_map_of_mem hp) _ ho, r⟩
theorem texts_of : ∀ (l : List (Str × Tok)) (xs : List (List Nat)), l.length = xs.length → (∀ (i : Nat) (p : Str × Tok) (x : List Nat), l[i]? = some p → xs[i]? = some x → p.1 = S x) → l.map (·.1) = xs.map S
  | [], [], _, _ => rfl
  | [], _ :: _, h, _ => by simp at h
  | _ :: _, [], h, _ => by simp at h
  | p :: l, x :: xs, h, k => by
    rw [List.map_cons, List.map_cons, k 0 p x rfl rfl, texts_of l xs (by simpa using h) fun i p x h1 h2 => k (i + 1) p x (by simpa using h1) (by simpa using h2)]
section
variable {D : Wd} {A : Around} {L : Addr} {vs : Vars} {led led' : Led} {env : Env} {a f c P : Addr} {s : Shared} {n : Nat} {ls gs : List Str}
theorem two_of (R : Rep D led s) {tl : TwoL} (h : ∀ p ∈ tl, (p.1, Ob.tup [.int p.2.1, .str p.2.2]) ∈ led) : TwoAt s.heap tl := fun p hp => by
  obtain ⟨vals, n, hi, hl⟩ := R.tupAt (h p hp)
  cases hi with
  | cons h0 h1 => cases h1 with
    | cons h2 h3 =>
      cases h3
      obtain ⟨t, rfl⟩ := h2
      exact ⟨_, t, _, hl, rfl, n, rfl⟩
theorem W.join_gen {iter : Expr} {pl : Sem Bool} {sep : List Nat} {t0 : Tok} {pos p2 p3 p4 p5 p6 : Pos} {k1 : Nat} {args : List (Bool × Sem Value)} {Q : Value → Vars → Led → Prop} (Fd : Fn env L ls gs) (hcode : env.code = .ref c) (C : CodeHd D.B c P) (hr : Room A n) (hs : ∀ x, genFold iter env x = Pure.pure x)
    (hargs : args = [(false, eval (.GeneratorExp (.Subscript (.Name "x" p2) (.Constant (.int 1) k1 p3) p4) [⟨.Name "x" p5, iter, [], 0⟩] (sc1 "x") p6) env)])
    (h : W D A L (eval iter env) (fun v vs led => ∃ (B : Addr) (tl : TwoL), v = .ref B ∧ (P, tabG) ∈ led ∧ (B, Ob.list (tl.map fun (p : Addr × Int × List Nat) => .ref p.1)) ∈ led ∧ (∀ p ∈ tl, (p.1, Ob.tup [.int p.2.1, .str p.2.2]) ∈ led) ∧ tl.length ≤ 1000 ∧ ((tl.map fun p => p.2.2.length).sum + tl.length * sep.length ≤ 10000000) ∧ ∀ t, Q (.str (S (joinL sep (tl.map (·.2.2)))) t) vs led) vs led) :
    W D A L (getMethod (.str (S sep) t0) "join" pl) (fun fx vs led => W D A L (PySem.callWith pos fx.1 fx.2 args []) Q vs led) vs led := fun s R0 => by
  subst hargs
  refine getMethod_builtin (typeIs_str s _ _) F.plainAttrs_str F.slot_str_join F.type_str_join (fun b e => by cases e) ⟨vs, led, R0, fun s R => ?_⟩
  refine wp_callM rfl ?_
  refine wpAny_GeneratorExp_walksQ hr.2.2 rfl (clos1 _ _) (by decide) (by decide) (by decide) rfl hr.depth ?_ hs
  refine wpAny_mono (h s R) (fun v s1 ⟨vs1, led1, R1, B, tl, hv, hP, hB, htl, hlen, hsum, hq⟩ => ?_) fun _ _ x => x.elim
  subst hv
  obtain ⟨vals, nB, hi, hl⟩ := R1.listAt (.tail _ hB)
  have hvals : vals = tl.map fun p => Value.ref p.1 := by
    clear hl hB htl hq hlen hsum
    generalize hZ : (tl.map fun p => AV.ref p.1) = Z at hi
    induction hi generalizing tl with
    | nil => cases tl with
      | nil => rfl
      | cons a b => cases hZ
    | cons h0 h1 ih => cases tl with
      | nil => cases hZ
      | cons a b =>
        rw [List.map_cons] at hZ
        injection hZ with z1 z2
        subst z1
        rw [List.map_cons, ← ih b z2, show _ = Value.ref a.1 from h0]
  have hpr := two_of R1 (tl := tl) fun p hp => .tail _ (htl p hp)
  refine wpAny_pyIter_list (isL hl) ?_
  have hPB := R1.fresh _ (.tail _ hP)
  obtain ⟨oP, hoP, ps, rfl, htr⟩ := R1.own _ (.tail _ hP)
  have hPlt : P < s1.heap.objs.size := Heap.lt_size hoP
  have hBlt : B < s1.heap.objs.size := Heap.lt_size hl
  refine ⟨R1.nolimit.push _, ?_⟩
  refine wp_genCode hcode ((C.keeps R1.keep).keeps fun b o e => Heap.get?_push_of_some _ e) (Heap.get?_push_of_some _ hoP) htr fun code h3 tk3 ps' hx hge htab htr' => ?_
  obtain ⟨bm, ob, BM⟩ := BMod_of (env := env) R1 Fd.gl
  have hbP : bm ≠ P := fun q => by
    obtain ⟨bm2, ob2, b1, b2, b3, b4, b5, b6⟩ := D.top.bmain
    have e1 := BM.name
    rw [b1] at e1
    cases e1
    rw [q, hPB] at b3; cases b3
  have hgP : env.globals ≠ P := fun q => by
    obtain ⟨o, es, ep, e, -⟩ := D.top.g
    rw [← Fd.gl, q, hPB] at e; cases e
  refine wpAny_builtinsFor ((BM.ns.push _).extBut hx hgP) BM.name BM.ne (hx _ _ hbP (Heap.get?_push_of_some _ BM.obj)) BM.cls BM.dict BM.data ?_
  have keep3 : ∀ b o, b ≠ P → s1.heap.get? b = some o → h3.get? b = some o := fun b o hb e => hx b o hb (Heap.get?_push_of_some _ e)
  have hIsz : (s1.heap.push { cls := .type "list_iterator", data := .fields #[.ref B, .int 0 0] }).objs.size = s1.heap.objs.size + 1 := Heap.size_push ..
  have hI3 : s1.heap.objs.size < h3.objs.size := by rw [hIsz] at hge; omega
  have htlt : ∀ b ∈ tl.map (·.1), b < s1.heap.objs.size := fun b hb => by
    obtain ⟨p, hp, rfl⟩ := List.mem_map.mp hb
    obtain ⟨va, t, o, ho, _⟩ := hpr p hp
    exact Heap.lt_size ho
  have hBP : B ≠ P := fun q => by rw [q, hoP] at hl; cases hl
  have htP : ∀ b ∈ tl.map (·.1), b ≠ P := fun b hb q => by
    obtain ⟨p, hp, rfl⟩ := List.mem_map.mp hb
    obtain ⟨va, t, o, ho, hc, _⟩ := hpr p hp
    rw [q, hoP] at ho
    cases ho; cases hc
  have hpr3 : TwoAt h3 tl := hpr.keeps fun b hb o e => keep3 b o (htP b hb) e
  have hst3 : (fun i (h : Heap) => h.IsListIter s1.heap.objs.size B i ∧ h.IsList B vals.toArray) 0 h3 :=
    ⟨⟨_, hx _ _ (Nat.ne_of_gt hPlt) (Heap.get?_push_size _ rfl), rfl, rfl⟩, ((isL hl).push _).extBut hx hBP⟩
  have hvl : vals.toArray.size = tl.length := by rw [hvals]; simp
  refine ⟨s1.heap.objs.size, [s1.heap.objs.size, B], [s1.heap.objs.size], vals.toArray.size, _, _, (fun _ => true), (fun i y => ∃ p t, tl[i]? = some p ∧ y = .str (S p.2.2) t), rfl, fun A' hA => Walks.list hA _ B (Nat.ne_of_lt hBlt) vals.toArray, hst3, ?_, ?_, ?_, ?_, ?_⟩
  · intro b hb
    rcases List.mem_cons.mp hb with rfl | hb
    · exact hI3
    · rw [List.mem_singleton] at hb; subst hb; exact Nat.lt_trans hBlt hI3
  · have hcP : cStatics ≠ P := fun q => by
      obtain ⟨mc, ⟨o, es, ep, e, -⟩, -⟩ := D.top.nolimit
      rw [q, hPB] at e; cases e
    exact (R1.nolimit.push _).extBut hx hcP
  · intro hm
    rw [List.mem_singleton] at hm
    obtain ⟨mc, ⟨o, es, ep, e, -⟩, -⟩ := R1.nolimit
    exact Nat.lt_irrefl _ (hm ▸ Heap.lt_size e)
  · intro href hhref
    refine ⟨fun A' E' i v s2 m2 hA hPt hn hma hk => wpAny_pure ⟨rfl, s2.heap, s2.toks, rfl, fun b o e => e⟩, fun A' E' i v s2 m2 hA hPt hpz hn hma hk => ?_⟩
    have hv2 : ∃ p, tl[i]? = some p ∧ v = .ref p.1 := by
      rw [hvals] at hPt
      simp only [List.getElem?_toArray, List.getElem?_map, Option.map_eq_some_iff] at hPt
      obtain ⟨p, hp, rfl⟩ := hPt
      exact ⟨p, hp, rfl⟩
    obtain ⟨p, hp, rfl⟩ := hv2
    have hpm : p ∈ tl := List.mem_of_getElem? hp
    obtain ⟨va, t, o, ho, r⟩ := hpr3 p hpm
    have hplt := htlt _ (List.mem_map_of_mem (f := fun (p : Addr × Int × List Nat) => p.1) hpm)
    have ht2 : IsTup s2.heap p.1 #[va, .str (S p.2.2) t] := ⟨o, hk p.1 (List.mem_range.mpr (Heap.lt_size ho)) (fun q => by rw [List.mem_singleton] at q; exact Nat.lt_irrefl _ (q ▸ hplt)) o (hhref _ _ ho), r⟩
    rw [eval_Subscript]
    refine wpAny_bind (ldG hn hma ?_ rfl rfl (by decide))
    refine wpAny_bind (wpAny_holding (wpAny_mkInt ?_))
    refine wpAny_bind (wpAny_standAt ?_)
    refine tail_of ht2.typeIs slot_tuple_getitem.lookup (getItem_tuple (j := 1) ht2 (by decide) (by decide) rfl rfl ?_) rfl
    exact ⟨⟨p, t, hp, rfl⟩, s2.heap, s2.toks + 1, rfl, fun b o e => e⟩
  · intro a h5 tk gs hgb hag hsz5 hk5 Wk hat
    rw [passing_all] at Wk
    simp only [passing_all] at hat
    rw [List.length_range] at Wk
    refine SC.joinGen (I := a) Wk.of_in1.of_in1 (fun i s' st => st.1.typeIs) hat (fun b hb => ?_) (.head _) (fun i v hv => ?_) (fun s6 l hm hacc => ?_) (by rw [hvl, sizeLine_eq]; omega)
    · show b < h5.objs.size
      rw [hsz5]
      rcases List.mem_cons.mp hb with rfl | hb
      · exact Nat.lt_succ_self _
      rcases List.mem_cons.mp hb with rfl | hb
      · exact Nat.lt_succ_of_lt hag
      · exact Nat.lt_succ_of_lt (Nat.lt_trans (List.mem_range.mp hb) hag)
    · obtain ⟨j, hj, p, t, hp, rfl⟩ := hv
      exact ⟨_, _, rfl⟩
    · have keep6 : ∀ b o, b < s1.heap.objs.size → h3.get? b = some o → s6.heap.get? b = some o := fun b o hb e => hm.heap b o (fun q => by
        rcases List.mem_cons.mp q with rfl | q
        · exact absurd hb (Nat.not_lt.mpr (Nat.le_of_lt hI3))
        · rw [List.mem_singleton] at q
          subst q
          exact Nat.lt_irrefl _ hb) (hk5 _ _ e)
      have hgm : GenOnlyQ s1.gens.size (s1.gens.push gs) s6.gens := hm.gens
      have R6 : Rep D ((L, .ns vs1) :: led1) s6 := R1.after hP (fun b o hb e => keep6 b o (Heap.lt_size e) (keep3 b o hb e)) ⟨ps', keep6 _ _ hPlt htab, htr'⟩ hm.os (fun i x hx => gens_moved hgm hx) (AllBare.movedS (AllBare.push R1.bare hgb) hm)
      have htx : l.map (·.1) = (tl.map (·.2.2)).map S := by
        refine texts_of l _ ?_ fun i q x h1 h2 => ?_
        · rw [List.length_map, ← hvl]
          have e1 := hacc.1
          simpa [strValues] using e1
        · obtain ⟨j, hj, p, t, hp, e⟩ := hacc.2 i (.str q.1 q.2) (by simp [strValues, h1])
          rw [List.getElem?_range (by
            rcases Nat.lt_or_ge i vals.toArray.size with z | z
            · exact z
            · rw [hvl] at z; rw [List.getElem?_map, List.getElem?_eq_none z] at h2; cases h2)] at hj
          cases hj
          rw [List.getElem?_map, hp] at h2
          cases h2
          injection e with e1 e2
      rw [htx]
      refine ⟨PyProof.Rows.joinOk_of ?_, fun t' k => ?_⟩
      · rw [sum_map_S, List.length_map, S_len, List.map_map]
        have e : ((tl.map (·.2.2)).length) = tl.length := List.length_map ..
        simp only [Function.comp_def, List.length_map] at *
        omega
      · rw [Txt_join_S]
        exact ⟨vs1, led1, R6.toks, hq _⟩
end
end Mine
end
section
open PySem PySem.W PySem.Calls PyProof.Rows
set_option maxRecDepth 100000
set_option autoImplicit false
set_option linter.unusedVariables false
namespace Mine
section
variable {D : Wd} {A : Around} {L : Addr} {vs : Vars} {led led' : Led} {env : Env} {a f c P : Addr} {s : Shared} {n : Nat} {ls gs : List Str} {as : List AV}
theorem W.MethodCallK {o : Expr} {name : Str} {apos pos : Pos} {args : List Expr} {kws : List Keyword} {pl : Sem Bool} {Q : Value → Vars → Led → Prop}
    (h : W D A L (eval o env) (fun ov vs led => W D A L (getMethod ov name pl) (fun fx vs led => W D A L (PySem.callWith pos fx.1 fx.2 (backTo pos (starEach args env)) (backToKw pos (keywordEach kws env))) Q vs led) vs led) vs led)
    (he : eval (.Call (.Attribute o name apos) args kws pos) env = (do
      let ov ← eval o env
      PySem.standAt apos.atName
      let (f, first) ← PySem.holding [ov] (getMethod ov name pl)
      PySem.callWith pos f first (backTo pos (starEach args env)) (backToKw pos (keywordEach kws env))) := by rfl) :
    W D A L (eval (.Call (.Attribute o name apos) args kws pos) env) Q vs led := by
  rw [he]
  exact W.bind (W.mono h fun _ _ _ q => W.bind (W.standAt (W.bind (W.holding (W.mono q fun _ _ _ q => q)))))
theorem W.mcLK {name : Str} {id : String} {pl : Sem Bool} {pos : Pos} {args : List (Bool × Sem Value)} {keywords : List (Option Str × Sem Value)} {Q : Value → Vars → Led → Prop} (hm : (a, .list as) ∈ led) (slot : Slot "list" name id) (ty : typeOf (.builtin id) = Pure.pure (.type "method_descriptor"))
    (h : W D A L (spliced args) (fun l vs led => W D A L (evalAll (keywords.map (·.2))) (fun ks vs led => W D A L (PySem.call (.builtin id) ([.ref a] ++ l) (kwNames keywords ks)) Q vs led) vs led) vs led) (hp : args.any (·.1) = false) (hall : keywords.all (·.1.isSome) = true) :
    W D A L (getMethod (.ref a) name pl) (fun fx vs led => W D A L (PySem.callWith pos fx.1 fx.2 args keywords) Q vs led) vs led := fun s R => by
  obtain ⟨vals, n, hi, hl⟩ := R.listAt (.tail _ hm)
  exact getMethod_builtin ⟨_, hl, rfl⟩ F.plainAttrs_list slot ty (fun b e => by cases e; exact ⟨_, hl, rfl⟩) ⟨vs, led, R, W.callKw keeperOf_builtin h hp hall⟩
theorem W.in_strs {x : List Nat} {t : Tok} {ys : List (List Nat)} {Q : Value → Vars → Led → Prop} (hm : (a, LS ys) ∈ led) (h : Q (.bool (ys.contains x)) vs led) : W D A L (compareOp .In (.str (S x) t) (.ref a)) Q vs led := fun s R => by
  obtain ⟨vals, n, hi, hl⟩ := R.listAt (.tail _ hm)
  exact in_list_strs (ys := ys.map S) (isL hl) (strs_are hi) (by rw [any_S]; exact ⟨vs, led, R, h⟩)
end
/- options -/
abbrev oA : List Nat := [45, 97]
abbrev oAll : List Nat := [45, 45, 97, 108, 108]
abbrev oB : List Nat := [47, 98]
abbrev oC : List Nat := [43, 99]
abbrev oDeep : List Nat := [43, 43, 100, 101, 101, 112]
abbrev oWord : List Nat := [119, 111, 114, 100]
abbrev o1 : List Nat := [45]
abbrev o2 : List Nat := [45, 45]
def opts : List (List Nat) := [oA, oAll, oB, oC, oDeep, oWord, o1, o2]
def preOf (x : List Nat) : List Nat := if x = oWord then [] else if (x.drop 1).take 1 = x.take 1 then x.take 2 else x.take 1
def keyOf (x : List Nat) : Int := ((preOf x).length : Int)
theorem key_small : ∀ x ∈ opts, small3 (keyOf x) := by unfold small3; decide
theorem opt_len : ∀ x ∈ opts, x.length ≤ 6 := by decide
theorem opt_ascii : ∀ x ∈ opts, ∀ c ∈ x, c < 128 := by decide
theorem slash_iff : ∀ x ∈ opts, (preOf x = [47] ↔ x = oB) := by decide
def ordL (xs : List (List Nat)) : List (List Nat) := xs.filter (fun x => decide (keyOf x = 0)) ++ xs.filter (fun x => decide (keyOf x = 1)) ++ xs.filter (fun x => decide (keyOf x = 2))
theorem zip_filter {α β : Type} (f : α → Int) (g : α → β) (p : Int → Bool) : ∀ l : List α, (((l.map f).zip (l.map g)).filter fun x => p x.1).map (·.2) = (l.filter fun x => p (f x)).map g
  | [] => rfl
  | x :: r => by
    have ih := zip_filter f g p r
    rw [List.map_cons, List.map_cons, List.zip_cons_cons, List.filter_cons, List.filter_cons]
    dsimp only
    split
    · rw [List.map_cons, List.map_cons, ih]
    · exact ih
def stabT (tl : TwoL) : TwoL := tl.filter (fun p => decide (p.2.1 = 0)) ++ tl.filter (fun p => decide (p.2.1 = 1)) ++ tl.filter (fun p => decide (p.2.1 = 2))
theorem stab_tl (tl : TwoL) : (stab ((tl.map (·.2.1)).zip (tl.map fun p => AV.ref p.1))).map (·.2) = (stabT tl).map fun p => AV.ref p.1 := by
  unfold stab stabT
  simp only [List.map_append]
  rw [zip_filter (fun p : Addr × Int × List Nat => p.2.1) (fun p => AV.ref p.1) (fun i => decide (i = 0)) tl, zip_filter (fun p : Addr × Int × List Nat => p.2.1) (fun p => AV.ref p.1) (fun i => decide (i = 1)) tl, zip_filter (fun p : Addr × Int × List Nat => p.2.1) (fun p => AV.ref p.1) (fun i => decide (i = 2)) tl]
theorem filter_texts (k : Int) : ∀ (tl : TwoL) (xs : List (List Nat)), tl.map (·.2.2) = xs → (∀ p ∈ tl, p.2.1 = keyOf p.2.2) → (tl.filter fun p => decide (p.2.1 = k)).map (·.2.2) = xs.filter fun x => decide (keyOf x = k)
  | [], _, rfl, _ => rfl
  | p :: r, _, rfl, h => by
    have ih := filter_texts k r _ rfl fun q hq => h q (.tail _ hq)
    rw [List.map_cons, List.filter_cons, List.filter_cons, h p (.head _)]
    split
    · rw [List.map_cons, ih]
    · exact ih
theorem stabT_texts {tl : TwoL} {xs : List (List Nat)} (h : tl.map (·.2.2) = xs) (hk : ∀ p ∈ tl, p.2.1 = keyOf p.2.2) : (stabT tl).map (·.2.2) = ordL xs := by
  unfold stabT ordL
  simp only [List.map_append]
  rw [filter_texts 0 tl xs h hk, filter_texts 1 tl xs h hk, filter_texts 2 tl xs h hk]
theorem stabT_mem {tl : TwoL} {p : Addr × Int × List Nat} (h : p ∈ stabT tl) : p ∈ tl := by
  unfold stabT at h
  rcases List.mem_append.mp h with h | h
  · rcases List.mem_append.mp h with h | h <;> exact (List.mem_filter.mp h).1
  · exact (List.mem_filter.mp h).1
theorem stabT_len (tl : TwoL) : (stabT tl).length ≤ 3 * tl.length := by
  unfold stabT
  have h := fun p : Addr × Int × List Nat → Bool => List.length_filter_le p tl
  have a1 := h (fun p => decide (p.2.1 = 0))
  have a2 := h (fun p => decide (p.2.1 = 1))
  have a3 := h (fun p => decide (p.2.1 = 2))
  simp only [List.length_append]
  omega
end Mine
end
section
open PySem PySem.W PySem.Calls PyProof.Rows
set_option maxRecDepth 100000
set_option maxHeartbeats 1000000
set_option autoImplicit false
set_option linter.unusedVariables false
namespace Mine
section
variable {D : Wd} {A : Around} {L : Addr} {vs : Vars} {led led' : Led} {env : Env} {a f c P : Addr} {s : Shared} {n : Nat} {as : List AV}
theorem swaps_true {x : Str} {p' cpos : Pos} {elt : Expr} {gens : List Comprehension} {scope : Scope} {line : Nat} {ls gs : List Str} (F : Fn env L ls gs) (hx : x ∈ ls) (hline : (p'.line == cpos.line) = true) (hnm : (scope.names.any fun (n, k) => n == x && (k == .local || k == .cell)) = false) :
    swapsWith (.ListComp elt gens scope cpos) (some (.Name x p')) line env = Pure.pure true := by
  have b : (env.blockKind == ScopeKind.function) = true := by unfold Env.blockKind; rw [F.fk]; rfl
  have k : (env.kindOf x == some NameKind.local) = true := by rw [(F.ls x hx).1]; rfl
  have e : swapsWith (.ListComp elt gens scope cpos) (some (.Name x p')) line env = Pure.pure (env.blockKind == .function && env.kindOf x == some .local && p'.line == cpos.line && !(scope.names.any fun (n, k) => n == x && (k == .local || k == .cell))) := rfl
  rw [e, b, k, hline, hnm]
  rfl
/-- a name bound to a list comprehension -/
theorem W.Assign_ListComp {x : Str} {p' cpos pos : Pos} {elt target iter : Expr} {ifs : List Expr} {scope : Scope} {ls gs ls0 gs0 fr : List Str} {ca : Str → Addr} {Q : Flow → Vars → Led → Prop} (Fd : Fn env L ls0 gs0) (hx : x ∈ ls0) (hline : (p'.line == cpos.line) = true) (hnm : (scope.names.any fun (n, k) => n == x && (k == .local || k == .cell)) = false) (hok : compOk scope ls gs fr = true)
    (hfree : ∀ x ∈ scope.names, x.2 = .free → env.cells.lookup x.1 = some (ca x.1)) (hs : ∀ x, foldedSetIterable iter env x = Pure.pure x)
    (h : W D A L (eval iter env) (fun v vs led => ∃ (items : List AV) (need : Led → Prop) (obs : Nat → Ob) (I : List AV → List AV → Vars → Led → Prop), Source D A L vs led target v items need obs ∧
      (∀ r outs vs led, I r outs vs led → need led ∧ outs.length ≤ 100000) ∧ I items [] (ls.map fun x => (x, none)) ((L, .ns vs) :: led) ∧
      (∀ C cenv acc it, Fn cenv C ls gs → (∀ x ∈ fr, CellVar cenv x (ca x)) → ∀ x r outs vs led ob v, x.is v → I (x :: r) outs vs led → W D A C (assign target cenv v) (fun _ vs led => W D A C (testIfs ifs cenv) (fun ok vs led =>
        (ok = true → W D A C (eval elt cenv) (Emit (fun o vs l => I r o vs l) it ob acc outs) vs led) ∧ (ok = false → ∃ l2, Sub ((it, ob) :: (acc, .list outs) :: l2) led ∧ I r outs vs l2)) vs led) vs ((it, ob) :: (acc, .list outs) :: led)) ∧
      (∀ outs vsC ledC, I [] outs vsC ledC → ∃ vs' led', Sub ((L, .ns vs') :: led') ledC ∧ ∀ acc, ∃ vs2, Put x (.ref acc) vs' vs2 ∧ Q .next vs2 ((acc, .list outs) :: led'))) vs led) :
    W D A L (exec (.Assign [.Name x p'] (.ListComp elt [⟨target, iter, ifs, 0⟩] scope cpos) pos) env) Q vs led := by
  rw [exec_Assign_arm]
  refine W.bind (W.standAt ?_)
  rw [show swapsWithSole [.Name x p'] (.ListComp elt [⟨target, iter, ifs, 0⟩] scope cpos) pos.line env = Pure.pure true from swaps_true (line := pos.line) Fd hx hline hnm]
  refine W.bind (W.pure ?_)
  rw [if_pos rfl]
  suffices hh : W D A L (evalThenUse (.ListComp elt [⟨target, iter, ifs, 0⟩] scope cpos) env (fun v => assignAll v ((assignEach [.Name x p'] env).map (·.2)))) (fun _ => Q .next) vs led from W.bind (W.mono hh fun _ _ _ q => W.pure q)
  rw [arm_evalThenUse_ListComp]
  refine W.bind (W.mono (Q := fun _ vs led => Q .next vs led) ?_ fun _ _ _ q => W.pure q)
  intro s R
  simp only [compOk, Bool.and_eq_true, List.all_eq_true, Bool.not_eq_true', beq_iff_eq, decide_eq_true_eq, Bool.or_eq_true, bne_iff_ne] at hok
  obtain ⟨⟨⟨⟨⟨⟨k1, k2⟩, k3⟩, k4⟩, k5⟩, k6⟩, k7⟩ := hok
  have hcl : closureFor scope env = Pure.pure (closL ca scope.names []) := by
    unfold closureFor
    have := closureFor_eq (env := env) (ca := ca) scope.names [] hfree
    refine Eq.trans (congrArg (· >>= fun r => Pure.pure r) (Eq.trans ?_ this)) (by simp only [pure_bind])
    congr 1
  refine wpAny_comprehension_free (cl := closL ca scope.names []) rfl hs hcl k1 (fun x hx hl => (k3 x hx).resolve_left (fun n => n hl)) ?_
  refine wpAny_mono (h s R) (fun v s1 ⟨vs1, led1, R1, items, need, obs, I, hsrc, hneed, h0, turn, fin⟩ => ?_) fun _ _ x => x.elim
  refine hsrc.iter _ _ _ R1 fun it s2 R2 => ?_
  refine wpAny_newList ?_
  have R3 := R2.pushed (ob := .list []) (tk := s2.toks) (o := { cls := .type "list", data := .seq #[] }) rfl ⟨[], 0, .nil, rfl⟩
  refine wpAny_newFunctionEnv (fun x hx => k2 x hx) (fun x hx => by cases hx) (fun h' hns hsb => ?_) k1
  have R4 := R3.addFrame (h' := h') (tk := s2.toks) (L := _) (vs := varsOf ls []) rfl (frame_ns (by unfold varsOf; rw [List.map_map]; show (ls.map id).Nodup; rw [List.map_id]; exact k4) hns (varsOf_ok (by simp) (fun p hp => by cases hp))) (fun b o e => hsb.extBut b o (Nat.ne_of_lt (Heap.lt_size e)) (Heap.get?_push_of_some _ e))
  generalize hC : (s2.heap.push _).objs.size = C at *
  have eK : ∀ x, (compEnvC scope (closL ca scope.names []) C env).kindOf x = (scope.names.lookup x).map fun k => if (k == NameKind.free && env.scope.kind == .function && env.kindOf x == some .cell) = true then NameKind.cell else k := fun x => lookup_relabel env scope.names x
  have Fc : Fn (compEnvC scope (closL ca scope.names []) C env) C ls gs := ⟨k1, rfl, Fd.gl, Fd.bl, fun x hx => ⟨by rw [eK, (k5 x hx).1]; rfl, by simpa using (k5 x hx).2⟩, fun x hx => ⟨by rw [eK, (k6 x hx).1]; rfl, by simpa using (k6 x hx).2⟩⟩
  have Fv : ∀ x ∈ fr, CellVar (compEnvC scope (closL ca scope.names []) C env) x (ca x) := fun x hx => by
    refine ⟨k1, ?_, closL_lookup ca _ _ x (.inr (k7 x hx).1.1), by simpa using (k7 x hx).1.2⟩
    rw [eK, (k7 x hx).1.1]
    simp only [Option.map_some]
    split
    · exact .inl rfl
    · exact .inr ⟨rfl, by simpa using (k7 x hx).2⟩
  have hvv : varsOf ls [] = ls.map fun x => (x, (none : Option AV)) := rfl
  rw [hvv] at R4
  have R5 := R4.perm (List.Perm.cons _ (l₂ := (it, obs 0) :: (s2.heap.objs.size, .list []) :: (L, .ns vs1) :: led1) (((List.Perm.swap _ _ _).trans (List.Perm.cons _ (List.Perm.swap _ _ _))).trans (List.Perm.swap _ _ _)))
  have core : ∀ s4, Rep D ((C, .ns (ls.map fun x => (x, none))) :: (it, obs 0) :: (s2.heap.objs.size, .list []) :: (L, .ns vs1) :: led1) s4 → codeAny D.M A (.compLoop (.ListComp elt [⟨target, iter, ifs, 0⟩] scope cpos) 0 (.ref it) (.ref s2.heap.objs.size) (compEnvC scope (closL ca scope.names []) C env)) (compPost D.M A none_E (some fun v => assignAll v ((assignEach [.Name x p'] env).map (·.2))) (fun a s' => ∃ vs' led', Rep D ((L, .ns vs') :: led') s' ∧ Q .next vs' led') (.ref s2.heap.objs.size) C) s4 := fun s4 R6 => by
    refine comp_loop (obs := obs) (items := items) I hneed (hsrc.next C it) (hsrc.done C it) (hsrc.lets C it) (fun outs led h => hsrc.more _ _ h) (turn C _ _ it Fc Fv) (fun outs vsC ledC s' hI R7 => ?_) h0 R6
    obtain ⟨vs', led', hsub, hq⟩ := fin _ _ _ hI
    obtain ⟨vs2, hput, hq⟩ := hq s2.heap.objs.size
    have R8 := (R7.sub (l := (C, .ns vsC) :: (s2.heap.objs.size, .list outs) :: (L, .ns vs') :: led') (.cons (.cons hsub))).perm (l' := (L, .ns vs') :: (C, .ns vsC) :: (s2.heap.objs.size, .list outs) :: led') (permQ fun _ z => by simp only [List.count_cons]; omega)
    have st : W D A L (assignAll (.ref s2.heap.objs.size) ((assignEach [.Name x p'] env).map (·.2))) (fun _ vs l => vs = vs2 ∧ l = (C, .ns vsC) :: (s2.heap.objs.size, .list outs) :: led') vs' ((C, .ns vsC) :: (s2.heap.objs.size, .list outs) :: led') :=
      W.bind (W.standAt (W.bindName (W.st Fd hx is_ref hput ⟨rfl, rfl⟩)))
    refine wpAny_mono (st s' R8) (fun _ s'' ⟨vs3, led3, R9, e1, e2⟩ => ?_) fun _ _ x => x.elim
    subst e1 e2
    have R10 := R9.perm (List.Perm.swap _ _ _)
    obtain ⟨m, hm, -⟩ := R10.frame
    exact ⟨m, hm, fun h2 hs2 => ⟨vs3, _, R10.dropHead (tk := s''.toks) hs2, hq⟩⟩
  refine codeAny_compStart_list (rest := []) (core _ R5) ?_
  exact hsrc.self it _ _ _ _ R5 (.tail _ (.head _)) (core _ R5)
end
end Mine
end
local macro_rules | `(tactic| kspl_open m_mem) => `(tactic| (with_reducible first | apply List.mem_cons_self | (refine List.mem_cons_of_mem _ ?_; kspl_open m_mem)))
local macro_rules | `(tactic| kspl_open m_get) => `(tactic| (with_reducible first | apply Mine.Get.here | (apply Mine.Get.there; kspl_open m_get)))
local macro_rules | `(tactic| kspl_open m_put) => `(tactic| (with_reducible first | apply Mine.Put.here | (apply Mine.Put.there; kspl_open m_put)))
local macro_rules | `(tactic| kspl_open m_up) => `(tactic| (with_reducible first | apply Mine.Up.here | (apply Mine.Up.there; kspl_open m_up)))
local macro_rules | `(tactic| kspl_open m_is) => `(tactic| (with_reducible first | apply Mine.is_int | apply Mine.is_str | apply Mine.is_ref | apply Mine.is_bool | apply Mine.is_none | assumption))
local macro_rules | `(tactic| kspl_open m_all) => `(tactic| (with_reducible first | apply Mine.AllIs.nil | (apply Mine.AllIs.cons; (kspl_open m_is); (kspl_open m_all))))
local macro_rules | `(tactic| kspl_open m_take1) => `(tactic| (with_reducible first | apply Mine.Take1.head | (apply Mine.Take1.tail; kspl_open m_take1)))
local macro_rules | `(tactic| kspl_open m_take) => `(tactic| (first | (with_reducible exact Mine.Take.nil) | (with_reducible apply Mine.Take.cons; (kspl_open m_tk); (kspl_open m_take))))
local macro_rules | `(tactic| kspl_open m_len) => `(tactic| (first | assumption | omega | (simp only [List.length_map, List.length_reverse, List.length_append, List.length_cons, List.length_nil, List.length_replicate, List.length_take, List.length_drop]; omega) | exact Nat.le_of_ble_eq_true rfl))
local macro_rules | `(tactic| kspl_open m_av) => `(tactic| (with_reducible first | (refine Mine.all_int ?_; intro _) | (refine Mine.all_str ?_; intro _) | refine Mine.all_ref ?_ | refine Mine.all_bool ?_ | refine Mine.all_none ?_))
local macro_rules | `(tactic| tb_start) => `(tactic| (with_reducible first | (refine Mine.way_t rfl ?_) | (refine Mine.way_f rfl ?_) | (refine Mine.wayD (fun hC => ?_) (fun hC => ?_))))
local macro_rules | `(tactic| kspl_open m_sub) => `(tactic| (first | (with_reducible exact Mine.Sub.refl _) | (with_reducible refine Mine.Sub.cons ?_; kspl_open m_sub) | (with_reducible apply Mine.Sub.pick; (kspl_open m_tk); kspl_open m_sub) | (with_reducible refine Mine.Sub.skip ?_; kspl_open m_sub)))
local macro_rules | `(tactic| kspl_open m_tk) => `(tactic| (first | (with_reducible exact Mine.Take1.head) | (with_reducible refine Mine.Take1.headE ?mse; (case mse => (first | exact rfl | (simp only [Mine.LS, Mine.LI, List.map_append, List.map_cons, List.map_nil, List.nil_append, List.map_reverse, List.reverse_nil, List.reverse_cons])))) | (with_reducible apply Mine.Take1.tail; kspl_open m_tk)))
local macro_rules | `(tactic| tb_rel) => `(tactic| (with_reducible first | (refine Mine.W.isEval ?_; kspl_open m_e) | (refine Mine.W.isExecs ?_; first | refine Mine.W.execs_cons ?_ | refine Mine.W.execs_nil ?_) | (refine Mine.W.isExec ?_; kspl_open m_s) | refine Mine.Nx.next ?_ | (refine Mine.W.isTest ?_; kspl_open m_t) | (refine Mine.W.isBin ?_; kspl_open m_b) | (refine Mine.W.isCmp ?_; kspl_open m_c) | (refine Mine.W.isTail ?_; kspl_open m_i) | (refine Mine.W.isCW ?_; kspl_open m_cw) | (refine Mine.W.isCall ?_; kspl_open m_call) | (refine Mine.W.st (by assumption) (by kspl_open m_mem) (by kspl_open m_is) (by kspl_open m_put) ?_) | (refine Mine.W.isSpl ?_; first | refine Mine.W.args_cons ?_ (by k_dflt rfl) | refine Mine.W.args_nil ?_) | (refine Mine.W.isMeth ?_; kspl_open m_m) | (refine Mine.W.isTruthy ?_; kspl_open m_tr) | (refine Mine.W.isInpl ?_; kspl_open m_ip) | refine Mine.Nx.ret ?_ | kspl_open m_x))
local macro_rules | `(tactic| kspl_open m_e) => `(tactic| (first | (refine Mine.W.ldC (by assumption) (by kspl_open m_mem) ?_; kspl_open m_av) | refine Mine.W.or_zero ?_ | refine Mine.W.BoolOp_or ?_ | (refine Mine.W.ld (by assumption) (by kspl_open m_mem) (by kspl_open m_get) ?_; kspl_open m_av) | (refine Mine.W.Constant_int ?_; intro _) | (refine Mine.W.Constant_str (by kspl_open m_cst) ?_; intro _) | refine Mine.W.BinOp ?_ | refine Mine.W.Call_ ?_ | refine Mine.W.Subscript ?_ | refine Mine.W.MethodCall ?_ (by k_dflt rfl) | refine Mine.W.Compare1 ?_ (by k_dflt rfl) | refine Mine.W.glb (by assumption) (by kspl_open m_mem) (by kspl_open m_glb) ?_ | refine Mine.W.Attribute_ ?_ (fun _ => rfl) | refine Mine.W.IfExp ?_ | refine Mine.W.List_ ?_ | refine Mine.W.Tuple_ ?_ | refine Mine.W.UnaryOp ?_ | refine Mine.W.Constant_none ?_ | refine Mine.W.Constant_bool ?_ | refine Mine.W.Slice_ ?_ | refine Mine.W.Joined_ ?_ (fun v hv => by k_dflt cases hv) | refine Mine.W.Formatted0 ?_ | refine Mine.W.Formatted1 ?_ | (refine Mine.W.Dict_empty ?_; intro _ _)))
local macro_rules | `(tactic| kspl_open m_s) => `(tactic| (first | refine Mine.W.Delete_Sub ?_ | refine Mine.W.Assign_Name ?_ (by k_dflt rfl) | refine Mine.W.If ?_ | refine Mine.W.Return ?_ | refine Mine.W.AugAssign_Name ?_ | refine Mine.W.Assign_Attr ?_ (by k_dflt rfl) | refine Mine.W.Assign_Sub ?_ (by k_dflt rfl) | refine Mine.W.Assign_swap (by assumption) (Mine.swap2 (by assumption) (by kspl_open m_mem) (by kspl_open m_mem) (by k_dflt decide) (by k_dflt rfl) (by k_dflt rfl) (by k_dflt rfl) (by k_dflt rfl)) ?_ (by k_dflt rfl) | refine Mine.W.Assign_swap (by assumption) (Mine.swap3 (by assumption) (by kspl_open m_mem) (by kspl_open m_mem) (by kspl_open m_mem) (by k_dflt decide) (by k_dflt decide) (by k_dflt decide) (by k_dflt rfl) (by k_dflt rfl) (by k_dflt rfl) (by k_dflt rfl) (by k_dflt rfl)) ?_ (by k_dflt rfl) | refine Mine.W.Aug_Attr ?_ | refine Mine.W.Expr_ ?_ (by kspl_open m_inter) (by k_dflt rfl) | refine Mine.W.Pass ?_ | refine Mine.W.Break ?_ | refine Mine.W.Continue ?_ | refine Mine.W.Return0 ?_))
local macro_rules | `(tactic| kspl_open m_t) => `(tactic| (first | refine Mine.W.isTrue_Compare1 ?_ (by k_dflt rfl) | refine Mine.W.isTrue_and ?_ | refine Mine.W.isTrue_and_nil ?_ | refine Mine.W.isTrue_or ?_ | refine Mine.W.isTrue_or_nil ?_ | refine Mine.W.isTrue_not ?_ | refine Mine.W.isTrue_plain ?_ (by k_dflt rfl)))
local macro_rules | `(tactic| kspl_open m_b) => `(tactic| (first | (refine Mine.W.add_int ?_; intro _) | (refine Mine.W.add_list (by kspl_open m_mem) (by kspl_open m_mem) (by kspl_open m_len) ?_; intro _) | (refine Mine.W.add_str (by kspl_open m_len) ?_; intro _) | (refine Mine.W.sub_int ?_; intro _) | (refine Mine.W.mul_str (by first | assumption | omega) (by first | assumption | omega) ?_; intro _) | (refine Mine.W.mod_int (by first | assumption | omega) ?_; intro _)))
local macro_rules | `(tactic| kspl_open m_ip) => `(tactic| (first | (refine Mine.W.iadd_int ?_; intro _) | (refine Mine.W.isub_int ?_; intro _) | (refine Mine.W.iadd_str (by kspl_open m_len) ?_; intro _)))
local macro_rules | `(tactic| kspl_open m_c) => `(tactic| (first | refine Mine.W.eq_int ?_ | refine Mine.W.eq_str ?_ | refine Mine.W.ne_str ?_ | refine Mine.W.lt_int ?_ | refine Mine.W.gt_int ?_ | refine Mine.W.le_int ?_ | refine Mine.W.ge_int ?_ | refine Mine.W.ne_int ?_ | refine Mine.W.ne_nil (by assumption) (by kspl_open m_mem) (by kspl_open m_mem) ?_ | refine Mine.W.eq_nil (by assumption) (by kspl_open m_mem) (by kspl_open m_mem) ?_ | refine Mine.W.eq_bool ?_ | refine Mine.W.eq_bool_none ?_ | refine Mine.W.is_none_none ?_ | refine Mine.W.is_none_ref ?_ | refine Mine.W.is_none_int ?_ | refine Mine.W.is_none_str ?_ | refine Mine.W.isnot_none_none ?_ | refine Mine.W.in_sign ?_))
local macro_rules | `(tactic| kspl_open m_i) => `(tactic| (first | (refine Mine.W.item_str0 ?_ (by k_dflt rfl); intro _) | (refine Mine.W.sl_tail (by kspl_open m_mem) (by kspl_open m_len) ?_; intro _) | (refine Mine.W.sl_upto (by first | assumption | omega) (by kspl_open m_len) ?_; intro _) | (refine Mine.W.sl_from (by first | assumption | omega) (by kspl_open m_len) ?_; intro _) | (refine Mine.W.sl_12 (by kspl_open m_len) ?_; intro _) | (refine Mine.W.sl_butlast (by kspl_open m_mem) (by kspl_open m_len) ?_; intro _) | (refine Mine.W.item_list (by kspl_open m_mem) (by decide) (by k_dflt rfl) (by kspl_open m_len) ?_ (by k_dflt rfl); kspl_open m_av) | (refine Mine.W.item_tup (by kspl_open m_mem) (by decide) (by k_dflt rfl) (by kspl_open m_len) ?_ (by k_dflt rfl); kspl_open m_av) | (refine Mine.W.item_end (by kspl_open m_mem) rfl (by kspl_open m_len) ?_ (by k_dflt rfl); kspl_open m_av)))
local macro_rules | `(tactic| kspl_open m_glb) => `(tactic| (with_reducible first | apply Mine.gl_len | apply Mine.gl_term_len | apply Mine.gl__law_take | apply Mine.gl_range | apply Mine.gl_max | apply Mine.gl__law_word | apply Mine.gl_wrap_text | apply Mine.gl_min | apply Mine.gl_enumerate | apply Mine.gl_strip_ansi | apply Mine.gl__ansi_match | apply Mine.gl__truncate_visible | apply Mine.gl__split_opt | apply Mine.gl_measure_table | apply Mine.gl_iter_rows | apply Mine.gl_join_options | apply Mine.gl__law_parts | apply Mine.gl__law_laid | apply Mine.gl__law_paragraphs | apply Mine.gl__law_wrapped | apply Mine.gl__law_line | apply Mine.gl__law_text | apply Mine.gl__law_usage | apply Mine.gl__law_list | apply Mine.gl__law_done | apply Mine.gl__law_joined | apply Mine.gl_ExtraIndent | apply Mine.gl_TextWrapper | apply Mine.gl_HelpFormatter | apply Mine.gl_sum | apply Mine.gl_sorted | apply Mine.gl_abs | apply Mine.gl_list | apply Mine.gl_tuple | apply Mine.gl_map | apply Mine.gl_ansi_re | apply Mine.gl_FORCED_WIDTH))
local macro_rules | `(tactic| kspl_open m_cst) => `(tactic| (first | apply Mine.lit_1 | apply Mine.lit_0 | apply Mine.lit_2 | apply Mine.lit_3 | apply Mine.lit_4 | apply Mine.lit_5 | apply Mine.lit_6 | apply Mine.lit_7 | apply Mine.lit_8 | apply Mine.lit_9 | apply Mine.lit_10 | apply Mine.lit_11 | apply Mine.lit_12 | apply Mine.lit_13 | apply Mine.lit_14 | apply Mine.lit_15 | apply Mine.lit_16 | apply Mine.lit_17 | apply Mine.lit_18 | apply Mine.lit_19 | apply Mine.lit_20 | apply Mine.lit_21 | apply Mine.lit_22 | apply Mine.lit_23 | apply Mine.lit_24))
local macro_rules | `(tactic| kspl_open m_cw) => `(tactic| (first | refine Mine.W.callKw' (by kspl_open m_kpc) ?_ (by k_dflt rfl) (by k_dflt rfl) | refine Mine.W.callOwn0 (by kspl_open m_mem) (by assumption) ?_ | refine Mine.W.callNo (by kspl_open m_kp) ?_ (by k_dflt rfl) | refine Mine.W.callNo' (by kspl_open m_kpc) ?_ (by k_dflt rfl) | refine Mine.W.callKw (by kspl_open m_kp) ?_ (by k_dflt rfl) (by k_dflt rfl)))
local macro_rules | `(tactic| kspl_open m_kp) => `(tactic| (with_reducible first | apply Mine.keeperOf_builtin | apply Mine.keeperOf_type | apply Mine.kp_184 | apply Mine.kp_375 | apply Mine.kp_408 | apply Mine.kp_260 | apply Mine.kp_170 | apply Mine.kp_177 | apply Mine.kp_191 | apply Mine.kp_238 | apply Mine.kp_245 | apply Mine.kp_252 | apply Mine.kp_368 | apply Mine.kp_382 | apply Mine.kp_389 | apply Mine.kp_396 | apply Mine.kp_401 | apply Mine.kp_415 | apply Mine.kp_422 | apply Mine.kp_429 | apply Mine.kp_434 | apply Mine.kp_439 | apply Mine.kp_444 | apply Mine.kp_65 | apply Mine.kp_72 | apply Mine.kp_79 | apply Mine.kp_86 | apply Mine.kp_107 | apply Mine.kp_114 | apply Mine.kp_121 | apply Mine.kp_205 | apply Mine.kp_212 | apply Mine.kp_219 | apply Mine.kp_226 | apply Mine.kp_275 | apply Mine.kp_282 | apply Mine.kp_289 | apply Mine.kp_296 | apply Mine.kp_304 | apply Mine.kp_311 | apply Mine.kp_318 | apply Mine.kp_325 | apply Mine.kp_333 | apply Mine.kp_354))
local macro_rules | `(tactic| kspl_open m_kpc) => `(tactic| (with_reducible first | apply Mine.kp_124 | apply Mine.kp_229 | apply Mine.kp_357))
local macro_rules | `(tactic| kspl_open m_call) => `(tactic| (first | (refine Mine.W.call_enum (by kspl_open m_mem) ?_; intro _ _) | (refine Mine.W.list_pop (by kspl_open m_up) (by kspl_open m_len) ?_; kspl_open m_av) | refine Mine.W.list_reverse (by kspl_open m_up) (by kspl_open m_len) ?_ | (refine Mine.W.call_map (by kspl_open m_mem) ?_; intro _ _ _) | (refine Mine.W.strip0 (by kspl_open m_len) ?_; intro _) | (refine Mine.W.rstrip1 (by kspl_open m_len) ?_; intro _) | (refine Mine.W.lstrip1 (by kspl_open m_len) ?_; intro _) | (refine Mine.W.lstrip0 (by kspl_open m_len) ?_; intro _) | (refine Mine.W.strip1 (by kspl_open m_len) ?_; intro _) | (refine Mine.W.len_str (by kspl_open m_len) ?_; intro _) | (refine Mine.W.len_list (by kspl_open m_mem) (by kspl_open m_len) ?_; intro _) | (refine Mine.W.list_append (by kspl_open m_up2) (by kspl_open m_len) (by kspl_open m_is) ?_) | (refine Mine.W.max_int (by assumption) ?_; intro _) | (refine Mine.W.min_int (by assumption) ?_; intro _) | (refine Mine.W.range1 ?_; intro _) | (refine Mine.W.range2 ?_; intro _) | (refine Mine.W.join_list (by kspl_open m_mem) (by kspl_open m_len) ?_; intro _) | (refine Mine.W.list_pop0 (by kspl_open m_up) (by kspl_open m_len) ?_; kspl_open m_av) | (refine Mine.W.dict_get2 (by kspl_open m_mem) (by assumption) ?_; intro _) | (refine Mine.W.dict_items (by kspl_open m_mem) (by assumption) ?_; intro _) | (refine Mine.W.call_enumT (by kspl_open m_mem) ?_; intro _ _) | (refine Mine.W.len_tup (by kspl_open m_mem) (by kspl_open m_len) ?_; intro _) | (refine Mine.W.list_copy (by kspl_open m_mem) (by kspl_open m_len) ?_; intro _)))
local macro_rules | `(tactic| kspl_open m_up2) => `(tactic| (with_reducible first | apply Mine.Up.here | (apply Mine.Up.there; kspl_open m_up2)))
local macro_rules | `(tactic| kspl_open m_m) => `(tactic| (first | refine Mine.W.mcO (by kspl_open m_mo) (by kspl_open m_mem) (by kspl_open m_mem) (by k_dflt rfl) (by kspl_open m_kp) ?_ (by k_dflt rfl) | refine Mine.W.mcP Mine.slot_pat_sub Mine.type_pat_sub ?_ (by k_dflt rfl) | refine Mine.W.mcP Mine.slot_pat_match Mine.type_pat_match ?_ (by k_dflt rfl) | refine Mine.W.mcL (by kspl_open m_mem) PySem.F.slot_list_append PySem.F.type_list_append ?_ (by k_dflt rfl) | refine Mine.W.mcS PySem.F.slot_str_join PySem.F.type_str_join ?_ (by k_dflt rfl) | refine Mine.W.mcS PySem.F.slot_str_strip PySem.F.type_str_strip ?_ (by k_dflt rfl) | refine Mine.W.mcS PySem.F.slot_str_rstrip PySem.F.type_str_rstrip ?_ (by k_dflt rfl) | refine Mine.W.mcS PySem.F.slot_str_lstrip PySem.F.type_str_lstrip ?_ (by k_dflt rfl) | refine Mine.W.mcS PySem.F.slot_str_split PySem.F.type_str_split ?_ (by k_dflt rfl) | refine Mine.W.mcS PySem.F.slot_str_splitlines PySem.F.type_str_splitlines ?_ (by k_dflt rfl) | refine Mine.W.mcS PySem.F.slot_str_expandtabs PySem.F.type_str_expandtabs ?_ (by k_dflt rfl) | refine Mine.W.mcS PySem.F.slot_str_isalnum PySem.F.type_str_isalnum ?_ (by k_dflt rfl) | refine Mine.W.mcL (by kspl_open m_mem) PySem.F.slot_list_pop PySem.F.type_list_pop ?_ (by k_dflt rfl) | refine Mine.W.mcL (by kspl_open m_mem) PySem.F.slot_list_reverse PySem.F.type_list_reverse ?_ (by k_dflt rfl) | refine Mine.W.mcD (by kspl_open m_mem) PySem.F.slot_dict_get PySem.F.type_dict_get ?_ (by k_dflt rfl) | refine Mine.W.mcD (by kspl_open m_mem) PySem.F.slot_dict_items PySem.F.type_dict_items ?_ (by k_dflt rfl)))
local macro_rules | `(tactic| kspl_open m_tr) => `(tactic| (first | refine Mine.W.truthy_intD ?_ | refine Mine.W.truthy_bool ?_ | refine Mine.W.truthy_list (by kspl_open m_mem) (by kspl_open m_len) ?_ | refine Mine.W.truthy_str (by kspl_open m_len) ?_ | refine Mine.W.truthy_none ?_))
local macro_rules | `(tactic| kspl_open m_x) => `(tactic| (first | refine Mine.W.testIfs_nil ?_ | refine Mine.W.testIfs_one ?_ | (refine Mine.IntDue.intro ?_; intro _) | refine Mine.W.assign_three (by assumption) (by kspl_open m_mem) ?_ | refine Mine.W.del_all (by kspl_open m_up) (by kspl_open m_len) ?_ | refine Mine.W.kws_cons ?_ | refine Mine.W.kws_nil ?_ | refine Mine.W.stC (by assumption) (by assumption) (by kspl_open m_is) (by kspl_open m_up) ?_ | refine Mine.W.assign_name ?_ | refine Mine.W.assign_two (by assumption) (by kspl_open m_mem) ?_ | refine Mine.W.del_last (by kspl_open m_up) rfl (by kspl_open m_len) ?_ | (refine Mine.W.getB (by kspl_open m_mem) (by kspl_open m_ao) (by kspl_open m_mem) (by kspl_open m_get) (by k_dflt rfl) (by kspl_open m_hh) ?_; kspl_open m_av) | refine Mine.W.setB (by kspl_open m_mem) (by kspl_open m_so) (by kspl_open m_mem) (by kspl_open m_is) (by kspl_open m_put) (by kspl_open m_up) (by kspl_open m_len) ?_ | (refine Mine.W.neg_int ?_; intro _) | (refine Mine.W.newList (by kspl_open m_all) (by kspl_open m_len) ?_; intro _) | (refine Mine.W.newTuple (by kspl_open m_all) (by kspl_open m_len) ?_; intro _) | refine Mine.W.setItem0 (by kspl_open m_is) (by kspl_open m_up) (by kspl_open m_len) ?_ | refine Mine.W.setLast (by kspl_open m_is) (by kspl_open m_up) (by kspl_open m_len) rfl ?_ | (refine Mine.Stores.cons ?_; kspl_open m_av) | refine Mine.Stores.nil ?_ | refine Mine.swapDue2 (by kspl_open m_mem) ?_ | refine Mine.swapDue3 (by kspl_open m_mem) ?_ | refine Mine.Turn.next ?_ | refine Mine.Turn.cont ?_ | refine Mine.Turn.brk ?_ | refine Mine.Turn.ret ?_ | (refine Mine.W.loadL (by assumption) (by kspl_open m_mem) (by kspl_open m_get) ?_; kspl_open m_av) | (refine Mine.allAddr ?_; intro _) | refine Mine.W.partsE_cons ?_ | (refine Mine.W.partsE_nil (by kspl_open m_len) ?_; intro _) | refine Mine.PartDue.intro (by kspl_open m_len) ?_ | refine Mine.specDue ?_ | (refine Mine.W.field_str (by kspl_open m_len) ?_; intro _) | (refine Mine.W.field_int (by kspl_open m_len) ?_; intro _) | (refine Mine.W.field_pad rfl (by kspl_open m_len) (by kspl_open m_len) ?_; intro _) | refine Mine.W.part_none ?_ | refine Mine.W.part_some ?_ | refine Mine.W.setItemD (by kspl_open m_up) (by kspl_open m_len) ?_))
local macro_rules | `(tactic| kspl_open m_inter) => `(tactic| (exact Mine.Fn.inter (by assumption)))
local macro_rules | `(tactic| kspl_open m_ao) => `(tactic| (with_reducible first | apply Mine.at_357_indent_increment | apply Mine.at_357_width | apply Mine.at_357_current_indent | apply Mine.at_357_buffer | apply Mine.at_229_width | apply Mine.at_229_initial_indent | apply Mine.at_229_subsequent_indent | apply Mine.at_229_replace_whitespace | apply Mine.at_229_drop_whitespace | apply Mine.at_229_break_long_words | apply Mine.at_229_max_lines | apply Mine.at_229_placeholder | apply Mine.at_124_wrapper | apply Mine.at_124_indent | apply Mine.at_124_old_initial_indent | apply Mine.at_124_old_subsequent_indent))
local macro_rules | `(tactic| kspl_open m_so) => `(tactic| (with_reducible first | apply Mine.st_357_indent_increment | apply Mine.st_357_width | apply Mine.st_357_current_indent | apply Mine.st_357_buffer | apply Mine.st_229_width | apply Mine.st_229_initial_indent | apply Mine.st_229_subsequent_indent | apply Mine.st_229_replace_whitespace | apply Mine.st_229_drop_whitespace | apply Mine.st_229_break_long_words | apply Mine.st_229_max_lines | apply Mine.st_229_placeholder | apply Mine.st_124_wrapper | apply Mine.st_124_indent | apply Mine.st_124_old_initial_indent | apply Mine.st_124_old_subsequent_indent))
local macro_rules | `(tactic| kspl_open m_mo) => `(tactic| (with_reducible first | apply Mine.me_357_write | apply Mine.me_357_indent | apply Mine.me_357_dedent | apply Mine.me_357_write_usage | apply Mine.me_357_write_heading | apply Mine.me_357_write_paragraph | apply Mine.me_357_write_text | apply Mine.me_357_write_dl | apply Mine.me_357_getvalue | apply Mine.me_229__split | apply Mine.me_229_fill | apply Mine.me_229_wrap | apply Mine.me_229__wrap_chunks | apply Mine.me_229__handle_long_word | apply Mine.me_229_extra_indent | apply Mine.me_229_indent_only))
local macro_rules | `(tactic| kspl_open m_hh) => `(tactic| (with_reducible first | apply Mine.handed_ref | apply Mine.handed_int | apply Mine.handed_str | apply Mine.handed_bool | apply Mine.handed_none))
local macro_rules | `(tactic| kspl_open m_sb) => `(tactic| ((try dsimp only [Mine.Wr]); (try dsimp only [Mine.Pg]); (try dsimp only [Mine.Drs]); (try dsimp only [List.cons_append, List.nil_append]); kspl_open m_sub))
local macro_rules | `(tactic| kspl_open m_w) => `(tactic| (first | tb_rel | (with_reducible refine Mine.way_t rfl ?_) | (with_reducible refine Mine.way_f rfl ?_)))
section
open PySem PySem.W PySem.Calls PyProof.Rows
set_option maxRecDepth 100000
set_option autoImplicit false
set_option linter.unusedVariables false
namespace Mine
inductive PSt (x : List Nat) (rest : List Nat) : List (List Nat) → AV → Prop
  | nil : rest = x → PSt x rest [] .none
  | cons {pre cur b} : pgo pre cur b rest = partsL x → (pre ++ [cur]).length + rest.length ≤ x.length → cur.length + rest.length ≤ x.length → PSt x rest (pre ++ [cur]) (.bool b)

theorem parts_spec {D : Wd} {A : Around} {x : List Nat} {t : Tok} {Q : Value → Led → Prop} {R : Led} (room : Room A 3) (ha : ∀ c ∈ x, c < 128) (hz : x.length ≤ 100000)
    (h : ∀ a, Q (.ref a) ((a, LS (partsL x)) :: R)) : Cl D A (.ref 382) [.str (S x) t] [] Q R := by
  refine Cl.def_ (n := 2) (ls := ["text", "found", "last", "sign", "blank"]) (gs := []) (binds := [("text", .str (S x) t)]) (by rfl) (by kernel_rfl) room (by rfl) (by kernel_rfl) (fun S => by kernel_rfl) (by kernel_rfl)
    (vs := [("text", some (avOf (.str (S x) t))), ("found", none), ("last", none), ("sign", none), ("blank", none)]) (by rfl) fun env L A' F rm => ?_
  have e : avOf (.str (S x) t) = .str x := by show AV.str (S x).cps.toList = _; rw [S_cps]
  rw [e]
  repeat tb_rel
  refine W.For_str rm (fun _ => rfl) ?_
  rename_i a _
  repeat tb_rel
  refine ⟨x, _, fun rest vs led => ∃ found last u w, vs = ([("text", some (.str x)), ("found", some (.ref a)), ("last", some last), ("sign", u), ("blank", w)] : Vars) ∧ Sub ((a, LS found) :: R) led ∧ PSt x rest found last, rfl, ha, ?_, ?_, ?_⟩
  · exact ⟨[], .none, none, none, rfl, by kspl_open m_sub, .nil rfl⟩
  · rintro c r vs led it ob t ⟨found, last, u, w, rfl, hs, hp⟩
    refine W.sub (.cons hs) ?_
    repeat tb_rel
    have hc : decide ([c] = [32]) = decide (c = 32) := by simp
    rw [hc]
    cases hp with
    | nil h0 =>
      repeat tb_rel
      tb_start
      repeat tb_rel
      refine ⟨_, .cons (.refl _), [[c]], .bool _, _, _, rfl, by kspl_open m_sub, ?_⟩
      refine .cons (pre := []) ?_ (by subst h0; simp; omega) (by subst h0; simp; omega)
      subst h0; rfl
    | @cons pre cur b h1 h2 h3 =>
      dsimp only [LS]
      simp only [List.map_append, List.map_cons, List.map_nil]
      simp only [List.length_append, List.length_cons, List.length_nil] at h2 h3
      repeat tb_rel
      tb_start
      · rename_i hC
        repeat tb_rel
        refine ⟨_, .cons (.refl _), pre ++ [cur ++ [c]], .bool _, _, _, rfl, by kspl_open m_sub, ?_⟩
        rw [hC]
        refine .cons (by rw [← h1, pgo, if_pos hC]) (by simp; omega) (by simp; omega)
      · rename_i hC
        repeat tb_rel
        refine ⟨_, .cons (.refl _), (pre ++ [cur]) ++ [[c]], .bool _, _, _, rfl, by kspl_open m_sub, ?_⟩
        refine .cons (by rw [← h1, pgo, if_neg hC]) (by simp; omega) (by simp; omega)
  · rintro vs led ⟨found, last, u, w, rfl, hs, hp⟩
    refine W.sub hs ?_
    repeat tb_rel
    have : found = partsL x := by
      cases hp with
      | nil h0 => subst h0; rfl
      | cons h1 => exact h1
    subst this
    exact ⟨_, .refl _, h a⟩
end Mine
end
section
open PySem PySem.W PySem.Calls PyProof.Rows
set_option maxRecDepth 100000
set_option autoImplicit false
set_option linter.unusedVariables false
namespace Mine
section
variable {D : Wd} {A : Around} {x : List Nat} {t : Tok} {Q : Value → Led → Prop} {R : Led}
theorem strip_ansi_spec (room : Room A 3) (hx : 27 ∉ x) (hz : x.length ≤ 1000000) (h : ∀ t, Q (.str (S x) t) R) : Cl D A (.ref 170) [.str (S x) t] [] Q R := by
  refine Cl.def_ (n := 2) (ls := ["value"]) (gs := ["_ansi_re"]) (binds := [("value", .str (S x) t)]) (by rfl) (by kernel_rfl) room (by rfl) (by kernel_rfl) (fun S => by kernel_rfl) (by kernel_rfl)
    (vs := [("value", some (.str x))]) (by rfl) fun env L A' F rm => ?_
  repeat tb_rel
  refine W.pat_sub hx hz fun t => ?_
  repeat tb_rel
  exact ⟨_, .refl _, h _⟩
theorem ansi_match_spec {i : Int} {u : Tok} (room : Room A 3) (hx : 27 ∉ x) (hz : x.length ≤ 1000000) (h0 : 0 ≤ i) (h1 : i ≤ 1000000) (h : Q .none R) : Cl D A (.ref 177) [.str (S x) t, .int i u] [] Q R := by
  refine Cl.def_ (n := 2) (ls := ["text", "i"]) (gs := ["_ansi_re"]) (binds := [("text", .str (S x) t), ("i", .int i u)]) (by rfl) (by kernel_rfl) room (by rfl) (by kernel_rfl) (fun S => by kernel_rfl) (by kernel_rfl)
    (vs := [("text", some (.str x)), ("i", some (.int i))]) (by rfl) fun env L A' F rm => ?_
  repeat tb_rel
  refine W.pat_match hx hz h0 h1 ?_
  repeat tb_rel
  exact ⟨_, .refl _, h⟩
theorem term_len_spec (room : Room A 6) (hx : 27 ∉ x) (hz : x.length ≤ 1000000) (h : ∀ t, Q (.int x.length t) R) : Cl D A (.ref 184) [.str (S x) t] [] Q R := by
  refine Cl.def_ (n := 5) (ls := ["x"]) (gs := ["len", "strip_ansi"]) (binds := [("x", .str (S x) t)]) (by rfl) (by kernel_rfl) room (by rfl) (by kernel_rfl) (fun S => by kernel_rfl) (by kernel_rfl)
    (vs := [("x", some (.str x))]) (by rfl) fun env L A' F rm => ?_
  have hz' : x.length ≤ 10000000 := by omega
  repeat tb_rel
  refine W.use .nil (strip_ansi_spec (rm.less (by decide)) hx hz fun t => Back.intro (P := []) ?_)
  repeat tb_rel
  exact ⟨_, .refl _, h _⟩
theorem truncate_spec {n : Int} {u : Tok} (room : Room A 6) (hx : 27 ∉ x) (hz : x.length ≤ 100000) (hn : 1 ≤ n) (hn2 : n ≤ 1000000) (h : ∀ t, Q (.str (S (x.take n.toNat)) t) R) : Cl D A (.ref 191) [.str (S x) t, .int n u] [] Q R := by
  refine Cl.def_ (n := 5) (ls := ["text", "n", "visible", "i", "cut", "end", "m"]) (gs := ["len", "_ansi_match"]) (binds := [("text", .str (S x) t), ("n", .int n u)]) (by rfl) (by kernel_rfl) room (by rfl) (by kernel_rfl) (fun S => by kernel_rfl) (by kernel_rfl)
    (vs := [("text", some (.str x)), ("n", some (.int n)), ("visible", none), ("i", none), ("cut", none), ("end", none), ("m", none)]) (by rfl) fun env L A' F rm => ?_
  have hz' : x.length ≤ 10000000 := by omega
  repeat tb_rel
  tb_start
  · omega
  repeat tb_rel
  refine W.cutN (fun vs led => led = R ∧ ∃ a b e k m, k ≤ x.length ∧ x.take k = x.take n.toNat ∧ vs = ([("text", some (.str x)), ("n", some (.int n)), ("visible", a), ("i", b), ("cut", some (.int (k : Nat))), ("end", e), ("m", m)] : Vars)) ?_ fun vs led ⟨e1, a, b, e, k, m, hk, hc, e2⟩ => ?_
  · refine W.While_ (fun j vs led => led = R ∧ ∃ k m, j = x.length - k ∧ k ≤ x.length ∧ (k : Int) < n ∧ vs = ([("text", some (.str x)), ("n", some (.int n)), ("visible", some (.int (k : Nat))), ("i", some (.int (k : Nat))), ("cut", some (.int (k : Nat))), ("end", some (.int x.length)), ("m", m)] : Vars)) x.length ⟨rfl, 0, none, rfl, by omega, by omega, rfl⟩ ?_
    rintro j vs led ⟨rfl, k, m, rfl, hk, hkn, rfl⟩
    repeat tb_rel
    tb_start
    · rename_i hC
      repeat tb_rel
      refine W.use .nil (ansi_match_spec (rm.less (by decide)) hx (by omega) (by omega) (by omega) (Back.intro (P := []) ?_))
      dsimp only [List.nil_append]
      repeat tb_rel
      tb_start
      repeat tb_rel
      tb_start
      · rename_i hC2
        repeat tb_rel
        refine ⟨rfl, rfl, _, _, _, k + 1, _, by omega, ?_, rfl⟩
        congr 1
        omega
      · rename_i hC2
        repeat tb_rel
        exact ⟨x.length - (k + 1), by omega, rfl, k + 1, _, rfl, by omega, by omega, rfl⟩
    · rename_i hC
      repeat tb_rel
      refine ⟨rfl, rfl, _, _, _, k, _, hk, ?_, rfl⟩
      rw [List.take_of_length_le (by omega), List.take_of_length_le (by omega)]
  · subst e1 e2
    repeat tb_rel
    rw [Int.toNat_natCast, hc]
    exact ⟨_, .refl _, h _⟩
end
end Mine
end
section
open PySem PySem.W PySem.Calls PyProof.Rows
set_option maxRecDepth 100000
set_option maxHeartbeats 1000000
set_option autoImplicit false
set_option linter.unusedVariables false
namespace Mine
section
variable {D : Wd} {A : Around} {x first rest : List Nat} {t : Tok} {Q : Value → Led → Prop} {R : Led}
@[reducible] def laidV (x : T) (width : Int) (first rest : T) (pa la : Addr) (m1 m2 m3 m4 : Option AV) : Vars :=
  [("text", some (.str x)), ("width", some (.int width)), ("first", some (.str first)), ("rest", some (.str rest)), ("parts", some (.ref pa)), ("lines", some (.ref la)), ("mark", m1), ("room", m2), ("line", m3), ("cut", m4)]
def PLn (parts : List T) : Prop := ∀ p ∈ parts, Ln p
theorem len_le_mu {p : T} {parts : List T} (h : p ∈ parts) : p.length ≤ mu parts := by
  induction parts with
  | nil => cases h
  | cons q r ih =>
    rw [mu_cons]
    rcases List.mem_cons.mp h with rfl | h
    · omega
    · have := ih h; omega
theorem length_le_mu (parts : List T) : parts.length ≤ mu parts := by unfold mu; omega
theorem dropB_sub {lines parts : List T} : ∀ p ∈ dropB lines parts, p ∈ parts := by
  intro p hp
  unfold dropB at hp
  split at hp
  · exact hp
  · split at hp
    · exact .tail _ hp
    · exact hp
theorem fill_sub (room : Int) : ∀ (parts : List T) (line : T), ∀ p ∈ (fill room line parts).2, p ∈ parts
  | [], line, p, hp => hp
  | q :: r, line, p, hp => by
    unfold fill at hp
    split at hp
    · exact .tail _ (fill_sub room r _ p hp)
    · exact hp
theorem cutL_ln {room : Int} {line : T} {parts : List T} (h : ∀ p ∈ parts, Ln p) : ∀ p ∈ (cutL room line parts).2, Ln p := by
  cases parts with
  | nil => exact h
  | cons q r =>
    unfold cutL
    dsimp only
    split
    · intro p hp
      rcases List.mem_cons.mp hp with rfl | hp
      · exact (h q (.head _)).sub fun c hc => List.mem_of_mem_drop hc
      · exact h p (.tail _ hp)
    · exact h
theorem dropB_mu {lines parts : List T} : mu (dropB lines parts) ≤ mu parts := by
  unfold dropB
  split
  · exact Nat.le_refl _
  · split
    · rw [mu_cons]; omega
    · exact Nat.le_refl _

theorem laid_spec {width : Int} {t1 t2 t3 t4 : Tok} (room : Room A 6) (hx : Ln x) (hz : x.length ≤ 1000) (hfm : Firm x) (hw : -10000 ≤ width ∧ width ≤ 10000) (hf : first.length ≤ 400) (hr : rest.length ≤ 400)
    (h : ∀ a, Q (.ref a) ((a, LS (laidL width first rest x)) :: R)) : Cl D A (.ref 389) [.str (S x) t1, .int width t2, .str (S first) t3, .str (S rest) t4] [] Q R := by
  refine Cl.def_ (n := 5) (ls := ["text", "width", "first", "rest", "parts", "lines", "mark", "room", "line", "cut"]) (gs := ["_law_parts", "len", "max"]) (binds := [("text", .str (S x) t1), ("width", .int width t2), ("first", .str (S first) t3), ("rest", .str (S rest) t4)]) (by rfl) (by kernel_rfl) room (by rfl) (by kernel_rfl) (fun S => by kernel_rfl) (by kernel_rfl)
    (vs := [("text", some (.str x)), ("width", some (.int width)), ("first", some (.str first)), ("rest", some (.str rest)), ("parts", none), ("lines", none), ("mark", none), ("room", none), ("line", none), ("cut", none)]) (by rfl) fun env L A' F rm => ?_
  repeat tb_rel
  refine W.use .nil (parts_spec (rm.less (by decide)) hx.tx.ascii (by omega) fun pa => Back.intro (P := [_]) ?_)
  dsimp only [List.cons_append, List.nil_append]
  repeat tb_rel
  rename_i la _
  generalize hRES : laidL width first rest x = RES at h
  generalize hB : mu (partsL x) = B at *
  have hB2 : B ≤ 2000 := by have := parts_mu x; omega
  refine W.cutN (fun vs led => Sub ((la, LS RES) :: R) led ∧ ∃ pa m1 m2 m3 m4, vs = laidV x width first rest pa la m1 m2 m3 m4) ?_ fun vs led ⟨hs, pa, m1, m2, m3, m4, e⟩ => ?_
  · refine W.While_ (fun j vs led => ∃ pa m1 m2 m3 m4 parts lines, vs = laidV x width first rest pa la m1 m2 m3 m4 ∧ Sub ((pa, LS parts) :: (la, LS lines) :: R) led ∧ LSt lines parts ∧ PLn parts ∧ lines.length + mu parts ≤ B ∧ mu parts ≤ j ∧
      laidN width first rest j lines parts = RES ∧ (∀ l ∈ lines, l.length ≤ 400 + B)) B ⟨pa, none, none, none, none, partsL x, [], rfl, by kspl_open m_sub, parts_state hfm, fun p hp => hx.sub (parts_mem hp), by simp; omega, by omega, by rw [← hRES, ← hB]; rfl, by simp⟩ ?_
    rintro j vs led ⟨pa, m1, m2, m3, m4, parts, lines, rfl, hs, hst, hp, hlm, hj, hN, hll⟩
    refine W.sub hs ?_
    cases parts with
    | nil =>
      dsimp only [LS, List.map]
      repeat tb_rel
      tb_start
      repeat tb_rel
      have : lines = RES := by cases j <;> exact hN
      subst this
      exact ⟨rfl, by kspl_open m_sub, _, _, _, _, _, rfl⟩
    | cons p r =>
      have hj1 : ∃ n, j = n + 1 := ⟨j - 1, by rw [mu_cons] at hj; omega⟩
      obtain ⟨n, rfl⟩ := hj1
      change laidN width first rest n (stepL width first rest lines (p :: r)).1 (stepL width first rest lines (p :: r)).2 = RES at hN
      obtain ⟨hst', hmu', hne'⟩ := step_state (width := width) (first := first) (rest := rest) hst
      have hlen' := step_len (width := width) (first := first) (rest := rest) (B := B) (M := 400) hll hf hr (by omega : mu (p :: r) ≤ B)
      obtain ⟨hb', hd'⟩ := hst.dropB
      have hpl : p.length ≤ B := by rw [mu_cons] at hlm; omega
      have hrl : r.length ≤ B := by have := length_le_mu r; rw [mu_cons] at hlm; omega
      dsimp only [LS, List.map]
      repeat tb_rel
      tb_start
      unfold stepL at hN hst' hmu' hne' hlen'
      dsimp only at hN hst' hmu' hne' hlen'
      refine W.cut (fun vs led => ∃ m2, vs = laidV x width first rest pa la (some (.str (markOf first rest lines))) m2 m3 m4 ∧ Sub ((pa, LS (p :: r)) :: (la, LS lines) :: R) led) ?_ fun vs led ⟨m2, e, hs⟩ => ?_
      · cases lines with
        | nil =>
          dsimp only [List.map]
          repeat tb_rel
          tb_start
          repeat tb_rel
          exact ⟨rfl, _, rfl, by kspl_open m_sub⟩
        | cons l0 ls =>
          dsimp only [List.map]
          repeat tb_rel
          tb_start
          repeat tb_rel
          exact ⟨rfl, _, rfl, by kspl_open m_sub⟩
      subst e
      refine W.sub hs ?_
      have hmk : (markOf first rest lines).length ≤ 10000000 := by unfold markOf; split <;> omega
      have hmk2 : (markOf first rest lines).length ≤ 400 := by unfold markOf; split <;> omega
      generalize hroom : width - ((markOf first rest lines).length : Int) = rm1 at *
      have hrm : -20000 ≤ rm1 ∧ rm1 ≤ 20000 := by omega
      generalize hmark : markOf first rest lines = mark at *
      refine W.cut (fun vs led => vs = laidV x width first rest pa la (some (.str mark)) (some (.int rm1)) m3 m4 ∧ Sub ((pa, LS (p :: r)) :: (la, LS lines) :: R) led) ?_ fun vs led ⟨e, hs⟩ => ?_
      · repeat tb_rel
        rw [hroom]
        exact ⟨rfl, rfl, by kspl_open m_sub⟩
      subst e
      refine W.sub hs ?_
      have hpln : Ln p := hp p (.head _)
      refine W.cut (fun vs led => ∃ pa, vs = laidV x width first rest pa la (some (.str mark)) (some (.int rm1)) m3 m4 ∧ Sub ((pa, LS (dropB lines (p :: r))) :: (la, LS lines) :: R) led) ?_ fun vs led ⟨pa, e, hs⟩ => ?_
      · cases lines with
        | nil =>
          dsimp only [LS, List.map]
          repeat tb_rel
          tb_start
          tb_start
          repeat tb_rel
          have hd : dropB [] (p :: r) = p :: r := by unfold dropB; dsimp only; rw [if_neg (fun q => q.1 rfl)]
          rw [hd]
          exact ⟨rfl, _, rfl, by kspl_open m_sub⟩
        | cons l0 ls =>
          dsimp only [LS, List.map]
          have hpl2 : p.length ≤ 10000000 := by omega
          repeat tb_rel
          tb_start
          repeat tb_rel
          tb_start
          · rename_i hC
            repeat tb_rel
            tb_start
            repeat tb_rel
            have hb := (strip_nil hpln).mp hC
            have hd : dropB (l0 :: ls) (p :: r) = r := by unfold dropB; dsimp only; rw [if_pos ⟨by simp, hb⟩]
            rw [hd]
            exact ⟨rfl, _, rfl, by kspl_open m_sub⟩
          · rename_i hC
            tb_start
            repeat tb_rel
            have hb : ¬ blank p = true := fun q => hC ((strip_nil hpln).mpr q)
            have hd : dropB (l0 :: ls) (p :: r) = p :: r := by unfold dropB; dsimp only; rw [if_neg (fun q => hb q.2)]
            rw [hd]
            exact ⟨rfl, _, rfl, by kspl_open m_sub⟩
      subst e
      refine W.sub hs ?_
      generalize hdp : dropB lines (p :: r) = dp at *
      have hdln : PLn dp := fun q hq => hp q (dropB_sub q (by rw [hdp]; exact hq))
      have hdmu : mu dp ≤ B := by have := dropB_mu (lines := lines) (parts := p :: r); rw [hdp] at this; omega
      repeat tb_rel
      refine W.cutN (fun vs led => ∃ pa, vs = laidV x width first rest pa la (some (.str mark)) (some (.int rm1)) (some (.str (fill rm1 [] dp).1)) m4 ∧ Sub ((pa, LS (fill rm1 [] dp).2) :: (la, LS lines) :: R) led) ?_ fun vs led ⟨pa, e, hs⟩ => ?_
      · refine W.While_ (fun j vs led => ∃ pa line ps, vs = laidV x width first rest pa la (some (.str mark)) (some (.int rm1)) (some (.str line)) m4 ∧ Sub ((pa, LS ps) :: (la, LS lines) :: R) led ∧ fill rm1 line ps = fill rm1 [] dp ∧ mu ps ≤ j ∧ line.length + mu ps ≤ B) (mu dp)
          ⟨_, [], dp, rfl, by kspl_open m_sub, rfl, Nat.le_refl _, by simpa using hdmu⟩ ?_
        rintro j vs led ⟨pa, line, ps, rfl, hs, hfl, hj, hlb⟩
        refine W.sub hs ?_
        cases ps with
        | nil =>
          dsimp only [LS, List.map]
          repeat tb_rel
          tb_start
          tb_start
          repeat tb_rel
          have : fill rm1 line [] = (line, []) := rfl
          rw [← hfl, this]
          exact ⟨rfl, _, rfl, by kspl_open m_sub⟩
        | cons q qs =>
          dsimp only [LS, List.map]
          rw [mu_cons] at hj hlb
          have hq1 : q.length ≤ 10000000 := by omega
          have hq2 : line.length ≤ 10000000 := by omega
          have hq3 : qs.length ≤ B := by have := length_le_mu qs; omega
          repeat tb_rel
          tb_start
          repeat tb_rel
          tb_start
          · rename_i hC
            repeat tb_rel
            tb_start
            repeat tb_rel
            refine ⟨mu qs, by omega, _, line ++ q, qs, rfl, by kspl_open m_sub, ?_, Nat.le_refl _, by simp; omega⟩
            rw [← hfl, fill, if_pos hC]
          · rename_i hC
            tb_start
            repeat tb_rel
            have : fill rm1 line (q :: qs) = (line, q :: qs) := by rw [fill, if_neg hC]
            rw [← hfl, this]
            exact ⟨rfl, _, rfl, by kspl_open m_sub⟩
      subst e
      refine W.sub hs ?_
      have hfm1 := fill_len rm1 dp []
      have hps1 : PLn (fill rm1 [] dp).2 := fun q hq => hdln q (fill_sub rm1 dp [] q hq)
      generalize hfp : fill rm1 [] dp = fp at *
      obtain ⟨line1, ps1⟩ := fp
      dsimp only at hps1 hfm1 hN hst' hmu' hlen' ⊢
      simp only [List.length_nil, Nat.zero_add] at hfm1
      have hl1 : line1.length ≤ B := by omega
      have hcl := cutL_len rm1 line1 ps1
      refine W.cut (fun vs led => ∃ pa m4, vs = laidV x width first rest pa la (some (.str mark)) (some (.int rm1)) (some (.str (cutL rm1 line1 ps1).1)) m4 ∧ Sub ((pa, LS (cutL rm1 line1 ps1).2) :: (la, LS lines) :: R) led) ?_ fun vs led ⟨pa, m4, e, hs⟩ => ?_
      · cases ps1 with
        | nil =>
          dsimp only [LS, List.map]
          repeat tb_rel
          tb_start
          tb_start
          repeat tb_rel
          have : cutL rm1 line1 [] = (line1, []) := rfl
          rw [this]
          exact ⟨rfl, _, _, rfl, by kspl_open m_sub⟩
        | cons q qs =>
          dsimp only [LS, List.map]
          rw [mu_cons] at hfm1
          have hq1 : q.length ≤ 10000000 := by omega
          have hq2 : line1.length ≤ 10000000 := by omega
          have hq3 : qs.length ≤ B := by have := length_le_mu qs; omega
          repeat tb_rel
          tb_start
          repeat tb_rel
          tb_start
          · rename_i hC
            repeat tb_rel
            tb_start
            repeat tb_rel
            have : cutL rm1 line1 (q :: qs) = (line1 ++ q.take (max 1 (rm1 - (line1.length : Int))).toNat, q.drop (max 1 (rm1 - (line1.length : Int))).toNat :: qs) := by unfold cutL; dsimp only; rw [if_pos hC]; rfl
            rw [this]
            dsimp only [List.map, List.cons_append, List.nil_append]
            exact ⟨rfl, _, _, rfl, by kspl_open m_sub⟩
          · rename_i hC
            tb_start
            repeat tb_rel
            have : cutL rm1 line1 (q :: qs) = (line1, q :: qs) := by unfold cutL; dsimp only; rw [if_neg hC]
            rw [this]
            exact ⟨rfl, _, _, rfl, by kspl_open m_sub⟩
      subst e
      refine W.sub hs ?_
      have hps2 : PLn (cutL rm1 line1 ps1).2 := cutL_ln hps1
      generalize hcp : cutL rm1 line1 ps1 = cp at *
      obtain ⟨line2, ps2⟩ := cp
      dsimp only at hps2 hcl hN hst' hmu' hlen' ⊢
      have hl2 : line2.length ≤ 10000000 := by omega
      refine W.cut (fun vs led => vs = laidV x width first rest pa la (some (.str mark)) (some (.int rm1)) (some (.str (rstrip line2))) m4 ∧ Sub ((pa, LS ps2) :: (la, LS lines) :: R) led) ?_ fun vs led ⟨e, hs⟩ => ?_
      · repeat tb_rel
        exact ⟨rfl, rfl, by kspl_open m_sub⟩
      subst e
      refine W.sub hs ?_
      have hl3 := rstrip_len line2
      have hl4 : mark.length + (rstrip line2).length ≤ 10000000 := by omega
      generalize rstrip line2 = l3 at *
      have hll2 : lines.length ≤ 1000000 := by omega
      dsimp only [LS]
      repeat tb_rel
      tb_start
      · rename_i hC
        simp only [if_pos hC] at hN hst' hlen'
        repeat tb_rel
        exact ⟨n, by omega, pa, _, _, _, _, ps2, _, rfl, by kspl_open m_sub, hst', hps2, by have := hlen'.2; omega, by omega, hN, hlen'.1⟩
      · rename_i hC
        simp only [if_neg hC] at hN hst' hlen'
        repeat tb_rel
        exact ⟨n, by omega, pa, _, _, _, _, ps2, _, rfl, by kspl_open m_sub, hst', hps2, by have := hlen'.2; omega, by omega, hN, hlen'.1⟩
  · subst e
    refine W.sub hs ?_
    repeat tb_rel
    exact ⟨_, .refl _, h la⟩
end
end Mine
end
section
open PySem PySem.W PySem.Calls PyProof.Rows
set_option maxRecDepth 100000
set_option autoImplicit false
set_option linter.unusedVariables false
namespace Mine
section
variable {D : Wd} {A : Around} {x first rest : List Nat} {t : Tok} {Q : Value → Led → Prop} {R : Led}
theorem blank_in {c : Nat} (h : lnc c) : [9, 10, 11, 12, 13, 32].contains c = decide (c = 32) := by
  rw [Bool.eq_iff_iff]
  unfold lnc at h
  simp
  omega
inductive SSt (x : T) (rest : T) : List T → Prop
  | nil : rest = x → SSt x rest []
  | cons {pre c cur} : pgo pre (c :: cur) (decide (c = 32)) rest = partsL x → (pre ++ [c :: cur]).length + rest.length ≤ x.length → (c :: cur).length + rest.length ≤ x.length → lnc c → SSt x rest (pre ++ [c :: cur])
theorem split_spec {sf : Addr} (room : Room A 3) (hx : Ln x) (hz : x.length ≤ 100000)
    (h : ∀ a, Q (.ref a) ((a, LS (partsL x)) :: R)) : Cl D A (.ref 72) [.ref sf, .str (S x) t] [] Q R := by
  refine Cl.def_ (n := 2) (ls := ["self", "text", "chunks", "sign", "blank"]) (gs := []) (binds := [("self", .ref sf), ("text", .str (S x) t)]) (by rfl) (by kernel_rfl) room (by rfl) (by kernel_rfl) (fun S => by kernel_rfl) (by kernel_rfl)
    (vs := [("self", some (.ref sf)), ("text", some (.str x)), ("chunks", none), ("sign", none), ("blank", none)]) (by rfl) fun env L A' F rm => ?_
  repeat tb_rel
  refine W.For_str rm (fun _ => rfl) ?_
  rename_i a
  repeat tb_rel
  refine ⟨x, _, fun rest vs led => ∃ found u w, vs = ([("self", some (.ref sf)), ("text", some (.str x)), ("chunks", some (.ref a)), ("sign", u), ("blank", w)] : Vars) ∧ Sub ((a, LS found) :: R) led ∧ SSt x rest found ∧ (∀ c ∈ rest, c ∈ x), rfl, hx.tx.ascii, ?_, ?_, ?_⟩
  · exact ⟨[], none, none, rfl, by kspl_open m_sub, .nil rfl, fun _ h => h⟩
  · rintro c r vs led it ob t ⟨found, u, w, rfl, hs, hp, hm⟩
    refine W.sub (.cons hs) ?_
    have hc := blank_in (hx c (hm c (.head _)))
    have hcl := hx c (hm c (.head _))
    have hm' : ∀ d ∈ r, d ∈ x := fun d hd => hm d (.tail _ hd)
    cases hp with
    | nil h0 =>
      dsimp only [LS, List.map]
      repeat tb_rel
      rw [hc]
      repeat tb_rel
      tb_start
      tb_start
      repeat tb_rel
      refine ⟨_, .cons (.refl _), [[c]], _, _, rfl, by kspl_open m_sub, ?_, hm'⟩
      refine .cons (pre := []) ?_ (by subst h0; simp; omega) (by subst h0; simp; omega) hcl
      subst h0; rfl
    | @cons pre c0 cur h1 h2 h3 h4 =>
      dsimp only [LS]
      simp only [List.map_append, List.map_cons, List.map_nil]
      simp only [List.length_append, List.length_cons, List.length_nil] at h2 h3
      repeat tb_rel
      rw [hc]
      repeat tb_rel
      refine way_t (by simp) ?_
      repeat tb_rel
      rw [blank_in h4]
      repeat tb_rel
      tb_start
      · rename_i hC
        repeat tb_rel
        tb_start
        repeat tb_rel
        refine ⟨_, .cons (.refl _), pre ++ [c0 :: cur ++ [c]], _, _, rfl, by kspl_open m_sub, ?_, hm'⟩
        refine .cons (cur := cur ++ [c]) (by rw [← h1, pgo, if_pos hC.symm]; rfl) (by simp; omega) (by simp; omega) h4
      · rename_i hC
        tb_start
        repeat tb_rel
        refine ⟨_, .cons (.refl _), (pre ++ [c0 :: cur]) ++ [[c]], _, _, rfl, by kspl_open m_sub, ?_, hm'⟩
        refine .cons (by rw [← h1, pgo, if_neg (fun e => hC e.symm)]) (by simp; omega) (by simp; omega) hcl
  · rintro vs led ⟨found, u, w, rfl, hs, hp, hm⟩
    refine W.sub hs ?_
    repeat tb_rel
    have : found = partsL x := by
      cases hp with
      | nil h0 => subst h0; rfl
      | cons h1 => exact h1
    subst this
    exact ⟨_, .refl _, h a⟩
end
end Mine
end
section
open PySem PySem.W PySem.Calls PyProof.Rows
set_option maxRecDepth 100000
set_option autoImplicit false
namespace Mine
/-- the draws: the number at hand, the numbers to come -/
abbrev Dr := Int × List Int
def Dr.ok (s : Dr) : Prop := 0 ≤ s.1 ∧ s.1 < 10 ^ 15 ∧ (∀ y ∈ s.2, 0 ≤ y ∧ y < 10 ^ 15) ∧ s.2.length ≤ 12
@[reducible] def Drs (d q : Addr) (s : Dr) : Led := [(d, .list [.int s.1, .ref q]), (q, LI s.2)]

theorem take_spec {D : Wd} {A : Around} {d q : Addr} {m : Int} {s : Dr} {t : Tok} {Q : Value → Led → Prop} {R : Led} (room : Room A 3) (hs : s.ok) (h0 : 0 < m) (h1 : m ≤ 1000)
    (h : ∀ (v : Int) (s' : Dr) (t : Tok), 0 ≤ v → v < m → s'.ok → Q (.int v t) (Drs d q s' ++ R)) : Cl D A (.ref 375) [.ref d, .int m t] [] Q (Drs d q s ++ R) := by
  obtain ⟨x, xs⟩ := s
  obtain ⟨hx0, hx1, hxs, hl⟩ := hs
  dsimp only at hx0 hx1 hxs hl
  refine Cl.def_ (n := 2) (ls := ["draws", "many", "found"]) (gs := []) (binds := [("draws", .ref d), ("many", .int m t)]) (by rfl) (by kernel_rfl) room (by rfl) (by kernel_rfl) (fun S => by kernel_rfl) (by kernel_rfl) (vs := [("draws", some (.ref d)), ("many", some (.int m)), ("found", none)]) (by kernel_rfl) fun env L A' F rm => ?_
  dsimp only [List.cons_append, List.nil_append]
  refine W.cut (fun vs' led' => vs' = ([("draws", some (.ref d)), ("many", some (.int m)), ("found", none)] : Vars) ∧ ∃ s' : Dr, s'.ok ∧ Sub (Drs d q s' ++ R) led') ?_ fun vs' led' ⟨e, s', ⟨hx0, hx1, hxs, hl⟩, hsub⟩ => ?_
  · repeat tb_rel
    tb_start
    · repeat tb_rel
      cases xs with
      | nil =>
        tb_start
        tb_start
        tb_rel
        exact ⟨rfl, rfl, (x, []), ⟨hx0, hx1, hxs, hl⟩, by dsimp only [Drs, List.cons_append, List.nil_append]; kspl_open m_sub⟩
      | cons y ys =>
        tb_start
        repeat tb_rel
        tb_start
        repeat tb_rel
        dsimp only [LI, List.map]
        refine W.list_pop0 (as := ys.map .int) (by kspl_open m_up) (by simp at hl ⊢; omega) ?_
        kspl_open m_av
        repeat tb_rel
        repeat tb_rel
        have := hxs y (.head _)
        exact ⟨rfl, rfl, (y, ys), ⟨this.1, this.2, fun z hz => hxs z (.tail _ hz), by simp at hl ⊢; omega⟩, by dsimp only [Drs, List.cons_append, List.nil_append]; kspl_open m_sub⟩
    · tb_start
      repeat tb_rel
      exact ⟨rfl, rfl, (x, xs), ⟨hx0, hx1, hxs, hl⟩, by dsimp only [Drs, List.cons_append, List.nil_append]; kspl_open m_sub⟩
  · subst e
    obtain ⟨x, xs⟩ := s'
    dsimp only at hx0 hx1 hxs hl
    refine W.sub hsub ?_
    dsimp only [Drs, List.cons_append, List.nil_append]
    repeat tb_rel
    repeat tb_rel
    refine W.fdiv_int h0 hx0 (by omega) (by omega) fun t => ?_
    repeat tb_rel
    repeat tb_rel
    refine ⟨_, ?_, h _ (x / m, xs) _ (Int.emod_nonneg _ (by omega)) (Int.emod_lt_of_pos _ h0) ⟨Int.ediv_nonneg hx0 (by omega), ?_, hxs, hl⟩⟩
    · dsimp only [Drs, List.cons_append, List.nil_append]
      kspl_open m_sub
    · exact Int.lt_of_le_of_lt (Int.ediv_le_self _ hx0) hx1
end Mine
end
section
open PySem PySem.W PySem.Calls PyProof.Rows
set_option maxRecDepth 100000
set_option autoImplicit false
set_option linter.unusedVariables false
namespace Mine
section
variable {D : Wd} {A : Around} {x first rest : List Nat} {t : Tok} {Q : Value → Led → Prop} {R : Led}
/-- a word of letters -/
def Wordy (x : T) : Prop := 1 ≤ x.length ∧ x.length ≤ 14 ∧ ∀ c ∈ x, 97 ≤ c ∧ c ≤ 112
theorem wordy_take {y : T} {n : Int} (hy : y.length = 16) (hl : ∀ c ∈ y, 97 ≤ c ∧ c ≤ 112) (h1 : 1 ≤ n) (h2 : n ≤ 14) : Wordy (y.take n.toNat) :=
  ⟨by rw [List.length_take]; omega, by rw [List.length_take]; omega, fun c hc => hl c (List.mem_of_mem_take hc)⟩
theorem W.draw {L : Addr} {vs : Vars} {led R' : Led} {d q : Addr} {s : Dr} {m : Int} {Q : Value → Vars → Led → Prop} {n : Nat} (rm : Room A n) (hn : 3 ≤ n) (hs : s.ok) (h0 : 0 < m) (h1 : m ≤ 1000) (ht : Take (Drs d q s) led R')
    (h : ∀ (v : Int) (s' : Dr) (t : Tok), 0 ≤ v → v < m → s'.ok → Q (.int v t) vs (Drs d q s' ++ R')) : W D A L (PySem.call (.ref 375) [.ref d, .int m t]) Q vs led :=
  W.use ht (take_spec (rm.less hn) hs h0 h1 fun v s' t a b c => Back.intro (h v s' t a b c))
theorem word_spec {d q : Addr} {s : Dr} (room : Room A 6) (hs : s.ok) (h : ∀ (x : T) (s' : Dr) (t : Tok), Wordy x → s'.ok → Q (.str (S x) t) (Drs d q s' ++ R)) : Cl D A (.ref 408) [.ref d] [] Q (Drs d q s ++ R) := by
  refine Cl.def_ (n := 5) (ls := ["draws", "size"]) (gs := ["_law_take"]) (binds := [("draws", .ref d)]) (by rfl) (by kernel_rfl) room (by rfl) (by kernel_rfl) (fun S => by kernel_rfl) (by kernel_rfl)
    (vs := [("draws", some (.ref d)), ("size", none)]) (by rfl) fun env L A' F rm => ?_
  refine W.cut (fun vs led => ∃ n s', 1 ≤ n ∧ n ≤ 14 ∧ s'.ok ∧ vs = ([("draws", some (.ref d)), ("size", some (.int n))] : Vars) ∧ Sub (Drs d q s' ++ R) led) ?_ fun vs led ⟨n, s', h1, h2, hs', e, hsub⟩ => ?_
  · dsimp only [Drs, List.cons_append, List.nil_append]
    repeat tb_rel
    refine W.draw rm (by decide) hs (by decide) (by decide) (by kspl_open m_take) fun v s1 t v0 v1 hs1 => ?_
    dsimp only [Drs, List.cons_append, List.nil_append]
    have hv : v = 0 ∨ v = 1 ∨ v = 2 := by omega
    rcases hv with rfl | rfl | rfl
    all_goals
      repeat tb_rel
      refine W.draw rm (by decide) hs1 (by decide) (by decide) (by kspl_open m_take) fun v s2 t v2 v3 hs2 => ?_
      dsimp only [Drs, List.cons_append, List.nil_append]
      repeat tb_rel
      exact ⟨rfl, _, s2, by omega, by omega, hs2, rfl, by kspl_open m_sub⟩
  · subst e
    refine W.sub hsub ?_
    dsimp only [Drs, List.cons_append, List.nil_append]
    repeat tb_rel
    refine W.draw rm (by decide) hs' (by decide) (by decide) (by kspl_open m_take) fun v s1 t v0 v1 hs1 => ?_
    dsimp only [Drs, List.cons_append, List.nil_append]
    repeat tb_rel
    tb_start
    · repeat tb_rel
      exact ⟨_, .refl _, h _ s1 _ (wordy_take rfl (by decide) h1 h2) hs1⟩
    · repeat tb_rel
      exact ⟨_, .refl _, h _ s1 _ (wordy_take rfl (by decide) h1 h2) hs1⟩
end
end Mine
end
section
open PySem PySem.W PySem.Calls PyProof.Rows
set_option maxRecDepth 100000
set_option autoImplicit false
set_option linter.unusedVariables false
namespace Mine
section
variable {D : Wd} {A : Around} {x first rest : List Nat} {t : Tok} {Q : Value → Led → Prop} {R : Led}
/-- blanks and letters -/
def Plain (x : T) : Prop := ∀ c ∈ x, c = 32 ∨ (97 ≤ c ∧ c ≤ 112)
theorem Plain.app {x y : T} (h : Plain x) (k : Plain y) : Plain (x ++ y) := fun c hc => (List.mem_append.mp hc).elim (h c) (k c)
theorem Plain.blanks {n : Nat} : Plain (List.replicate n 32) := fun c hc => .inl (List.mem_replicate.mp hc).2
theorem Wordy.plain {x : T} (h : Wordy x) : Plain x := fun c hc => .inr (h.2.2 c hc)
theorem Wordy.firm {x : T} (h : Wordy x) : blank x = false := by
  obtain ⟨h1, -, h3⟩ := h
  cases x with
  | nil => simp at h1
  | cons c r =>
    have := h3 c (.head _)
    have hc : (c == 32) = false := by simp; omega
    show ((c == 32) && r.all (· == 32)) = false
    rw [hc]; rfl
theorem blank_app (x y : T) : blank (x ++ y) = (blank x && blank y) := List.all_append
/-- few blanks ahead -/
def Lead (x : T) : Prop := x.length ≤ (lstrip x).length + 2
theorem lstrip_app (x y : T) : lstrip (x ++ y) = if lstrip x = [] then lstrip y else lstrip x ++ y := by
  show (x ++ y).dropWhile _ = if x.dropWhile _ = [] then y.dropWhile _ else x.dropWhile _ ++ y
  rw [List.dropWhile_append]
  simp only [List.isEmpty_iff]
theorem Lead.app {x y : T} (h : Lead x) (k : lstrip x = [] → lstrip y = y) : Lead (x ++ y) := by
  unfold Lead at h ⊢
  rw [lstrip_app]
  split
  · rename_i e
    rw [k e, List.length_append]
    rw [e] at h
    simp at h
    omega
  · rw [List.length_append, List.length_append]; omega
theorem lstrip_blank : ∀ {x : T}, lstrip x = [] → blank x = true
  | [], _ => rfl
  | c :: r, h => by
    have h2 : (c :: r).dropWhile (fun c => [32].contains c) = [] := h
    rw [List.dropWhile_cons] at h2
    split at h2
    · rename_i hc
      have h3 := lstrip_blank (x := r) h2
      show ((c == 32) && r.all (· == 32)) = true
      have e : (c == 32) = true := by simpa using hc
      rw [e]; exact h3
    · cases h2
theorem Wordy.lstrip {x : T} (h : Wordy x) : lstrip x = x := by
  obtain ⟨h1, -, h3⟩ := h
  cases x with
  | nil => rfl
  | cons c r =>
    have := h3 c (.head _)
    have hc : [32].contains c = false := by simp; omega
    show (c :: r).dropWhile _ = _
    rw [List.dropWhile_cons, hc]; rfl
theorem Lead.blanks {n : Nat} (h : n ≤ 2) : Lead (List.replicate n 32) := by unfold Lead; rw [List.length_replicate]; omega
structure LineOk (x : T) : Prop where
  plain : Plain x
  firm : blank x = false
  short : x.length ≤ 80
  lead : Lead x
theorem line_spec {d q : Addr} {s : Dr} (room : Room A 10) (hs : s.ok) (h : ∀ (x : T) (s' : Dr) (t : Tok), LineOk x → s'.ok → Q (.str (S x) t) (Drs d q s' ++ R)) : Cl D A (.ref 415) [.ref d, .int 4 t] [] Q (Drs d q s ++ R) := by
  refine Cl.def_ (n := 9) (ls := ["draws", "many", "found", "k"]) (gs := ["_law_take", "_law_word", "range"]) (binds := [("draws", .ref d), ("many", .int 4 t)]) (by rfl) (by kernel_rfl) room (by rfl) (by kernel_rfl) (fun S => by kernel_rfl) (by kernel_rfl)
    (vs := [("draws", some (.ref d)), ("many", some (.int 4)), ("found", none), ("k", none)]) (by rfl) fun env L A' F rm => ?_
  refine W.cut (fun vs led => ∃ (n : Nat) (s' : Dr), n ≤ 2 ∧ s'.ok ∧ vs = ([("draws", some (.ref d)), ("many", some (.int 4)), ("found", some (.str (List.replicate n 32))), ("k", none)] : Vars) ∧ Sub (Drs d q s' ++ R) led) ?_ fun vs led ⟨n, s', hn, hs', e, hsub⟩ => ?_
  · dsimp only [Drs, List.cons_append, List.nil_append]
    repeat tb_rel
    refine W.draw rm (by decide) hs (by decide) (by decide) (by kspl_open m_take) fun v s1 t v0 v1 hs1 => ?_
    dsimp only [Drs, List.cons_append, List.nil_append]
    repeat tb_rel
    tb_start
    · repeat tb_rel
      refine W.draw rm (by decide) hs1 (by decide) (by decide) (by kspl_open m_take) fun v s2 t v2 v3 hs2 => ?_
      dsimp only [Drs, List.cons_append, List.nil_append]
      repeat tb_rel
      exact ⟨rfl, v.toNat, s2, by omega, hs2, rfl, by kspl_open m_sub⟩
    · repeat tb_rel
      exact ⟨rfl, 0, s1, by omega, hs1, rfl, by kspl_open m_sub⟩
  subst e
  refine W.sub hsub ?_
  dsimp only [Drs, List.cons_append, List.nil_append]
  refine W.cut (fun vs led => ∃ x k s', Plain x ∧ Lead x ∧ blank x = false ∧ x.length ≤ 70 ∧ s'.ok ∧ vs = ([("draws", some (.ref d)), ("many", some (.int 4)), ("found", some (.str x)), ("k", k)] : Vars) ∧ Sub (Drs d q s' ++ R) led) ?_ fun vs led ⟨x, k, s', hp, hld, hb, hl, hs', e, hsub⟩ => ?_
  · refine W.For_range rm (fun _ => rfl) ?_
    repeat tb_rel
    refine W.draw rm (by decide) hs' (by decide) (by decide) (by kspl_open m_take) fun v s1 t v0 v1 hs1 => ?_
    dsimp only [Drs, List.cons_append, List.nil_append]
    repeat tb_rel
    refine ⟨_, 0, _, fun ks vs led => ∃ (x : T) (k : Option AV) (s' : Dr), Plain x ∧ Lead x ∧ (ks.length ≤ (1 + v - 0).toNat ∧ (ks.length = (1 + v - 0).toNat → ks.head? = some 0)) ∧ x.length + 16 * ks.length ≤ 70 ∧ (ks.length < (1 + v - 0).toNat → blank x = false) ∧ s'.ok ∧ vs = ([("draws", some (.ref d)), ("many", some (.int 4)), ("found", some (.str x)), ("k", k)] : Vars) ∧ Sub (Drs d q s' ++ R) led, rfl, by kspl_open m_mem, by omega, ?_, ?_, ?_⟩
    · exact ⟨_, _, s1, .blanks, .blanks hn, ⟨by rw [upFrom_len]; omega, fun _ => by
        obtain ⟨m, hm⟩ : ∃ m, (1 + v - 0).toNat = m + 1 := ⟨v.toNat, by omega⟩
        rw [hm]; rfl⟩, by rw [upFrom_len, List.length_replicate]; omega, by rw [upFrom_len]; omega, hs1, rfl, by dsimp only [Drs, List.cons_append, List.nil_append]; kspl_open m_sub⟩
    · rintro k r vs led it ob t ⟨x, k', s2, hp, hld, ⟨hk1, hk2⟩, hl, hb, hs2, rfl, hsub⟩
      refine W.sub (.cons hsub) ?_
      simp only [List.length_cons] at hl hb hk1 hk2
      have hk3 : 0 < k → blank x = false := fun q => hb (by
        rcases Nat.lt_or_ge (r.length + 1) (1 + v - 0).toNat with h | h
        · exact h
        · have h2 := hk2 (by omega)
          simp at h2
          omega)
      dsimp only [Drs, List.cons_append, List.nil_append]
      repeat tb_rel
      tb_start
      · rename_i hC
        repeat tb_rel
        refine W.draw rm (by decide) hs2 (by decide) (by decide) (by kspl_open m_take) fun w s3 t w0 w1 hs3 => ?_
        dsimp only [Drs, List.cons_append, List.nil_append]
        repeat tb_rel
        refine W.use (P := Drs d q s3) (by kspl_open m_take) (word_spec (rm.less (by decide)) hs3 fun y s4 t hy hs4 => Back.intro ?_)
        have hy2 := hy.2.1
        dsimp only [Drs, List.cons_append, List.nil_append]
        repeat tb_rel
        exact ⟨Drs d q s4 ++ R, by dsimp only [Drs, List.cons_append, List.nil_append]; kspl_open m_sub, _, _, s4, (hp.app .blanks).app hy.plain, (hld.app (fun e => by have e1 := lstrip_blank e; rw [hk3 (by omega)] at e1; cases e1)).app (fun _ => hy.lstrip), ⟨by omega, fun e => by omega⟩, by simp only [List.length_append, List.length_replicate]; omega, fun _ => by rw [blank_app, hy.firm, Bool.and_false], hs4, rfl, .refl _⟩
      · rename_i hC
        repeat tb_rel
        refine W.use (P := Drs d q s2) (by kspl_open m_take) (word_spec (rm.less (by decide)) hs2 fun y s4 t hy hs4 => Back.intro ?_)
        have hy2 := hy.2.1
        dsimp only [Drs, List.cons_append, List.nil_append]
        repeat tb_rel
        exact ⟨Drs d q s4 ++ R, by dsimp only [Drs, List.cons_append, List.nil_append]; kspl_open m_sub, _, _, s4, (hp.app (y := []) (fun _ h => by cases h)).app hy.plain, (hld.app (y := []) (fun _ => rfl)).app (fun _ => hy.lstrip), ⟨by omega, fun e => by omega⟩, by simp only [List.length_append, List.length_nil]; omega, fun _ => by rw [blank_app, hy.firm, Bool.and_false], hs4, rfl, .refl _⟩
    · rintro vs led ⟨x, k', s2, hp, hld, -, hl, hb, hs2, rfl, hsub⟩
      refine W.sub hsub ?_
      dsimp only [Drs, List.cons_append, List.nil_append]
      repeat tb_rel
      simp only [List.length_nil] at hl hb
      exact ⟨rfl, x, _, s2, hp, hld, hb (by omega), by omega, hs2, rfl, by kspl_open m_sub⟩
  · subst e
    refine W.sub hsub ?_
    dsimp only [Drs, List.cons_append, List.nil_append]
    repeat tb_rel
    refine W.draw rm (by decide) hs' (by decide) (by decide) (by kspl_open m_take) fun v s1 t v0 v1 hs1 => ?_
    dsimp only [Drs, List.cons_append, List.nil_append]
    repeat tb_rel
    tb_start
    · repeat tb_rel
      exact ⟨_, .refl _, h _ s1 _ ⟨hp.app (fun c hc => by rw [List.mem_singleton] at hc; exact .inl hc), by rw [blank_app, hb]; rfl, by simp only [List.length_append, List.length_cons, List.length_nil]; omega, hld.app (fun e => by have e1 := lstrip_blank e; rw [hb] at e1; cases e1)⟩ hs1⟩
    · repeat tb_rel
      exact ⟨_, .refl _, h _ s1 _ ⟨hp.app (y := []) (fun _ h => by cases h), by rw [blank_app, hb]; rfl, by simp only [List.length_append, List.length_nil]; omega, hld.app (y := []) (fun _ => rfl)⟩ hs1⟩
end
end Mine
end
section
open PySem PySem.W PySem.Calls PyProof.Rows
set_option maxRecDepth 100000
set_option autoImplicit false
set_option linter.unusedVariables false
namespace Mine
section
variable {D : Wd} {A : Around} {x first rest : List Nat} {t : Tok} {Q : Value → Led → Prop} {R : Led}
/-- a row of a text -/
def RowOk (r : T) : Prop := r = [] ∨ LineOk r ∨ ∃ k, k ≤ 1 ∧ r = List.replicate k 32 ++ [8]
theorem RowOk.short {r : T} (h : RowOk r) : r.length ≤ 80 := by
  rcases h with rfl | h | ⟨k, hk, rfl⟩
  · simp
  · exact h.short
  · simp; omega
structure TextOk (x : T) : Prop where
  rows : ∃ rows : List T, x = joinL [10] rows ∧ rows ≠ [] ∧ rows.length ≤ 8 ∧ ∀ r ∈ rows, RowOk r
theorem sum_short {rows : List T} {n : Nat} (h : ∀ r ∈ rows, r.length ≤ n) : (rows.map (·.length)).sum ≤ rows.length * n := by
  induction rows with
  | nil => simp
  | cons r q ih =>
    have h1 := h r (.head _)
    have h2 := ih fun p hp => h p (.tail _ hp)
    simp only [List.map_cons, List.sum_cons, List.length_cons, Nat.succ_mul]
    omega
theorem text_spec {d q : Addr} {s : Dr} (room : Room A 14) (hs : s.ok) (h : ∀ (x : T) (s' : Dr) (t : Tok), TextOk x → s'.ok → Q (.str (S x) t) (Drs d q s' ++ R)) : Cl D A (.ref 422) [.ref d] [] Q (Drs d q s ++ R) := by
  refine Cl.def_ (n := 13) (ls := ["draws", "rows", "k", "kind"]) (gs := ["_law_take", "_law_line", "range"]) (binds := [("draws", .ref d)]) (by rfl) (by kernel_rfl) room (by rfl) (by kernel_rfl) (fun S => by kernel_rfl) (by kernel_rfl)
    (vs := [("draws", some (.ref d)), ("rows", none), ("k", none), ("kind", none)]) (by rfl) fun env L A' F rm => ?_
  dsimp only [Drs, List.cons_append, List.nil_append]
  repeat tb_rel
  refine W.cutN (fun vs led => ∃ ra rows k kd s', rows ≠ [] ∧ rows.length ≤ 8 ∧ (∀ r ∈ rows, RowOk r) ∧ s'.ok ∧ vs = ([("draws", some (.ref d)), ("rows", some (.ref ra)), ("k", k), ("kind", kd)] : Vars) ∧ Sub ((ra, LS rows) :: (Drs d q s' ++ R)) led) ?_ fun vs led ⟨ra, rows, k, kd, s', hne, hl, hro, hs', e, hsub⟩ => ?_
  · refine W.For_range rm (fun _ => rfl) ?_
    repeat tb_rel
    refine W.draw rm (by decide) hs (by decide) (by decide) (by kspl_open m_take) fun v s1 t v0 v1 hs1 => ?_
    dsimp only [Drs, List.cons_append, List.nil_append]
    repeat tb_rel
    refine ⟨_, 0, _, fun ks vs led => ∃ (ra : Addr) (rows : List T) (k kd : Option AV) (s' : Dr), rows.length + 2 * ks.length ≤ 8 ∧ (ks.length < (1 + v - 0).toNat → rows ≠ []) ∧ (∀ r ∈ rows, RowOk r) ∧ s'.ok ∧ vs = ([("draws", some (.ref d)), ("rows", some (.ref ra)), ("k", k), ("kind", kd)] : Vars) ∧ Sub ((ra, LS rows) :: (Drs d q s' ++ R)) led, rfl, by kspl_open m_mem, by omega, ?_, ?_, ?_⟩
    · exact ⟨_, [], _, _, s1, by rw [upFrom_len]; simp; omega, by rw [upFrom_len]; omega, (fun _ h => by cases h), hs1, rfl, by dsimp only [Drs, List.cons_append, List.nil_append]; kspl_open m_sub⟩
    · rintro k r vs led it ob t ⟨ra, rows, k', kd, s2, hl, hb, hro, hs2, rfl, hsub⟩
      refine W.sub (.cons hsub) ?_
      simp only [List.length_cons] at hl hb
      have hz : rows.length ≤ 1000 := by omega
      dsimp only [Drs, LS, List.cons_append, List.nil_append]
      repeat tb_rel
      refine W.draw rm (by decide) hs2 (by decide) (by decide) (by kspl_open m_take) fun w s3 t w0 w1 hs3 => ?_
      dsimp only [Drs, List.cons_append, List.nil_append]
      repeat tb_rel
      tb_start
      · repeat tb_rel
        exact ⟨(ra, LS (rows ++ [[]])) :: (Drs d q s3 ++ R), by dsimp only [Drs, List.cons_append, List.nil_append]; kspl_open m_sub, ra, rows ++ [[]], _, _, s3, by simp; omega, by simp, fun r hr => by
          rcases List.mem_append.mp hr with hr | hr
          · exact hro r hr
          · rw [List.mem_singleton] at hr; exact .inl hr, hs3, rfl, .refl _⟩
      · repeat tb_rel
        tb_start
        · repeat tb_rel
          refine W.draw rm (by decide) hs3 (by decide) (by decide) (by kspl_open m_take) fun y s4 t y0 y1 hs4 => ?_
          dsimp only [Drs, List.cons_append, List.nil_append]
          repeat tb_rel
          rename_i c
          exact ⟨(c, LS (rows ++ [[], List.replicate y.toNat 32 ++ [8]])) :: (Drs d q s4 ++ R), by dsimp only [Drs, List.cons_append, List.nil_append]; kspl_open m_sub, c, rows ++ [[], List.replicate y.toNat 32 ++ [8]], _, _, s4, by simp; omega, by simp, fun r hr => by
            rcases List.mem_append.mp hr with hr | hr
            · exact hro r hr
            · rcases List.mem_cons.mp hr with rfl | hr
              · exact .inl rfl
              · rw [List.mem_singleton] at hr; subst hr; exact .inr (.inr ⟨y.toNat, by omega, rfl⟩), hs4, rfl, .refl _⟩
        · repeat tb_rel
          refine W.use (P := Drs d q s3) (by kspl_open m_take) (line_spec (rm.less (by decide)) hs3 fun y s4 t hy hs4 => Back.intro ?_)
          dsimp only [Drs, List.cons_append, List.nil_append]
          repeat tb_rel
          exact ⟨(ra, LS (rows ++ [y])) :: (Drs d q s4 ++ R), by dsimp only [Drs, List.cons_append, List.nil_append]; kspl_open m_sub, ra, rows ++ [y], _, _, s4, by simp; omega, by simp, fun r hr => by
            rcases List.mem_append.mp hr with hr | hr
            · exact hro r hr
            · rw [List.mem_singleton] at hr; subst hr; exact .inr (.inl hy), hs4, rfl, .refl _⟩
    · rintro vs led ⟨ra, rows, k', kd, s2, hl, hb, hro, hs2, rfl, hsub⟩
      refine W.sub hsub ?_
      simp only [List.length_nil] at hl hb
      repeat tb_rel
      exact ⟨rfl, ra, rows, _, _, s2, hb (by omega), by omega, hro, hs2, rfl, .refl _⟩
  · subst e
    refine W.sub hsub ?_
    have h1 := sum_short (n := 80) fun r hr => (hro r hr).short
    have h2 : (rows.map (·.length)).sum + rows.length * [10].length ≤ 10000000 := by simp only [List.length_cons, List.length_nil]; omega
    repeat tb_rel
    exact ⟨Drs d q s' ++ R, by dsimp only [Drs, List.cons_append, List.nil_append]; kspl_open m_sub, h _ s' _ ⟨rows, rfl, hne, hl, hro⟩ hs'⟩
end
end Mine
end
section
open PySem PySem.W PySem.Calls PyProof.Rows
set_option maxRecDepth 100000
set_option autoImplicit false
set_option linter.unusedVariables false
namespace Mine
section
variable {D : Wd} {A : Around} {t : Tok} {Q : Value → Led → Prop} {R : Led}
/-- a page of help -/
@[reducible] def Pg (x dx b : Addr) (st w at_ : Int) (buf : List T) : Led := [(x, .inst 357 dx), (dx, .dict [("indent_increment", some (.int st)), ("width", some (.int w)), ("current_indent", some (.int at_)), ("buffer", some (.ref b))]), (b, LS buf)]
variable {x dx b : Addr} {st w at_ : Int} {buf : List T}
theorem write_spec {y : T} (room : Room A 3) (hz : buf.length ≤ 100000) (h : Q .none (Pg x dx b st w at_ (buf ++ [y]) ++ R)) : Cl D A (.ref 282) [.ref x, .str (S y) t] [] Q (Pg x dx b st w at_ buf ++ R) := by
  refine Cl.def_ (n := 2) (ls := ["self", "string"]) (gs := []) (binds := [("self", .ref x), ("string", .str (S y) t)]) (by rfl) (by kernel_rfl) room (by rfl) (by kernel_rfl) (fun S => by kernel_rfl) (by kernel_rfl)
    (vs := [("self", some (.ref x)), ("string", some (.str y))]) (by rfl) fun env L A' F rm => ?_
  dsimp only [Pg, LS, List.cons_append, List.nil_append]
  repeat tb_rel
  exact ⟨_, by dsimp only [Pg, LS, List.cons_append, List.nil_append]; kspl_open m_sub, h⟩
theorem indent_spec (room : Room A 3) (h : Q .none (Pg x dx b st w (at_ + st) buf ++ R)) : Cl D A (.ref 289) [.ref x] [] Q (Pg x dx b st w at_ buf ++ R) := by
  refine Cl.def_ (n := 2) (ls := ["self"]) (gs := []) (binds := [("self", .ref x)]) (by rfl) (by kernel_rfl) room (by rfl) (by kernel_rfl) (fun S => by kernel_rfl) (by kernel_rfl)
    (vs := [("self", some (.ref x))]) (by rfl) fun env L A' F rm => ?_
  dsimp only [Pg, LS, List.cons_append, List.nil_append]
  repeat tb_rel
  exact ⟨_, by dsimp only [Pg, LS, List.cons_append, List.nil_append]; kspl_open m_sub, h⟩
end
end Mine
end
section
open PySem PySem.W PySem.Calls PyProof.Rows
set_option maxRecDepth 100000
set_option autoImplicit false
set_option linter.unusedVariables false
namespace Mine
section
variable {D : Wd} {A : Around} {t : Tok} {Q : Value → Led → Prop} {R : Led} {x dx b : Addr} {st w at_ : Int} {buf : List T}
theorem dedent_spec (room : Room A 3) (h : Q .none (Pg x dx b st w (at_ - st) buf ++ R)) : Cl D A (.ref 296) [.ref x] [] Q (Pg x dx b st w at_ buf ++ R) := by
  refine Cl.def_ (n := 2) (ls := ["self"]) (gs := []) (binds := [("self", .ref x)]) (by rfl) (by kernel_rfl) room (by rfl) (by kernel_rfl) (fun S => by kernel_rfl) (by kernel_rfl)
    (vs := [("self", some (.ref x))]) (by rfl) fun env L A' F rm => ?_
  dsimp only [Pg, LS, List.cons_append, List.nil_append]
  repeat tb_rel
  exact ⟨_, by dsimp only [Pg, LS, List.cons_append, List.nil_append]; kspl_open m_sub, h⟩
theorem getvalue_spec (room : Room A 3) (hz : (buf.map (·.length)).sum ≤ 10000000) (hl : buf.length ≤ 100000) (h : ∀ t, Q (.str (S (joinL [] buf)) t) (Pg x dx b st w at_ buf ++ R)) : Cl D A (.ref 354) [.ref x] [] Q (Pg x dx b st w at_ buf ++ R) := by
  refine Cl.def_ (n := 2) (ls := ["self"]) (gs := []) (binds := [("self", .ref x)]) (by rfl) (by kernel_rfl) room (by rfl) (by kernel_rfl) (fun S => by kernel_rfl) (by kernel_rfl)
    (vs := [("self", some (.ref x))]) (by rfl) fun env L A' F rm => ?_
  dsimp only [Pg, List.cons_append, List.nil_append]
  have hz' : (buf.map (·.length)).sum + buf.length * ([] : List Nat).length ≤ 10000000 := by simpa using hz
  repeat tb_rel
  exact ⟨_, by dsimp only [Pg, List.cons_append, List.nil_append]; kspl_open m_sub, h _⟩
end
end Mine
end
section
open PySem PySem.W PySem.Calls PyProof.Rows
set_option maxRecDepth 100000
set_option autoImplicit false
set_option linter.unusedVariables false
namespace Mine
section
variable {D : Wd} {A : Around} {t : Tok} {Q : Value → Led → Prop} {R : Led} {x dx b : Addr} {st w at_ : Int} {buf : List T}
theorem paragraph_spec (room : Room A 6) (hz : buf.length ≤ 100000) (h : Q .none (Pg x dx b st w at_ (if buf = [] then buf else buf ++ [[10]]) ++ R)) : Cl D A (.ref 318) [.ref x] [] Q (Pg x dx b st w at_ buf ++ R) := by
  refine Cl.def_ (n := 5) (ls := ["self"]) (gs := []) (binds := [("self", .ref x)]) (by rfl) (by kernel_rfl) room (by rfl) (by kernel_rfl) (fun S => by kernel_rfl) (by kernel_rfl)
    (vs := [("self", some (.ref x))]) (by rfl) fun env L A' F rm => ?_
  cases buf with
  | nil =>
    rw [if_pos rfl] at h
    dsimp only [Pg, LS, List.map, List.cons_append, List.nil_append]
    repeat tb_rel
    tb_start
    repeat tb_rel
    exact ⟨_, by dsimp only [Pg, LS, List.cons_append, List.nil_append]; kspl_open m_sub, h⟩
  | cons y r =>
    dsimp only [Pg, LS, List.map, List.cons_append, List.nil_append]
    repeat tb_rel
    rw [if_neg (by simp)] at h
    have hz' : (AV.str y :: List.map AV.str r).length ≤ 10000000 := by simp at hz ⊢; omega
    repeat tb_rel
    tb_start
    repeat tb_rel
    refine W.use (P := Pg x dx b st w at_ (y :: r)) (by kspl_open m_take) (write_spec (rm.less (by decide)) hz (Back.intro ?_))
    repeat tb_rel
    exact ⟨_, .refl _, h⟩
end
end Mine
end
section
open PySem PySem.W PySem.Calls PyProof.Rows
set_option maxRecDepth 100000
set_option autoImplicit false
set_option linter.unusedVariables false
namespace Mine
section
variable {D : Wd} {A : Around} {t : Tok} {Q : Value → Led → Prop} {R : Led} {x dx b : Addr} {st w at_ : Int} {buf : List T}
theorem digs_len {n : Nat} (h : n < 400) : (digs n).length ≤ 10 := by
  have hok := fmtOk_of h
  unfold fmtOk at hok
  simp only [Bool.and_eq_true, decide_eq_true_eq] at hok
  exact hok.2
theorem heading_spec {y : T} {n : Nat} (room : Room A 6) (ha : at_ = (n : Int)) (hn : n < 400) (hy : y.length ≤ 1000) (hz : buf.length ≤ 100000) (h : Q .none (Pg x dx b st w at_ (buf ++ [List.replicate n 32 ++ y ++ [58, 10]]) ++ R)) : Cl D A (.ref 311) [.ref x, .str (S y) t] [] Q (Pg x dx b st w at_ buf ++ R) := by
  subst ha
  refine Cl.def_ (n := 5) (ls := ["self", "heading"]) (gs := []) (binds := [("self", .ref x), ("heading", .str (S y) t)]) (by rfl) (by kernel_rfl) room (by rfl) (by kernel_rfl) (fun S => by kernel_rfl) (by kernel_rfl)
    (vs := [("self", some (.ref x)), ("heading", some (.str y))]) (by rfl) fun env L A' F rm => ?_
  dsimp only [Pg, LS, List.cons_append, List.nil_append]
  have hd := digs_len hn
  repeat tb_rel
  simp only [List.nil_append, List.append_nil, List.length_nil, Nat.sub_zero]
  refine W.use (P := Pg x dx b st w n buf) (by kspl_open m_take) (write_spec (rm.less (by decide)) hz (Back.intro ?_))
  repeat tb_rel
  exact ⟨_, .refl _, h⟩
end
end Mine
end
section
open PySem PySem.W PySem.Calls PyProof.Rows
set_option maxRecDepth 100000
set_option autoImplicit false
set_option linter.unusedVariables false
namespace Mine
section
variable {D : Wd} {A : Around} {t : Tok} {Q : Value → Led → Prop} {R : Led}
/-- a wrapper of texts -/
@[reducible] def Wr (x dx : Addr) (w : Int) (ini sub : T) : Led := [(x, .inst 229 dx), (dx, .dict [("width", some (.int w)), ("initial_indent", some (.str ini)), ("subsequent_indent", some (.str sub)), ("replace_whitespace", some (.bool false)), ("drop_whitespace", some (.bool true)), ("break_long_words", some (.bool true)), ("max_lines", some .none), ("placeholder", some (.str [32, 91, 46, 46, 46, 93]))])]
variable {x dx c u : Addr} {w : Int} {ini sub : T}
theorem drop_take_len (p : T) (n : Nat) : p.drop (p.take n).length = p.drop n := by
  rw [List.length_take]
  by_cases h : n ≤ p.length
  · rw [Nat.min_eq_left h]
  · rw [Nat.min_eq_right (by omega), List.drop_of_length_le (Nat.le_refl _), List.drop_of_length_le (by omega)]
theorem handle_spec {rev cur : List T} {p : T} {cl wd : Int} {t1 t2 : Tok} (room : Room A 9) (hp : 27 ∉ p) (hz : p.length ≤ 100000) (hl1 : rev.length ≤ 100000) (hl2 : cur.length ≤ 100000) (hcl : -100000 ≤ cl ∧ cl ≤ 100000) (hwd : -100000 ≤ wd ∧ wd ≤ 100000)
    (h : Q .none (Wr x dx w ini sub ++ (c, LS (rev ++ [p.drop (max (wd - cl) 1).toNat])) :: (u, LS (cur ++ [p.take (max (wd - cl) 1).toNat])) :: R)) :
    Cl D A (.ref 205) [.ref x, .ref c, .ref u, .int cl t1, .int wd t2] [] Q (Wr x dx w ini sub ++ (c, LS (rev ++ [p])) :: (u, LS cur) :: R) := by
  refine Cl.def_ (n := 8) (ls := ["self", "reversed_chunks", "cur_line", "cur_len", "width", "space_left", "last", "cut", "res"]) (gs := ["max", "_truncate_visible", "len"]) (binds := [("self", .ref x), ("reversed_chunks", .ref c), ("cur_line", .ref u), ("cur_len", .int cl t1), ("width", .int wd t2)]) (by rfl) (by kernel_rfl) room (by rfl) (by kernel_rfl) (fun S => by kernel_rfl) (by kernel_rfl)
    (vs := [("self", some (.ref x)), ("reversed_chunks", some (.ref c)), ("cur_line", some (.ref u)), ("cur_len", some (.int cl)), ("width", some (.int wd)), ("space_left", none), ("last", none), ("cut", none), ("res", none)]) (by rfl) fun env L A' F rm => ?_
  dsimp only [Wr, List.cons_append, List.nil_append]
  simp only [LS, List.map_append, List.map_cons, List.map_nil] at h ⊢
  repeat tb_rel
  tb_start
  repeat tb_rel
  refine W.use .nil (truncate_spec (rm.less (by decide)) hp hz (by omega) (by omega) fun t => Back.intro (P := []) ?_)
  dsimp only [List.nil_append]
  repeat tb_rel
  rw [Int.toNat_natCast, drop_take_len]
  exact ⟨_, by dsimp only [Wr, List.cons_append, List.nil_append]; kspl_open m_sub, h⟩
end
end Mine
end
section
open PySem PySem.W PySem.Calls PyProof.Rows
set_option maxRecDepth 100000
set_option maxHeartbeats 1000000
set_option autoImplicit false
set_option linter.unusedVariables false
namespace Mine
section
variable {D : Wd} {A : Around} {t : Tok} {Q : Value → Led → Prop} {R : Led} {x dx c la : Addr} {w : Int} {ini sub : T}
theorem fillC_facts (room : Int) : ∀ (parts cur : List T), PLn parts → PLn cur → PLn (fillC room cur parts).1 ∧ PLn (fillC room cur parts).2 ∧ (fillC room cur parts).1.flatten.length + mu (fillC room cur parts).2 ≤ cur.flatten.length + mu parts ∧ (fillC room cur parts).1.length + mu (fillC room cur parts).2 ≤ cur.length + mu parts
  | [], cur, hp, hc => ⟨hc, hp, Nat.le_refl _, Nat.le_refl _⟩
  | q :: r, cur, hp, hc => by
    unfold fillC
    split
    · have := fillC_facts room r (cur ++ [q]) (fun z hz => hp z (.tail _ hz)) (fun z hz => by
        rcases List.mem_append.mp hz with hz | hz
        · exact hc z hz
        · rw [List.mem_singleton] at hz; subst hz; exact hp _ (.head _))
      refine ⟨this.1, this.2.1, ?_, ?_⟩
      · have h3 := this.2.2.1; rw [mu_cons]; simp at h3 ⊢; omega
      · have h3 := this.2.2.2; rw [mu_cons]; simp at h3 ⊢; omega
    · exact ⟨hc, hp, Nat.le_refl _, Nat.le_refl _⟩
theorem cutC_facts (room : Int) (cur parts : List T) (hp : PLn parts) (hc : PLn cur) : PLn (cutC room cur parts).1 ∧ PLn (cutC room cur parts).2 ∧ (cutC room cur parts).1.flatten.length + mu (cutC room cur parts).2 ≤ cur.flatten.length + mu parts ∧ (cutC room cur parts).1.length ≤ cur.length + 1 := by
  cases parts with
  | nil => exact ⟨hc, hp, Nat.le_refl _, Nat.le_succ _⟩
  | cons q r =>
    unfold cutC
    dsimp only
    split
    · refine ⟨fun z hz => ?_, fun z hz => ?_, ?_, ?_⟩
      · rcases List.mem_append.mp hz with hz | hz
        · exact hc z hz
        · rw [List.mem_singleton] at hz; subst hz; exact (hp q (.head _)).sub fun c hc => List.mem_of_mem_take hc
      · rcases List.mem_cons.mp hz with rfl | hz
        · exact (hp q (.head _)).sub fun c hc => List.mem_of_mem_drop hc
        · exact hp z (.tail _ hz)
      · rw [mu_cons, mu_cons]; simp; omega
      · simp
    · exact ⟨hc, hp, Nat.le_refl _, Nat.le_succ _⟩
theorem flat_snoc (xs : List T) (q : T) : (xs ++ [q]).flatten.length = xs.flatten.length + q.length := by rw [List.flatten_append, List.length_append, List.flatten_cons, List.flatten_nil, List.append_nil]
theorem joinL_nil : ∀ xs : List T, joinL [] xs = xs.flatten
  | [] => rfl
  | [x] => by simp [joinL]
  | x :: y :: r => by
    have := joinL_nil (y :: r)
    show x ++ [] ++ joinL [] (y :: r) = _
    rw [this, List.append_nil, List.flatten_cons, List.flatten_cons, List.flatten_cons]
theorem dropEnd_len (xs : List T) : (dropEnd xs).flatten.length ≤ xs.flatten.length ∧ (dropEnd xs).length ≤ xs.length := by
  rcases List.eq_nil_or_concat xs with rfl | ⟨cs, q, rfl⟩
  · exact ⟨Nat.le_refl _, Nat.le_refl _⟩
  · rw [List.concat_eq_append]
    unfold dropEnd
    rw [List.getLast?_concat]
    dsimp only
    split
    · rw [List.dropLast_concat, flat_snoc]; simp
    · exact ⟨Nat.le_refl _, Nat.le_refl _⟩
theorem total_eq (xs : List T) : total xs = (xs.flatten.length : Int) := by unfold total; rw [List.length_flatten]
theorem sum_eq (xs : List T) : (xs.map (·.length)).sum = xs.flatten.length := by rw [List.length_flatten]
theorem piece_le {xs : List T} {p : T} (h : p ∈ xs) : p.length ≤ xs.flatten.length := by
  induction xs with
  | nil => cases h
  | cons q r ih =>
    rw [List.flatten_cons, List.length_append]
    rcases List.mem_cons.mp h with rfl | h
    · omega
    · have := ih h; omega
@[reducible] def chV (x c la : Addr) (m1 m2 m3 m4 m5 : Option AV) : Vars :=
  [("self", some (.ref x)), ("chunks", some (.ref c)), ("lines", some (.ref la)), ("indent", m1), ("cur_line", m2), ("cur_len", m3), ("width", m4), ("n", m5)]
theorem chunks_spec {parts : List T} (room : Room A 12) (hst0 : LSt [] parts) (hp0 : PLn parts) (hmu0 : mu parts ≤ 2000) (hw : 0 < w ∧ w ≤ 10000) (hi : Ln ini) (hs : Ln sub) (hf : ini.length ≤ 400) (hr : sub.length ≤ 400)
    (h : ∀ a, Q (.ref a) (Wr x dx w ini sub ++ (a, LS (laidN w ini sub (mu parts) [] parts)) :: R)) : Cl D A (.ref 212) [.ref x, .ref c] [] Q (Wr x dx w ini sub ++ (c, LS parts) :: R) := by
  refine Cl.def_ (n := 11) (ls := ["self", "chunks", "lines", "indent", "cur_line", "cur_len", "width", "n"]) (gs := ["term_len", "sum", "map"]) (binds := [("self", .ref x), ("chunks", .ref c)]) (by rfl) (by kernel_rfl) room (by rfl) (by kernel_rfl) (fun S => by kernel_rfl) (by kernel_rfl)
    (vs := [("self", some (.ref x)), ("chunks", some (.ref c)), ("lines", none), ("indent", none), ("cur_line", none), ("cur_len", none), ("width", none), ("n", none)]) (by rfl) fun env L A' F rm => ?_
  have hplen : parts.length ≤ 2000 := by have := length_le_mu parts; omega
  dsimp only [Wr, List.cons_append, List.nil_append]
  repeat tb_rel
  tb_start
  · omega
  repeat tb_rel
  tb_start
  repeat tb_rel
  rename_i la _ _ _
  generalize hRES : laidN w ini sub (mu parts) [] parts = RES at h
  generalize hB : mu parts = B at *
  refine W.cutN (fun vs led => Sub (Wr x dx w ini sub ++ (la, LS RES) :: R) led ∧ ∃ m1 m2 m3 m4 m5, vs = chV x c la m1 m2 m3 m4 m5) ?_ fun vs led ⟨hs, m1, m2, m3, m4, m5, e⟩ => ?_
  · refine W.While_ (fun j vs led => ∃ m1 m2 m3 m4 m5 parts lines, vs = chV x c la m1 m2 m3 m4 m5 ∧ Sub (Wr x dx w ini sub ++ (c, LS parts.reverse) :: (la, LS lines) :: R) led ∧ LSt lines parts ∧ PLn parts ∧ lines.length + mu parts ≤ B ∧ mu parts ≤ j ∧
      laidN w ini sub j lines parts = RES ∧ (∀ l ∈ lines, l.length ≤ 400 + B)) B ⟨none, none, none, none, none, parts, [], rfl, by kspl_open m_sb, hst0, hp0, by simp; omega, by omega, hRES, by simp⟩ ?_
    rintro j vs led ⟨m1, m2, m3, m4, m5, parts, lines, rfl, hsb, hst, hp, hlm, hj, hN, hll⟩
    refine W.sub hsb ?_
    clear hst0 hp0 hRES hB hplen
    cases parts with
    | nil =>
      dsimp only [Wr, List.cons_append, List.nil_append]
      simp only [LS, List.reverse_nil, List.map_nil]
      repeat tb_rel
      tb_start
      repeat tb_rel
      have : lines = RES := by cases j <;> exact hN
      subst this
      exact ⟨rfl, by kspl_open m_sb, _, _, _, _, _, rfl⟩
    | cons p r =>
      have hj1 : ∃ n, j = n + 1 := ⟨j - 1, by rw [mu_cons] at hj; omega⟩
      obtain ⟨n, rfl⟩ := hj1
      change laidN w ini sub n (stepL w ini sub lines (p :: r)).1 (stepL w ini sub lines (p :: r)).2 = RES at hN
      obtain ⟨hst', hmu', hne'⟩ := step_state (width := w) (first := ini) (rest := sub) hst
      have hlen' := step_len (width := w) (first := ini) (rest := sub) (B := B) (M := 400) hll hf hr (by omega : mu (p :: r) ≤ B)
      rw [← stepC_eq hst] at hN hst' hmu' hne' hlen'
      have hpl : p.length ≤ B := by rw [mu_cons] at hlm; omega
      have hrl : r.length ≤ B := by have := length_le_mu r; rw [mu_cons] at hlm; omega
      dsimp only [Wr, List.cons_append, List.nil_append]
      simp only [LS, List.reverse_cons, List.map_append, List.map_cons, List.map_nil]
      have hrr : (List.map AV.str r.reverse ++ [AV.str p]).length ≤ 10000000 := by simp; omega
      repeat tb_rel
      refine way_t (by simp) ?_
      unfold stepC at hN hst' hmu' hne' hlen'
      dsimp only at hN hst' hmu' hne' hlen'
      refine W.cut (fun vs led => ∃ u, vs = chV x c la m1 (some (.ref u)) m3 m4 m5 ∧ Sub ((u, LS []) :: Wr x dx w ini sub ++ (c, LS (p :: r).reverse) :: (la, LS lines) :: R) led) ?_ fun vs led ⟨u, e, hs⟩ => ?_
      · repeat tb_rel
        exact ⟨rfl, _, rfl, by simp only [LS, List.reverse_cons, List.map_append, List.map_cons, List.map_nil]; kspl_open m_sb⟩
      subst e
      refine W.sub hs ?_
      clear hs hsb
      refine W.cut (fun vs led => vs = chV x c la m1 (some (.ref u)) (some (.int 0)) m4 m5 ∧ Sub ((u, LS []) :: Wr x dx w ini sub ++ (c, LS (p :: r).reverse) :: (la, LS lines) :: R) led) ?_ fun vs led ⟨e, hs⟩ => ?_
      · repeat tb_rel
        exact ⟨rfl, rfl, .refl _⟩
      subst e
      refine W.sub hs ?_
      clear hs
      refine W.cut (fun vs led => vs = chV x c la (some (.str (markOf ini sub lines))) (some (.ref u)) (some (.int 0)) m4 m5 ∧ Sub ((u, LS []) :: Wr x dx w ini sub ++ (c, LS (p :: r).reverse) :: (la, LS lines) :: R) led) ?_ fun vs led ⟨e, hs⟩ => ?_
      · dsimp only [Wr, List.cons_append, List.nil_append]
        cases lines with
        | nil =>
          dsimp only [LS, List.map]
          repeat tb_rel
          tb_start
          repeat tb_rel
          exact ⟨rfl, rfl, by kspl_open m_sb⟩
        | cons l0 ls =>
          dsimp only [LS, List.map]
          have hll2 : (AV.str l0 :: List.map AV.str ls).length ≤ 10000000 := by simp at hlm ⊢; omega
          repeat tb_rel
          tb_start
          repeat tb_rel
          exact ⟨rfl, rfl, by kspl_open m_sb⟩
      subst e
      refine W.sub hs ?_
      clear hs
      have hmk1 : 27 ∉ markOf ini sub lines := by unfold markOf; split; exact hs.tx.esc; exact hi.tx.esc
      have hmk2 : (markOf ini sub lines).length ≤ 400 := by unfold markOf; split <;> omega
      generalize hroom : w - ((markOf ini sub lines).length : Int) = rm1 at *
      have hrm : -20000 ≤ rm1 ∧ rm1 ≤ 20000 := by omega
      generalize hmark : markOf ini sub lines = mark at *
      refine W.cut (fun vs led => vs = chV x c la (some (.str mark)) (some (.ref u)) (some (.int 0)) (some (.int rm1)) m5 ∧ Sub ((u, LS []) :: Wr x dx w ini sub ++ (c, LS (p :: r).reverse) :: (la, LS lines) :: R) led) ?_ fun vs led ⟨e, hs⟩ => ?_
      · dsimp only [Wr, List.cons_append, List.nil_append]
        repeat tb_rel
        refine W.use .nil (term_len_spec (rm.less (by decide)) hmk1 (by omega) fun t => Back.intro (P := []) ?_)
        dsimp only [List.nil_append]
        repeat tb_rel
        rw [hroom]
        exact ⟨rfl, rfl, by kspl_open m_sb⟩
      subst e
      refine W.sub hs ?_
      clear hs
      have hpln : Ln p := hp p (.head _)
      have hpl2 : p.length ≤ 10000000 := by omega
      refine W.cut (fun vs led => vs = chV x c la (some (.str mark)) (some (.ref u)) (some (.int 0)) (some (.int rm1)) m5 ∧ Sub ((u, LS []) :: Wr x dx w ini sub ++ (c, LS (dropB lines (p :: r)).reverse) :: (la, LS lines) :: R) led) ?_ fun vs led ⟨e, hs⟩ => ?_
      · dsimp only [Wr, List.cons_append, List.nil_append]
        simp only [LS, List.reverse_cons, List.map_append, List.map_cons, List.map_nil]
        repeat tb_rel
        tb_start
        repeat tb_rel
        tb_start
        · rename_i hC
          have hb := (strip_nil hpln).mp hC
          cases lines with
          | nil =>
            dsimp only [List.map]
            repeat tb_rel
            tb_start
            tb_start
            repeat tb_rel
            have hd : dropB [] (p :: r) = p :: r := by unfold dropB; dsimp only; rw [if_neg (fun q => q.1 rfl)]
            rw [hd]
            exact ⟨rfl, rfl, by simp only [LS, List.reverse_cons, List.map_append, List.map_cons, List.map_nil]; kspl_open m_sb⟩
          | cons l0 ls =>
            dsimp only [List.map]
            have hll2 : (AV.str l0 :: List.map AV.str ls).length ≤ 10000000 := by simp at hlm ⊢; omega
            repeat tb_rel
            tb_start
            repeat tb_rel
            tb_start
            repeat tb_rel
            have hd : dropB (l0 :: ls) (p :: r) = r := by unfold dropB; dsimp only; rw [if_pos ⟨by simp, hb⟩]
            rw [hd]
            exact ⟨rfl, rfl, by kspl_open m_sb⟩
        · rename_i hC
          tb_start
          repeat tb_rel
          have hb : ¬ blank p = true := fun q => hC ((strip_nil hpln).mpr q)
          have hd : dropB lines (p :: r) = p :: r := by unfold dropB; dsimp only; rw [if_neg (fun q => hb q.2)]
          rw [hd]
          exact ⟨rfl, rfl, by simp only [LS, List.reverse_cons, List.map_append, List.map_cons, List.map_nil]; kspl_open m_sb⟩
      subst e
      refine W.sub hs ?_
      clear hs
      have hdpl : PLn (dropB lines (p :: r)) := fun q hq => hp q (dropB_sub q hq)
      have hdmu : mu (dropB lines (p :: r)) ≤ B := by have := dropB_mu (lines := lines) (parts := p :: r); omega
      generalize hdp : dropB lines (p :: r) = dp at *
      have hlB : lines.length ≤ 1000000 := by omega
      refine W.cut (fun vs led => ∃ m5, vs = chV x c la (some (.str mark)) (some (.ref u)) (some (.int ((fillC rm1 [] dp).1.flatten.length : Nat))) (some (.int rm1)) m5 ∧ Sub (Wr x dx w ini sub ++ (c, LS (fillC rm1 [] dp).2.reverse) :: (u, LS (fillC rm1 [] dp).1) :: (la, LS lines) :: R) led) ?_ fun vs led ⟨m5, e, hs⟩ => ?_
      · refine W.While_ (fun j vs led => ∃ m5 cur ps, vs = chV x c la (some (.str mark)) (some (.ref u)) (some (.int (cur.flatten.length : Nat))) (some (.int rm1)) m5 ∧ Sub (Wr x dx w ini sub ++ (c, LS ps.reverse) :: (u, LS cur) :: (la, LS lines) :: R) led ∧ fillC rm1 cur ps = fillC rm1 [] dp ∧ mu ps ≤ j ∧ cur.flatten.length + mu ps ≤ B ∧ cur.length + mu ps ≤ B ∧ PLn ps) (mu dp)
          ⟨_, [], dp, rfl, by kspl_open m_sb, rfl, Nat.le_refl _, by simpa using hdmu, by simpa using hdmu, hdpl⟩ ?_
        rintro j vs led ⟨m5, cur, ps, rfl, hs, hfl, hj, hlb, hlb2, hps⟩
        refine W.sub hs ?_
        clear hs
        cases ps with
        | nil =>
          dsimp only [Wr, List.cons_append, List.nil_append]
          simp only [LS, List.reverse_nil, List.map_nil]
          repeat tb_rel
          tb_start
          repeat tb_rel
          have : fillC rm1 cur [] = (cur, []) := rfl
          rw [← hfl, this]
          dsimp only
          exact ⟨rfl, _, rfl, by kspl_open m_sb⟩
        | cons q qs =>
          rw [mu_cons] at hj hlb hlb2
          have hq1 : q.length ≤ 10000000 := by omega
          have hq3 : qs.length ≤ B := by have := length_le_mu qs; omega
          have hq4 : (List.map AV.str qs.reverse ++ [AV.str q]).length ≤ 10000000 := by simp; omega
          have hqe : 27 ∉ q := (hps q (.head _)).tx.esc
          dsimp only [Wr, List.cons_append, List.nil_append]
          simp only [LS, List.reverse_cons, List.map_append, List.map_cons, List.map_nil]
          repeat tb_rel
          refine way_t (by simp) ?_
          repeat tb_rel
          refine W.use .nil (term_len_spec (rm.less (by decide)) hqe (by omega) fun t => Back.intro (P := []) ?_)
          dsimp only [List.nil_append]
          repeat tb_rel
          tb_start
          · rename_i hC
            repeat tb_rel
            refine ⟨mu qs, by omega, some (.int (q.length : Nat)), cur ++ [q], qs, ?_, by kspl_open m_sb, ?_, Nat.le_refl _, by rw [flat_snoc]; omega, by simp; omega, fun z hz => hps z (.tail _ hz)⟩
            · rw [flat_snoc]; rfl
            · rw [← hfl, fillC, if_pos hC]
          · rename_i hC
            repeat tb_rel
            have : fillC rm1 cur (q :: qs) = (cur, q :: qs) := by rw [fillC, if_neg hC]
            rw [← hfl, this]
            exact ⟨rfl, _, rfl, by simp only [LS, List.reverse_cons, List.map_append, List.map_cons, List.map_nil]; kspl_open m_sb⟩
      subst e
      refine W.sub hs ?_
      clear hs
      obtain ⟨hf1, hf2, hf3, hf4⟩ := fillC_facts rm1 dp [] hdpl (fun z hz => by cases hz)
      generalize hfp : fillC rm1 [] dp = fp at *
      obtain ⟨cur, ps⟩ := fp
      simp only [List.flatten_nil, List.length_nil, Nat.zero_add] at hf3 hf4
      dsimp only at hN hst' hlen' hf1 hf2 hf3 hf4 ⊢
      obtain ⟨hc1, hc2, hc3, hc4⟩ := cutC_facts rm1 cur ps hf2 hf1
      have hcl2 : cur.length ≤ B := by omega
      refine W.cut (fun vs led => ∃ m5, vs = chV x c la (some (.str mark)) (some (.ref u)) (some (.int ((cutC rm1 cur ps).1.flatten.length : Nat))) (some (.int rm1)) m5 ∧ Sub (Wr x dx w ini sub ++ (c, LS (cutC rm1 cur ps).2.reverse) :: (u, LS (cutC rm1 cur ps).1) :: (la, LS lines) :: R) led) ?_ fun vs led ⟨m5, e, hs⟩ => ?_
      · cases ps with
        | nil =>
          dsimp only [Wr, List.cons_append, List.nil_append]
          simp only [LS, List.reverse_nil, List.map_nil]
          repeat tb_rel
          tb_start
          tb_start
          repeat tb_rel
          have : cutC rm1 cur [] = (cur, []) := rfl
          rw [this]
          exact ⟨rfl, _, rfl, by kspl_open m_sb⟩
        | cons q qs =>
          rw [mu_cons] at hf3 hf4
          have hq1 : q.length ≤ 10000000 := by omega
          have hq3 : qs.length ≤ B := by have := length_le_mu qs; omega
          have hq4 : (List.map AV.str qs.reverse ++ [AV.str q]).length ≤ 10000000 := by simp; omega
          have hqe : 27 ∉ q := (hf2 q (.head _)).tx.esc
          dsimp only [Wr, List.cons_append, List.nil_append]
          simp only [LS, List.reverse_cons, List.map_append, List.map_cons, List.map_nil]
          repeat tb_rel
          refine way_t (by simp) ?_
          repeat tb_rel
          refine W.use .nil (term_len_spec (rm.less (by decide)) hqe (by omega) fun t => Back.intro (P := []) ?_)
          dsimp only [List.nil_append]
          repeat tb_rel
          tb_start
          · rename_i hC
            repeat tb_rel
            tb_start
            repeat tb_rel
            have hcu : cutC rm1 cur (q :: qs) = (cur ++ [q.take (max (rm1 - (cur.flatten.length : Int)) 1).toNat], q.drop (max (rm1 - (cur.flatten.length : Int)) 1).toNat :: qs) := by
              unfold cutC cutOf; dsimp only; rw [if_pos hC, Int.max_comm]
            refine W.use (P := Wr x dx w ini sub ++ [(c, LS (qs.reverse ++ [q])), (u, LS cur)]) (by dsimp only [Wr, List.cons_append, List.nil_append]; simp only [LS, List.map_append, List.map_cons, List.map_nil]; kspl_open m_take) (handle_spec (rm.less (by decide)) hqe (by omega) (by simp; omega) (by omega) (by omega) (by omega) (Back.intro (P := Wr x dx w ini sub ++ [(c, LS _), (u, LS _)]) ?_))
            dsimp only [Wr, List.cons_append, List.nil_append]
            repeat tb_rel
            rw [hcu] at hc1 hc3
            dsimp only at hc1 hc3
            have hc5 := sum_eq (cur ++ [q.take (max (rm1 - (cur.flatten.length : Int)) 1).toNat])
            have hc6 : mu (q :: qs) ≤ B := by rw [mu_cons]; omega
            rw [mu_cons] at hc3
            refine W.sum_map (n := 6) (a := u) (xs := cur ++ [q.take (max (rm1 - (cur.flatten.length : Int)) 1).toNat]) (rm.less (by decide)) (fun z hz A' led Q t rm h => term_len_spec rm (hc1 z hz).tx.esc (by have := piece_le hz; omega) h) (by rw [hc5]; omega) (by kspl_open m_mem) fun t => ?_
            rw [total_eq, hcu]
            repeat tb_rel
            exact ⟨rfl, _, rfl, by kspl_open m_sb⟩
          · rename_i hC
            tb_start
            repeat tb_rel
            have : cutC rm1 cur (q :: qs) = (cur, q :: qs) := by unfold cutC; dsimp only; rw [if_neg hC]
            rw [this]
            exact ⟨rfl, _, rfl, by simp only [LS, List.reverse_cons, List.map_append, List.map_cons, List.map_nil]; kspl_open m_sb⟩
      subst e
      refine W.sub hs ?_
      clear hs
      generalize hcp : cutC rm1 cur ps = cp at *
      obtain ⟨cur2, ps2⟩ := cp
      dsimp only at hN hst' hlen' hmu' hc1 hc2 hc3 hc4 ⊢
      have hfb : cur2.flatten.length ≤ B := by omega
      have hcb : cur2.length ≤ B + 1 := by omega
      refine W.cut (fun vs led => ∃ m3, vs = chV x c la (some (.str mark)) (some (.ref u)) m3 (some (.int rm1)) m5 ∧ Sub (Wr x dx w ini sub ++ (c, LS ps2.reverse) :: (u, LS (dropEnd cur2)) :: (la, LS lines) :: R) led) ?_ fun vs led ⟨m3, e, hs⟩ => ?_
      · rcases List.eq_nil_or_concat cur2 with rfl | ⟨cs, q, rfl⟩
        · dsimp only [Wr, List.cons_append, List.nil_append, LS, List.map]
          repeat tb_rel
          tb_start
          repeat tb_rel
          tb_start
          tb_start
          repeat tb_rel
          have : dropEnd ([] : List T) = [] := rfl
          rw [this]
          exact ⟨rfl, _, rfl, by kspl_open m_sb⟩
        · rw [List.concat_eq_append] at *
          have hq := piece_le (xs := cs ++ [q]) (p := q) (by simp)
          have hq1 : q.length ≤ 10000000 := by omega
          have hql : Ln q := hc1 q (by simp)
          have hcs : cs.length ≤ B := by simp at hcb; omega
          have hq4 : (List.map AV.str cs ++ [AV.str q]).length ≤ 10000000 := by simp; omega
          dsimp only [Wr, List.cons_append, List.nil_append]
          simp only [LS, List.map_append, List.map_cons, List.map_nil]
          repeat tb_rel
          tb_start
          repeat tb_rel
          refine way_t (by simp) ?_
          repeat tb_rel
          tb_start
          · rename_i hC
            have hb := (strip_nil hql).mp hC
            repeat tb_rel
            tb_start
            repeat tb_rel
            refine W.use .nil (term_len_spec (rm.less (by decide)) hql.tx.esc (by omega) fun t => Back.intro (P := []) ?_)
            dsimp only [List.nil_append]
            repeat tb_rel
            have : dropEnd (cs ++ [q]) = cs := by unfold dropEnd; rw [List.getLast?_concat]; dsimp only; rw [if_pos hb, List.dropLast_concat]
            rw [this]
            exact ⟨rfl, _, rfl, by kspl_open m_sb⟩
          · rename_i hC
            tb_start
            repeat tb_rel
            have hb : ¬ blank q = true := fun z => hC ((strip_nil hql).mpr z)
            have : dropEnd (cs ++ [q]) = cs ++ [q] := by unfold dropEnd; rw [List.getLast?_concat]; dsimp only; rw [if_neg hb]
            rw [this]
            exact ⟨rfl, _, rfl, by kspl_open m_sb⟩
      subst e
      refine W.sub hs ?_
      clear hs
      have hde := dropEnd_len cur2
      generalize dropEnd cur2 = l3 at *
      dsimp only [Wr, List.cons_append, List.nil_append, LS]
      cases l3 with
      | nil =>
        rw [if_neg (fun q => q rfl)] at hN hst' hlen'
        dsimp only [List.map]
        repeat tb_rel
        tb_start
        repeat tb_rel
        exact ⟨n, by omega, _, _, _, _, _, ps2, lines, rfl, by kspl_open m_sb, hst', hc2, by omega, by omega, hN, hlen'.1⟩
      | cons y ys =>
        rw [if_pos (by simp)] at hN hst' hlen'
        have hy1 : (AV.str y :: List.map AV.str ys).length ≤ 10000000 := by have := hde.2; simp at this ⊢; omega
        have hy2 : ((y :: ys).map (·.length)).sum + (y :: ys).length * ([] : List Nat).length ≤ 10000000 := by have := sum_eq (y :: ys); rw [this]; have := hde.1; simp only [List.length_nil, Nat.mul_zero]; omega
        have hy3 : mark.length + (joinL [] (y :: ys)).length ≤ 10000000 := by rw [joinL_nil]; omega
        dsimp only [List.map]
        repeat tb_rel
        tb_start
        repeat tb_rel
        tb_start
        repeat tb_rel
        tb_start
        repeat tb_rel
        refine W.join_list (a := u) (xs := y :: ys) (.tail _ (.tail _ (.tail _ (.head _)))) hy2 fun t => ?_
        repeat tb_rel
        rw [joinL_nil]
        exact ⟨n, by omega, _, _, _, _, _, ps2, _, rfl, by kspl_open m_sb, hst', hc2, by have := hlen'.2; omega, by omega, hN, hlen'.1⟩
  · subst e
    refine W.sub hs ?_
    dsimp only [Wr, List.cons_append, List.nil_append]
    repeat tb_rel
    exact ⟨_, .refl _, h la⟩
end
end Mine
end
section
open PySem PySem.W PySem.Calls PyProof.Rows
set_option maxRecDepth 100000
set_option maxHeartbeats 1000000
set_option autoImplicit false
set_option linter.unusedVariables false
set_option linter.unusedSimpArgs false
namespace Mine
/- bounds and signs of laid lines -/
theorem rstrip_sub {x : T} : ∀ c ∈ rstrip x, c ∈ x := fun c hc => by
  unfold rstrip stripL at hc
  simp only [Bool.false_eq_true, if_false, if_true] at hc
  exact List.mem_reverse.mp (mem_dropWhile (List.mem_reverse.mp hc))
theorem fill_ln (room : Int) : ∀ (parts : List T) (line : T), PLn parts → Ln line → Ln (fill room line parts).1
  | [], line, _, h => h
  | q :: r, line, hp, h => by
    unfold fill
    split
    · exact fill_ln room r _ (fun z hz => hp z (.tail _ hz)) (h.app (hp q (.head _)))
    · exact h
theorem cutL_ln1 {room : Int} {line : T} {parts : List T} (hp : PLn parts) (h : Ln line) : Ln (cutL room line parts).1 := by
  cases parts with
  | nil => exact h
  | cons q r =>
    unfold cutL
    dsimp only
    split
    · exact h.app ((hp q (.head _)).sub fun c hc => List.mem_of_mem_take hc)
    · exact h
theorem stepL_ln {w : Int} {f r : T} {lines parts : List T} (hf : Ln f) (hr : Ln r) (hl : PLn lines) (hp : PLn parts) : PLn (stepL w f r lines parts).1 ∧ PLn (stepL w f r lines parts).2 := by
  unfold stepL
  dsimp only
  generalize w - ((markOf f r lines).length : Int) = room
  have h1 : PLn (dropB lines parts) := fun q hq => hp q (dropB_sub q hq)
  have h2 := fill_ln room _ [] h1 Ln.nil
  have h3 : PLn (fill room [] (dropB lines parts)).2 := fun q hq => h1 q (fill_sub room _ [] q hq)
  refine ⟨?_, cutL_ln h3⟩
  split
  · intro q hq
    rcases List.mem_append.mp hq with hq | hq
    · exact hl q hq
    · rw [List.mem_singleton] at hq
      subst hq
      exact Ln.app (by unfold markOf; split <;> assumption) ((cutL_ln1 h3 h2).sub rstrip_sub)
  · exact hl
theorem laidN_facts {w : Int} {f r : T} {M B : Nat} (hf : Ln f) (hr : Ln r) (hfl : f.length ≤ M) (hrl : r.length ≤ M) : ∀ (n : Nat) (lines parts : List T), LSt lines parts → PLn lines → PLn parts → lines.length + mu parts ≤ B → (∀ l ∈ lines, l.length ≤ M + B) →
    PLn (laidN w f r n lines parts) ∧ (laidN w f r n lines parts).length ≤ B ∧ ∀ l ∈ laidN w f r n lines parts, l.length ≤ M + B
  | 0, lines, parts, _, hl, _, hb, hm => ⟨hl, by show lines.length ≤ B; omega, hm⟩
  | n + 1, lines, [], _, hl, _, hb, hm => ⟨hl, by show lines.length ≤ B; omega, hm⟩
  | n + 1, lines, p :: q, hs, hl, hp, hb, hm => by
    obtain ⟨s1, s2, s3⟩ := step_state (width := w) (first := f) (rest := r) hs
    have s4 := step_len (width := w) (first := f) (rest := r) (B := B) (M := M) hm hfl hrl (by omega : mu (p :: q) ≤ B)
    have s5 := stepL_ln (w := w) hf hr hl hp
    exact laidN_facts hf hr hfl hrl n _ _ s1 s5.1 s5.2 (by have := s4.2; omega) s4.1
theorem laidL_facts {w : Int} {f r x : T} {M : Nat} (hx : Ln x) (hfm : Firm x) (hf : Ln f) (hr : Ln r) (hfl : f.length ≤ M) (hrl : r.length ≤ M) : PLn (laidL w f r x) ∧ (laidL w f r x).length ≤ 2 * x.length ∧ ∀ l ∈ laidL w f r x, l.length ≤ M + 2 * x.length :=
  laidN_facts hf hr hfl hrl _ _ _ (parts_state hfm) (fun _ h => by cases h) (fun p hp => hx.sub (parts_mem hp)) (by have := parts_mu x; simp; omega) (fun _ h => by cases h)
theorem sum_le {xs : List T} {K : Nat} (h : ∀ l ∈ xs, l.length ≤ K) : (xs.map (·.length)).sum ≤ xs.length * K := by
  induction xs with
  | nil => simp
  | cons y r ih =>
    have h1 := h y (.head _)
    have h2 := ih fun z hz => h z (.tail _ hz)
    simp only [List.map_cons, List.sum_cons, List.length_cons, Nat.succ_mul]
    omega
section
variable {D : Wd} {A : Around} {t : Tok} {Q : Value → Led → Prop} {R : Led} {x dx : Addr} {w : Int} {ini sub y : T}
theorem wrap_spec (room : Room A 15) (hy : Ln y) (hyf : Firm y) (hyl : y.length ≤ 1000) (hw : 0 < w ∧ w ≤ 10000) (hi : Ln ini) (hs : Ln sub) (hf : ini.length ≤ 400) (hr : sub.length ≤ 400)
    (h : ∀ a, Q (.ref a) (Wr x dx w ini sub ++ (a, LS (laidL w ini sub y)) :: R)) : Cl D A (.ref 79) [.ref x, .str (S y) t] [] Q (Wr x dx w ini sub ++ R) := by
  refine Cl.def_ (n := 14) (ls := ["self", "text", "blank"]) (gs := []) (binds := [("self", .ref x), ("text", .str (S y) t)]) (by rfl) (by kernel_rfl) room (by rfl) (by kernel_rfl) (fun S => by kernel_rfl) (by kernel_rfl)
    (vs := [("self", some (.ref x)), ("text", some (.str y)), ("blank", none)]) (by rfl) fun env L A' F rm => ?_
  have htab := hy.tx.tab
  dsimp only [Wr, List.cons_append, List.nil_append]
  repeat tb_rel
  refine W.expandtabs0 htab fun t => ?_
  repeat tb_rel
  tb_start
  repeat tb_rel
  refine W.use .nil (split_spec (rm.less (by decide)) hy (by omega) fun a => Back.intro (P := [_]) ?_)
  dsimp only [List.cons_append, List.nil_append]
  repeat tb_rel
  refine W.use (P := Wr x dx w ini sub ++ [(a, LS (partsL y))]) (by dsimp only [Wr, List.cons_append, List.nil_append]; kspl_open m_take) (chunks_spec (rm.less (by decide)) (parts_state hyf) (fun p hp => hy.sub (parts_mem hp)) (by have := parts_mu y; omega) hw hi hs hf hr fun a2 => Back.intro (P := Wr x dx w ini sub ++ [(a2, LS _)]) ?_)
  dsimp only [Wr, List.cons_append, List.nil_append]
  repeat tb_rel
  exact ⟨_, by kspl_open m_sb, (show Q _ (Wr x dx w ini sub ++ (a2, LS (laidN w ini sub (mu (partsL y)) [] (partsL y))) :: R) from h a2)⟩
theorem fill_spec (room : Room A 18) (hy : Ln y) (hyf : Firm y) (hyl : y.length ≤ 1000) (hw : 0 < w ∧ w ≤ 10000) (hi : Ln ini) (hs : Ln sub) (hf : ini.length ≤ 400) (hr : sub.length ≤ 400)
    (h : ∀ t, Q (.str (S (joinL [10] (laidL w ini sub y))) t) (Wr x dx w ini sub ++ R)) : Cl D A (.ref 86) [.ref x, .str (S y) t] [] Q (Wr x dx w ini sub ++ R) := by
  refine Cl.def_ (n := 17) (ls := ["self", "text"]) (gs := []) (binds := [("self", .ref x), ("text", .str (S y) t)]) (by rfl) (by kernel_rfl) room (by rfl) (by kernel_rfl) (fun S => by kernel_rfl) (by kernel_rfl)
    (vs := [("self", some (.ref x)), ("text", some (.str y))]) (by rfl) fun env L A' F rm => ?_
  obtain ⟨b1, b2, b3⟩ := laidL_facts (w := w) (M := 400) hy hyf hi hs hf hr
  have b4 := sum_le (K := 2400) fun l hl => Nat.le_trans (b3 l hl) (by omega)
  have b5 : ((laidL w ini sub y).map (·.length)).sum + (laidL w ini sub y).length * ([10] : List Nat).length ≤ 10000000 := by
    simp only [List.length_cons, List.length_nil]
    omega
  dsimp only [Wr, List.cons_append, List.nil_append]
  repeat tb_rel
  refine W.use (P := Wr x dx w ini sub) (by dsimp only [Wr, List.cons_append, List.nil_append]; kspl_open m_take) (wrap_spec (rm.less (by decide)) hy hyf hyl hw hi hs hf hr fun a => Back.intro (P := Wr x dx w ini sub ++ [(a, LS _)]) ?_)
  dsimp only [Wr, List.cons_append, List.nil_append]
  repeat tb_rel
  exact ⟨_, by kspl_open m_sb, h _⟩
def wnames : List Str := ["width", "initial_indent", "subsequent_indent", "replace_whitespace", "drop_whitespace", "break_long_words", "max_lines", "placeholder"]
theorem winit_spec {t1 t2 t3 : Tok} (room : Room A 3) (h : Q .none (Wr x dx w ini sub ++ R)) :
    Cl D A (.ref 65) [.ref x, .int w t1] [("initial_indent", .str (S ini) t2), ("subsequent_indent", .str (S sub) t3), ("replace_whitespace", .bool false)] Q ((x, .inst 229 dx) :: (dx, .dict (wnames.map fun n => (n, none))) :: R) := by
  refine Cl.def_ (n := 2) (ls := ["self", "width", "initial_indent", "subsequent_indent", "replace_whitespace", "drop_whitespace", "break_long_words", "max_lines", "placeholder"]) (gs := [])
    (binds := [("self", .ref x), ("width", .int w t1), ("initial_indent", .str (S ini) t2), ("subsequent_indent", .str (S sub) t3), ("replace_whitespace", .bool false), ("drop_whitespace", .bool true), ("break_long_words", .bool true), ("max_lines", .none), ("placeholder", .str " [...]" 363)]) (by rfl) (by kernel_rfl) room (by rfl) (by kernel_rfl) (fun S => by kernel_rfl) (by kernel_rfl)
    (vs := [("self", some (.ref x)), ("width", some (.int w)), ("initial_indent", some (.str ini)), ("subsequent_indent", some (.str sub)), ("replace_whitespace", some (.bool false)), ("drop_whitespace", some (.bool true)), ("break_long_words", some (.bool true)), ("max_lines", some .none), ("placeholder", some (.str [32, 91, 46, 46, 46, 93]))]) (by rfl) fun env L A' F rm => ?_
  dsimp only [wnames, List.map]
  repeat tb_rel
  exact ⟨_, by kspl_open m_sb, h⟩
theorem W.mkWr {L : Addr} {vs : Vars} {led : Led} {n : Nat} {t1 t2 t3 : Tok} {Q : Value → Vars → Led → Prop} (room : Room A (n + 5)) (h : ∀ x dx, Q (.ref x) vs (Wr x dx w ini sub ++ led)) :
    W D A L (PySem.call (.ref 229) [.int w t1] [("initial_indent", .str (S ini) t2), ("subsequent_indent", .str (S sub) t3), ("replace_whitespace", .bool false)]) Q vs led :=
  W.make wnames mk_229 (by decide) fun x dx => winit_spec (Room.tc (room.less (by omega : 4 ≤ n + 5))) ⟨rfl, Back.intro (P := Wr x dx w ini sub) (h x dx)⟩
end
end Mine
end
section
open PySem PySem.W PySem.Calls PyProof.Rows
set_option maxRecDepth 100000
set_option maxHeartbeats 1000000
set_option autoImplicit false
set_option linter.unusedVariables false
set_option linter.unusedSimpArgs false
namespace Mine
section
variable {D : Wd} {A : Around} {t : Tok} {Q : Value → Led → Prop} {R : Led} {x dx e de : Addr} {w : Int} {ini sub y : T}
@[reducible] def Xi (e de x : Addr) (ind : T) (oi os : Option AV) : Led := [(e, .inst 124 de), (de, .dict [("wrapper", some (.ref x)), ("indent", some (.str ind)), ("old_initial_indent", oi), ("old_subsequent_indent", os)])]
def xnames : List Str := ["wrapper", "indent", "old_initial_indent", "old_subsequent_indent"]
theorem xinit_spec {t2 : Tok} (room : Room A 3) (h : Q .none (Xi e de x y none none ++ R)) : Cl D A (.ref 107) [.ref e, .ref x, .str (S y) t2] [] Q ((e, .inst 124 de) :: (de, .dict (xnames.map fun n => (n, none))) :: R) := by
  refine Cl.def_ (n := 2) (ls := ["self", "wrapper", "indent"]) (gs := []) (binds := [("self", .ref e), ("wrapper", .ref x), ("indent", .str (S y) t2)]) (by rfl) (by kernel_rfl) room (by rfl) (by kernel_rfl) (fun S => by kernel_rfl) (by kernel_rfl)
    (vs := [("self", some (.ref e)), ("wrapper", some (.ref x)), ("indent", some (.str y))]) (by rfl) fun env L A' F rm => ?_
  dsimp only [xnames, List.map]
  repeat tb_rel
  exact ⟨_, by (try dsimp only [Xi]); kspl_open m_sb, h⟩
theorem extra_spec {t2 : Tok} (room : Room A 7) (h : ∀ e de, Q (.ref e) (Xi e de x y none none ++ R)) : Cl D A (.ref 219) [.ref x, .str (S y) t2] [] Q R := by
  refine Cl.def_ (n := 6) (ls := ["self", "indent"]) (gs := ["ExtraIndent"]) (binds := [("self", .ref x), ("indent", .str (S y) t2)]) (by rfl) (by kernel_rfl) room (by rfl) (by kernel_rfl) (fun S => by kernel_rfl) (by kernel_rfl)
    (vs := [("self", some (.ref x)), ("indent", some (.str y))]) (by rfl) fun env L A' F rm => ?_
  repeat tb_rel
  refine W.make xnames mk_124 (by decide) fun e de => xinit_spec (Room.tc (rm.less (by decide))) ⟨rfl, Back.intro (P := Xi e de x y none none) ?_⟩
  repeat tb_rel
  exact ⟨_, .refl _, h e de⟩
theorem enter_spec (room : Room A 3) (hi : ini.length + y.length ≤ 1000) (hs : sub.length + y.length ≤ 1000) (h : Q .none (Xi e de x y (some (.str ini)) (some (.str sub)) ++ Wr x dx w (ini ++ y) (sub ++ y) ++ R)) : Cl D A (.ref 114) [.ref e] [] Q (Xi e de x y none none ++ Wr x dx w ini sub ++ R) := by
  refine Cl.def_ (n := 2) (ls := ["self"]) (gs := []) (binds := [("self", .ref e)]) (by rfl) (by kernel_rfl) room (by rfl) (by kernel_rfl) (fun S => by kernel_rfl) (by kernel_rfl)
    (vs := [("self", some (.ref e))]) (by rfl) fun env L A' F rm => ?_
  dsimp only [Xi, Wr, List.cons_append, List.nil_append]
  repeat tb_rel
  exact ⟨_, by (try dsimp only [Xi]); kspl_open m_sb, h⟩
theorem exit_spec (room : Room A 3) {i2 s2 : T} (h : Q .none (Wr x dx w ini sub ++ R)) : Cl D A (.ref 121) [.ref e, .none, .none, .none] [] Q (Xi e de x y (some (.str ini)) (some (.str sub)) ++ Wr x dx w i2 s2 ++ R) := by
  refine Cl.def_ (n := 2) (ls := ["self", "exc_type", "exc_value", "tb"]) (gs := []) (binds := [("self", .ref e), ("exc_type", .none), ("exc_value", .none), ("tb", .none)]) (by rfl) (by kernel_rfl) room (by rfl) (by kernel_rfl) (fun S => by kernel_rfl) (by kernel_rfl)
    (vs := [("self", some (.ref e)), ("exc_type", some .none), ("exc_value", some .none), ("tb", some .none)]) (by rfl) fun env L A' F rm => ?_
  dsimp only [Xi, Wr, List.cons_append, List.nil_append]
  repeat tb_rel
  exact ⟨_, by (try dsimp only [Xi]); kspl_open m_sb, h⟩
end
end Mine
end
section
open PySem PySem.W PySem.Calls PyProof.Rows
set_option maxRecDepth 100000
set_option maxHeartbeats 1000000
set_option autoImplicit false
set_option linter.unusedVariables false
set_option linter.unusedSimpArgs false
namespace Mine
theorem linesFrom_app : ∀ (r acc y : T), 10 ∉ r → linesFrom acc (r ++ y) = linesFrom (acc ++ r) y
  | [], acc, y, _ => by simp
  | c :: r, acc, y, h => by
    have hc : c ≠ 10 := fun e => h (by rw [e]; exact .head _)
    rw [List.cons_append]
    conv => lhs; unfold linesFrom
    rw [if_neg hc, linesFrom_app r (acc ++ [c]) y (fun m => h (.tail _ m))]
    simp
theorem linesL_join : ∀ (rs : List T), (∀ r ∈ rs, r ≠ [] ∧ 10 ∉ r) → linesL (joinL [10] rs) = rs
  | [], _ => rfl
  | [r], h => by
    have h1 := h r (.head _)
    have := linesFrom_app r [] [] h1.2
    rw [List.append_nil] at this
    show linesFrom [] r = [r]
    rw [this]
    show (if _ then _ else _) = _
    rw [if_neg (by simpa using h1.1)]; rfl
  | r :: q :: z, h => by
    have h1 := h r (.head _)
    have ih := linesL_join (q :: z) fun x hx => h x (.tail _ hx)
    show linesFrom [] (r ++ [10] ++ joinL [10] (q :: z)) = _
    rw [List.append_assoc, linesFrom_app r [] _ h1.2]
    show linesFrom r (10 :: joinL [10] (q :: z)) = _
    conv => lhs; unfold linesFrom
    rw [if_pos rfl]
    exact congrArg (r :: ·) ih
theorem joinL_all {P : Nat → Prop} {sep : T} (hs : ∀ c ∈ sep, P c) : ∀ {rs : List T}, (∀ r ∈ rs, ∀ c ∈ r, P c) → ∀ c ∈ joinL sep rs, P c
  | [], _ => fun c hc => by cases hc
  | [r], h => h r (.head _)
  | r :: q :: z, h => fun c hc => by
    have ih := joinL_all hs (rs := q :: z) fun x hx => h x (.tail _ hx)
    change c ∈ r ++ sep ++ joinL sep (q :: z) at hc
    rcases List.mem_append.mp hc with hc | hc
    · rcases List.mem_append.mp hc with hc | hc
      · exact h r (.head _) c hc
      · exact hs c hc
    · exact ih c hc
def markRows (ini sub : T) : List T → List T
  | [] => []
  | r :: q => (ini ++ r) :: q.map (sub ++ ·)
theorem markRows_snoc (ini sub : T) (pre : List T) (y : T) : markRows ini sub (pre ++ [y]) = markRows ini sub pre ++ [(if pre = [] then ini else sub) ++ y] := by
  cases pre with
  | nil => simp [markRows]
  | cons p r => simp [markRows]
theorem markRows_len (ini sub : T) (rs : List T) : (markRows ini sub rs).length = rs.length := by cases rs <;> simp [markRows]
section
variable {D : Wd} {A : Around} {t : Tok} {Q : Value → Led → Prop} {R : Led} {x dx : Addr} {w : Int} {ini sub : T} {rs : List T}
theorem markRows_mem {rs : List T} {n : Nat} (h : ∀ r ∈ rs, r.length ≤ n) (hi : ini.length ≤ 400) (hs : sub.length ≤ 400) : ∀ l ∈ markRows ini sub rs, l.length ≤ 400 + n := by
  cases rs with
  | nil => intro l hl; cases hl
  | cons r q =>
    intro l hl
    rcases List.mem_cons.mp hl with rfl | hl
    · have := h r (.head _); rw [List.length_append]; omega
    · obtain ⟨z, hz, rfl⟩ := List.mem_map.mp hl
      have := h z (.tail _ hz); rw [List.length_append]; omega
theorem only_spec (room : Room A 3) (hrs : ∀ r ∈ rs, r ≠ [] ∧ Ln r ∧ r.length ≤ 1000) (hn : rs.length ≤ 1000) (hz : (joinL [10] rs).length ≤ 1000) (hf : ini.length ≤ 400) (hr : sub.length ≤ 400)
    (h : ∀ t, Q (.str (S (joinL [10] (markRows ini sub rs))) t) (Wr x dx w ini sub ++ R)) : Cl D A (.ref 226) [.ref x, .str (S (joinL [10] rs)) t] [] Q (Wr x dx w ini sub ++ R) := by
  refine Cl.def_ (n := 2) (ls := ["self", "text", "rv", "idx", "line", "indent"]) (gs := ["enumerate"]) (binds := [("self", .ref x), ("text", .str (S (joinL [10] rs)) t)]) (by rfl) (by kernel_rfl) room (by rfl) (by kernel_rfl) (fun S => by kernel_rfl) (by kernel_rfl)
    (vs := [("self", some (.ref x)), ("text", some (.str (joinL [10] rs))), ("rv", none), ("idx", none), ("line", none), ("indent", none)]) (by rfl) fun env L A' F rm => ?_
  have hln : ∀ c ∈ joinL [10] rs, okc c := joinL_all (P := okc) (by intro c hc; simp at hc; subst hc; unfold okc; omega) fun r hr => (hrs r hr).2.1.tx
  dsimp only [Wr, List.cons_append, List.nil_append]
  repeat tb_rel
  rename_i rv
  refine W.cutN (fun vs led => ∃ a2 a3 a4, vs = ([("self", some (.ref x)), ("text", some (.str (joinL [10] rs))), ("rv", some (.ref rv)), ("idx", a2), ("line", a3), ("indent", a4)] : Vars) ∧ Sub (Wr x dx w ini sub ++ (rv, LS (markRows ini sub rs)) :: R) led) ?_ fun vs led ⟨a2, a3, a4, e, hs⟩ => ?_
  · refine W.For_feeds (β := AV) (fun _ => rfl) ?_
    repeat tb_rel
    refine W.lines0 (fun c hc => ⟨break_of (hln c hc), by have := hln c hc; unfold okc at this; omega⟩) (by omega) fun la => ?_
    rw [linesL_join rs fun r hr => ⟨(hrs r hr).1, fun m => by have := (hrs r hr).2.1 _ m; unfold lnc at this; omega⟩]
    repeat tb_rel
    rename_i e it
    refine ⟨e, (la, LS rs) :: (Wr x dx w ini sub ++ (rv, LS []) :: R), rs.map .str, _, _, _, fun i rem vs led => ∃ pre rest a2 a3 a4, rs = pre ++ rest ∧ pre.length = i ∧ rem = rest.map .str ∧ vs = ([("self", some (.ref x)), ("text", some (.str (joinL [10] rs))), ("rv", some (.ref rv)), ("idx", a2), ("line", a3), ("indent", a4)] : Vars) ∧
      ∃ led', led = (la, LS rs) :: led' ∧ Sub (Wr x dx w ini sub ++ (rv, LS (markRows ini sub pre)) :: R) led', rfl, ?_, Feeds.enumL (a := la) (it := it) rm, ?_, ?_, ?_, ?_, ?_⟩
    · dsimp only [Wr, List.cons_append, List.nil_append]
      kspl_open m_sub
    · exact fun s Q E R q => pyIter_enumOb R (.tail _ (.head _)) q
    · rintro i r vs led ⟨pre, rest, a2, a3, a4, -, -, -, -, led', rfl, -⟩
      exact .head _
    · exact ⟨[], rs, _, _, _, rfl, rfl, rfl, rfl, _, rfl, by dsimp only [Wr, List.cons_append, List.nil_append, markRows]; kspl_open m_sub⟩
    · rintro i z r vs led v new hd ⟨pre, rest, a2, a3, a4, hrs2, rfl, hrem, rfl, led', rfl, hsub⟩ ⟨T1, rfl, rfl⟩
      cases rest with
      | nil => cases hrem
      | cons y ys =>
        rw [List.map_cons] at hrem
        injection hrem with hz1 hz2
        subst hz1 hz2
        have hy := hrs y (by rw [hrs2]; simp)
        have hpl : pre.length ≤ 1000 := by rw [hrs2] at hn; simp at hn; omega
        have hml := markRows_len ini sub pre
        have hsn := markRows_snoc ini sub pre y
        generalize markRows ini sub pre = mp at *
        refine W.sub (led' := (T1, .tup [.int pre.length, .str y]) :: (e, enumOb it (pre.length + 1)) :: (it, listIt la (pre.length + 1)) :: (la, LS rs) :: (Wr x dx w ini sub ++ (rv, LS mp) :: R)) (.cons (.cons (.cons (.cons hsub)))) ?_
        dsimp only [Wr, List.cons_append, List.nil_append]
        repeat tb_rel
        tb_start
        · rename_i hC
          have hne : pre ≠ [] := by intro e; subst e; simp at hC
          rw [if_neg hne] at hsn
          repeat tb_rel
          exact ⟨(la, LS rs) :: (Wr x dx w ini sub ++ (rv, LS (mp ++ [sub ++ y])) :: R), by kspl_open m_sb, pre ++ [y], ys, _, _, _, by rw [hrs2]; simp, by simp, rfl, rfl, _, rfl, by rw [hsn]; exact .refl _⟩
        · rename_i hC
          have hne : pre = [] := by cases pre with | nil => rfl | cons a b => exfalso; apply hC; simp
          rw [if_pos hne] at hsn
          repeat tb_rel
          exact ⟨(la, LS rs) :: (Wr x dx w ini sub ++ (rv, LS (mp ++ [ini ++ y])) :: R), by kspl_open m_sb, pre ++ [y], ys, _, _, _, by rw [hrs2]; simp, by simp, rfl, rfl, _, rfl, by rw [hsn]; exact .refl _⟩
    · rintro vs led ⟨pre, rest, a2, a3, a4, hrs2, hpl, hrem, rfl, led', rfl, hsub⟩
      cases rest with
      | cons y ys => cases hrem
      | nil =>
        rw [List.append_nil] at hrs2
        subst hrs2
        refine W.sub (.skip hsub) ?_
        repeat tb_rel
        exact ⟨rfl, _, _, _, rfl, .refl _⟩
  · subst e
    refine W.sub hs ?_
    have h1 := sum_le (markRows_mem (n := 1000) (fun r hr => (hrs r hr).2.2) hf hr)
    have h2 := markRows_len ini sub rs
    have h3 : ((markRows ini sub rs).map (·.length)).sum + (markRows ini sub rs).length * ([10] : List Nat).length ≤ 10000000 := by
      simp only [List.length_cons, List.length_nil]
      rw [h2] at h1 ⊢
      omega
    dsimp only [Wr, List.cons_append, List.nil_append]
    repeat tb_rel
    exact ⟨_, by kspl_open m_sb, h _⟩
end
end Mine
end
section
open PySem PySem.W PySem.Calls PyProof.Rows
set_option maxRecDepth 100000
set_option maxHeartbeats 1000000
set_option autoImplicit false
set_option linter.unusedVariables false
set_option linter.unusedSimpArgs false
namespace Mine
/-- a paragraph that is kept as it is -/
def isRaw (rows : List T) : Bool := decide (rows.head? = some [8])
def parText (rows : List T) : T := if isRaw rows then joinL [10] rows.tail else joinL [32] rows
def parOut (w : Int) (ini sub : T) (q : Nat × List T) : T :=
  if isRaw q.2 then joinL [10] (markRows (ini ++ List.replicate q.1 32) (sub ++ List.replicate q.1 32) q.2.tail)
  else joinL [10] (laidL w (ini ++ List.replicate q.1 32) (sub ++ List.replicate q.1 32) (joinL [32] q.2))
def wrappedL (w : Int) (ini sub x : T) : T := joinL [10, 10] ((parasL x).map (parOut w ini sub))
/-- tuples of paragraphs -/
@[reducible] def PL (ps : List (Addr × (Nat × List T))) : Led := ps.map fun p => (p.1, .tup [.int p.2.1, .bool (isRaw p.2.2), .str (parText p.2.2)])
/-- lines that a text may have -/
structure GoodLine (l : T) : Prop where
  ln : Ln l
  firm : l ≠ [] → lstrip l ≠ []
  eight : stripL PySem.Unicode.isSpace true true l = [8] → lstrip l = [8]
  ind : l.length ≤ (lstrip l).length + 50
def RowsOk (rows : List T) : Prop := ∀ r rs, rows = r :: rs → (stripL PySem.Unicode.isSpace true true r = [8] ↔ r = [8]) ∧ Firm r ∧ ∀ z ∈ rows, Ln z ∧ z ≠ []
theorem RowsOk.nil : RowsOk [] := fun _ _ h => by cases h
theorem lines_mu : ∀ (x acc : T), mu (linesFrom acc x) ≤ acc.length + x.length + 1
  | [], acc => by
    unfold linesFrom
    split
    · simp [mu]
    · simp [mu]
  | d :: r, acc => by
    unfold linesFrom
    split
    · have := lines_mu r []
      rw [mu_cons]; simp at this ⊢; omega
    · have := lines_mu r (acc ++ [d])
      simp at this ⊢; omega
theorem lines_sub : ∀ (x acc : T), ∀ l ∈ linesFrom acc x, ∀ c ∈ l, c ∈ acc ∨ (c ∈ x ∧ c ≠ 10)
  | [], acc => by
    unfold linesFrom
    split
    · intro l hl; cases hl
    · intro l hl c hc; rw [List.mem_singleton] at hl; subst hl; exact .inl hc
  | d :: r, acc => by
    unfold linesFrom
    split
    · intro l hl c hc
      rcases List.mem_cons.mp hl with rfl | hl
      · exact .inl hc
      · rcases lines_sub r [] l hl c hc with h | h
        · cases h
        · exact .inr ⟨.tail _ h.1, h.2⟩
    · rename_i hd
      intro l hl c hc
      rcases lines_sub r (acc ++ [d]) l hl c hc with h | h
      · rcases List.mem_append.mp h with h | h
        · exact .inl h
        · rw [List.mem_singleton] at h; subst h; exact .inr ⟨.head _, hd⟩
      · exact .inr ⟨.tail _ h.1, h.2⟩
theorem lines_facts (x : T) (hx : Tx x) : mu (linesL x) ≤ x.length + 1 ∧ PLn (linesL x) := by
  refine ⟨by have := lines_mu x []; simp at this; exact this, fun l hl c hc => ?_⟩
  rcases lines_sub x [] l hl c hc with h | h
  · cases h
  · have := hx c h.1; unfold okc at this; unfold lnc; omega
theorem para_nil0 (i : Nat) (r : List T) : paraGo [] i ([] :: r) = paraGo [] i r := by conv => lhs; unfold paraGo; rw [if_pos rfl, if_pos rfl]
theorem para_nil1 {rows : List T} (h : rows ≠ []) (i : Nat) (r : List T) : paraGo rows i ([] :: r) = (i, rows) :: paraGo [] i r := by conv => lhs; unfold paraGo; rw [if_pos rfl, if_neg h]
theorem para_first {l : T} (h : l ≠ []) (i : Nat) (r : List T) : paraGo [] i (l :: r) = paraGo [lstrip l] (l.length - (lstrip l).length) r := by conv => lhs; unfold paraGo; rw [if_neg h, if_pos rfl]
theorem para_next {l : T} {rows : List T} (h : l ≠ []) (k : rows ≠ []) (i : Nat) (r : List T) : paraGo rows i (l :: r) = paraGo (rows ++ [l]) i r := by conv => lhs; unfold paraGo; rw [if_neg h, if_neg k]
theorem lstrip_len (l : T) : (lstrip l).length ≤ l.length := by
  unfold lstrip stripL
  simp only [Bool.false_eq_true, if_false, if_true]
  exact (List.dropWhile_sublist _).length_le
theorem lstrip_eq {l : T} (h : Ln l) : stripL PySem.Unicode.isSpace true false l = lstrip l := by
  unfold lstrip
  exact stripL_congr fun c hc => by rw [space_ln (h c hc)]; simp
theorem lstrip_firm (l : T) : Firm (lstrip l) := fun c r h => by
  unfold lstrip stripL at h
  simp only [Bool.false_eq_true, if_false, if_true] at h
  have := dropWhile_head h
  simpa using this
theorem dropWhile_twice {p : Nat → Bool} (x : T) : (x.dropWhile p).dropWhile p = x.dropWhile p := by
  cases h : x.dropWhile p with
  | nil => rfl
  | cons c r => rw [List.dropWhile_cons, dropWhile_head h]; rfl
theorem strip_lstrip {l : T} (h : Ln l) : stripL PySem.Unicode.isSpace true true (lstrip l) = stripL PySem.Unicode.isSpace true true l := by
  rw [← lstrip_eq h]
  unfold stripL
  simp only [Bool.false_eq_true, if_false, if_true]
  rw [dropWhile_twice]
theorem lstrip_sub {l : T} : ∀ c ∈ lstrip l, c ∈ l := fun c hc => by
  unfold lstrip stripL at hc
  simp only [Bool.false_eq_true, if_false, if_true] at hc
  exact mem_dropWhile hc
theorem RowsOk.first {l : T} (h : GoodLine l) (hne : l ≠ []) : RowsOk [lstrip l] := fun r rs e => by
  cases e
  refine ⟨⟨fun q => ?_, fun q => ?_⟩, lstrip_firm l, fun z hz => ?_⟩
  · rw [strip_lstrip h.ln] at q; exact h.eight q
  · rw [q]; rfl
  · rw [List.mem_singleton] at hz; subst hz; exact ⟨h.ln.sub lstrip_sub, h.firm hne⟩
theorem RowsOk.next {rows : List T} {l : T} (h : RowsOk rows) (k : rows ≠ []) (hl : GoodLine l) (hne : l ≠ []) : RowsOk (rows ++ [l]) := fun r rs e => by
  cases rows with
  | nil => exact absurd rfl k
  | cons a b =>
    rw [List.cons_append] at e
    injection e with e1 e2
    subst e1 e2
    obtain ⟨p1, p2, p3⟩ := h a b rfl
    refine ⟨p1, p2, fun z hz => ?_⟩
    rcases List.mem_append.mp hz with hz | hz
    · exact p3 z hz
    · rw [List.mem_singleton] at hz; subst hz; exact ⟨hl.ln, hne⟩
theorem mu_snoc (xs : List T) (q : T) : mu (xs ++ [q]) = mu xs + q.length + 1 := by unfold mu; simp; omega
theorem sum_mu (xs : List T) : (xs.map (·.length)).sum ≤ mu xs := by unfold mu; omega
/-- what holds of a paragraph -/
structure ParaOk (q : Nat × List T) : Prop where
  ne : q.2 ≠ []
  rows : RowsOk q.2
  ind : q.1 ≤ 50
theorem mu_nil : mu [] = 0 := rfl
theorem para_ok : ∀ (lines rows : List T) (ind : Nat), RowsOk rows → (rows ≠ [] → ind ≤ 50) → (∀ l ∈ lines, GoodLine l) → (∀ q ∈ paraGo rows ind lines, ParaOk q) ∧ ((paraGo rows ind lines).map fun q => mu q.2).sum ≤ mu rows + mu lines
  | [], rows, ind, h, hi, _ => by
    unfold paraGo
    by_cases e : rows = []
    · rw [if_pos e]; exact ⟨fun _ h => (by cases h), by simp⟩
    · rw [if_neg e]
      refine ⟨fun q hq => ?_, by simp [mu_nil]⟩
      rw [List.mem_singleton] at hq; subst hq
      exact ⟨e, h, hi e⟩
  | l :: r, rows, ind, h, hi, hg => by
    have hg' : ∀ l ∈ r, GoodLine l := fun z hz => hg z (.tail _ hz)
    by_cases el : l = []
    · subst el
      rw [mu_cons]
      by_cases e : rows = []
      · subst e
        rw [para_nil0]
        have := para_ok r [] ind RowsOk.nil (fun q => absurd rfl q) hg'
        exact ⟨this.1, by have h2 := this.2; simp at h2 ⊢; omega⟩
      · rw [para_nil1 e]
        have := para_ok r [] ind RowsOk.nil (fun q => absurd rfl q) hg'
        refine ⟨fun q hq => ?_, by have h2 := this.2; rw [mu_nil] at h2; simp at h2 ⊢; omega⟩
        rcases List.mem_cons.mp hq with rfl | hq
        · exact ⟨e, h, hi e⟩
        · exact this.1 q hq
    · rw [mu_cons]
      have g := hg l (.head _)
      by_cases e : rows = []
      · subst e
        rw [para_first el]
        have := para_ok r [lstrip l] (l.length - (lstrip l).length) (RowsOk.first g el) (fun _ => by have := g.ind; omega) hg'
        refine ⟨this.1, ?_⟩
        have h2 := this.2
        have h3 := lstrip_len l
        rw [mu_cons] at h2
        rw [mu_nil] at h2 ⊢
        omega
      · rw [para_next el e]
        have := para_ok r (rows ++ [l]) ind (RowsOk.next h e g el) (fun _ => hi e) hg'
        refine ⟨this.1, ?_⟩
        have h2 := this.2
        rw [mu_snoc] at h2
        omega
theorem joinL_mu {sep : T} (h : sep.length = 1) (rows : List T) : (joinL sep rows).length ≤ mu rows := by
  have := joinL_len sep rows
  rw [h] at this
  unfold mu
  have e : (List.map (fun x : List Nat => x.length) rows).sum = (List.map (fun x : T => x.length) rows).sum := rfl
  omega
theorem parOut_len {w : Int} {ini sub : T} {q : Nat × List T} (h : ParaOk q) (hm : mu q.2 ≤ 800) (hi : Ln ini) (hs : Ln sub) (hf : ini.length ≤ 300) (hr : sub.length ≤ 300) : (parOut w ini sub q).length ≤ 3902 * mu q.2 := by
  obtain ⟨ind, rows⟩ := q
  obtain ⟨h1, h2, h3⟩ := h
  cases rows with
  | nil => exact absurd rfl h1
  | cons r rs =>
    obtain ⟨-, p2, p3⟩ := h2 r rs rfl
    dsimp only at h3 hm ⊢
    have hb : (List.replicate ind 32).length = ind := List.length_replicate
    unfold parOut
    dsimp only
    split
    · rw [List.tail_cons]
      have e1 := joinL_len [10] (markRows (ini ++ List.replicate ind 32) (sub ++ List.replicate ind 32) rs)
      have e2 := sum_le (markRows_mem (ini := ini ++ List.replicate ind 32) (sub := sub ++ List.replicate ind 32) (rs := rs) (n := mu (r :: rs)) (fun z hz => by have := len_le_mu (p := z) (parts := r :: rs) (.tail _ hz); exact this) (by rw [List.length_append, hb]; omega) (by rw [List.length_append, hb]; omega))
      rw [markRows_len] at e1 e2
      have e3 : rs.length ≤ mu (r :: rs) := by have := length_le_mu (r :: rs); simp at this; omega
      simp only [List.length_cons, List.length_nil] at e1
      have e : ∀ xs : List T, (List.map (fun x : List Nat => x.length) xs).sum = (List.map (fun x : T => x.length) xs).sum := fun _ => rfl
      rw [e] at e1
      have e4 : rs.length * (400 + mu (r :: rs)) ≤ mu (r :: rs) * (400 + 800) := Nat.mul_le_mul e3 (by omega)
      omega
    · have e0 := joinL_mu (sep := [32]) rfl (r :: rs)
      have hln : Ln (joinL [32] (r :: rs)) := joinL_all (P := lnc) (by intro c hc; simp at hc; subst hc; unfold lnc; omega) fun z hz => (p3 z hz).1
      have hfm : Firm (joinL [32] (r :: rs)) := by
        intro c z e
        have hne := (p3 r (.head _)).2
        cases r with
        | nil => exact absurd rfl hne
        | cons a b =>
          cases rs with
          | nil => change a :: b = c :: z at e; exact p2 c z e
          | cons r2 rs2 =>
            change (a :: b) ++ [32] ++ joinL [32] (r2 :: rs2) = c :: z at e
            rw [List.append_assoc, List.cons_append] at e
            injection e with e1 e2
            exact p2 c b (by rw [e1])
      obtain ⟨b1, b2, b3⟩ := laidL_facts (w := w) (M := 350) hln hfm (hi.app (Ln.blanks (n := ind))) (hs.app (Ln.blanks (n := ind))) (by rw [List.length_append, hb]; omega) (by rw [List.length_append, hb]; omega)
      have e1 := joinL_len [10] (laidL w (ini ++ List.replicate ind 32) (sub ++ List.replicate ind 32) (joinL [32] (r :: rs)))
      have e2 := sum_le b3
      simp only [List.length_cons, List.length_nil] at e1
      have e : ∀ xs : List T, (List.map (fun x : List Nat => x.length) xs).sum = (List.map (fun x : T => x.length) xs).sum := fun _ => rfl
      rw [e] at e1
      generalize laidL w (ini ++ List.replicate ind 32) (sub ++ List.replicate ind 32) (joinL [32] (r :: rs)) = LL at *
      generalize mu (r :: rs) = m at *
      have e4 : LL.length * (350 + 2 * (joinL [32] (r :: rs)).length) ≤ (2 * m) * (350 + 2 * 800) := Nat.mul_le_mul (by omega) (by omega)
      omega
theorem para_firm {q : Nat × List T} (h : ParaOk q) : Ln (joinL [32] q.2) ∧ Firm (joinL [32] q.2) := by
  obtain ⟨ind, rows⟩ := q
  obtain ⟨h1, h2, h3⟩ := h
  cases rows with
  | nil => exact absurd rfl h1
  | cons r rs =>
    obtain ⟨-, p2, p3⟩ := h2 r rs rfl
    refine ⟨joinL_all (P := lnc) (by intro c hc; simp at hc; subst hc; unfold lnc; omega) fun z hz => (p3 z hz).1, ?_⟩
    intro c z e
    have hne := (p3 r (.head _)).2
    cases r with
    | nil => exact absurd rfl hne
    | cons a b =>
      cases rs with
      | nil => change a :: b = c :: z at e; exact p2 c z e
      | cons r2 rs2 =>
        change (a :: b) ++ [32] ++ joinL [32] (r2 :: rs2) = c :: z at e
        rw [List.append_assoc, List.cons_append] at e
        injection e with e1 e2
        exact p2 c b (by rw [e1])
theorem para_tail {q : Nat × List T} (h : ParaOk q) (hm : mu q.2 ≤ 800) : (∀ r ∈ q.2.tail, r ≠ [] ∧ Ln r ∧ r.length ≤ 1000) ∧ q.2.tail.length ≤ 1000 ∧ (joinL [10] q.2.tail).length ≤ 1000 ∧ (joinL [32] q.2).length ≤ 1000 := by
  obtain ⟨ind, rows⟩ := q
  obtain ⟨h1, h2, h3⟩ := h
  cases rows with
  | nil => exact absurd rfl h1
  | cons r rs =>
    obtain ⟨-, p2, p3⟩ := h2 r rs rfl
    dsimp only [List.tail_cons] at hm ⊢
    have a1 := joinL_mu (sep := [10]) rfl rs
    have a2 := joinL_mu (sep := [32]) rfl (r :: rs)
    have a3 := mu_cons r rs
    have a4 := length_le_mu rs
    refine ⟨fun z hz => ⟨(p3 z (.tail _ hz)).2, (p3 z (.tail _ hz)).1, ?_⟩, by omega, by omega, by omega⟩
    have := len_le_mu hz
    omega
theorem le_sum_mem : ∀ {l : List Nat} {a : Nat}, a ∈ l → a ≤ l.sum
  | b :: r, a, h => by
    rw [List.sum_cons]
    rcases List.mem_cons.mp h with rfl | h
    · omega
    · have := le_sum_mem h; omega
theorem para_each {x : T} {q : Nat × List T} (hg : ∀ l ∈ linesL x, GoodLine l) (hx : Tx x) (hz : x.length ≤ 700) (hq : q ∈ parasL x) : ParaOk q ∧ mu q.2 ≤ 800 := by
  have h := para_ok (linesL x) [] 0 RowsOk.nil (fun q => absurd rfl q) hg
  rw [para_lines] at h
  refine ⟨h.1 q hq, ?_⟩
  have h2 := (lines_facts x hx).1
  have h3 : mu q.2 ≤ ((parasL x).map fun q => mu q.2).sum := le_sum_mem (List.mem_map_of_mem hq)
  have h4 := h.2
  rw [mu_nil] at h4
  omega
theorem outs_sum {w : Int} {ini sub x : T} (hg : ∀ l ∈ linesL x, GoodLine l) (hx : Tx x) (hz : x.length ≤ 700) (hi : Ln ini) (hs : Ln sub) (hf : ini.length ≤ 300) (hr : sub.length ≤ 300) : (((parasL x).map (parOut w ini sub)).map (·.length)).sum ≤ 3200000 ∧ (parasL x).length ≤ 800 := by
  have h := para_ok (linesL x) [] 0 RowsOk.nil (fun q => absurd rfl q) hg
  rw [para_lines] at h
  have h2 := (lines_facts x hx).1
  have h4 := h.2
  rw [mu_nil] at h4
  have h5 : ∀ q ∈ parasL x, ParaOk q ∧ mu q.2 ≤ 800 := fun q hq => para_each hg hx hz hq
  generalize parasL x = qs at *
  clear h
  have key : ∀ qs : List (Nat × List T), (∀ q ∈ qs, ParaOk q ∧ mu q.2 ≤ 800) → ((qs.map (parOut w ini sub)).map (·.length)).sum ≤ 3902 * (qs.map fun q => mu q.2).sum ∧ qs.length ≤ (qs.map fun q => mu q.2).sum := by
    intro qs
    induction qs with
    | nil => intro _; simp
    | cons q r ih =>
      intro hq
      have i1 := ih fun z hz => hq z (.tail _ hz)
      have i2 := hq q (.head _)
      have i3 := parOut_len (w := w) i2.1 i2.2 hi hs hf hr
      have i4 : 1 ≤ mu q.2 := by
        have := length_le_mu q.2
        have := List.length_pos_iff.mpr i2.1.ne
        omega
      simp only [List.map_cons, List.sum_cons, List.length_cons]
      omega
  have := key qs h5
  omega
end Mine
end
section
open PySem PySem.W PySem.Calls PyProof.Rows
set_option maxRecDepth 100000
set_option maxHeartbeats 1000000
set_option autoImplicit false
set_option linter.unusedVariables false
set_option linter.unusedSimpArgs false
namespace Mine
noncomputable def fdAt (K : Frag) (a : Addr) : Option FuncData := match K.lookup a with | some ⟨_, _, .func fd, _⟩ => some fd | _ => none
def wq : Str := "wrap_text.<locals>._flush_par"
def wpos : Pos := ⟨198, 4, 205, 18⟩
section
variable {D : Wd} {A : Around} {t : Tok} {Q : Value → Led → Prop} {R : Led} {w : Int} {ini sub x : T}
theorem Sub.mem {l l' : Led} {x : Addr × Ob} (h : Sub l l') (m : x ∈ l) : x ∈ l' := by
  obtain ⟨r, p⟩ := h
  exact p.mem_iff.mpr (List.mem_append_left _ m)
theorem wt_spec {args : List Value} {kw : List (Str × Value)} {t1 t2 t3 t4 : Tok} {st : Option Addr} (hb : ∀ fd, fdAt D.K 260 = some fd → ∀ Z, peek D.K Z (bindArgs fd ⟨args, kw⟩) = some ([("text", .str (S x) t1), ("width", .int w t2), ("initial_indent", .str (S ini) t3), ("subsequent_indent", .str (S sub) t4), ("preserve_paragraphs", .bool true)] : List (Str × Value)))
    (room : Room A 30) (hx : Tx x) (hz : x.length ≤ 700) (hw : 0 < w ∧ w ≤ 10000) (hi : Ln ini) (hs : Ln sub) (hf : ini.length ≤ 300) (hr : sub.length ≤ 300) (hgood : ∀ l ∈ linesL x, GoodLine l)
    (h : ∀ t (c' : Addr), Q (.str (S (wrappedL w ini sub x)) t) (TabL 255 wq wpos (some c') ++ R)) : Cl D A (.ref 260) args kw Q (TabL 255 wq wpos st ++ R) := by
  refine Cl.defC (n := 29) (ls := ["text", "width", "initial_indent", "subsequent_indent", "preserve_paragraphs", "wrapper", "_flush_par", "line", "orig_len", "rv", "raw"]) (gs := ["TextWrapper", "term_len"]) (cn := ["p", "buf", "indent"])
    (binds := [("text", .str (S x) t1), ("width", .int w t2), ("initial_indent", .str (S ini) t3), ("subsequent_indent", .str (S sub) t4), ("preserve_paragraphs", .bool true)]) (by rfl) (by kernel_rfl) room (by rfl) (by kernel_rfl) (fun S => hb _ rfl S) (by kernel_rfl)
    (vs := [("text", some (.str x)), ("width", some (.int w)), ("initial_indent", some (.str ini)), ("subsequent_indent", some (.str sub)), ("preserve_paragraphs", some (.bool true)), ("wrapper", none), ("_flush_par", none), ("line", none), ("orig_len", none), ("rv", none), ("raw", none)]) (by rfl) fun env L A' ca F hcode hqual hcv rm => ?_
  obtain ⟨cp1, cp2⟩ := hcv "p" (by decide)
  obtain ⟨cb1, cb2⟩ := hcv "buf" (by decide)
  obtain ⟨ci1, ci2⟩ := hcv "indent" (by decide)
  have htab : 9 ∉ x := hx.tab
  refine W.sub (led' := (ca "p", cellOb none) :: (ca "buf", cellOb none) :: (ca "indent", cellOb none) :: (TabL 255 wq wpos st ++ R)) (.refl _) ?_
  repeat tb_rel
  refine W.expandtabs0 htab fun t => ?_
  repeat tb_rel
  refine W.mkWr (n := 24) rm fun wr dwr => ?_
  dsimp only [Wr, List.cons_append, List.nil_append]
  repeat tb_rel
  tb_start
  repeat tb_rel
  rename_i pa ba
  refine W.DefStmt (P := 255) (qual := wq) (st := st) (ca := ca) (led0 := [(ba, .list []), (pa, .list []), (wr, .inst 229 dwr), (dwr, .dict [("width", some (.int w)), ("initial_indent", some (.str ini)), ("subsequent_indent", some (.str sub)), ("replace_whitespace", some (.bool false)), ("drop_whitespace", some (.bool true)), ("break_long_words", some (.bool true)), ("max_lines", some .none), ("placeholder", some (.str [32, 91, 46, 46, 46, 93]))]), (ca "p", cellOb (some (.ref pa))), (ca "buf", cellOb (some (.ref ba))), (ca "indent", cellOb (some .none))] ++ R) F (c := 259) (by rw [hcode]) D.c2 (by unfold qualnameIn; rw [(F.ls "_flush_par" (by decide)).1, hqual]; rfl) rfl rfl rfl ?_ ?_ ?_
  · intro y hy hf
    simp only [List.mem_cons, List.not_mem_nil, or_false] at hy
    rcases hy with rfl | rfl | rfl
    · exact cb1.lk
    · exact ci1.lk
    · exact cp1.lk
  · exact Sub.perm (List.perm_append_comm_assoc [_, _, _, _, _, _, _] (TabL 255 wq wpos st) R)
  intro f c' ctv doc pm fo hfo
  dsimp only [List.cons_append, List.nil_append]
  let FL : List AV → List T → AV → Led → Led := fun as rows iv R2 => (f, Ob.raw fo) :: (c', codeOb wq) :: (ca "p", cellOb (some (.ref pa))) :: (ca "buf", cellOb (some (.ref ba))) :: (ca "indent", cellOb (some iv)) :: (pa, .list as) :: (ba, LS rows) :: R2
  have hfl0 : ∀ (A2 : Around) (Q2 : Value → Led → Prop) (R2 : Led) (as : List AV) (iv : AV), Room A2 3 → Q2 .none (FL as [] iv R2) → Cl D A2 (.ref f) [] [] Q2 (FL as [] iv R2) := by
    intro A2 Q2 R2 as iv room2 hq2
    refine Cl.defO (n := 2) (ls := []) (gs := []) (fr := ["p", "buf", "indent"]) (binds := []) (vs := []) hfo room2 (.head _) (.tail _ (.head _)) (by rfl) (fun _ _ _ _ _ => rfl) (by rfl) (by rfl) fun env2 L2 A3 F2 hcv2 rm2 => ?_
    obtain cp2 := hcv2 "p" (by decide)
    obtain cb2 := hcv2 "buf" (by decide)
    obtain ci2 := hcv2 "indent" (by decide)
    clear F rm cp1 cb1 ci1
    dsimp only [FL, LS, List.map]
    repeat tb_rel
    tb_start
    repeat tb_rel
    exact ⟨_, .refl _, hq2⟩
  have hfl1 : ∀ (A2 : Around) (Q2 : Value → Led → Prop) (R2 : Led) (as : List AV) (r : T) (rs : List T) (ind : Nat), Room A2 3 → as.length ≤ 1000 → (r :: rs).length ≤ 1000 → ((r :: rs).map (·.length)).sum ≤ 10000 → (stripL PySem.Unicode.isSpace true true r = [8] ↔ r = [8]) →
      (∀ t, Q2 .none ((t, .tup [.int (ind : Int), .bool (isRaw (r :: rs)), .str (parText (r :: rs))]) :: FL (as ++ [.ref t]) [] (.int (ind : Int)) R2)) → Cl D A2 (.ref f) [] [] Q2 (FL as (r :: rs) (.int (ind : Int)) R2) := by
    intro A2 Q2 R2 as r rs ind room2 hal hrl hrs h8 hq2
    refine Cl.defO (n := 2) (ls := []) (gs := []) (fr := ["p", "buf", "indent"]) (binds := []) (vs := []) hfo room2 (.head _) (.tail _ (.head _)) (by rfl) (fun _ _ _ _ _ => rfl) (by rfl) (by rfl) fun env2 L2 A3 F2 hcv2 rm2 => ?_
    obtain cp2 := hcv2 "p" (by decide)
    obtain cb2 := hcv2 "buf" (by decide)
    obtain ci2 := hcv2 "indent" (by decide)
    clear F rm cp1 cb1 ci1
    have hr1 : r.length ≤ 10000000 := by simp at hrs; omega
    have hr2 : rs.length ≤ 1000 := by simp at hrl; omega
    have hr3 : (AV.str r :: List.map AV.str rs).length ≤ 10000000 := by simp; omega
    dsimp only [FL, LS, List.map]
    repeat tb_rel
    tb_start
    repeat tb_rel
    tb_start
    · rename_i hC
      have e8 := h8.mp hC
      have hraw : isRaw (r :: rs) = true := by unfold isRaw; rw [e8]; rfl
      have hpt : parText (r :: rs) = joinL [10] rs := by unfold parText; rw [if_pos hraw]; rfl
      rw [hraw, hpt] at hq2
      have hj : (rs.map (·.length)).sum + rs.length * ([10] : List Nat).length ≤ 10000000 := by simp at hrs ⊢; omega
      repeat tb_rel
      rename_i a _
      exact ⟨(a, .tup [.int (ind : Int), .bool true, .str (joinL [10] rs)]) :: FL (as ++ [.ref a]) [] (.int (ind : Int)) R2, by dsimp only [FL, LS, List.map]; kspl_open m_sub, hq2 a⟩
    · rename_i hC
      have e8 : ¬ r = [8] := fun q => hC (h8.mpr q)
      have hraw : isRaw (r :: rs) = false := by unfold isRaw; exact decide_eq_false (fun q => e8 (by simpa using q))
      have hpt : parText (r :: rs) = joinL [32] (r :: rs) := by unfold parText; rw [if_neg (by rw [hraw]; exact Bool.false_ne_true)]
      rw [hraw, hpt] at hq2
      have hj : ((r :: rs).map (·.length)).sum + (r :: rs).length * ([32] : List Nat).length ≤ 10000000 := by simp at hrs ⊢; omega
      repeat tb_rel
      refine W.join_list (a := ba) (xs := r :: rs) (.tail _ (.tail _ (.tail _ (.tail _ (.tail _ (.tail _ (.head _))))))) hj fun t => ?_
      repeat tb_rel
      rename_i a _
      exact ⟨(a, .tup [.int (ind : Int), .bool false, .str (joinL [32] (r :: rs))]) :: FL (as ++ [.ref a]) [] (.int (ind : Int)) R2, by dsimp only [FL, LS, List.map]; kspl_open m_sub, hq2 a⟩
  dsimp only [TabL, List.cons_append, List.nil_append]
  repeat tb_rel
  let VV : Option AV → Option AV → Vars := fun ln ol => [("text", some (.str x)), ("width", some (.int w)), ("initial_indent", some (.str ini)), ("subsequent_indent", some (.str sub)), ("preserve_paragraphs", some (.bool true)), ("wrapper", some (.ref wr)), ("_flush_par", some (.ref f)), ("line", ln), ("orig_len", ol), ("rv", none), ("raw", none)]
  let Rest : Led := (255, .raw (tabObj #[rawInt ((198 : Nat) : Int), rawInt ((4 : Nat) : Int), .ref c'])) :: (Wr wr dwr w ini sub ++ R)
  obtain ⟨hmuL, hLnL⟩ := lines_facts x hx
  refine W.cutN (fun vs led => ∃ ps rows ind iv ln ol, (rows = [] → iv = .none) ∧ (rows ≠ [] → iv = .int (ind : Nat)) ∧ ps.reverse.map (·.2) ++ paraGo rows ind [] = parasL x ∧ RowsOk rows ∧ mu rows ≤ 800 ∧ ps.length ≤ 800 ∧ vs = VV ln ol ∧ Sub (FL (ps.reverse.map fun p => .ref p.1) rows iv (PL ps ++ Rest)) led) ?_ fun vs led ⟨ps, rows, ind, iv, ln, ol, hn0, hn1, hpar, hro, hmr, hpsl, e, hsub⟩ => ?_
  · refine W.For_list rm (fun _ => rfl) ?_
    repeat tb_rel
    refine W.lines0 (fun c hc => ⟨break_of (hx c hc), by have := hx c hc; unfold okc at this; omega⟩) (by omega) fun la => ?_
    refine ⟨la, (linesL x).map .str, fun rem vs led => ∃ (rem' : List T) (ps : List (Addr × (Nat × List T))) (rows : List T) (ind : Nat) (iv : AV) (ln ol : Option AV), rem = rem'.map .str ∧ (rows = [] → iv = .none) ∧ (rows ≠ [] → iv = .int (ind : Nat)) ∧ ps.reverse.map (·.2) ++ paraGo rows ind rem' = parasL x ∧ RowsOk rows ∧ mu rows + mu rem' ≤ 800 ∧ ps.length + mu rem' ≤ 800 ∧ (∀ l ∈ rem', GoodLine l) ∧ vs = VV ln ol ∧
      ∃ led', led = (la, LS (linesL x)) :: led' ∧ Sub (FL (ps.reverse.map fun p => .ref p.1) rows iv (PL ps ++ Rest)) led', rfl, ?_, ?_, ?_, ?_⟩
    · rintro r vs led ⟨rem', ps, rows, ind, iv, ln, ol, -, -, -, -, -, -, -, -, -, led', rfl, -⟩
      exact .head _
    · refine ⟨linesL x, [], [], 0, .none, _, _, rfl, fun _ => rfl, fun q => absurd rfl q, para_lines x, RowsOk.nil, by simp [mu] at hmuL ⊢; omega, by simp; omega, hgood, rfl, _, rfl, ?_⟩
      dsimp only [FL, PL, Rest, Wr, List.map, List.reverse_nil, List.cons_append, List.nil_append]
      kspl_open m_sub
    · rintro z r vs led it ob v hv ⟨rem', ps, rows, ind, iv, ln, ol, hrem, h1, h2, h3, h4, h5, h6, h7, rfl, led', rfl, hsub⟩
      cases rem' with
      | nil => cases hrem
      | cons l rem2 =>
        rw [List.map_cons] at hrem
        injection hrem with hz1 hz2
        subst hz1 hz2
        obtain ⟨tv, rfl⟩ := hv
        have hg := h7 l (.head _)
        have h7' : ∀ l ∈ rem2, GoodLine l := fun q hq => h7 q (.tail _ hq)
        rw [mu_cons] at h5 h6
        have hpl : (ps.reverse.map fun p => AV.ref p.1).length ≤ 800 := by simp; omega
        refine W.sub (led' := (it, ob) :: (la, LS (linesL x)) :: FL (ps.reverse.map fun p => .ref p.1) rows iv (PL ps ++ Rest)) (.cons (.cons hsub)) ?_
        have hl0 : l.length ≤ 10000000 := by omega
        by_cases hle : l = []
        · subst hle
          dsimp only [VV, FL]
          repeat tb_rel
          tb_start
          repeat tb_rel
          cases rows with
          | nil =>
            rw [para_nil0] at h3
            refine W.use (P := FL (ps.reverse.map fun p => .ref p.1) [] iv []) (by dsimp only [FL]; kspl_open m_take) (hfl0 _ _ _ _ _ (rm.less (by decide)) (Back.intro (P := FL (ps.reverse.map fun p => .ref p.1) [] iv []) ?_))
            dsimp only [FL, List.cons_append, List.nil_append]
            repeat tb_rel
            exact ⟨(la, LS (linesL x)) :: FL (ps.reverse.map fun p => .ref p.1) [] .none (PL ps ++ Rest), by dsimp only [FL]; kspl_open m_sub, rem2, ps, [], ind, .none, _, _, rfl, fun _ => rfl, fun q => absurd rfl q, h3, RowsOk.nil, by omega, by omega, h7', rfl, _, rfl, .refl _⟩
          | cons a b =>
            rw [para_nil1 (by simp)] at h3
            obtain rfl := h2 (by simp)
            have hs1 := sum_mu (a :: b)
            have hs2 := length_le_mu (a :: b)
            refine W.use (P := FL (ps.reverse.map fun p => .ref p.1) (a :: b) (.int (ind : Nat)) []) (by dsimp only [FL]; kspl_open m_take) (hfl1 _ _ _ _ _ _ _ (rm.less (by decide)) (by omega) (by omega) (by omega) (h4 a b rfl).1 fun t => Back.intro (P := (t, .tup [.int (ind : Int), .bool (isRaw (a :: b)), .str (parText (a :: b))]) :: FL ((ps.reverse.map fun p => .ref p.1) ++ [.ref t]) [] (.int (ind : Nat)) []) ?_)
            dsimp only [FL, List.cons_append, List.nil_append]
            repeat tb_rel
            exact ⟨(la, LS (linesL x)) :: FL (((t, (ind, a :: b)) :: ps).reverse.map fun p => .ref p.1) [] .none (PL ((t, (ind, a :: b)) :: ps) ++ Rest), by
              simp only [FL, List.reverse_cons, List.map_append, List.map_cons, List.map_nil]
              dsimp only [PL, List.map_cons, List.cons_append]
              kspl_open m_sub, rem2, (t, (ind, a :: b)) :: ps, [], ind, .none, _, _, rfl, fun _ => rfl, fun q => absurd rfl q, by rw [← h3]; simp, RowsOk.nil, by simp [mu] at h5 ⊢; omega, by simp at h6 ⊢; rw [mu_cons] at h5; omega, h7', rfl, _, rfl, .refl _⟩
        · have hls := lstrip_eq hg.ln
          have hll := lstrip_len l
          have hse : 27 ∉ lstrip l := (hg.ln.sub lstrip_sub).tx.esc
          have hrl : rows.length ≤ 800 := by have := length_le_mu rows; omega
          dsimp only [VV, FL]
          repeat tb_rel
          refine way_f (by cases l with | nil => exact absurd rfl hle | cons a b => rfl) ?_
          repeat tb_rel
          cases rows with
          | nil =>
            obtain rfl := h1 rfl
            rw [para_first hle] at h3
            repeat tb_rel
            tb_start
            repeat tb_rel
            refine W.use .nil (term_len_spec (rm.less (by decide)) hg.ln.tx.esc (by omega) fun t => Back.intro (P := []) ?_)
            dsimp only [List.nil_append]
            repeat tb_rel
            rw [hls]
            refine W.use .nil (term_len_spec (rm.less (by decide)) hse (by omega) fun t => Back.intro (P := []) ?_)
            dsimp only [List.nil_append]
            repeat tb_rel
            exact ⟨(la, LS (linesL x)) :: FL (ps.reverse.map fun p => .ref p.1) [lstrip l] (.int ((l.length : Int) - ((lstrip l).length : Int))) (PL ps ++ Rest), by dsimp only [FL]; kspl_open m_sub, rem2, ps, [lstrip l], l.length - (lstrip l).length, _, _, _, rfl, fun q => absurd q (by simp), fun _ => by congr 1; omega, h3, RowsOk.first hg hle, by simp [mu] at h5 ⊢; omega, by omega, h7', rfl, _, rfl, .refl _⟩
          | cons a b =>
            obtain rfl := h2 (by simp)
            have hb800 : b.length ≤ 800 := by simp at hrl; omega
            rw [para_next hle (by simp)] at h3
            repeat tb_rel
            tb_start
            repeat tb_rel
            exact ⟨(la, LS (linesL x)) :: FL (ps.reverse.map fun p => .ref p.1) ((a :: b) ++ [l]) (.int (ind : Nat)) (PL ps ++ Rest), by dsimp only [FL]; kspl_open m_sub, rem2, ps, (a :: b) ++ [l], ind, _, _, _, rfl, fun q => absurd q (by simp), fun _ => rfl, h3, RowsOk.next h4 (by simp) hg hle, by rw [mu_snoc]; omega, by omega, h7', rfl, _, rfl, .refl _⟩
    · rintro vs led ⟨rem', ps, rows, ind, iv, ln, ol, hrem, h1, h2, h3, h4, h5, h6, h7, rfl, led', rfl, hsub⟩
      cases rem' with
      | cons a b => cases hrem
      | nil =>
        refine W.sub (.skip hsub) ?_
        repeat tb_rel
        exact ⟨rfl, ps, rows, ind, iv, ln, ol, h1, h2, h3, h4, by omega, by omega, rfl, .refl _⟩
  · subst e
    refine W.sub hsub ?_
    clear hsub
    refine W.cut (fun vs led => ∃ ps iv ln ol, ps.reverse.map (·.2) = parasL x ∧ ps.length ≤ 801 ∧ vs = VV ln ol ∧ Sub (FL (ps.reverse.map fun p => .ref p.1) [] iv (PL ps ++ Rest)) led) ?_ fun vs led ⟨ps, iv, ln, ol, hpar, hpl, e, hsub⟩ => ?_
    · have hpl : (ps.reverse.map fun p => AV.ref p.1).length ≤ 800 := by simp; omega
      dsimp only [VV, FL]
      repeat tb_rel
      cases rows with
      | nil =>
        refine W.use (P := FL (ps.reverse.map fun p => .ref p.1) [] iv []) (by dsimp only [FL]; kspl_open m_take) (hfl0 _ _ _ _ _ (rm.less (by decide)) (Back.intro (P := FL (ps.reverse.map fun p => .ref p.1) [] iv []) ?_))
        dsimp only [FL, List.cons_append, List.nil_append]
        repeat tb_rel
        exact ⟨rfl, ps, iv, _, _, by rw [← hpar]; simp [paraGo], by omega, rfl, by (try dsimp only [FL]); kspl_open m_sub⟩
      | cons a b =>
        obtain rfl := hn1 (by simp)
        have hs1 := sum_mu (a :: b)
        have hs2 := length_le_mu (a :: b)
        refine W.use (P := FL (ps.reverse.map fun p => .ref p.1) (a :: b) (.int (ind : Nat)) []) (by dsimp only [FL]; kspl_open m_take) (hfl1 _ _ _ _ _ _ _ (rm.less (by decide)) (by omega) (by omega) (by omega) (hro a b rfl).1 fun t => Back.intro (P := (t, .tup [.int (ind : Int), .bool (isRaw (a :: b)), .str (parText (a :: b))]) :: FL ((ps.reverse.map fun p => .ref p.1) ++ [.ref t]) [] (.int (ind : Nat)) []) ?_)
        dsimp only [FL, List.cons_append, List.nil_append]
        repeat tb_rel
        exact ⟨rfl, (t, (ind, a :: b)) :: ps, .int (ind : Nat), _, _, by rw [← hpar]; simp [paraGo], by simp; omega, rfl, by
              simp only [FL, List.reverse_cons, List.map_append, List.map_cons, List.map_nil]
              dsimp only [PL, List.map_cons, List.cons_append]
              kspl_open m_sub⟩
    · subst e
      refine W.sub hsub ?_
      clear hsub
      dsimp only [VV, FL, Rest, Wr, List.cons_append, List.nil_append]
      repeat tb_rel
      rename_i rv
      have hpe : ∀ q ∈ ps, ParaOk q.2 ∧ mu q.2.2 ≤ 800 := fun q hq => para_each hgood hx hz (by rw [← hpar]; exact List.mem_map_of_mem (List.mem_reverse.mpr hq))
      obtain ⟨hsum, hplen⟩ := outs_sum (w := w) hgood hx hz hi hs hf hr
      let V2 : Option AV → Option AV → Option AV → Option AV → Vars := fun tx ln ol rw => [("text", tx), ("width", some (.int w)), ("initial_indent", some (.str ini)), ("subsequent_indent", some (.str sub)), ("preserve_paragraphs", some (.bool true)), ("wrapper", some (.ref wr)), ("_flush_par", some (.ref f)), ("line", ln), ("orig_len", ol), ("rv", some (.ref rv)), ("raw", rw)]
      let L2 : List T → AV → Led := fun outs iv => (rv, LS outs) :: (ca "indent", cellOb (some iv)) :: (c', codeOb wq) :: (255, .raw (tabObj #[rawInt ((198 : Nat) : Int), rawInt ((4 : Nat) : Int), .ref c'])) :: (Wr wr dwr w ini sub ++ (PL ps ++ R))
      refine W.cutN (fun vs led => ∃ tx ln ol rw iv, vs = V2 tx ln ol rw ∧ Sub (L2 ((parasL x).map (parOut w ini sub)) iv) led) ?_ fun vs led ⟨tx, ln, ol, rw, iv, e, hsub⟩ => ?_
      · refine W.For_list rm (fun _ => rfl) ?_
        repeat tb_rel
        refine ⟨pa, ps.reverse.map fun p => .ref p.1, fun rem vs led => ∃ (pre rest : List (Addr × (Nat × List T))) (tx ln ol rw : Option AV) (iv : AV), ps.reverse = pre ++ rest ∧ rem = rest.map (fun p => .ref p.1) ∧ vs = V2 tx ln ol rw ∧
          Sub ((pa, .list (ps.reverse.map fun p => .ref p.1)) :: L2 (pre.map fun p => parOut w ini sub p.2) iv) led, rfl, ?_, ?_, ?_, ?_⟩
        · rintro r vs led ⟨pre, rest, tx, ln, ol, rw, iv, -, -, -, hsub⟩
          exact hsub.mem (.head _)
        · refine ⟨[], ps.reverse, _, _, _, _, iv, rfl, rfl, rfl, Sub.trans (b := (pa, .list (ps.reverse.map fun p => .ref p.1)) :: (rv, LS []) :: (ca "indent", cellOb (some iv)) :: (c', codeOb wq) :: (PL ps ++ ((255, .raw (tabObj #[rawInt ((198 : Nat) : Int), rawInt ((4 : Nat) : Int), .ref c'])) :: (Wr wr dwr w ini sub ++ R)))) ?_ ?_⟩
          · exact Sub.perm (List.Perm.cons _ (List.Perm.cons _ (List.Perm.cons _ (List.Perm.cons _ (List.perm_append_comm_assoc (PL ps) [_, _, _] R)))))
          · dsimp only [LS, List.map, Wr, List.cons_append, List.nil_append]
            kspl_open m_sub
        · rintro z r vs led it ob v hv ⟨pre, rest, tx, ln, ol, rw, iv, hps, hrem, rfl, hsub⟩
          cases rest with
          | nil => cases hrem
          | cons q rest2 =>
            rw [List.map_cons] at hrem
            injection hrem with hz1 hz2
            subst hz1 hz2
            cases (show v = .ref q.1 from hv)
            refine W.sub (led' := (it, ob) :: (pa, .list (ps.reverse.map fun p => .ref p.1)) :: L2 (pre.map fun p => parOut w ini sub p.2) iv) (.cons hsub) ?_
            obtain ⟨hq1, hq2⟩ := hpe q (List.mem_reverse.mp (by rw [hps]; simp))
            obtain ⟨t1, t2, t3, t4⟩ := para_tail hq1 hq2
            obtain ⟨f1, f2⟩ := para_firm hq1
            have hind := hq1.ind
            have hmem : (q.1, Ob.tup [.int q.2.1, .bool (isRaw q.2.2), .str (parText q.2.2)]) ∈ PL ps := List.mem_map_of_mem (f := fun (p : Addr × (Nat × List T)) => (p.1, Ob.tup [.int p.2.1, .bool (isRaw p.2.2), .str (parText p.2.2)])) (List.mem_reverse.mp (by rw [hps]; simp))
            have hbl : (List.replicate q.2.1 32).length = q.2.1 := List.length_replicate
            have hprl : pre.length ≤ 801 := by have := congrArg List.length hps; simp at this; omega
            generalize hout : pre.map (fun p => parOut w ini sub p.2) = outs
            have houtl : outs.length ≤ 801 := by rw [← hout]; simpa using hprl
            dsimp only [V2, L2, Wr, List.cons_append, List.nil_append]
            refine W.assign_three (p := .int q.2.1) (q := .bool (isRaw q.2.2)) (r := .str (parText q.2.2)) rm (by
              repeat (first | exact List.mem_append_left _ hmem | apply List.mem_cons_of_mem)) ?_
            repeat tb_rel
            refine W.With wi_124 ?_
            repeat tb_rel
            rw [Int.toNat_natCast]
            have hbi : (ini ++ List.replicate q.2.1 32).length ≤ 400 := by rw [List.length_append, hbl]; omega
            have hbs : (sub ++ List.replicate q.2.1 32).length ≤ 400 := by rw [List.length_append, hbl]; omega
            have hlni : Ln (ini ++ List.replicate q.2.1 32) := hi.app Ln.blanks
            have hlns : Ln (sub ++ List.replicate q.2.1 32) := hs.app Ln.blanks
            have hpo1 : isRaw q.2.2 = true → parOut w ini sub q.2 = joinL [10] (markRows (ini ++ List.replicate q.2.1 32) (sub ++ List.replicate q.2.1 32) q.2.2.tail) := fun h => by unfold parOut; rw [if_pos h]
            have hpo2 : isRaw q.2.2 = false → parOut w ini sub q.2 = joinL [10] (laidL w (ini ++ List.replicate q.2.1 32) (sub ++ List.replicate q.2.1 32) (joinL [32] q.2.2)) := fun h => by unfold parOut; rw [if_neg (by rw [h]; exact Bool.false_ne_true)]
            generalize hbb : List.replicate q.2.1 32 = bb at *
            refine W.use .nil (extra_spec (rm.less (by decide)) fun e de => Back.intro (P := Xi e de wr bb none none) ?_)
            refine ⟨e, de, _, rfl, .head _, .tail _ (.head _), ?_⟩
            dsimp only [Xi, List.cons_append, List.nil_append]
            refine W.use (P := Xi e de wr bb none none ++ Wr wr dwr w ini sub) (by dsimp only [Xi, Wr, List.cons_append, List.nil_append]; kspl_open m_take) (enter_spec (rm.less (by decide)) (by omega) (by omega) (Back.intro (P := Xi e de wr bb (some (.str ini)) (some (.str sub)) ++ Wr wr dwr w (ini ++ bb) (sub ++ bb)) ?_))
            dsimp only [Xi, Wr, List.cons_append, List.nil_append]
            repeat tb_rel
            refine ⟨fun hraw => ?_, fun hraw => ?_⟩
            · have hpt : parText q.2.2 = joinL [10] q.2.2.tail := by unfold parText; rw [if_pos hraw]
              rw [hpt]
              repeat tb_rel
              refine W.use (P := Wr wr dwr w (ini ++ bb) (sub ++ bb)) (by dsimp only [Wr, List.cons_append, List.nil_append]; kspl_open m_take) (only_spec (rm.less (by decide)) t1 t2 t3 hbi hbs fun t => Back.intro (P := Wr wr dwr w (ini ++ bb) (sub ++ bb)) ?_)
              rw [← hpo1 hraw]
              dsimp only [Wr, List.cons_append, List.nil_append]
              repeat tb_rel
              refine W.use (P := Xi e de wr bb (some (.str ini)) (some (.str sub)) ++ Wr wr dwr w (ini ++ bb) (sub ++ bb)) (by dsimp only [Xi, Wr, List.cons_append, List.nil_append]; kspl_open m_take) (exit_spec (rm.less (by decide)) (Back.intro (P := Wr wr dwr w ini sub) ?_))
              dsimp only [Wr, List.cons_append, List.nil_append]
              repeat tb_rel
              exact ⟨(pa, .list (ps.reverse.map fun p => .ref p.1)) :: L2 (outs ++ [parOut w ini sub q.2]) (.int (q.2.1 : Nat)), by dsimp only [L2, Wr, List.cons_append, List.nil_append]; kspl_open m_sub, pre ++ [q], rest2, _, _, _, _, .int (q.2.1 : Nat), by rw [hps]; simp, rfl, rfl, by rw [List.map_append, hout]; exact .refl _⟩
            · have hpt : parText q.2.2 = joinL [32] q.2.2 := by unfold parText; rw [if_neg (by rw [hraw]; exact Bool.false_ne_true)]
              rw [hpt]
              repeat tb_rel
              refine W.use (P := Wr wr dwr w (ini ++ bb) (sub ++ bb)) (by dsimp only [Wr, List.cons_append, List.nil_append]; kspl_open m_take) (fill_spec (rm.less (by decide)) f1 f2 t4 hw hlni hlns hbi hbs fun t => Back.intro (P := Wr wr dwr w (ini ++ bb) (sub ++ bb)) ?_)
              rw [← hpo2 hraw]
              dsimp only [Wr, List.cons_append, List.nil_append]
              repeat tb_rel
              refine W.use (P := Xi e de wr bb (some (.str ini)) (some (.str sub)) ++ Wr wr dwr w (ini ++ bb) (sub ++ bb)) (by dsimp only [Xi, Wr, List.cons_append, List.nil_append]; kspl_open m_take) (exit_spec (rm.less (by decide)) (Back.intro (P := Wr wr dwr w ini sub) ?_))
              dsimp only [Wr, List.cons_append, List.nil_append]
              repeat tb_rel
              exact ⟨(pa, .list (ps.reverse.map fun p => .ref p.1)) :: L2 (outs ++ [parOut w ini sub q.2]) (.int (q.2.1 : Nat)), by dsimp only [L2, Wr, List.cons_append, List.nil_append]; kspl_open m_sub, pre ++ [q], rest2, _, _, _, _, .int (q.2.1 : Nat), by rw [hps]; simp, rfl, rfl, by rw [List.map_append, hout]; exact .refl _⟩
        · rintro vs led ⟨pre, rest, tx, ln, ol, rw, iv, hps, hrem, rfl, hsub⟩
          cases rest with
          | cons a b => cases hrem
          | nil =>
            rw [List.append_nil] at hps
            refine W.sub (Sub.trans (.skip (.refl _)) hsub) ?_
            repeat tb_rel
            refine ⟨rfl, _, _, _, _, iv, rfl, ?_⟩
            rw [← hpar, hps, List.map_map]
            exact .refl _
      · subst e
        refine W.sub hsub ?_
        clear hsub
        generalize hout : (parasL x).map (parOut w ini sub) = outs at hsum ⊢
        have houtl : outs.length ≤ 800 := by rw [← hout, List.length_map]; exact hplen
        have hj : (outs.map (·.length)).sum + outs.length * ([10, 10] : List Nat).length ≤ 10000000 := by simp only [List.length_cons, List.length_nil]; omega
        have hres : joinL [10, 10] outs = wrappedL w ini sub x := by rw [← hout]; rfl
        dsimp only [V2, L2, Wr, List.cons_append, List.nil_append]
        repeat tb_rel
        rw [hres]
        exact ⟨(255, .raw (tabObj #[rawInt ((198 : Nat) : Int), rawInt ((4 : Nat) : Int), .ref c'])) :: (c', codeOb wq) :: R, Sub.trans (b := (255, .raw (tabObj #[rawInt ((198 : Nat) : Int), rawInt ((4 : Nat) : Int), .ref c'])) :: (c', codeOb wq) :: (PL ps ++ R)) ⟨PL ps, List.Perm.cons _ (List.Perm.cons _ List.perm_append_comm)⟩ (by kspl_open m_sub), h _ c'⟩
end
end Mine
end
section
open PySem PySem.W PySem.Calls PyProof.Rows
set_option maxRecDepth 100000
set_option maxHeartbeats 1000000
set_option autoImplicit false
set_option linter.unusedVariables false
set_option linter.unusedSimpArgs false
namespace Mine
theorem Take.refl : ∀ {P r : Led}, Take P (P ++ r) r
  | [], r => .nil
  | x :: P, r => .cons (List.Perm.refl _) Take.refl
theorem Take.of_perm {P l r : Led} (hP : P ≠ []) (h : l.Perm (P ++ r)) : Take P l r := by
  cases P with
  | nil => exact absurd rfl hP
  | cons x P => exact .cons h Take.refl
theorem TabL_ne {P : Addr} {q : Str} {pos : Pos} {st : Option Addr} : TabL P q pos st ≠ [] := by cases st <;> simp [TabL]
section
variable {D : Wd} {A : Around} {t : Tok} {Q : Value → Led → Prop} {R : Led} {x dx b : Addr} {st w at_ : Int} {buf : List T} {ini sub y : T} {ts : Option Addr}
theorem wtf_spec {t1 t2 t3 t4 : Tok} (room : Room A 30) (hy : Ln y) (hfm : Firm y) (hz : y.length ≤ 700) (hw : 0 < w ∧ w ≤ 10000) (hi : Ln ini) (hs : Ln sub) (hf : ini.length ≤ 300) (hr : sub.length ≤ 300)
    (h : ∀ t, Q (.str (S (joinL [10] (laidL w ini sub y))) t) R) : Cl D A (.ref 260) [.str (S y) t1, .int w t2] [("initial_indent", .str (S ini) t3), ("subsequent_indent", .str (S sub) t4)] Q R := by
  refine Cl.defC (n := 29) (ls := ["text", "width", "initial_indent", "subsequent_indent", "preserve_paragraphs", "wrapper", "_flush_par", "line", "orig_len", "rv", "raw"]) (gs := ["TextWrapper", "term_len"]) (cn := ["p", "buf", "indent"])
    (binds := [("text", .str (S y) t1), ("width", .int w t2), ("initial_indent", .str (S ini) t3), ("subsequent_indent", .str (S sub) t4), ("preserve_paragraphs", .bool false)]) (by rfl) (by kernel_rfl) room (by rfl) (by kernel_rfl) (fun S => by kernel_rfl) (by kernel_rfl)
    (vs := [("text", some (.str y)), ("width", some (.int w)), ("initial_indent", some (.str ini)), ("subsequent_indent", some (.str sub)), ("preserve_paragraphs", some (.bool false)), ("wrapper", none), ("_flush_par", none), ("line", none), ("orig_len", none), ("rv", none), ("raw", none)]) (by rfl) fun env L A' ca F hcode hqual hcv rm => ?_
  have htab : 9 ∉ y := hy.tx.tab
  refine W.sub (led' := R) ⟨[(ca "p", cellOb none), (ca "buf", cellOb none), (ca "indent", cellOb none)], List.perm_append_comm⟩ ?_
  repeat tb_rel
  refine W.expandtabs0 htab fun t => ?_
  repeat tb_rel
  refine W.mkWr (n := 24) rm fun wr dwr => ?_
  dsimp only [Wr, List.cons_append, List.nil_append]
  repeat tb_rel
  tb_start
  repeat tb_rel
  refine W.use (P := Wr wr dwr w ini sub) (by dsimp only [Wr, List.cons_append, List.nil_append]; kspl_open m_take) (fill_spec (rm.less (by decide)) hy hfm (by omega) hw hi hs (by omega) (by omega) fun t => Back.intro (P := Wr wr dwr w ini sub) ?_)
  dsimp only [Wr, List.cons_append, List.nil_append]
  repeat tb_rel
  exact ⟨R, .skip (.skip (.refl _)), h _⟩
theorem wt_a {t1 t2 t3 t4 : Tok} (room : Room A 30) (hx : Tx y) (hz : y.length ≤ 700) (hw : 0 < w ∧ w ≤ 10000) (hi : Ln ini) (hs : Ln sub) (hf : ini.length ≤ 300) (hr : sub.length ≤ 300) (hgood : ∀ l ∈ linesL y, GoodLine l)
    (h : ∀ t (c' : Addr), Q (.str (S (wrappedL w ini sub y)) t) (TabL 255 wq wpos (some c') ++ R)) : Cl D A (.ref 260) [.str (S y) t1, .int w t2] [("initial_indent", .str (S ini) t3), ("subsequent_indent", .str (S sub) t4), ("preserve_paragraphs", .bool true)] Q (TabL 255 wq wpos ts ++ R) :=
  wt_spec (st := ts) (x := y) (t1 := t1) (t2 := t2) (t3 := t3) (t4 := t4) (fun fd hfd Z => by obtain rfl := Option.some.inj (show some _ = some fd from hfd); kernel_rfl) room hx hz hw hi hs hf hr hgood h
/-- texts that may be laid -/
structure TextFit (y : T) : Prop where
  tx : Tx y
  len : y.length ≤ 700
  good : ∀ l ∈ linesL y, GoodLine l
theorem text_w_spec {n : Nat} (room : Room A 34) (ha : at_ = (n : Int)) (hn : n ≤ 250) (hw : 0 < w ∧ w ≤ 10000) (hy : TextFit y) (hz : buf.length ≤ 50000)
    (h : ∀ c', Q .none (Pg x dx b st w at_ (buf ++ [wrappedL w (List.replicate n 32) (List.replicate n 32) y] ++ [[10]]) ++ (TabL 255 wq wpos (some c') ++ R))) : Cl D A (.ref 325) [.ref x, .str (S y) t] [] Q (Pg x dx b st w at_ buf ++ (TabL 255 wq wpos ts ++ R)) := by
  subst ha
  refine Cl.def_ (n := 33) (ls := ["self", "text", "indent"]) (gs := ["wrap_text"]) (binds := [("self", .ref x), ("text", .str (S y) t)]) (by rfl) (by kernel_rfl) room (by rfl) (by kernel_rfl) (fun S => by kernel_rfl) (by kernel_rfl)
    (vs := [("self", some (.ref x)), ("text", some (.str y)), ("indent", none)]) (by rfl) fun env L A' F rm => ?_
  have hbl : (List.replicate n 32).length = n := List.length_replicate
  dsimp only [Pg, List.cons_append, List.nil_append]
  repeat tb_rel
  rw [Int.toNat_natCast]
  refine W.use (P := TabL 255 wq wpos ts) (Take.of_perm TabL_ne (List.perm_append_comm_assoc [_, _, _] (TabL 255 wq wpos ts) R)) (wt_a (ts := ts) (y := y) (w := w) (ini := List.replicate n 32) (sub := List.replicate n 32) (rm.less (by decide)) hy.tx hy.len hw Ln.blanks Ln.blanks (by omega) (by omega) hy.good fun t c' => Back.intro (P := TabL 255 wq wpos (some c')) ?_)
  refine W.sub (led' := Pg x dx b st w n buf ++ (TabL 255 wq wpos (some c') ++ R)) (Sub.perm (List.perm_append_comm_assoc (TabL 255 wq wpos (some c')) [_, _, _] R)) ?_
  dsimp only [Pg, List.cons_append, List.nil_append]
  repeat tb_rel
  refine W.use (P := Pg x dx b st w n buf) (by dsimp only [Pg]; kspl_open m_take) (write_spec (rm.less (by decide)) (by omega) (Back.intro ?_))
  dsimp only [Pg, List.cons_append, List.nil_append]
  repeat tb_rel
  refine W.use (P := Pg x dx b st w n (buf ++ [wrappedL w (List.replicate n 32) (List.replicate n 32) y])) (by dsimp only [Pg]; kspl_open m_take) (write_spec (rm.less (by decide)) (by simp; omega) (Back.intro ?_))
  repeat tb_rel
  exact ⟨_, .refl _, h c'⟩
/-- a usage line -/
def usageL (at_ w : Int) (name words prefix_ : T) : List T :=
  let head := List.replicate (at_.toNat - prefix_.length) 32 ++ prefix_ ++ name ++ [32]
  if words = [] then [stripL (fun c => [32].contains c) false true head, [10]]
  else if (head.length : Int) + 20 ≤ w - at_ then [joinL [10] (laidL (w - at_) head (List.replicate head.length 32) words), [10]]
  else [head, [10], joinL [10] (laidL (w - at_) (List.replicate (max at_.toNat prefix_.length + 4) 32) (List.replicate (max at_.toNat prefix_.length + 4) 32) words), [10]]
theorem usage_spec {n : Nat} {nm wd pf : T} {t1 t2 t3 : Tok} (room : Room A 34) (ha : at_ = (n : Int)) (hn : n ≤ 100) (hw : 0 < w - at_ ∧ w ≤ 10000) (hnm : Ln nm) (hnl : nm.length ≤ 100) (hpf : Ln pf) (hpl : pf.length ≤ 20) (hwd : Ln wd) (hwf : Firm wd) (hwl : wd.length ≤ 700) (hz : buf.length ≤ 50000)
    (h : Q .none (Pg x dx b st w at_ (buf ++ usageL at_ w nm wd pf) ++ R)) : Cl D A (.ref 304) [.ref x, .str (S nm) t1, .str (S wd) t2, .str (S pf) t3] [] Q (Pg x dx b st w at_ buf ++ R) := by
  subst ha
  refine Cl.def_ (n := 33) (ls := ["self", "prog", "args", "prefix", "usage_prefix", "text_width", "indent"]) (gs := ["wrap_text", "term_len", "max"]) (binds := [("self", .ref x), ("prog", .str (S nm) t1), ("args", .str (S wd) t2), ("prefix", .str (S pf) t3)]) (by rfl) (by kernel_rfl) room (by rfl) (by kernel_rfl) (fun S => by kernel_rfl) (by kernel_rfl)
    (vs := [("self", some (.ref x)), ("prog", some (.str nm)), ("args", some (.str wd)), ("prefix", some (.str pf)), ("usage_prefix", none), ("text_width", none), ("indent", none)]) (by rfl) fun env L A' F rm => ?_
  have hd := digs_len (n := n) (by omega)
  dsimp only [Pg, List.cons_append, List.nil_append]
  repeat tb_rel
  tb_start
  repeat tb_rel
  simp only [List.nil_append]
  have hhd : Ln (List.replicate (n - pf.length) 32 ++ pf ++ nm ++ [32]) := ((Ln.blanks.app hpf).app hnm).app (Ln.blanks (n := 1))
  have hhl : (List.replicate (n - pf.length) 32 ++ pf ++ nm ++ [32]).length ≤ 230 := by simp; omega
  unfold usageL at h
  rw [Int.toNat_natCast] at h
  generalize List.replicate (n - pf.length) 32 ++ pf ++ nm ++ [32] = head at *
  have hel := hhd.tx.esc
  have hhl2 : (stripL (fun c => [32].contains c) false true head).length ≤ 10000000 := by have := rstrip_len head; show (rstrip head).length ≤ _; omega
  dsimp only at h
  by_cases hwe : wd = []
  · subst hwe
    rw [if_pos rfl] at h
    refine way_t (by rfl) ?_
    repeat tb_rel
    refine W.use (P := Pg x dx b st w n buf) (by dsimp only [Pg]; kspl_open m_take) (write_spec (rm.less (by decide)) (by omega) (Back.intro ?_))
    dsimp only [Pg, List.cons_append, List.nil_append]
    repeat tb_rel
    refine W.use (P := Pg x dx b st w n (buf ++ [stripL (fun c => [32].contains c) false true head])) (by dsimp only [Pg]; kspl_open m_take) (write_spec (rm.less (by decide)) (by simp; omega) (Back.intro ?_))
    dsimp only [Pg, List.cons_append, List.nil_append]
    repeat tb_rel
    rw [List.append_assoc]
    exact ⟨_, .refl _, h⟩
  · rw [if_neg hwe] at h
    refine way_f (by cases wd with | nil => exact absurd rfl hwe | cons a c => rfl) ?_
    repeat tb_rel
    refine W.use .nil (term_len_spec (rm.less (by decide)) hel (by omega) fun t => Back.intro (P := []) ?_)
    dsimp only [List.nil_append]
    repeat tb_rel
    tb_start
    · rename_i hC
      rw [if_pos hC] at h
      repeat tb_rel
      refine W.use .nil (term_len_spec (rm.less (by decide)) hel (by omega) fun t => Back.intro (P := []) ?_)
      dsimp only [List.nil_append]
      repeat tb_rel
      rw [Int.toNat_natCast]
      refine W.use .nil (wtf_spec (w := w - (n : Int)) (ini := head) (sub := List.replicate head.length 32) (rm.less (by decide)) hwd hwf hwl (by omega) hhd Ln.blanks (by omega) (by rw [List.length_replicate]; omega) fun t => Back.intro (P := []) ?_)
      dsimp only [List.nil_append]
      generalize joinL [10] (laidL (w - (n : Int)) head (List.replicate head.length 32) wd) = out at *
      repeat tb_rel
      refine W.use (P := Pg x dx b st w n buf) (by dsimp only [Pg]; kspl_open m_take) (write_spec (rm.less (by decide)) (by omega) (Back.intro ?_))
      dsimp only [Pg, List.cons_append, List.nil_append]
      repeat tb_rel
      refine W.use (P := Pg x dx b st w n (buf ++ [out])) (by dsimp only [Pg]; kspl_open m_take) (write_spec (rm.less (by decide)) (by simp; omega) (Back.intro ?_))
      repeat tb_rel
      rw [List.append_assoc]
      exact ⟨_, .refl _, h⟩
    · rename_i hC
      rw [if_neg hC] at h
      repeat tb_rel
      refine W.use (P := Pg x dx b st w n buf) (by dsimp only [Pg]; kspl_open m_take) (write_spec (rm.less (by decide)) (by omega) (Back.intro ?_))
      dsimp only [Pg, List.cons_append, List.nil_append]
      repeat tb_rel
      refine W.use (P := Pg x dx b st w n (buf ++ [head])) (by dsimp only [Pg]; kspl_open m_take) (write_spec (rm.less (by decide)) (by simp; omega) (Back.intro ?_))
      dsimp only [Pg, List.cons_append, List.nil_append]
      repeat tb_rel
      refine W.use .nil (term_len_spec (rm.less (by decide)) hpf.tx.esc (by omega) fun t => Back.intro (P := []) ?_)
      dsimp only [List.nil_append]
      repeat tb_rel
      rw [show (max (n : Int) (pf.length : Int) + 4).toNat = max n pf.length + 4 by omega]
      refine W.use .nil (wtf_spec (w := w - (n : Int)) (ini := List.replicate (max n pf.length + 4) 32) (sub := List.replicate (max n pf.length + 4) 32) (rm.less (by decide)) hwd hwf hwl (by omega) Ln.blanks Ln.blanks (by rw [List.length_replicate]; omega) (by rw [List.length_replicate]; omega) fun t => Back.intro (P := []) ?_)
      dsimp only [List.nil_append]
      generalize joinL [10] (laidL (w - (n : Int)) (List.replicate (max n pf.length + 4) 32) (List.replicate (max n pf.length + 4) 32) wd) = out at *
      repeat tb_rel
      refine W.use (P := Pg x dx b st w n (buf ++ [head] ++ [[10]])) (by dsimp only [Pg]; kspl_open m_take) (write_spec (rm.less (by decide)) (by simp; omega) (Back.intro ?_))
      dsimp only [Pg, List.cons_append, List.nil_append]
      repeat tb_rel
      refine W.use (P := Pg x dx b st w n (buf ++ [head] ++ [[10]] ++ [out])) (by dsimp only [Pg]; kspl_open m_take) (write_spec (rm.less (by decide)) (by simp; omega) (Back.intro ?_))
      repeat tb_rel
      simp only [List.append_assoc, List.cons_append, List.nil_append]
      exact ⟨_, .refl _, h⟩
end
end Mine
end
section
set_option autoImplicit false
set_option linter.unusedVariables false
set_option linter.unusedSimpArgs false
namespace Mine
theorem step_sum {w : Int} {f r : T} {lines parts : List T} {M : Nat} (hf : f.length ≤ M) (hr : r.length ≤ M) :
    ((stepL w f r lines parts).1.map (·.length)).sum + mu (stepL w f r lines parts).2 + lines.length * M ≤ (lines.map (·.length)).sum + mu parts + (stepL w f r lines parts).1.length * M := by
  unfold stepL
  dsimp only
  have a1 : (markOf f r lines).length ≤ M := by unfold markOf; split <;> assumption
  generalize w - ((markOf f r lines).length : Int) = room
  have a2 := rstrip_len (cutL room (fill room [] (dropB lines parts)).1 (fill room [] (dropB lines parts)).2).1
  have a3 := cutL_len room (fill room [] (dropB lines parts)).1 (fill room [] (dropB lines parts)).2
  have a4 := fill_len room (dropB lines parts) []
  have a5 : mu (dropB lines parts) ≤ mu parts := dropB_mu
  simp only [List.length_nil] at a4
  split
  · simp only [List.map_append, List.map_cons, List.map_nil, List.sum_append_nat, List.sum_cons, List.sum_nil, List.length_append, List.length_cons, List.length_nil, Nat.add_mul]
    omega
  · omega
theorem laidN_sum {w : Int} {f r : T} {M : Nat} (hf : f.length ≤ M) (hr : r.length ≤ M) : ∀ (n : Nat) (lines parts : List T),
    ((laidN w f r n lines parts).map (·.length)).sum + lines.length * M ≤ (lines.map (·.length)).sum + mu parts + (laidN w f r n lines parts).length * M
  | 0, lines, parts => by show (lines.map (·.length)).sum + _ ≤ _ + lines.length * M; omega
  | n + 1, lines, [] => by show (lines.map (·.length)).sum + _ ≤ _ + lines.length * M; omega
  | n + 1, lines, p :: q => by
    have ih := laidN_sum (w := w) hf hr n (stepL w f r lines (p :: q)).1 (stepL w f r lines (p :: q)).2
    have h := step_sum (w := w) (lines := lines) (parts := p :: q) hf hr
    show ((laidN w f r n (stepL w f r lines (p :: q)).1 (stepL w f r lines (p :: q)).2).map (·.length)).sum + _ ≤ _ + (laidN w f r n (stepL w f r lines (p :: q)).1 (stepL w f r lines (p :: q)).2).length * M
    omega
theorem laidL_sum {w : Int} {f r x : T} {M : Nat} (hf : f.length ≤ M) (hr : r.length ≤ M) : ((laidL w f r x).map (·.length)).sum ≤ 2 * x.length + (laidL w f r x).length * M := by
  have h := laidN_sum (w := w) hf hr (mu (partsL x)) [] (partsL x)
  have h2 := parts_mu x
  simp at h
  unfold laidL
  omega
theorem parOut_len2 {w : Int} {ini sub : T} {q : Nat × List T} {K : Nat} (h : ParaOk q) (hm : mu q.2 ≤ 800) (hi : Ln ini) (hs : Ln sub) (hf : ini.length ≤ K) (hr : sub.length ≤ K) : (parOut w ini sub q).length ≤ (2 * (K + 50) + 4) * mu q.2 := by
  have hfm := para_firm h
  obtain ⟨ind, rows⟩ := q
  obtain ⟨h1, h2, h3⟩ := h
  cases rows with
  | nil => exact absurd rfl h1
  | cons r rs =>
    obtain ⟨-, p2, p3⟩ := h2 r rs rfl
    dsimp only at h3 hm hfm ⊢
    have hb : (List.replicate ind 32).length = ind := List.length_replicate
    have e : ∀ xs : List T, (List.map (fun x : List Nat => x.length) xs).sum = (List.map (fun x : T => x.length) xs).sum := fun _ => rfl
    unfold parOut
    dsimp only
    split
    · rw [List.tail_cons]
      have e1 := joinL_len [10] (markRows (ini ++ List.replicate ind 32) (sub ++ List.replicate ind 32) rs)
      have key : ((markRows (ini ++ List.replicate ind 32) (sub ++ List.replicate ind 32) rs).map (·.length)).sum ≤ rs.length * (K + 50) + (rs.map (·.length)).sum := by
        cases rs with
        | nil => simp [markRows]
        | cons a b =>
          have : ∀ l : List T, ((l.map fun x => sub ++ List.replicate ind 32 ++ x).map (·.length)).sum ≤ l.length * (K + 50) + (l.map (·.length)).sum := by
            intro l
            induction l with
            | nil => simp
            | cons z zs ih => simp only [List.map_cons, List.sum_cons, List.length_cons, List.length_append, hb, Nat.add_mul] at ih ⊢; omega
          have := this b
          unfold markRows
          simp only [List.map_cons, List.sum_cons, List.length_cons, List.length_append, hb, Nat.add_mul] at this ⊢
          omega
      rw [markRows_len, e] at e1
      have e3 := mu_cons r rs
      have e4 : (rs.map (·.length)).sum + rs.length = mu rs := rfl
      simp only [List.length_cons, List.length_nil] at e1
      have e5 : rs.length * (K + 50) ≤ mu (r :: rs) * (K + 50) := Nat.mul_le_mul_right _ (by omega)
      have e6 : (2 * (K + 50) + 4) * mu (r :: rs) = mu (r :: rs) * (K + 50) + mu (r :: rs) * (K + 50) + 4 * mu (r :: rs) := by
        rw [Nat.add_mul, Nat.mul_assoc, Nat.mul_comm (K + 50) (mu (r :: rs))]; omega
      omega
    · have e0 := joinL_mu (sep := [32]) rfl (r :: rs)
      have hM1 : (ini ++ List.replicate ind 32).length ≤ K + 50 := by rw [List.length_append, hb]; omega
      have hM2 : (sub ++ List.replicate ind 32).length ≤ K + 50 := by rw [List.length_append, hb]; omega
      obtain ⟨b1, b2, b3⟩ := laidL_facts (w := w) (M := K + 50) hfm.1 hfm.2 (hi.app (Ln.blanks (n := ind))) (hs.app (Ln.blanks (n := ind))) hM1 hM2
      have e1 := joinL_len [10] (laidL w (ini ++ List.replicate ind 32) (sub ++ List.replicate ind 32) (joinL [32] (r :: rs)))
      have e2 := laidL_sum (w := w) (x := joinL [32] (r :: rs)) hM1 hM2
      rw [e] at e1
      simp only [List.length_cons, List.length_nil] at e1
      generalize laidL w (ini ++ List.replicate ind 32) (sub ++ List.replicate ind 32) (joinL [32] (r :: rs)) = LL at *
      generalize mu (r :: rs) = m at *
      have e4 : LL.length * (K + 50) ≤ (2 * m) * (K + 50) := Nat.mul_le_mul_right _ (by omega)
      have e6 : (2 * (K + 50) + 4) * m = (2 * m) * (K + 50) + 4 * m := by rw [Nat.add_mul, Nat.mul_assoc, Nat.mul_comm (K + 50) m, ← Nat.mul_assoc]
      omega
theorem joinL_le {sep : T} : ∀ (xs : List T), (joinL sep xs).length ≤ (xs.map (·.length)).sum + xs.length * sep.length := fun xs => joinL_len sep xs
theorem wrapped_len {w : Int} {ini sub x : T} {K : Nat} (hg : ∀ l ∈ linesL x, GoodLine l) (hx : Tx x) (hz : x.length ≤ 700) (hi : Ln ini) (hs : Ln sub) (hf : ini.length ≤ K) (hr : sub.length ≤ K) : (wrappedL w ini sub x).length ≤ (2 * (K + 50) + 4) * 800 + 1600 := by
  have h := para_ok (linesL x) [] 0 RowsOk.nil (fun q => absurd rfl q) hg
  rw [para_lines] at h
  have h2 := (lines_facts x hx).1
  have h4 := h.2
  rw [mu_nil] at h4
  have h5 : ∀ q ∈ parasL x, ParaOk q ∧ mu q.2 ≤ 800 := fun q hq => para_each hg hx hz hq
  have e1 := joinL_le (sep := [10, 10]) ((parasL x).map (parOut w ini sub))
  unfold wrappedL
  rw [List.length_map] at e1
  simp only [List.length_cons, List.length_nil] at e1
  generalize parasL x = qs at *
  clear h
  have key : ∀ qs : List (Nat × List T), (∀ q ∈ qs, ParaOk q ∧ mu q.2 ≤ 800) → ((qs.map (parOut w ini sub)).map (·.length)).sum ≤ (2 * (K + 50) + 4) * (qs.map fun q => mu q.2).sum ∧ qs.length ≤ (qs.map fun q => mu q.2).sum := by
    intro qs
    induction qs with
    | nil => intro _; simp
    | cons q r ih =>
      intro hq
      have i1 := ih fun z hz => hq z (.tail _ hz)
      have i2 := hq q (.head _)
      have i3 := parOut_len2 (w := w) (K := K) i2.1 i2.2 hi hs hf hr
      have i4 : 1 ≤ mu q.2 := by
        have := length_le_mu q.2
        have := List.length_pos_iff.mpr i2.1.ne
        omega
      generalize 2 * (K + 50) + 4 = c at *
      simp only [List.map_cons, List.sum_cons, List.length_cons, Nat.mul_add]
      omega
  have k := key qs h5
  have : (2 * (K + 50) + 4) * (qs.map fun q => mu q.2).sum ≤ (2 * (K + 50) + 4) * 800 := Nat.mul_le_mul_left _ (by omega)
  omega
/-- lines by split against lines by splitlines -/
theorem lines_split (x : T) : (linesL x = splitL 10 x ∧ (splitL 10 x).getLast? ≠ some []) ∨ linesL x ++ [[]] = splitL 10 x := by
  obtain ⟨p, q, h1, h2⟩ := split_acc x []
  rw [h1]
  rcases h2 with ⟨h2, h3, h4⟩ | h2
  · left
    refine ⟨h2, ?_⟩
    cases q with
    | nil => simpa using h4 rfl
    | cons a b => rw [List.getLast?_cons_cons]; exact h3 (by simp)
  · right; exact h2
end Mine
end
section
set_option autoImplicit false
set_option linter.unusedVariables false
set_option linter.unusedSimpArgs false
namespace Mine
theorem ln_count {x : T} (h : Ln x) : x.count 10 = 0 := List.count_eq_zero.mpr fun m => by have := h _ m; unfold lnc at this; omega
theorem join_count {sep : T} : ∀ (xs : List T), (joinL sep xs).count 10 ≤ (xs.map (·.count 10)).sum + xs.length * sep.count 10
  | [] => by simp [joinL]
  | [x] => by simp [joinL]
  | x :: y :: r => by
    have := join_count (sep := sep) (y :: r)
    show (x ++ sep ++ joinL sep (y :: r)).count 10 ≤ _
    simp only [List.count_append, List.map_cons, List.sum_cons, List.length_cons, Nat.succ_mul] at this ⊢
    omega
theorem zero_sum : ∀ {l : List Nat}, (∀ a ∈ l, a = 0) → l.sum = 0
  | [], _ => rfl
  | a :: r, h => by rw [List.sum_cons, h a (.head _), zero_sum fun b hb => h b (.tail _ hb)]
theorem markRows_ln {ini sub : T} {rs : List T} (hi : Ln ini) (hs : Ln sub) (h : ∀ r ∈ rs, Ln r) : PLn (markRows ini sub rs) := by
  cases rs with
  | nil => intro p hp; cases hp
  | cons a b =>
    intro p hp
    rcases List.mem_cons.mp hp with rfl | hp
    · exact hi.app (h a (.head _))
    · obtain ⟨z, hz, rfl⟩ := List.mem_map.mp hp
      exact hs.app (h z (.tail _ hz))
theorem parOut_facts {w : Int} {ini sub : T} {q : Nat × List T} (h : ParaOk q) (hm : mu q.2 ≤ 800) (hi : Ln ini) (hs : Ln sub) : Tx (parOut w ini sub q) ∧ (parOut w ini sub q).count 10 ≤ 2 * mu q.2 := by
  have hfm := para_firm h
  have ht := para_tail h hm
  have e0 := joinL_mu (sep := [32]) rfl q.2
  have a4 : q.2.tail.length ≤ mu q.2 := by have := length_le_mu q.2; rw [List.length_tail]; omega
  have tx10 : ∀ c ∈ ([10] : T), okc c := by intro c hc; simp at hc; subst hc; unfold okc; omega
  have hb : Ln (List.replicate q.1 32) := Ln.blanks
  unfold parOut
  split
  · have hp := markRows_ln (hi.app hb) (hs.app hb) fun r hr => (ht.1 r hr).2.1
    refine ⟨joinL_all (P := okc) tx10 fun r hr => (hp r hr).tx, ?_⟩
    have e1 := join_count (sep := [10]) (markRows (ini ++ List.replicate q.1 32) (sub ++ List.replicate q.1 32) q.2.tail)
    rw [zero_sum (fun a ha => by obtain ⟨z, hz, rfl⟩ := List.mem_map.mp ha; exact ln_count (hp z hz)), markRows_len] at e1
    simp at e1
    rw [List.length_tail] at a4
    omega
  · obtain ⟨b1, b2, -⟩ := laidL_facts (w := w) (M := (ini ++ List.replicate q.1 32).length + (sub ++ List.replicate q.1 32).length) hfm.1 hfm.2 (hi.app hb) (hs.app hb) (by omega) (by omega)
    refine ⟨joinL_all (P := okc) tx10 fun r hr => (b1 r hr).tx, ?_⟩
    have e1 := join_count (sep := [10]) (laidL w (ini ++ List.replicate q.1 32) (sub ++ List.replicate q.1 32) (joinL [32] q.2))
    rw [zero_sum (fun a ha => by obtain ⟨z, hz, rfl⟩ := List.mem_map.mp ha; exact ln_count (b1 z hz))] at e1
    simp at e1
    omega
theorem wrapped_facts {w : Int} {ini sub x : T} (hg : ∀ l ∈ linesL x, GoodLine l) (hx : Tx x) (hz : x.length ≤ 700) (hi : Ln ini) (hs : Ln sub) : Tx (wrappedL w ini sub x) ∧ (wrappedL w ini sub x).count 10 ≤ 3200 := by
  have h := para_ok (linesL x) [] 0 RowsOk.nil (fun q => absurd rfl q) hg
  rw [para_lines] at h
  have h2 := (lines_facts x hx).1
  have h4 := h.2
  rw [mu_nil] at h4
  have h5 : ∀ q ∈ parasL x, ParaOk q ∧ mu q.2 ≤ 800 := fun q hq => para_each hg hx hz hq
  have e1 := join_count (sep := [10, 10]) ((parasL x).map (parOut w ini sub))
  unfold wrappedL
  rw [List.length_map] at e1
  generalize parasL x = qs at *
  clear h
  refine ⟨joinL_all (P := okc) (by intro c hc; simp at hc; subst hc; unfold okc; omega) fun r hr => ?_, ?_⟩
  · obtain ⟨q, hq, rfl⟩ := List.mem_map.mp hr
    exact (parOut_facts (h5 q hq).1 (h5 q hq).2 hi hs).1
  · have key : ∀ qs : List (Nat × List T), (∀ q ∈ qs, ParaOk q ∧ mu q.2 ≤ 800) → ((qs.map (parOut w ini sub)).map (·.count 10)).sum ≤ 2 * (qs.map fun q => mu q.2).sum ∧ qs.length ≤ (qs.map fun q => mu q.2).sum := by
      intro qs
      induction qs with
      | nil => intro _; simp
      | cons q r ih =>
        intro hq
        have i1 := ih fun z hz => hq z (.tail _ hz)
        have i2 := hq q (.head _)
        have i3 := (parOut_facts (w := w) i2.1 i2.2 hi hs).2
        have i4 : 1 ≤ mu q.2 := by
          have := length_le_mu q.2
          have := List.length_pos_iff.mpr i2.1.ne
          omega
        simp only [List.map_cons, List.sum_cons, List.length_cons]
        omega
    have k := key qs h5
    simp only [List.count_cons, List.count_nil, beq_self_eq_true, if_true] at e1
    have e : ∀ xs : List T, (List.map (fun x : List Nat => List.count 10 x) xs).sum = (List.map (fun x : T => List.count 10 x) xs).sum := fun _ => rfl
    omega
theorem splitL_count : ∀ x : T, (splitL 10 x).length = x.count 10 + 1
  | [] => rfl
  | d :: r => by
    have ih := splitL_count r
    unfold splitL
    by_cases h : d = 10
    · rw [if_pos h, List.length_cons, ih, h, List.count_cons_self]
    · rw [if_neg h, List.count_cons_of_ne h]
      have hne := splitL_ne 10 r
      cases q : splitL 10 r with
      | nil => exact absurd q hne
      | cons a b => rw [q] at ih; exact ih
/-- a row of a list: the pieces written -/
def dlRow (n : Nat) (w col sp : Int) (term means : T) : List T :=
  [List.replicate n 32 ++ term] ++ (if means = [] then [[10]] else
    (if (term.length : Int) ≤ col - sp then [List.replicate (col - (term.length : Int)).toNat 32] else [[10], List.replicate (col + (n : Int)).toNat 32]) ++
    (match linesL (wrappedL (max (w - col - 2) 10) [] [] means) with
      | [] => [[10]]
      | l :: ls => (l ++ [10]) :: ls.map fun z => List.replicate (col + (n : Int)).toNat 32 ++ z ++ [10]))
def colOf (rs : List (T × T)) (most sp : Int) : Int := min (maxI (rs.map fun p => (p.1.length : Int))) most + sp
end Mine
end
section
open PySem PySem.W PySem.Calls PyProof.Rows
set_option maxRecDepth 100000
set_option maxHeartbeats 1000000
set_option autoImplicit false
set_option linter.unusedVariables false
set_option linter.unusedSimpArgs false
namespace Mine
/-- paragraphs as the law keeps them -/
def PQ : List (Addr × Addr × (Nat × List T)) → Led
  | [] => []
  | p :: r => (p.1, .tup [.int p.2.2.1, .bool (isRaw p.2.2.2), .ref p.2.1]) :: (p.2.1, LS p.2.2.2) :: PQ r
theorem splitL_mu (c : Nat) : ∀ x : T, mu (splitL c x) = x.length + 1
  | [] => rfl
  | d :: r => by
    have ih := splitL_mu c r
    unfold splitL
    split
    · rw [mu_cons, ih]; simp; omega
    · have hne := splitL_ne c r
      cases h : splitL c r with
      | nil => exact absurd h hne
      | cons p q =>
        rw [h, mu_cons] at ih
        dsimp only
        rw [mu_cons]
        simp
        omega
theorem isRaw_cons (r : T) (rs : List T) : isRaw (r :: rs) = decide (r = [8]) := by
  unfold isRaw
  by_cases h : r = [8]
  · subst h; rfl
  · rw [decide_eq_false h]; exact decide_eq_false (fun q => h (by simpa using q))
section
variable {D : Wd} {A : Around} {t : Tok} {Q : Value → Led → Prop} {R : Led} {x : T}
theorem paras_spec (room : Room A 3) (hz : x.length ≤ 700)
    (h : ∀ fa (ps : List (Addr × Addr × (Nat × List T))), ps.reverse.map (·.2.2) = parasL x → Q (.ref fa) ((fa, .list (ps.reverse.map fun p => .ref p.1)) :: (PQ ps ++ R))) : Cl D A (.ref 396) [.str (S x) t] [] Q R := by
  refine Cl.def_ (n := 2) (ls := ["text", "found", "rows", "indent", "line"]) (gs := ["len"]) (binds := [("text", .str (S x) t)]) (by rfl) (by kernel_rfl) room (by rfl) (by kernel_rfl) (fun S => by kernel_rfl) (by kernel_rfl)
    (vs := [("text", some (.str x)), ("found", none), ("rows", none), ("indent", none), ("line", none)]) (by rfl) fun env L A' F rm => ?_
  have hmu := splitL_mu 10 x
  have hlm := length_le_mu (splitL 10 x)
  repeat tb_rel
  rename_i fa ra0 _ _ _
  refine W.cutN (fun vs led => ∃ (ps : List (Addr × Addr × (Nat × List T))) (v1 v2 v3 : Option AV), ps.reverse.map (·.2.2) = parasL x ∧ vs = ([("text", some (.str x)), ("found", some (.ref fa)), ("rows", v1), ("indent", v2), ("line", v3)] : Vars) ∧ Sub ((fa, .list (ps.reverse.map fun p => .ref p.1)) :: (PQ ps ++ R)) led) ?_ fun vs led ⟨ps, v1, v2, v3, hps, e, hs⟩ => ?_
  · refine W.For_list rm (fun _ => rfl) ?_
    repeat tb_rel
    refine W.split1 (by omega) fun la => ?_
    repeat tb_rel
    rename_i lb _ lc
    refine ⟨lc, (splitL 10 x ++ [[]]).map .str, fun rem vs led => ∃ (rem' : List T) (ps : List (Addr × Addr × (Nat × List T))) (rows : List T) (ra : Addr) (ind : Nat) (ln : Option AV), rem = rem'.map .str ∧ ps.reverse.map (·.2.2) ++ paraGo rows ind rem' = parasL x ∧ (rem' ≠ [] → rem'.getLast? = some []) ∧ (rem' = [] → rows = []) ∧ mu rows + mu rem' ≤ 800 ∧ ps.length + mu rem' ≤ 800 ∧
      vs = ([("text", some (.str x)), ("found", some (.ref fa)), ("rows", some (.ref ra)), ("indent", some (.int (ind : Nat))), ("line", ln)] : Vars) ∧ Sub ((lc, LS (splitL 10 x ++ [[]])) :: (fa, .list (ps.reverse.map fun p => .ref p.1)) :: (ra, LS rows) :: (PQ ps ++ R)) led, rfl, ?_, ?_, ?_, ?_⟩
    · rintro r vs led ⟨rem', ps, rows, ra, ind, ln, -, -, -, -, -, -, -, hs⟩
      exact hs.mem (.head _)
    · refine ⟨splitL 10 x ++ [[]], [], [], ra0, 0, none, rfl, ?_, fun _ => by simp, fun h => by simp at h, ?_, ?_, rfl, ?_⟩
      · rw [para_end]; rfl
      · rw [mu_snoc, hmu]; simp [mu]; omega
      · rw [mu_snoc, hmu]; simp; omega
      · simp only [LS, List.map_append, List.map_cons, List.map_nil, List.reverse_nil, PQ, List.nil_append]
        kspl_open m_sub
    · rintro z r vs led it ob v hv ⟨rem', ps, rows, ra, ind, ln, hrem, hp, hg, hn, hm1, hm2, rfl, hs⟩
      cases rem' with
      | nil => cases hrem
      | cons l rem2 =>
        rw [List.map_cons] at hrem
        injection hrem with hz1 hz2
        subst hz1 hz2
        obtain ⟨tv, rfl⟩ := hv
        rw [mu_cons] at hm1 hm2
        have hl0 : l.length ≤ 10000000 := by omega
        have hg2 : rem2 ≠ [] → rem2.getLast? = some [] := fun q => by
          have := hg (by simp)
          cases rem2 with
          | nil => exact absurd rfl q
          | cons a b => rwa [List.getLast?_cons_cons] at this
        have hlast : rem2 = [] → l = [] := fun q => by
          have := hg (by simp)
          subst q
          simpa using this
        refine W.sub (.cons hs) ?_
        have hpl : (ps.reverse.map fun p => AV.ref p.1).length ≤ 800 := by simp; omega
        have hrl : rows.length ≤ 800 := by have := length_le_mu rows; omega
        by_cases hle : l = []
        · subst hle
          cases rows with
          | nil =>
            rw [para_nil0] at hp
            dsimp only [LS, List.map]
            repeat tb_rel
            tb_start
            repeat tb_rel
            tb_start
            repeat tb_rel
            exact ⟨(lc, LS (splitL 10 x ++ [[]])) :: (fa, .list (ps.reverse.map fun p => .ref p.1)) :: (ra, LS []) :: (PQ ps ++ R), by kspl_open m_sub, rem2, ps, [], ra, ind, _, rfl, hp, hg2, fun _ => rfl, by omega, by omega, rfl, .refl _⟩
          | cons r0 rs =>
            rw [para_nil1 (by simp)] at hp
            have hr0 : r0.length ≤ 10000000 := by rw [mu_cons] at hm1; omega
            have hrs : rs.length ≤ 800 := by simp at hrl; omega
            dsimp only [LS, List.map]
            repeat tb_rel
            tb_start
            repeat tb_rel
            tb_start
            repeat tb_rel
            rename_i tt rn
            exact ⟨(lc, LS (splitL 10 x ++ [[]])) :: (fa, .list (((tt, ra, (ind, r0 :: rs)) :: ps).reverse.map fun p => .ref p.1)) :: (rn, LS []) :: (PQ ((tt, ra, (ind, r0 :: rs)) :: ps) ++ R), by
              simp only [List.reverse_cons, List.map_append, List.map_cons, List.map_nil]
              dsimp only [PQ, List.cons_append]
              rw [isRaw_cons]
              kspl_open m_sub, rem2, (tt, ra, (ind, r0 :: rs)) :: ps, [], rn, ind, _, rfl, by rw [← hp]; simp, hg2, fun _ => rfl, by simp [mu] at hm1 ⊢; omega, by rw [mu_cons] at hm1; simp at hm2 ⊢; omega, rfl, .refl _⟩
        · have hn2 : rem2 ≠ [] := fun q => hle (hlast q)
          have hll := lstrip_len l
          have hll2 : (stripL (fun c => [32].contains c) true false l).length ≤ 10000000 := by show (lstrip l).length ≤ _; omega
          cases rows with
          | nil =>
            rw [para_first hle] at hp
            dsimp only [LS, List.map]
            repeat tb_rel
            tb_start
            · repeat tb_rel
              tb_start
              repeat tb_rel
              rename_i rn
              exact ⟨(lc, LS (splitL 10 x ++ [[]])) :: (fa, .list (ps.reverse.map fun p => .ref p.1)) :: (rn, LS [lstrip l]) :: (PQ ps ++ R), by unfold lstrip; kspl_open m_sub, rem2, ps, [lstrip l], rn, l.length - (lstrip l).length, _, rfl, hp, hg2, fun q => absurd q hn2, by simp [mu] at hm1 ⊢; omega, by omega, by
                have : ((l.length : Int) - ((lstrip l).length : Int)) = ((l.length - (lstrip l).length : Nat) : Int) := by omega
                rw [← this]; rfl, .refl _⟩
            · rename_i hC; exact absurd hle hC
          | cons r0 rs =>
            rw [para_next hle (by simp)] at hp
            have hrs : rs.length ≤ 800 := by simp at hrl; omega
            dsimp only [LS, List.map]
            repeat tb_rel
            tb_start
            · repeat tb_rel
              tb_start
              repeat tb_rel
              rename_i rn
              exact ⟨(lc, LS (splitL 10 x ++ [[]])) :: (fa, .list (ps.reverse.map fun p => .ref p.1)) :: (rn, LS ((r0 :: rs) ++ [l])) :: (PQ ps ++ R), by kspl_open m_sub, rem2, ps, (r0 :: rs) ++ [l], rn, ind, _, rfl, hp, hg2, fun q => absurd q hn2, by rw [mu_snoc]; omega, by omega, rfl, .refl _⟩
            · rename_i hC; exact absurd hle hC
    · rintro vs led ⟨rem', ps, rows, ra, ind, ln, hrem, hp, hg, hn, hm1, hm2, rfl, hs⟩
      cases rem' with
      | cons a b => cases hrem
      | nil =>
        obtain rfl := hn rfl
        refine W.sub hs ?_
        repeat tb_rel
        exact ⟨rfl, ps, _, _, _, by rw [← hp]; simp [paraGo], rfl, by kspl_open m_sub⟩
  · subst e
    refine W.sub hs ?_
    repeat tb_rel
    exact ⟨_, .refl _, h fa ps hps⟩
end
end Mine
end
section
open PySem PySem.W PySem.Calls PyProof.Rows
set_option maxRecDepth 100000
set_option maxHeartbeats 1000000
set_option autoImplicit false
set_option linter.unusedVariables false
set_option linter.unusedSimpArgs false
namespace Mine
theorem PQ_app : ∀ a b : List (Addr × Addr × (Nat × List T)), PQ (a ++ b) = PQ a ++ PQ b
  | [], b => rfl
  | p :: a, b => by
    have ih := PQ_app a b
    show (_ :: _ :: PQ (a ++ b)) = _
    rw [ih]; rfl
theorem PQ_rev : ∀ ps : List (Addr × Addr × (Nat × List T)), (PQ ps).Perm (PQ ps.reverse)
  | [] => .refl _
  | p :: r => by
    rw [List.reverse_cons, PQ_app]
    exact ((PQ_rev r).append_left [_, _]).trans List.perm_append_comm
section
variable {D : Wd} {A : Around} {t : Tok} {Q : Value → Led → Prop} {R : Led} {x first rest : T} {w : Int}
theorem wrapped_spec {t1 t2 t3 t4 : Tok} (room : Room A 10) (hx : Tx x) (hz : x.length ≤ 700) (hgood : ∀ l ∈ linesL x, GoodLine l) (hw : 0 < w ∧ w ≤ 10000) (hi : Ln first) (hs : Ln rest) (hf : first.length ≤ 300) (hr : rest.length ≤ 300)
    (h : ∀ t, Q (.str (S (wrappedL w first rest x)) t) R) : Cl D A (.ref 401) [.str (S x) t1, .int w t2, .str (S first) t3, .str (S rest) t4] [] Q R := by
  refine Cl.defC (n := 9) (ls := ["text", "width", "found", "indent", "kept"]) (gs := ["_law_paragraphs", "_law_laid", "range", "len"]) (cn := ["first", "rest", "rows", "blanks"]) (binds := [("text", .str (S x) t1), ("width", .int w t2), ("first", .str (S first) t3), ("rest", .str (S rest) t4)]) (by rfl) (by kernel_rfl) room (by rfl) (by kernel_rfl) (fun S => by kernel_rfl) (by kernel_rfl)
    (vs := [("text", some (.str x)), ("width", some (.int w)), ("found", none), ("indent", none), ("kept", none)]) (by rfl) fun env L A' ca F hcode hqual hcv rm => ?_
  obtain ⟨cf1, cf2⟩ := hcv "first" (by decide)
  obtain ⟨cr1, cr2⟩ := hcv "rest" (by decide)
  obtain ⟨co1, co2⟩ := hcv "rows" (by decide)
  obtain ⟨cb1, cb2⟩ := hcv "blanks" (by decide)
  refine W.sub (led' := (ca "first", cellOb (some (.str first))) :: (ca "rest", cellOb (some (.str rest))) :: (ca "rows", cellOb none) :: (ca "blanks", cellOb none) :: R) (.refl _) ?_
  obtain ⟨hsum, hplen⟩ := outs_sum (w := w) hgood hx hz hi hs hf hr
  repeat tb_rel
  rename_i fo
  let V2 : Option AV → Option AV → Vars := fun a b => [("text", some (.str x)), ("width", some (.int w)), ("found", some (.ref fo)), ("indent", a), ("kept", b)]
  let L2 : List T → Option AV → Option AV → Led := fun outs rv bv => (fo, LS outs) :: (ca "first", cellOb (some (.str first))) :: (ca "rest", cellOb (some (.str rest))) :: (ca "rows", cellOb rv) :: (ca "blanks", cellOb bv) :: R
  refine W.cutN (fun vs led => ∃ a b rv bv, vs = V2 a b ∧ Sub (L2 ((parasL x).map (parOut w first rest)) rv bv) led) ?_ fun vs led ⟨a, b, rv, bv, e, hsub⟩ => ?_
  · refine W.For_list rm (fun _ => rfl) ?_
    repeat tb_rel
    refine W.use .nil (paras_spec (rm.less (by decide)) hz fun fa ps hps => Back.intro (P := (fa, .list (ps.reverse.map fun p => .ref p.1)) :: PQ ps) ?_)
    refine ⟨fa, ps.reverse.map fun p => .ref p.1, fun rem vs led => ∃ (pre rst : List (Addr × Addr × (Nat × List T))) (a b rv bv : Option AV), ps.reverse = pre ++ rst ∧ rem = rst.map (fun p => .ref p.1) ∧ vs = V2 a b ∧
      Sub ((fa, .list (ps.reverse.map fun p => .ref p.1)) :: (PQ rst ++ L2 (pre.map fun p => parOut w first rest p.2.2) rv bv)) led, rfl, ?_, ?_, ?_, ?_⟩
    · rintro r vs led ⟨pre, rst, a, b, rv, bv, -, -, -, hs2⟩
      exact hs2.mem (.head _)
    · exact ⟨[], ps.reverse, _, _, _, _, rfl, rfl, rfl, Sub.perm ((PQ_rev ps).append_right _ |>.cons _)⟩
    · rintro z r vs led it ob v hv ⟨pre, rst, a, b, rv, bv, hpr, hrem, rfl, hs2⟩
      cases rst with
      | nil => cases hrem
      | cons q rst2 =>
        rw [List.map_cons] at hrem
        injection hrem with hz1 hz2
        subst hz1 hz2
        cases (show v = .ref q.1 from hv)
        have hqm : q.2.2 ∈ parasL x := by rw [← hps]; exact List.mem_map_of_mem (f := fun (p : Addr × Addr × (Nat × List T)) => p.2.2) (by rw [hpr]; simp)
        obtain ⟨hq1, hq2⟩ := para_each hgood hx hz hqm
        have hprl : pre.length ≤ 801 := by
          have e1 := congrArg List.length hpr
          have e2 := congrArg List.length hps
          simp at e1 e2; omega
        refine W.sub (led' := (it, ob) :: (q.1, .tup [.int q.2.2.1, .bool (isRaw q.2.2.2), .ref q.2.1]) :: (q.2.1, LS q.2.2.2) :: (fa, .list (ps.reverse.map fun p => .ref p.1)) :: (L2 (pre.map fun p => parOut w first rest p.2.2) rv bv ++ PQ rst2)) (.cons (Sub.trans (Sub.perm (by
          refine List.Perm.trans ?_ ((List.Perm.swap _ _ _).trans (List.Perm.cons _ (List.Perm.swap _ _ _)))
          exact List.Perm.cons _ (List.Perm.cons _ (List.Perm.cons _ List.perm_append_comm)))) hs2)) ?_
        obtain ⟨qa, ra, ind, rows⟩ := q
        dsimp only at hq1 hq2 hqm ⊢
        generalize hout : pre.map (fun p => parOut w first rest p.2.2) = outs
        have houtl : outs.length ≤ 801 := by rw [← hout]; simpa using hprl
        have hind := hq1.ind
        dsimp only [V2, L2, List.cons_append]
        repeat tb_rel
        simp only [Int.toNat_natCast]
        obtain ⟨pt1, pt2, pt3, pt4⟩ := para_tail hq1 hq2
        obtain ⟨pf1, pf2⟩ := para_firm hq1
        dsimp only at pt1 pt2 pt3 pt4 pf1 pf2 hq2 hind
        have hbl : (List.replicate ind 32).length = ind := List.length_replicate
        have hbf : (first ++ List.replicate ind 32).length ≤ 400 := by rw [List.length_append, hbl]; omega
        have hbr : (rest ++ List.replicate ind 32).length ≤ 400 := by rw [List.length_append, hbl]; omega
        have hlf : Ln (first ++ List.replicate ind 32) := hi.app Ln.blanks
        have hlr : Ln (rest ++ List.replicate ind 32) := hs.app Ln.blanks
        have hpo1 : isRaw rows = true → parOut w first rest (ind, rows) = joinL [10] (markRows (first ++ List.replicate ind 32) (rest ++ List.replicate ind 32) rows.tail) := fun h => by unfold parOut; rw [if_pos h]
        have hpo2 : isRaw rows = false → parOut w first rest (ind, rows) = joinL [10] (laidL w (first ++ List.replicate ind 32) (rest ++ List.replicate ind 32) (joinL [32] rows)) := fun h => by unfold parOut; rw [if_neg (by rw [h]; exact Bool.false_ne_true)]
        refine ⟨fun hraw => ?_, fun hraw => ?_⟩
        · have hne := hq1.ne
          dsimp only at hne
          have hrl : rows.length ≤ 800 := by have := length_le_mu rows; omega
          have hrp : 0 < rows.length := List.length_pos_iff.mpr hne
          generalize hfb : first ++ List.replicate ind 32 = fb at *
          generalize hrb : rest ++ List.replicate ind 32 = rb at *
          generalize hbb : List.replicate ind 32 = bb at *
          repeat tb_rel
          refine W.ListComp (ls := ["k"]) (gs := []) (fr := ["first", "rest", "blanks", "rows"]) (ca := ca) F (by kernel_rfl) ?_ (fun _ => rfl) ?_
          · intro y hy hf
            simp only [List.mem_cons, List.not_mem_nil, or_false] at hy
            rcases hy with rfl | rfl | rfl | rfl | rfl | rfl
            all_goals first | exact cf1.lk | exact cr1.lk | exact co1.lk | exact cb1.lk | cases hf
          · repeat tb_rel
            rename_i rg
            let LED : Led := (it, ob) :: (qa, .tup [.int ind, .bool (isRaw rows), .ref ra]) :: (ra, LS rows) :: (fa, .list (ps.reverse.map fun p => .ref p.1)) :: (fo, LS outs) :: (ca "first", cellOb (some (.str first))) :: (ca "rest", cellOb (some (.str rest))) :: (ca "rows", cellOb (some (.ref ra))) :: (ca "blanks", cellOb (some (.str bb))) :: (R ++ PQ rst2)
            have hfbl : first.length + bb.length ≤ 400 := by have := congrArg List.length hfb; simp at this; omega
            have hrbl : rest.length + bb.length ≤ 400 := by have := congrArg List.length hrb; simp at this; omega
            refine ⟨_, _, _, fun r o vsC ledC => ∃ (j : Nat) (kv : Option AV), r = (upFrom ((j : Int) + 1) (rows.length - 1 - j)).map .int ∧ j ≤ rows.length - 1 ∧ o = (markRows fb rb (rows.tail.take j)).map .str ∧ vsC = ([("k", kv)] : Vars) ∧ Sub ((L, .ns (V2 (some (.int ind)) (some (.bool (isRaw rows))))) :: LED) ledC, Source.range rm (.head _) ⟨by omega, by omega, by simp only [List.length_map]; omega, by simp only [List.length_map]; omega⟩, ?_, ?_, ?_, ?_⟩
            · rintro r o vsC ledC ⟨j, kv, -, hj, rfl, -, -⟩
              refine ⟨trivial, ?_⟩
              rw [List.length_map, markRows_len, List.length_take]
              omega
            · refine ⟨0, none, ?_, by omega, rfl, rfl, ?_⟩
              · congr 2
                simp only [List.length_map]
                omega
              · dsimp only [LED, V2]
                kspl_open m_sub
            · rintro C cenv acc it2 Fc hcv2 z r o vsC ledC ob2 v hv ⟨j, kv, hr, hj, rfl, rfl, hsub⟩
              have cf3 := hcv2 "first" (by decide)
              have cr3 := hcv2 "rest" (by decide)
              have co3 := hcv2 "rows" (by decide)
              have cb3 := hcv2 "blanks" (by decide)
              have hjm : ∃ m, rows.length - 1 - j = m + 1 := by
                cases h0 : rows.length - 1 - j with
                | zero => rw [h0] at hr; cases hr
                | succ m => exact ⟨m, rfl⟩
              obtain ⟨m, hm⟩ := hjm
              rw [hm] at hr
              have hr2 : AV.int ((j : Int) + 1) = z ∧ (upFrom ((j : Int) + 1 + 1) m).map AV.int = r := by
                have := hr.symm
                rw [upFrom, List.map_cons] at this
                exact List.cons.inj this
              obtain ⟨rfl, rfl⟩ := hr2
              obtain ⟨tk, rfl⟩ := hv
              have hlt : j + 1 < rows.length := by omega
              have hget : (rows.map AV.str)[((j : Int) + 1).toNat]? = some (.str rows[j + 1]) := by
                rw [show ((j : Int) + 1).toNat = j + 1 by omega, List.getElem?_map, List.getElem?_eq_getElem hlt]; rfl
              have htk : rows.tail.take (j + 1) = rows.tail.take j ++ [rows[j + 1]] := by
                rw [List.take_succ_eq_append_getElem (by rw [List.length_tail]; omega)]
                simp
              have hyl : (rows[j + 1]).length ≤ 1000 := (pt1 _ (by
                rw [show rows[j + 1] = rows.tail[j]'(by rw [List.length_tail]; omega) by simp]
                exact List.getElem_mem _)).2.2
              have hsn := markRows_snoc fb rb (rows.tail.take j) rows[j + 1]
              rw [← htk] at hsn
              have hpre : (rows.tail.take j = []) ↔ j = 0 := by
                constructor
                · intro e
                  have := congrArg List.length e
                  rw [List.length_take, List.length_tail] at this
                  simp at this; omega
                · rintro rfl; rfl
              generalize hy : rows[j + 1] = y at *
              generalize hmk : markRows fb rb (rows.tail.take j) = mk at *
              refine W.sub (led' := (it2, ob2) :: (acc, .list (mk.map .str)) :: (L, .ns (V2 (some (.int ind)) (some (.bool (isRaw rows))))) :: LED) (.cons (.cons hsub)) ?_
              dsimp only [LED]
              repeat tb_rel
              tb_start
              repeat tb_rel
              tb_start
              · rename_i hC
                have hj0 : j = 0 := by omega
                rw [if_pos (hpre.mpr hj0)] at hsn
                repeat tb_rel
                refine W.item_list (k := (j : Int) + 1) (x := .str y) (.tail _ (.tail _ (.tail _ (.tail _ (.tail _ (.head _)))))) (by omega) hget (by rw [List.length_map]; omega) (fun v hv => ?_) rfl
                obtain ⟨tv, rfl⟩ := hv
                repeat tb_rel
                exact ⟨.str (first ++ bb ++ y), (L, .ns (V2 (some (.int ind)) (some (.bool (isRaw rows))))) :: LED, ⟨_, rfl⟩, .refl _, j + 1, _, by
                  rw [show rows.length - 1 - (j + 1) = m by omega]; push_cast; rfl, by omega, by rw [hsn, hfb, List.map_append]; rfl, rfl, .refl _⟩
              · rename_i hC
                have hj0 : ¬ j = 0 := by omega
                rw [if_neg (fun e => hj0 (hpre.mp e))] at hsn
                repeat tb_rel
                refine W.item_list (k := (j : Int) + 1) (x := .str y) (.tail _ (.tail _ (.tail _ (.tail _ (.tail _ (.head _)))))) (by omega) hget (by rw [List.length_map]; omega) (fun v hv => ?_) rfl
                obtain ⟨tv, rfl⟩ := hv
                repeat tb_rel
                exact ⟨.str (rest ++ bb ++ y), (L, .ns (V2 (some (.int ind)) (some (.bool (isRaw rows))))) :: LED, ⟨_, rfl⟩, .refl _, j + 1, _, by
                  rw [show rows.length - 1 - (j + 1) = m by omega]; push_cast; rfl, by omega, by rw [hsn, hrb, List.map_append]; rfl, rfl, .refl _⟩
            · rintro o vsC ledC ⟨j, kv, hr, hj, rfl, rfl, hsub⟩
              have hj2 : rows.length - 1 - j = 0 := by
                cases h0 : rows.length - 1 - j with
                | zero => rfl
                | succ m => rw [h0] at hr; cases hr
              have htk : rows.tail.take j = rows.tail := List.take_of_length_le (by rw [List.length_tail]; omega)
              rw [htk]
              refine ⟨_, _, hsub, fun acc => ?_⟩
              have b4 := sum_le (K := 1400) fun l hl => Nat.le_trans (markRows_mem (rs := rows.tail) (n := 1000) (fun r hr => (pt1 r hr).2.2) hbf hbr l hl) (by omega)
              have b5 := markRows_len fb rb rows.tail
              have b6 : ((markRows fb rb rows.tail).map (·.length)).sum + (markRows fb rb rows.tail).length * ([10] : List Nat).length ≤ 10000000 := by
                simp only [List.length_cons, List.length_nil]
                rw [b5, List.length_tail] at b4 ⊢
                omega
              dsimp only [LED]
              repeat tb_rel
              rw [← hpo1 hraw]
              exact ⟨(fa, .list (ps.reverse.map fun p => .ref p.1)) :: (PQ rst2 ++ L2 (outs ++ [parOut w first rest (ind, rows)]) (some (.ref ra)) (some (.str bb))), Sub.trans (b := (it, ob) :: (fa, .list (ps.reverse.map fun p => .ref p.1)) :: (L2 (outs ++ [parOut w first rest (ind, rows)]) (some (.ref ra)) (some (.str bb)) ++ PQ rst2)) (Sub.perm (List.Perm.cons _ (List.Perm.cons _ List.perm_append_comm))) (by dsimp only [L2, List.cons_append]; kspl_open m_sub), pre ++ [(qa, ra, ind, rows)], rst2, _, _, _, _, by rw [hpr]; simp, rfl, rfl, by rw [List.map_append, hout]; exact .refl _⟩
        · have hj1 : (rows.map (·.length)).sum + rows.length * ([32] : List Nat).length ≤ 10000000 := by
            have e1 := sum_mu rows
            have e2 := length_le_mu rows
            simp only [List.length_cons, List.length_nil]; omega
          obtain ⟨b1, b2, b3⟩ := laidL_facts (w := w) (M := 400) pf1 pf2 hlf hlr hbf hbr
          have b4 := sum_le (K := 2400) fun l hl => Nat.le_trans (b3 l hl) (by omega)
          have b5 : ((laidL w (first ++ List.replicate ind 32) (rest ++ List.replicate ind 32) (joinL [32] rows)).map (·.length)).sum + (laidL w (first ++ List.replicate ind 32) (rest ++ List.replicate ind 32) (joinL [32] rows)).length * ([10] : List Nat).length ≤ 10000000 := by
            simp only [List.length_cons, List.length_nil]
            omega
          repeat tb_rel
          refine W.use .nil (laid_spec (rm.less (by decide)) pf1 pt4 pf2 (by omega) hbf hbr fun a => Back.intro (P := [(a, LS _)]) ?_)
          dsimp only [List.cons_append, List.nil_append]
          repeat tb_rel
          rw [← hpo2 hraw]
          exact ⟨(fa, .list (ps.reverse.map fun p => .ref p.1)) :: (PQ rst2 ++ L2 (outs ++ [parOut w first rest (ind, rows)]) (some (.ref ra)) (some (.str (List.replicate ind 32)))), Sub.trans (b := (it, ob) :: (fa, .list (ps.reverse.map fun p => .ref p.1)) :: (L2 (outs ++ [parOut w first rest (ind, rows)]) (some (.ref ra)) (some (.str (List.replicate ind 32))) ++ PQ rst2)) (Sub.perm (List.Perm.cons _ (List.Perm.cons _ List.perm_append_comm))) (by dsimp only [L2, List.cons_append]; kspl_open m_sub), pre ++ [(qa, ra, ind, rows)], rst2, _, _, _, _, by rw [hpr]; simp, rfl, rfl, by rw [List.map_append, hout]; exact .refl _⟩
    · rintro vs led ⟨pre, rst, a, b, rv, bv, hpr, hrem, rfl, hs2⟩
      cases rst with
      | cons a b => cases hrem
      | nil =>
        rw [List.append_nil] at hpr
        refine W.sub (Sub.trans (.skip (.refl _)) hs2) ?_
        repeat tb_rel
        refine ⟨rfl, _, _, rv, bv, rfl, ?_⟩
        rw [← hps, hpr, List.map_map]
        exact .refl _
  · subst e
    refine W.sub hsub ?_
    clear hsub
    generalize hout : (parasL x).map (parOut w first rest) = outs at hsum ⊢
    have houtl : outs.length ≤ 800 := by rw [← hout, List.length_map]; exact hplen
    have hj : (outs.map (·.length)).sum + outs.length * ([10, 10] : List Nat).length ≤ 10000000 := by simp only [List.length_cons, List.length_nil]; omega
    have hres : joinL [10, 10] outs = wrappedL w first rest x := by rw [← hout]; rfl
    dsimp only [V2, L2]
    repeat tb_rel
    rw [hres]
    exact ⟨R, .skip (.skip (.skip (.skip (.skip (.refl _))))), h _⟩
end
end Mine
end
section
open PySem PySem.W PySem.Calls PyProof.Rows
set_option maxRecDepth 100000
set_option maxHeartbeats 1000000
set_option autoImplicit false
set_option linter.unusedVariables false
set_option linter.unusedSimpArgs false
namespace Mine
theorem laid_join {w : Int} {f r y : T} (hy : Ln y) (hyf : Firm y) (hyl : y.length ≤ 700) (hi : Ln f) (hs : Ln r) (hf : f.length ≤ 400) (hr : r.length ≤ 400) :
    ((laidL w f r y).map (·.length)).sum + (laidL w f r y).length * ([10] : List Nat).length ≤ 4000000 := by
  obtain ⟨b1, b2, b3⟩ := laidL_facts (w := w) (M := 400) hy hyf hi hs hf hr
  have b4 := sum_le (K := 1800) fun l hl => Nat.le_trans (b3 l hl) (by omega)
  simp only [List.length_cons, List.length_nil]
  omega
section
variable {D : Wd} {A : Around} {t : Tok} {Q : Value → Led → Prop} {R : Led} {at_ w : Int}
theorem usagelaw_spec {n : Nat} {nm wd pf : T} {t1 t2 t3 t4 t5 : Tok} (room : Room A 10) (ha : at_ = (n : Int)) (hn : n ≤ 100) (hw : 0 < w - at_ ∧ w ≤ 10000) (hnm : Ln nm) (hnl : nm.length ≤ 100) (hpf : Ln pf) (hpl : pf.length ≤ 20) (hwd : Ln wd) (hwf : Firm wd) (hwl : wd.length ≤ 700)
    (h : ∀ t, Q (.str (S (usageL at_ w nm wd pf).flatten) t) R) : Cl D A (.ref 429) [.int at_ t1, .int w t2, .str (S nm) t3, .str (S wd) t4, .str (S pf) t5] [] Q R := by
  subst ha
  refine Cl.def_ (n := 9) (ls := ["at", "width", "name", "words", "prefix", "head", "blanks"]) (gs := ["max", "len", "_law_laid"]) (binds := [("at", .int n t1), ("width", .int w t2), ("name", .str (S nm) t3), ("words", .str (S wd) t4), ("prefix", .str (S pf) t5)]) (by rfl) (by kernel_rfl) room (by rfl) (by kernel_rfl) (fun S => by kernel_rfl) (by kernel_rfl)
    (vs := [("at", some (.int n)), ("width", some (.int w)), ("name", some (.str nm)), ("words", some (.str wd)), ("prefix", some (.str pf)), ("head", none), ("blanks", none)]) (by rfl) fun env L A' F rm => ?_
  repeat tb_rel
  rw [show (max 0 ((n : Int) - (pf.length : Int))).toNat = n - pf.length by omega]
  have hhd : Ln (List.replicate (n - pf.length) 32 ++ pf ++ nm ++ [32]) := ((Ln.blanks.app hpf).app hnm).app (Ln.blanks (n := 1))
  have hhl : (List.replicate (n - pf.length) 32 ++ pf ++ nm ++ [32]).length ≤ 230 := by simp; omega
  unfold usageL at h
  rw [Int.toNat_natCast] at h
  generalize List.replicate (n - pf.length) 32 ++ pf ++ nm ++ [32] = head at *
  have hhl2 : (stripL (fun c => [32].contains c) false true head).length ≤ 1000 := by have := rstrip_len head; show (rstrip head).length ≤ _; omega
  dsimp only at h
  tb_start
  · rename_i hwe
    subst hwe
    rw [if_pos rfl] at h
    repeat tb_rel
    exact ⟨_, .refl _, by have := fun t => h t; simp only [List.flatten_cons, List.flatten_nil, List.append_nil] at this; exact this _⟩
  · rename_i hwe
    rw [if_neg hwe] at h
    repeat tb_rel
    tb_start
    · rename_i hC
      rw [if_pos hC] at h
      have hlj := laid_join (w := w - (n : Int)) (f := head) (r := List.replicate head.length 32) hwd hwf hwl hhd Ln.blanks (by omega) (by rw [List.length_replicate]; omega)
      have hlj2 : ((laidL (w - (n : Int)) head (List.replicate head.length 32) wd).map (·.length)).sum + (laidL (w - (n : Int)) head (List.replicate head.length 32) wd).length * ([10] : List Nat).length ≤ 10000000 := by omega
      have hlj3 := joinL_len [10] (laidL (w - (n : Int)) head (List.replicate head.length 32) wd)
      have hlj4 : (joinL [10] (laidL (w - (n : Int)) head (List.replicate head.length 32) wd)).length ≤ 5000000 := Nat.le_trans hlj3 (by exact Nat.le_trans hlj (by omega))
      repeat tb_rel
      rw [Int.toNat_natCast]
      refine W.use .nil (laid_spec (width := w - (n : Int)) (first := head) (rest := List.replicate head.length 32) (rm.less (by decide)) hwd (by omega) hwf (by omega) (by omega) (by rw [List.length_replicate]; omega) fun a => Back.intro (P := [(a, LS _)]) ?_)
      dsimp only [List.cons_append, List.nil_append]
      repeat tb_rel
      exact ⟨R, .skip (.refl _), by have := fun t => h t; simp only [List.flatten_cons, List.flatten_nil, List.append_nil] at this; exact this _⟩
    · rename_i hC
      rw [if_neg hC] at h
      have hlj := laid_join (w := w - (n : Int)) (f := List.replicate (max n pf.length + 4) 32) (r := List.replicate (max n pf.length + 4) 32) hwd hwf hwl Ln.blanks Ln.blanks (by rw [List.length_replicate]; omega) (by rw [List.length_replicate]; omega)
      have hlj2 : ((laidL (w - (n : Int)) (List.replicate (max n pf.length + 4) 32) (List.replicate (max n pf.length + 4) 32) wd).map (·.length)).sum + (laidL (w - (n : Int)) (List.replicate (max n pf.length + 4) 32) (List.replicate (max n pf.length + 4) 32) wd).length * ([10] : List Nat).length ≤ 10000000 := by omega
      have hlj3 := joinL_len [10] (laidL (w - (n : Int)) (List.replicate (max n pf.length + 4) 32) (List.replicate (max n pf.length + 4) 32) wd)
      have hlj4 : (joinL [10] (laidL (w - (n : Int)) (List.replicate (max n pf.length + 4) 32) (List.replicate (max n pf.length + 4) 32) wd)).length ≤ 5000000 := Nat.le_trans hlj3 (by exact Nat.le_trans hlj (by omega))
      repeat tb_rel
      rw [show (max (n : Int) (pf.length : Int) + 4).toNat = max n pf.length + 4 by omega]
      refine W.use .nil (laid_spec (width := w - (n : Int)) (first := List.replicate (max n pf.length + 4) 32) (rest := List.replicate (max n pf.length + 4) 32) (rm.less (by decide)) hwd (by omega) hwf (by omega) (by rw [List.length_replicate]; omega) (by rw [List.length_replicate]; omega) fun a => Back.intro (P := [(a, LS _)]) ?_)
      dsimp only [List.cons_append, List.nil_append]
      repeat tb_rel
      exact ⟨R, .skip (.refl _), by have := fun t => h t; simp only [List.flatten_cons, List.flatten_nil, List.append_nil, List.append_assoc, List.cons_append, List.nil_append] at this ⊢; exact this _⟩
end
end Mine
end
section
open PySem PySem.W PySem.Calls PyProof.Rows
set_option maxRecDepth 100000
set_option maxHeartbeats 1000000
set_option autoImplicit false
set_option linter.unusedVariables false
set_option linter.unusedSimpArgs false
namespace Mine
section
variable {D : Wd} {A : Around} {t : Tok} {Q : Value → Led → Prop} {R : Led} {x dx : Addr} {st w : Int}
def pnames : List Str := ["indent_increment", "width", "current_indent", "buffer"]
theorem pinit_spec {t1 t2 : Tok} (room : Room A 3) (h : ∀ b, Q .none (Pg x dx b st w 0 [] ++ R)) :
    Cl D A (.ref 275) [.ref x, .int st t1, .int w t2] [] Q ((x, .inst 357 dx) :: (dx, .dict (pnames.map fun n => (n, none))) :: R) := by
  refine Cl.def_ (n := 2) (ls := ["self", "indent_increment", "width", "max_width"]) (gs := [])
    (binds := [("self", .ref x), ("indent_increment", .int st t1), ("width", .int w t2), ("max_width", .none)]) (by rfl) (by kernel_rfl) room (by rfl) (by kernel_rfl) (fun S => by kernel_rfl) (by kernel_rfl)
    (vs := [("self", some (.ref x)), ("indent_increment", some (.int st)), ("width", some (.int w)), ("max_width", some .none)]) (by rfl) fun env L A' F rm => ?_
  dsimp only [pnames, List.map]
  repeat tb_rel
  tb_start
  repeat tb_rel
  tb_start
  repeat tb_rel
  rename_i b
  exact ⟨_, by kspl_open m_sb, h b⟩
theorem W.mkPg {L : Addr} {vs : Vars} {led : Led} {n : Nat} {t1 t2 : Tok} {Q : Value → Vars → Led → Prop} (room : Room A (n + 5)) (h : ∀ x dx b, Q (.ref x) vs (Pg x dx b st w 0 [] ++ led)) :
    W D A L (PySem.call (.ref 357) [.int st t1, .int w t2]) Q vs led :=
  W.make pnames mk_357 (by decide) fun x dx => pinit_spec (Room.tc (room.less (by omega : 4 ≤ n + 5))) fun b => ⟨rfl, Back.intro (P := Pg x dx b st w 0 []) (h x dx b)⟩
end
end Mine
end
section
open PySem PySem.W PySem.Calls PyProof.Rows
set_option maxRecDepth 100000
set_option maxHeartbeats 1000000
set_option autoImplicit false
set_option linter.unusedVariables false
set_option linter.unusedSimpArgs false
namespace Mine
/-- rows of a list of terms: tuples -/
@[reducible] def RT (rs : List (Addr × T × T)) : Led := rs.map fun p => (p.1, .tup [.str p.2.1, .str p.2.2])
@[reducible] def RA (rs : List (Addr × T × T)) : Ob := .list (rs.map fun p => .ref p.1)
theorem W.lens_term {D : Wd} {A : Around} {L : Addr} {vs : Vars} {R : Led} {env : Env} {n : Nat} {ra : Addr} {rs : List (Addr × T × T)} {ls0 gs0 : List Str} {p1 p2 p3 p4 p5 p6 p7 p8 : Pos} {Q : Value → Vars → Led → Prop} (Fd : Fn env L ls0 gs0) (rm : Room A n) (hrows : ("rows" : Str) ∈ ls0) (hg : Get "rows" (.ref ra) vs) (hlen : rs.length ≤ 1000) (hz : ∀ p ∈ rs, p.2.1.length ≤ 1000000)
    (h : ∀ c, Q (.ref c) vs ((c, LI (rs.map fun p => (p.2.1.length : Int))) :: (ra, RA rs) :: (RT rs ++ R))) :
    W D A L (eval (.ListComp (.Call (.Name "len" p1) [.Name "term" p2] [] p3) [⟨.Tuple [.Name "term" p4, .Name "means" p5] 0 p6, .Name "rows" p7, [], 0⟩] { kind := ScopeKind.function, names := [(".0", NameKind.local), ("term", NameKind.local), ("means", NameKind.local), ("len", NameKind.globalImplicit)], isGenerator := false, isCoroutine := false } p8) env) Q vs ((ra, RA rs) :: (RT rs ++ R)) := by
  refine W.ListComp (ls := ["term", "means"]) (gs := ["len"]) (fr := []) (ca := fun _ => 0) Fd (by kernel_rfl) ?_ (fun _ => rfl) ?_
  · intro y hy hf
    simp only [List.mem_cons, List.not_mem_nil, or_false] at hy
    rcases hy with rfl | rfl | rfl | rfl <;> cases hf
  · refine W.ld Fd hrows hg fun v hv => ?_
    cases (show v = .ref ra from hv)
    refine ⟨_, _, _, fun r o vsC ledC => ∃ (pre rst : List (Addr × T × T)) (a b : Option AV), rs = pre ++ rst ∧ r = rst.map (fun p => .ref p.1) ∧ o = (pre.map fun p => AV.int (p.2.1.length : Int)) ∧ vsC = ([("term", a), ("means", b)] : Vars) ∧ Sub ((L, .ns vs) :: (ra, RA rs) :: (RT rs ++ R)) ledC, Source.list rm (.head _), ?_, ?_, ?_, ?_⟩
    · rintro r o vsC ledC ⟨pre, rst, a, b, hrs, rfl, rfl, rfl, hsub⟩
      refine ⟨hsub.mem (.tail _ (.head _)), ?_⟩
      rw [List.length_map]
      rw [hrs, List.length_append] at hlen
      omega
    · exact ⟨[], rs, _, _, rfl, rfl, rfl, rfl, .refl _⟩
    · rintro C cenv acc it2 Fc hcv2 z r o vsC ledC ob2 v hv ⟨pre, rst, a, b, hrs, hr, rfl, rfl, hsub⟩
      cases rst with
      | nil => cases hr
      | cons q rst2 =>
        rw [List.map_cons] at hr
        injection hr with hz1 hz2
        subst hz1 hz2
        cases (show v = .ref q.1 from hv)
        have hqm : q ∈ rs := by rw [hrs]; simp
        have hmem : (q.1, Ob.tup [.str q.2.1, .str q.2.2]) ∈ RT rs := List.mem_map_of_mem (f := fun (p : Addr × T × T) => (p.1, Ob.tup [.str p.2.1, .str p.2.2])) hqm
        have hq1 : q.2.1.length ≤ 10000000 := by have := hz q hqm; omega
        refine W.sub (.cons (.cons hsub)) ?_
        refine W.assign_two (p := .str q.2.1) (q := .str q.2.2) rm (by repeat (first | exact List.mem_append_left _ hmem | apply List.mem_cons_of_mem)) ?_
        repeat tb_rel
        tb_start
        repeat tb_rel
        exact ⟨.int (q.2.1.length : Int), (L, .ns vs) :: (ra, RA rs) :: (RT rs ++ R), ⟨_, rfl⟩, .refl _, pre ++ [q], rst2, _, _, by rw [hrs]; simp, rfl, by simp, rfl, .refl _⟩
    · rintro o vsC ledC ⟨pre, rst, a, b, hrs, hr, rfl, rfl, hsub⟩
      cases rst with
      | cons a b => cases hr
      | nil =>
        rw [List.append_nil] at hrs
        subst hrs
        refine ⟨vs, _, hsub, fun acc => ?_⟩
        have := h acc
        simp only [LI, List.map_map] at this
        exact this
theorem W.lens_means {D : Wd} {A : Around} {L : Addr} {vs : Vars} {R : Led} {env : Env} {n : Nat} {ra : Addr} {rs : List (Addr × T × T)} {ls0 gs0 : List Str} {p1 p2 p3 p4 p5 p6 p7 p8 : Pos} {Q : Value → Vars → Led → Prop} (Fd : Fn env L ls0 gs0) (rm : Room A n) (hrows : ("rows" : Str) ∈ ls0) (hg : Get "rows" (.ref ra) vs) (hlen : rs.length ≤ 1000) (hz : ∀ p ∈ rs, p.2.2.length ≤ 1000000)
    (h : ∀ c, Q (.ref c) vs ((c, LI (rs.map fun p => (p.2.2.length : Int))) :: (ra, RA rs) :: (RT rs ++ R))) :
    W D A L (eval (.ListComp (.Call (.Name "len" p1) [.Name "means" p2] [] p3) [⟨.Tuple [.Name "term" p4, .Name "means" p5] 0 p6, .Name "rows" p7, [], 0⟩] { kind := ScopeKind.function, names := [(".0", NameKind.local), ("term", NameKind.local), ("means", NameKind.local), ("len", NameKind.globalImplicit)], isGenerator := false, isCoroutine := false } p8) env) Q vs ((ra, RA rs) :: (RT rs ++ R)) := by
  refine W.ListComp (ls := ["term", "means"]) (gs := ["len"]) (fr := []) (ca := fun _ => 0) Fd (by kernel_rfl) ?_ (fun _ => rfl) ?_
  · intro y hy hf
    simp only [List.mem_cons, List.not_mem_nil, or_false] at hy
    rcases hy with rfl | rfl | rfl | rfl <;> cases hf
  · refine W.ld Fd hrows hg fun v hv => ?_
    cases (show v = .ref ra from hv)
    refine ⟨_, _, _, fun r o vsC ledC => ∃ (pre rst : List (Addr × T × T)) (a b : Option AV), rs = pre ++ rst ∧ r = rst.map (fun p => .ref p.1) ∧ o = (pre.map fun p => AV.int (p.2.2.length : Int)) ∧ vsC = ([("term", a), ("means", b)] : Vars) ∧ Sub ((L, .ns vs) :: (ra, RA rs) :: (RT rs ++ R)) ledC, Source.list rm (.head _), ?_, ?_, ?_, ?_⟩
    · rintro r o vsC ledC ⟨pre, rst, a, b, hrs, rfl, rfl, rfl, hsub⟩
      refine ⟨hsub.mem (.tail _ (.head _)), ?_⟩
      rw [List.length_map]
      rw [hrs, List.length_append] at hlen
      omega
    · exact ⟨[], rs, _, _, rfl, rfl, rfl, rfl, .refl _⟩
    · rintro C cenv acc it2 Fc hcv2 z r o vsC ledC ob2 v hv ⟨pre, rst, a, b, hrs, hr, rfl, rfl, hsub⟩
      cases rst with
      | nil => cases hr
      | cons q rst2 =>
        rw [List.map_cons] at hr
        injection hr with hz1 hz2
        subst hz1 hz2
        cases (show v = .ref q.1 from hv)
        have hqm : q ∈ rs := by rw [hrs]; simp
        have hmem : (q.1, Ob.tup [.str q.2.1, .str q.2.2]) ∈ RT rs := List.mem_map_of_mem (f := fun (p : Addr × T × T) => (p.1, Ob.tup [.str p.2.1, .str p.2.2])) hqm
        have hq1 : q.2.2.length ≤ 10000000 := by have := hz q hqm; omega
        refine W.sub (.cons (.cons hsub)) ?_
        refine W.assign_two (p := .str q.2.1) (q := .str q.2.2) rm (by repeat (first | exact List.mem_append_left _ hmem | apply List.mem_cons_of_mem)) ?_
        repeat tb_rel
        tb_start
        repeat tb_rel
        exact ⟨.int (q.2.2.length : Int), (L, .ns vs) :: (ra, RA rs) :: (RT rs ++ R), ⟨_, rfl⟩, .refl _, pre ++ [q], rst2, _, _, by rw [hrs]; simp, rfl, by simp, rfl, .refl _⟩
    · rintro o vsC ledC ⟨pre, rst, a, b, hrs, hr, rfl, rfl, hsub⟩
      cases rst with
      | cons a b => cases hr
      | nil =>
        rw [List.append_nil] at hrs
        subst hrs
        refine ⟨vs, _, hsub, fun acc => ?_⟩
        have := h acc
        simp only [LI, List.map_map] at this
        exact this
structure RowFit (p : T × T) : Prop where
  ln : Ln p.1
  len : p.1.length ≤ 50
  fit : TextFit p.2
def lawLines (x : T) : List T := match linesL x with | [] => [[]] | l :: r => l :: r
def lineRest (k : Nat) (z : T) : T := List.replicate k 32 ++ z ++ [10]
theorem sum_le2 {α : Type} (f : α → Nat) (K : Nat) : ∀ (l : List α), (∀ a ∈ l, f a ≤ K) → (l.map f).sum ≤ l.length * K
  | [], _ => by simp
  | a :: r, h => by
    have h1 := h a (.head _)
    have h2 := sum_le2 f K r fun b hb => h b (.tail _ hb)
    simp only [List.map_cons, List.sum_cons, List.length_cons, Nat.succ_mul]; omega
theorem rest_len (k : Nat) : ∀ ls : List T, (ls.map (lineRest k)).flatten.length = (ls.map (·.length)).sum + ls.length * (k + 1)
  | [] => by simp
  | z :: r => by
    have ih := rest_len k r
    rw [List.map_cons, List.flatten_cons, List.length_append, ih, List.map_cons, List.sum_cons, List.length_cons, Nat.succ_mul]
    have e : (lineRest k z).length = k + z.length + 1 := by simp [lineRest]; omega
    omega
theorem lawLines_facts {x : T} {N : Nat} (hc : x.count 10 ≤ 3200) (hl : x.length ≤ N) : (lawLines x).length ≤ 3201 ∧ ((lawLines x).map (·.length)).sum ≤ N := by
  have h1 := splitL_mu 10 x
  have h2 := splitL_count x
  have e : ∀ xs : List T, (List.map (fun x : List Nat => x.length) xs).sum = (List.map (fun x : T => x.length) xs).sum := fun _ => rfl
  have hlen : (linesL x).length ≤ (splitL 10 x).length := by
    rcases lines_split x with ⟨e, -⟩ | e
    · rw [e]; exact Nat.le_refl _
    · rw [← e]; simp
  have hs : ((linesL x).map (·.length)).sum ≤ ((splitL 10 x).map (·.length)).sum := by
    rcases lines_split x with ⟨e, -⟩ | e
    · rw [e]; exact Nat.le_refl _
    · rw [← e]; simp
  unfold mu at h1
  unfold lawLines
  split
  · simp
  · rename_i l r e2
    rw [e2] at hlen hs
    have e3 := e (l :: r)
    have e4 := e (splitL 10 x)
    exact ⟨by omega, by omega⟩
theorem lawLines_ne (x : T) : ∃ l r, lawLines x = l :: r := by
  unfold lawLines
  split
  · exact ⟨_, _, rfl⟩
  · exact ⟨_, _, rfl⟩
def dlPad (n : Nat) (col sp : Int) (term : T) : T := if (term.length : Int) ≤ col - sp then List.replicate (col - (term.length : Int)).toNat 32 else [10] ++ List.replicate (col + (n : Int)).toNat 32
theorem dlRow_none {n : Nat} {w col sp : Int} {term : T} : (dlRow n w col sp term []).flatten = List.replicate n 32 ++ term ++ [10] := by
  unfold dlRow; rw [if_pos rfl]; simp
theorem dlRow_some {n : Nat} {w col sp : Int} {term means l0 : T} {ls : List T} (h : means ≠ []) (hl : lawLines (wrappedL (max (w - col - 2) 10) [] [] means) = l0 :: ls) :
    (dlRow n w col sp term means).flatten = List.replicate n 32 ++ term ++ dlPad n col sp term ++ l0 ++ [10] ++ (ls.map (lineRest (col + (n : Int)).toNat)).flatten := by
  unfold dlRow dlPad
  rw [if_neg h]
  unfold lawLines at hl
  have e : ∀ (a b : List T), (a ++ b).flatten = a.flatten ++ b.flatten := fun a b => List.flatten_append
  rw [e, e]
  have e2 : (if (term.length : Int) ≤ col - sp then [List.replicate (col - (term.length : Int)).toNat 32] else [[10], List.replicate (col + (n : Int)).toNat 32]).flatten = (if (term.length : Int) ≤ col - sp then List.replicate (col - (term.length : Int)).toNat 32 else [10] ++ List.replicate (col + (n : Int)).toNat 32) := by split <;> simp
  rw [e2]
  split at hl
  · rename_i q
    try rw [q]
    obtain ⟨rfl, rfl⟩ := List.cons.inj hl
    simp
  · rename_i a b q
    try rw [q]
    obtain ⟨rfl, rfl⟩ := List.cons.inj hl
    have e3 : (b.map fun z => List.replicate (col + (n : Int)).toNat 32 ++ z ++ [10]) = b.map (lineRest (col + (n : Int)).toNat) := rfl
    try dsimp only
    rw [e3]
    simp only [List.flatten_cons, List.flatten_nil, List.append_nil, List.append_assoc]
theorem dlRow_len {n : Nat} {w col sp : Int} {term means : T} (hn : n ≤ 100) (hc : 1 ≤ col ∧ col ≤ 25) (ht : term.length ≤ 50) (hf : TextFit means) : (dlRow n w col sp term means).flatten.length ≤ 500000 := by
  by_cases h : means = []
  · subst h
    rw [dlRow_none]; simp; omega
  · obtain ⟨l0, ls, hl⟩ := lawLines_ne (wrappedL (max (w - col - 2) 10) [] [] means)
    rw [dlRow_some h hl]
    have h1 := wrapped_facts (w := max (w - col - 2) 10) hf.good hf.tx hf.len Ln.nil Ln.nil
    have h2 := wrapped_len (w := max (w - col - 2) 10) (K := 0) hf.good hf.tx hf.len Ln.nil Ln.nil (by simp) (by simp)
    have h3 := lawLines_facts h1.2 h2
    rw [hl] at h3
    simp only [List.map_cons, List.sum_cons, List.length_cons] at h3
    have h4 := rest_len (col + (n : Int)).toNat ls
    have h5 : (dlPad n col sp term).length ≤ 130 := by unfold dlPad; split <;> simp <;> omega
    simp only [List.length_append, List.length_cons, List.length_nil, h4, List.length_replicate]
    have h6 : ls.length * ((col + (n : Int)).toNat + 1) ≤ 3201 * 126 := Nat.mul_le_mul (by omega) (by omega)
    omega
section
variable {D : Wd} {A : Around} {t : Tok} {Q : Value → Led → Prop} {R : Led} {at_ w most space : Int}
theorem list_spec {n : Nat} {ra : Addr} {rs : List (Addr × T × T)} {t1 t2 t4 t5 : Tok} (room : Room A 14) (ha : at_ = (n : Int)) (hn : n ≤ 100) (hw : 20 ≤ w ∧ w ≤ 100) (hm : 1 ≤ most ∧ most ≤ 20) (hsp : 1 ≤ space ∧ space ≤ 5) (hrs : ∀ p ∈ rs, RowFit p.2) (hne : rs ≠ []) (hl : rs.length ≤ 4)
    (h : ∀ t, Q (.str (S (rs.map fun p => dlRow n w (colOf (rs.map (·.2)) most space) space p.2.1 p.2.2).flatten.flatten) t) ((ra, RA rs) :: (RT rs ++ R))) : Cl D A (.ref 434) [.int at_ t1, .int w t2, .ref ra, .int most t4, .int space t5] [] Q ((ra, RA rs) :: (RT rs ++ R)) := by
  subst ha
  refine Cl.def_ (n := 13) (ls := ["at", "width", "rows", "most", "space", "column", "found", "term", "means", "text", "lines", "line"]) (gs := ["max", "min", "len", "_law_wrapped"]) (binds := [("at", .int n t1), ("width", .int w t2), ("rows", .ref ra), ("most", .int most t4), ("space", .int space t5)]) (by rfl) (by kernel_rfl) room (by rfl) (by kernel_rfl) (fun S => by kernel_rfl) (by kernel_rfl)
    (vs := [("at", some (.int n)), ("width", some (.int w)), ("rows", some (.ref ra)), ("most", some (.int most)), ("space", some (.int space)), ("column", none), ("found", none), ("term", none), ("means", none), ("text", none), ("lines", none), ("line", none)]) (by rfl) fun env L A' F rm => ?_
  repeat tb_rel
  refine W.lens_term F rm (by kspl_open m_mem) (by kspl_open m_get) (by omega) (fun p hp => by have := (hrs p hp).len; omega) fun c => ?_
  repeat tb_rel
  refine W.max_list rm (.head _) (by simpa using hne) (fun i hi => by obtain ⟨p, hp, rfl⟩ := List.mem_map.mp hi; omega) fun t => ?_
  repeat tb_rel
  have hcol : min (maxI (rs.map fun p => (p.2.1.length : Int))) most + space = colOf (rs.map (·.2)) most space := by unfold colOf; rw [List.map_map]; rfl
  have hmax : 0 ≤ maxI (rs.map fun p => (p.2.1.length : Int)) := by
    have key : ∀ (l : List Int) (m : Int), 0 ≤ m → 0 ≤ l.foldl max m := fun l => by
      induction l with
      | nil => intro m h; exact h
      | cons a r ih => intro m h; exact ih _ (by omega)
    exact key _ _ (by omega)
  rw [hcol]
  have hc1 : 1 ≤ colOf (rs.map (·.2)) most space ∧ colOf (rs.map (·.2)) most space ≤ 25 := by rw [← hcol]; omega
  generalize colOf (rs.map (·.2)) most space = col at *
  let VV : T → Option AV → Option AV → Option AV → Option AV → Option AV → Vars := fun fo tm mn tx li ln => [("at", some (.int n)), ("width", some (.int w)), ("rows", some (.ref ra)), ("most", some (.int most)), ("space", some (.int space)), ("column", some (.int col)), ("found", some (.str fo)), ("term", tm), ("means", mn), ("text", tx), ("lines", li), ("line", ln)]
  let LED : Led := (ra, RA rs) :: (RT rs ++ R)
  let FF : List (Addr × T × T) → T := fun pre => (pre.map fun p => dlRow n w col space p.2.1 p.2.2).flatten.flatten
  have hFF : ∀ pre q, FF (pre ++ [q]) = FF pre ++ (dlRow n w col space q.2.1 q.2.2).flatten := fun pre q => by
    show ((pre ++ [q]).map _).flatten.flatten = (pre.map _).flatten.flatten ++ _
    rw [List.map_append, List.flatten_append, List.flatten_append]
    simp
  have hFl : ∀ pre, (∀ p ∈ pre, RowFit p.2) → (FF pre).length ≤ pre.length * 500000 := by
    intro pre
    induction pre with
    | nil => intro _; simp [FF]
    | cons a b ih =>
      intro hp
      have h1 := ih fun p hq => hp p (.tail _ hq)
      have h2 := hp a (.head _)
      have h3 := dlRow_len (w := w) (sp := space) hn hc1 h2.len h2.fit
      have e : FF (a :: b) = (dlRow n w col space a.2.1 a.2.2).flatten ++ FF b := by
        show ((a :: b).map _).flatten.flatten = _ ++ (b.map _).flatten.flatten
        rw [List.map_cons, List.flatten_cons, List.flatten_append]
      rw [e, List.length_append, List.length_cons, Nat.succ_mul]
      omega
  refine W.cutN (fun vs led => ∃ tm mn tx li ln, vs = VV (FF rs) tm mn tx li ln ∧ Sub LED led) ?_ fun vs led ⟨tm, mn, tx, li, ln, e, hsub⟩ => ?_
  · refine W.For_list rm (fun _ => rfl) ?_
    repeat tb_rel
    refine ⟨ra, rs.map fun p => .ref p.1, fun rem vs led => ∃ (pre rst : List (Addr × T × T)) (tm mn tx li ln : Option AV), rs = pre ++ rst ∧ rem = rst.map (fun p => .ref p.1) ∧ vs = VV (FF pre) tm mn tx li ln ∧ Sub LED led, rfl, ?_, ?_, ?_, ?_⟩
    · rintro r vs led ⟨pre, rst, tm, mn, tx, li, ln, -, -, -, hs2⟩
      exact hs2.mem (.head _)
    · exact ⟨[], rs, _, _, _, _, _, rfl, rfl, rfl, .skip (.refl _)⟩
    · rintro z r vs led it ob v hv ⟨pre, rst, tm, mn, tx, li, ln, hpr, hrem, rfl, hs2⟩
      cases rst with
      | nil => cases hrem
      | cons q rst2 =>
        rw [List.map_cons] at hrem
        injection hrem with hz1 hz2
        subst hz1 hz2
        cases (show v = .ref q.1 from hv)
        have hqm : q ∈ rs := by rw [hpr]; simp
        have hmem : (q.1, Ob.tup [.str q.2.1, .str q.2.2]) ∈ RT rs := List.mem_map_of_mem (f := fun (p : Addr × T × T) => (p.1, Ob.tup [.str p.2.1, .str p.2.2])) hqm
        have hq := hrs q hqm
        have hpl : pre.length ≤ 3 := by have := congrArg List.length hpr; simp at this; omega
        have hfl := hFl pre fun p hp => hrs p (by rw [hpr]; simp [hp])
        have hfn := hFF pre q
        have hfit := hq.fit
        have hql := hq.len
        generalize FF pre = fo at *
        obtain ⟨qa, tt, mm⟩ := q
        dsimp only at hfit hql hfn hmem ⊢
        have hfo : fo.length ≤ 1500000 := by omega
        refine W.sub (.cons hs2) ?_
        dsimp only [VV, LED]
        refine W.assign_two (p := .str tt) (q := .str mm) rm (by repeat (first | exact List.mem_append_left _ hmem | apply List.mem_cons_of_mem)) ?_
        repeat tb_rel
        simp only [Int.toNat_natCast]
        tb_start
        · rename_i hC
          subst hC
          rw [dlRow_none] at hfn
          repeat tb_rel
          exact ⟨LED, .refl _, pre ++ [(qa, tt, [])], rst2, _, _, _, _, _, by rw [hpr]; simp, rfl, by rw [hfn]; simp only [List.append_assoc]; rfl, .refl _⟩
        · rename_i hC
          obtain ⟨l0, ls, hll⟩ := lawLines_ne (wrappedL (max (w - col - 2) 10) [] [] mm)
          rw [dlRow_some hC hll] at hfn
          have hwf := wrapped_facts (w := max (w - col - 2) 10) hfit.good hfit.tx hfit.len Ln.nil Ln.nil
          have hwl := wrapped_len (w := max (w - col - 2) 10) (K := 0) hfit.good hfit.tx hfit.len Ln.nil Ln.nil (by simp) (by simp)
          have hlf := lawLines_facts hwf.2 hwl
          rw [hll] at hlf
          simp only [List.map_cons, List.sum_cons, List.length_cons] at hlf
          have hrl := rest_len (col + (n : Int)).toNat ls
          have hr6 : ls.length * ((col + (n : Int)).toNat + 1) ≤ 3201 * 126 := Nat.mul_le_mul (by omega) (by omega)
          have hpad : (dlPad n col space tt).length ≤ 130 := by unfold dlPad; split <;> simp <;> omega
          have hrn : (List.replicate n 32).length = n := List.length_replicate
          have hhead : (fo ++ List.replicate n 32 ++ tt).length ≤ 1600000 := by simp; omega
          refine W.cut (fun vs led => vs = VV (fo ++ List.replicate n 32 ++ tt ++ dlPad n col space tt) (some (.str tt)) (some (.str mm)) tx li ln ∧ Sub ((it, ob) :: LED) led) ?_ fun vs led ⟨e, hsub⟩ => ?_
          · repeat tb_rel
            tb_start
            · rename_i hC2
              have e : dlPad n col space tt = List.replicate (col - (tt.length : Int)).toNat 32 := by unfold dlPad; rw [if_pos hC2]
              rw [e]
              repeat tb_rel
              exact ⟨rfl, rfl, .refl _⟩
            · rename_i hC2
              have e : dlPad n col space tt = [10] ++ List.replicate (col + (n : Int)).toNat 32 := by unfold dlPad; rw [if_neg hC2]
              rw [e]
              repeat tb_rel
              rw [List.append_assoc (fo ++ List.replicate n 32 ++ tt)]
              exact ⟨rfl, rfl, .refl _⟩
          subst e
          refine W.sub hsub ?_
          clear hsub
          have hh2 : (fo ++ List.replicate n 32 ++ tt ++ dlPad n col space tt).length ≤ 1700000 := by rw [List.length_append]; omega
          generalize hba : fo ++ List.replicate n 32 ++ tt ++ dlPad n col space tt = base at *
          dsimp only [VV, LED]
          repeat tb_rel
          refine W.use .nil (wrapped_spec (rm.less (by decide)) hfit.tx hfit.len hfit.good (by omega) Ln.nil Ln.nil (by simp) (by simp) fun t => Back.intro (P := []) ?_)
          dsimp only [List.nil_append]
          generalize hwx : wrappedL (max (w - col - 2) 10) [] [] mm = wx at *
          have hwx2 : wx.length ≤ 84800 := by simpa using hwl
          have hspl := splitL_mu 10 wx
          have hspc := length_le_mu (splitL 10 wx)
          obtain ⟨sp, z, hspz⟩ : ∃ sp z, splitL 10 wx = sp ++ [z] := by
            rcases List.eq_nil_or_concat (splitL 10 wx) with e | ⟨a, b, e⟩
            · exact absurd e (splitL_ne 10 wx)
            · exact ⟨a, b, by rw [e, List.concat_eq_append]⟩
          repeat tb_rel
          refine W.split1 (by omega) fun la => ?_
          rw [hspz]
          tb_rel
          tb_rel
          have hzl : z.length ≤ 100000 := by
            have h2 := hspl
            rw [hspz, mu_snoc] at h2
            omega
          have hspn : sp.length ≤ 100000 := by
            have h2 := hspl
            have h3 := hspc
            rw [hspz] at h2 h3
            rw [List.length_append] at h3
            omega
          refine W.cut (fun vs led => ∃ la, vs = VV base (some (.str tt)) (some (.str mm)) (some (.str wx)) (some (.ref la)) ln ∧ Sub ((la, LS (l0 :: ls)) :: (it, ob) :: LED) led) ?_ fun vs led ⟨la, e, hsub⟩ => ?_
          · have hls : lawLines wx = l0 :: ls := hll
            rw [show (LS (sp ++ [z])) = Ob.list (List.map AV.str sp ++ [AV.str z]) by simp only [LS, List.map_append, List.map_cons, List.map_nil]]
            dsimp only [VV, LED]
            have hq4 : (List.map AV.str sp ++ [AV.str z]).length ≤ 10000000 := by simp; omega
            repeat tb_rel
            tb_start
            · rename_i hC2
              subst hC2
              have hB : linesL wx = sp := by
                rcases lines_split wx with ⟨-, e⟩ | e
                · rw [hspz] at e; simp at e
                · rw [hspz] at e; exact List.append_cancel_right e
              repeat tb_rel
              cases sp with
              | nil =>
                tb_start
                tb_start
                repeat tb_rel
                have : l0 :: ls = [[]] := by rw [← hls]; unfold lawLines; rw [hB]
                rw [this]
                exact ⟨rfl, la, rfl, .refl _⟩
              | cons s1 s2 =>
                have hgt : (1 : Int) < ((List.map AV.str (s1 :: s2) ++ [AV.str []]).length : Int) := by simp; omega
                refine way_t (decide_eq_true hgt) ?_
                repeat tb_rel
                tb_start
                repeat tb_rel
                rename_i lb
                have : l0 :: ls = s1 :: s2 := by rw [← hls]; unfold lawLines; rw [hB]
                rw [this]
                refine ⟨rfl, lb, rfl, ?_⟩
                rw [List.dropLast_concat]
                exact .cons (.skip (.refl _))
            · rename_i hC2
              repeat tb_rel
              tb_start
              repeat tb_rel
              have hA : linesL wx = sp ++ [z] := by
                rcases lines_split wx with ⟨e, -⟩ | e
                · rw [e, hspz]
                · rw [hspz] at e
                  exact absurd (List.append_inj' e rfl).2 (by intro q; exact hC2 (List.cons.inj q).1.symm)
              have : l0 :: ls = sp ++ [z] := by
                rw [← hls]; unfold lawLines; rw [hA]
                cases sp <;> rfl
              rw [this]
              exact ⟨rfl, la, rfl, by simp only [LS, List.map_append, List.map_cons, List.map_nil]; exact .refl _⟩
          subst e
          refine W.sub hsub ?_
          clear hsub
          dsimp only [VV, LED, LS, List.map]
          have hl0 : l0.length ≤ 100000 := by omega
          have hlsl : ls.length ≤ 3201 := by omega
          refine W.cut (fun vs led => vs = VV (base ++ l0 ++ [10]) (some (.str tt)) (some (.str mm)) (some (.str wx)) (some (.ref la)) ln ∧ Sub ((la, LS (l0 :: ls)) :: (it, ob) :: LED) led) ?_ fun vs led ⟨e, hsub⟩ => ?_
          · repeat tb_rel
            exact ⟨rfl, rfl, .refl _⟩
          subst e
          refine W.sub hsub ?_
          clear hsub
          have hb2 : (base ++ l0 ++ [10]).length ≤ 1900000 := by simp; omega
          generalize hba2 : base ++ l0 ++ [10] = base2 at *
          dsimp only [VV, LED, LS, List.map]
          refine W.cut (fun vs led => ∃ ln, vs = VV (base2 ++ (ls.map (lineRest (col + (n : Int)).toNat)).flatten) (some (.str tt)) (some (.str mm)) (some (.str wx)) (some (.ref la)) ln ∧ Sub ((it, ob) :: LED) led) ?_ fun vs led ⟨ln, e, hsub⟩ => ?_
          · refine W.For_list rm (fun _ => rfl) ?_
            repeat tb_rel
            rename_i lb
            refine ⟨lb, ls.map .str, fun rem vs led => ∃ (dn td : List T) (ln : Option AV), ls = dn ++ td ∧ rem = td.map .str ∧ vs = VV (base2 ++ (dn.map (lineRest (col + (n : Int)).toNat)).flatten) (some (.str tt)) (some (.str mm)) (some (.str wx)) (some (.ref la)) ln ∧ Sub ((lb, LS ls) :: (it, ob) :: LED) led, rfl, ?_, ?_, ?_, ?_⟩
            · rintro r vs led ⟨dn, td, ln, -, -, -, hs3⟩
              exact hs3.mem (.head _)
            · exact ⟨[], ls, _, rfl, rfl, by rw [List.map_nil, List.flatten_nil, List.append_nil], .cons (.skip (.refl _))⟩
            · rintro z2 r vs led it2 ob2 v hv ⟨dn, td, ln, hdt, hrem, rfl, hs3⟩
              cases td with
              | nil => cases hrem
              | cons y td2 =>
                rw [List.map_cons] at hrem
                injection hrem with hz1 hz2
                subst hz1 hz2
                obtain ⟨tv, rfl⟩ := hv
                have hdl := rest_len (col + (n : Int)).toNat dn
                have hyl : y.length ≤ 100000 := by
                  have e1 := congrArg (fun l : List T => (l.map (·.length)).sum) hdt
                  simp only [List.map_append, List.map_cons, List.sum_append_nat, List.sum_cons] at e1
                  have e2 := hlf.2
                  omega
                have hd1 : (dn.map (·.length)).sum ≤ 84800 := by
                  have e1 := congrArg (fun l : List T => (l.map (·.length)).sum) hdt
                  simp only [List.map_append, List.map_cons, List.sum_append_nat, List.sum_cons] at e1
                  have e2 := hlf.2
                  omega
                have hd2 : dn.length * ((col + (n : Int)).toNat + 1) ≤ 3201 * 126 := Nat.mul_le_mul (by have := congrArg List.length hdt; simp at this; omega) (by omega)
                have hnew : ((dn ++ [y]).map (lineRest (col + (n : Int)).toNat)).flatten = (dn.map (lineRest (col + (n : Int)).toNat)).flatten ++ (List.replicate (col + (n : Int)).toNat 32 ++ y ++ [10]) := by
                  rw [List.map_append, List.flatten_append, List.map_cons, List.map_nil, List.flatten_cons, List.flatten_nil, List.append_nil]; rfl
                generalize (dn.map (lineRest (col + (n : Int)).toNat)).flatten = acc at *
                have hacc : (base2 ++ acc).length ≤ 2500000 := by rw [List.length_append]; omega
                have hkk : (List.replicate (col + (n : Int)).toNat 32).length ≤ 125 := by rw [List.length_replicate]; omega
                refine W.sub (.cons hs3) ?_
                dsimp only [VV, LED]
                repeat tb_rel
                exact ⟨(lb, LS ls) :: (it, ob) :: LED, .refl _, dn ++ [y], td2, _, by rw [hdt]; simp, rfl, by rw [hnew]; simp only [List.append_assoc]; rfl, .refl _⟩
            · rintro vs led ⟨dn, td, ln, hdt, hrem, rfl, hs3⟩
              cases td with
              | cons a b => cases hrem
              | nil =>
                rw [List.append_nil] at hdt
                subst hdt
                refine W.sub (Sub.trans (.skip (.refl _)) hs3) ?_
                repeat tb_rel
                exact ⟨rfl, _, rfl, .refl _⟩
          · subst e
            refine W.sub hsub ?_
            repeat tb_rel
            exact ⟨LED, .refl _, pre ++ [(qa, tt, mm)], rst2, _, _, _, _, _, by rw [hpr]; simp, rfl, by rw [hfn, ← hba2, ← hba]; simp only [List.append_assoc]; rfl, .refl _⟩
    · rintro vs led ⟨pre, rst, tm, mn, tx, li, ln, hpr, hrem, rfl, hs2⟩
      cases rst with
      | cons a b => cases hrem
      | nil =>
        rw [List.append_nil] at hpr
        subst hpr
        refine W.sub hs2 ?_
        repeat tb_rel
        exact ⟨rfl, _, _, _, _, _, rfl, .refl _⟩
  · subst e
    refine W.sub hsub ?_
    dsimp only [VV]
    repeat tb_rel
    exact ⟨_, .refl _, h _⟩
end
end Mine
end
section
open PySem PySem.W PySem.Calls PyProof.Rows
set_option maxRecDepth 100000
set_option maxHeartbeats 1000000
set_option autoImplicit false
set_option linter.unusedVariables false
set_option linter.unusedSimpArgs false
namespace Mine
def tsOf (rs : List (T × T)) : List Int := rs.map fun p => (p.1.length : Int)
def msOf (rs : List (T × T)) : List Int := rs.map fun p => (p.2.length : Int)
def dimOf (rs : List (T × T)) : List (Int × Int) := if rs = [] then [] else [(0, maxI (tsOf rs)), (1, maxI (msOf rs))]
theorem maxI_snoc (l : List Int) (x : Int) : maxI (l ++ [x]) = max (maxI l) x := by unfold maxI; rw [List.foldl_append]; rfl
theorem dim_step (pre : List (T × T)) (q : T × T) : putI (putI (dimOf pre) 0 (max (getI (dimOf pre) 0 0) (q.1.length : Int))) 1 (max (getI (putI (dimOf pre) 0 (max (getI (dimOf pre) 0 0) (q.1.length : Int))) 1 0) (q.2.length : Int)) = dimOf (pre ++ [q]) := by
  have e : dimOf (pre ++ [q]) = [(0, max (maxI (tsOf pre)) (q.1.length : Int)), (1, max (maxI (msOf pre)) (q.2.length : Int))] := by
    unfold dimOf
    rw [if_neg (by simp)]
    have e1 : tsOf (pre ++ [q]) = tsOf pre ++ [(q.1.length : Int)] := by unfold tsOf; rw [List.map_append]; rfl
    have e2 : msOf (pre ++ [q]) = msOf pre ++ [(q.2.length : Int)] := by unfold msOf; rw [List.map_append]; rfl
    rw [e1, e2, maxI_snoc, maxI_snoc]
  rw [e]
  unfold dimOf
  split
  · rename_i h
    subst h
    simp [putI, getI, tsOf, msOf, maxI]
  · simp [putI, getI]
section
variable {D : Wd} {A : Around} {Q : Value → Led → Prop} {R : Led} {ra : Addr} {rs : List (Addr × T × T)}
theorem measure_spec (room : Room A 9) (hne : rs ≠ []) (hlen : rs.length ≤ 100) (hfit : ∀ p ∈ rs, RowFit p.2)
    (h : ∀ t, Q (.ref t) ((t, .tup [.int (maxI (tsOf (rs.map (·.2)))), .int (maxI (msOf (rs.map (·.2))))]) :: (240, tabG) :: (ra, RA rs) :: (RT rs ++ R))) : Cl D A (.ref 245) [.ref ra] [] Q ((240, tabG) :: (ra, RA rs) :: (RT rs ++ R)) := by
  refine Cl.defC (n := 8) (ls := ["rows", "widths", "row", "idx", "col"]) (gs := ["enumerate", "max", "term_len", "tuple", "sorted"]) (cn := [])
    (binds := [("rows", .ref ra)]) (by rfl) (by kernel_rfl) room (by rfl) (by kernel_rfl) (fun S => by kernel_rfl) (by kernel_rfl)
    (vs := [("rows", some (.ref ra)), ("widths", none), ("row", none), ("idx", none), ("col", none)]) (by rfl) fun env L A' ca F hcode hqual hcv rm => ?_
  refine W.sub (led' := (240, tabG) :: (ra, RA rs) :: (RT rs ++ R)) (.refl _) ?_
  repeat tb_rel
  rename_i d hd
  let VV : Option AV → Option AV → Option AV → Vars := fun rw ix cl => [("rows", some (.ref ra)), ("widths", some (.ref d)), ("row", rw), ("idx", ix), ("col", cl)]
  let LED : List (Int × Int) → Led := fun ks => (d, dictI D ks) :: (240, tabG) :: (ra, RA rs) :: (RT rs ++ R)
  refine W.cutN (fun vs led => ∃ rw ix cl, vs = VV rw ix cl ∧ Sub (LED (dimOf (rs.map (·.2)))) led) ?_ fun vs led ⟨rw, ix, cl, e, hsub⟩ => ?_
  · refine W.For_list rm (fun _ => rfl) ?_
    repeat tb_rel
    refine ⟨ra, rs.map fun p => .ref p.1, fun rem vs led => ∃ (pre rst : List (Addr × T × T)) (rw ix cl : Option AV), rs = pre ++ rst ∧ rem = rst.map (fun p => .ref p.1) ∧ vs = VV rw ix cl ∧ Sub (LED (dimOf (pre.map (·.2)))) led, rfl, ?_, ?_, ?_, ?_⟩
    · rintro r vs led ⟨pre, rst, rw, ix, cl, -, -, -, hs2⟩
      exact hs2.mem (.tail _ (.tail _ (.head _)))
    · exact ⟨[], rs, _, _, _, rfl, rfl, rfl, .refl _⟩
    · rintro z r vs led it ob v hv ⟨pre, rst, rw, ix, cl, hpr, hrem, rfl, hs2⟩
      cases rst with
      | nil => cases hrem
      | cons q rst2 =>
        rw [List.map_cons] at hrem
        injection hrem with hz1 hz2
        subst hz1 hz2
        cases (show v = .ref q.1 from hv)
        have hqm : q ∈ rs := by rw [hpr]; simp
        have hmem : (q.1, Ob.tup [.str q.2.1, .str q.2.2]) ∈ RT rs := List.mem_map_of_mem (f := fun (p : Addr × T × T) => (p.1, Ob.tup [.str p.2.1, .str p.2.2])) hqm
        have hq := hfit q hqm
        have hstep := dim_step (pre.map (·.2)) q.2
        have hks : (dimOf (pre.map (·.2))).length ≤ 2 := by unfold dimOf; split <;> simp
        generalize dimOf (pre.map (·.2)) = ks at *
        obtain ⟨qa, tt, mm⟩ := q
        dsimp only at hq hstep hmem ⊢
        have htl : 27 ∉ tt := hq.ln.tx.esc
        have hml : 27 ∉ mm := hq.fit.tx.esc
        have htz : tt.length ≤ 1000000 := by have h2 : tt.length ≤ 50 := hq.len; omega
        have hmz : mm.length ≤ 1000000 := by have h2 : mm.length ≤ 700 := hq.fit.len; omega
        refine W.sub (.cons hs2) ?_
        dsimp only [VV, LED]
        repeat tb_rel
        let I : Nat → List AV → Vars → Led → Prop := fun i rem vs led => ∃ ix cl led', vs = VV (some (.ref qa)) ix cl ∧ led = (it, ob) :: led' ∧
          ((i = 0 ∧ rem = [.str tt, .str mm] ∧ Sub (LED ks) led') ∨ (i = 1 ∧ rem = [.str mm] ∧ Sub (LED (putI ks 0 (max (getI ks 0 0) (tt.length : Int)))) led') ∨ (i = 2 ∧ rem = [] ∧ Sub (LED (dimOf (pre.map (·.2) ++ [(tt, mm)]))) led'))
        refine W.cutN (fun vs led => ∃ ix cl, vs = VV (some (.ref qa)) ix cl ∧ Sub ((it, ob) :: LED (dimOf (pre.map (·.2) ++ [(tt, mm)]))) led) ?_ fun vs led ⟨ix, cl, e, hsub⟩ => ?_
        · refine W.For_feeds (β := AV) (fun _ => rfl) ?_
          refine W.Call_ ?_
          repeat tb_rel
          refine W.call_enumT (a := qa) (as := [.str tt, .str mm]) (by repeat (first | exact List.mem_append_left _ hmem | apply List.mem_cons_of_mem)) fun e it2 => ?_
          refine ⟨e, (it, ob) :: LED ks, [.str tt, .str mm], _, _, _, I, rfl, ?_, Feeds.enumT (a := qa) (it := it2) rm, ?_, ?_, ?_, ?_, ?_⟩
          · exact .refl _
          · exact fun s Q E R q => pyIter_enumOb R (.tail _ (.head _)) q
          · rintro i r vs led ⟨ix, cl, led', -, rfl, h⟩
            have hm2 : ∀ k, (qa, Ob.tup [.str tt, .str mm]) ∈ LED k := fun k => .tail _ (.tail _ (.tail _ (List.mem_append_left _ hmem)))
            rcases h with ⟨-, -, h⟩ | ⟨-, -, h⟩ | ⟨-, -, h⟩
            · exact .tail _ (h.mem (hm2 _))
            · exact .tail _ (h.mem (hm2 _))
            · exact .tail _ (h.mem (hm2 _))
          · exact ⟨_, _, _, rfl, rfl, .inl ⟨rfl, rfl, .refl _⟩⟩
          · rintro i z r vs led v new hdr ⟨ix, cl, led', rfl, rfl, h⟩ ⟨T1, rfl, rfl⟩
            rcases h with ⟨rfl, hrem, hsb⟩ | ⟨rfl, hrem, hsb⟩ | ⟨-, hrem, -⟩
            · injection hrem with z1 z2
              subst z1 z2
              refine W.sub (led' := (T1, .tup [.int (0 : Nat), .str tt]) :: (e, enumOb it2 (0 + 1)) :: (it2, tupIt qa (0 + 1)) :: (it, ob) :: LED ks) (.cons (.cons (.cons (.cons hsb)))) ?_
              dsimp only [VV, LED, Int.ofNat_zero, Int.natCast_zero]
              repeat tb_rel
              refine W.use .nil (term_len_spec (rm.less (by decide)) htl htz fun t => Back.intro (P := []) ?_)
              dsimp only [List.nil_append]
              repeat tb_rel
              exact ⟨(it, ob) :: LED (putI ks 0 (max (getI ks 0 0) (tt.length : Int))), .skip (.refl _), _, _, _, rfl, rfl, .inr (.inl ⟨rfl, rfl, .refl _⟩)⟩
            · injection hrem with z1 z2
              subst z1 z2
              have hk2 : (putI ks 0 (max (getI ks 0 0) (tt.length : Int))).length ≤ 3 := by
                unfold putI
                split
                · rw [List.length_map]; omega
                · rw [List.length_append]; simp; omega
              generalize putI ks 0 (max (getI ks 0 0) (tt.length : Int)) = k2 at *
              refine W.sub (led' := (T1, .tup [.int (1 : Nat), .str mm]) :: (e, enumOb it2 (1 + 1)) :: (it2, tupIt qa (1 + 1)) :: (it, ob) :: LED k2) (.cons (.cons (.cons (.cons hsb)))) ?_
              dsimp only [VV, LED]
              rw [show ((1 : Nat) : Int) = 1 from rfl]
              repeat tb_rel
              refine W.use .nil (term_len_spec (rm.less (by decide)) hml hmz fun t => Back.intro (P := []) ?_)
              dsimp only [List.nil_append]
              repeat tb_rel
              exact ⟨(it, ob) :: LED (putI k2 1 (max (getI k2 1 0) (mm.length : Int))), .skip (.refl _), _, _, _, rfl, rfl, .inr (.inr ⟨rfl, rfl, by rw [hstep]; exact .refl _⟩)⟩
            · cases hrem
          · rintro vs led ⟨ix, cl, led', rfl, rfl, h⟩
            rcases h with ⟨h1, -, -⟩ | ⟨h1, -, -⟩ | ⟨-, -, h⟩
            · cases h1
            · cases h1
            · refine W.sub (.cons h) ?_
              repeat tb_rel
              exact ⟨rfl, _, _, rfl, .refl _⟩
        · subst e
          refine W.sub hsub ?_
          repeat tb_rel
          exact ⟨LED (dimOf (pre.map (·.2) ++ [(tt, mm)])), .refl _, pre ++ [(qa, tt, mm)], rst2, _, _, _, by rw [hpr]; simp, rfl, rfl, by rw [List.map_append]; exact .refl _⟩
    · rintro vs led ⟨pre, rst, rw, ix, cl, hpr, hrem, rfl, hs2⟩
      cases rst with
      | cons a b => cases hrem
      | nil =>
        rw [List.append_nil] at hpr
        subst hpr
        refine W.sub hs2 ?_
        repeat tb_rel
        exact ⟨rfl, _, _, _, rfl, .refl _⟩
  · subst e
    refine W.sub hsub ?_
    have hdim : dimOf (rs.map (·.2)) = [(0, maxI (tsOf (rs.map (·.2)))), (1, maxI (msOf (rs.map (·.2))))] := by
      unfold dimOf
      rw [if_neg (by simpa using hne)]
    dsimp only [VV, LED]
    rw [hdim]
    generalize maxI (tsOf (rs.map (·.2))) = x at *
    generalize maxI (msOf (rs.map (·.2))) = y at *
    repeat (first | (refine W.tuple_gen F (by decide) (hcode.trans rfl) D.c3 rm (fun _ => rfl) ?_) | tb_rel)
    refine W.sorted2 rm (.head _) (.tail _ (.head _)) fun B t1 t2 => ?_
    refine ⟨B, [(t1, .int 0, .int x), (t2, .int 1, .int y)], rfl, .tail _ (.tail _ (.tail _ (.tail _ (.tail _ (.head _))))), .head _, ?_, Nat.le_of_ble_eq_true rfl, fun r => ?_⟩
    · intro p hp
      rcases List.mem_cons.mp hp with rfl | hp
      · exact .tail _ (.head _)
      rcases List.mem_cons.mp hp with rfl | hp
      · exact .tail _ (.tail _ (.head _))
      · cases hp
    · repeat tb_rel
      exact ⟨_, by kspl_open m_sub, h r⟩
end
end Mine
end
section
open PySem PySem.W PySem.Calls PyProof.Rows
set_option maxRecDepth 100000
set_option maxHeartbeats 1000000
set_option autoImplicit false
set_option linter.unusedVariables false
set_option linter.unusedSimpArgs false
namespace Mine
/-- the variables of iter_rows -/
def gvars (ra : Addr) (row : Option AV) : Vars := [("rows", some (.ref ra)), ("col_count", some (.int 2)), ("row", row)]
abbrev SH (ra : Addr) (rs : List (Addr × T × T)) : Led := (ra, RA rs) :: RT rs
/-- what is the generator's own after k turns -/
def ownAt (Lg it ra : Addr) (rs : List (Addr × T × T)) : Nat → Led
  | 0 => [(Lg, .ns (gvars ra none))]
  | k + 1 => [(Lg, .ns (gvars ra (rs[k]?.map fun q => .ref q.1))), (it, listIt ra (k + 1))]
def curAt (Lg it ra : Addr) (rs : List (Addr × T × T)) : Nat → Led
  | 0 => [(Lg, .ns (gvars ra none)), (it, listIt ra 0)]
  | k + 1 => [(Lg, .ns (gvars ra (rs[k]?.map fun q => .ref q.1))), (it, listIt ra (k + 1))]
section
variable {D : Wd} {A : Around} {R : Led} {ra Lg : Addr} {rs : List (Addr × T × T)} {env : Env}
theorem iter_elt {q1 q2 q3 q4 q5 q6 q7 q8 q9 q10 : Pos} {k1 k2 n : Nat} {qa : Addr} {tt mm : T} {led : Led} (Fd : Fn env Lg ["rows", "col_count", "row"] ["len"]) (rm : Room A n) (hq : (qa, Ob.tup [.str tt, .str mm]) ∈ led) :
    W D A Lg (eval (.BinOp (.Name "row" q1) .Add (.BinOp (.Tuple [.Constant (.str "") k1 q2] k2 q3) .Mult (.BinOp (.Name "col_count" q4) .Sub (.Call (.Name "len" q5) [.Name "row" q6] [] q7) q8) q9) q10) env) (fun v vs led' => v = .ref qa ∧ vs = gvars ra (some (.ref qa)) ∧ Sub led led') (gvars ra (some (.ref qa))) led := by
  unfold gvars
  repeat tb_rel
  refine W.len_tup (.tail _ hq) (Nat.le_of_ble_eq_true rfl) fun t => ?_
  repeat tb_rel
  rename_i b _ _
  refine W.mul_tup0 (.head _) fun b2 => ?_
  refine W.add_tup_nil (.tail _ (.tail _ hq)) (.head _) ?_
  exact ⟨rfl, rfl, .skip (.skip (.refl _))⟩
end

section
variable {D : Wd} {ra Lg it : Addr} {rs : List (Addr × T × T)} {env : Env} {s s₀ : Shared}
abbrev eltE (q1 q2 q3 q4 q5 q6 q7 q8 q9 q10 : Pos) (k1 k2 : Nat) : Expr := .BinOp (.Name "row" q1) .Add (.BinOp (.Tuple [.Constant (.str "") k1 q2] k2 q3) .Mult (.BinOp (.Name "col_count" q4) .Sub (.Call (.Name "len" q5) [.Name "row" q6] [] q7) q8) q9) q10
/-- what comes out at a turn -/
def YP (D : Wd) (Lg it ra : Addr) (rs : List (Addr × T × T)) : Protocol := fun m s₀ v s kap => ∃ (k : Nat) (q : Addr × T × T) (hk : ∀ b o, D.B.get? b = some o → (hideAll s₀.heap ((ownAt Lg it ra rs k ++ SH ra rs).map (·.1))).get? b = some o),
  rs[k]? = some q ∧ m = rs.length - (k + 1) ∧ v = .ref q.1 ∧ Rep (D.grow s₀ (ownAt Lg it ra rs k ++ SH ra rs) hk) (ownAt Lg it ra rs (k + 1) ++ SH ra rs) s ∧
  ∀ s'' led, Rep D (ownAt Lg it ra rs (k + 1) ++ (SH ra rs ++ led)) s'' → kap (.send .none) s''
def PP (D : Wd) (Lg it ra : Addr) (rs : List (Addr × T × T)) : Nat → Shared → Shared → Prop := fun m s₀ s => m = 0 ∧ ∃ (hk : ∀ b o, D.B.get? b = some o → (hideAll s₀.heap ((ownAt Lg it ra rs rs.length ++ SH ra rs).map (·.1))).get? b = some o),
  Rep (D.grow s₀ (ownAt Lg it ra rs rs.length ++ SH ra rs) hk) (SH ra rs) s
theorem Room.over1 {A : Around} {n : Nat} {body : List Stmt} (h : Room A (n + 1)) : Room (A.over (.func body env) []) n := by
  obtain ⟨a, b, c⟩ := h
  exact ⟨by show A.depth + 0 + 1 + n < _; omega, by show A.units + 0 + 3 + 8 * n < _; omega, c⟩
theorem Room.over2 {A : Around} {n : Nat} {body orelse stmts : List Stmt} {target : Expr} {itv : Value} {k : Result → Sem PySem.Fin} {g : Bool} {l : List Value} {p : Pos} {kp : List Value} (h : Room A (n + 1)) :
    Room (A.over (.forLoop target itv body orelse env) [.ret k none g l (.func stmts env) p kp]) n := by
  obtain ⟨a, b, c⟩ := h
  exact ⟨by show A.depth + (1 + 0) + 0 + n < _; omega, by show A.units + (3 + 0) + 0 + 8 * n < _; omega, c⟩
theorem seg_turns {A : Around} {n0 : Nat} (hr : Room A (n0 + 1)) (Fd : Fn env Lg ["rows", "col_count", "row"] ["len"]) (hco : env.scope.isCoroutine = false) (hint : interactive env = false) {q1 q2 q3 q4 q5 q6 q7 q8 q9 q10 p1 p3 p4 : Pos} {k1 k2 : Nat} {stmts : List Stmt} {kk : Result → Sem PySem.Fin} {l : List Value} {p : Pos} {kp : List Value}
    (hkk : kk (.ok .next) = .pure (.done (.ret .none))) :
    ∀ (r k : Nat), r = rs.length - k → k ≤ rs.length → ∀ (s₀ s : Shared) (hk : ∀ b o, D.B.get? b = some o → (hideAll s₀.heap ((ownAt Lg it ra rs k ++ SH ra rs).map (·.1))).get? b = some o), Rep (D.grow s₀ (ownAt Lg it ra rs k ++ SH ra rs) hk) (curAt Lg it ra rs k ++ SH ra rs) s →
      Seg D.M A (fun n s₀ r s₁ => r = .ok (.ret .none) ∧ PP D Lg it ra rs n s₀ s₁) (YP D Lg it ra rs) r s₀ (.forLoop (.Name "row" p1) (.ref it) [.Expr (.Yield (some (eltE q1 q2 q3 q4 q5 q6 q7 q8 q9 q10 k1 k2)) p3) p4] [] env)
        (D.M.den (.forLoop (.Name "row" p1) (.ref it) [.Expr (.Yield (some (eltE q1 q2 q3 q4 q5 q6 q7 q8 q9 q10 k1 k2)) p3) p4] [] env)) [.ret kk none false l (.func stmts env) p kp] s := by
  intro r
  induction r with
  | zero =>
    intro k hrk hkn s₀ s hk R
    have e : k = rs.length := by omega
    subst e
    have rm : Room (A.over (.forLoop (.Name "row" p1) (.ref it) [.Expr (.Yield (some (eltE q1 q2 q3 q4 q5 q6 q7 q8 q9 q10 k1 k2)) p3) p4] [] env) [.ret kk none false l (.func stmts env) p kp]) n0 := Room.over2 hr
    obtain ⟨gv, hgv⟩ : ∃ gv, curAt Lg it ra rs rs.length = [(Lg, .ns gv), (it, listIt ra rs.length)] := by
      cases rs.length <;> exact ⟨_, rfl⟩
    rw [hgv] at R
    show Seg _ A _ _ _ s₀ _ ((forTurn (.Name "row" p1) (.ref it) [.Expr (.Yield (some (eltE q1 q2 q3 q4 q5 q6 q7 q8 q9 q10 k1 k2)) p3) p4] [] env).onRaise (fun x => do noteFrame x env; theTreesLotGoes x)) _ s
    simp only [forTurn]
    rw [Sem.onRaise_eq_wrap]
    refine seg_bind_wrap (wpAny_standAt ?_)
    refine seg_bind_wrap (wpAny_onRaise (wpAny_mono (end_list (D := D.grow s₀ _ hk) (L := Lg) (a := ra) (as := rs.map fun p => .ref p.1) rm gv (SH ra rs) s (.head _) (by simpa using R)) (fun v s1 ⟨hv, R1⟩ => ?_) fun _ _ x => x.elim))
    subst hv
    refine seg_again rfl ?_
    refine seg_leaf (.ok .next) ?_
    rw [hkk]
    refine seg_end (.ok (.ret .none)) ⟨rfl, rfl, hk, ?_⟩
    exact R1.sub (.skip (.refl _))
  | succ r ih =>
    intro k hrk hkn s₀ s hk R
    have hlt : k < rs.length := by omega
    have rm : Room (A.over (.forLoop (.Name "row" p1) (.ref it) [.Expr (.Yield (some (eltE q1 q2 q3 q4 q5 q6 q7 q8 q9 q10 k1 k2)) p3) p4] [] env) [.ret kk none false l (.func stmts env) p kp]) n0 := Room.over2 hr
    obtain ⟨row, hgv⟩ : ∃ row, curAt Lg it ra rs k = [(Lg, .ns (gvars ra row)), (it, listIt ra k)] := by
      cases k <;> exact ⟨_, rfl⟩
    rw [hgv] at R
    show Seg _ A _ _ _ s₀ _ ((forTurn (.Name "row" p1) (.ref it) [.Expr (.Yield (some (eltE q1 q2 q3 q4 q5 q6 q7 q8 q9 q10 k1 k2)) p3) p4] [] env).onRaise (fun x => do noteFrame x env; theTreesLotGoes x)) _ s
    simp only [forTurn]
    rw [Sem.onRaise_eq_wrap]
    refine seg_bind_wrap (wpAny_standAt ?_)
    refine seg_bind_wrap (wpAny_onRaise (wpAny_mono (next_list (D := D.grow s₀ _ hk) (L := Lg) (a := ra) (as := rs.map fun p => .ref p.1) (i := k) (x := .ref rs[k].1) (by rw [List.getElem?_map, List.getElem?_eq_getElem hlt]; rfl) (gvars ra row) (SH ra rs) s (.head _) (by simpa using R)) (fun v s1 ⟨w, hv, hw, R1⟩ => ?_) fun _ _ x => x.elim))
    subst hv
    cases (show w = .ref rs[k].1 from hw)
    refine seg_bind_wrap (letGo_list (listIt.at R1 (.tail _ (.head _))) ?_)
    have st : W (D.grow s₀ _ hk) (A.over (.forLoop (.Name "row" p1) (.ref it) [.Expr (.Yield (some (eltE q1 q2 q3 q4 q5 q6 q7 q8 q9 q10 k1 k2)) p3) p4] [] env) [.ret kk none false l (.func stmts env) p kp]) Lg (assign (.Name "row" p1) env (.ref rs[k].1)) (fun _ vs l => vs = gvars ra (some (.ref rs[k].1)) ∧ l = (it, listIt ra (k + 1)) :: SH ra rs) (gvars ra row) ((it, listIt ra (k + 1)) :: SH ra rs) := by
      unfold gvars
      repeat tb_rel
      exact ⟨rfl, rfl⟩
    refine seg_bind_wrap (wpAny_mono (st s1 R1) (fun _ s2 ⟨vs2, led2, R2, e1, e2⟩ => ?_) fun _ _ x => x.elim)
    subst e1 e2
    rw [Sem.bind_eq_wrap', Sem.wrap_wrap]
    refine seg_execs_cons ?_
    have hmem : (rs[k].1, Ob.tup [.str rs[k].2.1, .str rs[k].2.2]) ∈ (it, listIt ra (k + 1)) :: SH ra rs := .tail _ (.tail _ (List.mem_map_of_mem (f := fun (p : Addr × T × T) => (p.1, Ob.tup [.str p.2.1, .str p.2.2])) (List.getElem_mem hlt)))
    refine seg_Expr_Yield rfl rfl rfl (wpAny_mono (iter_elt (D := D.grow s₀ _ hk) (ra := ra) Fd rm hmem s2 R2) (fun v s3 ⟨vs3, led3, R3, hv, e1, hsub⟩ => fun kap hkap => ?_) fun _ _ x => x.elim) hco hint
    subst hv e1
    have R4 := R3.sub (.cons hsub)
    have hown : ownAt Lg it ra rs (k + 1) = [(Lg, .ns (gvars ra (some (.ref rs[k].1)))), (it, listIt ra (k + 1))] := by
      show [(Lg, Ob.ns (gvars ra (rs[k]?.map fun q => AV.ref q.1))), (it, listIt ra (k + 1))] = _
      rw [List.getElem?_eq_getElem hlt]; rfl
    refine ⟨k, rs[k], hk, List.getElem?_eq_getElem hlt, by omega, rfl, by rw [hown]; exact R4, fun s'' led R5 => hkap .none s'' ?_⟩
    refine seg_again rfl (ih (k + 1) (by omega) hlt s'' s'' ?_ ?_)
    · rw [← List.append_assoc] at R5
      exact R5.growOk
    · rw [← List.append_assoc] at R5
      exact R5.grow
end
end Mine
end
section
open PySem PySem.W PySem.Calls PyProof.Rows
set_option maxRecDepth 100000
set_option maxHeartbeats 1000000
set_option autoImplicit false
set_option linter.unusedVariables false
set_option linter.unusedSimpArgs false
namespace Mine
section
variable {D : Wd} {ra Lg it : Addr} {rs : List (Addr × T × T)} {env : Env} {s s₀ : Shared} {led : Led}
abbrev iterBody (q1 q2 q3 q4 q5 q6 q7 q8 q9 q10 p1 p2 p3 p4 p5 : Pos) (k1 k2 : Nat) : List Stmt := [.For (.Name "row" p1) (.Name "rows" p2) [.Expr (.Yield (some (eltE q1 q2 q3 q4 q5 q6 q7 q8 q9 q10 k1 k2)) p3) p4] [] p5]
theorem seg_fresh {A : Around} {n0 : Nat} (hr : Room A (n0 + 1)) (Fd : Fn env Lg ["rows", "col_count", "row"] ["len"]) (hco : env.scope.isCoroutine = false) (hint : interactive env = false) {q1 q2 q3 q4 q5 q6 q7 q8 q9 q10 p1 p2 p3 p4 p5 : Pos} {k1 k2 : Nat}
    (R : Rep D (ownAt Lg it ra rs 0 ++ (SH ra rs ++ led)) s) (hit : it = s.heap.objs.size) :
    Seg D.M A (fun n s₀ r s₁ => r = .ok (.ret .none) ∧ PP D Lg it ra rs n s₀ s₁) (YP D Lg it ra rs) rs.length s (.func (iterBody q1 q2 q3 q4 q5 q6 q7 q8 q9 q10 p1 p2 p3 p4 p5 k1 k2) env) (D.M.den (.func (iterBody q1 q2 q3 q4 q5 q6 q7 q8 q9 q10 p1 p2 p3 p4 p5 k1 k2) env)) [] s := by
  subst hit
  rw [← List.append_assoc] at R
  have R1 := R.grow
  have rm : Room (A.over (.func (iterBody q1 q2 q3 q4 q5 q6 q7 q8 q9 q10 p1 p2 p3 p4 p5 k1 k2) env) []) n0 := Room.over1 hr
  refine seg_func (seg_execs_cons ?_)
  rw [arm_exec_For]
  refine seg_bind_wrap (wpAny_standAt ?_)
  obtain ⟨m, hns, hmm⟩ := R1.frame (vs := gvars ra none) (led := SH ra rs)
  have hrows : m "rows" = some (.ref ra) := by
    have h1 := hmm "rows"
    cases q : m "rows" with
    | none => rw [q] at h1; exact absurd h1 id
    | some v => rw [q] at h1; exact congrArg some (show v = .ref ra from h1)
  have hL := Fd.lo
  refine seg_bind_wrap (wpAny_Name (wpAny_loadName_local Fd.fk (Fd.ls "rows" (.head _)).1 (hL.symm ▸ hns) hrows ?_) (by decide))
  refine seg_bind_wrap (wpAny_of_eq (rfl : foldedSetIterable (.Name "rows" p2) env (.ref ra) = Pure.pure (.ref ra)) ?_)
  refine seg_bind_wrap (wpAny_standAt ?_)
  obtain ⟨vals, n2, hi, hl⟩ := R1.listAt (a := ra) (as := rs.map fun p => .ref p.1) (.tail _ (.head _))
  refine seg_bind_wrap (wpAny_holding (wpAny_pyIter_list (isL hl) ?_))
  refine seg_call fun p => ?_
  exact seg_turns (D := D) (Lg := Lg) (it := s.heap.objs.size) (ra := ra) (rs := rs) hr Fd hco hint rfl rs.length 0 rfl (Nat.zero_le _) s _ R.growOk (R1.pushed (ob := listIt ra 0) (tk := s.toks) rfl ⟨rfl, rfl⟩)
def genOb (g : Nat) : Ob := .sat fun o => ∃ nm qn, o = { cls := .type "generator", data := .fields #[.int g 0, nm, qn] }
theorem genOb.at {a : Addr} {g : Nat} (R : Rep D led s) (hm : (a, genOb g) ∈ led) : s.heap.IsGen a g := by
  obtain ⟨o, ho, nm, qn, rfl⟩ := R.own _ hm
  exact ⟨_, nm, qn, ho, rfl, rfl, rfl⟩
theorem Rep.pushG {c : Code} (R : Rep D led s) : Rep D led { s with gens := s.gens.push (.fresh c) } :=
  ⟨R.keep, R.own, R.fresh, R.nodup, R.os, fun i x h => by
    have h1 := R.gk i x h
    have hi : i < s.gens.size := by
      rcases Nat.lt_or_ge i s.gens.size with q | q
      · exact q
      · rw [Array.getElem?_eq_none q] at h1; cases h1
    show (s.gens.push (.fresh c))[i]? = some x
    rw [Array.getElem?_push_lt hi, ← h1, Array.getElem?_eq_getElem hi], AllBare.push R.bare rfl⟩
theorem Rep.gsize (R : Rep D led s) : D.G.size ≤ s.gens.size := by
  rcases Nat.lt_or_ge s.gens.size D.G.size with q | q
  · have h1 := R.gk s.gens.size D.G[s.gens.size] (Array.getElem?_eq_getElem q)
    rw [Array.getElem?_eq_none (Nat.le_refl _)] at h1
    cases h1
  · exact q
theorem letGo_gen {M : Model} {A : Around} {a : Addr} {g : Nat} {target : Expr} {v : Value} {s : Shared} {Q : Unit → Shared → Prop} {E : Value → Shared → Prop} (h : s.heap.IsGen a g) (hq : Q () s) : wpAny M A (letOwnedTupleGo target (.ref a) v) Q E s := by
  obtain ⟨o, nm, qn, ho, h1, h2, h3⟩ := h
  unfold letOwnedTupleGo
  split
  · cases v with
    | ref b =>
      refine wpAny_bind (wpAny_load ho ?_)
      simp only [h1, h2]
      exact wpAny_pure hq
    | _ => exact wpAny_pure hq
  · cases v with
    | ref b =>
      refine wpAny_bind (wpAny_load ho ?_)
      simp only [h1, h2]
      exact wpAny_pure hq
    | _ => exact wpAny_pure hq
  · exact wpAny_pure hq
theorem Rep.degrow {l0 own own' : Led} {s' : Shared} {hk : ∀ b o, D.B.get? b = some o → (hideAll s.heap (own.map (·.1))).get? b = some o} (R : Rep D l0 s) (R' : Rep (D.grow s own hk) own' s') : Rep D own' s' :=
  ⟨fun b o e => R'.keep b o (hk b o e), R'.own, fun p hp => by
    cases q : D.B.get? p.1 with
    | none => rfl
    | some o =>
      have h1 := R'.fresh p hp
      have h2 : (hideAll s.heap (own.map (·.1))).get? p.1 = some o := hk _ _ q
      exact absurd (h1.symm.trans h2) (by simp), R'.nodup, R'.os.trans R.os, fun i x h => R'.gk i x (R.gk i x h), R'.bare⟩
variable {A : Around} {L : Addr} {vs : Vars} {ls gs : List Str}
/-- the loop over the generator -/
theorem gen_loop {n0 : Nat} {a : Addr} {g : Nat} {target : Expr} {body : List Stmt} {Q : Flow → Vars → Led → Prop} {gs0 : GenState} (hr : Room A (n0 + 2)) (I : List (Addr × T × T) → Vars → Led → Prop)
    (turn : ∀ (D3 : Wd) q rem vs led, I (q :: rem) vs led → W D3 A L (assign target env (.ref q.1)) (fun _ vs led => W D3 A L (execs body env) (fun f vs l => (f = .next ∨ f = .cont) ∧ ∃ l2, Sub (SH ra rs ++ l2) l ∧ I rem vs l2) vs led) vs (SH ra rs ++ led))
    (done : ∀ vs led, I [] vs led → Q .next vs (SH ra rs ++ led))
    (R : Rep D (ownAt Lg it ra rs 0 ++ (SH ra rs ++ ((L, .ns vs) :: (a, genOb g) :: led))) s) (h0 : I rs vs led) (hg : s.gens[g]? = some gs0) (hgD : D.G.size ≤ g)
    (hgo : ∀ s'' led, Rep D (ownAt Lg it ra rs 0 ++ (SH ra rs ++ led)) s'' → it = s''.heap.objs.size → gs0.Goes D.M A.in1 (fun n s₀ r s₁ => r = .ok (.ret .none) ∧ PP D Lg it ra rs n s₀ s₁) (YP D Lg it ra rs) rs.length (.send .none) s'') (hit : it = s.heap.objs.size) :
    codeAny D.M A (.forLoop target (.ref a) body [] env) (fun r s' => match r with | .ok f => Post D L Q f s' | .error e => cameBackBy D.M A env none_E e s') s := by
  refine codeAny_forLoop_any (R := fun r s' => match r with | .ok f => Post D L Q f s' | .error e => cameBackBy D.M A env none_E e s') (fun m s => ∃ k vs led gst, m = rs.length - k ∧ k ≤ rs.length ∧ Rep D (ownAt Lg it ra rs k ++ (SH ra rs ++ ((L, .ns vs) :: (a, genOb g) :: led))) s ∧ I (rs.drop k) vs led ∧ s.gens[g]? = some gst ∧
    (∀ s'' led, Rep D (ownAt Lg it ra rs k ++ (SH ra rs ++ led)) s'' → (k = 0 → it = s''.heap.objs.size) → gst.Goes D.M A.in1 (fun n s₀ r s₁ => r = .ok (.ret .none) ∧ PP D Lg it ra rs n s₀ s₁) (YP D Lg it ra rs) (rs.length - k) (.send .none) s'') ∧ (k = 0 → it = s.heap.objs.size)) ?_ rs.length ⟨0, vs, led, gs0, rfl, Nat.zero_le _, R, h0, hg, fun s'' led R hk => hgo s'' led R (hk rfl), fun _ => hit⟩
  rintro m s ⟨k, vs, led, gst, rfl, hkn, R, hI, hgs, hgo, hit⟩
  have hga : s.heap.IsGen a g := genOb.at R (List.mem_append_right _ (List.mem_append_right _ (.tail _ (.head _))))
  have Rr : Rep D (ownAt Lg it ra rs k ++ (SH ra rs ++ ((L, .ns vs) :: (a, genOb g) :: led))) (s.setGen g .running) := R.setG hgD rfl
  have hgl : g < s.gens.size := by
    rcases Nat.lt_or_ge g s.gens.size with q | q
    · exact q
    · rw [Array.getElem?_eq_none q] at hgs; cases hgs
  obtain ⟨r, hrk⟩ : ∃ r, r = rs.length - k := ⟨_, rfl⟩
  rw [← hrk] at hgo
  have no : ∀ {v : Value} {s1 : Shared} {kap : Resume → Shared → Prop}, YP D Lg it ra rs (r - 1) (s.setGen g .running) v s1 kap → (∀ x s'', ¬ kap x s'') → False := by
    rintro v s1 kap ⟨k', q, hk', -, -, -, R1, hkap⟩ hn
    have R2 := Rr.degrow R1
    rw [← List.append_nil (ownAt Lg it ra rs (k' + 1) ++ SH ra rs), List.append_assoc] at R2
    exact hn _ _ (hkap s1 [] R2)
  have fl := List.append_assoc (ownAt Lg it ra rs k) (SH ra rs) ((L, Ob.ns vs) :: (a, genOb g) :: led)
  refine pyNext_genB (P := PP D Lg it ra rs) (Y := YP D Lg it ra rs) hr.2.2 R.nolimit hr.depth hga hgs (hgo _ _ Rr hit) (fun v s1 gs' hb hY => ?_) (fun s1 hP h' hk => ?_)
  · cases r with
    | zero => exact (no hY fun x s'' q => q).elim
    | succ r =>
      obtain ⟨k', q, hk', hq, hm, rfl, R1, hkap⟩ := hY
      have hk'n : k' < rs.length := by
        rcases Nat.lt_or_ge k' rs.length with q | q
        · exact q
        · rw [List.getElem?_eq_none q] at hq; cases hq
      have ek : k' = k := by omega
      subst ek
      rw [← fl] at Rr
      have R2 := (Rr.ungrow R1).setG hgD hb
      have hgs2 : (s1.setGen g gs').gens[g]? = some gs' := by
        have h1 := R1.gk g .running (setGen_self hgs)
        exact setGen_self h1
      have hga2 : (s1.setGen g gs').heap.IsGen a g := genOb.at R2 (List.mem_append_right _ (.tail _ (.head _)))
      refine letGo_gen hga2 ?_
      have hdrop : rs.drop k' = q :: rs.drop (k' + 1) := by
        rw [List.drop_eq_getElem_cons hk'n]
        congr 1
        rw [List.getElem?_eq_getElem hk'n] at hq
        exact Option.some.inj hq
      rw [hdrop] at hI
      have pm : (ownAt Lg it ra rs (k' + 1) ++ SH ra rs ++ ((L, Ob.ns vs) :: (a, genOb g) :: led)).Perm (((L, Ob.ns vs) :: (SH ra rs ++ led)) ++ (ownAt Lg it ra rs (k' + 1) ++ [(a, genOb g)])) := by
        generalize ownAt Lg it ra rs (k' + 1) = O
        generalize SH ra rs = S
        have e1 : ((L, Ob.ns vs) :: (S ++ led)) ++ (O ++ [(a, genOb g)]) = (L, Ob.ns vs) :: (S ++ (led ++ (O ++ [(a, genOb g)]))) := by simp
        rw [e1]
        refine List.perm_middle.trans (List.Perm.cons _ ?_)
        have e2 : O ++ S ++ (a, genOb g) :: led = (O ++ S) ++ ([(a, genOb g)] ++ led) := by simp
        rw [e2]
        have e3 : S ++ (led ++ (O ++ [(a, genOb g)])) = S ++ ((led ++ O) ++ [(a, genOb g)]) := by simp
        rw [e3]
        refine (List.Perm.append_right _ (List.perm_append_comm (l₁ := O) (l₂ := S))).trans ?_
        rw [List.append_assoc]
        refine List.Perm.append_left S ?_
        refine (List.Perm.append_left O (List.perm_append_comm (l₁ := [(a, genOb g)]) (l₂ := led))).trans ?_
        rw [← List.append_assoc]
        exact List.Perm.append_right _ List.perm_append_comm
      have R3 := R2.perm pm
      refine wpAny_mono (turn (D.grow _ _ R3.growOk) q _ vs led hI _ R3.grow) (fun _ s2 ⟨vs2, led2, R4, h4⟩ => ?_) fun _ _ x => x.elim
      refine wpAny_mono (h4 _ R4) (fun f s3 ⟨vs3, led3, R5, hf, l2, hs2, hI2⟩ => ?_) fun _ _ x => x.elim
      have R6 := R3.ungrow (R5.sub (.cons hs2))
      have pm2 : (((L, Ob.ns vs3) :: (SH ra rs ++ l2)) ++ (ownAt Lg it ra rs (k' + 1) ++ [(a, genOb g)])).Perm (ownAt Lg it ra rs (k' + 1) ++ (SH ra rs ++ ((L, Ob.ns vs3) :: (a, genOb g) :: l2))) := by
        generalize ownAt Lg it ra rs (k' + 1) = O
        generalize SH ra rs = S
        refine List.perm_append_comm.trans ?_
        rw [List.append_assoc]
        refine List.Perm.append_left O ?_
        show ((a, genOb g) :: (L, Ob.ns vs3) :: (S ++ l2)).Perm (S ++ ((L, Ob.ns vs3) :: (a, genOb g) :: l2))
        refine (List.Perm.swap _ _ _).trans ?_
        refine (List.Perm.cons _ List.perm_middle.symm).trans ?_
        exact List.perm_middle.symm
      have R7 := R6.perm pm2
      have next : ∃ m, m < rs.length - k' ∧ ∃ k vs led gst, m = rs.length - k ∧ k ≤ rs.length ∧ Rep D (ownAt Lg it ra rs k ++ (SH ra rs ++ ((L, .ns vs) :: (a, genOb g) :: led))) s3 ∧ I (rs.drop k) vs led ∧ s3.gens[g]? = some gst ∧
          (∀ s'' led, Rep D (ownAt Lg it ra rs k ++ (SH ra rs ++ led)) s'' → (k = 0 → it = s''.heap.objs.size) → gst.Goes D.M A.in1 (fun n s₀ r s₁ => r = .ok (.ret .none) ∧ PP D Lg it ra rs n s₀ s₁) (YP D Lg it ra rs) (rs.length - k) (.send .none) s'') ∧ (k = 0 → it = s3.heap.objs.size) := by
        refine ⟨rs.length - (k' + 1), by omega, k' + 1, vs3, l2, gs', rfl, hk'n, R7, hI2, R5.gk g gs' hgs2, fun s'' led R8 _ => ?_, fun h => absurd h (Nat.succ_ne_zero _)⟩
        have := hkap s'' led R8
        have er : rs.length - (k' + 1) = r := by omega
        rw [er]
        exact this
      rcases hf with rfl | rfl
      · exact next
      · exact next
  · obtain ⟨hm0, hk2, R1⟩ := hP
    subst hm0
    have ek : k = rs.length := by omega
    subst ek
    rw [← fl] at Rr
    have R2 : Rep D (SH ra rs ++ ((L, .ns vs) :: (a, genOb g) :: led)) { s1.setGen g .finished with heap := h' } := ((Rr.ungrow R1).setG hgD rfl).ext (tk := s1.toks) hk
    rw [List.drop_of_length_le (Nat.le_refl _)] at hI
    refine wpAny_execs_nil ⟨vs, _, R2.sub ?_, done vs led hI⟩
    refine ⟨[(a, genOb g)], ?_⟩
    generalize SH ra rs = S
    refine List.perm_middle.trans (List.Perm.cons _ ?_)
    show (S ++ ([(a, genOb g)] ++ led)).Perm ((S ++ led) ++ [(a, genOb g)])
    rw [List.append_assoc]
    exact List.Perm.append_left S (List.perm_append_comm (l₁ := [(a, genOb g)]) (l₂ := led))
def genOk (fd : FuncData) (ls gs : List Str) : Bool :=
  fd.scope.kind == .function && !fd.scope.isCoroutine && fd.scope.isGenerator && fd.globals == mainGlobals && fd.builtins == builtinsNs &&
  (fd.scope.names.all fun x => x.2 != .cell) &&
  decide ls.Nodup && (ls.all fun x => fd.scope.names.lookup x == some .local && !(x == ("__debug__" : Str))) &&
  (gs.all fun x => fd.scope.names.lookup x == some .globalImplicit && !(x == ("__debug__" : Str)))
theorem call_gen {f : Addr} {fd : FuncData} {oc : Value} {od : Option Addr} {osl : Array (Option Value)} {args : List Value} {binds : List (Str × Value)} {stmts : List Stmt} {ls gs : List Str} {vs0 : Vars} {Rr : Result → Shared → Prop}
    (hK : (hd.heap_39 D.w.params).lookup f = some ⟨oc, od, .func fd, osl⟩) (hcd : codeIn (hd.heap_39 D.w.params) fd.code fd.qualname = true) (hroom : A.depth < recursionLimit)
    (hbody : fd.body = .stmts stmts) (hok : genOk fd ls gs = true) (hb : ∀ S, peek (hd.heap_39 D.w.params) S (bindArgs fd ⟨args, []⟩) = some binds) (hbo : bindsOk fd ls (binds.map (·.1)) = true)
    (hvs : varsOf ls binds = vs0) (R : Rep D led s)
    (h : ∀ env a Lg s', Fn env Lg ls gs → env.scope.isCoroutine = false → Rep D ((Lg, .ns vs0) :: (a, genOb s.gens.size) :: led) s' → s'.heap.objs.size = a + 1 → s'.gens = s.gens.push (.fresh (.func stmts env)) → Rr (.ok (.ret (.ref a))) s') :
    codeAny D.M A (.call (.ref f) ⟨args, []⟩) Rr s := by
  subst hvs
  simp only [genOk, Bool.and_eq_true, List.all_eq_true, Bool.not_eq_true', beq_iff_eq, decide_eq_true_eq] at hok
  obtain ⟨⟨⟨⟨⟨⟨⟨⟨h1, h2⟩, h3⟩, h4⟩, h5⟩, h6⟩, hnd⟩, h7⟩, h8⟩ := hok
  simp only [bindsOk, Bool.and_eq_true, List.all_eq_true, decide_eq_true_eq, beq_iff_eq, List.contains_iff_mem] at hbo
  have X := R.inK
  refine codeAny_call_generator hroom (X _ _ hK) rfl h2 h3 hbody (codeRec_of X hcd) (kp_binds X hb _ _ _ _ ?_)
  refine wpAny_newFunctionEnv (fun x hx => by simpa using h6 x hx) (fun x hx => (hbo.2 _ (List.mem_map_of_mem hx)).2) (fun h' hns hsb => ⟨R.nolimit.fresh _ hsb, ?_⟩) h1
  have Fd : Fn (callEnv fd s.heap.objs.size f) s.heap.objs.size ls gs := ⟨h1, rfl, h4, h5, fun x hx => by
      have := h7 x hx; exact ⟨this.1, by simpa using this.2⟩, fun x hx => by have := h8 x hx; exact ⟨this.1, by simpa using this.2⟩⟩
  have R1 := R.addFrame (tk := s.toks + binds.length) (L := s.heap.objs.size) (vs := varsOf ls binds) rfl (frame_ns (by unfold varsOf; rw [List.map_map]; show (ls.map id).Nodup; rw [List.map_id]; exact hnd) hns (varsOf_ok hbo.1 fun p hp => (hbo.2 _ (List.mem_map_of_mem hp)).1)) (fun b o e => hsb.extBut b o (Nat.ne_of_lt (Heap.lt_size e)) (Heap.get?_push_of_some _ e))
  have R2 := (R1.pushed (ob := genOb s.gens.size) (tk := s.toks + binds.length + 1 + 1) (o := { cls := .type "generator", data := .fields #[.int s.gens.size 0, .str fd.name (s.toks + binds.length), .str fd.qualname (s.toks + binds.length + 1)] }) rfl ⟨_, _, rfl⟩).pushG (c := .func stmts (callEnv fd s.heap.objs.size f))
  exact h _ _ _ _ Fd h2 R2 (Heap.size_push ..) rfl
theorem wp_callF2 {E : Value → Shared → Prop} {pos : Pos} {f : Value} {x y : Sem Value} {Q : Value → Shared → Prop} (hk : Looks D.M D.B (keeperOf f) .frame)
    (h : wpAny D.M A x (fun v s1 => wpAny D.M A y (fun w s2 => (∀ b o, D.B.get? b = some o → s2.heap.get? b = some o) ∧ wpAny D.M A (PySem.call f [v, w]) Q E s2) E s1) E s) : wpAny D.M A (PySem.callWith pos f [] [(false, x), (false, y)] []) Q E s := by
  unfold PySem.callWith
  refine wpAny_bind (wpAny_holding (Calls.evalArgs_plain (Calls.spliced_cons (wpAny_mono h (fun v s1 h1 => Calls.spliced_cons (wpAny_mono h1 (fun w s2 h2 => Calls.spliced_nil (wpAny_bind (wpAny_standAt ?_))) fun _ _ x => x)) fun _ _ x => x))))
  simp only [List.any_cons, List.any_nil, Bool.or_false]
  refine wpAny_bind (m := keeperOf f) (hk A _ E s2 h2.1 ?_)
  have fin : ∀ {t : Sem Value}, wpAny D.M A t Q E s2 → wpAny D.M A (t >>= fun r => PySem.holding [r] PySem.point >>= fun _ => Pure.pure r) Q E s2 :=
    fun h => wpAny_bind (wpAny_mono h (fun r s3 q => wpAny_bind (wpAny_holding (wpAny_point (wpAny_pure q)))) fun _ _ x => x)
  dsimp only
  split
  · exact fin h2.2
  · exact fin (Calls.wpAny_keep h2.2)
theorem W.For_iter {n0 : Nat} {target a1 a2 : Expr} {np cp pos : Pos} {body : List Stmt} {Q : Flow → Vars → Led → Prop} (hr : Room A (n0 + 4)) (Fd : Fn env L ls gs) (hgl : ("iter_rows" : Str) ∈ gs)
    (hst : backTo cp (starEach [a1, a2] env) = [(false, eval a1 env), (false, eval a2 env)])
    (h : W D A L (eval a1 env) (fun v vs1 led1 => W D A L (eval a2 env) (fun v2 vs2 led2 => ∃ (ra : Addr) (rs : List (Addr × T × T)) (led0 : Led) (t : Tok) (I : List (Addr × T × T) → Vars → Led → Prop), v = .ref ra ∧ v2 = .int 2 t ∧ Sub (SH ra rs ++ led0) led2 ∧ I rs vs2 led0 ∧
      (∀ (D3 : Wd) q rem vs led, I (q :: rem) vs led → W D3 A L (assign target env (.ref q.1)) (fun _ vs led => W D3 A L (execs body env) (fun f vs l => (f = .next ∨ f = .cont) ∧ ∃ l2, Sub (SH ra rs ++ l2) l ∧ I rem vs l2) vs led) vs (SH ra rs ++ led)) ∧
      (∀ vs led, I [] vs led → Q .next vs (SH ra rs ++ led))) vs1 led1) vs led) :
    W D A L (exec (.For target (.Call (.Name "iter_rows" np) [a1, a2] [] cp) body [] pos) env) Q vs led := fun s R => by
  refine wpAny_For ?_ fun _ => rfl
  show wpAny _ _ (do PySem.callWith cp (← eval (.Name "iter_rows" np) env) [] (backTo cp (starEach [a1, a2] env)) (backToKw cp (keywordEach [] env))) _ _ s
  have g1 : W D A L (eval (.Name "iter_rows" np) env) (fun f vs' led' => f = .ref 252 ∧ vs' = vs ∧ led' = led) vs led := W.glb Fd hgl gl_iter_rows ⟨rfl, rfl, rfl⟩
  refine wpAny_bind (wpAny_mono (g1 s R) (fun f s1 ⟨vs1, led1, R1, e1, e2, e3⟩ => ?_) fun _ _ x => x.elim)
  subst e1 e2 e3
  rw [hst]
  refine wp_callF2 kp_252 (wpAny_mono (h s1 R1) (fun v s2 ⟨vs2, led2, R2, h2⟩ => wpAny_mono (h2 s2 R2) (fun v2 s3 ⟨vs3, led3, R3, ra, rs, led0, t, I, hv, hv2, hsub, h0, turn, done⟩ => ?_) fun _ _ x => x.elim) fun _ _ x => x.elim)
  subst hv hv2
  refine ⟨R3.keep, wpAny_call ?_⟩
  have R4 := R3.sub (.cons hsub)
  refine call_gen (ls := ["rows", "col_count", "row"]) (gs := ["len"]) (binds := [("rows", .ref ra), ("col_count", .int 2 t)]) (vs0 := gvars ra none) rfl (by kernel_rfl) hr.depth rfl (by kernel_rfl) (fun S => by kernel_rfl) (by kernel_rfl) rfl R4 fun genv a Lg s4 Fg hco R5 hsz hgens => ?_
  have hga : s4.heap.IsGen a s3.gens.size := genOb.at R5 (.tail _ (.head _))
  refine wpAny_pyIter_gen hga ?_
  have pm : ((Lg, Ob.ns (gvars ra none)) :: (a, genOb s3.gens.size) :: (L, Ob.ns vs3) :: (SH ra rs ++ led0)).Perm (ownAt Lg (a + 1) ra rs 0 ++ (SH ra rs ++ ((L, Ob.ns vs3) :: (a, genOb s3.gens.size) :: led0))) := by
    refine List.Perm.cons _ ?_
    generalize SH ra rs = S
    refine (List.Perm.swap _ _ _).trans ?_
    refine (List.Perm.cons _ List.perm_middle.symm).trans ?_
    exact List.perm_middle.symm
  refine gen_loop (n0 := n0) (gs0 := .fresh (.func _ genv)) (Lg := Lg) (it := a + 1) (hr.less (by omega)) I turn done (R5.perm pm) h0 (by rw [hgens]; exact Array.getElem?_push_size ..) R3.gsize (fun s'' led R6 hit => ⟨rfl, ?_⟩) hsz.symm
  exact seg_fresh (n0 := n0) (A := A.in1) (Room.in1 (hr.less (by omega))) Fg hco Fg.inter R6 hit
end
end Mine
end
section
open PySem PySem.W PySem.Calls PyProof.Rows
set_option maxRecDepth 100000
set_option maxHeartbeats 1000000
set_option autoImplicit false
set_option linter.unusedVariables false
set_option linter.unusedSimpArgs false
namespace Mine
theorem Sub.app {l l' : Led} (s : Led) (h : Sub l l') : Sub (s ++ l) (s ++ l') := by
  induction s with
  | nil => exact h
  | cons a r ih => exact .cons ih
theorem permC {α : Type} {l₁ l₂ : List α} (h : ∀ (_ : DecidableEq α) (z : α), l₁.count z = l₂.count z) : l₁.Perm l₂ := by
  letI : DecidableEq α := fun a b => Classical.propDecidable (a = b)
  exact List.perm_iff_count.mpr (h _)
theorem Sub.of_perm {l l' : Led} (h : l'.Perm l) : Sub l l' := .perm h
section
variable {D : Wd} {A : Around} {t : Tok} {Q : Value → Led → Prop} {R : Led} {x dx b : Addr} {st w at_ : Int} {buf : List T} {y : T} {ts : Option Addr} {ra : Addr} {rs : List (Addr × T × T)}
theorem wt_d {t1 t2 : Tok} (room : Room A 30) (hx : TextFit y) (hw : 0 < w ∧ w ≤ 10000)
    (h : ∀ t (c' : Addr), Q (.str (S (wrappedL w [] [] y)) t) (TabL 255 wq wpos (some c') ++ R)) : Cl D A (.ref 260) [.str (S y) t1, .int w t2] [("preserve_paragraphs", .bool true)] Q (TabL 255 wq wpos ts ++ R) :=
  wt_spec (st := ts) (x := y) (ini := []) (sub := []) (t1 := t1) (t2 := t2) (t3 := 656) (t4 := 657) (fun fd hfd Z => by obtain rfl := Option.some.inj (show some _ = some fd from hfd); kernel_rfl) room hx.tx hx.len hw Ln.nil Ln.nil (by simp) (by simp) hx.good h
def dlAll (n : Nat) (w col sp : Int) (rs : List (T × T)) : List T := (rs.map fun p => dlRow n w col sp p.1 p.2).flatten
def dlTail (k : Nat) : List T → List T
  | [] => [[10]]
  | l :: ls => (l ++ [10]) :: ls.map fun z => List.replicate k 32 ++ z ++ [10]
theorem dlRow_tail {n : Nat} {w col sp : Int} {tt mm : T} (hmm : mm ≠ []) : dlRow n w col sp tt mm = [List.replicate n 32 ++ tt] ++ ((if (tt.length : Int) ≤ col - sp then [List.replicate (col - (tt.length : Int)).toNat 32] else [[10], List.replicate (col + (n : Int)).toNat 32]) ++ dlTail (col + (n : Int)).toNat (linesL (wrappedL (max (w - col - 2) 10) [] [] mm))) := by
  unfold dlRow
  rw [if_neg hmm]
  cases linesL (wrappedL (max (w - col - 2) 10) [] [] mm) <;> rfl
theorem linesL_facts {x : T} {N : Nat} (hc : x.count 10 ≤ 3200) (hl : x.length ≤ N) : (linesL x).length ≤ 3201 ∧ ((linesL x).map (·.length)).sum ≤ N := by
  have h := lawLines_facts hc hl
  unfold lawLines at h
  split at h
  · rename_i e; rw [e]; simp
  · rename_i e; rw [e]; exact h
theorem dlTail_len (k : Nat) (l : List T) : (dlTail k l).length ≤ l.length + 1 := by cases l <;> simp [dlTail]
theorem dlRow_count {n : Nat} {w col sp : Int} {tt mm : T} (hf : TextFit mm) : (dlRow n w col sp tt mm).length ≤ 3210 := by
  by_cases h : mm = []
  · subst h; unfold dlRow; rw [if_pos rfl]; simp
  · rw [dlRow_tail h]
    have h1 := wrapped_facts (w := max (w - col - 2) 10) hf.good hf.tx hf.len Ln.nil Ln.nil
    have h2 := wrapped_len (w := max (w - col - 2) 10) (K := 0) hf.good hf.tx hf.len Ln.nil Ln.nil (by simp) (by simp)
    have h3 := linesL_facts h1.2 h2
    have h4 := dlTail_len (col + (n : Int)).toNat (linesL (wrappedL (max (w - col - 2) 10) [] [] mm))
    simp only [List.length_append]
    split <;> simp only [List.length_cons, List.length_nil] <;> omega
theorem dlAll_count {n : Nat} {w col sp : Int} : ∀ {rs : List (T × T)}, (∀ p ∈ rs, TextFit p.2) → (dlAll n w col sp rs).length ≤ rs.length * 3210
  | [], _ => by simp [dlAll]
  | p :: r, h => by
    have h1 := dlRow_count (n := n) (w := w) (col := col) (sp := sp) (tt := p.1) (h p (.head _))
    have h2 := dlAll_count (n := n) (w := w) (col := col) (sp := sp) fun q hq => h q (.tail _ hq)
    have e : dlAll n w col sp (p :: r) = dlRow n w col sp p.1 p.2 ++ dlAll n w col sp r := by unfold dlAll; rw [List.map_cons, List.flatten_cons]
    rw [e, List.length_append, List.length_cons, Nat.succ_mul]
    omega
theorem dlAll_snoc (n : Nat) (w col sp : Int) (pre : List (T × T)) (q : T × T) : dlAll n w col sp (pre ++ [q]) = dlAll n w col sp pre ++ dlRow n w col sp q.1 q.2 := by
  unfold dlAll; rw [List.map_append, List.flatten_append]; simp
theorem write_dl_spec {n : Nat} {most sp : Int} {t1 t2 : Tok} (room : Room A 40) (ha : at_ = (n : Int)) (hn : n ≤ 100) (hw : 0 < w ∧ w ≤ 10000) (hm : 1 ≤ most ∧ most ≤ 12) (hsp : 1 ≤ sp ∧ sp ≤ 3) (hne : rs ≠ []) (hlen : rs.length ≤ 3) (hfit : ∀ p ∈ rs, RowFit p.2) (hz : buf.length ≤ 40000)
    (h : ∀ ts', Q .none (Pg x dx b st w at_ (buf ++ dlAll n w (colOf (rs.map (·.2)) most sp) sp (rs.map (·.2))) ++ ((240, tabG) :: (TabL 255 wq wpos ts' ++ ((ra, RA rs) :: (RT rs ++ R)))))) :
    Cl D A (.ref 333) [.ref x, .ref ra, .int most t1, .int sp t2] [] Q (Pg x dx b st w at_ buf ++ ((240, tabG) :: (TabL 255 wq wpos ts ++ ((ra, RA rs) :: (RT rs ++ R))))) := by
  subst ha
  refine Cl.def_ (n := 39) (ls := ["self", "rows", "col_max", "col_spacing", "widths", "first_col", "first", "second", "text_width", "wrapped_text", "lines", "line"]) (gs := ["list", "measure_table", "len", "TypeError", "min", "iter_rows", "term_len", "max", "wrap_text"])
    (binds := [("self", .ref x), ("rows", .ref ra), ("col_max", .int most t1), ("col_spacing", .int sp t2)]) (by rfl) (by kernel_rfl) room (by rfl) (by kernel_rfl) (fun S => by kernel_rfl) (by kernel_rfl)
    (vs := [("self", some (.ref x)), ("rows", some (.ref ra)), ("col_max", some (.int most)), ("col_spacing", some (.int sp)), ("widths", none), ("first_col", none), ("first", none), ("second", none), ("text_width", none), ("wrapped_text", none), ("lines", none), ("line", none)]) (by rfl) fun env L A' F rm => ?_
  have hrl : (rs.map fun p => AV.ref p.1).length ≤ 10000000 := by rw [List.length_map]; omega
  have hraM : (ra, RA rs) ∈ Pg x dx b st w (n : Int) buf ++ ((240, tabG) :: (TabL 255 wq wpos ts ++ ((ra, RA rs) :: (RT rs ++ R)))) := by simp
  repeat tb_rel
  refine W.list_copy hraM hrl fun rc => ?_
  repeat tb_rel
  refine W.use (P := (240, tabG) :: (rc, RA rs) :: RT rs) (R := Pg x dx b st w (n : Int) buf ++ (TabL 255 wq wpos ts ++ ((ra, RA rs) :: R))) (Take.of_perm (by simp) ?_) (measure_spec (R := _) (rm.less (by decide)) hne (by omega) hfit fun wt => Back.intro (P := (wt, .tup [.int (maxI (tsOf (rs.map (·.2)))), .int (maxI (msOf (rs.map (·.2))))]) :: (240, tabG) :: (rc, RA rs) :: RT rs) ?_)
  · refine permC fun _ z => ?_
    simp only [RA, List.count_append, List.count_cons, List.cons_append, List.nil_append]
    omega
  simp only [List.cons_append]
  repeat tb_rel
  tb_start
  repeat tb_rel
  have hcol : min (maxI (tsOf (rs.map (·.2)))) most + sp = colOf (rs.map (·.2)) most sp := by unfold colOf tsOf; rw [List.map_map]
  have hmax : 0 ≤ maxI (tsOf (rs.map (·.2))) := by
    have key : ∀ (l : List Int) (m : Int), 0 ≤ m → 0 ≤ l.foldl max m := fun l => by
      induction l with
      | nil => intro m h; exact h
      | cons a r ih => intro m h; exact ih _ (by omega)
    exact key _ _ (by omega)
  rw [hcol]
  have hc1 : 1 ≤ colOf (rs.map (·.2)) most sp ∧ colOf (rs.map (·.2)) most sp ≤ 15 := by rw [← hcol]; omega
  generalize colOf (rs.map (·.2)) most sp = col at *
  let VV : Option AV → Option AV → Option AV → Option AV → Option AV → Option AV → Vars := fun fi se tw wr li ln => [("self", some (.ref x)), ("rows", some (.ref rc)), ("col_max", some (.int most)), ("col_spacing", some (.int sp)), ("widths", some (.ref wt)), ("first_col", some (.int col)), ("first", fi), ("second", se), ("text_width", tw), ("wrapped_text", wr), ("lines", li), ("line", ln)]
  let LED : List T → Option Addr → Led := fun bf t' => Pg x dx b st w (n : Int) bf ++ ((240, tabG) :: (TabL 255 wq wpos t' ++ ((wt, .tup [.int (maxI (tsOf (rs.map (·.2)))), .int (maxI (msOf (rs.map (·.2))))]) :: (ra, RA rs) :: R)))
  refine W.cutN (fun vs led => ∃ fi se tw wr li ln t', vs = VV fi se tw wr li ln ∧ Sub (SH rc rs ++ LED (buf ++ dlAll n w col sp (rs.map (·.2))) t') led) ?_ fun vs led ⟨fi, se, tw, wr, li, ln, t', e, hsub⟩ => ?_
  · refine W.For_iter (n0 := 35) rm F (by decide) rfl ?_
    repeat tb_rel
    refine ⟨rc, rs, LED buf ts, _, fun rem vs led => ∃ (pre : List (Addr × T × T)) (fi se tw wr li ln : Option AV) (t' : Option Addr), rs = pre ++ rem ∧ vs = VV fi se tw wr li ln ∧ Sub (LED (buf ++ dlAll n w col sp (pre.map (·.2))) t') led, rfl, rfl, ?_, ?_, ?_, ?_⟩
    · refine .perm (permC fun _ z => ?_)
      simp only [LED, RA, List.count_append, List.count_cons, List.cons_append, List.nil_append, List.count_nil]
      omega
    · exact ⟨[], _, _, _, _, _, _, ts, rfl, rfl, by rw [show dlAll n w col sp (List.map (·.2) ([] : List (Addr × T × T))) = [] from rfl, List.append_nil]; exact .refl _⟩
    · rintro D3 q rem vs led ⟨pre, fi, se, tw, wr, li, ln, t', hpr, rfl, hs2⟩
      have hqm : q ∈ rs := by rw [hpr]; simp
      have hmem : (q.1, Ob.tup [.str q.2.1, .str q.2.2]) ∈ RT rs := List.mem_map_of_mem (f := fun (p : Addr × T × T) => (p.1, Ob.tup [.str p.2.1, .str p.2.2])) hqm
      have hq := hfit q hqm
      have hsn := dlAll_snoc n w col sp (pre.map (·.2)) q.2
      have hbl : (buf ++ dlAll n w col sp (pre.map (·.2))).length ≤ 60000 := by
        have h1 := dlAll_count (n := n) (w := w) (col := col) (sp := sp) (rs := pre.map (·.2)) fun p hp => by
          obtain ⟨z, hz, rfl⟩ := List.mem_map.mp hp
          exact (hfit z (by rw [hpr]; simp [hz])).fit
        have h2 := congrArg List.length hpr
        simp only [List.length_append, List.length_cons, List.length_map] at h1 h2 ⊢
        omega
      let X : Option Addr → Led := fun t' => TabL 255 wq wpos t' ++ ((240, tabG) :: (wt, .tup [.int (maxI (tsOf (rs.map (·.2)))), .int (maxI (msOf (rs.map (·.2))))]) :: (ra, RA rs) :: (rc, RA rs) :: (RT rs ++ R))
      have hX : ∀ bf t', (SH rc rs ++ LED bf t').Perm (Pg x dx b st w (n : Int) bf ++ X t') := fun bf t' => permC fun _ z => by
        simp only [LED, X, RA, List.count_append, List.count_cons, List.cons_append, List.nil_append, List.count_nil]
        omega
      have hqX : ∀ t', (q.1, Ob.tup [.str q.2.1, .str q.2.2]) ∈ X t' := fun t' => List.mem_append_right _ (.tail _ (.tail _ (.tail _ (.tail _ (List.mem_append_left _ hmem)))))
      refine W.sub (Sub.trans (.perm (hX _ _)) (hs2.app _)) ?_
      have hback : ∀ {vs : Vars} {l : Led} {f : Flow} {fi se tw wr li ln : Option AV} {t'' : Option Addr} {bf : List T}, (f = .next ∨ f = .cont) → bf = buf ++ dlAll n w col sp ((pre ++ [q]).map (·.2)) → vs = VV fi se tw wr li ln → Sub (Pg x dx b st w (n : Int) bf ++ X t'') l →
          (f = .next ∨ f = .cont) ∧ ∃ l2, Sub (SH rc rs ++ l2) l ∧ ∃ (pre : List (Addr × T × T)) (fi se tw wr li ln : Option AV) (t' : Option Addr), rs = pre ++ rem ∧ vs = VV fi se tw wr li ln ∧ Sub (LED (buf ++ dlAll n w col sp (pre.map (·.2))) t') l2 := fun hf hbf hvs hsb =>
        ⟨hf, LED _ _, Sub.trans (.perm (hX _ _).symm) hsb, pre ++ [q], _, _, _, _, _, _, _, by rw [hpr]; simp, hvs, by subst hbf; exact .refl _⟩
      rw [List.map_append, List.map_cons, List.map_nil, hsn, ← List.append_assoc] at hback
      generalize buf ++ dlAll n w col sp (pre.map (·.2)) = bf at *
      obtain ⟨qa, tt, mm⟩ := q
      dsimp only at hq hmem hqX hback
      have hln := hq.ln
      have hql : tt.length ≤ 50 := hq.len
      have hfit1 := hq.fit
      have hesc : 27 ∉ tt := hln.tx.esc
      have hml : mm.length ≤ 700 := hfit1.len
      have hmz : mm.length ≤ 10000000 := by omega
      have htz : tt.length ≤ 1000000 := by omega
      have hd := digs_len (n := n) (by omega)
      have hrn : (List.replicate n 32).length = n := List.length_replicate
      refine W.assign_two (p := .str tt) (q := .str mm) rm (.tail _ (.tail _ (.tail _ (hqX _)))) ?_
      dsimp only [VV, Pg, LS, List.cons_append, List.nil_append]
      repeat tb_rel
      simp only [List.nil_append, List.append_nil, List.length_nil, Nat.sub_zero]
      refine W.use (P := Pg x dx b st w (n : Int) bf) (by dsimp only [Pg]; kspl_open m_take) (write_spec (rm.less (by decide)) (by omega) (Back.intro ?_))
      dsimp only [Pg, LS, List.cons_append, List.nil_append]
      repeat tb_rel
      have hb1 : (bf ++ [List.replicate n 32 ++ tt]).length ≤ 60001 := by simp; omega
      by_cases hmm : mm = []
      · subst hmm
        have e : bf ++ dlRow n w col sp tt [] = bf ++ [List.replicate n 32 ++ tt] ++ [[10]] := by unfold dlRow; rw [if_pos rfl]; simp
        rw [e] at hback
        generalize bf ++ [List.replicate n 32 ++ tt] = b1 at *
        refine way_t (by rfl) ?_
        repeat tb_rel
        refine W.use (P := Pg x dx b st w (n : Int) b1) (by dsimp only [Pg]; kspl_open m_take) (write_spec (rm.less (by decide)) (by omega) (Back.intro ?_))
        dsimp only [Pg, LS, List.cons_append, List.nil_append]
        repeat tb_rel
        exact hback (.inr rfl) rfl rfl (.refl _)
      · refine way_f (by cases mm with
          | nil => exact absurd rfl hmm
          | cons c r => rfl) ?_
        rw [dlRow_tail hmm, ← List.append_assoc, ← List.append_assoc] at hback
        generalize bf ++ [List.replicate n 32 ++ tt] = b1 at *
        generalize hpad : (if (tt.length : Int) ≤ col - sp then [List.replicate (col - (tt.length : Int)).toNat 32] else [[10], List.replicate (col + (n : Int)).toNat 32]) = pad at *
        tb_rel
        tb_rel
        refine W.cut (fun vs led => vs = VV (some (.str tt)) (some (.str mm)) tw wr li ln ∧ Sub (Pg x dx b st w (n : Int) (b1 ++ pad) ++ X t') led) ?_ fun vs led ⟨e, hsub⟩ => ?_
        · dsimp only [VV, Pg, LS, List.cons_append, List.nil_append]
          repeat tb_rel
          refine W.use .nil (term_len_spec (rm.less (by decide)) hesc htz fun t => Back.intro (P := []) ?_)
          dsimp only [List.nil_append]
          repeat tb_rel
          tb_start
          · rename_i hC
            rw [if_pos hC] at hpad
            subst hpad
            repeat tb_rel
            refine W.use .nil (term_len_spec (rm.less (by decide)) hesc htz fun t => Back.intro (P := []) ?_)
            dsimp only [List.nil_append]
            repeat tb_rel
            refine W.use (P := Pg x dx b st w (n : Int) b1) (by dsimp only [Pg]; kspl_open m_take) (write_spec (rm.less (by decide)) (by omega) (Back.intro ?_))
            repeat tb_rel
            exact ⟨rfl, rfl, .refl _⟩
          · rename_i hC
            rw [if_neg hC] at hpad
            subst hpad
            repeat tb_rel
            refine W.use (P := Pg x dx b st w (n : Int) b1) (by dsimp only [Pg]; kspl_open m_take) (write_spec (rm.less (by decide)) (by omega) (Back.intro ?_))
            dsimp only [Pg, LS, List.cons_append, List.nil_append]
            repeat tb_rel
            refine W.use (P := Pg x dx b st w (n : Int) (b1 ++ [[10]])) (by dsimp only [Pg, LS]; kspl_open m_take) (write_spec (rm.less (by decide)) (by simp; omega) (Back.intro ?_))
            rw [List.append_assoc]
            repeat tb_rel
            exact ⟨rfl, rfl, .refl _⟩
        · subst e
          refine W.sub hsub ?_
          clear hsub
          have hpl : pad.length ≤ 2 := by rw [← hpad]; split <;> simp
          have hb2 : (b1 ++ pad).length ≤ 60003 := by rw [List.length_append]; omega
          generalize b1 ++ pad = b2 at *
          have hW : 0 < max (w - col - 2) 10 ∧ max (w - col - 2) 10 ≤ 10000 := by omega
          dsimp only [VV, Pg, LS, List.cons_append, List.nil_append]
          repeat tb_rel
          refine W.use (P := TabL 255 wq wpos t') (Take.of_perm TabL_ne (List.perm_append_comm_assoc [_, _, _] (TabL 255 wq wpos t') _)) (wt_d (rm.less (by decide)) hfit1 hW fun t c' => Back.intro (P := TabL 255 wq wpos (some c')) ?_)
          have hwf := wrapped_facts (w := max (w - col - 2) 10) hfit1.good hfit1.tx hfit1.len Ln.nil Ln.nil
          have hwl := wrapped_len (w := max (w - col - 2) 10) (K := 0) hfit1.good hfit1.tx hfit1.len Ln.nil Ln.nil (by simp) (by simp)
          generalize wrappedL (max (w - col - 2) 10) [] [] mm = wx at *
          have hll := linesL_facts hwf.2 hwl
          have hwz : wx.length ≤ 1000000 := by omega
          refine W.sub (led' := Pg x dx b st w (n : Int) b2 ++ X (some c')) (Sub.perm (List.perm_append_comm_assoc (TabL 255 wq wpos (some c')) [_, _, _] _)) ?_
          dsimp only [VV, Pg, LS, List.cons_append, List.nil_append]
          repeat tb_rel
          refine W.lines0 (fun c hc => ⟨break_of (hwf.1 c hc), by have := hwf.1 c hc; unfold okc at this; omega⟩) hwz fun la => ?_
          generalize linesL wx = lns at *
          have hlnl : lns.length ≤ 10000000 := by omega
          cases lns with
          | nil =>
            dsimp only [LS, List.map]
            repeat tb_rel
            refine way_f rfl ?_
            repeat tb_rel
            refine W.use (P := Pg x dx b st w (n : Int) b2) (by dsimp only [Pg]; kspl_open m_take) (write_spec (rm.less (by decide)) (by omega) (Back.intro ?_))
            dsimp only [Pg, LS, List.cons_append, List.nil_append]
            repeat tb_rel
            have htail : dlTail (col + (n : Int)).toNat [] = [[10]] := rfl
            rw [htail] at hback
            exact hback (t'' := some c') (.inl rfl) rfl rfl (by dsimp only [Pg, LS, List.cons_append, List.nil_append]; kspl_open m_sub)
          | cons l0 ls =>
            obtain ⟨c, rfl⟩ : ∃ c : Nat, col = (c : Int) := ⟨col.toNat, by omega⟩
            have hcn : ((c : Int) + (n : Int)) = ((c + n : Nat) : Int) := by omega
            have hd2 := digs_len (n := c + n) (by omega)
            simp only [List.map_cons, List.sum_cons, List.length_cons] at hll
            have hl0 : l0.length ≤ 100000 := by omega
            dsimp only [LS, List.map]
            repeat tb_rel
            refine way_t rfl ?_
            repeat tb_rel
            simp only [List.nil_append]
            refine W.use (P := Pg x dx b st w (n : Int) b2) (by dsimp only [Pg]; kspl_open m_take) (write_spec (rm.less (by decide)) (by omega) (Back.intro ?_))
            dsimp only [Pg, LS, List.cons_append, List.nil_append]
            repeat tb_rel
            have hb3 : (b2 ++ [l0 ++ [10]]).length ≤ 60004 := by simp; omega
            rw [hcn] at hback
            have htail : dlTail ((c + n : Nat) : Int).toNat (l0 :: ls) = [l0 ++ [10]] ++ ls.map (lineRest (c + n)) := by rw [Int.toNat_natCast]; rfl
            rw [htail, ← List.append_assoc] at hback
            generalize b2 ++ [l0 ++ [10]] = b3 at *
            refine W.For_list rm (fun _ => rfl) ?_
            repeat tb_rel
            rename_i lb
            refine ⟨lb, ls.map .str, fun rem vs led => ∃ (dn td : List T) (ln : Option AV), ls = dn ++ td ∧ rem = td.map .str ∧ vs = VV (some (.str tt)) (some (.str mm)) (some (.int (max (w - (c : Int) - 2) 10))) (some (.str wx)) (some (.ref la)) ln ∧ Sub ((lb, LS ls) :: (Pg x dx b st w (n : Int) (b3 ++ dn.map (lineRest (c + n))) ++ X (some c'))) led, rfl, ?_, ?_, ?_, ?_⟩
            · rintro r vs led ⟨dn, td, ln, -, -, -, hs3⟩
              exact hs3.mem (.head _)
            · exact ⟨[], ls, _, rfl, rfl, rfl, by rw [List.map_nil, List.append_nil]; dsimp only [Pg, LS, List.cons_append, List.nil_append]; kspl_open m_sub⟩
            · rintro z2 r vs led it2 ob2 v hv ⟨dn, td, ln, hdt, hrem, rfl, hs3⟩
              cases td with
              | nil => cases hrem
              | cons y td2 =>
                rw [List.map_cons] at hrem
                injection hrem with hz1 hz2
                subst hz1 hz2
                obtain ⟨tv, rfl⟩ := hv
                have hyl : y.length ≤ 100000 := Nat.le_trans (le_sum_mem (List.mem_map_of_mem (f := fun z : T => z.length) (by rw [hdt]; simp : y ∈ ls))) (Nat.le_trans (Nat.le_add_left _ l0.length) (Nat.le_trans hll.2 (by omega)))
                have hdl : dn.length ≤ 3200 := by
                  have e1 := congrArg List.length hdt
                  simp only [List.length_append, List.length_cons] at e1
                  omega
                have hb4 : (b3 ++ dn.map (lineRest (c + n))).length ≤ 70000 := by rw [List.length_append, List.length_map]; omega
                have hnew : b3 ++ (dn ++ [y]).map (lineRest (c + n)) = (b3 ++ dn.map (lineRest (c + n))) ++ [lineRest (c + n) y] := by rw [List.map_append, List.append_assoc]; rfl
                generalize b3 ++ dn.map (lineRest (c + n)) = b4 at *
                refine W.sub (.cons hs3) ?_
                dsimp only [VV, Pg, LS, List.cons_append, List.nil_append]
                repeat tb_rel
                rw [hcn]
                repeat tb_rel
                simp only [List.nil_append, List.append_nil, List.length_nil, Nat.sub_zero]
                refine W.use (P := Pg x dx b st w (n : Int) b4) (by dsimp only [Pg]; kspl_open m_take) (write_spec (rm.less (by decide)) (by omega) (Back.intro ?_))
                dsimp only [Pg, LS, List.cons_append, List.nil_append]
                repeat tb_rel
                exact ⟨(lb, LS ls) :: (Pg x dx b st w (n : Int) (b4 ++ [lineRest (c + n) y]) ++ X (some c')), by dsimp only [Pg, LS, lineRest, List.cons_append, List.nil_append]; kspl_open m_sub, dn ++ [y], td2, _, by rw [hdt]; simp, rfl, rfl, by rw [hnew]; exact .refl _⟩
            · rintro vs led ⟨dn, td, ln, hdt, hrem, rfl, hs3⟩
              cases td with
              | cons a b => cases hrem
              | nil =>
                rw [List.append_nil] at hdt
                subst hdt
                refine W.sub (Sub.trans (.skip (.refl _)) hs3) ?_
                repeat tb_rel
                exact hback (t'' := some c') (.inl rfl) rfl rfl (.refl _)
    · rintro vs led ⟨pre, fi, se, tw, wr, li, ln, t', hpr, rfl, hs2⟩
      rw [List.append_nil] at hpr
      subst hpr
      exact ⟨rfl, _, _, _, _, _, _, _, rfl, hs2.app _⟩
  · subst e
    refine W.sub hsub ?_
    repeat tb_rel
    refine ⟨_, ⟨[(rc, RA rs), (wt, .tup [.int (maxI (tsOf (rs.map (·.2)))), .int (maxI (msOf (rs.map (·.2))))])], permC fun _ z => ?_⟩, h t'⟩
    simp only [LED, RA, List.count_append, List.count_cons, List.cons_append, List.nil_append, List.count_nil]
    omega
end
end Mine
end
section
set_option autoImplicit false
set_option linter.unusedVariables false
set_option linter.unusedSimpArgs false
namespace Mine
theorem RowOk.tail {r : T} (h : RowOk (32 :: r)) : RowOk r := by
  rcases h with h | h | ⟨k, hk, h⟩
  · cases h
  · refine .inr (.inl ⟨fun c hc => h.plain c (.tail _ hc), ?_, ?_, ?_⟩)
    · have := h.firm
      exact this
    · have := h.short; simp at this; omega
    · have h2 := h.lead
      have e : lstrip (32 :: r) = lstrip r := rfl
      unfold Lead at h2 ⊢
      rw [e] at h2
      simp at h2; omega
  · have : k = 0 ∨ k = 1 := by omega
    rcases this with rfl | rfl
    · cases h
    · obtain ⟨-, rfl⟩ := List.cons.inj h
      exact .inr (.inr ⟨0, by omega, rfl⟩)
theorem RowOk.init {r : T} (h : RowOk (r ++ [32])) : RowOk r := by
  rcases h with h | h | ⟨k, hk, h⟩
  · simp at h
  · have hf : blank r = false := by
      have := h.firm
      rw [blank_app] at this
      simpa [blank] using this
    refine .inr (.inl ⟨fun c hc => h.plain c (List.mem_append_left _ hc), hf, ?_, ?_⟩)
    · have := h.short; simp at this; omega
    · have h2 := h.lead
      unfold Lead at h2 ⊢
      rw [lstrip_app, if_neg (fun e => by rw [lstrip_blank e] at hf; cases hf)] at h2
      simp at h2; omega
  · have := congrArg List.getLast? h
    simp at this
theorem RowOk.good {r : T} (h : RowOk r) : GoodLine r := by
  rcases h with rfl | h | ⟨k, hk, rfl⟩
  · exact ⟨fun c hc => (nomatch hc), fun q => absurd rfl q, fun q => (nomatch q), by simp⟩
  · refine ⟨fun c hc => ?_, fun _ e => ?_, fun e => ?_, ?_⟩
    · have := h.plain c hc; unfold lnc; omega
    · have := h.firm; rw [lstrip_blank e] at this; cases this
    · exfalso
      have h8 : 8 ∈ r := by
        have : 8 ∈ stripL PySem.Unicode.isSpace true true r := by rw [e]; exact .head _
        unfold stripL at this
        simp only [if_true] at this
        rw [List.mem_reverse] at this
        have := List.dropWhile_sublist _ |>.subset this
        rw [List.mem_reverse] at this
        exact (List.dropWhile_sublist _).subset this
      have := h.plain 8 h8
      omega
    · have := h.lead; unfold Lead at this; omega
  · have hk2 : k = 0 ∨ k = 1 := by omega
    have e : lstrip (List.replicate k 32 ++ [8]) = [8] := by rcases hk2 with rfl | rfl <;> rfl
    refine ⟨fun c hc => ?_, fun _ => by rw [e]; simp, fun _ => e, by rw [e]; simp; omega⟩
    rcases List.mem_append.mp hc with hc | hc
    · have := (List.mem_replicate.mp hc).2; unfold lnc; omega
    · rw [List.mem_singleton] at hc; unfold lnc; omega
theorem RowOk.ln {r : T} (h : RowOk r) : Ln r := h.good.ln
def GT (x : T) : Prop := ∀ p ∈ splitL 10 x, RowOk p
theorem GT.tail {c : Nat} {x : T} (h : GT (c :: x)) (hc : c = 32 ∨ c = 10) : GT x := by
  unfold GT splitL at h
  rcases hc with rfl | rfl
  · rw [if_neg (by decide)] at h
    intro p hp
    cases q : splitL 10 x with
    | nil => rw [q] at hp; cases hp
    | cons a b =>
      rw [q] at h hp
      rcases List.mem_cons.mp hp with rfl | hp
      · exact (h _ (.head _)).tail
      · exact h p (.tail _ hp)
  · rw [if_pos rfl] at h
    exact fun p hp => h p (.tail _ hp)
theorem splitL_snoc (c : Nat) : ∀ x : T, ∃ a b, splitL 10 x = a ++ [b] ∧ splitL 10 (x ++ [c]) = if c = 10 then a ++ [b, []] else a ++ [b ++ [c]]
  | [] => ⟨[], [], rfl, rfl⟩
  | d :: r => by
    obtain ⟨a, b, h1, h2⟩ := splitL_snoc c r
    have e1 : splitL 10 (d :: r) = if d = 10 then [] :: splitL 10 r else match splitL 10 r with | [] => [[d]] | p :: q => (d :: p) :: q := rfl
    have e2 : splitL 10 (d :: r ++ [c]) = if d = 10 then [] :: splitL 10 (r ++ [c]) else match splitL 10 (r ++ [c]) with | [] => [[d]] | p :: q => (d :: p) :: q := rfl
    rw [e1, e2, h1, h2]
    by_cases hd : d = 10
    · refine ⟨[] :: a, b, by rw [if_pos hd]; rfl, ?_⟩
      rw [if_pos hd]
      split <;> rfl
    · rw [if_neg hd, if_neg hd]
      by_cases hc : c = 10
      · rw [if_pos hc]
        cases a with
        | nil => exact ⟨[], d :: b, rfl, by rw [if_pos hc]; rfl⟩
        | cons p q => exact ⟨(d :: p) :: q, b, rfl, by rw [if_pos hc]; rfl⟩
      · rw [if_neg hc]
        cases a with
        | nil => exact ⟨[], d :: b, rfl, by rw [if_neg hc]; rfl⟩
        | cons p q => exact ⟨(d :: p) :: q, b, rfl, by rw [if_neg hc]; rfl⟩
theorem GT.init {c : Nat} {x : T} (h : GT (x ++ [c])) (hc : c = 32 ∨ c = 10) : GT x := by
  obtain ⟨a, b, h1, h2⟩ := splitL_snoc c x
  unfold GT at h ⊢
  rw [h2] at h
  rw [h1]
  intro p hp
  rcases hc with rfl | rfl
  · rw [if_neg (by decide)] at h
    rcases List.mem_append.mp hp with hp | hp
    · exact h p (List.mem_append_left _ hp)
    · rw [List.mem_singleton] at hp; subst hp
      exact (h (p ++ [32]) (List.mem_append_right _ (.head _))).init
  · rw [if_pos rfl] at h
    refine h p ?_
    rcases List.mem_append.mp hp with hp | hp
    · exact List.mem_append_left _ hp
    · rw [List.mem_singleton] at hp; subst hp
      exact List.mem_append_right _ (.head _)
theorem in_blanks {c : Nat} (h : [32, 10].contains c = true) : c = 32 ∨ c = 10 := by simpa using h
theorem GT.drop : ∀ {x : T}, GT x → GT (x.dropWhile fun c => [32, 10].contains c)
  | [], h => h
  | c :: r, h => by
    rw [List.dropWhile_cons]
    split
    · rename_i hc
      exact GT.drop (h.tail (in_blanks hc))
    · exact h
theorem GT.rdrop : ∀ {z : T}, GT z.reverse → GT (z.dropWhile fun c => [32, 10].contains c).reverse
  | [], h => h
  | c :: r, h => by
    rw [List.dropWhile_cons]
    split
    · rename_i hc
      rw [List.reverse_cons] at h
      exact GT.rdrop (h.init (in_blanks hc))
    · exact h
theorem strip_sub {g : Nat → Bool} {x : T} : ∀ c ∈ stripL g true true x, c ∈ x := fun c hc => by
  unfold stripL at hc
  simp only [if_true] at hc
  rw [List.mem_reverse] at hc
  have := (List.dropWhile_sublist _).subset hc
  rw [List.mem_reverse] at this
  exact (List.dropWhile_sublist _).subset this
theorem strip_len {g : Nat → Bool} {x : T} : (stripL g true true x).length ≤ x.length := by
  unfold stripL
  simp only [if_true, List.length_reverse]
  refine Nat.le_trans (List.dropWhile_sublist _).length_le ?_
  rw [List.length_reverse]
  exact (List.dropWhile_sublist _).length_le
theorem TextFit.of {x : T} (h1 : GT x) (h2 : Tx x) (h3 : x.length ≤ 700) : TextFit x := by
  refine ⟨h2, h3, fun l hl => ?_⟩
  rcases lines_split x with ⟨e, -⟩ | e
  · exact (h1 l (by rw [← e]; exact hl)).good
  · exact (h1 l (by rw [← e]; exact List.mem_append_left _ hl)).good
theorem TextOk.all {x : T} (h : TextOk x) : GT x ∧ Tx x ∧ x.length ≤ 700 := by
  obtain ⟨rows, rfl, hne, hl, hr⟩ := h.rows
  refine ⟨?_, ?_, ?_⟩
  · unfold GT
    rw [splitL_join 10 rows hne fun p hp m => by have := (hr p hp).ln 10 m; unfold lnc at this; omega]
    exact hr
  · exact joinL_all (P := okc) (by intro c hc; simp at hc; subst hc; unfold okc; omega) fun r hx => (hr r hx).ln.tx
  · have h1 := sum_short (n := 80) fun r hx => (hr r hx).short
    have h2 := joinL_len [10] rows
    have e : ∀ xs : List T, (List.map (fun x : List Nat => x.length) xs).sum = (List.map (fun x : T => x.length) xs).sum := fun _ => rfl
    rw [e] at h2
    simp only [List.length_cons, List.length_nil] at h2
    omega
theorem TextOk.fit {x : T} (h : TextOk x) : TextFit x := let ⟨a, b, c⟩ := h.all; .of a b c
theorem TextOk.strip {x : T} (h : TextOk x) : TextFit (stripL (fun c => [32, 10].contains c) true true x) :=
  let ⟨a, b, c⟩ := h.all; .of (GT.rdrop (z := (x.dropWhile fun c => [32, 10].contains c).reverse) (by rw [List.reverse_reverse]; exact a.drop)) (fun c hc => b c (strip_sub c hc)) (Nat.le_trans strip_len c)
theorem TextFit.nil : TextFit [] := ⟨fun c hc => (nomatch hc), by simp, fun l hl => (nomatch hl)⟩
theorem LineOk.strip {x : T} (h : LineOk x) : Ln (stripL (fun c => [32].contains c) true true x) ∧ Firm (stripL (fun c => [32].contains c) true true x) ∧ (stripL (fun c => [32].contains c) true true x).length ≤ 700 := by
  refine ⟨fun c hc => ?_, fun c r e => ?_, ?_⟩
  · have := h.plain c (strip_sub c hc); unfold lnc; omega
  · have hp : (stripL (fun c => [32].contains c) true true x) <+: lstrip x := by
      unfold stripL
      simp only [if_true]
      have : (x.dropWhile fun c => [32].contains c) = ((x.dropWhile fun c => [32].contains c).reverse).reverse := by rw [List.reverse_reverse]
      show _ <+: x.dropWhile _
      rw [this]
      exact List.reverse_prefix.mpr (by rw [List.reverse_reverse]; exact List.dropWhile_suffix _)
    obtain ⟨s, hs⟩ := hp
    rw [e] at hs
    exact lstrip_firm x c (r ++ s) hs.symm
  · have := h.short
    have := strip_len (g := fun c => [32].contains c) (x := x)
    omega
theorem Wordy.ln {x : T} (h : Wordy x) : Ln x := fun c hc => by have := h.2.2 c hc; unfold lnc; omega
end Mine
end
section
open PySem PySem.W PySem.Calls PyProof.Rows
set_option maxRecDepth 100000
set_option maxHeartbeats 1000000
set_option autoImplicit false
set_option linter.unusedVariables false
set_option linter.unusedSimpArgs false
namespace Mine
theorem LineOk.strip_len {x : T} (h : LineOk x) : (stripL (fun c => [32].contains c) true true x).length ≤ 80 := Nat.le_trans Mine.strip_len h.short
theorem laid_flat {w : Int} {f r y : T} (hy : Ln y) (hyf : Firm y) (hyl : y.length ≤ 80) (hi : Ln f) (hs : Ln r) (hf : f.length ≤ 230) (hr : r.length ≤ 230) : (joinL [10] (laidL w f r y)).length ≤ 70000 := by
  obtain ⟨b1, b2, b3⟩ := laidL_facts (w := w) (M := 230) hy hyf hi hs hf hr
  have b4 := sum_le (K := 390) fun l hl => Nat.le_trans (b3 l hl) (by omega)
  have b5 := joinL_len [10] (laidL w f r y)
  simp only [List.length_cons, List.length_nil] at b5
  have e : ∀ xs : List T, (List.map (fun x : List Nat => x.length) xs).sum = (List.map (fun x : T => x.length) xs).sum := fun _ => rfl
  rw [e] at b5
  omega
theorem usage_len {n : Nat} {w : Int} {nm wd pf : T} (hn : n ≤ 100) (hnm : Ln nm) (hnl : nm.length ≤ 100) (hpf : Ln pf) (hpl : pf.length ≤ 20) (hwd : Ln wd) (hwf : Firm wd) (hwl : wd.length ≤ 80) : (usageL n w nm wd pf).flatten.length ≤ 1600000 := by
  have hhd : Ln (List.replicate ((n : Int).toNat - pf.length) 32 ++ pf ++ nm ++ [32]) := ((Ln.blanks.app hpf).app hnm).app (Ln.blanks (n := 1))
  have hhl : (List.replicate ((n : Int).toNat - pf.length) 32 ++ pf ++ nm ++ [32]).length ≤ 230 := by simp; omega
  unfold usageL
  generalize List.replicate ((n : Int).toNat - pf.length) 32 ++ pf ++ nm ++ [32] = head at *
  dsimp only
  split
  · have := rstrip_len head
    have e : (stripL (fun c => [32].contains c) false true head).length ≤ 230 := by show (rstrip head).length ≤ _; omega
    simp only [List.flatten_cons, List.flatten_nil, List.length_append, List.length_cons, List.length_nil]; omega
  · split
    · have := laid_flat (w := w - (n : Int)) hwd hwf hwl hhd (Ln.blanks (n := head.length)) hhl (by rw [List.length_replicate]; exact hhl)
      simp only [List.flatten_cons, List.flatten_nil, List.length_append, List.length_cons, List.length_nil]; omega
    · have := laid_flat (w := w - (n : Int)) hwd hwf hwl (Ln.blanks (n := max (n : Int).toNat pf.length + 4)) (Ln.blanks (n := max (n : Int).toNat pf.length + 4)) (by rw [List.length_replicate]; omega) (by rw [List.length_replicate]; omega)
      simp only [List.flatten_cons, List.flatten_nil, List.length_append, List.length_cons, List.length_nil]; omega
theorem usage_ne {n w : Int} {nm wd pf : T} : (usageL n w nm wd pf).flatten ≠ [] := by
  unfold usageL
  dsimp only
  split
  · simp
  · split <;> simp
theorem dlRow_ne {n : Nat} {w col sp : Int} {tt mm : T} : (dlRow n w col sp tt mm).flatten ≠ [] := by
  by_cases h : mm = []
  · subst h; rw [dlRow_none]; simp
  · obtain ⟨l0, ls, hl⟩ := lawLines_ne (wrappedL (max (w - col - 2) 10) [] [] mm)
    rw [dlRow_some h hl]; simp
theorem dlAll_ne {n : Nat} {w col sp : Int} {rs : List (T × T)} (h : rs ≠ []) : (dlAll n w col sp rs).flatten ≠ [] := by
  cases rs with
  | nil => exact absurd rfl h
  | cons p r =>
    unfold dlAll
    rw [List.map_cons, List.flatten_cons, List.flatten_append]
    intro e
    exact dlRow_ne (List.append_eq_nil_iff.mp e).1
theorem dlAll_flat {n : Nat} {w col sp : Int} (hn : n ≤ 100) (hc : 1 ≤ col ∧ col ≤ 25) : ∀ {rs : List (T × T)}, (∀ p ∈ rs, RowFit p) → (dlAll n w col sp rs).flatten.length ≤ rs.length * 500000
  | [], _ => by simp [dlAll]
  | p :: r, h => by
    have h1 := dlRow_len (w := w) (sp := sp) hn hc (h p (.head _)).len (h p (.head _)).fit
    have h2 := dlAll_flat (w := w) (sp := sp) hn hc fun q hq => h q (.tail _ hq)
    have e : dlAll n w col sp (p :: r) = dlRow n w col sp p.1 p.2 ++ dlAll n w col sp r := by unfold dlAll; rw [List.map_cons, List.flatten_cons]
    rw [e, List.flatten_append, List.length_append, List.length_cons, Nat.succ_mul]
    omega
theorem maxI_bound {K : Int} (hK : 0 ≤ K) {l : List Int} (h : ∀ i ∈ l, i ≤ K) : 0 ≤ maxI l ∧ maxI l ≤ K := by
  have key : ∀ (l : List Int) (m : Int), 0 ≤ m → m ≤ K → (∀ i ∈ l, i ≤ K) → 0 ≤ l.foldl max m ∧ l.foldl max m ≤ K := fun l => by
    induction l with
    | nil => intro m h1 h2 _; exact ⟨h1, h2⟩
    | cons a r ih =>
      intro m h1 h2 h3
      have := h3 a (.head _)
      exact ih _ (by omega) (by omega) fun i hi => h3 i (.tail _ hi)
  exact key l _ (by omega) hK h
theorem W.useP {D : Wd} {A : Around} {L : Addr} {vs : Vars} {led M : Led} {f : Value} {args : List Value} {kw : List (Str × Value)} {Q : Value → Vars → Led → Prop} (hp : ((L, .ns vs) :: led).Perm M) (h : Cl D A f args kw (Back L Q) M) : W D A L (PySem.call f args kw) Q vs led := W.call fun s R => h s (R.perm hp)
theorem Back.perm {L : Addr} {Q : Value → Vars → Led → Prop} {v : Value} {vs : Vars} {led2 led' : Led} (p : led'.Perm ((L, .ns vs) :: led2)) (h : Q v vs led2) : Back L Q v led' := ⟨vs, led2, Sub.perm p, h⟩
def prefOk (p : T) : Prop := Ln p ∧ p.length ≤ 20
section
variable {D : Wd} {A : Around} {Q : Value → Led → Prop} {R : Led} {x dx b d q : Addr} {st w at_ kind : Int} {buf : List T} {ts : Option Addr} {s : Dr} {wr : Bool}
theorem done_spec {n : Nat} {t1 t2 t3 t4 : Tok} (room : Room A 45) (hs : s.ok) (hk : 0 ≤ kind) (ha : at_ = (n : Int)) (hn : (n : Int) < w) (hw : 20 ≤ w ∧ w ≤ 60) (hst : 1 ≤ st ∧ st ≤ 4) (hz : buf.length ≤ 30000) (hwr : wr = !decide (buf = []))
    (h : ∀ t (n' : Nat) (more : T) (s' : Dr) (ts' : Option Addr) (buf' : List T), (n' : Int) < w → s'.ok → buf'.flatten = buf.flatten ++ more → buf'.length ≤ buf.length + 9700 → more.length ≤ 1600000 → (buf' = buf ∧ more = []) ∨ more ≠ [] →
      Q (.ref t) ((t, .tup [.int (n' : Int), .str more]) :: (Drs d q s' ++ (Pg x dx b st w n' buf' ++ (TabL 255 wq wpos ts' ++ ((240, tabG) :: R)))))) :
    Cl D A (.ref 439) [.ref d, .ref x, .int kind t1, .int at_ t2, .int st t3, .int w t4, .bool wr] [] Q (Drs d q s ++ (Pg x dx b st w at_ buf ++ (TabL 255 wq wpos ts ++ ((240, tabG) :: R)))) := by
  subst ha
  refine Cl.def_ (n := 44) (ls := ["draws", "page", "kind", "at", "step", "width", "written", "word", "text", "name", "prefix", "words", "rows", "k", "most", "space"]) (gs := ["_law_word", "_law_text", "_law_wrapped", "_law_take", "_law_line", "_law_usage", "range", "measure_table", "max", "_law_list"])
    (binds := [("draws", .ref d), ("page", .ref x), ("kind", .int kind t1), ("at", .int n t2), ("step", .int st t3), ("width", .int w t4), ("written", .bool wr)]) (by rfl) (by kernel_rfl) room (by rfl) (by kernel_rfl) (fun S => by kernel_rfl) (by kernel_rfl)
    (vs := [("draws", some (.ref d)), ("page", some (.ref x)), ("kind", some (.int kind)), ("at", some (.int n)), ("step", some (.int st)), ("width", some (.int w)), ("written", some (.bool wr)), ("word", none), ("text", none), ("name", none), ("prefix", none), ("words", none), ("rows", none), ("k", none), ("most", none), ("space", none)]) (by rfl) fun env L A' F rm => ?_
  let RR : Option Addr → Led := fun t' => TabL 255 wq wpos t' ++ ((240, tabG) :: R)
  have h : ∀ t (n' : Nat) (more : T) (s' : Dr) (ts' : Option Addr) (buf' : List T), (n' : Int) < w → s'.ok → buf'.flatten = buf.flatten ++ more → buf'.length ≤ buf.length + 9700 → more.length ≤ 1600000 → (buf' = buf ∧ more = []) ∨ more ≠ [] →
      Q (.ref t) ((t, .tup [.int (n' : Int), .str more]) :: (Drs d q s' ++ (Pg x dx b st w n' buf' ++ RR ts'))) := h
  show W D A' L _ _ _ (Drs d q s ++ (Pg x dx b st w n buf ++ RR ts))
  have hn60 : n ≤ 60 := by omega
  let V0 : Vars := [("draws", some (.ref d)), ("page", some (.ref x)), ("kind", some (.int kind)), ("at", some (.int n)), ("step", some (.int st)), ("width", some (.int w)), ("written", some (.bool wr)), ("word", none), ("text", none), ("name", none), ("prefix", none), ("words", none), ("rows", none), ("k", none), ("most", none), ("space", none)]
  tb_rel
  refine W.cutF (fun vs led => vs = V0 ∧ Sub (Drs d q s ++ (Pg x dx b st w n buf ++ RR ts)) led) ?_ fun vs led ⟨e, hsub⟩ => ?_
  · repeat tb_rel
    tb_start
    · repeat tb_rel
      refine W.mul_small (by omega) fun t => ?_
      repeat tb_rel
      tb_start
      · rename_i hC
        dsimp only [Drs, Pg, LS, List.cons_append, List.nil_append]
        repeat kspl_open m_w
        refine W.use (P := Pg x dx b st w n buf) (by dsimp only [Pg]; kspl_open m_take) (indent_spec (rm.less (by decide)) (Back.intro ?_))
        dsimp only [Drs, Pg, LS, List.cons_append, List.nil_append]
        repeat kspl_open m_w
        have h2 := fun t => h t (n + st.toNat) [] s ts buf (by omega) hs (by simp) (by omega) (by simp) (.inl ⟨rfl, rfl⟩)
        have e : (n : Int) + st = ((n + st.toNat : Nat) : Int) := by omega
        rw [← e] at h2
        exact .inr ⟨nofun, _, by kspl_open m_sb, h2 _⟩
      · repeat kspl_open m_w
        exact .inl ⟨rfl, rfl, .refl _⟩
    · repeat kspl_open m_w
      exact .inl ⟨rfl, rfl, .refl _⟩
  subst e
  refine W.sub hsub ?_
  clear hsub
  tb_rel
  refine W.cutF (fun vs led => vs = V0 ∧ Sub (Drs d q s ++ (Pg x dx b st w n buf ++ RR ts)) led) ?_ fun vs led ⟨e, hsub⟩ => ?_
  · repeat tb_rel
    tb_start
    · repeat tb_rel
      tb_start
      · rename_i hC
        dsimp only [Drs, Pg, LS, List.cons_append, List.nil_append]
        repeat kspl_open m_w
        refine W.use (P := Pg x dx b st w n buf) (by dsimp only [Pg]; kspl_open m_take) (dedent_spec (rm.less (by decide)) (Back.intro ?_))
        dsimp only [Drs, Pg, LS, List.cons_append, List.nil_append]
        repeat kspl_open m_w
        have h2 := fun t => h t (n - st.toNat) [] s ts buf (by omega) hs (by simp) (by omega) (by simp) (.inl ⟨rfl, rfl⟩)
        have e : (n : Int) - st = ((n - st.toNat : Nat) : Int) := by omega
        rw [← e] at h2
        exact .inr ⟨nofun, _, by kspl_open m_sb, h2 _⟩
      · repeat kspl_open m_w
        exact .inl ⟨rfl, rfl, .refl _⟩
    · repeat kspl_open m_w
      exact .inl ⟨rfl, rfl, .refl _⟩
  subst e
  refine W.sub hsub ?_
  clear hsub
  dsimp only [V0, Drs, Pg, LS, List.cons_append, List.nil_append]
  repeat tb_rel
  tb_start
  · -- a heading
    repeat kspl_open m_w
    refine W.use (P := Drs d q s) (by kspl_open m_take) (word_spec (rm.less (by decide)) hs fun y s4 t hy hs4 => Back.intro ?_)
    have hy2 := hy.2.1
    dsimp only [Drs, Pg, LS, List.cons_append, List.nil_append]
    repeat kspl_open m_w
    refine W.use (P := Pg x dx b st w n buf) (by dsimp only [Pg]; kspl_open m_take) (heading_spec (n := n) (rm.less (by decide)) rfl (by omega) (by omega) (by omega) (Back.intro ?_))
    dsimp only [Drs, Pg, LS, List.cons_append, List.nil_append]
    have hrn : (List.replicate n 32).length = n := List.length_replicate
    repeat kspl_open m_w
    rw [Int.toNat_natCast]
    repeat kspl_open m_w
    exact ⟨_, by kspl_open m_sb, h _ n (List.replicate n 32 ++ y ++ [58, 10]) s4 ts (buf ++ [List.replicate n 32 ++ y ++ [58, 10]]) hn hs4 (by simp) (by simp) (by simp; omega) (.inr (by simp))⟩
  repeat tb_rel
  tb_start
  · -- a paragraph's begin
    repeat kspl_open m_w
    refine W.use (P := Pg x dx b st w n buf) (by dsimp only [Pg]; kspl_open m_take) (paragraph_spec (rm.less (by decide)) (by omega) (Back.intro ?_))
    by_cases hb : buf = []
    · rw [if_pos hb]
      have : wr = false := by rw [hwr, decide_eq_true hb]; rfl
      subst this
      dsimp only [Drs, Pg, LS, List.cons_append, List.nil_append]
      repeat kspl_open m_w
      exact ⟨_, by kspl_open m_sb, h _ n [] s ts buf hn hs (by simp) (by omega) (by simp) (.inl ⟨rfl, rfl⟩)⟩
    · rw [if_neg hb]
      have : wr = true := by rw [hwr, decide_eq_false hb]; rfl
      subst this
      dsimp only [Drs, Pg, LS, List.cons_append, List.nil_append]
      repeat kspl_open m_w
      exact ⟨_, by kspl_open m_sb, h _ n [10] s ts (buf ++ [[10]]) hn hs (by simp) (by simp) (by simp) (.inr (by simp))⟩
  repeat tb_rel
  tb_start
  · -- a text
    repeat kspl_open m_w
    refine W.use (P := Drs d q s) (by kspl_open m_take) (text_spec (rm.less (by decide)) hs fun y s4 t hy hs4 => Back.intro ?_)
    have hfit := hy.fit
    have hrn : (List.replicate n 32).length = n := List.length_replicate
    have hwl := wrapped_len (w := w) (ini := List.replicate n 32) (sub := List.replicate n 32) (K := 60) hfit.good hfit.tx hfit.len Ln.blanks Ln.blanks (by omega) (by omega)
    dsimp only [Drs, Pg, LS, List.cons_append, List.nil_append]
    repeat kspl_open m_w
    refine W.use (P := Pg x dx b st w n buf ++ TabL 255 wq wpos ts) (R := Drs d q s4 ++ ((240, tabG) :: R)) (Take.of_perm (by simp) (permC fun _ z => by
      simp only [RR, Drs, Pg, LS, List.count_append, List.count_cons, List.cons_append, List.nil_append, List.count_nil]; omega)) (text_w_spec (n := n) (rm.less (by decide)) rfl (by omega) (by omega) hfit (by omega) fun c' => Back.intro (P := Pg x dx b st w n (buf ++ [wrappedL w (List.replicate n 32) (List.replicate n 32) y] ++ [[10]]) ++ TabL 255 wq wpos (some c')) ?_)
    refine W.sub (led' := Drs d q s4 ++ (Pg x dx b st w n (buf ++ [wrappedL w (List.replicate n 32) (List.replicate n 32) y] ++ [[10]]) ++ RR (some c'))) (.of_perm (permC fun _ z => by
      simp only [RR, Drs, Pg, LS, List.count_append, List.count_cons, List.cons_append, List.nil_append, List.count_nil]; omega)) ?_
    dsimp only [Drs, Pg, LS, List.cons_append, List.nil_append]
    repeat kspl_open m_w
    rw [Int.toNat_natCast]
    refine W.use .nil (wrapped_spec (w := w) (first := List.replicate n 32) (rest := List.replicate n 32) (rm.less (by decide)) hfit.tx hfit.len hfit.good (by omega) Ln.blanks Ln.blanks (by omega) (by omega) fun t => Back.intro (P := []) ?_)
    generalize wrappedL w (List.replicate n 32) (List.replicate n 32) y = wx at *
    dsimp only [List.nil_append]
    repeat kspl_open m_w
    exact ⟨_, by kspl_open m_sb, h _ n (wx ++ [10]) s4 (some c') (buf ++ [wx] ++ [[10]]) hn hs4 (by simp) (by simp) (by simp; omega) (.inr (by simp))⟩
  repeat tb_rel
  tb_start
  · -- a usage line
    let V5 : Option AV → Option AV → Option AV → Vars := fun nm pf wd => [("draws", some (.ref d)), ("page", some (.ref x)), ("kind", some (.int kind)), ("at", some (.int n)), ("step", some (.int st)), ("width", some (.int w)), ("written", some (.bool wr)), ("word", none), ("text", none), ("name", nm), ("prefix", pf), ("words", wd), ("rows", none), ("k", none), ("most", none), ("space", none)]
    tb_rel
    refine W.cutN (fun vs led => ∃ (nm pf : T) (s' : Dr), Wordy nm ∧ prefOk pf ∧ s'.ok ∧ vs = V5 (some (.str nm)) (some (.str pf)) none ∧ Sub (Drs d q s' ++ (Pg x dx b st w n buf ++ RR ts)) led) ?_ fun vs led ⟨nm, pf, s4, hnm, hpf, hs4, e, hsub⟩ => ?_
    · repeat kspl_open m_w
      refine W.use (P := Drs d q s) (by kspl_open m_take) (word_spec (rm.less (by decide)) hs fun y s4 t hy hs4 => Back.intro ?_)
      dsimp only [Drs, Pg, LS, List.cons_append, List.nil_append]
      repeat kspl_open m_w
      refine W.draw rm (by decide) hs4 (by decide) (by decide) (by kspl_open m_take) fun v s5 t v0 v1 hs5 => ?_
      dsimp only [Drs, Pg, LS, List.cons_append, List.nil_append]
      have hv : v = 0 ∨ v = 1 ∨ v = 2 := by omega
      rcases hv with rfl | rfl | rfl
      all_goals
        repeat kspl_open m_w
        exact ⟨rfl, _, _, s5, hy, ⟨fun c hc => by simp at hc <;> (unfold lnc; omega), by decide⟩, hs5, rfl, by kspl_open m_sb⟩
    subst e
    refine W.sub hsub ?_
    clear hsub
    dsimp only [V5, Drs, Pg, LS, List.cons_append, List.nil_append]
    tb_rel
    refine W.cutN (fun vs led => ∃ (wd : T) (s' : Dr), Ln wd ∧ Firm wd ∧ wd.length ≤ 80 ∧ s'.ok ∧ vs = V5 (some (.str nm)) (some (.str pf)) (some (.str wd)) ∧ Sub (Drs d q s' ++ (Pg x dx b st w n buf ++ RR ts)) led) ?_ fun vs led ⟨wd, s5, hwd, hwf, hwl, hs5, e, hsub⟩ => ?_
    · repeat kspl_open m_w
      refine W.draw rm (by decide) hs4 (by decide) (by decide) (by kspl_open m_take) fun v s5 t v0 v1 hs5 => ?_
      dsimp only [Drs, Pg, LS, List.cons_append, List.nil_append]
      repeat kspl_open m_w
      tb_start
      · repeat kspl_open m_w
        exact ⟨rfl, [], s5, fun c hc => (nomatch hc), fun c r e => (nomatch e), by decide, hs5, rfl, by kspl_open m_sb⟩
      · repeat kspl_open m_w
        refine W.use (P := Drs d q s5) (by kspl_open m_take) (line_spec (rm.less (by decide)) hs5 fun y s6 t hy hs6 => Back.intro ?_)
        have hyl := hy.short
        dsimp only [Drs, Pg, LS, List.cons_append, List.nil_append]
        repeat kspl_open m_w
        exact ⟨rfl, _, s6, hy.strip.1, hy.strip.2.1, hy.strip_len, hs6, rfl, by kspl_open m_sb⟩
    subst e
    refine W.sub hsub ?_
    clear hsub
    have hn2 := hnm.2.1
    dsimp only [V5, Drs, Pg, LS, List.cons_append, List.nil_append]
    repeat kspl_open m_w
    refine W.use (P := Pg x dx b st w n buf) (by dsimp only [Pg]; kspl_open m_take) (usage_spec (n := n) (rm.less (by decide)) rfl (by omega) (by omega) hnm.ln (by omega) hpf.1 hpf.2 hwd hwf (by omega) (by omega) (Back.intro ?_))
    dsimp only [Drs, Pg, LS, List.cons_append, List.nil_append]
    repeat kspl_open m_w
    refine W.use .nil (usagelaw_spec (n := n) (rm.less (by decide)) rfl (by omega) (by omega) hnm.ln (by omega) hpf.1 hpf.2 hwd hwf (by omega) fun t => Back.intro (P := []) ?_)
    have hul := usage_len (n := n) (w := w) (by omega) hnm.ln (by omega) hpf.1 hpf.2 hwd hwf hwl
    have hun := usage_ne (n := (n : Int)) (w := w) (nm := nm) (wd := wd) (pf := pf)
    have hup : (usageL n w nm wd pf).length ≤ 4 := by
      unfold usageL
      dsimp only
      split
      · simp
      · split <;> simp
    generalize usageL n w nm wd pf = us at *
    dsimp only [List.nil_append]
    repeat kspl_open m_w
    exact ⟨_, by kspl_open m_sb, h _ n us.flatten s5 ts (buf ++ us) hn hs5 (by rw [List.flatten_append]) (by rw [List.length_append]; omega) hul (.inr hun)⟩
  -- a list
  repeat tb_rel
  let V6 : Option AV → Option AV → Option AV → Option AV → Vars := fun ro k mo sp => [("draws", some (.ref d)), ("page", some (.ref x)), ("kind", some (.int kind)), ("at", some (.int n)), ("step", some (.int st)), ("width", some (.int w)), ("written", some (.bool wr)), ("word", none), ("text", none), ("name", none), ("prefix", none), ("words", none), ("rows", ro), ("k", k), ("most", mo), ("space", sp)]
  rename_i ra
  refine W.cutN (fun vs led => ∃ (rs : List (Addr × T × T)) (k : Option AV) (s' : Dr), rs ≠ [] ∧ rs.length ≤ 3 ∧ (∀ p ∈ rs, RowFit p.2) ∧ s'.ok ∧ vs = V6 (some (.ref ra)) k none none ∧ Sub ((ra, RA rs) :: (RT rs ++ (Drs d q s' ++ (Pg x dx b st w n buf ++ RR ts)))) led) ?_ fun vs led ⟨rs, k, s4, hne, hlen, hfit, hs4, e, hsub⟩ => ?_
  · refine W.For_range rm (fun _ => rfl) ?_
    repeat tb_rel
    refine W.draw rm (by decide) hs (by decide) (by decide) (by kspl_open m_take) fun v s1 t v0 v1 hs1 => ?_
    dsimp only [Drs, Pg, LS, List.cons_append, List.nil_append]
    repeat tb_rel
    refine ⟨_, 0, _, fun ks vs led => ∃ (rs : List (Addr × T × T)) (k : Option AV) (s' : Dr), rs.length + ks.length = (1 + v - 0).toNat ∧ (∀ p ∈ rs, RowFit p.2) ∧ s'.ok ∧ vs = V6 (some (.ref ra)) k none none ∧ Sub ((ra, RA rs) :: (RT rs ++ (Drs d q s' ++ (Pg x dx b st w n buf ++ RR ts)))) led, rfl, by kspl_open m_mem, by omega, ?_, ?_, ?_⟩
    · exact ⟨[], _, s1, by rw [upFrom_len]; simp, (fun _ h => by cases h), hs1, rfl, by dsimp only [RA, RT, List.map]; kspl_open m_sb⟩
    · rintro k r vs led it ob t ⟨rs, k', s2, hl, hfit, hs2, rfl, hsub⟩
      simp only [List.length_cons] at hl
      have hrl : (rs.map fun p => AV.ref p.1).length ≤ 10000000 := by rw [List.length_map]; omega
      refine W.sub (led' := (it, ob) :: (ra, RA rs) :: (Drs d q s2 ++ (RT rs ++ (Pg x dx b st w n buf ++ RR ts)))) (.cons (.trans (.of_perm (permC fun _ z => by simp only [List.count_append, List.count_cons]; omega)) hsub)) ?_
      dsimp only [V6, Drs, RA, List.cons_append, List.nil_append]
      repeat tb_rel
      refine W.use (P := Drs d q s2) (by kspl_open m_take) (word_spec (rm.less (by decide)) hs2 fun y s3 t hy hs3 => Back.intro ?_)
      dsimp only [Drs, RA, List.cons_append, List.nil_append]
      repeat tb_rel
      refine W.draw rm (by decide) hs3 (by decide) (by decide) (by kspl_open m_take) fun v5 s5 t v0 v1 hs5 => ?_
      dsimp only [Drs, RA, List.cons_append, List.nil_append]
      repeat tb_rel
      tb_start
      · repeat kspl_open m_w
        rename_i T0
        exact ⟨(ra, RA (rs ++ [(T0, y, [])])) :: (RT (rs ++ [(T0, y, [])]) ++ (Drs d q s5 ++ (Pg x dx b st w n buf ++ RR ts))), .of_perm (permC fun _ z => by simp only [Drs, RA, RT, List.map_append, List.map_cons, List.map_nil, List.count_append, List.count_cons, List.count_nil, List.cons_append, List.nil_append]; omega),
          rs ++ [(T0, y, [])], _, s5, by simp; omega, fun p hp => by
            rcases List.mem_append.mp hp with hp | hp
            · exact hfit p hp
            · rw [List.mem_singleton] at hp; subst hp; exact ⟨hy.ln, by have := hy.2.1; show y.length ≤ 50; omega, .nil⟩, hs5, rfl, .refl _⟩
      · repeat kspl_open m_w
        refine W.use (P := Drs d q s5) (by kspl_open m_take) (text_spec (rm.less (by decide)) hs5 fun z s6 t hz hs6 => Back.intro ?_)
        have hzl := hz.all.2.2
        dsimp only [Drs, RA, List.cons_append, List.nil_append]
        repeat kspl_open m_w
        rename_i T0
        exact ⟨(ra, RA (rs ++ [(T0, y, stripL (fun c => [32, 10].contains c) true true z)])) :: (RT (rs ++ [(T0, y, stripL (fun c => [32, 10].contains c) true true z)]) ++ (Drs d q s6 ++ (Pg x dx b st w n buf ++ RR ts))), .of_perm (permC fun _ z => by simp only [Drs, RA, RT, List.map_append, List.map_cons, List.map_nil, List.count_append, List.count_cons, List.count_nil, List.cons_append, List.nil_append]; omega),
          rs ++ [(T0, y, stripL (fun c => [32, 10].contains c) true true z)], _, s6, by simp; omega, fun p hp => by
            rcases List.mem_append.mp hp with hp | hp
            · exact hfit p hp
            · rw [List.mem_singleton] at hp; subst hp; exact ⟨hy.ln, by have := hy.2.1; show y.length ≤ 50; omega, hz.strip⟩, hs6, rfl, .refl _⟩
    · rintro vs led ⟨rs, k', s2, hl, hfit, hs2, rfl, hsub⟩
      simp only [List.length_nil] at hl
      refine W.sub hsub ?_
      repeat tb_rel
      exact ⟨rfl, rs, _, s2, fun e => by subst e; simp at hl; omega, by omega, hfit, hs2, rfl, .refl _⟩
  subst e
  refine W.sub hsub ?_
  clear hsub
  refine W.sub (led' := Drs d q s4 ++ ((ra, RA rs) :: (RT rs ++ (Pg x dx b st w n buf ++ RR ts)))) (.of_perm (permC fun _ z => by simp only [Drs, List.count_append, List.count_cons, List.cons_append, List.nil_append]; omega)) ?_
  dsimp only [V6, Drs, List.cons_append, List.nil_append]
  tb_rel
  refine W.cutN (fun vs led => ∃ (mo sp : Int) (s' : Dr), (1 ≤ mo ∧ mo ≤ 12) ∧ (1 ≤ sp ∧ sp ≤ 3) ∧ s'.ok ∧ vs = V6 (some (.ref ra)) k (some (.int mo)) (some (.int sp)) ∧ Sub (Drs d q s' ++ ((ra, RA rs) :: (RT rs ++ (Pg x dx b st w n buf ++ RR ts)))) led) ?_ fun vs led ⟨mo, sp, s5, hmo, hsp, hs5, e, hsub⟩ => ?_
  · repeat tb_rel
    refine W.draw rm (by decide) hs4 (by decide) (by decide) (by kspl_open m_take) fun v s5 t v0 v1 hs5 => ?_
    dsimp only [Drs, List.cons_append, List.nil_append]
    repeat tb_rel
    refine W.draw rm (by decide) hs5 (by decide) (by decide) (by kspl_open m_take) fun v2 s6 t v3 v4 hs6 => ?_
    dsimp only [Drs, List.cons_append, List.nil_append]
    repeat tb_rel
    exact ⟨rfl, 1 + v, 1 + v2, s6, ⟨by omega, by omega⟩, ⟨by omega, by omega⟩, hs6, rfl, by kspl_open m_sb⟩
  subst e
  refine W.sub hsub ?_
  clear hsub
  have hmapT : tsOf (rs.map (·.2)) = rs.map fun p => (p.2.1.length : Int) := by unfold tsOf; rw [List.map_map]; rfl
  have hmapM : msOf (rs.map (·.2)) = rs.map fun p => (p.2.2.length : Int) := by unfold msOf; rw [List.map_map]; rfl
  have hbT := maxI_bound (K := 1000) (by omega) (l := rs.map fun p => (p.2.1.length : Int)) fun i hi => by
    obtain ⟨p, hp, rfl⟩ := List.mem_map.mp hi
    have : p.2.1.length ≤ 50 := (hfit p hp).len
    omega
  have hbM := maxI_bound (K := 1000) (by omega) (l := rs.map fun p => (p.2.2.length : Int)) fun i hi => by
    obtain ⟨p, hp, rfl⟩ := List.mem_map.mp hi
    have : p.2.2.length ≤ 700 := (hfit p hp).fit.len
    omega
  have hall : (rs.map fun p => dlRow n w (colOf (rs.map (·.2)) mo sp) sp p.2.1 p.2.2).flatten = dlAll n w (colOf (rs.map (·.2)) mo sp) sp (rs.map (·.2)) := by unfold dlAll; rw [List.map_map]; rfl
  have hcol : 1 ≤ colOf (rs.map (·.2)) mo sp ∧ colOf (rs.map (·.2)) mo sp ≤ 25 := by
    unfold colOf
    have e : (rs.map (·.2)).map (fun p => (p.1.length : Int)) = rs.map fun p => (p.2.1.length : Int) := by rw [List.map_map]; rfl
    rw [e]; omega
  have hfits : ∀ p ∈ rs.map (·.2), RowFit p := fun p hp => by
    obtain ⟨z, hz, rfl⟩ := List.mem_map.mp hp
    exact hfit z hz
  have hmne : rs.map (·.2) ≠ [] := by simpa using hne
  have hd1 := dlAll_count (n := n) (w := w) (col := colOf (rs.map (·.2)) mo sp) (sp := sp) fun p hp => (hfits p hp).fit
  have hd2 := dlAll_flat (n := n) (w := w) (sp := sp) (by omega) hcol hfits
  have hd3 := dlAll_ne (n := n) (w := w) (col := colOf (rs.map (·.2)) mo sp) (sp := sp) hmne
  rw [List.length_map] at hd1 hd2
  refine W.sub (led' := Drs d q s5 ++ (Pg x dx b st w n buf ++ ((ra, RA rs) :: (RT rs ++ RR ts)))) (.of_perm (permC fun _ z => by
    simp only [Drs, Pg, LS, List.count_append, List.count_cons, List.cons_append, List.nil_append]
    omega)) ?_
  dsimp only [V6, Drs, Pg, LS, List.cons_append, List.nil_append]
  repeat tb_rel
  refine W.useP ?_ (write_dl_spec (n := n) (w := w) (at_ := (n : Int)) (most := mo) (sp := sp) (x := x) (ts := ts) (buf := buf) (b := b) (st := st) (dx := dx) (R := (L, .ns (V6 (some (.ref ra)) k (some (.int mo)) (some (.int sp)))) :: (Drs d q s5 ++ R)) (rm.less (by decide)) rfl (by omega) (by omega) hmo hsp hne hlen hfit (by omega) fun ts' => Back.perm (vs := V6 (some (.ref ra)) k (some (.int mo)) (some (.int sp))) (led2 := Drs d q s5 ++ ((ra, RA rs) :: (RT rs ++ ((240, tabG) :: (Pg x dx b st w n (buf ++ dlAll n w (colOf (rs.map (·.2)) mo sp) sp (rs.map (·.2))) ++ (TabL 255 wq wpos ts' ++ R)))))) ?_ ?_)
  · refine permC fun _ z => ?_
    simp only [V6, RR, Drs, Pg, LS, List.count_append, List.count_cons, List.cons_append, List.nil_append, List.count_nil]
    omega
  · refine permC fun _ z => ?_
    simp only [V6, RR, Drs, Pg, LS, List.count_append, List.count_cons, List.cons_append, List.nil_append, List.count_nil]
    omega
  dsimp only [V6, Drs, List.cons_append, List.nil_append]
  repeat tb_rel
  refine W.use (P := (240, tabG) :: (ra, RA rs) :: RT rs) (R := Drs d q s5 ++ (Pg x dx b st w n (buf ++ dlAll n w (colOf (rs.map (·.2)) mo sp) sp (rs.map (·.2))) ++ (TabL 255 wq wpos ts' ++ R))) (Take.of_perm (by simp) (permC fun _ z => by
    simp only [V6, RR, Drs, Pg, LS, List.count_append, List.count_cons, List.cons_append, List.nil_append, List.count_nil]
    omega)) (measure_spec (R := _) (rm.less (by decide)) hne (by omega) hfit fun wt => Back.intro (P := (wt, .tup [.int (maxI (tsOf (rs.map (·.2)))), .int (maxI (msOf (rs.map (·.2))))]) :: (240, tabG) :: (ra, RA rs) :: RT rs) ?_)
  rw [hmapT, hmapM]
  let REST : Addr → Led := fun wt => (wt, .tup [.int (maxI (rs.map fun p => (p.2.1.length : Int))), .int (maxI (rs.map fun p => (p.2.2.length : Int)))]) :: (240, tabG) :: (Drs d q s5 ++ (Pg x dx b st w n (buf ++ dlAll n w (colOf (rs.map (·.2)) mo sp) sp (rs.map (·.2))) ++ (TabL 255 wq wpos ts' ++ R)))
  refine W.sub (led' := (ra, RA rs) :: (RT rs ++ REST wt)) (.of_perm (permC fun _ z => by
    simp only [REST, V6, RR, Drs, Pg, LS, List.count_append, List.count_cons, List.cons_append, List.nil_append, List.count_nil]
    omega)) ?_
  repeat tb_rel
  refine W.lens_term F rm (by kspl_open m_mem) (by kspl_open m_get) (by omega) (fun p hp => by have h1 : p.2.1.length ≤ 50 := (hfit p hp).len; omega) fun c => ?_
  repeat tb_rel
  refine W.max_list rm (.head _) (by simpa using hne) (fun i hi => by obtain ⟨p, hp, rfl⟩ := List.mem_map.mp hi; omega) fun t => ?_
  refine W.sub (led' := (ra, RA rs) :: (RT rs ++ REST wt)) (.skip (.refl _)) ?_
  repeat tb_rel
  refine W.lens_means F rm (by kspl_open m_mem) (by kspl_open m_get) (by omega) (fun p hp => by have h1 : p.2.2.length ≤ 700 := (hfit p hp).fit.len; omega) fun c => ?_
  repeat tb_rel
  refine W.max_list rm (.head _) (by simpa using hne) (fun i hi => by obtain ⟨p, hp, rfl⟩ := List.mem_map.mp hi; omega) fun t => ?_
  repeat tb_rel
  refine W.ne_two rm (by decide) (.tail _ (.tail _ (.tail _ (List.mem_append_right _ (.head _))))) (.head _) (by exact ⟨by omega, by omega⟩) (by exact ⟨by omega, by omega⟩) ?_
  repeat kspl_open m_w
  refine W.sub (led' := (ra, RA rs) :: (RT rs ++ REST wt)) (.skip (.skip (.refl _))) ?_
  refine W.use (P := (ra, RA rs) :: RT rs) (R := REST wt) (Take.of_perm (by simp) (.refl _)) (list_spec (n := n) (R := _) (rm.less (by decide)) rfl (by omega) (by omega) (by omega) (by omega) hfit hne (by omega) fun t => Back.intro (P := (ra, RA rs) :: RT rs) ?_)
  rw [hall]
  repeat kspl_open m_w
  refine ⟨_, ⟨(ra, RA rs) :: (RT rs ++ [(wt, .tup [.int (maxI (rs.map fun p => (p.2.1.length : Int))), .int (maxI (rs.map fun p => (p.2.2.length : Int)))])]), permC fun _ z => ?_⟩, h _ n (dlAll n w (colOf (rs.map (·.2)) mo sp) sp (rs.map (·.2))).flatten s5 ts' (buf ++ (dlAll n w (colOf (rs.map (·.2)) mo sp) sp (rs.map (·.2)))) hn hs5 (by rw [List.flatten_append]) (by rw [List.length_append]; omega) (by omega) (.inr hd3)⟩
  simp only [REST, V6, RR, Drs, Pg, LS, List.count_append, List.count_cons, List.cons_append, List.nil_append, List.count_nil]
  omega
end
end Mine
end
section
open PySem PySem.W PySem.Calls PyProof.Rows
set_option maxRecDepth 100000
set_option maxHeartbeats 1000000
set_option autoImplicit false
set_option linter.unusedVariables false
set_option linter.unusedSimpArgs false
namespace Mine
def alnumOk : Bool := opts.all fun x => (decide ((x.take 1).length > 0) && (x.take 1).all Unicode.isAlnum) == decide (x = oWord)
theorem alnumOk_true : alnumOk = true := by decide +kernel
theorem alnum_of {x : List Nat} (h : x ∈ opts) : (decide ((x.take 1).length > 0) && (x.take 1).all Unicode.isAlnum) = decide (x = oWord) := by
  have := List.all_eq_true.mp alnumOk_true x h
  exact beq_iff_eq.mp this
section
variable {D : Wd} {A : Around} {t : Tok} {Q : Value → Led → Prop} {R : Led} {x : List Nat}
theorem splitopt_spec (room : Room A 3) (hx : x ∈ opts) (h : ∀ t y, Q (.ref t) ((t, .tup [.str (preOf x), .str y]) :: R)) : Cl D A (.ref 238) [.str (S x) t] [] Q R := by
  refine Cl.def_ (n := 2) (ls := ["opt", "first"]) (gs := []) (binds := [("opt", .str (S x) t)]) (by rfl) (by kernel_rfl) room (by rfl) (by kernel_rfl) (fun S => by kernel_rfl) (by kernel_rfl)
    (vs := [("opt", some (.str x)), ("first", none)]) (by rfl) fun env L A' F rm => ?_
  have hl := opt_len x hx
  have hz : x.length ≤ 10000000 := by omega
  repeat tb_rel
  refine W.isalnum0 ?_
  rw [show (1 : Int).toNat = 1 from rfl, alnum_of hx]
  repeat tb_rel
  tb_start
  · rename_i hC
    have hp : preOf x = [] := by unfold preOf; rw [if_pos hC]
    repeat tb_rel
    exact ⟨_, .refl _, by rw [← hp]; exact h _ _⟩
  · rename_i hC
    repeat tb_rel
    tb_start
    · rename_i hC2
      have hp : preOf x = x.take 2 := by unfold preOf; rw [if_neg hC, if_pos hC2]
      repeat tb_rel
      rw [show (2 : Int).toNat = 2 from rfl, ← hp]
      repeat tb_rel
      exact ⟨_, .refl _, h _ _⟩
    · rename_i hC2
      have hp : preOf x = x.take 1 := by unfold preOf; rw [if_neg hC, if_neg hC2]
      repeat tb_rel
      rw [show (1 : Int).toNat = 1 from rfl, ← hp]
      exact ⟨_, .refl _, h _ _⟩
/-- tuples of a key and an option -/
@[reducible] def TL (tl : TwoL) : Led := tl.map fun p => (p.1, .tup [.int p.2.1, .str p.2.2])
theorem contains_snoc (xs : List (List Nat)) (x y : List Nat) : (xs ++ [x]).contains y = (xs.contains y || decide (x = y)) := by
  rw [Bool.eq_iff_iff, List.contains_iff_mem, List.mem_append, List.mem_singleton, Bool.or_eq_true, List.contains_iff_mem, decide_eq_true_iff]
  exact or_congr Iff.rfl eq_comm
theorem pre_len : ∀ x ∈ opts, (preOf x).length ≤ 2 := by decide
theorem join_spec {ra : Addr} {xs : List (List Nat)} (room : Room A 12) (hx : ∀ x ∈ xs, x ∈ opts) (hl : xs.length ≤ 4)
    (h : ∀ t, Q (.ref t) ((t, .tup [.str (joinL [44, 32] (ordL xs)), .bool (xs.contains oB)]) :: (363, tabG) :: (ra, LS xs) :: R)) : Cl D A (.ref 368) [.ref ra] [] Q ((363, .raw (tabObj #[])) :: (ra, LS xs) :: R) := by
  refine Cl.defC (n := 11) (ls := ["options", "rv", "any_prefix_is_slash", "opt", "prefix"]) (gs := ["_split_opt", "len"]) (cn := []) (binds := [("options", .ref ra)]) (by rfl) (by kernel_rfl) room (by rfl) (by kernel_rfl) (fun S => by kernel_rfl) (by kernel_rfl)
    (vs := [("options", some (.ref ra)), ("rv", none), ("any_prefix_is_slash", none), ("opt", none), ("prefix", none)]) (by rfl) fun env L A' ca F hcode hqual hcv rm => ?_
  refine W.sub (led' := (363, .raw (tabObj #[])) :: (ra, LS xs) :: R) (.refl _) ?_
  have hrm := rm.2.2
  repeat tb_rel
  rename_i rv
  let VV : Bool → Option AV → Option AV → Vars := fun b o p => [("options", some (.ref ra)), ("rv", some (.ref rv)), ("any_prefix_is_slash", some (.bool b)), ("opt", o), ("prefix", p)]
  refine W.cutN (fun vs led => ∃ (tl : TwoL) (o p : Option AV), tl.map (·.2.2) = xs ∧ (∀ p ∈ tl, p.2.1 = keyOf p.2.2) ∧ vs = VV (xs.contains oB) o p ∧ Sub ((rv, .list (tl.map fun p => .ref p.1)) :: (TL tl ++ ((363, .raw (tabObj #[])) :: (ra, LS xs) :: R))) led) ?_ fun vs led ⟨tl, o, p, htx, hky, e, hsub⟩ => ?_
  · refine W.For_list rm (fun _ => rfl) ?_
    repeat tb_rel
    refine ⟨ra, xs.map .str, fun rem vs led => ∃ (pre rst : List (List Nat)) (tl : TwoL) (o p : Option AV), xs = pre ++ rst ∧ rem = rst.map .str ∧ tl.map (·.2.2) = pre ∧ (∀ p ∈ tl, p.2.1 = keyOf p.2.2) ∧ vs = VV (pre.contains oB) o p ∧ Sub ((rv, .list (tl.map fun p => .ref p.1)) :: (TL tl ++ ((363, .raw (tabObj #[])) :: (ra, LS xs) :: R))) led, rfl, ?_, ?_, ?_, ?_⟩
    · rintro r vs led ⟨pre, rst, tl, o, p, -, -, -, -, -, hs2⟩
      exact hs2.mem (.tail _ (List.mem_append_right _ (.tail _ (.head _))))
    · exact ⟨[], xs, [], _, _, rfl, rfl, rfl, (fun p hp => by cases hp), rfl, by dsimp only [TL, List.map, List.nil_append]; kspl_open m_sub⟩
    · rintro z r vs led it ob v hv ⟨pre, rst, tl, o, p, hpr, hrem, htx, hky, rfl, hs2⟩
      cases rst with
      | nil => cases hrem
      | cons y rst2 =>
        rw [List.map_cons] at hrem
        injection hrem with hz1 hz2
        subst hz1 hz2
        obtain ⟨tv, rfl⟩ := hv
        have hy : y ∈ opts := hx y (by rw [hpr]; simp)
        have hyl := opt_len y hy
        have hpl : (preOf y).length ≤ 10000000 := by have := pre_len y hy; omega
        have htl : (tl.map fun p => AV.ref p.1).length ≤ 10000000 := by
          have e1 := congrArg List.length htx
          have e2 := congrArg List.length hpr
          simp only [List.length_map, List.length_append, List.length_cons] at e1 e2 ⊢
          omega
        have hsl := slash_iff y hy
        have hcs := contains_snoc pre y oB
        refine W.sub (.cons hs2) ?_
        dsimp only [VV]
        repeat tb_rel
        refine W.use .nil (splitopt_spec (rm.less (by decide)) hy fun t1 y2 => Back.intro (P := [(t1, .tup [.str (preOf y), .str y2])]) ?_)
        dsimp only [List.cons_append, List.nil_append]
        repeat tb_rel
        tb_start
        · rename_i hC
          rw [decide_eq_true (hsl.mp hC), Bool.or_true] at hcs
          repeat tb_rel
          rename_i T0
          exact ⟨(rv, .list ((tl ++ [(T0, keyOf y, y)]).map fun p => .ref p.1)) :: (TL (tl ++ [(T0, keyOf y, y)]) ++ ((363, .raw (tabObj #[])) :: (ra, LS xs) :: R)), ⟨[(t1, .tup [.str (preOf y), .str y2])], permC fun _ z => by
            simp only [keyOf, TL, List.map_append, List.map_cons, List.map_nil, List.count_append, List.count_cons, List.count_nil, List.cons_append, List.nil_append]; omega⟩,
            pre ++ [y], rst2, tl ++ [(T0, keyOf y, y)], _, _, by rw [hpr]; simp, rfl, by rw [List.map_append, htx]; rfl, fun p hp => by
              rcases List.mem_append.mp hp with hp | hp
              · exact hky p hp
              · rw [List.mem_singleton] at hp; subst hp; rfl, by rw [hcs], .refl _⟩
        · rename_i hC
          rw [decide_eq_false (fun q => hC (hsl.mpr q)), Bool.or_false] at hcs
          repeat tb_rel
          rename_i T0
          exact ⟨(rv, .list ((tl ++ [(T0, keyOf y, y)]).map fun p => .ref p.1)) :: (TL (tl ++ [(T0, keyOf y, y)]) ++ ((363, .raw (tabObj #[])) :: (ra, LS xs) :: R)), ⟨[(t1, .tup [.str (preOf y), .str y2])], permC fun _ z => by
            simp only [keyOf, TL, List.map_append, List.map_cons, List.map_nil, List.count_append, List.count_cons, List.count_nil, List.cons_append, List.nil_append]; omega⟩,
            pre ++ [y], rst2, tl ++ [(T0, keyOf y, y)], _, _, by rw [hpr]; simp, rfl, by rw [List.map_append, htx]; rfl, fun p hp => by
              rcases List.mem_append.mp hp with hp | hp
              · exact hky p hp
              · rw [List.mem_singleton] at hp; subst hp; rfl, by rw [hcs], .refl _⟩
    · rintro vs led ⟨pre, rst, tl, o, p, hpr, hrem, htx, hky, rfl, hs2⟩
      cases rst with
      | cons a b => cases hrem
      | nil =>
        rw [List.append_nil] at hpr
        subst hpr
        refine W.sub hs2 ?_
        repeat tb_rel
        exact ⟨rfl, tl, _, _, htx, hky, rfl, .refl _⟩
  subst e
  refine W.sub hsub ?_
  clear hsub
  dsimp only [VV]
  repeat tb_rel
  refine W.MethodCallK ?_ rfl
  repeat tb_rel
  have htl : tl.length ≤ 4 := by have := congrArg List.length htx; simp at this; omega
  refine W.mcLK (.head _) PySem.F.slot_list_sort PySem.F.type_list_sort ?_ rfl rfl
  repeat tb_rel
  refine W.Lambda F (hcode.trans rfl) D.c1 rfl rfl (led0 := (rv, .list (tl.map fun p => .ref p.1)) :: (TL tl ++ ((ra, LS xs) :: R))) (.of_perm (permC fun _ z => by simp only [List.count_append, List.count_cons, List.cons_append]; omega)) fun f c' ctv pm fo hfo => ?_
  repeat tb_rel
  show W D A' L (PySem.call (.builtin "list.sort") [.ref rv] [("key", .ref f)]) _ _ _
  refine W.sub (led' := (rv, .list (tl.map fun p => .ref p.1)) :: ((f, .raw fo) :: (363, tabG) :: (c', codeOb (env.qual ++ "<lambda>")) :: (TL tl ++ ((ra, LS xs) :: R)))) (.of_perm (permC fun _ z => by simp only [List.count_append, List.count_cons, List.cons_append]; omega)) ?_
  have hmem : ∀ p ∈ tl, (p.1, Ob.tup [.int p.2.1, .str p.2.2]) ∈ TL tl := fun p hp => List.mem_map_of_mem (f := fun (p : Addr × Int × List Nat) => (p.1, Ob.tup [.int p.2.1, .str p.2.2])) hp
  refine W.sort_key (ks := tl.map (·.2.1)) (by simp) (by rw [List.length_map]; exact htl) (fun k hk => by
    obtain ⟨p, hp, rfl⟩ := List.mem_map.mp hk
    rw [hky p hp]
    exact key_small _ (hx _ (by rw [← htx]; exact List.mem_map_of_mem (f := fun (p : Addr × Int × List Nat) => p.2.2) hp))) ?_ ?_
  · rintro i x v k hx1 hv hk1 pre
    rw [List.getElem?_map] at hx1 hk1
    obtain ⟨p, hp, rfl⟩ := Option.map_eq_some_iff.mp hx1
    rw [hp] at hk1
    cases hk1
    cases (show v = .ref p.1 from hv)
    have hpm := List.mem_of_getElem? hp
    refine W.use .nil (Cl.lam (n := 6) (ls := ["x"]) (gs := []) (binds := [("x", .ref p.1)]) (vs := [("x", some (.ref p.1))]) hfo (Room.in1 (rm.less (by decide))) (.tail _ (List.mem_append_right _ (.head _))) (.tail _ (List.mem_append_right _ (.tail _ (.tail _ (.head _))))) (by kernel_rfl) (fun pm c' ctv => by kernel_rfl) (by kernel_rfl) rfl fun env2 L2 A2 F2 rm2 => ?_)
    repeat tb_rel
    refine W.item_tup (a := p.1) (as := [.int p.2.1, .str p.2.2]) (.tail _ (List.mem_append_right _ (.tail _ (.tail _ (.tail _ (List.mem_append_left _ (hmem p hpm))))))) (by decide) rfl (Nat.le_of_ble_eq_true rfl) (fun v hv => ?_) rfl
    obtain ⟨t, rfl⟩ := hv
    exact ⟨_, .refl _, _, _, .refl _, ⟨t, rfl⟩, rfl, .refl _⟩
  rw [stab_tl]
  have hsl := stabT_len tl
  have hlt := stabT_texts htx hky
  have hxl : ∀ p ∈ stabT tl, p.2.2.length ≤ 6 := fun p hp => opt_len _ (hx _ (by rw [← htx]; exact List.mem_map_of_mem (f := fun (p : Addr × Int × List Nat) => p.2.2) (stabT_mem hp)))
  have hsum := sum_le2 (fun p : Addr × Int × List Nat => p.2.2.length) 6 (stabT tl) hxl
  have hmem2 : ∀ p ∈ stabT tl, (p.1, Ob.tup [.int p.2.1, .str p.2.2]) ∈ TL tl := fun p hp => hmem p (stabT_mem hp)
  generalize stabT tl = st at *
  repeat (first | (with_reducible refine Mine.W.isMeth ?_; refine W.join_gen F (hcode.trans rfl) D.c1 rm (fun _ => rfl) rfl ?_) | tb_rel)
  refine ⟨rv, st, rfl, .tail _ (.tail _ (.head _)), .head _, fun p hp => .tail _ (.tail _ (.tail _ (.tail _ (List.mem_append_left _ (hmem2 p hp))))), by omega, by simp only [List.length_cons, List.length_nil]; omega, fun t => ?_⟩
  rw [hlt]
  repeat tb_rel
  refine ⟨_, ⟨(rv, .list (st.map fun p => .ref p.1)) :: (f, .raw fo) :: (c', codeOb (env.qual ++ "<lambda>")) :: TL tl, permC fun _ z => ?_⟩, h _⟩
  simp only [List.count_append, List.count_cons, List.cons_append]
  omega
end
end Mine
end
section
open PySem PySem.W PySem.Calls PyProof.Rows
set_option maxRecDepth 100000
set_option maxHeartbeats 1000000
set_option autoImplicit false
set_option linter.unusedVariables false
set_option linter.unusedSimpArgs false
namespace Mine
def begL (x : List Nat) : List Nat := if [[45], [47], [43]].contains (x.take 1) then x.take 1 else []
def lawKey (x : List Nat) : Int := if (0 < (begL x).length) ∧ (x.drop 1).take 1 = begL x then 2 else ((begL x).length : Int)
theorem key_law : ∀ x ∈ opts, lawKey x = keyOf x := by decide
theorem beg_len : ∀ x ∈ opts, (begL x).length ≤ 1 := by decide
def dueN : Nat → List (List Nat) → List (List Nat)
  | 0, _ => []
  | n + 1, xs => dueN n xs ++ xs.filter (fun x => decide (keyOf x = (n : Int)))
theorem dueN_3 (xs : List (List Nat)) : dueN 3 xs = ordL xs := by unfold ordL; simp [dueN]
theorem dueN_mem {n : Nat} {xs : List (List Nat)} : ∀ {x}, x ∈ dueN n xs → x ∈ xs := by
  induction n with
  | zero => intro x h; cases h
  | succ n ih =>
    intro x h
    rcases List.mem_append.mp h with h | h
    · exact ih h
    · exact (List.mem_filter.mp h).1
theorem dueN_len {n : Nat} {xs : List (List Nat)} : (dueN n xs).length ≤ n * xs.length := by
  induction n with
  | zero => simp [dueN]
  | succ n ih =>
    have := List.length_filter_le (fun x => decide (keyOf x = (n : Int))) xs
    simp only [dueN, List.length_append, Nat.succ_mul]
    omega
section
variable {D : Wd} {A : Around} {t : Tok} {Q : Value → Led → Prop} {R : Led} {d q : Addr} {s : Dr}
theorem joined_spec (room : Room A 20) (hs : s.ok) (h : Q (.bool true) ((363, tabG) :: R)) : Cl D A (.ref 444) [.ref d] [] Q (Drs d q s ++ ((363, .raw (tabObj #[])) :: R)) := by
  refine Cl.defC (n := 19) (ls := ["rows", "sizes", "one", "begins", "due"]) (gs := ["range", "_law_take", "len", "join_options"]) (cn := ["draws", "size"]) (binds := [("draws", .ref d)]) (by rfl) (by kernel_rfl) room (by rfl) (by kernel_rfl) (fun S => by kernel_rfl) (by kernel_rfl)
    (vs := [("rows", none), ("sizes", none), ("one", none), ("begins", none), ("due", none)]) (by rfl) fun env L A' ca F hcode hqual hcv rm => ?_
  obtain ⟨cf1, cf2⟩ := hcv "draws" (by decide)
  obtain ⟨cs1, cs2⟩ := hcv "size" (by decide)
  let V1 : Option AV → Option AV → Option AV → Option AV → Option AV → Vars := fun r z o b du => [("rows", r), ("sizes", z), ("one", o), ("begins", b), ("due", du)]
  let C2 : Option AV → Led := fun sv => (ca "draws", cellOb (some (.ref d))) :: (ca "size", cellOb sv) :: (363, .raw (tabObj #[])) :: R
  refine W.sub (led' := (ca "draws", cellOb (some (.ref d))) :: (ca "size", cellOb none) :: (Drs d q s ++ ((363, .raw (tabObj #[])) :: R))) (.refl _) ?_
  refine W.sub (led' := Drs d q s ++ C2 none) (.of_perm (permC fun _ z => by simp only [C2, List.count_append, List.count_cons]; omega)) ?_
  tb_rel
  refine W.cutN (fun vs led => ∃ (ra : Addr) (xs : List (List Nat)) (s' : Dr), (∀ x ∈ xs, x ∈ opts) ∧ xs.length ≤ 4 ∧ vs = V1 (some (.ref ra)) none none none none ∧ Sub ((ra, LS xs) :: C2 none) led) ?_ fun vs led ⟨ra, xs, s', hx, hl, e, hsub⟩ => ?_
  · dsimp only [C2, Drs, List.cons_append, List.nil_append]
    repeat tb_rel
    refine W.Assign_ListComp (ls := ["k"]) (gs := ["_law_take"]) (fr := ["draws"]) (ca := ca) F (by kspl_open m_mem) rfl (by kernel_rfl) (by kernel_rfl) ?_ (fun _ => rfl) ?_
    · intro y hy hf
      simp only [List.mem_cons, List.not_mem_nil, or_false] at hy
      rcases hy with rfl | rfl | rfl | rfl
      all_goals first | exact cf1.lk | cases hf
    · repeat tb_rel
      refine W.draw rm (by decide) hs (by decide) (by decide) (by kspl_open m_take) fun v s1 t v0 v1 hs1 => ?_
      dsimp only [Drs, List.cons_append, List.nil_append]
      repeat tb_rel
      refine ⟨_, _, _, fun r o vsC ledC => ∃ (xs : List (List Nat)) (kv : Option AV) (s' : Dr), r.length + xs.length ≤ 4 ∧ o = xs.map .str ∧ (∀ x ∈ xs, x ∈ opts) ∧ s'.ok ∧ vsC = ([("k", kv)] : Vars) ∧ Sub ((L, .ns (V1 none none none none none)) :: (Drs d q s' ++ C2 none)) ledC, Source.range rm (.head _) ⟨by omega, by omega, by omega, by omega⟩, ?_, ?_, ?_, ?_⟩
      · rintro r o vsC ledC ⟨xs, kv, s', hl, rfl, -, -, -, -⟩
        exact ⟨trivial, by rw [List.length_map]; omega⟩
      · exact ⟨[], none, s1, by rw [List.length_map, upFrom_len]; simp; omega, rfl, (fun x h => by cases h), hs1, rfl, by dsimp only [V1, C2]; kspl_open m_sb⟩
      · rintro C cenv acc it2 Fc hcv2 z r o vsC ledC ob2 v hv ⟨xs, kv, s2, hl, rfl, hxs, hs2, rfl, hsub⟩
        have cf3 := hcv2 "draws" (by decide)
        simp only [List.length_cons] at hl
        refine W.sub (.cons (.cons hsub)) ?_
        dsimp only [V1, C2, Drs, List.cons_append, List.nil_append]
        repeat tb_rel
        tb_start
        repeat tb_rel
        refine W.draw rm (by decide) hs2 (by decide) (by decide) (by kspl_open m_take) fun v s3 t v0 v1 hs3 => ?_
        dsimp only [Drs, List.cons_append, List.nil_append]
        repeat tb_rel
        have hlt : v.toNat < opts.length := by show v.toNat < 8; omega
        refine W.item_list (as := opts.map .str) (k := v) (x := .str (opts[v.toNat])) (.tail _ (.tail _ (.head _))) v0 (by rw [List.getElem?_map, List.getElem?_eq_getElem hlt]; rfl) (Nat.le_of_ble_eq_true rfl) (fun w hw => ?_) rfl
        exact ⟨.str (opts[v.toNat]), (L, .ns (V1 none none none none none)) :: (Drs d q s3 ++ C2 none), hw, by dsimp only [V1, C2, Drs, List.cons_append, List.nil_append]; kspl_open m_sub, xs ++ [opts[v.toNat]], _, s3, by simp; omega, by simp, fun x h => by
          rcases List.mem_append.mp h with h | h
          · exact hxs x h
          · rw [List.mem_singleton] at h; subst h; exact List.getElem_mem hlt, hs3, rfl, .refl _⟩
      · rintro o vsC ledC ⟨xs, kv, s2, hl, rfl, hxs, hs2, rfl, hsub⟩
        refine ⟨_, _, hsub, fun acc => ⟨_, by kspl_open m_put, rfl, acc, xs, s2, hxs, by simp at hl; omega, rfl, .cons (.skip (.skip (.refl _)))⟩⟩
  subst e
  refine W.sub hsub ?_
  clear hsub
  dsimp only [V1, C2]
  repeat tb_rel
  rename_i sz
  refine W.cutN (fun vs led => ∃ (tl : TwoL) (o b : Option AV), tl.map (·.2.2) = xs ∧ (∀ p ∈ tl, p.2.1 = keyOf p.2.2) ∧ vs = V1 (some (.ref ra)) (some (.ref sz)) o b none ∧ Sub ((sz, .list (tl.map fun p => .ref p.1)) :: (TL tl ++ ((ra, LS xs) :: C2 none))) led) ?_ fun vs led ⟨tl, o, b, htx, hky, e, hsub⟩ => ?_
  · refine W.For_list rm (fun _ => rfl) ?_
    repeat tb_rel
    refine ⟨ra, xs.map .str, fun rem vs led => ∃ (pre rst : List (List Nat)) (tl : TwoL) (o b : Option AV), xs = pre ++ rst ∧ rem = rst.map .str ∧ tl.map (·.2.2) = pre ∧ (∀ p ∈ tl, p.2.1 = keyOf p.2.2) ∧ vs = V1 (some (.ref ra)) (some (.ref sz)) o b none ∧ Sub ((sz, .list (tl.map fun p => .ref p.1)) :: (TL tl ++ ((ra, LS xs) :: C2 none))) led, rfl, ?_, ?_, ?_, ?_⟩
    · rintro r vs led ⟨pre, rst, tl, o, p, -, -, -, -, -, hs2⟩
      exact hs2.mem (.tail _ (List.mem_append_right _ (.head _)))
    · exact ⟨[], xs, [], _, _, rfl, rfl, rfl, (fun p hp => by cases hp), rfl, by dsimp only [TL, C2, List.map, List.nil_append]; kspl_open m_sub⟩
    · rintro z r vs led it ob v hv ⟨pre, rst, tl, o, b, hpr, hrem, htx, hky, rfl, hs2⟩
      cases rst with
      | nil => cases hrem
      | cons y rst2 =>
        rw [List.map_cons] at hrem
        injection hrem with hz1 hz2
        subst hz1 hz2
        obtain ⟨tv, rfl⟩ := hv
        have hy : y ∈ opts := hx y (by rw [hpr]; simp)
        have hyl := opt_len y hy
        have hyz : y.length ≤ 10000000 := by omega
        have hbl : (begL y).length ≤ 10000000 := by have := beg_len y hy; omega
        have hkl := key_law y hy
        have htl : (tl.map fun p => AV.ref p.1).length ≤ 10000000 := by
          have e1 := congrArg List.length htx
          have e2 := congrArg List.length hpr
          simp only [List.length_map, List.length_append, List.length_cons] at e1 e2 ⊢
          omega
        refine W.sub (.cons hs2) ?_
        dsimp only [V1]
        kspl_open m_x
        tb_rel
        tb_rel
        refine W.cutN (fun vs led => vs = V1 (some (.ref ra)) (some (.ref sz)) (some (.str y)) (some (.str (begL y))) none ∧ Sub ((it, ob) :: (sz, .list (tl.map fun p => .ref p.1)) :: (TL tl ++ ((ra, LS xs) :: C2 none))) led) ?_ fun vs led ⟨e, hsub⟩ => ?_
        · repeat tb_rel
          refine W.in_tup (ys := [[45], [47], [43]]) (.head _) ?_
          rw [show (1 : Int).toNat = 1 from rfl]
          repeat tb_rel
          by_cases hb : [[45], [47], [43]].contains (y.take 1) = true
          · have e : begL y = y.take 1 := by unfold begL; rw [if_pos hb]
            refine way_t hb ?_
            repeat tb_rel
            rw [e]
            exact ⟨rfl, rfl, .skip (.refl _)⟩
          · have e : begL y = [] := by unfold begL; rw [if_neg hb]
            refine way_f (by simpa using hb) ?_
            repeat tb_rel
            rw [e]
            exact ⟨rfl, rfl, .skip (.refl _)⟩
        subst e
        refine W.sub hsub ?_
        clear hsub
        dsimp only [V1]
        repeat tb_rel
        tb_start
        · rename_i hC
          repeat tb_rel
          tb_start
          · rename_i hC2
            have hk : keyOf y = 2 := by rw [← hkl]; unfold lawKey; rw [if_pos ⟨by omega, hC2⟩]
            repeat kspl_open m_w
            rename_i T0
            exact ⟨(sz, .list ((tl ++ [(T0, 2, y)] : TwoL).map fun p => .ref p.1)) :: (TL (tl ++ [(T0, 2, y)]) ++ ((ra, LS xs) :: C2 none)), .of_perm (permC fun _ z => by
            simp only [TL, C2, List.map_append, List.map_cons, List.map_nil, List.count_append, List.count_cons, List.count_nil, List.cons_append, List.nil_append]; omega),
            pre ++ [y], rst2, tl ++ [(T0, 2, y)], _, _, by rw [hpr]; simp, rfl, by rw [List.map_append, htx]; rfl, fun p hp => by
              rcases List.mem_append.mp hp with hp | hp
              · exact hky p hp
              · rw [List.mem_singleton] at hp; subst hp; exact hk.symm, rfl, .refl _⟩
          · rename_i hC2
            have hk : keyOf y = ((begL y).length : Int) := by rw [← hkl]; unfold lawKey; rw [if_neg (fun q => hC2 q.2)]
            repeat kspl_open m_w
            rename_i T0
            exact ⟨(sz, .list ((tl ++ [(T0, ((begL y).length : Int), y)] : TwoL).map fun p => .ref p.1)) :: (TL (tl ++ [(T0, ((begL y).length : Int), y)]) ++ ((ra, LS xs) :: C2 none)), .of_perm (permC fun _ z => by
            simp only [TL, C2, List.map_append, List.map_cons, List.map_nil, List.count_append, List.count_cons, List.count_nil, List.cons_append, List.nil_append]; omega),
            pre ++ [y], rst2, tl ++ [(T0, ((begL y).length : Int), y)], _, _, by rw [hpr]; simp, rfl, by rw [List.map_append, htx]; rfl, fun p hp => by
              rcases List.mem_append.mp hp with hp | hp
              · exact hky p hp
              · rw [List.mem_singleton] at hp; subst hp; exact hk.symm, rfl, .refl _⟩
        · rename_i hC
          have hk : keyOf y = ((begL y).length : Int) := by rw [← hkl]; unfold lawKey; rw [if_neg (fun q => hC (by have := q.1; omega))]
          repeat kspl_open m_w
          rename_i T0
          exact ⟨(sz, .list ((tl ++ [(T0, ((begL y).length : Int), y)] : TwoL).map fun p => .ref p.1)) :: (TL (tl ++ [(T0, ((begL y).length : Int), y)]) ++ ((ra, LS xs) :: C2 none)), .of_perm (permC fun _ z => by
            simp only [TL, C2, List.map_append, List.map_cons, List.map_nil, List.count_append, List.count_cons, List.count_nil, List.cons_append, List.nil_append]; omega),
            pre ++ [y], rst2, tl ++ [(T0, ((begL y).length : Int), y)], _, _, by rw [hpr]; simp, rfl, by rw [List.map_append, htx]; rfl, fun p hp => by
              rcases List.mem_append.mp hp with hp | hp
              · exact hky p hp
              · rw [List.mem_singleton] at hp; subst hp; exact hk.symm, rfl, .refl _⟩
    · rintro vs led ⟨pre, rst, tl, o, b, hpr, hrem, htx, hky, rfl, hs2⟩
      cases rst with
      | cons a b => cases hrem
      | nil =>
        rw [List.append_nil] at hpr
        subst hpr
        refine W.sub hs2 ?_
        repeat tb_rel
        exact ⟨rfl, tl, _, _, htx, hky, rfl, .refl _⟩
  subst e
  refine W.sub hsub ?_
  clear hsub
  have htl : tl.length ≤ 4 := by have := congrArg List.length htx; simp at this; omega
  dsimp only [V1]
  repeat tb_rel
  rename_i d0
  let LR : Led := (sz, .list (tl.map fun p => .ref p.1)) :: (TL tl ++ [(ra, LS xs)])
  refine W.cutN (fun vs led => ∃ (du : Addr) (sv : Option AV), vs = V1 (some (.ref ra)) (some (.ref sz)) o b (some (.ref du)) ∧ Sub ((du, LS (ordL xs)) :: (LR ++ C2 sv)) led) ?_ fun vs led ⟨du, sv, e, hsub⟩ => ?_
  · refine W.For_range rm (fun _ => rfl) ?_
    repeat tb_rel
    refine ⟨_, 0, _, fun ks vs led => ∃ (j : Nat) (du : Addr) (sv : Option AV), ks = upFrom (j : Int) (3 - j) ∧ j ≤ 3 ∧ vs = V1 (some (.ref ra)) (some (.ref sz)) o b (some (.ref du)) ∧ Sub ((du, LS (dueN j xs)) :: (LR ++ C2 sv)) led, rfl, by kspl_open m_mem, by omega, ?_, ?_, ?_⟩
    · exact ⟨0, d0, none, rfl, by omega, rfl, .skip (.of_perm (permC fun _ z => by simp only [LR, C2, dueN, LS, List.map_nil, List.count_append, List.count_cons, List.count_nil, List.cons_append, List.nil_append]; omega))⟩
    · rintro k r vs led it ob t ⟨j, du, sv, hks, hj, rfl, hs2⟩
      obtain ⟨m, hm⟩ : ∃ m, 3 - j = m + 1 := by
        cases h0 : 3 - j with
        | zero => rw [h0] at hks; cases hks
        | succ m => exact ⟨m, rfl⟩
      rw [hm, upFrom] at hks
      obtain ⟨rfl, rfl⟩ := List.cons.inj hks
      have hdl := dueN_len (n := j) (xs := xs)
      have hdl2 : (dueN j xs).length ≤ 12 := by
        have : j * xs.length ≤ 3 * 4 := Nat.mul_le_mul (by omega) hl
        omega
      have hbj : ((dueN j xs).map AV.str).length ≤ 12 := by rw [List.length_map]; exact hdl2
      refine W.sub (led' := (it, ob) :: (du, LS (dueN j xs)) :: (ca "draws", cellOb (some (.ref d))) :: (ca "size", cellOb sv) :: (LR ++ ((363, .raw (tabObj #[])) :: R))) (.cons (.trans (.of_perm (permC fun _ z => by simp only [C2, List.count_append, List.count_cons]; omega)) hs2)) ?_
      dsimp only [V1]
      repeat tb_rel
      let V : Vars := V1 (some (.ref ra)) (some (.ref sz)) o b (some (.ref du))
      let LX : Led := (it, ob) :: (du, LS (dueN j xs)) :: (ca "draws", cellOb (some (.ref d))) :: (ca "size", cellOb (some (.int (j : Int)))) :: (LR ++ ((363, .raw (tabObj #[])) :: R))
      refine W.ListComp (ls := ["many", "one"]) (gs := []) (fr := ["size"]) (ca := ca) F (by kernel_rfl) ?_ (fun _ => rfl) ?_
      · intro y hy hf
        simp only [List.mem_cons, List.not_mem_nil, or_false] at hy
        rcases hy with rfl | rfl | rfl | rfl
        all_goals first | exact cs1.lk | cases hf
      · repeat tb_rel
        have hszm : ∀ l, (sz, Ob.list (tl.map fun p => .ref p.1)) ∈ (it, ob) :: (du, LS (dueN j xs)) :: (ca "draws", cellOb (some (.ref d))) :: (ca "size", cellOb (some (.int (j : Int)))) :: (LR ++ l) := fun l => .tail _ (.tail _ (.tail _ (.tail _ (.head _))))
        refine ⟨_, _, _, fun r o2 vsC ledC => ∃ (pre rst : TwoL) (a1 a2 : Option AV), tl = pre ++ rst ∧ r = rst.map (fun p => .ref p.1) ∧ o2 = ((pre.filter fun p => decide (p.2.1 = (j : Int))).map fun p => AV.str p.2.2) ∧ vsC = ([("many", a1), ("one", a2)] : Vars) ∧ Sub ((L, .ns V) :: LX) ledC, Source.list rm (hszm _), ?_, ?_, ?_, ?_⟩
        · rintro r o2 vsC ledC ⟨pre, rst, a1, a2, hpr, rfl, rfl, rfl, hsub⟩
          refine ⟨hsub.mem (.tail _ (hszm _)), ?_⟩
          rw [List.length_map]
          have h1 := List.length_filter_le (fun p : Addr × Int × List Nat => decide (p.2.1 = (j : Int))) pre
          have h2 := congrArg List.length hpr
          rw [List.length_append] at h2
          omega
        · exact ⟨[], tl, _, _, rfl, rfl, rfl, rfl, .refl _⟩
        · rintro C cenv acc it2 Fc hcv2 z r o2 vsC ledC ob2 v hv ⟨pre, rst, a1, a2, hpr, hr, rfl, rfl, hsub⟩
          have cs3 := hcv2 "size" (by decide)
          cases rst with
          | nil => cases hr
          | cons y rst2 =>
            rw [List.map_cons] at hr
            injection hr with hz1 hz2
            subst hz1 hz2
            cases (show v = .ref y.1 from hv)
            have hym : y ∈ tl := by rw [hpr]; simp
            have hmem : (y.1, Ob.tup [.int y.2.1, .str y.2.2]) ∈ TL tl := List.mem_map_of_mem (f := fun (p : Addr × Int × List Nat) => (p.1, Ob.tup [.int p.2.1, .str p.2.2])) hym
            refine W.sub (.cons (.cons hsub)) ?_
            refine W.assign_two (p := .int y.2.1) (q := .str y.2.2) rm (.tail _ (.tail _ (.tail _ (.tail _ (.tail _ (.tail _ (.tail _ (List.mem_append_left _ (.tail _ (List.mem_append_left _ hmem)))))))))) ?_
            dsimp only [V, V1, LX]
            repeat tb_rel
            tb_start
            · rename_i hC
              repeat tb_rel
              exact ⟨.str y.2.2, (L, .ns V) :: LX, ⟨_, rfl⟩, .refl _, pre ++ [y], rst2, _, _, by rw [hpr]; simp, rfl, by rw [List.filter_append, List.filter_cons, if_pos (decide_eq_true hC)]; simp, rfl, .refl _⟩
            · rename_i hC
              exact ⟨(L, .ns V) :: LX, .refl _, pre ++ [y], rst2, _, _, by rw [hpr]; simp, rfl, by rw [List.filter_append, List.filter_cons, if_neg (by simpa using hC)]; simp, rfl, .refl _⟩
        · rintro o2 vsC ledC ⟨pre, rst, a1, a2, hpr, hr, rfl, rfl, hsub⟩
          cases rst with
          | cons a b => cases hr
          | nil =>
            rw [List.append_nil] at hpr
            subst hpr
            refine ⟨V, LX, hsub, fun acc => ?_⟩
            have hft := filter_texts (j : Int) _ xs htx hky
            have hfl := List.length_filter_le (fun p : Addr × Int × List Nat => decide (p.2.1 = (j : Int))) tl
            have hmt : ((tl.filter fun p => decide (p.2.1 = (j : Int))).map fun p => AV.str p.2.2) = (xs.filter fun x => decide (keyOf x = (j : Int))).map .str := by rw [← hft, List.map_map]; rfl
            have hml : ((xs.filter fun x => decide (keyOf x = (j : Int))).map AV.str).length ≤ 4 := by rw [← hmt, List.length_map]; omega
            rw [hmt]
            dsimp only [V, V1, LX]
            refine W.add_list (.tail _ (.tail _ (.head _))) (.head _) (by omega) fun cc => ?_
            repeat tb_rel
            exact ⟨(cc, LS (dueN (j + 1) xs)) :: (LR ++ C2 (some (.int (j : Int)))), ⟨[(acc, .list ((xs.filter fun x => decide (keyOf x = (j : Int))).map .str)), (du, LS (dueN j xs))], permC fun _ z => by
              simp only [C2, dueN, LS, List.map_append, List.count_append, List.count_cons, List.count_nil, List.cons_append, List.nil_append]; omega⟩, j + 1, cc, _, by rw [show 3 - (j + 1) = m by omega]; push_cast; rfl, by omega, rfl, .refl _⟩
    · rintro vs led ⟨j, du, sv, hks, hj, rfl, hs2⟩
      have hj3 : j = 3 := by
        cases h0 : 3 - j with
        | zero => omega
        | succ m => rw [h0] at hks; cases hks
      subst hj3
      refine W.sub hs2 ?_
      repeat tb_rel
      exact ⟨rfl, du, sv, rfl, by rw [← dueN_3]; exact .refl _⟩
  subst e
  refine W.sub hsub ?_
  clear hsub
  dsimp only [V1]
  have hom : ∀ x ∈ ordL xs, x ∈ opts := fun x h => hx x (dueN_mem (n := 3) (by rw [dueN_3]; exact h))
  have hol : (ordL xs).length ≤ 12 := by
    have := dueN_len (n := 3) (xs := xs)
    rw [dueN_3] at this
    omega
  have hos := sum_le2 (fun x : List Nat => x.length) 6 (ordL xs) fun x h => opt_len x (hom x h)
  have hoj : ((ordL xs).map (·.length)).sum + (ordL xs).length * ([44, 32] : List Nat).length ≤ 10000000 := by
    simp only [List.length_cons, List.length_nil]; omega
  have hjl : (joinL [44, 32] (ordL xs)).length ≤ 1000 := by
    have := joinL_len [44, 32] (ordL xs)
    simp only [List.length_cons, List.length_nil] at this
    omega
  have hja : ∀ c ∈ joinL [44, 32] (ordL xs), c < 128 := joinL_all (P := fun c => c < 128) (by decide) fun x h => opt_ascii x (hom x h)
  refine W.sub (led' := (363, .raw (tabObj #[])) :: (ra, LS xs) :: (du, LS (ordL xs)) :: R) ⟨(sz, .list (tl.map fun p => .ref p.1)) :: (TL tl ++ [(ca "draws", cellOb (some (.ref d))), (ca "size", cellOb sv)]), permC fun _ z => by
    simp only [LR, C2, List.count_append, List.count_cons, List.count_nil, List.cons_append, List.nil_append]; omega⟩ ?_
  repeat tb_rel
  refine W.use (P := (363, .raw (tabObj #[])) :: [(ra, LS xs)]) (by kspl_open m_take) (join_spec (rm.less (by decide)) hx hl fun t => Back.intro (P := [(t, .tup [.str (joinL [44, 32] (ordL xs)), .bool (xs.contains oB)]), (363, tabG), (ra, LS xs)]) ?_)
  dsimp only [List.cons_append, List.nil_append]
  repeat tb_rel
  refine W.in_strs (.tail _ (.tail _ (.head _))) ?_
  repeat tb_rel
  refine W.eq_two rm (by decide) (.tail _ (.head _)) (.head _) (by exact ⟨hjl, hja⟩) trivial ?_
  repeat tb_rel
  exact ⟨(363, tabG) :: R, .skip (.skip (.cons (.skip (.skip (.refl _))))), h⟩
end
end Mine
end
section
open PySem PySem.W PySem.Calls PyProof.Rows
set_option maxRecDepth 100000
set_option maxHeartbeats 1000000
set_option autoImplicit false
set_option linter.unusedVariables false
set_option linter.unusedSimpArgs false
namespace Mine
theorem join_nil : ∀ xs : List T, joinL [] xs = xs.flatten
  | [] => rfl
  | [x] => by simp [joinL]
  | x :: y :: r => by
    have := join_nil (y :: r)
    show x ++ [] ++ joinL [] (y :: r) = _
    rw [this]; simp
theorem sum_flat (xs : List T) : (xs.map (·.length)).sum = xs.flatten.length := by
  rw [List.length_flatten]
section
variable {D : Wd} {A : Around} {Q : Value → Led → Prop} {R : Led} {a : Addr} {its : List Value} {ns : List Int}
theorem law_spec (room : Room A 60) (hB : D.B.IsList a its.toArray) (hI : IntsAre its ns) (hl : ns.length ≤ 63)
    (h : ∀ ts, Q (.bool true) ((363, tabG) :: (TabL 255 wq wpos ts ++ ((240, tabG) :: R)))) : Cl D A (.ref 449) [.ref a] [] Q ((363, .raw (tabObj #[])) :: (TabL 255 wq wpos none ++ ((240, tabG) :: R))) := by
  refine Cl.def_ (n := 59) (ls := ["script", "draws", "step", "width", "at", "due", "page", "turn", "more"]) (gs := ["_law_take", "HelpFormatter", "range", "_law_done", "_law_joined"])
    (binds := [("script", .ref a)]) (by rfl) (by kernel_rfl) room (by rfl) (by kernel_rfl) (fun S => by kernel_rfl) (by kernel_rfl)
    (vs := [("script", some (.ref a)), ("draws", none), ("step", none), ("width", none), ("at", none), ("due", none), ("page", none), ("turn", none), ("more", none)]) (by rfl) fun env L A' F rm => ?_
  let RR : Option Addr → Led := fun ts => (363, .raw (tabObj #[])) :: (TabL 255 wq wpos ts ++ ((240, tabG) :: R))
  show W D A' L _ _ _ (RR none)
  let V1 : Option AV → Option AV → Option AV → Option AV → Option AV → Option AV → Option AV → Option AV → Vars := fun dr st wi at_ du pa tu mo => [("script", some (.ref a)), ("draws", dr), ("step", st), ("width", wi), ("at", at_), ("due", du), ("page", pa), ("turn", tu), ("more", mo)]
  tb_rel
  refine W.cutN (fun vs led => ∃ (d q : Addr) (s : Dr), s.ok ∧ vs = V1 (some (.ref d)) none none none none none none none ∧ Sub (Drs d q s ++ RR none) led) ?_ fun vs led ⟨d, q, s, hs, e, hsub⟩ => ?_
  · repeat tb_rel
    refine W.ListComp (ls := ["number"]) (gs := ["abs"]) (fr := []) (ca := fun _ => 0) F (by kernel_rfl) ?_ (fun _ => rfl) ?_
    · intro y hy hf
      simp only [List.mem_cons, List.not_mem_nil, or_false] at hy
      rcases hy with rfl | rfl | rfl <;> cases hf
    · repeat tb_rel
      refine W.sl_base (k := 12) hB hI (by omega) fun c => ?_
      refine ⟨_, _, _, fun r o vsC ledC => ∃ (pre rst : List Int) (nv : Option AV), ns.take 12 = pre ++ rst ∧ r = rst.map .int ∧ o = (pre.map fun x => (x.natAbs : Int) % 10 ^ 15).map .int ∧ vsC = ([("number", nv)] : Vars) ∧ Sub ((L, .ns (V1 none none none none none none none none)) :: (c, LI (ns.take 12)) :: RR none) ledC, Source.list rm (.head _), ?_, ?_, ?_, ?_⟩
      · rintro r o vsC ledC ⟨pre, rst, nv, hpr, rfl, rfl, rfl, hsub⟩
        refine ⟨hsub.mem (.tail _ (.head _)), ?_⟩
        have h2 := congrArg List.length hpr
        rw [List.length_append, List.length_take] at h2
        rw [List.length_map, List.length_map]
        omega
      · exact ⟨[], _, _, rfl, rfl, rfl, rfl, .refl _⟩
      · rintro C cenv acc it2 Fc hcv2 z r o vsC ledC ob2 v hv ⟨pre, rst, nv, hpr, hr, rfl, rfl, hsub⟩
        cases rst with
        | nil => cases hr
        | cons y rst2 =>
          rw [List.map_cons] at hr
          injection hr with hz1 hz2
          subst hz1 hz2
          obtain ⟨tv, rfl⟩ := hv
          refine W.sub (.cons (.cons hsub)) ?_
          dsimp only [V1]
          repeat tb_rel
          tb_start
          repeat tb_rel
          refine W.abs_int fun t => ?_
          repeat tb_rel
          refine W.pow_int (by decide) (by decide) (by decide) fun t => ?_
          refine W.mod_int (by decide) fun t => ?_
          exact ⟨.int ((y.natAbs : Int) % 10 ^ 15), (L, .ns (V1 none none none none none none none none)) :: (c, LI (ns.take 12)) :: RR none, ⟨_, rfl⟩, .refl _, pre ++ [y], rst2, _, by rw [hpr]; simp, rfl, by simp, rfl, .refl _⟩
      · rintro o vsC ledC ⟨pre, rst, nv, hpr, hr, rfl, rfl, hsub⟩
        cases rst with
        | cons a b => cases hr
        | nil =>
          rw [List.append_nil] at hpr
          refine ⟨_, _, hsub, fun acc => ?_⟩
          repeat tb_rel
          rename_i dl
          refine ⟨rfl, dl, acc, (0, pre.map fun x => (x.natAbs : Int) % 10 ^ 15), ⟨by show (0 : Int) ≤ 0; decide, by show (0 : Int) < 10 ^ 15; decide, fun y hy => ?_, ?_⟩, rfl, ?_⟩
          · obtain ⟨x, hx, rfl⟩ := List.mem_map.mp hy
            exact ⟨Int.emod_nonneg _ (by decide), Int.emod_lt_of_pos _ (by decide)⟩
          · rw [List.length_map, ← hpr, List.length_take]; omega
          · exact .cons (.cons (.skip (.refl _)))
  subst e
  refine W.sub hsub ?_
  clear hsub
  dsimp only [V1, Drs, List.cons_append, List.nil_append]
  tb_rel
  refine W.cutN (fun vs led => ∃ (st w : Int) (s' : Dr), (1 ≤ st ∧ st ≤ 4) ∧ (20 ≤ w ∧ w ≤ 60) ∧ s'.ok ∧ vs = V1 (some (.ref d)) (some (.int st)) (some (.int w)) (some (.int 0)) (some (.str [])) none none none ∧ Sub (Drs d q s' ++ RR none) led) ?_ fun vs led ⟨st, w, s1, hst, hw, hs1, e, hsub⟩ => ?_
  · refine W.Assign_tup ?_ rfl rfl
    repeat tb_rel
    refine W.draw rm (by decide) hs (by decide) (by decide) (by kspl_open m_take) fun v s1 t v0 v1 hs1 => ?_
    dsimp only [Drs, List.cons_append, List.nil_append]
    repeat tb_rel
    refine W.draw rm (by decide) hs1 (by decide) (by decide) (by kspl_open m_take) fun v2 s2 t v3 v4 hs2 => ?_
    dsimp only [Drs, List.cons_append, List.nil_append]
    repeat tb_rel
    refine W.assign_four rm (.head _) ?_
    repeat tb_rel
    exact ⟨rfl, 1 + v, 20 + v2, s2, ⟨by omega, by omega⟩, ⟨by omega, by omega⟩, hs2, rfl, by kspl_open m_sb⟩
  subst e
  refine W.sub hsub ?_
  clear hsub
  dsimp only [V1]
  repeat tb_rel
  refine W.mkPg (n := 50) (rm.less (by decide)) fun x dx b => ?_
  repeat tb_rel
  refine W.sub (led' := Drs d q s1 ++ (Pg x dx b st w 0 [] ++ RR none)) (.of_perm (permC fun _ z => by simp only [Drs, Pg, LS, List.count_append, List.count_cons, List.cons_append, List.nil_append]; omega)) ?_
  let V4 : Nat → T → Option AV → Option AV → Vars := fun n due tu mo => V1 (some (.ref d)) (some (.int st)) (some (.int w)) (some (.int (n : Int))) (some (.str due)) (some (.ref x)) tu mo
  refine W.cutN (fun vs led => ∃ (n : Nat) (due : T) (tu mo : Option AV) (s' : Dr) (ts' : Option Addr), s'.ok ∧ vs = V4 n due tu mo ∧ Sub (Drs d q s' ++ RR ts') led) ?_ fun vs led ⟨n, due, tu, mo, s', ts', hs', e, hsub⟩ => ?_
  · refine W.For_range rm (fun _ => rfl) ?_
    dsimp only [Drs, List.cons_append, List.nil_append]
    repeat tb_rel
    refine W.draw rm (by decide) hs1 (by decide) (by decide) (by kspl_open m_take) fun v s2 t v0 v1 hs2 => ?_
    dsimp only [Drs, List.cons_append, List.nil_append]
    repeat tb_rel
    refine ⟨_, 0, _, fun ks vs led => ∃ (n : Nat) (buf : List T) (s' : Dr) (ts' : Option Addr) (tu mo : Option AV), buf.length + 9700 * ks.length ≤ 38800 ∧ buf.flatten.length + 1600000 * ks.length ≤ 6400000 ∧ (buf.flatten = [] → buf = []) ∧ (n : Int) < w ∧ s'.ok ∧ vs = V4 n buf.flatten tu mo ∧ Sub (Drs d q s' ++ (Pg x dx b st w n buf ++ RR ts')) led, rfl, by kspl_open m_mem, by omega, ?_, ?_, ?_⟩
    · exact ⟨0, [], s2, none, _, _, by rw [upFrom_len]; simp; omega, by rw [upFrom_len]; simp; omega, fun _ => rfl, by omega, hs2, rfl, .skip (.refl _)⟩
    · rintro k r vs led it ob t ⟨n, buf, s3, ts', tu, mo, hb1, hb2, hE, hn, hs3, rfl, hsub⟩
      simp only [List.length_cons] at hb1 hb2
      have hwr : decide (buf.flatten ≠ []) = !decide (buf = []) := by
        by_cases hb : buf = []
        · subst hb; rfl
        · have : buf.flatten ≠ [] := fun e => hb (hE e)
          rw [decide_eq_true this, decide_eq_false hb]; rfl
      refine W.sub (.cons hsub) ?_
      dsimp only [V4, V1, Drs, Pg, LS, List.cons_append, List.nil_append]
      repeat tb_rel
      refine W.Assign_tup ?_ rfl rfl
      repeat tb_rel
      refine W.draw rm (by decide) hs3 (by decide) (by decide) (by kspl_open m_take) fun v s4 t v0 v1 hs4 => ?_
      dsimp only [Drs, List.cons_append, List.nil_append]
      repeat tb_rel
      refine W.useP ?_ (done_spec (n := n) (w := w) (st := st) (buf := buf) (b := b) (dx := dx) (x := x) (d := d) (q := q) (ts := ts') (at_ := (n : Int)) (R := (L, .ns (V4 n buf.flatten (some (.int k)) mo)) :: (it, ob) :: (363, .raw (tabObj #[])) :: R) (rm.less (by decide)) hs4 v0 rfl hn hw hst (by omega) hwr fun T9 n' more s' ts2 buf' h1 h2 h3 h4 h5 h6 => Back.perm (vs := V4 n buf.flatten (some (.int k)) mo) (led2 := (T9, .tup [.int (n' : Int), .str more]) :: (Drs d q s' ++ (Pg x dx b st w n' buf' ++ ((it, ob) :: RR ts2)))) ?_ ?_)
      · refine permC fun _ z => ?_
        simp only [V4, V1, RR, Drs, Pg, LS, List.count_append, List.count_cons, List.cons_append, List.nil_append, List.count_nil]
        omega
      · refine permC fun _ z => ?_
        simp only [V4, V1, RR, Drs, Pg, LS, List.count_append, List.count_cons, List.cons_append, List.nil_append, List.count_nil]
        omega
      have hfl : buf'.flatten.length = buf.flatten.length + more.length := by rw [h3, List.length_append]
      have hsm : (buf'.map (·.length)).sum ≤ 10000000 := by rw [sum_flat]; omega
      have hbz : buf.flatten.length ≤ 4800000 := by omega
      dsimp only [V4, V1, Drs, Pg, LS, List.cons_append, List.nil_append]
      repeat kspl_open m_w
      refine W.use (P := Pg x dx b st w n' buf') (by dsimp only [Pg]; kspl_open m_take) (getvalue_spec (rm.less (by decide)) hsm (by omega) fun t => Back.intro (P := Pg x dx b st w n' buf') ?_)
      rw [join_nil, h3]
      dsimp only [Drs, Pg, LS, List.cons_append, List.nil_append]
      repeat tb_rel
      refine way_f (by simp) ?_
      repeat tb_rel
      refine ⟨Drs d q s' ++ (Pg x dx b st w n' buf' ++ RR ts2), ⟨[(T9, .tup [.int (n' : Int), .str more])], permC fun _ z => ?_⟩, n', buf', s', ts2, _, _, by omega, by omega, fun e => ?_, h1, h2, by rw [h3], .refl _⟩
      · simp only [RR, Drs, Pg, LS, List.count_append, List.count_cons, List.cons_append, List.nil_append, List.count_nil]
        omega
      · rcases h6 with ⟨h6, h7⟩ | h6
        · rw [h6] at e ⊢
          exact hE e
        · rw [h3] at e
          exact absurd (List.append_eq_nil_iff.mp e).2 h6
    · rintro vs led ⟨n, buf, s3, ts', tu, mo, hb1, hb2, hE, hn, hs3, rfl, hsub⟩
      refine W.sub hsub ?_
      repeat tb_rel
      exact ⟨rfl, n, _, _, _, s3, ts', hs3, rfl, ⟨Pg x dx b st w n buf, permC fun _ z => by simp only [RR, Drs, Pg, LS, List.count_append, List.count_cons, List.count_nil, List.cons_append, List.nil_append]; omega⟩⟩
  subst e
  refine W.sub hsub ?_
  clear hsub
  dsimp only [V4, V1]
  repeat tb_rel
  refine W.use (P := Drs d q s' ++ [(363, .raw (tabObj #[]))]) (R := TabL 255 wq wpos ts' ++ ((240, tabG) :: R)) (Take.of_perm (by simp) (.refl _)) (joined_spec (rm.less (by decide)) hs' (Back.intro (P := [(363, tabG)]) ?_))
  repeat tb_rel
  exact ⟨_, .refl _, h ts'⟩
end
end Mine
end
section
open PySem PySem.W PySem.Calls PyProof.Rows
set_option maxRecDepth 100000
set_option maxHeartbeats 1000000
set_option autoImplicit false
set_option linter.unusedVariables false
namespace Mine
abbrev tabs3 : List (Addr × Addr) := [(367, 363), (259, 255), (244, 240)]
theorem head_end {p : Program} {loose : List Str} {mean mean' : ExcName → Option Value} {mg mb : Str → Option Value} {w : World} {s₁ : Shared} {cl : Str → Option Addr} {cw : ClaimW} {args : List WData} {fa a : Addr} {its : List Value} {ns : List Int}
    (KX : (hd.heap_39 w.params).In s₁.heap) (T : Top p loose mean mg mb s₁.heap) (hp : ((recsOf p).find? fun e => e.name == ("measure_table" : Str)).isSome = true) (hT8 : ∀ P ∈ ([363, 255] : List Addr), s₁.heap.get? P = some (tabObj #[])) (hg : s₁.gens = #[]) (hmg : mg "law" = some (.ref fa))
    (hl : s₁.heap.IsList a its.toArray) (hI : IntsAre its ns) (hlen : ns.length ≤ 63) (hc1 : cw.post args (.bool true) args = true) (hc2 : ∀ cls, cw.raises args cls = false) :
    codeAny (model PG w) callerA (.call (.ref fa) ⟨[.ref a], []⟩) (GoodWG cw cl mean' args s₁) s₁ := by
  have e449 : mg "law" = some (.ref 449) := mg_of KX T.g (by kernel_rfl)
  rw [hmg] at e449
  cases e449
  obtain ⟨d, hd⟩ := Option.isSome_iff_exists.mp hp
  obtain ⟨c3, t3⟩ := tab_of (c := 244) (P := 240) T KX hd (by kernel_rfl)
  have c1 : CodeHd s₁.heap 367 363 := codeHd_of_K KX (by kernel_rfl)
  have c2 : CodeHd s₁.heap 259 255 := codeHd_of_K KX (by kernel_rfl)
  have t1 : s₁.heap.get? 363 = some (tabObj #[]) := hT8 363 (.head _)
  have t2 : s₁.heap.get? 255 = some (tabObj #[]) := hT8 255 (.tail _ (.head _))
  have hT : TabsAt tabs3 s₁.heap := fun q hq => by
    rcases List.mem_cons.mp hq with rfl | hq
    · exact ⟨c1, t1⟩
    rcases List.mem_cons.mp hq with rfl | hq
    · exact ⟨c2, t2⟩
    rw [List.mem_singleton] at hq
    subst hq
    exact ⟨c3, t3⟩
  obtain ⟨g1, g2, g3, -⟩ := ghost_code hT
  let D : Wd := { w := w, B := ghostOf s₁.heap tabs3, mg := mg, mb := mb, mean := mean, loose := _, os := s₁.os, G := #[], inK := ghost_K hT KX (by kernel_rfl), top := ghost_top hT T, c1 := g1, c2 := g2, c3 := g3 }
  have R0 : Rep D ((363, .raw (tabObj #[])) :: (TabL 255 wq wpos none ++ ((240, tabG) :: []))) s₁ := by
    refine ⟨fun b o e => of_hideAll _ e, fun q hq => ?_, fun q hq => ?_, ?_, rfl, fun i x h => ?_, .of_eq hg⟩
    · rcases List.mem_cons.mp hq with rfl | hq
      · exact ⟨_, t1, rfl⟩
      rcases List.mem_cons.mp hq with rfl | hq
      · exact ⟨_, t2, rfl⟩
      change q ∈ [((240 : Addr), tabG)] at hq
      rw [List.mem_singleton] at hq
      subst hq
      exact ⟨_, t3, #[], rfl, trivial⟩
    · rcases List.mem_cons.mp hq with rfl | hq
      · exact hideAll_none _ (.head _)
      rcases List.mem_cons.mp hq with rfl | hq
      · exact hideAll_none _ (.tail _ (.head _))
      change q ∈ [((240 : Addr), tabG)] at hq
      rw [List.mem_singleton] at hq
      subst hq
      exact hideAll_none _ (.tail _ (.tail _ (.head _)))
    · show ([363, 255, 240] : List Addr).Nodup
      decide
    · have h2 : (#[] : Array GenState)[i]? = some x := h
      simp at h2
  have hroom : Room callerA 60 := ⟨by decide, by decide, rfl⟩
  refine codeAny_mono (law_spec (D := D) (R := []) (Q := fun v l => v = .bool true ∧ ∃ ts, l = (363, tabG) :: (TabL 255 wq wpos ts ++ ((240, tabG) :: []))) hroom (ghost_list hT hl) hI hlen (fun ts => ⟨rfl, ts, rfl⟩) s₁ R0) fun r s' ⟨v, led', hr, R', hv, ts, hled⟩ => ?_
  subst hv hr hled
  have keep : ∀ b o, b ∉ tabs3.map (·.2) → s₁.heap.get? b = some o → s'.heap.get? b = some o := fun b o hb e => R'.keep b o (ghost_ne e hb)
  have tb255 : ∃ ps, s'.heap.get? 255 = some (tabObj ps) := by
    cases ts with
    | none => obtain ⟨o, ho, rfl⟩ := R'.own _ (.tail _ (.head _)); exact ⟨_, ho⟩
    | some c => obtain ⟨o, ho, rfl⟩ := R'.own _ (.tail _ (.head _)); exact ⟨_, ho⟩
  have tb363 : ∃ ps, s'.heap.get? 363 = some (tabObj ps) := by
    obtain ⟨o, ho, ps, rfl, -⟩ := R'.own _ (.head _)
    exact ⟨_, ho⟩
  have tb240 : ∃ ps, s'.heap.get? 240 = some (tabObj ps) := by
    obtain ⟨o, ho, ps, rfl, -⟩ := R'.own _ (.tail _ (List.mem_append_right _ (.head _)))
    exact ⟨_, ho⟩
  have grown : ∀ b o, b ∈ tabs3.map (·.2) → s₁.heap.get? b = some o → isCodeTable s₁.heap b ∧ o = tabObj #[] ∧ ∃ ps, s'.heap.get? b = some (tabObj ps) := fun b o hb e => by
    obtain ⟨q, hq, rfl⟩ := List.mem_map.mp hb
    have e2 := (hT q hq).2
    rw [e] at e2
    refine ⟨((hT q hq).1.tab (hT q hq).2).isCodeTable, Option.some.inj e2, ?_⟩
    rcases List.mem_cons.mp hq with rfl | hq
    · exact tb363
    rcases List.mem_cons.mp hq with rfl | hq
    · exact tb255
    rw [List.mem_singleton] at hq
    subst hq
    exact tb240
  refine ⟨.inl ⟨.bool true, .bool true, [], rfl, hc2, .bool _, hc1, fun _ => ⟨List.nodup_nil, fun a ha => by cases ha⟩⟩, ⟨fun b o e => ?_, fun b o e => ?_⟩, R'.os, R'.bare⟩
  · by_cases hb : b ∈ tabs3.map (·.2)
    · obtain ⟨ht, rfl, ps, hP⟩ := grown b o hb e
      exact .inr (.inl ⟨ht, rfl, #[], ps, rfl, by rw [Array.empty_append]; exact hP⟩)
    · exact .inl (keep b o hb e)
  · by_cases hb : b ∈ tabs3.map (·.2)
    · obtain ⟨_, _, ps, hP⟩ := grown b o hb e
      exact ⟨_, hP⟩
    · exact ⟨o, keep b o hb e⟩
end Mine
end
open PySem PySem.W PySem.Calls PyProof.Rows
set_option maxRecDepth 100000 in
set_option maxHeartbeats 8000000 in
theorem PySem.Challenge.cw_dt5005_01_holds : PySem.Challenge.rw_dt5005_01.Holds :=
  Mine.hd (by
  k_fill
  intro w s₀ s₁ mg mb G Y fa o pm cd doc dV kV ho hd hcd hD hmg hg args vals as hpre hlay hrd hwl hlo
  have KX := km_in_of Y
  km_tabs Y
  refine Ground.open G ?_
  intro T B D TE TW
  try (refine guard_noD D (by decide +kernel) ?_; clear D)
  clear ho hd hcd hD TE TW B G Y
  wrow_args hpre hlay hrd hwl hlo
  all_goals (
    refine enter_call ?_
    w_top on
    refine Mine.head_end KX T (by decide +kernel) hT8 hg hmg (by assumption) (by assumption) (by omega) ?_ ?_
    · kernel_rfl
    · exact fun _ => rfl))
