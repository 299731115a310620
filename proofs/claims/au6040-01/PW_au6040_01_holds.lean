import PyProof.Rows.All
import Wide.All
import OpenK.AllK
import Wide.FinOn
import Open.Line
import Lean
import PySem.Challenge.RW_au6040_01

section
open PySem PySem.W PyProof.Rows PySem.Calls
set_option Elab.async false
set_option maxRecDepth 100000
namespace Mine

/-- what the ledger says of an object -/
inductive Desc where
  | di (kvs : List (Int × Value)) (ep : Option Nat)
  | ds (kvs : List (Str × Value))
  | li (vs : List Value)
  | tu (vs : List Value)
  | fi (T : String) (vs : Array Value)
  | raw (o : Obj)

def Desc.Of (prog : Program) (w : World) : Desc → Obj → Prop
  | .di kvs none, o => o.IsDictOf (intKind prog w) kvs
  | .di kvs (some ep), o => ∃ es, o.ExactDict ∧ o.data = .dict es ep ∧ KeysOf (intKind prog w) es ∧ Pairs (intKind prog w) es.toList kvs ∧ (kvs.map (·.1)).Nodup
  | .ds kvs, o => o.IsDictOf (strKind prog w) kvs
  | .li vs, o => ∃ n, o = { cls := .type "list", dict := none, data := .seq vs.toArray n, slots := #[] }
  | .tu vs, o => o.cls = .type "tuple" ∧ o.dict = none ∧ ∃ n, o.data = .seq vs.toArray n
  | .fi T vs, o => o.cls = .type T ∧ o.data = .fields vs
  | .raw o', o => o = o'

abbrev Map := Str → Option Value
abbrev Led := Addr → Option Desc
def upd (H : Led) (a : Addr) (d : Desc) : Led := fun b => if b = a then some d else H b
def put (m : Map) (x : Str) (v : Value) : Map := fun y => if y = x then some v else m y
theorem upd_self (H : Led) (a : Addr) (d : Desc) : upd H a d a = some d := by simp [upd]
theorem upd_ne (H : Led) {a b : Addr} (d : Desc) (h : b ≠ a) : upd H a d b = H b := by simp [upd, h]

abbrev Frs := List (Env × Map)

structure FrOk (base h : Heap) (H : Led) (p : Env × Map) : Prop where
  kind : p.1.scope.kind = .function
  frame : p.1.frame = some p.1.locals
  ns : h.Ns p.1.locals p.2
  fresh : base.get? p.1.locals = none
  out : H p.1.locals = none
  low : (p.1.locals == sysModules) = false

structure Wd (prog : Program) (w : World) (base : Heap) (fr : Frs) (H : Led) (h : Heap) : Prop where
  stays : base.StaysIn h
  lim : base.NoLimit
  frs : ∀ p ∈ fr, FrOk base h H p
  nd : (fr.map (·.1.locals)).Nodup
  led : ∀ a d, H a = some d → ((a == sysModules) = false ∧ base.get? a = none) ∧ ∃ o, h.get? a = some o ∧ d.Of prog w o

/-- the outside and, where it is asked, the generators and what was drawn -/
structure Os where
  os : OsState
  fix : Option (Array GenState × Drawn)
/-- the state: the heap, no generator asleep inside a handler, the outside as it was -/
structure St (prog : Program) (w : World) (base : Heap) (os : Os) (fr : Frs) (H : Led) (s : Shared) : Prop where
  wd : Wd prog w base fr H s.heap
  bare : AllBare s.gens
  os : s.os = os.os ∧ ∀ g d, os.fix = some (g, d) → s.gens = g ∧ s.drawn = d

section
variable {prog : Program} {w : World} {base h h' : Heap} {os : Os} {fr : Frs} {H : Led} {s : Shared} {a : Addr} {d : Desc}

theorem Desc.Of.notFreed {d : Desc} {o : Obj} (h : h.get? a = some o) : o.isFreed = false := (Heap.get?_some_iff.mp h).2

/-- everything is kept -/
theorem Wd.keeps (W : Wd prog w base fr H h) (k : ∀ b o, h.get? b = some o → h'.get? b = some o) : Wd prog w base fr H h' where
  stays := fun b o e => k b o (W.stays b o e)
  lim := W.lim
  frs := fun p hp => let F := W.frs p hp; ⟨F.kind, F.frame, F.ns.keeps k, F.fresh, F.out, F.low⟩
  nd := W.nd
  led := fun a d e => let ⟨n, o, ho, hd⟩ := W.led a d e; ⟨n, o, k _ _ ho, hd⟩

theorem Wd.low (W : Wd prog w base fr H h) : (h.objs.size == sysModules) = false := by
  have := modules_low (W.lim.keeps W.stays)
  exact beq_eq_false_iff_ne.mpr (Nat.ne_of_gt this)
theorem Wd.fresh (W : Wd prog w base fr H h) : base.get? h.objs.size = none := by
  cases q : base.get? h.objs.size with
  | none => rfl
  | some o => exact absurd (Heap.lt_size (W.stays _ _ q)) (Nat.lt_irrefl _)
theorem Wd.freshH (W : Wd prog w base fr H h) : H h.objs.size = none := by
  cases q : H h.objs.size with
  | none => rfl
  | some d => let ⟨_, o, ho, _⟩ := W.led _ _ q; exact absurd (Heap.lt_size ho) (Nat.lt_irrefl _)
theorem Wd.lt (W : Wd prog w base fr H h) {a : Addr} {d : Desc} (e : H a = some d) : a < h.objs.size := let ⟨_, o, ho, _⟩ := W.led a d e; Heap.lt_size ho
theorem Wd.frLt (W : Wd prog w base fr H h) {p : Env × Map} (hp : p ∈ fr) : p.1.locals < h.objs.size := (W.frs p hp).ns.lt

/-- one object of the ledger is changed -/
theorem Wd.set (W : Wd prog w base fr H h) (hs : Heap.SameBut a h h') {d₀ : Desc} (ha : H a = some d₀) {o : Obj} (ho : h'.get? a = some o) (hd : d.Of prog w o) : Wd prog w base fr (upd H a d) h' where
  stays := fun b o e => (hs.2 b fun q => by rw [q, (W.led a d₀ ha).1.2] at e; cases e).trans (W.stays b o e)
  lim := W.lim
  frs := fun p hp => by
    let F := W.frs p hp
    have ne : p.1.locals ≠ a := fun q => by have := F.out; rw [q, ha] at this; cases this
    exact ⟨F.kind, F.frame, F.ns.sameBut hs ne, F.fresh, by rw [upd_ne _ _ ne]; exact F.out, F.low⟩
  nd := W.nd
  led := fun b e hb => by
    by_cases q : b = a
    · subst q
      rw [upd_self] at hb
      cases hb
      exact ⟨(W.led b d₀ ha).1, o, ho, hd⟩
    · rw [upd_ne _ _ q] at hb
      let ⟨n, o', ho', hd'⟩ := W.led b e hb
      exact ⟨n, o', (hs.2 b q).trans ho', hd'⟩

/-- a new object -/
theorem Wd.push (W : Wd prog w base fr H h) {o : Obj} (hf : o.isFreed = false) (hd : d.Of prog w o) : Wd prog w base fr (upd H h.objs.size d) (h.push o) where
  stays := fun b o' e => Heap.get?_push_of_some _ (W.stays b o' e)
  lim := W.lim
  frs := fun p hp => by
    let F := W.frs p hp
    have ne : p.1.locals ≠ h.objs.size := Nat.ne_of_lt F.ns.lt
    exact ⟨F.kind, F.frame, F.ns.push o, F.fresh, by rw [upd_ne _ _ ne]; exact F.out, F.low⟩
  nd := W.nd
  led := fun b e hb => by
    by_cases q : b = h.objs.size
    · subst q
      rw [upd_self] at hb
      cases hb
      exact ⟨⟨W.low, W.fresh⟩, o, Heap.get?_push_size _ hf, hd⟩
    · rw [upd_ne _ _ q] at hb
      let ⟨n, o', ho', hd'⟩ := W.led b e hb
      exact ⟨n, o', Heap.get?_push_of_some _ ho', hd'⟩

/-- the new object at hand, whatever else was made -/
theorem Wd.grow (W : Wd prog w base fr H h) {o : Obj} (k : ∀ b o, h.get? b = some o → h'.get? b = some o) (hn : h.get? a = none) (ho : h'.get? a = some o) (hd : d.Of prog w o) (hm : (a == sysModules) = false) : Wd prog w base fr (upd H a d) h' := by
  have nb : base.get? a = none := by
    cases q : base.get? a with
    | none => rfl
    | some o => have := W.stays _ _ q; rw [hn] at this; cases this
  refine ⟨fun b o e => k b o (W.stays b o e), W.lim, fun p hp => ?_, W.nd, fun b e hb => ?_⟩
  · let F := W.frs p hp
    have ne : p.1.locals ≠ a := fun q => by obtain ⟨o, _, _, ho, _⟩ := F.ns; rw [q, hn] at ho; cases ho
    exact ⟨F.kind, F.frame, F.ns.keeps k, F.fresh, by rw [upd_ne _ _ ne]; exact F.out, F.low⟩
  · by_cases q : b = a
    · subst q
      rw [upd_self] at hb
      cases hb
      exact ⟨⟨hm, nb⟩, o, ho, hd⟩
    · rw [upd_ne _ _ q] at hb
      let ⟨n, o', ho', hd'⟩ := W.led b e hb
      exact ⟨n, o', k _ _ ho', hd'⟩

/-- forget a part of the ledger -/
theorem Wd.forget (W : Wd prog w base fr H h) {H' : Led} (e : ∀ a d, H' a = some d → H a = some d) : Wd prog w base fr H' h where
  stays := W.stays
  lim := W.lim
  frs := fun p hp => let F := W.frs p hp; ⟨F.kind, F.frame, F.ns, F.fresh, by
    cases q : H' p.1.locals with
    | none => rfl
    | some d => exact absurd (e _ _ q) (by rw [F.out]; exact nofun), F.low⟩
  nd := W.nd
  led := fun a d q => W.led a d (e a d q)

/-- the innermost frame's names change -/
theorem Wd.local {env : Env} {m m' : Map} (W : Wd prog w base ((env, m) :: fr) H h) (hn : h'.Ns env.locals m') (hs : Heap.SameBut env.locals h h') : Wd prog w base ((env, m') :: fr) H h' where
  stays := fun b o e => (hs.2 b fun q => by rw [q, (W.frs _ (.head _)).fresh] at e; cases e).trans (W.stays b o e)
  lim := W.lim
  frs := fun p hp => by
    rcases List.mem_cons.mp hp with rfl | hp
    · let F := W.frs _ (.head _); exact ⟨F.kind, F.frame, hn, F.fresh, F.out, F.low⟩
    · let F := W.frs p (.tail _ hp)
      have nd := W.nd
      rw [List.map_cons, List.nodup_cons] at nd
      have ne : p.1.locals ≠ env.locals := fun q => nd.1 (q ▸ List.mem_map_of_mem hp)
      exact ⟨F.kind, F.frame, F.ns.sameBut hs ne, F.fresh, F.out, F.low⟩
  nd := W.nd
  led := fun a d e => by
    let ⟨n, o, ho, hd⟩ := W.led a d e
    have ne : a ≠ env.locals := fun q => by have := (W.frs _ (.head _)).out; rw [← q, e] at this; cases this
    exact ⟨n, o, (hs.2 a ne).trans ho, hd⟩

theorem Wd.pop {p : Env × Map} (W : Wd prog w base (p :: fr) H h) : Wd prog w base fr H h :=
  ⟨W.stays, W.lim, fun q hq => W.frs q (.tail _ hq), (List.nodup_cons.mp (by have := W.nd; rwa [List.map_cons] at this)).2, W.led⟩

theorem Wd.enter (W : Wd prog w base fr H h) {env : Env} {m : Map} (hL : env.locals = h.objs.size) (hk : env.scope.kind = .function) (hf : env.frame = some env.locals) (hn : h'.Ns env.locals m)
    (k : ∀ b o, h.get? b = some o → h'.get? b = some o) : Wd prog w base ((env, m) :: fr) H h' where
  stays := fun b o e => k b o (W.stays b o e)
  lim := W.lim
  frs := fun p hp => by
    rcases List.mem_cons.mp hp with rfl | hp
    · exact ⟨hk, hf, hn, by rw [hL]; exact W.fresh, by rw [hL]; exact W.freshH, by rw [hL]; exact W.low⟩
    · exact (W.keeps k).frs p hp
  nd := by
    rw [List.map_cons, List.nodup_cons]
    refine ⟨fun hm => ?_, W.nd⟩
    obtain ⟨p, hp, e⟩ := List.mem_map.mp hm
    exact absurd (W.frLt hp) (by rw [e, hL]; exact Nat.lt_irrefl _)
  led := (W.keeps k).led

theorem St.heap {h' : Heap} {t : Nat} {fr' : Frs} {H' : Led} (S : St prog w base os fr H s) (W : Wd prog w base fr' H' h') : St prog w base os fr' H' { s with heap := h', toks := t } := ⟨W, S.bare, S.os⟩
theorem St.toks (S : St prog w base os fr H s) (t : Nat) : St prog w base os fr H { s with toks := t } := ⟨S.wd, S.bare, S.os⟩
theorem St.get (S : St prog w base os fr H s) {a : Addr} {d : Desc} (e : H a = some d) : ∃ o, s.heap.get? a = some o ∧ d.Of prog w o := (S.wd.led a d e).2
theorem St.nm (S : St prog w base os fr H s) {a : Addr} {d : Desc} (e : H a = some d) : (a == sysModules) = false := (S.wd.led a d e).1.1
theorem St.di (S : St prog w base os fr H s) {kvs : List (Int × Value)} {ep : Option Nat} (e : H a = some (.di kvs ep)) : s.heap.DictOf (intKind prog w) a kvs := by
  obtain ⟨o, ho, hd⟩ := S.get e
  cases ep with
  | none => exact Heap.dictOf_iff.mpr ⟨o, ho, hd⟩
  | some ep => obtain ⟨es, q⟩ := hd; exact ⟨o, es, ep, ho, q⟩
theorem St.dat (S : St prog w base os fr H s) {kvs : List (Int × Value)} {ep : Nat} (e : H a = some (.di kvs (some ep))) : s.heap.DictAt (intKind prog w) a kvs ep := by
  obtain ⟨o, ho, es, q⟩ := S.get e
  exact ⟨o, es, ho, q⟩
/-- the dict's state is held -/
theorem St.pin (S : St prog w base os fr H s) {kvs : List (Int × Value)} {ep : Option Nat} (e : H a = some (.di kvs ep)) : ∃ n, St prog w base os fr (upd H a (.di kvs (some n))) s := by
  obtain ⟨n, o, es, ho, q⟩ := (S.di e).dictAt
  exact ⟨n, S.wd.set (.refl ..) e ho ⟨es, q⟩, S.bare, S.os⟩
theorem St.unpin (S : St prog w base os fr H s) {kvs : List (Int × Value)} {ep : Option Nat} (e : H a = some (.di kvs ep)) : St prog w base os fr (upd H a (.di kvs none)) s := by
  obtain ⟨o, ho, q⟩ := Heap.dictOf_iff.mp (S.di e)
  exact ⟨S.wd.set (.refl ..) e ho q, S.bare, S.os⟩
theorem St.fi (S : St prog w base os fr H s) {T : String} {vs : Array Value} (e : H a = some (.fi T vs)) : ∃ o, s.heap.get? a = some o ∧ o.cls = .type T ∧ o.data = .fields vs := S.get e
theorem St.ds (S : St prog w base os fr H s) {kvs : List (Str × Value)} (e : H a = some (.ds kvs)) : s.heap.DictOf (strKind prog w) a kvs := Heap.dictOf_iff.mpr (S.get e)
theorem St.li (S : St prog w base os fr H s) {vs : List Value} (e : H a = some (.li vs)) : s.heap.IsList a vs.toArray := let ⟨o, ho, n, q⟩ := S.get e; ⟨o, ho, by rw [q], n, by rw [q]⟩
theorem St.liO (S : St prog w base os fr H s) {vs : List Value} (e : H a = some (.li vs)) : ∃ n, s.heap.get? a = some { cls := .type "list", dict := none, data := .seq vs.toArray n, slots := #[] } := let ⟨_, ho, n, q⟩ := S.get e; ⟨n, q ▸ ho⟩
theorem St.tu (S : St prog w base os fr H s) {vs : List Value} (e : H a = some (.tu vs)) : IsTup s.heap a vs.toArray := let ⟨o, ho, hc, _, n, hd⟩ := S.get e; ⟨o, ho, hc, n, hd⟩
end
end Mine

end

section
open PySem PySem.W PyProof.Rows PySem.Calls
set_option Elab.async false
set_option maxRecDepth 100000
set_option linter.unusedVariables false
namespace Mine

/-- the names of a frame, by their place in the scope -/
def fm : List (Str × NameKind) → List (Option Value) → Map
  | (x, _) :: ns, v :: vs => fun y => if y = x then v else fm ns vs y
  | _, _ => fun _ => none

def scOk (sc : Scope) : Bool := (match sc.kind with | .function => true | _ => false) && decide (sc.names.map (·.1)).Nodup && sc.names.all fun p => !(p.1 == ("__debug__" : Str))
structure ScOk (sc : Scope) : Prop where
  kind : sc.kind = .function
  nd : (sc.names.map (·.1)).Nodup
  dbg : ∀ p ∈ sc.names, (p.1 == ("__debug__" : Str)) = false
theorem ScOk.of {sc : Scope} (h : scOk sc = true) : ScOk sc := by
  unfold scOk at h
  simp only [Bool.and_eq_true, decide_eq_true_eq, List.all_eq_true, Bool.not_eq_true'] at h
  obtain ⟨⟨h1, h2⟩, h3⟩ := h
  refine ⟨?_, h2, h3⟩
  split at h1
  · assumption
  · cases h1

theorem mem_fst {ns : List (Str × NameKind)} {i : Nat} {x : Str} {k : NameKind} (hi : ns[i]? = some (x, k)) : x ∈ ns.map (·.1) := List.mem_map.mpr ⟨(x, k), List.mem_of_getElem? hi, rfl⟩
theorem lookup_at {ns : List (Str × NameKind)} (hn : (ns.map (·.1)).Nodup) {i : Nat} {x : Str} {k : NameKind} (hi : ns[i]? = some (x, k)) : ns.lookup x = some k := by
  induction ns generalizing i with
  | nil => cases hi
  | cons p ns ih =>
    obtain ⟨y, k'⟩ := p
    rw [List.map_cons, List.nodup_cons] at hn
    cases i with
    | zero => simp only [List.getElem?_cons_zero, Option.some.injEq, Prod.mk.injEq] at hi; obtain ⟨rfl, rfl⟩ := hi; simp
    | succ i =>
      rw [List.getElem?_cons_succ] at hi
      have ne : x ≠ y := fun q => hn.1 (q ▸ mem_fst hi)
      rw [List.lookup_cons, beq_false_of_ne ne]
      exact ih hn.2 hi

theorem fm_get : ∀ {ns : List (Str × NameKind)} {vs : List (Option Value)}, (ns.map (·.1)).Nodup → ∀ {i : Nat} {x : Str} {k : NameKind} {v : Option Value}, ns[i]? = some (x, k) → vs[i]? = some v → fm ns vs x = v
  | [], _, _, _, _, _, _, hi, _ => by cases hi
  | _ :: _, [], _, _, _, _, _, _, hv => by cases hv
  | (y, k') :: ns, u :: vs, hn, 0, x, k, v, hi, hv => by
    simp only [List.getElem?_cons_zero, Option.some.injEq, Prod.mk.injEq] at hi hv
    obtain ⟨rfl, rfl⟩ := hi
    simp [fm, hv]
  | (y, k') :: ns, u :: vs, hn, i + 1, x, k, v, hi, hv => by
    rw [List.getElem?_cons_succ] at hi hv
    rw [List.map_cons, List.nodup_cons] at hn
    have ne : x ≠ y := fun q => hn.1 (q ▸ mem_fst hi)
    show (if x = y then u else fm ns vs x) = v
    rw [if_neg ne]
    exact fm_get hn.2 hi hv

theorem fm_put : ∀ {ns : List (Str × NameKind)} {vs : List (Option Value)}, (ns.map (·.1)).Nodup → ∀ {i : Nat} {x : Str} {k : NameKind} {v : Value}, ns[i]? = some (x, k) → i < vs.length → put (fm ns vs) x v = fm ns (vs.set i (some v))
  | [], _, _, _, _, _, _, hi, _ => by cases hi
  | _ :: _, [], _, _, _, _, _, _, hv => by cases hv
  | (y, k') :: ns, u :: vs, hn, 0, x, k, v, hi, hv => by
    simp only [List.getElem?_cons_zero, Option.some.injEq, Prod.mk.injEq] at hi
    obtain ⟨rfl, rfl⟩ := hi
    funext z
    simp only [put, fm, List.set_cons_zero]
    split <;> rfl
  | (y, k') :: ns, u :: vs, hn, i + 1, x, k, v, hi, hv => by
    rw [List.getElem?_cons_succ] at hi
    rw [List.map_cons, List.nodup_cons] at hn
    have ne : x ≠ y := fun q => hn.1 (q ▸ mem_fst hi)
    funext z
    have ih := congrFun (fm_put (vs := vs) hn.2 hi (v := v) (by simpa using hv)) z
    simp only [put, fm, List.set_cons_succ] at ih ⊢
    by_cases q : z = x
    · subst q
      rw [if_neg ne, ← ih]
      simp [ne]
    · rw [if_neg q] at ih ⊢
      rw [ih]

/-- a name goes (del) -/
def dropN (m : Map) (x : Str) : Map := fun y => if y = x then none else m y
theorem fm_drop : ∀ {ns : List (Str × NameKind)} {vs : List (Option Value)}, (ns.map (·.1)).Nodup → ∀ {i : Nat} {x : Str} {k : NameKind}, ns[i]? = some (x, k) → i < vs.length → dropN (fm ns vs) x = fm ns (vs.set i none)
  | [], _, _, _, _, _, hi, _ => by cases hi
  | _ :: _, [], _, _, _, _, _, hv => by cases hv
  | (y, k') :: ns, u :: vs, hn, 0, x, k, hi, hv => by
    simp only [List.getElem?_cons_zero, Option.some.injEq, Prod.mk.injEq] at hi
    obtain ⟨rfl, rfl⟩ := hi
    rw [List.map_cons, List.nodup_cons] at hn
    funext z
    simp only [dropN, fm, List.set_cons_zero]
    split <;> rfl
  | (y, k') :: ns, u :: vs, hn, i + 1, x, k, hi, hv => by
    rw [List.getElem?_cons_succ] at hi
    rw [List.map_cons, List.nodup_cons] at hn
    have ne : x ≠ y := fun q => hn.1 (q ▸ mem_fst hi)
    funext z
    have ih := congrFun (fm_drop (vs := vs) hn.2 hi (by simpa using hv)) z
    simp only [dropN, fm, List.set_cons_succ] at ih ⊢
    by_cases q : z = x
    · subst q
      rw [if_neg ne, ← ih]
      simp [ne]
    · rw [if_neg q] at ih ⊢
      rw [ih]

theorem fm_none (ns : List (Str × NameKind)) (n : Nat) : fm ns (List.replicate n none) = fun _ => none := by
  induction ns generalizing n with
  | nil => cases n <;> rfl
  | cons p ns ih =>
    obtain ⟨x, k⟩ := p
    cases n with
    | zero => rfl
    | succ n =>
      funext y
      simp only [List.replicate_succ, fm, ih]
      split <;> rfl

/-- the frame at a def's entry -/
theorem fm_binds : ∀ {binds : List (Str × Value)} {ns : List (Str × NameKind)} (n : Nat), (ns.map (·.1)).Nodup → binds.map (·.1) = (ns.map (·.1)).take binds.length →
    (fun x => binds.reverse.lookup x) = fm ns (binds.map (fun p => some p.2) ++ List.replicate n none)
  | [], ns, n, _, _ => by
    funext y
    rw [List.map_nil, List.nil_append, fm_none]
    rfl
  | (x, v) :: binds, [], n, _, h => by simp at h
  | (x, v) :: binds, (y, k) :: ns, n, hn, h => by
    rw [List.map_cons, List.nodup_cons] at hn
    simp only [List.map_cons, List.length_cons, List.take_succ_cons, List.cons.injEq] at h
    obtain ⟨rfl, h⟩ := h
    have ih := fm_binds n hn.2 h
    funext z
    have ihz := congrFun ih z
    simp only [List.reverse_cons, List.lookup_append, List.map_cons, List.cons_append, fm] at ihz ⊢
    by_cases q : z = x
    · subst q
      rw [if_pos rfl]
      have nm : z ∉ binds.map (·.1) := fun q => hn.1 (by rw [h] at q; exact List.mem_of_mem_take q)
      have : List.lookup z binds.reverse = none := by
        rw [List.lookup_eq_none_iff]
        intro p hp
        have : p.1 ≠ z := fun e => nm (e ▸ List.mem_map_of_mem (List.mem_reverse.mp hp))
        simpa [bne] using this.symm
      rw [this]
      simp
    · rw [if_neg q, ← ihz]
      have : ((z == x) = false) := beq_false_of_ne q
      simp [List.lookup, this]

structure Sta (K : Frag) (base : Heap) : Prop where
  kin : K.In base
  glob : ∃ mg, base.Ns mainGlobals mg
  bui : ∃ mb, base.Ns builtinsNs mb ∧ ∀ x : Str, x ≠ "__name__" → mb x = bootBuiltins x
  lim : base.NoLimit
  dig : ∃ mc, base.Ns cStatics mc ∧ mc "sys.int_max_str_digits" = none
  tr : ∃ p loose mg mb, TopRead p loose mg mb base
theorem Sta.of {K : Frag} {base : Heap} {p : Program} {loose : List Str} {mean : ExcName → Option Value} {mg mb : Str → Option Value} (X : K.In base) (T : Top p loose mean mg mb base) : Sta K base :=
  ⟨X, ⟨mg, T.g⟩, ⟨mb, T.b, T.builtins⟩, T.nolimit, T.nodigits, _, _, _, _, topRead_of T⟩

/-- room for n more calls -/
structure Ar (A : Around) (fr : Frs) (n : Nat) : Prop where
  frames : A.frames = some (fr.map (·.1))
  depth : A.depth + n < recursionLimit
  units : A.units + 20 * n < cLine
theorem Ar.mono {A : Around} {fr : Frs} {n k : Nat} (h : Ar A fr n) (hk : k ≤ n) : Ar A fr k := ⟨h.frames, Nat.lt_of_le_of_lt (Nat.add_le_add_left hk _) h.depth, by have := h.units; omega⟩
theorem Ar.room {A : Around} {fr : Frs} {n : Nat} (h : Ar A fr n) : A.depth < recursionLimit := by have := h.depth; omega
theorem Ar.ulim {A : Around} {fr : Frs} {n : Nat} (h : Ar A fr n) : A.units < cLine := by have := h.units; omega
theorem Ar.deeper {A : Around} {fr : Frs} {n : Nat} (h : Ar A fr (n + 1)) (env : Env) (m : Map) : Ar (A.deeper env) ((env, m) :: fr) n :=
  ⟨by show A.frames.map (env :: ·) = _; rw [h.frames]; rfl, by have := h.depth; show A.depth + 1 + n < _; omega, by have := h.units; show A.units + 3 + 20 * n < _; omega⟩
theorem Ar.in1 {A : Around} {fr : Frs} {n : Nat} (h : Ar A fr (n + 1)) : Ar A.in1 fr n := ⟨h.frames, by have := h.depth; show A.depth + n < _; omega, by have := h.units; show A.units + 1 + 20 * n < _; omega⟩
theorem Ar.mark {A : Around} {fr : Frs} {n : Nat} (h : Ar A fr n) (e : Option Value) : Ar (A.mark e) fr n := ⟨h.frames, h.depth, h.units⟩
theorem Ar.re {A : Around} {env : Env} {m m' : Map} {fr : Frs} {n : Nat} (h : Ar A ((env, m) :: fr) n) : Ar A ((env, m') :: fr) n := ⟨h.frames, h.depth, h.units⟩

section
variable {prog : Program} {w : World} {K : Frag} {base : Heap} {os : Os} {A : Around} {E : Value → Shared → Prop} {fr : Frs} {H : Led} {s : Shared} {env : Env} {m : Map} {vs : List (Option Value)}

theorem St.ns (S : St prog w base os ((env, m) :: fr) H s) : s.heap.Ns env.locals m := (S.wd.frs _ (.head _)).ns
theorem St.keep (S : St prog w base os fr H s) : ∀ b o, base.get? b = some o → s.heap.get? b = some o := S.wd.stays
theorem St.kin (S : St prog w base os fr H s) (Z : Sta K base) : K.In s.heap := Z.kin.keeps S.keep
theorem St.lim (S : St prog w base os fr H s) (Z : Sta K base) : s.heap.NoLimit := Z.lim.keeps S.keep

theorem kindAt (C : ScOk env.scope) {i : Nat} {x : Str} {k : NameKind} (hi : env.scope.names[i]? = some (x, k)) : env.kindOf x = some k := lookup_at C.nd hi

theorem nm_local {i : Nat} {x : Str} {pos : Pos} {v : Value} {Q : Value → Shared → Prop} (S : St prog w base os ((env, fm env.scope.names vs) :: fr) H s) (C : ScOk env.scope)
    (hi : env.scope.names[i]? = some (x, .local)) (hv : vs[i]? = some (some v)) (h : Q v s) : wpAny (model prog w) A (eval (.Name x pos) env) Q E s :=
  wpAny_Name (wpAny_loadName_local C.kind (kindAt C hi) S.ns (fm_get C.nd hi hv) h) (C.dbg _ (List.mem_of_getElem? hi))

theorem nm_global {i : Nat} {x : Str} {pos : Pos} {v : Value} {Q : Value → Shared → Prop} (S : St prog w base os fr H s) (Z : Sta K base) (C : ScOk env.scope) (hg : env.globals = mainGlobals)
    (hi : env.scope.names[i]? = some (x, .globalImplicit)) (hv : nsIn K mainGlobals x = some (some v)) (h : Q v s) : wpAny (model prog w) A (eval (.Name x pos) env) Q E s := by
  obtain ⟨mg, G⟩ := Z.glob
  exact Name_function_global C.kind (kindAt C hi) (loadGlobal_global (hg ▸ G.keeps S.keep) (mg_of Z.kin G hv) h) (C.dbg _ (List.mem_of_getElem? hi))
theorem nm_builtin {i : Nat} {x : Str} {pos : Pos} {v : Value} {Q : Value → Shared → Prop} (S : St prog w base os fr H s) (Z : Sta K base) (C : ScOk env.scope) (hg : env.globals = mainGlobals) (hb : env.builtins = builtinsNs)
    (hi : env.scope.names[i]? = some (x, .globalImplicit)) (hv : nsIn K mainGlobals x = some none ∧ bootBuiltins x = some v ∧ x ≠ "__name__") (h : Q v s) : wpAny (model prog w) A (eval (.Name x pos) env) Q E s := by
  obtain ⟨mg, G⟩ := Z.glob
  obtain ⟨mb, B, hB⟩ := Z.bui
  exact Name_function_global C.kind (kindAt C hi) (loadGlobal_builtin (hg ▸ G.keeps S.keep) (mg_none_of Z.kin G hv.1) (hb ▸ B.keeps S.keep) ((hB x hv.2.2).trans hv.2.1) h) (C.dbg _ (List.mem_of_getElem? hi))

theorem st_local {i : Nat} {x : Str} {v : Value} {vs' : List (Option Value)} {Q : Unit → Shared → Prop} (S : St prog w base os ((env, fm env.scope.names vs) :: fr) H s) (C : ScOk env.scope)
    (hi : env.scope.names[i]? = some (x, .local)) (hv : vs.set i (some v) = vs') (hl : i < vs.length) (h : ∀ s', St prog w base os ((env, fm env.scope.names vs') :: fr) H s' → Q () s') :
    wpAny (model prog w) A (storeName env x v) Q E s := by
  refine wpAny_storeName_local (kindAt C hi) S.ns (fun h' hn hs => h _ (S.heap ?_)) (by rw [C.kind]; rfl)
  have e := fm_put C.nd hi (v := v) hl
  unfold put at e
  rw [e, hv] at hn
  exact S.wd.local hn hs

theorem as_name {i : Nat} {x : Str} {pos' pos : Pos} {value : Expr} {Q : Flow → Shared → Prop} (C : ScOk env.scope) (hi : env.scope.names[i]? = some (x, .local)) (hs : swapsWith value (some (.Name x pos')) pos.line env = pure false)
    (h : wpAny (model prog w) A (eval value env) (fun v s₁ => ∃ fr H vs vs', St prog w base os ((env, fm env.scope.names vs) :: fr) H s₁ ∧ vs.set i (some v) = vs' ∧ i < vs.length ∧ ∀ s₂, St prog w base os ((env, fm env.scope.names vs') :: fr) H s₂ → Q .next s₂) E s) :
    wpAny (model prog w) A (exec (.Assign [.Name x pos'] value pos) env) Q E s :=
  wpAny_Assign_Name (wpAny_mono h (fun v s₁ ⟨_, _, _, _, S, e, l, k⟩ => st_local S C hi e l fun s' S' => k s' S') fun _ _ e => e) hs
end
end Mine

end

section
open PySem PySem.W PyProof.Rows PySem.Calls
set_option Elab.async false
set_option maxRecDepth 100000
set_option linter.unusedVariables false
namespace Mine

section
variable {prog : Program} {w : World} {base : Heap} {os : Os} {A : Around} {E : Value → Shared → Prop} {fr : Frs} {H : Led} {s : Shared} {env : Env} {a : Addr}

theorem St.setDi (S : St prog w base os fr H s) {kvs kvs' : List (Int × Value)} {ep : Option Nat} (e : H a = some (.di kvs ep)) {h' : Heap} {t : Nat} (hd : h'.DictOf (intKind prog w) a kvs') (hs : Heap.SameBut a s.heap h') :
    St prog w base os fr (upd H a (.di kvs' none)) { s with heap := h', toks := t } :=
  let ⟨o, ho, hd⟩ := Heap.dictOf_iff.mp hd; S.heap (S.wd.set hs e ho hd)
theorem St.setDs (S : St prog w base os fr H s) {kvs kvs' : List (Str × Value)} (e : H a = some (.ds kvs)) {h' : Heap} {t : Nat} (hd : h'.DictOf (strKind prog w) a kvs') (hs : Heap.SameBut a s.heap h') :
    St prog w base os fr (upd H a (.ds kvs')) { s with heap := h', toks := t } :=
  let ⟨o, ho, hd⟩ := Heap.dictOf_iff.mp hd; S.heap (S.wd.set hs e ho hd)

-- int keys
theorem di_in {kvs : List (Int × Value)} {ep : Option Nat} {k : Int} {t : Tok} {Q : Value → Shared → Prop} (S : St prog w base os fr H s) (e : H a = some (.di kvs ep))
    (h : ∀ s', St prog w base os fr H s' → Q (.bool (valueAt kvs k).isSome) s') : wpAny (model prog w) A (compareOp .In (.int k t) (.ref a)) Q E s :=
  wpAny_in_of (intKind_is _ _ _ _) (S.nm e) (S.di e).mapOf (h _ (S.toks _))
theorem di_notin {kvs : List (Int × Value)} {ep : Option Nat} {k : Int} {t : Tok} {Q : Value → Shared → Prop} (S : St prog w base os fr H s) (e : H a = some (.di kvs ep))
    (h : ∀ s', St prog w base os fr H s' → Q (.bool (!(valueAt kvs k).isSome)) s') : wpAny (model prog w) A (compareOp .NotIn (.int k t) (.ref a)) Q E s :=
  wpAny_notIn_of (intKind_is _ _ _ _) (S.nm e) (S.di e).mapOf (h _ (S.toks _))
theorem di_sub {kvs : List (Int × Value)} {ep : Option Nat} {k : Int} {t : Tok} {v : Value} {value slice : PySem.Expr} {Q : Value → Shared → Prop} (S : St prog w base os fr H s) (e : H a = some (.di kvs ep)) (hv : valueAt kvs k = some v)
    (h : ∀ s', St prog w base os fr H s' → Q v s') (hs : subscripted slice false (.ref a) (.int k t) = operate [.ref a, .int k t] (getItem (.ref a) (.int k t)) := by with_unfolding_all rfl) :
    wpAny (model prog w) A (subscriptTail value slice (.ref a) (.int k t)) Q E s :=
  tail_any (S.di e).typeIs slot_dict_getitem.lookup (wpAny_getItem_of (intKind_is _ _ _ _) (S.di e).mapOf hv (h _ (S.toks _))) hs
theorem ds_sub {kvs : List (Str × Value)} {k : Str} {t : Tok} {v : Value} {value slice : PySem.Expr} {Q : Value → Shared → Prop} (S : St prog w base os fr H s) (e : H a = some (.ds kvs)) (hv : valueAt kvs k = some v)
    (h : ∀ s', St prog w base os fr H s' → Q v s') (hs : subscripted slice false (.ref a) (.str k t) = operate [.ref a, .str k t] (getItem (.ref a) (.str k t)) := by with_unfolding_all rfl) :
    wpAny (model prog w) A (subscriptTail value slice (.ref a) (.str k t)) Q E s :=
  tail_any (S.ds e).typeIs slot_dict_getitem.lookup (wpAny_getItem_of (strKind_is _ _ _ _) (S.ds e).mapOf hv (h _ (S.toks _))) hs
/-- the key is not there: a KeyError flies -/
theorem di_sub_missing {kvs : List (Int × Value)} {ep : Option Nat} {k : Int} {t : Tok} {value slice : PySem.Expr} {Q : Value → Shared → Prop} (S : St prog w base os fr H s) (e : H a = some (.di kvs ep)) (hh : A.handled = none) (hv : valueAt kvs k = none)
    (h : ∀ h' x tk, Heap.NewExc s.heap h' x "KeyError" → E (.ref x) { s with heap := h', toks := tk }) (hs : subscripted slice false (.ref a) (.int k t) = operate [.ref a, .int k t] (getItem (.ref a) (.int k t)) := by with_unfolding_all rfl) :
    wpAny (model prog w) A (subscriptTail value slice (.ref a) (.int k t)) Q E s :=
  tail_any (S.di e).typeIs slot_dict_getitem.lookup (wpAny_getItem_missing_of (intKind_is _ _ _ _) (S.nm e) hh (S.di e).mapOf hv fun h' x hx => h h' x _ hx) hs
theorem di_set {kvs : List (Int × Value)} {ep : Option Nat} {k : Int} {t : Tok} {v : Value} {Q : Unit → Shared → Prop} (S : St prog w base os fr H s) (e : H a = some (.di kvs ep)) (hz : kvs.length ≤ 1000)
    (h : ∀ s', St prog w base os fr (upd H a (.di (stored kvs k v) none)) s' → Q () s') : wpAny (model prog w) A (setItem (.ref a) (.int k t) v) Q E s :=
  wpAny_setItem_pairs (intKind_is _ _ _ _) (S.di e) (fun h' hd hs => h _ (S.setDi e hd hs)) (by rw [sizeLine_eq]; omega)
theorem ds_set {kvs : List (Str × Value)} {k : Str} {t : Tok} {v : Value} {Q : Unit → Shared → Prop} (S : St prog w base os fr H s) (e : H a = some (.ds kvs)) (hz : kvs.length ≤ 1000)
    (h : ∀ s', St prog w base os fr (upd H a (.ds (stored kvs k v))) s' → Q () s') : wpAny (model prog w) A (setItem (.ref a) (.str k t) v) Q E s :=
  wpAny_setItem_pairs (strKind_is _ _ _ _) (S.ds e) (fun h' hd hs => h _ (S.setDs e hd hs)) (by rw [sizeLine_eq]; omega)
theorem di_del {kvs : List (Int × Value)} {ep : Option Nat} {k : Int} {t : Tok} {Q : Unit → Shared → Prop} (S : St prog w base os fr H s) (e : H a = some (.di kvs ep)) (hz : kvs.length ≤ 1000) (hv : (valueAt kvs k).isSome = true)
    (h : ∀ s', St prog w base os fr (upd H a (.di (without kvs k) none)) s' → Q () s') : wpAny (model prog w) A (delItem (.ref a) (.int k t)) Q E s :=
  wpAny_delItem_slot (S.di e).typeIs (by decide) PySem.F.slot_dict_delitem
    (call_meetsIn PySem.F.slot_dict_delitem (S.di e).typeIs PySem.F.entry_dict_delitem (PySem.F.args_dict_delitem_2 _ _) (meets_dict_delitem_pairs (intKind prog w) a (intKind_is _ _ _ _))
      ⟨kvs, S.di e, by rw [sizeLine_eq]; omega, hv, fun h' hd hs => h _ (S.setDi e hd hs)⟩)
theorem di_del_missing {kvs : List (Int × Value)} {ep : Option Nat} {k : Int} {t : Tok} {Q : Unit → Shared → Prop} (S : St prog w base os fr H s) (e : H a = some (.di kvs ep)) (hh : A.handled = none) (hv : valueAt kvs k = none)
    (h : ∀ h' x tk, Heap.NewExc s.heap h' x "KeyError" → E (.ref x) { s with heap := h', toks := tk }) : wpAny (model prog w) A (delItem (.ref a) (.int k t)) Q E s :=
  wpAny_delItem_slot (S.di e).typeIs (by decide) PySem.F.slot_dict_delitem
    (call_meetsIn PySem.F.slot_dict_delitem (S.di e).typeIs PySem.F.entry_dict_delitem (PySem.F.args_dict_delitem_2 _ _) (meets_dict_delitem_missing (intKind prog w) a (intKind_is _ _ _ _) (S.nm e))
      ⟨hh, kvs, S.di e, hv, fun h' x hx => h h' x _ hx⟩)
theorem di_truth {kvs : List (Int × Value)} {ep : Option Nat} {Q : Bool → Shared → Prop} (S : St prog w base os fr H s) (e : H a = some (.di kvs ep)) (hz : kvs.length ≤ 1000)
    (h : ∀ s', St prog w base os fr H s' → Q (!kvs.isEmpty) s') : wpAny (model prog w) A (truthy (.ref a)) Q E s :=
  wpAny_truthy_dict (S.nm e) (S.di e) (by omega) (h _ (S.toks _))
theorem di_len {kvs : List (Int × Value)} {ep : Option Nat} {Q : Value → Shared → Prop} (S : St prog w base os fr H s) (e : H a = some (.di kvs ep)) (hz : kvs.length ≤ 1000)
    (h : ∀ s' t, St prog w base os fr H s' → Q (.int kvs.length t) s') : wpAny (model prog w) A (call (.builtin "len") [.ref a]) Q E s :=
  call_len_dict (S.nm e) (S.di e) (by omega) (h _ _ (S.toks _))
end
end Mine

end

section
open PySem PySem.W PyProof.Rows PySem.Calls
set_option Elab.async false
set_option maxRecDepth 100000
set_option linter.unusedVariables false
namespace Mine

/-- expressions one after the other -/
def evL (M : Model) (A : Around) (E : Value → Shared → Prop) (env : Env) : List PySem.Expr → (List Value → Shared → Prop) → Shared → Prop
  | [], Q, s => Q [] s
  | e :: es, Q, s => wpAny M A (eval e env) (fun v s' => evL M A E env es (fun vs => Q (v :: vs)) s') E s

def plainE : PySem.Expr → Bool
  | .Starred .. => false
  | _ => true
section
variable {M : Model} {A : Around} {E : Value → Shared → Prop} {env : Env} {s : Shared}
theorem starEach_plain : ∀ {es : List PySem.Expr}, es.all plainE = true → starEach es env = es.map fun e => (false, eval e env)
  | [], _ => rfl
  | e :: es, h => by
    rw [List.all_cons, Bool.and_eq_true] at h
    have ih := starEach_plain (es := es) h.2
    cases e <;> first | (simp [plainE] at h; done) | (show (false, _) :: starEach es env = _; rw [ih]; rfl)
theorem evL_mono {es : List PySem.Expr} : ∀ {Q Q' : List Value → Shared → Prop} {s : Shared}, evL M A E env es Q s → (∀ vs s, Q vs s → Q' vs s) → evL M A E env es Q' s := by
  induction es with
  | nil => intro Q Q' s h k; exact k _ _ h
  | cons e es ih => intro Q Q' s h k; exact wpAny_mono h (fun v s' h' => ih h' fun vs s'' => k _ _) fun _ _ e => e
theorem spliced_evL {pos : Pos} : ∀ {es : List PySem.Expr} {Q : List Value → Shared → Prop} {s : Shared}, es.all plainE = true → evL M A E env es Q s → wpAny M A (spliced (backTo pos (starEach es env))) Q E s
  | [], Q, s, _, h => spliced_nil h
  | e :: es, Q, s, hp, h => by
    have e1 := starEach_plain (env := env) hp
    have hp' : es.all plainE = true := by rw [List.all_cons, Bool.and_eq_true] at hp; exact hp.2
    have e2 := starEach_plain (env := env) hp'
    rw [e1]
    show wpAny M A (spliced ((false, eval e env) :: backTo pos (es.map fun e => (false, eval e env)))) Q E s
    rw [← e2]
    exact spliced_cons (wpAny_mono h (fun v s' h' => spliced_evL hp' h') fun _ _ e => e)
theorem evalAll_evL {pos : Pos} : ∀ {ks : List Keyword} {Q : List Value → Shared → Prop} {s : Shared}, evL M A E env (ks.map (·.value)) Q s → wpAny M A (evalAll ((backToKw pos (keywordEach ks env)).map (·.2))) Q E s
  | [], Q, s, h => wpAny_evalAll_nil h
  | ⟨n, e, p⟩ :: ks, Q, s, h => by
    show wpAny M A (evalAll ((do let v ← eval e env; standAt pos; pure v) :: (backToKw pos (keywordEach ks env)).map (·.2))) Q E s
    rw [evalAll]
    refine wpAny_bind (wpAny_bind (wpAny_mono h (fun v s' h' => wpAny_bind (wpAny_standAt (wpAny_pure ?_))) fun _ _ e => e))
    exact wpAny_bind (wpAny_holding (wpAny_mono (evalAll_evL (Q := fun vs => Q (v :: vs)) h') (fun vs s'' q => wpAny_pure q) fun _ _ e => e))

def kwNames (ks : List Keyword) : List Str := ks.filterMap (·.arg)
theorem kw_names {pos : Pos} : ∀ {ks : List Keyword}, (backToKw pos (keywordEach ks env)).filterMap (·.1) = kwNames ks
  | [] => rfl
  | ⟨n, e, p⟩ :: ks => by
    have ih := kw_names (pos := pos) (ks := ks)
    show List.filterMap (·.1) ((n, _) :: backToKw pos (keywordEach ks env)) = _
    unfold kwNames at ih ⊢
    cases n <;> simp only [List.filterMap_cons] <;> rw [ih]
theorem kw_all {pos : Pos} : ∀ {ks : List Keyword}, ks.all (·.arg.isSome) = true → (backToKw pos (keywordEach ks env)).all (·.1.isSome) = true
  | [], _ => rfl
  | ⟨n, e, p⟩ :: ks, h => by
    rw [List.all_cons, Bool.and_eq_true] at h
    show ((n, _) :: backToKw pos (keywordEach ks env)).all (·.1.isSome) = true
    rw [List.all_cons, kw_all h.2, Bool.and_true]
    exact h.1
theorem kw_none {pos : Pos} : ∀ {ks : List Keyword}, ks.all (·.arg.isSome) = true → (backToKw pos (keywordEach ks env)).any (·.1.isNone) = false
  | [], _ => rfl
  | ⟨n, e, p⟩ :: ks, h => by
    rw [List.all_cons, Bool.and_eq_true] at h
    show ((n, _) :: backToKw pos (keywordEach ks env)).any (·.1.isNone) = false
    rw [List.any_cons, kw_none h.2, Bool.or_false]
    cases n with
    | none => cases h.1
    | some _ => rfl
theorem star_none {pos : Pos} : ∀ {es : List PySem.Expr}, es.all plainE = true → (backTo pos (starEach es env)).any (·.1) = false
  | [], _ => rfl
  | e :: es, hp => by
    have hp' : es.all plainE = true := by rw [List.all_cons, Bool.and_eq_true] at hp; exact hp.2
    have ih := star_none (pos := pos) hp'
    rw [starEach_plain hp]
    rw [starEach_plain hp'] at ih
    show ((false, eval e env) :: backTo pos (es.map fun e => (false, eval e env))).any (·.1) = false
    rw [List.any_cons, ih]; rfl

theorem evalArgs_evL {f : Value} {pos : Pos} {es : List PySem.Expr} {ks : List Keyword} {Q : Args → Shared → Prop} (hp : es.all plainE = true) (hk : ks.all (·.arg.isSome) = true)
    (h : evL M A E env es (fun vs s₁ => evL M A E env (ks.map (·.value)) (fun us s₂ => Q ⟨vs, (kwNames ks).zip us⟩ s₂) s₁) s) :
    wpAny M A (evalArgs f true (backTo pos (starEach es env)) (backToKw pos (keywordEach ks env))) Q E s := by
  have t1 : wpAny M A (spliced (backTo pos (starEach es env))) (fun vs s₁ => wpAny M A (evalAll ((backToKw pos (keywordEach ks env)).map (·.2))) (fun us s₂ => Q ⟨vs, ((backToKw pos (keywordEach ks env)).filterMap (·.1)).zip us⟩ s₂) E s₁) E s :=
    spliced_evL hp (evL_mono h fun vs s₁ h₁ => evalAll_evL (by rw [kw_names]; exact h₁))
  unfold evalArgs
  cases es with
  | nil =>
    show wpAny M A (spliced [] >>= _) Q E s
    refine wpAny_bind (wpAny_mono t1 (fun vs s₁ h₁ => wpAny_bind (wpAny_pure (wpAny_holding ?_))) fun _ _ e => e)
    rw [if_pos (kw_all hk)]
    exact wpAny_bind (wpAny_mono h₁ (fun us s₂ h₂ => wpAny_bind (wpAny_pure (wpAny_pure h₂))) fun _ _ e => e)
  | cons e es =>
    have e1 := starEach_plain (env := env) hp
    rw [e1] at t1 ⊢
    show wpAny M A (spliced ((false, eval e env) :: backTo pos (es.map fun e => (false, eval e env))) >>= _) Q E s
    refine wpAny_bind (wpAny_mono t1 (fun vs s₁ h₁ => wpAny_bind (wpAny_pure (wpAny_holding ?_))) fun _ _ e => e)
    rw [if_pos (kw_all hk)]
    exact wpAny_bind (wpAny_mono h₁ (fun us s₂ h₂ => wpAny_bind (wpAny_pure (wpAny_pure h₂))) fun _ _ e => e)

theorem cw {P : Heap → Prop} {pos : Pos} {f : Value} {first : List Value} {es : List PySem.Expr} {ks : List Keyword} {Q : Value → Shared → Prop} (hp : es.all plainE = true) (hk : ks.all (·.arg.isSome) = true)
    (hf : ∀ h, P h → ∃ k, (k = Keeper.frame ∨ k = Keeper.machine ∨ k = Keeper.boundFrame) ∧ Looks M h (keeperOf f) k)
    (h : evL M A E env es (fun vs s₁ => evL M A E env (ks.map (·.value)) (fun us s₂ => P s₂.heap ∧ wpAny M A (call f (first ++ vs) ((kwNames ks).zip us)) Q E s₂) s₁) s) :
    wpAny M A (callWith pos f first (backTo pos (starEach es env)) (backToKw pos (keywordEach ks env))) Q E s :=
  callWith_of (by rw [star_none hp, kw_none hk]; rfl) hf (evalArgs_evL hp hk h)

theorem keeps_builtin {id : String} (h : Heap) (_ : True) : ∃ k, (k = Keeper.frame ∨ k = Keeper.machine ∨ k = Keeper.boundFrame) ∧ Looks M h (keeperOf (.builtin id)) k := ⟨.machine, .inr (.inl rfl), .now⟩
theorem keeps_type {T : String} (h : Heap) (_ : True) : ∃ k, (k = Keeper.frame ∨ k = Keeper.machine ∨ k = Keeper.boundFrame) ∧ Looks M h (keeperOf (.type T)) k := ⟨.machine, .inr (.inl rfl), .now⟩
/-- a built-in (or type) is called -/
theorem cwB {pos : Pos} {id : String} {first : List Value} {es : List PySem.Expr} {Q : Value → Shared → Prop} (hp : es.all plainE = true)
    (h : evL M A E env es (fun vs s₁ => wpAny M A (call (.builtin id) (first ++ vs)) Q E s₁) s) :
    wpAny M A (callWith pos (.builtin id) first (backTo pos (starEach es env)) (backToKw pos (keywordEach [] env))) Q E s :=
  cw (ks := []) hp rfl keeps_builtin (evL_mono h fun vs s₁ h₁ => ⟨trivial, h₁⟩)
theorem cwT {pos : Pos} {T : String} {first : List Value} {es : List PySem.Expr} {Q : Value → Shared → Prop} (hp : es.all plainE = true)
    (h : evL M A E env es (fun vs s₁ => wpAny M A (call (.type T) (first ++ vs)) Q E s₁) s) :
    wpAny M A (callWith pos (.type T) first (backTo pos (starEach es env)) (backToKw pos (keywordEach [] env))) Q E s :=
  cw (ks := []) hp rfl keeps_type (evL_mono h fun vs s₁ h₁ => ⟨trivial, h₁⟩)
theorem cwK {K : Frag} {pos : Pos} {f : Value} {first : List Value} {es : List PySem.Expr} {ks : List Keyword} {Q : Value → Shared → Prop} (hf : keepIn K f = true) (hp : es.all plainE = true) (hk : ks.all (·.arg.isSome) = true)
    (h : evL M A E env es (fun vs s₁ => evL M A E env (ks.map (·.value)) (fun us s₂ => K.In s₂.heap ∧ wpAny M A (call f (first ++ vs) ((kwNames ks).zip us)) Q E s₂) s₁) s) :
    wpAny M A (callWith pos f first (backTo pos (starEach es env)) (backToKw pos (keywordEach ks env))) Q E s := cw hp hk (keeps_K hf) h

/-- name(args) -/
theorem ev_call {x : Str} {np pos : Pos} {es : List PySem.Expr} {ks : List Keyword} {Q : Value → Shared → Prop}
    (h : wpAny M A (eval (.Name x np) env) (fun f s₁ => wpAny M A (callWith pos f [] (backTo pos (starEach es env)) (backToKw pos (keywordEach ks env))) Q E s₁) E s) :
    wpAny M A (eval (.Call (.Name x np) es ks pos) env) Q E s := wpAny_Call_ofName h
end
end Mine

end

section
open PySem PySem.W PyProof.Rows PySem.Calls
set_option Elab.async false
set_option maxRecDepth 100000
set_option linter.unusedVariables false
namespace Mine

/-- what a def of the text is, in the written part -/
structure Def where
  addr : Addr
  name : Str
  qual : Str
  params : Arguments
  body : List Stmt
  scope : Scope
  cl : List (Str × Addr)
  dV : Value
  kV : Value
  cdv : Value
abbrev Def.env (D : Def) (L : Addr) : Env := envX D.qual D.scope L D.addr D.cdv D.cl
structure Def.In (K : Frag) (D : Def) : Prop where
  at_ : ∃ oc od osl doc pm an ct, K.lookup D.addr = some ⟨oc, od, .func (fnX D.name D.qual D.params D.body D.scope D.cl D.dV D.kV doc pm an D.cdv ct), osl⟩
  code : codeIn K D.cdv D.qual = true

def retOf : Flow → Value
  | .ret v => v
  | _ => .none

section
variable {prog : Program} {w : World} {K : Frag} {base : Heap} {os : Os} {A : Around} {E : Value → Shared → Prop} {fr : Frs} {H : Led} {s : Shared} {a : Addr}

/-- what the caller sees of the body's end -/
abbrev BodyOk (prog : Program) (w : World) (A : Around) (D : Def) (L : Addr) (body : List Stmt) (Q : Value → Shared → Prop) (E : Value → Shared → Prop) (s : Shared) : Prop :=
  wpAny (model prog w) (A.deeper (D.env L)) (execs body (D.env L)) (fun fl s' => Q (retOf fl) s')
    (fun e s' => wpAny (model prog w) (A.deeper (D.env L)) (leaving (D.env L) e) (fun _ s'' => E e s'') E s') s

abbrev CC (M : Model) (A : Around) (f : Value) (args : List Value) (kw : List (Str × Value)) (Q : Value → Shared → Prop) (E : Value → Shared → Prop) (s : Shared) : Prop :=
  codeAny M A (.call f ⟨args, kw⟩) (fun r s' => match r with | .ok (.ret v) => Q v s' | .ok _ => False | .error e => E e s') s
/-- a def is called: its arguments bound by hand -/
theorem call_bindC {D : Def} {args : List Value} {kw : List (Str × Value)} {Q : Value → Shared → Prop} (S : St prog w base os fr H s) (Z : Sta K base) (hroom : A.depth < recursionLimit) (hD : D.In K)
    (hcell : ∀ x ∈ D.scope.names, x.2 ≠ .cell) (C : ScOk D.scope) (hco : D.scope.isCoroutine = false) (hgen : D.scope.isGenerator = false)
    (h : ∀ doc pm an ct, wpAny (model prog w) A.in1 (bindArgs (fnX D.name D.qual D.params D.body D.scope D.cl D.dV D.kV doc pm an D.cdv ct) ⟨args, kw⟩)
      (fun binds s₁ => ∃ H₁ n, St prog w base os fr H₁ s₁ ∧ binds.map (·.1) = (D.scope.names.map (·.1)).take binds.length ∧ (∀ x ∈ binds, D.scope.names.lookup x.1 = some .local) ∧
        ∀ L s₂, St prog w base os ((D.env L, fm D.scope.names (binds.map (fun p => some p.2) ++ List.replicate n none)) :: fr) H₁ s₂ → BodyOk prog w A D L D.body Q E s₂) E s) :
    CC (model prog w) A (.ref D.addr) args kw Q E s := by
  obtain ⟨⟨oc, od, osl, doc, pm, an, ct, ho⟩, hcd⟩ := hD
  refine (codeAny_call_function (fd := fnX D.name D.qual D.params D.body D.scope D.cl D.dV D.kV doc pm an D.cdv ct) (body := D.body) hroom (S.kin Z _ _ ho) rfl hco hgen rfl (codeRec_of (S.kin Z) hcd) ?_)
  refine wpAny_mono (h doc pm an ct) (fun binds s₁ h₁ => ?_) fun _ _ e => e
  obtain ⟨H₁, n, S₁, hn, hl, k⟩ := h₁
  refine wpAny_newFunctionEnv hcell hl (fun h' hns hsb => ⟨(S₁.lim Z).fresh _ hsb, ?_⟩) C.kind
  have kp : ∀ b o, s₁.heap.get? b = some o → h'.get? b = some o := fun b o e => hsb.extBut b o (Nat.ne_of_lt (Heap.lt_size e)) (Heap.get?_push_of_some _ e)
  rw [fm_binds n C.nd hn] at hns
  have S₂ : St prog w base os ((D.env s₁.heap.objs.size, fm D.scope.names (binds.map (fun p => some p.2) ++ List.replicate n none)) :: fr) H₁ { s₁ with heap := h', toks := s₁.toks + binds.length } :=
    S₁.heap (S₁.wd.enter rfl C.kind rfl hns kp)
  refine codeAny_func (wpAny_mono (k _ _ S₂) (fun fl s' q => ?_) fun e s' q => q)
  cases fl <;> exact q

theorem call_bind {D : Def} {args : List Value} {kw : List (Str × Value)} {Q : Value → Shared → Prop} (S : St prog w base os fr H s) (Z : Sta K base) (hroom : A.depth < recursionLimit) (hD : D.In K)
    (hcell : ∀ x ∈ D.scope.names, x.2 ≠ .cell) (C : ScOk D.scope) (hco : D.scope.isCoroutine = false) (hgen : D.scope.isGenerator = false)
    (h : ∀ doc pm an ct, wpAny (model prog w) A.in1 (bindArgs (fnX D.name D.qual D.params D.body D.scope D.cl D.dV D.kV doc pm an D.cdv ct) ⟨args, kw⟩)
      (fun binds s₁ => ∃ H₁ n, St prog w base os fr H₁ s₁ ∧ binds.map (·.1) = (D.scope.names.map (·.1)).take binds.length ∧ (∀ x ∈ binds, D.scope.names.lookup x.1 = some .local) ∧
        ∀ L s₂, St prog w base os ((D.env L, fm D.scope.names (binds.map (fun p => some p.2) ++ List.replicate n none)) :: fr) H₁ s₂ → BodyOk prog w A D L D.body Q E s₂) E s) :
    wpAny (model prog w) A (call (.ref D.addr) args kw) Q E s := wpAny_call (call_bindC S Z hroom hD hcell C hco hgen h)
/-- the plain way: positions and names fit, no default is read -/
theorem call_plain {D : Def} {args : List Value} {kw : List (Str × Value)} {binds : List (Str × Value)} {n : Nat} {Q : Value → Shared → Prop} (S : St prog w base os fr H s) (Z : Sta K base) (hroom : A.depth < recursionLimit) (hD : D.In K)
    (hcell : ∀ x ∈ D.scope.names, x.2 ≠ .cell) (C : ScOk D.scope) (hco : D.scope.isCoroutine = false) (hgen : D.scope.isGenerator = false)
    (hb : ∀ doc pm an ct, bindArgs (fnX D.name D.qual D.params D.body D.scope D.cl D.dV D.kV doc pm an D.cdv ct) ⟨args, kw⟩ = pure binds)
    (hn : binds.map (·.1) = (D.scope.names.map (·.1)).take binds.length) (hl : (D.scope.names.take binds.length).all (fun p => match p.2 with | .local => true | _ => false) = true)
    (h : ∀ L s₂, St prog w base os ((D.env L, fm D.scope.names (binds.map (fun p => some p.2) ++ List.replicate n none)) :: fr) H s₂ → BodyOk prog w A D L D.body Q E s₂) :
    wpAny (model prog w) A (call (.ref D.addr) args kw) Q E s := by
  refine call_bind S Z hroom hD hcell C hco hgen fun doc pm an ct => ?_
  rw [hb]
  refine wpAny_pure ⟨H, n, S, hn, fun x hx => ?_, h⟩
  obtain ⟨i, hi⟩ := List.mem_iff_getElem?.mp hx
  have hi' : (D.scope.names.map (·.1))[i]? = some x.1 := by
    have e : (binds.map (·.1))[i]? = some x.1 := by rw [List.getElem?_map, hi]; rfl
    rw [hn, List.getElem?_take] at e
    split at e
    · exact e
    · cases e
  have hlt : i < binds.length := (List.getElem?_eq_some_iff.mp hi).1
  rw [List.getElem?_map] at hi'
  cases q : D.scope.names[i]? with
  | none => rw [q] at hi'; cases hi'
  | some p =>
    obtain ⟨y, k⟩ := p
    rw [q] at hi'
    simp only [Option.map_some, Option.some.injEq] at hi'
    subst hi'
    have hm : (x.1, k) ∈ D.scope.names.take binds.length := List.mem_of_getElem? (i := i) (by rw [List.getElem?_take, if_pos hlt]; exact q)
    have := List.all_eq_true.mp hl _ hm
    have hk : k = .local := by
      cases k <;> first | rfl | (simp at this)
    subst hk
    exact lookup_at C.nd q
end
end Mine

end

section
open PySem PySem.W PyProof.Rows PySem.Calls
set_option Elab.async false
set_option maxRecDepth 100000
set_option linter.unusedVariables false
namespace Mine

/-- the class PlanarEmbedding in the written part -/
def peA : Addr := 920

/-- the picture and the law's own books, as plain data -/
structure Sg where
  nn : List Int
  ns : List Int
  np : List Int
  so : Int → List Int
  po : Int → List Int
  cw : Int → Int → Int
  cc : Int → Int → Int
  rn : List Int
  row : Int → List Int
  kn : List Int
  kw : Int → Bool
  adj : Bool

inductive Role where
  | self | dct | g | node | succ | pred
  | nd (u : Int) | sd (u : Int) | pd (u : Int) | ed (u v : Int)
  | rows | known | row (u : Int)
  deriving DecidableEq

abbrev Rho := Addr → Option Role
def Rho.take (ρ : Rho) (r : Role) (b : Addr) : Rho := fun a => if a = b then some r else if ρ a = some r then none else ρ a

def Refs (ρ : Rho) (kvs : List (Int × Value)) (keys : List Int) (mk : Int → Role) : Prop :=
  kvs.map (·.1) = keys ∧ ∀ k v, (k, v) ∈ kvs → ∃ a, v = .ref a ∧ ρ a = some (mk k)

/-- the data of a half edge -/
def Ed (kvs : List (Str × Value)) (c cc : Int) : Prop :=
  (∃ t, valueAt kvs "cw" = some (.int c t)) ∧ (∃ t, valueAt kvs "ccw" = some (.int cc t)) ∧ kvs.length = 2

def en (P : Params) (x : Str) (t : Tok) (v : Value) : DictEntry := ⟨PyData.keyHash P x, .str x t, v⟩
/-- the dict of the picture: once handed out it bears a mark -/
def dictS (b : Bool) (es : List DictEntry) (m : Nat) : Obj := { dictOf es m with slots := if b then #[none] else #[] }
def picEs (P : Params) (t : Nat → Tok) (g n s p : Addr) (adj : Bool) : List DictEntry :=
  [en P "graph" (t 0) (.ref g), en P "_node" (t 1) (.ref n), en P "_adj" (t 2) (.ref s), en P "_succ" (t 3) (.ref s), en P "_pred" (t 4) (.ref p)] ++ (if adj then [en P "adj" (t 5) (.ref s)] else [])

def Con (P : Params) (ρ : Rho) (σ : Sg) : Role → Desc → Prop
  | .self, d => ∃ dx, d = .raw (instObj peA dx) ∧ ρ dx = some .dct
  | .dct, d => ∃ t g n s p m, d = .raw (dictS σ.adj (picEs P t g n s p σ.adj) m) ∧ ρ g = some .g ∧ ρ n = some .node ∧ ρ s = some .succ ∧ ρ p = some .pred
  | .g, d => d = .ds []
  | .node, d => ∃ kvs ep, d = .di kvs ep ∧ Refs ρ kvs σ.nn .nd
  | .succ, d => ∃ kvs ep, d = .di kvs ep ∧ Refs ρ kvs σ.ns .sd
  | .pred, d => ∃ kvs ep, d = .di kvs ep ∧ Refs ρ kvs σ.np .pd
  | .nd _, d => d = .ds []
  | .sd u, d => ∃ kvs ep, d = .di kvs ep ∧ Refs ρ kvs (σ.so u) (.ed u)
  | .pd v, d => ∃ kvs ep, d = .di kvs ep ∧ Refs ρ kvs (σ.po v) fun u => .ed u v
  | .ed u v, d => ∃ kvs, d = .ds kvs ∧ Ed kvs (σ.cw u v) (σ.cc u v)
  | .rows, d => ∃ kvs ep, d = .di kvs ep ∧ Refs ρ kvs σ.rn .row
  | .known, d => ∃ kvs ep, d = .di kvs ep ∧ kvs.map (·.1) = σ.kn ∧ ∀ k v, (k, v) ∈ kvs → v = .bool (σ.kw k)
  | .row u, d => ∃ vs, d = .li vs ∧ IntsAre vs (σ.row u)

structure Rep (P : Params) (H : Led) (ρ : Rho) (σ : Sg) : Prop where
  con : ∀ a r, ρ a = some r → ∃ d, H a = some d ∧ Con P ρ σ r d
  inj : ∀ a b r, ρ a = some r → ρ b = some r → a = b

/-- does the data name the role? -/
def Named (σ : Sg) : Role → Prop
  | .nd u => u ∈ σ.nn
  | .sd u => u ∈ σ.ns
  | .pd u => u ∈ σ.np
  | .ed u v => v ∈ σ.so u ∨ u ∈ σ.po v
  | .row u => u ∈ σ.rn
  | _ => True

theorem Refs.find {ρ : Rho} {kvs : List (Int × Value)} {keys : List Int} {mk : Int → Role} (h : Refs ρ kvs keys mk) {k : Int} (hk : k ∈ keys) : ∃ a, valueAt kvs k = some (.ref a) ∧ ρ a = some (mk k) := by
  obtain ⟨h1, h2⟩ := h
  subst h1
  obtain ⟨p, hp, rfl⟩ := List.mem_map.mp hk
  unfold valueAt
  cases q : kvs.find? (fun kv => kv.1 = p.1) with
  | none => exact absurd (List.find?_eq_none.mp q p hp) (by simp)
  | some p' =>
    have e1 : p'.1 = p.1 := by simpa using List.find?_some q
    obtain ⟨a, e, r⟩ := h2 p'.1 p'.2 (List.mem_of_find?_eq_some q)
    exact ⟨a, by rw [Option.map_some, e], e1 ▸ r⟩
theorem valueAt_none {kvs : List (Int × Value)} {k : Int} (h : k ∉ kvs.map (·.1)) : valueAt kvs k = none := by
  unfold valueAt
  rw [List.find?_eq_none.mpr]
  · rfl
  · intro p hp q
    exact h (List.mem_map.mpr ⟨p, hp, by simpa using q⟩)
theorem Refs.none {ρ : Rho} {kvs : List (Int × Value)} {keys : List Int} {mk : Int → Role} (h : Refs ρ kvs keys mk) {k : Int} (hk : k ∉ keys) : valueAt kvs k = none := valueAt_none (h.1 ▸ hk)
theorem valueAt_isSome {kvs : List (Int × Value)} {k : Int} : (valueAt kvs k).isSome = decide (k ∈ kvs.map (·.1)) := by
  by_cases h : k ∈ kvs.map (·.1)
  · obtain ⟨p, hp, rfl⟩ := List.mem_map.mp h
    rw [decide_eq_true h]
    unfold valueAt
    cases q : kvs.find? (fun kv => kv.1 = p.1) with
    | none => exact absurd (List.find?_eq_none.mp q p hp) (by simp)
    | some _ => rfl
  · rw [valueAt_none h, decide_eq_false h]; rfl
theorem Refs.isSome {ρ : Rho} {kvs : List (Int × Value)} {keys : List Int} {mk : Int → Role} (h : Refs ρ kvs keys mk) (k : Int) : (valueAt kvs k).isSome = decide (k ∈ keys) := by rw [valueAt_isSome, h.1]
theorem Refs.len {ρ : Rho} {kvs : List (Int × Value)} {keys : List Int} {mk : Int → Role} (h : Refs ρ kvs keys mk) : kvs.length = keys.length := by rw [← h.1, List.length_map]
theorem Refs.isEmpty {ρ : Rho} {kvs : List (Int × Value)} {keys : List Int} {mk : Int → Role} (h : Refs ρ kvs keys mk) : kvs.isEmpty = keys.isEmpty := by rw [← h.1]; cases kvs <;> rfl

theorem stored_new {K : Type} [DecidableEq K] {kvs : List (K × Value)} {k : K} (h : k ∉ kvs.map (·.1)) (v : Value) : stored kvs k v = kvs ++ [(k, v)] := by
  unfold stored
  rw [if_neg]
  intro q
  obtain ⟨p, hp, e⟩ := List.any_eq_true.mp q
  exact h (List.mem_map.mpr ⟨p, hp, by simpa using e⟩)
theorem stored_keys {K : Type} [DecidableEq K] {kvs : List (K × Value)} {k : K} (h : k ∈ kvs.map (·.1)) (v : Value) : (stored kvs k v).map (·.1) = kvs.map (·.1) := by
  unfold stored
  rw [if_pos]
  · exact keys_map_store kvs k v
  · obtain ⟨p, hp, rfl⟩ := List.mem_map.mp h
    exact List.any_eq_true.mpr ⟨p, hp, by simp⟩

theorem Refs.put {ρ : Rho} {kvs : List (Int × Value)} {keys : List Int} {mk : Int → Role} (h : Refs ρ kvs keys mk) {k : Int} (hk : k ∉ keys) {b : Addr} (hb : ρ b = some (mk k)) : Refs ρ (stored kvs k (.ref b)) (keys ++ [k]) mk := by
  obtain ⟨rfl, h2⟩ := h
  rw [stored_new hk]
  refine ⟨by simp, fun k' v hm => ?_⟩
  rcases List.mem_append.mp hm with hm | hm
  · exact h2 _ _ hm
  · simp only [List.mem_singleton, Prod.mk.injEq] at hm
    obtain ⟨rfl, rfl⟩ := hm
    exact ⟨b, rfl, hb⟩
theorem without_keys (kvs : List (Int × Value)) (k : Int) : (without kvs k).map (·.1) = (kvs.map (·.1)).filter (· ≠ k) := by
  unfold without
  induction kvs with
  | nil => rfl
  | cons p kvs ih =>
    rw [List.filter_cons, List.map_cons, List.filter_cons]
    by_cases q : p.1 = k
    · rw [if_neg (by simpa using q), if_neg (by simpa using q)]; exact ih
    · rw [if_pos (by simpa using q), if_pos (by simpa using q), List.map_cons, ih]
theorem Refs.del {ρ : Rho} {kvs : List (Int × Value)} {keys : List Int} {mk : Int → Role} (h : Refs ρ kvs keys mk) (k : Int) : Refs ρ (without kvs k) (keys.filter (· ≠ k)) mk := by
  obtain ⟨rfl, h2⟩ := h
  exact ⟨without_keys kvs k, fun k' v hm => h2 k' v (List.mem_filter.mp hm).1⟩
end Mine

end

section
open PySem PySem.W PyProof.Rows PySem.Calls
set_option Elab.async false
set_option maxRecDepth 100000
set_option linter.unusedVariables false
namespace Mine

def fset {β : Type} (f : Int → β) (u : Int) (x : β) : Int → β := fun y => if y = u then x else f y
@[simp] theorem fset_self {β : Type} (f : Int → β) (u : Int) (x : β) : fset f u x u = x := by simp [fset]
theorem fset_ne {β : Type} (f : Int → β) {u y : Int} (x : β) (h : y ≠ u) : fset f u x y = f y := by simp [fset, h]

theorem take_self (ρ : Rho) (r : Role) (b : Addr) : ρ.take r b b = some r := by simp [Rho.take]
theorem take_old {ρ : Rho} {r r' : Role} {b a : Addr} (hb : ρ b = none) (h : ρ a = some r') (hr : r' ≠ r) : ρ.take r b a = some r' := by
  have : a ≠ b := fun q => by rw [q, hb] at h; cases h
  unfold Rho.take
  rw [if_neg this, if_neg, h]
  rw [h]; exact fun q => hr (Option.some.inj q)
theorem take_none {ρ : Rho} {r : Role} {b a : Addr} (h : ρ a = none) (hab : a ≠ b) : ρ.take r b a = none := by
  unfold Rho.take
  rw [if_neg hab]
  split <;> first | rfl | exact h
theorem take_inv {ρ : Rho} {r r' : Role} {b a : Addr} (h : ρ.take r b a = some r') : (a = b ∧ r' = r) ∨ (a ≠ b ∧ r' ≠ r ∧ ρ a = some r') := by
  unfold Rho.take at h
  split at h
  · exact .inl ⟨by assumption, (Option.some.inj h).symm⟩
  · split at h
    · cases h
    · rename_i h1 h2
      exact .inr ⟨h1, fun q => h2 (q ▸ h), h⟩

/-- roles that come and go -/
def Loose : Role → Prop
  | .nd _ | .sd _ | .pd _ | .ed _ _ | .row _ => True
  | _ => False

section
variable {P : Params} {H : Led} {ρ ρ' : Rho} {σ σ' : Sg} {a b : Addr} {d : Desc} {r r' : Role}

theorem Refs.rho {kvs : List (Int × Value)} {keys : List Int} {mk : Int → Role} (h : Refs ρ kvs keys mk) (k : ∀ a u, u ∈ keys → ρ a = some (mk u) → ρ' a = some (mk u)) : Refs ρ' kvs keys mk :=
  ⟨h.1, fun u v hm => let ⟨a, e, q⟩ := h.2 u v hm; ⟨a, e, k a u (h.1 ▸ List.mem_map_of_mem hm) q⟩⟩

theorem Con.rho (h : Con P ρ σ r' d) (k : ∀ a r'', ρ a = some r'' → r'' ≠ r → ρ' a = some r'') (hl : Loose r) (hr : ¬ Named σ r) : Con P ρ' σ r' d := by
  have nl : ∀ x, ¬ Loose x → x ≠ r := fun x hx q => hx (q ▸ hl)
  cases r' with
  | self => obtain ⟨dx, e, q⟩ := h; exact ⟨dx, e, k _ _ q (nl _ (by simp [Loose]))⟩
  | dct =>
    obtain ⟨t, g, n, s, p, m, e, q1, q2, q3, q4⟩ := h
    exact ⟨t, g, n, s, p, m, e, k _ _ q1 (nl _ (by simp [Loose])), k _ _ q2 (nl _ (by simp [Loose])), k _ _ q3 (nl _ (by simp [Loose])), k _ _ q4 (nl _ (by simp [Loose]))⟩
  | g => exact h
  | node => obtain ⟨kvs, ep, e, q⟩ := h; exact ⟨kvs, ep, e, q.rho fun a u hu z => k _ _ z fun w => hr (w ▸ hu)⟩
  | succ => obtain ⟨kvs, ep, e, q⟩ := h; exact ⟨kvs, ep, e, q.rho fun a u hu z => k _ _ z fun w => hr (w ▸ hu)⟩
  | pred => obtain ⟨kvs, ep, e, q⟩ := h; exact ⟨kvs, ep, e, q.rho fun a u hu z => k _ _ z fun w => hr (w ▸ hu)⟩
  | nd u => exact h
  | sd u => obtain ⟨kvs, ep, e, q⟩ := h; exact ⟨kvs, ep, e, q.rho fun a v hv z => k _ _ z fun w => hr (w ▸ Or.inl hv)⟩
  | pd v => obtain ⟨kvs, ep, e, q⟩ := h; exact ⟨kvs, ep, e, q.rho fun a u hu z => k _ _ z fun w => hr (w ▸ Or.inr hu)⟩
  | ed u v => exact h
  | rows => obtain ⟨kvs, ep, e, q⟩ := h; exact ⟨kvs, ep, e, q.rho fun a u hu z => k _ _ z fun w => hr (w ▸ hu)⟩
  | known => exact h
  | row u => exact h

/-- one object's data change -/
theorem Rep.set (R : Rep P H ρ σ) (ha : ρ a = some r) (hs : ∀ r' d, r' ≠ r → Con P ρ σ r' d → Con P ρ σ' r' d) (hd : Con P ρ σ' r d) : Rep P (upd H a d) ρ σ' where
  con := fun b r' hb => by
    by_cases q : b = a
    · subst q
      rw [ha] at hb
      cases hb
      exact ⟨d, upd_self .., hd⟩
    · obtain ⟨d', e, c⟩ := R.con b r' hb
      exact ⟨d', by rw [upd_ne _ _ q]; exact e, hs r' d' (fun z => q (R.inj b a r (z ▸ hb) ha)) c⟩
  inj := R.inj

/-- a new object gets a role -/
theorem Rep.role (R : Rep P H ρ σ) (hb : ρ b = none) (e : H b = some d) (hl : Loose r) (hn : ¬ Named σ r) (hn' : ¬ Named σ' r) (hs : ∀ r' d, r' ≠ r → Con P ρ σ r' d → Con P ρ σ' r' d) (hd : Con P (ρ.take r b) σ' r d) :
    Rep P H (ρ.take r b) σ' where
  con := fun a r' ha => by
    rcases take_inv ha with ⟨rfl, rfl⟩ | ⟨h1, h2, h3⟩
    · exact ⟨d, e, hd⟩
    · obtain ⟨d', e', c⟩ := R.con a r' h3
      exact ⟨d', e', (hs r' d' h2 c).rho (fun a' r'' q z => take_old hb q z) hl hn'⟩
  inj := fun a a' r' h h' => by
    rcases take_inv h with ⟨rfl, rfl⟩ | ⟨h1, h2, h3⟩ <;> rcases take_inv h' with ⟨rfl, q⟩ | ⟨k1, k2, k3⟩
    · rfl
    · exact absurd rfl k2
    · exact absurd q h2
    · exact R.inj _ _ _ h3 k3

/-- objects that are nobody's may change -/
theorem Rep.other (R : Rep P H ρ σ) {H' : Led} (h : ∀ a d, ρ a ≠ none → H a = some d → H' a = some d) : Rep P H' ρ σ :=
  ⟨fun a r ha => let ⟨d, e, c⟩ := R.con a r ha; ⟨d, h a d (by rw [ha]; exact nofun) e, c⟩, R.inj⟩
theorem Rep.temp (R : Rep P H ρ σ) (ha : ρ a = none) (d : Desc) : Rep P (upd H a d) ρ σ :=
  R.other fun b d' hb e => by rw [upd_ne _ _ (fun (q : b = a) => hb (q ▸ ha))]; exact e
theorem Rep.none (R : Rep P H ρ σ) (h : H a = none) : ρ a = none := by
  cases q : ρ a with
  | none => rfl
  | some r => obtain ⟨d, e, _⟩ := R.con a r q; rw [h] at e; cases e

theorem Rep.succ (R : Rep P H ρ σ) (ha : ρ a = some .succ) : ∃ kvs ep, H a = some (.di kvs ep) ∧ Refs ρ kvs σ.ns .sd := let ⟨_, e, kvs, ep, q, h⟩ := R.con a _ ha; ⟨kvs, ep, q ▸ e, h⟩
theorem Rep.pred (R : Rep P H ρ σ) (ha : ρ a = some .pred) : ∃ kvs ep, H a = some (.di kvs ep) ∧ Refs ρ kvs σ.np .pd := let ⟨_, e, kvs, ep, q, h⟩ := R.con a _ ha; ⟨kvs, ep, q ▸ e, h⟩
theorem Rep.node (R : Rep P H ρ σ) (ha : ρ a = some .node) : ∃ kvs ep, H a = some (.di kvs ep) ∧ Refs ρ kvs σ.nn .nd := let ⟨_, e, kvs, ep, q, h⟩ := R.con a _ ha; ⟨kvs, ep, q ▸ e, h⟩
theorem Rep.rows (R : Rep P H ρ σ) (ha : ρ a = some .rows) : ∃ kvs ep, H a = some (.di kvs ep) ∧ Refs ρ kvs σ.rn .row := let ⟨_, e, kvs, ep, q, h⟩ := R.con a _ ha; ⟨kvs, ep, q ▸ e, h⟩
theorem Rep.sd (R : Rep P H ρ σ) {u : Int} (ha : ρ a = some (.sd u)) : ∃ kvs ep, H a = some (.di kvs ep) ∧ Refs ρ kvs (σ.so u) (.ed u) := let ⟨_, e, kvs, ep, q, h⟩ := R.con a _ ha; ⟨kvs, ep, q ▸ e, h⟩
theorem Rep.pd (R : Rep P H ρ σ) {u : Int} (ha : ρ a = some (.pd u)) : ∃ kvs ep, H a = some (.di kvs ep) ∧ Refs ρ kvs (σ.po u) (fun v => .ed v u) := let ⟨_, e, kvs, ep, q, h⟩ := R.con a _ ha; ⟨kvs, ep, q ▸ e, h⟩
theorem Rep.ed (R : Rep P H ρ σ) {u v : Int} (ha : ρ a = some (.ed u v)) : ∃ kvs, H a = some (.ds kvs) ∧ Ed kvs (σ.cw u v) (σ.cc u v) := let ⟨_, e, kvs, q, h⟩ := R.con a _ ha; ⟨kvs, q ▸ e, h⟩
theorem Rep.nd (R : Rep P H ρ σ) {u : Int} (ha : ρ a = some (.nd u)) : H a = some (.ds []) := let ⟨_, e, q⟩ := R.con a _ ha; (show _ = Desc.ds [] from q) ▸ e
theorem Rep.row (R : Rep P H ρ σ) {u : Int} (ha : ρ a = some (.row u)) : ∃ vs, H a = some (.li vs) ∧ IntsAre vs (σ.row u) := let ⟨_, e, vs, q, h⟩ := R.con a _ ha; ⟨vs, q ▸ e, h⟩
theorem Rep.known (R : Rep P H ρ σ) (ha : ρ a = some .known) : ∃ kvs ep, H a = some (.di kvs ep) ∧ kvs.map (·.1) = σ.kn ∧ ∀ k v, (k, v) ∈ kvs → v = .bool (σ.kw k) := let ⟨_, e, kvs, ep, q, h⟩ := R.con a _ ha; ⟨kvs, ep, q ▸ e, h⟩
theorem Rep.pic (R : Rep P H ρ σ) (ha : ρ a = some .self) : ∃ dx t g n s p m, H a = some (.raw (instObj peA dx)) ∧ H dx = some (.raw (dictS σ.adj (picEs P t g n s p σ.adj) m)) ∧ ρ dx = some .dct ∧ ρ g = some .g ∧ ρ n = some .node ∧ ρ s = some .succ ∧ ρ p = some .pred := by
  obtain ⟨_, e, dx, rfl, hx⟩ := R.con a _ ha
  obtain ⟨_, e', t, g, n, s, p, m, rfl, h⟩ := R.con dx _ hx
  exact ⟨dx, t, g, n, s, p, m, e, e', hx, h⟩
end
end Mine

end

section
open PySem PySem.W PyProof.Rows PySem.Calls
set_option Elab.async false
set_option maxRecDepth 100000
set_option linter.unusedVariables false
namespace Mine

section
variable {prog : Program} {w : World} {base : Heap} {os : Os} {A : Around} {E : Value → Shared → Prop} {fr : Frs} {H : Led} {s : Shared} {env : Env} {a : Addr}

theorem di_get1 {kvs : List (Int × Value)} {ep : Option Nat} {k : Int} {t : Tok} {Q : Value → Shared → Prop} (S : St prog w base os fr H s) (e : H a = some (.di kvs ep))
    (h : ∀ s', St prog w base os fr H s' → Q ((valueAt kvs k).getD .none) s') : wpAny (model prog w) A (call (.builtin "dict.get") [.ref a, .int k t]) Q E s :=
  call_meetsIn PySem.F.slot_dict_get (S.di e).typeIs PySem.F.entry_dict_get (PySem.F.args_dict_get_2 _ _) (meets_dict_get (intKind prog w) a (intKind_is _ _ _ _) (S.nm e)) ⟨_, (S.di e).mapOf, h _ (S.toks _)⟩
theorem di_get2 {kvs : List (Int × Value)} {ep : Option Nat} {k : Int} {t : Tok} {v : Value} {Q : Value → Shared → Prop} (S : St prog w base os fr H s) (e : H a = some (.di kvs ep))
    (h : ∀ s', St prog w base os fr H s' → Q ((valueAt kvs k).getD v) s') : wpAny (model prog w) A (call (.builtin "dict.get") [.ref a, .int k t, v]) Q E s :=
  call_meetsIn PySem.F.slot_dict_get (S.di e).typeIs PySem.F.entry_dict_get (PySem.F.args_dict_get_3 _ _ _) (meets_dict_get_default (intKind prog w) a (intKind_is _ _ _ _) (S.nm e) v) ⟨_, (S.di e).mapOf, h _ (S.toks _)⟩
theorem di_pop {kvs : List (Int × Value)} {ep : Option Nat} {k : Int} {t : Tok} {v : Value} {Q : Value → Shared → Prop} (S : St prog w base os fr H s) (e : H a = some (.di kvs ep)) (hz : kvs.length ≤ 1000) (hv : valueAt kvs k = some v)
    (h : ∀ s', St prog w base os fr (upd H a (.di (without kvs k) none)) s' → Q v s') : wpAny (model prog w) A (call (.builtin "dict.pop") [.ref a, .int k t]) Q E s :=
  call_meetsIn PySem.F.slot_dict_pop (S.di e).typeIs PySem.F.entry_dict_pop (PySem.F.args_dict_pop_2 _ _) (meets_dict_pop_there (intKind prog w) a (intKind_is _ _ _ _) [] (.inl rfl) (by rfl))
    ⟨kvs, v, S.di e, by rw [sizeLine_eq]; omega, hv, fun h' hd hs => h _ (S.setDi e hd hs)⟩
theorem ds_pop_none {kvs : List (Str × Value)} {k : Str} {t : Tok} {v : Value} {Q : Value → Shared → Prop} (S : St prog w base os fr H s) (e : H a = some (.ds kvs)) (hv : valueAt kvs k = none)
    (h : ∀ s', St prog w base os fr H s' → Q v s') : wpAny (model prog w) A (call (.builtin "dict.pop") [.ref a, .str k t, v]) Q E s :=
  call_meetsIn PySem.F.slot_dict_pop (S.ds e).typeIs PySem.F.entry_dict_pop (PySem.F.args_dict_pop_3 _ _ _) (meets_dict_pop_default (strKind prog w) a (strKind_is _ _ _ _) (S.nm e) (by rfl) v)
    ⟨kvs, S.ds e, hv, h _ (S.toks _)⟩
theorem ds_update {b : Addr} {kvs more : List (Str × Value)} {Q : Value → Shared → Prop} (S : St prog w base os fr H s) (e : H a = some (.ds kvs)) (e' : H b = some (.ds more)) (ne : a ≠ b) (hz : kvs.length + more.length ≤ 1000)
    (h : ∀ s', St prog w base os fr (upd H a (.ds (merged kvs more))) s' → Q .none s') : wpAny (model prog w) A (call (.builtin "dict.update") [.ref a, .ref b]) Q E s :=
  call_meetsIn PySem.F.slot_dict_update (S.ds e).typeIs PySem.F.entry_dict_update (PySem.F.args_dict_update_2 _ _) (meets_dict_update (strKind prog w) a b ne (S.nm e'))
    ⟨kvs, more, S.ds e, S.ds e', by rw [sizeLine_eq]; omega, fun h' hd _ hs => h _ (S.setDs e hd hs (t := s.toks))⟩

/-- a new dict -/
theorem new_dict {Q : Value → Shared → Prop} {pos : Pos} (S : St prog w base os fr H s)
    (h : ∀ b s', H b = none → St prog w base os fr (upd H b (.di [] none)) s' → St prog w base os fr (upd H b (.ds [])) s' → Q (.ref b) s') : wpAny (model prog w) A (eval (.Dict [] [] pos) env) Q E s := by
  refine wpAny_Dict_empty (h _ _ S.wd.freshH (S.heap (t := s.toks) ?_) (S.heap (t := s.toks) ?_))
  · exact S.wd.push rfl (show Obj.IsDictOf _ _ _ from ⟨#[], 0, ⟨rfl, rfl, rfl⟩, rfl, fun _ h => (by simp at h), Pairs.nil, List.nodup_nil⟩)
  · exact S.wd.push rfl (show Obj.IsDictOf _ _ _ from ⟨#[], 0, ⟨rfl, rfl, rfl⟩, rfl, fun _ h => (by simp at h), Pairs.nil, List.nodup_nil⟩)

theorem mcall {o : PySem.Expr} {name : Str} {apos pos : Pos} {args : List PySem.Expr} {kws : List Keyword} {pl : Sem Bool} {Q : Value → Shared → Prop} {M : Model}
    (h : wpAny M A (eval o env) (fun ov s₁ => wpAny M A (getMethod ov name pl) (fun fx s₂ => wpAny M A (callWith pos fx.1 fx.2 (backTo pos (starEach args env)) (backToKw pos (keywordEach kws env))) Q E s₂) E s₁) E s)
    (he : eval (.Call (.Attribute o name apos) args kws pos) env = (do
      let ov ← eval o env
      standAt apos.atName
      let (f, first) ← holding [ov] (getMethod ov name pl)
      callWith pos f first (backTo pos (starEach args env)) (backToKw pos (keywordEach kws env))) := by rfl) :
    wpAny M A (eval (.Call (.Attribute o name apos) args kws pos) env) Q E s := methodCall_KW h he

theorem md_di {kvs : List (Int × Value)} {ep : Option Nat} {name : Str} {id : String} {pl : Sem Bool} {Q : Value × List Value → Shared → Prop} (slot : Slot "dict" name id) (ty : typeOf (.builtin id) = pure (.type "method_descriptor"))
    (S : St prog w base os fr H s) (e : H a = some (.di kvs ep)) (h : Q (.builtin id, [.ref a]) s) : wpAny (model prog w) A (getMethod (.ref a) name pl) Q E s := by
  obtain ⟨o, es, n, ho, hx, _⟩ := S.di e
  exact getMethod_builtin (S.di e).typeIs PySem.F.plainAttrs_dict slot ty (fun b q => by cases q; exact ⟨o, ho, hx.2.1⟩) h
theorem md_ds {kvs : List (Str × Value)} {name : Str} {id : String} {pl : Sem Bool} {Q : Value × List Value → Shared → Prop} (slot : Slot "dict" name id) (ty : typeOf (.builtin id) = pure (.type "method_descriptor"))
    (S : St prog w base os fr H s) (e : H a = some (.ds kvs)) (h : Q (.builtin id, [.ref a]) s) : wpAny (model prog w) A (getMethod (.ref a) name pl) Q E s := by
  obtain ⟨o, es, n, ho, hx, _⟩ := S.ds e
  exact getMethod_builtin (S.ds e).typeIs PySem.F.plainAttrs_dict slot ty (fun b q => by cases q; exact ⟨o, ho, hx.2.1⟩) h
theorem md_li {vs : List Value} {name : Str} {id : String} {pl : Sem Bool} {Q : Value × List Value → Shared → Prop} (slot : Slot "list" name id) (ty : typeOf (.builtin id) = pure (.type "method_descriptor"))
    (S : St prog w base os fr H s) (e : H a = some (.li vs)) (h : Q (.builtin id, [.ref a]) s) : wpAny (model prog w) A (getMethod (.ref a) name pl) Q E s := by
  obtain ⟨n, ho⟩ := S.liO e
  obtain ⟨o, ho, hc, hd⟩ : ∃ o, s.heap.get? a = some o ∧ o.cls = .type "list" ∧ o.dict = none := ⟨_, ho, rfl, rfl⟩
  exact getMethod_builtin ⟨o, ho, hc⟩ PySem.F.plainAttrs_list slot ty (fun b q => by cases q; exact ⟨o, ho, hd⟩) h

-- statements
variable {M : Model}
theorem ev_sub {value slice : PySem.Expr} {pos : Pos} {Q : Value → Shared → Prop}
    (h : wpAny M A (eval value env) (fun o s₁ => wpAny M A (eval slice env) (fun i s₂ => wpAny M A (subscriptTail value slice o i) Q E s₂) E s₁) E s) : wpAny M A (eval (.Subscript value slice pos) env) Q E s := Subscript_ h
theorem is_cmp {l r : PySem.Expr} {op : CmpOp} {pos : Pos} {whole : Sem Value} {Q : Bool → Shared → Prop}
    (h : wpAny M A (eval l env) (fun a s₁ => wpAny M A (eval r env) (fun b s₂ => wpAny M A (compareOp op a b) (fun c s₃ => ∃ t, c = .bool t ∧ Q t s₃) E s₂) E s₁) E s)
    (hm : behindInMarks op r = false := by with_unfolding_all rfl) : wpAny M A (isTrue (.Compare l [op] [r] pos) env whole) Q E s :=
  wpAny_isTrue_Compare1 (wpAny_mono h (fun _ _ h₁ => wpAny_mono h₁ (fun _ _ h₂ => wpAny_mono h₂ (fun c s₃ ⟨t, e, q⟩ => by subst e; exact wpAny_truthy_bool q) fun _ _ e => e) fun _ _ e => e) fun _ _ e => e) hm
theorem is_name {x : Str} {np : Pos} {whole : Sem Value} {Q : Bool → Shared → Prop} (h : wpAny M A whole (fun v s₁ => wpAny M A (truthy v) Q E s₁) E s) : wpAny M A (isTrue (.Name x np) env whole) Q E s := wpAny_isTrue_value h
theorem del_sub {o i : PySem.Expr} {p1 pos : Pos} {Q : Flow → Shared → Prop}
    (h : wpAny M A (eval o env) (fun ov s₁ => wpAny M A (eval i env) (fun iv s₂ => wpAny M A (delItem ov iv) (fun _ => Q .next) E s₂) E s₁) E s) : wpAny M A (exec (.Delete [.Subscript o i p1] pos) env) Q E s :=
  wpAny_Delete (wpAny_deleteEach_cons (wpAny_delete_Subscript (wpAny_mono h (fun _ _ h₁ => wpAny_mono h₁ (fun _ _ h₂ => wpAny_mono h₂ (fun _ _ q => wpAny_deleteEach_nil q) fun _ _ e => e) fun _ _ e => e) fun _ _ e => e)))
/-- a statement that is a call answering None -/
theorem ex_none {e : PySem.Expr} {pos : Pos} {Q : Flow → Shared → Prop} (h : wpAny M A (eval e env) (fun v s' => v = .none ∧ Q .next s') E s) (hi : interactive env = false := by rfl) (hs : swapsWith e none pos.line env = pure false := by rfl) :
    wpAny M A (exec (.Expr e pos) env) Q E s :=
  wpAny_Expr (wpAny_mono h (fun v s' ⟨e, q⟩ => by subst e; exact q) fun _ _ e => e) hi hs
end

/-- what the written part says of the picture's class -/
structure MethK (K : Frag) (name : Str) (f : Addr) : Prop where
  find : findIn K (.ref peA) name = some (some (.ref f))
  fn : isFn K (.ref f) = true
  keep : keepIn K (.ref f) = true
structure KA (K : Frag) : Prop where
  pg : plainGet K peA "" = true
  hd : hasDictIn K peA = true
  g : findIn K (.ref peA) "graph" = some none
  n : findIn K (.ref peA) "_node" = some none
  a : findIn K (.ref peA) "_adj" = some none
  s : findIn K (.ref peA) "_succ" = some none
  p : findIn K (.ref peA) "_pred" = some none

section
variable {prog : Program} {w : World} {K : Frag} {base : Heap} {os : Os} {A : Around} {E : Value → Shared → Prop} {fr : Frs} {H : Led} {s : Shared} {env : Env} {a p : Addr} {ρ : Rho} {σ : Sg} {P : Params}

theorem pic_inst (S : St prog w base os fr H s) {dx : Addr} {b : Bool} {es : List DictEntry} {m : Nat} (h1 : H p = some (.raw (instObj peA dx))) (h2 : H dx = some (.raw (dictS b es m))) : InstAt s.heap p (instObj peA dx) peA (some (dictS b es m)) := by
  obtain ⟨o1, ho1, q1⟩ := S.get h1
  obtain ⟨o2, ho2, q2⟩ := S.get h2
  cases (show o1 = _ from q1)
  cases (show o2 = _ from q2)
  exact ⟨ho1, rfl, rfl, ho2⟩

theorem pic_attr {name : Str} {r : Role} {expr : Bool} {Q : Value → Shared → Prop} (S : St prog w base os fr H s) (Z : Sta K base) (F : KA K) (R : Rep P H ρ σ) (hp : ρ p = some .self) (ha : ρ a = some r)
    (hf : findIn K (.ref peA) name = some none)
    (hl : ∀ t g n s p, ρ g = some .g → ρ n = some .node → ρ s = some .succ → ρ p = some .pred → ∃ b, ρ b = some r ∧ getL name (picEs P t g n s p σ.adj) = some (some (.ref b)))
    (h : ∀ s', St prog w base os fr H s' → Q (.ref a) s') : wpAny (model prog w) A (getAttr (.ref p) name expr) Q E s := by
  obtain ⟨dx, t, g, n, sx, px, m, h1, h2, hx, q1, q2, q3, q4⟩ := R.pic hp
  obtain ⟨b, hb, hl⟩ := hl t g n sx px q1 q2 q3 q4
  cases R.inj _ _ _ ha hb
  exact get_value (S.kin Z) (pic_inst S h1 h2) (plainGet_of F.pg).1 (findObj_own F.hd hf rfl hl) rfl (h _ (S.toks _))

theorem pic_succ {expr : Bool} {Q : Value → Shared → Prop} (S : St prog w base os fr H s) (Z : Sta K base) (F : KA K) (R : Rep P H ρ σ) (hp : ρ p = some .self) (ha : ρ a = some .succ)
    (h : ∀ s', St prog w base os fr H s' → Q (.ref a) s') : wpAny (model prog w) A (getAttr (.ref p) "_succ" expr) Q E s :=
  pic_attr S Z F R hp ha F.s (fun t g n s p h1 h2 h3 h4 => ⟨s, h3, by cases σ.adj <;> rfl⟩) h
theorem pic_adj {expr : Bool} {Q : Value → Shared → Prop} (S : St prog w base os fr H s) (Z : Sta K base) (F : KA K) (R : Rep P H ρ σ) (hp : ρ p = some .self) (ha : ρ a = some .succ)
    (h : ∀ s', St prog w base os fr H s' → Q (.ref a) s') : wpAny (model prog w) A (getAttr (.ref p) "_adj" expr) Q E s :=
  pic_attr S Z F R hp ha F.a (fun t g n s p h1 h2 h3 h4 => ⟨s, h3, by cases σ.adj <;> rfl⟩) h
theorem pic_pred {expr : Bool} {Q : Value → Shared → Prop} (S : St prog w base os fr H s) (Z : Sta K base) (F : KA K) (R : Rep P H ρ σ) (hp : ρ p = some .self) (ha : ρ a = some .pred)
    (h : ∀ s', St prog w base os fr H s' → Q (.ref a) s') : wpAny (model prog w) A (getAttr (.ref p) "_pred" expr) Q E s :=
  pic_attr S Z F R hp ha F.p (fun t g n s p h1 h2 h3 h4 => ⟨p, h4, by cases σ.adj <;> rfl⟩) h
theorem pic_node {expr : Bool} {Q : Value → Shared → Prop} (S : St prog w base os fr H s) (Z : Sta K base) (F : KA K) (R : Rep P H ρ σ) (hp : ρ p = some .self) (ha : ρ a = some .node)
    (h : ∀ s', St prog w base os fr H s' → Q (.ref a) s') : wpAny (model prog w) A (getAttr (.ref p) "_node" expr) Q E s :=
  pic_attr S Z F R hp ha F.n (fun t g n s p h1 h2 h3 h4 => ⟨n, h2, by cases σ.adj <;> rfl⟩) h

/-- the method of the picture -/
theorem md_pic {name : Str} {f : Addr} {pl : Sem Bool} {Q : Value × List Value → Shared → Prop} (S : St prog w base os fr H s) (Z : Sta K base) (F : KA K) (hm : MethK K name f) (R : Rep P H ρ σ) (hp : ρ p = some .self)
    (hl : ∀ t g n s p, getL name (picEs P t g n s p σ.adj) = some none) (h : Q (.ref f, [.ref p]) s) : wpAny (model prog w) A (getMethod (.ref p) name pl) Q E s := by
  obtain ⟨dx, t, g, n, sx, px, m, h1, h2, _⟩ := R.pic hp
  exact method_fn (S.kin Z) (pic_inst S h1 h2) (plainGet_of F.pg).1 (plainGet_of F.pg).2 hm.find (beq_iff_eq.mp hm.fn) (by show (getL name (picEs P t g n sx px σ.adj)).map _ = _; rw [hl]; rfl) h
end
end Mine

end

section
open PySem PySem.W PyProof.Rows PySem.Calls
set_option Elab.async false
set_option maxRecDepth 100000
set_option linter.unusedVariables false
namespace Mine

section
variable {prog : Program} {w : World} {K : Frag} {base : Heap} {os : Os} {A : Around} {E : Value → Shared → Prop} {fr : Frs} {H : Led} {s : Shared} {a d : Addr}

theorem wp_of_peekA' {α : Type} {K : Frag} {M : Model} {A : Around} {E : Value → Shared → Prop} {Q : α → Shared → Prop} {s : Shared} {o : Obj} (X : K.In s.heap) :
    ∀ (t : Sem α) (g : Addr → Sem α), peekA K ⟨M.prog, M.w.params⟩ t = some (o, g) → wpAny M A (g s.heap.objs.size) Q E { s with heap := s.heap.push o } → wpAny M A t Q E s := by
  intro t
  induction t with
  | rule _ k ih => intro g e q Γ p hΓ; exact ih () g e q Γ p hΓ
  | point _ k ih => intro g e q Γ p hΓ; exact ih () g e q Γ p hΓ
  | ask k ih => intro g e q Γ p hΓ; exact ih _ g e q Γ p hΓ
  | load a _ k ih =>
    intro g e q Γ p hΓ
    simp only [peekA] at e
    split at e
    · rename_i ob ho; exact ⟨ob, X _ _ ho, ih ob g e q Γ p hΓ⟩
    · cases e
  | alloc ob k _ =>
    intro g e q
    have e : some (ob, k) = some (o, g) := e
    obtain ⟨e1, e2⟩ := Prod.mk.inj (Option.some.inj e)
    subst e1
    subst e2
    show wpAny M A (alloc ob >>= k) Q E s
    exact wpAny_bind (wpAny_alloc q)
  | _ => intro g e; cases e

theorem St.as {d d' : Desc} (S : St prog w base os fr H s) (e : H a = some d) (h : ∀ o, d.Of prog w o → d'.Of prog w o) : St prog w base os fr (upd H a d') s := by
  obtain ⟨o, ho, q⟩ := S.get e
  exact ⟨S.wd.set (.refl ..) e ho (h o q), S.bare, S.os⟩

theorem ns_set {es : List DictEntry} {n : Nat} {k : Str} {v : Value} {Q : Unit → Shared → Prop} (S : St prog w base os fr H s) (e : H d = some (.raw (dictOf es n)))
    (hs : ∀ e ∈ es, e.key.isStr k = false) (hr : ∀ e ∈ es, e.refKey = false)
    (h : ∀ s', s'.toks = s.toks + 1 → St prog w base os fr (upd H d (.raw (dictOf (es ++ [⟨PyData.keyHash w.params k, .str k s.toks, v⟩]) (n + 1)))) s' → Q () s') :
    wpAny (model prog w) A (nsSet d k v) Q E s := by
  have e1 : es.any (·.key.isStr k) = false := by
    cases q : es.any (·.key.isStr k) with
    | false => rfl
    | true => obtain ⟨e, he, z⟩ := List.any_eq_true.mp q; rw [hs e he] at z; cases z
  have e2 : es.any (·.refKey) = false := by
    cases q : es.any (·.refKey) with
    | false => rfl
    | true => obtain ⟨e, he, z⟩ := List.any_eq_true.mp q; rw [hr e he] at z; cases z
  have e3 : Obj.putName k (PyData.keyHash w.params k) (.str k s.toks) v (dictOf es n) = dictOf (es ++ [⟨PyData.keyHash w.params k, .str k s.toks, v⟩]) (n + 1) := by
    rw [putName_dict, putL_new hs]
    show dictOf _ (if es.any (·.key.isStr k) then n else n + 1) = _
    rw [e1, if_neg Bool.false_ne_true]
  obtain ⟨o, D, q⟩ := S.get e
  cases (show o = _ from q)
  have c : aRefKeyMayBeTheName k es.toArray = false := by
    rw [aRefKeyMayBeTheName_at, ← Array.any_toList, ← Array.any_toList]
    show (!es.any (·.key.isStr k) && es.any (·.refKey)) = false
    rw [e2, Bool.and_false]
  unfold nsSet
  refine wpAny_bind (wpAny_bind (wpAny_askSetting (wpAny_pure (wpAny_bind (wpAny_mkText (wpAny_bind (wpAny_loadPart D ?_)))))))
  dsimp only
  rw [c]
  refine wpAny_updatePart D (h _ rfl ⟨S.wd.set (Heap.SameBut.update ..) e (Heap.get?_update_self _ D (congrArg Obj.isFreed e3 : Obj.isFreed (Obj.putName k (PyData.keyHash w.params k) (.str k s.toks) v (dictOf es n)) = false)) e3, S.bare, S.os⟩)

theorem fill {Q : PUnit → Shared → Prop} : ∀ (ex : List (Str × Value)) (H : Led) (s : Shared) (es : List DictEntry) (n : Nat), St prog w base os fr H s → H d = some (.raw (dictOf es n)) →
    (∀ e ∈ es, ∀ x ∈ ex, e.key.isStr x.1 = false) → (∀ e ∈ es, e.refKey = false) → (ex.map (·.1)).Nodup →
    (∀ s', St prog w base os fr (upd H d (.raw (dictOf (es ++ kwEs w.params s.toks ex) (n + ex.length)))) s' → Q ⟨⟩ s') →
    wpAny (model prog w) A (forIn ex PUnit.unit fun x _ => (nsSet d x.1 x.2 >>= fun _ => pure (ForInStep.yield PUnit.unit))) Q E s
  | [], H, s, es, n, S, e, _, _, _, h => by
    rw [List.forIn_nil]
    refine wpAny_pure (h s ?_)
    have : upd H d (.raw (dictOf (es ++ kwEs w.params s.toks []) (n + ([] : List (Str × Value)).length))) = H := by
      funext b
      show (if b = d then some (Desc.raw (dictOf (es ++ []) n)) else H b) = H b
      split
      · rename_i q; rw [q, e, List.append_nil]
      · rfl
    rw [this]; exact S
  | x :: r, H, s, es, n, S, e, hs, hr, hn, h => by
    obtain ⟨hn1, hn2⟩ := List.nodup_cons.mp (show (x.1 :: r.map (·.1)).Nodup from hn)
    rw [List.forIn_cons]
    refine wpAny_bind (wpAny_bind (ns_set S e (fun e he => hs e he x (.head _)) hr fun s' ht S' => wpAny_pure ?_))
    show wpAny (model prog w) A (forIn r PUnit.unit fun x _ => (nsSet d x.1 x.2 >>= fun _ => pure (ForInStep.yield PUnit.unit))) Q E s'
    refine fill r _ s' _ _ S' (upd_self ..) (fun e he y hy => ?_) (fun e he => ?_) hn2 fun s'' S'' => h s'' ?_
    · rcases List.mem_append.mp he with he | he
      · exact hs e he y (.tail _ hy)
      · obtain rfl := List.mem_singleton.mp he
        show (x.1 == y.1) = false
        exact beq_eq_false_iff_ne.mpr fun q => hn1 (by rw [q]; exact List.mem_map_of_mem hy)
    · rcases List.mem_append.mp he with he | he
      · exact hr e he
      · obtain rfl := List.mem_singleton.mp he
        rfl
    · have t2 : n + 1 + r.length = n + (r.length + 1) := by omega
      rw [ht, t2, List.append_assoc] at S''
      have u : ∀ d₁ d₂, upd (upd H d d₁) d d₂ = upd H d d₂ := fun d₁ d₂ => by funext b; simp only [upd]; split <;> rfl
      rw [u] at S''
      exact S''

/-- the names that no parameter takes go into a new dict -/
theorem bind_attr {fd : FuncData} {args : List Value} {kw ex front : List (Str × Value)} {name : Str} {Q : List (Str × Value) → Shared → Prop} {g : Addr → Sem (List (Str × Value))} (S : St prog w base os fr H s) (Z : Sta K base)
    (hp : peekA K ⟨prog, w.params⟩ (bindArgs fd ⟨args, kw⟩) = some (dictOf [] 0, g)) (hg : ∀ d, g d = (forIn ex PUnit.unit fun x _ => (nsSet d x.1 x.2 >>= fun _ => pure (ForInStep.yield PUnit.unit))) >>= fun _ => pure (front ++ [(name, .ref d)]))
    (hn : (ex.map (·.1)).Nodup) (h : ∀ d s', H d = none → St prog w base os fr (upd H d (.ds ex)) s' → Q (front ++ [(name, .ref d)]) s') : wpAny (model prog w) A (bindArgs fd ⟨args, kw⟩) Q E s := by
  refine wp_of_peekA' (S.kin Z) _ g hp ?_
  rw [hg]
  have S' : St prog w base os fr (upd H s.heap.objs.size (.raw (dictOf [] 0))) { s with heap := s.heap.push (dictOf [] 0) } := S.heap (t := s.toks) (S.wd.push rfl rfl)
  refine wpAny_bind (fill ex _ _ [] 0 S' (upd_self ..) (fun _ h => nomatch h) (fun _ h => nomatch h) hn fun s' S'' => wpAny_pure (h _ s' S.wd.freshH ?_))
  have S₃ := S''.as (a := s.heap.objs.size) (d' := .ds ex) (upd_self ..) (fun o q => by cases (show o = _ from q); exact kp_isDict _ _ hn)
  have u : ∀ d₁ d₂ d₃, upd (upd (upd H s.heap.objs.size d₁) s.heap.objs.size d₂) s.heap.objs.size d₃ = upd H s.heap.objs.size d₃ := fun d₁ d₂ d₃ => by funext b; simp only [upd]; split <;> rfl
  rw [u] at S₃
  exact S₃

theorem bind_names {sc : Scope} (C : ScOk sc) {binds : List (Str × Value)} (hn : binds.map (·.1) = (sc.names.map (·.1)).take binds.length) (hl : (sc.names.take binds.length).all (fun p => match p.2 with | .local => true | _ => false) = true) :
    ∀ x ∈ binds, sc.names.lookup x.1 = some .local := fun x hx => by
  obtain ⟨i, hi⟩ := List.mem_iff_getElem?.mp hx
  have hi' : (sc.names.map (·.1))[i]? = some x.1 := by
    have e : (binds.map (·.1))[i]? = some x.1 := by rw [List.getElem?_map, hi]; rfl
    rw [hn, List.getElem?_take] at e
    split at e
    · exact e
    · cases e
  have hlt : i < binds.length := (List.getElem?_eq_some_iff.mp hi).1
  rw [List.getElem?_map] at hi'
  cases q : sc.names[i]? with
  | none => rw [q] at hi'; cases hi'
  | some p =>
    obtain ⟨y, k⟩ := p
    rw [q] at hi'
    simp only [Option.map_some, Option.some.injEq] at hi'
    subst hi'
    have hm : (x.1, k) ∈ sc.names.take binds.length := List.mem_of_getElem? (i := i) (by rw [List.getElem?_take, if_pos hlt]; exact q)
    have := List.all_eq_true.mp hl _ hm
    have hk : k = .local := by
      cases k <;> first | rfl | (simp at this)
    subst hk
    exact lookup_at C.nd q

theorem call_attrC {D : Def} {args : List Value} {kw ex front : List (Str × Value)} {name : Str} {n : Nat} {Q : Value → Shared → Prop} (S : St prog w base os fr H s) (Z : Sta K base) (hroom : A.depth < recursionLimit) (hD : D.In K)
    (hcell : ∀ x ∈ D.scope.names, x.2 ≠ .cell) (C : ScOk D.scope) (hco : D.scope.isCoroutine = false) (hgen : D.scope.isGenerator = false)
    (hb : ∀ doc pm an ct, ∃ g, peekA K ⟨prog, w.params⟩ (bindArgs (fnX D.name D.qual D.params D.body D.scope D.cl D.dV D.kV doc pm an D.cdv ct) ⟨args, kw⟩) = some (dictOf [] 0, g) ∧
      ∀ d, g d = (forIn ex PUnit.unit fun x _ => (nsSet d x.1 x.2 >>= fun _ => pure (ForInStep.yield PUnit.unit))) >>= fun _ => pure (front ++ [(name, .ref d)]))
    (hx : (ex.map (·.1)).Nodup) (hn : front.map (·.1) ++ [name] = (D.scope.names.map (·.1)).take (front.length + 1)) (hl : (D.scope.names.take (front.length + 1)).all (fun p => match p.2 with | .local => true | _ => false) = true)
    (h : ∀ L d s₂, H d = none → St prog w base os ((D.env L, fm D.scope.names (front.map (fun p => some p.2) ++ some (.ref d) :: List.replicate n none)) :: fr) (upd H d (.ds ex)) s₂ → BodyOk prog w A D L D.body Q E s₂) :
    CC (model prog w) A (.ref D.addr) args kw Q E s := by
  refine call_bindC S Z hroom hD hcell C hco hgen fun doc pm an ct => ?_
  obtain ⟨g, hp, hg⟩ := hb doc pm an ct
  refine bind_attr S Z hp hg hx fun d s' hd S' => ⟨_, n, S', ?_, ?_, fun L s₂ S₂ => h L d s₂ hd ?_⟩
  · rw [List.length_append, List.map_append]; exact hn
  · exact bind_names C (by rw [List.length_append, List.map_append]; exact hn) (by rw [List.length_append]; exact hl)
  · rw [List.map_append, List.append_assoc] at S₂; exact S₂
theorem call_attr {D : Def} {args : List Value} {kw ex front : List (Str × Value)} {name : Str} {n : Nat} {Q : Value → Shared → Prop} (S : St prog w base os fr H s) (Z : Sta K base) (hroom : A.depth < recursionLimit) (hD : D.In K)
    (hcell : ∀ x ∈ D.scope.names, x.2 ≠ .cell) (C : ScOk D.scope) (hco : D.scope.isCoroutine = false) (hgen : D.scope.isGenerator = false)
    (hb : ∀ doc pm an ct, ∃ g, peekA K ⟨prog, w.params⟩ (bindArgs (fnX D.name D.qual D.params D.body D.scope D.cl D.dV D.kV doc pm an D.cdv ct) ⟨args, kw⟩) = some (dictOf [] 0, g) ∧
      ∀ d, g d = (forIn ex PUnit.unit fun x _ => (nsSet d x.1 x.2 >>= fun _ => pure (ForInStep.yield PUnit.unit))) >>= fun _ => pure (front ++ [(name, .ref d)]))
    (hx : (ex.map (·.1)).Nodup) (hn : front.map (·.1) ++ [name] = (D.scope.names.map (·.1)).take (front.length + 1)) (hl : (D.scope.names.take (front.length + 1)).all (fun p => match p.2 with | .local => true | _ => false) = true)
    (h : ∀ L d s₂, H d = none → St prog w base os ((D.env L, fm D.scope.names (front.map (fun p => some p.2) ++ some (.ref d) :: List.replicate n none)) :: fr) (upd H d (.ds ex)) s₂ → BodyOk prog w A D L D.body Q E s₂) :
    wpAny (model prog w) A (call (.ref D.addr) args kw) Q E s := wpAny_call (call_attrC S Z hroom hD hcell C hco hgen hb hx hn hl h)
end
end Mine

end

section
open PySem PySem.W PyProof.Rows PySem.Calls
set_option Elab.async false
set_option maxRecDepth 100000
set_option linter.unusedVariables false
namespace Mine

/-- the expression answers, and nothing of the ledger changes -/
def Pu (prog : Program) (w : World) (base : Heap) (os : Os) (fr : Frs) (H : Led) (env : Env) (vs : List (Option Value)) (e : PySem.Expr) (V : Value → Prop) : Prop :=
  ∀ (A : Around) (E : Value → Shared → Prop) (Q : Value → Shared → Prop) (s : Shared), St prog w base os ((env, fm env.scope.names vs) :: fr) H s →
    (∀ v s', V v → St prog w base os ((env, fm env.scope.names vs) :: fr) H s' → Q v s') → wpAny (model prog w) A (eval e env) Q E s
/-- the test answers -/
def Tu (prog : Program) (w : World) (base : Heap) (os : Os) (fr : Frs) (H : Led) (env : Env) (vs : List (Option Value)) (e : PySem.Expr) (b : Bool) : Prop :=
  ∀ (A : Around) (E : Value → Shared → Prop) (Q : Bool → Shared → Prop) (s : Shared), St prog w base os ((env, fm env.scope.names vs) :: fr) H s →
    (∀ s', St prog w base os ((env, fm env.scope.names vs) :: fr) H s' → Q b s') → wpAny (model prog w) A (isTrue e env (eval e env)) Q E s

def IsI (k : Int) (v : Value) : Prop := ∃ t, v = .int k t
def IsS (k : Str) (v : Value) : Prop := ∃ t, v = .str k t

section
variable {prog : Program} {w : World} {K : Frag} {base : Heap} {os : Os} {A : Around} {E : Value → Shared → Prop} {fr : Frs} {H : Led} {s : Shared} {env : Env} {vs : List (Option Value)} {a p : Addr} {ρ : Rho} {σ : Sg} {P : Params}
  {V V' : Value → Prop} {e e₁ e₂ : PySem.Expr} {k k' : Int} {pos np : Pos} {b b' : Bool}

theorem Pu.mono (h : Pu prog w base os fr H env vs e V) (hv : ∀ v, V v → V' v) : Pu prog w base os fr H env vs e V' := fun A E Q s S q => h A E Q s S fun v s' x => q v s' (hv v x)
theorem pu_v {x : Str} {v : Value} (i : Nat) (C : ScOk env.scope) (hi : env.scope.names[i]? = some (x, .local)) (hv : vs[i]? = some (some v)) : Pu prog w base os fr H env vs (.Name x pos) (· = v) :=
  fun A E Q s S q => nm_local S C hi hv (q v s rfl S)
theorem pu_i {x : Str} {t : Tok} (i : Nat) (C : ScOk env.scope) (hi : env.scope.names[i]? = some (x, .local)) (hv : vs[i]? = some (some (.int k t))) : Pu prog w base os fr H env vs (.Name x pos) (IsI k) :=
  fun A E Q s S q => nm_local S C hi hv (q _ s ⟨t, rfl⟩ S)
theorem pu_g {x : Str} {v : Value} (i : Nat) (Z : Sta K base) (C : ScOk env.scope) (hg : env.globals = mainGlobals) (hi : env.scope.names[i]? = some (x, .globalImplicit)) (hv : nsIn K mainGlobals x = some (some v)) :
    Pu prog w base os fr H env vs (.Name x pos) (· = v) := fun A E Q s S q => nm_global S Z C hg hi hv (q v s rfl S)
theorem pu_b {x : Str} {v : Value} (i : Nat) (Z : Sta K base) (C : ScOk env.scope) (hg : env.globals = mainGlobals) (hb : env.builtins = builtinsNs) (hi : env.scope.names[i]? = some (x, .globalImplicit))
    (hv : nsIn K mainGlobals x = some none ∧ bootBuiltins x = some v ∧ x ≠ "__name__") : Pu prog w base os fr H env vs (.Name x pos) (· = v) := fun A E Q s S q => nm_builtin S Z C hg hb hi hv (q v s rfl S)
theorem pu_int {c : Nat} : Pu prog w base os fr H env vs (.Constant (.int k) c pos) (IsI k) := fun A E Q s S q => wpAny_Constant_int (q _ _ ⟨_, rfl⟩ (S.toks _))
theorem pu_str {c : Nat} {x : Str} : Pu prog w base os fr H env vs (.Constant (.str x) c pos) (IsS x) := fun A E Q s S q => wpAny_Constant_str (q _ _ ⟨_, rfl⟩ (S.toks _))
theorem pu_none {c : Nat} : Pu prog w base os fr H env vs (.Constant .none c pos) (· = .none) := fun A E Q s S q => wpAny_Constant_none (q _ _ rfl S)
theorem pu_bool {c : Nat} : Pu prog w base os fr H env vs (.Constant (.bool b) c pos) (· = .bool b) := fun A E Q s S q => wpAny_Constant_bool (q _ _ rfl S)
/-- v[k], a dict with ints as keys -/
theorem pu_sub {kvs : List (Int × Value)} {ep : Option Nat} {v : Value} (h1 : Pu prog w base os fr H env vs e₁ (· = .ref a)) (h2 : Pu prog w base os fr H env vs e₂ (IsI k)) (e : H a = some (.di kvs ep)) (hv : valueAt kvs k = some v)
    (hs : ∀ t, subscripted e₂ false (.ref a) (.int k t) = operate [.ref a, .int k t] (getItem (.ref a) (.int k t)) := by intro _; with_unfolding_all rfl) : Pu prog w base os fr H env vs (.Subscript e₁ e₂ pos) (· = v) :=
  fun A E Q s S q => ev_sub (h1 _ _ _ _ S fun _ s₁ x S₁ => by subst x; exact h2 _ _ _ _ S₁ fun _ s₂ ⟨t, x⟩ S₂ => by subst x; exact di_sub S₂ e hv (fun s₃ S₃ => q _ _ rfl S₃) (hs t))
/-- v["cw"] -/
theorem pu_subs {kvs : List (Str × Value)} {x : Str} {v : Value} (h1 : Pu prog w base os fr H env vs e₁ (· = .ref a)) (h2 : Pu prog w base os fr H env vs e₂ (IsS x)) (e : H a = some (.ds kvs)) (hv : valueAt kvs x = some v)
    (hs : ∀ t, subscripted e₂ false (.ref a) (.str x t) = operate [.ref a, .str x t] (getItem (.ref a) (.str x t)) := by intro _; with_unfolding_all rfl) : Pu prog w base os fr H env vs (.Subscript e₁ e₂ pos) (· = v) :=
  fun A E Q s S q => ev_sub (h1 _ _ _ _ S fun _ s₁ x S₁ => by subst x; exact h2 _ _ _ _ S₁ fun _ s₂ ⟨t, x⟩ S₂ => by subst x; exact ds_sub S₂ e hv (fun s₃ S₃ => q _ _ rfl S₃) (hs t))
theorem pu_attr {n attr : Str} (h1 : Pu prog w base os fr H env vs (.Name n np) (· = .ref p))
    (h : ∀ A E Q s, St prog w base os ((env, fm env.scope.names vs) :: fr) H s → (∀ v s', V v → St prog w base os ((env, fm env.scope.names vs) :: fr) H s' → Q v s') → wpAny (model prog w) A (getAttr (.ref p) attr true) Q E s) :
    Pu prog w base os fr H env vs (.Attribute (.Name n np) attr pos) V := fun A E Q s S q => Attribute_name (h1 _ _ _ _ S fun v s₁ x S₁ => by subst x; exact h A E Q s₁ S₁ q)
theorem pu_succ {n : Str} (h1 : Pu prog w base os fr H env vs (.Name n np) (· = .ref p)) (Z : Sta K base) (F : KA K) (R : Rep P H ρ σ) (hp : ρ p = some .self) (ha : ρ a = some .succ) : Pu prog w base os fr H env vs (.Attribute (.Name n np) "_succ" pos) (· = .ref a) :=
  pu_attr h1 fun A E Q s S q => pic_succ S Z F R hp ha fun s' S' => q _ _ rfl S'
theorem pu_pred {n : Str} (h1 : Pu prog w base os fr H env vs (.Name n np) (· = .ref p)) (Z : Sta K base) (F : KA K) (R : Rep P H ρ σ) (hp : ρ p = some .self) (ha : ρ a = some .pred) : Pu prog w base os fr H env vs (.Attribute (.Name n np) "_pred" pos) (· = .ref a) :=
  pu_attr h1 fun A E Q s S q => pic_pred S Z F R hp ha fun s' S' => q _ _ rfl S'
theorem pu_node {n : Str} (h1 : Pu prog w base os fr H env vs (.Name n np) (· = .ref p)) (Z : Sta K base) (F : KA K) (R : Rep P H ρ σ) (hp : ρ p = some .self) (ha : ρ a = some .node) : Pu prog w base os fr H env vs (.Attribute (.Name n np) "_node" pos) (· = .ref a) :=
  pu_attr h1 fun A E Q s S q => pic_node S Z F R hp ha fun s' S' => q _ _ rfl S'
theorem pu_adj {n : Str} (h1 : Pu prog w base os fr H env vs (.Name n np) (· = .ref p)) (Z : Sta K base) (F : KA K) (R : Rep P H ρ σ) (hp : ρ p = some .self) (ha : ρ a = some .succ) : Pu prog w base os fr H env vs (.Attribute (.Name n np) "_adj" pos) (· = .ref a) :=
  pu_attr h1 fun A E Q s S q => pic_adj S Z F R hp ha fun s' S' => q _ _ rfl S'

/-- a comparison, as a value -/
theorem pu_cmp {op : CmpOp} (h1 : Pu prog w base os fr H env vs e₁ V) (h2 : Pu prog w base os fr H env vs e₂ V')
    (h : ∀ x y, V x → V' y → ∀ A E Q s, St prog w base os ((env, fm env.scope.names vs) :: fr) H s → (∀ s', St prog w base os ((env, fm env.scope.names vs) :: fr) H s' → Q (.bool b) s') → wpAny (model prog w) A (compareOp op x y) Q E s)
    (hm : behindInMarks op e₂ = false := by with_unfolding_all rfl) : Pu prog w base os fr H env vs (.Compare e₁ [op] [e₂] pos) (· = .bool b) :=
  fun A E Q s S q => wpAny_Compare1 (h1 _ _ _ _ S fun x s₁ hx S₁ => h2 _ _ _ _ S₁ fun y s₂ hy S₂ => h x y hx hy _ _ _ _ S₂ fun s₃ S₃ => q _ _ rfl S₃) hm
theorem tu_cmp {op : CmpOp} (h1 : Pu prog w base os fr H env vs e₁ V) (h2 : Pu prog w base os fr H env vs e₂ V')
    (h : ∀ x y, V x → V' y → ∀ A E Q s, St prog w base os ((env, fm env.scope.names vs) :: fr) H s → (∀ s', St prog w base os ((env, fm env.scope.names vs) :: fr) H s' → Q (.bool b) s') → wpAny (model prog w) A (compareOp op x y) Q E s)
    (hm : behindInMarks op e₂ = false := by with_unfolding_all rfl) : Tu prog w base os fr H env vs (.Compare e₁ [op] [e₂] pos) b :=
  fun A E Q s S q => is_cmp (h1 _ _ _ _ S fun x s₁ hx S₁ => h2 _ _ _ _ S₁ fun y s₂ hy S₂ => h x y hx hy _ _ _ _ S₂ fun s₃ S₃ => ⟨b, rfl, q _ S₃⟩) hm
theorem tu_in {kvs : List (Int × Value)} {ep : Option Nat} (h1 : Pu prog w base os fr H env vs e₁ (IsI k)) (h2 : Pu prog w base os fr H env vs e₂ (· = .ref a)) (e : H a = some (.di kvs ep)) (hb : (valueAt kvs k).isSome = b)
    (hm : behindInMarks .In e₂ = false := by with_unfolding_all rfl) : Tu prog w base os fr H env vs (.Compare e₁ [.In] [e₂] pos) b :=
  tu_cmp h1 h2 (fun _ _ ⟨t, x⟩ y A E Q s S q => by subst x; subst y; exact di_in S e fun s' S' => by rw [hb]; exact q _ S') hm
theorem tu_notin {kvs : List (Int × Value)} {ep : Option Nat} (h1 : Pu prog w base os fr H env vs e₁ (IsI k)) (h2 : Pu prog w base os fr H env vs e₂ (· = .ref a)) (e : H a = some (.di kvs ep)) (hb : (!(valueAt kvs k).isSome) = b)
    (hm : behindInMarks .NotIn e₂ = false := by with_unfolding_all rfl) : Tu prog w base os fr H env vs (.Compare e₁ [.NotIn] [e₂] pos) b :=
  tu_cmp h1 h2 (fun _ _ ⟨t, x⟩ y A E Q s S q => by subst x; subst y; exact di_notin S e fun s' S' => by rw [hb]; exact q _ S') hm
theorem cmp_ne (x y : Value) (hx : IsI k x) (hy : IsI k' y) (A : Around) (E : Value → Shared → Prop) (Q : Value → Shared → Prop) (s : Shared) (S : St prog w base os ((env, fm env.scope.names vs) :: fr) H s)
    (q : ∀ s', St prog w base os ((env, fm env.scope.names vs) :: fr) H s' → Q (.bool (k != k')) s') : wpAny (model prog w) A (compareOp .NotEq x y) Q E s := by
  obtain ⟨t, rfl⟩ := hx; obtain ⟨u, rfl⟩ := hy
  exact PyProof.Rows.ne_int (q s S)
theorem cmp_eq (x y : Value) (hx : IsI k x) (hy : IsI k' y) (A : Around) (E : Value → Shared → Prop) (Q : Value → Shared → Prop) (s : Shared) (S : St prog w base os ((env, fm env.scope.names vs) :: fr) H s)
    (q : ∀ s', St prog w base os ((env, fm env.scope.names vs) :: fr) H s' → Q (.bool (k == k')) s') : wpAny (model prog w) A (compareOp .Eq x y) Q E s := by
  obtain ⟨t, rfl⟩ := hx; obtain ⟨u, rfl⟩ := hy
  exact PyProof.Rows.eq_int (q s S)
theorem cmp_is (v x y : Value) (hx : x = v) (hy : y = .none) (A : Around) (E : Value → Shared → Prop) (Q : Value → Shared → Prop) (s : Shared) (S : St prog w base os ((env, fm env.scope.names vs) :: fr) H s)
    (q : ∀ s', St prog w base os ((env, fm env.scope.names vs) :: fr) H s' → Q (.bool (v == .none)) s') : wpAny (model prog w) A (compareOp .Is x y) Q E s := by
  subst hx; subst hy; exact is_none (q s S)
theorem cmp_isnot (v x y : Value) (hx : x = v) (hy : y = .none) (A : Around) (E : Value → Shared → Prop) (Q : Value → Shared → Prop) (s : Shared) (S : St prog w base os ((env, fm env.scope.names vs) :: fr) H s)
    (q : ∀ s', St prog w base os ((env, fm env.scope.names vs) :: fr) H s' → Q (.bool (!(v == .none))) s') : wpAny (model prog w) A (compareOp .IsNot x y) Q E s := by
  subst hx; subst hy; exact isNot_none (q s S)
theorem tu_not (h : Tu prog w base os fr H env vs e b) : Tu prog w base os fr H env vs (.UnaryOp .Not e pos) (!b) := fun A E Q s S q => wpAny_isTrue_Not (h _ _ _ _ S q)
theorem tu_and (h1 : Tu prog w base os fr H env vs e₁ b) (h2 : b = true → Tu prog w base os fr H env vs e₂ b') : Tu prog w base os fr H env vs (.BoolOp .And [e₁, e₂] pos) (b && b') := fun A E Q s S q =>
  wpAny_isTrue_BoolOp (wpAny_allTrue_And_cons (h1 _ _ _ _ S fun s₁ S₁ => by
    cases b with
    | false => exact q _ S₁
    | true => exact wpAny_allTrue_And_cons (h2 rfl _ _ _ _ S₁ fun s₂ S₂ => by
        cases b' with
        | false => exact q _ S₂
        | true => exact wpAny_allTrue_And_nil (q _ S₂))))
theorem tu_or (h1 : Tu prog w base os fr H env vs e₁ b) (h2 : b = false → Tu prog w base os fr H env vs e₂ b') : Tu prog w base os fr H env vs (.BoolOp .Or [e₁, e₂] pos) (b || b') := fun A E Q s S q =>
  wpAny_isTrue_BoolOp (wpAny_allTrue_Or_cons (h1 _ _ _ _ S fun s₁ S₁ => by
    cases b with
    | true => exact q _ S₁
    | false => exact wpAny_allTrue_Or_cons (h2 rfl _ _ _ _ S₁ fun s₂ S₂ => by
        cases b' with
        | true => exact q _ S₂
        | false => exact wpAny_allTrue_Or_nil (q _ S₂))))
/-- truth of what an expression answers -/
theorem tu_val {v : Value} (h : Pu prog w base os fr H env vs e (· = v)) (ht : ∀ A E Q s, St prog w base os ((env, fm env.scope.names vs) :: fr) H s → (∀ s', St prog w base os ((env, fm env.scope.names vs) :: fr) H s' → Q b s') → wpAny (model prog w) A (truthy v) Q E s)
    (he : ∀ whole, isTrue e env whole = (do let v ← whole; standAt e.pos; holding [v] (truthy v)) := by intro _; rfl) : Tu prog w base os fr H env vs e b := fun A E Q s S q =>
  wpAny_isTrue_value (h _ _ _ _ S fun v' s₁ x S₁ => by subst x; exact ht _ _ _ _ S₁ q) (he _)
theorem tr_bool (A : Around) (E : Value → Shared → Prop) (Q : Bool → Shared → Prop) (s : Shared) (S : St prog w base os ((env, fm env.scope.names vs) :: fr) H s)
    (q : ∀ s', St prog w base os ((env, fm env.scope.names vs) :: fr) H s' → Q b s') : wpAny (model prog w) A (truthy (.bool b)) Q E s := wpAny_truthy_bool (q _ S)
theorem tr_none (A : Around) (E : Value → Shared → Prop) (Q : Bool → Shared → Prop) (s : Shared) (S : St prog w base os ((env, fm env.scope.names vs) :: fr) H s)
    (q : ∀ s', St prog w base os ((env, fm env.scope.names vs) :: fr) H s' → Q false s') : wpAny (model prog w) A (truthy .none) Q E s := fun _ _ _ => q _ S
theorem tr_di {kvs : List (Int × Value)} {ep : Option Nat} (e : H a = some (.di kvs ep)) (hz : kvs.length ≤ 1000) (A : Around) (E : Value → Shared → Prop) (Q : Bool → Shared → Prop) (s : Shared) (S : St prog w base os ((env, fm env.scope.names vs) :: fr) H s)
    (q : ∀ s', St prog w base os ((env, fm env.scope.names vs) :: fr) H s' → Q (!kvs.isEmpty) s') : wpAny (model prog w) A (truthy (.ref a)) Q E s := di_truth S e hz fun s' S' => q s' S'

-- statements
variable {Q : Flow → Shared → Prop} {rest : List Stmt}
theorem x_as {x : Str} (i : Nat) (S : St prog w base os ((env, fm env.scope.names vs) :: fr) H s) (C : ScOk env.scope) (hi : env.scope.names[i]? = some (x, .local)) (h : Pu prog w base os fr H env vs e V) (hl : i < vs.length)
    (k : ∀ v s', V v → St prog w base os ((env, fm env.scope.names (vs.set i (some v))) :: fr) H s' → wpAny (model prog w) A (execs rest env) Q E s')
    (hs : swapsWith e (some (.Name x np)) pos.line env = pure false := by rfl) : wpAny (model prog w) A (execs (.Assign [.Name x np] e pos :: rest) env) Q E s :=
  wpAny_execs_cons (as_name C hi hs (h _ _ _ _ S fun v s₁ hv S₁ => ⟨fr, H, vs, _, S₁, rfl, hl, fun s₂ S₂ => k v s₂ hv S₂⟩))
theorem x_ret (S : St prog w base os ((env, fm env.scope.names vs) :: fr) H s) (h : Pu prog w base os fr H env vs e V) (k : ∀ v s', V v → St prog w base os ((env, fm env.scope.names vs) :: fr) H s' → Q (.ret v) s') :
    wpAny (model prog w) A (execs (.Return (some e) pos :: rest) env) Q E s := wpAny_execs_cons (wpAny_Return_some (h _ _ _ _ S fun v s' hv S' => k v s' hv S'))
theorem x_if {test : PySem.Expr} {body orelse : List Stmt} (S : St prog w base os ((env, fm env.scope.names vs) :: fr) H s) (h : Tu prog w base os fr H env vs test b)
    (k : ∀ s', St prog w base os ((env, fm env.scope.names vs) :: fr) H s' → wpAny (model prog w) A (execs (if b then body else orelse) env) (fun f s' => match f with | .next => wpAny (model prog w) A (execs rest env) Q E s' | f => Q f s') E s') :
    wpAny (model prog w) A (execs (.If test body orelse pos :: rest) env) Q E s :=
  wpAny_execs_cons (wpAny_If (h _ _ _ _ S fun s₁ S₁ => by have := k s₁ S₁; cases b <;> exact this))
theorem x_nil {M : Model} (h : Q .next s) : wpAny M A (execs [] env) Q E s := wpAny_execs_nil h
/-- d[k] = v -/
theorem x_set {kvs : List (Int × Value)} {ep : Option Nat} {e₃ : PySem.Expr} {v : Value} (S : St prog w base os ((env, fm env.scope.names vs) :: fr) H s) (h0 : Pu prog w base os fr H env vs e₃ (· = v)) (h1 : Pu prog w base os fr H env vs e₁ (· = .ref a)) (h2 : Pu prog w base os fr H env vs e₂ (IsI k))
    (e : H a = some (.di kvs ep)) (hz : kvs.length ≤ 1000) (q : ∀ s', St prog w base os ((env, fm env.scope.names vs) :: fr) (upd H a (.di (stored kvs k v) none)) s' → wpAny (model prog w) A (execs rest env) Q E s')
    (hs : swapsWith e₃ (some (.Subscript e₁ e₂ np)) pos.line env = pure false := by rfl) : wpAny (model prog w) A (execs (.Assign [.Subscript e₁ e₂ np] e₃ pos :: rest) env) Q E s :=
  wpAny_execs_cons (wpAny_Assign_Subscript (h0 _ _ _ _ S fun _ s₁ x S₁ => by subst x; exact h1 _ _ _ _ S₁ fun _ s₂ x S₂ => by subst x; exact h2 _ _ _ _ S₂ fun _ s₃ ⟨t, x⟩ S₃ => by subst x; exact di_set S₃ e hz fun s₄ S₄ => q s₄ S₄) hs)
/-- d["cw"] = v -/
theorem x_sets {kvs : List (Str × Value)} {e₃ : PySem.Expr} {x : Str} (S : St prog w base os ((env, fm env.scope.names vs) :: fr) H s) (h0 : Pu prog w base os fr H env vs e₃ V) (h1 : Pu prog w base os fr H env vs e₁ (· = .ref a)) (h2 : Pu prog w base os fr H env vs e₂ (IsS x))
    (e : H a = some (.ds kvs)) (hz : kvs.length ≤ 1000) (q : ∀ v s', V v → St prog w base os ((env, fm env.scope.names vs) :: fr) (upd H a (.ds (stored kvs x v))) s' → wpAny (model prog w) A (execs rest env) Q E s')
    (hs : swapsWith e₃ (some (.Subscript e₁ e₂ np)) pos.line env = pure false := by rfl) : wpAny (model prog w) A (execs (.Assign [.Subscript e₁ e₂ np] e₃ pos :: rest) env) Q E s :=
  wpAny_execs_cons (wpAny_Assign_Subscript (h0 _ _ _ _ S fun v s₁ hv S₁ => h1 _ _ _ _ S₁ fun _ s₂ x S₂ => by subst x; exact h2 _ _ _ _ S₂ fun _ s₃ ⟨t, x⟩ S₃ => by subst x; exact ds_set S₃ e hz fun s₄ S₄ => q v s₄ hv S₄) hs)
/-- del d[k] -/
theorem x_del {kvs : List (Int × Value)} {ep : Option Nat} (S : St prog w base os ((env, fm env.scope.names vs) :: fr) H s) (h1 : Pu prog w base os fr H env vs e₁ (· = .ref a)) (h2 : Pu prog w base os fr H env vs e₂ (IsI k))
    (e : H a = some (.di kvs ep)) (hz : kvs.length ≤ 1000) (hv : (valueAt kvs k).isSome = true) (q : ∀ s', St prog w base os ((env, fm env.scope.names vs) :: fr) (upd H a (.di (without kvs k) none)) s' → wpAny (model prog w) A (execs rest env) Q E s') :
    wpAny (model prog w) A (execs (.Delete [.Subscript e₁ e₂ np] pos :: rest) env) Q E s :=
  wpAny_execs_cons (del_sub (h1 _ _ _ _ S fun _ s₁ x S₁ => by subst x; exact h2 _ _ _ _ S₁ fun _ s₂ ⟨t, x⟩ S₂ => by subst x; exact di_del S₂ e hz hv fun s₃ S₃ => q s₃ S₃))
end
end Mine

end

section
open PySem PySem.W PyProof.Rows PySem.Calls
set_option Elab.async false
set_option maxRecDepth 100000
set_option linter.unusedVariables false
namespace Mine

def fset2 (f : Int → Int → Int) (u v : Int) (x : Int) : Int → Int → Int := fun a b => if a = u ∧ b = v then x else f a b
@[simp] theorem fset2_self (f : Int → Int → Int) (u v x : Int) : fset2 f u v x u v = x := by simp [fset2]
theorem fset2_ne (f : Int → Int → Int) {u v a b : Int} (x : Int) (h : ¬ (a = u ∧ b = v)) : fset2 f u v x a b = f a b := by simp [fset2, h]

theorem valueAt_stored_self {κ : Type} [DecidableEq κ] (kvs : List (κ × Value)) (k : κ) (v : Value) : valueAt (stored kvs k v) k = some v := by
  unfold stored
  split
  · rename_i h
    unfold valueAt
    induction kvs with
    | nil => simp at h
    | cons p kvs ih =>
      by_cases q : p.1 = k
      · simp [List.find?_cons, q]
      · rw [List.map_cons, List.find?_cons]
        have : (decide ((if p.1 = k then (p.1, v) else p).1 = k)) = false := by rw [if_neg q]; exact decide_eq_false q
        rw [this]
        exact ih (by simpa [q] using h)
  · rename_i h
    unfold valueAt
    rw [List.find?_append]
    have : kvs.find? (fun kv => kv.1 = k) = none := List.find?_eq_none.mpr fun p hp q => h (List.any_eq_true.mpr ⟨p, hp, by simpa using q⟩)
    rw [this]; simp
theorem valueAt_stored_ne {κ : Type} [DecidableEq κ] (kvs : List (κ × Value)) {k k' : κ} (v : Value) (ne : k' ≠ k) : valueAt (stored kvs k v) k' = valueAt kvs k' := by
  unfold stored
  split
  · unfold valueAt
    induction kvs with
    | nil => rfl
    | cons p kvs ih =>
      rename_i h
      by_cases q : p.1 = k
      · rw [List.map_cons, if_pos q, List.find?_cons, List.find?_cons]
        have e1 : decide (p.1 = k') = false := decide_eq_false fun z => ne (z ▸ q)
        simp only [e1]
        by_cases hh : kvs.any (fun kv => kv.1 = k) = true
        · exact ih hh
        · have : kvs.map (fun kv => if kv.1 = k then (kv.1, v) else kv) = kvs := by
            refine (List.map_congr_left fun p hp => if_neg fun q => hh (List.any_eq_true.mpr ⟨p, hp, by simpa using q⟩)).trans (List.map_id kvs)
          rw [this]
      · rw [List.map_cons, if_neg q, List.find?_cons, List.find?_cons]
        cases z : decide (p.1 = k') with
        | true => rfl
        | false => exact ih (by simpa [q] using h)
  · unfold valueAt
    rw [List.find?_append]
    cases z : kvs.find? (fun kv => kv.1 = k') with
    | some _ => rfl
    | none => simp [Ne.symm ne]
theorem stored_len {κ : Type} [DecidableEq κ] {kvs : List (κ × Value)} {k : κ} (h : (valueAt kvs k).isSome = true) (v : Value) : (stored kvs k v).length = kvs.length := by
  unfold stored
  rw [if_pos, List.length_map]
  unfold valueAt at h
  cases z : kvs.find? (fun kv => kv.1 = k) with
  | none => rw [z] at h; cases h
  | some p => exact List.any_eq_true.mpr ⟨p, List.mem_of_find?_eq_some z, by simpa using List.find?_some z⟩

section
variable {P : Params} {H : Led} {ρ ρ' : Rho} {σ σ' : Sg} {a b : Addr} {d : Desc} {r r' : Role} {kvs : List (Int × Value)} {ep : Option Nat} {u v x : Int}

theorem Ed.cw {ks : List (Str × Value)} {c cc : Int} (h : Ed ks c cc) : ∃ t, valueAt ks "cw" = some (.int c t) := h.1
theorem Ed.ccw {ks : List (Str × Value)} {c cc : Int} (h : Ed ks c cc) : ∃ t, valueAt ks "ccw" = some (.int cc t) := h.2.1
theorem Ed.setCw {ks : List (Str × Value)} {c cc c' : Int} (h : Ed ks c cc) (t : Tok) : Ed (stored ks "cw" (.int c' t)) c' cc :=
  ⟨⟨t, valueAt_stored_self _ _ _⟩, by rw [valueAt_stored_ne _ _ (by decide)]; exact h.2.1, by rw [stored_len]; exact h.2.2; obtain ⟨t, e⟩ := h.1; rw [e]; rfl⟩
theorem Ed.setCcw {ks : List (Str × Value)} {c cc c' : Int} (h : Ed ks c cc) (t : Tok) : Ed (stored ks "ccw" (.int c' t)) c c' :=
  ⟨by rw [valueAt_stored_ne _ _ (by decide)]; exact h.1, ⟨t, valueAt_stored_self _ _ _⟩, by rw [stored_len]; exact h.2.2; obtain ⟨t, e⟩ := h.2.1; rw [e]; rfl⟩

/-- a node's first dict: of those that follow it -/
theorem mv_succ (R : Rep P H ρ σ) (ha : ρ a = some .succ) (e : H a = some (.di kvs ep)) (hu : u ∉ σ.ns) (hb : ρ b = none) (e' : H b = some (.di [] none)) :
    Rep P (upd H a (.di (stored kvs u (.ref b)) none)) (ρ.take (.sd u) b) { σ with ns := σ.ns ++ [u], so := fset σ.so u [] } := by
  have R₁ : Rep P H (ρ.take (.sd u) b) { σ with so := fset σ.so u [] } := R.role hb e' trivial hu hu (fun r' d hr h => by
      cases r' <;> first | exact h | skip
      rename_i w
      have : w ≠ u := fun q => hr (q ▸ rfl)
      show ∃ kvs ep, d = .di kvs ep ∧ Refs ρ kvs (fset σ.so u [] w) (.ed w)
      rw [fset_ne _ _ this]; exact h)
    ⟨[], none, rfl, (fset_self σ.so u []).symm, fun _ _ h => nomatch h⟩
  have ha₁ : (ρ.take (.sd u) b) a = some .succ := take_old hb ha (by simp)
  obtain ⟨kvs', ep', e'', rf⟩ := R₁.succ ha₁
  rw [e] at e''
  cases e''
  exact R₁.set ha₁ (fun r' d hr h => by cases r' <;> first | exact h | exact absurd rfl hr) ⟨_, none, rfl, rf.put hu (take_self ..)⟩
theorem mv_pred (R : Rep P H ρ σ) (ha : ρ a = some .pred) (e : H a = some (.di kvs ep)) (hu : u ∉ σ.np) (hb : ρ b = none) (e' : H b = some (.di [] none)) :
    Rep P (upd H a (.di (stored kvs u (.ref b)) none)) (ρ.take (.pd u) b) { σ with np := σ.np ++ [u], po := fset σ.po u [] } := by
  have R₁ : Rep P H (ρ.take (.pd u) b) { σ with po := fset σ.po u [] } := R.role hb e' trivial hu hu (fun r' d hr h => by
      cases r' <;> first | exact h | skip
      rename_i w
      have : w ≠ u := fun q => hr (q ▸ rfl)
      show ∃ kvs ep, d = .di kvs ep ∧ Refs ρ kvs (fset σ.po u [] w) _
      rw [fset_ne _ _ this]; exact h)
    ⟨[], none, rfl, (fset_self σ.po u []).symm, fun _ _ h => nomatch h⟩
  have ha₁ : (ρ.take (.pd u) b) a = some .pred := take_old hb ha (by simp)
  obtain ⟨kvs', ep', e'', rf⟩ := R₁.pred ha₁
  rw [e] at e''
  cases e''
  exact R₁.set ha₁ (fun r' d hr h => by cases r' <;> first | exact h | exact absurd rfl hr) ⟨_, none, rfl, rf.put hu (take_self ..)⟩
theorem mv_node (R : Rep P H ρ σ) (ha : ρ a = some .node) (e : H a = some (.di kvs ep)) (hu : u ∉ σ.nn) (hb : ρ b = none) (e' : H b = some (.ds [])) :
    Rep P (upd H a (.di (stored kvs u (.ref b)) none)) (ρ.take (.nd u) b) { σ with nn := σ.nn ++ [u] } := by
  have R₁ : Rep P H (ρ.take (.nd u) b) σ := R.role hb e' trivial hu hu (fun r' d hr h => h) rfl
  have ha₁ : (ρ.take (.nd u) b) a = some .node := take_old hb ha (by simp)
  obtain ⟨kvs', ep', e'', rf⟩ := R₁.node ha₁
  rw [e] at e''
  cases e''
  exact R₁.set ha₁ (fun r' d hr h => by cases r' <;> first | exact h | exact absurd rfl hr) ⟨_, none, rfl, rf.put hu (take_self ..)⟩
theorem mv_rows (R : Rep P H ρ σ) (ha : ρ a = some .rows) (e : H a = some (.di kvs ep)) (hu : u ∉ σ.rn) (hb : ρ b = none) (e' : H b = some (.li [])) :
    Rep P (upd H a (.di (stored kvs u (.ref b)) none)) (ρ.take (.row u) b) { σ with rn := σ.rn ++ [u], row := fset σ.row u [] } := by
  have R₁ : Rep P H (ρ.take (.row u) b) { σ with row := fset σ.row u [] } := R.role hb e' trivial hu hu (fun r' d hr h => by
      cases r' <;> first | exact h | skip
      rename_i w
      have : w ≠ u := fun q => hr (q ▸ rfl)
      show ∃ vs, d = .li vs ∧ IntsAre vs (fset σ.row u [] w)
      rw [fset_ne _ _ this]; exact h)
    ⟨[], rfl, by show IntsAre [] (fset σ.row u [] u); rw [fset_self]; exact .nil⟩
  have ha₁ : (ρ.take (.row u) b) a = some .rows := take_old hb ha (by simp)
  obtain ⟨kvs', ep', e'', rf⟩ := R₁.rows ha₁
  rw [e] at e''
  cases e''
  exact R₁.set ha₁ (fun r' d hr h => by cases r' <;> first | exact h | exact absurd rfl hr) ⟨_, none, rfl, rf.put hu (take_self ..)⟩

/-- the half edge's data get their role -/
theorem mv_ed {ks : List (Str × Value)} {c cc : Int} (R : Rep P H ρ σ) (hb : ρ b = none) (e : H b = some (.ds ks)) (hd : Ed ks c cc) (h1 : v ∉ σ.so u) (h2 : u ∉ σ.po v) :
    Rep P H (ρ.take (.ed u v) b) { σ with cw := fset2 σ.cw u v c, cc := fset2 σ.cc u v cc } :=
  R.role hb e trivial (fun h => h.elim h1 h2) (fun h => h.elim h1 h2) (fun r' d hr h => by
      cases r' <;> first | exact h | skip
      rename_i a b
      have ne : ¬ (a = u ∧ b = v) := fun q => hr (by rw [q.1, q.2])
      show ∃ kvs, d = .ds kvs ∧ Ed kvs (fset2 σ.cw u v c a b) (fset2 σ.cc u v cc a b)
      rw [fset2_ne _ _ ne, fset2_ne _ _ ne]; exact h)
    ⟨ks, rfl, by simpa using hd⟩
theorem so_set (R : Rep P H ρ σ) (ha : ρ a = some (.sd u)) {l : List Int} (hk : Refs ρ kvs l (.ed u)) : Rep P (upd H a (.di kvs ep)) ρ { σ with so := fset σ.so u l } :=
  R.set ha (fun r' d hr h => by
      cases r' <;> first | exact h | skip
      rename_i w
      have : w ≠ u := fun q => hr (q ▸ rfl)
      show ∃ kvs ep, d = .di kvs ep ∧ Refs ρ kvs (fset σ.so u l w) (.ed w)
      rw [fset_ne _ _ this]; exact h) ⟨_, _, rfl, by simpa using hk⟩
theorem po_set (R : Rep P H ρ σ) (ha : ρ a = some (.pd u)) {l : List Int} (hk : Refs ρ kvs l (fun v => .ed v u)) : Rep P (upd H a (.di kvs ep)) ρ { σ with po := fset σ.po u l } :=
  R.set ha (fun r' d hr h => by
      cases r' <;> first | exact h | skip
      rename_i w
      have : w ≠ u := fun q => hr (q ▸ rfl)
      show ∃ kvs ep, d = .di kvs ep ∧ Refs ρ kvs (fset σ.po u l w) _
      rw [fset_ne _ _ this]; exact h) ⟨_, _, rfl, by simpa using hk⟩
theorem ed_set {ks : List (Str × Value)} {c cc : Int} (R : Rep P H ρ σ) (ha : ρ a = some (.ed u v)) (hd : Ed ks c cc) : Rep P (upd H a (.ds ks)) ρ { σ with cw := fset2 σ.cw u v c, cc := fset2 σ.cc u v cc } :=
  R.set ha (fun r' d hr h => by
      cases r' <;> first | exact h | skip
      rename_i a b
      have ne : ¬ (a = u ∧ b = v) := fun q => hr (by rw [q.1, q.2])
      show ∃ kvs, d = .ds kvs ∧ Ed kvs (fset2 σ.cw u v c a b) (fset2 σ.cc u v cc a b)
      rw [fset2_ne _ _ ne, fset2_ne _ _ ne]; exact h)
    ⟨ks, rfl, by simpa using hd⟩
theorem fset2_same (f : Int → Int → Int) (u v : Int) : fset2 f u v (f u v) = f := by
  funext a b; unfold fset2; split
  · rename_i h; rw [h.1, h.2]
  · rfl
theorem fset_same {β : Type} (f : Int → β) (u : Int) : fset f u (f u) = f := by
  funext a; unfold fset; split
  · rename_i h; rw [h]
  · rfl
theorem cw_set {ks : List (Str × Value)} (R : Rep P H ρ σ) (ha : ρ a = some (.ed u v)) (e : H a = some (.ds ks)) (t : Tok) : Rep P (upd H a (.ds (stored ks "cw" (.int x t)))) ρ { σ with cw := fset2 σ.cw u v x } := by
  obtain ⟨ks', e', hd⟩ := R.ed ha
  rw [e] at e'; cases e'
  have := ed_set R ha (hd.setCw (c' := x) t)
  rw [fset2_same] at this
  exact this
theorem ccw_set {ks : List (Str × Value)} (R : Rep P H ρ σ) (ha : ρ a = some (.ed u v)) (e : H a = some (.ds ks)) (t : Tok) : Rep P (upd H a (.ds (stored ks "ccw" (.int x t)))) ρ { σ with cc := fset2 σ.cc u v x } := by
  obtain ⟨ks', e', hd⟩ := R.ed ha
  rw [e] at e'; cases e'
  have := ed_set R ha (hd.setCcw (c' := x) t)
  rw [fset2_same] at this
  exact this
theorem ns_set' (R : Rep P H ρ σ) (ha : ρ a = some .succ) {l : List Int} (hk : Refs ρ kvs l .sd) : Rep P (upd H a (.di kvs ep)) ρ { σ with ns := l } :=
  R.set ha (fun r' d hr h => by cases r' <;> first | exact h | exact absurd rfl hr) ⟨_, _, rfl, hk⟩
theorem np_set (R : Rep P H ρ σ) (ha : ρ a = some .pred) {l : List Int} (hk : Refs ρ kvs l .pd) : Rep P (upd H a (.di kvs ep)) ρ { σ with np := l } :=
  R.set ha (fun r' d hr h => by cases r' <;> first | exact h | exact absurd rfl hr) ⟨_, _, rfl, hk⟩
theorem nn_set (R : Rep P H ρ σ) (ha : ρ a = some .node) {l : List Int} (hk : Refs ρ kvs l .nd) : Rep P (upd H a (.di kvs ep)) ρ { σ with nn := l } :=
  R.set ha (fun r' d hr h => by cases r' <;> first | exact h | exact absurd rfl hr) ⟨_, _, rfl, hk⟩
theorem rn_set (R : Rep P H ρ σ) (ha : ρ a = some .rows) {l : List Int} (hk : Refs ρ kvs l .row) : Rep P (upd H a (.di kvs ep)) ρ { σ with rn := l } :=
  R.set ha (fun r' d hr h => by cases r' <;> first | exact h | exact absurd rfl hr) ⟨_, _, rfl, hk⟩
theorem row_set {vs : List Value} {l : List Int} (R : Rep P H ρ σ) (ha : ρ a = some (.row u)) (h : IntsAre vs l) : Rep P (upd H a (.li vs)) ρ { σ with row := fset σ.row u l } :=
  R.set ha (fun r' d hr h => by
      cases r' <;> first | exact h | skip
      rename_i w
      have : w ≠ u := fun q => hr (q ▸ rfl)
      show ∃ vs, d = .li vs ∧ IntsAre vs (fset σ.row u l w)
      rw [fset_ne _ _ this]; exact h) ⟨vs, rfl, by simpa using h⟩
theorem kn_set {l : List Int} {f : Int → Bool} (R : Rep P H ρ σ) (ha : ρ a = some .known) (h1 : kvs.map (·.1) = l) (h2 : ∀ k v, (k, v) ∈ kvs → v = .bool (f k)) : Rep P (upd H a (.di kvs ep)) ρ { σ with kn := l, kw := f } :=
  R.set ha (fun r' d hr h => by cases r' <;> first | exact h | exact absurd rfl hr) ⟨_, _, rfl, h1, h2⟩
end
end Mine

end

section
open PySem PySem.W PyProof.Rows PySem.Calls
set_option Elab.async false
set_option maxRecDepth 100000
set_option linter.unusedVariables false
namespace Mine

/-- what a call leaves alone: all that has no role; and each role that is not among T -/
structure Keep (T : Role → Prop) (H : Led) (ρ : Rho) (H' : Led) (ρ' : Rho) : Prop where
  out : ∀ a d, H a = some d → ρ a = none → H' a = some d ∧ ρ' a = none
  role : ∀ a r, ρ a = some r → ¬ T r → ρ' a = some r
  dom : ∀ a, H a ≠ none → H' a ≠ none

section
variable {T T' : Role → Prop} {H₀ H H' : Led} {ρ₀ ρ ρ' : Rho} {a b : Addr} {d : Desc} {r : Role}
theorem Keep.refl : Keep T H ρ H ρ := ⟨fun _ _ h k => ⟨h, k⟩, fun _ _ h _ => h, fun _ h => h⟩
theorem Keep.trans (k : Keep T H₀ ρ₀ H ρ) (k' : Keep T H ρ H' ρ') : Keep T H₀ ρ₀ H' ρ' :=
  ⟨fun a d h z => let ⟨x, y⟩ := k.out a d h z; k'.out a d x y, fun a r h z => k'.role a r (k.role a r h z) z, fun a h => k'.dom a (k.dom a h)⟩
theorem Keep.mono (k : Keep T H₀ ρ₀ H ρ) (h : ∀ r, T r → T' r) : Keep T' H₀ ρ₀ H ρ := ⟨k.out, fun a r e z => k.role a r e fun q => z (h r q), k.dom⟩
theorem Keep.non (k : Keep T H₀ ρ₀ H ρ) (h : H b = none) : H₀ b = none := by
  cases q : H₀ b with
  | none => rfl
  | some d => exact absurd h (k.dom b (by rw [q]; exact nofun))
theorem upd_dom (h : H b ≠ none) : upd H a d b ≠ none := by
  unfold upd; split
  · exact nofun
  · exact h
/-- an object with a role is changed -/
theorem Keep.set (k : Keep T H₀ ρ₀ H ρ) (ha : ρ a = some r) : Keep T H₀ ρ₀ (upd H a d) ρ :=
  ⟨fun b d' h z => by
    obtain ⟨x, y⟩ := k.out b d' h z
    have : b ≠ a := fun q => by rw [q, ha] at y; cases y
    exact ⟨by rw [upd_ne _ _ this]; exact x, y⟩, k.role, fun b h => upd_dom (k.dom b h)⟩
/-- a new object, or one that was new -/
theorem Keep.new (k : Keep T H₀ ρ₀ H ρ) (hb : H₀ b = none) : Keep T H₀ ρ₀ (upd H b d) ρ :=
  ⟨fun a d' h z => by
    have : a ≠ b := fun q => by rw [q, hb] at h; cases h
    obtain ⟨x, y⟩ := k.out a d' h z
    exact ⟨by rw [upd_ne _ _ this]; exact x, y⟩, k.role, fun a h => upd_dom (k.dom a h)⟩
theorem Keep.take (k : Keep T H₀ ρ₀ H ρ) (hb : H₀ b = none) (hρ : ρ b = none) (hr : T r) : Keep T H₀ ρ₀ H (ρ.take r b) :=
  ⟨fun a d' h z => by
    have : a ≠ b := fun q => by rw [q, hb] at h; cases h
    obtain ⟨x, y⟩ := k.out a d' h z
    exact ⟨x, take_none y this⟩, fun a r' h z => take_old hρ (k.role a r' h z) fun q => z (q ▸ hr), k.dom⟩
theorem Keep.forget (k : Keep T H₀ ρ₀ H ρ) (h : ∀ a d, H₀ a = some d → H a = some d → H' a = some d) (hd : ∀ a, H₀ a ≠ none → H' a ≠ none) : Keep T H₀ ρ₀ H' ρ :=
  ⟨fun a d e z => let ⟨x, y⟩ := k.out a d e z; ⟨h a d e x, y⟩, k.role, hd⟩

/-- the addresses that stay for good -/
structure Pic (ρ : Rho) (p g n s d : Addr) : Prop where
  self : ρ p = some .self
  g : ρ g = some .g
  node : ρ n = some .node
  succ : ρ s = some .succ
  pred : ρ d = some .pred
theorem Pic.keep {p g n s d : Addr} (h : Pic ρ p g n s d) (k : Keep T H ρ H' ρ') (hT : ∀ r, T r → Loose r) : Pic ρ' p g n s d :=
  ⟨k.role _ _ h.self fun q => hT _ q, k.role _ _ h.g fun q => hT _ q, k.role _ _ h.node fun q => hT _ q, k.role _ _ h.succ fun q => hT _ q, k.role _ _ h.pred fun q => hT _ q⟩
theorem Pic.take {p g n s d : Addr} (h : Pic ρ p g n s d) (hb : ρ b = none) (hr : Loose r) : Pic (ρ.take r b) p g n s d :=
  ⟨take_old hb h.self fun q => (q.symm ▸ hr : Loose .self), take_old hb h.g fun q => (q.symm ▸ hr : Loose .g), take_old hb h.node fun q => (q.symm ▸ hr : Loose .node), take_old hb h.succ fun q => (q.symm ▸ hr : Loose .succ), take_old hb h.pred fun q => (q.symm ▸ hr : Loose .pred)⟩
theorem Rep.picOf {P : Params} {σ : Sg} {p : Addr} (R : Rep P H ρ σ) (hp : ρ p = some .self) : ∃ g n s d, Pic ρ p g n s d :=
  let ⟨_, _, g, n, s, d, _, _, _, _, h1, h2, h3, h4⟩ := R.pic hp; ⟨g, n, s, d, hp, h1, h2, h3, h4⟩
end

section
variable {prog : Program} {w : World} {K : Frag} {base : Heap} {os : Os} {A : Around} {E : Value → Shared → Prop} {fr : Frs} {H : Led} {s : Shared} {env : Env} {vs : List (Option Value)} {a p : Addr} {ρ : Rho} {σ : Sg} {P : Params}
  {V V' : Value → Prop} {e e₁ e₂ e₃ : PySem.Expr} {k k' : Int} {pos np : Pos} {b b' : Bool} {Q : Flow → Shared → Prop} {rest : List Stmt}
/-- d[k] = a value that is made first -/
theorem x_setG {fr₀ : Frs} {H₀ : Led} (S₀ : St prog w base os fr₀ H₀ s) (h : wpAny (model prog w) A (eval e₃ env) (fun v s₁ => ∃ fr vs H a k kvs ep, St prog w base os ((env, fm env.scope.names vs) :: fr) H s₁ ∧ Pu prog w base os fr H env vs e₁ (· = .ref a) ∧ Pu prog w base os fr H env vs e₂ (IsI k) ∧
      H a = some (.di kvs ep) ∧ kvs.length ≤ 1000 ∧ ∀ s', St prog w base os ((env, fm env.scope.names vs) :: fr) (upd H a (.di (stored kvs k v) none)) s' → wpAny (model prog w) A (execs rest env) Q E s') E s)
    (hs : swapsWith e₃ (some (.Subscript e₁ e₂ np)) pos.line env = pure false := by rfl) : wpAny (model prog w) A (execs (.Assign [.Subscript e₁ e₂ np] e₃ pos :: rest) env) Q E s :=
  wpAny_execs_cons (wpAny_Assign_Subscript (wpAny_mono h (fun v s₁ ⟨fr, vs, H, a, k, kvs, ep, S, h1, h2, e, hz, q⟩ => h1 _ _ _ _ S fun _ s₂ x S₂ => by
    subst x; exact h2 _ _ _ _ S₂ fun _ s₃ ⟨t, x⟩ S₃ => by subst x; exact di_set S₃ e hz fun s₄ S₄ => q s₄ S₄) fun _ _ e => e) hs)

/-- a method of the picture is called -/
theorem ev_pic {o : PySem.Expr} {name : Str} {f : Addr} {apos pos : Pos} {es : List PySem.Expr} {ks : List Keyword} {pl : Sem Bool} {Q : Value → Shared → Prop} (S : St prog w base os ((env, fm env.scope.names vs) :: fr) H s) (Z : Sta K base) (F : KA K) (hm : MethK K name f) (R : Rep P H ρ σ) (hp : ρ p = some .self)
    (h1 : Pu prog w base os fr H env vs o (· = .ref p)) (hl : ∀ t g n s p, getL name (picEs P t g n s p σ.adj) = some none) (hes : es.all plainE = true) (hks : ks.all (·.arg.isSome) = true)
    (h : ∀ s', St prog w base os ((env, fm env.scope.names vs) :: fr) H s' → evL (model prog w) A E env es (fun us s₁ => evL (model prog w) A E env (ks.map (·.value)) (fun ws s₂ => K.In s₂.heap ∧ wpAny (model prog w) A (call (.ref f) (.ref p :: us) ((kwNames ks).zip ws)) Q E s₂) s₁) s')
    (he : eval (.Call (.Attribute o name apos) es ks pos) env = (do
      let ov ← eval o env
      standAt apos.atName
      let (f, first) ← holding [ov] (getMethod ov name pl)
      callWith pos f first (backTo pos (starEach es env)) (backToKw pos (keywordEach ks env))) := by rfl) :
    wpAny (model prog w) A (eval (.Call (.Attribute o name apos) es ks pos) env) Q E s :=
  mcall (pl := pl) (h1 _ _ _ _ S fun _ s₁ x S₁ => by subst x; exact md_pic S₁ Z F hm R hp hl (cwK hm.keep hes hks (h s₁ S₁))) he
/-- x = d[k] = a value that is made first -/
theorem x_set2G {fr₀ : Frs} {H₀ : Led} {x : Str} {xp : Pos} (i : Nat) (S₀ : St prog w base os fr₀ H₀ s) (C : ScOk env.scope) (hi : env.scope.names[i]? = some (x, .local)) (h : wpAny (model prog w) A (eval e₃ env) (fun v s₁ => ∃ fr vs vs' H a k kvs ep, St prog w base os ((env, fm env.scope.names vs) :: fr) H s₁ ∧ vs.set i (some v) = vs' ∧ i < vs.length ∧
      Pu prog w base os fr H env vs' e₁ (· = .ref a) ∧ Pu prog w base os fr H env vs' e₂ (IsI k) ∧ H a = some (.di kvs ep) ∧ kvs.length ≤ 1000 ∧ ∀ s', St prog w base os ((env, fm env.scope.names vs') :: fr) (upd H a (.di (stored kvs k v) none)) s' → wpAny (model prog w) A (execs rest env) Q E s') E s)
    (he : (assignEach [.Name x xp, .Subscript e₁ e₂ np] env).map (·.2) = [assign (.Name x xp) env, assign (.Subscript e₁ e₂ np) env] := by rfl) (hw : swappedStores [.Name x xp, .Subscript e₁ e₂ np] e₃ env = pure none := by rfl) :
    wpAny (model prog w) A (execs (.Assign [.Name x xp, .Subscript e₁ e₂ np] e₃ pos :: rest) env) Q E s :=
  wpAny_execs_cons (wpAny_Assign_two (wpAny_mono h (fun v s₁ ⟨fr, vs, vs', H, a, k, kvs, ep, S, hv, hl, h1, h2, e, hz, q⟩ =>
    wpAny_assign_Name (st_local S C hi hv hl fun s₂ S₂ => by
      rw [assign_Subscript]
      exact wpAny_bind (wpAny_holding (h1 _ _ _ _ S₂ fun _ s₃ x S₃ => by
        subst x; exact wpAny_bind (wpAny_holding (h2 _ _ _ _ S₃ fun _ s₄ ⟨t, x⟩ S₄ => by subst x; exact wpAny_bind (wpAny_standAt (wpAny_bind (wpAny_holding (di_set S₄ e hz fun s₅ S₅ => wpAny_release (q s₅ S₅))))))))))) fun _ _ e => e) he hw)
theorem upd_same {H : Led} {a : Addr} {d : Desc} (h : H a = some d) : upd H a d = H := by
  funext b; unfold upd; split
  · rename_i q; rw [q, h]
  · rfl
theorem x_expr (h : wpAny (model prog w) A (eval e env) (fun v s' => v = .none ∧ wpAny (model prog w) A (execs rest env) Q E s') E s) (hi : interactive env = false := by rfl) (hs : swapsWith e none pos.line env = pure false := by rfl) :
    wpAny (model prog w) A (execs (.Expr e pos :: rest) env) Q E s := wpAny_execs_cons (ex_none h hi hs)
/-- a.update(b) -/
theorem x_dsupd {o e : PySem.Expr} {apos cpos : Pos} {pl : Sem Bool} {a b : Addr} {kvs more : List (Str × Value)} (S : St prog w base os ((env, fm env.scope.names vs) :: fr) H s) (h1 : Pu prog w base os fr H env vs o (· = .ref a)) (h2 : Pu prog w base os fr H env vs e (· = .ref b))
    (e1 : H a = some (.ds kvs)) (e2 : H b = some (.ds more)) (ne : a ≠ b) (hz : kvs.length + more.length ≤ 1000) (hp : plainE e = true)
    (q : ∀ s', St prog w base os ((env, fm env.scope.names vs) :: fr) (upd H a (.ds (merged kvs more))) s' → wpAny (model prog w) A (execs rest env) Q E s')
    (he : eval (.Call (.Attribute o "update" apos) [e] [] cpos) env = (do
      let ov ← eval o env
      standAt apos.atName
      let (f, first) ← holding [ov] (getMethod ov "update" pl)
      callWith cpos f first (backTo cpos (starEach [e] env)) (backToKw cpos (keywordEach [] env))) := by rfl)
    (hi : interactive env = false := by rfl) (hs : swapsWith (.Call (.Attribute o "update" apos) [e] [] cpos) none pos.line env = pure false := by rfl) :
    wpAny (model prog w) A (execs (.Expr (.Call (.Attribute o "update" apos) [e] [] cpos) pos :: rest) env) Q E s :=
  x_expr (mcall (pl := pl) (h1 _ _ _ _ S fun _ s₁ x S₁ => by
    subst x; exact md_ds PySem.F.slot_dict_update PySem.F.type_dict_update S₁ e1 (cwB (by simp [hp]) (h2 _ _ _ _ S₁ fun _ s₂ x S₂ => by subst x; exact ds_update S₂ e1 e2 ne hz fun s₃ S₃ => ⟨rfl, q s₃ S₃⟩))) he) hi hs
end
end Mine

end

section
open PySem PySem.W PyProof.Rows PySem.Calls
set_option Elab.async false
set_option maxRecDepth 100000
set_option linter.unusedVariables false
namespace Mine

def psB : Stmt → List Stmt
  | .FunctionDef _ _ b _ _ _ _ _ _ _ => b
  | _ => []
def psS : Stmt → Scope
  | .FunctionDef _ _ _ _ _ _ sc _ _ _ => sc
  | _ => default
def psP : Stmt → Arguments
  | .FunctionDef _ ps _ _ _ _ _ _ _ _ => ps
  | _ => ⟨[], [], none, [], [], none, []⟩
def psC : Stmt → List Stmt
  | .ClassDef _ _ _ b _ _ _ _ _ _ _ => b
  | _ => []
def topAt (i : Nat) : Stmt := (PySem.Challenge.pw_au6040_01.main.body[i]?).getD (.Pass default)
def subAt (i j : Nat) : Stmt := ((psC (topAt i))[j]?).getD (.Pass default)

def mkD (addr : Addr) (name qual : Str) (st : Stmt) (cl : List (Str × Addr)) (dV kV : Value) : Def := ⟨addr, name, qual, psP st, psB st, psS st, cl, dV, kV, .ref (addr - 1)⟩

def dNodeFac : Def := mkD 261 "node_dict_factory" "Graph.node_dict_factory" (subAt 12 0) [] .none .none
def dNodeAttr : Def := mkD 268 "node_attr_dict_factory" "Graph.node_attr_dict_factory" (subAt 12 1) [] .none .none
def dOuter : Def := mkD 275 "adjlist_outer_dict_factory" "Graph.adjlist_outer_dict_factory" (subAt 12 2) [] .none .none
def dInner : Def := mkD 282 "adjlist_inner_dict_factory" "Graph.adjlist_inner_dict_factory" (subAt 12 3) [] .none .none
def dEdgeAttr : Def := mkD 289 "edge_attr_dict_factory" "Graph.edge_attr_dict_factory" (subAt 12 4) [] .none .none
def dGraphAttr : Def := mkD 296 "graph_attr_dict_factory" "Graph.graph_attr_dict_factory" (subAt 12 5) [] .none .none
def dAddNode : Def := mkD 607 "add_node" "DiGraph.add_node" (subAt 14 4) [] .none .none


def dAddEdge : Def := mkD 635 "add_edge" "DiGraph.add_edge" (subAt 14 8) [] .none .none
theorem scNodeFac : ScOk dNodeFac.scope := ScOk.of (by decide +kernel)
theorem scNodeAttr : ScOk dNodeAttr.scope := ScOk.of (by decide +kernel)
theorem scOuter : ScOk dOuter.scope := ScOk.of (by decide +kernel)
theorem scInner : ScOk dInner.scope := ScOk.of (by decide +kernel)
theorem scEdgeAttr : ScOk dEdgeAttr.scope := ScOk.of (by decide +kernel)
theorem scGraphAttr : ScOk dGraphAttr.scope := ScOk.of (by decide +kernel)
theorem scAddNode : ScOk dAddNode.scope := ScOk.of (by decide +kernel)
theorem scAddEdge : ScOk dAddEdge.scope := ScOk.of (by decide +kernel)

structure KF (K : Frag) : Prop extends KA K where
  inner : dInner.In K
  mInner : MethK K "adjlist_inner_dict_factory" 282
  nodeAttr : dNodeAttr.In K
  mNodeAttr : MethK K "node_attr_dict_factory" 268
  edgeAttr : dEdgeAttr.In K
  mEdgeAttr : MethK K "edge_attr_dict_factory" 289
  outer : dOuter.In K
  mOuter : MethK K "adjlist_outer_dict_factory" 275
  nodeFac : dNodeFac.In K
  mNodeFac : MethK K "node_dict_factory" 261
  graphAttr : dGraphAttr.In K
  mGraphAttr : MethK K "graph_attr_dict_factory" 296
  addNode : dAddNode.In K
  mAddNode : MethK K "add_node" 607
  addEdge : dAddEdge.In K
end Mine

end

section
open PySem PySem.W PyProof.Rows PySem.Calls
set_option Elab.async false
set_option maxRecDepth 100000
set_option linter.unusedVariables false
namespace Mine

section
variable {prog : Program} {w : World} {K : Frag} {base : Heap} {os : Os} {A : Around} {E : Value → Shared → Prop} {fr : Frs} {H : Led} {s : Shared} {env : Env} {vs : List (Option Value)} {p : Addr} {ρ : Rho} {σ : Sg}

/-- the defs that give an empty dict -/
theorem fac_ok {D : Def} {p1 p2 : Pos} {v : Value} {Q : Value → Shared → Prop} (hD : D.In K) (hb : D.body = [.Return (some (.Dict [] [] p1)) p2]) (hcell : ∀ x ∈ D.scope.names, x.2 ≠ .cell) (C : ScOk D.scope) (hco : D.scope.isCoroutine = false) (hgen : D.scope.isGenerator = false)
    (hbind : ∀ doc pm an ct, bindArgs (fnX D.name D.qual D.params D.body D.scope D.cl D.dV D.kV doc pm an D.cdv ct) ⟨[v], []⟩ = pure [(("self" : Str), v)]) (hn : [("self" : Str)] = (D.scope.names.map (·.1)).take 1)
    (hl : (D.scope.names.take 1).all (fun p => match p.2 with | .local => true | _ => false) = true) (S : St prog w base os fr H s) (Z : Sta K base) (hA : A.depth < recursionLimit)
    (h : ∀ b s', H b = none → St prog w base os fr (upd H b (.di [] none)) s' → St prog w base os fr (upd H b (.ds [])) s' → Q (.ref b) s') : wpAny (model prog w) A (call (.ref D.addr) [v]) Q E s := by
  refine call_plain (n := 0) S Z hA hD hcell C hco hgen hbind hn hl fun L s₁ S₁ => ?_
  rw [BodyOk, hb]
  refine wpAny_execs_cons (wpAny_Return_some (new_dict S₁ fun b s' hb S₂ S₃ => h b s' hb ⟨S₂.wd.pop, S₂.bare, S₂.os⟩ ⟨S₃.wd.pop, S₃.bare, S₃.os⟩))

theorem inner_ok {v : Value} {Q : Value → Shared → Prop} (F : KF K) (S : St prog w base os fr H s) (Z : Sta K base) (hA : A.depth < recursionLimit)
    (h : ∀ b s', H b = none → St prog w base os fr (upd H b (.di [] none)) s' → St prog w base os fr (upd H b (.ds [])) s' → Q (.ref b) s') : wpAny (model prog w) A (call (.ref 282) [v]) Q E s :=
  fac_ok (D := dInner) F.inner rfl (by decide +kernel) scInner rfl rfl (fun _ _ _ _ => rfl) rfl rfl S Z hA h

theorem nodeAttr_ok {v : Value} {Q : Value → Shared → Prop} (F : KF K) (S : St prog w base os fr H s) (Z : Sta K base) (hA : A.depth < recursionLimit)
    (h : ∀ b s', H b = none → St prog w base os fr (upd H b (.di [] none)) s' → St prog w base os fr (upd H b (.ds [])) s' → Q (.ref b) s') : wpAny (model prog w) A (call (.ref 268) [v]) Q E s :=
  fac_ok (D := dNodeAttr) F.nodeAttr rfl (by decide +kernel) scNodeAttr rfl rfl (fun _ _ _ _ => rfl) rfl rfl S Z hA h

/-- roles that adding a node may give anew -/
def NewNode (u : Int) (r : Role) : Prop := r = .nd u ∨ r = .sd u ∨ r = .pd u
def Sg.addNode (σ : Sg) (u : Int) : Sg := if u ∈ σ.ns then σ else { σ with nn := σ.nn ++ [u], ns := σ.ns ++ [u], np := σ.np ++ [u], so := fset σ.so u [], po := fset σ.po u [] }
structure Sg.Sm (σ : Sg) : Prop where
  nn : σ.nn.length ≤ 900
  ns : σ.ns.length ≤ 900
  np : σ.np.length ≤ 900
  so : ∀ u, (σ.so u).length ≤ 900
  po : ∀ u, (σ.po u).length ≤ 900
structure Sg.Al (σ : Sg) : Prop where
  nn : σ.nn = σ.ns
  np : σ.np = σ.ns


/-- self._succ[x] = a new dict -/
theorem x_newSucc {sf x : Str} {p1 p2 p3 p4 p5 p6 p7 p8 : Pos} {g n sA d : Addr} {u : Int} {rest : List Stmt} {Q : Flow → Shared → Prop} {pl : Sem Bool} (F : KF K) (Z : Sta K base) (S : St prog w base os ((env, fm env.scope.names vs) :: fr) H s) (hA : A.depth < recursionLimit)
    (R : Rep w.params H ρ σ) (B : Pic ρ p g n sA d) (hu : u ∉ σ.ns) (hm : σ.ns.length ≤ 950)
    (h0 : ∀ H p0, Pu prog w base os fr H env vs (.Name sf p0) (· = .ref p)) (h1 : ∀ H, Pu prog w base os fr H env vs (.Name x p3) (IsI u))
    (q : ∀ s' H' ρ', St prog w base os ((env, fm env.scope.names vs) :: fr) H' s' → Rep w.params H' ρ' { σ with ns := σ.ns ++ [u], so := fset σ.so u [] } → Keep (· = .sd u) H ρ H' ρ' → Pic ρ' p g n sA d → wpAny (model prog w) A (execs rest env) Q E s')
    (he : eval (.Call (.Attribute (.Name sf p5) "adjlist_inner_dict_factory" p6) [] [] p7) env = (do
      let ov ← eval (.Name sf p5) env
      standAt p6.atName
      let (f, first) ← holding [ov] (getMethod ov "adjlist_inner_dict_factory" pl)
      callWith p7 f first (backTo p7 (starEach [] env)) (backToKw p7 (keywordEach [] env))) := by rfl)
    (hs : swapsWith (.Call (.Attribute (.Name sf p5) "adjlist_inner_dict_factory" p6) [] [] p7) (some (.Subscript (.Attribute (.Name sf p1) "_succ" p2) (.Name x p3) p4)) p8.line env = pure false := by rfl) :
    wpAny (model prog w) A (execs (.Assign [.Subscript (.Attribute (.Name sf p1) "_succ" p2) (.Name x p3) p4] (.Call (.Attribute (.Name sf p5) "adjlist_inner_dict_factory" p6) [] [] p7) p8 :: rest) env) Q E s := by
  obtain ⟨ks, es, hsA, rs⟩ := R.succ B.succ
  refine x_setG S ?_ hs
  refine ev_pic (pl := pl) S Z F.toKA F.mInner R B.self (h0 _ _) (fun _ _ _ _ _ => by cases σ.adj <;> rfl) rfl rfl (fun s₄ S₄ => ⟨S₄.kin Z, ?_⟩) he
  refine inner_ok F S₄ Z hA fun b s₅ hb S₅ _ => ?_
  have nsb : sA ≠ b := fun q => by rw [q, hb] at hsA; cases hsA
  have hρb := R.none hb
  have R₂ := R.temp hρb (.di [] none)
  refine ⟨fr, _, _, sA, u, ks, es, S₅, pu_succ (h0 _ _) Z F.toKA R₂ B.self B.succ, h1 _, (upd_ne _ _ nsb).trans hsA, by rw [rs.len]; omega, fun s₆ S₆ => ?_⟩
  exact q _ _ _ S₆ (mv_succ R₂ B.succ ((upd_ne _ _ nsb).trans hsA) hu hρb (upd_self ..)) (((Keep.refl.new hb).set B.succ).take hb hρb rfl) (B.take hρb trivial)
theorem x_newPred {sf x : Str} {p1 p2 p3 p4 p5 p6 p7 p8 : Pos} {g n sA d : Addr} {u : Int} {rest : List Stmt} {Q : Flow → Shared → Prop} {pl : Sem Bool} (F : KF K) (Z : Sta K base) (S : St prog w base os ((env, fm env.scope.names vs) :: fr) H s) (hA : A.depth < recursionLimit)
    (R : Rep w.params H ρ σ) (B : Pic ρ p g n sA d) (hu : u ∉ σ.np) (hm : σ.np.length ≤ 950)
    (h0 : ∀ H p0, Pu prog w base os fr H env vs (.Name sf p0) (· = .ref p)) (h1 : ∀ H, Pu prog w base os fr H env vs (.Name x p3) (IsI u))
    (q : ∀ s' H' ρ', St prog w base os ((env, fm env.scope.names vs) :: fr) H' s' → Rep w.params H' ρ' { σ with np := σ.np ++ [u], po := fset σ.po u [] } → Keep (· = .pd u) H ρ H' ρ' → Pic ρ' p g n sA d → wpAny (model prog w) A (execs rest env) Q E s')
    (he : eval (.Call (.Attribute (.Name sf p5) "adjlist_inner_dict_factory" p6) [] [] p7) env = (do
      let ov ← eval (.Name sf p5) env
      standAt p6.atName
      let (f, first) ← holding [ov] (getMethod ov "adjlist_inner_dict_factory" pl)
      callWith p7 f first (backTo p7 (starEach [] env)) (backToKw p7 (keywordEach [] env))) := by rfl)
    (hs : swapsWith (.Call (.Attribute (.Name sf p5) "adjlist_inner_dict_factory" p6) [] [] p7) (some (.Subscript (.Attribute (.Name sf p1) "_pred" p2) (.Name x p3) p4)) p8.line env = pure false := by rfl) :
    wpAny (model prog w) A (execs (.Assign [.Subscript (.Attribute (.Name sf p1) "_pred" p2) (.Name x p3) p4] (.Call (.Attribute (.Name sf p5) "adjlist_inner_dict_factory" p6) [] [] p7) p8 :: rest) env) Q E s := by
  obtain ⟨ks, es, hsA, rs⟩ := R.pred B.pred
  refine x_setG S ?_ hs
  refine ev_pic (pl := pl) S Z F.toKA F.mInner R B.self (h0 _ _) (fun _ _ _ _ _ => by cases σ.adj <;> rfl) rfl rfl (fun s₄ S₄ => ⟨S₄.kin Z, ?_⟩) he
  refine inner_ok F S₄ Z hA fun b s₅ hb S₅ _ => ?_
  have nsb : d ≠ b := fun q => by rw [q, hb] at hsA; cases hsA
  have hρb := R.none hb
  have R₂ := R.temp hρb (.di [] none)
  refine ⟨fr, _, _, d, u, ks, es, S₅, pu_pred (h0 _ _) Z F.toKA R₂ B.self B.pred, h1 _, (upd_ne _ _ nsb).trans hsA, by rw [rs.len]; omega, fun s₆ S₆ => ?_⟩
  exact q _ _ _ S₆ (mv_pred R₂ B.pred ((upd_ne _ _ nsb).trans hsA) hu hρb (upd_self ..)) (((Keep.refl.new hb).set B.pred).take hb hρb rfl) (B.take hρb trivial)
theorem x_newNode {sf x : Str} {p1 p2 p3 p4 p5 p6 p7 p8 : Pos} {g n sA d : Addr} {u : Int} {rest : List Stmt} {Q : Flow → Shared → Prop} {pl : Sem Bool} (F : KF K) (Z : Sta K base) (S : St prog w base os ((env, fm env.scope.names vs) :: fr) H s) (hA : A.depth < recursionLimit)
    (R : Rep w.params H ρ σ) (B : Pic ρ p g n sA d) (hu : u ∉ σ.nn) (hm : σ.nn.length ≤ 950)
    (h0 : ∀ H p0, Pu prog w base os fr H env vs (.Name sf p0) (· = .ref p)) (h1 : ∀ H, Pu prog w base os fr H env vs (.Name x p3) (IsI u))
    (q : ∀ s' H' ρ', St prog w base os ((env, fm env.scope.names vs) :: fr) H' s' → Rep w.params H' ρ' { σ with nn := σ.nn ++ [u] } → Keep (· = .nd u) H ρ H' ρ' → Pic ρ' p g n sA d → wpAny (model prog w) A (execs rest env) Q E s')
    (he : eval (.Call (.Attribute (.Name sf p5) "node_attr_dict_factory" p6) [] [] p7) env = (do
      let ov ← eval (.Name sf p5) env
      standAt p6.atName
      let (f, first) ← holding [ov] (getMethod ov "node_attr_dict_factory" pl)
      callWith p7 f first (backTo p7 (starEach [] env)) (backToKw p7 (keywordEach [] env))) := by rfl)
    (hs : swapsWith (.Call (.Attribute (.Name sf p5) "node_attr_dict_factory" p6) [] [] p7) (some (.Subscript (.Attribute (.Name sf p1) "_node" p2) (.Name x p3) p4)) p8.line env = pure false := by rfl) :
    wpAny (model prog w) A (execs (.Assign [.Subscript (.Attribute (.Name sf p1) "_node" p2) (.Name x p3) p4] (.Call (.Attribute (.Name sf p5) "node_attr_dict_factory" p6) [] [] p7) p8 :: rest) env) Q E s := by
  obtain ⟨ks, es, hsA, rs⟩ := R.node B.node
  refine x_setG S ?_ hs
  refine ev_pic (pl := pl) S Z F.toKA F.mNodeAttr R B.self (h0 _ _) (fun _ _ _ _ _ => by cases σ.adj <;> rfl) rfl rfl (fun s₄ S₄ => ⟨S₄.kin Z, ?_⟩) he
  refine nodeAttr_ok F S₄ Z hA fun b s₅ hb _ S₅ => ?_
  have nsb : n ≠ b := fun q => by rw [q, hb] at hsA; cases hsA
  have hρb := R.none hb
  have R₂ := R.temp hρb (.ds [])
  refine ⟨fr, _, _, n, u, ks, es, S₅, pu_node (h0 _ _) Z F.toKA R₂ B.self B.node, h1 _, (upd_ne _ _ nsb).trans hsA, by rw [rs.len]; omega, fun s₆ S₆ => ?_⟩
  exact q _ _ _ S₆ (mv_node R₂ B.node ((upd_ne _ _ nsb).trans hsA) hu hρb (upd_self ..)) (((Keep.refl.new hb).set B.node).take hb hρb rfl) (B.take hρb trivial)

theorem add_node_ok {u : Int} {t : Tok} {Q : Value → Shared → Prop} (F : KF K) (Z : Sta K base) (S : St prog w base os fr H s) (hA : A.depth + 2 < recursionLimit) (R : Rep w.params H ρ σ) (hp : ρ p = some .self) (hm : σ.Sm) (al : σ.Al)
    (h : ∀ s' H' ρ', St prog w base os fr H' s' → Rep w.params H' ρ' (σ.addNode u) → Keep (NewNode u) H ρ H' ρ' → Q .none s') : wpAny (model prog w) A (call (.ref 607) [.ref p, .int u t]) Q E s := by
  refine call_attr (D := dAddNode) (ex := []) (front := [("self", .ref p), ("node_for_adding", .int u t)]) (name := "attr") (n := 1) S Z (by omega) F.addNode (by decide +kernel) scAddNode rfl rfl (fun _ _ _ _ => ⟨_, rfl, fun _ => rfl⟩) .nil rfl rfl fun L d s₁ hd S₁ => ?_
  replace S₁ : St prog w base os ((dAddNode.env L, fm dAddNode.scope.names [some (.ref p), some (.int u t), some (.ref d), none]) :: fr) (upd H d (.ds [])) s₁ := S₁
  have C := scAddNode
  have hρd := R.none hd
  have R₁ : Rep w.params (upd H d (.ds [])) ρ σ := R.temp hρd _
  have k₁ : Keep (NewNode u) H ρ (upd H d (.ds [])) ρ := Keep.refl.new hd
  obtain ⟨gA, nA, sA, pA, B⟩ := R.picOf hp
  obtain ⟨ks, es, hsA, rs⟩ := R₁.succ B.succ
  have hd₁ : upd H d (.ds []) d = some (.ds []) := upd_self ..
  generalize upd H d (.ds []) = H₁ at *
  rw [BodyOk]
  refine x_if S₁ (tu_notin (pu_i 1 C rfl rfl) (pu_succ (pu_v 0 C rfl rfl) Z F.toKA R₁ B.self B.succ) hsA rfl) fun s₂ S₂ => ?_
  rw [rs.isSome]
  by_cases hu : u ∈ σ.ns
  · rw [decide_eq_true hu]
    obtain ⟨kn, en, hnA, rn⟩ := R₁.node B.node
    obtain ⟨c, hv, hc⟩ := rn.find (k := u) (by rw [al.nn]; exact hu)
    have ec := R₁.nd hc
    have cd : c ≠ d := fun q => by subst q; rw [hρd] at hc; cases hc
    refine x_dsupd S₂ (pu_sub (pu_node (pu_v 0 C rfl rfl) Z F.toKA R₁ B.self B.node) (pu_i 1 C rfl rfl) hnA hv) (pu_v 2 C rfl rfl) ec hd₁ cd (by decide) rfl fun s₃ S₃ => ?_
    rw [show merged [] [] = ([] : List (Str × Value)) from rfl, upd_same ec] at S₃
    refine x_nil (x_nil (h s₃ _ ρ ⟨S₃.wd.pop, S₃.bare, S₃.os⟩ (by rw [Sg.addNode, if_pos hu]; exact R₁) k₁))
  · rw [decide_eq_false hu]
    refine x_if S₂ (tu_cmp (pu_v 1 C rfl rfl) pu_none (cmp_is _)) fun s₃ S₃ => ?_
    refine x_nil ?_
    refine x_newSucc F Z S₃ (by show A.depth + 1 < _; omega) R₁ B hu (Nat.le_trans hm.ns (by decide)) (fun _ _ => pu_v 0 C rfl rfl) (fun _ => pu_i 1 C rfl rfl) fun s₄ H₄ ρ₄ S₄ R₄ k₄ B₄ => ?_
    refine x_newPred F Z S₄ (by show A.depth + 1 < _; omega) R₄ B₄ (u := u) (by rw [al.np]; exact hu) (Nat.le_trans hm.np (by decide)) (fun _ _ => pu_v 0 C rfl rfl) (fun _ => pu_i 1 C rfl rfl) fun s₅ H₅ ρ₅ S₅ R₅ k₅ B₅ => ?_
    -- node
    obtain ⟨kn, en, hnA, rn⟩ := R₅.node B₅.node
    refine x_set2G 3 S₅ C rfl ?_
    refine ev_pic S₅ Z F.toKA F.mNodeAttr R₅ B₅.self (pu_v 0 C rfl rfl) (fun _ _ _ _ _ => by cases σ.adj <;> rfl) rfl rfl fun s₆ S₆ => ⟨S₆.kin Z, ?_⟩
    refine nodeAttr_ok F S₆ Z (by show A.depth + 1 < _; omega) fun c s₇ hc _ S₇ => ?_
    have nnc : nA ≠ c := fun q => by rw [q, hc] at hnA; cases hnA
    have hρc := R₅.none hc
    have R₆ := R₅.temp hρc (.ds [])
    refine ⟨fr, _, _, _, nA, u, kn, en, S₇, rfl, by show 3 < 4; decide, pu_node (pu_v 0 C rfl rfl) Z F.toKA R₆ B₅.self B₅.node, pu_i 1 C rfl rfl, (upd_ne _ _ nnc).trans hnA, by rw [rn.len]; have := hm.nn; exact Nat.le_trans this (by omega), fun s₈ S₈ => ?_⟩
    have R₇ := mv_node R₆ B₅.node ((upd_ne _ _ nnc).trans hnA) (by show u ∉ σ.nn; rw [al.nn]; exact hu) hρc (upd_self ..)
    have k₇ := ((k₄.mono (T' := NewNode u) fun r e => .inr (.inl e)).trans (k₅.mono fun r e => .inr (.inr e))).trans (((Keep.refl.new (d := .ds []) hc).set (d := .di (stored kn u (.ref c)) none) B₅.node).take hc hρc (r := .nd u) (.inl rfl))
    -- attr_dict.update(attr)
    have hd₇ := k₇.out d _ hd₁ hρd
    have cd : c ≠ d := fun q => by
      have := hd₇.2
      rw [← q, take_self] at this; cases this
    refine x_dsupd S₈ (pu_v 3 C rfl rfl) (pu_v 2 C rfl rfl) (R₇.nd (take_self ..)) hd₇.1 cd (by decide) rfl fun s₉ S₉ => ?_
    rw [show merged [] [] = ([] : List (Str × Value)) from rfl, upd_same (R₇.nd (take_self ..))] at S₉
    refine x_nil (x_nil (h s₉ _ _ ⟨S₉.wd.pop, S₉.bare, S₉.os⟩ (by rw [Sg.addNode, if_neg hu]; exact R₇) (k₁.trans k₇)))
end
end Mine

end

section
open PySem PySem.W PyProof.Rows PySem.Calls
set_option Elab.async false
set_option maxRecDepth 100000
set_option linter.unusedVariables false
namespace Mine

section
variable {prog : Program} {w : World} {K : Frag} {base : Heap} {os : Os} {A : Around} {E : Value → Shared → Prop} {fr : Frs} {H : Led} {s : Shared} {env : Env} {vs : List (Option Value)} {a p it l : Addr}
  {V V' : Value → Prop} {e e₁ e₂ e₃ : PySem.Expr} {k k' : Int} {pos np : Pos} {b b' : Bool} {Q : Flow → Shared → Prop} {rest : List Stmt}

/-- forget the object at a, whatever it is -/
def cut (H : Led) (a : Addr) : Led := fun b => if b = a then none else H b
theorem cut_ne (H : Led) {a b : Addr} (h : b ≠ a) : cut H a b = H b := by simp [cut, h]
theorem Wd.cut {h h' : Heap} (W : Wd prog w base fr H h) {d : Desc} (ha : H a = some d) (hs : Heap.ExtBut a h h') : Wd prog w base fr (cut H a) h' where
  stays := fun b o e => hs b o (fun q => by rw [q, (W.led a d ha).1.2] at e; cases e) (W.stays b o e)
  lim := W.lim
  frs := fun p hp => by
    let F := W.frs p hp
    have ne : p.1.locals ≠ a := fun q => by have := F.out; rw [q, ha] at this; cases this
    exact ⟨F.kind, F.frame, F.ns.extBut hs ne, F.fresh, by rw [cut_ne _ ne]; exact F.out, F.low⟩
  nd := W.nd
  led := fun b e hb => by
    have ne : b ≠ a := fun q => by rw [q] at hb; simp [Mine.cut] at hb
    rw [cut_ne _ ne] at hb
    let ⟨n, o', ho', hd'⟩ := W.led b e hb
    exact ⟨n, o', hs b o' ne ho', hd'⟩

/-- what an iterator gives, one after the other -/
def Itr (prog : Program) (w : World) (base : Heap) (os : Os) (it : Addr) (n : Nat) (V : Nat → Value → Prop) (D : Nat → Led → Prop) : Prop :=
  ∀ (A : Around) (E : Value → Shared → Prop) (Q : Option Value → Shared → Prop) (fr : Frs) (H : Led) (s : Shared) (i : Nat), A.handled = none → St prog w base os fr H s → D i H → i ≤ n →
    (i < n → ∀ v H' s', V i v → St prog w base os fr H' s' → D (i + 1) H' → (∀ a, a ≠ it → H' a = H a) → H' it ≠ none → Q (some v) s') →
    (i = n → ∀ H' s', St prog w base os fr H' s' → (∀ a, a ≠ it → H' a = H a) → Q none s') → wpAny (model prog w) A (pyNext (.ref it)) Q E s

def liD (it l : Addr) (items : List Value) (i : Nat) (H : Led) : Prop := H it = some (.fi "list_iterator" #[.ref l, .int i 0]) ∧ H l = some (.li items) ∧ it ≠ l
theorem itr_li {items : List Value} : Itr prog w base os it items.length (fun i v => items[i]? = some v) (liD it l items) := by
  intro A E Q fr H s i hh S ⟨h1, h2, ne⟩ hi q1 q2
  obtain ⟨o, ho, hc, hd⟩ := S.fi h1
  have L := S.li h2
  rcases Nat.lt_or_ge i items.length with hlt | hge
  · refine wpAny_pyNext_list_item ⟨o, ho, hc, hd⟩ L (x := items[i]) (by simp [hlt]) fun h' hit hs => ?_
    obtain ⟨o', ho', hc', hd'⟩ := hit
    exact q1 hlt _ _ _ (by simp [hlt]) (S.heap (t := s.toks) (S.wd.set (d := .fi "list_iterator" #[.ref l, .int (i + 1 : Nat) 0]) hs h1 ho' ⟨hc', hd'⟩)) ⟨upd_self .., (upd_ne _ _ ne.symm).trans h2, ne⟩ (fun a ha => upd_ne _ _ ha) (by rw [upd_self]; exact nofun)
  · have he : i = items.length := by omega
    refine wpAny_pyNext_list_end hh ⟨o, ho, hc, hd⟩ L (by simp [hge]) fun h' hs => ?_
    exact q2 he _ _ (S.heap (t := s.toks) (S.wd.cut h1 hs)) fun a ha => cut_ne _ ha
theorem iter_li {items : List Value} {Q : Value → Shared → Prop} (S : St prog w base os fr H s) (e : H l = some (.li items))
    (q : ∀ it s' H', H it = none → St prog w base os fr H' s' → liD it l items 0 H' → (∀ a, a ≠ it → H' a = H a) → Q (.ref it) s') : wpAny (model prog w) A (pyIter (.ref l)) Q E s := by
  refine wpAny_pyIter_list (S.li e) ?_
  have ne : s.heap.objs.size ≠ l := Ne.symm (Nat.ne_of_lt (S.wd.lt e))
  exact q _ _ (upd H s.heap.objs.size (.fi "list_iterator" #[.ref l, .int (0 : Nat) 0])) S.wd.freshH (S.heap (t := s.toks) (S.wd.push rfl ⟨rfl, rfl⟩)) ⟨upd_self .., (upd_ne _ _ ne.symm).trans e, ne⟩ fun a ha => upd_ne _ _ ha

def diD (it l : Addr) (kvs : List (Int × Value)) (ep : Nat) (i : Nat) (H : Led) : Prop := H it = some (.fi "dict_keyiterator" #[.ref l, .int i 0, .int kvs.length 0, .int ep 0]) ∧ H l = some (.di kvs (some ep)) ∧ it ≠ l
theorem itr_di {kvs : List (Int × Value)} {ep : Nat} : Itr prog w base os it kvs.length (fun i v => ∃ k, (kvs.map (·.1))[i]? = some k ∧ IsI k v) (diD it l kvs ep) := by
  intro A E Q fr H s i hh S ⟨h1, h2, ne⟩ hi q1 q2
  obtain ⟨o, ho, hc, hd⟩ := S.fi h1
  have L := S.dat h2
  rcases Nat.lt_or_ge i kvs.length with hlt | hge
  · refine wpAny_pyNext_dict_item ⟨o, ho, hc, hd⟩ L (k := kvs[i].1) (v := kvs[i].2) (by simp [hlt]) fun key h' hk hit hs => ?_
    obtain ⟨o', ho', hc', hd'⟩ := hit
    have hkey : IsI kvs[i].1 key := Value.isInt_shape hk
    exact q1 hlt _ _ _ ⟨kvs[i].1, by simp [hlt], hkey⟩ (S.heap (t := s.toks) (S.wd.set (d := .fi "dict_keyiterator" #[.ref l, .int (i + 1 : Nat) 0, .int kvs.length 0, .int ep 0]) hs h1 ho' ⟨hc', hd'⟩))
      ⟨upd_self .., (upd_ne _ _ ne.symm).trans h2, ne⟩ (fun a ha => upd_ne _ _ ha) (by rw [upd_self]; exact nofun)
  · have he : i = kvs.length := by omega
    refine wpAny_pyNext_dict_end hh ⟨o, ho, hc, hd⟩ L (by simp [hge]) fun h' hs => ?_
    exact q2 he _ _ (S.heap (t := s.toks) (S.wd.cut h1 hs)) fun a ha => cut_ne _ ha
theorem iter_di {kvs : List (Int × Value)} {ep : Nat} {Q : Value → Shared → Prop} (S : St prog w base os fr H s) (e : H l = some (.di kvs (some ep)))
    (q : ∀ it s' H', H it = none → St prog w base os fr H' s' → diD it l kvs ep 0 H' → (∀ a, a ≠ it → H' a = H a) → Q (.ref it) s') : wpAny (model prog w) A (pyIter (.ref l)) Q E s := by
  refine wpAny_pyIter_dict (S.nm e) (S.dat e) ?_
  have ne : s.heap.objs.size ≠ l := Ne.symm (Nat.ne_of_lt (S.wd.lt e))
  exact q _ _ (upd H s.heap.objs.size (.fi "dict_keyiterator" #[.ref l, .int (0 : Nat) 0, .int kvs.length 0, .int ep 0])) S.wd.freshH (S.heap (t := s.toks) (S.wd.push rfl ⟨rfl, rfl⟩)) ⟨upd_self .., (upd_ne _ _ ne.symm).trans e, ne⟩ fun a ha => upd_ne _ _ ha

def raD (it : Addr) (a : Int) (n : Nat) (i : Nat) (H : Led) : Prop := H it = some (.raw { cls := .type "range_iterator", data := .fields #[rawInt (a + (i : Nat)), rawInt ((n : Int) - (i : Nat)), rawInt 1] })
theorem itr_ra {a : Int} {n : Nat} : Itr prog w base os it n (fun i v => IsI (a + (i : Nat)) v) (raD it a n) := by
  intro A E Q fr H s i hh S h1 hi q1 q2
  obtain ⟨o, ho, hd⟩ := S.get h1
  cases (show o = _ from hd)
  rcases Nat.lt_or_ge i n with hlt | hge
  · refine wpAny_pyNext_range_item (show IsRangeIter s.heap it _ _ _ from ho) (by omega) fun h' hit hs => ?_
    have e1 : a + ((i + 1 : Nat) : Int) = a + (i : Int) + 1 := by push_cast; rw [Int.add_assoc]
    have e2 : (n : Int) - ((i + 1 : Nat) : Int) = (n : Int) - (i : Int) - 1 := by push_cast; omega
    have hit' : h'.get? it = some { cls := .type "range_iterator", data := .fields #[rawInt (a + ((i + 1 : Nat) : Int)), rawInt ((n : Int) - ((i + 1 : Nat) : Int)), rawInt 1] } := by rw [e1, e2]; exact hit
    exact q1 hlt _ _ _ ⟨_, rfl⟩ (S.heap (S.wd.set (d := .raw { cls := .type "range_iterator", data := .fields #[rawInt (a + ((i + 1 : Nat) : Int)), rawInt ((n : Int) - ((i + 1 : Nat) : Int)), rawInt 1] }) hs h1 hit' rfl)) (upd_self ..) (fun a ha => upd_ne _ _ ha) (by rw [upd_self]; exact nofun)
  · have he : i = n := by omega
    refine wpAny_pyNext_range_end hh (show IsRangeIter s.heap it _ _ _ from ho) (by omega) fun h' hs => ?_
    exact q2 he _ _ (S.heap (t := s.toks) (S.wd.cut h1 hs)) fun a ha => cut_ne _ ha

/-- the loop's turns -/
theorem loop_itr {x : Str} {body : List Stmt} {n : Nat} {V : Nat → Value → Prop} {D : Nat → Led → Prop} {R : Result → Shared → Prop} (c : Nat) (I : Itr prog w base os it n V D) (hh : A.handled = none) (C : ScOk env.scope) (hc : env.scope.names[c]? = some (x, .local))
    (J : Nat → Led → List (Option Value) → Prop) (hJ : ∀ i H H' vs, (∀ a, a ≠ it → H' a = H a) → J i H vs → J i H' vs) (hl : ∀ i H vs, J i H vs → c < vs.length)
    (S : St prog w base os ((env, fm env.scope.names vs) :: fr) H s) (hD : D 0 H) (h0 : J 0 H vs)
    (step : ∀ i v H vs s, i < n → V i v → J i H vs → D (i + 1) H → H it ≠ none → St prog w base os ((env, fm env.scope.names (vs.set c (some v))) :: fr) H s →
      wpAny (model prog w) A (execs body env) (fun f s' => match f with
        | .next | .cont => ∃ H' vs', St prog w base os ((env, fm env.scope.names vs') :: fr) H' s' ∧ D (i + 1) H' ∧ J (i + 1) H' vs'
        | _ => False) (fun _ _ => False) s)
    (fin : ∀ H vs s, J n H vs → St prog w base os ((env, fm env.scope.names vs) :: fr) H s → R (.ok .next) s) :
    codeAny (model prog w) A (.forLoop (.Name x np) (.ref it) body [] env) R s := by
  refine codeAny_forLoop (fun k s => ∃ i H vs, k = n - i ∧ i ≤ n ∧ St prog w base os ((env, fm env.scope.names vs) :: fr) H s ∧ D i H ∧ J i H vs) ?_ n ⟨0, H, vs, by omega, by omega, S, hD, h0⟩
  rintro k s ⟨i, H, vs, rfl, hi, S, hD, hJi⟩
  refine I A _ _ _ H s i hh S hD hi (fun hlt v H' s' hv S' hD' hsame hit => ?_) (fun he H' s' S' hsame => ?_)
  · have hJ' := hJ _ _ _ _ hsame hJi
    refine wpAny_assign_Name (st_local S' C hc rfl (hl _ _ _ hJ') fun s₂ S₂ => ?_)
    refine wpAny_mono (step i v H' vs s₂ hlt hv hJ' hD' hit S₂) (fun f s₃ q => ?_) fun _ _ z => z.elim
    cases f with
    | next => obtain ⟨H'', vs', q1, q2, q3⟩ := q; exact ⟨n - (i + 1), by omega, i + 1, H'', vs', rfl, hlt, q1, q2, q3⟩
    | cont => obtain ⟨H'', vs', q1, q2, q3⟩ := q; exact ⟨n - (i + 1), by omega, i + 1, H'', vs', rfl, hlt, q1, q2, q3⟩
    | brk => exact q.elim
    | ret v => exact q.elim
  · subst he
    exact wpAny_execs_nil (fin _ _ _ (hJ _ _ _ _ hsame hJi) S')
end
end Mine

end

section
open PySem PySem.W PyProof.Rows PySem.Calls
set_option Elab.async false
set_option maxRecDepth 100000
set_option linter.unusedVariables false
namespace Mine

section
variable {prog : Program} {w : World} {K : Frag} {base : Heap} {os : Os} {A : Around} {E : Value → Shared → Prop} {fr : Frs} {H : Led} {s : Shared} {env : Env} {vs : List (Option Value)} {a p it l : Addr}
  {V V' : Value → Prop} {e e₁ e₂ e₃ : PySem.Expr} {k k' : Int} {pos np : Pos} {b b' : Bool} {Q : Flow → Shared → Prop} {rest : List Stmt}

theorem Pu.go {Q : Value → Shared → Prop} (h : Pu prog w base os fr H env vs e V) (S : St prog w base os ((env, fm env.scope.names vs) :: fr) H s)
    (q : ∀ v s', V v → St prog w base os ((env, fm env.scope.names vs) :: fr) H s' → Q v s') : wpAny (model prog w) A (eval e env) Q E s := h A E Q s S q
theorem St.extBut (S : St prog w base os fr H s) {h' : Heap} {t : Nat} (hs : Heap.ExtBut s.heap.objs.size s.heap h') : St prog w base os fr H { s with heap := h', toks := t } :=
  S.heap (S.wd.keeps fun b o e => hs b o (Nat.ne_of_lt (Heap.lt_size e)) e)

theorem x_asG {x : Str} {fr₀ : Frs} {H₀ : Led} (i : Nat) (S₀ : St prog w base os fr₀ H₀ s) (C : ScOk env.scope) (hi : env.scope.names[i]? = some (x, .local))
    (h : wpAny (model prog w) A (eval e env) (fun v s₁ => ∃ fr H vs vs', St prog w base os ((env, fm env.scope.names vs) :: fr) H s₁ ∧ vs.set i (some v) = vs' ∧ i < vs.length ∧ ∀ s₂, St prog w base os ((env, fm env.scope.names vs') :: fr) H s₂ → wpAny (model prog w) A (execs rest env) Q E s₂) E s)
    (hs : swapsWith e (some (.Name x np)) pos.line env = pure false := by rfl) : wpAny (model prog w) A (execs (.Assign [.Name x np] e pos :: rest) env) Q E s :=
  wpAny_execs_cons (as_name C hi hs h)
/-- a display of a tuple: a new object -/
theorem ev_tuple {es : List PySem.Expr} {c : Nat} {Q : Value → Shared → Prop} (hp : es.all plainE = true)
    (h : evL (model prog w) A E env es (fun us s₁ => us.length ≤ 1000 ∧ ∃ fr H, St prog w base os fr H s₁ ∧ ∀ b s', H b = none → St prog w base os fr (upd H b (.tu us)) s' → Q (.ref b) s') s) : wpAny (model prog w) A (eval (.Tuple es c pos) env) Q E s :=
  wpAny_Tuple (spliced_evL hp (evL_mono h fun us s₁ ⟨hl, fr, H, S, q⟩ => ⟨by rw [sizeLine_eq]; omega, q _ _ S.wd.freshH (S.heap (t := s₁.toks) (S.wd.push rfl ⟨rfl, rfl, 0, rfl⟩))⟩))
theorem ev_list {es : List PySem.Expr} {Q : Value → Shared → Prop} (hp : es.all plainE = true)
    (h : evL (model prog w) A E env es (fun us s₁ => us.length ≤ 1000 ∧ ∃ fr H, St prog w base os fr H s₁ ∧ ∀ b s', H b = none → St prog w base os fr (upd H b (.li us)) s' → Q (.ref b) s') s) : wpAny (model prog w) A (eval (.List es pos) env) Q E s :=
  wpAny_List (spliced_evL hp (evL_mono h fun us s₁ ⟨hl, fr, H, S, q⟩ => ⟨by rw [sizeLine_eq]; omega, q _ _ S.wd.freshH (S.heap (t := s₁.toks) (S.wd.push rfl ⟨0, rfl⟩))⟩))

/-- x, y = e₁, e₂ : the names are stored from the last on -/
theorem x_pair {x y : Str} {p1 p2 p3 p4 : Pos} {c1 c2 : Nat} {v₁ v₂ : Value} (i j : Nat) (hh : A.handled = none) (S : St prog w base os ((env, fm env.scope.names vs) :: fr) H s) (C : ScOk env.scope)
    (hi : env.scope.names[i]? = some (x, .local)) (hj : env.scope.names[j]? = some (y, .local)) (hli : i < vs.length) (hlj : j < vs.length)
    (h1 : Pu prog w base os fr H env vs e₁ (· = v₁)) (h2 : Pu prog w base os fr H env vs e₂ (· = v₂)) (hp : [e₁, e₂].all plainE = true)
    (q : ∀ s', St prog w base os ((env, fm env.scope.names ((vs.set j (some v₂)).set i (some v₁))) :: fr) H s' → wpAny (model prog w) A (execs rest env) Q E s')
    (hs : swapsWithSole [.Tuple [.Name x p1, .Name y p2] c1 p3] (.Tuple [e₁, e₂] c2 p4) pos.line env = pure false := by rfl)
    (hw : swappedStores [.Tuple [.Name x p1, .Name y p2] c1 p3] (.Tuple [e₁, e₂] c2 p4) env = pure (some [x, y]) := by rfl) :
    wpAny (model prog w) A (execs (.Assign [.Tuple [.Name x p1, .Name y p2] c1 p3] (.Tuple [e₁, e₂] c2 p4) pos :: rest) env) Q E s := by
  refine wpAny_execs_cons (Assign_Tuple_swapped (names := [x, y]) ?_ hs hw)
  refine ev_tuple (base := base) (os := os) hp ?_
  refine h1 _ _ _ _ S fun _ s₁ e S₁ => ?_
  subst e
  refine h2 _ _ _ _ S₁ fun _ s₂ e S₂ => ?_
  subst e
  refine ⟨by simp, _, _, S₂, fun b s₃ hb S₃ => ?_⟩
  have T := S₃.tu (upd_self ..)
  have S₄ : St prog w base os ((env, fm env.scope.names vs) :: fr) H s₃ := ⟨S₃.wd.forget fun a d e => by
    rw [upd_ne _ _ (fun q => by rw [q, hb] at e; cases e)]; exact e, S₃.bare, S₃.os⟩
  refine unpackItems_tuple (items := [_, _].toArray) hh T fun h' hx => ?_
  have S₅ := S₄.extBut (t := s₃.toks) hx
  refine assignInOrder_cons (wpAny_bindName (st_local S₅ C hj rfl hlj fun s₆ S₆ => ?_))
  refine assignInOrder_cons (wpAny_bindName (st_local S₆ C hi rfl (by rw [List.length_set]; exact hli) fun s₇ S₇ => ?_))
  exact assignInOrder_nil (q s₇ S₇)
end
end Mine

end

section
open PySem PySem.W PyProof.Rows PySem.Calls
set_option Elab.async false
set_option maxRecDepth 100000
set_option linter.unusedVariables false
namespace Mine

section
variable {prog : Program} {w : World} {K : Frag} {base : Heap} {os : Os} {A : Around} {E : Value → Shared → Prop} {fr : Frs} {H : Led} {s : Shared} {env : Env} {vs : List (Option Value)} {p : Addr} {ρ : Rho} {σ : Sg}

theorem edgeAttr_ok {v : Value} {Q : Value → Shared → Prop} (F : KF K) (S : St prog w base os fr H s) (Z : Sta K base) (hA : A.depth < recursionLimit)
    (h : ∀ b s', H b = none → St prog w base os fr (upd H b (.di [] none)) s' → St prog w base os fr (upd H b (.ds [])) s' → Q (.ref b) s') : wpAny (model prog w) A (call (.ref 289) [v]) Q E s :=
  fac_ok (D := dEdgeAttr) F.edgeAttr rfl (by decide +kernel) scEdgeAttr rfl rfl (fun _ _ _ _ => rfl) rfl rfl S Z hA h

theorem addNode_mem {u v : Int} : v ∈ (σ.addNode u).ns ↔ v ∈ σ.ns ∨ v = u := by
  unfold Sg.addNode
  split
  · rename_i h; exact ⟨.inl, fun q => q.elim id fun q => q ▸ h⟩
  · simp
theorem addNode_al (al : σ.Al) {u : Int} : (σ.addNode u).Al := by
  unfold Sg.addNode
  split
  · exact al
  · exact ⟨by simp [al.nn], by simp [al.np]⟩
theorem addNode_so {u v : Int} : v ∉ σ.ns → v ≠ u → (σ.addNode u).so v = σ.so v := by
  intro h1 h2
  unfold Sg.addNode
  split
  · rfl
  · exact fset_ne _ _ h2

theorem addNode_so_old {u v : Int} (h : v ≠ u ∨ u ∈ σ.ns) : (σ.addNode u).so v = σ.so v := by
  unfold Sg.addNode
  split
  · rfl
  · rename_i q; exact fset_ne _ _ (h.resolve_right q)
theorem addNode_po_old {u v : Int} (h : v ≠ u ∨ u ∈ σ.ns) : (σ.addNode u).po v = σ.po v := by
  unfold Sg.addNode
  split
  · rfl
  · rename_i q; exact fset_ne _ _ (h.resolve_right q)
theorem addNode_so_new {u : Int} (h : u ∉ σ.ns) : (σ.addNode u).so u = [] := by
  unfold Sg.addNode; rw [if_neg h]; exact fset_self ..
theorem addNode_po_new {u : Int} (h : u ∉ σ.ns) : (σ.addNode u).po u = [] := by
  unfold Sg.addNode; rw [if_neg h]; exact fset_self ..

/-- if x not in self._succ: .. -/
theorem x_ensure {x : Str} {q1 q2 q3 q4 q5 q6 q7 q8 q9 a1 a2 a3 a4 a5 a6 a7 a8 b1 b2 b3 b4 b5 b6 b7 b8 c1 c2 c3 c4 c5 c6 c7 c8 : Pos} {c : Nat} {bad : List Stmt} {g n sA d : Addr} {u : Int} {t : Tok} {rest : List Stmt} {Q : Flow → Shared → Prop} {pl pl' pl'' : Sem Bool} (F : KF K) (Z : Sta K base)
    (S : St prog w base os ((env, fm env.scope.names vs) :: fr) H s) (hA : A.depth < recursionLimit) (R : Rep w.params H ρ σ) (B : Pic ρ p g n sA d) (al : σ.Al) (hm : σ.ns.length ≤ 950)
    (h0 : ∀ H p0, Pu prog w base os fr H env vs (.Name "self" p0) (· = .ref p)) (h1 : ∀ H p0, Pu prog w base os fr H env vs (.Name x p0) (· = .int u t))
    (q : ∀ s' H' ρ', St prog w base os ((env, fm env.scope.names vs) :: fr) H' s' → Rep w.params H' ρ' (σ.addNode u) → Keep (NewNode u) H ρ H' ρ' → Pic ρ' p g n sA d → (u ∈ σ.ns → ρ' = ρ) → wpAny (model prog w) A (execs rest env) Q E s')
    (he : eval (.Call (.Attribute (.Name "self" a5) "adjlist_inner_dict_factory" a6) [] [] a7) env = (do
      let ov ← eval (.Name "self" a5) env
      standAt a6.atName
      let (f, first) ← holding [ov] (getMethod ov "adjlist_inner_dict_factory" pl)
      callWith a7 f first (backTo a7 (starEach [] env)) (backToKw a7 (keywordEach [] env))) := by rfl)
    (he' : eval (.Call (.Attribute (.Name "self" b5) "adjlist_inner_dict_factory" b6) [] [] b7) env = (do
      let ov ← eval (.Name "self" b5) env
      standAt b6.atName
      let (f, first) ← holding [ov] (getMethod ov "adjlist_inner_dict_factory" pl')
      callWith b7 f first (backTo b7 (starEach [] env)) (backToKw b7 (keywordEach [] env))) := by rfl)
    (he'' : eval (.Call (.Attribute (.Name "self" c5) "node_attr_dict_factory" c6) [] [] c7) env = (do
      let ov ← eval (.Name "self" c5) env
      standAt c6.atName
      let (f, first) ← holding [ov] (getMethod ov "node_attr_dict_factory" pl'')
      callWith c7 f first (backTo c7 (starEach [] env)) (backToKw c7 (keywordEach [] env))) := by rfl) :
    wpAny (model prog w) A (execs (.If (.Compare (.Name x q1) [.NotIn] [.Attribute (.Name "self" q2) "_succ" q3] q4) [.If (.Compare (.Name x q5) [.Is] [.Constant .none c q6] q7) bad [] q8,
      .Assign [.Subscript (.Attribute (.Name "self" a1) "_succ" a2) (.Name x a3) a4] (.Call (.Attribute (.Name "self" a5) "adjlist_inner_dict_factory" a6) [] [] a7) a8,
      .Assign [.Subscript (.Attribute (.Name "self" b1) "_pred" b2) (.Name x b3) b4] (.Call (.Attribute (.Name "self" b5) "adjlist_inner_dict_factory" b6) [] [] b7) b8,
      .Assign [.Subscript (.Attribute (.Name "self" c1) "_node" c2) (.Name x c3) c4] (.Call (.Attribute (.Name "self" c5) "node_attr_dict_factory" c6) [] [] c7) c8] [] q9 :: rest) env) Q E s := by
  obtain ⟨ks, es, hsA, rs⟩ := R.succ B.succ
  have h2 : ∀ H p0, Pu prog w base os fr H env vs (.Name x p0) (IsI u) := fun H p0 => (h1 H p0).mono fun v e => ⟨t, e⟩
  refine x_if S (tu_notin (h2 _ _) (pu_succ (h0 _ _) Z F.toKA R B.self B.succ) hsA rfl) fun s₂ S₂ => ?_
  rw [rs.isSome]
  by_cases hu : u ∈ σ.ns
  · rw [decide_eq_true hu]
    refine x_nil (q s₂ H ρ S₂ (by rw [Sg.addNode, if_pos hu]; exact R) .refl B fun _ => rfl)
  · rw [decide_eq_false hu]
    refine x_if S₂ (tu_cmp (h1 _ _) pu_none (cmp_is _)) fun s₃ S₃ => ?_
    refine x_nil ?_
    refine x_newSucc F Z S₃ hA R B hu hm h0 (fun _ => h2 _ _) (fun s₄ H₄ ρ₄ S₄ R₄ k₄ B₄ => ?_) he
    refine x_newPred F Z S₄ hA R₄ B₄ (u := u) (by rw [al.np]; exact hu) (by show σ.np.length ≤ _; rw [al.np]; exact hm) h0 (fun _ => h2 _ _) (fun s₅ H₅ ρ₅ S₅ R₅ k₅ B₅ => ?_) he'
    refine x_newNode F Z S₅ hA R₅ B₅ (u := u) (by show u ∉ σ.nn; rw [al.nn]; exact hu) (by show σ.nn.length ≤ _; rw [al.nn]; exact hm) h0 (fun _ => h2 _ _) (fun s₆ H₆ ρ₆ S₆ R₆ k₆ B₆ => ?_) he''
    exact x_nil (q s₆ H₆ ρ₆ S₆ (by rw [Sg.addNode, if_neg hu]; exact R₆) (((k₄.mono fun r e => .inr (.inl e)).trans (k₅.mono fun r e => .inr (.inr e))).trans (k₆.mono fun r e => .inl e)) B₆ fun z => absurd z hu)

def Sg.edge (σ : Sg) (u v c cc : Int) : Sg := { σ with so := fset σ.so u (σ.so u ++ [v]), po := fset σ.po v (σ.po v ++ [u]), cw := fset2 σ.cw u v c, cc := fset2 σ.cc u v cc }
def Sg.addEdge (σ : Sg) (u v c cc : Int) : Sg := ((σ.addNode u).addNode v).edge u v c cc
/-- roles that adding an edge may give anew -/
def NewEdge (σ : Sg) (u v : Int) (r : Role) : Prop := r = .ed u v ∨ (u ∉ σ.ns ∧ NewNode u r) ∨ (v ∉ σ.ns ∧ NewNode v r)

theorem add_edge_body {u v c cc : Int} {t t' : Tok} {ex : List (Str × Value)} {L d : Addr} {Q : Value → Shared → Prop} (F : KF K) (Z : Sta K base) (hh : A.handled = none) (hA : A.depth + 2 < recursionLimit) (R : Rep w.params H ρ σ) (hp : ρ p = some .self) (al : σ.Al) (hm : σ.Sm)
    (S : St prog w base os ((dAddEdge.env L, fm dAddEdge.scope.names [some (.ref p), some (.int u t), some (.int v t'), some (.ref d), none, none, none]) :: fr) H s)
    (hd : H d = some (.ds ex)) (hρd : ρ d = none) (hE : Ed ex c cc) (hex : merged [] ex = ex) (huv : u ≠ v) (h1 : u ∈ σ.ns → v ∉ σ.so u) (h2 : v ∈ σ.ns → u ∉ σ.po v)
    (h : ∀ s' H' ρ', St prog w base os fr H' s' → Rep w.params H' ρ' (σ.addEdge u v c cc) → Keep (NewEdge σ u v) H ρ H' ρ' → Q .none s') : BodyOk prog w A dAddEdge L dAddEdge.body Q E s := by
  have C := scAddEdge
  obtain ⟨gA, nA, sA, pA, B⟩ := R.picOf hp
  rw [BodyOk]
  refine x_pair 4 5 (by exact hh) S C rfl rfl (by simp) (by simp) (pu_v 1 C rfl rfl) (pu_v 2 C rfl rfl) rfl fun s₁ S₁ => ?_
  replace S₁ : St prog w base os ((dAddEdge.env L, fm (dAddEdge.env L).scope.names [some (.ref p), some (.int u t), some (.int v t'), some (.ref d), some (.int u t), some (.int v t'), none]) :: fr) H s₁ := S₁
  refine x_ensure F Z S₁ (by show A.depth + 1 < _; omega) R B al (Nat.le_trans hm.ns (by decide)) (fun _ _ => pu_v 0 C rfl rfl) (fun _ _ => pu_v 4 C rfl rfl) fun s₂ H₂ ρ₂ S₂ R₂ k₂ B₂ o₂ => ?_
  have hm₂ : (σ.addNode u).ns.length ≤ 901 := by
    unfold Sg.addNode; have := hm.ns
    split
    · omega
    · simp; omega
  refine x_ensure F Z S₂ (by show A.depth + 1 < _; omega) R₂ B₂ (addNode_al al) (Nat.le_trans hm₂ (by decide)) (fun _ _ => pu_v 0 C rfl rfl) (fun _ _ => pu_v 5 C rfl rfl) fun s₃ H₃ ρ₃ S₃ R₃ k₃ B₃ o₃ => ?_
  have al₃ := addNode_al (addNode_al al (u := u)) (u := v)
  have f1 : v ∉ ((σ.addNode u).addNode v).so u := by
    rw [addNode_so_old (.inl huv)]
    by_cases z : u ∈ σ.ns
    · rw [addNode_so_old (.inr z)]; exact h1 z
    · rw [addNode_so_new z]; exact List.not_mem_nil
  have f2 : u ∉ ((σ.addNode u).addNode v).po v := by
    by_cases z : v ∈ (σ.addNode u).ns
    · rw [addNode_po_old (.inr z), addNode_po_old (.inl huv.symm)]
      exact h2 ((addNode_mem.mp z).resolve_right huv.symm)
    · rw [addNode_po_new z]; exact List.not_mem_nil
  have l1 : (((σ.addNode u).addNode v).so u).length ≤ 900 := by
    rw [addNode_so_old (.inl huv)]
    by_cases z : u ∈ σ.ns
    · rw [addNode_so_old (.inr z)]; exact hm.so u
    · rw [addNode_so_new z]; exact Nat.zero_le _
  have l2 : (((σ.addNode u).addNode v).po v).length ≤ 900 := by
    by_cases z : v ∈ (σ.addNode u).ns
    · rw [addNode_po_old (.inr z), addNode_po_old (.inl huv.symm)]; exact hm.po v
    · rw [addNode_po_new z]; exact Nat.zero_le _
  have k₂₃ : Keep (NewEdge σ u v) H ρ H₃ ρ₃ := by
    have e2 : Keep (NewEdge σ u v) H ρ H₂ ρ₂ := by
      by_cases z : u ∈ σ.ns
      · rw [o₂ z]; rw [o₂ z] at k₂; exact ⟨k₂.out, fun a r e _ => e, k₂.dom⟩
      · exact k₂.mono fun r q => .inr (.inl ⟨z, q⟩)
    have e3 : Keep (NewEdge σ u v) H₂ ρ₂ H₃ ρ₃ := by
      by_cases z : v ∈ (σ.addNode u).ns
      · rw [o₃ z]; rw [o₃ z] at k₃; exact ⟨k₃.out, fun a r e _ => e, k₃.dom⟩
      · exact k₃.mono fun r q => .inr (.inr ⟨fun y => z (addNode_mem.mpr (.inl y)), q⟩)
    exact e2.trans e3
  have mu : u ∈ ((σ.addNode u).addNode v).ns := addNode_mem.mpr (.inl (addNode_mem.mpr (.inr rfl)))
  have mv : v ∈ ((σ.addNode u).addNode v).np := by rw [al₃.np]; exact addNode_mem.mpr (.inr rfl)
  have eσ : σ.addEdge u v c cc = ((σ.addNode u).addNode v).edge u v c cc := rfl
  rw [eσ] at h
  generalize (σ.addNode u).addNode v = τ at *
  obtain ⟨ks, es, hsA, rs⟩ := R₃.succ B₃.succ
  obtain ⟨aU, hvU, hrU⟩ := rs.find mu
  obtain ⟨kvs, ep, hU, rU⟩ := R₃.sd hrU
  have hd₃ := k₂₃.out d _ hd hρd
  -- datadict = ..
  refine x_asG 6 S₃ C rfl (mcall (Pu.go (pu_sub (pu_adj (pu_v 0 C rfl rfl) Z F.toKA R₃ B₃.self B₃.succ) (pu_i 4 C rfl rfl) hsA hvU) S₃ fun _ s₄ x S₄ => ?_))
  subst x
  refine md_di PySem.F.slot_dict_get PySem.F.type_dict_get S₄ hU (cwB rfl ?_)
  refine Pu.go (pu_v 5 C rfl rfl) S₄ fun _ s₅ x S₅ => ?_
  subst x
  refine ev_pic S₅ Z F.toKA F.mEdgeAttr R₃ B₃.self (pu_v 0 C rfl rfl) (fun _ _ _ _ _ => by cases τ.adj <;> rfl) rfl rfl (fun s₆ S₆ => ⟨S₆.kin Z, ?_⟩)
  refine edgeAttr_ok F S₆ Z (by show A.depth + 1 < _; omega) fun b s₇ hb _ S₇ => ?_
  have hρb := R₃.none hb
  have aUb : aU ≠ b := fun q => by rw [q, hb] at hU; cases hU
  have db : b ≠ d := fun q => by rw [q, hd₃.1] at hb; cases hb
  refine di_get2 S₇ ((upd_ne _ _ aUb).trans hU) fun s₈ S₈ => ?_
  rw [rU.none f1]
  refine ⟨fr, _, _, _, S₈, rfl, by simp, fun s₉ S₉ => ?_⟩
  replace S₉ : St prog w base os ((dAddEdge.env L, fm (dAddEdge.env L).scope.names [some (.ref p), some (.int u t), some (.int v t'), some (.ref d), some (.int u t), some (.int v t'), some (.ref b)]) :: fr) (upd H₃ b (.ds [])) s₉ := S₉
  -- datadict.update(attr)
  refine x_dsupd S₉ (pu_v 6 C rfl rfl) (pu_v 3 C rfl rfl) (upd_self ..) ((upd_ne _ _ db.symm).trans hd₃.1) db (by rw [hE.2.2]; decide) rfl fun s₁₀ S₁₀ => ?_
  have uu : upd (upd H₃ b (.ds [])) b (.ds (merged [] ex)) = upd H₃ b (.ds ex) := by rw [hex]; funext a; simp only [upd]; split <;> rfl
  rw [uu] at S₁₀
  have R₄ := mv_ed (R₃.temp hρb (.ds ex)) hρb (upd_self ..) hE f1 f2
  have B₄ := B₃.take hρb (r := .ed u v) trivial
  have k₄ := (k₂₃.new (d := .ds ex) (k₂₃.non hb)).take (k₂₃.non hb) hρb (r := .ed u v) (.inl rfl)
  have hU₄ : upd H₃ b (.ds ex) aU = some (.di kvs ep) := (upd_ne _ _ aUb).trans hU
  have hrU₄ : (ρ₃.take (.ed u v) b) aU = some (.sd u) := take_old hρb hrU (by simp)
  have rb : (ρ₃.take (.ed u v) b) b = some (.ed u v) := take_self ..
  generalize upd H₃ b (.ds ex) = H₄ at *
  generalize ρ₃.take (.ed u v) b = ρ₄ at *
  -- self._succ[u][v] = datadict
  obtain ⟨ks₄, es₄, hsA₄, rs₄⟩ := R₄.succ B₄.succ
  obtain ⟨aU', hvU₄, hrU'⟩ := rs₄.find (k := u) mu
  cases R₄.inj _ _ _ hrU₄ hrU'
  obtain ⟨_, _, e, rU₄⟩ := R₄.sd hrU₄
  rw [hU₄] at e; cases e
  refine x_set S₁₀ (pu_v 6 C rfl rfl) (pu_sub (pu_succ (pu_v 0 C rfl rfl) Z F.toKA R₄ B₄.self B₄.succ) (pu_i 4 C rfl rfl) hsA₄ hvU₄) (pu_i 5 C rfl rfl) hU₄ (by rw [rU.len]; exact Nat.le_trans l1 (by decide)) fun s₁₁ S₁₁ => ?_
  have R₅ := so_set (ep := none) R₄ hrU₄ (rU₄.put f1 rb)
  have k₅ := k₄.set (d := .di (stored kvs v (.ref b)) none) hrU₄
  generalize upd H₄ aU (.di (stored kvs v (.ref b)) none) = H₅ at *
  -- self._pred[v][u] = datadict
  obtain ⟨kp, epp, hpA, rp⟩ := R₅.pred B₄.pred
  obtain ⟨aV, hvV, hrV⟩ := rp.find (k := v) mv
  obtain ⟨kq, eq, hV, rV⟩ := R₅.pd hrV
  refine x_set S₁₁ (pu_v 6 C rfl rfl) (pu_sub (pu_pred (pu_v 0 C rfl rfl) Z F.toKA R₅ B₄.self B₄.pred) (pu_i 5 C rfl rfl) hpA hvV) (pu_i 4 C rfl rfl) hV (by rw [rV.len]; exact Nat.le_trans l2 (by decide)) fun s₁₂ S₁₂ => ?_
  have R₆ := po_set (ep := none) R₅ hrV (rV.put f2 rb)
  exact x_nil (h s₁₂ _ _ ⟨S₁₂.wd.pop, S₁₂.bare, S₁₂.os⟩ R₆ (k₅.set hrV))
end
end Mine

end

section
open PySem PySem.W PyProof.Rows PySem.Calls
set_option Elab.async false
set_option maxRecDepth 100000
set_option linter.unusedVariables false
namespace Mine

abbrev wpT {α : Type} (M : Model) (A : Around) (c : Code) (t : Sem α) (Q : α → Shared → Prop) (E : Value → Shared → Prop) (s : Shared) : Prop := _root_.PySem.wpAt M A c t Q E s

section
variable {prog : Program} {w : World} {K : Frag} {base : Heap} {os : Os} {A : Around} {E : Value → Shared → Prop} {fr : Frs} {H : Led} {s : Shared} {env : Env} {vs : List (Option Value)} {a p it l : Addr}
  {V V' : Value → Prop} {e e₁ e₂ e₃ : PySem.Expr} {k k' : Int} {pos np : Pos} {b b' : Bool} {Q : Flow → Shared → Prop} {rest : List Stmt} {c : Code}

theorem at_any {α : Type} {M : Model} {t : Sem α} {Q : α → Shared → Prop} (h : wpAny M A t Q E s) : wpT M A c t Q E s := fun Γ p _ hΓ => h Γ p hΓ

abbrev BodyAt (prog : Program) (w : World) (A : Around) (D : Def) (L : Addr) (body : List Stmt) (Q : Value → Shared → Prop) (E : Value → Shared → Prop) (s : Shared) : Prop :=
  wpT (model prog w) (A.deeper (D.env L)) (.func body (D.env L)) (execs body (D.env L)) (fun fl s' => Q (retOf fl) s')
    (fun e s' => wpAny (model prog w) (A.deeper (D.env L)) (leaving (D.env L) e) (fun _ s'' => E e s'') E s') s

theorem call_bindAt {D : Def} {args : List Value} {kw : List (Str × Value)} {Q : Value → Shared → Prop} (S : St prog w base os fr H s) (Z : Sta K base) (hroom : A.depth < recursionLimit) (hD : D.In K)
    (hcell : ∀ x ∈ D.scope.names, x.2 ≠ .cell) (C : ScOk D.scope) (hco : D.scope.isCoroutine = false) (hgen : D.scope.isGenerator = false)
    (h : ∀ doc pm an ct, wpAny (model prog w) A.in1 (bindArgs (fnX D.name D.qual D.params D.body D.scope D.cl D.dV D.kV doc pm an D.cdv ct) ⟨args, kw⟩)
      (fun binds s₁ => ∃ H₁ n, St prog w base os fr H₁ s₁ ∧ binds.map (·.1) = (D.scope.names.map (·.1)).take binds.length ∧ (∀ x ∈ binds, D.scope.names.lookup x.1 = some .local) ∧
        ∀ L s₂, St prog w base os ((D.env L, fm D.scope.names (binds.map (fun p => some p.2) ++ List.replicate n none)) :: fr) H₁ s₂ → BodyAt prog w A D L D.body Q E s₂) E s) :
    wpAny (model prog w) A (call (.ref D.addr) args kw) Q E s := by
  obtain ⟨⟨oc, od, osl, doc, pm, an, ct, ho⟩, hcd⟩ := hD
  refine wpAny_call (codeAny_call_function (fd := fnX D.name D.qual D.params D.body D.scope D.cl D.dV D.kV doc pm an D.cdv ct) (body := D.body) hroom (S.kin Z _ _ ho) rfl hco hgen rfl (codeRec_of (S.kin Z) hcd) ?_)
  refine wpAny_mono (h doc pm an ct) (fun binds s₁ h₁ => ?_) fun _ _ e => e
  obtain ⟨H₁, n, S₁, hn, hl, k⟩ := h₁
  refine wpAny_newFunctionEnv hcell hl (fun h' hns hsb => ⟨(S₁.lim Z).fresh _ hsb, ?_⟩) C.kind
  have kp : ∀ b o, s₁.heap.get? b = some o → h'.get? b = some o := fun b o e => hsb.extBut b o (Nat.ne_of_lt (Heap.lt_size e)) (Heap.get?_push_of_some _ e)
  rw [fm_binds n C.nd hn] at hns
  have S₂ : St prog w base os ((D.env s₁.heap.objs.size, fm D.scope.names (binds.map (fun p => some p.2) ++ List.replicate n none)) :: fr) H₁ { s₁ with heap := h', toks := s₁.toks + binds.length } :=
    S₁.heap (S₁.wd.enter rfl C.kind rfl hns kp)
  refine ks_codeAny_funcAt (ks_wpAt_mono (k _ _ S₂) (fun fl s' q => ?_) fun e s' q => q)
  cases fl <;> exact q

/-- what the written part says of super() in a def -/
structure SuK (prog : Program) (K : Frag) (D : Def) (cc : Addr) : Prop where
  cl : D.cl = [(("__class__" : Str), cc)]
  cell : ∃ c d sl, K.lookup cc = some ⟨c, d, .cell (some (.ref peA)), sl⟩
  code : ∃ cda ccl cdd vs ccs file tf, D.cdv = .ref cda ∧ K.lookup cda = some ⟨ccl, cdd, .fields vs, ccs⟩ ∧ vs[2]? = some (.str file tf) ∧ ((prog.main.file : Str) == file) = true
  cls : (clsIn K peA).isSome = true
  sub : mroIn K peA (.ref peA) = some true
  sup : nsIn K mainGlobals "super" = some none
  top : (prog.main.scope.names.lookup ("super" : Str)).isSome = false
  opq : nsIn K cStatics "thirdparty.any" = some none
  ks : D.scope.names.lookup ("super" : Str) = some .globalImplicit
  kc : D.scope.names.lookup ("__class__" : Str) = some .free
  kself : D.scope.names[0]? = some (("self" : Str), NameKind.local)
  par : (D.params.posonlyargs ++ D.params.args).head?.map (·.arg) = some "self"

theorem boot_super : bootBuiltins "super" = some (.type "super") := by first | rfl | kernel_rfl
theorem su_base {D : Def} {cc L : Addr} {body : List Stmt} {p0 p1 : Pos} {attr : Str} {whole : Sem Value} {ρ : Rho} {σ : Sg} {P : Params} {Q : Value → Shared → Prop} (U : SuK prog K D cc) (hD : D.In K) (S : St prog w base os ((D.env L, fm D.scope.names vs) :: fr) H s) (Z : Sta K base) (C : ScOk D.scope) (R : Rep P H ρ σ) (hp : ρ p = some .self)
    (hv : vs[0]? = some (some (.ref p))) (hat : (attr == ("__class__" : Str)) = false)
    (h : ∀ so s', H so = none → St prog w base os ((D.env L, fm D.scope.names vs) :: fr) (upd H so (.raw (ks_superObj peA p peA))) s' → Q (.ref so) s') :
    wpT (model prog w) A (.func body (D.env L)) (attributeBase (.Call (.Name "super" p0) [] [] p1) attr (D.env L) whole) Q E s := by
  have X := S.kin Z
  obtain ⟨⟨oc, od, osl, doc, pm, an, ct, ho⟩, hcd⟩ := hD
  obtain ⟨cda, ccl, cdd, cvs, ccs, file, tf, hcdv, hcode, hfile0, hfile⟩ := U.code
  obtain ⟨c0, d0, sl0, hcell⟩ := U.cell
  obtain ⟨cd, hcls⟩ := Option.isSome_iff_exists.mp U.cls
  obtain ⟨mg, G⟩ := Z.glob
  obtain ⟨mb, B, hB⟩ := Z.bui
  obtain ⟨oD, hD1, hD2⟩ : ∃ oD, s.heap.get? peA = some oD ∧ oD.data = .cls cd := by
    have hD := hcls
    unfold clsIn at hD
    split at hD
    · rename_i c d cd' sl ho
      cases hD
      exact ⟨_, X _ _ ho, rfl⟩
    · cases hD
  obtain ⟨ar, har, har2⟩ := Option.map_eq_some_iff.mp U.par
  obtain ⟨dx, t, g, n, sx, px, m, h1, h2, _⟩ := R.pic hp
  have I := pic_inst S h1 h2
  refine ks_wpAt_super_base (env := D.env L) (f := D.addr) (cc := cda) U.ks U.kc hat rfl (X _ _ ho) rfl har hcdv (X _ _ hcode) rfl hfile0 hfile U.top ?_
  refine ks_loadName_global C.kind U.ks (loadGlobal_builtin (env := D.env L) (G.keeps S.keep) (mg_none_of Z.kin G U.sup) (B.keeps S.keep) ((hB _ (by decide +kernel)).trans boot_super) ⟨rfl, ?_⟩)
  refine wpAny_loadName_free (env := D.env L) (name := "__class__") (c := cc) C.kind U.kc (by show D.cl.lookup _ = _; rw [U.cl]; rfl) ⟨_, X _ _ hcell, rfl⟩ ?_
  rw [har2]
  refine wpAny_loadName_local C.kind (lookup_at C.nd U.kself) S.ns (fm_get C.nd U.kself hv) ?_
  refine ks_wpAny_isType_cls hD1 hD2 ⟨rfl, ?_⟩
  refine ks_wpAny_call_super hD1 hD2 I.at_ I.cls (fun c e => ?_) (looks_mroIn X U.sub) (fun h' e k => ?_)
  · have := I.no
    unfold notCls at this
    rw [e] at this
    exact Bool.noConfusion this
  · exact h _ _ S.wd.freshH (S.heap (t := s.toks) (S.wd.grow k (Heap.get?_none_of_le (Nat.le_refl _)) e rfl S.wd.low))

/-- super().name(..) : the call itself -/
theorem at_super {D : Def} {cc L f2 : Addr} {body : List Stmt} {p0 p1 apos cpos : Pos} {name : Str} {es : List PySem.Expr} {ks : List Keyword} {pl : Sem Bool} {ρ : Rho} {σ : Sg} {P : Params} {Q : Value → Shared → Prop} (U : SuK prog K D cc) (hD : D.In K)
    (hm : ks_superIn K peA peA name = some (some (.ref f2))) (hf : fnIn K f2 = true) (ht : typeIn K (.ref f2) = some (.type "function")) (S : St prog w base os ((D.env L, fm D.scope.names vs) :: fr) H s) (Z : Sta K base) (C : ScOk D.scope) (R : Rep P H ρ σ) (hp : ρ p = some .self)
    (hv : vs[0]? = some (some (.ref p))) (hat : (name == ("__class__" : Str)) = false) (hes : es.all plainE = true) (hks : ks.all (·.arg.isSome) = true)
    (h : ∀ H' s', Rep P H' ρ σ → Keep (fun _ => False) H ρ H' ρ → St prog w base os ((D.env L, fm D.scope.names vs) :: fr) H' s' → evL (model prog w) A E (D.env L) es (fun us s₁ => evL (model prog w) A E (D.env L) (ks.map (·.value)) (fun ws s₂ => ∃ fr', St prog w base os fr' H' s₂ ∧
      CC (model prog w) A (.ref f2) (.ref p :: us) ((kwNames ks).zip ws) Q E s₂) s₁) s')
    (he : eval (.Call (.Attribute (.Call (.Name "super" p0) [] [] p1) name apos) es ks cpos) (D.env L) = (do
      let ov ← attributeBase (.Call (.Name "super" p0) [] [] p1) name (D.env L) (eval (.Call (.Name "super" p0) [] [] p1) (D.env L))
      standAt apos.atName
      let (f, first) ← holding [ov] (getMethod ov name pl)
      callWith cpos f first (backTo cpos (starEach es (D.env L))) (backToKw cpos (keywordEach ks (D.env L)))) := by rfl) :
    wpT (model prog w) A (.func body (D.env L)) (eval (.Call (.Attribute (.Call (.Name "super" p0) [] [] p1) name apos) es ks cpos) (D.env L)) Q E s := by
  rw [he]
  refine _root_.PySem.wpAt_bind (ks_wpAt_mono (su_base U hD S Z C R hp hv hat fun so s₁ hso S₁ => ?_) (fun _ _ z => z) fun _ _ z => z)
  refine at_any (wpAny_bind (wpAny_standAt (wpAny_bind (wpAny_holding ?_))))
  have X := S₁.kin Z
  obtain ⟨oso, hoso, hq⟩ := S₁.get (upd_self ..)
  cases (show oso = _ from hq)
  obtain ⟨cd, hc⟩ := Option.isSome_iff_exists.mp U.cls
  obtain ⟨of, hof, hofc⟩ : ∃ of, s₁.heap.get? f2 = some of ∧ of.cls = .type "function" := by
    have ht' : (K.lookup f2).map (·.cls) = some (.type "function") := ht
    cases z : K.lookup f2 with
    | none => rw [z] at ht'; cases ht'
    | some of => rw [z] at ht'; exact ⟨of, X _ _ z, Option.some.inj ht'⟩
  have R₁ : Rep P (upd H so (.raw (ks_superObj peA p peA))) ρ σ := R.temp (R.none hso) _
  obtain ⟨dx, t, g, n, sx, px, m, h1, h2, _⟩ := R₁.pic hp
  have I := pic_inst S₁ h1 h2
  have hm' := hm
  unfold ks_superIn at hm'
  rw [hc] at hm'
  refine ks_wpAny_getMethod_super (h := s₁.heap) (g := s₁.gens) (d := s₁.drawn) (t := s₁.toks) (os := s₁.os) hoso (looks_opaque X U.opq) (l₀ := cd.mro) (fun A Q E s k q => wpAny_bind ((looks_clsIn X hc) A _ E s k (wpAny_pure q))) rfl X hm' hof hofc (ks_ne X I hc) hat ?_
  generalize hb : s₁.heap.objs.size = b
  have S₂ : St prog w base os ((D.env L, fm D.scope.names vs) :: fr) (upd (upd H so (.raw (ks_superObj peA p peA))) b (.raw (methodObj (.ref f2) (.ref p)))) { s₁ with heap := s₁.heap.push (methodObj (.ref f2) (.ref p)), toks := s₁.toks + 1 } := by
    have q := S₁.wd.push (o := methodObj (.ref f2) (.ref p)) (d := .raw (methodObj (.ref f2) (.ref p))) rfl rfl
    rw [hb] at q
    exact S₁.heap q
  have hbn : (upd H so (.raw (ks_superObj peA p peA))) b = none := by rw [← hb]; exact S₁.wd.freshH
  have k₁ : Keep (fun _ => False) H ρ (upd H so (.raw (ks_superObj peA p peA))) ρ := Keep.refl.new hso
  have h2b := h _ _ (R₁.temp (R₁.none hbn) _) (k₁.new (k₁.non hbn)) S₂
  refine cw (P := MethP K b f2 (.ref p)) hes hks (keeps_M hf) (evL_mono h2b fun us s₂ h₂ => evL_mono h₂ fun ws s₃ ⟨fr', S₃, h₃⟩ => ?_)
  obtain ⟨ob, hob, hq⟩ := S₃.get (upd_self ..)
  cases (show ob = _ from hq)
  exact ⟨⟨hob, S₃.kin Z⟩, wpAny_call (ks_codeAny_call_bound hob h₃)⟩
end
end Mine

end

section
open PySem PySem.W PyProof.Rows PySem.Calls
set_option Elab.async false
set_option maxRecDepth 100000
set_option linter.unusedVariables false
namespace Mine

abbrev Frs.envs (fr : Frs) : List Env := fr.map (·.1)
section
variable {prog : Program} {w : World} {base h h' : Heap} {os : Os} {A : Around} {E : Value → Shared → Prop} {fr : Frs} {H : Led} {s : Shared} {env : Env} {m m' : Map} {e : Addr} {cls : Value}

theorem Wd.fun (W : Wd prog w base fr H h) : h.FunFrames base fr.envs := by
  have : ∀ l : Frs, (∀ p ∈ l, FrOk base h H p) → h.FunFrames base l.envs := by
    intro l
    induction l with
    | nil => intro _; trivial
    | cons p l ih =>
      intro hp
      let F := hp p (.head _)
      obtain ⟨o, es, ep, ho, hd, _⟩ := F.ns
      refine ⟨by show p.1.scope.kind ≠ _; rw [F.kind]; decide, ⟨p.1.locals, o, F.frame, F.fresh, ho, fun vs q => by rw [hd] at q; cases q⟩, ih fun q hq => hp q (.tail _ hq)⟩
  exact this fr W.frs

theorem funs_to {B : Heap} : ∀ {l : List Env}, h.FunFrames B l → h'.FunFrames base l → h'.FunFrames B l
  | [], _, _ => trivial
  | _ :: _, ⟨k, ⟨L, o, hf, hn, _, _⟩, r⟩, ⟨_, ⟨L', o', hf', _, ho', hd'⟩, r'⟩ => by
    have e : L = L' := Option.some.inj (hf.symm.trans hf')
    subst e
    exact ⟨k, ⟨L, o', hf', hn, ho', hd'⟩, funs_to r r'⟩
/-- what the ledger knows lies in B, and B stays -/
structure InB (prog : Program) (w : World) (base : Heap) (H : Led) (B : Heap) : Prop where
  stays : base.StaysIn B
  led : ∀ a d, H a = some d → ∃ o, B.get? a = some o ∧ d.Of prog w o

theorem Wd.up {B : Heap} (W : Wd prog w base fr H h) (I : InB prog w base H B) (k : B.StaysIn h') (u : h.UpToSlots h') : Wd prog w base fr H h' where
  stays := fun b o e => k b o (I.stays b o e)
  lim := W.lim
  frs := fun p hp => let F := W.frs p hp; ⟨F.kind, F.frame, u.ns F.ns, F.fresh, F.out, F.low⟩
  nd := W.nd
  led := fun a d e => let ⟨o, ho, hd⟩ := I.led a d e; ⟨(W.led a d e).1, o, k _ _ ho, hd⟩

/-- in flight, between two defs -/
structure Fly (prog : Program) (w : World) (base : Heap) (os : Os) (fr : Frs) (H : Led) (e : Addr) (cls : Value) (s : Shared) : Prop where
  st : St prog w base os fr H s
  fl : ∃ B a0, InB prog w base H B ∧ Heap.FlyingW B fr.envs e cls a0 s.heap
/-- noted by the def at hand -/
structure Hld (prog : Program) (w : World) (base : Heap) (os : Os) (env : Env) (m : Map) (fr : Frs) (H : Led) (e : Addr) (cls : Value) (s : Shared) : Prop where
  st : St prog w base os ((env, m) :: fr) H s
  fl : ∃ B a0, InB prog w base H B ∧ Heap.HeldW B (env :: fr.envs) e cls a0 env.locals s.heap
/-- just made -/
structure Mad (prog : Program) (w : World) (base : Heap) (os : Os) (fr : Frs) (H : Led) (e : Addr) (cls : Value) (s : Shared) : Prop where
  st : St prog w base os fr H s
  no : H e = none
  nb : base.get? e = none
  ex : ∃ oe vs a0, s.heap.get? e = some oe ∧ oe.cls = cls ∧ oe.data = .fields vs ∧ vs[1]? = some .none ∧ vs[0]? = some a0

theorem Mad.bas (X : Mad prog w base os fr H e cls s) : ∃ B, InB prog w base H B ∧ B.StaysIn s.heap ∧ B.get? e = none ∧ s.heap.FunFrames B fr.envs := by
  obtain ⟨oe, vs, a0, he, _, hd, _⟩ := X.ex
  have W := X.st.wd
  have inA : ∀ env ∈ fr.envs, ∀ a, env.frame = some a → a ∈ e :: fr.envs.filterMap (·.frame) := fun env he a ha => .tail _ (List.mem_filterMap.mpr ⟨env, he, ha⟩)
  have fl : ∀ a, a ∈ fr.envs.filterMap (·.frame) → base.get? a = none ∧ H a = none := fun a ha => by
    obtain ⟨env, he, hf⟩ := List.mem_filterMap.mp ha
    obtain ⟨p, hp, rfl⟩ := List.mem_map.mp he
    let F := W.frs p hp
    have q : p.1.locals = a := Option.some.inj (F.frame.symm.trans hf)
    subst q
    exact ⟨F.fresh, F.out⟩
  refine ⟨hideAll s.heap (e :: fr.envs.filterMap (·.frame)), ⟨fun b o q => hideAll_get _ (W.stays b o q) fun hm => ?_, fun a d q => ?_⟩, fun b o q => of_hideAll _ q, hideAll_none _ (.head _), funFrames_hide W.fun inA⟩
  · rcases List.mem_cons.mp hm with rfl | hm
    · rw [X.nb] at q; cases q
    · rw [(fl b hm).1] at q; cases q
  · obtain ⟨o, ho, hd⟩ := X.st.get q
    refine ⟨o, hideAll_get _ ho fun hm => ?_, hd⟩
    rcases List.mem_cons.mp hm with rfl | hm
    · rw [X.no] at q; cases q
    · rw [(fl a hm).2] at q; cases q

variable {M : Model} {Q : Unit → Shared → Prop}
theorem St.popped (S : St prog w base os ((env, m) :: fr) H s) : St prog w base os fr H s := ⟨S.wd.pop, S.bare, S.os⟩
theorem mad_leave (hA : A.frames = some (env :: fr.envs)) (X : Mad prog w base os ((env, m) :: fr) H e cls s) (q : ∀ s', Fly prog w base os fr H e cls s' → Q () s') : wpAny M A (leaving env (.ref e)) Q E s := by
  obtain ⟨B, I, k, hn, F⟩ := X.bas
  obtain ⟨oe, vs, a0, he, hc, hd, h1, h0⟩ := X.ex
  subst hc
  refine wpAny_leaving_firstW hA F (X.st.wd.frs _ (.head _)).frame he k hn hd h1 h0 fun h' ⟨x1, ⟨_, _, x2⟩, x3, x4⟩ => q _ ⟨?_, B, a0, I, x1, hn, x2, x3⟩
  exact X.st.popped.heap (t := s.toks) (X.st.popped.wd.up I x1 x4)
theorem mad_look (hA : A.frames = some (env :: fr.envs)) (X : Mad prog w base os ((env, m) :: fr) H e cls s) (q : ∀ s', Hld prog w base os env m fr H e cls s' → Q () s') : wpAny M A (noteFrame (.ref e) env) Q E s := by
  obtain ⟨B, I, k, hn, F⟩ := X.bas
  obtain ⟨oe, vs, a0, he, hc, hd, h1, h0⟩ := X.ex
  subst hc
  have hf : env.frame = some env.locals := (X.st.wd.frs _ (.head _)).frame
  unfold noteFrame
  simp only [hf]
  refine wpAny_bind (wpAny_field he hd h1 ?_)
  rw [if_neg (by decide)]
  refine wpAny_entryW hA F hf he k hn hd (Array.getElem?_eq_some_iff.mp h1).1 h0 fun h' ⟨x1, x2, x3, x4⟩ => q _ ⟨X.st.heap (t := s.toks) (X.st.wd.up I x1 x4), B, a0, I, x1, hn, x2, x3⟩
theorem fly_leave (hA : A.frames = some (env :: fr.envs)) (X : Fly prog w base os ((env, m) :: fr) H e cls s) (q : ∀ s', Fly prog w base os fr H e cls s' → Q () s') : wpAny M A (leaving env (.ref e)) Q E s := by
  obtain ⟨B, a0, I, F⟩ := X.fl
  exact wpAny_leaves_onW hA (X.st.wd.frs _ (.head _)).frame F fun h' x1 x2 => q _ ⟨X.st.popped.heap (t := s.toks) (X.st.popped.wd.up I x1.1 x2), B, a0, I, x1⟩
theorem fly_look (hA : A.frames = some (env :: fr.envs)) (X : Fly prog w base os ((env, m) :: fr) H e cls s) (q : ∀ s', Hld prog w base os env m fr H e cls s' → Q () s') : wpAny M A (noteFrame (.ref e) env) Q E s := by
  obtain ⟨B, a0, I, F⟩ := X.fl
  exact wpAny_looks_onW hA (X.st.wd.frs _ (.head _)).frame F fun h' x1 x2 => q _ ⟨X.st.heap (t := s.toks) (X.st.wd.up I x1.1 x2), B, a0, I, x1⟩
theorem hld_land (X : Hld prog w base os env m fr H e cls s) (q : ∀ s', Fly prog w base os ((env, m) :: fr) H e cls s' → Q () s') : wpAny M A (setFlight (.ref e) none) Q E s := by
  obtain ⟨B, a0, I, F⟩ := X.fl
  exact wpAny_landsW F fun h' x1 x2 => q _ ⟨X.st.heap (t := s.toks) (X.st.wd.up I x1.1 x2), B, a0, I, x1⟩
theorem fly_land (X : Fly prog w base os ((env, m) :: fr) H e cls s) (q : ∀ s', Fly prog w base os ((env, m) :: fr) H e cls s' → Q () s') : wpAny M A (setFlight (.ref e) none) Q E s := by
  obtain ⟨B, a0, I, F⟩ := X.fl
  exact lands_againW F fun h' x1 x2 => q _ ⟨X.st.heap (t := s.toks) (X.st.wd.up I x1.1 x2), B, a0, I, x1⟩
theorem hld_again (X : Hld prog w base os env m fr H e cls s) (q : Q () s) : wpAny M A (noteFrame (.ref e) env) Q E s := by
  obtain ⟨B, a0, I, F⟩ := X.fl
  exact wpAny_noteFrame_againW (X.st.wd.frs _ (.head _)).frame F.2.2.2 q
theorem hld_leave (X : Hld prog w base os env m fr H e cls s) (q : ∀ s', Fly prog w base os fr H e cls s' → Q () s') : wpAny M A (leaving env (.ref e)) Q E s := by
  unfold leaving
  refine wpAny_bind (hld_again X (hld_land X fun s' Y => q s' ⟨Y.st.popped, ?_⟩))
  obtain ⟨B, a0, I, f1, f2, ⟨_, _, f3⟩, f4⟩ := Y.fl
  exact ⟨B, a0, I, f1, f2, f3, f4⟩
theorem hld_set (X : Hld prog w base os env m fr H e cls s) (q : ∀ s', Hld prog w base os env m fr H e cls s' → Q () s') : wpAny M A (setFlight (.ref e) env.frame) Q E s := by
  have hf : env.frame = some env.locals := (X.st.wd.frs _ (.head _)).frame
  obtain ⟨B, a0, I, hkb, hen, hl, oe, vs, T, oT, ts, he, hcls, hd, h1, hnT, hTe, hT, hdT, h3⟩ := X.fl
  have hsz3 : 3 < ts.size := (Array.getElem?_eq_some_iff.mp h3).1
  have other : ∀ b, b ≠ T → (s.heap.update T (Obj.mapFields (·.setIfInBounds 3 ((some env.locals).elim Value.none fun f => rawInt f)))).get? b = s.heap.get? b :=
    fun b hb => Heap.get?_update_other _ _ (Ne.symm hb)
  have noRecord : ∀ b o, s.heap.get? b = some o → (∀ vs, o.data ≠ .fields vs) → b ≠ T := fun b o hb hnf q => by
    rw [q, hT] at hb; injection hb with hb; subst hb; exact hnf ts hdT
  rw [hf]
  unfold setFlight
  refine wpAny_bind (wpAny_field he hd h1 ?_)
  rw [if_pos (show (Value.ref T != Value.none) = true from by simp)]
  have k' : B.StaysIn (s.heap.update T (Obj.mapFields (·.setIfInBounds 3 ((some env.locals).elim Value.none fun f => rawInt f)))) := fun b o hbo => (other b fun q => by rw [q, hnT] at hbo; cases hbo).trans (hkb b o hbo)
  refine wpAny_setField hT hdT hsz3 (q _ ⟨X.st.heap (t := s.toks) (X.st.wd.up I k' fun b o hb hnf => ⟨o.slots, (other b (noRecord b o hb hnf)).trans hb⟩), B, a0, I, k', hen,
    hl.of_keeps fun b o hb hnf => ⟨o, (other b (noRecord b o hb hnf)).trans hb, rfl⟩, ?_⟩)
  exact ⟨oe, vs, T, _, _, (other e (Ne.symm hTe)).trans he, hcls, hd, h1, hnT, hTe, Heap.get?_update_self _ hT (Obj.isFreed_of_fields (Obj.data_mapFields hdT _)), Obj.data_mapFields hdT _, by simp [hsz3]⟩
theorem Hld.tb (X : Hld prog w base os env m fr H e cls s) : ∃ oe vs T, s.heap.get? e = some oe ∧ oe.data = .fields vs ∧ vs[1]? = some (.ref T) := by
  obtain ⟨B, a0, I, hkb, hen, hl, oe, vs, T, oT, ts, he, hcls, hd, h1, _⟩ := X.fl
  exact ⟨oe, vs, T, he, hd, h1⟩
/-- passes on -/
theorem hld_pass {α : Type} {what : String} {Q : α → Shared → Prop} (X : Hld prog w base os env m fr H e cls s) (q : ∀ s', Hld prog w base os env m fr H e cls s' → E (.ref e) s') : wpAny M A (PySem.passOn what (.ref e) env : Sem α) Q E s := by
  obtain ⟨oe, vs, T, he, hd, h1⟩ := X.tb
  unfold PySem.passOn
  refine wpAny_bind (wpAny_field he hd h1 ?_)
  rw [if_neg (show ¬ ((Value.ref T == Value.none) = true) from by simp)]
  first
    | exact wpAny_bind (wpAny_pure (wpAny_bind (hld_set X fun s' Y => wpAny_throw (q s' Y))))
    | exact wpAny_bind (hld_set X fun s' Y => wpAny_throw (q s' Y))
theorem hld_back (X : Hld prog w base os env m fr H e cls s) (q : ∀ s', Hld prog w base os env m fr H e cls s' → E (.ref e) s') : cameBackBy M A env E (.ref e) s := by
  obtain ⟨oe, vs, T, he, hd, h1⟩ := X.tb
  unfold cameBackBy
  refine wpAny_bind (wpAny_field he hd h1 ?_)
  rw [if_neg (show ¬ ((Value.ref T == Value.none) = true) from by simp)]
  first
    | exact wpAny_bind (wpAny_pure (hld_set X fun s' Y => q s' Y))
    | exact hld_set X fun s' Y => q s' Y
/-- names of the def change while the exception is held -/
theorem Hld.local (X : Hld prog w base os env m fr H e cls s) {h' : Heap} {t : Nat} (hn : h'.Ns env.locals m') (hs : Heap.SameBut env.locals s.heap h') : Hld prog w base os env m' fr H e cls { s with heap := h', toks := t } := by
  have W := X.st.wd
  obtain ⟨B, a0, I, hkb, hen, hl, oe, vs, T, oT, ts, he, hcls, hd, h1, hnT, hTe, hT, hdT, h3⟩ := X.fl
  obtain ⟨oL, es, ep, hL, hLd, _⟩ := (W.frs _ (.head _)).ns
  have ne : ∀ b o ws, s.heap.get? b = some o → o.data = .fields ws → b ≠ env.locals := fun b o ws hb hd q => by
    rw [q] at hb; rw [show s.heap.get? env.locals = _ from hL] at hb; injection hb with hb; subst hb; rw [hLd] at hd; cases hd
  have hBL : B.get? env.locals = none := by
    obtain ⟨_, ⟨L, o, hf, hb, _⟩, _⟩ := hl
    have : env.locals = L := Option.some.inj ((W.frs _ (.head _)).frame.symm.trans hf)
    rw [this]; exact hb
  have Y : St prog w base os ((env, m') :: fr) H { s with heap := h', toks := t } := X.st.heap (W.local hn hs)
  refine ⟨Y, B, a0, I, fun b o q => (hs.2 b fun z => by rw [z, hBL] at q; cases q).trans (hkb b o q), hen, ?_, oe, vs, T, oT, ts, (hs.2 e (ne _ _ _ he hd)).trans he, hcls, hd, h1, hnT, hTe, (hs.2 T (ne _ _ _ hT hdT)).trans hT, hdT, h3⟩
  exact funs_to hl Y.wd.fun
end
end Mine

end

section
open PySem PySem.W PyProof.Rows PySem.Calls
set_option Elab.async false
set_option maxRecDepth 100000
set_option linter.unusedVariables false
namespace Mine

/-- the exception at e has no context -/
def Cx (e : Addr) (s : Shared) : Prop := ∃ oe vs, s.heap.get? e = some oe ∧ oe.data = .fields vs ∧ vs[2]? = some .none

section
variable {prog : Program} {w : World} {K : Frag} {base h h' : Heap} {os : Os} {A : Around} {E : Value → Shared → Prop} {fr : Frs} {H : Led} {s : Shared} {env : Env} {m m' : Map} {e : Addr} {cls : Value} {M : Model} {Q : Unit → Shared → Prop}

theorem traced_set {B : Heap} {l : List Env} {a0 fl : Value} {fo : Option Addr} (hkb : B.StaysIn s.heap) (hl : s.heap.FunFrames B l) (ht : s.heap.TracedAtW B e cls a0 fl)
    (q : ∀ h', B.StaysIn h' → h'.FunFrames B l → h'.TracedAtW B e cls a0 (fo.elim .none fun f => rawInt f) → s.heap.UpToSlots h' → h'.get? e = s.heap.get? e → Q () { s with heap := h' }) : wpAny M A (setFlight (.ref e) fo) Q E s := by
  obtain ⟨oe, vs, T, oT, ts, he, hcls, hd, h1, hnT, hTe, hT, hdT, h3⟩ := ht
  have hsz3 : 3 < ts.size := (Array.getElem?_eq_some_iff.mp h3).1
  have other : ∀ b, b ≠ T → (s.heap.update T (Obj.mapFields (·.setIfInBounds 3 (fo.elim Value.none fun f => rawInt f)))).get? b = s.heap.get? b := fun b hb => Heap.get?_update_other _ _ (Ne.symm hb)
  have noRecord : ∀ b o, s.heap.get? b = some o → (∀ vs, o.data ≠ .fields vs) → b ≠ T := fun b o hb hnf q => by
    rw [q, hT] at hb; injection hb with hb; subst hb; exact hnf ts hdT
  unfold setFlight
  refine wpAny_bind (wpAny_field he hd h1 ?_)
  rw [if_pos (show (Value.ref T != Value.none) = true from by simp)]
  refine wpAny_setField hT hdT hsz3 (q _ (fun b o hbo => (other b fun q => by rw [q, hnT] at hbo; cases hbo).trans (hkb b o hbo)) (hl.of_keeps fun b o hb hnf => ⟨o, (other b (noRecord b o hb hnf)).trans hb, rfl⟩)
    ?_ (fun b o hb hnf => ⟨o.slots, (other b (noRecord b o hb hnf)).trans hb⟩) (other e (Ne.symm hTe)))
  exact ⟨oe, vs, T, _, _, (other e (Ne.symm hTe)).trans he, hcls, hd, h1, hnT, hTe, Heap.get?_update_self _ hT (Obj.isFreed_of_fields (Obj.data_mapFields hdT _)), Obj.data_mapFields hdT _, by simp [hsz3]⟩

theorem Cx.of (x : Cx e s) {s' : Shared} (h : s'.heap.get? e = s.heap.get? e) : Cx e s' := by obtain ⟨oe, vs, he, r⟩ := x; exact ⟨oe, vs, h.trans he, r⟩
theorem hld_land2 (X : Hld prog w base os env m fr H e cls s) (cx : Cx e s) (q : ∀ s', Fly prog w base os ((env, m) :: fr) H e cls s' → Cx e s' → Q () s') : wpAny M A (setFlight (.ref e) none) Q E s := by
  obtain ⟨B, a0, I, f1, f2, f3, f4⟩ := X.fl
  exact traced_set f1 f3 f4 fun h' x1 x2 x3 x4 x5 => q _ ⟨X.st.heap (t := s.toks) (X.st.wd.up I x1 x4), B, a0, I, x1, f2, x2, x3⟩ (cx.of x5)
theorem fly_land2 (X : Fly prog w base os ((env, m) :: fr) H e cls s) (cx : Cx e s) (q : ∀ s', Fly prog w base os ((env, m) :: fr) H e cls s' → Cx e s' → Q () s') : wpAny M A (setFlight (.ref e) none) Q E s := by
  obtain ⟨B, a0, I, f1, f2, f3, f4⟩ := X.fl
  exact traced_set f1 f3 f4.at fun h' x1 x2 x3 x4 x5 => q _ ⟨X.st.heap (t := s.toks) (X.st.wd.up I x1 x4), B, a0, I, x1, f2, x2, x3⟩ (cx.of x5)
theorem mad_look2 (hA : A.frames = some (env :: fr.envs)) (X : Mad prog w base os ((env, m) :: fr) H e cls s) (cx : Cx e s) (q : ∀ s', Hld prog w base os env m fr H e cls s' → Cx e s' → Q () s') : wpAny M A (noteFrame (.ref e) env) Q E s := by
  obtain ⟨B, I, k, hn, F⟩ := X.bas
  obtain ⟨oe, vs, a0, he, hc, hd, h1, h0⟩ := X.ex
  obtain ⟨oe', vs', he', hd', h2⟩ := cx
  rw [he] at he'
  cases he'
  rw [hd] at hd'
  cases hd'
  subst hc
  have hf : env.frame = some env.locals := (X.st.wd.frs _ (.head _)).frame
  have hsz : 1 < vs.size := (Array.getElem?_eq_some_iff.mp h1).1
  unfold noteFrame
  simp only [hf]
  refine wpAny_bind (wpAny_field he hd h1 ?_)
  rw [if_neg (by decide)]
  have hene : e ∉ (env :: fr.envs).filterMap (·.frame) := fun hm => by
    obtain ⟨_, o, ho, hnf⟩ := F.mem hm
    rw [he] at ho; injection ho with ho; subst ho; exact hnf vs hd
  refine wpAny_bind (wpAny_frameOf_fun hA F hf fun h₁ hs₁ => ?_)
  refine wpAny_bind (wpAny_entryPlaceOf fun pl hpl => ?_)
  unfold EntryCells.newEntry newFields
  refine wpAny_bind (wpAny_newObj_type ?_ (hpl.sizeOk5 _ _ _ _ _))
  have he₁ : h₁.get? e = some oe := (hs₁.2.1 e hene).trans he
  have kb₁ : B.StaysIn h₁ := fun b o hbo => (hs₁.2.1 b fun hm => by rw [(F.mem hm).1] at hbo; cases hbo).trans (k b o hbo)
  generalize hob : ({ cls := .type "traceback", dict := none, data := .fields _ } : Obj) = tb
  have he₂ := Heap.get?_push_of_some (h := h₁) tb he₁
  have hTe : h₁.objs.size ≠ e := Nat.ne_of_gt (Heap.lt_size he₁)
  have hd₃ := Obj.data_mapFields hd (·.setIfInBounds 1 (Value.ref h₁.objs.size))
  have he₃ := Heap.get?_update_self (Obj.mapFields (·.setIfInBounds 1 (Value.ref h₁.objs.size))) he₂ (Obj.isFreed_of_fields hd₃)
  have tbf : tb.isFreed = false := by subst hob; rfl
  have hT₃ := (Heap.get?_update_other (h₁.push tb) (Obj.mapFields (·.setIfInBounds 1 (Value.ref h₁.objs.size))) (Ne.symm hTe)).trans (Heap.get?_push_size h₁ tbf)
  have keep : ∀ b o, b ≠ e → h₁.get? b = some o → ((h₁.push tb).update e (Obj.mapFields (·.setIfInBounds 1 (Value.ref h₁.objs.size)))).get? b = some o := fun b o hbe hb => by
    rw [Heap.get?_update_other _ _ (Ne.symm hbe)]; exact Heap.get?_push_of_some _ hb
  have noRecord : ∀ b o, s.heap.get? b = some o → (∀ vs, o.data ≠ .fields vs) → b ≠ e := fun b o hb hnf q => by
    rw [q, he] at hb; injection hb with hb; subst hb; exact hnf vs hd
  have x1 : B.StaysIn ((h₁.push tb).update e (Obj.mapFields (·.setIfInBounds 1 (Value.ref h₁.objs.size)))) := fun b o hbo => keep b o (fun q => by rw [q, hn] at hbo; cases hbo) (kb₁ b o hbo)
  have x4 : s.heap.UpToSlots ((h₁.push tb).update e (Obj.mapFields (·.setIfInBounds 1 (Value.ref h₁.objs.size)))) := fun b o hb hnf => by
    obtain ⟨sl, hs⟩ := hs₁.2.2 b o hb
    exact ⟨sl, keep b _ (noRecord b o hb hnf) hs⟩
  refine wpAny_setField he₂ hd hsz (q _ ⟨X.st.heap (t := s.toks) (X.st.wd.up I x1 x4), B, a0, I, x1, hn, F.of_keeps fun b o hb hnf => ?_, ?_⟩ ⟨_, _, he₃, hd₃, by rw [Array.getElem?_setIfInBounds_ne (by decide)]; exact h2⟩)
  · obtain ⟨sl, hs⟩ := x4 b o hb hnf
    exact ⟨_, hs, rfl⟩
  · subst hob
    exact ⟨_, _, h₁.objs.size, _, _, he₃, ⟨Obj.cls_mapFields _ _, by rw [Array.getElem?_setIfInBounds_ne (by decide)]; exact h0⟩, hd₃, by simp [hsz], kb₁.fresh, hTe, hT₃, rfl, by first | (simp; done) | (rcases hpl with rfl | ⟨_, _, _, _, _, _, _, rfl⟩ <;> simp)⟩

/-- a builtin exception that was made just now -/
theorem Mad.ofNew {cls : String} {h' : Heap} {t : Nat} (S : St prog w base os fr H s) (x : Heap.NewExc s.heap h' e cls) : Mad prog w base os fr H e (.type cls) { s with heap := h', toks := t } ∧ Cx e { s with heap := h', toks := t } := by
  obtain ⟨ob, tt, he, hc, hd⟩ := x.there
  refine ⟨⟨S.heap (S.wd.keeps x.keeps), ?_, ?_, ob, _, tt, he, hc, hd, rfl, rfl⟩, ob, _, he, hd, rfl⟩
  · cases q : H e with
    | none => rfl
    | some d => obtain ⟨o, ho, _⟩ := S.get q; rw [x.new] at ho; cases ho
  · cases q : base.get? e with
    | none => rfl
    | some o => have := S.wd.stays _ _ q; rw [x.new] at this; cases this
theorem Mad.ofMade {args : List Value} {h' : Heap} {t : Nat} (S : St prog w base os fr H s) (x : Heap.MadeExcOf s.heap h' e cls args) : Mad prog w base os fr H e cls { s with heap := h', toks := t } := by
  obtain ⟨tt, he, _, _⟩ := x.there
  refine ⟨S.heap (S.wd.keeps x.keeps), ?_, ?_, _, _, .ref tt, he, rfl, rfl, rfl, rfl⟩
  · cases q : H e with
    | none => rfl
    | some d => obtain ⟨o, ho, _⟩ := S.get q; rw [x.new] at ho; cases ho
  · cases q : base.get? e with
    | none => rfl
    | some o => have := S.wd.stays _ _ q; rw [x.new] at this; cases this
end
end Mine

end

section
open PySem PySem.W PyProof.Rows PySem.Calls
set_option Elab.async false
set_option maxRecDepth 100000
set_option linter.unusedVariables false
namespace Mine

/-- NetworkXError in the written part -/
def nxE : Addr := 200
structure ExK (K : Frag) : Prop where
  own : excIn K nxE [.type "Exception", .type "BaseException", .type "object"] "Exception.__new__" = true
  gl : nsIn K mainGlobals "NetworkXError" = some (some (.ref nxE))
  kts : ktsIn K nxE "BaseException" = true
  keep : keepIn K (.ref nxE) = true
  key : nsIn K mainGlobals "KeyError" = some none

section
variable {prog : Program} {w : World} {K : Frag} {base h h' : Heap} {os : Os} {A : Around} {E : Value → Shared → Prop} {fr : Frs} {H : Led} {s : Shared} {env : Env} {m m' : Map} {e : Addr} {cls : Value} {vs : List (Option Value)} {Q : Flow → Shared → Prop} {rest : List Stmt} {pos np : Pos} {V : Value → Prop}

theorem Sta.owns (Z : Sta K base) (X : ExK K) (S : St prog w base os fr H s) : ∃ mg, OwnCls "NetworkXError" nxE [.type "Exception", .type "BaseException", .type "object"] "Exception.__new__" mg s.heap := by
  obtain ⟨p, loose, mg, mb, T⟩ := Z.tr
  exact ⟨mg, own_of_in (S.kin Z) (T.keeps S.keep) X.gl X.own⟩

theorem call_nx {args : List Value} {Q : Value → Shared → Prop} (Z : Sta K base) (X : ExK K) (S : St prog w base os fr H s) (hl : args.length ≤ 100) (q : ∀ h' e, Heap.MadeExcOf s.heap h' e (.ref nxE) args → Q (.ref e) { s with heap := h' }) :
    wpAny (model prog w) A (call (.ref nxE) args) Q E s := by
  obtain ⟨mg, O⟩ := Z.owns X S
  obtain ⟨bm, N, nm, q', bs, hdct, sn, sub, ab, col, dd, k0, k1, k2, k3, k5, mN, hC, hN, hni, T⟩ := O.obj
  exact wpAny_call_exc_subT PySem.F.excBase_Exception T hC hN hni q (by rw [sizeLine_eq]; omega)

/-- raise NetworkXError("..") -/
theorem x_raise {msg : Str} {c : Nat} {p1 cpos : Pos} (i : Nat) (Z : Sta K base) (X : ExK K) (hh : A.handled = none) (C : ScOk env.scope) (hg : env.globals = mainGlobals) (S : St prog w base os ((env, fm env.scope.names vs) :: fr) H s)
    (hi : env.scope.names[i]? = some (("NetworkXError" : Str), NameKind.globalImplicit))
    (q : ∀ e s', Mad prog w base os ((env, fm env.scope.names vs) :: fr) H e (.ref nxE) s' → E (.ref e) s') :
    wpAny (model prog w) A (execs (.Raise (some (.Call (.Name "NetworkXError" np) [.Constant (.str msg) c p1] [] cpos)) none pos :: rest) env) Q E s := by
  obtain ⟨mg, O⟩ := Z.owns X S
  obtain ⟨bm, N, nm, q', bs, hdct, sn, sub, ab, col, dd, k0, k1, k2, k3, k5, mN, hC, hN, hni, T⟩ := O.obj
  have hb : bm.contains (.type "BaseException") = true := T.hasType (by decide)
  refine wpAny_execs_cons (wpAny_Raise_call_subT (nm := nm) (q := q') (N := N) (bs := bs) (hdct := hdct) (sn := sn) (sub := sub) (ab := ab) (col := col) (dd := dd) (k0 := k0) (k1 := k1) (k2 := k2) (k3 := k3) (k5 := k5) PySem.F.excBase_Exception hb hh (by rfl) hni (nm_global S Z C hg hi X.gl ⟨rfl, ?_⟩))
  refine evalArgs_evL (ks := []) (es := [.Constant (.str msg) c p1]) rfl rfl (wpAny_Constant_str ?_)
  refine ⟨rfl, by rw [sizeLine_eq]; simp, hC, hN, T, fun h' e hm => q e _ ?_⟩
  exact Mad.ofMade (S.toks (s.toks + 1)) hm

theorem excN (Z : Sta K base) (X : ExK K) (S : St prog w base os fr H s) {oe : Obj} (he : s.heap.get? e = some oe) (hc : oe.cls = .ref nxE) {Q : Bool → Shared → Prop} (q : Q true s) : wpAny (model prog w) A (excMatches (.ref e) (.ref nxE)) Q E s := by
  obtain ⟨nm, q', N, bs, bm, hdct, sn, sub, ab, col, dd, k0, k1, k2, k3, k5, newId, hC, hbase, hbT⟩ := kts_cls (S.kin Z) X.kts
  exact wpAny_excMatches_sub_self (h := s.heap) hC he hc hbase q

theorem Fly.there {prog : Program} {w : World} {base : Heap} {os : Os} {fr : Frs} {H : Led} {e : Addr} {cls : Value} {s : Shared} (X : Fly prog w base os fr H e cls s) : ∃ oe, s.heap.get? e = some oe ∧ oe.cls = cls := by
  obtain ⟨B, a0, I, F⟩ := X.fl
  exact F.there

/-- try: .. except NetworkXError: suite, where the body may raise it -/
theorem x_try {body : List Stmt} {b₀ : Stmt} {suite : List Stmt} {hpos : Pos} (i : Nat) (Z : Sta K base) (X : ExK K) (C : ScOk env.scope) (hg : env.globals = mainGlobals)
    (hi : env.scope.names[i]? = some (("NetworkXError" : Str), NameKind.globalImplicit))
    (h : wpAny (model prog w) A (execs body env) (fun f s₁ => match f with | .next => wpAny (model prog w) A (execs rest env) Q E s₁ | f => Q f s₁)
      (fun v s₁ => ∃ (e : Addr) (fr : Frs) (vs : List (Option Value)) (H : Led), v = .ref e ∧ A.frames = some (env :: Frs.envs fr) ∧ Fly prog w base os ((env, fm env.scope.names vs) :: fr) H e (.ref nxE) s₁ ∧
        ∀ s₂, St prog w base os ((env, fm env.scope.names vs) :: fr) H s₂ → wpAny (model prog w) (A.mark (some (.ref e))) (execs (b₀ :: suite) env) (fun f s₃ => match f with | .next => wpAny (model prog w) A (execs rest env) Q E s₃ | f => Q f s₃) (fun _ _ => False) s₂) s) :
    wpAny (model prog w) A (execs (.Try body [.ExceptHandler (some (.Name "NetworkXError" np)) none (b₀ :: suite) hpos] [] [] pos :: rest) env) Q E s := by
  refine wpAny_execs_cons (wpAny_Try_except (wpAny_mono h (fun f s₁ h₁ => ?_) fun v s₁ h₁ => ?_))
  · cases f <;> first | exact wpAny_execs_nil h₁ | exact h₁
  obtain ⟨e, fr, vs, H, rfl, hA, Y, k⟩ := h₁
  refine fly_look hA Y fun s₂ Y₂ => ?_
  refine hld_land Y₂ fun s₃ Y₃ => ?_
  refine wpAny_handleBy_cons (codeAny_handlers_test (nm_global Y₃.st Z C hg hi X.gl ?_)) (by intro q; cases q)
  obtain ⟨oe, he, hc⟩ := Y₃.there
  refine excN Z X Y₃.st he hc ?_
  refine codeAny_handlers_suite (fly_land Y₃ fun s₄ Y₄ => wpAny_mono (k s₄ Y₄.st) (fun f s₅ q => ?_) fun _ _ z => z.elim)
  cases f <;> exact q
end
end Mine

end

section
open PySem PySem.W PyProof.Rows PySem.Calls
set_option Elab.async false
set_option maxRecDepth 100000
set_option linter.unusedVariables false
namespace Mine

section
variable {prog : Program} {w : World} {K : Frag} {base h h' : Heap} {os : Os} {A : Around} {E : Value → Shared → Prop} {fr : Frs} {H : Led} {s : Shared} {env : Env} {m m' : Map} {e h0 : Addr} {cls : Value} {vs : List (Option Value)} {Q : Flow → Shared → Prop} {rest : List Stmt} {pos np : Pos} {V : Value → Prop}

theorem efv_own (Z : Sta K base) (X : ExK K) (S : St prog w base os fr H s) {t : Addr} {c : String} {Q : Value → Shared → Prop} {vs : Array Value} (he : s.heap.get? e = some { cls := .ref nxE, data := .fields vs }) (q : Q (.ref e) s) :
    wpAny (model prog w) A (excFromValue (.ref e) c) Q E s := by
  obtain ⟨nm, q', N, bs, bm, hdct, sn, sub, ab, col, dd, k0, k1, k2, k3, k5, newId, hC, hbase, hbT⟩ := kts_cls (S.kin Z) X.kts
  have hcB : (Value.ref nxE :: bm).contains (.type "BaseException") = true := by rw [List.contains_cons, hbase, Bool.or_true]
  obtain ⟨hp, g, d, tk, os'⟩ := s
  unfold excFromValue
  repeat (first | with_reducible refine wpAny_loadPart_at he ?_ | with_reducible refine wpAny_loadPart_at hC ?_ | (with_reducible refine wpAny_isSubtype_exc hC ?_; rw [hcB]) | wp_step)
  exact q
theorem efv_key {c : String} {Q : Value → Shared → Prop} {oe : Obj} {vs : Array Value} (he : s.heap.get? e = some oe) (hc : oe.cls = .type "KeyError") (hd : oe.data = .fields vs) (q : Q (.ref e) s) :
    wpAny (model prog w) A (excFromValue (.ref e) c) Q E s := by
  have hs := kr_isExc_KeyError
  obtain ⟨hp, g, d, tk, os'⟩ := s
  obtain ⟨oc, od, oda, osl⟩ := oe
  dsimp only at hc hd
  subst hc hd
  unfold excFromValue
  repeat (first | with_reducible refine wpAny_loadPart_at he ?_ | wp_step)
  exact q

theorem raised_own (Z : Sta K base) (X : ExK K) (S : St prog w base os fr H s) {Q : Value → Shared → Prop} {vs : Array Value} (he : s.heap.get? e = some { cls := .ref nxE, data := .fields vs }) (q : Q (.ref e) s) :
    wpAny (model prog w) A (do let e ← (if ← isType (.ref e) then holding [.ref e] (raisedFor (.ref e) (.ref e)) else raisedInstance (.ref e)); pure e) Q E s := by
  obtain ⟨nm, q', N, bs, bm, hdct, sn, sub, ab, col, dd, k0, k1, k2, k3, k5, newId, hC, hbase, hbT⟩ := kts_cls (S.kin Z) X.kts
  obtain ⟨hp, g, d, tk, os'⟩ := s
  repeat (first | with_reducible refine wpAny_loadPart_at he ?_ | with_reducible refine wpAny_loadPart_at hC ?_ | wp_step)
  exact q

theorem entry_unchain : entryFor table "proto.unchain" = some Builtin.«proto.unchain» := entryFor_of_tree (by kernel_rfl)
theorem raise_from {x c : Sem Value} {Q : Flow → Shared → Prop} (Z : Sta K base) (X : ExK K) (hA : A.handled = some (.ref h0))
    (h : wpAny (model prog w) A x (fun v s₁ => wpAny (model prog w) A c (fun cv s₂ => ∃ e t fr H, v = .ref e ∧ cv = .ref h0 ∧ St prog w base os fr H s₂ ∧ H e = none ∧ base.get? e = none ∧ s₂.heap.get? e = some { cls := .ref nxE, data := .fields #[.ref t, .none, .none, .none, .bool false, .none] } ∧ e ≠ h0 ∧ Cx h0 s₂ ∧
      (∃ o, s₂.heap.get? h0 = some o ∧ o.cls = .type "KeyError") ∧ ∀ s₃, Mad prog w base os fr H e (.ref nxE) s₃ → E (.ref e) s₃) E s₁) E s) : wpAny (model prog w) A (raiseStmt env (some x) (some c)) Q E s := by
  unfold raiseStmt
  dsimp only
  refine wpAny_bind (wpAny_mono h (fun v s₁ h₁ => ?_) fun _ _ z => z)
  refine wpAny_bind (wpAny_holding (wpAny_mono h₁ (fun cv s₂ h₂ => ?_) fun _ _ z => z))
  obtain ⟨e, t, fr, H, rfl, rfl, S, hno, hnb, he, ne, ⟨o0, v0, ho0, hd0, hcx⟩, ⟨o0', ho0', hc0⟩, k⟩ := h₂
  rw [ho0] at ho0'
  cases ho0'
  refine wpAny_bind (wpAny_pure ?_)
  refine wpAny_bind (wpAny_holding (efv_own Z X S (t := t) he ?_))
  dsimp only
  rw [if_neg (show ¬ ((Value.ref h0 == Value.none) = true) from by simp)]
  refine wpAny_bind (wpAny_holding (efv_key ho0 hc0 hd0 ?_))
  refine wpAny_bind (wpAny_setField_rec he (by simp) fun h₁ he₁ hs₁ => ?_)
  refine wpAny_bind (wpAny_setField_rec he₁ (by simp) fun h₂ he₂ hs₂ => ?_)
  have s12 := hs₁.trans hs₂
  have he₂' : h₂.get? e = some { cls := .ref nxE, dict := none, data := .fields #[.ref t, .none, .none, .ref h0, .bool true, .none], slots := #[] } := he₂
  have keep : ∀ h', Heap.SameBut e s₂.heap h' → ∀ a d, H a = some d → ∃ o, h'.get? a = some o ∧ d.Of prog w o := fun h' hs a d hd => by
    obtain ⟨o, ho, q⟩ := S.get hd
    exact ⟨o, (hs.2 a fun z => by rw [z, hno] at hd; cases hd).trans ho, q⟩
  have stays : ∀ h', Heap.SameBut e s₂.heap h' → base.StaysIn h' := fun h' hs b o q => (hs.2 b fun z => by rw [z, hnb] at q; cases q).trans (S.wd.stays b o q)
  have wd : ∀ h', Heap.SameBut e s₂.heap h' → Wd prog w base fr H h' := fun h' hs => ⟨stays h' hs, S.wd.lim, fun p hp => by
    let F := S.wd.frs p hp
    have nl : p.1.locals ≠ e := fun z => by
      obtain ⟨oL, _, _, hL, hLd, _⟩ := F.ns
      rw [z, he] at hL; cases hL; cases hLd
    exact ⟨F.kind, F.frame, F.ns.sameBut hs nl, F.fresh, F.out, F.low⟩, S.wd.nd, fun a d hd => ⟨(S.wd.led a d hd).1, keep h' hs a d hd⟩⟩
  have X₂ : K.In h₂ := Z.kin.keeps (stays h₂ s12)
  obtain ⟨nm, q', N, bs, bm, hdct, sn, sub, ab, col, dd, k0, k1, k2, k3, k5, newId, hC, hbase, hbT⟩ := kts_cls X₂ X.kts
  have ho2 : h₂.get? h0 = some o0 := (s12.2 h0 ne.symm).trans ho0
  obtain ⟨hp, g, d, tk, os'⟩ := s₂
  dsimp only at *
  repeat (first | with_reducible refine wpAny_loadPart_at he₂' ?_ | with_reducible refine wpAny_loadPart_at hC ?_ | wp_step)
  unfold raiseNew
  refine wpAny_bind (wpAny_handled ?_)
  rw [hA]
  dsimp only
  rw [if_pos (show (Value.ref h0 != Value.ref e) = true from by simp [ne.symm])]
  refine wpAny_bind (wpAny_holding (wpAny_runValue (codeAny_builtin entry_unchain ?_)))
  have ho2' : (⟨h₂, g, d, tk, os'⟩ : Shared).heap.get? h0 = some o0 := ho2
  unfold Builtin.«proto.unchain»
  refine wpAny_bind (wpAny_field ho2' hd0 hcx ?_)
  rw [if_pos (by simp)]
  refine wpAny_pure ?_
  refine wpAny_bind (wpAny_setField_rec (k := 2) (x := .ref h0) he₂' (by simp) fun h₃ he₃ hs₃ => ?_)
  have s13 := s12.trans hs₃
  refine wpAny_throw (k _ ⟨⟨wd h₃ s13, S.bare, S.os⟩, hno, hnb, _, _, .ref t, he₃, rfl, rfl, rfl, rfl⟩)
end
end Mine

end

section
open PySem PySem.W PyProof.Rows PySem.Calls
set_option Elab.async false
set_option maxRecDepth 100000
set_option linter.unusedVariables false
namespace Mine

section
variable {prog : Program} {w : World} {K : Frag} {base h h' : Heap} {os : Os} {A : Around} {E : Value → Shared → Prop} {fr : Frs} {H : Led} {s : Shared} {env : Env} {m m' : Map} {e h0 : Addr} {cls : Value} {vs : List (Option Value)} {Q : Flow → Shared → Prop} {rest : List Stmt} {pos np : Pos} {V : Value → Prop}

/-- gives a str of at most n signs, the heap as it was -/
def Sj (prog : Program) (w : World) (base : Heap) (os : Os) (fr : Frs) (H : Led) (env : Env) (vs : List (Option Value)) (e : PySem.Expr) (n : Nat) : Prop :=
  ∀ (A : Around) (E : Value → Shared → Prop) (Q : Value → Shared → Prop) (s : Shared), St prog w base os ((env, fm env.scope.names vs) :: fr) H s → (∀ x t k, x.length ≤ n → Q (.str x t) { s with toks := k }) → wpAny (model prog w) A (eval e env) Q E s
theorem sj_str {x : Str} {c : Nat} : Sj prog w base os fr H env vs (.Constant (.str x) c pos) x.length := fun A E Q s S q => wpAny_Constant_str (q x _ _ (Nat.le_refl _))
theorem sj_int {x : Str} {k : Int} {t : Tok} (i : Nat) (C : ScOk env.scope) (hi : env.scope.names[i]? = some (x, .local)) (hv : vs[i]? = some (some (.int k t))) (hk : k.natAbs.log2 < 1920) : Sj prog w base os fr H env vs (.FormattedValue (.Name x np) (-1) none pos) 1921 := fun A E Q s S q => by
  refine wpAny_FormattedValue_plain (nm_local S C hi hv (PySem.wpAny_formatField_int hk (q _ _ _ ?_)))
  have := int_text_length_le (a := k) (k := 1920) (by decide) hk
  rw [PySem.ofString_length]; exact this
theorem str_app (x y : Str) : (x ++ y).length = x.length + y.length := Str.length_append x y
theorem sj_join : ∀ {es : List PySem.Expr} {ns : List Nat} {acc : Str} {Q : Str → Shared → Prop} {s : Shared}, St prog w base os ((env, fm env.scope.names vs) :: fr) H s → es.length = ns.length → (∀ (i : Nat) (e : PySem.Expr) (n : Nat), es[i]? = some e → ns[i]? = some n → Sj prog w base os fr H env vs e n) → acc.length + ns.sum ≤ 100000 →
    (∀ x k, x.length ≤ 100000 → Q x { s with toks := k }) → Joins (model prog w) A E (evalEach es env) acc Q s
  | [], ns, acc, Q, s, S, hl, h, hz, q => by
    have := q acc s.toks (by omega)
    exact this
  | e :: es, [], acc, Q, s, S, hl, h, hz, q => by simp at hl
  | e :: es, n :: ns, acc, Q, s, S, hl, h, hz, q => by
    rw [List.sum_cons] at hz
    refine Joins_cons (h 0 e n rfl rfl _ _ _ _ S fun x t k hx => ⟨x, t, rfl, ?_, ?_⟩)
    · rw [str_app, sizeLine_eq]; omega
    · exact sj_join (S.toks k) (by simpa using hl) (fun i e n he hn => h (i + 1) e n he hn) (by rw [str_app]; omega) fun x k' hx => q x k' hx
theorem sj_joined {e₁ e₂ : PySem.Expr} {es : List PySem.Expr} (ns : List Nat) (hl : (e₁ :: e₂ :: es).length = ns.length) (h : ∀ (i : Nat) (e : PySem.Expr) (n : Nat), (e₁ :: e₂ :: es)[i]? = some e → ns[i]? = some n → Sj prog w base os fr H env vs e n) (hz : ns.sum ≤ 100000) :
    Sj prog w base os fr H env vs (.JoinedStr (e₁ :: e₂ :: es) pos) 100000 := fun A E Q s S q =>
  wpAny_JoinedStr (sj_join S hl h (by have : Str.empty.length = 0 := rfl; omega) fun x k hx => ⟨by rw [sizeLine_eq]; omega, q x _ _ hx⟩)

theorem boot_KeyError : bootBuiltins "KeyError" = some (.type "KeyError") := by first | rfl | kernel_rfl
theorem sub_key : isSubtype (.type "KeyError") (.type "KeyError") = pure true := by rw [isSubtype_type]; kernel_rfl

theorem x_tryKey {body : List Stmt} {parts : List PySem.Expr} {kp jp cpos ep rpos hpos : Pos} (i j l : Nat) (Z : Sta K base) (X : ExK K) (C : ScOk env.scope) (hg : env.globals = mainGlobals) (hb : env.builtins = builtinsNs)
    (hi : env.scope.names[i]? = some (("KeyError" : Str), NameKind.globalImplicit)) (hj : env.scope.names[j]? = some (("err" : Str), NameKind.local)) (hl : env.scope.names[l]? = some (("NetworkXError" : Str), NameKind.globalImplicit))
    (h : wpAny (model prog w) A (execs body env) (fun f s₁ => match f with | .next => wpAny (model prog w) A (execs rest env) Q E s₁ | f => Q f s₁)
      (fun v s₁ => ∃ (e : Addr) (fr : Frs) (vs : List (Option Value)) (H : Led), v = .ref e ∧ A.frames = some (env :: Frs.envs fr) ∧ Mad prog w base os ((env, fm env.scope.names vs) :: fr) H e (.type "KeyError") s₁ ∧ Cx e s₁ ∧ j < vs.length ∧
        Sj prog w base os fr H env (vs.set j (some (.ref e))) (.JoinedStr parts jp) 100000 ∧ ∀ x s₂ m, Hld prog w base os env m fr H x (.ref nxE) s₂ → E (.ref x) s₂) s) :
    wpAny (model prog w) A (execs (.Try body [.ExceptHandler (some (.Name "KeyError" kp)) (some "err") [.Raise (some (.Call (.Name "NetworkXError" np) [.JoinedStr parts jp] [] cpos)) (some (.Name "err" ep)) rpos] hpos] [] [] pos :: rest) env) Q E s := by
  refine wpAny_execs_cons (wpAny_Try_except (wpAny_mono h (fun f s₁ h₁ => ?_) fun v s₁ h₁ => ?_))
  · cases f <;> first | exact wpAny_execs_nil h₁ | exact h₁
  obtain ⟨e, fr, vs, H, rfl, hA, Y, cx, hjl, hJ, k⟩ := h₁
  refine mad_look2 hA Y cx fun s₂ Y₂ cx₂ => ?_
  refine hld_land2 Y₂ cx₂ fun s₃ Y₃ cx₃ => ?_
  obtain ⟨oe, he, hc⟩ := Y₃.there
  refine wpAny_handleBy_builtin_as (b := true) kr_isExc_KeyError kr_notTuple_KeyError sub_key (nm_builtin Y₃.st Z C hg hb hi ⟨X.key, boot_KeyError, by decide +kernel⟩ ⟨rfl, ⟨oe, he, hc⟩, ?_⟩)
  rw [if_pos rfl]
  refine fly_land2 Y₃ cx₃ fun s₄ Y₄ cx₄ => ?_
  obtain ⟨oe₄, he₄, hc₄⟩ := Y₄.there
  have hkj := kindAt C hj
  refine wpAny_storeName_local hkj Y₄.st.ns (fun h₅ hn₅ hs₅ => ?_) (by rw [C.kind]; rfl)
  have enl : e ≠ env.locals := fun q => by
    obtain ⟨oe', vs', he', hd', _⟩ := cx₄
    obtain ⟨oL, _, _, hL, hLd, _⟩ := Y₄.st.ns
    rw [q] at he'
    rw [he'] at hL; cases hL; rw [hd'] at hLd; cases hLd
  have e₅ := fm_put C.nd hj (v := .ref e) hjl
  unfold put at e₅
  rw [e₅] at hn₅
  generalize hs5 : ({ s₄ with heap := h₅, toks := s₄.toks + 1 } : Shared) = s₅
  have S₅ : St prog w base os ((env, fm env.scope.names (vs.set j (some (.ref e)))) :: fr) H s₅ := hs5 ▸ Y₄.st.heap (t := s₄.toks + 1) (Y₄.st.wd.local hn₅ hs₅)
  have hh5 : s₅.heap = h₅ := by rw [← hs5]
  have cx₅ : Cx e s₅ := cx₄.of (by rw [hh5]; exact hs₅.2 e enl)
  have he₅ : s₅.heap.get? e = some oe₄ := by rw [hh5]; exact (hs₅.2 e enl).trans he₄
  have hg' : (s₄.gens = s₅.gens ∧ s₄.drawn = s₅.drawn ∧ s₄.os = s₅.os ∧ s₄.toks + 1 = s₅.toks) := by subst hs5; exact ⟨rfl, rfl, rfl, rfl⟩
  clear hs5
  refine wpAny_execs_cons ?_
  rw [arm_exec_Raise]
  refine wpAny_bind (wpAny_standAt ?_)
  simp only [evalOpt, Option.map]
  refine raise_from (os := os) (h0 := e) Z X rfl ?_
  refine wpAny_bind (ev_call (nm_global S₅ Z C hg hl X.gl (cwK X.keep rfl rfl (hJ _ _ _ _ S₅ fun x t k₆ _ => ⟨(S₅.toks k₆).kin Z, ?_⟩))))
  refine call_nx Z X (S₅.toks k₆) (by simp) fun h₇ e' hm => ?_
  have S₇ : St prog w base os ((env, fm env.scope.names (vs.set j (some (.ref e)))) :: fr) H { s₅ with heap := h₇, toks := k₆ } := S₅.heap (S₅.wd.keeps hm.keeps)
  refine wpAny_bind (wpAny_standAt (wpAny_pure ?_))
  refine wpAny_bind (nm_local S₇ C hj (by rw [List.getElem?_set_self hjl]) (wpAny_bind (wpAny_standAt (wpAny_pure ?_))))
  have M := Mad.ofMade (t := k₆) S₅ hm
  obtain ⟨tt, hx, _, _⟩ := hm.there
  have ne : e' ≠ e := fun q => by have := hm.new; rw [q] at this; rw [he₅] at this; cases this
  obtain ⟨oc, ov, hoc, hod, ho2⟩ := cx₅
  refine ⟨e', tt, (env, fm env.scope.names (vs.set j (some (.ref e)))) :: fr, H, rfl, rfl, S₇, M.no, M.nb, hx, ne, ⟨oc, ov, hm.keeps _ _ hoc, hod, ho2⟩, ⟨oe₄, hm.keeps _ _ he₅, hc₄⟩, fun s₈ M₈ => ?_⟩
  refine mad_look (by exact hA) M₈ fun s₉ X₉ => ?_
  refine wpAny_nameGoes hkj X₉.st.ns (by rw [C.kind]; rfl) fun h₁₀ m₁₀ hn₁₀ hs₁₀ => ?_
  have X₁₀ := X₉.local (t := s₉.toks + 1) hn₁₀ hs₁₀
  refine hld_pass X₁₀ fun s₁₁ X₁₁ => ?_
  refine hld_again X₁₁ ?_
  exact hld_back X₁₁ fun s₁₂ X₁₂ => k _ _ _ X₁₂
end
end Mine

end

section
open PySem PySem.W PyProof.Rows PySem.Calls
set_option Elab.async false
set_option maxRecDepth 100000
set_option linter.unusedVariables false
namespace Mine

section
variable {prog : Program} {w : World} {K : Frag} {base h h' : Heap} {os : Os} {A : Around} {E : Value → Shared → Prop} {fr : Frs} {H : Led} {s : Shared} {env : Env} {m m' : Map} {a : Addr} {vs : List (Option Value)} {rest : List Stmt} {pos np : Pos} {V : Value → Prop}

theorem intsAre_of : ∀ {vs : List Value} {ks : List Int}, vs.length = ks.length → (∀ (j : Nat) (v : Value), vs[j]? = some v → ∃ k, ks[j]? = some k ∧ IsI k v) → IntsAre vs ks
  | [], [], _, _ => .nil
  | [], _ :: _, h, _ => by simp at h
  | _ :: _, [], h, _ => by simp at h
  | v :: vs, k :: ks, h, q => by
    obtain ⟨k', e, t, rfl⟩ := q 0 v rfl
    cases e
    exact .cons k t (intsAre_of (by simpa using h) fun j v hv => q (j + 1) v hv)

/-- list(d): its keys -/
theorem list_di {kvs : List (Int × Value)} {ep : Option Nat} {Q : Value → Shared → Prop} (hh : A.handled = none) (S : St prog w base os fr H s) (e : H a = some (.di kvs ep)) (hz : kvs.length ≤ 1000)
    (q : ∀ b us s', H b = none → St prog w base os fr (upd H b (.li us)) s' → IntsAre us (kvs.map (·.1)) → Q (.ref b) s') : wpAny (model prog w) A (call (.type "list") [.ref a]) Q E s := by
  obtain ⟨n, hat⟩ := (S.di e).dictAt
  refine kdl_call (kdl_dict (knd := intKind prog w) (kvs := kvs) (ep := n) (S.nm e)) hh hat (by rw [sizeLine_eq]; omega) fun h' tk acc c' hk hD hacc => ?_
  refine q _ acc.toList _ S.wd.freshH (S.heap (t := tk) (S.wd.grow hk (Heap.get?_none_of_le (Nat.le_refl _)) hD ⟨c', by rw [Array.toArray_toList]⟩ S.wd.low)) ?_
  refine intsAre_of (by rw [Array.length_toList, List.length_map]; exact hacc.1) fun j v hv => ?_
  obtain ⟨k, x, hkx, hi⟩ := hacc.2 j v (by rw [← Array.getElem?_toList]; exact hv)
  exact ⟨k, by rw [List.getElem?_map, hkx]; rfl, Value.isInt_shape hi⟩

theorem boot_list : bootBuiltins "list" = some (.type "list") := by first | rfl | kernel_rfl
theorem getD_last {l : List Int} (h : l ≠ []) : l.getD ((-1 + (l.length : Int)).toNat) 0 = l.getLast h := by
  have hp : 0 < l.length := List.length_pos_iff.mpr h
  have e : (-1 + (l.length : Int)).toNat = l.length - 1 := by omega
  rw [e, List.getLast_eq_getElem, List.getD_eq_getElem?_getD, List.getElem?_eq_getElem (by omega)]
  rfl
/-- list(d)[-1] -/
theorem ev_last {e : PySem.Expr} {kvs : List (Int × Value)} {ep : Option Nat} {p1 p2 p3 p4 p5 : Pos} {c : Nat} {ks : List Int} {Q : Value → Shared → Prop} (i : Nat) (Z : Sta K base) (hh : A.handled = none) (C : ScOk env.scope) (hg : env.globals = mainGlobals) (hb : env.builtins = builtinsNs)
    (hi : env.scope.names[i]? = some (("list" : Str), NameKind.globalImplicit)) (hK : nsIn K mainGlobals "list" = some none) (S : St prog w base os ((env, fm env.scope.names vs) :: fr) H s) (h1 : Pu prog w base os fr H env vs e (· = .ref a)) (he : H a = some (.di kvs ep)) (hz : kvs.length ≤ 1000)
    (hk : kvs.map (·.1) = ks) (hn : ks ≠ []) (hp : plainE e = true) (q : ∀ v s', IsI (ks.getLast hn) v → St prog w base os ((env, fm env.scope.names vs) :: fr) H s' → Q v s')
    (hs : ∀ b u, subscripted (.UnaryOp .USub (.Constant (.int 1) c p3) p4) false (.ref b) (.int (-1) u) = operate [.ref b, .int (-1) u] (getItem (.ref b) (.int (-1) u)) := by intros; with_unfolding_all rfl) :
    wpAny (model prog w) A (eval (.Subscript (.Call (.Name "list" p1) [e] [] p2) (.UnaryOp .USub (.Constant (.int 1) c p3) p4) p5) env) Q E s := by
  refine ev_sub (ev_call (nm_builtin S Z C hg hb hi ⟨hK, boot_list, by decide +kernel⟩ (cwT (by simp [hp]) (Pu.go h1 S fun _ s₁ x S₁ => ?_))))
  subst x
  refine list_di hh S₁ he hz fun b us s₂ hb₂ S₂ hI => ?_
  rw [hk] at hI
  refine wpAny_UnaryOp (wpAny_Constant_int (PyProof.Rows.neg_int ?_))
  have S₃ := (S₂.toks (s₂.toks + 1)).toks (s₂.toks + 1 + 1)
  have hp' : 0 < ks.length := List.length_pos_iff.mpr hn
  refine item_list_ints_negR (S₃.li (upd_self ..)) hI (by decide) (by omega) (by decide) (fun t => q _ _ ⟨t, ?_⟩ ?_) (hs _ _)
  · show Value.int (ks.getD ((-1 + (ks.length : Int)).toNat) 0) t = _
    rw [getD_last hn]
  · exact ⟨S₃.wd.forget fun a d e => by rw [upd_ne _ _ (fun q => by rw [q, hb₂] at e; cases e)]; exact e, S₃.bare, S₃.os⟩
end
end Mine

end

section
open PySem PySem.W PyProof.Rows PySem.Calls
set_option Elab.async false
set_option maxRecDepth 100000
set_option linter.unusedVariables false
namespace Mine

section
variable {prog : Program} {w : World} {K : Frag} {base h h' : Heap} {os : Os} {A : Around} {E : Value → Shared → Prop} {fr : Frs} {H : Led} {s : Shared} {env : Env} {m m' : Map} {a : Addr} {vs : List (Option Value)} {rest : List Stmt} {pos np : Pos} {V : Value → Prop} {Q : Flow → Shared → Prop} {e : PySem.Expr} {c : Code} {b : Bool}
theorem y_any {l : List Stmt} {M : Model} (h : wpAny M A (execs l env) Q E s) : wpT M A c (execs l env) Q E s := at_any h
theorem y_asG {x : Str} {fr₀ : Frs} {H₀ : Led} (i : Nat) (S₀ : St prog w base os fr₀ H₀ s) (C : ScOk env.scope) (hi : env.scope.names[i]? = some (x, .local))
    (h : wpAny (model prog w) A (eval e env) (fun v s₁ => ∃ fr H vs vs', St prog w base os ((env, fm env.scope.names vs) :: fr) H s₁ ∧ vs.set i (some v) = vs' ∧ i < vs.length ∧ ∀ s₂, St prog w base os ((env, fm env.scope.names vs') :: fr) H s₂ → wpT (model prog w) A c (execs rest env) Q E s₂) E s)
    (hs : swapsWith e (some (.Name x np)) pos.line env = pure false := by rfl) : wpT (model prog w) A c (execs (.Assign [.Name x np] e pos :: rest) env) Q E s :=
  ks_wpAt_execs_cons (at_any (as_name C hi hs h))
theorem y_as {x : Str} (i : Nat) (S : St prog w base os ((env, fm env.scope.names vs) :: fr) H s) (C : ScOk env.scope) (hi : env.scope.names[i]? = some (x, .local)) (h : Pu prog w base os fr H env vs e V) (hl : i < vs.length)
    (k : ∀ v s', V v → St prog w base os ((env, fm env.scope.names (vs.set i (some v))) :: fr) H s' → wpT (model prog w) A c (execs rest env) Q E s')
    (hs : swapsWith e (some (.Name x np)) pos.line env = pure false := by rfl) : wpT (model prog w) A c (execs (.Assign [.Name x np] e pos :: rest) env) Q E s :=
  y_asG i S C hi (h _ _ _ _ S fun v s₁ hv S₁ => ⟨fr, H, vs, _, S₁, rfl, hl, fun s₂ S₂ => k v s₂ hv S₂⟩) hs
theorem y_if {test : PySem.Expr} {body orelse : List Stmt} (S : St prog w base os ((env, fm env.scope.names vs) :: fr) H s) (h : Tu prog w base os fr H env vs test b)
    (k : ∀ s', St prog w base os ((env, fm env.scope.names vs) :: fr) H s' → wpT (model prog w) A c (execs (if b then body else orelse) env) (fun f s' => match f with | .next => wpT (model prog w) A c (execs rest env) Q E s' | f => Q f s') E s') :
    wpT (model prog w) A c (execs (.If test body orelse pos :: rest) env) Q E s :=
  ks_wpAt_execs_cons (ks_wpAt_If (at_any (h _ _ _ _ S fun s₁ S₁ => by have := k s₁ S₁; cases b <;> exact this)))
theorem y_nil {M : Model} (h : Q .next s) : wpT M A c (execs [] env) Q E s := at_any (wpAny_execs_nil h)
theorem y_expr (h : wpT (model prog w) A c (eval e env) (fun _ s' => wpT (model prog w) A c (execs rest env) Q E s') E s) (hi : interactive env = false := by rfl) (hs : swapsWith e none pos.line env = pure false := by rfl) :
    wpT (model prog w) A c (execs (.Expr e pos :: rest) env) Q E s := ks_wpAt_execs_cons (ks_wpAt_Expr_any h hi hs)

/-- a def without a dict of further names is called: its arguments are found in the written part -/
theorem call_peekAt {D : Def} {args : List Value} {kw binds : List (Str × Value)} {n : Nat} {Q : Value → Shared → Prop} (S : St prog w base os fr H s) (Z : Sta K base) (hroom : A.depth < recursionLimit) (hD : D.In K)
    (hcell : ∀ x ∈ D.scope.names, x.2 ≠ .cell) (C : ScOk D.scope) (hco : D.scope.isCoroutine = false) (hgen : D.scope.isGenerator = false)
    (hb : ∀ S doc pm an ct, peek K S (bindArgs (fnX D.name D.qual D.params D.body D.scope D.cl D.dV D.kV doc pm an D.cdv ct) ⟨args, kw⟩) = some binds)
    (hn : binds.map (·.1) = (D.scope.names.map (·.1)).take binds.length) (hl : (D.scope.names.take binds.length).all (fun p => match p.2 with | .local => true | _ => false) = true)
    (h : ∀ L s₂, St prog w base os ((D.env L, fm D.scope.names (binds.map (fun p => some p.2) ++ List.replicate n none)) :: fr) H s₂ → BodyAt prog w A D L D.body Q E s₂) :
    wpAny (model prog w) A (call (.ref D.addr) args kw) Q E s :=
  call_bindAt S Z hroom hD hcell C hco hgen fun doc pm an ct => kp_binds (S.kin Z) (fun S => hb S doc pm an ct) _ _ _ _ ⟨H, n, S, hn, bind_names C hn hl, h⟩
end
end Mine

end

section
open PySem PySem.W PyProof.Rows PySem.Calls
set_option Elab.async false
set_option maxRecDepth 100000
set_option linter.unusedVariables false
namespace Mine

def dHalf : Def := mkD 839 "add_half_edge" "PlanarEmbedding.add_half_edge" (subAt 16 6) [(("__class__" : Str), 782)] .none (.ref 831)
theorem scHalf : ScOk dHalf.scope := ScOk.of (by decide +kernel)
/-- the names of add_half_edge, bound -/
def HalfB (K : Frag) (kw : List (Str × Value)) (c cc : Value) : Prop := ∀ S doc pm an ct p e f, peek K S (bindArgs (fnX dHalf.name dHalf.qual dHalf.params dHalf.body dHalf.scope dHalf.cl dHalf.dV dHalf.kV doc pm an dHalf.cdv ct) ⟨[p, e, f], kw⟩) =
  some [(("self" : Str), p), (("start_node" : Str), e), (("end_node" : Str), f), (("cw" : Str), c), (("ccw" : Str), cc)]
structure KG (prog : Program) (K : Frag) : Prop extends KF K, ExK K where
  half : dHalf.In K
  suHalf : SuK prog K dHalf 782
  mHalf : MethK K "add_half_edge" 839
  hb0 : HalfB K [] .none .none
  hb1 : ∀ v, HalfB K [(("cw" : Str), v)] v .none
  hb2 : ∀ v, HalfB K [(("ccw" : Str), v)] .none v
  hb3 : ∀ v v', HalfB K [(("cw" : Str), v), (("ccw" : Str), v')] v v'
  supEdge : ks_superIn K peA peA "add_edge" = some (some (.ref 635))
  fnEdge : fnIn K 635 = true
  tyEdge : typeIn K (.ref 635) = some (.type "function")
  bList : nsIn K mainGlobals "list" = some none
end Mine

end

section
open PySem PySem.W PyProof.Rows PySem.Calls
set_option Elab.async false
set_option maxRecDepth 100000
set_option linter.unusedVariables false
namespace Mine

section
variable {prog : Program} {w : World} {K : Frag} {base : Heap} {os : Os} {A : Around} {E : Value → Shared → Prop} {fr : Frs} {H : Led} {s : Shared} {env : Env} {vs : List (Option Value)} {p : Addr} {ρ : Rho} {σ : Sg}

theorem ed_cw {c cc : Int} (t t' : Tok) : Ed [(("cw" : Str), .int c t), (("ccw" : Str), .int cc t')] c cc := ⟨⟨t, rfl⟩, ⟨t', rfl⟩, rfl⟩
theorem ed_ccw {c cc : Int} (t t' : Tok) : Ed [(("ccw" : Str), .int cc t'), (("cw" : Str), .int c t)] c cc := ⟨⟨t, rfl⟩, ⟨t', rfl⟩, rfl⟩
theorem add_edge_cw {u v c cc : Int} {t t' t₁ t₂ : Tok} {Q : Value → Shared → Prop} (F : KF K) (Z : Sta K base) (S : St prog w base os fr H s) (hh : A.handled = none) (hA : A.depth + 2 < recursionLimit) (R : Rep w.params H ρ σ) (hp : ρ p = some .self) (al : σ.Al) (hm : σ.Sm)
    (huv : u ≠ v) (h1 : u ∈ σ.ns → v ∉ σ.so u) (h2 : v ∈ σ.ns → u ∉ σ.po v)
    (h : ∀ s' H' ρ', St prog w base os fr H' s' → Rep w.params H' ρ' (σ.addEdge u v c cc) → Keep (NewEdge σ u v) H ρ H' ρ' → Q .none s') :
    CC (model prog w) A (.ref 635) [.ref p, .int u t, .int v t'] [(("cw" : Str), .int c t₁), (("ccw" : Str), .int cc t₂)] Q E s := by
  refine call_attrC (D := dAddEdge) (ex := [(("cw" : Str), .int c t₁), (("ccw" : Str), .int cc t₂)]) (front := [("self", .ref p), ("u_of_edge", .int u t), ("v_of_edge", .int v t')]) (name := "attr") (n := 3) S Z (by omega) F.addEdge (by decide +kernel) scAddEdge rfl rfl
    (fun _ _ _ _ => ⟨_, rfl, fun _ => rfl⟩) (show [("cw" : Str), ("ccw" : Str)].Nodup by decide) rfl rfl fun L d s₁ hd S₁ => ?_
  have hρd := R.none hd
  refine add_edge_body (t := t) (t' := t') F Z hh hA (R.temp hρd _) hp al hm S₁ (upd_self ..) hρd (ed_cw t₁ t₂) rfl huv h1 h2 fun s' H' ρ' S' R' k' => h s' H' ρ' S' R' ((Keep.refl.new hd).trans k')
theorem add_edge_ccw {u v c cc : Int} {t t' t₁ t₂ : Tok} {Q : Value → Shared → Prop} (F : KF K) (Z : Sta K base) (S : St prog w base os fr H s) (hh : A.handled = none) (hA : A.depth + 2 < recursionLimit) (R : Rep w.params H ρ σ) (hp : ρ p = some .self) (al : σ.Al) (hm : σ.Sm)
    (huv : u ≠ v) (h1 : u ∈ σ.ns → v ∉ σ.so u) (h2 : v ∈ σ.ns → u ∉ σ.po v)
    (h : ∀ s' H' ρ', St prog w base os fr H' s' → Rep w.params H' ρ' (σ.addEdge u v c cc) → Keep (NewEdge σ u v) H ρ H' ρ' → Q .none s') :
    CC (model prog w) A (.ref 635) [.ref p, .int u t, .int v t'] [(("ccw" : Str), .int cc t₂), (("cw" : Str), .int c t₁)] Q E s := by
  refine call_attrC (D := dAddEdge) (ex := [(("ccw" : Str), .int cc t₂), (("cw" : Str), .int c t₁)]) (front := [("self", .ref p), ("u_of_edge", .int u t), ("v_of_edge", .int v t')]) (name := "attr") (n := 3) S Z (by omega) F.addEdge (by decide +kernel) scAddEdge rfl rfl
    (fun _ _ _ _ => ⟨_, rfl, fun _ => rfl⟩) (show [("ccw" : Str), ("cw" : Str)].Nodup by decide) rfl rfl fun L d s₁ hd S₁ => ?_
  have hρd := R.none hd
  refine add_edge_body (t := t) (t' := t') F Z hh hA (R.temp hρd _) hp al hm S₁ (upd_self ..) hρd (ed_ccw t₁ t₂) rfl huv h1 h2 fun s' H' ρ' S' R' k' => h s' H' ρ' S' R' ((Keep.refl.new hd).trans k')

/-- add_half_edge at a node without neighbours -/
theorem half_new {u v : Int} {t t' : Tok} {kw : List (Str × Value)} {Q : Value → Shared → Prop} (hb : HalfB K kw .none .none) (F : KG prog K) (Z : Sta K base) (S : St prog w base os fr H s) (hh : A.handled = none) (hA : A.depth + 4 < recursionLimit) (R : Rep w.params H ρ σ) (hp : ρ p = some .self) (al : σ.Al) (hm : σ.Sm)
    (huv : u ≠ v) (h0 : u ∈ σ.ns → σ.so u = []) (h2 : v ∈ σ.ns → u ∉ σ.po v)
    (h : ∀ s' H' ρ', St prog w base os fr H' s' → Rep w.params H' ρ' (σ.addEdge u v v v) → Keep (NewEdge σ u v) H ρ H' ρ' → Q .none s') :
    wpAny (model prog w) A (call (.ref 839) [.ref p, .int u t, .int v t'] kw) Q E s := by
  refine call_peekAt (D := dHalf) (n := 5) S Z (by omega) F.half (by decide +kernel) scHalf rfl rfl (fun S doc pm an ct => hb S doc pm an ct _ _ _) rfl rfl fun L s₁ S₁ => ?_
  have C := scHalf
  replace S₁ : St prog w base os ((dHalf.env L, fm (dHalf.env L).scope.names [some (.ref p), some (.int u t), some (.int v t'), some .none, some .none, none, none, none, none, none]) :: fr) H s₁ := S₁
  obtain ⟨gA, nA, sA, pA, B⟩ := R.picOf hp
  obtain ⟨ks, es, hsA, rs⟩ := R.succ B.succ
  rw [BodyAt]
  refine y_asG 5 S₁ C rfl (mcall (Pu.go (pu_succ (pu_v 0 C rfl rfl) Z F.toKA R B.self B.succ) S₁ fun _ s₂ x S₂ => ?_))
  subst x
  refine md_di PySem.F.slot_dict_get PySem.F.type_dict_get S₂ hsA (cwB rfl (Pu.go (pu_i 1 C rfl rfl) S₂ fun _ s₃ x S₃ => ?_))
  obtain ⟨t₃, rfl⟩ := x
  refine di_get1 S₃ hsA fun s₄ S₄ => ⟨fr, H, _, _, S₄, rfl, by simp, fun s₅ S₅ => ?_⟩
  obtain ⟨sv, hsv, hT⟩ : ∃ sv, (valueAt ks u).getD .none = sv ∧ ∀ vs np, vs[5]? = some (some sv) → Tu prog w base os fr H (dHalf.env L) vs (.Name "succs" np) false := by
    by_cases z : u ∈ σ.ns
    · obtain ⟨aU, hv, hr⟩ := rs.find z
      obtain ⟨kvs, ep, hU, rU⟩ := R.sd hr
      have hl : kvs = [] := by have := rU.len; rw [h0 z] at this; exact List.length_eq_zero_iff.mp this
      subst hl
      exact ⟨.ref aU, by rw [hv]; rfl, fun vs np h5 => tu_val (pu_v 5 C rfl h5) (tr_di hU (by simp))⟩
    · exact ⟨.none, by rw [rs.none z]; rfl, fun vs np h5 => tu_val (pu_v 5 C rfl h5) tr_none⟩
  rw [hsv] at S₅
  replace S₅ : St prog w base os ((dHalf.env L, fm (dHalf.env L).scope.names [some (.ref p), some (.int u t), some (.int v t'), some .none, some .none, some sv, none, none, none, none]) :: fr) H s₅ := S₅
  refine y_if S₅ (hT _ _ rfl) fun s₆ S₆ => ?_
  refine y_if S₆ (tu_or (tu_cmp (pu_v 3 C rfl rfl) pu_none (cmp_isnot _)) fun _ => tu_cmp (pu_v 4 C rfl rfl) pu_none (cmp_isnot _)) fun s₇ S₇ => ?_
  refine y_nil (y_expr ?_)
  refine at_super F.suHalf F.half F.supEdge F.fnEdge F.tyEdge S₇ Z C R B.self rfl rfl rfl rfl fun H' s₈ R₈ k₈ S₈ => ?_
  refine Pu.go (pu_v 1 C rfl rfl) S₈ fun _ s₉ x S₉ => ?_
  subst x
  refine Pu.go (pu_v 2 C rfl rfl) S₉ fun _ s₁₀ x S₁₀ => ?_
  subst x
  refine Pu.go (pu_v 2 C rfl rfl) S₁₀ fun _ s₁₁ x S₁₁ => ?_
  subst x
  refine Pu.go (pu_v 2 C rfl rfl) S₁₁ fun _ s₁₂ x S₁₂ => ?_
  subst x
  refine ⟨_, S₁₂, add_edge_ccw F.toKF Z S₁₂ (by exact hh) (by show A.depth + 1 + 2 < _; omega) R₈ hp al hm huv (fun z => by rw [h0 z]; exact List.not_mem_nil) h2 fun s₁₃ H₁₃ ρ₁₃ S₁₃ R₁₃ k₁₃ => ?_⟩
  exact y_nil (y_nil (h s₁₃ H₁₃ ρ₁₃ S₁₃.popped R₁₃ ((k₈.mono fun r e => e.elim).trans k₁₃)))
end
end Mine

end

section
open PySem PySem.W PyProof.Rows PySem.Calls
set_option Elab.async false
set_option maxRecDepth 100000
set_option linter.unusedVariables false
namespace Mine

section
variable {prog : Program} {w : World} {K : Frag} {base : Heap} {os : Os} {A : Around} {E : Value → Shared → Prop} {fr : Frs} {H : Led} {s : Shared} {env : Env} {vs : List (Option Value)} {p : Addr} {ρ : Rho} {σ : Sg}

theorem deep (hf : A.frames = some fr.envs) (env : Env) : (A.deeper env).frames = some (env :: fr.envs) := by show A.frames.map (env :: ·) = _; rw [hf]; rfl

/-- a node without neighbours, a reference all the same -/
theorem half_badF {u v : Int} {t t' : Tok} {c cc : Value} {Q : Value → Shared → Prop} (F : KG prog K) (Z : Sta K base) (S : St prog w base os fr H s) (hf : A.frames = some fr.envs) (hh : A.handled = none) (hA : A.depth + 4 < recursionLimit) (R : Rep w.params H ρ σ) (hp : ρ p = some .self)
    (h0 : u ∈ σ.ns → σ.so u = []) (hc : (!(c == .none)) = true ∨ (!(cc == .none)) = true)
    (h : ∀ e s', Fly prog w base os fr H e (.ref nxE) s' → E (.ref e) s') :
    wpAny (model prog w) A (call (.ref 839) [.ref p, .int u t, .int v t'] [(("cw" : Str), c), (("ccw" : Str), cc)]) Q E s := by
  refine call_peekAt (D := dHalf) (n := 5) S Z (by omega) F.half (by decide +kernel) scHalf rfl rfl (fun S doc pm an ct => F.hb3 _ _ S doc pm an ct _ _ _) rfl rfl fun L s₁ S₁ => ?_
  have C := scHalf
  replace S₁ : St prog w base os ((dHalf.env L, fm (dHalf.env L).scope.names [some (.ref p), some (.int u t), some (.int v t'), some c, some cc, none, none, none, none, none]) :: fr) H s₁ := S₁
  obtain ⟨gA, nA, sA, pA, B⟩ := R.picOf hp
  obtain ⟨ks, es, hsA, rs⟩ := R.succ B.succ
  rw [BodyAt]
  refine y_asG 5 S₁ C rfl (mcall (Pu.go (pu_succ (pu_v 0 C rfl rfl) Z F.toKA R B.self B.succ) S₁ fun _ s₂ x S₂ => ?_))
  subst x
  refine md_di PySem.F.slot_dict_get PySem.F.type_dict_get S₂ hsA (cwB rfl (Pu.go (pu_i 1 C rfl rfl) S₂ fun _ s₃ x S₃ => ?_))
  obtain ⟨t₃, rfl⟩ := x
  refine di_get1 S₃ hsA fun s₄ S₄ => ⟨fr, H, _, _, S₄, rfl, by simp, fun s₅ S₅ => ?_⟩
  obtain ⟨sv, hsv, hT⟩ : ∃ sv, (valueAt ks u).getD .none = sv ∧ ∀ vs np, vs[5]? = some (some sv) → Tu prog w base os fr H (dHalf.env L) vs (.Name "succs" np) false := by
    by_cases z : u ∈ σ.ns
    · obtain ⟨aU, hv, hr⟩ := rs.find z
      obtain ⟨kvs, ep, hU, rU⟩ := R.sd hr
      have hl : kvs = [] := by have := rU.len; rw [h0 z] at this; exact List.length_eq_zero_iff.mp this
      subst hl
      exact ⟨.ref aU, by rw [hv]; rfl, fun vs np h5 => tu_val (pu_v 5 C rfl h5) (tr_di hU (by simp))⟩
    · exact ⟨.none, by rw [rs.none z]; rfl, fun vs np h5 => tu_val (pu_v 5 C rfl h5) tr_none⟩
  rw [hsv] at S₅
  replace S₅ : St prog w base os ((dHalf.env L, fm (dHalf.env L).scope.names [some (.ref p), some (.int u t), some (.int v t'), some c, some cc, some sv, none, none, none, none]) :: fr) H s₅ := S₅
  refine y_if S₅ (hT _ _ rfl) fun s₆ S₆ => ?_
  have hor : ((!(c == .none)) || (!(cc == .none))) = true := by rcases hc with q | q <;> rw [q] <;> simp
  refine y_if S₆ (tu_or (tu_cmp (pu_v 3 C rfl rfl) pu_none (cmp_isnot _)) fun _ => tu_cmp (pu_v 4 C rfl rfl) pu_none (cmp_isnot _)) fun s₇ S₇ => ?_
  rw [hor, if_pos rfl]
  refine y_any (x_raise 12 Z F.toExK (by exact hh) C rfl S₇ rfl fun e s₈ M => ?_)
  exact mad_leave (deep hf _) M fun s₉ Y => h e s₉ Y

/-- a node with neighbours, and no proper reference -/
theorem half_badT {u v : Int} {t t' : Tok} {c cc : Value} {Q : Value → Shared → Prop} (F : KG prog K) (Z : Sta K base) (S : St prog w base os fr H s) (hf : A.frames = some fr.envs) (hh : A.handled = none) (hA : A.depth + 4 < recursionLimit) (R : Rep w.params H ρ σ) (hp : ρ p = some .self) (hm : σ.Sm)
    (h0 : u ∈ σ.ns) (h1 : σ.so u ≠ [])
    (hc : (∃ r tr, c = .int r tr ∧ (r ∉ σ.so u ∨ (!(cc == .none)) = true)) ∨ (c = .none ∧ ((∃ r tr, cc = .int r tr ∧ r ∉ σ.so u) ∨ cc = .none)))
    (h : ∀ e s', Fly prog w base os fr H e (.ref nxE) s' → E (.ref e) s') :
    wpAny (model prog w) A (call (.ref 839) [.ref p, .int u t, .int v t'] [(("cw" : Str), c), (("ccw" : Str), cc)]) Q E s := by
  refine call_peekAt (D := dHalf) (n := 5) S Z (by omega) F.half (by decide +kernel) scHalf rfl rfl (fun S doc pm an ct => F.hb3 _ _ S doc pm an ct _ _ _) rfl rfl fun L s₁ S₁ => ?_
  have C := scHalf
  replace S₁ : St prog w base os ((dHalf.env L, fm (dHalf.env L).scope.names [some (.ref p), some (.int u t), some (.int v t'), some c, some cc, none, none, none, none, none]) :: fr) H s₁ := S₁
  obtain ⟨gA, nA, sA, pA, B⟩ := R.picOf hp
  obtain ⟨ks, es, hsA, rs⟩ := R.succ B.succ
  obtain ⟨aU, hv, hr⟩ := rs.find h0
  obtain ⟨kvs, ep, hU, rU⟩ := R.sd hr
  have hne : kvs.isEmpty = false := by rw [rU.isEmpty]; cases q : σ.so u with
    | nil => exact absurd q h1
    | cons => rfl
  have hlen : kvs.length ≤ 1000 := by rw [rU.len]; exact Nat.le_trans (hm.so u) (by decide)
  rw [BodyAt]
  refine y_asG 5 S₁ C rfl (mcall (Pu.go (pu_succ (pu_v 0 C rfl rfl) Z F.toKA R B.self B.succ) S₁ fun _ s₂ x S₂ => ?_))
  subst x
  refine md_di PySem.F.slot_dict_get PySem.F.type_dict_get S₂ hsA (cwB rfl (Pu.go (pu_i 1 C rfl rfl) S₂ fun _ s₃ x S₃ => ?_))
  obtain ⟨t₃, rfl⟩ := x
  refine di_get1 S₃ hsA fun s₄ S₄ => ⟨fr, H, _, _, S₄, rfl, by simp, fun s₅ S₅ => ?_⟩
  rw [hv] at S₅
  replace S₅ : St prog w base os ((dHalf.env L, fm (dHalf.env L).scope.names [some (.ref p), some (.int u t), some (.int v t'), some c, some cc, some (.ref aU), none, none, none, none]) :: fr) H s₅ := S₅
  refine y_if S₅ (tu_val (pu_v 5 C rfl rfl) (tr_di hU hlen)) fun s₆ S₆ => ?_
  rw [hne]
  refine y_asG 6 S₆ C rfl (ev_last 11 Z (by exact hh) C rfl rfl rfl F.bList S₆ (pu_sub (pu_succ (pu_v 0 C rfl rfl) Z F.toKA R B.self B.succ) (pu_i 1 C rfl rfl) hsA hv) hU hlen rU.1 h1 rfl fun lv s₇ hlv S₇ => ⟨fr, H, _, _, S₇, rfl, by simp, fun s₈ S₈ => ?_⟩)
  replace S₈ : St prog w base os ((dHalf.env L, fm (dHalf.env L).scope.names [some (.ref p), some (.int u t), some (.int v t'), some c, some cc, some (.ref aU), some lv, none, none, none]) :: fr) H s₈ := S₈
  have done : ∀ (e : Addr) (s' : Shared) m, Mad prog w base os ((dHalf.env L, m) :: fr) H e (.ref nxE) s' → wpAny (model prog w) (A.deeper (dHalf.env L)) (leaving (dHalf.env L) (.ref e)) (fun _ s'' => E (.ref e) s'') E s' := fun e s' m M => mad_leave (deep hf _) M fun s₉ Y => h e s₉ Y
  refine y_if S₈ (tu_cmp (pu_v 3 C rfl rfl) pu_none (cmp_isnot _)) fun s₉ S₉ => ?_
  rcases hc with ⟨r, tr, rfl, hc⟩ | ⟨rfl, hc⟩
  · refine y_if S₉ (tu_notin (pu_i 3 C rfl rfl) (pu_v 5 C rfl rfl) hU rfl) fun s₁₀ S₁₀ => ?_
    rw [rU.isSome]
    by_cases z : r ∈ σ.so u
    · rw [decide_eq_true z]
      refine y_nil (y_if S₁₀ (tu_cmp (pu_v 4 C rfl rfl) pu_none (cmp_isnot _)) fun s₁₁ S₁₁ => ?_)
      rw [(hc.resolve_left fun y => y z), if_pos rfl]
      exact y_any (x_raise 12 Z F.toExK (by exact hh) C rfl S₁₁ rfl fun e s' M => done e s' _ M)
    · rw [decide_eq_false z]
      exact y_any (x_raise 12 Z F.toExK (by exact hh) C rfl S₁₀ rfl fun e s' M => done e s' _ M)
  · rcases hc with ⟨r, tr, rfl, hc⟩ | rfl
    · refine y_if S₉ (tu_cmp (pu_v 4 C rfl rfl) pu_none (cmp_isnot _)) fun s₁₀ S₁₀ => ?_
      refine y_if S₁₀ (tu_notin (pu_i 4 C rfl rfl) (pu_v 5 C rfl rfl) hU rfl) fun s₁₁ S₁₁ => ?_
      rw [rU.isSome, decide_eq_false hc]
      exact y_any (x_raise 12 Z F.toExK (by exact hh) C rfl S₁₁ rfl fun e s' M => done e s' _ M)
    · refine y_if S₉ (tu_cmp (pu_v 4 C rfl rfl) pu_none (cmp_isnot _)) fun s₁₀ S₁₀ => ?_
      exact y_any (x_raise 12 Z F.toExK (by exact hh) C rfl S₁₀ rfl fun e s' M => done e s' _ M)
end
end Mine

end

section
open PySem PySem.W PyProof.Rows PySem.Calls
set_option Elab.async false
set_option maxRecDepth 100000
set_option linter.unusedVariables false
namespace Mine

def Sg.half (τ : Sg) (u : Int) (l : Int) (mv : Bool) : Sg := if mv then { τ with so := fset τ.so u ((τ.so u).filter (· ≠ l) ++ [l]) } else τ
/-- add_half_edge(u, v, cw=r), where c is the one ahead of r, l the last of the dict -/
def Sg.heCw (σ : Sg) (u v r c l : Int) : Sg :=
  let τ := σ.addEdge u v r c
  Sg.half { τ with cw := fset2 τ.cw u c v, cc := fset2 τ.cc u r v } u l (r != l)
/-- add_half_edge(u, v, ccw=r), where c is the one behind r -/
def Sg.heCcw (σ : Sg) (u v r c l : Int) : Sg :=
  let τ := σ.addEdge u v c r
  Sg.half { τ with cc := fset2 τ.cc u c v, cw := fset2 τ.cw u r v } u l true

section
variable {prog : Program} {w : World} {K : Frag} {base : Heap} {os : Os} {A : Around} {E : Value → Shared → Prop} {fr : Frs} {H : Led} {s : Shared} {env : Env} {vs : List (Option Value)} {p : Addr} {ρ : Rho} {σ : Sg}

/-- succs[leftmost_nbr] = succs.pop(leftmost_nbr) -/
theorem x_move {u l : Int} {aU : Addr} {sx lx : Str} {p1 p2 p3 p4 p5 p6 p7 p8 : Pos} {pl : Sem Bool} {rest : List Stmt} {Q : Flow → Shared → Prop} (S : St prog w base os ((env, fm env.scope.names vs) :: fr) H s) (R : Rep w.params H ρ σ) (ha : ρ aU = some (.sd u)) (hl : l ∈ σ.so u) (hm : (σ.so u).length ≤ 950)
    (h1 : ∀ H p, Pu prog w base os fr H env vs (.Name sx p) (· = .ref aU)) (h2 : ∀ H p, Pu prog w base os fr H env vs (.Name lx p) (IsI l))
    (q : ∀ s' H', St prog w base os ((env, fm env.scope.names vs) :: fr) H' s' → Rep w.params H' ρ { σ with so := fset σ.so u ((σ.so u).filter (· ≠ l) ++ [l]) } → Keep (fun _ => False) H ρ H' ρ → wpAny (model prog w) A (execs rest env) Q E s')
    (he : eval (.Call (.Attribute (.Name sx p4) "pop" p5) [.Name lx p6] [] p7) env = (do
      let ov ← eval (.Name sx p4) env
      standAt p5.atName
      let (f, first) ← holding [ov] (getMethod ov "pop" pl)
      callWith p7 f first (backTo p7 (starEach [.Name lx p6] env)) (backToKw p7 (keywordEach [] env))) := by rfl)
    (hs : swapsWith (.Call (.Attribute (.Name sx p4) "pop" p5) [.Name lx p6] [] p7) (some (.Subscript (.Name sx p1) (.Name lx p2) p3)) p8.line env = pure false := by rfl) :
    wpAny (model prog w) A (execs (.Assign [.Subscript (.Name sx p1) (.Name lx p2) p3] (.Call (.Attribute (.Name sx p4) "pop" p5) [.Name lx p6] [] p7) p8 :: rest) env) Q E s := by
  obtain ⟨kvs, ep, hU, rU⟩ := R.sd ha
  obtain ⟨aL, hvL, hrL⟩ := rU.find hl
  have hlen : kvs.length ≤ 950 := by rw [rU.len]; exact hm
  refine x_setG S (mcall (pl := pl) (Pu.go (h1 _ _) S fun _ s₂ x S₂ => ?_) he) hs
  subst x
  refine md_di PySem.F.slot_dict_pop PySem.F.type_dict_pop S₂ hU (cwB rfl (Pu.go (h2 _ _) S₂ fun _ s₃ x S₃ => ?_))
  obtain ⟨t₃, rfl⟩ := x
  refine di_pop S₃ hU (by omega) hvL fun s₄ S₄ => ?_
  have rD := rU.del l
  have R₁ := so_set (ep := none) R ha rD
  have k₁ : Keep (fun _ => False) H ρ (upd H aU (.di (without kvs l) none)) ρ := Keep.refl.set ha
  have hwl : (without kvs l).length ≤ 1000 := Nat.le_trans (List.length_filter_le _ _) (by omega)
  refine ⟨fr, _, _, aU, l, _, _, S₄, h1 _ _, h2 _ _, upd_self .., hwl, fun s₅ S₅ => ?_⟩
  obtain ⟨_, _, e, rF⟩ := R₁.sd ha
  rw [upd_self] at e
  cases e
  have rF' : Refs ρ (without kvs l) ((σ.so u).filter (· ≠ l)) (.ed u) := rD
  have R₂ := so_set (ep := none) R₁ ha (rF'.put (b := aL) (by simp) hrL)
  have ff : fset (fset σ.so u ((σ.so u).filter (· ≠ l))) u ((σ.so u).filter (· ≠ l) ++ [l]) = fset σ.so u ((σ.so u).filter (· ≠ l) ++ [l]) := by funext y; simp only [fset]; split <;> rfl
  refine q s₅ _ S₅ ?_ (k₁.set ha)
  have R₃ := R₂
  simp only [ff] at R₃
  exact R₃

theorem edge_so {u v c cc : Int} (huv : u ≠ v) (h0 : u ∈ σ.ns) : (σ.addEdge u v c cc).so u = σ.so u ++ [v] := by
  show fset ((σ.addNode u).addNode v).so u (((σ.addNode u).addNode v).so u ++ [v]) u = _
  rw [fset_self, addNode_so_old (.inl huv), addNode_so_old (.inr h0)]
theorem edge_len {u v c cc : Int} (huv : u ≠ v) (h0 : u ∈ σ.ns) (hm : σ.Sm) : ((σ.addEdge u v c cc).so u).length ≤ 950 := by
  rw [edge_so huv h0, List.length_append]; have := hm.so u; simp; omega
theorem sd_kept {u v : Int} {H' : Led} {ρ' : Rho} {a : Addr} (huv : u ≠ v) (h0 : u ∈ σ.ns) (k : Keep (NewEdge σ u v) H ρ H' ρ') (ha : ρ a = some (.sd u)) : ρ' a = some (.sd u) :=
  k.role _ _ ha fun q => by
    rcases q with q | ⟨q, _⟩ | ⟨_, q | q | q⟩
    · cases q
    · exact q h0
    · cases q
    · cases q; exact huv rfl
    · cases q

theorem half_cw {u v r l : Int} {t t' tr : Tok} {Q : Value → Shared → Prop} (F : KG prog K) (Z : Sta K base) (S : St prog w base os fr H s) (hh : A.handled = none) (hA : A.depth + 4 < recursionLimit) (R : Rep w.params H ρ σ) (hp : ρ p = some .self) (al : σ.Al) (hm : σ.Sm)
    (huv : u ≠ v) (h0 : u ∈ σ.ns) (h1 : v ∉ σ.so u) (h2 : v ∈ σ.ns → u ∉ σ.po v) (hr : r ∈ σ.so u) (hc : σ.cc u r ∈ σ.so u) (hl : (σ.so u).getLast? = some l)
    (h : ∀ s' H' ρ', St prog w base os fr H' s' → Rep w.params H' ρ' (σ.heCw u v r (σ.cc u r) l) → Keep (NewEdge σ u v) H ρ H' ρ' → Q .none s') :
    wpAny (model prog w) A (call (.ref 839) [.ref p, .int u t, .int v t'] [(("cw" : Str), .int r tr)]) Q E s := by
  refine call_peekAt (D := dHalf) (n := 5) S Z (by omega) F.half (by decide +kernel) scHalf rfl rfl (fun S doc pm an ct => F.hb1 _ S doc pm an ct _ _ _) rfl rfl fun L s₁ S₁ => ?_
  have C := scHalf
  replace S₁ : St prog w base os ((dHalf.env L, fm (dHalf.env L).scope.names [some (.ref p), some (.int u t), some (.int v t'), some (.int r tr), some .none, none, none, none, none, none]) :: fr) H s₁ := S₁
  obtain ⟨gA, nA, sA, pA, B⟩ := R.picOf hp
  obtain ⟨ks, es, hsA, rs⟩ := R.succ B.succ
  obtain ⟨aU, hv, hrU⟩ := rs.find h0
  obtain ⟨kvs, ep, hU, rU⟩ := R.sd hrU
  have hnil : σ.so u ≠ [] := fun q => by rw [q] at hr; cases hr
  have hlast : (σ.so u).getLast hnil = l := by rw [List.getLast?_eq_some_getLast hnil] at hl; exact Option.some.inj hl
  have hne : kvs.isEmpty = false := by rw [rU.isEmpty]; cases q : σ.so u with
    | nil => exact absurd q hnil
    | cons => rfl
  have hlen : kvs.length ≤ 1000 := by rw [rU.len]; exact Nat.le_trans (hm.so u) (by decide)
  obtain ⟨aR, hvR, hrR⟩ := rU.find hr
  obtain ⟨kr, hR, eR⟩ := R.ed hrR
  obtain ⟨tc, hcc⟩ := eR.ccw
  rw [BodyAt]
  refine y_asG 5 S₁ C rfl (mcall (Pu.go (pu_succ (pu_v 0 C rfl rfl) Z F.toKA R B.self B.succ) S₁ fun _ s₂ x S₂ => ?_))
  subst x
  refine md_di PySem.F.slot_dict_get PySem.F.type_dict_get S₂ hsA (cwB rfl (Pu.go (pu_i 1 C rfl rfl) S₂ fun _ s₃ x S₃ => ?_))
  obtain ⟨t₃, rfl⟩ := x
  refine di_get1 S₃ hsA fun s₄ S₄ => ⟨fr, H, _, _, S₄, rfl, by simp, fun s₅ S₅ => ?_⟩
  rw [hv] at S₅
  replace S₅ : St prog w base os ((dHalf.env L, fm (dHalf.env L).scope.names [some (.ref p), some (.int u t), some (.int v t'), some (.int r tr), some .none, some (.ref aU), none, none, none, none]) :: fr) H s₅ := S₅
  refine y_if S₅ (tu_val (pu_v 5 C rfl rfl) (tr_di hU hlen)) fun s₆ S₆ => ?_
  rw [hne]
  refine y_asG 6 S₆ C rfl (ev_last 11 Z (by exact hh) C rfl rfl rfl F.bList S₆ (pu_sub (pu_succ (pu_v 0 C rfl rfl) Z F.toKA R B.self B.succ) (pu_i 1 C rfl rfl) hsA hv) hU hlen rU.1 hnil rfl fun lv s₇ hlv S₇ => ⟨fr, H, _, _, S₇, rfl, by simp, fun s₈ S₈ => ?_⟩)
  rw [hlast] at hlv
  obtain ⟨tl, rfl⟩ := hlv
  replace S₈ : St prog w base os ((dHalf.env L, fm (dHalf.env L).scope.names [some (.ref p), some (.int u t), some (.int v t'), some (.int r tr), some .none, some (.ref aU), some (.int l tl), none, none, none]) :: fr) H s₈ := S₈
  refine y_if S₈ (tu_cmp (pu_v 3 C rfl rfl) pu_none (cmp_isnot _)) fun s₉ S₉ => ?_
  refine y_if S₉ (tu_notin (pu_i 3 C rfl rfl) (pu_v 5 C rfl rfl) hU (b := false) (by rw [rU.isSome, decide_eq_true hr]; rfl)) fun s₁₀ S₁₀ => ?_
  refine y_nil (y_if S₁₀ (tu_cmp (pu_v 4 C rfl rfl) pu_none (cmp_isnot _)) fun s₁₁ S₁₁ => ?_)
  refine y_nil (y_as 7 S₁₁ C rfl (pu_subs (pu_sub (pu_v 5 C rfl rfl) (pu_i 3 C rfl rfl) hU hvR) pu_str hR hcc) (by simp) fun cv s₁₂ hcv S₁₂ => ?_)
  subst hcv
  replace S₁₂ : St prog w base os ((dHalf.env L, fm (dHalf.env L).scope.names [some (.ref p), some (.int u t), some (.int v t'), some (.int r tr), some .none, some (.ref aU), some (.int l tl), some (.int (σ.cc u r) tc), none, none]) :: fr) H s₁₂ := S₁₂
  refine y_expr (at_super F.suHalf F.half F.supEdge F.fnEdge F.tyEdge S₁₂ Z C R B.self rfl rfl rfl rfl fun H' s₁₃ R₁₃ k₁₃ S₁₃ => ?_)
  refine Pu.go (pu_v 1 C rfl rfl) S₁₃ fun _ s₁₄ x S₁₄ => ?_
  subst x
  refine Pu.go (pu_v 2 C rfl rfl) S₁₄ fun _ s₁₅ x S₁₅ => ?_
  subst x
  refine Pu.go (pu_v 3 C rfl rfl) S₁₅ fun _ s₁₆ x S₁₆ => ?_
  subst x
  refine Pu.go (pu_v 7 C rfl rfl) S₁₆ fun _ s₁₇ x S₁₇ => ?_
  subst x
  refine ⟨_, S₁₇, add_edge_cw F.toKF Z S₁₇ (by exact hh) (by show A.depth + 1 + 2 < _; omega) R₁₃ hp al hm huv (fun _ => h1) h2 fun s₁₈ H₁ ρ₁ S₁₈ R₁ k₁ => ?_⟩
  replace k₁ := (k₁₃.mono (T' := NewEdge σ u v) fun r e => e.elim).trans k₁
  have hU₁ := sd_kept huv h0 k₁ hrU
  have hsm := edge_len (c := r) (cc := σ.cc u r) huv h0 hm
  have hso := edge_so (c := r) (cc := σ.cc u r) huv h0
  have hτ : σ.heCw u v r (σ.cc u r) l = Sg.half { σ.addEdge u v r (σ.cc u r) with cw := fset2 (σ.addEdge u v r (σ.cc u r)).cw u (σ.cc u r) v, cc := fset2 (σ.addEdge u v r (σ.cc u r)).cc u r v } u l (r != l) := rfl
  rw [hτ] at h
  generalize σ.addEdge u v r (σ.cc u r) = τ at *
  -- succs[ref_ccw]['cw'] = end_node
  obtain ⟨kv₁, ep₁, hU₁', rU₁⟩ := R₁.sd hU₁
  obtain ⟨aC, hvC, hrC⟩ := rU₁.find (k := σ.cc u r) (by rw [hso]; exact List.mem_append_left _ hc)
  obtain ⟨kc, hC, eC⟩ := R₁.ed hrC
  refine y_any (x_sets S₁₈ (pu_i 2 C rfl rfl) (pu_sub (pu_v 5 C rfl rfl) (pu_i 7 C rfl rfl) hU₁' hvC) pu_str hC (by rw [eC.2.2]; decide) fun _ s₁₉ ⟨t₂, x⟩ S₁₉ => ?_)
  subst x
  have R₂ := cw_set (x := v) R₁ hrC hC t₂
  have k₂ := k₁.set (d := .ds (stored kc "cw" (.int v t₂))) hrC
  generalize upd H₁ aC (.ds (stored kc "cw" (.int v t₂))) = H₂ at *
  -- succs[cw]['ccw'] = end_node
  obtain ⟨kv₂, ep₂, hU₂', rU₂⟩ := R₂.sd hU₁
  obtain ⟨aR', hvR', hrR'⟩ := rU₂.find (k := r) (by show r ∈ τ.so u; rw [hso]; exact List.mem_append_left _ hr)
  obtain ⟨kr', hR', eR'⟩ := R₂.ed hrR'
  refine x_sets S₁₉ (pu_i 2 C rfl rfl) (pu_sub (pu_v 5 C rfl rfl) (pu_i 3 C rfl rfl) hU₂' hvR') pu_str hR' (by rw [eR'.2.2]; decide) fun _ s₂₀ ⟨t₂', x⟩ S₂₀ => ?_
  subst x
  have R₃ := ccw_set (x := v) R₂ hrR' hR' t₂'
  have k₃ := k₂.set (d := .ds (stored kr' "ccw" (.int v t₂'))) hrR'
  generalize upd H₂ aR' (.ds (stored kr' "ccw" (.int v t₂'))) = H₃ at *
  -- move
  refine x_as 8 S₂₀ C rfl (pu_cmp (pu_i 3 C rfl rfl) (pu_i 6 C rfl rfl) cmp_ne) (by simp) fun _ s₂₁ x S₂₁ => ?_
  subst x
  replace S₂₁ : St prog w base os ((dHalf.env L, fm (dHalf.env L).scope.names [some (.ref p), some (.int u t), some (.int v t'), some (.int r tr), some .none, some (.ref aU), some (.int l tl), some (.int (σ.cc u r) tc), some (.bool (r != l)), none]) :: fr) H₃ s₂₁ := S₂₁
  refine x_nil (y_any (x_if S₂₁ (tu_val (pu_v 8 C rfl rfl) tr_bool) fun s₂₂ S₂₂ => ?_))
  cases hmv : (r != l) with
  | false =>
    rw [hmv] at h
    exact x_nil (x_nil (y_nil (h s₂₂ H₃ ρ₁ S₂₂.popped R₃ k₃)))
  | true =>
    rw [hmv] at h S₂₂
    refine x_move S₂₂ R₃ hU₁ (l := l) (by show l ∈ τ.so u; rw [hso]; exact List.mem_append_left _ (List.mem_of_getLast? hl)) hsm (fun _ _ => pu_v 5 C rfl rfl) (fun _ _ => pu_i 6 C rfl rfl) fun s₂₃ H₄ S₂₃ R₄ k₄ => ?_
    exact x_nil (x_nil (y_nil (h s₂₃ H₄ ρ₁ S₂₃.popped R₄ (k₃.trans (k₄.mono fun r e => e.elim)))))
theorem half_ccw {u v r l : Int} {t t' tr : Tok} {Q : Value → Shared → Prop} (F : KG prog K) (Z : Sta K base) (S : St prog w base os fr H s) (hh : A.handled = none) (hA : A.depth + 4 < recursionLimit) (R : Rep w.params H ρ σ) (hp : ρ p = some .self) (al : σ.Al) (hm : σ.Sm)
    (huv : u ≠ v) (h0 : u ∈ σ.ns) (h1 : v ∉ σ.so u) (h2 : v ∈ σ.ns → u ∉ σ.po v) (hr : r ∈ σ.so u) (hc : σ.cw u r ∈ σ.so u) (hl : (σ.so u).getLast? = some l)
    (h : ∀ s' H' ρ', St prog w base os fr H' s' → Rep w.params H' ρ' (σ.heCcw u v r (σ.cw u r) l) → Keep (NewEdge σ u v) H ρ H' ρ' → Q .none s') :
    wpAny (model prog w) A (call (.ref 839) [.ref p, .int u t, .int v t'] [(("ccw" : Str), .int r tr)]) Q E s := by
  refine call_peekAt (D := dHalf) (n := 5) S Z (by omega) F.half (by decide +kernel) scHalf rfl rfl (fun S doc pm an ct => F.hb2 _ S doc pm an ct _ _ _) rfl rfl fun L s₁ S₁ => ?_
  have C := scHalf
  replace S₁ : St prog w base os ((dHalf.env L, fm (dHalf.env L).scope.names [some (.ref p), some (.int u t), some (.int v t'), some .none, some (.int r tr), none, none, none, none, none]) :: fr) H s₁ := S₁
  obtain ⟨gA, nA, sA, pA, B⟩ := R.picOf hp
  obtain ⟨ks, es, hsA, rs⟩ := R.succ B.succ
  obtain ⟨aU, hv, hrU⟩ := rs.find h0
  obtain ⟨kvs, ep, hU, rU⟩ := R.sd hrU
  have hnil : σ.so u ≠ [] := fun q => by rw [q] at hr; cases hr
  have hlast : (σ.so u).getLast hnil = l := by rw [List.getLast?_eq_some_getLast hnil] at hl; exact Option.some.inj hl
  have hne : kvs.isEmpty = false := by rw [rU.isEmpty]; cases q : σ.so u with
    | nil => exact absurd q hnil
    | cons => rfl
  have hlen : kvs.length ≤ 1000 := by rw [rU.len]; exact Nat.le_trans (hm.so u) (by decide)
  obtain ⟨aR, hvR, hrR⟩ := rU.find hr
  obtain ⟨kr, hR, eR⟩ := R.ed hrR
  obtain ⟨tc, hcc⟩ := eR.cw
  rw [BodyAt]
  refine y_asG 5 S₁ C rfl (mcall (Pu.go (pu_succ (pu_v 0 C rfl rfl) Z F.toKA R B.self B.succ) S₁ fun _ s₂ x S₂ => ?_))
  subst x
  refine md_di PySem.F.slot_dict_get PySem.F.type_dict_get S₂ hsA (cwB rfl (Pu.go (pu_i 1 C rfl rfl) S₂ fun _ s₃ x S₃ => ?_))
  obtain ⟨t₃, rfl⟩ := x
  refine di_get1 S₃ hsA fun s₄ S₄ => ⟨fr, H, _, _, S₄, rfl, by simp, fun s₅ S₅ => ?_⟩
  rw [hv] at S₅
  replace S₅ : St prog w base os ((dHalf.env L, fm (dHalf.env L).scope.names [some (.ref p), some (.int u t), some (.int v t'), some .none, some (.int r tr), some (.ref aU), none, none, none, none]) :: fr) H s₅ := S₅
  refine y_if S₅ (tu_val (pu_v 5 C rfl rfl) (tr_di hU hlen)) fun s₆ S₆ => ?_
  rw [hne]
  refine y_asG 6 S₆ C rfl (ev_last 11 Z (by exact hh) C rfl rfl rfl F.bList S₆ (pu_sub (pu_succ (pu_v 0 C rfl rfl) Z F.toKA R B.self B.succ) (pu_i 1 C rfl rfl) hsA hv) hU hlen rU.1 hnil rfl fun lv s₇ hlv S₇ => ⟨fr, H, _, _, S₇, rfl, by simp, fun s₈ S₈ => ?_⟩)
  rw [hlast] at hlv
  obtain ⟨tl, rfl⟩ := hlv
  replace S₈ : St prog w base os ((dHalf.env L, fm (dHalf.env L).scope.names [some (.ref p), some (.int u t), some (.int v t'), some .none, some (.int r tr), some (.ref aU), some (.int l tl), none, none, none]) :: fr) H s₈ := S₈
  refine y_if S₈ (tu_cmp (pu_v 3 C rfl rfl) pu_none (cmp_isnot _)) fun s₉ S₉ => ?_
  refine y_if S₉ (tu_cmp (pu_v 4 C rfl rfl) pu_none (cmp_isnot _)) fun s₁₀ S₁₀ => ?_
  refine y_if S₁₀ (tu_notin (pu_i 4 C rfl rfl) (pu_v 5 C rfl rfl) hU (b := false) (by rw [rU.isSome, decide_eq_true hr]; rfl)) fun s₁₁ S₁₁ => ?_
  refine y_nil (y_as 9 S₁₁ C rfl (pu_subs (pu_sub (pu_v 5 C rfl rfl) (pu_i 4 C rfl rfl) hU hvR) pu_str hR hcc) (by simp) fun cv s₁₂ hcv S₁₂ => ?_)
  subst hcv
  replace S₁₂ : St prog w base os ((dHalf.env L, fm (dHalf.env L).scope.names [some (.ref p), some (.int u t), some (.int v t'), some .none, some (.int r tr), some (.ref aU), some (.int l tl), none, none, some (.int (σ.cw u r) tc)]) :: fr) H s₁₂ := S₁₂
  refine y_expr (at_super F.suHalf F.half F.supEdge F.fnEdge F.tyEdge S₁₂ Z C R B.self rfl rfl rfl rfl fun H' s₁₃ R₁₃ k₁₃ S₁₃ => ?_)
  refine Pu.go (pu_v 1 C rfl rfl) S₁₃ fun _ s₁₄ x S₁₄ => ?_
  subst x
  refine Pu.go (pu_v 2 C rfl rfl) S₁₄ fun _ s₁₅ x S₁₅ => ?_
  subst x
  refine Pu.go (pu_v 9 C rfl rfl) S₁₅ fun _ s₁₆ x S₁₆ => ?_
  subst x
  refine Pu.go (pu_v 4 C rfl rfl) S₁₆ fun _ s₁₇ x S₁₇ => ?_
  subst x
  refine ⟨_, S₁₇, add_edge_cw F.toKF Z S₁₇ (by exact hh) (by show A.depth + 1 + 2 < _; omega) R₁₃ hp al hm huv (fun _ => h1) h2 fun s₁₈ H₁ ρ₁ S₁₈ R₁ k₁ => ?_⟩
  replace k₁ := (k₁₃.mono (T' := NewEdge σ u v) fun r e => e.elim).trans k₁
  have hU₁ := sd_kept huv h0 k₁ hrU
  have hsm := edge_len (c := σ.cw u r) (cc := r) huv h0 hm
  have hso := edge_so (c := σ.cw u r) (cc := r) huv h0
  have hτ : σ.heCcw u v r (σ.cw u r) l = Sg.half { σ.addEdge u v (σ.cw u r) r with cc := fset2 (σ.addEdge u v (σ.cw u r) r).cc u (σ.cw u r) v, cw := fset2 (σ.addEdge u v (σ.cw u r) r).cw u r v } u l true := rfl
  rw [hτ] at h
  generalize σ.addEdge u v (σ.cw u r) r = τ at *
  -- succs[ref_ccw]['cw'] = end_node
  obtain ⟨kv₁, ep₁, hU₁', rU₁⟩ := R₁.sd hU₁
  obtain ⟨aC, hvC, hrC⟩ := rU₁.find (k := σ.cw u r) (by rw [hso]; exact List.mem_append_left _ hc)
  obtain ⟨kc, hC, eC⟩ := R₁.ed hrC
  refine y_any (x_sets S₁₈ (pu_i 2 C rfl rfl) (pu_sub (pu_v 5 C rfl rfl) (pu_i 9 C rfl rfl) hU₁' hvC) pu_str hC (by rw [eC.2.2]; decide) fun _ s₁₉ ⟨t₂, x⟩ S₁₉ => ?_)
  subst x
  have R₂ := ccw_set (x := v) R₁ hrC hC t₂
  have k₂ := k₁.set (d := .ds (stored kc "ccw" (.int v t₂))) hrC
  generalize upd H₁ aC (.ds (stored kc "ccw" (.int v t₂))) = H₂ at *
  -- succs[cw]['ccw'] = end_node
  obtain ⟨kv₂, ep₂, hU₂', rU₂⟩ := R₂.sd hU₁
  obtain ⟨aR', hvR', hrR'⟩ := rU₂.find (k := r) (by show r ∈ τ.so u; rw [hso]; exact List.mem_append_left _ hr)
  obtain ⟨kr', hR', eR'⟩ := R₂.ed hrR'
  refine x_sets S₁₉ (pu_i 2 C rfl rfl) (pu_sub (pu_v 5 C rfl rfl) (pu_i 4 C rfl rfl) hU₂' hvR') pu_str hR' (by rw [eR'.2.2]; decide) fun _ s₂₀ ⟨t₂', x⟩ S₂₀ => ?_
  subst x
  have R₃ := cw_set (x := v) R₂ hrR' hR' t₂'
  have k₃ := k₂.set (d := .ds (stored kr' "cw" (.int v t₂'))) hrR'
  generalize upd H₂ aR' (.ds (stored kr' "cw" (.int v t₂'))) = H₃ at *
  -- move
  refine x_as 8 S₂₀ C rfl pu_bool (by simp) fun _ s₂₁ x S₂₁ => ?_
  subst x
  replace S₂₁ : St prog w base os ((dHalf.env L, fm (dHalf.env L).scope.names [some (.ref p), some (.int u t), some (.int v t'), some .none, some (.int r tr), some (.ref aU), some (.int l tl), none, some (.bool true), some (.int (σ.cw u r) tc)]) :: fr) H₃ s₂₁ := S₂₁
  refine x_nil (y_nil (y_any (x_if S₂₁ (tu_val (pu_v 8 C rfl rfl) tr_bool) fun s₂₂ S₂₂ => ?_)))
  refine x_move S₂₂ R₃ hU₁ (l := l) (by show l ∈ τ.so u; rw [hso]; exact List.mem_append_left _ (List.mem_of_getLast? hl)) hsm (fun _ _ => pu_v 5 C rfl rfl) (fun _ _ => pu_i 6 C rfl rfl) fun s₂₃ H₄ S₂₃ R₄ k₄ => ?_
  exact x_nil (x_nil (y_nil (h s₂₃ H₄ ρ₁ S₂₃.popped R₄ (k₃.trans (k₄.mono fun r e => e.elim)))))
end
end Mine

end

section
open PySem PySem.W PyProof.Rows PySem.Calls
set_option Elab.async false
set_option maxRecDepth 100000
set_option linter.unusedVariables false
namespace Mine

def dCcw : Def := mkD 853 "add_half_edge_ccw" "PlanarEmbedding.add_half_edge_ccw" (subAt 16 8) [] .none .none
def dCw : Def := mkD 860 "add_half_edge_cw" "PlanarEmbedding.add_half_edge_cw" (subAt 16 9) [] .none .none
def dFirst : Def := mkD 888 "add_half_edge_first" "PlanarEmbedding.add_half_edge_first" (subAt 16 13) [] .none .none
def dConn : Def := mkD 881 "connect_components" "PlanarEmbedding.connect_components" (subAt 16 12) [] .none .none
theorem scCcw : ScOk dCcw.scope := ScOk.of (by decide +kernel)
theorem scCw : ScOk dCw.scope := ScOk.of (by decide +kernel)
theorem scFirst : ScOk dFirst.scope := ScOk.of (by decide +kernel)
theorem scConn : ScOk dConn.scope := ScOk.of (by decide +kernel)
structure KH (prog : Program) (K : Frag) : Prop extends KG prog K where
  ccw : dCcw.In K
  mCcw : MethK K "add_half_edge_ccw" 853
  cw : dCw.In K
  mCw : MethK K "add_half_edge_cw" 860
  first : dFirst.In K
  mFirst : MethK K "add_half_edge_first" 888
  conn : dConn.In K
  mConn : MethK K "connect_components" 881

def Sg.lst (σ : Sg) (u : Int) : Option Int := if u ∈ σ.ns then (σ.so u).getLast? else none
def Sg.first (σ : Sg) (u v : Int) : Sg := match σ.lst u with
  | none => σ.addEdge u v v v
  | some l => σ.heCw u v l (σ.cc u l) l
/-- what adding u → v asks -/
structure Sg.Free (σ : Sg) (u v : Int) : Prop where
  ne : u ≠ v
  so : u ∈ σ.ns → v ∉ σ.so u
  po : v ∈ σ.ns → u ∉ σ.po v
def refV : Option Int → Tok → Value
  | none, _ => .none
  | some l, t => .int l t

section
variable {prog : Program} {w : World} {K : Frag} {base : Heap} {os : Os} {A : Around} {E : Value → Shared → Prop} {fr : Frs} {H : Led} {s : Shared} {env : Env} {vs : List (Option Value)} {p : Addr} {ρ : Rho} {σ : Sg}

theorem half_first {u v : Int} {t t' tr : Tok} {Q : Value → Shared → Prop} (F : KG prog K) (Z : Sta K base) (S : St prog w base os fr H s) (hh : A.handled = none) (hA : A.depth + 4 < recursionLimit) (R : Rep w.params H ρ σ) (hp : ρ p = some .self) (al : σ.Al) (hm : σ.Sm)
    (hf : σ.Free u v) (hc : ∀ l, σ.lst u = some l → σ.cc u l ∈ σ.so u)
    (h : ∀ s' H' ρ', St prog w base os fr H' s' → Rep w.params H' ρ' (σ.first u v) → Keep (NewEdge σ u v) H ρ H' ρ' → Q .none s') :
    wpAny (model prog w) A (call (.ref 839) [.ref p, .int u t, .int v t'] [(("cw" : Str), refV (σ.lst u) tr)]) Q E s := by
  unfold Sg.first at h
  cases q : σ.lst u with
  | none =>
    rw [q] at h
    refine half_new (F.hb1 .none) F Z S hh hA R hp al hm hf.ne (fun z => ?_) hf.po h
    unfold Sg.lst at q
    rw [if_pos z] at q
    exact List.getLast?_eq_none_iff.mp q
  | some l =>
    rw [q] at h
    have hcl := hc l q
    unfold Sg.lst at q
    split at q
    · rename_i z
      exact half_cw F Z S hh hA R hp al hm hf.ne z (hf.so z) hf.po (List.mem_of_getLast? q) hcl q h
    · cases q

theorem ccw_ok {u v r l : Int} {t t' tr : Tok} {Q : Value → Shared → Prop} (F : KH prog K) (Z : Sta K base) (S : St prog w base os fr H s) (hh : A.handled = none) (hA : A.depth + 5 < recursionLimit) (R : Rep w.params H ρ σ) (hp : ρ p = some .self) (al : σ.Al) (hm : σ.Sm)
    (hf : σ.Free u v) (h0 : u ∈ σ.ns) (hr : r ∈ σ.so u) (hc : σ.cc u r ∈ σ.so u) (hl : (σ.so u).getLast? = some l)
    (h : ∀ s' H' ρ', St prog w base os fr H' s' → Rep w.params H' ρ' (σ.heCw u v r (σ.cc u r) l) → Keep (NewEdge σ u v) H ρ H' ρ' → Q .none s') :
    wpAny (model prog w) A (call (.ref 853) [.ref p, .int u t, .int v t', .int r tr]) Q E s := by
  refine call_plain (D := dCcw) (n := 0) (binds := [("self", .ref p), ("start_node", .int u t), ("end_node", .int v t'), ("reference_neighbor", .int r tr)]) S Z (by omega) F.ccw (by decide +kernel) scCcw rfl rfl (fun _ _ _ _ => rfl) rfl rfl fun L s₁ S₁ => ?_
  have C := scCcw
  replace S₁ : St prog w base os ((dCcw.env L, fm (dCcw.env L).scope.names [some (.ref p), some (.int u t), some (.int v t'), some (.int r tr)]) :: fr) H s₁ := S₁
  rw [BodyOk]
  refine x_expr (ev_pic S₁ Z F.toKA F.mHalf R hp (pu_v 0 C rfl rfl) (fun _ _ _ _ _ => by cases σ.adj <;> rfl) rfl rfl fun s₂ S₂ => ?_)
  refine Pu.go (pu_v 1 C rfl rfl) S₂ fun _ s₃ x S₃ => ?_
  subst x
  refine Pu.go (pu_v 2 C rfl rfl) S₃ fun _ s₄ x S₄ => ?_
  subst x
  refine Pu.go (pu_v 3 C rfl rfl) S₄ fun _ s₅ x S₅ => ?_
  subst x
  refine ⟨S₅.kin Z, half_cw F.toKG Z S₅ (by exact hh) (by show A.depth + 1 + 4 < _; omega) R hp al hm hf.ne h0 (hf.so h0) hf.po hr hc hl fun s₆ H' ρ' S₆ R' k' => ⟨rfl, ?_⟩⟩
  exact x_nil (h s₆ H' ρ' S₆.popped R' k')
theorem cw_ok {u v r l : Int} {t t' tr : Tok} {Q : Value → Shared → Prop} (F : KH prog K) (Z : Sta K base) (S : St prog w base os fr H s) (hh : A.handled = none) (hA : A.depth + 5 < recursionLimit) (R : Rep w.params H ρ σ) (hp : ρ p = some .self) (al : σ.Al) (hm : σ.Sm)
    (hf : σ.Free u v) (h0 : u ∈ σ.ns) (hr : r ∈ σ.so u) (hc : σ.cw u r ∈ σ.so u) (hl : (σ.so u).getLast? = some l)
    (h : ∀ s' H' ρ', St prog w base os fr H' s' → Rep w.params H' ρ' (σ.heCcw u v r (σ.cw u r) l) → Keep (NewEdge σ u v) H ρ H' ρ' → Q .none s') :
    wpAny (model prog w) A (call (.ref 860) [.ref p, .int u t, .int v t', .int r tr]) Q E s := by
  refine call_plain (D := dCw) (n := 0) (binds := [("self", .ref p), ("start_node", .int u t), ("end_node", .int v t'), ("reference_neighbor", .int r tr)]) S Z (by omega) F.cw (by decide +kernel) scCw rfl rfl (fun _ _ _ _ => rfl) rfl rfl fun L s₁ S₁ => ?_
  have C := scCw
  replace S₁ : St prog w base os ((dCw.env L, fm (dCw.env L).scope.names [some (.ref p), some (.int u t), some (.int v t'), some (.int r tr)]) :: fr) H s₁ := S₁
  rw [BodyOk]
  refine x_expr (ev_pic S₁ Z F.toKA F.mHalf R hp (pu_v 0 C rfl rfl) (fun _ _ _ _ _ => by cases σ.adj <;> rfl) rfl rfl fun s₂ S₂ => ?_)
  refine Pu.go (pu_v 1 C rfl rfl) S₂ fun _ s₃ x S₃ => ?_
  subst x
  refine Pu.go (pu_v 2 C rfl rfl) S₃ fun _ s₄ x S₄ => ?_
  subst x
  refine Pu.go (pu_v 3 C rfl rfl) S₄ fun _ s₅ x S₅ => ?_
  subst x
  refine ⟨S₅.kin Z, half_ccw F.toKG Z S₅ (by exact hh) (by show A.depth + 1 + 4 < _; omega) R hp al hm hf.ne h0 (hf.so h0) hf.po hr hc hl fun s₆ H' ρ' S₆ R' k' => ⟨rfl, ?_⟩⟩
  exact x_nil (h s₆ H' ρ' S₆.popped R' k')

theorem first_ok {u v : Int} {t t' : Tok} {Q : Value → Shared → Prop} (F : KH prog K) (Z : Sta K base) (S : St prog w base os fr H s) (hh : A.handled = none) (hA : A.depth + 5 < recursionLimit) (R : Rep w.params H ρ σ) (hp : ρ p = some .self) (al : σ.Al) (hm : σ.Sm)
    (hf : σ.Free u v) (hc : ∀ l, σ.lst u = some l → σ.cc u l ∈ σ.so u)
    (h : ∀ s' H' ρ', St prog w base os fr H' s' → Rep w.params H' ρ' (σ.first u v) → Keep (NewEdge σ u v) H ρ H' ρ' → Q .none s') :
    wpAny (model prog w) A (call (.ref 888) [.ref p, .int u t, .int v t']) Q E s := by
  refine call_plain (D := dFirst) (n := 2) (binds := [("self", .ref p), ("start_node", .int u t), ("end_node", .int v t')]) S Z (by omega) F.first (by decide +kernel) scFirst rfl rfl (fun _ _ _ _ => rfl) rfl rfl fun L s₁ S₁ => ?_
  have C := scFirst
  replace S₁ : St prog w base os ((dFirst.env L, fm (dFirst.env L).scope.names [some (.ref p), some (.int u t), some (.int v t'), none, none]) :: fr) H s₁ := S₁
  obtain ⟨gA, nA, sA, pA, B⟩ := R.picOf hp
  obtain ⟨ks, es, hsA, rs⟩ := R.succ B.succ
  rw [BodyOk]
  refine x_asG 3 S₁ C rfl (mcall (Pu.go (pu_succ (pu_v 0 C rfl rfl) Z F.toKA R B.self B.succ) S₁ fun _ s₂ x S₂ => ?_))
  subst x
  refine md_di PySem.F.slot_dict_get PySem.F.type_dict_get S₂ hsA (cwB rfl (Pu.go (pu_i 1 C rfl rfl) S₂ fun _ s₃ x S₃ => ?_))
  obtain ⟨t₃, rfl⟩ := x
  refine di_get1 S₃ hsA fun s₄ S₄ => ⟨fr, H, _, _, S₄, rfl, by simp, fun s₅ S₅ => ?_⟩
  obtain ⟨sv, hsv, hT⟩ : ∃ sv, (valueAt ks u).getD .none = sv ∧ ∀ vs np, vs[3]? = some (some sv) → ∃ b, Tu prog w base os fr H (dFirst.env L) vs (.Name "succs" np) b ∧
      (if b then ∃ aU kvs ep l, sv = .ref aU ∧ H aU = some (.di kvs ep) ∧ kvs.length ≤ 1000 ∧ kvs.map (·.1) = σ.so u ∧ σ.lst u = some l ∧ (σ.so u).getLast? = some l else σ.lst u = none) := by
    by_cases z : u ∈ σ.ns
    · obtain ⟨aU, hv, hr⟩ := rs.find z
      obtain ⟨kvs, ep, hU, rU⟩ := R.sd hr
      have hlen : kvs.length ≤ 1000 := by rw [rU.len]; exact Nat.le_trans (hm.so u) (by decide)
      refine ⟨.ref aU, by rw [hv]; rfl, fun vs np h5 => ⟨_, tu_val (pu_v 3 C rfl h5) (tr_di hU hlen), ?_⟩⟩
      rw [rU.isEmpty]
      cases q : σ.so u with
      | nil => simp [Sg.lst, z, q]
      | cons x l =>
        refine ⟨aU, kvs, ep, _, rfl, hU, hlen, by rw [rU.1, q], ?_, List.getLast?_eq_some_getLast (by simp)⟩
        rw [Sg.lst, if_pos z, q]; exact List.getLast?_eq_some_getLast (by simp)
    · exact ⟨.none, by rw [rs.none z]; rfl, fun vs np h5 => ⟨false, tu_val (pu_v 3 C rfl h5) tr_none, by simp [Sg.lst, z]⟩⟩
  rw [hsv] at S₅
  replace S₅ : St prog w base os ((dFirst.env L, fm (dFirst.env L).scope.names [some (.ref p), some (.int u t), some (.int v t'), some sv, none]) :: fr) H s₅ := S₅
  have fin : ∀ s₆ tr, St prog w base os ((dFirst.env L, fm (dFirst.env L).scope.names [some (.ref p), some (.int u t), some (.int v t'), some sv, some (refV (σ.lst u) tr)]) :: fr) H s₆ →
      wpAny (model prog w) (A.deeper (dFirst.env L)) (execs (dFirst.body.drop 2) (dFirst.env L)) (fun fl s' => Q (retOf fl) s') (fun e s' => wpAny (model prog w) (A.deeper (dFirst.env L)) (leaving (dFirst.env L) e) (fun _ s'' => E e s'') E s') s₆ := fun s₆ tr S₆ => by
    refine x_expr (ev_pic S₆ Z F.toKA F.mHalf R hp (pu_v 0 C rfl rfl) (fun _ _ _ _ _ => by cases σ.adj <;> rfl) rfl rfl fun s₇ S₇ => ?_)
    refine Pu.go (pu_v 1 C rfl rfl) S₇ fun _ s₈ x S₈ => ?_
    subst x
    refine Pu.go (pu_v 2 C rfl rfl) S₈ fun _ s₉ x S₉ => ?_
    subst x
    refine Pu.go (pu_v 4 C rfl rfl) S₉ fun _ s₁₀ x S₁₀ => ?_
    subst x
    refine ⟨S₁₀.kin Z, half_first F.toKG Z S₁₀ (by exact hh) (by show A.depth + 1 + 4 < _; omega) R hp al hm hf hc fun s₁₁ H' ρ' S₁₁ R' k' => ⟨rfl, ?_⟩⟩
    exact x_nil (h s₁₁ H' ρ' S₁₁.popped R' k')
  obtain ⟨b, hT, hb⟩ := hT [some (.ref p), some (.int u t), some (.int v t'), some sv, none] _ rfl
  refine x_asG 4 S₅ C rfl (wpAny_IfExp (hT _ _ _ _ S₅ fun s₆ S₆ => ?_))
  cases b with
  | false =>
    refine Pu.go pu_none S₆ fun _ s₇ x S₇ => ?_
    subst x
    refine ⟨fr, H, _, _, S₇, rfl, by simp, fun s₈ S₈ => fin s₈ 0 ?_⟩
    have : refV (σ.lst u) 0 = .none := by rw [hb]; rfl
    rw [this]; exact S₈
  | true =>
    obtain ⟨aU, kvs, ep, l, rfl, hU, hlen, hk, hl, hl'⟩ := hb
    have hnil : σ.so u ≠ [] := fun q => by rw [q] at hl'; cases hl'
    refine ev_last 5 Z (by exact hh) C rfl rfl rfl F.bList S₆ (pu_v 3 C rfl rfl) hU hlen hk hnil rfl fun lv s₇ hlv S₇ => ⟨fr, H, _, _, S₇, rfl, by simp, fun s₈ S₈ => ?_⟩
    have hlast : (σ.so u).getLast hnil = l := by rw [List.getLast?_eq_some_getLast hnil] at hl'; exact Option.some.inj hl'
    rw [hlast] at hlv
    obtain ⟨tl, rfl⟩ := hlv
    refine fin s₈ tl ?_
    have : refV (σ.lst u) tl = .int l tl := by rw [hl]; rfl
    rw [this]; exact S₈
end
end Mine

end

section
open PySem PySem.W PyProof.Rows PySem.Calls
set_option Elab.async false
set_option maxRecDepth 100000
set_option linter.unusedVariables false
namespace Mine

section
variable {prog : Program} {w : World} {K : Frag} {base : Heap} {os : Os} {A : Around} {E : Value → Shared → Prop} {fr : Frs} {H : Led} {s : Shared} {env : Env} {vs : List (Option Value)} {p : Addr} {ρ : Rho} {σ : Sg}

/-- if x in self._succ and self._succ[x]: ref = list(self._succ[x])[-1] else: ref = None -/
theorem x_ref {u : Int} {x : Str} {a1 a2 a3 a4 a5 a6 a7 a8 b1 b2 b3 b4 b5 b6 b7 b8 b9 b10 c1 c2 c3 c4 d1 d2 : Pos} {c c' : Nat} {rest : List Stmt} {Q : Flow → Shared → Prop} (i j : Nat) (F : KG prog K) (Z : Sta K base) (hh : A.handled = none) (C : ScOk env.scope) (hg : env.globals = mainGlobals) (hb : env.builtins = builtinsNs)
    (hi : env.scope.names[i]? = some (("list" : Str), NameKind.globalImplicit)) (hj : env.scope.names[j]? = some (("ref" : Str), NameKind.local)) (hl : j < vs.length) (S : St prog w base os ((env, fm env.scope.names vs) :: fr) H s) (R : Rep w.params H ρ σ) (hp : ρ p = some .self) (hm : σ.Sm)
    (h0 : ∀ p0, Pu prog w base os fr H env vs (.Name "self" p0) (· = .ref p)) (h1 : ∀ p0, Pu prog w base os fr H env vs (.Name x p0) (IsI u))
    (q : ∀ tr s', St prog w base os ((env, fm env.scope.names (vs.set j (some (refV (σ.lst u) tr)))) :: fr) H s' → wpAny (model prog w) A (execs rest env) Q E s') :
    wpAny (model prog w) A (execs (.If (.BoolOp .And [.Compare (.Name x a1) [.In] [.Attribute (.Name "self" a2) "_succ" a3] a4, .Subscript (.Attribute (.Name "self" a5) "_succ" a6) (.Name x a7) a8] d1)
      [.Assign [.Name "ref" b1] (.Subscript (.Call (.Name "list" b2) [.Subscript (.Attribute (.Name "self" b3) "_succ" b4) (.Name x b5) b6] [] b7) (.UnaryOp .USub (.Constant (.int 1) c b8) b9) b10) c1]
      [.Assign [.Name "ref" c2] (.Constant .none c' c3) c4] d2 :: rest) env) Q E s := by
  obtain ⟨gA, nA, sA, pA, B⟩ := R.picOf hp
  obtain ⟨ks, es, hsA, rs⟩ := R.succ B.succ
  by_cases z : u ∈ σ.ns
  · obtain ⟨aU, hv, hr⟩ := rs.find z
    obtain ⟨kvs, ep, hU, rU⟩ := R.sd hr
    have hlen : kvs.length ≤ 1000 := by rw [rU.len]; exact Nat.le_trans (hm.so u) (by decide)
    have T1 : Tu prog w base os fr H env vs (.Compare (.Name x a1) [.In] [.Attribute (.Name "self" a2) "_succ" a3] a4) true := tu_in (h1 _) (pu_succ (h0 _) Z F.toKA R hp B.succ) hsA (by rw [rs.isSome, decide_eq_true z])
    refine x_if S (tu_and T1 fun _ => tu_val (pu_sub (pu_succ (h0 _) Z F.toKA R hp B.succ) (h1 _) hsA hv) (tr_di hU hlen)) fun s₁ S₁ => ?_
    rw [rU.isEmpty]
    cases e : σ.so u with
    | nil =>
      refine x_as j S₁ C hj pu_none hl fun _ s₂ y S₂ => x_nil (q 0 s₂ ?_)
      subst y
      have : refV (σ.lst u) 0 = .none := by rw [Sg.lst, if_pos z, e]; rfl
      rw [this]; exact S₂
    | cons y l =>
      refine x_asG j S₁ C hj (ev_last i Z hh C hg hb hi F.bList S₁ (pu_sub (pu_succ (h0 _) Z F.toKA R hp B.succ) (h1 _) hsA hv) hU hlen (rU.1.trans e) (by simp) rfl fun lv s₂ hlv S₂ => ⟨fr, H, _, _, S₂, rfl, hl, fun s₃ S₃ => x_nil ?_⟩)
      obtain ⟨tl, rfl⟩ := hlv
      refine q tl s₃ ?_
      have : refV (σ.lst u) tl = .int ((y :: l).getLast (by simp)) tl := by rw [Sg.lst, if_pos z, e, List.getLast?_eq_some_getLast (by simp)]; rfl
      rw [this]; exact S₃
  · have T1 : Tu prog w base os fr H env vs (.Compare (.Name x a1) [.In] [.Attribute (.Name "self" a2) "_succ" a3] a4) false := tu_in (h1 _) (pu_succ (h0 _) Z F.toKA R hp B.succ) hsA (by rw [rs.isSome, decide_eq_false z])
    refine x_if S (tu_and (b' := false) T1 fun y => by cases y) fun s₁ S₁ => ?_
    refine x_as j S₁ C hj pu_none hl fun _ s₂ y S₂ => x_nil (q 0 s₂ ?_)
    subst y
    have : refV (σ.lst u) 0 = .none := by rw [Sg.lst, if_neg z]; rfl
    rw [this]; exact S₂

def NewConn (σ : Sg) (v w : Int) (r : Role) : Prop := NewEdge σ v w r ∨ NewEdge (σ.first v w) w v r
theorem conn_ok {v u : Int} {t t' : Tok} {Q : Value → Shared → Prop} (F : KH prog K) (Z : Sta K base) (S : St prog w base os fr H s) (hh : A.handled = none) (hA : A.depth + 5 < recursionLimit) (R : Rep w.params H ρ σ) (hp : ρ p = some .self) (al : σ.Al) (hm : σ.Sm)
    (hf : σ.Free v u) (hc : ∀ l, σ.lst v = some l → σ.cc v l ∈ σ.so v) (al' : (σ.first v u).Al) (hm' : (σ.first v u).Sm) (hf' : (σ.first v u).Free u v) (hc' : ∀ l, (σ.first v u).lst u = some l → (σ.first v u).cc u l ∈ (σ.first v u).so u)
    (h : ∀ s' H' ρ', St prog w base os fr H' s' → Rep w.params H' ρ' ((σ.first v u).first u v) → Keep (NewConn σ v u) H ρ H' ρ' → Q .none s') :
    wpAny (model prog w) A (call (.ref 881) [.ref p, .int v t, .int u t']) Q E s := by
  refine call_plain (D := dConn) (n := 1) (binds := [("self", .ref p), ("v", .int v t), ("w", .int u t')]) S Z (by omega) F.conn (by decide +kernel) scConn rfl rfl (fun _ _ _ _ => rfl) rfl rfl fun L s₁ S₁ => ?_
  have C := scConn
  replace S₁ : St prog w base os ((dConn.env L, fm (dConn.env L).scope.names [some (.ref p), some (.int v t), some (.int u t'), none]) :: fr) H s₁ := S₁
  rw [BodyOk]
  refine x_ref (u := v) 4 3 F.toKG Z (by exact hh) C rfl rfl rfl rfl (by simp) S₁ R hp hm (fun _ => pu_v 0 C rfl rfl) (fun _ => pu_i 1 C rfl rfl) fun tr s₂ S₂ => ?_
  replace S₂ : St prog w base os ((dConn.env L, fm (dConn.env L).scope.names [some (.ref p), some (.int v t), some (.int u t'), some (refV (σ.lst v) tr)]) :: fr) H s₂ := S₂
  refine x_expr (ev_pic S₂ Z F.toKA F.mHalf R hp (pu_v 0 C rfl rfl) (fun _ _ _ _ _ => by cases σ.adj <;> rfl) rfl rfl fun s₃ S₃ => ?_)
  refine Pu.go (pu_v 1 C rfl rfl) S₃ fun _ s₄ x S₄ => ?_
  subst x
  refine Pu.go (pu_v 2 C rfl rfl) S₄ fun _ s₅ x S₅ => ?_
  subst x
  refine Pu.go (pu_v 3 C rfl rfl) S₅ fun _ s₆ x S₆ => ?_
  subst x
  refine ⟨S₆.kin Z, half_first F.toKG Z S₆ (by exact hh) (by show A.depth + 1 + 4 < _; omega) R hp al hm hf hc fun s₇ H₁ ρ₁ S₇ R₁ k₁ => ⟨rfl, ?_⟩⟩
  have hp₁ : ρ₁ p = some .self := k₁.role _ _ hp fun q => by
    rcases q with q | ⟨_, q | q | q⟩ | ⟨_, q | q | q⟩ <;> cases q
  refine x_ref (u := u) 4 3 F.toKG Z (by exact hh) C rfl rfl rfl rfl (by simp) S₇ R₁ hp₁ hm' (fun _ => pu_v 0 C rfl rfl) (fun _ => pu_i 2 C rfl rfl) fun tr' s₈ S₈ => ?_
  replace S₈ : St prog w base os ((dConn.env L, fm (dConn.env L).scope.names [some (.ref p), some (.int v t), some (.int u t'), some (refV ((σ.first v u).lst u) tr')]) :: fr) H₁ s₈ := S₈
  refine x_expr (ev_pic S₈ Z F.toKA F.mHalf R₁ hp₁ (pu_v 0 C rfl rfl) (fun _ _ _ _ _ => by cases (σ.first v u).adj <;> rfl) rfl rfl fun s₉ S₉ => ?_)
  refine Pu.go (pu_v 2 C rfl rfl) S₉ fun _ s₄ x S₄ => ?_
  subst x
  refine Pu.go (pu_v 1 C rfl rfl) S₄ fun _ s₅ x S₅ => ?_
  subst x
  refine Pu.go (pu_v 3 C rfl rfl) S₅ fun _ s₆ x S₆ => ?_
  subst x
  refine ⟨S₆.kin Z, half_first F.toKG Z S₆ (by exact hh) (by show A.depth + 1 + 4 < _; omega) R₁ hp₁ al' hm' hf' hc' fun s₇ H₂ ρ₂ S₇ R₂ k₂ => ⟨rfl, ?_⟩⟩
  exact x_nil (h s₇ H₂ ρ₂ S₇.popped R₂ ((k₁.mono fun r q => .inl q).trans (k₂.mono fun r q => .inr q)))
end
end Mine

end

section
open PySem PySem.W PyProof.Rows PySem.Calls
set_option Elab.async false
set_option maxRecDepth 100000
set_option linter.unusedVariables false
namespace Mine

def dRemEdge : Def := mkD 867 "remove_edge" "PlanarEmbedding.remove_edge" (subAt 16 10) [] .none .none
def dRemNode : Def := mkD 816 "remove_node" "PlanarEmbedding.remove_node" (subAt 16 3) [] .none .none
def dRemNodes : Def := mkD 823 "remove_nodes_from" "PlanarEmbedding.remove_nodes_from" (subAt 16 4) [] .none .none
def dRemEdges : Def := mkD 874 "remove_edges_from" "PlanarEmbedding.remove_edges_from" (subAt 16 11) [] .none .none
theorem scRemEdge : ScOk dRemEdge.scope := ScOk.of (by decide +kernel)
theorem scRemNode : ScOk dRemNode.scope := ScOk.of (by decide +kernel)
theorem scRemNodes : ScOk dRemNodes.scope := ScOk.of (by decide +kernel)
theorem scRemEdges : ScOk dRemEdges.scope := ScOk.of (by decide +kernel)
structure KI (prog : Program) (K : Frag) : Prop extends KH prog K where
  remEdge : dRemEdge.In K
  mRemEdge : MethK K "remove_edge" 867
  remNode : dRemNode.In K
  mRemNode : MethK K "remove_node" 816
  remNodes : dRemNodes.In K
  mRemNodes : MethK K "remove_nodes_from" 823
  remEdges : dRemEdges.In K
  mRemEdges : MethK K "remove_edges_from" 874

section
variable {prog : Program} {w : World} {K : Frag} {base : Heap} {os : Os} {A : Around} {E : Value → Shared → Prop} {fr : Frs} {H : Led} {s : Shared} {env : Env} {vs : List (Option Value)} {p a : Addr} {ρ : Rho} {σ : Sg} {e₁ e₂ : PySem.Expr} {pos np : Pos} {k : Int}

def SjL (prog : Program) (w : World) (base : Heap) (os : Os) (fr : Frs) (H : Led) (env : Env) (vs : List (Option Value)) : List PySem.Expr → List Nat → Prop
  | [], [] => True
  | e :: es, n :: ns => Sj prog w base os fr H env vs e n ∧ SjL prog w base os fr H env vs es ns
  | _, _ => False
theorem SjL.at : ∀ {es : List PySem.Expr} {ns : List Nat}, SjL prog w base os fr H env vs es ns → es.length = ns.length ∧ ∀ (i : Nat) (e : PySem.Expr) (n : Nat), es[i]? = some e → ns[i]? = some n → Sj prog w base os fr H env vs e n
  | [], [], _ => ⟨rfl, fun i e n h => by simp at h⟩
  | [], _ :: _, h => h.elim
  | _ :: _, [], h => h.elim
  | e :: es, n :: ns, ⟨h, t⟩ => by
    obtain ⟨q1, q2⟩ := SjL.at t
    refine ⟨by simp [q1], fun i e' n' h1 h2 => ?_⟩
    cases i with
    | zero => cases h1; cases h2; exact h
    | succ i => exact q2 i e' n' h1 h2
theorem sj_joinedL {e₁ e₂ : PySem.Expr} {es : List PySem.Expr} {ns : List Nat} (h : SjL prog w base os fr H env vs (e₁ :: e₂ :: es) ns) (hz : ns.sum ≤ 100000) : Sj prog w base os fr H env vs (.JoinedStr (e₁ :: e₂ :: es) pos) 100000 :=
  sj_joined ns h.at.1 h.at.2 hz

/-- v[k], and the key is not there -/
theorem sub_miss {kvs : List (Int × Value)} {ep : Option Nat} {Q : Value → Shared → Prop} (hh : A.handled = none) (S : St prog w base os ((env, fm env.scope.names vs) :: fr) H s) (h1 : Pu prog w base os fr H env vs e₁ (· = .ref a)) (h2 : Pu prog w base os fr H env vs e₂ (IsI k)) (e : H a = some (.di kvs ep)) (hv : valueAt kvs k = none)
    (q : ∀ e s', Mad prog w base os ((env, fm env.scope.names vs) :: fr) H e (.type "KeyError") s' → Cx e s' → E (.ref e) s')
    (hs : ∀ t, subscripted e₂ false (.ref a) (.int k t) = operate [.ref a, .int k t] (getItem (.ref a) (.int k t)) := by intro _; with_unfolding_all rfl) : wpAny (model prog w) A (eval (.Subscript e₁ e₂ pos) env) Q E s :=
  ev_sub (Pu.go h1 S fun _ s₁ x S₁ => by
    subst x
    exact Pu.go h2 S₁ fun _ s₂ ⟨t, x⟩ S₂ => by
      subst x
      exact di_sub_missing S₂ e hh hv (fun h' x tk hx => let ⟨M, c⟩ := Mad.ofNew (t := tk) S₂ hx; q x _ M c) (hs t))

def Tame (k : Int) : Prop := k.natAbs < 100000
theorem Tame.log {k : Int} (h : Tame k) : k.natAbs.log2 < 1920 := by
  have : k.natAbs < 2 ^ 20 := Nat.lt_trans h (by decide)
  by_cases z : k.natAbs = 0
  · rw [z]; decide
  · have := (Nat.log2_lt z).mpr this; omega

/-- the edge isn't there -/
theorem remEdge_bad {u v : Int} {t t' : Tok} {Q : Value → Shared → Prop} (F : KI prog K) (Z : Sta K base) (S : St prog w base os fr H s) (hf : A.frames = some fr.envs) (hh : A.handled = none) (hA : A.depth + 3 < recursionLimit) (R : Rep w.params H ρ σ) (hp : ρ p = some .self)
    (hu : Tame u) (hv : Tame v) (hc : u ∈ σ.ns → v ∈ σ.ns → v ∉ σ.so u)
    (h : ∀ e s', Fly prog w base os fr H e (.ref nxE) s' → E (.ref e) s') : wpAny (model prog w) A (call (.ref 867) [.ref p, .int u t, .int v t']) Q E s := by
  refine call_plain (D := dRemEdge) (n := 7) (binds := [("self", .ref p), ("u", .int u t), ("v", .int v t')]) S Z (by omega) F.remEdge (by decide +kernel) scRemEdge rfl rfl (fun _ _ _ _ => rfl) rfl rfl fun L s₁ S₁ => ?_
  have C := scRemEdge
  replace S₁ : St prog w base os ((dRemEdge.env L, fm (dRemEdge.env L).scope.names [some (.ref p), some (.int u t), some (.int v t'), none, none, none, none, none, none, none]) :: fr) H s₁ := S₁
  obtain ⟨gA, nA, sA, pA, B⟩ := R.picOf hp
  obtain ⟨ks, es, hsA, rs⟩ := R.succ B.succ
  have done : ∀ (x : Addr) (s' : Shared) m, Hld prog w base os (dRemEdge.env L) m fr H x (.ref nxE) s' → wpAny (model prog w) (A.deeper (dRemEdge.env L)) (leaving (dRemEdge.env L) (.ref x)) (fun _ s'' => E (.ref x) s'') E s' := fun x s' m X => hld_leave X fun s₉ Y => h x s₉ Y
  rw [BodyOk]
  refine x_tryKey (K := K) (base := base) (os := os) 10 9 11 Z F.toExK C rfl rfl rfl rfl rfl ?_
  by_cases z : u ∈ σ.ns
  · obtain ⟨aU, hvU, hrU⟩ := rs.find z
    obtain ⟨kvs, ep, hU, rU⟩ := R.sd hrU
    refine x_as 3 S₁ C rfl (pu_sub (pu_succ (pu_v 0 C rfl rfl) Z F.toKA R B.self B.succ) (pu_i 1 C rfl rfl) hsA hvU) (by simp) fun _ s₂ x S₂ => ?_
    subst x
    replace S₂ : St prog w base os ((dRemEdge.env L, fm (dRemEdge.env L).scope.names [some (.ref p), some (.int u t), some (.int v t'), some (.ref aU), none, none, none, none, none, none]) :: fr) H s₂ := S₂
    by_cases z' : v ∈ σ.ns
    · obtain ⟨aV, hvV, hrV⟩ := rs.find z'
      refine x_as 4 S₂ C rfl (pu_sub (pu_succ (pu_v 0 C rfl rfl) Z F.toKA R B.self B.succ) (pu_i 2 C rfl rfl) hsA hvV) (by simp) fun _ s₃ x S₃ => ?_
      subst x
      replace S₃ : St prog w base os ((dRemEdge.env L, fm (dRemEdge.env L).scope.names [some (.ref p), some (.int u t), some (.int v t'), some (.ref aU), some (.ref aV), none, none, none, none, none]) :: fr) H s₃ := S₃
      refine x_asG 5 S₃ C rfl (ev_sub (sub_miss (by exact hh) S₃ (pu_v 3 C rfl rfl) (pu_i 2 C rfl rfl) hU (rU.none (hc z z')) fun e s' M cx => ⟨e, fr, _, H, rfl, deep hf _, M, cx, by simp, ?_, fun x s₂ m X => done x s₂ m X⟩))
      exact sj_joinedL (ns := [_, _, _, _, _]) ⟨sj_str, sj_int 1 C rfl rfl hu.log, sj_str, sj_int 2 C rfl rfl hv.log, sj_str, trivial⟩ (by decide)
    · refine x_asG 4 S₂ C rfl (sub_miss (by exact hh) S₂ (pu_succ (pu_v 0 C rfl rfl) Z F.toKA R B.self B.succ) (pu_i 2 C rfl rfl) hsA (rs.none z') fun e s' M cx => ⟨e, fr, _, H, rfl, deep hf _, M, cx, by simp, ?_, fun x s₂ m X => done x s₂ m X⟩)
      exact sj_joinedL (ns := [_, _, _, _, _]) ⟨sj_str, sj_int 1 C rfl rfl hu.log, sj_str, sj_int 2 C rfl rfl hv.log, sj_str, trivial⟩ (by decide)
  · refine x_asG 3 S₁ C rfl (sub_miss (by exact hh) S₁ (pu_succ (pu_v 0 C rfl rfl) Z F.toKA R B.self B.succ) (pu_i 1 C rfl rfl) hsA (rs.none z) fun e s' M cx => ⟨e, fr, _, H, rfl, deep hf _, M, cx, by simp, ?_, fun x s₂ m X => done x s₂ m X⟩)
    exact sj_joinedL (ns := [_, _, _, _, _]) ⟨sj_str, sj_int 1 C rfl rfl hu.log, sj_str, sj_int 2 C rfl rfl hv.log, sj_str, trivial⟩ (by decide)
end
end Mine

end

section
open PySem PySem.W PyProof.Rows PySem.Calls
set_option Elab.async false
set_option maxRecDepth 100000
set_option linter.unusedVariables false
namespace Mine

/-- the neighbours of u close the gap behind v: cw was c, ccw was d -/
def Sg.close (σ : Sg) (u v c d : Int) : Sg := if v != c then { σ with cc := fset2 σ.cc u c d, cw := fset2 σ.cw u d c } else σ
def Sg.rest (σ : Sg) (u v : Int) : List Int := (σ.so u).filter (· ≠ v)
def Sg.cutEdge (σ : Sg) (u v : Int) : Sg :=
  { σ with so := fset (fset σ.so u ((σ.so u).filter (· ≠ v))) v ((σ.so v).filter (· ≠ u)), po := fset (fset σ.po v ((σ.po v).filter (· ≠ u))) u ((σ.po u).filter (· ≠ v)) }
def Sg.remEdge (σ : Sg) (u v : Int) : Sg := ((σ.cutEdge u v).close u v (σ.cw u v) (σ.cc u v)).close v u (σ.cw v u) (σ.cc v u)
/-- u and v are joined, and the rings of both go round -/
structure Sg.Joined (σ : Sg) (u v : Int) : Prop where
  ne : u ≠ v
  mu : u ∈ σ.ns
  mv : v ∈ σ.ns
  uv : v ∈ σ.so u
  vu : u ∈ σ.so v
  puv : u ∈ σ.po v
  pvu : v ∈ σ.po u
  cw1 : v ≠ σ.cw u v → σ.cw u v ∈ (σ.so u).filter (· ≠ v) ∧ σ.cc u v ∈ (σ.so u).filter (· ≠ v)
  cw2 : u ≠ σ.cw v u → σ.cw v u ∈ (σ.so v).filter (· ≠ u) ∧ σ.cc v u ∈ (σ.so v).filter (· ≠ u)

section
variable {prog : Program} {w : World} {K : Frag} {base : Heap} {os : Os} {A : Around} {E : Value → Shared → Prop} {fr : Frs} {H : Led} {s : Shared} {env : Env} {vs : List (Option Value)} {p a : Addr} {ρ : Rho} {σ : Sg} {e₁ e₂ : PySem.Expr} {pos np : Pos} {k : Int}

/-- if v != c: succs[c]['ccw'] = d; succs[d]['cw'] = c -/
theorem x_close {x sx cx dx : Str} {a1 a2 a3 b1 b2 b3 b4 b5 b6 b7 c1 c2 c3 c4 c5 c6 c7 d1 : Pos} {n1 n2 : Nat} {u v c d : Int} {tc td : Tok} {aU : Addr} {rest : List Stmt} {Q : Flow → Shared → Prop} (S : St prog w base os ((env, fm env.scope.names vs) :: fr) H s) (R : Rep w.params H ρ σ) (ha : ρ aU = some (.sd u))
    (hm : v ≠ c → c ∈ σ.so u ∧ d ∈ σ.so u)
    (h1 : ∀ H p0, Pu prog w base os fr H env vs (.Name x p0) (IsI v)) (h2 : ∀ H p0, Pu prog w base os fr H env vs (.Name cx p0) (· = .int c tc)) (h3 : ∀ H p0, Pu prog w base os fr H env vs (.Name dx p0) (· = .int d td)) (h4 : ∀ H p0, Pu prog w base os fr H env vs (.Name sx p0) (· = .ref aU))
    (q : ∀ s' H', St prog w base os ((env, fm env.scope.names vs) :: fr) H' s' → Rep w.params H' ρ (σ.close u v c d) → Keep (fun _ => False) H ρ H' ρ → (∀ a, (∀ x y, ρ a ≠ some (.ed x y)) → H' a = H a) → wpAny (model prog w) A (execs rest env) Q E s') :
    wpAny (model prog w) A (execs (.If (.Compare (.Name x a1) [.NotEq] [.Name cx a2] a3)
      [.Assign [.Subscript (.Subscript (.Name sx b1) (.Name cx b2) b3) (.Constant (.str "ccw") n1 b4) b5] (.Name dx b6) b7,
       .Assign [.Subscript (.Subscript (.Name sx c1) (.Name dx c2) c3) (.Constant (.str "cw") n2 c4) c5] (.Name cx c6) c7] [] d1 :: rest) env) Q E s := by
  have h2' : ∀ H p0, Pu prog w base os fr H env vs (.Name cx p0) (IsI c) := fun H p0 => (h2 H p0).mono fun _ e => ⟨tc, e⟩
  have h3' : ∀ H p0, Pu prog w base os fr H env vs (.Name dx p0) (IsI d) := fun H p0 => (h3 H p0).mono fun _ e => ⟨td, e⟩
  refine x_if S (tu_cmp (h1 _ _) (h2' _ _) cmp_ne) fun s₁ S₁ => ?_
  unfold Sg.close at q
  cases z : (v != c) with
  | false => rw [z] at q; exact x_nil (q s₁ H S₁ R .refl fun _ _ => rfl)
  | true =>
    rw [z] at q
    obtain ⟨hc, hd⟩ := hm (by simpa using z)
    obtain ⟨kvs, ep, hU, rU⟩ := R.sd ha
    obtain ⟨aC, hvC, hrC⟩ := rU.find hc
    obtain ⟨kc, hC, eC⟩ := R.ed hrC
    refine x_sets S₁ (h3 _ _) (pu_sub (h4 _ _) (h2' _ _) hU hvC) pu_str hC (by rw [eC.2.2]; decide) fun _ s₂ e S₂ => ?_
    subst e
    have R₂ := ccw_set (x := d) R hrC hC td
    have k₂ : Keep (fun _ => False) H ρ (upd H aC (.ds (stored kc "ccw" (.int d td)))) ρ := Keep.refl.set hrC
    have x₂ : ∀ a, (∀ x y, ρ a ≠ some (.ed x y)) → upd H aC (.ds (stored kc "ccw" (.int d td))) a = H a := fun a ha => upd_ne _ _ fun z => ha u c (by rw [z]; exact hrC)
    generalize upd H aC (.ds (stored kc "ccw" (.int d td))) = H₂ at *
    obtain ⟨kvs₂, ep₂, hU₂, rU₂⟩ := R₂.sd ha
    obtain ⟨aD, hvD, hrD⟩ := rU₂.find (k := d) hd
    obtain ⟨kd, hD, eD⟩ := R₂.ed hrD
    refine x_sets S₂ (h2 _ _) (pu_sub (h4 _ _) (h3' _ _) hU₂ hvD) pu_str hD (by rw [eD.2.2]; decide) fun _ s₃ e S₃ => ?_
    subst e
    exact x_nil (q s₃ _ S₃ (cw_set (x := c) R₂ hrD hD tc) (k₂.set hrD) fun a ha => (upd_ne _ _ fun z => ha u d (by rw [z]; exact hrD)).trans (x₂ a ha))

theorem filter_sub {l : List Int} {a b : Int} (h : a ∈ l.filter (· ≠ b)) : a ∈ l := (List.mem_filter.mp h).1

theorem remEdge_ok {u v : Int} {t t' : Tok} {Q : Value → Shared → Prop} (F : KI prog K) (Z : Sta K base) (S : St prog w base os fr H s) (hh : A.handled = none) (hA : A.depth + 3 < recursionLimit) (R : Rep w.params H ρ σ) (hp : ρ p = some .self) (al : σ.Al) (hm : σ.Sm)
    (J : σ.Joined u v) (h : ∀ s' H', St prog w base os fr H' s' → Rep w.params H' ρ (σ.remEdge u v) → Keep (fun _ => False) H ρ H' ρ → Q .none s') : wpAny (model prog w) A (call (.ref 867) [.ref p, .int u t, .int v t']) Q E s := by
  refine call_plain (D := dRemEdge) (n := 7) (binds := [("self", .ref p), ("u", .int u t), ("v", .int v t')]) S Z (by omega) F.remEdge (by decide +kernel) scRemEdge rfl rfl (fun _ _ _ _ => rfl) rfl rfl fun L s₁ S₁ => ?_
  have C := scRemEdge
  replace S₁ : St prog w base os ((dRemEdge.env L, fm (dRemEdge.env L).scope.names [some (.ref p), some (.int u t), some (.int v t'), none, none, none, none, none, none, none]) :: fr) H s₁ := S₁
  obtain ⟨gA, nA, sA, pA, B⟩ := R.picOf hp
  obtain ⟨ks, es, hsA, rs⟩ := R.succ B.succ
  rw [BodyOk]
  refine x_tryKey (K := K) (base := base) (os := os) 10 9 11 Z F.toExK C rfl rfl rfl rfl rfl ?_
  obtain ⟨aU, hvU, hrU⟩ := rs.find J.mu
  obtain ⟨kU, eU, hU, rU⟩ := R.sd hrU
  obtain ⟨aV, hvV, hrV⟩ := rs.find J.mv
  obtain ⟨kV, eV, hV, rV⟩ := R.sd hrV
  obtain ⟨aE, hvE, hrE⟩ := rU.find J.uv
  obtain ⟨kE, hE, eE⟩ := R.ed hrE
  obtain ⟨t1, h1⟩ := eE.cw
  obtain ⟨t2, h2⟩ := eE.ccw
  obtain ⟨aF, hvF, hrF⟩ := rV.find J.vu
  obtain ⟨kF, hF, eF⟩ := R.ed hrF
  obtain ⟨t3, h3⟩ := eF.cw
  obtain ⟨t4, h4⟩ := eF.ccw
  refine x_as 3 S₁ C rfl (pu_sub (pu_succ (pu_v 0 C rfl rfl) Z F.toKA R B.self B.succ) (pu_i 1 C rfl rfl) hsA hvU) (by simp) fun _ s₂ x S₂ => ?_
  subst x
  replace S₂ : St prog w base os ((dRemEdge.env L, fm (dRemEdge.env L).scope.names [some (.ref p), some (.int u t), some (.int v t'), some (.ref aU), none, none, none, none, none, none]) :: fr) H s₂ := S₂
  refine x_as 4 S₂ C rfl (pu_sub (pu_succ (pu_v 0 C rfl rfl) Z F.toKA R B.self B.succ) (pu_i 2 C rfl rfl) hsA hvV) (by simp) fun _ s₃ x S₃ => ?_
  subst x
  replace S₃ : St prog w base os ((dRemEdge.env L, fm (dRemEdge.env L).scope.names [some (.ref p), some (.int u t), some (.int v t'), some (.ref aU), some (.ref aV), none, none, none, none, none]) :: fr) H s₃ := S₃
  refine x_as 5 S₃ C rfl (pu_subs (pu_sub (pu_v 3 C rfl rfl) (pu_i 2 C rfl rfl) hU hvE) pu_str hE h1) (by simp) fun _ s₄ x S₄ => ?_
  subst x
  replace S₄ : St prog w base os ((dRemEdge.env L, fm (dRemEdge.env L).scope.names [some (.ref p), some (.int u t), some (.int v t'), some (.ref aU), some (.ref aV), some (.int (σ.cw u v) t1), none, none, none, none]) :: fr) H s₄ := S₄
  refine x_as 6 S₄ C rfl (pu_subs (pu_sub (pu_v 3 C rfl rfl) (pu_i 2 C rfl rfl) hU hvE) pu_str hE h2) (by simp) fun _ s₅ x S₅ => ?_
  subst x
  replace S₅ : St prog w base os ((dRemEdge.env L, fm (dRemEdge.env L).scope.names [some (.ref p), some (.int u t), some (.int v t'), some (.ref aU), some (.ref aV), some (.int (σ.cw u v) t1), some (.int (σ.cc u v) t2), none, none, none]) :: fr) H s₅ := S₅
  refine x_as 7 S₅ C rfl (pu_subs (pu_sub (pu_v 4 C rfl rfl) (pu_i 1 C rfl rfl) hV hvF) pu_str hF h3) (by simp) fun _ s₆ x S₆ => ?_
  subst x
  replace S₆ : St prog w base os ((dRemEdge.env L, fm (dRemEdge.env L).scope.names [some (.ref p), some (.int u t), some (.int v t'), some (.ref aU), some (.ref aV), some (.int (σ.cw u v) t1), some (.int (σ.cc u v) t2), some (.int (σ.cw v u) t3), none, none]) :: fr) H s₆ := S₆
  refine x_as 8 S₆ C rfl (pu_subs (pu_sub (pu_v 4 C rfl rfl) (pu_i 1 C rfl rfl) hV hvF) pu_str hF h4) (by simp) fun _ s₇ x S₇ => ?_
  subst x
  replace S₇ : St prog w base os ((dRemEdge.env L, fm (dRemEdge.env L).scope.names [some (.ref p), some (.int u t), some (.int v t'), some (.ref aU), some (.ref aV), some (.int (σ.cw u v) t1), some (.int (σ.cc u v) t2), some (.int (σ.cw v u) t3), some (.int (σ.cc v u) t4), none]) :: fr) H s₇ := S₇
  -- del succs_u[v]
  refine x_del S₇ (pu_v 3 C rfl rfl) (pu_i 2 C rfl rfl) hU (by rw [rU.len]; exact Nat.le_trans (hm.so u) (by decide)) (by rw [hvE]; rfl) fun s₈ S₈ => ?_
  have R₁ := so_set (ep := none) R hrU (rU.del v)
  have k₁ : Keep (fun _ => False) H ρ (upd H aU (.di (without kU v) none)) ρ := Keep.refl.set hrU
  generalize upd H aU (.di (without kU v) none) = H₁ at *
  -- del self._pred[v][u]
  obtain ⟨kp₁, ep₁, hp₁, rp₁⟩ := R₁.pred B.pred
  obtain ⟨aQ, hvQ, hrQ⟩ := rp₁.find (k := v) (by show v ∈ σ.np; rw [al.np]; exact J.mv)
  obtain ⟨kQ, eQ, hQ, rQ⟩ := R₁.pd hrQ
  refine x_del S₈ (pu_sub (pu_pred (pu_v 0 C rfl rfl) Z F.toKA R₁ B.self B.pred) (pu_i 2 C rfl rfl) hp₁ hvQ) (pu_i 1 C rfl rfl) hQ (by rw [rQ.len]; exact Nat.le_trans (hm.po v) (by decide)) (by rw [rQ.isSome]; exact decide_eq_true J.puv) fun s₉ S₉ => ?_
  have R₂ := po_set (ep := none) R₁ hrQ (rQ.del u)
  have k₂ := k₁.set (d := .di (without kQ u) none) hrQ
  generalize upd H₁ aQ (.di (without kQ u) none) = H₂ at *
  -- del succs_v[u]
  obtain ⟨kV₂, eV₂, hV₂, rV₂⟩ := R₂.sd hrV
  have soV : fset σ.so u ((σ.so u).filter (· ≠ v)) v = σ.so v := fset_ne _ _ J.ne.symm
  have rV₂' : Refs ρ kV₂ (σ.so v) (.ed v) := by have := rV₂; simp only [soV] at this; exact this
  refine x_del S₉ (pu_v 4 C rfl rfl) (pu_i 1 C rfl rfl) hV₂ (by rw [rV₂'.len]; exact Nat.le_trans (hm.so v) (by decide)) (by rw [rV₂'.isSome]; exact decide_eq_true J.vu) fun s₁₀ S₁₀ => ?_
  have R₃ := so_set (ep := none) R₂ hrV (rV₂'.del u)
  have k₃ := k₂.set (d := .di (without kV₂ u) none) hrV
  generalize upd H₂ aV (.di (without kV₂ u) none) = H₃ at *
  -- del self._pred[u][v]
  obtain ⟨kp₃, ep₃, hp₃, rp₃⟩ := R₃.pred B.pred
  obtain ⟨aQ', hvQ', hrQ'⟩ := rp₃.find (k := u) (by show u ∈ σ.np; rw [al.np]; exact J.mu)
  obtain ⟨kQ', eQ', hQ', rQ'⟩ := R₃.pd hrQ'
  have poU : fset σ.po v ((σ.po v).filter (· ≠ u)) u = σ.po u := fset_ne _ _ J.ne
  have rQ₃ : Refs ρ kQ' (σ.po u) (fun v => .ed v u) := by have := rQ'; simp only [poU] at this; exact this
  refine x_del S₁₀ (pu_sub (pu_pred (pu_v 0 C rfl rfl) Z F.toKA R₃ B.self B.pred) (pu_i 1 C rfl rfl) hp₃ hvQ') (pu_i 2 C rfl rfl) hQ' (by rw [rQ₃.len]; exact Nat.le_trans (hm.po u) (by decide)) (by rw [rQ₃.isSome]; exact decide_eq_true J.pvu) fun s₁₁ S₁₁ => ?_
  have R₄ := po_set (ep := none) R₃ hrQ' (rQ₃.del v)
  have k₄ := k₃.set (d := .di (without kQ' v) none) hrQ'
  generalize upd H₃ aQ' (.di (without kQ' v) none) = H₄ at *
  have R₄' : Rep w.params H₄ ρ (σ.cutEdge u v) := R₄
  have so1 : (σ.cutEdge u v).so u = (σ.so u).filter (· ≠ v) := by show fset (fset σ.so u _) v _ u = _; rw [fset_ne _ _ J.ne, fset_self]
  have so2 : (σ.cutEdge u v).so v = (σ.so v).filter (· ≠ u) := by show fset (fset σ.so u _) v _ v = _; rw [fset_self]
  have eσ : σ.remEdge u v = ((σ.cutEdge u v).close u v (σ.cw u v) (σ.cc u v)).close v u (σ.cw v u) (σ.cc v u) := rfl
  rw [eσ] at h
  generalize σ.cutEdge u v = τ at *
  refine x_close S₁₁ R₄' hrU (v := v) (fun z => by rw [so1]; exact J.cw1 z) (fun _ _ => pu_i 2 C rfl rfl) (fun _ _ => pu_v 5 C rfl rfl) (fun _ _ => pu_v 6 C rfl rfl) (fun _ _ => pu_v 3 C rfl rfl) fun s₁₂ H₅ S₁₂ R₅ k₅ _ => ?_
  have so3 : (τ.close u v (σ.cw u v) (σ.cc u v)).so v = (σ.so v).filter (· ≠ u) := by unfold Sg.close; split <;> exact so2
  refine x_close S₁₂ R₅ hrV (v := u) (fun z => by rw [so3]; exact J.cw2 z) (fun _ _ => pu_i 1 C rfl rfl) (fun _ _ => pu_v 7 C rfl rfl) (fun _ _ => pu_v 8 C rfl rfl) (fun _ _ => pu_v 4 C rfl rfl) fun s₁₃ H₆ S₁₃ R₆ k₆ _ => ?_
  exact x_nil (x_nil (h s₁₃ H₆ S₁₃.popped R₆ ((k₄.trans k₅).trans k₆)))
end
end Mine

end

section
open PySem PySem.W PyProof.Rows PySem.Calls
set_option Elab.async false
set_option maxRecDepth 100000
set_option linter.unusedVariables false
namespace Mine

section
variable {prog : Program} {w : World} {K : Frag} {base : Heap} {os : Os} {A : Around} {E : Value → Shared → Prop} {fr : Frs} {H : Led} {s : Shared} {env : Env} {vs : List (Option Value)} {p a t sl : Addr}

theorem sliceApplied_two {n : Nat} {u : Tok} {Q : Int × Int × Nat → Shared → Prop} (hs : s.heap.IsSliceOf sl .none (.int 2 u) .none) (hn : 2 ≤ n) (h : Q (0, 1, 2) s) :
    wpAny (model prog w) A (Builtin.Slice.sliceApplied (.ref sl) (pure (n : Int))) Q E s := by
  obtain ⟨os, hos, hcs, hds⟩ := id hs
  unfold Builtin.Slice.sliceApplied Builtin.Slice.sliceFields
  refine wpAny_bind (wpAny_bind (wpAny_field hos hds (x := .none) rfl (wpAny_bind (wpAny_field hos hds (x := .int 2 u) rfl (wpAny_bind (wpAny_field hos hds (x := .none) rfl (wpAny_pure ?_)))))))
  refine wpAny_bind (slicePart_none ?_)
  show wpAny _ _ (if ((1 : Int) == 0) = true then _ else _) _ _ s
  rw [if_neg (by decide)]
  refine wpAny_bind (slicePart_none (wpAny_bind (slicePart_int (wpAny_bind (wpAny_pure ?_)))))
  have e1 : Builtin.Slice.sliceAdjust none (some 2) 1 (n : Int) = (0, 2) := by
    unfold Builtin.Slice.sliceAdjust
    have h1 : ¬ ((1 : Int) < 0) := by omega
    have h2 : ¬ ((2 : Int) < 0) := by omega
    simp only [h1, h2, if_false]
    congr 1
    omega
  show wpAny _ _ (match Builtin.Slice.sliceAdjust none (some 2) 1 (n : Int) with | (lo, hi) => pure (lo, (1 : Int), Builtin.Slice.slicePlaces lo hi 1)) _ _ s
  rw [e1]
  exact wpAny_pure h

theorem getItem_two2 {x y : Value} {u : Tok} {Q : Value → Shared → Prop} (ht : ∃ o, s.heap.get? t = some o ∧ o.cls = .type "tuple" ∧ ∃ n, o.data = .seq [x, y].toArray n) (hs : s.heap.IsSliceOf sl .none (.int 2 u) .none) (h : Q (.ref t) s) :
    wpAny (model prog w) A (getItem (.ref t) (.ref sl)) Q E s := by
  have ht' : IsTup s.heap t [x, y].toArray := ht
  obtain ⟨os, hos, hcs, hds⟩ := id hs
  have hTs : s.TypeIs (.ref sl) "slice" := ⟨os, hos, hcs⟩
  have hTt : s.TypeIs (.ref t) "tuple" := ht'.typeIs
  unfold getItem
  try with_reducible refine wpAny_holding ?_
  first | refine wpAny_bind (wpAny_pure ?_) | skip
  refine wpAny_bind (wpAny_sequenceKey ht'.typeIs (by decide) ?_)
  refine wpAny_bind (wpAny_callSpecial?_slot (name := Str.ofString "__getitem__") ht'.typeIs slot_tuple_getitem
    (wpAny_call_entry slot_tuple_getitem ht'.typeIs entry_tuple_getitem ?_ (args_tuple_getitem _ _)))
  show wpAny _ _ (Builtin.Tuple.tupleItemsOf (.ref t) >>= _) _ _ s
  refine wpAny_bind (tupleItemsOf_ ht' ?_)
  refine wpAny_bind (wpAny_typeOf hTs ?_)
  rw [if_pos (by decide)]
  refine wpAny_bind (sliceApplied_two hs (by simp) ?_)
  dsimp only
  rw [if_pos (by rfl)]
  unfold Builtin.Tuple.tupleIsExact
  refine wpAny_bind (wpAny_bind (wpAny_typeOf hTt (wpAny_pure ?_)))
  rw [if_pos (by decide)]
  exact wpAny_bind (wpAny_rule (wpAny_pure ⟨_, rfl, wpAny_pure h⟩))
theorem getItem_two3 {x y z : Value} {u : Tok} {Q : Value → Shared → Prop} (ht : ∃ o, s.heap.get? t = some o ∧ o.cls = .type "tuple" ∧ ∃ n, o.data = .seq [x, y, z].toArray n) (hs : s.heap.IsSliceOf sl .none (.int 2 u) .none)
    (h : Q (.ref s.heap.objs.size) { s with heap := s.heap.push { cls := .type "tuple", data := .seq [x, y].toArray } }) : wpAny (model prog w) A (getItem (.ref t) (.ref sl)) Q E s := by
  have ht' : IsTup s.heap t [x, y, z].toArray := ht
  obtain ⟨os, hos, hcs, hds⟩ := id hs
  have hTs : s.TypeIs (.ref sl) "slice" := ⟨os, hos, hcs⟩
  have hTt : s.TypeIs (.ref t) "tuple" := ht'.typeIs
  unfold getItem
  try with_reducible refine wpAny_holding ?_
  first | refine wpAny_bind (wpAny_pure ?_) | skip
  refine wpAny_bind (wpAny_sequenceKey ht'.typeIs (by decide) ?_)
  refine wpAny_bind (wpAny_callSpecial?_slot (name := Str.ofString "__getitem__") ht'.typeIs slot_tuple_getitem
    (wpAny_call_entry slot_tuple_getitem ht'.typeIs entry_tuple_getitem ?_ (args_tuple_getitem _ _)))
  show wpAny _ _ (Builtin.Tuple.tupleItemsOf (.ref t) >>= _) _ _ s
  refine wpAny_bind (tupleItemsOf_ ht' ?_)
  refine wpAny_bind (wpAny_typeOf hTs ?_)
  rw [if_pos (by decide)]
  refine wpAny_bind (sliceApplied_two hs (by simp) ?_)
  dsimp only
  rw [if_neg (by rw [show (2 == #[x, y, z].size) = false from rfl]; decide)]
  have e : (List.filterMap (fun (k : Nat) => #[x, y, z][(0 + (k : Int) * 1).toNat]?) (List.range 2)).toArray = [x, y].toArray := by rfl
  rw [e]
  have hok : sizeOk (.seq [x, y].toArray) := by show [x, y].toArray.size ≤ sizeLine; rw [sizeLine_eq]; simp
  first
    | exact wpAny_bind (m := Builtin.Tuple.tupleExact _) (wpAny_newObj_type (wpAny_pure ⟨_, rfl, wpAny_pure h⟩) hok)
    | exact wpAny_bind (m := Builtin.Tuple.tupleExact _) (wpAny_newObj_type (wpAny_bind (wpAny_pure (wpAny_pure ⟨_, rfl, wpAny_pure h⟩))) hok)
    | exact wpAny_bind (wpAny_bind (m := Builtin.Tuple.tupleExact _) (wpAny_newObj_type (wpAny_pure (wpAny_pure ⟨_, rfl, wpAny_pure h⟩)) hok))
    | exact wpAny_bind (wpAny_bind (m := Builtin.Tuple.tupleExact _) (wpAny_newObj_type (wpAny_pure ⟨_, rfl, wpAny_pure h⟩) hok))

theorem tuple_getitem_lookup' : typeLookup (.type "tuple") "__getitem__" = pure (some (.builtin "tuple.__getitem__")) := slot_tuple_getitem.lookup
/-- u, v = e[:2] -/
theorem x_two {e x y : Str} {p1 p2 p3 p4 p5 p6 p7 pos : Pos} {c1 c2 : Nat} {a : Addr} {us : List Value} {v1 v2 : Value} {rest : List Stmt} {Q : Flow → Shared → Prop} (i j k : Nat) (hh : A.handled = none) (S : St prog w base os ((env, fm env.scope.names vs) :: fr) H s) (C : ScOk env.scope)
    (hk : Pu prog w base os fr H env vs (.Name e p4) (· = .ref a)) (hi : env.scope.names[i]? = some (x, .local)) (hj : env.scope.names[j]? = some (y, .local)) (hli : i < vs.length) (hlj : j < vs.length)
    (ha : H a = some (.tu us)) (hu : us = [v1, v2] ∨ ∃ v3, us = [v1, v2, v3])
    (q : ∀ s', St prog w base os ((env, fm env.scope.names ((vs.set i (some v1)).set j (some v2))) :: fr) H s' → wpAny (model prog w) A (execs rest env) Q E s')
    (hs : swapsWithSole [.Tuple [.Name x p1, .Name y p2] c1 p3] (.Subscript (.Name e p4) (.Slice none (some (.Constant (.int 2) c2 p5)) none p6) p7) pos.line env = pure false := by rfl)
    (hw : swappedStores [.Tuple [.Name x p1, .Name y p2] c1 p3] (.Subscript (.Name e p4) (.Slice none (some (.Constant (.int 2) c2 p5)) none p6) p7) env = pure none := by rfl) :
    wpAny (model prog w) A (execs (.Assign [.Tuple [.Name x p1, .Name y p2] c1 p3] (.Subscript (.Name e p4) (.Slice none (some (.Constant (.int 2) c2 p5)) none p6) p7) pos :: rest) env) Q E s := by
  refine wpAny_execs_cons (Assign_Tuple ?_ hs hw)
  refine wpAny_Subscript_Slice tuple_getitem_lookup' (Pu.go hk S fun _ s₁ e S₁ => ?_)
  subst e
  refine wpAny_Slice (wpAny_pure (wpAny_Constant_int (k := c2) (pos := p5) (wpAny_pure ?_)))
  have S₂ : St prog w base os ((env, fm env.scope.names vs) :: fr) H { s₁ with heap := s₁.heap.push { cls := .type "slice", data := .fields #[.none, .int 2 s₁.toks, .none] }, toks := s₁.toks + 1 } := S₁.heap (S₁.wd.keeps fun b o e => Heap.get?_push_of_some _ e)
  have hsl : Heap.IsSliceOf (s₁.heap.push { cls := .type "slice", data := .fields #[.none, .int 2 s₁.toks, .none] }) s₁.heap.objs.size .none (.int 2 s₁.toks) .none := Heap.IsSliceOf.new ..
  have T := S₂.tu ha
  have fin : ∀ (b : Addr) (s' : Shared), St prog w base os ((env, fm env.scope.names vs) :: fr) H s' → IsTup s'.heap b [v1, v2].toArray → wpAny (model prog w) A (assign (.Tuple [.Name x p1, .Name y p2] c1 p3) env (.ref b)) (fun _ s₂ => wpAny (model prog w) A (execs rest env) Q E s₂) E s' := fun b s' S' T' => by
    refine assign_Tuple_tuple hh T' rfl rfl fun h' hx => ?_
    have S₅ := S'.extBut (t := s'.toks) hx
    refine assignInOrder_cons (wpAny_assign_Name (st_local S₅ C hi rfl hli fun s₆ S₆ => ?_))
    refine assignInOrder_cons (wpAny_assign_Name (st_local S₆ C hj rfl (by rw [List.length_set]; exact hlj) fun s₇ S₇ => ?_))
    exact assignInOrder_nil (q s₇ S₇)
  refine ⟨T.typeIs, ?_⟩
  rcases hu with rfl | ⟨v3, rfl⟩
  · exact getItem_two2 T hsl (fin _ _ S₂ T)
  · refine getItem_two3 T hsl (fin _ _ (S₂.heap (t := s₁.toks + 1) (S₂.wd.keeps fun b o e => Heap.get?_push_of_some _ e)) ?_)
    exact ⟨_, Heap.get?_push_size _ rfl, rfl, 0, rfl⟩
end
end Mine

end

section
open PySem PySem.W PyProof.Rows PySem.Calls
set_option Elab.async false
set_option maxRecDepth 100000
set_option linter.unusedVariables false
namespace Mine

theorem Keep.same {T : Role → Prop} {H₀ H H' : Led} {ρ₀ ρ : Rho} {it : Addr} (k : Keep T H₀ ρ₀ H ρ) (hit : H₀ it = none) (hs : ∀ a, a ≠ it → H' a = H a) : Keep T H₀ ρ₀ H' ρ :=
  ⟨fun a d h z => by
    have : a ≠ it := fun q => by rw [q, hit] at h; cases h
    obtain ⟨x, y⟩ := k.out a d h z
    exact ⟨by rw [hs a this]; exact x, y⟩, k.role, fun a h => by
    have : a ≠ it := fun q => h (q ▸ hit)
    rw [hs a this]; exact k.dom a h⟩
theorem Rep.same {P : Params} {H H' : Led} {ρ : Rho} {σ : Sg} {it : Addr} (R : Rep P H ρ σ) (hit : ρ it = Option.none) (hs : ∀ a, a ≠ it → H' a = H a) : Rep P H' ρ σ :=
  R.other fun a d ha e => by rw [hs a fun q => ha (q ▸ hit)]; exact e

def Sg.remIf (τ : Sg) (a b : Int) : Sg := if a ∈ τ.ns ∧ b ∈ τ.so a then τ.remEdge a b else τ

section
variable {prog : Program} {w : World} {K : Frag} {base : Heap} {os : Os} {A : Around} {E : Value → Shared → Prop} {fr : Frs} {H : Led} {s : Shared} {env : Env} {vs : List (Option Value)} {p a : Addr} {ρ : Rho} {σ : Sg} {e₁ e₂ : PySem.Expr} {pos np : Pos} {k : Int}

theorem remEdges_turn {a b : Int} {ta tb : Tok} {t l L : Addr} {us : List Value} {y z : Option Value} {E : Value → Shared → Prop} {Q : Flow → Shared → Prop} (F : KI prog K) (Z : Sta K base) (hh : A.handled = none) (hA : A.depth + 4 < recursionLimit) (R : Rep w.params H ρ σ) (hp : ρ p = some .self) (al : σ.Al) (hm : σ.Sm)
    (S : St prog w base os ((dRemEdges.env L, fm dRemEdges.scope.names [some (.ref p), some (.ref l), some (.ref t), y, z]) :: fr) H s) (ht : H t = some (.tu us)) (hu : us = [.int a ta, .int b tb] ∨ ∃ v3, us = [.int a ta, .int b tb, v3])
    (hJ : a ∈ σ.ns → b ∈ σ.so a → σ.Joined a b)
    (q : ∀ s' H' y z, St prog w base os ((dRemEdges.env L, fm dRemEdges.scope.names [some (.ref p), some (.ref l), some (.ref t), y, z]) :: fr) H' s' → Rep w.params H' ρ (σ.remIf a b) → Keep (fun _ => False) H ρ H' ρ → Q .next s') :
    wpAny (model prog w) A (execs (match dRemEdges.body with | [.For _ _ b _ _] => b | _ => []) (dRemEdges.env L)) Q E s := by
  have C := scRemEdges
  obtain ⟨gA, nA, sA, pA, B⟩ := R.picOf hp
  obtain ⟨ks, es, hsA, rs⟩ := R.succ B.succ
  refine x_two 3 4 0 hh S C (pu_v 2 C rfl rfl) rfl rfl (by simp) (by simp) ht hu fun s₁ S₁ => ?_
  replace S₁ : St prog w base os ((dRemEdges.env L, fm (dRemEdges.env L).scope.names [some (.ref p), some (.ref l), some (.ref t), some (.int a ta), some (.int b tb)]) :: fr) H s₁ := S₁
  unfold Sg.remIf at q
  by_cases z : a ∈ σ.ns
  · obtain ⟨aU, hv, hr⟩ := rs.find z
    obtain ⟨kvs, ep, hU, rU⟩ := R.sd hr
    refine x_if S₁ (tu_and (tu_in (pu_i 3 C rfl rfl) (pu_succ (pu_v 0 C rfl rfl) Z F.toKA R B.self B.succ) hsA (b := true) (by rw [rs.isSome, decide_eq_true z])) fun _ =>
      tu_in (pu_i 4 C rfl rfl) (pu_sub (pu_succ (pu_v 0 C rfl rfl) Z F.toKA R B.self B.succ) (pu_i 3 C rfl rfl) hsA hv) hU rfl) fun s₂ S₂ => ?_
    rw [rU.isSome]
    by_cases z' : b ∈ σ.so a
    · rw [decide_eq_true z']
      rw [if_pos ⟨z, z'⟩] at q
      refine x_expr (ev_pic S₂ Z F.toKA F.mRemEdge R hp (pu_v 0 C rfl rfl) (fun _ _ _ _ _ => by cases σ.adj <;> rfl) rfl rfl fun s₃ S₃ => ?_)
      refine Pu.go (pu_v 3 C rfl rfl) S₃ fun _ s₄ x S₄ => ?_
      subst x
      refine Pu.go (pu_v 4 C rfl rfl) S₄ fun _ s₅ x S₅ => ?_
      subst x
      refine ⟨S₅.kin Z, remEdge_ok F Z S₅ hh (by omega) R hp al hm (hJ z z') fun s₆ H' S₆ R' k' => ⟨rfl, x_nil (x_nil (q s₆ H' _ _ S₆ R' k'))⟩⟩
    · rw [decide_eq_false z']
      rw [if_neg fun y => z' y.2] at q
      exact x_nil (x_nil (q s₂ H _ _ S₂ R .refl))
  · refine x_if S₁ (tu_and (b' := false) (tu_in (pu_i 3 C rfl rfl) (pu_succ (pu_v 0 C rfl rfl) Z F.toKA R B.self B.succ) hsA (b := false) (by rw [rs.isSome, decide_eq_false z])) fun y => by cases y) fun s₂ S₂ => ?_
    rw [if_neg fun y => z y.1] at q
    exact x_nil (x_nil (q s₂ H _ _ S₂ R .refl))

theorem remEdges_ok {u v : Int} {tu₁ tv₁ tu₂ tv₂ : Tok} {t₁ t₂ l : Addr} {d : Value} {Q : Value → Shared → Prop} (F : KI prog K) (Z : Sta K base) (S : St prog w base os fr H s) (hh : A.handled = none) (hA : A.depth + 5 < recursionLimit) (R : Rep w.params H ρ σ) (hp : ρ p = some .self) (al : σ.Al) (hm : σ.Sm) (al' : (σ.remIf u v).Al) (hm' : (σ.remIf u v).Sm)
    (hl : H l = some (.li [.ref t₁, .ref t₂])) (h1 : H t₁ = some (.tu [.int u tu₁, .int v tv₁])) (h2 : H t₂ = some (.tu [.int v tv₂, .int u tu₂, d])) (rl : ρ l = none) (r1 : ρ t₁ = none) (r2 : ρ t₂ = none)
    (hJ : u ∈ σ.ns → v ∈ σ.so u → σ.Joined u v) (hJ' : v ∈ (σ.remIf u v).ns → u ∈ (σ.remIf u v).so v → (σ.remIf u v).Joined v u)
    (h : ∀ s' H', St prog w base os fr H' s' → Rep w.params H' ρ ((σ.remIf u v).remIf v u) → Keep (fun _ => False) H ρ H' ρ → Q .none s') : wpAny (model prog w) A (call (.ref 874) [.ref p, .ref l]) Q E s := by
  refine call_plain (D := dRemEdges) (n := 3) (binds := [("self", .ref p), ("ebunch", .ref l)]) S Z (by omega) F.remEdges (by decide +kernel) scRemEdges rfl rfl (fun _ _ _ _ => rfl) rfl rfl fun L s₁ S₁ => ?_
  have C := scRemEdges
  replace S₁ : St prog w base os ((dRemEdges.env L, fm (dRemEdges.env L).scope.names [some (.ref p), some (.ref l), none, none, none]) :: fr) H s₁ := S₁
  rw [BodyOk]
  refine wpAny_execs_cons (wpAny_For (Pu.go (pu_v 1 C rfl rfl) S₁ fun _ s₂ x S₂ => ?_))
  subst x
  refine iter_li S₂ hl fun it s₃ H₃ hit S₃ hD hs => ?_
  have hρ := R.none hit
  refine loop_itr (c := 2) itr_li (by exact hh) C rfl
    (fun i H' vs' => (∃ x y z, vs' = [some (.ref p), some (.ref l), x, y, z]) ∧ Rep w.params H' ρ (match i with | 0 => σ | 1 => σ.remIf u v | _ => (σ.remIf u v).remIf v u) ∧ Keep (fun _ => False) H ρ H' ρ)
    (fun i H₁ H₂ vs' hs' ⟨j1, j2, j3⟩ => ⟨j1, j2.same hρ hs', j3.same hit hs'⟩) (fun i H₁ vs' ⟨⟨x, y, z, j1⟩, _⟩ => by rw [j1]; simp) S₃ hD ⟨⟨_, _, _, rfl⟩, R.same hρ hs, Keep.refl.same hit hs⟩ ?_ ?_
  · rintro i v' H₁ vs₁ s₄ hi hv ⟨⟨x, y, z, rfl⟩, R₁, k₁⟩ hD₁ hne S₄
    have hp₁ := k₁.role _ _ hp id
    match i, hi, hv, R₁ with
    | 0, _, hv, R₁ =>
      cases hv
      refine remEdges_turn F Z (by exact hh) (by show A.depth + 1 + 4 < _; omega) R₁ hp₁ al hm S₄ (k₁.out _ _ h1 r1).1 (.inl rfl) hJ fun s₅ H₅ y z S₅ R₅ k₅ => ?_
      exact ⟨H₅, _, S₅, ⟨(k₅.out _ _ hD₁.1 hρ).1, (k₅.out _ _ hD₁.2.1 rl).1, hD₁.2.2⟩, ⟨_, _, _, rfl⟩, R₅, k₁.trans k₅⟩
    | 1, _, hv, R₁ =>
      cases hv
      refine remEdges_turn F Z (by exact hh) (by show A.depth + 1 + 4 < _; omega) R₁ hp₁ al' hm' S₄ (k₁.out _ _ h2 r2).1 (.inr ⟨d, rfl⟩) hJ' fun s₅ H₅ y z S₅ R₅ k₅ => ?_
      exact ⟨H₅, _, S₅, ⟨(k₅.out _ _ hD₁.1 hρ).1, (k₅.out _ _ hD₁.2.1 rl).1, hD₁.2.2⟩, ⟨_, _, _, rfl⟩, R₅, k₁.trans k₅⟩
    | n + 2, hi, _, _ => exact absurd hi (by simp)
  · rintro H₁ vs₁ s₄ ⟨_, R₁, k₁⟩ S₄
    exact x_nil (h s₄ H₁ S₄.popped R₁ k₁)
end
end Mine

end

section
open PySem PySem.W PyProof.Rows PySem.Calls
set_option Elab.async false
set_option maxRecDepth 100000
set_option linter.unusedVariables false
namespace Mine

def Sg.unNode (σ : Sg) (n u : Int) : Sg := (Sg.mk σ.nn σ.ns σ.np (fset σ.so u ((σ.so u).filter (· ≠ n))) (fset σ.po u ((σ.po u).filter (· ≠ n))) σ.cw σ.cc σ.rn σ.row σ.kn σ.kw σ.adj).close u n (σ.cw u n) (σ.cc u n)
def Sg.unNodes (σ : Sg) (n : Int) (l : List Int) : Sg := l.foldl (fun τ u => τ.unNode n u) σ
def Sg.remNode (σ : Sg) (n : Int) : Sg :=
  let τ := σ.unNodes n (σ.po n)
  { τ with nn := τ.nn.filter (· ≠ n), ns := τ.ns.filter (· ≠ n), np := τ.np.filter (· ≠ n) }
structure Sg.Ready (σ : Sg) (n u : Int) : Prop where
  ne : u ≠ n
  mu : u ∈ σ.ns
  so : n ∈ σ.so u
  po : n ∈ σ.po u
  cl : n ≠ σ.cw u n → σ.cw u n ∈ (σ.so u).filter (· ≠ n) ∧ σ.cc u n ∈ (σ.so u).filter (· ≠ n)

section
variable {prog : Program} {w : World} {K : Frag} {base : Heap} {os : Os} {A : Around} {E : Value → Shared → Prop} {fr : Frs} {H : Led} {s : Shared} {env : Env} {vs : List (Option Value)} {p a : Addr} {ρ : Rho} {σ : Sg} {e₁ e₂ : PySem.Expr} {pos np : Pos} {k : Int}

/-- the node isn't there -/
theorem remNode_bad {n : Int} {t : Tok} {Q : Value → Shared → Prop} (F : KI prog K) (Z : Sta K base) (S : St prog w base os fr H s) (hf : A.frames = some fr.envs) (hh : A.handled = none) (hA : A.depth + 3 < recursionLimit) (R : Rep w.params H ρ σ) (hp : ρ p = some .self) (al : σ.Al)
    (hn : Tame n) (hc : n ∉ σ.ns) (h : ∀ e s', Fly prog w base os fr H e (.ref nxE) s' → E (.ref e) s') : wpAny (model prog w) A (call (.ref 816) [.ref p, .int n t]) Q E s := by
  refine call_plain (D := dRemNode) (n := 5) (binds := [("self", .ref p), ("n", .int n t)]) S Z (by omega) F.remNode (by decide +kernel) scRemNode rfl rfl (fun _ _ _ _ => rfl) rfl rfl fun L s₁ S₁ => ?_
  have C := scRemNode
  replace S₁ : St prog w base os ((dRemNode.env L, fm (dRemNode.env L).scope.names [some (.ref p), some (.int n t), none, none, none, none, none]) :: fr) H s₁ := S₁
  obtain ⟨gA, nA, sA, pA, B⟩ := R.picOf hp
  obtain ⟨ks, es, hpA, rs⟩ := R.pred B.pred
  have done : ∀ (x : Addr) (s' : Shared) m, Hld prog w base os (dRemNode.env L) m fr H x (.ref nxE) s' → wpAny (model prog w) (A.deeper (dRemNode.env L)) (leaving (dRemNode.env L) (.ref x)) (fun _ s'' => E (.ref x) s'') E s' := fun x s' m X => hld_leave X fun s₉ Y => h x s₉ Y
  rw [BodyOk]
  refine x_tryKey (K := K) (base := base) (os := os) 7 6 8 Z F.toExK C rfl rfl rfl rfl rfl ?_
  refine wpAny_execs_cons (wpAny_For (sub_miss (by exact hh) S₁ (pu_pred (pu_v 0 C rfl rfl) Z F.toKA R B.self B.pred) (pu_i 1 C rfl rfl) hpA (rs.none (by rw [al.np]; exact hc)) fun e s' M cx => ⟨e, fr, _, H, rfl, deep hf _, M, cx, by simp, ?_, fun x s₂ m X => done x s₂ m X⟩))
  exact sj_joinedL (ns := [_, _, _]) ⟨sj_str, sj_int 1 C rfl rfl hn.log, sj_str, trivial⟩ (by decide)

theorem remNode_turn {n u : Int} {tn tu : Tok} {L : Addr} {x y z q0 : Option Value} {E : Value → Shared → Prop} {Q : Flow → Shared → Prop} (F : KI prog K) (Z : Sta K base) (R : Rep w.params H ρ σ) (hp : ρ p = some .self) (al : σ.Al) (hm : σ.Sm)
    (S : St prog w base os ((dRemNode.env L, fm dRemNode.scope.names [some (.ref p), some (.int n tn), some (.int u tu), x, y, z, q0]) :: fr) H s) (J : σ.Ready n u)
    (q : ∀ s' H' x y z, St prog w base os ((dRemNode.env L, fm dRemNode.scope.names [some (.ref p), some (.int n tn), some (.int u tu), x, y, z, q0]) :: fr) H' s' → Rep w.params H' ρ (σ.unNode n u) → Keep (fun _ => False) H ρ H' ρ → (∀ a, ρ a = some (.pd n) → H' a = H a) → Q .next s') :
    wpAny (model prog w) A (execs (match dRemNode.body with | [.Try [.For _ _ b _ _, _, _, _] _ _ _ _] => b | _ => []) (dRemNode.env L)) Q E s := by
  have C := scRemNode
  obtain ⟨gA, nA, sA, pA, B⟩ := R.picOf hp
  obtain ⟨ks, es, hsA, rs⟩ := R.succ B.succ
  obtain ⟨aU, hvU, hrU⟩ := rs.find J.mu
  obtain ⟨kU, eU, hU, rU⟩ := R.sd hrU
  obtain ⟨aE, hvE, hrE⟩ := rU.find J.so
  obtain ⟨kE, hE, eE⟩ := R.ed hrE
  obtain ⟨t1, h1⟩ := eE.cw
  obtain ⟨t2, h2⟩ := eE.ccw
  refine x_as 3 S C rfl (pu_sub (pu_succ (pu_v 0 C rfl rfl) Z F.toKA R B.self B.succ) (pu_i 2 C rfl rfl) hsA hvU) (by simp) fun _ s₂ e S₂ => ?_
  subst e
  replace S₂ : St prog w base os ((dRemNode.env L, fm (dRemNode.env L).scope.names [some (.ref p), some (.int n tn), some (.int u tu), some (.ref aU), y, z, q0]) :: fr) H s₂ := S₂
  refine x_as 4 S₂ C rfl (pu_subs (pu_sub (pu_v 3 C rfl rfl) (pu_i 1 C rfl rfl) hU hvE) pu_str hE h1) (by simp) fun _ s₃ e S₃ => ?_
  subst e
  replace S₃ : St prog w base os ((dRemNode.env L, fm (dRemNode.env L).scope.names [some (.ref p), some (.int n tn), some (.int u tu), some (.ref aU), some (.int (σ.cw u n) t1), z, q0]) :: fr) H s₃ := S₃
  refine x_as 5 S₃ C rfl (pu_subs (pu_sub (pu_v 3 C rfl rfl) (pu_i 1 C rfl rfl) hU hvE) pu_str hE h2) (by simp) fun _ s₄ e S₄ => ?_
  subst e
  replace S₄ : St prog w base os ((dRemNode.env L, fm (dRemNode.env L).scope.names [some (.ref p), some (.int n tn), some (.int u tu), some (.ref aU), some (.int (σ.cw u n) t1), some (.int (σ.cc u n) t2), q0]) :: fr) H s₄ := S₄
  -- del succs_u[n]
  refine x_del S₄ (pu_v 3 C rfl rfl) (pu_i 1 C rfl rfl) hU (by rw [rU.len]; exact Nat.le_trans (hm.so u) (by decide)) (by rw [hvE]; rfl) fun s₅ S₅ => ?_
  have R₁ := so_set (ep := none) R hrU (rU.del n)
  have k₁ : Keep (fun _ => False) H ρ (upd H aU (.di (without kU n) none)) ρ := Keep.refl.set hrU
  have x₁ : ∀ a, ρ a = some (.pd n) → upd H aU (.di (without kU n) none) a = H a := fun a ha => upd_ne _ _ fun z => by rw [z, hrU] at ha; cases ha
  generalize upd H aU (.di (without kU n) none) = H₁ at *
  -- del self._pred[u][n]
  obtain ⟨kp₁, ep₁, hp₁, rp₁⟩ := R₁.pred B.pred
  obtain ⟨aQ, hvQ, hrQ⟩ := rp₁.find (k := u) (by show u ∈ σ.np; rw [al.np]; exact J.mu)
  obtain ⟨kQ, eQ, hQ, rQ⟩ := R₁.pd hrQ
  refine x_del S₅ (pu_sub (pu_pred (pu_v 0 C rfl rfl) Z F.toKA R₁ B.self B.pred) (pu_i 2 C rfl rfl) hp₁ hvQ) (pu_i 1 C rfl rfl) hQ (by rw [rQ.len]; exact Nat.le_trans (hm.po u) (by decide)) (by rw [rQ.isSome]; exact decide_eq_true J.po) fun s₆ S₆ => ?_
  have R₂ := po_set (ep := none) R₁ hrQ (rQ.del n)
  have k₂ := k₁.set (d := .di (without kQ n) none) hrQ
  have x₂ : ∀ a, ρ a = some (.pd n) → upd H₁ aQ (.di (without kQ n) none) a = H a := fun a ha => (upd_ne _ _ fun z => by rw [z, hrQ] at ha; cases ha; exact J.ne rfl).trans (x₁ a ha)
  generalize upd H₁ aQ (.di (without kQ n) none) = H₂ at *
  have R₂' : Rep w.params H₂ ρ (Sg.mk σ.nn σ.ns σ.np (fset σ.so u ((σ.so u).filter (· ≠ n))) (fset σ.po u ((σ.po u).filter (· ≠ n))) σ.cw σ.cc σ.rn σ.row σ.kn σ.kw σ.adj) := R₂
  refine x_close S₆ R₂' hrU (v := n) (fun z => by show _ ∈ fset σ.so u _ u ∧ _ ∈ fset σ.so u _ u; rw [fset_self]; exact J.cl z) (fun _ _ => pu_i 1 C rfl rfl) (fun _ _ => pu_v 4 C rfl rfl) (fun _ _ => pu_v 5 C rfl rfl) (fun _ _ => pu_v 3 C rfl rfl) fun s₇ H₃ S₇ R₃ k₃ x₃ => ?_
  exact x_nil (q s₇ H₃ _ _ _ S₇ R₃ (k₂.trans k₃) fun a ha => (x₃ a fun x y z => by rw [z] at ha; cases ha).trans (x₂ a ha))

theorem remNode_ok {n : Int} {t : Tok} {Q : Value → Shared → Prop} (F : KI prog K) (Z : Sta K base) (S : St prog w base os fr H s) (hh : A.handled = none) (hA : A.depth + 3 < recursionLimit) (R : Rep w.params H ρ σ) (hp : ρ p = some .self) (al : σ.Al)
    (hn : n ∈ σ.ns) (hal : ∀ i, i ≤ (σ.po n).length → (σ.unNodes n ((σ.po n).take i)).Al ∧ (σ.unNodes n ((σ.po n).take i)).Sm ∧ (σ.unNodes n ((σ.po n).take i)).ns = σ.ns ∧ (σ.unNodes n ((σ.po n).take i)).po n = σ.po n)
    (hr : ∀ i u, (σ.po n)[i]? = some u → (σ.unNodes n ((σ.po n).take i)).Ready n u)
    (h : ∀ s' H', St prog w base os fr H' s' → Rep w.params H' ρ (σ.remNode n) → Keep (fun _ => False) H ρ H' ρ → Q .none s') : wpAny (model prog w) A (call (.ref 816) [.ref p, .int n t]) Q E s := by
  refine call_plain (D := dRemNode) (n := 5) (binds := [("self", .ref p), ("n", .int n t)]) S Z (by omega) F.remNode (by decide +kernel) scRemNode rfl rfl (fun _ _ _ _ => rfl) rfl rfl fun L s₁ S₁ => ?_
  have C := scRemNode
  replace S₁ : St prog w base os ((dRemNode.env L, fm (dRemNode.env L).scope.names [some (.ref p), some (.int n t), none, none, none, none, none]) :: fr) H s₁ := S₁
  obtain ⟨gA, nA, sA, pA, B⟩ := R.picOf hp
  obtain ⟨kp, epp, hpA, rp⟩ := R.pred B.pred
  obtain ⟨aN, hvN, hrN⟩ := rp.find (k := n) (by rw [al.np]; exact hn)
  obtain ⟨kN, eN, hN, rN⟩ := R.pd hrN
  rw [BodyOk]
  refine x_tryKey (K := K) (base := base) (os := os) 7 6 8 Z F.toExK C rfl rfl rfl rfl rfl ?_
  refine wpAny_execs_cons (wpAny_For (Pu.go (pu_sub (pu_pred (pu_v 0 C rfl rfl) Z F.toKA R B.self B.pred) (pu_i 1 C rfl rfl) hpA hvN) S₁ fun _ s₂ x S₂ => ?_))
  subst x
  obtain ⟨ep, S₂⟩ := S₂.pin hN
  have R₀ : Rep w.params (upd H aN (.di kN (some ep))) ρ σ := R.set hrN (fun _ _ _ h => h) ⟨_, _, rfl, rN⟩
  have k₀ : Keep (fun _ => False) H ρ (upd H aN (.di kN (some ep))) ρ := Keep.refl.set hrN
  have hN₀ : upd H aN (.di kN (some ep)) aN = some (.di kN (some ep)) := upd_self ..
  generalize upd H aN (.di kN (some ep)) = H₀ at *
  refine iter_di S₂ hN₀ fun it s₃ H₃ hit S₃ hD hs => ?_
  have hρ := R₀.none hit
  have hit0 := k₀.non hit
  have hlen : kN.length = (σ.po n).length := rN.len
  refine loop_itr (c := 2) itr_di (by exact hh) C rfl
    (fun i H' vs' => (∃ u x y z q0, vs' = [some (.ref p), some (.int n t), u, x, y, z, q0]) ∧ Rep w.params H' ρ (σ.unNodes n ((σ.po n).take i)) ∧ Keep (fun _ => False) H ρ H' ρ)
    (fun i H₁ H₂ vs' hs' ⟨j1, j2, j3⟩ => ⟨j1, j2.same hρ hs', j3.same hit0 hs'⟩) (fun i H₁ vs' ⟨⟨u, x, y, z, q0, j1⟩, _⟩ => by rw [j1]; simp) S₃ hD ⟨⟨_, _, _, _, _, rfl⟩, R₀.same hρ hs, k₀.same hit0 hs⟩ ?_ ?_
  · rintro i v' H₁ vs₁ s₄ hi ⟨u, hu, tu, rfl⟩ ⟨⟨u0, x, y, z, q0, rfl⟩, R₁, k₁⟩ hD₁ hne S₄
    rw [rN.1] at hu
    obtain ⟨h1, h2, h3, h4⟩ := hal i (by rw [← hlen]; omega)
    refine remNode_turn F Z R₁ (k₁.role _ _ hp id) h1 h2 S₄ (hr i u hu) fun s₅ H₅ x y z S₅ R₅ k₅ x₅ => ?_
    refine ⟨H₅, _, S₅, ⟨(k₅.out _ _ hD₁.1 hρ).1, (x₅ aN hrN).trans hD₁.2.1, hD₁.2.2⟩, ⟨_, _, _, _, _, rfl⟩, ?_, k₁.trans k₅⟩
    have e : (σ.po n).take (i + 1) = (σ.po n).take i ++ [u] := by rw [List.take_add_one, hu]; rfl
    rw [e, Sg.unNodes, List.foldl_append]
    exact R₅
  · rintro H₁ vs₁ s₄ ⟨⟨u0, x, y, z, q0, rfl⟩, R₁, k₁⟩ S₄
    rw [hlen, List.take_length] at R₁
    obtain ⟨al₁, sm₁, ns₁, po₁⟩ := hal (σ.po n).length (Nat.le_refl _)
    rw [List.take_length] at al₁ sm₁ ns₁ po₁
    have eσ : σ.remNode n = { σ.unNodes n (σ.po n) with nn := (σ.unNodes n (σ.po n)).nn.filter (· ≠ n), ns := (σ.unNodes n (σ.po n)).ns.filter (· ≠ n), np := (σ.unNodes n (σ.po n)).np.filter (· ≠ n) } := rfl
    rw [eσ] at h
    generalize σ.unNodes n (σ.po n) = τ at *
    have B₁ := B.keep k₁ (fun r q => q.elim)
    -- del self._node[n]
    obtain ⟨kn, en, hnA, rn⟩ := R₁.node B₁.node
    refine x_del S₄ (pu_node (pu_v 0 C rfl rfl) Z F.toKA R₁ B₁.self B₁.node) (pu_i 1 C rfl rfl) hnA (by rw [rn.len]; exact Nat.le_trans sm₁.nn (by decide)) (by rw [rn.isSome]; exact decide_eq_true (by rw [al₁.nn, ns₁]; exact hn)) fun s₅ S₅ => ?_
    have R₂ := nn_set (ep := none) R₁ B₁.node (rn.del n)
    have k₂ := k₁.set (d := .di (without kn n) none) B₁.node
    generalize upd H₁ nA (.di (without kn n) none) = H₂ at *
    obtain ⟨kz, ez, hsA, rs⟩ := R₂.succ B₁.succ
    refine x_del S₅ (pu_succ (pu_v 0 C rfl rfl) Z F.toKA R₂ B₁.self B₁.succ) (pu_i 1 C rfl rfl) hsA (by rw [rs.len]; exact Nat.le_trans sm₁.ns (by decide)) (by rw [rs.isSome]; exact decide_eq_true (by show n ∈ τ.ns; rw [ns₁]; exact hn)) fun s₆ S₆ => ?_
    have R₃ := ns_set' (ep := none) R₂ B₁.succ (rs.del n)
    have k₃ := k₂.set (d := .di (without kz n) none) B₁.succ
    generalize upd H₂ sA (.di (without kz n) none) = H₃ at *
    obtain ⟨kq, eq, hqA, rq⟩ := R₃.pred B₁.pred
    refine x_del S₆ (pu_pred (pu_v 0 C rfl rfl) Z F.toKA R₃ B₁.self B₁.pred) (pu_i 1 C rfl rfl) hqA (by rw [rq.len]; exact Nat.le_trans sm₁.np (by decide)) (by rw [rq.isSome]; exact decide_eq_true (by show n ∈ τ.np; rw [al₁.np, ns₁]; exact hn)) fun s₇ S₇ => ?_
    have R₄ := np_set (ep := none) R₃ B₁.pred (rq.del n)
    exact x_nil (x_nil (h s₇ _ S₇.popped R₄ (k₃.set B₁.pred)))
end
end Mine

end

section
open PySem PySem.W PyProof.Rows PySem.Calls
set_option Elab.async false
set_option maxRecDepth 100000
set_option linter.unusedVariables false
namespace Mine

structure Sg.CanRem (σ : Sg) (n : Int) : Prop where
  st : ∀ i, i ≤ (σ.po n).length → (σ.unNodes n ((σ.po n).take i)).Al ∧ (σ.unNodes n ((σ.po n).take i)).Sm ∧ (σ.unNodes n ((σ.po n).take i)).ns = σ.ns ∧ (σ.unNodes n ((σ.po n).take i)).po n = σ.po n
  rd : ∀ i u, (σ.po n)[i]? = some u → (σ.unNodes n ((σ.po n).take i)).Ready n u
def Sg.remNodeIf (σ : Sg) (n : Int) : Sg := if n ∈ σ.nn then σ.remNode n else σ

section
variable {prog : Program} {w : World} {K : Frag} {base : Heap} {os : Os} {A : Around} {E : Value → Shared → Prop} {fr : Frs} {H : Led} {s : Shared} {env : Env} {vs : List (Option Value)} {p a : Addr} {ρ : Rho} {σ : Sg} {e₁ e₂ : PySem.Expr} {pos np : Pos} {k : Int}

theorem remNodes_turn {n : Int} {tn : Tok} {l L : Addr} {E : Value → Shared → Prop} {Q : Flow → Shared → Prop} (F : KI prog K) (Z : Sta K base) (hh : A.handled = none) (hA : A.depth + 4 < recursionLimit) (R : Rep w.params H ρ σ) (hp : ρ p = some .self) (al : σ.Al) (hm : σ.Sm)
    (S : St prog w base os ((dRemNodes.env L, fm dRemNodes.scope.names [some (.ref p), some (.ref l), some (.int n tn)]) :: fr) H s) (hc : n ∈ σ.nn → σ.CanRem n)
    (q : ∀ s' H', St prog w base os ((dRemNodes.env L, fm dRemNodes.scope.names [some (.ref p), some (.ref l), some (.int n tn)]) :: fr) H' s' → Rep w.params H' ρ (σ.remNodeIf n) → Keep (fun _ => False) H ρ H' ρ → Q .next s') :
    wpAny (model prog w) A (execs (match dRemNodes.body with | [.For _ _ b _ _] => b | _ => []) (dRemNodes.env L)) Q E s := by
  have C := scRemNodes
  obtain ⟨gA, nA, sA, pA, B⟩ := R.picOf hp
  obtain ⟨kn, en, hnA, rn⟩ := R.node B.node
  refine x_if S (tu_in (pu_i 2 C rfl rfl) (pu_node (pu_v 0 C rfl rfl) Z F.toKA R B.self B.node) hnA rfl) fun s₁ S₁ => ?_
  rw [rn.isSome]
  unfold Sg.remNodeIf at q
  by_cases z : n ∈ σ.nn
  · rw [decide_eq_true z]
    rw [if_pos z] at q
    have c := hc z
    refine x_expr (ev_pic S₁ Z F.toKA F.mRemNode R hp (pu_v 0 C rfl rfl) (fun _ _ _ _ _ => by cases σ.adj <;> rfl) rfl rfl fun s₃ S₃ => ?_)
    refine Pu.go (pu_v 2 C rfl rfl) S₃ fun _ s₄ x S₄ => ?_
    subst x
    exact ⟨S₄.kin Z, remNode_ok F Z S₄ hh (by omega) R hp al (by rw [← al.nn]; exact z) c.st c.rd fun s₆ H' S₆ R' k' => ⟨rfl, x_nil (x_nil (q s₆ H' S₆ R' k'))⟩⟩
  · rw [decide_eq_false z]
    rw [if_neg z] at q
    exact x_nil (x_nil (q s₁ H S₁ R .refl))

theorem remNodes_ok {u v : Int} {tu tv : Tok} {l : Addr} {Q : Value → Shared → Prop} (F : KI prog K) (Z : Sta K base) (S : St prog w base os fr H s) (hh : A.handled = none) (hA : A.depth + 5 < recursionLimit) (R : Rep w.params H ρ σ) (hp : ρ p = some .self) (al : σ.Al) (hm : σ.Sm) (al' : (σ.remNodeIf u).Al) (hm' : (σ.remNodeIf u).Sm)
    (hl : H l = some (.li [.int u tu, .int v tv])) (rl : ρ l = none) (hc : u ∈ σ.nn → σ.CanRem u) (hc' : v ∈ (σ.remNodeIf u).nn → (σ.remNodeIf u).CanRem v)
    (h : ∀ s' H', St prog w base os fr H' s' → Rep w.params H' ρ ((σ.remNodeIf u).remNodeIf v) → Keep (fun _ => False) H ρ H' ρ → Q .none s') : wpAny (model prog w) A (call (.ref 823) [.ref p, .ref l]) Q E s := by
  refine call_plain (D := dRemNodes) (n := 1) (binds := [("self", .ref p), ("nodes", .ref l)]) S Z (by omega) F.remNodes (by decide +kernel) scRemNodes rfl rfl (fun _ _ _ _ => rfl) rfl rfl fun L s₁ S₁ => ?_
  have C := scRemNodes
  replace S₁ : St prog w base os ((dRemNodes.env L, fm (dRemNodes.env L).scope.names [some (.ref p), some (.ref l), none]) :: fr) H s₁ := S₁
  rw [BodyOk]
  refine wpAny_execs_cons (wpAny_For (Pu.go (pu_v 1 C rfl rfl) S₁ fun _ s₂ x S₂ => ?_))
  subst x
  refine iter_li S₂ hl fun it s₃ H₃ hit S₃ hD hs => ?_
  have hρ := R.none hit
  refine loop_itr (c := 2) itr_li (by exact hh) C rfl
    (fun i H' vs' => (∃ x, vs' = [some (.ref p), some (.ref l), x]) ∧ Rep w.params H' ρ (match i with | 0 => σ | 1 => σ.remNodeIf u | _ => (σ.remNodeIf u).remNodeIf v) ∧ Keep (fun _ => False) H ρ H' ρ)
    (fun i H₁ H₂ vs' hs' ⟨j1, j2, j3⟩ => ⟨j1, j2.same hρ hs', j3.same hit hs'⟩) (fun i H₁ vs' ⟨⟨x, j1⟩, _⟩ => by rw [j1]; simp) S₃ hD ⟨⟨_, rfl⟩, R.same hρ hs, Keep.refl.same hit hs⟩ ?_ ?_
  · rintro i v' H₁ vs₁ s₄ hi hv ⟨⟨x, rfl⟩, R₁, k₁⟩ hD₁ hne S₄
    have hp₁ := k₁.role _ _ hp id
    match i, hi, hv, R₁ with
    | 0, _, hv, R₁ =>
      cases hv
      refine remNodes_turn F Z (by exact hh) (by show A.depth + 1 + 4 < _; omega) R₁ hp₁ al hm S₄ hc fun s₅ H₅ S₅ R₅ k₅ => ?_
      exact ⟨H₅, _, S₅, ⟨(k₅.out _ _ hD₁.1 hρ).1, (k₅.out _ _ hD₁.2.1 rl).1, hD₁.2.2⟩, ⟨_, rfl⟩, R₅, k₁.trans k₅⟩
    | 1, _, hv, R₁ =>
      cases hv
      refine remNodes_turn F Z (by exact hh) (by show A.depth + 1 + 4 < _; omega) R₁ hp₁ al' hm' S₄ hc' fun s₅ H₅ S₅ R₅ k₅ => ?_
      exact ⟨H₅, _, S₅, ⟨(k₅.out _ _ hD₁.1 hρ).1, (k₅.out _ _ hD₁.2.1 rl).1, hD₁.2.2⟩, ⟨_, rfl⟩, R₅, k₁.trans k₅⟩
    | n + 2, hi, _, _ => exact absurd hi (by simp)
  · rintro H₁ vs₁ s₄ ⟨_, R₁, k₁⟩ S₄
    exact x_nil (h s₄ H₁ S₄.popped R₁ k₁)
end
end Mine

end

section
open PySem PySem.W PyProof.Rows PySem.Calls
set_option Elab.async false
set_option maxRecDepth 100000
set_option linter.unusedVariables false
namespace Mine

section
variable {prog : Program} {w : World} {A : Around} {E : Value → Shared → Prop} {s : Shared}
/-- next(g) where g is a generator function's: it ends with None, or stands at a yield outside every try -/
theorem next_gen {a : Addr} {g n : Nat} {gs : GenState} {P : Nat → Shared → Shared → Prop} {Y : Protocol} {Q : Option Value → Shared → Prop} (hh : A.handled = none)
    (hl : s.heap.NoLimit) (hroom : A.depth < recursionLimit) (hg : s.heap.IsGen a g) (hgs : s.gens[g]? = some gs)
    (hgo : gs.Goes (model prog w) A.in1 (fun n s₀ r s₁ => r = .ok (.ret .none) ∧ P n s₀ s₁) Y n (.send .none) (s.setGen g .running))
    (hY : ∀ v s₁ gs', gs'.bare = true → Y (n - 1) (s.setGen g .running) v s₁ (fun r' s'' => match n with
        | 0 => False
        | m + 1 => gs'.Goes (model prog w) A.in1 (fun n s₀ r s₁ => r = .ok (.ret .none) ∧ P n s₀ s₁) Y m r' s'') → Q (some v) (s₁.setGen g gs'))
    (hP : ∀ s₁, P n (s.setGen g .running) s₁ → ∀ h', (∀ b o, s₁.heap.get? b = some o → h'.get? b = some o) → Q none { s₁.setGen g .finished with heap := h' }) :
    wpAny (model prog w) A (pyNext (.ref a)) Q E s := by
  unfold pyNext
  refine wpAny_bind (wpAny_attempt (wpAny_callSpecial?_slot (name := Str.ofString "__next__") hg.typeIs slot_gen_next
    (wpAny_call_entry slot_gen_next hg.typeIs entry_gen_next ?_ (args_gen_next _))))
  show wpAny _ A.in1 (Builtin.Generator.genWake (.ref a) (.send .none)) _ _ s
  unfold Builtin.Generator.genWake
  refine wpAny_bind (wpAny_holding (wpAny_genNumber hg (wpAny_bind (wpAny_genState hgs ?_))))
  cases gs with
  | running => exact hgo.elim
  | finished => exact hgo.elim
  | _ =>
    refine wpAny_bind (wpAny_roomToWake hl hroom ?_)
    show wpAny _ A.in1 (.resume g (.send .none) [] _) _ _ s
    refine wpAny_resumeQ hgs hgo (fun x s₁ hx => ?_) (fun v s₁ gs' hb hv => ?_)
    · obtain ⟨rfl, hp⟩ := hx
      show wpAny _ A.in1 (newExc (.type "StopIteration") [] >>= _) _ _ _
      refine wpAny_bind ?_
      simp only [newExc, newTuple]
      refine wpAny_bind (wpAny_newObj_type ?_ (by size_fits))
      refine wpAny_bind (m := firstArgMember _ _) (wpAny_of_eq (a := Value.none) (by first | rfl | (simp only [firstArgMember]; rfl)) ?_)
      refine wpAny_newObj_type ?_ (by size_fits)
      simp only [raiseNew]
      refine wpAny_bind (wpAny_bind (wpAny_handled ?_))
      rw [show A.in1.handled = none from hh]
      refine wpAny_throw ?_
      refine wpAny_bind (wpAny_isInstance (T := "StopIteration") (b := true) ⟨_, Heap.get?_push_size _ rfl, rfl⟩ isSubtype_stop ?_)
      exact wpAny_pure (hP s₁ hp _ fun b o hb => Heap.get?_push_of_some _ (Heap.get?_push_of_some _ hb))
    · exact wpAny_pure ⟨v, rfl, wpAny_pure (hY v s₁ gs' hb hv)⟩
end
end Mine

end

section
open PySem PySem.W PyProof.Rows PySem.Calls
set_option Elab.async false
set_option maxRecDepth 100000
set_option linter.unusedVariables false
namespace Mine
/- Reading a dict whose object is held exactly (entry .raw o) -/
section
variable {prog : Program} {w : World} {K : Frag} {base : Heap} {os : Os} {A : Around} {E : Value → Shared → Prop} {fr : Frs} {H : Led} {s : Shared} {env : Env} {vs : List (Option Value)} {a : Addr} {o : Obj} {e₁ e₂ : PySem.Expr} {pos np : Pos} {k : Int}

theorem St.diR (S : St prog w base os fr H s) {kvs : List (Int × Value)} (e : H a = some (.raw o)) (hd : (Desc.di kvs none).Of prog w o) : s.heap.DictOf (intKind prog w) a kvs :=
  (S.as e fun o' q => (show o' = o from q) ▸ hd).di (upd_self ..)
theorem St.dsR (S : St prog w base os fr H s) {kvs : List (Str × Value)} (e : H a = some (.raw o)) (hd : (Desc.ds kvs).Of prog w o) : s.heap.DictOf (strKind prog w) a kvs :=
  (S.as e fun o' q => (show o' = o from q) ▸ hd).ds (upd_self ..)
theorem pu_subR {kvs : List (Int × Value)} {v : Value} (h1 : Pu prog w base os fr H env vs e₁ (· = .ref a)) (h2 : Pu prog w base os fr H env vs e₂ (IsI k)) (e : H a = some (.raw o)) (hd : (Desc.di kvs none).Of prog w o) (hv : valueAt kvs k = some v)
    (hs : ∀ t, subscripted e₂ false (.ref a) (.int k t) = operate [.ref a, .int k t] (getItem (.ref a) (.int k t)) := by intro _; with_unfolding_all rfl) : Pu prog w base os fr H env vs (.Subscript e₁ e₂ pos) (· = v) :=
  fun A E Q s S q => ev_sub (h1 _ _ _ _ S fun _ s₁ x S₁ => by
    subst x; exact h2 _ _ _ _ S₁ fun _ s₂ ⟨t, x⟩ S₂ => by
      subst x; exact tail_any (S₂.diR e hd).typeIs slot_dict_getitem.lookup (wpAny_getItem_of (intKind_is _ _ _ _) (S₂.diR e hd).mapOf hv (q _ _ rfl (S₂.toks _))) (hs t))
theorem pu_subsR {kvs : List (Str × Value)} {x : Str} {v : Value} (h1 : Pu prog w base os fr H env vs e₁ (· = .ref a)) (h2 : Pu prog w base os fr H env vs e₂ (IsS x)) (e : H a = some (.raw o)) (hd : (Desc.ds kvs).Of prog w o) (hv : valueAt kvs x = some v)
    (hs : ∀ t, subscripted e₂ false (.ref a) (.str x t) = operate [.ref a, .str x t] (getItem (.ref a) (.str x t)) := by intro _; with_unfolding_all rfl) : Pu prog w base os fr H env vs (.Subscript e₁ e₂ pos) (· = v) :=
  fun A E Q s S q => ev_sub (h1 _ _ _ _ S fun _ s₁ x S₁ => by
    subst x; exact h2 _ _ _ _ S₁ fun _ s₂ ⟨t, x⟩ S₂ => by
      subst x; exact tail_any (S₂.dsR e hd).typeIs slot_dict_getitem.lookup (wpAny_getItem_of (strKind_is _ _ _ _) (S₂.dsR e hd).mapOf hv (q _ _ rfl (S₂.toks _))) (hs t))
theorem list_diR {kvs : List (Int × Value)} {Q : Value → Shared → Prop} (hh : A.handled = none) (S : St prog w base os fr H s) (e : H a = some (.raw o)) (hd : (Desc.di kvs none).Of prog w o) (hz : kvs.length ≤ 1000)
    (q : ∀ b us s', H b = none → St prog w base os fr (upd H b (.li us)) s' → IntsAre us (kvs.map (·.1)) → Q (.ref b) s') : wpAny (model prog w) A (call (.type "list") [.ref a]) Q E s := by
  obtain ⟨n, hat⟩ := (S.diR e hd).dictAt
  refine kdl_call (kdl_dict (knd := intKind prog w) (kvs := kvs) (ep := n) (S.nm e)) hh hat (by rw [sizeLine_eq]; omega) fun h' tk acc c' hk hD hacc => ?_
  refine q _ acc.toList _ S.wd.freshH (S.heap (t := tk) (S.wd.grow hk (Heap.get?_none_of_le (Nat.le_refl _)) hD ⟨c', by rw [Array.toArray_toList]⟩ S.wd.low)) ?_
  refine intsAre_of (by rw [Array.length_toList, List.length_map]; exact hacc.1) fun j v hv => ?_
  obtain ⟨k, x, hkx, hi⟩ := hacc.2 j v (by rw [← Array.getElem?_toList]; exact hv)
  exact ⟨k, by rw [List.getElem?_map, hkx]; rfl, Value.isInt_shape hi⟩
end
end Mine

end

section
open PySem PySem.W PyProof.Rows PySem.Calls
set_option Elab.async false
set_option maxRecDepth 100000
set_option linter.unusedVariables false
namespace Mine

/-- every object of h₀ held exactly, but L and what base or the table of modules holds -/
def rawL (base h₀ : Heap) (L : Addr) : Led := fun b => if b = L ∨ (b == sysModules) = true ∨ (base.get? b).isSome = true then none else (h₀.get? b).map .raw
/-- as in h₀, but L -/
structure SameX (base h₀ : Heap) (L : Addr) (h : Heap) : Prop where
  stays : base.StaysIn h
  same : ∀ b o, b ≠ L → (b == sysModules) = false → h₀.get? b = some o → h.get? b = some o

section
variable {prog : Program} {w : World} {base h₀ h : Heap} {os : Os} {L : Addr} {s : Shared} {env : Env} {m : Map} {fr : Frs} {H : Led} {a : Addr}
theorem raw_get {o : Obj} (h1 : a ≠ L) (h2 : (a == sysModules) = false) (h3 : base.get? a = none) (h4 : h₀.get? a = some o) : rawL base h₀ L a = some (.raw o) := by
  unfold rawL
  rw [if_neg (by rw [h3, h2]; simp [h1]), h4]; rfl
theorem raw_of {d : Desc} (W : Wd prog w base fr H h₀) (hL : H L = none) (e : H a = some d) : ∃ o, rawL base h₀ L a = some (.raw o) ∧ d.Of prog w o := by
  obtain ⟨⟨n1, n2⟩, o, ho, hd⟩ := W.led a d e
  exact ⟨o, raw_get (fun q => by rw [q, hL] at e; cases e) n1 n2 ho, hd⟩
theorem raw_st (hlim : base.NoLimit) (X : SameX base h₀ L s.heap) (hk : env.scope.kind = .function) (hf : env.frame = some L) (hl : env.locals = L) (hn : s.heap.Ns L m) (hb : base.get? L = none) (hlw : (L == sysModules) = false) (hg : AllBare s.gens) (ho : s.os = os.os ∧ ∀ g d, os.fix = some (g, d) → s.gens = g ∧ s.drawn = d) :
    St prog w base os [(env, m)] (rawL base h₀ L) s where
  wd := {
    stays := X.stays
    lim := hlim
    frs := fun p hp => by
      rw [List.mem_singleton] at hp; subst hp
      exact ⟨hk, by rw [hl]; exact hf, by rw [hl]; exact hn, by rw [hl]; exact hb, by rw [hl]; unfold rawL; rw [if_pos (.inl rfl)], by rw [hl]; exact hlw⟩
    nd := by simp
    led := fun b d e => by
      unfold rawL at e
      split at e
      · cases e
      · rename_i q
        simp only [not_or, Bool.not_eq_true, Option.isSome_eq_false_iff, Option.isNone_iff_eq_none] at q
        obtain ⟨o, ho, rfl⟩ := Option.map_eq_some_iff.mp e
        exact ⟨⟨q.2.1, q.2.2⟩, o, X.same _ _ q.1 q.2.1 ho, rfl⟩ }
  bare := hg
  os := ho
/-- and back -/
theorem same_of (S : St prog w base os [(env, m)] (rawL base h₀ L) s) (hbs : ∀ b o, base.get? b = some o → h₀.get? b = some o) : SameX base h₀ L s.heap where
  stays := S.wd.stays
  same := fun b o h1 h2 h3 => by
    cases q : base.get? b with
    | some o' => have := hbs _ _ q; rw [this] at h3; cases h3; exact S.wd.stays _ _ q
    | none =>
      obtain ⟨o', ho', e⟩ := S.get (raw_get h1 h2 q h3)
      cases (show o' = o from e); exact ho'
end
end Mine

end

section
open PySem PySem.W PyProof.Rows PySem.Calls
set_option Elab.async false
set_option maxRecDepth 100000
set_option linter.unusedVariables false
namespace Mine

def dCwo : Def := mkD 830 "neighbors_cw_order" "PlanarEmbedding.neighbors_cw_order" (subAt 16 5) [] .none .none
theorem scCwo : ScOk dCwo.scope := ScOk.of (by decide +kernel)

/-- the dicts that the walk round a node reads, held exactly -/
structure Rd (prog : Program) (w : World) (HR : Led) (σ : Sg) (p sA aU : Addr) (v : Int) : Prop where
  pic : ∃ dx b es m, HR p = some (.raw (instObj peA dx)) ∧ HR dx = some (.raw (dictS b es m)) ∧ getL "_succ" es = some (some (.ref sA))
  succ : ∃ o ks, HR sA = some (.raw o) ∧ (Desc.di ks none).Of prog w o ∧ valueAt ks v = some (.ref aU)
  nbr : ∃ o kvs, HR aU = some (.raw o) ∧ (Desc.di kvs none).Of prog w o ∧ kvs.map (·.1) = σ.so v ∧ ∀ k ∈ σ.so v, ∃ aE oE ke t, valueAt kvs k = some (.ref aE) ∧ HR aE = some (.raw oE) ∧ (Desc.ds ke).Of prog w oE ∧ valueAt ke "cw" = some (.int (σ.cw v k) t)

section
variable {prog : Program} {w : World} {K : Frag} {base h₀ : Heap} {os : Os} {A : Around} {E : Value → Shared → Prop} {fr : Frs} {H HR : Led} {s : Shared} {env : Env} {vs : List (Option Value)} {p L : Addr} {ρ : Rho} {σ : Sg}

theorem di_none {kvs : List (Int × Value)} {ep : Option Nat} {o : Obj} (h : (Desc.di kvs ep).Of prog w o) : (Desc.di kvs none).Of prog w o := by
  cases ep with
  | none => exact h
  | some n => obtain ⟨es, h1, h2, h3, h4, h5⟩ := h; exact ⟨es, n, h1, h2, h3, h4, h5⟩

theorem rd_of {v : Int} (W : Wd prog w base fr H h₀) (hL : H L = none) (R : Rep w.params H ρ σ) (hp : ρ p = some .self) (hv : v ∈ σ.ns) : ∃ sA aU, Rd prog w (rawL base h₀ L) σ p sA aU v := by
  obtain ⟨dx, t, g, n, sx, px, m, h1, h2, hx, q1, q2, q3, q4⟩ := R.pic hp
  obtain ⟨ks, es, hsA, rs⟩ := R.succ q3
  obtain ⟨aU, hvU, hrU⟩ := rs.find hv
  obtain ⟨kvs, ep, hU, rU⟩ := R.sd hrU
  obtain ⟨o1, r1, e1⟩ := raw_of W hL h1
  obtain ⟨o2, r2, e2⟩ := raw_of W hL h2
  obtain ⟨o3, r3, e3⟩ := raw_of W hL hsA
  obtain ⟨o4, r4, e4⟩ := raw_of W hL hU
  cases (show o1 = _ from e1)
  cases (show o2 = _ from e2)
  refine ⟨sx, aU, ⟨dx, _, _, _, r1, r2, by cases σ.adj <;> rfl⟩, ⟨o3, ks, r3, di_none e3, hvU⟩, ⟨o4, kvs, r4, di_none e4, rU.1, fun k hk => ?_⟩⟩
  obtain ⟨aE, hvE, hrE⟩ := rU.find hk
  obtain ⟨ke, hE, ⟨t1, d1⟩, d2, d3⟩ := R.ed hrE
  obtain ⟨o5, r5, e5⟩ := raw_of W hL hE
  exact ⟨aE, o5, ke, t1, hvE, r5, e5, d1⟩
end
end Mine

end

section
open PySem PySem.W PyProof.Rows PySem.Calls
set_option Elab.async false
set_option maxRecDepth 100000
set_option linter.unusedVariables false
namespace Mine

section
variable {prog : Program} {w : World} {K : Frag} {base h₀ : Heap} {os : Os} {A : Around} {E : Value → Shared → Prop} {fr : Frs} {H HR : Led} {s : Shared} {env : Env} {vs : List (Option Value)} {p L sA aU : Addr} {ρ : Rho} {σ : Sg} {v : Int} {np pos : Pos} {e₁ e₂ : PySem.Expr}

/-- self._succ, from the exact ledger -/
theorem pu_succR {n : Str} (h1 : Pu prog w base os fr HR env vs (.Name n np) (· = .ref p)) (Z : Sta K base) (F : KA K) (G : Rd prog w HR σ p sA aU v) : Pu prog w base os fr HR env vs (.Attribute (.Name n np) "_succ" pos) (· = .ref sA) := by
  obtain ⟨dx, b, es, m, r1, r2, hl⟩ := G.pic
  exact pu_attr h1 fun A E Q s S q => get_value (S.kin Z) (pic_inst S r1 r2) (plainGet_of F.pg).1 (findObj_own F.hd F.s rfl hl) rfl (q _ _ rfl (S.toks _))
/-- self._succ[v] -/
theorem pu_nbrR {n : Str} {p1 p2 p3 : Pos} (h1 : Pu prog w base os fr HR env vs (.Name n p1) (· = .ref p)) (h2 : Pu prog w base os fr HR env vs e₂ (IsI v)) (Z : Sta K base) (F : KA K) (G : Rd prog w HR σ p sA aU v)
    (hs : ∀ t, subscripted e₂ false (.ref sA) (.int v t) = operate [.ref sA, .int v t] (getItem (.ref sA) (.int v t)) := by intro _; with_unfolding_all rfl) :
    Pu prog w base os fr HR env vs (.Subscript (.Attribute (.Name n p1) "_succ" p2) e₂ p3) (· = .ref aU) := by
  obtain ⟨o, ks, r, hd, hv⟩ := G.succ
  exact pu_subR (pu_succR h1 Z F G) h2 r hd hv hs
/-- succs[x]["cw"] -/
theorem pu_cwR {k : Int} {p2 p3 p4 : Pos} {c : Nat} (h1 : Pu prog w base os fr HR env vs e₁ (· = .ref aU)) (h2 : Pu prog w base os fr HR env vs e₂ (IsI k)) (G : Rd prog w HR σ p sA aU v) (hk : k ∈ σ.so v)
    (hs : ∀ t, subscripted e₂ false (.ref aU) (.int k t) = operate [.ref aU, .int k t] (getItem (.ref aU) (.int k t)) := by intro _; with_unfolding_all rfl) :
    Pu prog w base os fr HR env vs (.Subscript (.Subscript e₁ e₂ p2) (.Constant (.str "cw") c p3) p4) (IsI (σ.cw v k)) := by
  obtain ⟨o, kvs, r, hd, hkeys, hE⟩ := G.nbr
  obtain ⟨aE, oE, ke, t, hv, rE, hdE, hcw⟩ := hE k hk
  exact (pu_subsR (pu_subR h1 h2 r hd hv hs) pu_str rE hdE hcw).mono fun x hx => ⟨t, hx⟩
end
end Mine

end

section
open PySem PySem.W PyProof.Rows PySem.Calls
set_option Elab.async false
set_option maxRecDepth 100000
set_option linter.unusedVariables false
namespace Mine

/-- what neighbors_cw_order tells of the node -/
structure Told (σ : Sg) (v : Int) (l : List Int) : Prop where
  nil : σ.so v = [] → l = []
  head : ∀ h : σ.so v ≠ [], l[0]? = some ((σ.so v).getLast h)
  mem : ∀ (i : Nat) (k : Int), l[i]? = some k → k ∈ σ.so v
  next : ∀ (i : Nat) (k k' : Int), l[i]? = some k → l[i + 1]? = some k' → σ.cw v k = k'
  last : ∀ (k k₀ : Int), l[l.length - 1]? = some k → l[0]? = some k₀ → σ.cw v k = k₀
  ne : ∀ (i : Nat) (k k₀ : Int), 0 < i → l[i]? = some k → l[0]? = some k₀ → k ≠ k₀

/-- between two acts of the generator -/
structure Since (s₀ s : Shared) : Prop where
  gens : s.gens = s₀.gens
  drawn : s.drawn = s₀.drawn
  os : s.os = s₀.os
theorem Since.refl (s : Shared) : Since s s := ⟨rfl, rfl, rfl⟩

section
variable {prog : Program} {w : World} {K : Frag} {base h₀ : Heap} {os : Os} {A : Around} {E : Value → Shared → Prop} {fr : Frs} {H HR : Led} {s : Shared} {env : Env} {vs : List (Option Value)} {p L sA aU a : Addr} {ρ : Rho} {σ : Sg} {v : Int} {np pos : Pos} {e₁ e₂ : PySem.Expr} {o : Obj}

theorem ev_lastR {e : PySem.Expr} {kvs : List (Int × Value)} {p1 p2 p3 p4 p5 : Pos} {c : Nat} {ks : List Int} {Q : Value → Shared → Prop} (i : Nat) (Z : Sta K base) (hh : A.handled = none) (C : ScOk env.scope) (hg : env.globals = mainGlobals) (hb : env.builtins = builtinsNs)
    (hi : env.scope.names[i]? = some (("list" : Str), NameKind.globalImplicit)) (hK : nsIn K mainGlobals "list" = some none) (S : St prog w base os ((env, fm env.scope.names vs) :: fr) H s) (h1 : Pu prog w base os fr H env vs e (· = .ref a)) (he : H a = some (.raw o)) (hd : (Desc.di kvs none).Of prog w o) (hz : kvs.length ≤ 1000)
    (hk : kvs.map (·.1) = ks) (hn : ks ≠ []) (hp : plainE e = true) (q : ∀ v s', IsI (ks.getLast hn) v → St prog w base os ((env, fm env.scope.names vs) :: fr) H s' → Q v s')
    (hs : ∀ b u, subscripted (.UnaryOp .USub (.Constant (.int 1) c p3) p4) false (.ref b) (.int (-1) u) = operate [.ref b, .int (-1) u] (getItem (.ref b) (.int (-1) u)) := by intros; with_unfolding_all rfl) :
    wpAny (model prog w) A (eval (.Subscript (.Call (.Name "list" p1) [e] [] p2) (.UnaryOp .USub (.Constant (.int 1) c p3) p4) p5) env) Q E s := by
  refine ev_sub (ev_call (nm_builtin S Z C hg hb hi ⟨hK, boot_list, by decide +kernel⟩ (cwT (by simp [hp]) (Pu.go h1 S fun _ s₁ x S₁ => ?_))))
  subst x
  refine list_diR hh S₁ he hd hz fun b us s₂ hb₂ S₂ hI => ?_
  rw [hk] at hI
  refine wpAny_UnaryOp (wpAny_Constant_int (PyProof.Rows.neg_int ?_))
  have S₃ := (S₂.toks (s₂.toks + 1)).toks (s₂.toks + 1 + 1)
  have hp' : 0 < ks.length := List.length_pos_iff.mpr hn
  refine item_list_ints_negR (S₃.li (upd_self ..)) hI (by decide) (by omega) (by decide) (fun t => q _ _ ⟨t, ?_⟩ ?_) (hs _ _)
  · show Value.int (ks.getD ((-1 + (ks.length : Int)).toNat) 0) t = _
    rw [getD_last hn]
  · exact ⟨S₃.wd.forget fun a d e => by rw [upd_ne _ _ (fun q => by rw [q, hb₂] at e; cases e)]; exact e, S₃.bare, S₃.os⟩
theorem tr_diR {kvs : List (Int × Value)} {b : Bool} (e : H a = some (.raw o)) (hd : (Desc.di kvs none).Of prog w o) (hz : kvs.length ≤ 1000) (hb : (!kvs.isEmpty) = b) (A : Around) (E : Value → Shared → Prop) (Q : Bool → Shared → Prop) (s : Shared) (S : St prog w base os ((env, fm env.scope.names vs) :: fr) H s)
    (q : ∀ s', St prog w base os ((env, fm env.scope.names vs) :: fr) H s' → Q b s') : wpAny (model prog w) A (truthy (.ref a)) Q E s := by
  subst hb
  exact wpAny_truthy_dict (S.nm e) (S.diR e hd) (by omega) (q _ (S.toks _))

/-- the generator's frame -/
def gmap (p aU : Addr) (v : Int) (tv : Tok) (st cur : Option Value) : Map := fm dCwo.scope.names [some (.ref p), some (.int v tv), some (.ref aU), st, cur]
def MapOk (l : List Int) (p : Addr) (v : Int) (i : Nat) (m : Map) : Prop :=
  if i = 0 then ∃ tv, m = fm dCwo.scope.names [some (.ref p), some (.int v tv), none, none, none]
  else ∃ tv aU st cur k₀, m = gmap p aU v tv (some st) cur ∧ l[0]? = some k₀ ∧ IsI k₀ st ∧ (1 < i → ∃ c k, cur = some c ∧ l[i - 1]? = some k ∧ IsI k c)

/-- what a yield hands on -/
def Yg (base h₀ : Heap) (L : Addr) (l : List Int) (o₀ : OsState) : Protocol := fun n s₀ val s' kap =>
  ∃ m, s'.heap.Ns L m ∧ SameX base s₀.heap L s'.heap ∧ Since s₀ s' ∧ (∃ k, l[l.length - (n + 1)]? = some k ∧ IsI k val) ∧
    ∀ s'' : Shared, SameX base h₀ L s''.heap → s''.heap.Ns L m → AllBare s''.gens → s''.os = o₀ → kap (.send .none) s''
def Rg (base : Heap) (L : Addr) : Nat → Shared → Shared → Prop := fun n s₀ s₁ => n = 0 ∧ Since s₀ s₁ ∧ SameX base s₀.heap L s₁.heap
theorem Rd.up (G : Rd prog w HR σ p sA aU v) {HR' : Led} (h : ∀ a o, HR a = some (.raw o) → HR' a = some (.raw o)) : Rd prog w HR' σ p sA aU v := by
  obtain ⟨⟨dx, b, es, m, h1, h2, h3⟩, ⟨o, ks, r, hd, hv⟩, ⟨o', kvs, r', hd', hk, hE⟩⟩ := G
  exact ⟨⟨dx, b, es, m, h _ _ h1, h _ _ h2, h3⟩, ⟨o, ks, h _ _ r, hd, hv⟩, ⟨o', kvs, h _ _ r', hd', hk, fun k hm => let ⟨aE, oE, ke, t, q1, q2, q3⟩ := hE k hm; ⟨aE, oE, ke, t, q1, h _ _ q2, q3⟩⟩⟩
theorem rawL_up {h : Heap} (X : SameX base h₀ L h) : ∀ a o, rawL base h₀ L a = some (.raw o) → rawL base h L a = some (.raw o) := by
  intro a o e
  unfold rawL at e
  split at e
  · cases e
  · rename_i q
    simp only [not_or, Bool.not_eq_true, Option.isSome_eq_false_iff, Option.isNone_iff_eq_none] at q
    obtain ⟨o', ho, q'⟩ := Option.map_eq_some_iff.mp e
    cases q'
    exact raw_get q.1 q.2.1 q.2.2 (X.same _ _ q.1 q.2.1 ho)
theorem SameX.refl {h : Heap} (x : base.StaysIn h) : SameX base h L h := ⟨x, fun _ _ _ _ e => e⟩
theorem SameX.trans {h h' : Heap} (X : SameX base h₀ L h) (Y : SameX base h L h') : SameX base h₀ L h' := ⟨Y.stays, fun b o h1 h2 e => Y.same b o h1 h2 (X.same b o h1 h2 e)⟩

theorem seg_pure {M : Model} {A : Around} {R : GenEnd} {Y : Protocol} {n : Nat} {s₀ s : Shared} {c : Code} {r : Result} (t : Sem Fin) (ht : t = leafOf r) (h : R n s₀ r s) : Seg M A R Y n s₀ c t [] s := by rw [ht]; exact seg_end r h
end
end Mine

end

section
open PySem PySem.W PyProof.Rows PySem.Calls
set_option Elab.async false
set_option maxRecDepth 100000
set_option linter.unusedVariables false
namespace Mine

section
variable {prog : Program} {w : World} {K : Frag} {base h₀ : Heap} {A : Around} {s : Shared} {p L sA aU : Addr} {σ : Sg} {v : Int} {tv : Tok} {l : List Int} {o₀ : OsState}

theorem seg_loop {R : GenEnd} {fs : List Frame} {p1 p2 p3 p4 p5 p6 p7 p8 p9 p10 p11 p12 p13 : Pos} {c : Nat} {k₀ : Int} {st : Value} (Z : Sta K base) (hb : base.get? L = none) (hlw : (L == sysModules) = false)
    (G : Rd prog w (rawL base h₀ L) σ p sA aU v) (T : Told σ v l) (h0 : l[0]? = some k₀) (hst : IsI k₀ st) (hfs : splitAtGen fs = none) (hfg : fs.any Frame.guarded = false)
    (fin : ∀ (s₀ s' : Shared), Since s₀ s' → SameX base s₀.heap L s'.heap → Seg (model prog w) A R (Yg base h₀ L l o₀) 0 s₀ (.whileLoop (.Compare (.Name "start_node" p1) [.NotEq] [.Name "current_node" p2] p3)
      [.Expr (.Yield (some (.Name "current_node" p4)) p5) p6, .Assign [.Name "current_node" p7] (.Subscript (.Subscript (.Name "succs" p8) (.Name "current_node" p9) p10) (.Constant (.str "cw") c p11) p12) p13] [] (dCwo.env L)) (.pure (.done .next)) fs s') :
    ∀ (n i : Nat) (s₀ s : Shared) (cur : Value), s₀.os = o₀ → SameX base h₀ L s₀.heap → i + n = l.length → 1 ≤ i → St prog w base ⟨o₀, some (s₀.gens, s₀.drawn)⟩ [(dCwo.env L, gmap p aU v tv (some st) (some cur))] (rawL base s₀.heap L) s →
      (∀ k, l[i]? = some k → IsI k cur) → (i = l.length → IsI k₀ cur) → Seg (model prog w) A R (Yg base h₀ L l o₀) n s₀ (.whileLoop (.Compare (.Name "start_node" p1) [.NotEq] [.Name "current_node" p2] p3)
      [.Expr (.Yield (some (.Name "current_node" p4)) p5) p6, .Assign [.Name "current_node" p7] (.Subscript (.Subscript (.Name "succs" p8) (.Name "current_node" p9) p10) (.Constant (.str "cw") c p11) p12) p13] [] (dCwo.env L))
      ((model prog w).den (.whileLoop (.Compare (.Name "start_node" p1) [.NotEq] [.Name "current_node" p2] p3)
      [.Expr (.Yield (some (.Name "current_node" p4)) p5) p6, .Assign [.Name "current_node" p7] (.Subscript (.Subscript (.Name "succs" p8) (.Name "current_node" p9) p10) (.Constant (.str "cw") c p11) p12) p13] [] (dCwo.env L))) fs s := by
  have C := scCwo
  intro n
  induction n with
  | zero =>
    intro i s₀ s cur ho XX hi h1 S _ hcur
    have hcur := hcur (by omega)
    refine seg_whileLoop ?_
    have T1 : Tu prog w base ⟨o₀, some (s₀.gens, s₀.drawn)⟩ [] (rawL base s₀.heap L) (dCwo.env L) [some (.ref p), some (.int v tv), some (.ref aU), some st, some cur] (.Compare (.Name "start_node" p1) [.NotEq] [.Name "current_node" p2] p3) false :=
      tu_cmp (pu_v 3 C rfl rfl) (pu_v 4 C rfl rfl) (fun x y hx hy A E Q s S q => cmp_ne (k := k₀) (k' := k₀) x y (hx ▸ hst) (hy ▸ hcur) A E Q s S fun s' S' => by
        have : (k₀ != k₀) = false := by simp
        rw [this]; exact q s' S')
    refine T1 _ _ _ _ S fun s₁ S₁ => ?_
    rw [if_neg Bool.false_ne_true]
    exact seg_execs_nil (fin s₀ s₁ ⟨(S₁.os.2 _ _ rfl).1, (S₁.os.2 _ _ rfl).2, by rw [S₁.os.1, ho]⟩ (same_of S₁ XX.stays))
  | succ m ih =>
    intro i s₀ s cur ho XX hi h1 S hcur _
    have hlt : i < l.length := by omega
    obtain ⟨ki, hki⟩ : ∃ k, l[i]? = some k := ⟨l[i], by simp [hlt]⟩
    have hcur := hcur _ hki
    have hne : k₀ ≠ ki := fun q => T.ne i ki k₀ h1 hki h0 q.symm
    refine seg_whileLoop ?_
    have T1 : Tu prog w base ⟨o₀, some (s₀.gens, s₀.drawn)⟩ [] (rawL base s₀.heap L) (dCwo.env L) [some (.ref p), some (.int v tv), some (.ref aU), some st, some cur] (.Compare (.Name "start_node" p1) [.NotEq] [.Name "current_node" p2] p3) true :=
      tu_cmp (pu_v 3 C rfl rfl) (pu_v 4 C rfl rfl) (fun x y hx hy A E Q s S q => cmp_ne (k := k₀) (k' := ki) x y (hx ▸ hst) (hy ▸ hcur) A E Q s S fun s' S' => by
        have : (k₀ != ki) = true := by simp [hne]
        rw [this]; exact q s' S')
    refine T1 _ _ _ _ S fun s₁ S₁ => ?_
    rw [if_pos rfl]
    refine seg_execs_cons (seg_Expr_Yield hfs rfl hfg ?_ rfl rfl)
    refine pu_v (fr := []) 4 C rfl rfl _ _ _ _ S₁ fun x s₂ hx S₂ => ?_
    subst hx
    intro kap hkap
    refine ⟨gmap p aU v tv (some st) (some x), S₂.ns, same_of S₂ XX.stays, ⟨(S₂.os.2 _ _ rfl).1, (S₂.os.2 _ _ rfl).2, by rw [S₂.os.1, ho]⟩, ⟨ki, by rw [show l.length - (m + 1) = i by omega]; exact hki, hcur⟩, fun s'' X N B O => hkap .none s'' ?_⟩
    show Seg _ _ _ _ m s'' _ ((execs _ _).wrap _ _ _ _) fs s''
    have S₃ : St prog w base ⟨o₀, some (s''.gens, s''.drawn)⟩ [(dCwo.env L, gmap p aU v tv (some st) (some x))] (rawL base s''.heap L) s'' :=
      raw_st Z.lim (.refl X.stays) scCwo.kind rfl rfl N hb hlw B ⟨O, fun g d e => by cases e; exact ⟨rfl, rfl⟩⟩
    refine seg_execs_cons (seg_wrap (as_name (base := base) (os := ⟨o₀, some (s''.gens, s''.drawn)⟩) (env := dCwo.env L) C (i := 4) rfl rfl ?_))
    refine pu_cwR (fr := []) (k := ki) (pu_v 2 C rfl rfl) ((pu_v 4 C rfl rfl).mono fun z hz => hz ▸ hcur) (G.up (rawL_up X)) (T.mem i ki hki) (by intro _; with_unfolding_all rfl) _ _ _ _ S₃ fun y s₄ hy S₄ => ?_
    refine ⟨[], _, _, _, S₄, rfl, by show 4 < 5; decide, fun s₅ S₅ => ?_⟩
    refine seg_execs_nil (seg_again rfl ?_)
    refine ih (i + 1) s'' s₅ y O X (by omega) (by omega) S₅ (fun k hk => ?_) (fun q => ?_)
    · rw [← T.next i ki k hki hk]; exact hy
    · have := T.last ki k₀ (by rw [show l.length - 1 = i by omega]; exact hki) h0
      rw [← this]; exact hy
end
end Mine

end

section
open PySem PySem.W PyProof.Rows PySem.Calls
set_option Elab.async false
set_option maxRecDepth 100000
set_option linter.unusedVariables false
namespace Mine

section
variable {prog : Program} {w : World} {K : Frag} {base h₀ : Heap} {A : Around} {s : Shared} {p L sA aU : Addr} {σ : Sg} {v : Int} {tv : Tok} {l : List Int} {o₀ : OsState}

theorem seg_body (Z : Sta K base) (F : KA K) (hK : nsIn K mainGlobals "list" = some none) (hh : A.handled = none) (hb : base.get? L = none) (hlw : (L == sysModules) = false)
    (G : Rd prog w (rawL base h₀ L) σ p sA aU v) (T : Told σ v l) (hz : (σ.so v).length ≤ 1000) (ho : s.os = o₀) (XX : SameX base h₀ L s.heap)
    (S : St prog w base ⟨o₀, some (s.gens, s.drawn)⟩ [(dCwo.env L, fm dCwo.scope.names [some (.ref p), some (.int v tv), none, none, none])] (rawL base s.heap L) s) :
    Seg (model prog w) A (fun n s₀ r s₁ => r = .ok (.ret .none) ∧ Rg base L n s₀ s₁) (Yg base h₀ L l o₀) l.length s (.func dCwo.body (dCwo.env L)) ((model prog w).den (.func dCwo.body (dCwo.env L))) [] s := by
  have C := scCwo
  obtain ⟨oU, kvs, rU, hdU, hkeys, -⟩ := (G.up (rawL_up XX)).nbr
  have hlen : kvs.length ≤ 1000 := by have := congrArg List.length hkeys; rw [List.length_map] at this; omega
  refine seg_func ?_
  refine seg_execs_cons (seg_wrap (as_name (base := base) (os := ⟨o₀, some (s.gens, s.drawn)⟩) (env := dCwo.env L) C (i := 2) rfl rfl ?_))
  refine pu_nbrR (fr := []) (pu_v 0 C rfl rfl) (pu_i 1 C rfl rfl) Z F (G.up (rawL_up XX)) (by intro _; with_unfolding_all rfl) _ _ _ _ S fun y s₁ hy S₁ => ?_
  subst hy
  refine ⟨[], _, _, _, S₁, rfl, by show 2 < 5; decide, fun s₂ S₂ => ?_⟩
  refine seg_execs_cons (seg_wrap (wpAny_If ?_))
  refine (tu_not (tu_val (pu_v (fr := []) (env := dCwo.env L) 2 C rfl rfl) (tr_diR rU hdU hlen rfl))) _ _ _ _ S₂ fun s₃ S₃ => ?_
  by_cases hn : σ.so v = []
  · have hk : kvs = [] := by rw [hn] at hkeys; exact List.map_eq_nil_iff.mp hkeys
    have hl := T.nil hn
    subst hk
    subst hl
    refine wpAny_execs_cons (wpAny_Return_none ?_)
    exact seg_pure _ rfl ⟨rfl, rfl, ⟨(S₃.os.2 _ _ rfl).1, (S₃.os.2 _ _ rfl).2, by rw [S₃.os.1, ho]⟩, same_of S₃ XX.stays⟩
  · have hk : kvs.isEmpty = false := by
      cases kvs with
      | nil => exact absurd hkeys.symm hn
      | cons _ _ => rfl
    rw [hk]
    refine wpAny_execs_nil ?_
    have h0 := T.head hn
    obtain ⟨m, hm⟩ : ∃ m, l.length = m + 1 := by
      cases l with
      | nil => simp at h0
      | cons a r => exact ⟨r.length, rfl⟩
    rw [hm]
    refine seg_execs_cons (seg_wrap (as_name (base := base) (os := ⟨o₀, some (s.gens, s.drawn)⟩) (env := dCwo.env L) C (i := 3) rfl rfl ?_))
    refine ev_lastR (fr := []) 5 Z hh C rfl rfl rfl hK S₃ (pu_v 2 C rfl rfl) rU hdU hlen hkeys hn rfl (fun st s₄ hst S₄ => ?_) (by intros; with_unfolding_all rfl)
    refine ⟨[], _, _, _, S₄, rfl, by show 3 < 5; decide, fun s₅ S₅ => ?_⟩
    refine seg_execs_cons (seg_Expr_Yield rfl rfl rfl ?_ rfl rfl)
    refine pu_v (fr := []) 3 C rfl rfl _ _ _ _ S₅ fun x s₆ hx S₆ => ?_
    subst hx
    intro kap hkap
    refine ⟨gmap p aU v tv (some x) none, S₆.ns, same_of S₆ XX.stays, ⟨(S₆.os.2 _ _ rfl).1, (S₆.os.2 _ _ rfl).2, by rw [S₆.os.1, ho]⟩, ⟨_, by rw [hm, Nat.sub_self]; exact h0, hst⟩, fun s'' X N B O => hkap .none s'' ?_⟩
    show Seg _ _ _ _ m s'' _ ((execs _ _).wrap _ _ _ _) [] s''
    have S₇ : St prog w base ⟨o₀, some (s''.gens, s''.drawn)⟩ [(dCwo.env L, gmap p aU v tv (some x) none)] (rawL base s''.heap L) s'' :=
      raw_st Z.lim (.refl X.stays) scCwo.kind rfl rfl N hb hlw B ⟨O, fun g d e => by cases e; exact ⟨rfl, rfl⟩⟩
    refine seg_execs_cons (seg_wrap (as_name (base := base) (os := ⟨o₀, some (s''.gens, s''.drawn)⟩) (env := dCwo.env L) C (i := 4) rfl rfl ?_))
    refine pu_cwR (fr := []) (k := (σ.so v).getLast hn) (pu_v 2 C rfl rfl) ((pu_v 3 C rfl rfl).mono fun z hz => hz ▸ hst) (G.up (rawL_up X)) (T.mem 0 _ h0) (by intro _; with_unfolding_all rfl) _ _ _ _ S₇ fun y s₈ hy S₈ => ?_
    refine ⟨[], _, _, _, S₈, rfl, by show 4 < 5; decide, fun s₉ S₉ => ?_⟩
    refine seg_execs_cons (seg_While fun pp => ?_)
    refine seg_loop Z hb hlw G T h0 hst rfl rfl (fun s₀' s' X1 X2 => ?_) m 1 s'' s₉ y O X (by omega) (by omega) S₉ (fun k hk => ?_) (fun q => ?_)
    · refine seg_leaf (.ok .next) ?_
      exact seg_pure _ rfl ⟨rfl, rfl, X1, X2⟩
    · rw [← T.next 0 _ k h0 hk]; exact hy
    · have := T.last _ _ (by rw [show l.length - 1 = 0 by omega]; exact h0) h0
      rw [← this]; exact hy
end
end Mine

end

section
open PySem PySem.W PyProof.Rows PySem.Calls
set_option Elab.async false
set_option maxRecDepth 100000
set_option linter.unusedVariables false
namespace Mine

/-- what the generator may turn -/
def wrS (base : Heap) (L : Addr) : List Addr := if (base.get? sysModules).isSome then [L] else [L, sysModules]
theorem wrS_mem {base : Heap} {L b : Addr} (h : b ∈ wrS base L) : b = L ∨ (b = sysModules ∧ base.get? sysModules = none) := by
  unfold wrS at h
  split at h
  · exact .inl (List.mem_singleton.mp h)
  · rename_i q
    simp only [List.mem_cons, List.not_mem_nil, or_false] at h
    rcases h with h | h
    · exact .inl h
    · exact .inr ⟨h, by simpa using q⟩
theorem SameX.moved {base h h' : Heap} {L : Addr} (hs : base.StaysIn h) (X : SameX base h L h') : ∀ b o, b ∉ wrS base L → h.get? b = some o → h'.get? b = some o := by
  intro b o hb e
  have hL : b ≠ L := fun q => hb (by unfold wrS; split <;> simp [q])
  by_cases q : b = sysModules
  · subst q
    cases z : base.get? sysModules with
    | none => exact absurd (show sysModules ∈ wrS base L by unfold wrS; rw [z]; simp) hb
    | some o' =>
      have := hs _ _ z
      rw [e] at this; cases this
      exact X.stays _ _ z
  · exact X.same b o hL (beq_eq_false_iff_ne.mpr q) e

structure GAt (prog : Program) (w : World) (A : Around) (base h₀ : Heap) (L : Addr) (g : Nat) (l : List Int) (o₀ : OsState) (i : Nat) (s : Shared) : Prop where
  same : SameX base h₀ L s.heap
  bare : AllBare s.gens
  os : s.os = o₀
  gs : ∃ gs m, s.gens[g]? = some gs ∧ s.heap.Ns L m ∧ ∀ s'' : Shared, SameX base h₀ L s''.heap → s''.heap.Ns L m → AllBare s''.gens → s''.os = o₀ →
    gs.Goes (model prog w) A.in1 (fun n s₀ r s₁ => r = .ok (.ret .none) ∧ Rg base L n s₀ s₁) (Yg base h₀ L l o₀) (l.length - i) (.send .none) s''

section
variable {prog : Program} {w : World} {K : Frag} {base h₀ : Heap} {os : Os} {A : Around} {E : Value → Shared → Prop} {fr : Frs} {H : Led} {s : Shared} {p I L : Addr} {ρ : Rho} {σ : Sg} {v : Int} {tv : Tok} {l : List Int} {o₀ : OsState} {g : Nat}

theorem bare_set {gs x : GenState} (h : AllBare s.gens) (hg : s.gens[g]? = some gs) (hx : x.bare = true) : AllBare (s.setGen g x).gens :=
  (GenOnlyQ.of (GenOnly.setGen s g x) (setGen_self hg) hx).bare h

theorem walks_gen (hh : A.handled = none) (hroom : A.depth < recursionLimit) (Z : Sta K base) (hst : base.StaysIn h₀) (hI : h₀.IsGen I g) (hIL : I ≠ L) (hIm : (I == sysModules) = false) (hL : L < h₀.objs.size) :
    WalksS prog w A I (List.range h₀.objs.size) (wrS base L) (GenOnlyQ g) l.length (fun i v => ∃ k, l[i]? = some k ∧ IsI k v) (GAt prog w A base h₀ L g l o₀) where
  sub := fun b hb => by
    rcases wrS_mem hb with rfl | ⟨rfl, _⟩
    · exact List.mem_range.mpr hL
    · exact List.mem_range.mpr (modules_low (Z.lim.keeps hst))
  grefl := fun _ => .inl rfl
  gtrans := fun _ _ _ x y => x.trans y
  frame := fun i s h' tk st _ hk => by
    have hin : ∀ b o, h₀.get? b = some o → b ∈ List.range h₀.objs.size := fun b o e => List.mem_range.mpr (Heap.lt_size e)
    obtain ⟨gs, m, h1, h2, h3⟩ := st.gs
    exact ⟨⟨fun b o e => hk b (hin b o (hst b o e)) o (st.same.stays b o e), fun b o q1 q2 e => hk b (hin b o e) o (st.same.same b o q1 q2 e)⟩, st.bare, st.os, gs, m, h1, h2.at fun o e => hk L (List.mem_range.mpr hL) o e, h3⟩
  item := fun i s Q E hi st hQ => by
    obtain ⟨gs, m, hgs, hN, hgo⟩ := st.gs
    obtain ⟨n, hn⟩ : ∃ n, l.length - i = n + 1 := ⟨l.length - i - 1, by omega⟩
    rw [hn] at hgo
    have hg : s.heap.IsGen I g := let ⟨o, nm, qn, ho, r⟩ := hI; ⟨o, nm, qn, st.same.same I o hIL hIm ho, r⟩
    refine wpAny_with_toks (Nat.le_refl s.toks) ?_
    refine next_gen (P := Rg base L) hh (Z.lim.keeps st.same.stays) hroom hg hgs (hgo (s.setGen g .running) st.same hN (bare_set st.bare hgs rfl) st.os) (fun v s₁ gs' hb hv => ?_) (fun s₁ hp h' hk => absurd hp.1 (Nat.succ_ne_zero n))
    obtain ⟨m', N', X', Sn, ⟨k, hk, hvk⟩, hkap⟩ := hv
    have hg₁ : s₁.gens[g]? = some .running := by rw [Sn.gens]; exact setGen_self hgs
    have hb₁ : AllBare s₁.gens := by rw [Sn.gens]; exact bare_set st.bare hgs rfl
    intro htk
    refine hQ v _ ⟨k, by rw [← hk]; congr 1; omega, hvk⟩ ⟨st.same.trans X', bare_set hb₁ hg₁ hb, Sn.os.trans st.os, gs', m', setGen_self hg₁, N', fun s'' q1 q2 q3 q4 => ?_⟩
      ⟨X'.moved st.same.stays, GenOnlyQ.of ((GenOnly.setGen s g .running).trans ?_) (setGen_self hg₁) hb, Sn.drawn, Sn.os, htk⟩
    · rw [show l.length - (i + 1) = n by omega]; exact hkap s'' q1 q2 q3 q4
    · rw [← Sn.gens]; exact GenOnly.setGen s₁ g gs'
  done := fun s Q E st hQ => by
    obtain ⟨gs, m, hgs, hN, hgo⟩ := st.gs
    rw [Nat.sub_self] at hgo
    have hg : s.heap.IsGen I g := let ⟨o, nm, qn, ho, r⟩ := hI; ⟨o, nm, qn, st.same.same I o hIL hIm ho, r⟩
    refine wpAny_with_toks (Nat.le_refl s.toks) ?_
    refine next_gen (P := Rg base L) hh (Z.lim.keeps st.same.stays) hroom hg hgs (hgo (s.setGen g .running) st.same hN (bare_set st.bare hgs rfl) st.os) (fun v s₁ gs' hb hv => ?_) (fun s₁ hp h' hk => ?_)
    · obtain ⟨m', N', X', Sn, _, hkap⟩ := hv
      have hb₁ : AllBare s₁.gens := by rw [Sn.gens]; exact bare_set st.bare hgs rfl
      exact (hkap s₁ (st.same.trans X') N' hb₁ (Sn.os.trans st.os)).elim
    · obtain ⟨_, Sn, X'⟩ := hp
      have hg₁ : s₁.gens[g]? = some .running := by rw [Sn.gens]; exact setGen_self hgs
      intro htk
      refine hQ _ ⟨fun b o hb e => hk b o (X'.moved st.same.stays b o hb e), GenOnlyQ.of ((GenOnly.setGen s g .running).trans ?_) (setGen_self hg₁) rfl, Sn.drawn, Sn.os, htk⟩
      rw [← Sn.gens]; exact GenOnly.setGen s₁ g .finished
  self := fun i s Q E st hQ => wpAny_pyIter_gen (let ⟨o, nm, qn, ho, r⟩ := hI; ⟨o, nm, qn, st.same.same I o hIL hIm ho, r⟩ : s.heap.IsGen I g) hQ

theorem Wd.but {h h' : Heap} (W : Wd prog w base fr H h) {wr : List Addr} (k : ∀ b o, b ∉ wr → h.get? b = some o → h'.get? b = some o) (hb : ∀ b ∈ wr, base.get? b = none) (hH : ∀ b ∈ wr, H b = none) (hf : ∀ b ∈ wr, ∀ p ∈ fr, p.1.locals ≠ b) :
    Wd prog w base fr H h' where
  stays := fun b o e => k b o (fun q => by rw [hb b q] at e; cases e) (W.stays b o e)
  lim := W.lim
  frs := fun p hp => let F := W.frs p hp; ⟨F.kind, F.frame, F.ns.at fun o e => k _ o (fun q => hf _ q p hp rfl) e, F.fresh, F.out, F.low⟩
  nd := W.nd
  led := fun a d e => let ⟨n, o, ho, hd⟩ := W.led a d e; ⟨n, o, k _ _ (fun q => by rw [hH a q] at e; cases e) ho, hd⟩
theorem Wd.add {h : Heap} (W : Wd prog w base fr H h) {a : Addr} {d : Desc} {o : Obj} (hb : base.get? a = none) (hm : (a == sysModules) = false) (hf : ∀ p ∈ fr, p.1.locals ≠ a) (ho : h.get? a = some o) (hd : d.Of prog w o) : Wd prog w base fr (upd H a d) h where
  stays := W.stays
  lim := W.lim
  frs := fun p hp => let F := W.frs p hp; ⟨F.kind, F.frame, F.ns, F.fresh, by rw [upd_ne _ _ (hf p hp)]; exact F.out, F.low⟩
  nd := W.nd
  led := fun b e hb' => by
    by_cases q : b = a
    · subst q; rw [upd_self] at hb'; cases hb'; exact ⟨⟨hm, hb⟩, o, ho, hd⟩
    · rw [upd_ne _ _ q] at hb'; exact W.led b e hb'

/-- list(generator) -/
theorem list_gen {Q : Value → Shared → Prop} (hfix : os.fix = none) (hh : A.handled = none) (hroom : A.depth < recursionLimit) (Z : Sta K base) (F : KA K) (hK : nsIn K mainGlobals "list" = some none) (S : St prog w base os fr H s)
    (R : Rep w.params H ρ σ) (hp : ρ p = some .self) (hv : v ∈ σ.ns) (hz : (σ.so v).length ≤ 1000) (T : Told σ v l) (hl : l.length ≤ 1000)
    (hI : s.heap.IsGen I g) (hgs : s.gens[g]? = some (.fresh (.func dCwo.body (dCwo.env L)))) (hN : s.heap.Ns L (fm dCwo.scope.names [some (.ref p), some (.int v tv), none, none, none])) (hb : base.get? L = none) (hlw : (L == sysModules) = false)
    (hHL : H L = none) (hfL : ∀ q ∈ fr, q.1.locals ≠ L) (hIL : I ≠ L) (hIm : (I == sysModules) = false)
    (q : ∀ b us s', H b = none → St prog w base os fr (upd H b (.li us)) s' → IntsAre us l → Q (.ref b) s') : wpAny (model prog w) A (call (.type "list") [.ref I]) Q E s := by
  obtain ⟨sA, aU, G⟩ := rd_of (h₀ := s.heap) S.wd hHL R hp hv
  refine call_list_gen (walks_gen (prog := prog) (w := w) (A := A.in1.in1) (o₀ := os.os) (l := l) hh hroom Z S.wd.stays hI hIL hIm hN.lt) (fun i s' st => ?_) ?_ (fun b hb => List.mem_range.mp hb) (List.mem_range.mpr (let ⟨o, _, _, ho, _⟩ := hI; Heap.lt_size ho)) (fun s' acc' c' hm hS' hacc => ?_) (by rw [sizeLine_eq]; omega)
  · exact (let ⟨o, nm, qn, ho, r⟩ := hI; ⟨o, nm, qn, st.same.same I o hIL hIm ho, r⟩ : s'.heap.IsGen I g).typeIs
  · refine ⟨.refl S.wd.stays, S.bare, S.os.1, _, _, hgs, hN, fun s'' X N B O => ⟨rfl, ?_⟩⟩
    exact seg_body Z F hK hh hb hlw G T hz O X (raw_st Z.lim (.refl X.stays) scCwo.kind rfl rfl N hb hlw B ⟨O, fun g d e => by cases e; exact ⟨rfl, rfl⟩⟩)
  · have W₁ : Wd prog w base fr H s'.heap := S.wd.but (wr := s.heap.objs.size :: wrS base L) (fun b o hb e => hm.heap b o hb (Heap.get?_push_of_some _ e)) (fun b hb' => ?_) (fun b hb' => ?_) (fun b hb' p hp => ?_)
    · refine q _ acc'.toList s' S.wd.freshH ⟨W₁.add S.wd.fresh S.wd.low (fun p hp => Nat.ne_of_lt (S.wd.frLt hp)) hS' ⟨c', by rw [Array.toArray_toList]⟩, ?_, ?_⟩ (intsAre_of (by rw [Array.length_toList]; exact hacc.1) fun j v hv => ?_)
      · exact hm.gens.bare S.bare
      · exact ⟨hm.os.trans S.os.1, fun g d e => by rw [hfix] at e; cases e⟩
      · exact hacc.2 j v (by rw [← Array.getElem?_toList]; exact hv)
    · rcases List.mem_cons.mp hb' with rfl | hb'
      · exact S.wd.fresh
      · rcases wrS_mem hb' with rfl | ⟨rfl, z⟩
        · exact hb
        · exact z
    · rcases List.mem_cons.mp hb' with rfl | hb'
      · exact S.wd.freshH
      · rcases wrS_mem hb' with rfl | ⟨rfl, z⟩
        · exact hHL
        · cases q : H sysModules with
          | none => rfl
          | some d => exact absurd (S.nm q) (by decide)
    · rcases List.mem_cons.mp hb' with rfl | hb'
      · exact Nat.ne_of_lt (S.wd.frLt hp)
      · rcases wrS_mem hb' with rfl | ⟨rfl, z⟩
        · exact hfL p hp
        · exact beq_eq_false_iff_ne.mp (S.wd.frs p hp).low

/-- neighbors_cw_order(v) gives a generator that has not begun -/
theorem cwo_call {Q : Value → Shared → Prop} (hfix : os.fix = none) (S : St prog w base os fr H s) (Z : Sta K base) (hroom : A.depth < recursionLimit) (hD : dCwo.In K)
    (q : ∀ I g L s', St prog w base os fr H s' → s'.heap.IsGen I g → s'.gens[g]? = some (.fresh (.func dCwo.body (dCwo.env L))) → s'.heap.Ns L (fm dCwo.scope.names [some (.ref p), some (.int v tv), none, none, none]) → base.get? L = none →
      (L == sysModules) = false → H L = none → (∀ q ∈ fr, q.1.locals ≠ L) → I ≠ L → (I == sysModules) = false → Q (.ref I) s') :
    wpAny (model prog w) A (call (.ref dCwo.addr) [.ref p, .int v tv]) Q E s := by
  obtain ⟨⟨oc, od, osl, doc, pm, an, ct, ho⟩, hcd⟩ := hD
  have C := scCwo
  refine wpAny_call (codeAny_call_generator (fd := fnX dCwo.name dCwo.qual dCwo.params dCwo.body dCwo.scope dCwo.cl dCwo.dV dCwo.kV doc pm an dCwo.cdv ct) (body := dCwo.body) hroom (S.kin Z _ _ ho) rfl rfl rfl rfl (codeRec_of (S.kin Z) hcd) ?_)
  have hbind : bindArgs (fnX dCwo.name dCwo.qual dCwo.params dCwo.body dCwo.scope dCwo.cl dCwo.dV dCwo.kV doc pm an dCwo.cdv ct) ⟨[.ref p, .int v tv], []⟩ = pure [(("self" : Str), .ref p), (("v" : Str), .int v tv)] := rfl
  rw [hbind]
  refine wpAny_pure ?_
  refine wpAny_newFunctionEnv (show ∀ x ∈ dCwo.scope.names, x.2 ≠ .cell by decide +kernel) (bind_names C rfl rfl) (fun h' hns hsb => ⟨(S.lim Z).fresh _ hsb, ?_⟩) C.kind
  have kp : ∀ b o, s.heap.get? b = some o → h'.get? b = some o := fun b o e => hsb.extBut b o (Nat.ne_of_lt (Heap.lt_size e)) (Heap.get?_push_of_some _ e)
  rw [fm_binds (ns := dCwo.scope.names) 3 C.nd rfl] at hns
  have hlt := hns.lt
  have lowI : sysModules < h'.objs.size := Nat.lt_trans (modules_low (S.lim Z)) (by have := hlt; exact this)
  refine q h'.objs.size s.gens.size s.heap.objs.size _ ⟨S.wd.keeps fun b o e => Heap.get?_push_of_some _ (kp b o e), S.bare.push rfl, S.os.1, fun g d e => by rw [hfix] at e; cases e⟩ ⟨_, _, _, Heap.get?_push_size _ rfl, rfl, rfl, rfl⟩ (Array.getElem?_push_size ..) (hns.push _) S.wd.fresh S.wd.low S.wd.freshH (fun q hq => Nat.ne_of_lt (S.wd.frLt hq)) (Nat.ne_of_gt hlt) (beq_eq_false_iff_ne.mpr (Nat.ne_of_gt lowI))
end
end Mine

end

section
open PySem PySem.W PyProof.Rows PySem.Calls
set_option Elab.async false
set_option maxRecDepth 100000
set_option linter.unusedVariables false
namespace Mine

/-- an activation that is no collection's last act -/
def notFin : Code → Bool
  | .builtin id _ => id != "lifetime.gc.finalise"
  | _ => true
structure NoFin (Γ : Ctx) : Prop where
  code : notFin Γ.code = true
  below : ∀ x ∈ Γ.below, notFin x.1 = true
theorem NoFin.enter {Γ : Ctx} (h : NoFin Γ) {c : Code} (hc : notFin c = true) (hd : Option Value) (p : Pos) : NoFin (Γ.enter c hd p) :=
  ⟨hc, fun x hx => by rcases List.mem_cons.mp hx with rfl | hx; exact h.code; exact h.below x hx⟩
theorem NoFin.goto {Γ : Ctx} (h : NoFin Γ) {c : Code} (hc : notFin c = true) : NoFin (Γ.goto c) := ⟨hc, h.below⟩

def wpN {α : Type} (M : Model) (A : Around) (t : Sem α) (Q : α → Shared → Prop) (E : Value → Shared → Prop) (s : Shared) : Prop :=
  ∀ Γ p, Γ.In A → NoFin Γ → Sem.wp M Γ t (fun a _ s' => Q a s') (fun e _ s' => E e s') p s
def codeN (M : Model) (A : Around) (c : Code) (R : Result → Shared → Prop) (s : Shared) : Prop :=
  ∀ Γ p, Γ.code = c → Γ.Below A → NoFin Γ → wpCode M Γ R p s

section
variable {α β : Type} {M : Model} {A : Around} {E : Value → Shared → Prop} {s : Shared}
theorem n_any {t : Sem α} {Q : α → Shared → Prop} (h : wpAny M A t Q E s) : wpN M A t Q E s := fun Γ p hΓ _ => h Γ p hΓ
theorem n_codeAny {c : Code} {R : Result → Shared → Prop} (h : codeAny M A c R s) : codeN M A c R s := fun Γ p hc hΓ _ => h Γ p hc hΓ
theorem n_pure {a : α} {Q : α → Shared → Prop} (h : Q a s) : wpN M A (pure a) Q E s := fun _ _ _ _ => h
theorem n_mono {t : Sem α} {Q Q' : α → Shared → Prop} {E' : Value → Shared → Prop} (h : wpN M A t Q E s) (hQ : ∀ a s, Q a s → Q' a s) (hE : ∀ e s, E e s → E' e s) : wpN M A t Q' E' s :=
  fun Γ p hΓ hN => Sem.wp_mono M Γ t (fun a _ s => hQ a s) (fun e _ s => hE e s) p s (h Γ p hΓ hN)
theorem n_bind {m : Sem α} {f : α → Sem β} {Q : β → Shared → Prop} (h : wpN M A m (fun a s' => wpN M A (f a) Q E s') E s) : wpN M A (m >>= f) Q E s := fun Γ p hΓ hN => by
  rw [Sem.wp_bind']
  exact Sem.wp_mono M Γ m (fun a p' s' h' => h' Γ p' hΓ hN) (fun _ _ _ h' => h') p s (h Γ p hΓ hN)
theorem n_binda {m : Sem α} {f : α → Sem β} {Q : β → Shared → Prop} (h : wpAny M A m (fun a s' => wpN M A (f a) Q E s') E s) : wpN M A (m >>= f) Q E s := n_bind (n_any h)
theorem n_onRaise {m : Sem α} {k : Value → Sem Unit} {Q : α → Shared → Prop} (h : wpN M A m Q (fun e s' => wpAny M A (k e) (fun _ s'' => E e s'') E s') s) : wpN M A (m.onRaise k) Q E s := fun Γ p hΓ hN => by
  rw [Sem.wp_onRaise]
  exact Sem.wp_mono M Γ m (fun _ _ _ h' => h') (fun e p' s' h' => h' Γ p' hΓ) p s (h Γ p hΓ hN)
theorem n_attempt {m : Sem α} {Q : Except Value α → Shared → Prop} (h : wpN M A m (fun a => Q (.ok a)) (fun e => Q (.error e)) s) : wpN M A m.attempt Q E s := fun Γ p hΓ hN => by
  rw [Sem.wp_attempt]; exact h Γ p hΓ hN
theorem n_holding {vs : List Value} {m : Sem α} {Q : α → Shared → Prop} (h : wpN M A m Q E s) : wpN M A (holding vs m) Q E s := fun Γ p hΓ hN => by rw [Sem.wp_holding]; exact h Γ p hΓ hN
theorem n_operate {vs : List Value} {m : Sem Value} {Q : Value → Shared → Prop} (h : wpN M A m Q E s) : wpN M A (operate vs m) Q E s := fun Γ p hΓ hN => by rw [Sem.wp_operate]; exact h Γ p hΓ hN
theorem n_codeMono {c : Code} {R R' : Result → Shared → Prop} (h : codeN M A c R s) (hR : ∀ r s, R r s → R' r s) : codeN M A c R' s := fun Γ p hc hΓ hN => wpCode_mono hR (h Γ p hc hΓ hN)
theorem n_run {c : Code} {h : Option Value} {Q : Flow → Shared → Prop} (hf : notFin c = true)
    (hc : codeN M (A.mark h) c (fun r s' => match r with | .ok f => Q f s' | .error e => E e s') s) (hnb : h ≠ some byPass := by intro x; cases x) : wpN M A (run c h) Q E s :=
  fun Γ p hΓ hN => by rw [Sem.wp_run]; exact hc _ p rfl (hΓ.enter c h p hnb) (hN.enter hf h p)
theorem n_runValue {c : Code} {Q : Value → Shared → Prop} (hf : notFin c = true)
    (hc : codeN M A c (fun r s' => match r with | .ok (.ret v) => Q v s' | .ok _ => False | .error e => E e s') s) : wpN M A (runValue c) Q E s :=
  fun Γ p hΓ hN => by rw [Sem.wp_runValue]; exact hc _ p rfl (hΓ.enter c none p (by intro x; cases x)) (hN.enter hf none p)
theorem n_call {f : Value} {pos : List Value} {kw : List (Str × Value)} {Q : Value → Shared → Prop}
    (hc : codeN M A (.call f ⟨pos, kw⟩) (fun r s' => match r with | .ok (.ret v) => Q v s' | .ok _ => False | .error e => E e s') s) : wpN M A (call f pos kw) Q E s := n_runValue rfl hc
theorem n_tree {c : Code} {R : Result → Shared → Prop} (hf : notFin c = true)
    (h : wpN M (A.under c) (M.den c) (fun fin s' => match fin with | .done f => R (.ok f) s' | .again c' => c'.quiet = true ∧ notFin c' = true ∧ codeN M A c' R s') (fun e s' => R (.error e) s') s) : codeN M A c R s := fun Γ p hc hΓ hN => by
  rw [wpCode_iff_wp, hc]
  refine Sem.wp_mono M Γ _ (fun fin p' s' h' => ?_) (fun _ _ _ h' => h') p s (h Γ p (hc ▸ hΓ.in) hN)
  cases fin with
  | done f => exact h'
  | again c' => exact ⟨h'.1, h'.2.2 (Γ.goto c') p' rfl (hΓ.goto c') (hN.goto h'.2.1)⟩
end
end Mine

end

section
open PySem PySem.W PyProof.Rows PySem.Calls
set_option Elab.async false
set_option maxRecDepth 100000
set_option linter.unusedVariables false
namespace Mine

abbrev No : Value → Shared → Prop := fun _ _ => False
section
variable {α β : Type} {M : Model} {A : Around} {E : Value → Shared → Prop} {s : Shared} {env : Env}
theorem n_no {m : Sem α} {k : Value → Sem Unit} {Q : α → Shared → Prop} (h : wpN M A m Q No s) : wpN M A (m.onRaise k) Q E s := n_onRaise (n_mono h (fun _ _ q => q) fun _ _ z => z.elim)
theorem n_elim {m : Sem α} {Q : α → Shared → Prop} (h : wpN M A m Q No s) : wpN M A m Q E s := n_mono h (fun _ _ q => q) fun _ _ z => z.elim
theorem n_execs_nil {Q : Flow → Shared → Prop} (h : Q .next s) : wpN M A (execs [] env) Q E s := n_any (wpAny_execs_nil h)
theorem n_execs_cons {st rest} {Q : Flow → Shared → Prop}
    (h : wpN M A (exec st env) (fun f s' => match f with | .next => wpN M A (execs rest env) Q E s' | f => Q f s') E s) :
    wpN M A (execs (st :: rest) env) Q E s := fun Γ p hΓ hN => by
  rw [execs_cons, Sem.wp_bind']
  refine Sem.wp_mono M Γ _ (fun f p' s' h' => ?_) (fun _ _ _ h' => h') _ _ (h Γ p hΓ hN)
  cases f <;> first | exact h' Γ p' hΓ hN | exact h'
/-- the first statement in every context, the others where no collection ends -/
theorem n_cons_any {st rest} {Q : Flow → Shared → Prop}
    (h : wpAny M A (exec st env) (fun f s' => match f with | .next => wpN M A (execs rest env) Q E s' | f => Q f s') E s) :
    wpN M A (execs (st :: rest) env) Q E s := n_execs_cons (n_any h)
theorem n_Assign_Name {x pos' value pos} {Q : Flow → Shared → Prop}
    (h : wpN M A (eval value env) (fun v s₁ => wpAny M A (storeName env x v) (fun _ => Q .next) E s₁) E s)
    (hs : swapsWith value (some (.Name x pos')) pos.line env = pure false := by rfl) :
    wpN M A (exec (.Assign [.Name x pos'] value pos) env) Q E s := fun Γ p hΓ hN => by
  simp only [exec_Assign_Name env x pos' value pos hs, Sem.wp_bind', Sem.wp_cmd_standAt, Sem.wp_bindName, Sem.wp_pure']
  exact Sem.wp_mono M Γ _ (fun v _ s₁ h₁ => h₁ Γ _ hΓ) (fun _ _ _ h' => h') _ _ (h Γ _ hΓ hN)
theorem n_Return_some {e pos} {Q : Flow → Shared → Prop} (h : wpN M A (eval e env) (fun v => Q (.ret v)) E s) :
    wpN M A (exec (.Return (some e) pos) env) Q E s := fun Γ p hΓ hN => by
  simp only [exec_Return_some, Sem.wp_bind', Sem.wp_cmd_standAt, Sem.wp_pure']; exact h Γ _ hΓ hN
theorem n_If {test body orelse pos} {Q : Flow → Shared → Prop}
    (h : wpN M A (isTrue test env (eval test env))
      (fun b s₂ => if b then wpN M A (execs body env) Q E s₂ else wpN M A (execs orelse env) Q E s₂) E s) :
    wpN M A (exec (.If test body orelse pos) env) Q E s := fun Γ p hΓ hN => by
  simp only [exec_If, Sem.wp_bind', Sem.wp_cmd_standAt]
  refine Sem.wp_mono M Γ _ (fun b p₂ s₂ h₂ => ?_) (fun _ _ _ h' => h') _ _ (h Γ _ hΓ hN)
  cases b <;> exact h₂ Γ p₂ hΓ hN
theorem n_isTrue_Compare1 {l op r pos whole} {Q : Bool → Shared → Prop}
    (h : wpN M A (eval l env) (fun a s₁ => wpAny M A (eval r env) (fun b s₂ => wpAny M A (compareOp op a b)
      (fun c s₃ => wpAny M A (truthy c) Q E s₃) E s₂) E s₁) E s)
    (hm : behindInMarks op r = false := by with_unfolding_all rfl) : wpN M A (isTrue (.Compare l [op] [r] pos) env whole) Q E s := fun Γ p hΓ hN => by
  simp only [isTrue_Compare1, markedBehindIn_of_false hm, Sem.wp_bind', Sem.wp_holding, Sem.wp_cmd_standAt, Sem.wp_operate]
  exact Sem.wp_mono M Γ _ (fun a p₁ s₁ h₁ => Sem.wp_mono M Γ _ (fun b _ s₂ h₂ => Sem.wp_mono M Γ _ (fun c p₃ s₃ h₃ => h₃ Γ p₃ hΓ)
    (fun _ _ _ h' => h') _ _ (h₂ Γ _ hΓ)) (fun _ _ _ h' => h') _ _ (h₁ Γ p₁ hΓ)) (fun _ _ _ h' => h') _ _ (h Γ p hΓ hN)
theorem n_isTrue_Not {x : PySem.Expr} {pos : Pos} {whole : Sem Value} {Q : Bool → Shared → Prop} (h : wpN M A (isTrue x env (eval x env)) (fun b s₁ => Q (!b) s₁) E s) :
    wpN M A (isTrue (.UnaryOp .Not x pos) env whole) Q E s := by
  rw [arm_isTrue_UnaryOp]
  exact n_bind (n_mono h (fun b s₁ h₁ => n_pure h₁) fun _ _ x => x)
theorem n_callWith {P : Heap → Prop} {pos : Pos} {f : Value} {first : List Value} {args : List (Bool × Sem Value)} {keywords : List (Option Str × Sem Value)} {Q : Value → Shared → Prop} (hplain : (args.any (·.1) || keywords.any (·.1.isNone)) = false)
    (hk : ∀ h, P h → ∃ k, (k = Keeper.frame ∨ k = Keeper.machine ∨ k = Keeper.boundFrame) ∧ Looks M h (keeperOf f) k)
    (h : wpAny M A (evalArgs f true args keywords) (fun a s₁ => P s₁.heap ∧ wpN M A (call f (first ++ a.pos) a.kw) Q E s₁) E s) : wpN M A (callWith pos f first args keywords) Q E s := by
  unfold callWith
  refine n_binda (wpAny_holding (wpAny_mono h (fun a s₁ h₁ => n_binda (wpAny_standAt ?_)) fun _ _ x => x))
  obtain ⟨k, hk', L⟩ := hk _ h₁.1
  simp only [hplain]
  refine n_binda (L.here ?_)
  have tail : ∀ {t : Sem Value}, wpN M A t Q E s₁ → wpN M A (t >>= fun r => holding [r] point >>= fun _ => pure r) Q E s₁ :=
    fun ht => n_bind (n_mono ht (fun r s₂ hr => n_any (wpAny_bind (wpAny_holding (wpAny_point (wpAny_pure hr))))) fun _ _ x => x)
  have marked (mk : Value) : wpN M A (callMarked mk f (first ++ a.pos) a.kw) Q E s₁ := by
    unfold callMarked
    intro Γ p hΓ hN
    rw [Sem.wp_keep]
    exact h₁.2 Γ p hΓ hN
  rcases hk' with rfl | rfl | rfl <;> dsimp only <;> first | exact tail h₁.2 | (split <;> first | exact tail h₁.2 | exact tail (marked _))
theorem n_cw {P : Heap → Prop} {pos : Pos} {f : Value} {first : List Value} {es : List PySem.Expr} {ks : List Keyword} {Q : Value → Shared → Prop} (hp : es.all plainE = true) (hk : ks.all (·.arg.isSome) = true)
    (hf : ∀ h, P h → ∃ k, (k = Keeper.frame ∨ k = Keeper.machine ∨ k = Keeper.boundFrame) ∧ Looks M h (keeperOf f) k)
    (h : evL M A E env es (fun vs s₁ => evL M A E env (ks.map (·.value)) (fun us s₂ => P s₂.heap ∧ wpN M A (call f (first ++ vs) ((kwNames ks).zip us)) Q E s₂) s₁) s) :
    wpN M A (callWith pos f first (backTo pos (starEach es env)) (backToKw pos (keywordEach ks env))) Q E s :=
  n_callWith (by rw [star_none hp, kw_none hk]; rfl) hf (evalArgs_evL hp hk h)
theorem n_cwK {K : Frag} {pos : Pos} {f : Value} {first : List Value} {es : List PySem.Expr} {ks : List Keyword} {Q : Value → Shared → Prop} (hf : keepIn K f = true) (hp : es.all plainE = true) (hk : ks.all (·.arg.isSome) = true)
    (h : evL M A E env es (fun vs s₁ => evL M A E env (ks.map (·.value)) (fun us s₂ => K.In s₂.heap ∧ wpN M A (call f (first ++ vs) ((kwNames ks).zip us)) Q E s₂) s₁) s) :
    wpN M A (callWith pos f first (backTo pos (starEach es env)) (backToKw pos (keywordEach ks env))) Q E s := n_cw hp hk (keeps_K hf) h
theorem n_ev_call {x : Str} {np pos : Pos} {es : List PySem.Expr} {ks : List Keyword} {Q : Value → Shared → Prop}
    (h : wpAny M A (eval (.Name x np) env) (fun f s₁ => wpN M A (callWith pos f [] (backTo pos (starEach es env)) (backToKw pos (keywordEach ks env))) Q E s₁) E s) :
    wpN M A (eval (.Call (.Name x np) es ks pos) env) Q E s := by
  show wpN M A (do callWith pos (← eval (.Name x np) env) [] (backTo pos (starEach es env)) (backToKw pos (keywordEach ks env))) Q E s
  exact n_binda h
theorem n_runOwn {c : Code} {h : Option Value} {Q : Flow → Shared → Prop} (hf : notFin c = true)
    (hc : codeN M (A.mark h) c (fun r s' => match r with | .ok f => Q f s' | .error e => False) s) (hnb : h ≠ some byPass := by intro x; cases x) :
    wpN M A (runOwn c env h) Q E s := by
  unfold runOwn
  exact n_no (n_run hf (n_codeMono hc fun r s' q => by cases r <;> exact q) hnb)
theorem n_For {target iter body orelse pos} {Q : Flow → Shared → Prop}
    (h : wpAny M A (eval iter env) (fun x s₁ => wpAny M A (pyIter x) (fun it s₂ =>
      codeN M A (.forLoop target it body orelse env) (fun r s' => match r with | .ok f => Q f s' | .error e => False) s₂) E s₁) E s)
    (hs : ∀ x, foldedSetIterable iter env x = pure x := by intro _; rfl) :
    wpN M A (exec (.For target iter body orelse pos) env) Q E s := by
  rw [exec_For]
  exact n_binda (wpAny_standAt (n_binda (wpAny_mono h (fun x s₁ h₁ => n_binda (wpAny_of_eq (hs x) (n_binda (wpAny_standAt (n_binda (wpAny_holding
    (wpAny_mono h₁ (fun it s₂ h₂ => n_runOwn rfl h₂) fun _ _ h' => h'))))))) fun _ _ h' => h')))
end
section
variable {prog : Program} {w : World} {A : Around} {E : Value → Shared → Prop} {R : Result → Shared → Prop} {s : Shared}
theorem n_func {body env} (h : wpN (model prog w) (A.deeper env) (execs body env) (fun f s' => R (.ok (.ret (match f with | .ret v => v | _ => .none))) s') No s) :
    codeN (model prog w) A (.func body env) R s := by
  refine n_tree rfl ?_
  show wpN _ (A.deeper env) (do point; match ← (execs body env).onRaise (leaving env) with | .ret v => ret v | _ => ret .none) _ _ s
  refine n_binda (wpAny_point (n_bind (n_no (n_mono h (fun f s' h' => ?_) fun _ _ h' => h'))))
  cases f <;> exact n_pure h'
theorem n_call_function {a : Addr} {args : Args} {o : Obj} {fd : FuncData} {body : List Stmt} (hroom : A.depth < recursionLimit)
    (ho : s.heap.get? a = some o)
    (hd' : o.data = .func fd) (hco : fd.scope.isCoroutine = false) (hgen : fd.scope.isGenerator = false) (hbody : fd.body = .stmts body) (hcd : s.heap.CodeRec fd.code fd.qualname)
    (h : wpAny (model prog w) A.in1 (bindArgs fd args) (fun binds s₁ =>
      wpAny (model prog w) A.in1 (newFunctionEnv fd.scope fd.globals fd.closure binds (fd.qualname ++ ".<locals>.") (some a) fd.code none fd.builtins)
        (fun env s₂ => s₂.heap.NoLimit ∧ codeN (model prog w) A (.func body env) R s₂) (fun e s' => R (.error e) s') s₁) (fun e s' => R (.error e) s') s) :
    codeN (model prog w) A (.call (.ref a) args) R s := by
  refine n_tree rfl ?_
  show wpN _ A.in1 (callAny (.ref a) args) _ _ s
  simp only [callAny]
  refine n_binda (wpAny_load ho ?_)
  obtain ⟨c, oc, vs, tq, hc, hoc, hdc, hq⟩ := hcd
  simp only [hd', callFunction, hco, hgen, hbody, hc]
  rw [hc] at h
  refine n_binda (m := field (.ref c) 1) (wpAny_field hoc hdc hq (n_binda (wpAny_pure ?_)))
  exact n_binda (wpAny_mono h (fun binds s₁ h₁ => n_binda (wpAny_mono h₁ (fun env s₂ h₂ => n_binda (wpAny_enterFrame h₂.1 hroom
    (n_pure ⟨rfl, rfl, h₂.2⟩))) fun _ _ h' => h')) fun _ _ h' => h')
theorem n_builtin {id : String} {args : Args} {b : Builtin} (hf : id ≠ "lifetime.gc.finalise") (hb : entryFor table id = some b)
    (h : wpN (model prog w) (A.under (.builtin id args)) (b args)
      (fun fin s' => match fin with | .done f => R (.ok f) s' | .again c' => c'.quiet = true ∧ notFin c' = true ∧ codeN (model prog w) A c' R s') (fun e s' => R (.error e) s') s) :
    codeN (model prog w) A (.builtin id args) R s := by
  refine n_tree (bne_iff_ne.mpr hf) ?_
  show wpN _ _ (match entryFor table id with | some b => b args | none => unsupported ((withoutEnding? id "#data").getD id)) _ _ s
  rw [hb]; exact h
theorem n_call_builtin {id : String} {args : Args} {b : Builtin} (hf : id ≠ "lifetime.gc.finalise") (hq : plainId id = true) (hb : entryFor table id = some b)
    (h : wpAny (model prog w) A.in1 (checkBuiltinCall id args) (fun _ s₁ => wpN (model prog w) A.in1 (b args)
      (fun fin s' => match fin with | .done f => R (.ok f) s' | .again c' => c'.quiet = true ∧ notFin c' = true ∧ codeN (model prog w) A c' R s') (fun e s' => R (.error e) s') s₁)
      (fun e s' => R (.error e) s') s) : codeN (model prog w) A (.call (.builtin id) args) R s := by
  refine n_tree rfl ?_
  show wpN _ A.in1 (do checkBuiltinCall id args; again (.builtin id args)) _ _ s
  refine n_binda (wpAny_mono h (fun _ s₁ h₁ => n_pure (And.intro (plainId_quiet hq args) (And.intro (bne_iff_ne.mpr hf) (n_tree (bne_iff_ne.mpr hf) ?_)))) fun _ _ h' => h')
  show wpN _ _ (match entryFor table id with | some b => b args | none => unsupported ((withoutEnding? id "#data").getD id)) _ _ s₁
  rw [hb, Around.under_plainId hq args]; exact h₁
theorem n_forLoop {target it body orelse env} (I : Nat → Shared → Prop)
    (turn : ∀ n s, I n s → wpAny (model prog w) A (pyNext it) (fun r s₁ => match r with
      | none => wpN (model prog w) A (execs orelse env) (fun f s₃ => R (.ok f) s₃) No s₁
      | some v => wpAny (model prog w) A (assign target env v) (fun _ s₂ => wpN (model prog w) A (execs body env) (fun f s₃ => match f with
          | .next | .cont => ∃ m, m < n ∧ I m s₃
          | .brk => R (.ok .next) s₃
          | .ret v => R (.ok (.ret v)) s₃) No s₂) No s₁) No s)
    (n : Nat) (h : I n s) (ht : ∀ v, letOwnedTupleGo target it v = pure () := by intro _; rfl) : codeN (model prog w) A (.forLoop target it body orelse env) R s := by
  induction n using Nat.strongRecOn generalizing s with
  | ind n ih =>
  refine n_tree rfl ?_
  show wpN _ _ ((forTurn target it body orelse env).onRaise (fun x => do noteFrame x env; theTreesLotGoes x)) _ _ s
  refine n_no ?_
  simp only [forTurn]
  refine n_binda (wpAny_standAt (n_binda (wpAny_onRaise (wpAny_mono (turn n s h) (fun r s₁ h₁ => ?_) fun _ _ h' => h'.elim))))
  cases r with
  | none =>
    refine n_pure ⟨rfl, rfl, n_tree rfl ?_⟩
    show wpN _ _ (do return Fin.done (← (execs orelse env).onRaise (fun x => do noteFrame x env; theTreesLotGoes x))) _ _ s₁
    exact n_bind (n_no (n_mono h₁ (fun f s' h' => n_pure h') fun _ _ h' => h'))
  | some v =>
    refine n_binda (wpAny_of_eq (ht v) ?_)
    refine n_binda (wpAny_mono h₁ (fun _ s₂ h₂ => n_bind (n_mono h₂ (fun f s₃ h₃ => ?_) fun _ _ h' => h')) fun _ _ h' => h')
    cases f with
    | next => obtain ⟨m, hm, hI⟩ := h₃; exact n_pure ⟨rfl, rfl, ih m hm hI⟩
    | cont => obtain ⟨m, hm, hI⟩ := h₃; exact n_pure ⟨rfl, rfl, ih m hm hI⟩
    | brk => exact n_pure h₃
    | ret v => exact n_pure h₃
end
end Mine

end

section
open PySem PySem.W PyProof.Rows PySem.Calls
set_option Elab.async false
set_option maxRecDepth 100000
set_option linter.unusedVariables false
namespace Mine

section
variable {α : Type} {M : Model} {A : Around} {E : Value → Shared → Prop} {s : Shared}
theorem n_stack {Q : List (Code × Pos) → Shared → Prop} (h : ∀ l, (∀ x ∈ l, notFin x.1 = true) → Q l s) : wpN M A stack Q E s := fun Γ p hΓ hN =>
  h ((Γ.code, p) :: Γ.below) fun x hx => by rcases List.mem_cons.mp hx with rfl | hx; exact hN.code; exact hN.below x hx
end

/-- what the written part tells of the picture's own dict -/
structure KJ (K : Frag) : Prop where
  thr : nsIn K cStatics "_thread.count" = some none
  dcls : (clsIn K peA).isSome = true
  hd : hasDictIn K peA = true
  pg : findIn K (.ref peA) "__getattribute__" = some (some (.builtin "object.__getattribute__"))
  ph : findIn K (.ref peA) "__getattr__" = some none
  gd : findIn K (.ref peA) "__dict__" = some (some (.ref 548))
  gg : specialIn K (.ref 548) "__get__" = some (some (.builtin "getset_descriptor.__get__"))
  gt : takesIn K (.ref 548) = some true
  gty : typeIn K (.ref 548) = some (.type "getset_descriptor")
  gr : (recIn K 548 "getset_descriptor").map (fun l => (l.drop 1, l.head?.any fun v => match v with | .str _ _ => true | _ => false)) = some ([.ref 547, .builtin "function.__dict__", .builtin "function.__dict__#set"], true)
  gm : mroIn K peA (.ref 547) = some true
  sm : mroIn K peA (.type "staticmethod") = some false
  cm : mroIn K peA (.type "classmethod") = some false

theorem entry_fd : entryFor table "function.__dict__" = some Builtin.«function.__dict__» := entryFor_of_tree (by kernel_rfl)

section
variable {prog : Program} {w : World} {K : Frag} {base : Heap} {os : Os} {A : Around} {E : Value → Shared → Prop} {fr : Frs} {H : Led} {s : Shared} {p dx : Addr} {es : List DictEntry} {m : Nat}

theorem n_hand {Q : Option Addr → Shared → Prop} (J : KJ K) (S : St prog w base os fr H s) (Z : Sta K base) (h1 : H p = some (.raw (instObj peA dx))) (h2 : H dx = some (.raw (dictS false es m)))
    (h : ∀ s', St prog w base os fr (upd H dx (.raw (dictS true es m))) s' → Q (some dx) s') : wpN (model prog w) A (instanceDictHandedOut p) Q E s := by
  have I := pic_inst S h1 h2
  have X := S.kin Z
  have hx := I.at_
  have hd : s.heap.get? dx = some (dictS false es m) := I.dict
  obtain ⟨cd, hcd, hcd2⟩ := any_some J.hd
  have L := looks_clsIn (M := model prog w) X hcd
  have hnd : es.length = es.length := rfl
  have last : wpAny (model prog w) A (update dx fun o => if o.slots.isEmpty then { o with slots := #[none] } else o) (fun _ s' => wpN (model prog w) A (pure (some dx)) Q E s') E s := by
    exact wpAny_update hd (n_pure (h _ ⟨S.wd.set (Heap.SameBut.update ..) h2 (Heap.get?_update_self _ hd rfl) rfl, S.bare, S.os⟩))
  unfold instanceDictHandedOut instanceDict
  refine n_binda (wpAny_bind (wpAny_loadPart hx ?_))
  dsimp only [instObj]
  refine wpAny_bind (L.here ?_)
  rw [hcd2]
  refine wpAny_pure ?_
  dsimp only
  refine n_binda (wpAny_loadPart hx ?_)
  dsimp only [instObj]
  refine n_bind (n_mono (Q := fun r s' => s' = s ∧ r = none) (E := fun _ _ => False) ?_ (fun r s' q => ?_) fun _ _ z => z.elim)
  · refine n_binda (wpAny_load hd ?_)
    dsimp only
    split
    all_goals try (dsimp only)
    all_goals
      first
      | (split
         · exact n_pure ⟨rfl, rfl⟩
         · refine n_bind (n_stack fun l hl => ?_)
           split
           · rename_i mode gone heq
             obtain ⟨⟨c, q⟩, hx, e⟩ := List.exists_of_findSome?_eq_some heq
             have := hl _ hx
             dsimp only at this e
             split at e
             · simp [notFin] at this
             · cases e
           · refine n_binda ((looks_nsIn X J.thr).here ?_)
             exact n_pure ⟨rfl, rfl⟩)
  · obtain ⟨rfl, rfl⟩ := q
    exact n_binda last
end
end Mine

end

section
open PySem PySem.W PyProof.Rows PySem.Calls PySem.Builtin.Getset_descriptor
set_option Elab.async false
set_option maxRecDepth 100000
set_option linter.unusedVariables false
namespace Mine

section
variable {prog : Program} {w : World} {K : Frag} {base : Heap} {os : Os} {A : Around} {E : Value → Shared → Prop} {fr : Frs} {H : Led} {s : Shared} {p dx x C : Addr} {es : List DictEntry} {m : Nat} {ox : Obj} {od : Option Obj} {name : Str} {expr : Bool}

theorem n_get_bind {Q : Value → Shared → Prop} {g a : Value} (X : K.In s.heap) (I : InstAt s.heap x ox C od) (hga : findIn K (.ref C) "__getattribute__" = some (some (.builtin "object.__getattribute__")))
    (hf : findObj K C od name = some (.bind g a)) (hk : findIn K (.ref C) "__getattr__" = some none)
    (h : wpN (model prog w) A.in1 (call g [a, .ref x, .ref C]) (fun v s' => handedIn v = true ∧ Q v s') No { s with toks := s.toks + 1 }) :
    wpN (model prog w) A (getAttr (.ref x) name expr) Q E s := by
  obtain ⟨hh, gg, d, t, os⟩ := s
  have L0 := I.type (M := model prog w)
  have L1 := looks_findIn (M := model prog w) X hga
  unfold getAttr getAttrBy
  refine n_binda (wpAny_mkText (n_holding (n_binda (L0.at (n_binda (L1.at ?_))))))
  show wpN _ _ (getAttrEveryday _ _ _) _ _ _
  refine n_bind (n_no (n_runValue rfl (n_builtin (by decide) F.plainObj_entry_getattr_hooked ?_)))
  have L1 := looks_find (M := model prog w) X I hf
  have L2 := looks_findIn (M := model prog w) X hk
  refine n_binda (wpAny_pure (n_binda (L0.at (n_binda (L1.at (n_binda (L2.at ?_)))))))
  show wpN _ _ (holding [a] (call g [a, .ref x, .ref C]) >>= ret) _ _ _
  refine n_bind (n_holding (n_mono h (fun v s' z => n_pure ?_) fun _ _ z => z))
  show wpN _ _ (handedOut v) _ _ _
  rw [handedOut_of z.1]; exact n_pure z.2

theorem n_getset {R : Result → Shared → Prop} {id : String} {d C₀ : Addr} {tp : Value} (X : K.In s.heap) (I : InstAt s.heap x ox C od) (hty : typeIn K (.ref d) = some (.type "getset_descriptor"))
    (hr : (recIn K d "getset_descriptor").map (fun l => (l.drop 1, l.head?.any fun v => match v with | .str _ _ => true | _ => false)) = some ([.ref C₀, .builtin id, .builtin (id ++ "#set")], true)) (hm : mroIn K C (.ref C₀) = some true) (hid : id ≠ "lifetime.gc.finalise")
    (hq : (Code.builtin id ⟨[.ref x], []⟩).quiet = true)
    (h : codeN (model prog w) A (.builtin id ⟨[.ref x], []⟩) R s) : codeN (model prog w) A (.call (.builtin "getset_descriptor.__get__") ⟨[.ref d, .ref x, tp], []⟩) R s := by
  obtain ⟨l, hl, e⟩ := Option.map_eq_some_iff.mp hr
  obtain ⟨e1, e2⟩ := Prod.mk.inj e
  obtain ⟨n, tk, rfl⟩ : ∃ n tk, l = [.str n tk, .ref C₀, .builtin id, .builtin (id ++ "#set")] := by
    cases l with
    | nil => cases e2
    | cons v r =>
      simp only [List.drop_succ_cons, List.drop_zero] at e1
      subst e1
      cases v <;> first | exact ⟨_, _, rfl⟩ | cases e2
  obtain ⟨dd, sl, ho⟩ := rec_of X hl
  obtain ⟨o, ho', hc⟩ := Option.map_eq_some_iff.mp hty
  obtain ⟨hh, g, dr, t, os⟩ := s
  have L0 := I.type (M := model prog w)
  have L1 := looks_mroIn (M := model prog w) X hm
  refine n_call_builtin (by decide) KF.slot_gs.plain KF.entry_gs (KF.slot_gs.check _ _ _ _ _ _ _ _ ⟨_, X _ _ ho', hc⟩ (KF.args_gs _ _ _) ?_)
  unfold Builtin.«getset_descriptor.__get__» descrGet
  rw [dga_obj]
  refine n_binda (wpAny_pure ?_)
  unfold descrGetter
  dsimp only
  have l0 : Looks (model prog w) hh (field (.ref d) 0) (.str n tk) := looks_field ho 0 rfl
  have l1 : Looks (model prog w) hh (field (.ref d) 1) (.ref C₀) := looks_field ho 1 rfl
  have l2 : Looks (model prog w) hh (field (.ref d) 2) (.builtin id) := looks_field ho 2 rfl
  refine n_binda ?_
  unfold descrCheckInstance descrNameAndClass isInstance
  repeat lk
  refine n_binda (l2.here ?_)
  dsimp only
  refine n_binda (wpAny_rule ?_)
  unfold descrItself
  dsimp only
  refine n_binda (wpAny_bind (wpAny_fieldsOf ho rfl (wpAny_pure ?_)))
  refine n_pure ⟨hq, bne_iff_ne.mpr hid, ?_⟩
  exact h


theorem n_fdict {R : Result → Shared → Prop} (J : KJ K) (S : St prog w base os fr H s) (Z : Sta K base) (h1 : H p = some (.raw (instObj peA dx))) (h2 : H dx = some (.raw (dictS false es m)))
    (h : ∀ s', St prog w base os fr (upd H dx (.raw (dictS true es m))) s' → R (.ok (.ret (.ref dx))) s') : codeN (model prog w) A (.builtin "function.__dict__" ⟨[.ref p], []⟩) R s := by
  have X := S.kin Z
  have I := pic_inst S h1 h2
  have L0 := I.type (M := model prog w)
  have L1 := looks_mroIn (M := model prog w) X J.sm
  have L2 := looks_mroIn (M := model prog w) X J.cm
  refine n_builtin (by decide) entry_fd ?_
  unfold Builtin.«function.__dict__»
  dsimp only
  refine n_binda (m := _ <||> _) ?_
  unfold isInstance
  refine wpAny_bind (wpAny_bind (L0.here (L1.here ?_)))
  refine wpAny_bind (L0.here (L2.here ?_))
  rw [if_neg (by decide)]
  refine n_bind (n_hand J S Z h1 h2 fun s' S' => ?_)
  exact n_pure (h s' S')
end
end Mine

end

section
open PySem PySem.W PyProof.Rows PySem.Calls PySem.Builtin.Getset_descriptor
set_option Elab.async false
set_option maxRecDepth 100000
set_option linter.unusedVariables false
namespace Mine

section
variable {prog : Program} {w : World} {K : Frag} {base : Heap} {os : Os} {A : Around} {E : Value → Shared → Prop} {fr : Frs} {H : Led} {s : Shared} {p dx x C : Addr} {es : List DictEntry} {m : Nat}

theorem en_keys {t : Nat → Tok} {g n sx px : Addr} (b : Bool) : KeysOf (strKind prog w) (picEs w.params t g n sx px b).toArray := by
  intro e he
  have he' : e ∈ picEs w.params t g n sx px b := by simpa using he
  have go : ∀ x (t : Tok) (v : Value), ∃ k, (strKind prog w).is k (en w.params x t v).key = true ∧ (en w.params x t v).hash = (strKind prog w).hash k := fun x t v => ⟨x, strKind_is _ _ _ _, rfl⟩
  unfold picEs at he'
  cases b <;> simp at he' <;> rcases he' with rfl | rfl | rfl | rfl | rfl | rfl <;> exact go _ _ _
theorem mk_typeIs (S : St prog w base os fr H s) {b : Bool} (e : H dx = some (.raw (dictS b es m))) : s.TypeIs (.ref dx) "dict" := by
  obtain ⟨o, ho, q⟩ := S.get e
  cases (show o = _ from q)
  exact ⟨_, ho, rfl⟩
theorem md_mk {b : Bool} {name : Str} {id : String} {pl : Sem Bool} {Q : Value × List Value → Shared → Prop} (slot : Slot "dict" name id) (ty : typeOf (.builtin id) = pure (.type "method_descriptor"))
    (S : St prog w base os fr H s) (e : H dx = some (.raw (dictS b es m))) (h : Q (.builtin id, [.ref dx]) s) : wpAny (model prog w) A (getMethod (.ref dx) name pl) Q E s := by
  obtain ⟨o, ho, q⟩ := S.get e
  cases (show o = _ from q)
  exact getMethod_builtin (mk_typeIs S e) PySem.F.plainAttrs_dict slot ty (fun b q => by cases q; exact ⟨_, ho, rfl⟩) h
theorem mk_none {k : Str} (hn : es.all (fun e => !e.key.isStr k) = true) : (es.toArray.findIdx? fun e => (strKind prog w).is k e.key) = none := by
  rw [Array.findIdx?_eq_none_iff]
  intro e he
  have := List.all_eq_true.mp hn e (by simpa using he)
  simp only [Bool.not_eq_true'] at this
  rw [← this]
  exact (strKind prog w).strs k k 0 _ (strKind_is _ _ _ _)
/-- d.get(k, v) where the key is not there -/
theorem mk_get {b : Bool} {k : Str} {t : Tok} {v : Value} {Q : Value → Shared → Prop} (S : St prog w base os fr H s) (e : H dx = some (.raw (dictS b es m))) (hk : KeysOf (strKind prog w) es.toArray) (hn : es.all (fun e => !e.key.isStr k) = true)
    (h : ∀ s', St prog w base os fr H s' → Q v s') : wpAny (model prog w) A (call (.builtin "dict.get") [.ref dx, .str k t, v]) Q E s := by
  obtain ⟨o, ho, q⟩ := S.get e
  cases (show o = _ from q)
  refine wpAny_call_entry PySem.F.slot_dict_get (mk_typeIs S e) PySem.F.entry_dict_get ?_ (PySem.F.args_dict_get_3 _ _ _)
  show wpAny _ _ (dictGet dx (.str k t) >>= _) _ _ s
  refine wpAny_bind ?_
  unfold dictGet
  refine wpAny_holding (wpAny_bind ((strKind prog w).pyHash (strKind_is _ _ _ _) (wpAny_bind (wpAny_dictFind_of (s := { s with toks := s.toks + 1 }) (strKind_is _ _ _ _) ho rfl hk ?_))))
  rw [mk_none hn]
  refine wpAny_pure ?_
  show wpAny _ _ (Builtin.Dict.missed dx (.str k t) >>= _) _ _ _
  exact wpAny_bind (wpAny_missed_other (S.nm e) (wpAny_pure ⟨_, rfl, h _ (S.toks _)⟩))
/-- d[k] = v where the key is not there -/
theorem mk_set {b : Bool} {k : Str} {t : Tok} {v : Value} {Q : Unit → Shared → Prop} (S : St prog w base os fr H s) (e : H dx = some (.raw (dictS b es m))) (hk : KeysOf (strKind prog w) es.toArray) (hn : es.all (fun e => !e.key.isStr k) = true) (hz : es.length ≤ 1000)
    (h : ∀ s', St prog w base os fr (upd H dx (.raw (dictS b (es ++ [en w.params k t v]) (m + 1)))) s' → Q () s') : wpAny (model prog w) A (setItem (.ref dx) (.str k t) v) Q E s := by
  obtain ⟨o, ho, q⟩ := S.get e
  cases (show o = _ from q)
  unfold setItem
  refine wpAny_holding ?_
  refine wpAny_bind (wpAny_sequenceKey (mk_typeIs S e) (by decide) ?_)
  refine wpAny_bind (wpAny_callSpecial?_slot (name := Str.ofString "__setitem__") (mk_typeIs S e) PySem.F.slot_dict_setitem
    (wpAny_call_entry PySem.F.slot_dict_setitem (mk_typeIs S e) PySem.F.entry_dict_setitem ?_ (by first | exact args_dict_setitem _ _ _ | rfl)))
  show wpAny _ _ (Builtin.Dict.notOrdered "__setitem__" ⟨[.ref dx, .str k t, v], []⟩ >>= _) _ _ s
  refine wpAny_bind (wpAny_notOrdered_dict (mk_typeIs S e) ?_)
  show wpAny _ _ (dictSet dx (.str k t) v >>= _) _ _ s
  refine wpAny_bind ?_
  unfold dictSet
  refine wpAny_holding (wpAny_bind ((strKind prog w).pyHash (strKind_is _ _ _ _) ?_))
  unfold dictSetHashed
  refine wpAny_holding (wpAny_bind (wpAny_dictFind_of (s := { s with toks := s.toks + 1 }) (strKind_is _ _ _ _) ho rfl hk ?_))
  rw [mk_none hn]
  refine wpAny_bind (wpAny_rule (wpAny_updateDictKeys (s := { s with toks := s.toks + 1 }) ho rfl (wpAny_pure ⟨_, rfl, wpAny_pure (h _ ⟨(S.wd.set (Heap.SameBut.update ..) e (Heap.get?_update_self _ ho rfl) ?_), S.bare, S.os⟩)⟩) (by rw [sizeLine_eq]; simpa using (show es.length ≤ 16777216 by omega))))
  show Obj.mapDictKeys _ (dictS b es m) = _
  simp [Obj.mapDictKeys, dictS, en]
  rfl
end
end Mine

end

section
open PySem PySem.W PyProof.Rows PySem.Calls
set_option Elab.async false
set_option maxRecDepth 100000
set_option linter.unusedVariables false
namespace Mine

section
variable {M : Model} {A : Around} {E : Value → Shared → Prop} {s : Shared} {env : Env}
theorem n_Try {body : List Stmt} {hs : List ExceptHandler} {pos : Pos} {Q : Flow → Shared → Prop} (h : wpN M A (execs body env) Q No s) : wpN M A (exec (.Try body hs [] [] pos) env) Q E s := by
  rw [arm_exec_Try]
  refine n_binda (wpAny_standAt ?_)
  unfold tryStmt
  simp only [List.isEmpty_nil, if_true]
  refine n_bind (n_attempt (n_mono h (fun f s₁ q => ?_) fun _ _ z => z.elim))
  cases f with
  | next => exact n_execs_nil q
  | cont => exact n_pure q
  | brk => exact n_pure q
  | ret v => exact n_pure q
theorem n_Attribute_name {n attr : Str} {np pos : Pos} {Q : Value → Shared → Prop} (h : wpAny M A (eval (.Name n np) env) (fun o s₁ => wpN M A (getAttr o attr true) Q E s₁) E s) :
    wpN M A (eval (.Attribute (.Name n np) attr pos) env) Q E s := by
  rw [arm_eval_Attribute]
  have e1 : attributeBase (.Name n np) attr env (eval (.Name n np) env) = eval (.Name n np) env := rfl
  rw [e1]
  refine n_binda (wpAny_mono h (fun o s₁ h₁ => n_binda (wpAny_standAt (n_bind (n_holding (n_mono h₁ (fun r s₂ h₂ => ?_) fun _ _ y => y))))) fun _ _ y => y)
  have e2 : letTemporaryGo (.Name n np) o r = pure () := rfl
  rw [e2]
  exact n_binda (wpAny_pure (n_pure h₂))
theorem n_Subscript {value slice pos} {Q : Value → Shared → Prop}
    (h : wpN M A (eval value env) (fun o s₁ => wpAny M A (eval slice env) (fun i s₂ => wpN M A (subscriptTail value slice o i) Q E s₂) E s₁) E s) :
    wpN M A (eval (.Subscript value slice pos) env) Q E s := by
  rw [eval_Subscript]
  exact n_bind (n_mono h (fun o s₁ h₁ => n_binda (wpAny_holding (wpAny_mono h₁ (fun i s₂ h₂ => n_binda (wpAny_standAt h₂)) fun _ _ x => x))) fun _ _ x => x)
theorem n_mcall {o : PySem.Expr} {name : Str} {apos pos : Pos} {args : List PySem.Expr} {kws : List Keyword} {pl : Sem Bool} {Q : Value → Shared → Prop} {M : Model}
    (h : wpAny M A (eval o env) (fun ov s₁ => wpAny M A (getMethod ov name pl) (fun fx s₂ => wpN M A (callWith pos fx.1 fx.2 (backTo pos (starEach args env)) (backToKw pos (keywordEach kws env))) Q E s₂) E s₁) E s)
    (he : eval (.Call (.Attribute o name apos) args kws pos) env = (do
      let ov ← eval o env
      standAt apos.atName
      let (f, first) ← holding [ov] (getMethod ov name pl)
      callWith pos f first (backTo pos (starEach args env)) (backToKw pos (keywordEach kws env))) := by rfl) :
    wpN M A (eval (.Call (.Attribute o name apos) args kws pos) env) Q E s := by
  rw [he]
  exact n_binda (wpAny_mono h (fun ov s₁ h₁ => n_binda (wpAny_standAt (n_binda (wpAny_holding (wpAny_mono h₁ (fun fx s₂ h₂ => h₂) fun _ _ x => x))))) fun _ _ x => x)
end

section
variable {prog : Program} {w : World} {K : Frag} {base : Heap} {os : Os} {A : Around} {E : Value → Shared → Prop} {fr : Frs} {H : Led} {s : Shared} {p dx x C f : Addr} {ox : Obj} {od : Option Obj}
theorem n_special_fn {M : Model} {name : Str} {args : List Value} {Q : Option Value → Shared → Prop} (X : K.In s.heap) (I : InstAt s.heap x ox C od)
    (hs : findIn K (.ref C) name = some (some (.ref f))) (hf : typeIn K (.ref f) = some (.type "function")) (h : wpN M A (call (.ref f) (.ref x :: args)) (fun v => Q (some v)) E s) :
    wpN M A (callSpecial? (.ref x) name args) Q E s :=
  n_binda (wpAny_bind (I.type.here ((looks_findIn X hs).here (n_holding (n_binda ((bind_fn X _ hf).here (n_bind (n_mono h (fun _ _ z => n_pure z) fun _ _ z => z))))))))
theorem n_sub_K {value slice : PySem.Expr} {i : Value} {Q : Value → Shared → Prop} (X : K.In s.heap) (I : InstAt s.heap x ox C od) (hs : findIn K (.ref C) "__getitem__" = some (some (.ref f))) (hf : fnIn K f = true) (hfn : typeIn K (.ref f) = some (.type "function"))
    (h : wpN (model prog w) A.in1 (call (.ref f) [.ref x, i]) Q No s)
    (hsl : subscripted slice true (.ref x) i = runValue (.builtin "lifetime.subscript" ⟨[.ref x, i], []⟩) := by with_unfolding_all rfl) :
    wpN (model prog w) A (subscriptTail value slice (.ref x) i) Q E s := by
  unfold fnIn at hf
  split at hf
  · rename_i e
    unfold subscriptTail getitemInPython
    refine n_binda (wpAny_bind (wpAny_bind (I.type.here ((looks_findIn X hs).here ?_))))
    dsimp only
    refine wpAny_bind (wpAny_load (X _ _ e) (wpAny_pure ?_))
    dsimp only
    rw [hsl]
    refine n_bind (n_runValue rfl (n_builtin (by decide) entry_sub ?_))
    unfold Builtin.«lifetime.subscript»
    refine n_bind (n_special_fn X I hs hfn (n_elim (n_mono h (fun v s' z => ?_) fun _ _ z => z)))
    refine n_pure ?_
    show wpN (model prog w) A (letTemporaryGo value (.ref x) v >>= fun _ => pure v) Q E s'
    exact n_binda (wpAny_letTemporaryGo (n_pure z))
  · cases hf

abbrev NBody (prog : Program) (w : World) (A : Around) (D : Def) (L : Addr) (Q : Value → Shared → Prop) (s : Shared) : Prop :=
  wpN (model prog w) (A.deeper (D.env L)) (execs D.body (D.env L)) (fun fl s' => Q (retOf fl) s') No s
theorem n_call_bind {D : Def} {args : List Value} {kw : List (Str × Value)} {Q : Value → Shared → Prop} (S : St prog w base os fr H s) (Z : Sta K base) (hroom : A.depth < recursionLimit) (hD : D.In K)
    (hcell : ∀ x ∈ D.scope.names, x.2 ≠ .cell) (C : ScOk D.scope) (hco : D.scope.isCoroutine = false) (hgen : D.scope.isGenerator = false)
    (h : ∀ doc pm an ct, wpAny (model prog w) A.in1 (bindArgs (fnX D.name D.qual D.params D.body D.scope D.cl D.dV D.kV doc pm an D.cdv ct) ⟨args, kw⟩)
      (fun binds s₁ => ∃ H₁ n, St prog w base os fr H₁ s₁ ∧ binds.map (·.1) = (D.scope.names.map (·.1)).take binds.length ∧ (∀ x ∈ binds, D.scope.names.lookup x.1 = some .local) ∧
        ∀ L s₂, St prog w base os ((D.env L, fm D.scope.names (binds.map (fun p => some p.2) ++ List.replicate n none)) :: fr) H₁ s₂ → NBody prog w A D L Q s₂) No s) :
    wpN (model prog w) A (call (.ref D.addr) args kw) Q E s := by
  obtain ⟨⟨oc, od, osl, doc, pm, an, ct, ho⟩, hcd⟩ := hD
  refine n_call (n_call_function (fd := fnX D.name D.qual D.params D.body D.scope D.cl D.dV D.kV doc pm an D.cdv ct) (body := D.body) hroom (S.kin Z _ _ ho) rfl hco hgen rfl (codeRec_of (S.kin Z) hcd) ?_)
  refine wpAny_mono (h doc pm an ct) (fun binds s₁ h₁ => ?_) fun _ _ e => e.elim
  obtain ⟨H₁, n, S₁, hn, hl, k⟩ := h₁
  refine wpAny_newFunctionEnv hcell hl (fun h' hns hsb => ⟨(S₁.lim Z).fresh _ hsb, ?_⟩) C.kind
  have kp : ∀ b o, s₁.heap.get? b = some o → h'.get? b = some o := fun b o e => hsb.extBut b o (Nat.ne_of_lt (Heap.lt_size e)) (Heap.get?_push_of_some _ e)
  rw [fm_binds n C.nd hn] at hns
  have S₂ : St prog w base os ((D.env s₁.heap.objs.size, fm D.scope.names (binds.map (fun p => some p.2) ++ List.replicate n none)) :: fr) H₁ { s₁ with heap := h', toks := s₁.toks + binds.length } :=
    S₁.heap (S₁.wd.enter rfl C.kind rfl hns kp)
  refine n_func (n_mono (k _ _ S₂) (fun fl s' q => ?_) fun e s' q => q)
  cases fl <;> exact q
theorem n_call_plain {D : Def} {args : List Value} {kw : List (Str × Value)} {binds : List (Str × Value)} {n : Nat} {Q : Value → Shared → Prop} (S : St prog w base os fr H s) (Z : Sta K base) (hroom : A.depth < recursionLimit) (hD : D.In K)
    (hcell : ∀ x ∈ D.scope.names, x.2 ≠ .cell) (C : ScOk D.scope) (hco : D.scope.isCoroutine = false) (hgen : D.scope.isGenerator = false)
    (hb : ∀ doc pm an ct, bindArgs (fnX D.name D.qual D.params D.body D.scope D.cl D.dV D.kV doc pm an D.cdv ct) ⟨args, kw⟩ = pure binds)
    (hn : binds.map (·.1) = (D.scope.names.map (·.1)).take binds.length) (hl : (D.scope.names.take binds.length).all (fun p => match p.2 with | .local => true | _ => false) = true)
    (h : ∀ L s₂, St prog w base os ((D.env L, fm D.scope.names (binds.map (fun p => some p.2) ++ List.replicate n none)) :: fr) H s₂ → NBody prog w A D L Q s₂) :
    wpN (model prog w) A (call (.ref D.addr) args kw) Q E s :=
  n_call_bind S Z hroom hD hcell C hco hgen fun doc pm an ct => by rw [hb]; exact wpAny_pure ⟨H, n, S, hn, bind_names C hn hl, h⟩
theorem n_call_peek {D : Def} {args : List Value} {kw binds : List (Str × Value)} {n : Nat} {Q : Value → Shared → Prop} (S : St prog w base os fr H s) (Z : Sta K base) (hroom : A.depth < recursionLimit) (hD : D.In K)
    (hcell : ∀ x ∈ D.scope.names, x.2 ≠ .cell) (C : ScOk D.scope) (hco : D.scope.isCoroutine = false) (hgen : D.scope.isGenerator = false)
    (hb : ∀ S doc pm an ct, peek K S (bindArgs (fnX D.name D.qual D.params D.body D.scope D.cl D.dV D.kV doc pm an D.cdv ct) ⟨args, kw⟩) = some binds)
    (hn : binds.map (·.1) = (D.scope.names.map (·.1)).take binds.length) (hl : (D.scope.names.take binds.length).all (fun p => match p.2 with | .local => true | _ => false) = true)
    (h : ∀ L s₂, St prog w base os ((D.env L, fm D.scope.names (binds.map (fun p => some p.2) ++ List.replicate n none)) :: fr) H s₂ → NBody prog w A D L Q s₂) :
    wpN (model prog w) A (call (.ref D.addr) args kw) Q E s :=
  n_call_bind S Z hroom hD hcell C hco hgen fun doc pm an ct => kp_binds (S.kin Z) (fun S => hb S doc pm an ct) _ _ _ _ ⟨H, n, S, hn, bind_names C hn hl, h⟩
end
end Mine

end

section
open PySem PySem.W PyProof.Rows PySem.Calls
set_option Elab.async false
set_option maxRecDepth 100000
set_option linter.unusedVariables false
namespace Mine

def dCGet : Def := mkD 232 "__get__" "cached_property.__get__" (subAt 10 2) [] (.ref 225) .none
def dAdj : Def := mkD 577 "adj" "DiGraph.adj" (subAt 14 1) [] .none .none
def dGItem : Def := mkD 342 "__getitem__" "Graph.__getitem__" (subAt 12 11) [] .none .none
def dNext : Def := mkD 895 "next_face_half_edge" "PlanarEmbedding.next_face_half_edge" (subAt 16 14) [] .none .none
theorem scCGet : ScOk dCGet.scope := ScOk.of (by decide +kernel)
theorem scAdj : ScOk dAdj.scope := ScOk.of (by decide +kernel)
theorem scGItem : ScOk dGItem.scope := ScOk.of (by decide +kernel)
theorem scNext : ScOk dNext.scope := ScOk.of (by decide +kernel)

structure KL (prog : Program) (K : Frag) : Prop extends KI prog K where
  j : KJ K
  aAdj : findIn K (.ref peA) "adj" = some (some (.ref 579))
  gAdj : specialIn K (.ref 579) "__get__" = some (some (.ref 232))
  tAdj : takesIn K (.ref 579) = some false
  cget : dCGet.In K
  bcget : ∀ S doc pm an ct (p : Addr), peek K S (bindArgs (fnX dCGet.name dCGet.qual dCGet.params dCGet.body dCGet.scope dCGet.cl dCGet.dV dCGet.kV doc pm an dCGet.cdv ct) ⟨[.ref 579, .ref p, .ref peA], []⟩) =
    some [(("self" : Str), .ref 579), (("instance" : Str), .ref p), (("owner" : Str), .ref peA)]
  o579 : K.lookup 579 = some ⟨.ref 242, some 578, .plain, #[]⟩
  o578 : ∃ od t, K.lookup 578 = some od ∧ findObj K 242 (some od) "attrname" = some (.value (.str "adj" t)) ∧ findObj K 242 (some od) "func" = some (.value (.ref 577))
  ga242 : findIn K (.ref 242) "__getattribute__" = some (some (.builtin "object.__getattribute__"))
  gh242 : findIn K (.ref 242) "__getattr__" = some none
  f242 : findIn K (.ref 242) "func" = some none
  nf : ∃ nf, nsIn K mainGlobals "_NOT_FOUND" = some (some (.ref nf))
  adjFn : dAdj.In K
  adjKeep : keepIn K (.ref 577) = true
  gitem : findIn K (.ref peA) "__getitem__" = some (some (.ref 342))
  gitemF : fnIn K 342 = true
  gitemT : typeIn K (.ref 342) = some (.type "function")
  gitemD : dGItem.In K
  next : dNext.In K
  mNext : MethK K "next_face_half_edge" 895

section
variable {prog : Program} {w : World} {K : Frag} {base : Heap} {os : Os} {A : Around} {E : Value → Shared → Prop} {fr : Frs} {H : Led} {s : Shared} {env : Env} {vs : List (Option Value)} {p : Addr} {ρ : Rho} {σ : Sg} {pos np : Pos} {rest : List Stmt} {Q : Flow → Shared → Prop} {b : Bool} {e : PySem.Expr} {V : Value → Prop}

theorem z_if {test : PySem.Expr} {body orelse : List Stmt} (S : St prog w base os ((env, fm env.scope.names vs) :: fr) H s) (h : Tu prog w base os fr H env vs test b)
    (k : ∀ s', St prog w base os ((env, fm env.scope.names vs) :: fr) H s' → wpN (model prog w) A (execs (if b then body else orelse) env) (fun f s' => match f with | .next => wpN (model prog w) A (execs rest env) Q E s' | f => Q f s') E s') :
    wpN (model prog w) A (execs (.If test body orelse pos :: rest) env) Q E s :=
  n_execs_cons (n_If (n_any (h _ _ _ _ S fun s₁ S₁ => by have := k s₁ S₁; cases b <;> exact this)))
theorem z_asG {x : Str} {fr₀ : Frs} {H₀ : Led} (i : Nat) (S₀ : St prog w base os fr₀ H₀ s) (C : ScOk env.scope) (hi : env.scope.names[i]? = some (x, .local))
    (h : wpAny (model prog w) A (eval e env) (fun v s₁ => ∃ fr H vs vs', St prog w base os ((env, fm env.scope.names vs) :: fr) H s₁ ∧ vs.set i (some v) = vs' ∧ i < vs.length ∧ ∀ s₂, St prog w base os ((env, fm env.scope.names vs') :: fr) H s₂ → wpN (model prog w) A (execs rest env) Q E s₂) E s)
    (hs : swapsWith e (some (.Name x np)) pos.line env = pure false := by rfl) : wpN (model prog w) A (execs (.Assign [.Name x np] e pos :: rest) env) Q E s :=
  n_execs_cons (n_any (as_name C hi hs h))
theorem z_as {x : Str} (i : Nat) (S : St prog w base os ((env, fm env.scope.names vs) :: fr) H s) (C : ScOk env.scope) (hi : env.scope.names[i]? = some (x, .local)) (h : Pu prog w base os fr H env vs e V) (hl : i < vs.length)
    (k : ∀ v s', V v → St prog w base os ((env, fm env.scope.names (vs.set i (some v))) :: fr) H s' → wpN (model prog w) A (execs rest env) Q E s')
    (hs : swapsWith e (some (.Name x np)) pos.line env = pure false := by rfl) : wpN (model prog w) A (execs (.Assign [.Name x np] e pos :: rest) env) Q E s :=
  z_asG i S C hi (h _ _ _ _ S fun v s₁ hv S₁ => ⟨fr, H, vs, _, S₁, rfl, hl, fun s₂ S₂ => k v s₂ hv S₂⟩) hs
theorem z_asN {x : Str} {fr₀ : Frs} {H₀ : Led} (i : Nat) (S₀ : St prog w base os fr₀ H₀ s) (C : ScOk env.scope) (hi : env.scope.names[i]? = some (x, .local))
    (h : wpN (model prog w) A (eval e env) (fun v s₁ => ∃ fr H vs vs', St prog w base os ((env, fm env.scope.names vs) :: fr) H s₁ ∧ vs.set i (some v) = vs' ∧ i < vs.length ∧ ∀ s₂, St prog w base os ((env, fm env.scope.names vs') :: fr) H s₂ → wpN (model prog w) A (execs rest env) Q E s₂) E s)
    (hs : swapsWith e (some (.Name x np)) pos.line env = pure false := by rfl) : wpN (model prog w) A (execs (.Assign [.Name x np] e pos :: rest) env) Q E s :=
  n_execs_cons (n_Assign_Name (n_mono h (fun v s₁ ⟨_, _, _, _, S, e, l, k⟩ => st_local S C hi e l fun s' S' => k s' S') fun _ _ e => e) hs)
/-- what the written part's own cached property bears -/
theorem pu_cp {n attr : Str} {v : Value} (h1 : Pu prog w base os fr H env vs (.Name n np) (· = .ref 579)) (Z : Sta K base) (F : KL prog K) {od : Obj} (ho : K.lookup 578 = some od) (hf : findObj K 242 (some od) attr = some (.value v)) (hv : handedIn v = true) :
    Pu prog w base os fr H env vs (.Attribute (.Name n np) attr pos) (· = v) :=
  pu_attr h1 fun A E Q s S q => get_value (S.kin Z) (InstAt.of_K (S.kin Z) F.o579 ho) F.ga242 hf hv (q _ _ rfl (S.toks _))
theorem cmp_self {x y : Value} {a : Addr} (hx : x = .ref a) (hy : y = .ref a) (A : Around) (E : Value → Shared → Prop) (Q : Value → Shared → Prop) (s : Shared) (S : St prog w base os ((env, fm env.scope.names vs) :: fr) H s)
    (q : ∀ s', St prog w base os ((env, fm env.scope.names vs) :: fr) H s' → Q (.bool true) s') : wpAny (model prog w) A (compareOp .Is x y) Q E s := by
  subst hx; subst hy; exact wpAny_is_ref_self (q s S)

theorem adjFn_ok {Q : Value → Shared → Prop} (F : KL prog K) (Z : Sta K base) (S : St prog w base os fr H s) (hA : A.depth < recursionLimit) {dx : Addr} {b : Bool} {t : Nat → Tok} {g n sx px : Addr} {m : Nat}
    (h1 : H p = some (.raw (instObj peA dx))) (h2 : H dx = some (.raw (dictS b (picEs w.params t g n sx px false) m)))
    (h : ∀ s', St prog w base os fr H s' → Q (.ref sx) s') : wpAny (model prog w) A (call (.ref 577) [.ref p]) Q E s := by
  refine call_plain (D := dAdj) (n := 0) (binds := [("self", .ref p)]) S Z hA F.adjFn (by decide +kernel) scAdj rfl rfl (fun _ _ _ _ => rfl) rfl rfl fun L s₁ S₁ => ?_
  have C := scAdj
  replace S₁ : St prog w base os ((dAdj.env L, fm (dAdj.env L).scope.names [some (.ref p)]) :: fr) H s₁ := S₁
  rw [BodyOk]
  refine x_ret (V := (· = .ref sx)) S₁ (pu_attr (pu_v 0 C rfl rfl) fun A E Q s S q => get_value (S.kin Z) (pic_inst S h1 h2) (plainGet_of F.toKA.pg).1 (findObj_own F.toKA.hd F.toKA.s rfl rfl) rfl (q _ _ rfl (S.toks _))) fun v s₂ x S₂ => ?_
  subst x
  exact h _ S₂.popped

theorem cget_ok {Q : Value → Shared → Prop} (F : KL prog K) (Z : Sta K base) (S : St prog w base os fr H s) (hh : A.handled = none) (hA : A.depth + 5 < recursionLimit) (R : Rep w.params H ρ σ) (hp : ρ p = some .self) (ha : σ.adj = false) {sA : Addr} (hs : ρ sA = some .succ)
    (h : ∀ s' H', St prog w base os fr H' s' → Rep w.params H' ρ { σ with adj := true } → Keep (fun _ => False) H ρ H' ρ → Q (.ref sA) s') :
    wpN (model prog w) A (call (.ref 232) [.ref 579, .ref p, .ref peA]) Q E s := by
  obtain ⟨dx, t, g, n, sx, px, m, h1, h2, hx, q1, q2, q3, q4⟩ := R.pic hp
  obtain ⟨od, ta, ho, hat, hfu⟩ := F.o578
  obtain ⟨nf, hnf⟩ := F.nf
  cases R.inj _ _ _ hs q3
  rw [ha] at h2
  refine n_call_peek (D := dCGet) (n := 4) (binds := [("self", .ref 579), ("instance", .ref p), ("owner", .ref peA)]) S Z (by omega) F.cget (by decide +kernel) scCGet rfl rfl (fun S doc pm an ct => F.bcget S doc pm an ct p) rfl rfl fun L s₁ S₁ => ?_
  have C := scCGet
  replace S₁ : St prog w base os ((dCGet.env L, fm (dCGet.env L).scope.names [some (.ref 579), some (.ref p), some (.ref peA), none, none, none, none]) :: fr) H s₁ := S₁
  rw [NBody]
  refine z_if S₁ (tu_cmp (pu_v 1 C rfl rfl) pu_none fun x y hx hy => cmp_is (.ref p) x y hx hy) fun s₂ S₂ => ?_
  refine n_execs_nil ?_
  refine z_if S₂ (tu_cmp (pu_cp (pu_v 0 C rfl rfl) Z F ho hat rfl) pu_none fun x y hx hy => cmp_is (.str "adj" ta) x y hx hy) fun s₃ S₃ => ?_
  refine n_execs_nil ?_
  refine n_execs_cons (n_Try ?_)
  refine z_asN 3 S₃ C rfl (n_Attribute_name (Pu.go (pu_v 1 C rfl rfl) S₃ fun _ s₄ x S₄ => ?_))
  subst x
  refine n_get_bind (S₄.kin Z) (pic_inst S₄ h1 h2) F.j.pg (findObj_data F.j.dcls F.j.gd F.j.gg F.j.gt) F.j.ph ?_
  have S₄' := S₄.toks (s₄.toks + 1)
  refine n_call (n_getset (S₄'.kin Z) (pic_inst S₄' h1 h2) F.j.gty F.j.gr F.j.gm (by decide) (Code.quiet_builtin _ (by decide +kernel)) (n_fdict F.j S₄' Z h1 h2 fun s₅ S₅ => ?_))
  refine ⟨rfl, fr, _, _, _, S₅, rfl, by simp, fun s₆ S₆ => n_execs_nil ?_⟩
  replace S₆ : St prog w base os ((dCGet.env L, fm (dCGet.env L).scope.names [some (.ref 579), some (.ref p), some (.ref peA), some (.ref dx), none, none, none]) :: fr) (upd H dx (.raw (dictS true (picEs w.params t g n sA px false) m))) s₆ := S₆
  dsimp only
  refine n_any ?_
  have e2 : upd H dx (.raw (dictS true (picEs w.params t g n sA px false) m)) dx = some (.raw (dictS true (picEs w.params t g n sA px false) m)) := upd_self ..
  have ne : p ≠ dx := fun q => by rw [q, hx] at hp; cases hp
  have e1 : upd H dx (.raw (dictS true (picEs w.params t g n sA px false) m)) p = some (.raw (instObj peA dx)) := (upd_ne _ _ ne).trans h1
  refine x_asG 6 S₆ C rfl (mcall (Pu.go (pu_v 3 C rfl rfl) S₆ fun _ s₇ x S₇ => ?_))
  subst x
  refine md_mk PySem.F.slot_dict_get PySem.F.type_dict_get S₇ e2 (cwB rfl (Pu.go (pu_cp (pu_v 0 C rfl rfl) Z F ho hat rfl) S₇ fun _ s₈ x S₈ => ?_))
  subst x
  refine Pu.go (pu_g 11 Z C rfl rfl hnf) S₈ fun _ s₉ x S₉ => ?_
  subst x
  refine mk_get S₉ e2 (en_keys false) (by rfl) fun s₁₀ S₁₀ => ⟨fr, _, _, _, S₁₀, rfl, by simp, fun s₁₁ S₁₁ => ?_⟩
  replace S₁₁ : St prog w base os ((dCGet.env L, fm (dCGet.env L).scope.names [some (.ref 579), some (.ref p), some (.ref peA), some (.ref dx), none, none, some (.ref nf)]) :: fr) (upd H dx (.raw (dictS true (picEs w.params t g n sA px false) m))) s₁₁ := S₁₁
  refine x_if S₁₁ (tu_cmp (pu_v 6 C rfl rfl) (pu_g 11 Z C rfl rfl hnf) fun x y hx hy => cmp_self hx hy) fun s₁₂ S₁₂ => ?_
  refine x_asG 6 S₁₂ C rfl (mcall (Pu.go (pu_v 0 C rfl rfl) S₁₂ fun _ s₁₃ x S₁₃ => ?_))
  subst x
  refine method_usual (r := none) (S₁₃.kin Z) (InstAt.of_K (S₁₃.kin Z) F.o579 ho) F.ga242 F.gh242 F.f242 rfl (get_value (S₁₃.kin Z) (InstAt.of_K (S₁₃.kin Z) F.o579 ho) F.ga242 hfu rfl ?_)
  refine cwK F.adjKeep rfl rfl (Pu.go (pu_v 1 C rfl rfl) (S₁₃.toks _) fun _ s₁₄ x S₁₄ => ?_)
  subst x
  refine ⟨S₁₄.kin Z, adjFn_ok F Z S₁₄ (by show A.depth + 1 < _; omega) e1 e2 fun s₁₅ S₁₅ => ⟨fr, _, _, _, S₁₅, rfl, by simp, fun s₁₆ S₁₆ => ?_⟩⟩
  replace S₁₆ : St prog w base os ((dCGet.env L, fm (dCGet.env L).scope.names [some (.ref 579), some (.ref p), some (.ref peA), some (.ref dx), none, none, some (.ref sA)]) :: fr) (upd H dx (.raw (dictS true (picEs w.params t g n sA px false) m))) s₁₆ := S₁₆
  refine wpAny_execs_cons (wpAny_Try_except (wpAny_execs_cons (wpAny_Assign_Subscript (Pu.go (pu_v 6 C rfl rfl) S₁₆ fun _ s₁₇ x S₁₇ => Pu.go (pu_v 3 C rfl rfl) S₁₇ fun _ s₁₈ y S₁₈ => Pu.go (pu_cp (pu_v 0 C rfl rfl) Z F ho hat rfl) S₁₈ fun _ s₁₉ z S₁₉ => ?_))))
  subst x y z
  refine mk_set S₁₉ e2 (en_keys false) (by rfl) (by show 5 ≤ _; decide) fun s₂₀ S₂₀ => wpAny_execs_nil (wpAny_execs_nil (wpAny_execs_nil ?_))
  have eu : ∀ d d', upd (upd H dx d) dx d' = upd H dx d' := fun d d' => by funext b; unfold upd; split <;> rfl
  rw [eu] at S₂₀
  have R₂ : Rep w.params (upd H dx (.raw (dictS true (picEs w.params t g n sA px false ++ [en w.params "adj" ta (.ref sA)]) (m + 1)))) ρ { σ with adj := true } :=
    R.set hx (fun r' d hr h => by cases r' <;> first | exact h | exact absurd rfl hr) ⟨fun i => if i = 5 then ta else t i, g, n, sA, px, m + 1, rfl, q1, q2, q3, q4⟩
  refine x_ret S₂₀ (pu_v 6 C rfl rfl) fun v s₂₁ x S₂₁ => ?_
  subst x
  exact h _ _ S₂₁.popped R₂ (Keep.refl.set hx)
end
end Mine

end

section
open PySem PySem.W PyProof.Rows PySem.Calls
set_option Elab.async false
set_option maxRecDepth 100000
set_option linter.unusedVariables false
namespace Mine

section
variable {K : Frag} {C : Addr} {od : Obj} {name : Str} {a g v : Value}
theorem findObj_nd_own (hh : hasDictIn K C = true) (ha : findIn K (.ref C) name = some (some a)) (hg : specialIn K a "__get__" = some (some g)) (ht : takesIn K a = some false) (hl : lookIn name od = some (some v)) : findObj K C (some od) name = some (.value v) := by
  obtain ⟨cd, hc, hd⟩ := any_some hh
  unfold findObj
  have ho : W.ownOf cd (some od) name = some (some v) := by unfold W.ownOf; rw [if_pos hd]; exact hl
  rw [hc, Option.bind_some, ha, Option.bind_some]
  simp only [hg, Option.bind_some, ht, ho]
theorem findObj_nd_bind (hh : hasDictIn K C = true) (ha : findIn K (.ref C) name = some (some a)) (hg : specialIn K a "__get__" = some (some g)) (ht : takesIn K a = some false) (hc : copiedNames.contains name = false) (hl : lookIn name od = some none) : findObj K C (some od) name = some (.bind g a) := by
  obtain ⟨cd, hc', hd⟩ := any_some hh
  unfold findObj
  have ho : W.ownOf cd (some od) name = some none := by unfold W.ownOf; rw [if_pos hd]; exact hl
  rw [hc', Option.bind_some, ha, Option.bind_some]
  simp only [hg, Option.bind_some, ht, ho, hc, Bool.false_and, Bool.false_eq_true, if_false]
end

section
variable {prog : Program} {w : World} {K : Frag} {base : Heap} {os : Os} {A : Around} {E : Value → Shared → Prop} {fr : Frs} {H : Led} {s : Shared} {env : Env} {vs : List (Option Value)} {p : Addr} {ρ : Rho} {σ : Sg} {pos np : Pos}

/-- picture.adj -/
theorem n_adj {Q : Value → Shared → Prop} {expr : Bool} {sA : Addr} (F : KL prog K) (Z : Sta K base) (S : St prog w base os fr H s) (hh : A.handled = none) (hA : A.depth + 6 < recursionLimit) (R : Rep w.params H ρ σ) (hp : ρ p = some .self) (hs : ρ sA = some .succ)
    (h : ∀ s' H', St prog w base os fr H' s' → Rep w.params H' ρ { σ with adj := true } → Keep (fun _ => False) H ρ H' ρ → Q (.ref sA) s') :
    wpN (model prog w) A (getAttr (.ref p) "adj" expr) Q E s := by
  obtain ⟨dx, t, g, n, sx, px, m, h1, h2, hx, q1, q2, q3, q4⟩ := R.pic hp
  cases R.inj _ _ _ hs q3
  cases ha : σ.adj with
  | true =>
    have e : { σ with adj := true } = σ := by rw [← ha]
    rw [e] at h
    rw [ha] at h2
    exact n_any (get_value (S.kin Z) (pic_inst S h1 h2) (plainGet_of F.toKA.pg).1 (findObj_nd_own F.toKA.hd F.aAdj F.gAdj F.tAdj (by rfl)) rfl (h _ _ (S.toks _) R Keep.refl))
  | false =>
    have h2' := h2
    rw [ha] at h2'
    refine n_get_bind (S.kin Z) (pic_inst S h1 h2') F.j.pg (findObj_nd_bind F.toKA.hd F.aAdj F.gAdj F.tAdj rfl (by rfl)) F.j.ph ?_
    exact cget_ok F Z (S.toks _) hh (by show A.depth + 5 < _; omega) R hp ha hs fun s' H' S' R' k' => ⟨rfl, h s' H' S' R' k'⟩

/-- picture[u] -/
theorem gitem_ok {Q : Value → Shared → Prop} {u : Int} {tu : Tok} (F : KL prog K) (Z : Sta K base) (S : St prog w base os fr H s) (hh : A.handled = none) (hA : A.depth + 8 < recursionLimit) (R : Rep w.params H ρ σ) (hp : ρ p = some .self) (hu : u ∈ σ.ns)
    (h : ∀ aU s' H', ρ aU = some (.sd u) → St prog w base os fr H' s' → Rep w.params H' ρ { σ with adj := true } → Keep (fun _ => False) H ρ H' ρ → Q (.ref aU) s') :
    wpN (model prog w) A (call (.ref 342) [.ref p, .int u tu]) Q E s := by
  obtain ⟨gA, nA, sA, pA, B⟩ := R.picOf hp
  refine n_call_plain (D := dGItem) (n := 0) (binds := [("self", .ref p), ("n", .int u tu)]) S Z (by omega) F.gitemD (by decide +kernel) scGItem rfl rfl (fun _ _ _ _ => rfl) rfl rfl fun L s₁ S₁ => ?_
  have C := scGItem
  replace S₁ : St prog w base os ((dGItem.env L, fm (dGItem.env L).scope.names [some (.ref p), some (.int u tu)]) :: fr) H s₁ := S₁
  rw [NBody]
  refine n_execs_cons (n_Return_some (n_Subscript (n_Attribute_name (Pu.go (pu_v 0 C rfl rfl) S₁ fun _ s₂ x S₂ => ?_))))
  subst x
  refine n_adj F Z S₂ (by exact hh) (by show A.depth + 1 + 6 < _; omega) R hp B.succ fun s₃ H₃ S₃ R₃ k₃ => ?_
  refine Pu.go (pu_i 1 C rfl rfl) S₃ fun _ s₄ x S₄ => ?_
  obtain ⟨t₄, rfl⟩ := x
  obtain ⟨ks, es, hsA, rs⟩ := R₃.succ B.succ
  obtain ⟨aU, hv, hr⟩ := rs.find (show u ∈ ({ σ with adj := true } : Sg).ns from hu)
  exact n_any (di_sub S₄ hsA hv fun s₅ S₅ => h aU _ _ hr S₅.popped R₃ k₃)

/-- next_face_half_edge -/
theorem next_ok {Q : Value → Shared → Prop} {v u : Int} {tv tu : Tok} (F : KL prog K) (Z : Sta K base) (S : St prog w base os fr H s) (hh : A.handled = none) (hA : A.depth + 12 < recursionLimit) (R : Rep w.params H ρ σ) (hp : ρ p = some .self) (hu : u ∈ σ.ns) (hv : v ∈ σ.so u)
    (h : ∀ b s' H' t t', H' b = none → St prog w base os fr (upd H' b (.tu [.int u t, .int (σ.cc u v) t'])) s' → Rep w.params H' ρ { σ with adj := true } → Keep (fun _ => False) H ρ H' ρ → Q (.ref b) s') :
    wpN (model prog w) A (call (.ref 895) [.ref p, .int v tv, .int u tu]) Q E s := by
  refine n_call_plain (D := dNext) (n := 1) (binds := [("self", .ref p), ("v", .int v tv), ("w", .int u tu)]) S Z (by omega) F.next (by decide +kernel) scNext rfl rfl (fun _ _ _ _ => rfl) rfl rfl fun L s₁ S₁ => ?_
  have C := scNext
  replace S₁ : St prog w base os ((dNext.env L, fm (dNext.env L).scope.names [some (.ref p), some (.int v tv), some (.int u tu), none]) :: fr) H s₁ := S₁
  rw [NBody]
  refine z_asN 3 S₁ C rfl (n_Subscript (n_Subscript (n_Subscript (n_any (Pu.go (pu_v 0 C rfl rfl) S₁ fun _ s₂ x S₂ => ?_)))))
  subst x
  refine Pu.go (pu_i 2 C rfl rfl) S₂ fun _ s₃ x S₃ => ?_
  obtain ⟨t₃, rfl⟩ := x
  obtain ⟨dx, t, g, n, sx, px, m, h1, h2, hx, q1, q2, q3, q4⟩ := R.pic hp
  refine n_sub_K (S₃.kin Z) (pic_inst S₃ h1 h2) F.gitem F.gitemF F.gitemT ?_
  refine gitem_ok F Z S₃ (by exact hh) (by show A.depth + 1 + 8 < _; omega) R hp hu fun aU s₄ H₄ hr S₄ R₄ k₄ => ?_
  refine Pu.go (pu_i 1 C rfl rfl) S₄ fun _ s₅ x S₅ => ?_
  obtain ⟨t₅, rfl⟩ := x
  obtain ⟨kvs, ep, hU, rU⟩ := R₄.sd hr
  obtain ⟨aE, hvE, hrE⟩ := rU.find (show v ∈ ({ σ with adj := true } : Sg).so u from hv)
  refine n_any (di_sub S₅ hU hvE fun s₆ S₆ => ?_)
  refine Pu.go pu_str S₆ fun _ s₇ x S₇ => ?_
  obtain ⟨t₇, rfl⟩ := x
  obtain ⟨ke, hE, d1, d2, d3⟩ := R₄.ed hrE
  obtain ⟨t₈, hcc⟩ := d2
  refine n_any (ds_sub S₇ hE hcc fun s₈ S₈ => ⟨fr, _, _, _, S₈, rfl, by simp, fun s₉ S₉ => n_any ?_⟩)
  replace S₉ : St prog w base os ((dNext.env L, fm (dNext.env L).scope.names [some (.ref p), some (.int v tv), some (.int u tu), some (.int (σ.cc u v) t₈)]) :: fr) H₄ s₉ := S₉
  refine wpAny_execs_cons (wpAny_Return_some (ev_tuple (base := base) (os := os) rfl (Pu.go (pu_i 2 C rfl rfl) S₉ fun _ s₁₀ x S₁₀ => ?_)))
  obtain ⟨t₁₀, rfl⟩ := x
  refine Pu.go (pu_i 3 C rfl rfl) S₁₀ fun _ s₁₁ x S₁₁ => ?_
  obtain ⟨t₁₁, rfl⟩ := x
  exact ⟨by simp, _, _, S₁₁, fun b s' hb S' => h b s' H₄ _ _ hb S'.popped R₄ k₄⟩
end
end Mine

end

section
open PySem PySem.W PyProof.Rows PySem.Calls
set_option Elab.async false
set_option maxRecDepth 100000
set_option linter.unusedVariables false
namespace Mine

theorem ints_eq {vs : List Value} : ∀ {ns ms : List Int}, IntsAre vs ns → IntsAre vs ms → ns = ms := by
  intro ns ms h; induction h generalizing ms with
  | nil => intro h; cases h; rfl
  | cons n t _ ih => intro h; cases h with | cons _ _ h => rw [ih h]
theorem IntsAre.eraseI : ∀ {vs : List Value} {ns : List Int}, IntsAre vs ns → ∀ j, IntsAre (vs.eraseIdx j) (ns.eraseIdx j)
  | _, _, .nil, j => by simpa using IntsAre.nil
  | _, _, .cons n t h, 0 => by simpa using h
  | _, _, .cons n t h, j + 1 => by simpa using IntsAre.cons n t (IntsAre.eraseI h j)
theorem IntsAre.insertI {vs : List Value} {ns : List Int} (h : IntsAre vs ns) (j : Nat) (n : Int) (t : Tok) : IntsAre (vs.take j ++ .int n t :: vs.drop j) (ns.take j ++ n :: ns.drop j) :=
  (h.take j).append (.cons n t (h.drop j))
theorem eraseIdx_idxOf (l : List Int) (k : Int) : l.eraseIdx (l.idxOf k) = l.erase k := (List.erase_eq_eraseIdx_of_idxOf rfl).symm

section
variable {prog : Program} {w : World} {K : Frag} {base : Heap} {os : Os} {A : Around} {E : Value → Shared → Prop} {fr : Frs} {H : Led} {s : Shared} {env : Env} {vs : List (Option Value)} {a b p it l : Addr} {us ws : List Value} {ns ms : List Int}

theorem St.setLi (S : St prog w base os fr H s) {us : List Value} (e : H a = some (.li us)) {h' : Heap} {t : Nat} {o' : Obj} (ho : h'.get? a = some o') (hs : Heap.SameBut a s.heap h') {us' : List Value} (hd : (Desc.li us').Of prog w o') :
    St prog w base os fr (upd H a (.li us')) { s with heap := h', toks := t } := S.heap (S.wd.set hs e ho hd)
theorem St.updLi (S : St prog w base os fr H s) {us : List Value} (e : H a = some (.li us)) {f : Array Value → Array Value} {us' : List Value} (hf : f us.toArray = us'.toArray) {t : Nat} :
    St prog w base os fr (upd H a (.li us')) { s with heap := s.heap.update a (Obj.mapSeq f), toks := t } := by
  obtain ⟨n, ho⟩ := S.liO e
  refine S.setLi e (Heap.get?_update_self _ ho rfl) (Heap.SameBut.update ..) ⟨if us'.toArray.size == us.toArray.size then n else n + 1, ?_⟩
  simp only [Obj.mapSeq, hf]

theorem li_append {v : Value} {Q : Value → Shared → Prop} (S : St prog w base os fr H s) (e : H a = some (.li us)) (hz : us.length ≤ 1000)
    (q : ∀ s', St prog w base os fr (upd H a (.li (us ++ [v]))) s' → Q .none s') : wpAny (model prog w) A (call (.builtin "list.append") [.ref a, v]) Q E s := by
  obtain ⟨n, ho⟩ := S.liO e
  exact call_meets slot_list_append ⟨_, ho, rfl⟩ entry_list_append (args_list_append _ _) (PySem.AutoListH.list_append_list_val_0 a us.toArray n v (by rw [sizeLine_eq]; simp; omega)) ⟨ho, q _ (S.updLi e (by simp))⟩
theorem li_insert {v : Value} {k : Int} {u : Tok} {Q : Value → Shared → Prop} (S : St prog w base os fr H s) (e : H a = some (.li us)) (hz : us.length ≤ 1000) (h0 : 0 ≤ k) (h1 : k ≤ us.length)
    (q : ∀ s', St prog w base os fr (upd H a (.li (us.take k.toNat ++ v :: us.drop k.toNat))) s' → Q .none s') : wpAny (model prog w) A (call (.builtin "list.insert") [.ref a, .int k u, v]) Q E s := by
  obtain ⟨n, ho⟩ := S.liO e
  refine call_meets PySem.F.slot_list_insert ⟨_, ho, rfl⟩ PySem.F.entry_list_insert (PySem.F.args_list_insert_3 _ _ _) (PySem.AutoListH.list_insert_list_int_val_1 a us.toArray n k u v (by
    simp only [Bool.not_eq_true', Bool.not_eq_true, Bool.not_eq_false, Builtin.List.listFitsIndex]
    simp; omega) (by rw [sizeLine_eq]; simp; omega)) ⟨ho, q _ (S.updLi e ?_)⟩
  dsimp only
  rw [if_neg (by omega)]
  have : min k.toNat us.toArray.size = k.toNat := by simp; omega
  rw [this]
  rw [List.extract_toArray, List.extract_toArray, List.push_toArray, List.append_toArray]
  congr 1
  simp only [List.size_toArray]
  rw [List.extract_eq_take_drop, List.extract_eq_take_drop, List.append_assoc]
  simp [List.take_of_length_le]
theorem li_index {k : Int} {u : Tok} {Q : Value → Shared → Prop} (S : St prog w base os fr H s) (e : H a = some (.li us)) (hi : IntsAre us ns) (hz : us.length ≤ 1000) (hk : k ∈ ns)
    (q : ∀ s' t, St prog w base os fr H s' → Q (.int (ns.idxOf k : Nat) t) s') : wpAny (model prog w) A (call (.builtin "list.index") [.ref a, .int k u]) Q E s := by
  obtain ⟨n, ho⟩ := S.liO e
  have hj : ns.idxOf k < ns.length := List.idxOf_lt_length_iff.mpr hk
  have hlen := hi.length
  refine call_meets PySem.F.slot_list_index ⟨_, ho, rfl⟩ PySem.F.entry_list_index (PySem.F.args_list_index_2 _ _)
    (PySem.MeetsSeq.list_index a us.toArray n (.int k u) (isInt k) (fun y hy => eq_isInt k u hi y (by simpa using hy)) (ns.idxOf k) (by simpa [hlen] using hj) (by omega) ?_ ?_) ⟨ho, q _ _ (S.toks _)⟩
  · show isInt k us[ns.idxOf k] = true
    rw [isInt_at k hi _ (by omega) hj]
    simpa using List.getElem_idxOf hj
  · intro j hjs hlt
    show isInt k us[j] = false
    rw [isInt_at k hi j (by simpa using hjs) (by omega)]
    exact ne_of_lt_idxOf hlt _
theorem li_remove {k : Int} {u : Tok} {Q : Value → Shared → Prop} (S : St prog w base os fr H s) (e : H a = some (.li us)) (hi : IntsAre us ns) (hz : us.length ≤ 1000) (hk : k ∈ ns)
    (q : ∀ s' us', St prog w base os fr (upd H a (.li us')) s' → IntsAre us' (ns.erase k) → Q .none s') : wpAny (model prog w) A (call (.builtin "list.remove") [.ref a, .int k u]) Q E s := by
  obtain ⟨n, ho⟩ := S.liO e
  have hj : ns.idxOf k < ns.length := List.idxOf_lt_length_iff.mpr hk
  have hlen := hi.length
  have hI := IntsAre.eraseI hi (ns.idxOf k)
  rw [eraseIdx_idxOf] at hI
  refine call_meets PySem.F.slot_list_remove ⟨_, ho, rfl⟩ PySem.F.entry_list_remove (PySem.F.args_list_remove_2 _ _)
    (PySem.MeetsSeq.list_remove a us.toArray n (.int k u) (isInt k) (fun y hy => eq_isInt k u hi y (by simpa using hy)) (ns.idxOf k) (by simpa [hlen] using hj) ?_ ?_ (by rw [sizeLine_eq]; simp; omega)) ⟨ho, q _ _ (S.updLi e (us' := us.eraseIdx (ns.idxOf k)) ?_ (t := s.toks)) hI⟩
  · show isInt k us[ns.idxOf k] = true
    rw [isInt_at k hi _ (by omega) hj]
    simpa using List.getElem_idxOf hj
  · intro j hjs hlt
    show isInt k us[j] = false
    rw [isInt_at k hi j (by simpa using hjs) (by omega)]
    exact ne_of_lt_idxOf hlt _
  · simp
theorem li_len {Q : Value → Shared → Prop} (S : St prog w base os fr H s) (e : H a = some (.li us)) (hz : us.length ≤ 1000) (q : ∀ s' t, St prog w base os fr H s' → Q (.int us.length t) s') : wpAny (model prog w) A (call (.builtin "len") [.ref a]) Q E s :=
  call_len_list (S.li e) (by simp; omega) (by have := q _ (s.toks + 1) (S.toks (s.toks + 1 + 1)); simpa using this)
theorem li_item {value slice : PySem.Expr} {k : Int} {u : Tok} {Q : Value → Shared → Prop} (S : St prog w base os fr H s) (e : H a = some (.li us)) (hi : IntsAre us ns) (hz : us.length ≤ 1000) (h0 : 0 ≤ k) (h1 : k < ns.length)
    (q : ∀ s' t, St prog w base os fr H s' → Q (.int (ns.getD k.toNat 0) t) s')
    (hs : subscripted slice false (.ref a) (.int k u) = operate [.ref a, .int k u] (getItem (.ref a) (.int k u)) := by with_unfolding_all rfl) : wpAny (model prog w) A (subscriptTail value slice (.ref a) (.int k u)) Q E s :=
  item_list_intsR (S.li e) hi h0 h1 (by have := hi.length; omega) (fun t => q _ t S) hs
theorem li_itemN {value slice : PySem.Expr} {k : Int} {u : Tok} {Q : Value → Shared → Prop} (S : St prog w base os fr H s) (e : H a = some (.li us)) (hi : IntsAre us ns) (hz : us.length ≤ 1000) (h0 : k < 0) (h1 : -(ns.length : Int) ≤ k)
    (q : ∀ s' t, St prog w base os fr H s' → Q (.int (ns.getD (k + ns.length).toNat 0) t) s')
    (hs : subscripted slice false (.ref a) (.int k u) = operate [.ref a, .int k u] (getItem (.ref a) (.int k u)) := by with_unfolding_all rfl) : wpAny (model prog w) A (subscriptTail value slice (.ref a) (.int k u)) Q E s :=
  item_list_ints_negR (S.li e) hi h0 h1 (by have := hi.length; omega) (fun t => q _ t S) hs

-- comparisons
theorem all_true_iff (f : Nat → Bool) : ∀ n : Nat, ((List.range n).all f = true) ↔ ∀ i, i < n → f i = true := fun n => by simp
theorem eqAt_ints (hi : IntsAre us ns) (hj : IntsAre ws ms) (A : Around) (s : Shared) : ∀ j (h1 : j < us.toArray.size) (h2 : j < ws.toArray.size), PySem.SeqAt.EqAt A s us.toArray[j] ws.toArray[j] (ns.getD j 0 == ms.getD j 0) := by
  intro j h1 h2
  have h1' : j < us.length := by simpa using h1
  have h2' : j < ws.length := by simpa using h2
  obtain ⟨n, t, e1, e2⟩ := hi.at j us[j] (by simp [h1'])
  obtain ⟨m, t', e3, e4⟩ := hj.at j ws[j] (by simp [h2'])
  have d1 : ns.getD j 0 = n := by rw [List.getD_eq_getElem?_getD, e2]; rfl
  have d2 : ms.getD j 0 = m := by rw [List.getD_eq_getElem?_getD, e4]; rfl
  rw [d1, d2]
  show PySem.SeqAt.EqAt A s us[j] ws[j] _
  rw [e1, e3]
  exact (PySem.MeetsSeq.EqGives.int n m t t').at A s
theorem all_getD {ns ms : List Int} (h : ns.length = ms.length) : ((List.range ns.length).all fun j => ns.getD j 0 == ms.getD j 0) = (ns == ms) := by
  rw [Bool.eq_iff_iff, all_true_iff]
  simp only [beq_iff_eq]
  constructor
  · intro q
    apply List.ext_getElem h
    intro i h1 h2
    have := q i h1
    rwa [List.getD_eq_getElem?_getD, List.getD_eq_getElem?_getD, List.getElem?_eq_getElem h1, List.getElem?_eq_getElem h2] at this
  · rintro rfl i _; rfl
theorem li_ne {Q : Value → Shared → Prop} (S : St prog w base os fr H s) (hu : A.units < cLine) (e1 : H a = some (.li us)) (e2 : H b = some (.li ws)) (hi : IntsAre us ns) (hj : IntsAre ws ms)
    (q : Q (.bool (ns != ms)) s) : wpAny (model prog w) A (compareOp .NotEq (.ref a) (.ref b)) Q E s := by
  have h1 := hi.length
  have h2 := hj.length
  by_cases hz : ns.length = ms.length
  · refine cmp_ofNotEq (PySem.SeqAt.RcNeAt.lists (S.li e1) (S.li e2) (by simp; omega) hu (eqAt_ints hi hj _ _) prog w E Q ?_)
    have : (List.range us.toArray.size) = List.range ns.length := by simp [h1]
    rw [this, all_getD hz]
    exact q
  · refine cmp_ofNotEq (PySem.SeqAt.RcNeAt.lists_lengths (S.li e1) (S.li e2) (by simp; omega) hu prog w E Q ?_)
    have : (ns != ms) = true := by simp; intro e; exact hz (by rw [e])
    rw [this] at q; exact q
theorem li_eq {Q : Value → Shared → Prop} (S : St prog w base os fr H s) (hu : A.units < cLine) (e1 : H a = some (.li us)) (e2 : H b = some (.li ws)) (hi : IntsAre us ns) (hj : IntsAre ws ms)
    (q : Q (.bool (ns == ms)) s) : wpAny (model prog w) A (compareOp .Eq (.ref a) (.ref b)) Q E s := by
  have h1 := hi.length
  have h2 := hj.length
  by_cases hz : ns.length = ms.length
  · refine PySem.SeqAt.eq_listAt (e := fun j => ns.getD j 0 == ms.getD j 0) (S.li e1) (S.li e2) (by simp; omega) hu (eqAt_ints hi hj _ _) ?_
    have : (List.range us.toArray.size) = List.range ns.length := by simp [h1]
    rw [this, all_getD hz]
    exact q
  · refine PySem.SeqAt.eq_list_lengthsAt (S.li e1) (S.li e2) (by simp; omega) hu ?_
    have : (ns == ms) = false := by simp; intro e; exact hz (by rw [e])
    rw [this] at q; exact q
theorem tu_ne {Q : Value → Shared → Prop} (S : St prog w base os fr H s) (hu : A.units < cLine) (e1 : H a = some (.tu us)) (e2 : H b = some (.tu ws)) (hi : IntsAre us ns) (hj : IntsAre ws ms) (hz : ns.length = ms.length)
    (q : Q (.bool (ns != ms)) s) : wpAny (model prog w) A (compareOp .NotEq (.ref a) (.ref b)) Q E s := by
  have h1 := hi.length
  have h2 := hj.length
  refine cmp_ofNotEq (PySem.SeqAt.RcNeAt.tuples (e := fun j => ns.getD j 0 == ms.getD j 0) (S.tu e1) (S.tu e2) hu (eqAt_ints hi hj _ _) prog w E Q ?_)
  have e : (List.range (min us.toArray.size ws.toArray.size)) = List.range ns.length := by congr 1; simp; omega
  have e' : (us.toArray.size == ws.toArray.size) = true := by simp; omega
  rw [e, e', all_getD hz, Bool.and_true]
  exact q
end
end Mine

end

section
open PySem PySem.W PyProof.Rows PySem.Calls
set_option Elab.async false
set_option maxRecDepth 100000
set_option linter.unusedVariables false
namespace Mine

section
variable {prog : Program} {w : World} {K : Frag} {base : Heap} {os : Os} {A : Around} {E : Value → Shared → Prop} {fr : Frs} {H : Led} {s : Shared} {env : Env} {vs : List (Option Value)} {a b p it l : Addr} {us ws : List Value} {ns ms : List Int} {e e₁ e₂ : PySem.Expr} {pos np : Pos}

theorem li_min {Q : Value → Shared → Prop} (hh : A.handled = none) (S : St prog w base os fr H s) (e : H a = some (.li us)) (hi : IntsAre us ns) (hne : 0 < ns.length)
    (q : ∀ s' M t, St prog w base os fr H s' → M ∈ ns → (∀ x, x ∈ ns → M ≤ x) → Q (.int M t) s') : wpAny (model prog w) A (call (.builtin "min") [.ref a]) Q E s := by
  obtain ⟨xs, e'⟩ := hi.allInts.items
  have hns : ns = xs.toList.map (·.1) := by rw [← hi.numsOf, ← nums_intItems, ← e']
  have hsz : 0 < xs.size := by
    have h3 := hne; rw [hns, List.length_map, Array.length_toList] at h3; exact h3
  have hl := S.li e
  rw [e'] at hl
  refine min_intList hh hl hsz fun v h' tk hv hk => ?_
  obtain ⟨t, rfl⟩ := intItems_at hv
  obtain ⟨h1, h2⟩ := argBest_lt (numAt xs) (xs.size - 1)
  refine q _ _ t (S.heap (t := tk) (S.wd.keeps hk)) ?_ fun x hx => ?_
  · rw [hns, numAt_eq]; exact getD_mem (by rw [List.length_map, Array.length_toList]; omega)
  · rw [hns] at hx
    obtain ⟨j, hj, rfl⟩ := mem_getD hx
    rw [List.length_map, Array.length_toList] at hj
    rw [← numAt_eq]; exact h2 j (by omega)

/-- list(l) -/
theorem li_copy {Q : Value → Shared → Prop} (S : St prog w base os fr H s) (e : H a = some (.li us)) (hz : us.length ≤ 1000)
    (q : ∀ b s', H b = none → St prog w base os fr (upd H b (.li us)) s' → Q (.ref b) s') : wpAny (model prog w) A (call (.type "list") [.ref a]) Q E s := by
  obtain ⟨n, ho⟩ := S.liO e
  refine call_list_seq (hsz := by rw [sizeLine_eq]; simp; omega) a (.inl rfl) ho rfl rfl fun h' c' hk hD => ?_
  exact q _ _ S.wd.freshH (S.heap (t := s.toks) (S.wd.grow hk (Heap.get?_none_of_le (Nat.le_refl _)) hD ⟨c', rfl⟩ S.wd.low))
/-- l + m -/
theorem li_add {Q : Value → Shared → Prop} (S : St prog w base os fr H s) (e1 : H a = some (.li us)) (e2 : H b = some (.li ws)) (hz : us.length + ws.length ≤ 1000)
    (q : ∀ c s', H c = none → St prog w base os fr (upd H c (.li (us ++ ws))) s' → Q (.ref c) s') : wpAny (model prog w) A (binaryOp .Add (.ref a) (.ref b)) Q E s := by
  obtain ⟨n, ho⟩ := S.liO e1
  obtain ⟨n2, ho2⟩ := S.liO e2
  have e : us.toArray ++ ws.toArray = (us ++ ws).toArray := by simp
  refine concat_meets ⟨_, ho, rfl⟩ ⟨_, ho2, rfl⟩ noFill_list_add seq_list_add PySem.F.slot_list_add PySem.F.entry_list_add (PySem.F.args_list_add_2 _ _) (list_addW a b us.toArray ws.toArray n n2 none none #[] #[] (by rw [sizeLine_eq]; simp; omega)) ⟨ho, ho2, ?_⟩
  rw [e]
  exact q _ _ S.wd.freshH (S.heap (t := s.toks) (S.wd.push rfl ⟨0, rfl⟩))

theorem part_none {Q : Value → Shared → Prop} {M : Model} (q : Q .none s) : wpAny M A (evalPart none env) Q E s := wpAny_pure q
/-- l[k:] -/
theorem ev_from {k : Int} {sp : Pos} {Q : Value → Shared → Prop} (S : St prog w base os ((env, fm env.scope.names vs) :: fr) H s) (h1 : Pu prog w base os fr H env vs e₁ (· = .ref a)) (h2 : Pu prog w base os fr H env vs e₂ (IsI k)) (e : H a = some (.li us)) (hz : us.length ≤ 1000) (h0 : 0 ≤ k)
    (q : ∀ b s', H b = none → St prog w base os ((env, fm env.scope.names vs) :: fr) (upd H b (.li (us.drop k.toNat))) s' → Q (.ref b) s') (ht : ∀ o r, letTemporaryGo e₁ o r = pure () := by intro _ _; rfl) :
    wpAny (model prog w) A (eval (.Subscript e₁ (.Slice (some e₂) none none sp) pos) env) Q E s := by
  refine wpAny_Subscript_Slice list_getitem_lookup (Pu.go h1 S fun _ s₁ x S₁ => ?_) ht
  subst x
  refine wpAny_Slice (Pu.go h2 S₁ fun _ s₂ ⟨t, x⟩ S₂ => part_none (part_none ?_))
  subst x
  have S₃ : St prog w base os ((env, fm env.scope.names vs) :: fr) H { s₂ with heap := s₂.heap.push { cls := .type "slice", data := .fields #[.int k t, .none, .none] }, toks := s₂.toks } := S₂.heap (S₂.wd.keeps fun b o e => Heap.get?_push_of_some _ e)
  refine ⟨(S₃.li e).typeIs, ?_⟩
  refine wpAny_getItem_list_slice (hsz := by rw [sizeLine_eq]; simp; omega) (S₃.li e) (Heap.IsSliceOf.new ..) (.int k t) .none .none (by simp) ?_
  obtain ⟨n, rfl⟩ := Int.eq_ofNat_of_zero_le h0
  rw [slicePick_from']
  exact q _ _ S₃.wd.freshH (S₃.heap (t := s₂.toks) (S₃.wd.push rfl ⟨0, rfl⟩))
/-- l[:k] -/
theorem ev_upto {k : Int} {sp : Pos} {Q : Value → Shared → Prop} (S : St prog w base os ((env, fm env.scope.names vs) :: fr) H s) (h1 : Pu prog w base os fr H env vs e₁ (· = .ref a)) (h2 : Pu prog w base os fr H env vs e₂ (IsI k)) (hL : ∀ s', St prog w base os ((env, fm env.scope.names vs) :: fr) H s' → s'.heap.IsList a us.toArray) (hz : us.length ≤ 1000) (h0 : 0 ≤ k)
    (q : ∀ b s', H b = none → St prog w base os ((env, fm env.scope.names vs) :: fr) (upd H b (.li (us.take k.toNat))) s' → Q (.ref b) s') (ht : ∀ o r, letTemporaryGo e₁ o r = pure () := by intro _ _; rfl) :
    wpAny (model prog w) A (eval (.Subscript e₁ (.Slice none (some e₂) none sp) pos) env) Q E s := by
  refine wpAny_Subscript_Slice list_getitem_lookup (Pu.go h1 S fun _ s₁ x S₁ => ?_) ht
  subst x
  refine wpAny_Slice (part_none (Pu.go h2 S₁ fun _ s₂ ⟨t, x⟩ S₂ => part_none ?_))
  subst x
  have S₃ : St prog w base os ((env, fm env.scope.names vs) :: fr) H { s₂ with heap := s₂.heap.push { cls := .type "slice", data := .fields #[.none, .int k t, .none] }, toks := s₂.toks } := S₂.heap (S₂.wd.keeps fun b o e => Heap.get?_push_of_some _ e)
  refine ⟨(hL _ S₃).typeIs, ?_⟩
  refine wpAny_getItem_list_slice (hsz := by rw [sizeLine_eq]; simp; omega) (hL _ S₃) (Heap.IsSliceOf.new ..) .none (.int k t) .none (by simp) ?_
  obtain ⟨n, rfl⟩ := Int.eq_ofNat_of_zero_le h0
  rw [slicePick_upto']
  exact q _ _ S₃.wd.freshH (S₃.heap (t := s₂.toks) (S₃.wd.push rfl ⟨0, rfl⟩))

-- arithmetic
theorem ev_bin {op : Operator} {Q : Value → Shared → Prop} {M : Model} (h : wpAny M A (eval e₁ env) (fun a s₁ => wpAny M A (eval e₂ env) (fun b s₂ => wpAny M A (binaryOp op a b) Q E s₂) E s₁) E s) : wpAny M A (eval (.BinOp e₁ op e₂ pos) env) Q E s := by
  exact wpAny_BinOp h
end
end Mine

end

section
open PySem PySem.W PyProof.Rows PySem.Calls
set_option Elab.async false
set_option maxRecDepth 100000
set_option linter.unusedVariables false
namespace Mine

theorem boot_len : bootBuiltins "len" = some (.builtin "len") := by first | rfl | kernel_rfl
theorem boot_range : bootBuiltins "range" = some (.type "range") := by first | rfl | kernel_rfl
theorem boot_min : bootBuiltins "min" = some (.builtin "min") := by first | rfl | kernel_rfl
theorem boot_sorted : bootBuiltins "sorted" = some (.builtin "sorted") := by first | rfl | kernel_rfl

section
variable {prog : Program} {w : World} {K : Frag} {base : Heap} {os : Os} {A : Around} {E : Value → Shared → Prop} {fr : Frs} {H : Led} {s : Shared} {env : Env} {vs : List (Option Value)} {a b p it l : Addr} {us ws : List Value} {ns ms : List Int} {e e₁ e₂ : PySem.Expr} {pos np : Pos} {x y : Int}

theorem pu_add (h1 : Pu prog w base os fr H env vs e₁ (IsI x)) (h2 : Pu prog w base os fr H env vs e₂ (IsI y)) : Pu prog w base os fr H env vs (.BinOp e₁ .Add e₂ pos) (IsI (x + y)) :=
  fun A E Q s S q => wpAny_BinOp (h1 _ _ _ _ S fun _ s₁ ⟨t, e⟩ S₁ => h2 _ _ _ _ S₁ fun _ s₂ ⟨u, e'⟩ S₂ => by subst e; subst e'; exact PyProof.Rows.add_int (q _ _ ⟨_, rfl⟩ (S₂.toks _)))
theorem pu_subt (h1 : Pu prog w base os fr H env vs e₁ (IsI x)) (h2 : Pu prog w base os fr H env vs e₂ (IsI y)) : Pu prog w base os fr H env vs (.BinOp e₁ .Sub e₂ pos) (IsI (x - y)) :=
  fun A E Q s S q => wpAny_BinOp (h1 _ _ _ _ S fun _ s₁ ⟨t, e⟩ S₁ => h2 _ _ _ _ S₁ fun _ s₂ ⟨u, e'⟩ S₂ => by subst e; subst e'; exact PyProof.Rows.sub_int (q _ _ ⟨_, rfl⟩ (S₂.toks _)))
theorem pu_mod (hy : y ≠ 0) (h1 : Pu prog w base os fr H env vs e₁ (IsI x)) (h2 : Pu prog w base os fr H env vs e₂ (IsI y)) : Pu prog w base os fr H env vs (.BinOp e₁ .Mod e₂ pos) (IsI (x.fmod y)) :=
  fun A E Q s S q => wpAny_BinOp (h1 _ _ _ _ S fun _ s₁ ⟨t, e⟩ S₁ => h2 _ _ _ _ S₁ fun _ s₂ ⟨u, e'⟩ S₂ => by subst e; subst e'; exact PyProof.Rows.mod_int hy (q _ _ ⟨_, rfl⟩ (S₂.toks _)))
theorem pu_fdiv (hy : y ≠ 0) (hs : y.natAbs < 1073741824) (h1 : Pu prog w base os fr H env vs e₁ (IsI x)) (h2 : Pu prog w base os fr H env vs e₂ (IsI y)) : Pu prog w base os fr H env vs (.BinOp e₁ .FloorDiv e₂ pos) (IsI (x.fdiv y)) :=
  fun A E Q s S q => wpAny_BinOp (h1 _ _ _ _ S fun _ s₁ ⟨t, e⟩ S₁ => h2 _ _ _ _ S₁ fun _ s₂ ⟨u, e'⟩ S₂ => by subst e; subst e'; exact PyProof.Rows.floordiv_int hy (q _ _ ⟨_, rfl⟩ (S₂.toks _)) (.inl (PyProof.noPylong_small hs)))
theorem pu_mul (hm : IntMulOk x y) (h1 : Pu prog w base os fr H env vs e₁ (IsI x)) (h2 : Pu prog w base os fr H env vs e₂ (IsI y)) : Pu prog w base os fr H env vs (.BinOp e₁ .Mult e₂ pos) (IsI (x * y)) :=
  fun A E Q s S q => wpAny_BinOp (h1 _ _ _ _ S fun _ s₁ ⟨t, e⟩ S₁ => h2 _ _ _ _ S₁ fun _ s₂ ⟨u, e'⟩ S₂ => by subst e; subst e'; exact mul_int (q _ _ ⟨_, rfl⟩ (S₂.toks _)) hm)
/-- l[k] -/
theorem pu_item (h1 : Pu prog w base os fr H env vs e₁ (· = .ref a)) (h2 : Pu prog w base os fr H env vs e₂ (IsI x)) (e : H a = some (.li us)) (hi : IntsAre us ns) (hz : us.length ≤ 1000) (h0 : 0 ≤ x) (hx : x < ns.length)
    (hs : ∀ u, subscripted e₂ false (.ref a) (.int x u) = operate [.ref a, .int x u] (getItem (.ref a) (.int x u)) := by intro _; with_unfolding_all rfl) : Pu prog w base os fr H env vs (.Subscript e₁ e₂ pos) (IsI (ns.getD x.toNat 0)) :=
  fun A E Q s S q => ev_sub (h1 _ _ _ _ S fun _ s₁ z S₁ => by subst z; exact h2 _ _ _ _ S₁ fun _ s₂ ⟨t, z⟩ S₂ => by subst z; exact li_item S₂ e hi hz h0 hx (fun s₃ t S₃ => q _ _ ⟨t, rfl⟩ S₃) (hs t))
theorem pu_itemN (h1 : Pu prog w base os fr H env vs e₁ (· = .ref a)) (h2 : Pu prog w base os fr H env vs e₂ (IsI x)) (e : H a = some (.li us)) (hi : IntsAre us ns) (hz : us.length ≤ 1000) (h0 : x < 0) (hx : -(ns.length : Int) ≤ x)
    (hs : ∀ u, subscripted e₂ false (.ref a) (.int x u) = operate [.ref a, .int x u] (getItem (.ref a) (.int x u)) := by intro _; with_unfolding_all rfl) : Pu prog w base os fr H env vs (.Subscript e₁ e₂ pos) (IsI (ns.getD (x + ns.length).toNat 0)) :=
  fun A E Q s S q => ev_sub (h1 _ _ _ _ S fun _ s₁ z S₁ => by subst z; exact h2 _ _ _ _ S₁ fun _ s₂ ⟨t, z⟩ S₂ => by subst z; exact li_itemN S₂ e hi hz h0 hx (fun s₃ t S₃ => q _ _ ⟨t, rfl⟩ S₃) (hs t))
/-- len(l) -/
theorem pu_len {p1 : Pos} (i : Nat) (Z : Sta K base) (C : ScOk env.scope) (hg : env.globals = mainGlobals) (hb : env.builtins = builtinsNs) (hi : env.scope.names[i]? = some (("len" : Str), NameKind.globalImplicit)) (hK : nsIn K mainGlobals "len" = some none)
    (h1 : Pu prog w base os fr H env vs e (· = .ref a)) (he : H a = some (.li us)) (hz : us.length ≤ 1000) (hp : plainE e = true) : Pu prog w base os fr H env vs (.Call (.Name "len" p1) [e] [] pos) (IsI us.length) :=
  fun A E Q s S q => ev_call (nm_builtin S Z C hg hb hi ⟨hK, boot_len, by decide +kernel⟩ (cwB (by simp [hp]) (Pu.go h1 S fun _ s₁ x S₁ => by subst x; exact li_len S₁ he hz fun s₂ t S₂ => q _ _ ⟨t, rfl⟩ S₂)))
theorem cmp_le {k k' : Int} (x y : Value) (hx : IsI k x) (hy : IsI k' y) (A : Around) (E : Value → Shared → Prop) (Q : Value → Shared → Prop) (s : Shared) (S : St prog w base os ((env, fm env.scope.names vs) :: fr) H s)
    (q : ∀ s', St prog w base os ((env, fm env.scope.names vs) :: fr) H s' → Q (.bool (decide (k ≤ k'))) s') : wpAny (model prog w) A (compareOp .LtE x y) Q E s := by
  obtain ⟨t, rfl⟩ := hx; obtain ⟨u, rfl⟩ := hy
  exact PyProof.Rows.le_int (q s S)
theorem cmp_ge {k k' : Int} (x y : Value) (hx : IsI k x) (hy : IsI k' y) (A : Around) (E : Value → Shared → Prop) (Q : Value → Shared → Prop) (s : Shared) (S : St prog w base os ((env, fm env.scope.names vs) :: fr) H s)
    (q : ∀ s', St prog w base os ((env, fm env.scope.names vs) :: fr) H s' → Q (.bool (decide (k' ≤ k))) s') : wpAny (model prog w) A (compareOp .GtE x y) Q E s := by
  obtain ⟨t, rfl⟩ := hx; obtain ⟨u, rfl⟩ := hy
  exact PyProof.Rows.ge_int (q s S)
theorem cmp_lt {k k' : Int} (x y : Value) (hx : IsI k x) (hy : IsI k' y) (A : Around) (E : Value → Shared → Prop) (Q : Value → Shared → Prop) (s : Shared) (S : St prog w base os ((env, fm env.scope.names vs) :: fr) H s)
    (q : ∀ s', St prog w base os ((env, fm env.scope.names vs) :: fr) H s' → Q (.bool (decide (k < k'))) s') : wpAny (model prog w) A (compareOp .Lt x y) Q E s := by
  obtain ⟨t, rfl⟩ := hx; obtain ⟨u, rfl⟩ := hy
  exact PyProof.Rows.lt_int (q s S)
theorem cmp_eqI {k k' : Int} (x y : Value) (hx : IsI k x) (hy : IsI k' y) (A : Around) (E : Value → Shared → Prop) (Q : Value → Shared → Prop) (s : Shared) (S : St prog w base os ((env, fm env.scope.names vs) :: fr) H s)
    (q : ∀ s', St prog w base os ((env, fm env.scope.names vs) :: fr) H s' → Q (.bool (k == k')) s') : wpAny (model prog w) A (compareOp .Eq x y) Q E s := by
  obtain ⟨t, rfl⟩ := hx; obtain ⟨u, rfl⟩ := hy
  exact PyProof.Rows.eq_int (q s S)
/-- forget what is new -/
theorem St.drop {d : Desc} (S : St prog w base os fr (upd H b d) s) (hb : H b = none) : St prog w base os fr H s :=
  ⟨S.wd.forget fun a d e => by rw [upd_ne _ _ (fun q => by rw [q, hb] at e; cases e)]; exact e, S.bare, S.os⟩
/-- l == [] -/
theorem tu_eqNil (hu : ∀ A : Around, True) (h1 : Pu prog w base os fr H env vs e (· = .ref a)) (he : H a = some (.li us)) (hi : IntsAre us ns) {p1 : Pos} {Q : Bool → Shared → Prop} (hA : A.units < cLine) (S : St prog w base os ((env, fm env.scope.names vs) :: fr) H s)
    (q : ∀ s', St prog w base os ((env, fm env.scope.names vs) :: fr) H s' → Q (ns == []) s') {whole : Sem Value} : wpAny (model prog w) A (isTrue (.Compare e [.Eq] [.List [] p1] pos) env whole) Q E s := by
  refine is_cmp (Pu.go h1 S fun _ s₁ x S₁ => ?_)
  subst x
  refine ev_list (es := []) rfl ⟨by simp, _, _, S₁, fun b s₂ hb S₂ => ?_⟩
  have nab : a ≠ b := fun z => by rw [z, hb] at he; cases he
  exact li_eq S₂ hA ((upd_ne _ _ nab).trans he) (upd_self ..) hi .nil ⟨_, rfl, q _ (S₂.drop hb)⟩
theorem tu_neNil (h1 : Pu prog w base os fr H env vs e (· = .ref a)) (he : H a = some (.li us)) (hi : IntsAre us ns) {p1 : Pos} {Q : Bool → Shared → Prop} (hA : A.units < cLine) (S : St prog w base os ((env, fm env.scope.names vs) :: fr) H s)
    (q : ∀ s', St prog w base os ((env, fm env.scope.names vs) :: fr) H s' → Q (ns != []) s') {whole : Sem Value} : wpAny (model prog w) A (isTrue (.Compare e [.NotEq] [.List [] p1] pos) env whole) Q E s := by
  refine is_cmp (Pu.go h1 S fun _ s₁ x S₁ => ?_)
  subst x
  refine ev_list (es := []) rfl ⟨by simp, _, _, S₁, fun b s₂ hb S₂ => ?_⟩
  have nab : a ≠ b := fun z => by rw [z, hb] at he; cases he
  exact li_ne S₂ hA ((upd_ne _ _ nab).trans he) (upd_self ..) hi .nil ⟨_, rfl, q _ (S₂.drop hb)⟩

variable {Q : Flow → Shared → Prop} {rest : List Stmt}
/-- if, where the test may do more -/
theorem x_ifG {test : PySem.Expr} {body orelse : List Stmt} (h : wpAny (model prog w) A (isTrue test env (eval test env)) (fun b s₂ => wpAny (model prog w) A (execs (if b then body else orelse) env) (fun f s' => match f with | .next => wpAny (model prog w) A (execs rest env) Q E s' | f => Q f s') E s₂) E s) :
    wpAny (model prog w) A (execs (.If test body orelse pos :: rest) env) Q E s :=
  wpAny_execs_cons (wpAny_If (wpAny_mono h (fun b s₁ h₁ => by cases b <;> exact h₁) fun _ _ e => e))
/-- o.m(args), a statement, o a list -/
theorem x_meth {o : PySem.Expr} {name : Str} {id : String} {apos cpos : Pos} {es : List PySem.Expr} {pl : Sem Bool} (slot : Slot "list" name id) (ty : typeOf (.builtin id) = pure (.type "method_descriptor")) (S : St prog w base os ((env, fm env.scope.names vs) :: fr) H s) (h1 : Pu prog w base os fr H env vs o (· = .ref a)) (ha : H a = some (.li us)) (hes : es.all plainE = true)
    (h : ∀ s', St prog w base os ((env, fm env.scope.names vs) :: fr) H s' → evL (model prog w) A E env es (fun ws s₁ => wpAny (model prog w) A (call (.builtin id) (.ref a :: ws)) (fun v s₂ => v = .none ∧ wpAny (model prog w) A (execs rest env) Q E s₂) E s₁) s')
    (he : eval (.Call (.Attribute o name apos) es [] cpos) env = (do
      let ov ← eval o env
      standAt apos.atName
      let (f, first) ← holding [ov] (getMethod ov name pl)
      callWith cpos f first (backTo cpos (starEach es env)) (backToKw cpos (keywordEach [] env))) := by rfl)
    (hi : interactive env = false := by rfl) (hs : swapsWith (.Call (.Attribute o name apos) es [] cpos) none pos.line env = pure false := by rfl) :
    wpAny (model prog w) A (execs (.Expr (.Call (.Attribute o name apos) es [] cpos) pos :: rest) env) Q E s :=
  x_expr (mcall (pl := pl) (h1 _ _ _ _ S fun _ s₁ x S₁ => by
    subst x; exact md_li slot ty S₁ ha (cwB hes (h s₁ S₁))) he) hi hs
end
end Mine

end

section
open PySem PySem.W PyProof.Rows PySem.Calls
set_option Elab.async false
set_option maxRecDepth 100000
set_option linter.unusedVariables false
namespace Mine

def dLCut : Def := mkD 955 "_law_cut" "_law_cut" (topAt 22) [] .none .none
theorem scLCut : ScOk dLCut.scope := ScOk.of (by decide +kernel)

theorem stored_mem {kvs : List (Int × Value)} {k₀ : Int} {v : Value} {k : Int} {v' : Value} (h : (k, v') ∈ stored kvs k₀ v) : (k = k₀ ∧ v' = v) ∨ (k ≠ k₀ ∧ (k, v') ∈ kvs) := by
  unfold stored at h
  split at h
  · obtain ⟨p, hp, e⟩ := List.mem_map.mp h
    split at e
    · rename_i q
      cases e
      exact .inl ⟨q, rfl⟩
    · rename_i q
      subst e
      exact .inr ⟨q, hp⟩
  · rename_i hn
    rcases List.mem_append.mp h with h | h
    · refine .inr ⟨fun q => hn ?_, h⟩
      exact List.any_eq_true.mpr ⟨_, h, by simpa using q⟩
    · simp only [List.mem_singleton, Prod.mk.injEq] at h
      exact .inl h

def Sg.cutKn (σ : Sg) (u v : Int) : Bool := if (σ.row u).erase v = [] then true else if (σ.row u).getD 0 0 = v then false else σ.kw u
/-- a neighbour goes out of the plain row -/
def Sg.cutRow (σ : Sg) (u v : Int) : Sg := { σ with row := fset σ.row u ((σ.row u).erase v), kw := fset σ.kw u (σ.cutKn u v) }

section
variable {P : Params} {prog : Program} {w : World} {K : Frag} {base : Heap} {os : Os} {A : Around} {E : Value → Shared → Prop} {fr : Frs} {H : Led} {s : Shared} {env : Env} {vs : List (Option Value)} {p a ra ka : Addr} {ρ : Rho} {σ : Sg} {u v : Int} {tu tv : Tok}

theorem kn_put {kvs : List (Int × Value)} {ep : Option Nat} {b : Bool} (R : Rep P H ρ σ) (ha : ρ a = some .known) (e : H a = some (.di kvs ep)) (hu : u ∈ σ.kn) : Rep P (upd H a (.di (stored kvs u (.bool b)) none)) ρ { σ with kw := fset σ.kw u b } := by
  obtain ⟨kvs', ep', e', h1, h2⟩ := R.known ha
  rw [e] at e'; cases e'
  have := kn_set (l := σ.kn) (f := fset σ.kw u b) (kvs := stored kvs u (.bool b)) (ep := none) R ha (by rw [stored_keys (h1 ▸ hu)]; exact h1) (fun k v' hm => by
    rcases stored_mem hm with ⟨rfl, rfl⟩ | ⟨q, hm⟩
    · rw [fset_self]
    · rw [fset_ne _ _ q]; exact h2 _ _ hm)
  exact this

theorem law_cut_ok {Q : Value → Shared → Prop} (hD : dLCut.In K) (Z : Sta K base) (S : St prog w base os fr H s) (hh : A.handled = none) (hA : A.depth < recursionLimit) (hU : A.units + 20 < cLine) (R : Rep w.params H ρ σ) (hr : ρ ra = some .rows) (hk : ρ ka = some .known)
    (hu : u ∈ σ.rn) (hu' : u ∈ σ.kn) (hv : v ∈ σ.row u) (hm : (σ.row u).length ≤ 900) (hm' : σ.kn.length ≤ 900)
    (h : ∀ s' H', St prog w base os fr H' s' → Rep w.params H' ρ (σ.cutRow u v) → Keep (fun _ => False) H ρ H' ρ → Q .none s') : wpAny (model prog w) A (call (.ref 955) [.ref ra, .ref ka, .int u tu, .int v tv]) Q E s := by
  have C := scLCut
  refine call_plain (D := dLCut) (n := 1) (binds := [("rows", .ref ra), ("known", .ref ka), ("u", .int u tu), ("v", .int v tv)]) S Z hA hD (by decide +kernel) C rfl rfl (fun _ _ _ _ => rfl) rfl rfl fun L s₁ S₁ => ?_
  replace S₁ : St prog w base os ((dLCut.env L, fm (dLCut.env L).scope.names [some (.ref ra), some (.ref ka), some (.int u tu), some (.int v tv), none]) :: fr) H s₁ := S₁
  obtain ⟨kr, er, hrA, rr⟩ := R.rows hr
  obtain ⟨aL, hvL, hrL⟩ := rr.find hu
  obtain ⟨us, hL, hI⟩ := R.row hrL
  obtain ⟨kk, ek, hkA, hk1, hk2⟩ := R.known hk
  have hlen := hI.length
  have hpos : 0 < (σ.row u).length := List.length_pos_of_mem hv
  have klen : kk.length ≤ 900 := by have := congrArg List.length hk1; rw [List.length_map] at this; omega
  have naL : aL ≠ ka := fun q => by rw [q, hk] at hrL; cases hrL
  rw [BodyOk]
  refine x_as 4 S₁ C rfl (pu_sub (pu_v 0 C rfl rfl) (pu_i 2 C rfl rfl) hrA hvL) (by show 4 < 5; decide) fun x s₂ hx S₂ => ?_
  subst hx
  refine x_if S₂ (tu_cmp (pu_item (pu_v 4 C rfl rfl) pu_int hL hI (by omega) (by decide) (by show (0 : Int) < _; omega)) (pu_i 3 C rfl rfl) cmp_eq) fun s₃ S₃ => ?_
  have tail : ∀ (τ : Sg) (s₄ : Shared) (H₄ : Led), St prog w base os ((dLCut.env L, fm (dLCut.env L).scope.names [some (.ref ra), some (.ref ka), some (.int u tu), some (.int v tv), some (.ref aL)]) :: fr) H₄ s₄ → Rep w.params H₄ ρ τ → Keep (fun _ => False) H ρ H₄ ρ → H₄ aL = some (.li us) → τ.row = σ.row → τ.kn = σ.kn →
      { τ with row := fset τ.row u ((τ.row u).erase v), kw := if (τ.row u).erase v = [] then fset τ.kw u true else τ.kw } = σ.cutRow u v →
      wpAny (model prog w) (A.deeper (dLCut.env L)) (execs (match dLCut.body with | _ :: _ :: r => r | _ => []) (dLCut.env L)) (fun fl s' => Q (retOf fl) s') (fun e s' => wpAny (model prog w) (A.deeper (dLCut.env L)) (leaving (dLCut.env L) e) (fun _ s'' => E e s'') E s') s₄ := by
    intro τ s₄ H₄ S₄ R₄ k₄ hL₄ q1 q2 q3
    refine x_meth PySem.F.slot_list_remove PySem.F.type_list_remove S₄ (pu_v 4 C rfl rfl) hL₄ rfl fun s₅ S₅ => ?_
    refine pu_v (env := dLCut.env L) 3 C rfl rfl _ _ _ _ S₅ fun x s₆ hx S₆ => ?_
    subst hx
    refine li_remove S₆ hL₄ hI (by omega) hv fun s₇ us' S₇ hI' => ⟨rfl, ?_⟩
    have R₇ := row_set R₄ hrL hI'
    have k₇ : Keep (fun _ => False) H ρ (upd H₄ aL (.li us')) ρ := k₄.set hrL
    refine x_ifG (tu_eqNil (fun _ => trivial) (pu_v 4 C rfl rfl) (upd_self ..) hI' (by show A.units + 3 < _; omega) S₇ fun s₈ S₈ => ?_)
    by_cases hz : (σ.row u).erase v = []
    · rw [hz]
      obtain ⟨kk', ek', hkA', hk1', hk2'⟩ := R₇.known hk
      have kl' : kk'.length ≤ 900 := by have := congrArg List.length hk1'; rw [List.length_map] at this; have : τ.kn.length = _ := this.symm; rw [q2] at this; omega
      refine x_set S₈ pu_bool (pu_v 1 C rfl rfl) (pu_i 2 C rfl rfl) hkA' (by omega) fun s₉ S₉ => ?_
      refine x_nil (x_nil (h s₉ _ S₉.popped ?_ (k₇.set hk)))
      have := kn_put (b := true) R₇ hk hkA' (by show u ∈ τ.kn; rw [q2]; exact hu')
      rw [← q3, q1, if_pos hz, hz]
      simpa [q1, hz] using this
    · have hz' : ((σ.row u).erase v == []) = false := by simpa using hz
      rw [hz']
      refine x_nil (x_nil (h s₈ _ S₈.popped ?_ k₇))
      rw [← q3, q1, if_neg hz]
      simpa [q1] using R₇
  by_cases hz : (σ.row u).getD 0 0 = v
  · have hz' : ((σ.row u).getD (0 : Int).toNat 0 == v) = true := by simpa using hz
    rw [hz']
    refine x_set S₃ pu_bool (pu_v 1 C rfl rfl) (pu_i 2 C rfl rfl) hkA (by omega) fun s₄ S₄ => ?_
    refine x_nil (tail _ s₄ _ S₄ (kn_put (b := false) R hk hkA hu') (Keep.refl.set hk) ((upd_ne _ _ naL).trans hL) rfl rfl ?_)
    unfold Sg.cutRow Sg.cutKn
    by_cases hy : (σ.row u).erase v = []
    · simp only [hy, if_true]
      congr 1
      funext z; simp only [fset]; split <;> rfl
    · simp only [hy, if_false, hz, if_true]
  · have hz' : ((σ.row u).getD (0 : Int).toNat 0 == v) = false := by simpa using hz
    rw [hz']
    refine x_nil (tail _ s₃ _ S₃ R Keep.refl hL rfl rfl ?_)
    unfold Sg.cutRow Sg.cutKn
    by_cases hy : (σ.row u).erase v = []
    · simp only [hy, if_true]
    · simp only [hy, if_false, hz]
      rw [fset_same]
end
end Mine

end

section
open PySem PySem.W PyProof.Rows PySem.Calls
set_option Elab.async false
set_option maxRecDepth 100000
set_option linter.unusedVariables false
namespace Mine

def dLLeave : Def := mkD 962 "_law_leave" "_law_leave" (topAt 23) [] .none .none
theorem scLLeave : ScOk dLLeave.scope := ScOk.of (by decide +kernel)
structure KM (K : Frag) : Prop where
  cut : dLCut.In K
  gCut : nsIn K mainGlobals "_law_cut" = some (some (.ref 955))
  kCut : keepIn K (.ref 955) = true
  leave : dLLeave.In K
  bList : nsIn K mainGlobals "list" = some none

def Sg.cutRows (σ : Sg) (u : Int) (l : List Int) : Sg := l.foldl (fun τ v => τ.cutRow v u) σ
def Sg.leave (σ : Sg) (u : Int) : Sg := let τ := σ.cutRows u (σ.row u); { τ with rn := τ.rn.filter (· ≠ u), kn := τ.kn.filter (· ≠ u) }
theorem cutRows_rn (u : Int) (l : List Int) : ∀ σ : Sg, (σ.cutRows u l).rn = σ.rn ∧ (σ.cutRows u l).kn = σ.kn := by
  induction l with
  | nil => intro σ; exact ⟨rfl, rfl⟩
  | cons v l ih => intro σ; exact ⟨(ih _).1.trans rfl, (ih _).2.trans rfl⟩
theorem cutRows_snoc (σ : Sg) (u : Int) (l : List Int) (v : Int) : σ.cutRows u (l ++ [v]) = (σ.cutRows u l).cutRow v u := by simp [Sg.cutRows]

section
variable {P : Params} {prog : Program} {w : World} {K : Frag} {base : Heap} {os : Os} {A : Around} {E : Value → Shared → Prop} {fr : Frs} {H : Led} {s : Shared} {env : Env} {vs : List (Option Value)} {p a ra ka : Addr} {ρ : Rho} {σ : Sg} {u v : Int} {tu tv : Tok}

theorem law_leave_ok {Q : Value → Shared → Prop} (F : KM K) (Z : Sta K base) (S : St prog w base os fr H s) (hh : A.handled = none) (hA : A.depth + 2 < recursionLimit) (hU : A.units + 40 < cLine) (R : Rep w.params H ρ σ) (hr : ρ ra = some .rows) (hk : ρ ka = some .known)
    (hu : u ∈ σ.rn) (hu' : u ∈ σ.kn) (hm : (σ.row u).length ≤ 900) (hm' : σ.kn.length ≤ 900) (hm2 : σ.rn.length ≤ 900)
    (hc : ∀ (i : Nat) (v : Int), (σ.row u)[i]? = some v → v ∈ σ.rn ∧ v ∈ σ.kn ∧ u ∈ (σ.cutRows u ((σ.row u).take i)).row v ∧ ((σ.cutRows u ((σ.row u).take i)).row v).length ≤ 900)
    (h : ∀ s' H', St prog w base os fr H' s' → Rep w.params H' ρ (σ.leave u) → Keep (fun _ => False) H ρ H' ρ → Q .none s') : wpAny (model prog w) A (call (.ref 962) [.ref ra, .ref ka, .int u tu]) Q E s := by
  have C := scLLeave
  refine call_plain (D := dLLeave) (n := 1) (binds := [("rows", .ref ra), ("known", .ref ka), ("u", .int u tu)]) S Z (by omega) F.leave (by decide +kernel) C rfl rfl (fun _ _ _ _ => rfl) rfl rfl fun L s₁ S₁ => ?_
  replace S₁ : St prog w base os ((dLLeave.env L, fm (dLLeave.env L).scope.names [some (.ref ra), some (.ref ka), some (.int u tu), none]) :: fr) H s₁ := S₁
  obtain ⟨kr, er, hrA, rr⟩ := R.rows hr
  obtain ⟨aL, hvL, hrL⟩ := rr.find hu
  obtain ⟨us, hL, hI⟩ := R.row hrL
  have hlen := hI.length
  rw [BodyOk]
  refine wpAny_execs_cons (wpAny_For (ev_call (nm_builtin S₁ Z C rfl rfl (i := 4) rfl ⟨F.bList, boot_list, by decide +kernel⟩ (cwT rfl ?_))))
  refine pu_sub (env := dLLeave.env L) (pu_v 0 C rfl rfl) (pu_i 2 C rfl rfl) hrA hvL (by intro _; with_unfolding_all rfl) _ _ _ _ S₁ fun x s₂ hx S₂ => ?_
  subst hx
  refine li_copy S₂ hL (by omega) fun b s₃ hb S₃ => ?_
  have hρb := R.none hb
  refine iter_li S₃ (upd_self ..) fun it s₄ H₄ hit S₄ hD hs => ?_
  have hit₀ : H it = none := by
    by_cases q : it = b
    · rw [q]; exact hb
    · rw [upd_ne _ _ q] at hit; exact hit
  have hρ := R.none hit₀
  have R₄ : Rep w.params H₄ ρ σ := (R.temp hρb (.li us)).same hρ hs
  have k₄ : Keep (fun _ => False) H ρ H₄ ρ := (Keep.refl.new hb).same hit₀ hs
  refine loop_itr (c := 3) itr_li (by exact hh) C rfl
    (fun i H' vs' => (∃ x, vs' = [some (.ref ra), some (.ref ka), some (.int u tu), x]) ∧ Rep w.params H' ρ (σ.cutRows u ((σ.row u).take i)) ∧ Keep (fun _ => False) H ρ H' ρ)
    (fun i H₁ H₂ vs' hs' ⟨j1, j2, j3⟩ => ⟨j1, j2.same hρ hs', j3.same hit₀ hs'⟩) (fun i H₁ vs' ⟨⟨x, j1⟩, _⟩ => by rw [j1]; simp) S₄ hD ⟨⟨_, rfl⟩, by simpa [Sg.cutRows] using R₄, k₄⟩ ?_ ?_
  · rintro i v' H₁ vs₁ s₅ hi hv ⟨⟨x, rfl⟩, R₁, k₁⟩ hD₁ hne S₅
    have hi' : i < (σ.row u).length := by omega
    obtain ⟨v, tv, rfl, hvi⟩ := hI.at i v' hv
    obtain ⟨c1, c2, c3, c4⟩ := hc i v hvi
    obtain ⟨r1, r2⟩ := cutRows_rn u ((σ.row u).take i) σ
    refine x_expr (ev_call (nm_global (i := 5) S₅ Z C rfl rfl F.gCut (cwK F.kCut rfl rfl ?_)))
    refine Pu.go (pu_v 0 C rfl rfl) S₅ fun _ s₆ x S₆ => ?_
    subst x
    refine Pu.go (pu_v 1 C rfl rfl) S₆ fun _ s₇ x S₇ => ?_
    subst x
    refine Pu.go (pu_v 3 C rfl rfl) S₇ fun _ s₈ x S₈ => ?_
    subst x
    refine Pu.go (pu_v 2 C rfl rfl) S₈ fun _ s₉ x S₉ => ?_
    subst x
    refine ⟨S₉.kin Z, law_cut_ok F.cut Z S₉ (by exact hh) (by show A.depth + 1 < _; omega) (by show A.units + 3 + 20 < _; omega) R₁ hr hk (by rw [r1]; exact c1) (by rw [r2]; exact c2) c3 c4 (by rw [r2]; exact hm') fun s₁₀ H' S₁₀ R' k' => ⟨rfl, ?_⟩⟩
    have hρi := hρ
    refine x_nil ⟨H', _, S₁₀, ⟨(k'.out _ _ hD₁.1 hρ).1, (k'.out _ _ hD₁.2.1 hρb).1, hD₁.2.2⟩, ⟨_, rfl⟩, ?_, k₁.trans k'⟩
    rw [List.take_add_one, hvi, Option.toList_some, cutRows_snoc]
    exact R'
  · rintro H₁ vs₁ s₅ ⟨⟨x, rfl⟩, R₁, k₁⟩ S₅
    rw [List.take_of_length_le (by omega)] at R₁
    obtain ⟨r1, r2⟩ := cutRows_rn u (σ.row u) σ
    obtain ⟨kr', er', hrA', rr'⟩ := R₁.rows hr
    refine x_del S₅ (pu_v 0 C rfl rfl) (pu_i 2 C rfl rfl) hrA' (by rw [rr'.len, r1]; omega) (by rw [rr'.isSome, r1]; exact decide_eq_true hu) fun s₆ S₆ => ?_
    have R₆ := rn_set (ep := none) R₁ hr (rr'.del u)
    obtain ⟨kk, ek, hkA, hk1, hk2⟩ := R₆.known hk
    have hk1' : kk.map (·.1) = σ.kn := hk1.trans r2
    have klen : kk.length ≤ 900 := by have := congrArg List.length hk1'; rw [List.length_map] at this; omega
    refine x_del S₆ (pu_v 1 C rfl rfl) (pu_i 2 C rfl rfl) hkA (by omega) (by rw [valueAt_isSome, hk1']; exact decide_eq_true hu') fun s₇ S₇ => ?_
    refine x_nil (h s₇ _ S₇.popped ?_ ((k₁.set hr).set hk))
    exact kn_set (ep := none) R₆ hk (by rw [without_keys, hk1]) fun k v' hm => hk2 _ _ (List.mem_filter.mp hm).1
end
end Mine

end

section
open PySem PySem.W PyProof.Rows PySem.Calls
set_option Elab.async false
set_option maxRecDepth 100000
set_option linter.unusedVariables false
namespace Mine

def dLBad : Def := mkD 969 "_law_bad" "_law_bad" (topAt 24) [] .none .none
def dLNoEdge : Def := mkD 976 "_law_no_edge" "_law_no_edge" (topAt 25) [] .none .none
def dLNoNode : Def := mkD 983 "_law_no_node" "_law_no_node" (topAt 26) [] .none .none
theorem scLBad : ScOk dLBad.scope := ScOk.of (by decide +kernel)
theorem scLNoEdge : ScOk dLNoEdge.scope := ScOk.of (by decide +kernel)
theorem scLNoNode : ScOk dLNoNode.scope := ScOk.of (by decide +kernel)

/-- a reference that is refused -/
def Sg.Bad (σ : Sg) (u : Int) (c cc : Value) : Prop :=
  ((u ∈ σ.ns → σ.so u = []) ∧ ((!(c == .none)) = true ∨ (!(cc == .none)) = true)) ∨
  (u ∈ σ.ns ∧ σ.so u ≠ [] ∧ ((∃ r tr, c = .int r tr ∧ (r ∉ σ.so u ∨ (!(cc == .none)) = true)) ∨ (c = .none ∧ ((∃ r tr, cc = .int r tr ∧ r ∉ σ.so u) ∨ cc = .none))))

section
variable {P : Params} {prog : Program} {w : World} {K : Frag} {base : Heap} {os : Os} {A : Around} {E : Value → Shared → Prop} {fr : Frs} {H : Led} {s : Shared} {env : Env} {vs : List (Option Value)} {p a ra ka : Addr} {ρ : Rho} {σ : Sg} {u v : Int} {tu tv : Tok}

theorem law_bad_ok {c cc : Value} {Q : Value → Shared → Prop} (hD : dLBad.In K) (F : KG prog K) (Z : Sta K base) (S : St prog w base os fr H s) (hf : A.frames = some fr.envs) (hh : A.handled = none) (hA : A.depth + 5 < recursionLimit) (R : Rep w.params H ρ σ) (hp : ρ p = some .self) (hm : σ.Sm) (hb : σ.Bad u c cc)
    (h : ∀ s', St prog w base os fr H s' → Q (.bool true) s') : wpAny (model prog w) A (call (.ref 969) [.ref p, .int u tu, .int v tv, c, cc]) Q E s := by
  have C := scLBad
  refine call_plain (D := dLBad) (n := 0) (binds := [("picture", .ref p), ("e", .int u tu), ("f", .int v tv), ("cw", c), ("ccw", cc)]) S Z (by omega) hD (by decide +kernel) C rfl rfl (fun _ _ _ _ => rfl) rfl rfl fun L s₁ S₁ => ?_
  replace S₁ : St prog w base os ((dLBad.env L, fm (dLBad.env L).scope.names [some (.ref p), some (.int u tu), some (.int v tv), some c, some cc]) :: fr) H s₁ := S₁
  have fin : ∀ e s', Fly prog w base os ((dLBad.env L, fm (dLBad.env L).scope.names [some (.ref p), some (.int u tu), some (.int v tv), some c, some cc]) :: fr) H e (.ref nxE) s' →
      ∃ (e' : Addr) (fr' : Frs) (vs : List (Option Value)) (H' : Led), (.ref e : Value) = .ref e' ∧ (A.deeper (dLBad.env L)).frames = some (dLBad.env L :: Frs.envs fr') ∧ Fly prog w base os ((dLBad.env L, fm (dLBad.env L).scope.names vs) :: fr') H' e' (.ref nxE) s' ∧
        ∀ s₂, St prog w base os ((dLBad.env L, fm (dLBad.env L).scope.names vs) :: fr') H' s₂ → wpAny (model prog w) ((A.deeper (dLBad.env L)).mark (some (.ref e'))) (execs (match dLBad.body with | .Try _ [.ExceptHandler _ _ b _] _ _ _ :: _ => b | _ => []) (dLBad.env L))
          (fun f s₃ => match f with | .next => wpAny (model prog w) (A.deeper (dLBad.env L)) (execs (dLBad.body.drop 1) (dLBad.env L)) (fun fl s' => Q (retOf fl) s') (fun e s' => wpAny (model prog w) (A.deeper (dLBad.env L)) (leaving (dLBad.env L) e) (fun _ s'' => E e s'') E s') s₃ | f => Q (retOf f) s₃) (fun _ _ => False) s₂ := by
    intro e s' Y
    refine ⟨e, fr, _, H, rfl, deep hf _, Y, fun s₂ S₂ => ?_⟩
    exact x_ret S₂ pu_bool fun v s₃ hv S₃ => by subst hv; exact h s₃ S₃.popped
  rw [BodyOk]
  refine x_try (os := os) 5 Z F.toExK C rfl rfl ?_
  refine x_expr (ev_pic S₁ Z F.toKA F.mHalf R hp (pu_v 0 C rfl rfl) (fun _ _ _ _ _ => by cases σ.adj <;> rfl) rfl rfl fun s₂ S₂ => ?_)
  refine Pu.go (pu_v 1 C rfl rfl) S₂ fun _ s₃ x S₃ => ?_
  subst x
  refine Pu.go (pu_v 2 C rfl rfl) S₃ fun _ s₄ x S₄ => ?_
  subst x
  refine Pu.go (pu_v 3 C rfl rfl) S₄ fun _ s₅ x S₅ => ?_
  subst x
  refine Pu.go (pu_v 4 C rfl rfl) S₅ fun _ s₆ x S₆ => ?_
  subst x
  refine ⟨S₆.kin Z, ?_⟩
  rcases hb with ⟨b1, b2⟩ | ⟨b1, b2, b3⟩
  · exact half_badF F Z S₆ (deep hf _) (by exact hh) (by show A.depth + 1 + 4 < _; omega) R hp b1 b2 fin
  · exact half_badT F Z S₆ (deep hf _) (by exact hh) (by show A.depth + 1 + 4 < _; omega) R hp hm b1 b2 b3 fin

theorem law_no_edge_ok {Q : Value → Shared → Prop} (hD : dLNoEdge.In K) (F : KI prog K) (Z : Sta K base) (S : St prog w base os fr H s) (hf : A.frames = some fr.envs) (hh : A.handled = none) (hA : A.depth + 5 < recursionLimit) (R : Rep w.params H ρ σ) (hp : ρ p = some .self)
    (hu : Tame u) (hv : Tame v) (hc : u ∈ σ.ns → v ∈ σ.ns → v ∉ σ.so u)
    (h : ∀ s', St prog w base os fr H s' → Q (.bool true) s') : wpAny (model prog w) A (call (.ref 976) [.ref p, .int u tu, .int v tv]) Q E s := by
  have C := scLNoEdge
  refine call_plain (D := dLNoEdge) (n := 0) (binds := [("picture", .ref p), ("u", .int u tu), ("v", .int v tv)]) S Z (by omega) hD (by decide +kernel) C rfl rfl (fun _ _ _ _ => rfl) rfl rfl fun L s₁ S₁ => ?_
  replace S₁ : St prog w base os ((dLNoEdge.env L, fm (dLNoEdge.env L).scope.names [some (.ref p), some (.int u tu), some (.int v tv)]) :: fr) H s₁ := S₁
  rw [BodyOk]
  refine x_try (os := os) 3 Z F.toExK C rfl rfl ?_
  refine x_expr (ev_pic S₁ Z F.toKA F.mRemEdge R hp (pu_v 0 C rfl rfl) (fun _ _ _ _ _ => by cases σ.adj <;> rfl) rfl rfl fun s₂ S₂ => ?_)
  refine Pu.go (pu_v 1 C rfl rfl) S₂ fun _ s₃ x S₃ => ?_
  subst x
  refine Pu.go (pu_v 2 C rfl rfl) S₃ fun _ s₄ x S₄ => ?_
  subst x
  refine ⟨S₄.kin Z, remEdge_bad F Z S₄ (deep hf _) (by exact hh) (by show A.depth + 1 + 3 < _; omega) R hp hu hv hc fun e s' Y => ?_⟩
  refine ⟨e, fr, _, H, rfl, deep hf _, Y, fun s₂ S₂ => ?_⟩
  exact x_ret S₂ pu_bool fun v s₃ hv S₃ => by subst hv; exact h s₃ S₃.popped

theorem law_no_node_ok {Q : Value → Shared → Prop} (hD : dLNoNode.In K) (F : KI prog K) (Z : Sta K base) (S : St prog w base os fr H s) (hf : A.frames = some fr.envs) (hh : A.handled = none) (hA : A.depth + 5 < recursionLimit) (R : Rep w.params H ρ σ) (hp : ρ p = some .self) (al : σ.Al)
    (hu : Tame u) (hc : u ∉ σ.ns)
    (h : ∀ s', St prog w base os fr H s' → Q (.bool true) s') : wpAny (model prog w) A (call (.ref 983) [.ref p, .int u tu]) Q E s := by
  have C := scLNoNode
  refine call_plain (D := dLNoNode) (n := 0) (binds := [("picture", .ref p), ("u", .int u tu)]) S Z (by omega) hD (by decide +kernel) C rfl rfl (fun _ _ _ _ => rfl) rfl rfl fun L s₁ S₁ => ?_
  replace S₁ : St prog w base os ((dLNoNode.env L, fm (dLNoNode.env L).scope.names [some (.ref p), some (.int u tu)]) :: fr) H s₁ := S₁
  rw [BodyOk]
  refine x_try (os := os) 2 Z F.toExK C rfl rfl ?_
  refine x_expr (ev_pic S₁ Z F.toKA F.mRemNode R hp (pu_v 0 C rfl rfl) (fun _ _ _ _ _ => by cases σ.adj <;> rfl) rfl rfl fun s₂ S₂ => ?_)
  refine Pu.go (pu_v 1 C rfl rfl) S₂ fun _ s₃ x S₃ => ?_
  subst x
  refine ⟨S₃.kin Z, remNode_bad F Z S₃ (deep hf _) (by exact hh) (by show A.depth + 1 + 3 < _; omega) R hp al hu hc fun e s' Y => ?_⟩
  refine ⟨e, fr, _, H, rfl, deep hf _, Y, fun s₂ S₂ => ?_⟩
  exact x_ret S₂ pu_bool fun v s₃ hv S₃ => by subst hv; exact h s₃ S₃.popped
end
end Mine

end

section
open PySem PySem.W PyProof.Rows PySem.Calls
set_option Elab.async false
set_option maxRecDepth 100000
set_option linter.unusedVariables false
namespace Mine

def dLPut : Def := mkD 948 "_law_put" "_law_put" (topAt 21) [] .none .none
theorem scLPut : ScOk dLPut.scope := ScOk.of (by decide +kernel)

/-- the books are the same -/
structure SameB (σ τ : Sg) : Prop where
  rn : τ.rn = σ.rn
  row : τ.row = σ.row
  kn : τ.kn = σ.kn
  kw : τ.kw = σ.kw
theorem SameB.refl (σ : Sg) : SameB σ σ := ⟨rfl, rfl, rfl, rfl⟩
theorem SameB.trans {σ τ υ : Sg} (h : SameB σ τ) (k : SameB τ υ) : SameB σ υ := ⟨k.rn.trans h.rn, k.row.trans h.row, k.kn.trans h.kn, k.kw.trans h.kw⟩
theorem sb_addNode (σ : Sg) (u : Int) : SameB σ (σ.addNode u) := by unfold Sg.addNode; split <;> exact ⟨rfl, rfl, rfl, rfl⟩
theorem sb_addEdge (σ : Sg) (u v c d : Int) : SameB σ (σ.addEdge u v c d) := ((sb_addNode σ u).trans (sb_addNode _ v)).trans ⟨rfl, rfl, rfl, rfl⟩
theorem sb_half (σ : Sg) (u l : Int) (b : Bool) : SameB σ (σ.half u l b) := by unfold Sg.half; split <;> exact ⟨rfl, rfl, rfl, rfl⟩
theorem sb_heCw (σ : Sg) (u v r c l : Int) : SameB σ (σ.heCw u v r c l) := by
  unfold Sg.heCw
  dsimp only
  refine SameB.trans ?_ (sb_half _ u l _)
  exact (sb_addEdge σ u v r c).trans ⟨rfl, rfl, rfl, rfl⟩
theorem sb_heCcw (σ : Sg) (u v r c l : Int) : SameB σ (σ.heCcw u v r c l) := by
  unfold Sg.heCcw
  dsimp only
  refine SameB.trans ?_ (sb_half _ u l _)
  exact (sb_addEdge σ u v c r).trans ⟨rfl, rfl, rfl, rfl⟩

def insI (l : List Int) (i : Nat) (v : Int) : List Int := l.take i ++ v :: l.drop i
def Sg.lastOf (σ : Sg) (u : Int) : Int := ((σ.so u).getLast?).getD 0
def Sg.refOf (σ : Sg) (u k : Int) : Int := (σ.row u).getD (k.fmod (σ.row u).length).toNat 0
def Sg.put (σ : Sg) (u v road k : Int) : Sg :=
  if σ.row u = [] then { σ.addEdge u v v v with row := fset σ.row u [v] }
  else
    let r := σ.refOf u k
    let i := (σ.row u).idxOf r
    if road.fmod 2 = 0 then { σ.heCw u v r (σ.cc u r) (σ.lastOf u) with row := fset σ.row u (insI (σ.row u) i v) }
    else { σ.heCcw u v r (σ.cw u r) (σ.lastOf u) with row := fset σ.row u (insI (σ.row u) (i + 1) v) }

structure Sg.CanPut (σ : Sg) (u v : Int) : Prop where
  free : σ.Free u v
  rn : u ∈ σ.rn
  len : (σ.row u).length ≤ 900
  nil : σ.row u = [] → u ∈ σ.ns → σ.so u = []
  more : σ.row u ≠ [] → u ∈ σ.ns ∧ (σ.so u).getLast? = some (σ.lastOf u) ∧ ∀ r ∈ σ.row u, r ∈ σ.so u ∧ σ.cc u r ∈ σ.so u ∧ σ.cw u r ∈ σ.so u

section
variable {P : Params} {prog : Program} {w : World} {K : Frag} {base : Heap} {os : Os} {A : Around} {E : Value → Shared → Prop} {fr : Frs} {H : Led} {s : Shared} {env : Env} {vs : List (Option Value)} {p a ra ka : Addr} {ρ : Rho} {σ : Sg} {u v road k : Int} {tu tv tr tk : Tok}

theorem row_kept {H' : Led} {ρ' : Rho} {u' v' x : Int} (hk : Keep (NewEdge σ u' v') H ρ H' ρ') (ha : ρ a = some (.row x)) : ρ' a = some (.row x) :=
  hk.role _ _ ha fun q => by
    rcases q with q | ⟨_, q⟩ | ⟨_, q⟩
    · cases q
    all_goals (rcases q with q | q | q <;> cases q)

theorem law_put_ok {Q : Value → Shared → Prop} (hD : dLPut.In K) (F : KH prog K) (bLen : nsIn K mainGlobals "len" = some none) (Z : Sta K base) (S : St prog w base os fr H s) (hh : A.handled = none) (hA : A.depth + 6 < recursionLimit) (hU : A.units + 20 < cLine) (R : Rep w.params H ρ σ) (hp : ρ p = some .self) (hr : ρ ra = some .rows) (al : σ.Al) (hm : σ.Sm) (hrn : σ.rn.length ≤ 900)
    (hc : σ.CanPut u v) (hr0 : 0 ≤ road) (hr4 : road < 4)
    (h : ∀ s' H' ρ', St prog w base os fr H' s' → Rep w.params H' ρ' (σ.put u v road k) → Keep (NewEdge σ u v) H ρ H' ρ' → Q .none s') : wpAny (model prog w) A (call (.ref 948) [.ref p, .ref ra, .int u tu, .int v tv, .int road tr, .int k tk]) Q E s := by
  have C := scLPut
  refine call_plain (D := dLPut) (n := 3) (binds := [("picture", .ref p), ("rows", .ref ra), ("e", .int u tu), ("f", .int v tv), ("road", .int road tr), ("k", .int k tk)]) S Z (by omega) hD (by decide +kernel) C rfl rfl (fun _ _ _ _ => rfl) rfl rfl fun L s₁ S₁ => ?_
  replace S₁ : St prog w base os ((dLPut.env L, fm (dLPut.env L).scope.names [some (.ref p), some (.ref ra), some (.int u tu), some (.int v tv), some (.int road tr), some (.int k tk), none, none, none]) :: fr) H s₁ := S₁
  obtain ⟨kr, er, hrA, rr⟩ := R.rows hr
  obtain ⟨aL, hvL, hrL⟩ := rr.find hc.rn
  obtain ⟨us, hL, hI⟩ := R.row hrL
  have hlen := hI.length
  have hl9 := hc.len
  rw [BodyOk]
  refine x_as 6 S₁ C rfl (pu_sub (pu_v 1 C rfl rfl) (pu_i 2 C rfl rfl) hrA hvL) (by show 6 < 9; decide) fun x s₂ hx S₂ => ?_
  subst hx
  refine x_ifG (tu_eqNil (fun _ => trivial) (pu_v 6 C rfl rfl) hL hI (by show A.units + 3 < _; omega) S₂ fun s₃ S₃ => ?_)
  by_cases hz : σ.row u = []
  · rw [hz]
    refine x_expr (ev_pic S₃ Z F.toKA F.mHalf R hp (pu_v 0 C rfl rfl) (fun _ _ _ _ _ => by cases σ.adj <;> rfl) rfl rfl fun s₄ S₄ => ?_)
    refine Pu.go (pu_v 2 C rfl rfl) S₄ fun _ s₅ x S₅ => ?_
    subst x
    refine Pu.go (pu_v 3 C rfl rfl) S₅ fun _ s₆ x S₆ => ?_
    subst x
    refine ⟨S₆.kin Z, half_new F.hb0 F.toKG Z S₆ (by exact hh) (by show A.depth + 1 + 4 < _; omega) R hp al hm hc.free.ne (hc.nil hz) hc.free.po fun s₇ H₇ ρ₇ S₇ R₇ k₇ => ⟨rfl, ?_⟩⟩
    have hrL₇ := row_kept k₇ hrL
    obtain ⟨us₇, hL₇, hI₇⟩ := R₇.row hrL₇
    have sb := sb_addEdge σ u v v v
    rw [sb.row, hz] at hI₇
    cases hI₇
    refine x_meth slot_list_append type_list_append S₇ (pu_v 6 C rfl rfl) hL₇ rfl fun s₈ S₈ => ?_
    refine pu_v (env := dLPut.env L) 3 C rfl rfl _ _ _ _ S₈ fun x s₉ hx S₉ => ?_
    subst hx
    refine li_append S₉ hL₇ (by simp) fun s₁₀ S₁₀ => ⟨rfl, ?_⟩
    refine x_ret S₁₀ pu_none fun x s₁₁ hx S₁₁ => ?_
    subst hx
    have R₁₀ := row_set R₇ hrL₇ (show IntsAre ([] ++ [.int v tv]) [v] from .cons v tv .nil)
    refine h s₁₁ _ ρ₇ S₁₁.popped ?_ (k₇.trans (Keep.refl.set hrL₇))
    unfold Sg.put
    rw [if_pos hz, ← sb.row]
    exact R₁₀
  · have hz' : (σ.row u == []) = false := by simpa using hz
    rw [hz']
    obtain ⟨m1, m2, m3⟩ := hc.more hz
    have hpos : 0 < (σ.row u).length := List.length_pos_iff.mpr hz
    refine x_nil ?_
    have n0 : 0 ≤ k.fmod (σ.row u).length := Int.fmod_nonneg_of_pos k (by omega)
    have n1 : k.fmod (σ.row u).length < (σ.row u).length := Int.fmod_lt_of_pos k (by omega)
    have hrm : σ.refOf u k ∈ σ.row u := by
      unfold Sg.refOf
      rw [List.getD_eq_getElem?_getD, List.getElem?_eq_getElem (by omega)]
      exact List.getElem_mem _
    refine x_as 7 S₃ C rfl (pu_item (pu_v 6 C rfl rfl) (pu_mod (y := (us.length : Nat)) (by omega) (pu_i 5 C rfl rfl) (pu_len 9 Z C rfl rfl rfl bLen (pu_v 6 C rfl rfl) hL (by omega) rfl)) hL hI (by omega) (by rw [hlen]; exact n0) (by rw [hlen]; exact n1)) (by show 7 < 9; decide) fun x s₄ hx S₄ => ?_
    rw [hlen] at hx
    change IsI (σ.refOf u k) x at hx
    obtain ⟨tx, rfl⟩ := hx
    generalize hg : σ.refOf u k = r at *
    obtain ⟨m4, m5, m6⟩ := m3 r hrm
    -- i = line.index(ref)
    refine x_asG 8 S₄ C rfl (mcall (Pu.go (pu_v 6 C rfl rfl) S₄ fun _ s₅ x S₅ => ?_))
    subst x
    refine md_li PySem.F.slot_list_index PySem.F.type_list_index S₅ hL (cwB rfl ?_)
    refine pu_v (env := dLPut.env L) 7 C rfl rfl _ _ _ _ S₅ fun x s₆ hx S₆ => ?_
    subst hx
    refine li_index S₆ hL hI (by omega) hrm fun s₇ ti S₇ => ⟨fr, H, _, _, S₇, rfl, by show 8 < 9; decide, fun s₈ S₈ => ?_⟩
    have hidx : (σ.row u).idxOf r < (σ.row u).length := List.idxOf_lt_length_iff.mpr hrm
    -- what follows behind the half edge
    have tail : ∀ (τ : Sg) (b : Bool) (s₉ : Shared) (H₉ : Led) (ρ₉ : Rho), St prog w base os ((dLPut.env L, fm (dLPut.env L).scope.names [some (.ref p), some (.ref ra), some (.int u tu), some (.int v tv), some (.int road tr), some (.int k tk), some (.ref aL), some (.int r tx), some (.int ((σ.row u).idxOf r : Nat) ti)]) :: fr) H₉ s₉ →
        Rep w.params H₉ ρ₉ τ → Keep (NewEdge σ u v) H ρ H₉ ρ₉ → SameB σ τ → (road.fmod 2 == 0) = b → σ.put u v road k = { τ with row := fset τ.row u (insI (σ.row u) (if b then (σ.row u).idxOf r else (σ.row u).idxOf r + 1) v) } →
        wpAny (model prog w) (A.deeper (dLPut.env L)) (execs (dLPut.body.drop 5) (dLPut.env L)) (fun fl s' => Q (retOf fl) s') (fun e s' => wpAny (model prog w) (A.deeper (dLPut.env L)) (leaving (dLPut.env L) e) (fun _ s'' => E e s'') E s') s₉ := by
      intro τ b s₉ H₉ ρ₉ S₉ R₉ k₉ sb hb hput
      have hrL₉ := row_kept k₉ hrL
      obtain ⟨us₉, hL₉, hI₉⟩ := R₉.row hrL₉
      rw [sb.row] at hI₉
      have hl₉ := hI₉.length
      refine x_meth PySem.F.slot_list_insert PySem.F.type_list_insert S₉ (pu_v 6 C rfl rfl) hL₉ rfl fun s₁₀ S₁₀ => ?_
      refine wpAny_IfExp ((tu_cmp (fr := fr) (pu_mod (x := road) (y := 2) (by decide) (pu_i (env := dLPut.env L) 4 C rfl rfl) pu_int) (pu_int (k := 0)) cmp_eq) _ _ _ _ S₁₀ fun s₁₁ S₁₁ => ?_)
      rw [hb]
      have fin : ∀ (j : Nat) (tj : Tok) (s₁₂ : Shared), j ≤ (σ.row u).length → σ.put u v road k = { τ with row := fset τ.row u (insI (σ.row u) j v) } → St prog w base os ((dLPut.env L, fm (dLPut.env L).scope.names [some (.ref p), some (.ref ra), some (.int u tu), some (.int v tv), some (.int road tr), some (.int k tk), some (.ref aL), some (.int r tx), some (.int ((σ.row u).idxOf r : Nat) ti)]) :: fr) H₉ s₁₂ →
          evL (model prog w) (A.deeper (dLPut.env L)) (fun e s' => wpAny (model prog w) (A.deeper (dLPut.env L)) (leaving (dLPut.env L) e) (fun _ s'' => E e s'') E s') (dLPut.env L) (match dLPut.body.drop 5 with | Stmt.Expr (PySem.Expr.Call _ (_ :: r) _ _) _ :: _ => r | _ => [])
            (fun vs s₁ => wpAny (model prog w) (A.deeper (dLPut.env L)) (call (.builtin "list.insert") (.ref aL :: .int (j : Nat) tj :: vs)) (fun v s₂ => v = .none ∧ wpAny (model prog w) (A.deeper (dLPut.env L)) (execs (dLPut.body.drop 6) (dLPut.env L)) (fun fl s' => Q (retOf fl) s') (fun e s' => wpAny (model prog w) (A.deeper (dLPut.env L)) (leaving (dLPut.env L) e) (fun _ s'' => E e s'') E s') s₂) (fun e s' => wpAny (model prog w) (A.deeper (dLPut.env L)) (leaving (dLPut.env L) e) (fun _ s'' => E e s'') E s') s₁) s₁₂ := by
        intro j tj s₁₂ hj hput' S₁₂
        refine pu_v (env := dLPut.env L) 3 C rfl rfl _ _ _ _ S₁₂ fun x s₁₃ hx S₁₃ => ?_
        subst hx
        refine li_insert S₁₃ hL₉ (by omega) (by omega) (by omega) fun s₁₄ S₁₄ => ⟨rfl, ?_⟩
        refine x_ret S₁₄ pu_none fun x s₁₅ hx S₁₅ => ?_
        subst hx
        refine h s₁₅ _ ρ₉ S₁₅.popped ?_ (k₉.trans (Keep.refl.set hrL₉))
        rw [hput']
        exact row_set R₉ hrL₉ (IntsAre.insertI hI₉ j v tv)
      cases b with
      | true => exact pu_v (env := dLPut.env L) 8 C rfl rfl _ _ _ _ S₁₁ fun x s₁₂ hx S₁₂ => by subst hx; exact fin _ _ _ (by omega) hput S₁₂
      | false =>
        exact pu_add (env := dLPut.env L) (pu_i 8 C rfl rfl) pu_int _ _ _ _ S₁₁ fun x s₁₂ ⟨tx, hx⟩ S₁₂ => by
          subst hx
          exact fin ((σ.row u).idxOf r + 1) _ _ (by omega) hput S₁₂
    have hputE : road.fmod 2 = 0 → σ.put u v road k = { σ.heCw u v r (σ.cc u r) (σ.lastOf u) with row := fset σ.row u (insI (σ.row u) ((σ.row u).idxOf r) v) } := fun e => by
      unfold Sg.put; rw [if_neg hz]; simp only [hg, if_pos e]
    have hputO : ¬ road.fmod 2 = 0 → σ.put u v road k = { σ.heCcw u v r (σ.cw u r) (σ.lastOf u) with row := fset σ.row u (insI (σ.row u) ((σ.row u).idxOf r + 1) v) } := fun e => by
      unfold Sg.put; rw [if_neg hz]; simp only [hg, if_neg e]
    have hcases : road = 0 ∨ road = 1 ∨ road = 2 ∨ road = 3 := by omega
    refine x_if S₈ (tu_cmp (pu_i 4 C rfl rfl) pu_int cmp_eq) fun s₉ S₉ => ?_
    have hso := hc.free.so m1
    rcases hcases with rfl | rfl | rfl | rfl
    · refine x_expr (ev_pic S₉ Z F.toKA F.mHalf R hp (pu_v 0 C rfl rfl) (fun _ _ _ _ _ => by cases σ.adj <;> rfl) rfl rfl fun s₁₀ S₁₀ => ?_)
      refine Pu.go (pu_v 2 C rfl rfl) S₁₀ fun _ s₁₁ x S₁₁ => ?_
      subst x
      refine Pu.go (pu_v 3 C rfl rfl) S₁₁ fun _ s₁₂ x S₁₂ => ?_
      subst x
      refine Pu.go (pu_v 7 C rfl rfl) S₁₂ fun _ s₁₃ x S₁₃ => ?_
      subst x
      refine ⟨S₁₃.kin Z, half_cw F.toKG Z S₁₃ (by exact hh) (by show A.depth + 1 + 4 < _; omega) R hp al hm hc.free.ne m1 hso hc.free.po m4 m5 m2 fun s' H' ρ' S' R' k' => ⟨rfl, ?_⟩⟩
      exact x_nil (tail _ true s' H' ρ' S' R' k' (sb_heCw ..) rfl (by rw [hputE rfl, (sb_heCw ..).row]; rfl))
    · refine x_if S₉ (tu_cmp (pu_i 4 C rfl rfl) pu_int cmp_eq) fun s₁₀ S₁₀ => ?_
      refine x_expr (ev_pic S₁₀ Z F.toKA F.mHalf R hp (pu_v 0 C rfl rfl) (fun _ _ _ _ _ => by cases σ.adj <;> rfl) rfl rfl fun s₁₁ S₁₁ => ?_)
      refine Pu.go (pu_v 2 C rfl rfl) S₁₁ fun _ s₁₂ x S₁₂ => ?_
      subst x
      refine Pu.go (pu_v 3 C rfl rfl) S₁₂ fun _ s₁₃ x S₁₃ => ?_
      subst x
      refine Pu.go (pu_v 7 C rfl rfl) S₁₃ fun _ s₁₄ x S₁₄ => ?_
      subst x
      refine ⟨S₁₄.kin Z, half_ccw F.toKG Z S₁₄ (by exact hh) (by show A.depth + 1 + 4 < _; omega) R hp al hm hc.free.ne m1 hso hc.free.po m4 m6 m2 fun s' H' ρ' S' R' k' => ⟨rfl, ?_⟩⟩
      exact x_nil (x_nil (tail _ false s' H' ρ' S' R' k' (sb_heCcw ..) rfl (by rw [hputO (by decide), (sb_heCcw ..).row]; rfl)))
    · refine x_if S₉ (tu_cmp (pu_i 4 C rfl rfl) pu_int cmp_eq) fun s₁₀ S₁₀ => ?_
      refine x_if S₁₀ (tu_cmp (pu_i 4 C rfl rfl) pu_int cmp_eq) fun s₁₁ S₁₁ => ?_
      refine x_expr (ev_pic S₁₁ Z F.toKA F.mCcw R hp (pu_v 0 C rfl rfl) (fun _ _ _ _ _ => by cases σ.adj <;> rfl) rfl rfl fun s₁₂ S₁₂ => ?_)
      refine Pu.go (pu_v 2 C rfl rfl) S₁₂ fun _ s₁₃ x S₁₃ => ?_
      subst x
      refine Pu.go (pu_v 3 C rfl rfl) S₁₃ fun _ s₁₄ x S₁₄ => ?_
      subst x
      refine Pu.go (pu_v 7 C rfl rfl) S₁₄ fun _ s₁₅ x S₁₅ => ?_
      subst x
      refine ⟨S₁₅.kin Z, ccw_ok F Z S₁₅ (by exact hh) (by show A.depth + 1 + 5 < _; omega) R hp al hm hc.free m1 m4 m5 m2 fun s' H' ρ' S' R' k' => ⟨rfl, ?_⟩⟩
      exact x_nil (x_nil (x_nil (tail _ true s' H' ρ' S' R' k' (sb_heCw ..) rfl (by rw [hputE rfl, (sb_heCw ..).row]; rfl))))
    · refine x_if S₉ (tu_cmp (pu_i 4 C rfl rfl) pu_int cmp_eq) fun s₁₀ S₁₀ => ?_
      refine x_if S₁₀ (tu_cmp (pu_i 4 C rfl rfl) pu_int cmp_eq) fun s₁₁ S₁₁ => ?_
      refine x_expr (ev_pic S₁₁ Z F.toKA F.mCw R hp (pu_v 0 C rfl rfl) (fun _ _ _ _ _ => by cases σ.adj <;> rfl) rfl rfl fun s₁₂ S₁₂ => ?_)
      refine Pu.go (pu_v 2 C rfl rfl) S₁₂ fun _ s₁₃ x S₁₃ => ?_
      subst x
      refine Pu.go (pu_v 3 C rfl rfl) S₁₃ fun _ s₁₄ x S₁₄ => ?_
      subst x
      refine Pu.go (pu_v 7 C rfl rfl) S₁₄ fun _ s₁₅ x S₁₅ => ?_
      subst x
      refine ⟨S₁₅.kin Z, cw_ok F Z S₁₅ (by exact hh) (by show A.depth + 1 + 5 < _; omega) R hp al hm hc.free m1 m4 m6 m2 fun s' H' ρ' S' R' k' => ⟨rfl, ?_⟩⟩
      exact x_nil (x_nil (x_nil (tail _ false s' H' ρ' S' R' k' (sb_heCcw ..) rfl (by rw [hputO (by decide), (sb_heCcw ..).row]; rfl))))
end
end Mine

end

section
open PySem PySem.W PyProof.Rows PySem.Calls
set_option Elab.async false
set_option maxRecDepth 100000
set_option linter.unusedVariables false
namespace Mine

def dLRound : Def := mkD 934 "_law_round" "_law_round" (topAt 19) [] .none .none
theorem scLRound : ScOk dLRound.scope := ScOk.of (by decide +kernel)
def rotI (l : List Int) (m : Int) : List Int := l.drop (l.idxOf m) ++ l.take (l.idxOf m)

section
variable {P : Params} {prog : Program} {w : World} {K : Frag} {base : Heap} {os : Os} {A : Around} {E : Value → Shared → Prop} {fr : Frs} {H H' : Led} {s : Shared} {env : Env} {vs : List (Option Value)} {p a ra ka : Addr} {us : List Value} {ns : List Int}

theorem St.weak (S : St prog w base os fr H' s) (h : ∀ a d, H a = some d → H' a = some d) : St prog w base os fr H s := ⟨S.wd.forget h, S.bare, S.os⟩

theorem law_round_ok {Q : Value → Shared → Prop} (hD : dLRound.In K) (bMin : nsIn K mainGlobals "min" = some none) (Z : Sta K base) (S : St prog w base os fr H s) (hh : A.handled = none) (hA : A.depth < recursionLimit) (e : H a = some (.li us)) (hi : IntsAre us ns) (hz : us.length ≤ 400) (hne : 0 < ns.length)
    (q : ∀ b s' us' M, H b = none → St prog w base os fr (upd H b (.li us')) s' → M ∈ ns → (∀ x, x ∈ ns → M ≤ x) → IntsAre us' (rotI ns M) → Q (.ref b) s') : wpAny (model prog w) A (call (.ref 934) [.ref a]) Q E s := by
  have C := scLRound
  refine call_plain (D := dLRound) (n := 1) (binds := [("row", .ref a)]) S Z hA hD (by decide +kernel) C rfl rfl (fun _ _ _ _ => rfl) rfl rfl fun L s₁ S₁ => ?_
  replace S₁ : St prog w base os ((dLRound.env L, fm (dLRound.env L).scope.names [some (.ref a), none]) :: fr) H s₁ := S₁
  rw [BodyOk]
  refine x_asG 1 S₁ C rfl (mcall (Pu.go (pu_v 0 C rfl rfl) S₁ fun _ s₂ x S₂ => ?_))
  subst x
  refine md_li PySem.F.slot_list_index PySem.F.type_list_index S₂ e (cwB rfl ?_)
  refine ev_call (nm_builtin (i := 2) S₂ Z C rfl rfl rfl ⟨bMin, boot_min, by decide +kernel⟩ (cwB rfl ?_))
  refine pu_v (env := dLRound.env L) 0 C rfl rfl _ _ _ _ S₂ fun x s₃ hx S₃ => ?_
  subst hx
  refine li_min (by exact hh) S₃ e hi hne fun s₄ M t S₄ hM hle => ?_
  refine li_index S₄ e hi (by omega) hM fun s₅ ti S₅ => ⟨fr, H, _, _, S₅, rfl, by show 1 < 2; decide, fun s₆ S₆ => ?_⟩
  have hlen := hi.length
  have hj : ns.idxOf M < ns.length := List.idxOf_lt_length_iff.mpr hM
  refine wpAny_execs_cons (wpAny_Return_some (wpAny_BinOp ?_))
  refine ev_from S₆ (pu_v 0 C rfl rfl) (pu_i 1 C rfl rfl) e (by omega) (by omega) fun b s₇ hb S₇ => ?_
  have nab : a ≠ b := fun z => by rw [z, hb] at e; cases e
  refine ev_upto S₇ (pu_v 0 C rfl rfl) (pu_i 1 C rfl rfl) (fun s' S' => S'.li ((upd_ne _ _ nab).trans e)) (by omega) (by omega) fun c s₈ hc S₈ => ?_
  have nbc : b ≠ c := fun z => by rw [← z, upd_self] at hc; cases hc
  refine li_add S₈ ((upd_ne _ _ nbc).trans (upd_self ..)) (upd_self ..) (by simp only [List.length_drop, List.length_take]; omega) fun d s₉ hd S₉ => ?_
  have hHd : H d = none := by
    cases z : H d with
    | none => rfl
    | some x =>
      have n1 : d ≠ b := fun z' => by rw [z', hb] at z; cases z
      have n2 : d ≠ c := fun z' => by rw [z'] at hd; rw [upd_self] at hd; cases hd
      rw [upd_ne _ _ n2, upd_ne _ _ n1, z] at hd; cases hd
  refine q d s₉ (us.drop (↑(ns.idxOf M) : Int).toNat ++ us.take (↑(ns.idxOf M) : Int).toNat) M hHd (S₉.popped.weak fun x y hx => ?_) hM hle ?_
  · by_cases z : x = d
    · rw [z, upd_self] at hx ⊢; exact hx
    · rw [upd_ne _ _ z] at hx ⊢
      have n1 : x ≠ b := fun z' => by rw [z', hb] at hx; cases hx
      have n2 : x ≠ c := fun z' => by rw [z'] at hx; rw [← upd_ne H (.li (us.drop (↑(ns.idxOf M) : Int).toNat)) nbc.symm, hc] at hx; cases hx
      rw [upd_ne _ _ n2, upd_ne _ _ n1]; exact hx
  · exact (hi.drop _).append (hi.take _)
end
end Mine

end

section
open PySem PySem.W PyProof.Rows PySem.Calls
set_option Elab.async false
set_option maxRecDepth 100000
set_option linter.unusedVariables false
namespace Mine

def dGIter : Def := mkD 321 "__iter__" "Graph.__iter__" (subAt 12 8) [] .none .none
def dGLen : Def := mkD 335 "__len__" "Graph.__len__" (subAt 12 10) [] .none .none
theorem scGIter : ScOk dGIter.scope := ScOk.of (by decide +kernel)
theorem scGLen : ScOk dGLen.scope := ScOk.of (by decide +kernel)
structure KO (K : Frag) : Prop extends KA K where
  gIter : dGIter.In K
  fIter : findIn K (.ref peA) "__iter__" = some (some (.ref 321))
  tIter : typeIn K (.ref 321) = some (.type "function")
  gLen : dGLen.In K
  fLen : findIn K (.ref peA) "__len__" = some (some (.ref 335))
  tLen : typeIn K (.ref 335) = some (.type "function")
  bIter : nsIn K mainGlobals "iter" = some none
  bLen : nsIn K mainGlobals "len" = some none
theorem boot_iter : bootBuiltins "iter" = some (.builtin "iter") := by first | rfl | kernel_rfl

section
variable {M : Model} {A : Around} {E : Value → Shared → Prop} {s : Shared} {K : Frag} {x C f : Addr} {ox : Obj} {od : Option Obj}
/-- iter(x), where the class has an __iter__ of the text -/
theorem inst_iter {Q : Value → Shared → Prop} (X : K.In s.heap) (I : InstAt s.heap x ox C od) (hs : findIn K (.ref C) "__iter__" = some (some (.ref f))) (hf : typeIn K (.ref f) = some (.type "function"))
    (h : wpAny M A (call (.ref f) [.ref x]) (fun it s' => wpAny M A (specialOf it "__next__") (fun r s₂ => ∃ g, r = some g ∧ Q it s₂) E s') E s) : wpAny M A (pyIter (.ref x)) Q E s := by
  have fin : ∀ refuse : Sem Value, wpAny M A (if (Value.ref f == Value.none) = true then (refuse >>= fun v => pure (some v)) else (call (.ref f) [.ref x] >>= fun v => pure (some v)))
      (fun r s' => ∃ it, r = some it ∧ wpAny M A (specialOf it "__next__") (fun r s₂ => ∃ g, r = some g ∧ Q it s₂) E s') E s := fun refuse => by
    rw [if_neg (show ¬ ((Value.ref f == Value.none) = true) from Bool.false_ne_true)]
    exact wpAny_bind (wpAny_mono h (fun v s' q => wpAny_pure ⟨v, rfl, q⟩) fun _ _ z => z)
  have one : ∀ refuse : Sem Value, wpAny M A (callSpecialIfBoundUnlessNone? (.ref x) "__iter__" refuse) (fun r s' => ∃ it, r = some it ∧ wpAny M A (specialOf it "__next__") (fun r s₂ => ∃ g, r = some g ∧ Q it s₂) E s') E s := by
    intro refuse
    simp only [callSpecialIfBoundUnlessNone?, bindSpecialIfBound?]
    refine wpAny_holding (wpAny_bind (wpAny_bind (wpAny_bind (I.type.here ((looks_findIn X hs).here ?_)))))
    refine wpAny_bind (wpAny_askSetting (wpAny_ite ?_))
    split
    · exact wpAny_bind ((bind_fn X _ hf).here (wpAny_pure (fin refuse)))
    · exact wpAny_tryCatch (wpAny_bind ((bind_fn X _ hf).here (wpAny_pure (fin refuse))))
  unfold pyIter
  refine wpAny_bind (wpAny_bind (I.type.here ((looks_findIn X hs).here ?_)))
  show wpAny M A (callSpecialIfBoundUnlessNone? (.ref x) "__iter__" _ >>= _) Q E s
  refine wpAny_bind (wpAny_mono (one _) (fun r s' hr => ?_) fun _ _ z => z)
  obtain ⟨v, rfl, hv⟩ := hr
  refine wpAny_bind (wpAny_mono hv (fun r s₂ hr => ?_) fun _ _ z => z)
  obtain ⟨g, rfl, hq⟩ := hr
  exact wpAny_pure hq
end
section
variable {prog : Program} {w : World} {A : Around} {E : Value → Shared → Prop} {s : Shared} {K : Frag} {x C f : Addr} {ox : Obj} {od : Option Obj}
theorem inst_len {Q : Value → Shared → Prop} (X : K.In s.heap) (I : InstAt s.heap x ox C od) (hs : findIn K (.ref C) "__len__" = some (some (.ref f))) (hf : typeIn K (.ref f) = some (.type "function"))
    (h : wpAny (model prog w) A.in1 (call (.ref f) [.ref x]) (fun v s' => ∃ n t, v = .int n t ∧ 0 ≤ n ∧ n < 2 ^ 63 ∧ Q (.int n s'.toks) { s' with toks := s'.toks + 1 }) E s) : wpAny (model prog w) A (call (.builtin "len") [.ref x]) Q E s := by
  refine Calls.call_function_entry kind_len plain_len entry_len (args_len1 _) ?_
  unfold Builtin.«len»
  refine wpAny_bind (m := oneArg "len" _) (wpAny_pure ?_)
  refine wpAny_bind (m := callSpecial? (.ref x) (Str.ofString "__len__")) (special_fn X I hs hf (wpAny_mono h (fun r s' hr => ?_) fun _ _ y => y))
  obtain ⟨n, t, rfl, h0, h1, hq⟩ := hr
  refine wpAny_bind (wpAny_holding (wpAny_pure ?_))
  refine wpAny_bind (wpAny_letGo ?_)
  show wpAny _ _ (if n < 0 then _ else _) _ _ _
  rw [if_neg (by omega)]
  show wpAny _ _ (if n ≥ 2 ^ 63 then _ else _) _ _ _
  rw [if_neg (by omega)]
  exact wpAny_bind (wpAny_mkInt (wpAny_pure ⟨_, rfl, hq⟩))
/-- list.extend's question for the length -/
theorem inst_hint {Q : Bool → Shared → Prop} (X : K.In s.heap) (I : InstAt s.heap x ox C od) (hs : findIn K (.ref C) "__len__" = some (some (.ref f))) (hf : typeIn K (.ref f) = some (.type "function"))
    (h : wpAny (model prog w) A (call (.builtin "len") [.ref x]) (fun v s' => ∃ n t, v = .int n t ∧ n.toNat ≤ 1000 ∧ Q (n != 0) s') (fun _ _ => False) s) : wpAny (model prog w) A (Builtin.List.listLengthHint (.ref x)) Q E s := by
  unfold Builtin.List.listLengthHint
  refine wpAny_bind (wpAny_bind (I.type.here ((looks_findIn X hs).here ?_)))
  refine wpAny_ite_split (fun hab => ?_) (fun _ => ?_)
  · exact absurd (show false = true from hab) Bool.false_ne_true
  refine wpAny_ite_split (fun _ => ?_) (fun hab => absurd rfl hab)
  refine wpAny_bind (wpAny_rule ?_)
  refine wpAny_bind (wpAny_attempt (wpAny_mono h (fun v s' hv => ?_) fun _ _ z => ?_))
  · obtain ⟨n, t, rfl, hn, hq⟩ := hv
    refine wpAny_bind (m := asInt? _) (wpAny_of_eq (a := some n) rfl ?_)
    refine wpAny_ite_split (fun hab => ?_) (fun _ => wpAny_pure hq)
    exact absurd hab (by unfold Builtin.List.listTooLong; rw [sizeLine_eq]; simp; omega)
  · exact z.elim
end
section
variable {P : Params} {prog : Program} {w : World} {K : Frag} {base : Heap} {os : Os} {A : Around} {E : Value → Shared → Prop} {fr : Frs} {H H' : Led} {s : Shared} {env : Env} {vs : List (Option Value)} {p a nA : Addr} {ρ : Rho} {σ : Sg} {ns : List Int}

theorem call_iter_di {kvs : List (Int × Value)} {ep : Nat} {Q : Value → Shared → Prop} (S : St prog w base os fr H s) (e : H a = some (.di kvs (some ep)))
    (q : ∀ it s' H', H it = none → St prog w base os fr H' s' → diD it a kvs ep 0 H' → (∀ x, x ≠ it → H' x = H x) → Q (.ref it) s') : wpAny (model prog w) A (call (.builtin "iter") [.ref a]) Q E s := by
  refine call_function_entry (by decide +kernel) (by decide +kernel) kdk_entry_iter (kdk_args_iter _) ?_
  unfold Builtin.«iter»
  refine wpAny_bind (m := someArgs "iter" 1 2 _) (wpAny_of_eq (a := [Value.ref a]) (by first | rfl | kernel_rfl!) ?_)
  show wpAny _ _ (pyIter (.ref a) >>= _) _ _ _
  exact wpAny_bind (iter_di S e fun it s' H' h1 h2 h3 h4 => wpAny_pure ⟨_, rfl, q it s' H' h1 h2 h3 h4⟩)

theorem gIter_ok {kvs : List (Int × Value)} {ep : Nat} {Q : Value → Shared → Prop} (F : KO K) (Z : Sta K base) (S : St prog w base os fr H s) (hA : A.depth < recursionLimit) (R : Rep w.params H ρ σ) (hp : ρ p = some .self) (hn : ρ nA = some .node) (e : H nA = some (.di kvs (some ep)))
    (q : ∀ it s' H', H it = none → St prog w base os fr H' s' → diD it nA kvs ep 0 H' → (∀ x, x ≠ it → H' x = H x) → Q (.ref it) s') : wpAny (model prog w) A (call (.ref 321) [.ref p]) Q E s := by
  have C := scGIter
  refine call_plain (D := dGIter) (n := 0) (binds := [("self", .ref p)]) S Z hA F.gIter (by decide +kernel) C rfl rfl (fun _ _ _ _ => rfl) rfl rfl fun L s₁ S₁ => ?_
  replace S₁ : St prog w base os ((dGIter.env L, fm (dGIter.env L).scope.names [some (.ref p)]) :: fr) H s₁ := S₁
  rw [BodyOk]
  refine wpAny_execs_cons (wpAny_Return_some (ev_call (nm_builtin (i := 1) S₁ Z C rfl rfl rfl ⟨F.bIter, boot_iter, by decide +kernel⟩ (cwB rfl ?_))))
  refine pu_node (env := dGIter.env L) (pu_v 0 C rfl rfl) Z F.toKA R hp hn _ _ _ _ S₁ fun x s₂ hx S₂ => ?_
  subst hx
  exact call_iter_di S₂ e fun it s₃ H₃ h1 S₃ h3 h4 => q it s₃ H₃ h1 S₃.popped h3 h4
theorem gLen_ok {kvs : List (Int × Value)} {ep : Option Nat} {Q : Value → Shared → Prop} (F : KO K) (Z : Sta K base) (S : St prog w base os fr H s) (hA : A.depth < recursionLimit) (R : Rep w.params H ρ σ) (hp : ρ p = some .self) (hn : ρ nA = some .node) (e : H nA = some (.di kvs ep)) (hz : kvs.length ≤ 1000)
    (q : ∀ s' t, St prog w base os fr H s' → Q (.int kvs.length t) s') : wpAny (model prog w) A (call (.ref 335) [.ref p]) Q E s := by
  have C := scGLen
  refine call_plain (D := dGLen) (n := 0) (binds := [("self", .ref p)]) S Z hA F.gLen (by decide +kernel) C rfl rfl (fun _ _ _ _ => rfl) rfl rfl fun L s₁ S₁ => ?_
  replace S₁ : St prog w base os ((dGLen.env L, fm (dGLen.env L).scope.names [some (.ref p)]) :: fr) H s₁ := S₁
  rw [BodyOk]
  refine wpAny_execs_cons (wpAny_Return_some (ev_call (nm_builtin (i := 1) S₁ Z C rfl rfl rfl ⟨F.bLen, boot_len, by decide +kernel⟩ (cwB rfl ?_))))
  refine pu_node (env := dGLen.env L) (pu_v 0 C rfl rfl) Z F.toKA R hp hn _ _ _ _ S₁ fun x s₂ hx S₂ => ?_
  subst hx
  exact di_len S₂ e hz fun s₃ t S₃ => q s₃ t S₃.popped

theorem touch_li {us : List Value} {Q : Unit → Shared → Prop} (S : St prog w base os fr H s) (e : H a = some (.li us)) (hz : us.length ≤ 900) (q : ∀ s', St prog w base os fr H s' → Q () s') : wpAny (model prog w) A (Builtin.List.listTouch (.ref a)) Q E s := by
  obtain ⟨n, ho⟩ := S.liO e
  show wpAny _ _ (updateSeq a (·.push .none) >>= fun _ => updateSeq a (·.pop)) _ _ _
  refine wpAny_bind (wpAny_updateSeq (hz := by rw [sizeLine_eq]; simp; omega) (_hz' := by rw [sizeLine_eq]; simp; omega) ho rfl ?_)
  have S₁ := S.updLi e (f := (·.push Value.none)) (us' := us ++ [.none]) (by simp) (t := s.toks)
  obtain ⟨n', ho'⟩ := S₁.liO (upd_self ..)
  refine wpAny_updateSeq (hz := by rw [sizeLine_eq]; simp; omega) (_hz' := by rw [sizeLine_eq]; simp; omega) ho' rfl (q _ ?_)
  have S₂ := S₁.updLi (upd_self ..) (f := (·.pop)) (us' := us) (by simp) (t := s.toks)
  rw [show upd (upd H a (.li (us ++ [.none]))) a (.li us) = H by funext b; simp only [upd]; split <;> simp_all] at S₂
  exact S₂

/-- collect(picture): its nodes -/
theorem collect_pic {Q : List Value → Shared → Prop} (F : KO K) (Z : Sta K base) (S : St prog w base os fr H s) (hh : A.handled = none) (hA : A.depth + 2 < recursionLimit) (R : Rep w.params H ρ σ) (hp : ρ p = some .self) (hz : σ.nn.length ≤ 900)
    (q : ∀ us s' H', St prog w base os fr H' s' → Rep w.params H' ρ σ → Keep (fun _ => False) H ρ H' ρ → IntsAre us σ.nn → Q us s') : wpAny (model prog w) A (collect (.ref p)) Q E s := by
  obtain ⟨gA, nA, sA, pA, B⟩ := R.picOf hp
  obtain ⟨kvs, ep₀, hnA, rn⟩ := R.node B.node
  obtain ⟨ep, S₀⟩ := S.pin hnA
  have R₀ : Rep w.params (upd H nA (.di kvs (some ep))) ρ σ := nn_set R B.node rn
  have k₀ : Keep (fun _ => False) H ρ (upd H nA (.di kvs (some ep))) ρ := Keep.refl.set B.node
  have e₀ : upd H nA (.di kvs (some ep)) nA = some (.di kvs (some ep)) := upd_self ..
  generalize upd H nA (.di kvs (some ep)) = H₀ at *
  have klen : kvs.length = σ.nn.length := rn.len
  unfold collect
  refine wpAny_bind (wpAny_runValue (codeAny_builtin entry_proto_collect' ?_))
  rw [Around.under_plainId PySem.F.plain_proto_collect _]
  show wpAny _ A.in1 (newList [] >>= fun l => again (.builtin "list.__iadd__" ⟨[l, .ref p], []⟩)) _ _ s
  refine wpAny_bind (wpAny_newObj_type ?_)
  refine wpAny_pure ⟨plainId_quiet PySem.F.plain_list_iadd _, codeAny_builtin entry_list_iadd' ?_⟩
  rw [Around.under_plainId PySem.F.plain_list_iadd _]
  have S₁ : St prog w base os fr (upd H₀ s.heap.objs.size (.li [])) { s with heap := s.heap.push { cls := .type "list", data := .seq ([] : List Value).toArray } } := S₀.heap (t := s.toks) (S₀.wd.push rfl ⟨0, rfl⟩)
  have hSf : H₀ s.heap.objs.size = none := S₀.wd.freshH
  generalize s.heap.objs.size = SA at *
  generalize ({ s with heap := s.heap.push { cls := .type "list", data := .seq ([] : List Value).toArray } } : Shared) = s₁ at *
  have hρS := R₀.none hSf
  have R₁ := R₀.temp hρS (.li [])
  obtain ⟨dx, t, g, n, sx, px, m, h1, h2, _⟩ := R₁.pic hp
  have I₁ := pic_inst S₁ h1 h2
  have nSp : SA ≠ p := fun z => by rw [z, hp] at hρS; cases hρS
  have nSn : nA ≠ SA := fun z => by rw [z, hSf] at e₀; cases e₀
  show wpAny _ A.in1 (Builtin.List.listExtendWith (.ref SA) (.ref p) (.ref SA)) _ _ _
  unfold Builtin.List.listExtendWith
  refine wpAny_bind (I₁.type.here ?_)
  have hsame : Builtin.List.listSameRef (.ref SA) (.ref p) = false := by simp [Builtin.List.listSameRef, nSp]
  have c1 : ((Value.ref peA) == Value.type "list") = false := by decide
  have c2 : ((Value.ref peA) == Value.type "tuple") = false := by decide
  simp only [hsame, c1, c2, Bool.or_false, Bool.false_eq_true, if_false]
  have hA1 : A.in1.depth = A.depth := rfl
  refine wpAny_bind (inst_iter (S₁.kin Z) I₁ F.fIter F.tIter (gIter_ok F Z S₁ (by rw [hA1]; omega) R₁ hp B.node ((upd_ne _ _ nSn).trans e₀) fun it s₂ H₂ hit S₂ hD hs => ?_))
  have nSit : SA ≠ it := fun z => by rw [← z, upd_self] at hit; cases hit
  have hit₀ : H₀ it = none := by rw [← hit]; exact (upd_ne _ _ nSit.symm).symm
  have hρit := R₀.none hit₀
  have R₂ : Rep w.params H₂ ρ σ := R₁.same hρit hs
  have hSA : H₂ SA = some (.li []) := (hs SA nSit).trans (upd_self ..)
  obtain ⟨oi, hoi, hci, hdi⟩ := S₂.fi hD.1
  refine wpAny_specialOf (T := "dict_keyiterator") ⟨oi, hoi, hci⟩ PySem.F.slot_dict_keyiterator_next.lookup ⟨_, rfl, ?_⟩
  obtain ⟨dx₂, t₂, g₂, n₂, sx₂, px₂, m₂, h1₂, h2₂, _⟩ := R₂.pic hp
  have I₂ := pic_inst S₂ h1₂ h2₂
  have last : ∀ s₄, St prog w base os fr H₂ s₄ → wpAny (model prog w) A.in1 (again (.builtin "list.extend.loop" ⟨[.ref SA, .ref it, .ref SA], []⟩))
      (fun fin s' => match fin with
        | .done f => (match f with | .ret v => wpAny (model prog w) A (match v with | .ref a => (load a >>= fun o => match o.data with | .seq xs _ => pure xs.toList | _ => unsupported "internal:collect") | _ => unsupported "internal:collect") Q E s' | _ => False)
        | .again c' => c'.quiet = true ∧ codeAny (model prog w) A c' (fun r s' => match r with | .ok (.ret v) => wpAny (model prog w) A (match v with | .ref a => (load a >>= fun o => match o.data with | .seq xs _ => pure xs.toList | _ => unsupported "internal:collect") | _ => unsupported "internal:collect") Q E s' | .ok _ => False | .error e => E e s') s') (fun e s' => E e s') s₄ := by
    intro s₄ S₄
    obtain ⟨nS, hoS⟩ := S₄.liO hSA
    obtain ⟨oi, hoi, hci, hdi⟩ := S₄.fi hD.1
    have hSf' : SA ∉ [it, nA] := by simp [nSit, nSn.symm]
    refine wpAny_pure ⟨plainId_quiet PySem.F.plain_extend_loop _, codeAny_extend_loopS (Walks.dictKeys (knd := intKind prog w) (A := A.in1) hh it nA (Ne.symm hD.2.2) kvs ep).toS (by rw [sizeLine_eq]; omega) SA hSf' (.ref SA) kvs.length 0 _ #[] nS rfl (Nat.zero_le _) ⟨⟨oi, hoi, hci, hdi⟩, S₄.dat hD.2.1⟩ hoS (ItemsOf.nil _) fun s' acc' c' hm hS' hacc => ?_⟩
    refine wpAny_bind (wpAny_load hS' ?_)
    refine wpAny_pure (q acc'.toList s' H₀ ⟨?_, ?_, ?_⟩ R₀ k₀ ?_)
    · refine (S₄.wd.forget (H' := H₀) fun b d hb => ?_).but (wr := [SA, it]) hm.heap (fun b hb => ?_) (fun b hb => ?_) (fun b hb p hp => ?_)
      · have n1 : b ≠ it := fun z => by rw [z, hit₀] at hb; cases hb
        have n2 : b ≠ SA := fun z => by rw [z, hSf] at hb; cases hb
        rw [hs b n1, upd_ne _ _ n2]; exact hb
      · simp only [List.mem_cons, List.not_mem_nil, or_false] at hb
        rcases hb with rfl | rfl
        · exact (S₄.wd.led _ _ hSA).1.2
        · exact (S₄.wd.led _ _ hD.1).1.2
      · simp only [List.mem_cons, List.not_mem_nil, or_false] at hb
        rcases hb with rfl | rfl
        · exact hSf
        · exact hit₀
      · simp only [List.mem_cons, List.not_mem_nil, or_false] at hb
        have := (S₄.wd.frs p hp).out
        rcases hb with rfl | rfl
        · intro z; rw [z, hSA] at this; cases this
        · intro z; rw [z, hD.1] at this; cases this
    · have := hm.gens; rw [show s'.gens = s₄.gens from this]; exact S₄.bare
    · exact ⟨hm.os.trans S₄.os.1, fun g d e => by rw [show s'.gens = s₄.gens from hm.gens, hm.drawn]; exact S₄.os.2 g d e⟩
    · refine intsAre_of (by rw [Array.length_toList]; exact hacc.1.trans klen) fun j v hv => ?_
      obtain ⟨k, x, hkx, hi⟩ := hacc.2 j v (by rw [← Array.getElem?_toList]; exact hv)
      exact ⟨k, by rw [← rn.1, List.getElem?_map, hkx]; rfl, Value.isInt_shape hi⟩
  refine wpAny_bind (wpAny_holding (inst_hint (S₂.kin Z) I₂ F.fLen F.tLen (inst_len (S₂.kin Z) I₂ F.fLen F.tLen (gLen_ok F Z S₂ (by show A.depth < _; omega) R₂ hp B.node hD.2.1 (by omega) fun s₃ t₃ S₃ => ⟨_, _, rfl, by omega, by omega, _, _, rfl, by omega, ?_⟩))))
  refine wpAny_ite_split (fun _ => ?_) (fun _ => last _ (S₃.toks _))
  refine wpAny_bind (wpAny_rule ?_)
  exact wpAny_bind (touch_li (S₃.toks _) hSA (by simp) fun s₄ S₄ => last s₄ S₄)
end
end Mine

end

section
open PySem PySem.W PyProof.Rows PySem.Calls
set_option Elab.async false
set_option maxRecDepth 100000
set_option linter.unusedVariables false
namespace Mine
section
variable {P : Params} {prog : Program} {w : World} {K : Frag} {base : Heap} {os : Os} {A : Around} {E : Value → Shared → Prop} {fr : Frs} {H H' : Led} {s : Shared} {env : Env} {vs : List (Option Value)} {p a nA : Addr} {ρ : Rho} {σ : Sg} {ns : List Int}

theorem sorted_by {x : Value} {Q : Value → Shared → Prop}
    (hc : wpAny (model prog w) A.in1 (collect x) (fun us s₁ => ∃ fr H ns, St prog w base os fr H s₁ ∧ IntsAre us ns ∧ us.length < 64 ∧ ∀ D us' ns' s', H D = none → St prog w base os fr (upd H D (.li us')) s' → IntsAre us' ns' → ns'.Perm ns → ns'.Pairwise (· ≤ ·) → Q (.ref D) s') E s) :
    wpAny (model prog w) A (call (.builtin "sorted") [x]) Q E s := by
  refine call_function_entry kind_sorted plain_sorted entry_sorted (args_sorted1 _) ?_
  unfold Builtin.«sorted»
  refine wpAny_bind (m := checkCount "sorted" 1 1 _) (wpAny_pure ?_)
  refine wpAny_bind (wpAny_mono hc (fun us s₁ h₁ => ?_) fun _ _ z => z)
  obtain ⟨fr, H, ns, S₁, hI, h64, q⟩ := h₁
  refine wpAny_bind (wpAny_newList ?_ (by rw [sizeLine_eq]; omega))
  have hoL : (s₁.heap.push (seqObj "list" us.toArray 0)).get? s₁.heap.objs.size = some (seqObj "list" us.toArray 0) := Heap.get?_push_size _ rfl
  refine wpAny_bind (wpAny_holding (wpAny_call_entry slot_list_sort ⟨_, hoL, rfl⟩ entry_list_sort (list_sort_tree (s := { s₁ with heap := s₁.heap.push (seqObj "list" us.toArray 0) }) hoL hI h64 fun out ns' a1 a2 a3 => ⟨_, rfl, ?_⟩) (args_list_sort _)))
  obtain ⟨e, he⟩ := sortedHeap_at (out := out) hoL
  have keep : ∀ b o, s₁.heap.get? b = some o → (sortedHeap (s₁.heap.push (seqObj "list" us.toArray 0)) s₁.heap.objs.size us out).get? b = some o := fun b o hb => by
    have hlt := Heap.lt_size hb
    rw [sortedHeap_old (Nat.ne_of_lt hlt) (by rw [Heap.size_push]; exact Nat.lt_succ_of_lt hlt)]
    exact Heap.get?_push_of_some _ hb
  exact wpAny_pure ⟨_, rfl, q _ out.toList ns' _ S₁.wd.freshH (S₁.heap (t := s₁.toks) (S₁.wd.grow keep (Heap.get?_none_of_le (Nat.le_refl _)) he ⟨e, by rw [Array.toArray_toList]⟩ S₁.wd.low)) a1 a2 a3⟩

theorem sorted_pic {Q : Value → Shared → Prop} (F : KO K) (Z : Sta K base) (S : St prog w base os fr H s) (hh : A.handled = none) (hA : A.depth + 2 < recursionLimit) (R : Rep w.params H ρ σ) (hp : ρ p = some .self) (hz : σ.nn.length < 64)
    (q : ∀ D us s' H' ns', St prog w base os fr (upd H' D (.li us)) s' → H' D = none → Rep w.params H' ρ σ → Keep (fun _ => False) H ρ H' ρ → IntsAre us ns' → ns'.Perm σ.nn → ns'.Pairwise (· ≤ ·) → Q (.ref D) s') : wpAny (model prog w) A (call (.builtin "sorted") [.ref p]) Q E s :=
  sorted_by (collect_pic F Z S (by exact hh) (by show A.depth + 2 < _; omega) R hp (by omega) fun us s' H' S' R' k' hI => ⟨fr, H', σ.nn, S', hI, by rw [hI.length]; exact hz, fun D us' ns' s'' hD S'' hI' h1 h2 => q D us' s'' H' ns' S'' hD R' k' hI' h1 h2⟩)

theorem sorted_di {kvs : List (Int × Value)} {ep : Option Nat} {Q : Value → Shared → Prop} (S : St prog w base os fr H s) (hh : A.handled = none) (e : H a = some (.di kvs ep)) (hz : kvs.length < 64)
    (q : ∀ D us s' ns', St prog w base os fr (upd H D (.li us)) s' → H D = none → IntsAre us ns' → ns'.Perm (kvs.map (·.1)) → ns'.Pairwise (· ≤ ·) → Q (.ref D) s') : wpAny (model prog w) A (call (.builtin "sorted") [.ref a]) Q E s := by
  obtain ⟨n, hat⟩ := (S.di e).dictAt
  refine sorted_by (base := base) (os := os) (kdu_collect (kdl_dict (knd := intKind prog w) (kvs := kvs) (ep := n) (S.nm e)) (by exact hh) hat (by rw [sizeLine_eq]; omega) fun h' tk acc hk hacc => ?_)
  have hl : acc.toList.length = kvs.length := by rw [Array.length_toList]; exact hacc.1
  refine ⟨fr, H, kvs.map (·.1), S.heap (S.wd.keeps hk), intsAre_of (by rw [hl, List.length_map]) fun j v hv => ?_, by omega, fun D us' ns' s' hD S' hI' h1 h2 => q D us' s' ns' S' hD hI' h1 h2⟩
  obtain ⟨k, x, hkx, hi⟩ := hacc.2 j v (by rw [← Array.getElem?_toList]; exact hv)
  exact ⟨k, by rw [List.getElem?_map, hkx]; rfl, Value.isInt_shape hi⟩
end
end Mine

end

section
open PySem PySem.W PyProof.Rows PySem.Calls
set_option Elab.async false
set_option maxRecDepth 100000
set_option linter.unusedVariables false
namespace Mine

/-- the law's own books -/
def Role.book : Role → Bool
  | .rows | .known | .row _ => true
  | _ => false
/-- the picture's roles alone -/
def Rho.only (ρ : Rho) : Rho := fun a => match ρ a with
  | some r => if r.book then none else some r
  | none => none
theorem only_some {ρ : Rho} {a : Addr} {r : Role} : ρ.only a = some r ↔ ρ a = some r ∧ r.book = false := by
  unfold Rho.only
  cases q : ρ a with
  | none => simp
  | some r' =>
    simp only [Option.some.injEq]
    by_cases hb : r'.book = true
    · rw [if_pos hb]
      constructor
      · intro h; cases h
      · rintro ⟨rfl, h⟩; rw [hb] at h; cases h
    · rw [if_neg hb]
      constructor
      · intro h; cases h; exact ⟨rfl, by simpa using hb⟩
      · rintro ⟨rfl, _⟩; rfl
theorem only_of {ρ : Rho} {a : Addr} {r : Role} (h : ρ a = some r) (hb : r.book = false) : ρ.only a = some r := only_some.mpr ⟨h, hb⟩
theorem only_none {ρ : Rho} {a : Addr} {r : Role} (h : ρ a = some r) (hb : r.book = true) : ρ.only a = none := by
  unfold Rho.only; rw [h]; simp [hb]
theorem only_none' {ρ : Rho} {a : Addr} (h : ρ a = none) : ρ.only a = none := by unfold Rho.only; rw [h]

section
variable {P : Params} {H H₀ H' : Led} {ρ ρ' : Rho} {σ σ' : Sg} {a b : Addr} {d : Desc} {r : Role}

theorem Refs.only {kvs : List (Int × Value)} {keys : List Int} {mk : Int → Role} (hb : ∀ u, (mk u).book = false) : Refs ρ.only kvs keys mk ↔ Refs ρ kvs keys mk := by
  constructor
  · rintro ⟨h1, h2⟩
    exact ⟨h1, fun k v hm => let ⟨a, e, q⟩ := h2 k v hm; ⟨a, e, (only_some.mp q).1⟩⟩
  · rintro ⟨h1, h2⟩
    exact ⟨h1, fun k v hm => let ⟨a, e, q⟩ := h2 k v hm; ⟨a, e, only_of q (hb k)⟩⟩
theorem Con.only (hr : r.book = false) : Con P ρ.only σ r d ↔ Con P ρ σ r d := by
  cases r with
  | self =>
    constructor
    · rintro ⟨dx, e, q⟩; exact ⟨dx, e, (only_some.mp q).1⟩
    · rintro ⟨dx, e, q⟩; exact ⟨dx, e, only_of q rfl⟩
  | dct =>
    constructor
    · rintro ⟨t, g, n, s, p, m, e, q1, q2, q3, q4⟩; exact ⟨t, g, n, s, p, m, e, (only_some.mp q1).1, (only_some.mp q2).1, (only_some.mp q3).1, (only_some.mp q4).1⟩
    · rintro ⟨t, g, n, s, p, m, e, q1, q2, q3, q4⟩; exact ⟨t, g, n, s, p, m, e, only_of q1 rfl, only_of q2 rfl, only_of q3 rfl, only_of q4 rfl⟩
  | g => exact Iff.rfl
  | node => exact exists_congr fun _ => exists_congr fun _ => and_congr_right fun _ => Refs.only fun _ => rfl
  | succ => exact exists_congr fun _ => exists_congr fun _ => and_congr_right fun _ => Refs.only fun _ => rfl
  | pred => exact exists_congr fun _ => exists_congr fun _ => and_congr_right fun _ => Refs.only fun _ => rfl
  | nd u => exact Iff.rfl
  | sd u => exact exists_congr fun _ => exists_congr fun _ => and_congr_right fun _ => Refs.only fun _ => rfl
  | pd u => exact exists_congr fun _ => exists_congr fun _ => and_congr_right fun _ => Refs.only fun _ => rfl
  | ed u v => exact Iff.rfl
  | rows => cases hr
  | known => cases hr
  | row u => cases hr
/-- a book's content speaks of the books alone -/
theorem Con.books (hr : r.book = true) (h : Con P ρ σ r d) (h1 : σ'.rn = σ.rn) (h2 : σ'.row = σ.row) (h3 : σ'.kn = σ.kn) (h4 : σ'.kw = σ.kw) (hρ : ∀ a u, ρ a = some (.row u) → ρ' a = some (.row u)) : Con P ρ' σ' r d := by
  cases r with
  | rows =>
    obtain ⟨kvs, ep, e, q⟩ := h
    exact ⟨kvs, ep, e, by rw [h1]; exact ⟨q.1, fun k v hm => let ⟨a, e, z⟩ := q.2 k v hm; ⟨a, e, hρ _ _ z⟩⟩⟩
  | known =>
    obtain ⟨kvs, ep, e, q1, q2⟩ := h
    exact ⟨kvs, ep, e, by rw [h3]; exact q1, by rw [h4]; exact q2⟩
  | row u =>
    obtain ⟨vs, e, q⟩ := h
    exact ⟨vs, e, by rw [h2]; exact q⟩
  | _ => cases hr

theorem Rep.only (R : Rep P H ρ σ) : Rep P H ρ.only σ where
  con := fun a r h => let ⟨h1, h2⟩ := only_some.mp h; let ⟨d, e, c⟩ := R.con a r h1; ⟨d, e, (Con.only h2).mpr c⟩
  inj := fun a b r h h' => R.inj a b r (only_some.mp h).1 (only_some.mp h').1
/-- the picture was worked upon, the books stand -/
theorem Rep.glue (R : Rep P H ρ σ) (R' : Rep P H' ρ.only σ') (k : Keep (fun _ => False) H ρ.only H' ρ.only) (h1 : σ'.rn = σ.rn) (h2 : σ'.row = σ.row) (h3 : σ'.kn = σ.kn) (h4 : σ'.kw = σ.kw) : Rep P H' ρ σ' where
  con := fun a r h => by
    cases hb : r.book with
    | false => obtain ⟨d, e, c⟩ := R'.con a r (only_of h hb); exact ⟨d, e, (Con.only hb).mp c⟩
    | true =>
      obtain ⟨d, e, c⟩ := R.con a r h
      exact ⟨d, (k.out a d e (only_none h hb)).1, Con.books hb c h1 h2 h3 h4 fun _ _ q => q⟩
  inj := R.inj
theorem Keep.glue (k : Keep (fun _ => False) H ρ.only H' ρ.only) : Keep (fun _ => False) H ρ H' ρ :=
  ⟨fun a d e z => ⟨(k.out a d e (only_none' z)).1, z⟩, fun a r h _ => h, k.dom⟩
end

section
variable {P : Params} {prog : Program} {w : World} {K : Frag} {base : Heap} {os : Os} {A : Around} {E : Value → Shared → Prop} {fr : Frs} {H H' : Led} {s : Shared} {env : Env} {vs : List (Option Value)} {p a it : Addr} {ρ : Rho} {σ : Sg} {ns : List Int} {np pos : Pos}

/-- the loop's turns, the body's rest in contexts without a collection's last act -/
theorem n_loop {x : Str} {body : List Stmt} {n : Nat} {V : Nat → Value → Prop} {D : Nat → Led → Prop} {R : Result → Shared → Prop} (c : Nat) (I : Itr prog w base os it n V D) (hh : A.handled = none) (C : ScOk env.scope) (hc : env.scope.names[c]? = some (x, .local))
    (J : Nat → Led → List (Option Value) → Prop) (hJ : ∀ i H H' vs, (∀ a, a ≠ it → H' a = H a) → J i H vs → J i H' vs) (hl : ∀ i H vs, J i H vs → c < vs.length)
    (S : St prog w base os ((env, fm env.scope.names vs) :: fr) H s) (hD : D 0 H) (h0 : J 0 H vs)
    (step : ∀ i v H vs s, i < n → V i v → J i H vs → D (i + 1) H → H it ≠ none → St prog w base os ((env, fm env.scope.names (vs.set c (some v))) :: fr) H s →
      wpN (model prog w) A (execs body env) (fun f s' => match f with
        | .next | .cont => ∃ H' vs', St prog w base os ((env, fm env.scope.names vs') :: fr) H' s' ∧ D (i + 1) H' ∧ J (i + 1) H' vs'
        | _ => False) No s)
    (fin : ∀ H vs s, J n H vs → St prog w base os ((env, fm env.scope.names vs) :: fr) H s → R (.ok .next) s) :
    codeN (model prog w) A (.forLoop (.Name x np) (.ref it) body [] env) R s := by
  refine n_forLoop (fun k s => ∃ i H vs, k = n - i ∧ i ≤ n ∧ St prog w base os ((env, fm env.scope.names vs) :: fr) H s ∧ D i H ∧ J i H vs) ?_ n ⟨0, H, vs, by omega, by omega, S, hD, h0⟩
  rintro k s ⟨i, H, vs, rfl, hi, S, hD, hJi⟩
  refine I A _ _ _ H s i hh S hD hi (fun hlt v H' s' hv S' hD' hsame hit => ?_) (fun he H' s' S' hsame => ?_)
  · have hJ' := hJ _ _ _ _ hsame hJi
    refine wpAny_assign_Name (st_local S' C hc rfl (hl _ _ _ hJ') fun s₂ S₂ => ?_)
    refine n_mono (step i v H' vs s₂ hlt hv hJ' hD' hit S₂) (fun f s₃ q => ?_) fun _ _ z => z.elim
    cases f with
    | next => obtain ⟨H'', vs', q1, q2, q3⟩ := q; exact ⟨n - (i + 1), by omega, i + 1, H'', vs', rfl, hlt, q1, q2, q3⟩
    | cont => obtain ⟨H'', vs', q1, q2, q3⟩ := q; exact ⟨n - (i + 1), by omega, i + 1, H'', vs', rfl, hlt, q1, q2, q3⟩
    | brk => exact q.elim
    | ret v => exact q.elim
  · subst he
    exact n_execs_nil (fin _ _ _ (hJ _ _ _ _ hsame hJi) S')

theorem size_range (n : Nat) : Builtin.Range.rangeSize 0 n 1 = (n : Int) := by
  unfold Builtin.Range.rangeSize
  simp
  try omega
theorem range_small {n : Nat} (hn : n ≤ 1000) : Builtin.Range.small 0 n 1 = true := by
  unfold Builtin.Range.small
  rw [size_range]
  have h0 : Builtin.Range.rangeFitsLong 0 = true := by decide
  have h1 : Builtin.Range.rangeFitsLong 1 = true := by decide
  have hn' : Builtin.Range.rangeFitsLong (n : Int) = true := by unfold Builtin.Range.rangeFitsLong; simp; omega
  simp [h0, h1, hn']
/-- for .. in range(n) -/
theorem range_it {n : Nat} {t : Tok} {Q : Value → Shared → Prop} (S : St prog w base os fr H s) (hn : n ≤ 1000)
    (q : ∀ it s' H', H it = none → St prog w base os fr H' s' → raD it 0 n 0 H' → (∀ x, x ≠ it → H' x = H x) → Q (.ref it) s') :
    wpAny (model prog w) A (call (.type "range") [.int n t]) (fun v s₁ => wpAny (model prog w) A (pyIter v) Q E s₁) E s := by
  refine call_range_1 ?_
  have S₁ : St prog w base os fr H { s with heap := s.heap.push { cls := .type "range", data := .fields #[.int 0 s.toks, .int n t, .int 1 (s.toks + 1)] }, toks := s.toks + 1 + 1 } := S.heap (S.wd.keeps fun b o e => Heap.get?_push_of_some _ e)
  refine wpAny_pyIter_range (show IsRange _ _ 0 n 1 s.toks t (s.toks + 1) from Heap.get?_push_size _ rfl) (range_small hn) ?_
  refine q _ _ (upd H _ (.raw { cls := .type "range_iterator", data := .fields #[rawInt 0, rawInt (Builtin.Range.rangeSize 0 n 1), rawInt 1] })) S₁.wd.freshH (S₁.heap (t := s.toks + 1 + 1) (S₁.wd.push rfl rfl)) ?_ (fun x hx => upd_ne _ _ hx)
  unfold raD
  rw [upd_self, size_range]
  simp
end
end Mine

end

section
open PySem PySem.W PyProof.Rows PySem.Calls
set_option Elab.async false
set_option maxRecDepth 100000
set_option linter.unusedVariables false
namespace Mine

def dLSame : Def := mkD 941 "_law_same" "_law_same" (topAt 20) [] .none .none
theorem scLSame : ScOk dLSame.scope := ScOk.of (by decide +kernel)
structure KS (prog : Program) (K : Frag) : Prop extends KL prog K, KO K where
  cwo : dCwo.In K
  mCwo : MethK K "neighbors_cw_order" 830
  round : dLRound.In K
  gRound : nsIn K mainGlobals "_law_round" = some (some (.ref 934))
  kRound : keepIn K (.ref 934) = true
  bMin : nsIn K mainGlobals "min" = some none
  bSorted : nsIn K mainGlobals "sorted" = some none
  bRange : nsIn K mainGlobals "range" = some none
  same : dLSame.In K

/-- the picture tells of x what the plain row says -/
structure Sg.Agree (σ : Sg) (x : Int) : Prop where
  ns : x ∈ σ.ns
  kn : x ∈ σ.kn
  len : (σ.row x).length ≤ 300
  so : (σ.so x).length ≤ 900
  told : ∃ l, Told σ x l ∧ l.length = (σ.row x).length ∧ (σ.row x ≠ [] → l ≠ σ.row x → σ.kw x = false ∧ ∀ M ∈ l, (∀ y ∈ l, M ≤ y) → ∀ M' ∈ σ.row x, (∀ y ∈ σ.row x, M' ≤ y) → rotI l M = rotI (σ.row x) M')
  prev : ∀ k : Nat, k < (σ.row x).length → (σ.row x).getD k 0 ∈ σ.so x ∧ σ.cc x ((σ.row x).getD k 0) = (σ.row x).getD (if k = 0 then (σ.row x).length - 1 else k - 1) 0

theorem Told.adj {σ : Sg} {v : Int} {l : List Int} {b : Bool} (T : Told σ v l) : Told { σ with adj := b } v l := ⟨T.nil, T.head, T.mem, T.next, T.last, T.ne⟩

section
variable {P : Params} {prog : Program} {w : World} {K : Frag} {base : Heap} {os : Os} {A : Around} {E : Value → Shared → Prop} {fr : Frs} {H H' : Led} {s : Shared} {env : Env} {vs : List (Option Value)} {p a it ra ka aL aT : Addr} {ρ : Rho} {σ : Sg} {ns : List Int} {np pos : Pos} {x : Int} {tx : Tok} {l : List Int} {us ut : List Value}

theorem z_ifG {test : PySem.Expr} {body orelse : List Stmt} {rest : List Stmt} {Q : Flow → Shared → Prop} (h : wpAny (model prog w) A (isTrue test env (eval test env)) (fun b s₂ => wpN (model prog w) A (execs (if b then body else orelse) env) (fun f s' => match f with | .next => wpN (model prog w) A (execs rest env) Q E s' | f => Q f s') E s₂) E s) :
    wpN (model prog w) A (execs (.If test body orelse pos :: rest) env) Q E s :=
  n_execs_cons (n_If (n_any (wpAny_mono h (fun b s₁ h₁ => by cases b <;> exact h₁) fun _ _ e => e)))

/-- the second test of _law_same never bites -/
theorem same_test {L : Addr} {k0 : Option Value} {Q : Bool → Shared → Prop} (F : KS prog K) (Z : Sta K base) (hh : A.handled = none) (hA : A.depth < recursionLimit) (hU : A.units < cLine)
    (S : St prog w base os ((dLSame.env L, fm (dLSame.env L).scope.names [some (.ref p), some (.ref ra), some (.ref ka), some (.int x tx), some (.ref aT), some (.ref aL), k0]) :: fr) H s)
    (hT : H aT = some (.li ut)) (hL : H aL = some (.li us)) (iT : IntsAre ut l) (iL : IntsAre us ns) (zT : ut.length ≤ 400) (zL : us.length ≤ 400) {kvs : List (Int × Value)} {ep : Option Nat} {b : Bool} (hk : H ka = some (.di kvs ep)) (hv : valueAt kvs x = some (.bool b))
    (hg : ns ≠ [] → l ≠ ns → b = false ∧ l ≠ [] ∧ ∀ M ∈ l, (∀ y ∈ l, M ≤ y) → ∀ M' ∈ ns, (∀ y ∈ ns, M' ≤ y) → rotI l M = rotI ns M')
    (q : ∀ s', St prog w base os ((dLSame.env L, fm (dLSame.env L).scope.names [some (.ref p), some (.ref ra), some (.ref ka), some (.int x tx), some (.ref aT), some (.ref aL), k0]) :: fr) H s' → Q false s') {whole : Sem Value} :
    wpAny (model prog w) A (isTrue (match dLSame.body with | [_, .For _ _ [_, _, _, .If t _ _ _, _] _ _, _] => t | _ => default) (dLSame.env L) whole) Q E s := by
  have C := scLSame
  refine wpAny_isTrue_BoolOp (wpAny_allTrue_And_cons (tu_neNil (pu_v 5 C rfl rfl) hL iL hU S fun s₁ S₁ => ?_))
  by_cases hn : ns = []
  · subst hn
    exact q s₁ S₁
  · have hn' : (ns != []) = true := by simpa using hn
    rw [hn']
    refine wpAny_allTrue_And_cons (is_cmp (Pu.go (pu_v 4 C rfl rfl) S₁ fun _ s₂ e S₂ => ?_))
    subst e
    refine Pu.go (pu_v 5 C rfl rfl) S₂ fun _ s₃ e S₃ => ?_
    subst e
    refine li_ne S₃ hU hT hL iT iL ⟨_, rfl, ?_⟩
    by_cases hl : l = ns
    · subst hl
      rw [bne_self_eq_false]
      exact q s₃ S₃
    · have hl' : (l != ns) = true := by simpa using hl
      rw [hl']
      obtain ⟨rfl, hne, hrot⟩ := hg hn hl
      refine wpAny_allTrue_And_cons (wpAny_isTrue_BoolOp (wpAny_allTrue_Or_cons ((tu_val (pu_sub (env := dLSame.env L) (pu_v 2 C rfl rfl) (pu_i 3 C rfl rfl) hk hv) tr_bool) _ _ _ _ S₃ fun s₄ S₄ => ?_)))
      refine wpAny_allTrue_Or_cons (is_cmp (ev_call (nm_global (i := 10) S₄ Z C rfl rfl F.gRound (cwK F.kRound rfl rfl ?_))))
      refine pu_v (env := dLSame.env L) 4 C rfl rfl _ _ _ _ S₄ fun _ s₅ e S₅ => ?_
      subst e
      refine ⟨S₅.kin Z, law_round_ok F.round F.bMin Z S₅ hh hA hT iT (by omega) (List.length_pos_iff.mpr hne) fun b s₆ us₆ M hb S₆ hM hle hI => ?_⟩
      refine ev_call (nm_global (i := 10) S₆ Z C rfl rfl F.gRound (cwK F.kRound rfl rfl ?_))
      refine pu_v (env := dLSame.env L) 5 C rfl rfl _ _ _ _ S₆ fun _ s₇ e S₇ => ?_
      subst e
      have nLb : aL ≠ b := fun z => by rw [z, hb] at hL; cases hL
      refine ⟨S₇.kin Z, law_round_ok F.round F.bMin Z S₇ hh hA ((upd_ne _ _ nLb).trans hL) iL (by omega) (List.length_pos_iff.mpr hn) fun c s₈ us₈ M' hc S₈ hM' hle' hI' => ?_⟩
      have nbc : b ≠ c := fun z => by rw [← z, upd_self] at hc; cases hc
      rw [← hrot M hM hle M' hM' hle'] at hI'
      refine li_ne S₈ hU ((upd_ne _ _ nbc).trans (upd_self ..)) (upd_self ..) hI hI' ⟨_, rfl, ?_⟩
      rw [bne_self_eq_false]
      refine wpAny_allTrue_Or_nil ?_
      exact q s₈ (((S₈.drop hc).drop hb))

theorem law_same_ok {Q : Value → Shared → Prop} (hfix : os.fix = none) (F : KS prog K) (Z : Sta K base) (S : St prog w base os fr H s) (hh : A.handled = none) (hA : A.depth + 14 < recursionLimit) (hU : A.units + 20 < cLine) (R : Rep w.params H ρ σ) (hp : ρ p = some .self) (hr : ρ ra = some .rows) (hk : ρ ka = some .known)
    (hP : σ.nn.Perm σ.rn) (h64 : σ.nn.length < 64) (hm : ∀ x ∈ σ.rn, σ.Agree x)
    (h : ∀ s' H' b, St prog w base os fr H' s' → Rep w.params H' ρ { σ with adj := b } → Keep (fun _ => False) H ρ H' ρ → Q (.bool true) s') : wpN (model prog w) A (call (.ref 941) [.ref p, .ref ra, .ref ka]) Q E s := by
  have C := scLSame
  refine n_call_plain (D := dLSame) (n := 4) (binds := [("picture", .ref p), ("rows", .ref ra), ("known", .ref ka)]) S Z (by omega) F.same (by decide +kernel) C rfl rfl (fun _ _ _ _ => rfl) rfl rfl fun L s₁ S₁ => ?_
  replace S₁ : St prog w base os ((dLSame.env L, fm (dLSame.env L).scope.names [some (.ref p), some (.ref ra), some (.ref ka), none, none, none, none]) :: fr) H s₁ := S₁
  rw [NBody]
  -- sorted(picture) != sorted(rows)
  refine z_ifG (is_cmp (ev_call (nm_builtin (i := 7) S₁ Z C rfl rfl rfl ⟨F.bSorted, boot_sorted, by decide +kernel⟩ (cwB rfl ?_))))
  refine pu_v (env := dLSame.env L) 0 C rfl rfl _ _ _ _ S₁ fun _ s₂ e S₂ => ?_
  subst e
  refine sorted_pic F.toKO Z S₂ (by exact hh) (by show A.depth + 1 + 2 < _; omega) R hp h64 fun D us₁ s₃ H₃ ns₁ S₃ hD R₃ k₃ i₁ p₁ o₁ => ?_
  refine ev_call (nm_builtin (i := 7) S₃ Z C rfl rfl rfl ⟨F.bSorted, boot_sorted, by decide +kernel⟩ (cwB rfl ?_))
  refine pu_v (env := dLSame.env L) 1 C rfl rfl _ _ _ _ S₃ fun _ s₄ e S₄ => ?_
  subst e
  have hρD := R₃.none hD
  obtain ⟨kr, er, hrA, rr⟩ := R₃.rows hr
  have nD : ra ≠ D := fun z => by rw [← z, hr] at hρD; cases hρD
  have hl := hP.length_eq
  refine sorted_di S₄ (by exact hh) ((upd_ne _ _ nD).trans hrA) (by rw [rr.len]; omega) fun D' us₂ s₅ ns₂ S₅ hD' i₂ p₂ o₂ => ?_
  have hperm : ns₁ = ns₂ := by
    refine List.Perm.eq_of_pairwise (le := (· ≤ ·)) (fun a b _ _ h1 h2 => Int.le_antisymm h1 h2) o₁ o₂ ?_
    rw [rr.1] at p₂
    exact (p₁.trans hP).trans p₂.symm
  have nDD : D ≠ D' := fun z => by rw [← z, upd_self] at hD'; cases hD'
  refine li_ne S₅ (by show A.units + 3 < _; omega) ((upd_ne _ _ nDD).trans (upd_self ..)) (upd_self ..) i₁ i₂ ⟨_, rfl, ?_⟩
  rw [hperm, bne_self_eq_false]
  refine n_execs_nil ?_
  have S₆ := ((S₅.drop hD').drop hD)
  obtain ⟨n, S₇⟩ := S₆.pin hrA
  have R₇ : Rep w.params (upd H₃ ra (.di kr (some n))) ρ σ := rn_set R₃ hr rr
  have k₇ : Keep (fun _ => False) H ρ (upd H₃ ra (.di kr (some n))) ρ := k₃.set hr
  have hra : upd H₃ ra (.di kr (some n)) ra = some (.di kr (some n)) := upd_self ..
  generalize upd H₃ ra (.di kr (some n)) = H₇ at *
  have Rp := R₇.only
  have hp' := only_of hp rfl
  have hra' := only_none hr rfl
  refine n_execs_cons (n_For (Pu.go (pu_v 1 C rfl rfl) S₇ fun _ s₈ e S₈ => ?_))
  subst e
  refine iter_di S₈ hra fun it s₉ H₉ hit S₉ hD₉ hs₉ => ?_
  have hρit := Rp.none hit
  have k0 : Keep (fun _ => False) H₇ ρ.only H₇ ρ.only := Keep.refl
  refine n_loop (c := 3) itr_di (by exact hh) C rfl
    (fun i H' vs' => (∃ a b c d, vs' = [some (.ref p), some (.ref ra), some (.ref ka), a, b, c, d]) ∧ (∃ b, Rep w.params H' ρ.only { σ with adj := b }) ∧ Keep (fun _ => False) H₇ ρ.only H' ρ.only)
    (fun i H₁ H₂ vs' hs' ⟨j1, ⟨b, j2⟩, j3⟩ => ⟨j1, ⟨b, j2.same hρit hs'⟩, j3.same hit hs'⟩) (fun i H₁ vs' ⟨⟨_, _, _, _, j1⟩, _⟩ => by rw [j1]; simp) S₉ hD₉ ⟨⟨_, _, _, _, rfl⟩, ⟨σ.adj, Rp.same hρit hs₉⟩, k0.same hit hs₉⟩ ?_ ?_
  · rintro i v H₁ vs₁ s₁₀ hi ⟨x, hx, tx, rfl⟩ ⟨⟨_, _, _, _, rfl⟩, ⟨b₁, R₁⟩, k₁⟩ hD₁ hne S₁₀
    rw [rr.1] at hx
    have hxm : x ∈ σ.rn := List.mem_of_getElem? hx
    have G := hm x hxm
    obtain ⟨l, T, hll, hrot⟩ := G.told
    obtain ⟨aL, hvL, hrL⟩ := rr.find hxm
    obtain ⟨us, hL, hI⟩ := R₇.row hrL
    have hL₁ := (k₁.out _ _ hL (only_none hrL rfl)).1
    obtain ⟨kk, ek, hkA, hk1, hk2⟩ := R₇.known hk
    have hk₁ := (k₁.out _ _ hkA (only_none hk rfl)).1
    have hlen := hI.length
    have hl3 := G.len
    -- told = list(picture.neighbors_cw_order(x))
    refine z_asG 4 S₁₀ C rfl (ev_call (nm_builtin (i := 8) S₁₀ Z C rfl rfl rfl ⟨F.bList, boot_list, by decide +kernel⟩ (cwT rfl ?_)))
    refine ev_pic S₁₀ Z F.toKA F.mCwo R₁ hp' (pu_v 0 C rfl rfl) (fun _ _ _ _ _ => by cases b₁ <;> rfl) rfl rfl fun s₁₁ S₁₁ => ?_
    refine pu_v (env := dLSame.env L) 3 C rfl rfl _ _ _ _ S₁₁ fun _ s₁₂ e S₁₂ => ?_
    subst e
    refine ⟨S₁₂.kin Z, cwo_call hfix S₁₂ Z (by show A.depth + 1 < _; omega) F.cwo fun I g L' s₁₃ S₁₃ hI₁ hgs hN hb hlw hHL hfL hIL hIm => ?_⟩
    refine list_gen hfix (by exact hh) (by show A.depth + 1 < _; omega) Z F.toKA F.bList S₁₃ R₁ hp' G.ns (Nat.le_trans G.so (by decide)) T.adj (by omega) hI₁ hgs hN hb hlw hHL hfL hIL hIm fun c ut s₁₄ hc S₁₄ hIT => ?_
    have hρc := R₁.none hc
    refine ⟨fr, _, _, _, S₁₄, rfl, by show 4 < 7; decide, fun s₁₅ S₁₅ => ?_⟩
    have R₂ := R₁.temp hρc (.li ut)
    have k₂ : Keep (fun _ => False) H₁ ρ.only (upd H₁ c (.li ut)) ρ.only := Keep.refl.new hc
    have hT₂ : upd H₁ c (.li ut) c = some (.li ut) := upd_self ..
    generalize upd H₁ c (.li ut) = H₂ at *
    have hra₂ := (k₂.out _ _ hD₁.2.1 hra').1
    have hit₂ := (k₂.out _ _ hD₁.1 hρit).1
    have hL₂ := (k₂.out _ _ hL₁ (only_none hrL rfl)).1
    have hk₂ := (k₂.out _ _ hk₁ (only_none hk rfl)).1
    have hlT := hIT.length
    refine z_as 5 S₁₅ C rfl (pu_sub (pu_v 1 C rfl rfl) (pu_i 3 C rfl rfl) hra₂ hvL) (by show 5 < 7; decide) fun _ s₁₆ e S₁₆ => ?_
    subst e
    -- len(told) != len(line)
    refine z_if S₁₆ (tu_cmp (pu_len 9 Z C rfl rfl rfl F.toKO.bLen (pu_v 4 C rfl rfl) hT₂ (by omega) rfl) (pu_len 9 Z C rfl rfl rfl F.toKO.bLen (pu_v 5 C rfl rfl) hL₂ (by omega) rfl) cmp_ne) fun s₁₇ S₁₇ => ?_
    rw [show ((ut.length : Int) != (us.length : Int)) = false by simp; omega]
    refine n_execs_nil ?_
    have hvk : valueAt kk x = some (.bool (σ.kw x)) := by
      have : (valueAt kk x).isSome = true := by rw [valueAt_isSome, hk1]; exact decide_eq_true G.kn
      obtain ⟨v, hv⟩ := Option.isSome_iff_exists.mp this
      have hm' : (x, v) ∈ kk := by
        unfold valueAt at hv
        obtain ⟨q, hq, rfl⟩ := Option.map_eq_some_iff.mp hv
        have := List.find?_some hq
        have e1 : q.1 = x := by simpa using this
        rw [← e1]; exact List.mem_of_find?_eq_some hq
      rw [hv, hk2 _ _ hm']
    refine z_ifG (same_test F Z (by exact hh) (by show A.depth + 1 < _; omega) (by show A.units + 3 < _; omega) S₁₇ hT₂ hL₂ hIT hI (by omega) (by omega) hk₂ hvk (fun hn hl => ?_) fun s₁₈ S₁₈ => ?_)
    · obtain ⟨r1, r2⟩ := hrot hn hl
      refine ⟨r1, fun z => hn (List.length_eq_zero_iff.mp (by rw [← hll, z]; rfl)), r2⟩
    refine n_execs_nil ?_
    -- the inner loop
    refine n_execs_cons (n_For (ev_call (nm_builtin (i := 11) S₁₈ Z C rfl rfl rfl ⟨F.bRange, boot_range, by decide +kernel⟩ (cwT rfl ?_))))
    refine pu_len (env := dLSame.env L) 9 Z C rfl rfl rfl F.toKO.bLen (pu_v 5 C rfl rfl) hL₂ (by omega) rfl _ _ _ _ S₁₈ fun v s₁₉ ⟨tv, e⟩ S₁₉ => ?_
    subst e
    refine range_it S₁₉ (by omega) fun it₂ s₂₀ H₃' hit₃ S₂₀ hD₂ hs₂ => ?_
    have hρit₂ := R₂.none hit₃
    have k2 : Keep (fun _ => False) H₂ ρ.only H₂ ρ.only := Keep.refl
    refine n_loop (c := 6) itr_ra (by exact hh) C rfl
      (fun j H' vs' => (∃ d, vs' = [some (.ref p), some (.ref ra), some (.ref ka), some (.int x tx), some (.ref c), some (.ref aL), d]) ∧ (∃ b, Rep w.params H' ρ.only { σ with adj := b }) ∧ Keep (fun _ => False) H₂ ρ.only H' ρ.only)
      (fun i H₁ H₂ vs' hs' ⟨j1, ⟨b, j2⟩, j3⟩ => ⟨j1, ⟨b, j2.same hρit₂ hs'⟩, j3.same hit₃ hs'⟩) (fun i H₁ vs' ⟨⟨_, j1⟩, _⟩ => by rw [j1]; simp) S₂₀ hD₂ ⟨⟨_, rfl⟩, ⟨b₁, R₂.same hρit₂ hs₂⟩, k2.same hit₃ hs₂⟩ ?_ ?_
    · rintro j v H₄ vs₄ s₂₁ hj ⟨tj, rfl⟩ ⟨⟨_, rfl⟩, ⟨b₄, R₄⟩, k₄⟩ hD₄ hne₄ S₂₁
      have hL₄ := (k₄.out _ _ hL₂ (only_none hrL rfl)).1
      have hj' : j < (σ.row x).length := by omega
      obtain ⟨g1, g2⟩ := G.prev j hj'
      have ej : ((0 : Int) + (j : Int)).toNat = j := by omega
      refine n_execs_cons (n_If (n_isTrue_Compare1 (n_mcall (Pu.go (pu_v 0 C rfl rfl) S₂₁ fun _ s₂₂ e S₂₂ => ?_))))
      subst e
      refine md_pic S₂₂ Z F.toKA F.mNext R₄ hp' (fun _ _ _ _ _ => by cases b₄ <;> rfl) (n_cwK F.mNext.keep rfl rfl ?_)
      refine pu_item (env := dLSame.env L) (x := 0 + (j : Int)) (pu_v 5 C rfl rfl) (pu_i 6 C rfl rfl) hL₄ hI (by omega) (by omega) (by omega) (by intro _; with_unfolding_all rfl) _ _ _ _ S₂₂ fun v s₂₃ ⟨tv, e⟩ S₂₃ => ?_
      subst e
      rw [ej]
      refine pu_v (env := dLSame.env L) 3 C rfl rfl _ _ _ _ S₂₃ fun _ s₂₄ e S₂₄ => ?_
      subst e
      refine ⟨S₂₄.kin Z, next_ok F.toKL Z S₂₄ (by exact hh) (by show A.depth + 1 + 12 < _; omega) R₄ hp' G.ns g1 fun d s₂₅ H₅ t₅ t₅' hd S₂₅ R₅ k₅ => ?_⟩
      have hρd := R₅.none hd
      have hL₅ := (k₅.out _ _ hL₄ (only_none hrL rfl)).1
      have nLd : aL ≠ d := fun z => by rw [z, hd] at hL₅; cases hL₅
      refine ev_tuple (base := base) (os := os) rfl ?_
      refine pu_v (env := dLSame.env L) 3 C rfl rfl _ _ _ _ S₂₅ fun _ s₂₆ e S₂₆ => ?_
      subst e
      have prev : Pu prog w base os fr (upd H₅ d (.tu [.int x t₅, .int (σ.cc x ((σ.row x).getD j 0)) t₅'])) (dLSame.env L) [some (.ref p), some (.ref ra), some (.ref ka), some (.int x tx), some (.ref c), some (.ref aL), some (.int (0 + (j : Int)) tj)]
          (match dLSame.body with | [_, .For _ _ [_, _, _, _, .For _ _ [.If (.Compare _ _ [.Tuple [_, e] _ _] _) _ _ _] _ _] _ _, _] => e | _ => default) (IsI (σ.cc x ((σ.row x).getD j 0))) := by
        rw [g2]
        by_cases hz : j = 0
        · subst hz
          rw [if_pos rfl]
          refine (pu_itemN (env := dLSame.env L) (x := 0 + ((0 : Nat) : Int) - 1) (pu_v 5 C rfl rfl) (pu_subt (pu_i 6 C rfl rfl) pu_int) ((upd_ne _ _ nLd).trans hL₅) hI (by omega) (by omega) (by omega)).mono fun v hv => ?_
          rw [show (0 + ((0 : Nat) : Int) - 1 + ((σ.row x).length : Int)).toNat = (σ.row x).length - 1 by omega] at hv
          exact hv
        · rw [if_neg hz]
          refine (pu_item (env := dLSame.env L) (x := 0 + (j : Int) - 1) (pu_v 5 C rfl rfl) (pu_subt (pu_i 6 C rfl rfl) pu_int) ((upd_ne _ _ nLd).trans hL₅) hI (by omega) (by omega) (by omega)).mono fun v hv => ?_
          rw [show (0 + (j : Int) - 1).toNat = j - 1 by omega] at hv
          exact hv
      refine prev _ _ _ _ S₂₆ fun v s₂₇ ⟨tv', e⟩ S₂₇ => ?_
      subst e
      refine ⟨by simp, _, _, S₂₇, fun e' s₂₈ he' S₂₈ => ?_⟩
      have nde : d ≠ e' := fun z => by rw [← z, upd_self] at he'; cases he'
      refine tu_ne S₂₈ (by show A.units + 3 < _; omega) ((upd_ne _ _ nde).trans (upd_self ..)) (upd_self ..) (.cons x t₅ (.cons _ t₅' .nil)) (.cons x tx (.cons _ tv' .nil)) rfl ?_
      rw [bne_self_eq_false]
      refine wpAny_truthy_bool ?_
      refine n_execs_nil (n_execs_nil ⟨H₅, _, (S₂₈.drop he').drop hd, ?_, ⟨_, rfl⟩, ⟨true, R₅⟩, k₄.trans k₅⟩)
      exact (k₅.out _ _ hD₄ hρit₂).1
    · rintro H₄ vs₄ s₂₁ ⟨⟨_, rfl⟩, ⟨b₄, R₄⟩, k₄⟩ S₂₁
      refine n_execs_nil ⟨H₄, _, S₂₁, ⟨(k₄.out _ _ hit₂ hρit).1, (k₄.out _ _ hra₂ hra').1, hD₁.2.2⟩, ⟨_, _, _, _, rfl⟩, ⟨b₄, R₄⟩, k₁.trans (k₂.trans k₄)⟩
  · rintro H₁ vs₁ s₁₀ ⟨⟨_, _, _, _, rfl⟩, ⟨b₁, R₁⟩, k₁⟩ S₁₀
    refine n_cons_any (wpAny_Return_some (pu_bool _ _ _ _ S₁₀ fun v s₁₁ e S₁₁ => ?_))
    subst e
    exact h s₁₁ H₁ b₁ S₁₁.popped (R₇.glue R₁ k₁ rfl rfl rfl rfl) (k₇.trans k₁.glue)
end
end Mine

end

section
open PySem PySem.W PyProof.Rows PySem.Calls
set_option Elab.async false
set_option maxRecDepth 100000
set_option linter.unusedVariables false
namespace Mine
section
variable {P : Params} {prog : Program} {w : World} {K : Frag} {base : Heap} {os : Os} {A : Around} {E : Value → Shared → Prop} {fr : Frs} {H H' : Led} {s : Shared} {a aA dA sA : Addr}

theorem isSub_dict : isSubtype (.type "dict") (.type "dict") = pure true := by rw [isSubtype_type]; kernel_rfl

/-- one str's dict goes into an empty one -/
theorem merge_one {n : Str} {t : Tok} {v : Value} {Q : Unit → Shared → Prop} (S : St prog w base os fr H s) (hd : H dA = some (.raw (dictOf [] 0))) (ha : H sA = some (.raw (dictOf [⟨PyData.keyHash w.params n, .str n t, v⟩] 1))) (ne : dA ≠ sA)
    (q : ∀ s' m, St prog w base os fr (upd H dA (.raw (dictOf [⟨PyData.keyHash w.params n, .str n t, v⟩] m))) s' → Q () s') : wpAny (model prog w) A (mergeMapping dA (.ref sA) true) Q E s := by
  obtain ⟨o1, ho1, e1⟩ := S.get hd
  obtain ⟨o2, ho2, e2⟩ := S.get ha
  cases (show o1 = _ from e1)
  cases (show o2 = _ from e2)
  have hT : s.TypeIs (.ref sA) "dict" := ⟨_, ho2, rfl⟩
  unfold mergeMapping
  refine wpAny_bind (m := isInstance _ _) (wpAny_isInstance hT isSub_dict ?_)
  rw [if_pos rfl]
  refine wpAny_bind (wpAny_specialOf hT PySem.F.slot_dict_iter.lookup (wpAny_bind (wpAny_pure ?_)))
  rw [show ((some (Value.builtin "dict.__iter__") == some (Value.builtin "dict.__iter__")) = true) from by simp]
  dsimp only
  rw [S.nm ha, if_neg Bool.false_ne_true]
  refine wpAny_bind (wpAny_dictEntries ho1 rfl ?_)
  refine wpAny_ite_split (fun _ => ?_) (fun hab => absurd rfl hab)
  refine wpAny_bind (wpAny_dictEntries ho2 rfl ?_)
  refine wpAny_bind ?_
  rw [List.forIn_toArray, List.forIn_cons]
  refine wpAny_bind (wpAny_pure ?_)
  dsimp only
  rw [List.forIn_nil]
  refine wpAny_pure ?_
  refine wpAny_bind (wpAny_dictEntries ho2 rfl ?_)
  refine wpAny_bind (wpAny_dictEpoch ho2 rfl ?_)
  refine wpAny_bind (m := forIn _ _ _) ?_
  rw [show (List.range ([(⟨PyData.keyHash w.params n, .str n t, v⟩ : DictEntry)].toArray).size) = [0] from rfl, List.forIn_cons]
  refine wpAny_bind (wpAny_bind (wpAny_dictEntries ho2 rfl ?_))
  refine wpAny_bind (wpAny_holding ?_)
  refine wpAny_ite_split (fun _ => ?_) (fun hab => absurd rfl hab)
  have find : ∀ (Q : Option Nat → Shared → Prop), Q none s → wpAny (model prog w) A (dictFind dA (.str n t) (PyData.keyHash w.params n)) Q E s := fun Q hq =>
    wpAny_dictFind_of (knd := strKind prog w) (k := n) (strKind_is ..) ho1 rfl (fun _ h => nomatch h) (by simpa [dictOf] using hq)
  refine wpAny_bind (find _ ?_)
  refine wpAny_ite_split (fun hab => absurd (show false = true from hab) Bool.false_ne_true) (fun _ => ?_)
  unfold dictPut
  refine wpAny_bind (find _ ?_)
  refine wpAny_updateDictKeys ho1 rfl ?_ (by rw [sizeLine_eq]; simp)
  have S₁ : St prog w base os fr (upd H dA (.raw (dictOf [⟨PyData.keyHash w.params n, .str n t, v⟩] 1))) { s with heap := s.heap.update dA (Obj.mapDictKeys (·.push ⟨PyData.keyHash w.params n, .str n t, v⟩)), toks := s.toks } :=
    S.heap (S.wd.set (Heap.SameBut.update ..) hd (Heap.get?_update_self _ ho1 rfl) rfl)
  refine wpAny_bind (wpAny_dictEpoch ((Heap.get?_update_other _ _ ne).trans ho2) rfl ?_)
  refine wpAny_ite_split (fun hab => absurd hab (by simp)) (fun _ => wpAny_pure ?_)
  dsimp only
  rw [List.forIn_nil]
  exact wpAny_pure (wpAny_pure (q _ _ S₁))
theorem merge_nil {es : List DictEntry} {m : Nat} {Q : Unit → Shared → Prop} (S : St prog w base os fr H s) (hd : H dA = some (.raw (dictOf es m))) (hes : es ≠ []) (ha : H aA = some (.ds [])) (q : Q () s) : wpAny (model prog w) A (mergeMapping dA (.ref aA) true) Q E s := by
  obtain ⟨o1, ho1, e1⟩ := S.get hd
  cases (show o1 = _ from e1)
  obtain ⟨o2, ho2, es2, ep2, ⟨hx1, hx2, hx3⟩, hdat, hk, hp, hn⟩ := S.get ha
  have h0 : es2 = #[] := by
    have := hp.length
    exact Array.eq_empty_of_size_eq_zero (by simpa using this)
  subst h0
  have hT : s.TypeIs (.ref aA) "dict" := ⟨_, ho2, hx1⟩
  unfold mergeMapping
  refine wpAny_bind (m := isInstance _ _) (wpAny_isInstance hT isSub_dict ?_)
  rw [if_pos rfl]
  refine wpAny_bind (wpAny_specialOf hT PySem.F.slot_dict_iter.lookup (wpAny_bind (wpAny_pure ?_)))
  rw [show ((some (Value.builtin "dict.__iter__") == some (Value.builtin "dict.__iter__")) = true) from by simp]
  dsimp only
  rw [S.nm ha, if_neg Bool.false_ne_true]
  refine wpAny_bind (wpAny_dictEntries ho1 rfl ?_)
  refine wpAny_ite_split (fun hab => ?_) (fun _ => ?_)
  · exact absurd hab (by cases es with | nil => exact absurd rfl hes | cons _ _ => simp)
  refine wpAny_bind (wpAny_dictEntries ho2 hdat ?_)
  refine wpAny_bind (wpAny_dictEpoch ho2 hdat ?_)
  refine wpAny_bind (m := forIn _ _ _) ?_
  rw [show (List.range (#[] : Array DictEntry).size) = [] from rfl, List.forIn_nil]
  exact wpAny_pure (wpAny_pure q)

theorem merged_ok {f : Value} {n : Str} {x1 x2 : Sem Value} {v : Value} {Q : Addr → Shared → Prop} (S : St prog w base os fr H s) (ha : H aA = some (.ds []))
    (h1 : ∀ H' s' (Q : Value → Shared → Prop) (E : Value → Shared → Prop), St prog w base os fr H' s' → (∀ s'', St prog w base os fr H' s'' → Q v s'') → wpAny (model prog w) A x1 Q E s')
    (h2 : ∀ H' s' (Q : Value → Shared → Prop) (E : Value → Shared → Prop), St prog w base os fr H' s' → (∀ s'', St prog w base os fr H' s'' → Q (.ref aA) s'') → wpAny (model prog w) A x2 Q E s')
    (q : ∀ d s' t m, H d = none → St prog w base os fr (upd H d (.raw (dictOf [⟨PyData.keyHash w.params n, .str n t, v⟩] m))) s' → Q d s') :
    wpAny (model prog w) A (mergedKeywords f [(some n, x1), (none, x2)]) Q E s := by
  unfold mergedKeywords
  refine wpAny_bind (wpAny_alloc ?_)
  refine wpAny_bind (wpAny_holding ?_)
  refine wpAny_bind (m := forIn _ _ _) ?_
  rw [List.forIn_cons]
  refine wpAny_bind (wpAny_pure ?_)
  dsimp only
  rw [List.forIn_cons]
  refine wpAny_bind ?_
  have S₁ : St prog w base os fr (upd H s.heap.objs.size (.raw (dictOf [] 0))) { s with heap := s.heap.push { cls := .type "dict", data := .dict #[] } } := S.heap (t := s.toks) (S.wd.push rfl rfl)
  have hdN : H s.heap.objs.size = none := S.wd.freshH
  generalize s.heap.objs.size = d at *
  generalize ({ s with heap := s.heap.push { cls := .type "dict", data := .dict #[] } } : Shared) = s₁ at *
  have ne_a : aA ≠ d := fun z => by rw [z, hdN] at ha; cases ha
  refine wpAny_bind (wpAny_ite_split (fun hab => absurd (show false = true from hab) Bool.false_ne_true) fun _ => ?_)
  show wpAny _ _ (evalAll [x1] >>= _) _ _ _
  rw [evalAll]
  refine wpAny_bind (wpAny_bind (h1 _ _ _ _ S₁ fun s₂ S₂ => wpAny_bind (wpAny_holding (wpAny_evalAll_nil (wpAny_pure ?_)))))
  refine wpAny_bind (wpAny_alloc ?_)
  have S₃ : St prog w base os fr (upd (upd H d (.raw (dictOf [] 0))) s₂.heap.objs.size (.raw (dictOf [] 0))) { s₂ with heap := s₂.heap.push { cls := .type "dict", data := .dict #[] } } := S₂.heap (t := s₂.toks) (S₂.wd.push rfl rfl)
  have hsN : (upd H d (.raw (dictOf [] 0))) s₂.heap.objs.size = none := S₂.wd.freshH
  generalize s₂.heap.objs.size = sub at *
  generalize ({ s₂ with heap := s₂.heap.push { cls := .type "dict", data := .dict #[] } } : Shared) = s₃ at *
  have ne_d : d ≠ sub := fun z => by rw [← z, upd_self] at hsN; cases hsN
  have hsub0 : H sub = none := by rw [← hsN]; exact (upd_ne _ _ ne_d.symm).symm
  have ne_s : aA ≠ sub := fun z => by rw [z, hsub0] at ha; cases ha
  refine wpAny_bind ?_
  show wpAny _ _ (forIn [((n, x1), v)] _ _) _ _ _
  rw [List.forIn_cons]
  refine wpAny_bind (wpAny_bind (ns_set S₃ (upd_self ..) (fun _ h => nomatch h) (fun _ h => nomatch h) fun s₄ _ S₄ => wpAny_pure ?_))
  dsimp only
  rw [List.forIn_nil]
  refine wpAny_pure ?_
  refine wpAny_onRaise (wpAny_holding (wpAny_tryCatch (wpAny_onRaise (merge_one S₄ (by rw [upd_ne _ _ ne_d, upd_ne _ _ ne_d, upd_self]) (upd_self ..) ne_d fun s₅ m S₅ => ?_))))
  refine wpAny_bind (h2 _ _ _ _ S₅ fun s₆ S₆ => ?_)
  refine wpAny_bind (wpAny_onRaise (wpAny_holding (wpAny_tryCatch (wpAny_onRaise (merge_nil S₆ (upd_self ..) (by simp) (by rw [upd_ne _ _ ne_a, upd_ne _ _ ne_s, upd_ne _ _ ne_s, upd_ne _ _ ne_a]; exact ha) (wpAny_pure ?_))))))
  dsimp only
  rw [List.forIn_nil]
  refine wpAny_pure ?_
  refine wpAny_ite_split (fun _ => ?_) (fun hab => absurd rfl hab)
  refine wpAny_pure (wpAny_pure (q d s₆ s₃.toks m hdN (S₆.weak fun a x hx => ?_)))
  by_cases z : a = d
  · rw [z, upd_self] at hx ⊢; exact hx
  · rw [upd_ne _ _ z] at hx ⊢
    have z' : a ≠ sub := fun z' => by rw [z', hsub0] at hx; cases hx
    rw [upd_ne _ _ z', upd_ne _ _ z', upd_ne _ _ z]; exact hx

/-- f(n=.., **attr), attr empty -/
theorem evalArgs_star {f : Value} {n : Str} {x1 x2 : Sem Value} {v : Value} {Q : Args → Shared → Prop} (S : St prog w base os fr H s) (ha : H aA = some (.ds []))
    (h1 : ∀ H' s' (Q : Value → Shared → Prop) (E : Value → Shared → Prop), St prog w base os fr H' s' → (∀ s'', St prog w base os fr H' s'' → Q v s'') → wpAny (model prog w) A x1 Q E s')
    (h2 : ∀ H' s' (Q : Value → Shared → Prop) (E : Value → Shared → Prop), St prog w base os fr H' s' → (∀ s'', St prog w base os fr H' s'' → Q (.ref aA) s'') → wpAny (model prog w) A x2 Q E s')
    (q : ∀ s', St prog w base os fr H s' → Q ⟨[], [(n, v)]⟩ s') : wpAny (model prog w) A (evalArgs f true [] [(some n, x1), (none, x2)]) Q E s := by
  unfold evalArgs
  show wpAny _ _ (spliced [] >>= _) _ _ _
  refine wpAny_bind (spliced_nil (wpAny_bind (wpAny_pure (wpAny_holding ?_))))
  refine wpAny_ite_split (fun hab => absurd hab (by simp)) (fun _ => ?_)
  refine wpAny_bind (merged_ok S ha h1 h2 fun d s₁ t m hd S₁ => ?_)
  refine wpAny_bind (wpAny_pure ?_)
  refine wpAny_bind (wpAny_holding ?_)
  unfold keywordsIn
  obtain ⟨o1, ho1, e1⟩ := S₁.get (upd_self ..)
  cases (show o1 = _ from e1)
  refine wpAny_bind (wpAny_dictEntries ho1 rfl ?_)
  refine wpAny_bind (m := forIn _ _ _) ?_
  rw [List.forIn_toArray, List.forIn_cons]
  refine wpAny_bind (wpAny_pure ?_)
  dsimp only
  rw [List.forIn_nil]
  exact wpAny_pure (wpAny_pure (wpAny_pure (q s₁ (S₁.drop hd))))
end
end Mine

end

section
open PySem PySem.W PyProof.Rows PySem.Calls
set_option Elab.async false
set_option maxRecDepth 100000
set_option linter.unusedVariables false
namespace Mine
section
variable {prog : Program} {w : World} {K : Frag} {base : Heap} {os : Os} {A : Around} {E : Value → Shared → Prop} {fr : Frs} {H : Led} {s : Shared} {env : Env} {vs : List (Option Value)} {a p dx it l : Addr}

/-- super(), in a method of an instance whose dict is held -/
theorem su_baseI {D : Def} {cc L : Addr} {body : List Stmt} {p0 p1 : Pos} {attr : Str} {whole : Sem Value} {b : Bool} {es : List DictEntry} {m : Nat} {Q : Value → Shared → Prop} (U : SuK prog K D cc) (hD : D.In K) (S : St prog w base os ((D.env L, fm D.scope.names vs) :: fr) H s) (Z : Sta K base) (C : ScOk D.scope)
    (h1 : H p = some (.raw (instObj peA dx))) (h2 : H dx = some (.raw (dictS b es m)))
    (hv : vs[0]? = some (some (.ref p))) (hat : (attr == ("__class__" : Str)) = false)
    (h : ∀ so s', H so = none → St prog w base os ((D.env L, fm D.scope.names vs) :: fr) (upd H so (.raw (ks_superObj peA p peA))) s' → Q (.ref so) s') :
    wpT (model prog w) A (.func body (D.env L)) (attributeBase (.Call (.Name "super" p0) [] [] p1) attr (D.env L) whole) Q E s := by
  have X := S.kin Z
  obtain ⟨⟨oc, od, osl, doc, pm, an, ct, ho⟩, hcd⟩ := hD
  obtain ⟨cda, ccl, cdd, cvs, ccs, file, tf, hcdv, hcode, hfile0, hfile⟩ := U.code
  obtain ⟨c0, d0, sl0, hcell⟩ := U.cell
  obtain ⟨cd, hcls⟩ := Option.isSome_iff_exists.mp U.cls
  obtain ⟨mg, G⟩ := Z.glob
  obtain ⟨mb, B, hB⟩ := Z.bui
  obtain ⟨oD, hD1, hD2⟩ : ∃ oD, s.heap.get? peA = some oD ∧ oD.data = .cls cd := by
    have hD := hcls
    unfold clsIn at hD
    split at hD
    · rename_i c d cd' sl ho
      cases hD
      exact ⟨_, X _ _ ho, rfl⟩
    · cases hD
  obtain ⟨ar, har, har2⟩ := Option.map_eq_some_iff.mp U.par
  have I := pic_inst S h1 h2
  refine ks_wpAt_super_base (env := D.env L) (f := D.addr) (cc := cda) U.ks U.kc hat rfl (X _ _ ho) rfl har hcdv (X _ _ hcode) rfl hfile0 hfile U.top ?_
  refine ks_loadName_global C.kind U.ks (loadGlobal_builtin (env := D.env L) (G.keeps S.keep) (mg_none_of Z.kin G U.sup) (B.keeps S.keep) ((hB _ (by decide +kernel)).trans boot_super) ⟨rfl, ?_⟩)
  refine wpAny_loadName_free (env := D.env L) (name := "__class__") (c := cc) C.kind U.kc (by show D.cl.lookup _ = _; rw [U.cl]; rfl) ⟨_, X _ _ hcell, rfl⟩ ?_
  rw [har2]
  refine wpAny_loadName_local C.kind (lookup_at C.nd U.kself) S.ns (fm_get C.nd U.kself hv) ?_
  refine ks_wpAny_isType_cls hD1 hD2 ⟨rfl, ?_⟩
  refine ks_wpAny_call_super hD1 hD2 I.at_ I.cls (fun c e => ?_) (looks_mroIn X U.sub) (fun h' e k => ?_)
  · have := I.no
    unfold notCls at this
    rw [e] at this
    exact Bool.noConfusion this
  · exact h _ _ S.wd.freshH (S.heap (t := s.toks) (S.wd.grow k (Heap.get?_none_of_le (Nat.le_refl _)) e rfl S.wd.low))

theorem super_attr {h : Heap} {g : Array GenState} {d : Drawn} {t : Nat} {oo : OsState} {so D x C f : Addr} {of : Obj} {l₀ l : List Value} {name : Str} {Q : Value → Shared → Prop}
    (hso : h.get? so = some { cls := .type "super", dict := none, data := .fields #[.ref D, .ref x, .ref C], slots := #[] }) (hno : Looks (model prog w) h (opaqueClassAbove (.ref C)) none)
    (hC : Looks (model prog w) h (mroOf (.ref C)) l₀) (hl : (l₀.dropWhile (· != .ref D)).drop 1 = l) (X : K.In h)
    (hf : alongIn K name l = some (some (.ref f))) (hfo : h.get? f = some of) (hfc : of.cls = .type "function") (hxC : x ≠ C) (hn : (name == ("__class__" : Str)) = false)
    (hq : Q (.ref h.objs.size) ⟨h.push { cls := .type "method", data := .fields #[.ref f, .ref x] }, g, d, t + 1, oo⟩) :
    wpAny (model prog w) A (getAttr (.ref so) name true) Q E ⟨h, g, d, t, oo⟩ := by
  have hlk := PySem.F.ks_slot_super_ga.lookup
  have hT : ∀ t', (⟨h, g, d, t', oo⟩ : Shared).TypeIs (.ref so) "super" := fun _ => ⟨_, hso, rfl⟩
  unfold getAttr getAttrBy
  refine wpAny_bind (wpAny_mkText (wpAny_holding (wpAny_bind (wpAny_typeOf (hT _) (wpAny_bind (wpAny_of_eq hlk ?_))))))
  show wpAny _ _ (getAttrByItsOwn (.ref so) (.str name t) (.type "super") (.builtin "super.__getattribute__") true true) _ _ _
  unfold getAttrByItsOwn hookBefore callGetattribute boundAndCalled
  refine wpAny_bind (wpAny_of_eq (show (if onTheHeap (.type "super") then typeLookup (.type "super") "__getattr__" else pure none) = pure none from rfl) ?_)
  refine wpAny_bind (wpAny_attempt (wpAny_holding ?_))
  show wpAny _ _ (bindSpecial (.builtin "super.__getattribute__") (.ref so) >>= _) _ _ _
  refine wpAny_bind (wpAny_of_eq (PySem.F.ks_slot_super_ga.bind _) ?_)
  refine wpAny_mono (Q := fun v s' => v = .ref h.objs.size ∧ s' = ⟨h.push { cls := .type "method", data := .fields #[.ref f, .ref x] }, g, d, t + 1, oo⟩) (E := fun _ _ => False)
    (wpAny_call_entry PySem.F.ks_slot_super_ga (hT _) PySem.F.ks_entry_super_ga (ks_wpAny_super_ga hso hno hC hl X hf hfo hfc hxC hn ⟨_, rfl, rfl, rfl⟩) (PySem.F.ks_gaArgs_super _ _)) (fun v s' hv => ?_) fun _ _ z => z.elim
  obtain ⟨rfl, rfl⟩ := hv
  exact wpAny_pure hq

/-- super().name(n=.., **attr), attr empty -/
theorem at_superS {D : Def} {cc L f2 aA : Addr} {body : List Stmt} {p0 p1 apos cpos kp1 kp2 : Pos} {name n : Str} {e1 e2 : PySem.Expr} {b : Bool} {es : List DictEntry} {m : Nat} {v : Value} {Q : Value → Shared → Prop} (U : SuK prog K D cc) (hD : D.In K)
    (hm : ks_superIn K peA peA name = some (some (.ref f2))) (hf : fnIn K f2 = true) (ht : typeIn K (.ref f2) = some (.type "function")) (S : St prog w base os ((D.env L, fm D.scope.names vs) :: fr) H s) (Z : Sta K base) (C : ScOk D.scope)
    (h1 : H p = some (.raw (instObj peA dx))) (h2 : H dx = some (.raw (dictS b es m)))
    (hv : vs[0]? = some (some (.ref p))) (hat : (name == ("__class__" : Str)) = false) (ha : H aA = some (.ds []))
    (x1 : ∀ H, Pu prog w base os fr H (D.env L) vs e1 (· = v)) (x2 : ∀ H, Pu prog w base os fr H (D.env L) vs e2 (· = .ref aA))
    (h : ∀ s', St prog w base os ((D.env L, fm D.scope.names vs) :: fr) H s' → CC (model prog w) A (.ref f2) [.ref p] [(n, v)] Q E s')
    (he : eval (.Call (.Attribute (.Call (.Name "super" p0) [] [] p1) name apos) [] [⟨some n, e1, kp1⟩, ⟨none, e2, kp2⟩] cpos) (D.env L) = (do
      let ov ← attributeBase (.Call (.Name "super" p0) [] [] p1) name (D.env L) (eval (.Call (.Name "super" p0) [] [] p1) (D.env L))
      standAt apos.atName
      let (f, first) ← holding [ov] (do pure (← getAttr ov name true, []))
      let callPos ← pure cpos
      callWith callPos f first (backTo cpos (starEach [] (D.env L))) (backToKw cpos (keywordEach [⟨some n, e1, kp1⟩, ⟨none, e2, kp2⟩] (D.env L)))) := by rfl) :
    wpT (model prog w) A (.func body (D.env L)) (eval (.Call (.Attribute (.Call (.Name "super" p0) [] [] p1) name apos) [] [⟨some n, e1, kp1⟩, ⟨none, e2, kp2⟩] cpos) (D.env L)) Q E s := by
  rw [he]
  refine _root_.PySem.wpAt_bind (ks_wpAt_mono (su_baseI U hD S Z C h1 h2 hv hat fun so s₁ hso S₁ => ?_) (fun _ _ z => z) fun _ _ z => z)
  refine at_any (wpAny_bind (wpAny_standAt (wpAny_bind (wpAny_holding ?_))))
  have X := S₁.kin Z
  obtain ⟨oso, hoso, hq⟩ := S₁.get (upd_self ..)
  cases (show oso = _ from hq)
  obtain ⟨cd, hc⟩ := Option.isSome_iff_exists.mp U.cls
  obtain ⟨of, hof, hofc⟩ : ∃ of, s₁.heap.get? f2 = some of ∧ of.cls = .type "function" := by
    have ht' : (K.lookup f2).map (·.cls) = some (.type "function") := ht
    cases z : K.lookup f2 with
    | none => rw [z] at ht'; cases ht'
    | some of => rw [z] at ht'; exact ⟨of, X _ _ z, Option.some.inj ht'⟩
  have np : p ≠ so := fun z => by rw [z, hso] at h1; cases h1
  have nd : dx ≠ so := fun z => by rw [z, hso] at h2; cases h2
  have na : aA ≠ so := fun z => by rw [z, hso] at ha; cases ha
  have I := pic_inst S₁ ((upd_ne _ _ np).trans h1) ((upd_ne _ _ nd).trans h2)
  have hm' := hm
  unfold ks_superIn at hm'
  rw [hc] at hm'
  refine wpAny_bind (super_attr (h := s₁.heap) (g := s₁.gens) (d := s₁.drawn) (t := s₁.toks) (oo := s₁.os) hoso (looks_opaque X U.opq) (l₀ := cd.mro) (fun A Q E s k q => wpAny_bind ((looks_clsIn X hc) A _ E s k (wpAny_pure q))) rfl X hm' hof hofc (ks_ne X I hc) hat (wpAny_pure (wpAny_bind (wpAny_pure ?_))))
  generalize hb : s₁.heap.objs.size = bb
  have S₂ : St prog w base os ((D.env L, fm D.scope.names vs) :: fr) (upd (upd H so (.raw (ks_superObj peA p peA))) bb (.raw (methodObj (.ref f2) (.ref p)))) { s₁ with heap := s₁.heap.push (methodObj (.ref f2) (.ref p)), toks := s₁.toks + 1 } := by
    have q := S₁.wd.push (o := methodObj (.ref f2) (.ref p)) (d := .raw (methodObj (.ref f2) (.ref p))) rfl rfl
    rw [hb] at q
    exact S₁.heap q
  have hbn : (upd H so (.raw (ks_superObj peA p peA))) bb = none := by rw [← hb]; exact S₁.wd.freshH
  have nab : aA ≠ bb := fun z => by rw [z] at na ha; rw [upd_ne _ _ na, ha] at hbn; cases hbn
  show wpAny _ _ (callWith cpos (.ref bb) [] [] [(some n, _), (none, _)]) _ _ _
  unfold callWith
  refine wpAny_bind (wpAny_holding (evalArgs_star (fr := (D.env L, fm D.scope.names vs) :: fr) S₂ (by rw [upd_ne _ _ nab, upd_ne _ _ na]; exact ha) (fun H' s' Q E S' q => wpAny_bind (Pu.go (x1 H') S' fun _ s'' e S'' => by subst e; exact wpAny_bind (wpAny_standAt (wpAny_pure (q s'' S''))))) (fun H' s' Q E S' q => wpAny_bind (Pu.go (x2 H') S' fun _ s'' e S'' => by subst e; exact wpAny_bind (wpAny_standAt (wpAny_pure (q s'' S''))))) fun s₃ S₃ => ?_))
  refine wpAny_bind (wpAny_standAt ?_)
  obtain ⟨ob, hob, hq⟩ := S₃.get (upd_self ..)
  cases (show ob = _ from hq)
  have fin : wpAny (model prog w) A (call (.ref bb) [] [(n, v)]) Q E s₃ := wpAny_call (ks_codeAny_call_bound hob (h s₃ ((S₃.drop hbn).drop hso)))
  have tail : ∀ {t : Sem Value}, wpAny (model prog w) A t Q E s₃ → wpAny (model prog w) A (t >>= fun r => holding [r] point >>= fun _ => pure r) Q E s₃ :=
    fun ht => wpAny_bind (wpAny_mono ht (fun r s₂ hr => wpAny_bind (wpAny_holding (wpAny_point (wpAny_pure hr)))) fun _ _ x => x)
  obtain ⟨k, hk', LL⟩ := keeps_M (M := model prog w) hf s₃.heap (show MethP K bb f2 (.ref p) s₃.heap from ⟨hob, S₃.kin Z⟩)
  dsimp only
  refine wpAny_bind (LL.here ?_)
  rcases hk' with rfl | rfl | rfl
  · exact tail (by unfold callMarked; exact Calls.wpAny_keep fin)
  · exact tail (wpAny_operating fin)
  · exact tail (wpAny_operating fin)
end
end Mine

end

section
open PySem PySem.W PyProof.Rows PySem.Calls
set_option Elab.async false
set_option maxRecDepth 100000
set_option linter.unusedVariables false
namespace Mine

def dInit : Def := mkD 795 "__init__" "PlanarEmbedding.__init__" (subAt 16 0) [(("__class__" : Str), 782)] (.ref 787) .none
def dDInit : Def := mkD 570 "__init__" "DiGraph.__init__" (subAt 14 0) [] (.ref 563) .none
theorem scInit : ScOk dInit.scope := ScOk.of (by decide +kernel)
theorem scDInit : ScOk dDInit.scope := ScOk.of (by decide +kernel)
structure KN (prog : Program) (K : Frag) : Prop extends KF K where
  makes : makesIn K peA = true
  fInit : findIn K (.ref peA) "__init__" = some (some (.ref 795))
  tInit : typeIn K (.ref 795) = some (.type "function")
  init : dInit.In K
  bInit : ∀ (P : Params) doc pm an ct p, ∃ g, peekA K ⟨prog, P⟩ (bindArgs (fnX dInit.name dInit.qual dInit.params dInit.body dInit.scope dInit.cl dInit.dV dInit.kV doc pm an dInit.cdv ct) ⟨[p], []⟩) = some (dictOf [] 0, g) ∧
    ∀ d, g d = (forIn ([] : List (Str × Value)) PUnit.unit fun x _ => (nsSet d x.1 x.2 >>= fun _ => pure (ForInStep.yield PUnit.unit))) >>= fun _ => pure ([(("self" : Str), p), (("incoming_graph_data" : Str), .none)] ++ [(("attr" : Str), .ref d)])
  bDInit : ∀ (P : Params) doc pm an ct p, ∃ g, peekA K ⟨prog, P⟩ (bindArgs (fnX dDInit.name dDInit.qual dDInit.params dDInit.body dDInit.scope dDInit.cl dDInit.dV dDInit.kV doc pm an dDInit.cdv ct) ⟨[p], [(("incoming_graph_data" : Str), .none)]⟩) = some (dictOf [] 0, g) ∧
    ∀ d, g d = (forIn ([] : List (Str × Value)) PUnit.unit fun x _ => (nsSet d x.1 x.2 >>= fun _ => pure (ForInStep.yield PUnit.unit))) >>= fun _ => pure ([(("self" : Str), p), (("incoming_graph_data" : Str), .none)] ++ [(("attr" : Str), .ref d)])
  suInit : SuK prog K dInit 782
  sup : ks_superIn K peA peA "__init__" = some (some (.ref 570))
  fD : fnIn K 570 = true
  tD : typeIn K (.ref 570) = some (.type "function")
  dinit : dDInit.In K
  set : findIn K (.ref peA) "__setattr__" = some (some (.builtin "object.__setattr__"))
  over : plainOver K peA = true
  kG : takerIn K peA "graph" = some none
  kN : takerIn K peA "_node" = some none
  kA : takerIn K peA "_adj" = some none
  kS : takerIn K peA "_succ" = some none
  kP : takerIn K peA "_pred" = some none

section
variable {P : Params} {prog : Program} {w : World} {K : Frag} {base : Heap} {os : Os} {A : Around} {E : Value → Shared → Prop} {fr : Frs} {H : Led} {s : Shared} {env : Env} {vs : List (Option Value)} {a p dx it l : Addr} {es : List DictEntry} {m : Nat} {Q : Flow → Shared → Prop} {rest : List Stmt} {np pos : Pos} {e₃ : PySem.Expr}

theorem set_at {name : Str} {v : Value} {Q : Unit → Shared → Prop} (F : KN prog K) (Z : Sta K base) (hu : True) (S : St prog w base os fr H s) (h1 : H p = some (.raw (instObj peA dx))) (h2 : H dx = some (.raw (dictS false es m))) (ht : takerIn K peA name = some none)
    (hs : ∀ e ∈ es, e.key.isStr name = false) (hr : ∀ e ∈ es, e.refKey = false) (hz : es.length ≤ 500)
    (q : ∀ s' t, St prog w base os fr (upd H dx (.raw (dictS false (es ++ [en w.params name t v]) (m + 1)))) s' → Q () s') : wpAny (model prog w) A (setAttr (.ref p) name v) Q E s := by
  have I := pic_inst S h1 h2
  refine set_plain (S.kin Z) I F.set (osa_open (s := { s with toks := s.toks + 1 }) (S.kin Z) I F.over ht fun b => ?_)
  have S₁ := S.toks (s.toks + 1)
  obtain ⟨cd, hc, hd'⟩ := any_some F.hd
  have hx := I.at_
  refine wpAny_bind (wpAny_pure (wpAny_bind (wpAny_bind (wpAny_loadPart hx (wpAny_bind ((looks_clsIn (S₁.kin Z) hc).here ?_))))))
  rw [hd']
  refine wpAny_pure (a := some dx) (wpAny_bind (wpAny_pure (wpAny_bind ?_)))
  refine ns_set (s := { s with toks := s.toks + 1 }) S₁ (show H dx = some (.raw (dictOf es m)) from h2) hs hr fun s' _ S' => ?_
  obtain ⟨o', D', e'⟩ := S'.get (upd_self ..)
  cases (show o' = _ from e')
  refine wpAny_bind (wpAny_lookBehind D' (pastItsLine_dict (by rw [List.size_toArray, sizeLine_eq, List.length_append]; simp; omega)) ?_)
  exact wpAny_pure (q s' _ S')

theorem x_setA {x name : Str} {ap : Pos} {fr₀ : Frs} {H₀ : Led} (F : KN prog K) (Z : Sta K base) (S₀ : St prog w base os fr₀ H₀ s) (ht : takerIn K peA name = some none)
    (h : wpAny (model prog w) A (eval e₃ env) (fun v s₁ => ∃ fr vs H p dx es m, St prog w base os ((env, fm env.scope.names vs) :: fr) H s₁ ∧ Pu prog w base os fr H env vs (.Name x np) (· = .ref p) ∧ H p = some (.raw (instObj peA dx)) ∧ H dx = some (.raw (dictS false es m)) ∧
      (∀ e ∈ es, e.key.isStr name = false) ∧ (∀ e ∈ es, e.refKey = false) ∧ es.length ≤ 500 ∧ ∀ s' t, St prog w base os ((env, fm env.scope.names vs) :: fr) (upd H dx (.raw (dictS false (es ++ [en w.params name t v]) (m + 1)))) s' → wpAny (model prog w) A (execs rest env) Q E s') E s)
    (hs : swapsWith e₃ (some (.Attribute (.Name x np) name ap)) pos.line env = pure false := by rfl) : wpAny (model prog w) A (execs (.Assign [.Attribute (.Name x np) name ap] e₃ pos :: rest) env) Q E s :=
  wpAny_execs_cons (plainObj_wpAny_Assign_Attribute (wpAny_mono h (fun v s₁ ⟨fr, vs, H, p, dx, es, m, S₁, h0, h1, h2, c1, c2, c3, q⟩ => h0 _ _ _ _ S₁ fun _ s₂ e S₂ => by
    subst e; exact set_at F Z trivial S₂ h1 h2 ht c1 c2 c3 fun s' t S' => q s' t S') fun _ _ e => e) hs)
/-- self.name(), while the picture is being made -/
theorem ev_par {o : PySem.Expr} {name : Str} {f : Addr} {apos pos : Pos} {pl : Sem Bool} {Q : Value → Shared → Prop} (S : St prog w base os ((env, fm env.scope.names vs) :: fr) H s) (Z : Sta K base) (F : KA K) (hm : MethK K name f) (h1 : H p = some (.raw (instObj peA dx))) (h2 : H dx = some (.raw (dictS false es m)))
    (hl : getL name es = some none) (h0 : Pu prog w base os fr H env vs o (· = .ref p))
    (h : ∀ s', St prog w base os ((env, fm env.scope.names vs) :: fr) H s' → wpAny (model prog w) A (call (.ref f) [.ref p]) Q E s')
    (he : eval (.Call (.Attribute o name apos) [] [] pos) env = (do
      let ov ← eval o env
      standAt apos.atName
      let (f, first) ← holding [ov] (getMethod ov name pl)
      callWith pos f first (backTo pos (starEach [] env)) (backToKw pos (keywordEach [] env))) := by rfl) :
    wpAny (model prog w) A (eval (.Call (.Attribute o name apos) [] [] pos) env) Q E s :=
  mcall (pl := pl) (h0 _ _ _ _ S fun _ s₁ x S₁ => by
    subst x
    exact method_fn (S₁.kin Z) (pic_inst S₁ h1 h2) (plainGet_of F.pg).1 (plainGet_of F.pg).2 hm.find (beq_iff_eq.mp hm.fn) (by show (getL name es).map _ = _; rw [hl]; rfl) (cwK (es := []) (ks := []) hm.keep rfl rfl ⟨S₁.kin Z, h s₁ S₁⟩)) he
theorem pu_par {n name : Str} {v : Addr} (Z : Sta K base) (F : KA K) (h1 : H p = some (.raw (instObj peA dx))) (h2 : H dx = some (.raw (dictS false es m))) (hf : findIn K (.ref peA) name = some none) (hl : getL name es = some (some (.ref v))) (h0 : Pu prog w base os fr H env vs (.Name n np) (· = .ref p)) :
    Pu prog w base os fr H env vs (.Attribute (.Name n np) name pos) (· = .ref v) :=
  pu_attr h0 fun A E Q s S q => get_value (S.kin Z) (pic_inst S h1 h2) (plainGet_of F.pg).1 (findObj_own F.hd hf rfl hl) rfl (q _ _ rfl (S.toks _))

theorem dinit_ok {Q : Value → Shared → Prop} (F : KN prog K) (Z : Sta K base) (S : St prog w base os fr H s) (hA : A.depth + 2 < recursionLimit) (h1 : H p = some (.raw (instObj peA dx))) (h2 : H dx = some (.raw (dictS false [] 0))) (npd : p ≠ dx)
    (q : ∀ s' H' t g n sx px m, St prog w base os fr H' s' → H' p = some (.raw (instObj peA dx)) → H' dx = some (.raw (dictS false (picEs w.params t g n sx px false) m)) → H' g = some (.ds []) → H' n = some (.di [] none) → H' sx = some (.di [] none) → H' px = some (.di [] none) →
      [p, dx, g, n, sx, px].Nodup → (∀ a d, H a = some d → a ≠ dx → H' a = some d ∧ a ≠ g ∧ a ≠ n ∧ a ≠ sx ∧ a ≠ px) → Q .none s') :
    CC (model prog w) A (.ref 570) [.ref p] [(("incoming_graph_data" : Str), .none)] Q E s := by
  have C := scDInit
  refine call_attrC (D := dDInit) (ex := []) (front := [("self", .ref p), ("incoming_graph_data", .none)]) (name := "attr") (n := 0) S Z (by omega) F.dinit (by decide +kernel) scDInit rfl rfl (fun doc pm an ct => F.bDInit _ doc pm an ct _) .nil rfl rfl fun L d s₁ hd S₁ => ?_
  replace S₁ : St prog w base os ((dDInit.env L, fm (dDInit.env L).scope.names [some (.ref p), some .none, some (.ref d)]) :: fr) (upd H d (.ds [])) s₁ := S₁
  have hA1 : (A.deeper (dDInit.env L)).depth = A.depth + 1 := rfl
  have npd' : p ≠ d := fun z => by rw [z, hd] at h1; cases h1
  have nxd : dx ≠ d := fun z => by rw [z, hd] at h2; cases h2
  rw [BodyOk]
  -- graph
  refine x_setA F Z S₁ F.kG (ev_par S₁ Z F.toKA F.mGraphAttr ((upd_ne _ _ npd').trans h1) ((upd_ne _ _ nxd).trans h2) rfl (pu_v 0 C rfl rfl) fun s₂ S₂ => ?_)
  refine fac_ok (D := dGraphAttr) F.graphAttr rfl (by decide +kernel) scGraphAttr rfl rfl (fun _ _ _ _ => rfl) rfl rfl S₂ Z (by rw [hA1]; omega) fun g s₃ hg _ S₃ => ?_
  have hH : ∀ {H₁ : Led} {b a : Addr} {d₁ d₂ : Desc}, H₁ b = none → H₁ a = some d₁ → upd H₁ b d₂ a = some d₁ := fun {H₁ b a d₁ d₂} hb ha => by rw [upd_ne _ _ (fun z => by rw [z, hb] at ha; cases ha)]; exact ha
  have a1 := hH (d₂ := .ds []) hd h1
  have a2 := hH (d₂ := .ds []) hd h2
  have a3 : upd H d (.ds []) d = some (.ds []) := upd_self ..
  have keep1 : ∀ a x, H a = some x → upd H d (.ds []) a = some x ∧ a ≠ d := fun a x ha => ⟨hH hd ha, fun z => by rw [z, hd] at ha; cases ha⟩
  generalize upd H d (.ds []) = H₁ at *
  have b1 := hH (d₂ := .ds []) hg a1
  have b2 := hH (d₂ := .ds []) hg a2
  have b3 := hH (d₂ := .ds []) hg a3
  refine ⟨fr, _, _, p, dx, [], 0, S₃, pu_v 0 C rfl rfl, b1, b2, (fun _ h => nomatch h), (fun _ h => nomatch h), by simp, fun s₄ t0 S₄ => ?_⟩
  -- _node
  have set1 : ∀ {H₁ : Led} {a : Addr} {d₁ d₂ : Desc}, a ≠ dx → H₁ a = some d₁ → upd H₁ dx d₂ a = some d₁ := fun h ha => (upd_ne _ _ h).trans ha
  have c1 := set1 (d₂ := .raw (dictS false ([] ++ [en w.params "graph" t0 (.ref g)]) (0 + 1))) npd b1
  have c2 : upd (upd H₁ g (.ds [])) dx (.raw (dictS false ([] ++ [en w.params "graph" t0 (.ref g)]) (0 + 1))) dx = some (.raw (dictS false [en w.params "graph" t0 (.ref g)] 1)) := upd_self ..
  have c3 := set1 (d₂ := .raw (dictS false ([] ++ [en w.params "graph" t0 (.ref g)]) (0 + 1))) nxd.symm b3
  have ngx : g ≠ dx := fun z => by rw [z, a2] at hg; cases hg
  have c4 : upd (upd H₁ g (.ds [])) dx (.raw (dictS false ([] ++ [en w.params "graph" t0 (.ref g)]) (0 + 1))) g = some (.ds []) := set1 ngx (upd_self ..)
  have keep2 : ∀ a x, H a = some x → a ≠ dx → upd (upd H₁ g (.ds [])) dx (.raw (dictS false ([] ++ [en w.params "graph" t0 (.ref g)]) (0 + 1))) a = some x ∧ a ≠ d ∧ a ≠ g := fun a x ha hx => by
    obtain ⟨q1, q2⟩ := keep1 a x ha
    exact ⟨set1 hx (hH hg q1), q2, fun z => by rw [z, hg] at q1; cases q1⟩
  have ndg : d ≠ g := fun z => by rw [z, hg] at a3; cases a3
  have npg : p ≠ g := fun z => by rw [z, hg] at a1; cases a1
  generalize upd (upd H₁ g (.ds [])) dx (.raw (dictS false ([] ++ [en w.params "graph" t0 (.ref g)]) (0 + 1))) = H₂ at *
  refine x_setA F Z S₄ F.kN (ev_par S₄ Z F.toKA F.mNodeFac c1 c2 rfl (pu_v 0 C rfl rfl) fun s₅ S₅ => ?_)
  refine fac_ok (D := dNodeFac) F.nodeFac rfl (by decide +kernel) scNodeFac rfl rfl (fun _ _ _ _ => rfl) rfl rfl S₅ Z (by rw [hA1]; omega) fun n s₆ hn S₆ _ => ?_
  have d1 := hH (d₂ := .di [] none) hn c1
  have d2 := hH (d₂ := .di [] none) hn c2
  have d3 := hH (d₂ := .di [] none) hn c3
  have d4 := hH (d₂ := .di [] none) hn c4
  have d5 : upd H₂ n (.di [] none) n = some (.di [] none) := upd_self ..
  have keep3 : ∀ a x, H a = some x → a ≠ dx → upd H₂ n (.di [] none) a = some x ∧ a ≠ d ∧ a ≠ g ∧ a ≠ n := fun a x ha hx => by
    obtain ⟨q1, q2, q3⟩ := keep2 a x ha hx
    exact ⟨hH hn q1, q2, q3, fun z => by rw [z, hn] at q1; cases q1⟩
  have nn : p ≠ n ∧ dx ≠ n ∧ d ≠ n ∧ g ≠ n := ⟨fun z => (by rw [z, hn] at c1; cases c1), fun z => (by rw [z, hn] at c2; cases c2), fun z => (by rw [z, hn] at c3; cases c3), fun z => by rw [z, hn] at c4; cases c4⟩
  generalize upd H₂ n (.di [] none) = H₃ at *
  refine ⟨fr, _, _, p, dx, _, 1, S₆, pu_v 0 C rfl rfl, d1, d2, (List.forall_mem_cons.2 ⟨(show (("graph" : Str) == ("_node" : Str)) = false by decide +kernel), (fun _ h => nomatch h)⟩), (List.forall_mem_cons.2 ⟨rfl, (fun _ h => nomatch h)⟩), by simp, fun s₇ t1 S₇ => ?_⟩
  -- _adj
  have e1 := set1 (d₂ := .raw (dictS false [en w.params "graph" t0 (.ref g), en w.params "_node" t1 (.ref n)] (1 + 1))) npd d1
  have e2 : upd H₃ dx (.raw (dictS false [en w.params "graph" t0 (.ref g), en w.params "_node" t1 (.ref n)] (1 + 1))) dx = some (.raw (dictS false [en w.params "graph" t0 (.ref g), en w.params "_node" t1 (.ref n)] (1 + 1))) := upd_self ..
  have e3 := set1 (d₂ := .raw (dictS false [en w.params "graph" t0 (.ref g), en w.params "_node" t1 (.ref n)] (1 + 1))) nxd.symm d3
  have e4 := set1 (d₂ := .raw (dictS false [en w.params "graph" t0 (.ref g), en w.params "_node" t1 (.ref n)] (1 + 1))) ngx d4
  have e5 := set1 (d₂ := .raw (dictS false [en w.params "graph" t0 (.ref g), en w.params "_node" t1 (.ref n)] (1 + 1))) nn.2.1.symm d5
  have keep4 : ∀ a x, H a = some x → a ≠ dx → upd H₃ dx (.raw (dictS false [en w.params "graph" t0 (.ref g), en w.params "_node" t1 (.ref n)] (1 + 1))) a = some x ∧ a ≠ d ∧ a ≠ g ∧ a ≠ n := fun a x ha hx => let ⟨q1, q2⟩ := keep3 a x ha hx; ⟨set1 hx q1, q2⟩
  change St prog w base os _ (upd H₃ dx (.raw (dictS false [en w.params "graph" t0 (.ref g), en w.params "_node" t1 (.ref n)] (1 + 1)))) s₇ at S₇
  generalize upd H₃ dx (.raw (dictS false [en w.params "graph" t0 (.ref g), en w.params "_node" t1 (.ref n)] (1 + 1))) = H₄ at *
  refine x_setA F Z S₇ F.kA (ev_par S₇ Z F.toKA F.mOuter e1 e2 rfl (pu_v 0 C rfl rfl) fun s₈ S₈ => ?_)
  refine fac_ok (D := dOuter) F.outer rfl (by decide +kernel) scOuter rfl rfl (fun _ _ _ _ => rfl) rfl rfl S₈ Z (by rw [hA1]; omega) fun sx s₉ hsx S₉ _ => ?_
  have f1 := hH (d₂ := .di [] none) hsx e1
  have f2 := hH (d₂ := .di [] none) hsx e2
  have f3 := hH (d₂ := .di [] none) hsx e3
  have f4 := hH (d₂ := .di [] none) hsx e4
  have f5 := hH (d₂ := .di [] none) hsx e5
  have f6 : upd H₄ sx (.di [] none) sx = some (.di [] none) := upd_self ..
  have keep5 : ∀ a x, H a = some x → a ≠ dx → upd H₄ sx (.di [] none) a = some x ∧ a ≠ d ∧ a ≠ g ∧ a ≠ n ∧ a ≠ sx := fun a x ha hx => by
    obtain ⟨q1, q2, q3, q4⟩ := keep4 a x ha hx
    exact ⟨hH hsx q1, q2, q3, q4, fun z => by rw [z, hsx] at q1; cases q1⟩
  have ns : p ≠ sx ∧ dx ≠ sx ∧ d ≠ sx ∧ g ≠ sx ∧ n ≠ sx := ⟨fun z => (by rw [z, hsx] at e1; cases e1), fun z => (by rw [z, hsx] at e2; cases e2), fun z => (by rw [z, hsx] at e3; cases e3), fun z => (by rw [z, hsx] at e4; cases e4), fun z => by rw [z, hsx] at e5; cases e5⟩
  generalize upd H₄ sx (.di [] none) = H₅ at *
  refine ⟨fr, _, _, p, dx, _, 1 + 1, S₉, pu_v 0 C rfl rfl, f1, f2, (List.forall_mem_cons.2 ⟨(show (("graph" : Str) == ("_adj" : Str)) = false by decide +kernel), (List.forall_mem_cons.2 ⟨(show (("_node" : Str) == ("_adj" : Str)) = false by decide +kernel), (fun _ h => nomatch h)⟩)⟩), (List.forall_mem_cons.2 ⟨rfl, (List.forall_mem_cons.2 ⟨rfl, (fun _ h => nomatch h)⟩)⟩), by simp, fun s₁₀ t2 S₁₀ => ?_⟩
  -- _succ
  have g1 := set1 (d₂ := .raw (dictS false [en w.params "graph" t0 (.ref g), en w.params "_node" t1 (.ref n), en w.params "_adj" t2 (.ref sx)] (1 + 1 + 1))) npd f1
  have g2 : upd H₅ dx (.raw (dictS false [en w.params "graph" t0 (.ref g), en w.params "_node" t1 (.ref n), en w.params "_adj" t2 (.ref sx)] (1 + 1 + 1))) dx = some (.raw (dictS false [en w.params "graph" t0 (.ref g), en w.params "_node" t1 (.ref n), en w.params "_adj" t2 (.ref sx)] (1 + 1 + 1))) := upd_self ..
  have g3 := set1 (d₂ := .raw (dictS false [en w.params "graph" t0 (.ref g), en w.params "_node" t1 (.ref n), en w.params "_adj" t2 (.ref sx)] (1 + 1 + 1))) nxd.symm f3
  have g4 := set1 (d₂ := .raw (dictS false [en w.params "graph" t0 (.ref g), en w.params "_node" t1 (.ref n), en w.params "_adj" t2 (.ref sx)] (1 + 1 + 1))) ngx f4
  have g5 := set1 (d₂ := .raw (dictS false [en w.params "graph" t0 (.ref g), en w.params "_node" t1 (.ref n), en w.params "_adj" t2 (.ref sx)] (1 + 1 + 1))) nn.2.1.symm f5
  have g6 := set1 (d₂ := .raw (dictS false [en w.params "graph" t0 (.ref g), en w.params "_node" t1 (.ref n), en w.params "_adj" t2 (.ref sx)] (1 + 1 + 1))) ns.2.1.symm f6
  have keep6 : ∀ a x, H a = some x → a ≠ dx → upd H₅ dx (.raw (dictS false [en w.params "graph" t0 (.ref g), en w.params "_node" t1 (.ref n), en w.params "_adj" t2 (.ref sx)] (1 + 1 + 1))) a = some x ∧ a ≠ d ∧ a ≠ g ∧ a ≠ n ∧ a ≠ sx := fun a x ha hx => let ⟨q1, q2⟩ := keep5 a x ha hx; ⟨set1 hx q1, q2⟩
  change St prog w base os _ (upd H₅ dx (.raw (dictS false [en w.params "graph" t0 (.ref g), en w.params "_node" t1 (.ref n), en w.params "_adj" t2 (.ref sx)] (1 + 1 + 1)))) s₁₀ at S₁₀
  generalize upd H₅ dx (.raw (dictS false [en w.params "graph" t0 (.ref g), en w.params "_node" t1 (.ref n), en w.params "_adj" t2 (.ref sx)] (1 + 1 + 1))) = H₆ at *
  refine x_setA F Z S₁₀ F.kS (Pu.go (pu_par Z F.toKA g1 g2 F.a rfl (pu_v 0 C rfl rfl)) S₁₀ fun x s₁₁ hx S₁₁ => ?_)
  subst hx
  refine ⟨fr, _, _, p, dx, _, 1 + 1 + 1, S₁₁, pu_v 0 C rfl rfl, g1, g2, (List.forall_mem_cons.2 ⟨(show (("graph" : Str) == ("_succ" : Str)) = false by decide +kernel), (List.forall_mem_cons.2 ⟨(show (("_node" : Str) == ("_succ" : Str)) = false by decide +kernel), (List.forall_mem_cons.2 ⟨(show (("_adj" : Str) == ("_succ" : Str)) = false by decide +kernel), (fun _ h => nomatch h)⟩)⟩)⟩), (List.forall_mem_cons.2 ⟨rfl, (List.forall_mem_cons.2 ⟨rfl, (List.forall_mem_cons.2 ⟨rfl, (fun _ h => nomatch h)⟩)⟩)⟩), by simp, fun s₁₂ t3 S₁₂ => ?_⟩
  -- _pred
  have i1 := set1 (d₂ := .raw (dictS false [en w.params "graph" t0 (.ref g), en w.params "_node" t1 (.ref n), en w.params "_adj" t2 (.ref sx), en w.params "_succ" t3 (.ref sx)] (1 + 1 + 1 + 1))) npd g1
  have i2 : upd H₆ dx (.raw (dictS false [en w.params "graph" t0 (.ref g), en w.params "_node" t1 (.ref n), en w.params "_adj" t2 (.ref sx), en w.params "_succ" t3 (.ref sx)] (1 + 1 + 1 + 1))) dx = some (.raw (dictS false [en w.params "graph" t0 (.ref g), en w.params "_node" t1 (.ref n), en w.params "_adj" t2 (.ref sx), en w.params "_succ" t3 (.ref sx)] (1 + 1 + 1 + 1))) := upd_self ..
  have i3 := set1 (d₂ := .raw (dictS false [en w.params "graph" t0 (.ref g), en w.params "_node" t1 (.ref n), en w.params "_adj" t2 (.ref sx), en w.params "_succ" t3 (.ref sx)] (1 + 1 + 1 + 1))) nxd.symm g3
  have i4 := set1 (d₂ := .raw (dictS false [en w.params "graph" t0 (.ref g), en w.params "_node" t1 (.ref n), en w.params "_adj" t2 (.ref sx), en w.params "_succ" t3 (.ref sx)] (1 + 1 + 1 + 1))) ngx g4
  have i5 := set1 (d₂ := .raw (dictS false [en w.params "graph" t0 (.ref g), en w.params "_node" t1 (.ref n), en w.params "_adj" t2 (.ref sx), en w.params "_succ" t3 (.ref sx)] (1 + 1 + 1 + 1))) nn.2.1.symm g5
  have i6 := set1 (d₂ := .raw (dictS false [en w.params "graph" t0 (.ref g), en w.params "_node" t1 (.ref n), en w.params "_adj" t2 (.ref sx), en w.params "_succ" t3 (.ref sx)] (1 + 1 + 1 + 1))) ns.2.1.symm g6
  have keep7 : ∀ a x, H a = some x → a ≠ dx → upd H₆ dx (.raw (dictS false [en w.params "graph" t0 (.ref g), en w.params "_node" t1 (.ref n), en w.params "_adj" t2 (.ref sx), en w.params "_succ" t3 (.ref sx)] (1 + 1 + 1 + 1))) a = some x ∧ a ≠ d ∧ a ≠ g ∧ a ≠ n ∧ a ≠ sx := fun a x ha hx => let ⟨q1, q2⟩ := keep6 a x ha hx; ⟨set1 hx q1, q2⟩
  change St prog w base os _ (upd H₆ dx (.raw (dictS false [en w.params "graph" t0 (.ref g), en w.params "_node" t1 (.ref n), en w.params "_adj" t2 (.ref sx), en w.params "_succ" t3 (.ref sx)] (1 + 1 + 1 + 1)))) s₁₂ at S₁₂
  generalize upd H₆ dx (.raw (dictS false [en w.params "graph" t0 (.ref g), en w.params "_node" t1 (.ref n), en w.params "_adj" t2 (.ref sx), en w.params "_succ" t3 (.ref sx)] (1 + 1 + 1 + 1))) = H₇ at *
  refine x_setA F Z S₁₂ F.kP (ev_par S₁₂ Z F.toKA F.mOuter i1 i2 rfl (pu_v 0 C rfl rfl) fun s₁₃ S₁₃ => ?_)
  refine fac_ok (D := dOuter) F.outer rfl (by decide +kernel) scOuter rfl rfl (fun _ _ _ _ => rfl) rfl rfl S₁₃ Z (by rw [hA1]; omega) fun px s₁₄ hpx S₁₄ _ => ?_
  have j1 := hH (d₂ := .di [] none) hpx i1
  have j2 := hH (d₂ := .di [] none) hpx i2
  have j3 := hH (d₂ := .di [] none) hpx i3
  have j4 := hH (d₂ := .di [] none) hpx i4
  have j5 := hH (d₂ := .di [] none) hpx i5
  have j6 := hH (d₂ := .di [] none) hpx i6
  have j7 : upd H₇ px (.di [] none) px = some (.di [] none) := upd_self ..
  have keep8 : ∀ a x, H a = some x → a ≠ dx → upd H₇ px (.di [] none) a = some x ∧ a ≠ d ∧ a ≠ g ∧ a ≠ n ∧ a ≠ sx ∧ a ≠ px := fun a x ha hx => by
    obtain ⟨q1, q2, q3, q4, q5⟩ := keep7 a x ha hx
    exact ⟨hH hpx q1, q2, q3, q4, q5, fun z => by rw [z, hpx] at q1; cases q1⟩
  have nx : p ≠ px ∧ dx ≠ px ∧ d ≠ px ∧ g ≠ px ∧ n ≠ px ∧ sx ≠ px := ⟨fun z => (by rw [z, hpx] at i1; cases i1), fun z => (by rw [z, hpx] at i2; cases i2), fun z => (by rw [z, hpx] at i3; cases i3), fun z => (by rw [z, hpx] at i4; cases i4), fun z => (by rw [z, hpx] at i5; cases i5), fun z => by rw [z, hpx] at i6; cases i6⟩
  generalize upd H₇ px (.di [] none) = H₈ at *
  refine ⟨fr, _, _, p, dx, _, 1 + 1 + 1 + 1, S₁₄, pu_v 0 C rfl rfl, j1, j2, (List.forall_mem_cons.2 ⟨(show (("graph" : Str) == ("_pred" : Str)) = false by decide +kernel), (List.forall_mem_cons.2 ⟨(show (("_node" : Str) == ("_pred" : Str)) = false by decide +kernel), (List.forall_mem_cons.2 ⟨(show (("_adj" : Str) == ("_pred" : Str)) = false by decide +kernel), (List.forall_mem_cons.2 ⟨(show (("_succ" : Str) == ("_pred" : Str)) = false by decide +kernel), (fun _ h => nomatch h)⟩)⟩)⟩)⟩), (List.forall_mem_cons.2 ⟨rfl, (List.forall_mem_cons.2 ⟨rfl, (List.forall_mem_cons.2 ⟨rfl, (List.forall_mem_cons.2 ⟨rfl, (fun _ h => nomatch h)⟩)⟩)⟩)⟩), by simp, fun s₁₅ t4 S₁₅ => ?_⟩
  have k1 := set1 (d₂ := .raw (dictS false [en w.params "graph" t0 (.ref g), en w.params "_node" t1 (.ref n), en w.params "_adj" t2 (.ref sx), en w.params "_succ" t3 (.ref sx), en w.params "_pred" t4 (.ref px)] (1 + 1 + 1 + 1 + 1))) npd j1
  have k2 : upd H₈ dx (.raw (dictS false [en w.params "graph" t0 (.ref g), en w.params "_node" t1 (.ref n), en w.params "_adj" t2 (.ref sx), en w.params "_succ" t3 (.ref sx), en w.params "_pred" t4 (.ref px)] (1 + 1 + 1 + 1 + 1))) dx = some (.raw (dictS false [en w.params "graph" t0 (.ref g), en w.params "_node" t1 (.ref n), en w.params "_adj" t2 (.ref sx), en w.params "_succ" t3 (.ref sx), en w.params "_pred" t4 (.ref px)] (1 + 1 + 1 + 1 + 1))) := upd_self ..
  have k3 := set1 (d₂ := .raw (dictS false [en w.params "graph" t0 (.ref g), en w.params "_node" t1 (.ref n), en w.params "_adj" t2 (.ref sx), en w.params "_succ" t3 (.ref sx), en w.params "_pred" t4 (.ref px)] (1 + 1 + 1 + 1 + 1))) nxd.symm j3
  have k4 := set1 (d₂ := .raw (dictS false [en w.params "graph" t0 (.ref g), en w.params "_node" t1 (.ref n), en w.params "_adj" t2 (.ref sx), en w.params "_succ" t3 (.ref sx), en w.params "_pred" t4 (.ref px)] (1 + 1 + 1 + 1 + 1))) ngx j4
  have k5 := set1 (d₂ := .raw (dictS false [en w.params "graph" t0 (.ref g), en w.params "_node" t1 (.ref n), en w.params "_adj" t2 (.ref sx), en w.params "_succ" t3 (.ref sx), en w.params "_pred" t4 (.ref px)] (1 + 1 + 1 + 1 + 1))) nn.2.1.symm j5
  have k6 := set1 (d₂ := .raw (dictS false [en w.params "graph" t0 (.ref g), en w.params "_node" t1 (.ref n), en w.params "_adj" t2 (.ref sx), en w.params "_succ" t3 (.ref sx), en w.params "_pred" t4 (.ref px)] (1 + 1 + 1 + 1 + 1))) ns.2.1.symm j6
  have k7 := set1 (d₂ := .raw (dictS false [en w.params "graph" t0 (.ref g), en w.params "_node" t1 (.ref n), en w.params "_adj" t2 (.ref sx), en w.params "_succ" t3 (.ref sx), en w.params "_pred" t4 (.ref px)] (1 + 1 + 1 + 1 + 1))) nx.2.1.symm j7
  have keep9 : ∀ a x, H a = some x → a ≠ dx → upd H₈ dx (.raw (dictS false [en w.params "graph" t0 (.ref g), en w.params "_node" t1 (.ref n), en w.params "_adj" t2 (.ref sx), en w.params "_succ" t3 (.ref sx), en w.params "_pred" t4 (.ref px)] (1 + 1 + 1 + 1 + 1))) a = some x ∧ a ≠ g ∧ a ≠ n ∧ a ≠ sx ∧ a ≠ px := fun a x ha hx => let ⟨q1, _, q2⟩ := keep8 a x ha hx; ⟨set1 hx q1, q2⟩
  change St prog w base os _ (upd H₈ dx (.raw (dictS false [en w.params "graph" t0 (.ref g), en w.params "_node" t1 (.ref n), en w.params "_adj" t2 (.ref sx), en w.params "_succ" t3 (.ref sx), en w.params "_pred" t4 (.ref px)] (1 + 1 + 1 + 1 + 1)))) s₁₅ at S₁₅
  generalize upd H₈ dx (.raw (dictS false [en w.params "graph" t0 (.ref g), en w.params "_node" t1 (.ref n), en w.params "_adj" t2 (.ref sx), en w.params "_succ" t3 (.ref sx), en w.params "_pred" t4 (.ref px)] (1 + 1 + 1 + 1 + 1))) = H₉ at *
  -- attr.pop('backend', None)
  refine x_expr (mcall (Pu.go (pu_v 2 C rfl rfl) S₁₅ fun _ s₁₆ e S₁₆ => ?_))
  subst e
  refine md_ds PySem.F.slot_dict_pop PySem.F.type_dict_pop S₁₆ k3 (cwB rfl ?_)
  refine pu_str (env := dDInit.env L) _ _ _ _ S₁₆ fun _ s₁₇ ⟨tb, e⟩ S₁₇ => ?_
  subst e
  refine pu_none (env := dDInit.env L) _ _ _ _ S₁₇ fun _ s₁₈ e S₁₈ => ?_
  subst e
  refine ds_pop_none S₁₈ k3 rfl fun s₁₉ S₁₉ => ⟨rfl, ?_⟩
  -- self.graph.update(attr)
  refine x_dsupd S₁₉ (pu_par Z F.toKA k1 k2 F.g rfl (pu_v 0 C rfl rfl)) (pu_v 2 C rfl rfl) k4 k3 ndg.symm (by decide) rfl fun s₂₀ S₂₀ => ?_
  rw [show merged [] [] = ([] : List (Str × Value)) from rfl, upd_same k4] at S₂₀
  refine x_nil (q s₂₀ H₉ (fun i => match i with | 0 => t0 | 1 => t1 | 2 => t2 | 3 => t3 | _ => t4) g n sx px _ S₂₀.popped k1 k2 k4 k5 k6 k7 ?_ keep9)
  simp [npd, npg, ngx.symm, nn.1, nn.2.1, nn.2.2.2, ns.1, ns.2.1, ns.2.2.2.1, ns.2.2.2.2, nx.1, nx.2.1, nx.2.2.2.1, nx.2.2.2.2.1, nx.2.2.2.2.2]
end
end Mine

end

section
open PySem PySem.W PyProof.Rows PySem.Calls
set_option Elab.async false
set_option maxRecDepth 100000
set_option linter.unusedVariables false
namespace Mine

section
variable {P : Params} {prog : Program} {w : World} {K : Frag} {base : Heap} {os : Os} {A : Around} {E : Value → Shared → Prop} {fr : Frs} {H : Led} {s : Shared} {env : Env} {vs : List (Option Value)} {a p dx g n sx px ra ka : Addr} {m : Nat}

/-- PlanarEmbedding() -/
theorem pic_new {Q : Value → Shared → Prop} (F : KN prog K) (Z : Sta K base) (S : St prog w base os fr H s) (hA : A.depth + 6 < recursionLimit)
    (q : ∀ s' H' t p dx g n sx px m, St prog w base os fr H' s' → H' p = some (.raw (instObj peA dx)) → H' dx = some (.raw (dictS false (picEs w.params t g n sx px false) m)) → H' g = some (.ds []) → H' n = some (.di [] none) → H' sx = some (.di [] none) → H' px = some (.di [] none) →
      [p, dx, g, n, sx, px].Nodup → (∀ a d, H a = some d → H' a = some d ∧ a ≠ p ∧ a ≠ dx ∧ a ≠ g ∧ a ≠ n ∧ a ≠ sx ∧ a ≠ px) → Q (.ref p) s') :
    wpAny (model prog w) A (call (.ref peA) []) Q E s := by
  have X := S.kin Z
  have S₁ : St prog w base os fr (upd H s.heap.objs.size (.raw (dictS false [] 0))) { s with heap := s.heap.push emptyDict } := S.heap (t := s.toks) (S.wd.push rfl rfl)
  have hdN := S.wd.freshH
  have S₂ : St prog w base os fr (upd (upd H s.heap.objs.size (.raw (dictS false [] 0))) (s.heap.objs.size + 1) (.raw (instObj peA s.heap.objs.size))) { s with heap := (s.heap.push emptyDict).push (instObj peA s.heap.objs.size) } := by
    have := S₁.wd.push (o := instObj peA s.heap.objs.size) (d := .raw (instObj peA s.heap.objs.size)) rfl rfl
    rw [show (s.heap.push emptyDict).objs.size = s.heap.objs.size + 1 from Heap.size_push ..] at this
    exact S₁.heap (t := s.toks) this
  have hpN : upd H s.heap.objs.size (.raw (dictS false [] 0)) (s.heap.objs.size + 1) = none := by
    have := S₁.wd.freshH
    rwa [show (s.heap.push emptyDict).objs.size = s.heap.objs.size + 1 from Heap.size_push ..] at this
  obtain ⟨hh, gg, dd, tt, oo⟩ := s
  refine wpAny_call (make_core (makes_of X F.makes) (looks_findIn X F.fInit) (fun self => bind_fn X self F.tInit) (.inl rfl) ?_)
  have hA' : (A.under (.builtin "type.__call__" ⟨[.ref peA], []⟩)).depth = A.depth + 1 := rfl
  generalize A.under (.builtin "type.__call__" ⟨[.ref peA], []⟩) = A' at *
  dsimp only at *
  generalize hh.objs.size + 1 = p at *
  generalize hh.objs.size = dx at *
  generalize ({ heap := (hh.push emptyDict).push (instObj peA dx), gens := gg, drawn := dd, toks := tt, os := oo } : Shared) = s₂ at *
  have npd : p ≠ dx := fun z => by rw [z, upd_self] at hpN; cases hpN
  have h1 : upd (upd H dx (.raw (dictS false [] 0))) p (.raw (instObj peA dx)) p = some (.raw (instObj peA dx)) := upd_self ..
  have h2 : upd (upd H dx (.raw (dictS false [] 0))) p (.raw (instObj peA dx)) dx = some (.raw (dictS false [] 0)) := (upd_ne _ _ npd.symm).trans (upd_self ..)
  have hpN0 : H p = none := by rw [← hpN]; exact (upd_ne _ _ npd).symm
  have keep0 : ∀ a d, H a = some d → upd (upd H dx (.raw (dictS false [] 0))) p (.raw (instObj peA dx)) a = some d ∧ a ≠ p ∧ a ≠ dx := fun a d ha => by
    have n1 : a ≠ dx := fun z => by rw [z, hdN] at ha; cases ha
    have n2 : a ≠ p := fun z => by rw [z, hpN0] at ha; cases ha
    exact ⟨by rw [upd_ne _ _ n2, upd_ne _ _ n1]; exact ha, n2, n1⟩
  generalize upd (upd H dx (.raw (dictS false [] 0))) p (.raw (instObj peA dx)) = H₂ at *
  -- PlanarEmbedding.__init__
  obtain ⟨⟨oc, od, osl, doc, pm, an, ct, ho⟩, hcd⟩ := id F.init
  have C := scInit
  refine codeAny_call_function (fd := fnX dInit.name dInit.qual dInit.params dInit.body dInit.scope dInit.cl dInit.dV dInit.kV doc pm an dInit.cdv ct) (body := dInit.body) (by omega) (S₂.kin Z _ _ ho) rfl rfl rfl rfl (codeRec_of (S₂.kin Z) hcd) ?_
  obtain ⟨gB, hp, hg⟩ := F.bInit w.params doc pm an ct (.ref p)
  refine bind_attr S₂ Z hp hg .nil fun d s₃ hd S₃ => ?_
  refine wpAny_newFunctionEnv (show ∀ x ∈ dInit.scope.names, x.2 ≠ .cell by decide +kernel) (bind_names C rfl rfl) (fun h' hns hsb => ⟨(S₃.lim Z).fresh _ hsb, ?_⟩) C.kind
  have kp : ∀ b o, s₃.heap.get? b = some o → h'.get? b = some o := fun b o e => hsb.extBut b o (Nat.ne_of_lt (Heap.lt_size e)) (Heap.get?_push_of_some _ e)
  rw [fm_binds (ns := dInit.scope.names) 0 C.nd rfl] at hns
  have S₄ : St prog w base os ((dInit.env s₃.heap.objs.size, fm (dInit.env s₃.heap.objs.size).scope.names [some (.ref p), some .none, some (.ref d)]) :: fr) (upd H₂ d (.ds [])) { s₃ with heap := h', toks := s₃.toks + 3 } :=
    S₃.heap (S₃.wd.enter rfl C.kind rfl hns kp)
  have npd' : p ≠ d := fun z => by rw [z, hd] at h1; cases h1
  have nxd : dx ≠ d := fun z => by rw [z, hd] at h2; cases h2
  refine ks_codeAny_funcAt ?_
  refine y_expr (at_superS (D := dInit) (aA := d) (v := .none) F.suInit F.init F.sup F.fD F.tD S₄ Z C ((upd_ne _ _ npd').trans h1) ((upd_ne _ _ nxd).trans h2) rfl (by decide +kernel) (upd_self ..) (fun H' => pu_v 1 C rfl rfl) (fun H' => pu_v 2 C rfl rfl) fun s₅ S₅ => ?_)
  refine dinit_ok F Z S₅ (by show A'.depth + 1 + 2 < _; omega) ((upd_ne _ _ npd').trans h1) ((upd_ne _ _ nxd).trans h2) npd fun s₆ H₆ t g n sx px m S₆ a1 a2 a3 a4 a5 a6 nd kp6 => ?_
  refine y_nil ?_
  show Value.none = Value.none ∧ _
  refine ⟨rfl, q s₆ H₆ t p dx g n sx px m S₆.popped a1 a2 a3 a4 a5 a6 nd fun a x ha => ?_⟩
  obtain ⟨q1, q2, q3⟩ := keep0 a x ha
  have nad : a ≠ d := fun z => by rw [z, hd] at q1; cases q1
  obtain ⟨r1, r2⟩ := kp6 a x ((upd_ne _ _ nad).trans q1) q3
  exact ⟨r1, q2, q3, r2⟩

def Sg.empty : Sg := ⟨[], [], [], fun _ => [], fun _ => [], fun _ _ => 0, fun _ _ => 0, [], fun _ => [], [], fun _ => true, false⟩
def Rho.ofL : List (Addr × Role) → Rho
  | [] => fun _ => none
  | (a, r) :: l => fun b => if b = a then some r else Rho.ofL l b
theorem ofL_mem : ∀ {l : List (Addr × Role)} {a : Addr} {r : Role}, Rho.ofL l a = some r → (a, r) ∈ l
  | [], _, _, h => by cases h
  | (b, r') :: l, a, r, h => by
    unfold Rho.ofL at h
    split at h
    · rename_i e; cases h; rw [e]; exact .head _
    · exact .tail _ (ofL_mem h)
theorem ofL_at : ∀ {l : List (Addr × Role)} {a : Addr} {r : Role}, (l.map (·.1)).Nodup → (a, r) ∈ l → Rho.ofL l a = some r
  | (b, r') :: l, a, r, hn, h => by
    rw [List.map_cons, List.nodup_cons] at hn
    unfold Rho.ofL
    rcases List.mem_cons.mp h with h | h
    · cases h; rw [if_pos rfl]
    · have h' : a ∈ l.map (·.1) := List.mem_map_of_mem (f := (·.1)) h
      have ne : a ≠ b := fun z => hn.1 (z ▸ h')
      rw [if_neg ne]; exact ofL_at hn.2 h
theorem rep_init {t : Nat → Tok} (nd : [p, dx, g, n, sx, px, ra, ka].Nodup) (h1 : H p = some (.raw (instObj peA dx))) (h2 : H dx = some (.raw (dictS false (picEs P t g n sx px false) m))) (h3 : H g = some (.ds [])) (h4 : H n = some (.di [] none)) (h5 : H sx = some (.di [] none)) (h6 : H px = some (.di [] none)) (h7 : H ra = some (.di [] none)) (h8 : H ka = some (.di [] none)) :
    Rep P H (Rho.ofL [(p, .self), (dx, .dct), (g, .g), (n, .node), (sx, .succ), (px, .pred), (ra, .rows), (ka, .known)]) Sg.empty := by
  have at_ : ∀ {a : Addr} {r : Role}, (a, r) ∈ [(p, Role.self), (dx, .dct), (g, .g), (n, .node), (sx, .succ), (px, .pred), (ra, .rows), (ka, .known)] → Rho.ofL [(p, .self), (dx, .dct), (g, .g), (n, .node), (sx, .succ), (px, .pred), (ra, .rows), (ka, .known)] a = some r := fun h => ofL_at nd h
  have nil : ∀ (ρ : Rho) (mk : Int → Role), Refs ρ [] [] mk := fun ρ mk => ⟨rfl, fun _ _ h => nomatch h⟩
  refine ⟨fun a r h => ?_, fun a b r h h' => ?_⟩
  · have hm := ofL_mem h
    simp only [List.mem_cons, Prod.mk.injEq, List.not_mem_nil, or_false] at hm
    rcases hm with ⟨rfl, rfl⟩ | ⟨rfl, rfl⟩ | ⟨rfl, rfl⟩ | ⟨rfl, rfl⟩ | ⟨rfl, rfl⟩ | ⟨rfl, rfl⟩ | ⟨rfl, rfl⟩ | ⟨rfl, rfl⟩
    · exact ⟨_, h1, dx, rfl, at_ (by simp)⟩
    · exact ⟨_, h2, t, g, n, sx, px, m, rfl, at_ (by simp), at_ (by simp), at_ (by simp), at_ (by simp)⟩
    · exact ⟨_, h3, rfl⟩
    · exact ⟨_, h4, _, _, rfl, nil _ _⟩
    · exact ⟨_, h5, _, _, rfl, nil _ _⟩
    · exact ⟨_, h6, _, _, rfl, nil _ _⟩
    · exact ⟨_, h7, _, _, rfl, nil _ _⟩
    · exact ⟨_, h8, _, _, rfl, rfl, fun _ _ h => nomatch h⟩
  · have hm := ofL_mem h
    have hm' := ofL_mem h'
    simp only [List.mem_cons, Prod.mk.injEq, List.not_mem_nil, or_false] at hm hm'
    rcases hm with ⟨rfl, rfl⟩ | ⟨rfl, rfl⟩ | ⟨rfl, rfl⟩ | ⟨rfl, rfl⟩ | ⟨rfl, rfl⟩ | ⟨rfl, rfl⟩ | ⟨rfl, rfl⟩ | ⟨rfl, rfl⟩ <;> simp at hm' <;> exact hm'.symm
end
end Mine

end

section
open PySem PySem.W PyProof.Rows PySem.Calls
set_option Elab.async false
set_option maxRecDepth 100000
set_option linter.unusedVariables false
namespace Mine

/-- the comprehension's own frame (with a frame of its own told, for the ledger's sake) -/
def cEnv (scope : Scope) (cl : List (Str × Addr)) (C : Addr) (env : Env) : Env := { compEnvC scope cl C env with frame := some C }

section
variable {prog : Program} {w : World} {K : Frag} {base : Heap} {os : Os} {A : Around} {E : Value → Shared → Prop} {fr : Frs} {H : Led} {s : Shared} {env : Env} {vs : List (Option Value)} {a : Addr}

theorem Wd.swap {h : Heap} {p q : Env × Map} (W : Wd prog w base (p :: q :: fr) H h) : Wd prog w base (q :: p :: fr) H h where
  stays := W.stays
  lim := W.lim
  frs := fun r hr => W.frs r (by simp only [List.mem_cons] at hr ⊢; rcases hr with h | h | h <;> simp [h])
  nd := by
    have := W.nd
    simp only [List.map_cons, List.nodup_cons, List.mem_cons, not_or] at this ⊢
    exact ⟨⟨fun e => this.1.1 e.symm, this.2.1⟩, this.1.2, this.2.2⟩
  led := W.led
theorem St.swap {p q : Env × Map} (S : St prog w base os (p :: q :: fr) H s) : St prog w base os (q :: p :: fr) H s := ⟨S.wd.swap, S.bare, S.os⟩

/-- the list comprehension with one plain name and no test, given to a local name -/
theorem x_comp {Q : Flow → Shared → Prop} {elt iter : PySem.Expr} {x y : Str} {px py : Pos} {scope : Scope} {pos spos : Pos} {cl : List (Str × Addr)} {cy cx nn : Nat} {V F : Nat → Value → Prop} {n : Nat}
    (hh : A.handled = none) (hsw : swapsWith (.ListComp elt [⟨.Name x px, iter, [], 0⟩] scope pos) (some (.Name y py)) spos.line env = pure true)
    (hclos : closureFor scope env = pure cl) (hcell : ∀ z ∈ scope.names, z.2 ≠ .cell) (hkind : scope.kind = .function) (hnames : ∀ z ∈ scope.names, z.2 = .local → scope.names.lookup z.1 = some .local)
    (C : ScOk env.scope) (hy : env.scope.names[cy]? = some (y, .local)) (hcl : cy < vs.length) (C' : ScOk (relabel scope env)) (hx : (relabel scope env).names[cx]? = some (x, .local)) (hcx : cx < nn) (hz : n ≤ 1000)
    (h : wpAny (model prog w) A (eval iter env) (fun xv s₁ => wpAny (model prog w) A (pyIter xv) (fun it s₂ => ∃ I H₂, ∃ D : Nat → Led → Prop, it = .ref I ∧ St prog w base os ((env, fm env.scope.names vs) :: fr) H₂ s₂ ∧ Itr prog w base os I n V D ∧ D 0 H₂ ∧ H₂ I ≠ none ∧
      (∀ b, H₂ b = none → ∀ i H H', (∀ a, a ≠ b → H' a = H a) → D i H → D i H') ∧
      (∀ i fr H s E (Q : Value → Shared → Prop), St prog w base os fr H s → D i H → Q (.ref I) s → wpAny (model prog w) A (pyIter (.ref I)) Q E s) ∧
      (∀ b (cs : List (Option Value)) C H s i v E (Q : Value → Shared → Prop), H₂ b = none → i < n → V i v → (∀ a, a ≠ I → a ≠ b → H a = H₂ a) → St prog w base os ((cEnv scope cl C env, fm (relabel scope env).names (cs.set cx (some v))) :: (env, fm env.scope.names vs) :: fr) H s → cs.length = nn →
        (∀ u s', F i u → St prog w base os ((cEnv scope cl C env, fm (relabel scope env).names (cs.set cx (some v))) :: (env, fm env.scope.names vs) :: fr) H s' → Q u s') → wpAny (model prog w) A (eval elt (compEnvC scope cl C env)) Q E s) ∧
      (∀ b us H' s', H₂ b = none → (∀ a, a ≠ I → a ≠ b → H' a = H₂ a) → H' b = some (.li us) → us.length = n → (∀ j u, us[j]? = some u → F j u) → St prog w base os ((env, fm env.scope.names (vs.set cy (some (.ref b)))) :: fr) H' s' → Q .next s')) E s₁) E s)
    (hs : ∀ x, foldedSetIterable iter env x = pure x := by intro _; rfl) :
    wpAny (model prog w) A (exec (.Assign [.Name y py] (.ListComp elt [⟨.Name x px, iter, [], 0⟩] scope pos) spos) env) Q E s := by
  rw [exec_Assign_Name_used _ _ _ _ hsw]
  refine wpAny_bind (wpAny_standAt (wpAny_bind ?_))
  show wpAny _ A (do let _ ← comprehension (.ListComp elt [⟨.Name x px, iter, [], 0⟩] scope pos) scope env _ (newList []) false (eval iter env) (some (assign (.Name y py) env))) _ _ s
  refine wpAny_bind (wpAny_mono (wpAny_comprehension_free (Q := fun _ s' => Q .next s') rfl hs hclos hkind hnames (wpAny_mono h (fun xv s₁ h₁ => wpAny_mono h₁ (fun it s₂ h₂ => ?_) fun _ _ e => e) fun _ _ e => e))
    (fun _ s' hq => wpAny_pure (wpAny_pure hq)) fun _ _ e => e)
  obtain ⟨I, H₂, D, rfl, S₂, hI, hD0, hn0, hDs, hself, helt, hfin⟩ := h₂
  refine wpAny_newObj_type (wpAny_newFunctionEnv hcell (by intro y hy; simp at hy) (fun h₁ hns₁ hsb₁ => ?_) hkind)
  dsimp only at hns₁ hsb₁ ⊢
  have S₃ : St prog w base os ((env, fm env.scope.names vs) :: fr) (upd H₂ s₂.heap.objs.size (.li [])) { s₂ with heap := s₂.heap.push { cls := .type "list", dict := none, data := .seq ([] : List Value).toArray }, toks := s₂.toks } :=
    S₂.heap (S₂.wd.push rfl ⟨0, rfl⟩)
  have hb : H₂ s₂.heap.objs.size = none := S₂.wd.freshH
  generalize hbe : s₂.heap.objs.size = b at *
  generalize hHe : s₂.heap.push { cls := .type "list", dict := none, data := .seq ([] : List Value).toArray } = h₂ at *
  have hns : h₁.Ns h₂.objs.size (fm (relabel scope env).names (List.replicate nn none)) := by rw [fm_none]; simpa using hns₁
  have S₄ : St prog w base os ((cEnv scope cl h₂.objs.size env, fm (relabel scope env).names (List.replicate nn none)) :: (env, fm env.scope.names vs) :: fr) (upd H₂ b (.li [])) { s₂ with heap := h₁, toks := s₂.toks + ([] : List (Str × Value)).length } :=
    S₃.heap (h' := h₁) (S₃.wd.enter rfl C'.kind rfl hns fun c o e => hsb₁.extBut c o (Nat.ne_of_lt (Heap.lt_size e)) (Heap.get?_push_of_some _ e))
  clear hns₁ hsb₁ hns S₃
  have hupd : ∀ us i, D i H₂ → D i (upd H₂ b (.li us)) := fun us i d => hDs b hb i _ _ (fun a ha => upd_ne _ _ ha) d
  have hH0 : ∀ us a, a ≠ I → a ≠ b → upd H₂ b (.li us) a = H₂ a := fun us a _ ha => upd_ne _ _ ha
  have loop : ∀ s₃ : Shared, St prog w base os ((cEnv scope cl h₂.objs.size env, fm (relabel scope env).names (List.replicate nn none)) :: (env, fm env.scope.names vs) :: fr) (upd H₂ b (.li [])) s₃ →
      codeAny (model prog w) A (.compLoop (.ListComp elt [⟨.Name x px, iter, [], 0⟩] scope pos) 0 (.ref I) (.ref b) (compEnvC scope cl h₂.objs.size env)) (compPost (model prog w) A E (some (assign (.Name y py) env)) (fun _ s' => Q .next s') (.ref b) h₂.objs.size) s₃ := by
    intro s₃ S₃
    refine codeAny_compLoop_list (fun k s => ∃ i H cs us, k = n - i ∧ i ≤ n ∧ cs.length = nn ∧ St prog w base os ((cEnv scope cl h₂.objs.size env, fm (relabel scope env).names cs) :: (env, fm env.scope.names vs) :: fr) H s ∧ D i H ∧ (∀ a, a ≠ I → a ≠ b → H a = H₂ a) ∧ H b = some (.li us) ∧ us.length = i ∧ ∀ j u, us[j]? = some u → F j u)
      ?_ n ⟨0, _, _, [], rfl, Nat.zero_le _, List.length_replicate, S₃, hupd _ _ hD0, hH0 _, upd_self .., rfl, fun j u hj => by cases hj⟩
    · rintro k s ⟨i, H, cs, us, rfl, hi, hcs, S, hD, hsame, hbl, hul, hF⟩
      have hIb : I ≠ b := fun z => hn0 (z ▸ hb)
      refine hI A _ _ _ H s i hh S hD hi (fun hlt v H' s' hv S' hD' hsm hit => ?_) (fun he H' s' S' hsm => ?_)
      · have C'' : ScOk (cEnv scope cl h₂.objs.size env).scope := C'
        have C3 : ScOk (compEnvC scope cl h₂.objs.size env).scope := C'
        refine wpAny_assign_Name ?_
        show wpAny _ _ (storeName (compEnvC scope cl h₂.objs.size env) x v) _ _ _
        refine wpAny_storeName_local (kindAt C3 hx) S'.ns (fun h' hn hs => ?_) (by rw [C3.kind]; rfl)
        have e := fm_put C'.nd hx (v := v) (vs := cs) (by omega)
        unfold put at e
        have S'' : St prog w base os ((cEnv scope cl h₂.objs.size env, fm (relabel scope env).names (cs.set cx (some v))) :: (env, fm env.scope.names vs) :: fr) H' { s' with heap := h', toks := s'.toks + 1 } := by
          rw [← e]; exact S'.heap (S'.wd.local hn hs)
        have hsm' : ∀ a, a ≠ I → a ≠ b → H' a = H₂ a := fun a h1 h2 => (hsm a h1).trans (hsame a h1 h2)
        refine helt b cs _ H' _ i v _ _ hb hlt hv hsm' S'' hcs fun u s₅ hu S₅ => ?_
        have hbl' : H' b = some (.li us) := (hsm b (Ne.symm hIb)).trans hbl
        refine li_append S₅ hbl' (by omega) fun s₆ S₆ => ⟨n - (i + 1), by omega, i + 1, _, _, us ++ [u], rfl, hlt, by rw [List.length_set]; exact hcs, S₆, ?_, fun a h1 h2 => (upd_ne _ _ h2).trans (hsm' a h1 h2), upd_self .., by simp [hul], fun j u' hj => ?_⟩
        · exact hDs b hb _ _ _ (fun a ha => upd_ne _ _ ha) hD'
        · rcases Nat.lt_or_ge j us.length with h1 | h1
          · rw [List.getElem?_append_left h1] at hj; exact hF j u' hj
          · rw [List.getElem?_append_right h1] at hj
            have : j = us.length := by
              rcases Nat.lt_or_ge us.length j with h2 | h2
              · rw [List.getElem?_eq_none (by simp; omega)] at hj; cases hj
              · omega
            subst this
            simp at hj
            rw [← hj, hul]; exact hu
      · subst he
        show wpAny _ _ (assign (.Name y py) env (.ref b)) _ _ _
        refine wpAny_assign_Name (st_local S'.swap C hy rfl hcl fun s₄ S₄ => ?_)
        have S₅ := S₄.swap
        refine ⟨_, S₅.ns, fun h' hs' => ?_⟩
        have F := S₅.wd.frs _ (.head _)
        have nd := S₅.wd.nd
        rw [List.map_cons, List.nodup_cons] at nd
        have hbl' : H' b = some (.li us) := (hsm b (Ne.symm hIb)).trans hbl
        refine hfin b us H' _ hb (fun a h1 h2 => (hsm a h1).trans (hsame a h1 h2)) hbl' hul hF ?_
        exact S₅.popped.heap (t := s₄.toks) (S₅.popped.wd.but (wr := [h₂.objs.size]) (fun c o hc e => hs'.extBut c o (fun z => hc (by rw [z]; exact List.mem_singleton.mpr rfl)) e) (fun c hc => by rw [List.mem_singleton.mp hc]; exact F.fresh) (fun c hc => by rw [List.mem_singleton.mp hc]; exact F.out)
          (fun c hc p hp z => by rw [List.mem_singleton.mp hc] at z; exact nd.1 (by rw [show (cEnv scope cl h₂.objs.size env).locals = h₂.objs.size from rfl, ← z]; exact List.mem_map_of_mem hp)))
  exact codeAny_compStart_list (loop _ S₄) (hself 0 _ _ _ _ _ S₄ (hupd _ _ hD0) (loop _ S₄))
end
end Mine

end

section
open PySem PySem.W PyProof.Rows PySem.Calls
set_option Elab.async false
set_option maxRecDepth 100000
set_option linter.unusedVariables false
namespace Mine

def dLNum : Def := mkD 927 "_law_numbers" "_law_numbers" (topAt 18) [] .none .none
theorem scLNum : ScOk dLNum.scope := ScOk.of (by decide +kernel)
def compSc : Stmt → Scope
  | .Assign _ (.ListComp _ _ sc _) _ => sc
  | _ => psS (.Pass default)
def nuSc : Scope := compSc (dLNum.body.headD (.Pass default))

theorem scNu : ScOk nuSc := ScOk.of (by decide +kernel)
theorem nuRel (L : Addr) : relabel nuSc (dLNum.env L) = nuSc := rfl

section
variable {P : Params} {prog : Program} {w : World} {K : Frag} {base : Heap} {os : Os} {A : Around} {E : Value → Shared → Prop} {fr : Frs} {H H' : Led} {s : Shared} {env : Env} {vs : List (Option Value)} {p a it l : Addr} {us items : List Value} {ns : List Int}

/-- a list that stands in the base -/
def lbD (it l : Addr) (i : Nat) (H : Led) : Prop := H it = some (.fi "list_iterator" #[.ref l, .int i 0])
theorem St.lb (S : St prog w base os fr H s) (hl : base.IsList l items.toArray) : s.heap.IsList l items.toArray := let ⟨o, ho, r⟩ := hl; ⟨o, S.keep _ _ ho, r⟩
theorem itr_lb (hl : base.IsList l items.toArray) : Itr prog w base os it items.length (fun i v => items[i]? = some v) (lbD it l) := by
  intro A E Q fr H s i hh S h1 hi q1 q2
  obtain ⟨o, ho, hc, hd⟩ := S.fi h1
  have L := S.lb hl
  rcases Nat.lt_or_ge i items.length with hlt | hge
  · refine wpAny_pyNext_list_item ⟨o, ho, hc, hd⟩ L (x := items[i]) (by simp [hlt]) fun h' hit hs => ?_
    obtain ⟨o', ho', hc', hd'⟩ := hit
    exact q1 hlt _ _ _ (by simp [hlt]) (S.heap (t := s.toks) (S.wd.set (d := .fi "list_iterator" #[.ref l, .int (i + 1 : Nat) 0]) hs h1 ho' ⟨hc', hd'⟩)) (upd_self ..) (fun a ha => upd_ne _ _ ha) (by rw [upd_self]; exact nofun)
  · have he : i = items.length := by omega
    refine wpAny_pyNext_list_end hh ⟨o, ho, hc, hd⟩ L (by simp [hge]) fun h' hs => ?_
    exact q2 he _ _ (S.heap (t := s.toks) (S.wd.cut h1 hs)) fun a ha => cut_ne _ ha
theorem iter_lb {Q : Value → Shared → Prop} (S : St prog w base os fr H s) (hl : base.IsList l items.toArray)
    (q : ∀ it s', H it = none → St prog w base os fr (upd H it (.fi "list_iterator" #[.ref l, .int (0 : Nat) 0])) s' → Q (.ref it) s') : wpAny (model prog w) A (pyIter (.ref l)) Q E s := by
  refine wpAny_pyIter_list (S.lb hl) ?_
  exact q _ _ S.wd.freshH (S.heap (t := s.toks) (S.wd.push rfl ⟨rfl, rfl⟩))
theorem lb_len {Q : Value → Shared → Prop} (S : St prog w base os fr H s) (hl : base.IsList l items.toArray) (hz : items.length ≤ 1000) (q : ∀ s' t, St prog w base os fr H s' → Q (.int items.length t) s') : wpAny (model prog w) A (call (.builtin "len") [.ref l]) Q E s :=
  call_len_list (S.lb hl) (by simp; omega) (by have := q _ (s.toks + 1) (S.toks (s.toks + 1 + 1)); simpa using this)
theorem pu_lenB {e : PySem.Expr} {pos : Pos} {p1 : Pos} (i : Nat) (Z : Sta K base) (C : ScOk env.scope) (hg : env.globals = mainGlobals) (hb : env.builtins = builtinsNs) (hi : env.scope.names[i]? = some (("len" : Str), NameKind.globalImplicit)) (hK : nsIn K mainGlobals "len" = some none)
    (h1 : Pu prog w base os fr H env vs e (· = .ref l)) (hl : base.IsList l items.toArray) (hz : items.length ≤ 1000) (hp : plainE e = true) : Pu prog w base os fr H env vs (.Call (.Name "len" p1) [e] [] pos) (IsI items.length) :=
  fun A E Q s S q => ev_call (nm_builtin S Z C hg hb hi ⟨hK, boot_len, by decide +kernel⟩ (cwB (by simp [hp]) (Pu.go h1 S fun _ s₁ x S₁ => by subst x; exact lb_len S₁ hl hz fun s₂ t S₂ => q _ _ ⟨t, rfl⟩ S₂)))
theorem it_li {D : Nat → Led → Prop} : ∀ i fr H s E (Q : Value → Shared → Prop), St prog w base os fr H s → liD it l items i H → Q (.ref it) s → wpAny (model prog w) A (pyIter (.ref it)) Q E s := fun i fr H s E Q S hD q =>
  wpAny_pyIter_listiter (S.fi hD.1) q
/-- a local of the comprehension -/
theorem nm_comp {i : Nat} {x : Str} {pos : Pos} {v : Value} {scope : Scope} {cl : List (Str × Addr)} {C : Addr} {Q : Value → Shared → Prop} (S : St prog w base os ((cEnv scope cl C env, fm (relabel scope env).names vs) :: fr) H s) (C' : ScOk (relabel scope env))
    (hi : (relabel scope env).names[i]? = some (x, .local)) (hv : vs[i]? = some (some v)) (h : Q v s) : wpAny (model prog w) A (eval (.Name x pos) (compEnvC scope cl C env)) Q E s :=
  have C3 : ScOk (compEnvC scope cl C env).scope := C'
  wpAny_Name (wpAny_loadName_local C3.kind (kindAt C3 hi) S.ns (fm_get C'.nd hi hv) h) (C3.dbg _ (List.mem_of_getElem? hi))

structure KW (K : Frag) : Prop where
  num : dLNum.In K
  bLen : nsIn K mainGlobals "len" = some none

theorem intsAre_of' : ∀ {us : List Value}, (∀ (j : Nat) u, us[j]? = some u → ∃ k t, u = Value.int k t) → ∃ ns, IntsAre us ns
  | [], _ => ⟨[], .nil⟩
  | u :: us, h => by
    obtain ⟨k, t, rfl⟩ := h 0 u rfl
    obtain ⟨ns, e⟩ := intsAre_of' (us := us) fun j u hj => h (j + 1) u hj
    exact ⟨k :: ns, .cons k t e⟩

theorem law_numbers_ok {Q : Value → Shared → Prop} {t : Tok} (F : KW K) (Z : Sta K base) (S : St prog w base os fr H s) (hh : A.handled = none) (hA : A.depth < recursionLimit) (hU : A.units + 40 < cLine) (hl : base.IsList l items.toArray) (hi : IntsAre items ns) (hz : items.length ≤ 900)
    (q : ∀ b s' us ns, H b = none → St prog w base os fr (upd H b (.li us)) s' → IntsAre us ns → ns.length = 22 → Q (.ref b) s') : wpAny (model prog w) A (call (.ref 927) [.ref l, .int 22 t]) Q E s := by
  have C := scLNum
  refine call_plain (D := dLNum) (n := 3) (binds := [("script", .ref l), ("many", .int 22 t)]) S Z hA F.num (by decide +kernel) C rfl rfl (fun _ _ _ _ => rfl) rfl rfl fun L s₁ S₁ => ?_
  replace S₁ : St prog w base os ((dLNum.env L, fm (dLNum.env L).scope.names [some (.ref l), some (.int 22 t), none, none, none]) :: fr) H s₁ := S₁
  rw [BodyOk]
  refine wpAny_execs_cons (x_comp (vs := [some (.ref l), some (.int 22 t), none, none, none]) (fr := fr) (base := base) (os := os) (scope := nuSc) (nn := 2) (cy := 3) (cx := 1) (cl := []) (n := (items.take 22).length) (F := fun _ u => ∃ k t, u = Value.int k t) (V := fun i v => (items.take 22)[i]? = some v) (by exact hh) (by rfl) (by rfl) (by decide +kernel) (by rfl) (by decide +kernel) C rfl (by show 3 < 5; decide) (nuRel L ▸ scNu) (by rw [nuRel]; rfl) (by decide) (by simp; omega) ?_)
  refine ev_upto S₁ (pu_v 0 C rfl rfl) (pu_i 1 C rfl rfl) (fun s' S' => S'.lb hl) (by omega) (by omega) fun b₀ s₂ hb₀ S₂ => ?_
  refine iter_li S₂ (upd_self ..) fun I s₃ H₃ hI S₃ hD hs => ?_
  have hnI : H₃ I ≠ none := by rw [hD.1]; exact nofun
  have nIb : I ≠ b₀ := hD.2.2
  have old : ∀ a d, H a = some d → H₃ a = some d := fun a d e => by
    have n1 : a ≠ b₀ := fun z => by rw [z, hb₀] at e; cases e
    have n2 : a ≠ I := fun z => by rw [z, ← upd_ne H (.li (items.take 22)) nIb, show upd H b₀ (.li (items.take 22)) I = none from hI] at e; cases e
    rw [hs a n2, show upd H b₀ _ a = H a from upd_ne _ _ n1]; exact e
  refine ⟨I, H₃, _, rfl, S₃, itr_li, hD, hnI, fun b hb i H H' hH ⟨d1, d2, d3⟩ => ⟨(hH I fun z => hnI (z ▸ hb)).trans d1, (hH b₀ fun z => by rw [← z, hD.2.1] at hb; cases hb).trans d2, d3⟩, fun i fr H s E Q S hD q => wpAny_pyIter_listiter (S.fi hD.1) q, ?_, ?_⟩
  · intro b cs C₂ H₂ s₄ i v E' Q' hb hin hv hsm S₄ hcs q'
    have hv' : ∃ k t, v = Value.int k t := by
      obtain ⟨k, tk, rfl, _⟩ := (hi.take 22).at i v hv
      exact ⟨k, tk, rfl⟩
    refine nm_comp (i := 1) S₄ (nuRel L ▸ scNu) (by rw [nuRel]; rfl) (by rw [List.getElem?_set_self (by omega)]) (q' v s₄ hv' S₄)
  intro b us H₄ s₄ hb hsm hbl hul hF S₄
  have hul' : us.length ≤ 22 := by rw [hul, List.length_take]; omega
  obtain ⟨ms, hms⟩ := intsAre_of' (us := us) fun j u hj => hF j u hj
  have hbH : H b = none := by
    cases z : H b with
    | none => rfl
    | some d => rw [old b d z] at hb; cases hb
  have old₄ : ∀ a d, H a = some d → H₄ a = some d := fun a d e => by
    have n1 : a ≠ b := fun z => by rw [z, hbH] at e; cases e
    have n2 : a ≠ I := fun z => by
      have := old a d e
      rw [z] at e
      rw [← upd_ne H (.li (items.take 22)) nIb, show upd H b₀ (.li (items.take 22)) I = none from hI] at e; cases e
    rw [hsm a n2 n1]; exact old a d e
  clear hsm hs hD hI hnI S₃ S₂
  replace S₄ : St prog w base os ((dLNum.env L, fm (dLNum.env L).scope.names [some (.ref l), some (.int 22 t), none, some (.ref b), none]) :: fr) H₄ s₄ := S₄
  show wpAny _ _ (execs _ _) _ _ _
  refine x_asG 4 S₄ C rfl (Pu.go (pu_add (pu_int (k := 7)) (pu_lenB (env := dLNum.env L) 5 Z C rfl rfl rfl F.bLen (pu_v 0 C rfl rfl) hl (by omega) rfl)) S₄ fun x₁ s₅ ⟨t₁, hx₁⟩ S₅ => ?_)
  subst hx₁
  refine ⟨fr, H₄, _, _, S₅, rfl, by show 4 < 5; decide, fun s₆ S₆ => ?_⟩
  refine wpAny_execs_cons (wpAny_For (Pu.go (pu_v (env := dLNum.env L) 0 C rfl rfl) S₆ fun x s₇ hx S₇ => ?_))
  subst hx
  refine iter_lb S₇ hl fun it s₈ hit S₈ => ?_
  refine loop_itr (c := 2) (itr_lb hl) (by exact hh) C rfl
    (fun i H' vs' => (∃ x k tk, vs' = [some (.ref l), some (.int 22 t), x, some (.ref b), some (.int k tk)]) ∧ ∀ a, a ≠ it → H' a = H₄ a)
    (fun i H₁ H₂ vs' hs' ⟨j1, j2⟩ => ⟨j1, fun a ha => (hs' a ha).trans (j2 a ha)⟩) (fun i H₁ vs' ⟨⟨x, k, tk, j1⟩, _⟩ => by rw [j1]; simp) S₈ (upd_self ..) ⟨⟨_, _, _, rfl⟩, fun a ha => upd_ne _ _ ha⟩ ?_ ?_
  · rintro i v' H₁ vs₁ s₉ hi' hv ⟨⟨x, k, tk, rfl⟩, hs₁⟩ hD₁ hne S₉
    obtain ⟨xv, tv, rfl, _⟩ := hi.at i v' hv
    refine x_asG 4 S₉ C rfl (Pu.go (pu_mod (y := 2147483647) (by decide) (pu_add (x := k * 31) (y := xv) (pu_mul (IntMulOk.of_right (by decide)) (pu_i (env := dLNum.env L) 4 C rfl rfl) (pu_int (k := 31))) (pu_i 2 C rfl rfl)) pu_int) S₉ fun x₂ s₁₀ ⟨t₂, hx₂⟩ S₁₀ => ?_)
    subst hx₂
    exact ⟨fr, H₁, _, _, S₁₀, rfl, by show 4 < 5; decide, fun s₁₁ S₁₁ => x_nil ⟨H₁, _, S₁₁, hD₁, ⟨_, _, _, rfl⟩, hs₁⟩⟩
  · rintro H₅ vs₁ s₉ ⟨⟨x, k, tk, rfl⟩, hs₅⟩ S₉
    have hbi : b ≠ it := fun z => by rw [z, hit] at hbl; cases hbl
    have old₅ : ∀ a d, H a = some d → H₅ a = some d := fun a d e => by
      have := old₄ a d e
      rw [hs₅ a fun z => by rw [z, hit] at this; cases this]; exact this
    refine wpAny_execs_cons (wpAny_While (codeAny_whileLoop (fun n s => ∃ x k tk H' us ms, n = 22 - us.length ∧ us.length ≤ 22 ∧ St prog w base os ((dLNum.env L, fm (dLNum.env L).scope.names [some (.ref l), some (.int 22 t), x, some (.ref b), some (.int k tk)]) :: fr) H' s ∧ H' b = some (.li us) ∧ IntsAre us ms ∧ ∀ a d, H a = some d → H' a = some d) ?_ _
      ⟨x, k, tk, H₅, us, ms, rfl, hul', S₉, (hs₅ b hbi).trans hbl, hms, old₅⟩))
    rintro n s₁₀ ⟨x, k, tk, H₆, us, ms, rfl, hul, S₁₀, hbl, hms, old₆⟩
    refine (tu_cmp (fr := fr) (pu_len (env := dLNum.env L) 5 Z C rfl rfl rfl F.bLen (pu_v 3 C rfl rfl) hbl (by omega) rfl) (pu_i (env := dLNum.env L) 1 C rfl rfl) cmp_lt) _ _ _ _ S₁₀ fun s₁₁ S₁₁ => ?_
    by_cases hlt : us.length < 22
    · rw [show decide ((us.length : Int) < 22) = true from decide_eq_true (by omega), if_pos rfl]
      refine x_asG 4 S₁₁ C rfl (Pu.go (pu_mod (y := 2147483647) (by decide) (pu_add (x := k * 48271) (y := 11) (pu_mul (IntMulOk.of_right (by decide)) (pu_i (env := dLNum.env L) 4 C rfl rfl) (pu_int (k := 48271))) pu_int) pu_int) S₁₁ fun x₂ s₁₂ ⟨t₂, hx₂⟩ S₁₂ => ?_)
      subst hx₂
      refine ⟨fr, H₆, _, _, S₁₂, rfl, by show 4 < 5; decide, fun s₁₃ S₁₃ => ?_⟩
      refine x_meth slot_list_append type_list_append S₁₃ (pu_v 3 C rfl rfl) hbl rfl fun s₁₄ S₁₄ => ?_
      refine pu_fdiv (x := (k * 48271 + 11).fmod 2147483647) (y := 13) (by decide) (by decide) (pu_i (env := dLNum.env L) 4 C rfl rfl) pu_int _ _ _ _ S₁₄ fun x₃ s₁₅ ⟨t₃, hx₃⟩ S₁₅ => ?_
      subst hx₃
      refine li_append S₁₅ hbl (by omega) fun s₁₆ S₁₆ => ⟨rfl, x_nil ⟨_, by simp only [List.length_append, List.length_cons, List.length_nil]; omega, _, _, _, _, _, _, rfl, by simp only [List.length_append, List.length_cons, List.length_nil]; omega, S₁₆, upd_self .., hms.append (.cons _ _ .nil), fun a d e => ?_⟩⟩
      rw [upd_ne _ _ fun z => by rw [z, hbH] at e; cases e]; exact old₆ a d e
    · rw [show decide ((us.length : Int) < 22) = false from decide_eq_false (by omega), if_neg (by decide)]
      refine x_nil ?_
      refine x_ret S₁₁ (pu_v 3 C rfl rfl) fun x s₁₂ hx S₁₂ => ?_
      subst hx
      refine q b s₁₂ us ms hbH (S₁₂.popped.weak fun a d e => ?_) hms (by have := hms.length; omega)
      by_cases z : a = b
      · rw [z, upd_self] at e; rw [z, hbl]; exact e
      · rw [upd_ne _ _ z] at e; exact old₆ a d e
end
end Mine

end

section
open PySem PySem.W PyProof.Rows PySem.Calls
set_option Elab.async false
set_option maxRecDepth 100000
set_option linter.unusedVariables false
namespace Mine

/-- around the row, one after the other -/
def Cyc (l : List Int) (cw cc : Int → Int) : Prop := ∀ p ∈ l.zip (l.tail ++ l.take 1), cw p.1 = p.2 ∧ cc p.2 = p.1

theorem fset2_at (f : Int → Int → Int) (u v x : Int) : fset2 f u v x u = fset (f u) v x := by funext y; simp [fset2, fset]
theorem fset2_off (f : Int → Int → Int) {u v x w : Int} (h : w ≠ u) : fset2 f u v x w = f w := by funext y; simp [fset2, h]

theorem cyc_ins {l : List Int} {cw cc : Int → Int} {v r : Int} (hl : l.length ≤ 3) (nd : l.Nodup) (hv : v ∉ l) (hr : r ∈ l) (C : Cyc l cw cc) :
    Cyc (insI l (l.idxOf r) v) (fset (fset cw v r) (cc r) v) (fset (fset cc v (cc r)) r v) := by
  match l, hl with
  | [], _ => cases hr
  | [a], _ =>
    simp only [List.mem_cons, List.not_mem_nil, or_false] at hr hv
    subst hr
    simp [Cyc] at C
    simp [Cyc, insI, fset, List.idxOf_cons, C, Ne.symm hv, hv]
  | [a, b], _ =>
    simp only [List.mem_cons, List.not_mem_nil, or_false, not_or, List.nodup_cons, List.nodup_nil, and_true, not_false_eq_true] at hr hv nd
    simp [Cyc] at C
    obtain ⟨h1, h2⟩ := hv
    have n1 := Ne.symm nd
    have n2 := Ne.symm h1
    have n3 := Ne.symm h2
    rcases hr with rfl | rfl <;> simp [Cyc, insI, fset, List.idxOf_cons, Bool.cond_eq_ite, *]
  | [a, b, c], _ =>
    simp only [List.mem_cons, List.not_mem_nil, or_false, not_or, List.nodup_cons, List.nodup_nil, and_true, not_false_eq_true] at hr hv nd
    simp [Cyc] at C
    obtain ⟨h1, h2, h3⟩ := hv
    obtain ⟨⟨m1, m2⟩, m3⟩ := nd
    have n1 := Ne.symm h1
    have n2 := Ne.symm h2
    have n3 := Ne.symm h3
    have n4 := Ne.symm m1
    have n5 := Ne.symm m2
    have n6 := Ne.symm m3
    rcases hr with rfl | rfl | rfl <;> simp [Cyc, insI, fset, List.idxOf_cons, Bool.cond_eq_ite, *]
theorem cyc_insA {l : List Int} {cw cc : Int → Int} {v r : Int} (hl : l.length ≤ 3) (nd : l.Nodup) (hv : v ∉ l) (hr : r ∈ l) (C : Cyc l cw cc) :
    Cyc (insI l (l.idxOf r + 1) v) (fset (fset cw v (cw r)) r v) (fset (fset cc v r) (cw r) v) := by
  match l, hl with
  | [], _ => cases hr
  | [a], _ =>
    simp only [List.mem_cons, List.not_mem_nil, or_false] at hr hv
    subst hr
    simp [Cyc] at C
    simp [Cyc, insI, fset, List.idxOf_cons, C, Ne.symm hv, hv]
  | [a, b], _ =>
    simp only [List.mem_cons, List.not_mem_nil, or_false, not_or, List.nodup_cons, List.nodup_nil, and_true, not_false_eq_true] at hr hv nd
    simp [Cyc] at C
    obtain ⟨h1, h2⟩ := hv
    have n1 := Ne.symm nd
    have n2 := Ne.symm h1
    have n3 := Ne.symm h2
    rcases hr with rfl | rfl <;> simp [Cyc, insI, fset, List.idxOf_cons, Bool.cond_eq_ite, *]
  | [a, b, c], _ =>
    simp only [List.mem_cons, List.not_mem_nil, or_false, not_or, List.nodup_cons, List.nodup_nil, and_true, not_false_eq_true] at hr hv nd
    simp [Cyc] at C
    obtain ⟨h1, h2, h3⟩ := hv
    obtain ⟨⟨m1, m2⟩, m3⟩ := nd
    have n1 := Ne.symm h1
    have n2 := Ne.symm h2
    have n3 := Ne.symm h3
    have n4 := Ne.symm m1
    have n5 := Ne.symm m2
    have n6 := Ne.symm m3
    rcases hr with rfl | rfl | rfl <;> simp [Cyc, insI, fset, List.idxOf_cons, Bool.cond_eq_ite, *]
theorem cyc_mem {l : List Int} {cw cc : Int → Int} {r : Int} (hl : l.length ≤ 4) (hr : r ∈ l) (C : Cyc l cw cc) : cw r ∈ l ∧ cc r ∈ l := by
  match l, hl with
  | [], _ => cases hr
  | [a], _ => simp [Cyc] at C hr ⊢; subst hr; simp [*]
  | [a, b], _ => simp [Cyc] at C hr ⊢; rcases hr with rfl | rfl <;> simp [*]
  | [a, b, c], _ => simp [Cyc] at C hr ⊢; rcases hr with rfl | rfl | rfl <;> simp [*]
  | [a, b, c, d], _ => simp [Cyc] at C hr ⊢; rcases hr with rfl | rfl | rfl | rfl <;> simp [*]
theorem cyc_rem {l : List Int} {cw cc : Int → Int} {v : Int} (hl : l.length ≤ 4) (nd : l.Nodup) (hv : v ∈ l) (C : Cyc l cw cc) :
    Cyc (l.erase v) (if v ≠ cw v then fset cw (cc v) (cw v) else cw) (if v ≠ cw v then fset cc (cw v) (cc v) else cc) ∧ (v ≠ cw v → cw v ∈ l.filter (· ≠ v) ∧ cc v ∈ l.filter (· ≠ v)) := by
  match l, hl with
  | [], _ => cases hv
  | [a], _ => simp [Cyc] at C hv ⊢; subst hv; simp [*]
  | [a, b], _ =>
    simp only [List.mem_cons, List.not_mem_nil, or_false, not_or, List.nodup_cons, List.nodup_nil, and_true, not_false_eq_true] at hv nd
    simp [Cyc] at C
    have n1 := Ne.symm nd
    rcases hv with rfl | rfl <;> simp [Cyc, fset, List.erase_cons, Bool.cond_eq_ite, *]
  | [a, b, c], _ =>
    simp only [List.mem_cons, List.not_mem_nil, or_false, not_or, List.nodup_cons, List.nodup_nil, and_true, not_false_eq_true] at hv nd
    simp [Cyc] at C
    obtain ⟨⟨m1, m2⟩, m3⟩ := nd
    have n4 := Ne.symm m1
    have n5 := Ne.symm m2
    have n6 := Ne.symm m3
    rcases hv with rfl | rfl | rfl <;> simp [Cyc, fset, List.erase_cons, Bool.cond_eq_ite, *]
  | [a, b, c, d], _ =>
    simp only [List.mem_cons, List.not_mem_nil, or_false, not_or, List.nodup_cons, List.nodup_nil, and_true, not_false_eq_true] at hv nd
    simp [Cyc] at C
    obtain ⟨⟨m1, m2, m3⟩, ⟨m4, m5⟩, m6⟩ := nd
    have n1 := Ne.symm m1
    have n2 := Ne.symm m2
    have n3 := Ne.symm m3
    have n4 := Ne.symm m4
    have n5 := Ne.symm m5
    have n6 := Ne.symm m6
    rcases hv with rfl | rfl | rfl | rfl <;> simp [Cyc, fset, List.erase_cons, Bool.cond_eq_ite, *]
end Mine

end

section
open PySem PySem.W PyProof.Rows PySem.Calls
set_option Elab.async false
set_option maxRecDepth 100000
set_option linter.unusedVariables false
namespace Mine

theorem Cyc.next {l : List Int} {cw cc : Int → Int} (C : Cyc l cw cc) {i : Nat} {k k' : Int} (h : l[i]? = some k) (h' : l[i + 1]? = some k') : cw k = k' ∧ cc k' = k := by
  have hi : i + 1 < l.length := (List.getElem?_eq_some_iff.mp h').1
  refine C (k, k') (List.mem_of_getElem? (i := i) (List.getElem?_zip_eq_some.mpr ⟨h, ?_⟩))
  rw [List.getElem?_append_left (by rw [List.length_tail]; omega), List.getElem?_tail]
  exact h'
theorem Cyc.last {l : List Int} {cw cc : Int → Int} (C : Cyc l cw cc) {k k₀ : Int} (h : l[l.length - 1]? = some k) (h' : l[0]? = some k₀) : cw k = k₀ ∧ cc k₀ = k := by
  have hi : 0 < l.length := (List.getElem?_eq_some_iff.mp h').1
  refine C (k, k₀) (List.mem_of_getElem? (i := l.length - 1) (List.getElem?_zip_eq_some.mpr ⟨h, ?_⟩))
  rw [List.getElem?_append_right (by rw [List.length_tail]; omega), List.length_tail, Nat.sub_self, List.getElem?_take_of_lt (by decide)]
  exact h'
theorem Cyc.prev {l : List Int} {cw cc : Int → Int} (C : Cyc l cw cc) {k : Nat} (hk : k < l.length) : cc (l.getD k 0) = l.getD (if k = 0 then l.length - 1 else k - 1) 0 := by
  have g : ∀ j, j < l.length → l[j]? = some (l.getD j 0) := fun j hj => by rw [List.getD_eq_getElem?_getD, List.getElem?_eq_getElem hj]; rfl
  by_cases z : k = 0
  · subst z
    rw [if_pos rfl]
    exact (C.last (g _ (by omega)) (g 0 hk)).2
  · rw [if_neg z]
    refine (C.next (i := k - 1) (g _ (by omega)) ?_).2
    rw [show k - 1 + 1 = k by omega]; exact g k hk

theorem cyc_rot {l : List Int} {cw cc : Int → Int} {s : Int} (hl : l.length ≤ 4) (nd : l.Nodup) (hs : s ∈ l) (C : Cyc l cw cc) :
    Cyc (rotI l s) cw cc ∧ (rotI l s).head? = some s ∧ ∀ M ∈ l, rotI (rotI l s) M = rotI l M := by
  match l, hl with
  | [], _ => cases hs
  | [a], _ => simp [Cyc, rotI] at C hs ⊢; subst hs; simp [List.idxOf_cons, *]
  | [a, b], _ =>
    simp only [List.mem_cons, List.not_mem_nil, or_false, not_or, List.nodup_cons, List.nodup_nil, and_true, not_false_eq_true] at hs nd
    simp [Cyc] at C
    have n1 := Ne.symm nd
    rcases hs with rfl | rfl <;> simp [Cyc, rotI, List.idxOf_cons, Bool.cond_eq_ite, *]
  | [a, b, c], _ =>
    simp only [List.mem_cons, List.not_mem_nil, or_false, not_or, List.nodup_cons, List.nodup_nil, and_true, not_false_eq_true] at hs nd
    simp [Cyc] at C
    obtain ⟨⟨m1, m2⟩, m3⟩ := nd
    have n4 := Ne.symm m1
    have n5 := Ne.symm m2
    have n6 := Ne.symm m3
    rcases hs with rfl | rfl | rfl <;> simp [Cyc, rotI, List.idxOf_cons, Bool.cond_eq_ite, *]
  | [a, b, c, d], _ =>
    simp only [List.mem_cons, List.not_mem_nil, or_false, not_or, List.nodup_cons, List.nodup_nil, and_true, not_false_eq_true] at hs nd
    simp [Cyc] at C
    obtain ⟨⟨m1, m2, m3⟩, ⟨m4, m5⟩, m6⟩ := nd
    have n1 := Ne.symm m1
    have n2 := Ne.symm m2
    have n3 := Ne.symm m3
    have n4 := Ne.symm m4
    have n5 := Ne.symm m5
    have n6 := Ne.symm m6
    rcases hs with rfl | rfl | rfl | rfl <;> simp [Cyc, rotI, List.idxOf_cons, Bool.cond_eq_ite, *]
theorem rotI_perm (l : List Int) (s : Int) : (rotI l s).Perm l := by
  unfold rotI
  exact List.perm_append_comm.trans (by rw [List.take_append_drop])

/-- the half edges out of one node, against the plain row -/
structure GoodO (row so : List Int) (cw cc : Int → Int) (kw : Bool) : Prop where
  nd : row.Nodup
  ps : so.Perm row
  cyc : Cyc row cw cc
  kn : kw = true → row ≠ [] → so.getLast? = row.head?

theorem GoodO.nds {row so : List Int} {cw cc : Int → Int} {kw : Bool} (G : GoodO row so cw cc kw) : so.Nodup := G.ps.nodup_iff.mpr G.nd
theorem GoodO.nil {row so : List Int} {cw cc : Int → Int} {kw : Bool} (G : GoodO row so cw cc kw) : row = [] ↔ so = [] := by
  constructor
  · intro h; have := G.ps.length_eq; rw [h] at this; exact List.length_eq_zero_iff.mp this
  · intro h; have := G.ps.length_eq; rw [h] at this; exact List.length_eq_zero_iff.mp this.symm
theorem GoodO.last {row so : List Int} {cw cc : Int → Int} {kw : Bool} (G : GoodO row so cw cc kw) (hne : row ≠ []) : ∃ l, so.getLast? = some l ∧ l ∈ so ∧ l ∈ row := by
  have hs : so ≠ [] := fun z => hne (G.nil.mpr z)
  exact ⟨so.getLast hs, List.getLast?_eq_some_getLast hs, List.getLast_mem hs, G.ps.mem_iff.mp (List.getLast_mem hs)⟩

theorem insI_perm (l : List Int) (i : Nat) (v : Int) : (insI l i v).Perm (v :: l) := by
  unfold insI
  refine List.perm_middle.trans (List.Perm.cons v ?_)
  rw [List.take_append_drop]
theorem toEnd_perm {so : List Int} (nd : so.Nodup) {l : Int} (hl : l ∈ so) : (so.filter (· ≠ l) ++ [l]).Perm so := by
  refine List.perm_append_comm.trans ?_
  have : (so.filter (· ≠ l)) = so.erase l := by rw [nd.erase_eq_filter]; congr 1; funext x; simp [bne, BEq.beq]
  rw [this]
  exact (List.perm_cons_erase hl).symm
theorem getLast_toEnd (x : List Int) (l : Int) : (x ++ [l]).getLast? = some l := by simp
theorem head_insI {l : List Int} {i : Nat} {v : Int} (h : 0 < i) (hi : i ≤ l.length) : (insI l i v).head? = l.head? := by
  unfold insI
  cases l with
  | nil => simp at hi; omega
  | cons a t => cases i with
    | zero => omega
    | succ j => rfl
theorem head_insI0 (l : List Int) (v : Int) : (insI l 0 v).head? = some v := rfl

section
variable {row so : List Int} {cw cc : Int → Int} {kw : Bool} {v r l : Int}
theorem insI_nd (G : GoodO row so cw cc kw) (hv : v ∉ row) (i : Nat) : (insI row i v).Nodup := (insI_perm row i v).nodup_iff.mpr (List.nodup_cons.mpr ⟨hv, G.nd⟩)
theorem idx_head {r : Int} (h : row.head? = some l) : row.idxOf l = 0 := by
  cases row with
  | nil => cases h
  | cons a t => simp at h; subst h; simp [List.idxOf_cons]
theorem idx_pos {r : Int} (hr : r ∈ row) (h : row.head? = some l) (ne : r ≠ l) : 0 < row.idxOf r := by
  cases row with
  | nil => cases h
  | cons a t => simp at h; subst h; simp [List.idxOf_cons, Bool.cond_eq_ite, Ne.symm ne]

theorem GoodO.before (G : GoodO row so cw cc kw) (hz : row.length ≤ 3) (hv : v ∉ row) (hr : r ∈ row) (hl : so.getLast? = some l) :
    GoodO (insI row (row.idxOf r) v) (if r != l then (so ++ [v]).filter (· ≠ l) ++ [l] else so ++ [v]) (fset (fset cw v r) (cc r) v) (fset (fset cc v (cc r)) r v) kw := by
  have hls : l ∈ so := List.mem_of_getLast? hl
  have hvs : v ∉ so := fun z => hv (G.ps.mem_iff.mp z)
  have nd' : (so ++ [v]).Nodup := List.nodup_append.mpr ⟨G.nds, by simp, fun a ha b hb => by simp at hb; subst hb; exact fun z => hvs (z ▸ ha)⟩
  have p0 : (so ++ [v]).Perm (insI row (row.idxOf r) v) := (List.perm_append_singleton v so).trans ((List.Perm.cons v G.ps).trans (insI_perm ..).symm)
  refine ⟨insI_nd G hv _, ?_, cyc_ins hz G.nd hv hr G.cyc, fun hk _ => ?_⟩
  · split
    · exact (toEnd_perm nd' (List.mem_append_left _ hls)).trans p0
    · exact p0
  · have hne : row ≠ [] := fun z => by rw [z] at hr; cases hr
    have hh := G.kn hk hne
    rw [hl] at hh
    by_cases z : r = l
    · subst z
      rw [if_neg (by simp), getLast_toEnd, idx_head (r := r) hh.symm]; rfl
    · rw [if_pos (by simpa using z), getLast_toEnd, head_insI (idx_pos hr hh.symm z) List.idxOf_le_length]
      exact hh
theorem GoodO.after (G : GoodO row so cw cc kw) (hz : row.length ≤ 3) (hv : v ∉ row) (hr : r ∈ row) (hl : so.getLast? = some l) :
    GoodO (insI row (row.idxOf r + 1) v) ((so ++ [v]).filter (· ≠ l) ++ [l]) (fset (fset cw v (cw r)) r v) (fset (fset cc v r) (cw r) v) kw := by
  have hls : l ∈ so := List.mem_of_getLast? hl
  have hvs : v ∉ so := fun z => hv (G.ps.mem_iff.mp z)
  have nd' : (so ++ [v]).Nodup := List.nodup_append.mpr ⟨G.nds, by simp, fun a ha b hb => by simp at hb; subst hb; exact fun z => hvs (z ▸ ha)⟩
  have p0 : (so ++ [v]).Perm (insI row (row.idxOf r + 1) v) := (List.perm_append_singleton v so).trans ((List.Perm.cons v G.ps).trans (insI_perm ..).symm)
  refine ⟨insI_nd G hv _, (toEnd_perm nd' (List.mem_append_left _ hls)).trans p0, cyc_insA hz G.nd hv hr G.cyc, fun hk _ => ?_⟩
  have hne : row ≠ [] := fun z => by rw [z] at hr; cases hr
  have hh := G.kn hk hne
  rw [hl] at hh
  rw [getLast_toEnd, head_insI (by omega) (by have := List.idxOf_lt_length_of_mem hr; omega)]
  exact hh
theorem GoodO.new (G : GoodO [] so cw cc kw) (kw' : Bool) : GoodO [v] (so ++ [v]) (fset cw v v) (fset cc v v) kw' := by
  have : so = [] := G.nil.mp rfl
  subst this
  refine ⟨by simp, List.Perm.refl _, ?_, fun _ _ => rfl⟩
  simp [Cyc, fset]
theorem GoodO.front (G : GoodO row so cw cc kw) (hz : row.length ≤ 3) (hv : v ∉ row) (hl : so.getLast? = some l) (hk : kw = true) :
    GoodO (v :: row) (so ++ [v]) (fset (fset cw v l) (cc l) v) (fset (fset cc v (cc l)) l v) kw := by
  have hls : l ∈ so := List.mem_of_getLast? hl
  have hlr : l ∈ row := G.ps.mem_iff.mp hls
  have hne : row ≠ [] := fun z => by rw [z] at hlr; cases hlr
  have hh := G.kn hk hne
  rw [hl] at hh
  have := G.before hz hv hlr hl
  rw [idx_head (r := l) hh.symm, if_neg (by simp)] at this
  exact this
theorem GoodO.rem (G : GoodO row so cw cc kw) (hz : row.length ≤ 4) (hv : v ∈ row) :
    GoodO (row.erase v) (so.filter (· ≠ v)) (if v ≠ cw v then fset cw (cc v) (cw v) else cw) (if v ≠ cw v then fset cc (cw v) (cc v) else cc) (if row.erase v = [] then true else if row.getD 0 0 = v then false else kw) := by
  refine ⟨G.nd.erase v, ?_, (cyc_rem hz G.nd hv G.cyc).1, fun hk hne => ?_⟩
  · have : (so.filter (· ≠ v)) = so.erase v := by rw [G.nds.erase_eq_filter]; congr 1; funext x; simp [bne, BEq.beq]
    rw [this]
    exact G.ps.erase v
  · rw [if_neg hne] at hk
    split at hk
    · cases hk
    · rename_i h0
      have hrow : row ≠ [] := fun z => by rw [z] at hv; cases hv
      have hh := G.kn hk hrow
      cases row with
      | nil => exact absurd rfl hrow
      | cons a t =>
        simp at h0 hh
        rw [List.erase_cons, if_neg (by simpa using h0)]
        show _ = some a
        have hs : so = so.dropLast ++ [a] := by
          have hs0 : so ≠ [] := fun z => by rw [z] at hh; cases hh
          have e := List.dropLast_concat_getLast hs0
          rw [List.getLast?_eq_some_getLast hs0] at hh
          rw [Option.some.inj hh] at e
          exact e.symm
        rw [hs, List.filter_append, List.filter_cons, if_pos (by simpa using h0)]
        exact getLast_toEnd ..
end
end Mine

end

section
open PySem PySem.W PyProof.Rows PySem.Calls
set_option Elab.async false
set_option maxRecDepth 100000
set_option linter.unusedVariables false
namespace Mine

theorem nodup_le : ∀ {l P : List Int}, l.Nodup → (∀ x ∈ l, x ∈ P) → l.length ≤ P.length
  | [], _, _, _ => Nat.zero_le _
  | a :: t, P, nd, h => by
    rw [List.nodup_cons] at nd
    have ha := h a (.head _)
    have := nodup_le (P := P.erase a) nd.2 fun x hx => by
      rw [List.mem_erase_of_ne (fun z : x = a => nd.1 (z ▸ hx))]
      exact h x (.tail _ hx)
    rw [List.length_erase_of_mem ha] at this
    have : 0 < P.length := List.length_pos_of_mem ha
    simp only [List.length_cons]
    omega

/-- the picture and the law's books agree -/
structure Inv (P : List Int) (σ : Sg) : Prop where
  nn : σ.nn = σ.ns
  np : σ.np = σ.ns
  rn : σ.rn = σ.ns
  kn : σ.kn = σ.ns
  nd : σ.ns.Nodup
  sub : ∀ x ∈ σ.ns, x ∈ P
  go : ∀ x ∈ σ.ns, GoodO (σ.row x) (σ.so x) (σ.cw x) (σ.cc x) (σ.kw x)
  po : ∀ x ∈ σ.ns, (σ.po x).Perm (σ.row x)
  ne : ∀ x ∈ σ.ns, x ∉ σ.row x
  sym : ∀ x ∈ σ.ns, ∀ y ∈ σ.row x, y ∈ σ.ns ∧ x ∈ σ.row y
  sm : ∀ x, (σ.so x).length ≤ 9 ∧ (σ.po x).length ≤ 9

/-- a row for a node that has none -/
def Sg.addRow (σ : Sg) (u : Int) : Sg := if u ∈ σ.rn then σ else { σ with rn := σ.rn ++ [u], row := fset σ.row u [], kn := σ.kn ++ [u], kw := fset σ.kw u true }
def Sg.addBoth (σ : Sg) (u : Int) : Sg := (σ.addNode u).addRow u

section
variable {P : List Int} {σ τ : Sg} {u v x n : Int}

theorem inv_empty : Inv P Sg.empty := ⟨rfl, rfl, rfl, rfl, .nil, nofun, nofun, nofun, nofun, nofun, fun _ => ⟨Nat.zero_le _, Nat.zero_le _⟩⟩
theorem Inv.adj (I : Inv P σ) (b : Bool) : Inv P { σ with adj := b } := ⟨I.nn, I.np, I.rn, I.kn, I.nd, I.sub, I.go, I.po, I.ne, I.sym, I.sm⟩
theorem Inv.al (I : Inv P σ) : σ.Al := ⟨I.nn, I.np⟩
theorem Inv.len (I : Inv P σ) (hP : P.length = 5) : σ.ns.length ≤ 5 := hP ▸ nodup_le I.nd I.sub
theorem Inv.Sm (I : Inv P σ) (hP : P.length = 5) : σ.Sm := by
  have := I.len hP
  exact ⟨by rw [I.nn]; omega, by omega, by rw [I.np]; omega, fun u => by have := (I.sm u).1; omega, fun u => by have := (I.sm u).2; omega⟩
theorem Inv.row4 (I : Inv P σ) (hP : P.length = 5) (hx : x ∈ σ.ns) : (σ.row x).length ≤ 4 := by
  have := nodup_le (P := P) (List.nodup_cons.mpr ⟨I.ne x hx, (I.go x hx).nd⟩) fun y hy => by
    rcases List.mem_cons.mp hy with rfl | hy
    · exact I.sub _ hx
    · exact I.sub _ (I.sym x hx y hy).1
  simp only [List.length_cons] at this
  omega
theorem Inv.row3 (I : Inv P σ) (hP : P.length = 5) (hu : u ∈ σ.ns) (hv : v ∈ σ.ns) (huv : u ≠ v) (h : v ∉ σ.row u) : (σ.row u).length ≤ 3 := by
  have := nodup_le (P := P) (l := v :: u :: σ.row u) (List.nodup_cons.mpr ⟨by simp only [List.mem_cons, not_or]; exact ⟨Ne.symm huv, h⟩, List.nodup_cons.mpr ⟨I.ne u hu, (I.go u hu).nd⟩⟩) fun y hy => by
    rcases List.mem_cons.mp hy with rfl | hy
    · exact I.sub _ hv
    · rcases List.mem_cons.mp hy with rfl | hy
      · exact I.sub _ hu
      · exact I.sub _ (I.sym u hu y hy).1
  simp only [List.length_cons] at this
  omega

/-- what _law_same looks at -/
theorem Inv.agree (I : Inv P σ) (hP : P.length = 5) (hx : x ∈ σ.ns) : σ.Agree x := by
  have G := I.go x hx
  have h4 := I.row4 hP hx
  refine ⟨hx, by rw [I.kn]; exact hx, by omega, by have := (I.sm x).1; omega, ?_, fun k hk => ⟨G.ps.mem_iff.mpr ?_, G.cyc.prev hk⟩⟩
  · by_cases hr : σ.row x = []
    · refine ⟨[], ⟨fun _ => rfl, fun h => absurd (G.nil.mp hr) h, fun i k h => by simp at h, fun i k k' h => by simp at h, fun k k₀ h => by simp at h, fun i k k₀ _ h => by simp at h⟩, by rw [hr], fun h => absurd hr h⟩
    · have hso : σ.so x ≠ [] := fun z => hr (G.nil.mpr z)
      obtain ⟨s, hs, hss, hsr⟩ := G.last hr
      obtain ⟨C, hh, hrot⟩ := cyc_rot h4 G.nd hsr G.cyc
      have hp := rotI_perm (σ.row x) s
      have h0 : (rotI (σ.row x) s)[0]? = some s := by rw [← List.head?_eq_getElem?]; exact hh
      refine ⟨rotI (σ.row x) s, ⟨fun z => absurd z hso, fun h => ?_, fun i k hk => ?_, fun i k k' h h' => (C.next h h').1, fun k k₀ h h' => (C.last h h').1, fun i k k₀ hi h h' z => ?_⟩, hp.length_eq, fun _ hne => ⟨?_, fun M hM hle M' hM' hle' => ?_⟩⟩
      · rw [h0, ← hs, List.getLast?_eq_some_getLast h]
      · exact G.ps.mem_iff.mpr (hp.mem_iff.mp (List.mem_of_getElem? hk))
      · subst z
        have nd := hp.nodup_iff.mpr G.nd
        have h1 := (List.getElem?_eq_some_iff.mp h).1
        have := (List.getElem?_inj h1 nd).mp (h.trans h'.symm)
        omega
      · cases hk : σ.kw x with
        | false => rfl
        | true =>
          refine absurd ?_ hne
          have := G.kn hk hr
          rw [hs] at this
          unfold rotI
          rw [idx_head (r := s) this.symm]
          simp
      · have hMr := hp.mem_iff.mp hM
        have : M = M' := Int.le_antisymm (hle M' (hp.mem_iff.mpr hM')) (hle' M hMr)
        subst this
        exact hrot M hMr
  · rw [List.getD_eq_getElem?_getD, List.getElem?_eq_getElem hk]
    exact List.getElem_mem hk

/-- a new node -/
theorem Inv.node (I : Inv P σ) (hu : u ∈ P) : Inv P (σ.addBoth u) := by
  unfold Sg.addBoth
  by_cases h : u ∈ σ.ns
  · have e : σ.addNode u = σ := by unfold Sg.addNode; rw [if_pos h]
    rw [e]
    unfold Sg.addRow
    rw [if_pos (I.rn ▸ h)]
    exact I
  · have e : σ.addNode u = { σ with nn := σ.nn ++ [u], ns := σ.ns ++ [u], np := σ.np ++ [u], so := fset σ.so u [], po := fset σ.po u [] } := by unfold Sg.addNode; rw [if_neg h]
    rw [e]
    unfold Sg.addRow
    rw [if_neg (by rw [← I.rn] at h; exact h)]
    have old : ∀ x ∈ σ.ns, x ≠ u := fun x hx z => h (z ▸ hx)
    refine ⟨by show _ ++ _ = _ ++ _; rw [I.nn], by show _ ++ _ = _ ++ _; rw [I.np], by show _ ++ _ = _ ++ _; rw [I.rn], by show _ ++ _ = _ ++ _; rw [I.kn], ?_, ?_, ?_, ?_, ?_, ?_, ?_⟩
    · exact List.nodup_append.mpr ⟨I.nd, by simp, fun a ha b hb => by simp at hb; subst hb; exact old a ha⟩
    · intro x hx
      rcases List.mem_append.mp hx with hx | hx
      · exact I.sub x hx
      · rw [List.mem_singleton.mp hx]; exact hu
    · intro x hx
      rcases List.mem_append.mp hx with hx | hx
      · have n := old x hx
        show GoodO (fset σ.row u [] x) (fset σ.so u [] x) _ _ (fset σ.kw u true x)
        rw [fset_ne _ _ n, fset_ne _ _ n, fset_ne _ _ n]; exact I.go x hx
      · rw [List.mem_singleton.mp hx]
        show GoodO (fset σ.row u [] u) (fset σ.so u [] u) _ _ (fset σ.kw u true u)
        rw [fset_self, fset_self, fset_self]
        exact ⟨.nil, .refl _, fun p hp => (nomatch hp), fun _ z => absurd rfl z⟩
    · intro x hx
      rcases List.mem_append.mp hx with hx | hx
      · have n := old x hx
        show (fset σ.po u [] x).Perm (fset σ.row u [] x)
        rw [fset_ne _ _ n, fset_ne _ _ n]; exact I.po x hx
      · rw [List.mem_singleton.mp hx]
        show (fset σ.po u [] u).Perm (fset σ.row u [] u)
        rw [fset_self, fset_self]
    · intro x hx
      rcases List.mem_append.mp hx with hx | hx
      · have n := old x hx
        show x ∉ (fset σ.row u [] x)
        rw [fset_ne _ _ n]; exact I.ne x hx
      · rw [List.mem_singleton.mp hx]
        show u ∉ (fset σ.row u [] u)
        rw [fset_self]; exact nofun
    · intro x hx y hy
      rcases List.mem_append.mp hx with hx | hx
      · have n := old x hx
        replace hy : y ∈ fset σ.row u [] x := hy
        rw [fset_ne _ _ n] at hy
        obtain ⟨h1, h2⟩ := I.sym x hx y hy
        exact ⟨List.mem_append_left _ h1, by show x ∈ fset σ.row u [] y; rw [fset_ne _ _ (old y h1)]; exact h2⟩
      · rw [List.mem_singleton.mp hx] at hy
        replace hy : y ∈ fset σ.row u [] u := hy
        rw [fset_self] at hy; cases hy
    · intro x
      show (fset σ.so u [] x).length ≤ 9 ∧ (fset σ.po u [] x).length ≤ 9
      by_cases z : x = u
      · rw [z, fset_self, fset_self]; exact ⟨Nat.zero_le _, Nat.zero_le _⟩
      · rw [fset_ne _ _ z, fset_ne _ _ z]; exact I.sm x
theorem addBoth_mem (I : Inv P σ) (x : Int) : x ∈ (σ.addBoth u).ns ↔ x ∈ σ.ns ∨ x = u := by
  unfold Sg.addBoth
  have e : ∀ τ : Sg, (τ.addRow u).ns = τ.ns := fun τ => by unfold Sg.addRow; split <;> rfl
  rw [e]
  unfold Sg.addNode
  split
  · rename_i h; exact ⟨.inl, fun z => z.elim id fun z => z ▸ h⟩
  · simp
end
end Mine

end

section
open PySem PySem.W PyProof.Rows PySem.Calls
set_option Elab.async false
set_option maxRecDepth 100000
set_option linter.unusedVariables false
namespace Mine

/-- one half edge more, u to v, in picture and row -/
structure Half (σ τ : Sg) (u v : Int) : Prop where
  nn : τ.nn = σ.nn
  ns : τ.ns = σ.ns
  np : τ.np = σ.np
  rn : τ.rn = σ.rn
  kn : τ.kn = σ.kn
  row : ∀ x, x ≠ u → τ.row x = σ.row x
  so : ∀ x, x ≠ u → τ.so x = σ.so x
  cw : ∀ x, x ≠ u → τ.cw x = σ.cw x
  cc : ∀ x, x ≠ u → τ.cc x = σ.cc x
  kw : ∀ x, x ≠ u → τ.kw x = σ.kw x
  po : τ.po = fset σ.po v (σ.po v ++ [u])
  good : GoodO (τ.row u) (τ.so u) (τ.cw u) (τ.cc u) (τ.kw u)
  perm : (τ.row u).Perm (v :: σ.row u)

section
variable {P : List Int} {σ τ τ' : Sg} {u v x n : Int}

theorem hv_hv (hP : P.length = 5) (I : Inv P σ) (hu : u ∈ σ.ns) (hv : v ∈ σ.ns) (huv : u ≠ v) (h : v ∉ σ.row u) (A : Half σ τ u v) (B : Half τ τ' v u) : Inv P τ' := by
  have hvu := Ne.symm huv
  have h' : u ∉ σ.row v := fun z => h (I.sym v hv u z).2
  have ens : τ'.ns = σ.ns := B.ns.trans A.ns
  have ru : τ'.row u = τ.row u := B.row u huv
  have rv : (τ'.row v).Perm (u :: σ.row v) := by have := B.perm; rwa [A.row v hvu] at this
  have ro : ∀ x, x ≠ u → x ≠ v → τ'.row x = σ.row x := fun x h1 h2 => (B.row x h2).trans (A.row x h1)
  have mem : ∀ x y, y ∈ τ'.row x ↔ y ∈ σ.row x ∨ (x = u ∧ y = v) ∨ (x = v ∧ y = u) := by
    intro x y
    by_cases h1 : x = u
    · subst h1
      rw [ru, A.perm.mem_iff, List.mem_cons]
      simp [huv]
      exact Or.comm
    · by_cases h2 : x = v
      · subst h2
        rw [rv.mem_iff, List.mem_cons]
        simp [hvu]
        exact Or.comm
      · rw [ro x h1 h2]; simp [h1, h2]
  have go : ∀ x ∈ σ.ns, GoodO (τ'.row x) (τ'.so x) (τ'.cw x) (τ'.cc x) (τ'.kw x) := by
    intro x hx
    by_cases h1 : x = u
    · subst h1
      rw [ru, B.so _ huv, B.cw _ huv, B.cc _ huv, B.kw _ huv]; exact A.good
    · by_cases h2 : x = v
      · subst h2; exact B.good
      · rw [ro x h1 h2, B.so _ h2, B.cw _ h2, B.cc _ h2, B.kw _ h2, A.so _ h1, A.cw _ h1, A.cc _ h1, A.kw _ h1]; exact I.go x hx
  have pu : τ'.po u = σ.po u ++ [v] := by rw [B.po, fset_self, A.po, fset_ne _ _ huv]
  have pv : τ'.po v = σ.po v ++ [u] := by rw [B.po, fset_ne _ _ hvu, A.po, fset_self]
  have px : ∀ x, x ≠ u → x ≠ v → τ'.po x = σ.po x := fun x h1 h2 => by rw [B.po, fset_ne _ _ h1, A.po, fset_ne _ _ h2]
  have po : ∀ x ∈ σ.ns, (τ'.po x).Perm (τ'.row x) := by
    intro x hx
    by_cases h1 : x = u
    · subst h1
      rw [pu, ru]
      exact (List.perm_append_singleton v _).trans ((List.Perm.cons v (I.po _ hx)).trans A.perm.symm)
    · by_cases h2 : x = v
      · subst h2
        rw [pv]
        exact (List.perm_append_singleton u _).trans ((List.Perm.cons u (I.po _ hx)).trans rv.symm)
      · rw [px x h1 h2, ro x h1 h2]; exact I.po x hx
  have hl : ∀ x ∈ σ.ns, (τ'.row x).length ≤ 9 := by
    intro x hx
    have h4 := I.row4 hP hx
    by_cases h1 : x = u
    · subst h1; rw [ru, A.perm.length_eq, List.length_cons]; omega
    · by_cases h2 : x = v
      · subst h2; rw [rv.length_eq, List.length_cons]; omega
      · rw [ro x h1 h2]; omega
  refine ⟨by rw [B.nn, A.nn, ens, I.nn], by rw [B.np, A.np, ens, I.np], by rw [B.rn, A.rn, ens, I.rn], by rw [B.kn, A.kn, ens, I.kn], by rw [ens]; exact I.nd, by rw [ens]; exact I.sub, by rw [ens]; exact go, by rw [ens]; exact po, ?_, ?_, ?_⟩
  · intro x hx hm
    rw [ens] at hx
    rcases (mem x x).mp hm with h1 | ⟨h1, h2⟩ | ⟨h1, h2⟩
    · exact I.ne x hx h1
    · exact huv (h1 ▸ h2)
    · exact hvu (h1 ▸ h2)
  · intro x hx y hy
    rw [ens] at hx ⊢
    rcases (mem x y).mp hy with h1 | ⟨h1, h2⟩ | ⟨h1, h2⟩
    · obtain ⟨q1, q2⟩ := I.sym x hx y h1
      exact ⟨q1, (mem y x).mpr (.inl q2)⟩
    · subst h1; subst h2
      exact ⟨hv, (mem y x).mpr (.inr (.inr ⟨rfl, rfl⟩))⟩
    · subst h1; subst h2
      exact ⟨hu, (mem y x).mpr (.inr (.inl ⟨rfl, rfl⟩))⟩
  · intro x
    by_cases hx : x ∈ σ.ns
    · exact ⟨(go x hx).ps.length_eq ▸ hl x hx, (po x hx).length_eq ▸ hl x hx⟩
    · have h1 : x ≠ u := fun z => hx (z ▸ hu)
      have h2 : x ≠ v := fun z => hx (z ▸ hv)
      rw [B.so _ h2, A.so _ h1, px x h1 h2]; exact I.sm x

theorem addNode_id (h : u ∈ σ.ns) : σ.addNode u = σ := by unfold Sg.addNode; rw [if_pos h]
theorem addEdge_in (hu : u ∈ σ.ns) (hv : v ∈ σ.ns) (c d : Int) : σ.addEdge u v c d = σ.edge u v c d := by unfold Sg.addEdge; rw [addNode_id hu, addNode_id hv]

/-- the half edge of add_half_edge(u, v, cw=r) -/
theorem hv_cw {r : Int} (G : GoodO (σ.row u) (σ.so u) (σ.cw u) (σ.cc u) (σ.kw u)) (hu : u ∈ σ.ns) (hv : v ∈ σ.ns) (h : v ∉ σ.row u) (hz : (σ.row u).length ≤ 3) (hr : r ∈ σ.row u) :
    Half σ { σ.heCw u v r (σ.cc u r) (σ.lastOf u) with row := fset σ.row u (insI (σ.row u) ((σ.row u).idxOf r) v) } u v := by
  have hne : σ.row u ≠ [] := fun z => by rw [z] at hr; cases hr
  obtain ⟨l, hl, hls, hlr⟩ := G.last hne
  have hlast : σ.lastOf u = l := by unfold Sg.lastOf; rw [hl]; rfl
  have G' := G.before hz h hr hl
  rw [hlast]
  unfold Sg.heCw
  rw [addEdge_in hu hv]
  unfold Sg.edge Sg.half
  by_cases z : r = l
  · have zb : (r != l) = false := by simp [z]
    simp only [zb, Bool.false_eq_true, if_false] at G' ⊢
    refine ⟨rfl, rfl, rfl, rfl, rfl, fun x hx => fset_ne _ _ hx, fun x hx => fset_ne _ _ hx, fun x hx => ?_, fun x hx => ?_, fun _ _ => rfl, rfl, ?_, ?_⟩
    · show fset2 (fset2 _ _ _ _) _ _ _ x = _; rw [fset2_off _ hx, fset2_off _ hx]
    · show fset2 (fset2 _ _ _ _) _ _ _ x = _; rw [fset2_off _ hx, fset2_off _ hx]
    · show GoodO (fset _ _ _ u) (fset _ _ _ u) (fset2 (fset2 _ _ _ _) _ _ _ u) (fset2 (fset2 _ _ _ _) _ _ _ u) _
      rw [fset_self, fset_self, fset2_at, fset2_at, fset2_at, fset2_at]; exact G'
    · show List.Perm (fset _ _ _ u) _; rw [fset_self]; exact insI_perm ..
  · have zb : (r != l) = true := by simpa using z
    simp only [zb, if_true] at G' ⊢
    refine ⟨rfl, rfl, rfl, rfl, rfl, fun x hx => fset_ne _ _ hx, fun x hx => ?_, fun x hx => ?_, fun x hx => ?_, fun _ _ => rfl, rfl, ?_, ?_⟩
    · show fset (fset _ _ _) _ _ x = _; rw [fset_ne _ _ hx, fset_ne _ _ hx]
    · show fset2 (fset2 _ _ _ _) _ _ _ x = _; rw [fset2_off _ hx, fset2_off _ hx]
    · show fset2 (fset2 _ _ _ _) _ _ _ x = _; rw [fset2_off _ hx, fset2_off _ hx]
    · show GoodO (fset _ _ _ u) (fset (fset _ _ _) _ (List.filter _ (fset _ _ _ _) ++ _) u) (fset2 (fset2 _ _ _ _) _ _ _ u) (fset2 (fset2 _ _ _ _) _ _ _ u) _
      rw [fset_self, fset_self, fset_self, fset2_at, fset2_at, fset2_at, fset2_at]; exact G'
    · show List.Perm (fset _ _ _ u) _; rw [fset_self]; exact insI_perm ..
theorem hv_ccw {r : Int} (G : GoodO (σ.row u) (σ.so u) (σ.cw u) (σ.cc u) (σ.kw u)) (hu : u ∈ σ.ns) (hv : v ∈ σ.ns) (h : v ∉ σ.row u) (hz : (σ.row u).length ≤ 3) (hr : r ∈ σ.row u) :
    Half σ { σ.heCcw u v r (σ.cw u r) (σ.lastOf u) with row := fset σ.row u (insI (σ.row u) ((σ.row u).idxOf r + 1) v) } u v := by
  have hne : σ.row u ≠ [] := fun z => by rw [z] at hr; cases hr
  obtain ⟨l, hl, hls, hlr⟩ := G.last hne
  have hlast : σ.lastOf u = l := by unfold Sg.lastOf; rw [hl]; rfl
  have G' := G.after hz h hr hl
  rw [hlast]
  unfold Sg.heCcw
  rw [addEdge_in hu hv]
  unfold Sg.edge Sg.half
  simp only [if_true] at G' ⊢
  refine ⟨rfl, rfl, rfl, rfl, rfl, fun x hx => fset_ne _ _ hx, fun x hx => ?_, fun x hx => ?_, fun x hx => ?_, fun _ _ => rfl, rfl, ?_, ?_⟩
  · show fset (fset _ _ _) _ _ x = _; rw [fset_ne _ _ hx, fset_ne _ _ hx]
  · show fset2 (fset2 _ _ _ _) _ _ _ x = _; rw [fset2_off _ hx, fset2_off _ hx]
  · show fset2 (fset2 _ _ _ _) _ _ _ x = _; rw [fset2_off _ hx, fset2_off _ hx]
  · show GoodO (fset _ _ _ u) (fset (fset _ _ _) _ (List.filter _ (fset _ _ _ _) ++ _) u) (fset2 (fset2 _ _ _ _) _ _ _ u) (fset2 (fset2 _ _ _ _) _ _ _ u) _
    rw [fset_self, fset_self, fset_self, fset2_at, fset2_at, fset2_at, fset2_at]; exact G'
  · show List.Perm (fset _ _ _ u) _; rw [fset_self]; exact insI_perm ..
theorem hv_new (G : GoodO (σ.row u) (σ.so u) (σ.cw u) (σ.cc u) (σ.kw u)) (hu : u ∈ σ.ns) (hv : v ∈ σ.ns) (hn : σ.row u = []) : Half σ { σ.addEdge u v v v with row := fset σ.row u [v] } u v := by
  rw [hn] at G
  rw [addEdge_in hu hv]
  unfold Sg.edge
  refine ⟨rfl, rfl, rfl, rfl, rfl, fun x hx => fset_ne _ _ hx, fun x hx => fset_ne _ _ hx, fun x hx => fset2_off _ hx, fun x hx => fset2_off _ hx, fun _ _ => rfl, rfl, ?_, ?_⟩
  · show GoodO (fset _ _ _ u) (fset _ _ _ u) (fset2 _ _ _ _ u) (fset2 _ _ _ _ u) _
    rw [fset_self, fset_self, fset2_at, fset2_at]; exact G.new _
  · show List.Perm (fset _ _ _ u) _; rw [fset_self, hn]

theorem ref_mem {k : Int} (h : σ.row u ≠ []) : σ.refOf u k ∈ σ.row u := by
  unfold Sg.refOf
  have hpos : 0 < (σ.row u).length := List.length_pos_iff.mpr h
  have h1 : 0 ≤ k.fmod (σ.row u).length := Int.fmod_nonneg_of_pos _ (by omega)
  have h2 : k.fmod (σ.row u).length < (σ.row u).length := Int.fmod_lt_of_pos _ (by omega)
  have h3 : (k.fmod (σ.row u).length).toNat < (σ.row u).length := by omega
  rw [List.getD_eq_getElem?_getD, List.getElem?_eq_getElem h3]
  exact List.getElem_mem h3

theorem hv_put {road k : Int} (G : GoodO (σ.row u) (σ.so u) (σ.cw u) (σ.cc u) (σ.kw u)) (hu : u ∈ σ.ns) (hv : v ∈ σ.ns) (h : v ∉ σ.row u) (hz : (σ.row u).length ≤ 3) : Half σ (σ.put u v road k) u v := by
  unfold Sg.put
  by_cases hn : σ.row u = []
  · rw [if_pos hn]; exact hv_new G hu hv hn
  · rw [if_neg hn]
    dsimp only
    split
    · exact hv_cw G hu hv h hz (ref_mem hn)
    · exact hv_ccw G hu hv h hz (ref_mem hn)
theorem can_put (G : GoodO (σ.row u) (σ.so u) (σ.cw u) (σ.cc u) (σ.kw u)) (hu : u ∈ σ.ns) (hr : u ∈ σ.rn) (huv : u ≠ v) (h : v ∉ σ.row u) (hp : u ∉ σ.po v) (hz : (σ.row u).length ≤ 3) : σ.CanPut u v :=
  ⟨⟨huv, fun _ z => h (G.ps.mem_iff.mp z), fun _ => hp⟩, hr, by omega, fun z _ => G.nil.mp z, fun hne => ⟨hu, by obtain ⟨l, hl, _⟩ := G.last hne; unfold Sg.lastOf; rw [hl]; rfl, fun r hr => by
    obtain ⟨h1, h2⟩ := cyc_mem (by omega) hr G.cyc
    exact ⟨G.ps.mem_iff.mpr hr, G.ps.mem_iff.mpr h2, G.ps.mem_iff.mpr h1⟩⟩⟩
/-- add_half_edge_first, and the row's front -/
theorem hv_first (G : GoodO (σ.row u) (σ.so u) (σ.cw u) (σ.cc u) (σ.kw u)) (hk : σ.kw u = true) (hu : u ∈ σ.ns) (hv : v ∈ σ.ns) (h : v ∉ σ.row u) (hz : (σ.row u).length ≤ 3) : Half σ { σ.first u v with row := fset σ.row u (v :: σ.row u) } u v := by
  by_cases hn : σ.row u = []
  · have hl : σ.lst u = none := by unfold Sg.lst; rw [if_pos hu, G.nil.mp hn]; rfl
    have := hv_new (v := v) G hu hv hn
    unfold Sg.first
    rw [hl, hn]
    exact this
  · obtain ⟨l, hl, hls, hlr⟩ := G.last hn
    have e : σ.lst u = some l := by unfold Sg.lst; rw [if_pos hu, hl]
    have hh := G.kn hk hn
    rw [hl] at hh
    have := hv_cw (v := v) G hu hv h hz hlr
    rw [idx_head (r := l) hh.symm, show σ.lastOf u = l by unfold Sg.lastOf; rw [hl]; rfl] at this
    unfold Sg.first
    rw [e]
    exact this
theorem first_c (G : GoodO (σ.row u) (σ.so u) (σ.cw u) (σ.cc u) (σ.kw u)) (hz : (σ.row u).length ≤ 4) (l : Int) (hl : σ.lst u = some l) : σ.cc u l ∈ σ.so u := by
  unfold Sg.lst at hl
  split at hl
  · have := G.ps.mem_iff.mp (List.mem_of_getLast? hl)
    exact G.ps.mem_iff.mpr (cyc_mem hz this G.cyc).2
  · cases hl
end
end Mine

end

section
open PySem PySem.W PyProof.Rows PySem.Calls
set_option Elab.async false
set_option maxRecDepth 100000
set_option linter.unusedVariables false
namespace Mine

def Sg.rows2 (σ : Sg) (u v : Int) : Sg := (σ.addRow u).addRow v
def Sg.both2 (σ : Sg) (u v : Int) : Sg := (σ.addBoth u).addBoth v

section
variable {P : List Int} {σ τ τ' : Sg} {u v x n : Int}

theorem addRow_addNode (σ : Sg) (u v : Int) : (σ.addRow u).addNode v = (σ.addNode v).addRow u := by
  unfold Sg.addRow Sg.addNode
  by_cases h1 : u ∈ σ.rn <;> by_cases h2 : v ∈ σ.ns <;> simp only [h1, h2, if_true, if_false]
theorem both2_eq (σ : Sg) (u v : Int) : σ.both2 u v = ((σ.rows2 u v).addNode u).addNode v := by
  unfold Sg.both2 Sg.rows2 Sg.addBoth
  rw [addRow_addNode (σ.addRow u) v u, addRow_addNode σ u u, addRow_addNode _ v v]
theorem addRow_pic (σ : Sg) (u : Int) : (σ.addRow u).nn = σ.nn ∧ (σ.addRow u).ns = σ.ns ∧ (σ.addRow u).np = σ.np ∧ (σ.addRow u).so = σ.so ∧ (σ.addRow u).po = σ.po ∧ (σ.addRow u).cw = σ.cw ∧ (σ.addRow u).cc = σ.cc := by
  unfold Sg.addRow; split <;> exact ⟨rfl, rfl, rfl, rfl, rfl, rfl, rfl⟩
theorem addNode_bk (σ : Sg) (u : Int) : (σ.addNode u).rn = σ.rn ∧ (σ.addNode u).row = σ.row ∧ (σ.addNode u).kn = σ.kn ∧ (σ.addNode u).kw = σ.kw ∧ (σ.addNode u).cw = σ.cw ∧ (σ.addNode u).cc = σ.cc := by
  unfold Sg.addNode; split <;> exact ⟨rfl, rfl, rfl, rfl, rfl, rfl⟩
theorem an_so (h : x ∈ σ.ns) : (σ.addNode u).so x = σ.so x ∧ (σ.addNode u).po x = σ.po x ∧ x ∈ (σ.addNode u).ns := by
  unfold Sg.addNode
  split
  · exact ⟨rfl, rfl, h⟩
  · rename_i hu
    have : x ≠ u := fun z => hu (z ▸ h)
    exact ⟨fset_ne _ _ this, fset_ne _ _ this, List.mem_append_left _ h⟩
theorem an_mem (σ : Sg) (u : Int) : u ∈ (σ.addNode u).ns := by
  unfold Sg.addNode; split
  · assumption
  · exact List.mem_append_right _ (.head _)

theorem rows2_pic (σ : Sg) (u v : Int) : (σ.rows2 u v).nn = σ.nn ∧ (σ.rows2 u v).ns = σ.ns ∧ (σ.rows2 u v).np = σ.np ∧ (σ.rows2 u v).so = σ.so ∧ (σ.rows2 u v).po = σ.po ∧ (σ.rows2 u v).cw = σ.cw ∧ (σ.rows2 u v).cc = σ.cc := by
  obtain ⟨a1, a2, a3, a4, a5, a6, a7⟩ := addRow_pic (σ.addRow u) v
  obtain ⟨b1, b2, b3, b4, b5, b6, b7⟩ := addRow_pic σ u
  exact ⟨a1.trans b1, a2.trans b2, a3.trans b3, a4.trans b4, a5.trans b5, a6.trans b6, a7.trans b7⟩
theorem rows2_nil (I : Inv P σ) (huv : u ≠ v) : (u ∉ σ.ns → (σ.rows2 u v).row u = []) ∧ (v ∉ σ.ns → (σ.rows2 u v).row v = []) := by
  have e := I.rn
  unfold Sg.rows2
  constructor
  · intro h
    rw [← e] at h
    unfold Sg.addRow
    rw [if_neg h]
    split
    · exact fset_self ..
    · show fset (fset σ.row u []) v [] u = []
      rw [fset_ne _ _ huv, fset_self]
  · intro h
    rw [← e] at h
    have : v ∉ (σ.addRow u).rn := by
      unfold Sg.addRow
      split
      · exact h
      · simp only [List.mem_append, List.mem_singleton, not_or]; exact ⟨h, Ne.symm huv⟩
    rw [Sg.addRow, if_neg this]
    exact fset_self ..

/-- the state with both nodes in picture and books -/
structure Two (P : List Int) (σ τ : Sg) (u v : Int) : Prop where
  inv : Inv P τ
  mu : u ∈ τ.ns
  mv : v ∈ τ.ns
  ne : u ≠ v
  nj : v ∉ τ.row u
  row : τ.row = (σ.rows2 u v).row
  rn : τ.rn = (σ.rows2 u v).rn
  kw : τ.kw = (σ.rows2 u v).kw
  cw : τ.cw = σ.cw
  cc : τ.cc = σ.cc
  so : ∀ x ∈ σ.ns, τ.so x = σ.so x
  po : ∀ x ∈ σ.ns, τ.po x = σ.po x
  nilu : u ∉ σ.ns → τ.row u = []
  nilv : v ∉ σ.ns → τ.row v = []

theorem two (I : Inv P σ) (hu : u ∈ P) (hv : v ∈ P) (huv : u ≠ v) (hj : ¬ (u ∈ σ.rn ∧ v ∈ σ.row u)) : Two P σ (σ.both2 u v) u v := by
  have I' : Inv P (σ.both2 u v) := (I.node hu).node hv
  obtain ⟨p1, p2, p3, p4, p5, p6, p7⟩ := rows2_pic σ u v
  obtain ⟨a1, a2, a3, a4, a5, a6⟩ := addNode_bk (σ.rows2 u v) u
  obtain ⟨b1, b2, b3, b4, b5, b6⟩ := addNode_bk ((σ.rows2 u v).addNode u) v
  obtain ⟨n1, n2⟩ := rows2_nil I huv
  have e := both2_eq σ u v
  have hrow : (σ.both2 u v).row = (σ.rows2 u v).row := by rw [e, b2, a2]
  have hkeep : u ∈ σ.ns → (σ.both2 u v).row u = σ.row u := fun h => by
    rw [hrow]
    unfold Sg.rows2
    have : σ.addRow u = σ := by unfold Sg.addRow; rw [if_pos (I.rn ▸ h)]
    rw [this]
    unfold Sg.addRow
    split
    · rfl
    · exact fset_ne _ _ huv
  refine ⟨I', ?_, ?_, huv, fun h => ?_, hrow, by rw [e, b1, a1], by rw [e, b4, a4], by rw [e, b5, a5, p6], by rw [e, b6, a6, p7], fun x hx => ?_, fun x hx => ?_, fun h => by rw [hrow]; exact n1 h, fun h => by rw [hrow]; exact n2 h⟩
  · rw [e]; exact (an_so (an_mem _ _)).2.2
  · rw [e]; exact an_mem _ _
  · by_cases hm : u ∈ σ.ns
    · rw [hkeep hm] at h; exact hj ⟨I.rn ▸ hm, h⟩
    · rw [hrow, n1 hm] at h; cases h
  · have hx' : x ∈ (σ.rows2 u v).ns := by rw [p2]; exact hx
    obtain ⟨q1, q2, q3⟩ := an_so (u := u) hx'
    rw [e, (an_so q3).1, q1, p4]
  · have hx' : x ∈ (σ.rows2 u v).ns := by rw [p2]; exact hx
    obtain ⟨q1, q2, q3⟩ := an_so (u := u) hx'
    rw [e, (an_so q3).2.1, q2, p5]

theorem addEdge_two (T : Two P σ (σ.both2 u v) u v) (c d : Int) : (σ.rows2 u v).addEdge u v c d = (σ.both2 u v).addEdge u v c d := by
  rw [addEdge_in T.mu T.mv, both2_eq]; rfl
theorem put_two {a b : Int} (I : Inv P σ) (T : Two P σ (σ.both2 u v) u v) : (σ.rows2 u v).put u v a b = (σ.both2 u v).put u v a b := by
  obtain ⟨p1, p2, p3, p4, p5, p6, p7⟩ := rows2_pic σ u v
  have er := T.row.symm
  unfold Sg.put
  rw [er]
  by_cases h : (σ.both2 u v).row u = []
  · rw [if_pos h, if_pos h, addEdge_two T]
  · rw [if_neg h, if_neg h]
    have hm : u ∈ σ.ns := Decidable.byContradiction fun z => h (T.nilu z)
    have e1 : (σ.rows2 u v).refOf u b = (σ.both2 u v).refOf u b := by unfold Sg.refOf; rw [er]
    have e2 : (σ.rows2 u v).lastOf u = (σ.both2 u v).lastOf u := by unfold Sg.lastOf; rw [p4, T.so u hm]
    have e3 : (σ.rows2 u v).cc = (σ.both2 u v).cc := by rw [p7, T.cc]
    have e4 : (σ.rows2 u v).cw = (σ.both2 u v).cw := by rw [p6, T.cw]
    have e5 : ∀ v' r c l, v' = v → (σ.rows2 u v).heCw u v' r c l = (σ.both2 u v).heCw u v' r c l := fun v' r c l z => by subst z; unfold Sg.heCw; rw [addEdge_two T]
    have e6 : ∀ v' r c l, v' = v → (σ.rows2 u v).heCcw u v' r c l = (σ.both2 u v).heCcw u v' r c l := fun v' r c l z => by subst z; unfold Sg.heCcw; rw [addEdge_two T]
    rw [e1, e2, e3, e4]
    dsimp only
    rw [e5 _ _ _ _ rfl, e6 _ _ _ _ rfl]
theorem first_two (I : Inv P σ) (T : Two P σ (σ.both2 u v) u v) : (σ.rows2 u v).first u v = (σ.both2 u v).first u v := by
  obtain ⟨p1, p2, p3, p4, p5, p6, p7⟩ := rows2_pic σ u v
  have e1 : (σ.rows2 u v).lst u = (σ.both2 u v).lst u := by
    unfold Sg.lst
    rw [p2, p4, if_pos T.mu]
    by_cases h : u ∈ σ.ns
    · rw [if_pos h, T.so u h]
    · rw [if_neg h, ((T.inv.go u T.mu).nil.mp (T.nilu h))]; rfl
  unfold Sg.first
  rw [e1]
  cases (σ.both2 u v).lst u with
  | none => exact addEdge_two T _ _
  | some l =>
    show (σ.rows2 u v).heCw u v l ((σ.rows2 u v).cc u l) l = (σ.both2 u v).heCw u v l ((σ.both2 u v).cc u l) l
    rw [show (σ.rows2 u v).cc = (σ.both2 u v).cc by rw [p7, T.cc]]
    unfold Sg.heCw
    rw [addEdge_two T]

theorem Half.al (I : Inv P σ) (A : Half σ τ u v) : τ.Al := ⟨by rw [A.nn, A.ns]; exact I.nn, by rw [A.np, A.ns]; exact I.np⟩
theorem Half.Sm (hP : P.length = 5) (I : Inv P σ) (hu : u ∈ σ.ns) (A : Half σ τ u v) : τ.Sm := by
  have S := I.Sm hP
  refine ⟨by rw [A.nn]; exact S.nn, by rw [A.ns]; exact S.ns, by rw [A.np]; exact S.np, fun x => ?_, fun x => ?_⟩
  · by_cases z : x = u
    · subst z
      have := I.row4 hP hu
      rw [A.good.ps.length_eq, A.perm.length_eq, List.length_cons]; omega
    · rw [A.so x z]; exact S.so x
  · rw [A.po]
    by_cases z : x = v
    · subst z
      rw [fset_self, List.length_append]
      have := (I.sm x).2
      simp only [List.length_cons, List.length_nil]; omega
    · rw [fset_ne _ _ z]; exact S.po x
/-- what holds behind the first half, seen from the other side -/
theorem Half.other (hP : P.length = 5) (I : Inv P σ) (hu : u ∈ σ.ns) (hv : v ∈ σ.ns) (huv : u ≠ v) (h : v ∉ σ.row u) (A : Half σ τ u v) :
    GoodO (τ.row v) (τ.so v) (τ.cw v) (τ.cc v) (τ.kw v) ∧ v ∈ τ.ns ∧ u ∈ τ.ns ∧ u ∉ τ.row v ∧ v ∉ τ.po u ∧ (τ.row v).length ≤ 3 ∧ v ∈ τ.rn := by
  have hvu := Ne.symm huv
  have h' : u ∉ σ.row v := fun z => h (I.sym v hv u z).2
  refine ⟨?_, A.ns ▸ hv, A.ns ▸ hu, ?_, ?_, ?_, ?_⟩
  · rw [A.row v hvu, A.so v hvu, A.cw v hvu, A.cc v hvu, A.kw v hvu]; exact I.go v hv
  · rw [A.row v hvu]; exact h'
  · rw [A.po, fset_ne _ _ huv]; exact fun z => h ((I.po u hu).mem_iff.mp z)
  · rw [A.row v hvu]; exact I.row3 hP hv hu hvu h'
  · rw [A.rn, I.rn]; exact hv

/-- two half edges, each beside a neighbour -/
theorem pair_put {a b c d : Int} (hP : P.length = 5) (I : Inv P σ) (hu : u ∈ P) (hv : v ∈ P) (huv : u ≠ v) (hj : ¬ (u ∈ σ.rn ∧ v ∈ σ.row u)) :
    (σ.rows2 u v).CanPut u v ∧ (σ.rows2 u v).Al ∧ (σ.rows2 u v).Sm ∧ (σ.rows2 u v).rn.length ≤ 900 ∧
    ((σ.rows2 u v).put u v a b).CanPut v u ∧ ((σ.rows2 u v).put u v a b).Al ∧ ((σ.rows2 u v).put u v a b).Sm ∧ ((σ.rows2 u v).put u v a b).rn.length ≤ 900 ∧ Inv P (((σ.rows2 u v).put u v a b).put v u c d) := by
  have T := two I hu hv huv hj
  obtain ⟨p1, p2, p3, p4, p5, p6, p7⟩ := rows2_pic σ u v
  have S := I.Sm hP
  have G := T.inv.go u T.mu
  have hz := T.inv.row3 hP T.mu T.mv huv T.nj
  have hpu : u ∉ (σ.both2 u v).po v := fun z => T.nj (T.inv.sym v T.mv u ((T.inv.po v T.mv).mem_iff.mp z)).2
  have A : Half (σ.both2 u v) ((σ.both2 u v).put u v a b) u v := hv_put G T.mu T.mv T.nj hz
  obtain ⟨o1, o2, o3, o4, o5, o6, o7⟩ := A.other hP T.inv T.mu T.mv huv T.nj
  have CP := can_put G T.mu (by rw [T.inv.rn]; exact T.mu) huv T.nj hpu hz
  have hlen := T.inv.len hP
  have hrl : (σ.rows2 u v).rn.length ≤ 900 := by rw [← T.rn, T.inv.rn]; omega
  refine ⟨?_, ⟨by rw [p1, p2]; exact I.nn, by rw [p3, p2]; exact I.np⟩, ⟨by rw [p1]; exact S.nn, by rw [p2]; exact S.ns, by rw [p3]; exact S.np, by rw [p4]; exact S.so, by rw [p5]; exact S.po⟩, hrl, ?_⟩
  · refine ⟨⟨huv, fun h => ?_, fun h => ?_⟩, by rw [← T.rn]; exact CP.rn, by rw [← T.row]; exact CP.len, fun h hm => ?_, fun h => ?_⟩
    · rw [p2] at h; rw [p4, ← T.so u h]; exact CP.free.so T.mu
    · rw [p2] at h; rw [p5, ← T.po v h]; exact hpu
    · rw [p2] at hm; rw [p4, ← T.so u hm]; exact CP.nil (by rw [T.row]; exact h) T.mu
    · rw [← T.row] at h ⊢
      have hm : u ∈ σ.ns := Decidable.byContradiction fun z => h (T.nilu z)
      obtain ⟨c1, c2, c3⟩ := CP.more h
      have e2 : (σ.rows2 u v).lastOf u = (σ.both2 u v).lastOf u := by unfold Sg.lastOf; rw [p4, T.so u hm]
      refine ⟨by rw [p2]; exact hm, by rw [e2, p4, ← T.so u hm]; exact c2, fun r hr => ?_⟩
      rw [p4, p6, p7, ← T.so u hm, ← T.cw, ← T.cc]; exact c3 r hr
  · rw [put_two I T]
    refine ⟨can_put o1 o2 o7 (Ne.symm huv) o4 o5 o6, A.al T.inv, A.Sm hP T.inv T.mu, by rw [A.rn, T.inv.rn]; omega, ?_⟩
    exact hv_hv hP T.inv T.mu T.mv huv T.nj A (hv_put o1 o2 o3 o4 o6)

theorem first_row {τ : Sg} {a b : Int} (ha : a ∈ τ.ns) (hb : b ∈ τ.ns) (R : Int → List Int) : ({ τ with row := R } : Sg).first a b = { τ.first a b with row := R } := by
  have e : ∀ c d, ({ τ with row := R } : Sg).addEdge a b c d = { τ.addEdge a b c d with row := R } := fun c d => by rw [addEdge_in ha hb, addEdge_in (σ := { τ with row := R }) ha hb]; rfl
  unfold Sg.first
  show (match τ.lst a with | none => ({ τ with row := R } : Sg).addEdge a b b b | some l => ({ τ with row := R } : Sg).heCw a b l (τ.cc a l) l) = _
  cases τ.lst a with
  | none => exact e _ _
  | some l =>
    show ({ τ with row := R } : Sg).heCw a b l (τ.cc a l) l = { τ.heCw a b l (τ.cc a l) l with row := R }
    unfold Sg.heCw
    rw [e]
    unfold Sg.half
    dsimp only
    split <;> rfl

theorem Sm_row {X : Sg} {R : Int → List Int} (h : ({ X with row := R } : Sg).Sm) : X.Sm := ⟨h.nn, h.ns, h.np, h.so, h.po⟩
theorem Al_row {X : Sg} {R : Int → List Int} (h : ({ X with row := R } : Sg).Al) : X.Al := ⟨h.nn, h.np⟩
theorem Free_row {X : Sg} {R : Int → List Int} {a b : Int} (h : ({ X with row := R } : Sg).Free a b) : X.Free a b := ⟨h.ne, h.so, h.po⟩
theorem lst_row {X : Sg} {R : Int → List Int} {a : Int} (h : ∀ l, ({ X with row := R } : Sg).lst a = some l → ({ X with row := R } : Sg).cc a l ∈ ({ X with row := R } : Sg).so a) : ∀ l, X.lst a = some l → X.cc a l ∈ X.so a := h
theorem pair_first' {X : Sg} (hP : P.length = 5) (I : Inv P σ) (mu : u ∈ σ.ns) (mv : v ∈ σ.ns) (huv : u ≠ v) (nj : v ∉ σ.row u) (A : Half σ { X with row := fset σ.row u (v :: σ.row u) } u v) (kv : σ.kw v = true) :
    X.Free v u ∧ (∀ l, X.lst v = some l → X.cc v l ∈ X.so v) ∧ X.Al ∧ X.Sm ∧ Inv P { X.first v u with row := fset (fset σ.row u (v :: σ.row u)) v (u :: σ.row v) } := by
  obtain ⟨o1, o2, o3, o4, o5, o6, o7⟩ := A.other hP I mu mv huv nj
  have kv' : ({ X with row := fset σ.row u (v :: σ.row u) } : Sg).kw v = true := by rw [A.kw v (Ne.symm huv)]; exact kv
  have B := hv_first o1 kv' o2 o3 o4 o6
  have e2 : (fset σ.row u (v :: σ.row u)) v = σ.row v := fset_ne _ _ (Ne.symm huv)
  refine ⟨Free_row (R := fset σ.row u (v :: σ.row u)) ⟨Ne.symm huv, fun _ z => o4 (o1.ps.mem_iff.mp z), fun _ => o5⟩, lst_row (R := fset σ.row u (v :: σ.row u)) fun l hl => first_c o1 (by omega) l hl, Al_row (A.al I), Sm_row (A.Sm hP I mu), ?_⟩
  have := hv_hv hP I mu mv huv nj A B
  rw [first_row (τ := X) (R := fset σ.row u (v :: σ.row u)) o2 o3] at this
  rw [← e2]
  exact this
/-- two half edges, each ahead of all -/
theorem pair_first (hP : P.length = 5) (I : Inv P σ) (hu : u ∈ P) (hv : v ∈ P) (huv : u ≠ v) (hj : ¬ (u ∈ σ.rn ∧ v ∈ σ.row u)) (ku : (σ.rows2 u v).kw u = true) (kv : (σ.rows2 u v).kw v = true) :
    (σ.rows2 u v).Free u v ∧ (∀ l, (σ.rows2 u v).lst u = some l → (σ.rows2 u v).cc u l ∈ (σ.rows2 u v).so u) ∧ (σ.rows2 u v).Al ∧ (σ.rows2 u v).Sm ∧
    ((σ.rows2 u v).first u v).Free v u ∧ (∀ l, ((σ.rows2 u v).first u v).lst v = some l → ((σ.rows2 u v).first u v).cc v l ∈ ((σ.rows2 u v).first u v).so v) ∧ ((σ.rows2 u v).first u v).Al ∧ ((σ.rows2 u v).first u v).Sm ∧
    Inv P { ((σ.rows2 u v).first u v).first v u with row := fset (fset (σ.rows2 u v).row u (v :: (σ.rows2 u v).row u)) v (u :: (σ.rows2 u v).row v) } ∧ (∀ x, ((σ.rows2 u v).row x).length ≤ 900 ∨ x ≠ u ∧ x ≠ v) := by
  have T := two I hu hv huv hj
  obtain ⟨p1, p2, p3, p4, p5, p6, p7⟩ := rows2_pic σ u v
  have S := I.Sm hP
  have G := T.inv.go u T.mu
  have hz := T.inv.row3 hP T.mu T.mv huv T.nj
  have hz' := T.inv.row4 hP T.mv
  have hpu : u ∉ (σ.both2 u v).po v := fun z => T.nj (T.inv.sym v T.mv u ((T.inv.po v T.mv).mem_iff.mp z)).2
  have A : Half (σ.both2 u v) { (σ.both2 u v).first u v with row := fset (σ.both2 u v).row u (v :: (σ.both2 u v).row u) } u v := hv_first G (by rw [T.kw]; exact ku) T.mu T.mv T.nj hz
  have e := first_two I T
  have kv' : (σ.both2 u v).kw v = true := by rw [T.kw]; exact kv
  obtain ⟨f1, f2, f3, f4, f5⟩ := pair_first' hP T.inv T.mu T.mv huv T.nj A kv'
  clear A
  refine ⟨⟨huv, fun h => ?_, fun h => ?_⟩, fun l hl => ?_, ⟨by rw [p1, p2]; exact I.nn, by rw [p3, p2]; exact I.np⟩, ⟨by rw [p1]; exact S.nn, by rw [p2]; exact S.ns, by rw [p3]; exact S.np, by rw [p4]; exact S.so, by rw [p5]; exact S.po⟩, ?_⟩
  · rw [p2] at h; rw [p4, ← T.so u h]; exact fun z => T.nj (G.ps.mem_iff.mp z)
  · rw [p2] at h; rw [p5, ← T.po v h]; exact hpu
  · have hm : u ∈ σ.ns := by
      unfold Sg.lst at hl
      split at hl
      · rw [p2] at *; assumption
      · cases hl
    rw [p4, p7, ← T.so u hm, ← T.cc]
    refine first_c G (by omega) l ?_
    unfold Sg.lst at hl ⊢
    rw [p2, if_pos hm, p4, ← T.so u hm] at hl
    rw [if_pos T.mu]; exact hl
  · rw [e]
    refine ⟨f1, f2, f3, f4, by rw [← T.row]; exact f5, fun x => ?_⟩
    rw [← T.row]
    by_cases z : x = u
    · subst z; left; omega
    · by_cases z' : x = v
      · subst z'; left; omega
      · exact .inr ⟨z, z'⟩
end
end Mine

end

section
open PySem PySem.W PyProof.Rows PySem.Calls
set_option Elab.async false
set_option maxRecDepth 100000
set_option linter.unusedVariables false
namespace Mine

/-- how τ stands to σ at x, where the neighbour o is taken away -/
structure ViewR (σ τ : Sg) (x : Int) (o : Option Int) : Prop where
  row : τ.row x = match o with | none => σ.row x | some y => (σ.row x).erase y
  so : τ.so x = match o with | none => σ.so x | some y => (σ.so x).filter (· ≠ y)
  po : τ.po x = match o with | none => σ.po x | some y => (σ.po x).filter (· ≠ y)
  cw : τ.cw x = match o with | none => σ.cw x | some y => if y ≠ σ.cw x y then fset (σ.cw x) (σ.cc x y) (σ.cw x y) else σ.cw x
  cc : τ.cc x = match o with | none => σ.cc x | some y => if y ≠ σ.cw x y then fset (σ.cc x) (σ.cw x y) (σ.cc x y) else σ.cc x
  kw : τ.kw x = match o with | none => σ.kw x | some y => if (σ.row x).erase y = [] then true else if (σ.row x).getD 0 0 = y then false else σ.kw x

theorem ViewR.one {σ τ : Sg} {x y : Int} (h1 : τ.row x = (σ.row x).erase y) (h2 : τ.so x = (σ.so x).filter (· ≠ y)) (h3 : τ.po x = (σ.po x).filter (· ≠ y))
    (h4 : τ.cw x = if y ≠ σ.cw x y then fset (σ.cw x) (σ.cc x y) (σ.cw x y) else σ.cw x) (h5 : τ.cc x = if y ≠ σ.cw x y then fset (σ.cc x) (σ.cw x y) (σ.cc x y) else σ.cc x)
    (h6 : τ.kw x = if (σ.row x).erase y = [] then true else if (σ.row x).getD 0 0 = y then false else σ.kw x) : ViewR σ τ x (some y) := ⟨h1, h2, h3, h4, h5, h6⟩
theorem ViewR.zero {σ τ : Sg} {x : Int} (h1 : τ.row x = σ.row x) (h2 : τ.so x = σ.so x) (h3 : τ.po x = σ.po x) (h4 : τ.cw x = σ.cw x) (h5 : τ.cc x = σ.cc x) (h6 : τ.kw x = σ.kw x) : ViewR σ τ x none := ⟨h1, h2, h3, h4, h5, h6⟩

section
variable {P : List Int} {σ τ τ' : Sg} {u v x n : Int}

theorem filter_erase {l : List Int} (nd : l.Nodup) (v : Int) : l.filter (· ≠ v) = l.erase v := by
  rw [nd.erase_eq_filter]; congr 1; funext x; simp [bne, BEq.beq]
theorem mem_erase_iff {l : List Int} (nd : l.Nodup) {v y : Int} : y ∈ l.erase v ↔ y ∈ l ∧ y ≠ v := by
  rw [nd.mem_erase_iff]; exact And.comm

theorem rmd_inv (hP : P.length = 5) (I : Inv P σ) (rm : Int → Option Int) (nn : τ.nn = τ.ns) (np : τ.np = τ.ns) (rn : τ.rn = τ.ns) (kn : τ.kn = τ.ns) (nd : τ.ns.Nodup) (sub : ∀ x ∈ τ.ns, x ∈ σ.ns)
    (vw : ∀ x ∈ τ.ns, ViewR σ τ x (rm x)) (h1 : ∀ x ∈ τ.ns, ∀ y, rm x = some y → y ∈ σ.row x) (h2 : ∀ x ∈ τ.ns, ∀ y ∈ σ.row x, rm x ≠ some y → y ∈ τ.ns ∧ rm y ≠ some x) (sm : ∀ x, (τ.so x).length ≤ 9 ∧ (τ.po x).length ≤ 9) : Inv P τ := by
  have mem : ∀ x ∈ τ.ns, ∀ y, y ∈ τ.row x ↔ y ∈ σ.row x ∧ rm x ≠ some y := by
    intro x hx y
    have V := vw x hx
    cases hr : rm x with
    | none => rw [hr] at V; rw [V.row]; simp
    | some z =>
      rw [hr] at V; rw [V.row]
      show y ∈ (σ.row x).erase z ↔ _
      rw [mem_erase_iff (I.go x (sub x hx)).nd]
      simp [eq_comm]
  refine ⟨nn, np, rn, kn, nd, fun x hx => I.sub x (sub x hx), fun x hx => ?_, fun x hx => ?_, fun x hx hm => I.ne x (sub x hx) ((mem x hx x).mp hm).1, fun x hx y hy => ?_, sm⟩
  · have V := vw x hx
    have G := I.go x (sub x hx)
    cases hr : rm x with
    | none => rw [hr] at V; rw [V.row, V.so, V.cw, V.cc, V.kw]; exact G
    | some z =>
      rw [hr] at V; rw [V.row, V.so, V.cw, V.cc, V.kw]
      exact G.rem (I.row4 hP (sub x hx)) (h1 x hx z hr)
  · have V := vw x hx
    have G := I.go x (sub x hx)
    have p := I.po x (sub x hx)
    cases hr : rm x with
    | none => rw [hr] at V; rw [V.row, V.po]; exact p
    | some z =>
      rw [hr] at V; rw [V.row, V.po]
      show ((σ.po x).filter (· ≠ z)).Perm ((σ.row x).erase z)
      rw [filter_erase (p.nodup_iff.mpr G.nd)]
      exact p.erase z
  · obtain ⟨q1, q2⟩ := (mem x hx y).mp hy
    obtain ⟨q3, q4⟩ := h2 x hx y q1 q2
    exact ⟨q3, (mem y q3 x).mpr ⟨(I.sym x (sub x hx) y q1).2, q4⟩⟩

theorem close_cw (σ : Sg) (u v c d : Int) : (σ.close u v c d).cw = if v ≠ c then fset2 σ.cw u d c else σ.cw := by
  unfold Sg.close
  by_cases h : v = c
  · simp [h]
  · have : (v != c) = true := by simpa using h
    rw [if_pos this, if_pos h]
theorem close_cc (σ : Sg) (u v c d : Int) : (σ.close u v c d).cc = if v ≠ c then fset2 σ.cc u c d else σ.cc := by
  unfold Sg.close
  by_cases h : v = c
  · simp [h]
  · have : (v != c) = true := by simpa using h
    rw [if_pos this, if_pos h]
theorem close_rest (σ : Sg) (u v c d : Int) : (σ.close u v c d).nn = σ.nn ∧ (σ.close u v c d).ns = σ.ns ∧ (σ.close u v c d).np = σ.np ∧ (σ.close u v c d).so = σ.so ∧ (σ.close u v c d).po = σ.po ∧ (σ.close u v c d).rn = σ.rn ∧ (σ.close u v c d).row = σ.row ∧ (σ.close u v c d).kn = σ.kn ∧ (σ.close u v c d).kw = σ.kw := by
  unfold Sg.close; split <;> exact ⟨rfl, rfl, rfl, rfl, rfl, rfl, rfl, rfl, rfl⟩

/-- the picture's part of taking an edge away -/
theorem remEdge_f (σ : Sg) (huv : u ≠ v) : (σ.remEdge u v).nn = σ.nn ∧ (σ.remEdge u v).ns = σ.ns ∧ (σ.remEdge u v).np = σ.np ∧ SameB σ (σ.remEdge u v) ∧
    (∀ x, (σ.remEdge u v).so x = if x = u then (σ.so u).filter (· ≠ v) else if x = v then (σ.so v).filter (· ≠ u) else σ.so x) ∧
    (∀ x, (σ.remEdge u v).po x = if x = u then (σ.po u).filter (· ≠ v) else if x = v then (σ.po v).filter (· ≠ u) else σ.po x) ∧
    (∀ x, (σ.remEdge u v).cw x = if x = u then (if v ≠ σ.cw u v then fset (σ.cw u) (σ.cc u v) (σ.cw u v) else σ.cw u) else if x = v then (if u ≠ σ.cw v u then fset (σ.cw v) (σ.cc v u) (σ.cw v u) else σ.cw v) else σ.cw x) ∧
    (∀ x, (σ.remEdge u v).cc x = if x = u then (if v ≠ σ.cw u v then fset (σ.cc u) (σ.cw u v) (σ.cc u v) else σ.cc u) else if x = v then (if u ≠ σ.cw v u then fset (σ.cc v) (σ.cw v u) (σ.cc v u) else σ.cc v) else σ.cc x) := by
  have hvu := Ne.symm huv
  unfold Sg.remEdge
  obtain ⟨a1, a2, a3, a4, a5, a6, a7, a8, a9⟩ := close_rest ((σ.cutEdge u v).close u v (σ.cw u v) (σ.cc u v)) v u (σ.cw v u) (σ.cc v u)
  obtain ⟨b1, b2, b3, b4, b5, b6, b7, b8, b9⟩ := close_rest (σ.cutEdge u v) u v (σ.cw u v) (σ.cc u v)
  refine ⟨a1.trans b1, a2.trans b2, a3.trans b3, ⟨a6.trans b6, a7.trans b7, a8.trans b8, a9.trans b9⟩, fun x => ?_, fun x => ?_, fun x => ?_, fun x => ?_⟩
  · rw [a4, b4]
    show fset (fset σ.so u _) v _ x = _
    by_cases h1 : x = u
    · subst h1; rw [fset_ne _ _ huv, fset_self, if_pos rfl]
    · by_cases h2 : x = v
      · subst h2; rw [fset_self, if_neg h1, if_pos rfl]
      · rw [fset_ne _ _ h2, fset_ne _ _ h1, if_neg h1, if_neg h2]
  · rw [a5, b5]
    show fset (fset σ.po v _) u _ x = _
    by_cases h1 : x = u
    · subst h1; rw [fset_self, if_pos rfl]
    · by_cases h2 : x = v
      · subst h2; rw [fset_ne _ _ h1, fset_self, if_neg h1, if_pos rfl]
      · rw [fset_ne _ _ h1, fset_ne _ _ h2, if_neg h1, if_neg h2]
  · rw [close_cw, close_cw]
    show (if u ≠ σ.cw v u then fset2 (if v ≠ σ.cw u v then fset2 σ.cw u _ _ else σ.cw) v _ _ else (if v ≠ σ.cw u v then fset2 σ.cw u _ _ else σ.cw)) x = _
    by_cases h1 : x = u
    · subst h1; rw [if_pos rfl]; split <;> split <;> simp [fset2_at, fset2_off, huv]
    · by_cases h2 : x = v
      · subst h2; rw [if_neg h1, if_pos rfl]; split <;> split <;> simp [fset2_at, fset2_off, hvu]
      · rw [if_neg h1, if_neg h2]; split <;> split <;> simp [fset2_off, h1, h2]
  · rw [close_cc, close_cc]
    show (if u ≠ σ.cw v u then fset2 (if v ≠ σ.cw u v then fset2 σ.cc u _ _ else σ.cc) v _ _ else (if v ≠ σ.cw u v then fset2 σ.cc u _ _ else σ.cc)) x = _
    by_cases h1 : x = u
    · subst h1; rw [if_pos rfl]; split <;> split <;> simp [fset2_at, fset2_off, huv]
    · by_cases h2 : x = v
      · subst h2; rw [if_neg h1, if_pos rfl]; split <;> split <;> simp [fset2_at, fset2_off, hvu]
      · rw [if_neg h1, if_neg h2]; split <;> split <;> simp [fset2_off, h1, h2]

theorem joined_of (hP : P.length = 5) (I : Inv P σ) (hu : u ∈ σ.ns) (h : v ∈ σ.row u) : σ.Joined u v := by
  obtain ⟨hv, h'⟩ := I.sym u hu v h
  have huv : u ≠ v := fun z => I.ne u hu (by rw [← z] at h; exact h)
  have G := I.go u hu
  have G' := I.go v hv
  refine ⟨huv, hu, hv, G.ps.mem_iff.mpr h, G'.ps.mem_iff.mpr h', (I.po v hv).mem_iff.mpr h', (I.po u hu).mem_iff.mpr h, fun hc => ?_, fun hc => ?_⟩
  · obtain ⟨q1, q2⟩ := (cyc_rem (I.row4 hP hu) G.nd h G.cyc).2 hc
    simp only [List.mem_filter] at q1 q2 ⊢
    exact ⟨⟨G.ps.mem_iff.mpr q1.1, q1.2⟩, ⟨G.ps.mem_iff.mpr q2.1, q2.2⟩⟩
  · obtain ⟨q1, q2⟩ := (cyc_rem (I.row4 hP hv) G'.nd h' G'.cyc).2 hc
    simp only [List.mem_filter] at q1 q2 ⊢
    exact ⟨⟨G'.ps.mem_iff.mpr q1.1, q1.2⟩, ⟨G'.ps.mem_iff.mpr q2.1, q2.2⟩⟩

/-- an edge is taken away, from the picture and from both rows -/
theorem inv_cut (hP : P.length = 5) (I : Inv P σ) (hu : u ∈ σ.ns) (h : v ∈ σ.row u) :
    Inv P (((σ.remEdge u v).cutRow u v).cutRow v u) ∧ u ∈ (σ.remEdge u v).rn ∧ u ∈ (σ.remEdge u v).kn ∧ v ∈ (σ.remEdge u v).row u ∧ ((σ.remEdge u v).row u).length ≤ 900 ∧ (σ.remEdge u v).kn.length ≤ 900 ∧
    v ∈ ((σ.remEdge u v).cutRow u v).rn ∧ v ∈ ((σ.remEdge u v).cutRow u v).kn ∧ u ∈ ((σ.remEdge u v).cutRow u v).row v ∧ (((σ.remEdge u v).cutRow u v).row v).length ≤ 900 ∧ ((σ.remEdge u v).cutRow u v).kn.length ≤ 900 := by
  have J := joined_of hP I hu h
  have huv := J.ne
  have hvu := Ne.symm huv
  obtain ⟨hv, h'⟩ := I.sym u hu v h
  obtain ⟨e1, e2, e3, ⟨e4, e5, e6, e7⟩, e8, e9, e10, e11⟩ := remEdge_f σ huv
  have hlen := I.len hP
  have z4 := I.row4 hP hu
  have z4' := I.row4 hP hv
  have r1 : ((σ.remEdge u v).cutRow u v).row v = σ.row v := by
    show fset (σ.remEdge u v).row u _ v = _
    rw [fset_ne _ _ hvu, e5]
  refine ⟨?_, by rw [e4, I.rn]; exact hu, by rw [e6, I.kn]; exact hu, by rw [e5]; exact h, by rw [e5]; omega, by rw [e6, I.kn]; omega, by show v ∈ (σ.remEdge u v).rn; rw [e4, I.rn]; exact hv, by show v ∈ (σ.remEdge u v).kn; rw [e6, I.kn]; exact hv, by rw [r1]; exact h', by rw [r1]; omega, by show (σ.remEdge u v).kn.length ≤ 900; rw [e6, I.kn]; omega⟩
  have rx : ∀ x, (((σ.remEdge u v).cutRow u v).cutRow v u).row x = if x = u then (σ.row u).erase v else if x = v then (σ.row v).erase u else σ.row x := by
    intro x
    show fset ((σ.remEdge u v).cutRow u v).row v ((((σ.remEdge u v).cutRow u v).row v).erase u) x = _
    rw [r1]
    by_cases h1 : x = u
    · subst h1
      rw [fset_ne _ _ huv, if_pos rfl]
      show fset (σ.remEdge x v).row x (((σ.remEdge x v).row x).erase v) x = _
      rw [fset_self, e5]
    · by_cases h2 : x = v
      · subst h2; rw [fset_self, if_neg h1, if_pos rfl]
      · rw [fset_ne _ _ h2, if_neg h1, if_neg h2]
        show fset (σ.remEdge u v).row u _ x = _
        rw [fset_ne _ _ h1, e5]
  have kx : ∀ x, (((σ.remEdge u v).cutRow u v).cutRow v u).kw x = if x = u then (if (σ.row u).erase v = [] then true else if (σ.row u).getD 0 0 = v then false else σ.kw u) else if x = v then (if (σ.row v).erase u = [] then true else if (σ.row v).getD 0 0 = u then false else σ.kw v) else σ.kw x := by
    intro x
    show fset ((σ.remEdge u v).cutRow u v).kw v (((σ.remEdge u v).cutRow u v).cutKn v u) x = _
    by_cases h1 : x = u
    · subst h1
      rw [fset_ne _ _ huv, if_pos rfl]
      show fset (σ.remEdge x v).kw x ((σ.remEdge x v).cutKn x v) x = _
      rw [fset_self]
      unfold Sg.cutKn
      rw [e5, e7]
    · by_cases h2 : x = v
      · subst h2
        rw [fset_self, if_neg h1, if_pos rfl]
        unfold Sg.cutKn
        rw [r1, show ((σ.remEdge u x).cutRow u x).kw x = σ.kw x by show fset (σ.remEdge u x).kw u _ x = _; rw [fset_ne _ _ h1, e7]]
      · rw [fset_ne _ _ h2, if_neg h1, if_neg h2]
        show fset (σ.remEdge u v).kw u _ x = _
        rw [fset_ne _ _ h1, e7]
  have w1 : (((σ.remEdge u v).cutRow u v).cutRow v u).nn = σ.nn := e1
  have w2 : (((σ.remEdge u v).cutRow u v).cutRow v u).ns = σ.ns := e2
  have w3 : (((σ.remEdge u v).cutRow u v).cutRow v u).np = σ.np := e3
  have w4 : (((σ.remEdge u v).cutRow u v).cutRow v u).rn = σ.rn := e4
  have w5 : (((σ.remEdge u v).cutRow u v).cutRow v u).kn = σ.kn := e6
  have w6 : ∀ x, (((σ.remEdge u v).cutRow u v).cutRow v u).so x = _ := e8
  have w7 : ∀ x, (((σ.remEdge u v).cutRow u v).cutRow v u).po x = _ := e9
  have w8 : ∀ x, (((σ.remEdge u v).cutRow u v).cutRow v u).cw x = _ := e10
  have w9 : ∀ x, (((σ.remEdge u v).cutRow u v).cutRow v u).cc x = _ := e11
  clear e1 e2 e3 e4 e5 e6 e7 e8 e9 e10 e11 r1
  generalize ((σ.remEdge u v).cutRow u v).cutRow v u = τ at *
  refine rmd_inv hP I (fun x => if x = u then some v else if x = v then some u else none) (by rw [w1, w2, I.nn]) (by rw [w3, w2, I.np]) (by rw [w4, w2, I.rn]) (by rw [w5, w2, I.kn])
    (by rw [w2]; exact I.nd) (by rw [w2]; exact fun x hx => hx) ?_ ?_ ?_ ?_
  · intro x hx
    by_cases h1 : x = u
    · subst h1
      rw [if_pos rfl]
      exact .one ((rx x).trans (if_pos rfl)) ((w6 x).trans (if_pos rfl)) ((w7 x).trans (if_pos rfl)) ((w8 x).trans (if_pos rfl)) ((w9 x).trans (if_pos rfl)) ((kx x).trans (if_pos rfl))
    · by_cases h2 : x = v
      · subst h2
        rw [if_neg h1, if_pos rfl]
        exact .one ((rx x).trans ((if_neg h1).trans (if_pos rfl))) ((w6 x).trans ((if_neg h1).trans (if_pos rfl))) ((w7 x).trans ((if_neg h1).trans (if_pos rfl))) ((w8 x).trans ((if_neg h1).trans (if_pos rfl))) ((w9 x).trans ((if_neg h1).trans (if_pos rfl))) ((kx x).trans ((if_neg h1).trans (if_pos rfl)))
      · rw [if_neg h1, if_neg h2]
        exact .zero ((rx x).trans ((if_neg h1).trans (if_neg h2))) ((w6 x).trans ((if_neg h1).trans (if_neg h2))) ((w7 x).trans ((if_neg h1).trans (if_neg h2))) ((w8 x).trans ((if_neg h1).trans (if_neg h2))) ((w9 x).trans ((if_neg h1).trans (if_neg h2))) ((kx x).trans ((if_neg h1).trans (if_neg h2)))
  · intro x _ y hy
    by_cases h1 : x = u
    · subst h1; simp only [if_true, Option.some.injEq] at hy; rw [← hy]; exact h
    · by_cases h2 : x = v
      · subst h2; simp only [h1, if_true, if_false, Option.some.injEq] at hy; rw [← hy]; exact h'
      · simp only [h1, h2, if_false] at hy; cases hy
  · intro x hx y hy hne
    rw [w2] at hx ⊢
    refine ⟨(I.sym x hx y hy).1, fun hz => hne ?_⟩
    by_cases h1 : y = u
    · subst h1
      simp only [if_true, Option.some.injEq] at hz
      subst hz
      simp [hvu]
    · by_cases h2 : y = v
      · subst h2
        simp only [h1, if_true, if_false, Option.some.injEq] at hz
        subst hz
        simp
      · simp only [h1, h2, if_false] at hz; cases hz
  · intro x
    obtain ⟨s1, s2⟩ := I.sm x
    constructor
    · rw [w6]
      split
      · rename_i z; subst z; exact Nat.le_trans (List.length_filter_le ..) s1
      · split
        · rename_i z; subst z; exact Nat.le_trans (List.length_filter_le ..) s1
        · exact s1
    · rw [w7]
      split
      · rename_i z; subst z; exact Nat.le_trans (List.length_filter_le ..) s2
      · split
        · rename_i z; subst z; exact Nat.le_trans (List.length_filter_le ..) s2
        · exact s2
end
end Mine

end

section
open PySem PySem.W PyProof.Rows PySem.Calls
set_option Elab.async false
set_option maxRecDepth 100000
set_option linter.unusedVariables false
namespace Mine

/-- the same picture -/
structure SameP (σ τ : Sg) : Prop where
  nn : τ.nn = σ.nn
  ns : τ.ns = σ.ns
  np : τ.np = σ.np
  so : τ.so = σ.so
  po : τ.po = σ.po
  cw : τ.cw = σ.cw
  cc : τ.cc = σ.cc

section
variable {P : List Int} {σ τ τ' : Sg} {u v x n : Int}

theorem SameP.refl : SameP σ σ := ⟨rfl, rfl, rfl, rfl, rfl, rfl, rfl⟩
theorem SameP.symm (h : SameP σ τ) : SameP τ σ := ⟨h.nn.symm, h.ns.symm, h.np.symm, h.so.symm, h.po.symm, h.cw.symm, h.cc.symm⟩
theorem SameP.trans (h : SameP σ τ) (h' : SameP τ τ') : SameP σ τ' := ⟨h'.nn.trans h.nn, h'.ns.trans h.ns, h'.np.trans h.np, h'.so.trans h.so, h'.po.trans h.po, h'.cw.trans h.cw, h'.cc.trans h.cc⟩
theorem SameB.symm' (h : SameB σ τ) : SameB τ σ := ⟨h.rn.symm, h.row.symm, h.kn.symm, h.kw.symm⟩
theorem SameB.refl' : SameB σ σ := ⟨rfl, rfl, rfl, rfl⟩
theorem Inv.same (I : Inv P σ) (p : SameP σ τ) (b : SameB σ τ) : Inv P τ := by
  obtain ⟨p1, p2, p3, p4, p5, p6, p7⟩ := p
  obtain ⟨b1, b2, b3, b4⟩ := b
  refine ⟨by rw [p1, p2]; exact I.nn, by rw [p3, p2]; exact I.np, by rw [b1, p2]; exact I.rn, by rw [b3, p2]; exact I.kn, by rw [p2]; exact I.nd, by rw [p2]; exact I.sub, by rw [p2, b2, p4, p6, p7, b4]; exact I.go, by rw [p2, p5, b2]; exact I.po, by rw [p2, b2]; exact I.ne, by rw [p2, b2]; exact I.sym, by rw [p4, p5]; exact I.sm⟩

theorem unNode_f (σ : Sg) (n u : Int) : (σ.unNode n u).nn = σ.nn ∧ (σ.unNode n u).ns = σ.ns ∧ (σ.unNode n u).np = σ.np ∧ SameB σ (σ.unNode n u) ∧
    (σ.unNode n u).so = fset σ.so u ((σ.so u).filter (· ≠ n)) ∧ (σ.unNode n u).po = fset σ.po u ((σ.po u).filter (· ≠ n)) ∧
    (σ.unNode n u).cw = (if n ≠ σ.cw u n then fset2 σ.cw u (σ.cc u n) (σ.cw u n) else σ.cw) ∧ (σ.unNode n u).cc = (if n ≠ σ.cw u n then fset2 σ.cc u (σ.cw u n) (σ.cc u n) else σ.cc) := by
  unfold Sg.unNode
  obtain ⟨a1, a2, a3, a4, a5, a6, a7, a8, a9⟩ := close_rest (Sg.mk σ.nn σ.ns σ.np (fset σ.so u ((σ.so u).filter (· ≠ n))) (fset σ.po u ((σ.po u).filter (· ≠ n))) σ.cw σ.cc σ.rn σ.row σ.kn σ.kw σ.adj) u n (σ.cw u n) (σ.cc u n)
  exact ⟨a1, a2, a3, ⟨a6, a7, a8, a9⟩, a4, a5, close_cw .., close_cc ..⟩
theorem unNode_same (h : SameP σ τ) (n u : Int) : SameP (σ.unNode n u) (τ.unNode n u) := by
  obtain ⟨a1, a2, a3, _, a5, a6, a7, a8⟩ := unNode_f σ n u
  obtain ⟨b1, b2, b3, _, b5, b6, b7, b8⟩ := unNode_f τ n u
  obtain ⟨p1, p2, p3, p4, p5, p6, p7⟩ := h
  exact ⟨by rw [a1, b1, p1], by rw [a2, b2, p2], by rw [a3, b3, p3], by rw [a5, b5, p4], by rw [a6, b6, p5], by rw [a7, b7, p6, p7], by rw [a8, b8, p6, p7]⟩
theorem unNodes_same (n : Int) : ∀ (l : List Int) {σ τ : Sg}, SameP σ τ → SameP (σ.unNodes n l) (τ.unNodes n l)
  | [], _, _, h => h
  | u :: l, _, _, h => unNodes_same n l (unNode_same h n u)
theorem remNode_same (h : SameP σ τ) (n : Int) : SameP (σ.remNode n) (τ.remNode n) := by
  have := unNodes_same n (σ.po n) h
  unfold Sg.remNode
  dsimp only
  rw [h.po]
  exact ⟨congrArg (List.filter _) this.nn, congrArg (List.filter _) this.ns, congrArg (List.filter _) this.np, this.so, this.po, this.cw, this.cc⟩

/-- the picture behind the neighbours' turns -/
theorem unNodes_f (n : Int) : ∀ (l : List Int) (σ : Sg), l.Nodup → (σ.unNodes n l).nn = σ.nn ∧ (σ.unNodes n l).ns = σ.ns ∧ (σ.unNodes n l).np = σ.np ∧ SameB σ (σ.unNodes n l) ∧
    (∀ x ∈ l, (σ.unNodes n l).so x = (σ.so x).filter (· ≠ n) ∧ (σ.unNodes n l).po x = (σ.po x).filter (· ≠ n) ∧
      (σ.unNodes n l).cw x = (if n ≠ σ.cw x n then fset (σ.cw x) (σ.cc x n) (σ.cw x n) else σ.cw x) ∧ (σ.unNodes n l).cc x = (if n ≠ σ.cw x n then fset (σ.cc x) (σ.cw x n) (σ.cc x n) else σ.cc x)) ∧
    (∀ x, x ∉ l → (σ.unNodes n l).so x = σ.so x ∧ (σ.unNodes n l).po x = σ.po x ∧ (σ.unNodes n l).cw x = σ.cw x ∧ (σ.unNodes n l).cc x = σ.cc x)
  | [], σ, _ => ⟨rfl, rfl, rfl, SameB.refl', fun _ h => (nomatch h), fun _ _ => ⟨rfl, rfl, rfl, rfl⟩⟩
  | u :: l, σ, nd => by
    rw [List.nodup_cons] at nd
    obtain ⟨a1, a2, a3, a4, a5, a6, a7, a8⟩ := unNode_f σ n u
    obtain ⟨b1, b2, b3, b4, b5, b6⟩ := unNodes_f n l (σ.unNode n u) nd.2
    have e : σ.unNodes n (u :: l) = (σ.unNode n u).unNodes n l := rfl
    rw [e]
    have off : ∀ x, x ≠ u → (σ.unNode n u).so x = σ.so x ∧ (σ.unNode n u).po x = σ.po x ∧ (σ.unNode n u).cw x = σ.cw x ∧ (σ.unNode n u).cc x = σ.cc x := fun x hx => by
      rw [a5, a6, a7, a8]
      refine ⟨fset_ne _ _ hx, fset_ne _ _ hx, ?_, ?_⟩ <;> split <;> first | rfl | exact fset2_off _ hx
    refine ⟨b1.trans a1, b2.trans a2, b3.trans a3, a4.trans b4, fun x hx => ?_, fun x hx => ?_⟩
    · rcases List.mem_cons.mp hx with h1 | h1
      · subst h1
        obtain ⟨c1, c2, c3, c4⟩ := b6 x nd.1
        rw [c1, c2, c3, c4, a5, a6, a7, a8]
        refine ⟨fset_self .., fset_self .., ?_, ?_⟩ <;> split <;> first | rfl | exact fset2_at ..
      · have h2 : x ≠ u := fun z => nd.1 (z ▸ h1)
        obtain ⟨c1, c2, c3, c4⟩ := b5 x h1
        obtain ⟨d1, d2, d3, d4⟩ := off x h2
        rw [c1, c2, c3, c4, d1, d2, d3, d4]
        exact ⟨rfl, rfl, rfl, rfl⟩
    · simp only [List.mem_cons, not_or] at hx
      obtain ⟨c1, c2, c3, c4⟩ := b6 x hx.2
      obtain ⟨d1, d2, d3, d4⟩ := off x hx.1
      exact ⟨c1.trans d1, c2.trans d2, c3.trans d3, c4.trans d4⟩

/-- the books behind the neighbours' turns -/
theorem cutRows_f (n : Int) : ∀ (l : List Int) (σ : Sg), l.Nodup → SameP σ (σ.cutRows n l) ∧
    (∀ x ∈ l, (σ.cutRows n l).row x = (σ.row x).erase n ∧ (σ.cutRows n l).kw x = (if (σ.row x).erase n = [] then true else if (σ.row x).getD 0 0 = n then false else σ.kw x)) ∧
    (∀ x, x ∉ l → (σ.cutRows n l).row x = σ.row x ∧ (σ.cutRows n l).kw x = σ.kw x)
  | [], σ, _ => ⟨.refl, fun _ h => (nomatch h), fun _ _ => ⟨rfl, rfl⟩⟩
  | u :: l, σ, nd => by
    rw [List.nodup_cons] at nd
    obtain ⟨b1, b2, b3⟩ := cutRows_f n l (σ.cutRow u n) nd.2
    have e : σ.cutRows n (u :: l) = (σ.cutRow u n).cutRows n l := rfl
    rw [e]
    have off : ∀ x, x ≠ u → (σ.cutRow u n).row x = σ.row x ∧ (σ.cutRow u n).kw x = σ.kw x := fun x hx => ⟨fset_ne _ _ hx, fset_ne _ _ hx⟩
    refine ⟨SameP.trans (τ := σ.cutRow u n) ⟨rfl, rfl, rfl, rfl, rfl, rfl, rfl⟩ b1, fun x hx => ?_, fun x hx => ?_⟩
    · rcases List.mem_cons.mp hx with h1 | h1
      · subst h1
        obtain ⟨c1, c2⟩ := b3 x nd.1
        exact ⟨c1.trans (fset_self ..), c2.trans (fset_self ..)⟩
      · have h2 : x ≠ u := fun z => nd.1 (z ▸ h1)
        obtain ⟨c1, c2⟩ := b2 x h1
        obtain ⟨d1, d2⟩ := off x h2
        rw [c1, c2, d1, d2]
        exact ⟨rfl, rfl⟩
    · simp only [List.mem_cons, not_or] at hx
      obtain ⟨c1, c2⟩ := b3 x hx.2
      obtain ⟨d1, d2⟩ := off x hx.1
      exact ⟨c1.trans d1, c2.trans d2⟩
theorem cutRow_same (h : SameB σ τ) (u n : Int) : SameB (σ.cutRow u n) (τ.cutRow u n) := by
  obtain ⟨p1, p2, p3, p4⟩ := h
  refine ⟨p1, ?_, p3, ?_⟩
  · show fset τ.row u _ = fset σ.row u _; rw [p2]
  · show fset τ.kw u (τ.cutKn u n) = fset σ.kw u (σ.cutKn u n); unfold Sg.cutKn; rw [p4, p2]
theorem cutRows_same (n : Int) : ∀ (l : List Int) {σ τ : Sg}, SameB σ τ → SameB (σ.cutRows n l) (τ.cutRows n l)
  | [], _, _, h => h
  | u :: l, _, _, h => cutRows_same n l (cutRow_same h u n)
theorem leave_same (h : SameB σ τ) (n : Int) : SameB (σ.leave n) (τ.leave n) := by
  have := cutRows_same n (σ.row n) h
  unfold Sg.leave
  dsimp only
  rw [h.row]
  exact ⟨congrArg (List.filter _) this.rn, this.row, congrArg (List.filter _) this.kn, this.kw⟩

theorem Inv.pond (I : Inv P σ) (hn : n ∈ σ.ns) : (σ.po n).Nodup := (I.po n hn).nodup_iff.mpr (I.go n hn).nd
/-- the picture can give up a node -/
theorem can_rem (hP : P.length = 5) (I : Inv P τ) (e : SameP τ σ) (hn : n ∈ τ.ns) : σ.CanRem n := by
  have nd := I.pond hn
  rw [← e.po] at nd
  have hmem : ∀ u, u ∈ σ.po n ↔ u ∈ τ.row n := fun u => by rw [e.po]; exact (I.po n hn).mem_iff
  have hnn : n ∉ σ.po n := fun z => I.ne n hn ((hmem n).mp z)
  have S := I.Sm hP
  constructor
  · intro i _
    obtain ⟨a1, a2, a3, _, a5, a6⟩ := unNodes_f n ((σ.po n).take i) σ (nd.sublist (List.take_sublist ..))
    refine ⟨⟨by rw [a1, a2, e.nn, e.ns]; exact I.nn, by rw [a3, a2, e.np, e.ns]; exact I.np⟩, ⟨by rw [a1, e.nn]; exact S.nn, by rw [a2, e.ns]; exact S.ns, by rw [a3, e.np]; exact S.np, fun x => ?_, fun x => ?_⟩, a2, (a6 n fun z => hnn (List.mem_of_mem_take z)).2.1⟩
    · have := S.so x
      rw [← e.so] at this
      by_cases hx : x ∈ (σ.po n).take i
      · rw [(a5 x hx).1]; exact Nat.le_trans (List.length_filter_le ..) this
      · rw [(a6 x hx).1]; exact this
    · have := S.po x
      rw [← e.po] at this
      by_cases hx : x ∈ (σ.po n).take i
      · rw [(a5 x hx).2.1]; exact Nat.le_trans (List.length_filter_le ..) this
      · rw [(a6 x hx).2.1]; exact this
  · intro i u hu
    obtain ⟨a1, a2, a3, _, a5, a6⟩ := unNodes_f n ((σ.po n).take i) σ (nd.sublist (List.take_sublist ..))
    have hi := (List.getElem?_eq_some_iff.mp hu).1
    have hmu : u ∈ σ.po n := List.mem_of_getElem? hu
    have hnt : u ∉ (σ.po n).take i := fun z => by
      obtain ⟨j, hj, hz⟩ := List.mem_iff_getElem.mp z
      have hj' : j < i := by rw [List.length_take] at hj; omega
      rw [List.getElem_take] at hz
      have : (σ.po n)[j]? = some u := by rw [List.getElem?_eq_getElem (by omega), hz]
      have := (List.getElem?_inj (by omega) nd).mp (this.trans hu.symm)
      omega
    obtain ⟨c1, c2, c3, c4⟩ := a6 u hnt
    have hur := (hmem u).mp hmu
    obtain ⟨hu1, hu2⟩ := I.sym n hn u hur
    have G := I.go u hu1
    have hun : u ≠ n := fun z => I.ne n hn (z ▸ hur)
    refine ⟨hun, by rw [a2, e.ns]; exact hu1, by rw [c1, e.so]; exact G.ps.mem_iff.mpr hu2, by rw [c2, e.po]; exact (I.po u hu1).mem_iff.mpr hu2, ?_⟩
    rw [c1, c3, c4, e.so, e.cw, e.cc]
    intro hc
    obtain ⟨q1, q2⟩ := (cyc_rem (I.row4 hP hu1) G.nd hu2 G.cyc).2 hc
    simp only [List.mem_filter] at q1 q2 ⊢
    exact ⟨⟨G.ps.mem_iff.mpr q1.1, q1.2⟩, ⟨G.ps.mem_iff.mpr q2.1, q2.2⟩⟩
/-- the books can give up a node -/
theorem can_leave (hP : P.length = 5) (I : Inv P τ) (e : SameB τ σ) (hn : n ∈ τ.ns) : n ∈ σ.rn ∧ n ∈ σ.kn ∧ (σ.row n).length ≤ 900 ∧ σ.kn.length ≤ 900 ∧ σ.rn.length ≤ 900 ∧
    ∀ (i : Nat) (v : Int), (σ.row n)[i]? = some v → v ∈ σ.rn ∧ v ∈ σ.kn ∧ n ∈ (σ.cutRows n ((σ.row n).take i)).row v ∧ ((σ.cutRows n ((σ.row n).take i)).row v).length ≤ 900 := by
  have G := I.go n hn
  have nd := G.nd
  rw [← e.row] at nd
  have h4 := I.row4 hP hn
  have hlen := I.len hP
  refine ⟨by rw [e.rn, I.rn]; exact hn, by rw [e.kn, I.kn]; exact hn, by rw [e.row]; omega, by rw [e.kn, I.kn]; omega, by rw [e.rn, I.rn]; omega, fun i u hu => ?_⟩
  obtain ⟨_, a5, a6⟩ := cutRows_f n ((σ.row n).take i) σ (nd.sublist (List.take_sublist ..))
  have hi := (List.getElem?_eq_some_iff.mp hu).1
  have hmu : u ∈ σ.row n := List.mem_of_getElem? hu
  have hnt : u ∉ (σ.row n).take i := fun z => by
    obtain ⟨j, hj, hz⟩ := List.mem_iff_getElem.mp z
    have hj' : j < i := by rw [List.length_take] at hj; omega
    rw [List.getElem_take] at hz
    have : (σ.row n)[j]? = some u := by rw [List.getElem?_eq_getElem (by omega), hz]
    have := (List.getElem?_inj (by omega) nd).mp (this.trans hu.symm)
    omega
  rw [e.row] at hmu
  obtain ⟨hu1, hu2⟩ := I.sym n hn u hmu
  have := I.row4 hP hu1
  rw [(a6 u hnt).1, e.rn, e.kn, e.row, I.rn, I.kn]
  exact ⟨hu1, hu1, hu2, by omega⟩

/-- a node is gone, from the picture and from the books -/
theorem inv_leave (hP : P.length = 5) (I : Inv P σ) (hn : n ∈ σ.ns) : Inv P ((σ.remNode n).leave n) := by
  have nd := I.pond hn
  have ndr := (I.go n hn).nd
  have hmem : ∀ u, u ∈ σ.po n ↔ u ∈ σ.row n := fun u => (I.po n hn).mem_iff
  have hnr := I.ne n hn
  obtain ⟨a1, a2, a3, a4, a5, a6⟩ := unNodes_f n (σ.po n) σ nd
  obtain ⟨b1, b2, b3⟩ := cutRows_f n ((σ.remNode n).row n) (σ.remNode n) (by show ((σ.unNodes n (σ.po n)).row n).Nodup; rw [a4.row]; exact ndr)
  obtain ⟨r1, r2⟩ := cutRows_rn n ((σ.remNode n).row n) (σ.remNode n)
  have er : (σ.remNode n).row = σ.row := a4.row
  have ek : (σ.remNode n).kw = σ.kw := a4.kw
  have w1 : ((σ.remNode n).leave n).nn = σ.nn.filter (· ≠ n) := b1.nn.trans (by show List.filter _ _ = _; rw [a1])
  have w2 : ((σ.remNode n).leave n).ns = σ.ns.filter (· ≠ n) := b1.ns.trans (by show List.filter _ _ = _; rw [a2])
  have w3 : ((σ.remNode n).leave n).np = σ.np.filter (· ≠ n) := b1.np.trans (by show List.filter _ _ = _; rw [a3])
  have w4 : ((σ.remNode n).leave n).rn = σ.rn.filter (· ≠ n) := by show List.filter _ _ = _; rw [r1]; show List.filter _ (σ.unNodes n (σ.po n)).rn = _; rw [a4.rn]
  have w5 : ((σ.remNode n).leave n).kn = σ.kn.filter (· ≠ n) := by show List.filter _ _ = _; rw [r2]; show List.filter _ (σ.unNodes n (σ.po n)).kn = _; rw [a4.kn]
  have w6 : ((σ.remNode n).leave n).so = (σ.unNodes n (σ.po n)).so := b1.so
  have w7 : ((σ.remNode n).leave n).po = (σ.unNodes n (σ.po n)).po := b1.po
  have w8 : ((σ.remNode n).leave n).cw = (σ.unNodes n (σ.po n)).cw := b1.cw
  have w9 : ((σ.remNode n).leave n).cc = (σ.unNodes n (σ.po n)).cc := b1.cc
  rw [er] at b2 b3
  rw [ek] at b2 b3
  have x1 : ((σ.remNode n).leave n).row = ((σ.remNode n).cutRows n ((σ.remNode n).row n)).row := rfl
  have x2 : ((σ.remNode n).leave n).kw = ((σ.remNode n).cutRows n ((σ.remNode n).row n)).kw := rfl
  rw [er] at x1 x2
  rw [← x1, ← x2] at b2 b3
  clear x1 x2 r1 r2 b1
  generalize (σ.remNode n).leave n = τ at *
  have hin : ∀ x, x ∈ τ.ns ↔ x ∈ σ.ns ∧ x ≠ n := fun x => by rw [w2, List.mem_filter]; simp
  refine rmd_inv hP I (fun x => if x ∈ σ.row n then some n else none) (by rw [w1, w2, I.nn]) (by rw [w3, w2, I.np]) (by rw [w4, w2, I.rn]) (by rw [w5, w2, I.kn]) (by rw [w2]; exact I.nd.filter _) (fun x hx => ((hin x).mp hx).1) ?_ ?_ ?_ ?_
  · intro x hx
    by_cases hr : x ∈ σ.row n
    · rw [if_pos hr]
      obtain ⟨c1, c2⟩ := b2 x hr
      obtain ⟨d1, d2, d3, d4⟩ := a5 x ((hmem x).mpr hr)
      exact .one c1 (by rw [w6]; exact d1) (by rw [w7]; exact d2) (by rw [w8]; exact d3) (by rw [w9]; exact d4) c2
    · rw [if_neg hr]
      obtain ⟨c1, c2⟩ := b3 x hr
      obtain ⟨d1, d2, d3, d4⟩ := a6 x fun z => hr ((hmem x).mp z)
      exact .zero c1 (by rw [w6]; exact d1) (by rw [w7]; exact d2) (by rw [w8]; exact d3) (by rw [w9]; exact d4) c2
  · intro x hx y hy
    by_cases hr : x ∈ σ.row n
    · rw [if_pos hr] at hy; cases hy
      exact (I.sym _ hn x hr).2
    · rw [if_neg hr] at hy; cases hy
  · intro x hx y hy hne
    obtain ⟨h1, h2⟩ := (hin x).mp hx
    have hyn : y ≠ n := fun z => by
      subst z
      have := (I.sym x h1 y hy).2
      rw [if_pos this] at hne
      exact hne rfl
    refine ⟨(hin y).mpr ⟨(I.sym x h1 y hy).1, hyn⟩, fun z => ?_⟩
    split at z
    · cases z; exact h2 rfl
    · cases z
  · intro x
    obtain ⟨s1, s2⟩ := I.sm x
    rw [w6, w7]
    by_cases hr : x ∈ σ.po n
    · obtain ⟨d1, d2, _, _⟩ := a5 x hr
      rw [d1, d2]
      exact ⟨Nat.le_trans (List.length_filter_le ..) s1, Nat.le_trans (List.length_filter_le ..) s2⟩
    · obtain ⟨d1, d2, _, _⟩ := a6 x hr
      rw [d1, d2]; exact ⟨s1, s2⟩
end
end Mine

end

section
open PySem PySem.W PyProof.Rows PySem.Calls
set_option Elab.async false
set_option maxRecDepth 100000
set_option linter.unusedVariables false
namespace Mine

def Sg.leaveIf (σ : Sg) (u : Int) : Sg := if u ∈ σ.rn then σ.leave u else σ

section
variable {P : List Int} {σ τ τ' : Sg} {u v x n : Int}

theorem sb_close (σ : Sg) (u v c d : Int) : SameB σ (σ.close u v c d) := let ⟨_, _, _, _, _, a6, a7, a8, a9⟩ := close_rest σ u v c d; ⟨a6, a7, a8, a9⟩
theorem sb_remNode (I : (σ.po n).Nodup) : SameB σ (σ.remNode n) := let ⟨_, _, _, a4, _⟩ := unNodes_f n (σ.po n) σ I; ⟨a4.rn, a4.row, a4.kn, a4.kw⟩
theorem sp_leave (I : (σ.row n).Nodup) : SameP σ (σ.leave n) := let ⟨b, _⟩ := cutRows_f n (σ.row n) σ I; ⟨b.nn, b.ns, b.np, b.so, b.po, b.cw, b.cc⟩
theorem sp_leaveIf (I : u ∈ σ.rn → (σ.row u).Nodup) : SameP σ (σ.leaveIf u) := by
  unfold Sg.leaveIf; split
  · rename_i h; exact sp_leave (I h)
  · exact .refl
theorem sb_remNodeIf (I : u ∈ σ.nn → (σ.po u).Nodup) : SameB σ (σ.remNodeIf u) := by
  unfold Sg.remNodeIf; split
  · rename_i h; exact sb_remNode (I h)
  · exact SameB.refl _
theorem leaveIf_same (h : SameB σ τ) (n : Int) : SameB (σ.leaveIf n) (τ.leaveIf n) := by
  unfold Sg.leaveIf
  rw [h.rn]
  split
  · exact leave_same h n
  · exact h
theorem remNodeIf_same (h : SameP σ τ) (n : Int) : SameP (σ.remNodeIf n) (τ.remNodeIf n) := by
  unfold Sg.remNodeIf
  rw [h.nn]
  split
  · exact remNode_same h n
  · exact h
theorem inv_leaveIf (hP : P.length = 5) (I : Inv P σ) (n : Int) : Inv P ((σ.remNodeIf n).leaveIf n) := by
  unfold Sg.remNodeIf
  rw [I.nn]
  by_cases h : n ∈ σ.ns
  · rw [if_pos h]
    have := inv_leave hP I h
    unfold Sg.leaveIf
    rw [if_pos (by rw [(sb_remNode (I.pond h)).rn, I.rn]; exact h)]
    exact this
  · rw [if_neg h]
    unfold Sg.leaveIf
    rw [if_neg (by rw [I.rn]; exact h)]
    exact I

/-- remove_nodes_from([u, v]), and the books after it -/
theorem pair_leave (hP : P.length = 5) (I : Inv P σ) (u v : Int) :
    (σ.remNodeIf u).Al ∧ (σ.remNodeIf u).Sm ∧ (u ∈ σ.nn → σ.CanRem u) ∧ (v ∈ (σ.remNodeIf u).nn → (σ.remNodeIf u).CanRem v) ∧
    (∀ n, n ∈ ((σ.remNodeIf u).remNodeIf v).rn → n = u → n ∈ σ.ns) ∧ SameB σ ((σ.remNodeIf u).remNodeIf v) ∧
    SameB ((σ.remNodeIf u).leaveIf u) (((σ.remNodeIf u).remNodeIf v).leaveIf u) ∧ Inv P ((σ.remNodeIf u).leaveIf u) ∧ Inv P ((((σ.remNodeIf u).remNodeIf v).leaveIf u).leaveIf v) := by
  have I₁ := inv_leaveIf hP I u
  have b₀ : SameB σ (σ.remNodeIf u) := sb_remNodeIf fun h => I.pond (by rw [← I.nn]; exact h)
  have p₁ : SameP (σ.remNodeIf u) ((σ.remNodeIf u).leaveIf u) := sp_leaveIf fun h => by rw [b₀.row]; exact (I.go u (by rw [b₀.rn, I.rn] at h; exact h)).nd
  have S := I₁.Sm hP
  have pd : ∀ h : v ∈ (σ.remNodeIf u).nn, ((σ.remNodeIf u).po v).Nodup := fun h => by
    rw [← p₁.po]; exact I₁.pond (by rw [← I₁.nn, p₁.nn]; exact h)
  have b₁ : SameB (σ.remNodeIf u) ((σ.remNodeIf u).remNodeIf v) := sb_remNodeIf pd
  have b₂ := leaveIf_same b₁ u
  have I₂ := inv_leaveIf hP I₁ v
  refine ⟨⟨by rw [← p₁.nn, ← p₁.ns]; exact I₁.nn, by rw [← p₁.np, ← p₁.ns]; exact I₁.np⟩, ⟨by rw [← p₁.nn]; exact S.nn, by rw [← p₁.ns]; exact S.ns, by rw [← p₁.np]; exact S.np, by rw [← p₁.so]; exact S.so, by rw [← p₁.po]; exact S.po⟩,
    fun h => can_rem hP I .refl (by rw [← I.nn]; exact h), fun h => can_rem hP I₁ p₁.symm (by rw [← I₁.nn, p₁.nn]; exact h), fun n h _ => by rw [b₁.rn, b₀.rn, I.rn] at h; exact h, b₀.trans b₁, b₂, I₁, ?_⟩
  generalize hτ : (σ.remNodeIf u).leaveIf u = τ₁ at *
  generalize hσ : (σ.remNodeIf u).remNodeIf v = σ₂ at *
  have hrow₂ : SameB σ σ₂ := b₀.trans b₁
  have p₂ : SameP (τ₁.remNodeIf v) σ₂ := by rw [← hσ]; exact remNodeIf_same p₁.symm v
  have p₃ : SameP σ₂ (σ₂.leaveIf u) := sp_leaveIf fun h => by rw [hrow₂.row]; exact (I.go u (by rw [hrow₂.rn, I.rn] at h; exact h)).nd
  have p₄ : SameP (σ₂.leaveIf u) ((σ₂.leaveIf u).leaveIf v) := sp_leaveIf fun h => by rw [b₂.row]; exact (I₁.go v (by rw [b₂.rn, I₁.rn] at h; exact h)).nd
  have b₃ : SameB τ₁ (τ₁.remNodeIf v) := sb_remNodeIf fun h => I₁.pond (by rw [← I₁.nn]; exact h)
  have p₅ : SameP (τ₁.remNodeIf v) ((τ₁.remNodeIf v).leaveIf v) := sp_leaveIf fun h => by rw [b₃.row]; exact (I₁.go v (by rw [b₃.rn, I₁.rn] at h; exact h)).nd
  exact I₂.same (p₅.symm.trans (p₂.trans (p₃.trans p₄))) (leaveIf_same (b₃.symm'.trans b₂) v)

/-- remove_edges_from([(u, v), (v, u, ..)]) -/
theorem remIf_no (I : Inv P σ) (h : ¬ (u ∈ σ.rn ∧ v ∈ σ.row u)) : σ.remIf u v = σ ∧ σ.remIf v u = σ := by
  constructor
  · unfold Sg.remIf
    rw [if_neg]
    rintro ⟨h1, h2⟩
    exact h ⟨by rw [I.rn]; exact h1, (I.go u h1).ps.mem_iff.mp h2⟩
  · unfold Sg.remIf
    rw [if_neg]
    rintro ⟨h1, h2⟩
    obtain ⟨q1, q2⟩ := I.sym v h1 u ((I.go v h1).ps.mem_iff.mp h2)
    exact h ⟨by rw [I.rn]; exact q1, q2⟩
theorem remIf_yes (hP : P.length = 5) (I : Inv P σ) (hu : u ∈ σ.ns) (h : v ∈ σ.row u) : σ.remIf u v = σ.remEdge u v ∧ (σ.remEdge u v).remIf v u = σ.remEdge u v ∧ (σ.remEdge u v).Al ∧ (σ.remEdge u v).Sm := by
  have J := joined_of hP I hu h
  obtain ⟨e1, e2, e3, _, e8, e9, _, _⟩ := remEdge_f σ J.ne
  have S := I.Sm hP
  refine ⟨by unfold Sg.remIf; rw [if_pos ⟨hu, J.uv⟩], ?_, ⟨by rw [e1, e2]; exact I.nn, by rw [e3, e2]; exact I.np⟩, ⟨by rw [e1]; exact S.nn, by rw [e2]; exact S.ns, by rw [e3]; exact S.np, fun x => ?_, fun x => ?_⟩⟩
  · rw [Sg.remIf, if_neg]
    rintro ⟨_, h2⟩
    rw [e8, if_neg (Ne.symm J.ne), if_pos rfl] at h2
    simp at h2
  · rw [e8]
    split
    · exact Nat.le_trans (List.length_filter_le ..) (S.so u)
    · split
      · exact Nat.le_trans (List.length_filter_le ..) (S.so v)
      · exact S.so x
  · rw [e9]
    split
    · exact Nat.le_trans (List.length_filter_le ..) (S.po u)
    · split
      · exact Nat.le_trans (List.length_filter_le ..) (S.po v)
      · exact S.po x

/-- the four wrong calls -/
theorem bad_ref (hpool : ∀ x ∈ P, 0 ≤ x ∧ x < 8000) (I : Inv P σ) {r : Int} (hr : 8000 ≤ r) (t : Tok) : σ.Bad u (.int r t) .none ∧ σ.Bad u .none (.int r t) := by
  by_cases h : u ∈ σ.ns → σ.so u = []
  · exact ⟨.inl ⟨h, .inl rfl⟩, .inl ⟨h, .inr rfl⟩⟩
  · have h1 : u ∈ σ.ns := Decidable.byContradiction fun z => h fun q => absurd q z
    have h2 : σ.so u ≠ [] := fun z => h fun _ => z
    have h3 : r ∉ σ.so u := fun z => by
      have := hpool r (I.sub r (I.sym u h1 r ((I.go u h1).ps.mem_iff.mp z)).1)
      omega
    exact ⟨.inr ⟨h1, h2, .inl ⟨r, t, rfl, .inl h3⟩⟩, .inr ⟨h1, h2, .inr ⟨rfl, .inl ⟨r, t, rfl, h3⟩⟩⟩⟩
theorem bad_both (I : Inv P σ) (h1 : u ∈ σ.ns) (h : σ.row u ≠ []) (r : Int) (t t' : Tok) : σ.Bad u .none .none ∧ σ.Bad u (.int r t) (.int r t') := by
  have h2 : σ.so u ≠ [] := fun z => h ((I.go u h1).nil.mpr z)
  exact ⟨.inr ⟨h1, h2, .inr ⟨rfl, .inr rfl⟩⟩, .inr ⟨h1, h2, .inl ⟨r, t, rfl, .inr rfl⟩⟩⟩
theorem tame_pool (hpool : ∀ x ∈ P, 0 ≤ x ∧ x < 8000) (h : u ∈ P) : Tame u := by
  have := hpool u h
  unfold Tame; omega
end
end Mine

end

section
open PySem PySem.W PyProof.Rows PySem.Calls
set_option Elab.async false
set_option maxRecDepth 100000
set_option linter.unusedVariables false
namespace Mine

def dLaw (L : Addr) : Def := mkD 988 "law" "law" (topAt 27) [("numbers", L + 1)] .none .none
abbrev lE (L : Addr) : Env := (dLaw L).env L
theorem scLawS : ScOk (psS (topAt 27)) := ScOk.of (by decide +kernel)
theorem scLaw (L : Addr) : ScOk (lE L).scope := scLawS

structure KZ (prog : Program) (K : Frag) : Prop extends KS prog K where
  kn : KN prog K
  km : KM K
  kwn : KW K
  bad : dLBad.In K
  noEdge : dLNoEdge.In K
  noNode : dLNoNode.In K
  putD : dLPut.In K
  gNum : nsIn K mainGlobals "_law_numbers" = some (some (.ref 927))
  kNum : keepIn K (.ref 927) = true
  gPut : nsIn K mainGlobals "_law_put" = some (some (.ref 948))
  kPut : keepIn K (.ref 948) = true
  gLeave : nsIn K mainGlobals "_law_leave" = some (some (.ref 962))
  kLeave : keepIn K (.ref 962) = true
  gBad : nsIn K mainGlobals "_law_bad" = some (some (.ref 969))
  kBad : keepIn K (.ref 969) = true
  gNoEdge : nsIn K mainGlobals "_law_no_edge" = some (some (.ref 976))
  kNoEdge : keepIn K (.ref 976) = true
  gNoNode : nsIn K mainGlobals "_law_no_node" = some (some (.ref 983))
  kNoNode : keepIn K (.ref 983) = true
  gSame : nsIn K mainGlobals "_law_same" = some (some (.ref 941))
  kSame : keepIn K (.ref 941) = true
  gPE : nsIn K mainGlobals "PlanarEmbedding" = some (some (.ref peA))
  kPE : keepIn K (.ref peA) = true

def lawBody : List Stmt := psB (topAt 27)
def lawLoop : List Stmt := match lawBody with | [_, _, _, _, _, .For _ _ b _ _, _] => b | _ => []
def lawMid : Stmt := (lawLoop[9]?).getD (.Pass default)
def ifT : Stmt → PySem.Expr | .If t _ _ _ => t | _ => default
def ifB : Stmt → List Stmt | .If _ b _ _ => b | _ => []
def ifE : Stmt → List Stmt | .If _ _ e _ => e | _ => []
def elIf (s : Stmt) : Stmt := (ifE s).headD (.Pass default)

/-- the names of law in a turn -/
@[reducible] def lv (sl pl p ra ka : Addr) (i : Option Value) (raw kind u v fi se m k : Int) (tr tk tu tv tf ts tm tkk : Tok) (j : Bool) (x one other ref : Option Value) : List (Option Value) :=
  [some (.ref sl), none, some (.int k tkk), some (.ref pl), some (.ref p), some (.ref ra), some (.ref ka), i, some (.int raw tr), some (.int kind tk), some (.int u tu), some (.int v tv), some (.int fi tf), some (.int se ts), some (.int m tm), some (.bool j), x, one, other, ref]

structure Tn (prog : Program) (w : World) (base : Heap) (os : Os) (fr : Frs) (L : Addr) (H₀ : Led) (ρ₀ : Rho) (p ra ka : Addr) (vs : List (Option Value)) (H : Led) (ρ : Rho) (σ : Sg) (s : Shared) : Prop where
  st : St prog w base os ((lE L, fm (lE L).scope.names vs) :: fr) H s
  rep : Rep w.params H ρ σ
  kp : Keep Loose H₀ ρ₀ H ρ
  p : ρ p = some .self
  ra : ρ ra = some .rows
  ka : ρ ka = some .known

section
variable {P : Params} {prog : Program} {w : World} {K : Frag} {base : Heap} {os : Os} {A : Around} {E : Value → Shared → Prop} {fr : Frs} {H H' H₀ : Led} {s : Shared} {env : Env} {vs vs' : List (Option Value)} {a p it ra ka sl pl L : Addr} {ρ ρ' ρ₀ : Rho} {σ σ' : Sg} {us : List Value} {ns : List Int}
  {pos np : Pos} {u v : Int} {T : Role → Prop} {l : List Int}

/-- a call has done its work -/
theorem Tn.step (N : Tn prog w base os fr L H₀ ρ₀ p ra ka vs H ρ σ s) {s' : Shared} (S : St prog w base os ((lE L, fm (lE L).scope.names vs') :: fr) H' s') (R : Rep w.params H' ρ' σ') (k : Keep T H ρ H' ρ') (hT : ∀ r, T r → Loose r) : Tn prog w base os fr L H₀ ρ₀ p ra ka vs' H' ρ' σ' s' :=
  ⟨S, R, N.kp.trans (k.mono hT), k.role _ _ N.p fun z => hT _ z, k.role _ _ N.ra fun z => hT _ z, k.role _ _ N.ka fun z => hT _ z⟩
theorem Tn.st' (N : Tn prog w base os fr L H₀ ρ₀ p ra ka vs H ρ σ s) {s' : Shared} (S : St prog w base os ((lE L, fm (lE L).scope.names vs') :: fr) H s') : Tn prog w base os fr L H₀ ρ₀ p ra ka vs' H ρ σ s' := ⟨S, N.rep, N.kp, N.p, N.ra, N.ka⟩
theorem loF (r : Role) (h : False) : Loose r := h.elim
theorem loNode (r : Role) (h : NewNode u r) : Loose r := by rcases h with rfl | rfl | rfl <;> trivial
theorem loEdge (r : Role) (h : NewEdge σ u v r) : Loose r := by
  rcases h with rfl | ⟨_, h⟩ | ⟨_, h⟩
  · trivial
  · exact loNode r h
  · exact loNode r h
theorem loConn (r : Role) (h : NewConn σ u v r) : Loose r := h.elim (loEdge r) (loEdge r)

theorem li_in {k : Int} {t : Tok} {Q : Value → Shared → Prop} (S : St prog w base os fr H s) (e : H a = some (.li us)) (hi : IntsAre us ns) (q : Q (.bool (decide (k ∈ ns))) s) : wpAny (model prog w) A (compareOp .In (.int k t) (.ref a)) Q E s := by
  refine PySem.SeqAt.in_listAt (fun y => match y with | .int n _ => n == k | _ => false) (S.li e) (fun y hy => ?_) ?_
  · obtain ⟨n, t', rfl⟩ := hi.all y (by simpa using hy)
    exact PySem.SeqAt.EqAt.int_int n t' k t
  · have : (us.toArray.any fun y => match y with | .int n _ => n == k | _ => false) = decide (k ∈ ns) := by
      rw [List.any_toArray]
      clear e S q
      induction hi with
      | nil => rfl
      | cons n t' h ih =>
        rw [List.any_cons, ih]
        by_cases z : n = k
        · subst z; simp
        · have z' : ¬ k = n := fun q => z q.symm
          simp [z, z']
    rw [this]; exact q
/-- a name that is a cell -/
theorem pu_cell {C : Addr} {o : Obj} {x : Str} {v : Value} (i : Nat) (Cs : ScOk env.scope) (hi : env.scope.names[i]? = some (x, .cell)) (hc : env.cells.lookup x = some C) (e : H C = some (.raw o)) (hd : o.data = .cell (some v)) : Pu prog w base os fr H env vs (.Name x pos) (· = v) :=
  fun A E Q s S q => by
    obtain ⟨o', ho, hd'⟩ := S.get e
    have z : o' = o := hd'
    rw [z] at ho
    exact wpAny_Name (wpAny_loadName_cell Cs.kind (kindAt Cs hi) hc ⟨o, ho, hd⟩ (q v s rfl S)) (Cs.dbg _ (List.mem_of_getElem? hi))

/-- u in rows -/
theorem tu_rows {e₁ e₂ : PySem.Expr} (R : Rep P H ρ σ) (hr : ρ ra = some .rows) (h1 : Pu prog w base os fr H env vs e₁ (IsI u)) (h2 : Pu prog w base os fr H env vs e₂ (· = .ref ra)) (hm : behindInMarks .In e₂ = false := by with_unfolding_all rfl) :
    Tu prog w base os fr H env vs (.Compare e₁ [.In] [e₂] pos) (decide (u ∈ σ.rn)) := by
  obtain ⟨kr, er, hrA, rr⟩ := R.rows hr
  exact tu_in h1 h2 hrA (rr.isSome u) hm
theorem tu_rowsN {e₁ e₂ : PySem.Expr} (R : Rep P H ρ σ) (hr : ρ ra = some .rows) (h1 : Pu prog w base os fr H env vs e₁ (IsI u)) (h2 : Pu prog w base os fr H env vs e₂ (· = .ref ra)) (hm : behindInMarks .NotIn e₂ = false := by with_unfolding_all rfl) :
    Tu prog w base os fr H env vs (.Compare e₁ [.NotIn] [e₂] pos) (decide (u ∉ σ.rn)) := by
  obtain ⟨kr, er, hrA, rr⟩ := R.rows hr
  refine tu_notin h1 h2 hrA ?_ hm
  rw [rr.isSome u]; by_cases h : u ∈ σ.rn <;> simp [h]
/-- u in rows and v in rows[u] -/
theorem ev_joined {e₁ e₂ e₃ e₄ e₅ : PySem.Expr} {p1 p2 p3 : Pos} (R : Rep P H ρ σ) (hr : ρ ra = some .rows) (h1 : Pu prog w base os fr H env vs e₁ (IsI u)) (h2 : Pu prog w base os fr H env vs e₂ (· = .ref ra)) (h3 : Pu prog w base os fr H env vs e₃ (IsI v)) (h4 : Pu prog w base os fr H env vs e₄ (· = .ref ra)) (h5 : Pu prog w base os fr H env vs e₅ (IsI u))
    (hs : ∀ t, subscripted e₅ false (.ref ra) (.int u t) = operate [.ref ra, .int u t] (getItem (.ref ra) (.int u t)) := by intro _; with_unfolding_all rfl)
    (m1 : behindInMarks .In e₂ = false := by with_unfolding_all rfl) (m2 : behindInMarks .In (.Subscript e₄ e₅ p3) = false := by with_unfolding_all rfl) :
    Pu prog w base os fr H env vs (.BoolOp .And [.Compare e₁ [.In] [e₂] p1, .Compare e₃ [.In] [.Subscript e₄ e₅ p3] p2] pos) (· = .bool (decide (u ∈ σ.rn ∧ v ∈ σ.row u))) := by
  obtain ⟨kr, er, hrA, rr⟩ := R.rows hr
  intro A E Q s S q
  refine wpAny_And2 (pu_cmp (b := decide (u ∈ σ.rn)) h1 h2 (fun _ _ ⟨t, x⟩ y A E Q s S q => by subst x; subst y; exact di_in S hrA fun s' S' => by rw [rr.isSome]; exact q _ S') m1 _ _ _ _ S fun x s₁ hx S₁ => ?_)
  subst hx
  refine wpAny_truthy_bool ?_
  by_cases hu : u ∈ σ.rn
  · rw [decide_eq_true hu, if_pos rfl]
    obtain ⟨aL, hvL, hrL⟩ := rr.find hu
    obtain ⟨us, hL, hI⟩ := R.row hrL
    refine pu_cmp (b := decide (v ∈ σ.row u)) h3 (pu_sub h4 h5 hrA hvL hs) (fun _ _ ⟨t, x⟩ y A E Q s S q => by subst x; subst y; exact li_in S hL hI (q _ S)) m2 _ _ _ _ S₁ fun x s₂ hx S₂ => q x s₂ ?_ S₂
    rw [hx]; congr 1; simp [hu]
  · rw [decide_eq_false hu, if_neg (by decide)]
    refine q _ s₁ ?_ S₁
    congr 1; simp [hu]
/-- rows[x] = [], known[x] = True, where x has no row -/
theorem add_row {e₁ e₂ e₃ e₄ e₅ e₆ : PySem.Expr} {p1 p3 p4 p5 p6 p7 p8 p9 : Pos} {c : Nat} {rest : List Stmt} {Q : Flow → Shared → Prop} (N : Tn prog w base os fr L H₀ ρ₀ p ra ka vs H ρ σ s) (hkn : σ.kn = σ.rn) (hlen : σ.rn.length ≤ 900)
    (h1 : ∀ H, Pu prog w base os fr H (lE L) vs e₁ (IsI u)) (h2 : ∀ H, Pu prog w base os fr H (lE L) vs e₂ (· = .ref ra)) (h3 : ∀ H, Pu prog w base os fr H (lE L) vs e₃ (· = .ref ra)) (h4 : ∀ H, Pu prog w base os fr H (lE L) vs e₄ (IsI u)) (h5 : ∀ H, Pu prog w base os fr H (lE L) vs e₅ (· = .ref ka)) (h6 : ∀ H, Pu prog w base os fr H (lE L) vs e₆ (IsI u))
    (k : ∀ s' H' ρ', Tn prog w base os fr L H₀ ρ₀ p ra ka vs H' ρ' (σ.addRow u) s' → wpAny (model prog w) A (execs rest (lE L)) Q E s')
    (hs : ∀ p4 p3, swapsWith (.List [] p4) (some (.Subscript e₃ e₄ p3)) p5.line (lE L) = pure false := by intro _ _; rfl)
    (hs' : ∀ c p6 p7, swapsWith (.Constant (.bool true) c p7) (some (.Subscript e₅ e₆ p6)) p8.line (lE L) = pure false := by intro _ _ _; rfl)
    (hm : behindInMarks .NotIn e₂ = false := by with_unfolding_all rfl) :
    wpAny (model prog w) A (execs (.If (.Compare e₁ [.NotIn] [e₂] p1) [.Assign [.Subscript e₃ e₄ p3] (.List [] p4) p5, .Assign [.Subscript e₅ e₆ p6] (.Constant (.bool true) c p7) p8] [] p9 :: rest) (lE L)) Q E s := by
  refine x_if N.st (tu_rowsN N.rep N.ra (h1 H) (h2 H) hm) fun s₁ S₁ => ?_
  unfold Sg.addRow at k
  by_cases hu : u ∈ σ.rn
  · rw [if_pos hu] at k
    rw [decide_eq_false (fun z => z hu)]
    exact x_nil (k s₁ H ρ (N.st' S₁))
  · rw [if_neg hu] at k
    rw [decide_eq_true hu]
    obtain ⟨kr, er, hrA, rr⟩ := N.rep.rows N.ra
    refine x_setG S₁ (ev_list (es := []) rfl ⟨by simp, _, _, S₁, fun b s₂ hb S₂ => ?_⟩) (hs _ _)
    have hρb := N.rep.none hb
    have nab : ra ≠ b := fun z => by rw [z, hb] at hrA; cases hrA
    refine ⟨fr, vs, _, ra, u, kr, er, S₂, h3 _, h4 _, (upd_ne _ _ nab).trans hrA, by rw [rr.len]; omega, fun s₃ S₃ => ?_⟩
    have R₃ := mv_rows (N.rep.temp hρb (.li [])) N.ra ((upd_ne _ _ nab).trans hrA) hu hρb (upd_self ..)
    have k₃ : Keep Loose H ρ (upd (upd H b (.li [])) ra (.di (stored kr u (.ref b)) none)) (ρ.take (.row u) b) :=
      ((Keep.refl.new hb).take hb hρb trivial).set (take_old hρb N.ra (by simp))
    have N₃ := N.step S₃ R₃ k₃ fun _ h => h
    obtain ⟨kk, ek, hkA, hk1, hk2⟩ := N₃.rep.known N₃.ka
    have hk1' : kk.map (·.1) = σ.kn := hk1
    have klen : kk.length ≤ 900 := by have := congrArg List.length hk1'; rw [List.length_map, hkn] at this; omega
    have hun : u ∉ kk.map (·.1) := by rw [hk1', hkn]; exact hu
    refine x_set S₃ pu_bool (h5 _) (h6 _) hkA (by omega) (fun s₄ S₄ => ?_) (hs' _ _ _)
    have R₄ := kn_set (l := σ.kn ++ [u]) (f := fset σ.kw u true) (kvs := stored kk u (.bool true)) (ep := none) N₃.rep N₃.ka (by rw [stored_new hun, List.map_append, hk1']; rfl) (fun k v' hm => by
      rcases stored_mem hm with ⟨rfl, rfl⟩ | ⟨q, hm⟩
      · rw [fset_self]
      · rw [hk2 _ _ hm, fset_ne _ _ q])
    exact x_nil (k s₄ _ _ (N₃.step S₄ R₄ (Keep.refl.set (T := Loose) N₃.ka) fun _ h => h))
end
end Mine

end

section
open PySem PySem.W PyProof.Rows PySem.Calls
set_option Elab.async false
set_option maxRecDepth 100000
set_option linter.unusedVariables false
namespace Mine

section
variable {prog : Program} {w : World} {K : Frag} {base : Heap} {os : Os} {A : Around} {E : Value → Shared → Prop} {fr : Frs} {H H' H₀ : Led} {s : Shared} {a p it ra ka sl pl L : Addr} {ρ ρ' ρ₀ : Rho} {σ σ' : Sg} {us : List Value} {ns : List Int}
  {P : List Int} {i x one other ref : Option Value} {raw kind u v fi se m k : Int} {tr tk tu tv tf ts tm tkk : Tok} {j : Bool} {Q : Flow → Shared → Prop}

/-- known[x] -/
theorem kn_at (R : Rep w.params H ρ σ) (hk : ρ ka = some .known) (hu : u ∈ σ.kn) : ∃ kk ek, H ka = some (.di kk ek) ∧ valueAt kk u = some (.bool (σ.kw u)) := by
  obtain ⟨kk, ek, hkA, hk1, hk2⟩ := R.known hk
  refine ⟨kk, ek, hkA, ?_⟩
  have : (valueAt kk u).isSome = true := by rw [valueAt_isSome, hk1]; exact decide_eq_true hu
  obtain ⟨v, hv⟩ := Option.isSome_iff_exists.mp this
  have hm' : (u, v) ∈ kk := by
    unfold valueAt at hv
    obtain ⟨q, hq, rfl⟩ := Option.map_eq_some_iff.mp hv
    have := List.find?_some hq
    have e1 : q.1 = u := by simpa using this
    rw [← e1]; exact List.mem_of_find?_eq_some hq
  rw [hv, hk2 _ _ hm']

/-- a loop through a list of two names, x the loop's name -/
theorem for_two {np : Pos} {e₁ e₂ : PySem.Expr} {p1 p2 : Pos} {body rest : List Stmt} {vs : List (Option Value)} {τ : Nat → Sg} (hh : A.handled = none) (N : Tn prog w base os fr L H₀ ρ₀ p ra ka vs H ρ (τ 0) s)
    (h1 : Pu prog w base os fr H (lE L) vs e₁ (· = .int u tu)) (h2 : Pu prog w base os fr H (lE L) vs e₂ (· = .int v tv)) (hp : [e₁, e₂].all plainE = true) (hvs : vs.length = 20)
    (step : ∀ i s H ρ, i < 2 → Tn prog w base os fr L H ρ p ra ka (vs.set 16 (some (if i = 0 then .int u tu else .int v tv))) H ρ (τ i) s →
      wpAny (model prog w) A (execs body (lE L)) (fun f s' => f = .next ∧ ∃ H' ρ', Tn prog w base os fr L H ρ p ra ka (vs.set 16 (some (if i = 0 then .int u tu else .int v tv))) H' ρ' (τ (i + 1)) s') (fun _ _ => False) s)
    (fin : ∀ s' H' ρ' x, Tn prog w base os fr L H₀ ρ₀ p ra ka (vs.set 16 x) H' ρ' (τ 2) s' → wpAny (model prog w) A (execs rest (lE L)) Q E s') :
    wpAny (model prog w) A (execs (.For (.Name "x" np) (.List [e₁, e₂] p1) body [] p2 :: rest) (lE L)) Q E s := by
  have C := scLaw L
  refine wpAny_execs_cons (wpAny_For (ev_list (base := base) (os := os) hp ?_))
  refine h1 _ _ _ _ N.st fun _ s₁ e S₁ => ?_
  subst e
  refine h2 _ _ _ _ S₁ fun _ s₂ e S₂ => ?_
  subst e
  refine ⟨by simp, _, _, S₂, fun b s₃ hb S₃ => ?_⟩
  have hρb := N.rep.none hb
  refine iter_li S₃ (upd_self ..) fun it s₄ H₄ hit S₄ hD hs => ?_
  have nib : it ≠ b := hD.2.2
  have hit₀ : H it = none := by rw [upd_ne _ _ nib] at hit; exact hit
  have hρi := N.rep.none hit₀
  have R₄ : Rep w.params H₄ ρ (τ 0) := (N.rep.temp hρb _).same hρi hs
  have k₄ : Keep Loose H ρ H₄ ρ := (Keep.refl.new hb).same hit₀ hs
  refine loop_itr (c := 16) itr_li (by exact hh) C rfl
    (fun i H' vs' => ∃ ρ' x, vs' = vs.set 16 x ∧ Rep w.params H' ρ' (τ i) ∧ Keep Loose H ρ H' ρ' ∧ ρ' it = none ∧ ρ' b = none ∧ ρ' p = some .self ∧ ρ' ra = some .rows ∧ ρ' ka = some .known)
    (fun i H₁ H₂ vs' hs' ⟨ρ', x, j1, j2, j3, j4, j5⟩ => ⟨ρ', x, j1, j2.same j4 hs', j3.same hit₀ hs', j4, j5⟩) (fun i H₁ vs' ⟨ρ', x, j1, _⟩ => by rw [j1, List.length_set]; omega) S₄ hD
    ⟨ρ, (vs[16]?).getD none, by
      have : (vs[16]?) = some ((vs[16]?).getD none) := by rw [List.getElem?_eq_getElem (by omega)]; rfl
      obtain ⟨h16, e16⟩ := List.getElem?_eq_some_iff.mp this
      rw [← e16, List.set_getElem_self], R₄, k₄, hρi, hρb, N.p, N.ra, N.ka⟩ ?_ ?_
  · rintro i v' H₁ vs₁ s₅ hi hv ⟨ρ', x, rfl, R₁, k₁, z1, z2, z3, z4, z5⟩ hD₁ hne S₅
    have hi2 : i < 2 := by simpa using hi
    have ev : v' = if i = 0 then .int u tu else .int v tv := by
      rcases Nat.lt_or_ge i 1 with h | h
      · have : i = 0 := by omega
        subst this; simp at hv; rw [if_pos rfl]; exact hv.symm
      · have : i = 1 := by omega
        subst this; simp at hv; rw [if_neg (by decide)]; exact hv.symm
    subst ev
    rw [List.set_set] at S₅
    refine wpAny_mono (step i s₅ H₁ ρ' hi2 ⟨S₅, R₁, Keep.refl, z3, z4, z5⟩) (fun f s₆ h => ?_) fun _ _ z => z
    obtain ⟨rfl, H₆, ρ₆, N₆⟩ := h
    obtain ⟨q1, q2⟩ := N₆.kp.out _ _ hD₁.1 z1
    obtain ⟨q3, q4⟩ := N₆.kp.out _ _ hD₁.2.1 z2
    exact ⟨H₆, _, N₆.st, ⟨q1, q3, hD₁.2.2⟩, ρ₆, _, rfl, N₆.rep, k₁.trans N₆.kp, q2, q4, N₆.p, N₆.ra, N₆.ka⟩
  · rintro H₁ vs₁ s₅ ⟨ρ', x, rfl, R₁, k₁, z1, z2, z3, z4, z5⟩ S₅
    exact fin s₅ H₁ ρ' x ⟨S₅, R₁, N.kp.trans k₁, z3, z4, z5⟩
end
end Mine

end

section
open PySem PySem.W PyProof.Rows PySem.Calls
set_option Elab.async false
set_option maxRecDepth 100000
set_option linter.unusedVariables false
namespace Mine

section
variable {prog : Program} {w : World} {K : Frag} {base : Heap} {os : Os} {A : Around} {E : Value → Shared → Prop} {fr : Frs} {H H' H₀ : Led} {s : Shared} {a p it ra ka sl pl L : Addr} {ρ ρ' ρ₀ : Rho} {σ σ' : Sg} {us : List Value} {ns : List Int}
  {P : List Int} {i x one other ref : Option Value} {raw kind u v fi se m k : Int} {tr tk tu tv tf ts tm tkk : Tok} {j : Bool} {Q : Flow → Shared → Prop}

/-- kind <= 6 and u == v -/
theorem brA (F : KZ prog K) (Z : Sta K base) (hA : A.depth + 20 < recursionLimit) (hP : P.length = 5) (I : Inv P σ) (hu : u ∈ P)
    (N : Tn prog w base os fr L H₀ ρ₀ p ra ka (lv sl pl p ra ka i raw kind u v fi se m k tr tk tu tv tf ts tm tkk j x one other ref) H ρ σ s)
    (fin : ∀ s' H' ρ' σ' x one other ref, Tn prog w base os fr L H₀ ρ₀ p ra ka (lv sl pl p ra ka i raw kind u v fi se m k tr tk tu tv tf ts tm tkk j x one other ref) H' ρ' σ' s' → Inv P σ' → Q .next s') :
    wpAny (model prog w) A (execs (ifB lawMid) (lE L)) Q E s := by
  have C := scLaw L
  refine x_expr (ev_pic N.st Z F.toKA F.mAddNode N.rep N.p (pu_v 4 C rfl rfl) (fun _ _ _ _ _ => by cases σ.adj <;> rfl) rfl rfl fun s₁ S₁ => ?_)
  refine pu_v (env := lE L) 10 C rfl rfl _ _ _ _ S₁ fun _ s₂ e S₂ => ?_
  subst e
  refine ⟨S₂.kin Z, add_node_ok F.toKF Z S₂ (by omega) N.rep N.p (I.Sm hP) I.al fun s₃ H₃ ρ₃ S₃ R₃ k₃ => ⟨rfl, ?_⟩⟩
  have N₃ := N.step S₃ R₃ k₃ loNode
  have sb := sb_addNode σ u
  have hl := I.len hP
  refine add_row N₃ (by rw [sb.kn, sb.rn, I.kn, I.rn]) (by rw [sb.rn, I.rn]; omega) (fun _ => pu_i 10 C rfl rfl) (fun _ => pu_v 5 C rfl rfl) (fun _ => pu_v 5 C rfl rfl) (fun _ => pu_i 10 C rfl rfl) (fun _ => pu_v 6 C rfl rfl) (fun _ => pu_i 10 C rfl rfl) fun s₄ H₄ ρ₄ N₄ => ?_
  exact x_nil (fin s₄ H₄ ρ₄ _ _ _ _ _ N₄ (I.node hu))

/-- the two rows of an edge that is to come -/
theorem rows_two {rest : List Stmt} {i₀ : Option Value} (F : KZ prog K) (Z : Sta K base) (hh : A.handled = none) (hP : P.length = 5) (I : Inv P σ) (hu : u ∈ P)
    (N : Tn prog w base os fr L H₀ ρ₀ p ra ka (lv sl pl p ra ka i₀ raw kind u v fi se m k tr tk tu tv tf ts tm tkk j x one other ref) H ρ σ s) 
    (fin : ∀ s' H' ρ' x, Tn prog w base os fr L H₀ ρ₀ p ra ka (lv sl pl p ra ka i₀ raw kind u v fi se m k tr tk tu tv tf ts tm tkk j x one other ref) H' ρ' (σ.rows2 u v) s' → wpAny (model prog w) A (execs rest (lE L)) Q E s') :
    wpAny (model prog w) A (execs ((ifB (elIf lawMid)).headD (.Pass default) :: rest) (lE L)) Q E s := by
  have C := scLaw L
  have hl := I.len hP
  have a1 : (σ.addRow u).kn = (σ.addRow u).rn ∧ (σ.addRow u).rn.length ≤ 900 := by
    unfold Sg.addRow
    split
    · exact ⟨by rw [I.kn, I.rn], by rw [I.rn]; omega⟩
    · exact ⟨by show _ ++ _ = _ ++ _; rw [I.kn, I.rn], by show (σ.rn ++ [u]).length ≤ 900; rw [I.rn, List.length_append]; simp only [List.length_cons, List.length_nil]; omega⟩
  refine for_two (τ := fun i => match i with | 0 => σ | 1 => σ.addRow u | _ => σ.rows2 u v) hh N (pu_v 10 C rfl rfl) (pu_v 11 C rfl rfl) rfl rfl (fun i s₁ H₁ ρ₁ hi N₁ => ?_) fun s₁ H₁ ρ₁ x N₁ => fin s₁ H₁ ρ₁ x N₁
  rcases (show i = 0 ∨ i = 1 by omega) with h0 | h0
  · subst h0
    replace N₁ : Tn prog w base os fr L H₁ ρ₁ p ra ka (lv sl pl p ra ka i₀ raw kind u v fi se m k tr tk tu tv tf ts tm tkk j (some (.int u tu)) one other ref) H₁ ρ₁ σ s₁ := N₁
    refine add_row (u := u) N₁ (by rw [I.kn, I.rn]) (by rw [I.rn]; omega) (fun _ => pu_i 16 C rfl rfl) (fun _ => pu_v 5 C rfl rfl) (fun _ => pu_v 5 C rfl rfl) (fun _ => pu_i 16 C rfl rfl) (fun _ => pu_v 6 C rfl rfl) (fun _ => pu_i 16 C rfl rfl) fun s₄ H₄ ρ₄ N₄ => ?_
    exact x_nil ⟨rfl, H₄, ρ₄, N₄⟩
  · subst h0
    replace N₁ : Tn prog w base os fr L H₁ ρ₁ p ra ka (lv sl pl p ra ka i₀ raw kind u v fi se m k tr tk tu tv tf ts tm tkk j (some (.int v tv)) one other ref) H₁ ρ₁ (σ.addRow u) s₁ := N₁
    refine add_row (u := v) N₁ a1.1 a1.2 (fun _ => pu_i 16 C rfl rfl) (fun _ => pu_v 5 C rfl rfl) (fun _ => pu_v 5 C rfl rfl) (fun _ => pu_i 16 C rfl rfl) (fun _ => pu_v 6 C rfl rfl) (fun _ => pu_i 16 C rfl rfl) fun s₄ H₄ ρ₄ N₄ => ?_
    exact x_nil ⟨rfl, H₄, ρ₄, N₄⟩

/-- _law_put, twice -/
theorem puts_two (F : KZ prog K) (Z : Sta K base) (hh : A.handled = none) (hA : A.depth + 20 < recursionLimit) (hU : A.units + 60 < cLine) (hP : P.length = 5) (I : Inv P σ) (hu : u ∈ P) (hv : v ∈ P) (huv : u ≠ v) (hj : ¬ (u ∈ σ.rn ∧ v ∈ σ.row u)) (hf1 : 0 ≤ fi) (hf2 : fi < 4) (hs1 : 0 ≤ se) (hs2 : se < 4)
    (N : Tn prog w base os fr L H₀ ρ₀ p ra ka (lv sl pl p ra ka i raw kind u v fi se m k tr tk tu tv tf ts tm tkk j x one other ref) H ρ (σ.rows2 u v) s)
    (fin : ∀ s' H' ρ' σ' x one other ref, Tn prog w base os fr L H₀ ρ₀ p ra ka (lv sl pl p ra ka i raw kind u v fi se m k tr tk tu tv tf ts tm tkk j x one other ref) H' ρ' σ' s' → Inv P σ' → Q .next s') :
    wpAny (model prog w) A (execs (ifE (((ifB (elIf lawMid)).getLast?).getD (.Pass default))) (lE L)) Q E s := by
  have C := scLaw L
  obtain ⟨c1, c2, c3, c4, c5, c6, c7, c8, c9⟩ := pair_put (a := fi) (b := k) (c := se) (d := m) hP I hu hv huv hj
  refine x_expr (ev_call (nm_global (i := 23) N.st Z C rfl rfl F.gPut (cwK F.kPut rfl rfl ?_)))
  refine pu_v (env := lE L) 4 C rfl rfl _ _ _ _ N.st fun _ s₁ e S₁ => ?_
  subst e
  refine pu_v (env := lE L) 5 C rfl rfl _ _ _ _ S₁ fun _ s₂ e S₂ => ?_
  subst e
  refine pu_v (env := lE L) 10 C rfl rfl _ _ _ _ S₂ fun _ s₃ e S₃ => ?_
  subst e
  refine pu_v (env := lE L) 11 C rfl rfl _ _ _ _ S₃ fun _ s₄ e S₄ => ?_
  subst e
  refine pu_v (env := lE L) 12 C rfl rfl _ _ _ _ S₄ fun _ s₅ e S₅ => ?_
  subst e
  refine pu_v (env := lE L) 2 C rfl rfl _ _ _ _ S₅ fun _ s₆ e S₆ => ?_
  subst e
  refine ⟨S₆.kin Z, law_put_ok F.putD F.toKH F.toKO.bLen Z S₆ hh (by omega) (by omega) N.rep N.p N.ra c2 c3 c4 c1 hf1 hf2 fun s₇ H₇ ρ₇ S₇ R₇ k₇ => ⟨rfl, ?_⟩⟩
  have N₇ := N.step S₇ R₇ k₇ loEdge
  refine x_expr (ev_call (nm_global (i := 23) N₇.st Z C rfl rfl F.gPut (cwK F.kPut rfl rfl ?_)))
  refine pu_v (env := lE L) 4 C rfl rfl _ _ _ _ N₇.st fun _ s₁ e S₁ => ?_
  subst e
  refine pu_v (env := lE L) 5 C rfl rfl _ _ _ _ S₁ fun _ s₂ e S₂ => ?_
  subst e
  refine pu_v (env := lE L) 11 C rfl rfl _ _ _ _ S₂ fun _ s₃ e S₃ => ?_
  subst e
  refine pu_v (env := lE L) 10 C rfl rfl _ _ _ _ S₃ fun _ s₄ e S₄ => ?_
  subst e
  refine pu_v (env := lE L) 13 C rfl rfl _ _ _ _ S₄ fun _ s₅ e S₅ => ?_
  subst e
  refine pu_v (env := lE L) 14 C rfl rfl _ _ _ _ S₅ fun _ s₆ e S₆ => ?_
  subst e
  refine ⟨S₆.kin Z, law_put_ok F.putD F.toKH F.toKO.bLen Z S₆ hh (by omega) (by omega) N₇.rep N₇.p N₇.ra c6 c7 c8 c5 hs1 hs2 fun s₈ H₈ ρ₈ S₈ R₈ k₈ => ⟨rfl, ?_⟩⟩
  exact x_nil (fin s₈ H₈ ρ₈ _ _ _ _ _ (N₇.step S₈ R₈ k₈ loEdge) c9)
end
end Mine

end

section
open PySem PySem.W PyProof.Rows PySem.Calls
set_option Elab.async false
set_option maxRecDepth 100000
set_option linter.unusedVariables false
namespace Mine

section
variable {prog : Program} {w : World} {K : Frag} {base : Heap} {os : Os} {A : Around} {E : Value → Shared → Prop} {fr : Frs} {H H' H₀ : Led} {s : Shared} {a p it ra ka sl pl L : Addr} {ρ ρ' ρ₀ : Rho} {σ σ' τ : Sg} {us : List Value} {ns : List Int}
  {P : List Int} {i x one other ref : Option Value} {raw kind u v fi se m k : Int} {tr tk tu tv tf ts tm tkk : Tok} {j : Bool} {Q : Flow → Shared → Prop}

theorem sb_first (σ : Sg) (u v : Int) : SameB σ (σ.first u v) := by
  unfold Sg.first
  split
  · exact sb_addEdge ..
  · exact sb_heCw ..

def frS : List Stmt := ifB (((ifB (elIf lawMid)).getLast?).getD (.Pass default))
/-- the rows' fronts -/
theorem fronts (F : KZ prog K) (Z : Sta K base) (huv : u ≠ v) (hu : u ∈ τ.rn) (hv : v ∈ τ.rn) (hl1 : (τ.row u).length ≤ 900) (hl2 : (τ.row v).length ≤ 900)
    (N : Tn prog w base os fr L H₀ ρ₀ p ra ka (lv sl pl p ra ka i raw kind u v fi se m k tr tk tu tv tf ts tm tkk j x one other ref) H ρ τ s)
    (fin : ∀ s' H' one other, Tn prog w base os fr L H₀ ρ₀ p ra ka (lv sl pl p ra ka i raw kind u v fi se m k tr tk tu tv tf ts tm tkk j x one other ref) H' ρ { τ with row := fset (fset τ.row u (v :: τ.row u)) v (u :: τ.row v) } s' → Q .next s') :
    wpAny (model prog w) A (execs (frS.drop 1) (lE L)) Q E s := by
  have C := scLaw L
  obtain ⟨kr, er, hrA, rr⟩ := N.rep.rows N.ra
  obtain ⟨aU, hvU, hrU⟩ := rr.find hu
  obtain ⟨usU, hU, hIU⟩ := N.rep.row hrU
  have lU := hIU.length
  refine x_as 17 N.st C rfl (pu_sub (pu_v 5 C rfl rfl) (pu_i 10 C rfl rfl) hrA hvU) (by show 17 < 20; decide) fun _ s₁ e S₁ => ?_
  subst e
  refine x_meth PySem.F.slot_list_insert PySem.F.type_list_insert S₁ (pu_v 17 C rfl rfl) hU rfl fun s₂ S₂ => ?_
  refine (pu_int (k := 0)) _ _ _ _ S₂ fun _ s₃ ⟨t0, e⟩ S₃ => ?_
  subst e
  refine pu_v (env := lE L) 11 C rfl rfl _ _ _ _ S₃ fun _ s₄ e S₄ => ?_
  subst e
  refine li_insert S₄ hU (by omega) (by decide) (by omega) fun s₅ S₅ => ⟨rfl, ?_⟩
  have R₅ := row_set N.rep hrU (Mine.IntsAre.insertI hIU 0 v tv)
  have N₅ := N.step S₅ R₅ (Keep.refl.set (T := Loose) hrU) fun _ h => h
  obtain ⟨kr, er, hrA, rr⟩ := N₅.rep.rows N₅.ra
  obtain ⟨aV, hvV, hrV⟩ := rr.find (k := v) hv
  obtain ⟨usV, hV, hIV⟩ := N₅.rep.row hrV
  have e1 : (fset τ.row u ((τ.row u).take 0 ++ v :: (τ.row u).drop 0)) v = τ.row v := fset_ne _ _ (Ne.symm huv)
  have hIV' : IntsAre usV (τ.row v) := by rw [← e1]; exact hIV
  have lV := hIV'.length
  refine x_as 18 S₅ C rfl (pu_sub (pu_v 5 C rfl rfl) (pu_i 11 C rfl rfl) hrA hvV) (by show 18 < 20; decide) fun _ s₆ e S₆ => ?_
  subst e
  refine x_meth PySem.F.slot_list_insert PySem.F.type_list_insert S₆ (pu_v 18 C rfl rfl) hV rfl fun s₇ S₇ => ?_
  refine (pu_int (k := 0)) _ _ _ _ S₇ fun _ s₈ ⟨t0', e⟩ S₈ => ?_
  subst e
  refine pu_v (env := lE L) 10 C rfl rfl _ _ _ _ S₈ fun _ s₉ e S₉ => ?_
  subst e
  refine li_insert S₉ hV (by omega) (by decide) (by omega) fun s₁₀ S₁₀ => ⟨rfl, ?_⟩
  have R₁₀ := row_set N₅.rep hrV (Mine.IntsAre.insertI hIV' 0 u tu)
  exact x_nil (fin s₁₀ _ _ _ (N₅.step S₁₀ R₁₀ (Keep.refl.set (T := Loose) hrV) fun _ h => h))

/-- both nodes' leftmost neighbours are known: two half edges ahead of all -/
theorem firsts (F : KZ prog K) (Z : Sta K base) (hh : A.handled = none) (hA : A.depth + 20 < recursionLimit) (hP : P.length = 5) (I : Inv P σ) (hu : u ∈ P) (hv : v ∈ P) (huv : u ≠ v) (hj : ¬ (u ∈ σ.rn ∧ v ∈ σ.row u)) (ku : (σ.rows2 u v).kw u = true) (kv : (σ.rows2 u v).kw v = true)
    (N : Tn prog w base os fr L H₀ ρ₀ p ra ka (lv sl pl p ra ka i raw kind u v fi se m k tr tk tu tv tf ts tm tkk j x one other ref) H ρ (σ.rows2 u v) s)
    (fin : ∀ s' H' ρ' σ' x one other ref, Tn prog w base os fr L H₀ ρ₀ p ra ka (lv sl pl p ra ka i raw kind u v fi se m k tr tk tu tv tf ts tm tkk j x one other ref) H' ρ' σ' s' → Inv P σ' → Q .next s') :
    wpAny (model prog w) A (execs frS (lE L)) Q E s := by
  have C := scLaw L
  obtain ⟨c1, c2, c3, c4, c5, c6, c7, c8, c9, c10⟩ := pair_first hP I hu hv huv hj ku kv
  have b1 := sb_first (σ.rows2 u v) u v
  have b2 := sb_first ((σ.rows2 u v).first u v) v u
  have T := two I hu hv huv hj
  have mu : u ∈ (σ.rows2 u v).rn := by rw [← T.rn, T.inv.rn]; exact T.mu
  have mv : v ∈ (σ.rows2 u v).rn := by rw [← T.rn, T.inv.rn]; exact T.mv
  have tail : ∀ s₄ H₄ ρ₄, Tn prog w base os fr L H₀ ρ₀ p ra ka (lv sl pl p ra ka i raw kind u v fi se m k tr tk tu tv tf ts tm tkk j x one other ref) H₄ ρ₄ (((σ.rows2 u v).first u v).first v u) s₄ → wpAny (model prog w) A (execs (frS.drop 1) (lE L)) Q E s₄ := by
    intro s₄ H₄ ρ₄ N₄
    refine fronts F Z huv (by rw [b2.rn, b1.rn]; exact mu) (by rw [b2.rn, b1.rn]; exact mv) ?_ ?_ N₄ fun s₅ H₅ one other N₅ => fin s₅ H₅ ρ₄ _ x one other ref N₅ ?_
    · rw [b2.row, b1.row]; exact (c10 u).elim id fun z => absurd rfl z.1
    · rw [b2.row, b1.row]; exact (c10 v).elim id fun z => absurd rfl z.2
    · rw [b2.row, b1.row]; exact c9
  refine x_if (b := kind == 5) N.st (tu_cmp (pu_i 9 C rfl rfl) pu_int cmp_eq) fun s₁ S₁ => ?_
  by_cases h5 : (kind == 5) = true
  · rw [h5]
    refine x_expr (ev_pic S₁ Z F.toKA F.mFirst N.rep N.p (pu_v 4 C rfl rfl) (fun _ _ _ _ _ => by cases (σ.rows2 u v).adj <;> rfl) rfl rfl fun s₂ S₂ => ?_)
    refine pu_v (env := lE L) 10 C rfl rfl _ _ _ _ S₂ fun _ s₃ e S₃ => ?_
    subst e
    refine pu_v (env := lE L) 11 C rfl rfl _ _ _ _ S₃ fun _ s₄ e S₄ => ?_
    subst e
    refine ⟨S₄.kin Z, first_ok F.toKH Z S₄ hh (by omega) N.rep N.p c3 c4 c1 c2 fun s₅ H₅ ρ₅ S₅ R₅ k₅ => ⟨rfl, ?_⟩⟩
    have N₅ := N.step S₅ R₅ k₅ loEdge
    refine x_expr (ev_pic S₅ Z F.toKA F.mFirst N₅.rep N₅.p (pu_v 4 C rfl rfl) (fun _ _ _ _ _ => by cases ((σ.rows2 u v).first u v).adj <;> rfl) rfl rfl fun s₂ S₂ => ?_)
    refine pu_v (env := lE L) 11 C rfl rfl _ _ _ _ S₂ fun _ s₃ e S₃ => ?_
    subst e
    refine pu_v (env := lE L) 10 C rfl rfl _ _ _ _ S₃ fun _ s₄ e S₄ => ?_
    subst e
    refine ⟨S₄.kin Z, first_ok F.toKH Z S₄ hh (by omega) N₅.rep N₅.p c7 c8 c5 c6 fun s₆ H₆ ρ₆ S₆ R₆ k₆ => ⟨rfl, ?_⟩⟩
    exact x_nil (tail s₆ H₆ ρ₆ (N₅.step S₆ R₆ k₆ loEdge))
  · have h5' : (kind == 5) = false := by simpa using h5
    rw [h5']
    refine x_expr (ev_pic S₁ Z F.toKA F.mConn N.rep N.p (pu_v 4 C rfl rfl) (fun _ _ _ _ _ => by cases (σ.rows2 u v).adj <;> rfl) rfl rfl fun s₂ S₂ => ?_)
    refine pu_v (env := lE L) 10 C rfl rfl _ _ _ _ S₂ fun _ s₃ e S₃ => ?_
    subst e
    refine pu_v (env := lE L) 11 C rfl rfl _ _ _ _ S₃ fun _ s₄ e S₄ => ?_
    subst e
    refine ⟨S₄.kin Z, conn_ok F.toKH Z S₄ hh (by omega) N.rep N.p c3 c4 c1 c2 c7 c8 c5 c6 fun s₅ H₅ ρ₅ S₅ R₅ k₅ => ⟨rfl, ?_⟩⟩
    exact x_nil (tail s₅ H₅ ρ₅ (N.step S₅ R₅ k₅ loConn))

/-- kind <= 6 and not joined -/
theorem brB (F : KZ prog K) (Z : Sta K base) (hh : A.handled = none) (hA : A.depth + 20 < recursionLimit) (hU : A.units + 60 < cLine) (hP : P.length = 5) (I : Inv P σ) (hu : u ∈ P) (hv : v ∈ P) (huv : u ≠ v) (hj : ¬ (u ∈ σ.rn ∧ v ∈ σ.row u)) (hf1 : 0 ≤ fi) (hf2 : fi < 4) (hs1 : 0 ≤ se) (hs2 : se < 4)
    (N : Tn prog w base os fr L H₀ ρ₀ p ra ka (lv sl pl p ra ka i raw kind u v fi se m k tr tk tu tv tf ts tm tkk j x one other ref) H ρ σ s)
    (fin : ∀ s' H' ρ' σ' x one other ref, Tn prog w base os fr L H₀ ρ₀ p ra ka (lv sl pl p ra ka i raw kind u v fi se m k tr tk tu tv tf ts tm tkk j x one other ref) H' ρ' σ' s' → Inv P σ' → Q .next s') :
    wpAny (model prog w) A (execs (ifB (elIf lawMid)) (lE L)) Q E s := by
  have C := scLaw L
  refine rows_two F Z hh hP I hu N fun s₁ H₁ ρ₁ x₁ N₁ => ?_
  have T := two I hu hv huv hj
  have e1 : (σ.rows2 u v).kn = (σ.rows2 u v).rn := by
    unfold Sg.rows2 Sg.addRow
    have := I.kn; have := I.rn
    split <;> split <;> simp_all
  have mu : u ∈ (σ.rows2 u v).kn := by rw [e1, ← T.rn, T.inv.rn]; exact T.mu
  have mv : v ∈ (σ.rows2 u v).kn := by rw [e1, ← T.rn, T.inv.rn]; exact T.mv
  obtain ⟨kk, ek, hkA, hku⟩ := kn_at N₁.rep N₁.ka mu
  obtain ⟨kk', ek', hkA', hkv⟩ := kn_at N₁.rep N₁.ka mv
  rw [hkA] at hkA'
  cases hkA'
  refine x_ifG (wpAny_isTrue_BoolOp (wpAny_allTrue_And_cons ((tu_cmp (fr := fr) (pu_i (env := lE L) 9 C rfl rfl) (pu_int (k := 5)) cmp_ge) _ _ _ _ N₁.st fun s₂ S₂ => ?_)))
  have puts : ∀ s₃, St prog w base os ((lE L, fm (lE L).scope.names (lv sl pl p ra ka i raw kind u v fi se m k tr tk tu tv tf ts tm tkk j x₁ one other ref)) :: fr) H₁ s₃ →
      wpAny (model prog w) A (execs (ifE (((ifB (elIf lawMid)).getLast?).getD (.Pass default))) (lE L)) (fun f s' => match f with | .next => wpAny (model prog w) A (execs [] (lE L)) Q E s' | f => Q f s') E s₃ := fun s₃ S₃ =>
    puts_two F Z hh hA hU hP I hu hv huv hj hf1 hf2 hs1 hs2 (N₁.st' S₃) fun s₄ H₄ ρ₄ σ₄ x₄ o₄ t₄ r₄ N₄ I₄ => x_nil (fin s₄ H₄ ρ₄ σ₄ x₄ o₄ t₄ r₄ N₄ I₄)
  by_cases h5 : (5 : Int) ≤ kind
  · rw [decide_eq_true h5]
    refine wpAny_allTrue_And_cons ((tu_val (pu_sub (env := lE L) (pu_v 6 C rfl rfl) (pu_i 10 C rfl rfl) hkA hku) tr_bool) _ _ _ _ S₂ fun s₃ S₃ => ?_)
    cases ku : (σ.rows2 u v).kw u with
    | false => exact puts s₃ S₃
    | true =>
      refine wpAny_allTrue_And_cons ((tu_val (pu_sub (env := lE L) (pu_v 6 C rfl rfl) (pu_i 11 C rfl rfl) hkA hkv) tr_bool) _ _ _ _ S₃ fun s₄ S₄ => ?_)
      cases kv : (σ.rows2 u v).kw v with
      | false => exact puts s₄ S₄
      | true =>
        refine wpAny_allTrue_And_nil ?_
        exact firsts F Z hh hA hP I hu hv huv hj ku kv (N₁.st' S₄) fun s₅ H₅ ρ₅ σ₅ x₅ o₅ t₅ r₅ N₅ I₅ => x_nil (fin s₅ H₅ ρ₅ σ₅ x₅ o₅ t₅ r₅ N₅ I₅)
  · rw [decide_eq_false h5]
    exact puts s₂ S₂
end
end Mine

end

section
open PySem PySem.W PyProof.Rows PySem.Calls
set_option Elab.async false
set_option maxRecDepth 100000
set_option linter.unusedVariables false
namespace Mine

def s7 : Stmt := elIf (elIf lawMid)
def s8 : Stmt := elIf s7
def s9 : Stmt := elIf s8
def s10 : Stmt := elIf s9
def s11 : Stmt := elIf s10

section
variable {prog : Program} {w : World} {K : Frag} {base : Heap} {os : Os} {A : Around} {E : Value → Shared → Prop} {fr : Frs} {H H' H₀ : Led} {s : Shared} {a p it ra ka sl pl L : Addr} {ρ ρ' ρ₀ : Rho} {σ σ' τ : Sg} {us : List Value} {ns : List Int} {env : Env} {vs : List (Option Value)}
  {P : List Int} {i x one other ref : Option Value} {raw kind u v fi se m k : Int} {tr tk tu tv tf ts tm tkk : Tok} {j : Bool} {Q : Flow → Shared → Prop}

theorem ev_lit_dict {x : Str} {n : Int} {c c' : Nat} {p1 p2 pos : Pos} {Q : Value → Shared → Prop} (S : St prog w base os fr H s) (q : ∀ v s', St prog w base os fr H s' → Q v s') :
    wpAny (model prog w) A (eval (.Dict [some (.Constant (.str x) c p1)] [.Constant (.int n) c' p2] pos) env) Q E s :=
  Dict_lits_str (D := [(.str x, .int n)]) rfl rfl (by simp [strKeysOf]) rfl rfl (by simp) (by simp) fun a o h₁ tk _ _ _ k => q _ _ (S.heap (S.wd.keeps k))

/-- _law_cut, twice -/
theorem cuts {rest : List Stmt} (F : KZ prog K) (Z : Sta K base) (hh : A.handled = none) (hA : A.depth + 20 < recursionLimit) (hU : A.units + 60 < cLine) (huv : u ≠ v)
    (c : u ∈ τ.rn ∧ u ∈ τ.kn ∧ v ∈ τ.row u ∧ (τ.row u).length ≤ 900 ∧ τ.kn.length ≤ 900 ∧ v ∈ (τ.cutRow u v).rn ∧ v ∈ (τ.cutRow u v).kn ∧ u ∈ (τ.cutRow u v).row v ∧ ((τ.cutRow u v).row v).length ≤ 900 ∧ (τ.cutRow u v).kn.length ≤ 900)
    (N : Tn prog w base os fr L H₀ ρ₀ p ra ka (lv sl pl p ra ka i raw kind u v fi se m k tr tk tu tv tf ts tm tkk j x one other ref) H ρ τ s)
    (fin : ∀ s' H', Tn prog w base os fr L H₀ ρ₀ p ra ka (lv sl pl p ra ka i raw kind u v fi se m k tr tk tu tv tf ts tm tkk j x one other ref) H' ρ ((τ.cutRow u v).cutRow v u) s' → wpAny (model prog w) A (execs rest (lE L)) Q E s')
    {q1 q2 q3 q4 q5 q6 q7 r1 r2 r3 r4 r5 r6 r7 : Pos} :
    wpAny (model prog w) A (execs (.Expr (.Call (.Name "_law_cut" q1) [.Name "rows" q2, .Name "known" q3, .Name "u" q4, .Name "v" q5] [] q6) q7 :: .Expr (.Call (.Name "_law_cut" r1) [.Name "rows" r2, .Name "known" r3, .Name "v" r4, .Name "u" r5] [] r6) r7 :: rest) (lE L)) Q E s := by
  have C := scLaw L
  obtain ⟨c1, c2, c3, c4, c5, c6, c7, c8, c9, c10⟩ := c
  refine x_expr (ev_call (nm_global (i := 24) N.st Z C rfl rfl F.km.gCut (cwK F.km.kCut rfl rfl ?_)))
  refine pu_v (env := lE L) 5 C rfl rfl _ _ _ _ N.st fun _ s₁ e S₁ => ?_
  subst e
  refine pu_v (env := lE L) 6 C rfl rfl _ _ _ _ S₁ fun _ s₂ e S₂ => ?_
  subst e
  refine pu_v (env := lE L) 10 C rfl rfl _ _ _ _ S₂ fun _ s₃ e S₃ => ?_
  subst e
  refine pu_v (env := lE L) 11 C rfl rfl _ _ _ _ S₃ fun _ s₄ e S₄ => ?_
  subst e
  refine ⟨S₄.kin Z, law_cut_ok F.km.cut Z S₄ hh (by omega) (by omega) N.rep N.ra N.ka c1 c2 c3 c4 c5 fun s₅ H₅ S₅ R₅ k₅ => ⟨rfl, ?_⟩⟩
  have N₅ := N.step S₅ R₅ k₅ loF
  refine x_expr (ev_call (nm_global (i := 24) N₅.st Z C rfl rfl F.km.gCut (cwK F.km.kCut rfl rfl ?_)))
  refine pu_v (env := lE L) 5 C rfl rfl _ _ _ _ N₅.st fun _ s₁ e S₁ => ?_
  subst e
  refine pu_v (env := lE L) 6 C rfl rfl _ _ _ _ S₁ fun _ s₂ e S₂ => ?_
  subst e
  refine pu_v (env := lE L) 11 C rfl rfl _ _ _ _ S₂ fun _ s₃ e S₃ => ?_
  subst e
  refine pu_v (env := lE L) 10 C rfl rfl _ _ _ _ S₃ fun _ s₄ e S₄ => ?_
  subst e
  refine ⟨S₄.kin Z, law_cut_ok F.km.cut Z S₄ hh (by omega) (by omega) N₅.rep N₅.ra N₅.ka c6 c7 c8 c9 c10 fun s₆ H₆ S₆ R₆ k₆ => ⟨rfl, ?_⟩⟩
  exact fin s₆ H₆ (N₅.step S₆ R₆ k₆ loF)

/-- kind == 7 -/
theorem br7 (F : KZ prog K) (Z : Sta K base) (hh : A.handled = none) (hf : A.frames = some (lE L :: fr.envs)) (hA : A.depth + 20 < recursionLimit) (hU : A.units + 60 < cLine) (hP : P.length = 5) (hpool : ∀ x ∈ P, 0 ≤ x ∧ x < 8000) (I : Inv P σ) (hu : u ∈ P) (hv : v ∈ P) (hj : j = decide (u ∈ σ.rn ∧ v ∈ σ.row u))
    (N : Tn prog w base os fr L H₀ ρ₀ p ra ka (lv sl pl p ra ka i raw kind u v fi se m k tr tk tu tv tf ts tm tkk j x one other ref) H ρ σ s)
    (fin : ∀ s' H' ρ' σ' x one other ref, Tn prog w base os fr L H₀ ρ₀ p ra ka (lv sl pl p ra ka i raw kind u v fi se m k tr tk tu tv tf ts tm tkk j x one other ref) H' ρ' σ' s' → Inv P σ' → Q .next s') :
    wpAny (model prog w) A (execs (ifB s7) (lE L)) Q E s := by
  have C := scLaw L
  refine x_if (b := j) N.st (tu_val (pu_v 15 C rfl rfl) tr_bool) fun s₁ S₁ => ?_
  by_cases hj' : u ∈ σ.rn ∧ v ∈ σ.row u
  · have hjt : j = true := by rw [hj]; exact decide_eq_true hj'
    rw [show (if j = true then (_ : List Stmt) else _) = _ from if_pos hjt]
    obtain ⟨I', c⟩ := inv_cut hP I (by rw [← I.rn]; exact hj'.1) hj'.2
    have J := joined_of hP I (by rw [← I.rn]; exact hj'.1) hj'.2
    refine x_expr (ev_pic S₁ Z F.toKA F.mRemEdge N.rep N.p (pu_v 4 C rfl rfl) (fun _ _ _ _ _ => by cases σ.adj <;> rfl) rfl rfl fun s₂ S₂ => ?_)
    refine pu_v (env := lE L) 10 C rfl rfl _ _ _ _ S₂ fun _ s₃ e S₃ => ?_
    subst e
    refine pu_v (env := lE L) 11 C rfl rfl _ _ _ _ S₃ fun _ s₄ e S₄ => ?_
    subst e
    refine ⟨S₄.kin Z, remEdge_ok F.toKI Z S₄ hh (by omega) N.rep N.p I.al (I.Sm hP) J fun s₅ H₅ S₅ R₅ k₅ => ⟨rfl, ?_⟩⟩
    have N₅ := N.step S₅ R₅ k₅ loF
    refine cuts F Z hh hA hU J.ne c N₅ fun s₆ H₆ N₆ => ?_
    exact x_nil (x_nil (fin s₆ H₆ ρ _ _ _ _ _ N₆ I'))
  · have hjt : j = false := by rw [hj]; exact decide_eq_false hj'
    rw [show (if j = true then (_ : List Stmt) else _) = _ from if_neg (by rw [hjt]; decide)]
    refine x_ifG (wpAny_isTrue_Not (wpAny_isTrue_value (ev_call (nm_global (i := 25) S₁ Z C rfl rfl F.gNoEdge (cwK F.kNoEdge rfl rfl ?_)))))
    refine pu_v (env := lE L) 4 C rfl rfl _ _ _ _ S₁ fun _ s₂ e S₂ => ?_
    subst e
    refine pu_v (env := lE L) 10 C rfl rfl _ _ _ _ S₂ fun _ s₃ e S₃ => ?_
    subst e
    refine pu_v (env := lE L) 11 C rfl rfl _ _ _ _ S₃ fun _ s₄ e S₄ => ?_
    subst e
    refine ⟨S₄.kin Z, law_no_edge_ok F.noEdge F.toKI Z S₄ hf hh (by omega) N.rep N.p (tame_pool hpool hu) (tame_pool hpool hv) (fun h1 h2 h3 => hj' ⟨by rw [I.rn]; exact h1, (I.go u h1).ps.mem_iff.mp h3⟩) fun s₅ S₅ => ?_⟩
    refine wpAny_truthy_bool ?_
    exact x_nil (x_nil (x_nil (fin s₅ H ρ σ _ _ _ _ (N.st' S₅) I)))

/-- _law_leave(rows, known, x) -/
theorem leave1 {rest : List Stmt} {nm : Str} (c : Nat) (F : KZ prog K) (Z : Sta K base) (hh : A.handled = none) (hA : A.depth + 20 < recursionLimit) (hU : A.units + 60 < cLine) {n : Int} {tn : Tok}
    (cl : n ∈ τ.rn ∧ n ∈ τ.kn ∧ (τ.row n).length ≤ 900 ∧ τ.kn.length ≤ 900 ∧ τ.rn.length ≤ 900 ∧
      ∀ (i : Nat) (v : Int), (τ.row n)[i]? = some v → v ∈ τ.rn ∧ v ∈ τ.kn ∧ n ∈ (τ.cutRows n ((τ.row n).take i)).row v ∧ ((τ.cutRows n ((τ.row n).take i)).row v).length ≤ 900)
    (N : Tn prog w base os fr L H₀ ρ₀ p ra ka (lv sl pl p ra ka i raw kind u v fi se m k tr tk tu tv tf ts tm tkk j x one other ref) H ρ τ s)
    (hn : (lE L).scope.names[c]? = some (nm, .local)) (hv : (lv sl pl p ra ka i raw kind u v fi se m k tr tk tu tv tf ts tm tkk j x one other ref)[c]? = some (some (.int n tn)))
    (fin : ∀ s' H', Tn prog w base os fr L H₀ ρ₀ p ra ka (lv sl pl p ra ka i raw kind u v fi se m k tr tk tu tv tf ts tm tkk j x one other ref) H' ρ (τ.leave n) s' → wpAny (model prog w) A (execs rest (lE L)) Q E s')
    {q1 q2 q3 q4 q5 q6 : Pos} :
    wpAny (model prog w) A (execs (.Expr (.Call (.Name "_law_leave" q1) [.Name "rows" q2, .Name "known" q3, .Name nm q4] [] q5) q6 :: rest) (lE L)) Q E s := by
  have C := scLaw L
  obtain ⟨c1, c2, c3, c4, c5, c6⟩ := cl
  refine x_expr (ev_call (nm_global (i := 26) N.st Z C rfl rfl F.gLeave (cwK F.kLeave rfl rfl ?_)))
  refine pu_v (env := lE L) 5 C rfl rfl _ _ _ _ N.st fun _ s₁ e S₁ => ?_
  subst e
  refine pu_v (env := lE L) 6 C rfl rfl _ _ _ _ S₁ fun _ s₂ e S₂ => ?_
  subst e
  refine pu_v (env := lE L) c C hn hv _ _ _ _ S₂ fun _ s₃ e S₃ => ?_
  subst e
  refine ⟨S₃.kin Z, law_leave_ok F.km Z S₃ hh (by omega) (by omega) N.rep N.ra N.ka c1 c2 c3 c4 c5 c6 fun s₅ H₅ S₅ R₅ k₅ => ⟨rfl, ?_⟩⟩
  exact fin s₅ H₅ (N.step S₅ R₅ k₅ loF)

/-- kind == 8 -/
theorem br8 (F : KZ prog K) (Z : Sta K base) (hh : A.handled = none) (hf : A.frames = some (lE L :: fr.envs)) (hA : A.depth + 20 < recursionLimit) (hU : A.units + 60 < cLine) (hP : P.length = 5) (hpool : ∀ x ∈ P, 0 ≤ x ∧ x < 8000) (I : Inv P σ) (hu : u ∈ P)
    (N : Tn prog w base os fr L H₀ ρ₀ p ra ka (lv sl pl p ra ka i raw kind u v fi se m k tr tk tu tv tf ts tm tkk j x one other ref) H ρ σ s)
    (fin : ∀ s' H' ρ' σ' x one other ref, Tn prog w base os fr L H₀ ρ₀ p ra ka (lv sl pl p ra ka i raw kind u v fi se m k tr tk tu tv tf ts tm tkk j x one other ref) H' ρ' σ' s' → Inv P σ' → Q .next s') :
    wpAny (model prog w) A (execs (ifB s8) (lE L)) Q E s := by
  have C := scLaw L
  refine x_if (b := decide (u ∈ σ.rn)) N.st (tu_rows N.rep N.ra (pu_i 10 C rfl rfl) (pu_v 5 C rfl rfl)) fun s₁ S₁ => ?_
  by_cases hm : u ∈ σ.rn
  · rw [show (if decide (u ∈ σ.rn) = true then (_ : List Stmt) else _) = _ from if_pos (decide_eq_true hm)]
    have hn : u ∈ σ.ns := by rw [← I.rn]; exact hm
    have cr := can_rem hP I .refl hn
    have I' := inv_leave hP I hn
    have sb : SameB σ (σ.remNode u) := sb_remNode (I.pond hn)
    refine x_expr (ev_pic S₁ Z F.toKA F.mRemNode N.rep N.p (pu_v 4 C rfl rfl) (fun _ _ _ _ _ => by cases σ.adj <;> rfl) rfl rfl fun s₂ S₂ => ?_)
    refine pu_v (env := lE L) 10 C rfl rfl _ _ _ _ S₂ fun _ s₃ e S₃ => ?_
    subst e
    refine ⟨S₃.kin Z, remNode_ok F.toKI Z S₃ hh (by omega) N.rep N.p I.al hn cr.st cr.rd fun s₅ H₅ S₅ R₅ k₅ => ⟨rfl, ?_⟩⟩
    have N₅ := N.step S₅ R₅ k₅ loF
    refine leave1 10 F Z hh hA hU (can_leave hP I sb hn) N₅ rfl rfl fun s₆ H₆ N₆ => ?_
    exact x_nil (x_nil (fin s₆ H₆ ρ _ _ _ _ _ N₆ I'))
  · rw [show (if decide (u ∈ σ.rn) = true then (_ : List Stmt) else _) = _ from if_neg (by rw [decide_eq_false hm]; decide)]
    refine x_ifG (wpAny_isTrue_Not (wpAny_isTrue_value (ev_call (nm_global (i := 27) S₁ Z C rfl rfl F.gNoNode (cwK F.kNoNode rfl rfl ?_)))))
    refine pu_v (env := lE L) 4 C rfl rfl _ _ _ _ S₁ fun _ s₂ e S₂ => ?_
    subst e
    refine pu_v (env := lE L) 10 C rfl rfl _ _ _ _ S₂ fun _ s₃ e S₃ => ?_
    subst e
    refine ⟨S₃.kin Z, law_no_node_ok F.noNode F.toKI Z S₃ hf hh (by omega) N.rep N.p I.al (tame_pool hpool hu) (by rw [← I.rn]; exact hm) fun s₅ S₅ => ?_⟩
    refine wpAny_truthy_bool ?_
    exact x_nil (x_nil (x_nil (fin s₅ H ρ σ _ _ _ _ (N.st' S₅) I)))

/-- kind == 9 -/
theorem br9 (F : KZ prog K) (Z : Sta K base) (hh : A.handled = none) (hA : A.depth + 20 < recursionLimit) (hU : A.units + 60 < cLine) (hP : P.length = 5) (I : Inv P σ) (hj : j = decide (u ∈ σ.rn ∧ v ∈ σ.row u))
    (N : Tn prog w base os fr L H₀ ρ₀ p ra ka (lv sl pl p ra ka i raw kind u v fi se m k tr tk tu tv tf ts tm tkk j x one other ref) H ρ σ s)
    (fin : ∀ s' H' ρ' σ' x one other ref, Tn prog w base os fr L H₀ ρ₀ p ra ka (lv sl pl p ra ka i raw kind u v fi se m k tr tk tu tv tf ts tm tkk j x one other ref) H' ρ' σ' s' → Inv P σ' → Q .next s') :
    wpAny (model prog w) A (execs (ifB s9) (lE L)) Q E s := by
  have C := scLaw L
  have al' : (σ.remIf u v).Al ∧ (σ.remIf u v).Sm ∧ (u ∈ σ.ns → v ∈ σ.so u → σ.Joined u v) ∧ (v ∈ (σ.remIf u v).ns → u ∈ (σ.remIf u v).so v → (σ.remIf u v).Joined v u) ∧ ((σ.remIf u v).remIf v u = if u ∈ σ.rn ∧ v ∈ σ.row u then σ.remEdge u v else σ) := by
    by_cases hj' : u ∈ σ.rn ∧ v ∈ σ.row u
    · have hn : u ∈ σ.ns := by rw [← I.rn]; exact hj'.1
      obtain ⟨e1, e2, e3, e4⟩ := remIf_yes hP I hn hj'.2
      have J := joined_of hP I hn hj'.2
      rw [e1, e2, if_pos hj']
      refine ⟨e3, e4, fun _ _ => J, fun _ h2 => ?_, rfl⟩
      obtain ⟨_, _, _, _, e8, _⟩ := remEdge_f σ J.ne
      rw [e8, if_neg (Ne.symm J.ne), if_pos rfl] at h2
      simp at h2
    · obtain ⟨e1, e2⟩ := remIf_no I hj'
      rw [e1, e2, if_neg hj']
      refine ⟨I.al, I.Sm hP, fun h1 h2 => absurd ⟨by rw [I.rn]; exact h1, (I.go u h1).ps.mem_iff.mp h2⟩ hj', fun h1 h2 => ?_, rfl⟩
      obtain ⟨q1, q2⟩ := I.sym v h1 u ((I.go v h1).ps.mem_iff.mp h2)
      exact absurd ⟨by rw [I.rn]; exact q1, q2⟩ hj'
  obtain ⟨a1, a2, a3, a4, a5⟩ := al'
  refine x_expr (ev_pic N.st Z F.toKA F.mRemEdges N.rep N.p (pu_v 4 C rfl rfl) (fun _ _ _ _ _ => by cases σ.adj <;> rfl) rfl rfl fun s₁ S₁ => ?_)
  refine ev_list (base := base) (os := os) rfl ?_
  refine ev_tuple (base := base) (os := os) rfl ?_
  refine pu_v (env := lE L) 10 C rfl rfl _ _ _ _ S₁ fun _ s₂ e S₂ => ?_
  subst e
  refine pu_v (env := lE L) 11 C rfl rfl _ _ _ _ S₂ fun _ s₃ e S₃ => ?_
  subst e
  refine ⟨by simp, _, _, S₃, fun t₁ s₄ h₁ S₄ => ?_⟩
  refine ev_tuple (base := base) (os := os) rfl ?_
  refine pu_v (env := lE L) 11 C rfl rfl _ _ _ _ S₄ fun _ s₅ e S₅ => ?_
  subst e
  refine pu_v (env := lE L) 10 C rfl rfl _ _ _ _ S₅ fun _ s₆ e S₆ => ?_
  subst e
  refine ev_lit_dict S₆ fun d s₇ S₇ => ?_
  refine ⟨by simp, _, _, S₇, fun t₂ s₈ h₂ S₈ => ?_⟩
  refine ⟨by simp, _, _, S₈, fun l s₉ h₃ S₉ => ⟨S₉.kin Z, ?_⟩⟩
  have n12 : t₁ ≠ t₂ := fun z => by rw [← z, upd_self] at h₂; cases h₂
  have n2l : t₂ ≠ l := fun z => by rw [← z, upd_self] at h₃; cases h₃
  have n1l : t₁ ≠ l := fun z => by rw [← z, upd_ne _ _ n12, upd_self] at h₃; cases h₃
  have hl0 : H l = none := by rw [upd_ne _ _ (Ne.symm n2l), upd_ne _ _ (Ne.symm n1l)] at h₃; exact h₃
  have h20 : H t₂ = none := by rw [upd_ne _ _ (Ne.symm n12)] at h₂; exact h₂
  have r1 := N.rep.none h₁
  have r2 := N.rep.none h20
  have rl := N.rep.none hl0
  have R₉ := ((N.rep.temp r1 (.tu [.int u tu, .int v tv])).temp r2 (.tu [.int v tv, .int u tu, d])).temp rl (.li [.ref t₁, .ref t₂])
  have k₉ : Keep (fun _ => False) H ρ _ ρ := ((Keep.refl.new (d := .tu [.int u tu, .int v tv]) h₁).new (d := .tu [.int v tv, .int u tu, d]) h20).new (d := .li [.ref t₁, .ref t₂]) hl0
  have N₉ := N.step S₉ R₉ k₉ loF
  refine remEdges_ok F.toKI Z S₉ hh (by omega) R₉ N.p I.al (I.Sm hP) a1 a2 (upd_self ..) ((upd_ne _ _ n1l).trans ((upd_ne _ _ n12).trans (upd_self ..))) ((upd_ne _ _ n2l).trans (upd_self ..)) rl r1 r2 a3 a4 fun s₁₀ H₁₀ S₁₀ R₁₀ k₁₀ => ⟨rfl, ?_⟩
  have N₁₀ := N₉.step S₁₀ R₁₀ k₁₀ loF
  rw [a5] at N₁₀
  refine x_if (b := j) N₁₀.st (tu_val (pu_v 15 C rfl rfl) tr_bool) fun s₁₁ S₁₁ => ?_
  by_cases hj' : u ∈ σ.rn ∧ v ∈ σ.row u
  · have hjt : j = true := by rw [hj]; exact decide_eq_true hj'
    rw [show (if j = true then (_ : List Stmt) else _) = _ from if_pos hjt]
    rw [if_pos hj'] at N₁₀
    obtain ⟨I', c⟩ := inv_cut hP I (by rw [← I.rn]; exact hj'.1) hj'.2
    have J := joined_of hP I (by rw [← I.rn]; exact hj'.1) hj'.2
    refine cuts F Z hh hA hU J.ne c (N₁₀.st' S₁₁) fun s₆ H₆ N₆ => ?_
    exact x_nil (x_nil (fin s₆ H₆ ρ _ _ _ _ _ N₆ I'))
  · have hjt : j = false := by rw [hj]; exact decide_eq_false hj'
    rw [show (if j = true then (_ : List Stmt) else _) = _ from if_neg (by rw [hjt]; decide)]
    rw [if_neg hj'] at N₁₀
    exact x_nil (x_nil (fin s₁₁ H₁₀ ρ σ _ _ _ _ (N₁₀.st' S₁₁) I))
end
end Mine

end

section
open PySem PySem.W PyProof.Rows PySem.Calls
set_option Elab.async false
set_option maxRecDepth 100000
set_option linter.unusedVariables false
namespace Mine

section
variable {prog : Program} {w : World} {K : Frag} {base : Heap} {os : Os} {A : Around} {E : Value → Shared → Prop} {fr : Frs} {H H' H₀ : Led} {s : Shared} {a p it ra ka sl pl L : Addr} {ρ ρ' ρ₀ : Rho} {σ σ' τ : Sg} {us : List Value} {ns : List Int} {env : Env} {vs : List (Option Value)}
  {P : List Int} {x one other ref : Option Value} {raw kind u v fi se m k : Int} {tr tk tu tv tf ts tm tkk : Tok} {j : Bool} {Q : Flow → Shared → Prop}

/-- if x in rows: _law_leave(rows, known, x) -/
theorem leaveIf1 {i : Option Value} {rest : List Stmt} (F : KZ prog K) (Z : Sta K base) (hh : A.handled = none) (hA : A.depth + 20 < recursionLimit) (hU : A.units + 60 < cLine) {n : Int} {tn : Tok}
    (cl : n ∈ τ.rn → n ∈ τ.rn ∧ n ∈ τ.kn ∧ (τ.row n).length ≤ 900 ∧ τ.kn.length ≤ 900 ∧ τ.rn.length ≤ 900 ∧
      ∀ (i : Nat) (v : Int), (τ.row n)[i]? = some v → v ∈ τ.rn ∧ v ∈ τ.kn ∧ n ∈ (τ.cutRows n ((τ.row n).take i)).row v ∧ ((τ.cutRows n ((τ.row n).take i)).row v).length ≤ 900)
    (N : Tn prog w base os fr L H₀ ρ₀ p ra ka (lv sl pl p ra ka i raw kind u v fi se m k tr tk tu tv tf ts tm tkk j (some (.int n tn)) one other ref) H ρ τ s)
    (fin : ∀ s' H', Tn prog w base os fr L H₀ ρ₀ p ra ka (lv sl pl p ra ka i raw kind u v fi se m k tr tk tu tv tf ts tm tkk j (some (.int n tn)) one other ref) H' ρ (τ.leaveIf n) s' → wpAny (model prog w) A (execs rest (lE L)) Q E s')
    {q1 q2 q3 q4 q5 q6 q7 q8 q9 q10 : Pos} :
    wpAny (model prog w) A (execs (.If (.Compare (.Name "x" q7) [.In] [.Name "rows" q8] q9) [.Expr (.Call (.Name "_law_leave" q1) [.Name "rows" q2, .Name "known" q3, .Name "x" q4] [] q5) q6] [] q10 :: rest) (lE L)) Q E s := by
  have C := scLaw L
  refine x_if (b := decide (n ∈ τ.rn)) N.st (tu_rows N.rep N.ra (pu_i 16 C rfl rfl) (pu_v 5 C rfl rfl)) fun s₁ S₁ => ?_
  unfold Sg.leaveIf at fin
  by_cases hm : n ∈ τ.rn
  · rw [if_pos hm] at fin
    rw [if_pos (decide_eq_true hm)]
    exact leave1 16 F Z hh hA hU (cl hm) (N.st' S₁) rfl rfl fun s₆ H₆ N₆ => x_nil (fin s₆ H₆ N₆)
  · rw [if_neg hm] at fin
    rw [if_neg (by rw [decide_eq_false hm]; decide)]
    exact x_nil (fin s₁ H (N.st' S₁))

/-- kind == 10 -/
theorem br10 {i₀ : Option Value} (F : KZ prog K) (Z : Sta K base) (hh : A.handled = none) (hA : A.depth + 20 < recursionLimit) (hU : A.units + 60 < cLine) (hP : P.length = 5) (I : Inv P σ)
    (N : Tn prog w base os fr L H₀ ρ₀ p ra ka (lv sl pl p ra ka i₀ raw kind u v fi se m k tr tk tu tv tf ts tm tkk j x one other ref) H ρ σ s)
    (fin : ∀ s' H' ρ' σ' x one other ref, Tn prog w base os fr L H₀ ρ₀ p ra ka (lv sl pl p ra ka i₀ raw kind u v fi se m k tr tk tu tv tf ts tm tkk j x one other ref) H' ρ' σ' s' → Inv P σ' → Q .next s') :
    wpAny (model prog w) A (execs (ifB s10) (lE L)) Q E s := by
  have C := scLaw L
  obtain ⟨a1, a2, a3, a4, a5, a6, a7, a8, a9⟩ := pair_leave hP I u v
  refine x_expr (ev_pic N.st Z F.toKA F.mRemNodes N.rep N.p (pu_v 4 C rfl rfl) (fun _ _ _ _ _ => by cases σ.adj <;> rfl) rfl rfl fun s₁ S₁ => ?_)
  refine ev_list (base := base) (os := os) rfl ?_
  refine pu_v (env := lE L) 10 C rfl rfl _ _ _ _ S₁ fun _ s₂ e S₂ => ?_
  subst e
  refine pu_v (env := lE L) 11 C rfl rfl _ _ _ _ S₂ fun _ s₃ e S₃ => ?_
  subst e
  refine ⟨by simp, _, _, S₃, fun l s₄ hl S₄ => ⟨S₄.kin Z, ?_⟩⟩
  have rl := N.rep.none hl
  have N₄ := N.step S₄ (N.rep.temp rl (.li [.int u tu, .int v tv])) (Keep.refl.new (T := fun _ => False) hl) loF
  refine remNodes_ok F.toKI Z S₄ hh (by omega) N₄.rep N₄.p I.al (I.Sm hP) a1 a2 (upd_self ..) rl a3 a4 fun s₅ H₅ S₅ R₅ k₅ => ⟨rfl, ?_⟩
  have N₅ := N₄.step S₅ R₅ k₅ loF
  generalize (σ.remNodeIf u).remNodeIf v = σ₂ at *
  generalize (σ.remNodeIf u).leaveIf u = τ₁ at *
  refine for_two (τ := fun i => match i with | 0 => σ₂ | 1 => σ₂.leaveIf u | _ => (σ₂.leaveIf u).leaveIf v) hh N₅ (pu_v 10 C rfl rfl) (pu_v 11 C rfl rfl) rfl rfl (fun i s₁ H₁ ρ₁ hi N₁ => ?_) fun s₁ H₁ ρ₁ x N₁ => x_nil (fin s₁ H₁ ρ₁ _ x _ _ _ N₁ a9)
  rcases (show i = 0 ∨ i = 1 by omega) with h0 | h0
  · subst h0
    replace N₁ : Tn prog w base os fr L H₁ ρ₁ p ra ka (lv sl pl p ra ka i₀ raw kind u v fi se m k tr tk tu tv tf ts tm tkk j (some (.int u tu)) one other ref) H₁ ρ₁ σ₂ s₁ := N₁
    refine leaveIf1 F Z hh hA hU (fun h => can_leave hP I a6 (by rw [a6.rn, I.rn] at h; exact h)) N₁ fun s₂ H₂ N₂ => ?_
    exact x_nil ⟨rfl, H₂, ρ₁, N₂⟩
  · subst h0
    replace N₁ : Tn prog w base os fr L H₁ ρ₁ p ra ka (lv sl pl p ra ka i₀ raw kind u v fi se m k tr tk tu tv tf ts tm tkk j (some (.int v tv)) one other ref) H₁ ρ₁ (σ₂.leaveIf u) s₁ := N₁
    refine leaveIf1 F Z hh hA hU (fun h => can_leave hP a8 a7 (by rw [a7.rn, a8.rn] at h; exact h)) N₁ fun s₂ H₂ N₂ => ?_
    exact x_nil ⟨rfl, H₂, ρ₁, N₂⟩

/-- a wrong call is refused: not _law_bad(..) is False -/
theorem bad_call {i : Option Value} {e₃ e₄ e₅ : PySem.Expr} {q1 q2 q3 q4 q5 : Pos} {f : Int} {Q : Bool → Shared → Prop} {whole : Sem Value} (F : KZ prog K) (Z : Sta K base) (hh : A.handled = none) (hf : A.frames = some (lE L :: fr.envs)) (hA : A.depth + 20 < recursionLimit) (hP : P.length = 5) (I : Inv P σ)
    (N : Tn prog w base os fr L H₀ ρ₀ p ra ka (lv sl pl p ra ka i raw kind u v fi se m k tr tk tu tv tf ts tm tkk j x one other ref) H ρ σ s)
    (h3 : Pu prog w base os fr H (lE L) (lv sl pl p ra ka i raw kind u v fi se m k tr tk tu tv tf ts tm tkk j x one other ref) e₃ (IsI f))
    {V V' : Value → Prop}
    (h4 : Pu prog w base os fr H (lE L) (lv sl pl p ra ka i raw kind u v fi se m k tr tk tu tv tf ts tm tkk j x one other ref) e₄ V)
    (h5 : Pu prog w base os fr H (lE L) (lv sl pl p ra ka i raw kind u v fi se m k tr tk tu tv tf ts tm tkk j x one other ref) e₅ V') (hp : [e₃, e₄, e₅].all plainE = true)
    (hb : ∀ c cc, V c → V' cc → σ.Bad u c cc)
    (q : ∀ s', Tn prog w base os fr L H₀ ρ₀ p ra ka (lv sl pl p ra ka i raw kind u v fi se m k tr tk tu tv tf ts tm tkk j x one other ref) H ρ σ s' → Q false s') :
    wpAny (model prog w) A (isTrue (.UnaryOp .Not (.Call (.Name "_law_bad" q1) [.Name "picture" q2, .Name "u" q3, e₃, e₄, e₅] [] q4) q5) (lE L) whole) Q E s := by
  have C := scLaw L
  refine wpAny_isTrue_Not (wpAny_isTrue_value (ev_call (nm_global (i := 28) N.st Z C rfl rfl F.gBad (cwK F.kBad (by simp only [List.all_cons, List.all_nil, Bool.and_true, Bool.and_eq_true] at hp ⊢; exact ⟨rfl, rfl, hp⟩) rfl ?_))))
  refine pu_v (env := lE L) 4 C rfl rfl _ _ _ _ N.st fun _ s₁ e S₁ => ?_
  subst e
  refine pu_v (env := lE L) 10 C rfl rfl _ _ _ _ S₁ fun _ s₂ e S₂ => ?_
  subst e
  refine h3 _ _ _ _ S₂ fun _ s₃ ⟨t3, e⟩ S₃ => ?_
  subst e
  refine h4 _ _ _ _ S₃ fun c s₄ hc S₄ => ?_
  refine h5 _ _ _ _ S₄ fun cc s₅ hcc S₅ => ?_
  refine ⟨S₅.kin Z, law_bad_ok F.bad F.toKG Z S₅ hf hh (by omega) N.rep N.p (I.Sm hP) (hb c cc hc hcc) fun s₆ S₆ => ?_⟩
  refine wpAny_truthy_bool ?_
  exact q s₆ (N.st' S₆)

/-- kind == 11 -/
theorem br11 {i : Option Value} (F : KZ prog K) (Z : Sta K base) (hh : A.handled = none) (hf : A.frames = some (lE L :: fr.envs)) (hA : A.depth + 20 < recursionLimit) (hU : A.units + 60 < cLine) (hP : P.length = 5) (hpool : ∀ x ∈ P, 0 ≤ x ∧ x < 8000) (I : Inv P σ)
    (N : Tn prog w base os fr L H₀ ρ₀ p ra ka (lv sl pl p ra ka i raw kind u v fi se m k tr tk tu tv tf ts tm tkk j x one other ref) H ρ σ s)
    (fin : ∀ s' H' ρ' σ' x one other ref, Tn prog w base os fr L H₀ ρ₀ p ra ka (lv sl pl p ra ka i raw kind u v fi se m k tr tk tu tv tf ts tm tkk j x one other ref) H' ρ' σ' s' → Inv P σ' → Q .next s') :
    wpAny (model prog w) A (execs (ifB s11) (lE L)) Q E s := by
  have C := scLaw L
  refine x_ifG (wpAny_isTrue_BoolOp (wpAny_allTrue_Or_cons (bad_call F Z hh hf hA hP I N pu_int pu_int pu_none rfl (fun c cc ⟨t, e⟩ e' => by subst e; subst e'; exact (bad_ref hpool I (by decide) t).1) fun s₁ N₁ => ?_)))
  refine wpAny_allTrue_Or_cons (bad_call F Z hh hf hA hP I N₁ pu_int pu_none pu_int rfl (fun c cc e' ⟨t, e⟩ => by subst e; subst e'; exact (bad_ref hpool I (by decide) t).2) fun s₂ N₂ => ?_)
  refine wpAny_allTrue_Or_nil ?_
  refine x_nil ?_
  refine x_ifG (wpAny_isTrue_BoolOp (wpAny_allTrue_And_cons ((tu_rows (fr := fr) N₂.rep N₂.ra (pu_i (env := lE L) 10 C rfl rfl) (pu_v 5 C rfl rfl)) _ _ _ _ N₂.st fun s₃ S₃ => ?_)))
  have N₃ := N₂.st' S₃
  by_cases hm : u ∈ σ.rn
  · rw [decide_eq_true hm]
    have hn : u ∈ σ.ns := by rw [← I.rn]; exact hm
    obtain ⟨kr, er, hrA, rr⟩ := N₃.rep.rows N₃.ra
    obtain ⟨aL, hvL, hrL⟩ := rr.find hm
    obtain ⟨us, hL, hI⟩ := N₃.rep.row hrL
    have hlen := hI.length
    have h4 := I.row4 hP hn
    refine wpAny_allTrue_And_cons (tu_neNil (pu_sub (pu_v 5 C rfl rfl) (pu_i 10 C rfl rfl) hrA hvL) hL hI (by omega) S₃ fun s₄ S₄ => ?_)
    have N₄ := N₃.st' S₄
    by_cases he : σ.row u = []
    · rw [he]
      exact x_nil (x_nil (fin s₄ H ρ σ _ _ _ _ N₄ I))
    · have he' : (σ.row u != []) = true := by simpa using he
      rw [he']
      refine wpAny_allTrue_And_nil ?_
      have hpos : 0 < (σ.row u).length := List.length_pos_iff.mpr he
      refine x_as 19 S₄ C rfl (pu_item (pu_sub (pu_v 5 C rfl rfl) (pu_i 10 C rfl rfl) hrA hvL) (pu_int (k := 0)) hL hI (by omega) (by decide) (by omega)) (by show 19 < 20; decide) fun r s₅ hr S₅ => ?_
      obtain ⟨t5, rfl⟩ := hr
      have N₅ := N₄.st' S₅
      refine x_ifG (wpAny_isTrue_BoolOp (wpAny_allTrue_Or_cons (bad_call F Z hh hf hA hP I N₅ pu_int pu_none pu_none rfl (fun c cc e e' => by subst e; subst e'; exact (bad_both I hn he 0 0 0).1) fun s₆ N₆ => ?_)))
      refine wpAny_allTrue_Or_cons (bad_call F Z hh hf hA hP I N₆ pu_int (pu_i 19 C rfl rfl) (pu_i 19 C rfl rfl) rfl (fun c cc ⟨t, e⟩ ⟨t', e'⟩ => by subst e; subst e'; exact (bad_both I hn he _ t t').2) fun s₇ N₇ => ?_)
      refine wpAny_allTrue_Or_nil ?_
      exact x_nil (x_nil (x_nil (fin s₇ H ρ σ _ _ _ _ N₇ I)))
  · rw [decide_eq_false hm]
    exact x_nil (x_nil (fin s₃ H ρ σ _ _ _ _ N₃ I))
end
end Mine

end

section
open PySem PySem.W PyProof.Rows PySem.Calls
set_option Elab.async false
set_option maxRecDepth 100000
set_option linter.unusedVariables false
namespace Mine

section
variable {prog : Program} {w : World} {K : Frag} {base : Heap} {os : Os} {A : Around} {E : Value → Shared → Prop} {fr : Frs} {H H' H₀ : Led} {s : Shared} {a p it ra ka sl pl L : Addr} {ρ ρ' ρ₀ : Rho} {σ σ' τ : Sg} {us : List Value} {ns : List Int} {env : Env} {vs : List (Option Value)}
  {P : List Int} {i x one other ref : Option Value} {raw kind u v fi se m k : Int} {tr tk tu tv tf ts tm tkk : Tok} {j : Bool} {Q : Flow → Shared → Prop}

/-- what the turn does to the picture and the books -/
theorem mid (F : KZ prog K) (Z : Sta K base) (hh : A.handled = none) (hf : A.frames = some (lE L :: fr.envs)) (hA : A.depth + 20 < recursionLimit) (hU : A.units + 60 < cLine) (hP : P.length = 5) (hpool : ∀ x ∈ P, 0 ≤ x ∧ x < 8000) (I : Inv P σ) (hu : u ∈ P) (hv : v ∈ P) (hj : j = decide (u ∈ σ.rn ∧ v ∈ σ.row u)) (hf1 : 0 ≤ fi) (hf2 : fi < 4) (hs1 : 0 ≤ se) (hs2 : se < 4)
    (N : Tn prog w base os fr L H₀ ρ₀ p ra ka (lv sl pl p ra ka i raw kind u v fi se m k tr tk tu tv tf ts tm tkk j x one other ref) H ρ σ s)
    (fin : ∀ s' H' ρ' σ' x one other ref, Tn prog w base os fr L H₀ ρ₀ p ra ka (lv sl pl p ra ka i raw kind u v fi se m k tr tk tu tv tf ts tm tkk j x one other ref) H' ρ' σ' s' → Inv P σ' → Q .next s') :
    wpAny (model prog w) A (exec lawMid (lE L)) Q E s := by
  have C := scLaw L
  refine wpAny_If ((tu_and (fr := fr) (tu_cmp (pu_i (env := lE L) 9 C rfl rfl) (pu_int (k := 6)) cmp_le) (fun _ => tu_cmp (pu_i 10 C rfl rfl) (pu_i 11 C rfl rfl) cmp_eq)) _ _ _ _ N.st fun s₁ S₁ => ?_)
  have N₁ := N.st' S₁
  by_cases hA1 : (decide (kind ≤ 6) && (u == v)) = true
  · rw [if_pos hA1]
    exact brA F Z hA hP I hu N₁ fin
  rw [if_neg hA1]
  refine x_if (fr := fr) (b := decide (kind ≤ 6) && !j) S₁ (tu_and (tu_cmp (pu_i (env := lE L) 9 C rfl rfl) (pu_int (k := 6)) cmp_le) (fun _ => tu_not (tu_val (pu_v 15 C rfl rfl) tr_bool))) fun s₂ S₂ => ?_
  have N₂ := N₁.st' S₂
  by_cases hB : (decide (kind ≤ 6) && !j) = true
  · rw [if_pos hB]
    simp only [Bool.and_eq_true, decide_eq_true_eq, Bool.not_eq_true'] at hB hA1
    have huv : u ≠ v := fun z => hA1 ⟨hB.1, by simpa using z⟩
    have hj' : ¬ (u ∈ σ.rn ∧ v ∈ σ.row u) := by rw [hj] at hB; exact of_decide_eq_false hB.2
    exact brB F Z hh hA hU hP I hu hv huv hj' hf1 hf2 hs1 hs2 N₂ fun s' H' ρ' σ' x o t r n i => x_nil (fin s' H' ρ' σ' x o t r n i)
  rw [if_neg hB]
  refine x_if (fr := fr) (b := kind == 7) S₂ (tu_cmp (pu_i (env := lE L) 9 C rfl rfl) (pu_int (k := 7)) cmp_eq) fun s₃ S₃ => ?_
  have N₃ := N₂.st' S₃
  by_cases h7 : (kind == 7) = true
  · rw [if_pos h7]
    exact br7 F Z hh hf hA hU hP hpool I hu hv hj N₃ fun s' H' ρ' σ' x o t r n i => x_nil (x_nil (fin s' H' ρ' σ' x o t r n i))
  rw [if_neg h7]
  refine x_if (fr := fr) (b := kind == 8) S₃ (tu_cmp (pu_i (env := lE L) 9 C rfl rfl) (pu_int (k := 8)) cmp_eq) fun s₄ S₄ => ?_
  have N₄ := N₃.st' S₄
  by_cases h8 : (kind == 8) = true
  · rw [if_pos h8]
    exact br8 F Z hh hf hA hU hP hpool I hu N₄ fun s' H' ρ' σ' x o t r n i => x_nil (x_nil (x_nil (fin s' H' ρ' σ' x o t r n i)))
  rw [if_neg h8]
  refine x_if (fr := fr) (b := kind == 9) S₄ (tu_cmp (pu_i (env := lE L) 9 C rfl rfl) (pu_int (k := 9)) cmp_eq) fun s₅ S₅ => ?_
  have N₅ := N₄.st' S₅
  by_cases h9 : (kind == 9) = true
  · rw [if_pos h9]
    exact br9 F Z hh hA hU hP I hj N₅ fun s' H' ρ' σ' x o t r n i => x_nil (x_nil (x_nil (x_nil (fin s' H' ρ' σ' x o t r n i))))
  rw [if_neg h9]
  refine x_if (fr := fr) (b := kind == 10) S₅ (tu_cmp (pu_i (env := lE L) 9 C rfl rfl) (pu_int (k := 10)) cmp_eq) fun s₆ S₆ => ?_
  have N₆ := N₅.st' S₆
  by_cases h10 : (kind == 10) = true
  · rw [if_pos h10]
    exact br10 F Z hh hA hU hP I N₆ fun s' H' ρ' σ' x o t r n i => x_nil (x_nil (x_nil (x_nil (x_nil (fin s' H' ρ' σ' x o t r n i)))))
  rw [if_neg h10]
  refine x_if (fr := fr) (b := kind == 11) S₆ (tu_cmp (pu_i (env := lE L) 9 C rfl rfl) (pu_int (k := 11)) cmp_eq) fun s₇ S₇ => ?_
  have N₇ := N₆.st' S₇
  by_cases h11 : (kind == 11) = true
  · rw [if_pos h11]
    exact br11 F Z hh hf hA hU hP hpool I N₇ fun s' H' ρ' σ' x o t r n i => x_nil (x_nil (x_nil (x_nil (x_nil (x_nil (fin s' H' ρ' σ' x o t r n i))))))
  rw [if_neg h11]
  exact x_nil (x_nil (x_nil (x_nil (x_nil (x_nil (x_nil (fin s₇ H ρ σ _ _ _ _ N₇ I)))))))

theorem n_isVal {M : Model} {e : PySem.Expr} {whole : Sem Value} {Q : Bool → Shared → Prop} (h : wpN M A whole (fun v s₁ => wpAny M A (truthy v) Q E s₁) E s)
    (he : isTrue e env whole = (do let v ← whole; standAt e.pos; holding [v] (truthy v)) := by rfl) : wpN M A (isTrue e env whole) Q E s := by
  rw [he]
  exact n_bind (n_mono h (fun v s₁ h₁ => n_any (wpAny_bind (wpAny_standAt (wpAny_holding h₁)))) fun _ _ x => x)

/-- one turn of the law -/
theorem turn {C : Addr} {oc : Obj} {nb : Addr} {usN usP : List Value} {nums : List Int} {ii : Int} {ti : Tok} {k0 y0 y1 y2 y3 y4 y5 y6 y7 y8 y9 y10 y11 : Option Value} (hfix : os.fix = none) (F : KZ prog K) (Z : Sta K base) (hh : A.handled = none) (hf : A.frames = some (lE L :: fr.envs)) (hA : A.depth + 20 < recursionLimit) (hU : A.units + 60 < cLine) (hP : P.length = 5) (hpool : ∀ x ∈ P, 0 ≤ x ∧ x < 8000) (I : Inv P σ)
    (hc : (lE L).cells.lookup ("numbers" : Str) = some C) (eC : H C = some (.raw oc)) (hd : oc.data = .cell (some (.ref nb))) (eN : H nb = some (.li usN)) (iN : IntsAre usN nums) (lN : nums.length = 22) (eP : H pl = some (.li usP)) (iP : IntsAre usP P) (h0 : 0 ≤ ii) (h16 : ii < 16)
    (N : Tn prog w base os fr L H₀ ρ₀ p ra ka [some (.ref sl), none, k0, some (.ref pl), some (.ref p), some (.ref ra), some (.ref ka), some (.int ii ti), y0, y1, y2, y3, y4, y5, y6, y7, y8, y9, y10, y11] H ρ σ s)
    {Q : Flow → Shared → Prop}
    (fin : ∀ s' H' ρ' σ' k0 y0 y1 y2 y3 y4 y5 y6 y7 y8 y9 y10 y11, Tn prog w base os fr L H₀ ρ₀ p ra ka [some (.ref sl), none, k0, some (.ref pl), some (.ref p), some (.ref ra), some (.ref ka), some (.int ii ti), y0, y1, y2, y3, y4, y5, y6, y7, y8, y9, y10, y11] H' ρ' σ' s' → Inv P σ' → Q .next s') :
    wpN (model prog w) A (execs lawLoop (lE L)) Q No s := by
  have Cs := scLaw L
  have hln := iN.length
  have hlp := iP.length
  have b5 : ∀ x : Int, 0 ≤ x.fmod 5 ∧ x.fmod 5 < P.length := fun x => ⟨Int.fmod_nonneg_of_pos _ (by decide), by rw [hP]; exact Int.fmod_lt_of_pos _ (by decide)⟩
  have mP : ∀ x : Int, P.getD (x.fmod 5).toNat 0 ∈ P := fun x => by
    obtain ⟨h1, h2⟩ := b5 x
    have h3 : (x.fmod 5).toNat < P.length := by omega
    rw [List.getD_eq_getElem?_getD, List.getElem?_eq_getElem h3]
    exact List.getElem_mem h3
  refine z_as 8 N.st Cs rfl (pu_item (pu_cell (C := C) (o := oc) 1 Cs rfl hc eC hd) (pu_add (x := 6) (y := ii) pu_int (pu_i 7 Cs rfl rfl)) eN iN (by omega) (by omega) (by omega) (by intro _; with_unfolding_all rfl)) (by show 8 < 20; decide) fun _ s₁ ⟨t1, e⟩ S₁ => ?_
  subst e
  generalize nums.getD (6 + ii).toNat 0 = raw at *
  refine z_as 9 S₁ Cs rfl (pu_mod (y := 12) (by decide) (pu_i 8 Cs rfl rfl) pu_int) (by show 9 < 20; decide) fun _ s₂ ⟨t2, e⟩ S₂ => ?_
  subst e
  refine z_as 10 S₂ Cs rfl (pu_item (pu_v 3 Cs rfl rfl) (pu_mod (x := raw.fdiv 12) (y := 5) (by decide) (pu_fdiv (by decide) (by decide) (pu_i 8 Cs rfl rfl) pu_int) pu_int) eP iP (by omega) (b5 _).1 (b5 _).2 (by intro _; with_unfolding_all rfl)) (by show 10 < 20; decide) fun _ s₃ ⟨t3, e⟩ S₃ => ?_
  subst e
  refine z_as 11 S₃ Cs rfl (pu_item (pu_v 3 Cs rfl rfl) (pu_mod (x := raw.fdiv 60) (y := 5) (by decide) (pu_fdiv (by decide) (by decide) (pu_i 8 Cs rfl rfl) pu_int) pu_int) eP iP (by omega) (b5 _).1 (b5 _).2 (by intro _; with_unfolding_all rfl)) (by show 11 < 20; decide) fun _ s₄ ⟨t4, e⟩ S₄ => ?_
  subst e
  have mu := mP (raw.fdiv 12)
  have mv := mP (raw.fdiv 60)
  generalize P.getD ((raw.fdiv 12).fmod 5).toNat 0 = u at *
  generalize P.getD ((raw.fdiv 60).fmod 5).toNat 0 = v at *
  refine z_as 12 S₄ Cs rfl (pu_mod (x := raw.fdiv 300) (y := 4) (by decide) (pu_fdiv (by decide) (by decide) (pu_i 8 Cs rfl rfl) pu_int) pu_int) (by show 12 < 20; decide) fun _ s₅ ⟨t5, e⟩ S₅ => ?_
  subst e
  refine z_as 13 S₅ Cs rfl (pu_mod (x := raw.fdiv 1200) (y := 4) (by decide) (pu_fdiv (by decide) (by decide) (pu_i 8 Cs rfl rfl) pu_int) pu_int) (by show 13 < 20; decide) fun _ s₆ ⟨t6, e⟩ S₆ => ?_
  subst e
  refine z_as 2 S₆ Cs rfl (pu_mod (x := raw.fdiv 4800) (y := 6) (by decide) (pu_fdiv (by decide) (by decide) (pu_i 8 Cs rfl rfl) pu_int) pu_int) (by show 2 < 20; decide) fun _ s₇ ⟨t7, e⟩ S₇ => ?_
  subst e
  refine z_as 14 S₇ Cs rfl (pu_mod (x := raw.fdiv 28800) (y := 6) (by decide) (pu_fdiv (by decide) (by decide) (pu_i 8 Cs rfl rfl) pu_int) pu_int) (by show 14 < 20; decide) fun _ s₈ ⟨t8, e⟩ S₈ => ?_
  subst e
  refine z_as 15 S₈ Cs rfl (ev_joined N.rep N.ra (pu_i 10 Cs rfl rfl) (pu_v 5 Cs rfl rfl) (pu_i 11 Cs rfl rfl) (pu_v 5 Cs rfl rfl) (pu_i 10 Cs rfl rfl)) (by show 15 < 20; decide) fun _ s₉ e S₉ => ?_
  subst e
  refine n_cons_any ?_
  refine mid (sl := sl) (pl := pl) (i := some (.int ii ti)) (raw := raw) (kind := raw.fmod 12) (u := u) (v := v) (fi := (raw.fdiv 300).fmod 4) (se := (raw.fdiv 1200).fmod 4) (m := (raw.fdiv 28800).fmod 6) (k := (raw.fdiv 4800).fmod 6) (tr := t1) (tk := t2) (tu := t3) (tv := t4) (tf := t5) (ts := t6) (tm := t8) (tkk := t7) (j := decide (u ∈ σ.rn ∧ v ∈ σ.row u)) (x := y8) (one := y9) (other := y10) (ref := y11)
    F Z hh hf hA hU hP hpool I mu mv rfl (Int.fmod_nonneg_of_pos _ (by decide)) (Int.fmod_lt_of_pos _ (by decide)) (Int.fmod_nonneg_of_pos _ (by decide)) (Int.fmod_lt_of_pos _ (by decide)) (N.st' S₉) fun s₁₀ H₁₀ ρ₁₀ σ₁₀ x one other ref N₁₀ I₁₀ => ?_
  -- if not _law_same(picture, rows, known): return False
  refine n_execs_cons (n_If (n_isTrue_Not (n_isVal (n_ev_call (nm_global (i := 29) N₁₀.st Z Cs rfl rfl F.gSame (n_cwK F.kSame rfl rfl ?_))))))
  refine pu_v (env := lE L) 4 Cs rfl rfl _ _ _ _ N₁₀.st fun _ s₁₁ e S₁₁ => ?_
  subst e
  refine pu_v (env := lE L) 5 Cs rfl rfl _ _ _ _ S₁₁ fun _ s₁₂ e S₁₂ => ?_
  subst e
  refine pu_v (env := lE L) 6 Cs rfl rfl _ _ _ _ S₁₂ fun _ s₁₃ e S₁₃ => ?_
  subst e
  have hl := I₁₀.len hP
  refine ⟨S₁₃.kin Z, law_same_ok hfix F.toKS Z S₁₃ hh (by omega) (by omega) N₁₀.rep N₁₀.p N₁₀.ra N₁₀.ka (by rw [I₁₀.nn, I₁₀.rn]) (by rw [I₁₀.nn]; omega) (fun x hx => I₁₀.agree hP (by rw [← I₁₀.rn]; exact hx)) fun s₁₄ H₁₄ b S₁₄ R₁₄ k₁₄ => ?_⟩
  refine wpAny_truthy_bool ?_
  refine n_execs_nil (n_execs_nil (fin s₁₄ H₁₄ ρ₁₀ _ _ _ _ _ _ _ _ _ _ _ _ _ _ (N₁₀.step S₁₄ R₁₄ k₁₄ loF) (I₁₀.adj b)))
end
end Mine

end

section
open PySem PySem.W PyProof.Rows PySem.Calls
set_option Elab.async false
set_option maxRecDepth 100000
set_option linter.unusedVariables false
namespace Mine

/-- the def as it stands (its frame bears one cell) -/
def dLaw0 : Def := mkD 988 "law" "law" (topAt 27) [] .none .none
def poSc : Scope := compSc ((lawBody[1]?).getD (.Pass default))

section
variable {prog : Program} {w : World} {K : Frag} {base : Heap} {os : Os} {A : Around} {E : Value → Shared → Prop} {fr : Frs} {H H' H₀ : Led} {s : Shared} {a p it ra ka sl pl L C nb : Addr} {ρ ρ' ρ₀ : Rho} {σ σ' τ : Sg} {us usN : List Value} {ns nums : List Int} {env env' : Env} {vs : List (Option Value)} {pos np : Pos} {e e₁ e₂ : PySem.Expr} {x y : Int} {V V' : Value → Prop} {oc : Obj}

/-- the expression answers in env', whatever frame the ledger holds -/
def Px (prog : Program) (w : World) (base : Heap) (os : Os) (fr : Frs) (H : Led) (env' : Env) (e : PySem.Expr) (V : Value → Prop) : Prop :=
  ∀ (A : Around) (E : Value → Shared → Prop) (Q : Value → Shared → Prop) (s : Shared), St prog w base os fr H s → (∀ v s', V v → St prog w base os fr H s' → Q v s') → wpAny (model prog w) A (eval e env') Q E s
theorem px_int {c : Nat} {k : Int} : Px prog w base os fr H env' (.Constant (.int k) c pos) (IsI k) := fun A E Q s S q => wpAny_Constant_int (q _ _ ⟨_, rfl⟩ (S.toks _))
theorem px_add (h1 : Px prog w base os fr H env' e₁ (IsI x)) (h2 : Px prog w base os fr H env' e₂ (IsI y)) : Px prog w base os fr H env' (.BinOp e₁ .Add e₂ pos) (IsI (x + y)) :=
  fun A E Q s S q => wpAny_BinOp (h1 _ _ _ _ S fun _ s₁ ⟨t, e⟩ S₁ => h2 _ _ _ _ S₁ fun _ s₂ ⟨u, e'⟩ S₂ => by subst e; subst e'; exact PyProof.Rows.add_int (q _ _ ⟨_, rfl⟩ (S₂.toks _)))
theorem px_mod (hy : y ≠ 0) (h1 : Px prog w base os fr H env' e₁ (IsI x)) (h2 : Px prog w base os fr H env' e₂ (IsI y)) : Px prog w base os fr H env' (.BinOp e₁ .Mod e₂ pos) (IsI (x.fmod y)) :=
  fun A E Q s S q => wpAny_BinOp (h1 _ _ _ _ S fun _ s₁ ⟨t, e⟩ S₁ => h2 _ _ _ _ S₁ fun _ s₂ ⟨u, e'⟩ S₂ => by subst e; subst e'; exact PyProof.Rows.mod_int hy (q _ _ ⟨_, rfl⟩ (S₂.toks _)))
theorem px_mul (hm : IntMulOk x y) (h1 : Px prog w base os fr H env' e₁ (IsI x)) (h2 : Px prog w base os fr H env' e₂ (IsI y)) : Px prog w base os fr H env' (.BinOp e₁ .Mult e₂ pos) (IsI (x * y)) :=
  fun A E Q s S q => wpAny_BinOp (h1 _ _ _ _ S fun _ s₁ ⟨t, e⟩ S₁ => h2 _ _ _ _ S₁ fun _ s₂ ⟨u, e'⟩ S₂ => by subst e; subst e'; exact mul_int (q _ _ ⟨_, rfl⟩ (S₂.toks _)) hm)
theorem px_item (h1 : Px prog w base os fr H env' e₁ (· = .ref a)) (h2 : Px prog w base os fr H env' e₂ (IsI x)) (e : H a = some (.li us)) (hi : IntsAre us ns) (hz : us.length ≤ 1000) (h0 : 0 ≤ x) (hx : x < ns.length)
    (hs : ∀ u, subscripted e₂ false (.ref a) (.int x u) = operate [.ref a, .int x u] (getItem (.ref a) (.int x u)) := by intro _; with_unfolding_all rfl) : Px prog w base os fr H env' (.Subscript e₁ e₂ pos) (IsI (ns.getD x.toNat 0)) :=
  fun A E Q s S q => ev_sub (h1 _ _ _ _ S fun _ s₁ z S₁ => by subst z; exact h2 _ _ _ _ S₁ fun _ s₂ ⟨t, z⟩ S₂ => by subst z; exact li_item S₂ e hi hz h0 hx (fun s₃ t S₃ => q _ _ ⟨t, rfl⟩ S₃) (hs t))
theorem px_cell {x : Str} {v : Value} (i : Nat) (Cs : ScOk env'.scope) (hi : env'.scope.names[i]? = some (x, .cell)) (hc : env'.cells.lookup x = some C) (e : H C = some (.raw oc)) (hd : oc.data = .cell (some v)) : Px prog w base os fr H env' (.Name x pos) (· = v) :=
  fun A E Q s S q => by
    obtain ⟨o', ho, hd'⟩ := S.get e
    have z : o' = oc := hd'
    rw [z] at ho
    exact wpAny_Name (wpAny_loadName_cell Cs.kind (kindAt Cs hi) hc ⟨oc, ho, hd⟩ (q v s rfl S)) (Cs.dbg _ (List.mem_of_getElem? hi))


theorem poOk (L : Addr) : ScOk (relabel poSc (lE L)) := ScOk.of (by rfl)
theorem poolP (hn : nums.length = 22) : ∀ x ∈ (List.range 5).map (fun i : Nat => 8 * ((nums.getD (1 + (i : Int)).toNat 0).fmod 1000) + (i : Int)), 0 ≤ x ∧ x < 8000 := by
  intro x hx
  obtain ⟨i, hi, rfl⟩ := List.mem_map.mp hx
  have hi' := List.mem_range.mp hi
  have h1 : 0 ≤ (nums.getD (1 + (i : Int)).toNat 0).fmod 1000 := Int.fmod_nonneg_of_pos _ (by decide)
  have h2 : (nums.getD (1 + (i : Int)).toNat 0).fmod 1000 < 1000 := Int.fmod_lt_of_pos _ (by decide)
  omega

/-- the law answers True -/
theorem law_ok {items : List Value} {zs : List Int} {l : Addr} {Q : Value → Shared → Prop} (hfix : os.fix = none) (F : KZ prog K) (hD : dLaw0.In K) (Z : Sta K base) (S : St prog w base os [] (fun _ => none) s) (hh : A.handled = none) (hf : A.frames = some []) (hA : A.depth + 30 < recursionLimit) (hU : A.units + 80 < cLine)
    (hl : base.IsList l items.toArray) (hi : IntsAre items zs) (hz : items.length ≤ 900)
    (q : ∀ s' H', St prog w base os [] H' s' → Q (.bool true) s') : wpN (model prog w) A (call (.ref 988) [.ref l]) Q E s := by
  obtain ⟨⟨oc, od, osl, doc, pm, an, ct, ho⟩, hcd⟩ := hD
  refine n_call (n_call_function (fd := fnX dLaw0.name dLaw0.qual dLaw0.params dLaw0.body dLaw0.scope dLaw0.cl dLaw0.dV dLaw0.kV doc pm an dLaw0.cdv ct) (body := dLaw0.body) (by omega) (S.kin Z _ _ ho) rfl rfl rfl rfl (codeRec_of (S.kin Z) hcd) ?_)
  have hbind : bindArgs (fnX dLaw0.name dLaw0.qual dLaw0.params dLaw0.body dLaw0.scope dLaw0.cl dLaw0.dV dLaw0.kV doc pm an dLaw0.cdv ct) ⟨[.ref l], []⟩ = pure [(("script" : Str), .ref l)] := rfl
  rw [hbind]
  refine wpAny_pure ?_
  refine wpAny_newFunctionEnv_cells rfl (fun x hx => .inl ?_) fun env he s₁ X => ?_
  · simp only [List.mem_singleton] at hx; subst hx; rfl
  have Cs := scLaw s.heap.objs.size
  have he' : env = lE s.heap.objs.size := he
  subst he'
  clear he
  have hlow : sysModules < s.heap.objs.size := modules_low (S.lim Z)
  have hCb : base.get? (s.heap.objs.size + 1) = none := by
    cases z : base.get? (s.heap.objs.size + 1) with
    | none => rfl
    | some o => exact absurd (Heap.lt_size (S.keep _ _ z)) (Nat.not_lt.mpr (Nat.le_succ _))
  obtain ⟨h', tk, hs₁⟩ := X.toInCall.same
  obtain ⟨ocell, hoc, hdc⟩ := X.cell "numbers" (s.heap.objs.size + 1) rfl
  have hdc' : ocell.data = .cell none := hdc
  have hns := X.toInCall.ns
  have hm : bindL (lE s.heap.objs.size).kindOf [(("script" : Str), Value.ref l)] (fun _ => none) = fm (lE s.heap.objs.size).scope.names [some (.ref l), none, none, none, none, none, none, none, none, none, none, none, none, none, none, none, none, none, none, none] := by
    have hk : (lE s.heap.objs.size).kindOf "script" = some .local := kindAt Cs (i := 0) rfl
    unfold bindL bindL
    rw [if_pos hk]
    have e1 : (lE s.heap.objs.size).scope.names = (("script" : Str), NameKind.local) :: (lE s.heap.objs.size).scope.names.tail := rfl
    rw [e1]
    unfold fm
    have e2 := fm_none (lE s.heap.objs.size).scope.names.tail 19
    funext y
    rw [show ([none, none, none, none, none, none, none, none, none, none, none, none, none, none, none, none, none, none, none] : List (Option Value)) = List.replicate 19 none from rfl, e2]
  rw [hm] at hns
  subst hs₁
  have S₁ : St prog w base os [(lE s.heap.objs.size, fm (lE s.heap.objs.size).scope.names [some (.ref l), none, none, none, none, none, none, none, none, none, none, none, none, none, none, none, none, none, none, none])] (upd (fun _ => none) (s.heap.objs.size + 1) (.raw ocell)) { s with heap := h', toks := tk } :=
    S.heap ((S.wd.enter rfl Cs.kind rfl hns X.toInCall.keep).add hCb (beq_eq_false_iff_ne.mpr (Nat.ne_of_gt (Nat.lt_succ_of_lt hlow))) (fun p hp => by
      rw [List.mem_singleton.mp hp]; exact Nat.ne_of_lt (Nat.lt_succ_self _)) hoc rfl)
  refine ⟨(S.lim Z).keeps X.toInCall.keep, n_func ?_⟩
  clear X hns hm
  have hlk : (lE s.heap.objs.size).cells.lookup ("numbers" : Str) = some (s.heap.objs.size + 1) := rfl
  have hcl : closureFor poSc (lE s.heap.objs.size) = pure [(("numbers" : Str), s.heap.objs.size + 1)] := rfl
  generalize hL : s.heap.objs.size = L at *
  generalize hCe : L + 1 = C at *
  have hdep : (A.deeper (lE L)).depth = A.depth + 1 := rfl
  have huni : (A.deeper (lE L)).units = A.units + 3 := rfl
  have hfr : (A.deeper (lE L)).frames = some (lE L :: Frs.envs []) := deep (fr := []) (by rw [hf]; rfl) _
  have hhd : (A.deeper (lE L)).handled = none := hh
  generalize A.deeper (lE L) = B at *
  -- numbers = _law_numbers(script, 22)
  refine n_cons_any (wpAny_Assign_Name (ev_call (nm_global (i := 20) S₁ Z Cs rfl rfl F.gNum (cwK F.kNum rfl rfl ?_))) (by rfl))
  refine pu_v (env := lE L) 0 Cs rfl rfl _ _ _ _ S₁ fun _ s₂ e S₂ => ?_
  subst e
  refine (pu_int (k := 22)) _ _ _ _ S₂ fun _ s₃ ⟨t22, e⟩ S₃ => ?_
  subst e
  refine ⟨S₃.kin Z, law_numbers_ok F.kwn Z S₃ hhd (by omega) (by omega) hl hi hz fun nb s₄ usN nums hnb S₄ iN lN => ?_⟩
  have nCb : C ≠ nb := fun z => by rw [← z, upd_self] at hnb; cases hnb
  have eC₄ : upd (upd (fun _ => none) C (.raw ocell)) nb (.li usN) C = some (.raw ocell) := (upd_ne _ _ nCb).trans (upd_self ..)
  obtain ⟨oc₄, hoc₄, hq⟩ := S₄.get eC₄
  have hq' : oc₄ = ocell := hq
  rw [hq'] at hoc₄
  refine wpAny_storeName_cell (v₀ := none) Cs.kind (kindAt Cs (i := 1) rfl) hlk ⟨ocell, hoc₄, hdc'⟩ fun h₅ hc₅ hs₅ => ?_
  obtain ⟨ocell₅, hoc₅, hdc₅⟩ := hc₅
  have S₅ := S₄.heap (t := s₄.toks) (S₄.wd.set (d := .raw ocell₅) hs₅ eC₄ hoc₅ rfl)
  have eC : upd (upd (upd (fun _ => none) C (.raw ocell)) nb (.li usN)) C (.raw ocell₅) C = some (.raw ocell₅) := upd_self ..
  have eN : upd (upd (upd (fun _ => none) C (.raw ocell)) nb (.li usN)) C (.raw ocell₅) nb = some (.li usN) := (upd_ne _ _ (Ne.symm nCb)).trans (upd_self ..)
  generalize upd (upd (upd (fun _ => none) C (.raw ocell)) nb (.li usN)) C (.raw ocell₅) = H₅ at *
  have hlN := iN.length
  -- pool = [8 * (numbers[1 + k] % 1000) + k for k in range(5)]
  refine n_cons_any (x_comp (vs := [some (.ref l), none, none, none, none, none, none, none, none, none, none, none, none, none, none, none, none, none, none, none]) (fr := []) (base := base) (os := os) (scope := poSc) (nn := 3) (cy := 3) (cx := 1) (n := 5) (F := fun i u => IsI (8 * ((nums.getD (1 + (i : Int)).toNat 0).fmod 1000) + (i : Int)) u) (V := fun i v => IsI (0 + (i : Nat)) v) hhd (by rfl) hcl (by decide +kernel) (by rfl) (by decide +kernel) Cs rfl (by show 3 < 20; decide) (poOk L) rfl (by decide) (by decide) ?_)
  refine ev_call (nm_builtin (i := 21) S₅ Z Cs rfl rfl rfl ⟨F.bRange, boot_range, by decide +kernel⟩ (cwT rfl ?_))
  refine (pu_int (k := 5)) _ _ _ _ S₅ fun _ s₆ ⟨t5, e⟩ S₆ => ?_
  subst e
  refine range_it (n := 5) S₆ (by decide) fun I s₇ H₇ hI S₇ hD₇ hs₇ => ?_
  have hnI : H₇ I ≠ none := by rw [show H₇ I = _ from hD₇]; exact nofun
  have eC₇ : H₇ C = some (.raw ocell₅) := by rw [hs₇ C fun z => by rw [z, hI] at eC; cases eC]; exact eC
  have eN₇ : H₇ nb = some (.li usN) := by rw [hs₇ nb fun z => by rw [z, hI] at eN; cases eN]; exact eN
  refine ⟨I, H₇, _, rfl, S₇, itr_ra, hD₇, hnI, fun b hb i H H' hH d => (hH I fun z => hnI (z ▸ hb)).trans d, fun i fr H s E Q S d q => ?_, ?_, ?_⟩
  · obtain ⟨o, ho, hd⟩ := S.get d
    have z : o = _ := hd
    rw [z] at ho
    exact wpAny_pyIter_rangeiter (show IsRangeIter s.heap I _ _ _ from ho) q
  · intro b cs C₂ H₂ s₈ i v E' Q' hb hin hv hsm S₈ hcs q'
    obtain ⟨tv, rfl⟩ := hv
    have nCI : C ≠ I := fun z => by rw [z, hI] at eC; cases eC
    have nnI : nb ≠ I := fun z => by rw [z, hI] at eN; cases eN
    have nCB : C ≠ b := fun z => by rw [← z, eC₇] at hb; cases hb
    have nnB : nb ≠ b := fun z => by rw [← z, eN₇] at hb; cases hb
    have eC₈ : H₂ C = some (.raw ocell₅) := (hsm C nCI nCB).trans eC₇
    have eN₈ : H₂ nb = some (.li usN) := (hsm nb nnI nnB).trans eN₇
    have loc : ∀ p, Px prog w base os ((cEnv poSc [(("numbers" : Str), C)] C₂ (lE L), fm (relabel poSc (lE L)).names (cs.set 1 (some (.int (0 + (i : Nat)) tv)))) :: (lE L, fm (lE L).scope.names [some (.ref l), none, none, none, none, none, none, none, none, none, none, none, none, none, none, none, none, none, none, none]) :: []) H₂ (compEnvC poSc [(("numbers" : Str), C)] C₂ (lE L)) (.Name "k" p) (IsI (i : Int)) :=
      fun p A E Q s S q => nm_comp (i := 1) S (poOk L) rfl (by rw [List.getElem?_set_self (by omega)]) (q _ s ⟨tv, by rw [Int.zero_add]⟩ S)
    refine px_add (x := 8 * ((nums.getD (1 + (i : Int)).toNat 0).fmod 1000)) (y := (i : Int)) (px_mul (x := 8) (IntMulOk.of_left (by decide)) px_int (px_mod (y := 1000) (by decide) (px_item (x := 1 + (i : Int)) (px_cell (C := C) (oc := ocell₅) 2 (show ScOk (compEnvC poSc [(("numbers" : Str), C)] C₂ (lE L)).scope from poOk L) rfl rfl eC₈ hdc₅) (px_add px_int (loc _)) eN₈ iN (by omega) (by omega) (by omega) (by intro _; with_unfolding_all rfl)) px_int)) (loc _) _ _ _ _ S₈ fun u s₉ hu S₉ => q' u s₉ hu S₉
  intro pl usP H₈ s₈ hpl hsm ePl lP hF S₈
  have nCI : C ≠ I := fun z => by rw [z, hI] at eC; cases eC
  have nnI : nb ≠ I := fun z => by rw [z, hI] at eN; cases eN
  have nCP : C ≠ pl := fun z => by rw [← z, eC₇] at hpl; cases hpl
  have nnP : nb ≠ pl := fun z => by rw [← z, eN₇] at hpl; cases hpl
  have eC₈ : H₈ C = some (.raw ocell₅) := (hsm C nCI nCP).trans eC₇
  have eN₈ : H₈ nb = some (.li usN) := (hsm nb nnI nnP).trans eN₇
  have hpool := poolP lN
  have hP5 : ((List.range 5).map (fun i : Nat => 8 * ((nums.getD (1 + (i : Int)).toNat 0).fmod 1000) + (i : Int))).length = 5 := by simp
  have iP : IntsAre usP ((List.range 5).map (fun i : Nat => 8 * ((nums.getD (1 + (i : Int)).toNat 0).fmod 1000) + (i : Int))) := intsAre_of (by rw [lP, hP5]) fun j v hv => ⟨_, by
    have hj : j < 5 := by have := (List.getElem?_eq_some_iff.mp hv).1; omega
    rw [List.getElem?_map, List.getElem?_range hj]; rfl, hF j v hv⟩
  generalize (List.range 5).map (fun i : Nat => 8 * ((nums.getD (1 + (i : Int)).toNat 0).fmod 1000) + (i : Int)) = P at *
  clear hsm hs₇ hF S₇ S₅ hpl
  -- picture = PlanarEmbedding(), rows = {}, known = {}
  refine z_asG 4 S₈ Cs rfl (ev_call (nm_global (i := 22) S₈ Z Cs rfl rfl F.gPE (cwK F.kPE rfl rfl ⟨S₈.kin Z, ?_⟩)))
  refine pic_new F.kn Z S₈ (by omega) fun s₉ H₉ t p dx g n sx px m S₉ a1 a2 a3 a4 a5 a6 nd kp => ⟨[], H₉, _, _, S₉, rfl, by show 4 < 20; decide, fun s₁₀ S₁₀ => ?_⟩
  obtain ⟨eC₉, c1, c2, c3, c4, c5, c6⟩ := kp C _ eC₈
  obtain ⟨eN₉, n1, n2, n3, n4, n5, n6⟩ := kp nb _ eN₈
  obtain ⟨eP₉, p1, p2, p3, p4, p5, p6⟩ := kp pl _ ePl
  clear kp
  refine z_asG 5 S₁₀ Cs rfl (new_dict S₁₀ fun ra s₁₁ hra S₁₁ _ => ⟨[], _, _, _, S₁₁, rfl, by show 5 < 20; decide, fun s₁₂ S₁₂ => ?_⟩)
  have nra : ∀ a d, H₉ a = some d → a ≠ ra := fun a d h z => by rw [z, hra] at h; cases h
  refine z_asG 6 S₁₂ Cs rfl (new_dict S₁₂ fun ka s₁₃ hka S₁₃ _ => ⟨[], _, _, _, S₁₃, rfl, by show 6 < 20; decide, fun s₁₄ S₁₄ => ?_⟩)
  have nka : ∀ a d, upd H₉ ra (.di [] none) a = some d → a ≠ ka := fun a d h z => by rw [z, hka] at h; cases h
  have up : ∀ a d, H₉ a = some d → upd H₉ ra (.di [] none) a = some d := fun a d h => (upd_ne _ _ (nra a d h)).trans h
  have up' : ∀ a d, H₉ a = some d → upd (upd H₉ ra (.di [] none)) ka (.di [] none) a = some d := fun a d h => (upd_ne _ _ (nka a d (up a d h))).trans (up a d h)
  have nrk : ra ≠ ka := nka ra _ (upd_self ..)
  have nd8 : [p, dx, g, n, sx, px, ra, ka].Nodup := by
    have e : [p, dx, g, n, sx, px, ra, ka] = [p, dx, g, n, sx, px] ++ [ra, ka] := rfl
    rw [e]
    have all : ∀ a ∈ [p, dx, g, n, sx, px], ∃ d, H₉ a = some d := by
      intro a ha
      simp only [List.mem_cons, List.not_mem_nil, or_false] at ha
      rcases ha with rfl | rfl | rfl | rfl | rfl | rfl
      · exact ⟨_, a1⟩
      · exact ⟨_, a2⟩
      · exact ⟨_, a3⟩
      · exact ⟨_, a4⟩
      · exact ⟨_, a5⟩
      · exact ⟨_, a6⟩
    refine List.nodup_append.mpr ⟨nd, by simp [nrk], fun a ha b hb => ?_⟩
    obtain ⟨d, hd⟩ := all a ha
    simp only [List.mem_cons, List.not_mem_nil, or_false] at hb
    rcases hb with rfl | rfl
    · exact nra a d hd
    · exact nka a d (up a d hd)
  have R₁₄ : Rep w.params (upd (upd H₉ ra (.di [] none)) ka (.di [] none)) (Rho.ofL [(p, .self), (dx, .dct), (g, .g), (n, .node), (sx, .succ), (px, .pred), (ra, .rows), (ka, .known)]) Sg.empty :=
    rep_init nd8 (up' _ _ a1) (up' _ _ a2) (up' _ _ a3) (up' _ _ a4) (up' _ _ a5) (up' _ _ a6) ((upd_ne _ _ nrk).trans (upd_self ..)) (upd_self ..)
  have none_of : ∀ a, a ≠ p → a ≠ dx → a ≠ g → a ≠ n → a ≠ sx → a ≠ px → a ≠ ra → a ≠ ka → Rho.ofL [(p, Role.self), (dx, .dct), (g, .g), (n, .node), (sx, .succ), (px, .pred), (ra, .rows), (ka, .known)] a = none := by
    intro a h1 h2 h3 h4 h5 h6 h7 h8
    cases z : Rho.ofL [(p, Role.self), (dx, .dct), (g, .g), (n, .node), (sx, .succ), (px, .pred), (ra, .rows), (ka, .known)] a with
    | none => rfl
    | some r =>
      have := ofL_mem z
      simp only [List.mem_cons, Prod.mk.injEq, List.not_mem_nil, or_false] at this
      rcases this with ⟨z, _⟩ | ⟨z, _⟩ | ⟨z, _⟩ | ⟨z, _⟩ | ⟨z, _⟩ | ⟨z, _⟩ | ⟨z, _⟩ | ⟨z, _⟩
      · exact absurd z h1
      · exact absurd z h2
      · exact absurd z h3
      · exact absurd z h4
      · exact absurd z h5
      · exact absurd z h6
      · exact absurd z h7
      · exact absurd z h8
  have rC := none_of C c1 c2 c3 c4 c5 c6 (nra C _ eC₉) (nka C _ (up _ _ eC₉))
  have rN := none_of nb n1 n2 n3 n4 n5 n6 (nra nb _ eN₉) (nka nb _ (up _ _ eN₉))
  have rP := none_of pl p1 p2 p3 p4 p5 p6 (nra pl _ eP₉) (nka pl _ (up _ _ eP₉))
  have rp : Rho.ofL [(p, Role.self), (dx, .dct), (g, .g), (n, .node), (sx, .succ), (px, .pred), (ra, .rows), (ka, .known)] p = some .self := ofL_at nd8 (by simp)
  have rra : Rho.ofL [(p, Role.self), (dx, .dct), (g, .g), (n, .node), (sx, .succ), (px, .pred), (ra, .rows), (ka, .known)] ra = some .rows := ofL_at nd8 (by simp)
  have rka : Rho.ofL [(p, Role.self), (dx, .dct), (g, .g), (n, .node), (sx, .succ), (px, .pred), (ra, .rows), (ka, .known)] ka = some .known := ofL_at nd8 (by simp)
  have eC' := up' _ _ eC₉
  have eN' := up' _ _ eN₉
  have eP' := up' _ _ eP₉
  generalize Rho.ofL [(p, Role.self), (dx, .dct), (g, .g), (n, .node), (sx, .succ), (px, .pred), (ra, .rows), (ka, .known)] = ρ₀ at *
  clear none_of up up' nra nka nd8 nd a1 a2 a3 a4 a5 a6
  generalize upd (upd H₉ ra (.di [] none)) ka (.di [] none) = H₀ at *
  replace S₁₄ : St prog w base os ((lE L, fm (lE L).scope.names [some (.ref l), none, none, some (.ref pl), some (.ref p), some (.ref ra), some (.ref ka), none, none, none, none, none, none, none, none, none, none, none, none, none]) :: []) H₀ s₁₄ := S₁₄
  -- for i in range(4 + numbers[0] % 13)
  refine n_execs_cons (n_For (ev_call (nm_builtin (i := 21) S₁₄ Z Cs rfl rfl rfl ⟨F.bRange, boot_range, by decide +kernel⟩ (cwT rfl ?_))))
  refine pu_add (x := 4) (y := (nums.getD (0 : Int).toNat 0).fmod 13) pu_int (pu_mod (by decide) (pu_item (x := 0) (pu_cell (env := lE L) (C := C) (o := ocell₅) 1 Cs rfl hlk eC' hdc₅) pu_int eN' iN (by omega) (by decide) (by omega) (by intro _; with_unfolding_all rfl)) pu_int) _ _ _ _ S₁₄ fun _ s₁₅ ⟨tr, e⟩ S₁₅ => ?_
  subst e
  have f1 : 0 ≤ (nums.getD (0 : Int).toNat 0).fmod 13 := Int.fmod_nonneg_of_pos _ (by decide)
  have f2 : (nums.getD (0 : Int).toNat 0).fmod 13 < 13 := Int.fmod_lt_of_pos _ (by decide)
  obtain ⟨N, hN⟩ := Int.eq_ofNat_of_zero_le (a := 4 + (nums.getD (0 : Int).toNat 0).fmod 13) (by omega)
  have hN16 : N ≤ 16 := by omega
  show wpAny _ _ (call (.type "range") [.int (4 + (nums.getD (0 : Int).toNat 0).fmod 13) tr]) _ _ _
  rw [hN]
  refine range_it (n := N) S₁₅ (by omega) fun it s₁₆ H₁₆ hit S₁₆ hD₁₆ hs₁₆ => ?_
  have hρit := R₁₄.none hit
  refine n_loop (c := 7) itr_ra hhd Cs rfl
    (fun i H' vs' => (∃ k0 y y0 y1 y2 y3 y4 y5 y6 y7 y8 y9 y10 y11, vs' = [some (.ref l), none, k0, some (.ref pl), some (.ref p), some (.ref ra), some (.ref ka), y, y0, y1, y2, y3, y4, y5, y6, y7, y8, y9, y10, y11]) ∧
      ∃ ρ' σ', Rep w.params H' ρ' σ' ∧ Inv P σ' ∧ Keep Loose H₀ ρ₀ H' ρ' ∧ ρ' it = none ∧ ρ' p = some .self ∧ ρ' ra = some .rows ∧ ρ' ka = some .known)
    (fun i H₁ H₂ vs' hs' ⟨j1, ρ', σ', j2, j3, j4, j5, j6⟩ => ⟨j1, ρ', σ', j2.same j5 hs', j3, j4.same hit hs', j5, j6⟩) (fun i H₁ vs' ⟨⟨_, _, _, _, _, _, _, _, _, _, _, _, _, _, j1⟩, _⟩ => by rw [j1]; simp) S₁₆ hD₁₆
    ⟨⟨_, _, _, _, _, _, _, _, _, _, _, _, _, _, rfl⟩, ρ₀, _, R₁₄.same hρit hs₁₆, inv_empty, Keep.refl.same hit hs₁₆, hρit, rp, rra, rka⟩ ?_ ?_
  · rintro i v H₁ vs₁ s₁₇ hi' ⟨ti, rfl⟩ ⟨⟨k0, y, y0, y1, y2, y3, y4, y5, y6, y7, y8, y9, y10, y11, rfl⟩, ρ', σ', R₁, I₁, k₁, z1, z2, z3, z4⟩ hD₁ hne S₁₇
    obtain ⟨q1, q2⟩ := k₁.out _ _ eC' rC
    obtain ⟨q3, q4⟩ := k₁.out _ _ eN' rN
    obtain ⟨q5, q6⟩ := k₁.out _ _ eP' rP
    refine turn (sl := l) (P := P) hfix F Z hhd hfr (by omega) (by omega) hP5 hpool I₁ hlk q1 hdc₅ q3 iN lN q5 iP (ii := 0 + (i : Int)) (ti := ti) (by omega) (by omega) (H₀ := H₁) (ρ₀ := ρ') ⟨S₁₇, R₁, Keep.refl, z2, z3, z4⟩ fun s' H' ρ'' σ'' k0 y0 y1 y2 y3 y4 y5 y6 y7 y8 y9 y10 y11 N' I' => ?_
    obtain ⟨r1, r2⟩ := N'.kp.out _ _ hD₁ z1
    exact ⟨H', _, N'.st, r1, ⟨_, _, _, _, _, _, _, _, _, _, _, _, _, _, rfl⟩, ρ'', σ'', N'.rep, I', k₁.trans N'.kp, r2, N'.p, N'.ra, N'.ka⟩
  · rintro H₁ vs₁ s₁₇ ⟨⟨k0, y, y0, y1, y2, y3, y4, y5, y6, y7, y8, y9, y10, y11, rfl⟩, ρ', σ', R₁, I₁, k₁, z1, z2, z3, z4⟩ S₁₇
    refine n_cons_any (wpAny_Return_some (pu_bool _ _ _ _ S₁₇ fun v s₁₈ e S₁₈ => ?_))
    subst e
    exact q s₁₈ H₁ S₁₈.popped
end
end Mine

end

section
open PySem PySem.W PyProof.Rows PySem.Calls PySem.Spec
set_option Elab.async false
set_option maxRecDepth 100000
set_option linter.unusedVariables false
namespace Mine
/- The library's road from a walk to the claim asks the walk in EVERY context; this one asks it only where no collection's last act is under way (the claim's own context is such a one). -/

theorem noFin_caller : NoFin ⟨.builtin "claim.caller" {}, none, none, [], none⟩ := ⟨by decide, fun x hx => (nomatch hx)⟩
theorem n_done {M : Model} {t : Sem Fin} {R : Result → Shared → Prop} {s : Shared} (h : wpN M callerA t (fun fin s' => ∃ f, fin = .done f ∧ R (.ok f) s') (fun e s' => R (.error e) s') s) (p : Pos) :
    Sem.wp M ⟨.builtin "claim.caller" {}, none, none, [], none⟩ t (Sem.finPost M ⟨.builtin "claim.caller" {}, none, none, [], none⟩ R) (fun e _ s' => R (.error e) s') p s :=
  Sem.wp_mono M _ t (fun fin p' s' ⟨f, e, hf⟩ => by subst e; exact hf) (fun _ _ _ h' => h') p s (h _ p caller_in noFin_caller)
theorem n_thread {prog : Program} {w : World} {t : Sem Fin} {s : Shared} {R : Result → Shared → Prop} (hreg : s.asleep)
    (h : wpN (model prog w) callerA t (fun fin s' => ∃ f, fin = .done f ∧ (R (.ok f) s' ∧ leftWithCleanup s'.gens = false)) (fun e s' => R (.error e) s' ∧ leftWithCleanup s'.gens = false) s) :
    ∃ n r s' s'', runN (denote table) prog w n s ⟨t, .builtin "claim.caller" {}, default, []⟩ = .halted (outcomeOf r) s' ∧
      schedN (denote table) prog w n (.single s ⟨t, .builtin "claim.caller" {}, default, []⟩) = .halted (outcomeOf r) s' ∧ s'.forget = s''.forget ∧ R r s'' := by
  obtain ⟨n, r, s₁, s₂, hs, hn, hfo, hR⟩ := wp_halts_full (M := model prog w) (R := R) hreg (n_done (R := fun r s' => R r s' ∧ leftWithCleanup s'.gens = false) h default)
  exact ⟨n, r, s₂, s₁, hn, hs, hfo, hR⟩

theorem n_callFrom {c : ClaimW} {tree : List Value → Sem Fin} {w : World} {s : Shared} {free : Addr → Prop} {gens : Prop} {kept : Heap → Prop} (hz : s.asleep) (hgens : s.gens = #[])
    (hspec : ∀ args, c.pre args = true → WData.layableAll args = true →
      ∀ ord : List DictEntry → List DictEntry, (∀ l, (ord l).Perm l) →
      ∃ vs s₁, layAllW c.records (classAt s.heap) w.params ord args s = some (vs, s₁) ∧
        wpN (model c.prog w) callerA (tree vs) (fun fin s' => ∃ f, fin = .done f ∧ (c.Ends s args vs s₁ (.ok f) s' ∧ s'.os = s.os ∧ AllBare s'.gens ∧ kept s'.heap))
          (fun e s' => c.Ends s args vs s₁ (.error e) s' ∧ s'.os = s.os ∧ AllBare s'.gens ∧ kept s'.heap) s₁) :
    c.CallFrom (fun vs => ⟨tree vs, .builtin "claim.caller" {}, default, []⟩) w free gens kept s := by
  intro args hpre hlay ord hord
  obtain ⟨vs, s₁, hlaid, hcode⟩ := hspec args hpre hlay ord hord
  have hal := layAllW_rest _ _ _ hlaid
  obtain ⟨k, r, s', s'', hrun, hsched, hfo, hcase, hos, hkp⟩ := n_thread (prog := c.prog) (w := w) (t := tree vs) (s := s₁)
    (R := fun r s' => c.Ends s args vs s₁ r s' ∧ s'.os = s.os ∧ kept s'.heap)
    (Shared.asleep_of_life hal.2.2.2 hz)
    (n_mono hcode (by
      rintro fin s' ⟨f, e, h1, h2, h3, h4⟩
      exact ⟨f, e, ⟨h1, h2, h4⟩, leftWithCleanup_false_of_bare h3⟩) (by
      rintro e s' ⟨h1, h2, h3, h4⟩
      exact ⟨⟨h1, h2, h4⟩, leftWithCleanup_false_of_bare h3⟩))
  obtain ⟨eh, _, _, eo, _⟩ := Shared.forget_eq hfo
  have hcase := hcase.congr eh
  have hkp : kept s'.heap := by first | exact eh ▸ hkp | (rw [eh] at hkp; exact hkp) | (rw [← eh] at hkp; exact hkp)
  rw [← eo] at hos
  have hlife : s'.heap.life = s.heap.life := (runN_life _ _ _ hrun).trans hal.2.2.2
  refine ⟨vs, s₁, hlaid, k, _, s', hsched, ?_, (fun _ i x hx => by rw [hgens] at hx; simp at hx), hkp, by rw [hlife], Shared.rest_eq hos⟩
  rcases hcase with ⟨v, rfl, d1, d2, d3, d4, d5⟩ | ⟨e, ob, cls, rfl, d1, d2, d3, d4, d5⟩
  · exact .inl ⟨v, rfl, d1, d2, d3, fun b o y _ => d4 b o y, d5⟩
  · exact .inr ⟨e, ob, cls, rfl, d1, d2, d3, d4, fun b o y _ => d5 b o y⟩

theorem n_open {r : RowW} {run : Value → List Value → Sem Value} {tree : List Value → Sem Fin} {q : Program} {loose defs kps : List Str} {writes : Bool} {Xt : Shared → Bool} {XP : (Str → Option Value) → Heap → Prop} {α : Type} {Yf : Shared → α} {Ya : World → α} {YP : World → Heap → Prop} {N : Nat}
    (left : LeftO r.prog q loose Xt Yf Ya N) (hY : ∀ w s, Yf s = Ya w → YP w s.heap) (hYk : ∀ w h h', YP w h → (∀ b o, h.get? b = some o → h'.get? b = some o) → YP w h') (hX : ∀ s, Xt s = true → XP (s.heap.nsMap mainGlobals) s.heap) (hXk : ∀ mg h h', XP mg h → (∀ b o, h.get? b = some o → h'.get? b = some o) → XP mg h')
    (hRf : ∀ s, Xt s = true → RecFacts r.records s.heap) (hwr : (!writes || r.records.isEmpty) = true) (ok : (chainsOk q && opensWell r.prog && (frees r && r.within.isEmpty)) = true) (hb : r.prog.bare) (hw : r.promised)
    (ht : ∀ vs (w : World) (s : Shared) mg f (Q : Fin → Shared → Prop) (E : Value → Shared → Prop), s.heap.Ns mainGlobals mg → mg r.name = some f → wpN (model r.prog w) callerA (run f vs) (fun v s' => Q (.done (.ret v)) s') E s → wpN (model r.prog w) callerA (tree vs) Q E s)
    (pin : ∀ w s, s.heap.isNs mainGlobals = true → Ground q loose [] XP w s (s.heap.nsMap mainGlobals) (s.heap.nsMap builtinsNs) s.heap → ∀ n ∈ defs, isTheDefsW r.prog s.heap n)
    (call : ∀ (w : World) (s₀ s₁ : Shared) (mg mb : Str → Option Value), Ground q loose r.records XP w s₀ mg mb s₁.heap → YP w s₁.heap → ∀ (args : List WData) (vs : List Value) (as : List Addr),
      r.claim.pre args = true → WData.layableAll args = true → Laid r.records w s₀ s₁ args vs as → sysModules < s₀.heap.objs.size → ∃ f, mg r.name = some f ∧
        wpN (model r.prog w) callerA (run f vs) (fun v s' => GoodWG r.claim (classAt s₀.heap) (ExcName.means s₀.heap) args s₁ (.ok (.ret v)) s')
          (fun e s' => GoodWG r.claim (classAt s₀.heap) (ExcName.means s₀.heap) args s₁ (.error e) s') s₁) : r.claim.HoldsOpenBy (fun vs => ⟨tree vs, .builtin "claim.caller" {}, default, []⟩) defs kps writes := by
  obtain ⟨ok, k5⟩ := Bool.and_eq_true_iff.mp ok
  obtain ⟨hch, o1⟩ := Bool.and_eq_true_iff.mp ok
  obtain ⟨k5, k6⟩ := Bool.and_eq_true_iff.mp k5
  obtain ⟨hsame, hu, ha, hap, hm⟩ := frees_parts k5
  refine ⟨⟨hb, o1, by show r.makers.map _ = []; rw [hm]; rfl⟩, hw.witness, fun w => ⟨(left.behind hX hch w).1, fun s' hs' => ?_⟩⟩
  obtain ⟨s₀, hf, hg0, s, hT, hz, hgens, hg, G00, y⟩ := (left.behind (XP := fun mg h => XP mg h ∧ RecFacts r.records h) (fun s hs => ⟨hX s hs, hRf s hs⟩) hch w).2 s' hs'
  have G0 : Ground q loose [] XP w s (s.heap.nsMap mainGlobals) (s.heap.nsMap builtinsNs) s.heap := ⟨G00.T, G00.B, G00.D, G00.TE, G00.TD, G00.W, G00.X.1, G00.cls, G00.has, G00.apart, G00.once, G00.K⟩
  have RF := G00.X.2
  have hT' := hT
  refine ⟨s₀, hf, hg0, s, hT, pin w s hg G0, RF.1, RF.2.1, ?_⟩
  have hgens : s.gens = #[] := Array.eq_empty_of_size_eq_zero (beq_iff_eq.mp hgens)
  have G : Ground q loose r.records XP w s _ _ s.heap := RF.ground G0
  refine n_callFrom (c := r.claim) hz hgens fun args hpre hlay ord hord => ?_
  obtain ⟨⟨vs, s₁⟩, hlaid⟩ := Option.isSome_iff_exists.mp (layAllW_isSome (P := w.params) (ord := ord) G.has args r.args s (pre_splitW hpre).1)
  have keeps := layAllW_keeps _ _ _ hlaid
  have hal := layAllW_rest _ _ _ hlaid
  obtain ⟨as, hrd, hin, hold⟩ := reads_layAllW hord _ _ _ hlaid hlay s₁.heap (fun _ _ e => e)
  have L : Laid r.records w s s₁ args vs as := ⟨⟨ord, hord, hlaid⟩, hrd, hin, hold, keeps, hal.1.trans hgens, hal.2.2.1⟩
  have G₁ := G.keeps hXk keeps
  obtain ⟨f, hf, h⟩ := call w s s₁ _ _ G₁ (hYk _ _ _ (hY w s y) keeps) args vs as hpre hlay L G.low
  have hi := ident_freeW hu ha hap
  have hwi : r.claim.within = [] := List.isEmpty_iff.mp k6
  exact ⟨vs, s₁, hlaid, ht vs w s₁ _ f _ _ G₁.T.g hf (n_mono h (fun v s' g => ⟨_, rfl, have z := g.laid (c := r.claim) hsame hwi hi L; ⟨z.1, z.2.1, z.2.2, fun q => ⟨namesKept_of hT' hg kps keeps g.2.1.old, noTable hwr q⟩⟩⟩) fun e s' g => have z := g.laid (c := r.claim) hsame hwi hi L; ⟨z.1, z.2.1, z.2.2, fun q => ⟨namesKept_of hT' hg kps keeps g.2.1.old, noTable hwr q⟩⟩)⟩

abbrev WalkF (q : Program) (loose : List Str) (XP : (Str → Option Value) → Heap → Prop) (YP : World → Heap → Prop) (r : RowW) (d : DefRec) (kwd : List (Str × Expr)) (run : Value → List Value → Sem Value) : Prop :=
  ∀ (w : World) (s₀ s₁ : Shared) (mg mb : Str → Option Value), Ground q loose r.records XP w s₀ mg mb s₁.heap → YP w s₁.heap → ∀ (a : Addr) (o : Obj) (pm cd doc dV kV : Value), s₁.heap.get? a = some o →
    o.data = .func { docDef d.name d.params d.body d.scope pm cd doc with defaults := dV, kwdefaults := kV } → s₁.heap.CodeRec cd d.name → Dflts mg s₁.heap d.params kwd dV kV → mg d.name = some (.ref a) → s₁.gens = #[] →
    ∀ (args : List WData) (vals : List Value) (as : List Addr), r.claim.pre args = true → WData.layableAll args = true → ReadsAllW r.records (classAt s₀.heap) s₁.heap vals args as → WellAll w.params s₁.heap vals args → (∀ a ∈ as, (a == sysModules) = false) →
      wpN (model r.prog w) callerA (run (.ref a) vals) (fun v s' => GoodWG r.claim (classAt s₀.heap) (ExcName.means s₀.heap) args s₁ (.ok (.ret v)) s')
        (fun e s' => GoodWG r.claim (classAt s₀.heap) (ExcName.means s₀.heap) args s₁ (.error e) s') s₁

theorem PySem.W.holds_open {r : OpenRow} {q : Program} {loose : List Str} {Xt : Shared → Bool} {XP : (Str → Option Value) → Heap → Prop} {α : Type} {Yf : Shared → α} {Ya : World → α} {YP : World → Heap → Prop} {d : DefRec} {kwd : List (Str × Expr)} {N : Nat}
    (left : LeftO r.prog q loose Xt Yf Ya N) (hY : ∀ w s, Yf s = Ya w → YP w s.heap) (hYk : ∀ w h h', YP w h → (∀ b o, h.get? b = some o → h'.get? b = some o) → YP w h')
    (hX : ∀ s, Xt s = true → XP (s.heap.nsMap mainGlobals) s.heap) (hXk : ∀ mg h h', XP mg h → (∀ b o, h.get? b = some o → h'.get? b = some o) → XP mg h')
    (hdef : defOf q r.name = some (d, kwd)) (hp : r.prog.theDef r.name = some (d.params, d.body, d.scope)) (hk : kwWritten? d.params.kwonlyargs d.params.kw_defaults = some kwd) (hRf : ∀ s, Xt s = true → RecFacts r.records s.heap) (hwr : (!r.writes || r.records.isEmpty) = true)
    (k1 : r.wellSaid = true) (ok : (chainsOk q && opensWell r.prog && (frees r.toRowW && r.within.isEmpty)) = true) (hb : r.prog.bare) (hw : r.toRowW.promised)
    (call : WalkF q loose XP YP r.toRowW d kwd fun f vs => PySem.call f vs) : r.Holds := by
  refine ⟨k1, hw, n_open (r := r.toRowW) (run := fun f vs => PySem.call f vs) (tree := fun vs => do match ← nsGet mainNs r.name with
      | some f => do ret (← PySem.call f vs)
      | none => unsupported "claim.caller:no-such-global") left hY hYk hX hXk hRf hwr ok hb hw
    (fun vs w s mg f Q E hg hf h => n_binda (wpAny_nsGet hg (by rw [hf]; exact n_bind (n_mono h (fun _ _ x => n_pure x) fun _ _ x => x))))
    (fun w s hg G n hn => ?_) fun w s₀ s₁ mg mb G Y args vs as hpre hlay L low => ?_⟩
  · obtain rfl : n = r.name := by split at hn <;> simp_all
    exact pinned_of_view hg G hdef hp hk
  · obtain ⟨a, o, pm, cd, doc, dV, kV, h1, h2, h3, h4, h5⟩ := G.fn hdef
    exact ⟨.ref a, h1, call w s₀ s₁ mg mb G Y a o pm cd doc dV kV h2 h3 h4 h5 (defOf_name hdef ▸ h1) L.gens args vs as hpre hlay L.reads L.well (L.low low)⟩
end Mine

end

section
open PySem PySem.W PyProof.Rows PySem.Calls
set_option Elab.async false
set_option maxRecDepth 100000
set_option linter.unusedVariables false
namespace Mine

theorem ints_of : ∀ {xs : List WData} {vs : List Value} {R : WRecords} {cl : Str → Option Addr} {h : Heap} {as : List Addr}, WShape.hasItems R xs .int = true → ReadsAllW R cl h vs xs as → ∃ zs, IntsAre vs zs
  | [], _, _, _, _, _, _, .nil => ⟨[], .nil⟩
  | x :: xs, v :: vs, R, cl, h, _, hx, .cons r1 r2 => by
    simp only [WShape.hasItems, Bool.and_eq_true] at hx
    obtain ⟨i, rfl⟩ := hasW_int hx.1
    obtain ⟨zs, hz⟩ := ints_of hx.2 r2
    cases r1 with
    | int i t => exact ⟨i :: zs, .cons i t hz⟩
theorem readsAll_len : ∀ {xs : List WData} {vs : List Value} {R : WRecords} {cl : Str → Option Addr} {h : Heap} {as : List Addr}, ReadsAllW R cl h vs xs as → vs.length = xs.length
  | [], _, _, _, _, _, .nil => rfl
  | x :: xs, v :: vs, R, cl, h, _, .cons r1 r2 => by simp [readsAll_len r2]

def theRow : RowW := PySem.Challenge.rw_au6040_01.row.toRowW

theorem pre_list {args : List WData} (h : theRow.claim.pre args = true) : ∃ xs, args = [.list xs] ∧ WShape.hasItems [] xs .int = true ∧ xs.length ≤ 63 := by
  obtain ⟨h1, h2⟩ := pre_splitW h
  have ha : theRow.args = [.list .int] := rfl
  have hr : theRow.records = [] := rfl
  rw [ha, hr] at h1
  obtain ⟨d, r, rfl, h3, h4⟩ := hasAllW_cons h1
  have := hasAllW_nil h4
  subst this
  obtain ⟨xs, rfl, h5⟩ := hasW_list h3
  refine ⟨xs, rfl, h5, ?_⟩
  have hp : theRow.pre = .and (.not (.lt (.lit (.int 63)) (.len (.arg 0)))) (.lit (.bool true)) := rfl
  rw [hp] at h2
  obtain ⟨h6, _⟩ := holds_andW h2
  unfold WTm.holds at h6
  simp only [WTm.value] at h6
  have e1 : ([WData.list xs] : List WData)[0]? = some (.list xs) := rfl
  rw [e1] at h6
  dsimp only at h6
  by_cases hz : xs.length ≤ 63
  · exact hz
  · have hl : less? (.int 63) (.int (xs.length : Int)) = some true := by
      show some (decide ((63 : Int) < (xs.length : Int))) = some true
      rw [decide_eq_true (by omega)]
    rw [hl] at h6
    cases h6

theorem law_good {args : List WData} {cl : Str → Option Addr} {mean : ExcName → Option Value} {s₁ s' : Shared} {xs : List WData} (ha : args = [.list xs]) (hold : ∀ b o, s₁.heap.get? b = some o → s'.heap.get? b = some o) (hos : s'.os = s₁.os) (hb : AllBare s'.gens) :
    GoodWG theRow.claim cl mean args s₁ (.ok (.ret (.bool true))) s' := by
  refine ⟨.inl ⟨.bool true, .bool true, [], rfl, fun cls => rfl, .bool true, ?_, fun _ => ⟨.nil, nofun⟩⟩, .of_keep hold, hos, hb⟩
  subst ha
  show (WShape.has [] (.bool true) .bool && WTm.holds [] (.eq .res (.lit (.bool true))) { args := [.list xs], res := some (.bool true), after := [.list xs] }) = true
  have h1 : WShape.has [] (.bool true) .bool = true := by simp [WShape.has, WShape.arms]
  rw [h1, Bool.true_and]
  unfold WTm.holds
  simp only [WTm.value]
  have h2 : same (.bool true) (.bool true) = true := by simp [same]
  rw [h2]

theorem row_prog : theRow.prog = PySem.Challenge.pw_au6040_01 := rfl
theorem st_start {prog : Program} {w : World} {s : Shared} (hl : s.heap.NoLimit) (hg : s.gens = #[]) : St prog w s.heap ⟨s.os, none⟩ [] (fun _ => none) s :=
  ⟨⟨fun _ _ e => e, hl, fun p hp => (nomatch hp), .nil, fun a d h => by cases h⟩, (by intro g x; rw [hg] at x; simp at x), rfl, fun g d h => by cases h⟩

/-- the walk, from the claim's own caller -/
theorem walk_top {q : Program} {loose : List Str} {XP : (Str → Option Value) → Heap → Prop} {YP : World → Heap → Prop} {d : DefRec} {kwd : List (Str × Expr)} {K : Params → Frag} (hK : ∀ P, KZ PySem.Challenge.pw_au6040_01 (K P)) (hL : ∀ P, dLaw0.In (K P)) (hg : ∀ P, nsIn (K P) mainGlobals "law" = some (some (.ref 988))) (hn : d.name = "law")
    (hY : ∀ (w : World) h, YP w h → (K w.params).In h) : WalkF q loose XP YP theRow d kwd fun f vs => PySem.call f vs := by
  intro w s₀ s₁ mg mb G Y fa o pm cd doc dV kV ho hd hcd hD hmg hgens args vals as hpre hlay hrd hwl hlo
  have T := G.T
  have X := hY w _ Y
  have hfa : fa = 988 := by
    have := mg_of X T.g (hg w.params)
    rw [hn, this] at hmg
    cases hmg; rfl
  subst hfa
  obtain ⟨xs, rfl, hx, hlen⟩ := pre_list hpre
  cases hrd with
  | cons r1 r2 =>
    cases r2 with
    | nil =>
      cases r1 with
      | list h1 h2 h3 h4 =>
        rename_i a o' vs n as'
        obtain ⟨zs, hz⟩ := ints_of hx h4
        have hl := readsAll_len h4
        have Z : Sta (K w.params) s₁.heap := Sta.of X T
        have S : St PySem.Challenge.pw_au6040_01 w s₁.heap ⟨s₁.os, none⟩ [] (fun _ => none) s₁ :=
          st_start T.nolimit hgens
        rw [row_prog]
        show wpN (model PySem.Challenge.pw_au6040_01 w) callerA (PySem.call (.ref 988) [.ref a]) _ _ _
        refine law_ok (A := callerA) (items := vs.toList) (os := ⟨s₁.os, none⟩) rfl (hK w.params) (hL w.params) Z S rfl rfl (by decide +kernel) (by decide +kernel) ⟨o', h1, h2, n, by rw [Array.toArray_toList]; exact h3⟩ hz (by rw [hl]; omega) fun s' H' S' => ?_
        exact law_good rfl S'.keep S'.os.1 S'.bare
end Mine

end

section
open PySem PySem.W PyProof.Rows PySem.Calls
set_option Elab.async true
set_option maxRecDepth 100000
set_option maxHeartbeats 8000000
namespace Mine.top
def tw609860122456452193 : Unit := ()
def tw18051893902657315973 : Unit := ()
def tw12622498126234240261 : Unit := ()
def tw1891491216880485542 : Unit := ()
def tw8610990719920743398 : Unit := ()
def tw13049368258821476711 : Unit := ()
def tw7634116840592652039 : Unit := ()
def tw2932665345910076744 : Unit := ()
def tw3230620841775447722 : Unit := ()
def tw7136006818465724362 : Unit := ()
def tw6353568880985328939 : Unit := ()
def tw15548470053897091947 : Unit := ()
def tw6551877901027158894 : Unit := ()
def tw4986174793495384207 : Unit := ()
def tw7150219430624708079 : Unit := ()
def tw4222834699490386671 : Unit := ()
def tw13910409082532179184 : Unit := ()
def tw1946025667125959281 : Unit := ()
def tw7591664977700550834 : Unit := ()
def tw8492405449030818227 : Unit := ()
def tw13327924365416974227 : Unit := ()
def tw3128193824291822260 : Unit := ()
def tw5597187220613765494 : Unit := ()
def tw10377078122120030774 : Unit := ()
def tw1148359839396282423 : Unit := ()
def tw9802627557580110168 : Unit := ()
def tw401397149275716697 : Unit := ()
def tw5155950481276406077 : Unit := ()
def tw7362580825049427614 : Unit := ()
def tw14776389762100227838 : Unit := ()
end Mine.top
namespace Mine
theorem top : PySem.Challenge.rw_au6040_01.Holds := by
  w_on
  o_law
  k_head
  (case hw => w_witness2)
  have fA : ∀ (P : Params), KA (_root_.Mine.top.heap_1_39 P) := fun P => by constructor <;> kernel_rfl
  have fF : ∀ (P : Params), KF (_root_.Mine.top.heap_1_39 P) := fun P => { toKA := fA P, inner := ⟨⟨_, _, _, _, _, _, _, rfl⟩, by kernel_rfl⟩, nodeAttr := ⟨⟨_, _, _, _, _, _, _, rfl⟩, by kernel_rfl⟩, edgeAttr := ⟨⟨_, _, _, _, _, _, _, rfl⟩, by kernel_rfl⟩, outer := ⟨⟨_, _, _, _, _, _, _, rfl⟩, by kernel_rfl⟩, nodeFac := ⟨⟨_, _, _, _, _, _, _, rfl⟩, by kernel_rfl⟩, graphAttr := ⟨⟨_, _, _, _, _, _, _, rfl⟩, by kernel_rfl⟩, addNode := ⟨⟨_, _, _, _, _, _, _, rfl⟩, by kernel_rfl⟩, addEdge := ⟨⟨_, _, _, _, _, _, _, rfl⟩, by kernel_rfl⟩, mInner := ⟨by kernel_rfl, by kernel_rfl, by kernel_rfl⟩, mNodeAttr := ⟨by kernel_rfl, by kernel_rfl, by kernel_rfl⟩, mEdgeAttr := ⟨by kernel_rfl, by kernel_rfl, by kernel_rfl⟩, mOuter := ⟨by kernel_rfl, by kernel_rfl, by kernel_rfl⟩, mNodeFac := ⟨by kernel_rfl, by kernel_rfl, by kernel_rfl⟩, mGraphAttr := ⟨by kernel_rfl, by kernel_rfl, by kernel_rfl⟩, mAddNode := ⟨by kernel_rfl, by kernel_rfl, by kernel_rfl⟩ }
  have fEx : ∀ (P : Params), ExK (_root_.Mine.top.heap_1_39 P) := fun P => by constructor <;> kernel_rfl
  have fJ : ∀ (P : Params), KJ (_root_.Mine.top.heap_1_39 P) := fun P => by constructor <;> kernel_rfl
  have fSu1 : ∀ (P : Params), SuK PySem.Challenge.pw_au6040_01 (_root_.Mine.top.heap_1_39 P) dHalf 782 := fun P => by constructor <;> first | kernel_rfl | exact ⟨_, _, _, rfl⟩ | exact ⟨_, _, _, _, _, _, _, rfl, rfl, rfl, by kernel_rfl⟩
  have fSu2 : ∀ (P : Params), SuK PySem.Challenge.pw_au6040_01 (_root_.Mine.top.heap_1_39 P) dInit 782 := fun P => by constructor <;> first | kernel_rfl | exact ⟨_, _, _, rfl⟩ | exact ⟨_, _, _, _, _, _, _, rfl, rfl, rfl, by kernel_rfl⟩
  have hb0 : ∀ (P : Params), HalfB (_root_.Mine.top.heap_1_39 P) [] .none .none := fun P => by intro S doc pm an ct p e f; kernel_rfl
  have hb1 : ∀ (P : Params) (v : Value), HalfB (_root_.Mine.top.heap_1_39 P) [(("cw" : Str), v)] v .none := fun P v => by intro S doc pm an ct p e f; kernel_rfl
  have hb2 : ∀ (P : Params) (v : Value), HalfB (_root_.Mine.top.heap_1_39 P) [(("ccw" : Str), v)] .none v := fun P v => by intro S doc pm an ct p e f; kernel_rfl
  have hb3 : ∀ (P : Params) (v v' : Value), HalfB (_root_.Mine.top.heap_1_39 P) [(("cw" : Str), v), (("ccw" : Str), v')] v v' := fun P v v' => by intro S doc pm an ct p e f; kernel_rfl
  have fG : ∀ (P : Params), KG PySem.Challenge.pw_au6040_01 (_root_.Mine.top.heap_1_39 P) := fun P => { toKF := fF P, toExK := fEx P, half := ⟨⟨_, _, _, _, _, _, _, rfl⟩, by kernel_rfl⟩, suHalf := fSu1 P, mHalf := ⟨by kernel_rfl, by kernel_rfl, by kernel_rfl⟩, hb0 := hb0 P, hb1 := hb1 P, hb2 := hb2 P, hb3 := hb3 P, supEdge := by kernel_rfl, fnEdge := by kernel_rfl, tyEdge := by kernel_rfl, bList := by kernel_rfl }
  have fH : ∀ (P : Params), KH PySem.Challenge.pw_au6040_01 (_root_.Mine.top.heap_1_39 P) := fun P => { toKG := fG P, ccw := ⟨⟨_, _, _, _, _, _, _, rfl⟩, by kernel_rfl⟩, mCcw := ⟨by kernel_rfl, by kernel_rfl, by kernel_rfl⟩, cw := ⟨⟨_, _, _, _, _, _, _, rfl⟩, by kernel_rfl⟩, mCw := ⟨by kernel_rfl, by kernel_rfl, by kernel_rfl⟩, first := ⟨⟨_, _, _, _, _, _, _, rfl⟩, by kernel_rfl⟩, mFirst := ⟨by kernel_rfl, by kernel_rfl, by kernel_rfl⟩, conn := ⟨⟨_, _, _, _, _, _, _, rfl⟩, by kernel_rfl⟩, mConn := ⟨by kernel_rfl, by kernel_rfl, by kernel_rfl⟩ }
  have fI : ∀ (P : Params), KI PySem.Challenge.pw_au6040_01 (_root_.Mine.top.heap_1_39 P) := fun P => { toKH := fH P, remEdge := ⟨⟨_, _, _, _, _, _, _, rfl⟩, by kernel_rfl⟩, mRemEdge := ⟨by kernel_rfl, by kernel_rfl, by kernel_rfl⟩, remNode := ⟨⟨_, _, _, _, _, _, _, rfl⟩, by kernel_rfl⟩, mRemNode := ⟨by kernel_rfl, by kernel_rfl, by kernel_rfl⟩, remNodes := ⟨⟨_, _, _, _, _, _, _, rfl⟩, by kernel_rfl⟩, mRemNodes := ⟨by kernel_rfl, by kernel_rfl, by kernel_rfl⟩, remEdges := ⟨⟨_, _, _, _, _, _, _, rfl⟩, by kernel_rfl⟩, mRemEdges := ⟨by kernel_rfl, by kernel_rfl, by kernel_rfl⟩ }
  have fL : ∀ (P : Params), KL PySem.Challenge.pw_au6040_01 (_root_.Mine.top.heap_1_39 P) := fun P => { toKI := fI P, j := fJ P, aAdj := by kernel_rfl, gAdj := by kernel_rfl, tAdj := by kernel_rfl, cget := ⟨⟨_, _, _, _, _, _, _, rfl⟩, by kernel_rfl⟩, bcget := by intro S doc pm an ct p; kernel_rfl, o579 := by kernel_rfl, o578 := ⟨_, 965, rfl, by kernel_rfl, by kernel_rfl⟩, ga242 := by kernel_rfl, gh242 := by kernel_rfl, f242 := by kernel_rfl, nf := ⟨_, rfl⟩, adjFn := ⟨⟨_, _, _, _, _, _, _, rfl⟩, by kernel_rfl⟩, adjKeep := by kernel_rfl, gitem := by kernel_rfl, gitemF := by kernel_rfl, gitemT := by kernel_rfl, gitemD := ⟨⟨_, _, _, _, _, _, _, rfl⟩, by kernel_rfl⟩, next := ⟨⟨_, _, _, _, _, _, _, rfl⟩, by kernel_rfl⟩, mNext := ⟨by kernel_rfl, by kernel_rfl, by kernel_rfl⟩ }
  have fO : ∀ (P : Params), KO (_root_.Mine.top.heap_1_39 P) := fun P => { toKA := fA P, gIter := ⟨⟨_, _, _, _, _, _, _, rfl⟩, by kernel_rfl⟩, fIter := by kernel_rfl, tIter := by kernel_rfl, gLen := ⟨⟨_, _, _, _, _, _, _, rfl⟩, by kernel_rfl⟩, fLen := by kernel_rfl, tLen := by kernel_rfl, bIter := by kernel_rfl, bLen := by kernel_rfl }
  have fS : ∀ (P : Params), KS PySem.Challenge.pw_au6040_01 (_root_.Mine.top.heap_1_39 P) := fun P => { toKL := fL P, gIter := (fO P).gIter, fIter := (fO P).fIter, tIter := (fO P).tIter, gLen := (fO P).gLen, fLen := (fO P).fLen, tLen := (fO P).tLen, bIter := (fO P).bIter, bLen := (fO P).bLen, cwo := ⟨⟨_, _, _, _, _, _, _, rfl⟩, by kernel_rfl⟩, mCwo := ⟨by kernel_rfl, by kernel_rfl, by kernel_rfl⟩, round := ⟨⟨_, _, _, _, _, _, _, rfl⟩, by kernel_rfl⟩, gRound := by kernel_rfl, kRound := by kernel_rfl, bMin := by kernel_rfl, bSorted := by kernel_rfl, bRange := by kernel_rfl, same := ⟨⟨_, _, _, _, _, _, _, rfl⟩, by kernel_rfl⟩ }
  have fN : ∀ (P : Params), KN PySem.Challenge.pw_au6040_01 (_root_.Mine.top.heap_1_39 P) := fun P => { toKF := fF P, makes := by kernel_rfl, fInit := by kernel_rfl, tInit := by kernel_rfl, init := ⟨⟨_, _, _, _, _, _, _, rfl⟩, by kernel_rfl⟩, bInit := by intro P' doc pm an ct p; exact ⟨_, rfl, fun d => rfl⟩, bDInit := by intro P' doc pm an ct p; exact ⟨_, rfl, fun d => rfl⟩, suInit := fSu2 P, sup := by kernel_rfl, fD := by kernel_rfl, tD := by kernel_rfl, dinit := ⟨⟨_, _, _, _, _, _, _, rfl⟩, by kernel_rfl⟩, set := by kernel_rfl, over := by kernel_rfl, kG := by kernel_rfl, kN := by kernel_rfl, kA := by kernel_rfl, kS := by kernel_rfl, kP := by kernel_rfl }
  have fM : ∀ (P : Params), KM (_root_.Mine.top.heap_1_39 P) := fun P => { cut := ⟨⟨_, _, _, _, _, _, _, rfl⟩, by kernel_rfl⟩, gCut := by kernel_rfl, kCut := by kernel_rfl, leave := ⟨⟨_, _, _, _, _, _, _, rfl⟩, by kernel_rfl⟩, bList := by kernel_rfl }
  have fW : ∀ (P : Params), KW (_root_.Mine.top.heap_1_39 P) := fun P => { num := ⟨⟨_, _, _, _, _, _, _, rfl⟩, by kernel_rfl⟩, bLen := by kernel_rfl }
  have fZ : ∀ (P : Params), KZ PySem.Challenge.pw_au6040_01 (_root_.Mine.top.heap_1_39 P) := fun P => { toKS := fS P, kn := fN P, km := fM P, kwn := fW P, bad := ⟨⟨_, _, _, _, _, _, _, rfl⟩, by kernel_rfl⟩, noEdge := ⟨⟨_, _, _, _, _, _, _, rfl⟩, by kernel_rfl⟩, noNode := ⟨⟨_, _, _, _, _, _, _, rfl⟩, by kernel_rfl⟩, putD := ⟨⟨_, _, _, _, _, _, _, rfl⟩, by kernel_rfl⟩, gNum := by kernel_rfl, kNum := by kernel_rfl, gPut := by kernel_rfl, kPut := by kernel_rfl, gLeave := by kernel_rfl, kLeave := by kernel_rfl, gBad := by kernel_rfl, kBad := by kernel_rfl, gNoEdge := by kernel_rfl, kNoEdge := by kernel_rfl, gNoNode := by kernel_rfl, kNoNode := by kernel_rfl, gSame := by kernel_rfl, kSame := by kernel_rfl, gPE := by kernel_rfl, kPE := by kernel_rfl }
  have fLaw : ∀ (P : Params), dLaw0.In (_root_.Mine.top.heap_1_39 P) := fun P => ⟨⟨_, _, _, _, _, _, _, rfl⟩, by kernel_rfl⟩
  have fName : ∀ (P : Params), nsIn (_root_.Mine.top.heap_1_39 P) mainGlobals "law" = some (some (.ref 988)) := fun P => by kernel_rfl
  exact walk_top fZ fLaw fName rfl fun w h Y => kIn_of Y
end Mine
end

set_option Elab.async false
set_option maxHeartbeats 8000000 in
theorem PySem.Challenge.cw_au6040_01_holds : PySem.Challenge.rw_au6040_01.Holds := by
  exact Mine.top
