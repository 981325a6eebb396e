import PyProof.Rows.All
import Wide.All
import OpenK.AllK
import Wide.FinOn
import PySem.Challenge.RW_pg0144_01
open PySem PySem.W PyProof.Rows PySem.Calls PySem.Spec
set_option Elab.async false
set_option compiler.extract_closed false
set_option maxRecDepth 100000
set_option maxHeartbeats 8000000
namespace Mine
open_top hd for PySem.Challenge.rw_pg0144_01
/-- an object that lies behind the program's data: a code object, a code's table -/
def hid (o : Obj) : Bool := match o.data with
  | .fields vs => (match o.cls with | .none => true | _ => false) || (match (vs[1]? : Option Value) with | some (Value.str _ _) => true | _ => false)
  | _ => false

theorem hid_dict {o : Obj} {es ep} (h : o.data = .dict es ep) : hid o = false := by simp [hid, h]
theorem hid_plain {o : Obj} (h : o.data = .plain) : hid o = false := by simp [hid, h]

def q30 : Str := Str.ofString "_int2digits.<locals>.inner"
def q37 : Str := Str.ofString "_digits2int.<locals>.inner"

def TabL (P : Addr) (l c : Int) (q : Str) (tb : List (Addr × Obj)) : Prop :=
  (P, tabObj #[]) ∈ tb ∨ ∃ cd oc vs t, (P, tabObj #[rawInt l, rawInt c, .ref cd]) ∈ tb ∧ (cd, oc) ∈ tb ∧ oc.data = .fields vs ∧ vs[1]? = some (.str q t)

structure Tb (tb : List (Addr × Obj)) : Prop where
  h : ∀ q ∈ tb, hid q.2 = true
  a : TabL 30 32 4 q30 tb
  b : TabL 37 47 4 q37 tb

/-- a frame's ground; g₀: the heap that the law begins with, its code tables hidden -/
structure Gd (w : World) (loose : List Str) (mean : ExcName → Option Value) (mg mb : Str → Option Value) (g₀ : Heap) (g : Heap) : Prop where
  X : (hd.heap_39 w.params).In g
  T : Top topProg loose mean mg mb g
  base : ∀ b o, g₀.get? b = some o → g.get? b = some o
  G : ∀ b o, g.get? b = some o → hid o = true → g₀.get? b = some o
  XB : (hd.heap_39 w.params).In g₀

structure Inv (w : World) (loose : List Str) (mean : ExcName → Option Value) (mg mb : Str → Option Value) (g₀ : Heap) (h : Heap) : Prop where
  X : (hd.heap_39 w.params).In h
  T : Top topProg loose mean mg mb h
  base : ∀ b o, g₀.get? b = some o → h.get? b = some o
  XB : (hd.heap_39 w.params).In g₀
  tabs : ∃ tb, Tb tb ∧ ∀ q ∈ tb, h.get? q.1 = some q.2 ∧ g₀.get? q.1 = none

def Ext (h h' : Heap) : Prop := ∀ b o, h.get? b = some o → hid o = false → h'.get? b = some o
theorem Ext.refl (h : Heap) : Ext h h := fun _ _ e _ => e
theorem Ext.trans {h h' h'' : Heap} (x : Ext h h') (y : Ext h' h'') : Ext h h'' := fun b o e n => y b o (x b o e n) n
theorem Ext.isList {h h' : Heap} {a : Addr} {items : Array Value} (x : Ext h h') (l : h.IsList a items) : h'.IsList a items := by
  obtain ⟨o, e, hc, n, hd⟩ := l
  exact ⟨o, x a o e (by simp [hid, hd]), hc, n, hd⟩

section
variable {w : World} {loose : List Str} {mean : ExcName → Option Value} {mg mb : Str → Option Value} {g₀ : Heap}

theorem top_sub {h g : Heap} (T : Top topProg loose mean mg mb h) (k : ∀ b o, h.get? b = some o → hid o = false → g.get? b = some o) : Top topProg loose mean mg mb g := by
  have ns : ∀ {a : Addr} {mm : Str → Option Value}, h.Ns a mm → g.Ns a mm := fun x => let ⟨o, es, ep, e, hd, r⟩ := x; ⟨o, es, ep, k _ _ e (hid_dict hd), hd, r⟩
  exact {
    g := ns T.g
    b := ns T.b
    nolimit := let ⟨mc, a, r⟩ := T.nolimit; ⟨mc, ns a, r⟩
    nodigits := let ⟨mc, a, r⟩ := T.nodigits; ⟨mc, ns a, r⟩
    fn := fun d hd => absurd (show d ∈ ([] : List DefRec) from hd) List.not_mem_nil
    own := fun o ho => absurd (show o ∈ ([] : List OwnSpec) from ho) List.not_mem_nil
    const := fun x d e => by cases (show (none : Option PyData) = some d from e)
    free := T.free
    builtins := T.builtins
    tab := fun d hd => absurd (show d ∈ ([] : List DefRec) from hd) List.not_mem_nil
    bmain := let ⟨bm, ob, a1, a2, a3, a4, a5, a6⟩ := T.bmain; ⟨bm, ob, a1, a2, k _ _ a3 (hid_plain a6), a4, a5, a6⟩
    seer := fun e => absurd (show false = true from e) Bool.false_ne_true }

/-- the ground under a call: all that is in plain sight, and the base -/
theorem ground {h : Heap} (I : Inv w loose mean mg mb g₀ h) : ∃ g tb, Gd w loose mean mg mb g₀ g ∧ g.objs.size = h.objs.size ∧ (∀ b o, g.get? b = some o → h.get? b = some o) ∧ (∀ b o, h.get? b = some o → hid o = false → g.get? b = some o) ∧
    Tb tb ∧ ∀ q ∈ tb, h.get? q.1 = some q.2 ∧ g.get? q.1 = none := by
  obtain ⟨X, T, base, XB, tb, B, N⟩ := I
  let as := (List.range h.objs.size).filter fun b => match h.get? b with | some o => hid o && (g₀.get? b).isNone | none => false
  have inn : ∀ b o, h.get? b = some o → hid o = true → g₀.get? b = none → b ∈ as := fun b o e h1 h2 =>
    List.mem_filter.mpr ⟨List.mem_range.mpr (Heap.lt_size e), by simp only [e, h1, h2]; rfl⟩
  have out : ∀ b, b ∈ as → ∃ o, h.get? b = some o ∧ hid o = true ∧ g₀.get? b = none := fun b hb => by
    have h2 := (List.mem_filter.mp hb).2
    cases e : h.get? b with
    | none => simp only [e] at h2; cases h2
    | some o =>
      simp only [e, Bool.and_eq_true] at h2
      exact ⟨o, rfl, h2.1, by simpa using h2.2⟩
  have keep : ∀ b o, h.get? b = some o → hid o = false → (hideAll h as).get? b = some o := fun b o e hv => hideAll_get _ e fun hb => by
    obtain ⟨o', e', h1, _⟩ := out b hb
    rw [e] at e'; cases e'; rw [h1] at hv; cases hv
  have kb : ∀ b o, g₀.get? b = some o → (hideAll h as).get? b = some o := fun b o e => hideAll_get _ (base b o e) fun hb => by
    obtain ⟨_, _, _, h2⟩ := out b hb
    rw [e] at h2; cases h2
  refine ⟨hideAll h as, tb, ⟨fun a o e => kb a o (XB a o e), top_sub T keep, kb, ?_, XB⟩, hideAll_size _ _, fun b o e => of_hideAll _ e, keep, B, fun q hq => ⟨(N q hq).1, hideAll_none _ (inn _ _ (N q hq).1 (B.h q hq) (N q hq).2)⟩⟩
  intro b o e hh
  cases q : g₀.get? b with
  | none =>
    have := hideAll_none as (h := h) (inn b o (of_hideAll _ e) hh q)
    rw [e] at this; cases this
  | some o' =>
    have h1 := base b o' q
    rw [of_hideAll _ e] at h1; cases h1; rfl

/-- at a frame's end: the heap holds the invariant again -/
theorem inv_of {g h : Heap} {L : Addr} {m : Str → Option Value} {rest tb : List (Addr × Obj)} (D : Gd w loose mean mg mb g₀ g) (F : Fr g L h m) (N : News g L h (rest ++ tb)) (B : Tb tb) : Inv w loose mean mg mb g₀ h :=
  ⟨D.X.keeps F.keep, D.T.keeps F.keep, fun b o e => F.keep b o (D.base b o e), D.XB, tb, B, fun q hq => ⟨(N q (List.mem_append_right _ hq)).1, by
    cases e : g₀.get? q.1 with
    | none => rfl
    | some o => have h1 := D.base _ _ e; rw [(N q (List.mem_append_right _ hq)).2.2] at h1; cases h1⟩⟩

/-- a call's contract -/
def Fn (w : World) (loose : List Str) (mean : ExcName → Option Value) (mg mb : Str → Option Value) (g₀ : Heap) (f : Addr) (args : List Value) (d : Nat) (Pre : Heap → Prop) (Post : Value → List (Addr × Obj) → Prop) : Prop :=
  ∀ (A : Around) (s : Shared) (Q : Value → Shared → Prop) (E : Value → Shared → Prop), Inv w loose mean mg mb g₀ s.heap → A.handled = none → A.depth + d < recursionLimit → A.units + 8 * d < cLine → Pre s.heap →
    (∀ v tl h' tk', Ext s.heap h' → Inv w loose mean mg mb g₀ h' → (∀ p ∈ tl, h'.get? p.1 = some p.2 ∧ (∀ o, s.heap.get? p.1 = some o → hid o = true) ∧ hid p.2 = false) → Post v tl → Q v { s with heap := h', toks := tk' }) →
    wpAny (model Challenge.rw_pg0144_01.row.prog w) A (call (.ref f) args) Q E s

theorem use {f : Addr} {args : List Value} {d : Nat} {Pre : Heap → Prop} {Post : Value → List (Addr × Obj) → Prop} {A : Around} {s : Shared} {Q E : Value → Shared → Prop} {g : Heap} {L : Addr} {m : Str → Option Value} {rest tb : List (Addr × Obj)}
    (C : Fn w loose mean mg mb g₀ f args d Pre Post) (D : Gd w loose mean mg mb g₀ g) (B : Tb tb) (F : Fr g L s.heap m) (N : News g L s.heap (rest ++ tb)) (hr : rest.all (fun p => !hid p.2) = true)
    (hh : A.handled = none) (hd : A.depth + d < recursionLimit) (hu : A.units + 8 * d < cLine) (hp : Pre s.heap)
    (h : ∀ v tl tb' h' tk', Tb tb' → Fr g L h' m → News g L h' (tl ++ (rest ++ tb')) → (∀ p ∈ tl, ∀ q ∈ rest, q.1 ≠ p.1) → (∀ p ∈ tl, hid p.2 = false) → Post v tl → Q v { s with heap := h', toks := tk' }) :
    wpAny (model Challenge.rw_pg0144_01.row.prog w) A (call (.ref f) args) Q E s := by
  refine C A s Q E (inv_of D F N B) hh hd hu hp fun v tl h' tk' x I ht po => ?_
  obtain ⟨oL, es, ep, hL, hLd, hLr⟩ := F.ns
  have hr' : ∀ p ∈ rest, hid p.2 = false := fun p hp => by have := List.all_eq_true.mp hr p hp; simpa using this
  have kL := x _ _ hL (hid_dict hLd)
  have F' : Fr g L h' m := ⟨⟨oL, es, ep, kL, hLd, hLr⟩, fun b o e => by
    cases q : hid o with
    | false => exact x b o (F.keep b o e) q
    | true => exact I.base _ _ (D.G b o e q), F.above⟩
  obtain ⟨tb', B', N'⟩ := I.tabs
  refine h v tl tb' h' tk' B' F' (fun p hp => ?_) (fun p hp q hq e => ?_) (fun p hp => (ht p hp).2.2) po
  · rcases List.mem_append.mp hp with hp | hp
    · obtain ⟨h1, h2, h3⟩ := ht p hp
      refine ⟨h1, fun e => ?_, ?_⟩
      · have := h2 _ (e ▸ hL); rw [hid_dict hLd] at this; cases this
      · cases q : g.get? p.1 with
        | none => rfl
        | some o =>
          have h4 := h2 _ (F.keep _ _ q)
          have h5 := I.base _ _ (D.G _ _ q h4)
          rw [h1] at h5; cases h5; rw [h3] at h4; cases h4
    · rcases List.mem_append.mp hp with hp | hp
      · have n := N p (List.mem_append_left _ hp)
        exact ⟨x _ _ n.1 (hr' p hp), n.2⟩
      · have n := N' p hp
        refine ⟨n.1, fun e => ?_, ?_⟩
        · have := B'.h p hp; rw [e, kL] at n; cases n.1; rw [hid_dict hLd] at this; cases this
        · cases q : g.get? p.1 with
          | none => rfl
          | some o =>
            have h4 := F'.keep _ _ q
            rw [n.1] at h4; cases h4
            have h5 := D.G _ _ q (B'.h p hp)
            rw [n.2] at h5; cases h5
  · have n := N q (List.mem_append_left _ hq)
    have := (ht p hp).2.1 _ (e ▸ n.1)
    rw [hr' q hq] at this; cases this

/-- into a def of the text without cells -/
theorem enter {A : Around} {s : Shared} {Q E : Value → Shared → Prop} {name qual : Str} {params : Arguments} {body : List Stmt} {scope : Scope} {dV kV doc pm cdv ct oc : Value} {an od : Option Addr} {osl : Array (Option Value)} {f : Addr} {args : List Value} {binds : List (Str × Value)}
    (I : Inv w loose mean mg mb g₀ s.heap) (hroom : A.depth < recursionLimit)
    (ho : (hd.heap_39 w.params).lookup f = some ⟨oc, od, .func (fnOf name qual params body scope dV kV doc pm an cdv ct), osl⟩) (hcd : codeIn (hd.heap_39 w.params) cdv qual = true)
    (hbind : BindsTo s (fnOf name qual params body scope dV kV doc pm an cdv ct) ⟨args, []⟩ binds) (hloc : ∀ y ∈ binds, scope.names.lookup y.1 = some .local)
    (h : ∀ g tb L h₁, Gd w loose mean mg mb g₀ g → Tb tb → Fr g L h₁ (fun y => binds.reverse.lookup y) → News g L h₁ tb → (∀ b o, s.heap.get? b = some o → hid o = false → g.get? b = some o) → (∀ b o, g.get? b = some o → s.heap.get? b = some o) →
      wpAny (model Challenge.rw_pg0144_01.row.prog w) (A.deeper (envX qual scope L f cdv [])) (execs body (envX qual scope L f cdv []))
        (fun fl s' => Q (match fl with | .ret v => v | _ => .none) s') (fun _ _ => False) { s with heap := h₁, toks := s.toks + binds.length })
    (hcell : ∀ x ∈ scope.names, x.2 ≠ .cell) (hco : scope.isCoroutine = false) (hgen : scope.isGenerator = false) (hk : scope.kind = .function) :
    wpAny (model Challenge.rw_pg0144_01.row.prog w) A (call (.ref f) args) Q E s := by
  obtain ⟨g, tb, D, hsz, sub, keep, B, N⟩ := ground I
  refine wpAny_call (codeAny_call_def (fd := fnOf name qual params body scope dV kV doc pm an cdv ct) (body := body) (binds := binds) hroom (I.X _ _ ho) rfl I.T.nolimit (codeRec_of I.X hcd) rfl hbind hcell hloc (fun h₁ hns hk₁ => ?_) hco hgen hk)
  refine wpAny_mono (h g tb s.heap.objs.size h₁ D B ⟨hns, fun b o e => hk₁ b o (sub b o e), Nat.le_of_eq hsz⟩ (fun p hp => ⟨hk₁ _ _ (N p hp).1, Nat.ne_of_lt (Heap.lt_size (N p hp).1), (N p hp).2⟩) keep sub) (fun fl s' hl => hl) (fun _ _ x => x.elim)

/-- out of it -/
theorem leave {s : Shared} {g h' : Heap} {L : Addr} {m : Str → Option Value} {tl rest tb : List (Addr × Obj)} (D : Gd w loose mean mg mb g₀ g) (B : Tb tb) (F : Fr g L h' m) (N : News g L h' (tl ++ (rest ++ tb)))
    (keep : ∀ b o, s.heap.get? b = some o → hid o = false → g.get? b = some o) (ht : tl.all (fun p => !hid p.2) = true) :
    Ext s.heap h' ∧ Inv w loose mean mg mb g₀ h' ∧ (∀ p ∈ tl, h'.get? p.1 = some p.2 ∧ (∀ o, s.heap.get? p.1 = some o → hid o = true) ∧ hid p.2 = false) := by
  have ht' : ∀ p ∈ tl, hid p.2 = false := fun p hp => by have := List.all_eq_true.mp ht p hp; simpa using this
  refine ⟨fun b o e n => F.keep b o (keep b o e n), inv_of (rest := tl ++ rest) D F (by rw [List.append_assoc]; exact N) B, fun p hp => ?_⟩
  have n := N p (List.mem_append_left _ hp)
  refine ⟨n.1, fun o e => ?_, ht' p hp⟩
  cases q : hid o with
  | true => rfl
  | false => have := keep _ _ e q; rw [n.2.2] at this; cases this

theorem use' {f : Addr} {args : List Value} {d : Nat} {Pre : Heap → Prop} {Post : Value → List (Addr × Obj) → Prop} {A : Around} {s : Shared} {Q E : Value → Shared → Prop} {g : Heap} {L : Addr} {m : Str → Option Value} (rest : List (Addr × Obj)) {tb news : List (Addr × Obj)}
    (C : Fn w loose mean mg mb g₀ f args d Pre Post) (D : Gd w loose mean mg mb g₀ g) (B : Tb tb) (F : Fr g L s.heap m) (N : News g L s.heap news) (hs : ∀ p ∈ rest, p ∈ news) (hb : ∀ p ∈ tb, p ∈ news) (hr : rest.all (fun p => !hid p.2) = true)
    (hh : A.handled = none) (hd : A.depth + d < recursionLimit) (hu : A.units + 8 * d < cLine) (hp : Pre s.heap)
    (h : ∀ v tl tb' h' tk', Tb tb' → Fr g L h' m → News g L h' (tl ++ (rest ++ tb')) → (∀ p ∈ tl, ∀ q ∈ rest, q.1 ≠ p.1) → (∀ p ∈ tl, hid p.2 = false) → Post v tl → Q v { s with heap := h', toks := tk' }) :
    wpAny (model Challenge.rw_pg0144_01.row.prog w) A (call (.ref f) args) Q E s :=
  use C D B F (rest := rest) (tb := tb) (fun p hp => N p ((List.mem_append.mp hp).elim (hs p) (hb p))) hr hh hd hu hp h

theorem useP {f : Addr} {args : List Value} {d : Nat} {Pre : Heap → Prop} {P : Value → Prop} {A : Around} {s : Shared} {Q E : Value → Shared → Prop} {g : Heap} {L : Addr} {m : Str → Option Value} (rest : List (Addr × Obj)) {tb news : List (Addr × Obj)}
    (C : Fn w loose mean mg mb g₀ f args d Pre (fun v tl => tl = [] ∧ P v)) (D : Gd w loose mean mg mb g₀ g) (B : Tb tb) (F : Fr g L s.heap m) (N : News g L s.heap news) (hs : ∀ p ∈ rest, p ∈ news) (hb : ∀ p ∈ tb, p ∈ news) (hr : rest.all (fun p => !hid p.2) = true)
    (hh : A.handled = none) (hd : A.depth + d < recursionLimit) (hu : A.units + 8 * d < cLine) (hp : Pre s.heap)
    (h : ∀ v tb' h' tk', Tb tb' → Fr g L h' m → News g L h' (rest ++ tb') → P v → Q v { s with heap := h', toks := tk' }) :
    wpAny (model Challenge.rw_pg0144_01.row.prog w) A (call (.ref f) args) Q E s :=
  use' rest C D B F N hs hb hr hh hd hu hp fun v tl tb' h' tk' B' F' N' _ _ po => by
    obtain ⟨rfl, hv⟩ := po
    exact h v tb' h' tk' B' F' N' hv

/-- what a frame needs at its end -/
structure Ret (w : World) (loose : List Str) (mean : ExcName → Option Value) (mg mb : Str → Option Value) (g₀ : Heap) (s : Shared) (Q : Value → Shared → Prop) (Post : Value → List (Addr × Obj) → Prop) (g : Heap) : Prop where
  ret : ∀ v tl h' tk', Ext s.heap h' → Inv w loose mean mg mb g₀ h' → (∀ p ∈ tl, h'.get? p.1 = some p.2 ∧ (∀ o, s.heap.get? p.1 = some o → hid o = true) ∧ hid p.2 = false) → Post v tl → Q v { s with heap := h', toks := tk' }
  D : Gd w loose mean mg mb g₀ g
  keep : ∀ b o, s.heap.get? b = some o → hid o = false → g.get? b = some o

theorem done_ {Post : Value → List (Addr × Obj) → Prop} {s s' : Shared} {Q : Value → Shared → Prop} {g h' : Heap} {L : Addr} {m : Str → Option Value} (tl : List (Addr × Obj)) {tb news : List (Addr × Obj)} {v : Value} {tk' : Nat}
    (R : Ret w loose mean mg mb g₀ s Q Post g) (B : Tb tb) (F : Fr g L h' m) (N : News g L h' news) (hs : ∀ p ∈ tl, p ∈ news) (hb : ∀ p ∈ tb, p ∈ news)
    (ht : tl.all (fun p => !hid p.2) = true) (po : Post v tl) (e : s' = { s with heap := h', toks := tk' }) : Q v s' := by
  subst e
  have x := leave (tl := tl) (rest := []) R.D B F (fun p hp => N p ((List.mem_append.mp hp).elim (hs p) fun hq => hb p (by simpa using hq))) R.keep ht
  exact R.ret v tl h' tk' x.1 x.2.1 x.2.2 po

theorem doneP {P : Value → Prop} {s s' : Shared} {Q : Value → Shared → Prop} {g h' : Heap} {L : Addr} {m : Str → Option Value} {tb news : List (Addr × Obj)} {v : Value} {tk' : Nat}
    (R : Ret w loose mean mg mb g₀ s Q (fun v tl => tl = [] ∧ P v) g) (B : Tb tb) (F : Fr g L h' m) (N : News g L h' news) (hb : ∀ p ∈ tb, p ∈ news)
    (po : P v) (e : s' = { s with heap := h', toks := tk' }) : Q v s' :=
  done_ [] R B F N (fun _ h => nomatch h) hb rfl ⟨rfl, po⟩ e
end
theorem roomD {A : Around} {env : Env} {d d' : Nat} (h : A.depth + d < recursionLimit) (h' : d' + 1 ≤ d) : (A.deeper env).depth + d' < recursionLimit := by
  show A.depth + 1 + d' < recursionLimit; omega
theorem roomU {A : Around} {env : Env} {d d' : Nat} (h : A.units + 8 * d < cLine) (h' : d' + 1 ≤ d) : (A.deeper env).units + 8 * d' < cLine := by
  show A.units + 3 + 8 * d' < cLine; omega
theorem room0 {A : Around} {d : Nat} (h : A.depth + d < recursionLimit) : A.depth < recursionLimit := by omega
local macro_rules | `(tactic| walk_at $s:str) => `(tactic| k_extra $s)
local macro_rules | `(tactic| walk_at "m enter") => `(tactic| (k_dflt (case kd => exact room0 (by assumption)); (case ko => k_is); (case kc => k_is); (case kb => exact BindsTo.of_eq rfl); (case kl => exact locs rfl); (case c1 => decide); (case c2 => exact rfl); (case c3 => exact rfl); (case c4 => exact rfl)))
local macro_rules | `(tactic| walk_at "m bool") => `(tactic| (refine congrArg Value.bool (Bool.eq_iff_iff.mpr ?_); (try simp only [decide_eq_true_eq, Bool.or_eq_true, Bool.and_eq_true, Bool.false_eq_true, true_iff, false_iff, iff_true, iff_false]); omega))
def isA (c : Int) : Bool := decide (65 ≤ c ∧ c ≤ 90) || decide (97 ≤ c ∧ c ≤ 122)
section
variable {prog : Program} {w : World} {A : Around} {E : Value → Shared → Prop} {s : Shared} {a b r : Int} {t u : Tok} {Q : Value → Shared → Prop}
theorem and_intE (e : Builtin.bitAnd a b = r) (h : Q (.int r s.toks) { s with toks := s.toks + 1 }) : wpAny (model prog w) A (binaryOp .BitAnd (.int a t) (.int b u)) Q E s := and_int (e ▸ h)
theorem or_intE (e : Builtin.bitOr a b = r) (h : Q (.int r s.toks) { s with toks := s.toks + 1 }) : wpAny (model prog w) A (binaryOp .BitOr (.int a t) (.int b u)) Q E s := or_int (e ▸ h)
end
theorem caret_eq (c : Int) : Str.ofString "^" ++ (⟨#[(c + 32 + 32).toNat]⟩ : Str) = ⟨#[94, (c + 64).toNat]⟩ := by
  rw [show c + 32 + 32 = c + 64 by omega, show Str.ofString "^" = ⟨#[94]⟩ by decide +kernel]; rfl
theorem fig_bits : ∀ n : Fin 27, Builtin.bitAnd ((n.val : Nat) : Int) 127 = (n.val : Nat) ∧ Builtin.bitAnd ((n.val : Nat) : Int) 128 = 0 ∧ Builtin.bitOr ((n.val : Nat) : Int) 32 = (n.val : Nat) + 32 := by decide
theorem fig_of {c : Int} (h0 : 1 ≤ c) (h1 : c ≤ 26) : Builtin.bitAnd c 127 = c ∧ Builtin.bitAnd c 128 = 0 ∧ Builtin.bitOr c 32 = c + 32 := by
  obtain ⟨n, rfl⟩ := Int.eq_ofNat_of_zero_le (Int.le_trans (by decide) h0)
  exact fig_bits ⟨n, by omega⟩
theorem kw01 : True := by (k_with "binaryOp BitAnd int int" => (first | refine and_intE (bitAnd_m5 _) ?_ | refine and_intE (fig_of (by assumption) (by assumption)).1 ?_ | refine and_intE (fig_of (by assumption) (by assumption)).2.1 ?_)); trivial
theorem kw02 : True := by (k_with "binaryOp BitOr int int" => (refine or_intE (fig_of (by assumption) (by assumption)).2.2 ?_)); trivial
abbrev tupO (vs : List Value) : Obj := { cls := .type "tuple", data := .seq vs.toArray }
theorem log2_ok {b : Int} (h0 : 0 < b) (h : b < 2 ^ 240) : b.natAbs.log2 < 9000 := by
  have h1 : b.natAbs < 2 ^ 240 := by omega
  have h2 : b.natAbs.log2 < 240 := (Nat.log2_lt (by omega)).mpr h1
  omega
theorem intBits_small {a : Int} {k : Nat} (h0 : 0 ≤ a) (h : a < 2 ^ k) : Builtin.Int.intBits a ≤ k := by
  refine intBits_le_iff.mpr ?_
  have : ((2 ^ k : Nat) : Int) = (2 : Int) ^ k := kbt_cast k
  omega
section
variable {prog : Program} {w : World} {A : Around} {E : Value → Shared → Prop} {s : Shared} {a b : Int} {t u : Tok} {Q : Value → Shared → Prop} {g : Heap} {L : Addr} {m : Str → Option Value} {news : List (Addr × Obj)}
theorem divmod_m (F : Fr g L s.heap m) (N : News g L s.heap news) (h0 : 0 < b) (h1 : b < 2 ^ 240)
    (h : ∀ x h', Fr g L h' m → News g L h' ((x, tupO [.int (a / b) s.toks, .int (a % b) (s.toks + 1)]) :: news) → Q (.ref x) { s with toks := s.toks + 1 + 1, heap := h' }) :
    wpAny (model prog w) A (call (.builtin "divmod") [.int a t, .int b u]) Q E s := by
  refine divmod_N F N (by omega) (fun h' F' N' => ?_) (.inl (PyProof.noPylong_of_log2 (log2_ok h0 h1)))
  rw [Int.fdiv_eq_ediv_of_nonneg _ (by omega), Int.fmod_eq_emod_of_nonneg _ (by omega)] at N'
  exact h _ h' F' N'
end
theorem kw03 : True := by (k_with "call builtin:divmod" => ((k_dflt (refine' divmod_m (by assumption) (by assumption) (by assumption) (by assumption) ?_); intro _ _ _ _))); trivial
section
variable {w : World} {loose : List Str} {mean : ExcName → Option Value} {mg mb : Str → Option Value} {g₀ : Heap}
theorem div2n1n (a b n : Int) (t u z : Tok) : Fn w loose mean mg mb g₀ 21 [.int a t, .int b u, .int n z] 3 (fun _ => 0 ≤ a ∧ 0 < b ∧ b < 2 ^ 240 ∧ 0 ≤ n ∧ a < 2 ^ 500) (fun v tl => ∃ x t1 t2, v = .ref x ∧ tl = [(x, tupO [.int (a / b) t1, .int (a % b) t2])]) := by
  intro A s Q E I hh hdp hun hpre hret
  obtain ⟨hp1, hp2, hp3, hp4, hp5⟩ := hpre
  have hb := intBits_small hp1 hp5
  have hX : (hd.heap_39 w.params).In s.heap ∧ (Challenge.rw_pg0144_01 = Challenge.rw_pg0144_01) := by k_fill; exact ⟨I.X, rfl⟩
  refine' enter (binds := [("a", .int a t), ("b", .int b u), ("n", .int n z)]) I ?kd ?ko ?kc ?kb ?kl ?_ ?c1 ?c2 ?c3 ?c4
  walk_at "m enter"
  intro g tb L h₁ D B F N keep sub
  have X := D.X
  have T := D.T
  have R := Ret.mk hret D keep
  clear hp5
  k_steps
  rename_i x' h' F' N'
  exact done_ [(x', _)] R B F' N' (by intro p hp; rw [List.mem_singleton.mp hp]; exact .head _) (fun p hp => .tail _ hp) rfl ⟨_, _, _, rfl, rfl⟩ rfl
end
theorem hid_code {o : Obj} {vs : Array Value} {q : Str} {t : Tok} (hd : o.data = .fields vs) (hv : vs[1]? = some (.str q t)) : hid o = true := by simp [hid, hd, hv]
theorem hid_tab (ps : Array Value) : hid (tabObj ps) = true := rfl
section
variable {w : World} {loose : List Str} {mean : ExcName → Option Value} {mg mb : Str → Option Value} {g₀ : Heap}
theorem enterC {A : Around} {s : Shared} {Q E : Value → Shared → Prop} {name qual : Str} {params : Arguments} {body : List Stmt} {scope : Scope} {dV kV doc pm cdv ct oc : Value} {an od : Option Addr} {osl : Array (Option Value)} {f : Addr} {args : List Value} {binds : List (Str × Value)}
    (I : Inv w loose mean mg mb g₀ s.heap) (hroom : A.depth < recursionLimit)
    (ho : (hd.heap_39 w.params).lookup f = some ⟨oc, od, .func (fnX name qual params body scope [] dV kV doc pm an cdv ct), osl⟩) (hcd : codeIn (hd.heap_39 w.params) cdv qual = true)
    (hbind : BindsTo s (fnX name qual params body scope [] dV kV doc pm an cdv ct) ⟨args, []⟩ binds)
    (hkind : (binds.all fun y => scope.names.lookup y.1 == some .local || scope.names.lookup y.1 == some .cell) = true) (hnd : ((cellsFrom 0 scope.names []).map (·.1)).Nodup)
    (h : ∀ g tb L h₁ tk cells, Gd w loose mean mg mb g₀ g → Tb tb → Fr g L h₁ (bindL (envOfC qual scope L f cdv).kindOf binds fun _ => none) → News g L h₁ (cells ++ tb) →
      CellsAre (bindC (envOfC qual scope L f cdv).kindOf binds fun _ => none) (cellsFrom (L + 1) scope.names []) cells →
      (∀ b o, s.heap.get? b = some o → hid o = false → g.get? b = some o) → (∀ b o, g.get? b = some o → s.heap.get? b = some o) → (∀ q ∈ tb, q.1 < L) →
      wpAny (model Challenge.rw_pg0144_01.row.prog w) (A.deeper (envOfC qual scope L f cdv)) (execs body (envOfC qual scope L f cdv))
        (fun fl s' => Q (match fl with | .ret v => v | _ => .none) s') (fun _ _ => False) { s with heap := h₁, toks := tk })
    (hco : scope.isCoroutine = false) (hgen : scope.isGenerator = false) (hk : scope.kind = .function) :
    wpAny (model Challenge.rw_pg0144_01.row.prog w) A (call (.ref f) args) Q E s := by
  obtain ⟨g, tb, D, hsz, sub, keep, B, N⟩ := ground I
  refine wpAny_call (codeAny_call_function hroom (I.X _ _ ho) rfl hco hgen rfl (codeRec_of I.X hcd) (hbind _ _ _ _ ?_))
  refine wpAny_newFunctionEnv_cells hk (kindsX hkind _) fun env' he s' x => ?_
  subst he
  have up := x.toInCall.keep
  refine ⟨I.T.nolimit.keeps up, codeAny_func ?_⟩
  obtain ⟨h₁, tk, rfl, _⟩ := x.done
  obtain ⟨cells, NC, Y⟩ := Cl.news (h₀ := s.heap) (Nat.le_refl _) fun n c hm => ⟨x.cell n c (lookup_of_mem_nodup (cellsFrom_names scope.names 0 (s.heap.objs.size + 1) [] [] rfl ▸ hnd) hm), x.above n c hm⟩
  refine wpAny_mono (h g tb s.heap.objs.size h₁ tk cells D B ⟨x.toInCall.ns, fun b o e => up b o (sub b o e), Nat.le_of_eq hsz⟩ (fun p hp => ?_) Y keep sub (fun q hq => Heap.lt_size (N q hq).1)) (fun fl s' hl => hl) (fun _ _ y => y.elim)
  rcases List.mem_append.mp hp with hp | hp
  · refine ⟨(NC p hp).1, (NC p hp).2.1, ?_⟩
    cases q : g.get? p.1 with
    | none => rfl
    | some o => have := sub _ _ q; rw [(NC p hp).2.2] at this; cases this
  · exact ⟨up _ _ (N p hp).1, Nat.ne_of_lt (Heap.lt_size (N p hp).1), (N p hp).2⟩

/-- the entries that stand for one table -/
theorem tab_part {P : Addr} {l c : Int} {q : Str} {tb : List (Addr × Obj)} (h : TabL P l c q tb) : ∃ ot, (∀ p ∈ ot, p ∈ tb) ∧ TabL P l c q ot ∧ (∀ p ∈ ot, p.1 = P ∨ ∃ vs t, p.2.data = .fields vs ∧ vs[1]? = some (.str q t)) := by
  rcases h with h | ⟨cd, oc, vs, t, h1, h2, h3, h4⟩
  · exact ⟨[(P, tabObj #[])], fun p hp => by rw [List.mem_singleton.mp hp]; exact h, .inl (.head _), fun p hp => .inl (by rw [List.mem_singleton.mp hp])⟩
  · refine ⟨[(P, tabObj #[rawInt l, rawInt c, .ref cd]), (cd, oc)], fun p hp => ?_, .inr ⟨cd, oc, vs, t, .head _, .tail _ (.head _), h3, h4⟩, fun p hp => ?_⟩
    · rcases List.mem_cons.mp hp with rfl | hp
      · exact h1
      · rw [List.mem_singleton.mp hp]; exact h2
    · rcases List.mem_cons.mp hp with rfl | hp
      · exact .inl rfl
      · rw [List.mem_singleton.mp hp]; exact .inr ⟨vs, t, h3, h4⟩
theorem TabL.mono {P : Addr} {l c : Int} {q : Str} {tb tb' : List (Addr × Obj)} (h : TabL P l c q tb) (hs : ∀ p ∈ tb, p ∈ tb') : TabL P l c q tb' := by
  rcases h with h | ⟨cd, oc, vs, t, h1, h2, h3, h4⟩
  · exact .inl (hs _ h)
  · exact .inr ⟨cd, oc, vs, t, hs _ h1, hs _ h2, h3, h4⟩

/-- a def statement within a def: its code is made at the first time, found later -/
theorem nest_any {A : Around} {E : Value → Shared → Prop} {s : Shared} {g : Heap} {L a cc P P₂ : Addr} {l₂ k₂ : Int} {m : Str → Option Value} {cn : Str} {cs : Scope} {cl : List (Str × Addr)} {rest tb : List (Addr × Obj)} {name qual q₂ : Str} {params : Arguments} {body : List Stmt} {scope : Scope} {pos : Pos} {firstLine : Nat} {clos : List (Str × Addr)}
    {Q : Value → Shared → Prop} (D : Gd w loose mean mg mb g₀ g) (F : Fr g L s.heap m) (N : News g L s.heap (rest ++ tb)) (hb : ∀ q ∈ tb, hid q.2 = true) (h1 : TabL P pos.line pos.col qual tb) (h2 : TabL P₂ l₂ k₂ q₂ tb) (hne : P₂ ≠ P)
    (hr : ∀ p ∈ rest, hid p.2 = false) (C : CodeHd g cc P) (hcl : closureFor scope (envX cn cs L a (.ref cc) cl) = pure clos)
    (h : ∀ f fo c' ctv doc h' tk tb', fo = fnMade name qual params body scope clos doc ((mg "__name__").getD .none) c' ctv → (∀ q ∈ tb', hid q.2 = true) → TabL P pos.line pos.col qual tb' → TabL P₂ l₂ k₂ q₂ tb' → Fr g L h' m → News g L h' ((f, fo) :: (rest ++ tb')) →
      (∀ p ∈ rest, p.1 < f) → (∃ oc vs t, (c', oc) ∈ tb' ∧ oc.data = .fields vs ∧ vs[1]? = some (.str qual t)) → Q (.ref f) { s with heap := h', toks := tk }) :
    wpAny (model Challenge.rw_pg0144_01.row.prog w) A (makeFunction name qual params (.stmts body) scope (envX cn cs L a (.ref cc) cl) [] [] [] pos firstLine) Q E s := by
  obtain ⟨ot, os, oh, ok⟩ := tab_part h2
  rcases h1 with h1 | ⟨cd, oc, vs, t, e1, e2, e3, e4⟩
  · have N₁ : News g L s.heap ((P, tabObj #[]) :: (rest ++ ot)) := fun p hp => by
      rcases List.mem_cons.mp hp with rfl | hp
      · exact N _ (List.mem_append_right _ h1)
      · exact N p ((List.mem_append.mp hp).elim (List.mem_append_left _) fun hp => List.mem_append_right _ (os p hp))
    have nP : ∀ p ∈ rest ++ ot, p.1 ≠ P := fun p hp e => by
      have eP := (N₁ _ (.head _)).1
      have ep := (N₁ p (.tail _ hp)).1
      rw [e, eP] at ep
      have eo : tabObj #[] = p.2 := Option.some.inj ep
      rcases List.mem_append.mp hp with hp | hp
      · have := hr p hp; rw [← eo] at this; cases this
      · rcases ok p hp with q | ⟨vs, t, q1, q2⟩
        · exact hne (q.symm.trans e)
        · rw [← eo] at q1; cases q1; cases q2
    refine nest_K F N₁ D.T C rfl (UpdF.head nP) (by trivial) rfl hcl fun f c' oc vs t ctv doc h' tk F' N' d1 d2 l1 l2 => ?_
    have hc : hid oc = true := hid_code d1 d2
    refine h f _ c' ctv doc h' tk ((c', oc) :: (P, tabObj #[rawInt pos.line, rawInt pos.col, .ref c'])   :: ot) rfl (fun q hq => ?_) (.inr ⟨c', oc, vs, t, .tail _ (.head _), .head _, d1, d2⟩)
      (oh.mono fun p hp => .tail _ (.tail _ hp)) F' (fun p hp => N' p ?_) (fun p hp => Nat.lt_trans (l1 p (.tail _ (List.mem_append_left _ hp))) l2) ⟨oc, vs, t, .head _, d1, d2⟩
    · rcases List.mem_cons.mp hq with rfl | hq
      · exact hc
      · rcases List.mem_cons.mp hq with rfl | hq
        · rfl
        · exact hb q (os q hq)
    · rcases List.mem_cons.mp hp with rfl | hp
      · exact .head _
      · refine .tail _ ?_
        rcases List.mem_append.mp hp with hp | hp
        · exact .tail _ (.tail _ (List.mem_append_left _ hp))
        · rcases List.mem_cons.mp hp with rfl | hp
          · exact .head _
          · rcases List.mem_cons.mp hp with rfl | hp
            · exact .tail _ (.head _)
            · exact .tail _ (.tail _ (List.mem_append_right _ hp))
  · refine nestHit_K (ps := #[rawInt pos.line, rawInt pos.col, .ref cd]) (c' := cd) F N D.T C rfl (List.mem_append_right _ e1) ?_ ?_ hcl fun f ctv doc h' tk F' N' l1 => ?_
    · simp [TriplesOk, rawInt]
    · simp [codeAmong, rawInt]
    · exact h f _ cd ctv doc h' tk tb rfl hb (.inr ⟨cd, oc, vs, t, e1, e2, e3, e4⟩) h2 F' N' (fun p hp => l1 p (List.mem_append_left _ hp)) ⟨oc, vs, t, e2, e3, e4⟩
end
/-- the worth of figures, the least first, each of n bits -/
def d2i (n : Nat) : List Int → Int
  | [] => 0
  | d :: r => d + 2 ^ n * d2i n r
theorem d2i_append (n : Nat) (a b : List Int) : d2i n (a ++ b) = d2i n a + 2 ^ (n * a.length) * d2i n b := by
  induction a with
  | nil => simp [d2i]
  | cons d r ih =>
    simp only [List.cons_append, d2i, ih, List.length_cons]
    rw [Nat.mul_add, Nat.mul_one, Int.pow_add, Int.mul_add, Int.add_assoc]
    congr 2
    rw [← Int.mul_assoc, Int.mul_comm (2 ^ n)]
theorem two_pos (k : Nat) : (0 : Int) < 2 ^ k := Int.pow_pos (by decide)
theorem two_mono {a b : Nat} (h : a ≤ b) : (2 : Int) ^ a ≤ 2 ^ b := by
  obtain ⟨c, rfl⟩ := Nat.exists_eq_add_of_le h
  rw [Int.pow_add]
  have := two_pos a; have := two_pos c
  calc (2 : Int) ^ a = 2 ^ a * 1 := by rw [Int.mul_one]
    _ ≤ 2 ^ a * 2 ^ c := Int.mul_le_mul_of_nonneg_left (by omega) (by omega)
theorem d2i_bound (n K : Nat) : ∀ l : List Int, (∀ d ∈ l, 0 ≤ d ∧ d < 2 ^ K) → 0 ≤ d2i n l ∧ d2i n l < 2 ^ (K + (n + 1) * l.length)
  | [], _ => by simp only [d2i]; exact ⟨Int.le_refl _, two_pos _⟩
  | d :: r, h => by
    have ⟨h0, h1⟩ := h d (.head _)
    have ⟨i0, i1⟩ := d2i_bound n K r fun x hx => h x (.tail _ hx)
    simp only [d2i, List.length_cons]
    have e : K + (n + 1) * (r.length + 1) = n + (K + (n + 1) * r.length) + 1 := by rw [Nat.mul_add, Nat.mul_one]; omega
    have p := two_pos n
    refine ⟨Int.add_nonneg h0 (Int.mul_nonneg (by omega) i0), ?_⟩
    rw [e, Int.pow_succ, Int.pow_add]
    have m1 : (2 : Int) ^ n * d2i n r ≤ 2 ^ n * (2 ^ (K + (n + 1) * r.length) - 1) := Int.mul_le_mul_of_nonneg_left (by omega) (by omega)
    rw [Int.mul_sub, Int.mul_one] at m1
    have m2 : (2 : Int) ^ K ≤ 2 ^ n * 2 ^ (K + (n + 1) * r.length) := by rw [← Int.pow_add]; exact two_mono (by omega)
    omega
/-- figures lo to hi -/
def seg (ns : List Int) (lo hi : Nat) : List Int := (ns.drop lo).take (hi - lo)
theorem seg_split {ns : List Int} {lo mid hi : Nat} (h1 : lo ≤ mid) (h2 : mid ≤ hi) : seg ns lo hi = seg ns lo mid ++ seg ns mid hi := by
  unfold seg
  rw [show hi - lo = (mid - lo) + (hi - mid) by omega, List.take_add, List.drop_drop, show lo + (mid - lo) = mid by omega]
theorem seg_len {ns : List Int} {lo hi : Nat} (h2 : hi ≤ ns.length) : (seg ns lo hi).length = hi - lo := by
  unfold seg; rw [List.length_take, List.length_drop]; omega
theorem seg_one {ns : List Int} {lo : Nat} (h : lo < ns.length) : seg ns lo (lo + 1) = [ns[lo]] := by
  unfold seg
  rw [show lo + 1 - lo = 1 by omega, List.drop_eq_getElem_cons h]; rfl
theorem seg_all (ns : List Int) : seg ns 0 ns.length = ns := by simp [seg]
theorem seg_mem {ns : List Int} {lo hi : Nat} {d : Int} (h : d ∈ seg ns lo hi) : d ∈ ns := List.mem_of_mem_drop (List.mem_of_mem_take h)
theorem d2i_seg {n : Nat} {ns : List Int} {lo mid hi : Nat} (h1 : lo ≤ mid) (h2 : mid ≤ hi) (h3 : hi ≤ ns.length) : d2i n (seg ns mid hi) * 2 ^ ((mid - lo) * n) + d2i n (seg ns lo mid) = d2i n (seg ns lo hi) := by
  rw [seg_split h1 h2, d2i_append, seg_len (by omega), Nat.mul_comm n, Int.add_comm, Int.mul_comm]
/-- k figures of n bits, the least first -/
def i2d (n : Nat) : Nat → Int → List Int
  | 0, _ => []
  | k + 1, x => x % 2 ^ n :: i2d n k (x / 2 ^ n)
theorem i2d_len (n : Nat) : ∀ k x, (i2d n k x).length = k
  | 0, _ => rfl
  | k + 1, x => by simp [i2d, i2d_len n k]
theorem emod_div (x : Int) {P Q : Int} (hP : 0 < P) (hQ : 0 < Q) : (x % (P * Q)) / P = x / P % Q := by
  have hPQ : 0 < P * Q := Int.mul_pos hP hQ
  have e := Int.mul_ediv_add_emod x (P * Q)
  have r0 := Int.emod_nonneg x (Int.ne_of_gt hPQ)
  have r1 := Int.emod_lt_of_pos x hPQ
  generalize x % (P * Q) = r at *
  generalize x / (P * Q) = q at *
  have h1 : x / P = r / P + Q * q := by
    rw [← e, Int.mul_assoc, Int.add_comm, Int.add_mul_ediv_left _ _ (Int.ne_of_gt hP)]
  rw [h1, Int.add_mul_emod_self_left]
  rw [Int.emod_eq_of_lt (Int.ediv_nonneg r0 (Int.le_of_lt hP)) (Int.ediv_lt_of_lt_mul hP (by rw [Int.mul_comm]; exact r1))]
theorem i2d_split (n : Nat) : ∀ (a b : Nat) (x : Int), i2d n (a + b) x = i2d n a (x % 2 ^ (n * a)) ++ i2d n b (x / 2 ^ (n * a))
  | 0, b, x => by simp [i2d]
  | a + 1, b, x => by
    rw [show a + 1 + b = (a + b) + 1 by omega]
    simp only [i2d, List.cons_append, i2d_split n a b]
    have e : (2 : Int) ^ (n * (a + 1)) = 2 ^ n * 2 ^ (n * a) := by rw [Nat.mul_add, Nat.mul_one, Nat.add_comm, Int.pow_add]
    rw [e, Int.emod_emod_of_dvd x (Int.dvd_mul_right ..), emod_div x (two_pos n) (two_pos _), ← Int.ediv_ediv_of_nonneg (Int.le_of_lt (two_pos n))]
theorem i2d_one {n : Nat} {x : Int} (h0 : 0 ≤ x) (h1 : x < 2 ^ n) : i2d n 1 x = [x] := by
  simp only [i2d]; rw [Int.emod_eq_of_lt h0 h1]
theorem i2d_range (n : Nat) : ∀ k x, ∀ d ∈ i2d n k x, 0 ≤ d ∧ d < 2 ^ n
  | 0, _, _, h => nomatch h
  | k + 1, x, d, h => by
    rcases List.mem_cons.mp h with rfl | h
    · exact ⟨Int.emod_nonneg _ (Int.ne_of_gt (two_pos n)), Int.emod_lt_of_pos _ (two_pos n)⟩
    · exact i2d_range n k _ d h
theorem d2i_i2d (n : Nat) : ∀ k x, 0 ≤ x → x < 2 ^ (n * k) → d2i n (i2d n k x) = x
  | 0, x, h0, h1 => by simp [i2d, d2i] at *; omega
  | k + 1, x, h0, h1 => by
    simp only [i2d, d2i]
    rw [d2i_i2d n k (x / 2 ^ n) (Int.ediv_nonneg h0 (Int.le_of_lt (two_pos n)))]
    · rw [Int.add_comm]; exact Int.mul_ediv_add_emod x (2 ^ n)
    · rw [Nat.mul_add, Nat.mul_one, Int.pow_add] at h1
      exact Int.ediv_lt_of_lt_mul (two_pos n) h1
/-- figures written over a list from place lo on -/
def put (ns : List Int) (lo : Nat) (ds : List Int) : List Int := ns.take lo ++ ds ++ ns.drop (lo + ds.length)
theorem put_len {ns : List Int} {lo : Nat} {ds : List Int} (h : lo + ds.length ≤ ns.length) : (put ns lo ds).length = ns.length := by
  simp only [put, List.length_append, List.length_take, List.length_drop]; omega
theorem put_put {ns : List Int} {lo : Nat} {d1 d2 : List Int} (h : lo + d1.length + d2.length ≤ ns.length) : put (put ns lo d1) (lo + d1.length) d2 = put ns lo (d1 ++ d2) := by
  unfold put
  have e1 : (ns.take lo ++ d1).length = lo + d1.length := by simp only [List.length_append, List.length_take]; omega
  rw [List.take_append_of_le_length (by omega), List.take_of_length_le (Nat.le_of_eq e1)]
  rw [show lo + d1.length + d2.length = (ns.take lo ++ d1).length + d2.length by omega, ← List.drop_drop, List.drop_append, List.drop_of_length_le (Nat.le_refl _), Nat.sub_self, List.drop_zero, List.nil_append, List.drop_drop, List.length_append]
  simp only [List.append_assoc]
  rw [Nat.add_assoc]
theorem set_put {x : Int} : ∀ {ns : List Int} {lo : Nat}, lo < ns.length → ns.set lo x = put ns lo [x]
  | [], _, h => absurd h (Nat.not_lt_zero _)
  | a :: r, 0, _ => by simp [put]
  | a :: r, lo + 1, h => by
    have := set_put (x := x) (ns := r) (lo := lo) (by simpa using h)
    simp only [put, List.length_singleton] at this ⊢
    simp [this]
theorem put_all {ns ds : List Int} (h : ds.length = ns.length) : put ns 0 ds = ds := by simp [put, h]
theorem and_low (x k : Nat) : x &&& (x / 2 ^ k * 2 ^ k) = x / 2 ^ k * 2 ^ k := by
  rw [← Nat.shiftRight_eq_div_pow, ← Nat.shiftLeft_eq]
  apply Nat.eq_of_testBit_eq
  intro i
  simp only [Nat.testBit_and, Nat.testBit_shiftLeft, Nat.testBit_shiftRight]
  by_cases h : k ≤ i
  · simp [h, show k + (i - k) = i by omega]
  · simp [h]
theorem xor_low {x : Int} (h0 : 0 ≤ x) (k : Nat) : Builtin.bitXor x (x / 2 ^ k * 2 ^ k) = x % 2 ^ k := by
  obtain ⟨m, rfl⟩ := Int.eq_ofNat_of_zero_le h0
  have e : ((m : Nat) : Int) / 2 ^ k * 2 ^ k = ((m / 2 ^ k * 2 ^ k : Nat) : Int) := by
    rw [Int.natCast_mul, Int.natCast_ediv, Int.natCast_pow]; rfl
  rw [bitXor_and, e]
  have ha : Builtin.bitAnd ((m : Nat) : Int) ((m / 2 ^ k * 2 ^ k : Nat) : Int) = ((m / 2 ^ k * 2 ^ k : Nat) : Int) := by
    have : Builtin.bitAnd ((m : Nat) : Int) ((m / 2 ^ k * 2 ^ k : Nat) : Int) = ((m &&& (m / 2 ^ k * 2 ^ k) : Nat) : Int) := by
      unfold Builtin.bitAnd
      simp only [Int.natCast_nonneg, decide_true, Int.toNat_natCast]
    rw [this, and_low]
  rw [ha]
  have h2 := Nat.div_add_mod m (2 ^ k)
  have h3 : ((m : Nat) : Int) % 2 ^ k = ((m % 2 ^ k : Nat) : Int) := by rw [Int.natCast_emod, Int.natCast_pow]; rfl
  rw [Nat.mul_comm] at h2
  rw [h3]
  omega
section
variable {prog : Program} {w : World} {A : Around} {E : Value → Shared → Prop} {s : Shared} {a b r n : Int} {t u : Tok} {Q : Value → Shared → Prop}
theorem add_intE (e : a + b = r) (h : Q (.int r s.toks) { s with toks := s.toks + 1 }) : wpAny (model prog w) A (binaryOp .Add (.int a t) (.int b u)) Q E s := add_int (e ▸ h)
theorem sub_intE (e : a - b = r) (h : Q (.int r s.toks) { s with toks := s.toks + 1 }) : wpAny (model prog w) A (binaryOp .Sub (.int a t) (.int b u)) Q E s := sub_int (e ▸ h)
theorem mul_intE (e : a * b = r) (hm : IntMulOk a b) (h : Q (.int r s.toks) { s with toks := s.toks + 1 }) : wpAny (model prog w) A (binaryOp .Mult (.int a t) (.int b u)) Q E s := mul_int (e ▸ h) hm
theorem rsh_intE (e : a.fdiv (2 ^ n.toNat) = r) (hn : 0 ≤ n) (h : Q (.int r s.toks) { s with toks := s.toks + 1 }) : wpAny (model prog w) A (binaryOp .RShift (.int a t) (.int n u)) Q E s := rshift_int hn (e ▸ h)
theorem lsh_intE (e : a * 2 ^ n.toNat = r) (hn : 0 ≤ n) (hsz : (Builtin.Int.intBits a : Int) + n ≤ 2 ^ 27) (h : Q (.int r s.toks) { s with toks := s.toks + 1 }) : wpAny (model prog w) A (binaryOp .LShift (.int a t) (.int n u)) Q E s := lshift_int hn hsz (e ▸ h)
theorem xor_intE (e : Builtin.bitXor a b = r) (h : Q (.int r s.toks) { s with toks := s.toks + 1 }) : wpAny (model prog w) A (binaryOp .BitXor (.int a t) (.int b u)) Q E s := xor_int (e ▸ h)
end
theorem kw04 : True := by (k_with "binaryOp Add int int" => (with_reducible refine add_intE (by assumption) ?_)); trivial
theorem kw05 : True := by (k_with "ite" => (with_reducible first | refine ite_pos (beq_self_eq_true _) ?_ | refine ite_pos (beq_iff_eq.mpr (by assumption)) ?_ | refine ite_neg (mt beq_iff_eq.mp (by assumption)) ?_ | refine ite_pos (decide_eq_true (by assumption)) ?_ | refine ite_neg (mt of_decide_eq_true (by assumption)) ?_)); trivial
theorem kw06 : True := by (k_with "binaryOp Sub int int" => (with_reducible refine sub_intE (by assumption) ?_)); trivial
theorem kw07 : True := by (k_with "binaryOp Mult int int" => (with_reducible refine mul_intE (by assumption) (by assumption) ?_)); trivial
theorem kw08 : True := by (k_with "binaryOp RShift int int" => (with_reducible refine rsh_intE (by assumption) (by first | assumption | decide) ?_)); trivial
theorem kw09 : True := by (k_with "binaryOp LShift int int" => (with_reducible refine lsh_intE (by assumption) (by first | assumption | decide) (by assumption) ?_)); trivial
theorem kw10 : True := by (k_with "binaryOp BitXor int int" => (with_reducible refine xor_intE (by assumption) ?_)); trivial

abbrev Keep (h h' : Heap) : Prop := ∀ b o, h.get? b = some o → h'.get? b = some o
theorem Keep.refl (h : Heap) : Keep h h := fun _ _ e => e
theorem Keep.trans {h h' h'' : Heap} (x : Keep h h') (y : Keep h' h'') : Keep h h'' := fun b o e => y b o (x b o e)
theorem fr_up {g h h' : Heap} {L : Addr} {m : Str → Option Value} (F : Fr g L h m) (k : Keep h h') : Fr g L h' m := ⟨F.ns.keeps k, fun b o e => k _ _ (F.keep b o e), F.above⟩
theorem news_up {g h h' : Heap} {L : Addr} {news : List (Addr × Obj)} (N : News g L h news) (k : Keep h h') : News g L h' news := fun p hp => ⟨k _ _ (N p hp).1, (N p hp).2⟩
def CellIs (h : Heap) (c : Addr) (v : Value) : Prop := ∃ o, h.get? c = some o ∧ o.data = .cell (some v)
theorem CellIs.keeps {h h' : Heap} {c : Addr} {v : Value} (x : CellIs h c v) (k : Keep h h') : CellIs h' c v := let ⟨o, e, d⟩ := x; ⟨o, k _ _ e, d⟩
theorem fnAt_keeps {h h' : Heap} {f : Addr} (x : FnAt f h) (k : Keep h h') : FnAt f h' := let ⟨a, b, c, d, e⟩ := x; ⟨a, b, c, d, k _ _ e⟩
section
variable {M : Model} {A : Around} {E : Value → Shared → Prop} {s : Shared} {h₀ : Heap} {L a : Addr} {m : Str → Option Value} {cn : Str} {cs : Scope} {ccd : Value} {cl : List (Str × Addr)} {x : Str} {pos : Pos} {v : Value} {Q : Value → Shared → Prop} {c : Addr}
theorem nameX_G (F : Fr h₀ L s.heap m) (hc : cl.lookup x = some c) (ho : CellIs h₀ c v) (h : Q v s)
    (hk : cs.kind = .function) (hx : (envX cn cs L a ccd cl).kindOf x = some .free) (hb : (x == ("__debug__" : Str)) = false := by decide) (hn : (x == ("__classdict__" : Str)) = false := by decide) :
    wpAny M A (eval (.Name x pos) (envX cn cs L a ccd cl)) Q E s := by
  obtain ⟨o, ho, hd⟩ := ho
  exact wpAny_Name (wpAny_loadName_free hk hx hc ⟨o, F.keep _ _ ho, hd⟩ h hn) hb
end
theorem kw11 : True := by (k_with "eval Name" => ((k_dflt (refine' nameX_G (by assumption) (by rfl) (by assumption) ?_ (by rfl) (by rfl))))); trivial
theorem kw12 : True := by (k_with "callWith ref" => ((k_dflt (refine' callWith_F (by first | assumption | exact fnAt_keeps (by assumption) (Fr.keep (by assumption))) ?_)))); trivial
theorem kw13 : True := by (k_with "And" => (((with_reducible show FnAt _ _ ∧ _); refine ⟨by first | assumption | exact fnAt_keeps (by assumption) (Fr.keep (by assumption)), ?_⟩; try dsimp only [List.nil_append, List.cons_append]))); trivial
section
variable {w : World} {A : Around} {s : Shared} {Q E : Value → Shared → Prop} {name qual : Str} {params : Arguments} {body : List Stmt} {scope : Scope} {cl : List (Str × Addr)} {dV kV doc pm cdv ct : Value} {an : Option Addr} {fo : Obj} {f : Addr} {args : List Value} {binds : List (Str × Value)}
/-- into a function that the heap holds: the ground is the heap itself -/
theorem enterN (ho : s.heap.get? f = some fo) (hd : fo.data = .func (fnX name qual params body scope cl dV kV doc pm an cdv ct)) (hlim : s.heap.NoLimit) (hcd : s.heap.CodeRec cdv qual) (hroom : A.depth < recursionLimit)
    (hbind : BindsTo s (fnX name qual params body scope cl dV kV doc pm an cdv ct) ⟨args, []⟩ binds) (hloc : ∀ y ∈ binds, scope.names.lookup y.1 = some .local)
    (h : ∀ L h₁, Fr s.heap L h₁ (fun y => binds.reverse.lookup y) →
      wpAny (model Challenge.rw_pg0144_01.row.prog w) (A.deeper (envX qual scope L f cdv cl)) (execs body (envX qual scope L f cdv cl))
        (fun fl s' => Q (match fl with | .ret v => v | _ => .none) s') (fun _ _ => False) { s with heap := h₁, toks := s.toks + binds.length })
    (hcell : ∀ x ∈ scope.names, x.2 ≠ .cell) (hco : scope.isCoroutine = false) (hgen : scope.isGenerator = false) (hk : scope.kind = .function) :
    wpAny (model Challenge.rw_pg0144_01.row.prog w) A (call (.ref f) args) Q E s := by
  refine wpAny_call (codeAny_call_def (fd := fnX name qual params body scope cl dV kV doc pm an cdv ct) (body := body) (binds := binds) hroom ho hd hlim hcd rfl hbind hcell hloc (fun h₁ hns hk₁ => ?_) hco hgen hk)
  exact wpAny_mono (h s.heap.objs.size h₁ ⟨hns, hk₁, Nat.le_refl _⟩) (fun fl s' hl => hl) (fun _ _ x => x.elim)
end
theorem hid_cell {o : Obj} {v : Option Value} (h : o.data = .cell v) : hid o = false := by simp [hid, h]
theorem room_half {A : Around} {env : Env} {i j : Nat} (h : A.depth + j < recursionLimit) (hi : i < j) : (A.deeper env).depth + i < recursionLimit := by
  show A.depth + 1 + i < recursionLimit; omega
theorem room_top {A : Around} {env : Env} {k : Nat} (h : A.depth + 250 < recursionLimit) (hk : k ≤ 200) : (A.deeper env).depth + k < recursionLimit := by
  show A.depth + 1 + k < recursionLimit; omega
/-- the numbers of one halving -/
theorem half_sums {ns : List Int} {lo hi n : Nat} (hlt : lo < hi) (hle : hi ≤ ns.length) (hn : ns.length ≤ 200) (hp5 : n ≤ 200) (h1 : ¬ (lo : Int) + 1 = (hi : Int)) (hp3 : ∀ d ∈ ns, 0 ≤ d ∧ d < 2 ^ 240) :
    ∃ mid, lo < mid ∧ mid < hi ∧ (lo : Int) + (hi : Int) = ((lo + hi : Nat) : Int) ∧ ((lo + hi : Nat) : Int).fdiv (2 ^ (1 : Int).toNat) = (mid : Int) ∧ (mid : Int) - (lo : Int) = ((mid - lo : Nat) : Int) ∧
      ((mid - lo : Nat) : Int) * (n : Int) = (((mid - lo) * n : Nat) : Int) ∧ IntMulOk ((mid - lo : Nat) : Int) (n : Int) ∧ (Builtin.Int.intBits (d2i n (seg ns mid hi)) : Int) + (((mid - lo) * n : Nat) : Int) ≤ 2 ^ 27 ∧ (0 : Int) ≤ (((mid - lo) * n : Nat) : Int) ∧
      d2i n (seg ns mid hi) * 2 ^ ((((mid - lo) * n : Nat) : Int)).toNat = d2i n (seg ns mid hi) * 2 ^ ((mid - lo) * n) ∧ d2i n (seg ns mid hi) * 2 ^ ((mid - lo) * n) + d2i n (seg ns lo mid) = d2i n (seg ns lo hi) ∧ hi - mid < hi - lo ∧ mid - lo < hi - lo ∧ mid ≤ ns.length := by
  obtain ⟨mid, hmid⟩ : ∃ mid, mid = (lo + hi) / 2 := ⟨_, rfl⟩
  have hm1 : lo < mid := by omega
  have hm2 : mid < hi := by omega
  have e1 : ((lo + hi : Nat) : Int).fdiv (2 ^ (1 : Int).toNat) = (mid : Int) := by
    rw [Int.fdiv_eq_ediv_of_nonneg _ (by decide), show ((2 : Int) ^ (1 : Int).toNat) = 2 by decide]; omega
  clear hmid h1
  have b1 := d2i_bound n 240 (seg ns mid hi) fun d hd => hp3 d (seg_mem hd)
  have b2 := intBits_small b1.1 b1.2
  clear b1
  have hsmall : (mid - lo) * n ≤ 200 * 200 := Nat.mul_le_mul (by omega) hp5
  have hsmall2 : (n + 1) * (seg ns mid hi).length ≤ 201 * 200 := Nat.mul_le_mul (by omega) (by rw [seg_len hle]; omega)
  exact ⟨mid, hm1, hm2, by omega, e1, by omega, by rw [Int.natCast_mul], IntMulOk.of_left (by refine intBits_cast_le ?_; rw [sizeLine_eq]; omega), by omega, Int.natCast_nonneg _, by rw [Int.toNat_natCast],
    d2i_seg (n := n) (ns := ns) (Nat.le_of_lt hm1) (Nat.le_of_lt hm2) hle, by omega, by omega, by omega⟩
section
variable {w : World} {loose : List Str} {mean : ExcName → Option Value} {mg mb : Str → Option Value} {g₀ : Heap}
theorem digits2int (dl : Addr) (vs : List Value) (ns : List Int) (n : Nat) (u : Tok) : Fn w loose mean mg mb g₀ 42 [.ref dl, .int n u] 250 (fun h => h.IsList dl vs.toArray ∧ IntsAre vs ns ∧ (∀ d ∈ ns, 0 ≤ d ∧ d < 2 ^ 240) ∧ 1 ≤ n ∧ n ≤ 200 ∧ ns.length ≤ 200) (fun v tl => tl = [] ∧ ∃ t', v = .int (d2i n ns) t') := by
  intro A s Q E I hh hdp hun hpre hret
  obtain ⟨hp1, hp2, hp3, hp4, hp5, hp6⟩ := hpre
  have hX : (hd.heap_39 w.params).In s.heap ∧ (Challenge.rw_pg0144_01 = Challenge.rw_pg0144_01) := by k_fill; exact ⟨I.X, rfl⟩
  k_dflt (refine' enterC (binds := [("digits", .ref dl), ("n", .int n u)]) I ?kd ?ko ?kc ?kb ?kl ?kn ?_ ?c2 ?c3 ?c4; (case kd => exact room0 (by assumption)); (case ko => k_is); (case kc => k_is); (case kb => exact BindsTo.of_eq rfl); (case kl => exact rfl); (case kn => decide +kernel); (case c2 => exact rfl); (case c3 => exact rfl); (case c4 => exact rfl))
  intro g tb L h₁ tk cells D B F N Y keep sub lt
  have X := D.X
  have T := D.T
  have R := Ret.mk hret D keep
  obtain ⟨o1, o2, o3, rfl, d1, d2, d3⟩ := CellsAre.three Y
  clear Y
  walk1
  k_dflt (refine' nestDef_K ?d0 ?k0 ?a0 ?_; (case d0 => exact rfl); (case k0 => exact rfl); (case a0 => exact rfl))
  have C := codeHd_of_K (c := 41) (P := 37) X (by kernel_rfl)
  refine nest_any (qual := q37) D F N B.h B.b B.a (by decide) (fun p hp => ?_) C rfl ?_
  · simp only [List.mem_cons, List.not_mem_nil, or_false] at hp
    rcases hp with rfl | rfl | rfl <;> exact hid_cell (by assumption)
  intro f fo c' ctv doc h' tk tb' hfe hb' tB tA F' N' lf hc
  have B' : Tb tb' := ⟨hb', tA, tB⟩
  clear F N B tA tB hb'
  dsimp only
  have nb : ∀ p ∈ tb', ∀ q : Addr × Obj, h'.get? q.1 = some q.2 → hid q.2 = false → p.1 ≠ q.1 := fun p hp q e1 e2 e => by
    have e3 := (N' p (.tail _ (List.mem_append_right _ hp))).1
    rw [e, e1] at e3
    have := B'.h p hp
    rw [← Option.some.inj e3, e2] at this; cases this
  have n1 := (N' (L + 1 + 1 + 1, o1) (.tail _ (.head _))).1
  have lf1 := lf (L + 1 + 1 + 1, o1) (.head _)
  refine storeX_C (cl := cellsFrom (L + 1) _ []) (c := L + 1 + 1 + 1) (o := o1) F' N' rfl (UpdF.tail (Nat.ne_of_gt lf1) (UpdF.head fun p hp => ?_)) d1 ?_ rfl rfl
  · rcases List.mem_cons.mp hp with rfl | hp
    · exact Nat.ne_of_lt (Nat.lt_succ_self _)
    · rcases List.mem_cons.mp hp with rfl | hp
      · exact Nat.ne_of_lt (Nat.lt_succ_of_lt (Nat.lt_succ_self _))
      · exact nb p hp (L + 1 + 1 + 1, o1) n1 (hid_cell d1)
  intro H o4 F4 N4 d4
  clear F' N' nb n1 lf1 d1
  -- what the heap holds from here on
  have hfo := (N4 _ (.head _)).1
  have k1 : CellIs H (L + 1 + 1 + 1) (.ref f) := ⟨o4, (N4 _ (.tail _ (.head _))).1, d4⟩
  have k2 : CellIs H (L + 1 + 1) (.int n u) := ⟨o2, (N4 _ (.tail _ (.tail _ (.head _)))).1, d2⟩
  have k3 : CellIs H (L + 1) (.ref dl) := ⟨o3, (N4 _ (.tail _ (.tail _ (.tail _ (.head _))))).1, d3⟩
  have kl : H.IsList dl vs.toArray := by
    obtain ⟨o, e, hc, x, hd⟩ := hp1
    exact ⟨o, F4.keep _ _ (keep _ _ e (by simp [hid, hd])), hc, x, hd⟩
  have kc : H.CodeRec (.ref c') q37 := by
    obtain ⟨oc, ws, t, h1, h2, h3⟩ := hc
    exact codeRec_news N4 (.tail _ (.tail _ (.tail _ (.tail _ h1)))) h2 h3
  have kn : H.NoLimit := D.T.nolimit.keeps F4.keep
  have kX := X.keeps F4.keep
  have key : ∀ k (lo hi : Nat), hi - lo = k → lo < hi → hi ≤ ns.length → ∀ (A : Around) (s : Shared) (Q E : Value → Shared → Prop) (t1 t2 : Tok), Keep H s.heap → A.handled = none → A.depth + k < recursionLimit →
      (∀ h' tk' t', Keep s.heap h' → Q (.int (d2i n (seg ns lo hi)) t') { s with heap := h', toks := tk' }) → wpAny (model Challenge.rw_pg0144_01.row.prog w) A (call (.ref f) [.int lo t1, .int hi t2]) Q E s := by
    intro k
    induction k using Nat.strongRecOn with
    | _ k IH =>
      intro lo hi hk hlt hle A s Q E t1 t2 hks hh hroom hQ
      k_dflt (refine' enterN (binds := [("L", .int lo t1), ("R", .int hi t2)]) (hks _ _ hfo) ?kd (kn.keeps hks) (kc.keeps hks) ?kr ?kb ?kl ?_ ?c1 ?c2 ?c3 ?c4; (case kd => exact congrArg Obj.data hfe); (case kr => exact room0 hroom); (case kb => exact BindsTo.of_eq rfl); (case kl => exact locs rfl); (case c1 => decide); (case c2 => exact rfl); (case c3 => exact rfl); (case c4 => exact rfl))
      intro L2 h2 F2
      have N2 : News s.heap L2 h2 [] := News.nil
      have X2 := kX.keeps hks
      have c1 := k1.keeps hks
      have c2 := k2.keeps hks
      have c3 := k3.keeps hks
      have hf2 : FnAt f s.heap := ⟨_, _, _, _, (hks _ _ hfo).trans (congrArg some hfe)⟩
      by_cases h1 : (lo : Int) + 1 = (hi : Int)
      · (try dsimp only); k_steps
        obtain ⟨t3, hx3⟩ := hp2.get lo ns[lo] (by simp)
        refine item_litK (stays_list (fun b o e => F2.keep b o (hks b o e)) kl) (by omega) (by omega) (by simpa using hx3) ?_ (by with_unfolding_all rfl)
        have ev : d2i n (seg ns lo hi) = ns[lo] := by obtain rfl : hi = lo + 1 := (by omega); rw [seg_one (by omega)]; simp [d2i]
        show Q (Value.int ns[lo] t3) _
        rw [← ev]
        exact hQ _ _ _ F2.keep
      · obtain ⟨mid, hm1, hm2, e0, e1, e2, e3, e3', e4, e5, e6, e7, j1, j2, mk⟩ := half_sums hlt hle hp6 hp5 h1 hp3
        (try dsimp only); k_steps
        rename_i h3 F3 N3
        refine IH (hi - mid) (hk ▸ j1) mid hi rfl hm2 hle (A.deeper _) _ _ _ _ _ (hks.trans F3.keep) hh (room_half hroom (hk ▸ j1)) ?_
        intro h4 tk4 t4 K4
        have F5 := fr_up F3 K4
        have N5 := news_up N3 K4
        clear F3 N3
        (try dsimp only); k_steps
        refine IH (mid - lo) (hk ▸ j2) lo mid rfl hm1 mk (A.deeper _) _ _ _ _ _ (hks.trans F5.keep) hh (room_half hroom (hk ▸ j2)) ?_
        intro h6 tk6 t6 K6
        have F7 := fr_up F5 K6
        (try dsimp only); k_steps
        exact hQ _ _ _ F7.keep
  have hsz : (vs.length : Int) = ns.length := by rw [hp2.length]
  have hf0 : FnAt f H := ⟨_, _, _, _, hfo.trans (congrArg some hfe)⟩
  (try dsimp only); k_steps
  · rename_i hz
    refine key ns.length 0 ns.length (Nat.sub_zero _) hz (Nat.le_refl _) (A.deeper _) _ _ _ _ _ ?_ hh (room_top hdp hp6) ?_
    · exact fun _ _ e => e
    intro h6 tk6 t6 K6
    refine doneP R B' (fr_up F4 K6) (news_up N4 K6) (fun p hp => .tail _ (.tail _ (.tail _ (.tail _ hp)))) ⟨t6, ?_⟩ rfl
    rw [seg_all]
  · rename_i hz
    have hz : ns = [] := List.eq_nil_of_length_eq_zero (by omega)
    subst hz
    exact doneP R B' F4 N4 (fun p hp => .tail _ (.tail _ (.tail _ (.tail _ hp)))) ⟨_, rfl⟩ rfl
end
abbrev KeepBut (d : Addr) (h h' : Heap) : Prop := ∀ b o, b ≠ d → h.get? b = some o → h'.get? b = some o
section
variable {w : World} {A : Around} {s : Shared} {Q E : Value → Shared → Prop} {name qual : Str} {params : Arguments} {body : List Stmt} {scope : Scope} {cl : List (Str × Addr)} {dV kV doc pm cdv ct : Value} {an : Option Addr} {fo od : Obj} {f dl : Addr} {args : List Value} {binds : List (Str × Value)}
/-- into a function that turns the object at dl: the ground is the heap without it -/
theorem enterNB (ho : s.heap.get? f = some fo) (hd : fo.data = .func (fnX name qual params body scope cl dV kV doc pm an cdv ct)) (hlim : s.heap.NoLimit) (hcd : s.heap.CodeRec cdv qual) (hroom : A.depth < recursionLimit) (hod : s.heap.get? dl = some od)
    (hbind : BindsTo s (fnX name qual params body scope cl dV kV doc pm an cdv ct) ⟨args, []⟩ binds) (hloc : ∀ y ∈ binds, scope.names.lookup y.1 = some .local)
    (h : ∀ L h₁, Fr (s.heap.hide dl) L h₁ (fun y => binds.reverse.lookup y) → News (s.heap.hide dl) L h₁ [(dl, od)] →
      wpAny (model Challenge.rw_pg0144_01.row.prog w) (A.deeper (envX qual scope L f cdv cl)) (execs body (envX qual scope L f cdv cl))
        (fun fl s' => Q (match fl with | .ret v => v | _ => .none) s') (fun _ _ => False) { s with heap := h₁, toks := s.toks + binds.length })
    (hcell : ∀ x ∈ scope.names, x.2 ≠ .cell) (hco : scope.isCoroutine = false) (hgen : scope.isGenerator = false) (hk : scope.kind = .function) :
    wpAny (model Challenge.rw_pg0144_01.row.prog w) A (call (.ref f) args) Q E s := by
  refine wpAny_call (codeAny_call_def (fd := fnX name qual params body scope cl dV kV doc pm an cdv ct) (body := body) (binds := binds) hroom ho hd hlim hcd rfl hbind hcell hloc (fun h₁ hns hk₁ => ?_) hco hgen hk)
  refine wpAny_mono (h s.heap.objs.size h₁ ⟨hns, fun b o e => hk₁ b o (Heap.of_hide e), Nat.le_of_eq (Heap.hide_size _ _)⟩ (fun p hp => ?_)) (fun fl s' hl => hl) (fun _ _ x => x.elim)
  rw [List.mem_singleton.mp hp]
  exact ⟨hk₁ _ _ hod, Nat.ne_of_lt (Heap.lt_size hod), Heap.hide_self _ _⟩
end
theorem fr_but {g h h' : Heap} {L d : Addr} {m : Str → Option Value} {od : Obj} (F : Fr g L h m) (N : News g L h [(d, od)]) (k : KeepBut d h h') : Fr g L h' m := by
  have n := N _ (.head _)
  exact ⟨F.ns.at' fun o e => k _ _ (Ne.symm n.2.1) e, fun b o e => k _ _ (fun q => by rw [q, n.2.2] at e; cases e) (F.keep b o e), F.above⟩
theorem news_but {g h h' : Heap} {L d : Addr} {od od' : Obj} (N : News g L h [(d, od)]) (e : h'.get? d = some od') : News g L h' [(d, od')] := fun p hp => by
  rw [List.mem_singleton.mp hp]
  exact ⟨e, (N _ (.head _)).2⟩
theorem hide_keep {h h' : Heap} {d : Addr} (k : Keep (h.hide d) h') : KeepBut d h h' := fun b o n e => k b o ((Heap.hide_ne h n).trans e)
section
variable {prog : Program} {w : World} {A : Around} {E : Value → Shared → Prop} {s : Shared} {h₀ : Heap} {L l : Addr} {m : Str → Option Value} {news : List (Addr × Obj)} {Q : Value → Shared → Prop}
theorem foldl_rep (v : Value) : ∀ (k : Nat) (a : Array Value), List.foldl (fun x1 x2 => x1 ++ x2) a (List.replicate k #[v]) = a ++ (List.replicate k v).toArray
  | 0, a => by simp
  | k + 1, a => by
    rw [List.replicate_succ, List.foldl_cons, foldl_rep v k, List.replicate_succ]
    apply Array.toList_inj.mp; simp
theorem mul_rep {v : Value} {k : Nat} {u : Tok} (F : Fr h₀ L s.heap m) (N : News h₀ L s.heap ((l, listOf [v].toArray 0) :: news)) (hk : k ≤ 2 ^ 24)
    (h : ∀ x h', Fr h₀ L h' m → News h₀ L h' ((x, listOf (List.replicate k v).toArray 0) :: (l, listOf [v].toArray 0) :: news) → l < x → (∀ p ∈ news, p.1 < x) → Q (.ref x) { s with heap := h' }) :
    wpAny (model prog w) A (binaryOp .Mult (.ref l) (.int k u)) Q E s := by
  refine mul_list F N (N _ (.head _)).1 (by omega) (by omega) (by simpa using hk) fun h' F' N' => ?_
  rw [show List.foldl (fun x1 x2 => x1 ++ x2) #[] (List.replicate (if ([v].toArray).isEmpty = true then 0 else ((k : Int)).toNat) [v].toArray) = (List.replicate k v).toArray from by
    rw [show (if ([v].toArray).isEmpty = true then 0 else ((k : Int)).toNat) = k from rfl]
    exact (foldl_rep v k #[]).trans (by simp)] at N'
  exact h _ h' F' N' (Heap.lt_size (N _ (.head _)).1) fun p hp => Heap.lt_size (N p (.tail _ hp)).1
end
theorem kw14 : True := by (k_with "binaryOp Mult ref int" => ((k_dflt (refine' mul_rep (by assumption) (by assumption) (by omega) ?_); intro _ _ _ _ _ _))); trivial
theorem ints_rep (t : Tok) : ∀ k : Nat, IntsAre (List.replicate k (.int 0 t)) (List.replicate k 0)
  | 0 => .nil
  | k + 1 => .cons 0 t (ints_rep t k)
theorem ne_of_data {h : Heap} {a b : Addr} {oa ob : Obj} (ea : h.get? a = some oa) (eb : h.get? b = some ob) (hd : oa.data ≠ ob.data) : a ≠ b := fun e => by
  subst e; rw [ea] at eb; cases eb; exact hd rfl
theorem hid_ncell {o : Obj} (h : hid o = true) (v : Option Value) : o.data ≠ .cell v := fun e => by rw [hid_cell e] at h; cases h
theorem bits_of {a : Int} (h : 0 ≤ a) : a < 2 ^ (Builtin.Int.intBits a) := by
  have := intBits_le_iff.mp (Nat.le_refl (Builtin.Int.intBits a))
  have e : ((2 ^ (Builtin.Int.intBits a) : Nat) : Int) = (2 : Int) ^ (Builtin.Int.intBits a) := kbt_cast _
  omega
theorem ceil_bits (b n : Nat) (hn : 1 ≤ n) : b ≤ n * ((b + n - 1) / n) := by
  have h := Nat.div_add_mod (b + n - 1) n
  have h2 := Nat.mod_lt (b + n - 1) (show n > 0 by omega)
  omega
section
variable {prog : Program} {w : World} {A : Around} {E : Value → Shared → Prop} {s : Shared} {a b r n : Int} {t u : Tok} {Q : Value → Shared → Prop}
theorem fdiv_intE (e : a.fdiv b = r) (h0 : 0 < b) (h1 : b < 1073741824) (h : Q (.int r s.toks) { s with toks := s.toks + 1 }) : wpAny (model prog w) A (binaryOp .FloorDiv (.int a t) (.int b u)) Q E s :=
  floordiv_int (by omega) (e ▸ h) (.inl (PyProof.noPylong_small (by omega)))
end
theorem kw15 : True := by (k_with "binaryOp FloorDiv int int" => (with_reducible refine fdiv_intE (by assumption) (by omega) (by omega) ?_)); trivial
section
variable {M : Model} {A : Around} {E : Value → Shared → Prop} {s : Shared} {h₀ : Heap} {L a : Addr} {m : Str → Option Value} {cn : Str} {cs : Scope} {ccd : Value} {cl : List (Str × Addr)}
  {x : Str} {v : Value} {Q : Unit → Shared → Prop} {news : List (Addr × Obj)} {c : Addr} {o : Obj} {v₀ : Option Value}
theorem store_cell (rest : List (Addr × Obj)) (F : Fr h₀ L s.heap m) (N : News h₀ L s.heap news) (hc : cl.lookup x = some c) (hm : (c, o) ∈ news) (hs : ∀ p ∈ rest, p ∈ news) (hne' : ∀ p ∈ rest, p.1 = c → p.2.data ≠ .cell v₀) (hd : o.data = .cell v₀)
    (h : ∀ h' o', Fr h₀ L h' m → News h₀ L h' ((c, o') :: rest) → o'.data = .cell (some v) → Q () { s with heap := h' })
    (hk : cs.kind = .function) (hx : (envX cn cs L a ccd cl).kindOf x = some .cell) : wpAny M A (storeName (envX cn cs L a ccd cl) x v) Q E s :=
  storeX_C F (fun p hp => N p ((List.mem_cons.mp hp).elim (fun e => e ▸ hm) (hs p))) hc (UpdF.head fun p hp e => hne' p hp e (by
    have e1 := (N p (hs p hp)).1
    rw [e, (N _ hm).1] at e1
    rw [← Option.some.inj e1]; exact hd)) hd h hk hx
end
/-- the numbers of one halving -/
theorem half_nums {k lo hi n : Nat} {y : Int} (hlt : lo < hi) (hle : hi ≤ k) (hkb : k ≤ 200) (hp4 : n ≤ 200) (h1 : ¬ (lo : Int) + 1 = (hi : Int)) (hy0 : 0 ≤ y) (hy1 : y < 2 ^ (n * (hi - lo))) :
    ∃ mid sh, sh = n * (mid - lo) ∧ lo < mid ∧ mid < hi ∧ (lo : Int) + (hi : Int) = ((lo + hi : Nat) : Int) ∧ ((lo + hi : Nat) : Int).fdiv (2 ^ (1 : Int).toNat) = (mid : Int) ∧ (mid : Int) - (lo : Int) = ((mid - lo : Nat) : Int) ∧
      ((mid - lo : Nat) : Int) * (n : Int) = ((n * (mid - lo) : Nat) : Int) ∧ IntMulOk ((mid - lo : Nat) : Int) (n : Int) ∧ (0 : Int) ≤ ((n * (mid - lo) : Nat) : Int) ∧ y.fdiv (2 ^ ((n * (mid - lo) : Nat) : Int).toNat) = y / 2 ^ sh ∧ 0 ≤ y / 2 ^ sh ∧ y / 2 ^ sh < 2 ^ (n * (hi - mid)) ∧
      (Builtin.Int.intBits (y / 2 ^ sh) : Int) + ((n * (mid - lo) : Nat) : Int) ≤ 2 ^ 27 ∧ y / 2 ^ sh * 2 ^ ((n * (mid - lo) : Nat) : Int).toNat = y / 2 ^ sh * 2 ^ sh ∧ Builtin.bitXor y (y / 2 ^ sh * 2 ^ sh) = y % 2 ^ sh ∧ 0 ≤ y % 2 ^ sh ∧ y % 2 ^ sh < 2 ^ (n * (mid - lo)) ∧
      i2d n (hi - lo) y = i2d n (mid - lo) (y % 2 ^ sh) ++ i2d n (hi - mid) (y / 2 ^ sh) ∧ mid - lo < hi - lo ∧ hi - mid < hi - lo ∧ mid ≤ k ∧ lo + (mid - lo) = mid ∧ lo + (mid - lo) ≤ k ∧ lo + (mid - lo) + (hi - mid) ≤ k := by
  refine ⟨(lo + hi) / 2, n * ((lo + hi) / 2 - lo), rfl, ?_⟩
  obtain ⟨mid, hmid⟩ : ∃ mid, mid = (lo + hi) / 2 := ⟨_, rfl⟩
  have hm1 : lo < mid := by omega
  have hm2 : mid < hi := by omega
  have e1 : ((lo + hi : Nat) : Int).fdiv (2 ^ (1 : Int).toNat) = (mid : Int) := by
    rw [Int.fdiv_eq_ediv_of_nonneg _ (by decide), show ((2 : Int) ^ (1 : Int).toNat) = 2 by decide]; omega
  rw [← hmid]
  clear hmid h1
  obtain ⟨u, rfl⟩ : ∃ u, mid = lo + u := ⟨mid - lo, by omega⟩
  obtain ⟨v, rfl⟩ : ∃ v, hi = lo + u + v := ⟨hi - (lo + u), by omega⟩
  have d1 : lo + u - lo = u := Nat.add_sub_cancel_left ..
  have d2 : lo + u + v - (lo + u) = v := Nat.add_sub_cancel_left ..
  have d3 : lo + u + v - lo = u + v := by omega
  rw [d3] at hy1
  rw [d1, d2, d3]
  have up0 : 0 ≤ y / 2 ^ (n * u) := Int.ediv_nonneg hy0 (Int.le_of_lt (two_pos _))
  have up1 : y / 2 ^ (n * u) < 2 ^ (n * v) := by
    refine Int.ediv_lt_of_lt_mul (two_pos _) ?_
    rw [← Int.pow_add, ← Nat.mul_add, Nat.add_comm v u]; exact hy1
  have upB : Builtin.Int.intBits (y / 2 ^ (n * u)) ≤ n * v := intBits_small up0 up1
  have b1 : n * u ≤ 200 * 200 := Nat.mul_le_mul hp4 (by omega)
  have b2 : n * v ≤ 200 * 200 := Nat.mul_le_mul hp4 (by omega)
  exact ⟨hm1, hm2, by omega, e1, by omega, by rw [Nat.mul_comm, Int.natCast_mul], IntMulOk.of_left (by refine intBits_cast_le ?_; rw [sizeLine_eq]; omega), Int.natCast_nonneg _,
    by rw [Int.toNat_natCast, Int.fdiv_eq_ediv_of_nonneg _ (Int.le_of_lt (two_pos _))], up0, up1, by omega, by rw [Int.toNat_natCast], xor_low hy0 _, Int.emod_nonneg _ (Int.ne_of_gt (two_pos _)), Int.emod_lt_of_pos _ (two_pos _), i2d_split .., by omega, by omega, by omega, rfl, by omega, by omega⟩
section
variable {w : World} {loose : List Str} {mean : ExcName → Option Value} {mg mb : Str → Option Value} {g₀ : Heap}
theorem int2digits (a : Int) (n : Nat) (ta u : Tok) : Fn w loose mean mg mb g₀ 35 [.int a ta, .int n u] 250 (fun _ => 0 ≤ a ∧ a < 2 ^ 200 ∧ 1 ≤ n ∧ n ≤ 200)
    (fun v tl => ∃ x vs e, v = .ref x ∧ tl = [(x, listOf vs.toArray e)] ∧ IntsAre vs (i2d n ((Builtin.Int.intBits a + n - 1) / n) a)) := by
  intro A s Q E I hh hdp hun hpre hret
  obtain ⟨hp1, hp2, hp3, hp4⟩ := hpre
  have hX : (hd.heap_39 w.params).In s.heap ∧ (Challenge.rw_pg0144_01 = Challenge.rw_pg0144_01) := by k_fill; exact ⟨I.X, rfl⟩
  k_dflt (refine' enterC (binds := [("a", .int a ta), ("n", .int n u)]) I ?kd ?ko ?kc ?kb ?kl ?kn ?_ ?c2 ?c3 ?c4; (case kd => exact room0 (by assumption)); (case ko => k_is); (case kc => k_is); (case kb => exact BindsTo.of_eq rfl); (case kl => exact rfl); (case kn => decide +kernel); (case c2 => exact rfl); (case c3 => exact rfl); (case c4 => exact rfl))
  intro g tb L h₁ tk cells D B F N Y keep sub lt
  have X := D.X
  have T := D.T
  have R := Ret.mk hret D keep
  obtain ⟨o1, o2, o3, rfl, d1, d2, d3⟩ := CellsAre.three Y
  clear Y
  have hbits := intBits_small hp1 hp2
  obtain ⟨k, hk⟩ : ∃ k, k = (Builtin.Int.intBits a + n - 1) / n := ⟨_, rfl⟩
  have hkb : k ≤ 200 := by rw [hk]; exact Nat.div_le_of_le_mul (by omega)
  have e1 : (Builtin.Int.intBits a : Int) + (n : Int) = ((Builtin.Int.intBits a + n : Nat) : Int) := by omega
  have e2 : ((Builtin.Int.intBits a + n : Nat) : Int) - 1 = ((Builtin.Int.intBits a + n - 1 : Nat) : Int) := by omega
  have e3 : ((Builtin.Int.intBits a + n - 1 : Nat) : Int).fdiv (n : Int) = (k : Int) := by
    rw [Int.fdiv_eq_ediv_of_nonneg _ (by omega), hk]; rfl
  (try dsimp only); k_steps
  rename_i l' h' F' N' lt1 x hx Fx Nx lx1 lx2
  clear F' N' lt1
  obtain ⟨z0, hz0⟩ : ∃ z : Tok, z = tk := ⟨tk, rfl⟩
  rw [← hz0] at Nx
  clear hz0
  refine store_cell (cl := cellsFrom (L + 1) _ []) (c := L + 1 + 1) (o := o2) ((x, listOf (List.replicate k (.int 0 z0)).toArray 0) :: (L + 1 + 1 + 1, o1) :: (L + 1, o3) :: tb) Fx Nx rfl (by k_mem) (fun p hp => ?_) (fun p hp e => ?_) d2 ?_ rfl rfl
  · rcases List.mem_cons.mp hp with rfl | hp
    · exact .head _
    · refine .tail _ (.tail _ ?_)
      rcases List.mem_cons.mp hp with rfl | hp
      · exact .head _
      · refine .tail _ (.tail _ ?_)
        exact hp
  · rcases List.mem_cons.mp hp with rfl | hp
    · exact fun q => nomatch q
    · rcases List.mem_cons.mp hp with rfl | hp
      · exact absurd e (Nat.ne_of_gt (Nat.lt_succ_self _))
      · rcases List.mem_cons.mp hp with rfl | hp
        · exact absurd e (Nat.ne_of_lt (Nat.lt_succ_self _))
        · exact hid_ncell (B.h p hp) _
  intro h3 o4 F3 N3 d4
  clear Fx Nx d2
  dsimp only
  walk1
  walk1
  k_dflt (refine' nestDef_K ?d0 ?k0 ?a0 ?_; (case d0 => exact rfl); (case k0 => exact rfl); (case a0 => exact rfl))
  have C := codeHd_of_K (c := 34) (P := 30) X (by kernel_rfl)
  refine nest_any (qual := q30) (rest := [(L + 1 + 1, o4), (x, listOf (List.replicate k (.int 0 z0)).toArray 0), (L + 1 + 1 + 1, o1), (L + 1, o3)]) D F3 N3 B.h B.a B.b (by decide) (fun p hp => ?_) C rfl ?_
  · simp only [List.mem_cons, List.not_mem_nil, or_false] at hp
    rcases hp with rfl | rfl | rfl | rfl
    · exact hid_cell d4
    · rfl
    · exact hid_cell d1
    · exact hid_cell d3
  intro f fo c' ctv doc h5 tk5 tb' hfe hb' tA tB F5 N5 lf hc
  have B' : Tb tb' := ⟨hb', tA, tB⟩
  clear F3 N3 B tA tB hb'
  dsimp only
  have lf1 := lf (L + 1 + 1 + 1, o1) (by k_mem)
  have lfx := lf (x, _) (.tail _ (.head _))
  refine store_cell (cl := cellsFrom (L + 1) _ []) (c := L + 1 + 1 + 1) (o := o1) ((f, fo) :: (L + 1 + 1, o4) :: (x, listOf (List.replicate k (.int 0 z0)).toArray 0) :: (L + 1, o3) :: tb') F5 N5 rfl (by k_mem) (fun p hp => ?_) (fun p hp e => ?_) d1 ?_ rfl rfl
  · rcases List.mem_cons.mp hp with rfl | hp
    · exact .head _
    · refine .tail _ ?_
      rcases List.mem_cons.mp hp with rfl | hp
      · exact .head _
      · refine .tail _ ?_
        rcases List.mem_cons.mp hp with rfl | hp
        · exact .head _
        · exact .tail _ (.tail _ hp)
  · rcases List.mem_cons.mp hp with rfl | hp
    · rw [hfe]; exact fun q => nomatch q
    · rcases List.mem_cons.mp hp with rfl | hp
      · exact absurd e (Nat.ne_of_lt (Nat.lt_succ_self _))
      · rcases List.mem_cons.mp hp with rfl | hp
        · exact fun q => nomatch q
        · rcases List.mem_cons.mp hp with rfl | hp
          · exact absurd e (Nat.ne_of_lt (Nat.lt_succ_of_lt (Nat.lt_succ_self _)))
          · exact hid_ncell (B'.h p hp) _
  intro H o6 F4 N4 d6
  clear F5 N5 d1
  -- what the heap holds from here on
  have hfo := (N4 _ (.tail _ (.head _))).1
  have k1 : CellIs H (L + 1 + 1 + 1) (.ref f) := ⟨o6, (N4 _ (.head _)).1, d6⟩
  have k2 : CellIs H (L + 1 + 1) (.ref x) := ⟨o4, (N4 _ (.tail _ (.tail _ (.head _)))).1, d4⟩
  have k3 : CellIs H (L + 1) (.int n u) := ⟨o3, (N4 _ (.tail _ (.tail _ (.tail _ (.tail _ (.head _)))))).1, d3⟩
  have kx := (N4 _ (.tail _ (.tail _ (.tail _ (.head _))))).1
  have kc : H.CodeRec (.ref c') q30 := by
    obtain ⟨oc, ws, t, h1, h2, h3⟩ := hc
    exact codeRec_news N4 (.tail _ (.tail _ (.tail _ (.tail _ (.tail _ h1))))) h2 h3
  have kn : H.NoLimit := D.T.nolimit.keeps F4.keep
  have kX := X.keeps F4.keep
  have nfx : f ≠ x := Nat.ne_of_gt lfx
  have n1x : L + 1 + 1 + 1 ≠ x := ne_of_data (N4 _ (.head _)).1 kx (by rw [d6]; exact fun q => nomatch q)
  have n2x : L + 1 + 1 ≠ x := ne_of_data (N4 _ (.tail _ (.tail _ (.head _)))).1 kx (by rw [d4]; exact fun q => nomatch q)
  have n3x : L + 1 ≠ x := ne_of_data (N4 _ (.tail _ (.tail _ (.tail _ (.tail _ (.head _)))))).1 kx (by rw [d3]; exact fun q => nomatch q)
  -- the heap without the list: what stays
  have hkH : ∀ h, KeepBut x H h → Keep (H.hide x) (h.hide x) := fun h kb b o e => by
    by_cases q : b = x
    · rw [q, Heap.hide_self] at e; cases e
    · rw [Heap.hide_ne _ q] at e ⊢; exact kb b o q e
  have gfo := (Heap.hide_ne H nfx).trans hfo
  have g1 : CellIs (H.hide x) (L + 1 + 1 + 1) (.ref f) := let ⟨o, e, d⟩ := k1; ⟨o, (Heap.hide_ne H n1x).trans e, d⟩
  have g2 : CellIs (H.hide x) (L + 1 + 1) (.ref x) := let ⟨o, e, d⟩ := k2; ⟨o, (Heap.hide_ne H n2x).trans e, d⟩
  have g3 : CellIs (H.hide x) (L + 1) (.int n u) := let ⟨o, e, d⟩ := k3; ⟨o, (Heap.hide_ne H n3x).trans e, d⟩
  have gX : (hd.heap_39 w.params).In (H.hide x) := fun b o e => by
    have h1 := X b o e
    have h2 := F4.keep b o h1
    refine (Heap.hide_ne H fun q => ?_).trans h2
    have h3 := (N4 _ (.tail _ (.tail _ (.tail _ (.head _))))).2.2
    rw [← q, h1] at h3; cases h3
  have key : ∀ j (lo hi : Nat) (y : Int), hi - lo = j → lo < hi → hi ≤ k → 0 ≤ y → y < 2 ^ (n * (hi - lo)) → ∀ (A : Around) (s : Shared) (Q E : Value → Shared → Prop) (t0 t1 t2 : Tok) (vs : List Value) (ns : List Int) (ep : Nat), KeepBut x H s.heap → s.heap.get? x = some (listOf vs.toArray ep) → IntsAre vs ns → ns.length = k →
      A.handled = none → A.depth + j < recursionLimit →
      (∀ h' tk' vs', KeepBut x s.heap h' → h'.get? x = some (listOf vs'.toArray ep) → IntsAre vs' (put ns lo (i2d n (hi - lo) y)) → Q .none { s with heap := h', toks := tk' }) →
      wpAny (model Challenge.rw_pg0144_01.row.prog w) A (call (.ref f) [.int y t0, .int lo t1, .int hi t2]) Q E s := by
    intro j
    induction j using Nat.strongRecOn with
    | _ j IH =>
      intro lo hi y hj hlt hle hy0 hy1 A s Q E t0 t1 t2 vs ns ep hks hsx hiv hns hh hroom hQ
      have nolim : s.heap.NoLimit := by
        obtain ⟨mc, ⟨o, es, ep', e, hd, r⟩, r2⟩ := kn
        exact ⟨mc, ⟨o, es, ep', hks _ _ (fun q => by rw [q, kx] at e; cases e; cases hd) e, hd, r⟩, r2⟩
      have crec : s.heap.CodeRec (.ref c') q30 := by
        obtain ⟨c2, o, ws, t, e1, e2, e3, e4⟩ := kc
        exact ⟨c2, o, ws, t, e1, hks _ _ (fun q => by rw [q, kx] at e2; cases e2; cases e3) e2, e3, e4⟩
      k_dflt (refine' enterNB (dl := x) (binds := [("x", .int y t0), ("L", .int lo t1), ("R", .int hi t2)]) (hks _ _ nfx hfo) ?kd nolim crec ?kr hsx ?kb ?kl ?_ ?c1 ?c2 ?c3 ?c4; (case kd => exact congrArg Obj.data hfe); (case kr => exact room0 hroom); (case kb => exact BindsTo.of_eq rfl); (case kl => exact locs rfl); (case c1 => decide); (case c2 => exact rfl); (case c3 => exact rfl); (case c4 => exact rfl))
      intro L2 h2 F2 N2
      have X2 := gX.keeps (hkH _ hks)
      have c1 := g1.keeps (hkH _ hks)
      have c2 := g2.keeps (hkH _ hks)
      have c3 := g3.keeps (hkH _ hks)
      have hf2 : FnAt f (s.heap.hide x) := ⟨_, _, _, _, (hkH _ hks _ _ gfo).trans (congrArg some hfe)⟩
      by_cases h1 : (lo : Int) + 1 = (hi : Int)
      · have e9 : hi - lo = 1 := by omega
        (try dsimp only); k_steps
        rename_i h' F' N' hi' hl' hs'
        refine hQ h' _ _ (hide_keep F'.keep) (N' _ (.head _)).1 ?_
        rw [e9, i2d_one hy0 (by rw [e9, Nat.mul_one] at hy1; exact hy1), ← set_put (by omega)]
        exact hi'
      · obtain ⟨mid, sh, hsh, hm1, hm2, e0, e1, e2, e3, e3', e5, e6, up0, up1, e7, e8, e9, lo0, lo1, e10, j1, j2, mk, lm, lp, lq⟩ := half_nums hlt hle hkb hp4 h1 hy0 hy1
        clear hsh hy1
        (try dsimp only); k_steps
        rename_i h3 F3 N3
        refine IH (mid - lo) (hj ▸ j1) lo mid (y % 2 ^ sh) rfl hm1 mk lo0 lo1 (A.deeper _) _ _ _ _ _ _ vs ns ep ?_ (N3 _ (.head _)).1 hiv hns hh (room_half hroom (hj ▸ j1)) ?_
        · exact fun b o nb e => F3.keep b o ((Heap.hide_ne _ nb).trans (hks b o nb e))
        intro h4 tk4 vs4 K4 x4 i4
        have F5 := fr_but F3 N3 K4
        have N5 := news_but N3 x4
        clear F3 N3
        have hl4 : (put ns lo (i2d n (mid - lo) (y % 2 ^ sh))).length = k := by rw [put_len (by rw [i2d_len, hns]; exact lp)]; exact hns
        (try dsimp only); k_steps
        refine IH (hi - mid) (hj ▸ j2) mid hi (y / 2 ^ sh) rfl hm2 hle up0 up1 (A.deeper _) _ _ _ _ _ _ vs4 _ ep ?_ x4 i4 hl4 hh (room_half hroom (hj ▸ j2)) ?_
        · exact fun b o nb e => F5.keep b o ((Heap.hide_ne _ nb).trans (hks b o nb e))
        intro h6 tk6 vs6 K6 x6 i6
        have F7 := fr_but F5 N5 K6
        (try dsimp only); k_steps
        refine hQ h6 _ vs6 (hide_keep F7.keep) x6 ?_
        rw [e10, ← put_put (by simp only [i2d_len, hns]; exact lq), i2d_len, lm]
        exact i6
  have hf0 : FnAt f H := ⟨_, _, _, _, hfo.trans (congrArg some hfe)⟩
  have hsz : ((List.replicate k (Value.int 0 z0)).length : Int) = (k : Int) := by rw [List.length_replicate]
  have kk := ceil_bits (Builtin.Int.intBits a) n hp3
  rw [← hk] at kk
  (try dsimp only); k_steps
  · rename_i ha
    refine len_list (PySem.IsL.isList (n := 0) kx) (by rw [List.size_toArray]; omega) ?_
    rw [List.size_toArray, hsz]
    have hb0 : Builtin.Int.intBits a ≠ 0 := fun e => by
      have h1 := bits_of hp1
      rw [e] at h1
      have : a < 1 := h1
      omega
    have hk0 : 0 < k := by
      rcases Nat.eq_zero_or_pos k with e | e
      · rw [e] at kk; omega
      · exact e
    have hak : a < 2 ^ (n * (k - 0)) := Int.lt_of_lt_of_le (bits_of hp1) (two_mono kk)
    (try dsimp only); k_steps
    refine key k 0 k a rfl hk0 (Nat.le_refl _) hp1 hak (A.deeper _) _ _ _ _ _ _ _ _ 0 ?_ kx (ints_rep z0 k) (by rw [List.length_replicate]) hh (room_top hdp hkb) ?_
    · exact fun _ _ _ e => e
    intro h8 tk8 vs8 K8 x8 i8
    have Nx0 := N4 _ (.tail _ (.tail _ (.tail _ (.head _))))
    have F8 : Fr g L h8 _ := ⟨F4.ns.at' fun o e => K8 _ _ (Ne.symm Nx0.2.1) e, fun b o e => K8 _ _ (fun q => by rw [q, Nx0.2.2] at e; cases e) (F4.keep b o e), F4.above⟩
    have N8 : News g L h8 ((x, listOf vs8.toArray 0) :: (L + 1 + 1, o4) :: tb') := fun p hp => by
      rcases List.mem_cons.mp hp with rfl | hp
      · exact ⟨x8, Nx0.2⟩
      · rcases List.mem_cons.mp hp with rfl | hp
        · have z := N4 _ (.tail _ (.tail _ (.head _)))
          exact ⟨K8 _ _ n2x z.1, z.2⟩
        · have z := N4 p (.tail _ (.tail _ (.tail _ (.tail _ (.tail _ hp)))))
          refine ⟨K8 _ _ (fun q => ?_) z.1, z.2⟩
          have z1 := z.1
          rw [q, kx] at z1
          have := B'.h p hp
          rw [← Option.some.inj z1] at this; cases this
    rw [put_all (by rw [i2d_len, List.length_replicate]; rfl)] at i8
    clear F4 N4
    (try dsimp only); k_steps
    rw [← hk] at R
    exact done_ [(x, _)] R B' F8 N8 (by intro p hp; rw [List.mem_singleton.mp hp]; k_mem) (fun p hp => .tail _ (.tail _ hp)) rfl ⟨x, vs8, 0, rfl, rfl, i8⟩ rfl
  · rename_i ha
    subst ha
    have hk0 : k = 0 := by rw [hk, show Builtin.Int.intBits 0 = 0 from rfl]; exact Nat.div_eq_of_lt (by omega)
    rw [← hk, hk0] at R
    rw [hk0] at N4
    exact done_ [(x, _)] R B' F4 N4 (by intro p hp; rw [List.mem_singleton.mp hp]; k_mem) (fun p hp => .tail _ (.tail _ (.tail _ (.tail _ (.tail _ hp))))) rfl ⟨x, _, _, rfl, rfl, .nil⟩ rfl
end
section
variable {w : World} {loose : List Str} {mean : ExcName → Option Value} {mg mb : Str → Option Value} {g₀ : Heap}
/-- a contract used: what the caller has made (rest) stays, the tables may turn -/
theorem useQ {f : Addr} {args : List Value} {d : Nat} {Pre : Heap → Prop} {Post : Value → List (Addr × Obj) → Prop} {A : Around} {s : Shared} {Q E : Value → Shared → Prop} {g : Heap} {L : Addr} {m : Str → Option Value} (rest : List (Addr × Obj)) {tb news : List (Addr × Obj)}
    (C : Fn w loose mean mg mb g₀ f args d Pre Post) (D : Gd w loose mean mg mb g₀ g) (B : Tb tb) (F : Fr g L s.heap m) (N : News g L s.heap news) (hs : ∀ p ∈ rest, p ∈ news) (hb : ∀ p ∈ tb, p ∈ news) (hr : ∀ p ∈ rest, hid p.2 = false)
    (hh : A.handled = none) (hd : A.depth + d < recursionLimit) (hu : A.units + 8 * d < cLine) (hp : Pre s.heap)
    (h : ∀ v tl tb' h' tk', Tb tb' → Fr g L h' m → News g L h' (tl ++ (rest ++ tb')) → (∀ p ∈ tl, ∀ q ∈ rest, q.1 ≠ p.1) → (∀ p ∈ tl, hid p.2 = false) → Post v tl → Q v { s with heap := h', toks := tk' }) :
    wpAny (model Challenge.rw_pg0144_01.row.prog w) A (call (.ref f) args) Q E s :=
  use' rest C D B F N hs hb (List.all_eq_true.mpr fun p hp => by rw [hr p hp]; rfl) hh hd hu hp h

/-- a turn's end -/
def TurnOk (g : Heap) (L I : Addr) (io : Obj) (s : Shared) (J : (Str → Option Value) → List (Addr × Obj) → Prop) (f : Flow) (s₃ : Shared) : Prop :=
  f = .next ∧ ∃ h' tk' m' rest' tb', s₃ = { s with heap := h', toks := tk' } ∧ Tb tb' ∧ Fr g L h' m' ∧ News g L h' ((I, io) :: (rest' ++ tb')) ∧ J m' rest' ∧ ∀ p ∈ rest', p.1 ≠ I
/-- a for over whatever walks, by what holds of the frame's names and of what the frame has made; the target any -/
theorem loop_mT {A : Around} {s : Shared} {R : Result → Shared → Prop} {target : Expr} {body : List Stmt} {env : Env} {g : Heap} {L I : Addr} {fp : List Addr} {n : Nat} {P : Nat → Value → Prop} {St : Nat → Heap → Prop} {m : Str → Option Value} {rest tb : List (Addr × Obj)} {io : Obj}
    (J : Nat → (Str → Option Value) → List (Addr × Obj) → Prop) (W : Walks Challenge.rw_pg0144_01.row.prog w A I fp [I] n P St)
    (hst : ∀ i h, St i h → ∃ o, h.get? I = some o ∧ hid o = false)
    (hfp : ∀ b ∈ fp, b ≠ I → (∃ o, g.get? b = some o) ∨ ∃ o, ∀ i m rest, J i m rest → (b, o) ∈ rest)
    (B : Tb tb) (F : Fr g L s.heap m) (N : News g L s.heap ((I, io) :: (rest ++ tb))) (hI : ∀ p ∈ rest, p.1 ≠ I) (h0 : St 0 s.heap) (j0 : J 0 m rest)
    (turn : ∀ i v m₁ rest₁ tb₁ io₁ h tk, i < n → P i v → J i m₁ rest₁ → Tb tb₁ → hid io₁ = false → Fr g L h m₁ → News g L h ((I, io₁) :: (rest₁ ++ tb₁)) → (∀ p ∈ rest₁, p.1 ≠ I) →
      wpAny (model Challenge.rw_pg0144_01.row.prog w) A (assign target env v) (fun _ s₂ => wpAny (model Challenge.rw_pg0144_01.row.prog w) A (execs body env) (TurnOk g L I io₁ s (J (i + 1))) (fun _ _ => False) s₂) (fun _ _ => False) { s with heap := h, toks := tk })
    (done : ∀ m₁ rest₁ tb₁ h tk, J n m₁ rest₁ → Tb tb₁ → Fr g L h m₁ → News g L h (rest₁ ++ tb₁) → (∀ p ∈ rest₁, p.1 ≠ I) → R (.ok .next) { s with heap := h, toks := tk })
    (hgo : ∀ i v h tk (Q : Unit → Shared → Prop) (E : Value → Shared → Prop), St i h → Q () { s with heap := h, toks := tk } → wpAny (model Challenge.rw_pg0144_01.row.prog w) A (letOwnedTupleGo target (.ref I) v) Q E { s with heap := h, toks := tk }) :
    codeAny (model Challenge.rw_pg0144_01.row.prog w) A (.forLoop target (.ref I) body [] env) R s := by
  refine codeAny_forLoop_any (fun k s' => ∃ i h tk m₁ rest₁ tb₁ io₁, s' = { s with heap := h, toks := tk } ∧ i ≤ n ∧ k = n - i ∧ Tb tb₁ ∧ Fr g L h m₁ ∧ News g L h ((I, io₁) :: (rest₁ ++ tb₁)) ∧ (∀ p ∈ rest₁, p.1 ≠ I) ∧ St i h ∧ J i m₁ rest₁) ?_ n
    ⟨0, s.heap, s.toks, m, rest, tb, io, rfl, Nat.zero_le _, rfl, B, F, N, hI, h0, j0⟩
  rintro k s' ⟨i, h, tk, m₁, rest₁, tb₁, io₁, rfl, hi, rfl, B₁, F₁, N₁, hI₁, st₁, j₁⟩
  have NI := N₁ _ (.head _)
  obtain ⟨o₀, e₀, v₀⟩ := hst _ _ st₁
  have eio : o₀ = io₁ := Option.some.inj (e₀.symm.trans NI.1)
  subst eio
  -- what the iterator's step keeps
  have step : ∀ h', (∀ b o, b ∉ [I] → h.get? b = some o → h'.get? b = some o) → Fr g L h' m₁ ∧ News g L h' (rest₁ ++ tb₁) := fun h' kp => by
    refine ⟨⟨F₁.ns.at' fun o e => kp _ _ (fun q => NI.2.1 (List.mem_singleton.mp q).symm) e, fun b o e => kp _ _ (fun q => ?_) (F₁.keep b o e), F₁.above⟩, fun p hp => ?_⟩
    · have := NI.2.2; rw [← List.mem_singleton.mp q, e] at this; cases this
    · have z := N₁ p (.tail _ hp)
      refine ⟨kp _ _ (fun q => ?_) z.1, z.2⟩
      have q := List.mem_singleton.mp q
      rcases List.mem_append.mp hp with hp | hp
      · exact hI₁ p hp q
      · have h1 := z.1
        rw [q, e₀] at h1
        have h2 := B₁.h p hp
        rw [← Option.some.inj h1, v₀] at h2; cases h2
  by_cases hlt : i < n
  · refine W.item i _ _ _ hlt st₁ fun v h' tk' hv st' kp => ?_
    obtain ⟨F', N'⟩ := step h' kp
    obtain ⟨o', e', v'⟩ := hst _ _ st'
    have N'' : News g L h' ((I, o') :: (rest₁ ++ tb₁)) := fun p hp => by
      rcases List.mem_cons.mp hp with rfl | hp
      · exact ⟨e', NI.2⟩
      · exact N' p hp
    refine hgo _ v _ _ _ _ st' ?_
    refine wpAny_mono (turn i v m₁ rest₁ tb₁ o' h' tk' hlt hv j₁ B₁ v' F' N'' hI₁) (fun _ s₂ h₂ => wpAny_mono h₂ (fun f s₃ h₃ => ?_) fun _ _ x => x.elim) fun _ _ x => x.elim
    obtain ⟨rfl, h₄, tk₄, m₄, rest₄, tb₄, rfl, B₄, F₄, N₄, j₄, hI₄⟩ := h₃
    refine ⟨n - (i + 1), by omega, i + 1, h₄, tk₄, m₄, rest₄, tb₄, o', rfl, hlt, rfl, B₄, F₄, N₄, hI₄, ?_, j₄⟩
    refine W.frame _ _ _ st' fun b hb o e => ?_
    by_cases q : b = I
    · rw [q] at e ⊢; rw [e'] at e; cases e; exact (N₄ _ (.head _)).1
    · rcases hfp b hb q with ⟨og, eg⟩ | ⟨ob, hj⟩
      · have h1 := F'.keep _ _ eg
        rw [e] at h1; cases h1
        exact F₄.keep _ _ eg
      · have h1 := (N' (b, ob) (List.mem_append_left _ (hj _ _ _ j₁))).1
        rw [e] at h1; cases h1
        exact (N₄ (b, ob) (.tail _ (List.mem_append_left _ (hj _ _ _ j₄)))).1
  · have hin : i = n := by omega
    subst hin
    refine W.done _ _ _ st₁ fun h' tk' kp => ?_
    obtain ⟨F', N'⟩ := step h' kp
    exact wpAny_execs_nil (done m₁ rest₁ tb₁ h' tk' j₁ B₁ F' N' hI₁)
/-- a for over whatever walks, by what holds of the frame's names and of what the frame has made -/
theorem loop_m {A : Around} {s : Shared} {R : Result → Shared → Prop} {target : Expr} {body : List Stmt} {env : Env} {g : Heap} {L I : Addr} {fp : List Addr} {n : Nat} {P : Nat → Value → Prop} {St : Nat → Heap → Prop} {m : Str → Option Value} {rest tb : List (Addr × Obj)} {io : Obj}
    (J : Nat → (Str → Option Value) → List (Addr × Obj) → Prop) (W : Walks Challenge.rw_pg0144_01.row.prog w A I fp [I] n P St)
    (hst : ∀ i h, St i h → ∃ o, h.get? I = some o ∧ hid o = false)
    (hfp : ∀ b ∈ fp, b ≠ I → (∃ o, g.get? b = some o) ∨ ∃ o, ∀ i m rest, J i m rest → (b, o) ∈ rest)
    (B : Tb tb) (F : Fr g L s.heap m) (N : News g L s.heap ((I, io) :: (rest ++ tb))) (hI : ∀ p ∈ rest, p.1 ≠ I) (h0 : St 0 s.heap) (j0 : J 0 m rest)
    (turn : ∀ i v m₁ rest₁ tb₁ io₁ h tk, i < n → P i v → J i m₁ rest₁ → Tb tb₁ → hid io₁ = false → Fr g L h m₁ → News g L h ((I, io₁) :: (rest₁ ++ tb₁)) → (∀ p ∈ rest₁, p.1 ≠ I) →
      wpAny (model Challenge.rw_pg0144_01.row.prog w) A (assign target env v) (fun _ s₂ => wpAny (model Challenge.rw_pg0144_01.row.prog w) A (execs body env) (TurnOk g L I io₁ s (J (i + 1))) (fun _ _ => False) s₂) (fun _ _ => False) { s with heap := h, toks := tk })
    (done : ∀ m₁ rest₁ tb₁ h tk, J n m₁ rest₁ → Tb tb₁ → Fr g L h m₁ → News g L h (rest₁ ++ tb₁) → (∀ p ∈ rest₁, p.1 ≠ I) → R (.ok .next) { s with heap := h, toks := tk })
    (ht : ∀ v, letOwnedTupleGo target (.ref I) v = pure () := by intro _; rfl) :
    codeAny (model Challenge.rw_pg0144_01.row.prog w) A (.forLoop target (.ref I) body [] env) R s :=
  loop_mT J W hst hfp B F N hI h0 j0 turn done fun i v h tk Q E _ hQ => by rw [ht v]; exact wpAny_pure hQ
end
theorem divstep {n k i : Nat} {a b r d : Int} {qs : List Int} (hb : 0 < b) (hr0 : 0 ≤ r) (hr1 : r < b) (hd0 : 0 ≤ d) (hd1 : d < 2 ^ n) (hi : i < k) (hd : (i2d n k a)[k - 1 - i]? = some d)
    (hv : d2i n ((i2d n k a).drop (k - i)) = b * d2i n qs.reverse + r) :
    0 ≤ r * 2 ^ n + d ∧ r * 2 ^ n + d < b * 2 ^ n ∧ 0 ≤ (r * 2 ^ n + d) / b ∧ (r * 2 ^ n + d) / b < 2 ^ n ∧ 0 ≤ (r * 2 ^ n + d) % b ∧ (r * 2 ^ n + d) % b < b ∧
    d2i n ((i2d n k a).drop (k - (i + 1))) = b * d2i n (qs ++ [(r * 2 ^ n + d) / b]).reverse + (r * 2 ^ n + d) % b := by
  have p := two_pos n
  have y0 : 0 ≤ r * 2 ^ n + d := Int.add_nonneg (Int.mul_nonneg hr0 (Int.le_of_lt p)) hd0
  have y1 : r * 2 ^ n + d < b * 2 ^ n := by
    have : r * 2 ^ n ≤ (b - 1) * 2 ^ n := Int.mul_le_mul_of_nonneg_right (by omega) (Int.le_of_lt p)
    rw [Int.sub_mul, Int.one_mul] at this
    omega
  refine ⟨y0, y1, Int.ediv_nonneg y0 (Int.le_of_lt hb), Int.ediv_lt_of_lt_mul hb (by rw [Int.mul_comm (2 ^ n) b]; exact y1), Int.emod_nonneg _ (Int.ne_of_gt hb), Int.emod_lt_of_pos _ hb, ?_⟩
  have hlt : k - 1 - i < (i2d n k a).length := by rw [i2d_len]; omega
  rw [show k - (i + 1) = k - 1 - i by omega, List.drop_eq_getElem_cons hlt, show k - 1 - i + 1 = k - i by omega]
  rw [List.getElem?_eq_getElem hlt] at hd
  simp only [d2i, List.reverse_append, List.reverse_cons, List.reverse_nil, List.nil_append, List.cons_append]
  rw [Option.some.inj hd, hv]
  have e := Int.mul_ediv_add_emod (r * 2 ^ n + d) b
  generalize (r * 2 ^ n + d) / b = q at *
  generalize (r * 2 ^ n + d) % b = r' at *
  generalize d2i n qs.reverse = z at *
  rw [Int.mul_add, Int.mul_add, Int.mul_left_comm b, Int.mul_comm (2 ^ n) r]
  omega
theorem div_end {a b q r : Int} (hb : 0 < b) (h : a = b * q + r) (h0 : 0 ≤ r) (h1 : r < b) : q = a / b ∧ r = a % b := by
  have := (Int.ediv_emod_unique hb).mpr ⟨(by rw [h, Int.add_comm] : r + b * q = a), h0, h1⟩
  exact ⟨this.1.symm, this.2.symm⟩
theorem kw16 : True := by (k_with "exec For Name Call cons nil" => (k_dflt (refine wpAny_For ?_))); trivial
theorem kw17 : True := by (k_with "exec For Name Name cons nil" => (k_dflt (refine wpAny_For ?_))); trivial
theorem kw18 : True := by (k_with "exec For Tuple Call cons nil" => (k_dflt (refine wpAny_For ?_))); trivial
theorem kw19 : True := by (k_with "eval Name" => ((k_dflt (refine' nameX_L (by assumption) (by first | exact rfl | assumption) ?_ (by rfl) (by rfl))))); trivial
theorem tb_ne {g h : Heap} {L D : Addr} {o : Obj} {news : List (Addr × Obj)} {p : Addr × Obj} (N : News g L h news) (hp : p ∈ news) (hh : hid p.2 = true) (hm : (D, o) ∈ news) (ho : hid o = false) : p.1 ≠ D := fun e => by
  have e1 := (N p hp).1
  rw [e, (N _ hm).1] at e1
  rw [← Option.some.inj e1] at hh
  exact absurd (hh.symm.trans ho) (by decide)
theorem hid_rev (l : Addr) (i : Int) : hid (revObj l i) = false := rfl
theorem hid_revIter {h : Heap} {I l : Addr} {i : Int} (x : h.IsRevIter I l i) : ∃ o, h.get? I = some o ∧ hid o = false := by
  obtain ⟨o, e, hc, hd⟩ := x
  exact ⟨o, e, by simp [hid, hc, hd, rawInt]⟩
theorem hid_listIter {h : Heap} {I l : Addr} {i : Nat} (x : h.IsListIter I l i) : ∃ o, h.get? I = some o ∧ hid o = false := by
  obtain ⟨o, e, hc, hd⟩ := x
  exact ⟨o, e, by simp [hid, hc, hd]⟩
section
variable {prog : Program} {w : World} {A : Around} {E : Value → Shared → Prop} {s : Shared} {g : Heap} {L a t : Addr} {m : Str → Option Value} {news : List (Addr × Obj)} {cn : Str} {cs : Scope} {ccd : Value} {cl : List (Str × Addr)} {Q : Unit → Shared → Prop}
theorem unpack2 {x1 x2 : Str} {p1 p2 pos : Pos} {k : Nat} {v1 v2 : Value} (F : Fr g L s.heap m) (N : News g L s.heap news) (hm : (t, tupO [v1, v2]) ∈ news) (hh : A.handled = none)
    (h : ∀ h', Fr g L h' (fun y => if y = x2 then some v2 else if y = x1 then some v1 else m y) → News g L h' news → Q () { s with heap := h', toks := s.toks + 1 + 1 })
    (hk : cs.kind = .function) (h1 : (envX cn cs L a ccd cl).kindOf x1 = some .local) (h2 : (envX cn cs L a ccd cl).kindOf x2 = some .local) :
    wpAny (model prog w) A (assign (.Tuple [.Name x1 p1, .Name x2 p2] k pos) (envX cn cs L a ccd cl) (.ref t)) Q E s := by
  refine assign_Tuple_tuple hh ⟨_, (N _ hm).1, rfl, _, rfl⟩ rfl rfl fun h' he => ?_
  have F' := F.extBut he (Nat.le_refl _)
  have N' := N.extBut he (Nat.le_refl _)
  refine wpAny_assignInOrder_more (wpAny_assign_Name (storeX_L F' N' (fun h₂ F₂ N₂ => ?_) hk h1))
  refine wpAny_assignInOrder_more (wpAny_assign_Name (storeX_L F₂ N₂ (fun h₃ F₃ N₃ => ?_) hk h2))
  exact wpAny_assignInOrder_none (h h₃ F₃ N₃)
end
theorem kw20 : True := by (k_with "assign" => ((k_dflt (refine' unpack2 (by assumption) (by assumption) (by k_mem) (by assumption) ?_ (by rfl) (by rfl) (by rfl)); intro _ _ _; (try k_sweep)))); trivial
section
variable {w : World}
theorem loop_rev {A : Around} {s : Shared} {R : Result → Shared → Prop} {target : Expr} {body : List Stmt} {env : Env} {g : Heap} {L I l : Addr} {vs : List Value} {ea : Nat} {m : Str → Option Value} {rest tb : List (Addr × Obj)}
    (J : Nat → (Str → Option Value) → List (Addr × Obj) → Prop) (hh : A.handled = none) (hJ : ∀ i m rest, J i m rest → (l, listOf vs.toArray ea) ∈ rest)
    (B : Tb tb) (F : Fr g L s.heap m) (N : News g L s.heap ((I, revObj l ((vs.length : Int) - 1)) :: (rest ++ tb))) (hI : ∀ p ∈ rest, p.1 ≠ I) (j0 : J 0 m rest)
    (turn : ∀ i v m₁ rest₁ tb₁ io₁ h tk, i < vs.length → vs[vs.length - 1 - i]? = some v → J i m₁ rest₁ → Tb tb₁ → hid io₁ = false → Fr g L h m₁ → News g L h ((I, io₁) :: (rest₁ ++ tb₁)) → (∀ p ∈ rest₁, p.1 ≠ I) →
      wpAny (model Challenge.rw_pg0144_01.row.prog w) A (assign target env v) (fun _ s₂ => wpAny (model Challenge.rw_pg0144_01.row.prog w) A (execs body env) (TurnOk g L I io₁ s (J (i + 1))) (fun _ _ => False) s₂) (fun _ _ => False) { s with heap := h, toks := tk })
    (done : ∀ m₁ rest₁ tb₁ h tk, J vs.length m₁ rest₁ → Tb tb₁ → Fr g L h m₁ → News g L h (rest₁ ++ tb₁) → (∀ p ∈ rest₁, p.1 ≠ I) → R (.ok .next) { s with heap := h, toks := tk })
    (ht : ∀ v, letOwnedTupleGo target (.ref I) v = pure () := by intro _; rfl) :
    codeAny (model Challenge.rw_pg0144_01.row.prog w) A (.forLoop target (.ref I) body [] env) R s := by
  have nl : l ≠ I := hI _ (hJ _ _ _ j0)
  have W := Walks.listRev (prog := Challenge.rw_pg0144_01.row.prog) (w := w) hh I l nl vs.toArray
  have es : vs.toArray.size = vs.length := List.size_toArray ..
  refine loop_m J W (fun i h st => hid_revIter st.2.1) ?_ B F N hI ?_ j0 ?_ (fun m₁ rest₁ tb₁ h tk j => done m₁ rest₁ tb₁ h tk (es ▸ j)) ht
  · intro x hx hne
    rcases List.mem_cons.mp hx with rfl | hx
    · exact absurd rfl hne
    · rw [List.mem_singleton.mp hx]
      exact .inr ⟨_, hJ⟩
  · refine ⟨Nat.zero_le _, ?_, ⟨_, (N _ (.tail _ (List.mem_append_left _ (hJ _ _ _ j0)))).1, rfl, _, rfl⟩⟩
    rw [es]
    exact ⟨_, (N _ (.head _)).1, rfl, by simp [revObj]⟩
  · intro i v m₁ rest₁ tb₁ io₁ h tk hi hv
    rw [es] at hi
    exact turn i v m₁ rest₁ tb₁ io₁ h tk hi (by simpa using hv)
end
section
variable {prog : Program} {w : World} {A : Around} {E : Value → Shared → Prop} {s : Shared} {h₀ : Heap} {L D : Addr} {m : Str → Option Value} {news : List (Addr × Obj)} {Q : Value → Shared → Prop}
theorem append_m {its : List Value} {n : Nat} {x : Value} (rest : List (Addr × Obj)) (F : Fr h₀ L s.heap m) (N : News h₀ L s.heap news) (hm : (D, listOf its.toArray n) ∈ news) (hs : ∀ p ∈ rest, p ∈ news) (hne : ∀ p ∈ rest, p.1 ≠ D) (hsz : its.length ≤ 1000)
    (h : ∀ h', Fr h₀ L h' m → News h₀ L h' ((D, listOf (its ++ [x]).toArray (n + 1)) :: rest) → Q .none { s with heap := h' }) : wpAny (model prog w) A (call (.builtin "list.append") [.ref D, x]) Q E s := by
  refine append_K F (fun p hp => N p ((List.mem_cons.mp hp).elim (fun e => e ▸ hm) (hs p))) (Upd.head hne) (fun h' F' N' => h h' F' ?_) (by rw [List.size_toArray, sizeLine_eq]; omega)
  simpa using N'
end
section
variable {prog : Program} {w : World} {A : Around} {E : Value → Shared → Prop} {s : Shared} {h₀ : Heap} {L D : Addr} {m : Str → Option Value} {rest : List (Addr × Obj)} {Q : Value → Shared → Prop}
theorem reverse_m {its : List Value} {n : Nat} (F : Fr h₀ L s.heap m) (N : News h₀ L s.heap ((D, listOf its.toArray n) :: rest)) (hne : ∀ p ∈ rest, p.1 ≠ D) (hsz : its.length ≤ 1000)
    (h : ∀ h', Fr h₀ L h' m → News h₀ L h' ((D, listOf its.reverse.toArray n) :: rest) → Q .none { s with heap := h' }) : wpAny (model prog w) A (call (.builtin "list.reverse") [.ref D]) Q E s :=
  kl_reverse F N (l := its.reverse) (by simp) (Upd.head hne) (by simp only [List.toList_toArray]; rw [sizeLine_eq]; omega) h
end
theorem kw21 : True := by (k_with "call builtin:list.reverse" => ((k_dflt (refine' reverse_m (by assumption) (by assumption) (by assumption) (by omega) ?_); intro _ _ _; (try k_sweep)))); trivial
/-- what holds between the turns: the quotient's figures so far, and the rest -/
def JQ (lq al : Addr) (vs : List Value) (ea : Nat) (a b : Int) (n k : Nat) (u tn : Tok) (i : Nat) (m : Str → Option Value) (rest : List (Addr × Obj)) : Prop :=
  ∃ r t ws ep qs, m "r" = some (.int r t) ∧ m "b" = some (.int b u) ∧ m "n" = some (.int n tn) ∧ m "q_digits" = some (.ref lq) ∧ rest = [(lq, listOf ws.toArray ep), (al, listOf vs.toArray ea)] ∧ IntsAre ws qs ∧ qs.length = i ∧
    (∀ d ∈ qs, 0 ≤ d ∧ d < 2 ^ n) ∧ 0 ≤ r ∧ r < b ∧ d2i n ((i2d n k a).drop (k - i)) = b * d2i n qs.reverse + r
section
variable {w : World} {loose : List Str} {mean : ExcName → Option Value} {mg mb : Str → Option Value} {g₀ : Heap}
theorem divmod_pos (a b : Int) (ta u : Tok) : Fn w loose mean mg mb g₀ 49 [.int a ta, .int b u] 260 (fun _ => 0 ≤ a ∧ a < 2 ^ 200 ∧ 0 < b ∧ b < 2 ^ 200) (fun v tl => ∃ x t1 t2, v = .ref x ∧ tl = [(x, tupO [.int (a / b) t1, .int (a % b) t2])]) := by
  intro A s Q E I hh hdp hun hpre hret
  obtain ⟨hp1, hp2, hp3, hp4⟩ := hpre
  have hX : (hd.heap_39 w.params).In s.heap ∧ (Challenge.rw_pg0144_01 = Challenge.rw_pg0144_01) := by k_fill; exact ⟨I.X, rfl⟩
  refine' enter (binds := [("a", .int a ta), ("b", .int b u)]) I ?kd ?ko ?kc ?kb ?kl ?_ ?c1 ?c2 ?c3 ?c4
  walk_at "m enter"
  intro g tb L h₁ D B F N keep sub
  have X := D.X
  have T := D.T
  have R := Ret.mk hret D keep
  obtain ⟨n, hn⟩ : ∃ n, n = Builtin.Int.intBits b := ⟨_, rfl⟩
  have hn2 : n ≤ 200 := by rw [hn]; exact intBits_small (Int.le_of_lt hp3) hp4
  have hbn : b < 2 ^ n := by rw [hn]; exact bits_of (Int.le_of_lt hp3)
  have hn1 : 1 ≤ n := by
    rcases Nat.eq_zero_or_pos n with e | e
    · rw [e] at hbn; have : b < 1 := hbn; omega
    · exact e
  (try dsimp only); k_steps
  rename_i h2 F2 N2
  rw [← hn] at F2 ⊢
  refine useQ [] (int2digits a n _ _) D B F2 N2 (fun _ h => nomatch h) (fun p hp => hp) (fun _ h => nomatch h) hh (roomD hdp (by decide)) (roomU hun (by decide)) ⟨hp1, hp2, hn1, hn2⟩ ?_
  intro v tl tb' h3 tk3 B3 F3 N3 hne hid3 po
  obtain ⟨al, vs, ea, rfl, rfl, hvs⟩ := po
  simp only [List.nil_append, List.cons_append] at N3
  clear F2 N2 B hne hid3
  obtain ⟨k, hk⟩ : ∃ k, k = (Builtin.Int.intBits a + n - 1) / n := ⟨_, rfl⟩
  rw [← hk] at hvs
  have hkb : k ≤ 200 := by
    have := intBits_small hp1 hp2
    rw [hk]; exact Nat.div_le_of_le_mul (by omega)
  (try dsimp only); k_steps
  rename_i hA tkA hB lq hC ltq hD D5 h6 F6 N6 lt6
  refine wpAny_pyIter_revIter ⟨_, (N6 _ (.head _)).1, rfl, rfl⟩ ?_
  have nlq : lq ≠ D5 := Nat.ne_of_lt lt6.1
  have nal : al ≠ D5 := Nat.ne_of_lt lt6.2.1
  have nla : al ≠ lq := Nat.ne_of_lt ltq.1
  have hlen : vs.length = k := by rw [hvs.length, i2d_len]
  obtain ⟨m₀, F7, hr0, hb0, hn0, hq0⟩ : ∃ m₀, Fr g L h6 m₀ ∧ m₀ "r" = some (.int 0 tkA) ∧ m₀ "b" = some (.int b u) ∧ (∃ tn, m₀ "n" = some (.int n tn)) ∧ m₀ "q_digits" = some (.ref lq) := ⟨_, F6, rfl, rfl, ⟨_, rfl⟩, rfl⟩
  clear F6
  obtain ⟨tn, hn0⟩ := hn0
  have alt : ∀ p ∈ [(lq, listOf #[] 0), (al, listOf vs.toArray ea)], p.1 ≠ D5 := by
    intro p hp
    rcases List.mem_cons.mp hp with rfl | hp
    · exact nlq
    · rw [List.mem_singleton.mp hp]; exact nal
  refine loop_rev (A := A.deeper _) (l := al) (vs := vs) (ea := ea) (rest := [(lq, listOf #[] 0), (al, listOf vs.toArray ea)])
    (JQ lq al vs ea a b n k u tn)
    hh ?_ B3 F7 N6 alt ?_ ?_ ?_
  · rintro i m rest ⟨_, _, _, _, _, _, _, _, _, rfl, _⟩
    exact .tail _ (.head _)
  · exact ⟨0, tkA, [], 0, [], hr0, hb0, hn0, hq0, rfl, .nil, rfl, fun _ h => (nomatch h), Int.le_refl _, hp3, by rw [Nat.sub_zero, List.drop_of_length_le (by rw [i2d_len]; exact Nat.le_refl _)]; simp [d2i]⟩
  · rintro i v m₁ rest₁ tb₁ io₁ h tk hi hv ⟨r, t, ws, ep, qs, hr, hb, hn', hq, rfl, hws, hql, hqs, hr1, hr2, hval⟩ B₁ hio F₁ N₁ hI₁
    rw [hlen] at hi hv
    obtain ⟨d, td, rfl, hd⟩ := hvs.at _ _ hv
    have hdr := i2d_range n k a d (List.mem_of_getElem? hd)
    obtain ⟨y0, y1, q0, q1, s0, s1, hv'⟩ := divstep hp3 hr1 hr2 hdr.1 hdr.2 hi hd hval
    obtain ⟨y, hy⟩ : ∃ y, y = r * 2 ^ n + d := ⟨_, rfl⟩
    have e1 : r * 2 ^ ((n : Int)).toNat = r * 2 ^ n := by rw [Int.toNat_natCast]
    have e2 : r * 2 ^ n + d = y := hy.symm
    rw [← hy] at y0 y1 q0 q1 s0 s1 hv'
    have hrb : Builtin.Int.intBits r ≤ 200 := intBits_small hr1 (Int.lt_trans hr2 hp4)
    have e3 : (Builtin.Int.intBits r : Int) + (n : Int) ≤ 2 ^ 27 := by omega
    have e4 : (0 : Int) ≤ (n : Int) := Int.natCast_nonneg _
    have hy5 : y < 2 ^ 500 := Int.lt_trans y1 (by
      have h1 : b * 2 ^ n ≤ 2 ^ 200 * 2 ^ n := Int.mul_le_mul_of_nonneg_right (by omega) (Int.le_of_lt (two_pos n))
      rw [← Int.pow_add] at h1
      exact Int.lt_of_le_of_lt h1 (Int.lt_of_le_of_lt (two_mono (show 200 + n ≤ 400 by omega)) (by decide)))
    clear hy hrb
    (try dsimp only); k_steps
    rename_i h2 F2 N2
    refine useQ [(D5, io₁), (lq, listOf ws.toArray ep), (al, listOf vs.toArray ea)] (div2n1n y b n _ _ _) D B₁ F2 N2 (fun p hp => ?_) (fun p hp => .tail _ (.tail _ (.tail _ hp))) (by repeat' (first | exact List.forall_mem_nil _ | refine List.forall_mem_cons.mpr ⟨?_, ?_⟩ | rfl | assumption)) hh (roomD hdp (by decide)) (roomU hun (by decide)) ⟨y0, hp3, Int.lt_trans hp4 (by decide), e4, hy5⟩ ?_
    · rcases List.mem_cons.mp hp with rfl | hp
      · exact .head _
      · rcases List.mem_cons.mp hp with rfl | hp
        · exact .tail _ (.head _)
        · rw [List.mem_singleton.mp hp]; exact .tail _ (.tail _ (.head _))
    intro v tl tb' h3 tk3 B3 F3 N3 hne hid3 po
    obtain ⟨x, t1, t2, rfl, rfl⟩ := po
    simp only [List.nil_append, List.cons_append] at N3
    clear F2 N2 B₁ hid3
    (try dsimp only); k_steps
    rename_i h4 F4 N4
    have hl30 : ws.length ≤ 200 := by rw [hws.length, hql]; omega
    refine append_m ((D5, io₁) :: (al, listOf vs.toArray ea) :: tb') F4 N4 (by k_mem) (fun p hp => ?_) (fun p hp => ?_) (by omega) ?_
    · rcases List.mem_cons.mp hp with rfl | hp
      · exact .tail _ (.head _)
      · rcases List.mem_cons.mp hp with rfl | hp
        · exact .tail _ (.tail _ (.tail _ (.head _)))
        · exact .tail _ (.tail _ (.tail _ (.tail _ hp)))
    · rcases List.mem_cons.mp hp with rfl | hp
      · exact Ne.symm nlq
      · rcases List.mem_cons.mp hp with rfl | hp
        · exact nla
        · exact tb_ne N4 (.tail _ (.tail _ (.tail _ (.tail _ hp)))) (B3.h p hp) (show (lq, listOf ws.toArray ep) ∈ _ from .tail _ (.tail _ (.head _))) rfl
    intro h5 F5 N5
    clear F4 N4
    (try dsimp only); k_steps
    refine ⟨rfl, h5, _, _, [(lq, listOf (ws ++ [Value.int (y / b) t1]).toArray (ep + 1)), (al, listOf vs.toArray ea)], tb', rfl, B3, F5, fun p hp => N5 p ?_, ⟨y % b, t2, ws ++ [Value.int (y / b) t1], ep + 1, qs ++ [y / b], rfl, hb, hn', hq, rfl, hws.append (.cons _ _ .nil), by simp [hql], ?_, s0, s1, hv'⟩, ?_⟩
    · rcases List.mem_cons.mp hp with rfl | hp
      · exact .tail _ (.head _)
      · rcases List.mem_cons.mp hp with rfl | hp
        · exact .head _
        · exact .tail _ (.tail _ hp)
    · intro d hd
      rcases List.mem_append.mp hd with hd | hd
      · exact hqs d hd
      · rw [List.mem_singleton.mp hd]; exact ⟨q0, q1⟩
    · intro p hp
      rcases List.mem_cons.mp hp with rfl | hp
      · exact nlq
      · rw [List.mem_singleton.mp hp]; exact nal
  · rintro m₁ rest₁ tb₁ h tk ⟨r, t, ws, ep, qs, hr, hb, hn', hq, rfl, hws, hql, hqs, hr1, hr2, hval⟩ B₁ F₁ N₁ hI₁
    rw [hlen] at hql hval
    rw [Nat.sub_self, List.drop_zero] at hval
    simp only [List.nil_append, List.cons_append] at N₁
    have hl30 : ws.length ≤ 200 := by rw [hws.length, hql]; omega
    have hneR : ∀ p ∈ (al, listOf vs.toArray ea) :: tb₁, p.1 ≠ lq := fun p hp => by
      rcases List.mem_cons.mp hp with rfl | hp
      · exact nla
      · exact tb_ne N₁ (.tail _ (.tail _ hp)) (B₁.h p hp) (show (lq, listOf ws.toArray ep) ∈ _ from .head _) rfl
    have hend := d2i_i2d n k a hp1 (Int.lt_of_lt_of_le (bits_of hp1) (two_mono (by rw [hk]; exact ceil_bits _ n hn1)))
    rw [hend] at hval
    obtain ⟨hq9, hr9⟩ := div_end hp3 hval hr1 hr2
    (try dsimp only); k_steps
    rename_i h3 F3 N3
    refine useQ [(lq, listOf ws.reverse.toArray ep)] (digits2int lq ws.reverse qs.reverse n _) D B₁ F3 N3 (fun p hp => ?_) (fun p hp => .tail _ (.tail _ hp)) (by repeat' (first | exact List.forall_mem_nil _ | refine List.forall_mem_cons.mpr ⟨?_, ?_⟩ | rfl | assumption)) hh (roomD hdp (by decide)) (roomU hun (by decide))
      ⟨⟨_, (N3 _ (.head _)).1, rfl, _, rfl⟩, hws.reverse, fun d hd => ⟨(hqs d (List.mem_reverse.mp hd)).1, Int.lt_of_lt_of_le (hqs d (List.mem_reverse.mp hd)).2 (two_mono (by omega))⟩, hn1, hn2, by rw [List.length_reverse, hql]; omega⟩ ?_
    · rw [List.mem_singleton.mp hp]; exact .head _
    intro v tl tb4 h4 tk4 B4 F4 N4 hne hid3 po
    obtain ⟨rfl, t4, rfl⟩ := po
    simp only [List.nil_append, List.cons_append] at N4
    rw [hq9]
    subst hr9
    clear F3 N3 B₁
    (try dsimp only); k_steps
    rename_i xD hD FD ND ltD
    exact done_ [(xD, _)] R B4 FD ND (by intro p hp; rw [List.mem_singleton.mp hp]; exact .head _) (fun p hp => .tail _ (.tail _ hp)) rfl ⟨xD, _, _, rfl, rfl⟩ rfl
end
section
variable {w : World} {loose : List Str} {mean : ExcName → Option Value} {mg mb : Str → Option Value} {g₀ : Heap}
theorem int_divmod (a b : Int) (ta u : Tok) : Fn w loose mean mg mb g₀ 56 [.int a ta, .int b u] 262 (fun _ => 0 ≤ a ∧ a < 2 ^ 200 ∧ 0 < b ∧ b < 2 ^ 200) (fun v tl => ∃ x t1 t2, v = .ref x ∧ tl = [(x, tupO [.int (a / b) t1, .int (a % b) t2])]) := by
  intro A s Q E I hh hdp hun hpre hret
  have hpre' := hpre
  obtain ⟨hp1, hp2, hp3, hp4⟩ := hpre'
  have q1 : ¬ b = 0 := by omega
  have q2 : ¬ b < 0 := by omega
  have q3 : ¬ a < 0 := by omega
  have hX : (hd.heap_39 w.params).In s.heap ∧ (Challenge.rw_pg0144_01 = Challenge.rw_pg0144_01) := by k_fill; exact ⟨I.X, rfl⟩
  refine' enter (binds := [("a", .int a ta), ("b", .int b u)]) I ?kd ?ko ?kc ?kb ?kl ?_ ?c1 ?c2 ?c3 ?c4
  walk_at "m enter"
  intro g tb L h₁ D B F N keep sub
  have X := D.X
  have T := D.T
  have R := Ret.mk hret D keep
  k_steps
  refine useQ [] (divmod_pos a b _ _) D B F N (fun _ h => nomatch h) (fun p hp => hp) (fun _ h => nomatch h) hh (roomD hdp (by decide)) (roomU hun (by decide)) hpre ?_
  intro v tl tb' h3 tk3 B3 F3 N3 hne hid3 po
  obtain ⟨x, t1, t2, rfl, rfl⟩ := po
  exact done_ [(x, _)] R B3 F3 N3 (fun p hp => List.mem_append_left _ hp) (fun p hp => .tail _ hp) rfl ⟨x, t1, t2, rfl, rfl⟩ rfl
end
/-- a stop of the walk, to cut there -/
def Barrier (p : Prop) : Prop := p
theorem barrier {p : Prop} (h : Barrier p) : p := h
/-- what holds behind a statement that a cut closes -/
def Mid (g : Heap) (L : Addr) (s : Shared) (news : List (Addr × Obj)) (K : (Str → Option Value) → Prop) (f : Flow) (s' : Shared) : Prop :=
  f = .next ∧ ∃ h' tk' m', s' = { s with heap := h', toks := tk' } ∧ Fr g L h' m' ∧ News g L h' news ∧ K m'
theorem mid_ok {g h' : Heap} {L : Addr} {s s' : Shared} {news : List (Addr × Obj)} {K : (Str → Option Value) → Prop} {m' : Str → Option Value} {tk' : Nat} (e : s' = { s with heap := h', toks := tk' }) (F : Fr g L h' m') {news' : List (Addr × Obj)} (N : News g L h' news') (hn : ∀ p ∈ news, p ∈ news') (hK : K m') : Mid g L s news K .next s' :=
  ⟨rfl, h', tk', m', e, F, fun p hp => N p (hn p hp), hK⟩
theorem turn_ok {g h' : Heap} {L I : Addr} {io : Obj} {s s' : Shared} {J : (Str → Option Value) → List (Addr × Obj) → Prop} {m' : Str → Option Value} {tk' : Nat} (rest tb news : List (Addr × Obj)) (e : s' = { s with heap := h', toks := tk' }) (B : Tb tb) (F : Fr g L h' m') (N : News g L h' news)
    (hn : ∀ p ∈ (I, io) :: (rest ++ tb), p ∈ news) (hJ : J m' rest) (hI : ∀ p ∈ rest, p.1 ≠ I) : TurnOk g L I io s J .next s' :=
  ⟨rfl, h', tk', m', rest, tb, e, B, F, fun p hp => N p (hn p hp), hJ, hI⟩
theorem cut_execs {w : World} {A : Around} {s : Shared} {env : Env} {st : Stmt} {rest : List Stmt} {Q : Flow → Shared → Prop} {E : Value → Shared → Prop} {g : Heap} {L : Addr} {news : List (Addr × Obj)} (K : (Str → Option Value) → Prop)
    (h1 : wpAny (model Challenge.rw_pg0144_01.row.prog w) A (exec st env) (Mid g L s news K) (fun _ _ => False) s)
    (h2 : ∀ h' tk' m', Fr g L h' m' → News g L h' news → K m' → wpAny (model Challenge.rw_pg0144_01.row.prog w) A (execs rest env) Q E { s with heap := h', toks := tk' }) :
    Barrier (wpAny (model Challenge.rw_pg0144_01.row.prog w) A (execs (st :: rest) env) Q E s) := by
  refine wpAny_execs_cons (wpAny_mono h1 (fun f s' h => ?_) fun _ _ x => x.elim)
  obtain ⟨rfl, h', tk', m', rfl, F, N, hk⟩ := h
  exact h2 h' tk' m' F N hk
section
variable {prog : Program} {w : World} {A : Around} {E : Value → Shared → Prop} {s : Shared} {g : Heap} {L l : Addr} {m : Str → Option Value} {news : List (Addr × Obj)} {vs : List Value} {ns : List Int} {Q : Value → Shared → Prop}
theorem len_g (hl : g.IsList l vs.toArray) (F : Fr g L s.heap m) (hi : IntsAre vs ns) (hz : ns.length ≤ 1000) (h : ∀ t tk', Q (.int ns.length t) { s with toks := tk' }) : wpAny (model prog w) A (call (.builtin "len") [.ref l]) Q E s := by
  have e : vs.length = ns.length := hi.length
  refine len_list (stays_list F.keep hl) (by rw [List.size_toArray]; omega) ?_
  rw [List.size_toArray, e]
  exact h _ _
theorem len_n {n : Nat} (N : News g L s.heap news) (hm : (l, listOf vs.toArray n) ∈ news) (hi : IntsAre vs ns) (hz : ns.length ≤ 1000) (h : ∀ t tk', Q (.int ns.length t) { s with toks := tk' }) : wpAny (model prog w) A (call (.builtin "len") [.ref l]) Q E s := by
  have e : vs.length = ns.length := hi.length
  refine len_list (PySem.IsL.isList (n := n) (N _ hm).1) (by rw [List.size_toArray]; omega) ?_
  rw [List.size_toArray, e]
  exact h _ _
theorem item_g {value slice : Expr} {k : Int} {u : Tok} (hl : g.IsList l vs.toArray) (F : Fr g L s.heap m) (hi : IntsAre vs ns) (h0 : 0 ≤ k) (h1 : k < ns.length) (hz : ns.length ≤ 1000) (h : ∀ t, Q (.int (ns.getD k.toNat 0) t) s)
    (hs : subscripted slice false (.ref l) (.int k u) = operate [.ref l, .int k u] (getItem (.ref l) (.int k u))) :
    wpAny (model prog w) A (subscriptTail value slice (.ref l) (.int k u)) Q E s := item_anyK (stays_list F.keep hl) hi h0 h1 (by omega) h hs
theorem item_n {value slice : Expr} {k : Int} {u : Tok} {n : Nat} (N : News g L s.heap news) (hm : (l, listOf vs.toArray n) ∈ news) (hi : IntsAre vs ns) (h0 : 0 ≤ k) (h1 : k < ns.length) (hz : ns.length ≤ 1000) (h : ∀ t, Q (.int (ns.getD k.toNat 0) t) s)
    (hs : subscripted slice false (.ref l) (.int k u) = operate [.ref l, .int k u] (getItem (.ref l) (.int k u))) :
    wpAny (model prog w) A (subscriptTail value slice (.ref l) (.int k u)) Q E s := item_anyK (PySem.IsL.isList (n := n) (N _ hm).1) hi h0 h1 (by omega) h hs
end
theorem kw22 : True := by (k_with "call builtin:len" => ((k_dflt (first | (refine' len_g (by assumption) (by assumption) (by assumption) (by omega) ?_) | (refine' len_n (by assumption) (by k_mem) (by assumption) (by omega) ?_)); intro _ _))); trivial
theorem kw23 : True := by (k_with "subscriptTail Name Name ref int" => ((k_dflt (first | (refine' item_g (by assumption) (by assumption) (by assumption) (by omega) (by omega) (by omega) ?_ (by with_unfolding_all rfl)) | (refine' item_n (by assumption) (by k_mem) (by assumption) (by omega) (by omega) (by omega) ?_ (by with_unfolding_all rfl))); intro _))); trivial
theorem loop_range {w : World} {A : Around} {s : Shared} {R : Result → Shared → Prop} {E : Value → Shared → Prop} {target : Expr} {body : List Stmt} {env : Env} {g : Heap} {L r : Addr} {n : Nat} {t u v : Tok} {m : Str → Option Value} {rest tb : List (Addr × Obj)}
    (J : Nat → (Str → Option Value) → List (Addr × Obj) → Prop) (hr : IsRange s.heap r 0 n 1 t u v) (hsm : Builtin.Range.small 0 n 1 = true) (hrs : Builtin.Range.rangeSize 0 n 1 = n) (hh : A.handled = none)
    (B : Tb tb) (F : Fr g L s.heap m) (N : News g L s.heap (rest ++ tb)) (j0 : J 0 m rest)
    (turn : ∀ I i ti m₁ rest₁ tb₁ io₁ h tk, i < n → (∀ p ∈ rest, p.1 < I) → J i m₁ rest₁ → Tb tb₁ → hid io₁ = false → Fr g L h m₁ → News g L h ((I, io₁) :: (rest₁ ++ tb₁)) → (∀ p ∈ rest₁, p.1 ≠ I) →
      wpAny (model Challenge.rw_pg0144_01.row.prog w) A (assign target env (.int i ti)) (fun _ s₂ => wpAny (model Challenge.rw_pg0144_01.row.prog w) A (execs body env) (TurnOk g L I io₁ s (J (i + 1))) (fun _ _ => False) s₂) (fun _ _ => False) { s with heap := h, toks := tk })
    (done : ∀ m₁ rest₁ tb₁ h tk, J n m₁ rest₁ → Tb tb₁ → Fr g L h m₁ → News g L h (rest₁ ++ tb₁) → R (.ok .next) { s with heap := h, toks := tk })
    (ht : ∀ I v, letOwnedTupleGo target (.ref I) v = pure () := by intro _ _; rfl) :
    wpAny (model Challenge.rw_pg0144_01.row.prog w) A (pyIter (.ref r)) (fun it s₂ => codeAny (model Challenge.rw_pg0144_01.row.prog w) A (.forLoop target it body [] env) R s₂) E s := by
  refine wpAny_pyIter_range hr hsm ?_
  have W := Walks.range (prog := Challenge.rw_pg0144_01.row.prog) (w := w) hh s.heap.objs.size 0 1 n
  have hlt : ∀ p ∈ rest, p.1 < s.heap.objs.size := fun p hp => Heap.lt_size (N p (List.mem_append_left _ hp)).1
  refine loop_m J W (fun i h st => ⟨_, st, rfl⟩) (fun b hb hne => absurd (List.mem_singleton.mp hb) hne) B (F.push _) (News.push F N _) (fun p hp => Nat.ne_of_lt (hlt p hp)) ?_ j0 ?_ (fun m₁ rest₁ tb₁ h tk j B' F' N' _ => done m₁ rest₁ tb₁ h tk j B' F' N') (ht _)
  · refine (Heap.get?_push_size _ rfl).trans ?_
    rw [hrs]; simp
  · rintro i v m₁ rest₁ tb₁ io₁ h tk hi ⟨ti, rfl⟩ j B₁ hio F₁ N₁ hI₁
    have e : (0 : Int) + (i : Int) * 1 = (i : Int) := by omega
    rw [e]
    exact turn _ i ti m₁ rest₁ tb₁ io₁ h tk hi hlt j B₁ hio F₁ N₁ hI₁
theorem fmod_r (c : Int) : 0 ≤ c.fmod 55296 ∧ c.fmod 55296 < 55296 := by rw [Int.fmod_eq_emod_of_nonneg _ (by decide)]; omega
theorem odd_abs {i : Nat} (h : (i : Int).fmod 2 ≠ 1) (h2 : i % 2 = 1) : False := by rw [Int.fmod_eq_emod_of_nonneg _ (by decide)] at h; omega
/-- what holds between the turns: the codes so far -/
def JC (lc lg sl : Addr) (gs : List Value) (i : Nat) (m : Str → Option Value) (rest : List (Addr × Obj)) : Prop :=
  ∃ ws ep cs, m "codes" = some (.ref lc) ∧ m "given" = some (.ref lg) ∧ m "script" = some (.ref sl) ∧ rest = [(lc, listOf ws.toArray ep), (lg, listOf gs.toArray 0)] ∧ IntsAre ws cs ∧ cs.length = i ∧ ∀ i c, cs[i]? = some c → i % 2 = 1 → 0 ≤ c ∧ c < 55296
section
variable {w : World} {loose : List Str} {mean : ExcName → Option Value} {mg mb : Str → Option Value} {g₀ : Heap}
local macro_rules | `(tactic| walk_at "execs cons If") => `(tactic| (k_dflt (refine barrier ?_)))
theorem law_codes (sl : Addr) (vs : List Value) (ns : List Int) : Fn w loose mean mg mb g₀ 112 [.ref sl] 3 (fun h => h.IsList sl vs.toArray ∧ IntsAre vs ns ∧ ns.length ≤ 63)
    (fun v tl => ∃ x ws e cs, v = .ref x ∧ tl = [(x, listOf ws.toArray e)] ∧ IntsAre ws cs ∧ cs.length = 8 ∧ ∀ i c, cs[i]? = some c → i % 2 = 1 → 0 ≤ c ∧ c < 55296) := by
  intro A s Q E I hh hdp hun hpre hret
  obtain ⟨hp1, hp2, hp3⟩ := hpre
  have hX : (hd.heap_39 w.params).In s.heap ∧ (Challenge.rw_pg0144_01 = Challenge.rw_pg0144_01) := by k_fill; exact ⟨I.X, rfl⟩
  refine' enter (binds := [("script", .ref sl)]) I ?kd ?ko ?kc ?kb ?kl ?_ ?c1 ?c2 ?c3 ?c4
  walk_at "m enter"
  intro g tb L h₁ D B F N keep sub
  have X := D.X
  have T := D.T
  have R := Ret.mk hret D keep
  have hl : g.IsList sl vs.toArray := by
    obtain ⟨o, e, hc, x, hd⟩ := hp1
    exact ⟨o, keep _ _ e (by simp [hid, hd]), hc, x, hd⟩
  clear I hret hX sub keep hp1
  k_steps
  rename_i lg hA ltg hB lc hC ltc hD F1 N1 h1 tk1 t1 u1 v1 hR F2 N2 kp
  clear F1 N1
  have nlc : lg ≠ lc := Nat.ne_of_lt ltc.1
  obtain ⟨gs, gi, hgi, N3⟩ : ∃ gs gi, (IntsAre gs gi ∧ gi.length = 8) ∧ News g L h1 ([(lc, listOf [].toArray 0), (lg, listOf gs.toArray 0)] ++ tb) := ⟨_, _, ⟨.cons _ _ (.cons _ _ (.cons _ _ (.cons _ _ (.cons _ _ (.cons _ _ (.cons _ _ (.cons _ _ .nil))))))), rfl⟩, N2⟩
  obtain ⟨hgi, hgl⟩ := hgi
  obtain ⟨m₀, F3, hc0, hg0, hs0⟩ : ∃ m₀, Fr g L h1 m₀ ∧ m₀ "codes" = some (.ref lc) ∧ m₀ "given" = some (.ref lg) ∧ m₀ "script" = some (.ref sl) := ⟨_, F2, rfl, rfl, rfl⟩
  clear N2 F2
  refine loop_range (A := A.deeper _) (n := 8) (rest := [(lc, listOf [].toArray 0), (lg, listOf gs.toArray 0)])
    (JC lc lg sl gs)
    hR (by decide) (by decide) hh B F3 N3 ⟨[], 0, [], hc0, hg0, hs0, rfl, .nil, rfl, fun i c h => by cases h⟩ ?_ ?_
  · rintro I i ti m₁ rest₁ tb₁ io₁ h tk hi hlt ⟨ws, ep, cs, hc, hg, hs, rfl, hws, hcl, hcs⟩ B₁ hio F₁ N₁ hI₁
    have hi0 : (0 : Int) ≤ (i : Int) := Int.natCast_nonneg _
    have hi8 : (i : Int) < (gi.length : Int) := by omega
    (try dsimp only); k_steps
    refine cut_execs (g := g) (L := L) (news := (I, io₁) :: (lc, listOf ws.toArray ep) :: (lg, listOf gs.toArray 0) :: tb₁) (fun m' => ∃ xv tx, m' "x" = some (.int xv tx) ∧ m' "place" = some (.int i ti) ∧ m' "codes" = some (.ref lc) ∧ m' "given" = some (.ref lg) ∧ m' "script" = some (.ref sl)) ?_ ?_
    · (try dsimp only); k_steps
      all_goals (refine' mid_ok rfl ?mF ?mN ?mS ?mK; (case mF => assumption); (case mN => assumption); (case mS => first | exact fun _ h => h | exact fun _ h => List.Mem.tail _ h | exact fun _ h => List.Mem.tail _ (List.Mem.tail _ h)); (case mK => exact ⟨_, _, rfl, rfl, hc, hg, hs⟩))
    rintro h2 tk2 m2 F2 N2 ⟨xv, tx, hx, hpl, hc2, hg2, hs2⟩
    (try dsimp only); k_steps
    refine cut_execs (g := g) (L := L) (news := (I, io₁) :: (lc, listOf ws.toArray ep) :: (lg, listOf gs.toArray 0) :: tb₁) (fun m' => ∃ c tc, m' "code" = some (.int c tc) ∧ m' "place" = some (.int i ti) ∧ m' "codes" = some (.ref lc) ∧ m' "given" = some (.ref lg) ∧ m' "script" = some (.ref sl)) ?_ ?_
    · (try dsimp only); k_steps
      all_goals repeat' (first
        | (refine' mid_ok rfl ?mF ?mN ?mS ?mK; (case mF => assumption); (case mN => assumption); (case mS => first | exact fun _ h => h | exact fun _ h => List.Mem.tail _ h | exact fun _ h => List.Mem.tail _ (List.Mem.tail _ h)); (case mK => exact ⟨_, _, rfl, hpl, hc2, hg2, hs2⟩))
        | (unfold Barrier; dsimp only; refine wpAny_execs_cons ?_; k_steps))
    rintro h3 tk3 m3 F3 N3 ⟨c, tc, hcd, hpl3, hc3, hg3, hs3⟩
    refine cut_execs (g := g) (L := L) (news := (I, io₁) :: (lc, listOf ws.toArray ep) :: (lg, listOf gs.toArray 0) :: tb₁) (fun m' => ∃ c tc, m' "code" = some (.int c tc) ∧ m' "codes" = some (.ref lc) ∧ m' "given" = some (.ref lg) ∧ m' "script" = some (.ref sl) ∧ (i % 2 = 1 → 0 ≤ c ∧ c < 55296)) ?_ ?_
    · (try dsimp only); k_steps
      all_goals (refine' mid_ok rfl ?mF ?mN ?mS ?mK; (case mF => assumption); (case mN => assumption); (case mS => first | exact fun _ h => h | exact fun _ h => List.Mem.tail _ h | exact fun _ h => List.Mem.tail _ (List.Mem.tail _ h)); (case mK => exact ⟨_, _, by first | exact rfl | exact hcd, hc3, hg3, hs3, by first | exact fun _ => fmod_r _ | exact fun h2 => (odd_abs (by assumption) h2).elim⟩))
    rintro h4 tk4 m4 F4 N4 ⟨c', tc', hcd4, hc4, hg4, hs4, hodd⟩
    (try dsimp only); k_steps
    have nI := hI₁ (lc, listOf ws.toArray ep) (.head _)
    have nIg := hI₁ (lg, listOf gs.toArray 0) (.tail _ (.head _))
    refine append_m ((I, io₁) :: (lg, listOf gs.toArray 0) :: tb₁) F4 N4 (.tail _ (.head _)) (fun p hp => ?_) (fun p hp => ?_) (by rw [hws.length]; omega) ?_
    · rcases List.mem_cons.mp hp with rfl | hp
      · exact .head _
      · exact .tail _ (.tail _ hp)
    · rcases List.mem_cons.mp hp with rfl | hp
      · exact Ne.symm nI
      · rcases List.mem_cons.mp hp with rfl | hp
        · exact nlc
        · exact tb_ne N4 (.tail _ (.tail _ (.tail _ hp))) (B₁.h p hp) (show (lc, listOf ws.toArray ep) ∈ _ from .tail _ (.head _)) rfl
    intro h6 F6 N6
    clear F4 N4
    (try dsimp only); k_steps
    refine turn_ok [(lc, listOf (ws ++ [Value.int c' tc']).toArray (ep + 1)), (lg, listOf gs.toArray 0)] tb₁ _ rfl B₁ F6 N6 (fun p hp => ?_) ⟨_, _, cs ++ [c'], hc4, hg4, hs4, rfl, hws.append (.cons _ _ .nil), by simp [hcl], ?_⟩ (fun p hp => ?_)
    · rcases List.mem_cons.mp hp with rfl | hp
      · exact .tail _ (.head _)
      · rcases List.mem_cons.mp hp with rfl | hp
        · exact .head _
        · exact .tail _ (.tail _ hp)
    · intro j d hj hodd2
      rcases Nat.lt_trichotomy j cs.length with q | q | q
      · rw [List.getElem?_append_left q] at hj; exact hcs j d hj hodd2
      · subst q; simp at hj; subst hj; rw [hcl] at hodd2; exact hodd hodd2
      · rw [List.getElem?_eq_none (by simp; omega)] at hj; cases hj
    · rcases List.mem_cons.mp hp with rfl | hp
      · exact nI
      · rw [List.mem_singleton.mp hp]; exact nIg
  · rintro m₁ rest₁ tb₁ h tk ⟨ws, ep, cs, hc, hg, hs, rfl, hws, hcl, hcs⟩ B₁ F₁ N₁
    (try dsimp only); k_steps
    exact done_ [(lc, _)] R B₁ F₁ N₁ (fun p hp => by rw [List.mem_singleton.mp hp]; exact .head _) (fun p hp => .tail _ (.tail _ hp)) rfl ⟨lc, ws, ep, cs, rfl, rfl, hws, hcl, hcs⟩ rfl
end
theorem loop_list {w : World} {A : Around} {s : Shared} {R : Result → Shared → Prop} {E : Value → Shared → Prop} {target : Expr} {body : List Stmt} {env : Env} {g : Heap} {L l : Addr} {vs : List Value} {m : Str → Option Value} {rest tb : List (Addr × Obj)}
    (J : Nat → (Str → Option Value) → List (Addr × Obj) → Prop) (hl : (∃ o, g.get? l = some o) ∨ ∃ o, ∀ i m rest, J i m rest → (l, o) ∈ rest) (hls : s.heap.IsList l vs.toArray) (hh : A.handled = none)
    (B : Tb tb) (F : Fr g L s.heap m) (N : News g L s.heap (rest ++ tb)) (j0 : J 0 m rest)
    (turn : ∀ I i v m₁ rest₁ tb₁ io₁ h tk, vs[i]? = some v → (∀ p ∈ rest, p.1 < I) → J i m₁ rest₁ → Tb tb₁ → hid io₁ = false → Fr g L h m₁ → News g L h ((I, io₁) :: (rest₁ ++ tb₁)) → (∀ p ∈ rest₁, p.1 ≠ I) →
      wpAny (model Challenge.rw_pg0144_01.row.prog w) A (assign target env v) (fun _ s₂ => wpAny (model Challenge.rw_pg0144_01.row.prog w) A (execs body env) (TurnOk g L I io₁ s (J (i + 1))) (fun _ _ => False) s₂) (fun _ _ => False) { s with heap := h, toks := tk })
    (done : ∀ m₁ rest₁ tb₁ h tk, J vs.length m₁ rest₁ → Tb tb₁ → Fr g L h m₁ → News g L h (rest₁ ++ tb₁) → R (.ok .next) { s with heap := h, toks := tk })
    (ht : ∀ I v, letOwnedTupleGo target (.ref I) v = pure () := by intro _ _; rfl) :
    wpAny (model Challenge.rw_pg0144_01.row.prog w) A (pyIter (.ref l)) (fun it s₂ => codeAny (model Challenge.rw_pg0144_01.row.prog w) A (.forLoop target it body [] env) R s₂) E s := by
  refine wpAny_pyIter_list hls ?_
  have hne : l ≠ s.heap.objs.size := by obtain ⟨o, ho, _⟩ := hls; exact Nat.ne_of_lt (Heap.lt_size ho)
  have W := Walks.list (prog := Challenge.rw_pg0144_01.row.prog) (w := w) hh s.heap.objs.size l hne vs.toArray
  have es : vs.toArray.size = vs.length := List.size_toArray ..
  have hlt : ∀ p ∈ rest, p.1 < s.heap.objs.size := fun p hp => Heap.lt_size (N p (List.mem_append_left _ hp)).1
  refine loop_m J W (fun i h st => hid_listIter st.1) ?_ B (F.push _) (News.push F N _) (fun p hp => Nat.ne_of_lt (hlt p hp)) ?_ j0 ?_ (fun m₁ rest₁ tb₁ h tk j B' F' N' _ => done m₁ rest₁ tb₁ h tk (es ▸ j) B' F' N') (ht _)
  · intro x hx hn
    rcases List.mem_cons.mp hx with rfl | hx
    · exact absurd rfl hn
    · rw [List.mem_singleton.mp hx]; exact hl
  · exact ⟨⟨_, Heap.get?_push_size _ rfl, rfl, rfl⟩, hls.push _⟩
  · intro i v m₁ rest₁ tb₁ io₁ h tk _ hv
    exact turn _ i v m₁ rest₁ tb₁ io₁ h tk (by simpa using hv) hlt
/-- a letter's figure -/
def fig (c : Int) : Option Nat := if isA c then some (c % 32).toNat else none
def figs (cs : List Int) : List Nat := cs.filterMap fig
def wordOf (fs : List Nat) : Str := ⟨(fs.map (· + 64)).toArray⟩
def UP : Str := Str.ofString "ABCDEFGHIJKLMNOPQRSTUVWXYZ"
theorem find_fin : ∀ n : Fin 128, (if Txt.find (Str.ofString "abcdefghijklmnopqrstuvwxyz") ⟨#[n.val]⟩ > Txt.find (Str.ofString "ABCDEFGHIJKLMNOPQRSTUVWXYZ") ⟨#[n.val]⟩ then Txt.find (Str.ofString "abcdefghijklmnopqrstuvwxyz") ⟨#[n.val]⟩ else Txt.find (Str.ofString "ABCDEFGHIJKLMNOPQRSTUVWXYZ") ⟨#[n.val]⟩) =
    if isA n.val = true then ((n.val : Int) % 32 - 1) else -1 := by decide +kernel
theorem find_of {c : Int} (h0 : 0 ≤ c) (h1 : c < 128) : (if Txt.find (Str.ofString "abcdefghijklmnopqrstuvwxyz") ⟨#[c.toNat]⟩ > Txt.find (Str.ofString "ABCDEFGHIJKLMNOPQRSTUVWXYZ") ⟨#[c.toNat]⟩ then Txt.find (Str.ofString "abcdefghijklmnopqrstuvwxyz") ⟨#[c.toNat]⟩ else Txt.find (Str.ofString "ABCDEFGHIJKLMNOPQRSTUVWXYZ") ⟨#[c.toNat]⟩) =
    if isA c = true then (c % 32 - 1) else -1 := by
  have := find_fin ⟨c.toNat, by omega⟩
  simp only [show ((c.toNat : Nat) : Int) = c by omega] at this
  exact this
theorem item_fin : ∀ n : Fin 26, Txt.item (Str.ofString "ABCDEFGHIJKLMNOPQRSTUVWXYZ") ((n.val : Nat) : Int) = ⟨#[n.val + 1 + 64]⟩ := by decide +kernel
theorem figs_snoc {cs : List Int} {i : Nat} {c : Int} (h : cs[i]? = some c) : figs (cs.take (i + 1)) = figs (cs.take i) ++ (fig c).toList := by
  unfold figs
  rw [List.take_add_one, h, List.filterMap_append]
  simp only [Option.toList]
  cases hf : fig c <;> simp [hf]
theorem wordOf_append (a b : List Nat) : wordOf (a ++ b) = wordOf a ++ wordOf b := by
  unfold wordOf
  apply Str.ext'
  rw [Str.cps_append]
  simp
theorem figs_len (cs : List Int) : (figs cs).length ≤ cs.length := List.length_filterMap_le ..
theorem wordOf_len (fs : List Nat) : (wordOf fs).length = fs.length := by simp [wordOf, Str.length]
section
variable {prog : Program} {w : World} {A : Around} {E : Value → Shared → Prop} {s : Shared} {value slice : Expr} {x y z : Str} {t u : Tok} {h₀ : Heap} {L : Addr} {m : Str → Option Value} {news : List (Addr × Obj)} {Q : Value → Shared → Prop}
theorem max_E {a b r : Int} (e : (if b > a then b else a) = r) (hh : A.handled = none) (F : Fr h₀ L s.heap m) (N : News h₀ L s.heap news)
    (h : ∀ h' tk t', Fr h₀ L h' m → News h₀ L h' news → Q (.int r t') { s with heap := h', toks := tk }) : wpAny (model prog w) A (call (.builtin "max") [.int a t, .int b u]) Q E s :=
  max_two_N hh F N fun h' tk F' N' => e ▸ h h' tk _ F' N'
theorem item_strE {i : Int} (e : Txt.item x i = y) (h0 : 0 ≤ i) (h2 : i < x.length) (hz : x.length ≤ 1000) (h : Q (.str y s.toks) { s with toks := s.toks + 1 })
    (hs : subscripted slice false (.str x t) (.int i u) = operate [.str x t, .int i u] (getItem (.str x t) (.int i u))) (ht : ∀ r, letTemporaryGo value (.str x t) r = pure ()) :
    wpAny (model prog w) A (subscriptTail value slice (.str x t) (.int i u)) Q E s :=
  item_str (by unfold fitsSsize; simp; omega) (by omega) h2 (fun _ => e ▸ h) hs ht
theorem add_strE (e : x ++ y = z) (hsz : x.length + y.length ≤ 10000) (h : ∀ t' tk, Q (.str z t') { s with toks := tk }) : wpAny (model prog w) A (binaryOp .Add (.str x t) (.str y u)) Q E s :=
  add_str (fun t' tk => e ▸ h t' tk) (by rw [sizeLine_eq]; omega)
end
theorem kw24 : True := by (k_with "call builtin:max" => ((k_dflt (refine' max_E (by assumption) (by assumption) (by assumption) (by assumption) ?_); intro _ _ _ _ _; (try k_sweep)))); trivial
theorem kw25 : True := by (k_with "binaryOp Add str str" => ((k_dflt (refine' add_strE (by assumption) (by omega) ?_); intro _ _))); trivial
theorem str_J {O : Option Value} {z z' : Str} {t : Tok} (h : O = some (.str z t)) (e : z = z') : ∃ t, O = some (.str z' t) := ⟨t, e ▸ h⟩
section
variable {w : World} {loose : List Str} {mean : ExcName → Option Value} {mg mb : Str → Option Value} {g₀ : Heap}
theorem law_word (cl : Addr) (vs : List Value) (cs : List Int) : Fn w loose mean mg mb g₀ 119 [.ref cl] 3 (fun h => h.IsList cl vs.toArray ∧ IntsAre vs cs ∧ cs.length ≤ 8)
    (fun v tl => tl = [] ∧ ∃ t, v = .str (wordOf (figs cs)) t) := by
  intro A s Q E I hh hdp hun hpre hret
  obtain ⟨hp1, hp2, hp3⟩ := hpre
  have hX : (hd.heap_39 w.params).In s.heap ∧ (Challenge.rw_pg0144_01 = Challenge.rw_pg0144_01) := by k_fill; exact ⟨I.X, rfl⟩
  refine' enter (binds := [("codes", .ref cl)]) I ?kd ?ko ?kc ?kb ?kl ?_ ?c1 ?c2 ?c3 ?c4
  walk_at "m enter"
  intro g tb L h₁ D B F N keep sub
  have X := D.X
  have T := D.T
  have R := Ret.mk hret D keep
  have hl : g.IsList cl vs.toArray := by
    obtain ⟨o, e, hc, x, hd⟩ := hp1
    exact ⟨o, keep _ _ e (by simp [hid, hd]), hc, x, hd⟩
  clear I hret hX sub keep hp1
  (try dsimp only); k_steps
  rename_i h2 F2 N2
  refine loop_list (A := A.deeper _) (vs := vs) (rest := []) (fun i m rest => rest = [] ∧ ∃ t, m "word" = some (.str (wordOf (figs (cs.take i))) t)) (.inl (let ⟨o, e, _⟩ := hl; ⟨o, e⟩)) (stays_list F2.keep hl) hh B F2 N2 ⟨rfl, _, rfl⟩ ?_ ?_
  · rintro I i v m₁ rest₁ tb₁ io₁ h tk hv hlt ⟨rfl, t, hw⟩ B₁ hio F₁ N₁ hI₁
    obtain ⟨c, tc, rfl, hc⟩ := hp2.at _ _ hv
    have hi8 : i < cs.length := (List.getElem?_eq_some_iff.mp hc).1
    have hsn := figs_snoc hc
    by_cases hA : isA c = true
    · have hrange : 0 ≤ c ∧ c < 128 := by
        unfold isA at hA; simp only [Bool.or_eq_true, decide_eq_true_eq] at hA; omega
      obtain ⟨c0, c1⟩ := hrange
      have emx := find_of c0 c1
      rw [if_pos hA] at emx
      obtain ⟨k, hk⟩ : ∃ k : Nat, c % 32 - 1 = (k : Int) := ⟨(c % 32 - 1).toNat, by unfold isA at hA; simp only [Bool.or_eq_true, decide_eq_true_eq] at hA; omega⟩
      have hk26 : k < 26 := by unfold isA at hA; simp only [Bool.or_eq_true, decide_eq_true_eq] at hA; omega
      rw [hk] at emx
      have hk0 : (k : Int) ≥ 0 := Int.natCast_nonneg _
      have ei := item_fin ⟨k, hk26⟩
      have ew : wordOf (figs (cs.take i)) ++ (⟨#[k + 1 + 64]⟩ : Str) = wordOf (figs (cs.take (i + 1))) := by
        rw [hsn, wordOf_append]
        unfold fig
        rw [if_pos hA, show (c % 32).toNat = k + 1 by omega]
        rfl
      have hwl : (wordOf (figs (cs.take i))).length ≤ 8 := by
        rw [wordOf_len]; exact Nat.le_trans (figs_len _) (by rw [List.length_take]; omega)
      (try dsimp only); k_steps
      rw [← ei] at ew
      refine' turn_ok [] tb₁ _ rfl B₁ ?tF ?tN ?tS ?tJ ?tI
      (case tF => assumption)
      (case tN => assumption)
      (case tS => exact fun p hp => hp)
      (case tI => exact fun _ h => nomatch h)
      (case tJ => exact ⟨rfl, str_J rfl ew⟩)
    · have hfn : figs (cs.take (i + 1)) = figs (cs.take i) := by rw [hsn]; unfold fig; rw [if_neg hA]; simp
      rw [← hfn] at hw
      by_cases c0 : 0 ≤ c
      · by_cases c1 : c < 128
        · have emx := find_of c0 c1
          rw [if_neg hA] at emx
          have hk0 : ¬ (-1 : Int) ≥ 0 := by decide
          (try dsimp only); k_steps
          refine' turn_ok [] tb₁ _ rfl B₁ ?tF ?tN ?tS ?tJ ?tI
          (case tF => assumption)
          (case tN => assumption)
          (case tS => exact fun p hp => hp)
          (case tI => exact fun _ h => nomatch h)
          (case tJ => exact ⟨rfl, _, hw⟩)
        · (try dsimp only); k_steps
          refine' turn_ok [] tb₁ _ rfl B₁ ?tF ?tN ?tS ?tJ ?tI
          (case tF => assumption)
          (case tN => assumption)
          (case tS => exact fun p hp => hp)
          (case tI => exact fun _ h => nomatch h)
          (case tJ => exact ⟨rfl, _, hw⟩)
      · (try dsimp only); k_steps
        refine' turn_ok [] tb₁ _ rfl B₁ ?tF ?tN ?tS ?tJ ?tI
        (case tF => assumption)
        (case tN => assumption)
        (case tS => exact fun p hp => hp)
        (case tI => exact fun _ h => nomatch h)
        (case tJ => exact ⟨rfl, _, hw⟩)
  · rintro m₁ rest₁ tb₁ h tk ⟨rfl, t, hw⟩ B₁ F₁ N₁
    rw [hp2.length, List.take_length] at hw
    (try dsimp only); k_steps
    exact doneP R B₁ F₁ N₁ (fun p hp => hp) ⟨_, rfl⟩ rfl
end
section
variable {w : World} {loose : List Str} {mean : ExcName → Option Value} {mg mb : Str → Option Value} {g₀ : Heap}
/-- a contract of a call that keeps every object -/
def FnK (w : World) (loose : List Str) (mean : ExcName → Option Value) (mg mb : Str → Option Value) (f : Addr) (args : List Value) (d : Nat) (P : Value → Prop) : Prop :=
  ∀ (A : Around) (s : Shared) (Q : Value → Shared → Prop) (E : Value → Shared → Prop), (hd.heap_39 w.params).In s.heap → Top topProg loose mean mg mb s.heap → A.handled = none → A.depth + d < recursionLimit → A.units + 8 * d < cLine →
    (∀ v h' tk', Keep s.heap h' → P v → Q v { s with heap := h', toks := tk' }) → wpAny (model Challenge.rw_pg0144_01.row.prog w) A (call (.ref f) args) Q E s
theorem enterK {A : Around} {s : Shared} {Q E : Value → Shared → Prop} {name qual : Str} {params : Arguments} {body : List Stmt} {scope : Scope} {dV kV doc pm cdv ct oc : Value} {an od : Option Addr} {osl : Array (Option Value)} {f : Addr} {args : List Value} {binds : List (Str × Value)}
    (X : (hd.heap_39 w.params).In s.heap) (T : Top topProg loose mean mg mb s.heap) (hroom : A.depth < recursionLimit)
    (ho : (hd.heap_39 w.params).lookup f = some ⟨oc, od, .func (fnOf name qual params body scope dV kV doc pm an cdv ct), osl⟩) (hcd : codeIn (hd.heap_39 w.params) cdv qual = true)
    (hbind : BindsTo s (fnOf name qual params body scope dV kV doc pm an cdv ct) ⟨args, []⟩ binds) (hloc : ∀ y ∈ binds, scope.names.lookup y.1 = some .local)
    (h : ∀ L h₁, Fr s.heap L h₁ (fun y => binds.reverse.lookup y) → News s.heap L h₁ [] →
      wpAny (model Challenge.rw_pg0144_01.row.prog w) (A.deeper (envX qual scope L f cdv [])) (execs body (envX qual scope L f cdv []))
        (fun fl s' => Q (match fl with | .ret v => v | _ => .none) s') (fun _ _ => False) { s with heap := h₁, toks := s.toks + binds.length })
    (hcell : ∀ x ∈ scope.names, x.2 ≠ .cell) (hco : scope.isCoroutine = false) (hgen : scope.isGenerator = false) (hk : scope.kind = .function) :
    wpAny (model Challenge.rw_pg0144_01.row.prog w) A (call (.ref f) args) Q E s := by
  refine wpAny_call (codeAny_call_def (fd := fnOf name qual params body scope dV kV doc pm an cdv ct) (body := body) (binds := binds) hroom (X _ _ ho) rfl T.nolimit (codeRec_of X hcd) rfl hbind hcell hloc (fun h₁ hns hk₁ => ?_) hco hgen hk)
  exact wpAny_mono (h s.heap.objs.size h₁ ⟨hns, hk₁, Nat.le_refl _⟩ News.nil) (fun fl s' hl => hl) (fun _ _ x => x.elim)
theorem useK {f : Addr} {args : List Value} {d : Nat} {P : Value → Prop} {A : Around} {s : Shared} {Q E : Value → Shared → Prop} {g : Heap} {L : Addr} {m : Str → Option Value} {news : List (Addr × Obj)}
    (C : FnK w loose mean mg mb f args d P) (X : (hd.heap_39 w.params).In g) (T : Top topProg loose mean mg mb g) (F : Fr g L s.heap m) (N : News g L s.heap news)
    (hh : A.handled = none) (hd : A.depth + d < recursionLimit) (hu : A.units + 8 * d < cLine)
    (h : ∀ v h' tk', Fr g L h' m → News g L h' news → P v → Q v { s with heap := h', toks := tk' }) :
    wpAny (model Challenge.rw_pg0144_01.row.prog w) A (call (.ref f) args) Q E s :=
  C A s Q E (X.keeps F.keep) (T.keeps F.keep) hh hd hu fun v h' tk' k p => h v h' tk' (fr_up F k) (news_up N k) p
end
local macro_rules | `(tactic| walk_at "m enterK") => `(tactic| (k_dflt (case kd => exact room0 (by assumption)); (case ko => k_is); (case kc => k_is); (case kb => exact BindsTo.of_eq rfl); (case kl => exact locs rfl); (case c1 => decide); (case c2 => exact rfl); (case c3 => exact rfl); (case c4 => exact rfl)))
local macro_rules | `(tactic| walk_at "m callK") => `(tactic| ((case kX => assumption); (case kT => assumption); (case kF => assumption); (case kN => assumption); (case kh => assumption); (case kd => exact roomD (by assumption) (by decide)); (case ku => exact roomU (by assumption) (by decide))))
section
variable {w : World} {loose : List Str} {mean : ExcName → Option Value} {mg mb : Str → Option Value} {g₀ : Heap}
theorem ctoi_intK (c : Int) (t : Tok) : FnK w loose mean mg mb 63 [.int c t] 3 (fun v => v = .int c t) := by
  intro A s Q E X T hh hdp hun hret
  have hX : (hd.heap_39 w.params).In s.heap ∧ (Challenge.rw_pg0144_01 = Challenge.rw_pg0144_01) := by k_fill; exact ⟨X, rfl⟩
  refine' enterK (binds := [("c", .int c t)]) X T ?kd ?ko ?kc ?kb ?kl ?_ ?c1 ?c2 ?c3 ?c4
  walk_at "m enterK"
  intro L h₁ F N
  k_steps
  exact hret _ _ _ F.keep rfl
end
theorem kw26 : True := by (k_with "call ref" => ((k_here; k_dflt (refine' useK (ctoi_intK _ _) ?kX ?kT ?kF ?kN ?kh ?kd ?ku ?_; walk_at "m callK"); intro _ _ _ _ _ hv'; subst hv'))); trivial
section
variable {w : World} {loose : List Str} {mean : ExcName → Option Value} {mg mb : Str → Option Value} {g₀ : Heap}
theorem isprint_intK (c : Int) (t : Tok) : FnK w loose mean mg mb 84 [.int c t] 5 (fun v => v = .bool (decide (32 ≤ c ∧ c ≤ 126))) := by
  intro A s Q E X T hh hdp hun hret
  refine' enterK (binds := [("c", .int c t)]) X T ?kd ?ko ?kc ?kb ?kl ?_ ?c1 ?c2 ?c3 ?c4
  walk_at "m enterK"
  intro L h₁ F N
  k_steps
  all_goals (refine hret _ _ _ (Fr.keep (by assumption)) ?_; walk_at "m bool")
end
theorem kw27 : True := by (k_with "call ref" => ((k_here; k_dflt (refine' useK (isprint_intK _ _) ?kX ?kT ?kF ?kN ?kh ?kd ?ku ?_; walk_at "m callK"); intro _ _ _ _ _ hv'; subst hv'))); trivial
section
variable {w : World} {loose : List Str} {mean : ExcName → Option Value} {mg mb : Str → Option Value} {g₀ : Heap}
theorem unctrl_intK (c : Int) (t : Tok) (hp1 : 1 ≤ c) (hp2 : c ≤ 26) : FnK w loose mean mg mb 105 [.int c t] 7 (fun v => ∃ t', v = .str ⟨#[94, (c + 64).toNat]⟩ t') := by
  intro A s Q E X T hh hdp hun hret
  refine' enterK (binds := [("c", .int c t)]) X T ?kd ?ko ?kc ?kb ?kl ?_ ?c1 ?c2 ?c3 ?c4
  walk_at "m enterK"
  intro L h₁ F N
  k_steps
  all_goals (refine hret _ _ _ (Fr.keep (by assumption)) ?_; first | (exfalso; omega) | exact ⟨_, congrArg (Value.str · _) (caret_eq _)⟩)
end
def caret (f : Int) : Str := ⟨#[94, (f + 64).toNat]⟩
def shownOf (fs : List Int) : Str := Txt.join (Str.ofString "") (fs.map caret)
section
variable {M : Model} {A : Around} {E : Value → Shared → Prop} {s : Shared} {C : Addr} {env : Env} {scope : Scope} {x : Str} {pos : Pos} {v : Value} {m : Str → Option Value} {Q : Value → Shared → Prop}
theorem nameC (hn : s.heap.Ns C m) (hv : m x = some v) (h : Q v s) (hk : scope.kind = .function) (hx : (compEnv scope C env).kindOf x = some .local) (hd : (x == ("__debug__" : Str)) = false := by decide) :
    wpAny M A (eval (.Name x pos) (compEnv scope C env)) Q E s := wpAny_Name (wpAny_loadName_local hk hx hn hv h) hd
end
theorem kw28 : True := by (k_with "eval Name" => ((k_dflt (refine' nameC ?cN ?cv ?_ ?ck ?cx; (case ck => rfl); (case cx => rfl); (case cN => assumption); (case cv => assumption))))); trivial
theorem kw29 : True := by (k_with "eval Name" => ((k_dflt (refine' nameG_K ?cF ?cX ?cT ?ce ?_ ?cg ?ck ?cx ?cd; (case cg => rfl); (case ck => rfl); (case cx => rfl); (case cd => decide); (case cF => assumption); (case cX => assumption); (case cT => exact topRead_of (by assumption)); (case ce => k_is))))); trivial
def CaretOf (v y : Value) : Prop := ∃ f tf ty, v = .int f tf ∧ y = .str (caret f) ty
theorem paired_carets : ∀ {us : List Value} {fs : List Int} {ys : List Value}, IntsAre us fs → Paired CaretOf us ys → StrsAre ys (fs.map caret)
  | _, _, _, .nil, .nil => .nil
  | _, _, _, .cons n t h, .cons ⟨f, tf, ty, e1, e2⟩ p => by
    cases e1; subst e2
    exact .cons _ _ (paired_carets h p)
theorem carets_len (fs : List Int) : ((fs.map caret).map (·.length)).sum + (fs.map caret).length * (Str.ofString "").length = 2 * fs.length := by
  rw [show (Str.ofString "").length = 0 from by decide +kernel, Nat.mul_zero, Nat.add_zero]
  induction fs with
  | nil => rfl
  | cons f r ih => simp only [List.map_cons, List.sum_cons, ih, List.length_cons]; rw [show (caret f).length = 2 from rfl]; omega
theorem rev_of {vs us : List Value} (hl : us.length = vs.length) (h : ∀ j v, us[j]? = some v → vs[vs.length - 1 - j]? = some v) : us = vs.reverse := by
  apply List.ext_getElem?
  intro j
  by_cases hj : j < us.length
  · have e1 := h j us[j] (List.getElem?_eq_getElem hj)
    rw [List.getElem?_reverse (by omega), e1, List.getElem?_eq_getElem hj]
  · rw [List.getElem?_eq_none (by omega), List.getElem?_eq_none (by rw [List.length_reverse]; omega)]
section
variable {w : World} {loose : List Str} {mean : ExcName → Option Value} {mg mb : Str → Option Value} {g₀ : Heap}
local macro_rules | `(tactic| walk_at "eval ListComp") => `(tactic| (k_dflt (refine barrier ?_)))
theorem law_shown (x : Int) (t : Tok) (fs : List Int) : Fn w loose mean mg mb g₀ 136 [.int x t] 260 (fun _ => 0 ≤ x ∧ x < 2 ^ 200 ∧ (i2d 5 ((Builtin.Int.intBits x + 5 - 1) / 5) x).reverse = fs ∧ ∀ f ∈ fs, 1 ≤ f ∧ f ≤ 26)
    (fun v tl => tl = [] ∧ ∃ t, v = .str (shownOf fs) t) := by
  intro A s Q E I hh hdp hun hpre hret
  obtain ⟨hp1, hp2, hp3, hp4⟩ := hpre
  have hX : (hd.heap_39 w.params).In s.heap ∧ (Challenge.rw_pg0144_01 = Challenge.rw_pg0144_01) := by k_fill; exact ⟨I.X, rfl⟩
  refine' enter (binds := [("number", .int x t)]) I ?kd ?ko ?kc ?kb ?kl ?_ ?c1 ?c2 ?c3 ?c4
  walk_at "m enter"
  intro g tb L h₁ D B F N keep sub
  have X := D.X
  have T := D.T
  have R := Ret.mk hret D keep
  clear I hret hX sub keep
  (try dsimp only); k_steps
  refine wpAny_ListComp_walk (fun _ => true) CaretOf (by decide) (by decide) rfl (by decide) rfl ?_
  (try dsimp only); k_steps
  refine useQ [] (int2digits x 5 _ _) D B F N (fun _ h => nomatch h) (fun p hp => hp) (fun _ h => nomatch h) hh (roomD hdp (by decide)) (roomU hun (by decide)) ⟨hp1, hp2, by decide, by decide⟩ ?_
  intro v tl tb' h3 tk3 B3 F3 N3 hne hid3 po
  obtain ⟨al, vs, ea, rfl, rfl, hvs⟩ := po
  simp only [List.nil_append, List.cons_append] at N3
  clear F N B hne hid3
  (try dsimp only); k_steps
  rename_i D5 h6 F6 N6 lt6
  refine wpAny_pyIter_revIter ⟨_, (N6 _ (.head _)).1, rfl, rfl⟩ ?_
  have nal : al ≠ D5 := Nat.ne_of_lt lt6.1
  have hlen : vs.length ≤ 300 := by
    rw [hvs.length, i2d_len]
    have := intBits_small hp1 hp2
    omega
  refine ⟨D5, _, [D5], _, _, _, rfl, Walks.listRev (A := A.deeper _) hh D5 al nal vs.toArray, ?_, ?_, ?_, ⟨?_, ?_⟩, ?_⟩
  · rw [List.size_toArray, sizeLine_eq]; omega
  · refine ⟨Nat.zero_le _, ?_, ⟨_, (N6 _ (.tail _ (.head _))).1, rfl, _, rfl⟩⟩
    rw [List.size_toArray]
    exact ⟨_, (N6 _ (.head _)).1, rfl, by simp [revObj]⟩
  · intro b hb
    rcases List.mem_cons.mp hb with rfl | hb
    · exact Heap.lt_size (N6 _ (.head _)).1
    · rw [List.mem_singleton.mp hb]; exact Heap.lt_size (N6 _ (.tail _ (.head _))).1
  · intro C i v s₃ m₃ E' hv hn hm hk htk
    exact wpAny_pure ⟨rfl, _, _, rfl, fun _ _ e => e⟩
  · intro C i v s₃ m₃ E' hv _ hn hm hk htk
    obtain ⟨f, tf, rfl, hf⟩ := hvs.at _ _ (by simpa using hv)
    have hfr := hp4 f (by rw [← hp3]; exact List.mem_reverse.mpr (List.mem_of_getElem? hf))
    have F8 : Fr g L s₃.heap _ := ⟨F6.ns.at' fun o e => hk _ _ (fun q => (N6 _ (.head _)).2.1 (List.mem_singleton.mp q).symm) e, fun b o e => hk _ _ (fun q => by have := (N6 _ (.head _)).2.2; rw [← List.mem_singleton.mp q, e] at this; cases this) (F6.keep b o e), F6.above⟩
    clear F6 N6
    (try dsimp only); k_steps
    exact unctrl_intK f tf hfr.1 hfr.2 (A.deeper _) s₃ _ _ (X.keeps F8.keep) (T.keeps F8.keep) hh (roomD hdp (by decide)) (roomU hun (by decide)) fun v h' tk' k ⟨ty, e⟩ => ⟨⟨f, tf, ty, rfl, e⟩, h', tk', rfl, k⟩
  · intro Dn h7 tk7 ys us hDn hl7 hpl7 hul hP hpair hk7
    rw [List.size_toArray] at hul hP
    obtain rfl := rev_of hul fun j v hj => by simpa using hP j v hj
    rw [show List.filter (fun _ => true) vs.reverse = vs.reverse from List.filter_eq_self.mpr fun _ _ => rfl] at hpair
    have hiv := hvs.reverse
    rw [hp3] at hiv
    have hss := paired_carets hiv hpair
    have hfl : fs.length ≤ 300 := by rw [← hiv.length, List.length_reverse]; exact hlen
    have F8 : Fr g L h7 _ := ⟨F6.ns.at' fun o e => hk7 _ _ (fun q => (N6 _ (.head _)).2.1 (List.mem_singleton.mp q).symm) e, fun b o e => hk7 _ _ (fun q => by have := (N6 _ (.head _)).2.2; rw [← List.mem_singleton.mp q, e] at this; cases this) (F6.keep b o e), F6.above⟩
    have N8 : News g L h7 tb' := fun p hp => by
      have z := N6 p (.tail _ (.tail _ hp))
      exact ⟨hk7 _ _ (fun q => absurd (List.mem_singleton.mp q) (tb_ne N6 (.tail _ (.tail _ hp)) (B3.h p hp) (show (D5, _) ∈ _ from .head _) (hid_rev _ _))) z.1, z.2⟩
    clear F6 N6
    (try dsimp only); k_steps
    refine join_list hl7 hss (by rw [carets_len]; omega) ?_
    intro t9 k9
    exact doneP R B3 F8 N8 (fun p hp => hp) ⟨t9, rfl⟩ rfl
end
def LetterOf (v y : Value) : Prop := ∃ n tv ty, v = .str ⟨#[n]⟩ tv ∧ y = .str (Str.ofString "^" ++ ⟨#[n]⟩) ty
theorem word_ascii {fs : List Nat} (h : ∀ f ∈ fs, f < 64) : (wordOf fs).cps.all (· < 128) = true := by
  unfold wordOf
  rw [List.all_toArray, List.all_eq_true]
  intro n hn
  obtain ⟨f, hf, rfl⟩ := List.mem_map.mp hn
  have := h f hf
  simpa using (by omega : f + 64 < 128)
theorem word_cps {fs : List Nat} {i c : Nat} (h : (wordOf fs).cps[i]? = some c) : ∃ f, fs[i]? = some f ∧ c = f + 64 := by
  unfold wordOf at h
  rw [List.getElem?_toArray, List.getElem?_map] at h
  obtain ⟨f, hf, e⟩ := Option.map_eq_some_iff.mp h
  exact ⟨f, hf, e.symm⟩
theorem caret_of (f : Nat) : Str.ofString "^" ++ (⟨#[f + 64]⟩ : Str) = caret (f : Int) := by
  rw [show Str.ofString "^" = ⟨#[94]⟩ by decide +kernel, caret, show (((f : Nat) : Int) + 64).toNat = f + 64 by omega]; rfl
theorem paired_letters : ∀ {us : List Value} {fs : List Nat} {ys : List Value}, us.length = fs.length → (∀ j v, us[j]? = some v → SignAt (wordOf fs) j v) → Paired LetterOf us ys → StrsAre ys ((fs.map fun f : Nat => (f : Int)).map caret)
  | _, [], _, hl, _, p => by
    cases p with
    | nil => exact .nil
    | cons _ _ => cases hl
  | _, f :: r, _, hl, h, p => by
    cases p with
    | nil => cases hl
    | cons hd tl =>
      rename_i a b us ys
      obtain ⟨n, tv, ty, e1, e2⟩ := hd
      obtain ⟨c, u, hc, e3⟩ := h 0 a rfl
      obtain ⟨f', hf', e4⟩ := word_cps hc
      have hff : f' = f := by simpa using hf'.symm
      subst hff e4 e2
      rw [e1] at e3
      cases e3
      rw [caret_of]
      refine .cons _ _ (paired_letters (by simpa using hl) (fun j v hj => ?_) tl)
      obtain ⟨c, u, hc, e⟩ := h (j + 1) v (by simpa using hj)
      exact ⟨c, u, by simpa [wordOf] using hc, e⟩
theorem hid_strIter {h : Heap} {I : Addr} {ty : String} {x : Str} {t : Tok} {i : Nat} (y : h.IsStrIter I ty x t i) : ∃ o, h.get? I = some o ∧ hid o = false := by
  obtain ⟨o, e, hc, hd⟩ := y
  exact ⟨o, e, by simp [hid, hc, hd]⟩
section
variable {w : World} {loose : List Str} {mean : ExcName → Option Value} {mg mb : Str → Option Value} {g₀ : Heap}
local macro_rules | `(tactic| walk_at "eval ListComp") => `(tactic| (k_dflt (refine barrier ?_)))
theorem law_carets (fs : List Nat) (t : Tok) : Fn w loose mean mg mb g₀ 141 [.str (wordOf fs) t] 3 (fun _ => (∀ f ∈ fs, f < 64) ∧ fs.length ≤ 300)
    (fun v tl => tl = [] ∧ ∃ t, v = .str (shownOf (fs.map fun f : Nat => (f : Int))) t) := by
  intro A s Q E I hh hdp hun hpre hret
  obtain ⟨hp1, hp2⟩ := hpre
  have hX : (hd.heap_39 w.params).In s.heap ∧ (Challenge.rw_pg0144_01 = Challenge.rw_pg0144_01) := by k_fill; exact ⟨I.X, rfl⟩
  refine' enter (binds := [("word", .str (wordOf fs) t)]) I ?kd ?ko ?kc ?kb ?kl ?_ ?c1 ?c2 ?c3 ?c4
  walk_at "m enter"
  intro g tb L h₁ D B F N keep sub
  have X := D.X
  have T := D.T
  have R := Ret.mk hret D keep
  clear I hret hX sub keep
  (try dsimp only); k_steps
  refine wpAny_ListComp_walk (fun _ => true) LetterOf (by decide) (by decide) rfl (by decide) rfl ?_
  (try dsimp only); k_steps
  refine wpAny_pyIter_ascii (word_ascii hp1) ?_
  have hIL : L ≠ h₁.objs.size := Nat.ne_of_lt F.ns.lt
  have hcps : (wordOf fs).cps.size = fs.length := by simp [wordOf]
  have keepF : ∀ h', (∀ b o, b ∉ [h₁.objs.size] → (h₁.push { cls := .type "str_ascii_iterator", data := .fields #[.str (wordOf fs) t, .int 0 0] }).get? b = some o → h'.get? b = some o) → Fr g L h' _ ∧ News g L h' tb := fun h' hk =>
    ⟨⟨F.ns.at' fun o e => hk _ _ (fun q => hIL (List.mem_singleton.mp q)) (Heap.get?_push_of_some _ e), fun b o e => hk _ _ (fun q => by
      have := Heap.lt_size (F.keep b o e); rw [List.mem_singleton.mp q] at this; exact absurd this (Nat.lt_irrefl _)) (Heap.get?_push_of_some _ (F.keep b o e)), F.above⟩,
     fun p hp => ⟨hk _ _ (fun q => by have := Heap.lt_size (N p hp).1; rw [List.mem_singleton.mp q] at this; exact absurd this (Nat.lt_irrefl _)) (Heap.get?_push_of_some _ (N p hp).1), (N p hp).2⟩⟩
  refine ⟨h₁.objs.size, _, [h₁.objs.size], _, _, _, rfl, Walks.strAscii (A := A.deeper _) hh h₁.objs.size (wordOf fs) t, ?_, ⟨_, Heap.get?_push_size _ rfl, rfl, rfl⟩, ?_, ⟨?_, ?_⟩, ?_⟩
  · rw [hcps, sizeLine_eq]; omega
  · intro b hb
    rw [List.mem_singleton.mp hb]
    exact Heap.lt_size (Heap.get?_push_size _ rfl)
  · intro C i v s₃ m₃ E' hv hn hm hk htk
    exact wpAny_pure ⟨rfl, _, _, rfl, fun _ _ e => e⟩
  · intro C i v s₃ m₃ E' hv _ hn hm hk htk
    obtain ⟨c, u, hc, rfl⟩ := hv
    obtain ⟨F8, N8⟩ := keepF _ hk
    have hadd : Str.ofString "^" ++ (⟨#[c]⟩ : Str) = Str.ofString "^" ++ ⟨#[c]⟩ := rfl
    have hz1 : (Str.ofString "^").length = 1 := by decide +kernel
    have hz2 : (⟨#[c]⟩ : Str).length = 1 := rfl
    clear keepF F N
    (try dsimp only); k_steps
    · exact ⟨c, u, _, rfl, rfl⟩
    · exact ⟨_, _, rfl, fun _ _ e => e⟩
  · intro Dn h7 tk7 ys us hDn hl7 hpl7 hul hP hpair hk7
    rw [hcps] at hul
    rw [show List.filter (fun _ => true) us = us from List.filter_eq_self.mpr fun _ _ => rfl] at hpair
    have hss := paired_letters hul hP hpair
    obtain ⟨F8, N8⟩ := keepF _ hk7
    clear keepF F N
    (try dsimp only); k_steps
    refine join_list hl7 hss (by rw [carets_len, List.length_map]; omega) ?_
    intro t9 k9
    exact doneP R B F8 N8 (fun p hp => hp) ⟨t9, rfl⟩ rfl
end
/-- a while's turn: back to what holds, the measure less -/
def WTurnOk (g : Heap) (L : Addr) (s : Shared) (J : Nat → (Str → Option Value) → List (Addr × Obj) → Prop) (k : Nat) (f : Flow) (s₃ : Shared) : Prop :=
  f = .next ∧ ∃ k' h' tk' m' rest' tb', k' < k ∧ s₃ = { s with heap := h', toks := tk' } ∧ Tb tb' ∧ Fr g L h' m' ∧ News g L h' (rest' ++ tb') ∧ J k' m' rest'
/-- the test's answer: true leads into the body, false out -/
def WTest (w : World) (A : Around) (env : Env) (body : List Stmt) (g : Heap) (L : Addr) (s : Shared) (R : Result → Shared → Prop) (J : Nat → (Str → Option Value) → List (Addr × Obj) → Prop) (k : Nat) (b : Bool) (s₂ : Shared) : Prop :=
  if b then wpAny (model Challenge.rw_pg0144_01.row.prog w) A (execs body env) (WTurnOk g L s J k) (fun _ _ => False) s₂ else R (.ok .next) s₂
theorem wtest_true {w : World} {A : Around} {env : Env} {body : List Stmt} {g : Heap} {L : Addr} {s s₂ : Shared} {R : Result → Shared → Prop} {J : Nat → (Str → Option Value) → List (Addr × Obj) → Prop} {k : Nat} (h : wpAny (model Challenge.rw_pg0144_01.row.prog w) A (execs body env) (WTurnOk g L s J k) (fun _ _ => False) s₂) :
    WTest w A env body g L s R J k true s₂ := h
theorem wtest_false {w : World} {A : Around} {env : Env} {body : List Stmt} {g : Heap} {L : Addr} {s s₂ : Shared} {R : Result → Shared → Prop} {J : Nat → (Str → Option Value) → List (Addr × Obj) → Prop} {k : Nat} (h : R (.ok .next) s₂) :
    WTest w A env body g L s R J k false s₂ := h
theorem while_m {w : World} {A : Around} {s : Shared} {R : Result → Shared → Prop} {test : Expr} {body : List Stmt} {env : Env} {g : Heap} {L : Addr} {n : Nat} {m : Str → Option Value} {rest tb : List (Addr × Obj)}
    (J : Nat → (Str → Option Value) → List (Addr × Obj) → Prop) (B : Tb tb) (F : Fr g L s.heap m) (N : News g L s.heap (rest ++ tb)) (j0 : J n m rest)
    (turn : ∀ k m₁ rest₁ tb₁ h tk, J k m₁ rest₁ → Tb tb₁ → Fr g L h m₁ → News g L h (rest₁ ++ tb₁) →
      wpAny (model Challenge.rw_pg0144_01.row.prog w) A (isTrue test env (eval test env)) (WTest w A env body g L s R J k) (fun _ _ => False) { s with heap := h, toks := tk }) :
    codeAny (model Challenge.rw_pg0144_01.row.prog w) A (.whileLoop test body [] env) R s := by
  refine codeAny_whileLoop (fun k s' => ∃ h tk m₁ rest₁ tb₁, s' = { s with heap := h, toks := tk } ∧ Tb tb₁ ∧ Fr g L h m₁ ∧ News g L h (rest₁ ++ tb₁) ∧ J k m₁ rest₁) ?_ n ⟨s.heap, s.toks, m, rest, tb, rfl, B, F, N, j0⟩
  rintro k s' ⟨h, tk, m₁, rest₁, tb₁, rfl, B₁, F₁, N₁, j₁⟩
  refine wpAny_mono (turn k m₁ rest₁ tb₁ h tk j₁ B₁ F₁ N₁) (fun b s₂ h₂ => ?_) fun _ _ x => x.elim
  cases b with
  | false => exact wpAny_execs_nil h₂
  | true =>
    refine wpAny_mono (show wpAny _ A (execs body env) (WTurnOk g L s J k) (fun _ _ => False) s₂ from h₂) (fun f s₃ h₃ => ?_) fun _ _ x => x.elim
    obtain ⟨rfl, k', h', tk', m', rest', tb', hk, rfl, B', F', N', j'⟩ := h₃
    exact ⟨k', hk, h', tk', m', rest', tb', rfl, B', F', N', j'⟩
/-- a list of pairs, as the ledger bears it -/
inductive RowIs (news : List (Addr × Obj)) : List Value → List (Int × Nat) → Prop
  | nil : RowIs news [] []
  | cons {a : Addr} {y : Int} {v : Nat} {ty tv : Tok} {vs : List Value} {st : List (Int × Nat)} : (a, tupO [.int y ty, .int v tv]) ∈ news → RowIs news vs st → RowIs news (.ref a :: vs) ((y, v) :: st)
theorem RowIs.mono {news news' : List (Addr × Obj)} (hs : ∀ p ∈ news, p ∈ news') : ∀ {vs : List Value} {st : List (Int × Nat)}, RowIs news vs st → RowIs news' vs st
  | _, _, .nil => .nil
  | _, _, .cons h r => .cons (hs _ h) (r.mono hs)
theorem RowIs.len {news : List (Addr × Obj)} : ∀ {vs : List Value} {st : List (Int × Nat)}, RowIs news vs st → vs.length = st.length
  | _, _, .nil => rfl
  | _, _, .cons _ r => by simp [r.len]
theorem RowIs.append {news : List (Addr × Obj)} : ∀ {vs ws : List Value} {st su : List (Int × Nat)}, RowIs news vs st → RowIs news ws su → RowIs news (vs ++ ws) (st ++ su)
  | _, _, _, _, .nil, h => h
  | _, _, _, _, .cons hm r, h => .cons hm (r.append h)
theorem RowIs.last {news : List (Addr × Obj)} {y : Int} {v : Nat} : ∀ {vs : List Value} {st : List (Int × Nat)}, RowIs news vs (st ++ [(y, v)]) → ∃ ws a ty tv, vs = ws ++ [.ref a] ∧ RowIs news ws st ∧ (a, tupO [.int y ty, .int v tv]) ∈ news
  | _, [], h => by
    cases h with
    | cons hm r => cases r with | nil => exact ⟨[], _, _, _, rfl, .nil, hm⟩
  | _, p :: st, h => by
    cases h with
    | cons hm r =>
      obtain ⟨ws, a, ty, tv, rfl, h1, h2⟩ := r.last
      exact ⟨_ :: ws, a, ty, tv, rfl, .cons hm h1, h2⟩
section
variable {w : World} {loose : List Str} {mean : ExcName → Option Value} {mg mb : Str → Option Value} {g₀ : Heap} {f : Addr} {args : List Value} {d : Nat} {Pre : Heap → Prop} {A : Around} {s : Shared} {Q E : Value → Shared → Prop} {g : Heap} {L : Addr} {m : Str → Option Value} {tb news : List (Addr × Obj)}
/-- a contract that gives a text, used -/
theorem useS {x : Str} (rest : List (Addr × Obj)) (C : Fn w loose mean mg mb g₀ f args d Pre (fun v tl => tl = [] ∧ ∃ t, v = .str x t)) (D : Gd w loose mean mg mb g₀ g) (B : Tb tb) (F : Fr g L s.heap m) (N : News g L s.heap news) (hs : ∀ p ∈ rest, p ∈ news) (hb : ∀ p ∈ tb, p ∈ news) (hr : ∀ p ∈ rest, hid p.2 = false)
    (hh : A.handled = none) (hd : A.depth + d < recursionLimit) (hu : A.units + 8 * d < cLine) (hp : Pre s.heap)
    (h : ∀ t tb' h' tk', Tb tb' → Fr g L h' m → News g L h' (rest ++ tb') → Q (.str x t) { s with heap := h', toks := tk' }) : wpAny (model Challenge.rw_pg0144_01.row.prog w) A (call (.ref f) args) Q E s :=
  useQ rest C D B F N hs hb hr hh hd hu hp fun v tl tb' h' tk' B' F' N' _ _ po => by
    obtain ⟨rfl, t, rfl⟩ := po
    exact h t tb' h' tk' B' F' N'
/-- a contract that gives a pair of numbers, used -/
theorem useD {p q p' q' : Int} (rest : List (Addr × Obj)) (C : Fn w loose mean mg mb g₀ f args d Pre (fun v tl => ∃ x t1 t2, v = .ref x ∧ tl = [(x, tupO [.int p t1, .int q t2])])) (D : Gd w loose mean mg mb g₀ g) (B : Tb tb) (F : Fr g L s.heap m) (N : News g L s.heap news) (hs : ∀ p ∈ rest, p ∈ news) (hb : ∀ p ∈ tb, p ∈ news) (hr : ∀ p ∈ rest, hid p.2 = false)
    (hh : A.handled = none) (hd : A.depth + d < recursionLimit) (hu : A.units + 8 * d < cLine) (hp : Pre s.heap) (ep : p = p' ∧ q = q')
    (h : ∀ x t1 t2 tb' h' tk', Tb tb' → Fr g L h' m → News g L h' ((x, tupO [.int p' t1, .int q' t2]) :: (rest ++ tb')) → (∀ r ∈ rest, r.1 ≠ x) → Q (.ref x) { s with heap := h', toks := tk' }) : wpAny (model Challenge.rw_pg0144_01.row.prog w) A (call (.ref f) args) Q E s :=
  useQ rest C D B F N hs hb hr hh hd hu hp fun v tl tb' h' tk' B' F' N' ne _ po => by
    obtain ⟨x, t1, t2, rfl, rfl⟩ := po
    obtain ⟨rfl, rfl⟩ := ep
    exact h x t1 t2 tb' h' tk' B' F' N' (ne _ (.head _))
end
/-- one more piece, joined to those ahead of it as long as they are less (the newest first) -/
def merge : List (Int × Nat) → Int → Nat → List (Int × Nat)
  | [], x, w => [(x, w)]
  | (y, v) :: r, x, w => if (y * (32 ^ w - 1)) / (x * (32 ^ v - 1)) = 0 then merge r (x + 32 ^ w * y) (w + v) else (x, w) :: (y, v) :: r
def pieces (fs : List Nat) : List (Int × Nat) := fs.foldl (fun st (f : Nat) => merge st (f : Int) 1) []
def wsum (st : List (Int × Nat)) : Nat := (st.map (·.2)).sum
/-- each piece is a number of as many figures as its width says -/
def PiecesOk (st : List (Int × Nat)) : Prop := ∀ p ∈ st, 1 ≤ p.2 ∧ 1 ≤ p.1 ∧ p.1 < 32 ^ p.2
theorem p32_pos (k : Nat) : (0 : Int) < 32 ^ k := Int.pow_pos (by decide)
theorem p32_two (k : Nat) : (32 : Int) ^ k = 2 ^ (5 * k) := by rw [Int.pow_mul]; rfl
theorem p32_mono {a b : Nat} (h : a ≤ b) : (32 : Int) ^ a ≤ 32 ^ b := by rw [p32_two, p32_two]; exact two_mono (by omega)
theorem p32_ge {k : Nat} (h : 1 ≤ k) : (32 : Int) ≤ 32 ^ k := p32_mono h
theorem join_ok {x y : Int} {w v : Nat} (hx0 : 1 ≤ x) (hx1 : x < 32 ^ w) (hy0 : 1 ≤ y) (hy1 : y < 32 ^ v) : 1 ≤ x + 32 ^ w * y ∧ x + 32 ^ w * y < 32 ^ (w + v) := by
  have p := p32_pos w
  have h1 : (32 : Int) ^ w * y ≤ 32 ^ w * (32 ^ v - 1) := Int.mul_le_mul_of_nonneg_left (by omega) (Int.le_of_lt p)
  have h0 : 0 ≤ (32 : Int) ^ w * y := Int.mul_nonneg (Int.le_of_lt p) (by omega)
  rw [Int.mul_sub, Int.mul_one, ← Int.pow_add] at h1
  omega
theorem merge_ok : ∀ (st : List (Int × Nat)) (x : Int) (w : Nat), PiecesOk st → 1 ≤ w → 1 ≤ x → x < 32 ^ w → PiecesOk (merge st x w) ∧ wsum (merge st x w) = wsum st + w
  | [], x, w, _, hw, hx0, hx1 => by
    refine ⟨fun p hp => ?_, by simp [merge, wsum]⟩
    rw [List.mem_singleton.mp hp]; exact ⟨hw, hx0, hx1⟩
  | (y, v) :: r, x, w, ok, hw, hx0, hx1 => by
    have hy := ok (y, v) (.head _)
    have okr : PiecesOk r := fun p hp => ok p (.tail _ hp)
    unfold merge
    split
    · have j := join_ok hx0 hx1 hy.2.1 hy.2.2
      have ih := merge_ok r (x + 32 ^ w * y) (w + v) okr (by omega) j.1 j.2
      refine ⟨ih.1, ?_⟩
      rw [ih.2]; simp [wsum]; omega
    · refine ⟨fun p hp => ?_, by simp [wsum]; omega⟩
      rcases List.mem_cons.mp hp with rfl | hp
      · exact ⟨hw, hx0, hx1⟩
      · exact ok p hp
theorem pieces_snoc (fs : List Nat) (f : Nat) : pieces (fs ++ [f]) = merge (pieces fs) f 1 := by simp [pieces, List.foldl_append]
theorem pieces_ok_aux : ∀ (fs : List Nat) (st : List (Int × Nat)), (∀ f ∈ fs, 1 ≤ f ∧ f ≤ 26) → PiecesOk st → PiecesOk (fs.foldl (fun st (f : Nat) => merge st (f : Int) 1) st) ∧ wsum (fs.foldl (fun st (f : Nat) => merge st (f : Int) 1) st) = wsum st + fs.length
  | [], st, _, ok => ⟨ok, by simp⟩
  | f :: r, st, h, ok => by
    have hf := h f (.head _)
    have m := merge_ok st f 1 ok (Nat.le_refl _) (by omega) (by have : (32 : Int) ^ 1 = 32 := rfl; omega)
    have ih := pieces_ok_aux r (merge st f 1) (fun g hg => h g (.tail _ hg)) m.1
    rw [List.foldl_cons]
    exact ⟨ih.1, by rw [ih.2, m.2, List.length_cons]; omega⟩
theorem pieces_ok (fs : List Nat) (h : ∀ f ∈ fs, 1 ≤ f ∧ f ≤ 26) : PiecesOk (pieces fs) ∧ wsum (pieces fs) = fs.length := by
  have := pieces_ok_aux fs [] h (fun _ h => nomatch h)
  exact ⟨this.1, by rw [pieces, this.2]; simp [wsum]⟩
theorem d2i_pair (w : Nat) (x y : Int) : d2i (5 * w) [x, y] = x + 32 ^ w * y := by
  simp only [d2i, Int.mul_zero, Int.add_zero, p32_two]
/-- the sizes of a comparison -/
theorem cmp_sizes {x y : Int} {w v : Nat} (hw : 1 ≤ w) (hv : 1 ≤ v) (hx0 : 1 ≤ x) (hx1 : x < 32 ^ w) (hy0 : 1 ≤ y) (hy1 : y < 32 ^ v) (hs : w + v ≤ 8) :
    0 ≤ y * (32 ^ w - 1) ∧ y * (32 ^ w - 1) < 2 ^ 200 ∧ 0 < x * (32 ^ v - 1) ∧ x * (32 ^ v - 1) < 2 ^ 200 := by
  have a1 := p32_ge hw
  have a2 := p32_ge hv
  have b : (32 : Int) ^ v * 32 ^ w ≤ 2 ^ 40 := by rw [← Int.pow_add, p32_two]; exact two_mono (by omega)
  have c1 : y * (32 ^ w - 1) ≤ 32 ^ v * 32 ^ w := Int.mul_le_mul (by omega) (by omega) (by omega) (by omega)
  have c2 : x * (32 ^ v - 1) ≤ 32 ^ w * 32 ^ v := Int.mul_le_mul (by omega) (by omega) (by omega) (by omega)
  rw [Int.mul_comm (32 ^ w)] at c2
  refine ⟨Int.mul_nonneg (by omega) (by omega), by omega, Int.mul_pos (by omega) (by omega), by omega⟩
section
variable {prog : Program} {w : World} {A : Around} {E : Value → Shared → Prop} {s : Shared} {g : Heap} {L D l a : Addr} {m : Str → Option Value} {news : List (Addr × Obj)} {value slice : Expr} {u t : Tok} {Q : Value → Shared → Prop}
theorem tup_item0 {v0 v1 : Value} (N : News g L s.heap news) (hm : (a, tupO [v0, v1]) ∈ news) (h : Q v0 s) (hs : subscripted slice false (.ref a) (.int 0 u) = operate [.ref a, .int 0 u] (getItem (.ref a) (.int 0 u))) :
    wpAny (model prog w) A (subscriptTail value slice (.ref a) (.int 0 u)) Q E s := item_tupleT (l := [v0, v1]) ⟨_, (N _ hm).1, rfl, _, rfl⟩ (by decide) (by decide) rfl rfl h hs
theorem tup_item1 {v0 v1 : Value} (N : News g L s.heap news) (hm : (a, tupO [v0, v1]) ∈ news) (h : Q v1 s) (hs : subscripted slice false (.ref a) (.int 1 u) = operate [.ref a, .int 1 u] (getItem (.ref a) (.int 1 u))) :
    wpAny (model prog w) A (subscriptTail value slice (.ref a) (.int 1 u)) Q E s := item_tupleT (l := [v0, v1]) ⟨_, (N _ hm).1, rfl, _, rfl⟩ (by decide) (by decide) rfl rfl h hs
theorem last_item {ws : List Value} {x : Value} {n : Nat} (N : News g L s.heap news) (hm : (l, listOf (ws ++ [x]).toArray n) ∈ news) (hz : ws.length ≤ 1000) (h : Q x s) (hs : subscripted slice false (.ref l) (.int (-1) u) = operate [.ref l, .int (-1) u] (getItem (.ref l) (.int (-1) u))) :
    wpAny (model prog w) A (subscriptTail value slice (.ref l) (.int (-1) u)) Q E s := by
  have hl : s.heap.IsList l (ws ++ [x]).toArray := ⟨_, (N _ hm).1, rfl, _, rfl⟩
  refine tail_any hl.typeIs slot_list_getitem.lookup (wpAny_getItem_list_neg hl (by decide) (by simp; omega) (by decide) ?_ h) hs
  have e : ((-1 : Int) + ((ws ++ [x]).toArray.size : Int)).toNat = ws.length := by simp; omega
  rw [e]; simp
theorem ne_nil_true {vs : List Value} {n k : Nat} (N : News g L s.heap news) (hm : (l, listOf vs.toArray n) ∈ news) (hb : (D, listOf #[] k) ∈ news) (hv : vs ≠ []) (hu : A.units < cLine) (h : Q (.bool true) s) : wpAny (model prog w) A (compareOp .NotEq (.ref l) (.ref D)) Q E s :=
  cmp_ofNotEq (PySem.SeqAt.RcNeAt.lists_lengths (items := vs.toArray) (items2 := #[]) ⟨_, (N _ hm).1, rfl, _, rfl⟩ ⟨_, (N _ hb).1, rfl, _, rfl⟩ (by simp; exact hv) hu prog w E Q h)
theorem ne_nil_false {n k : Nat} (N : News g L s.heap news) (hm : (l, listOf [].toArray n) ∈ news) (hb : (D, listOf #[] k) ∈ news) (hu : A.units < cLine) (h : Q (.bool false) s) : wpAny (model prog w) A (compareOp .NotEq (.ref l) (.ref D)) Q E s :=
  cmp_ofNotEq (PySem.SeqAt.RcNeAt.lists (items := #[]) (items2 := #[]) (e := fun _ => true) ⟨_, (N _ hm).1, rfl, _, rfl⟩ ⟨_, (N _ hb).1, rfl, _, rfl⟩ rfl hu (fun j h1 => absurd h1 (Nat.not_lt_zero _)) prog w E Q h)
theorem pow_E {b n r : Int} (e : b ^ n.toNat = r) (hn : 0 ≤ n) (hn2 : n ≤ 1000000) (ha : b.natAbs < 2 ^ 64) (h : Q (.int r s.toks) { s with toks := s.toks + 1 }) : wpAny (model prog w) A (binaryOp .Pow (.int b t) (.int n u)) Q E s := pow_int_small hn hn2 ha (e ▸ h)
theorem kl_last_snoc (ws : List Value) (x : Value) : kl_last (ws ++ [x]) = some (ws, x) := by
  induction ws with
  | nil => rfl
  | cons a r ih => simp only [List.cons_append, kl_last, ih]
theorem pop_m {ws : List Value} {x : Value} {n : Nat} (rest : List (Addr × Obj)) (F : Fr g L s.heap m) (N : News g L s.heap news) (hm : (D, listOf (ws ++ [x]).toArray n) ∈ news) (hs : ∀ p ∈ rest, p ∈ news) (hne : ∀ p ∈ rest, p.1 ≠ D) (hz : ws.length ≤ 1000)
    (h : ∀ h', Fr g L h' m → News g L h' ((D, listOf ws.toArray (n + 1)) :: rest) → Q x { s with heap := h' }) : wpAny (model prog w) A (call (.builtin "list.pop") [.ref D]) Q E s :=
  kl_pop F (fun p hp => N p ((List.mem_cons.mp hp).elim (fun e => e ▸ hm) (hs p))) (p := ws) (y := x) (by rw [List.toList_toArray, kl_last_snoc]) (Upd.head hne) (by rw [List.toList_toArray, sizeLine_eq]; simp; omega) h
end
local macro_rules | `(tactic| walk_at "m mem") => `(tactic| first | exact List.Mem.head _ | exact List.mem_append_left _ (by assumption) | (refine List.Mem.tail _ ?_; walk_at "m mem") | assumption)
theorem kw30 : True := by (k_with "subscriptTail" => (((with_reducible show wpAny _ _ (subscriptTail _ _ (Value.ref _) (Value.int 0 _)) _ _ _); k_dflt (refine' tup_item0 (by assumption) (by walk_at "m mem") ?_ (by with_unfolding_all rfl))))); trivial
theorem kw31 : True := by (k_with "subscriptTail" => (((with_reducible show wpAny _ _ (subscriptTail _ _ (Value.ref _) (Value.int 1 _)) _ _ _); k_dflt (refine' tup_item1 (by assumption) (by walk_at "m mem") ?_ (by with_unfolding_all rfl))))); trivial
theorem kw32 : True := by (k_with "subscriptTail" => (((with_reducible show wpAny _ _ (subscriptTail _ _ (Value.ref _) (Value.int (-1) _)) _ _ _); k_dflt (refine' last_item (by assumption) (by walk_at "m mem") (by omega) ?_ (by with_unfolding_all rfl))))); trivial
theorem kw33 : True := by (k_with "compareOp NotEq ref ref" => ((k_dflt (first | (refine' ne_nil_true (by assumption) (by walk_at "m mem") (by walk_at "m mem") (by assumption) (by assumption) ?_) | (refine' ne_nil_false (by assumption) (by walk_at "m mem") (by walk_at "m mem") (by assumption) ?_))))); trivial
theorem kw34 : True := by (k_with "binaryOp Pow int int" => (with_reducible refine pow_E (by assumption) (by assumption) (by omega) (by decide) ?_)); trivial
local macro_rules | `(tactic| walk_at "m go") => `(tactic| ((try dsimp only); repeat' (first | (k_unfold; (try dsimp only)) | ((with_reducible show wpAny _ _ (exec _ _) _ _ _); k_fold; walk1) | (k_end; wrow_close) | walk1 | (dsimp only; walk1) | (leave1; try dsimp only))))
theorem PiecesOk.len : ∀ {st : List (Int × Nat)}, PiecesOk st → st.length ≤ wsum st
  | [], _ => Nat.zero_le _
  | q :: r, ok => by
    have := PiecesOk.len (st := r) fun p hp => ok p (.tail _ hp)
    have := (ok q (.head _)).1
    simp [wsum] at *; omega
/-- pairs alone -/
def TupsOk (tups : List (Addr × Obj)) : Prop := ∀ p ∈ tups, ∃ vs, p.2 = tupO vs
theorem TupsOk.hid {tups : List (Addr × Obj)} (h : TupsOk tups) : ∀ p ∈ tups, hid p.2 = false := fun p hp => by obtain ⟨vs, e⟩ := h p hp; rw [e]; rfl
theorem TupsOk.ne {tups news : List (Addr × Obj)} {g h : Heap} {L D : Addr} {o : Obj} (hT : TupsOk tups) (N : News g L h news) (hD : (D, o) ∈ news) (ho : o.cls ≠ .type "tuple") : ∀ p ∈ tups, p ∈ news → p.1 ≠ D := fun p hp hn e => by
  obtain ⟨vs, e2⟩ := hT p hp
  have e1 := (N p hn).1
  rw [e, (N _ hD).1, e2] at e1
  exact ho (congrArg Obj.cls (Option.some.inj e1))
/-- what holds in the while: a row (the newest first: st), a number and its width -/
def PSt (rl I : Addr) (io : Obj) (tp : List (Addr × Obj)) (st : List (Int × Nat)) (x : Int) (w : Nat) (m : Str → Option Value) (rest : List (Addr × Obj)) : Prop :=
  ∃ tx tw us e, m "row" = some (.ref rl) ∧ m "number" = some (.int x tx) ∧ m "width" = some (.int w tw) ∧ rest = (I, io) :: (rl, listOf us.toArray e) :: tp ∧ RowIs tp us st.reverse
/-- what holds between the turns: the pieces so far -/
def JP (rl : Addr) (fs : List Nat) (i : Nat) (m : Str → Option Value) (rest : List (Addr × Obj)) : Prop :=
  ∃ ws ep tups, m "row" = some (.ref rl) ∧ rest = (rl, listOf ws.toArray ep) :: tups ∧ TupsOk tups ∧ RowIs tups ws (pieces (fs.take i)).reverse
/-- what holds in the while -/
def JV (rl I : Addr) (io : Obj) (tp : List (Addr × Obj)) (T : List (Int × Nat)) (k : Nat) (m : Str → Option Value) (rest : List (Addr × Obj)) : Prop :=
  ∃ st x w, k = st.length ∧ PSt rl I io tp st x w m rest ∧ merge st x w = T ∧ PiecesOk st ∧ 1 ≤ w ∧ 1 ≤ x ∧ x < 32 ^ w ∧ wsum st + w ≤ 8
def WEnd (g : Heap) (L : Addr) (s : Shared) (rl I : Addr) (io : Obj) (tp : List (Addr × Obj)) (T : List (Int × Nat)) (r : Result) (s' : Shared) : Prop :=
  r = .ok .next ∧ ∃ h' tk' m' rest' tb' st x w, s' = { s with heap := h', toks := tk' } ∧ Tb tb' ∧ Fr g L h' m' ∧ News g L h' (rest' ++ tb') ∧ PSt rl I io tp st x w m' rest' ∧ (x, w) :: st = T
theorem while_to {w : World} {A : Around} {s : Shared} {R : Result → Shared → Prop} {test : Expr} {body : List Stmt} {env : Env} {g : Heap} {L : Addr} {n : Nat} {m : Str → Option Value} {rest tb : List (Addr × Obj)}
    (W : Shared → Result → Shared → Prop) (J : Nat → (Str → Option Value) → List (Addr × Obj) → Prop) (B : Tb tb) (F : Fr g L s.heap m) (N : News g L s.heap (rest ++ tb)) (j0 : J n m rest)
    (turn : ∀ k m₁ rest₁ tb₁ h tk, J k m₁ rest₁ → Tb tb₁ → Fr g L h m₁ → News g L h (rest₁ ++ tb₁) →
      wpAny (model Challenge.rw_pg0144_01.row.prog w) A (isTrue test env (eval test env)) (WTest w A env body g L s (W s) J k) (fun _ _ => False) { s with heap := h, toks := tk })
    (fin : ∀ r s', W s r s' → R r s') : codeAny (model Challenge.rw_pg0144_01.row.prog w) A (.whileLoop test body [] env) R s :=
  codeAny_mono (while_m (R := W s) J B F N j0 turn) fin
theorem kw35 : True := by (k_with "exec While" => ((k_dflt (refine wpAny_While ?_)))); trivial
section
variable {w : World} {loose : List Str} {mean : ExcName → Option Value} {mg mb : Str → Option Value} {g₀ : Heap}
theorem law_pieces (fl : Addr) (vs : List Value) (fs : List Nat) : Fn w loose mean mg mb g₀ 131 [.ref fl] 270 (fun h => h.IsList fl vs.toArray ∧ IntsAre vs (fs.map fun f : Nat => (f : Int)) ∧ fs.length ≤ 8 ∧ ∀ f ∈ fs, 1 ≤ f ∧ f ≤ 26)
    (fun v tl => ∃ x ws e tups, v = .ref x ∧ tl = (x, listOf ws.toArray e) :: tups ∧ TupsOk tups ∧ RowIs tups ws (pieces fs).reverse) := by
  intro A s Q E I hh hdp hun hpre hret
  obtain ⟨hp1, hp2, hp3, hp4⟩ := hpre
  have hX : (hd.heap_39 w.params).In s.heap ∧ (Challenge.rw_pg0144_01 = Challenge.rw_pg0144_01) := by k_fill; exact ⟨I.X, rfl⟩
  refine' enter (binds := [("figures", .ref fl)]) I ?kd ?ko ?kc ?kb ?kl ?_ ?c1 ?c2 ?c3 ?c4
  walk_at "m enter"
  intro g tb L h₁ D B F N keep sub
  have X := D.X
  have T := D.T
  have R := Ret.mk hret D keep
  have hl : g.IsList fl vs.toArray := by
    obtain ⟨o, e, hc, x, hd⟩ := hp1
    exact ⟨o, keep _ _ e (by simp [hid, hd]), hc, x, hd⟩
  clear I hret hX sub keep hp1
  walk_at "m go"
  rename_i rl hA ltr h2 F2 N2
  refine loop_list (A := A.deeper _) (vs := vs) (rest := [(rl, listOf [].toArray 0)])
    (JP rl fs)
    (.inl (let ⟨o, e, _⟩ := hl; ⟨o, e⟩)) (stays_list F2.keep hl) hh B F2 N2 ⟨[], 0, [], rfl, rfl, fun _ h => (nomatch h), .nil⟩ ?_ ?_
  · rintro I i v m₁ rest₁ tb₁ io₁ h tk hv hlt ⟨ws, ep, tups, hrow, rfl, hT, hR⟩ B₁ hio F₁ N₁ hI₁
    obtain ⟨c, tc, rfl, hc⟩ := hp2.at _ _ hv
    rw [List.getElem?_map] at hc
    obtain ⟨f, hf, rfl⟩ := Option.map_eq_some_iff.mp hc
    have hfr := hp4 f (List.mem_of_getElem? hf)
    have hsn : pieces (fs.take (i + 1)) = merge (pieces (fs.take i)) f 1 := by rw [List.take_add_one, hf]; exact pieces_snoc _ _
    have hok := pieces_ok (fs.take i) fun g hg => hp4 g (List.mem_of_mem_take hg)
    walk_at "m go"
    rename_i F' N'
    obtain ⟨TT, hTT⟩ : ∃ TT, TT = merge (pieces (fs.take i)) f 1 := ⟨_, rfl⟩
    have hun1 : (A.deeper (envX (Str.ofString "") default L 131 .none [])).units < cLine := by show A.units + 3 < cLine; omega
    refine while_to (A := A.deeper _) (g := g) (L := L) (n := (pieces (fs.take i)).length) (rest := (I, io₁) :: (rl, listOf ws.toArray ep) :: tups) (tb := tb₁) (fun s => WEnd g L s rl I io₁ tups TT)
      (JV rl I io₁ tups TT) B₁ F' N' ?_ ?_ ?_
    · refine ⟨pieces (fs.take i), f, 1, rfl, ⟨_, _, ws, ep, hrow, rfl, rfl, rfl, hR⟩, hTT.symm, hok.1, by decide, by omega, by have : (32 : Int) ^ 1 = 32 := rfl; omega, ?_⟩
      rw [hok.2, List.length_take]
      have := (List.getElem?_eq_some_iff.mp hf).1
      omega
    · rintro k m₂ rest₂ tb₂ h₂ tk₂ ⟨st, x, w, rfl, ⟨tx, tw, us, e2, hr2, hn2, hw2, rfl, hR2⟩, hmg, hok2, hw1, hx0, hx1, hsum⟩ B₂ F₂ N₂
      simp only [List.cons_append] at N₂
      cases st with
      | nil =>
        cases hR2
        walk_at "m go"
        rename_i F5 N5 lt5
        exact wtest_false ⟨rfl, _, _, m₂, (I, io₁) :: (rl, listOf #[] e2) :: tups, tb₂, [], x, w, rfl, B₂, F5, fun p hp => N5 p (.tail _ hp), ⟨tx, tw, [], e2, hr2, hn2, hw2, rfl, .nil⟩, hmg⟩
      | cons p r =>
        obtain ⟨y, v⟩ := p
        rw [List.reverse_cons] at hR2
        obtain ⟨us', a, ty, tv, rfl, hR3, hma⟩ := hR2.last
        have hy := hok2 (y, v) (.head _)
        have hwv : wsum r + v + w ≤ 8 := by simp [wsum] at hsum ⊢; omega
        obtain ⟨c1, c2, c3, c4⟩ := cmp_sizes hw1 hy.1 hx0 hx1 hy.2.1 hy.2.2 (by omega)
        have hlr : us'.length ≤ 1000 := by
          have hRl := hR3.len
          have := PiecesOk.len fun p hp => hok2 p (.tail _ hp)
          simp only [List.length_reverse] at this hRl
          omega
        have hnil : us' ++ [Value.ref a] ≠ [] := by simp
        have e1 : (32 : Int) ^ ((w : Int)).toNat = 32 ^ w := by rw [Int.toNat_natCast]
        have e1' : (32 : Int) ^ ((v : Int)).toNat = 32 ^ v := by rw [Int.toNat_natCast]
        obtain ⟨a1, e2a⟩ : ∃ a1, (32 : Int) ^ w - 1 = a1 := ⟨_, rfl⟩
        obtain ⟨a2, e2b⟩ : ∃ a1, (32 : Int) ^ v - 1 = a1 := ⟨_, rfl⟩
        obtain ⟨p1, e3a⟩ : ∃ p, y * a1 = p := ⟨_, rfl⟩
        obtain ⟨p2, e3b⟩ : ∃ p, x * a2 = p := ⟨_, rfl⟩
        have bx : Builtin.Int.intBits x ≤ 64 := Nat.le_trans (intBits_small (by omega) (by rw [← p32_two]; exact hx1)) (by omega)
        have byy : Builtin.Int.intBits y ≤ 64 := Nat.le_trans (intBits_small (by omega) (by rw [← p32_two]; exact hy.2.2)) (by omega)
        have m1 : IntMulOk y a1 := IntMulOk.of_left byy
        have m2 : IntMulOk x a2 := IntMulOk.of_left bx
        have w0 : (0 : Int) ≤ (w : Int) := Int.natCast_nonneg _
        have v0 : (0 : Int) ≤ (v : Int) := Int.natCast_nonneg _
        have wv : w + v ≤ 8 := by omega
        walk_at "m go"
        rename_i F5 N5 lt5
        have hidr : ∀ p ∈ (I, io₁) :: (rl, listOf (us' ++ [Value.ref a]).toArray e2) :: tups, hid p.2 = false := by
          intro p hp
          rcases List.mem_cons.mp hp with rfl | hp
          · exact hio
          rcases List.mem_cons.mp hp with rfl | hp
          · rfl
          · exact hT.hid p hp
        subst e2a e2b e3a e3b
        refine useQ ((I, io₁) :: (rl, listOf (us' ++ [Value.ref a]).toArray e2) :: tups) (int_divmod _ _ _ _) D B₂ F5 N5 (fun p hp => ?_) (fun p hp => ?_) hidr hh (roomD hdp (by decide)) (roomU hun (by decide)) ⟨c1, c2, c3, c4⟩ ?_
        · exact List.Mem.tail _ (List.mem_append_left tb₂ hp)
        · exact .tail _ (.tail _ (.tail _ (List.mem_append_right _ hp)))
        intro q tl tb6 h6 tk6 B6 F6 N6 hne6 hid6 po
        obtain ⟨xq, t1, t2, rfl, rfl⟩ := po
        simp only [List.nil_append, List.cons_append] at N6
        clear F5 N5 lt5 B₂
        by_cases hq : y * (32 ^ w - 1) / (x * (32 ^ v - 1)) = 0
        · rw [merge, if_pos hq] at hmg
          walk_at "m go"
          refine wtest_true ?_
          have e5 : (5 : Int) * (w : Int) = ((5 * w : Nat) : Int) := by simp
          have m5 : IntMulOk 5 (w : Int) := IntMulOk.of_left (by decide)
          have e6 : (w : Int) + (v : Int) = ((w + v : Nat) : Int) := by simp
          walk_at "m go"
          rename_i lx h7 F7 N7 lt7
          have hj := join_ok hx0 hx1 hy.2.1 hy.2.2
          have b40 : ∀ k, k ≤ 8 → (32 : Int) ^ k < 2 ^ 240 := fun k hk => Int.lt_of_le_of_lt (p32_mono hk) (by decide)
          refine useQ ((I, io₁) :: (rl, listOf (us' ++ [Value.ref a]).toArray e2) :: tups) (digits2int lx [.int x tx, .int y ty] [x, y] (5 * w) _) D B6 F7 N7 (fun p hp => ?_) (fun p hp => ?_) hidr hh (roomD hdp (by decide)) (roomU hun (by decide)) ⟨⟨_, (N7 _ (.head _)).1, rfl, _, rfl⟩, .cons _ _ (.cons _ _ .nil), ?_, by omega, by omega, (show 2 ≤ 200 by decide)⟩ ?_
          · exact .tail _ (.tail _ (List.mem_append_left tb6 hp))
          · exact .tail _ (.tail _ (.tail _ (.tail _ (List.mem_append_right _ hp))))
          · intro d hd
            rcases List.mem_cons.mp hd with rfl | hd
            · exact ⟨by omega, Int.lt_trans hx1 (b40 _ (by omega))⟩
            · rw [List.mem_singleton.mp hd]
              exact ⟨by omega, Int.lt_trans hy.2.2 (b40 _ (by omega))⟩
          intro q tl tb8 h8 tk8 B8 F8 N8 hne8 hid8 po
          obtain ⟨rfl, t8, rfl⟩ := po
          rw [d2i_pair]
          simp only [List.nil_append, List.cons_append] at N8
          clear F7 N7 lt7 B6
          obtain ⟨z, hz⟩ : ∃ z, x + 32 ^ w * y = z := ⟨_, rfl⟩
          rw [hz] at hj hmg ⊢
          walk_at "m go"
          rename_i h9 F9 N9
          refine pop_m ((I, io₁) :: (tups ++ tb8)) F9 N9 (.tail _ (.head _)) (fun p hp => ?_) (fun p hp => ?_) hlr ?_
          · rcases List.mem_cons.mp hp with rfl | hp
            · exact .head _
            · exact .tail _ (.tail _ hp)
          · rcases List.mem_cons.mp hp with rfl | hp
            · exact (hI₁ _ (.head _)).symm
            · rcases List.mem_append.mp hp with h1 | h1
              · exact hT.ne N9 (show (rl, _) ∈ _ from .tail _ (.head _)) (by simp) p h1 (.tail _ (.tail _ hp))
              · exact tb_ne N9 (.tail _ (.tail _ hp)) (B8.h p h1) (show (rl, _) ∈ _ from .tail _ (.head _)) rfl
          intro h10 F10 N10
          walk_at "m go"
          refine ⟨rfl, r.length, _, _, _, (I, io₁) :: (rl, listOf us'.toArray (e2 + 1)) :: tups, tb8, ?_, rfl, B8, F10, fun p hp => N10 p ?_, r, z, w + v, rfl, ⟨t8, _, us', e2 + 1, hr2, rfl, rfl, rfl, hR3⟩, hmg, fun p hp => hok2 p (.tail _ hp), by omega, hj.1, hj.2, by omega⟩
          · simp
          · rcases List.mem_cons.mp hp with rfl | hp
            · exact .tail _ (.head _)
            rcases List.mem_cons.mp hp with rfl | hp
            · exact .head _
            · exact .tail _ (.tail _ hp)
        · rw [merge, if_neg hq] at hmg
          walk_at "m go"
          exact wtest_false ⟨rfl, _, _, m₂, (I, io₁) :: (rl, listOf (us' ++ [Value.ref a]).toArray e2) :: tups, tb6, (y, v) :: r, x, w, rfl, B6, F6, fun p hp => N6 p (.tail _ hp), ⟨tx, tw, _, e2, hr2, hn2, hw2, rfl, by rw [List.reverse_cons]; exact hR2⟩, hmg⟩
    · rintro _ _ ⟨rfl, h', tk', m', rest', tb', st, x, w, rfl, B', F', N', ⟨tx, tw, us, e2, hr2, hn2, hw2, rfl, hR2⟩, rfl⟩
      simp only [List.cons_append] at N'
      have hle : us.length ≤ 1000 := by
        have h1 := hR2.len
        have h2 := merge_ok (pieces (fs.take i)) f 1 hok.1 (Nat.le_refl _) (by omega) (by have : (32 : Int) ^ 1 = 32 := rfl; omega)
        have h3 := h2.1.len
        rw [h2.2, hok.2, ← hTT] at h3
        simp only [List.length_reverse, List.length_cons, List.length_take] at h1 h3
        omega
      walk_at "m go"
      rename_i d h11 F11 N11 lt11
      refine append_m ((d, tupO [.int x tx, .int w tw]) :: (I, io₁) :: (tups ++ tb')) F11 N11 (.tail _ (.tail _ (.head _))) (fun p hp => ?_) (fun p hp => ?_) hle ?_
      · rcases List.mem_cons.mp hp with rfl | hp
        · exact .head _
        rcases List.mem_cons.mp hp with rfl | hp
        · exact .tail _ (.head _)
        · exact .tail _ (.tail _ (.tail _ hp))
      · rcases List.mem_cons.mp hp with rfl | hp
        · exact (Nat.ne_of_lt lt11.2.1).symm
        rcases List.mem_cons.mp hp with rfl | hp
        · exact (hI₁ _ (.head _)).symm
        rcases List.mem_append.mp hp with h1 | h1
        · exact hT.ne N11 (show (rl, _) ∈ _ from .tail _ (.tail _ (.head _))) (by simp) p h1 (.tail _ (.tail _ (.tail _ hp)))
        · exact tb_ne N11 (.tail _ (.tail _ (.tail _ hp))) (B'.h p h1) (show (rl, _) ∈ _ from .tail _ (.tail _ (.head _))) rfl
      intro h12 F12 N12
      walk_at "m go"
      refine turn_ok ((rl, listOf (us ++ [Value.ref d]).toArray (e2 + 1)) :: (d, tupO [.int x tx, .int w tw]) :: tups) tb' _ rfl B' F12 N12 (fun p hp => ?_) ⟨_, _, (d, tupO [.int x tx, .int w tw]) :: tups, hr2, rfl, ?_, ?_⟩ (fun p hp => ?_)
      · rcases List.mem_cons.mp hp with rfl | hp
        · exact .tail _ (.tail _ (.head _))
        rcases List.mem_cons.mp hp with rfl | hp
        · exact .head _
        rcases List.mem_cons.mp hp with rfl | hp
        · exact .tail _ (.head _)
        · exact .tail _ (.tail _ (.tail _ hp))
      · intro p hp
        rcases List.mem_cons.mp hp with rfl | hp
        · exact ⟨_, rfl⟩
        · exact hT p hp
      · rw [hsn, ← hTT, List.reverse_cons]
        exact (hR2.mono fun p hp => .tail _ hp).append (.cons (.head _) .nil)
      · rcases List.mem_cons.mp hp with rfl | hp
        · exact hI₁ (rl, listOf ws.toArray ep) (.head _)
        rcases List.mem_cons.mp hp with rfl | hp
        · exact (Nat.ne_of_lt lt11.1).symm
        · exact hI₁ p (.tail _ hp)
  · rintro m₁ rest₁ tb₁ h tk ⟨ws, ep, tups, hrow, rfl, hT, hR⟩ B₁ F₁ N₁
    rw [hp2.length, List.length_map, List.take_length] at hR
    walk_at "m go"
    refine done_ ((rl, listOf ws.toArray ep) :: tups) R B₁ F₁ N₁ (fun p hp => List.mem_append_left _ hp) (fun p hp => List.mem_append_right _ hp) ?_ ⟨rl, ws, ep, tups, rfl, rfl, hT, hR⟩ rfl
    refine List.all_eq_true.mpr fun p hp => ?_
    rcases List.mem_cons.mp hp with rfl | hp
    · rfl
    · rw [hT.hid p hp]; rfl
end
theorem lx_app {p : List Nat} : ∀ {u v : List Nat}, p ++ u < p ++ v ↔ u < v := by
  induction p with
  | nil => intro u v; exact Iff.rfl
  | cons a r ih => intro u v; rw [List.cons_append, List.cons_append, List.cons_lt_cons_iff]; simp [ih]
theorem lx_pre (u : List Nat) (a : Nat) (t : List Nat) : u < u ++ a :: t := by
  have := (lx_app (p := u) (u := []) (v := a :: t)).mpr (List.nil_lt_cons _ _)
  simpa using this
theorem lx_pre_le (u t : List Nat) : ¬ u ++ t < u := by
  cases t with
  | nil => rw [List.append_nil]; exact List.lt_irrefl _
  | cons a t => exact List.lt_asymm (lx_pre u a t)
theorem lx_split : ∀ (u v : List Nat), u < v → (∃ a t, v = u ++ a :: t) ∨ ∀ s t, u ++ s < v ++ t
  | [], [], h => absurd h (List.lt_irrefl _)
  | [], b :: v, _ => .inl ⟨b, v, rfl⟩
  | a :: u, [], h => absurd h (List.not_lt_nil _)
  | a :: u, b :: v, h => by
    rcases List.cons_lt_cons_iff.mp h with h1 | ⟨e, h1⟩
    · exact .inr fun s t => List.cons_lt_cons_iff.mpr (.inl h1)
    · subst e
      rcases lx_split u v h1 with ⟨c, t, e2⟩ | h2
      · exact .inl ⟨c, t, by rw [e2]; rfl⟩
      · exact .inr fun s t => List.cons_lt_cons_iff.mpr (.inr ⟨rfl, h2 s t⟩)
theorem lx_tri (u v : List Nat) : u < v ∨ u = v ∨ v < u := by
  by_cases h : u < v
  · exact .inl h
  · by_cases h' : v < u
    · exact .inr (.inr h')
    · exact .inr (.inl (List.le_antisymm (List.not_lt.mp h') (List.not_lt.mp h)))
theorem lx_trans {u v w : List Nat} (h : u < v) (h' : v < w) : u < w := List.lt_trans h h'
theorem lx_lt_of_le {u v w : List Nat} (h : u < v) (h' : ¬ w < v) : u < w := Decidable.byContradiction fun n => h' (List.lt_of_le_of_lt (List.not_lt.mp n) h)
theorem lx_le_lt {u v w : List Nat} (h : ¬ v < u) (h' : v < w) : u < w := List.lt_of_le_of_lt (List.not_lt.mp h) h'
/-- a Lyndon word: less than each of its tails -/
def Lyn (w : List Nat) : Prop := w ≠ [] ∧ ∀ p s, w = p ++ s → p ≠ [] → s ≠ [] → w < s
theorem lyn_below {u v : List Nat} (hu : Lyn u) (hv : Lyn v) (h : u < v) : u ++ v < v := by
  rcases lx_split u v h with ⟨a, t, e⟩ | h
  · have h1 := hv.2 u (a :: t) e hu.1 (by simp)
    have h2 := (lx_app (p := u)).mpr h1
    rwa [← e] at h2
  · simpa using h v []
theorem lyn_join {u v : List Nat} (hu : Lyn u) (hv : Lyn v) (h : u < v) : Lyn (u ++ v) := by
  have hb := lyn_below hu hv h
  refine ⟨fun e => hu.1 (List.append_eq_nil_iff.mp e).1, fun p s e hp hs => ?_⟩
  rcases List.append_eq_append_iff.mp e with ⟨c, e1, e2⟩ | ⟨c, e1, e2⟩
  · by_cases hc : c = []
    · subst hc; simp at e2; subst e2; exact hb
    · exact lx_trans hb (hv.2 c s e2 hc hs)
  · by_cases hc : c = []
    · subst hc; simp at e2; subst e2; exact hb
    · have h1 := hu.2 p c e1 hp hc
      rcases lx_split u c h1 with ⟨a, t, e3⟩ | h2
      · have := congrArg List.length e1
        rw [e3] at this
        simp at this
        omega
      · rw [e2]; exact h2 v v
theorem lyn_cmp {u v : List Nat} (hu : Lyn u) (hv : Lyn v) : u ++ v < v ++ u ↔ u < v := by
  constructor
  · intro h
    rcases lx_tri u v with h1 | rfl | h1
    · exact h1
    · exact absurd h (List.lt_irrefl _)
    · have h2 := lyn_below hv hu h1
      exact absurd h (List.lt_asymm (lx_lt_of_le h2 (lx_pre_le u v)))
  · intro h
    exact lx_lt_of_le (lyn_below hu hv h) (lx_pre_le v u)
def mergeW : List (List Nat) → List Nat → List (List Nat)
  | [], x => [x]
  | y :: r, x => if y ++ x < x ++ y then mergeW r (y ++ x) else x :: y :: r
/-- Lyndon words, the newest first, none less than a newer one -/
inductive LynSt : List (List Nat) → Prop
  | nil : LynSt []
  | cons {x : List Nat} {r : List (List Nat)} : Lyn x → (∀ y ∈ r, ¬ y < x) → LynSt r → LynSt (x :: r)
theorem LynSt.tail {x : List Nat} {r : List (List Nat)} (h : LynSt (x :: r)) : LynSt r := by cases h with | cons _ _ h => exact h
theorem mergeW_ok : ∀ (st : List (List Nat)) (x : List Nat), LynSt st → Lyn x → LynSt (mergeW st x) ∧ (mergeW st x).reverse.flatten = st.reverse.flatten ++ x
  | [], x, _, hx => ⟨.cons hx (fun _ h => nomatch h) .nil, by simp [mergeW]⟩
  | y :: r, x, h, hx => by
    cases h with
    | cons hy hle hr =>
      unfold mergeW
      by_cases hc : y ++ x < x ++ y
      · rw [if_pos hc]
        have h1 := (lyn_cmp hy hx).mp hc
        obtain ⟨i1, i2⟩ := mergeW_ok r (y ++ x) hr (lyn_join hy hx h1)
        exact ⟨i1, by rw [i2]; simp⟩
      · rw [if_neg hc]
        have h1 : ¬ y < x := fun h => hc ((lyn_cmp hy hx).mpr h)
        refine ⟨.cons hx (fun z hz => ?_) (.cons hy hle hr), by simp⟩
        rcases List.mem_cons.mp hz with rfl | hz
        · exact h1
        · intro h2
          exact hle z hz (lx_lt_of_le h2 h1)
/-- no tail is less than what all words are not less than -/
theorem lyn_tails : ∀ (st : List (List Nat)) (x p s : List Nat), LynSt st → (∀ y ∈ st, ¬ y < x) → st.reverse.flatten = p ++ s → s ≠ [] → ¬ s < x
  | [], x, p, s, _, _, e, hs => by
    simp at e; exact absurd e.2 hs
  | y :: r, x, p, s, h, hle, e, hs => by
    cases h with
    | cons hy hley hr =>
      simp only [List.reverse_cons, List.flatten_append, List.flatten_cons, List.flatten_nil, List.append_nil] at e
      rcases List.append_eq_append_iff.mp e with ⟨c, e1, e2⟩ | ⟨c, e1, e2⟩
      · have hyx := hle y (.head _)
        by_cases hc : c = []
        · subst hc; simp at e2; subst e2; exact hyx
        · intro h2
          exact hyx (lx_trans (hy.2 c s e2 hc hs) h2)
      · by_cases hc : c = []
        · subst hc; simp at e2; subst e2; exact hle s (.head _)
        · have ih := lyn_tails r x p c hr (fun z hz => hle z (.tail _ hz)) e1 hc
          intro h2
          rw [e2] at h2
          exact ih (lx_le_lt (lx_pre_le c y) h2)
theorem lyn_one (a : Nat) : Lyn [a] := by
  refine ⟨by simp, fun p s e hp hs => ?_⟩
  have := congrArg List.length e
  have h1 := List.length_pos_iff.mpr hp
  have h2 := List.length_pos_iff.mpr hs
  simp at this; omega

/-- a word cut at its least tails -/
inductive CutsAre : List Nat → List (List Nat) → Prop
  | nil : CutsAre [] []
  | snoc {u v : List Nat} {cs : List (List Nat)} : v ≠ [] → (∀ k, k < (u ++ v).length → ¬ (u ++ v).drop k < v) → CutsAre u cs → CutsAre (u ++ v) (cs ++ [v])
theorem cuts_lyn {fs : List Nat} {cs : List (List Nat)} (h : CutsAre fs cs) : ∀ st, LynSt st → st.reverse.flatten = fs → cs = st.reverse := by
  induction h with
  | nil =>
    intro st hs e
    cases hs with
    | nil => rfl
    | cons hx _ _ => simp at e; exact absurd e.2 hx.1
  | @snoc u v cs hv hle _ ih =>
    intro st hs e
    cases hs with
    | nil => simp at e; exact absurd e.2 hv
    | @cons x r hx hxr hr =>
      have e' := e
      simp only [List.reverse_cons, List.flatten_append, List.flatten_cons, List.flatten_nil, List.append_nil] at e'
      have h1 : ¬ v < x := lyn_tails (x :: r) x u v (.cons hx hxr hr) (fun y hy => by
        rcases List.mem_cons.mp hy with rfl | hy
        · exact List.lt_irrefl _
        · exact hxr y hy) e hv
      have h2 : ¬ x < v := by
        have := hle r.reverse.flatten.length (by rw [← e', List.length_append]; have := List.length_pos_iff.mpr hx.1; omega)
        rwa [← e', List.drop_left] at this
      have h3 : v = x := List.le_antisymm (List.not_lt.mp h2) (List.not_lt.mp h1)
      subst h3
      rw [ih r hr (List.append_cancel_right e')]
      simp
theorem piecesW_ok : ∀ (fs : List Nat) (st : List (List Nat)), LynSt st → LynSt (fs.foldl (fun st f => mergeW st [f]) st) ∧ (fs.foldl (fun st f => mergeW st [f]) st).reverse.flatten = st.reverse.flatten ++ fs
  | [], st, h => ⟨h, by simp⟩
  | f :: r, st, h => by
    obtain ⟨m1, m2⟩ := mergeW_ok st [f] h (lyn_one f)
    obtain ⟨i1, i2⟩ := piecesW_ok r (mergeW st [f]) m1
    exact ⟨i1, by rw [List.foldl_cons, i2, m2]; simp⟩
/-- the words of the law's pieces are the word cut at its least tails -/
theorem cuts_pieces {fs : List Nat} {cs : List (List Nat)} (h : CutsAre fs cs) : cs = (fs.foldl (fun st f => mergeW st [f]) []).reverse := by
  obtain ⟨h1, h2⟩ := piecesW_ok fs [] .nil
  exact cuts_lyn h _ h1 (by simpa using h2)
/-- a word's number, base 32 -/
def vw (u : List Nat) : Int := u.foldl (fun a (d : Nat) => a * 32 + (d : Int)) 0
theorem vw_aux : ∀ (u : List Nat) (a : Int), u.foldl (fun a (d : Nat) => a * 32 + (d : Int)) a = a * 32 ^ u.length + vw u
  | [], a => by simp [vw]
  | d :: r, a => by
    unfold vw
    rw [List.foldl_cons, List.foldl_cons, vw_aux r, vw_aux r (0 * 32 + (d : Int)), List.length_cons, Int.pow_succ, Int.zero_mul, Int.zero_add, Int.add_mul, Int.add_assoc, Int.mul_assoc, Int.mul_comm 32]
theorem vw_append (u v : List Nat) : vw (u ++ v) = vw u * 32 ^ v.length + vw v := by
  rw [vw, List.foldl_append, vw_aux]; rfl
theorem vw_cons (d : Nat) (r : List Nat) : vw (d :: r) = d * 32 ^ r.length + vw r := by
  have := vw_append [d] r
  rw [List.singleton_append] at this
  rw [this]; simp [vw]
theorem vw_range : ∀ (u : List Nat), (∀ d ∈ u, d ≤ 31) → 0 ≤ vw u ∧ vw u < 32 ^ u.length
  | [], _ => by simp [vw]
  | d :: r, h => by
    obtain ⟨i0, i1⟩ := vw_range r fun x hx => h x (.tail _ hx)
    have hd := h d (.head _)
    have p := p32_pos r.length
    have m1 : (d : Int) * 32 ^ r.length ≤ 31 * 32 ^ r.length := Int.mul_le_mul_of_nonneg_right (by omega) (Int.le_of_lt p)
    have m0 : 0 ≤ (d : Int) * 32 ^ r.length := Int.mul_nonneg (by omega) (Int.le_of_lt p)
    rw [vw_cons, List.length_cons, Int.pow_succ]
    omega
/-- figures up to 30: the number is less than the greatest -/
theorem vw_less : ∀ (u : List Nat), u ≠ [] → (∀ d ∈ u, d ≤ 30) → vw u < 32 ^ u.length - 1
  | [], h, _ => absurd rfl h
  | d :: r, _, h => by
    obtain ⟨i0, i1⟩ := vw_range r fun x hx => by have := h x (.tail _ hx); omega
    have hd := h d (.head _)
    have p := p32_pos r.length
    have m1 : (d : Int) * 32 ^ r.length ≤ 30 * 32 ^ r.length := Int.mul_le_mul_of_nonneg_right (by omega) (Int.le_of_lt p)
    rw [vw_cons, List.length_cons, Int.pow_succ]
    omega
theorem vw_low : ∀ (u : List Nat), u ≠ [] → (∀ d ∈ u, 1 ≤ d ∧ d ≤ 31) → 32 ^ (u.length - 1) ≤ vw u
  | [], h, _ => absurd rfl h
  | d :: r, _, h => by
    obtain ⟨i0, i1⟩ := vw_range r fun x hx => (h x (.tail _ hx)).2
    have hd := (h d (.head _)).1
    have p := p32_pos r.length
    have m1 : 1 * (32 : Int) ^ r.length ≤ (d : Int) * 32 ^ r.length := Int.mul_le_mul_of_nonneg_right (by omega) (Int.le_of_lt p)
    rw [vw_cons, List.length_cons, Nat.add_sub_cancel]
    omega
theorem vw_lt : ∀ (u v : List Nat), u.length = v.length → (∀ d ∈ u, d ≤ 31) → (∀ d ∈ v, d ≤ 31) → (vw u < vw v ↔ u < v)
  | [], [], _, _, _ => by simp [vw]
  | [], _ :: _, h, _, _ => by simp at h
  | _ :: _, [], h, _, _ => by simp at h
  | a :: u, b :: v, h, hu, hv => by
    have hl : u.length = v.length := by simpa using h
    have ih := vw_lt u v hl (fun x hx => hu x (.tail _ hx)) (fun x hx => hv x (.tail _ hx))
    obtain ⟨i0, i1⟩ := vw_range u fun x hx => hu x (.tail _ hx)
    obtain ⟨j0, j1⟩ := vw_range v fun x hx => hv x (.tail _ hx)
    rw [vw_cons, vw_cons, List.cons_lt_cons_iff, hl]
    rw [hl] at i1
    have p := p32_pos v.length
    generalize (32 : Int) ^ v.length = P at *
    rcases Nat.lt_trichotomy a b with q | q | q
    · have m1 : ((a : Int) + 1) * P ≤ (b : Int) * P := Int.mul_le_mul_of_nonneg_right (by omega) (by omega)
      rw [Int.add_mul, Int.one_mul] at m1
      exact ⟨fun _ => .inl q, fun _ => by omega⟩
    · subst q
      rw [← ih]
      constructor
      · intro h; exact .inr ⟨rfl, by omega⟩
      · rintro (h | ⟨_, h⟩)
        · omega
        · omega
    · have m1 : ((b : Int) + 1) * P ≤ (a : Int) * P := Int.mul_le_mul_of_nonneg_right (by omega) (by omega)
      rw [Int.add_mul, Int.one_mul] at m1
      constructor
      · intro h; omega
      · rintro (h | ⟨h, _⟩) <;> omega
/-- a word of letters' figures -/
def Figs (u : List Nat) : Prop := ∀ d ∈ u, 1 ≤ d ∧ d ≤ 26
theorem Figs.app {u v : List Nat} (h : Figs u) (h' : Figs v) : Figs (u ++ v) := fun d hd => (List.mem_append.mp hd).elim (h d) (h' d)
theorem Figs.le {u : List Nat} (h : Figs u) : ∀ d ∈ u, d ≤ 31 := fun d hd => by have := h d hd; omega
def pr (u : List Nat) : Int × Nat := (vw u, u.length)
theorem vw_one {u : List Nat} (hu : u ≠ []) (h : Figs u) : 1 ≤ vw u := by
  have := vw_low u hu fun d hd => by have := h d hd; omega
  have := p32_pos (u.length - 1)
  omega
theorem div_zero_iff {a b : Int} (ha : 0 ≤ a) (hb : 0 < b) : a / b = 0 ↔ a < b := by
  constructor
  · intro h
    have e := Int.mul_ediv_add_emod a b
    rw [h, Int.mul_zero, Int.zero_add] at e
    rw [← e]
    exact Int.emod_lt_of_pos _ hb
  · intro h
    exact Int.ediv_eq_zero_of_lt ha h
theorem cmp_iff {y x : List Nat} (hy : y ≠ []) (hx : x ≠ []) (fy : Figs y) (fx : Figs x) :
    vw y * (32 ^ x.length - 1) / (vw x * (32 ^ y.length - 1)) = 0 ↔ y ++ x < x ++ y := by
  have y1 := vw_one hy fy
  have x1 := vw_one hx fx
  have ly := List.length_pos_iff.mpr hy
  have lx := List.length_pos_iff.mpr hx
  have py := p32_ge ly
  have px := p32_ge lx
  have c0 : 0 ≤ vw y * (32 ^ x.length - 1) := Int.mul_nonneg (by omega) (by omega)
  have c1 : 0 < vw x * (32 ^ y.length - 1) := Int.mul_pos (by omega) (by omega)
  rw [div_zero_iff c0 c1, ← vw_lt (y ++ x) (x ++ y) (by simp [Nat.add_comm]) (fy.app fx).le (fx.app fy).le, vw_append, vw_append, Int.mul_sub, Int.mul_sub, Int.mul_one, Int.mul_one]
  constructor <;> intro h <;> omega
theorem merge_words : ∀ (st : List (List Nat)) (x : List Nat), x ≠ [] → Figs x → (∀ y ∈ st, y ≠ [] ∧ Figs y) → merge (st.map pr) (vw x) x.length = (mergeW st x).map pr ∧ ∀ y ∈ mergeW st x, y ≠ [] ∧ Figs y
  | [], x, hx, fx, _ => ⟨rfl, fun y hy => by rw [List.mem_singleton.mp hy]; exact ⟨hx, fx⟩⟩
  | y :: r, x, hx, fx, h => by
    have hy := h y (.head _)
    have hr : ∀ y ∈ r, y ≠ [] ∧ Figs y := fun z hz => h z (.tail _ hz)
    have c := cmp_iff hy.1 hx hy.2 fx
    unfold mergeW
    rw [List.map_cons]
    show merge ((vw y, y.length) :: r.map pr) (vw x) x.length = _ ∧ _
    rw [merge]
    by_cases q : y ++ x < x ++ y
    · rw [if_pos q, if_pos (c.mpr q)]
      have e : vw x + 32 ^ x.length * vw y = vw (y ++ x) := by rw [vw_append, Int.add_comm, Int.mul_comm]
      have el : x.length + y.length = (y ++ x).length := by rw [List.length_append, Nat.add_comm]
      rw [e, el]
      exact merge_words r (y ++ x) (by simp [hx]) (hy.2.app fx) hr
    · rw [if_neg q, if_neg fun h => q (c.mp h)]
      refine ⟨rfl, fun z hz => ?_⟩
      rcases List.mem_cons.mp hz with rfl | hz
      · exact ⟨hx, fx⟩
      · exact h z hz
theorem pieces_words_aux : ∀ (fs : List Nat) (st : List (List Nat)), Figs fs → (∀ y ∈ st, y ≠ [] ∧ Figs y) →
    fs.foldl (fun st (f : Nat) => merge st (f : Int) 1) (st.map pr) = (fs.foldl (fun st f => mergeW st [f]) st).map pr ∧ ∀ y ∈ fs.foldl (fun st f => mergeW st [f]) st, y ≠ [] ∧ Figs y
  | [], st, _, h => ⟨rfl, h⟩
  | f :: r, st, hf, h => by
    obtain ⟨m1, m2⟩ := merge_words st [f] (by simp) (fun d hd => by rw [List.mem_singleton.mp hd]; exact hf f (.head _)) h
    have e : vw [f] = (f : Int) := by simp [vw]
    rw [e] at m1
    rw [List.foldl_cons, List.foldl_cons]
    have m1' : merge (st.map pr) (f : Int) 1 = (mergeW st [f]).map pr := m1
    rw [m1']
    exact pieces_words_aux r _ (fun d hd => hf d (.tail _ hd)) m2
/-- the law's pieces are the numbers of the word's cuts -/
theorem pieces_cuts {fs : List Nat} {cs : List (List Nat)} (hf : Figs fs) (h : CutsAre fs cs) : (pieces fs).reverse = cs.map pr ∧ (∀ c ∈ cs, c ≠ [] ∧ Figs c) ∧ cs.flatten = fs := by
  have e := cuts_pieces h
  obtain ⟨p1, p2⟩ := pieces_words_aux fs [] hf (fun _ h => nomatch h)
  obtain ⟨q1, q2⟩ := piecesW_ok fs [] .nil
  refine ⟨?_, fun c hc => ?_, ?_⟩
  · rw [e, List.map_reverse]
    exact congrArg List.reverse p1
  · rw [e] at hc
    exact p2 c (List.mem_reverse.mp hc)
  · rw [e, q2]; rfl
/-- the word said over and over, cut at n -/
def frontW (u : List Nat) (n : Nat) : List Nat := ((List.replicate n u).flatten).take n
/-- the word turned -/
def turnW (u : List Nat) (t : Nat) : List Nat := u.drop t ++ u.take t
theorem rep_get (u : List Nat) (hu : 0 < u.length) : ∀ (n i : Nat), i < n * u.length → (List.replicate n u).flatten[i]? = u[i % u.length]?
  | 0, i, h => by simp at h
  | n + 1, i, h => by
    rw [List.replicate_succ, List.flatten_cons]
    by_cases q : i < u.length
    · rw [List.getElem?_append_left q, Nat.mod_eq_of_lt q]
    · rw [List.getElem?_append_right (by omega), rep_get u hu n _ (by rw [Nat.succ_mul] at h; omega), ← Nat.mod_eq_sub_mod (by omega)]
theorem front_get (u : List Nat) (hu : 0 < u.length) {n i : Nat} (h : i < n) : (frontW u n)[i]? = u[i % u.length]? := by
  unfold frontW
  rw [List.getElem?_take_of_lt h]
  exact rep_get u hu n i (Nat.lt_of_lt_of_le h (Nat.le_mul_of_pos_right _ hu))
theorem front_len (u : List Nat) (hu : 0 < u.length) (n : Nat) : (frontW u n).length = n := by
  unfold frontW
  rw [List.length_take, List.length_flatten, List.map_replicate, List.sum_replicate_nat]
  exact Nat.min_eq_left (Nat.le_mul_of_pos_right _ hu)
theorem front_succ (u : List Nat) (hu : 0 < u.length) (n : Nat) : frontW u (n + 1) = frontW u n ++ [u[n % u.length]'(Nat.mod_lt _ hu)] := by
  apply List.ext_getElem?
  intro i
  rcases Nat.lt_trichotomy i n with q | q | q
  · rw [front_get u hu (by omega), List.getElem?_append_left (by rw [front_len u hu]; exact q), front_get u hu q]
  · subst q
    rw [front_get u hu (by omega), List.getElem?_append_right (by rw [front_len u hu]; omega), front_len u hu, Nat.sub_self, List.getElem?_eq_getElem (Nat.mod_lt _ hu)]; rfl
  · rw [List.getElem?_eq_none (by rw [front_len u hu]; omega), List.getElem?_eq_none (by rw [List.length_append, front_len u hu, List.length_singleton]; omega)]
theorem turn_step (u : List Nat) {t : Nat} (h : t < u.length) : ∃ r, turnW u t = u[t] :: r ∧ r.length + 1 = u.length ∧ turnW u (t + 1) = r ++ [u[t]] := by
  refine ⟨u.drop (t + 1) ++ u.take t, ?_, ?_, ?_⟩
  · rw [turnW, List.drop_eq_getElem_cons h]; rfl
  · rw [List.length_append, List.length_drop, List.length_take]; omega
  · rw [turnW, List.take_add_one, List.getElem?_eq_getElem h, List.append_assoc]; rfl
theorem turn_full (u : List Nat) : turnW u u.length = turnW u 0 := by simp [turnW]
theorem turn_mod (u : List Nat) (hu : 0 < u.length) (n : Nat) : turnW u ((n + 1) % u.length) = turnW u (n % u.length + 1) := by
  by_cases q : n % u.length + 1 = u.length
  · have : (n + 1) % u.length = 0 := by rw [Nat.add_mod, ← Nat.mod_add_mod]; simp [q]
    rw [this, q, turn_full]
  · rw [← Nat.mod_add_mod, Nat.mod_eq_of_lt (by have := Nat.mod_lt n hu; omega)]
/-- a piece's number moved up: the piece over and over, and the piece turned -/
theorem key_eq (u : List Nat) (hu : 0 < u.length) : ∀ n, vw u * 32 ^ n = (32 ^ u.length - 1) * vw (frontW u n) + vw (turnW u (n % u.length))
  | 0 => by simp [frontW, turnW, vw]
  | n + 1 => by
    obtain ⟨r, e1, e2, e3⟩ := turn_step u (Nat.mod_lt n hu)
    rw [Int.pow_succ, ← Int.mul_assoc, key_eq u hu n, front_succ u hu, turn_mod u hu, e3, e1, vw_append, vw_append, vw_cons]
    simp only [List.length_singleton]
    have e4 : (32 : Int) ^ u.length = 32 ^ r.length * 32 := by rw [← e2, Int.pow_succ]
    have e5 : vw [u[n % u.length]'(Nat.mod_lt _ hu)] = (u[n % u.length]'(Nat.mod_lt _ hu) : Int) := by simp [vw]
    rw [e4, e5]
    generalize (u[n % u.length]'(Nat.mod_lt _ hu) : Int) = d
    generalize (32 : Int) ^ r.length = P
    generalize vw (frontW u n) = f
    generalize vw r = y
    simp only [Int.add_mul, Int.sub_mul, Int.mul_add, Int.pow_one, Int.one_mul, Int.mul_assoc]
    have h1 : P * (32 * (f * 32)) = P * (32 * (f * 32)) := rfl
    have h2 : d * (P * 32) = P * (32 * d) := by rw [Int.mul_left_comm, Int.mul_comm d]
    omega
theorem turn_mem {u : List Nat} {t d : Nat} (h : d ∈ turnW u t) : d ∈ u := by
  unfold turnW at h
  exact (List.mem_append.mp h).elim List.mem_of_mem_drop List.mem_of_mem_take
theorem turn_len {u : List Nat} {t : Nat} (h : t ≤ u.length) : (turnW u t).length = u.length := by
  rw [turnW, List.length_append, List.length_drop, List.length_take]; omega
theorem front_mem {u : List Nat} {n d : Nat} (h : d ∈ frontW u n) : d ∈ u := by
  unfold frontW at h
  obtain ⟨l, h1, h2⟩ := List.mem_flatten.mp (List.mem_of_mem_take h)
  rw [List.eq_of_mem_replicate h1] at h2; exact h2
/-- what the law asks of a piece's number -/
theorem key_rest {u : List Nat} (hu : 0 < u.length) (hf : Figs u) (n : Nat) :
    vw (frontW u n) = vw u * 32 ^ n / (32 ^ u.length - 1) ∧ vw (turnW u (n % u.length)) = vw u * 32 ^ n % (32 ^ u.length - 1) := by
  have hne : turnW u (n % u.length) ≠ [] := fun e => by
    have := turn_len (u := u) (t := n % u.length) (Nat.le_of_lt (Nat.mod_lt _ hu))
    rw [e] at this; simp at this; omega
  have hft : ∀ d ∈ turnW u (n % u.length), d ≤ 30 := fun d hd => by have := hf d (turn_mem hd); omega
  have h1 := vw_less _ hne hft
  rw [turn_len (Nat.le_of_lt (Nat.mod_lt _ hu))] at h1
  have h0 := (vw_range (turnW u (n % u.length)) fun d hd => by have := hft d hd; omega).1
  have hp := p32_ge hu
  have e := key_eq u hu n
  have := (Int.ediv_emod_unique (a := vw u * 32 ^ n) (b := 32 ^ u.length - 1) (by omega)).mpr ⟨by rw [e, Int.add_comm], h0, h1⟩
  exact ⟨this.1.symm, this.2.symm⟩
theorem twice_eq {u : List Nat} (hu : 0 < u.length) : vw u * (32 ^ (2 * u.length) - 1) / (32 ^ u.length - 1) = vw u * 32 ^ u.length + vw u ∧ vw u * (32 ^ (2 * u.length) - 1) % (32 ^ u.length - 1) = 0 := by
  have hp := p32_ge hu
  have e : vw u * (32 ^ (2 * u.length) - 1) = (32 ^ u.length - 1) * (vw u * 32 ^ u.length + vw u) := by
    rw [show 2 * u.length = u.length + u.length by omega, Int.pow_add]
    generalize (32 : Int) ^ u.length = P
    generalize vw u = x
    simp only [Int.mul_sub, Int.sub_mul, Int.mul_add, Int.one_mul, Int.mul_one]
    have h1 : x * (P * P) = P * (x * P) := by rw [← Int.mul_assoc, Int.mul_comm]
    have h2 : P * x = x * P := Int.mul_comm ..
    omega
  rw [e]
  exact ⟨Int.mul_ediv_cancel_left _ (by omega), Int.mul_emod_right _ _⟩
theorem left_eq {u v : List Nat} (hv : Figs v) : vw (u ++ v) / 32 ^ v.length = vw u ∧ vw (u ++ v) % 32 ^ v.length = vw v := by
  obtain ⟨h0, h1⟩ := vw_range v hv.le
  have p := p32_pos v.length
  exact (Int.ediv_emod_unique p).mpr ⟨by rw [vw_append, Int.add_comm, Int.mul_comm], h0, h1⟩
def intsOf (u : List Nat) : List Int := u.map fun f : Nat => (f : Int)
theorem d2i_vw : ∀ u : List Nat, d2i 5 (intsOf u).reverse = vw u
  | [] => rfl
  | d :: r => by
    rw [intsOf, List.map_cons, List.reverse_cons, d2i_append, vw_cons]
    have := d2i_vw r
    rw [intsOf] at this
    rw [this, List.length_reverse, List.length_map, ← p32_two]
    simp only [d2i, Int.mul_zero, Int.add_zero]
    rw [Int.mul_comm]; omega
theorem intsOf_snoc (u : List Nat) (d : Nat) : intsOf (u ++ [d]) = intsOf u ++ [(d : Int)] := by simp [intsOf]
/-- the number's figures, read off -/
theorem i2d_vw : ∀ k (u : List Nat), u.length = k → (∀ d ∈ u, d ≤ 31) → (i2d 5 k (vw u)).reverse = intsOf u
  | 0, u, h, _ => by rw [List.length_eq_zero_iff.mp h]; rfl
  | k + 1, u, h, hf => by
    have hne : u ≠ [] := fun e => by rw [e] at h; simp at h
    obtain ⟨v, d, rfl⟩ : ∃ v d, u = v ++ [d] := ⟨u.dropLast, u.getLast hne, (List.dropLast_concat_getLast hne).symm⟩
    have hd : d ≤ 31 := hf d (by simp)
    have e : vw (v ++ [d]) = vw v * 32 + d := by rw [vw_append]; simp [vw]
    simp only [i2d, List.reverse_cons]
    have e32 : (2 : Int) ^ 5 = 32 := rfl
    rw [e, e32, show (vw v * 32 + (d : Int)) / 32 = vw v by omega, show (vw v * 32 + (d : Int)) % 32 = d by omega, i2d_vw k v (by simpa using h) (fun x hx => hf x (List.mem_append_left _ hx)), intsOf_snoc]
theorem best_strs (key : Nat → List Nat) : ∀ k, argBest (fun i j => decide (key i < key j)) k ≤ k ∧ ∀ j, j ≤ k → key (argBest (fun i j => decide (key i < key j)) k) ≤ key j
  | 0 => ⟨Nat.le_refl _, fun j hj => by have : j = 0 := by omega
                                        subst this; exact List.le_refl _⟩
  | k + 1 => by
    obtain ⟨h1, h2⟩ := best_strs key k
    simp only [argBest]
    by_cases hc : key (k + 1) < key (argBest (fun i j => decide (key i < key j)) k)
    · simp only [hc, decide_true, if_true]
      refine ⟨Nat.le_refl _, fun j hj => ?_⟩
      rcases Nat.lt_or_ge k j with h | h
      · have : j = k + 1 := by omega
        subst this; exact List.le_refl _
      · exact List.le_trans (List.le_of_lt hc) (h2 j h)
    · simp only [hc, decide_false, Bool.false_eq_true, if_false]
      refine ⟨by omega, fun j hj => ?_⟩
      rcases Nat.lt_or_ge k j with h | h
      · have : j = k + 1 := by omega
        subst this; exact List.not_lt.mp hc
      · exact h2 j h
theorem strs_at : ∀ {vs : List Value} {ys : List Str}, StrsAre vs ys → ∀ (i : Nat) (v : Value), vs[i]? = some v → ∃ y t, ys[i]? = some y ∧ v = .str y t
  | _, _, .cons y t r, 0, v, h => ⟨y, t, rfl, by simpa using h.symm⟩
  | _, _, .cons y t r, i + 1, v, h => by
    obtain ⟨y', t', h1, h2⟩ := strs_at r i v (by simpa using h)
    exact ⟨y', t', by simpa using h1, h2⟩
theorem strs_len : ∀ {vs : List Value} {ys : List Str}, StrsAre vs ys → vs.length = ys.length
  | _, _, .nil => rfl
  | _, _, .cons _ _ r => by simp [strs_len r]
section
variable {prog : Program} {w : World} {A : Around} {E : Value → Shared → Prop} {s : Shared} {g : Heap} {L D l : Addr} {m : Str → Option Value} {news : List (Addr × Obj)} {Q : Value → Shared → Prop}
theorem min_strs {ws : List Value} {ys : List Str} (hh : A.handled = none) (F : Fr g L s.heap m) (N : News g L s.heap news) (hl : s.heap.IsList l ws.toArray) (hi : StrsAre ws ys) (hne : 0 < ys.length)
    (h : ∀ h' y t tk, Fr g L h' m → News g L h' news → y ∈ ys → (∀ z ∈ ys, y.cps.toList ≤ z.cps.toList) → Q (.str y t) { s with heap := h', toks := tk }) : wpAny (model prog w) A (call (.builtin "min") [.ref l]) Q E s := by
  have hlt : l < s.heap.objs.size := by obtain ⟨_, e, _⟩ := hl; exact Heap.lt_size e
  have el := strs_len hi
  obtain ⟨key, hkey⟩ : ∃ key : Nat → List Nat, ∀ i y, ys[i]? = some y → key i = y.cps.toList := ⟨fun i => (ys.getD i default).cps.toList, fun i y e => by simp [List.getD_eq_getElem?_getD, e]⟩
  refine call_min_walk (wpAny_pyIter_list hl ?_)
  refine ⟨s.heap.objs.size, _, _, _, _, _, fun i j => decide (key i < key j), rfl, Walks.list (A := A.in1) hh s.heap.objs.size l (Nat.ne_of_lt hlt) ws.toArray, ⟨⟨_, Heap.get?_push_size _ rfl, rfl, rfl⟩, hl.push _⟩, ?_, ?_, ?_, ?_⟩
  · intro b hb
    show b < (s.heap.push _).objs.size
    rw [Heap.size_push]
    rcases List.mem_cons.mp hb with rfl | hb
    · exact Nat.lt_succ_self _
    · rw [List.mem_singleton.mp hb]; exact Nat.lt_succ_of_lt hlt
  · rw [List.size_toArray, el]; exact hne
  · intro i j vi vj s' Q' E' hi' hj' hq
    obtain ⟨y, t, ey, rfl⟩ := strs_at hi i vi (by simpa using hi')
    obtain ⟨z, u, ez, rfl⟩ := strs_at hi j vj (by simpa using hj')
    simp only [] at hq
    rw [hkey i y ey, hkey j z ez] at hq
    exact lt_str (s := s') hq
  · intro v h' tk hv hk
    rw [List.size_toArray, el] at hv
    obtain ⟨y, t, ey, rfl⟩ := strs_at hi _ v (by simpa using hv)
    obtain ⟨b1, b2⟩ := best_strs key (ys.length - 1)
    have up : ∀ b o, s.heap.get? b = some o → h'.get? b = some o := fun b o e => hk b o (fun hb => by rw [List.mem_singleton.mp hb] at e; exact Nat.lt_irrefl _ (Heap.lt_size e)) (Heap.get?_push_of_some _ e)
    refine h h' y t tk (F.grownK up) (N.grown up) (List.mem_of_getElem? ey) fun z hz => ?_
    obtain ⟨j, hj, ez⟩ := List.mem_iff_getElem.mp hz
    have := b2 j (by omega)
    rwa [hkey _ y ey, hkey j z (by rw [List.getElem?_eq_getElem hj, ez])] at this
theorem insert_m {its : List Value} {n : Nat} {x : Value} {u : Tok} (rest : List (Addr × Obj)) (F : Fr g L s.heap m) (N : News g L s.heap news) (hm : (D, listOf its.toArray n) ∈ news) (hs : ∀ p ∈ rest, p ∈ news) (hne : ∀ p ∈ rest, p.1 ≠ D) (hsz : its.length ≤ 1000)
    (h : ∀ h', Fr g L h' m → News g L h' ((D, listOf (x :: its).toArray (n + 1)) :: rest) → Q .none { s with heap := h' }) : wpAny (model prog w) A (call (.builtin "list.insert") [.ref D, .int 0 u, x]) Q E s :=
  kl_insert F (fun p hp => N p ((List.mem_cons.mp hp).elim (fun e => e ▸ hm) (hs p))) (by decide) (l := x :: its) (by simp [kl_ins]) (Upd.head hne) (by rw [List.toList_toArray, sizeLine_eq]; omega) h
end
theorem word_from {u : List Nat} {i : Int} (h0 : 0 ≤ i) (h1 : i ≤ u.length) : Txt.slice (wordOf u) (some i) none = wordOf (u.drop i.toNat) := by
  rw [slice_from_eq h0 (by rw [wordOf_len]; exact h1) rfl]
  unfold wordOf
  rw [List.take_of_length_le (by simp [Str.length]; omega)]
  simp
theorem word_upto {u : List Nat} {j : Int} (h0 : 0 ≤ j) (h1 : j ≤ u.length) : Txt.slice (wordOf u) none (some j) = wordOf (u.take j.toNat) := by
  rw [eq_of_beq (slice_closes_to (x := wordOf u) (j := j) ⟨h0, by simpa [wordOf] using h1⟩)]
  unfold wordOf
  simp
section
variable {prog : Program} {w : World} {A : Around} {E : Value → Shared → Prop} {s : Shared} {g : Heap} {L : Addr} {m : Str → Option Value} {news : List (Addr × Obj)} {value slice : Expr} {u : List Nat} {t ui : Tok} {i : Int} {Q : Value → Shared → Prop}
theorem slice_from_w (hF : Fr g L s.heap m) (hN : News g L s.heap news) (h0 : 0 ≤ i) (h1 : i ≤ u.length) (hz : u.length ≤ 1000) (h : ∀ h' t' k, Fr g L h' m → News g L h' news → Q (.str (wordOf (u.drop i.toNat)) t') { s with heap := h', toks := k })
    (hs : subscripted slice false (.str (wordOf u) t) (.ref s.heap.objs.size) = operate [.ref s.heap.objs.size, .str (wordOf u) t] (getItem (.str (wordOf u) t) (.ref s.heap.objs.size))) (ht : ∀ r, letTemporaryGo value (.str (wordOf u) t) r = pure ()) :
    wpAny (model prog w) A (subscriptTail value slice (.str (wordOf u) t) (.ref s.heap.objs.size)) Q E { s with heap := s.heap.push { cls := .type "slice", data := .fields #[.int i ui, .none, .none] } } :=
  slice_strN_sn hF hN (fun h' t' k a b => by rw [word_from h0 h1]; exact h h' t' k a b) hs ht (by rw [wordOf_len, sizeLine_eq]; omega)
theorem slice_upto_w (hF : Fr g L s.heap m) (hN : News g L s.heap news) (h0 : 0 ≤ i) (h1 : i ≤ u.length) (hz : u.length ≤ 1000) (h : ∀ h' t' k, Fr g L h' m → News g L h' news → Q (.str (wordOf (u.take i.toNat)) t') { s with heap := h', toks := k })
    (hs : subscripted slice false (.str (wordOf u) t) (.ref s.heap.objs.size) = operate [.ref s.heap.objs.size, .str (wordOf u) t] (getItem (.str (wordOf u) t) (.ref s.heap.objs.size))) (ht : ∀ r, letTemporaryGo value (.str (wordOf u) t) r = pure ()) :
    wpAny (model prog w) A (subscriptTail value slice (.str (wordOf u) t) (.ref s.heap.objs.size)) Q E { s with heap := s.heap.push { cls := .type "slice", data := .fields #[.none, .int i ui, .none] } } :=
  slice_strN_ns hF hN (fun h' t' k a b => by rw [word_upto h0 h1]; exact h h' t' k a b) hs ht (by rw [wordOf_len, sizeLine_eq]; omega)
end
theorem kw36 : True := by (k_with "subscriptTail" => (((with_reducible show wpAny _ _ (subscriptTail _ (Expr.Slice (some _) none none _) (Value.str (wordOf _) _) _) _ _ _); k_dflt (refine' slice_from_w (s := ⟨_, _, _, _, _⟩) (by assumption) (by assumption) (by omega) (by omega) (by omega) ?_ (by with_unfolding_all rfl) (by intro _; with_unfolding_all rfl)); intro _ _ _ _ _))); trivial
theorem kw37 : True := by (k_with "subscriptTail" => (((with_reducible show wpAny _ _ (subscriptTail _ (Expr.Slice none (some _) none _) (Value.str (wordOf _) _) _) _ _ _); k_dflt (refine' slice_upto_w (s := ⟨_, _, _, _, _⟩) (by assumption) (by assumption) (by omega) (by omega) (by omega) ?_ (by with_unfolding_all rfl) (by intro _; with_unfolding_all rfl)); intro _ _ _ _ _))); trivial
theorem lx_map {u v : List Nat} : u.map (· + 64) < v.map (· + 64) ↔ u < v := by
  induction u generalizing v with
  | nil => cases v <;> simp
  | cons a r ih =>
    cases v with
    | nil => simp
    | cons b t => rw [List.map_cons, List.map_cons, List.cons_lt_cons_iff, List.cons_lt_cons_iff, ih]; simp
theorem least_of {u : List Nat} {y : Str} (hy : y ∈ (rangeKs 0 u.length).map fun k => wordOf (u.drop k.toNat)) (hmin : ∀ z ∈ (rangeKs 0 u.length).map fun k => wordOf (u.drop k.toNat), y.cps.toList ≤ z.cps.toList) :
    ∃ u1 v1, u = u1 ++ v1 ∧ v1 ≠ [] ∧ y = wordOf v1 ∧ ∀ k, k < u.length → ¬ u.drop k < v1 := by
  obtain ⟨k, hk, rfl⟩ := List.mem_map.mp hy
  have hk' := mem_rangeKs hk
  refine ⟨u.take k.toNat, u.drop k.toNat, (List.take_append_drop ..).symm, fun e => ?_, rfl, fun j hj => ?_⟩
  · have := congrArg List.length e
    rw [List.length_drop] at this
    simp at this; omega
  · have := hmin (wordOf (u.drop j)) (List.mem_map.mpr ⟨(j : Int), List.mem_map.mpr ⟨j, List.mem_range.mpr hj, by omega⟩, by rw [Int.toNat_natCast]⟩)
    intro h
    refine List.not_lt.mpr this ?_
    unfold wordOf
    exact lx_map.mpr h
/-- the state of the while: the word left, the cuts made -/
def CSt (fs : List Nat) (cl L : Addr) (u : List Nat) (cs : List (List Nat)) (m : Str → Option Value) (rest : List (Addr × Obj)) : Prop :=
  ∃ ws e o tu, m "cuts" = some (.ref cl) ∧ rest = [(cl, listOf ws.toArray e), (L + 1, o)] ∧ o.data = .cell (some (.str (wordOf u) tu)) ∧ StrsAre ws (cs.map wordOf) ∧ (∀ c0, CutsAre u c0 → CutsAre fs (c0 ++ cs)) ∧ (∃ v, fs = u ++ v) ∧ cs.length + u.length ≤ 8
def CEnd (fs : List Nat) (cl : Addr) (g : Heap) (L : Addr) (s : Shared) (r : Result) (s' : Shared) : Prop :=
  r = .ok .next ∧ ∃ h' tk' m' rest' tb' cs, s' = { s with heap := h', toks := tk' } ∧ Tb tb' ∧ Fr g L h' m' ∧ News g L h' (rest' ++ tb') ∧ CSt fs cl L [] cs m' rest'
section
variable {w : World} {loose : List Str} {mean : ExcName → Option Value} {mg mb : Str → Option Value} {g₀ : Heap}
theorem range_size (n : Nat) : Builtin.Range.rangeSize 0 (n : Int) 1 = (n : Int) := by
  unfold Builtin.Range.rangeSize
  split
  · split <;> omega
  · omega
theorem range_small {n : Nat} (h : n ≤ 1000) : Builtin.Range.small 0 (n : Int) 1 = true := by
  unfold Builtin.Range.small
  rw [range_size]
  simp [Builtin.Range.rangeFitsLong]
  omega
theorem len_word {A : Around} {E : Value → Shared → Prop} {s : Shared} {u : List Nat} {t : Tok} {Q : Value → Shared → Prop} (hu : u.length ≤ 1000) (h : ∀ t tk, Q (.int (u.length : Nat) t) { s with toks := tk }) : wpAny (model Challenge.rw_pg0144_01.row.prog w) A (call (.builtin "len") [.str (wordOf u) t]) Q E s :=
  P.len_str (by rw [wordOf_len]; omega) (by rw [wordOf_len]; exact h _ _)
end
theorem kw38 : True := by (k_with "call builtin:len" => ((k_dflt (refine' len_word (by omega) ?_); intro _ _))); trivial
section
variable {w : World} {loose : List Str} {mean : ExcName → Option Value} {mg mb : Str → Option Value} {g₀ : Heap}
theorem envC_eq {q : Str} {sc : Scope} {L a : Addr} {cd : Value} {cl : List (Str × Addr)} (h : cellsFrom (L + 1) sc.names [] = cl) : envOfC q sc L a cd = envX q sc L a cd cl := by rw [← h]; rfl
theorem cell_name {A : Around} {E : Value → Shared → Prop} {s : Shared} {h₀ : Heap} {L c : Addr} {news : List (Addr × Obj)} {qual : Str} {scope : Scope} {f : Addr} {cdv : Value} {cl : List (Str × Addr)} {x : Str} {pos : Pos} {v : Value} {o : Obj} {Q : Value → Shared → Prop}
    (N : News h₀ L s.heap news) (hm : (c, o) ∈ news) (hd : o.data = .cell (some v)) (h : Q v s) (hc : cl.lookup x = some c) (hk : (envX qual scope L f cdv cl).scope.kind = .function) (hx : (envX qual scope L f cdv cl).kindOf x = some .cell) (hb : (x == ("__debug__" : Str)) = false) :
    wpAny (model Challenge.rw_pg0144_01.row.prog w) A (eval (.Name x pos) (envX qual scope L f cdv cl)) Q E s := wpAny_Name (wpAny_loadName_cell hk hx hc ⟨o, N.get hm, hd⟩ h) hb
end
theorem kw39 : True := by (k_with "eval Name" => ((k_dflt (refine' cell_name ?yN ?ym ?yd ?_ ?yc ?yk ?yx ?yb; (case yx => rfl); (case yc => rfl); (case yk => rfl); (case yb => decide); (case yN => assumption); (case yd => assumption); (case ym => walk_at "m mem"))))); trivial
theorem kw40 : True := by (k_with "eval Name" => ((k_dflt (refine' nameX_B ?yF ?yX ?yT ?ye ?yv ?yn ?_ ?ya ?yb; (case ya => rfl); (case yb => rfl); (case yF => assumption); (case yX => assumption); (case yT => exact topRead_of (by assumption)); (case ye => k_is); (case yv => boot_fast); (case yn => decide))))); trivial
theorem kw41 : True := by (k_with "eval Name" => (((with_reducible show wpAny _ _ (eval (Expr.Name _ _) (compEnvC _ _ _ _)) _ _ _); k_dflt (first   | (refine' lcf_free ?yN ?yc ?ym ?yd ?_ ?ya ?yb; (case ya => rfl); (case yb => rfl); (case yN => assumption); (case yc => rfl); (case yd => assumption); (case ym => walk_at "m mem"))   | (refine' ld_own ?yN ?ym ?yc ?yd ?_ ?ya ?yb; (case ya => rfl); (case yb => rfl); (case yN => assumption); (case yd => assumption); (case yc => assumption); (case ym => walk_at "m mem")))))); trivial
section
variable {w : World} {loose : List Str} {mean : ExcName → Option Value} {mg mb : Str → Option Value} {g₀ : Heap}
local macro_rules | `(tactic| walk_at "eval ListComp") => `(tactic| (k_dflt (refine barrier ?_)))
theorem law_cuts (fs : List Nat) (t : Tok) : Fn w loose mean mg mb g₀ 124 [.str (wordOf fs) t] 3 (fun _ => (∀ f ∈ fs, 1 ≤ f ∧ f ≤ 26) ∧ fs.length ≤ 8)
    (fun v tl => ∃ x ws e cs, v = .ref x ∧ tl = [(x, listOf ws.toArray e)] ∧ StrsAre ws (cs.map wordOf) ∧ CutsAre fs cs) := by
  intro A s Q E I hh hdp hun hpre hret
  obtain ⟨hp1, hp2⟩ := hpre
  have hX : (hd.heap_39 w.params).In s.heap ∧ (Challenge.rw_pg0144_01 = Challenge.rw_pg0144_01) := by k_fill; exact ⟨I.X, rfl⟩
  k_dflt (refine' enterC (binds := [("word", .str (wordOf fs) t)]) I ?kd ?ko ?kc ?kb ?kl ?kn ?_ ?c2 ?c3 ?c4; (case kd => exact room0 (by assumption)); (case ko => k_is); (case kc => k_is); (case kb => exact BindsTo.of_eq rfl); (case kl => exact rfl); (case kn => decide +kernel); (case c2 => exact rfl); (case c3 => exact rfl); (case c4 => exact rfl))
  intro g tb L h₁ tk cells D B F N Y keep sub lt
  have X := D.X
  have T := D.T
  have R := Ret.mk hret D keep
  obtain ⟨o1, rfl, d1⟩ := CellsAre.one Y
  clear Y I hret hX sub keep
  simp only [List.cons_append, List.nil_append] at N
  rw [envC_eq (cl := [("word", L + 1)]) rfl] at F ⊢
  walk_at "m go"
  rename_i cl hA ltr h2 F2 N2
  refine while_to (A := A.deeper _) (g := g) (L := L) (n := fs.length) (rest := [(cl, listOf [].toArray 0), (L + 1, o1)]) (tb := tb) (CEnd fs cl g L) (fun k m rest => ∃ u cs, k = u.length ∧ CSt fs cl L u cs m rest) B F2 N2 ?_ ?_ ?_
  · exact ⟨fs, [], rfl, [], 0, o1, t, rfl, rfl, d1, .nil, fun c0 h => by rw [List.append_nil]; exact h, ⟨[], by simp⟩, by simpa using hp2⟩
  · rintro k m₂ rest₂ tb₂ h₂ tk₂ ⟨u, cs, rfl, ws, e, o, tu, hcu, rfl, hdo, hws, hcut, ⟨v, hv⟩, hlen⟩ B₂ F₂ N₂
    simp only [List.cons_append, List.nil_append] at N₂
    cases u with
    | nil =>
      walk_at "m go"
      exact wtest_false ⟨rfl, _, _, m₂, _, tb₂, cs, rfl, B₂, F₂, N₂, ws, e, o, tu, hcu, rfl, hdo, hws, hcut, ⟨v, hv⟩, hlen⟩
    | cons a r =>
      obtain ⟨u, hu⟩ : ∃ u, u = a :: r := ⟨_, rfl⟩
      rw [← hu] at hdo hcut hlen hv ⊢
      have hne : (wordOf u != Str.ofString "") = true := by
        rw [hu, bne_iff_ne]
        intro e
        have := congrArg Str.length e
        rw [wordOf_len] at this
        cases this
      have hul : 1 ≤ u.length := by rw [hu]; simp
      clear hu
      walk_at "m go"
      rw [hne]
      refine wtest_true ?_
      walk_at "m go"
      refine LCg.ListComp_U (F₀ := F₂) (by with_unfolding_all rfl) (by decide) rfl (by decide) rfl ?_
      walk_at "m go"
      rename_i hr3 F3 N3 k3
      refine LCg.CompSrc.range (n := u.length) hh F3 N3 hr3 ?rsm ?rsz (by rw [sizeLine_eq]; omega) fun g3 => ?_
      case rsm => exact range_small (by omega)
      case rsz => exact range_size _
      refine kct_range (fun k => wordOf (u.drop k.toNat)) ?_ ?_
      · intro k t5 I5 oI5 C5 oC5 D5 m5 ys5 h5 tk5 E5 hk1 hk2 hC5 hx5 F5 N5 off5 ne5 mk5
        walk_at "m go"
        rename_i F6 N6
        exact LCg.CompEnd.intro F6 N6 _ (fun p hp => hp) off5 True.intro ⟨rfl, _, rfl⟩
      · intro ys hys hyl
        unfold LCg.FinE
        intro D7 h7 tk7 F7 N7 o7
        simp only [LCg.Off1] at o7
        walk_at "m go"
        refine min_strs (ws := ys) (ys := (rangeKs 0 u.length).map fun k => wordOf (u.drop k.toNat)) hh F7 N7 ⟨_, (N7 _ (.head _)).1, rfl, _, rfl⟩ hys.strsOf (by rw [List.length_map, hyl]; exact hul) ?_
        intro h8 y t8 tk8 F8 N8 hy hmin
        obtain ⟨u1, v1, hu1, hv1, rfl, hleast⟩ := least_of hy hmin
        have hl2 : u.length = u1.length + v1.length := by rw [hu1, List.length_append]
        have hl3 : 1 ≤ v1.length := List.length_pos_iff.mpr hv1
        have hwl := strs_len hws
        rw [List.length_map] at hwl
        have ncl : L + 1 ≠ cl := Nat.ne_of_lt ltr.1
        clear hy hmin F7 N7 hys hyl o7 F3 N3 k3 hr3
        walk_at "m go"
        rename_i h8' F8' N8'
        refine insert_m ((L + 1, o) :: tb₂) F8' N8' (.tail _ (.head _)) (fun p hp => .tail _ (.tail _ hp)) (fun p hp => ?_) (by omega) ?_
        · rcases List.mem_cons.mp hp with rfl | hp
          · exact ncl
          · exact tb_ne N8' (.tail _ (.tail _ (.tail _ hp))) (B₂.h p hp) (show (cl, _) ∈ _ from .tail _ (.head _)) rfl
        intro h9 F9 N9
        walk_at "m go"
        rename_i h10 t10 k10 F10 N10
        refine store_cell (cl := [("word", L + 1)]) (c := L + 1) (o := o) ((cl, listOf (Value.str (wordOf v1) t8 :: ws).toArray (e + 1)) :: tb₂) F10 N10 rfl (.tail _ (.head _)) (fun p hp => ?_) (fun p hp e => ?_) hdo ?_ rfl rfl
        · rcases List.mem_cons.mp hp with rfl | hp
          · exact .head _
          · exact .tail _ (.tail _ hp)
        · rcases List.mem_cons.mp hp with rfl | hp
          · exact absurd e.symm ncl
          · exact hid_ncell (B₂.h p hp) _
        intro h11 o11 F11 N11 hd11
        walk_at "m go"
        refine ⟨rfl, u1.length, _, _, _, [(cl, listOf (Value.str (wordOf v1) t8 :: ws).toArray (e + 1)), (L + 1, o11)], tb₂, by omega, rfl, B₂, F11, fun p hp => N11 p ?_, u1, v1 :: cs, rfl, Value.str (wordOf v1) t8 :: ws, e + 1, o11, t10, hcu, rfl, ?_, .cons _ _ hws, fun c0 h => ?_, ⟨v1 ++ v, by rw [hv, hu1, List.append_assoc]⟩, by simp only [List.length_cons]; omega⟩
        · rcases List.mem_cons.mp hp with rfl | hp
          · exact .tail _ (.head _)
          · rcases List.mem_cons.mp hp with rfl | hp
            · exact .head _
            · exact .tail _ (.tail _ hp)
        · rw [hd11, hu1, show ((((u1 ++ v1).length : Nat) : Int) - (v1.length : Int)).toNat = u1.length by rw [List.length_append]; omega, List.take_left]
        · have := hcut (c0 ++ [v1]) (by rw [hu1] at hleast ⊢; exact .snoc hv1 hleast h)
          simpa using this
  · rintro _ _ ⟨rfl, h', tk', m', rest', tb', cs, rfl, B', F', N', ⟨ws, e, o, tu, hcu, rfl, hdo, hws, hcut, _, _⟩⟩
    simp only [List.cons_append, List.nil_append] at N'
    walk_at "m go"
    exact done_ [(cl, _)] R B' F' N' (fun p hp => by rw [List.mem_singleton.mp hp]; exact .head _) (fun p hp => .tail _ (.tail _ hp)) rfl ⟨cl, ws, e, cs, rfl, rfl, hws, by simpa using hcut [] .nil⟩ rfl
end
mutual
/-- a value as the ledger bears it, as data -/
inductive Led (news : List (Addr × Obj)) : Value → PyData → Prop
  | int (i : Int) (t : Tok) : Led news (.int i t) (.int i)
  | str (x : Str) (t : Tok) : Led news (.str x t) (.str x)
  | list {a : Addr} {vs : List Value} {e : Nat} {ds : List PyData} : (a, listOf vs.toArray e) ∈ news → LedAll news vs ds → Led news (.ref a) (.list ds)
  | tuple {a : Addr} {vs : List Value} {ds : List PyData} : (a, tupO vs) ∈ news → LedAll news vs ds → Led news (.ref a) (.tuple ds)
inductive LedAll (news : List (Addr × Obj)) : List Value → List PyData → Prop
  | nil : LedAll news [] []
  | cons {v : Value} {vs : List Value} {d : PyData} {ds : List PyData} : Led news v d → LedAll news vs ds → LedAll news (v :: vs) (d :: ds)
end
mutual
theorem Led.mono {news news' : List (Addr × Obj)} (hs : ∀ p ∈ news, p ∈ news') : ∀ {v : Value} {d : PyData}, Led news v d → Led news' v d
  | _, _, .int i t => .int i t
  | _, _, .str x t => .str x t
  | _, _, .list h r => .list (hs _ h) (LedAll.mono hs r)
  | _, _, .tuple h r => .tuple (hs _ h) (LedAll.mono hs r)
theorem LedAll.mono {news news' : List (Addr × Obj)} (hs : ∀ p ∈ news, p ∈ news') : ∀ {vs : List Value} {ds : List PyData}, LedAll news vs ds → LedAll news' vs ds
  | _, _, .nil => .nil
  | _, _, .cons h r => .cons (Led.mono hs h) (LedAll.mono hs r)
end
mutual
theorem Led.reads {g h : Heap} {L : Addr} {news : List (Addr × Obj)} (N : News g L h news) : ∀ {v : Value} {d : PyData}, Led news v d → ∃ as, Reads h v d as
  | _, _, .int i t => ⟨_, .int i t⟩
  | _, _, .str x t => ⟨_, .str x t⟩
  | _, _, .list hm r => let ⟨_, x⟩ := LedAll.reads N r; ⟨_, .list (N _ hm).1 rfl rfl x⟩
  | _, _, .tuple hm r => let ⟨_, x⟩ := LedAll.reads N r; ⟨_, .tuple (N _ hm).1 rfl rfl x⟩
theorem LedAll.reads {g h : Heap} {L : Addr} {news : List (Addr × Obj)} (N : News g L h news) : ∀ {vs : List Value} {ds : List PyData}, LedAll news vs ds → ∃ as, ReadsAll h vs ds as
  | _, _, .nil => ⟨_, .nil⟩
  | _, _, .cons h r => let ⟨_, x⟩ := Led.reads N h; let ⟨_, y⟩ := LedAll.reads N r; ⟨_, .cons x y⟩
end
theorem LedAll.append {news : List (Addr × Obj)} : ∀ {vs ws : List Value} {ds es : List PyData}, LedAll news vs ds → LedAll news ws es → LedAll news (vs ++ ws) (ds ++ es)
  | _, _, _, _, .nil, h => h
  | _, _, _, _, .cons hm r, h => .cons hm (r.append h)
theorem LedAll.len {news : List (Addr × Obj)} : ∀ {vs : List Value} {ds : List PyData}, LedAll news vs ds → vs.length = ds.length
  | _, _, .nil => rfl
  | _, _, .cons _ r => by simp [r.len]
/-- what the law owes of one piece -/
def dueItem (n : Nat) (c : List Nat) : PyData := .list [.int (vw c), .str (shownOf (intsOf (frontW c n))), .str (shownOf (intsOf (turnW c (n % c.length)))), .tuple [.int (vw c * 32 ^ c.length + vw c), .int 0]]
def dueData (n : Nat) (cs : List (List Nat)) : List PyData := cs.reverse.map (dueItem n) ++ [.tuple [.int 0, .int 0]]
theorem shown_pre {u : List Nat} (hne : u ≠ []) (hf : Figs u) (hz : u.length ≤ 40) : 0 ≤ vw u ∧ vw u < 2 ^ 200 ∧ (i2d 5 ((Builtin.Int.intBits (vw u) + 5 - 1) / 5) (vw u)).reverse = intsOf u ∧ ∀ f ∈ intsOf u, 1 ≤ f ∧ f ≤ 26 := by
  obtain ⟨h0, h1⟩ := vw_range u hf.le
  have hl := vw_low u hne fun d hd => by have := hf d hd; omega
  have hlen := List.length_pos_iff.mpr hne
  rw [p32_two] at h1 hl
  refine ⟨h0, Int.lt_of_lt_of_le h1 (two_mono (by omega)), ?_, fun f hf' => ?_⟩
  · have b1 : Builtin.Int.intBits (vw u) ≤ 5 * u.length := intBits_small h0 h1
    have b2 : ¬ Builtin.Int.intBits (vw u) ≤ 5 * (u.length - 1) := fun hb => by
      have h2 := bits_of h0
      have h3 := Int.lt_of_lt_of_le h2 (two_mono hb)
      omega
    rw [show (Builtin.Int.intBits (vw u) + 5 - 1) / 5 = u.length by omega]
    exact i2d_vw _ u rfl hf.le
  · obtain ⟨d, hd, rfl⟩ := List.mem_map.mp hf'
    have := hf d hd
    omega
theorem letter_fin : ∀ n : Fin 26, Txt.find (Str.ofString "ABCDEFGHIJKLMNOPQRSTUVWXYZ") ⟨#[n.val + 1 + 64]⟩ = (n.val : Int) := by decide +kernel
theorem letter_of {f : Nat} (h1 : 1 ≤ f) (h2 : f ≤ 26) : Txt.find (Str.ofString "ABCDEFGHIJKLMNOPQRSTUVWXYZ") ⟨#[f + 64]⟩ = (f : Int) - 1 := by
  have := letter_fin ⟨f - 1, by omega⟩
  simp only [show f - 1 + 1 = f by omega] at this
  rw [this]; omega
theorem loop_str {w : World} {A : Around} {s : Shared} {R : Result → Shared → Prop} {E : Value → Shared → Prop} {target : Expr} {body : List Stmt} {env : Env} {g : Heap} {L : Addr} {u : List Nat} {t : Tok} {m : Str → Option Value} {rest tb : List (Addr × Obj)}
    (J : Nat → (Str → Option Value) → List (Addr × Obj) → Prop) (hu : ∀ f ∈ u, f < 64) (hh : A.handled = none)
    (B : Tb tb) (F : Fr g L s.heap m) (N : News g L s.heap (rest ++ tb)) (j0 : J 0 m rest)
    (turn : ∀ I i f tf m₁ rest₁ tb₁ io₁ h tk, u[i]? = some f → (∀ p ∈ rest, p.1 < I) → J i m₁ rest₁ → Tb tb₁ → hid io₁ = false → Fr g L h m₁ → News g L h ((I, io₁) :: (rest₁ ++ tb₁)) → (∀ p ∈ rest₁, p.1 ≠ I) →
      wpAny (model Challenge.rw_pg0144_01.row.prog w) A (assign target env (.str ⟨#[f + 64]⟩ tf)) (fun _ s₂ => wpAny (model Challenge.rw_pg0144_01.row.prog w) A (execs body env) (TurnOk g L I io₁ s (J (i + 1))) (fun _ _ => False) s₂) (fun _ _ => False) { s with heap := h, toks := tk })
    (done : ∀ m₁ rest₁ tb₁ h tk, J u.length m₁ rest₁ → Tb tb₁ → Fr g L h m₁ → News g L h (rest₁ ++ tb₁) → R (.ok .next) { s with heap := h, toks := tk })
    (ht : ∀ I v, letOwnedTupleGo target (.ref I) v = pure () := by intro _ _; rfl) :
    wpAny (model Challenge.rw_pg0144_01.row.prog w) A (pyIter (.str (wordOf u) t)) (fun it s₂ => codeAny (model Challenge.rw_pg0144_01.row.prog w) A (.forLoop target it body [] env) R s₂) E s := by
  refine wpAny_pyIter_ascii (word_ascii hu) ?_
  have W := Walks.strAscii (prog := Challenge.rw_pg0144_01.row.prog) (w := w) hh s.heap.objs.size (wordOf u) t
  have es : (wordOf u).cps.size = u.length := by simp [wordOf]
  have hlt : ∀ p ∈ rest, p.1 < s.heap.objs.size := fun p hp => Heap.lt_size (N p (List.mem_append_left _ hp)).1
  refine loop_m J W (fun i h st => hid_strIter st) (fun b hb hne => absurd (List.mem_singleton.mp hb) hne) B (F.push _) (News.push F N _) (fun p hp => Nat.ne_of_lt (hlt p hp)) ⟨_, Heap.get?_push_size _ rfl, rfl, rfl⟩ j0 ?_ (fun m₁ rest₁ tb₁ h tk j B' F' N' _ => done m₁ rest₁ tb₁ h tk (es ▸ j) B' F' N') (ht _)
  rintro i v m₁ rest₁ tb₁ io₁ h tk hi ⟨c, tf, hc, rfl⟩ j B₁ hio F₁ N₁ hI₁
  obtain ⟨f, hf, rfl⟩ := word_cps hc
  exact turn _ i f tf m₁ rest₁ tb₁ io₁ h tk hf hlt j B₁ hio F₁ N₁ hI₁
section
variable {prog : Program} {w : World} {A : Around} {E : Value → Shared → Prop} {s : Shared} {a b r : Int} {t u : Tok} {Q : Value → Shared → Prop}
theorem mod_E (e : a.fmod b = r) (hb : b ≠ 0) (h : Q (.int r s.toks) { s with toks := s.toks + 1 }) : wpAny (model prog w) A (binaryOp .Mod (.int a t) (.int b u)) Q E s := mod_int' hb (e ▸ h)
theorem find_E {x y : Str} (e : Txt.find x y = r) (h : Q (.int r s.toks) { s with toks := s.toks + 1 }) : wpAny (model prog w) A (call (.builtin "str.find") [.str x t, .str y u]) Q E s := SC.find (e ▸ h)
theorem reps_word (v : List Nat) : ∀ (n : Nat) (acc : Array Nat), (List.replicate n (wordOf v).cps).foldl (· ++ ·) acc = acc ++ ((List.replicate n v).flatten.map (· + 64)).toArray
  | 0, acc => by simp
  | n + 1, acc => by
    rw [List.replicate_succ, List.foldl_cons, reps_word v n, List.replicate_succ, List.flatten_cons, List.map_append]
    simp [wordOf]
theorem mul_word {v : List Nat} {n : Nat} (hz : v.length ≤ 1000) (hn : n ≤ 1000) (h : ∀ t' k, Q (.str (wordOf (List.replicate n v).flatten) t') { s with toks := k }) : wpAny (model prog w) A (binaryOp .Mult (.str (wordOf v) t) (.int (n : Nat) u)) Q E s := by
  refine SB.mul (mulOk_of 1000 1000 (by rw [wordOf_len]; exact hz) (by omega) (by omega) (by decide) (by decide)) fun t' k => ?_
  have e : Txt.mul (wordOf v) (n : Nat) = wordOf (List.replicate n v).flatten := by
    have es : (wordOf v).cps = (v.map (· + 64)).toArray := rfl
    unfold Txt.mul
    by_cases h1 : ((n : Nat) : Int) < 1
    · rw [if_pos h1, show n = 0 by omega]; rfl
    · rw [if_neg h1]
      by_cases h2 : (((n : Nat) : Int) == 1 || (wordOf v).length == 0) = true
      · rw [if_pos h2]
        rcases Bool.or_eq_true_iff.mp h2 with h3 | h3
        · have : n = 1 := by have := eq_of_beq h3; omega
          subst this; simp
        · have h4 := eq_of_beq h3
          rw [wordOf_len] at h4
          rw [List.length_eq_zero_iff.mp h4]
          simp
      · rw [if_neg h2]
        apply Str.ext'
        show (List.replicate ((n : Nat) : Int).toNat (wordOf v).cps).foldl (· ++ ·) #[] = _
        rw [Int.toNat_natCast, reps_word]
        simp [wordOf]
  rw [e]
  exact h t' k
end
theorem kw42 : True := by (k_with "binaryOp Mod int int" => ((k_dflt (refine' mod_E (by assumption) (by first | assumption | decide) ?_)))); trivial
theorem kw43 : True := by (k_with "binaryOp Mult str int" => ((k_dflt (refine' mul_word (by omega) (by omega) ?_); intro _ _))); trivial
theorem kw44 : True := by (k_with "call builtin:str.find" => ((k_dflt (refine' find_E (by assumption) ?_)))); trivial
/-- what holds between the turns: what is owed so far -/
def JD (dl al : Addr) (vs : List Value) (ea : Nat) (fs : List Nat) (t : Tok) (cs : List (List Nat)) (i : Nat) (m : Str → Option Value) (rest : List (Addr × Obj)) : Prop :=
  ∃ ws ep objs, m "due" = some (.ref dl) ∧ m "word" = some (.str (wordOf fs) t) ∧ rest = (dl, listOf ws.toArray ep) :: (al, listOf vs.toArray ea) :: objs ∧ LedAll objs ws ((cs.reverse.take i).map (dueItem fs.length)) ∧ (∀ p ∈ objs, p.1 ≠ dl ∧ hid p.2 = false)
/-- what holds between the inner turns: a cut's worth so far -/
def JW (dl : Addr) (fs c : List Nat) (t tc : Tok) (base : List (Addr × Obj)) (i : Nat) (m : Str → Option Value) (rest : List (Addr × Obj)) : Prop :=
  ∃ tw, m "worth" = some (.int (vw (c.take i)) tw) ∧ m "due" = some (.ref dl) ∧ m "word" = some (.str (wordOf fs) t) ∧ m "cut" = some (.str (wordOf c) tc) ∧ rest = base
section
variable {w : World} {loose : List Str} {mean : ExcName → Option Value} {mg mb : Str → Option Value} {g₀ : Heap}
theorem parts_len : ∀ (cs : List (List Nat)), (∀ c ∈ cs, c ≠ []) → cs.length ≤ cs.flatten.length
  | [], _ => Nat.le_refl _
  | c :: r, h => by
    have h1 := parts_len r fun d hd => h d (.tail _ hd)
    have h2 := List.length_pos_iff.mpr (h c (.head _))
    rw [List.length_cons, List.flatten_cons, List.length_append]; omega
theorem law_due (fs : List Nat) (t : Tok) : Fn w loose mean mg mb g₀ 148 [.str (wordOf fs) t] 6 (fun _ => Figs fs ∧ fs.length ≤ 8)
    (fun v tl => ∃ cs, CutsAre fs cs ∧ Led tl v (.list (dueData fs.length cs))) := by
  intro A s Q E I hh hdp hun hpre hret
  obtain ⟨hp1, hp2⟩ := hpre
  have hX : (hd.heap_39 w.params).In s.heap ∧ (Challenge.rw_pg0144_01 = Challenge.rw_pg0144_01) := by k_fill; exact ⟨I.X, rfl⟩
  refine' enter (binds := [("word", .str (wordOf fs) t)]) I ?kd ?ko ?kc ?kb ?kl ?_ ?c1 ?c2 ?c3 ?c4
  walk_at "m enter"
  intro g tb L h₁ D B F N keep sub
  have X := D.X
  have T := D.T
  have R := Ret.mk hret D keep
  clear I hret hX sub keep
  walk_at "m go"
  rename_i dl hA ltd h2 F2 N2
  refine useQ [(dl, listOf #[] 0)] (law_cuts fs _) D B F2 N2 (fun p hp => by rw [List.mem_singleton.mp hp]; exact .head _) (fun p hp => .tail _ hp) (fun p hp => by rw [List.mem_singleton.mp hp]; rfl) hh (roomD hdp (by decide)) (roomU hun (by decide)) ⟨hp1, hp2⟩ ?_
  intro v tl tb' h3 tk3 B3 F3 N3 hne hid3 po
  obtain ⟨al, vs, ea, cs, rfl, rfl, hvs, hcs⟩ := po
  have nad : dl ≠ al := hne _ (.head _) _ (.head _)
  simp only [List.nil_append, List.cons_append] at N3
  clear F2 N2 B hne hid3
  have hvl := strs_len hvs
  rw [List.length_map] at hvl
  obtain ⟨-, hcw, hflat⟩ := pieces_cuts hp1 hcs
  have hcn : cs.length ≤ 8 := Nat.le_trans (hflat ▸ parts_len cs fun c hc => (hcw c hc).1) hp2
  walk_at "m go"
  rename_i D5 h6 F6 N6 lt6
  refine wpAny_pyIter_revIter ⟨_, (N6 _ (.head _)).1, rfl, rfl⟩ ?_
  obtain ⟨m₀, F7, hd0, hw0⟩ : ∃ m₀, Fr g L h6 m₀ ∧ m₀ "due" = some (.ref dl) ∧ m₀ "word" = some (.str (wordOf fs) t) := ⟨_, F6, rfl, rfl⟩
  clear F6
  have N7 : News g L h6 ((D5, revObj al ((vs.length : Int) - 1)) :: ([(dl, listOf [].toArray 0), (al, listOf vs.toArray ea)] ++ tb')) := fun p hp => N6 p (by
    rcases List.mem_cons.mp hp with rfl | hp
    · exact .head _
    rcases List.mem_cons.mp hp with rfl | hp
    · exact .tail _ (.tail _ (.head _))
    rcases List.mem_cons.mp hp with rfl | hp
    · exact .tail _ (.head _)
    · exact .tail _ (.tail _ (.tail _ hp)))
  have alt : ∀ p ∈ [(dl, listOf [].toArray 0), (al, listOf vs.toArray ea)], p.1 ≠ D5 := by
    intro p hp
    rcases List.mem_cons.mp hp with rfl | hp
    · exact Nat.ne_of_lt lt6.2.1
    · rw [List.mem_singleton.mp hp]; exact Nat.ne_of_lt lt6.1
  clear N6
  refine loop_rev (A := A.deeper _) (l := al) (vs := vs) (ea := ea) (rest := [(dl, listOf [].toArray 0), (al, listOf vs.toArray ea)])
    (JD dl al vs ea fs t cs)
    hh ?_ B3 F7 N7 alt ?_ ?_ ?_
  · rintro i m rest ⟨_, _, _, _, _, rfl, _⟩
    exact .tail _ (.head _)
  · exact ⟨[], 0, [], hd0, hw0, rfl, .nil, fun _ h => nomatch h⟩
  · rintro i v m₁ rest₁ tb₁ io₁ h tk hi hv ⟨ws, ep, objs, hd, hwd, rfl, hL, ho⟩ B₁ hio F₁ N₁ hI₁
    obtain ⟨y, tc, hy, rfl⟩ := strs_at hvs _ v hv
    rw [List.getElem?_map] at hy
    obtain ⟨c, hc, rfl⟩ := Option.map_eq_some_iff.mp hy
    rw [hvl] at hc hi
    have hcm := List.mem_of_getElem? hc
    obtain ⟨hc0, hcf⟩ := hcw c hcm
    have hcl : c.length ≤ fs.length := by rw [← hflat]; exact (List.sublist_flatten_of_mem hcm).length_le
    have hc1 : 1 ≤ c.length := List.length_pos_iff.mpr hc0
    have hsn : (cs.reverse.take (i + 1)).map (dueItem fs.length) = (cs.reverse.take i).map (dueItem fs.length) ++ [dueItem fs.length c] := by
      rw [List.take_add_one, List.getElem?_reverse hi, hc, List.map_append]; rfl
    clear hy hv hc
    simp only [List.cons_append, List.nil_append] at N₁
    walk_at "m go"
    rename_i F8 N8
    have hc64 : ∀ f ∈ c, f < 64 := fun f hf => by have := hcf f hf; omega
    refine loop_str (A := A.deeper _) (u := c) (rest := (D5, io₁) :: (dl, listOf ws.toArray ep) :: (al, listOf vs.toArray ea) :: objs) (tb := tb₁)
      (JW dl fs c t tc ((D5, io₁) :: (dl, listOf ws.toArray ep) :: (al, listOf vs.toArray ea) :: objs))
      hc64 hh B₁ F8 N8 ⟨_, rfl, hd, hwd, rfl, rfl⟩ ?_ ?_
    · rintro I2 j f tf m₂ rest₂ tb₂ io₂ h₂ tk₂ hf hlt2 ⟨tw, hwo, hd2, hw2, hc2, rfl⟩ B₂ hio₂ F₂ N₂ hI₂
      have hfr := hcf f (List.mem_of_getElem? hf)
      have ef := letter_of hfr.1 hfr.2
      have hst : vw (c.take (j + 1)) = vw (c.take j) * 32 + f := by rw [List.take_add_one, hf, vw_append]; simp [vw]
      have hcj : Figs (c.take j) := fun d hd => hcf d (List.mem_of_mem_take hd)
      obtain ⟨x0, x1⟩ := vw_range _ hcj.le
      have bx : Builtin.Int.intBits (vw (c.take j)) ≤ 64 := Nat.le_trans (intBits_small x0 (by rw [← p32_two]; exact x1)) (by rw [List.length_take]; omega)
      obtain ⟨x, hx⟩ : ∃ x, vw (c.take j) = x := ⟨_, rfl⟩
      rw [hx] at hwo bx hst
      have m1 : IntMulOk x 32 := IntMulOk.of_left bx
      obtain ⟨p, e1⟩ : ∃ p, x * 32 = p := ⟨_, rfl⟩
      obtain ⟨q, e2⟩ : ∃ q, p + ((f : Int) - 1) = q := ⟨_, rfl⟩
      obtain ⟨z, e3⟩ : ∃ z, q + 1 = z := ⟨_, rfl⟩
      have hz : z = vw (c.take (j + 1)) := by omega
      walk_at "m go"
      rename_i h9 F9 N9
      refine turn_ok ((D5, io₁) :: (dl, listOf ws.toArray ep) :: (al, listOf vs.toArray ea) :: objs) tb₂ _ rfl B₂ F9 N9 (fun p hp => hp) ⟨_, by rw [← hz]; exact rfl, hd2, hw2, hc2, rfl⟩ hI₂
    · rintro m₂ rest₂ tb₂ h₂ tk₂ ⟨tw, hwo, hd2, hw2, hc2, rfl⟩ B₂ F₂ N₂
      rw [List.take_length] at hwo
      simp only [List.cons_append, List.nil_append] at N₂
      have hrl : (List.replicate fs.length c).flatten.length = fs.length * c.length := by rw [List.length_flatten, List.map_replicate, List.sum_replicate_nat]
      have hr1 : fs.length ≤ (List.replicate fs.length c).flatten.length := by rw [hrl]; exact Nat.le_mul_of_pos_right _ hc1
      have hr2 : (List.replicate fs.length c).flatten.length ≤ 1000 := by rw [hrl]; exact Nat.le_trans (Nat.mul_le_mul hp2 (Nat.le_trans hcl hp2)) (by decide)
      clear hrl
      obtain ⟨k, hk⟩ : ∃ k, fs.length % c.length = k := ⟨_, rfl⟩
      have hkc : k < c.length := by rw [← hk]; exact Nat.mod_lt _ hc1
      have em : ((fs.length : Nat) : Int).fmod ((c.length : Nat) : Int) = ((k : Nat) : Int) := by rw [Int.fmod_eq_emod_of_nonneg _ (Int.natCast_nonneg _), ← Int.natCast_emod, hk]
      have hcz : ((c.length : Nat) : Int) ≠ 0 := by omega
      have hcz0 : (0 : Int) ≤ ((c.length : Nat) : Int) := by omega
      obtain ⟨a1, e4⟩ : ∃ a, (32 : Int) ^ ((c.length : Nat) : Int).toNat = a := ⟨_, rfl⟩
      obtain ⟨a2, e5⟩ : ∃ a, vw c * a1 = a := ⟨_, rfl⟩
      obtain ⟨a3, e6⟩ : ∃ a, a2 + vw c = a := ⟨_, rfl⟩
      have ha3 : a3 = vw c * 32 ^ c.length + vw c := by rw [← e6, ← e5, ← e4, Int.toNat_natCast]
      obtain ⟨x0, x1⟩ := vw_range _ hcf.le
      have m5 : IntMulOk (vw c) a1 := IntMulOk.of_left (Nat.le_trans (intBits_small x0 (by rw [← p32_two]; exact x1)) (by omega : 5 * c.length ≤ 64))
      have s1 : (wordOf (c.drop ((k : Nat) : Int).toNat)).length ≤ 8 := by rw [wordOf_len, List.length_drop]; omega
      have s2 : (wordOf (c.take ((k : Nat) : Int).toNat)).length ≤ 8 := by rw [wordOf_len, List.length_take]; omega
      have s3 : wordOf (c.drop ((k : Nat) : Int).toNat) ++ wordOf (c.take ((k : Nat) : Int).toNat) = wordOf (turnW c k) := by rw [← wordOf_append]; rfl
      have s4 : (List.replicate fs.length c).flatten.take ((fs.length : Nat) : Int).toNat = frontW c fs.length := by rw [Int.toNat_natCast]; rfl
      walk_at "m go"
      rename_i D9 hq9 lt9 h9 F9 N9
      rw [s4] at F9 ⊢
      obtain ⟨q1, q2, N10⟩ : ∃ q1 q2, News g L h9 ((D9, tupO [.int a3 q1, .int 0 q2]) :: (D5, io₁) :: (dl, listOf ws.toArray ep) :: (al, listOf vs.toArray ea) :: (objs ++ tb₂)) := ⟨_, _, N9⟩
      have hidr : ∀ p ∈ (D9, tupO [.int a3 q1, .int 0 q2]) :: (D5, io₁) :: (dl, listOf ws.toArray ep) :: (al, listOf vs.toArray ea) :: objs, hid p.2 = false := by
        intro p hp
        rcases List.mem_cons.mp hp with rfl | hp
        · rfl
        rcases List.mem_cons.mp hp with rfl | hp
        · exact hio
        rcases List.mem_cons.mp hp with rfl | hp
        · rfl
        rcases List.mem_cons.mp hp with rfl | hp
        · rfl
        · exact (ho p hp).2
      have hff : ∀ f ∈ frontW c fs.length, f < 64 := fun f hf => hc64 f (front_mem hf)
      have hfl : (frontW c fs.length).length ≤ 300 := by rw [front_len c hc1]; omega
      have htf : ∀ f ∈ turnW c k, f < 64 := fun f hf => hc64 f (turn_mem hf)
      have htl : (turnW c k).length ≤ 300 := by rw [turn_len (Nat.le_of_lt hkc)]; omega
      refine useS ((D9, tupO [.int a3 q1, .int 0 q2]) :: (D5, io₁) :: (dl, listOf ws.toArray ep) :: (al, listOf vs.toArray ea) :: objs) (law_carets (frontW c fs.length) _) D B₂ F9 N10 (fun p hp => List.mem_append_left tb₂ hp) (fun p hp => .tail _ (.tail _ (.tail _ (.tail _ (List.mem_append_right _ hp))))) hidr hh (roomD hdp (by decide)) (roomU hun (by decide)) ⟨hff, hfl⟩ ?_
      intro tr tb4 h4 tk4 B4 F4 N4
      clear F9 N9 N10 B₂
      walk_at "m go"
      rename_i h12 t12 k12 F12 N12 t13 tk13
      refine useS ((D9, tupO [.int a3 q1, .int 0 q2]) :: (D5, io₁) :: (dl, listOf ws.toArray ep) :: (al, listOf vs.toArray ea) :: objs) (law_carets (turnW c k) _) D B4 F12 N12 (fun p hp => List.mem_append_left tb4 hp) (fun p hp => .tail _ (List.mem_append_right _ hp)) hidr hh (roomD hdp (by decide)) (roomU hun (by decide)) ⟨htf, htl⟩ ?_
      intro tr5 tb5 h5 tk5 B5 F5 N5
      clear F12 N12 B4 F4
      walk_at "m go"
      rename_i D11 h11 F11 N11 lt11
      obtain ⟨o11, ho11, N12⟩ : ∃ o, o = listOf [Value.int (vw c) tw, Value.str (shownOf (intsOf (frontW c fs.length))) tr, Value.str (shownOf (intsOf (turnW c k))) tr5, Value.ref D9].toArray 0 ∧
        News g L h11 ((D11, o) :: (D9, tupO [.int a3 q1, .int 0 q2]) :: (D5, io₁) :: (dl, listOf ws.toArray ep) :: (al, listOf vs.toArray ea) :: (objs ++ tb5)) := ⟨_, rfl, N11⟩
      have hwl := hL.len
      rw [List.length_map, List.length_take, List.length_reverse] at hwl
      refine append_m ((D11, o11) :: (D9, tupO [.int a3 q1, .int 0 q2]) :: (D5, io₁) :: (al, listOf vs.toArray ea) :: (objs ++ tb5)) F11 N12 (.tail _ (.tail _ (.tail _ (.head _)))) (fun p hp => ?_) (fun p hp => ?_) (by omega) ?_
      · rcases List.mem_cons.mp hp with rfl | hp
        · exact .head _
        rcases List.mem_cons.mp hp with rfl | hp
        · exact .tail _ (.head _)
        rcases List.mem_cons.mp hp with rfl | hp
        · exact .tail _ (.tail _ (.head _))
        · exact .tail _ (.tail _ (.tail _ (.tail _ hp)))
      · rcases List.mem_cons.mp hp with rfl | hp
        · exact (Nat.ne_of_lt (lt11 (dl, listOf ws.toArray ep) (.tail _ (.tail _ (.head _))))).symm
        rcases List.mem_cons.mp hp with rfl | hp
        · exact (Nat.ne_of_lt lt9.2.1).symm
        rcases List.mem_cons.mp hp with rfl | hp
        · exact (hI₁ _ (.head _)).symm
        rcases List.mem_cons.mp hp with rfl | hp
        · exact nad.symm
        rcases List.mem_append.mp hp with h1 | h1
        · exact (ho p h1).1
        · exact tb_ne N12 (.tail _ (.tail _ (.tail _ (.tail _ (.tail _ hp))))) (B5.h p h1) (show (dl, _) ∈ _ from .tail _ (.tail _ (.tail _ (.head _)))) rfl
      intro h14 F14 N14
      clear F11 N11 N12
      walk_at "m go"
      have hdi : dueItem fs.length c = .list [.int (vw c), .str (shownOf (intsOf (frontW c fs.length))), .str (shownOf (intsOf (turnW c k))), .tuple [.int a3, .int 0]] := by rw [dueItem, hk, ha3]
      refine turn_ok ((dl, listOf (ws ++ [Value.ref D11]).toArray (ep + 1)) :: (al, listOf vs.toArray ea) :: (D11, o11) :: (D9, tupO [.int a3 q1, .int 0 q2]) :: objs) tb5 _ rfl B5 F14 N14 (fun p hp => ?_) ⟨_, _, (D11, o11) :: (D9, tupO [.int a3 q1, .int 0 q2]) :: objs, hd2, hw2, rfl, ?_, fun p hp => ?_⟩ (fun p hp => ?_)
      · rcases List.mem_cons.mp hp with rfl | hp
        · exact .tail _ (.tail _ (.tail _ (.head _)))
        rcases List.mem_cons.mp hp with rfl | hp
        · exact .head _
        rcases List.mem_cons.mp hp with rfl | hp
        · exact .tail _ (.tail _ (.tail _ (.tail _ (.head _))))
        rcases List.mem_cons.mp hp with rfl | hp
        · exact .tail _ (.head _)
        rcases List.mem_cons.mp hp with rfl | hp
        · exact .tail _ (.tail _ (.head _))
        · exact .tail _ (.tail _ (.tail _ (.tail _ (.tail _ hp))))
      · rw [hsn, hdi]
        refine (hL.mono fun p hp => .tail _ (.tail _ hp)).append (.cons ?_ .nil)
        subst ho11
        exact .list (.head _) (.cons (.int _ _) (.cons (.str _ _) (.cons (.str _ _) (.cons (.tuple (.tail _ (.head _)) (.cons (.int _ _) (.cons (.int _ _) .nil))) .nil))))
      · rcases List.mem_cons.mp hp with rfl | hp
        · exact ⟨(Nat.ne_of_lt (lt11 (dl, listOf ws.toArray ep) (.tail _ (.tail _ (.head _))))).symm, by rw [ho11]; rfl⟩
        rcases List.mem_cons.mp hp with rfl | hp
        · exact ⟨(Nat.ne_of_lt lt9.2.1).symm, rfl⟩
        · exact ho p hp
      · rcases List.mem_cons.mp hp with rfl | hp
        · exact hI₁ (dl, listOf ws.toArray ep) (.head _)
        rcases List.mem_cons.mp hp with rfl | hp
        · exact hI₁ (al, listOf vs.toArray ea) (.tail _ (.head _))
        rcases List.mem_cons.mp hp with rfl | hp
        · exact (Nat.ne_of_lt (lt11 (D5, io₁) (.tail _ (.head _)))).symm
        rcases List.mem_cons.mp hp with rfl | hp
        · exact (Nat.ne_of_lt lt9.1).symm
        · exact hI₁ p (.tail _ (.tail _ hp))
  · rintro m₁ rest₁ tb₁ h tk ⟨ws, ep, objs, hd, hwd, rfl, hL, ho⟩ B₁ F₁ N₁ hI₁
    simp only [List.cons_append, List.nil_append] at N₁
    have hwl := hL.len
    rw [List.length_map, List.length_take, List.length_reverse] at hwl
    rw [show vs.length = cs.reverse.length by rw [List.length_reverse, hvl], List.take_length] at hL
    walk_at "m go"
    rename_i D9 h9 F9 N9 lt9
    obtain ⟨q1, q2, N10⟩ : ∃ q1 q2, News g L h9 ((D9, tupO [.int 0 q1, .int 0 q2]) :: (dl, listOf ws.toArray ep) :: (al, listOf vs.toArray ea) :: (objs ++ tb₁)) := ⟨_, _, N9⟩
    refine append_m ((D9, tupO [.int 0 q1, .int 0 q2]) :: (al, listOf vs.toArray ea) :: (objs ++ tb₁)) F9 N10 (.tail _ (.head _)) (fun p hp => ?_) (fun p hp => ?_) (by omega) ?_
    · rcases List.mem_cons.mp hp with rfl | hp
      · exact .head _
      · exact .tail _ (.tail _ hp)
    · rcases List.mem_cons.mp hp with rfl | hp
      · exact (Nat.ne_of_lt lt9.1).symm
      rcases List.mem_cons.mp hp with rfl | hp
      · exact nad.symm
      rcases List.mem_append.mp hp with h1 | h1
      · exact (ho p h1).1
      · exact tb_ne N10 (.tail _ (.tail _ (.tail _ hp))) (B₁.h p h1) (show (dl, _) ∈ _ from .tail _ (.head _)) rfl
    intro h10 F10 N11
    walk_at "m go"
    refine done_ ((dl, listOf (ws ++ [Value.ref D9]).toArray (ep + 1)) :: (D9, tupO [.int 0 q1, .int 0 q2]) :: objs) R B₁ F10 N11 (fun p hp => ?_) (fun p hp => .tail _ (.tail _ (.tail _ (List.mem_append_right _ hp)))) ?_ ⟨cs, hcs, .list (.head _) ((hL.mono fun p hp => .tail _ (.tail _ hp)).append (.cons (.tuple (.tail _ (.head _)) (.cons (.int _ _) (.cons (.int _ _) .nil))) .nil))⟩ rfl
    · rcases List.mem_cons.mp hp with rfl | hp
      · exact .head _
      rcases List.mem_cons.mp hp with rfl | hp
      · exact .tail _ (.head _)
      · exact .tail _ (.tail _ (.tail _ (List.mem_append_left _ hp)))
    · refine List.all_eq_true.mpr fun p hp => ?_
      rcases List.mem_cons.mp hp with rfl | hp
      · rfl
      rcases List.mem_cons.mp hp with rfl | hp
      · rfl
      · rw [(ho p hp).2]; rfl
end
theorem strOk_app {x y : Str} (hx : PyData.strOk x = true) (hy : PyData.strOk y = true) : PyData.strOk (x ++ y) = true := by
  unfold PyData.strOk at *
  rw [Str.cps_append, Array.all_append, hx, hy]; rfl
theorem strOk_join {sep : Str} (hs : PyData.strOk sep = true) : ∀ l : List Str, (∀ x ∈ l, PyData.strOk x = true) → PyData.strOk (Str.join sep l) = true
  | [], _ => show PyData.strOk ⟨#[]⟩ = true by decide +kernel
  | [x], h => h x (.head _)
  | x :: y :: r, h => strOk_app (strOk_app (h x (.head _)) hs) (strOk_join hs (y :: r) fun z hz => h z (.tail _ hz))
theorem strOk_shown {u : List Nat} (hu : ∀ d ∈ u, d ≤ 26) : PyData.strOk (shownOf (intsOf u)) = true := by
  unfold shownOf Txt.join
  rw [PySem.StrLaws.glued_eq_join]
  refine strOk_join (sep := Str.ofString "") (by decide +kernel) _ fun x hx => ?_
  obtain ⟨i, hi, rfl⟩ := List.mem_map.mp hx
  obtain ⟨d, hd, rfl⟩ := List.mem_map.mp hi
  have := hu d hd
  have h2 : (((d : Nat) : Int) + 64).toNat < 0x110000 := by omega
  unfold PyData.strOk caret
  simp only [List.all_toArray, Array.all_toList]
  simp
  omega
theorem due_item_ok {n : Nat} {c : List Nat} (hc : Figs c) : PyData.canLay0 (dueItem n c) = true ∧ PyData.depth (dueItem n c) ≤ 2 := by
  have h1 := strOk_shown (u := frontW c n) fun d hd => (hc d (front_mem hd)).2
  have h2 := strOk_shown (u := turnW c (n % c.length)) fun d hd => (hc d (turn_mem hd)).2
  constructor
  · simp [dueItem, PyData.canLay0, PyData.canLayAll0, h1, h2]
  · simp [dueItem, PyData.depth, PyData.depthAll]
theorem due_all_ok {n : Nat} : ∀ (l : List PyData), (∀ d ∈ l, PyData.canLay0 d = true ∧ PyData.depth d ≤ 2) → PyData.canLayAll0 l = true ∧ PyData.depthAll l ≤ 2
  | [], _ => ⟨rfl, by simp [PyData.depthAll]⟩
  | d :: r, h => by
    have h1 := h d (.head _)
    have h2 := due_all_ok (n := n) r fun e he => h e (.tail _ he)
    constructor
    · simp [PyData.canLayAll0, h1.1, h2.1]
    · simp only [PyData.depthAll]; omega
theorem due_ok {n : Nat} {cs : List (List Nat)} (hc : ∀ c ∈ cs, Figs c) : PyData.canLay0 (.list (dueData n cs)) = true ∧ PySem.SeqAt.shaped (.list (dueData n cs)) = true := by
  have h := due_all_ok (n := n) (dueData n cs) fun d hd => by
    rcases List.mem_append.mp hd with hd | hd
    · obtain ⟨c, hc', rfl⟩ := List.mem_map.mp hd
      exact due_item_ok (hc c (List.mem_reverse.mp hc'))
    · rw [List.mem_singleton.mp hd]; exact ⟨rfl, by simp [PyData.depth, PyData.depthAll]⟩
  refine ⟨h.1, ?_⟩
  unfold PySem.SeqAt.shaped
  rw [Bool.and_eq_true]
  refine ⟨h.1, decide_eq_true ?_⟩
  simp only [PyData.depth]; omega
section
variable {w : World} {loose : List Str} {mean : ExcName → Option Value} {mg mb : Str → Option Value}
theorem ctoi_strK (c : Nat) (t : Tok) : FnK w loose mean mg mb 63 [.str ⟨#[c]⟩ t] 3 (fun r => ∃ t', r = .int c t') := by
  intro A s Q E X T hh hdp hun hret
  have hX : (hd.heap_39 w.params).In s.heap ∧ (Challenge.rw_pg0144_01 = Challenge.rw_pg0144_01) := by k_fill; exact ⟨X, rfl⟩
  refine' enterK (binds := [("c", .str ⟨#[c]⟩ t)]) X T ?kd ?ko ?kc ?kb ?kl ?_ ?c1 ?c2 ?c3 ?c4
  walk_at "m enterK"
  intro L h₁ F N
  k_steps
  exact hret _ _ _ F.keep ⟨_, rfl⟩
theorem ctoi_intE (c : Int) (t : Tok) : FnK w loose mean mg mb 63 [.int c t] 3 (fun r => ∃ t', r = .int c t') := fun A s Q E X T hh hd hu hret =>
  ctoi_intK c t A s Q E X T hh hd hu fun v h' tk' k p => hret v h' tk' k ⟨t, p⟩
end
theorem kw45 : True := by (k_with "call ref" => ((k_here; k_dflt ((refine' useK (‹FnK _ _ _ _ _ 63 _ _ _›) ?kX ?kT ?kF ?kN ?kh ?kd ?ku ?_; walk_at "m callK")); intro _ _ _ _ _ hv'; obtain ⟨_, e9⟩ := hv'; subst e9))); trivial
section
variable {w : World} {loose : List Str} {mean : ExcName → Option Value} {mg mb : Str → Option Value}
theorem isupper_K (x : Value) (c : Int) (hc : FnK w loose mean mg mb 63 [x] 3 (fun r => ∃ t', r = .int c t')) : FnK w loose mean mg mb 91 [x] 5 (fun r => r = .bool (decide (65 ≤ c ∧ c ≤ 90))) := by
  intro A s Q E X T hh hdp hun hret
  have hX : (hd.heap_39 w.params).In s.heap ∧ (Challenge.rw_pg0144_01 = Challenge.rw_pg0144_01) := by k_fill; exact ⟨X, rfl⟩
  refine' enterK (binds := [("c", x)]) X T ?kd ?ko ?kc ?kb ?kl ?_ ?c1 ?c2 ?c3 ?c4
  walk_at "m enterK"
  intro L h₁ F N
  k_steps
  all_goals (refine hret _ _ _ (Fr.keep (by assumption)) ?_; walk_at "m bool")
theorem islower_K (x : Value) (c : Int) (hc : FnK w loose mean mg mb 63 [x] 3 (fun r => ∃ t', r = .int c t')) : FnK w loose mean mg mb 77 [x] 5 (fun r => r = .bool (decide (97 ≤ c ∧ c ≤ 122))) := by
  intro A s Q E X T hh hdp hun hret
  have hX : (hd.heap_39 w.params).In s.heap ∧ (Challenge.rw_pg0144_01 = Challenge.rw_pg0144_01) := by k_fill; exact ⟨X, rfl⟩
  refine' enterK (binds := [("c", x)]) X T ?kd ?ko ?kc ?kb ?kl ?_ ?c1 ?c2 ?c3 ?c4
  walk_at "m enterK"
  intro L h₁ F N
  k_steps
  all_goals (refine hret _ _ _ (Fr.keep (by assumption)) ?_; walk_at "m bool")
end
theorem kw46 : True := by (k_with "call ref" => ((k_here; k_dflt (first | (refine' useK (isupper_K _ _ ‹FnK _ _ _ _ _ 63 _ _ _›) ?kX ?kT ?kF ?kN ?kh ?kd ?ku ?_; walk_at "m callK") | (refine' useK (islower_K _ _ ‹FnK _ _ _ _ _ 63 _ _ _›) ?kX ?kT ?kF ?kN ?kh ?kd ?ku ?_; walk_at "m callK")); intro _ _ _ _ _ hv'; subst hv'))); trivial
section
variable {w : World} {loose : List Str} {mean : ExcName → Option Value} {mg mb : Str → Option Value}
theorem isalpha_K (x : Value) (c : Int) {b : Bool} (hc : FnK w loose mean mg mb 63 [x] 3 (fun r => ∃ t', r = .int c t')) (he : isA c = b) : FnK w loose mean mg mb 70 [x] 7 (fun r => r = .bool b) := by
  intro A s Q E X T hh hdp hun hret
  have hX : (hd.heap_39 w.params).In s.heap ∧ (Challenge.rw_pg0144_01 = Challenge.rw_pg0144_01) := by k_fill; exact ⟨X, rfl⟩
  refine' enterK (binds := [("c", x)]) X T ?kd ?ko ?kc ?kb ?kl ?_ ?c1 ?c2 ?c3 ?c4
  walk_at "m enterK"
  intro L h₁ F N
  k_steps
  all_goals (refine hret _ _ _ (Fr.keep (by assumption)) ?_; (try rw [← he]); (try unfold isA); walk_at "m bool")
end
theorem kw47 : True := by (k_with "call ref" => ((k_here; k_dflt ((refine' useK (ctoi_strK _ _) ?kX ?kT ?kF ?kN ?kh ?kd ?ku ?_; walk_at "m callK")); intro _ _ _ _ _ hv'; obtain ⟨_, e9⟩ := hv'; subst e9))); trivial
section
variable {w : World} {loose : List Str} {mean : ExcName → Option Value} {mg mb : Str → Option Value}
theorem ctrl_intK (c : Int) (t : Tok) : FnK w loose mean mg mb 98 [.int c t] 5 (fun r => ∃ t', r = .int (c % 32) t') := by
  intro A s Q E X T hh hdp hun hret
  have hX : (hd.heap_39 w.params).In s.heap ∧ (Challenge.rw_pg0144_01 = Challenge.rw_pg0144_01) := by k_fill; exact ⟨X, rfl⟩
  refine' enterK (binds := [("c", .int c t)]) X T ?kd ?ko ?kc ?kb ?kl ?_ ?c1 ?c2 ?c3 ?c4
  walk_at "m enterK"
  intro L h₁ F N
  k_steps
  all_goals exact hret _ _ _ (Fr.keep (by assumption)) ⟨_, rfl⟩
theorem ctrl_strK (c : Nat) (t : Tok) : FnK w loose mean mg mb 98 [.str ⟨#[c]⟩ t] 5 (fun r => ∃ t', r = .str ⟨#[c % 32]⟩ t') := by
  intro A s Q E X T hh hdp hun hret
  have hX : (hd.heap_39 w.params).In s.heap ∧ (Challenge.rw_pg0144_01 = Challenge.rw_pg0144_01) := by k_fill; exact ⟨X, rfl⟩
  refine' enterK (binds := [("c", .str ⟨#[c]⟩ t)]) X T ?kd ?ko ?kc ?kb ?kl ?_ ?c1 ?c2 ?c3 ?c4
  walk_at "m enterK"
  intro L h₁ F N
  k_steps
  all_goals exact hret _ _ _ (Fr.keep (by assumption)) ⟨_, by simp only [show (((c : Int) % 32).toNat) = c % 32 by omega]; rfl⟩
end
theorem kw48 : True := by (k_with "call ref" => ((k_here; k_dflt (first | (refine' useK (isalpha_K _ _ (ctoi_intE _ _) (by assumption)) ?kX ?kT ?kF ?kN ?kh ?kd ?ku ?_; walk_at "m callK") | (refine' useK (isalpha_K _ _ (ctoi_strK _ _) (by assumption)) ?kX ?kT ?kF ?kN ?kh ?kd ?ku ?_; walk_at "m callK")); intro _ _ _ _ _ hv'; subst hv'))); trivial
theorem kw49 : True := by (k_with "call ref" => ((k_here; k_dflt (first | (refine' useK (ctrl_intK _ _) ?kX ?kT ?kF ?kN ?kh ?kd ?ku ?_; walk_at "m callK") | (refine' useK (ctrl_strK _ _) ?kX ?kT ?kF ?kN ?kh ?kd ?ku ?_; walk_at "m callK")); intro _ _ _ _ _ hv'; obtain ⟨_, e9⟩ := hv'; subst e9))); trivial
theorem RowIs.at {news : List (Addr × Obj)} : ∀ {vs : List Value} {st : List (Int × Nat)}, RowIs news vs st → ∀ (i : Nat) (v : Value), vs[i]? = some v → ∃ y w a ty tv, st[i]? = some (y, w) ∧ v = .ref a ∧ (a, tupO [.int y ty, .int w tv]) ∈ news
  | _, _, .cons hm r, 0, v, h => ⟨_, _, _, _, _, rfl, by simpa using h.symm, hm⟩
  | _, _, .cons hm r, i + 1, v, h => by
    obtain ⟨y, w, a, ty, tv, h1, h2, h3⟩ := r.at i v (by simpa using h)
    exact ⟨y, w, a, ty, tv, by simpa using h1, h2, h3⟩
theorem nolen_rv : typeLookup (.type "list_reverseiterator") "__len__" = pure none := by rw [typeLookup_type, builtinLookup_eq_fast]; kernel_rfl
theorem hint_rv : typeLookup (.type "list_reverseiterator") "__length_hint__" = pure (some (.builtin "list_reverseiterator.__length_hint__")) := by rw [typeLookup_type, builtinLookup_eq_fast]; kernel_rfl
section
variable {prog : Program} {w : World} {A : Around} {E : Value → Shared → Prop} {s : Shared} {R : Result → Shared → Prop} {I : Addr} {fp wr : List Addr} {G : Array GenState → Array GenState → Prop} {n : Nat} {P : Nat → Value → Prop} {St : Nat → Shared → Prop}
/-- a new list filled by a list's backward iterator -/
theorem extend_rv (W : WalksS prog w A.in1 I fp wr G n P St) (hT : ∀ i s, St i s → s.TypeIs (.ref I) "list_reverseiterator") (S : Addr) (res : Value) (c₀ : Nat) (hst : St 0 s) (hSf : S ∉ fp) (hI : I ∈ fp)
    (hS : s.heap.get? S = some { cls := .type "list", data := .seq #[] c₀ })
    (hR : ∀ s' acc' c', Moved (S :: wr) G s s' → s'.heap.get? S = some { cls := .type "list", dict := none, data := .seq acc' c', slots := #[] } → ItemsOf P acc' n → R (.ok (.ret res)) s') (hn : n ≤ sizeLine) :
    wpAny (model prog w) A.in1 (Builtin.List.listExtendWith (.ref S) (.ref I) res)
      (fun fin s' => match fin with | .done f => R (.ok f) s' | .again c' => c'.quiet = true ∧ codeAny (model prog w) A c' R s') (fun e s' => R (.error e) s') s := by
  have hSI : S ≠ I := fun e => hSf (e ▸ hI)
  have h1 : Builtin.List.listSameRef (.ref S) (.ref I) = false := by simp [Builtin.List.listSameRef, hSI]
  unfold Builtin.List.listExtendWith
  refine wpAny_bind (wpAny_typeOf (hT 0 _ hst) ?_)
  rw [if_neg (by rw [h1]; decide)]
  refine wpAny_bind (W.self 0 _ _ _ hst ?_)
  refine wpAny_bind (wpAny_holding ?_)
  unfold Builtin.List.listLengthHint
  refine wpAny_bind (wpAny_specialOf (hT 0 _ hst) nolen_rv ?_)
  show wpAny _ A.in1 (specialOf (Value.ref I) (Str.ofString "__length_hint__") >>= _) _ _ _
  refine wpAny_bind (wpAny_specialOf (hT 0 _ hst) hint_rv ?_)
  generalize hid : ("list_reverseiterator.__length_hint__" : String) = id0
  wp_delta
  rw [show splitId id0 = some ("list_reverseiterator", "__length_hint__") from by subst hid; decide +kernel]
  subst hid
  refine wpAny_bind (wpAny_isInstance (b := true) (hT 0 _ hst) (by rw [isSubtype_type]; kernel_rfl) ?_)
  refine wpAny_pure ?_
  rw [if_neg (by decide)]
  exact wpAny_pure ⟨plainId_quiet F.plain_extend_loop _, codeAny_extend_loopS W hn _ hSf _ n 0 _ _ _ rfl (Nat.zero_le _) hst hS (ItemsOf.nil P) hR⟩
theorem init_rv (W : WalksS prog w A.in1 I fp wr G n P St) (hT : ∀ i s, St i s → s.TypeIs (.ref I) "list_reverseiterator") (S : Addr) (hst : St 0 s) (hSf : S ∉ fp) (hI : I ∈ fp)
    (hS : s.heap.get? S = some { cls := .type "list", data := .seq #[] })
    (hR : ∀ s' acc' c', Moved (S :: wr) G s s' → s'.heap.get? S = some { cls := .type "list", dict := none, data := .seq acc' c', slots := #[] } → ItemsOf P acc' n → R (.ok (.ret .none)) s') (hn : n ≤ sizeLine) :
    wpAny (model prog w) A.in1 (Builtin.«list.__init__» ⟨[.ref S, .ref I], []⟩)
      (fun fin s' => match fin with | .done f => R (.ok f) s' | .again c' => c'.quiet = true ∧ codeAny (model prog w) A c' R s') (fun e s' => R (.error e) s') s := by
  show wpAny _ A.in1 (do let old ← Builtin.List.listItems (.ref S); Builtin.List.listUpdate (.ref S) (fun _ => #[]); letGo old.toList.reverse; Builtin.List.listExtendWith (.ref S) (.ref I) .none) _ _ s
  refine wpAny_bind ?_
  unfold Builtin.List.listItems
  refine wpAny_bind (wpAny_seqItems hS rfl (wpAny_pure ?_))
  show wpAny _ A.in1 (updateSeq S (fun _ => #[]) >>= fun _ => letGo (#[] : Array Value).toList.reverse >>= fun _ => Builtin.List.listExtendWith (.ref S) (.ref I) .none) _ _ s
  refine wpAny_bind (wpAny_updateSeq hS rfl ?_)
  have hS₂ := Heap.get?_update_self (Obj.mapSeq (fun _ => (#[] : Array Value))) hS rfl
  have oth : ∀ b o, b ≠ S → s.heap.get? b = some o → (s.heap.update S (Obj.mapSeq (fun _ => (#[] : Array Value)))).get? b = some o :=
    fun b o hb e => (Heap.get?_update_other _ _ (Ne.symm hb)).trans e
  refine wpAny_bind (wpAny_letGo ?_)
  refine extend_rv W hT S .none _ (W.frame 0 s _ s.toks hst (Nat.le_refl _) fun b hb o e => oth b o (fun h => hSf (h ▸ hb)) e) hSf hI hS₂ (fun s' acc' c' hm hS' hacc => ?_) hn
  exact hR s' acc' c' (Moved.trans W.gtrans ((Moved.refl W.grefl).then_heap (Nat.le_refl _) fun b o hb e => oth b o (fun h => hb (h ▸ List.mem_cons_self)) e) hm) hS' hacc
theorem call_list_rv {Q : Value → Shared → Prop} (W : WalksS prog w A.in1.in1 I fp wr G n P St) (hT : ∀ i s, St i s → s.TypeIs (.ref I) "list_reverseiterator") (hst : St 0 s) (hfp : ∀ b ∈ fp, b < s.heap.objs.size) (hI : I ∈ fp)
    (hQ : ∀ s' acc' c', Moved (s.heap.objs.size :: wr) G { s with heap := s.heap.push { cls := .type "list", data := .seq #[] } } s' →
      s'.heap.get? s.heap.objs.size = some { cls := .type "list", dict := none, data := .seq acc' c', slots := #[] } → ItemsOf P acc' n → Q (.ref s.heap.objs.size) s') (hn : n ≤ sizeLine) :
    wpAny (model prog w) A (call (.type "list") [.ref I]) Q E s := by
  have hSf : s.heap.objs.size ∉ fp := fun hm => Nat.lt_irrefl _ (hfp _ hm)
  refine callType_codes (Q₁ := fun obj s₁ => obj = .ref s.heap.objs.size ∧ s₁ = { s with heap := s.heap.push { cls := .type "list", data := .seq #[] } }) F.called_list (F.typeCall_list_1 _) F.entry_list_init
    (code_list_new _ ⟨rfl, rfl⟩) fun obj s₁ h₁ => ?_
  obtain ⟨rfl, rfl⟩ := h₁
  have hS : (s.heap.push { cls := .type "list", data := .seq #[] }).get? s.heap.objs.size = some { cls := .type "list", data := .seq #[] } := Heap.get?_push_size _ rfl
  refine ⟨⟨_, hS, rfl⟩, F.args_list_init_2 _ _, init_rv W hT _ (W.frame 0 s _ s.toks hst (Nat.le_refl _) fun b _ o e => Heap.get?_push_of_some _ e) hSf hI hS (fun s' acc' c' hm hS' hacc => ?_) hn⟩
  exact ⟨rfl, hQ s' acc' c' hm hS' hacc⟩
end
section
variable {prog : Program} {w : World} {A : Around} {E : Value → Shared → Prop} {s : Shared} {g : Heap} {L I l : Addr} {m : Str → Option Value} {rest : List (Addr × Obj)} {vs : List Value} {e : Nat} {Q : Value → Shared → Prop}
/-- list(reversed(xs)) -/
theorem list_rev (hh : A.handled = none) (F : Fr g L s.heap m) (N : News g L s.heap ((I, revObj l ((vs.length : Int) - 1)) :: rest)) (hm : (l, listOf vs.toArray e) ∈ rest) (hI : ∀ p ∈ rest, p.1 ≠ I) (hn : vs.length ≤ 1000)
    (h : ∀ D h' tk c, Fr g L h' m → News g L h' ((D, listOf vs.reverse.toArray c) :: rest) → (∀ p ∈ rest, p.1 < D) → Q (.ref D) { s with heap := h', toks := tk }) :
    wpAny (model prog w) A (call (.type "list") [.ref I]) Q E s := by
  have nl : l ≠ I := hI _ hm
  have W := Walks.listRev (prog := prog) (w := w) (A := A.in1.in1) hh I l nl vs.toArray
  have es : vs.toArray.size = vs.length := List.size_toArray ..
  have hlI := Heap.lt_size (N _ (.head _)).1
  have hll := Heap.lt_size (N _ (.tail _ hm)).1
  refine call_list_rv (A := A) W.toS (fun i s st => st.2.1.typeIs) ⟨Nat.zero_le _, by rw [es]; exact ⟨_, (N _ (.head _)).1, rfl, by simp [revObj]⟩, ⟨_, (N _ (.tail _ hm)).1, rfl, _, rfl⟩⟩ ?_ (.head _) (fun s' acc c hmv hS hacc => ?_) (by rw [es, sizeLine_eq]; omega)
  · intro b hb
    rcases List.mem_cons.mp hb with rfl | hb
    · exact hlI
    · rw [List.mem_singleton.mp hb]; exact hll
  · rw [Moved.eq_with hmv]
    have up : ∀ b o, b ≠ I → s.heap.get? b = some o → s'.heap.get? b = some o := fun b o hb eb => hmv.heap b o (fun hmem => by
      rcases List.mem_cons.mp hmem with q | q
      · rw [q] at eb; exact absurd (Heap.lt_size eb) (Nat.lt_irrefl _)
      · exact hb (List.mem_singleton.mp q)) (Heap.get?_push_of_some _ eb)
    have NI := N _ (.head _)
    have F' : Fr g L s'.heap m := ⟨F.ns.at' fun o eo => up _ _ (fun q => NI.2.1 q.symm) eo, fun b o eb => up _ _ (fun q => by have := NI.2.2; rw [← q, eb] at this; cases this) (F.keep b o eb), F.above⟩
    have hrev : acc = vs.reverse.toArray := by
      have h1 : acc.toList = vs.reverse := rev_of (by rw [Array.length_toList, hacc.1, es]) fun j v hj => by
        have hj' : acc[j]? = some v := by simpa using hj
        have hlt : j < vs.toArray.size := by rw [← hacc.1]; exact (Array.getElem?_eq_some_iff.mp hj').1
        have := hacc.2 j v hj'
        simpa using this
      rw [← h1, Array.toArray_toList]
    subst hrev
    refine h s.heap.objs.size s'.heap s'.toks c F' (fun p hp => ?_) (fun p hp => Heap.lt_size (N p (.tail _ hp)).1)
    rcases List.mem_cons.mp hp with rfl | hp
    · refine ⟨hS, Nat.ne_of_gt F.ns.lt, ?_⟩
      cases q : g.get? s.heap.objs.size with
      | none => rfl
      | some o => exact absurd (Heap.lt_size (F.keep _ _ q)) (Nat.lt_irrefl _)
    · exact ⟨up _ _ (hI p hp) (N p (.tail _ hp)).1, (N p (.tail _ hp)).2⟩
end
section
variable {w : World}
theorem go_rev {prog : Program} {A : Around} {E : Value → Shared → Prop} {s : Shared} {elts : List Expr} {x1} {pos : Pos} {I l : Addr} {k : Int} {v : Value} {Q : Unit → Shared → Prop} (hit : s.heap.IsRevIter I l k) (hQ : Q () s) :
    wpAny (model prog w) A (letOwnedTupleGo (.Tuple elts x1 pos) (.ref I) v) Q E s := by
  obtain ⟨o, ho, hc, hd⟩ := hit
  unfold letOwnedTupleGo
  cases v with
  | ref T =>
    refine wpAny_bind (wpAny_load ho ?_)
    rw [hc, hd]
    show wpAny _ A (if (["enumerate", "zip", "dict_itemiterator", "dict_reverseitemiterator", "odict_iterator", "itertools.zip_longest", "itertools.pairwise"].contains "list_reverseiterator" &&
        (#[.ref l, rawInt k] : Array Value)[0]? == some (rawInt T)) = true then _ else _) Q E s
    rw [if_neg (by
      intro h
      rw [show (["enumerate", "zip", "dict_itemiterator", "dict_reverseitemiterator", "odict_iterator", "itertools.zip_longest", "itertools.pairwise"].contains "list_reverseiterator") = false from by decide, Bool.false_and] at h
      cases h)]
    exact wpAny_pure hQ
  | _ => exact wpAny_pure hQ
theorem loop_revT {A : Around} {s : Shared} {R : Result → Shared → Prop} {elts : List Expr} {x1} {pos : Pos} {body : List Stmt} {env : Env} {g : Heap} {L I l : Addr} {vs : List Value} {ea : Nat} {m : Str → Option Value} {rest tb : List (Addr × Obj)}
    (J : Nat → (Str → Option Value) → List (Addr × Obj) → Prop) (hh : A.handled = none) (hJ : ∀ i m rest, J i m rest → (l, listOf vs.toArray ea) ∈ rest)
    (B : Tb tb) (F : Fr g L s.heap m) (N : News g L s.heap ((I, revObj l ((vs.length : Int) - 1)) :: (rest ++ tb))) (hI : ∀ p ∈ rest, p.1 ≠ I) (j0 : J 0 m rest)
    (turn : ∀ i v m₁ rest₁ tb₁ io₁ h tk, i < vs.length → vs[vs.length - 1 - i]? = some v → J i m₁ rest₁ → Tb tb₁ → hid io₁ = false → Fr g L h m₁ → News g L h ((I, io₁) :: (rest₁ ++ tb₁)) → (∀ p ∈ rest₁, p.1 ≠ I) →
      wpAny (model Challenge.rw_pg0144_01.row.prog w) A (assign (.Tuple elts x1 pos) env v) (fun _ s₂ => wpAny (model Challenge.rw_pg0144_01.row.prog w) A (execs body env) (TurnOk g L I io₁ s (J (i + 1))) (fun _ _ => False) s₂) (fun _ _ => False) { s with heap := h, toks := tk })
    (done : ∀ m₁ rest₁ tb₁ h tk, J vs.length m₁ rest₁ → Tb tb₁ → Fr g L h m₁ → News g L h (rest₁ ++ tb₁) → (∀ p ∈ rest₁, p.1 ≠ I) → R (.ok .next) { s with heap := h, toks := tk })
    :
    codeAny (model Challenge.rw_pg0144_01.row.prog w) A (.forLoop (.Tuple elts x1 pos) (.ref I) body [] env) R s := by
  have nl : l ≠ I := hI _ (hJ _ _ _ j0)
  have W := Walks.listRev (prog := Challenge.rw_pg0144_01.row.prog) (w := w) hh I l nl vs.toArray
  have es : vs.toArray.size = vs.length := List.size_toArray ..
  refine loop_mT J W (fun i h st => hid_revIter st.2.1) ?_ B F N hI ?_ j0 ?_ (fun m₁ rest₁ tb₁ h tk j => done m₁ rest₁ tb₁ h tk (es ▸ j)) ?_
  · intro x hx hne
    rcases List.mem_cons.mp hx with rfl | hx
    · exact absurd rfl hne
    · rw [List.mem_singleton.mp hx]
      exact .inr ⟨_, hJ⟩
  · refine ⟨Nat.zero_le _, ?_, ⟨_, (N _ (.tail _ (List.mem_append_left _ (hJ _ _ _ j0)))).1, rfl, _, rfl⟩⟩
    rw [es]
    exact ⟨_, (N _ (.head _)).1, rfl, by simp [revObj]⟩
  · intro i v m₁ rest₁ tb₁ io₁ h tk hi hv
    rw [es] at hi
    exact turn i v m₁ rest₁ tb₁ io₁ h tk hi (by simpa using hv)
  · intro i v h tk Q E st hQ
    exact go_rev (s := { s with heap := h, toks := tk }) st.2.1 hQ
end
theorem allLt_mem {d : Nat} {l : List (Addr × Obj)} (h : AllLt d l) : ∀ p ∈ l, @LT.lt Nat _ p.1 d := by
  induction l with
  | nil => intro p hp; cases hp
  | cons q r ih =>
    intro p hp
    cases hp with
    | head => exact h.1
    | tail _ hp => exact ih h.2 p hp
theorem p32_le {k n : Nat} (h : k ≤ n) : (32 : Int) ^ k ≤ 2 ^ (5 * n) := by rw [p32_two]; exact two_mono (by omega)
theorem mul_bound {a b : Int} (ha : 0 ≤ a) (ha1 : a ≤ 2 ^ 40) (hb : 0 ≤ b) (hb1 : b ≤ 2 ^ 80) : 0 ≤ a * b ∧ a * b < 2 ^ 200 := by
  refine ⟨Int.mul_nonneg ha hb, ?_⟩
  have h : a * b ≤ 2 ^ 40 * 2 ^ 80 := Int.mul_le_mul ha1 hb1 hb (by decide)
  exact Int.lt_of_le_of_lt h (by decide)
/-- what the turn's three divisions are asked and what they answer -/
theorem turn_nums {c pre : List Nat} {n : Nat} {P M P2 : Int} (hc1 : 1 ≤ c.length) (hcf : Figs c) (hpf : Figs (pre ++ c)) (hl : (pre ++ c).length ≤ 8) (hn : n ≤ 8) (hP : (32 : Int) ^ c.length = P) (hM : (32 : Int) ^ n = M) (hP2 : (32 : Int) ^ (2 * c.length) = P2) :
    (0 ≤ vw (pre ++ c) ∧ vw (pre ++ c) < 2 ^ 200 ∧ 0 < P ∧ P < 2 ^ 200) ∧ (0 ≤ vw c * M ∧ vw c * M < 2 ^ 200 ∧ 0 < P - 1 ∧ P - 1 < 2 ^ 200) ∧ (0 ≤ vw c * (P2 - 1) ∧ vw c * (P2 - 1) < 2 ^ 200 ∧ 0 < P - 1 ∧ P - 1 < 2 ^ 200) ∧
    (vw (pre ++ c) / P = vw pre ∧ vw (pre ++ c) % P = vw c) ∧ (vw c * M / (P - 1) = vw (frontW c n) ∧ vw c * M % (P - 1) = vw (turnW c (n % c.length))) ∧ (vw c * (P2 - 1) / (P - 1) = vw c * P + vw c ∧ vw c * (P2 - 1) % (P - 1) = 0) := by
  have hcl : c.length ≤ 8 := by rw [List.length_append] at hl; omega
  obtain ⟨a0, a1⟩ := vw_range _ hpf.le
  obtain ⟨c0, c1⟩ := vw_range _ hcf.le
  have b1 : (32 : Int) ^ (pre ++ c).length ≤ 2 ^ 40 := p32_le (n := 8) hl
  have b2 : (32 : Int) ^ c.length ≤ 2 ^ 40 := p32_le (n := 8) hcl
  have b3 : (32 : Int) ^ n ≤ 2 ^ 40 := p32_le (n := 8) hn
  have b4 : (32 : Int) ^ (2 * c.length) ≤ 2 ^ 80 := p32_le (n := 16) (by omega)
  have g1 := p32_ge hc1
  have g3 := p32_pos n
  have g4 := p32_pos (2 * c.length)
  have k := key_rest hc1 hcf n
  have t := twice_eq (u := c) hc1
  have l := left_eq (u := pre) hcf
  have q : (2 : Int) ^ 40 < 2 ^ 200 := by decide
  have q2 : (2 : Int) ^ 40 ≤ 2 ^ 80 := by decide
  subst hP hM hP2
  have m1 := mul_bound c0 (by omega) (Int.le_of_lt g3) (Int.le_trans b3 q2)
  have m2 := mul_bound (b := 32 ^ (2 * c.length) - 1) c0 (by omega) (by omega) (by omega)
  exact ⟨⟨a0, by omega, by omega, by omega⟩, ⟨m1.1, m1.2, by omega, by omega⟩, ⟨m2.1, m2.2, by omega, by omega⟩, l, ⟨k.1.symm, k.2.symm⟩, t⟩
theorem words_of {fs : List Nat} (hf : Figs fs) : ∃ cw : List (List Nat), cw = (fs.foldl (fun st f => mergeW st [f]) []).reverse ∧ (pieces fs).reverse = cw.map pr ∧ (∀ c ∈ cw, c ≠ [] ∧ Figs c) ∧ cw.flatten = fs := by
  obtain ⟨p1, p2⟩ := pieces_words_aux fs [] hf (fun _ h => nomatch h)
  obtain ⟨q1, q2⟩ := piecesW_ok fs [] .nil
  refine ⟨_, rfl, ?_, fun c hc => p2 c (List.mem_reverse.mp hc), by rw [q2]; rfl⟩
  rw [List.map_reverse]
  exact congrArg List.reverse p1
theorem left_step {cw : List (List Nat)} {i : Nat} {c : List Nat} (hi : i < cw.length) (hc : cw[cw.length - 1 - i]? = some c) : (cw.take (cw.length - i)).flatten = (cw.take (cw.length - (i + 1))).flatten ++ c := by
  have e : cw.length - i = (cw.length - (i + 1)) + 1 := by omega
  rw [show cw.length - 1 - i = cw.length - (i + 1) by omega] at hc
  rw [e, List.take_add_one, hc]
  simp
theorem flat_mono {cw : List (List Nat)} (k : Nat) : (cw.take k).flatten.length ≤ cw.flatten.length := by
  have e : cw.flatten = (cw.take k).flatten ++ (cw.drop k).flatten := by rw [← List.flatten_append, List.take_append_drop]
  rw [e, List.length_append]; omega
theorem figs_ints {us : List Value} {cs : List Int} {i : Nat} {c z : Int} (tz : Tok) (hus : IntsAre us (intsOf (figs (cs.take i)))) (hci : cs[i]? = some c) (hA : isA c = true) (hz : z = c % 32) : IntsAre (us ++ [.int z tz]) (intsOf (figs (cs.take (i + 1)))) := by
  rw [figs_snoc hci, show (fig c).toList = [(c % 32).toNat] by simp [fig, hA], intsOf_snoc, show (((c % 32).toNat : Nat) : Int) = z by omega]
  exact hus.append (.cons _ _ .nil)
theorem figs_ok (cs : List Int) : Figs (figs cs) := fun d hd => by
  obtain ⟨c, _, e⟩ := List.mem_filterMap.mp hd
  unfold fig at e
  split at e
  · rename_i h
    have e2 := Option.some.inj e
    unfold isA at h
    simp only [Bool.or_eq_true, decide_eq_true_eq] at h
    omega
  · cases e
theorem figs_none {cs : List Int} {i : Nat} {c : Int} (hci : cs[i]? = some c) (hA : isA c = false) : figs (cs.take (i + 1)) = figs (cs.take i) := by
  rw [figs_snoc hci, show (fig c).toList = [] by simp [fig, hA], List.append_nil]
/-- what holds between the turns: the figures so far -/
def JF (fl cl : Addr) (cv : List Value) (ce : Nat) (cs : List Int) (i : Nat) (m : Str → Option Value) (rest : List (Addr × Obj)) : Prop :=
  ∃ us ep, m "codes" = some (.ref cl) ∧ m "figures" = some (.ref fl) ∧ rest = [(fl, listOf us.toArray ep), (cl, listOf cv.toArray ce)] ∧ IntsAre us (intsOf (figs (cs.take i)))
/-- what holds between the turns: what has been told -/
def JT (dl pl fl cl : Addr) (pws us cv : List Value) (pe ep ce : Nat) (tups : List (Addr × Obj)) (cw : List (List Nat)) (n : Nat) (i : Nat) (m : Str → Option Value) (rest : List (Addr × Obj)) : Prop :=
  ∃ ws ep2 objs tl, m "told" = some (.ref dl) ∧ m "figures" = some (.ref fl) ∧ m "codes" = some (.ref cl) ∧ m "left" = some (.int (vw (cw.take (cw.length - i)).flatten) tl) ∧
    rest = (dl, listOf ws.toArray ep2) :: (pl, listOf pws.toArray pe) :: (fl, listOf us.toArray ep) :: (cl, listOf cv.toArray ce) :: (tups ++ objs) ∧ LedAll objs ws ((cw.reverse.take i).map (dueItem n)) ∧ (∀ p ∈ objs, p.1 ≠ dl ∧ hid p.2 = false)
theorem turn_figs {w : World} {A : Around} {E : Value → Shared → Prop} {s : Shared} {g : Heap} {L I fl cl : Addr} {io₁ : Obj} {us cv : List Value} {ep ce : Nat} {tb₁ : List (Addr × Obj)} {h' : Heap} {tk' : Nat} {m' : Str → Option Value} {cs : List Int} {i : Nat} {c z : Int} {tz : Tok} {Q : Value → Shared → Prop}
    (B₁ : Tb tb₁) (F : Fr g L h' m') (N : News g L h' ((I, io₁) :: (fl, listOf us.toArray ep) :: (cl, listOf cv.toArray ce) :: tb₁)) (nIf : fl ≠ I) (nIc : cl ≠ I) (nfc : fl ≠ cl) (hul : us.length ≤ 8) (hc : m' "codes" = some (.ref cl)) (hf : m' "figures" = some (.ref fl))
    (hus : IntsAre us (intsOf (figs (cs.take i)))) (hci : cs[i]? = some c) (hA : isA c = true) (hz : z = c % 32)
    (hQ : ∀ s', TurnOk g L I io₁ s (JF fl cl cv ce cs (i + 1)) .next s' → Q .none s') :
    wpAny (model Challenge.rw_pg0144_01.row.prog w) A (call (.builtin "list.append") [.ref fl, .int z tz]) Q E { s with heap := h', toks := tk' } := by
  refine append_m ((I, io₁) :: (cl, listOf cv.toArray ce) :: tb₁) F N (.tail _ (.head _)) (fun p hp => ?_) (fun p hp => ?_) (by omega) ?_
  · rcases List.mem_cons.mp hp with rfl | hp
    · exact .head _
    · exact .tail _ (.tail _ hp)
  · rcases List.mem_cons.mp hp with rfl | hp
    · exact nIf.symm
    rcases List.mem_cons.mp hp with rfl | hp
    · exact nfc.symm
    · exact tb_ne N (.tail _ (.tail _ (.tail _ hp))) (B₁.h p hp) (show (fl, _) ∈ _ from .tail _ (.head _)) rfl
  intro h9 F9 N9
  refine hQ _ (turn_ok [(fl, listOf (us ++ [Value.int z tz]).toArray (ep + 1)), (cl, listOf cv.toArray ce)] tb₁ _ rfl B₁ F9 N9 (fun p hp => ?_) ⟨_, _, hc, hf, rfl, figs_ints tz hus hci hA hz⟩ (fun p hp => ?_))
  · rcases List.mem_cons.mp hp with rfl | hp
    · exact .tail _ (.head _)
    rcases List.mem_cons.mp hp with rfl | hp
    · exact .head _
    · exact .tail _ (.tail _ hp)
  · rcases List.mem_cons.mp hp with rfl | hp
    · exact nIf
    · rw [List.mem_singleton.mp hp]; exact nIc
section
variable {w : World} {loose : List Str} {mean : ExcName → Option Value} {mg mb : Str → Option Value} {g₀ : Heap}
local macro_rules | `(tactic| walk_at "compareOp Eq ref ref") => `(tactic| (k_dflt (refine barrier ?_)))
theorem fn155 {name qual name₀ qual₀ : Str} {params params₀ : Arguments} {body body₀ : List Stmt} {scope scope₀ : Scope} {dV kV doc pm cdv ct oc dV₀ kV₀ doc₀ pm₀ cdv₀ ct₀ oc₀ : Value} {an od an₀ od₀ : Option Addr} {osl osl₀ : Array (Option Value)}
    (ho : (hd.heap_39 w.params).lookup 155 = some ⟨oc, od, .func (fnOf name qual params body scope dV kV doc pm an cdv ct), osl⟩) (P : Str → Scope → List Stmt → Prop)
    (ho₀ : (hd.heap_39 w.params).lookup 155 = some ⟨oc₀, od₀, .func (fnOf name₀ qual₀ params₀ body₀ scope₀ dV₀ kV₀ doc₀ pm₀ an₀ cdv₀ ct₀), osl₀⟩) (h : P qual₀ scope₀ body₀) : P qual scope body := by
  have e := congrArg Obj.data (Option.some.inj (ho₀.symm.trans ho))
  simp only [fnOf, Data.func.injEq, FuncData.mk.injEq] at e
  obtain ⟨_, rfl, _, e4, rfl, _, _, _, _, _, _, _, rfl, _⟩ := e
  cases e4
  exact h
/-- the law's body, whatever function object bears it -/
theorem law_body {A : Around} {s : Shared} {Q : Flow → Shared → Prop} {name qual : Str} {params : Arguments} {body : List Stmt} {scope : Scope} {dV kV doc pm cdv ct oc : Value} {an od : Option Addr} {osl : Array (Option Value)} {f : Addr} {cd : Value} {g : Heap} {L : Addr} {m : Str → Option Value} {tb : List (Addr × Obj)}
    (sl : Addr) (vs : List Value) (ns : List Int) (ho : (hd.heap_39 w.params).lookup 155 = some ⟨oc, od, .func (fnOf name qual params body scope dV kV doc pm an cdv ct), osl⟩)
    (hh : A.handled = none) (hdp : A.depth + 280 < recursionLimit) (hun : A.units + 8 * 280 < cLine) (D : Gd w loose mean mg mb g₀ g) (B : Tb tb) (F : Fr g L s.heap m) (hms : m "script" = some (.ref sl)) (N : News g L s.heap tb)
    (hl : g.IsList sl vs.toArray) (hp2 : IntsAre vs ns) (hp3 : ns.length ≤ 63)
    (hret : ∀ h' tk' tb' m', Tb tb' → Fr g L h' m' → News g L h' tb' → Q (.ret (.bool true)) { s with heap := h', toks := tk' }) :
    wpAny (model Challenge.rw_pg0144_01.row.prog w) (A.deeper (envX qual scope L f cd [])) (execs body (envX qual scope L f cd [])) Q (fun _ _ => False) s := by
  have hX : (hd.heap_39 w.params).In g ∧ (Challenge.rw_pg0144_01 = Challenge.rw_pg0144_01) := by k_fill; exact ⟨D.X, rfl⟩
  refine' fn155 ho (fun qual scope body => wpAny (model Challenge.rw_pg0144_01.row.prog w) (A.deeper (envX qual scope L f cd [])) (execs body (envX qual scope L f cd [])) Q (fun _ _ => False) s) ?ho0 ?_
  case ho0 => k_is
  have X := D.X
  have T := D.T
  clear ho hX
  walk_at "m go"
  refine useQ [] (law_codes sl vs ns) D B F N (fun _ h => nomatch h) (fun p hp => hp) (fun _ h => nomatch h) hh (roomD hdp (by decide)) (roomU hun (by decide)) ⟨stays_list F.keep hl, hp2, hp3⟩ ?_
  intro v tl tb' h3 tk3 B3 F3 N3 hne hid3 po
  obtain ⟨cl, cv, ce, cs, rfl, rfl, hcv, hcs8, hodd⟩ := po
  simp only [List.nil_append, List.cons_append] at N3
  clear F N B hne hid3 hp2 hp3 hl
  walk_at "m go"
  rename_i fl hfA ltf hfB F1 N1 hfC tkC t1 u1 v1 hR F2 N2 kp
  have nfc : fl ≠ cl := (Nat.ne_of_lt ltf.1).symm
  obtain ⟨m₀, F4, hc0, hf0⟩ : ∃ m₀, Fr g L hfC m₀ ∧ m₀ "codes" = some (.ref cl) ∧ m₀ "figures" = some (.ref fl) := ⟨_, F2, rfl, rfl⟩
  clear F2 F1 N1
  refine loop_range (A := A.deeper _) (n := 8) (rest := [(fl, listOf [].toArray 0), (cl, listOf cv.toArray ce)])
    (JF fl cl cv ce cs)
    hR (by decide) (by decide) hh B3 F4 N2 ⟨[], 0, hc0, hf0, rfl, .nil⟩ ?_ ?_
  · rintro I i ti m₁ rest₁ tb₁ io₁ h tk hi hlt ⟨us, ep, hc, hf, rfl, hus⟩ B₁ hio F₁ N₁ hI₁
    simp only [List.cons_append, List.nil_append] at N₁
    have hi0 : (0 : Int) ≤ (i : Int) := Int.natCast_nonneg _
    have hi8 : (i : Int) < (cs.length : Int) := by omega
    have hci : cs[i]? = some (cs.getD ((i : Nat) : Int).toNat 0) := by
      rw [Int.toNat_natCast, List.getD_eq_getElem?_getD, List.getElem?_eq_getElem (by omega)]; rfl
    have hsn := figs_snoc hci
    have hul : us.length ≤ 8 := by
      rw [hus.length, intsOf, List.length_map]
      exact Nat.le_trans (figs_len _) (by rw [List.length_take]; omega)
    have nIf : fl ≠ I := hI₁ (fl, listOf us.toArray ep) (.head _)
    have nIc : cl ≠ I := hI₁ (cl, listOf cv.toArray ce) (.tail _ (.head _))
    rcases Nat.mod_two_eq_zero_or_one i with hpar | hpar
    · have em : ((i : Nat) : Int).fmod 2 = 0 := by rw [Int.fmod_eq_emod_of_nonneg _ (by decide)]; omega
      rcases Bool.eq_false_or_eq_true (isA (cs.getD ((i : Nat) : Int).toNat 0)) with hA | hA
      · walk_at "m go"
        rename_i h5 tk5 F5 N5 t5
        refine turn_figs B₁ F5 N5 nIf nIc nfc hul hc hf hus hci hA rfl fun s' hs' => ?_
        walk_at "m go"
        exact hs'
      · walk_at "m go"
        rename_i h5 tk5 F5 N5
        refine turn_ok [(fl, listOf us.toArray ep), (cl, listOf cv.toArray ce)] tb₁ _ rfl B₁ F5 N5 (fun p hp => hp) ⟨us, ep, hc, hf, rfl, by rw [figs_none hci hA]; exact hus⟩ hI₁
    · have em : ((i : Nat) : Int).fmod 2 = 1 := by rw [Int.fmod_eq_emod_of_nonneg _ (by decide)]; omega
      obtain ⟨q0, q1⟩ := hodd i _ hci hpar
      rcases Bool.eq_false_or_eq_true (isA (cs.getD ((i : Nat) : Int).toNat 0)) with hA | hA
      · have hA2 : isA (((cs.getD ((i : Nat) : Int).toNat 0).toNat : Nat) : Int) = true := by rw [Int.toNat_of_nonneg q0]; exact hA
        walk_at "m go"
        rename_i h5 tk5 F5 N5 t5
        refine turn_figs B₁ F5 N5 nIf nIc nfc hul hc hf hus hci hA (by omega) fun s' hs' => ?_
        walk_at "m go"
        exact hs'
      · have hA2 : isA (((cs.getD ((i : Nat) : Int).toNat 0).toNat : Nat) : Int) = false := by rw [Int.toNat_of_nonneg q0]; exact hA
        walk_at "m go"
        rename_i h5 tk5 F5 N5
        refine turn_ok [(fl, listOf us.toArray ep), (cl, listOf cv.toArray ce)] tb₁ _ rfl B₁ F5 N5 (fun p hp => hp) ⟨us, ep, hc, hf, rfl, by rw [figs_none hci hA]; exact hus⟩ hI₁
  · rintro m₁ rest₁ tb₁ h tk ⟨us, ep, hc, hf, rfl, hus⟩ B₁ F₁ N₁
    simp only [List.cons_append, List.nil_append] at N₁
    rw [List.take_of_length_le (Nat.le_of_eq hcs8)] at hus
    obtain ⟨fs, hfs⟩ : ∃ fs, fs = figs cs := ⟨_, rfl⟩
    rw [← hfs] at hus
    have hff : Figs fs := by rw [hfs]; exact figs_ok cs
    have hf8 : fs.length ≤ 8 := by rw [hfs, ← hcs8]; exact figs_len cs
    have hul : us.length ≤ 8 := by rw [hus.length, intsOf, List.length_map]; exact hf8
    walk_at "m go"
    rename_i D5 h6 F6 N6 lt6
    refine list_rev (A := A.deeper _) hh F6 N6 (.head _) (fun p hp => ?_) (by omega) ?_
    · rcases List.mem_cons.mp hp with rfl | hp
      · exact Nat.ne_of_lt lt6.1
      rcases List.mem_cons.mp hp with rfl | hp
      · exact Nat.ne_of_lt lt6.2.1
      · exact tb_ne N6 (.tail _ (.tail _ (.tail _ hp))) (B₁.h p hp) (show (D5, _) ∈ _ from .head _) (hid_rev _ _)
    intro rl h7 tk7 c7 F7 N7 lt7
    clear F6 N6 lt6
    have hidr : ∀ p ∈ [(fl, listOf us.toArray ep), (cl, listOf cv.toArray ce)], hid p.2 = false := by
      intro p hp
      rcases List.mem_cons.mp hp with rfl | hp
      · rfl
      · rw [List.mem_singleton.mp hp]; rfl
    walk_at "m go"
    refine useQ [(fl, listOf us.toArray ep), (cl, listOf cv.toArray ce)] (digits2int rl us.reverse (intsOf fs).reverse 5 _) D B₁ F7 N7 (fun p hp => .tail _ (List.mem_append_left tb₁ hp)) (fun p hp => .tail _ (.tail _ (.tail _ hp))) hidr hh (roomD hdp (by decide)) (roomU hun (by decide)) ⟨⟨_, (N7 _ (.head _)).1, rfl, _, rfl⟩, hus.reverse, ?_, by decide, by decide, by rw [List.length_reverse, intsOf, List.length_map]; omega⟩ ?_
    · intro d hd
      obtain ⟨f, hf', rfl⟩ := List.mem_map.mp (List.mem_reverse.mp hd)
      have := hff f hf'
      have h240 : (1000 : Int) < 2 ^ 240 := by decide
      omega
    intro v tl tb8 h8 tk8 B8 F8 N8 hne8 hid8 po
    obtain ⟨rfl, t8, rfl⟩ := po
    rw [d2i_vw]
    simp only [List.nil_append, List.cons_append] at N8
    clear F7 N7 lt7 B₁ hne8 hid8
    walk_at "m go"
    rename_i hdA dl hdB ltd hdC F9 N9
    have ndf : fl ≠ dl := Nat.ne_of_lt ltd.1
    have ndc : cl ≠ dl := Nat.ne_of_lt ltd.2.1
    have hidr2 : ∀ p ∈ [(dl, listOf [].toArray 0), (fl, listOf us.toArray ep), (cl, listOf cv.toArray ce)], hid p.2 = false := by
      intro p hp
      rcases List.mem_cons.mp hp with rfl | hp
      · rfl
      · exact hidr p hp
    refine useQ [(dl, listOf [].toArray 0), (fl, listOf us.toArray ep), (cl, listOf cv.toArray ce)] (law_pieces fl us fs) D B8 F9 N9 (fun p hp => List.mem_append_left tb8 hp) (fun p hp => .tail _ (.tail _ (.tail _ hp))) hidr2 hh (roomD hdp (by decide)) (roomU hun (by decide)) ⟨⟨_, (N9 _ (.tail _ (.head _))).1, rfl, _, rfl⟩, hus, hf8, hff⟩ ?_
    intro v tl tb10 h10 tk10 B10 F10 N10 hne10 hid10 po
    obtain ⟨pl, pws, pe, tups, rfl, rfl, hT, hR⟩ := po
    simp only [List.nil_append, List.cons_append] at N10
    have npd : pl ≠ dl := fun e => hne10 _ (.head _) _ (.head _) e.symm
    have npf : pl ≠ fl := fun e => hne10 _ (.head _) _ (.tail _ (.head _)) e.symm
    have npc : pl ≠ cl := fun e => hne10 _ (.head _) _ (.tail _ (.tail _ (.head _))) e.symm
    have ntd : ∀ p ∈ tups, p.1 ≠ dl := fun p hp e => hne10 p (.tail _ hp) _ (.head _) e.symm
    clear F9 N9 B8 hne10 hid10
    obtain ⟨cw, hcw, hpc, hcwf, hflat⟩ := words_of hff
    rw [hpc] at hR
    have hpl := hR.len
    rw [List.length_map] at hpl
    have hcn : cw.length ≤ 8 := Nat.le_trans (hflat ▸ parts_len cw fun c hc => (hcwf c hc).1) hf8
    walk_at "m go"
    rename_i D11 h11 F11 N11 lt11
    refine wpAny_pyIter_revIter ⟨_, (N11 _ (.head _)).1, rfl, rfl⟩ ?_
    obtain ⟨m₂, F12, hc2, hf2, hd2, hl2⟩ : ∃ m₂, Fr g L h11 m₂ ∧ m₂ "codes" = some (.ref cl) ∧ m₂ "figures" = some (.ref fl) ∧ m₂ "told" = some (.ref dl) ∧ m₂ "left" = some (.int (vw fs) t8) := ⟨_, F11, hc, hf, rfl, rfl⟩
    clear F11
    have N12 : News g L h11 ((D11, revObj pl ((pws.length : Int) - 1)) :: (((dl, listOf [].toArray 0) :: (pl, listOf pws.toArray pe) :: (fl, listOf us.toArray ep) :: (cl, listOf cv.toArray ce) :: (tups ++ [])) ++ tb10)) := fun p hp => N11 p (by
      simp only [List.append_nil, List.cons_append] at hp
      rcases List.mem_cons.mp hp with rfl | hp
      · exact .head _
      rcases List.mem_cons.mp hp with rfl | hp
      · exact .tail _ (.tail _ (List.mem_append_right _ (.head _)))
      rcases List.mem_cons.mp hp with rfl | hp
      · exact .tail _ (.head _)
      rcases List.mem_cons.mp hp with rfl | hp
      · exact .tail _ (.tail _ (List.mem_append_right _ (.tail _ (.head _))))
      rcases List.mem_cons.mp hp with rfl | hp
      · exact .tail _ (.tail _ (List.mem_append_right _ (.tail _ (.tail _ (.head _)))))
      rcases List.mem_append.mp hp with hp | hp
      · exact .tail _ (.tail _ (List.mem_append_left _ hp))
      · exact .tail _ (.tail _ (List.mem_append_right _ (.tail _ (.tail _ (.tail _ hp))))))
    have alt : ∀ p ∈ (dl, listOf [].toArray 0) :: (pl, listOf pws.toArray pe) :: (fl, listOf us.toArray ep) :: (cl, listOf cv.toArray ce) :: (tups ++ []), p.1 ≠ D11 := by
      intro p hp
      simp only [List.append_nil] at hp
      rcases List.mem_cons.mp hp with rfl | hp
      · exact Nat.ne_of_lt (allLt_mem lt11.2 _ (List.mem_append_right _ (.head _)))
      rcases List.mem_cons.mp hp with rfl | hp
      · exact Nat.ne_of_lt lt11.1
      rcases List.mem_cons.mp hp with rfl | hp
      · exact Nat.ne_of_lt (allLt_mem lt11.2 _ (List.mem_append_right _ (.tail _ (.head _))))
      rcases List.mem_cons.mp hp with rfl | hp
      · exact Nat.ne_of_lt (allLt_mem lt11.2 _ (List.mem_append_right _ (.tail _ (.tail _ (.head _)))))
      · exact Nat.ne_of_lt (allLt_mem lt11.2 _ (List.mem_append_left _ hp))
    clear N11 lt11
    refine loop_revT (A := A.deeper _) (l := pl) (vs := pws) (ea := pe) (rest := (dl, listOf [].toArray 0) :: (pl, listOf pws.toArray pe) :: (fl, listOf us.toArray ep) :: (cl, listOf cv.toArray ce) :: (tups ++ []))
      (JT dl pl fl cl pws us cv pe ep ce tups cw fs.length)
      hh ?_ B10 F12 N12 alt ?_ ?_ ?_
    · rintro i m rest ⟨_, _, _, _, _, _, _, _, rfl, _⟩
      exact .tail _ (.head _)
    · exact ⟨[], 0, [], t8, hd2, hf2, hc2, by rw [Nat.sub_zero, List.take_length, hflat]; exact hl2, rfl, .nil, fun _ h => nomatch h⟩
    · clear N12 F12 alt
      rintro i v m₃ rest₃ tb₃ io₃ h tk hi hv ⟨ws, ep2, objs, tl, hd3, hf3, hc3, hl3, rfl, hL, ho⟩ B₃ hio F₃ N₃ hI₃
      obtain ⟨y, wd, a, ty, tv, hst, rfl, hma⟩ := hR.at _ v hv
      rw [List.getElem?_map] at hst
      obtain ⟨c, hcc, hpr⟩ := Option.map_eq_some_iff.mp hst
      obtain ⟨rfl, rfl⟩ : vw c = y ∧ c.length = wd := ⟨congrArg Prod.fst hpr, congrArg Prod.snd hpr⟩
      rw [hpl] at hcc hi
      have hcm := List.mem_of_getElem? hcc
      obtain ⟨hc0, hcf⟩ := hcwf c hcm
      have hcl : c.length ≤ fs.length := by rw [← hflat]; exact (List.sublist_flatten_of_mem hcm).length_le
      have hc1 : 1 ≤ c.length := List.length_pos_iff.mpr hc0
      have hsn : (cw.reverse.take (i + 1)).map (dueItem fs.length) = (cw.reverse.take i).map (dueItem fs.length) ++ [dueItem fs.length c] := by
        rw [List.take_add_one, List.getElem?_reverse hi, hcc, List.map_append]; rfl
      have hls := left_step hi hcc
      obtain ⟨pre, hpre⟩ : ∃ pre, pre = (cw.take (cw.length - (i + 1))).flatten := ⟨_, rfl⟩
      rw [← hpre] at hls
      have hpf : Figs (pre ++ c) ∧ (pre ++ c).length ≤ 8 := by
        rw [← hls]
        refine ⟨fun d hd => ?_, Nat.le_trans (flat_mono _) (hflat ▸ hf8)⟩
        obtain ⟨l, hl1, hl2⟩ := List.mem_flatten.mp hd
        exact (hcwf l (List.mem_of_mem_take hl1)).2 d hl2
      rw [hls] at hl3
      clear hv hst hpr hcc hls
      refine unpack2 F₃ N₃ (.tail _ (List.mem_append_left _ (.tail _ (.tail _ (.tail _ (.tail _ (List.mem_append_left _ hma))))))) hh (fun h4 F4 N4 => ?_) rfl rfl rfl
      simp only [List.cons_append] at N4
      clear F₃ N₃
      obtain ⟨P, hP⟩ : ∃ P, (32 : Int) ^ c.length = P := ⟨_, rfl⟩
      obtain ⟨M, hM⟩ : ∃ M, (32 : Int) ^ fs.length = M := ⟨_, rfl⟩
      obtain ⟨P2, hP2⟩ : ∃ P2, (32 : Int) ^ (2 * c.length) = P2 := ⟨_, rfl⟩
      obtain ⟨p1, p2, p3, r1, r2, r3⟩ := turn_nums hc1 hcf hpf.1 hpf.2 hf8 hP hM hP2
      have w0 : (0 : Int) ≤ ((c.length : Nat) : Int) := Int.natCast_nonneg _
      have e1 : (32 : Int) ^ ((c.length : Nat) : Int).toNat = P := by rw [Int.toNat_natCast, hP]
      have ln : (intsOf fs).length = fs.length := List.length_map ..
      have z2 : (0 : Int) ≤ (((intsOf fs).length : Nat) : Int) := Int.natCast_nonneg _
      have e2 : (32 : Int) ^ (((intsOf fs).length : Nat) : Int).toNat = M := by rw [Int.toNat_natCast, ln, hM]
      have lz : (intsOf fs).length ≤ 8 := by rw [ln]; exact hf8
      have hbits : Builtin.Int.intBits (vw c) ≤ 64 := by
        obtain ⟨c0, c1⟩ := vw_range _ hcf.le
        exact Nat.le_trans (intBits_small c0 (by rw [← p32_two]; exact c1)) (by omega)
      have m1 : IntMulOk (vw c) M := IntMulOk.of_left hbits
      obtain ⟨a2, e3⟩ : ∃ a, vw c * M = a := ⟨_, rfl⟩
      obtain ⟨b2, e4⟩ : ∃ b, P - 1 = b := ⟨_, rfl⟩
      have e5 : (2 : Int) * ((c.length : Nat) : Int) = ((2 * c.length : Nat) : Int) := by omega
      have m5 : IntMulOk 2 ((c.length : Nat) : Int) := IntMulOk.of_left (by decide)
      have z6 : (0 : Int) ≤ ((2 * c.length : Nat) : Int) := Int.natCast_nonneg _
      have e6 : (32 : Int) ^ ((2 * c.length : Nat) : Int).toNat = P2 := by rw [Int.toNat_natCast, hP2]
      obtain ⟨q2, e7⟩ : ∃ q, P2 - 1 = q := ⟨_, rfl⟩
      obtain ⟨a3, e8⟩ : ∃ a, vw c * q2 = a := ⟨_, rfl⟩
      have m8 : IntMulOk (vw c) q2 := IntMulOk.of_left hbits
      rw [e7, e8, e4] at p3 r3
      rw [e3, e4] at p2 r2
      have hidb : ∀ p ∈ (D11, io₃) :: (dl, listOf ws.toArray ep2) :: (pl, listOf pws.toArray pe) :: (fl, listOf us.toArray ep) :: (cl, listOf cv.toArray ce) :: (tups ++ objs), hid p.2 = false := by
        intro p hp
        rcases List.mem_cons.mp hp with rfl | hp
        · exact hio
        rcases List.mem_cons.mp hp with rfl | hp
        · rfl
        rcases List.mem_cons.mp hp with rfl | hp
        · rfl
        rcases List.mem_cons.mp hp with rfl | hp
        · rfl
        rcases List.mem_cons.mp hp with rfl | hp
        · rfl
        rcases List.mem_append.mp hp with hp | hp
        · exact hT.hid p hp
        · exact (ho p hp).2
      walk_at "m go"
      refine useD ((D11, io₃) :: (dl, listOf ws.toArray ep2) :: (pl, listOf pws.toArray pe) :: (fl, listOf us.toArray ep) :: (cl, listOf cv.toArray ce) :: (tups ++ objs)) (int_divmod _ _ _ _) D B₃ F4 N4 (fun p hp => List.mem_append_left tb₃ hp) (fun p hp => .tail _ (.tail _ (.tail _ (.tail _ (.tail _ (List.mem_append_right _ hp)))))) hidb hh (roomD hdp (by decide)) (roomU hun (by decide)) p1 r1 ?_
      intro x5 t51 t52 tb5 h5 tk5 B5 F5 N5 hne5
      clear F4 N4 hne5 B₃
      walk_at "m go"
      rename_i hq6 F6 N6 tq6 tkq6
      refine useD ((D11, io₃) :: (dl, listOf ws.toArray ep2) :: (pl, listOf pws.toArray pe) :: (fl, listOf us.toArray ep) :: (cl, listOf cv.toArray ce) :: (tups ++ objs)) (int_divmod _ _ _ _) D B5 F6 N6 (fun p hp => .tail _ (List.mem_append_left tb5 hp)) (fun p hp => .tail _ (List.mem_append_right _ hp)) hidb hh (roomD hdp (by decide)) (roomU hun (by decide)) p2 r2 ?_
      intro x7 t71 t72 tb7 h7 tk7 B7 F7 N7 hne7
      clear F6 N6 hne7 B5
      walk_at "m go"
      rename_i hq8 F8 N8
      refine useD ((D11, io₃) :: (dl, listOf ws.toArray ep2) :: (pl, listOf pws.toArray pe) :: (fl, listOf us.toArray ep) :: (cl, listOf cv.toArray ce) :: (tups ++ objs)) (int_divmod _ _ _ _) D B7 F8 N8 (fun p hp => .tail _ (List.mem_append_left tb7 hp)) (fun p hp => .tail _ (List.mem_append_right _ hp)) hidb hh (roomD hdp (by decide)) (roomU hun (by decide)) p3 r3 ?_
      intro x9 t91 t92 tb9 h9 tk9 B9 F9 N9 nx9
      clear F8 N8 B7
      have hidb9 : ∀ p ∈ (x9, tupO [.int (vw c * P + vw c) t91, .int 0 t92]) :: (D11, io₃) :: (dl, listOf ws.toArray ep2) :: (pl, listOf pws.toArray pe) :: (fl, listOf us.toArray ep) :: (cl, listOf cv.toArray ce) :: (tups ++ objs), hid p.2 = false := by
        intro p hp
        rcases List.mem_cons.mp hp with rfl | hp
        · rfl
        · exact hidb p hp
      have hff2 : Figs (frontW c fs.length) := fun d hd => hcf d (front_mem hd)
      have htf2 : Figs (turnW c (fs.length % c.length)) := fun d hd => hcf d (turn_mem hd)
      have hfl2 : (frontW c fs.length).length = fs.length := front_len c hc1 _
      have htl2 : (turnW c (fs.length % c.length)).length = c.length := turn_len (Nat.le_of_lt (Nat.mod_lt _ hc1))
      have hfn : frontW c fs.length ≠ [] := fun e => by rw [e] at hfl2; simp at hfl2; omega
      have htn : turnW c (fs.length % c.length) ≠ [] := fun e => by rw [e] at htl2; simp at htl2; omega
      walk_at "m go"
      rename_i hq10 F10 N10
      refine useS ((x9, tupO [.int (vw c * P + vw c) t91, .int 0 t92]) :: (D11, io₃) :: (dl, listOf ws.toArray ep2) :: (pl, listOf pws.toArray pe) :: (fl, listOf us.toArray ep) :: (cl, listOf cv.toArray ce) :: (tups ++ objs)) (law_shown _ _ (intsOf (frontW c fs.length))) D B9 F10 N10 (fun p hp => List.mem_append_left tb9 hp) (fun p hp => .tail _ (List.mem_append_right _ hp)) hidb9 hh (roomD hdp (by decide)) (roomU hun (by decide)) (shown_pre hfn hff2 (by omega)) ?_
      intro t11 tb11 h11 tk11 B11 F11 N11
      clear F10 N10 B9
      walk_at "m go"
      refine useS ((x9, tupO [.int (vw c * P + vw c) t91, .int 0 t92]) :: (D11, io₃) :: (dl, listOf ws.toArray ep2) :: (pl, listOf pws.toArray pe) :: (fl, listOf us.toArray ep) :: (cl, listOf cv.toArray ce) :: (tups ++ objs)) (law_shown _ _ (intsOf (turnW c (fs.length % c.length)))) D B11 F11 N11 (fun p hp => List.mem_append_left tb11 hp) (fun p hp => .tail _ (List.mem_append_right _ hp)) hidb9 hh (roomD hdp (by decide)) (roomU hun (by decide)) (shown_pre htn htf2 (by omega)) ?_
      intro t13 tb13 h13 tk13 B13 F13 N13
      clear F11 N11 B11
      walk_at "m go"
      rename_i l14 h14 F14 N14 lt14
      obtain ⟨o14, ho14, N15⟩ : ∃ o, o = listOf [Value.int (vw c) t52, Value.str (shownOf (intsOf (frontW c fs.length))) t11, Value.str (shownOf (intsOf (turnW c (fs.length % c.length)))) t13, Value.ref x9].toArray 0 ∧
        News g L h14 ((l14, o) :: (x9, tupO [.int (vw c * P + vw c) t91, .int 0 t92]) :: (D11, io₃) :: (dl, listOf ws.toArray ep2) :: (pl, listOf pws.toArray pe) :: (fl, listOf us.toArray ep) :: (cl, listOf cv.toArray ce) :: (tups ++ objs ++ tb13)) := ⟨_, rfl, N14⟩
      have hwl := hL.len
      rw [List.length_map, List.length_take, List.length_reverse] at hwl
      refine append_m ((l14, o14) :: (x9, tupO [.int (vw c * P + vw c) t91, .int 0 t92]) :: (D11, io₃) :: (pl, listOf pws.toArray pe) :: (fl, listOf us.toArray ep) :: (cl, listOf cv.toArray ce) :: (tups ++ objs ++ tb13)) F14 N15 (.tail _ (.tail _ (.tail _ (.head _)))) (fun p hp => ?_) (fun p hp => ?_) (by omega) ?_
      · rcases List.mem_cons.mp hp with rfl | hp
        · exact .head _
        rcases List.mem_cons.mp hp with rfl | hp
        · exact .tail _ (.head _)
        rcases List.mem_cons.mp hp with rfl | hp
        · exact .tail _ (.tail _ (.head _))
        · exact .tail _ (.tail _ (.tail _ (.tail _ hp)))
      · rcases List.mem_cons.mp hp with rfl | hp
        · exact (Nat.ne_of_lt (lt14 (dl, listOf ws.toArray ep2) (.tail _ (.tail _ (.head _))))).symm
        rcases List.mem_cons.mp hp with rfl | hp
        · exact (nx9 _ (.tail _ (.head _))).symm
        rcases List.mem_cons.mp hp with rfl | hp
        · exact (hI₃ _ (.head _)).symm
        rcases List.mem_cons.mp hp with rfl | hp
        · exact npd
        rcases List.mem_cons.mp hp with rfl | hp
        · exact ndf
        rcases List.mem_cons.mp hp with rfl | hp
        · exact ndc
        rcases List.mem_append.mp hp with h1 | h1
        · rcases List.mem_append.mp h1 with h1 | h1
          · exact ntd p h1
          · exact (ho p h1).1
        · exact tb_ne N15 (.tail _ (.tail _ (.tail _ (.tail _ (.tail _ (.tail _ (.tail _ hp))))))) (B13.h p h1) (show (dl, _) ∈ _ from .tail _ (.tail _ (.tail _ (.head _)))) rfl
      intro h16 F16 N16
      clear F14 N14 N15
      walk_at "m go"
      have hdi : dueItem fs.length c = .list [.int (vw c), .str (shownOf (intsOf (frontW c fs.length))), .str (shownOf (intsOf (turnW c (fs.length % c.length)))), .tuple [.int (vw c * P + vw c), .int 0]] := by rw [dueItem, hP]
      refine turn_ok ((dl, listOf (ws ++ [Value.ref l14]).toArray (ep2 + 1)) :: (pl, listOf pws.toArray pe) :: (fl, listOf us.toArray ep) :: (cl, listOf cv.toArray ce) :: (tups ++ ((l14, o14) :: (x9, tupO [.int (vw c * P + vw c) t91, .int 0 t92]) :: objs))) tb13 _ rfl B13 F16 N16 (fun p hp => ?_)
        ⟨_, _, (l14, o14) :: (x9, tupO [.int (vw c * P + vw c) t91, .int 0 t92]) :: objs, t51, hd3, hf3, hc3, by rw [← hpre]; exact rfl, rfl, ?_, fun p hp => ?_⟩ (fun p hp => ?_)
      · rcases List.mem_cons.mp hp with rfl | hp
        · exact .tail _ (.tail _ (.tail _ (.head _)))
        rcases List.mem_append.mp hp with hp | hp
        · rcases List.mem_cons.mp hp with rfl | hp
          · exact .head _
          rcases List.mem_cons.mp hp with rfl | hp
          · exact .tail _ (.tail _ (.tail _ (.tail _ (.head _))))
          rcases List.mem_cons.mp hp with rfl | hp
          · exact .tail _ (.tail _ (.tail _ (.tail _ (.tail _ (.head _)))))
          rcases List.mem_cons.mp hp with rfl | hp
          · exact .tail _ (.tail _ (.tail _ (.tail _ (.tail _ (.tail _ (.head _))))))
          rcases List.mem_append.mp hp with hp | hp
          · exact .tail _ (.tail _ (.tail _ (.tail _ (.tail _ (.tail _ (.tail _ (List.mem_append_left _ (List.mem_append_left _ hp))))))))
          rcases List.mem_cons.mp hp with rfl | hp
          · exact .tail _ (.head _)
          rcases List.mem_cons.mp hp with rfl | hp
          · exact .tail _ (.tail _ (.head _))
          · exact .tail _ (.tail _ (.tail _ (.tail _ (.tail _ (.tail _ (.tail _ (List.mem_append_left _ (List.mem_append_right _ hp))))))))
        · exact .tail _ (.tail _ (.tail _ (.tail _ (.tail _ (.tail _ (.tail _ (List.mem_append_right _ hp)))))))
      · rw [hsn, hdi]
        refine (hL.mono fun p hp => .tail _ (.tail _ hp)).append (.cons ?_ .nil)
        subst ho14
        exact .list (.head _) (.cons (.int _ _) (.cons (.str _ _) (.cons (.str _ _) (.cons (.tuple (.tail _ (.head _)) (.cons (.int _ _) (.cons (.int _ _) .nil))) .nil))))
      · rcases List.mem_cons.mp hp with rfl | hp
        · exact ⟨(Nat.ne_of_lt (lt14 (dl, listOf ws.toArray ep2) (.tail _ (.tail _ (.head _))))).symm, by rw [ho14]; rfl⟩
        rcases List.mem_cons.mp hp with rfl | hp
        · exact ⟨(nx9 _ (.tail _ (.head _))).symm, rfl⟩
        · exact ho p hp
      · rcases List.mem_cons.mp hp with rfl | hp
        · exact hI₃ (dl, listOf ws.toArray ep2) (.head _)
        rcases List.mem_cons.mp hp with rfl | hp
        · exact hI₃ (pl, listOf pws.toArray pe) (.tail _ (.head _))
        rcases List.mem_cons.mp hp with rfl | hp
        · exact hI₃ (fl, listOf us.toArray ep) (.tail _ (.tail _ (.head _)))
        rcases List.mem_cons.mp hp with rfl | hp
        · exact hI₃ (cl, listOf cv.toArray ce) (.tail _ (.tail _ (.tail _ (.head _))))
        rcases List.mem_append.mp hp with hp | hp
        · exact hI₃ p (.tail _ (.tail _ (.tail _ (.tail _ (List.mem_append_left _ hp)))))
        rcases List.mem_cons.mp hp with rfl | hp
        · exact (Nat.ne_of_lt (lt14 (D11, io₃) (.tail _ (.head _)))).symm
        rcases List.mem_cons.mp hp with rfl | hp
        · exact (nx9 _ (.head _)).symm
        · exact hI₃ p (.tail _ (.tail _ (.tail _ (.tail _ (List.mem_append_right _ hp)))))
    · rintro m₃ rest₃ tb₃ h tk ⟨ws, ep2, objs, tl, hd3, hf3, hc3, hl3, rfl, hL, ho⟩ B₃ F₃ N₃ hI₃
      simp only [List.cons_append] at N₃
      have hl4 : m₃ "left" = some (.int 0 tl) := by rw [hl3, hpl, Nat.sub_self]; rfl
      have hwl := hL.len
      rw [List.length_map, List.length_take, List.length_reverse] at hwl
      rw [show pws.length = cw.reverse.length by rw [List.length_reverse, hpl], List.take_length] at hL
      clear hl3 F12 N12 alt
      have hidb : ∀ p ∈ (dl, listOf ws.toArray ep2) :: (cl, listOf cv.toArray ce) :: objs, hid p.2 = false := by
        intro p hp
        rcases List.mem_cons.mp hp with rfl | hp
        · rfl
        rcases List.mem_cons.mp hp with rfl | hp
        · rfl
        · exact (ho p hp).2
      walk_at "m go"
      refine useQ ((dl, listOf ws.toArray ep2) :: (cl, listOf cv.toArray ce) :: objs) (int_divmod 0 32 _ _) D B₃ F₃ N₃ (fun p hp => ?_) (fun p hp => .tail _ (.tail _ (.tail _ (.tail _ (List.mem_append_right _ hp))))) hidb hh (roomD hdp (by decide)) (roomU hun (by decide)) (by decide) ?_
      · rcases List.mem_cons.mp hp with rfl | hp
        · exact .head _
        rcases List.mem_cons.mp hp with rfl | hp
        · exact .tail _ (.tail _ (.tail _ (.head _)))
        · exact .tail _ (.tail _ (.tail _ (.tail _ (List.mem_append_left _ (List.mem_append_right _ hp)))))
      intro v tl5 tb5 h5 tk5 B5 F5 N5 hne5 hid5 po
      obtain ⟨x5, t51, t52, rfl, rfl⟩ := po
      rw [show (0 : Int) / 32 = 0 from rfl, show (0 : Int) % 32 = 0 from rfl] at N5
      simp only [List.nil_append, List.cons_append] at N5
      have nx5 : dl ≠ x5 := hne5 _ (.head _) _ (.head _)
      clear F₃ N₃ B₃ hne5 hid5
      walk_at "m go"
      refine append_m ((x5, tupO [.int 0 t51, .int 0 t52]) :: (cl, listOf cv.toArray ce) :: (objs ++ tb5)) F5 N5 (.tail _ (.head _)) (fun p hp => ?_) (fun p hp => ?_) (by omega) ?_
      · rcases List.mem_cons.mp hp with rfl | hp
        · exact .head _
        · exact .tail _ (.tail _ hp)
      · rcases List.mem_cons.mp hp with rfl | hp
        · exact nx5.symm
        rcases List.mem_cons.mp hp with rfl | hp
        · exact ndc
        rcases List.mem_append.mp hp with h1 | h1
        · exact (ho p h1).1
        · exact tb_ne N5 (.tail _ (.tail _ (.tail _ hp))) (B5.h p h1) (show (dl, _) ∈ _ from .tail _ (.head _)) rfl
      intro h6 F6 N6
      clear F5 N5
      have hidb2 : ∀ p ∈ (dl, listOf (ws ++ [Value.ref x5]).toArray (ep2 + 1)) :: (x5, tupO [.int 0 t51, .int 0 t52]) :: objs, hid p.2 = false := by
        intro p hp
        rcases List.mem_cons.mp hp with rfl | hp
        · rfl
        rcases List.mem_cons.mp hp with rfl | hp
        · rfl
        · exact (ho p hp).2
      have hLed : LedAll ((x5, tupO [.int 0 t51, .int 0 t52]) :: objs) (ws ++ [Value.ref x5]) (dueData fs.length cw) := (hL.mono fun p hp => .tail _ hp).append (.cons (.tuple (.head _) (.cons (.int _ _) (.cons (.int _ _) .nil))) .nil)
      walk_at "m go"
      refine useQ ((dl, listOf (ws ++ [Value.ref x5]).toArray (ep2 + 1)) :: (x5, tupO [.int 0 t51, .int 0 t52]) :: objs) (law_word cl cv cs) D B5 F6 N6 (fun p hp => ?_) (fun p hp => .tail _ (.tail _ (.tail _ (List.mem_append_right _ hp)))) hidb2 hh (roomD hdp (by decide)) (roomU hun (by decide)) ⟨⟨_, (N6 _ (.tail _ (.tail _ (.head _)))).1, rfl, _, rfl⟩, hcv, Nat.le_of_eq hcs8⟩ ?_
      · rcases List.mem_cons.mp hp with rfl | hp
        · exact .head _
        rcases List.mem_cons.mp hp with rfl | hp
        · exact .tail _ (.head _)
        · exact .tail _ (.tail _ (.tail _ (List.mem_append_left _ hp)))
      intro v tl7 tb7 h7 tk7 B7 F7 N7 hne7 hid7 po
      obtain ⟨rfl, t7, rfl⟩ := po
      rw [← hfs]
      simp only [List.nil_append, List.cons_append] at N7
      clear F6 N6 hne7 hid7 B5
      walk_at "m go"
      refine useQ ((dl, listOf (ws ++ [Value.ref x5]).toArray (ep2 + 1)) :: (x5, tupO [.int 0 t51, .int 0 t52]) :: objs) (law_due fs _) D B7 F7 N7 (fun p hp => List.mem_append_left tb7 hp) (fun p hp => .tail _ (.tail _ (List.mem_append_right _ hp))) hidb2 hh (roomD hdp (by decide)) (roomU hun (by decide)) ⟨hff, hf8⟩ ?_
      intro v tl9 tb9 h9 tk9 B9 F9 N9 hne9 hid9 po
      obtain ⟨cs', hcs', hLd⟩ := po
      have ecs : cs' = cw := (cuts_pieces hcs').trans hcw.symm
      subst ecs
      have hok := due_ok (n := fs.length) fun c hc => (hcwf c hc).2
      obtain ⟨as1, rd1⟩ := Led.reads (v := .ref dl) (d := .list (dueData fs.length cs')) N9 (.list (List.mem_append_right _ (.head _)) (hLed.mono fun p hp => List.mem_append_right _ (.tail _ (List.mem_append_left _ hp))))
      obtain ⟨as2, rd2⟩ := Led.reads N9 (hLd.mono fun p hp => List.mem_append_left _ hp)
      have hu64 : ∀ env : Env, (A.deeper env).units + 64 < cLine := fun env => by show A.units + 3 + 64 < cLine; omega
      clear F7 N7 B7 hne9 hid9
      cases hLd with
      | @list a9 vs9 e9 ds9 hm9 hl9 =>
        walk_at "m go"
        refine eq_dataH rd1 rd2 hok.2 hok.2 (hu64 _) ?_
        rw [PySem.SeqAt.eqv_refl _ hok.1]
        walk_at "m go"
        exact hret _ _ _ _ B9 F9 fun p hp => N9 p (List.mem_append_right _ (.tail _ (.tail _ (List.mem_append_right _ hp))))
end
end Mine
theorem PySem.Challenge.cw_pg0144_01_holds : PySem.Challenge.rw_pg0144_01.Holds := by
  refine Mine.hd ?_
  k_go0
  rename (Mine.hd.heap_39 _).In (ghostOf _ _) => X'
  rename Top topProg _ _ _ _ (ghostOf _ _) => T'
  rename Fr (ghostOf _ _) _ _ _ => F'
  rename News (ghostOf _ _) _ _ _ => N'
  rename IntsAre _ _ => hI'
  rename _ = (#[] : Array GenState) => hg'
  have D := Mine.Gd.mk X' T' (fun _ _ e => e) (fun _ _ e _ => e) X'
  have B : Mine.Tb [(30, tabObj #[]), (37, tabObj #[])] := ⟨by
    intro q hq
    rcases List.mem_cons.mp hq with rfl | hq
    · rfl
    · rw [List.mem_singleton.mp hq]; rfl, .inl (.head _), .inl (.tail _ (.head _))⟩
  refine' wpAny_mono (Mine.law_body (A := callerA) _ _ _ ?ho rfl (by decide) (by decide) D B F' rfl N' (by assumption) hI' (by omega) ?hend) (fun fl s' h => h) (fun _ _ x => x.elim)
  case ho => k_is
  case hend =>
    intro h' tk' tb' m' B' F'' N''
    have gr : ∀ {P : Addr} {l c : Int} {q : Str}, Mine.TabL P l c q tb' → GrownAt P h' := fun h => by
      rcases h with h | ⟨_, _, _, _, h, _⟩
      · exact ⟨_, (N'' _ h).1⟩
      · exact ⟨_, (N'' _ h).1⟩
    refine ⟨goodW_bool F'' hg' (raisesW_false ?_) ?_, gr B'.a, gr B'.b, trivial⟩
    · wrow_none_raised
    · wrow_post
