import PyProof.Rows.All
import Wide.All
import OpenK.AllK
import Wide.FinOn
import PySem.Challenge.RW_in0271_01
open PySem PySem.W PyProof.Rows
set_option Elab.async false
set_option linter.unusedVariables false
set_option genSizeOf false
namespace Mine
noncomputable def keepAt (is : List Nat) (l : List Stmt) : List Stmt := is.filterMap (l[·]?)
abbrev row : OpenRow := PySem.Challenge.rw_in0271_01.row
/-- the statements of the text that the head keeps -/
noncomputable def view : Program := { row.prog with main := { row.prog.main with body := keepAt [0, 2, 3, 5, 6, 8, 9, 11, 12, 14, 16, 17, 18, 19, 20, 21, 22, 23, 24, 25, 26, 27] row.prog.main.body } }
theorem said0 : PySem.Challenge.rw_in0271_01.wellSaid = true := by rw [PySem.W.Fast.te9446332074065402090]; kernel_rfl
/-- a hook noted: the head's first half lays the written part (hd.heap_1) and asks nothing of it yet -/
noncomputable def Noted (_H : Hook) (q p : Prop) : Prop := q → p
theorem noted {H : Hook} {p q : Prop} (hw : q) (hc : Noted H q p) : p := hc hw
local macro_rules | `(tactic| o_law) => `(tactic| refine holds_law Mine.said0 fun said => ?_)
local macro_rules | `(tactic| o_head $H) => `(tactic| refine Mine.noted (H := $H) (q := RowW.promised (OpenRow.toRowW Mine.row)) ?hw ?hc)
set_option maxHeartbeats 8000000 in
open_top hd for PySem.Challenge.rw_in0271_01
end Mine
set_option maxRecDepth 100000
namespace Mine
section
noncomputable abbrev KF (P : Params) : Frag := Mine.hd.heap_1 P
noncomputable abbrev prog : Program := PySem.Challenge.rw_in0271_01.row.prog

/-- deep values -/
inductive PV where
  | none
  | bool (b : Bool)
  | int (i : Int)
  | str (s : Str)
  | raw (v : Value)
  | lst (xs : List PV)
  | tup (xs : List PV)
  | inst (root tag : PV)

mutual
noncomputable def Rd (h : Heap) (mu : Addr → Prop) : PV → Value → Prop
  | .none, v => v = .none
  | .bool b, v => v = .bool b
  | .int i, v => ∃ t, v = .int i t
  | .str s, v => ∃ t, v = .str s t
  | .raw u, v => v = u
  | .lst xs, v => ∃ a o vs n, v = .ref a ∧ ¬ mu a ∧ h.get? a = some o ∧ o.cls = .type "list" ∧ o.data = .seq vs n ∧ RdL h mu xs vs.toList
  | .tup xs, v => ∃ a o vs n, v = .ref a ∧ ¬ mu a ∧ h.get? a = some o ∧ o.cls = .type "tuple" ∧ o.data = .seq vs n ∧ RdL h mu xs vs.toList
  | .inst r t, v => ∃ a d rv tv h1 t1 h2 t2 n, v = .ref a ∧ ¬ mu a ∧ ¬ mu d ∧ h.get? a = some ⟨.ref 55, some d, .plain, #[]⟩ ∧
      h.get? d = some { cls := .type "dict", data := .dict #[⟨h1, .str "root" t1, rv⟩, ⟨h2, .str "tag" t2, tv⟩] n } ∧ Rd h mu r rv ∧ Rd h mu t tv
noncomputable def RdL (h : Heap) (mu : Addr → Prop) : List PV → List Value → Prop
  | [], vs => vs = []
  | x :: xs, vs => ∃ v r, vs = v :: r ∧ Rd h mu x v ∧ RdL h mu xs r
end

mutual
theorem Rd.monoG {h h' : Heap} {mu mu' : Addr → Prop} (hk : ∀ b o, ¬ mu b → (∀ vs, o.data ≠ .fields vs) → h.get? b = some o → h'.get? b = some o ∧ ¬ mu' b) :
    ∀ {p : PV} {v : Value}, Rd h mu p v → Rd h' mu' p v
  | .none, _, x => x
  | .bool _, _, x => x
  | .int _, _, x => x
  | .str _, _, x => x
  | .raw _, _, x => x
  | .lst xs, _, x => by
    obtain ⟨a, o, vs, n, e, hm, hg, hc, hd, hl⟩ := x
    have k := hk a o hm (fun ws q => by rw [hd] at q; cases q) hg
    exact ⟨a, o, vs, n, e, k.2, k.1, hc, hd, RdL.monoG hk hl⟩
  | .tup xs, _, x => by
    obtain ⟨a, o, vs, n, e, hm, hg, hc, hd, hl⟩ := x
    have k := hk a o hm (fun ws q => by rw [hd] at q; cases q) hg
    exact ⟨a, o, vs, n, e, k.2, k.1, hc, hd, RdL.monoG hk hl⟩
  | .inst r t, _, x => by
    obtain ⟨a, d, rv, tv, h1, t1, h2, t2, n, e, hm, hm', hg, hg', hr, ht⟩ := x
    have k := hk _ _ hm (fun ws q => by cases q) hg
    have k' := hk _ _ hm' (fun ws q => by cases q) hg'
    exact ⟨a, d, rv, tv, h1, t1, h2, t2, n, e, k.2, k'.2, k.1, k'.1, Rd.monoG hk hr, Rd.monoG hk ht⟩
theorem RdL.monoG {h h' : Heap} {mu mu' : Addr → Prop} (hk : ∀ b o, ¬ mu b → (∀ vs, o.data ≠ .fields vs) → h.get? b = some o → h'.get? b = some o ∧ ¬ mu' b) :
    ∀ {xs : List PV} {vs : List Value}, RdL h mu xs vs → RdL h' mu' xs vs
  | [], _, x => x
  | _ :: _, _, x => by obtain ⟨v, r, e, hv, hr⟩ := x; exact ⟨v, r, e, Rd.monoG hk hv, RdL.monoG hk hr⟩
end
theorem Rd.mono {h h' : Heap} {mu mu' : Addr → Prop} (hk : ∀ b o, ¬ mu b → h.get? b = some o → h'.get? b = some o ∧ ¬ mu' b) {p : PV} {v : Value} : Rd h mu p v → Rd h' mu' p v := Rd.monoG fun b o a _ e => hk b o a e
theorem RdL.mono {h h' : Heap} {mu mu' : Addr → Prop} (hk : ∀ b o, ¬ mu b → h.get? b = some o → h'.get? b = some o ∧ ¬ mu' b) {xs : List PV} {vs : List Value} : RdL h mu xs vs → RdL h' mu' xs vs := RdL.monoG fun b o a _ e => hk b o a e

theorem RdL.length {h mu} : ∀ {xs : List PV} {vs : List Value}, RdL h mu xs vs → vs.length = xs.length
  | [], _, x => by cases x; rfl
  | _ :: _, _, ⟨_, _, e, _, hr⟩ => by subst e; simp [RdL.length hr]
theorem RdL.append {h mu} : ∀ {xs ys : List PV} {vs ws : List Value}, RdL h mu xs vs → RdL h mu ys ws → RdL h mu (xs ++ ys) (vs ++ ws)
  | [], _, _, _, x, y => by cases x; exact y
  | _ :: _, _, _, _, ⟨v, r, e, hv, hr⟩, y => by subst e; exact ⟨v, _, rfl, hv, hr.append y⟩
theorem RdL.get {h mu} : ∀ {xs : List PV} {vs : List Value}, RdL h mu xs vs → ∀ {i : Nat} {p : PV}, xs[i]? = some p → ∃ v, vs[i]? = some v ∧ Rd h mu p v
  | [], _, _, _, _, e => by simp at e
  | _ :: _, _, ⟨v, r, e, hv, hr⟩, i, p, hp => by
    subst e
    cases i with
    | zero => simp at hp; subst hp; exact ⟨v, by simp, hv⟩
    | succ i => simp at hp; simpa using hr.get hp
theorem RdL.one {h mu p v} (x : Rd h mu p v) : RdL h mu [p] [v] := ⟨v, [], rfl, x, rfl⟩

/-- the world of the proof -/
structure Wd where
  w : World
  H : Heap
  mg : Str → Option Value
  mb : Str → Option Value
  stk : List Env
/-- the frames of the activations that stand -/
noncomputable def Wd.frs (X : Wd) : List Addr := X.stk.filterMap (·.frame)
noncomputable abbrev Wd.push (X : Wd) (env : Env) : Wd := { X with stk := env :: X.stk }
theorem Wd.push_frs {X : Wd} {env : Env} {L : Addr} (h : env.frame = some L) : (X.push env).frs = L :: X.frs := by
  show (env :: X.stk).filterMap (·.frame) = _
  rw [List.filterMap_cons, h]; rfl

structure Cx (X : Wd) : Prop where
  K : (KF X.w.params).In X.H
  g : X.H.Ns mainGlobals X.mg
  b : X.H.Ns builtinsNs X.mb
  nolimit : X.H.NoLimit
  nodigits : ∃ mc, X.H.Ns cStatics mc ∧ mc "sys.int_max_str_digits" = none
  builtins : ∀ x : Str, x ≠ "__name__" → X.mb x = bootBuiltins x
  bmain : ∃ bm ob, X.mg "__builtins__" = some (.ref bm) ∧ bm ≠ builtinsNs ∧ X.H.get? bm = some ob ∧ ob.cls = .type "module" ∧ ob.dict = some builtinsNs ∧ ob.data = .plain
  c37 : CodeHd X.H 37 33
  c89 : CodeHd X.H 89 85
  n33 : X.H.get? 33 = none
  n85 : X.H.get? 85 = none
theorem Cx.push {X : Wd} (C : Cx X) (env : Env) : Cx (X.push env) := ⟨C.K, C.g, C.b, C.nolimit, C.nodigits, C.builtins, C.bmain, C.c37, C.c89, C.n33, C.n85⟩

/-- a code table that has grown -/
noncomputable def TabOk (h : Heap) (P : Addr) (ok : Value → Prop) : Prop :=
  ∃ ps, h.get? P = some (tabObj ps) ∧ TriplesOk ps.toList ∧ ∀ pos cv, codeAmong pos ps.toList = some cv → ok cv

structure Live (X : Wd) (h : Heap) : Prop where
  old : ∀ b o, X.H.get? b = some o → h.get? b = some o
  t33 : TabOk h 33 fun cv => h.CodeRec cv "_prepare_tag.<locals>.select"
  t85 : TabOk h 85 fun cv => ∃ c, cv = .ref c
  low : X.H.objs.size ≤ h.objs.size
  frs : ∀ env ∈ X.stk, env.scope.kind ≠ .module ∧ ∃ L m, env.frame = some L ∧ X.H.get? L = none ∧ h.Ns L m

theorem Live.kept {X : Wd} {h h' : Heap} (l : Live X h) (hk : ∀ b o, h.get? b = some o → h'.get? b = some o) (hz : h.objs.size ≤ h'.objs.size) : Live X h' where
  old := fun b o e => hk b o (l.old b o e)
  t33 := let ⟨ps, e, t, c⟩ := l.t33; ⟨ps, hk _ _ e, t, fun pos cv q => (c pos cv q).keeps hk⟩
  t85 := let ⟨ps, e, t, c⟩ := l.t85; ⟨ps, hk _ _ e, t, c⟩
  low := Nat.le_trans l.low hz
  frs := fun env he => let ⟨a, L, m, b, c, d⟩ := l.frs env he; ⟨a, L, m, b, c, d.keeps hk⟩
theorem Live.fr {X : Wd} {h : Heap} (l : Live X h) {b : Addr} (hb : b ∈ X.frs) : X.H.get? b = none ∧ ∃ m, h.Ns b m := by
  obtain ⟨env, he, hf⟩ := List.mem_filterMap.mp hb
  obtain ⟨_, L, m, h1, h2, h3⟩ := l.frs env he
  rw [hf] at h1; cases h1
  exact ⟨h2, m, h3⟩
/-- what no run but the machine's own bookkeeping leaves be: the two code tables that grow, and the frames that stand -/
noncomputable def isTab (X : Wd) (b : Addr) : Prop := b = 33 ∨ b = 85 ∨ b ∈ X.frs
noncomputable abbrev isCT (b : Addr) : Prop := b = 33 ∨ b = 85

/-- the generators that are not through -/
noncomputable def liveAt (a : Array GenState) (i : Nat) : Option GenState := match a[i]? with
  | some .finished => none
  | x => x
structure Grow (X : Wd) (s s' : Shared) : Prop where
  live : Live X s'.heap
  keep : ∀ b o, ¬ isTab X b → s.heap.get? b = some o → s'.heap.get? b = some o
  size : s.heap.objs.size ≤ s'.heap.objs.size
  os : s'.os = s.os
  frm : ∀ b m, b ∈ X.frs → s.heap.Ns b m → s'.heap.Ns b m
  gens : liveAt s'.gens = liveAt s.gens

theorem Grow.all {X : Wd} {s s' : Shared} (l : Live X s'.heap) (hk : ∀ b o, s.heap.get? b = some o → s'.heap.get? b = some o) (hz : s.heap.objs.size ≤ s'.heap.objs.size) (ho : s'.os = s.os) (hg : liveAt s'.gens = liveAt s.gens) : Grow X s s' :=
  ⟨l, fun b o _ e => hk b o e, hz, ho, fun b m _ hn => hn.keeps hk, hg⟩
theorem Grow.refl {X s} (l : Live X s.heap) : Grow X s s := .all l (fun _ _ e => e) (Nat.le_refl _) rfl rfl
theorem Grow.trans {X s₁ s₂ s₃} (a : Grow X s₁ s₂) (b : Grow X s₂ s₃) : Grow X s₁ s₃ :=
  ⟨b.live, fun c o ht e => b.keep c o ht (a.keep c o ht e), Nat.le_trans a.size b.size, b.os.trans a.os, fun c m hc hn => b.frm c m hc (a.frm c m hc hn), b.gens.trans a.gens⟩

inductive MO where
  | lst (xs : List PV)
  | obj (o : Obj)

structure FS where
  hs : Shared
  mu : Addr → Prop
  env : Env
  vars : List (Str × PV)
  own : List Addr
  led : List (Addr × MO)

noncomputable def FS.mu' (f : FS) (b : Addr) : Prop := f.mu b ∨ b ∈ f.own ∨ b ∈ f.led.map (·.1)

noncomputable def MO.At (h : Heap) (mu : Addr → Prop) (a : Addr) : MO → Prop
  | .lst xs => ∃ o vs n, h.get? a = some o ∧ (o.cls = .type "list" ∧ o.dict = none) ∧ o.data = .seq vs n ∧ RdL h mu xs vs.toList
  | .obj o => h.get? a = some o

/-- something stands there -/
noncomputable def Solid (h : Heap) (b : Addr) : Prop := ∃ o, h.get? b = some o
theorem Solid.of {h h' : Heap} {b : Addr} (x : Solid h b) (k : ∀ o, h.get? b = some o → h'.get? b = some o) : Solid h' b := let ⟨o, e⟩ := x; ⟨o, k o e⟩
theorem Solid.lt {h : Heap} {b : Addr} (x : Solid h b) : b < h.objs.size := let ⟨_, e⟩ := x; Heap.lt_size e
theorem Solid.ns {h : Heap} {b : Addr} {m} (x : h.Ns b m) : Solid h b := let ⟨o, es, ep, e, d, _⟩ := x; ⟨o, e⟩
theorem Solid.cell {h : Heap} {b : Addr} {v} (x : h.IsCell b v) : Solid h b := let ⟨o, e, d⟩ := x; ⟨o, e⟩
theorem Solid.seq {h : Heap} {b : Addr} {o : Obj} {vs n} (e : h.get? b = some o) (d : o.data = .seq vs n) : Solid h b := ⟨o, e⟩

structure FS.Ok (X : Wd) (f : FS) (s : Shared) : Prop where
  grow : Grow X f.hs s
  muLt : ∀ b, f.mu b → b < f.hs.heap.objs.size
  mu33 : f.mu 33
  mu85 : f.mu 85
  mfr : ∀ b ∈ X.frs, f.mu b ∨ b ∈ f.own
  apart : (f.own ++ f.led.map (·.1)).Nodup
  fresh : ∀ b ∈ f.own ++ f.led.map (·.1), f.hs.heap.objs.size ≤ b ∧ b < s.heap.objs.size
  locs : f.env.locals ∈ f.own
  kind : f.env.scope.kind = .function
  glob : f.env.globals = mainGlobals
  blt : f.env.builtins = builtinsNs
  hlow : X.H.objs.size ≤ f.hs.heap.objs.size
  ns : ∃ m, s.heap.Ns f.env.locals m ∧ ∀ x p, f.vars.lookup x = some p → f.env.kindOf x = some .local → ∃ v, m x = some v ∧ Rd s.heap f.mu' p v
  cell : ∀ x p, f.vars.lookup x = some p → f.env.kindOf x ≠ some .local → ∃ c v, f.env.cells.lookup x = some c ∧ s.heap.IsCell c (some v) ∧ Rd s.heap f.mu' p v
  led : ∀ a mo, (a, mo) ∈ f.led → mo.At s.heap f.mu' a
  solid : ∀ b ∈ f.own ++ f.led.map (·.1), Solid s.heap b
  cellv : ∀ n c, f.env.cells.lookup n = some c → ∃ v, s.heap.IsCell c v

theorem FS.not_tab {X f s} (F : FS.Ok X f s) : ∀ b, ¬ f.mu' b → ¬ isTab X b := fun b hb ht => hb (by
  rcases ht with rfl | rfl | ht
  · exact .inl F.mu33
  · exact .inl F.mu85
  · exact (F.mfr b ht).elim .inl fun h => .inr (.inl h))

theorem own_not_ct {X f s} (F : FS.Ok X f s) {b : Addr} (hb : b ∈ f.own ++ f.led.map (·.1)) : ¬ isCT b := fun ht => by
  have h1 := (F.fresh b hb).1
  rcases ht with rfl | rfl
  · exact absurd (F.muLt _ F.mu33) (Nat.not_lt.mpr h1)
  · exact absurd (F.muLt _ F.mu85) (Nat.not_lt.mpr h1)
theorem led_not_fr {X f s} (F : FS.Ok X f s) {b : Addr} (hb : b ∈ f.led.map (·.1)) : b ∉ X.frs := fun ht => by
  rcases F.mfr b ht with h | h
  · exact absurd (F.muLt _ h) (Nat.not_lt.mpr (F.fresh b (List.mem_append_right _ hb)).1)
  · exact (List.nodup_append.mp F.apart).2.2 b h b hb rfl
theorem led_not_tab {X f s} (F : FS.Ok X f s) {b : Addr} (hb : b ∈ f.led.map (·.1)) : ¬ isTab X b := fun ht => by
  rcases ht with h | h | h
  · exact own_not_ct F (List.mem_append_right _ hb) (.inl h)
  · exact own_not_ct F (List.mem_append_right _ hb) (.inr h)
  · exact led_not_fr F hb h
theorem tab_not_ns {X : Wd} {h : Heap} (l : Live X h) {c : Addr} {m} (x : h.Ns c m) : ¬ isCT c := fun ht => by
  obtain ⟨o, es, ep, e, d, _⟩ := x
  rcases ht with rfl | rfl
  · obtain ⟨ps, hp, _⟩ := l.t33; rw [e] at hp; cases hp; cases d
  · obtain ⟨ps, hp, _⟩ := l.t85; rw [e] at hp; cases hp; cases d
theorem Grow.ns {X : Wd} {s s' : Shared} (l : Live X s.heap) (G : Grow X s s') {b : Addr} {m} (x : s.heap.Ns b m) : s'.heap.Ns b m := by
  by_cases hb : b ∈ X.frs
  · exact G.frm b m hb x
  · exact x.at' fun o e => G.keep b o (fun ht => by
      rcases ht with h | h | h
      · exact tab_not_ns l x (.inl h)
      · exact tab_not_ns l x (.inr h)
      · exact hb h) e

theorem IsCell_of {h h' : Heap} {c : Addr} {v : Option Value} (x : h.IsCell c v) (hk : ∀ o, h.get? c = some o → h'.get? c = some o) : h'.IsCell c v :=
  let ⟨o, e, d⟩ := x; ⟨o, hk o e, d⟩
theorem tab_not_cell {X : Wd} {h : Heap} (l : Live X h) {c : Addr} {v : Option Value} (x : h.IsCell c v) : ¬ isTab X c := fun ht => by
  obtain ⟨o, e, d⟩ := x
  rcases ht with rfl | rfl | ht
  · obtain ⟨ps, hp, _⟩ := l.t33; rw [e] at hp; cases hp; cases d
  · obtain ⟨ps, hp, _⟩ := l.t85; rw [e] at hp; cases hp; cases d
  · obtain ⟨_, m, o', es, ep, e', d', _⟩ := l.fr ht
    rw [e] at e'; cases e'; rw [d] at d'; cases d'

theorem solid_ns_tab {X : Wd} {h : Heap} (l : Live X h) : (∃ o, h.get? 33 = some o) ∧ (∃ o, h.get? 85 = some o) := ⟨let ⟨_, e, _⟩ := l.t33; ⟨_, e⟩, let ⟨_, e, _⟩ := l.t85; ⟨_, e⟩⟩
theorem Grow.there {X : Wd} {s s' : Shared} (l : Live X s.heap) (G : Grow X s s') {b : Addr} (x : ∃ o, s.heap.get? b = some o) : ∃ o, s'.heap.get? b = some o := by
  obtain ⟨o, e⟩ := x
  by_cases ht : isTab X b
  · rcases ht with rfl | rfl | ht
    · exact (solid_ns_tab G.live).1
    · exact (solid_ns_tab G.live).2
    · obtain ⟨_, m, o', _, _, e', _⟩ := G.live.fr ht
      exact ⟨o', e'⟩
  · exact ⟨o, G.keep b o ht e⟩
theorem FS.Ok.grown {X : Wd} {f : FS} {s s' : Shared} (F : f.Ok X s) (l : Live X s.heap) (G : Grow X s s') : f.Ok X s' where
  grow := F.grow.trans G
  muLt := F.muLt
  mu33 := F.mu33
  mu85 := F.mu85
  mfr := F.mfr
  apart := F.apart
  fresh := fun b hb => ⟨(F.fresh b hb).1, Nat.lt_of_lt_of_le (F.fresh b hb).2 G.size⟩
  locs := F.locs
  kind := F.kind
  glob := F.glob
  blt := F.blt
  hlow := F.hlow
  ns := by
    obtain ⟨m, hn, hv⟩ := F.ns
    refine ⟨m, G.ns l hn, fun x p hx hk => ?_⟩
    obtain ⟨v, hm, hr⟩ := hv x p hx hk
    exact ⟨v, hm, hr.mono fun b o hb e => ⟨G.keep b o (FS.not_tab F b hb) e, hb⟩⟩
  cell := fun x p hx hk => by
    obtain ⟨c, v, hc, hv, hr⟩ := F.cell x p hx hk
    exact ⟨c, v, hc, IsCell_of hv fun o e => G.keep c o (tab_not_cell l hv) e, hr.mono fun b o hb e => ⟨G.keep b o (FS.not_tab F b hb) e, hb⟩⟩
  led := fun a mo hm => by
    have nt := led_not_tab F (List.mem_map_of_mem (f := (·.1)) hm)
    have := F.led a mo hm
    cases mo with
    | lst xs =>
      obtain ⟨o, vs, n, h1, h2, h3, h4⟩ := this
      exact ⟨o, vs, n, G.keep a o nt h1, h2, h3, h4.mono fun b o hb e => ⟨G.keep b o (FS.not_tab F b hb) e, hb⟩⟩
    | obj o => exact G.keep a o nt this
  solid := fun b hb => G.there l (F.solid b hb)
  cellv := fun n c hc => let ⟨v, hv⟩ := F.cellv n c hc; ⟨v, IsCell_of hv fun o e => G.keep c o (tab_not_cell l hv) e⟩

noncomputable def Room (X : Wd) (A : Around) (k : Nat) : Prop := A.handled = none ∧ A.depth + k < recursionLimit ∧ A.units + 16 * k < cLine ∧ A.frames = some X.stk

theorem Room.hd {X A k} (h : Room X A k) : A.handled = none := h.1
theorem Room.depth {X A k} (h : Room X A k) : A.depth < recursionLimit := Nat.lt_of_le_of_lt (Nat.le_add_right _ _) h.2.1
theorem Room.frames {X A k} (h : Room X A k) : A.frames = some X.stk := h.2.2.2

noncomputable abbrev Mo (X : Wd) : Model := model prog X.w

/-- an expression's worth -/
noncomputable def Ev (X : Wd) (k : Nat) (f : FS) (e : Expr) (p : PV) : Prop :=
  ∀ A s (Q : Value → Shared → Prop), Room X A k → f.Ok X s → (∀ v s', Grow X s s' → f.Ok X s' → Rd s'.heap f.mu' p v → Q v s') → wpAny (Mo X) A (eval e f.env) Q (fun _ _ => False) s

inductive Fl where
  | next | brk | cont
  | ret (p : PV)

noncomputable def Fl.Is (h : Heap) (mu : Addr → Prop) : Fl → Flow → Prop
  | .next, f => f = .next
  | .brk, f => f = .brk
  | .cont, f => f = .cont
  | .ret p, f => ∃ v, f = .ret v ∧ Rd h mu p v

noncomputable def FS.upd (f : FS) (vars : List (Str × PV)) (led : List (Addr × MO)) : FS := { f with vars := vars, led := led }

/-- what a frame's own statements may change: namespaces and cells -/
noncomputable def Loose (o : Obj) : Prop := (∃ es ep, o.data = .dict es ep) ∨ ∃ v, o.data = .cell v
/-- from one state of a frame to a later one -/
structure Step (f : FS) (s : Shared) (f' : FS) (s' : Shared) : Prop where
  keep : ∀ b o, ¬ f.mu b → b ∉ f.led.map (·.1) → (b ∈ f.own → ¬ Loose o) → s.heap.get? b = some o → s'.heap.get? b = some o
  mu : ∀ b, f'.mu b → f.mu b
  led : ∀ b, b ∈ f'.led.map (·.1) → b ∈ f.led.map (·.1) ∨ s.heap.get? b = none
  own : ∀ b, b ∈ f'.own → b ∈ f.own ∨ s.heap.get? b = none
  solid : ∀ b, Solid s.heap b → Solid s'.heap b
theorem none_of_solid {h h' : Heap} (k : ∀ b, Solid h b → Solid h' b) {b : Addr} (e : h'.get? b = none) : h.get? b = none := by
  cases q : h.get? b with
  | none => rfl
  | some o => obtain ⟨o', e'⟩ := k b ⟨o, q⟩; rw [e] at e'; cases e'
theorem Step.trans {f g h : FS} {s t u : Shared} (a : Step f s g t) (b : Step g t h u) : Step f s h u where
  keep := fun c o h1 h2 h3 e =>
    b.keep c o (fun h => h1 (a.mu c h)) (fun h => (a.led c h).elim h2 fun q => by rw [e] at q; cases q) (fun h => (a.own c h).elim h3 fun q => by rw [e] at q; cases q) (a.keep c o h1 h2 h3 e)
  mu := fun c hc => a.mu c (b.mu c hc)
  led := fun c hc => (b.led c hc).elim (a.led c) fun hl => .inr (none_of_solid a.solid hl)
  own := fun c hc => (b.own c hc).elim (a.own c) fun hl => .inr (none_of_solid a.solid hl)
  solid := fun c hc => b.solid c (a.solid c hc)
theorem solid_but {h h' : Heap} {a : Addr} (hs : Heap.SameBut a h h') (ha : Solid h' a) : ∀ b, Solid h b → Solid h' b := fun b ⟨o, e⟩ => by
  by_cases q : b = a
  · rw [q]; exact ha
  · exact ⟨o, (hs.2 b q).trans e⟩
theorem Live.solid {X : Wd} {h : Heap} (l : Live X h) : Solid h 33 ∧ Solid h 85 := ⟨let ⟨_, e, _⟩ := l.t33; ⟨_, e⟩, let ⟨_, e, _⟩ := l.t85; ⟨_, e⟩⟩
theorem Grow.solid {X : Wd} {s s' : Shared} (G : Grow X s s') : ∀ b, Solid s.heap b → Solid s'.heap b := fun b ⟨o, e⟩ => by
  by_cases ht : isTab X b
  · rcases ht with rfl | rfl | ht
    · exact G.live.solid.1
    · exact G.live.solid.2
    · obtain ⟨_, m, o', _, _, e', _⟩ := G.live.fr ht
      exact ⟨o', e'⟩
  · exact ⟨o, G.keep b o ht e⟩
/-- what no value of the frame's can be changed by -/
theorem Step.keeps {f f' : FS} {s s' : Shared} (S : Step f s f' s') {b : Addr} {o : Obj} (h : ¬ f.mu' b) (e : s.heap.get? b = some o) : s'.heap.get? b = some o :=
  S.keep b o (fun q => h (.inl q)) (fun q => h (.inr (.inr q))) (fun q => absurd (.inr (.inl q)) h) e

/-- statements, wp style -/
noncomputable def WS (X : Wd) (k : Nat) (f : FS) (st : List Stmt) (Ψ : Fl → List (Str × PV) → List (Addr × MO) → Prop) : Prop :=
  ∀ A s (Q : Flow → Shared → Prop), Room X A k → f.Ok X s → (∀ fl vars led g s', Ψ fl vars led → (f.upd vars led).Ok X s' → Step f s (f.upd vars led) s' → fl.Is s'.heap (f.upd vars led).mu' g → Q g s') →
    wpAny (Mo X) A (execs st f.env) Q (fun _ _ => False) s

/-- behind a block: the rest of the statements where it goes on -/
noncomputable abbrev Aft (X : Wd) (k : Nat) (hs : Shared) (mu : Addr → Prop) (env : Env) (own : List Addr) (rest : List Stmt) (Ψ : Fl → List (Str × PV) → List (Addr × MO) → Prop) : Fl → List (Str × PV) → List (Addr × MO) → Prop :=
  fun fl vars led => match fl with | .next => WS X k ⟨hs, mu, env, vars, own, led⟩ rest Ψ | fl => Ψ fl vars led
/-- behind a turn of a while -/
noncomputable abbrev Turn (X : Wd) (k : Nat) (hs : Shared) (mu : Addr → Prop) (env : Env) (own : List Addr) (J : Nat → List (Str × PV) → List (Addr × MO) → Prop) (n : Nat) (rest : List Stmt) (Ψ : Fl → List (Str × PV) → List (Addr × MO) → Prop) : Fl → List (Str × PV) → List (Addr × MO) → Prop :=
  fun fl vars' led' => match fl with
    | .next | .cont => ∃ m, m < n ∧ J m vars' led'
    | .brk => WS X k ⟨hs, mu, env, vars', own, led'⟩ rest Ψ
    | .ret p => Ψ (.ret p) vars' led'
/-- behind a turn of a for -/
noncomputable abbrev ForT (X : Wd) (k : Nat) (hs : Shared) (mu : Addr → Prop) (env : Env) (own : List Addr) (J : Nat → List (Str × PV) → List (Addr × MO) → Prop) (i : Nat) (rest : List Stmt) (Ψ : Fl → List (Str × PV) → List (Addr × MO) → Prop) : Fl → List (Str × PV) → List (Addr × MO) → Prop :=
  fun fl V' L' => match fl with
    | .next | .cont => J (i + 1) V' L'
    | .brk => WS X k ⟨hs, mu, env, V', own, L'⟩ rest Ψ
    | .ret q => Ψ (.ret q) V' L'
/-- behind a turn of a while whose end is told by P -/
noncomputable abbrev TurnP (P : List (Str × PV) → List (Addr × MO) → Prop) (J : Nat → List (Str × PV) → List (Addr × MO) → Prop) (n : Nat) (Ψ : Fl → List (Str × PV) → List (Addr × MO) → Prop) : Fl → List (Str × PV) → List (Addr × MO) → Prop :=
  fun fl V' L' => match fl with
    | .next | .cont => ∃ m, m < n ∧ J m V' L'
    | .brk => P V' L'
    | .ret p => Ψ (.ret p) V' L'
end
section
variable {X : Wd} {k : Nat} {f : FS}

theorem Grow.toks {s : Shared} {t : Nat} (l : Live X s.heap) : Grow X s { s with toks := t } := .all l (fun _ _ e => e) (Nat.le_refl _) rfl rfl
theorem FS.Ok.live {s : Shared} (F : f.Ok X s) : Live X s.heap := F.grow.live
theorem FS.Ok.toks {s : Shared} (F : f.Ok X s) (t : Nat) : f.Ok X { s with toks := t } := F.grown F.live (.toks F.live)
theorem FS.Ok.mu_lt {s : Shared} (F : f.Ok X s) : ∀ b, f.mu' b → b < s.heap.objs.size := fun b hb => by
  rcases hb with h | h | h
  · exact Nat.lt_of_lt_of_le (F.muLt b h) F.grow.size
  · exact (F.fresh b (List.mem_append_left _ h)).2
  · exact (F.fresh b (List.mem_append_right _ h)).2
theorem Rd.grow {s s' : Shared} {mu : Addr → Prop} {p : PV} {v : Value} (x : Rd s.heap mu p v) (ht : ∀ b, isTab X b → mu b) (G : Grow X s s') : Rd s'.heap mu p v :=
  x.mono fun b o hb e => ⟨G.keep b o (fun h => hb (ht b h)) e, hb⟩
theorem RdL.grow {s s' : Shared} {mu : Addr → Prop} {p : List PV} {v : List Value} (x : RdL s.heap mu p v) (ht : ∀ b, isTab X b → mu b) (G : Grow X s s') : RdL s'.heap mu p v :=
  x.mono fun b o hb e => ⟨G.keep b o (fun h => hb (ht b h)) e, hb⟩
theorem FS.Ok.mtab {s : Shared} (F : f.Ok X s) : ∀ b, isTab X b → f.mu' b := fun b ht => by
  rcases ht with rfl | rfl | h
  · exact .inl F.mu33
  · exact .inl F.mu85
  · exact (F.mfr b h).elim .inl fun h => .inr (.inl h)
theorem FS.Ok.rd {s s' : Shared} {p : PV} {v : Value} (F : f.Ok X s) (x : Rd s.heap f.mu' p v) (G : Grow X s s') : Rd s'.heap f.mu' p v := x.grow F.mtab G
theorem FS.Ok.rdl {s s' : Shared} {p : List PV} {v : List Value} (F : f.Ok X s) (x : RdL s.heap f.mu' p v) (G : Grow X s s') : RdL s'.heap f.mu' p v := x.grow F.mtab G

/-- what a state says to an operation -/
structure Sane (X : Wd) (mu : Addr → Prop) (s : Shared) : Prop where
  live : Live X s.heap
  lt : ∀ b, mu b → b < s.heap.objs.size
  mtab : ∀ b, isTab X b → mu b
theorem FS.Ok.sane {s : Shared} (F : f.Ok X s) : Sane X f.mu' s := ⟨F.live, F.mu_lt, F.mtab⟩
theorem Sane.new {mu : Addr → Prop} {s : Shared} (S : Sane X mu s) : ¬ mu s.heap.objs.size := fun h => Nat.lt_irrefl _ (S.lt _ h)

/-- operations on values -/
noncomputable def Op1 (X : Wd) (k : Nat) (p : PV) (t : Value → Sem Value) (r : PV) : Prop :=
  ∀ A s mu v (Q : Value → Shared → Prop), Room X A k → Sane X mu s → Rd s.heap mu p v → (∀ u s', Grow X s s' → Rd s'.heap mu r u → Q u s') → wpAny (Mo X) A (t v) Q (fun _ _ => False) s
noncomputable def Op2 (X : Wd) (k : Nat) (p q : PV) (t : Value → Value → Sem Value) (r : PV) : Prop :=
  ∀ A s mu v w (Q : Value → Shared → Prop), Room X A k → Sane X mu s → Rd s.heap mu p v → Rd s.heap mu q w → (∀ u s', Grow X s s' → Rd s'.heap mu r u → Q u s') → wpAny (Mo X) A (t v w) Q (fun _ _ => False) s
noncomputable def OpN (X : Wd) (k : Nat) (ps : List PV) (t : List Value → Sem Value) (r : PV) : Prop :=
  ∀ A s mu vs (Q : Value → Shared → Prop), Room X A k → Sane X mu s → RdL s.heap mu ps vs → (∀ u s', Grow X s s' → Rd s'.heap mu r u → Q u s') → wpAny (Mo X) A (t vs) Q (fun _ _ => False) s

theorem Op1.ev {s A p v t r} {Q : Value → Shared → Prop} (h : Op1 X k p t r) (R : Room X A k) (F : f.Ok X s) (hv : Rd s.heap f.mu' p v)
    (hQ : ∀ u s', Grow X s s' → f.Ok X s' → Rd s'.heap f.mu' r u → Q u s') : wpAny (Mo X) A (t v) Q (fun _ _ => False) s :=
  h A s f.mu' v Q R F.sane hv fun u s' G hr => hQ u s' G (F.grown F.live G) hr
theorem Op2.ev {s A p q v w t r} {Q : Value → Shared → Prop} (h : Op2 X k p q t r) (R : Room X A k) (F : f.Ok X s) (hv : Rd s.heap f.mu' p v) (hw : Rd s.heap f.mu' q w)
    (hQ : ∀ u s', Grow X s s' → f.Ok X s' → Rd s'.heap f.mu' r u → Q u s') : wpAny (Mo X) A (t v w) Q (fun _ _ => False) s :=
  h A s f.mu' v w Q R F.sane hv hw fun u s' G hr => hQ u s' G (F.grown F.live G) hr

/-- a truth -/
noncomputable def Tv (X : Wd) (k : Nat) (f : FS) (e : Expr) (b : Bool) : Prop :=
  ∀ A s (Q : Bool → Shared → Prop), Room X A k → f.Ok X s → (∀ s', Grow X s s' → f.Ok X s' → Q b s') → wpAny (Mo X) A (isTrue e f.env (eval e f.env)) Q (fun _ _ => False) s
noncomputable def Truthy (X : Wd) (k : Nat) (p : PV) (b : Bool) : Prop :=
  ∀ A s mu v (Q : Bool → Shared → Prop), Room X A k → Sane X mu s → Rd s.heap mu p v → (∀ s', Grow X s s' → Q b s') → wpAny (Mo X) A (truthy v) Q (fun _ _ => False) s

/-- names -/
theorem Ev.loc {x : Str} {pos : Pos} {p : PV} (hv : f.vars.lookup x = some p) (hl : f.env.kindOf x = some .local) (hd : (x == ("__debug__" : Str)) = false := by decide) : Ev X k f (.Name x pos) p := by
  intro A s Q R F hQ
  obtain ⟨m, hn, h⟩ := F.ns
  obtain ⟨v, hm, hr⟩ := h x p hv hl
  exact wpAny_Name (wpAny_loadName_local F.kind hl hn hm (hQ v s (.refl F.live) F hr)) hd
theorem Ev.cel {x : Str} {pos : Pos} {p : PV} (hv : f.vars.lookup x = some p) (hl : f.env.kindOf x = some .cell) (hd : (x == ("__debug__" : Str)) = false := by decide) : Ev X k f (.Name x pos) p := by
  intro A s Q R F hQ
  obtain ⟨c, v, hc, hcv, hr⟩ := F.cell x p hv (by rw [hl]; decide)
  exact wpAny_Name (wpAny_loadName_cell F.kind hl hc hcv (hQ v s (.refl F.live) F hr)) hd
theorem Ev.fre {x : Str} {pos : Pos} {p : PV} (hv : f.vars.lookup x = some p) (hl : f.env.kindOf x = some .free) (hd : (x == ("__debug__" : Str)) = false := by decide) (hn : (x == ("__classdict__" : Str)) = false := by decide) : Ev X k f (.Name x pos) p := by
  intro A s Q R F hQ
  obtain ⟨c, v, hc, hcv, hr⟩ := F.cell x p hv (by rw [hl]; decide)
  exact wpAny_Name (wpAny_loadName_free F.kind hl hc hcv (hQ v s (.refl F.live) F hr) hn) hd
theorem Ev.glo (C : Cx X) {x : Str} {pos : Pos} {v : Value} (e : ∀ P, nsIn (KF P) mainGlobals x = some (some v)) (hl : f.env.kindOf x = some .globalImplicit) (hd : (x == ("__debug__" : Str)) = false := by decide) :
    Ev X k f (.Name x pos) (.raw v) := by
  intro A s Q R F hQ
  refine Calls.Name_function_global F.kind hl (Calls.loadGlobal_global (mg := X.mg) ?_ (mg_of C.K C.g (e _)) (hQ v s (.refl F.live) F rfl)) hd
  rw [F.glob]; exact C.g.keeps F.live.old
theorem Ev.blt (C : Cx X) {x : Str} {pos : Pos} {v : Value} (e : ∀ P, nsIn (KF P) mainGlobals x = some none) (hb : bootBuiltins x = some v) (hl : f.env.kindOf x = some .globalImplicit) (hn : x ≠ "__name__" := by decide) (hd : (x == ("__debug__" : Str)) = false := by decide) :
    Ev X k f (.Name x pos) (.raw v) := by
  intro A s Q R F hQ
  refine Calls.Name_function_global F.kind hl (Calls.loadGlobal_builtin (mg := X.mg) (mb := X.mb) ?_ (mg_none_of C.K C.g (e _)) ?_ ((C.builtins x hn).trans hb) (hQ v s (.refl F.live) F rfl)) hd
  · rw [F.glob]; exact C.g.keeps F.live.old
  · rw [F.blt]; exact C.b.keeps F.live.old

/-- constants -/
theorem Ev.cint {i : Int} {n : Nat} {pos : Pos} : Ev X k f (.Constant (.int i) n pos) (.int i) := fun _ s _ _ F hQ => wpAny_Constant_int (hQ _ _ (.toks F.live) (F.toks _) ⟨_, rfl⟩)
theorem Ev.cstr {x : Str} {n : Nat} {pos : Pos} : Ev X k f (.Constant (.str x) n pos) (.str x) := fun _ s _ _ F hQ => Calls.Constant_str (hQ _ _ (.toks F.live) (F.toks _) ⟨_, rfl⟩)
theorem Ev.cbool {b : Bool} {n : Nat} {pos : Pos} : Ev X k f (.Constant (.bool b) n pos) (.bool b) := fun _ s _ _ F hQ => Constant_bool (hQ _ s (.refl F.live) F rfl)
theorem Ev.cnone {n : Nat} {pos : Pos} : Ev X k f (.Constant .none n pos) .none := fun _ s _ _ F hQ => Constant_none (hQ _ s (.refl F.live) F rfl)

/-- operators -/
theorem Ev.bin {l r : Expr} {op : Operator} {pos : Pos} {p q u : PV} (hl : Ev X k f l p) (hr : Ev X k f r q) (ho : Op2 X k p q (binaryOp op) u) : Ev X k f (.BinOp l op r pos) u := by
  intro A s Q R F hQ
  refine wpAny_BinOp (hl A s _ R F fun v s₁ G₁ F₁ h₁ => hr A s₁ _ R F₁ fun w s₂ G₂ F₂ h₂ => ?_)
  exact ho.ev R F₂ (F₁.rd h₁ G₂) h₂ fun u s₃ G₃ F₃ h₃ => hQ u s₃ ((G₁.trans G₂).trans G₃) F₃ h₃
theorem Ev.cmp {l r : Expr} {op : CmpOp} {pos : Pos} {p q u : PV} (hl : Ev X k f l p) (hr : Ev X k f r q) (ho : Op2 X k p q (compareOp op) u)
    (hm : behindInMarks op r = false := by with_unfolding_all rfl) : Ev X k f (.Compare l [op] [r] pos) u := by
  intro A s Q R F hQ
  refine wpAny_Compare1 (hl A s _ R F fun v s₁ G₁ F₁ h₁ => hr A s₁ _ R F₁ fun w s₂ G₂ F₂ h₂ => ?_) hm
  exact ho.ev R F₂ (F₁.rd h₁ G₂) h₂ fun u s₃ G₃ F₃ h₃ => hQ u s₃ ((G₁.trans G₂).trans G₃) F₃ h₃
theorem Ev.una {e : Expr} {op : UnaryOp} {pos : Pos} {p u : PV} (he : Ev X k f e p) (ho : Op1 X k p (unaryOp op) u) : Ev X k f (.UnaryOp op e pos) u := by
  intro A s Q R F hQ
  refine UnaryOp_ (he A s _ R F fun v s₁ G₁ F₁ h₁ => ?_)
  exact ho.ev R F₁ h₁ fun u s₃ G₃ F₃ h₃ => hQ u s₃ (G₁.trans G₃) F₃ h₃

theorem Tv.cmp {l r : Expr} {op : CmpOp} {pos : Pos} {p q : PV} {b : Bool} (hl : Ev X k f l p) (hr : Ev X k f r q) (ho : Op2 X k p q (compareOp op) (.bool b))
    (hm : behindInMarks op r = false := by with_unfolding_all rfl) : Tv X k f (.Compare l [op] [r] pos) b := by
  intro A s Q R F hQ
  refine wpAny_isTrue_Compare1 (hl A s _ R F fun v s₁ G₁ F₁ h₁ => hr A s₁ _ R F₁ fun w s₂ G₂ F₂ h₂ => ?_) hm
  refine ho.ev R F₂ (F₁.rd h₁ G₂) h₂ fun u s₃ G₃ F₃ h₃ => ?_
  cases h₃
  exact wpAny_truthy_bool (hQ s₃ ((G₁.trans G₂).trans G₃) F₃)
theorem Tv.not {e : Expr} {pos : Pos} {b : Bool} (h : Tv X k f e b) : Tv X k f (.UnaryOp .Not e pos) (!b) := by
  intro A s Q R F hQ
  exact isTrue_not (h A s _ R F fun s' G F' => hQ s' G F')
theorem Tv.plain {e : Expr} {p : PV} {b : Bool} (he : Ev X k f e p) (ht : Truthy X k p b)
    (hs : ∀ whole, isTrue e f.env whole = (do let v ← whole; standAt e.pos; holding [v] (truthy v)) := by intro _; rfl) : Tv X k f e b := by
  intro A s Q R F hQ
  refine isTrue_plain (he A s _ R F fun v s₁ G₁ F₁ h₁ => ?_) (hs _)
  exact ht A s₁ f.mu' v Q R F₁.sane h₁ fun s' G => hQ s' (G₁.trans G) (F₁.grown F₁.live G)
theorem Tv.and_t {e e' : Expr} {rest : List Expr} {pos : Pos} {b : Bool} (h : Tv X k f e true) (hr : Tv X k f (.BoolOp .And (e' :: rest) pos) b) : Tv X k f (.BoolOp .And (e :: e' :: rest) pos) b := by
  intro A s Q R F hQ
  exact isTrue_and (h A s _ R F fun s' G F' => by rw [if_pos rfl]; exact hr A s' _ R F' fun s'' G' F'' => hQ s'' (G.trans G') F'')
theorem Tv.and_f {e : Expr} {rest : List Expr} {pos : Pos} (h : Tv X k f e false) : Tv X k f (.BoolOp .And (e :: rest) pos) false := by
  intro A s Q R F hQ
  exact isTrue_and (h A s _ R F fun s' G F' => by rw [if_neg Bool.false_ne_true]; exact hQ s' G F')
theorem Tv.and_1 {e : Expr} {pos : Pos} {b : Bool} (h : Tv X k f e b) : Tv X k f (.BoolOp .And [e] pos) b := by
  intro A s Q R F hQ
  refine isTrue_and (h A s _ R F fun s' G F' => ?_)
  cases b with
  | true => rw [if_pos rfl]; exact isTrue_and_nil (hQ s' G F')
  | false => rw [if_neg Bool.false_ne_true]; exact hQ s' G F'
theorem Tv.or_f {e e' : Expr} {rest : List Expr} {pos : Pos} {b : Bool} (h : Tv X k f e false) (hr : Tv X k f (.BoolOp .Or (e' :: rest) pos) b) : Tv X k f (.BoolOp .Or (e :: e' :: rest) pos) b := by
  intro A s Q R F hQ
  exact isTrue_or (h A s _ R F fun s' G F' => by rw [if_neg Bool.false_ne_true]; exact hr A s' _ R F' fun s'' G' F'' => hQ s'' (G.trans G') F'')
theorem Tv.or_t {e : Expr} {rest : List Expr} {pos : Pos} (h : Tv X k f e true) : Tv X k f (.BoolOp .Or (e :: rest) pos) true := by
  intro A s Q R F hQ
  exact isTrue_or (h A s _ R F fun s' G F' => by rw [if_pos rfl]; exact hQ s' G F')
theorem Tv.or_1 {e : Expr} {pos : Pos} {b : Bool} (h : Tv X k f e b) : Tv X k f (.BoolOp .Or [e] pos) b := by
  intro A s Q R F hQ
  refine isTrue_or (h A s _ R F fun s' G F' => ?_)
  cases b with
  | false => rw [if_neg Bool.false_ne_true]; exact isTrue_or_nil (hQ s' G F')
  | true => rw [if_pos rfl]; exact hQ s' G F'
theorem Tv.or {e e' : Expr} {rest : List Expr} {pos : Pos} {b c : Bool} (h : Tv X k f e b) (hr : b = false → Tv X k f (.BoolOp .Or (e' :: rest) pos) c) : Tv X k f (.BoolOp .Or (e :: e' :: rest) pos) (b || c) := by
  cases b with
  | false => exact Tv.or_f h (hr rfl)
  | true => exact Tv.or_t h

theorem Ev.ife {t a b : Expr} {pos : Pos} {c : Bool} {p : PV} (ht : Tv X k f t c) (ha : c = true → Ev X k f a p) (hb : c = false → Ev X k f b p) : Ev X k f (.IfExp t a b pos) p := by
  intro A s Q R F hQ
  refine IfExp_ (ht A s _ R F fun s₁ G₁ F₁ => ?_)
  cases c with
  | true => rw [if_pos rfl]; exact ha rfl A s₁ _ R F₁ fun v s₂ G₂ F₂ h₂ => hQ v s₂ (G₁.trans G₂) F₂ h₂
  | false => rw [if_neg Bool.false_ne_true]; exact hb rfl A s₁ _ R F₁ fun v s₂ G₂ F₂ h₂ => hQ v s₂ (G₁.trans G₂) F₂ h₂
theorem Ev.ife' {t a b : Expr} {pos : Pos} {c : Bool} {p q : PV} (ht : Tv X k f t c) (ha : c = true → Ev X k f a p) (hb : c = false → Ev X k f b q) : Ev X k f (.IfExp t a b pos) (if c then p else q) := by
  cases c with
  | true => exact Ev.ife ht ha (fun e => by cases e)
  | false => exact Ev.ife ht (fun e => by cases e) hb
/-- a BoolOp as a value: both sides bools -/
theorem Ev.and_b {e e' : Expr} {rest : List Expr} {pos : Pos} {b : Bool} {q : PV} (h : Ev X k f e (.bool b)) (hr : b = true → Ev X k f (.BoolOp .And (e' :: rest) pos) q) : Ev X k f (.BoolOp .And (e :: e' :: rest) pos) (if b then q else .bool false) := by
  intro A s Q R F hQ
  refine BoolOp_and (h A s _ R F fun v s₁ G₁ F₁ h₁ => ?_)
  cases h₁
  refine wpAny_truthy_bool ?_
  cases b with
  | true => rw [if_pos rfl]; exact hr rfl A s₁ _ R F₁ fun v s₂ G₂ F₂ h₂ => hQ v s₂ (G₁.trans G₂) F₂ h₂
  | false => rw [if_neg Bool.false_ne_true]; exact hQ _ s₁ G₁ F₁ rfl
theorem Ev.bool_1 {op : BoolOp} {e : Expr} {pos : Pos} {p : PV} (h : Ev X k f e p) : Ev X k f (.BoolOp op [e] pos) p := fun A s Q R F hQ => BoolOp_one (h A s Q R F hQ)

/-- the ints' operations -/
theorem op_of {p q r : PV} {t : Value → Value → Sem Value} (h : ∀ A s mu v w (Q : Value → Shared → Prop), Room X A k → Sane X mu s → Rd s.heap mu p v → Rd s.heap mu q w → (∀ u tk, Rd s.heap mu r u → Q u { s with toks := tk }) → wpAny (Mo X) A (t v w) Q (fun _ _ => False) s) :
    Op2 X k p q t r := fun A s mu v w Q R S hv hw hQ => h A s mu v w Q R S hv hw fun u tk hr => hQ u _ (.toks S.live) hr
theorem add_ii {a b : Int} : Op2 X k (.int a) (.int b) (binaryOp .Add) (.int (a + b)) := op_of fun A s mu v w Q _ _ hv hw hQ => by
  obtain ⟨t, rfl⟩ := hv; obtain ⟨u, rfl⟩ := hw; exact add_int (hQ _ _ ⟨_, rfl⟩)
theorem sub_ii {a b : Int} : Op2 X k (.int a) (.int b) (binaryOp .Sub) (.int (a - b)) := op_of fun A s mu v w Q _ _ hv hw hQ => by
  obtain ⟨t, rfl⟩ := hv; obtain ⟨u, rfl⟩ := hw; exact sub_int (hQ _ _ ⟨_, rfl⟩)
theorem mod_ii {a b : Int} (hb : b ≠ 0) : Op2 X k (.int a) (.int b) (binaryOp .Mod) (.int (a.fmod b)) := op_of fun A s mu v w Q _ _ hv hw hQ => by
  obtain ⟨t, rfl⟩ := hv; obtain ⟨u, rfl⟩ := hw; exact mod_int hb (hQ _ _ ⟨_, rfl⟩)
theorem div_ii {a b : Int} (hb : b ≠ 0) (hp : Builtin.divisionGoesByPylong a b = false) : Op2 X k (.int a) (.int b) (binaryOp .FloorDiv) (.int (a.fdiv b)) := op_of fun A s mu v w Q _ _ hv hw hQ => by
  obtain ⟨t, rfl⟩ := hv; obtain ⟨u, rfl⟩ := hw; exact floordiv_int hb (hQ _ _ ⟨_, rfl⟩) (.inl hp)
theorem pow_ii {a b : Int} (hn : 0 ≤ b) (hs : (Builtin.Int.intBits a : Int) * b ≤ 2 ^ 27) : Op2 X k (.int a) (.int b) (binaryOp .Pow) (.int (a ^ b.toNat)) := op_of fun A s mu v w Q _ _ hv hw hQ => by
  obtain ⟨t, rfl⟩ := hv; obtain ⟨u, rfl⟩ := hw; exact pow_int hn hs (hQ _ _ ⟨_, rfl⟩)
theorem iadd_ii {a b : Int} : Op2 X k (.int a) (.int b) (inplaceOp .Add) (.int (a + b)) := op_of fun A s mu v w Q _ _ hv hw hQ => by
  obtain ⟨t, rfl⟩ := hv; obtain ⟨u, rfl⟩ := hw; exact iadd_int (hQ _ _ ⟨_, rfl⟩)
theorem eq_ii {a b : Int} : Op2 X k (.int a) (.int b) (compareOp .Eq) (.bool (a == b)) := op_of fun A s mu v w Q _ _ hv hw hQ => by
  obtain ⟨t, rfl⟩ := hv; obtain ⟨u, rfl⟩ := hw; exact eq_int (hQ _ s.toks rfl)
theorem ne_ii {a b : Int} : Op2 X k (.int a) (.int b) (compareOp .NotEq) (.bool (a != b)) := op_of fun A s mu v w Q _ _ hv hw hQ => by
  obtain ⟨t, rfl⟩ := hv; obtain ⟨u, rfl⟩ := hw; exact ne_int (hQ _ s.toks rfl)
theorem lt_ii {a b : Int} : Op2 X k (.int a) (.int b) (compareOp .Lt) (.bool (decide (a < b))) := op_of fun A s mu v w Q _ _ hv hw hQ => by
  obtain ⟨t, rfl⟩ := hv; obtain ⟨u, rfl⟩ := hw; exact lt_int (hQ _ s.toks rfl)
theorem ge_ii {a b : Int} : Op2 X k (.int a) (.int b) (compareOp .GtE) (.bool (decide (b ≤ a))) := op_of fun A s mu v w Q _ _ hv hw hQ => by
  obtain ⟨t, rfl⟩ := hv; obtain ⟨u, rfl⟩ := hw; exact ge_int (hQ _ s.toks rfl)
theorem eq_bb {a b : Bool} : Op2 X k (.bool a) (.bool b) (compareOp .Eq) (.bool (a == b)) := op_of fun A s mu v w Q _ _ hv hw hQ => by
  cases hv; cases hw; exact eq_bool (hQ _ s.toks rfl)
theorem neg_i {a : Int} : Op1 X k (.int a) (unaryOp .USub) (.int (-a)) := fun A s mu v Q _ S hv hQ => by
  obtain ⟨t, rfl⟩ := hv; exact neg_int (hQ _ _ (.toks S.live) ⟨_, rfl⟩)
/-- texts -/
theorem eq_ss {a b : Str} : Op2 X k (.str a) (.str b) (compareOp .Eq) (.bool (a == b)) := op_of fun A s mu v w Q _ _ hv hw hQ => by
  obtain ⟨t, rfl⟩ := hv; obtain ⟨u, rfl⟩ := hw; exact eq_str (hQ _ s.toks rfl)
theorem ne_ss {a b : Str} : Op2 X k (.str a) (.str b) (compareOp .NotEq) (.bool (a != b)) := op_of fun A s mu v w Q _ _ hv hw hQ => by
  obtain ⟨t, rfl⟩ := hv; obtain ⟨u, rfl⟩ := hw; exact ne_str (hQ _ s.toks rfl)
theorem lt_ss {a b : Str} : Op2 X k (.str a) (.str b) (compareOp .Lt) (.bool (decide (a.cps.toList < b.cps.toList))) := op_of fun A s mu v w Q _ _ hv hw hQ => by
  obtain ⟨t, rfl⟩ := hv; obtain ⟨u, rfl⟩ := hw; exact lt_str (hQ _ s.toks rfl)
theorem gt_ss {a b : Str} : Op2 X k (.str a) (.str b) (compareOp .Gt) (.bool (decide (b.cps.toList < a.cps.toList))) := op_of fun A s mu v w Q _ _ hv hw hQ => by
  obtain ⟨t, rfl⟩ := hv; obtain ⟨u, rfl⟩ := hw; exact P.gt_str (hQ _ s.toks rfl)
theorem in_ss {a b : Str} : Op2 X k (.str a) (.str b) (compareOp .In) (.bool !(Builtin.Str.occurrences b a 0 b.length 1).isEmpty) := op_of fun A s mu v w Q _ _ hv hw hQ => by
  obtain ⟨t, rfl⟩ := hv; obtain ⟨u, rfl⟩ := hw; exact in_str (hQ _ s.toks rfl)
theorem add_ss {a b : Str} (hz : a.length + b.length ≤ sizeLine) : Op2 X k (.str a) (.str b) (binaryOp .Add) (.str (a ++ b)) := op_of fun A s mu v w Q _ _ hv hw hQ => by
  obtain ⟨t, rfl⟩ := hv; obtain ⟨u, rfl⟩ := hw; exact add_str (fun _ _ => hQ _ _ ⟨_, rfl⟩) hz
theorem tr_b {b : Bool} : Truthy X k (.bool b) b := fun A s mu v Q _ S hv hQ => by cases hv; exact wpAny_truthy_bool (hQ s (.refl S.live))
end
section
variable {X : Wd} {k : Nat} {f : FS}

theorem Room.in1 {A : Around} (R : Room X A (k + 1)) : Room X A.in1 k := ⟨R.1, (show A.depth + k < _ from Nat.lt_of_le_of_lt (by omega) R.2.1), (show A.units + 1 + 16 * k < _ from Nat.lt_of_le_of_lt (by omega) R.2.2.1), R.frames⟩
theorem Room.deeper {A : Around} {env : Env} (R : Room X A (k + 1)) : Room (X.push env) (A.deeper env) k :=
  ⟨R.1, (show A.depth + 1 + k < _ from Nat.lt_of_le_of_lt (by omega) R.2.1), (show A.units + 3 + 16 * k < _ from Nat.lt_of_le_of_lt (by omega) R.2.2.1), by show A.frames.map _ = _; rw [R.frames]; rfl⟩
theorem Room.le {A : Around} {j : Nat} (R : Room X A k) (h : j ≤ k) : Room X A j := ⟨R.1, Nat.lt_of_le_of_lt (by omega) R.2.1, Nat.lt_of_le_of_lt (by omega) R.2.2.1, R.frames⟩

-- mutable references among the values, told by what they hold
mutual
inductive Res (led : List (Addr × MO)) : PV → PV → Prop
  | same {p} : Res led p p
  | led {a : Addr} {xs ys : List PV} : (a, MO.lst xs) ∈ led → ResL led xs ys → Res led (.raw (.ref a)) (.lst ys)
  | tup {xs ys : List PV} : ResL led xs ys → Res led (.tup xs) (.tup ys)
inductive ResL (led : List (Addr × MO)) : List PV → List PV → Prop
  | nil : ResL led [] []
  | cons {p q : PV} {xs ys : List PV} : Res led p q → ResL led xs ys → ResL led (p :: xs) (q :: ys)
end

theorem Rd.weak {h : Heap} {mu mu' : Addr → Prop} {p : PV} {v : Value} (x : Rd h mu p v) (hm : ∀ b, mu' b → mu b ∨ h.get? b = none) : Rd h mu' p v :=
  x.mono fun b o hb e => ⟨e, fun h' => (hm b h').elim hb fun h2 => by rw [h2] at e; cases e⟩
theorem RdL.weak {h : Heap} {mu mu' : Addr → Prop} {p : List PV} {v : List Value} (x : RdL h mu p v) (hm : ∀ b, mu' b → mu b ∨ h.get? b = none) : RdL h mu' p v :=
  x.mono fun b o hb e => ⟨e, fun h' => (hm b h').elim hb fun h2 => by rw [h2] at e; cases e⟩

theorem Res.rd {s : Shared} {mu : Addr → Prop} (F : f.Ok X s) (hmu : ∀ b, mu b → f.mu b) {p q : PV} (h : Res f.led p q) : ∀ {v : Value}, Rd s.heap f.mu' p v → Rd s.heap mu q v := by
  refine Res.rec (led := f.led) (motive_1 := fun p q _ => ∀ {v : Value}, Rd s.heap f.mu' p v → Rd s.heap mu q v) (motive_2 := fun ps qs _ => ∀ {vs : List Value}, RdL s.heap f.mu' ps vs → RdL s.heap mu qs vs) ?_ ?_ ?_ ?_ ?_ h
  · exact fun x => x.weak fun b hb => .inl (.inl (hmu b hb))
  · intro a xs ys hm _ ih v x
    cases x
    obtain ⟨o, vs, n, h1, h2, h3, h4⟩ := F.led a _ hm
    refine ⟨a, o, vs, n, rfl, fun hb => ?_, h1, h2.1, h3, ih h4⟩
    exact absurd (F.muLt a (hmu a hb)) (Nat.not_lt.mpr (F.fresh a (List.mem_append_right _ (List.mem_map_of_mem (f := (·.1)) hm))).1)
  · intro xs ys _ ih v x
    obtain ⟨a, o, vs, n, e, hm, h1, h2, h3, h4⟩ := x
    exact ⟨a, o, vs, n, e, fun hb => hm (.inl (hmu a hb)), h1, h2, h3, ih h4⟩
  · exact fun x => x
  · intro p q xs ys _ _ ih1 ih2 vs x
    obtain ⟨v, r, e, hv, hl⟩ := x
    exact ⟨v, r, e, ih1 hv, ih2 hl⟩

theorem lookup_of_mem {α : Type} {l : List (Str × α)} (hnd : (l.map (·.1)).Nodup) {n : Str} {c : α} (hm : (n, c) ∈ l) : l.lookup n = some c := by
  induction l with
  | nil => cases hm
  | cons q r ih =>
    have h := List.nodup_cons.mp hnd
    rw [List.lookup_cons]
    rcases List.mem_cons.mp hm with e | hm
    · rw [← e, beq_self_eq_true]
    · have hne : n ≠ q.1 := fun e => h.1 (by show q.1 ∈ _; rw [← e]; exact List.mem_map_of_mem (f := (·.1)) hm)
      rw [beq_eq_false_iff_ne.mpr hne]
      exact ih h.2 hm
theorem lookup_gone {α : Type} {x : Str} {r : List (Str × α)} (h : x ∉ r.map (·.1)) : r.lookup x = none := by
  cases q : r.lookup x with
  | none => rfl
  | some w => exact absurd (List.mem_map_of_mem (f := (·.1)) (mem_of_lookup q)) h
theorem lookup_bindL (kindOf : Str → Option NameKind) {x : Str} (hk : kindOf x = some .local) (binds : List (Str × Value)) (m : Str → Option Value) (hnd : (binds.map (·.1)).Nodup) :
    bindL kindOf binds m x = ((binds.lookup x).or (m x)) := by
  induction binds generalizing m with
  | nil => rfl
  | cons q r ih =>
    have hr := List.nodup_cons.mp hnd
    rw [bindL, ih _ hr.2, List.lookup_cons]
    by_cases hx : x = q.1
    · rw [← hx, beq_self_eq_true, if_pos hk, lookup_gone (hx ▸ hr.1)]
      simp
    · rw [beq_eq_false_iff_ne.mpr hx]
      congr 1
      split <;> simp [hx]
theorem lookup_bindC (kindOf : Str → Option NameKind) {x : Str} (hk : kindOf x ≠ some .local) (binds : List (Str × Value)) (m : Str → Option Value) (hnd : (binds.map (·.1)).Nodup) :
    bindC kindOf binds m x = ((binds.lookup x).or (m x)) := by
  induction binds generalizing m with
  | nil => rfl
  | cons q r ih =>
    have hr := List.nodup_cons.mp hnd
    rw [bindC, ih _ hr.2, List.lookup_cons]
    by_cases hx : x = q.1
    · rw [← hx, beq_self_eq_true, if_neg hk, lookup_gone (hx ▸ hr.1)]
      simp
    · rw [beq_eq_false_iff_ne.mpr hx]
      congr 1
      split <;> simp [hx]

theorem RdL.zip {h mu} {ns : List Str} {ps : List PV} {vs : List Value} (hr : RdL h mu ps vs) {x : Str} {p : PV} (e : (ns.zip ps).lookup x = some p) : ∃ v, (ns.zip vs).lookup x = some v ∧ Rd h mu p v := by
  induction ns generalizing ps vs with
  | nil => rw [List.zip_nil_left] at e; cases e
  | cons n ns ih =>
    cases ps with
    | nil => rw [List.zip_nil_right] at e; cases e
    | cons q ps =>
      obtain ⟨v, r, e', hv, hr⟩ := hr
      subst e'
      rw [List.zip_cons_cons, List.lookup_cons] at e ⊢
      cases hb : x == n with
      | true => rw [hb] at e; cases e; exact ⟨v, rfl, hv⟩
      | false => rw [hb] at e; exact ih hr e

theorem mem_of_lookup' {α : Type} {l : List (Str × α)} {n : Str} {c : α} (h : l.lookup n = some c) : (n, c) ∈ l := mem_of_lookup h
theorem cells_look : ∀ (names : List (Str × NameKind)) (n : Nat) (acc : List (Str × Addr)) (x : Str), ((x, NameKind.cell) ∈ names ∨ (acc.lookup x).isSome = true) → ((cellsFrom n names acc).lookup x).isSome = true
  | [], _, _, _, h => by
    rcases h with h | h
    · simp at h
    · exact h
  | (y, kd) :: r, n, acc, x, h => by
    unfold cellsFrom
    split
    · rename_i hk
      refine cells_look r _ _ x ?_
      rcases h with h | h
      · rcases List.mem_cons.mp h with e | h
        · cases e; right; rw [List.lookup_cons, beq_self_eq_true]; rfl
        · exact .inl h
      · right
        rw [List.lookup_cons]
        cases x == y <;> simp [h]
    · rename_i hk
      refine cells_look r _ _ x ?_
      rcases h with h | h
      · rcases List.mem_cons.mp h with e | h
        · cases e; simp at hk
        · exact .inl h
      · exact .inr h
theorem cells_keys : ∀ (names : List (Str × NameKind)) (n : Nat) (acc : List (Str × Addr)), (names.map (·.1)).Nodup → (acc.map (·.1)).Nodup → (∀ x ∈ names.map (·.1), x ∉ acc.map (·.1)) → ((cellsFrom n names acc).map (·.1)).Nodup
  | [], _, _, _, h, _ => h
  | (y, kd) :: r, n, acc, h1, h2, h3 => by
    have h1' := List.nodup_cons.mp h1
    unfold cellsFrom
    split
    · refine cells_keys r _ _ h1'.2 (List.nodup_cons.mpr ⟨h3 y (.head _), h2⟩) fun x hx hm => ?_
      rcases List.mem_cons.mp hm with rfl | hm
      · exact h1'.1 hx
      · exact h3 x (.tail _ hx) hm
    · exact cells_keys r _ _ h1'.2 h2 fun x hx => h3 x (.tail _ hx)

theorem cells_apart : ∀ (names : List (Str × NameKind)) (n : Nat) (acc : List (Str × Addr)), acc.Pairwise (fun a b => a.2 ≠ b.2) → (∀ e ∈ acc, e.2 < n) → (cellsFrom n names acc).Pairwise fun a b => a.2 ≠ b.2
  | [], _, _, h, _ => h
  | (y, kd) :: r, n, acc, h1, h2 => by
    unfold cellsFrom
    split
    · exact cells_apart r _ _ (List.pairwise_cons.mpr ⟨fun e he q => Nat.lt_irrefl _ (Nat.lt_of_le_of_lt (Nat.le_of_eq q) (h2 e he)), h1⟩) fun e he => by
        rcases List.mem_cons.mp he with rfl | he
        · exact Nat.lt_succ_self _
        · exact Nat.lt_succ_of_lt (h2 e he)
    · exact cells_apart r _ _ h1 h2
noncomputable def dEnv (sc : Scope) (q : Str) (cd : Value) (L fa : Addr) : Env := newEnv sc L mainGlobals (cellsFrom (L + 1) sc.names []) (q ++ ".<locals>.") (some fa) cd none builtinsNs
noncomputable def allV : Nat → (List Value → Prop) → Prop
  | 0, P => P []
  | n + 1, P => ∀ a, allV n fun l => P (a :: l)
theorem lenN {ns : List Str} {P : List Value → Prop} : ∀ {n : Nat}, ns.length = n → allV n P → ∀ vs : List Value, vs.length = ns.length → P vs := by
  have key : ∀ (n : Nat) (P : List Value → Prop), allV n P → ∀ vs : List Value, vs.length = n → P vs := fun n => by
    induction n with
    | zero => intro P h vs e; rw [List.length_eq_zero_iff.mp e]; exact h
    | succ n ih =>
      intro P h vs e
      cases vs with
      | nil => cases e
      | cons a vs => exact ih (fun l => P (a :: l)) (h a) vs (Nat.succ.inj e)
  exact @fun n hn h vs e => key n P h vs (e.trans hn)
theorem len1 {ns : List Str} {P : List Value → Prop} (hn : ns.length = 1) (h : ∀ a, P [a]) : ∀ vs : List Value, vs.length = ns.length → P vs := lenN hn h
theorem len2 {ns : List Str} {P : List Value → Prop} (hn : ns.length = 2) (h : ∀ a b, P [a, b]) : ∀ vs : List Value, vs.length = ns.length → P vs := lenN hn h
theorem len3 {ns : List Str} {P : List Value → Prop} (hn : ns.length = 3) (h : ∀ a b c, P [a, b, c]) : ∀ vs : List Value, vs.length = ns.length → P vs := lenN hn h
theorem len4 {ns : List Str} {P : List Value → Prop} (hn : ns.length = 4) (h : ∀ a b c d, P [a, b, c, d]) : ∀ vs : List Value, vs.length = ns.length → P vs := lenN hn h
theorem len5 {ns : List Str} {P : List Value → Prop} (hn : ns.length = 5) (h : ∀ a b c d e, P [a, b, c, d, e]) : ∀ vs : List Value, vs.length = ns.length → P vs := lenN hn h
/-- entering a def of the text -/
theorem fenter (C : Cx X) {fa : Addr} {name qual : Str} {params : Arguments} {scope : Scope} {dV kV doc pm cdv ct : Value} {an : Option Addr} {oc : Value} {od : Option Addr} {osl : Array (Option Value)} {body : List Stmt} {ns : List Str} {ps : List PV}
    (hl : ∀ P, (KF P).lookup fa = some ⟨oc, od, .func (fnOf name qual params body scope dV kV doc pm an cdv ct), osl⟩) (hc : ∀ P, codeIn (KF P) cdv qual = true)
    (hbind : ∀ vs : List Value, vs.length = ns.length → bindArgs (fnOf name qual params body scope dV kV doc pm an cdv ct) ⟨vs, []⟩ = pure (ns.zip vs)) (hlen : ps.length = ns.length) (hnd : ns.Nodup)
    (hkd : (ns.all fun x => scope.names.lookup x == some .local || scope.names.lookup x == some .cell) = true)
    (hcm : (scope.names.map (·.1)).Nodup) {A : Around} {s : Shared} {mu : Addr → Prop} {vs : List Value} {Q : Value → Shared → Prop} (R : Room X A (k + 1)) (S : Sane X mu s) (hvs : RdL s.heap mu ps vs)
    (h : ∀ s₁, FS.Ok (X.push (dEnv scope qual cdv s.heap.objs.size fa)) ⟨s, mu, dEnv scope qual cdv s.heap.objs.size fa, ns.zip ps, s.heap.objs.size :: (cellsFrom (s.heap.objs.size + 1) scope.names []).map (·.2), []⟩ s₁ →
      wpAny (Mo X) (A.deeper (dEnv scope qual cdv s.heap.objs.size fa)) (execs body (dEnv scope qual cdv s.heap.objs.size fa)) (fun fl s' => Q (match fl with | .ret v => v | _ => .none) s') (fun _ _ => False) s₁)
    (hco : scope.isCoroutine = false := by rfl) (hgen : scope.isGenerator = false := by rfl) (hk : scope.kind = .function := by rfl) :
    wpAny (Mo X) A (call (.ref fa) vs) Q (fun _ _ => False) s := by
  have hl' := S.live.old _ _ (C.K _ _ (hl X.w.params))
  have hnl := C.nolimit.keeps S.live.old
  have hcr := (codeRec_of C.K (hc X.w.params)).keeps S.live.old
  refine wpAny_call ?_
  have hvl : vs.length = ns.length := hvs.length.trans hlen
  have hcn : ∀ L, ((cellsFrom (L + 1) scope.names []).map (·.1)).Nodup := fun L => cells_keys _ _ _ hcm List.nodup_nil fun _ _ h => by simp at h
  have hkind : ∀ (L : Addr), ∀ x ∈ ns, scope.names.lookup x = some .local ∨ (scope.names.lookup x = some .cell ∧ ((cellsFrom (L + 1) scope.names []).lookup x).isSome = true) := fun L x hx => by
    have := List.all_eq_true.mp hkd x hx
    simp only [Bool.or_eq_true, beq_iff_eq] at this
    rcases this with h | h
    · exact .inl h
    · exact .inr ⟨h, cells_look _ _ _ _ (.inl (mem_of_lookup' h))⟩
  have hE : callEnvC (fnOf name qual params body scope dV kV doc pm an cdv ct) s.heap.objs.size fa = dEnv scope qual cdv s.heap.objs.size fa := rfl
  refine codeAny_call_cells R.depth hl' rfl hnl hcr rfl (hbind vs hvl) rfl (fun x hx => ?_) (fun s₁ Y => ?_) hco hgen hk
  · exact hkind _ x.1 (List.of_mem_zip hx).1
  · rw [hE] at Y
    rw [hE]
    have hmn : ((ns.zip vs).map (·.1)) = ns := by rw [List.map_fst_zip (by omega)]
    obtain ⟨h₁, tk, rfl, hkeep⟩ := Y.done
    have hsz : s.heap.objs.size ≤ h₁.objs.size := Nat.le_of_lt Y.toInCall.ns.lt
    have hfr0 : (dEnv scope qual cdv s.heap.objs.size fa).frame = some s.heap.objs.size := rfl
    have hlive : Live (X.push (dEnv scope qual cdv s.heap.objs.size fa)) h₁ := {
      old := fun b o e => hkeep b o (S.live.old b o e)
      t33 := let ⟨ps, e, t, c⟩ := S.live.t33; ⟨ps, hkeep _ _ e, t, fun pos cv q => (c pos cv q).keeps hkeep⟩
      t85 := let ⟨ps, e, t, c⟩ := S.live.t85; ⟨ps, hkeep _ _ e, t, c⟩
      low := Nat.le_trans S.live.low hsz
      frs := fun env he => by
        rcases List.mem_cons.mp he with rfl | he
        · exact ⟨by show scope.kind ≠ _; rw [hk]; decide, s.heap.objs.size, _, hfr0, Heap.get?_none_of_le S.live.low, Y.toInCall.ns⟩
        · obtain ⟨e1, L', m', e2, e3, e4⟩ := S.live.frs env he
          exact ⟨e1, L', m', e2, e3, e4.keeps hkeep⟩ }
    have hG : Grow (X.push (dEnv scope qual cdv s.heap.objs.size fa)) s { s with heap := h₁, toks := tk } := .all hlive hkeep hsz rfl rfl
    have hlt : ∀ b, mu b → s.heap.objs.size ≤ b → False := fun b hb h => Nat.lt_irrefl _ (Nat.lt_of_lt_of_le (S.lt b hb) h)
    have cellsLt : ∀ n c, (n, c) ∈ cellsFrom (s.heap.objs.size + 1) scope.names [] → s.heap.objs.size < c := fun n c hm => Y.above n c hm
    have memLook : ∀ n c, (n, c) ∈ cellsFrom (s.heap.objs.size + 1) scope.names [] → (cellsFrom (s.heap.objs.size + 1) scope.names []).lookup n = some c := fun n c hm => lookup_of_mem (hcn _) hm
    have cellsSz : ∀ n c, (n, c) ∈ cellsFrom (s.heap.objs.size + 1) scope.names [] → c < h₁.objs.size := fun n c hm => (Y.cell n c (memLook n c hm)).lt
    have weakV : ∀ {p v}, Rd s.heap mu p v → Rd h₁ (FS.mu' ⟨s, mu, dEnv scope qual cdv s.heap.objs.size fa, ns.zip ps, s.heap.objs.size :: (cellsFrom (s.heap.objs.size + 1) scope.names []).map (·.2), []⟩) p v := fun x =>
      x.mono fun b o hb e => ⟨hkeep b o e, fun hm => by
        rcases hm with hm | hm | hm
        · exact hb hm
        · rcases List.mem_cons.mp hm with rfl | hm
          · exact Nat.lt_irrefl _ (Heap.lt_size e)
          · obtain ⟨⟨n, c⟩, hm', e'⟩ := List.mem_map.mp hm
            have h1 := cellsLt n c hm'
            have h2 := Heap.lt_size e
            have e'' : c = b := e'
            subst e''
            exact Nat.lt_irrefl _ (Nat.lt_trans h1 h2)
        · simp at hm⟩
    have hnodup : (s.heap.objs.size :: (cellsFrom (s.heap.objs.size + 1) scope.names []).map (·.2)).Nodup := by
      refine List.nodup_cons.mpr ⟨fun hm => ?_, List.pairwise_map.mpr Y.apart⟩
      obtain ⟨⟨n, c⟩, hm, e⟩ := List.mem_map.mp hm
      have h1 := cellsLt n c hm
      have e' : c = s.heap.objs.size := e
      rw [e'] at h1
      exact Nat.lt_irrefl _ h1
    have hok : FS.Ok (X.push (dEnv scope qual cdv s.heap.objs.size fa)) ⟨s, mu, dEnv scope qual cdv s.heap.objs.size fa, ns.zip ps, s.heap.objs.size :: (cellsFrom (s.heap.objs.size + 1) scope.names []).map (·.2), []⟩ { s with heap := h₁, toks := tk } := {
      grow := hG
      muLt := S.lt
      mu33 := S.mtab _ (.inl rfl)
      mu85 := S.mtab _ (.inr (.inl rfl))
      mfr := fun b hb => by
        rw [Wd.push_frs hfr0] at hb
        rcases List.mem_cons.mp hb with rfl | hb
        · exact .inr (.head _)
        · exact .inl (S.mtab _ (.inr (.inr hb)))
      apart := by simpa using hnodup
      fresh := fun b hb => by
        rw [List.map_nil, List.append_nil] at hb
        rcases List.mem_cons.mp hb with rfl | hb
        · exact ⟨Nat.le_refl _, Y.toInCall.ns.lt⟩
        · obtain ⟨⟨n, c⟩, hm, e'⟩ := List.mem_map.mp hb
          have h1 := cellsLt n c hm
          have h2 := cellsSz n c hm
          have e'' : c = b := e'
          subst e''
          exact ⟨Nat.le_of_lt h1, h2⟩
      locs := List.mem_cons_self
      kind := hk
      glob := rfl
      blt := rfl
      hlow := S.live.low
      ns := ⟨_, Y.toInCall.ns, fun x p hx hk => by
        obtain ⟨v, hv, hr⟩ := hvs.zip hx
        refine ⟨v, ?_, weakV hr⟩
        rw [lookup_bindL _ hk _ _ (by rw [hmn]; exact hnd), hv]; rfl⟩
      cell := fun x p hx hk => by
        obtain ⟨v, hv, hr⟩ := hvs.zip hx
        have hxn : x ∈ ns := (List.of_mem_zip (mem_of_lookup hv)).1
        rcases hkind s.heap.objs.size x hxn with hl | ⟨_, hc⟩
        · exact absurd hl hk
        · obtain ⟨c, hc⟩ := Option.isSome_iff_exists.mp hc
          refine ⟨c, v, hc, ?_, weakV hr⟩
          have := Y.cell x c hc
          rw [lookup_bindC _ hk _ _ (by rw [hmn]; exact hnd), hv] at this
          exact this
      led := fun a mo hm => by simp at hm
      solid := fun b hb => by
        rw [List.map_nil, List.append_nil] at hb
        rcases List.mem_cons.mp hb with rfl | hb
        · exact .ns Y.toInCall.ns
        · obtain ⟨⟨n, c⟩, hm, e'⟩ := List.mem_map.mp hb
          have e'' : c = b := e'
          subst e''
          exact .cell (Y.cell n c (memLook n c hm))
      cellv := fun n c hc => ⟨_, Y.cell n c hc⟩ }
    exact wpAny_mono (h _ hok) (fun _ _ x => x) (fun _ _ x => x.elim)
theorem Grow.pop {s s' : Shared} {env : Env} {L : Addr} (g : Grow (X.push env) s s') (hfr : env.frame = some L) (hge : s.heap.objs.size ≤ L) : Grow X s s' :=
  ⟨⟨g.live.old, g.live.t33, g.live.t85, g.live.low, fun env he => g.live.frs env (.tail _ he)⟩, fun b o ht e => g.keep b o (fun q => by
    rcases q with q | q | q
    · exact ht (.inl q)
    · exact ht (.inr (.inl q))
    · rw [Wd.push_frs hfr] at q
      rcases List.mem_cons.mp q with rfl | q
      · exact Nat.lt_irrefl _ (Nat.lt_of_lt_of_le (Heap.lt_size e) hge)
      · exact ht (.inr (.inr q))) e, g.size, g.os, fun b m hb hn => g.frm b m (by rw [Wd.push_frs hfr]; exact .tail _ hb) hn, g.gens⟩
/-- entering a def of the text -/
theorem fspecP (C : Cx X) {fa : Addr} {name qual : Str} {params : Arguments} {scope : Scope} {dV kV doc pm cdv ct : Value} {an : Option Addr} {oc : Value} {od : Option Addr} {osl : Array (Option Value)} {body : List Stmt} {ns : List Str} {ps : List PV} {r : PV}
    (hl : ∀ P, (KF P).lookup fa = some ⟨oc, od, .func (fnOf name qual params body scope dV kV doc pm an cdv ct), osl⟩) (hc : ∀ P, codeIn (KF P) cdv qual = true)
    (hbind : ∀ vs : List Value, vs.length = ns.length → bindArgs (fnOf name qual params body scope dV kV doc pm an cdv ct) ⟨vs, []⟩ = pure (ns.zip vs)) (hlen : ps.length = ns.length) (hnd : ns.Nodup)
    (hkd : (ns.all fun x => scope.names.lookup x == some .local || scope.names.lookup x == some .cell) = true)
    (h : ∀ (hs : Shared) (mu : Addr → Prop) (L : Addr) (own : List Addr), Sane X mu hs → (∀ c ∈ (cellsFrom (L + 1) scope.names []).map (·.2), c ∈ own) → Cx (X.push (dEnv scope qual cdv L fa)) → WS (X.push (dEnv scope qual cdv L fa)) k ⟨hs, mu, dEnv scope qual cdv L fa, ns.zip ps, own, []⟩ body
      (fun fl _ led => ∃ p, fl = .ret p ∧ Res led p r))
    (hcm : (scope.names.map (·.1)).Nodup) (hco : scope.isCoroutine = false := by rfl) (hgen : scope.isGenerator = false := by rfl) (hk : scope.kind = .function := by rfl) :
    OpN X (k + 1) ps (fun vs => call (.ref fa) vs) r := by
  intro A s mu vs Q R S hvs hQ
  refine fenter C hl hc hbind hlen hnd hkd hcm R S hvs (fun s₁ hok => ?_) hco hgen hk
  refine wpAny_mono (h s mu s.heap.objs.size (s.heap.objs.size :: (cellsFrom (s.heap.objs.size + 1) scope.names []).map (·.2)) S (fun c hc => .tail _ hc) (C.push _) (A.deeper (dEnv scope qual cdv s.heap.objs.size fa)) _ (fun fl s' => Q (match fl with | .ret v => v | _ => .none) s') R.deeper hok ?_) (fun _ _ x => x) (fun _ _ x => x.elim)
  rintro fl vars led g s' ⟨p, rfl, hres⟩ hok' _ ⟨v, rfl, hr⟩
  exact hQ v s' (hok'.grow.pop rfl (Nat.le_refl _)) (hres.rd hok' (fun b hb => hb) hr)
theorem fspec (C : Cx X) {fa : Addr} {name qual : Str} {params : Arguments} {scope : Scope} {dV kV doc pm cdv ct : Value} {an : Option Addr} {oc : Value} {od : Option Addr} {osl : Array (Option Value)} {body : List Stmt} {ns : List Str} {ps : List PV} {r : PV}
    (hl : ∀ P, (KF P).lookup fa = some ⟨oc, od, .func (fnOf name qual params body scope dV kV doc pm an cdv ct), osl⟩) (hc : ∀ P, codeIn (KF P) cdv qual = true)
    (hbind : ∀ vs : List Value, vs.length = ns.length → bindArgs (fnOf name qual params body scope dV kV doc pm an cdv ct) ⟨vs, []⟩ = pure (ns.zip vs)) (hlen : ps.length = ns.length) (hnd : ns.Nodup)
    (hkd : (ns.all fun x => scope.names.lookup x == some .local || scope.names.lookup x == some .cell) = true)
    (h : ∀ (hs : Shared) (mu : Addr → Prop) (L : Addr) (own : List Addr), Sane X mu hs → (∀ c ∈ (cellsFrom (L + 1) scope.names []).map (·.2), c ∈ own) → ∀ X' : Wd, Cx X' → WS X' k ⟨hs, mu, dEnv scope qual cdv L fa, ns.zip ps, own, []⟩ body
      (fun fl _ led => ∃ p, fl = .ret p ∧ Res led p r))
    (hcm : (scope.names.map (·.1)).Nodup) (hco : scope.isCoroutine = false := by rfl) (hgen : scope.isGenerator = false := by rfl) (hk : scope.kind = .function := by rfl) :
    OpN X (k + 1) ps (fun vs => call (.ref fa) vs) r :=
  fspecP C hl hc hbind hlen hnd hkd (fun hs mu L own S hc' C' => h hs mu L own S hc' _ C') hcm hco hgen hk
end
section
variable {X : Wd} {k : Nat} {f : FS}

/-- a list: frozen, or one of the frame's own -/
noncomputable def Lst (f : FS) (p : PV) (xs : List PV) : Prop := p = .lst xs ∨ ∃ a, p = .raw (.ref a) ∧ (a, MO.lst xs) ∈ f.led
theorem Lst.fz {xs} : Lst f (.lst xs) xs := .inl rfl
theorem Lst.own {a xs} (h : (a, MO.lst xs) ∈ f.led) : Lst f (.raw (.ref a)) xs := .inr ⟨a, rfl, h⟩
theorem Lst.is {p xs v s} (L : Lst f p xs) (F : f.Ok X s) (hv : Rd s.heap f.mu' p v) : ∃ a vs, v = .ref a ∧ s.heap.IsList a vs ∧ RdL s.heap f.mu' xs vs.toList := by
  rcases L with rfl | ⟨a, rfl, hm⟩
  · obtain ⟨a, o, vs, n, e, _, h1, h2, h3, h4⟩ := hv
    exact ⟨a, vs, e, ⟨o, h1, h2, n, h3⟩, h4⟩
  · obtain ⟨o, vs, n, h1, h2, h3, h4⟩ := F.led a _ hm
    exact ⟨a, vs, hv, ⟨o, h1, h2.1, n, h3⟩, h4⟩
theorem Rd.tup_is {h mu xs v} (x : Rd h mu (.tup xs) v) : ∃ a vs, v = .ref a ∧ IsTup h a vs ∧ RdL h mu xs vs.toList := by
  obtain ⟨a, o, vs, n, e, _, h1, h2, h3, h4⟩ := x
  exact ⟨a, vs, e, ⟨o, h1, h2, n, h3⟩, h4⟩
theorem RdL.size {h mu xs} {vs : Array Value} (x : RdL h mu xs vs.toList) : vs.size = xs.length := by rw [← x.length]; simp

theorem seqIndex_facts {i : Int} {n j : Nat} (h : seqIndex? i n = some j) : (0 ≤ i ∧ i < n ∧ j = i.toNat) ∨ (i < 0 ∧ -(n : Int) ≤ i ∧ j = (i + n).toNat) := by
  unfold seqIndex? at h
  by_cases hi : i < 0
  · simp only [hi, if_true] at h
    by_cases hc : (decide (0 ≤ i + (n : Int)) && decide (i + (n : Int) < n)) = true
    · rw [if_pos hc] at h
      simp only [Bool.and_eq_true, decide_eq_true_eq] at hc
      exact .inr ⟨hi, by omega, (Option.some.inj h).symm⟩
    · rw [if_neg hc] at h; cases h
  · simp only [hi, if_false] at h
    by_cases hc : (decide (0 ≤ i) && decide (i < (n : Int))) = true
    · rw [if_pos hc] at h
      simp only [Bool.and_eq_true, decide_eq_true_eq] at hc
      exact .inl ⟨hc.1, hc.2, (Option.some.inj h).symm⟩
    · rw [if_neg hc] at h; cases h

/-- an item -/
theorem Ev.sub_l {ve ie : Expr} {pos : Pos} {p r : PV} {xs : List PV} {i : Int} {j : Nat} (hv : Ev X k f ve p) (L : Lst f p xs) (hi : Ev X k f ie (.int i)) (hj : seqIndex? i xs.length = some j) (hr : xs[j]? = some r)
    (h0 : -(2 ^ 63) ≤ i) (h1 : i < 2 ^ 63) (hs : ∀ o q, subscripted ie false o q = operate [o, q] (getItem o q) := by intro _ _; with_unfolding_all rfl) : Ev X k f (.Subscript ve ie pos) r := by
  intro A s Q R F hQ
  refine Subscript_ (hv A s _ R F fun v s₁ G₁ F₁ h₁ => hi A s₁ _ R F₁ fun w s₂ G₂ F₂ h₂ => ?_)
  obtain ⟨a, vs, rfl, hl, hx⟩ := L.is F₂ (F₁.rd h₁ G₂)
  obtain ⟨t, rfl⟩ := h₂
  obtain ⟨u, hu, hru⟩ := hx.get hr
  have hsz := hx.size
  have fin : Q u s₂ := hQ u s₂ (G₁.trans G₂) F₂ hru
  refine tail_any hl.typeIs slot_list_getitem.lookup ?_ (hs _ _)
  rcases seqIndex_facts hj with ⟨hp, _, rfl⟩ | ⟨hneg, hb, rfl⟩
  · exact wpAny_getItem_list hl hp h1 (by simpa using hu) fin
  · exact wpAny_getItem_list_neg hl hneg (by rw [hsz]; exact hb) h0 (by rw [hsz]; simpa using hu) fin
theorem Ev.sub_t {ve ie : Expr} {pos : Pos} {r : PV} {xs : List PV} {i : Int} {j : Nat} (hv : Ev X k f ve (.tup xs)) (hi : Ev X k f ie (.int i)) (hj : seqIndex? i xs.length = some j) (hr : xs[j]? = some r)
    (h0 : -(2 ^ 63) ≤ i) (h1 : i < 2 ^ 63) (hs : ∀ o q, subscripted ie false o q = operate [o, q] (getItem o q) := by intro _ _; with_unfolding_all rfl) : Ev X k f (.Subscript ve ie pos) r := by
  intro A s Q R F hQ
  refine Subscript_ (hv A s _ R F fun v s₁ G₁ F₁ h₁ => hi A s₁ _ R F₁ fun w s₂ G₂ F₂ h₂ => ?_)
  obtain ⟨a, vs, rfl, hl, hx⟩ := (F₁.rd h₁ G₂).tup_is
  obtain ⟨t, rfl⟩ := h₂
  obtain ⟨u, hu, hru⟩ := hx.get hr
  refine tail_any hl.typeIs slot_tuple_getitem.lookup ?_ (hs _ _)
  exact getItem_tuple hl h0 h1 (by rw [hx.size]; exact hj) (by simpa using hu) (hQ u s₂ (G₁.trans G₂) F₂ hru)
theorem Ev.sub_s {ve ie : Expr} {pos : Pos} {x : Str} {i : Int} {c : Nat} (hv : Ev X k f ve (.str x)) (hi : Ev X k f ie (.int i)) (hc : (seqIndex? i x.length).bind (x.cps[·]?) = some c)
    (h0 : -(2 ^ 63) ≤ i) (h1 : i < 2 ^ 63) (hs : ∀ o q, subscripted ie false o q = operate [o, q] (getItem o q) := by intro _ _; with_unfolding_all rfl) : Ev X k f (.Subscript ve ie pos) (.str ⟨#[c]⟩) := by
  intro A s Q R F hQ
  refine Subscript_ (hv A s _ R F fun v s₁ G₁ F₁ h₁ => hi A s₁ _ R F₁ fun w s₂ G₂ F₂ h₂ => ?_)
  obtain ⟨t, rfl⟩ := h₁
  obtain ⟨u, rfl⟩ := h₂
  refine tail_any (typeIs_str _ _ _) PySem.F.slot_str_getitem.lookup ?_ (hs _ _)
  exact getItem_str (by simp only [Bool.or_eq_false_iff, decide_eq_false_iff_not]; omega) hc (hQ _ _ ((G₁.trans G₂).trans (.toks F₂.live)) (F₂.toks _) ⟨_, rfl⟩)

/-- parts of a slice -/
noncomputable def EvP (X : Wd) (k : Nat) (f : FS) (e : Option Expr) (l : Option Int) : Prop :=
  ∀ A s (Q : Value → Shared → Prop), Room X A k → f.Ok X s → (∀ v s', Grow X s s' → f.Ok X s' → IsPart v l → Q v s') → wpAny (Mo X) A (evalPart e f.env) Q (fun _ _ => False) s
theorem EvP.no : EvP X k f none none := fun A s Q _ F hQ => wpAny_pure (hQ _ s (.refl F.live) F .none)
theorem EvP.yes {e : Expr} {i : Int} (h : Ev X k f e (.int i)) : EvP X k f (some e) (some i) := fun A s Q R F hQ =>
  (h A s _ R F fun v s' G F' hv => by obtain ⟨t, rfl⟩ := hv; exact hQ _ s' G F' (.int i t) : wpAny (Mo X) A (eval e f.env) Q _ s)

theorem Live.push {h : Heap} (l : Live X h) (o : Obj) : Live X (h.push o) where
  old := fun b x e => Heap.get?_push_of_some _ (l.old b x e)
  t33 := let ⟨ps, e, t, c⟩ := l.t33; ⟨ps, Heap.get?_push_of_some _ e, t, fun pos cv q => (c pos cv q).push o⟩
  t85 := let ⟨ps, e, t, c⟩ := l.t85; ⟨ps, Heap.get?_push_of_some _ e, t, c⟩
  frs := fun env he => let ⟨a, L, m, b, c, d⟩ := l.frs env he; ⟨a, L, m, b, c, d.keeps fun _ _ e => Heap.get?_push_of_some _ e⟩
  low := by rw [Heap.size_push]; exact Nat.le_succ_of_le l.low
theorem Grow.push {s : Shared} {o : Obj} {t : Nat} (l : Live X s.heap) : Grow X s { s with heap := s.heap.push o, toks := t } :=
  .all (l.push o) (fun _ _ e => Heap.get?_push_of_some _ e) (by show _ ≤ (s.heap.push o).objs.size; rw [Heap.size_push]; omega) rfl rfl

/-- what Python's picks of a list are -/
noncomputable def pickL {α : Type} (xs : List α) (l u : Option Int) : List α := (sliceRange (sliceBounds l u none xs.length).1 (sliceBounds l u none xs.length).2.1 (sliceBounds l u none xs.length).2.2).filterMap (xs[·]?)
theorem RdL.pick {h mu} {xs : List PV} {vs : List Value} (x : RdL h mu xs vs) (is : List Nat) : RdL h mu (is.filterMap (xs[·]?)) (is.filterMap (vs[·]?)) := by
  induction is with
  | nil => rfl
  | cons i r ih =>
    rw [List.filterMap_cons, List.filterMap_cons]
    cases hp : xs[i]? with
    | some p =>
      obtain ⟨v, hv, hr⟩ := x.get hp
      rw [hv]
      exact ⟨v, _, rfl, hr, ih⟩
    | none =>
      have : vs[i]? = none := by rw [List.getElem?_eq_none_iff] at hp ⊢; rw [x.length]; exact hp
      rw [this]; exact ih
theorem RdL.pickL {h mu} {xs : List PV} {vs : Array Value} (x : RdL h mu xs vs.toList) (l u : Option Int) : RdL h mu (pickL xs l u) (slicePick vs l u none).toList := by
  unfold slicePick Mine.pickL
  rw [x.size, List.toList_toArray]
  simpa using x.pick (sliceRange (sliceBounds l u none xs.length).1 (sliceBounds l u none xs.length).2.1 (sliceBounds l u none xs.length).2.2)

theorem Ev.cut_l {ve : Expr} {lo hi : Option Expr} {p0 pos : Pos} {p : PV} {xs : List PV} {l u : Option Int} (hv : Ev X k f ve p) (L : Lst f p xs) (hl : EvP X k f lo l) (hu : EvP X k f hi u) (hz : xs.length ≤ sizeLine) :
    Ev X k f (.Subscript ve (.Slice lo hi none p0) pos) (.lst (pickL xs l u)) := by
  intro A s Q R F hQ
  refine Subscript_ (hv A s _ R F fun v s₁ G₁ F₁ h₁ => wpAny_Slice (hl A s₁ _ R F₁ fun vl s₂ G₂ F₂ pl => hu A s₂ _ R F₂ fun vu s₃ G₃ F₃ pu => evalPart_none_step ?_))
  have G₄ : Grow X s₃ { s₃ with heap := s₃.heap.push { cls := .type "slice", data := .fields #[vl, vu, .none] } } := .push F₃.live
  have F₄ := F₃.grown F₃.live G₄
  obtain ⟨a, vs, rfl, hL, hx⟩ := L.is F₄ (F₃.rd (F₁.rd h₁ (G₂.trans G₃)) G₄)
  refine tail_any hL.typeIs slot_list_getitem.lookup ?_ rfl
  refine wpAny_getItem_list_slice (s := { s₃ with heap := s₃.heap.push { cls := .type "slice", data := .fields #[vl, vu, .none] } }) hL (Heap.IsSliceOf.new _ _ _ _) pl pu .none (by intro x; cases x) ?_ (by rw [hx.size]; exact hz)
  have G₅ : Grow X { s₃ with heap := s₃.heap.push { cls := .type "slice", data := .fields #[vl, vu, .none] } } _ := .push (t := s₃.toks) (o := { cls := .type "list", data := .seq (slicePick vs l u none) }) F₄.live
  have F₅ := F₄.grown F₄.live G₅
  refine hQ _ _ ((((G₁.trans G₂).trans G₃).trans G₄).trans G₅) F₅ ⟨_, _, _, _, rfl, F₄.sane.new, Heap.get?_push_size _ rfl, rfl, rfl, ?_⟩
  exact F₄.rdl (hx.pickL l u) G₅

theorem Ev.cut_s {ve : Expr} {lo hi : Option Expr} {p0 pos : Pos} {x : Str} {l u : Option Int} (hv : Ev X k f ve (.str x)) (hl : EvP X k f lo l) (hu : EvP X k f hi u) (hz : x.length ≤ sizeLine) :
    Ev X k f (.Subscript ve (.Slice lo hi none p0) pos) (.str (Txt.slice x l u)) := by
  intro A s Q R F hQ
  refine Subscript_ (hv A s _ R F fun v s₁ G₁ F₁ h₁ => wpAny_Slice (hl A s₁ _ R F₁ fun vl s₂ G₂ F₂ pl => hu A s₂ _ R F₂ fun vu s₃ G₃ F₃ pu => evalPart_none_step ?_))
  obtain ⟨t, rfl⟩ := h₁
  have hk : KeptH (fun h => Live X h ∧ (∀ b o, s₃.heap.get? b = some o → h.get? b = some o) ∧ s₃.heap.objs.size ≤ h.objs.size) := fun h ob ⟨a, b, c⟩ => ⟨a.push ob, fun d o e => Heap.get?_push_of_some _ (b d o e), by rw [Heap.size_push]; omega⟩
  have base : Live X s₃.heap ∧ (∀ b o, s₃.heap.get? b = some o → s₃.heap.get? b = some o) ∧ s₃.heap.objs.size ≤ s₃.heap.objs.size := ⟨F₃.live, fun _ _ e => e, Nat.le_refl _⟩
  have fin : ∀ h' t' kk, (Live X h' ∧ (∀ b o, s₃.heap.get? b = some o → h'.get? b = some o) ∧ s₃.heap.objs.size ≤ h'.objs.size) → Q (.str (Txt.slice x l u) t') { s₃ with heap := h', toks := kk } := fun h' t' kk ⟨a, b, c⟩ => by
    have G₄ : Grow X s₃ { s₃ with heap := h', toks := kk } := .all a b c rfl rfl
    exact hQ _ _ (((G₁.trans G₂).trans G₃).trans G₄) (F₃.grown F₃.live G₄) ⟨_, rfl⟩
  have tl : ∀ {sl : Expr} {i : Value} {sx : Shared}, ItemOn (Mo X) A (fun _ _ => False) (.str x t) i Q sx → subscripted sl false (.str x t) i = operate [i, .str x t] (getItem (.str x t) i) → wpAny (Mo X) A (subscriptTail ve sl (.str x t) i) Q (fun _ _ => False) sx := fun ⟨T, id, h1, h2, h3⟩ hs => tail_any h2 h1 h3 hs
  cases pl with
  | none => cases pu with
    | none => exact tl (SBH.sliceItem_nn hk base fin hz) rfl
    | int j tj => exact tl (SBH.sliceItem_ns hk base fin hz) rfl
  | int i ti => cases pu with
    | none => exact tl (SBH.sliceItem_sn hk base fin hz) rfl
    | int j tj => exact tl (SBH.sliceItem_ss hk base fin hz) rfl

/-- arguments in a row -/
noncomputable def EvL (X : Wd) (k : Nat) (f : FS) (pos : Pos) (es : List Expr) (ps : List PV) : Prop :=
  ∀ A s (Q : List Value → Shared → Prop), Room X A k → f.Ok X s → (∀ vs s', Grow X s s' → f.Ok X s' → RdL s'.heap f.mu' ps vs → Q vs s') → wpAny (Mo X) A (spliced (backTo pos (starEach es f.env))) Q (fun _ _ => False) s
theorem EvL.nil {pos : Pos} : EvL X k f pos [] [] := fun A s Q _ F hQ => args_nil (hQ _ s (.refl F.live) F rfl)
theorem EvL.cons {pos : Pos} {e : Expr} {es : List Expr} {p : PV} {ps : List PV} (h : Ev X k f e p) (hr : EvL X k f pos es ps) (he : starEach (e :: es) f.env = (false, eval e f.env) :: starEach es f.env := by rfl) : EvL X k f pos (e :: es) (p :: ps) :=
  fun A s Q R F hQ => args_cons (h A s _ R F fun v s₁ G₁ F₁ h₁ => hr A s₁ _ R F₁ fun vs s₂ G₂ F₂ h₂ => hQ _ s₂ (G₁.trans G₂) F₂ ⟨v, vs, rfl, F₁.rd h₁ G₂, h₂⟩) he

/-- each of a list, by its items one after another -/
noncomputable def Each {α : Type} (P : α → Prop) : List α → Prop
  | [] => True
  | a :: l => P a ∧ Each P l
theorem Each.get {α : Type} {P : α → Prop} {l : List α} (h : Each P l) : ∀ a ∈ l, P a := by
  induction l with
  | nil => intro a ha; cases ha
  | cons b l ih =>
    intro a ha
    rcases List.mem_cons.mp ha with e | ha
    · rw [e]; exact h.1
    · exact ih h.2 a ha
theorem EvL.len {pos : Pos} : ∀ {es : List Expr}, (∀ e ∈ es, ∀ r, starEach (e :: r) f.env = (false, eval e f.env) :: starEach r f.env) → (backTo pos (starEach es f.env)).any (·.1) = false
  | [], _ => rfl
  | e :: es, h => by
    rw [h e (.head _)]
    show (false || (backTo pos (starEach es f.env)).any (·.1)) = false
    rw [Bool.false_or]
    exact EvL.len fun e' he' => h e' (.tail _ he')

/-- displays -/
theorem Ev.lst {es : List Expr} {pos : Pos} {ps : List PV} (h : EvL X k f pos es ps) (hz : ps.length ≤ sizeLine) : Ev X k f (.List es pos) (.lst ps) := by
  intro A s Q R F hQ
  refine List_ (h A s _ R F fun vs s₁ G₁ F₁ h₁ => wpAny_newObj_type ?_ (by show vs.toArray.size ≤ sizeLine; rw [List.size_toArray, h₁.length]; exact hz))
  have G₂ : Grow X s₁ { s₁ with heap := s₁.heap.push { cls := .type "list", data := .seq vs.toArray } } := .push F₁.live
  exact hQ _ _ (G₁.trans G₂) (F₁.grown F₁.live G₂) ⟨_, _, _, _, rfl, F₁.sane.new, Heap.get?_push_size _ rfl, rfl, rfl, by simpa using F₁.rdl h₁ G₂⟩
theorem Ev.tup {es : List Expr} {n : Nat} {pos : Pos} {ps : List PV} (h : EvL X k f pos es ps) (hz : ps.length ≤ sizeLine) : Ev X k f (.Tuple es n pos) (.tup ps) := by
  intro A s Q R F hQ
  refine Tuple_ (h A s _ R F fun vs s₁ G₁ F₁ h₁ => wpAny_newObj_type ?_ (by show vs.toArray.size ≤ sizeLine; rw [List.size_toArray, h₁.length]; exact hz))
  have G₂ : Grow X s₁ { s₁ with heap := s₁.heap.push { cls := .type "tuple", data := .seq vs.toArray } } := .push F₁.live
  exact hQ _ _ (G₁.trans G₂) (F₁.grown F₁.live G₂) ⟨_, _, _, _, rfl, F₁.sane.new, Heap.get?_push_size _ rfl, rfl, rfl, by simpa using F₁.rdl h₁ G₂⟩

/-- calls -/
noncomputable def Kept (X : Wd) (v : Value) : Prop := ∀ h, Live X h → ∃ q, (q = Keeper.frame ∨ q = Keeper.machine ∨ q = Keeper.boundFrame) ∧ Looks (Mo X) h (keeperOf v) q
theorem Kept.fn (C : Cx X) {v : Value} (e : ∀ P, keepIn (KF P) v = true) : Kept X v := fun h l => keeps_K (e _) h (C.K.keeps l.old)
theorem Kept.bi {id : String} : Kept X (.builtin id) := fun _ _ => ⟨.machine, .inr (.inl rfl), Looks.of_pure rfl⟩
theorem Kept.ty {id : String} : Kept X (.type id) := fun _ _ => ⟨.machine, .inr (.inl rfl), Looks.of_pure rfl⟩

theorem OpN.up {ps t r} {j : Nat} (h : OpN X j ps t r) (hj : j ≤ k) : OpN X k ps t r := fun A s mu vs Q R => h A s mu vs Q (R.le hj)

theorem Ev.call {fe e : Expr} {es : List Expr} {pos : Pos} {v : Value} {ps : List PV} {r : PV} (hf : Ev X k f fe (.raw v)) (hk : Kept X v) (ha : EvL X k f pos (e :: es) ps) (ho : OpN X k ps (fun vs => call v vs) r)
    (hs : Each (fun e' => ∀ r, starEach (e' :: r) f.env = (false, eval e' f.env) :: starEach r f.env) (e :: es) := by repeat (first | exact True.intro | refine ⟨fun _ => rfl, ?_⟩))
    (he : eval (.Call fe (e :: es) [] pos) f.env = (do callWith pos (← eval fe f.env) [] (backTo pos (starEach (e :: es) f.env)) (backToKw pos (keywordEach [] f.env))) := by rfl) : Ev X k f (.Call fe (e :: es) [] pos) r := by
  have hs := hs.get
  intro A s Q R F hQ
  refine Call_ (hf A s _ R F fun w s₁ G₁ F₁ h₁ => ?_) he
  cases h₁
  refine callWith_of (P := Live X) (by rw [EvL.len hs]; rfl) hk ?_
  rw [hs e (.head _)]
  refine Calls.evalArgs_plain ?_
  show wpAny _ _ (spliced (backTo pos ((false, eval e f.env) :: starEach es f.env))) _ _ _
  rw [← hs e (.head _)]
  refine ha A s₁ _ R F₁ fun vs s₂ G₂ F₂ h₂ => ⟨F₂.live, ?_⟩
  exact ho A s₂ f.mu' vs Q R F₂.sane h₂ fun u s₃ G₃ h₃ => hQ u s₃ ((G₁.trans G₂).trans G₃) (F₂.grown F₂.live G₃) h₃

theorem chr_i {i : Int} (h0 : 0 ≤ i) (h1 : i ≤ 1114111) : OpN X k [.int i] (fun vs => call (.builtin "chr") vs) (.str ⟨#[i.toNat]⟩) := fun A s mu vs Q _ T hv hQ => by
  obtain ⟨v, r, rfl, ⟨t, rfl⟩, hr⟩ := hv
  cases hr
  exact chr_of_range h0 h1 (hQ _ _ (.toks T.live) ⟨_, rfl⟩)
theorem in_s1 {c : Nat} {b : Str} : Op2 X k (.str ⟨#[c]⟩) (.str b) (compareOp .In) (.bool (decide (c ∈ b.cps.toList))) := by
  rw [← StrLaws.found_one]; exact in_ss

/-- len -/
theorem Ev.len (C : Cx X) {e : Expr} {p1 p2 : Pos} {p : PV} {xs : List PV} (hv : Ev X k f e p) (L : Lst f p xs) (hz : (xs.length : Int) < 2 ^ 63) (hl : f.env.kindOf "len" = some .globalImplicit)
    (hs : ∀ r, starEach (e :: r) f.env = (false, eval e f.env) :: starEach r f.env := by intro _; rfl) : Ev X k f (.Call (.Name "len" p1) [e] [] p2) (.int xs.length) := by
  intro A s Q R F hQ
  have hf : Ev X k f (.Name "len" p1) (.raw (.builtin "len")) := Ev.blt C (fun P => by kernel_rfl) (by decide +kernel) hl
  refine Call_ (hf A s _ R F fun w s₁ G₁ F₁ h₁ => ?_)
  cases h₁
  refine callWith_of (P := Live X) (by rw [hs]; rfl) Kept.bi ?_
  rw [hs]
  refine Calls.evalArgs_plain ?_
  show wpAny _ _ (spliced (backTo p2 ((false, eval e f.env) :: starEach [] f.env))) _ _ _
  rw [← hs]
  refine EvL.cons hv EvL.nil (hs _) A s₁ _ R F₁ fun vs s₂ G₂ F₂ h₂ => ⟨F₂.live, ?_⟩
  obtain ⟨v, r, rfl, hv, hr⟩ := h₂
  cases hr
  obtain ⟨a, vs, rfl, hL, hx⟩ := L.is F₂ hv
  refine Calls.call_len_list hL (by rw [hx.size]; exact hz) ?_
  rw [hx.size]
  exact hQ _ _ ((G₁.trans G₂).trans (.toks F₂.live)) (F₂.toks _) ⟨_, rfl⟩
theorem len_s {x : Str} (hz : (x.length : Int) < 2 ^ 63) : OpN X k [.str x] (fun vs => call (.builtin "len") vs) (.int x.length) := fun A s mu vs Q _ S hv hQ => by
  obtain ⟨v, r, rfl, ⟨t, rfl⟩, hr⟩ := hv
  cases hr
  exact P.len_str (by omega) (hQ _ _ (.toks S.live) ⟨_, rfl⟩)
theorem Tv.lst {e : Expr} {p : PV} {xs : List PV} (hv : Ev X k f e p) (L : Lst f p xs) (hz : (xs.length : Int) < 2 ^ 63)
    (hs : ∀ whole, isTrue e f.env whole = (do let v ← whole; standAt e.pos; holding [v] (truthy v)) := by intro _; rfl) : Tv X k f e (!xs.isEmpty) := by
  intro A s Q R F hQ
  refine isTrue_plain (hv A s _ R F fun v s₁ G₁ F₁ h₁ => ?_) (hs _)
  obtain ⟨a, vs, rfl, hL, hx⟩ := L.is F₁ h₁
  refine wpAny_truthy_list hL (by rw [hx.size]; exact hz) ?_
  have : vs.isEmpty = xs.isEmpty := by
    have := hx.size
    cases xs with
    | nil => simp at this; simp [this]
    | cons => simp [Array.isEmpty, this]
  rw [this]
  exact hQ _ (G₁.trans (.toks F₁.live)) (F₁.toks _)
end
section
variable {X : Wd} {k : Nat} {f : FS}

noncomputable def NotCode (h : Heap) (a : Addr) : Prop := ∀ o vs q t, h.get? a = some o → o.data = .fields vs → vs[1]? ≠ some (.str q t)
theorem Live.upd {h h' : Heap} {a : Addr} (l : Live X h) (ha : X.H.get? a = none) (nt : ¬ isCT a) (nc : NotCode h a) (hs : Heap.SameBut a h h') (hf : a ∈ X.frs → ∃ m, h'.Ns a m) : Live X h' where
  old := fun b o e => (hs.2 b fun q => by rw [q, ha] at e; cases e).trans (l.old b o e)
  t33 := by
    obtain ⟨ps, e, t, c⟩ := l.t33
    refine ⟨ps, (hs.2 33 fun q => nt (.inl q.symm)).trans e, t, fun pos cv q => ?_⟩
    obtain ⟨cc, o, vs, tt, e1, e2, e3, e4⟩ := c pos cv q
    exact ⟨cc, o, vs, tt, e1, (hs.2 cc fun z => by rw [z] at e2; exact nc o vs _ _ e2 e3 e4).trans e2, e3, e4⟩
  t85 := let ⟨ps, e, t, c⟩ := l.t85; ⟨ps, (hs.2 85 fun q => nt (.inr q.symm)).trans e, t, c⟩
  low := by rw [hs.1]; exact l.low
  frs := fun env he => by
    obtain ⟨q1, L, m, q2, q3, q4⟩ := l.frs env he
    by_cases e : L = a
    · obtain ⟨m', hm'⟩ := hf (e ▸ List.mem_filterMap.mpr ⟨env, he, q2⟩)
      exact ⟨q1, L, m', q2, q3, e ▸ hm'⟩
    · exact ⟨q1, L, m, q2, q3, q4.sameBut hs e⟩

theorem none_of_le {h : Heap} {a : Addr} (l : h.objs.size ≤ a) : h.get? a = none := Heap.get?_none_of_le l

theorem FS.Ok.change {s : Shared} {a : Addr} {h' : Heap} {t : Nat} (F : f.Ok X s) (ha : a ∈ f.own ++ f.led.map (·.1)) (hs : Heap.SameBut a s.heap h') (nc : NotCode s.heap a) (hf : a ∈ X.frs → ∃ m, h'.Ns a m) :
    Grow X f.hs { s with heap := h', toks := t } where
  live := F.live.upd (none_of_le (Nat.le_trans F.hlow (F.fresh a ha).1)) (own_not_ct F ha) nc hs hf
  keep := fun b o ht e => (hs.2 b fun q => by rw [q, none_of_le (F.fresh a ha).1] at e; cases e).trans (F.grow.keep b o ht e)
  size := by show _ ≤ h'.objs.size; rw [hs.1]; exact F.grow.size
  os := F.grow.os
  frm := fun b m hb hn => (F.grow.frm b m hb hn).sameBut hs fun q => by
    obtain ⟨o, _, _, e, _⟩ := hn
    rw [q, none_of_le (F.fresh a ha).1] at e; cases e
  gens := F.grow.gens
theorem mu_of_own {a : Addr} (ha : a ∈ f.own ++ f.led.map (·.1)) : f.mu' a := (List.mem_append.mp ha).elim (fun h => .inr (.inl h)) fun h => .inr (.inr h)
theorem Rd.same {h h' : Heap} {mu : Addr → Prop} {a : Addr} {p : PV} {v : Value} (x : Rd h mu p v) (ha : mu a) (hs : Heap.SameBut a h h') : Rd h' mu p v :=
  x.mono fun b o hb e => ⟨(hs.2 b fun q => hb (q ▸ ha)).trans e, hb⟩
theorem RdL.same {h h' : Heap} {mu : Addr → Prop} {a : Addr} {p : List PV} {v : List Value} (x : RdL h mu p v) (ha : mu a) (hs : Heap.SameBut a h h') : RdL h' mu p v :=
  x.mono fun b o hb e => ⟨(hs.2 b fun q => hb (q ▸ ha)).trans e, hb⟩
theorem MO.At.same {h h' : Heap} {mu : Addr → Prop} {a b : Addr} {mo : MO} (x : mo.At h mu b) (ha : mu a) (hb : b ≠ a) (hs : Heap.SameBut a h h') : mo.At h' mu b := by
  cases mo with
  | lst xs => obtain ⟨o, vs, n, h1, h2, h3, h4⟩ := x; exact ⟨o, vs, n, (hs.2 b hb).trans h1, h2, h3, h4.same ha hs⟩
  | obj o => exact (hs.2 b hb).trans x
theorem Step.same {s : Shared} {a : Addr} {h' : Heap} {t : Nat} {vars : List (Str × PV)} (ha : a ∈ f.own) (hl : ∀ o, s.heap.get? a = some o → Loose o) (hs : Heap.SameBut a s.heap h') (hS : Solid h' a) : Step f s (f.upd vars f.led) { s with heap := h', toks := t } where
  keep := fun b o h1 h2 h3 e => (hs.2 b fun q => h3 (q ▸ ha) (hl o (q ▸ e))).trans e
  mu := fun _ hb => hb
  led := fun _ hb => .inl hb
  own := fun _ hb => .inl hb
  solid := solid_but hs hS
theorem FS.Ok.tabStep {s : Shared} (F : f.Ok X s) {b : Addr} {o : Obj} (h1 : ¬ f.mu b) (h3 : b ∈ f.own → ¬ Loose o) (e : s.heap.get? b = some o) : ¬ isTab X b := fun ht => by
  rcases ht with rfl | rfl | h
  · exact h1 F.mu33
  · exact h1 F.mu85
  · rcases F.mfr b h with q | q
    · exact h1 q
    · obtain ⟨_, m, o', es, ep, e', d', _⟩ := F.live.fr h
      rw [e] at e'; cases e'
      exact h3 q (.inl ⟨_, _, d'⟩)
theorem Step.grow {s s' : Shared} (F : f.Ok X s) (G : Grow X s s') : Step f s f s' where
  keep := fun b o h1 h2 h3 e => G.keep b o (F.tabStep h1 h3 e) e
  mu := fun _ hb => hb
  led := fun _ hb => .inl hb
  own := fun _ hb => .inl hb
  solid := G.solid
/-- a local is stored -/
theorem FS.Ok.setLoc {s : Shared} {x : Str} {p : PV} {v : Value} {m : Str → Option Value} {h' : Heap} {t : Nat} (F : f.Ok X s) (hl : f.env.kindOf x = some .local) (hv : Rd s.heap f.mu' p v)
    (hn : s.heap.Ns f.env.locals m) (hm : ∀ y q, f.vars.lookup y = some q → f.env.kindOf y = some .local → ∃ v, m y = some v ∧ Rd s.heap f.mu' q v)
    (hn' : h'.Ns f.env.locals (fun y => if y = x then some v else m y)) (hs : Heap.SameBut f.env.locals s.heap h') :
    (f.upd ((x, p) :: f.vars) f.led).Ok X { s with heap := h', toks := t } := by
  have hL := List.mem_append_left (f.led.map (·.1)) F.locs
  have hmu := mu_of_own hL
  have nc : NotCode s.heap f.env.locals := fun o vs q tt e d => by
    obtain ⟨o', es, ep, e', d', _⟩ := hn
    rw [e] at e'; cases e'; rw [d] at d'; cases d'
  exact {
    grow := F.change hL hs nc fun _ => ⟨_, hn'⟩
    muLt := F.muLt, mu33 := F.mu33, mu85 := F.mu85, mfr := F.mfr, apart := F.apart, locs := F.locs, kind := F.kind, glob := F.glob, blt := F.blt, hlow := F.hlow
    fresh := fun b hb => ⟨(F.fresh b hb).1, (by show b < h'.objs.size; rw [hs.1]; exact (F.fresh b hb).2)⟩
    ns := ⟨_, hn', fun y q hy hk => by
      have hy' : ((x, p) :: f.vars).lookup y = some q := hy
      rw [List.lookup_cons] at hy'
      by_cases e : y = x
      · subst e
        rw [beq_self_eq_true] at hy'
        cases hy'
        exact ⟨v, by simp, hv.same hmu hs⟩
      · rw [beq_eq_false_iff_ne.mpr e] at hy'
        obtain ⟨w, hw, hr⟩ := hm y q hy' hk
        exact ⟨w, by simp [e, hw], hr.same hmu hs⟩⟩
    cell := fun y q hy hk => by
      have hy' : ((x, p) :: f.vars).lookup y = some q := hy
      rw [List.lookup_cons] at hy'
      have e : y ≠ x := fun e => hk (e ▸ hl)
      rw [beq_eq_false_iff_ne.mpr e] at hy'
      obtain ⟨c, w, hc, hcv, hr⟩ := F.cell y q hy' hk
      refine ⟨c, w, hc, hcv.sameBut hs fun z => ?_, hr.same hmu hs⟩
      obtain ⟨o, es, ep, e', d', _⟩ := hn
      obtain ⟨o₂, e₂, d₂⟩ := hcv
      rw [z, e'] at e₂; cases e₂; rw [d'] at d₂; cases d₂
    led := fun b mo hb => by
      refine (F.led b mo hb).same hmu (fun z => ?_) hs
      have := List.nodup_append.mp F.apart
      exact this.2.2 _ F.locs _ (List.mem_map_of_mem (f := (·.1)) hb) z.symm
    solid := fun b hb => by
      by_cases e : b = f.env.locals
      · rw [e]; exact .ns hn'
      · exact (F.solid b hb).of fun o q => (hs.2 b e).trans q
    cellv := fun n c hc => by
      obtain ⟨v, hv⟩ := F.cellv n c hc
      refine ⟨v, hv.sameBut hs fun z => ?_⟩
      obtain ⟨o, es, ep, e', d', _⟩ := hn
      obtain ⟨o₂, e₂, d₂⟩ := hv
      rw [z, e'] at e₂; cases e₂; rw [d'] at d₂; cases d₂ }

theorem store_loc {x : Str} {p : PV} {v : Value} {A s} {Q : Unit → Shared → Prop} (F : f.Ok X s) (hl : f.env.kindOf x = some .local) (hv : Rd s.heap f.mu' p v)
    (h : ∀ s', (f.upd ((x, p) :: f.vars) f.led).Ok X s' → Step f s (f.upd ((x, p) :: f.vars) f.led) s' → Q () s') : wpAny (Mo X) A (storeName f.env x v) Q (fun _ _ => False) s := by
  obtain ⟨m, hn, hm⟩ := F.ns
  refine wpAny_storeName_local hl hn (fun h' hn' hs => h _ (F.setLoc hl hv hn hm hn' hs) ?_) (by rw [F.kind]; rfl)
  exact Step.same F.locs (fun o e => by
    obtain ⟨o', es, ep, e', d', _⟩ := hn
    rw [e] at e'; cases e'; exact .inl ⟨_, _, d'⟩) hs (.ns hn')

/-- a cell of the frame's own is stored -/
theorem store_cel {x : Str} {p : PV} {v : Value} {A s} {c : Addr} {Q : Unit → Shared → Prop} (F : f.Ok X s) (hl : f.env.kindOf x = some .cell) (hc : f.env.cells.lookup x = some c) (ho : c ∈ f.own) (hap : f.env.cells.Pairwise fun a b => a.2 ≠ b.2) (hv : Rd s.heap f.mu' p v)
    (h : ∀ s', (f.upd ((x, p) :: f.vars) f.led).Ok X s' → Step f s (f.upd ((x, p) :: f.vars) f.led) s' → Q () s') : wpAny (Mo X) A (storeName f.env x v) Q (fun _ _ => False) s := by
  obtain ⟨v0, hcv⟩ := F.cellv x c hc
  refine wpAny_storeName_cell F.kind hl hc hcv fun h' hv' hs => ?_
  have hL := List.mem_append_left (f.led.map (·.1)) ho
  have hmu := mu_of_own hL
  have nc : NotCode s.heap c := fun o vs q tt e d => by
    obtain ⟨o', e', d'⟩ := hcv
    rw [e] at e'; cases e'; rw [d] at d'; cases d'
  obtain ⟨m, hn, hm⟩ := F.ns
  have hcL : f.env.locals ≠ c := fun z => by
    obtain ⟨o, es, ep, e', d', _⟩ := hn
    obtain ⟨o₂, e₂, d₂⟩ := hcv
    rw [← z, e'] at e₂; cases e₂; rw [d'] at d₂; cases d₂
  refine h _ {
    grow := F.change (t := s.toks) hL hs nc fun q => absurd (.inr (.inr q)) (tab_not_cell F.live hcv)
    muLt := F.muLt, mu33 := F.mu33, mu85 := F.mu85, mfr := F.mfr, apart := F.apart, locs := F.locs, kind := F.kind, glob := F.glob, blt := F.blt, hlow := F.hlow
    fresh := fun b hb => ⟨(F.fresh b hb).1, (by show b < h'.objs.size; rw [hs.1]; exact (F.fresh b hb).2)⟩
    ns := ⟨m, hn.sameBut hs hcL, fun y q hy hk => by
      have hy' : ((x, p) :: f.vars).lookup y = some q := hy
      rw [List.lookup_cons] at hy'
      have e : y ≠ x := fun e => by
        subst e
        have : f.env.kindOf y = some .local := hk
        rw [hl] at this; cases this
      rw [beq_eq_false_iff_ne.mpr e] at hy'
      obtain ⟨w, hw, hr⟩ := hm y q hy' hk
      exact ⟨w, hw, hr.same hmu hs⟩⟩
    cell := fun y q hy hk => by
      have hy' : ((x, p) :: f.vars).lookup y = some q := hy
      rw [List.lookup_cons] at hy'
      by_cases e : y = x
      · subst e
        rw [beq_self_eq_true] at hy'
        cases hy'
        exact ⟨c, v, hc, hv', hv.same hmu hs⟩
      · rw [beq_eq_false_iff_ne.mpr e] at hy'
        obtain ⟨c', w, hc', hcv', hr⟩ := F.cell y q hy' hk
        exact ⟨c', w, hc', hcv'.sameBut hs fun z => e (name_of_addr hap (mem_of_lookup hc') (z ▸ mem_of_lookup hc)), hr.same hmu hs⟩
    led := fun b mo hb => by
      refine (F.led b mo hb).same hmu (fun z => ?_) hs
      exact (List.nodup_append.mp F.apart).2.2 _ ho _ (List.mem_map_of_mem (f := (·.1)) hb) z.symm
    solid := fun b hb => by
      by_cases e : b = c
      · rw [e]; exact .cell hv'
      · exact (F.solid b hb).of fun o q => (hs.2 b e).trans q
    cellv := fun n c' hc => by
      by_cases e : c' = c
      · exact ⟨_, e ▸ hv'⟩
      · obtain ⟨v, hv⟩ := F.cellv n c' hc
        exact ⟨v, hv.sameBut hs e⟩ } (Step.same (t := s.toks) ho (fun o e => by
      obtain ⟨o', e', d'⟩ := hcv
      rw [e] at e'; cases e'; exact .inr ⟨_, d'⟩) hs (.cell hv'))

/-- storing, either way: what a target name wants -/
inductive Stores (f : FS) (x : Str) : Prop
  | loc (hl : f.env.kindOf x = some .local)
  | cel (c : Addr) (hl : f.env.kindOf x = some .cell) (hc : f.env.cells.lookup x = some c) (ho : c ∈ f.own) (hap : f.env.cells.Pairwise fun a b => a.2 ≠ b.2)
theorem store_any {x : Str} {p : PV} {v : Value} {A s} {Q : Unit → Shared → Prop} (S : Stores f x) (F : f.Ok X s) (hv : Rd s.heap f.mu' p v)
    (h : ∀ s', (f.upd ((x, p) :: f.vars) f.led).Ok X s' → Step f s (f.upd ((x, p) :: f.vars) f.led) s' → Q () s') : wpAny (Mo X) A (storeName f.env x v) Q (fun _ _ => False) s := by
  cases S with
  | loc hl => exact store_loc F hl hv h
  | cel c hl hc ho hap => exact store_cel F hl hc ho hap hv h

theorem Step.refl {s : Shared} : Step f s f s := ⟨fun _ _ _ _ _ e => e, fun _ h => h, fun _ h => .inl h, fun _ h => .inl h, fun _ h => h⟩

/-- the rules -/
theorem WS.nil {Ψ} (h : Ψ .next f.vars f.led) : WS X k f [] Ψ := fun _ s _ _ F hQ => wpAny_execs_nil (hQ .next _ _ _ s h F .refl rfl)
theorem WS.mono {st : List Stmt} {Ψ Φ} (h : WS X k f st Ψ) (hΨ : ∀ fl vars led, Ψ fl vars led → Φ fl vars led) : WS X k f st Φ :=
  fun A s Q R F hQ => h A s Q R F fun fl vars led g s' hp => hQ fl vars led g s' (hΨ _ _ _ hp)

/-- one statement that goes on -/
theorem WS.step {st : Stmt} {rest : List Stmt} {Ψ} {vars : List (Str × PV)} {led : List (Addr × MO)}
    (h1 : ∀ A s (Q : Flow → Shared → Prop), Room X A k → f.Ok X s → (∀ s', (f.upd vars led).Ok X s' → Step f s (f.upd vars led) s' → Q .next s') → wpAny (Mo X) A (exec st f.env) Q (fun _ _ => False) s)
    (h2 : WS X k (f.upd vars led) rest Ψ) : WS X k f (st :: rest) Ψ := fun A s Q R F hQ =>
  wpAny_execs_cons (h1 A s _ R F fun s' F' S' => h2 A s' Q R F' fun fl vars' led' g s'' hp F'' S'' hg => hQ fl vars' led' g s'' hp F'' (S'.trans S'') hg)

theorem WS.assign {x : Str} {p1 p2 : Pos} {e : Expr} {p : PV} {rest : List Stmt} {Ψ} (he : Ev X k f e p) (S : Stores f x)
    (h : WS X k (f.upd ((x, p) :: f.vars) f.led) rest Ψ) (hs : swapsWith e (some (.Name x p1)) p2.line f.env = pure false := by rfl) : WS X k f (.Assign [.Name x p1] e p2 :: rest) Ψ :=
  WS.step (fun A s Q R F hQ => wpAny_Assign_Name (he A s _ R F fun v s₁ G₁ F₁ h₁ => store_any S F₁ h₁ fun s₂ F₂ S₂ => hQ s₂ F₂ ((Step.grow F G₁).trans S₂)) hs) h

theorem WS.aug {x : Str} {p1 p2 : Pos} {op : Operator} {e : Expr} {p q r : PV} {rest : List Stmt} {Ψ} (hx : f.vars.lookup x = some p) (hl : f.env.kindOf x = some .local) (he : Ev X k f e q) (ho : Op2 X k p q (inplaceOp op) r)
    (h : WS X k (f.upd ((x, r) :: f.vars) f.led) rest Ψ) : WS X k f (.AugAssign (.Name x p1) op e p2 :: rest) Ψ :=
  WS.step (fun A s Q R F hQ => wpAny_AugAssign_Name (by
    obtain ⟨m, hn, hm⟩ := F.ns
    obtain ⟨v, hv, hr⟩ := hm x p hx hl
    exact wpAny_loadName_local F.kind hl hn hv (he A s _ R F fun w s₂ G₂ F₂ h₂ => ho.ev R F₂ (F.rd hr G₂) h₂ fun u s₃ G₃ F₃ h₃ =>
      store_loc F₃ hl h₃ fun s₄ F₄ S₄ => hQ s₄ F₄ ((Step.grow F (G₂.trans G₃)).trans S₄)))) h

theorem WS.ret {e : Expr} {pos : Pos} {p : PV} {rest : List Stmt} {Ψ} (he : Ev X k f e p) (h : Ψ (.ret p) f.vars f.led) : WS X k f (.Return (some e) pos :: rest) Ψ := fun A s Q R F hQ =>
  wpAny_execs_cons (wpAny_Return_some (he A s _ R F fun v s₁ G₁ F₁ h₁ => hQ (.ret p) _ _ _ s₁ h F₁ (Step.grow F G₁) ⟨v, rfl, h₁⟩))

theorem WS.ite {t : Expr} {b : Bool} {body orelse rest : List Stmt} {pos : Pos} {Ψ} (ht : Tv X k f t b)
    (h1 : b = true → WS X k f body (fun fl vars led => match fl with | .next => WS X k (f.upd vars led) rest Ψ | fl => Ψ fl vars led))
    (h2 : b = false → WS X k f orelse (fun fl vars led => match fl with | .next => WS X k (f.upd vars led) rest Ψ | fl => Ψ fl vars led)) : WS X k f (.If t body orelse pos :: rest) Ψ := fun A s Q R F hQ => by
  refine wpAny_execs_cons (wpAny_If (ht A s _ R F fun s₁ G₁ F₁ => ?_))
  have fin : ∀ (bl : List Stmt), WS X k f bl (fun fl vars led => match fl with | .next => WS X k (f.upd vars led) rest Ψ | fl => Ψ fl vars led) →
      wpAny (Mo X) A (execs bl f.env) (fun fl s' => match fl with | .next => wpAny (Mo X) A (execs rest f.env) Q (fun _ _ => False) s' | fl => Q fl s') (fun _ _ => False) s₁ := fun bl hb =>
    hb A s₁ _ R F₁ fun fl vars led g s₂ hp F₂ S₂ hg => by
      have S := (Step.grow F G₁).trans S₂
      cases fl with
      | next => cases hg; exact hp A s₂ Q R F₂ fun fl' vars' led' g' s₃ hp' F₃ S₃ hg' => hQ fl' vars' led' g' s₃ hp' F₃ (S.trans S₃) hg'
      | brk => cases hg; exact hQ .brk vars led _ s₂ hp F₂ S rfl
      | cont => cases hg; exact hQ .cont vars led _ s₂ hp F₂ S rfl
      | ret p => obtain ⟨v, rfl, hv⟩ := hg; exact hQ (.ret p) vars led _ s₂ hp F₂ S ⟨v, rfl, hv⟩
  cases b with
  | true => rw [if_pos rfl]; exact fin body (h1 rfl)
  | false => rw [if_neg Bool.false_ne_true]; exact fin orelse (h2 rfl)

/-- a while, by a measure -/
theorem WS.while {t : Expr} {body rest : List Stmt} {pos : Pos} {Ψ} (J : Nat → List (Str × PV) → List (Addr × MO) → Prop) (n : Nat) (h0 : J n f.vars f.led)
    (turn : ∀ n vars led, J n vars led → ∃ b, Tv X k (f.upd vars led) t b ∧
      (b = true → WS X k (f.upd vars led) body (fun fl vars' led' => match fl with
        | .next | .cont => ∃ m, m < n ∧ J m vars' led'
        | .brk => WS X k (f.upd vars' led') rest Ψ
        | .ret p => Ψ (.ret p) vars' led')) ∧
      (b = false → WS X k (f.upd vars led) rest Ψ)) : WS X k f (.While t body [] pos :: rest) Ψ := fun A s Q R F hQ => by
  refine wpAny_execs_cons (wpAny_While ?_)
  refine codeAny_whileLoop (fun m s' => ∃ vars led, J m vars led ∧ (f.upd vars led).Ok X s' ∧ Step f s (f.upd vars led) s') ?_ n ⟨f.vars, f.led, h0, F, .refl⟩
  rintro m s' ⟨vars, led, hJ, F', S'⟩
  obtain ⟨b, ht, hb, hn⟩ := turn m vars led hJ
  refine wpAny_mono (ht A s' _ R F' fun s₁ G₁ F₁ => ?_) (fun _ _ x => x) (fun _ _ x => x.elim)
  have S₁ := S'.trans (Step.grow F' G₁)
  cases b with
  | true =>
    rw [if_pos rfl]
    refine wpAny_mono (hb rfl A s₁ _ R F₁ fun fl vars' led' g s₂ hp F₂ S₂ hg => ?_) (fun _ _ x => x) (fun _ _ x => x.elim)
    have S := S₁.trans S₂
    cases fl with
    | next => cases hg; obtain ⟨j, hj, hJ'⟩ := hp; exact ⟨j, hj, vars', led', hJ', F₂, S⟩
    | cont => cases hg; obtain ⟨j, hj, hJ'⟩ := hp; exact ⟨j, hj, vars', led', hJ', F₂, S⟩
    | brk => cases hg; exact hp A s₂ Q R F₂ fun fl' vars'' led'' g' s₃ hp' F₃ S₃ hg' => hQ fl' vars'' led'' g' s₃ hp' F₃ (S.trans S₃) hg'
    | ret p => obtain ⟨v, rfl, hv⟩ := hg; exact hQ (.ret p) vars' led' _ s₂ hp F₂ S ⟨v, rfl, hv⟩
  | false =>
    rw [if_neg Bool.false_ne_true]
    exact wpAny_execs_nil (hn rfl A s₁ Q R F₁ fun fl' vars'' led'' g' s₃ hp' F₃ S₃ hg' => hQ fl' vars'' led'' g' s₃ hp' F₃ (S₁.trans S₃) hg')
theorem WS.brk {pos : Pos} {rest : List Stmt} {Ψ} (h : Ψ .brk f.vars f.led) : WS X k f (.Break pos :: rest) Ψ := fun A s Q R F hQ =>
  wpAny_execs_cons (fun _ _ _ => hQ .brk _ _ _ s h F .refl rfl)

/-- weakening what is known of the names -/
theorem FS.Ok.forget {s : Shared} {vars : List (Str × PV)} (F : f.Ok X s) (h : ∀ x p, vars.lookup x = some p → f.vars.lookup x = some p) : (f.upd vars f.led).Ok X s where
  grow := F.grow
  muLt := F.muLt
  mu33 := F.mu33
  mu85 := F.mu85
  mfr := F.mfr
  apart := F.apart
  fresh := F.fresh
  solid := F.solid
  cellv := F.cellv
  locs := F.locs
  kind := F.kind
  glob := F.glob
  blt := F.blt
  hlow := F.hlow
  ns := let ⟨m, hn, hv⟩ := F.ns; ⟨m, hn, fun x p hx hk => hv x p (h x p hx) hk⟩
  cell := fun x p hx hk => F.cell x p (h x p hx) hk
  led := F.led
theorem WS.forget {st : List Stmt} {Ψ} (vars : List (Str × PV)) (h : ∀ x p, vars.lookup x = some p → f.vars.lookup x = some p) (hw : WS X k (f.upd vars f.led) st Ψ) : WS X k f st Ψ :=
  fun A s Q R F hQ => hw A s Q R (F.forget h) fun fl vars' led' g s' hp F' S' hg => hQ fl vars' led' g s' hp F' ⟨S'.keep, S'.mu, S'.led, S'.own, S'.solid⟩ hg

noncomputable def Subv : List (Str × PV) → List (Str × PV) → Prop
  | [], _ => True
  | (x, p) :: r, vars => vars.lookup x = some p ∧ Subv r vars
theorem Subv.look : ∀ {V vars : List (Str × PV)}, Subv V vars → ∀ x p, V.lookup x = some p → vars.lookup x = some p
  | (y, q) :: r, vars, h, x, p, e => by
    rw [List.lookup_cons] at e
    cases hb : x == y with
    | true => rw [hb] at e; cases e; rw [beq_iff_eq.mp hb]; exact h.1
    | false => rw [hb] at e; exact Subv.look h.2 x p e
/-- one statement, and what is known behind it -/
theorem WS.cut {st : Stmt} {rest : List Stmt} {Ψ} (V : List (Str × PV)) (L : List (Addr × MO)) (h1 : WS X k f [st] (fun fl vars led => fl = .next ∧ Subv V vars ∧ led = L)) (h2 : WS X k (f.upd V L) rest Ψ) : WS X k f (st :: rest) Ψ := fun A s Q R F hQ => by
  refine wpAny_execs_cons ?_
  have h := h1 A s (fun g s' => match g with | .next => wpAny (Mo X) A (execs rest f.env) Q (fun _ _ => False) s' | g => Q g s') R F fun fl vars led g s' hp F' S' hg => by
    obtain ⟨rfl, hs, rfl⟩ := hp
    cases hg
    have F2 : (f.upd V led).Ok X s' := FS.Ok.forget (f := f.upd vars led) (vars := V) F' hs.look
    exact h2 A s' Q R F2 fun fl' vars' led' g' s'' hp' F'' S'' hg' => hQ fl' vars' led' g' s'' hp' F'' ((⟨S'.keep, S'.mu, S'.led, S'.own, S'.solid⟩ : Step f s (f.upd V led) s').trans S'') hg'
  intro Γ p hΓ
  have h' := h Γ p hΓ
  rw [execs_cons, Sem.wp_bind'] at h'
  refine Sem.wp_mono (Mo X) Γ (exec st f.env) (fun g p' s' hg => ?_) (fun _ _ _ x => x) p s h'
  cases g <;> exact hg
/-- what is asked behind, under a name -/
theorem WS.hide {st : List Stmt} {Φ : Fl → List (Str × PV) → List (Addr × MO) → Prop} (h : ∀ Ψ : Fl → List (Str × PV) → List (Addr × MO) → Prop, (∀ fl V L, Φ fl V L → Ψ fl V L) → WS X k f st Ψ) : WS X k f st Φ := h Φ fun _ _ _ h => h
theorem Ev.of {e : Expr} {p q : PV} (h : Ev X k f e p) (hq : p = q) : Ev X k f e q := hq ▸ h
theorem Tv.of {e : Expr} {p q : Bool} (h : Tv X k f e p) (hq : p = q) : Tv X k f e q := hq ▸ h

section
variable {hs : Shared} {mu : Addr → Prop} {env : Env} {vars : List (Str × PV)} {own : List Addr} {led : List (Addr × MO)} {Ψ : Fl → List (Str × PV) → List (Addr × MO) → Prop} {rest : List Stmt}
theorem wNil (h : Ψ .next vars led) : WS X k ⟨hs, mu, env, vars, own, led⟩ [] Ψ := WS.nil h
theorem wAssign {x : Str} {p1 p2 : Pos} {e : Expr} {p : PV} (he : Ev X k ⟨hs, mu, env, vars, own, led⟩ e p) (S : Stores ⟨hs, mu, env, vars, own, led⟩ x)
    (h : WS X k ⟨hs, mu, env, (x, p) :: vars, own, led⟩ rest Ψ) (hsw : swapsWith e (some (.Name x p1)) p2.line env = pure false := by rfl) : WS X k ⟨hs, mu, env, vars, own, led⟩ (.Assign [.Name x p1] e p2 :: rest) Ψ := WS.assign he S h hsw
theorem wAug {x : Str} {p1 p2 : Pos} {op : Operator} {e : Expr} {p q r : PV} (hx : vars.lookup x = some p) (hl : env.kindOf x = some .local) (he : Ev X k ⟨hs, mu, env, vars, own, led⟩ e q) (ho : Op2 X k p q (inplaceOp op) r)
    (h : WS X k ⟨hs, mu, env, (x, r) :: vars, own, led⟩ rest Ψ) : WS X k ⟨hs, mu, env, vars, own, led⟩ (.AugAssign (.Name x p1) op e p2 :: rest) Ψ := WS.aug (f := ⟨hs, mu, env, vars, own, led⟩) hx hl he ho h
theorem wRet {e : Expr} {pos : Pos} {p : PV} (he : Ev X k ⟨hs, mu, env, vars, own, led⟩ e p) (h : Ψ (.ret p) vars led) : WS X k ⟨hs, mu, env, vars, own, led⟩ (.Return (some e) pos :: rest) Ψ := WS.ret he h
theorem wIte {t : Expr} {b : Bool} {body orelse : List Stmt} {pos : Pos} (ht : Tv X k ⟨hs, mu, env, vars, own, led⟩ t b)
    (h1 : b = true → WS X k ⟨hs, mu, env, vars, own, led⟩ body (Aft X k hs mu env own rest Ψ))
    (h2 : b = false → WS X k ⟨hs, mu, env, vars, own, led⟩ orelse (Aft X k hs mu env own rest Ψ)) :
    WS X k ⟨hs, mu, env, vars, own, led⟩ (.If t body orelse pos :: rest) Ψ := WS.ite ht h1 h2
theorem wT {t : Expr} {body orelse : List Stmt} {pos : Pos} (ht : Tv X k ⟨hs, mu, env, vars, own, led⟩ t true)
    (h1 : WS X k ⟨hs, mu, env, vars, own, led⟩ body (Aft X k hs mu env own rest Ψ)) :
    WS X k ⟨hs, mu, env, vars, own, led⟩ (.If t body orelse pos :: rest) Ψ := wIte ht (fun _ => h1) (fun e => by cases e)
theorem wF {t : Expr} {body orelse : List Stmt} {pos : Pos} (ht : Tv X k ⟨hs, mu, env, vars, own, led⟩ t false)
    (h1 : WS X k ⟨hs, mu, env, vars, own, led⟩ orelse (Aft X k hs mu env own rest Ψ)) :
    WS X k ⟨hs, mu, env, vars, own, led⟩ (.If t body orelse pos :: rest) Ψ := wIte ht (fun e => by cases e) (fun _ => h1)
theorem wWhile {t : Expr} {body : List Stmt} {pos : Pos} (J : Nat → List (Str × PV) → List (Addr × MO) → Prop) (n : Nat) (h0 : J n vars led)
    (turn : ∀ n vars led, J n vars led → ∃ b, Tv X k ⟨hs, mu, env, vars, own, led⟩ t b ∧
      (b = true → WS X k ⟨hs, mu, env, vars, own, led⟩ body (Turn X k hs mu env own J n rest Ψ)) ∧
      (b = false → WS X k ⟨hs, mu, env, vars, own, led⟩ rest Ψ)) : WS X k ⟨hs, mu, env, vars, own, led⟩ (.While t body [] pos :: rest) Ψ := WS.while (f := ⟨hs, mu, env, vars, own, led⟩) J n h0 turn
theorem wBrk {pos : Pos} (h : Ψ .brk vars led) : WS X k ⟨hs, mu, env, vars, own, led⟩ (.Break pos :: rest) Ψ := WS.brk h
theorem wCut {st : Stmt} (V : List (Str × PV)) (L : List (Addr × MO)) (h1 : WS X k ⟨hs, mu, env, vars, own, led⟩ [st] (fun fl vars led => fl = .next ∧ Subv V vars ∧ led = L)) (h2 : WS X k ⟨hs, mu, env, V, own, L⟩ rest Ψ) :
    WS X k ⟨hs, mu, env, vars, own, led⟩ (st :: rest) Ψ := WS.cut V L h1 h2
theorem wForget {st : List Stmt} (V : List (Str × PV)) (h : Subv V vars) (hw : WS X k ⟨hs, mu, env, V, own, led⟩ st Ψ) : WS X k ⟨hs, mu, env, vars, own, led⟩ st Ψ := WS.forget V h.look hw
end
theorem Op2.of {p q r r' : PV} {t : Value → Value → Sem Value} (h : Op2 X k p q t r) (e : r = r') : Op2 X k p q t r' := e ▸ h
theorem OpN.of {ps : List PV} {r r' : PV} {t : List Value → Sem Value} (h : OpN X k ps t r) (e : r = r') : OpN X k ps t r' := e ▸ h
end
section
variable {X : Wd} {k : Nat} {f : FS}

noncomputable def Iterish (h : Heap) (b : Addr) : Prop := ∃ o, h.get? b = some o ∧ ((∃ vs, o.data = .fields vs ∧ ∀ q t, vs[1]? ≠ some (.str q t)) ∨ ∃ vs n, o.data = .seq vs n)
theorem Iterish.loose {h : Heap} {b : Addr} {o : Obj} (x : Iterish h b) (e : h.get? b = some o) : ¬ Loose o := fun l => by
  obtain ⟨o', e', d⟩ := x
  rw [e] at e'; cases e'
  rcases l with ⟨_, _, q⟩ | ⟨_, q⟩ <;> rcases d with ⟨_, d, _⟩ | ⟨_, _, d⟩ <;> rw [d] at q <;> cases q
theorem Iterish.notNs {h : Heap} {b : Addr} {m} (x : Iterish h b) : ¬ h.Ns b m := fun ⟨o', es, ep, e', d', _⟩ => x.loose e' (.inl ⟨_, _, d'⟩)
theorem Iterish.notCell {h : Heap} {b : Addr} {v} (x : Iterish h b) : ¬ h.IsCell b v := fun ⟨o', e', d'⟩ => x.loose e' (.inr ⟨_, d'⟩)
theorem Iterish.notCode {h : Heap} {b : Addr} {o : Obj} {vs q t} (x : Iterish h b) (e : h.get? b = some o) (d : o.data = .fields vs) : vs[1]? ≠ some (.str q t) := by
  obtain ⟨o', e', d'⟩ := x
  rw [e] at e'; cases e'
  rcases d' with ⟨_, d', n⟩ | ⟨_, _, d'⟩ <;> rw [d] at d' <;> cases d'
  exact n _ _

theorem Live.updL {h h' : Heap} {wr : List Addr} (l : Live X h) (ha : ∀ a ∈ wr, X.H.get? a = none) (nt : ∀ a ∈ wr, ¬ isCT a) (nc : ∀ a ∈ wr, Iterish h a) (hs : ∀ b o, b ∉ wr → h.get? b = some o → h'.get? b = some o) (hz : X.H.objs.size ≤ h'.objs.size) : Live X h' where
  old := fun b o e => hs b o (fun q => by rw [ha b q] at e; cases e) (l.old b o e)
  t33 := by
    obtain ⟨ps, e, t, c⟩ := l.t33
    refine ⟨ps, hs 33 _ (fun q => nt 33 q (.inl rfl)) e, t, fun pos cv q => ?_⟩
    obtain ⟨cc, o, vs, tt, e1, e2, e3, e4⟩ := c pos cv q
    exact ⟨cc, o, vs, tt, e1, hs cc o (fun z => (nc cc z).notCode e2 e3 e4) e2, e3, e4⟩
  t85 := let ⟨ps, e, t, c⟩ := l.t85; ⟨ps, hs 85 _ (fun q => nt 85 q (.inr rfl)) e, t, c⟩
  low := hz
  frs := fun env he => by
    obtain ⟨q1, L, m, q2, q3, q4⟩ := l.frs env he
    exact ⟨q1, L, m, q2, q3, q4.at' fun o e => hs L o (fun q => (nc L q).notNs q4) e⟩

/-- a walk's own objects have turned -/
theorem FS.Ok.walked {s : Shared} {wr own' : List Addr} {h' : Heap} {t : Nat} (F : f.Ok X s) (hw : ∀ b ∈ wr, b ∈ f.own) (hk : ∀ b o, b ∉ wr → s.heap.get? b = some o → h'.get? b = some o) (nc : ∀ b ∈ wr, Iterish s.heap b)
    (ho : own'.Sublist f.own) (hex : ∀ b ∈ own', b ∈ wr → Solid h' b) (hL : f.env.locals ∈ own') (hfr : ∀ b ∈ f.own, b ∉ wr → b ∈ own') : ({ f with own := own' } : FS).Ok X { s with heap := h', toks := t } := by
  have hmw : ∀ b ∈ wr, f.mu' b := fun b hb => .inr (.inl (hw b hb))
  have hsub : ∀ b, FS.mu' { f with own := own' } b → f.mu' b := fun b hb => by
    rcases hb with h | h | h
    · exact .inl h
    · exact .inr (.inl (ho.subset h))
    · exact .inr (.inr h)
  have tr : ∀ {p v}, Rd s.heap f.mu' p v → Rd h' (FS.mu' { f with own := own' }) p v := fun x => x.mono fun b o hb e => ⟨hk b o (fun q => hb (hmw b q)) e, fun h => hb (hsub b h)⟩
  have trL : ∀ {p v}, RdL s.heap f.mu' p v → RdL h' (FS.mu' { f with own := own' }) p v := fun x => x.mono fun b o hb e => ⟨hk b o (fun q => hb (hmw b q)) e, fun h => hb (hsub b h)⟩
  have hown : ∀ b ∈ wr, b ∈ f.own ++ f.led.map (·.1) := fun b hb => List.mem_append_left _ (hw b hb)
  have hled : ∀ b ∈ f.led.map (·.1), b ∉ wr := fun b hb q => (List.nodup_append.mp F.apart).2.2 b (hw b q) b hb rfl
  have solid : ∀ b ∈ own' ++ f.led.map (·.1), Solid h' b := fun b hb => by
    rcases List.mem_append.mp hb with h | h
    · by_cases q : b ∈ wr
      · exact hex b h q
      · exact (F.solid b (List.mem_append_left _ (ho.subset h))).of fun o e => hk b o q e
    · exact (F.solid b (List.mem_append_right _ h)).of fun o e => hk b o (hled b h) e
  have hz : f.hs.heap.objs.size ≤ h'.objs.size := Nat.le_of_lt (Nat.lt_of_le_of_lt (F.fresh _ (List.mem_append_left _ F.locs)).1 (solid _ (List.mem_append_left _ hL)).lt)
  have live : Live X h' := F.live.updL (fun a ha => none_of_le (Nat.le_trans F.hlow (F.fresh a (hown a ha)).1)) (fun a ha => own_not_ct F (hown a ha)) nc hk (Nat.le_trans F.hlow hz)
  obtain ⟨m, hn, hv⟩ := F.ns
  have hLw : f.env.locals ∉ wr := fun q => (nc _ q).notNs hn
  exact {
    grow := ⟨live, fun b o ht e => hk b o (fun q => by rw [none_of_le (F.fresh b (hown b q)).1] at e; cases e) (F.grow.keep b o ht e), hz, F.grow.os, fun b m hb hn => (F.grow.frm b m hb hn).at' fun o e => hk b o (fun q => (nc b q).notNs (F.grow.frm b m hb hn)) e, F.grow.gens⟩
    muLt := F.muLt, mu33 := F.mu33, mu85 := F.mu85, mfr := fun b hb => (F.mfr b hb).elim .inl fun h => .inr (hfr b h fun q => (nc b q).notNs (F.live.fr hb).2.choose_spec), kind := F.kind, glob := F.glob, blt := F.blt, hlow := F.hlow
    apart := F.apart.sublist (ho.append (List.Sublist.refl _))
    locs := hL
    fresh := fun b hb => by
      refine ⟨?_, (solid b hb).lt⟩
      rcases List.mem_append.mp hb with h | h
      · exact (F.fresh b (List.mem_append_left _ (ho.subset h))).1
      · exact (F.fresh b (List.mem_append_right _ h)).1
    ns := ⟨m, hn.at' fun o e => hk _ o hLw e, fun x p hx hk' => let ⟨v, a, b⟩ := hv x p hx hk'; ⟨v, a, tr b⟩⟩
    cell := fun x p hx hk' => by
      obtain ⟨c, v, hc, hcv, hr⟩ := F.cell x p hx hk'
      exact ⟨c, v, hc, IsCell_of hcv fun o e => hk c o (fun q => (nc c q).notCell hcv) e, tr hr⟩
    led := fun a mo hm => by
      have hne : a ∉ wr := hled a (List.mem_map_of_mem (f := (·.1)) hm)
      have := F.led a mo hm
      cases mo with
      | lst xs => obtain ⟨o, vs, n, e, h2, h3, h4⟩ := this; exact ⟨o, vs, n, hk a o hne e, h2, h3, trL h4⟩
      | obj o => exact hk a o hne this
    solid := solid
    cellv := fun n c hc => let ⟨v, hv⟩ := F.cellv n c hc; ⟨v, IsCell_of hv fun o e => hk c o (fun q => (nc c q).notCell hv) e⟩ }

/-- fresh objects are reserved -/
theorem FS.Ok.reserve {s s₁ : Shared} {wr : List Addr} (F : f.Ok X s) (G : Grow X s s₁) (h1 : ∀ b ∈ wr, s.heap.objs.size ≤ b ∧ b < s₁.heap.objs.size) (hn : wr.Nodup) (hS : ∀ b ∈ wr, Solid s₁.heap b) : ({ f with own := wr ++ f.own } : FS).Ok X s₁ := by
  have F₁ := F.grown F.live G
  have wk : ∀ b, FS.mu' { f with own := wr ++ f.own } b → f.mu' b ∨ s.heap.get? b = none := fun b hb => by
    rcases hb with h | h | h
    · exact .inl (.inl h)
    · rcases List.mem_append.mp h with h | h
      · exact .inr (none_of_le (h1 b h).1)
      · exact .inl (.inr (.inl h))
    · exact .inl (.inr (.inr h))
  have tr : ∀ {p v}, Rd s.heap f.mu' p v → Rd s₁.heap (FS.mu' { f with own := wr ++ f.own }) p v := fun x => (x.weak wk).grow (fun b ht => (F.mtab b ht).elim .inl fun h => .inr (h.elim (fun h => .inl (List.mem_append_right _ h)) .inr)) G
  have trL : ∀ {p v}, RdL s.heap f.mu' p v → RdL s₁.heap (FS.mu' { f with own := wr ++ f.own }) p v := fun x => (x.weak wk).grow (fun b ht => (F.mtab b ht).elim .inl fun h => .inr (h.elim (fun h => .inl (List.mem_append_right _ h)) .inr)) G
  have up : ∀ b ∈ f.own ++ f.led.map (·.1), b < s.heap.objs.size := fun b hb => (F.fresh b hb).2
  exact {
    grow := F₁.grow
    muLt := F.muLt, mu33 := F.mu33, mu85 := F.mu85, mfr := fun b hb => (F.mfr b hb).elim .inl fun h => .inr (List.mem_append_right _ h), kind := F.kind, glob := F.glob, blt := F.blt, hlow := F.hlow
    locs := List.mem_append_right _ F.locs
    apart := by
      show (wr ++ f.own ++ f.led.map (·.1)).Nodup
      rw [List.append_assoc]
      exact List.nodup_append.mpr ⟨hn, F.apart, fun a ha b hb e => by subst e; exact Nat.lt_irrefl _ (Nat.lt_of_lt_of_le (up a hb) (h1 a ha).1)⟩
    fresh := fun b hb => by
      have hb : b ∈ wr ++ f.own ++ f.led.map (·.1) := hb
      rw [List.append_assoc] at hb
      rcases List.mem_append.mp hb with h | h
      · exact ⟨Nat.le_trans F.grow.size (h1 b h).1, (h1 b h).2⟩
      · exact F₁.fresh b h
    ns := by
      obtain ⟨m, hn', hv⟩ := F.ns
      refine ⟨m, G.ns F.live hn', fun x p hx hk => ?_⟩
      obtain ⟨v, a, b⟩ := hv x p hx hk
      exact ⟨v, a, tr b⟩
    cell := fun x p hx hk => by
      obtain ⟨c, v, hc, hcv, hr⟩ := F.cell x p hx hk
      exact ⟨c, v, hc, IsCell_of hcv fun o e => G.keep c o (tab_not_cell F.live hcv) e, tr hr⟩
    led := fun a mo hm => by
      have nt := led_not_tab F (List.mem_map_of_mem (f := (·.1)) hm)
      have := F.led a mo hm
      cases mo with
      | lst xs => obtain ⟨o, vs, n, e, h2, h3, h4⟩ := this; exact ⟨o, vs, n, G.keep a o nt e, h2, h3, trL h4⟩
      | obj o => exact G.keep a o nt this
    solid := fun b hb => by
      have hb : b ∈ wr ++ f.own ++ f.led.map (·.1) := hb
      rw [List.append_assoc] at hb
      rcases List.mem_append.mp hb with h | h
      · exact hS b h
      · exact F₁.solid b h
    cellv := F₁.cellv }

inductive LedSet (a : Addr) (m m' : MO) : List (Addr × MO) → List (Addr × MO) → Prop
  | here {r} : LedSet a m m' ((a, m) :: r) ((a, m') :: r)
  | there {e r r'} : LedSet a m m' r r' → LedSet a m m' (e :: r) (e :: r')
theorem LedSet.keys {a m m' l l'} (h : LedSet a m m' l l') : l'.map (·.1) = l.map (·.1) := by
  induction h with
  | here => rfl
  | there _ ih => simp [ih]
theorem LedSet.mem {a m m' l l'} (h : LedSet a m m' l l') : (a, m) ∈ l := by
  induction h with
  | here => exact .head _
  | there _ ih => exact .tail _ ih
theorem LedSet.of {a m m' l l'} (h : LedSet a m m' l l') (hnd : (l.map (·.1)).Nodup) : ∀ b mo, (b, mo) ∈ l' → (b = a ∧ mo = m') ∨ (b ≠ a ∧ (b, mo) ∈ l) := by
  induction h with
  | @here r =>
    intro b mo hb
    have := List.nodup_cons.mp hnd
    rcases List.mem_cons.mp hb with e | hb
    · cases e; exact .inl ⟨rfl, rfl⟩
    · exact .inr ⟨fun q => this.1 (q ▸ List.mem_map_of_mem (f := (·.1)) hb), .tail _ hb⟩
  | @there e r r' h ih =>
    intro b mo hb
    have := List.nodup_cons.mp hnd
    rcases List.mem_cons.mp hb with q | hb
    · refine .inr ⟨fun z => ?_, q ▸ .head _⟩
      subst q
      have hm : a ∈ r.map (·.1) := List.mem_map_of_mem (f := (·.1)) h.mem
      exact this.1 (show b ∈ r.map (·.1) from z ▸ hm)
    · rcases ih this.2 b mo hb with q | ⟨q1, q2⟩
      · exact .inl q
      · exact .inr ⟨q1, .tail _ q2⟩

/-- a list of the frame's own has turned -/
theorem FS.Ok.setLed {s : Shared} {a : Addr} {xs ys : List PV} {led' : List (Addr × MO)} {h' : Heap} {t : Nat} (F : f.Ok X s) (hl : LedSet a (.lst xs) (.lst ys) f.led led') (hs : Heap.SameBut a s.heap h')
    (hn : ∃ o vs n, h'.get? a = some o ∧ (o.cls = .type "list" ∧ o.dict = none) ∧ o.data = .seq vs n ∧ RdL s.heap f.mu' ys vs.toList) :
    (f.upd f.vars led').Ok X { s with heap := h', toks := t } ∧ Step f s (f.upd f.vars led') { s with heap := h', toks := t } := by
  have ha : a ∈ f.own ++ f.led.map (·.1) := List.mem_append_right _ (List.mem_map_of_mem (f := (·.1)) hl.mem)
  have hmu := mu_of_own ha
  have nc : NotCode s.heap a := fun o vs q tt e d => by
    obtain ⟨o', vs', n, e', _, d', _⟩ := F.led a _ hl.mem
    rw [e] at e'; cases e'; rw [d] at d'; cases d'
  have hmeq : ∀ b, (f.upd f.vars led').mu' b ↔ f.mu' b := fun b => by
    show (f.mu b ∨ b ∈ f.own ∨ b ∈ led'.map (·.1)) ↔ (f.mu b ∨ b ∈ f.own ∨ b ∈ f.led.map (·.1))
    rw [hl.keys]
  have tr : ∀ {p v}, Rd s.heap f.mu' p v → Rd h' (f.upd f.vars led').mu' p v := fun x => x.mono fun b o hb e => ⟨(hs.2 b fun q => hb (q ▸ hmu)).trans e, fun h => hb ((hmeq b).mp h)⟩
  have trL : ∀ {p v}, RdL s.heap f.mu' p v → RdL h' (f.upd f.vars led').mu' p v := fun x => x.mono fun b o hb e => ⟨(hs.2 b fun q => hb (q ▸ hmu)).trans e, fun h => hb ((hmeq b).mp h)⟩
  have hkeys : f.own ++ led'.map (·.1) = f.own ++ f.led.map (·.1) := by rw [hl.keys]
  refine ⟨{
    grow := F.change ha hs nc fun q => absurd q (led_not_fr F (List.mem_map_of_mem (f := (·.1)) hl.mem))
    muLt := F.muLt, mu33 := F.mu33, mu85 := F.mu85, mfr := F.mfr, kind := F.kind, glob := F.glob, blt := F.blt, hlow := F.hlow
    locs := F.locs
    apart := by show (f.own ++ led'.map (·.1)).Nodup; rw [hkeys]; exact F.apart
    fresh := fun b hb => by
      have hb : b ∈ f.own ++ led'.map (·.1) := hb
      rw [hkeys] at hb
      exact ⟨(F.fresh b hb).1, (by show b < h'.objs.size; rw [hs.1]; exact (F.fresh b hb).2)⟩
    ns := by
      obtain ⟨m, hn', hv⟩ := F.ns
      have hne : f.env.locals ≠ a := fun q => (List.nodup_append.mp F.apart).2.2 _ F.locs a (List.mem_map_of_mem (f := (·.1)) hl.mem) q
      exact ⟨m, hn'.sameBut hs hne, fun x p hx hk => let ⟨v, c, d⟩ := hv x p hx hk; ⟨v, c, tr d⟩⟩
    cell := fun x p hx hk => by
      obtain ⟨c, v, hc, hcv, hr⟩ := F.cell x p hx hk
      refine ⟨c, v, hc, hcv.sameBut hs fun q => ?_, tr hr⟩
      obtain ⟨o', vs', n, e', _, d', _⟩ := F.led a _ hl.mem
      obtain ⟨o, e, d⟩ := hcv
      rw [q, e'] at e; cases e; rw [d'] at d; cases d
    led := fun b mo hb => by
      rcases hl.of (List.nodup_append.mp F.apart).2.1 b mo hb with ⟨rfl, rfl⟩ | ⟨hne, hm⟩
      · obtain ⟨o, vs, n, h1, h2, h3, h4⟩ := hn
        exact ⟨o, vs, n, h1, h2, h3, trL h4⟩
      · have := F.led b mo hm
        cases mo with
        | lst zs => obtain ⟨o, vs, n, e, h2, h3, h4⟩ := this; exact ⟨o, vs, n, (hs.2 b hne).trans e, h2, h3, trL h4⟩
        | obj o => exact (hs.2 b hne).trans this
    solid := fun b hb => by
      have hb : b ∈ f.own ++ led'.map (·.1) := hb
      rw [hkeys] at hb
      by_cases e : b = a
      · obtain ⟨o, vs, n, h1, h2, h3, h4⟩ := hn
        rw [e]; exact .seq h1 h3
      · exact (F.solid b hb).of fun o q => (hs.2 b e).trans q
    cellv := fun n c hc => by
      obtain ⟨v, hv⟩ := F.cellv n c hc
      refine ⟨v, hv.sameBut hs fun q => ?_⟩
      obtain ⟨o', vs', n, e', _, d', _⟩ := F.led a _ hl.mem
      obtain ⟨o, e, d⟩ := hv
      rw [q, e'] at e; cases e; rw [d'] at d; cases d }, ⟨fun b o h1 h2 h3 e => (hs.2 b fun q => h2 (q ▸ List.mem_map_of_mem (f := (·.1)) hl.mem)).trans e, fun _ h => h, fun b hb => .inl (by rw [← hl.keys]; exact hb), fun _ h => .inl h, solid_but hs (let ⟨o, _, _, e, _⟩ := hn; ⟨o, e⟩)⟩⟩

theorem append_led {A s} {a : Addr} {xs : List PV} {p : PV} {v : Value} {led' : List (Addr × MO)} {Q : Value → Shared → Prop} (F : f.Ok X s) (hl : LedSet a (.lst xs) (.lst (xs ++ [p])) f.led led') (hv : Rd s.heap f.mu' p v) (hz : xs.length ≤ sizeLine)
    (h : ∀ s', (f.upd f.vars led').Ok X s' → Step f s (f.upd f.vars led') s' → Q .none s') : wpAny (Mo X) A (call (.builtin "list.append") [.ref a, v]) Q (fun _ _ => False) s := by
  obtain ⟨o, vs, n, h1, h2, h3, h4⟩ := F.led a _ hl.mem
  refine list_append_plainL (its := vs) ⟨o, n, h1, h2.1, h2.2, h3⟩ (fun h' hl' hs => ?_) (by rw [h4.size]; exact hz)
  obtain ⟨o', n', e1, e2, e4, e3⟩ := hl'
  have := F.setLed (t := s.toks) hl hs ⟨o', _, n', e1, ⟨e2, e4⟩, e3, by rw [Array.toList_push]; exact h4.append (RdL.one hv)⟩
  exact h _ this.1 this.2
end
section
variable {X : Wd} {k : Nat} {f : FS}

/-- something that is gone over, drawn into a target -/
structure Itr (X : Wd) (A : Around) (tgt : Expr) (s₁ s₂ : Shared) (mu : Addr → Prop) (I : Addr) (fp wr : List Addr) (items : List PV) (St : Nat → Heap → Prop) (Mid : Nat → Value → Heap → Prop) : Prop where
  item : ∀ i p (nu : Addr → Prop) (s : Shared) (Q : Option Value → Shared → Prop), items[i]? = some p → St i s.heap → (∀ b o, ¬ mu b → s₁.heap.get? b = some o → s.heap.get? b = some o ∧ ¬ nu b) → (∀ b, nu b → b < s.heap.objs.size) →
    (∀ v h' tk, Mid i v h' → Rd h' (fun b => nu b ∨ b ∈ wr) p v → (∀ b o, b ∉ wr → s.heap.get? b = some o → h'.get? b = some o) → Q (some v) { s with heap := h', toks := tk }) → wpAny (Mo X) A (pyNext (.ref I)) Q (fun _ _ => False) s
  go : ∀ i v (s : Shared) (Q : Unit → Shared → Prop), Mid i v s.heap → (∀ h' tk, St (i + 1) h' → (∀ b o, b ∉ wr → s.heap.get? b = some o → h'.get? b = some o) → Q () { s with heap := h', toks := tk }) → wpAny (Mo X) A (letOwnedTupleGo tgt (.ref I) v) Q (fun _ _ => False) s
  done : ∀ (s : Shared) (Q : Option Value → Shared → Prop), St items.length s.heap → (∀ h' tk, (∀ b o, b ∉ wr → s.heap.get? b = some o → h'.get? b = some o) → Q none { s with heap := h', toks := tk }) → wpAny (Mo X) A (pyNext (.ref I)) Q (fun _ _ => False) s
  self : ∀ i (s : Shared) (Q : Value → Shared → Prop) (E : Value → Shared → Prop), St i s.heap → Q (.ref I) s → wpAny (Mo X) A (pyIter (.ref I)) Q E s
  frame : ∀ i h h', St i h → (∀ b ∈ fp, ∀ o, h.get? b = some o → h'.get? b = some o) → St i h'
  sub : ∀ b ∈ wr, b ∈ fp
  odd : ∀ i h, St i h → ∀ b ∈ wr, Iterish h b
  oddM : ∀ i v h, Mid i v h → ∀ b ∈ wr, Iterish h b
  nd : wr.Nodup
  st : St 0 s₂.heap
  new : ∀ b ∈ wr, s₁.heap.objs.size ≤ b ∧ b < s₂.heap.objs.size
  foot : ∀ b ∈ fp, Solid s₂.heap b ∧ ¬ mu b
  ne : wr ≠ []

/-- what a walk of the library's gives, for a target that is a name -/
theorem Itr.ofW {A : Around} {x : Str} {px : Pos} {s₁ s₂ : Shared} {mu : Addr → Prop} {I : Addr} {fp wr : List Addr} {items : List PV} {P : Nat → Value → Prop} {St : Nat → Heap → Prop}
    (W : Walks prog X.w A I fp wr items.length P St) (val : ∀ i p v, items[i]? = some p → P i v → Rd s₁.heap mu p v) (odd : ∀ i h, St i h → ∀ b ∈ wr, Iterish h b) (nd : wr.Nodup) (st : St 0 s₂.heap)
    (new : ∀ b ∈ wr, s₁.heap.objs.size ≤ b ∧ b < s₂.heap.objs.size) (foot : ∀ b ∈ fp, Solid s₂.heap b ∧ ¬ mu b) (ne : wr ≠ []) : Itr X A (.Name x px) s₁ s₂ mu I fp wr items St (fun i _ h => St (i + 1) h) where
  item := fun i p nu s Q hp hst hkk _ hQ => by
    have hlt : i < items.length := (List.getElem?_eq_some_iff.mp hp).1
    refine W.item i s Q _ hlt hst fun v h' tk hP st' hk => hQ v h' tk st' ?_ hk
    refine (val i p v hp hP).mono fun b o hb e => ⟨?_, fun h => h.elim (hkk b o hb e).2 fun hw => Nat.lt_irrefl _ (Nat.lt_of_lt_of_le (Heap.lt_size e) (new b hw).1)⟩
    exact hk b o (fun hw => Nat.lt_irrefl _ (Nat.lt_of_lt_of_le (Heap.lt_size e) (new b hw).1)) (hkk b o hb e).1
  go := fun i v s Q hm hQ => wpAny_pure (hQ s.heap s.toks hm fun _ _ _ e => e)
  done := fun s Q hst hQ => W.done s Q _ hst hQ
  self := W.self
  frame := W.frame
  sub := W.sub
  odd := odd
  oddM := fun i v h hm => odd _ _ hm
  nd := nd
  st := st
  new := new
  foot := foot
  ne := ne

/-- something to go over -/
noncomputable def Src (X : Wd) (k : Nat) (f : FS) (tgt e : Expr) (items : List PV) : Prop :=
  ∀ A s (Q : Value → Shared → Prop), Room X A k → f.Ok X s → (∀ I fp wr St Mid s₁ s₂, Grow X s s₁ → f.Ok X s₁ → Grow X s₁ s₂ → Itr X A tgt s₁ s₂ f.mu' I fp wr items St Mid → Q (.ref I) s₂) →
    wpAny (Mo X) A (eval e f.env) (fun v s₁ => wpAny (Mo X) A (pyIter v) Q (fun _ _ => False) s₁) (fun _ _ => False) s

theorem Src.lst {e : Expr} {xs : List PV} {x : Str} {px : Pos} (h : Ev X k f e (.lst xs)) : Src X k f (.Name x px) e xs := by
  intro A s Q R F hQ
  refine h A s _ R F fun v s₁ G₁ F₁ h₁ => ?_
  obtain ⟨a, o, vs, n, rfl, hm, h1, h2, h3, h4⟩ := h₁
  have hL : s₁.heap.IsList a vs := ⟨o, h1, h2, n, h3⟩
  have ha := Heap.lt_size h1
  refine wpAny_pyIter_list hL ?_
  have G₂ : Grow X s₁ { s₁ with heap := s₁.heap.push { cls := .type "list_iterator", data := .fields #[.ref a, .int 0 0] } } := .push F₁.live
  have F₂ := F₁.grown F₁.live G₂
  have hW := Walks.list (prog := prog) (w := X.w) R.hd s₁.heap.objs.size a (Nat.ne_of_lt ha) vs
  rw [h4.size] at hW
  refine hQ s₁.heap.objs.size _ _ _ _ s₁ _ G₁ F₁ G₂ (Itr.ofW hW (fun i p v hp hv => ?_) (fun i h st b hb => ?_) (by simp) ⟨⟨_, Heap.get?_push_size _ rfl, rfl, rfl⟩, hL.push _⟩ (fun b hb => ?_) (fun b hb => ?_) (by simp))
  · obtain ⟨u, hu, hr⟩ := h4.get hp
    rw [Array.getElem?_toList, hv] at hu; cases hu
    exact hr
  · simp only [List.mem_singleton] at hb; subst hb
    obtain ⟨⟨o, e1, _, e3⟩, _⟩ := st
    exact ⟨o, e1, .inl ⟨_, e3, fun q t => by simp⟩⟩
  · simp only [List.mem_singleton] at hb; subst hb
    exact ⟨Nat.le_refl _, by show _ < (s₁.heap.push _).objs.size; rw [Heap.size_push]; exact Nat.lt_succ_self _⟩
  · simp only [List.mem_cons, List.not_mem_nil, or_false] at hb
    rcases hb with rfl | rfl
    · exact ⟨⟨_, Heap.get?_push_size _ rfl⟩, F₁.sane.new⟩
    · exact ⟨⟨_, Heap.get?_push_of_some _ h1⟩, hm⟩
theorem Src.tup {e : Expr} {xs : List PV} {x : Str} {px : Pos} (h : Ev X k f e (.tup xs)) : Src X k f (.Name x px) e xs := by
  intro A s Q R F hQ
  refine h A s _ R F fun v s₁ G₁ F₁ h₁ => ?_
  obtain ⟨a, o, vs, n, rfl, hm, h1, h2, h3, h4⟩ := h₁
  have hL : s₁.heap.IsTuple a vs := ⟨o, h1, h2, n, h3⟩
  have ha := Heap.lt_size h1
  refine wpAny_pyIter_tuple hL ?_
  have G₂ : Grow X s₁ { s₁ with heap := s₁.heap.push { cls := .type "tuple_iterator", data := .fields #[.ref a, .int 0 0] } } := .push F₁.live
  have F₂ := F₁.grown F₁.live G₂
  have hW := Walks.tuple (prog := prog) (w := X.w) R.hd s₁.heap.objs.size a (Nat.ne_of_lt ha) vs
  rw [h4.size] at hW
  refine hQ s₁.heap.objs.size _ _ _ _ s₁ _ G₁ F₁ G₂ (Itr.ofW hW (fun i p v hp hv => ?_) (fun i h st b hb => ?_) (by simp) ⟨⟨_, Heap.get?_push_size _ rfl, rfl, rfl⟩, hL.push _⟩ (fun b hb => ?_) (fun b hb => ?_) (by simp))
  · obtain ⟨u, hu, hr⟩ := h4.get hp
    rw [Array.getElem?_toList, hv] at hu; cases hu
    exact hr
  · simp only [List.mem_singleton] at hb; subst hb
    obtain ⟨⟨o, e1, _, e3⟩, _⟩ := st
    exact ⟨o, e1, .inl ⟨_, e3, fun q t => by simp⟩⟩
  · simp only [List.mem_singleton] at hb; subst hb
    exact ⟨Nat.le_refl _, by show _ < (s₁.heap.push _).objs.size; rw [Heap.size_push]; exact Nat.lt_succ_self _⟩
  · simp only [List.mem_cons, List.not_mem_nil, or_false] at hb
    rcases hb with rfl | rfl
    · exact ⟨⟨_, Heap.get?_push_size _ rfl⟩, F₁.sane.new⟩
    · exact ⟨⟨_, Heap.get?_push_of_some _ h1⟩, hm⟩

noncomputable def chars (x : Str) : List PV := x.cps.toList.map fun c => .str ⟨#[c]⟩
theorem Src.str {e : Expr} {x : Str} {y : Str} {px : Pos} (h : Ev X k f e (.str x)) : Src X k f (.Name y px) e (chars x) := by
  intro A s Q R F hQ
  refine h A s _ R F fun v s₁ G₁ F₁ h₁ => ?_
  obtain ⟨t, rfl⟩ := h₁
  have hlen : (chars x).length = x.cps.size := by simp [chars]
  have val : ∀ h0 i p v, (chars x)[i]? = some p → SignAt x i v → Rd h0 f.mu' p v := fun h0 i p v hp ⟨c, u, hc, e⟩ => by
    simp only [chars, List.getElem?_map, Array.getElem?_toList, hc, Option.map_some, Option.some.injEq] at hp
    subst hp; exact ⟨u, e⟩
  have fin : ∀ ty, ∀ W : Walks prog X.w A s₁.heap.objs.size [s₁.heap.objs.size] [s₁.heap.objs.size] x.cps.size (SignAt x) (fun i h => h.IsStrIter s₁.heap.objs.size ty x t i),
      Q (.ref s₁.heap.objs.size) { s₁ with heap := s₁.heap.push { cls := .type ty, data := .fields #[.str x t, rawInt 0] } } := fun ty W => by
    have G₂ : Grow X s₁ { s₁ with heap := s₁.heap.push { cls := .type ty, data := .fields #[.str x t, rawInt 0] } } := .push F₁.live
    have F₂ := F₁.grown F₁.live G₂
    rw [← hlen] at W
    refine hQ s₁.heap.objs.size _ _ _ _ s₁ _ G₁ F₁ G₂ (Itr.ofW W (val _) (fun i h st b hb => ?_) (by simp) ⟨_, Heap.get?_push_size _ rfl, rfl, rfl⟩ (fun b hb => ?_) (fun b hb => ?_) (by simp))
    · simp only [List.mem_singleton] at hb; subst hb
      obtain ⟨o, e1, _, e3⟩ := st
      exact ⟨o, e1, .inl ⟨_, e3, fun q t => by simp [PySem.rawInt]⟩⟩
    · simp only [List.mem_singleton] at hb; subst hb
      exact ⟨Nat.le_refl _, by show _ < (s₁.heap.push _).objs.size; rw [Heap.size_push]; exact Nat.lt_succ_self _⟩
    · simp only [List.mem_singleton] at hb; subst hb
      exact ⟨⟨_, Heap.get?_push_size _ rfl⟩, F₁.sane.new⟩
  cases ha : x.cps.all (· < 128) with
  | true => exact wpAny_pyIter_ascii ha (fin _ (Walks.strAscii R.hd _ x t))
  | false => exact wpAny_pyIter_wide ha (fin _ (Walks.strWide R.hd _ x t))

noncomputable def upto (n : Nat) : List PV := (List.range n).map fun i => .int (i : Nat)

theorem look_cons_ne {x y : Str} {q : PV} {r : List (Str × PV)} (h : x ≠ y) : ((y, q) :: r).lookup x = r.lookup x := by rw [List.lookup_cons, beq_eq_false_iff_ne.mpr h]

/-- a target is bound -/
noncomputable def Binds (X : Wd) (k : Nat) (f : FS) (tgt : Expr) (p : PV) (bs : List (Str × PV)) : Prop :=
  ∀ A s v (Q : Unit → Shared → Prop), Room X A k → f.Ok X s → Rd s.heap f.mu' p v → (∀ s', (f.upd (bs ++ f.vars) f.led).Ok X s' → Step f s (f.upd (bs ++ f.vars) f.led) s' → Q () s') → wpAny (Mo X) A (assign tgt f.env v) Q (fun _ _ => False) s
theorem Binds.name {x : Str} {px : Pos} {p : PV} (S : Stores f x) : Binds X k f (.Name x px) p [(x, p)] := fun A s v Q R F hv hQ => wpAny_assign_Name (store_any S F hv hQ)

theorem tuple_end {A s} {it t : Addr} {i : Nat} {items : Array Value} {Q : Option Value → Shared → Prop} (hh : A.handled = none) (hit : s.heap.IsTupleIter it t i) (ht : s.heap.IsTuple t items) (hx : items[i]? = none)
    (hQ : ∀ h', Heap.ExtBut it s.heap h' → s.heap.objs.size ≤ h'.objs.size → Q none { s with heap := h' }) : wpAny (Mo X) A (pyNext (.ref it)) Q (fun _ _ => False) s := by
  obtain ⟨o, ho, hc, hd⟩ := id hit
  obtain ⟨ol, hol, _, nl, hdl⟩ := ht
  unfold pyNext
  refine wpAny_bind (wpAny_attempt (wpAny_callSpecial?_slot (name := Str.ofString "__next__") hit.typeIs F.slot_tuple_iterator_next (wpAny_call_entry F.slot_tuple_iterator_next hit.typeIs F.entry_tuple_iterator_next ?_ (F.args_tuple_iterator_next_1 _))))
  show wpAny _ _ (field (.ref it) 0 >>= _) _ _ s
  refine wpAny_bind (wpAny_field ho hd (x := .ref t) rfl ?_)
  show wpAny _ _ (if (Value.ref t == Value.none) = true then _ else _) _ _ s
  rw [if_neg (show ¬ ((Value.ref t == Value.none) = true) from Bool.false_ne_true)]
  show wpAny _ _ (field (.ref it) 1 >>= _) _ _ s
  refine wpAny_bind (wpAny_field ho hd (x := .int i 0) rfl ?_)
  show wpAny _ _ (seqItems? (.ref t) >>= _) _ _ s
  refine wpAny_bind (wpAny_seqItems hol hdl ?_)
  simp only [Int.toNat_natCast, hx]
  refine wpAny_bind (wpAny_rule (wpAny_bind (wpAny_setField ho hd (by simp) ?_)))
  show wpAny _ _ (newExc (.type "StopIteration") [] >>= _) _ _ _
  refine wpAny_bind ?_
  simp only [newExc, newTuple]
  refine wpAny_bind (wpAny_newObj_type ?_ (by size_fits))
  refine wpAny_bind (m := firstArgMember _ _) (wpAny_of_eq (a := Value.none) (by first | rfl | (simp only [firstArgMember]; rfl)) ?_)
  refine wpAny_newObj_type ?_ (by size_fits)
  simp only [raiseNew]
  refine wpAny_bind (wpAny_handled ?_)
  first | rw [show A.in1.handled = none from hh] | rw [hh]
  refine wpAny_bind (wpAny_pure (wpAny_throw ?_))
  refine wpAny_bind (wpAny_isInstance (T := "StopIteration") (b := true) ⟨_, Heap.get?_push_size _ rfl, rfl⟩ isSubtype_stop ?_)
  refine wpAny_pure (hQ _ (((Heap.SameBut.update ..).extBut.push _).push _) ?_)
  show _ ≤ (Heap.push _ _).objs.size
  rw [Heap.size_push, Heap.size_push]
  exact Nat.le_succ_of_le (Nat.le_succ_of_le (Nat.le_of_eq (Heap.SameBut.update ..).1.symm))

theorem unpackItems_t {A s} {t : Addr} {items : Array Value} {Q : List Value → Shared → Prop} (hh : A.handled = none) (ht : s.heap.IsTuple t items)
    (hQ : ∀ h', Heap.ExtBut s.heap.objs.size s.heap h' → s.heap.objs.size ≤ h'.objs.size → Q items.toList { s with heap := h' }) : wpAny (Mo X) A (unpackItems (.ref t) items.size none) Q (fun _ _ => False) s := by
  have hlt : t ≠ s.heap.objs.size := by obtain ⟨o, ho, _⟩ := ht; exact Nat.ne_of_lt (Heap.lt_size ho)
  unfold unpackItems
  refine wpAny_bind ?_
  · unfold notIterableAtAll
    refine wpAny_bind (wpAny_specialOf ht.typeIs F.slot_tuple_iter.lookup ?_)
    refine wpAny_pure ?_
    simp only [Bool.false_eq_true, if_false]
    refine wpAny_bind (wpAny_holding (wpAny_pyIter_tuple ht ?_))
    refine wpAny_bind (wpAny_holding (wpAny_draw_tuple hlt items.size 0 _ _ ⟨_, Heap.get?_push_size _ rfl, rfl, rfl⟩ (ht.push _) (by omega) fun h₁ hit₁ hs₁ => ?_))
    have hall : List.take items.size (List.drop 0 items.toList) = items.toList := by
      rw [List.drop_zero]; exact List.take_of_length_le (by simp)
    rw [hall]
    rw [if_neg (by simp)]
    have ht₁ : h₁.IsTuple t items := (ht.push _).extBut hs₁.extBut hlt
    refine wpAny_bind (wpAny_holding (tuple_end hh hit₁ ht₁ (by simp) fun h₂ he₂ hz₂ => ?_))
    simp only [Option.isSome_none, Bool.false_eq_true, if_false]
    refine wpAny_pure (hQ h₂ (fun b o hb e => he₂ b o hb (hs₁.extBut b o hb (Heap.get?_push_of_some _ e))) ?_)
    have h1 : h₁.objs.size = s.heap.objs.size + 1 := by rw [hs₁.1]; show (Heap.push _ _).objs.size = _; rw [Heap.size_push]
    have h2 : h₁.objs.size ≤ h₂.objs.size := hz₂
    exact Nat.le_trans (by rw [h1]; exact Nat.le_succ _) h2

theorem Binds.pair {x y : Str} {px py pt : Pos} {tk : Nat} {p q : PV} (S : Stores f x) (S' : Stores (f.upd ((x, p) :: f.vars) f.led) y) : Binds X k f (.Tuple [.Name x px, .Name y py] tk pt) (.tup [p, q]) [(y, q), (x, p)] := by
  intro A s v Q R F hv hQ
  obtain ⟨a, vs, rfl, hT, hx⟩ := hv.tup_is
  have hsz : vs.size = 2 := hx.size
  obtain ⟨v1, r1, e1, hr1, v2, r2, e2, hr2, e3⟩ := hx
  rw [arm_assign_Tuple]
  refine wpAny_bind (wpAny_standAt ?_)
  unfold unpack
  have e0 : (assignEach [Expr.Name x px, Expr.Name y py] f.env).length = vs.size := hsz.symm
  have e9 : (assignEach [Expr.Name x px, Expr.Name y py] f.env).findIdx? (fun x => x.1) = none := rfl
  rw [e0, e9]
  refine wpAny_bind (wpAny_holding (unpackItems_t R.hd hT fun h' he hz => ?_))
  have G : Grow X s { s with heap := h' } := .all (F.live.kept (fun b o e => he b o (Nat.ne_of_lt (Heap.lt_size e)) e) hz) (fun b o e => he b o (Nat.ne_of_lt (Heap.lt_size e)) e) hz rfl rfl
  · have F₁ := F.grown F.live G
    rw [e1, e2, e3]
    refine wpAny_assignInOrder_more (wpAny_assign_Name (store_any S F₁ (F.rd hr1 G) fun s₁ F₂ S₂ => ?_))
    refine wpAny_assignInOrder_more (wpAny_assign_Name (store_any (f := f.upd ((x, p) :: f.vars) f.led) S' F₂ ?_ fun s₂ F₃ S₃ => wpAny_assignInOrder_none (hQ s₂ F₃ (((Step.grow F G).trans S₂).trans S₃))))
    exact (F.rd hr2 G).mono fun b o hb e => ⟨S₂.keeps hb e, hb⟩
end
section
variable {X : Wd} {k : Nat} {f : FS}

/-- the tests of a comprehension's clause -/
noncomputable def Tests (X : Wd) (k : Nat) (f : FS) (ifs : List Expr) (b : Bool) : Prop :=
  ∀ A s (Q : Bool → Shared → Prop), Room X A k → f.Ok X s → (∀ s', Grow X s s' → f.Ok X s' → Q b s') →
    wpAny (Mo X) A (forIn ifs true fun c r => if r = true then do let ok ← isTrue c f.env (eval c f.env); pure (ForInStep.yield ok) else pure (ForInStep.yield r)) Q (fun _ _ => False) s
theorem Tests.nil : Tests X k f [] true := fun A s Q R F hQ => by rw [List.forIn_nil]; exact wpAny_pure (hQ s (.refl F.live) F)
theorem Tests.one {c : Expr} {b : Bool} (h : Tv X k f c b) : Tests X k f [c] b := fun A s Q R F hQ => by
  rw [List.forIn_cons]
  refine wpAny_bind ?_
  rw [if_pos rfl]
  refine wpAny_bind (h A s _ R F fun s' G F' => wpAny_pure ?_)
  show wpAny _ _ (forIn [] b _) _ _ _
  rw [List.forIn_nil]
  exact wpAny_pure (hQ s' G F')

theorem FS.Ok.setLoc' {s : Shared} {x : Str} {p : PV} {v : Value} {A} {Q : Unit → Shared → Prop} (F : f.Ok X s) (hl : f.env.kindOf x = some .local) (hv : Rd s.heap f.mu' p v)
    (h : ∀ s', (f.upd ((x, p) :: f.vars) f.led).Ok X s' → Heap.SameBut f.env.locals s.heap s'.heap → s'.gens = s.gens → s'.os = s.os → Q () s') : wpAny (Mo X) A (storeName f.env x v) Q (fun _ _ => False) s := by
  obtain ⟨m, hn, hm⟩ := F.ns
  exact wpAny_storeName_local hl hn (fun h' hn' hs => h _ (F.setLoc hl hv hn hm hn' hs) hs rfl rfl) (by rw [F.kind]; rfl)
theorem append_led' {A s} {a : Addr} {xs : List PV} {p : PV} {v : Value} {led' : List (Addr × MO)} {Q : Value → Shared → Prop} (F : f.Ok X s) (hl : LedSet a (.lst xs) (.lst (xs ++ [p])) f.led led') (hv : Rd s.heap f.mu' p v) (hz : xs.length ≤ sizeLine)
    (h : ∀ s', (f.upd f.vars led').Ok X s' → Heap.SameBut a s.heap s'.heap → Q .none s') : wpAny (Mo X) A (call (.builtin "list.append") [.ref a, v]) Q (fun _ _ => False) s := by
  obtain ⟨o, vs, n, h1, h2, h3, h4⟩ := F.led a _ hl.mem
  refine list_append_plainL (its := vs) ⟨o, n, h1, h2.1, h2.2, h3⟩ (fun h' hl' hs => ?_) (by rw [h4.size]; exact hz)
  obtain ⟨o', n', e1, e2, e4, e3⟩ := hl'
  exact h _ (F.setLed (t := s.toks) hl hs ⟨o', _, n', e1, ⟨e2, e4⟩, e3, by rw [Array.toList_push]; exact h4.append (RdL.one hv)⟩).1 hs


theorem compLoop_any {A : Around} {R : Result → Shared → Prop} {s : Shared} {elt target iter : Expr} {ifs : List Expr} {scope : Scope} {pos : Pos} {it acc : Value} {env : Env} (I : Nat → Shared → Prop)
    (turn : ∀ n s, I n s → wpAny (Mo X) A (pyNext it) (fun r s₁ => match r with
      | none => R (.ok .next) s₁
      | some v => wpAny (Mo X) A (letOwnedTupleGo target it v) (fun _ s₁' => wpAny (Mo X) A (assign target env v) (fun _ s₂ =>
          wpAny (Mo X) A (forIn ifs true fun c r => if r = true then do let ok ← isTrue c env (eval c env); pure (ForInStep.yield ok) else pure (ForInStep.yield r)) (fun ok s₃ =>
            if ok = true then wpAny (Mo X) A (eval elt env) (fun x s₄ =>
              wpAny (Mo X) A (call (.builtin "list.append") [acc, x]) (fun _ s₅ => ∃ m, m < n ∧ I m s₅) (fun _ _ => False) s₄) (fun _ _ => False) s₃
            else ∃ m, m < n ∧ I m s₃) (fun _ _ => False) s₂) (fun _ _ => False) s₁') (fun _ _ => False) s₁) (fun _ _ => False) s)
    (n : Nat) (h : I n s) :
    codeAny (Mo X) A (.compLoop (.ListComp elt [⟨target, iter, ifs, 0⟩] scope pos) 0 it acc env) R s := by
  have cast : ∀ {α : Type} {t : Sem α} {Q : α → Shared → Prop} {s : Shared}, wpAny (Mo X) A t Q (fun _ _ => False) s → wpAny (Mo X) A t Q (notedBy (Mo X) A env fun e s' => R (.error e) s') s := fun h => wpAny_mono h (fun _ _ x => x) fun _ _ x => x.elim
  refine codeAny_loop rfl I (fun n s hI => ?_) n h
  show wpAny _ A ((compTurn (.ListComp elt [⟨target, iter, ifs, 0⟩] scope pos) 0 it acc env).onRaise (fun x => do noteFrame x env; theTreesLotGoes x)) _ _ s
  refine wpAny_noted ?_
  rw [compTurn_list]
  refine wpAny_bind (wpAny_standAt (wpAny_bind (cast (wpAny_mono (turn n s hI) (fun r s₁ h₁ => ?_) fun _ _ h' => h'))))
  cases r with
  | none => exact wpAny_pure h₁
  | some v =>
    refine wpAny_bind (cast (wpAny_mono h₁ (fun _ s₁' h₁' => ?_) fun _ _ h' => h'))
    refine wpAny_bind (cast (wpAny_mono h₁' (fun _ s₂ h₂ => wpAny_bind (cast (wpAny_mono h₂ (fun ok s₃ h₃ => ?_) fun _ _ h' => h'))) fun _ _ h' => h'))
    cases ok with
    | false => exact wpAny_pure ⟨rfl, h₃⟩
    | true =>
      exact wpAny_bind (wpAny_bind (cast (wpAny_mono h₃ (fun x s₄ h₄ => wpAny_bind (cast (wpAny_mono h₄ (fun _ s₅ h₅ => wpAny_pure (wpAny_pure ⟨rfl, h₅⟩)) fun _ _ h' => h'))) fun _ _ h' => h')))

/-- a comprehension's turns -/
theorem comp_loop {elt iter tgt : Expr} {ifs : List Expr} {scope : Scope} {pos : Pos} {A : Around} {cenv : Env} {cvars : List (Str × PV)} {R' : Result → Shared → Prop} {hs s₂ : Shared} {mu : Addr → Prop} {D I : Addr} {fp wr : List Addr} {items : List PV} {St : Nat → Heap → Prop} {Mid : Nat → Value → Heap → Prop} {s : Shared}
    (g : PV → Option PV) (bs : PV → List (Str × PV)) (R : Room X A k) (It : Itr X A tgt hs s₂ mu I fp wr items St Mid) (hst : St 0 s.heap) (hbs : ∀ p ∈ items, ∀ y q, cvars.lookup y = some q → (bs p ++ cvars).lookup y = some q) (hfp : ∀ b ∈ fp, b ≠ cenv.locals ∧ b ≠ D ∧ ¬ isTab X b)
    (F : FS.Ok X ⟨hs, mu, cenv, cvars, wr ++ [cenv.locals], [(D, .lst [])]⟩ s) (hz : items.length ≤ sizeLine)
    (hel : ∀ p ∈ items, ∀ own ys, Binds X k ⟨hs, mu, cenv, cvars, own, [(D, .lst ys)]⟩ tgt p (bs p) ∧ (g p = none → Tests X k ⟨hs, mu, cenv, bs p ++ cvars, own, [(D, .lst ys)]⟩ ifs false) ∧
      (∀ q, g p = some q → Tests X k ⟨hs, mu, cenv, bs p ++ cvars, own, [(D, .lst ys)]⟩ ifs true ∧ Ev X k ⟨hs, mu, cenv, bs p ++ cvars, own, [(D, .lst ys)]⟩ elt q))
    (hR : ∀ s', FS.Ok X ⟨hs, mu, cenv, cvars, [cenv.locals], [(D, .lst (items.filterMap g))]⟩ s' → R' (.ok .next) s') :
    codeAny (Mo X) A (.compLoop (.ListComp elt [⟨tgt, iter, ifs, 0⟩] scope pos) 0 (.ref I) (.ref D) cenv) R' s := by
  refine compLoop_any
    (fun n s' => ∃ i vars, i ≤ items.length ∧ n = items.length + 1 - i ∧ St i s'.heap ∧ (∀ y q, cvars.lookup y = some q → vars.lookup y = some q) ∧ FS.Ok X ⟨hs, mu, cenv, vars, wr ++ [cenv.locals], [(D, .lst ((items.take i).filterMap g))]⟩ s') ?_ (items.length + 1)
    ⟨0, cvars, Nat.zero_le _, rfl, hst, fun _ _ e => e, by simpa using F⟩
  rintro n s₁ ⟨i, vars, hi, rfl, st, hvars, F₁'⟩
  have F₁ : FS.Ok X ⟨hs, mu, cenv, cvars, wr ++ [cenv.locals], [(D, .lst ((items.take i).filterMap g))]⟩ s₁ := FS.Ok.forget (f := ⟨hs, mu, cenv, vars, wr ++ [cenv.locals], [(D, .lst ((items.take i).filterMap g))]⟩) F₁' hvars
  have hCw : cenv.locals ∉ wr := fun hw => by
    have := (List.nodup_append.mp F.apart).1
    exact (List.nodup_append.mp this).2.2 _ hw _ (.head _) rfl
  have tabmu : ∀ b o, ¬ mu b → hs.heap.get? b = some o → ¬ isTab X b := fun b o hb e ht => by
    rcases F.mtab b ht with h | h | h
    · exact hb h
    · exact Nat.lt_irrefl _ (Nat.lt_of_lt_of_le (Heap.lt_size e) (F.fresh b (List.mem_append_left _ h)).1)
    · exact Nat.lt_irrefl _ (Nat.lt_of_lt_of_le (Heap.lt_size e) (F.fresh b (List.mem_append_right _ h)).1)
  by_cases hlt : i < items.length
  · obtain ⟨p, hp⟩ : ∃ p, items[i]? = some p := ⟨items[i], by simp [hlt]⟩
    have nuOk : ∀ b o, ¬ mu b → hs.heap.get? b = some o → s₁.heap.get? b = some o ∧ ¬ FS.mu' ⟨hs, mu, cenv, cvars, wr ++ [cenv.locals], [(D, .lst ((items.take i).filterMap g))]⟩ b := fun b o hb e => by
      refine ⟨F₁.grow.keep b o (tabmu b o hb e) e, fun hm => ?_⟩
      have hlt := Heap.lt_size e
      rcases hm with h | h | h
      · exact hb h
      · exact Nat.lt_irrefl _ (Nat.lt_of_lt_of_le hlt (F₁.fresh b (List.mem_append_left _ h)).1)
      · exact Nat.lt_irrefl _ (Nat.lt_of_lt_of_le hlt (F₁.fresh b (List.mem_append_right _ h)).1)
    refine It.item i p _ s₁ _ hp st nuOk F₁.mu_lt fun v h' tk st' hrd hk => ?_
    have F₂ := F₁.walked (wr := wr) (own' := wr ++ [cenv.locals]) (h' := h') (t := tk) (fun b hb => List.mem_append_left _ hb) hk (It.odd _ _ st) (List.Sublist.refl _) (fun b _ hb => by
      obtain ⟨o, e, _⟩ := It.oddM _ _ _ st' b hb; exact ⟨o, e⟩) (by simp) (fun b hb _ => hb)
    have hpm : p ∈ items := List.mem_of_getElem? hp
    refine It.go i v _ _ st' fun h'' tk' st'' hk'' => ?_
    have F₂' := F₂.walked (wr := wr) (own' := wr ++ [cenv.locals]) (h' := h'') (t := tk') (fun b hb => List.mem_append_left _ hb) hk'' (It.oddM _ _ _ st') (List.Sublist.refl _) (fun b _ hb => by
      obtain ⟨o, e, _⟩ := It.odd _ _ st'' b hb; exact ⟨o, e⟩) (by simp) (fun b hb _ => hb)
    have hv₂ : Rd h'' (FS.mu' ⟨hs, mu, cenv, cvars, wr ++ [cenv.locals], [(D, .lst ((items.take i).filterMap g))]⟩) p v :=
      hrd.mono fun b o hb e => ⟨hk'' b o (fun h => hb (.inr h)) e, fun hm => hb (.inl hm)⟩
    have fpk : ∀ {bs' : List (Str × PV)} {ys : List PV} {sA : Shared} {g' : FS} {sB : Shared} (j : Nat), St j sA.heap → Step ⟨hs, mu, cenv, bs', wr ++ [cenv.locals], [(D, .lst ys)]⟩ sA g' sB → St j sB.heap := fun j hst S => It.frame _ _ _ hst fun b hb o e => by
      have hf := hfp b hb
      refine S.keep b o (It.foot b hb).2 (fun h => hf.2.1 (by simpa using h)) (fun h => ?_) e
      rcases List.mem_append.mp h with h | h
      · exact (It.odd _ _ hst b h).loose e
      · exact absurd (by simpa using h) hf.1
    obtain ⟨hB, hT0, hT1⟩ := hel p hpm (wr ++ [cenv.locals]) ((items.take i).filterMap g)
    refine wpAny_mono (hB A _ v _ R F₂' hv₂ fun s₃ F₃ S₃ => ?_) (fun _ _ x => x) (fun _ _ x => x.elim)
    have st₃ : St (i + 1) s₃.heap := fpk (i + 1) st'' S₃
    have F₃ : FS.Ok X ⟨hs, mu, cenv, bs p ++ cvars, wr ++ [cenv.locals], [(D, .lst ((items.take i).filterMap g))]⟩ s₃ := F₃
    have htake : items.take (i + 1) = items.take i ++ [p] := by rw [List.take_succ, hp]; rfl
    have hvars' := hbs p hpm
    cases hg : g p with
    | none =>
      refine wpAny_mono (hT0 hg A s₃ _ R F₃ fun s₄ G₄ F₄ => ?_) (fun _ _ x => x) (fun _ _ x => x.elim)
      rw [if_neg Bool.false_ne_true]
      refine ⟨items.length + 1 - (i + 1), by omega, i + 1, _, hlt, rfl, fpk _ st₃ (Step.grow F₃ G₄), hvars', ?_⟩
      rw [htake, List.filterMap_append, List.filterMap_cons, hg]
      simpa using F₄
    | some q =>
      obtain ⟨ht, he⟩ := hT1 q hg
      refine wpAny_mono (ht A s₃ _ R F₃ fun s₄ G₄ F₄ => ?_) (fun _ _ x => x) (fun _ _ x => x.elim)
      rw [if_pos rfl]
      refine wpAny_mono (he A s₄ _ R F₄ fun y s₅ G₅ F₅ h₅ => ?_) (fun _ _ x => x) (fun _ _ x => x.elim)
      have hlen : ((items.take i).filterMap g).length ≤ sizeLine := Nat.le_trans (List.length_filterMap_le _ _) (Nat.le_trans (by rw [List.length_take]; exact Nat.min_le_right _ _) hz)
      refine wpAny_mono (append_led' (f := ⟨hs, mu, cenv, bs p ++ cvars, wr ++ [cenv.locals], [(D, .lst ((items.take i).filterMap g))]⟩) F₅ .here h₅ hlen fun s₆ F₆ hs₆ => ?_) (fun _ _ x => x) (fun _ _ x => x.elim)
      have st₅ := fpk _ st₃ (Step.grow F₃ (G₄.trans G₅))
      refine ⟨items.length + 1 - (i + 1), by omega, i + 1, bs p ++ cvars, hlt, rfl, It.frame _ _ _ st₅ fun b hb o e => (hs₆.2 b (hfp b hb).2.1).trans e, hvars', ?_⟩
      rw [htake, List.filterMap_append, List.filterMap_cons, hg]
      exact F₆
  · have hin : i = items.length := by omega
    subst hin
    refine It.done s₁ _ st fun h' tk hk => ?_
    refine hR _ ?_
    have F₂ := F₁.walked (wr := wr) (own' := [cenv.locals]) (h' := h') (t := tk) (fun b hb => List.mem_append_left _ hb) hk (It.odd _ _ st) (List.sublist_append_right _ _) (fun b hb hw => absurd (by simpa using hb) (fun q : b = cenv.locals => hCw (q ▸ hw))) (by simp) (fun b hb hw => (List.mem_append.mp hb).resolve_left hw)
    rw [List.take_length] at F₂
    exact F₂
end
section
variable {X : Wd} {k : Nat} {f : FS}

/-- what a comprehension may read of the frame around: its cells -/
noncomputable def CV (f : FS) (scope : Scope) (cl : List (Str × Addr)) : List (Str × PV) → Prop
  | [] => True
  | (y, q) :: r => f.vars.lookup y = some q ∧ (f.env.kindOf y == some .local) = false ∧ (relabel scope f.env).names.lookup y ≠ some .local ∧ cl.lookup y = f.env.cells.lookup y ∧ CV f scope cl r
theorem CV.look {scope cl} {V : List (Str × PV)} (h : CV f scope cl V) : ∀ y q, V.lookup y = some q → f.vars.lookup y = some q ∧ (f.env.kindOf y == some .local) = false ∧ (relabel scope f.env).names.lookup y ≠ some .local ∧ cl.lookup y = f.env.cells.lookup y := by
  induction V with
  | nil => intro y q e; cases e
  | cons z r ih =>
    intro y q e
    rw [List.lookup_cons] at e
    cases hb : y == z.1 with
    | true => rw [hb] at e; cases e; rw [beq_iff_eq.mp hb]; exact ⟨h.1, h.2.1, h.2.2.1, h.2.2.2.1⟩
    | false => rw [hb] at e; exact ih h.2.2.2.2 y q e

/-- the cells that a closure takes over -/
noncomputable def SubC (cells : List (Str × Addr)) : List (Str × Addr) → Prop
  | [] => True
  | (n, c) :: r => cells.lookup n = some c ∧ SubC cells r
theorem SubC.look {cells} {cl : List (Str × Addr)} (h : SubC cells cl) : ∀ n c, cl.lookup n = some c → cells.lookup n = some c := by
  induction cl with
  | nil => intro n c e; cases e
  | cons z r ih =>
    intro n c e
    rw [List.lookup_cons] at e
    cases hb : n == z.1 with
    | true => rw [hb] at e; cases e; rw [beq_iff_eq.mp hb]; exact h.1
    | false => rw [hb] at e; exact ih h.2 n c e

/-- what stands where a comprehension's frame is made -/
theorem comp_enter0 {A : Around} {s₁ s₂ : Shared} {scope : Scope} {cl : List (Str × Addr)} {cvars : List (Str × PV)} {wr : List Addr}
    {RR : Value → Env → Shared → Prop} (F₁ : f.Ok X s₁) (G₂ : Grow X s₁ s₂) (hnd : wr.Nodup) (hnew : ∀ b ∈ wr, s₁.heap.objs.size ≤ b ∧ b < s₂.heap.objs.size) (hsol : ∀ b ∈ wr, Solid s₂.heap b)
    (hcell : ∀ y ∈ scope.names, y.2 ≠ .cell) (hkind : scope.kind = .function) (hcv : CV f scope cl cvars) (hcl : SubC f.env.cells cl)
    (h : ∀ (C : Addr) (s₄ : Shared), C = s₂.heap.objs.size + 1 → (∀ b o, s₂.heap.get? b = some o → s₄.heap.get? b = some o) → s₄.gens = s₂.gens → Grow X s₁ s₄ → FS.Ok X ⟨s₁, f.mu', compEnvC scope cl C f.env, cvars, wr ++ [C], [(s₂.heap.objs.size, .lst [])]⟩ s₄ → RR (.ref s₂.heap.objs.size) (compEnvC scope cl C f.env) s₄) :
    wpAny (Mo X) A (newList []) (fun acc s₃ => wpAny (Mo X) A (newFunctionEnv scope f.env.globals cl [] f.env.qual none .none (some f.env)) (fun cenv s₄ => RR acc { cenv with scope := relabel scope f.env } s₄) (fun _ _ => False) s₃) (fun _ _ => False) s₂ := by
  refine wpAny_newObj_type (wpAny_newFunctionEnv hcell (by intro y hy; simp at hy) (fun h₁ hns₁ hsb₁ => ?_) hkind)
  dsimp only at hns₁ hsb₁ ⊢
  generalize hH2 : s₂.heap.push { cls := .type "list", dict := none, data := .seq ([] : List Value).toArray } = H2 at hns₁ hsb₁ ⊢
  have hC : H2.objs.size = s₂.heap.objs.size + 1 := by rw [← hH2, Heap.size_push]
  have F₂ := F₁.grown F₁.live G₂
  have G₃ : Grow X s₂ { s₂ with heap := H2 } := by rw [← hH2]; exact .push F₂.live
  have G₄ : Grow X { s₂ with heap := H2 } { s₂ with heap := H2.push { cls := .type "dict", data := .dict #[] } } := .push (t := s₂.toks) G₃.live
  have nC : X.H.get? H2.objs.size = none := none_of_le G₃.live.low
  have ntge : ∀ b, s₂.heap.objs.size ≤ b → ¬ isTab X b := fun b hb ht => absurd (F₂.mu_lt b (F₂.mtab b ht)) (Nat.not_lt.mpr hb)
  have ntC : ¬ isTab X H2.objs.size := ntge _ (by rw [hC]; exact Nat.le_succ _)
  have live : Live X h₁ := G₄.live.upd nC (fun q => ntC (q.elim .inl fun q => .inr (.inl q))) (fun o vs q t e d => by
    have e : (H2.push { cls := .type "dict", data := .dict #[] }).get? H2.objs.size = some o := e
    rw [Heap.get?_push_size _ rfl] at e; cases e; cases d) hsb₁ (fun q => absurd (.inr (.inr q)) ntC)
  have hsz : h₁.objs.size = s₂.heap.objs.size + 2 := by
    rw [hsb₁.1]; show (H2.push _).objs.size = _; rw [Heap.size_push, hC]
  have sg : ∀ b o, s₂.heap.get? b = some o → h₁.get? b = some o := fun b o e => by
    have hlt := Heap.lt_size e
    have e2 : H2.get? b = some o := by rw [← hH2]; exact Heap.get?_push_of_some _ e
    exact (hsb₁.2 b (by rw [hC]; exact Nat.ne_of_lt (Nat.lt_succ_of_lt hlt))).trans (Heap.get?_push_of_some _ e2)
  have gD : h₁.get? s₂.heap.objs.size = some { cls := .type "list", dict := none, data := .seq #[] } := by
    refine (hsb₁.2 _ (by rw [hC]; exact Nat.ne_of_lt (Nat.lt_succ_self _))).trans (Heap.get?_push_of_some _ ?_)
    rw [← hH2]; exact Heap.get?_push_size _ rfl
  have G₅ : Grow X s₁ { s₂ with heap := h₁, toks := s₂.toks + ([] : List (Str × Value)).length } :=
    ⟨live, fun b o ht e => sg b o (G₂.keep b o ht e), by show _ ≤ h₁.objs.size; rw [hsz]; exact Nat.le_trans G₂.size (by omega), G₂.os, fun b m hb hn => (G₂.frm b m hb hn).keeps sg, G₂.gens⟩
  refine h H2.objs.size _ hC sg rfl G₅ ?_
  · have F₅ := F₁.grown F₁.live G₅
    have mlt : ∀ b, f.mu' b → b < s₁.heap.objs.size := F₁.mu_lt
    have newb : ∀ b ∈ (wr ++ [H2.objs.size]) ++ [s₂.heap.objs.size], s₁.heap.objs.size ≤ b ∧ b < h₁.objs.size := fun b hb => by
      simp only [List.mem_append, List.mem_singleton] at hb
      have hs := G₂.size
      rcases hb with (hb | rfl) | rfl
      · have := hnew b hb; exact ⟨this.1, by rw [hsz]; exact Nat.lt_of_lt_of_le this.2 (by omega)⟩
      · rw [hC, hsz]; exact ⟨Nat.le_succ_of_le hs, Nat.lt_succ_self _⟩
      · rw [hsz]; exact ⟨hs, Nat.lt_succ_of_lt (Nat.lt_succ_self _)⟩
    exact {
      grow := G₅
      muLt := mlt
      mu33 := .inl F₁.mu33
      mu85 := .inl F₁.mu85
      mfr := fun b hb => .inl (F₁.mtab b (.inr (.inr hb)))
      apart := by
        have hn : ∀ b ∈ wr, b < s₂.heap.objs.size := fun b hb => (hnew b hb).2
        show ((wr ++ [H2.objs.size]) ++ [s₂.heap.objs.size]).Nodup
        refine List.nodup_append.mpr ⟨List.nodup_append.mpr ⟨hnd, by simp, fun a ha b hb e => ?_⟩, by simp, fun a ha b hb e => ?_⟩
        · simp only [List.mem_singleton] at hb
          rw [hb] at e; rw [e, hC] at ha
          exact Nat.lt_irrefl _ (Nat.lt_trans (hn _ ha) (Nat.lt_succ_self _))
        · simp only [List.mem_singleton] at hb
          rw [hb] at e; rw [e] at ha
          rcases List.mem_append.mp ha with ha | ha
          · exact Nat.lt_irrefl _ (hn _ ha)
          · simp only [List.mem_singleton] at ha; rw [hC] at ha; exact Nat.lt_irrefl _ (Nat.lt_of_lt_of_eq (Nat.lt_succ_self _) ha.symm)
      fresh := newb
      locs := List.mem_append_right _ (.head _)
      kind := hkind
      glob := F₁.glob
      blt := F₁.blt
      hlow := F₁.live.low
      ns := ⟨_, hns₁, fun y q hy hk => absurd hk (hcv.look y q hy).2.2.1⟩
      cell := fun y q hy hk => by
        obtain ⟨e1, e2, e3, e4⟩ := hcv.look y q hy
        obtain ⟨c, v, hc, hv, hr⟩ := F₁.cell y q e1 (fun z => by rw [z] at e2; simp at e2)
        refine ⟨c, v, e4.trans hc, IsCell_of hv fun o e => G₅.keep c o (tab_not_cell F₁.live hv) e, ?_⟩
        have hr5 : Rd h₁ f.mu' q v := hr.grow (s' := { s₂ with heap := h₁, toks := s₂.toks + ([] : List (Str × Value)).length }) F₁.mtab G₅
        refine hr.mono fun b o hb e => ⟨G₅.keep b o (FS.not_tab F₁ b hb) e, fun hm => ?_⟩
        have hlt := Heap.lt_size e
        rcases hm with hm | hm | hm
        · exact hb hm
        · exact Nat.lt_irrefl _ (Nat.lt_of_lt_of_le hlt (newb b (List.mem_append_left _ hm)).1)
        · exact Nat.lt_irrefl _ (Nat.lt_of_lt_of_le hlt (newb b (List.mem_append_right _ hm)).1)
      led := fun a mo hm => by
        simp only [List.mem_singleton] at hm
        cases hm
        exact ⟨_, #[], _, gD, ⟨rfl, rfl⟩, rfl, rfl⟩
      solid := fun b hb => by
        have hb : b ∈ (wr ++ [H2.objs.size]) ++ [s₂.heap.objs.size] := hb
        simp only [List.mem_append, List.mem_singleton] at hb
        rcases hb with (hb | rfl) | rfl
        · obtain ⟨o, e⟩ := hsol b hb; exact ⟨o, sg b o e⟩
        · exact .ns hns₁
        · exact .seq gD rfl
      cellv := fun n c hc => by
        obtain ⟨v, hv⟩ := F₁.cellv n c (hcl.look n c hc)
        exact ⟨v, IsCell_of hv fun o e => G₅.keep c o (tab_not_cell F₁.live hv) e⟩ }
/-- what stands where a comprehension's frame is made -/
theorem comp_enter {A : Around} {s₁ s₂ : Shared} {scope : Scope} {cl : List (Str × Addr)} {cvars : List (Str × PV)} {I : Addr} {fp wr : List Addr} {items : List PV} {tgt : Expr} {St : Nat → Heap → Prop} {Mid : Nat → Value → Heap → Prop}
    {RR : Value → Env → Shared → Prop} (F₁ : f.Ok X s₁) (G₂ : Grow X s₁ s₂) (It : Itr X A tgt s₁ s₂ f.mu' I fp wr items St Mid)
    (hcell : ∀ y ∈ scope.names, y.2 ≠ .cell) (hkind : scope.kind = .function) (hcv : CV f scope cl cvars) (hcl : SubC f.env.cells cl)
    (h : ∀ (C : Addr) (s₄ : Shared), C = s₂.heap.objs.size + 1 → St 0 s₄.heap → FS.Ok X ⟨s₁, f.mu', compEnvC scope cl C f.env, cvars, wr ++ [C], [(s₂.heap.objs.size, .lst [])]⟩ s₄ → (∀ b ∈ fp, b ≠ C ∧ b ≠ s₂.heap.objs.size ∧ ¬ isTab X b) → RR (.ref s₂.heap.objs.size) (compEnvC scope cl C f.env) s₄) :
    wpAny (Mo X) A (newList []) (fun acc s₃ => wpAny (Mo X) A (newFunctionEnv scope f.env.globals cl [] f.env.qual none .none (some f.env)) (fun cenv s₄ => RR acc { cenv with scope := relabel scope f.env } s₄) (fun _ _ => False) s₃) (fun _ _ => False) s₂ := by
  refine comp_enter0 F₁ G₂ It.nd It.new (fun b hb => let ⟨o, e, _⟩ := It.odd _ _ It.st b hb; ⟨o, e⟩) hcell hkind hcv hcl fun C s₄ hC sg _ _ F => h C s₄ hC (It.frame _ _ _ It.st fun b hb o e => sg b o e) F fun b hb => ?_
  have := It.foot b hb
  have hl := this.1.lt
  exact ⟨by rw [hC]; exact Nat.ne_of_lt (Nat.lt_succ_of_lt hl), Nat.ne_of_lt hl, fun ht => this.2 (F₁.mtab b ht)⟩
end
section
variable {X : Wd} {k : Nat} {f : FS}

/-- an own object has turned, and is let go -/
theorem FS.Ok.drop {s : Shared} {C : Addr} {h' : Heap} {t : Nat} (F : ({ f with own := C :: f.own } : FS).Ok X s) (hs : Heap.SameBut C s.heap h') (nc : NotCode s.heap C) (hCL : f.env.locals ∈ f.own) (ncell : ∀ v, ¬ s.heap.IsCell C v) (hCf : C ∉ X.frs) :
    f.Ok X { s with heap := h', toks := t } := by
  have hC : C ∈ ({ f with own := C :: f.own } : FS).own ++ f.led.map (·.1) := List.mem_append_left _ (.head _)
  have hmu := mu_of_own (f := { f with own := C :: f.own }) hC
  have hsub : ∀ b, f.mu' b → FS.mu' { f with own := C :: f.own } b := fun b hb => by
    rcases hb with h | h | h
    · exact .inl h
    · exact .inr (.inl (.tail _ h))
    · exact .inr (.inr h)
  have tr : ∀ {p v}, Rd s.heap (FS.mu' { f with own := C :: f.own }) p v → Rd h' f.mu' p v := fun x => x.mono fun b o hb e => ⟨(hs.2 b fun q => hb (q ▸ hmu)).trans e, fun h => hb (hsub b h)⟩
  have trL : ∀ {p v}, RdL s.heap (FS.mu' { f with own := C :: f.own }) p v → RdL h' f.mu' p v := fun x => x.mono fun b o hb e => ⟨(hs.2 b fun q => hb (q ▸ hmu)).trans e, fun h => hb (hsub b h)⟩
  have ap : (C :: (f.own ++ f.led.map (·.1))).Nodup := F.apart
  have ap' := List.nodup_cons.mp ap
  exact {
    grow := F.change hC hs nc fun q => absurd q hCf
    muLt := F.muLt, mu33 := F.mu33, mu85 := F.mu85, mfr := fun b hb => (F.mfr b hb).elim .inl fun h => .inr ((List.mem_cons.mp h).resolve_left fun q => hCf (q ▸ hb)), kind := F.kind, glob := F.glob, blt := F.blt, hlow := F.hlow
    locs := hCL
    apart := ap'.2
    fresh := fun b hb => ⟨(F.fresh b (.tail _ hb)).1, (by show b < h'.objs.size; rw [hs.1]; exact (F.fresh b (.tail _ hb)).2)⟩
    ns := by
      obtain ⟨m, hn', hv⟩ := F.ns
      have hne : f.env.locals ≠ C := fun q => ap'.1 (q ▸ List.mem_append_left _ hCL)
      exact ⟨m, hn'.sameBut hs hne, fun x p hx hk => let ⟨v, c, d⟩ := hv x p hx hk; ⟨v, c, tr d⟩⟩
    cell := fun x p hx hk => by
      obtain ⟨c, v, hc, hcv, hr⟩ := F.cell x p hx hk
      exact ⟨c, v, hc, hcv.sameBut hs fun q => ncell _ (q ▸ hcv), tr hr⟩
    led := fun b mo hb => by
      have hne : b ≠ C := fun q => ap'.1 (q ▸ List.mem_append_right _ (List.mem_map_of_mem (f := (·.1)) hb))
      have := F.led b mo hb
      cases mo with
      | lst zs => obtain ⟨o, vs, n, e, h2, h3, h4⟩ := this; exact ⟨o, vs, n, (hs.2 b hne).trans e, h2, h3, trL h4⟩
      | obj o => exact (hs.2 b hne).trans this
    solid := fun b hb => (F.solid b (.tail _ hb)).of fun o q => (hs.2 b fun e => ap'.1 (e ▸ hb)).trans q
    cellv := fun n c hc => let ⟨v, hv⟩ := F.cellv n c hc; ⟨v, hv.sameBut hs fun q => ncell _ (q ▸ hv)⟩ }

theorem ns_notCode {h : Heap} {C : Addr} {m} (hn : h.Ns C m) : NotCode h C := fun o vs q tt e d => by
  obtain ⟨o', es, ep, e', d', _⟩ := hn
  rw [e] at e'; cases e'; rw [d] at d'; cases d'
theorem ns_notCell {h : Heap} {C : Addr} {m} (hn : h.Ns C m) : ∀ v, ¬ h.IsCell C v := fun v hv => by
  obtain ⟨o', es, ep, e', d', _⟩ := hn
  obtain ⟨o, e, d⟩ := hv
  rw [e] at e'; cases e'; rw [d] at d'; cases d'

/-- what a comprehension leaves -/
theorem comp_leave {s₁ s' : Shared} {cenv : Env} {cvars : List (Str × PV)} {D C : Addr} {ys : List PV} (F₁ : f.Ok X s₁) (hC : cenv.locals = C)
    (F : FS.Ok X ⟨s₁, f.mu', cenv, cvars, [cenv.locals], [(D, .lst ys)]⟩ s') (hge : s₁.heap.objs.size ≤ C) :
    (∃ m, s'.heap.Ns C m) ∧ ({ f with own := C :: f.own } : FS).Ok X s' ∧ Rd s'.heap (FS.mu' { f with own := C :: f.own }) (.lst ys) (.ref D) := by
  subst hC
  obtain ⟨m, hn, _⟩ := F.ns
  have hlt : cenv.locals < s'.heap.objs.size := hn.lt
  refine ⟨⟨m, hn⟩, F₁.reserve (wr := [cenv.locals]) F.grow (fun b hb => by simp only [List.mem_singleton] at hb; subst hb; exact ⟨hge, hlt⟩) (by simp) (fun b hb => by simp only [List.mem_singleton] at hb; subst hb; exact .ns hn), ?_⟩
  obtain ⟨o, vs, n, h1, h2, h3, h4⟩ := F.led D _ (.head _)
  have hDf := (F.fresh D (List.mem_append_right _ (.head _))).1
  have hDC : D ≠ cenv.locals := fun q => by
    have := (List.nodup_append.mp F.apart).2.2 cenv.locals (.head _) D (.head _)
    exact this q.symm
  have wk : ∀ b, FS.mu' { f with own := cenv.locals :: f.own } b → FS.mu' ⟨s₁, f.mu', cenv, cvars, [cenv.locals], [(D, .lst ys)]⟩ b := fun b hb => by
    rcases hb with h | h | h
    · exact .inl (.inl h)
    · rcases List.mem_cons.mp h with rfl | h
      · exact .inr (.inl (.head _))
      · exact .inl (.inr (.inl h))
    · exact .inl (.inr (.inr h))
  refine ⟨D, o, vs, n, rfl, fun hb => ?_, h1, h2.1, h3, h4.weak fun b hb => .inl (wk b hb)⟩
  have lt : ∀ b, f.mu' b → b < s₁.heap.objs.size := F₁.mu_lt
  rcases hb with h | h | h
  · exact absurd (lt D (.inl h)) (Nat.not_lt.mpr hDf)
  · rcases List.mem_cons.mp h with h | h
    · exact hDC h
    · exact absurd (lt D (.inr (.inl h))) (Nat.not_lt.mpr hDf)
  · exact absurd (lt D (.inr (.inr h))) (Nat.not_lt.mpr hDf)

theorem Rd.dropped {s : Shared} {C : Addr} {h' : Heap} {p : PV} {v : Value} (x : Rd s.heap (FS.mu' { f with own := C :: f.own }) p v) (hs : Heap.SameBut C s.heap h') : Rd h' f.mu' p v :=
  x.mono fun b o hb e => ⟨(hs.2 b fun q => hb (.inr (.inl (q ▸ .head _)))).trans e, fun h => hb (by
    rcases h with h | h | h
    · exact .inl h
    · exact .inr (.inl (.tail _ h))
    · exact .inr (.inr h))⟩

/-- what a comprehension's element is to be -/
noncomputable def Elts (X : Wd) (k : Nat) (f : FS) (scope : Scope) (cl : List (Str × Addr)) (cvars : List (Str × PV)) (tgt : Expr) (ifs : List Expr) (elt : Expr) (items : List PV) (g : PV → Option PV) (bs : PV → List (Str × PV)) : Prop :=
  ∀ p ∈ items, (∀ y q, cvars.lookup y = some q → (bs p ++ cvars).lookup y = some q) ∧ ∀ hs mu C D own ys, Binds X k ⟨hs, mu, compEnvC scope cl C f.env, cvars, own, [(D, .lst ys)]⟩ tgt p (bs p) ∧
    (g p = none → Tests X k ⟨hs, mu, compEnvC scope cl C f.env, bs p ++ cvars, own, [(D, .lst ys)]⟩ ifs false) ∧
    (∀ q, g p = some q → Tests X k ⟨hs, mu, compEnvC scope cl C f.env, bs p ++ cvars, own, [(D, .lst ys)]⟩ ifs true ∧ Ev X k ⟨hs, mu, compEnvC scope cl C f.env, bs p ++ cvars, own, [(D, .lst ys)]⟩ elt q)
theorem Elts.name {scope : Scope} {cl : List (Str × Addr)} {cvars : List (Str × PV)} {x : Str} {px : Pos} {ifs : List Expr} {elt : Expr} {items : List PV} {g : PV → Option PV} (hx : scope.names.lookup x = some .local) (hxv : cvars.lookup x = none)
    (h : ∀ p ∈ items, ∀ hs mu C D own ys, (g p = none → Tests X k ⟨hs, mu, compEnvC scope cl C f.env, (x, p) :: cvars, own, [(D, .lst ys)]⟩ ifs false) ∧
      (∀ q, g p = some q → Tests X k ⟨hs, mu, compEnvC scope cl C f.env, (x, p) :: cvars, own, [(D, .lst ys)]⟩ ifs true ∧ Ev X k ⟨hs, mu, compEnvC scope cl C f.env, (x, p) :: cvars, own, [(D, .lst ys)]⟩ elt q)) :
    Elts X k f scope cl cvars (.Name x px) ifs elt items g (fun p => [(x, p)]) := fun p hp => ⟨fun y q e => by
      by_cases h : y = x
      · subst h; rw [hxv] at e; cases e
      · show ((x, p) :: cvars).lookup y = some q
        rw [look_cons_ne h]; exact e, fun hs mu C D own ys => ⟨Binds.name (.loc (lookup_relabel_local hx)), (h p hp hs mu C D own ys).1, (h p hp hs mu C D own ys).2⟩⟩

theorem Ev.comp {elt iter tgt : Expr} {ifs : List Expr} {scope : Scope} {pos : Pos} {items : List PV} {cl : List (Str × Addr)} (cvars : List (Str × PV)) (g : PV → Option PV) (bs : PV → List (Str × PV))
    (hsrc : Src X k f tgt iter items) (hcv : CV f scope cl cvars) (hcl : SubC f.env.cells cl) (hel : Elts X k f scope cl cvars tgt ifs elt items g bs) (hz : items.length ≤ sizeLine)
    (hclos : closureFor scope f.env = pure cl) (hcell : ∀ y ∈ scope.names, y.2 ≠ .cell) (hnames : ∀ y ∈ scope.names, y.2 = .local → scope.names.lookup y.1 = some .local)
    (hkind : scope.kind = .function := by rfl) (hs : ∀ x, foldedSetIterable iter f.env x = pure x := by intro _; rfl) :
    Ev X k f (.ListComp elt [⟨tgt, iter, ifs, 0⟩] scope pos) (.lst (items.filterMap g)) := by
  intro A s Q R F hQ
  rw [eval_ListComp]
  refine wpAny_comprehension_free (use := none) rfl hs hclos hkind hnames (hsrc A s _ R F fun I fp wr St Mid s₁ s₂ G₁ F₁ G₂ It => ?_)
  refine comp_enter F₁ G₂ It hcell hkind hcv hcl (RR := fun acc cenv s₄ => codeAny (Mo X) A (.compStart (.ListComp elt [⟨tgt, iter, ifs, 0⟩] scope pos) 0 (.ref I) acc cenv) (compPost (Mo X) A (fun _ _ => False) none Q acc cenv.locals) s₄) ?_
  intro C s₄ hC st F₄ hfp
  have loop : codeAny (Mo X) A (.compLoop (.ListComp elt [⟨tgt, iter, ifs, 0⟩] scope pos) 0 (.ref I) (.ref s₂.heap.objs.size) (compEnvC scope cl C f.env)) (compPost (Mo X) A (fun _ _ => False) none Q (.ref s₂.heap.objs.size) C) s₄ := by
    refine comp_loop (cenv := compEnvC scope cl C f.env) (cvars := cvars) (D := s₂.heap.objs.size) g bs R It st (fun p hp => (hel p hp).1) hfp F₄ hz (fun p hp own ys => (hel p hp).2 _ _ _ _ _ _) fun s' F' => ?_
    obtain ⟨⟨m, hn⟩, F'', hr⟩ := comp_leave (f := f) F₁ (C := C) rfl F' (by rw [hC]; exact Nat.le_succ_of_le G₂.size)
    refine ⟨m, hn, fun h'' hs'' => ?_⟩
    have F3 : f.Ok X { s' with heap := h'' } := F''.drop (t := s'.toks) hs'' (ns_notCode hn) F.locs (ns_notCell hn) (fun q => Nat.lt_irrefl _ (Nat.lt_of_lt_of_le (F₁.mu_lt C (F₁.mtab C (.inr (.inr q)))) (by rw [hC]; exact Nat.le_succ_of_le G₂.size)))
    have hge : s₁.heap.objs.size ≤ C := by rw [hC]; exact Nat.le_succ_of_le G₂.size
    refine hQ _ _ (G₁.trans ⟨F3.live, fun b o ht e => ?_, ?_, F'.grow.os, fun b m hb hn => (F'.grow.frm b m hb hn).sameBut hs'' fun q => Nat.lt_irrefl _ (Nat.lt_of_lt_of_le (q ▸ hn.lt) hge), F'.grow.gens⟩) F3 (hr.dropped hs'')
    · have hlt := Heap.lt_size e
      refine (hs''.2 b fun q => ?_).trans (F'.grow.keep b o ht e)
      have hge : s₁.heap.objs.size ≤ C := by rw [hC]; exact Nat.le_succ_of_le G₂.size
      subst q
      exact Nat.lt_irrefl _ (Nat.lt_of_lt_of_le hlt hge)
    · show _ ≤ h''.objs.size
      rw [hs''.1]; exact F'.grow.size
  exact codeAny_compStart_list loop (It.self 0 _ _ _ st loop)

theorem wAssignComp0 {y : Str} {py spos : Pos} {elt iter tgt : Expr} {ifs : List Expr} {scope : Scope} {pos : Pos} {items : List PV} {cl : List (Str × Addr)} {rest : List Stmt} {Ψ} (cvars : List (Str × PV)) (g : PV → Option PV) (bs : PV → List (Str × PV))
    (hsrc : Src X k f tgt iter items) (hcv : CV f scope cl cvars) (hcl : SubC f.env.cells cl) (hel : Elts X k f scope cl cvars tgt ifs elt items g bs) (hz : items.length ≤ sizeLine)
    (hy : f.env.kindOf y = some .local) (hsw : swapsWith (.ListComp elt [⟨tgt, iter, ifs, 0⟩] scope pos) (some (.Name y py)) spos.line f.env = pure true)
    (hclos : closureFor scope f.env = pure cl) (hcell : ∀ y ∈ scope.names, y.2 ≠ .cell) (hnames : ∀ y ∈ scope.names, y.2 = .local → scope.names.lookup y.1 = some .local)
    (h : WS X k (f.upd ((y, .lst (items.filterMap g)) :: f.vars) f.led) rest Ψ) (hkind : scope.kind = .function := by rfl) (hs : ∀ x, foldedSetIterable iter f.env x = pure x := by intro _; rfl) :
    WS X k f (.Assign [.Name y py] (.ListComp elt [⟨tgt, iter, ifs, 0⟩] scope pos) spos :: rest) Ψ := by
  refine WS.step (vars := (y, .lst (items.filterMap g)) :: f.vars) (led := f.led) (fun A s Q R F hQ => ?_) h
  rw [exec_Assign_Name_used _ _ _ _ hsw]
  refine wpAny_bind (wpAny_standAt (wpAny_bind ?_))
  show wpAny _ A (do let _ ← comprehension (.ListComp elt [⟨tgt, iter, ifs, 0⟩] scope pos) scope f.env _ (newList []) false (eval iter f.env) (some (assign (.Name y py) f.env))) _ _ s
  refine wpAny_bind (wpAny_mono (wpAny_comprehension_free (use := some (assign (.Name y py) f.env)) (Q := fun _ s' => Q .next s') rfl hs hclos hkind hnames
    (hsrc A s _ R F fun I fp wr St Mid s₁ s₂ G₁ F₁ G₂ It => ?_)) (fun _ s' hq => wpAny_pure (wpAny_pure hq)) fun _ _ e => e)
  refine comp_enter F₁ G₂ It hcell hkind hcv hcl (RR := fun acc cenv s₄ => codeAny (Mo X) A (.compStart (.ListComp elt [⟨tgt, iter, ifs, 0⟩] scope pos) 0 (.ref I) acc cenv) (compPost (Mo X) A (fun _ _ => False) (some (assign (.Name y py) f.env)) (fun _ s' => Q .next s') acc cenv.locals) s₄) ?_
  intro C s₄ hC st F₄ hfp
  have loop : codeAny (Mo X) A (.compLoop (.ListComp elt [⟨tgt, iter, ifs, 0⟩] scope pos) 0 (.ref I) (.ref s₂.heap.objs.size) (compEnvC scope cl C f.env)) (compPost (Mo X) A (fun _ _ => False) (some (assign (.Name y py) f.env)) (fun _ s' => Q .next s') (.ref s₂.heap.objs.size) C) s₄ := by
    refine comp_loop (cenv := compEnvC scope cl C f.env) (cvars := cvars) (D := s₂.heap.objs.size) g bs R It st (fun p hp => (hel p hp).1) hfp F₄ hz (fun p hp own ys => (hel p hp).2 _ _ _ _ _ _) fun s' F' => ?_
    have hge : s₁.heap.objs.size ≤ C := by rw [hC]; exact Nat.le_succ_of_le G₂.size
    obtain ⟨⟨m, hn⟩, F'', hr⟩ := comp_leave (f := f) F₁ (C := C) rfl F' hge
    have hCL : C ≠ f.env.locals := fun q => by
      have := (F₁.fresh _ (List.mem_append_left _ F₁.locs)).2
      rw [← q] at this
      exact Nat.lt_irrefl _ (Nat.lt_of_lt_of_le this hge)
    show wpAny _ A (assign (.Name y py) f.env (.ref s₂.heap.objs.size)) _ _ _
    refine wpAny_assign_Name (FS.Ok.setLoc' (f := { f with own := C :: f.own }) F'' hy hr fun s5 F5 hs5 hg5 ho5 => ?_)
    have hn5 : s5.heap.Ns C m := hn.sameBut hs5 hCL
    refine ⟨m, hn5, fun h'' hs'' => ?_⟩
    have F6 : (f.upd ((y, .lst (items.filterMap g)) :: f.vars) f.led).Ok X { s5 with heap := h'' } := FS.Ok.drop (f := f.upd ((y, .lst (items.filterMap g)) :: f.vars) f.led) (t := s5.toks) F5 hs'' (ns_notCode hn5) F.locs (ns_notCell hn5) (fun q => Nat.lt_irrefl _ (Nat.lt_of_lt_of_le (F₁.mu_lt C (F₁.mtab C (.inr (.inr q)))) hge))
    refine hQ _ F6 ((Step.grow F G₁).trans ⟨fun b o h1 h2 h3 e => ?_, fun _ h => h, fun _ h => .inl h, fun _ h => .inl h, ?_⟩)
    · have hlt := Heap.lt_size e
      refine (hs''.2 b fun q => ?_).trans ((hs5.2 b fun q => ?_).trans (F'.grow.keep b o (F₁.tabStep h1 h3 e) e))
      · subst q; exact Nat.lt_irrefl _ (Nat.lt_of_lt_of_le hlt hge)
      · subst q
        obtain ⟨m, ⟨o', es, ep, e', d', _⟩, _⟩ := F₁.ns
        have e' : s₁.heap.get? f.env.locals = some o' := e'
        rw [e] at e'; cases e'
        exact h3 F.locs (.inl ⟨_, _, d'⟩)
    · intro b hb
      have h1 : Solid s'.heap b := F'.grow.solid b hb
      have hne : b ≠ C := fun q => by
        subst q; obtain ⟨o, e⟩ := hb; exact Nat.lt_irrefl _ (Nat.lt_of_lt_of_le (Heap.lt_size e) hge)
      have h2 : Solid s5.heap b := by
        obtain ⟨mL, hL, _⟩ := F5.ns
        exact solid_but hs5 (.ns hL) b h1
      exact h2.of fun o e => (hs''.2 b hne).trans e
  exact codeAny_compStart_list loop (It.self 0 _ _ _ st loop)
end
section
variable {X : Wd} {k : Nat} {f : FS}

noncomputable def FS.with (f : FS) (own : List Addr) (vars : List (Str × PV)) (led : List (Addr × MO)) : FS := ⟨f.hs, f.mu, f.env, vars, own, led⟩

theorem forLoop_any {A : Around} {R : Result → Shared → Prop} {s : Shared} {target it body orelse env} (I : Nat → Shared → Prop)
    (turn : ∀ n s, I n s → wpAny (Mo X) A (pyNext it) (fun r s₁ => match r with
      | none => wpAny (Mo X) A (execs orelse env) (fun f s₃ => R (.ok f) s₃) (fun _ _ => False) s₁
      | some v => wpAny (Mo X) A (letOwnedTupleGo target it v) (fun _ s₁' =>
          wpAny (Mo X) A (assign target env v) (fun _ s₂ => wpAny (Mo X) A (execs body env) (fun f s₃ => match f with
            | .next | .cont => ∃ m, m < n ∧ I m s₃
            | .brk => R (.ok .next) s₃
            | .ret v => R (.ok (.ret v)) s₃) (fun _ _ => False) s₂) (fun _ _ => False) s₁') (fun _ _ => False) s₁) (fun _ _ => False) s)
    (n : Nat) (h : I n s) : codeAny (Mo X) A (.forLoop target it body orelse env) R s := by
  have cast : ∀ {α : Type} {t : Sem α} {Q : α → Shared → Prop} {s : Shared}, wpAny (Mo X) A t Q (fun _ _ => False) s → wpAny (Mo X) A t Q (notedBy (Mo X) A env fun e s' => R (.error e) s') s := fun h => wpAny_mono h (fun _ _ x => x) fun _ _ x => x.elim
  refine codeAny_forLoop_any I (fun n s hI => ?_) n h
  refine cast (wpAny_mono (turn n s hI) (fun r s₁ h₁ => ?_) fun _ _ x => x)
  cases r with
  | none => exact cast h₁
  | some v => exact cast (wpAny_mono h₁ (fun _ _ h₂ => cast (wpAny_mono h₂ (fun _ _ h₃ => cast h₃) fun _ _ x => x)) fun _ _ x => x)

/-- a for -/
theorem WS.for {tgt iter : Expr} {body rest : List Stmt} {pos : Pos} {items : List PV} {Ψ} (bs : PV → List (Str × PV)) (J : Nat → List (Str × PV) → List (Addr × MO) → Prop) (hsrc : Src X k f tgt iter items)
    (h0 : J 0 f.vars f.led)
    (turn : ∀ i p vars led own, items[i]? = some p → (∀ b ∈ f.own, b ∈ own) → J i vars led → Binds X k (f.with own vars led) tgt p (bs p) ∧ WS X k (f.with own (bs p ++ vars) led) body (fun fl vars' led' => match fl with
        | .next | .cont => J (i + 1) vars' led'
        | .brk => WS X k (f.with f.own vars' led') rest Ψ
        | .ret q => Ψ (.ret q) vars' led'))
    (fin : ∀ vars led, J items.length vars led → WS X k (f.with f.own vars led) rest Ψ)
    (hs : ∀ x, foldedSetIterable iter f.env x = pure x := by intro _; rfl) : WS X k f (.For tgt iter body [] pos :: rest) Ψ := fun A s Q R F hQ => by
  refine wpAny_execs_cons (wpAny_For (hsrc A s _ R F fun I fp wr St Mid s₁ s₂ G₁ F₁ G₂ It => ?_) hs)
  have F₂ : (f.with (wr ++ f.own) f.vars f.led).Ok X s₂ := F₁.reserve G₂ It.new It.nd (fun b hb => (It.foot b (It.sub b hb)).1)
  obtain ⟨b0, hb0⟩ := List.exists_mem_of_ne_nil _ It.ne
  have tabmu : ∀ b, ¬ f.mu' b → ¬ isTab X b := FS.not_tab F
  have fresh1 : ∀ b o, s₁.heap.get? b = some o → b ∉ wr := fun b o e h => Nat.lt_irrefl _ (Nat.lt_of_lt_of_le (Heap.lt_size e) (It.new b h).1)
  have S₂ : Step f s₁ (f.with (wr ++ f.own) f.vars f.led) s₂ := ⟨fun b o h1 h2 h3 e => G₂.keep b o (F₁.tabStep h1 h3 e) e, fun _ h => h, fun _ h => .inl h, fun b h => (List.mem_append.mp h).elim (fun h => .inr (none_of_le (It.new b h).1)) .inl, G₂.solid⟩
  have leave : ∀ {vars led s' h' t}, (f.with (wr ++ f.own) vars led).Ok X s' → Step f s₁ (f.with (wr ++ f.own) vars led) s' → (∀ b ∈ wr, Iterish s'.heap b) → (∀ b o, b ∉ wr → s'.heap.get? b = some o → h'.get? b = some o) →
      (f.upd vars led).Ok X { s' with heap := h', toks := t } ∧ Step f s₁ (f.upd vars led) { s' with heap := h', toks := t } := fun {vars led s' h' t} F' S' hi hk => by
    have hd : ∀ b ∈ f.own, b ∉ wr := fun b hb hw => by
      have := (List.nodup_append.mp (List.nodup_append.mp F₂.apart).1).2.2 b hw b hb
      exact this rfl
    have F3 := F'.walked (wr := wr) (own' := f.own) (h' := h') (t := t) (fun b hb => List.mem_append_left _ hb) hk hi (List.sublist_append_right _ _) (fun b hb hw => absurd hw (hd b hb)) F.locs (fun b hb hw => (List.mem_append.mp hb).resolve_left hw)
    refine ⟨F3, fun b o h1 h2 h3 e => hk b o (fresh1 b o e) (S'.keep b o h1 h2 h3 e), S'.mu, S'.led, fun b hb => .inl hb, fun b hb => ?_⟩
    obtain ⟨o, e⟩ := hb
    exact (S'.solid b ⟨o, e⟩).of fun o' e' => hk b o' (fresh1 b o e) e'
  have loop : codeAny (Mo X) A (.forLoop tgt (.ref I) body [] f.env) (fun r s' => match r with | .ok fl => (match fl with | .next => wpAny (Mo X) A (execs rest f.env) Q (fun _ _ => False) s' | fl => Q fl s') | .error e => cameBackBy (Mo X) A f.env (fun _ _ => False) e s') s₂ := by
    refine forLoop_any (fun n s' => ∃ i vars led, i ≤ items.length ∧ n = items.length + 1 - i ∧ St i s'.heap ∧ J i vars led ∧ (f.with (wr ++ f.own) vars led).Ok X s' ∧ Step f s₁ (f.with (wr ++ f.own) vars led) s' ∧ ∀ b ∈ fp, b ∉ led.map (·.1) ∧ Solid s'.heap b) ?_ (items.length + 1)
      ⟨0, f.vars, f.led, Nat.zero_le _, rfl, It.st, h0, F₂, S₂, fun b hb => ⟨fun h => (It.foot b hb).2 (.inr (.inr h)), (It.foot b hb).1⟩⟩
    rintro n s' ⟨i, vars, led, hi, rfl, st, hJ, F', S', hfp⟩
    by_cases hlt : i < items.length
    · obtain ⟨p, hp⟩ : ∃ p, items[i]? = some p := ⟨items[i], by simp [hlt]⟩
      have nuOk : ∀ b o, ¬ f.mu' b → s₁.heap.get? b = some o → s'.heap.get? b = some o ∧ ¬ FS.mu' (f.with (wr ++ f.own) vars led) b := fun b o hb e => by
        refine ⟨S'.keeps hb e, fun hm => ?_⟩
        have hlt := Heap.lt_size e
        rcases hm with h | h | h
        · exact hb (.inl h)
        · exact (List.mem_append.mp h).elim (fresh1 b o e) fun h => hb (.inr (.inl h))
        · exact (S'.led b h).elim (fun h => hb (.inr (.inr h))) fun h => by rw [e] at h; cases h
      refine It.item i p _ s' _ hp st nuOk F'.mu_lt fun v h' tk st' hrd hk => ?_
      have ex : ∀ {h : Heap}, (∀ b ∈ wr, Iterish h b) → ∀ b ∈ wr ++ f.own, b ∈ wr → Solid h b := fun H b _ hb => by obtain ⟨o, e, _⟩ := H b hb; exact ⟨o, e⟩
      have Fa := F'.walked (wr := wr) (own' := wr ++ f.own) (h' := h') (t := tk) (fun b hb => List.mem_append_left _ hb) hk (It.odd _ _ st) (List.Sublist.refl _) (ex (It.oddM _ _ _ st')) (List.mem_append_right _ F.locs) (fun b hb _ => hb)
      refine It.go i v _ _ st' fun h'' tk' st'' hk'' => ?_
      have Fb := Fa.walked (wr := wr) (own' := wr ++ f.own) (h' := h'') (t := tk') (fun b hb => List.mem_append_left _ hb) hk'' (It.oddM _ _ _ st') (List.Sublist.refl _) (ex (It.odd _ _ st'')) (List.mem_append_right _ F.locs) (fun b hb _ => hb)
      have hv₂ : Rd h'' (FS.mu' (f.with (wr ++ f.own) vars led)) p v := hrd.mono fun b o hb e => ⟨hk'' b o (fun h => hb (.inr h)) e, fun hm => hb (.inl hm)⟩
      obtain ⟨hB, hW⟩ := turn i p vars led (wr ++ f.own) hp (fun b hb => List.mem_append_right _ hb) hJ
      refine wpAny_mono (hB A _ v _ R Fb hv₂ fun s₃ F₃ S₃ => ?_) (fun _ _ x => x) (fun _ _ x => x.elim)
      refine wpAny_mono (hW A s₃ _ R F₃ fun fl vars' led' g s₄ hp' F₄ S₄ hg => ?_) (fun _ _ x => x) (fun _ _ x => x.elim)
      have Sb := S₃.trans S₄
      have keepfp : ∀ b ∈ fp, ∀ o, h''.get? b = some o → s₄.heap.get? b = some o := fun b hb o e => by
        refine Sb.keep b o (fun h => (It.foot b hb).2 (.inl h)) (hfp b hb).1 (fun h => ?_) e
        rcases List.mem_append.mp h with h | h
        · exact (It.odd _ _ st'' b h).loose e
        · exact absurd (.inr (.inl h)) (It.foot b hb).2
      have st₄ : St (i + 1) s₄.heap := It.frame _ _ _ st'' keepfp
      have sol'' : ∀ b ∈ fp, Solid h'' b := fun b hb => by
        by_cases hw : b ∈ wr
        · obtain ⟨o, e, _⟩ := It.odd _ _ st'' b hw; exact ⟨o, e⟩
        · exact (hfp b hb).2.of fun o e => hk'' b o hw (hk b o hw e)
      have sol1 : ∀ b, Solid s₁.heap b → Solid h'' b := fun b ⟨o, e⟩ => (S'.solid b ⟨o, e⟩).of fun o' e' => hk'' b o' (fresh1 b o e) (hk b o' (fresh1 b o e) e')
      have Sc : Step f s₁ (f.with (wr ++ f.own) vars' led') s₄ := by
        refine ⟨fun b o h1 h2 h3 e => ?_, Sb.mu, fun b hb => ?_, fun b hb => ?_, ?_⟩
        · have hw := fresh1 b o e
          have hl := Heap.lt_size e
          exact Sb.keep b o h1 (fun h => (S'.led b h).elim h2 fun h => by rw [e] at h; cases h) (fun h => (List.mem_append.mp h).elim (fun h => absurd h hw) h3) (hk'' b o hw (hk b o hw (S'.keep b o h1 h2 h3 e)))
        · rcases Sb.led b hb with h | h
          · exact S'.led b h
          · right
            exact none_of_solid (fun c hc => sol1 c hc) h
        · exact (List.mem_append.mp hb).elim (fun h => .inr (none_of_le (It.new b h).1)) .inl
        · exact fun c hc => Sb.solid c (sol1 c hc)
      have out := leave (h' := s₄.heap) (t := s₄.toks) F₄ Sc (It.odd _ _ st₄) (fun _ _ _ e => e)
      have fpn : ∀ b ∈ fp, b ∉ led'.map (·.1) ∧ Solid s₄.heap b := fun b hb => ⟨fun h => (Sb.led b h).elim (hfp b hb).1 fun h => by obtain ⟨o, e⟩ := sol'' b hb; exact absurd (e.symm.trans h) (by intro q; cases q), (sol'' b hb).of (keepfp b hb)⟩
      have S0 := Step.grow F G₁
      cases fl with
      | next => cases hg; exact ⟨items.length + 1 - (i + 1), by omega, i + 1, vars', led', hlt, rfl, st₄, hp', F₄, Sc, fpn⟩
      | cont => cases hg; exact ⟨items.length + 1 - (i + 1), by omega, i + 1, vars', led', hlt, rfl, st₄, hp', F₄, Sc, fpn⟩
      | brk => cases hg; exact hp' A _ Q R out.1 fun fl' vars'' led'' g' s₅ hp'' F₅ S₅ hg' => hQ fl' vars'' led'' g' s₅ hp'' F₅ ((S0.trans out.2).trans S₅) hg'
      | ret q =>
        obtain ⟨v, rfl, hr⟩ := hg
        refine hQ (.ret q) vars' led' _ _ hp' out.1 (S0.trans out.2) ⟨v, rfl, hr.mono fun b o hb e => ⟨e, fun h => hb ?_⟩⟩
        rcases h with h | h | h
        · exact .inl h
        · exact .inr (.inl (List.mem_append_right _ h))
        · exact .inr (.inr h)
    · have hin : i = items.length := by omega
      subst hin
      refine It.done s' _ st fun h' tk hk => ?_
      have out := leave (h' := h') (t := tk) F' S' (It.odd _ _ st) hk
      refine wpAny_execs_nil (fin vars led hJ A _ Q R out.1 fun fl' vars'' led'' g' s₅ hp'' F₅ S₅ hg' => hQ fl' vars'' led'' g' s₅ hp'' F₅ (((Step.grow F G₁).trans out.2).trans S₅) hg')
  exact codeAny_mono loop fun r s' hr => hr
end
section
variable {X : Wd} {k : Nat} {f : FS}

mutual
/-- what a deep value is as data -/
noncomputable def PV.D : PV → PyData
  | .bool b => .bool b
  | .int i => .int i
  | .str s => .str s
  | .lst xs => .list (dataL xs)
  | .tup xs => .tuple (dataL xs)
  | _ => .none
noncomputable def dataL : List PV → List PyData
  | [] => []
  | x :: xs => x.D :: dataL xs
end
mutual
noncomputable def PV.dat : PV → Bool
  | .none | .bool _ | .int _ | .str _ => true
  | .lst xs | .tup xs => datL xs
  | _ => false
noncomputable def datL : List PV → Bool
  | [] => true
  | x :: xs => x.dat && datL xs
end
theorem datL_all (xs : List PV) : datL xs = xs.all PV.dat := by
  induction xs with
  | nil => rfl
  | cons x xs ih => simp [datL, ih]

mutual
theorem Rd.reads {h : Heap} {mu : Addr → Prop} : ∀ {p : PV} {v : Value}, p.dat = true → Rd h mu p v → ∃ as, Reads h v p.D as
  | .none, _, _, x => by cases x; exact ⟨_, .none⟩
  | .bool b, _, _, x => by cases x; exact ⟨_, .bool b⟩
  | .int i, _, _, x => by obtain ⟨t, e⟩ := x; subst e; exact ⟨_, .int i t⟩
  | .str i, _, _, x => by obtain ⟨t, e⟩ := x; subst e; exact ⟨_, .str i t⟩
  | .lst xs, _, hd, x => by
    obtain ⟨a, o, vs, n, e, _, hg, hc, hdd, hl⟩ := x
    subst e
    obtain ⟨as, hr⟩ := RdL.reads (p := xs) (by simpa [PV.dat] using hd) hl
    exact ⟨_, by rw [PV.D]; exact .list hg hc hdd hr⟩
  | .tup xs, _, hd, x => by
    obtain ⟨a, o, vs, n, e, _, hg, hc, hdd, hl⟩ := x
    subst e
    obtain ⟨as, hr⟩ := RdL.reads (p := xs) (by simpa [PV.dat] using hd) hl
    exact ⟨_, by rw [PV.D]; exact .tuple hg hc hdd hr⟩
  | .raw _, _, hd, _ => by simp [PV.dat] at hd
  | .inst _ _, _, hd, _ => by simp [PV.dat] at hd
theorem RdL.reads {h : Heap} {mu : Addr → Prop} : ∀ {p : List PV} {v : List Value}, datL p = true → RdL h mu p v → ∃ as, ReadsAll h v (dataL p) as
  | [], _, _, x => by cases x; exact ⟨_, .nil⟩
  | x :: xs, _, hd, y => by
    obtain ⟨v, r, e, hv, hl⟩ := y
    subst e
    simp only [datL, Bool.and_eq_true] at hd
    obtain ⟨as, h1⟩ := Rd.reads hd.1 hv
    obtain ⟨bs, h2⟩ := RdL.reads hd.2 hl
    exact ⟨_, .cons h1 h2⟩
end

theorem Room.deep {A : Around} (R : Room X A (k + 4)) : A.units + 64 < cLine := Nat.lt_of_le_of_lt (by omega) R.2.2.1

theorem eq_dd {p q : PV} (hp : p.dat = true) (hq : q.dat = true) (hp' : SeqAt.shaped p.D = true) (hq' : SeqAt.shaped q.D = true) : Op2 X (k + 4) p q (compareOp .Eq) (.bool (PyData.eqv p.D q.D)) := op_of fun A s mu v w Q R S hv hw hQ => by
  obtain ⟨as, ra⟩ := hv.reads hp
  obtain ⟨bs, rb⟩ := hw.reads hq
  exact SeqAt.compareEq_shaped ra rb hp' hq' R.deep (hQ _ s.toks rfl)
theorem ne_dd {p q : PV} (hp : p.dat = true) (hq : q.dat = true) (hp' : SeqAt.shaped p.D = true) (hq' : SeqAt.shaped q.D = true) : Op2 X (k + 4) p q (compareOp .NotEq) (.bool (!PyData.eqv p.D q.D)) := op_of fun A s mu v w Q R S hv hw hQ => by
  obtain ⟨as, ra⟩ := hv.reads hp
  obtain ⟨bs, rb⟩ := hw.reads hq
  exact SeqAt.compareNe_shaped ra rb hp' hq' R.deep (hQ _ s.toks rfl)

theorem RdL.mem {h mu} : ∀ {xs : List PV} {vs : List Value}, RdL h mu xs vs → ∀ {v : Value}, v ∈ vs → ∃ p ∈ xs, Rd h mu p v
  | [], _, x, _, hv => by cases x; simp at hv
  | p :: xs, _, ⟨u, r, e, hu, hr⟩, v, hv => by
    subst e
    rcases List.mem_cons.mp hv with rfl | hv
    · exact ⟨p, .head _, hu⟩
    · obtain ⟨q, hq, h⟩ := hr.mem hv
      exact ⟨q, .tail _ hq, h⟩

/-- one value among others: what they are told apart by must not lean on the object -/
theorem any_rd {h mu} {e : Value → Bool} {g : PV → Bool} : ∀ {xs : List PV} {vs : List Value}, RdL h mu xs vs → (∀ p ∈ xs, ∀ v, Rd h mu p v → e v = g p) → vs.any e = xs.any g
  | [], _, x, _ => by cases x; rfl
  | p :: xs, _, ⟨u, r, q, hu, hr⟩, k => by
    subst q
    simp only [List.any_cons]
    rw [k p (.head _) u hu, any_rd hr fun p hp => k p (.tail _ hp)]

open Classical in
noncomputable def hits (h : Heap) (x : PyData) (v : Value) : Bool := if H : ∃ d, ∃ as, Reads h v d as then PyData.eqv H.choose x else false
theorem hits_of {h : Heap} {x d : PyData} {v : Value} {as : List Addr} (r : Reads h v d as) : hits h x v = PyData.eqv d x := by
  unfold hits
  have H : ∃ d, ∃ as, Reads h v d as := ⟨d, as, r⟩
  rw [dif_pos H]
  obtain ⟨as', r'⟩ := H.choose_spec
  rw [(r.unique _ _ r').1]
theorem in_facts {A : Around} {s : Shared} {mu : Addr → Prop} {p : PV} {xs : List PV} {v : Value} {vs : List Value} (R : Room X A (k + 5)) (hv : Rd s.heap mu p v) (hx : RdL s.heap mu xs vs) (hp : p.dat = true) (hp' : SeqAt.shaped p.D = true) (hq : xs.all PV.dat = true) (hq' : ∀ x ∈ xs, SeqAt.shaped x.D = true) :
    (∀ y, y ∈ vs → SeqAt.EqAt A.in1 s y v (hits s.heap p.D y)) ∧ vs.any (hits s.heap p.D) = xs.any fun y => PyData.eqv y.D p.D := by
  obtain ⟨as, ra⟩ := hv.reads hp
  have R' : A.in1.units + 64 < cLine := Nat.lt_of_le_of_lt (show A.units + 1 + 64 ≤ _ by omega) R.2.2.1
  refine ⟨fun y hy => ?_, any_rd hx fun q hqm u hu => ?_⟩
  · obtain ⟨q, hqm, hr⟩ := hx.mem hy
    obtain ⟨bs, rb⟩ := hr.reads (List.all_eq_true.mp hq q hqm)
    rw [hits_of rb]
    exact SeqAt.eqAt_reads _ _ _ s _ _ _ _ rb ra (SeqAt.canLay_of_shaped (hq' q hqm)) (SeqAt.canLay_of_shaped hp') (SeqAt.room_of_shaped (hq' q hqm) R')
  · obtain ⟨bs, rb⟩ := hu.reads (List.all_eq_true.mp hq q hqm)
    exact hits_of rb
theorem in_l {p : PV} {xs : List PV} (hp : p.dat = true) (hp' : SeqAt.shaped p.D = true) (hq : xs.all PV.dat = true) (hq' : ∀ x ∈ xs, SeqAt.shaped x.D = true) : Op2 X (k + 5) p (.lst xs) (compareOp .In) (.bool (xs.any fun y => PyData.eqv y.D p.D)) := op_of fun A s mu v w Q R S hv hw hQ => by
  obtain ⟨a, o, vs, n, rfl, _, h1, h2, h3, h4⟩ := hw
  obtain ⟨e1, e2⟩ := in_facts R hv h4 hp hp' hq hq'
  refine SeqAt.in_listAt (hits s.heap p.D) ⟨o, h1, h2, n, h3⟩ (fun y hy => e1 y (by simpa using hy)) ?_
  rw [← Array.any_toList, e2]
  exact hQ _ s.toks rfl
theorem nin_l {p : PV} {xs : List PV} (hp : p.dat = true) (hp' : SeqAt.shaped p.D = true) (hq : xs.all PV.dat = true) (hq' : ∀ x ∈ xs, SeqAt.shaped x.D = true) : Op2 X (k + 5) p (.lst xs) (compareOp .NotIn) (.bool (!xs.any fun y => PyData.eqv y.D p.D)) := op_of fun A s mu v w Q R S hv hw hQ => by
  obtain ⟨a, o, vs, n, rfl, _, h1, h2, h3, h4⟩ := hw
  obtain ⟨e1, e2⟩ := in_facts R hv h4 hp hp' hq hq'
  refine SeqAt.notIn_listAt (hits s.heap p.D) ⟨o, h1, h2, n, h3⟩ (fun y hy => e1 y (by simpa using hy)) ?_
  rw [← Array.any_toList, e2]
  exact hQ _ s.toks rfl
theorem in_t {p : PV} {xs : List PV} (hp : p.dat = true) (hp' : SeqAt.shaped p.D = true) (hq : xs.all PV.dat = true) (hq' : ∀ x ∈ xs, SeqAt.shaped x.D = true) : Op2 X (k + 5) p (.tup xs) (compareOp .In) (.bool (xs.any fun y => PyData.eqv y.D p.D)) := op_of fun A s mu v w Q R S hv hw hQ => by
  obtain ⟨a, o, vs, n, rfl, _, h1, h2, h3, h4⟩ := hw
  obtain ⟨e1, e2⟩ := in_facts R hv h4 hp hp' hq hq'
  refine SeqAt.in_tupleAt (hits s.heap p.D) ⟨o, h1, h2, n, h3⟩ (fun y hy => e1 y (by simpa using hy)) ?_
  rw [← Array.any_toList, e2]
  exact hQ _ s.toks rfl
end
section
variable {X : Wd} {k : Nat} {f : FS}

/-- a call, left open -/
theorem EvCall {fe e : Expr} {es : List Expr} {pos : Pos} {v : Value} {ps : List PV} (hf : Ev X k f fe (.raw v)) (hk : Kept X v) (ha : EvL X k f pos (e :: es) ps)
    {A : Around} {s : Shared} {Q : Value → Shared → Prop} (R : Room X A k) (F : f.Ok X s) (h : ∀ vs s', Grow X s s' → f.Ok X s' → RdL s'.heap f.mu' ps vs → wpAny (Mo X) A (call v vs) Q (fun _ _ => False) s')
    (hs : Each (fun e' => ∀ r, starEach (e' :: r) f.env = (false, eval e' f.env) :: starEach r f.env) (e :: es) := by repeat (first | exact True.intro | refine ⟨fun _ => rfl, ?_⟩))
    (he : eval (.Call fe (e :: es) [] pos) f.env = (do callWith pos (← eval fe f.env) [] (backTo pos (starEach (e :: es) f.env)) (backToKw pos (keywordEach [] f.env))) := by rfl) : wpAny (Mo X) A (eval (.Call fe (e :: es) [] pos) f.env) Q (fun _ _ => False) s := by
  have hs := hs.get
  refine Call_ (hf A s _ R F fun w s₁ G₁ F₁ h₁ => ?_) he
  cases h₁
  refine callWith_of (P := Live X) (by rw [EvL.len hs]; rfl) hk ?_
  rw [hs e (.head _)]
  refine Calls.evalArgs_plain ?_
  show wpAny _ _ (spliced (backTo pos ((false, eval e f.env) :: starEach es f.env))) _ _ _
  rw [← hs e (.head _)]
  exact ha A s₁ _ R F₁ fun vs s₂ G₂ F₂ h₂ => ⟨F₂.live, h vs s₂ (G₁.trans G₂) F₂ h₂⟩

theorem range_small {n : Nat} (h : (n : Int) < 2 ^ 62) : Builtin.Range.small 0 n 1 = true ∧ Builtin.Range.rangeSize 0 n 1 = ((n : Nat) : Int) := by
  have e : Builtin.Range.rangeSize 0 n 1 = ((n : Nat) : Int) := by
    unfold Builtin.Range.rangeSize
    simp
    omega
  refine ⟨?_, e⟩
  have fits : ∀ i : Int, 0 ≤ i → i < 2 ^ 62 → Builtin.Range.rangeFitsLong i = true := fun i h0 h1 => by
    unfold Builtin.Range.rangeFitsLong
    rw [Bool.and_eq_true, decide_eq_true_eq, decide_eq_true_eq]
    omega
  unfold Builtin.Range.small
  rw [e, fits 0 (by decide) (by decide), fits n (by omega) h, fits 1 (by decide) (by decide)]
  have : (n : Int) + (1 - 1) = n := by omega
  rw [this, fits n (by omega) h]
  simp

/-- what a walk of pairs gives, for a target that is a tuple -/
theorem Itr.ofT {A : Around} {elts : List Expr} {kk : Nat} {pt : Pos} {s₁ s₂ : Shared} {mu : Addr → Prop} {I : Addr} {fp wr : List Addr} {items : List PV} {Pt : Nat → Array Value → Prop} {St : Nat → Heap → Prop} {Mid : Nat → Addr → Heap → Prop}
    (W : WalksT prog X.w A I fp wr items.length Pt St Mid) (val : ∀ i p vals, items[i]? = some p → Pt i vals → ∃ ps, p = .tup ps ∧ RdL s₁.heap mu ps vals.toList) (odd : ∀ i h, St i h → ∀ b ∈ wr, Iterish h b) (oddM : ∀ i T h, Mid i T h → ∀ b ∈ wr, Iterish h b) (nd : wr.Nodup) (st : St 0 s₂.heap)
    (new : ∀ b ∈ wr, s₁.heap.objs.size ≤ b ∧ b < s₂.heap.objs.size) (foot : ∀ b ∈ fp, Solid s₂.heap b ∧ ¬ mu b) (ne : wr ≠ []) : Itr X A (.Tuple elts kk pt) s₁ s₂ mu I fp wr items St (fun i v h => ∃ T, v = .ref T ∧ Mid i T h) where
  item := fun i p nu s Q hp hst hkk hnu hQ => by
    have hlt : i < items.length := (List.getElem?_eq_some_iff.mp hp).1
    refine W.item i s Q _ hlt hst fun T vals h' tk hP hT hIs st' hk => hQ (.ref T) h' tk ⟨T, rfl, st'⟩ ?_ hk
    obtain ⟨ps, rfl, hr⟩ := val i p vals hp hP
    obtain ⟨o, e1, e2, n, e3⟩ := hIs
    refine ⟨T, o, vals, n, rfl, fun h => h.elim (fun h => absurd (hnu T h) (Nat.not_lt.mpr hT)) (W.apart _ _ _ st'), e1, e2, e3, ?_⟩
    refine hr.mono fun b o hb e => ⟨?_, fun h => h.elim (hkk b o hb e).2 fun hw => Nat.lt_irrefl _ (Nat.lt_of_lt_of_le (Heap.lt_size e) (new b hw).1)⟩
    exact hk b o (fun hw => Nat.lt_irrefl _ (Nat.lt_of_lt_of_le (Heap.lt_size e) (new b hw).1)) (hkk b o hb e).1
  go := fun i v s Q ⟨T, e, hm⟩ hQ => by subst e; exact W.go elts kk pt i T s Q _ hm fun h' st' hk => hQ h' s.toks st' hk
  done := fun s Q hst hQ => W.done s Q _ hst hQ
  self := W.self
  frame := W.frame
  sub := W.sub
  odd := odd
  oddM := fun i v h ⟨T, _, hm⟩ => oddM _ _ _ hm
  nd := nd
  st := st
  new := new
  foot := foot
  ne := ne

theorem Src.range (C : Cx X) {e : Expr} {n : Nat} {p1 p2 : Pos} {x : Str} {px : Pos} (h : Ev X k f e (.int n)) (hn : (n : Int) < 2 ^ 62) (hl : f.env.kindOf "range" = some .globalImplicit) (hs : ∀ r, starEach (e :: r) f.env = (false, eval e f.env) :: starEach r f.env := by intro _; rfl) :
    Src X k f (.Name x px) (.Call (.Name "range" p1) [e] [] p2) (upto n) := by
  intro A s Q R F hQ
  have hf : Ev X k f (.Name "range" p1) (.raw (.type "range")) := Ev.blt C (fun P => by kernel_rfl) (by decide +kernel) hl
  refine EvCall (hs := ⟨hs, trivial⟩) hf Kept.ty (EvL.cons h EvL.nil (hs _)) R F fun vs s₁ G₁ F₁ h₁ => ?_
  obtain ⟨v, r, rfl, ⟨t, rfl⟩, hr⟩ := h₁
  cases hr
  refine callType_new PySem.F.called_range (by decide) (PySem.F.typeCall_range_1 _) (PySem.F.newCall_range_1 _) (fun obj => PySem.F.initArgs_range_1 obj _) PySem.F.entry_range_new
    (AutoRange.range___new___type_int_0 (n : Int) t (by rw [isSubtype_type]; kernel_rfl)) ?_
  refine ⟨⟨_, Heap.get?_push_size _ rfl, rfl⟩, ?_⟩
  have G₂ : Grow X s₁ { s₁ with heap := s₁.heap.push { cls := Value.type "range", data := Data.fields #[Value.int 0 s₁.toks, Value.int n t, Value.int 1 (s₁.toks + 1)] }, toks := s₁.toks + 1 + 1 } := .push F₁.live
  have F₂ := F₁.grown F₁.live G₂
  have hr := range_small hn
  refine wpAny_pyIter_range (Heap.get?_push_size _ rfl) hr.1 ?_
  rw [hr.2]
  have G₃ := @Grow.push X _ { cls := .type "range_iterator", data := .fields #[rawInt 0, rawInt ((n : Nat) : Int), rawInt 1] } (s₁.toks + 1 + 1) F₂.live
  have hlen : (upto n).length = n := by simp [upto]
  have hW : ∀ I, Walks prog X.w A I [I] [I] (upto n).length (fun i v => ∃ t, v = .int (0 + i * 1) t) (fun i h => IsRangeIter h I (0 + (i : Nat) * 1) ((n : Int) - (i : Nat)) 1) := fun I => by
    rw [hlen]; exact Walks.range (prog := prog) (w := X.w) R.hd I 0 1 n
  refine hQ _ _ _ _ _ _ _ (G₁.trans G₂) F₂ G₃ (Itr.ofW (hW _) (fun i p v hp hv => ?_) (fun i h st b hb => ?_) (by simp) ?_ (fun b hb => ?_) (fun b hb => ?_) (by simp))
  · obtain ⟨t, rfl⟩ := hv
    have hi : i < n := by have := (List.getElem?_eq_some_iff.mp hp).1; rwa [hlen] at this
    simp only [upto, List.getElem?_map, List.getElem?_range hi, Option.map_some, Option.some.injEq] at hp
    subst hp
    exact ⟨t, by simp⟩
  · simp only [List.mem_singleton] at hb; subst hb
    exact ⟨_, st, .inl ⟨_, rfl, fun q t => by simp [PySem.rawInt]⟩⟩
  · have := Heap.get?_push_size (s₁.heap.push { cls := Value.type "range", data := Data.fields #[Value.int 0 s₁.toks, Value.int n t, Value.int 1 (s₁.toks + 1)] }) (o := { cls := .type "range_iterator", data := .fields #[rawInt 0, rawInt ((n : Nat) : Int), rawInt 1] }) rfl
    simpa using this
  · simp only [List.mem_singleton] at hb; subst hb
    exact ⟨Nat.le_refl _, Nat.lt_of_lt_of_eq (Nat.lt_succ_self _) (Heap.size_push (Heap.push _ _) _).symm⟩
  · simp only [List.mem_singleton] at hb; subst hb
    exact ⟨⟨_, Heap.get?_push_size _ rfl⟩, F₂.sane.new⟩

noncomputable def pairsUp (xs : List PV) : List PV := xs.zipIdx.map fun p => .tup [.int (p.2 : Nat), p.1]
theorem Src.enum (C : Cx X) {e : Expr} {xs : List PV} {p1 p2 : Pos} {elts : List Expr} {kk : Nat} {pt : Pos} (h : Ev X k f e (.lst xs)) (hl : f.env.kindOf "enumerate" = some .globalImplicit) (hs : ∀ r, starEach (e :: r) f.env = (false, eval e f.env) :: starEach r f.env := by intro _; rfl) :
    Src X k f (.Tuple elts kk pt) (.Call (.Name "enumerate" p1) [e] [] p2) (pairsUp xs) := by
  intro A s Q R F hQ
  have hf : Ev X k f (.Name "enumerate" p1) (.raw (.type "enumerate")) := Ev.blt C (fun P => by kernel_rfl) (by decide +kernel) hl
  refine EvCall (hs := ⟨hs, trivial⟩) hf Kept.ty (EvL.cons h EvL.nil (hs _)) R F fun vs s₁ G₁ F₁ h₁ => ?_
  obtain ⟨v, r, rfl, ⟨a, o, vs, n, rfl, hm, h1, h2, h3, h4⟩, hr⟩ := h₁
  cases hr
  have hlt := Heap.lt_size h1
  refine call_enumerate_list ⟨o, h1, h2, n, h3⟩ fun h' he hit hsz hk => ?_
  refine wpAny_pyIter_enum he ?_
  have live : Live X h' := F₁.live.kept hk (by rw [hsz]; omega)
  have G₂ : Grow X s₁ { s₁ with heap := h' } := .all live hk (by show _ ≤ h'.objs.size; rw [hsz]; omega) rfl rfl
  have hlen : (pairsUp xs).length = vs.size := by simp [pairsUp, h4.size]
  have hW := WalksT.enumerate (prog := prog) (w := X.w) R.hd (s₁.heap.objs.size + 1) s₁.heap.objs.size a (by simp) (Nat.ne_of_lt (Nat.lt_succ_of_lt hlt)) (Nat.ne_of_lt hlt) vs
  rw [← hlen] at hW
  refine hQ _ _ _ _ _ s₁ _ G₁ F₁ G₂ (Itr.ofT hW (fun i p vals hp hv => ?_) (fun i h st b hb => ?_) (fun i T h st b hb => ?_) (by simp) ⟨⟨_, he⟩, hit, ⟨o, hk _ _ h1, h2, n, h3⟩⟩ (fun b hb => ?_) (fun b hb => ?_) (by simp))
  · obtain ⟨t, x, hx, rfl⟩ := hv
    have hi : i < xs.length := by have := (List.getElem?_eq_some_iff.mp hp).1; rwa [hlen, h4.size] at this
    simp only [pairsUp, List.getElem?_map, List.getElem?_zipIdx, List.getElem?_eq_getElem hi, Option.map_some, Option.some.injEq] at hp
    subst hp
    obtain ⟨u, hu, hr⟩ := h4.get (List.getElem?_eq_getElem hi)
    rw [Array.getElem?_toList, hx] at hu; cases hu
    exact ⟨_, rfl, _, _, rfl, ⟨t, by simp⟩, _, _, rfl, hr, rfl⟩
  · obtain ⟨⟨old, q1⟩, ⟨oi, q2, _, q3⟩, _⟩ := st
    simp only [List.mem_cons, List.not_mem_nil, or_false] at hb
    rcases hb with rfl | rfl
    · exact ⟨_, q1, .inl ⟨_, rfl, fun q t => by simp⟩⟩
    · exact ⟨_, q2, .inl ⟨_, q3, fun q t => by simp⟩⟩
  · obtain ⟨⟨old, q1⟩, ⟨oi, q2, _, q3⟩, _⟩ := st
    simp only [List.mem_cons, List.not_mem_nil, or_false] at hb
    rcases hb with rfl | rfl
    · exact ⟨_, q1, .inl ⟨_, rfl, fun q t => by simp⟩⟩
    · exact ⟨_, q2, .inl ⟨_, q3, fun q t => by simp⟩⟩
  · have hsz : h'.objs.size = s₁.heap.objs.size + 2 := hsz
    simp only [List.mem_cons, List.not_mem_nil, or_false] at hb
    rcases hb with rfl | rfl
    · exact ⟨Nat.le_succ _, by show _ < h'.objs.size; rw [hsz]; exact Nat.lt_succ_self _⟩
    · exact ⟨Nat.le_refl _, by show _ < h'.objs.size; rw [hsz]; omega⟩
  · simp only [List.mem_cons, List.not_mem_nil, or_false] at hb
    rcases hb with rfl | rfl | rfl
    · exact ⟨⟨_, he⟩, fun q => absurd (F₁.mu_lt _ q) (Nat.not_lt.mpr (Nat.le_succ _))⟩
    · obtain ⟨oi, q2, _⟩ := hit; exact ⟨⟨_, q2⟩, F₁.sane.new⟩
    · exact ⟨⟨_, hk _ _ h1⟩, hm⟩
end
section
variable {X : Wd} {k : Nat} {f : FS}

/-- a zip's objects, apart -/
structure ZAp (z TI TO i1 i2 : Addr) (fp1 fp2 : List Addr) : Prop where
  nd : [z, TI, TO, i1, i2].Nodup
  f1 : ∀ b ∈ fp1, b ≠ z ∧ b ≠ TO ∧ b ≠ i2
  f2 : ∀ b ∈ fp2, b ≠ z ∧ b ≠ TO ∧ b ≠ i1
  m1 : i1 ∈ fp1
  m2 : i2 ∈ fp2

section
variable {z TI TO i1 i2 : Addr} {fp1 fp2 : List Addr} {n1 n2 : Nat} {P1 P2 : Nat → Value → Prop} {St1 St2 : Nat → Heap → Prop}
noncomputable abbrev zst (z TI TO i1 i2 : Addr) (St1 St2 : Nat → Heap → Prop) (i : Nat) (h : Heap) : Prop := IsZip h z TI TO .none ∧ IsPair h TI (.ref i1) (.ref i2) ∧ (∃ a b, IsPair h TO a b) ∧ St1 i h ∧ St2 i h
noncomputable abbrev zmid (z TI TO i1 i2 : Addr) (St1 St2 : Nat → Heap → Prop) (i : Nat) (T : Addr) (h : Heap) : Prop := IsZip h z TI TO (rawInt T) ∧ IsPair h TI (.ref i1) (.ref i2) ∧ (∃ a b, IsPair h TO a b) ∧ St1 (i + 1) h ∧ St2 (i + 1) h ∧ T ∉ [z, TO, i1, i2]

theorem ZAp.ne (D : ZAp z TI TO i1 i2 fp1 fp2) : (z ≠ TI ∧ z ≠ TO ∧ z ≠ i1 ∧ z ≠ i2) ∧ (TI ≠ TO ∧ TI ≠ i1 ∧ TI ≠ i2) ∧ (TO ≠ i1 ∧ TO ≠ i2) ∧ i1 ≠ i2 := by
  have := D.nd
  simp only [List.nodup_cons, List.mem_cons, List.not_mem_nil, or_false, not_or] at this
  exact ⟨⟨this.1.1, this.1.2.1, this.1.2.2.1, this.1.2.2.2⟩, ⟨this.2.1.1, this.2.1.2.1, this.2.1.2.2⟩, ⟨this.2.2.1.1, this.2.2.1.2⟩, this.2.2.2.1⟩

theorem zip_item {A : Around} {s : Shared} {i : Nat} {Q : Value → Shared → Prop} {E : Value → Shared → Prop} (D : ZAp z TI TO i1 i2 fp1 fp2) (D1 : Draws prog X.w A i1 fp1 n1 P1 St1) (D2 : Draws prog X.w A i2 fp2 n2 P2 St2) (h1 : i < n1) (h2 : i < n2) (hst : zst z TI TO i1 i2 St1 St2 i s.heap)
    (hQ : ∀ x y h' tk, P1 i x → P2 i y → zmid z TI TO i1 i2 St1 St2 i s.heap.objs.size h' → IsPair h' s.heap.objs.size x y → (∀ b o, b ∉ [z, TO, i1, i2] → s.heap.get? b = some o → h'.get? b = some o) → Q (.ref s.heap.objs.size) { s with heap := h', toks := tk }) :
    wpAny (Mo X) A (Builtin.«zip.__next__» ⟨[.ref z], []⟩) (fun fin s' => ∃ v, fin = .done (.ret v) ∧ Q v s') E s := by
  obtain ⟨hz, hTI, ⟨a, b, hTO⟩, s1, s2⟩ := hst
  obtain ⟨⟨zTI, zTO, z1, z2⟩, ⟨TITO, TI1, TI2⟩, ⟨TO1, TO2⟩, i12⟩ := D.ne
  show wpAny _ _ (field (.ref z) 2 >>= _) _ _ _
  refine wpAny_bind (wpAny_field hz rfl (x := .bool false) rfl ?_)
  show wpAny _ _ (field (.ref z) 3 >>= _) _ _ _
  refine wpAny_bind (wpAny_field hz rfl (x := .ref TI) rfl ?_)
  refine wpAny_bind (wpAny_seqItems hTI rfl ?_)
  show wpAny _ _ (Builtin.SmallTypes.ownedTupleIsFree (.ref z) >>= _) _ _ _
  refine wpAny_bind ?_
  unfold Builtin.SmallTypes.ownedTupleIsFree
  refine wpAny_bind (wpAny_field hz rfl (x := .none) rfl (wpAny_pure ?_))
  simp only [if_true]
  refine wpAny_bind (wpAny_rule ?_)
  refine wpAny_bind (wpAny_field hz rfl (x := .ref TO) rfl ?_)
  refine wpAny_bind (wpAny_setField_rec hz (by simp) fun ha hza hsa => ?_)
  replace hza : IsZip ha z TI TO .ellipsis := hza
  refine wpAny_bind ?_
  simp only [List.zipIdx_cons, List.zipIdx_nil, List.forIn_cons, List.forIn_nil]
  refine wpAny_bind (wpAny_bind (wpAny_onRaise ?_))
  show wpAny _ _ (Builtin.SmallTypes.nextOf (.ref i1) >>= _) _ _ _
  refine wpAny_bind (D1.item i _ _ _ h1 (D1.frame _ _ _ s1 fun c hc o e => hsa.extBut _ _ (D.f1 c hc).1 e) fun x hb tb p1 s1b hsb => wpAny_pure ?_)
  have hTOb : IsPair hb TO a b := hsb.extBut _ _ TO1 (hsa.extBut _ _ (Ne.symm zTO) hTO)
  refine wpAny_bind (wpAny_seqItems hTOb rfl ?_)
  refine wpAny_bind (wpAny_updateSeq_pair hTOb fun hc hTOc hsc => ?_)
  replace hTOc : IsPair hc TO x b := hTOc
  refine wpAny_bind (wpAny_letGo (wpAny_pure ?_))
  refine wpAny_bind (wpAny_bind (wpAny_onRaise ?_))
  show wpAny _ _ (Builtin.SmallTypes.nextOf (.ref i2) >>= _) _ _ _
  have s2c : St2 i hc := D2.frame _ _ _ s2 fun c hcm o e => hsc.extBut _ _ (D.f2 c hcm).2.1 (hsb.extBut _ _ (D.f2 c hcm).2.2 (hsa.extBut _ _ (D.f2 c hcm).1 e))
  refine wpAny_bind (D2.item i _ _ _ h2 s2c fun y hd td p2 s2d hsd => wpAny_pure ?_)
  replace hsd : Heap.SameBut i2 hc hd := hsd
  have hTOd : IsPair hd TO x b := hsd.extBut _ _ TO2 hTOc
  refine wpAny_bind (wpAny_seqItems hTOd rfl ?_)
  refine wpAny_bind (wpAny_updateSeq_pair hTOd fun he hTOe hse => ?_)
  replace hTOe : IsPair he TO x y := hTOe
  replace hse : Heap.SameBut TO hd he := hse
  refine wpAny_bind (wpAny_letGo (wpAny_pure (wpAny_pure ?_)))
  refine wpAny_bind (wpAny_seqItems hTOe rfl ?_)
  refine wpAny_bind (wpAny_newTuple ?_)
  have hsz : he.objs.size = s.heap.objs.size := by rw [hse.1, hsd.1, hsc.1, hsb.1, hsa.1]
  have hze : IsZip he z TI TO .ellipsis := hse.extBut _ _ zTO (hsd.extBut _ _ z2 (hsc.extBut _ _ zTO (hsb.extBut _ _ z1 hza)))
  have hke : ∀ c o, c ∉ [z, TO, i1, i2] → s.heap.get? c = some o → he.get? c = some o := fun c o cn e => by
    simp only [List.mem_cons, List.not_mem_nil, or_false, not_or] at cn
    exact hse.extBut _ _ cn.2.1 (hsd.extBut _ _ cn.2.2.2 (hsc.extBut _ _ cn.2.1 (hsb.extBut _ _ cn.2.2.1 (hsa.extBut _ _ cn.1 e))))
  have s1e : St1 (i + 1) he := D1.frame _ _ _ s1b fun c hcm o e => hse.extBut _ _ (D.f1 c hcm).2.1 (hsd.extBut _ _ (D.f1 c hcm).2.2 (hsc.extBut _ _ (D.f1 c hcm).2.1 e))
  have s2e : St2 (i + 1) he := D2.frame _ _ _ s2d fun c hcm o e => hse.extBut _ _ (D.f2 c hcm).2.1 e
  have lt : ∀ {c o}, he.get? c = some o → c ≠ he.objs.size := fun e => Nat.ne_of_lt (Heap.lt_size e)
  show wpAny _ _ (Builtin.SmallTypes.ownedTupleHandOut (.ref z) (.ref he.objs.size) >>= _) _ _ _
  refine wpAny_bind ?_
  unfold Builtin.SmallTypes.ownedTupleHandOut
  have hz6 : IsZip (he.push { cls := .type "tuple", data := .seq #[x, y] }) z TI TO .ellipsis := Heap.get?_push_of_some _ hze
  refine wpAny_bind (wpAny_setField_rec hz6 (by simp) fun h7 hz7 hs7 => ?_)
  replace hz7 : IsZip h7 z TI TO (rawInt he.objs.size) := hz7
  refine wpAny_setField_rec hz7 (by simp) fun h8 hz8 hs8 => ?_
  replace hz8 : IsZip h8 z TI TO (rawInt he.objs.size) := hz8
  have up : ∀ c o, c ≠ z → he.get? c = some o → h8.get? c = some o := fun c o c1 e => hs8.extBut _ _ c1 (hs7.extBut _ _ c1 (Heap.get?_push_of_some _ e))
  have hT8 : IsPair h8 he.objs.size x y := hs8.extBut _ _ (lt hze).symm (hs7.extBut _ _ (lt hze).symm (Heap.get?_push_size _ rfl))
  refine wpAny_pure ⟨_, rfl, ?_⟩
  show Q (.ref he.objs.size) _
  obtain ⟨o1, e1⟩ := D1.live _ _ s1e
  obtain ⟨o2, e2⟩ := D2.live _ _ s2e
  have nT : he.objs.size ∉ [z, TO, i1, i2] := by
    simp only [List.mem_cons, List.not_mem_nil, or_false, not_or]
    exact ⟨(lt hze).symm, (lt hTOe).symm, (lt e1).symm, (lt e2).symm⟩
  rw [hsz] at hz8 hT8 nT ⊢
  exact hQ x y h8 td p1 p2 ⟨hz8, up _ _ (Ne.symm zTI) (hke _ _ (by simp only [List.mem_cons, List.not_mem_nil, or_false, not_or]; exact ⟨Ne.symm zTI, TITO, TI1, TI2⟩) hTI), ⟨_, _, up _ _ (Ne.symm zTO) hTOe⟩,
    D1.frame _ _ _ s1e fun c hc o e => up _ _ (D.f1 c hc).1 e, D2.frame _ _ _ s2e fun c hc o e => up _ _ (D.f2 c hc).1 e, nT⟩ hT8
    fun c o cn e => up c o (fun q => cn (by simp [q])) (hke c o cn e)

theorem zip_end {A : Around} {s : Shared} {i : Nat} {Q : Fin → Shared → Prop} {E : Value → Shared → Prop} (hh : A.handled = none) (D : ZAp z TI TO i1 i2 fp1 fp2) (D1 : Draws prog X.w A i1 fp1 n1 P1 St1) (D2 : Draws prog X.w A i2 fp2 n2 P2 St2) (hi : i = min n1 n2) (hst : zst z TI TO i1 i2 St1 St2 i s.heap)
    (hE : ∀ h' e tk, (∀ b o, b ∉ [z, TO, i1, i2] → s.heap.get? b = some o → h'.get? b = some o) → (∃ o, h'.get? e = some o ∧ o.cls = .type "StopIteration") → E (.ref e) { s with heap := h', toks := tk }) :
    wpAny (Mo X) A (Builtin.«zip.__next__» ⟨[.ref z], []⟩) Q E s := by
  obtain ⟨hz, hTI, ⟨a, b, hTO⟩, s1, s2⟩ := hst
  obtain ⟨⟨zTI, zTO, z1, z2⟩, ⟨TITO, TI1, TI2⟩, ⟨TO1, TO2⟩, i12⟩ := D.ne
  have hnot : ∀ c, c ∉ [z, TO, i1, i2] → c ≠ z ∧ c ≠ TO ∧ c ≠ i1 ∧ c ≠ i2 := fun c cn => by simpa only [List.mem_cons, List.not_mem_nil, or_false, not_or] using cn
  show wpAny _ _ (field (.ref z) 2 >>= _) _ _ _
  refine wpAny_bind (wpAny_field hz rfl (x := .bool false) rfl ?_)
  show wpAny _ _ (field (.ref z) 3 >>= _) _ _ _
  refine wpAny_bind (wpAny_field hz rfl (x := .ref TI) rfl ?_)
  refine wpAny_bind (wpAny_seqItems hTI rfl ?_)
  show wpAny _ _ (Builtin.SmallTypes.ownedTupleIsFree (.ref z) >>= _) _ _ _
  refine wpAny_bind ?_
  unfold Builtin.SmallTypes.ownedTupleIsFree
  refine wpAny_bind (wpAny_field hz rfl (x := .none) rfl (wpAny_pure ?_))
  simp only [if_true]
  refine wpAny_bind (wpAny_rule ?_)
  refine wpAny_bind (wpAny_field hz rfl (x := .ref TO) rfl ?_)
  refine wpAny_bind (wpAny_setField_rec hz (by simp) fun ha hza hsa => ?_)
  replace hza : IsZip ha z TI TO .ellipsis := hza
  refine wpAny_bind ?_
  simp only [List.zipIdx_cons, List.zipIdx_nil, List.forIn_cons, List.forIn_nil]
  refine wpAny_bind (wpAny_bind (wpAny_onRaise ?_))
  show wpAny _ _ (Builtin.SmallTypes.nextOf (.ref i1) >>= _) _ _ _
  have s1a : St1 i ha := D1.frame _ _ _ s1 fun c hc o e => hsa.extBut _ _ (D.f1 c hc).1 e
  by_cases h1 : i < n1
  · have h2 : i = n2 := by omega
    refine wpAny_bind (D1.item i _ _ _ h1 s1a fun x hb tb p1 s1b hsb => wpAny_pure ?_)
    have hTOb : IsPair hb TO a b := hsb.extBut _ _ TO1 (hsa.extBut _ _ (Ne.symm zTO) hTO)
    refine wpAny_bind (wpAny_seqItems hTOb rfl ?_)
    refine wpAny_bind (wpAny_updateSeq_pair hTOb fun hc hTOc hsc => ?_)
    refine wpAny_bind (wpAny_letGo (wpAny_pure ?_))
    refine wpAny_bind (wpAny_bind (wpAny_onRaise ?_))
    show wpAny _ _ (Builtin.SmallTypes.nextOf (.ref i2) >>= _) _ _ _
    have s2c : St2 i hc := D2.frame _ _ _ s2 fun c hcm o e => hsc.extBut _ _ (D.f2 c hcm).2.1 (hsb.extBut _ _ (D.f2 c hcm).2.2 (hsa.extBut _ _ (D.f2 c hcm).1 e))
    rw [h2] at s2c
    refine wpAny_bind (D2.done _ _ _ s2c fun hd e hsd he => ?_)
    obtain ⟨oe, hoe, hce⟩ := he
    replace hsd : Heap.ExtBut i2 hc hd := hsd
    have hzd : IsZip hd z TI TO .ellipsis := hsd _ _ z2 (hsc.extBut _ _ zTO (hsb.extBut _ _ z1 hza))
    have hez : e ≠ z := fun q => by subst q; rw [hzd] at hoe; cases hoe; simp at hce
    refine wpAny_setField_rec hzd (by simp) fun h5 _ hs5 => hE h5 e _ (fun c o cn x => ?_) ⟨oe, hs5.extBut _ _ hez hoe, hce⟩
    obtain ⟨c1, c2, c3, c4⟩ := hnot c cn
    exact hs5.extBut _ _ c1 (hsd _ _ c4 (hsc.extBut _ _ c2 (hsb.extBut _ _ c3 (hsa.extBut _ _ c1 x))))
  · have h2 : i = n1 := by omega
    rw [h2] at s1a
    refine wpAny_bind (D1.done _ _ _ s1a fun hd e hsd he => ?_)
    obtain ⟨oe, hoe, hce⟩ := he
    replace hsd : Heap.ExtBut i1 ha hd := hsd
    have hzd : IsZip hd z TI TO .ellipsis := hsd _ _ z1 hza
    have hez : e ≠ z := fun q => by subst q; rw [hzd] at hoe; cases hoe; simp at hce
    refine wpAny_setField_rec hzd (by simp) fun h5 _ hs5 => hE h5 e _ (fun c o cn x => ?_) ⟨oe, hs5.extBut _ _ hez hoe, hce⟩
    obtain ⟨c1, c2, c3, c4⟩ := hnot c cn
    exact hs5.extBut _ _ c1 (hsd _ _ c3 (hsa.extBut _ _ c1 x))

theorem zip_walk {A : Around} (hh : A.handled = none) (D : ZAp z TI TO i1 i2 fp1 fp2) (D1 : ∀ A : Around, A.handled = none → Draws prog X.w A i1 fp1 n1 P1 St1) (D2 : ∀ A : Around, A.handled = none → Draws prog X.w A i2 fp2 n2 P2 St2) :
    WalksT prog X.w A z (z :: TI :: TO :: (fp1 ++ fp2)) [z, TO, i1, i2] (min n1 n2) (fun i vals => ∃ x y, P1 i x ∧ P2 i y ∧ vals = #[x, y]) (zst z TI TO i1 i2 St1 St2) (zmid z TI TO i1 i2 St1 St2) where
  sub := fun b hb => by
    simp only [List.mem_cons, List.not_mem_nil, or_false] at hb
    rcases hb with rfl | rfl | rfl | rfl
    · simp
    · simp
    · simp [D.m1]
    · simp [D.m2]
  frame := fun i h h' ⟨hz, hTI, ⟨a, b, hTO⟩, s1, s2⟩ hk => ⟨hk z (by simp) _ hz, hk TI (by simp) _ hTI, ⟨a, b, hk TO (by simp) _ hTO⟩, (D1 A hh).frame _ _ _ s1 fun c hc o e => hk c (by simp [hc]) o e, (D2 A hh).frame _ _ _ s2 fun c hc o e => hk c (by simp [hc]) o e⟩
  item := fun i s Q E hi hst hQ => by
    have hT : s.TypeIs (.ref z) "zip" := ⟨_, hst.1, rfl⟩
    unfold pyNext
    exact wpAny_bind (wpAny_attempt (wpAny_callSpecial?_slot (name := Str.ofString "__next__") hT PySem.F.slot_zip_next
      (wpAny_call_entry PySem.F.slot_zip_next hT PySem.F.entry_zip_next
        (zip_item D (D1 _ hh) (D2 _ hh) (by omega) (by omega) hst fun x y h' tk p1 p2 hm hT hk => wpAny_pure (hQ _ #[x, y] h' tk ⟨x, y, p1, p2, rfl⟩ (Nat.le_refl _) ⟨_, hT, rfl, _, rfl⟩ hm hk)) (PySem.F.args_zip_next_1 _))))
  go := fun elts kk pos i T s Q E ⟨hz, hTI, ⟨a, b, hTO⟩, s1, s2, _⟩ hQ => by
    obtain ⟨⟨zTI, zTO, z1, z2⟩, ⟨TITO, TI1, TI2⟩, ⟨TO1, TO2⟩, i12⟩ := D.ne
    exact wpAny_letOwnedTupleGo_zip hz fun h' hz' hs' => hQ h' ⟨hz', hs'.extBut _ _ (Ne.symm zTI) hTI, ⟨a, b, hs'.extBut _ _ (Ne.symm zTO) hTO⟩, (D1 A hh).frame _ _ _ s1 fun c hc o e => hs'.extBut _ _ (D.f1 c hc).1 e, (D2 A hh).frame _ _ _ s2 fun c hc o e => hs'.extBut _ _ (D.f2 c hc).1 e⟩
      fun c o hc e => hs'.extBut _ _ (fun q => hc (by simp [q])) e
  apart := fun i T h hm => hm.2.2.2.2.2
  done := fun s Q E hst hQ => by
    have hT : s.TypeIs (.ref z) "zip" := ⟨_, hst.1, rfl⟩
    unfold pyNext
    refine wpAny_bind (wpAny_attempt (wpAny_callSpecial?_slot (name := Str.ofString "__next__") hT PySem.F.slot_zip_next
      (wpAny_call_entry PySem.F.slot_zip_next hT PySem.F.entry_zip_next (zip_end hh D (D1 _ hh) (D2 _ hh) rfl hst fun h' e tk hk he => ?_) (PySem.F.args_zip_next_1 _))))
    obtain ⟨o, ho, hc⟩ := he
    refine wpAny_bind (wpAny_isInstance (T := "StopIteration") (b := true) ⟨o, ho, hc⟩ isSubtype_stop ?_)
    exact wpAny_pure (hQ _ tk hk)
  self := fun i s Q E hst hQ => wpAny_pyIter_zip hst.1 hQ
end
end
section
variable {X : Wd} {k : Nat} {f : FS}

theorem zap_new {n : Nat} {r1 r2 : List Addr} (h1 : ∀ b ∈ r1, b < n) (h2 : ∀ b ∈ r2, b < n) : ZAp (n + 4) (n + 2) (n + 3) n (n + 1) (n :: r1) ((n + 1) :: r2) where
  nd := by simp
  f1 := fun b hb => by
    rcases List.mem_cons.mp hb with rfl | hb
    · exact ⟨Nat.ne_of_lt (Nat.lt_add_of_pos_right (by decide)), Nat.ne_of_lt (Nat.lt_add_of_pos_right (by decide)), Nat.ne_of_lt (Nat.lt_succ_self _)⟩
    · exact ⟨Nat.ne_of_lt (Nat.lt_of_lt_of_le (h1 b hb) (Nat.le_add_right _ _)), Nat.ne_of_lt (Nat.lt_of_lt_of_le (h1 b hb) (Nat.le_add_right _ _)), Nat.ne_of_lt (Nat.lt_succ_of_lt (h1 b hb))⟩
  f2 := fun b hb => by
    rcases List.mem_cons.mp hb with rfl | hb
    · exact ⟨Nat.ne_of_lt (Nat.add_lt_add_left (by decide) _), Nat.ne_of_lt (Nat.add_lt_add_left (by decide) _), Nat.ne_of_gt (Nat.lt_succ_self _)⟩
    · exact ⟨Nat.ne_of_lt (Nat.lt_of_lt_of_le (h2 b hb) (Nat.le_add_right _ _)), Nat.ne_of_lt (Nat.lt_of_lt_of_le (h2 b hb) (Nat.le_add_right _ _)), Nat.ne_of_lt (h2 b hb)⟩
  m1 := .head _
  m2 := .head _

noncomputable abbrev zsH1 (h : Heap) (l1 : Addr) : Heap := h.push { cls := .type "list_iterator", data := .fields #[.ref l1, .int 0 0] }
noncomputable abbrev zsH2 (h : Heap) (l1 : Addr) (x : Str) (t : Tok) : Heap := (zsH1 h l1).push { cls := .type (strIterType x), data := .fields #[.str x t, .int 0 0] }
noncomputable abbrev zsH3 (h : Heap) (l1 : Addr) (x : Str) (t : Tok) : Heap := (zsH2 h l1 x t).push { cls := .type "tuple", data := .seq #[.ref h.objs.size, .ref (zsH1 h l1).objs.size] }
noncomputable abbrev zsH4 (h : Heap) (l1 : Addr) (x : Str) (t : Tok) : Heap := (zsH3 h l1 x t).push { cls := .type "tuple", data := .seq #[.none, .none] }
noncomputable abbrev zsH5 (h : Heap) (l1 : Addr) (x : Str) (t : Tok) : Heap := (zsH4 h l1 x t).push { cls := .type "zip", data := .fields #[.none, .bool false, .bool false, .ref (zsH2 h l1 x t).objs.size, .ref (zsH3 h l1 x t).objs.size] }

set_option maxHeartbeats 2000000 in
theorem meets_zip_str (l1 : Addr) (xs : Array Value) (x : Str) (t : Tok) :
    Meets (Builtin.«zip.__new__» ⟨[.type "zip", .ref l1, .str x t], []⟩) (fun _ R s => s.heap.IsList l1 xs ∧ R (.ok (.ret (.ref (zsH4 s.heap l1 x t).objs.size))) { s with heap := zsH5 s.heap l1 x t }) :=
  .of_wp fun prog w A R s h => by
    obtain ⟨hp, g, d, tk, os⟩ := s; obtain ⟨hl1, h⟩ := h
    have hsub := sub_zip
    have hL1 : Heap.IsList (Shared.heap ⟨hp, g, d, tk, os⟩) l1 xs := hl1
    wp_walk using wpAny_pyIter_list hL1, wpAny_pyIter_strU
    exact ⟨_, rfl, h⟩

theorem call_zip_str {A : Around} {s : Shared} {E : Value → Shared → Prop} {l1 : Addr} {xs : Array Value} {x : Str} {t : Tok} {Q : Value → Shared → Prop} (hl1 : s.heap.IsList l1 xs)
    (h : ∀ h', IsZip h' (s.heap.objs.size + 4) (s.heap.objs.size + 2) (s.heap.objs.size + 3) .none → IsPair h' (s.heap.objs.size + 2) (.ref s.heap.objs.size) (.ref (s.heap.objs.size + 1)) →
      IsPair h' (s.heap.objs.size + 3) .none .none → h'.IsListIter s.heap.objs.size l1 0 → h'.IsStrIter (s.heap.objs.size + 1) (strIterType x) x t 0 → h'.objs.size = s.heap.objs.size + 5 →
      (∀ c o, s.heap.get? c = some o → h'.get? c = some o) → Q (.ref (s.heap.objs.size + 4)) { s with heap := h' }) :
    wpAny (Mo X) A (call (.type "zip") [.ref l1, .str x t]) Q E s := by
  refine callType_new PySem.F.called_zip (by decide) (PySem.F.typeCall_zip_2 _ _) (PySem.F.newCall_zip_2 _ _) (fun obj => PySem.F.args_object_init_3 obj _ _) PySem.F.entry_zip_new
    (meets_zip_str l1 xs x t) ⟨hl1, ?_⟩
  have z1 : (zsH1 s.heap l1).objs.size = s.heap.objs.size + 1 := Heap.size_push ..
  have z2 : (zsH2 s.heap l1 x t).objs.size = s.heap.objs.size + 2 := by rw [Heap.size_push, z1]
  have z3 : (zsH3 s.heap l1 x t).objs.size = s.heap.objs.size + 3 := by rw [Heap.size_push, z2]
  have z4 : (zsH4 s.heap l1 x t).objs.size = s.heap.objs.size + 4 := by rw [Heap.size_push, z3]
  have z5 : (zsH5 s.heap l1 x t).objs.size = s.heap.objs.size + 5 := by rw [Heap.size_push, z4]
  have up : ∀ {h : Heap} {b : Addr} {o p : Obj}, h.get? b = some o → (h.push p).get? b = some o := fun e => Heap.get?_push_of_some _ e
  have g5 : (zsH5 s.heap l1 x t).get? (zsH4 s.heap l1 x t).objs.size = some _ := Heap.get?_push_size _ rfl
  have g4 : (zsH5 s.heap l1 x t).get? (zsH3 s.heap l1 x t).objs.size = some _ := up (Heap.get?_push_size _ rfl)
  have g3 : (zsH5 s.heap l1 x t).get? (zsH2 s.heap l1 x t).objs.size = some _ := up (up (Heap.get?_push_size _ rfl))
  have g2 : (zsH5 s.heap l1 x t).get? (zsH1 s.heap l1).objs.size = some _ := up (up (up (Heap.get?_push_size _ rfl)))
  have g1 : (zsH5 s.heap l1 x t).get? s.heap.objs.size = some _ := up (up (up (up (Heap.get?_push_size _ rfl))))
  show _ ∧ _
  rw [z2, z3, z4] at g5
  rw [z1, z2] at g3
  rw [z3] at g4
  rw [z1] at g2
  rw [z4]
  exact ⟨⟨_, g5, rfl⟩, h _ g5 g3 g4 ⟨_, g1, rfl, rfl⟩ ⟨_, g2, rfl, rfl⟩ z5 fun c o e => up (up (up (up (up e))))⟩

theorem live_of {h h' : Heap} (l : Live X h) (hk : ∀ b o, h.get? b = some o → h'.get? b = some o) (hz : h.objs.size ≤ h'.objs.size) : Live X h' :=
  l.kept hk hz
theorem grow_of {s : Shared} {h' : Heap} {t : Nat} (l : Live X s.heap) (hk : ∀ b o, s.heap.get? b = some o → h'.get? b = some o) (hz : s.heap.objs.size ≤ h'.objs.size) : Grow X s { s with heap := h', toks := t } :=
  .all (live_of l hk hz) hk hz rfl rfl

noncomputable def pairUp (xs ys : List PV) : List PV := (xs.zip ys).map fun p => .tup [p.1, p.2]

/-- what a zip leaves to go over -/
theorem zip_itr {A : Around} {elts : List Expr} {kk : Nat} {pt : Pos} {s₁ : Shared} {h' : Heap} {r1 r2 : List Addr} {n1 n2 : Nat} {P1 P2 : Nat → Value → Prop} {St1 St2 : Nat → Heap → Prop} {xs ys : List PV} (F₁ : f.Ok X s₁) (hh : A.handled = none)
    (D1 : ∀ A : Around, A.handled = none → Draws prog X.w A s₁.heap.objs.size (s₁.heap.objs.size :: r1) n1 P1 St1) (D2 : ∀ A : Around, A.handled = none → Draws prog X.w A (s₁.heap.objs.size + 1) ((s₁.heap.objs.size + 1) :: r2) n2 P2 St2)
    (i1 : ∀ i h, St1 i h → Iterish h s₁.heap.objs.size) (i2 : ∀ i h, St2 i h → Iterish h (s₁.heap.objs.size + 1)) (e1 : xs.length = n1) (e2 : ys.length = n2)
    (v1 : ∀ i p v, xs[i]? = some p → P1 i v → Rd s₁.heap f.mu' p v) (v2 : ∀ i p v, ys[i]? = some p → P2 i v → Rd s₁.heap f.mu' p v) (g1 : ∀ b ∈ r1, Solid s₁.heap b ∧ ¬ f.mu' b) (g2 : ∀ b ∈ r2, Solid s₁.heap b ∧ ¬ f.mu' b)
    (hst : zst (s₁.heap.objs.size + 4) (s₁.heap.objs.size + 2) (s₁.heap.objs.size + 3) s₁.heap.objs.size (s₁.heap.objs.size + 1) St1 St2 0 h') (hsz : h'.objs.size = s₁.heap.objs.size + 5) (hk : ∀ c o, s₁.heap.get? c = some o → h'.get? c = some o) :
    Itr X A (.Tuple elts kk pt) s₁ { s₁ with heap := h' } f.mu' (s₁.heap.objs.size + 4) ((s₁.heap.objs.size + 4) :: (s₁.heap.objs.size + 2) :: (s₁.heap.objs.size + 3) :: ((s₁.heap.objs.size :: r1) ++ ((s₁.heap.objs.size + 1) :: r2))) [s₁.heap.objs.size + 4, s₁.heap.objs.size + 3, s₁.heap.objs.size, s₁.heap.objs.size + 1] (pairUp xs ys)
      (zst (s₁.heap.objs.size + 4) (s₁.heap.objs.size + 2) (s₁.heap.objs.size + 3) s₁.heap.objs.size (s₁.heap.objs.size + 1) St1 St2)
      (fun i v h => ∃ T, v = .ref T ∧ zmid (s₁.heap.objs.size + 4) (s₁.heap.objs.size + 2) (s₁.heap.objs.size + 3) s₁.heap.objs.size (s₁.heap.objs.size + 1) St1 St2 i T h) := by
  have D := zap_new (n := s₁.heap.objs.size) (r1 := r1) (r2 := r2) (fun b hb => (g1 b hb).1.lt) (fun b hb => (g2 b hb).1.lt)
  have hlen : (pairUp xs ys).length = min n1 n2 := by simp [pairUp, e1, e2]
  have hW := zip_walk (X := X) hh D D1 D2
  rw [← hlen] at hW
  have nm : ∀ j, ¬ f.mu' (s₁.heap.objs.size + j) := fun j q => absurd (F₁.mu_lt _ q) (Nat.not_lt.mpr (Nat.le_add_right _ _))
  have it : ∀ {i j : Nat} {h : Heap} {v : Value}, IsZip h (s₁.heap.objs.size + 4) (s₁.heap.objs.size + 2) (s₁.heap.objs.size + 3) v → (∃ a b, IsPair h (s₁.heap.objs.size + 3) a b) → St1 i h → St2 j h → ∀ b ∈ [s₁.heap.objs.size + 4, s₁.heap.objs.size + 3, s₁.heap.objs.size, s₁.heap.objs.size + 1], Iterish h b := fun hz hTO s1 s2 b hb => by
    simp only [List.mem_cons, List.not_mem_nil, or_false] at hb
    obtain ⟨a, c, hTO⟩ := hTO
    rcases hb with rfl | rfl | rfl | rfl
    · exact ⟨_, hz, .inl ⟨_, rfl, fun q t => by simp⟩⟩
    · exact ⟨_, hTO, .inr ⟨_, _, rfl⟩⟩
    · exact i1 _ _ s1
    · exact i2 _ _ s2
  refine Itr.ofT hW (fun i p vals hp hv => ?_) (fun i h st b hb => it st.1 st.2.2.1 st.2.2.2.1 st.2.2.2.2 b hb) (fun i T h st b hb => it st.1 st.2.2.1 st.2.2.2.1 st.2.2.2.2.1 b hb) (by simp) hst (fun b hb => ?_) (fun b hb => ?_) (by simp)
  · obtain ⟨x, y, p1, p2, rfl⟩ := hv
    have hi : i < min n1 n2 := by have := (List.getElem?_eq_some_iff.mp hp).1; rwa [hlen] at this
    have hx := List.getElem?_eq_getElem (l := xs) (i := i) (by omega)
    have hy := List.getElem?_eq_getElem (l := ys) (i := i) (by omega)
    have : (xs.zip ys)[i]? = some (xs[i]'(by omega), ys[i]'(by omega)) := by rw [List.getElem?_zip_eq_some]; exact ⟨hx, hy⟩
    simp only [pairUp, List.getElem?_map, this, Option.map_some, Option.some.injEq] at hp
    subst hp
    exact ⟨_, rfl, _, _, rfl, v1 _ _ _ hx p1, _, _, rfl, v2 _ _ _ hy p2, rfl⟩
  · have hsz : h'.objs.size = s₁.heap.objs.size + 5 := hsz
    simp only [List.mem_cons, List.not_mem_nil, or_false] at hb
    show _ ∧ b < h'.objs.size
    rw [hsz]
    rcases hb with rfl | rfl | rfl | rfl
    · exact ⟨Nat.le_add_right _ _, Nat.add_lt_add_left (by decide) _⟩
    · exact ⟨Nat.le_add_right _ _, Nat.add_lt_add_left (by decide) _⟩
    · exact ⟨Nat.le_refl _, Nat.lt_add_of_pos_right (by decide)⟩
    · exact ⟨Nat.le_add_right _ _, Nat.add_lt_add_left (by decide) _⟩
  · obtain ⟨hz, hTI, ⟨a, c, hTO⟩, s1, s2⟩ := hst
    have it1 := i1 _ _ s1
    have it2 := i2 _ _ s2
    simp only [List.mem_cons, List.mem_append] at hb
    rcases hb with rfl | rfl | rfl | (rfl | hb) | (rfl | hb)
    · exact ⟨⟨_, hz⟩, nm 4⟩
    · exact ⟨⟨_, hTI⟩, nm 2⟩
    · exact ⟨⟨_, hTO⟩, nm 3⟩
    · exact ⟨let ⟨o, e, _⟩ := it1; ⟨o, e⟩, nm 0⟩
    · exact ⟨(g1 b hb).1.of fun o e => hk b o e, (g1 b hb).2⟩
    · exact ⟨let ⟨o, e, _⟩ := it2; ⟨o, e⟩, nm 1⟩
    · exact ⟨(g2 b hb).1.of fun o e => hk b o e, (g2 b hb).2⟩

theorem Src.zipL (C : Cx X) {e e' : Expr} {xs ys : List PV} {p1 p2 : Pos} {elts : List Expr} {kk : Nat} {pt : Pos} (h : Ev X k f e (.lst xs)) (h' : Ev X k f e' (.lst ys)) (hl : f.env.kindOf "zip" = some .globalImplicit)
    (hs : ∀ r, starEach (e :: r) f.env = (false, eval e f.env) :: starEach r f.env := by intro _; rfl) (hs' : ∀ r, starEach (e' :: r) f.env = (false, eval e' f.env) :: starEach r f.env := by intro _; rfl) :
    Src X k f (.Tuple elts kk pt) (.Call (.Name "zip" p1) [e, e'] [] p2) (pairUp xs ys) := by
  intro A s Q R F hQ
  have hf : Ev X k f (.Name "zip" p1) (.raw (.type "zip")) := Ev.blt C (fun P => by kernel_rfl) (by decide +kernel) hl
  refine EvCall (hs := ⟨hs, hs', trivial⟩) hf Kept.ty (EvL.cons h (EvL.cons h' EvL.nil (hs' _)) (hs _)) R F fun vs s₁ G₁ F₁ h₁ => ?_
  obtain ⟨v, r, rfl, ⟨a, o, vs, n, rfl, hm, h1, h2, h3, h4⟩, v', r', rfl, ⟨a', o', vs', n', rfl, hm', h1', h2', h3', h4'⟩, hr⟩ := h₁
  cases hr
  have hlt := Heap.lt_size h1
  have hlt' := Heap.lt_size h1'
  refine call_zip_2 ⟨o, h1, h2, n, h3⟩ ⟨o', h1', h2', n', h3'⟩ fun hh hz hTI hTO hi1 hi2 hsz hk => ?_
  refine wpAny_pyIter_zip hz ?_
  have hsz : hh.objs.size = s₁.heap.objs.size + 5 := hsz
  have G₂ : Grow X s₁ { s₁ with heap := hh } := grow_of (t := s₁.toks) F₁.live hk (by rw [hsz]; omega)
  exact hQ _ _ _ _ _ s₁ _ G₁ F₁ G₂ (zip_itr F₁ R.hd (fun A hA => Draws.list hA _ a (Nat.ne_of_lt hlt) vs) (fun A hA => Draws.list hA _ a' (Nat.ne_of_lt (Nat.lt_succ_of_lt hlt')) vs')
    (fun i h ⟨⟨o, e, _, d⟩, _⟩ => ⟨o, e, .inl ⟨_, d, fun q t => by simp⟩⟩) (fun i h ⟨⟨o, e, _, d⟩, _⟩ => ⟨o, e, .inl ⟨_, d, fun q t => by simp⟩⟩) h4.size.symm h4'.size.symm
    (fun i p v hp hv => by obtain ⟨u, hu, hr⟩ := h4.get hp; rw [Array.getElem?_toList] at hu; rw [hu] at hv; cases hv; exact hr)
    (fun i p v hp hv => by obtain ⟨u, hu, hr⟩ := h4'.get hp; rw [Array.getElem?_toList] at hu; rw [hu] at hv; cases hv; exact hr)
    (fun b hb => by simp only [List.mem_singleton] at hb; subst hb; exact ⟨⟨_, h1⟩, hm⟩) (fun b hb => by simp only [List.mem_singleton] at hb; subst hb; exact ⟨⟨_, h1'⟩, hm'⟩)
    ⟨hz, hTI, ⟨_, _, hTO⟩, ⟨hi1, ⟨o, hk _ _ h1, h2, n, h3⟩⟩, ⟨hi2, ⟨o', hk _ _ h1', h2', n', h3'⟩⟩⟩ hsz hk)

theorem draws_str {A : Around} (hh : A.handled = none) (I : Addr) (x : Str) (t : Tok) : Draws prog X.w A I [I] x.cps.size (SignAt x) (fun i h => h.IsStrIter I (strIterType x) x t i) := by
  cases ha : x.cps.all (· < 128)
  · have e : strIterType x = "str_iterator" := by simp [strIterType, ha]
    rw [e]; exact Draws.strWide hh I x t
  · have e : strIterType x = "str_ascii_iterator" := by simp [strIterType, ha]
    rw [e]; exact Draws.strAscii hh I x t

theorem Src.zipS (C : Cx X) {e e' : Expr} {xs : List PV} {x : Str} {p1 p2 : Pos} {elts : List Expr} {kk : Nat} {pt : Pos} (h : Ev X k f e (.lst xs)) (h' : Ev X k f e' (.str x)) (hl : f.env.kindOf "zip" = some .globalImplicit)
    (hs : ∀ r, starEach (e :: r) f.env = (false, eval e f.env) :: starEach r f.env := by intro _; rfl) (hs' : ∀ r, starEach (e' :: r) f.env = (false, eval e' f.env) :: starEach r f.env := by intro _; rfl) :
    Src X k f (.Tuple elts kk pt) (.Call (.Name "zip" p1) [e, e'] [] p2) (pairUp xs (chars x)) := by
  intro A s Q R F hQ
  have hf : Ev X k f (.Name "zip" p1) (.raw (.type "zip")) := Ev.blt C (fun P => by kernel_rfl) (by decide +kernel) hl
  refine EvCall (hs := ⟨hs, hs', trivial⟩) hf Kept.ty (EvL.cons h (EvL.cons h' EvL.nil (hs' _)) (hs _)) R F fun vs s₁ G₁ F₁ h₁ => ?_
  obtain ⟨v, r, rfl, ⟨a, o, vs, n, rfl, hm, h1, h2, h3, h4⟩, v', r', rfl, ⟨t, rfl⟩, hr⟩ := h₁
  cases hr
  have hlt := Heap.lt_size h1
  refine call_zip_str ⟨o, h1, h2, n, h3⟩ fun hh hz hTI hTO hi1 hi2 hsz hk => ?_
  refine wpAny_pyIter_zip hz ?_
  have hsz : hh.objs.size = s₁.heap.objs.size + 5 := hsz
  have G₂ : Grow X s₁ { s₁ with heap := hh } := grow_of (t := s₁.toks) F₁.live hk (by rw [hsz]; omega)
  exact hQ _ _ _ _ _ s₁ _ G₁ F₁ G₂ (zip_itr F₁ R.hd (fun A hA => Draws.list hA _ a (Nat.ne_of_lt hlt) vs) (fun A hA => draws_str hA _ x t)
    (fun i h ⟨⟨o, e, _, d⟩, _⟩ => ⟨o, e, .inl ⟨_, d, fun q t => by simp⟩⟩) (fun i h ⟨o, e, _, d⟩ => ⟨o, e, .inl ⟨_, d, fun q t => by simp⟩⟩) h4.size.symm (by simp [chars])
    (fun i p v hp hv => by obtain ⟨u, hu, hr⟩ := h4.get hp; rw [Array.getElem?_toList] at hu; rw [hu] at hv; cases hv; exact hr)
    (fun i p v hp ⟨c, u, hc, e⟩ => by
      simp only [chars, List.getElem?_map, Array.getElem?_toList, hc, Option.map_some, Option.some.injEq] at hp
      subst hp; exact ⟨u, e⟩)
    (fun b hb => by simp only [List.mem_singleton] at hb; subst hb; exact ⟨⟨_, h1⟩, hm⟩) (fun b hb => by simp at hb)
    ⟨hz, hTI, ⟨_, _, hTO⟩, ⟨hi1, ⟨o, hk _ _ h1, h2, n, h3⟩⟩, hi2⟩ hsz hk)
end
section
variable {X : Wd} {k : Nat} {f : FS}

theorem RdL.strs {h mu} : ∀ {ys : List Str} {vs : List Value}, RdL h mu (ys.map PV.str) vs → StrsAre vs ys
  | [], _, e => by cases e; exact .nil
  | y :: ys, _, ⟨v, r, e, ⟨t, ev⟩, hr⟩ => by subst e; subst ev; exact .cons y t (RdL.strs hr)

/-- sep.join(list) -/
theorem Ev.join {sep : Str} {n : Nat} {cp apos pos : Pos} {e : Expr} {p : PV} {ys : List Str} {pl : Sem Bool} (he : Ev X k f e p) (L : Lst f p (ys.map PV.str)) (hok : (ys.map (·.length)).sum + ys.length * sep.length ≤ 16777216)
    (hs : ∀ r, starEach (e :: r) f.env = (false, eval e f.env) :: starEach r f.env := by intro _; rfl)
    (heq : eval (.Call (.Attribute (.Constant (.str sep) n cp) "join" apos) [e] [] pos) f.env = (do
      let ov ← eval (.Constant (.str sep) n cp) f.env
      standAt apos.atName
      let (f', first) ← holding [ov] (getMethod ov "join" pl)
      callWith pos f' first (backTo pos (starEach [e] f.env)) []) := by rfl) :
    Ev X k f (.Call (.Attribute (.Constant (.str sep) n cp) "join" apos) [e] [] pos) (.str (Txt.join sep ys)) := by
  intro A s Q R F hQ
  refine MethodCall_ (Ev.cstr A s _ R F fun v s₁ G₁ F₁ h₁ => ?_) heq
  obtain ⟨t, rfl⟩ := h₁
  refine GM.join (callWith_method1 ?_ (hs _))
  refine EvL.cons he EvL.nil (hs _) A s₁ _ R F₁ fun vs s₂ G₂ F₂ h₂ => ?_
  obtain ⟨v, r, rfl, hv, hr⟩ := h₂
  cases hr
  obtain ⟨a, vs, rfl, hL, hx⟩ := L.is F₂ hv
  refine join_list hL (RdL.strs hx) hok fun t' kk => ?_
  exact hQ _ _ ((G₁.trans G₂).trans (.toks F₂.live)) (F₂.toks _) ⟨_, rfl⟩

/-- o.append(e), o a list of the frame's own -/
theorem WS.append {o e : Expr} {apos cpos pos : Pos} {a : Addr} {xs : List PV} {p : PV} {led' : List (Addr × MO)} {rest : List Stmt} {Ψ} {pl : Sem Bool} (ho : Ev X k f o (.raw (.ref a))) (he : Ev X k f e p) (hl : LedSet a (.lst xs) (.lst (xs ++ [p])) f.led led') (hz : xs.length ≤ sizeLine)
    (h : WS X k (f.upd f.vars led') rest Ψ)
    (hs : ∀ r, starEach (e :: r) f.env = (false, eval e f.env) :: starEach r f.env := by intro _; rfl)
    (heq : eval (.Call (.Attribute o "append" apos) [e] [] cpos) f.env = (do
      let ov ← eval o f.env
      standAt apos.atName
      let (f', first) ← holding [ov] (getMethod ov "append" pl)
      callWith cpos f' first (backTo cpos (starEach [e] f.env)) []) := by rfl) (hi : interactive f.env = false := by rfl) (hsw : swapsWith (.Call (.Attribute o "append" apos) [e] [] cpos) none pos.line f.env = pure false := by rfl) :
    WS X k f (.Expr (.Call (.Attribute o "append" apos) [e] [] cpos) pos :: rest) Ψ := by
  refine WS.step (vars := f.vars) (led := led') (fun A s Q R F hQ => wpAny_Expr_any ?_ hi hsw) h
  refine MethodCall_ (ho A s _ R F fun v s₁ G₁ F₁ h₁ => ?_) heq
  cases h₁
  obtain ⟨ob, vs, n, h1, h2, h3, h4⟩ := F₁.led a _ hl.mem
  refine Calls.getMethod_list_append h1 h2.1 h2.2 (callWith_method1 ?_ (hs _))
  refine EvL.cons he EvL.nil (hs _) A s₁ _ R F₁ fun us s₂ G₂ F₂ h₂ => ?_
  obtain ⟨v, r, rfl, hv, hr⟩ := h₂
  cases hr
  exact append_led F₂ hl hv hz fun s₃ F₃ S₃ => hQ s₃ F₃ (((Step.grow F G₁).trans (Step.grow F₁ G₂)).trans S₃)

/-- a new object is taken among the frame's own -/
theorem FS.Ok.take {s s₁ : Shared} {a : Addr} {mo : MO} (F : f.Ok X s) (G : Grow X s s₁) (ha : s.heap.objs.size ≤ a) (hm : match mo with | .lst xs => ∃ o vs n, s₁.heap.get? a = some o ∧ (o.cls = .type "list" ∧ o.dict = none) ∧ o.data = .seq vs n ∧ RdL s.heap f.mu' xs vs.toList | .obj o => s₁.heap.get? a = some o) (hS : Solid s₁.heap a) : (f.upd f.vars ((a, mo) :: f.led)).Ok X s₁ := by
  have F₁ := F.grown F.live G
  have hn : ∀ b, FS.mu' (f.upd f.vars ((a, mo) :: f.led)) b → f.mu' b ∨ s.heap.get? b = none := fun b hb => by
    rcases hb with h | h | h
    · exact .inl (.inl h)
    · exact .inl (.inr (.inl h))
    · rcases List.mem_cons.mp h with h | h
      · exact .inr (none_of_le (Nat.le_trans ha (Nat.le_of_eq h.symm)))
      · exact .inl (.inr (.inr h))
  have tr : ∀ {p v}, Rd s.heap f.mu' p v → Rd s₁.heap (FS.mu' (f.upd f.vars ((a, mo) :: f.led))) p v := fun x => (x.weak hn).grow (fun b ht => (F.mtab b ht).elim .inl fun h => .inr (h.elim .inl fun h => .inr (.tail _ h))) G
  have trL : ∀ {p v}, RdL s.heap f.mu' p v → RdL s₁.heap (FS.mu' (f.upd f.vars ((a, mo) :: f.led))) p v := fun x => (x.weak hn).grow (fun b ht => (F.mtab b ht).elim .inl fun h => .inr (h.elim .inl fun h => .inr (.tail _ h))) G
  have up : ∀ b ∈ f.own ++ f.led.map (·.1), b < s.heap.objs.size := fun b hb => (F.fresh b hb).2
  have hmem : ∀ b, b ∈ f.own ++ (a :: f.led.map (·.1)) → b = a ∨ b ∈ f.own ++ f.led.map (·.1) := fun b hb => by
    rcases List.mem_append.mp hb with h | h
    · exact .inr (List.mem_append_left _ h)
    · rcases List.mem_cons.mp h with h | h
      · exact .inl h
      · exact .inr (List.mem_append_right _ h)
  exact {
    grow := F₁.grow
    muLt := F.muLt, mu33 := F.mu33, mu85 := F.mu85, mfr := F.mfr, kind := F.kind, glob := F.glob, blt := F.blt, hlow := F.hlow
    locs := F.locs
    apart := by
      show (f.own ++ (a :: f.led.map (·.1))).Nodup
      have ap := List.nodup_append.mp F.apart
      refine List.nodup_append.mpr ⟨ap.1, List.nodup_cons.mpr ⟨fun h => Nat.lt_irrefl _ (Nat.lt_of_lt_of_le (up a (List.mem_append_right _ h)) ha), ap.2.1⟩, fun b hb c hc e => ?_⟩
      subst e
      rcases List.mem_cons.mp hc with h | h
      · subst h; exact Nat.lt_irrefl _ (Nat.lt_of_lt_of_le (up b (List.mem_append_left _ hb)) ha)
      · exact ap.2.2 b hb b h rfl
    fresh := fun b hb => by
      rcases hmem b hb with rfl | h
      · exact ⟨Nat.le_trans F.grow.size ha, hS.lt⟩
      · exact F₁.fresh b h
    ns := by
      obtain ⟨m, hn', hv⟩ := F.ns
      refine ⟨m, G.ns F.live hn', fun x p hx hk => ?_⟩
      obtain ⟨v, c, d⟩ := hv x p hx hk
      exact ⟨v, c, tr d⟩
    cell := fun x p hx hk => by
      obtain ⟨c, v, hc, hcv, hr⟩ := F.cell x p hx hk
      exact ⟨c, v, hc, IsCell_of hcv fun o e => G.keep c o (tab_not_cell F.live hcv) e, tr hr⟩
    led := fun b mo' hb => by
      rcases List.mem_cons.mp hb with h | h
      · cases h
        cases mo with
        | lst xs =>
          obtain ⟨o, vs, n, h1, h2, h3, h4⟩ := hm
          exact ⟨o, vs, n, h1, h2, h3, trL h4⟩
        | obj o => exact hm
      · have nt := led_not_tab F (List.mem_map_of_mem (f := (·.1)) h)
        have := F.led b mo' h
        cases mo' with
        | lst xs => obtain ⟨o, vs, n, e, h2, h3, h4⟩ := this; exact ⟨o, vs, n, G.keep b o nt e, h2, h3, trL h4⟩
        | obj o => exact G.keep b o nt this
    solid := fun b hb => by
      rcases hmem b hb with rfl | h
      · exact hS
      · exact F₁.solid b h
    cellv := F₁.cellv }

theorem Step.take {s s₁ : Shared} {a : Addr} {mo : MO} (F : f.Ok X s) (G : Grow X s s₁) (ha : s.heap.objs.size ≤ a) : Step f s (f.upd f.vars ((a, mo) :: f.led)) s₁ where
  keep := (Step.grow F G).keep
  mu := fun _ h => h
  led := fun b hb => (List.mem_cons.mp hb).elim (fun h => .inr (none_of_le (Nat.le_trans ha (Nat.le_of_eq h.symm)))) .inl
  own := fun _ h => .inl h
  solid := G.solid

/-- an expression that makes things of the frame's own -/
noncomputable def EvX (X : Wd) (k : Nat) (f : FS) (e : Expr) (Φ : PV → List (Addr × MO) → Prop) : Prop :=
  ∀ A s (Q : Value → Shared → Prop), Room X A k → f.Ok X s → (∀ p led v s', Φ p led → (f.upd f.vars led).Ok X s' → Step f s (f.upd f.vars led) s' → Rd s'.heap (f.upd f.vars led).mu' p v → Q v s') → wpAny (Mo X) A (eval e f.env) Q (fun _ _ => False) s
theorem EvX.list {es : List Expr} {pos : Pos} {ps : List PV} (h : EvL X k f pos es ps) (hz : ps.length ≤ sizeLine) : EvX X k f (.List es pos) (fun q led => ∃ a, q = .raw (.ref a) ∧ led = (a, .lst ps) :: f.led) := by
  intro A s Q R F hQ
  refine List_ (h A s _ R F fun vs s₁ G₁ F₁ h₁ => wpAny_newObj_type ?_ (by show vs.toArray.size ≤ sizeLine; rw [List.size_toArray, h₁.length]; exact hz))
  have G₂ : Grow X s₁ { s₁ with heap := s₁.heap.push { cls := .type "list", data := .seq vs.toArray } } := .push F₁.live
  have e : (s₁.heap.push { cls := .type "list", data := .seq vs.toArray }).get? s₁.heap.objs.size = some { cls := .type "list", data := .seq vs.toArray } := Heap.get?_push_size _ rfl
  exact hQ _ _ _ _ ⟨_, rfl, rfl⟩ (F₁.take (mo := .lst ps) G₂ (Nat.le_refl _) ⟨_, _, _, e, ⟨rfl, rfl⟩, rfl, h₁⟩ ⟨_, e⟩) ((Step.grow F G₁).trans (Step.take F₁ G₂ (Nat.le_refl _))) rfl

theorem Stores.upd {x : Str} {vars led} (S : Stores f x) : Stores (f.upd vars led) x := by
  cases S with
  | loc hl => exact .loc hl
  | cel c hl hc ho hap => exact .cel c hl hc ho hap

theorem WS.assignX {x : Str} {p1 p2 : Pos} {e : Expr} {Φ : PV → List (Addr × MO) → Prop} {rest : List Stmt} {Ψ} (he : EvX X k f e Φ) (S : Stores f x)
    (h : ∀ p led, Φ p led → WS X k (f.upd ((x, p) :: f.vars) led) rest Ψ) (hs : swapsWith e (some (.Name x p1)) p2.line f.env = pure false := by rfl) : WS X k f (.Assign [.Name x p1] e p2 :: rest) Ψ := fun A s Q R F hQ =>
  wpAny_execs_cons (wpAny_Assign_Name (he A s _ R F fun p led v s₁ hΦ F₁ S₁ h₁ => store_any (f := f.upd f.vars led) S.upd F₁ h₁ fun s₂ F₂ S₂ =>
    h p led hΦ A s₂ Q R F₂ fun fl vars' led' g s' hp F' S' hg => hQ fl vars' led' g s' hp F' ((S₁.trans S₂).trans S') hg) hs)

/-- o.append(e), e something new -/
theorem WS.appendX {o e : Expr} {apos cpos pos : Pos} {a : Addr} {xs : List PV} {Φ : PV → List (Addr × MO) → Prop} {rest : List Stmt} {Ψ} {pl : Sem Bool} (ho : Ev X k f o (.raw (.ref a))) (hm : (a, MO.lst xs) ∈ f.led) (he : EvX X k f e Φ) (hz : xs.length ≤ sizeLine)
    (h : ∀ p led, Φ p led → ∃ led', LedSet a (.lst xs) (.lst (xs ++ [p])) led led' ∧ WS X k (f.upd f.vars led') rest Ψ)
    (hs : ∀ r, starEach (e :: r) f.env = (false, eval e f.env) :: starEach r f.env := by intro _; rfl)
    (heq : eval (.Call (.Attribute o "append" apos) [e] [] cpos) f.env = (do
      let ov ← eval o f.env
      standAt apos.atName
      let (f', first) ← holding [ov] (getMethod ov "append" pl)
      callWith cpos f' first (backTo cpos (starEach [e] f.env)) []) := by rfl) (hi : interactive f.env = false := by rfl) (hsw : swapsWith (.Call (.Attribute o "append" apos) [e] [] cpos) none pos.line f.env = pure false := by rfl) :
    WS X k f (.Expr (.Call (.Attribute o "append" apos) [e] [] cpos) pos :: rest) Ψ := by
  intro A s Q R F hQ
  refine wpAny_execs_cons (wpAny_Expr_any ?_ hi hsw)
  refine MethodCall_ (ho A s _ R F fun v s₁ G₁ F₁ h₁ => ?_) heq
  cases h₁
  obtain ⟨ob, vs, n, h1, h2, h3, h4⟩ := F₁.led a _ hm
  refine Calls.getMethod_list_append h1 h2.1 h2.2 (callWith_method1 ?_ (hs _))
  rw [hs]
  refine Calls.spliced_cons (he A s₁ _ R F₁ fun p led v s₂ hΦ F₂ S₂ h₂ => Calls.spliced_nil ?_)
  obtain ⟨led', hl, hw⟩ := h p led hΦ
  refine append_led F₂ hl h₂ hz fun s₃ F₃ S₃ => ?_
  exact hw A s₃ Q R F₃ fun fl vars' led' g s' hp F' S' hg => hQ fl vars' led' g s' hp F' ((((Step.grow F G₁).trans S₂).trans S₃).trans S') hg
end
section
variable {X : Wd} {k : Nat} {f : FS}

/-- a built-in method, bound -/
noncomputable abbrev bnd (id : String) (a : Addr) : Obj := { cls := .type "builtin_function_or_method", data := .fields #[.builtin id, .ref a] }

theorem lookup_append_list : typeLookup (.type "list") "append" = pure (some (.builtin "list.append")) := PySem.F.slot_list_append.lookup
theorem slot_md_get : Slot "method_descriptor" "__get__" "method_descriptor.__get__" :=
  .of (owner := "method_descriptor") (n := "__get__") (by rw [typeLookup_type, builtinLookup_eq_fast]; kernel_rfl) (by decide +kernel) (by decide +kernel) (by decide +kernel)
    (by first | exact .inl (by decide +kernel) | exact .inr (by decide +kernel)) (by rw [isSubtype_type]; kernel_rfl)
theorem md_set : typeLookup (.type "method_descriptor") "__set__" = pure none := by rw [typeLookup_type, builtinLookup_eq_fast]; kernel_rfl
theorem md_del : typeLookup (.type "method_descriptor") "__delete__" = pure none := by rw [typeLookup_type, builtinLookup_eq_fast]; kernel_rfl
theorem entry_md_get : entryFor table "method_descriptor.__get__" = some Builtin.«method_descriptor.__get__» := entryFor_of_tree (by kernel_rfl)
theorem args_md_get (a b c : Value) : argsOk "method_descriptor.__get__" ⟨[a, b, c], []⟩ := by unfold argsOk; kernel_rfl
theorem told_append : (Manifest.toldItsClass.contains "list.append") = false := by decide +kernel
theorem kind_append : builtinKind "list.append" = some .method := by rw [builtinKind_eq_fast]; kernel_rfl

theorem run_md_get {A : Around} {s : Shared} {M : Model} {E : Value → Shared → Prop} {a : Addr} {P : Fin → Shared → Prop} (hT : s.TypeIs (.ref a) "list") (h : P (.done (.ret (.ref s.heap.objs.size))) { s with heap := s.heap.push (bnd "list.append" a) }) :
    wpAny M A (Builtin.«method_descriptor.__get__» ⟨[.builtin "list.append", .ref a, .type "list"], []⟩) P E s := by
  unfold Builtin.«method_descriptor.__get__»
  refine wpAny_bind (wpAny_of_eq (a := (.builtin "list.append", some (.ref a), some (.type "list"))) (by first | rfl | kernel_rfl) ?_)
  simp only [told_append, Bool.false_eq_true, if_false]
  refine wpAny_bind (wpAny_bind (wpAny_of_eq (a := ((Str.ofString "append"), .type "list")) (by first | rfl | kernel_rfl) ?_))
  refine wpAny_bind (wpAny_isInstance (T := "list") (b := true) hT PySem.F.sub_list_list ?_)
  simp only [Bool.not_true, Bool.false_eq_true, if_false]
  refine wpAny_pure (wpAny_bind ?_)
  exact wpAny_newObj_type (wpAny_pure h)

set_option maxHeartbeats 1000000 in
theorem meets_getattr_append (a : Addr) (xs : Array Value) (n : Nat) (sl : Array (Option Value)) (u : Tok) :
    Meets (Builtin.«object.__getattribute__» ⟨[.ref a, .str "append" u], []⟩) (fun A R s => s.heap.get? a = some { cls := .type "list", dict := none, data := .seq xs n, slots := sl } ∧
      R (.ok (.ret (.ref s.heap.objs.size))) { s with heap := s.heap.push (bnd "list.append" a) }) :=
  Meets.of_wp fun prog w A R s hs => by
    obtain ⟨hp, g, d, tk, os⟩ := s
    obtain ⟨hx, hs⟩ := hs
    have hT : (⟨hp, g, d, tk, os⟩ : Shared).TypeIs (.ref a) "list" := ⟨_, hx, rfl⟩
    have f1 := lookup_append_list
    have f2 := kind_append
    have f3 := slot_md_get.lookup
    have f4 := md_set
    have f5 := md_del
    unfold Builtin.«object.__getattribute__»
    repeat (any_goals (first | assumption | wp_step))
    simp only [f2]
    repeat (any_goals (first | assumption | wp_step))
    simp only [f2]
    repeat (any_goals (first | assumption | ((with_reducible show wpAny _ _ (call (Value.builtin "method_descriptor.__get__") _ _) _ _ _); refine wpAny_call_entry slot_md_get PySem.F.type_list_append entry_md_get (run_md_get hT ⟨_, rfl, ?_⟩) (args_md_get _ _ _)) | wp_step))
    simp only [f2]
    repeat (any_goals (first | assumption | ((with_reducible show wpAny _ _ (call (Value.builtin "method_descriptor.__get__") _ _) _ _ _); refine wpAny_call_entry slot_md_get PySem.F.type_list_append entry_md_get (run_md_get hT ⟨_, rfl, ?_⟩) (args_md_get _ _ _)) | wp_step))
    exact ⟨_, rfl, hs⟩

theorem getAttr_append {A : Around} {E : Value → Shared → Prop} {s : Shared} {a : Addr} {o : Obj} {xs : Array Value} {n : Nat} {Q : Value → Shared → Prop}
    (hx : s.heap.get? a = some o) (hc : o.cls = .type "list") (hdat : o.data = .seq xs n) (hd : o.dict = none) 
    (h : ∀ tk, Q (.ref s.heap.objs.size) { s with heap := s.heap.push (bnd "list.append" a), toks := tk }) : wpAny (Mo X) A (getAttr (.ref a) "append" true) Q E s := by
  obtain ⟨c, dct, dat, sl⟩ := o
  simp only at hc hdat hd
  subst hc hdat hd
  obtain ⟨hp, g, d, tk, os⟩ := s
  have hT : ∀ tk', (⟨hp, g, d, tk', os⟩ : Shared).TypeIs (.ref a) "list" := fun _ => ⟨_, hx, rfl⟩
  have f3 := PySem.F.slot_list_getattribute.lookup
  have f4 := PySem.F.slot_list_getattribute.bind (.ref a)
  have f5 := am_list_getattr_none
  unfold getAttr getAttrBy
  repeat (any_goals (first | assumption | exact hT _ | ((with_reducible show wpAny _ _ (call (Value.builtin "list.__getattribute__") _ _) _ _ _); refine call_meets PySem.F.slot_list_getattribute (hT _) am_entry_list_getattribute (PySem.F.args_list_getattribute_2 _ _) (meets_getattr_append a xs n sl _) ⟨hx, ?_⟩) | wp_step))
  show wpAny _ _ (handedOut (.ref hp.objs.size)) _ _ _
  unfold handedOut
  repeat (any_goals (first | assumption | exact wpAny_load (Heap.get?_push_size _ rfl) | wp_step))
  exact h _

theorem EvX.bound {o : Expr} {a : Addr} {xs : List PV} {pos : Pos} (ho : Ev X k f o (.raw (.ref a))) (hm : (a, MO.lst xs) ∈ f.led)
    (he : eval (.Attribute o "append" pos) f.env = (do
      let ov ← eval o f.env
      standAt pos.atName
      let r ← holding [ov] (getAttr ov "append" true)
      letTemporaryGo o ov r
      pure r) := by with_unfolding_all rfl) : EvX X k f (.Attribute o "append" pos) (fun q led => ∃ b, q = .raw (.ref b) ∧ led = (b, .obj (bnd "list.append" a)) :: f.led) := by
  intro A s Q R F hQ
  refine Attribute_any_ (ho A s _ R F fun v s₁ G₁ F₁ h₁ => ?_) he
  cases h₁
  obtain ⟨ob, vs, n, h1, h2, h3, h4⟩ := F₁.led a _ hm
  refine getAttr_append h1 h2.1 h3 h2.2 fun tk => ?_
  have G₂ : Grow X s₁ { s₁ with heap := s₁.heap.push (bnd "list.append" a), toks := tk } := .push F₁.live
  have e : (s₁.heap.push (bnd "list.append" a)).get? s₁.heap.objs.size = some (bnd "list.append" a) := Heap.get?_push_size _ rfl
  exact hQ _ _ _ _ ⟨_, rfl, rfl⟩ (F₁.take (mo := .obj (bnd "list.append" a)) G₂ (Nat.le_refl _) e ⟨_, e⟩) ((Step.grow F G₁).trans (Step.take F₁ G₂ (Nat.le_refl _))) rfl

theorem sub_list_module : isSubtype (.type "list") (.type "module") = pure false := by rw [isSubtype_type]; kernel_rfl
theorem varargs_append : Manifest.varargsMethods.contains "list.append" = false := by decide +kernel
noncomputable def sigAppend : Manifest.Signature := (Manifest.signature? "list.append").get (by decide +kernel)
theorem sig_append : Manifest.signature? "list.append" = some sigAppend := by unfold sigAppend; simp
theorem check_append (a : Addr) (v : Value) : Bind.checkArgs "list.append" { sigAppend with full := s!"{Bind.lastOf "list"}.{Bind.lastOf "list.append"}" } ⟨[.ref a, v], []⟩ = pure () := by kernel_rfl
theorem check_bound_append {A : Around} {s : Shared} {E : Value → Shared → Prop} {a : Addr} {v : Value} {its : Array Value} {n : Nat} {Q : Unit → Shared → Prop} (hT : s.TypeIs (.ref a) "list") (hd : ∃ o, s.heap.get? a = some o ∧ o.data = .seq its n) (h : Q () s) : wpAny (Mo X) A (checkBoundCall "list.append" ⟨[.ref a, v], []⟩) Q E s := by
  unfold checkBoundCall
  rw [sig_append]
  simp only [kind_append]
  refine wpAny_ite_split (fun q => absurd q (by decide)) (fun _ => ?_)
  refine wpAny_bind (wpAny_isInstance (T := "list") (b := false) hT sub_list_module ?_)
  refine wpAny_ite_split (fun q => absurd q (by rw [varargs_append]; decide)) (fun _ => ?_)
  refine wpAny_bind ?_
  obtain ⟨o, ho, hd⟩ := hd
  unfold isType
  refine wpAny_bind (wpAny_loadPart ho ?_)
  simp only [hd]
  refine wpAny_pure ?_
  simp only [Bool.false_eq_true, if_false]
  refine wpAny_bind (wpAny_typeOf hT ?_)
  exact wpAny_of_eq (check_append a v) h
theorem call_bound_append {A : Around} {s : Shared} {b a : Addr} {v : Value} {its : Array Value} {Q : Value → Shared → Prop} (hb : s.heap.get? b = some (bnd "list.append" a)) (hl : PlainL s.heap a its)
    (hQ : ∀ h', PlainL h' a (its.push v) → Heap.SameBut a s.heap h' → Q .none { s with heap := h' }) (hsz : its.size ≤ sizeLine) : wpAny (Mo X) A (call (.ref b) [v]) Q (fun _ _ => False) s := by
  obtain ⟨o, n, ho, hc, hdn, hd⟩ := id hl
  obtain ⟨n', hd'⟩ := Obj.data_mapSeq hd (·.push v)
  refine wpAny_call (codeAny_of_tree ?_)
  show wpAny _ A.in1 (callAny (.ref b) ⟨[v], []⟩) _ _ _
  unfold callAny
  refine wpAny_bind (wpAny_load hb ?_)
  show wpAny _ _ (checkBoundCall "list.append" ⟨[.ref a, v], []⟩ >>= fun _ => again (.builtin "list.append" ⟨[.ref a, v], []⟩)) _ _ _
  refine wpAny_bind (check_bound_append hl.isList.typeIs ⟨o, ho, hd⟩ (wpAny_pure ⟨Code.quiet_builtin _ (by decide +kernel), codeAny_builtin entry_list_append ?_⟩))
  show wpAny _ _ (updateSeq a (·.push v) >>= fun _ => ret .none) _ _ s
  refine wpAny_bind ?_
  refine wpAny_updateSeq ho hd (wpAny_pure (hQ _ ?_ (Heap.SameBut.update ..)))
  refine ⟨_, n', Heap.get?_update_self _ ho (Obj.isFreed_of_seq hd'), (Obj.cls_mapSeq ..).trans hc, ?_, hd'⟩
  obtain ⟨c, d, dt, sl⟩ := o
  subst hd
  exact hdn
end
section
variable {X : Wd} {k : Nat} {f : FS}

theorem keeper_bnd {h : Heap} {b a : Addr} {id : String} (hb : h.get? b = some (bnd id a)) : Looks (Mo X) h (keeperOf (.ref b)) .machine := by
  unfold keeperOf
  refine Looks.andThen (Looks.ld hb) ?_
  exact Looks.of_pure rfl

/-- add(e), add a bound append of an own list -/
theorem WS.callBound {fe e : Expr} {cpos pos : Pos} {a b : Addr} {xs : List PV} {p : PV} {led' : List (Addr × MO)} {rest : List Stmt} {Ψ} (hf : Ev X k f fe (.raw (.ref b))) (hb : (b, MO.obj (bnd "list.append" a)) ∈ f.led) (he : Ev X k f e p) (hl : LedSet a (.lst xs) (.lst (xs ++ [p])) f.led led') (hz : xs.length ≤ sizeLine)
    (h : WS X k (f.upd f.vars led') rest Ψ)
    (hs : ∀ r, starEach (e :: r) f.env = (false, eval e f.env) :: starEach r f.env := by intro _; rfl)
    (heq : eval (.Call fe [e] [] cpos) f.env = (do callWith cpos (← eval fe f.env) [] (backTo cpos (starEach [e] f.env)) (backToKw cpos (keywordEach [] f.env))) := by rfl) (hi : interactive f.env = false := by rfl) (hsw : swapsWith (.Call fe [e] [] cpos) none pos.line f.env = pure false := by rfl) :
    WS X k f (.Expr (.Call fe [e] [] cpos) pos :: rest) Ψ := by
  refine WS.step (vars := f.vars) (led := led') (fun A s Q R F hQ => wpAny_Expr_any ?_ hi hsw) h
  refine Call_ (hf A s _ R F fun v s₁ G₁ F₁ h₁ => ?_) heq
  cases h₁
  refine callWith_of (P := fun h => h.get? b = some (bnd "list.append" a)) (by rw [EvL.len fun e' h => by rcases List.mem_singleton.mp h with rfl; exact hs]; rfl) (fun h hh => ⟨.machine, .inr (.inl rfl), keeper_bnd hh⟩) ?_
  rw [hs]
  refine Calls.evalArgs_plain ?_
  show wpAny _ _ (spliced (backTo cpos ((false, eval e f.env) :: starEach [] f.env))) _ _ _
  rw [← hs]
  refine EvL.cons he EvL.nil (hs _) A s₁ _ R F₁ fun us s₂ G₂ F₂ h₂ => ⟨F₂.led b _ hb, ?_⟩
  obtain ⟨v, r, rfl, hv, hr⟩ := h₂
  cases hr
  obtain ⟨o, vs, n, h1, h2, h3, h4⟩ := F₂.led a _ hl.mem
  refine call_bound_append (F₂.led b _ hb) ⟨o, n, h1, h2.1, h2.2, h3⟩ (fun h' hl' hs' => ?_) (by rw [h4.size]; exact hz)
  obtain ⟨o', n', e1, e2, e4, e3⟩ := hl'
  have := F₂.setLed (t := s₂.toks) hl hs' ⟨o', _, n', e1, ⟨e2, e4⟩, e3, by rw [Array.toList_push]; exact h4.append (RdL.one hv)⟩
  exact hQ _ this.1 (((Step.grow F G₁).trans (Step.grow F₁ G₂)).trans this.2)
end
section
variable {X : Wd} {k : Nat} {hs : Shared} {mu : Addr → Prop} {env : Env} {vars : List (Str × PV)} {own : List Addr} {led : List (Addr × MO)}

theorem wFor {tgt iter : Expr} {body rest : List Stmt} {pos : Pos} {items : List PV} {Ψ} (bs : PV → List (Str × PV)) (J : Nat → List (Str × PV) → List (Addr × MO) → Prop) (hsrc : Src X k ⟨hs, mu, env, vars, own, led⟩ tgt iter items)
    (h0 : J 0 vars led)
    (turn : ∀ i p V L O, items[i]? = some p → (∀ b ∈ own, b ∈ O) → J i V L → Binds X k ⟨hs, mu, env, V, O, L⟩ tgt p (bs p) ∧ WS X k ⟨hs, mu, env, bs p ++ V, O, L⟩ body (ForT X k hs mu env own J i rest Ψ))
    (fin : ∀ V L, J items.length V L → WS X k ⟨hs, mu, env, V, own, L⟩ rest Ψ)
    (hss : ∀ x, foldedSetIterable iter env x = pure x := by intro _; rfl) : WS X k ⟨hs, mu, env, vars, own, led⟩ (.For tgt iter body [] pos :: rest) Ψ :=
  WS.for (f := ⟨hs, mu, env, vars, own, led⟩) bs J hsrc h0 turn fin hss
theorem wAppend {o e : Expr} {apos cpos pos : Pos} {a : Addr} {xs : List PV} {p : PV} {led' : List (Addr × MO)} {rest : List Stmt} {Ψ} {pl : Sem Bool} (ho : Ev X k ⟨hs, mu, env, vars, own, led⟩ o (.raw (.ref a))) (he : Ev X k ⟨hs, mu, env, vars, own, led⟩ e p) (hl : LedSet a (.lst xs) (.lst (xs ++ [p])) led led') (hz : xs.length ≤ sizeLine)
    (h : WS X k ⟨hs, mu, env, vars, own, led'⟩ rest Ψ)
    (hst : ∀ r, starEach (e :: r) env = (false, eval e env) :: starEach r env := by intro _; rfl)
    (heq : eval (.Call (.Attribute o "append" apos) [e] [] cpos) env = (do
      let ov ← eval o env
      standAt apos.atName
      let (f', first) ← holding [ov] (getMethod ov "append" pl)
      callWith cpos f' first (backTo cpos (starEach [e] env)) []) := by rfl) (hi : interactive env = false := by rfl) (hsw : swapsWith (.Call (.Attribute o "append" apos) [e] [] cpos) none pos.line env = pure false := by rfl) :
    WS X k ⟨hs, mu, env, vars, own, led⟩ (.Expr (.Call (.Attribute o "append" apos) [e] [] cpos) pos :: rest) Ψ := WS.append ho he hl hz h hst heq hi hsw
theorem wAppendX {o e : Expr} {apos cpos pos : Pos} {a : Addr} {xs : List PV} {Φ : PV → List (Addr × MO) → Prop} {rest : List Stmt} {Ψ} {pl : Sem Bool} (ho : Ev X k ⟨hs, mu, env, vars, own, led⟩ o (.raw (.ref a))) (hm : (a, MO.lst xs) ∈ led) (he : EvX X k ⟨hs, mu, env, vars, own, led⟩ e Φ) (hz : xs.length ≤ sizeLine)
    (h : ∀ p L, Φ p L → ∃ L', LedSet a (.lst xs) (.lst (xs ++ [p])) L L' ∧ WS X k ⟨hs, mu, env, vars, own, L'⟩ rest Ψ)
    (hst : ∀ r, starEach (e :: r) env = (false, eval e env) :: starEach r env := by intro _; rfl)
    (heq : eval (.Call (.Attribute o "append" apos) [e] [] cpos) env = (do
      let ov ← eval o env
      standAt apos.atName
      let (f', first) ← holding [ov] (getMethod ov "append" pl)
      callWith cpos f' first (backTo cpos (starEach [e] env)) []) := by rfl) (hi : interactive env = false := by rfl) (hsw : swapsWith (.Call (.Attribute o "append" apos) [e] [] cpos) none pos.line env = pure false := by rfl) :
    WS X k ⟨hs, mu, env, vars, own, led⟩ (.Expr (.Call (.Attribute o "append" apos) [e] [] cpos) pos :: rest) Ψ := WS.appendX ho hm he hz h hst heq hi hsw
theorem wAssignX {x : Str} {p1 p2 : Pos} {e : Expr} {Φ : PV → List (Addr × MO) → Prop} {rest : List Stmt} {Ψ} (he : EvX X k ⟨hs, mu, env, vars, own, led⟩ e Φ) (S : Stores ⟨hs, mu, env, vars, own, led⟩ x)
    (h : ∀ p L, Φ p L → WS X k ⟨hs, mu, env, (x, p) :: vars, own, L⟩ rest Ψ) (hsw : swapsWith e (some (.Name x p1)) p2.line env = pure false := by rfl) : WS X k ⟨hs, mu, env, vars, own, led⟩ (.Assign [.Name x p1] e p2 :: rest) Ψ := WS.assignX he S h hsw
theorem wCallBound {fe e : Expr} {cpos pos : Pos} {a b : Addr} {xs : List PV} {p : PV} {led' : List (Addr × MO)} {rest : List Stmt} {Ψ} (hf : Ev X k ⟨hs, mu, env, vars, own, led⟩ fe (.raw (.ref b))) (hb : (b, MO.obj (bnd "list.append" a)) ∈ led) (he : Ev X k ⟨hs, mu, env, vars, own, led⟩ e p) (hl : LedSet a (.lst xs) (.lst (xs ++ [p])) led led') (hz : xs.length ≤ sizeLine)
    (h : WS X k ⟨hs, mu, env, vars, own, led'⟩ rest Ψ)
    (hst : ∀ r, starEach (e :: r) env = (false, eval e env) :: starEach r env := by intro _; rfl)
    (heq : eval (.Call fe [e] [] cpos) env = (do callWith cpos (← eval fe env) [] (backTo cpos (starEach [e] env)) (backToKw cpos (keywordEach [] env))) := by rfl) (hi : interactive env = false := by rfl) (hsw : swapsWith (.Call fe [e] [] cpos) none pos.line env = pure false := by rfl) :
    WS X k ⟨hs, mu, env, vars, own, led⟩ (.Expr (.Call fe [e] [] cpos) pos :: rest) Ψ := WS.callBound hf hb he hl hz h hst heq hi hsw
theorem wAssignComp {y : Str} {py spos : Pos} {elt iter tgt : Expr} {ifs : List Expr} {scope : Scope} {pos : Pos} {items : List PV} {cl : List (Str × Addr)} {rest : List Stmt} {Ψ} (cvars : List (Str × PV)) (g : PV → Option PV) (bs : PV → List (Str × PV))
    (hsrc : Src X k ⟨hs, mu, env, vars, own, led⟩ tgt iter items) (hcv : CV ⟨hs, mu, env, vars, own, led⟩ scope cl cvars) (hcl : SubC env.cells cl) (hel : Elts X k ⟨hs, mu, env, vars, own, led⟩ scope cl cvars tgt ifs elt items g bs) (hz : items.length ≤ sizeLine)
    (hy : env.kindOf y = some .local) (hsw : swapsWith (.ListComp elt [⟨tgt, iter, ifs, 0⟩] scope pos) (some (.Name y py)) spos.line env = pure true)
    (hclos : closureFor scope env = pure cl) (hcell : ∀ y ∈ scope.names, y.2 ≠ .cell) (hnames : ∀ y ∈ scope.names, y.2 = .local → scope.names.lookup y.1 = some .local)
    (h : WS X k ⟨hs, mu, env, (y, .lst (items.filterMap g)) :: vars, own, led⟩ rest Ψ) (hkind : scope.kind = .function := by rfl) (hss : ∀ x, foldedSetIterable iter env x = pure x := by intro _; rfl) :
    WS X k ⟨hs, mu, env, vars, own, led⟩ (.Assign [.Name y py] (.ListComp elt [⟨tgt, iter, ifs, 0⟩] scope pos) spos :: rest) Ψ := wAssignComp0 (f := ⟨hs, mu, env, vars, own, led⟩) cvars g bs hsrc hcv hcl hel hz hy hsw hclos hcell hnames h hkind hss
end
section
variable {X : Wd} {k : Nat} {f : FS}

/-- a row of expressions, of which some make things -/
noncomputable def EvLX (X : Wd) (k : Nat) (f : FS) (pos : Pos) (es : List Expr) (Φ : List PV → List (Addr × MO) → Prop) : Prop :=
  ∀ A s (Q : List Value → Shared → Prop), Room X A k → f.Ok X s → (∀ ps led vs s', Φ ps led → (f.upd f.vars led).Ok X s' → Step f s (f.upd f.vars led) s' → RdL s'.heap (f.upd f.vars led).mu' ps vs → Q vs s') → wpAny (Mo X) A (spliced (backTo pos (starEach es f.env))) Q (fun _ _ => False) s
theorem EvLX.of {pos : Pos} {es : List Expr} {ps : List PV} (h : EvL X k f pos es ps) : EvLX X k f pos es (fun qs led => qs = ps ∧ led = f.led) := fun A s Q R F hQ => h A s Q R F fun vs s' G F' hv => hQ ps f.led vs s' ⟨rfl, rfl⟩ F' (Step.grow F G) hv
/-- the first one makes something -/
theorem EvLX.first {pos : Pos} {e : Expr} {es : List Expr} {Φ : PV → List (Addr × MO) → Prop} {ps : List PV} (h : EvX X k f e Φ) (hr : ∀ p led, Φ p led → EvL X k (f.upd f.vars led) pos es ps) (he : starEach (e :: es) f.env = (false, eval e f.env) :: starEach es f.env := by rfl) :
    EvLX X k f pos (e :: es) (fun qs led => ∃ q, qs = q :: ps ∧ Φ q led) := fun A s Q R F hQ => by
  refine args_cons (h A s _ R F fun p led v s₁ hΦ F₁ S₁ h₁ => ?_) he
  refine hr p led hΦ A s₁ _ R F₁ fun vs s₂ G₂ F₂ h₂ => hQ _ led _ s₂ ⟨p, rfl, hΦ⟩ F₂ (S₁.trans (Step.grow F₁ G₂)) ⟨v, vs, rfl, F₁.rd h₁ G₂, h₂⟩
theorem EvX.listX {es : List Expr} {pos : Pos} {Φ : List PV → List (Addr × MO) → Prop} (h : EvLX X k f pos es Φ) (hz : ∀ ps led, Φ ps led → ps.length ≤ sizeLine) : EvX X k f (.List es pos) (fun q led => ∃ a ps led', Φ ps led' ∧ q = .raw (.ref a) ∧ led = (a, .lst ps) :: led') := by
  intro A s Q R F hQ
  refine List_ (h A s _ R F fun ps led vs s₁ hΦ F₁ S₁ h₁ => wpAny_newObj_type ?_ (by show vs.toArray.size ≤ sizeLine; rw [List.size_toArray, h₁.length]; exact hz _ _ hΦ))
  have G₂ : Grow X s₁ { s₁ with heap := s₁.heap.push { cls := .type "list", data := .seq vs.toArray } } := .push F₁.live
  have e : (s₁.heap.push { cls := .type "list", data := .seq vs.toArray }).get? s₁.heap.objs.size = some { cls := .type "list", data := .seq vs.toArray } := Heap.get?_push_size _ rfl
  exact hQ _ _ _ _ ⟨_, _, _, hΦ, rfl, rfl⟩ (F₁.take (mo := .lst ps) G₂ (Nat.le_refl _) ⟨_, _, _, e, ⟨rfl, rfl⟩, rfl, h₁⟩ ⟨_, e⟩) (S₁.trans (Step.take F₁ G₂ (Nat.le_refl _))) rfl
theorem EvX.tupX {es : List Expr} {n : Nat} {pos : Pos} {Φ : List PV → List (Addr × MO) → Prop} (h : EvLX X k f pos es Φ) (hz : ∀ ps led, Φ ps led → ps.length ≤ sizeLine) : EvX X k f (.Tuple es n pos) (fun q led => ∃ ps, q = .tup ps ∧ Φ ps led) := by
  intro A s Q R F hQ
  refine Tuple_ (h A s _ R F fun ps led vs s₁ hΦ F₁ S₁ h₁ => wpAny_newObj_type ?_ (by show vs.toArray.size ≤ sizeLine; rw [List.size_toArray, h₁.length]; exact hz _ _ hΦ))
  have G₂ : Grow X s₁ { s₁ with heap := s₁.heap.push { cls := .type "tuple", data := .seq vs.toArray } } := .push F₁.live
  exact hQ _ _ _ _ ⟨_, rfl, hΦ⟩ (F₁.grown F₁.live G₂) (S₁.trans (Step.grow F₁ G₂)) ⟨_, _, _, _, rfl, F₁.sane.new, Heap.get?_push_size _ rfl, rfl, rfl, by simpa using F₁.rdl h₁ G₂⟩

theorem store_row : ∀ (ns : List Str) {f : FS} {ps : List PV} {vs : List Value} {A : Around} {s : Shared} {Q : Unit → Shared → Prop}, (∀ n ∈ ns, f.env.kindOf n = some .local) → f.Ok X s → ps.length = ns.length → RdL s.heap f.mu' ps vs →
    (∀ s', (f.upd ((ns.zip ps).reverse ++ f.vars) f.led).Ok X s' → Step f s (f.upd ((ns.zip ps).reverse ++ f.vars) f.led) s' → Q () s') → wpAny (Mo X) A (assignInOrder (ns.map fun n => bindName f.env n) vs) Q (fun _ _ => False) s
  | [], f, ps, vs, A, s, Q, _, F, hl, hr, hQ => by
    have : ps = [] := List.length_eq_zero_iff.mp hl
    subst this
    cases hr
    exact wpAny_assignInOrder_none (hQ s F .refl)
  | n :: ns, f, ps, vs, A, s, Q, hk, F, hl, hr, hQ => by
    cases ps with
    | nil => simp at hl
    | cons p ps =>
      obtain ⟨v, r, rfl, hv, hr⟩ := hr
      refine wpAny_assignInOrder_more (wpAny_bindName (store_loc F (hk n (.head _)) hv fun s₁ F₁ S₁ => ?_))
      refine store_row ns (f := f.upd ((n, p) :: f.vars) f.led) (fun m hm => hk m (.tail _ hm)) F₁ (by simpa using hl) (hr.mono fun b o hb e => ⟨S₁.keeps hb e, hb⟩) fun s₂ F₂ S₂ => ?_
      have e : (f.upd ((n, p) :: f.vars) f.led).upd ((ns.zip ps).reverse ++ (f.upd ((n, p) :: f.vars) f.led).vars) (f.upd ((n, p) :: f.vars) f.led).led = f.upd (((n :: ns).zip (p :: ps)).reverse ++ f.vars) f.led := by
        show f.upd ((ns.zip ps).reverse ++ (n, p) :: f.vars) f.led = _
        simp
      rw [e] at F₂ S₂
      exact hQ s₂ F₂ (S₁.trans S₂)

theorem zip_reverse {α β : Type} (xs : List α) (ys : List β) (h : xs.length = ys.length) : (xs.reverse.zip ys.reverse).reverse = xs.zip ys := by
  induction xs generalizing ys with
  | nil => cases ys <;> simp_all
  | cons x xs ih => cases ys with
    | nil => simp at h
    | cons y ys =>
      have h : xs.length = ys.length := by simpa using h
      rw [List.reverse_cons, List.reverse_cons, List.zip_append (by simpa using h), List.reverse_append]
      simp [ih ys h]

/-- x, y, .. = a tuple's display, stored the other way round -/
theorem WS.assignSw {elts : List Expr} {kk : Nat} {tpos pos : Pos} {value : Expr} {names : List Str} {Φ : List PV → List (Addr × MO) → Prop} {rest : List Stmt} {Ψ} (he : EvX X k f value (fun q led => ∃ ps, q = .tup ps ∧ Φ ps led)) (hloc : (names.all fun n => f.env.kindOf n == some .local) = true) (hlen : ∀ ps led, Φ ps led → ps.length = names.length)
    (h : ∀ ps led, Φ ps led → WS X k (f.upd (names.zip ps ++ f.vars) led) rest Ψ)
    (hs : swapsWithSole [.Tuple elts kk tpos] value pos.line f.env = pure false := by rfl) (hw : swappedStores [.Tuple elts kk tpos] value f.env = pure (some names) := by rfl) :
    WS X k f (.Assign [.Tuple elts kk tpos] value pos :: rest) Ψ := by
  intro A s Q R F hQ
  refine wpAny_execs_cons (Assign_Tuple_swapped (he A s _ R F fun p led v s₁ hp F₁ S₁ h₁ => ?_) hs hw)
  obtain ⟨ps, rfl, hΦ⟩ := hp
  obtain ⟨a, vs, rfl, hT, hx⟩ := h₁.tup_is
  have hsz : vs.size = names.length := hx.size.trans (hlen _ _ hΦ)
  rw [← hsz]
  refine unpackItems_t R.hd hT fun h' he hz => ?_
  have G : Grow X s₁ { s₁ with heap := h' } := .all (F₁.live.kept (fun b o e => he b o (Nat.ne_of_lt (Heap.lt_size e)) e) hz) (fun b o e => he b o (Nat.ne_of_lt (Heap.lt_size e)) e) hz rfl rfl
  have F₂ := F₁.grown F₁.live G
  have hrev : RdL h' (f.upd f.vars led).mu' ps.reverse vs.toList.reverse := by
    have h0 := F₁.rdl hx G
    have : ∀ {ps : List PV} {vs : List Value}, RdL h' (f.upd f.vars led).mu' ps vs → RdL h' (f.upd f.vars led).mu' ps.reverse vs.reverse := fun {ps vs} h => by
      induction ps generalizing vs with
      | nil => cases h; rfl
      | cons p ps ih =>
        obtain ⟨v, r, rfl, hv, hr⟩ := h
        simp only [List.reverse_cons]
        exact (ih hr).append (RdL.one hv)
    exact this h0
  refine store_row names.reverse (f := f.upd f.vars led) (fun n hn => beq_iff_eq.mp (List.all_eq_true.mp hloc n (by simpa using hn))) F₂ (by simpa using hlen _ _ hΦ) hrev fun s₂ F₃ S₃ => ?_
  have e : (names.reverse.zip ps.reverse).reverse = names.zip ps := zip_reverse _ _ (hlen _ _ hΦ).symm
  rw [e] at F₃ S₃
  exact h ps led hΦ A s₂ Q R F₃ fun fl vars' led' g s' hp F' S' hg => hQ fl vars' led' g s' hp F' (((S₁.trans (Step.grow F₁ G)).trans S₃).trans S')
    hg
end
section
theorem filterMap_range {α : Type} (xs : List α) (a n : Nat) : ((List.range n).map (a + ·)).filterMap (xs[·]?) = (xs.drop a).take n := by
  induction n with
  | zero => simp
  | succ n ih =>
    rw [List.range_succ, List.map_append, List.filterMap_append, ih, List.take_succ, List.getElem?_drop]
    simp only [List.map_cons, List.map_nil]
    cases h : xs[a + n]? <;> simp [h]
/-- where a slice's end falls -/
noncomputable def clipN (v : Option Int) (d n : Nat) : Nat := match v with
  | none => d
  | some i => (if i < 0 then max 0 (i + n) else min i n).toNat
theorem clamp_eq (n : Nat) (i : Int) : max 0 (min (if i < 0 then i + (n : Int) else i) n) = (((if i < 0 then max 0 (i + (n : Int)) else min i (n : Int)).toNat : Nat) : Int) := by
  split
  · rw [Int.min_eq_left (by omega), Int.toNat_of_nonneg (Int.le_max_left 0 _)]
  · rename_i h
    have hm : (0 : Int) ≤ min i n := Int.le_min.mpr ⟨Int.not_lt.mp h, Int.natCast_nonneg n⟩
    rw [Int.max_eq_right hm, Int.toNat_of_nonneg hm]
theorem clip_nat (d n m : Nat) : clipN (some (n : Int)) d m = min n m := by
  show (if (n : Int) < 0 then max 0 ((n : Int) + m) else min (n : Int) m).toNat = _
  rw [if_neg (Int.not_lt.mpr (Int.natCast_nonneg n))]
  omega
theorem clip_le (v : Option Int) {d n : Nat} (h : d ≤ n) : clipN v d n ≤ n := by
  unfold clipN
  split
  · exact h
  · split
    · exact Int.toNat_le.mpr (Int.max_le.mpr ⟨Int.natCast_nonneg n, by omega⟩)
    · exact Int.toNat_le.mpr (Int.min_le_right _ _)
theorem whole_cut {a b n : Nat} (h : b - a = n) (hb : b ≤ n) (ha : a ≤ n) : a = 0 ∨ n = 0 := by omega
theorem bounds_eq (l u : Option Int) (n : Nat) : sliceBounds l u none n = ((clipN l 0 n : Int), (clipN u n n : Int), 1) := by
  have h := clamp_eq n
  cases l <;> cases u <;> simp only [sliceBounds, clipN, Option.getD_none, show (1 : Int) > 0 by decide, if_true] <;> first | rfl | (simp only [h]; done) | (simp only [h]; rfl)
theorem indices_eq (l u : Option Int) (n : Nat) : Builtin.Str.strSliceIndices l u 1 n = (List.range (clipN u n n - clipN l 0 n)).map (clipN l 0 n + ·) := by
  have h := clamp_eq n
  rw [← sliceRange_one]
  cases l <;> cases u <;> simp only [Builtin.Str.strSliceIndices, clipN, show (1 : Int) > 0 by decide, if_true] <;> first | rfl | (simp only [h]; done) | (simp only [h]; rfl)
theorem pickL_eq {α : Type} (xs : List α) (l u : Option Int) : pickL xs l u = (xs.drop (clipN l 0 xs.length)).take (clipN u xs.length xs.length - clipN l 0 xs.length) := by
  unfold pickL
  rw [bounds_eq]
  show (sliceRange _ _ 1).filterMap _ = _
  rw [sliceRange_one, filterMap_range]
theorem slice_eq (x : Str) (l u : Option Int) : (Txt.slice x l u).cps.toList = (x.cps.toList.drop (clipN l 0 x.length)).take (clipN u x.length x.length - clipN l 0 x.length) := by
  have e : ∀ is : List Nat, is.filterMap (x.cps[·]?) = is.filterMap (x.cps.toList[·]?) := fun is => by congr 1; funext i; simp
  have hlen : x.cps.toList.length = x.length := by simp [Str.length]
  unfold Txt.slice
  rw [indices_eq]
  split
  · rename_i h
    have h : clipN u x.length x.length - clipN l 0 x.length = x.length := by simpa using h
    rw [h]
    have hz := whole_cut h (clip_le u (Nat.le_refl _)) (clip_le l (Nat.zero_le _))
    rcases hz with hz | hz
    · rw [hz, List.drop_zero, List.take_of_length_le (Nat.le_of_eq hlen)]
    · have : x.cps.toList = [] := List.length_eq_zero_iff.mp (hlen.trans hz)
      rw [this, List.drop_nil, List.take_nil]
  · show (List.filterMap _ _).toArray.toList = _
    rw [List.toList_toArray, e, filterMap_range]
theorem slice_drop (x : Str) (n : Nat) (h : n ≤ x.length) : (Txt.slice x (some (n : Int)) none).cps.toList = x.cps.toList.drop n := by
  have hlen : x.cps.toList.length = x.length := by simp [Str.length]
  rw [slice_eq]
  have e : clipN (some (n : Int)) 0 x.length = n := (clip_nat _ _ _).trans (Nat.min_eq_left h)
  rw [e]
  show List.take (x.length - n) _ = _
  rw [List.take_of_length_le (by simp [hlen])]
theorem slice_take (x : Str) (n : Nat) (h : n ≤ x.length) : (Txt.slice x none (some (n : Int))).cps.toList = x.cps.toList.take n := by
  rw [slice_eq]
  have e : clipN (some (n : Int)) x.length x.length = n := (clip_nat _ _ _).trans (Nat.min_eq_left h)
  rw [e]
  simp [clipN]
theorem slice_mid (x : Str) (m n : Nat) (h : m ≤ x.length) : (Txt.slice x (some (m : Int)) (some (n : Int))).cps.toList = (x.cps.toList.drop m).take (min n x.length - m) := by
  rw [slice_eq]
  have e : clipN (some (n : Int)) x.length x.length = min n x.length := clip_nat _ _ _
  have e' : clipN (some (m : Int)) 0 x.length = m := (clip_nat _ _ _).trans (Nat.min_eq_left h)
  rw [e, e']
end
section
variable {X : Wd} {k : Nat} {f : FS}

/-- is, is not, where one side is an object -/
theorem isnot_sr {x : Str} {a : Addr} : Op2 X k (.str x) (.raw (.ref a)) (compareOp .IsNot) (.bool true) := op_of fun A s mu v w Q _ _ hv hw hQ => by
  obtain ⟨t, rfl⟩ := hv; cases hw; exact wpAny_isNot_other rfl (by intro h; cases h) (hQ _ s.toks rfl)
theorem isnot_rr {a : Addr} : Op2 X k (.raw (.ref a)) (.raw (.ref a)) (compareOp .IsNot) (.bool false) := op_of fun A s mu v w Q _ _ hv hw hQ => by
  cases hv; cases hw; exact wpAny_isNot_ref_self (hQ _ s.toks rfl)
theorem is_rr {a : Addr} : Op2 X k (.raw (.ref a)) (.raw (.ref a)) (compareOp .Is) (.bool true) := op_of fun A s mu v w Q _ _ hv hw hQ => by
  cases hv; cases hw; exact wpAny_is_ref_self (hQ _ s.toks rfl)
theorem isnot_tt {a b : String} : Op2 X k (.raw (.type a)) (.raw (.type b)) (compareOp .IsNot) (.bool (!(Value.type a == Value.type b))) := op_of fun A s mu v w Q _ _ hv hw hQ => by
  cases hv; cases hw; exact wpAny_isNot_plain rfl (hQ _ s.toks rfl)
theorem is_tt {a b : String} : Op2 X k (.raw (.type a)) (.raw (.type b)) (compareOp .Is) (.bool (Value.type a == Value.type b)) := op_of fun A s mu v w Q _ _ hv hw hQ => by
  cases hv; cases hw; exact wpAny_is_plain rfl (hQ _ s.toks rfl)
theorem nin_ss {a b : Str} : Op2 X k (.str a) (.str b) (compareOp .NotIn) (.bool (!(!(Builtin.Str.occurrences b a 0 b.length 1).isEmpty))) := op_of fun A s mu v w Q _ _ hv hw hQ => by
  obtain ⟨t, rfl⟩ := hv; obtain ⟨u, rfl⟩ := hw; exact P.notIn_str (hQ _ s.toks rfl)

/-- an assertion that holds -/
theorem WS.assert {e : Expr} {pos : Pos} {rest : List Stmt} {Ψ} (he : Tv X k f e true) (h : WS X k f rest Ψ) : WS X k f (.Assert e none pos :: rest) Ψ :=
  WS.step (vars := f.vars) (led := f.led) (fun A s Q R F hQ => wpAny_Assert_new R.hd (he A s _ R F fun s₁ G₁ F₁ => by rw [if_pos rfl]; exact hQ s₁ F₁ (Step.grow F G₁))) h

/-- replace where there is nothing to replace -/
theorem call_replace_none {A : Around} {s : Shared} {E : Value → Shared → Prop} {x y z : Str} {t u v : Tok} {Q : Value → Shared → Prop} (ho : (Builtin.Str.occurrences x y 0 x.length (x.length + 1)).isEmpty = true) (h : ∀ k, Q (.str x t) { s with toks := k }) :
    wpAny (Mo X) A (call (.builtin "str.replace") [.str x t, .str y u, .str z v]) Q E s := by
  refine call_gives PySem.F.slot_str_replace (typeIs_str _ _ _) PySem.F.entry_str_replace (PySem.F.args_str_replace_3 _ _ _)
    (gives_str_replace x y z t u v fun hn => ?_) ?_
  · rw [ho] at hn; simp at hn
  · rw [ho]
    simp only [Bool.true_or, if_true]
    exact h s.toks
theorem Ev.replace0 {o e1 e2 : Expr} {apos pos : Pos} {x y z : Str} {pl : Sem Bool} (ho : Ev X k f o (.str x)) (h1 : Ev X k f e1 (.str y)) (h2 : Ev X k f e2 (.str z)) (hn : (Builtin.Str.occurrences x y 0 x.length (x.length + 1)).isEmpty = true)
    (hs1 : ∀ r, starEach (e1 :: r) f.env = (false, eval e1 f.env) :: starEach r f.env := by intro _; rfl) (hs2 : ∀ r, starEach (e2 :: r) f.env = (false, eval e2 f.env) :: starEach r f.env := by intro _; rfl)
    (heq : eval (.Call (.Attribute o "replace" apos) [e1, e2] [] pos) f.env = (do
      let ov ← eval o f.env
      standAt apos.atName
      let (f', first) ← holding [ov] (getMethod ov "replace" pl)
      callWith pos f' first (backTo pos (starEach [e1, e2] f.env)) []) := by rfl) : Ev X k f (.Call (.Attribute o "replace" apos) [e1, e2] [] pos) (.str x) := by
  intro A s Q R F hQ
  refine MethodCall_ (ho A s _ R F fun v s₁ G₁ F₁ h₁ => ?_) heq
  obtain ⟨t, rfl⟩ := h₁
  refine GM.replace (callWith_method1 ?_ (hs1 _) (by rw [hs2]; rfl))
  refine EvL.cons h1 (EvL.cons h2 EvL.nil (hs2 _)) (hs1 _) A s₁ _ R F₁ fun vs s₂ G₂ F₂ h₂ => ?_
  obtain ⟨v, r, rfl, ⟨u, rfl⟩, v', r', rfl, ⟨w, rfl⟩, hr⟩ := h₂
  cases hr
  exact call_replace_none hn fun kk => hQ _ _ ((G₁.trans G₂).trans (.toks F₂.live)) (F₂.toks _) ⟨_, rfl⟩

/-- f-strings: texts joined -/
theorem Ev.fval {e : Expr} {pos : Pos} {x : Str} (h : Ev X k f e (.str x)) (hz : x.length ≤ sizeLine) : Ev X k f (.FormattedValue e (-1) none pos) (.str x) := by
  intro A s Q R F hQ
  refine wpAny_FormattedValue_plain (h A s _ R F fun v s₁ G₁ F₁ h₁ => ?_)
  obtain ⟨t, rfl⟩ := h₁
  exact wpAny_formatField_str (hQ _ _ G₁ F₁ ⟨_, rfl⟩) (hQ _ _ (G₁.trans (.toks F₁.live)) (F₁.toks _) ⟨_, rfl⟩) hz
noncomputable def FParts (X : Wd) (k : Nat) (f : FS) : List Expr → Str → Str → Prop
  | [], acc, out => acc = out
  | e :: es, acc, out => ∃ x, Ev X k f e (.str x) ∧ (acc ++ x).length ≤ sizeLine ∧ FParts X k f es (acc ++ x) out
theorem fparts {A : Around} (R : Room X A k) {Q : Str → Shared → Prop} {out : Str} : ∀ {es : List Expr} {acc : Str} {s : Shared}, FParts X k f es acc out → (∀ e ∈ es, ∀ r, evalEach (e :: r) f.env = eval e f.env :: evalEach r f.env) → f.Ok X s → (∀ s', Grow X s s' → f.Ok X s' → Q out s') → Joins (Mo X) A (fun _ _ => False) (evalEach es f.env) acc Q s
  | [], acc, s, h, _, F, hQ => by cases h; exact hQ s (.refl F.live) F
  | e :: es, acc, s, ⟨x, he, hz, hr⟩, hs, F, hQ => by
    rw [hs e (.head _)]
    refine he A s _ R F fun v s₁ G₁ F₁ h₁ => ?_
    obtain ⟨t, rfl⟩ := h₁
    exact ⟨x, t, rfl, hz, fparts R hr (fun e' h => hs e' (.tail _ h)) F₁ fun s' G F' => hQ s' (G₁.trans G) F'⟩
theorem Ev.fstr {e1 e2 : Expr} {es : List Expr} {pos : Pos} {out : Str} (h : FParts X k f (e1 :: e2 :: es) Str.empty out) (hz : out.length ≤ sizeLine) (hs : Each (fun e => ∀ r, evalEach (e :: r) f.env = eval e f.env :: evalEach r f.env) (e1 :: e2 :: es) := by repeat (first | exact True.intro | refine ⟨fun _ => rfl, ?_⟩)) :
    Ev X k f (.JoinedStr (e1 :: e2 :: es) pos) (.str out) := by
  intro A s Q R F hQ
  exact wpAny_JoinedStr (fparts R h hs.get F fun s' G F' => ⟨hz, hQ _ _ (G.trans (.toks F'.live)) (F'.toks _) ⟨_, rfl⟩⟩)
end
section
theorem hke : ∀ P, [2, 3, 32, 34, 35, 37, 38, 46, 48, 49, 51, 52, 53, 54, 55, 56, 57, 63, 64, 65, 67, 68, 70, 71, 73, 77, 79, 80, 82, 83, 84, 86, 87, 89, 90, 91, 93, 94, 96, 97, 98, 100, 101, 103, 104, 105, 107, 108, 110, 111, 112, 115, 116, 117, 119, 120, 122, 123, 124, 126, 127, 129, 130, 131, 133, 134, 136, 137, 138, 140, 141, 143, 144, 145, 148, 149, 150, 153, 154, 155, 158, 159, 160, 163, 164, 165, 168, 169, 170, 173, 174] = (hd.heap_1 P).map (·.1) := fun _ => by kernel_rfl
noncomputable abbrev HK : Hook := kmHook hd.heap_1 [2, 3, 32, 34, 35, 37, 38, 46, 48, 49, 51, 52, 53, 54, 55, 56, 57, 63, 64, 65, 67, 68, 70, 71, 73, 77, 79, 80, 82, 83, 84, 86, 87, 89, 90, 91, 93, 94, 96, 97, 98, 100, 101, 103, 104, 105, 107, 108, 110, 111, 112, 115, 116, 117, 119, 120, 122, 123, 124, 126, 127, 129, 130, 131, 133, 134, 136, 137, 138, 140, 141, 143, 144, 145, 148, 149, 150, 153, 154, 155, 158, 159, 160, 163, 164, 165, 168, 169, 170, 173, 174] hke [85, 33]
noncomputable abbrev loose : List Str := [Str.ofString "_SelectorContext", Str.ofString "_twin_re_1", Str.ofString "_special_chars_map"]
noncomputable abbrev Xt (s : Shared) : Bool := xlAt view [] s && recOk (RowW.records row.toRowW) s
/-- what the head's run says, in one world -/
noncomputable abbrev LeftAt (w : World) : Prop := (openEnds treeTable row.prog w 4470).map (fun s => (openSeen view loose (importedModules row.prog.main.body) Xt true s, HK.obs s)) = some (openGood view loose, HK.val w)
noncomputable abbrev W2 (a b : Bool) (w : World) : World := (w.withFollow "special-get-raises" a).withFollow "comprehension-iter-twice" b
/-- the same by the library's quick twins: the kernel reads those faster -/
theorem left_tw (w : World) : LeftAt w = ((((PySem.W.Fast.tw10274390034422433532 PySem.W.Fast.tw14364793385576792824 (opening row.prog) w 4470 (start (opening row.prog)).1 (start (opening row.prog)).2).bind (PySem.W.Fast.tw14289696077712309145 row.prog)).bind fun s₀ =>
    match s₀.heap.isNs mainGlobals && s₀.gens.size == 0 with
    | true => (PySem.W.Fast.tw14082659384304107361 PySem.W.Fast.tw14364793385576792824 row.prog w s₀.heap.objs.size (s₀.heap.nsMap mainGlobals (Str.ofString "__annotations__")) 4470 s₀ (topStub row.prog)).bind fun s₁ =>
      match staticsOk (PySem.W.Fast.tw5923862056798008813 row.prog.main.body) s₀.heap s₁.heap && namesBound row.prog s₁.heap && gensDone s₁ && laidKept s₀.heap s₁.heap with
      | true => some s₁
      | false => none
    | false => none).map (fun s => (PySem.W.Fast.tw4187177175401517315 view loose (PySem.W.Fast.tw5923862056798008813 row.prog.main.body) Xt true s, HK.obs s)) = some (openGood view loose, HK.val w)) := by
  rw [← PySem.W.Fast.te14364793385576792824, ← PySem.W.Fast.te4187177175401517315, ← PySem.W.Fast.te10274390034422433532, ← PySem.W.Fast.te14289696077712309145, ← PySem.W.Fast.te14082659384304107361, ← PySem.W.Fast.te5923862056798008813]
  rfl
theorem hl0 (w : World) : LeftAt (W2 false false w) := by rw [left_tw]; kernel_rfl
theorem hl1 (w : World) : LeftAt (W2 true false w) := by rw [left_tw]; kernel_rfl
theorem hl2 (w : World) : LeftAt (W2 false true w) := by rw [left_tw]; kernel_rfl
theorem hl3 (w : World) : LeftAt (W2 true true w) := by rw [left_tw]; kernel_rfl
theorem hl : LeftO row.prog view loose Xt HK.obs HK.val 4470 := byRow2 (P := LeftAt) "comprehension-iter-twice" (byRow2 (P := fun w => LeftAt (w.withFollow "comprehension-iter-twice" false)) "special-get-raises" hl0 hl1) (byRow2 (P := fun w => LeftAt (w.withFollow "comprehension-iter-twice" true)) "special-get-raises" hl2 hl3)
end
local macro_rules | `(tactic| walk_at "op2a") => `(tactic| first
  | exact add_ii | exact sub_ii | exact iadd_ii | exact mod_ii (by decide) | exact div_ii (by decide) (PyProof.noPylong_small (by decide))
  | exact eq_ii | exact ne_ii | exact lt_ii | exact ge_ii | exact eq_bb
  | exact eq_ss | exact ne_ss | exact in_s1 | exact in_ss | exact lt_ss | exact gt_ss | exact neg_i)
local macro_rules | `(tactic| walk_at "op2") => `(tactic| first | walk_at "op2a" | (refine' Op2.of ?o1 ?o2; (case o1 => walk_at "op2a"); (case o2 => with_unfolding_all rfl)))
local macro_rules | `(tactic| walk_at "nm") => `(tactic| with_reducible first
  | (refine' Ev.loc ?n1 ?n2; (case n1 => with_unfolding_all rfl); (case n2 => with_unfolding_all rfl))
  | (refine' Ev.cel ?n1 ?n2; (case n1 => with_unfolding_all rfl); (case n2 => with_unfolding_all rfl))
  | (refine' Ev.fre ?n1 ?n2; (case n1 => with_unfolding_all rfl); (case n2 => with_unfolding_all rfl)))
local macro_rules | `(tactic| walk_at "sub") => `(tactic| repeat' (first | exact trivial | (refine' And.intro ?s1 ?_; (case s1 => with_unfolding_all rfl))))
local macro_rules | `(tactic| walk_at "ev1") => `(tactic| with_reducible first
  | exact Ev.cint | exact Ev.cstr | exact Ev.cnone | exact Ev.cbool
  | walk_at "nm"
  | refine' Ev.bin ?_ ?_ ?_ | refine' Ev.cmp ?_ ?_ ?_
  | refine' Ev.una ?_ ?_
  | refine' EvL.cons ?_ ?_ | exact EvL.nil
  | exact EvP.no | refine' EvP.yes ?_
  | walk_at "op2"
  | refine' Tv.cmp ?_ ?_ ?_)
local macro_rules | `(tactic| walk_at "ev") => `(tactic| repeat' (walk_at "ev1"))
local macro_rules | `(tactic| walk_at "cv1") => `(tactic| (with_unfolding_all exact fun h => nomatch h))
local macro_rules | `(tactic| walk_at "cv") => `(tactic| repeat' (first | exact trivial | (refine' And.intro ?s1 (And.intro ?s2 (And.intro ?s3 (And.intro ?s4 ?_))); (case s1 => with_unfolding_all rfl); (case s2 => with_unfolding_all rfl); (case s3 => walk_at "cv1"); (case s4 => with_unfolding_all rfl))))
section
variable {X : Wd} {k : Nat} {f : FS}
noncomputable def plainV : PV → Bool
  | .none | .bool _ | .int _ | .str _ => true
  | _ => false
theorem plainV_handed {h : Heap} {mu : Addr → Prop} {p : PV} {v : Value} (hp : plainV p = true) (hr : Rd h mu p v) : handedIn v = true := by
  cases p with
  | none => rw [show v = .none from hr]; rfl
  | bool b => rw [show v = .bool b from hr]; rfl
  | int i => obtain ⟨t, rfl⟩ := hr; rfl
  | str s => obtain ⟨t, rfl⟩ := hr; rfl
  | _ => cases hp
theorem gattr55 (P : Params) : findIn (KF P) (.ref 55) "__getattribute__" = some (some (.builtin "object.__getattribute__")) := by kernel_rfl
theorem sattr55 (P : Params) : findIn (KF P) (.ref 55) "__setattr__" = some (some (.builtin "object.__setattr__")) := by kernel_rfl
theorem none55t (P : Params) : findIn (KF P) (.ref 55) "tag" = some none := by kernel_rfl
theorem none55r (P : Params) : findIn (KF P) (.ref 55) "root" = some none := by kernel_rfl
theorem cls55 (P : Params) : (clsIn (KF P) 55).any (·.hasDict) = true := by kernel_rfl
theorem find55 {P : Params} {name : Str} {od : Obj} {v : Value} (h0 : findIn (KF P) (.ref 55) name = some none) (hl : lookIn name od = some (some v)) : findObj (KF P) 55 (some od) name = some (.value v) := by
  obtain ⟨cd, hc, hd⟩ := any_some (cls55 P)
  unfold findObj
  rw [hc, h0]
  simp only [Option.bind_some]
  unfold W.ownOf
  rw [if_pos hd]
  dsimp only
  rw [hl]
  rfl
theorem inst_at {h : Heap} {a d : Addr} {od : Obj} (ha : h.get? a = some ⟨.ref 55, some d, .plain, #[]⟩) (hd : h.get? d = some od) : InstAt h a ⟨.ref 55, some d, .plain, #[]⟩ 55 (some od) := ⟨ha, rfl, rfl, hd⟩
theorem ev_attr (C : Cx X) {o : Expr} {r t q : PV} {attr : Str} {pos : Pos} (h0 : ∀ P, findIn (KF P) (.ref 55) attr = some none)
    (hq : plainV q = true) (hsel : ∀ {h : Heap} {mu : Addr → Prop} {h1 t1 rv h2 t2 tv n}, Rd h mu r rv → Rd h mu t tv → ∃ v, lookIn attr { cls := .type "dict", data := .dict #[⟨h1, .str "root" t1, rv⟩, ⟨h2, .str "tag" t2, tv⟩] n } = some (some v) ∧ Rd h mu q v)
    (ho : Ev X k f o (.inst r t))
    (he : eval (.Attribute o attr pos) f.env = (do
      let x ← eval o f.env
      standAt pos.atName
      let r ← holding [x] (getAttr x attr true)
      letTemporaryGo o x r
      pure r) := by with_unfolding_all rfl) : Ev X k f (.Attribute o attr pos) q := by
  intro A s Q R F hQ
  refine Attribute_any_ (ho A s _ R F fun v s₁ G₁ F₁ h₁ => ?_) he
  obtain ⟨a, d, rv, tv, h1, t1, h2, t2, n, rfl, ha, hd, ga, gd, hr, ht⟩ := h₁
  obtain ⟨v, hv, hv'⟩ := hsel (h1 := h1) (t1 := t1) (h2 := h2) (t2 := t2) (n := n) hr ht
  refine get_value (C.K.keeps F₁.live.old) (inst_at ga gd) (gattr55 _) (find55 (h0 _) hv) (plainV_handed hq hv') ?_
  have G₂ : Grow X s₁ { s₁ with toks := s₁.toks + 1 } := .all F₁.live (fun _ _ e => e) (Nat.le_refl _) rfl rfl
  exact hQ _ _ (G₁.trans G₂) (F₁.grown F₁.live G₂) hv'
theorem Ev.attrT (C : Cx X) {o : Expr} {r t : PV} {pos : Pos} (hq : plainV t = true) (ho : Ev X k f o (.inst r t))
    (he : eval (.Attribute o "tag" pos) f.env = (do
      let x ← eval o f.env
      standAt pos.atName
      let r ← holding [x] (getAttr x "tag" true)
      letTemporaryGo o x r
      pure r) := by with_unfolding_all rfl) : Ev X k f (.Attribute o "tag" pos) t :=
  ev_attr C none55t hq (fun {h mu h1 t1 rv h2 t2 tv n} _ ht => ⟨tv, by rfl, ht⟩) ho he
theorem Ev.attrR (C : Cx X) {o : Expr} {r t : PV} {pos : Pos} (hq : plainV r = true) (ho : Ev X k f o (.inst r t))
    (he : eval (.Attribute o "root" pos) f.env = (do
      let x ← eval o f.env
      standAt pos.atName
      let r ← holding [x] (getAttr x "root" true)
      letTemporaryGo o x r
      pure r) := by with_unfolding_all rfl) : Ev X k f (.Attribute o "root" pos) r :=
  ev_attr C none55r hq (fun {h mu h1 t1 rv h2 t2 tv n} hr _ => ⟨rv, by rfl, hr⟩) ho he
end
section
variable {X : Wd} {k : Nat} {f : FS}
theorem Room.under {A : Around} {i : String} {a : Args} (hf : (Code.builtin i a).weight = 1) (hu : (Code.builtin i a).cUnits = 1) (he : (Code.builtin i a).envs = []) (R : Room X A (k + 1)) : Room X (A.under (.builtin i a)) k := by
  refine ⟨R.1, ?_, ?_, ?_⟩
  · show A.depth + (Code.builtin i a).weight + k < _
    rw [hf]; exact Nat.lt_of_le_of_lt (by omega) R.2.1
  · show A.units + (Code.builtin i a).cUnits + 16 * k < _
    rw [hu]; exact Nat.lt_of_le_of_lt (by omega) R.2.2.1
  · show pushEnvs (Code.builtin i a).envs A.frames = _
    rw [he]; exact R.frames
theorem over55 (P : Params) : plainOver (KF P) 55 = true := by kernel_rfl
theorem take55 (P : Params) (name : Str) (h : findIn (KF P) (.ref 55) name = some none) : takerIn (KF P) 55 name = some none := by unfold takerIn; rw [h]; rfl
noncomputable abbrev dictObj (es : List DictEntry) (n : Nat) : Obj := { cls := .type "dict", data := .dict es.toArray n }
/-- storing an attribute in an instance's own dict -/
theorem set_own_dict (C : Cx X) {A : Around} {s : Shared} {E : Value → Shared → Prop} {a d : Addr} {name : Str} {v : Value} {es : List DictEntry} {n : Nat} {Q : Unit → Shared → Prop} (hl : Live X s.heap) (h0 : ∀ P, findIn (KF P) (.ref 55) name = some none)
    (ha : s.heap.get? a = some ⟨.ref 55, some d, .plain, #[]⟩) (hd : s.heap.get? d = some (dictObj es n)) (hlook : (lookIn name (dictObj es n)).isSome = true)
    (h : ∀ h' tk tk' od', Obj.putName name (PyData.keyHash X.w.params name) (.str name tk') v (dictObj es n) = od' → Heap.SameBut d s.heap h' → h'.get? d = some od' → Q () { s with heap := h', toks := tk })
    (hz' : ∀ tk', ∃ es₂ n₂, Obj.putName name (PyData.keyHash X.w.params name) (.str name tk') v (dictObj es n) = dictObj es₂ n₂ ∧ es₂.length ≤ 1000) :
    wpAny (Mo X) A (setAttr (.ref a) name v) Q E s := by
  obtain ⟨hh, gg, dd, t, os⟩ := s
  have X' := C.K.keeps hl.old
  have I := inst_at ha hd
  refine set_plain X' I (sattr55 _) ?_
  refine osa_open X' I (over55 _) (take55 _ _ (h0 _)) fun b => ?_
  obtain ⟨cd, hc, hd'⟩ := any_some (cls55 X.w.params)
  refine wpAny_bind (wpAny_pure (wpAny_bind (wpAny_bind (wpAny_loadPart ha (wpAny_bind ((looks_clsIn X' hc).at ?_))))))
  rw [hd']
  refine wpAny_pure (a := some d) (wpAny_bind (wpAny_pure (wpAny_bind ?_)))
  unfold nsSet
  refine wpAny_bind (wpAny_bind (wpAny_askSetting (wpAny_pure (wpAny_bind (wpAny_mkText (wpAny_bind (wpAny_loadPart hd ?_)))))))
  dsimp only
  have c : (!es.toArray.any (·.key.isStr name) && es.toArray.any (·.refKey)) = false := by
    unfold lookIn at hlook
    dsimp only at hlook
    rw [← Array.any_toList, ← Array.any_toList]
    split at hlook
    · rename_i en he
      rw [List.any_eq_true.mpr ⟨en, List.mem_of_find?_eq_some he, List.find?_some he⟩]; rfl
    · split at hlook
      · cases hlook
      · rename_i z; rw [Bool.not_eq_true] at z; rw [z, Bool.and_false]
  rw [aRefKeyMayBeTheName_at, c]
  obtain ⟨es₂, n₂, e1, e2⟩ := hz' (t + 1)
  refine wpAny_updatePart hd ?_
  have D' := Heap.get?_update_self (f := Obj.putName name (PyData.keyHash X.w.params name) (.str name (t + 1)) v) hd (by rw [e1]; rfl)
  rw [e1] at D'
  refine wpAny_bind (wpAny_lookBehind D' (pastItsLine_dict (by rw [List.size_toArray, sizeLine_eq]; omega)) ?_)
  exact wpAny_pure (h _ _ _ _ e1 (Heap.SameBut.update ..) D')
noncomputable abbrev rootE (w : World) (tk : Tok) (v : Value) : DictEntry := ⟨PyData.keyHash w.params "root", .str "root" tk, v⟩
noncomputable abbrev tagE (w : World) (tk : Tok) (v : Value) : DictEntry := ⟨PyData.keyHash w.params "tag", .str "tag" tk, v⟩
theorem put_root {w : World} {tk : Tok} {v : Value} : Obj.putName "root" (PyData.keyHash w.params "root") (.str "root" tk) v (dictObj [] 0) = dictObj [rootE w tk v] 1 := by rfl
theorem put_tag {w : World} {tk tk' : Tok} {u v : Value} : Obj.putName "tag" (PyData.keyHash w.params "tag") (.str "tag" tk') v (dictObj [rootE w tk u] 1) = dictObj [rootE w tk u, tagE w tk' v] 2 := by rfl
theorem makes55 (P : Params) : makesIn (KF P) 55 = true := by kernel_rfl
theorem init55 (P : Params) : findIn (KF P) (.ref 55) "__init__" = some (some (.ref 52)) := by kernel_rfl
theorem type52 (P : Params) : typeIn (KF P) (.ref 52) = some (.type "function") := by kernel_rfl
theorem def52 : ∃ oc od osl name params scope dV kV doc pm an cdv ct body qual, (∀ P, (KF P).lookup 52 = some ⟨oc, od, .func (fnOf name qual params body scope dV kV doc pm an cdv ct), osl⟩) ∧ (∀ P, codeIn (KF P) cdv qual = true) ∧
    (∀ vs : List Value, vs.length = 2 → bindArgs (fnOf name qual params body scope dV kV doc pm an cdv ct) ⟨vs, []⟩ = pure ((["self", "root"] : List Str).zip vs)) ∧
    scope.isCoroutine = false ∧ scope.isGenerator = false ∧ scope.kind = .function ∧ scope.names = [(("self" : Str), NameKind.local), (("root" : Str), NameKind.local)] ∧
    ∃ p1 p2 p3 p4, body = [.Assign [.Attribute (.Name "self" p1) "root" p2] (.Name "root" p3) p4] := by
  refine ⟨_, _, _, _, _, _, _, _, _, _, _, _, _, _, _, fun P => by with_unfolding_all rfl, fun P => by kernel_rfl, (len2 (ns := ["self", "root"]) rfl fun _ _ => rfl), rfl, rfl, rfl, by rfl, _, _, _, _, rfl⟩

theorem call_class (C : Cx X) {A : Around} {s : Shared} {E : Value → Shared → Prop} {v : Value} {Q : Value → Shared → Prop} (R : Room X A (k + 3)) (hl : Live X s.heap)
    (h : ∀ h' tk tk₀, (∀ b o, s.heap.get? b = some o → h'.get? b = some o) → s.heap.objs.size + 1 < h'.objs.size → h'.get? s.heap.objs.size = some (dictObj [rootE X.w tk₀ v] 1) → h'.get? (s.heap.objs.size + 1) = some ⟨.ref 55, some s.heap.objs.size, .plain, #[]⟩ → Q (.ref (s.heap.objs.size + 1)) { s with heap := h', toks := tk }) :
    wpAny (Mo X) A (call (.ref 55) [v]) Q E s := by
  obtain ⟨hh, gg, dd, t, os⟩ := s
  have X' := C.K.keeps hl.old
  obtain ⟨oc, od, osl, name, params, scope, dV, kV, doc, pm, an, cdv, ct, body, qual, e1, e2, e3, e4, e5, e6, e7, p1, p2, p3, p4, rfl⟩ := def52
  refine wpAny_call ?_
  refine make_core (makes_of X' (makes55 _)) (looks_findIn X' (init55 _)) (fun self => bind_fn X' self (type52 _)) (.inl rfl) ?_
  have k₂ : ∀ b o, hh.get? b = some o → ((hh.push emptyDict).push (instObj 55 hh.objs.size)).get? b = some o := fun b o e => Heap.get?_push_of_some _ (Heap.get?_push_of_some _ e)
  have old₂ : ∀ b o, X.H.get? b = some o → ((hh.push emptyDict).push (instObj 55 hh.objs.size)).get? b = some o := fun b o e => k₂ b o (hl.old b o e)
  have gd₂ : ((hh.push emptyDict).push (instObj 55 hh.objs.size)).get? hh.objs.size = some (dictObj [] 0) := Heap.get?_push_of_some _ (Heap.get?_push_size _ rfl)
  have ga₂ : ((hh.push emptyDict).push (instObj 55 hh.objs.size)).get? (hh.objs.size + 1) = some ⟨.ref 55, some hh.objs.size, .plain, #[]⟩ := Heap.get?_push_at (by rw [Heap.size_push]) rfl
  have l₂ : Live X ((hh.push emptyDict).push (instObj 55 hh.objs.size)) := hl.kept k₂ (by rw [Heap.size_push, Heap.size_push]; exact Nat.le_trans (Nat.le_succ _) (Nat.le_succ _))
  have hlk := old₂ _ _ (C.K _ _ (e1 X.w.params))
  have hnl := C.nolimit.keeps old₂
  have hcr := (codeRec_of C.K (e2 X.w.params)).keeps old₂
  have R1 : Room X (A.under (.builtin "type.__call__" ⟨[.ref 55, v], []⟩)) (k + 2) := R.under (by kernel_rfl) (by kernel_rfl) (by kernel_rfl)
  refine codeAny_call_cells R1.depth hlk rfl hnl hcr rfl (e3 [.ref (hh.objs.size + 1), v] rfl) rfl (fun x hx => ?_) (fun s₁ Y => ?_) e4 e5 e6
  · refine .inl ?_
    show scope.names.lookup x.1 = _
    rw [e7]
    rcases List.mem_cons.mp hx with rfl | hx
    · rfl
    · rcases List.mem_cons.mp hx with rfl | hx
      · rfl
      · cases hx
  · have kd : ∀ y, (callEnvC (fnOf name qual params [.Assign [.Attribute (.Name "self" p1) "root" p2] (.Name "root" p3) p4] scope dV kV doc pm an cdv ct) ((hh.push emptyDict).push (instObj 55 hh.objs.size)).objs.size 52).kindOf y = scope.names.lookup y := fun y => rfl
    have k1 := kd "self"
    have k2 := kd "root"
    rw [e7] at k1 k2
    obtain ⟨h₁, tk₁, rfl, hkeep⟩ := Y.done
    have hn := Y.toInCall.ns
    have l₃ : Live X h₁ := l₂.kept hkeep (Nat.le_of_lt hn.lt)
    have nd : ((((["self", "root"] : List Str).zip [.ref (hh.objs.size + 1), v]).map (·.1)) : List Str).Nodup := by
      show (["self", "root"] : List Str).Nodup
      decide +kernel
    refine wpAny_execs_cons (plainObj_wpAny_Assign_Attribute (wpAny_Name (wpAny_loadName_local e6 k2 hn (v := v) (by rw [lookup_bindL _ k2 _ _ nd]; rfl) ?_) (by decide)))
    refine wpAny_Name (wpAny_loadName_local e6 k1 hn (v := .ref (hh.objs.size + 1)) (by rw [lookup_bindL _ k1 _ _ nd]; rfl) ?_) (by decide)
    refine set_own_dict C l₃ none55r (hkeep _ _ ga₂) (hkeep _ _ gd₂) (by rfl) (fun h' tk tk' od' e hs e' => ?_) (fun tk' => ⟨_, _, put_root, by show 1 ≤ 1000; decide⟩)
    rw [put_root] at e
    subst e
    refine wpAny_execs_nil ⟨rfl, h h' tk tk' (fun b o q => (hs.2 b (Nat.ne_of_lt (Heap.lt_size q))).trans (hkeep _ _ (k₂ _ _ q))) ?_ e' ?_⟩
    · have := Heap.lt_size (hkeep _ _ ga₂)
      rw [hs.1]; exact this
    · exact (hs.2 _ (Nat.succ_ne_self _)).trans (hkeep _ _ ga₂)
end
section
variable {X : Wd} {k : Nat} {f : FS}
/-- a name is told anew -/
theorem FS.Ok.retell {s : Shared} {x : Str} {u : Value} {p : PV} {V : List (Str × PV)} (F : (f.upd ((x, .raw u) :: V) f.led).Ok X s) (hl : f.env.kindOf x = some .local) (hp : Rd s.heap f.mu' p u) : (f.upd ((x, p) :: V) f.led).Ok X s :=
  { grow := F.grow, muLt := F.muLt, mu33 := F.mu33, mu85 := F.mu85, mfr := F.mfr, apart := F.apart, fresh := F.fresh, locs := F.locs, kind := F.kind, glob := F.glob, blt := F.blt, hlow := F.hlow
    ns := by
      obtain ⟨m, hn, hv⟩ := F.ns
      refine ⟨m, hn, fun y q hy hk => ?_⟩
      have hy' : ((x, p) :: V).lookup y = some q := hy
      rw [List.lookup_cons] at hy'
      by_cases e : y = x
      · subst e
        rw [beq_self_eq_true] at hy'
        cases hy'
        obtain ⟨w, h1, h2⟩ := hv y (.raw u) (by show ((y, PV.raw u) :: V).lookup y = _; rw [List.lookup_cons, beq_self_eq_true]) hk
        rw [show w = u from h2] at h1
        exact ⟨u, h1, hp⟩
      · rw [beq_eq_false_iff_ne.mpr e] at hy'
        exact hv y q (by show ((x, PV.raw u) :: V).lookup y = _; rw [List.lookup_cons, beq_eq_false_iff_ne.mpr e]; exact hy') hk
    cell := fun y q hy hk => by
      have hy' : ((x, p) :: V).lookup y = some q := hy
      rw [List.lookup_cons] at hy'
      have e : y ≠ x := fun e => hk (e ▸ hl)
      rw [beq_eq_false_iff_ne.mpr e] at hy'
      exact F.cell y q (by show ((x, PV.raw u) :: V).lookup y = _; rw [List.lookup_cons, beq_eq_false_iff_ne.mpr e]; exact hy') hk
    led := F.led, solid := F.solid, cellv := F.cellv }
theorem Rd.plain {h h' : Heap} {mu mu' : Addr → Prop} {p : PV} {v : Value} (hp : plainV p = true) (x : Rd h mu p v) : Rd h' mu' p v := by
  cases p with
  | none => exact x
  | bool b => exact x
  | int i => exact x
  | str s => exact x
  | _ => cases hp
theorem WS.thing (C : Cx X) {x : Str} {px p1 p2 p3 p4 p5 p6 : Pos} {e1 e2 : Expr} {i : Int} {t : PV} {rest : List Stmt} {Ψ} (hx : f.env.kindOf x = some .local) (hg : f.env.kindOf "_SelectorContext" = some .globalImplicit) (hp : plainV t = true)
    (he1 : Ev X (k + 3) f e1 (.int i)) (he2 : ∀ u own, Ev X (k + 3) ⟨f.hs, f.mu, f.env, (x, .raw u) :: f.vars, own, f.led⟩ e2 t)
    (h : WS X (k + 3) (f.upd ((x, .inst (.int i) t) :: f.vars) f.led) rest Ψ) (hd : (x == ("__debug__" : Str)) = false := by decide)
    (hs1 : ∀ r, starEach (e1 :: r) f.env = (false, eval e1 f.env) :: starEach r f.env := by intro _; rfl)
    (heq : eval (.Call (.Name "_SelectorContext" p1) [e1] [] p2) f.env = (do callWith p2 (← eval (.Name "_SelectorContext" p1) f.env) [] (backTo p2 (starEach [e1] f.env)) (backToKw p2 (keywordEach [] f.env))) := by rfl)
    (hsw : swapsWith (.Call (.Name "_SelectorContext" p1) [e1] [] p2) (some (.Name x px)) p3.line f.env = pure false := by rfl) (hsw2 : swapsWith e2 (some (.Attribute (.Name x p4) "tag" p5)) p6.line f.env = pure false := by rfl) :
    WS X (k + 3) f (.Assign [.Name x px] (.Call (.Name "_SelectorContext" p1) [e1] [] p2) p3 :: .Assign [.Attribute (.Name x p4) "tag" p5] e2 p6 :: rest) Ψ := by
  intro A s Q R F hQ
  have hf : Ev X (k + 3) f (.Name "_SelectorContext" p1) (.raw (.ref 55)) := Ev.glo C (fun P => by with_unfolding_all rfl) hg
  refine wpAny_execs_cons (wpAny_Assign_Name ?_ hsw)
  refine EvCall hf (Kept.fn C fun P => by kernel_rfl) (EvL.cons he1 EvL.nil (hs1 _)) R F (fun vs s₁ G₁ F₁ h₁ => ?_) ⟨hs1, trivial⟩ heq
  obtain ⟨v, r, rfl, ⟨tk, rfl⟩, hr⟩ := h₁
  cases hr
  refine call_class C R F₁.live fun h₂ tk₂ tk₀ hk₂ hz₂ gd₂ ga₂ => ?_
  have l₂ : Live X h₂ := F₁.live.kept hk₂ (Nat.le_of_lt (Nat.lt_of_succ_lt hz₂))
  have G₂ : Grow X s₁ { s₁ with heap := h₂, toks := tk₂ } := .all l₂ hk₂ (Nat.le_of_lt (Nat.lt_of_succ_lt hz₂)) rfl rfl
  have hge : s.heap.objs.size ≤ s₁.heap.objs.size := G₁.size
  have mlt : ∀ b, f.mu' b → b < s₁.heap.objs.size := F₁.mu_lt
  have F₂ := F₁.reserve (wr := [s₁.heap.objs.size]) G₂ (fun b hb => by rw [List.mem_singleton.mp hb]; exact ⟨Nat.le_refl _, Heap.lt_size gd₂⟩) (by simp) (fun b hb => by rw [List.mem_singleton.mp hb]; exact ⟨_, gd₂⟩)
  refine FS.Ok.setLoc' (f := { f with own := s₁.heap.objs.size :: f.own }) (p := .raw (.ref (s₁.heap.objs.size + 1))) F₂ hx rfl fun s₃ F₃ hs₃ hg₃ ho₃ => ?_
  have hLlt : f.env.locals < s₁.heap.objs.size := mlt _ (.inr (.inl F.locs))
  have gd₃ : s₃.heap.get? s₁.heap.objs.size = some (dictObj [rootE X.w tk₀ (.int i tk)] 1) := (hs₃.2 _ (Ne.symm (Nat.ne_of_lt hLlt))).trans gd₂
  have ga₃ : s₃.heap.get? (s₁.heap.objs.size + 1) = some ⟨.ref 55, some s₁.heap.objs.size, .plain, #[]⟩ := (hs₃.2 _ (Ne.symm (Nat.ne_of_lt (Nat.lt_succ_of_lt hLlt)))).trans ga₂
  refine wpAny_execs_cons (plainObj_wpAny_Assign_Attribute ?_ hsw2)
  refine he2 _ _ A s₃ _ R F₃ fun v₂ s₄ G₄ F₄ hv₂ => ?_
  have hn : ∃ u, (∃ m, s₄.heap.Ns f.env.locals m ∧ m x = some u) ∧ u = .ref (s₁.heap.objs.size + 1) := by
    obtain ⟨m, hn, hm⟩ := F₄.ns
    obtain ⟨u, h1, h2⟩ := hm x (.raw (.ref (s₁.heap.objs.size + 1))) (by show List.lookup x ((x, _) :: _) = _; rw [List.lookup_cons, beq_self_eq_true]) hx
    exact ⟨u, ⟨m, hn, h1⟩, h2⟩
  obtain ⟨u, ⟨m, hnm, hmx⟩, rfl⟩ := hn
  refine wpAny_Name (wpAny_loadName_local F.kind hx hnm hmx ?_) hd
  have ntab : ∀ b, s₁.heap.objs.size ≤ b → ¬ isTab X b := fun b hb ht => Nat.lt_irrefl _ (Nat.lt_of_lt_of_le (mlt b (F₁.mtab b ht)) hb)
  have gd₄ := G₄.keep _ _ (ntab _ (Nat.le_refl _)) gd₃
  have ga₄ := G₄.keep _ _ (ntab _ (Nat.le_succ _)) ga₃
  refine set_own_dict C F₄.live none55t ga₄ gd₄ (by rfl) (fun h₅ tk₅ tk' od' e hs₅ gd₅ => ?_) (fun tk' => ⟨_, _, put_tag, by show 2 ≤ 1000; decide⟩)
  rw [put_tag] at e
  subst e
  have F₅ : (f.upd ((x, .raw (.ref (s₁.heap.objs.size + 1))) :: f.vars) f.led).Ok X { s₄ with heap := h₅, toks := tk₅ } := FS.Ok.drop (f := f.upd ((x, .raw (.ref (s₁.heap.objs.size + 1))) :: f.vars) f.led) F₄ hs₅ (fun o vs q tt e d => by
    rw [gd₄] at e; cases e; cases d) F.locs (fun v ⟨o, e, d⟩ => by rw [gd₄] at e; cases e; cases d) (fun q => ntab _ (Nat.le_refl _) (.inr (.inr q)))
  have nm : ∀ b, s₁.heap.objs.size ≤ b → ¬ f.mu' b := fun b hb hm => Nat.lt_irrefl _ (Nat.lt_of_lt_of_le (mlt b hm) hb)
  have F₆ := F₅.retell hx (p := .inst (.int i) t) ⟨s₁.heap.objs.size + 1, s₁.heap.objs.size, .int i tk, v₂, _, tk₀, _, tk', 2, rfl, nm _ (Nat.le_succ _), nm _ (Nat.le_refl _), (hs₅.2 _ (Nat.succ_ne_self _)).trans ga₄, gd₅, ⟨tk, rfl⟩, hv₂.plain hp⟩
  refine h A _ Q R F₆ fun fl vars led g s' hp' F' S' hg => hQ fl vars led g s' hp' F' (Step.trans (f := f) (s := s) (g := f.upd ((x, .inst (.int i) t) :: f.vars) f.led) ⟨fun b o h1 h2 h3 e => ?_, fun _ h => h, fun _ h => .inl h, fun _ h => .inl h, fun b hb => ?_⟩ S') hg
  · have hlt := Heap.lt_size e
    have e₂ : h₂.get? b = some o := hk₂ b o (G₁.keep b o (F.tabStep h1 h3 e) e)
    have hbd : b ≠ s₁.heap.objs.size := fun q => Nat.lt_irrefl _ (Nat.lt_of_lt_of_le (q ▸ hlt) hge)
    have e₃ : s₃.heap.get? b = some o := (hs₃.2 b fun q => by
      obtain ⟨m', ⟨o', es, ep, e', d', _⟩, _⟩ := F₁.ns
      subst q
      have := hk₂ _ _ e'
      rw [e₂] at this; cases this
      exact h3 F.locs (.inl ⟨_, _, d'⟩)).trans e₂
    exact (hs₅.2 b hbd).trans (G₄.keep b o (F.tabStep h1 h3 e) e₃)
  · have h1 : Solid s₄.heap b := G₄.solid b (by
      have := G₂.solid b (G₁.solid b hb)
      obtain ⟨mL, hL, _⟩ := F₃.ns
      exact solid_but hs₃ (.ns hL) b this)
    exact solid_but hs₅ ⟨_, gd₅⟩ b h1
end
section
variable {X : Wd} {k : Nat} {f : FS}
/-- no run lowers the number of the heap's places -/
theorem size_update (h : Heap) (a : Addr) (g : Obj → Obj) : (h.update a g).objs.size = h.objs.size := by
  show (h.objs.modify a g).size = _
  simp
theorem runs_size {M : Model} {Γ : Ctx} {p : Pos} {t : Sem Fin} {fs : List Frame} {s s' : Shared} {e : End} (h : Runs M Γ p t fs s e s') : s.heap.objs.size ≤ s'.heap.objs.size := by
  induction h <;> (try simp only [Shared.setGen, size_update, Heap.size_push] at *) <;> omega
theorem returns_size {M : Model} {Γ : Ctx} {p : Pos} {s s' : Shared} {r : Result} (h : Returns M Γ p s r s') : s.heap.objs.size ≤ s'.heap.objs.size := runs_size h
theorem wakes_size {M : Model} {Γ : Ctx} {p : Pos} {g : Nat} {r : Resume} {s s' : Shared} {res : GenResult} (h : Wakes M Γ p g r s res s') : s.heap.objs.size ≤ s'.heap.objs.size := by
  unfold Wakes at h
  split at h
  · exact h.elim
  · split at h
    · obtain ⟨_, s₁, hr, _, _, rfl⟩ := h; exact (runs_size hr : (s.setGen g .running).heap.objs.size ≤ s₁.heap.objs.size)
    · rw [h.2]; exact Nat.le_refl _
    · rw [h.2]; exact Nat.le_refl _
  · obtain ⟨_, s₁, hr, _, _, rfl⟩ := h; exact (runs_size hr : (s.setGen g .running).heap.objs.size ≤ s₁.heap.objs.size)
  · rw [h.2]; exact Nat.le_refl _
  · rw [h.2]; exact Nat.le_refl _
theorem wp_size {α : Type} (M : Model) (Γ : Ctx) (n : Nat) (t : Sem α) : ∀ (Q : α → Pos → Shared → Prop) (E : Value → Pos → Shared → Prop) (p : Pos) (s : Shared), n ≤ s.heap.objs.size → Sem.wp M Γ t Q E p s →
    Sem.wp M Γ t (fun a p' s' => n ≤ s'.heap.objs.size ∧ Q a p' s') (fun e p' s' => n ≤ s'.heap.objs.size ∧ E e p' s') p s := by
  induction t with
  | pure a | raise a => exact fun Q E p s hn h => ⟨hn, h⟩
  | unsupported _ | finish _ | register _ _ | yield _ _ _ _ | fork _ _ | await _ _ _ _ _ => exact fun Q E p s _ h => h
  | rule _ k ih | point _ k ih => exact fun Q E p s hn h => ih () Q E p s hn h
  | «at» p' k ih => exact fun Q E p s hn h => ih () Q E p' s hn h
  | load a _ k ih => exact fun Q E p s hn ⟨o, ho, h⟩ => ⟨o, ho, ih o Q E p s hn h⟩
  | update a _ g k ih => exact fun Q E p s hn h => ⟨h.1, ih () Q E p _ (Nat.le_trans hn (Nat.le_of_eq (size_update ..).symm)) h.2⟩
  | loadIfAlive a k ih | ask k ih | handled own k ih | stack k ih | thread k ih => exact fun Q E p s hn h => ih _ Q E p s hn h
  | alloc o k ih => exact fun Q E p s hn h => ih _ Q E p _ (Nat.le_trans hn (Nat.le_trans (Nat.le_succ _) (Nat.le_of_eq (Heap.size_push ..).symm))) h
  | fresh k ih => exact fun Q E p s hn h => ih _ Q E p _ hn h
  | choose src m k ih => exact fun Q E p s hn h => ⟨h.1, ih _ Q E p _ hn h.2⟩
  | os q _ k ih => exact fun Q E p s hn h => ih _ Q E p _ hn h
  | call c hd _ _ k ih => exact fun Q E p s hn ⟨r, s', hr, h⟩ => ⟨r, s', hr, ih r Q E p s' (Nat.le_trans hn (returns_size hr)) h⟩
  | genState g k ih => exact fun Q E p s hn ⟨st, hs, h⟩ => ⟨st, hs, ih _ Q E p s hn h⟩
  | newGen c k ih => exact fun Q E p s hn h => ih _ Q E p _ hn h
  | resume g r _ k ih => exact fun Q E p s hn ⟨res, s', hw, h⟩ => ⟨res, s', hw, ih res Q E p s' (Nat.le_trans hn (wakes_size hw)) h⟩
theorem with_size {α : Type} {M : Model} {A : Around} {s : Shared} {t : Sem α} {Q : α → Shared → Prop} {E : Value → Shared → Prop}
    (h : wpAny M A t (fun a s' => s.heap.objs.size ≤ s'.heap.objs.size → Q a s') (fun e s' => s.heap.objs.size ≤ s'.heap.objs.size → E e s') s) : wpAny M A t Q E s := by
  have q : wpAny M A t (fun a s' => s.heap.objs.size ≤ s'.heap.objs.size ∧ (s.heap.objs.size ≤ s'.heap.objs.size → Q a s')) (fun e s' => s.heap.objs.size ≤ s'.heap.objs.size ∧ (s.heap.objs.size ≤ s'.heap.objs.size → E e s')) s :=
    fun Γ p hΓ => wp_size M Γ _ t _ _ p s (Nat.le_refl _) (h Γ p hΓ)
  exact wpAny_mono q (fun _ _ x => x.2 x.1) (fun _ _ x => x.2 x.1)
/-- where all that stood still stands, the state has grown -/
theorem Grow.kept {s s' : Shared} (l : Live X s.heap) (hz : s.heap.objs.size ≤ s'.heap.objs.size) (hk : ∀ b o, s.heap.get? b = some o → s'.heap.get? b = some o) (ho : s'.os = s.os) (hg : s'.gens = s.gens) : Grow X s s' :=
  .all (l.kept hk hz) hk hz ho (congrArg liveAt hg)
end
section
variable {X : Wd} {k : Nat} {f : FS}
/-- what is being handled has no context of its own -/
noncomputable def Hdl (A : Around) (s : Shared) : Prop := A.handled = none ∨ ∃ h o vs, A.handled = some (.ref h) ∧ s.heap.get? h = some o ∧ o.data = .fields vs ∧ vs[2]? = some .none
structure NewX (A : Around) (h h' : Heap) (e : Addr) : Prop where
  keeps : ∀ b o, h.get? b = some o → h'.get? b = some o
  new : h.objs.size ≤ e
  size : h.objs.size ≤ h'.objs.size
  there : ∃ ob vs, h'.get? e = some ob ∧ ob.cls = .type "IndexError" ∧ ob.data = .fields vs ∧ vs[1]? = some .none ∧ (A.handled = none → vs[2]? = some .none)
theorem entry_unchain : entryFor table "proto.unchain" = some Builtin.«proto.unchain» := entryFor_of_fast (by kernel_rfl)
theorem raise_new {α : Type} {A : Around} {s : Shared} {Q : α → Shared → Prop} {E : Value → Shared → Prop} {e : Addr} {ob : Obj} {t u v : Value} (hA : Hdl A s) (he : s.heap.get? e = some ob) (hd : ob.data = .fields #[t, .none, .none, .none, u, v])
    (hne : ∀ h, A.handled = some (.ref h) → h ≠ e)
    (h : ∀ h' ob' vs, (∀ b, b ≠ e → h'.get? b = s.heap.get? b) → h'.objs.size = s.heap.objs.size → h'.get? e = some ob' → ob'.cls = ob.cls → ob'.data = .fields vs → vs[1]? = some .none → (A.handled = none → vs[2]? = some .none) → E (.ref e) { s with heap := h' }) :
    wpAny (Mo X) A (raiseNew (.ref e) : Sem α) Q E s := by
  unfold raiseNew
  refine wpAny_bind (wpAny_handled ?_)
  rcases hA with hA | ⟨a, o, vs, hA, ha, hda, h2⟩
  · rw [hA]
    refine wpAny_bind (wpAny_pure (wpAny_throw ?_))
    exact h s.heap ob _ (fun _ _ => rfl) rfl he rfl hd rfl fun _ => rfl
  · have hn := hne a hA
    rw [hA]
    dsimp only
    rw [if_pos (show (Value.ref a != Value.ref e) = true from by simp [hn])]
    refine wpAny_bind (wpAny_holding (wpAny_runValue (codeAny_builtin entry_unchain ?_)))
    show wpAny _ _ (field (.ref a) 2 >>= _) _ _ s
    refine wpAny_bind (wpAny_field ha hda h2 ?_)
    show wpAny _ _ (ret .none >>= _) _ _ s
    refine wpAny_bind (wpAny_pure (wpAny_pure ?_))
    show wpAny _ _ (updateField e 2 (.ref a) >>= fun _ => throw (.ref e)) _ _ s
    refine wpAny_bind ?_
    unfold updateField
    refine wpAny_bind (wpAny_load he ?_)
    rw [hd]
    dsimp only
    rw [if_pos (by simp)]
    have hd' := Obj.data_mapFields hd (·.setIfInBounds 2 (Value.ref a))
    refine wpAny_update he (wpAny_throw ?_)
    refine h _ _ _ (fun b hb => Heap.get?_update_other _ _ (Ne.symm hb)) (size_update ..) (Heap.get?_update_self _ he (Obj.isFreed_of_fields hd')) (Obj.cls_mapFields _ _) hd' rfl fun q => ?_
    rw [hA] at q; cases q
theorem raise_idx {α : Type} {A : Around} {s : Shared} {msg : String} {Q : α → Shared → Prop} {E : Value → Shared → Prop} (hA : Hdl A s)
    (h : ∀ h' tk e, NewX A s.heap h' e → E (.ref e) { s with heap := h', toks := tk }) : wpAny (Mo X) A (raiseErrorWords "IndexError" msg : Sem α) Q E s := by
  unfold raiseErrorWords
  refine wpAny_bind (wpAny_mkText (wpAny_bind ?_))
  unfold newExc newTuple
  refine wpAny_bind (wpAny_newObj_type ?_)
  refine wpAny_bind (m := firstArgMember _ _) (wpAny_of_eq (a := Value.none) (by simp only [firstArgMember, plainExc_IndexError.first]; rfl) ?_)
  rw [plainExc_IndexError.own]
  refine wpAny_newObj_type ?_
  generalize hH : s.heap.push { cls := .type "tuple", dict := none, data := .seq [Value.str (Str.ofString msg) s.toks].toArray } = H
  have k1 : ∀ b o, s.heap.get? b = some o → H.get? b = some o := fun b o e => by rw [← hH]; exact Heap.get?_push_of_some _ e
  have z1 : H.objs.size = s.heap.objs.size + 1 := by rw [← hH, Heap.size_push]
  refine raise_new ?_ (Heap.get?_push_size _ rfl) rfl (fun a q => ?_) fun h' ob' vs e1 e2 e3 e4 e5 e6 e7 => ?_
  · rcases hA with q | ⟨a, o, vs, q1, q2, q3, q4⟩
    · exact .inl q
    · exact .inr ⟨a, o, vs, q1, Heap.get?_push_of_some _ (k1 _ _ q2), q3, q4⟩
  · rcases hA with q' | ⟨a', o, vs, q1, q2, q3, q4⟩
    · rw [q'] at q; cases q
    · rw [q1] at q; cases q
      intro z
      have := Heap.lt_size q2
      rw [z, z1] at this
      exact Nat.lt_irrefl _ (Nat.lt_of_succ_lt this)
  · refine h h' _ _ ⟨fun b o e => ?_, by rw [z1]; exact Nat.le_succ _, ?_, ob', vs, e3, e4, e5, e6, e7⟩
    · rw [e1 b (fun z => ?_)]
      · exact Heap.get?_push_of_some _ (k1 _ _ e)
      · have := Heap.lt_size e
        rw [z, z1] at this
        exact Nat.lt_irrefl _ (Nat.lt_of_succ_lt this)
    · rw [e2]
      show _ ≤ (H.push _).objs.size
      rw [Heap.size_push, z1]; omega
/-- an item beyond the end -/
theorem getItem_out {A : Around} {s : Shared} {l : Addr} {items : Array Value} {k : Int} {t : Tok} {Q : Value → Shared → Prop} {E : Value → Shared → Prop} (hA : Hdl A s) (hl : s.heap.IsList l items)
    (h0 : 0 ≤ k) (hout : (items.size : Int) ≤ k) (hhi : k < 2 ^ 63)
    (hE : ∀ h' tk e, NewX A s.heap h' e → E (.ref e) { s with heap := h', toks := tk }) :
    wpAny (Mo X) A (getItem (.ref l) (.int k t)) Q E s := by
  obtain ⟨o, ho, hc, ne, hd⟩ := id hl
  have hA1 : Hdl A.in1 s := hA
  have hE1 : ∀ h' tk e, NewX A.in1 s.heap h' e → E (.ref e) { s with heap := h', toks := tk } := fun h' tk e n => hE h' tk e ⟨n.keeps, n.new, n.size, n.there⟩
  unfold getItem
  try with_reducible refine wpAny_holding ?_
  first | refine wpAny_bind (wpAny_pure ?_) | skip
  refine wpAny_bind (wpAny_sequenceKey hl.typeIs (by decide) ?_)
  refine wpAny_bind (wpAny_callSpecial?_slot (name := Str.ofString "__getitem__") hl.typeIs slot_list_getitem
    (wpAny_call_entry slot_list_getitem hl.typeIs entry_list_getitem ?_ (args_list_getitem _ _)))
  show wpAny _ _ (Builtin.List.listSubscript? (.int k t) >>= _) _ _ s
  refine wpAny_bind (wpAny_listSubscript_int (fitsIndex_both (by omega) hhi) ?_)
  clear hhi
  cases k with
  | ofNat j =>
    have hx : items[j]? = none := Array.getElem?_eq_none (by have : (items.size : Int) ≤ (j : Int) := hout; omega)
    show wpAny _ _ ((seqItemAt l j >>= fun r => pure (r.map (j, ·))) >>= _) _ _ s
    refine wpAny_bind (wpAny_bind (wpAny_seqItemAt ho hd (wpAny_pure ?_)))
    rw [hx]
    first
      | exact wpAny_bind (wpAny_rule (raise_idx hA1 hE1))
      | exact wpAny_bind (wpAny_rule (wpAny_bind (raise_idx hA1 hE1)))
      | exact wpAny_bind (wpAny_bind (wpAny_rule (raise_idx hA1 hE1)))
      | exact wpAny_rule (raise_idx hA1 hE1)
  | negSucc j => exact absurd h0 (by have := Int.negSucc_lt_zero j; omega)

theorem Live.but {h h' : Heap} (l : Live X h) (hk : ∀ b o, b ∉ X.frs → h.get? b = some o → h'.get? b = some o) (hf : ∀ b m, b ∈ X.frs → h.Ns b m → h'.Ns b m) (hz : h.objs.size ≤ h'.objs.size) : Live X h' where
  old := fun b o e => hk b o (fun q => by rw [(l.fr q).1] at e; cases e) (l.old b o e)
  t33 := by
    obtain ⟨ps, e, t, c⟩ := l.t33
    refine ⟨ps, hk 33 _ (fun q => ?_) e, t, fun pos cv q => ?_⟩
    · obtain ⟨_, m, hn⟩ := l.fr q
      exact tab_not_ns l hn (.inl rfl)
    · obtain ⟨cc, o, vs, tt, e1, e2, e3, e4⟩ := c pos cv q
      refine ⟨cc, o, vs, tt, e1, hk cc o (fun q => ?_) e2, e3, e4⟩
      obtain ⟨_, m, o', es, ep, e', d', _⟩ := l.fr q
      rw [e2] at e'; cases e'; rw [e3] at d'; cases d'
  t85 := by
    obtain ⟨ps, e, t, c⟩ := l.t85
    refine ⟨ps, hk 85 _ (fun q => ?_) e, t, c⟩
    obtain ⟨_, m, hn⟩ := l.fr q
    exact tab_not_ns l hn (.inr rfl)
  low := Nat.le_trans l.low hz
  frs := fun env he => by
    obtain ⟨q1, L, m, q2, q3, q4⟩ := l.frs env he
    exact ⟨q1, L, m, q2, q3, hf L m (List.mem_filterMap.mpr ⟨env, he, q2⟩) q4⟩
theorem Live.funs {h : Heap} (l : Live X h) : h.FunFrames X.H X.stk := by
  have go : ∀ st : List Env, (∀ env ∈ st, env.scope.kind ≠ .module ∧ ∃ L m, env.frame = some L ∧ X.H.get? L = none ∧ h.Ns L m) → h.FunFrames X.H st := fun st => by
    induction st with
    | nil => exact fun _ => trivial
    | cons env st ih =>
      intro hs
      obtain ⟨q1, L, m, q2, q3, o, es, ep, q4, q5, _⟩ := hs env (.head _)
      exact ⟨q1, ⟨L, o, q2, q3, q4, fun vs e => by rw [q5] at e; cases e⟩, ih fun e he => hs e (.tail _ he)⟩
  exact go _ l.frs
/-- an exception that has been noted -/
noncomputable def Fly (h : Heap) (e T L : Addr) (fl : Value) (c : Prop) : Prop :=
  ∃ oe vs oT ts, h.get? e = some oe ∧ oe.cls = .type "IndexError" ∧ oe.data = .fields vs ∧ vs[1]? = some (.ref T) ∧ (c → vs[2]? = some .none) ∧ T ≠ e ∧ h.get? T = some oT ∧ oT.data = .fields ts ∧ ts[1]? = some (.ref L) ∧ ts[3]? = some fl
theorem Fly.keeps {h h' : Heap} {e T L : Addr} {fl : Value} {c : Prop} (x : Fly h e T L fl c) (k1 : ∀ o, h.get? e = some o → (∃ vs, o.data = .fields vs) → h'.get? e = some o) (k2 : ∀ o, h.get? T = some o → (∃ vs, o.data = .fields vs) → h'.get? T = some o) : Fly h' e T L fl c := by
  obtain ⟨oe, vs, oT, ts, q1, q2, q3, q4, q5, q6, q7, q8, q9⟩ := x
  exact ⟨oe, vs, oT, ts, k1 _ q1 ⟨_, q3⟩, q2, q3, q4, q5, q6, k2 _ q7 ⟨_, q8⟩, q8, q9⟩
theorem note_new {A B : Around} {s₀ s : Shared} {e L : Addr} {outer : List Env} {Q : Unit → Shared → Prop} {E : Value → Shared → Prop} (hst : X.stk = f.env :: outer) (hL : f.env.frame = some L) (hfr : A.frames = some X.stk) (l₀ : Live X s₀.heap) (N : NewX B s₀.heap s.heap e)
    (hos : s.os = s₀.os) (hg : liveAt s.gens = liveAt s₀.gens)
    (h : ∀ h' T, Grow X s₀ { s with heap := h' } → Fly h' e T L (rawInt L) (B.handled = none) → s₀.heap.objs.size ≤ T → Q () { s with heap := h' }) : wpAny (Mo X) A (noteFrame (.ref e) f.env) Q E s := by
  obtain ⟨oe, vs, he, hcls, hd, h1, h2⟩ := N.there
  have l : Live X s.heap := l₀.kept N.keeps N.size
  have hsz : 1 < vs.size := (Array.getElem?_eq_some_iff.mp h1).1
  have hl := l.funs
  rw [hst] at hl
  unfold noteFrame
  simp only [hL]
  refine wpAny_bind (wpAny_field he hd h1 ?_)
  rw [if_neg (by decide)]
  refine wpAny_bind (wpAny_frameOf_fun (base := X.H) (outer := outer) (by rw [hfr, hst]) hl hL fun h₁ hs₁ => ?_)
  rw [← hst] at hs₁
  refine wpAny_bind (wpAny_entryPlaceOf fun pl hpl => ?_)
  unfold EntryCells.newEntry newFields
  refine wpAny_bind (wpAny_newObj_type ?_ (hpl.sizeOk5 _ _ _ _ _))
  have hef : e ∉ X.stk.filterMap (·.frame) := fun hm => by
    obtain ⟨_, m, o, es, ep, q1, q2, _⟩ := l.fr hm
    rw [he] at q1; cases q1; rw [hd] at q2; cases q2
  have he₁ : h₁.get? e = some oe := (hs₁.2.1 e hef).trans he
  generalize hT : ({ cls := .type "traceback", dict := none, data := .fields ([Value.none, .ref L, .none, rawInt L, .none] ++ (if pl.isEmpty then List.replicate 6 Value.none else pl)).toArray } : Obj) = oT
  have he₂ := Heap.get?_push_of_some (h := h₁) oT he₁
  refine wpAny_setField he₂ hd hsz (h _ h₁.objs.size ?_ ?_ ?_)
  · have hTe : h₁.objs.size ≠ e := Nat.ne_of_gt (Heap.lt_size he₁)
    have keep : ∀ b o, s₀.heap.get? b = some o → ∀ o', h₁.get? b = some o' → ((h₁.push oT).update e (Obj.mapFields (·.setIfInBounds 1 (Value.ref h₁.objs.size)))).get? b = some o' := fun b o q o' q' => by
      have hbe : b ≠ e := fun z => by rw [z, none_of_le N.new] at q; cases q
      rw [Heap.get?_update_other _ _ (Ne.symm hbe)]
      exact Heap.get?_push_of_some _ q'
    have kk : ∀ b o, b ∉ X.frs → s₀.heap.get? b = some o → ((h₁.push oT).update e (Obj.mapFields (·.setIfInBounds 1 (Value.ref h₁.objs.size)))).get? b = some o := fun b o hb q =>
      keep b o q o ((hs₁.2.1 b hb).trans (N.keeps b o q))
    have kn : ∀ b m, b ∈ X.frs → s₀.heap.Ns b m → Heap.Ns ((h₁.push oT).update e (Obj.mapFields (·.setIfInBounds 1 (Value.ref h₁.objs.size)))) b m := fun b m hb hn => by
      obtain ⟨o, es, ep, q1, q2, q3⟩ := hn
      obtain ⟨sl, q4⟩ := hs₁.2.2 b o (N.keeps b o q1)
      exact ⟨_, es, ep, keep b o q1 _ q4, q2, q3⟩
    have zz : s₀.heap.objs.size ≤ ((h₁.push oT).update e (Obj.mapFields (·.setIfInBounds 1 (Value.ref h₁.objs.size)))).objs.size := by
      rw [size_update, Heap.size_push, hs₁.1]; exact Nat.le_succ_of_le N.size
    exact ⟨l₀.but kk kn zz, fun b o ht q => kk b o (fun z => ht (.inr (.inr z))) q, zz, hos, kn, hg⟩
  · have hTe : h₁.objs.size ≠ e := Nat.ne_of_gt (Heap.lt_size he₁)
    have hd₃ := Obj.data_mapFields hd (·.setIfInBounds 1 (Value.ref h₁.objs.size))
    have he₃ := Heap.get?_update_self (Obj.mapFields (·.setIfInBounds 1 (Value.ref h₁.objs.size))) he₂ (Obj.isFreed_of_fields hd₃)
    have hT₃ := (Heap.get?_update_other (h₁.push oT) (Obj.mapFields (·.setIfInBounds 1 (Value.ref h₁.objs.size))) (Ne.symm hTe)).trans (Heap.get?_push_size h₁ (o := oT) (by rw [← hT]; rfl))
    exact ⟨_, _, oT, ([Value.none, .ref L, .none, rawInt L, .none] ++ (if pl.isEmpty then List.replicate 6 Value.none else pl)).toArray, he₃, (Obj.cls_mapFields _ _).trans hcls, hd₃, by simp [hsz], fun c => by rw [Array.getElem?_setIfInBounds_ne (by decide)]; exact h2 c, hTe, hT₃, by rw [← hT], by first | (simp; done) | rfl, by first | (simp; done) | (rcases hpl with rfl | ⟨_, _, _, _, _, _, _, rfl⟩ <;> simp)⟩
  · have := N.size
    rw [← hs₁.1] at this
    exact this
end
section
variable {X : Wd} {k : Nat} {f : FS}
theorem Grow.poke {s₀ s : Shared} {h' : Heap} {T : Addr} (G : Grow X s₀ s) (l₀ : Live X s₀.heap) (hs : Heap.SameBut T s.heap h') (hT : s₀.heap.get? T = none) (nc : NotCode s.heap T) : Grow X s₀ { s with heap := h' } := by
  have no : ∀ b m, s₀.heap.Ns b m → b ≠ T := fun b m ⟨o, _, _, e, _⟩ z => by rw [z, hT] at e; cases e
  refine ⟨G.live.upd ?_ (fun q => ?_) nc hs (fun q => ?_), fun b o ht e => (hs.2 b fun z => by rw [z, hT] at e; cases e).trans (G.keep b o ht e), by show _ ≤ h'.objs.size; rw [hs.1]; exact G.size, G.os, fun b m hb hn => (G.frm b m hb hn).sameBut hs (no b m hn), G.gens⟩
  · cases q : X.H.get? T with
    | none => rfl
    | some o => have := l₀.old T o q; rw [hT] at this; cases this
  · rcases q with rfl | rfl
    · obtain ⟨o, e⟩ := (solid_ns_tab l₀).1; rw [hT] at e; cases e
    · obtain ⟨o, e⟩ := (solid_ns_tab l₀).2; rw [hT] at e; cases e
  · obtain ⟨_, m, hn⟩ := l₀.fr q
    exact absurd rfl (no T m hn)
theorem set_flight {A : Around} {s : Shared} {e T L : Addr} {fl : Value} {c : Prop} {fr : Option Addr} {Q : Unit → Shared → Prop} {E : Value → Shared → Prop} (x : Fly s.heap e T L fl c)
    (h : ∀ h', Heap.SameBut T s.heap h' → NotCode s.heap T → Fly h' e T L (fr.elim .none fun a => rawInt a) c → Q () { s with heap := h' }) : wpAny (Mo X) A (setFlight (.ref e) fr) Q E s := by
  obtain ⟨oe, vs, oT, ts, q1, q2, q3, q4, q5, q6, q7, q8, q9, q10⟩ := x
  have hsz3 : 3 < ts.size := (Array.getElem?_eq_some_iff.mp q10).1
  unfold setFlight
  refine wpAny_bind (wpAny_field q1 q3 q4 ?_)
  rw [if_pos (show (Value.ref T != Value.none) = true from by simp)]
  have hd' := Obj.data_mapFields q8 (·.setIfInBounds 3 (fr.elim Value.none fun a => rawInt a))
  refine wpAny_setField q7 q8 hsz3 (h _ ⟨size_update .., fun b hb => Heap.get?_update_other _ _ (Ne.symm hb)⟩ (fun o vs q t e1 e2 z => ?_) ?_)
  · rw [q7] at e1; cases e1; rw [q8] at e2; cases e2; rw [q9] at z; cases z
  · exact ⟨oe, vs, _, _, (Heap.get?_update_other _ _ q6).trans q1, q2, q3, q4, q5, q6, Heap.get?_update_self _ q7 (Obj.isFreed_of_fields hd'), hd', by rw [Array.getElem?_setIfInBounds_ne (by decide)]; exact q9, by simp [hsz3]⟩
/-- where an exception is on its way out -/
inductive Up (X : Wd) (L : Addr) (c : Prop) (s₀ : Shared) (e : Addr) (s : Shared) : Prop
  | new (B : Around) (N : NewX B s₀.heap s.heap e) (ho : s.os = s₀.os) (hg : liveAt s.gens = liveAt s₀.gens) (hc : c → B.handled = none)
  | fly (T : Addr) (G : Grow X s₀ s) (x : Fly s.heap e T L (rawInt L) c) (he : s₀.heap.objs.size ≤ e) (hT : s₀.heap.objs.size ≤ T)
theorem Fly.weak {h : Heap} {e T L : Addr} {fl : Value} {c d : Prop} (x : Fly h e T L fl c) (hd : d → c) : Fly h e T L fl d := by
  obtain ⟨oe, vs, oT, ts, q1, q2, q3, q4, q5, q6⟩ := x
  exact ⟨oe, vs, oT, ts, q1, q2, q3, q4, fun z => q5 (hd z), q6⟩
theorem note_again {A : Around} {s : Shared} {e T L : Addr} {c : Prop} {env : Env} {Q : Unit → Shared → Prop} {E : Value → Shared → Prop} (hL : env.frame = some L) (x : Fly s.heap e T L (rawInt L) c) (h : Q () s) : wpAny (Mo X) A (noteFrame (.ref e) env) Q E s := by
  obtain ⟨oe, vs, oT, ts, q1, q2, q3, q4, q5, q6, q7, q8, q9, q10⟩ := x
  unfold noteFrame
  simp only [hL]
  refine wpAny_bind (wpAny_field q1 q3 q4 ?_)
  rw [if_pos (show (Value.ref T != Value.none) = true from by simp)]
  refine wpAny_bind (wpAny_field q7 q8 q10 ?_)
  rw [if_pos (show (rawInt L == rawInt L) = true from by simp)]
  exact wpAny_pure h
theorem Up.note {A : Around} {s₀ s : Shared} {e L : Addr} {c : Prop} {outer : List Env} {Q : Unit → Shared → Prop} {E : Value → Shared → Prop} (U : Up X L c s₀ e s) (hst : X.stk = f.env :: outer) (hL : f.env.frame = some L) (hfr : A.frames = some X.stk) (l₀ : Live X s₀.heap)
    (h : ∀ s' T, Grow X s₀ s' → Fly s'.heap e T L (rawInt L) c → s₀.heap.objs.size ≤ e → s₀.heap.objs.size ≤ T → Q () s') : wpAny (Mo X) A (noteFrame (.ref e) f.env) Q E s := by
  cases U with
  | new B N ho hg hc => exact note_new hst hL hfr l₀ N ho hg fun h' T G x hT => h _ T G (x.weak hc) N.new hT
  | fly T G x he hT => exact note_again hL x (h s T G x he hT)
theorem came_back {A : Around} {s₀ s : Shared} {e T L : Addr} {c : Prop} {E : Value → Shared → Prop} (hL : f.env.frame = some L) (l₀ : Live X s₀.heap) (G : Grow X s₀ s) (x : Fly s.heap e T L (rawInt L) c) (he : s₀.heap.objs.size ≤ e) (hT : s₀.heap.objs.size ≤ T)
    (h : ∀ s', Up X L c s₀ e s' → E (.ref e) s') : cameBackBy (Mo X) A f.env E (.ref e) s := by
  unfold cameBackBy
  obtain ⟨oe, vs, oT, ts, q1, q2, q3, q4, q5⟩ := id x
  refine wpAny_bind (wpAny_field q1 q3 q4 ?_)
  rw [if_neg (show ¬ ((Value.ref T == Value.none) = true) from by simp)]
  rw [hL]
  exact set_flight x fun h' hs nc x' => h _ (.fly T (G.poke l₀ hs (none_of_le hT) nc) x' he hT)
theorem nameA {A : Around} {s : Shared} {x : Str} {pos : Pos} {p : PV} {Q : Value → Shared → Prop} {E : Value → Shared → Prop} (F : f.Ok X s) (hv : f.vars.lookup x = some p) (hl : f.env.kindOf x = some .local) (h : ∀ v, Rd s.heap f.mu' p v → Q v s) (hd : (x == ("__debug__" : Str)) = false := by decide) :
    wpAny (Mo X) A (eval (.Name x pos) f.env) Q E s := by
  obtain ⟨m, hn, hm⟩ := F.ns
  obtain ⟨v, hv', hr⟩ := hm x p hv hl
  exact wpAny_Name (wpAny_loadName_local F.kind hl hn hv' (h v hr)) hd
theorem subA {A : Around} {s : Shared} {x y : Str} {p1 p2 pos : Pos} {items : List PV} {n : Nat} {r : PV} {Q : Value → Shared → Prop} {E : Value → Shared → Prop} (F : f.Ok X s) (hx : f.vars.lookup x = some (.lst items)) (hxl : f.env.kindOf x = some .local) (hy : f.vars.lookup y = some (.int (n : Int))) (hyl : f.env.kindOf y = some .local)
    (hr : items[n]? = some r) (hn : n < 1000000) (h : ∀ v, Rd s.heap f.mu' r v → Q v s) (hd : (x == ("__debug__" : Str)) = false := by decide) (hd' : (y == ("__debug__" : Str)) = false := by decide) :
    wpAny (Mo X) A (eval (.Subscript (.Name x p1) (.Name y p2) pos) f.env) Q E s := by
  refine Subscript_ (nameA F hx hxl (fun v h₁ => nameA F hy hyl (fun w h₂ => ?_) hd') hd)
  obtain ⟨a, o, vs, nn, rfl, _, e1, e2, e3, e4⟩ := h₁
  obtain ⟨t, rfl⟩ := h₂
  obtain ⟨u, hu, hru⟩ := e4.get hr
  have hl : s.heap.IsList a vs := ⟨o, e1, e2, nn, e3⟩
  refine tail_any hl.typeIs slot_list_getitem.lookup ?_ (by with_unfolding_all rfl)
  exact wpAny_getItem_list hl (Int.natCast_nonneg n) (by omega) (by simpa using hu) (h u hru)
theorem subOut {A : Around} {s : Shared} {x y : Str} {p1 p2 pos : Pos} {items : List PV} {n : Nat} {L : Addr} {c : Prop} {Q : Value → Shared → Prop} {E : Value → Shared → Prop} (hA : Hdl A s) (hc : c → A.handled = none) (F : f.Ok X s) (hx : f.vars.lookup x = some (.lst items)) (hxl : f.env.kindOf x = some .local) (hy : f.vars.lookup y = some (.int (n : Int))) (hyl : f.env.kindOf y = some .local)
    (hr : items.length ≤ n) (hn : n < 1000000) (h : ∀ e s', Up X L c s e s' → E (.ref e) s') (hd : (x == ("__debug__" : Str)) = false := by decide) (hd' : (y == ("__debug__" : Str)) = false := by decide) :
    wpAny (Mo X) A (eval (.Subscript (.Name x p1) (.Name y p2) pos) f.env) Q E s := by
  refine Subscript_ (nameA F hx hxl (fun v h₁ => nameA F hy hyl (fun w h₂ => ?_) hd') hd)
  obtain ⟨a, o, vs, nn, rfl, _, e1, e2, e3, e4⟩ := h₁
  obtain ⟨t, rfl⟩ := h₂
  have hl : s.heap.IsList a vs := ⟨o, e1, e2, nn, e3⟩
  refine tail_any hl.typeIs slot_list_getitem.lookup ?_ (by with_unfolding_all rfl)
  exact getItem_out hA hl (Int.natCast_nonneg n) (by rw [e4.size]; omega) (by omega) fun h' tk e N => h e _ (.new A N rfl rfl hc)
end
section
variable {X : Wd} {k : Nat} {f : FS}
theorem WS.exec {st : Stmt} {Φ : List (Str × PV) → List (Addr × MO) → Prop} (h : WS X k f [st] (fun fl vars led => fl = .next ∧ Φ vars led)) {A : Around} {s : Shared} {Q : Flow → Shared → Prop} {E : Value → Shared → Prop} (R : Room X A k) (F : f.Ok X s)
    (hQ : ∀ vars led s', Φ vars led → (f.upd vars led).Ok X s' → Step f s (f.upd vars led) s' → Q .next s') : wpAny (Mo X) A (PySem.exec st f.env) Q E s := by
  have h1 := h A s (fun g s' => g = .next ∧ Q .next s') R F fun fl vars led g s' hp F' S' hg => by
    obtain ⟨rfl, hp⟩ := hp
    cases hg
    exact ⟨rfl, hQ vars led s' hp F' S'⟩
  intro Γ p hΓ
  have h' := h1 Γ p hΓ
  rw [execs_cons, Sem.wp_bind'] at h'
  refine Sem.wp_mono (Mo X) Γ (PySem.exec st f.env) (fun g p' s' hg => ?_) (fun _ _ _ x => x.elim) p s h'
  cases g with
  | next => exact hg.2
  | _ => exact absurd hg.1 (by intro q; cases q)
theorem execsA {st : Stmt} {rest : List Stmt} {env : Env} {A : Around} {s : Shared} {Q : Flow → Shared → Prop} {E : Value → Shared → Prop} (h : wpAny (Mo X) A (exec st env) (fun g s' => match g with | .next => wpAny (Mo X) A (execs rest env) Q E s' | g => Q g s') E s) : wpAny (Mo X) A (execs (st :: rest) env) Q E s := wpAny_execs_cons h
theorem augA {A : Around} {s : Shared} {x : Str} {p1 p2 p3 : Pos} {n m : Nat} {Q : Flow → Shared → Prop} {E : Value → Shared → Prop} (F : f.Ok X s) (hx : f.vars.lookup x = some (.int (n : Int))) (hl : f.env.kindOf x = some .local)
    (hQ : ∀ s', (f.upd ((x, .int ((n + 1 : Nat) : Int)) :: f.vars) f.led).Ok X s' → Step f s (f.upd ((x, .int ((n + 1 : Nat) : Int)) :: f.vars) f.led) s' → Q .next s') :
    wpAny (Mo X) A (exec (.AugAssign (.Name x p1) .Add (.Constant (.int 1) m p3) p2) f.env) Q E s := by
  refine wpAny_AugAssign_Name ?_
  obtain ⟨m, hn, hm⟩ := F.ns
  obtain ⟨v, hv, t, rfl⟩ := hm x _ hx hl
  refine wpAny_loadName_local F.kind hl hn hv (wpAny_Constant_int (iadd_int ?_))
  have e : ((n : Int) + 1) = ((n + 1 : Nat) : Int) := by omega
  rw [e]
  refine wpAny_mono (store_loc (p := .int ((n + 1 : Nat) : Int)) (F.toks _) hl ⟨_, rfl⟩ fun s' F' S' => hQ s' F' ((Step.grow F (.toks F.live)).trans S')) (fun _ _ x => x) fun _ _ x => x.elim
theorem whileNo {A : Around} {s : Shared} {x y z : Str} {p1 p2 p3 p4 p5 pos : Pos} {body : List Stmt} {items : List PV} {n : Nat} {a b : Str} {Q : Flow → Shared → Prop} {E : Value → Shared → Prop} (F : f.Ok X s) (hx : f.vars.lookup x = some (.lst items)) (hxl : f.env.kindOf x = some .local) (hy : f.vars.lookup y = some (.int (n : Int))) (hyl : f.env.kindOf y = some .local)
    (hz : f.vars.lookup z = some (.str b)) (hzl : f.env.kindOf z = some .local) (hr : items[n]? = some (.str a)) (hn : n < 1000000) (hab : (a == b) = false) (hQ : Q .next s) (hd : (x == ("__debug__" : Str)) = false := by decide) (hd' : (y == ("__debug__" : Str)) = false := by decide) (hd'' : (z == ("__debug__" : Str)) = false := by decide) :
    wpAny (Mo X) A (exec (.While (.Compare (.Subscript (.Name x p1) (.Name y p2) p3) [.Eq] [.Name z p4] p5) body [] pos) f.env) Q E s := by
  refine wpAny_While (codeAny_whileLoop (fun _ s' => s' = s) (fun n' s' hs => ?_) 0 rfl)
  subst hs
  refine wpAny_isTrue_Compare1 (subA F hx hxl hy hyl hr hn (fun v hv => nameA F hz hzl (fun w hw => ?_) hd'') hd hd') (by with_unfolding_all rfl)
  obtain ⟨t, rfl⟩ := hv
  obtain ⟨u, rfl⟩ := hw
  refine eq_str (wpAny_truthy_bool ?_)
  rw [hab, if_neg Bool.false_ne_true]
  exact wpAny_execs_nil hQ
theorem whileOut {A : Around} {s : Shared} {x y z : Str} {p1 p2 p3 p4 p5 pos : Pos} {body : List Stmt} {items : List PV} {n : Nat} {L : Addr} {c : Prop} {outer : List Env} {Q : Flow → Shared → Prop} {E : Value → Shared → Prop} (hA : Hdl A s) (hc : c → A.handled = none) (hst : X.stk = f.env :: outer) (hL : f.env.frame = some L) (hfr : A.frames = some X.stk)
    (F : f.Ok X s) (hx : f.vars.lookup x = some (.lst items)) (hxl : f.env.kindOf x = some .local) (hy : f.vars.lookup y = some (.int (n : Int))) (hyl : f.env.kindOf y = some .local)
    (hr : items.length ≤ n) (hn : n < 1000000) (hE : ∀ e s', Up X L c s e s' → E (.ref e) s') (hd : (x == ("__debug__" : Str)) = false := by decide) (hd' : (y == ("__debug__" : Str)) = false := by decide) :
    wpAny (Mo X) A (exec (.While (.Compare (.Subscript (.Name x p1) (.Name y p2) p3) [.Eq] [.Name z p4] p5) body [] pos) f.env) Q E s := by
  refine wpAny_While (codeAny_whileLoop (fun _ s' => s' = s) (fun n' s' hs => ?_) 0 rfl)
  subst hs
  refine wpAny_isTrue_Compare1 (subOut (L := L) (c := c) hA hc F hx hxl hy hyl hr hn (fun e s' U => ?_) hd hd') (by with_unfolding_all rfl)
  exact U.note hst hL hfr F.live fun s'' T G x he hT => came_back hL F.live G x he hT fun s3 U3 => hE e s3 U3
end
section
variable {X : Wd} {k : Nat} {f : FS}
theorem Rd.monoF {h h' : Heap} {mu : Addr → Prop} (hk : ∀ b o, ¬ mu b → (∀ vs, o.data ≠ .fields vs) → h.get? b = some o → h'.get? b = some o) {p : PV} {v : Value} : Rd h mu p v → Rd h' mu p v := Rd.monoG fun b o a c e => ⟨hk b o a c e, a⟩
theorem RdL.monoF {h h' : Heap} {mu : Addr → Prop} (hk : ∀ b o, ¬ mu b → (∀ vs, o.data ≠ .fields vs) → h.get? b = some o → h'.get? b = some o) {xs : List PV} {vs : List Value} : RdL h mu xs vs → RdL h' mu xs vs := RdL.monoG fun b o a c e => ⟨hk b o a c e, a⟩
/-- a record that is none of the frame's is turned -/
theorem FS.Ok.poke {s : Shared} {T : Addr} {h' : Heap} {o : Obj} {ts : Array Value} (F : f.Ok X s) (hs : Heap.SameBut T s.heap h') (hT : f.hs.heap.objs.size ≤ T) (hm : ¬ f.mu' T) (ho : s.heap.get? T = some o) (hd : o.data = .fields ts) (nc : NotCode s.heap T) : f.Ok X { s with heap := h' } := by
  have nf : ∀ b o', (∀ vs, o'.data ≠ .fields vs) → s.heap.get? b = some o' → h'.get? b = some o' := fun b o' hn e => (hs.2 b fun z => by rw [z, ho] at e; cases e; exact hn _ hd).trans e
  have nm : ∀ b o', f.mu' b → s.heap.get? b = some o' → h'.get? b = some o' := fun b o' hb e => (hs.2 b fun z => hm (z ▸ hb)).trans e
  have tr : ∀ {p v}, Rd s.heap f.mu' p v → Rd h' f.mu' p v := fun x => x.monoF fun b o' _ hn e => nf b o' hn e
  have trL : ∀ {p v}, RdL s.heap f.mu' p v → RdL h' f.mu' p v := fun x => x.monoF fun b o' _ hn e => nf b o' hn e
  have kn : ∀ {b m}, s.heap.Ns b m → h'.Ns b m := fun {b m} ⟨o', es, ep, e, d, q⟩ => ⟨o', es, ep, nf b o' (fun vs z => by rw [d] at z; cases z) e, d, q⟩
  have kc : ∀ {b v}, s.heap.IsCell b v → h'.IsCell b v := fun {b v} ⟨o', e, d⟩ => ⟨o', nf b o' (fun vs z => by rw [d] at z; cases z) e, d⟩
  have HT : X.H.get? T = none := none_of_le (Nat.le_trans F.hlow hT)
  exact {
    grow := ⟨F.live.upd HT (fun q => by
        rcases q with rfl | rfl
        · exact hm (.inl F.mu33)
        · exact hm (.inl F.mu85)) nc hs (fun q => absurd (F.mtab T (.inr (.inr q))) hm), fun b o' ht e => (hs.2 b fun z => by rw [z, none_of_le hT] at e; cases e).trans (F.grow.keep b o' ht e),
      by show _ ≤ h'.objs.size; rw [hs.1]; exact F.grow.size, F.grow.os, fun b m hb hn => kn (F.grow.frm b m hb hn), F.grow.gens⟩
    muLt := F.muLt, mu33 := F.mu33, mu85 := F.mu85, mfr := F.mfr, apart := F.apart, locs := F.locs, kind := F.kind, glob := F.glob, blt := F.blt, hlow := F.hlow
    fresh := fun b hb => ⟨(F.fresh b hb).1, by show b < h'.objs.size; rw [hs.1]; exact (F.fresh b hb).2⟩
    ns := let ⟨m, hn, hv⟩ := F.ns; ⟨m, kn hn, fun x p hx hk => let ⟨v, a, b⟩ := hv x p hx hk; ⟨v, a, tr b⟩⟩
    cell := fun x p hx hk => let ⟨c, v, a, b, d⟩ := F.cell x p hx hk; ⟨c, v, a, kc b, tr d⟩
    led := fun a mo hmo => by
      have ha : f.mu' a := .inr (.inr (List.mem_map_of_mem (f := (·.1)) hmo))
      have := F.led a mo hmo
      cases mo with
      | lst xs => obtain ⟨o', vs, n, e, h2, h3, h4⟩ := this; exact ⟨o', vs, n, nm a o' ha e, h2, h3, trL h4⟩
      | obj o' => exact nm a o' ha this
    solid := fun b hb => by
      obtain ⟨o', e⟩ := F.solid b hb
      exact ⟨o', nm b o' ((List.mem_append.mp hb).elim (fun h => .inr (.inl h)) fun h => .inr (.inr h)) e⟩
    cellv := fun n c hc => let ⟨v, hv⟩ := F.cellv n c hc; ⟨v, kc hv⟩ }
/-- an exception that has been noted, and the frame that stands -/
noncomputable def GotX (X : Wd) (f : FS) (L : Addr) (fl : Value) (c : Prop) (s : Shared) (vars : List (Str × PV)) (led : List (Addr × MO)) (e : Addr) (s' : Shared) : Prop :=
  ∃ T, (f.upd vars led).Ok X s' ∧ Step f s (f.upd vars led) s' ∧ Fly s'.heap e T L fl c ∧ s.heap.get? T = none ∧ ¬ (f.upd vars led).mu' T ∧ f.hs.heap.objs.size ≤ T ∧ ¬ (f.upd vars led).mu' e
theorem Step.poke {s s' : Shared} {g : FS} {T : Addr} {h' : Heap} (S : Step f s g s') (hs : Heap.SameBut T s'.heap h') (hT : s.heap.get? T = none) (hS : Solid h' T) : Step f s g { s' with heap := h' } :=
  ⟨fun b o h1 h2 h3 e => (hs.2 b fun z => by rw [z, hT] at e; cases e).trans (S.keep b o h1 h2 h3 e), S.mu, S.led, S.own, fun b hb => solid_but hs hS b (S.solid b hb)⟩
theorem GotX.set {A : Around} {s s' : Shared} {L : Addr} {fl : Value} {c : Prop} {vars : List (Str × PV)} {led : List (Addr × MO)} {e : Addr} {fr : Option Addr} {Q : Unit → Shared → Prop} {E : Value → Shared → Prop} (g : GotX X f L fl c s vars led e s')
    (h : ∀ s'', GotX X f L (fr.elim .none fun a => rawInt a) c s vars led e s'' → Q () s'') : wpAny (Mo X) A (setFlight (.ref e) fr) Q E s' := by
  obtain ⟨T, F, S, x, h1, h2, h3, h4⟩ := g
  refine set_flight x fun h' hs nc x' => ?_
  obtain ⟨oe, vs, oT, ts, q1, q2, q3, q4, q5, q6, q7, q8, q9⟩ := id x
  obtain ⟨oe', vs', oT', ts', r1, r2, r3, r4, r5, r6, r7, r8, r9⟩ := id x'
  exact h _ ⟨T, F.poke hs h3 h2 q7 q8 nc, S.poke hs h1 ⟨_, r7⟩, x', h1, h2, h3, h4⟩
theorem Up.got {A : Around} {s s₀ s' : Shared} {L : Addr} {c : Prop} {vars : List (Str × PV)} {led : List (Addr × MO)} {e : Addr} {outer : List Env} {Q : Unit → Shared → Prop} {E : Value → Shared → Prop} (U : Up X L c s₀ e s') (hst : X.stk = f.env :: outer) (hL : f.env.frame = some L) (hfr : A.frames = some X.stk)
    (F₀ : (f.upd vars led).Ok X s₀) (S₀ : Step f s (f.upd vars led) s₀) (h : ∀ s'', GotX X f L (rawInt L) c s vars led e s'' → Q () s'') : wpAny (Mo X) A (noteFrame (.ref e) f.env) Q E s' := by
  refine U.note (f := f.upd vars led) hst hL hfr F₀.live fun s'' T G x he hT => h s'' ⟨T, F₀.grown F₀.live G, S₀.trans (Step.grow F₀ G), x, none_of_solid S₀.solid (none_of_le hT), fun q => ?_, Nat.le_trans F₀.grow.size hT, fun q => ?_⟩
  · exact Nat.lt_irrefl _ (Nat.lt_of_lt_of_le (F₀.mu_lt T q) hT)
  · exact Nat.lt_irrefl _ (Nat.lt_of_lt_of_le (F₀.mu_lt e q) he)
theorem GotX.again {A : Around} {s s' : Shared} {L : Addr} {c : Prop} {vars : List (Str × PV)} {led : List (Addr × MO)} {e : Addr} {Q : Unit → Shared → Prop} {E : Value → Shared → Prop} (g : GotX X f L (rawInt L) c s vars led e s') (hL : f.env.frame = some L) (h : Q () s') : wpAny (Mo X) A (noteFrame (.ref e) f.env) Q E s' := by
  obtain ⟨T, F, S, x, _⟩ := g
  exact note_again hL x h
theorem GotX.back {A : Around} {s s' : Shared} {L : Addr} {fl : Value} {c : Prop} {vars : List (Str × PV)} {led : List (Addr × MO)} {e : Addr} {E : Value → Shared → Prop} (g : GotX X f L fl c s vars led e s') (hL : f.env.frame = some L) (h : ∀ s'', GotX X f L (rawInt L) c s vars led e s'' → E (.ref e) s'') : cameBackBy (Mo X) A f.env E (.ref e) s' := by
  unfold cameBackBy
  obtain ⟨T, F, S, ⟨oe, vs, oT, ts, q1, q2, q3, q4, q5⟩, _⟩ := id g
  refine wpAny_bind (wpAny_field q1 q3 q4 ?_)
  rw [if_neg (show ¬ ((Value.ref T == Value.none) = true) from by simp)]
  rw [hL]
  exact g.set fun s'' g' => h s'' g'
theorem GotX.pass {α : Type} {A : Around} {s s' : Shared} {L : Addr} {fl : Value} {c : Prop} {vars : List (Str × PV)} {led : List (Addr × MO)} {e : Addr} {what : String} {Q : α → Shared → Prop} {E : Value → Shared → Prop} (g : GotX X f L fl c s vars led e s') (hL : f.env.frame = some L) (h : ∀ s'', GotX X f L (rawInt L) c s vars led e s'' → E (.ref e) s'') : wpAny (Mo X) A (PySem.passOn what (.ref e) f.env : Sem α) Q E s' := by
  unfold PySem.passOn
  obtain ⟨T, F, S, ⟨oe, vs, oT, ts, q1, q2, q3, q4, q5⟩, _⟩ := id g
  refine wpAny_bind (wpAny_field q1 q3 q4 ?_)
  rw [if_neg (show ¬ ((Value.ref T == Value.none) = true) from by simp)]
  rw [hL]
  exact wpAny_bind (g.set fun s'' g' => wpAny_throw (h s'' g'))
/-- the frame goes on, the exception stays -/
theorem GotX.step {s s' s'' : Shared} {L : Addr} {fl : Value} {c : Prop} {vars vars' : List (Str × PV)} {led led' : List (Addr × MO)} {e : Addr} (g : GotX X f L fl c s vars led e s') (F' : (f.upd vars' led').Ok X s'') (S' : Step (f.upd vars led) s' (f.upd vars' led') s'') (hl : ∀ b, b ∈ led'.map (·.1) → b ∈ led.map (·.1)) : GotX X f L fl c s vars' led' e s'' := by
  obtain ⟨T, F, S, x, h1, h2, h3, h4⟩ := g
  refine ⟨T, F', S.trans S', x.keeps (fun o e' _ => S'.keeps h4 e') (fun o e' _ => S'.keeps h2 e'), h1, fun q => h2 ?_, h3, fun q => h4 ?_⟩
  · exact q.elim .inl fun q => .inr (q.elim .inl fun q => .inr (hl T q))
  · exact q.elim .inl fun q => .inr (q.elim .inl fun q => .inr (hl e q))
end
section
variable {X : Wd} {k : Nat} {f : FS}
theorem call_extend {A : Around} {s : Shared} {l b : Addr} {o o2 : Obj} {its its2 : Array Value} {n n2 : Nat} {Q : Value → Shared → Prop} {E : Value → Shared → Prop} (ho : s.heap.get? l = some o) (hc : o.cls = .type "list") (hd : o.data = .seq its n)
    (ho2 : s.heap.get? b = some o2) (hc2 : o2.cls = .type "list") (hd2 : o2.data = .seq its2 n2) (hz : its.size + its2.size ≤ 1000)
    (h : ∀ h' n', h'.get? l = some (o.mapSeq (· ++ its2)) → (o.mapSeq (· ++ its2)).data = .seq (its ++ its2) n' → Heap.SameBut l s.heap h' → Q .none { s with heap := h' }) :
    wpAny (Mo X) A (call (.builtin "list.extend") [.ref l, .ref b]) Q E s := by
  obtain ⟨n', hd'⟩ := Obj.data_mapSeq hd (· ++ its2)
  refine wpAny_call_entry PySem.F.slot_list_extend ⟨o, ho, hc⟩ PySem.F.entry_list_extend ?_ (PySem.F.args_list_extend_2 _ _)
  show wpAny _ _ (Builtin.List.listExtendWith (.ref l) (.ref b) .none) _ _ s
  unfold Builtin.List.listExtendWith
  refine wpAny_bind (wpAny_typeOf ⟨o2, ho2, hc2⟩ ?_)
  rw [if_pos (by simp)]
  refine wpAny_bind ?_
  show wpAny _ _ (seqItems? (.ref b) >>= _) _ _ s
  refine wpAny_bind (wpAny_seqItems ho2 hd2 (wpAny_pure ?_))
  refine wpAny_bind ?_
  show wpAny _ _ (seqItems? (.ref l) >>= _) _ _ s
  refine wpAny_bind (wpAny_seqItems ho hd (wpAny_pure ?_))
  rw [if_neg (by
    have : Builtin.List.listTooLong (its.size + its2.size) = false := by
      unfold Builtin.List.listTooLong sizeLine
      simp; omega
    rw [this]; simp)]
  refine wpAny_bind ?_
  show wpAny _ _ (updateSeq l (· ++ its2)) _ _ s
  refine wpAny_updateSeq ho hd (wpAny_pure ⟨.none, rfl, h _ n' (Heap.get?_update_self _ ho (Obj.isFreed_of_seq hd')) hd' (Heap.SameBut.update ..)⟩) (by unfold sizeLine; omega) (by rw [Array.size_append]; unfold sizeLine; omega)
theorem extendA {A : Around} {s : Shared} {x y i : Str} {p1 p2 p3 p4 p5 apos cpos pos : Pos} {a : Addr} {xs items : List PV} {n : Nat} {led' : List (Addr × MO)} {pl : Sem Bool} {Q : Flow → Shared → Prop} {E : Value → Shared → Prop} (F : f.Ok X s) (hx : f.vars.lookup x = some (.raw (.ref a))) (hxl : f.env.kindOf x = some .local)
    (hl : LedSet a (.lst xs) (.lst (xs ++ items.drop n)) f.led led') (hy : f.vars.lookup y = some (.lst items)) (hyl : f.env.kindOf y = some .local) (hi : f.vars.lookup i = some (.int (n : Int))) (hil : f.env.kindOf i = some .local) (hn : n ≤ items.length) (hz : xs.length + items.length ≤ 500)
    (hQ : ∀ s', (f.upd f.vars led').Ok X s' → Step f s (f.upd f.vars led') s' → Q .next s') (hd : (x == ("__debug__" : Str)) = false := by decide) (hd' : (y == ("__debug__" : Str)) = false := by decide) (hd'' : (i == ("__debug__" : Str)) = false := by decide)
    (heq : eval (.Call (.Attribute (.Name x p1) "extend" apos) [.Subscript (.Name y p2) (.Slice (some (.Name i p3)) none none p4) p5] [] cpos) f.env = (do
      let ov ← eval (.Name x p1) f.env
      standAt apos.atName
      let (f', first) ← holding [ov] (getMethod ov "extend" pl)
      callWith cpos f' first (backTo cpos (starEach [.Subscript (.Name y p2) (.Slice (some (.Name i p3)) none none p4) p5] f.env)) []) := by rfl) (hint : interactive f.env = false := by rfl) (hsw : swapsWith (.Call (.Attribute (.Name x p1) "extend" apos) [.Subscript (.Name y p2) (.Slice (some (.Name i p3)) none none p4) p5] [] cpos) none pos.line f.env = pure false := by rfl) :
    wpAny (Mo X) A (exec (.Expr (.Call (.Attribute (.Name x p1) "extend" apos) [.Subscript (.Name y p2) (.Slice (some (.Name i p3)) none none p4) p5] [] cpos) pos) f.env) Q E s := by
  refine wpAny_Expr_any ?_ hint hsw
  refine MethodCall_ (nameA F hx hxl (fun v h₁ => ?_) hd) heq
  cases h₁
  obtain ⟨ob, vs, nn, e1, e2, e3, e4⟩ := F.led a _ hl.mem
  refine getMethod_builtin ⟨ob, e1, e2.1⟩ PySem.F.plainAttrs_list PySem.F.slot_list_extend PySem.F.type_list_extend (fun b q => by cases q; exact ⟨ob, e1, e2.2⟩) (callWith_method1 ?_ rfl rfl)
  refine args_cons (Subscript_ (nameA F hy hyl (fun v h₁ => wpAny_Slice ?_) hd')) rfl
  show wpAny _ _ (eval (.Name i p3) f.env) _ _ s
  refine nameA F hi hil (fun w h₂ => ?_) hd''
  obtain ⟨t, rfl⟩ := h₂
  refine wpAny_pure (evalPart_none_step ?_)
  generalize hS : s.heap.push { cls := .type "slice", data := .fields #[.int (n : Int) t, .none, .none] } = S1
  have G₄ : Grow X s { s with heap := S1 } := by rw [← hS]; exact .push F.live
  have F₄ := F.grown F.live G₄
  obtain ⟨b, o2, vs2, n2, rfl, hm2, q1, q2, q3, q4⟩ := F.rd h₁ G₄
  have hL : S1.IsList b vs2 := ⟨o2, q1, q2, n2, q3⟩
  refine tail_any (s := { s with heap := S1 }) hL.typeIs slot_list_getitem.lookup ?_ rfl
  refine wpAny_getItem_list_slice (s := { s with heap := S1 }) hL (by rw [← hS]; exact Heap.IsSliceOf.new _ _ _ _) (.int _ _) .none .none (by intro x; cases x) ?_ (by rw [q4.size]; unfold sizeLine; omega)
  generalize hN : ({ cls := .type "list", data := .seq (slicePick vs2 (some (n : Int)) none none) } : Obj) = oN
  have G₅ : Grow X { s with heap := S1 } { s with heap := S1.push oN } := .push (t := s.toks) F₄.live
  have F₅ := F₄.grown F₄.live G₅
  refine args_nil ?_
  obtain ⟨ob', vs', nn', r1, r2, r3, r4⟩ := F₅.led a _ hl.mem
  have hsl : (slicePick vs2 (some (n : Int)) none none).size ≤ items.length ∧ RdL (S1.push oN) f.mu' (items.drop n) (slicePick vs2 (some (n : Int)) none none).toList := by
    have := F₄.rdl (q4.pickL (some (n : Int)) none) G₅
    rw [pickL_eq] at this
    have e : (items.drop (clipN (some (n : Int)) 0 items.length)).take (clipN none items.length items.length - clipN (some (n : Int)) 0 items.length) = items.drop n := by
      have e1 : clipN (some (n : Int)) 0 items.length = n := by
        simp only [clipN]
        split <;> omega
      rw [e1]
      exact List.take_of_length_le (by simp [clipN])
    rw [e] at this
    refine ⟨?_, this⟩
    rw [this.size, List.length_drop]; omega
  refine call_extend (s := { s with heap := S1.push oN }) r1 r2.1 r3 (Heap.get?_push_size S1 (o := oN) (by rw [← hN]; rfl)) (by rw [← hN]) (n2 := 0) (by rw [← hN]) (by rw [r4.size]; omega) fun h' n' g1 g2 g3 => ?_
  have Z := F₅.setLed (f := f) (t := s.toks) hl g3 ⟨_, _, n', g1, ⟨by rw [Obj.cls_mapSeq]; exact r2.1, by
    obtain ⟨c, d, dt, sl⟩ := ob'
    have r3' : dt = .seq vs' nn' := r3
    subst r3'
    exact r2.2⟩, g2, by rw [Array.toList_append]; exact r4.append hsl.2⟩
  exact hQ _ Z.1 ((Step.grow F (G₄.trans G₅)).trans Z.2)
end
section
variable {X : Wd} {k : Nat} {f : FS}
/-- an exception leaves a statement of the frame's -/
noncomputable def Exn (X : Wd) (f : FS) (L : Addr) (cc : Prop) (s : Shared) (P : List (Str × PV) → List (Addr × MO) → Prop) (ev : Value) (s' : Shared) : Prop :=
  ∃ e vars led, ev = .ref e ∧ P vars led ∧ ((∃ s₀, (f.upd vars led).Ok X s₀ ∧ Step f s (f.upd vars led) s₀ ∧ Up X L cc s₀ e s') ∨ GotX X f L (rawInt L) cc s vars led e s')
theorem Exn.note {A : Around} {s s' : Shared} {L : Addr} {c : Prop} {P} {ev : Value} {outer : List Env} {Q : Unit → Shared → Prop} {E : Value → Shared → Prop} (x : Exn X f L c s P ev s') (hst : X.stk = f.env :: outer) (hL : f.env.frame = some L) (hfr : A.frames = some X.stk)
    (h : ∀ e vars led s'', ev = .ref e → P vars led → GotX X f L (rawInt L) c s vars led e s'' → Q () s'') : wpAny (Mo X) A (noteFrame ev f.env) Q E s' := by
  obtain ⟨e, vars, led, rfl, hp, h1 | h1⟩ := x
  · obtain ⟨s₀, F₀, S₀, U⟩ := h1
    exact U.got hst hL hfr F₀ S₀ fun s'' g => h e vars led s'' rfl hp g
  · exact h1.again hL (h e vars led s' rfl hp h1)
theorem isub_idx_base : isSubtype (.type "IndexError") (.type "BaseException") = pure true := by rw [isSubtype_type]; kernel_rfl
theorem isub_idx_idx : isSubtype (.type "IndexError") (.type "IndexError") = pure true := by rw [isSubtype_type]; kernel_rfl
theorem isub_idx_tuple : isSubtype (.type ((Manifest.find? "IndexError").elim "type" fun x => x.metatype)) (.type "tuple") = pure false := by
  rw [show ((Manifest.find? "IndexError").elim "type" fun x => x.metatype) = "type" by decide +kernel, isSubtype_type]; kernel_rfl
theorem nameIdx {A : Around} {s : Shared} {pos : Pos} {Q : Value → Shared → Prop} {E : Value → Shared → Prop} (C : Cx X) (F : f.Ok X s) (hl : f.env.kindOf "IndexError" = some .globalImplicit) (h : Q (.type "IndexError") s) : wpAny (Mo X) A (eval (.Name "IndexError" pos) f.env) Q E s := by
  refine Calls.Name_function_global F.kind hl (Calls.loadGlobal_builtin (mg := X.mg) (mb := X.mb) ?_ (mg_none_of C.K C.g ?_) ?_ ((C.builtins "IndexError" (by decide)).trans (by decide +kernel)) h) (by decide)
  · rw [F.glob]; exact C.g.keeps F.live.old
  · kernel_rfl
  · rw [F.blt]; exact C.b.keeps F.live.old
theorem tryA {A : Around} {s : Shared} {L : Addr} {c : Prop} {P : List (Str × PV) → List (Addr × MO) → Prop} {outer : List Env} {np hpos pos : Pos} {body hb : List Stmt} {b0 : Stmt} {Q : Flow → Shared → Prop} {E : Value → Shared → Prop} (C : Cx X) (hst : X.stk = f.env :: outer) (hL : f.env.frame = some L) (hfr : A.frames = some X.stk)
    (hl : f.env.kindOf "IndexError" = some .globalImplicit) (h : wpAny (Mo X) A (execs body f.env) Q (Exn X f L c s P) s)
    (hh : ∀ e vars led s₁, P vars led → (f.upd vars led).Ok X s₁ → Step f s (f.upd vars led) s₁ → wpAny (Mo X) (A.mark (some (.ref e))) (execs (b0 :: hb) f.env) Q (fun _ _ => False) s₁) :
    wpAny (Mo X) A (exec (.Try body [.ExceptHandler (some (.Name "IndexError" np)) none (b0 :: hb) hpos] [] [] pos) f.env) Q E s := by
  rw [arm_exec_Try]
  refine wpAny_bind (wpAny_standAt (wpAny_tryStmt_except (wpAny_mono h (fun fl s₁ h₁ => ?_) fun ev s₁ h₁ => ?_)))
  · cases fl <;> first | exact h₁ | exact wpAny_execs_nil h₁
  · refine h₁.note hst hL hfr fun e vars led s₂ he hp g₂ => ?_
    subst he
    refine g₂.set fun s₃ g₃ => ?_
    have g₃ : GotX X f L .none c s vars led e s₃ := g₃
    obtain ⟨T, F₃, S₃, x₃, _⟩ := id g₃
    refine wpAny_handleBy_cons (codeAny_handlers_test (nameIdx (f := f.upd vars led) C F₃ hl (wpAny_excMatches_type (X := "IndexError") (b := true) ?_ isub_idx_base isub_idx_tuple isub_idx_idx ?_))) (by intro q; cases q)
    · obtain ⟨oe, vs, oT, ts, q1, q2, _⟩ := x₃
      exact ⟨oe, q1, q2⟩
    · show codeAny _ _ _ _ _
      refine codeAny_handlers_suite (g₃.set fun s₄ g₄ => ?_)
      obtain ⟨T', F₄, S₄, _⟩ := g₄
      exact wpAny_mono (hh e vars led s₄ hp F₄ S₄) (fun _ _ x => x) fun _ _ x => x.elim
/-- try: while .. finally: j += 1; while .. -/
theorem finA {A : Around} {s : Shared} {L : Addr} {outer : List Env} {x y z x' y' z' : Str} {q1 q2 q3 q4 q5 q6 q7 q8 q9 u1 u2 u3 u4 u5 u6 pos : Pos} {m : Nat} {body body' : List Stmt} {items items' : List PV} {n n' : Nat} {b b' : Str} {Q : Flow → Shared → Prop} {E : Value → Shared → Prop}
    (hA : A.handled = none) (hst : X.stk = f.env :: outer) (hL : f.env.frame = some L) (hfr : A.frames = some X.stk) (F : f.Ok X s)
    (hx : f.vars.lookup x = some (.lst items)) (hxl : f.env.kindOf x = some .local) (hy : f.vars.lookup y = some (.int (n : Int))) (hyl : f.env.kindOf y = some .local) (hz : f.vars.lookup z = some (.str b)) (hzl : f.env.kindOf z = some .local)
    (hx' : f.vars.lookup x' = some (.lst items')) (hxl' : f.env.kindOf x' = some .local) (hy' : f.vars.lookup y' = some (.int (n' : Int))) (hyl' : f.env.kindOf y' = some .local) (hz' : f.vars.lookup z' = some (.str b')) (hzl' : f.env.kindOf z' = some .local)
    (hxy : x' ≠ y') (hzy : z' ≠ y') (hn : n < 1000) (hn' : n' < 1000)
    (h1 : ∀ r, items[n]? = some r → ∃ a, r = .str a ∧ (a == b) = false) (h2 : ∀ r, items'[n' + 1]? = some r → ∃ a, r = .str a ∧ (a == b') = false)
    (hd1 : (x == ("__debug__" : Str)) = false) (hd2 : (y == ("__debug__" : Str)) = false) (hd3 : (z == ("__debug__" : Str)) = false) (hd4 : (x' == ("__debug__" : Str)) = false) (hd5 : (y' == ("__debug__" : Str)) = false) (hd6 : (z' == ("__debug__" : Str)) = false)
    (hN : n < items.length → n' + 1 < items'.length → ∀ s', (f.upd ((y', .int ((n' + 1 : Nat) : Int)) :: f.vars) f.led).Ok X s' → Step f s (f.upd ((y', .int ((n' + 1 : Nat) : Int)) :: f.vars) f.led) s' → Q .next s')
    (hE : (items.length ≤ n ∨ items'.length ≤ n' + 1) → ∀ ev s', Exn X f L False s (fun vars led => vars = (y', .int ((n' + 1 : Nat) : Int)) :: f.vars ∧ led = f.led) ev s' → E ev s') :
    wpAny (Mo X) A (exec (.Try [.While (.Compare (.Subscript (.Name x q1) (.Name y q2) q3) [.Eq] [.Name z q4] q5) body [] q6] [] [] [.AugAssign (.Name y' q7) .Add (.Constant (.int 1) m q8) q9, .While (.Compare (.Subscript (.Name x' u1) (.Name y' u2) u3) [.Eq] [.Name z' u4] u5) body' [] u6] pos) f.env) Q E s := by
  have hcons : ∀ {w : Str} {p : PV}, w ≠ y' → f.vars.lookup w = some p → ((y', PV.int ((n' + 1 : Nat) : Int)) :: f.vars).lookup w = some p := fun hw hp => by rw [look_cons_ne hw]; exact hp
  have hcons0 : ((y', PV.int ((n' + 1 : Nat) : Int)) :: f.vars).lookup y' = some (.int ((n' + 1 : Nat) : Int)) := by rw [List.lookup_cons, beq_self_eq_true]
  refine wpAny_Try_finally ?_
  rcases Nat.lt_or_ge n items.length with hlt | hge
  · -- the first loop ends plainly
    obtain ⟨r, hr⟩ : ∃ r, items[n]? = some r := ⟨items[n], by simp [hlt]⟩
    obtain ⟨a, rfl, hab⟩ := h1 r hr
    refine execsA (whileNo F hx hxl hy hyl hz hzl hr (by omega) hab ?_ hd1 hd2 hd3)
    refine wpAny_execs_nil (wpAny_execs_nil ?_)
    refine execsA (augA F hy' hyl' fun s₁ F₁ S₁ => ?_)
    rcases Nat.lt_or_ge (n' + 1) items'.length with hlt' | hge'
    · obtain ⟨r', hr'⟩ : ∃ r, items'[n' + 1]? = some r := ⟨items'[n' + 1], by simp [hlt']⟩
      obtain ⟨a', rfl, hab'⟩ := h2 r' hr'
      refine execsA (whileNo (f := f.upd ((y', .int ((n' + 1 : Nat) : Int)) :: f.vars) f.led) F₁ (hcons hxy hx') hxl' hcons0 hyl' (hcons hzy hz') hzl' hr' (by omega) hab' ?_ hd4 hd5 hd6)
      exact wpAny_execs_nil (hN hlt hlt' s₁ F₁ S₁)
    · refine execsA (whileOut (f := f.upd ((y', .int ((n' + 1 : Nat) : Int)) :: f.vars) f.led) (L := L) (c := False) (.inl hA) (fun q => q.elim) hst hL hfr F₁ (hcons hxy hx') hxl' hcons0 hyl' hge' (by omega) (fun e s' U => ?_) hd4 hd5)
      refine U.got hst hL hfr F₁ S₁ fun s'' g => g.back hL fun s3 g3 => hE (.inr hge') _ s3 ⟨e, _, _, rfl, ⟨rfl, rfl⟩, .inr g3⟩
  · -- the first loop runs out
    refine execsA (whileOut (L := L) (c := True) (.inl hA) (fun _ => hA) hst hL hfr F hx hxl hy hyl hge (by omega) (fun e s' U => ?_) hd1 hd2)
    refine U.got (vars := f.vars) (led := f.led) hst hL hfr F .refl fun s₁ g₁ => ⟨(by intro q; cases q), ?_⟩
    refine g₁.again hL (g₁.set fun s₂ g₂ => ?_)
    have g₂ : GotX X f L .none True s f.vars f.led e s₂ := g₂
    obtain ⟨T, F₂, S₂, x₂, t1, t2, t3, t4⟩ := id g₂
    refine execsA (augA F₂ hy' hyl' fun s₃ F₃ S₃ => ?_)
    have g₃ : GotX X f L .none True s ((y', .int ((n' + 1 : Nat) : Int)) :: f.vars) f.led e s₃ := g₂.step F₃ S₃ fun b hb => hb
    rcases Nat.lt_or_ge (n' + 1) items'.length with hlt' | hge'
    · obtain ⟨r', hr'⟩ : ∃ r, items'[n' + 1]? = some r := ⟨items'[n' + 1], by simp [hlt']⟩
      obtain ⟨a', rfl, hab'⟩ := h2 r' hr'
      refine execsA (whileNo (f := f.upd ((y', .int ((n' + 1 : Nat) : Int)) :: f.vars) f.led) F₃ (hcons hxy hx') hxl' hcons0 hyl' (hcons hzy hz') hzl' hr' (by omega) hab' ?_ hd4 hd5 hd6)
      refine wpAny_execs_nil ?_
      exact g₃.pass hL fun s₄ g₄ => hE (.inl hge) _ s₄ ⟨e, _, _, rfl, ⟨rfl, rfl⟩, .inr (by
        obtain ⟨T, a1, a2, a3, a4⟩ := g₄
        exact ⟨T, a1, a2, a3.weak (fun q => q.elim), a4⟩)⟩
    · obtain ⟨T3, F3', S3', x3, _⟩ := id g₃
      have hH : Hdl (A.mark (some (.ref e))) s₃ := by
        obtain ⟨oe, vs, oT, ts, a1, a2, a3, a4, a5, _⟩ := x3
        exact .inr ⟨e, oe, vs, rfl, a1, a3, a5 trivial⟩
      refine execsA (whileOut (f := f.upd ((y', .int ((n' + 1 : Nat) : Int)) :: f.vars) f.led) (L := L) (c := False) hH (fun q => q.elim) hst hL hfr F₃ (hcons hxy hx') hxl' hcons0 hyl' hge' (by omega) (fun e' s' U => ?_) hd4 hd5)
      refine U.got (A := A.mark (some (.ref e))) hst hL hfr F₃ S3' fun s'' g => g.back hL fun s4 g4 => hE (.inl hge) _ s4 ⟨e', _, _, rfl, ⟨rfl, rfl⟩, .inr g4⟩
end
section
variable {X : Wd} {k : Nat} {f : FS}
/-- sum over a list of numbers -/
theorem rdl_ints {h : Heap} {mu : Addr → Prop} : ∀ (ns : List Int) (vs : List Value), RdL h mu (ns.map .int) vs → ∃ xs : List (Int × Tok), vs = xs.map (fun p => Value.int p.1 p.2) ∧ xs.map (·.1) = ns
  | [], vs, x => ⟨[], x, rfl⟩
  | n :: ns, vs, ⟨v, r, e, ⟨t, e1⟩, hr⟩ => by
    obtain ⟨xs, e2, e3⟩ := rdl_ints ns r hr
    exact ⟨(n, t) :: xs, by rw [e, e1, e2]; rfl, by rw [List.map_cons, e3]⟩
theorem presum_list (xs : List (Int × Tok)) : ∀ n, n ≤ xs.length → preSum (numAt xs.toArray) n = ((xs.map (·.1)).take n).sum
  | 0, _ => by simp [preSum]
  | n + 1, h => by
    have ih := presum_list xs n (by omega)
    have hl : n < xs.length := by omega
    have e : numAt xs.toArray n = (xs[n]).1 := by simp [numAt, List.getElem?_eq_getElem hl]
    show preSum _ n + numAt _ n = _
    rw [ih, e, List.take_add_one, List.sum_append]
    simp [List.getElem?_eq_getElem hl]
theorem sum_l {ns : List Int} : OpN X k [.lst (ns.map .int)] (fun vs => call (.builtin "sum") vs) (.int ns.sum) := by
  intro A s mu vs Q R S hv hQ
  obtain ⟨v, r, rfl, ⟨a, o, vs, n, rfl, hm, h1, h2, h3, h4⟩, hr⟩ := hv
  cases hr
  obtain ⟨xs, e1, e2⟩ := rdl_ints ns _ h4
  have ev : vs = intItems xs.toArray := by
    apply Array.toList_inj.mp
    rw [e1]; simp [intItems]
  refine with_size (wpAny_mono (sum_intListG (xs := xs.toArray) (Q := fun u s' => s.heap.objs.size ≤ s'.heap.objs.size → Q u s') (E := fun _ _ => False) R.hd ⟨o, h1, h2, n, by rw [h3, ev]⟩ ?_) (fun _ _ x => x) (fun _ _ x => x.elim))
  intro h' tk t' hk hz
  refine hQ _ _ (Grow.kept S.live hz hk rfl rfl) ⟨t', ?_⟩
  congr 1
  rw [List.size_toArray, presum_list xs _ (Nat.le_refl _), e2, List.take_of_length_le]
  rw [← e2, List.length_map]; exact Nat.le_refl _
/-- sum over a list of truths -/
noncomputable def b01 (b : Bool) : Int := if b = true then 1 else 0
theorem rdl_bools {h : Heap} {mu : Addr → Prop} : ∀ (bs : List Bool) (vs : List Value), RdL h mu (bs.map .bool) vs → vs = bs.map Value.bool
  | [], vs, x => x
  | b :: bs, vs, ⟨v, r, e, e1, hr⟩ => by rw [e, e1, rdl_bools bs r hr]; rfl
theorem presum_bools (bs : List Bool) : ∀ n, n ≤ bs.length → preSum (fun i => b01 ((bs[i]?).getD false)) n = ((bs.map b01).take n).sum
  | 0, _ => by simp [preSum]
  | n + 1, h => by
    have ih := presum_bools bs n (by omega)
    have hl : n < bs.length := by omega
    show preSum _ n + _ = _
    rw [ih, List.take_add_one, List.sum_append]
    simp [List.getElem?_eq_getElem hl]
theorem sum_bs {bs : List Bool} : OpN X k [.lst (bs.map .bool)] (fun vs => call (.builtin "sum") vs) (.int (bs.map b01).sum) := by
  intro A s mu vs Q R S hv hQ
  obtain ⟨v, r, rfl, ⟨a, o, vs, n, rfl, hm, h1, h2, h3, h4⟩, hr⟩ := hv
  cases hr
  have ev : vs = (bs.map Value.bool).toArray := by
    apply Array.toList_inj.mp
    rw [rdl_bools bs _ h4]
  have hL : s.heap.IsList a vs := ⟨o, h1, h2, n, h3⟩
  have hlt : a < s.heap.objs.size := Heap.lt_size h1
  refine with_size (call_sum_walkAnyB (wpAny_pyIter_list hL ?_))
  refine ⟨s.heap.objs.size, _, _, _, _, _, _, fun i => b01 ((bs[i]?).getD false), rfl, (Walks.list (A := A.in1) R.hd s.heap.objs.size a (Nat.ne_of_lt hlt) vs).toS, ⟨⟨_, Heap.get?_push_size _ rfl, rfl, rfl⟩, hL.push _⟩, fun b hb => ?_, fun i v e => ?_, fun s' t' M hz => ?_⟩
  · show b < (s.heap.push _).objs.size
    rw [Heap.size_push]
    rcases List.mem_cons.mp hb with rfl | hb
    · exact Nat.lt_succ_self _
    · rcases List.mem_cons.mp hb with rfl | hb
      · exact Nat.lt_succ_of_lt hlt
      · cases hb
  · rw [ev] at e
    have e : (bs.map Value.bool)[i]? = some v := by simpa using e
    rw [List.getElem?_map, Option.map_eq_some_iff] at e
    obtain ⟨b, e1, rfl⟩ := e
    exact .inr ⟨b, rfl, by show b01 ((bs[i]?).getD false) = b01 b; rw [e1]; rfl⟩
  · refine hQ _ _ (Grow.kept S.live hz (fun b o e => M.heap b o (fun q => ?_) (Heap.get?_push_of_some _ e)) M.os M.gens) ⟨t', ?_⟩
    · have := Heap.lt_size e
      rcases List.mem_cons.mp q with q | q
      · rw [q] at this; exact Nat.lt_irrefl _ this
      · cases q
    · congr 1
      rw [ev, List.size_toArray, List.length_map, presum_bools bs _ (Nat.le_refl _), List.take_of_length_le]
      rw [List.length_map]; exact Nat.le_refl _
end
section
variable {X : Wd} {k : Nat} {f : FS}
noncomputable def ltS (a b : Str) : Bool := decide (a.cps.toList < b.cps.toList)
noncomputable def mIn (x : Str) (xs : List Str) (r : List Str → List Str × List Str) : List Str → List Str × List Str
  | [] => (x :: xs, [])
  | y :: ys =>
    if ltS x y then (x :: (r (y :: ys)).1, (r (y :: ys)).2)
    else if ltS y x then ((mIn x xs r ys).1, y :: (mIn x xs r ys).2)
    else r ys
noncomputable def mdiff : List Str → List Str → List Str × List Str
  | [] => fun ys => ([], ys)
  | x :: xs => mIn x xs (mdiff xs)
theorem mdiff_nil (xs : List Str) : mdiff xs [] = (xs, []) := by cases xs <;> rfl
theorem mdiff_nil' (ys : List Str) : mdiff [] ys = ([], ys) := rfl
theorem mdiff_cons (x y : Str) (xs ys : List Str) : mdiff (x :: xs) (y :: ys) = if ltS x y then (x :: (mdiff xs (y :: ys)).1, (mdiff xs (y :: ys)).2)
    else if ltS y x then ((mdiff (x :: xs) ys).1, y :: (mdiff (x :: xs) ys).2) else mdiff xs ys := rfl
theorem str_of_cps {a b : Str} (h : a.cps.toList = b.cps.toList) : a = b := by
  obtain ⟨a⟩ := a; obtain ⟨b⟩ := b
  have : a = b := by simpa using h
  rw [this]
theorem ltS_irrefl (a : Str) : ltS a a = false := by unfold ltS; simp [List.lt_irrefl]
theorem ltS_tri {a b : Str} (h1 : ltS a b = false) (h2 : ltS b a = false) : a = b := by
  unfold ltS at h1 h2
  simp only [decide_eq_false_iff_not] at h1 h2
  exact str_of_cps (List.le_antisymm h2 h1)
theorem ltS_trans {a b c : Str} (h1 : ltS a b = true) (h2 : ltS b c = true) : ltS a c = true := by
  unfold ltS at *
  simp only [decide_eq_true_eq] at *
  exact List.lt_trans h1 h2
theorem ltS_ne {a b : Str} (h : ltS a b = true) : (b == a) = false := beq_eq_false_iff_ne.mpr fun e => by
  subst e; rw [ltS_irrefl] at h; cases h
theorem WS.assign2 {x y : Str} {p1 p2 pos : Pos} {e : Expr} {p : PV} {rest : List Stmt} {Ψ} (he : Ev X k f e p) (S : Stores f x) (S' : Stores (f.upd ((x, p) :: f.vars) f.led) y)
    (h : WS X k (f.upd ((y, p) :: (x, p) :: f.vars) f.led) rest Ψ) (hm : (assignEach [.Name x p1, .Name y p2] f.env).map (·.2) = [PySem.assign (.Name x p1) f.env, PySem.assign (.Name y p2) f.env] := by rfl) (hw : swappedStores [.Name x p1, .Name y p2] e f.env = pure none := by rfl) :
    WS X k f (.Assign [.Name x p1, .Name y p2] e pos :: rest) Ψ :=
  WS.step (fun A s Q R F hQ => wpAny_Assign_two (he A s _ R F fun v s₁ G₁ F₁ h₁ => wpAny_assign_Name (store_any S F₁ h₁ fun s₂ F₂ S₂ => wpAny_assign_Name (store_any (f := f.upd ((x, p) :: f.vars) f.led) S' F₂ (h₁.mono fun b o hb e => ⟨S₂.keeps hb e, hb⟩) fun s₃ F₃ S₃ => hQ s₃ F₃ (((Step.grow F G₁).trans S₂).trans S₃)))) hm hw) h
theorem resl_same {led : List (Addr × MO)} : ∀ xs : List PV, ResL led xs xs
  | [] => .nil
  | x :: xs => .cons .same (resl_same xs)
noncomputable def V0 (xs ys : List Str) (a b : Addr) (i j : Nat) : List (Str × PV) := [("expected", .lst (xs.map .str)), ("actual", .lst (ys.map .str)), ("i", .int (i : Int)), ("j", .int (j : Int)), ("missing", .raw (.ref a)), ("unexpected", .raw (.ref b))]
noncomputable def L0 (a b : Addr) (ms us : List Str) : List (Addr × MO) := [(b, .lst (us.map .str)), (a, .lst (ms.map .str))]
theorem truthy_const {A : Around} {s : Shared} {env : Env} {n : Nat} {pos : Pos} {Q : Bool → Shared → Prop} {E : Value → Shared → Prop} (h : Q true s) : wpAny (Mo X) A (isTrue (.Constant (.bool true) n pos) env (eval (.Constant (.bool true) n pos) env)) Q E s :=
  isTrue_plain (Constant_bool (wpAny_truthy_bool h)) rfl
/-- the loop, by what its try says -/
theorem diff_while {xs ys : List Str} {a b : Addr} {st : Stmt} {n : Nat} {cp pos : Pos} {rest : List Stmt} {Ψ} (vars0 : f.vars = V0 xs ys a b 0 0) (led0 : f.led = L0 a b [] [])
    (turn : ∀ i j ms us (A : Around) s (Q : Flow → Shared → Prop) (E : Value → Shared → Prop), i ≤ xs.length → j ≤ ys.length → ms.length ≤ i → us.length ≤ j → Room X A k → (f.upd (V0 xs ys a b i j) (L0 a b ms us)).Ok X s →
      (∀ i' j' ms' us' s', i + j < i' + j' → i' ≤ xs.length → j' ≤ ys.length → ms'.length ≤ i' → us'.length ≤ j' → (ms ++ (mdiff (xs.drop i) (ys.drop j)).1, us ++ (mdiff (xs.drop i) (ys.drop j)).2) = (ms' ++ (mdiff (xs.drop i') (ys.drop j')).1, us' ++ (mdiff (xs.drop i') (ys.drop j')).2) →
        (f.upd (V0 xs ys a b i' j') (L0 a b ms' us')).Ok X s' → Step (f.upd (V0 xs ys a b i j) (L0 a b ms us)) s (f.upd (V0 xs ys a b i' j') (L0 a b ms' us')) s' → Q .next s') →
      (∀ i' j' s', (f.upd (V0 xs ys a b i' j') (L0 a b (ms ++ (mdiff (xs.drop i) (ys.drop j)).1) (us ++ (mdiff (xs.drop i) (ys.drop j)).2))).Ok X s' →
        Step (f.upd (V0 xs ys a b i j) (L0 a b ms us)) s (f.upd (V0 xs ys a b i' j') (L0 a b (ms ++ (mdiff (xs.drop i) (ys.drop j)).1) (us ++ (mdiff (xs.drop i) (ys.drop j)).2))) s' → Q .brk s') →
      wpAny (Mo X) A (PySem.exec st f.env) Q E s)
    (fin : ∀ i j, WS X k (f.upd (V0 xs ys a b i j) (L0 a b (mdiff xs ys).1 (mdiff xs ys).2)) rest Ψ) : WS X k f (.While (.Constant (.bool true) n cp) [st] [] pos :: rest) Ψ := by
  intro A s Q R F hQ
  have F0 : (f.upd (V0 xs ys a b 0 0) (L0 a b [] [])).Ok X s := by rw [← vars0, ← led0]; exact F
  have S0 : Step f s (f.upd (V0 xs ys a b 0 0) (L0 a b [] [])) s := by rw [← vars0, ← led0]; exact .refl
  refine wpAny_execs_cons (wpAny_While ?_)
  refine codeAny_whileLoop (fun m s' => ∃ i j ms us, i ≤ xs.length ∧ j ≤ ys.length ∧ ms.length ≤ i ∧ us.length ≤ j ∧ m = xs.length + ys.length - (i + j) ∧ (ms ++ (mdiff (xs.drop i) (ys.drop j)).1, us ++ (mdiff (xs.drop i) (ys.drop j)).2) = mdiff xs ys ∧ (f.upd (V0 xs ys a b i j) (L0 a b ms us)).Ok X s' ∧ Step f s (f.upd (V0 xs ys a b i j) (L0 a b ms us)) s') ?_
    (xs.length + ys.length) ⟨0, 0, [], [], Nat.zero_le _, Nat.zero_le _, Nat.le_refl _, Nat.le_refl _, rfl, rfl, F0, S0⟩
  rintro m s' ⟨i, j, ms, us, hi, hj, hm1, hu1, rfl, hD, F', S'⟩
  refine truthy_const ?_
  rw [if_pos rfl]
  refine execsA (turn i j ms us A s' _ _ hi hj hm1 hu1 R F' (fun i' j' ms' us' s'' hlt hi' hj' hm' hu' hE F'' S'' => ?_) fun i' j' s'' F'' S'' => ?_)
  · exact wpAny_execs_nil ⟨_, by omega, i', j', ms', us', hi', hj', hm', hu', rfl, hE.symm.trans hD, F'', S'.trans S''⟩
  · have h1 := congrArg Prod.fst hD
    have h2 := congrArg Prod.snd hD
    dsimp only at h1 h2
    rw [h1, h2] at F'' S''
    exact fin i' j' A s'' Q R F'' fun fl vars led g s3 hp F3 S3 hg => hQ fl vars led g s3 hp F3 ((S'.trans S'').trans S3) hg
theorem Exn.lift {s s₁ s' : Shared} {L : Addr} {c : Prop} {v0 : List (Str × PV)} {l0 : List (Addr × MO)} {P P' : List (Str × PV) → List (Addr × MO) → Prop} {ev : Value} (x : Exn X (f.upd v0 l0) L c s₁ P ev s') (S : Step f s (f.upd v0 l0) s₁) (hP : ∀ vars led, P vars led → P' vars led) : Exn X f L c s P' ev s' := by
  obtain ⟨e, vars, led, rfl, hp, h⟩ := x
  refine ⟨e, vars, led, rfl, hP _ _ hp, ?_⟩
  rcases h with ⟨s₀, F₀, S₀, U⟩ | ⟨T, F', S', x', h1, h2, h3, h4⟩
  · exact .inl ⟨s₀, F₀, S.trans S₀, U⟩
  · exact .inr ⟨T, F', S.trans S', x', none_of_solid S.solid h1, h2, h3, h4⟩
noncomputable def risesS (xs : List Str) : Prop := xs.Pairwise fun a b => ltS a b = true
theorem rises_next {xs : List Str} (h : risesS xs) {i : Nat} {x y : Str} (hx : xs[i]? = some x) (hy : xs[i + 1]? = some y) : ltS x y = true := by
  obtain ⟨h1, e1⟩ := List.getElem?_eq_some_iff.mp hx
  obtain ⟨h2, e2⟩ := List.getElem?_eq_some_iff.mp hy
  rw [← e1, ← e2]
  exact List.pairwise_iff_getElem.mp h i (i + 1) h1 h2 (Nat.lt_succ_self i)
theorem strs_get {xs : List Str} {i : Nat} {r : PV} (h : (xs.map PV.str)[i]? = some r) : ∃ x, xs[i]? = some x ∧ r = .str x := by
  rw [List.getElem?_map, Option.map_eq_some_iff] at h
  obtain ⟨x, h1, h2⟩ := h
  exact ⟨x, h1, h2.symm⟩
theorem rises_ne {xs : List Str} (h : risesS xs) {i : Nat} {x : Str} (hx : xs[i]? = some x) : ∀ r, (xs.map PV.str)[i + 1]? = some r → ∃ a, r = .str a ∧ (a == x) = false := fun r hr => by
  obtain ⟨y, hy, rfl⟩ := strs_get hr
  exact ⟨y, rfl, ltS_ne (rises_next h hx hy)⟩
theorem drop_get {xs : List Str} {i : Nat} {x : Str} (h : xs[i]? = some x) : xs.drop i = x :: xs.drop (i + 1) := by
  obtain ⟨h1, e1⟩ := List.getElem?_eq_some_iff.mp h
  rw [List.drop_eq_getElem_cons h1, e1]
noncomputable def HasL (env : Env) : Prop := ∀ x ∈ (["expected", "actual", "i", "j", "missing", "unexpected", "e", "a"] : List Str), env.kindOf x = some .local
theorem diff_turn (C : Cx X) {hs : Shared} {mu : Addr → Prop} {env : Env} {own : List Addr} {L : Addr} {outer : List Env} {xs ys : List Str} {a b : Addr} (hx : risesS xs) (hy : risesS ys) (hxl : xs.length ≤ 100) (hyl : ys.length ≤ 100) (hst : X.stk = env :: outer) (hL : env.frame = some L) (K : HasL env) (Ki : env.kindOf "IndexError" = some .globalImplicit) (hint : interactive env = false)
    {p1 p2 p3 p4 p5 p6 p7 p8 p9 p10 p11 p12 p13 p14 p15 p16 p17 p18 p19 p20 p21 p22 p23 p24 p25 p26 p30 p31 q1 q2 q3 q4 q5 q6 q7 q8 q9 q10 q11 q12 q13 q14 q15 q16 q20 q21 r1 r2 r3 r4 r5 r6 r7 r8 r9 r10 r11 r12 r13 r14 r15 r16 r17 r18 r19 t1 t2 t3 t4 t5 t6 t7 t8 t9 t10 t11 t12 t13 t14 t15 t16 t17 t18 t19 t20 : Pos} {b1 b2 b3 b4 : List Stmt} {pl1 pl2 pl3 pl4 : Sem Bool}
    (e1 : eval (.Call (.Attribute (.Name "missing" p14) "append" p15) [.Name "e" p16] [] p17) env = (do
      let ov ← eval (.Name "missing" p14) env
      standAt p15.atName
      let (f', first) ← holding [ov] (getMethod ov "append" pl1)
      callWith p17 f' first (backTo p17 (starEach [.Name "e" p16] env)) []))
    (e2 : eval (.Call (.Attribute (.Name "unexpected" q4) "append" q5) [.Name "a" q6] [] q7) env = (do
      let ov ← eval (.Name "unexpected" q4) env
      standAt q5.atName
      let (f', first) ← holding [ov] (getMethod ov "append" pl2)
      callWith q7 f' first (backTo q7 (starEach [.Name "a" q6] env)) []))
    (e3 : eval (.Call (.Attribute (.Name "missing" t2) "extend" t3) [.Subscript (.Name "expected" t4) (.Slice (some (.Name "i" t5)) none none t6) t7] [] t8) env = (do
      let ov ← eval (.Name "missing" t2) env
      standAt t3.atName
      let (f', first) ← holding [ov] (getMethod ov "extend" pl3)
      callWith t8 f' first (backTo t8 (starEach [.Subscript (.Name "expected" t4) (.Slice (some (.Name "i" t5)) none none t6) t7] env)) []))
    (e4 : eval (.Call (.Attribute (.Name "unexpected" t10) "extend" t11) [.Subscript (.Name "actual" t12) (.Slice (some (.Name "j" t13)) none none t14) t15] [] t16) env = (do
      let ov ← eval (.Name "unexpected" t10) env
      standAt t11.atName
      let (f', first) ← holding [ov] (getMethod ov "extend" pl4)
      callWith t16 f' first (backTo t16 (starEach [.Subscript (.Name "actual" t12) (.Slice (some (.Name "j" t13)) none none t14) t15] env)) []))
    {i j : Nat} {ms us : List Str} {A : Around} {s : Shared} {Q : Flow → Shared → Prop} {E : Value → Shared → Prop} (hi : i ≤ xs.length) (hj : j ≤ ys.length) (hm : ms.length ≤ i) (hu : us.length ≤ j) (R : Room X A k) (F : FS.Ok X ⟨hs, mu, env, V0 xs ys a b i j, own, L0 a b ms us⟩ s)
    (hN : ∀ i' j' ms' us' s', i + j < i' + j' → i' ≤ xs.length → j' ≤ ys.length → ms'.length ≤ i' → us'.length ≤ j' → (ms ++ (mdiff (xs.drop i) (ys.drop j)).1, us ++ (mdiff (xs.drop i) (ys.drop j)).2) = (ms' ++ (mdiff (xs.drop i') (ys.drop j')).1, us' ++ (mdiff (xs.drop i') (ys.drop j')).2) →
        FS.Ok X ⟨hs, mu, env, V0 xs ys a b i' j', own, L0 a b ms' us'⟩ s' → Step ⟨hs, mu, env, V0 xs ys a b i j, own, L0 a b ms us⟩ s ⟨hs, mu, env, V0 xs ys a b i' j', own, L0 a b ms' us'⟩ s' → Q .next s')
    (hB : ∀ i' j' s', FS.Ok X ⟨hs, mu, env, V0 xs ys a b i' j', own, L0 a b (ms ++ (mdiff (xs.drop i) (ys.drop j)).1) (us ++ (mdiff (xs.drop i) (ys.drop j)).2)⟩ s' →
        Step ⟨hs, mu, env, V0 xs ys a b i j, own, L0 a b ms us⟩ s ⟨hs, mu, env, V0 xs ys a b i' j', own, L0 a b (ms ++ (mdiff (xs.drop i) (ys.drop j)).1) (us ++ (mdiff (xs.drop i) (ys.drop j)).2)⟩ s' → Q .brk s') :
    wpAny (Mo X) A (PySem.exec (.Try [
      .Assign [.Name "e" p1] (.Subscript (.Name "expected" p2) (.Name "i" p3) p4) p5,
      .Assign [.Name "a" p6] (.Subscript (.Name "actual" p7) (.Name "j" p8) p9) p10,
      .If (.Compare (.Name "e" p11) [.Lt] [.Name "a" p12] p13)
        [.Expr (.Call (.Attribute (.Name "missing" p14) "append" p15) [.Name "e" p16] [] p17) p18,
         .AugAssign (.Name "i" p19) .Add (.Constant (.int 1) 0 p20) p21,
         .While (.Compare (.Subscript (.Name "expected" p22) (.Name "i" p23) p24) [.Eq] [.Name "e" p25] p26) b1 [] p30]
        [.If (.Compare (.Name "e" q1) [.Gt] [.Name "a" q2] q3)
          [.Expr (.Call (.Attribute (.Name "unexpected" q4) "append" q5) [.Name "a" q6] [] q7) q8,
           .AugAssign (.Name "j" q9) .Add (.Constant (.int 1) 0 q10) q11,
           .While (.Compare (.Subscript (.Name "actual" q12) (.Name "j" q13) q14) [.Eq] [.Name "a" q15] q16) b2 [] q20]
          [.AugAssign (.Name "i" r1) .Add (.Constant (.int 1) 0 r2) r3,
           .Try [.While (.Compare (.Subscript (.Name "expected" r4) (.Name "i" r5) r6) [.Eq] [.Name "e" r7] r8) b3 [] r9] [] [] [.AugAssign (.Name "j" r10) .Add (.Constant (.int 1) 0 r11) r12, .While (.Compare (.Subscript (.Name "actual" r13) (.Name "j" r14) r15) [.Eq] [.Name "a" r16] r17) b4 [] r18] r19]
          q21] p31]
      [.ExceptHandler (some (.Name "IndexError" t1)) none [.Expr (.Call (.Attribute (.Name "missing" t2) "extend" t3) [.Subscript (.Name "expected" t4) (.Slice (some (.Name "i" t5)) none none t6) t7] [] t8) t9,
        .Expr (.Call (.Attribute (.Name "unexpected" t10) "extend" t11) [.Subscript (.Name "actual" t12) (.Slice (some (.Name "j" t13)) none none t14) t15] [] t16) t17, .Break t18] t19] [] [] t20) env) Q E s := by
  have k1 : env.kindOf "expected" = some .local := K _ (by simp)
  have k2 : env.kindOf "actual" = some .local := K _ (by simp)
  have k3 : env.kindOf "i" = some .local := K _ (by simp)
  have k4 : env.kindOf "j" = some .local := K _ (by simp)
  have k5 : env.kindOf "missing" = some .local := K _ (by simp)
  have k6 : env.kindOf "unexpected" = some .local := K _ (by simp)
  have k7 : env.kindOf "e" = some .local := K _ (by simp)
  have k8 : env.kindOf "a" = some .local := K _ (by simp)
  have hA : A.handled = none := R.hd
  generalize hD : mdiff (xs.drop i) (ys.drop j) = D at hN hB
  refine tryA (f := ⟨hs, mu, env, V0 xs ys a b i j, own, L0 a b ms us⟩) (L := L) (c := False) (P := fun vars led => ∃ i' j' ms' us', Subv (V0 xs ys a b i' j') vars ∧ led = L0 a b ms' us' ∧ i' ≤ xs.length ∧ j' ≤ ys.length ∧ ms'.length ≤ i' ∧ us'.length ≤ j' ∧ (ms ++ D.1, us ++ D.2) = (ms' ++ xs.drop i', us' ++ ys.drop j')) C hst hL R.frames Ki ?_ ?_
  · -- where an exception leaves
    have out1 : ∀ {i' j' ms' us' vars s₀ e s'}, Subv (V0 xs ys a b i' j') vars → i' ≤ xs.length → j' ≤ ys.length → ms'.length ≤ i' → us'.length ≤ j' → (ms ++ D.1, us ++ D.2) = (ms' ++ xs.drop i', us' ++ ys.drop j') →
        FS.Ok X ⟨hs, mu, env, vars, own, L0 a b ms' us'⟩ s₀ → Step ⟨hs, mu, env, V0 xs ys a b i j, own, L0 a b ms us⟩ s ⟨hs, mu, env, vars, own, L0 a b ms' us'⟩ s₀ → Up X L False s₀ e s' →
        Exn X ⟨hs, mu, env, V0 xs ys a b i j, own, L0 a b ms us⟩ L False s (fun vars led => ∃ i' j' ms' us', Subv (V0 xs ys a b i' j') vars ∧ led = L0 a b ms' us' ∧ i' ≤ xs.length ∧ j' ≤ ys.length ∧ ms'.length ≤ i' ∧ us'.length ≤ j' ∧ (ms ++ D.1, us ++ D.2) = (ms' ++ xs.drop i', us' ++ ys.drop j')) (.ref e) s' :=
      fun {i' j' ms' us' vars s₀ e s'} hv h1 h2 h3 h4 h5 F₀ S₀ U => ⟨e, vars, L0 a b ms' us', rfl, ⟨i', j', ms', us', hv, rfl, h1, h2, h3, h4, h5⟩, .inl ⟨s₀, F₀, S₀, U⟩⟩
    have fin1 : ∀ {i' j' ms' us' vars s'}, Subv (V0 xs ys a b i' j') vars → i + j < i' + j' → i' ≤ xs.length → j' ≤ ys.length → ms'.length ≤ i' → us'.length ≤ j' → (ms ++ D.1, us ++ D.2) = (ms' ++ (mdiff (xs.drop i') (ys.drop j')).1, us' ++ (mdiff (xs.drop i') (ys.drop j')).2) →
        FS.Ok X ⟨hs, mu, env, vars, own, L0 a b ms' us'⟩ s' → Step ⟨hs, mu, env, V0 xs ys a b i j, own, L0 a b ms us⟩ s ⟨hs, mu, env, vars, own, L0 a b ms' us'⟩ s' → Q .next s' :=
      fun {i' j' ms' us' vars s'} hv h0 h1 h2 h3 h4 h5 F' S' => hN i' j' ms' us' s' h0 h1 h2 h3 h4 h5 (FS.Ok.forget (f := ⟨hs, mu, env, vars, own, L0 a b ms' us'⟩) F' hv.look) ⟨S'.keep, S'.mu, S'.led, S'.own, S'.solid⟩
    rcases Nat.lt_or_ge i xs.length with hil | hil
    · obtain ⟨x, hxi⟩ : ∃ x, xs[i]? = some x := ⟨xs[i], by simp [hil]⟩
      have hxi' : (xs.map PV.str)[i]? = some (.str x) := by rw [List.getElem?_map, hxi]; rfl
      refine execsA (wpAny_Assign_Name (subA (f := ⟨hs, mu, env, V0 xs ys a b i j, own, L0 a b ms us⟩) F rfl k1 rfl k3 hxi' (by omega) (fun v hv => ?_) rfl rfl) rfl)
      refine wpAny_mono (store_loc (f := ⟨hs, mu, env, V0 xs ys a b i j, own, L0 a b ms us⟩) F k7 hv fun s₁ F₁ S₁ => ?_) (fun _ _ q => q) fun _ _ q => q.elim
      have F₁ : FS.Ok X ⟨hs, mu, env, ("e", .str x) :: V0 xs ys a b i j, own, L0 a b ms us⟩ s₁ := F₁
      have S₁ : Step ⟨hs, mu, env, V0 xs ys a b i j, own, L0 a b ms us⟩ s ⟨hs, mu, env, ("e", .str x) :: V0 xs ys a b i j, own, L0 a b ms us⟩ s₁ := S₁
      rcases Nat.lt_or_ge j ys.length with hjl | hjl
      · obtain ⟨y, hyj⟩ : ∃ y, ys[j]? = some y := ⟨ys[j], by simp [hjl]⟩
        have hyj' : (ys.map PV.str)[j]? = some (.str y) := by rw [List.getElem?_map, hyj]; rfl
        refine execsA (wpAny_Assign_Name (subA (f := ⟨hs, mu, env, ("e", .str x) :: V0 xs ys a b i j, own, L0 a b ms us⟩) F₁ rfl k2 rfl k4 hyj' (by omega) (fun v hv => ?_) rfl rfl) rfl)
        refine wpAny_mono (store_loc (f := ⟨hs, mu, env, ("e", .str x) :: V0 xs ys a b i j, own, L0 a b ms us⟩) F₁ k8 hv fun s₂ F₂ S₂ => ?_) (fun _ _ q => q) fun _ _ q => q.elim
        have F₂ : FS.Ok X ⟨hs, mu, env, ("a", .str y) :: ("e", .str x) :: V0 xs ys a b i j, own, L0 a b ms us⟩ s₂ := F₂
        have S₂ := S₁.trans S₂
        have S₂ : Step ⟨hs, mu, env, V0 xs ys a b i j, own, L0 a b ms us⟩ s ⟨hs, mu, env, ("a", .str y) :: ("e", .str x) :: V0 xs ys a b i j, own, L0 a b ms us⟩ s₂ := S₂
        have hDx : mdiff (x :: xs.drop (i + 1)) (y :: ys.drop (j + 1)) = D := by rw [← drop_get hxi, ← drop_get hyj]; exact hD
        refine execsA (wpAny_If ?_)
        refine wpAny_mono (Tv.cmp (k := k) (f := ⟨hs, mu, env, ("a", .str y) :: ("e", .str x) :: V0 xs ys a b i j, own, L0 a b ms us⟩) (p := .str x) (q := .str y) (Ev.loc rfl k7 rfl) (Ev.loc rfl k8 rfl) lt_ss rfl A s₂ _ R F₂ fun s₃ G₃ F₃ => ?_) (fun _ _ q => q) fun _ _ q => q.elim
        have S₃ := S₂.trans (Step.grow F₂ G₃)
        cases hlt : ltS x y with
        | true =>
          have hlt' : decide (x.cps.toList < y.cps.toList) = true := hlt
          rw [hlt', if_pos rfl]
          have hD1 : D = (x :: (mdiff (xs.drop (i + 1)) (ys.drop j)).1, (mdiff (xs.drop (i + 1)) (ys.drop j)).2) := by
            rw [← hDx, mdiff_cons, if_pos hlt, ← drop_get hyj]
          refine execsA (WS.exec (k := k) (f := ⟨hs, mu, env, ("a", .str y) :: ("e", .str x) :: V0 xs ys a b i j, own, L0 a b ms us⟩) (Φ := fun vars led => vars = (("a", .str y) :: ("e", .str x) :: V0 xs ys a b i j : List (Str × PV)) ∧ led = L0 a b (ms ++ [x]) us) (WS.append (a := a) (xs := ms.map .str) (p := .str x) (led' := L0 a b (ms ++ [x]) us) (Ev.loc rfl k5 rfl) (Ev.loc rfl k7 rfl) ?_ ?_ (WS.nil ⟨rfl, rfl, rfl⟩) (fun _ => rfl) e1 hint rfl) R F₃ fun vars led s₄ hp F₄ S₄ => ?_)
          · show LedSet a _ _ (L0 a b ms us) (L0 a b (ms ++ [x]) us)
            unfold L0
            rw [List.map_append]
            exact .there .here
          · rw [List.length_map]; unfold sizeLine; omega
          obtain ⟨rfl, rfl⟩ := hp
          have S₄ := S₃.trans S₄
          refine execsA (augA (f := ⟨hs, mu, env, ("a", .str y) :: ("e", .str x) :: V0 xs ys a b i j, own, L0 a b (ms ++ [x]) us⟩) F₄ rfl k3 fun s₅ F₅ S₅ => ?_)
          have F₅ : FS.Ok X ⟨hs, mu, env, ("i", .int ((i + 1 : Nat) : Int)) :: ("a", .str y) :: ("e", .str x) :: V0 xs ys a b i j, own, L0 a b (ms ++ [x]) us⟩ s₅ := F₅
          have S₅ : Step ⟨hs, mu, env, V0 xs ys a b i j, own, L0 a b ms us⟩ s ⟨hs, mu, env, ("i", .int ((i + 1 : Nat) : Int)) :: ("a", .str y) :: ("e", .str x) :: V0 xs ys a b i j, own, L0 a b (ms ++ [x]) us⟩ s₅ := S₄.trans S₅
          have hv : Subv (V0 xs ys a b (i + 1) j) (("i", .int ((i + 1 : Nat) : Int)) :: ("a", .str y) :: ("e", .str x) :: V0 xs ys a b i j) := ⟨rfl, rfl, rfl, rfl, rfl, rfl, trivial⟩
          have hE : (ms ++ D.1, us ++ D.2) = ((ms ++ [x]) ++ (mdiff (xs.drop (i + 1)) (ys.drop j)).1, us ++ (mdiff (xs.drop (i + 1)) (ys.drop j)).2) := by rw [hD1]; simp
          rcases Nat.lt_or_ge (i + 1) xs.length with hil' | hil'
          · obtain ⟨x', hx'⟩ : ∃ x', xs[i + 1]? = some x' := ⟨xs[i + 1], by simp [hil']⟩
            refine execsA (whileNo (f := ⟨hs, mu, env, ("i", .int ((i + 1 : Nat) : Int)) :: ("a", .str y) :: ("e", .str x) :: V0 xs ys a b i j, own, L0 a b (ms ++ [x]) us⟩) F₅ rfl k1 rfl k3 rfl k7 (a := x') (by rw [List.getElem?_map, hx']; rfl) (by omega) (ltS_ne (rises_next hx hxi hx')) ?_ rfl rfl rfl)
            exact wpAny_execs_nil (wpAny_execs_nil (fin1 hv (by omega) (by omega) hj (by simp; omega) hu hE F₅ S₅))
          · refine execsA (whileOut (L := L) (c := False) (f := ⟨hs, mu, env, ("i", .int ((i + 1 : Nat) : Int)) :: ("a", .str y) :: ("e", .str x) :: V0 xs ys a b i j, own, L0 a b (ms ++ [x]) us⟩) (.inl hA) (fun q => q.elim) hst hL R.frames F₅ rfl k1 rfl k3 (by rw [List.length_map]; exact hil') (by omega) (fun e s' U => ?_) rfl rfl)
            refine out1 hv (by omega) hj (by simp; omega) hu ?_ F₅ S₅ U
            rw [hE, List.drop_of_length_le hil', mdiff_nil']
        | false =>
          have hlt' : decide (x.cps.toList < y.cps.toList) = false := hlt
          rw [hlt', if_neg Bool.false_ne_true]
          refine execsA (wpAny_If ?_)
          refine wpAny_mono (Tv.cmp (k := k) (f := ⟨hs, mu, env, ("a", .str y) :: ("e", .str x) :: V0 xs ys a b i j, own, L0 a b ms us⟩) (p := .str x) (q := .str y) (Ev.loc rfl k7 rfl) (Ev.loc rfl k8 rfl) gt_ss rfl A s₃ _ R F₃ fun s₃' G₃' F₃' => ?_) (fun _ _ q => q) fun _ _ q => q.elim
          have S₃' := S₃.trans (Step.grow F₃ G₃')
          cases hgt : ltS y x with
          | true =>
            have hgt' : decide (y.cps.toList < x.cps.toList) = true := hgt
            rw [hgt', if_pos rfl]
            have hD1 : D = ((mdiff (xs.drop i) (ys.drop (j + 1))).1, y :: (mdiff (xs.drop i) (ys.drop (j + 1))).2) := by
              rw [← hDx, mdiff_cons, if_neg (by rw [hlt]; decide), if_pos hgt, ← drop_get hxi]
            refine execsA (WS.exec (k := k) (f := ⟨hs, mu, env, ("a", .str y) :: ("e", .str x) :: V0 xs ys a b i j, own, L0 a b ms us⟩) (Φ := fun vars led => vars = (("a", .str y) :: ("e", .str x) :: V0 xs ys a b i j : List (Str × PV)) ∧ led = L0 a b ms (us ++ [y])) (WS.append (a := b) (xs := us.map .str) (p := .str y) (led' := L0 a b ms (us ++ [y])) (Ev.loc rfl k6 rfl) (Ev.loc rfl k8 rfl) ?_ ?_ (WS.nil ⟨rfl, rfl, rfl⟩) (fun _ => rfl) e2 hint rfl) R F₃' fun vars led s₄ hp F₄ S₄ => ?_)
            · show LedSet b _ _ (L0 a b ms us) (L0 a b ms (us ++ [y]))
              unfold L0
              rw [List.map_append]
              exact .here
            · rw [List.length_map]; unfold sizeLine; omega
            obtain ⟨rfl, rfl⟩ := hp
            have S₄ := S₃'.trans S₄
            refine execsA (augA (f := ⟨hs, mu, env, ("a", .str y) :: ("e", .str x) :: V0 xs ys a b i j, own, L0 a b ms (us ++ [y])⟩) F₄ rfl k4 fun s₅ F₅ S₅ => ?_)
            have F₅ : FS.Ok X ⟨hs, mu, env, ("j", .int ((j + 1 : Nat) : Int)) :: ("a", .str y) :: ("e", .str x) :: V0 xs ys a b i j, own, L0 a b ms (us ++ [y])⟩ s₅ := F₅
            have S₅ : Step ⟨hs, mu, env, V0 xs ys a b i j, own, L0 a b ms us⟩ s ⟨hs, mu, env, ("j", .int ((j + 1 : Nat) : Int)) :: ("a", .str y) :: ("e", .str x) :: V0 xs ys a b i j, own, L0 a b ms (us ++ [y])⟩ s₅ := S₄.trans S₅
            have hv : Subv (V0 xs ys a b i (j + 1)) (("j", .int ((j + 1 : Nat) : Int)) :: ("a", .str y) :: ("e", .str x) :: V0 xs ys a b i j) := ⟨rfl, rfl, rfl, rfl, rfl, rfl, trivial⟩
            have hE : (ms ++ D.1, us ++ D.2) = (ms ++ (mdiff (xs.drop i) (ys.drop (j + 1))).1, (us ++ [y]) ++ (mdiff (xs.drop i) (ys.drop (j + 1))).2) := by rw [hD1]; simp
            rcases Nat.lt_or_ge (j + 1) ys.length with hjl' | hjl'
            · obtain ⟨y', hy'⟩ : ∃ y', ys[j + 1]? = some y' := ⟨ys[j + 1], by simp [hjl']⟩
              refine execsA (whileNo (f := ⟨hs, mu, env, ("j", .int ((j + 1 : Nat) : Int)) :: ("a", .str y) :: ("e", .str x) :: V0 xs ys a b i j, own, L0 a b ms (us ++ [y])⟩) F₅ rfl k2 rfl k4 rfl k8 (a := y') (by rw [List.getElem?_map, hy']; rfl) (by omega) (ltS_ne (rises_next hy hyj hy')) ?_ rfl rfl rfl)
              exact wpAny_execs_nil (wpAny_execs_nil (wpAny_execs_nil (fin1 hv (by omega) hi (by omega) hm (by simp; omega) hE F₅ S₅)))
            · refine execsA (whileOut (L := L) (c := False) (f := ⟨hs, mu, env, ("j", .int ((j + 1 : Nat) : Int)) :: ("a", .str y) :: ("e", .str x) :: V0 xs ys a b i j, own, L0 a b ms (us ++ [y])⟩) (.inl hA) (fun q => q.elim) hst hL R.frames F₅ rfl k2 rfl k4 (by rw [List.length_map]; exact hjl') (by omega) (fun e s' U => ?_) rfl rfl)
              refine out1 hv hi (by omega) hm (by simp; omega) ?_ F₅ S₅ U
              rw [hE, List.drop_of_length_le hjl', mdiff_nil]
          | false =>
            have hgt' : decide (y.cps.toList < x.cps.toList) = false := hgt
            rw [hgt', if_neg Bool.false_ne_true]
            have hxy := ltS_tri hlt hgt
            have hD1 : D = mdiff (xs.drop (i + 1)) (ys.drop (j + 1)) := by
              rw [← hDx, mdiff_cons, if_neg (by rw [hlt]; decide), if_neg (by rw [hgt]; decide)]
            refine execsA (augA (f := ⟨hs, mu, env, ("a", .str y) :: ("e", .str x) :: V0 xs ys a b i j, own, L0 a b ms us⟩) F₃' rfl k3 fun s₄ F₄ S₄ => ?_)
            have F₄ : FS.Ok X ⟨hs, mu, env, ("i", .int ((i + 1 : Nat) : Int)) :: ("a", .str y) :: ("e", .str x) :: V0 xs ys a b i j, own, L0 a b ms us⟩ s₄ := F₄
            have S₄ : Step ⟨hs, mu, env, V0 xs ys a b i j, own, L0 a b ms us⟩ s ⟨hs, mu, env, ("i", .int ((i + 1 : Nat) : Int)) :: ("a", .str y) :: ("e", .str x) :: V0 xs ys a b i j, own, L0 a b ms us⟩ s₄ := S₃'.trans S₄
            have hv : Subv (V0 xs ys a b (i + 1) (j + 1)) (("j", .int ((j + 1 : Nat) : Int)) :: ("i", .int ((i + 1 : Nat) : Int)) :: ("a", .str y) :: ("e", .str x) :: V0 xs ys a b i j) := ⟨rfl, rfl, rfl, rfl, rfl, rfl, trivial⟩
            refine execsA (finA (f := ⟨hs, mu, env, ("i", .int ((i + 1 : Nat) : Int)) :: ("a", .str y) :: ("e", .str x) :: V0 xs ys a b i j, own, L0 a b ms us⟩) (L := L) hA hst hL R.frames F₄ rfl k1 rfl k3 rfl k7 rfl k2 rfl k4 rfl k8 (by decide) (by decide) (by omega) (by omega) (rises_ne hx hxi) (rises_ne hy hyj) rfl rfl rfl rfl rfl rfl (fun hl1 hl2 s₅ F₅ S₅ => ?_) (fun hl ev s₅ x₅ => ?_))
            · rw [List.length_map] at hl1 hl2
              exact wpAny_execs_nil (wpAny_execs_nil (wpAny_execs_nil (fin1 hv (by omega) (by omega) (by omega) (by omega) (by omega) (by rw [hD1]) F₅ (S₄.trans S₅))))
            · rw [List.length_map, List.length_map] at hl
              refine Exn.lift (f := ⟨hs, mu, env, V0 xs ys a b i j, own, L0 a b ms us⟩) (v0 := ("i", .int ((i + 1 : Nat) : Int)) :: ("a", .str y) :: ("e", .str x) :: V0 xs ys a b i j) (l0 := L0 a b ms us) x₅ S₄ fun vars led hp => ?_
              obtain ⟨rfl, rfl⟩ := hp
              refine ⟨i + 1, j + 1, ms, us, hv, rfl, by omega, by omega, by omega, by omega, ?_⟩
              rw [hD1]
              rcases hl with hl | hl
              · rw [List.drop_of_length_le hl, mdiff_nil']
              · rw [List.drop_of_length_le hl, mdiff_nil]
      · refine execsA (wpAny_Assign_Name (subOut (L := L) (c := False) (f := ⟨hs, mu, env, ("e", .str x) :: V0 xs ys a b i j, own, L0 a b ms us⟩) (.inl hA) (fun q => q.elim) F₁ rfl k2 rfl k4 (by rw [List.length_map]; exact hjl) (by omega) (fun e s' U => ?_) rfl rfl) rfl)
        refine out1 ⟨rfl, rfl, rfl, rfl, rfl, rfl, trivial⟩ hi hj hm hu ?_ F₁ S₁ U
        rw [← hD, List.drop_of_length_le hjl, mdiff_nil]
    · refine execsA (wpAny_Assign_Name (subOut (L := L) (c := False) (f := ⟨hs, mu, env, V0 xs ys a b i j, own, L0 a b ms us⟩) (.inl hA) (fun q => q.elim) F rfl k1 rfl k3 (by rw [List.length_map]; exact hil) (by omega) (fun e s' U => ?_) rfl rfl) rfl)
      refine out1 ⟨rfl, rfl, rfl, rfl, rfl, rfl, trivial⟩ hi hj hm hu ?_ F .refl U
      rw [← hD, List.drop_of_length_le hil, mdiff_nil']
  · rintro e vars led s₁ ⟨i', j', ms', us', hv, rfl, hi', hj', hm', hu', hE⟩ F₁ S₁
    have h1 : ms ++ D.1 = ms' ++ xs.drop i' := congrArg Prod.fst hE
    have h2 : us ++ D.2 = us' ++ ys.drop j' := congrArg Prod.snd hE
    have F₁' : FS.Ok X ⟨hs, mu, env, V0 xs ys a b i' j', own, L0 a b ms' us'⟩ s₁ := FS.Ok.forget (f := ⟨hs, mu, env, vars, own, L0 a b ms' us'⟩) F₁ hv.look
    refine execsA (extendA (f := ⟨hs, mu, env, V0 xs ys a b i' j', own, L0 a b ms' us'⟩) (a := a) (xs := ms'.map .str) (items := xs.map .str) (n := i') (led' := L0 a b (ms' ++ xs.drop i') us') F₁' rfl k5 ?_ rfl k1 rfl k3 (by simpa using hi') (by simp; omega) (fun s₂ F₂ S₂ => ?_) rfl rfl rfl e3 hint rfl)
    · rw [← List.map_drop, ← List.map_append]
      exact .there .here
    · refine execsA (extendA (f := ⟨hs, mu, env, V0 xs ys a b i' j', own, L0 a b (ms' ++ xs.drop i') us'⟩) (a := b) (xs := us'.map .str) (items := ys.map .str) (n := j') (led' := L0 a b (ms' ++ xs.drop i') (us' ++ ys.drop j')) F₂ rfl k6 ?_ rfl k2 rfl k4 (by simpa using hj') (by simp; omega) (fun s₃ F₃ S₃ => ?_) rfl rfl rfl e4 hint rfl)
      · rw [← List.map_drop, ← List.map_append]
        exact .here
      · refine execsA (wpAny_Break ?_)
        refine hB i' j' s₃ ?_ ?_
        · rw [h1, h2]; exact F₃
        · rw [h1, h2]
          have S₁' : Step ⟨hs, mu, env, V0 xs ys a b i j, own, L0 a b ms us⟩ s ⟨hs, mu, env, V0 xs ys a b i' j', own, L0 a b ms' us'⟩ s₁ := ⟨S₁.keep, S₁.mu, S₁.led, S₁.own, S₁.solid⟩
          exact (S₁'.trans S₂).trans S₃

theorem diff_spec (C : Cx X) {xs ys : List Str} (hx : risesS xs) (hy : risesS ys) (hxl : xs.length ≤ 100) (hyl : ys.length ≤ 100) :
    OpN X 2 [.lst (xs.map .str), .lst (ys.map .str)] (fun vs => call (.ref 104) vs) (.tup [.lst ((mdiff xs ys).1.map .str), .lst ((mdiff xs ys).2.map .str)]) := by
  refine fspecP C (ns := ["expected", "actual"]) (fun P => by with_unfolding_all rfl) (fun P => by kernel_rfl) (len2 rfl fun _ _ => rfl) rfl (by decide +kernel) (by decide +kernel) ?_ (by decide +kernel)
  intro hs mu L own T _ C
  show WS _ _ ⟨hs, mu, _, [("expected", .lst (xs.map .str)), ("actual", .lst (ys.map .str))], own, []⟩ _ _
  refine WS.assign2 (p := .int 0) Ev.cint (.loc (by with_unfolding_all rfl)) (.loc (by with_unfolding_all rfl)) ?_
  show WS _ _ ⟨hs, mu, _, [("j", .int 0), ("i", .int 0), ("expected", .lst (xs.map .str)), ("actual", .lst (ys.map .str))], own, []⟩ _ _
  refine wAssignX (EvX.list EvL.nil (Nat.zero_le _)) (.loc (by with_unfolding_all rfl)) ?_
  rintro p led ⟨a, rfl, rfl⟩
  refine wAssignX (EvX.list EvL.nil (Nat.zero_le _)) (.loc (by with_unfolding_all rfl)) ?_
  rintro p led ⟨b, rfl, rfl⟩
  refine wForget (V0 xs ys a b 0 0) ⟨rfl, rfl, rfl, rfl, rfl, rfl, trivial⟩ ?_
  refine diff_while rfl rfl ?_ ?_
  · intro i j ms us A s Q E hi hj hm hu R F hN hB
    exact diff_turn C hx hy hxl hyl rfl rfl (fun x hx => by simp only [List.mem_cons, List.not_mem_nil, or_false] at hx; rcases hx with rfl | rfl | rfl | rfl | rfl | rfl | rfl | rfl <;> with_unfolding_all rfl) (by with_unfolding_all rfl) rfl rfl rfl rfl rfl hi hj hm hu R F hN hB
  · intro i j
    refine WS.ret (p := .tup [.raw (.ref a), .raw (.ref b)]) (Ev.tup (EvL.cons (by walk_at "nm") (EvL.cons (by walk_at "nm") EvL.nil)) (by show 2 ≤ _; decide)) ⟨_, rfl, ?_⟩
    exact .tup (.cons (.led (.tail _ (.head _)) (resl_same _)) (.cons (.led (.head _) (resl_same _)) .nil))
end
section
variable {X : Wd} {k : Nat} {f : FS}
noncomputable def thingsC (ts : List PV) : List PV := ts.zipIdx.map fun q => .inst (.int (q.2 : Nat)) q.1
theorem things_len (ts : List PV) : (thingsC ts).length = ts.length := by simp [thingsC]
theorem things_get {ts : List PV} {i : Nat} {t : PV} (h : ts[i]? = some t) : (thingsC ts)[i]? = some (.inst (.int (i : Nat)) t) := by
  simp [thingsC, List.getElem?_zipIdx, h]
theorem pairsUp_get {ts : List PV} {i : Nat} {p : PV} (h : (pairsUp ts)[i]? = some p) : ∃ t, ts[i]? = some t ∧ p = .tup [.int (i : Nat), t] := by
  simp only [pairsUp, List.getElem?_map, List.getElem?_zipIdx] at h
  cases e : ts[i]? with
  | none => rw [e] at h; cases h
  | some t => rw [e] at h; simp at h; exact ⟨t, rfl, h.symm⟩
theorem things_spec (C : Cx X) {ts : List PV} (hp : ∀ t ∈ ts, plainV t = true) (hz : ts.length ≤ 1000) : OpN X 5 [.lst ts] (fun vs => call (.ref 144) vs) (.lst (thingsC ts)) := by
  refine fspec C (ns := ["tags"]) (fun P => by with_unfolding_all rfl) (fun P => by kernel_rfl) (len1 rfl fun _ => rfl) rfl (by decide +kernel) (by decide +kernel) ?_ (by decide +kernel)
  intro hs mu L own T _ X C
  show WS _ _ ⟨hs, mu, _, [("tags", .lst ts)], own, []⟩ _ _
  refine' wAssignX (EvX.list EvL.nil (by decide)) (.loc (by with_unfolding_all rfl)) ?_
  rintro p led ⟨a, rfl, rfl⟩
  refine wFor (items := pairsUp ts) (fun p => match p with | .tup [u, v] => [("tag", v), ("k", u)] | _ => []) (fun i V L' => Subv [("things", .raw (.ref a))] V ∧ L' = [(a, .lst ((thingsC ts).take i))]) (Src.enum C (by walk_at "nm") (by with_unfolding_all rfl)) ⟨⟨by with_unfolding_all rfl, trivial⟩, rfl⟩ ?_ ?_
  · rintro i p V L' O hp' - ⟨hV, rfl⟩
    obtain ⟨t, ht, rfl⟩ := pairsUp_get hp'
    obtain ⟨v1, -⟩ := hV
    refine ⟨Binds.pair (.loc (by with_unfolding_all rfl)) (.loc (by with_unfolding_all rfl)), ?_⟩
    show WS _ _ ⟨hs, mu, _, ("tag", t) :: ("k", .int (i : Nat)) :: V, O, [(a, .lst ((thingsC ts).take i))]⟩ _ _
    refine wForget [("things", .raw (.ref a)), ("tag", t), ("k", .int (i : Nat))] ⟨by with_unfolding_all exact v1, by with_unfolding_all rfl, by with_unfolding_all rfl, trivial⟩ ?_
    have hpl := hp t (List.mem_of_getElem? ht)
    refine @WS.thing X _ ⟨hs, mu, _, [("things", .raw (.ref a)), ("tag", t), ("k", .int (i : Nat))], O, [(a, .lst ((thingsC ts).take i))]⟩ C "thing" _ _ _ _ _ _ _ _ _ (i : Nat) t _ _ (by with_unfolding_all rfl) (by with_unfolding_all rfl) hpl (by walk_at "nm") (fun u own => by walk_at "nm") ?_ (by decide) (by intro _; rfl) (by rfl) (by rfl) (by rfl)
    show WS _ _ ⟨hs, mu, _, ("thing", .inst (.int (i : Nat)) t) :: [("things", .raw (.ref a)), ("tag", t), ("k", .int (i : Nat))], O, [(a, .lst ((thingsC ts).take i))]⟩ _ _
    have hlt := (List.getElem?_eq_some_iff.mp ht).1
    refine wAppend (p := .inst (.int (i : Nat)) t) (by walk_at "nm") (by walk_at "nm") .here (by rw [List.length_take]; exact Nat.le_trans (Nat.min_le_right _ _) (by rw [things_len]; exact Nat.le_trans hz (by decide))) (wNil ?_)
    refine ⟨⟨by with_unfolding_all rfl, trivial⟩, ?_⟩
    rw [List.take_succ, things_get ht]; rfl
  · rintro V L' ⟨⟨v1, -⟩, rfl⟩
    refine wForget [("things", .raw (.ref a))] ⟨by with_unfolding_all exact v1, trivial⟩ ?_
    refine wRet (by walk_at "nm") ⟨_, rfl, .led (.head _) ?_⟩
    rw [List.take_of_length_le (by simp [pairsUp, thingsC])]
    exact resl_same _
end
section
variable {X : Wd} {k : Nat} {f : FS}
theorem Grow.obj {s s' : Shared} (l : Live X s.heap) (G : Grow X s s') {b : Addr} {o : Obj} (e : s.heap.get? b = some o) (hc : o.cls ≠ .none) (hd : ∀ es ep, o.data ≠ .dict es ep) : s'.heap.get? b = some o :=
  G.keep b o (fun ht => by
    rcases ht with rfl | rfl | ht
    · obtain ⟨ps, hp, _⟩ := l.t33; rw [e] at hp; cases hp; exact hc rfl
    · obtain ⟨ps, hp, _⟩ := l.t85; rw [e] at hp; cases hp; exact hc rfl
    · obtain ⟨_, m, o', es, ep, e', d', _⟩ := l.fr ht
      rw [e] at e'; cases e'; exact hd _ _ d') e
theorem Grow.slice {s s' : Shared} (l : Live X s.heap) (G : Grow X s s') {b : Addr} {p q r : Option (Int × Tok)} (h : s.heap.IsSlice b p q r) : s'.heap.IsSlice b p q r := by
  obtain ⟨o, e, hc, hd⟩ := h
  exact ⟨o, G.obj l e (by rw [hc]; exact fun q => nomatch q) (by rw [hd]; exact fun _ _ q => nomatch q), hc, hd⟩
/-- cutting by a slice held in a name -/
theorem Ev.cut_o {ve ie : Expr} {pos : Pos} {x : Str} {sl : Addr} {l u : Option (Int × Tok)} (hv : Ev X k f ve (.str x)) (hi : Ev X k f ie (.raw (.ref sl))) (hsl : ∀ s, f.Ok X s → s.heap.IsSlice sl l u none) (hz : x.length ≤ sizeLine)
    (hs : ∀ o q, subscripted ie false o q = operate [o, q] (getItem o q) := by intro _ _; with_unfolding_all rfl) : Ev X k f (.Subscript ve ie pos) (.str (Txt.slice x (l.map (·.1)) (u.map (·.1)))) := by
  intro A s Q R F hQ
  refine Subscript_ (hv A s _ R F fun v s₁ G₁ F₁ h₁ => hi A s₁ _ R F₁ fun w s₂ G₂ F₂ h₂ => ?_)
  obtain ⟨t, rfl⟩ := h₁
  cases h₂
  refine tail_any (typeIs_str _ _ _) PySem.F.slot_str_getitem.lookup ?_ (hs _ _)
  refine wpAny_getItem_str_slice (hsl s₂ F₂) rfl ?_
  refine post_val_or_str ⟨Nat.le_trans (Txt.slice_le x _ _) hz, fun t' k => ?_⟩
  exact hQ _ _ ((G₁.trans G₂).trans (.toks F₂.live)) (F₂.toks _) ⟨_, rfl⟩
/-- is it a text -/
noncomputable def isStrV : PV → Bool
  | .str _ => true
  | _ => false
noncomputable def tagV : PV → Bool
  | .none | .int _ | .str _ => true
  | _ => false
theorem isi_op {p : PV} (hp : tagV p = true) : OpN X k [p, .raw (.type "str")] (fun vs => call (.builtin "isinstance") vs) (.bool (isStrV p)) := by
  intro A s mu vs Q R S hvs hQ
  obtain ⟨v, r, rfl, hv, w, r', rfl, hw, hr⟩ := hvs
  cases hr
  cases hw
  cases p with
  | none =>
    cases hv
    exact call_isinstance (isinstance_false_none (by decide +kernel) PySem.F.isi_meta_str PySem.F.sub_NoneType_str) (hQ _ _ (.toks S.live) rfl)
  | int i =>
    obtain ⟨t, rfl⟩ := hv
    exact call_isinstance (isinstance_false_int (by decide +kernel) PySem.F.isi_meta_str PySem.F.sub_int_str) (hQ _ _ (.toks S.live) rfl)
  | str x =>
    obtain ⟨t, rfl⟩ := hv
    exact call_isinstance (isinstance_true (Tx := "str") PySem.F.isi_meta_str PySem.F.sub_str_str) ⟨rfl, hQ _ _ (.refl S.live) rfl⟩
  | _ => cases hp
/-- a slice is made -/
theorem mro_slice : mroOf (.type "slice") = pure [.type "slice", .type "object"] := by rw [mroOf_type]; kernel_rfl
theorem called_slice : TypeCalled "slice" "slice.__new__" "object.__init__" :=
  ⟨by decide +kernel, by decide +kernel, ⟨_, _, mro_slice⟩, madeBy_type mro_slice (by rw [typeLookup_type, builtinLookup_eq_fast]; kernel_rfl) (by decide +kernel), by decide +kernel, by rw [isSubtype_type]; kernel_rfl,
    Slot.of (T := "slice") (name := "__init__") (owner := "object") (n := "__init__") (by rw [typeLookup_type, builtinLookup_eq_fast]; kernel_rfl) (by decide +kernel) (by decide +kernel) (by decide +kernel) (.inl (by decide +kernel)) (by rw [isSubtype_type]; kernel_rfl)⟩
noncomputable abbrev sliceObj (a b : Value) : Obj := { cls := .type "slice", data := .fields #[a, b, .none] }
theorem sub_slice : isSubtype (.type "slice") (.type "slice") = pure true := by rw [isSubtype_type]; kernel_rfl
theorem meta_slice : typeOf (.type "slice") = pure (.type "type") := by kernel_rfl
theorem meets_slice_new (a b : Value) : Meets (Builtin.«slice.__new__» ⟨[.type "slice", a, b], []⟩) (fun _ R s => R (.ok (.ret (.ref s.heap.objs.size))) { s with heap := s.heap.push (sliceObj a b) }) :=
  .of_wp fun prog w A R s h => by
    obtain ⟨hp, g, d, tk, os⟩ := s
    have f1 := sub_slice
    have f2 := meta_slice
    unfold Builtin.«slice.__new__»
    repeat (any_goals (first | assumption | wp_step))
    exact ⟨_, rfl, h⟩
theorem entry_slice_new : entryFor table "slice.__new__" = some Builtin.«slice.__new__» := entryFor_of_tree (by kernel_rfl)
theorem call_slice {A : Around} {s : Shared} {E : Value → Shared → Prop} {a b : Value} {Q : Value → Shared → Prop} (h : Q (.ref s.heap.objs.size) { s with heap := s.heap.push (sliceObj a b) }) : wpAny (Mo X) A (call (.type "slice") [a, b]) Q E s :=
  callType_new called_slice (by decide) (by kernel_rfl) (by kernel_rfl) (fun obj => PySem.F.args_object_init_3 obj _ _) entry_slice_new (meets_slice_new a b) ⟨⟨_, Heap.get?_push_size _ rfl, rfl⟩, h⟩
theorem EvX.slice (C : Cx X) {p1 p2 : Pos} {e1 e2 : Expr} {p q : PV} (hp : plainV p = true) (hq : plainV q = true) (hl : f.env.kindOf "slice" = some .globalImplicit) (h1 : Ev X k f e1 p) (h2 : Ev X k f e2 q)
    (hs1 : ∀ r, starEach (e1 :: r) f.env = (false, eval e1 f.env) :: starEach r f.env := by intro _; rfl) (hs2 : ∀ r, starEach (e2 :: r) f.env = (false, eval e2 f.env) :: starEach r f.env := by intro _; rfl)
    (he : eval (.Call (.Name "slice" p1) [e1, e2] [] p2) f.env = (do callWith p2 (← eval (.Name "slice" p1) f.env) [] (backTo p2 (starEach [e1, e2] f.env)) (backToKw p2 (keywordEach [] f.env))) := by rfl) :
    EvX X k f (.Call (.Name "slice" p1) [e1, e2] [] p2) (fun r led => ∃ sl v w, r = .raw (.ref sl) ∧ led = (sl, .obj (sliceObj v w)) :: f.led ∧ (∀ h mu, Rd h mu p v) ∧ ∀ h mu, Rd h mu q w) := by
  intro A s Q R F hQ
  have hf : Ev X k f (.Name "slice" p1) (.raw (.type "slice")) := Ev.blt C (fun P => by kernel_rfl) (by decide +kernel) hl
  refine EvCall hf Kept.ty (EvL.cons h1 (EvL.cons h2 EvL.nil (hs2 _)) (hs1 _)) R F (fun vs s₁ G₁ F₁ h₁ => ?_) ⟨hs1, hs2, trivial⟩ he
  obtain ⟨v, r, rfl, hv, w, r', rfl, hw, hr⟩ := h₁
  cases hr
  refine call_slice ?_
  have G₂ : Grow X s₁ { s₁ with heap := s₁.heap.push (sliceObj v w) } := .push F₁.live
  have e : (s₁.heap.push (sliceObj v w)).get? s₁.heap.objs.size = some (sliceObj v w) := Heap.get?_push_size _ rfl
  exact hQ _ _ _ _ ⟨_, v, w, rfl, rfl, fun h mu => hv.plain hp, fun h mu => hw.plain hq⟩ (F₁.take (mo := .obj (sliceObj v w)) G₂ (Nat.le_refl _) e ⟨_, e⟩) ((Step.grow F G₁).trans (Step.take F₁ G₂ (Nat.le_refl _))) rfl
end
section
variable {X : Wd} {k : Nat} {f : FS}
/-- statements that end in a return, whose end state is told -/
noncomputable def WR (X : Wd) (k : Nat) (f : FS) (st : List Stmt) (Φ : Shared → Value → Prop) : Prop :=
  ∀ A s (Q : Flow → Shared → Prop), Room X A k → f.Ok X s → (∀ v s', Grow X f.hs s' → Φ s' v → Q (.ret v) s') → wpAny (Mo X) A (execs st f.env) Q (fun _ _ => False) s
theorem WR.step {st : Stmt} {rest : List Stmt} {Φ} (Θ : List (Str × PV) → List (Addr × MO) → Prop) (h1 : WS X k f [st] (fun fl vars led => fl = .next ∧ Θ vars led)) (h2 : ∀ vars led, Θ vars led → WR X k (f.upd vars led) rest Φ) : WR X k f (st :: rest) Φ := by
  intro A s Q R F hQ
  refine wpAny_execs_cons (WS.exec h1 R F fun vars led s₁ hθ F₁ _ => by
  exact h2 vars led hθ A s₁ Q R F₁ hQ)
theorem execs_app (env : Env) : ∀ (a b : List Stmt), execs (a ++ b) env = (do match ← execs a env with | .next => execs b env | g => pure g)
  | [], b => rfl
  | st :: a, b => by
    rw [List.cons_append, execs_cons, execs_cons, bind_assoc]
    congr 1
    funext g
    cases g with
    | next => exact execs_app env a b
    | _ => rfl
theorem WR.ite {t : Expr} {body orelse rest : List Stmt} {pos : Pos} {b : Bool} {Φ} (ht : Tv X k f t b) (h1 : b = true → WR X k f (body ++ rest) Φ) (h2 : b = false → WR X k f (orelse ++ rest) Φ) : WR X k f (.If t body orelse pos :: rest) Φ := by
  intro A s Q R F hQ
  have e : execs (.If t body orelse pos :: rest) f.env = (do standAt pos; let c ← isTrue t f.env (eval t f.env); execs ((if c = true then body else orelse) ++ rest) f.env) := by
    rw [execs_cons, exec_If, bind_assoc]
    congr 1
    funext _
    rw [bind_assoc]
    congr 1
    funext c
    rw [execs_app]
    cases c <;> rfl
  rw [e]
  refine wpAny_bind (wpAny_standAt (wpAny_bind (ht A s _ R F fun s₁ G₁ F₁ => ?_)))
  cases b with
  | true => rw [if_pos rfl]; exact h1 rfl A s₁ Q R F₁ hQ
  | false => rw [if_neg Bool.false_ne_true]; exact h2 rfl A s₁ Q R F₁ hQ
end
section
variable {X : Wd} {k : Nat} {f : FS}
/-- a fact kept out of the arithmetic's sight -/
noncomputable def Keep (p : Prop) : Prop := p
/-- what is read of a pattern: (barred, sign) -/
noncomputable abbrev Item := Bool × Nat
noncomputable def itemV (p : Item) : PV := .tup [.bool p.1, .str ⟨#[p.2]⟩]
noncomputable def itemsV (l : List Item) : PV := .lst (l.map itemV)
noncomputable def fitsC (its : List Item) (x : List Nat) : Bool := (its.zip x).all fun p => (p.2 == p.1.2) != p.1.1
theorem str1_eq (a b : Nat) : ((⟨#[a]⟩ : Str) == ⟨#[b]⟩) = (a == b) := by
  by_cases h : a = b
  · subst h; simp
  · have : (⟨#[a]⟩ : Str) ≠ ⟨#[b]⟩ := fun q => h (by injection q with q; simpa using q)
    rw [beq_eq_false_iff_ne.mpr this, beq_eq_false_iff_ne.mpr h]
theorem fits_spec (C : Cx X) (its : List Item) (x : Str) : OpN X 1 [itemsV its, .str x] (fun vs => call (.ref 130) vs) (.bool (fitsC its x.cps.toList)) := by
  refine fspec C (ns := ["items", "signs"]) (fun P => by with_unfolding_all rfl) (fun P => by kernel_rfl) (len2 rfl fun _ _ => rfl) rfl (by decide +kernel) (by decide +kernel) ?_ (by decide +kernel)
  intro hs mu L own T _ X C
  show WS _ _ ⟨hs, mu, _, [("items", itemsV its), ("signs", .str x)], own, []⟩ _ _
  refine wFor (items := pairUp (its.map itemV) (chars x)) (fun p => match p with | .tup [a, b] => [("sign", b), ("item", a)] | _ => []) (fun i _ _ => ((its.zip x.cps.toList).take i).all (fun p => (p.2 == p.1.2) != p.1.1) = true) (Src.zipS C (by walk_at "nm") (by walk_at "nm") (by with_unfolding_all rfl)) rfl ?_ ?_
  · intro i p V L' O hp hO hJ
    have hz : pairUp (its.map itemV) (chars x) = (its.zip x.cps.toList).map fun q => .tup [itemV q.1, .str ⟨#[q.2]⟩] := by
      unfold pairUp chars
      rw [List.zip_map, List.map_map]; rfl
    rw [hz, List.getElem?_map, Option.map_eq_some_iff] at hp
    obtain ⟨⟨it, c⟩, hq, rfl⟩ := hp
    refine ⟨Binds.pair (.loc (by with_unfolding_all rfl)) (.loc (by with_unfolding_all rfl)), ?_⟩
    show WS _ _ ⟨hs, mu, _, ("sign", .str ⟨#[c]⟩) :: ("item", itemV it) :: V, O, L'⟩ _ _
    refine wIte (b := ((c == it.2) == it.1)) ?_ (fun h1 => ?_) (fun h1 => ?_)
    · refine' Tv.cmp (p := .bool (c == it.2)) (q := .bool it.1) ?_ ?_ eq_bb
      · refine Ev.of (Ev.cmp (p := .str ⟨#[c]⟩) (q := .str ⟨#[it.2]⟩) (by walk_at "nm") ?_ eq_ss) (by rw [str1_eq])
        exact Ev.sub_t (xs := [.bool it.1, .str ⟨#[it.2]⟩]) (i := 1) (j := 1) (by walk_at "nm") (by walk_at "ev") rfl rfl (by decide) (by decide)
      · exact Ev.sub_t (xs := [.bool it.1, .str ⟨#[it.2]⟩]) (i := 0) (j := 0) (by walk_at "nm") (by walk_at "ev") rfl rfl (by decide) (by decide)
    · refine wRet (p := .bool (fitsC its x.cps.toList)) (Ev.of (by walk_at "ev") ?_) ⟨_, rfl, .same⟩
      congr 1
      symm
      exact List.all_eq_false.mpr ⟨(it, c), List.mem_of_getElem? hq, by simpa using h1⟩
    · refine wNil ?_
      refine wNil ?_
      show ((its.zip x.cps.toList).take (i + 1)).all _ = true
      rw [List.take_succ, hq, List.all_append, hJ]
      simpa using h1
  · intro V L' hJ
    refine wRet (p := .bool (fitsC its x.cps.toList)) (Ev.of (by walk_at "ev") ?_) ⟨_, rfl, .same⟩
    congr 1
    symm
    have hlen : (pairUp (its.map itemV) (chars x)).length = min its.length x.cps.toList.length := by simp [pairUp, chars]
    rw [hlen] at hJ
    rw [List.take_of_length_le (by simp)] at hJ
    exact hJ
end
section
variable {X : Wd} {k : Nat} {f : FS}
/-- the patterns' parts -/
noncomputable def partsV (ps : List (List Item)) : PV := .lst (ps.map itemsV)
noncomputable def takesC (ps : List (List Item)) (x : List Nat) : Bool :=
  if ps.length = 1 then x.length == (ps.headD []).length && fitsC (ps.headD []) x
  else decide ((ps.headD []).length + (ps.getLastD []).length ≤ x.length) && fitsC (ps.headD []) x && fitsC (ps.getLastD []) (x.drop (x.length - (ps.getLastD []).length))
theorem Ev.lenS (C : Cx X) {e : Expr} {p1 p2 : Pos} {x : Str} (he : Ev X k f e (.str x)) (hz : x.length ≤ 1000000) (hl : f.env.kindOf "len" = some .globalImplicit) (hs : ∀ r, starEach (e :: r) f.env = (false, eval e f.env) :: starEach r f.env := by intro _; rfl) : Ev X k f (.Call (.Name "len" p1) [e] [] p2) (.int x.length) :=
  Ev.call (v := .builtin "len") (Ev.blt C (fun P => by kernel_rfl) (by decide +kernel) hl) Kept.bi (EvL.cons he EvL.nil (hs _)) (len_s (by omega)) ⟨hs, trivial⟩
theorem takes_spec (C : Cx X) (ps : List (List Item)) (x : Str) (hp : ps ≠ []) (hpl : ps.length ≤ 1000) (hl : ∀ p ∈ ps, p.length ≤ 1000) (hx : x.length ≤ 1000) : OpN X 2 [partsV ps, .str x] (fun vs => call (.ref 137) vs) (.bool (takesC ps x.cps.toList)) := by
  refine fspec C (ns := ["parts", "name"]) (fun P => by with_unfolding_all rfl) (fun P => by kernel_rfl) (len2 rfl fun _ _ => rfl) rfl (by decide +kernel) (by decide +kernel) ?_ (by decide +kernel)
  intro hs mu L own T _ X C
  show WS _ _ ⟨hs, mu, _, [("parts", partsV ps), ("name", .str x)], own, []⟩ _ _
  have e0 : ps.length ≠ 0 := fun h => hp (List.length_eq_zero_iff.mp h)
  have g0 : (ps.map itemsV)[0]? = some (itemsV (ps.headD [])) := by cases ps with
    | nil => exact absurd rfl hp
    | cons p ps => rfl
  have g1 : (ps.map itemsV)[ps.length - 1]? = some (itemsV (ps.getLastD [])) := by
    rw [List.getElem?_map, ← List.getLast?_eq_getElem?, List.getLastD_eq_getLast?]
    cases h : ps.getLast? with
    | none => exact absurd (List.getLast?_eq_none_iff.mp h) hp
    | some y => rfl
  have m0 : (ps.headD []).length ≤ 1000 := by cases ps with
    | nil => exact absurd rfl hp
    | cons p ps => exact hl p (.head _)
  have m1 : (ps.getLastD []).length ≤ 1000 := by
    rw [List.getLastD_eq_getLast?]
    cases h : ps.getLast? with
    | none => exact absurd (List.getLast?_eq_none_iff.mp h) hp
    | some y => exact hl y (List.mem_of_getLast? h)
  refine WS.assignSw (names := ["front", "last"]) (EvX.tupX (EvLX.of (ps := [itemsV (ps.headD []), itemsV (ps.getLastD [])]) ?_) (fun qs led h => by rw [h.1]; show 2 ≤ _; decide)) rfl (fun qs led h => by rw [h.1]; rfl) (fun qs led h => ?_)
  · refine EvL.cons (Ev.sub_l (i := 0) (j := 0) (xs := ps.map itemsV) (by walk_at "nm") Lst.fz (by walk_at "ev") ?_ g0 (by decide) (by decide)) (EvL.cons (Ev.sub_l (i := -1) (j := ps.length - 1) (xs := ps.map itemsV) (by walk_at "nm") Lst.fz (Ev.una (by walk_at "ev") neg_i) ?_ g1 (by decide) (by decide)) EvL.nil)
    · unfold seqIndex?
      simp
      omega
    · unfold seqIndex?
      simp
      omega
  obtain ⟨rfl, rfl⟩ := h
  show WS _ _ ⟨hs, mu, _, [("front", itemsV (ps.headD [])), ("last", itemsV (ps.getLastD [])), ("parts", partsV ps), ("name", .str x)], own, []⟩ _ _
  refine wIte (b := decide (ps.length = 1)) ?_ (fun h1 => ?_) (fun h1 => ?_)
  · refine Tv.of (Tv.cmp (p := .int ps.length) (q := .int 1) (Ev.of (Ev.len C (xs := ps.map itemsV) (by walk_at "nm") Lst.fz (by rw [List.length_map]; omega) (by with_unfolding_all rfl)) (by rw [List.length_map])) (by walk_at "ev") eq_ii) ?_
    by_cases h : ps.length = 1 <;> simp [h]
    omega
  · refine wRet (p := .bool (takesC ps x.cps.toList)) ?_ ⟨_, rfl, .same⟩
    refine Ev.of (Ev.and_b (b := (x.length == (ps.headD []).length)) (q := .bool (fitsC (ps.headD []) x.cps.toList)) (Ev.of (Ev.cmp (p := .int x.length) (q := .int (ps.headD []).length) (Ev.lenS C (by walk_at "nm") (by omega) (by with_unfolding_all rfl)) (Ev.of (Ev.len C (xs := (ps.headD []).map itemV) (by walk_at "nm") Lst.fz (by rw [List.length_map]; omega) (by with_unfolding_all rfl)) (by rw [List.length_map])) eq_ii) (by congr 1; rw [Bool.eq_iff_iff, beq_iff_eq, beq_iff_eq]; omega)) (fun _ => Ev.bool_1 ?_)) ?_
    · exact Ev.call (v := .ref 130) (Ev.glo (by assumption) (fun P => by with_unfolding_all rfl) (by with_unfolding_all rfl)) (Kept.fn C (fun P => by kernel_rfl)) (EvL.cons (by walk_at "nm") (EvL.cons (by walk_at "nm") EvL.nil)) ((fits_spec C _ _).up (by omega))
    · unfold takesC
      rw [if_pos (of_decide_eq_true h1)]
      have : x.cps.toList.length = x.length := by simp [Str.length]
      rw [this]
      cases (x.length == (ps.headD []).length) <;> rfl
  refine wNil ?_
  have h1 : ps.length ≠ 1 := of_decide_eq_false h1
  refine wAssign (x := "rest") (p := .int ((x.length : Int) - (ps.getLastD []).length)) (Ev.bin (Ev.lenS C (by walk_at "nm") (by omega) (by with_unfolding_all rfl)) (Ev.of (Ev.len C (xs := (ps.getLastD []).map itemV) (by walk_at "nm") Lst.fz (by rw [List.length_map]; omega) (by with_unfolding_all rfl)) (by rw [List.length_map])) sub_ii) (.loc (by with_unfolding_all rfl)) ?_
  refine wRet (p := .bool (takesC ps x.cps.toList)) ?_ ⟨_, rfl, .same⟩
  refine Ev.of (Ev.and_b (b := decide (((ps.headD []).length : Int) ≤ (x.length : Int) - (ps.getLastD []).length)) (q := .bool (fitsC (ps.headD []) x.cps.toList && fitsC (ps.getLastD []) (x.cps.toList.drop (x.length - (ps.getLastD []).length))))
    (Ev.cmp (by walk_at "nm") (Ev.of (Ev.len C (xs := (ps.headD []).map itemV) (by walk_at "nm") Lst.fz (by rw [List.length_map]; omega) (by with_unfolding_all rfl)) (by rw [List.length_map])) ge_ii)
    (fun hb => Ev.of (Ev.and_b (b := fitsC (ps.headD []) x.cps.toList) (q := .bool (fitsC (ps.getLastD []) (x.cps.toList.drop (x.length - (ps.getLastD []).length)))) ?_ (fun _ => Ev.bool_1 ?_)) ?_)) ?_
  · exact Ev.call (v := .ref 130) (Ev.glo (by assumption) (fun P => by with_unfolding_all rfl) (by with_unfolding_all rfl)) (Kept.fn C (fun P => by kernel_rfl)) (EvL.cons (by walk_at "nm") (EvL.cons (by walk_at "nm") EvL.nil)) ((fits_spec C _ _).up (by omega))
  · have hb := of_decide_eq_true hb
    have e : ((x.length : Int) - (ps.getLastD []).length) = ((x.length - (ps.getLastD []).length : Nat) : Int) := by omega
    refine Ev.call (v := .ref 130) (ps := [itemsV (ps.getLastD []), .str (Txt.slice x (some ((x.length - (ps.getLastD []).length : Nat) : Int)) none)]) (Ev.glo (by assumption) (fun P => by with_unfolding_all rfl) (by with_unfolding_all rfl)) (Kept.fn C (fun P => by kernel_rfl)) (EvL.cons (by walk_at "nm") (EvL.cons (Ev.cut_s (by walk_at "nm") (EvP.yes (Ev.of (by walk_at "nm") (by rw [e]))) EvP.no (Nat.le_trans hx (by decide))) EvL.nil)) (((fits_spec C _ _).up (by omega)).of ?_)
    rw [slice_drop x _ (by omega)]
  · cases fitsC (ps.headD []) x.cps.toList <;> rfl
  · unfold takesC
    rw [if_neg h1]
    have e1 : x.cps.toList.length = x.length := by simp [Str.length]
    have e2 : decide (((ps.headD []).length : Int) ≤ (x.length : Int) - (ps.getLastD []).length) = decide ((ps.headD []).length + (ps.getLastD []).length ≤ x.length) := by
      congr 1; rw [eq_iff_iff]; omega
    rw [e1, e2]
    cases decide ((ps.headD []).length + (ps.getLastD []).length ≤ x.length) <;> simp
end
section
variable {X : Wd} {k : Nat} {f : FS}
noncomputable def driveP : Nat → Sre.M → Option Sre.M
  | 0, _ => none
  | n + 1, m => if (m.runFor 4).outcome.isSome then some (m.runFor 4) else driveP n (m.runFor 4)
theorem drive_wp {A : Around} {E : Value → Shared → Prop} {Q : Sre.M → Shared → Prop} {s : Shared} {mf : Sre.M} : ∀ (j n : Nat) (m : Sre.M), j ≤ n → driveP j m = some mf → Q mf s → wpAny (Mo X) A (Builtin.Re.reDrive n m) Q E s
  | 0, _, _, _, h, _ => by cases h
  | j + 1, 0, _, hn, _, _ => by omega
  | j + 1, n + 1, m, hn, h, hq => by
    show wpAny _ _ (if (m.runFor 4).outcome.isSome = true then pure (m.runFor 4) else do rule "sre.turn"; Builtin.Re.reDrive n (m.runFor 4)) _ _ _
    unfold driveP at h
    by_cases ho : (m.runFor 4).outcome.isSome = true
    · rw [if_pos ho] at h ⊢
      cases h
      exact wpAny_pure hq
    · rw [if_neg ho] at h ⊢
      exact wpAny_bind (wpAny_rule (drive_wp j n _ (by omega) h hq))
theorem rules_wp {A : Around} {E : Value → Shared → Prop} {Q : PUnit → Shared → Prop} {s : Shared} {c : Nat → Bool} {g : Nat → String} (h : Q PUnit.unit s) : ∀ l : List Nat, wpAny (Mo X) A (forIn l PUnit.unit fun i _ => if c i = true then (do rule (g i); pure (ForInStep.yield PUnit.unit)) else pure (ForInStep.yield PUnit.unit)) Q E s
  | [] => by rw [List.forIn_nil]; exact wpAny_pure h
  | i :: l => by
    rw [List.forIn_cons]
    refine wpAny_bind ?_
    refine wpAny_ite_split (fun _ => wpAny_bind (wpAny_rule (wpAny_pure ?_))) (fun _ => wpAny_pure ?_)
    · exact rules_wp h l
    · exact rules_wp h l
noncomputable def subFails (code text : Array Nat) (groups : Nat) : Bool := match driveP 100 (Sre.forSearch code text groups 0 text.size false) with
  | some m => (match m.outcome with | some .failed => true | _ => false)
  | none => false
theorem next_none {A : Around} {s : Shared} {E : Value → Shared → Prop} {t : Builtin.Re.ReTarget} {Q : Option Sre.M → Shared → Prop} (hl : t.lim = t.text.size) (hf : subFails t.code t.text t.groups = true) (h : Q none s) : wpAny (Mo X) A (Builtin.Re.reNextFound t 0 false) Q E s := by
  unfold Builtin.Re.reNextFound Builtin.Re.reRunToEnd
  rw [hl]
  unfold subFails at hf
  cases hd : driveP 100 (Sre.forSearch t.code t.text t.groups 0 t.text.size false) with
  | none => rw [hd] at hf; cases hf
  | some mf =>
    rw [hd] at hf
    have ho : mf.outcome = some .failed := by
      revert hf
      dsimp only
      split
      · intro _; assumption
      · intro q; cases q
    refine wpAny_bind (drive_wp 100 (2 ^ 64) _ (by decide) hd ?_)
    refine wpAny_bind (rules_wp ?_ _)
    rw [ho]
    exact wpAny_pure h
noncomputable def codeP : Array Nat := #[14, 14, 4, 1, 1, 9, 0, 64, 0, 1342177280, 0, 0, 0, 0, 0, 17, 0, 13, 11, 9, 0, 64, 0, 1342177280, 0, 0, 0, 0, 0, 17, 1, 1]
theorem fails_neg : subFails codeP #[33, 123] 1 = true := by decide +kernel
theorem fails_star : subFails codeP #[42] 1 = true := by decide +kernel
theorem fails_quest : subFails codeP #[63] 1 = true := by decide +kernel
theorem fails_open : subFails codeP #[91] 1 = true := by decide +kernel
theorem get64 : ∃ o63 t1 t2 vs n, (∀ P, (KF P).lookup 64 = some { cls := .type "re.Pattern", data := .fields #[.str (Str.ofString "([&~|])") t1, .int 32 t2, .int 1 0, .none, .none, .ref 63, .int 0 0] }) ∧ (∀ P, (KF P).lookup 63 = some o63) ∧ o63.data = .seq vs n ∧ o63.cls = .type "tuple" ∧ (vs.map Builtin.Re.reRawOf).map (·.toNat) = codeP := by
  refine ⟨_, _, _, _, _, fun P => by with_unfolding_all rfl, fun P => by with_unfolding_all rfl, rfl, rfl, ?_⟩
  decide +kernel
theorem slot_pat_sub : Slot "re.Pattern" "sub" "re.Pattern.sub" :=
  .of (owner := "re.Pattern") (n := "sub") (by rw [typeLookup_type, builtinLookup_eq_fast]; kernel_rfl) (by decide +kernel) (by decide +kernel) (by decide +kernel)
    (by first | exact .inl (by decide +kernel) | exact .inr (by decide +kernel)) (by rw [isSubtype_type]; kernel_rfl)
theorem type_pat_sub : typeOf (.builtin "re.Pattern.sub") = pure (.type "method_descriptor") := by show builtinType _ = _; rw [builtinType_eq_fast]; kernel_rfl
theorem entry_pat_sub : entryFor table "re.Pattern.sub" = some Builtin.«re.Pattern.sub» := entryFor_of_tree (by kernel_rfl)
theorem entry_pat_loop : entryFor table "re.Pattern.sub.loop" = some Builtin.«re.Pattern.sub.loop» := entryFor_of_tree (by kernel_rfl)
theorem args_pat_sub (a b c : Value) : argsOk "re.Pattern.sub" ⟨[a, b, c], []⟩ := by unfold argsOk; kernel_rfl
theorem plain_pat : PlainAttrs "re.Pattern" :=
  ⟨⟨"object.__getattribute__", by rw [typeLookup_type, builtinLookup_eq_fast]; kernel_rfl, by decide +kernel⟩, by rw [typeLookup_type, builtinLookup_eq_fast]; kernel_rfl⟩
theorem func_call : ∃ id, typeLookup (.type "function") "__call__" = pure (some (.builtin id)) := ⟨"function.__call__", by rw [typeLookup_type, builtinLookup_eq_fast]; kernel_rfl⟩
theorem whole_target (C : Cx X) {A : Around} {s : Shared} {E : Value → Shared → Prop} {x : Str} {t : Tok} {Q : Builtin.Re.ReTarget → Shared → Prop} (hl : Live X s.heap)
    (h : Q ⟨.ref 64, .str x t, codeP, x.cps, 0, 1, 0, x.cps.size⟩ s) : wpAny (Mo X) A (Builtin.Re.reWholeTarget (.ref 64) (.str x t)) Q E s := by
  obtain ⟨o63, t1, t2, vs, n, g64, g63, d63, c63, e63⟩ := get64
  have h64 := hl.old _ _ (C.K _ _ (g64 X.w.params))
  have h63 := hl.old _ _ (C.K _ _ (g63 X.w.params))
  unfold Builtin.Re.reWholeTarget
  unfold fieldsOf
  refine wpAny_bind (wpAny_bind (wpAny_load h64 ?_))
  dsimp only
  refine wpAny_pure ?_
  refine wpAny_bind (m := Builtin.Re.reTextOf _) (wpAny_of_eq (a := (x.cps, 0)) (by first | rfl | kernel_rfl) ?_)
  dsimp only
  refine wpAny_ite_split (fun q => by have q : false = true := q; cases q) (fun _ => ?_)
  refine wpAny_ite_split (fun q => by have q : false = true := q; cases q) (fun _ => ?_)
  refine wpAny_bind (m := Builtin.Re.reNoCollectionInside _ _) (wpAny_of_eq (a := ()) (by first | rfl | kernel_rfl) ?_)
  refine wpAny_bind ?_
  unfold Builtin.Re.reRawItems
  refine wpAny_bind (wpAny_seqItems h63 d63 (wpAny_pure ?_))
  refine wpAny_pure ?_
  dsimp only [Option.getD_some]
  rw [e63]
  exact h
theorem sub_call (C : Cx X) {A : Around} {s : Shared} {E : Value → Shared → Prop} {x : Str} {t : Tok} {lam : Addr} {Q : Value → Shared → Prop} (hl : Live X s.heap) (hT : s.TypeIs (.ref lam) "function") (hx : 0 < x.cps.size) (hz : x.cps.size ≤ 1000) (hf : subFails codeP x.cps 1 = true)
    (h : ∀ h' t' tk, (∀ b o, s.heap.get? b = some o → h'.get? b = some o) → s.heap.objs.size ≤ h'.objs.size → Q (.str x t') { s with heap := h', toks := tk }) : wpAny (Mo X) A (call (.builtin "re.Pattern.sub") [.ref 64, .ref lam, .str x t]) Q E s := by
  obtain ⟨o63, t1, t2, vs, n, g64, g63, d63, c63, e63⟩ := get64
  have h64 := hl.old _ _ (C.K _ _ (g64 X.w.params))
  obtain ⟨idc, hcall⟩ := func_call
  have hT64 : s.TypeIs (.ref 64) "re.Pattern" := ⟨_, h64, rfl⟩
  refine wpAny_call (codeAny_call_builtin slot_pat_sub.plain entry_pat_sub (slot_pat_sub.check _ _ _ _ _ _ _ _ hT64 (args_pat_sub _ _ _) ?_))
  unfold Builtin.«re.Pattern.sub» Builtin.Re.reSubstitute
  dsimp only
  refine wpAny_bind (m := Builtin.Re.reNamed _ _ _ _ _ _) (wpAny_of_eq (a := [some (.ref lam), some (.str x t), none]) (by first | rfl | kernel_rfl) ?_)
  dsimp only
  refine wpAny_bind (wpAny_pure ?_)
  refine wpAny_bind (wpAny_specialOf hT hcall ?_)
  refine wpAny_ite_split (fun _ => ?_) (fun q => absurd rfl q)
  refine wpAny_bind (wpAny_pure ?_)
  refine wpAny_ite_split (fun _ => ?_) (fun q => absurd rfl q)
  refine wpAny_bind (wpAny_pure ?_)
  refine wpAny_bind (wpAny_holding (whole_target C hl ?_))
  refine wpAny_ite_split (fun _ => ?_) (fun q => absurd rfl q)
  refine wpAny_bind ?_
  unfold Builtin.Re.reNotHeld
  refine wpAny_bind (wpAny_isInstance (T := "str") (b := false) (typeIs_str _ _ _) PySem.F.sub_str_bytearray ?_)
  rw [if_neg Bool.false_ne_true]
  refine wpAny_pure ?_
  refine wpAny_bind (wpAny_newObj_type ?_)
  have e0 : (s.heap.push { cls := .type "list", data := .seq ([] : List Value).toArray }).get? s.heap.objs.size = some { cls := .type "list", data := .seq #[] } := Heap.get?_push_size _ rfl
  have l1 : Live X (s.heap.push { cls := .type "list", data := .seq ([] : List Value).toArray }) := hl.push _
  refine wpAny_pure ⟨Code.quiet_builtin _ (by decide +kernel), codeAny_builtin entry_pat_loop ?_⟩
  unfold Builtin.«re.Pattern.sub.loop»
  dsimp only [rawInt]
  refine wpAny_bind (whole_target C l1 ?_)
  refine wpAny_ite_split (fun q => by have q : false = true := q; cases q) (fun _ => ?_)
  refine wpAny_bind ?_
  refine wpAny_ite_split (fun q => by have q : false = true := q; cases q) (fun _ => ?_)
  refine next_none rfl hf ?_
  dsimp only
  have hE : ((⟨x.cps.extract 0 x.cps.size⟩ : Str)) = x := by simp
  refine wpAny_ite_split (fun _ => ?_) (fun q => absurd hx q)
  unfold Builtin.Re.reSlice
  refine wpAny_bind (wpAny_ite_split (fun _ => ?_) (fun q => absurd rfl q))
  rw [show Int.toNat 0 = 0 from rfl, hE]
  refine wpAny_mkStr ?_ (show x.cps.size ≤ sizeLine from Nat.le_trans hz (by decide))
  refine wpAny_bind (wpAny_updateSeq e0 rfl ?_)
  have e1 := Heap.get?_update_self (Obj.mapSeq fun y => y.push (.str x s.toks)) e0 rfl
  obtain ⟨n', hd'⟩ := Obj.data_mapSeq (o := { cls := .type "list", data := .seq #[] }) rfl (fun y => y.push (.str x s.toks))
  have hc' : (Obj.mapSeq (fun y => y.push (.str x s.toks)) { cls := .type "list", data := .seq #[] }).cls = .type "list" := (Obj.cls_mapSeq ..)
  refine wpAny_bind (wpAny_ite_split (fun _ => ?_) (fun q => absurd rfl q))
  refine wpAny_mkStr ?_ (by show Array.size _ ≤ sizeLine; simp)
  refine wpAny_bind (wpAny_seqItems e1 hd' ?_)
  refine wpAny_ite_split (fun q => by have q : false = true := q; cases q) (fun _ => ?_)
  refine wpAny_bind ?_
  show wpAny _ _ (call (.builtin "str.join") [_, _]) _ _ _
  refine join_list (ys := [x]) ⟨_, e1, hc', n', hd'⟩ (.cons x _ .nil) ?_ fun t' kk => ?_
  · show [x.cps.size].sum + 1 * Array.size _ ≤ _
    simp
    omega
  · refine wpAny_ite_split (fun q => by have q : false = true := q; cases q) (fun _ => wpAny_pure ?_)
    refine h _ t' kk (fun b o e => ?_) ?_
    · exact ((Heap.SameBut.update ..).2 b (Nat.ne_of_lt (Heap.lt_size e))).trans (Heap.get?_push_of_some _ e)
    · show _ ≤ (Heap.update _ _ _).objs.size
      rw [(Heap.SameBut.update ..).1, Heap.size_push]
      exact Nat.le_succ _
end
section
variable {X : Wd} {k : Nat} {f : FS}
theorem code_snoc {pos q : Pos} {c v : Value} (l : List Value) (h : TriplesOk l) (e : codeAmong q (l ++ [rawInt pos.line, rawInt pos.col, c]) = some v) : codeAmong q l = some v ∨ v = c := by
  fun_induction TriplesOk l with
  | case1 =>
    simp only [List.nil_append, rawInt, codeAmong] at e
    split at e
    · cases e; exact .inr rfl
    · cases e
  | case2 a t b u x rest ih =>
    simp only [List.cons_append, codeAmong] at e ⊢
    split at e
    · rename_i hc; rw [if_pos hc]; exact .inl e
    · rename_i hc; rw [if_neg hc]; exact ih h e
  | case3 l h1 h2 => exact h.elim
theorem builtinsAt (C : Cx X) {h : Heap} (hl : Live X h) {P : Addr} (hP : X.H.get? P = none) : h.BuiltinsAt X.mg P := by
  obtain ⟨bm, ob, e1, e2, e3, e4, e5, e6⟩ := C.bmain
  refine ⟨bm, ob, e1, e2, fun q => ?_, fun q => ?_, hl.old _ _ e3, e4, e5, e6⟩
  · obtain ⟨o, es, ep, e, hd, _⟩ := C.g
    rw [q, e] at e3; cases e3; rw [hd] at e6; cases e6
  · rw [q, hP] at e3; cases e3
theorem live_tab85 (C : Cx X) {h h' : Heap} {ps : Array Value} {pos : Pos} {c' : Addr} (l : Live X h) (hx : Heap.ExtBut 85 h h') (hz : h.objs.size ≤ h'.objs.size) (hP : h.get? 85 = some (tabObj ps)) (ht : TriplesOk ps.toList) (ho : ∀ q cv, codeAmong q ps.toList = some cv → ∃ c, cv = .ref c)
    (e : h'.get? 85 = some (tabObj (ps ++ #[rawInt pos.line, rawInt pos.col, .ref c']))) : Live X h' where
  old := fun b o q => hx b o (fun z => by rw [z, C.n85] at q; cases q) (l.old b o q)
  t33 := by
    obtain ⟨ps', e', t', c⟩ := l.t33
    refine ⟨ps', hx 33 _ (by decide) e', t', fun q cv z => ?_⟩
    obtain ⟨cc, o, vs, tt, e1, e2, e3, e4⟩ := c q cv z
    refine ⟨cc, o, vs, tt, e1, hx cc o (fun w => ?_) e2, e3, e4⟩
    rw [w, hP] at e2
    cases e2
    cases e3
    -- a table holds numbers there
    have : ∀ l : List Value, TriplesOk l → ∀ q t, l[1]? ≠ some (.str q t) := fun l hl q t => by
      fun_induction TriplesOk l with
      | case1 => simp
      | case2 a t' b u x rest ih => simp
      | case3 l h1 h2 => exact hl.elim
    exact this ps.toList ht _ _ (by simpa using e4)
  t85 := ⟨_, e, by simpa using TriplesOk_snoc pos.line pos.col (.ref c') ps.toList ht, fun q cv z => by
    rcases code_snoc (pos := pos) (c := .ref c') ps.toList ht (by simpa using z) with h | h
    · exact ho q cv h
    · exact ⟨c', h⟩⟩
  low := Nat.le_trans l.low hz
  frs := fun env he => by
    obtain ⟨q1, L, m, q2, q3, q4⟩ := l.frs env he
    exact ⟨q1, L, m, q2, q3, q4.at' fun o e => hx L o (fun q => tab_not_ns l q4 (.inr q)) e⟩

theorem eval_lambda (C : Cx X) {params : Arguments} {body : Expr} {scope : Scope} {pos : Pos} {clos : List (Str × Addr)} (hcode : f.env.code = .ref 89) (hclos : closureFor scope f.env = pure clos) (hdef : defaultsOf params f.env = ([], []))
    {A : Around} {s : Shared} {Q : Value → Shared → Prop} (F : f.Ok X s) (h : ∀ lam s', Grow X s s' → f.Ok X s' → s'.TypeIs (.ref lam) "function" → ¬ isTab X lam → Q (.ref lam) s') : wpAny (Mo X) A (eval (.Lambda params body scope pos) f.env) Q (fun _ _ => False) s := by
  obtain ⟨ps, hP, ht, ho⟩ := F.live.t85
  have hg := C.g.keeps F.live.old
  refine kla_eval hdef ?_
  cases hf : codeAmong pos ps.toList with
  | some cv =>
    refine kla_makeFunctionHit (mg := X.mg) hclos F.glob hg hcode (C.c89.keeps F.live.old) hP ht hf (builtinsAt C F.live C.n85) fun ctv h' tk hk hz => ?_
    have G : Grow X s { s with heap := h', toks := tk } := grow_of F.live hk hz
    have G₂ : Grow X { s with heap := h', toks := tk } _ := .push (o := { cls := .type "function", data := .func (kla_fn "<lambda>" (f.env.qual ++ "<lambda>") params body scope clos ((X.mg "__name__").getD .none) cv ctv) }) (t := tk) G.live
    exact h _ _ (G.trans G₂) (F.grown F.live (G.trans G₂)) ⟨_, Heap.get?_push_size _ rfl, rfl⟩ fun q => absurd (F.mu_lt _ (F.mtab _ q)) (Nat.not_lt.mpr G.size)
  | none =>
    refine kla_makeFunction (mg := X.mg) hclos F.glob hg hcode (C.c89.keeps F.live.old) hP ht hf (by decide) (builtinsAt C F.live C.n85) fun c' ctv h' tk hx hge hlt hrec htb => ?_
    have hz : s.heap.objs.size ≤ h'.objs.size := Nat.le_of_lt (Nat.lt_of_le_of_lt hge hlt)
    have G : Grow X s { s with heap := h', toks := tk } := ⟨live_tab85 C F.live hx hz hP ht ho htb, fun b o nt e => hx b o (fun q => nt (.inr (.inl q))) e, hz, rfl, fun b m _ hn => hn.at' fun o e => hx b o (fun q => tab_not_ns F.live hn (.inr q)) e, rfl⟩
    have G₂ : Grow X { s with heap := h', toks := tk } _ := .push (o := kla_obj "<lambda>" (f.env.qual ++ "<lambda>") params body scope clos ((X.mg "__name__").getD .none) c' ctv) (t := tk) G.live
    exact h _ _ (G.trans G₂) (F.grown F.live (G.trans G₂)) ⟨_, Heap.get?_push_size _ rfl, rfl⟩ fun q => absurd (F.mu_lt _ (F.mtab _ q)) (Nat.not_lt.mpr G.size)

theorem gm_sub (C : Cx X) {A : Around} {s : Shared} {E : Value → Shared → Prop} {pl : Sem Bool} {Q : Value × List Value → Shared → Prop} (hl : Live X s.heap) (h : Q (.builtin "re.Pattern.sub", [.ref 64]) s) : wpAny (Mo X) A (getMethod (.ref 64) "sub" pl) Q E s := by
  obtain ⟨o63, t1, t2, vs, n, g64, _⟩ := get64
  have h64 := hl.old _ _ (C.K _ _ (g64 X.w.params))
  refine getMethod_builtin ⟨_, h64, rfl⟩ plain_pat slot_pat_sub type_pat_sub (fun a e => ?_) h
  cases e
  exact ⟨_, h64, rfl⟩
theorem ev_sub (C : Cx X) {o e : Expr} {apos cpos : Pos} {params : Arguments} {body : Expr} {scope : Scope} {lpos : Pos} {x : Str} {clos : List (Str × Addr)} {pl : Sem Bool} (hg : Ev X k f o (.raw (.ref 64)))
    (hcode : f.env.code = .ref 89) (hclos : closureFor scope f.env = pure clos) (hdef : defaultsOf params f.env = ([], [])) (he : Ev X k f e (.str x)) (hx : 0 < x.cps.size) (hz : x.cps.size ≤ 1000) (hf : subFails codeP x.cps 1 = true)
    (hs1 : starEach [.Lambda params body scope lpos, e] f.env = (false, eval (.Lambda params body scope lpos) f.env) :: starEach [e] f.env := by rfl)
    (hs : ∀ r, starEach (e :: r) f.env = (false, eval e f.env) :: starEach r f.env := by intro _; rfl)
    (heq : eval (.Call (.Attribute o "sub" apos) [.Lambda params body scope lpos, e] [] cpos) f.env = (do
      let ov ← eval o f.env
      standAt apos.atName
      let (f', first) ← holding [ov] (getMethod ov "sub" pl)
      callWith cpos f' first (backTo cpos (starEach [.Lambda params body scope lpos, e] f.env)) []) := by rfl) :
    Ev X k f (.Call (.Attribute o "sub" apos) [.Lambda params body scope lpos, e] [] cpos) (.str x) := by
  intro A s Q R F hQ
  refine MethodCall_ (hg A s _ R F fun v s₁ G₁ F₁ h₁ => ?_) heq
  cases h₁
  refine gm_sub C F₁.live (callWith_method1 ?_ hs1 (by rw [hs]; rfl))
  refine args_cons (eval_lambda C hcode hclos hdef F₁ fun lam s₂ G₂ F₂ hT hnt => ?_) hs1
  refine EvL.cons he EvL.nil (hs _) A s₂ _ R F₂ fun vs s₃ G₃ F₃ h₃ => ?_
  obtain ⟨v, r, rfl, ⟨t, rfl⟩, hr⟩ := h₃
  cases hr
  have hT₃ : s₃.TypeIs (.ref lam) "function" := by
    obtain ⟨ob, e1, e2⟩ := hT
    exact ⟨ob, G₃.keep lam ob hnt e1, e2⟩
  refine sub_call C F₃.live hT₃ hx hz hf fun h' t' tk hk hzz => ?_
  have G₄ : Grow X s₃ { s₃ with heap := h', toks := tk } := grow_of F₃.live hk hzz
  exact hQ _ _ (((G₁.trans G₂).trans G₃).trans G₄) (F₃.grown F₃.live G₄) ⟨_, rfl⟩
end
section
variable {X : Wd} {k : Nat} {f : FS}
theorem WS.assignB {elts : List Expr} {kk : Nat} {tpos pos : Pos} {value : Expr} {p : PV} {bs : List (Str × PV)} {rest : List Stmt} {Ψ} (he : Ev X k f value p) (B : Binds X k f (.Tuple elts kk tpos) p bs)
    (h : WS X k (f.upd (bs ++ f.vars) f.led) rest Ψ)
    (hs : swapsWithSole [.Tuple elts kk tpos] value pos.line f.env = pure false := by rfl) (hw : swappedStores [.Tuple elts kk tpos] value f.env = pure none := by rfl) :
    WS X k f (.Assign [.Tuple elts kk tpos] value pos :: rest) Ψ := by
  intro A s Q R F hQ
  refine wpAny_execs_cons (Assign_Tuple (he A s _ R F fun v s₁ G₁ F₁ h₁ => B A s₁ v _ R F₁ h₁ fun s₂ F₂ S₂ => ?_) hs hw)
  exact h A s₂ Q R F₂ fun fl vars led g s' hp F' S' hg => hQ fl vars led g s' hp F' (((Step.grow F G₁).trans S₂).trans S') hg
noncomputable def flatV : PV → Bool
  | .none | .bool _ | .int _ | .str _ | .raw _ => true
  | _ => false
theorem Rd.flat {h h' : Heap} {mu mu' : Addr → Prop} {p : PV} {v : Value} (hp : flatV p = true) (x : Rd h mu p v) : Rd h' mu' p v := by
  cases p with
  | none => exact x
  | bool b => exact x
  | int i => exact x
  | str s => exact x
  | raw u => exact x
  | _ => cases hp
theorem tab_num {l : List Value} (hl : TriplesOk l) (q : Str) (t : Tok) : l[1]? ≠ some (.str q t) := by
  fun_induction TriplesOk l with
  | case1 => simp
  | case2 a t' b u x rest ih => simp
  | case3 l h1 h2 => exact hl.elim
theorem rec_not_tab {h : Heap} (l : Live X h) {c : Addr} {o : Obj} {vs : Array Value} {q : Str} {t : Tok} (e : h.get? c = some o) (hd : o.data = .fields vs) (hv : vs[1]? = some (.str q t)) : ¬ isTab X c := fun ht => by
  rcases ht with rfl | rfl | ht
  · obtain ⟨ps, hp, h2, _⟩ := l.t33; rw [e] at hp; cases hp; cases hd; exact tab_num h2 q t (by simpa using hv)
  · obtain ⟨ps, hp, h2, _⟩ := l.t85; rw [e] at hp; cases hp; cases hd; exact tab_num h2 q t (by simpa using hv)
  · obtain ⟨_, m, o', es, ep, e', d', _⟩ := l.fr ht
    rw [e] at e'; cases e'; rw [d'] at hd; cases hd
theorem Grow.codeRec {s s' : Shared} (l : Live X s.heap) (G : Grow X s s') {cv : Value} {q : Str} (x : s.heap.CodeRec cv q) : s'.heap.CodeRec cv q := by
  obtain ⟨c, o, vs, t, rfl, e, hd, hv⟩ := x
  exact ⟨c, o, vs, t, rfl, G.keep c o (rec_not_tab l e hd hv) e, hd, hv⟩
theorem live_tab33 (C : Cx X) {h h' : Heap} {ps : Array Value} {pos : Pos} {c' : Addr} (l : Live X h) (hx : Heap.ExtBut 33 h h') (hz : h.objs.size ≤ h'.objs.size) (hP : h.get? 33 = some (tabObj ps)) (ht : TriplesOk ps.toList)
    (ho : ∀ q cv, codeAmong q ps.toList = some cv → h.CodeRec cv "_prepare_tag.<locals>.select") (hc : h'.CodeRec (.ref c') "_prepare_tag.<locals>.select") (e : h'.get? 33 = some (tabObj (ps ++ #[rawInt pos.line, rawInt pos.col, .ref c']))) : Live X h' where
  old := fun b o q => hx b o (fun z => by rw [z, C.n33] at q; cases q) (l.old b o q)
  t33 := ⟨_, e, by simpa using TriplesOk_snoc pos.line pos.col (.ref c') ps.toList ht, fun q cv z => by
    rcases code_snoc (pos := pos) (c := .ref c') ps.toList ht (by simpa using z) with h | h
    · obtain ⟨c, o, vs, t, e0, e1, hd, hv⟩ := ho q cv h
      refine ⟨c, o, vs, t, e0, hx c o (fun w => ?_) e1, hd, hv⟩
      rw [w, hP] at e1; cases e1; cases hd
      exact tab_num ht _ _ (by simpa using hv)
    · rw [h]; exact hc⟩
  t85 := by
    obtain ⟨ps', e', t', c⟩ := l.t85
    exact ⟨ps', hx 85 _ (by decide) e', t', c⟩
  low := Nat.le_trans l.low hz
  frs := fun env he => by
    obtain ⟨q1, L, m, q2, q3, q4⟩ := l.frs env he
    exact ⟨q1, L, m, q2, q3, q4.at' fun o e => hx L o (fun q => tab_not_ns l q4 (.inl q)) e⟩
/-- a select as it is made -/
structure IsSel (h : Heap) (sel : Addr) (params : Arguments) (body : List Stmt) (scope : Scope) (clos : List (Str × Addr)) (V0 : List (Str × PV)) : Prop where
  fn : ∃ doc pm cv ctv, h.get? sel = some { cls := .type "function", data := .func (fnX "select" "_prepare_tag.<locals>.select" params body scope clos .none .none doc pm none cv ctv) } ∧ h.CodeRec cv "_prepare_tag.<locals>.select"
  cell : ∀ x p, V0.lookup x = some p → flatV p = true ∧ ∃ c v, clos.lookup x = some c ∧ h.IsCell c (some v) ∧ ∀ h' mu, Rd h' mu p v
  cellv : ∀ n c, clos.lookup n = some c → ∃ v, h.IsCell c v
theorem IsSel.grow {s s' : Shared} {sel : Addr} {params : Arguments} {body : List Stmt} {scope : Scope} {clos : List (Str × Addr)} {V0 : List (Str × PV)} (l : Live X s.heap) (G : Grow X s s') (x : IsSel s.heap sel params body scope clos V0) : IsSel s'.heap sel params body scope clos V0 where
  fn := let ⟨doc, pm, cv, ctv, e, r⟩ := x.fn; ⟨doc, pm, cv, ctv, G.obj l e (fun q => nomatch q) (fun _ _ q => nomatch q), G.codeRec l r⟩
  cell := fun y p hy => let ⟨a, c, v, e1, e2, e3⟩ := x.cell y p hy; ⟨a, c, v, e1, IsCell_of e2 fun o e => G.keep c o (tab_not_cell l e2) e, e3⟩
  cellv := fun n c hn => let ⟨v, e⟩ := x.cellv n c hn; ⟨v, IsCell_of e fun o e' => G.keep c o (tab_not_cell l e) e'⟩
theorem WR.select (C : Cx X) {params : Arguments} {body : List Stmt} {scope : Scope} {pos npos rpos : Pos} {clos : List (Str × Addr)} {V0 : List (Str × PV)} (hcode : f.env.code = .ref 37) (hq : qualnameIn f.env "select" "select" = "_prepare_tag.<locals>.select")
    (hclos : closureFor scope f.env = pure clos) (hd0 : params.defaults = []) (hk0 : params.kw_defaults = []) (ha : annTrees params none f.env = []) (hl : f.env.kindOf "select" = some .local)
    (hV : ∀ x p, V0.lookup x = some p → flatV p = true ∧ f.vars.lookup x = some p ∧ f.env.kindOf x ≠ some .local ∧ x ≠ "select" ∧ clos.lookup x = f.env.cells.lookup x)
    (hcl : ∀ n c, clos.lookup n = some c → ∃ m, f.env.cells.lookup m = some c) :
    WR X k f [.FunctionDef "select" params body [] none [] scope none "select" pos, .Return (some (.Name "select" npos)) rpos]
      (fun s v => ∃ sel, v = .ref sel ∧ IsSel s.heap sel params body scope clos V0 ∧ ∀ a o, (a, MO.obj o) ∈ f.led → s.heap.get? a = some o) := by
  intro A s Q R F hQ
  obtain ⟨ps, hP, ht, ho⟩ := F.live.t33
  have hg := C.g.keeps F.live.old
  have fin : ∀ {s₂ : Shared} {sel : Addr} {doc pm cv ctv : Value}, Grow X s s₂ → s.heap.objs.size ≤ sel → s₂.heap.get? sel = some { cls := .type "function", data := .func (fnX "select" "_prepare_tag.<locals>.select" params body scope clos .none .none doc pm none cv ctv) } → s₂.heap.CodeRec cv "_prepare_tag.<locals>.select" →
      wpAny (Mo X) A (storeName f.env "select" (.ref sel)) (fun _ s₃ => wpAny (Mo X) A (execs [.Return (some (.Name "select" npos)) rpos] f.env) Q (fun _ _ => False) s₃) (fun _ _ => False) s₂ := by
    intro s₂ sel doc pm cv ctv G hge hfn hrec
    have F₂ := F.grown F.live G
    refine FS.Ok.setLoc' (p := .raw (.ref sel)) F₂ hl rfl fun s₃ F₃ hs₃ hg₃ ho₃ => ?_
    refine wpAny_execs_cons (wpAny_Return_some ?_)
    have hev : Ev X k (f.upd (("select", .raw (.ref sel)) :: f.vars) f.led) (.Name "select" npos) (.raw (.ref sel)) := Ev.loc (by show List.lookup _ (_ :: _) = _; rw [List.lookup_cons, beq_self_eq_true]) hl
    refine hev A s₃ _ R F₃ fun v s₄ G₄ F₄ hv => ?_
    cases hv
    have hLne : ∀ {b : Addr} {o : Obj}, s₂.heap.get? b = some o → (∀ es ep, o.data ≠ .dict es ep) → b ≠ f.env.locals := fun {b o} e hd q => by
      obtain ⟨m, ⟨o', es, ep, e', d', _⟩, _⟩ := F₂.ns
      rw [q, e'] at e; cases e; exact hd _ _ d'
    obtain ⟨cc, oc, vs, t, rfl, rc, rd, rv⟩ := hrec
    have l₃ := F₃.live
    have fn₃ := (hs₃.2 sel (hLne hfn fun _ _ q => nomatch q)).trans hfn
    have rc₃ := (hs₃.2 cc (hLne rc fun _ _ q => by rw [rd] at q; cases q)).trans rc
    refine hQ _ _ F₄.grow ⟨sel, rfl, ⟨⟨doc, pm, _, ctv, G₄.obj l₃ fn₃ (fun q => nomatch q) (fun _ _ q => nomatch q), G₄.codeRec l₃ ⟨cc, oc, vs, t, rfl, rc₃, rd, rv⟩⟩, fun x p hx => ?_, fun n c hn => ?_⟩, fun a o hao => F₄.led a (.obj o) hao⟩
    · obtain ⟨h1, h2, h3, h4, h5⟩ := hV x p hx
      obtain ⟨c, v, e1, e2, e3⟩ := F₄.cell x p (by show List.lookup x (_ :: _) = _; rw [List.lookup_cons, beq_eq_false_iff_ne.mpr h4]; exact h2) h3
      exact ⟨h1, c, v, h5.trans e1, e2, fun h' mu => e3.flat h1⟩
    · obtain ⟨m, hm⟩ := hcl n c hn
      exact F₄.cellv m c hm
  refine wpAny_execs_cons (nestDef_K hd0 hk0 ha ?_)
  rw [hq]
  cases hf : codeAmong pos ps.toList with
  | some cv =>
    refine makeFunction_hit (mg := X.mg) hclos F.glob hg hcode (C.c37.keeps F.live.old) hP ht hf (builtinsAt C F.live C.n33) fun ctv doc h' tk hk hz => ?_
    have G : Grow X s { s with heap := h', toks := tk } := grow_of F.live hk hz
    have G₂ : Grow X { s with heap := h', toks := tk } _ := .push (o := { cls := .type "function", data := .func (fnX "select" "_prepare_tag.<locals>.select" params body scope clos .none .none doc ((X.mg "__name__").getD .none) none cv ctv) }) (t := tk) G.live
    exact fin (G.trans G₂) hz (Heap.get?_push_size _ rfl) (G₂.codeRec G.live (G.codeRec F.live (ho pos cv hf)))
  | none =>
    refine makeFunction_K (mg := X.mg) hclos F.glob hg hcode (C.c37.keeps F.live.old) hP ht hf (by decide) (builtinsAt C F.live C.n33) fun c' ctv doc h' tk hx hge hlt hrec htb => ?_
    have hz : s.heap.objs.size ≤ h'.objs.size := Nat.le_of_lt (Nat.lt_of_le_of_lt hge hlt)
    have G : Grow X s { s with heap := h', toks := tk } := ⟨live_tab33 C F.live hx hz hP ht ho hrec htb, fun b o nt e => hx b o (fun q => nt (.inl q)) e, hz, rfl, fun b m _ hn => hn.at' fun o e => hx b o (fun q => tab_not_ns F.live hn (.inl q)) e, rfl⟩
    have G₂ : Grow X { s with heap := h', toks := tk } _ := .push (o := fnMade "select" "_prepare_tag.<locals>.select" params body scope clos doc ((X.mg "__name__").getD .none) c' ctv) (t := tk) G.live
    exact fin (G.trans G₂) hz (Heap.get?_push_size _ rfl) (G₂.codeRec G.live hrec)
end
section
variable {X : Wd} {k : Nat} {f : FS}
theorem WR.mono {st : List Stmt} {Φ Φ' : Shared → Value → Prop} (h : WR X k f st Φ) (hΦ : ∀ s v, Φ s v → Φ' s v) : WR X k f st Φ' := fun A s Q R F hQ => h A s Q R F fun v s' G hp => hQ v s' G (hΦ _ _ hp)
noncomputable def selPar (p1 p2 : Pos) : Arguments := { posonlyargs := [], args := [{ arg := "context", annotation := none, pos := p1 : Arg }, { arg := "result", annotation := none, pos := p2 : Arg }], vararg := none, kwonlyargs := [], kw_defaults := [], kwarg := none, defaults := [] }
noncomputable def selFor (x0 x1 x2 y1 y2 y3 y4 : Pos) (pre : Option Stmt) (test : Expr) : List Stmt := [.For (.Name "elem" x1) (.Name "result" x2) (pre.toList ++ [.If test [.Expr (.Yield (some (.Name "elem" y1)) y2) y3] [] y4]) [] x0]
noncomputable abbrev selNames (el : Bool) (free : List Str) : List (Str × NameKind) :=
  [(("context" : Str), NameKind.local), (("result" : Str), NameKind.local), (("elem" : Str), NameKind.local)] ++ (if el then [(("el_tag" : Str), NameKind.local)] else []) ++ free.map fun x => (x, NameKind.free)
noncomputable def selScope (el : Bool) (free : List Str) : Scope := { kind := .function, names := selNames el free, isGenerator := true, isCoroutine := false, more := [] }
noncomputable def preT (t1 t2 t3 t4 : Pos) : Stmt := .Assign [.Name "el_tag" t1] (.Attribute (.Name "elem" t2) "tag" t3) t4
noncomputable abbrev tIsi (q1 q2 q3 q4 : Pos) (e : Expr) : Expr := .Call (.Name "_isinstance" q1) [e, .Name "_str" q3] [] q4
noncomputable def tAny (q1 q2 q3 q4 q5 : Pos) : Expr := tIsi q1 q2 q3 q4 (.Attribute (.Name "elem" q2) "tag" q5)
noncomputable abbrev Visi : List (Str × PV) := [(("_isinstance" : Str), .raw (.builtin "isinstance")), (("_str" : Str), .raw (.type "str"))]
theorem Stores.dcell {hs : Shared} {mu : Addr → Prop} {sc : Scope} {q : Str} {cd : Value} {L fa : Addr} {vars : List (Str × PV)} {led : List (Addr × MO)} {x : Str} (hl : sc.names.lookup x = some .cell) :
    Stores ⟨hs, mu, dEnv sc q cd L fa, vars, L :: (cellsFrom (L + 1) sc.names []).map (·.2), led⟩ x := by
  obtain ⟨c, hc⟩ := Option.isSome_iff_exists.mp (cells_look sc.names (L + 1) [] x (.inl (mem_of_lookup' hl)))
  exact .cel c hl hc (.tail _ (List.mem_map_of_mem (f := (·.2)) (mem_of_lookup hc))) (cells_apart _ _ _ .nil fun _ h => by cases h)
theorem WR.use {st : List Stmt} {Φ : Shared → Value → Prop} {A : Around} {s : Shared} {Q : Value → Shared → Prop} (F : f.Ok X s) (hw : WR X k f st Φ) (R : Room X A k) (hQ : ∀ v s', Grow X f.hs s' → Φ s' v → Q v s') :
    wpAny (Mo X) A (execs st f.env) (fun fl s' => Q (match fl with | .ret v => v | _ => .none) s') (fun _ _ => False) s := hw A s _ R F fun v s' G h => hQ v s' G h
theorem WR.pushed {st : List Stmt} {Φ : Shared → Value → Prop} {env : Env} (C : Cx X) (h : ∀ X', Cx X' → WR X' k f st Φ) : WR (X.push env) k f st Φ := h _ (C.push env)
theorem look_all {V : List (Str × PV)} {P : Str → PV → Prop} (h : ∀ q ∈ V, P q.1 q.2) : ∀ x p, V.lookup x = some p → P x p := fun x p e => h (x, p) (mem_of_lookup e)
theorem clos_all {V : List (Str × Addr)} {P : Addr → Prop} (h : ∀ q ∈ V, P q.2) : ∀ x p, V.lookup x = some p → P p := fun x p e => h (x, p) (mem_of_lookup e)
noncomputable def AllV {α β : Type} (P : α → β → Prop) : List (α × β) → Prop
  | [] => True
  | q :: V => P q.1 q.2 ∧ AllV P V
theorem AllV.get {α β : Type} {P : α → β → Prop} {V : List (α × β)} (h : AllV P V) : ∀ q ∈ V, P q.1 q.2 := by
  induction V with
  | nil => intro q hq; cases hq
  | cons b V ih =>
    intro q hq
    rcases List.mem_cons.mp hq with e | hq
    · rw [e]; exact h.1
    · exact ih h.2 q hq
theorem lookV {V : List (Str × PV)} {P : Str → PV → Prop} (h : AllV P V) : ∀ x p, V.lookup x = some p → P x p := look_all h.get
theorem closV {V : List (Str × Addr)} {P : Addr → Prop} (h : AllV (fun _ => P) V) : ∀ x p, V.lookup x = some p → P p := clos_all h.get
inductive SelAny (h : Heap) (sel : Addr) : Prop
  | mk {clos : List (Str × Addr)} {p1 p2 x0 x1 x2 y1 y2 y3 y4 q1 q2 q3 q4 q5 : Pos} (I : IsSel h sel (selPar p1 p2) (selFor x0 x1 x2 y1 y2 y3 y4 none (tAny q1 q2 q3 q4 q5)) (selScope false ["_isinstance", "_str"]) clos Visi)
theorem prep_any (C : Cx X) {A : Around} {s : Shared} {mu : Addr → Prop} {vs : List Value} {Q : Value → Shared → Prop} (R : Room X A (k + 2)) (S : Sane X mu s) (hvs : RdL s.heap mu [.str "{*}*"] vs)
    (h : ∀ v s', Grow X s s' → (∃ sel, v = .ref sel ∧ SelAny s'.heap sel) → Q v s') :
    wpAny (Mo X) A (call (.ref 38) vs) Q (fun _ _ => False) s := by
  refine fenter (k := k + 1) C (ps := [.str "{*}*"]) (ns := ["tag"]) (fun P => by with_unfolding_all rfl) (fun P => by kernel_rfl) (len1 rfl fun _ => rfl) rfl (by decide +kernel) (by decide +kernel) (by decide +kernel) R S hvs ?_
  intro s₁ F₁
  refine WR.use F₁ (Φ := fun s' v => ∃ sel, v = .ref sel ∧ SelAny s'.heap sel) ?_ R.deeper (fun v s' G hφ => h v s' (G.pop rfl (Nat.le_refl _)) hφ)
  clear h F₁
  generalize s.heap.objs.size = L
  refine WR.pushed C fun X' C => ?_
  refine WR.step (fun vars led => vars = [(("_str" : Str), .raw (.type "str")), (("_isinstance" : Str), .raw (.builtin "isinstance")), (("tag" : Str), .str "{*}*")] ∧ led = [])
    (WS.assignB (p := .tup [.raw (.builtin "isinstance"), .raw (.type "str")]) (Ev.tup (EvL.cons (Ev.blt (by assumption) (fun P => by with_unfolding_all rfl) (by decide +kernel) (by with_unfolding_all rfl)) (EvL.cons (Ev.blt (by assumption) (fun P => by with_unfolding_all rfl) (by decide +kernel) (by with_unfolding_all rfl)) EvL.nil)) (by decide)) (Binds.pair (Stores.dcell (by with_unfolding_all rfl)) (Stores.dcell (by with_unfolding_all rfl))) (WS.nil ⟨rfl, rfl, rfl⟩)) ?_
  rintro _ _ ⟨rfl, rfl⟩
  refine WR.ite (b := true) (Tv.of (Tv.cmp (p := .str "{*}*") (q := .str "{*}*") (by walk_at "nm") (by walk_at "ev") eq_ss) (by decide +kernel)) (fun _ => ?_) (fun h => nomatch h)
  refine WR.mono (WR.select (V0 := Visi) C (by with_unfolding_all rfl) (by with_unfolding_all rfl) (by with_unfolding_all rfl) rfl rfl rfl (by with_unfolding_all rfl) (lookV (V := Visi) ⟨⟨rfl, by with_unfolding_all rfl, by walk_at "cv1", by decide, by with_unfolding_all rfl⟩, ⟨rfl, by with_unfolding_all rfl, by walk_at "cv1", by decide, by with_unfolding_all rfl⟩, trivial⟩) ?_) ?_
  · exact closV ⟨⟨"_str", by with_unfolding_all rfl⟩, ⟨"_isinstance", by with_unfolding_all rfl⟩, trivial⟩
  rintro s v ⟨sel, rfl, hsel, -⟩
  exact ⟨sel, rfl, ⟨hsel⟩⟩
end
section
variable {X : Wd} {k : Nat} {f : FS}
/-- what a translated pattern is made of -/
inductive TK
  | star
  | lit (c : Nat) (esc : Bool)
  | cls (barred : Bool) (c : Nat) (esc : Bool)
noncomputable def TK.render : TK → List Nat
  | .star => [46, 42]
  | .lit c e => (if e then [92] else []) ++ [c]
  | .cls b c e => [91] ++ (if b then [94] else []) ++ (if e then [92] else []) ++ [c, 93]
noncomputable def badC : List Nat := [46, 40, 41, 42, 43, 63, 123, 125, 124, 94, 36]
noncomputable def TK.ok : TK → Prop
  | .star => True
  | .lit c e => e = false → c ∉ badC ∧ c ≠ 91 ∧ c ≠ 92
  | .cls b c e => e = false → c ≠ 92 ∧ (b = false → c ≠ 94)
noncomputable def TK.item : TK → Item
  | .star => (false, 0)
  | .lit c _ => (false, c)
  | .cls b c _ => (b, c)
/-- what is read -/
noncomputable abbrev Got := List Item × Option (List Item)
noncomputable def Got.put (g : Got) (it : Item) : Got := match g.2 with
  | none => (g.1 ++ [it], none)
  | some l => (g.1, some (l ++ [it]))
noncomputable def TK.step (g : Got) : TK → Got
  | .star => (g.1, some [])
  | t => g.put t.item
noncomputable def Got.parts (g : Got) : List (List Item) := match g.2 with
  | none => [g.1]
  | some l => [g.1, l]
noncomputable def Got.led (a b b' : Addr) (g : Got) : List (Addr × MO) := match g.2 with
  | none => [(a, .lst [.raw (.ref b)]), (b, .lst (g.1.map itemV))]
  | some l => [(b', .lst (l.map itemV)), (a, .lst [.raw (.ref b), .raw (.ref b')]), (b, .lst (g.1.map itemV))]
noncomputable def Got.last (b b' : Addr) (g : Got) : Addr := match g.2 with | none => b | some _ => b'
noncomputable def stars (l : List TK) : Nat := (l.filter fun t => match t with | .star => true | _ => false).length

theorem at_char {x : Str} {i c : Nat} (h : x.cps.toList[i]? = some c) : (seqIndex? (i : Int) x.length).bind (x.cps[·]?) = some c := by
  have hlt : i < x.length := by have := (List.getElem?_eq_some_iff.mp h).1; simpa [Str.length] using this
  have key : seqIndex? (i : Int) x.length = some i := by
    unfold seqIndex?
    simp
    omega
  rw [key, Option.bind_some, ← h]
  simp
theorem str_of_toList {s : Str} {l : List Nat} (h : s.cps.toList = l) : s = ⟨l.toArray⟩ := by
  obtain ⟨a⟩ := s
  congr 1
  apply Array.toList_inj.mp
  simpa using h

noncomputable def readVars (a : Addr) (n : Nat) (i : Nat) (x : Str) : List (Str × PV) := [("at", .int i), ("parts", .raw (.ref a)), ("end", .int n), ("text", .str x)]
noncomputable def Got.cur (g : Got) : List Item := match g.2 with | none => g.1 | some l => l
theorem put_led (g : Got) (a b b' : Addr) (it : Item) : LedSet (g.last b b') (.lst (g.cur.map itemV)) (.lst (g.cur.map itemV ++ [itemV it])) (g.led a b b') ((g.put it).led a b b') := by
  obtain ⟨g1, g2⟩ := g
  cases g2 with
  | none =>
    have e : ((g1 ++ [it]).map itemV) = g1.map itemV ++ [itemV it] := by simp
    show LedSet b _ _ [(a, _), (b, _)] [(a, _), (b, .lst ((g1 ++ [it]).map itemV))]
    rw [e]; exact .there .here
  | some l =>
    have e : ((l ++ [it]).map itemV) = l.map itemV ++ [itemV it] := by simp
    show LedSet b' _ _ [(b', _), (a, _), (b, _)] [(b', .lst ((l ++ [it]).map itemV)), (a, _), (b, _)]
    rw [e]; exact .here
noncomputable def Got.refs (b b' : Addr) (g : Got) : List PV := match g.2 with | none => [.raw (.ref b)] | some _ => [.raw (.ref b), .raw (.ref b')]
theorem refs_mem (g : Got) (a b b' : Addr) : (a, MO.lst (g.refs b b')) ∈ g.led a b b' := by
  obtain ⟨g1, g2⟩ := g
  cases g2 <;> simp [Got.led, Got.refs]
theorem refs_last (g : Got) (b b' : Addr) : ∃ j, seqIndex? (-1) (g.refs b b').length = some j ∧ (g.refs b b')[j]? = some (.raw (.ref (g.last b b'))) := by
  obtain ⟨g1, g2⟩ := g
  cases g2 with
  | none => exact ⟨0, rfl, rfl⟩
  | some l => exact ⟨1, rfl, rfl⟩
theorem refs_res (g : Got) (a b b' : Addr) : Res (g.led a b b') (.raw (.ref a)) (partsV g.parts) := by
  have items : ∀ {L : List (Addr × MO)} {l : List Item} {c : Addr}, (c, MO.lst (l.map itemV)) ∈ L → Res L (.raw (.ref c)) (itemsV l) := fun {L l c} h => .led h (by
    have : ∀ l : List PV, ResL L l l := fun l => by
      induction l with
      | nil => exact .nil
      | cons p l ih => exact .cons .same ih
    exact this _)
  refine .led (refs_mem g a b b') ?_
  obtain ⟨g1, g2⟩ := g
  cases g2 with
  | none => exact .cons (items (by simp [Got.led])) .nil
  | some l => exact .cons (items (by simp [Got.led])) (.cons (items (by simp [Got.led])) .nil)

theorem slice_two {x : Str} {i c0 c1 : Nat} {r : List Nat} (h : x.cps.toList.drop i = c0 :: c1 :: r) : Txt.slice x (some (i : Int)) (some ((i : Int) + 2)) = ⟨#[c0, c1]⟩ := by
  have hl : (x.cps.toList.drop i).length = x.length - i := by simp [Str.length]
  rw [h] at hl
  simp only [List.length_cons] at hl
  refine str_of_toList ?_
  have e : ((i : Int) + 2) = ((i + 2 : Nat) : Int) := by push_cast; rfl
  rw [e, slice_mid x i (i + 2) (by omega), h]
  have : min (i + 2) x.length - i = 2 := by omega
  rw [this]; rfl

section
variable {a b b' L : Addr} {hs : Shared} {mu : Addr → Prop} {own : List Addr} {x : Str}
noncomputable abbrev readEnv (L : Addr) : Env := dEnv { kind := .function, names := [("text", .local), ("parts", .local), ("at", .local), ("end", .local), ("barred", .local), ("len", .globalImplicit)], isGenerator := false, isCoroutine := false } "_law_read" (.ref 122) L 123
theorem ev_at {V : List (Str × PV)} {led : List (Addr × MO)} {i c : Nat} {p1 p2 p3 : Pos} (ht : V.lookup ("text" : Str) = some (.str x)) (ha : V.lookup ("at" : Str) = some (.int i)) (h : x.cps.toList[i]? = some c) (hi : i ≤ 1000000) :
    Ev X k ⟨hs, mu, readEnv L, V, own, led⟩ (.Subscript (.Name "text" p1) (.Name "at" p2) p3) (.str ⟨#[c]⟩) := Ev.sub_s (Ev.loc ht (by with_unfolding_all rfl)) (Ev.loc ha (by with_unfolding_all rfl)) (at_char h) (by omega) (by omega)
theorem ev_at1 {V : List (Str × PV)} {led : List (Addr × MO)} {i c n : Nat} {p1 p2 p3 p4 p5 : Pos} (ht : V.lookup ("text" : Str) = some (.str x)) (ha : V.lookup ("at" : Str) = some (.int i)) (h : x.cps.toList[i + 1]? = some c) (hi : i ≤ 1000000) :
    Ev X k ⟨hs, mu, readEnv L, V, own, led⟩ (.Subscript (.Name "text" p1) (.BinOp (.Name "at" p2) .Add (.Constant (.int 1) n p3) p4) p5) (.str ⟨#[c]⟩) := by
  have e : ((i : Int) + 1) = ((i + 1 : Nat) : Int) := by push_cast; rfl
  exact Ev.sub_s (Ev.loc ht (by with_unfolding_all rfl)) (Ev.of (Ev.bin (Ev.loc ha (by with_unfolding_all rfl)) Ev.cint add_ii) (by rw [e])) (at_char h) (by omega) (by omega)
end
theorem two_ne {c0 c1 : Nat} (h : c0 ≠ 46) : ((⟨#[c0, c1]⟩ : Str) == Str.ofString ".*") = false := by
  rw [beq_eq_false_iff_ne]
  intro q
  have : (⟨#[c0, c1]⟩ : Str).cps.toList = (Str.ofString ".*").cps.toList := by rw [q]
  have e : (Str.ofString ".*").cps.toList = [46, 42] := by decide
  rw [e] at this
  simp at this
  exact h this.1
theorem no_star : ∀ (l : List TK) (g : Got), stars l = 0 → g.2 = none → (l.foldl TK.step g).2 = none
  | [], _, _, h => h
  | .star :: l, _, h, _ => by unfold stars at h; rw [List.filter_cons_of_pos rfl] at h; simp at h
  | .lit c e :: l, g, h, hg => no_star l _ h (by obtain ⟨g1, g2⟩ := g; cases hg; rfl)
  | .cls b c e :: l, g, h, hg => no_star l _ h (by obtain ⟨g1, g2⟩ := g; cases hg; rfl)
theorem step_cur (g : Got) (t : TK) : (TK.step g t).cur.length ≤ g.cur.length + 1 := by
  obtain ⟨g1, g2⟩ := g
  cases t <;> cases g2 <;> simp [TK.step, Got.put, Got.cur]
theorem cur_le (l : List TK) (g : Got) : (l.foldl TK.step g).cur.length ≤ g.cur.length + l.length := by
  induction l generalizing g with
  | nil => exact Nat.le_refl _
  | cons t l ih =>
    rw [List.foldl_cons, List.length_cons, Nat.add_comm l.length 1, ← Nat.add_assoc]
    exact Nat.le_trans (ih _) (Nat.add_le_add_right (step_cur g t) _)
theorem render_pos (t : TK) : 1 ≤ t.render.length := by cases t <;> simp [TK.render]
theorem render_le : ∀ l : List TK, l.length ≤ (l.flatMap TK.render).length
  | [] => Nat.le_refl _
  | t :: l => by
    have h := render_le l
    have h2 := render_pos t
    rw [List.flatMap_cons, List.length_cons, List.length_append]
    omega
theorem bad_eq : (Str.ofString ".()*+?{}|^$").cps.toList = badC := by decide
theorem lit_facts {c : Nat} {e : Bool} (h : e = false → c ∉ badC ∧ c ≠ 91 ∧ c ≠ 92) : ((if e then 92 else c) ∉ badC ∧ (if e then 92 else c) ≠ 91 ∧ (if e then 92 else c) ≠ 46) ∧ ((if e then 92 else c) == 92) = e := by
  cases e with
  | true => exact ⟨⟨(by decide : (92 : Nat) ∉ badC), (by decide : (92 : Nat) ≠ 91), (by decide : (92 : Nat) ≠ 46)⟩, rfl⟩
  | false =>
    have h := h rfl
    exact ⟨⟨h.1, h.2.1, fun q => h.1 (by have q : c = 46 := q; rw [q]; decide)⟩, beq_eq_false_iff_ne.mpr h.2.2⟩
theorem lit_at (c : Nat) (e : Bool) (w : Nat) (W : List Nat) : (∃ c1 r, (TK.lit c e).render ++ w :: W = (if e then 92 else c) :: c1 :: r) ∧ ((TK.lit c e).render ++ w :: W)[if e then 1 else 0]? = some c ∧ (TK.lit c e).render.length = 1 + (if e then 1 else 0) := by
  cases e <;> exact ⟨⟨_, _, rfl⟩, rfl, rfl⟩
theorem cls_facts {br : Bool} {c : Nat} {e : Bool} (h : e = false → c ≠ 92 ∧ (br = false → c ≠ 94)) : ((if br then 94 else if e then 92 else c) == 94) = br ∧ ((if e then 92 else c) == 92) = e := by
  cases e with
  | true => cases br <;> exact ⟨rfl, rfl⟩
  | false =>
    have h := h rfl
    refine ⟨?_, beq_eq_false_iff_ne.mpr h.1⟩
    cases br with
    | true => rfl
    | false => exact beq_eq_false_iff_ne.mpr (h.2 rfl)
theorem cls_at (br : Bool) (c : Nat) (e : Bool) (w : Nat) (W : List Nat) : (∃ r, (TK.cls br c e).render ++ w :: W = 91 :: (if br then 94 else if e then 92 else c) :: r) ∧ ((TK.cls br c e).render ++ w :: W)[if br then 2 else 1]? = some (if e then 92 else c)
    ∧ ((TK.cls br c e).render ++ w :: W)[(if br then 2 else 1) + (if e then 1 else 0)]? = some c ∧ ((TK.cls br c e).render ++ w :: W)[(if br then 2 else 1) + ((if e then 1 else 0) + 1)]? = some 93 ∧ (TK.cls br c e).render.length = (if br then 2 else 1) + (if e then 1 else 0) + 2 := by
  cases br <;> cases e <;> exact ⟨⟨_, rfl⟩, rfl, rfl, rfl, rfl⟩
theorem read_spec (C : Cx X) (x : Str) (toks : List TK) (hx : x.cps.toList = [40, 63, 115, 58] ++ toks.flatMap TK.render ++ [41, 92, 90]) (hok : ∀ t ∈ toks, t.ok) (hst : stars toks ≤ 1) (hlen : x.length ≤ 100000) :
    OpN X 1 [.str x] (fun vs => call (.ref 123) vs) (partsV (toks.foldl TK.step ([], none)).parts) := by
  refine fspec C (ns := ["text"]) (fun P => by with_unfolding_all rfl) (fun P => by kernel_rfl) (len1 rfl fun _ => rfl) rfl (by decide +kernel) (by decide +kernel) ?_ (by decide +kernel)
  intro hs mu L own T _ X C
  have hxl : x.length = 7 + (toks.flatMap TK.render).length := by
    have : x.cps.toList.length = x.length := by simp [Str.length]
    rw [← this, hx]; simp; omega
  show WS _ _ ⟨hs, mu, readEnv L, [("text", .str x)], own, []⟩ _ _
  refine WS.assignSw (names := ["parts", "at", "end"]) (EvX.tupX (EvLX.first (ps := [.int 4, .int ((x.length - 3 : Nat) : Int)]) (EvX.listX (EvLX.first (ps := []) (EvX.list (ps := []) EvL.nil (by decide)) (fun p led h => EvL.nil)) (fun ps led h => ?_)) (fun p led h => ?_)) (fun qs led h => ?_)) rfl (fun qs led h => ?_) (fun qs led h => ?_)
  · obtain ⟨q, rfl, _⟩ := h; show 1 ≤ _; decide
  · refine EvL.cons (by walk_at "ev") (EvL.cons (Ev.of (Ev.bin (Ev.lenS C (by walk_at "nm") (by omega) (by with_unfolding_all rfl)) (by walk_at "ev") sub_ii) ?_) EvL.nil)
    congr 1; omega
  · obtain ⟨q, rfl, _⟩ := h; show 3 ≤ _; decide
  · obtain ⟨q, rfl, _⟩ := h; rfl
  obtain ⟨q, rfl, a, ps, led', ⟨q', rfl, b, rfl, rfl⟩, rfl, rfl⟩ := h
  show WS _ _ ⟨hs, mu, readEnv L, [("parts", .raw (.ref a)), ("at", .int 4), ("end", .int ((x.length - 3 : Nat) : Int)), ("text", .str x)], own, [(a, .lst [.raw (.ref b)]), (b, .lst [])]⟩ _ _
  refine wF ?_ (wNil ?_)
  · refine Tv.or_f (Tv.of (Tv.cmp (p := .str (Txt.slice x none (some ((4 : Nat) : Int)))) (q := .str (Str.ofString "(?s:")) (Ev.cut_s (by walk_at "nm") EvP.no (EvP.yes (Ev.of Ev.cint rfl)) (Nat.le_trans hlen (by decide))) (by walk_at "ev") ne_ss) ?_)
      (Tv.or_1 (Tv.of (Tv.cmp (p := .str (Txt.slice x (some ((x.length - 3 : Nat) : Int)) none)) (q := .str (Str.ofString ")\\Z")) (Ev.cut_s (by walk_at "nm") (EvP.yes (by walk_at "nm")) EvP.no (Nat.le_trans hlen (by decide))) (by walk_at "ev") ne_ss) ?_))
    · have : Txt.slice x none (some ((4 : Nat) : Int)) = Str.ofString "(?s:" := by
        rw [str_of_toList (slice_take x 4 (by omega)), hx]; rfl
      rw [this]; simp
    · have : Txt.slice x (some ((x.length - 3 : Nat) : Int)) none = Str.ofString ")\\Z" := by
        rw [str_of_toList (slice_drop x (x.length - 3) (by omega)), hx]
        have e : x.length - 3 = ([40, 63, 115, 58] ++ toks.flatMap TK.render).length := by rw [hxl]; simp; omega
        rw [e, List.drop_left]; rfl
      rw [this]; simp
  refine wWhile (fun n V Le => ∃ done rem b', toks = done ++ rem ∧ n = rem.length ∧ Subv (readVars a (x.length - 3) (4 + (done.flatMap TK.render).length) x) V ∧ Le = (done.foldl TK.step ([], none)).led a b b') toks.length ⟨[], toks, b, rfl, rfl, ⟨rfl, rfl, rfl, rfl, trivial⟩, rfl⟩ ?_
  rintro n V Le ⟨done, rem, b', htk, rfl, hV, rfl⟩
  obtain ⟨i, hi⟩ : ∃ i, i = 4 + (done.flatMap TK.render).length := ⟨_, rfl⟩
  rw [← hi] at hV
  have hall : (toks.flatMap TK.render).length = (done.flatMap TK.render).length + (rem.flatMap TK.render).length := by rw [htk]; simp
  have hdrop : x.cps.toList.drop i = rem.flatMap TK.render ++ [41, 92, 90] := by
    rw [hx, hi, htk, List.flatMap_append]
    have e : [40, 63, 115, 58] ++ (done.flatMap TK.render ++ rem.flatMap TK.render) ++ [41, 92, 90] = ([40, 63, 115, 58] ++ done.flatMap TK.render) ++ (rem.flatMap TK.render ++ [41, 92, 90]) := by simp
    have e' : 4 + (done.flatMap TK.render).length = ([40, 63, 115, 58] ++ done.flatMap TK.render).length := by simp; omega
    rw [e, e', List.drop_left]
  have hil3 : i ≤ 100003 := by omega
  have hil : i ≤ 1000000 := Nat.le_trans hil3 (by decide)
  generalize hg : done.foldl TK.step ([], none) = g
  refine ⟨decide ((i : Int) < ((x.length - 3 : Nat) : Int)), Tv.cmp (Ev.loc (hV.look _ _ rfl) (by with_unfolding_all rfl)) (Ev.loc (hV.look _ _ rfl) (by with_unfolding_all rfl)) lt_ii, fun hb => ?_, fun hb => ?_⟩
  · refine wForget (readVars a (x.length - 3) i x) hV (WS.hide fun Ψ hΨ => ?_)
    refine wAssign (x := "barred") (p := .bool false) (by walk_at "ev") (.loc (by with_unfolding_all rfl)) ?_
    cases rem with
    | nil =>
      simp only [List.flatMap_nil, List.length_nil] at hall
      exact absurd (of_decide_eq_true hb) (by omega)
    | cons t rem =>
      have hgo : ∀ {V' : List (Str × PV)} {g' : Got} {b2 : Addr}, Subv (readVars a (x.length - 3) (i + t.render.length) x) V' → g' = TK.step g t → Ψ .next V' (g'.led a b b2) := fun {V' g' b2} h1 h2 =>
        hΨ _ _ _ ⟨rem.length, Nat.lt_succ_self _, done ++ [t], rem, b2, by rw [htk, List.append_assoc]; rfl, rfl, by rw [List.flatMap_append, List.length_append, ← Nat.add_assoc, ← hi, List.flatMap_cons, List.flatMap_nil, List.append_nil]; exact h1, by rw [List.foldl_append, hg, h2]; rfl⟩
      have hstar : t = .star → g.2 = none := fun e => by
        rw [← hg]
        refine no_star _ _ ?_ rfl
        rw [htk, e] at hst
        unfold stars at hst ⊢
        rw [List.filter_append, List.length_append, List.filter_cons_of_pos rfl, List.length_cons] at hst
        omega
      obtain ⟨w, W, hD⟩ : ∃ w W, x.cps.toList.drop i = t.render ++ w :: W := by
        rw [hdrop, List.flatMap_cons, List.append_assoc]
        cases h : rem.flatMap TK.render with
        | nil => exact ⟨_, _, rfl⟩
        | cons w W => exact ⟨_, _, rfl⟩
      have hget : ∀ j, x.cps.toList[i + j]? = (t.render ++ w :: W)[j]? := fun j => by rw [← hD, List.getElem?_drop]
      have hokt := hok t (by rw [htk]; simp)
      have hcur : (g.cur.map itemV).length ≤ sizeLine := by
        rw [List.length_map, ← hg]
        have h1 : (Got.cur (done.foldl TK.step ([], none))).length ≤ 0 + done.length := cur_le done ([], none)
        have h2 := render_le done
        have h4 : (100000 : Nat) ≤ sizeLine := by decide
        omega
      clear hΨ hall htk hdrop hg hV hb hst hxl hok hx hi
      cases t with
      | star =>
        have hd : x.cps.toList.drop i = 46 :: 42 :: (w :: W) := hD
        have hg2 : g.2 = none := hstar rfl
        refine wT (Tv.of (Tv.cmp (p := .str ⟨#[46, 42]⟩) (q := .str (Str.ofString ".*")) (Ev.of (Ev.cut_s (by walk_at "nm") (EvP.yes (by walk_at "nm")) (EvP.yes (Ev.bin (by walk_at "nm") Ev.cint add_ii)) (Nat.le_trans hlen (by decide))) (by rw [slice_two hd])) (by walk_at "ev") eq_ss) (by decide)) ?_
        obtain ⟨g1, g2⟩ := g
        cases hg2
        refine wAppendX (a := a) (xs := [.raw (.ref b)]) (by walk_at "nm") (.head _) (EvX.list (ps := []) EvL.nil (by decide)) (by show 1 ≤ _; decide) (fun p Le h => ?_)
        obtain ⟨b2, rfl, rfl⟩ := h
        refine ⟨_, .there .here, ?_⟩
        refine wAug (p := .int i) (q := .int 2) (by with_unfolding_all rfl) (by with_unfolding_all rfl) (by walk_at "ev") iadd_ii ?_
        refine wNil (wNil ?_)
        exact hgo (b2 := b2) (g' := (g1, some [])) ⟨rfl, rfl, rfl, rfl, trivial⟩ rfl
      | lit c e =>
        have hokt : e = false → c ∉ badC ∧ c ≠ 91 ∧ c ≠ 92 := hokt
        obtain ⟨⟨c1, r, hr1⟩, hr2, hr3⟩ := lit_at c e w W
        obtain ⟨h0, h92⟩ := lit_facts hokt
        generalize hc0 : (if e then 92 else c) = c0 at hr1 h0 h92
        have hd : x.cps.toList.drop i = c0 :: c1 :: r := hD.trans hr1
        have hc0' : x.cps.toList[i]? = some c0 := by have := hget 0; rw [hr1] at this; exact this
        have hce : x.cps.toList[i + (if e then 1 else 0)]? = some c := (hget _).trans hr2
        refine wF (Tv.of (Tv.cmp (p := .str ⟨#[c0, c1]⟩) (q := .str (Str.ofString ".*")) (Ev.of (Ev.cut_s (by walk_at "nm") (EvP.yes (by walk_at "nm")) (EvP.yes (Ev.bin (by walk_at "nm") Ev.cint add_ii)) (Nat.le_trans hlen (by decide))) (by rw [slice_two hd])) (by walk_at "ev") eq_ss) (two_ne h0.2.2)) ?_
        refine wF (Tv.of (Tv.cmp (p := .str ⟨#[c0]⟩) (q := .str (Str.ofString ".()*+?{}|^$")) (ev_at rfl rfl hc0' hil) (by walk_at "ev") in_s1) (by rw [bad_eq]; exact decide_eq_false h0.1)) ?_
        refine wF (Tv.of (Tv.cmp (p := .str ⟨#[c0]⟩) (q := .str (Str.ofString "[")) (ev_at rfl rfl hc0' hil) (by walk_at "ev") eq_ss) (by rw [show Str.ofString "[" = ⟨#[91]⟩ from rfl, str1_eq]; simpa using h0.2.1)) ?_
        refine wCut [("barred", .bool false), ("at", .int ((i + (if e then 1 else 0) : Nat) : Int)), ("parts", .raw (.ref a)), ("end", .int ((x.length - 3 : Nat) : Int)), ("text", .str x)] (g.led a b b') ?_ ?_
        · refine wIte (b := e) (Tv.of (Tv.cmp (p := .str ⟨#[c0]⟩) (q := .str (Str.ofString "\\")) (ev_at rfl rfl hc0' hil) (by walk_at "ev") eq_ss) (by
            rw [show Str.ofString "\\" = ⟨#[92]⟩ from rfl, str1_eq, h92])) (fun he => ?_) (fun he => ?_)
          · refine wAug (p := .int i) (q := .int 1) (by with_unfolding_all rfl) (by with_unfolding_all rfl) (by walk_at "ev") iadd_ii (wNil (wNil ⟨rfl, ?_, rfl⟩))
            exact ⟨rfl, by rw [if_pos he]; rfl, rfl, rfl, rfl, trivial⟩
          · exact wNil (wNil ⟨rfl, ⟨rfl, by rw [if_neg (by rw [he]; exact Bool.false_ne_true)]; rfl, rfl, rfl, rfl, trivial⟩, rfl⟩)
        obtain ⟨j, hj, hr⟩ := refs_last g b b'
        refine wAppend (a := g.last b b') (xs := g.cur.map itemV) (p := itemV (false, c)) (Ev.sub_l (by walk_at "nm") (Lst.own (refs_mem g a b b')) (Ev.una (by walk_at "ev") neg_i) hj hr (by decide) (by decide)) ?_ (put_led g a b b' (false, c)) ?_ ?_
        · exact Ev.tup (EvL.cons (by walk_at "nm") (EvL.cons (ev_at rfl rfl hce (by split <;> omega)) EvL.nil)) (by show 2 ≤ _; decide)
        · exact hcur
        · refine wAug (p := .int ((i + (if e then 1 else 0) : Nat) : Int)) (q := .int 1) (by with_unfolding_all rfl) (by with_unfolding_all rfl) (by walk_at "ev") iadd_ii ?_
          refine wNil (wNil (wNil (wNil ?_)))
          refine hgo (b2 := b') (g' := g.put (false, c)) ⟨?_, rfl, rfl, rfl, trivial⟩ rfl
          show some _ = some _
          congr 2
          rw [hr3]; omega
      | cls br c e =>
        have hokt : e = false → c ≠ 92 ∧ (br = false → c ≠ 94) := hokt
        obtain ⟨⟨r, hr1⟩, hr2, hr3, hr4, hr5⟩ := cls_at br c e w W
        obtain ⟨hbr, hesc⟩ := cls_facts hokt
        generalize (if br then 94 else if e then 92 else c) = c1 at hr1 hbr
        generalize (if e then 92 else c) = c2 at hr2 hesc
        have hd : x.cps.toList.drop i = 91 :: c1 :: r := hD.trans hr1
        have h0 : x.cps.toList[i]? = some 91 := by have := hget 0; rw [hr1] at this; exact this
        have h1 : x.cps.toList[i + 1]? = some c1 := by have := hget 1; rw [hr1] at this; exact this
        obtain ⟨m, hm⟩ : ∃ m, m = i + (if br then 2 else 1) := ⟨_, rfl⟩
        obtain ⟨m', hm'⟩ : ∃ m', m' = m + (if e then 1 else 0) := ⟨_, rfl⟩
        have h2 : x.cps.toList[m]? = some c2 := by rw [hm]; exact (hget _).trans hr2
        have h3 : x.cps.toList[m']? = some c := by rw [hm', hm, Nat.add_assoc]; exact (hget _).trans hr3
        have h4 : x.cps.toList[m' + 1]? = some 93 := by rw [hm', hm, Nat.add_assoc, Nat.add_assoc]; exact (hget _).trans hr4
        have hml : m ≤ 1000000 ∧ m' ≤ 1000000 := by
          have : i ≤ 100000 + 3 := by omega
          rw [hm', hm]; constructor <;> (repeat' split) <;> omega
        refine wF (Tv.of (Tv.cmp (p := .str ⟨#[91, c1]⟩) (q := .str (Str.ofString ".*")) (Ev.of (Ev.cut_s (by walk_at "nm") (EvP.yes (by walk_at "nm")) (EvP.yes (Ev.bin (by walk_at "nm") Ev.cint add_ii)) (Nat.le_trans hlen (by decide))) (by rw [slice_two hd])) (by walk_at "ev") eq_ss) (two_ne (by decide))) ?_
        refine wF (Tv.of (Tv.cmp (p := .str ⟨#[91]⟩) (q := .str (Str.ofString ".()*+?{}|^$")) (ev_at rfl rfl h0 hil) (by walk_at "ev") in_s1) (by rw [bad_eq]; decide)) ?_
        refine wT (Tv.of (Tv.cmp (p := .str ⟨#[91]⟩) (q := .str (Str.ofString "[")) (ev_at rfl rfl h0 hil) (by walk_at "ev") eq_ss) (by rw [show Str.ofString "[" = ⟨#[91]⟩ from rfl, str1_eq]; rfl)) ?_
        refine wAssign (x := "barred") (p := .bool br) (Ev.of (Ev.cmp (p := .str ⟨#[c1]⟩) (q := .str (Str.ofString "^")) (ev_at1 rfl rfl h1 hil) (by walk_at "ev") eq_ss) (by rw [show Str.ofString "^" = ⟨#[94]⟩ from rfl, str1_eq, hbr])) (.loc (by with_unfolding_all rfl)) ?_
        refine wAug (p := .int i) (q := .int ((if br then 2 else 1 : Nat) : Int)) (r := .int (m : Int)) (by with_unfolding_all rfl) (by with_unfolding_all rfl) (Ev.of (Ev.ife' (c := br) (p := .int 2) (q := .int 1) (Tv.plain (p := .bool br) (by walk_at "nm") tr_b) (fun _ => by walk_at "ev") (fun _ => by walk_at "ev")) (by cases br <;> rfl)) (Op2.of iadd_ii (by rw [hm]; push_cast; rfl)) ?_
        refine wCut [("barred", .bool br), ("at", .int (m' : Int)), ("parts", .raw (.ref a)), ("end", .int ((x.length - 3 : Nat) : Int)), ("text", .str x)] (g.led a b b') ?_ ?_
        · refine wIte (b := e) (Tv.of (Tv.cmp (p := .str ⟨#[c2]⟩) (q := .str (Str.ofString "\\")) (ev_at rfl rfl h2 hml.1) (by walk_at "ev") eq_ss) (by
            rw [show Str.ofString "\\" = ⟨#[92]⟩ from rfl, str1_eq, hesc])) (fun he => ?_) (fun he => ?_)
          · refine wAug (p := .int m) (q := .int 1) (r := .int (m' : Int)) (by with_unfolding_all rfl) (by with_unfolding_all rfl) (by walk_at "ev") (Op2.of iadd_ii (by rw [hm', if_pos he]; push_cast; rfl)) (wNil (wNil ⟨rfl, ?_, rfl⟩))
            exact ⟨rfl, rfl, rfl, rfl, rfl, trivial⟩
          · refine wNil (wNil ⟨rfl, ⟨rfl, ?_, rfl, rfl, rfl, trivial⟩, rfl⟩)
            rw [hm', if_neg (by rw [he]; exact Bool.false_ne_true)]; rfl
        refine wF (Tv.of (Tv.cmp (p := .str ⟨#[93]⟩) (q := .str (Str.ofString "]")) (ev_at1 rfl rfl h4 hml.2) (by walk_at "ev") ne_ss) (by decide)) (wNil ?_)
        obtain ⟨j, hj, hr⟩ := refs_last g b b'
        refine wAppend (a := g.last b b') (xs := g.cur.map itemV) (p := itemV (br, c)) (Ev.sub_l (by walk_at "nm") (Lst.own (refs_mem g a b b')) (Ev.una (by walk_at "ev") neg_i) hj hr (by decide) (by decide)) ?_ (put_led g a b b' (br, c)) hcur ?_
        · exact Ev.tup (EvL.cons (by walk_at "nm") (EvL.cons (ev_at rfl rfl h3 hml.2) EvL.nil)) (by show 2 ≤ _; decide)
        · refine wAug (p := .int (m' : Int)) (q := .int 2) (by with_unfolding_all rfl) (by with_unfolding_all rfl) (by walk_at "ev") iadd_ii ?_
          refine wNil (wNil (wNil (wNil ?_)))
          refine hgo (b2 := b') (g' := g.put (br, c)) ⟨?_, rfl, rfl, rfl, trivial⟩ rfl
          show some _ = some _
          congr 2
          rw [hm', hm, hr5]; omega
  · cases rem with
    | cons t rem =>
      refine absurd (of_decide_eq_false hb) (fun q => q ?_)
      have : 1 ≤ (t.render).length := by cases t <;> simp [TK.render]
      simp only [List.flatMap_cons, List.length_append] at hall
      omega
    | nil =>
      have e : toks.foldl TK.step ([], none) = g := by rw [htk, List.append_nil, hg]
      refine wRet (p := .raw (.ref a)) ?_ ⟨_, rfl, by rw [e]; exact refs_res g a b b'⟩
      refine Ev.ife (c := true) (Tv.of (Tv.cmp (p := .int (g.refs b b').length) (q := .int 3) (Ev.len C (Ev.loc (hV.look _ _ rfl) (by with_unfolding_all rfl)) (Lst.own (refs_mem g a b b')) ?_ (by with_unfolding_all rfl)) (by walk_at "ev") lt_ii) ?_) (fun _ => Ev.loc (hV.look _ _ rfl) (by with_unfolding_all rfl)) (fun h => by cases h)
      · obtain ⟨g1, g2⟩ := g; cases g2 <;> (show (_ : Int) < _) <;> simp [Got.refs]
      · obtain ⟨g1, g2⟩ := g; cases g2 <;> simp [Got.refs]
end
section
variable {X : Wd} {k : Nat} {f : FS}
noncomputable abbrev mkS (l : List Nat) : Str := ⟨l.toArray⟩
theorem mkS_len (l : List Nat) : (mkS l).length = l.length := by simp [mkS, Str.length]
theorem mkS_eq (a b : List Nat) : (mkS a == mkS b) = (a == b) := by
  by_cases h : a = b
  · subst h; simp
  · have : mkS a ≠ mkS b := fun q => h (by injection q with q; simpa using q)
    rw [beq_eq_false_iff_ne.mpr this, beq_eq_false_iff_ne.mpr h]
theorem slice_lastN (x : Str) (n : Nat) (h1 : 1 ≤ n) : (Txt.slice x (some (-(n : Int))) none).cps.toList = x.cps.toList.drop (x.length - n) := by
  have hlen : x.cps.toList.length = x.length := by simp [Str.length]
  rw [slice_eq]
  have e : clipN (some (-(n : Int))) 0 x.length = x.length - n := by unfold clipN; simp only [show (-(n : Int)) < 0 by omega, if_true]; omega
  rw [e, List.take_of_length_le]
  unfold clipN
  rw [List.length_drop, hlen]
  exact Nat.le_refl _
theorem slice_initN (x : Str) (n : Nat) (h1 : 1 ≤ n) : (Txt.slice x none (some (-(n : Int)))).cps.toList = x.cps.toList.take (x.length - n) := by
  rw [slice_eq]
  have e : clipN (some (-(n : Int))) x.length x.length = x.length - n := by unfold clipN; simp only [show (-(n : Int)) < 0 by omega, if_true]; omega
  rw [e]
  show (x.cps.toList.drop 0).take (x.length - n - 0) = _
  rfl
theorem slice_upTo (x : Str) (n : Nat) : (Txt.slice x none (some (n : Int))).cps.toList = x.cps.toList.take n := by
  have hlen : x.cps.toList.length = x.length := by simp [Str.length]
  rw [slice_eq]
  have e : clipN (some (n : Int)) x.length x.length = min n x.length := by unfold clipN; simp only [show ¬ (n : Int) < 0 by omega, if_false]; omega
  rw [e]
  show (x.cps.toList.drop 0).take (min n x.length - 0) = _
  rw [List.drop_zero, Nat.sub_zero, ← hlen]
  by_cases h : n ≤ x.cps.toList.length
  · rw [Nat.min_eq_left h]
  · rw [Nat.min_eq_right (by omega), List.take_of_length_le (Nat.le_refl _), List.take_of_length_le (by omega)]
noncomputable abbrev tEl (p : Pos) : Expr := .Name "el_tag" p
noncomputable def tBare (q1 q2 q3 q4 q5 q6 q7 q8 q9 q10 : Pos) (k1 k2 : Nat) : Expr :=
  .BoolOp .And [tIsi q1 q2 q3 q4 (tEl q2), .Compare (.Subscript (tEl q5) (.Constant (.int 0) k1 q6) q7) [.NotEq] [.Constant (.str "{") k2 q8] q9] q10
noncomputable def tSuf (q1 q2 q3 q4 q5 q6 q7 q8 q9 q10 q11 q12 q13 q14 : Pos) : Expr :=
  .BoolOp .Or [.Compare (tEl q5) [.Eq] [.Name "tag" q6] q7, .BoolOp .And [tIsi q1 q2 q3 q4 (tEl q2), .Compare (.Subscript (tEl q8) (.Name "no_ns" q9) q10) [.Eq] [.Name "suffix" q11] q12] q13] q14
noncomputable def tNs (q1 q2 q3 q4 q5 q6 q7 q8 q9 q10 : Pos) : Expr :=
  .BoolOp .And [tIsi q1 q2 q3 q4 (tEl q2), .Compare (.Subscript (tEl q5) (.Name "ns_only" q6) q7) [.Eq] [.Name "ns" q8] q9] q10
inductive SelBare (h : Heap) (sel : Addr) : Prop
  | mk {clos : List (Str × Addr)} {p1 p2 x0 x1 x2 y1 y2 y3 y4 t1 t2 t3 t4 q1 q2 q3 q4 q5 q6 q7 q8 q9 q10 : Pos} {k1 k2 : Nat} (I : IsSel h sel (selPar p1 p2) (selFor x0 x1 x2 y1 y2 y3 y4 (some (preT t1 t2 t3 t4)) (tBare q1 q2 q3 q4 q5 q6 q7 q8 q9 q10 k1 k2)) (selScope true ["_isinstance", "_str"]) clos Visi)
theorem prep_bare (C : Cx X) {A : Around} {s : Shared} {mu : Addr → Prop} {vs : List Value} {Q : Value → Shared → Prop} (R : Room X A (k + 2)) (S : Sane X mu s) (hvs : RdL s.heap mu [.str "{}*"] vs)
    (h : ∀ v s', Grow X s s' → (∃ sel, v = .ref sel ∧ SelBare s'.heap sel) → Q v s') :
    wpAny (Mo X) A (call (.ref 38) vs) Q (fun _ _ => False) s := by
  refine fenter (k := k + 1) C (ps := [.str "{}*"]) (ns := ["tag"]) (fun P => by with_unfolding_all rfl) (fun P => by kernel_rfl) (len1 rfl fun _ => rfl) rfl (by decide +kernel) (by decide +kernel) (by decide +kernel) R S hvs ?_
  intro s₁ F₁
  refine WR.use F₁ (Φ := fun s' v => ∃ sel, v = .ref sel ∧ SelBare s'.heap sel) ?_ R.deeper (fun v s' G hφ => h v s' (G.pop rfl (Nat.le_refl _)) hφ)
  clear h F₁
  generalize s.heap.objs.size = L
  refine WR.pushed C fun X' C => ?_
  refine WR.step (fun vars led => vars = [(("_str" : Str), .raw (.type "str")), (("_isinstance" : Str), .raw (.builtin "isinstance")), (("tag" : Str), .str "{}*")] ∧ led = [])
    (WS.assignB (p := .tup [.raw (.builtin "isinstance"), .raw (.type "str")]) (Ev.tup (EvL.cons (Ev.blt (by assumption) (fun P => by with_unfolding_all rfl) (by decide +kernel) (by with_unfolding_all rfl)) (EvL.cons (Ev.blt (by assumption) (fun P => by with_unfolding_all rfl) (by decide +kernel) (by with_unfolding_all rfl)) EvL.nil)) (by decide)) (Binds.pair (Stores.dcell (by with_unfolding_all rfl)) (Stores.dcell (by with_unfolding_all rfl))) (WS.nil ⟨rfl, rfl, rfl⟩)) ?_
  rintro _ _ ⟨rfl, rfl⟩
  refine WR.ite (b := false) (Tv.of (Tv.cmp (p := .str "{}*") (q := .str "{*}*") (by walk_at "nm") (by walk_at "ev") eq_ss) (by decide +kernel)) (fun h => nomatch h) (fun _ => ?_)
  refine WR.ite (b := true) (Tv.of (Tv.cmp (p := .str "{}*") (q := .str "{}*") (by walk_at "nm") (by walk_at "ev") eq_ss) (by decide +kernel)) (fun _ => ?_) (fun h => nomatch h)
  refine WR.mono (WR.select (V0 := Visi) C (by with_unfolding_all rfl) (by with_unfolding_all rfl) (by with_unfolding_all rfl) rfl rfl rfl (by with_unfolding_all rfl) (lookV (V := Visi) ⟨⟨rfl, by with_unfolding_all rfl, by walk_at "cv1", by decide, by with_unfolding_all rfl⟩, ⟨rfl, by with_unfolding_all rfl, by walk_at "cv1", by decide, by with_unfolding_all rfl⟩, trivial⟩) ?_) ?_
  · exact closV ⟨⟨"_str", by with_unfolding_all rfl⟩, ⟨"_isinstance", by with_unfolding_all rfl⟩, trivial⟩
  rintro s v ⟨sel, rfl, hsel, -⟩
  exact ⟨sel, rfl, ⟨hsel⟩⟩
end
section
variable {X : Wd} {k : Nat} {f : FS}
noncomputable abbrev Vsuf (sl : Addr) (e : List Nat) : List (Str × PV) := [(("_isinstance" : Str), .raw (.builtin "isinstance")), (("_str" : Str), .raw (.type "str")), (("no_ns" : Str), .raw (.ref sl)), (("suffix" : Str), .str (mkS (125 :: e))), (("tag" : Str), .str (mkS e))]
noncomputable abbrev Vns (sl : Addr) (n : List Nat) : List (Str × PV) := [(("_isinstance" : Str), .raw (.builtin "isinstance")), (("_str" : Str), .raw (.type "str")), (("ns" : Str), .str (mkS n)), (("ns_only" : Str), .raw (.ref sl))]
inductive SelSuf (h : Heap) (e : List Nat) (sel : Addr) : Prop
  | mk {clos : List (Str × Addr)} {p1 p2 x0 x1 x2 y1 y2 y3 y4 t1 t2 t3 t4 q1 q2 q3 q4 q5 q6 q7 q8 q9 q10 q11 q12 q13 q14 : Pos} (sl : Addr) (tk : Tok) (hs : h.IsSlice sl (some (-((e.length + 1 : Nat) : Int), tk)) none none)
    (I : IsSel h sel (selPar p1 p2) (selFor x0 x1 x2 y1 y2 y3 y4 (some (preT t1 t2 t3 t4)) (tSuf q1 q2 q3 q4 q5 q6 q7 q8 q9 q10 q11 q12 q13 q14)) (selScope true ["_isinstance", "_str", "no_ns", "suffix", "tag"]) clos (Vsuf sl e))
theorem prep_suf (C : Cx X) {e : List Nat} (he : e ≠ [42]) (hez : e.length ≤ 1000) {A : Around} {s : Shared} {mu : Addr → Prop} {vs : List Value} {Q : Value → Shared → Prop} (R : Room X A (k + 3)) (S : Sane X mu s) (hvs : RdL s.heap mu [.str (mkS ([123, 42, 125] ++ e))] vs)
    (h : ∀ v s', Grow X s s' → (∃ sel, v = .ref sel ∧ SelSuf s'.heap e sel) → Q v s') :
    wpAny (Mo X) A (call (.ref 38) vs) Q (fun _ _ => False) s := by
  refine fenter (k := k + 2) C (ps := [.str (mkS ([123, 42, 125] ++ e))]) (ns := ["tag"]) (fun P => by with_unfolding_all rfl) (fun P => by kernel_rfl) (len1 rfl fun _ => rfl) rfl (by decide +kernel) (by decide +kernel) (by decide +kernel) R S hvs ?_
  intro s₁ F₁
  refine WR.use F₁ (Φ := fun s' v => ∃ sel, v = .ref sel ∧ SelSuf s'.heap e sel) ?_ R.deeper (fun v s' G hφ => h v s' (G.pop rfl (Nat.le_refl _)) hφ)
  clear h F₁
  generalize s.heap.objs.size = L
  refine WR.pushed C fun X' C => ?_
  have hwl : (mkS ([123, 42, 125] ++ e)).length = e.length + 3 := by rw [mkS_len]; simp
  refine WR.step (fun vars led => vars = [(("_str" : Str), .raw (.type "str")), (("_isinstance" : Str), .raw (.builtin "isinstance")), (("tag" : Str), .str (mkS ([123, 42, 125] ++ e)))] ∧ led = [])
    (WS.assignB (p := .tup [.raw (.builtin "isinstance"), .raw (.type "str")]) (Ev.tup (EvL.cons (Ev.blt (by assumption) (fun P => by with_unfolding_all rfl) (by decide +kernel) (by with_unfolding_all rfl)) (EvL.cons (Ev.blt (by assumption) (fun P => by with_unfolding_all rfl) (by decide +kernel) (by with_unfolding_all rfl)) EvL.nil)) (by decide)) (Binds.pair (Stores.dcell (by with_unfolding_all rfl)) (Stores.dcell (by with_unfolding_all rfl))) (WS.nil ⟨rfl, rfl, rfl⟩)) ?_
  rintro _ _ ⟨rfl, rfl⟩
  refine WR.ite (b := false) (Tv.of (Tv.cmp (p := .str (mkS ([123, 42, 125] ++ e))) (q := .str "{*}*") (by walk_at "nm") (by walk_at "ev") eq_ss) ?_) (fun h => nomatch h) (fun _ => ?_)
  · rw [show ("{*}*" : Str) = mkS [123, 42, 125, 42] from rfl, mkS_eq]
    exact beq_eq_false_iff_ne.mpr fun q => he (by simpa using q)
  refine WR.ite (b := false) (Tv.of (Tv.cmp (p := .str (mkS ([123, 42, 125] ++ e))) (q := .str "{}*") (by walk_at "nm") (by walk_at "ev") eq_ss) ?_) (fun h => nomatch h) (fun _ => ?_)
  · rw [show ("{}*" : Str) = mkS [123, 125, 42] from rfl, mkS_eq]
    exact beq_eq_false_iff_ne.mpr fun q => by simp at q
  refine WR.ite (b := true) (Tv.of (Tv.cmp (p := .str (Txt.slice (mkS ([123, 42, 125] ++ e)) none (some ((3 : Nat) : Int)))) (q := .str "{*}") (Ev.cut_s (by walk_at "nm") EvP.no (EvP.yes (Ev.of Ev.cint rfl)) (by rw [hwl, sizeLine_eq]; omega)) (by walk_at "ev") eq_ss) ?_) (fun _ => ?_) (fun h => nomatch h)
  · rw [str_of_toList (slice_take _ 3 (by rw [hwl]; omega)), show ("{*}" : Str) = mkS [123, 42, 125] from rfl, mkS_eq]
    simp
  have e2 : Txt.slice (mkS ([123, 42, 125] ++ e)) (some ((2 : Nat) : Int)) none = mkS (125 :: e) := by
    rw [str_of_toList (slice_drop _ 2 (by rw [hwl]; omega))]; simp
  have e3 : Txt.slice (mkS ([123, 42, 125] ++ e)) (some ((3 : Nat) : Int)) none = mkS e := by
    rw [str_of_toList (slice_drop _ 3 (by rw [hwl]; omega))]; simp
  have hsl : (mkS (125 :: e)).length = e.length + 1 := by rw [mkS_len]; simp
  refine WR.step (fun vars led => vars = [(("suffix" : Str), .str (mkS (125 :: e))), (("_str" : Str), .raw (.type "str")), (("_isinstance" : Str), .raw (.builtin "isinstance")), (("tag" : Str), .str (mkS ([123, 42, 125] ++ e)))] ∧ led = [])
    (WS.assign (p := .str (mkS (125 :: e))) (Ev.of (Ev.cut_s (x := mkS ([123, 42, 125] ++ e)) (l := some ((2 : Nat) : Int)) (u := none) (by walk_at "nm") (EvP.yes (Ev.of Ev.cint rfl)) EvP.no (by rw [hwl, sizeLine_eq]; omega)) (by rw [e2])) (Stores.dcell (by with_unfolding_all rfl)) (WS.nil ⟨rfl, rfl, rfl⟩)) ?_
  rintro _ _ ⟨rfl, rfl⟩
  refine WR.step (fun vars led => ∃ sl tk, vars = [(("no_ns" : Str), .raw (.ref sl)), (("suffix" : Str), .str (mkS (125 :: e))), (("_str" : Str), .raw (.type "str")), (("_isinstance" : Str), .raw (.builtin "isinstance")), (("tag" : Str), .str (mkS ([123, 42, 125] ++ e)))] ∧ led = [(sl, .obj (sliceObj (.int (-((e.length + 1 : Nat) : Int)) tk) .none))])
    (WS.assignX (EvX.slice (p := .int (-((e.length + 1 : Nat) : Int))) (q := .none) C rfl rfl (by with_unfolding_all rfl) (Ev.una (p := .int ((e.length + 1 : Nat) : Int)) (Ev.of (Ev.lenS (x := mkS (125 :: e)) C (by walk_at "nm") (by rw [hsl]; omega) (by with_unfolding_all rfl)) (by rw [hsl])) neg_i) (by walk_at "ev")) (Stores.dcell (by with_unfolding_all rfl)) (by
      rintro p led ⟨sl, v, w, rfl, rfl, hv, hw⟩
      obtain ⟨tk, rfl⟩ := hv s.heap fun _ => False
      obtain rfl := hw s.heap fun _ => False
      exact WS.nil ⟨rfl, sl, tk, rfl, rfl⟩)) ?_
  rintro _ _ ⟨sl, tk, rfl, rfl⟩
  refine WR.step (fun vars led => vars = [(("tag" : Str), .str (mkS e)), (("no_ns" : Str), .raw (.ref sl)), (("suffix" : Str), .str (mkS (125 :: e))), (("_str" : Str), .raw (.type "str")), (("_isinstance" : Str), .raw (.builtin "isinstance")), (("tag" : Str), .str (mkS ([123, 42, 125] ++ e)))] ∧ led = [(sl, .obj (sliceObj (.int (-((e.length + 1 : Nat) : Int)) tk) .none))])
    (WS.assign (p := .str (mkS e)) (Ev.of (Ev.cut_s (x := mkS ([123, 42, 125] ++ e)) (l := some ((3 : Nat) : Int)) (u := none) (by walk_at "nm") (EvP.yes (Ev.of Ev.cint rfl)) EvP.no (by rw [hwl, sizeLine_eq]; omega)) (by rw [e3])) (Stores.dcell (by with_unfolding_all rfl)) (WS.nil ⟨rfl, rfl, rfl⟩)) ?_
  rintro _ _ ⟨rfl, rfl⟩
  refine WR.mono (WR.select (V0 := Vsuf sl e) C (by with_unfolding_all rfl) (by with_unfolding_all rfl) (by with_unfolding_all rfl) rfl rfl rfl (by with_unfolding_all rfl) (lookV (V := Vsuf sl e) ⟨⟨rfl, by with_unfolding_all rfl, by walk_at "cv1", (by dsimp only; decide), by with_unfolding_all rfl⟩, ⟨rfl, by with_unfolding_all rfl, by walk_at "cv1", (by dsimp only; decide), by with_unfolding_all rfl⟩, ⟨rfl, by with_unfolding_all rfl, by walk_at "cv1", (by dsimp only; decide), by with_unfolding_all rfl⟩, ⟨rfl, by with_unfolding_all rfl, by walk_at "cv1", (by dsimp only; decide), by with_unfolding_all rfl⟩, ⟨rfl, by with_unfolding_all rfl, by walk_at "cv1", (by dsimp only; decide), by with_unfolding_all rfl⟩, trivial⟩) ?_) ?_
  · exact closV ⟨⟨"tag", by with_unfolding_all rfl⟩, ⟨"suffix", by with_unfolding_all rfl⟩, ⟨"no_ns", by with_unfolding_all rfl⟩, ⟨"_str", by with_unfolding_all rfl⟩, ⟨"_isinstance", by with_unfolding_all rfl⟩, trivial⟩
  rintro s v ⟨sel, rfl, hsel, hled⟩
  exact ⟨sel, rfl, ⟨sl, tk, ⟨_, hled sl _ (.head _), rfl, rfl⟩, hsel⟩⟩
end
section
variable {X : Wd} {k : Nat} {f : FS}
inductive SelNs (h : Heap) (n : List Nat) (sel : Addr) : Prop
  | mk {clos : List (Str × Addr)} {p1 p2 x0 x1 x2 y1 y2 y3 y4 t1 t2 t3 t4 q1 q2 q3 q4 q5 q6 q7 q8 q9 q10 : Pos} (sl : Addr) (tk : Tok) (hs : h.IsSlice sl none (some ((n.length : Nat), tk)) none)
    (I : IsSel h sel (selPar p1 p2) (selFor x0 x1 x2 y1 y2 y3 y4 (some (preT t1 t2 t3 t4)) (tNs q1 q2 q3 q4 q5 q6 q7 q8 q9 q10)) (selScope true ["_isinstance", "_str", "ns", "ns_only"]) clos (Vns sl n))
theorem prep_ns (C : Cx X) {a : Nat} {r : List Nat} (ha : (a :: r ++ [125, 42]).take 2 ≠ [42, 125]) (hrz : r.length ≤ 1000) {A : Around} {s : Shared} {mu : Addr → Prop} {vs : List Value} {Q : Value → Shared → Prop} (R : Room X A (k + 3)) (S : Sane X mu s) (hvs : RdL s.heap mu [.str (mkS (123 :: a :: r ++ [125, 42]))] vs)
    (h : ∀ v s', Grow X s s' → (∃ sel, v = .ref sel ∧ SelNs s'.heap (123 :: a :: r ++ [125]) sel) → Q v s') :
    wpAny (Mo X) A (call (.ref 38) vs) Q (fun _ _ => False) s := by
  refine fenter (k := k + 2) C (ps := [.str (mkS (123 :: a :: r ++ [125, 42]))]) (ns := ["tag"]) (fun P => by with_unfolding_all rfl) (fun P => by kernel_rfl) (len1 rfl fun _ => rfl) rfl (by decide +kernel) (by decide +kernel) (by decide +kernel) R S hvs ?_
  intro s₁ F₁
  refine WR.use F₁ (Φ := fun s' v => ∃ sel, v = .ref sel ∧ SelNs s'.heap (123 :: a :: r ++ [125]) sel) ?_ R.deeper (fun v s' G hφ => h v s' (G.pop rfl (Nat.le_refl _)) hφ)
  clear h F₁
  generalize s.heap.objs.size = L
  refine WR.pushed C fun X' C => ?_
  obtain ⟨w, hw⟩ : ∃ w, w = mkS (123 :: a :: r ++ [125, 42]) := ⟨_, rfl⟩
  obtain ⟨nn, hnn⟩ : ∃ nn, nn = (123 :: a :: r ++ [125] : List Nat) := ⟨_, rfl⟩
  rw [← hw, ← hnn]
  have hwl : w.length = r.length + 4 := by rw [hw, mkS_len]; simp
  have hwt : w.cps.toList = 123 :: a :: r ++ [125, 42] := by rw [hw]
  have hnl : nn.length = r.length + 3 := by rw [hnn]; simp
  refine WR.step (fun vars led => vars = [(("_str" : Str), .raw (.type "str")), (("_isinstance" : Str), .raw (.builtin "isinstance")), (("tag" : Str), .str w)] ∧ led = [])
    (WS.assignB (p := .tup [.raw (.builtin "isinstance"), .raw (.type "str")]) (Ev.tup (EvL.cons (Ev.blt (by assumption) (fun P => by with_unfolding_all rfl) (by decide +kernel) (by with_unfolding_all rfl)) (EvL.cons (Ev.blt (by assumption) (fun P => by with_unfolding_all rfl) (by decide +kernel) (by with_unfolding_all rfl)) EvL.nil)) (by decide)) (Binds.pair (Stores.dcell (by with_unfolding_all rfl)) (Stores.dcell (by with_unfolding_all rfl))) (WS.nil ⟨rfl, rfl, rfl⟩)) ?_
  rintro _ _ ⟨rfl, rfl⟩
  refine WR.ite (b := false) (Tv.of (Tv.cmp (p := .str w) (q := .str "{*}*") (by walk_at "nm") (by walk_at "ev") eq_ss) ?_) (fun h => nomatch h) (fun _ => ?_)
  · rw [show ("{*}*" : Str) = mkS [123, 42, 125, 42] from rfl, hw, mkS_eq]
    exact beq_eq_false_iff_ne.mpr fun q => ha (by injection q with _ q; exact congrArg (List.take 2) q)
  refine WR.ite (b := false) (Tv.of (Tv.cmp (p := .str w) (q := .str "{}*") (by walk_at "nm") (by walk_at "ev") eq_ss) ?_) (fun h => nomatch h) (fun _ => ?_)
  · rw [show ("{}*" : Str) = mkS [123, 125, 42] from rfl, hw, mkS_eq]
    exact beq_eq_false_iff_ne.mpr fun q => by
      have := congrArg List.length q
      simp at this
  refine WR.ite (b := false) (Tv.of (Tv.cmp (p := .str (Txt.slice w none (some ((3 : Nat) : Int)))) (q := .str "{*}") (Ev.cut_s (by walk_at "nm") EvP.no (EvP.yes (Ev.of Ev.cint rfl)) (by rw [hwl, sizeLine_eq]; omega)) (by walk_at "ev") eq_ss) ?_) (fun h => nomatch h) (fun _ => ?_)
  · rw [str_of_toList (slice_take _ 3 (by rw [hwl]; omega)), show ("{*}" : Str) = mkS [123, 42, 125] from rfl, mkS_eq, hwt]
    exact beq_eq_false_iff_ne.mpr fun q => ha (by
      have q : 123 :: (a :: r ++ [125, 42]).take 2 = [123, 42, 125] := q
      injection q)
  refine WR.ite (b := true) (Tv.of (Tv.cmp (p := .str (Txt.slice w (some (-((2 : Nat) : Int))) none)) (q := .str "}*") (Ev.cut_s (by walk_at "nm") (EvP.yes (Ev.una (p := .int ((2 : Nat) : Int)) (Ev.of Ev.cint rfl) neg_i)) EvP.no (by rw [hwl, sizeLine_eq]; omega)) (by walk_at "ev") eq_ss) ?_) (fun _ => ?_) (fun h => nomatch h)
  · rw [str_of_toList (slice_lastN _ 2 (by decide)), show ("}*" : Str) = mkS [125, 42] from rfl, mkS_eq, hwt, hwl]
    have : (123 :: a :: r ++ [125, 42] : List Nat).drop (r.length + 4 - 2) = [125, 42] := List.drop_left' (by simp)
    rw [this]; rfl
  have e1 : Txt.slice w none (some (-((1 : Nat) : Int))) = mkS nn := by
    rw [str_of_toList (slice_initN _ 1 (by decide)), hwt, hwl, hnn]
    congr 2
    rw [show (123 :: a :: r ++ [125, 42] : List Nat) = (123 :: a :: r ++ [125]) ++ [42] by simp]
    exact List.take_left' (by simp)
  refine WR.step (fun vars led => vars = [(("ns" : Str), .str (mkS nn)), (("_str" : Str), .raw (.type "str")), (("_isinstance" : Str), .raw (.builtin "isinstance")), (("tag" : Str), .str w)] ∧ led = [])
    (WS.assign (p := .str (mkS nn)) (Ev.of (Ev.cut_s (x := w) (l := none) (u := some (-((1 : Nat) : Int))) (by walk_at "nm") EvP.no (EvP.yes (Ev.una (p := .int ((1 : Nat) : Int)) (Ev.of Ev.cint rfl) neg_i)) (by rw [hwl, sizeLine_eq]; omega)) (by rw [e1])) (Stores.dcell (by with_unfolding_all rfl)) (WS.nil ⟨rfl, rfl, rfl⟩)) ?_
  rintro _ _ ⟨rfl, rfl⟩
  refine WR.step (fun vars led => ∃ sl tk, vars = [(("ns_only" : Str), .raw (.ref sl)), (("ns" : Str), .str (mkS nn)), (("_str" : Str), .raw (.type "str")), (("_isinstance" : Str), .raw (.builtin "isinstance")), (("tag" : Str), .str w)] ∧ led = [(sl, .obj (sliceObj .none (.int ((nn.length : Nat) : Int) tk)))])
    (WS.assignX (EvX.slice (p := .none) (q := .int ((nn.length : Nat) : Int)) C rfl rfl (by with_unfolding_all rfl) (by walk_at "ev") (Ev.of (Ev.lenS (x := mkS nn) C (by walk_at "nm") (by rw [mkS_len, hnl]; omega) (by with_unfolding_all rfl)) (by rw [mkS_len]))) (Stores.dcell (by with_unfolding_all rfl)) (by
      rintro p led ⟨sl, v, w, rfl, rfl, hv, hw⟩
      obtain ⟨tk, rfl⟩ := hw s.heap fun _ => False
      obtain rfl := hv s.heap fun _ => False
      exact WS.nil ⟨rfl, sl, tk, rfl, rfl⟩)) ?_
  rintro _ _ ⟨sl, tk, rfl, rfl⟩
  refine WR.mono (WR.select (V0 := Vns sl nn) C (by with_unfolding_all rfl) (by with_unfolding_all rfl) (by with_unfolding_all rfl) rfl rfl rfl (by with_unfolding_all rfl) (lookV (V := Vns sl nn) ⟨⟨rfl, by with_unfolding_all rfl, by walk_at "cv1", (by dsimp only; decide), by with_unfolding_all rfl⟩, ⟨rfl, by with_unfolding_all rfl, by walk_at "cv1", (by dsimp only; decide), by with_unfolding_all rfl⟩, ⟨rfl, by with_unfolding_all rfl, by walk_at "cv1", (by dsimp only; decide), by with_unfolding_all rfl⟩, ⟨rfl, by with_unfolding_all rfl, by walk_at "cv1", (by dsimp only; decide), by with_unfolding_all rfl⟩, trivial⟩) ?_) ?_
  · exact closV ⟨⟨"ns_only", by with_unfolding_all rfl⟩, ⟨"ns", by with_unfolding_all rfl⟩, ⟨"_str", by with_unfolding_all rfl⟩, ⟨"_isinstance", by with_unfolding_all rfl⟩, trivial⟩
  rintro s v ⟨sel, rfl, hsel, hled⟩
  exact ⟨sel, rfl, ⟨sl, tk, ⟨_, hled sl _ (.head _), rfl, rfl⟩, hsel⟩⟩
end
section
variable {X : Wd} {k : Nat} {f : FS}
section
variable {A : Around} {R : GenEnd} {Y : Protocol} {n : Nat} {s₀ s : Shared} {c : Code} {fs : List Frame} {env : Env} {K : Flow → Sem Fin} {H : Value → Sem Fin} {gd : Bool → Bool} {lv : List Value → List Value}
noncomputable def forK (env : Env) (K : Flow → Sem Fin) (H : Value → Sem Fin) (gd : Bool → Bool) (lv : List Value → List Value) : Result → Sem Fin := fun r => ((match r with | .ok f => (.pure f : Sem Flow) | .error e => .raise e).onRaise fun (x : Value) => do
        if (← field x 1) == Value.none then unsupported "frame.own-activation:exception-without-traceback"
        setFlight x env.frame).wrap K H gd lv
theorem seg_For {target iter : Expr} {body : List Stmt} {pos : Pos} (hss : ∀ x, foldedSetIterable iter env x = pure x)
    (h : wpAny (Mo X) (A.over c fs) (eval iter env) (fun x s₁ => wpAny (Mo X) (A.over c fs) (pyIter x) (fun it s₂ => ∀ p, Seg (Mo X) A R Y n s₀ (.forLoop target it body [] env) ((Mo X).den (.forLoop target it body [] env)) (.ret (forK env K H gd lv) none (gd false) (lv []) c p [] :: fs) s₂) (fun _ _ => False) s₁) (fun _ _ => False) s) :
    Seg (Mo X) A R Y n s₀ c ((exec (.For target iter body [] pos) env).wrap K H gd lv) fs s := by
  rw [arm_exec_For]
  refine seg_bind_wrap (wpAny_standAt ?_)
  refine seg_bind_wrap (wpAny_mono h (fun x s₁ h₁ => ?_) fun _ _ q => q.elim)
  rw [hss]
  refine seg_bind_wrap (wpAny_pure ?_)
  refine seg_bind_wrap (wpAny_standAt ?_)
  refine seg_bind_wrap (wpAny_holding (wpAny_mono h₁ (fun it s₂ h₂ => ?_) fun _ _ q => q.elim))
  exact seg_call fun p => h₂ p
theorem seg_If {test : Expr} {body orelse : List Stmt} {pos : Pos} {b : Bool} (h : wpAny (Mo X) (A.over c fs) (isTrue test env (eval test env)) (fun b' s₁ => b' = b ∧ Seg (Mo X) A R Y n s₀ c ((if b = true then execs body env else execs orelse env).wrap K H gd lv) fs s₁) (fun _ _ => False) s) :
    Seg (Mo X) A R Y n s₀ c ((exec (.If test body orelse pos) env).wrap K H gd lv) fs s := by
  rw [arm_exec_If]
  refine seg_bind_wrap (wpAny_standAt ?_)
  refine seg_bind_wrap (wpAny_mono h (fun b' s₁ h₁ => ?_) fun _ _ q => q.elim)
  obtain ⟨rfl, h₁⟩ := h₁
  exact h₁
theorem seg_exec {st : Stmt} (h : wpAny (Mo X) (A.over c fs) (exec st env) (fun f s₁ => Seg (Mo X) A R Y n s₀ c (K f) fs s₁) (fun _ _ => False) s) : Seg (Mo X) A R Y n s₀ c ((exec st env).wrap K H gd lv) fs s :=
  seg_wrap (wpAny_mono h (fun _ _ q => q) fun _ _ q => q.elim)
noncomputable def loopK (target : Expr) (it : Value) (body : List Stmt) (env : Env) : Flow → Sem Fin := fun f => match f with
  | .next | .cont => .pure (.again (.forLoop target it body [] env))
  | .brk => .pure (.done .next)
  | .ret v => .pure (.done (.ret v))
noncomputable def loopH (env : Env) : Value → Sem Fin := fun e => (do noteFrame e env; theTreesLotGoes e : Sem Unit).wrap (fun _ => .raise e) .raise id id
theorem seg_forLoop {target : Expr} {it : Value} {body : List Stmt}
    (h : wpAny (Mo X) (A.over (.forLoop target it body [] env) fs) (pyNext it) (fun r s₁ => match r with
      | none => ∀ {n' : Nat}, n' = n → Seg (Mo X) A R Y n' s₀ (.block [] env) ((Mo X).den (.block [] env)) fs s₁
      | some v => wpAny (Mo X) (A.over (.forLoop target it body [] env) fs) (letOwnedTupleGo target it v) (fun _ s₂ => wpAny (Mo X) (A.over (.forLoop target it body [] env) fs) (PySem.assign target env v) (fun _ s₃ =>
          Seg (Mo X) A R Y n s₀ (.forLoop target it body [] env) ((execs body env).wrap (loopK target it body env) (loopH env) id id) fs s₃) (fun _ _ => False) s₂) (fun _ _ => False) s₁) (fun _ _ => False) s) :
    Seg (Mo X) A R Y n s₀ (.forLoop target it body [] env) ((Mo X).den (.forLoop target it body [] env)) fs s := by
  show Seg _ A R Y n s₀ _ ((forTurn target it body [] env).onRaise (fun x => do noteFrame x env; theTreesLotGoes x)) fs s
  rw [Sem.onRaise_eq_wrap]
  unfold forTurn
  refine seg_bind_wrap (wpAny_standAt ?_)
  refine seg_bind_wrap (wpAny_onRaise (wpAny_mono h (fun r s₁ h₁ => ?_) fun _ _ q => q.elim))
  cases r with
  | none => exact seg_again rfl (h₁ rfl)
  | some v =>
    refine seg_bind_wrap (wpAny_mono h₁ (fun _ s₂ h₂ => ?_) fun _ _ q => q.elim)
    refine seg_bind_wrap (wpAny_mono h₂ (fun _ s₃ h₃ => ?_) fun _ _ q => q.elim)
    rw [Sem.bind_eq_wrap', Sem.wrap_wrap]
    rw [Sem.wrap_congr (execs body env) _ _ (K' := loopK target it body env) (H' := loopH env) (fun f => by cases f <;> rfl) (fun e => by
      first | rfl | (show (do noteFrame e env; theTreesLotGoes e : Sem Unit).bind (fun _ => .raise e) = _; rw [Sem.bind_eq_wrap]; rfl))]
    exact h₃
theorem seg_blockEnd (h : Seg (Mo X) A R Y n s₀ (.block [] env) (.pure (.done .next)) fs s) : Seg (Mo X) A R Y n s₀ (.block [] env) ((Mo X).den (.block [] env)) fs s := by
  show Seg _ A R Y n s₀ _ (do return Fin.done (← (execs [] env).onRaise (fun x => do noteFrame x env; theTreesLotGoes x))) fs s
  exact h
end
end
section
variable {X : Wd} {k : Nat} {f : FS}
/-- what stands where a generator's frame is made -/
structure GS (X : Wd) (sb : Shared) (envg : Env) (Lg l : Addr) (things : List PV) (V0 : List (Str × PV)) : Prop where
  live : Live X sb.heap
  tabLt : ∀ b, isTab X b → b < sb.heap.objs.size
  hL : envg.locals = Lg
  hfr : envg.frame = some Lg
  ge : sb.heap.objs.size ≤ Lg
  kind : envg.scope.kind = .function
  glob : envg.globals = mainGlobals
  blt : envg.builtins = builtinsNs
  hl : Rd sb.heap (isTab X) (.lst things) (.ref l)
  cell : ∀ x p, V0.lookup x = some p → envg.kindOf x ≠ some .local ∧ ∃ c v, envg.cells.lookup x = some c ∧ sb.heap.IsCell c (some v) ∧ Rd sb.heap (isTab X) p v
  cellv : ∀ n c, envg.cells.lookup n = some c → ∃ v, sb.heap.IsCell c v
/-- the generator's part of a state, between two of its turns -/
noncomputable def GW (X : Wd) (sb : Shared) (Lg I l i : Nat) (s : Shared) : Prop :=
  Grow X { sb with gens := s.gens } s ∧ (∃ m, s.heap.Ns Lg m) ∧ s.heap.IsListIter I l i ∧ sb.heap.objs.size ≤ I ∧ I ≠ Lg
noncomputable abbrev gFS (X : Wd) (sb : Shared) (g : Array GenState) (envg : Env) (V : List (Str × PV)) (own : List Addr) : FS := ⟨{ sb with gens := g }, isTab X, envg, V, own, []⟩
theorem live_push {s : Shared} {envg : Env} {Lg : Addr} {m} (l : Live X s.heap) (hfr : envg.frame = some Lg) (hk : envg.scope.kind = .function) (h0 : X.H.get? Lg = none) (hn : s.heap.Ns Lg m) : Live (X.push envg) s.heap :=
  ⟨l.old, l.t33, l.t85, l.low, fun env he => by
    rcases List.mem_cons.mp he with rfl | he
    · exact ⟨by rw [hk]; decide, Lg, m, hfr, h0, hn⟩
    · exact l.frs env he⟩
theorem isTab_push {envg : Env} {Lg b : Addr} (hfr : envg.frame = some Lg) : isTab (X.push envg) b ↔ isTab X b ∨ b = Lg := by
  unfold isTab
  rw [Wd.push_frs hfr, List.mem_cons]
  constructor
  · rintro (h | h | h | h)
    · exact .inl (.inl h)
    · exact .inl (.inr (.inl h))
    · exact .inr h
    · exact .inl (.inr (.inr h))
  · rintro ((h | h | h) | h)
    · exact .inl h
    · exact .inr (.inl h)
    · exact .inr (.inr (.inr h))
    · exact .inr (.inr (.inl h))
theorem Grow.pushed {s₀ s : Shared} {envg : Env} {Lg : Addr} {m} (G : Grow X s₀ s) (hfr : envg.frame = some Lg) (hk : envg.scope.kind = .function) (h0 : X.H.get? Lg = none) (hn : s.heap.Ns Lg m) (hge : s₀.heap.objs.size ≤ Lg) : Grow (X.push envg) s₀ s :=
  ⟨live_push G.live hfr hk h0 hn, fun b o ht e => G.keep b o (fun q => ht ((isTab_push hfr).mpr (.inl q))) e, G.size, G.os, fun b m' hb hn' => by
    rw [Wd.push_frs hfr] at hb
    rcases List.mem_cons.mp hb with rfl | hb
    · exact absurd hn'.lt (Nat.not_lt.mpr hge)
    · exact G.frm b m' hb hn', G.gens⟩
theorem Grow.popped {s₀ s : Shared} {envg : Env} {Lg : Addr} (G : Grow (X.push envg) s₀ s) (hfr : envg.frame = some Lg) (hge : s₀.heap.objs.size ≤ Lg) : Grow X s₀ s :=
  ⟨⟨G.live.old, G.live.t33, G.live.t85, G.live.low, fun env he => G.live.frs env (.tail _ he)⟩, fun b o ht e => G.keep b o (fun q => by
      rcases (isTab_push hfr).mp q with q | q
      · exact ht q
      · rw [q] at e; exact absurd (Heap.lt_size e) (Nat.not_lt.mpr hge)) e, G.size, G.os, fun b m hb hn => G.frm b m (by rw [Wd.push_frs hfr]; exact .tail _ hb) hn, G.gens⟩
theorem GS.fok {sb : Shared} {envg : Env} {Lg l : Addr} {things : List PV} {V0 : List (Str × PV)} (T : GS X sb envg Lg l things V0) {s : Shared} {own : List Addr} (G : Grow X { sb with gens := s.gens } s) {m : Str → Option Value} (hn : s.heap.Ns Lg m)
    (hown : Lg ∈ own) (hnd : own.Nodup) (hge : ∀ b ∈ own, sb.heap.objs.size ≤ b ∧ Solid s.heap b) : FS.Ok (X.push envg) (gFS X sb s.gens envg V0 own) s := by
  have H0 : X.H.get? Lg = none := none_of_le (Nat.le_trans T.live.low T.ge)
  have G' := G.pushed T.hfr T.kind H0 hn T.ge
  have mlt : ∀ b, isTab X b → b < sb.heap.objs.size := T.tabLt
  have nn : ∀ b o, ¬ isTab X b → sb.heap.get? b = some o → s.heap.get? b = some o ∧ ¬ FS.mu' (gFS X sb s.gens envg V0 own) b := fun b o hb e => ⟨G.keep b o hb e, fun h => by
    rcases h with h | h | h
    · exact hb h
    · exact absurd (Heap.lt_size e) (Nat.not_lt.mpr (hge b h).1)
    · simp at h⟩
  have kc : ∀ {c v}, sb.heap.IsCell c v → s.heap.IsCell c v := fun {c v} hc => IsCell_of hc fun o e => G.keep c o (tab_not_cell T.live hc) e
  exact {
    grow := G'
    muLt := mlt
    mu33 := .inl rfl
    mu85 := .inr (.inl rfl)
    mfr := fun b hb => by
      rw [Wd.push_frs T.hfr] at hb
      rcases List.mem_cons.mp hb with rfl | hb
      · exact .inr hown
      · exact .inl (.inr (.inr hb))
    apart := by show (own ++ []).Nodup; rw [List.append_nil]; exact hnd
    fresh := fun b hb => by
      have hb : b ∈ own ++ [] := hb
      rw [List.append_nil] at hb
      exact ⟨(hge b hb).1, (hge b hb).2.lt⟩
    locs := by show envg.locals ∈ own; rw [T.hL]; exact hown
    kind := T.kind
    glob := T.glob
    blt := T.blt
    hlow := T.live.low
    ns := ⟨m, by show s.heap.Ns envg.locals m; rw [T.hL]; exact hn, fun x p hx hk => absurd hk (T.cell x p hx).1⟩
    cell := fun x p hx hk => by
      obtain ⟨_, c, v, h1, h2, h3⟩ := T.cell x p hx
      exact ⟨c, v, h1, kc h2, h3.mono fun b o hb e => nn b o hb e⟩
    led := fun a mo hm => by simp at hm
    solid := fun b hb => by
      have hb : b ∈ own ++ [] := hb
      rw [List.append_nil] at hb
      exact (hge b hb).2
    cellv := fun n c hc => let ⟨v, hv⟩ := T.cellv n c hc; ⟨v, kc hv⟩ }
theorem GS.things {sb : Shared} {envg : Env} {Lg l : Addr} {things : List PV} {V0 : List (Str × PV)} (T : GS X sb envg Lg l things V0) {s : Shared} (G : Grow X { sb with gens := s.gens } s) : ∃ vs, s.heap.IsList l vs ∧ RdL sb.heap (isTab X) things vs.toList ∧ l < sb.heap.objs.size ∧ sb.heap.IsList l vs := by
  obtain ⟨a, o, vs, n, e, hm, h1, h2, h3, h4⟩ := T.hl
  cases e
  exact ⟨vs, ⟨o, G.keep _ _ hm h1, h2, n, h3⟩, h4, Heap.lt_size h1, o, h1, h2, n, h3⟩
/-- what a turn of the generator's leaves as it was -/
noncomputable def Kp (X : Wd) (Lg I : Addr) (s₀ s : Shared) : Prop := (∀ b o, b ≠ Lg → b ≠ I → ¬ isTab X b → s₀.heap.get? b = some o → s.heap.get? b = some o) ∧ ∀ b, b ≠ I → Solid s₀.heap b → Solid s.heap b
theorem Kp.refl {Lg I : Addr} {s : Shared} : Kp X Lg I s s := ⟨fun _ _ _ _ _ e => e, fun _ _ h => h⟩
theorem Kp.trans {Lg I : Addr} {s t u : Shared} (a : Kp X Lg I s t) (b : Kp X Lg I t u) : Kp X Lg I s u := ⟨fun c o h1 h2 h3 e => b.1 c o h1 h2 h3 (a.1 c o h1 h2 h3 e), fun c hc h => b.2 c hc (a.2 c hc h)⟩
theorem Kp.step {Lg I : Addr} {s s' : Shared} {sb : Shared} {g : Array GenState} {envg : Env} {V V' : List (Str × PV)} (S : Step (gFS X sb g envg V [I, Lg]) s (gFS X sb g envg V' [I, Lg]) s') : Kp X Lg I s s' :=
  ⟨fun b o h1 h2 h3 e => S.keep b o h3 (by intro q; cases q) (fun q => by
    rcases List.mem_cons.mp q with q | q
    · exact absurd q h2
    · exact absurd (List.mem_singleton.mp q) h1) e, fun b _ h => S.solid b h⟩
end
section
variable {X : Wd} {k : Nat} {f : FS}
noncomputable def cntP (things : List PV) (P : PV → Bool) (i : Nat) : Nat := ((things.drop i).filter P).length
theorem cnt_end (things : List PV) (P : PV → Bool) : cntP things P things.length = 0 := by unfold cntP; simp
theorem cnt_get {things : List PV} {P : PV → Bool} {i : Nat} {p : PV} (h : things[i]? = some p) : cntP things P i = (if P p = true then 1 else 0) + cntP things P (i + 1) := by
  unfold cntP
  obtain ⟨h1, e1⟩ := List.getElem?_eq_some_iff.mp h
  rw [List.drop_eq_getElem_cons h1, e1, List.filter_cons]
  split
  · rw [List.length_cons]; omega
  · omega
noncomputable def Wk (l I : Addr) (s₀ : Shared) : Prop := s₀.heap.objs.size ≤ I ∨ ∃ i, s₀.heap.IsListIter I l i
noncomputable def selY (X : Wd) (sb : Shared) (Lg l : Addr) (things : List PV) (P : PV → Bool) : Protocol := fun m s₀ v s kap =>
  ∃ I i p, things[i]? = some p ∧ P p = true ∧ m = cntP things P (i + 1) ∧ (∃ vs, sb.heap.IsList l vs ∧ vs[i]? = some v) ∧ GW X sb Lg I l (i + 1) s ∧ Kp X Lg I s₀ s ∧ Wk l I s₀ ∧ liveAt s.gens = liveAt s₀.gens ∧ ∀ s'', GW X sb Lg I l (i + 1) s'' → kap (.send .none) s''
noncomputable def selR (X : Wd) (sb : Shared) (Lg l : Addr) : GenEnd := fun n s₀ r s₁ => r = .ok (.ret .none) ∧ (n = 0 ∧ ∃ I, Kp X Lg I s₀ s₁ ∧ Wk l I s₀ ∧ sb.heap.objs.size ≤ I ∧ Grow X { sb with gens := s₁.gens } s₁ ∧ (∃ m, s₁.heap.Ns Lg m) ∧ liveAt s₁.gens = liveAt s₀.gens)
theorem Grow.regens {sb s : Shared} {g : Array GenState} (G : Grow X { sb with gens := g } s) : Grow X { sb with gens := s.gens } s := ⟨G.live, G.keep, G.size, G.os, G.frm, rfl⟩
theorem FS.Ok.gw {sb : Shared} {envg : Env} {Lg l I : Addr} {things : List PV} {V0 V : List (Str × PV)} {i : Nat} {g : Array GenState} {s : Shared} (T : GS X sb envg Lg l things V0) (F : FS.Ok (X.push envg) (gFS X sb g envg V [I, Lg]) s) (hi : s.heap.IsListIter I l i) : GW X sb Lg I l i s := by
  refine ⟨(F.grow.popped T.hfr T.ge).regens, ?_, hi, (F.fresh I (.head _)).1, fun q => ?_⟩
  · obtain ⟨m, hn, _⟩ := F.ns
    exact ⟨m, by have hn : s.heap.Ns envg.locals m := hn; rw [T.hL] at hn; exact hn⟩
  · have := F.apart
    rw [q] at this
    simp at this
noncomputable def PreOk (X : Wd) (k : Nat) (sb : Shared) (envg : Env) (V0 : List (Str × PV)) (V1 : PV → List (Str × PV)) (p : PV) (g : Array GenState) (own : List Addr) : Option Stmt → Prop
  | none => V1 p = (("elem" : Str), p) :: V0
  | some st => ∃ x px e pos q, st = .Assign [.Name x px] e pos ∧ x ≠ ("elem" : Str) ∧ envg.kindOf x = some .local ∧ V1 p = (x, q) :: (("elem" : Str), p) :: V0 ∧ Ev (X.push envg) k (gFS X sb g envg ((("elem" : Str), p) :: V0) own) e q ∧ swapsWith e (some (.Name x px)) pos.line envg = pure false
theorem gStore {A : Around} {g : Array GenState} {sb : Shared} {envg : Env} {Lg I : Addr} {V : List (Str × PV)} {s : Shared} {x : Str} {p : PV} {v : Value} {Q : Unit → Shared → Prop} (hL : envg.locals = Lg) (F : FS.Ok (X.push envg) (gFS X sb g envg V [I, Lg]) s) (hl : envg.kindOf x = some .local) (hv : Rd s.heap (gFS X sb g envg V [I, Lg]).mu' p v)
    (h : ∀ s', FS.Ok (X.push envg) (gFS X sb g envg ((x, p) :: V) [I, Lg]) s' → Step (gFS X sb g envg V [I, Lg]) s (gFS X sb g envg ((x, p) :: V) [I, Lg]) s' → (∀ m, s.heap.Ns Lg m → s'.heap.Ns Lg fun y => if y = x then some v else m y) → Q () s') : wpAny (Mo X) A (storeName envg x v) Q (fun _ _ => False) s := by
  obtain ⟨m, hn, hm⟩ := F.ns
  refine wpAny_storeName_local hl hn (fun h' hn' hs => h _ (F.setLoc hl hv hn hm hn' hs) ?_ fun m' hm' => ?_) (by rw [F.kind]; rfl)
  · exact Step.same F.locs (fun o e => by
      obtain ⟨o', es, ep, e', d', _⟩ := hn
      rw [e] at e'; cases e'; exact .inl ⟨_, _, d'⟩) hs (.ns hn')
  · have e : m' = m := by
      obtain ⟨o, es, ep, e1, d1, _, f1⟩ := hm'
      obtain ⟨o', es', ep', e2, d2, _, f2⟩ := hn
      have e2 : s.heap.get? envg.locals = some o' := e2
      rw [hL, e1] at e2; cases e2; rw [d1] at d2; cases d2
      funext y
      exact (f1 y).symm.trans (f2 y)
    rw [e, ← hL]
    exact hn'
theorem seg_sel {A : Around} {sb : Shared} {envg : Env} {Lg l I : Addr} {things : List PV} {P : PV → Bool} {V0 : List (Str × PV)} (T : GS X sb envg Lg l things V0) {x1 y1 y2 y3 y4 : Pos} {pre : Option Stmt} {test : Expr} (V1 : PV → List (Str × PV)) {fs : List Frame}
    (hel : envg.kindOf "elem" = some .local) (hco : envg.scope.isCoroutine = false) (hint : interactive envg = false) (hfs : splitAtGen fs = none) (hfg : fs.any Frame.guarded = false)
    (R : Room (X.push envg) (A.over (.forLoop (.Name "elem" x1) (.ref I) (pre.toList ++ [.If test [.Expr (.Yield (some (.Name "elem" y1)) y2) y3] [] y4]) [] envg) fs) k)
    (hpre : ∀ p ∈ things, ∀ g own, PreOk X k sb envg V0 V1 p g own pre)
    (helem : ∀ p ∈ things, (V1 p).lookup ("elem" : Str) = some p) (hV1 : ∀ p ∈ things, ∀ x q, V0.lookup x = some q → (V1 p).lookup x = some q)
    (htest : ∀ p ∈ things, ∀ g own, Tv (X.push envg) k (gFS X sb g envg (V1 p) own) test (P p))
    (hend : ∀ s₀ s, (∃ I, Kp X Lg I s₀ s ∧ Wk l I s₀ ∧ sb.heap.objs.size ≤ I ∧ Grow X { sb with gens := s.gens } s ∧ (∃ m, s.heap.Ns Lg m) ∧ liveAt s.gens = liveAt s₀.gens) → Seg (Mo X) A (selR X sb Lg l) (selY X sb Lg l things P) 0 s₀ (.block [] envg) (.pure (.done .next)) fs s) :
    ∀ (d i : Nat) (s₀ s : Shared), things.length - i = d → i ≤ things.length → FS.Ok (X.push envg) (gFS X sb s₀.gens envg V0 [I, Lg]) s → s.heap.IsListIter I l i → Kp X Lg I s₀ s → Wk l I s₀ →
      Seg (Mo X) A (selR X sb Lg l) (selY X sb Lg l things P) (cntP things P i) s₀ (.forLoop (.Name "elem" x1) (.ref I) (pre.toList ++ [.If test [.Expr (.Yield (some (.Name "elem" y1)) y2) y3] [] y4]) [] envg)
        ((Mo X).den (.forLoop (.Name "elem" x1) (.ref I) (pre.toList ++ [.If test [.Expr (.Yield (some (.Name "elem" y1)) y2) y3] [] y4]) [] envg)) fs s := by
  have hh := R.hd
  intro d
  induction d with
  | zero =>
    intro i s₀ s hd hi F hit hK hW
    have hin : i = things.length := by omega
    subst hin
    obtain ⟨vs, hl, hx, hlt, hlb⟩ := T.things (F.grow.popped T.hfr T.ge).regens
    have hIl : l ≠ I := fun q => absurd (q ▸ hlt) (Nat.not_lt.mpr (F.fresh I (.head _)).1)
    have W := Walks.list (prog := prog) (w := X.w) hh I l hIl vs
    rw [hx.size] at W
    have itI : ∀ b ∈ [I], Iterish s.heap b := fun b hb => by
      rw [List.mem_singleton.mp hb]
      obtain ⟨o, e1, _, e3⟩ := hit
      exact ⟨o, e1, .inl ⟨_, e3, fun q t => by simp⟩⟩
    have hILg : Lg ∉ [I] := fun q => by
      have := F.apart
      rw [List.mem_singleton.mp q] at this
      simp at this
    refine seg_forLoop (W.done s _ _ ⟨hit, hl⟩ fun h' tk hk => ?_)
    intro n' hn'
    rw [cnt_end] at hn'
    subst hn'
    have F' := F.walked (wr := [I]) (own' := [Lg]) (h' := h') (t := tk) (fun b hb => by rw [List.mem_singleton.mp hb]; exact .head _) hk itI (List.sublist_cons_self _ _) (fun b hb hw => absurd (List.mem_singleton.mp hb ▸ hw) hILg) (by rw [show (gFS X sb s₀.gens envg V0 [I, Lg]).env.locals = Lg from T.hL]; exact .head _) (fun b hb hw => by
      rcases List.mem_cons.mp hb with q | q
      · exact absurd (List.mem_singleton.mpr q) hw
      · exact q)
    refine seg_blockEnd (hend s₀ _ ⟨I, ⟨fun b o h1 h2 h3 e => hk b o (by simpa using h2) (hK.1 b o h1 h2 h3 e), fun b hb h => (hK.2 b hb h).of fun o e => hk b o (by simpa using hb) e⟩, hW, (F.fresh I (.head _)).1, (F'.grow.popped T.hfr T.ge).regens, ?_, F'.grow.gens⟩)
    obtain ⟨m, hn, _⟩ := F'.ns
    exact ⟨m, by have hn : Heap.Ns h' envg.locals m := hn; rw [T.hL] at hn; exact hn⟩
  | succ d ih =>
    intro i s₀ s hd hi F hit hK hW
    have hlt : i < things.length := by omega
    obtain ⟨p, hp⟩ : ∃ p, things[i]? = some p := ⟨things[i], by simp [hlt]⟩
    have hpm : p ∈ things := List.mem_of_getElem? hp
    obtain ⟨vs, hl, hx, hll, hlb⟩ := T.things (F.grow.popped T.hfr T.ge).regens
    have hIl : l ≠ I := fun q => absurd (q ▸ hll) (Nat.not_lt.mpr (F.fresh I (.head _)).1)
    have W := Walks.list (prog := prog) (w := X.w) hh I l hIl vs
    rw [hx.size] at W
    have itI : ∀ {h : Heap} {j : Nat}, h.IsListIter I l j → ∀ b ∈ [I], Iterish h b := fun {h j} hit b hb => by
      rw [List.mem_singleton.mp hb]
      obtain ⟨o, e1, _, e3⟩ := hit
      exact ⟨o, e1, .inl ⟨_, e3, fun q t => by simp⟩⟩
    refine seg_forLoop (W.item i s _ _ hlt ⟨hit, hl⟩ fun v h₁ tk₁ hPv st₁ hk₁ => ?_)
    have F₁ := F.walked (wr := [I]) (own' := [I, Lg]) (h' := h₁) (t := tk₁) (fun b hb => by rw [List.mem_singleton.mp hb]; exact .head _) hk₁ (itI hit) (List.Sublist.refl _) (fun b hb hw => by
      rw [List.mem_singleton.mp hw]
      obtain ⟨o, e1, _⟩ := st₁.1
      exact ⟨o, e1⟩) (by rw [show (gFS X sb s₀.gens envg V0 [I, Lg]).env.locals = Lg from T.hL]; exact .tail _ (.head _)) (fun b hb _ => hb)
    have K₁ : Kp X Lg I s₀ { s with heap := h₁, toks := tk₁ } := hK.trans ⟨fun b o _ h2 _ e => hk₁ b o (by simpa using h2) e, fun b hb h => h.of fun o e => hk₁ b o (by simpa using hb) e⟩
    have F₁ : FS.Ok (X.push envg) (gFS X sb s₀.gens envg V0 [I, Lg]) { s with heap := h₁, toks := tk₁ } := F₁
    have hv : Rd h₁ (gFS X sb s₀.gens envg V0 [I, Lg]).mu' p v := by
      obtain ⟨u, hu, hr⟩ := hx.get hp
      rw [Array.getElem?_toList, hPv] at hu; cases hu
      refine hr.mono fun b o hb e => ⟨(F₁.grow.popped T.hfr T.ge).keep b o hb e, fun q => ?_⟩
      rcases q with q | q | q
      · exact hb q
      · exact absurd (Heap.lt_size e) (Nat.not_lt.mpr (F₁.fresh b (List.mem_append_left _ q)).1)
      · simp at q
    refine wpAny_of_eq (rfl : letOwnedTupleGo (.Name "elem" x1) (.ref I) v = pure ()) ?_
    refine wpAny_assign_Name (gStore T.hL F₁ hel hv fun s₃ F₃ S₃ N₃ => ?_)
    have ns1 : ∃ m, Heap.Ns h₁ Lg m := by
      obtain ⟨m, hn, _⟩ := F₁.ns
      exact ⟨m, by have hn : Heap.Ns h₁ envg.locals m := hn; rw [T.hL] at hn; exact hn⟩
    have E₃ : ∃ m, s₃.heap.Ns Lg m ∧ m "elem" = some v := by
      obtain ⟨m, hn⟩ := ns1
      exact ⟨_, N₃ m hn, by simp⟩
    have F₃ : FS.Ok (X.push envg) (gFS X sb s₀.gens envg ((("elem" : Str), p) :: V0) [I, Lg]) s₃ := F₃
    have S₃ : Step (gFS X sb s₀.gens envg V0 [I, Lg]) { s with heap := h₁, toks := tk₁ } (gFS X sb s₀.gens envg ((("elem" : Str), p) :: V0) [I, Lg]) s₃ := S₃
    have K₃ := K₁.trans (Kp.step S₃)
    have keepI : ∀ {V V' : List (Str × PV)} {t t' : Shared} {j : Nat}, Step (gFS X sb s₀.gens envg V [I, Lg]) t (gFS X sb s₀.gens envg V' [I, Lg]) t' → FS.Ok (X.push envg) (gFS X sb s₀.gens envg V [I, Lg]) t → t.heap.IsListIter I l j → t'.heap.IsListIter I l j := fun S Ft hit => by
      obtain ⟨o, e1, e2, e3⟩ := hit
      refine ⟨o, S.keep I o (fun q => absurd (T.tabLt I q) (Nat.not_lt.mpr (Ft.fresh I (.head _)).1)) (by intro q; cases q) (fun _ q => ?_) e1, e2, e3⟩
      rcases q with ⟨_, _, q⟩ | ⟨_, q⟩ <;> rw [e3] at q <;> cases q
    have hit₃ := keepI S₃ F₁ st₁.1
    -- the test, and what it leads to
    have tail : ∀ {s₄ : Shared}, FS.Ok (X.push envg) (gFS X sb s₀.gens envg (V1 p) [I, Lg]) s₄ → s₄.heap.IsListIter I l (i + 1) → Kp X Lg I s₀ s₄ → (∃ m, s₄.heap.Ns Lg m ∧ m "elem" = some v) →
        Seg (Mo X) A (selR X sb Lg l) (selY X sb Lg l things P) (cntP things P i) s₀ (.forLoop (.Name "elem" x1) (.ref I) (pre.toList ++ [.If test [.Expr (.Yield (some (.Name "elem" y1)) y2) y3] [] y4]) [] envg)
          ((execs [.If test [.Expr (.Yield (some (.Name "elem" y1)) y2) y3] [] y4] envg).wrap (loopK (.Name "elem" x1) (.ref I) (pre.toList ++ [.If test [.Expr (.Yield (some (.Name "elem" y1)) y2) y3] [] y4]) envg) (loopH envg) id id) fs s₄ := fun {s₄} F₄ hit₄ K₄ E₄ => by
      refine seg_execs_cons (seg_If (b := P p) (wpAny_mono (htest p hpm _ _ _ s₄ (fun b s₅ => b = P p ∧ _) R F₄ fun s₅ G₅ F₅ => ⟨rfl, ?_⟩) (fun _ _ q => q) fun _ _ q => q.elim))
      have S₅ := Step.grow F₄ G₅
      have hit₅ := keepI S₅ F₄ hit₄
      have K₅ := K₄.trans (Kp.step S₅)
      have F₅0 : FS.Ok (X.push envg) (gFS X sb s₀.gens envg V0 [I, Lg]) s₅ := FS.Ok.forget (f := gFS X sb s₀.gens envg (V1 p) [I, Lg]) (vars := V0) F₅ (hV1 p hpm)
      cases hP : P p with
      | false =>
        rw [if_neg Bool.false_ne_true]
        refine seg_execs_nil (seg_execs_nil (seg_again rfl ?_))
        have e := cnt_get (P := P) hp
        rw [hP, if_neg Bool.false_ne_true, Nat.zero_add] at e
        rw [e]
        exact ih (i + 1) s₀ s₅ (by omega) hlt F₅0 hit₅ K₅ hW
      | true =>
        rw [if_pos rfl]
        have e := cnt_get (P := P) hp
        rw [hP, if_pos rfl, Nat.add_comm] at e
        rw [e]
        obtain ⟨mE, hnE, hmE⟩ := E₄
        have hnE5 : s₅.heap.Ns Lg mE := G₅.frm Lg mE (by rw [Wd.push_frs T.hfr]; exact .head _) hnE
        refine seg_execs_cons (seg_Expr_Yield hfs rfl hfg (wpAny_Name (wpAny_loadName_local T.kind hel (by rw [T.hL]; exact hnE5) hmE ?_) (by decide)) hco hint)
        intro kap hkap
        have gw := FS.Ok.gw T F₅ hit₅
        refine ⟨I, i, p, hp, hP, rfl, ⟨vs, hlb, hPv⟩, gw, K₅, hW, F₅.grow.gens, fun s'' gw'' => hkap _ s'' ?_⟩
        obtain ⟨g1, ⟨m, g2⟩, g3, g4, g5⟩ := gw''
        refine seg_execs_nil (seg_execs_nil (seg_again rfl ?_))
        exact ih (i + 1) s'' s'' (by omega) hlt (T.fok g1 g2 (by simp) (by simp [g5]) (fun b hb => by
          rcases List.mem_cons.mp hb with rfl | hb
          · obtain ⟨o, e1, _⟩ := g3; exact ⟨g4, o, e1⟩
          · rw [List.mem_singleton.mp hb]; exact ⟨T.ge, .ns g2⟩)) g3 .refl (.inr ⟨_, g3⟩)
    cases pre with
    | none =>
      have e : V1 p = (("elem" : Str), p) :: V0 := hpre p hpm s₀.gens [I, Lg]
      exact tail (by rw [e]; exact F₃) hit₃ K₃ E₃
    | some st =>
      obtain ⟨x, px, e, pos, q, rfl, hxe, hxl, hV, hev, hsw⟩ := hpre p hpm s₀.gens [I, Lg]
      refine seg_execs_cons (seg_exec (wpAny_Assign_Name (hev _ s₃ (fun w s₄ => wpAny (Mo X) _ (storeName envg x w) _ _ s₄) R F₃ fun w s₄ G₄ F₄ h₄ => ?_) hsw))
      refine gStore T.hL F₄ hxl h₄ fun s₅ F₅ S₅ N₅ => ?_
      have S₄ := Step.grow F₃ G₄
      have E₄ : ∃ m, s₅.heap.Ns Lg m ∧ m "elem" = some v := by
        obtain ⟨m, hn, hm⟩ := E₃
        have hn4 : s₄.heap.Ns Lg m := G₄.frm Lg m (by rw [Wd.push_frs T.hfr]; exact .head _) hn
        exact ⟨_, N₅ m hn4, by rw [if_neg (Ne.symm hxe)]; exact hm⟩
      exact tail (by rw [hV]; exact F₅) (keepI S₅ F₄ (keepI S₄ F₃ hit₃)) ((K₃.trans (Kp.step S₄)).trans (Kp.step S₅)) E₄
end
section
variable {X : Wd} {k : Nat} {f : FS}
theorem over_room {A : Around} {envg : Env} {body fbody : List Stmt} {tgt : Expr} {it : Value} {kk : Result → Sem Fin} {p : Pos} (R : Room X A (k + 2)) :
    Room (X.push envg) (A.over (.forLoop tgt it body [] envg) [.ret kk none false [] (.func fbody envg) p []]) k := by
  refine ⟨R.1, ?_, ?_, ?_⟩
  · show A.depth + 1 + 0 + k < _
    have := R.2.1
    exact Nat.lt_of_le_of_lt (by omega) this
  · show A.units + 3 + 0 + 16 * k < _
    have := R.2.2.1
    exact Nat.lt_of_le_of_lt (by omega) this
  · show (A.frames.map ([envg] ++ ·)) = _
    rw [R.frames]; rfl
theorem seg_start {A : Around} {sb : Shared} {envg : Env} {Lg l : Addr} {things : List PV} {P : PV → Bool} {V0 : List (Str × PV)} (T : GS X sb envg Lg l things V0) {x0 x1 x2 y1 y2 y3 y4 : Pos} {pre : Option Stmt} {test : Expr} (V1 : PV → List (Str × PV))
    (hel : envg.kindOf "elem" = some .local) (hrl : envg.kindOf "result" = some .local) (hco : envg.scope.isCoroutine = false) (hint : interactive envg = false) (R : Room X A (k + 2))
    (hpre : ∀ p ∈ things, ∀ g own, PreOk X k sb envg V0 V1 p g own pre)
    (helem : ∀ p ∈ things, (V1 p).lookup ("elem" : Str) = some p) (hV1 : ∀ p ∈ things, ∀ x q, V0.lookup x = some q → (V1 p).lookup x = some q)
    (htest : ∀ p ∈ things, ∀ g own, Tv (X.push envg) k (gFS X sb g envg (V1 p) own) test (P p))
    {s : Shared} (G : Grow X { sb with gens := s.gens } s) {m : Str → Option Value} (hn : s.heap.Ns Lg m) (hm : m "result" = some (.ref l)) :
    Seg (Mo X) A (selR X sb Lg l) (selY X sb Lg l things P) (cntP things P 0) s (.func [.For (.Name "elem" x1) (.Name "result" x2) (pre.toList ++ [.If test [.Expr (.Yield (some (.Name "elem" y1)) y2) y3] [] y4]) [] x0] envg)
      ((Mo X).den (.func [.For (.Name "elem" x1) (.Name "result" x2) (pre.toList ++ [.If test [.Expr (.Yield (some (.Name "elem" y1)) y2) y3] [] y4]) [] x0] envg)) [] s := by
  refine seg_func ?_
  obtain ⟨vs, hl, hx, hll, hlb⟩ := T.things G
  have hn' : s.heap.Ns envg.locals m := by rw [T.hL]; exact hn
  refine seg_execs_cons (seg_For (fun x => rfl) ?_)
  refine wpAny_Name (wpAny_loadName_local T.kind hrl hn' hm ?_) (by decide)
  refine wpAny_pyIter_list hl ?_
  intro p
  have hI : sb.heap.objs.size ≤ s.heap.objs.size := G.size
  have hLs : Lg < s.heap.objs.size := hn.lt
  have G' : Grow X s { s with heap := s.heap.push { cls := .type "list_iterator", data := .fields #[.ref l, .int 0 0] } } := .push G.live
  have G2 : Grow X { sb with gens := s.gens } { s with heap := s.heap.push { cls := .type "list_iterator", data := .fields #[.ref l, .int 0 0] } } := G.trans G'
  have hne : s.heap.objs.size ≠ Lg := Nat.ne_of_gt hLs
  have hit : (s.heap.push { cls := .type "list_iterator", data := .fields #[.ref l, .int 0 0] }).IsListIter s.heap.objs.size l 0 := ⟨_, Heap.get?_push_size _ rfl, rfl, rfl⟩
  refine seg_sel (I := s.heap.objs.size) T V1 hel hco hint rfl rfl (over_room R) hpre helem hV1 htest ?_ things.length 0 s _ (Nat.sub_zero _) (Nat.zero_le _) (T.fok (s := { s with heap := _ }) (own := [s.heap.objs.size, Lg]) G2 (hn.push _) (by simp) (by simp [hne]) ?_) hit ⟨fun b o _ _ _ e => Heap.get?_push_of_some _ e, fun b _ ⟨o, e⟩ => ⟨o, Heap.get?_push_of_some _ e⟩⟩ (.inl (Nat.le_refl _))
  · rintro s₀ s' hf
    refine seg_leaf (.ok .next) ?_
    show Seg _ _ _ _ 0 s₀ _ ((execs [] envg).wrap _ _ id id) [] s'
    refine seg_execs_nil ?_
    exact seg_end (.ok (.ret .none)) ⟨rfl, rfl, hf⟩
  · intro b hb
    rcases List.mem_cons.mp hb with rfl | hb
    · exact ⟨hI, ⟨_, Heap.get?_push_size _ rfl⟩⟩
    · rw [List.mem_singleton.mp hb]; exact ⟨T.ge, .ns (hn.push _)⟩
end
section
variable {X : Wd} {k : Nat} {f : FS}
theorem FS.Ok.regens {s : Shared} {G G' : Array GenState} (F : f.Ok X s) (h : liveAt G' = liveAt G) : ({ f with hs := { f.hs with gens := G } } : FS).Ok X { s with gens := G' } :=
  { grow := ⟨F.live, F.grow.keep, F.grow.size, F.grow.os, F.grow.frm, h⟩, muLt := F.muLt, mu33 := F.mu33, mu85 := F.mu85, mfr := F.mfr, apart := F.apart, fresh := F.fresh, locs := F.locs, kind := F.kind, glob := F.glob, blt := F.blt, hlow := F.hlow, ns := F.ns, cell := F.cell, led := F.led, solid := F.solid, cellv := F.cellv }
/-- others' objects have turned -/
theorem FS.Ok.aside {s s' : Shared} {wr : List Addr} (F : f.Ok X s) (l : Live X s'.heap) (hw : ∀ b ∈ wr, (b ∈ f.own ∧ b ≠ f.env.locals ∧ Solid s'.heap b ∧ ∀ n c, f.env.cells.lookup n = some c → b ≠ c) ∨ (f.hs.heap.objs.size ≤ b ∧ ¬ f.mu' b ∧ ∀ o, s.heap.get? b = some o → ∃ vs, o.data = .fields vs))
    (hk : ∀ b o, b ∉ wr → ¬ isTab X b → s.heap.get? b = some o → s'.heap.get? b = some o) (hn : ∀ b m, b ∈ X.frs → f.hs.heap.Ns b m → s'.heap.Ns b m) (hL : f.env.locals ∉ X.frs) (ho : s'.os = s.os) : ({ f with hs := { f.hs with gens := s'.gens } } : FS).Ok X s' := by
  have keep : ∀ b o, ¬ f.mu' b → (∀ vs, o.data ≠ .fields vs) → s.heap.get? b = some o → s'.heap.get? b = some o := fun b o hb hd e => by
    refine hk b o (fun q => ?_) (FS.not_tab F b hb) e
    rcases hw b q with h | h
    · exact hb (.inr (.inl h.1))
    · obtain ⟨vs, e'⟩ := h.2.2 o e; exact hd vs e'
  have tr : ∀ {p v}, Rd s.heap f.mu' p v → Rd s'.heap f.mu' p v := fun x => x.monoF keep
  have trL : ∀ {p v}, RdL s.heap f.mu' p v → RdL s'.heap f.mu' p v := fun x => x.monoF keep
  have hLw : f.env.locals ∉ wr := fun q => by
    rcases hw _ q with h | h
    · exact h.2.1 rfl
    · exact h.2.1 (.inr (.inl F.locs))
  have hLk : ∀ {m}, s.heap.Ns f.env.locals m → s'.heap.Ns f.env.locals m := fun {m} hn => hn.at' fun o e => hk _ o hLw (fun q => by
    rcases q with q | q | q
    · exact tab_not_ns F.live hn (.inl q)
    · exact tab_not_ns F.live hn (.inr q)
    · exact hL q) e
  have kc : ∀ {n c v}, f.env.cells.lookup n = some c → s.heap.IsCell c v → s'.heap.IsCell c v := fun {n c v} hc hv => IsCell_of hv fun o e => hk c o (fun q => by
    rcases hw c q with h | h
    · exact h.2.2.2 n c hc rfl
    · obtain ⟨vs, e'⟩ := h.2.2 o e
      obtain ⟨o2, e2, d2⟩ := hv
      rw [e] at e2; cases e2; rw [e'] at d2; cases d2) (tab_not_cell F.live hv) e
  have sol : ∀ b ∈ f.own ++ f.led.map (·.1), Solid s'.heap b := fun b hb => by
    by_cases q : b ∈ wr
    · rcases hw b q with h | h
      · exact h.2.2.1
      · exact absurd ((List.mem_append.mp hb).elim (fun z => .inr (.inl z)) fun z => .inr (.inr z)) h.2.1
    · by_cases ht : isTab X b
      · rcases ht with z | z | z
        · exact absurd (.inl z) (own_not_ct F hb)
        · exact absurd (.inr z) (own_not_ct F hb)
        · obtain ⟨_, m, o, _, _, e, _⟩ := l.fr z
          exact ⟨o, e⟩
      · exact (F.solid b hb).of fun o e => hk b o q ht e
  have hz : f.hs.heap.objs.size ≤ s'.heap.objs.size := Nat.le_of_lt (Nat.lt_of_le_of_lt (F.fresh _ (List.mem_append_left _ F.locs)).1 (sol _ (List.mem_append_left _ F.locs)).lt)
  exact {
    grow := ⟨l, fun b o ht e => hk b o (fun q => by
        rcases hw b q with h | h
        · exact absurd (Heap.lt_size e) (Nat.not_lt.mpr (F.fresh b (List.mem_append_left _ h.1)).1)
        · exact absurd (Heap.lt_size e) (Nat.not_lt.mpr h.1)) ht (F.grow.keep b o ht e), hz, ho.trans F.grow.os, fun b m hb hn' => hn b m hb hn', rfl⟩
    muLt := F.muLt, mu33 := F.mu33, mu85 := F.mu85, mfr := F.mfr, apart := F.apart, locs := F.locs, kind := F.kind, glob := F.glob, blt := F.blt, hlow := F.hlow
    fresh := fun b hb => ⟨(F.fresh b hb).1, (sol b hb).lt⟩
    ns := let ⟨m, hn, hv⟩ := F.ns; ⟨m, hLk hn, fun x p hx hk' => let ⟨v, a, b⟩ := hv x p hx hk'; ⟨v, a, tr b⟩⟩
    cell := fun x p hx hk' => let ⟨c, v, a, b, d⟩ := F.cell x p hx hk'; ⟨c, v, a, kc a b, tr d⟩
    led := fun a mo hmo => by
      have ha : a ∈ f.led.map (·.1) := List.mem_map_of_mem (f := (·.1)) hmo
      have haw : a ∉ wr := fun q => by
        rcases hw a q with h | h
        · exact (List.nodup_append.mp F.apart).2.2 a h.1 a ha rfl
        · exact h.2.1 (.inr (.inr ha))
      have := F.led a mo hmo
      cases mo with
      | lst xs => obtain ⟨o', vs, n, e, h2, h3, h4⟩ := this; exact ⟨o', vs, n, hk a o' haw (led_not_tab F ha) e, h2, h3, trL h4⟩
      | obj o' => exact hk a o' haw (led_not_tab F ha) this
    solid := sol
    cellv := fun n c hc => let ⟨v, hv⟩ := F.cellv n c hc; ⟨v, kc hc hv⟩ }
/-- an own object is let go -/
theorem FS.Ok.letGo {s : Shared} {own' : List Addr} (F : f.Ok X s) (ho : own'.Sublist f.own) (hL : f.env.locals ∈ own') (hf : ∀ b ∈ f.own, b ∈ X.frs → b ∈ own') : ({ f with own := own' } : FS).Ok X s := by
  have hsub : ∀ b, FS.mu' { f with own := own' } b → f.mu' b := fun b hb => by
    rcases hb with h | h | h
    · exact .inl h
    · exact .inr (.inl (ho.subset h))
    · exact .inr (.inr h)
  have tr : ∀ {p v}, Rd s.heap f.mu' p v → Rd s.heap (FS.mu' { f with own := own' }) p v := fun x => x.weak fun b hb => .inl (hsub b hb)
  have trL : ∀ {p v}, RdL s.heap f.mu' p v → RdL s.heap (FS.mu' { f with own := own' }) p v := fun x => x.weak fun b hb => .inl (hsub b hb)
  have inc : ∀ b, b ∈ own' ++ f.led.map (·.1) → b ∈ f.own ++ f.led.map (·.1) := fun b hb => (List.mem_append.mp hb).elim (fun h => List.mem_append_left _ (ho.subset h)) (List.mem_append_right _)
  exact {
    grow := F.grow, muLt := F.muLt, mu33 := F.mu33, mu85 := F.mu85, kind := F.kind, glob := F.glob, blt := F.blt, hlow := F.hlow, locs := hL
    mfr := fun b hb => (F.mfr b hb).elim .inl fun h => .inr (hf b h hb)
    apart := F.apart.sublist (ho.append (List.Sublist.refl _))
    fresh := fun b hb => F.fresh b (inc b hb)
    ns := let ⟨m, hn, hv⟩ := F.ns; ⟨m, hn, fun x p hx hk' => let ⟨v, a, b⟩ := hv x p hx hk'; ⟨v, a, tr b⟩⟩
    cell := fun x p hx hk' => let ⟨c, v, a, b, d⟩ := F.cell x p hx hk'; ⟨c, v, a, b, tr d⟩
    led := fun a mo hmo => by
      have := F.led a mo hmo
      cases mo with
      | lst xs => obtain ⟨o', vs, n, e, h2, h3, h4⟩ := this; exact ⟨o', vs, n, e, h2, h3, trL h4⟩
      | obj o' => exact this
    solid := fun b hb => F.solid b (inc b hb)
    cellv := F.cellv }
noncomputable def GX (X : Wd) (sb : Shared) (Lg l : Addr) (st : Option (Addr × Nat)) (s : Shared) : Prop :=
  Grow X { sb with gens := s.gens } s ∧ (∃ m, s.heap.Ns Lg m ∧ (st = none → m "result" = some (.ref l))) ∧ ∀ I i, st = some (I, i) → s.heap.IsListIter I l i ∧ sb.heap.objs.size ≤ I ∧ I ≠ Lg
theorem GX.gw {sb s : Shared} {Lg l I i : Nat} (g : GX X sb Lg l (some (I, i)) s) : GW X sb Lg I l i s := ⟨g.1, let ⟨m, h, _⟩ := g.2.1; ⟨m, h⟩, g.2.2 I i rfl⟩
theorem GW.gx {sb s : Shared} {Lg l I i : Nat} (g : GW X sb Lg I l i s) : GX X sb Lg l (some (I, i)) s := ⟨g.1, let ⟨m, h⟩ := g.2.1; ⟨m, h, fun q => by cases q⟩, fun I' i' q => by cases q; exact g.2.2⟩
theorem GX.to {sb s s' : Shared} {Lg l : Addr} {st : Option (Addr × Nat)} (g : GX X sb Lg l st s) (G : Grow X { sb with gens := s'.gens } s') (hL : ∀ o, s.heap.get? Lg = some o → s'.heap.get? Lg = some o) (hI : ∀ I i, st = some (I, i) → ∀ o, s.heap.get? I = some o → s'.heap.get? I = some o) : GX X sb Lg l st s' := by
  obtain ⟨g1, ⟨m, g2, g3⟩, g4⟩ := g
  refine ⟨G, ⟨m, g2.at' hL, g3⟩, fun I i q => ?_⟩
  obtain ⟨⟨o, e1, e2, e3⟩, h2, h3⟩ := g4 I i q
  exact ⟨⟨o, hI I i q o e1, e2, e3⟩, h2, h3⟩
theorem GX.grow {sb s s' : Shared} {Lg l : Addr} {st : Option (Addr × Nat)} (g : GX X sb Lg l st s) (hlt : ∀ b, isTab X b → b < sb.heap.objs.size) (hge : sb.heap.objs.size ≤ Lg) (G : Grow X s s') : GX X sb Lg l st s' :=
  g.to ((g.1.trans G).regens) (fun o e => G.keep _ o (fun q => absurd (hlt _ q) (Nat.not_lt.mpr hge)) e) (fun I i q o e => G.keep _ o (fun z => absurd (hlt _ z) (Nat.not_lt.mpr (g.2.2 I i q).2.1)) e)
theorem GX.poke {sb s s' : Shared} {Lg l T : Addr} {st : Option (Addr × Nat)} (g : GX X sb Lg l st s) (l₀ : Live X sb.heap) (hs : Heap.SameBut T s.heap s'.heap) (hT : sb.heap.objs.size ≤ T) (nc : NotCode s.heap T) (hTL : Lg ≠ T) (hTI : ∀ I i, st = some (I, i) → I ≠ T) (ho : s'.os = s.os) (hg : liveAt s'.gens = liveAt s.gens) : GX X sb Lg l st s' := by
  have G : Grow X { sb with gens := s.gens } { s with heap := s'.heap } := g.1.poke l₀ hs (none_of_le hT) nc
  exact g.to ⟨G.live, G.keep, G.size, ho.trans G.os, G.frm, rfl⟩ (fun o e => (hs.2 _ hTL).trans e) (fun I i q o e => (hs.2 _ (hTI I i q)).trans e)
end
section
variable {X : Wd} {k : Nat} {f : FS}
theorem liveAt_some {a : Array GenState} {i : Nat} {x : GenState} (h : liveAt a i = some x) : a[i]? = some x := by
  unfold liveAt at h
  split at h
  · cases h
  · exact h
theorem liveAt_of {a : Array GenState} {i : Nat} {x : GenState} (h : a[i]? = some x) (hx : x ≠ .finished) : liveAt a i = some x := by
  unfold liveAt
  rw [h]
  cases x <;> first | rfl | exact absurd rfl hx
theorem liveAt_set_ne {s : Shared} {g j : Nat} {x : GenState} (h : j ≠ g) : liveAt (s.setGen g x).gens j = liveAt s.gens j := by
  unfold liveAt Shared.setGen
  simp only [Array.getElem?_setIfInBounds]
  rw [if_neg (Ne.symm h)]
theorem liveAt_fin {s : Shared} {g : Nat} : liveAt (s.setGen g .finished).gens g = none := by
  unfold liveAt Shared.setGen
  simp only [Array.getElem?_setIfInBounds]
  by_cases h : g < s.gens.size
  · simp [h]
  · simp [h]
theorem GX.regens {sb s : Shared} {Lg l : Addr} {st : Option (Addr × Nat)} {G : Array GenState} (g : GX X sb Lg l st s) : GX X sb Lg l st { s with gens := G } := ⟨⟨g.1.live, g.1.keep, g.1.size, g.1.os, g.1.frm, rfl⟩, g.2⟩
theorem pick_next {things : List PV} {P : PV → Bool} {i n : Nat} {p : PV} (h : things[i]? = some p) (hP : P p = true) (hn : n = cntP things P (i + 1)) (hle : n + 1 ≤ (things.filter P).length) :
    (things.filter P).take ((things.filter P).length - n) = (things.filter P).take ((things.filter P).length - (n + 1)) ++ [p] := by
  obtain ⟨h1, e1⟩ := List.getElem?_eq_some_iff.mp h
  have e : things.filter P = (things.take i).filter P ++ p :: (things.drop (i + 1)).filter P := by
    conv => lhs; rw [← List.take_append_drop i things, List.filter_append, List.drop_eq_getElem_cons h1, e1, List.filter_cons, if_pos hP]
  have hl : (things.filter P).length = ((things.take i).filter P).length + (n + 1) := by
    rw [e, List.length_append, List.length_cons, hn]; rfl
  have a1 : (things.filter P).length - n = ((things.take i).filter P).length + 1 := by omega
  have a2 : (things.filter P).length - (n + 1) = ((things.take i).filter P).length := by omega
  rw [a1, a2, e, List.take_append_of_le_length (Nat.le_refl _), List.take_length, List.take_append, List.take_of_length_le (Nat.le_succ _), Nat.add_sub_cancel_left]
  rfl
structure GO (X : Wd) (kg : Nat) (f : FS) (things : List PV) (P : PV → Bool) (sb : Shared) (ga g Lg l : Nat) (s₂ : Shared) : Prop where
  ok : f.Ok X sb
  gx : GX X sb Lg l none s₂
  low : sb.heap.objs.size ≤ Lg
  hth : Rd sb.heap f.mu' (.lst things) (.ref l)
  gen : s₂.heap.IsGen ga g
  gaLow : sb.heap.objs.size ≤ ga
  gaLg : ga ≠ Lg
  nog : liveAt sb.gens g = .none
  only : ∀ j, j ≠ g → liveAt s₂.gens j = liveAt sb.gens j
  goes : ∃ gs, s₂.gens[g]? = some gs ∧ ∀ A' : Around, Room X A' kg → ∀ s'', GX X sb Lg l none s'' → gs.Goes (Mo X) A' (selR X sb Lg l) (selY X sb Lg l things P) (cntP things P 0) (.send .none) s''
noncomputable def tkR (things : List PV) (P : PV → Bool) (root : PV → PV) (n : Nat) : List PV := ((things.filter P).take ((things.filter P).length - n)).map root
noncomputable abbrev gF (f : FS) (sb : Shared) (G : Array GenState) (cenv : Env) (V : List (Str × PV)) (Lg D : Addr) (l : List PV) : FS := ⟨{ sb with gens := G }, f.mu', cenv, V, [Lg, cenv.locals], [(D, .lst l)]⟩
/-- the state between two turns of a comprehension over a generator -/
structure GLoop (X : Wd) (A : Around) (f : FS) (things : List PV) (P : PV → Bool) (root : PV → PV) (sb : Shared) (ga g Lg l : Nat) (cenv : Env) (D : Addr) (n : Nat) (s : Shared) : Prop where
  le : n ≤ (things.filter P).length
  ok : FS.Ok X (gF f sb s.gens cenv [] Lg D (tkR things P root n)) s
  gen : s.heap.IsGen ga g
  only : ∀ j, j ≠ g → liveAt s.gens j = liveAt sb.gens j
  run : ∃ gs st, s.gens[g]? = some gs ∧ GX X sb Lg l st s ∧ ∀ s'', GX X sb Lg l st s'' → gs.Goes (Mo X) A.in1 (selR X sb Lg l) (selY X sb Lg l things P) n (.send .none) s''
theorem selY.elim {X : Wd} {sb : Shared} {Lg l : Addr} {things : List PV} {P : PV → Bool} {m s₀ v s kap} {C : Prop} (h : selY X sb Lg l things P m s₀ v s kap)
    (k : ∀ I i p, things[i]? = some p → P p = true → m = cntP things P (i + 1) → (∃ vs, sb.heap.IsList l vs ∧ vs[i]? = some v) → GW X sb Lg I l (i + 1) s → Kp X Lg I s₀ s → Wk l I s₀ → liveAt s.gens = liveAt s₀.gens → (∀ s'', GW X sb Lg I l (i + 1) s'' → kap (.send .none) s'') → C) : C := by
  obtain ⟨I, i, p, h1, h2, h3, h4, h5, h6, h7, h8, h9⟩ := h
  exact k I i p h1 h2 h3 h4 h5 h6 h7 h8 h9
theorem gen_loop (C : Cx X) {kg : Nat} {things : List PV} {P : PV → Bool} {root : PV → PV} {sb : Shared} {ga g Lg l : Nat} {cenv : Env} {D : Addr} {x : Str} {px pos : Pos} {elt iter : Expr} {scope : Scope} {A : Around} {R' : Result → Shared → Prop} (F0 : f.Ok X sb) (hth : Rd sb.heap f.mu' (.lst things) (.ref l)) (hgaL : sb.heap.objs.size ≤ ga) (hgaLg : ga ≠ Lg) (R : Room X A (kg + 1)) (hlow : sb.heap.objs.size ≤ Lg) (hnone : liveAt sb.gens g = none)
    (hx : cenv.kindOf x = some .local) (hz : things.length ≤ 1000) (hcells : cenv.cells = [])
    (hel : ∀ p, ∀ hs mu own ys, Ev X (kg + 1) ⟨hs, mu, cenv, [(x, p)], own, [(D, .lst ys)]⟩ elt (root p) ∨ p ∉ things)
    (hR : ∀ s', FS.Ok X ⟨sb, f.mu', cenv, [], [cenv.locals], [(D, .lst ((things.filter P).map root))]⟩ s' → R' (.ok .next) s') (n : Nat) (s : Shared) (h : GLoop X A f things P root sb ga g Lg l cenv D n s) :
    codeAny (Mo X) A (.compLoop (.ListComp elt [⟨.Name x px, iter, [], 0⟩] scope pos) 0 (.ref ga) (.ref D) cenv) R' s := by
  refine compLoop_any (fun n s => GLoop X A f things P root sb ga g Lg l cenv D n s) ?_ n h
  clear h n s
  rintro n s ⟨hle, F, hgen, honly, gs, st, hgs, hgx, hgo⟩
  have hz' : (things.filter P).length ≤ 1000 := Nat.le_trans (List.length_filter_le _ _) hz
  have ap : [Lg, cenv.locals, D].Nodup := F.apart
  have hLC : Lg ≠ cenv.locals := fun q => (List.nodup_cons.mp ap).1 (by rw [q]; exact .head _)
  have hLD : Lg ≠ D := fun q => (List.nodup_cons.mp ap).1 (by rw [q]; exact .tail _ (.head _))
  have hCD : cenv.locals ≠ D := fun q => (List.nodup_cons.mp (List.nodup_cons.mp ap).2).1 (by rw [q]; exact .head _)
  have hCge : sb.heap.objs.size ≤ cenv.locals := (F.fresh _ (List.mem_append_left _ (.tail _ (.head _)))).1
  have hDge : sb.heap.objs.size ≤ D := (F.fresh D (List.mem_append_right _ (.head _))).1
  have tlt : ∀ b, isTab X b → b < sb.heap.objs.size := fun b hb => F0.mu_lt b (F0.mtab b hb)
  have hCf : cenv.locals ∉ X.frs := fun q => absurd (tlt _ (.inr (.inr q))) (Nat.not_lt.mpr hCge)
  have frm : ∀ {t : Shared}, Grow X { sb with gens := t.gens } t → ∀ b m, b ∈ X.frs → sb.heap.Ns b m → t.heap.Ns b m := fun G b m hb hn => G.frm b m hb hn
  have hLs : s.heap.Ns Lg (hgx.2.1.choose) := hgx.2.1.choose_spec.1
  -- beside the generator's run
  have beside : ∀ {s₁ : Shared} {I : Addr}, Kp X Lg I s s₁ → Wk l I s → sb.heap.objs.size ≤ I → Grow X { sb with gens := s₁.gens } s₁ → (∃ m, s₁.heap.Ns Lg m) →
      FS.Ok X (gF f sb s₁.gens cenv [] Lg D (tkR things P root n)) s₁ := fun {s₁ I} hK hW hI G hN => by
    obtain ⟨m, hN⟩ := hN
    have hIC : I ≠ cenv.locals ∧ I ≠ D := by
      rcases hW with h | ⟨j, o, e1, _, e3⟩
      · exact ⟨fun q => absurd (F.fresh _ (List.mem_append_left _ (.tail _ (.head _)))).2 (Nat.not_lt.mpr (q ▸ h)), fun q => absurd (F.fresh D (List.mem_append_right _ (.head _))).2 (Nat.not_lt.mpr (q ▸ h))⟩
      · refine ⟨fun q => ?_, fun q => ?_⟩
        · obtain ⟨m', ⟨o', es, ep, e', d', _⟩, _⟩ := F.ns
          have e' : s.heap.get? cenv.locals = some o' := e'
          rw [q, e'] at e1; cases e1; rw [d'] at e3; cases e3
        · obtain ⟨o', vs, nn, e', _, d', _⟩ := F.led D _ (.head _)
          rw [q, e'] at e1; cases e1; rw [d'] at e3; cases e3
    refine FS.Ok.aside (f := ⟨{ sb with gens := s.gens }, f.mu', cenv, [], [Lg, cenv.locals], _⟩) (wr := [Lg, I]) F G.live (fun b hb => ?_) (fun b o hb ht e => hK.1 b o (fun q => hb (by simp [q])) (fun q => hb (by simp [q])) ht e) (frm G) hCf (G.os.trans hgx.1.os.symm)
    rcases List.mem_cons.mp hb with rfl | hb
    · exact .inl ⟨.head _, hLC, .ns hN, fun nn c hc => by
        have hc : cenv.cells.lookup nn = some c := hc
        rw [hcells] at hc; cases hc⟩
    · rw [List.mem_singleton.mp hb]
      by_cases hIL : I = Lg
      · rw [hIL]
        exact .inl ⟨.head _, hLC, .ns hN, fun nn c hc => by
          have hc : cenv.cells.lookup nn = some c := hc
          rw [hcells] at hc; cases hc⟩
      · refine .inr ⟨hI, fun q => ?_, fun o e => ?_⟩
        · rcases q with q | q | q
          · exact absurd (F0.mu_lt I q) (Nat.not_lt.mpr hI)
          · rcases List.mem_cons.mp q with q | q
            · exact hIL q
            · exact hIC.1 (List.mem_singleton.mp q)
          · exact hIC.2 (by simpa using q)
        · rcases hW with h | ⟨j, o', e1, _, e3⟩
          · exact absurd (Heap.lt_size e) (Nat.not_lt.mpr h)
          · rw [e] at e1; cases e1; exact ⟨_, e3⟩
  have hNL : s.heap.NoLimit := C.nolimit.keeps F.live.old
  refine wpAny_pyNext_gen (P := fun n s₀ s₁ => n = 0 ∧ ∃ I, Kp X Lg I s₀ s₁ ∧ Wk l I s₀ ∧ sb.heap.objs.size ≤ I ∧ Grow X { sb with gens := s₁.gens } s₁ ∧ (∃ m, s₁.heap.Ns Lg m) ∧ liveAt s₁.gens = liveAt s₀.gens)
    R.hd hNL R.depth hgen hgs (hgo _ hgx.regens) ?_ ?_
  · -- a thing is handed out
    refine fun v s₁ gs' hY => selY.elim hY fun I i p hpi hP hm hv gw hK hW hgl hk => ?_
    have hpm : p ∈ things := List.mem_of_getElem? hpi
    cases n with
    | zero => exact (hk s₁ gw).elim
    | succ n =>
      have hk : ∀ s'', GW X sb Lg I l (i + 1) s'' → gs'.Goes (Mo X) A.in1 (selR X sb Lg l) (selY X sb Lg l things P) n (.send .none) s'' := hk
      have hg1 : s₁.gens[g]? = some .running := by
        refine liveAt_some ?_
        rw [hgl]
        exact liveAt_of (setGen_self hgs) (by intro q; cases q)
      have hgs' : (s₁.setGen g gs').gens[g]? = some gs' := setGen_self hg1
      have hnf : gs' ≠ .finished := fun q => by
        have := hk s₁ gw
        rw [q] at this
        exact this
      have Fa := beside hK hW gw.2.2.2.1 gw.1 gw.2.1
      have Fb := Fa.regens (G := (s₁.setGen g gs').gens) (G' := (s₁.setGen g gs').gens) rfl
      have gx1 : GX X sb Lg l (some (I, i + 1)) (s₁.setGen g gs') := gw.gx.regens
      have honly1 : ∀ j, j ≠ g → liveAt (s₁.setGen g gs').gens j = liveAt sb.gens j := fun j hj => by
        rw [liveAt_set_ne hj, hgl]
        exact (liveAt_set_ne hj).trans (honly j hj)
      have hgen1 : s₁.heap.IsGen ga g := by
        obtain ⟨o, nm, qn, e, ec, r⟩ := hgen
        refine ⟨o, nm, qn, hK.1 ga o hgaLg (fun q => ?_) (fun q => absurd (tlt _ q) (Nat.not_lt.mpr hgaL)) e, ec, r⟩
        rcases hW with hW | ⟨j, o', e1, e2, _⟩
        · exact absurd (Heap.lt_size e) (Nat.not_lt.mpr (q ▸ hW))
        · have e : s.heap.get? ga = some o := e
          have e1 : s.heap.get? I = some o' := e1
          rw [← q, e] at e1; cases e1; rw [ec] at e2; exact absurd e2 (by simp)
      generalize hS : s₁.setGen g gs' = S1 at Fb gx1 honly1 hgs'
      have hSh : S1.heap = s₁.heap := by rw [← hS]; rfl
      have Fb : FS.Ok X (gF f sb S1.gens cenv [] Lg D (tkR things P root (n + 1))) S1 := by rw [← hS] at Fb ⊢; exact Fb
      have hgen1 : S1.heap.IsGen ga g := by rw [hSh]; exact hgen1
      have hvR : Rd S1.heap (FS.mu' (gF f sb S1.gens cenv [] Lg D (tkR things P root (n + 1)))) p v := by
        obtain ⟨vs, ⟨o, a1, a2, nn, a3⟩, a4⟩ := hv
        obtain ⟨a, o', vs', nn', e, b0, b1, b2, b3, b4⟩ := hth
        cases e
        rw [a1] at b1; cases b1; rw [a3] at b3; cases b3
        obtain ⟨u, hu, hr⟩ := b4.get hpi
        rw [Array.getElem?_toList, a4] at hu; cases hu
        refine hr.mono fun b o hb e => ⟨?_, fun q => ?_⟩
        · rw [hSh]
          exact gw.1.keep b o (fun q => hb (F0.mtab b q)) e
        · have hlt := Heap.lt_size e
          rcases q with q | q | q
          · exact hb q
          · rcases List.mem_cons.mp q with q | q
            · exact absurd hlt (Nat.not_lt.mpr (q ▸ hlow))
            · exact absurd hlt (Nat.not_lt.mpr (List.mem_singleton.mp q ▸ hCge))
          · have : b = D := by simpa using q
            exact absurd hlt (Nat.not_lt.mpr (this ▸ hDge))
      refine wpAny_of_eq (rfl : letOwnedTupleGo (.Name x px) (.ref ga) v = pure ()) ?_
      refine wpAny_assign_Name (FS.Ok.setLoc' Fb hx hvR fun s₃ F₃ hs₃ hg₃ ho₃ => ?_)
      have F₃ : FS.Ok X (gF f sb S1.gens cenv [(x, p)] Lg D (tkR things P root (n + 1))) s₃ := F₃
      have nsC : ∃ m, S1.heap.Ns cenv.locals m := let ⟨m, h, _⟩ := Fb.ns; ⟨m, h⟩
      obtain ⟨mC, hnC⟩ := nsC
      have itNs : ∀ {I' : Addr} {i' : Nat} {m} {b : Addr}, S1.heap.IsListIter I' l i' → S1.heap.Ns b m → I' ≠ b := fun ⟨o, e1, _, e3⟩ ⟨o', _, _, e', d', _⟩ q => by
        rw [q, e'] at e1; cases e1; rw [d'] at e3; cases e3
      have gx3 : GX X sb Lg l (some (I, i + 1)) s₃ := gx1.poke F0.live hs₃ hCge (ns_notCode hnC) hLC (fun I' i' q => itNs (gx1.2.2 I' i' q).1 hnC) ho₃ (by rw [hg₃])
      have gaC : ga ≠ cenv.locals := fun q => by
        obtain ⟨o, nm, qn, e, _, d, _⟩ := hgen1
        obtain ⟨o', _, _, e', d', _⟩ := hnC
        rw [q, e'] at e; cases e; rw [d'] at d; cases d
      have hgen3 : s₃.heap.IsGen ga g := hgen1.sameBut hs₃ gaC
      rw [List.forIn_nil]
      refine wpAny_pure ?_
      rw [if_pos rfl]
      rcases hel p ⟨{ sb with gens := S1.gens }.heap, S1.gens, sb.drawn, sb.toks, sb.os⟩ f.mu' [Lg, cenv.locals] (tkR things P root (n + 1)) with hel | hel
      · refine wpAny_mono (hel A s₃ _ R F₃ fun y s₄ G₄ F₄ h₄ => ?_) (fun _ _ q => q) fun _ _ q => q.elim
        have gx4 := gx3.grow tlt hlow G₄
        have hgen4 : s₄.heap.IsGen ga g := by
          obtain ⟨o, nm, qn, e, r⟩ := hgen3
          exact ⟨o, nm, qn, G₄.keep _ _ (fun q => absurd (tlt _ q) (Nat.not_lt.mpr hgaL)) e, r⟩
        have hlen : (tkR things P root (n + 1)).length ≤ sizeLine := by
          unfold tkR
          rw [List.length_map, List.length_take]
          exact Nat.le_trans (Nat.min_le_right _ _) (Nat.le_trans hz' (by decide))
        refine wpAny_mono (append_led' F₄ .here h₄ hlen fun s₅ F₅ hs₅ => ?_) (fun _ _ q => q) fun _ _ q => q.elim
        refine ⟨n, Nat.lt_succ_self n, ?_⟩
        have hD4 := F₄.led D _ (.head _)
        obtain ⟨oD, vD, nD, eD1, eD2, eD3, _⟩ := hD4
        have ncD : NotCode s₄.heap D := fun o vs q tt e d => by
          rw [eD1] at e; cases e; rw [eD3] at d; cases d
        have F₅ : FS.Ok X (gF f sb S1.gens cenv [(x, p)] Lg D (tkR things P root (n + 1) ++ [root p])) s₅ := F₅
        have gx5 : GX X sb Lg l (some (I, i + 1)) s₅ := gx4.poke F0.live hs₅ hDge ncD hLD (fun I' i' q z => by
          obtain ⟨⟨o, e1, _, e3⟩, _⟩ := gx4.2.2 I' i' q
          rw [z, eD1] at e1; cases e1; rw [eD3] at e3; cases e3) (F₅.grow.os.trans F₄.grow.os.symm) (F₅.grow.gens.trans F₄.grow.gens.symm)
        have gaD : ga ≠ D := fun q => by
          obtain ⟨o, nm, qn, e, _, d, _⟩ := hgen4
          rw [q, eD1] at e; cases e; rw [eD3] at d; cases d
        have hlive5 : liveAt s₅.gens = liveAt S1.gens := F₅.grow.gens
        have F₆ := (F₅.regens (G := s₅.gens) (G' := s₅.gens) rfl).forget (vars := []) (fun y q e => by cases e)
        have e := pick_next (n := n) hpi hP hm hle
        refine ⟨Nat.le_of_succ_le hle, ?_, hgen4.sameBut hs₅ gaD, fun j hj => by rw [hlive5]; exact honly1 j hj, gs', some (I, i + 1), liveAt_some (by rw [hlive5]; exact liveAt_of hgs' hnf), gx5, fun s'' gx => hk s'' gx.gw⟩
        rw [show tkR things P root n = tkR things P root (n + 1) ++ [root p] by unfold tkR; rw [e, List.map_append]; rfl]; exact F₆
      · exact absurd hpm hel
  · -- the end
    rintro s₁ ⟨rfl, I, hK, hW, hI, G, hN, hgl⟩ h' hkeep
    have Fa := beside hK hW hI G hN
    obtain ⟨m, hN⟩ := hN
    have lF : Live X h' := {
      old := fun b o e => hkeep b o (G.live.old b o e)
      t33 := let ⟨ps, e, t, c⟩ := G.live.t33; ⟨ps, hkeep _ _ e, t, fun pos cv q => (c pos cv q).keeps hkeep⟩
      t85 := let ⟨ps, e, t, c⟩ := G.live.t85; ⟨ps, hkeep _ _ e, t, c⟩
      low := Nat.le_of_lt (Nat.lt_of_le_of_lt (Nat.le_trans F0.live.low hlow) (hN.keeps hkeep).lt)
      frs := fun env he => let ⟨a, L, m, b, c, d⟩ := G.live.frs env he; ⟨a, L, m, b, c, d.keeps hkeep⟩ }
    have Fb := FS.Ok.aside (f := ⟨{ sb with gens := s₁.gens }, f.mu', cenv, [], [Lg, cenv.locals], _⟩) (s' := { s₁.setGen g .finished with heap := h' }) (wr := []) Fa lF (fun b hb => by cases hb) (fun b o _ _ e => hkeep b o e) (fun b m hb hn => (G.frm b m hb hn).keeps hkeep) hCf rfl
    have hlive : liveAt (s₁.setGen g .finished).gens = liveAt sb.gens := by
      funext j
      by_cases hj : j = g
      · rw [hj, liveAt_fin, hnone]
      · rw [liveAt_set_ne hj, hgl]
        exact (liveAt_set_ne hj).trans (honly j hj)
    have Fc := Fb.regens (G := sb.gens) (G' := (s₁.setGen g .finished).gens) hlive
    have Fd := Fc.letGo (own' := [cenv.locals]) (List.sublist_cons_self _ _) (.head _) (fun b hb hf => by
      rcases List.mem_cons.mp hb with rfl | hb
      · exact absurd (tlt _ (.inr (.inr hf))) (Nat.not_lt.mpr hlow)
      · exact hb)
    rw [show tkR things P root 0 = (things.filter P).map root by unfold tkR; rw [Nat.sub_zero, List.take_length]] at Fd
    exact hR _ Fd
end
section
variable {X : Wd} {k : Nat} {f : FS}
noncomputable def GenSrc (X : Wd) (kg : Nat) (f : FS) (things : List PV) (P : PV → Bool) (e : Expr) : Prop :=
  ∀ A s (Q : Value → Shared → Prop), Room X A (kg + 1) → f.Ok X s → (∀ sb ga g Lg l s₂, Grow X s sb → GO X kg f things P sb ga g Lg l s₂ → Q (.ref ga) s₂) → wpAny (Mo X) A (eval e f.env) Q (fun _ _ => False) s
theorem WS.assignGen (C : Cx X) {kg : Nat} {y x : Str} {py px spos pos : Pos} {elt iter : Expr} {scope : Scope} {things : List PV} {P : PV → Bool} {root : PV → PV} {rest : List Stmt} {Ψ} (hsrc : GenSrc X kg f things P iter) (hz : things.length ≤ 1000)
    (hel : ∀ p ∈ things, ∀ hs mu C own D ys, Ev X (kg + 1) ⟨hs, mu, compEnvC scope [] C f.env, [(x, p)], own, [(D, .lst ys)]⟩ elt (root p))
    (hy : f.env.kindOf y = some .local) (hsw : swapsWith (.ListComp elt [⟨.Name x px, iter, [], 0⟩] scope pos) (some (.Name y py)) spos.line f.env = pure true)
    (hclos : closureFor scope f.env = pure []) (hcell : ∀ y ∈ scope.names, y.2 ≠ .cell) (hnames : ∀ y ∈ scope.names, y.2 = .local → scope.names.lookup y.1 = some .local) (hx : scope.names.lookup x = some .local)
    (h : WS X (kg + 1) (f.upd ((y, .lst ((things.filter P).map root)) :: f.vars) f.led) rest Ψ) (hkind : scope.kind = .function := by rfl) (hs : ∀ x, foldedSetIterable iter f.env x = pure x := by intro _; rfl) :
    WS X (kg + 1) f (.Assign [.Name y py] (.ListComp elt [⟨.Name x px, iter, [], 0⟩] scope pos) spos :: rest) Ψ := by
  refine WS.step (vars := (y, .lst ((things.filter P).map root)) :: f.vars) (led := f.led) (fun A s Q R F hQ => ?_) h
  rw [exec_Assign_Name_used _ _ _ _ hsw]
  refine wpAny_bind (wpAny_standAt (wpAny_bind ?_))
  show wpAny _ A (do let _ ← comprehension (.ListComp elt [⟨.Name x px, iter, [], 0⟩] scope pos) scope f.env _ (newList []) false (eval iter f.env) (some (PySem.assign (.Name y py) f.env))) _ _ s
  refine wpAny_bind (wpAny_mono (wpAny_comprehension_free (use := some (PySem.assign (.Name y py) f.env)) (Q := fun _ s' => Q .next s') rfl hs hclos hkind hnames
    (hsrc A s _ R F fun sb ga g Lg l s₂ G₁ O => ?_)) (fun _ s' hq => wpAny_pure (wpAny_pure hq)) fun _ _ e => e)
  refine wpAny_pyIter_gen O.gen ?_
  have F₁ : ({ f with hs := { f.hs with gens := s₂.gens } } : FS).Ok X { sb with gens := s₂.gens } := O.ok.regens rfl
  obtain ⟨mL, hnL, _⟩ := O.gx.2.1
  refine comp_enter0 (f := { f with hs := { f.hs with gens := s₂.gens } }) (wr := [Lg]) (cvars := []) F₁ O.gx.1 (by simp) (fun b hb => by rw [List.mem_singleton.mp hb]; exact ⟨O.low, hnL.lt⟩) (fun b hb => by rw [List.mem_singleton.mp hb]; exact .ns hnL) hcell hkind trivial trivial
    (RR := fun acc cenv s₄ => codeAny (Mo X) A (.compStart (.ListComp elt [⟨.Name x px, iter, [], 0⟩] scope pos) 0 (.ref ga) acc cenv) (compPost (Mo X) A (fun _ _ => False) (some (PySem.assign (.Name y py) f.env)) (fun _ s' => Q .next s') acc cenv.locals) s₄) ?_
  intro C' s₄ hC' hk₄ hg₄ G₄ F₄
  have F₁' : f.Ok X sb := O.ok
  have hge : sb.heap.objs.size ≤ C' := by rw [hC']; exact Nat.le_succ_of_le O.gx.1.size
  have loop : codeAny (Mo X) A (.compLoop (.ListComp elt [⟨.Name x px, iter, [], 0⟩] scope pos) 0 (.ref ga) (.ref s₂.heap.objs.size) (compEnvC scope [] C' f.env)) (compPost (Mo X) A (fun _ _ => False) (some (PySem.assign (.Name y py) f.env)) (fun _ s' => Q .next s') (.ref s₂.heap.objs.size) C') s₄ := by
    refine gen_loop (f := f) (P := P) (root := root) (cenv := compEnvC scope [] C' f.env) (D := s₂.heap.objs.size) C F₁' O.hth O.gaLow O.gaLg R O.low O.nog (lookup_relabel_local hx) hz rfl (fun p hs mu own ys => ?_) (fun s' F' => ?_) (cntP things P 0) s₄ ?_
    · by_cases hp : p ∈ things
      · exact .inl (hel p hp _ _ _ _ _ _)
      · exact .inr hp
    · obtain ⟨⟨m, hn⟩, F'', hr⟩ := comp_leave (f := f) F₁' (C := C') rfl F' hge
      have hCL : C' ≠ f.env.locals := fun q => by
        have := (F₁'.fresh _ (List.mem_append_left _ F₁'.locs)).2
        rw [← q] at this
        exact Nat.lt_irrefl _ (Nat.lt_of_lt_of_le this hge)
      show wpAny _ A (PySem.assign (.Name y py) f.env (.ref s₂.heap.objs.size)) _ _ _
      refine wpAny_assign_Name (FS.Ok.setLoc' (f := { f with own := C' :: f.own }) F'' hy hr fun s5 F5 hs5 hg5 ho5 => ?_)
      have hn5 : s5.heap.Ns C' m := hn.sameBut hs5 hCL
      refine ⟨m, hn5, fun h'' hs'' => ?_⟩
      have F6 : (f.upd ((y, .lst ((things.filter P).map root)) :: f.vars) f.led).Ok X { s5 with heap := h'' } := FS.Ok.drop (f := f.upd ((y, .lst ((things.filter P).map root)) :: f.vars) f.led) (t := s5.toks) F5 hs'' (ns_notCode hn5) F.locs (ns_notCell hn5) (fun q => Nat.lt_irrefl _ (Nat.lt_of_lt_of_le (F₁'.mu_lt C' (F₁'.mtab C' (.inr (.inr q)))) hge))
      refine hQ _ F6 ((Step.grow F G₁).trans ⟨fun b o h1 h2 h3 e => ?_, fun _ h => h, fun _ h => .inl h, fun _ h => .inl h, ?_⟩)
      · have hlt := Heap.lt_size e
        refine (hs''.2 b fun q => ?_).trans ((hs5.2 b fun q => ?_).trans (F'.grow.keep b o (F₁'.tabStep h1 h3 e) e))
        · subst q; exact Nat.lt_irrefl _ (Nat.lt_of_lt_of_le hlt hge)
        · subst q
          obtain ⟨m, ⟨o', es, ep, e', d', _⟩, _⟩ := F₁'.ns
          have e' : sb.heap.get? f.env.locals = some o' := e'
          rw [e] at e'; cases e'
          exact h3 F.locs (.inl ⟨_, _, d'⟩)
      · intro b hb
        have h1 : Solid s'.heap b := F'.grow.solid b hb
        have hne : b ≠ C' := fun q => by
          subst q; obtain ⟨o, e⟩ := hb; exact Nat.lt_irrefl _ (Nat.lt_of_lt_of_le (Heap.lt_size e) hge)
        have h2 : Solid s5.heap b := by
          obtain ⟨mL, hL, _⟩ := F5.ns
          exact solid_but hs5 (.ns hL) b h1
        exact h2.of fun o e => (hs''.2 b hne).trans e
    · obtain ⟨gs, hgs, hgo⟩ := O.goes
      have hn0 : cntP things P 0 = (things.filter P).length := by unfold cntP; rw [List.drop_zero]
      refine ⟨Nat.le_of_eq hn0, ?_, O.gen.keeps hk₄, fun j hj => by rw [hg₄]; exact O.only j hj, gs, .none, by rw [hg₄]; exact hgs, O.gx.to (by rw [hg₄]; exact G₄) (fun o e => hk₄ _ o e) (fun I i q => by cases q), fun s'' gx => hgo A.in1 R.in1 s'' gx⟩
      rw [hg₄, show tkR things P root (cntP things P 0) = [] by unfold tkR; rw [hn0, Nat.sub_self, List.take_zero]; rfl]
      exact F₄
  exact codeAny_compStart_list loop (wpAny_pyIter_gen (O.gen.keeps hk₄) loop)
end
section
variable {X : Wd} {k : Nat} {f : FS}
noncomputable def selEnv (sc : Scope) (clos : List (Str × Addr)) (Lg sel : Addr) (cv : Value) : Env := newEnv sc Lg mainGlobals clos ("_prepare_tag.<locals>.select" ++ ".<locals>.") (some sel) cv none builtinsNs
theorem liveAt_push_ne {a : Array GenState} {x : GenState} {j : Nat} (h : j ≠ a.size) : liveAt (a.push x) j = liveAt a j := by unfold liveAt; rw [Array.getElem?_push, if_neg h]
theorem gen_make (C : Cx X) {A : Around} {s : Shared} {Q : Value → Shared → Prop} {sel l : Addr} {p1 p2 x0 x1 x2 y1 y2 y3 y4 : Pos} {pre : Option Stmt} {test : Expr} {el : Bool} {free : List Str} {clos : List (Str × Addr)} {V0 : List (Str × PV)} {things : List PV} {P : PV → Bool} (V1 : PV → List (Str × PV))
    (R : Room X A (k + 3)) (F : f.Ok X s) (I : IsSel s.heap sel (selPar p1 p2) (selFor x0 x1 x2 y1 y2 y3 y4 pre test) (selScope el free) clos V0) (hl : Rd s.heap f.mu' (.lst things) (.ref l))
    (hfr : ∀ x p, V0.lookup x = some p → (selNames el free).lookup x = some .free) (hcell : ∀ x ∈ selNames el free, x.2 ≠ .cell)
    (hpre : ∀ cv Lg, s.heap.objs.size ≤ Lg → ∀ p ∈ things, ∀ g own, PreOk X k s (selEnv (selScope el free) clos Lg sel cv) V0 V1 p g own pre)
    (helem : ∀ p ∈ things, (V1 p).lookup ("elem" : Str) = some p) (hV1 : ∀ p ∈ things, ∀ x q, V0.lookup x = some q → (V1 p).lookup x = some q)
    (htest : ∀ cv Lg, s.heap.objs.size ≤ Lg → ∀ p ∈ things, ∀ g own, Tv (X.push (selEnv (selScope el free) clos Lg sel cv)) k (gFS X s g (selEnv (selScope el free) clos Lg sel cv) (V1 p) own) test (P p))
    (h : ∀ ga g Lg s₂, GO X (k + 2) f things P s ga g Lg l s₂ → Q (.ref ga) s₂) : wpAny (Mo X) A (call (.ref sel) [.none, .ref l]) Q (fun _ _ => False) s := by
  obtain ⟨doc, pm, cv, ctv, hfn, hrec⟩ := I.fn
  refine wpAny_call (codeAny_call_generator R.depth hfn rfl rfl rfl rfl hrec ?_)
  refine wpAny_of_eq (show bindArgs _ _ = pure [(("context" : Str), Value.none), (("result" : Str), Value.ref l)] from by rfl) ?_
  refine wpAny_newFunctionEnv hcell (fun x hx => ?_) fun h' hn hs => ⟨?_, ?_⟩
  · rcases List.mem_cons.mp hx with rfl | hx
    · rfl
    · rcases List.mem_cons.mp hx with rfl | hx
      · rfl
      · cases hx
  · exact C.nolimit.keeps fun b o e => (hs.2 b (Nat.ne_of_lt (Nat.lt_of_lt_of_le (Heap.lt_size e) F.live.low))).trans (Heap.get?_push_of_some _ (F.live.old b o e))
  · have hk : ∀ b o, s.heap.get? b = some o → h'.get? b = some o := fun b o e => (hs.2 b (Nat.ne_of_lt (Heap.lt_size e))).trans (Heap.get?_push_of_some _ e)
    have hz : h'.objs.size = s.heap.objs.size + 1 := by rw [hs.1, Heap.size_push]
    have nm : h'.Ns s.heap.objs.size _ := hn
    have hz₂ : ∀ (o : Obj), s.heap.objs.size ≤ (h'.push o).objs.size := fun o => by rw [Heap.size_push, hz]; omega
    have hk₂ : ∀ (o : Obj) b ob, s.heap.get? b = some ob → (h'.push o).get? b = some ob := fun o b ob e => Heap.get?_push_of_some _ (hk b ob e)
    have tlt : ∀ b, isTab X b → b < s.heap.objs.size := fun b hb => F.mu_lt b (F.mtab b hb)
    have hl' : Rd s.heap (isTab X) (.lst things) (.ref l) := hl.weak fun b hb => .inl (F.mtab b hb)
    refine h _ s.gens.size s.heap.objs.size _ ⟨F, ⟨.all (F.live.kept (hk₂ _) (hz₂ _)) (hk₂ _) (hz₂ _) rfl rfl, ⟨_, hn.push _, fun _ => by rfl⟩, fun I i q => by cases q⟩, Nat.le_refl _, hl, ⟨_, _, _, Heap.get?_push_size _ rfl, rfl, rfl, rfl⟩, by show _ ≤ h'.objs.size; rw [hz]; exact Nat.le_succ _, by show h'.objs.size ≠ _; rw [hz]; exact Nat.succ_ne_self _, ?_, fun j hj => ?_, ⟨.fresh (.func (selFor x0 x1 x2 y1 y2 y3 y4 pre test) (selEnv (selScope el free) clos s.heap.objs.size sel cv)), ?_, fun A' R' s'' gx => ⟨rfl, ?_⟩⟩⟩
    · unfold liveAt
      rw [Array.getElem?_eq_none (Nat.le_refl _)]
    · exact liveAt_push_ne hj
    · show (s.gens.push _)[s.gens.size]? = _
      rw [Array.getElem?_push, if_pos rfl]
      rfl
    · obtain ⟨g1, ⟨m, g2, g3⟩, -⟩ := gx
      refine seg_start (V0 := V0) ⟨F.live, tlt, rfl, rfl, Nat.le_refl _, rfl, rfl, rfl, hl', fun x p hx => ?_, I.cellv⟩ V1 (by rfl) (by rfl) rfl rfl R' (fun p hp g own => hpre cv _ (Nat.le_refl _) p hp g own) helem hV1 (fun p hp g own => htest cv _ (Nat.le_refl _) p hp g own) g1 g2 (g3 rfl)
      obtain ⟨-, c, v, e1, e2, e3⟩ := I.cell x p hx
      refine ⟨?_, c, v, e1, e2, e3 _ _⟩
      show (selNames el free).lookup x ≠ _
      rw [hfr x p hx]
      exact fun q => nomatch q
end
section
variable {X : Wd} {k : Nat} {f : FS}
noncomputable def strP (q : List Nat → Bool) : PV → Bool
  | .inst _ (.str x) => q x.cps.toList
  | _ => false
noncomputable def tagOf : PV → PV
  | .inst _ t => t
  | p => p
/-- a thing as the law makes it -/
noncomputable def thingOk (p : PV) : Prop := ∃ r t, p = .inst r t ∧ plainV r = true ∧ tagV t = true ∧ ∀ x, t = .str x → 1 ≤ x.length ∧ x.length ≤ 1000
theorem tagV_plain {t : PV} (h : tagV t = true) : plainV t = true := by cases t <;> first | rfl | cases h
theorem ev_isiG {f : FS} {q1 q2 q3 q4 : Pos} {e : Expr} {t : PV} (ht : tagV t = true) (h1 : Ev X k f (.Name "_isinstance" q1) (.raw (.builtin "isinstance"))) (h2 : Ev X k f (.Name "_str" q3) (.raw (.type "str"))) (he : Ev X k f e t)
    (hs : ∀ r, starEach (e :: r) f.env = (false, eval e f.env) :: starEach r f.env) : Ev X k f (tIsi q1 q2 q3 q4 e) (.bool (isStrV t)) :=
  Ev.call h1 Kept.bi (EvL.cons he (EvL.cons h2 EvL.nil rfl) (hs _)) (isi_op ht) ⟨hs, fun _ => rfl, trivial⟩
theorem tv_any (C : Cx X) {hs : Shared} {mu : Addr → Prop} {clos : List (Str × Addr)} {Lg sel : Addr} {cv : Value} {own : List Addr} {r t : PV} {q1 q2 q3 q4 q5 : Pos} (ht : tagV t = true) :
    Tv X k ⟨hs, mu, selEnv (selScope false ["_isinstance", "_str"]) clos Lg sel cv, ("elem", .inst r t) :: Visi, own, []⟩ (tAny q1 q2 q3 q4 q5) (isStrV t) :=
  Tv.plain (p := .bool (isStrV t)) (ev_isiG (q2 := q2) ht (by walk_at "nm") (by walk_at "nm") (Ev.attrT (r := r) C (tagV_plain ht) (by walk_at "nm")) (by intro _; rfl)) tr_b
theorem tv_bare (C : Cx X) {hs : Shared} {mu : Addr → Prop} {clos : List (Str × Addr)} {Lg sel : Addr} {cv : Value} {own : List Addr} {p t : PV} {q1 q2 q3 q4 q5 q6 q7 q8 q9 q10 : Pos} {k1 k2 : Nat} (ht : tagV t = true) (hx : ∀ x, t = .str x → 1 ≤ x.length ∧ x.length ≤ 1000) :
    Tv X k ⟨hs, mu, selEnv (selScope true ["_isinstance", "_str"]) clos Lg sel cv, ("el_tag", t) :: ("elem", p) :: Visi, own, []⟩ (tBare q1 q2 q3 q4 q5 q6 q7 q8 q9 q10 k1 k2) (strP (fun l => l.head? != some 123) (.inst .none t)) := by
  have hi : Tv X k ⟨hs, mu, selEnv (selScope true ["_isinstance", "_str"]) clos Lg sel cv, ("el_tag", t) :: ("elem", p) :: Visi, own, []⟩ (tIsi q1 q2 q3 q4 (tEl q2)) (isStrV t) :=
    Tv.plain (p := .bool (isStrV t)) (ev_isiG (q2 := q2) ht (by walk_at "nm") (by walk_at "nm") (by walk_at "nm") (by intro _; rfl)) tr_b
  cases t with
  | none => exact Tv.and_f hi
  | int i => exact Tv.and_f hi
  | str x =>
    obtain ⟨h1, h2⟩ := hx x rfl
    obtain ⟨c, l, hc⟩ : ∃ c l, x.cps.toList = c :: l := by
      cases e : x.cps.toList with
      | nil => exact absurd (show x.length = 0 from by show x.cps.size = 0; rw [← Array.length_toList, e]; rfl) (by omega)
      | cons c l => exact ⟨c, l, rfl⟩
    refine Tv.and_t hi (Tv.and_1 (Tv.of (Tv.cmp (p := .str ⟨#[c]⟩) (q := .str "{") (Ev.sub_s (x := x) (i := 0) (by walk_at "nm") (Ev.of Ev.cint rfl) ?_ (by decide) (by decide)) (by walk_at "ev") ne_ss) ?_))
    · rw [seqIndex_of (by decide) (by omega : (0 : Int) < (x.length : Nat))]
      show x.cps[0]? = some c
      rw [← Array.getElem?_toList, hc]; rfl
    · show (mkS [c] != mkS [123]) = ((x.cps.toList).head? != some 123)
      rw [hc]
      show (!(mkS [c] == mkS [123])) = (!(some c == some 123))
      rw [mkS_eq]
      congr 1
      by_cases h : c = 123
      · subst h; rfl
      · rw [beq_eq_false_iff_ne.mpr (fun q => h (by injection q)), beq_eq_false_iff_ne.mpr (fun q => h (by injection q))]
  | _ => cases ht
theorem tv_ns (C : Cx X) {hs : Shared} {mu : Addr → Prop} {clos : List (Str × Addr)} {Lg sel sl : Addr} {cv : Value} {own : List Addr} {p t : PV} {n : List Nat} {tk : Tok} {q1 q2 q3 q4 q5 q6 q7 q8 q9 q10 : Pos} (ht : tagV t = true) (hx : ∀ x, t = .str x → 1 ≤ x.length ∧ x.length ≤ 1000)
    (hsl : ∀ s, FS.Ok X ⟨hs, mu, selEnv (selScope true ["_isinstance", "_str", "ns", "ns_only"]) clos Lg sel cv, ("el_tag", t) :: ("elem", p) :: Vns sl n, own, []⟩ s → s.heap.IsSlice sl none (some ((n.length : Nat), tk)) none) :
    Tv X k ⟨hs, mu, selEnv (selScope true ["_isinstance", "_str", "ns", "ns_only"]) clos Lg sel cv, ("el_tag", t) :: ("elem", p) :: Vns sl n, own, []⟩ (tNs q1 q2 q3 q4 q5 q6 q7 q8 q9 q10) (strP (fun l => l.take n.length == n) (.inst .none t)) := by
  have hi : Tv X k ⟨hs, mu, selEnv (selScope true ["_isinstance", "_str", "ns", "ns_only"]) clos Lg sel cv, ("el_tag", t) :: ("elem", p) :: Vns sl n, own, []⟩ (tIsi q1 q2 q3 q4 (tEl q2)) (isStrV t) :=
    Tv.plain (p := .bool (isStrV t)) (ev_isiG (q2 := q2) ht (by walk_at "nm") (by walk_at "nm") (by walk_at "nm") (by intro _; rfl)) tr_b
  cases t with
  | none => exact Tv.and_f hi
  | int i => exact Tv.and_f hi
  | str x =>
    obtain ⟨h1, h2⟩ := hx x rfl
    refine Tv.and_t hi (Tv.and_1 (Tv.of (Tv.cmp (p := .str (Txt.slice x none (some ((n.length : Nat) : Int)))) (q := .str (mkS n)) (Ev.cut_o (by walk_at "nm") (by walk_at "nm") hsl (Nat.le_trans h2 (by decide))) (by walk_at "nm") eq_ss) ?_))
    rw [str_of_toList (slice_upTo x n.length)]
    exact mkS_eq _ _
  | _ => cases ht
theorem shaped_str {x : Str} (h : PyData.strOk x = true) : SeqAt.shaped (PV.str x).D = true := by
  show (PyData.strOk x && decide (0 ≤ 64)) = true
  rw [h]; rfl
theorem tv_suf (C : Cx X) {hs : Shared} {mu : Addr → Prop} {clos : List (Str × Addr)} {Lg sel sl : Addr} {cv : Value} {own : List Addr} {p t : PV} {e : List Nat} (hok : PyData.strOk (mkS e) = true) {tk : Tok} {q1 q2 q3 q4 q5 q6 q7 q8 q9 q10 q11 q12 q13 q14 : Pos} (ht : tagV t = true) (hx : ∀ x, t = .str x → 1 ≤ x.length ∧ x.length ≤ 1000)
    (hsl : ∀ s, FS.Ok X ⟨hs, mu, selEnv (selScope true ["_isinstance", "_str", "no_ns", "suffix", "tag"]) clos Lg sel cv, ("el_tag", t) :: ("elem", p) :: Vsuf sl e, own, []⟩ s → s.heap.IsSlice sl (some (-((e.length + 1 : Nat) : Int), tk)) none none) :
    Tv X (k + 4) ⟨hs, mu, selEnv (selScope true ["_isinstance", "_str", "no_ns", "suffix", "tag"]) clos Lg sel cv, ("el_tag", t) :: ("elem", p) :: Vsuf sl e, own, []⟩ (tSuf q1 q2 q3 q4 q5 q6 q7 q8 q9 q10 q11 q12 q13 q14)
      (strP (fun l => l == e || l.drop (l.length - (e.length + 1)) == 125 :: e) (.inst .none t)) := by
  have hi : Tv X (k + 4) ⟨hs, mu, selEnv (selScope true ["_isinstance", "_str", "no_ns", "suffix", "tag"]) clos Lg sel cv, ("el_tag", t) :: ("elem", p) :: Vsuf sl e, own, []⟩ (tIsi q1 q2 q3 q4 (tEl q2)) (isStrV t) :=
    Tv.plain (p := .bool (isStrV t)) (ev_isiG (q2 := q2) ht (by walk_at "nm") (by walk_at "nm") (by walk_at "nm") (by intro _; rfl)) tr_b
  cases t with
  | none => exact Tv.or_f (Tv.of (Tv.cmp (p := .none) (q := .str (mkS e)) (by walk_at "nm") (by walk_at "nm") (eq_dd rfl rfl rfl (shaped_str hok))) rfl) (Tv.or_1 (Tv.and_f hi))
  | int i => exact Tv.or_f (Tv.of (Tv.cmp (p := .int i) (q := .str (mkS e)) (by walk_at "nm") (by walk_at "nm") (eq_dd rfl rfl rfl (shaped_str hok))) rfl) (Tv.or_1 (Tv.and_f hi))
  | str x =>
    obtain ⟨h1, h2⟩ := hx x rfl
    obtain ⟨l⟩ := x
    have hl : l = l.toList.toArray := by simp
    have e1 : ((⟨l⟩ : Str) == mkS e) = (l.toList == e) := by
      rw [show (⟨l⟩ : Str) = mkS l.toList from by simp [mkS], mkS_eq]
    have h3 : Tv X (k + 4) ⟨hs, mu, selEnv (selScope true ["_isinstance", "_str", "no_ns", "suffix", "tag"]) clos Lg sel cv, ("el_tag", .str ⟨l⟩) :: ("elem", p) :: Vsuf sl e, own, []⟩ (.Compare (.Subscript (tEl q8) (.Name "no_ns" q9) q10) [.Eq] [.Name "suffix" q11] q12)
        (l.toList.drop (l.toList.length - (e.length + 1)) == 125 :: e) := by
      refine Tv.of (Tv.cmp (p := .str (Txt.slice ⟨l⟩ (some (-((e.length + 1 : Nat) : Int))) none)) (q := .str (mkS (125 :: e))) (Ev.cut_o (by walk_at "nm") (by walk_at "nm") hsl (Nat.le_trans h2 (by decide))) (by walk_at "nm") eq_ss) ?_
      rw [str_of_toList (slice_lastN ⟨l⟩ (e.length + 1) (by omega)), show (⟨l⟩ : Str).length = l.toList.length from by simp [Str.length]]
      exact mkS_eq _ _
    exact Tv.or (Tv.of (Tv.cmp (p := .str ⟨l⟩) (q := .str (mkS e)) (by walk_at "nm") (by walk_at "nm") eq_ss) e1) fun _ => Tv.or_1 (Tv.and_t hi (Tv.and_1 h3))
  | _ => cases ht
end
section
variable {X : Wd} {k : Nat} {f : FS}
theorem gen_src (C : Cx X) {kg : Nat} {things : List PV} {P : PV → Bool} {w : Str} {we te : Expr} {p1 p2 p3 p5 : Pos} {n0 : Nat} (Sel : Shared → Addr → Prop)
    (hgrow : ∀ s s' sel, Live X s.heap → Grow X s s' → Sel s sel → Sel s' sel) (hfn : ∀ s sel, Sel s sel → FnAt sel s.heap)
    (hprep : ∀ A s vs (Q : Value → Shared → Prop), Room X A (kg + 1) → Sane X f.mu' s → RdL s.heap f.mu' [.str w] vs → (∀ v s', Grow X s s' → (∃ sel, v = .ref sel ∧ Sel s' sel) → Q v s') → wpAny (Mo X) A (call (.ref 38) vs) Q (fun _ _ => False) s)
    (hmk : ∀ A s sel l (Q : Value → Shared → Prop), f.Ok X s → Room X A (kg + 1) → Sel s sel → Rd s.heap f.mu' (.lst things) (.ref l) → (∀ ga g Lg s₂, GO X kg f things P s ga g Lg l s₂ → Q (.ref ga) s₂) → wpAny (Mo X) A (call (.ref sel) [.none, .ref l]) Q (fun _ _ => False) s)
    (hg : f.env.kindOf "_prepare_tag" = some .globalImplicit) (hwe : Ev X (kg + 1) f we (.str w)) (hte : Ev X (kg + 1) f te (.lst things))
    (hs1 : ∀ r, starEach (we :: r) f.env = (false, eval we f.env) :: starEach r f.env := by intro _; rfl) (hs2 : ∀ r, starEach (te :: r) f.env = (false, eval te f.env) :: starEach r f.env := by intro _; rfl)
    (heq1 : eval (.Call (.Name "_prepare_tag" p1) [we] [] p2) f.env = (do callWith p2 (← eval (.Name "_prepare_tag" p1) f.env) [] (backTo p2 (starEach [we] f.env)) (backToKw p2 (keywordEach [] f.env))) := by rfl)
    (heq2 : eval (.Call (.Call (.Name "_prepare_tag" p1) [we] [] p2) [.Constant .none n0 p3, te] [] p5) f.env = (do callWith p5 (← eval (.Call (.Name "_prepare_tag" p1) [we] [] p2) f.env) [] (backTo p5 (starEach [.Constant .none n0 p3, te] f.env)) (backToKw p5 (keywordEach [] f.env))) := by rfl) :
    GenSrc X kg f things P (.Call (.Call (.Name "_prepare_tag" p1) [we] [] p2) [.Constant .none n0 p3, te] [] p5) := by
  intro A s Q R F hQ
  have hf : Ev X (kg + 1) f (.Name "_prepare_tag" p1) (.raw (.ref 38)) := Ev.glo C (fun P => by with_unfolding_all rfl) hg
  refine Call_ ?_ heq2
  refine EvCall hf (Kept.fn C fun P => by kernel_rfl) (EvL.cons hwe EvL.nil (hs1 _)) R F (fun vs s₁ G₁ F₁ h₁ => ?_) ⟨hs1, trivial⟩ heq1
  refine hprep A s₁ vs _ R F₁.sane h₁ fun v s₂ G₂ hv => ?_
  obtain ⟨sel, rfl, hsel⟩ := hv
  have F₂ := F₁.grown F₁.live G₂
  have hst : ∀ e' ∈ [Expr.Constant .none n0 p3, te], ∀ r, starEach (e' :: r) f.env = (false, eval e' f.env) :: starEach r f.env := fun e' h r => by
    rcases List.mem_cons.mp h with rfl | h
    · rfl
    · rw [List.mem_singleton.mp h]; exact hs2 r
  refine callWith_F (hfn _ _ hsel) (EvL.cons Ev.cnone (EvL.cons hte EvL.nil (hs2 _)) rfl A s₂ _ R F₂ fun vs s₃ G₃ F₃ h₃ => ⟨hfn _ _ (hgrow _ _ _ F₂.live G₃ hsel), ?_⟩) (hst _ (.head _) _) (by
    have := EvL.len (f := f) (pos := p5) (es := [te]) fun e' h r => by rw [List.mem_singleton.mp h]; exact hs2 r
    exact this)
  obtain ⟨v1, r1, rfl, hv1, v2, r2, rfl, hv2, hr⟩ := h₃
  cases hr
  cases hv1
  obtain ⟨l, o, vs', n', rfl, hrest⟩ := hv2
  exact hmk A s₃ sel l Q F₃ R (hgrow _ _ _ F₂.live G₃ hsel) ⟨l, o, vs', n', rfl, hrest⟩ fun ga g Lg s₄ O => hQ s₃ ga g Lg l s₄ ((G₁.trans G₂).trans G₃) O
end
section
variable {X : Wd} {k : Nat} {f : FS}
theorem slice_stays {sb s : Shared} {g : Array GenState} {env : Env} {V : List (Str × PV)} {own : List Addr} {Lg sl : Addr} {l u st : Option (Int × Tok)} (hL : Live X sb.heap) (hfr : env.frame = some Lg) (hge : sb.heap.objs.size ≤ Lg) (h : sb.heap.IsSlice sl l u st)
    (F : FS.Ok (X.push env) (gFS X sb g env V own) s) : s.heap.IsSlice sl l u st := by
  obtain ⟨o, e, hc, hd⟩ := h
  refine ⟨o, F.grow.keep sl o (fun ht => ?_) e, hc, hd⟩
  rcases (isTab_push hfr).mp ht with ht | ht
  · rcases ht with ht | ht | ht
    · obtain ⟨ps, hp, _⟩ := hL.t33; rw [ht, hp] at e; cases e; cases hc
    · obtain ⟨ps, hp, _⟩ := hL.t85; rw [ht, hp] at e; cases e; cases hc
    · obtain ⟨_, m, o', es, ep, e', d', _⟩ := hL.fr ht
      rw [e] at e'; cases e'; rw [d'] at hd; cases hd
  · rw [ht] at e; exact Nat.lt_irrefl _ (Nat.lt_of_lt_of_le (Heap.lt_size e) hge)
theorem isSel_fn {h : Heap} {sel : Addr} {params : Arguments} {body : List Stmt} {scope : Scope} {clos : List (Str × Addr)} {V0 : List (Str × PV)} (I : IsSel h sel params body scope clos V0) : FnAt sel h := let ⟨_, _, _, _, e, _⟩ := I.fn; ⟨_, _, _, _, e⟩
theorem src_any (C : Cx X) {things : List PV} (hth : ∀ p ∈ things, thingOk p) {we te : Expr} {p1 p2 p3 p5 : Pos} {n0 : Nat} (hg : f.env.kindOf "_prepare_tag" = some .globalImplicit) (hwe : Ev X (k + 3) f we (.str "{*}*")) (hte : Ev X (k + 3) f te (.lst things))
    (hs1 : ∀ r, starEach (we :: r) f.env = (false, eval we f.env) :: starEach r f.env := by intro _; rfl) (hs2 : ∀ r, starEach (te :: r) f.env = (false, eval te f.env) :: starEach r f.env := by intro _; rfl)
    (heq1 : eval (.Call (.Name "_prepare_tag" p1) [we] [] p2) f.env = (do callWith p2 (← eval (.Name "_prepare_tag" p1) f.env) [] (backTo p2 (starEach [we] f.env)) (backToKw p2 (keywordEach [] f.env))) := by rfl)
    (heq2 : eval (.Call (.Call (.Name "_prepare_tag" p1) [we] [] p2) [.Constant .none n0 p3, te] [] p5) f.env = (do callWith p5 (← eval (.Call (.Name "_prepare_tag" p1) [we] [] p2) f.env) [] (backTo p5 (starEach [.Constant .none n0 p3, te] f.env)) (backToKw p5 (keywordEach [] f.env))) := by rfl) :
    GenSrc X (k + 2) f things (strP fun _ => true) (.Call (.Call (.Name "_prepare_tag" p1) [we] [] p2) [.Constant .none n0 p3, te] [] p5) := by
  refine gen_src C (fun s sel => SelAny s.heap sel) (fun _ _ _ l G ⟨I⟩ => ⟨I.grow l G⟩) (fun _ _ ⟨I⟩ => isSel_fn I) (fun _ _ _ _ R S hvs hQ => prep_any (k := k + 1) C R S hvs hQ) ?_ hg hwe hte hs1 hs2 heq1 heq2
  rintro A s sel l Q F R ⟨I⟩ hl hQ
  refine gen_make C (fun p => (("elem" : Str), p) :: Visi) R F I hl (lookV (V := Visi) ⟨rfl, rfl, trivial⟩) (by decide) (fun _ _ _ p _ _ _ => rfl) (fun p _ => by rw [List.lookup_cons, beq_self_eq_true]) (fun p _ => lookV (V := Visi) ⟨rfl, rfl, trivial⟩) (fun cv Lg hge p hp g own => ?_) hQ
  obtain ⟨r, t, rfl, h1, h2, h3⟩ := hth p hp
  exact Tv.of (tv_any (C.push _) h2) (by cases t <;> rfl)
end
section
variable {X : Wd} {k : Nat} {f : FS}
theorem src_bare (C : Cx X) {things : List PV} (hth : ∀ p ∈ things, thingOk p) {we te : Expr} {p1 p2 p3 p5 : Pos} {n0 : Nat} (hg : f.env.kindOf "_prepare_tag" = some .globalImplicit) (hwe : Ev X (k + 7) f we (.str "{}*")) (hte : Ev X (k + 7) f te (.lst things))
    (hs1 : ∀ r, starEach (we :: r) f.env = (false, eval we f.env) :: starEach r f.env := by intro _; rfl) (hs2 : ∀ r, starEach (te :: r) f.env = (false, eval te f.env) :: starEach r f.env := by intro _; rfl)
    (heq1 : eval (.Call (.Name "_prepare_tag" p1) [we] [] p2) f.env = (do callWith p2 (← eval (.Name "_prepare_tag" p1) f.env) [] (backTo p2 (starEach [we] f.env)) (backToKw p2 (keywordEach [] f.env))) := by rfl)
    (heq2 : eval (.Call (.Call (.Name "_prepare_tag" p1) [we] [] p2) [.Constant .none n0 p3, te] [] p5) f.env = (do callWith p5 (← eval (.Call (.Name "_prepare_tag" p1) [we] [] p2) f.env) [] (backTo p5 (starEach [.Constant .none n0 p3, te] f.env)) (backToKw p5 (keywordEach [] f.env))) := by rfl) :
    GenSrc X (k + 6) f things (strP (fun l => l.head? != some 123)) (.Call (.Call (.Name "_prepare_tag" p1) [we] [] p2) [.Constant .none n0 p3, te] [] p5) := by
  refine gen_src C (fun s sel => SelBare s.heap sel) (fun _ _ _ l G ⟨I⟩ => ⟨I.grow l G⟩) (fun _ _ ⟨I⟩ => isSel_fn I) (fun _ _ _ _ R S hvs hQ => prep_bare (k := k + 5) C R S hvs hQ) ?_ hg hwe hte hs1 hs2 heq1 heq2
  rintro A s sel l Q F0 R ⟨I⟩ hl hQ
  refine gen_make (k := k + 4) C (fun p => (("el_tag" : Str), tagOf p) :: (("elem" : Str), p) :: Visi) R F0 I hl (lookV (V := Visi) ⟨rfl, rfl, trivial⟩) (by decide) (fun cv Lg hge p hp g own => ?_) (fun p _ => by rw [List.lookup_cons, beq_eq_false_iff_ne.mpr (by decide), List.lookup_cons, beq_self_eq_true]) (fun p _ => lookV (V := Visi) ⟨rfl, rfl, trivial⟩) (fun cv Lg hge p hp g own => ?_) hQ
  · obtain ⟨r, t, rfl, h1, h2, h3⟩ := hth p hp
    exact ⟨"el_tag", _, _, _, t, rfl, by decide, by rfl, rfl, Ev.attrT (r := r) (C.push _) (tagV_plain h2) (by walk_at "nm"), by rfl⟩
  · obtain ⟨r, t, rfl, h1, h2, h3⟩ := hth p hp
    exact Tv.of (tv_bare (C.push _) h2 h3) (by cases t <;> rfl)
theorem src_suf (C : Cx X) {e : List Nat} (he : e ≠ [42]) (hez : e.length ≤ 1000) (hok : PyData.strOk (mkS e) = true) {things : List PV} (hth : ∀ p ∈ things, thingOk p) {we te : Expr} {p1 p2 p3 p5 : Pos} {n0 : Nat} (hg : f.env.kindOf "_prepare_tag" = some .globalImplicit) (hwe : Ev X (k + 7) f we (.str (mkS ([123, 42, 125] ++ e)))) (hte : Ev X (k + 7) f te (.lst things))
    (hs1 : ∀ r, starEach (we :: r) f.env = (false, eval we f.env) :: starEach r f.env := by intro _; rfl) (hs2 : ∀ r, starEach (te :: r) f.env = (false, eval te f.env) :: starEach r f.env := by intro _; rfl)
    (heq1 : eval (.Call (.Name "_prepare_tag" p1) [we] [] p2) f.env = (do callWith p2 (← eval (.Name "_prepare_tag" p1) f.env) [] (backTo p2 (starEach [we] f.env)) (backToKw p2 (keywordEach [] f.env))) := by rfl)
    (heq2 : eval (.Call (.Call (.Name "_prepare_tag" p1) [we] [] p2) [.Constant .none n0 p3, te] [] p5) f.env = (do callWith p5 (← eval (.Call (.Name "_prepare_tag" p1) [we] [] p2) f.env) [] (backTo p5 (starEach [.Constant .none n0 p3, te] f.env)) (backToKw p5 (keywordEach [] f.env))) := by rfl) :
    GenSrc X (k + 6) f things (strP (fun l => l == e || l.drop (l.length - (e.length + 1)) == 125 :: e)) (.Call (.Call (.Name "_prepare_tag" p1) [we] [] p2) [.Constant .none n0 p3, te] [] p5) := by
  refine gen_src C (fun s sel => SelSuf s.heap e sel) (fun _ _ _ l G ⟨sl, tk, hs, I⟩ => ⟨sl, tk, Grow.slice l G hs, I.grow l G⟩) (fun _ _ ⟨_, _, _, I⟩ => isSel_fn I) (fun _ _ _ _ R S hvs hQ => prep_suf (k := k + 4) C he hez R S hvs hQ) ?_ hg hwe hte hs1 hs2 heq1 heq2
  rintro A s sel l Q F0 R ⟨sl, tk, hs, I⟩ hl hQ
  refine gen_make (k := k + 4) C (fun p => (("el_tag" : Str), tagOf p) :: (("elem" : Str), p) :: Vsuf sl e) R F0 I hl (lookV (V := Vsuf sl e) ⟨rfl, rfl, rfl, rfl, rfl, trivial⟩) (by decide) (fun cv Lg hge p hp g own => ?_) (fun p _ => by rw [List.lookup_cons, beq_eq_false_iff_ne.mpr (by decide), List.lookup_cons, beq_self_eq_true]) (fun p _ => lookV (V := Vsuf sl e) ⟨rfl, rfl, rfl, rfl, rfl, trivial⟩) (fun cv Lg hge p hp g own => ?_) hQ
  · obtain ⟨r, t, rfl, h1, h2, h3⟩ := hth p hp
    exact ⟨"el_tag", _, _, _, t, rfl, by decide, by rfl, rfl, Ev.attrT (r := r) (C.push _) (tagV_plain h2) (by walk_at "nm"), by rfl⟩
  · obtain ⟨r, t, rfl, h1, h2, h3⟩ := hth p hp
    exact Tv.of (tv_suf (C.push _) (tk := tk) hok h2 h3 fun s F => slice_stays F0.live rfl hge hs F) (by cases t <;> rfl)
theorem src_ns (C : Cx X) {a : Nat} {r : List Nat} (ha : (a :: r ++ [125, 42]).take 2 ≠ [42, 125]) (hrz : r.length ≤ 1000) {things : List PV} (hth : ∀ p ∈ things, thingOk p) {we te : Expr} {p1 p2 p3 p5 : Pos} {n0 : Nat} (hg : f.env.kindOf "_prepare_tag" = some .globalImplicit) (hwe : Ev X (k + 7) f we (.str (mkS (123 :: a :: r ++ [125, 42])))) (hte : Ev X (k + 7) f te (.lst things))
    (hs1 : ∀ r, starEach (we :: r) f.env = (false, eval we f.env) :: starEach r f.env := by intro _; rfl) (hs2 : ∀ r, starEach (te :: r) f.env = (false, eval te f.env) :: starEach r f.env := by intro _; rfl)
    (heq1 : eval (.Call (.Name "_prepare_tag" p1) [we] [] p2) f.env = (do callWith p2 (← eval (.Name "_prepare_tag" p1) f.env) [] (backTo p2 (starEach [we] f.env)) (backToKw p2 (keywordEach [] f.env))) := by rfl)
    (heq2 : eval (.Call (.Call (.Name "_prepare_tag" p1) [we] [] p2) [.Constant .none n0 p3, te] [] p5) f.env = (do callWith p5 (← eval (.Call (.Name "_prepare_tag" p1) [we] [] p2) f.env) [] (backTo p5 (starEach [.Constant .none n0 p3, te] f.env)) (backToKw p5 (keywordEach [] f.env))) := by rfl) :
    GenSrc X (k + 6) f things (strP (fun l => l.take (123 :: a :: r ++ [125]).length == 123 :: a :: r ++ [125])) (.Call (.Call (.Name "_prepare_tag" p1) [we] [] p2) [.Constant .none n0 p3, te] [] p5) := by
  refine gen_src C (fun s sel => SelNs s.heap (123 :: a :: r ++ [125]) sel) (fun _ _ _ l G ⟨sl, tk, hs, I⟩ => ⟨sl, tk, Grow.slice l G hs, I.grow l G⟩) (fun _ _ ⟨_, _, _, I⟩ => isSel_fn I) (fun _ _ _ _ R S hvs hQ => prep_ns (k := k + 4) C ha hrz R S hvs hQ) ?_ hg hwe hte hs1 hs2 heq1 heq2
  rintro A s sel l Q F0 R ⟨sl, tk, hs, I⟩ hl hQ
  refine gen_make (k := k + 4) C (fun p => (("el_tag" : Str), tagOf p) :: (("elem" : Str), p) :: Vns sl (123 :: a :: r ++ [125])) R F0 I hl (lookV (V := Vns sl (123 :: a :: r ++ [125])) ⟨rfl, rfl, rfl, rfl, trivial⟩) (by decide) (fun cv Lg hge p hp g own => ?_) (fun p _ => by rw [List.lookup_cons, beq_eq_false_iff_ne.mpr (by decide), List.lookup_cons, beq_self_eq_true]) (fun p _ => lookV (V := Vns sl (123 :: a :: r ++ [125])) ⟨rfl, rfl, rfl, rfl, trivial⟩) (fun cv Lg hge p hp g own => ?_) hQ
  · obtain ⟨r, t, rfl, h1, h2, h3⟩ := hth p hp
    exact ⟨"el_tag", _, _, _, t, rfl, by decide, by rfl, rfl, Ev.attrT (r := r) (C.push _) (tagV_plain h2) (by walk_at "nm"), by rfl⟩
  · obtain ⟨r, t, rfl, h1, h2, h3⟩ := hth p hp
    exact Tv.of (tv_ns (C.push _) (tk := tk) h2 h3 fun s F => slice_stays F0.live rfl hge hs F) (by cases t <;> rfl)
end
section
variable {X : Wd} {k : Nat} {f : FS}
noncomputable def tyName : PV → String
  | .int _ => "int"
  | .str _ => "str"
  | .bool _ => "bool"
  | .lst _ => "list"
  | .tup _ => "tuple"
  | _ => "NoneType"
noncomputable def tyOk : PV → Bool
  | .none | .int _ | .str _ | .bool _ | .lst _ | .tup _ => true
  | _ => false
theorem type_op {p : PV} (hp : tyOk p = true) : OpN X k [p] (fun vs => call (.type "type") vs) (.raw (.type (tyName p))) := by
  intro A s mu vs Q R S hvs hQ
  obtain ⟨v, r, rfl, hv, hr⟩ := hvs
  cases hr
  have fin : ∀ T : String, s.TypeIs v T → (Value.type T == Value.type "builtin_function_or_method") = false → tyName p = T → wpAny (Mo X) A (call (.type "type") [v]) Q (fun _ _ => False) s := fun T h1 h2 h3 =>
    call_type_of h1 h2 (hQ _ _ (.refl S.live) (by rw [h3]; rfl))
  cases p with
  | none => cases hv; exact fin "NoneType" rfl (by decide +kernel) rfl
  | int i => obtain ⟨t, rfl⟩ := hv; exact fin "int" rfl (by decide +kernel) rfl
  | bool b => cases hv; exact fin "bool" rfl (by decide +kernel) rfl
  | str x => obtain ⟨t, rfl⟩ := hv; exact fin "str" rfl (by decide +kernel) rfl
  | lst xs => obtain ⟨a, o, vs, n, rfl, h0, h1, h2, h3⟩ := hv; exact fin "list" ⟨o, h1, h2⟩ (by decide +kernel) rfl
  | tup xs => obtain ⟨a, o, vs, n, rfl, h0, h1, h2, h3⟩ := hv; exact fin "tuple" ⟨o, h1, h2⟩ (by decide +kernel) rfl
  | _ => cases hp
theorem Ev.typ (C : Cx X) {e : Expr} {p1 p2 : Pos} {p : PV} (hp : tyOk p = true) (he : Ev X k f e p) (hl : f.env.kindOf "type" = some .globalImplicit) (hs : ∀ r, starEach (e :: r) f.env = (false, eval e f.env) :: starEach r f.env := by intro _; rfl) : Ev X k f (.Call (.Name "type" p1) [e] [] p2) (.raw (.type (tyName p))) :=
  Ev.call (v := .type "type") (Ev.blt C (fun P => by kernel_rfl) (by decide +kernel) hl) Kept.ty (EvL.cons he EvL.nil (hs _)) (type_op hp) ⟨hs, trivial⟩
noncomputable def isW (W : List Str) : PV → Bool
  | .str x => W.contains x
  | _ => false
theorem any_isW {W : List Str} {t : PV} (ht : tagV t = true) : ((W.map PV.str).any fun y => PyData.eqv y.D t.D) = isW W t := by
  induction W with
  | nil => cases t <;> rfl
  | cons w W ih =>
    rw [List.map_cons, List.any_cons, ih]
    cases t with
    | none => rfl
    | int i => rfl
    | str x =>
      show (PyData.eqv (.str w) (.str x) || W.contains x) = (w :: W).contains x
      rw [List.contains_cons, PyData.eqv]
      congr 1
      exact Bool.eq_iff_iff.mpr ⟨fun h => by rw [beq_iff_eq] at h ⊢; exact h.symm, fun h => by rw [beq_iff_eq] at h ⊢; exact h.symm⟩
    | _ => cases ht
theorem shaped_tag {t : PV} (ht : tagV t = true) (hx : ∀ x, t = .str x → PyData.strOk x = true) : SeqAt.shaped t.D = true := by
  cases t with
  | none => rfl
  | int i => rfl
  | str x => exact shaped_str (hx x rfl)
  | _ => cases ht
theorem dat_tag {t : PV} (ht : tagV t = true) : t.dat = true := by cases t <;> first | rfl | cases ht
noncomputable def WildOk (w : Str) (q : List Nat → Bool) : Prop := ∀ (X : Wd) (_ : Cx X) (k : Nat) (f : FS) (things : List PV) (_ : ∀ p ∈ things, thingOk p) (we te : Expr) (p1 p2 p3 p5 : Pos) (n0 : Nat) (_ : f.env.kindOf "_prepare_tag" = some .globalImplicit) (_ : Ev X (k + 7) f we (.str w)) (_ : Ev X (k + 7) f te (.lst things))
    (_ : ∀ r, starEach (we :: r) f.env = (false, eval we f.env) :: starEach r f.env) (_ : ∀ r, starEach (te :: r) f.env = (false, eval te f.env) :: starEach r f.env)
    (_ : eval (.Call (.Name "_prepare_tag" p1) [we] [] p2) f.env = (do callWith p2 (← eval (.Name "_prepare_tag" p1) f.env) [] (backTo p2 (starEach [we] f.env)) (backToKw p2 (keywordEach [] f.env))))
    (_ : eval (.Call (.Call (.Name "_prepare_tag" p1) [we] [] p2) [.Constant .none n0 p3, te] [] p5) f.env = (do callWith p5 (← eval (.Call (.Name "_prepare_tag" p1) [we] [] p2) f.env) [] (backTo p5 (starEach [.Constant .none n0 p3, te] f.env)) (backToKw p5 (keywordEach [] f.env)))),
    GenSrc X (k + 6) f things (strP q) (.Call (.Call (.Name "_prepare_tag" p1) [we] [] p2) [.Constant .none n0 p3, te] [] p5)
theorem wild_any : WildOk "{*}*" (fun _ => true) := fun X C k f th hth we te p1 p2 p3 p5 n0 hg hwe hte hs1 hs2 h1 h2 => src_any (k := k + 4) C hth hg hwe hte hs1 hs2 h1 h2
theorem wild_bare : WildOk "{}*" (fun l => l.head? != some 123) := fun X C k f th hth we te p1 p2 p3 p5 n0 hg hwe hte hs1 hs2 h1 h2 => src_bare C hth hg hwe hte hs1 hs2 h1 h2
theorem wild_suf {e : List Nat} (he : e ≠ [42]) (hez : e.length ≤ 1000) (hok : PyData.strOk (mkS e) = true) : WildOk (mkS ([123, 42, 125] ++ e)) (fun l => l == e || l.drop (l.length - (e.length + 1)) == 125 :: e) := fun X C k f th hth we te p1 p2 p3 p5 n0 hg hwe hte hs1 hs2 h1 h2 => src_suf C he hez hok hth hg hwe hte hs1 hs2 h1 h2
theorem wild_ns {a : Nat} {r : List Nat} (ha : (a :: r ++ [125, 42]).take 2 ≠ [42, 125]) (hrz : r.length ≤ 1000) : WildOk (mkS (123 :: a :: r ++ [125, 42])) (fun l => l.take (123 :: a :: r ++ [125]).length == 123 :: a :: r ++ [125]) := fun X C k f th hth we te p1 p2 p3 p5 n0 hg hwe hte hs1 hs2 h1 h2 => src_ns C ha hrz hth hg hwe hte hs1 hs2 h1 h2
end
section
variable {X : Wd} {k : Nat} {f : FS}
noncomputable def escL : List Nat := [40, 41, 91, 93, 123, 125, 63, 42, 43, 45, 124, 94, 36, 92, 46, 38, 126, 35, 32, 9, 10, 13, 11, 12]
noncomputable def intEntry (e : DictEntry) : Bool := match e.key with | .int i _ => e.hash == hashInt i | _ => false
theorem intEntry_ok (w : World) {e : DictEntry} (h : intEntry e = true) : ∃ k, (intKind prog w).is k e.key = true ∧ e.hash = (intKind prog w).hash k := by
  obtain ⟨hh, key, v⟩ := e
  unfold intEntry at h
  cases key with
  | int i t => exact ⟨i, by show (i == i) = true; simp, beq_iff_eq.mp h⟩
  | _ => cases h
noncomputable def es73L (l : List Nat) (n : Nat) : List DictEntry := (l.zipIdx n).map fun q => ⟨q.1, .int q.1 (381 + 6 * q.2), .str ⟨#[92, q.1]⟩ (385 + 6 * q.2)⟩
theorem es73_find (w : World) (c : Nat) : ∀ (l : List Nat) (n : Nat), (c ∈ l → ∃ t, findBy (intKind prog w).is (es73L l n).toArray (c : Int) = some (.str ⟨#[92, c]⟩ t)) ∧ (c ∉ l → findBy (intKind prog w).is (es73L l n).toArray (c : Int) = none)
  | [], n => ⟨fun h => (nomatch h), fun _ => rfl⟩
  | a :: l, n => by
    have ih := es73_find w c l (n + 1)
    unfold findBy at ih ⊢
    rw [List.find?_toArray] at ih ⊢
    show (_ → ∃ t, Option.map _ (match (intKind prog w).is (c : Int) (.int a (381 + 6 * n)) with | true => some _ | false => List.find? _ (es73L l (n + 1))) = _) ∧ (_ → Option.map _ (match (intKind prog w).is (c : Int) (.int a (381 + 6 * n)) with | true => some _ | false => List.find? _ (es73L l (n + 1))) = none)
    by_cases h : a = c
    · subst h
      have e : (intKind prog w).is (a : Int) (.int a (381 + 6 * n)) = true := by show ((a : Int) == (a : Int)) = true; exact beq_self_eq_true _
      rw [e]
      exact ⟨fun _ => ⟨_, rfl⟩, fun q => absurd List.mem_cons_self q⟩
    · have e : (intKind prog w).is (c : Int) (.int a (381 + 6 * n)) = false := by
        show ((a : Int) == (c : Int)) = false
        exact beq_eq_false_iff_ne.mpr fun q => h (Int.ofNat.inj q)
      rw [e]
      exact ⟨fun q => ih.1 ((List.mem_cons.mp q).resolve_left fun q' => h q'.symm), fun q => ih.2 fun q' => q (List.mem_cons_of_mem _ q')⟩
theorem es73 (w : World) : ∃ es : Array DictEntry, (∀ P, (KF P).lookup 73 = some { cls := .type "dict", data := .dict es 24 }) ∧ KeysOf (intKind prog w) es ∧
    (∀ c : Nat, (c ∈ escL → ∃ t, findBy (intKind prog w).is es (c : Int) = some (.str ⟨#[92, c]⟩ t)) ∧ (c ∉ escL → findBy (intKind prog w).is es (c : Int) = none)) := by
  refine ⟨(es73L escL 0).toArray, fun P => by with_unfolding_all rfl, ?_, fun c => es73_find w c escL 0⟩
  intro e he
  refine intEntry_ok w ?_
  exact List.all_eq_true.mp (show (es73L escL 0).all intEntry = true by decide +kernel) e (List.mem_toArray.mp he)

noncomputable def escC (c : Nat) : Str := if c ∈ escL then ⟨#[92, c]⟩ else ⟨#[c]⟩
theorem sub_KeyError_Lookup : isSubtype (.type "KeyError") (.type "LookupError") = pure true := by rw [isSubtype_type]; kernel_rfl
theorem raise_sized {α : Type} {M : Model} {A : Around} {E : Value → Shared → Prop} {s : Shared} {cls : String} {args : List Value} {Q : α → Shared → Prop} (hp : PlainExc cls) (hh : A.handled = none)
    (h : ∀ h' e, Heap.NewExc s.heap h' e cls → s.heap.objs.size ≤ h'.objs.size → E (.ref e) { s with heap := h' }) (hsz : args.length ≤ sizeLine) : wpAny M A (do raiseNew (← newExc (.type cls) args) : Sem α) Q E s := by
  refine wpAny_bind ?_
  unfold newExc newTuple
  refine wpAny_bind (wpAny_newObj_type ?_ (show args.toArray.size ≤ sizeLine by simpa using hsz))
  refine wpAny_bind (m := firstArgMember _ _) (wpAny_of_eq (a := Value.none) (by simp only [firstArgMember, hp.first]; rfl) ?_)
  rw [hp.own]
  refine wpAny_newObj_type ?_ (by size_fits)
  unfold raiseNew
  refine wpAny_bind (wpAny_handled ?_)
  rw [hh]
  first
    | refine wpAny_throw ?_
    | refine wpAny_bind (wpAny_pure (wpAny_throw ?_))
  exact h _ _ ⟨fun b o hb => Heap.get?_push_of_some _ (Heap.get?_push_of_some _ hb), Heap.get?_none_of_le (by simp), _, .ref s.heap.objs.size, Heap.get?_push_size _ rfl, rfl, by simp⟩ (by rw [Heap.size_push, Heap.size_push]; omega)
theorem missing_sized {A : Around} {E : Value → Shared → Prop} {s : Shared} {d : Addr} {k : Int} {key : Value} {f : Int → Option Value} {Q : Value → Shared → Prop} (hkey : (intKind prog X.w).is k key = true) (hd : (d == sysModules) = false) (hh : A.handled = none) (hm : s.heap.MapOf (intKind prog X.w) d f) (hv : f k = none)
    (h : ∀ h' e, Heap.NewExc s.heap h' e "KeyError" → s.heap.objs.size ≤ h'.objs.size → E (.ref e) { s with heap := h', toks := s.toks + 1 }) : wpAny (Mo X) A (getItem (.ref d) key) Q E s := by
  unfold getItem
  try with_reducible refine wpAny_holding ?_
  refine wpAny_bind (wpAny_sequenceKey hm.typeIs (by decide) ?_)
  refine wpAny_bind (wpAny_callSpecial?_slot (name := Str.ofString "__getitem__") hm.typeIs slot_dict_getitem
    (wpAny_call_entry slot_dict_getitem hm.typeIs entry_dict_getitem ?_ (args_dict_getitem _ _)))
  show wpAny _ _ (dictGet d key >>= _) _ _ s
  refine wpAny_bind (wpAny_dictGet_of hkey hm ?_)
  rw [hv]
  show wpAny _ _ (Builtin.Dict.missed d key >>= _) _ _ _
  refine wpAny_bind (wpAny_missed_other hd ?_)
  refine wpAny_bind (wpAny_typeOf (s := { s with toks := s.toks + 1 }) hm.typeIs ?_)
  show wpAny _ _ (if (Value.type "dict" != Value.type "dict") = true then _ else _) _ _ _
  rw [if_neg (by decide)]
  exact wpAny_bind (wpAny_rule (raise_sized (A := A.in1) plainExc_KeyError hh h (by show 1 ≤ _; decide)))

theorem look_char (C : Cx X) {c : Nat} {A : Around} {s : Shared} {Q : Builtin.Str.Mapped → Shared → Prop} {E : Value → Shared → Prop} (hh : A.handled = none) (hl : Live X s.heap)
    (h : ∀ h' tk, (∀ b o, s.heap.get? b = some o → h'.get? b = some o) → s.heap.objs.size ≤ h'.objs.size → Q (if c ∈ escL then .text ⟨#[92, c]⟩ else .keep) { s with heap := h', toks := tk }) : wpAny (Mo X) A (Builtin.Str.tableLookup (.ref 73) c) Q E s := by
  obtain ⟨es, h1, h2, h3⟩ := es73 X.w
  have ho := hl.old _ _ (C.K _ _ (h1 X.w.params))
  have hm : ∀ tk, ({ s with toks := tk } : Shared).heap.MapOf (intKind prog X.w) 73 (findBy (intKind prog X.w).is es) := fun tk => ⟨_, es, 24, ho, ⟨rfl, rfl, rfl⟩, rfl, h2, fun _ => rfl⟩
  unfold Builtin.Str.tableLookup
  by_cases hc : c ∈ escL
  · rw [if_pos hc] at h
    obtain ⟨t, ht⟩ := (h3 c).1 hc
    refine wpAny_bind (wpAny_attempt (wpAny_bind (wpAny_mkInt (wpAny_getItem_intMap (hm _).intMap ht ?_))))
    dsimp only
    refine wpAny_bind (m := asInt? _) (wpAny_of_eq (a := none) (by first | rfl | kernel_rfl) ?_)
    refine wpAny_bind (m := asStr? _) (wpAny_of_eq (a := some ⟨#[92, c]⟩) (by first | rfl | kernel_rfl) ?_)
    exact wpAny_pure (h _ _ (fun _ _ e => e) (Nat.le_refl _))
  · rw [if_neg hc] at h
    refine wpAny_bind (wpAny_attempt (wpAny_bind (wpAny_mkInt (missing_sized (X := X) (k := (c : Int)) (by show ((c : Int) == c) = true; simp) (by decide) hh (hm _) ((h3 c).2 hc) fun h' e he hz => ?_))))
    dsimp only
    obtain ⟨ob, t, e1, e2, _⟩ := he.there
    refine wpAny_bind (wpAny_isInstance (T := "KeyError") (b := true) ⟨ob, e1, e2⟩ sub_KeyError_Lookup ?_)
    rw [if_pos rfl]
    exact wpAny_bind (wpAny_rule (wpAny_pure (h _ _ he.keeps hz)))

theorem translate_char (C : Cx X) {c : Nat} {t : Tok} {A : Around} {s : Shared} {Q : Value → Shared → Prop} {E : Value → Shared → Prop} (hh : A.handled = none) (hl : Live X s.heap)
    (h : ∀ h' t' tk, (∀ b o, s.heap.get? b = some o → h'.get? b = some o) → s.heap.objs.size ≤ h'.objs.size → Q (.str (escC c) t') { s with heap := h', toks := tk }) : wpAny (Mo X) A (call (.builtin "str.translate") [.str ⟨#[c]⟩ t, .ref 73]) Q E s := by
  refine wpAny_call_entry PySem.F.slot_str_translate (typeIs_str _ _ _) PySem.F.entry_str_translate ?_ (PySem.F.args_str_translate_2 _ _)
  unfold Builtin.«str.translate»
  refine wpAny_bind (m := Builtin.Str.strOneArg _ _) (wpAny_of_eq (a := (.str ⟨#[c]⟩ t, ⟨#[c]⟩, .ref 73)) (by first | rfl | kernel_rfl) ?_)
  dsimp only
  refine wpAny_ite_split (fun q => absurd q (by show ¬ ((1 == 0) = true); decide)) (fun _ => ?_)
  rw [← Array.forIn_toList]
  rw [List.forIn_cons]
  have long0 : Builtin.Str.tooLong 0 = false := by decide
  have lookS : ∀ {h' : Heap} {tk : Nat}, (∀ b o, s.heap.get? b = some o → h'.get? b = some o) → s.heap.objs.size ≤ h'.objs.size → Live X ({ s with heap := h', toks := tk } : Shared).heap := fun hk hz => live_of hl hk hz
  have fin : ∀ (h' : Heap) (tk : Nat), (∀ b o, s.heap.get? b = some o → h'.get? b = some o) → s.heap.objs.size ≤ h'.objs.size → Q (.str (escC c) tk) { s with heap := h', toks := tk + 1 } := fun h' tk hk hz => h h' tk _ hk hz
  refine wpAny_bind (wpAny_bind ?_)
  refine wpAny_ite_split (fun q => absurd q (by rw [long0]; exact Bool.false_ne_true)) (fun _ => ?_)
  have esc1 : c ∈ escL → escC c = ⟨#[92, c]⟩ := fun hc => if_pos hc
  have esc0 : c ∉ escL → escC c = ⟨#[c]⟩ := fun hc => if_neg hc
  have retS : ∀ {ps : List Str} {n : Nat} {sx : Shared}, Builtin.Str.tooLong n = false → (⟨List.foldl (fun acc p => acc ++ p.cps) #[] ps.reverse⟩ : Str) = escC c → (∀ tk, Q (.str (escC c) tk) { sx with toks := tk + 1 }) →
      wpAny (model prog X.w) A.in1 (if Builtin.Str.tooLong n = true then (do unsupported "str.translate:memory"; retStr { cps := List.foldl (fun acc p => acc ++ p.cps) #[] ps.reverse }) else retStr { cps := List.foldl (fun acc p => acc ++ p.cps) #[] ps.reverse }) (fun fin s' => ∃ v, fin = Fin.done (Flow.ret v) ∧ Q v s') E sx := fun hn he hq => by
    rw [hn, if_neg Bool.false_ne_true, he]
    refine wpAny_bind (wpAny_mkStr (wpAny_pure ⟨_, rfl, hq _⟩) ?_)
    unfold escC; split
    · show 2 ≤ sizeLine; decide
    · show 1 ≤ sizeLine; decide
  refine wpAny_ite_split (fun hf => ?_) (fun hf => ?_)
  · dsimp only [List.lookup]
    refine wpAny_bind (look_char C (A := A.in1) hh hl fun h1 tk1 hk1 hz1 => ?_)
    by_cases hc : c ∈ escL
    · rw [if_pos hc]
      have e : ((⟨#[92, c]⟩ : Str).length == 1 && (⟨#[92, c]⟩ : Str).cps.all fun x => decide (x < 128)) = false := rfl
      dsimp only
      simp only [e, Bool.false_eq_true, if_false]
      refine wpAny_bind (wpAny_pure ?_)
      refine wpAny_bind (wpAny_rule ?_)
      refine wpAny_bind (look_char C (A := A.in1) hh (lookS hk1 hz1) fun h2 tk2 hk2 hz2 => ?_)
      rw [if_pos hc]
      refine wpAny_pure (wpAny_pure (retS (by show Builtin.Str.tooLong 2 = false; decide) (by rw [esc1 hc]; rfl) fun tk => ?_))
      exact fin h2 tk (fun b o q => hk2 b o (hk1 b o q)) (Nat.le_trans hz1 hz2)
    · rw [if_neg hc]
      dsimp only
      refine wpAny_bind (wpAny_pure ?_)
      refine wpAny_pure (wpAny_pure (retS (by show Builtin.Str.tooLong 1 = false; decide) (by rw [esc0 hc]; rfl) fun tk => ?_))
      exact fin h1 tk hk1 hz1
  · have hc : c ∉ escL := fun q => hf (by
      have := (by decide : ∀ d, d ∈ escL → d < 128) c q
      simpa using this)
    refine wpAny_bind (look_char C (A := A.in1) hh hl fun h1 tk1 hk1 hz1 => ?_)
    rw [if_neg hc]
    refine wpAny_pure (wpAny_pure (retS (by show Builtin.Str.tooLong 1 = false; decide) (by rw [esc0 hc]; rfl) fun tk => ?_))
    exact fin h1 tk hk1 hz1

theorem ev_isi (C : Cx X) {e : Expr} {p1 p2 p3 : Pos} {x : Str} (he : Ev X k f e (.str x)) (h1 : f.env.kindOf "isinstance" = some .globalImplicit) (h2 : f.env.kindOf "str" = some .globalImplicit) (hs : ∀ r, starEach (e :: r) f.env = (false, eval e f.env) :: starEach r f.env := by intro _; rfl) : Ev X k f (.Call (.Name "isinstance" p1) [e, .Name "str" p2] [] p3) (.bool true) := by
  refine Ev.call (v := .builtin "isinstance") (ps := [.str x, .raw (.type "str")]) (Ev.blt C (fun P => by kernel_rfl) (by decide +kernel) h1) Kept.bi (EvL.cons he (EvL.cons (Ev.blt C (fun P => by kernel_rfl) (by decide +kernel) h2) EvL.nil) (hs _)) ?_ ⟨hs, fun _ => rfl, trivial⟩
  intro A s mu vs Q R S hvs hQ
  obtain ⟨v, r, rfl, ⟨t, rfl⟩, v', r', rfl, rfl, hr⟩ := hvs
  cases hr
  exact IsiPair.str_str (hQ _ s (.refl S.live) rfl)

theorem gm_translate {M : Model} {A : Around} {E : Value → Shared → Prop} {s : Shared} {x : Str} {t : Tok} {pl : Sem Bool} {Q : Value × List Value → Shared → Prop} (h : Q (.builtin "str.translate", [.str x t]) s) : wpAny M A (getMethod (.str x t) "translate" pl) Q E s := by
  with_reducible exact GM.of (.str x t) (typeIs_str _ _ _) PySem.F.slot_str_translate PySem.F.type_str_translate GM.noRef h
theorem ev_translate (C : Cx X) {o e : Expr} {apos pos : Pos} {c : Nat} {pl : Sem Bool} (ho : Ev X k f o (.str ⟨#[c]⟩)) (he : Ev X k f e (.raw (.ref 73)))
    (hs : ∀ r, starEach (e :: r) f.env = (false, eval e f.env) :: starEach r f.env := by intro _; rfl)
    (heq : eval (.Call (.Attribute o "translate" apos) [e] [] pos) f.env = (do
      let ov ← eval o f.env
      standAt apos.atName
      let (f', first) ← holding [ov] (getMethod ov "translate" pl)
      callWith pos f' first (backTo pos (starEach [e] f.env)) []) := by rfl) : Ev X k f (.Call (.Attribute o "translate" apos) [e] [] pos) (.str (escC c)) := by
  intro A s Q R F hQ
  refine MethodCall_ (ho A s _ R F fun v s₁ G₁ F₁ h₁ => ?_) heq
  obtain ⟨t, rfl⟩ := h₁
  refine gm_translate (callWith_method1 ?_ (hs _))
  refine EvL.cons he EvL.nil (hs _) A s₁ _ R F₁ fun vs s₂ G₂ F₂ h₂ => ?_
  obtain ⟨v, r, rfl, rfl, hr⟩ := h₂
  cases hr
  refine translate_char C R.hd F₂.live fun h' t' tk hk hz => ?_
  have G₃ : Grow X s₂ { s₂ with heap := h', toks := tk } := grow_of F₂.live hk hz
  exact hQ _ _ ((G₁.trans G₂).trans G₃) (F₂.grown F₂.live G₃) ⟨_, rfl⟩

theorem escape_spec (C : Cx X) (c : Nat) : OpN X 1 [.str ⟨#[c]⟩] (fun vs => call (.ref 83) vs) (.str (escC c)) := by
  refine fspec C (ns := ["pattern"]) (fun P => by with_unfolding_all rfl) (fun P => by kernel_rfl) (len1 rfl fun _ => rfl) rfl (by decide +kernel) (by decide +kernel) ?_ (by decide +kernel)
  intro hs mu L own T _ X C
  show WS _ _ ⟨hs, mu, _, [("pattern", .str ⟨#[c]⟩)], own, []⟩ _ _
  refine wT (Tv.plain (p := .bool true) (ev_isi C (by walk_at "nm") (by with_unfolding_all rfl) (by with_unfolding_all rfl)) tr_b) ?_
  exact wRet (p := .str (escC c)) (ev_translate C (by walk_at "nm") (Ev.glo (by assumption) (fun P => by with_unfolding_all rfl) (by with_unfolding_all rfl))) ⟨_, rfl, .same⟩
end
section
variable {X : Wd} {k : Nat} {f : FS}
theorem tr_s {x : Str} (hz : x.length ≤ 1000000) : Truthy X k (.str x) ((x.length : Int) != 0) := fun A s mu v Q _ S hv hQ => by
  obtain ⟨t, rfl⟩ := hv
  exact P.truthy_str (by omega) (hQ _ (.toks S.live))
/-- what a pattern is made of -/
inductive PT
  | star
  | lit (c : Nat)
  | br (neg : Bool) (d : Nat)
noncomputable def PT.render : PT → List Nat
  | .star => [42]
  | .lit c => [c]
  | .br neg d => [91] ++ (if neg then [33] else []) ++ [d, 93]
noncomputable def PT.ok : PT → Prop
  | .star => True
  | .lit c => c ≠ 42 ∧ c ≠ 63 ∧ c ≠ 91
  | .br neg d => (neg = false ∧ (d = 42 ∨ d = 63 ∨ d = 91)) ∨ (neg = true ∧ d = 123)
noncomputable def brOut (neg : Bool) (d : Nat) : Str := if neg then ⟨#[91, 94, 123, 93]⟩ else if d = 91 then ⟨#[91, 92, 91, 93]⟩ else ⟨#[91, d, 93]⟩
noncomputable def PT.out (st : Addr) : PT → PV
  | .star => .raw (.ref st)
  | .lit c => .str (escC c)
  | .br neg d => .str (brOut neg d)
noncomputable def pstars (l : List PT) : Nat := (l.filter fun t => match t with | .star => true | _ => false).length
noncomputable def transVars (a bd st : Addr) (i n : Nat) (x : Str) : List (Str × PV) := [("i", .int i), ("n", .int n), ("add", .raw (.ref bd)), ("res", .raw (.ref a)), ("pat", .str x), ("STAR", .raw (.ref st)), ("QUESTION_MARK", .str (Str.ofString "."))]
noncomputable abbrev trLed (a bd : Addr) (l : List PV) : List (Addr × MO) := [(bd, .obj (bnd "list.append" a)), (a, .lst l)]
noncomputable def trVJ (a bd st : Addr) (i n : Nat) (x : Str) (j : Nat) : List (Str × PV) := ("j", .int (j : Int)) :: ("i", .int ((i : Int) + 1)) :: ("n", .int n) :: ("add", .raw (.ref bd)) :: ("res", .raw (.ref a)) :: ("pat", .str x) :: ("STAR", .raw (.ref st)) :: [("QUESTION_MARK", .str (Str.ofString "."))]
theorem rend_pos (t : PT) : 1 ≤ t.render.length := by cases t <;> exact Nat.le_add_left _ _
theorem rend_len : ∀ l : List PT, l.length ≤ (l.flatMap PT.render).length
  | [] => Nat.le_refl _
  | t :: l => by
    rw [List.flatMap_cons, List.length_cons, List.length_append, Nat.add_comm]
    exact Nat.add_le_add (rend_pos t) (rend_len l)
theorem tr_last (st : Addr) {toks done rem : List PT} (hst : pstars toks ≤ 1) (htk : toks = done ++ PT.star :: rem) : done.map (PT.out st) = [] ∨ ∃ dl y, done.map (PT.out st) = dl ++ [.str y] := by
  rcases List.eq_nil_or_concat done with hd | ⟨dl, u, hd⟩
  · exact .inl (by rw [hd]; rfl)
  · rw [List.concat_eq_append] at hd
    rw [hd, List.map_append]
    cases u with
    | star =>
      exfalso
      rw [htk, hd] at hst
      unfold pstars at hst
      rw [List.filter_append, List.length_append, List.filter_append, List.length_append, List.filter_cons_of_pos rfl, List.filter_cons_of_pos rfl] at hst
      simp at hst
      omega
    | lit d => exact .inr ⟨_, _, rfl⟩
    | br neg d => exact .inr ⟨_, _, rfl⟩
noncomputable def brOk (neg : Bool) (d : Nat) : Prop := (neg = false ∧ (d = 42 ∨ d = 63 ∨ d = 91)) ∨ (neg = true ∧ d = 123)
noncomputable def stuffS (neg : Bool) (d : Nat) : Str := ⟨((if neg then [33] else []) ++ [d]).toArray⟩
noncomputable def o2S (neg : Bool) (d : Nat) : Str := if neg then ⟨#[94, 123]⟩ else if d = 91 then ⟨#[92, 91]⟩ else ⟨#[d]⟩
theorem br_get (neg : Bool) (d : Nat) (W : List Nat) : ((PT.br neg d).render ++ W)[1]? = some (if neg then 33 else d) ∧ ((PT.br neg d).render ++ W)[1 + (if neg then 1 else 0)]? = some d ∧ ((PT.br neg d).render ++ W)[1 + ((if neg then 1 else 0) + 1)]? = some 93
    ∧ ((PT.br neg d).render ++ W).drop 1 = ((if neg then [33] else []) ++ [d]) ++ 93 :: W ∧ (PT.br neg d).render.length = 3 + (if neg then 1 else 0) ∧ ((if neg then [33] else []) ++ [d]).length = 1 + (if neg then 1 else 0) := by
  cases neg <;> exact ⟨rfl, rfl, rfl, rfl, rfl, rfl⟩
theorem br_chr {neg : Bool} {d : Nat} (h : brOk neg d) : ((if neg then 33 else d) == 33) = neg ∧ (d == 93) = false := by
  rcases h with ⟨rfl, rfl | rfl | rfl⟩ | ⟨rfl, rfl⟩ <;> exact ⟨rfl, rfl⟩
theorem br_all {neg : Bool} {d : Nat} (h : brOk neg d) : (!(!(Builtin.Str.occurrences (stuffS neg d) (Str.ofString "-") 0 (stuffS neg d).length 1).isEmpty)) = true
    ∧ (Builtin.Str.occurrences (stuffS neg d) (Str.ofString "\\") 0 (stuffS neg d).length ((stuffS neg d).length + 1)).isEmpty = true ∧ (stuffS neg d == Str.ofString "!") = false
    ∧ ((Str.empty ++ Str.ofString "[") ++ o2S neg d) ++ Str.ofString "]" = brOut neg d := by
  rcases h with ⟨rfl, rfl | rfl | rfl⟩ | ⟨rfl, rfl⟩ <;> decide +kernel
theorem br_fails {neg : Bool} {d : Nat} (h : brOk neg d) : subFails codeP (stuffS neg d).cps 1 = true := by
  rcases h with ⟨rfl, rfl | rfl | rfl⟩ | ⟨rfl, rfl⟩
  · exact fails_star
  · exact fails_quest
  · exact fails_open
  · exact fails_neg
theorem br_len (neg : Bool) (d : Nat) : (0 < (stuffS neg d).cps.size ∧ (stuffS neg d).cps.size ≤ 2) ∧ (stuffS neg d).cps.toList[0]? = some (if neg then 33 else d) ∧ (o2S neg d).length ≤ 2 := by
  refine ⟨by cases neg; exact ⟨Nat.succ_pos 0, Nat.le_succ 1⟩; exact ⟨Nat.succ_pos 1, Nat.le_refl 2⟩, by cases neg <;> rfl, ?_⟩
  unfold o2S
  split
  · exact Nat.le_refl 2
  · split
    · exact Nat.le_refl 2
    · exact Nat.le_succ 1
theorem br_caret {neg : Bool} {d : Nat} (h : brOk neg d) (hn : neg = true) : Str.ofString "^" ++ Txt.slice (stuffS neg d) (some (1 : Int)) none = o2S neg d ∧ (stuffS neg d).length = 2 ∧ (Str.ofString "^").length + (Txt.slice (stuffS neg d) (some (1 : Int)) none).length = 2 := by
  subst hn
  rcases h with ⟨h, _⟩ | ⟨_, rfl⟩
  · cases h
  · decide +kernel
theorem br_false {neg : Bool} {d : Nat} (h : brOk neg d) (hn : neg = false) : (d = 42 ∨ d = 63 ∨ d = 91) ∧ (stuffS neg d).length = 1 ∧ (d = 91 → Str.ofString "\\" ++ stuffS neg d = o2S neg d) ∧ (d ≠ 91 → stuffS neg d = o2S neg d) := by
  subst hn
  rcases h with ⟨_, h⟩ | ⟨h, _⟩
  · exact ⟨h, rfl, fun e => by subst e; rfl, fun e => by unfold o2S; rw [if_neg Bool.false_ne_true, if_neg e]; rfl⟩
  · cases h
theorem translate_spec (C : Cx X) (x : Str) (st : Addr) (toks : List PT) (hx : x.cps.toList = toks.flatMap PT.render) (hok : ∀ t ∈ toks, t.ok) (hst : pstars toks ≤ 1) (hlen : x.length ≤ 100000) :
    OpN X 6 [.str x, .raw (.ref st), .str (Str.ofString ".")] (fun vs => call (.ref 90) vs) (.lst (toks.map (PT.out st))) := by
  refine fspec C (ns := ["pat", "STAR", "QUESTION_MARK"]) (fun P => by with_unfolding_all rfl) (fun P => by kernel_rfl) (len3 rfl fun _ _ _ => rfl) rfl (by decide +kernel) (by decide +kernel) ?_ (by decide +kernel)
  intro hs mu L own T _ X C
  have hxl : x.length = (toks.flatMap PT.render).length := by rw [← hx]; simp [Str.length]
  show WS _ _ ⟨hs, mu, _, [("pat", .str x), ("STAR", .raw (.ref st)), ("QUESTION_MARK", .str (Str.ofString "."))], own, []⟩ _ _
  refine wAssignX (EvX.list (ps := []) EvL.nil (by decide)) (.loc (by with_unfolding_all rfl)) (fun p Le h => ?_)
  obtain ⟨a, rfl, rfl⟩ := h
  refine wAssignX (x := "add") (EvX.bound (a := a) (xs := []) (by walk_at "nm") (.head _)) (.loc (by with_unfolding_all rfl)) (fun p Le h => ?_)
  obtain ⟨bd, rfl, rfl⟩ := h
  refine WS.assignSw (names := ["i", "n"]) (EvX.tupX (EvLX.of (ps := [.int 0, .int x.length]) (EvL.cons (by walk_at "ev") (EvL.cons (Ev.lenS C (by walk_at "nm") (by omega) (by with_unfolding_all rfl)) EvL.nil))) (fun qs led h => by rw [h.1]; show 2 ≤ _; decide)) rfl (fun qs led h => by rw [h.1]; rfl) (fun qs led h => ?_)
  obtain ⟨rfl, rfl⟩ := h
  show WS _ _ ⟨hs, mu, _, [("i", .int 0), ("n", .int x.length), ("add", .raw (.ref bd)), ("res", .raw (.ref a)), ("pat", .str x), ("STAR", .raw (.ref st)), ("QUESTION_MARK", .str (Str.ofString "."))], own, [(bd, .obj (bnd "list.append" a)), (a, .lst [])]⟩ _ _
  refine wWhile (fun n V Le => ∃ done rem, toks = done ++ rem ∧ n = rem.length ∧ Subv (transVars a bd st (done.flatMap PT.render).length x.length x) V ∧ Le = trLed a bd (done.map (PT.out st))) toks.length ⟨[], toks, rfl, rfl, ⟨rfl, rfl, rfl, rfl, rfl, rfl, rfl, trivial⟩, rfl⟩ ?_
  rintro n V Le ⟨done, rem, htk, rfl, hV, rfl⟩
  obtain ⟨i, hi⟩ : ∃ i, i = (done.flatMap PT.render).length := ⟨_, rfl⟩
  rw [← hi] at hV
  have hall : (toks.flatMap PT.render).length = (done.flatMap PT.render).length + (rem.flatMap PT.render).length := by rw [htk]; simp
  have hil : i ≤ 100000 := by omega
  refine ⟨decide ((i : Int) < (x.length : Int)), Tv.cmp (Ev.loc (hV.look _ _ rfl) (by with_unfolding_all rfl)) (Ev.loc (hV.look _ _ rfl) (by with_unfolding_all rfl)) lt_ii, fun hb => ?_, fun hb => ?_⟩
  · refine wForget (transVars a bd st i x.length x) hV (WS.hide fun Ψ hΨ => ?_)
    cases rem with
    | nil =>
      simp only [List.flatMap_nil, List.length_nil] at hall
      exact absurd (of_decide_eq_true hb) (by omega)
    | cons t rem =>
      have hout : (done.map (PT.out st)).length ≤ sizeLine := by
        rw [List.length_map]
        exact Nat.le_trans (Nat.le_trans (rend_len done) (Nat.le_trans (Nat.le_of_eq hi.symm) hil)) (by decide)
      have hokt := hok t (by rw [htk]; exact List.mem_append_right _ List.mem_cons_self)
      have hgo : ∀ {V' : List (Str × PV)}, Subv (transVars a bd st (i + t.render.length) x.length x) V' → Ψ .next V' (trLed a bd (done.map (PT.out st) ++ [PT.out st t])) := fun h1 =>
        hΨ _ _ _ ⟨rem.length, Nat.lt_succ_self _, done ++ [t], rem, by rw [htk, List.append_assoc]; rfl, rfl, by rw [List.flatMap_append, List.length_append, ← hi, List.flatMap_cons, List.flatMap_nil, List.append_nil]; exact h1, by rw [List.map_append]; rfl⟩
      have hstar : t = .star → done.map (PT.out st) = [] ∨ ∃ dl y, done.map (PT.out st) = dl ++ [.str y] := fun e => tr_last st hst (e ▸ htk)
      obtain ⟨W, hD⟩ : ∃ W, x.cps.toList.drop i = t.render ++ W := ⟨rem.flatMap PT.render, by rw [hx, htk, List.flatMap_append, hi, List.drop_left, List.flatMap_cons]⟩
      have hget : ∀ j, x.cps.toList[i + j]? = (t.render ++ W)[j]? := fun j => by rw [← hD, List.getElem?_drop]
      clear hΨ hall hV htk hi hb hst hxl hok hx
      generalize done.map (PT.out st) = ds at hout hgo hstar ⊢
      have hled : ∀ o, LedSet a (.lst ds) (.lst (ds ++ [o])) (trLed a bd ds) (trLed a bd (ds ++ [o])) := fun o => .there .here
      obtain ⟨c, hc⟩ : ∃ c, x.cps.toList[i]? = some c := by
        have := hget 0
        cases t <;> exact ⟨_, this⟩
      refine wAssign (x := "c") (p := .str ⟨#[c]⟩) (Ev.sub_s (by walk_at "nm") (by walk_at "nm") (at_char hc) (by omega) (by omega)) (.loc (by with_unfolding_all rfl)) ?_
      refine wAssign (x := "i") (p := .int ((i : Int) + 1)) (by walk_at "ev") (.loc (by with_unfolding_all rfl)) ?_
      cases t with
      | star =>
        have ec : c = 42 := by have := hget 0; rw [Nat.add_zero, hc] at this; simpa [PT.render] using this
        subst ec
        refine wT (Tv.of (Tv.cmp (p := .str ⟨#[42]⟩) (q := .str (Str.ofString "*")) (by walk_at "nm") (by walk_at "ev") eq_ss) (by decide)) ?_
        refine wT ?_ ?_
        · have h63 : (ds.length : Int) < 2 ^ 63 := by
            have h4 : sizeLine < 2 ^ 62 := by decide
            omega
          have hm : (a, MO.lst ds) ∈ trLed a bd ds := .tail _ (.head _)
          rcases hstar rfl with hd | ⟨dl, y, hd⟩
          · refine Tv.or_t (Tv.of (Tv.not (Tv.lst (xs := ds) (by walk_at "nm") (Lst.own hm) h63)) ?_)
            rw [hd]; rfl
          · have hlen' : ds.length = dl.length + 1 := by rw [hd, List.length_append]; rfl
            refine Tv.or_f (Tv.of (Tv.not (Tv.lst (xs := ds) (by walk_at "nm") (Lst.own hm) h63)) ?_) (Tv.or_1 (Tv.cmp (p := .str y) (q := .raw (.ref st)) (Ev.sub_l (xs := ds) (i := -1) (j := dl.length) (by walk_at "nm") (Lst.own hm) (Ev.una (by walk_at "ev") neg_i) ?_ ?_ (by decide) (by decide)) (by walk_at "nm") isnot_sr))
            · rw [hd]; simp
            · rw [hlen']; unfold seqIndex?; simp; omega
            · rw [hd, List.getElem?_append_right (Nat.le_refl _), Nat.sub_self]; rfl
        · refine wCallBound (a := a) (b := bd) (xs := ds) (p := .raw (.ref st)) (by walk_at "nm") (.head _) (by walk_at "nm") (hled _) hout (wNil (wNil (wNil ?_)))
          exact hgo ⟨rfl, rfl, rfl, rfl, rfl, rfl, rfl, trivial⟩
      | lit d =>
        have ec : c = d := by have := hget 0; rw [Nat.add_zero, hc] at this; simpa [PT.render] using this
        subst ec
        have hne : c ≠ 42 ∧ c ≠ 63 ∧ c ≠ 91 := hokt
        refine wF (Tv.of (Tv.cmp (p := .str ⟨#[c]⟩) (q := .str (Str.ofString "*")) (by walk_at "nm") (by walk_at "ev") eq_ss) (by rw [show Str.ofString "*" = ⟨#[42]⟩ from rfl, str1_eq]; simpa using hne.1)) ?_
        refine wF (Tv.of (Tv.cmp (p := .str ⟨#[c]⟩) (q := .str (Str.ofString "?")) (by walk_at "nm") (by walk_at "ev") eq_ss) (by rw [show Str.ofString "?" = ⟨#[63]⟩ from rfl, str1_eq]; simpa using hne.2.1)) ?_
        refine wF (Tv.of (Tv.cmp (p := .str ⟨#[c]⟩) (q := .str (Str.ofString "[")) (by walk_at "nm") (by walk_at "ev") eq_ss) (by rw [show Str.ofString "[" = ⟨#[91]⟩ from rfl, str1_eq]; simpa using hne.2.2)) ?_
        refine wCallBound (a := a) (b := bd) (xs := ds) (p := .str (escC c)) (by walk_at "nm") (.head _) (Ev.call (v := .ref 83) (Ev.glo (by assumption) (fun P => by with_unfolding_all rfl) (by with_unfolding_all rfl)) (Kept.fn C (fun P => by kernel_rfl)) (EvL.cons (by walk_at "nm") EvL.nil) ((escape_spec C c).up (by omega))) (hled _) hout (wNil (wNil (wNil (wNil ?_))))
        exact hgo ⟨rfl, rfl, rfl, rfl, rfl, rfl, rfl, trivial⟩
      | br neg d =>
        have ec : c = 91 := by have := hget 0; rw [Nat.add_zero, hc] at this; simpa [PT.render] using this
        subst ec
        have hneg : brOk neg d := hokt
        obtain ⟨hb1, hb2, hb3, hb4, hb5, hb6⟩ := br_get neg d W
        obtain ⟨m, hm⟩ : ∃ m, m = i + 1 + (if neg then 1 else 0) := ⟨_, rfl⟩
        have h1 : x.cps.toList[i + 1]? = some (if neg then 33 else d) := by rw [hget]; exact hb1
        have h2 : x.cps.toList[m]? = some d := by rw [hm, Nat.add_assoc, hget]; exact hb2
        have h3 : x.cps.toList[m + 1]? = some 93 := by rw [hm, Nat.add_assoc, Nat.add_assoc, hget]; exact hb3
        have hmx : m + 1 < x.length := by have := (List.getElem?_eq_some_iff.mp h3).1; simpa [Str.length] using this
        refine wF (Tv.of (Tv.cmp (p := .str ⟨#[91]⟩) (q := .str (Str.ofString "*")) (by walk_at "nm") (by walk_at "ev") eq_ss) (by decide)) ?_
        refine wF (Tv.of (Tv.cmp (p := .str ⟨#[91]⟩) (q := .str (Str.ofString "?")) (by walk_at "nm") (by walk_at "ev") eq_ss) (by decide)) ?_
        refine wT (Tv.of (Tv.cmp (p := .str ⟨#[91]⟩) (q := .str (Str.ofString "[")) (by walk_at "nm") (by walk_at "ev") eq_ss) (by decide)) ?_
        refine wAssign (x := "j") (p := .int ((i + 1 : Nat) : Int)) (Ev.of (by walk_at "nm") (by push_cast; rfl)) (.loc (by with_unfolding_all rfl)) ?_
        have base : ∀ (j : Nat) (cc : Nat) (V' : List (Str × PV)), x.cps.toList[j]? = some cc → j ≤ 1000000 → V'.lookup ("pat" : Str) = some (.str x) → V'.lookup ("j" : Str) = some (.int (j : Int)) → ∀ (env : Env) (Le : List (Addr × MO)) (p1 p2 p3 : Pos), Env.kindOf env "pat" = some .local → Env.kindOf env "j" = some .local → Ev X 5 ⟨hs, mu, env, V', own, Le⟩ (.Subscript (.Name "pat" p1) (.Name "j" p2) p3) (.str ⟨#[cc]⟩) :=
          fun j cc V' h hj hp hv env Le p1 p2 p3 k1 k2 => Ev.sub_s (Ev.loc hp k1) (Ev.loc hv k2) (at_char h) (by omega) (by omega)
        have ltm : ∀ j : Nat, j ≤ m + 1 → decide ((j : Int) < (x.length : Int)) = true := fun j h => decide_eq_true (by omega)
        refine wCut (trVJ a bd st i x.length x m) (trLed a bd ds) ?_ ?_
        · refine wIte (b := neg) ?_ (fun hn => ?_) (fun hn => ?_)
          · refine Tv.and_t (Tv.of (Tv.cmp (p := .int ((i + 1 : Nat) : Int)) (q := .int x.length) (by walk_at "nm") (by walk_at "nm") lt_ii) (ltm _ (by rw [hm]; omega))) (Tv.and_1 (Tv.of (Tv.cmp (base (i + 1) _ _ h1 (by omega) rfl rfl _ _ _ _ _ (by with_unfolding_all rfl) (by with_unfolding_all rfl)) (by walk_at "ev") eq_ss) ?_))
            rw [show Str.ofString "!" = ⟨#[33]⟩ from rfl, str1_eq]
            exact (br_chr hneg).1
          · refine wAssign (x := "j") (p := .int (m : Int)) (Ev.of (by walk_at "ev") (by rw [hm, if_pos hn]; push_cast; rfl)) (.loc (by with_unfolding_all rfl)) (wNil (wNil ⟨rfl, ?_, rfl⟩))
            exact ⟨rfl, rfl, rfl, rfl, rfl, rfl, rfl, rfl, trivial⟩
          · refine wNil (wNil ⟨rfl, ?_, rfl⟩)
            refine ⟨?_, rfl, rfl, rfl, rfl, rfl, rfl, rfl, trivial⟩
            rw [hm, if_neg (by rw [hn]; exact Bool.false_ne_true)]; rfl
        refine wF ?_ (wNil ?_)
        · refine Tv.and_t (Tv.of (Tv.cmp (p := .int (m : Int)) (q := .int x.length) (by walk_at "nm") (by walk_at "nm") lt_ii) (ltm _ (by omega))) (Tv.and_1 (Tv.of (Tv.cmp (base m _ _ h2 (by omega) rfl rfl _ _ _ _ _ (by with_unfolding_all rfl) (by with_unfolding_all rfl)) (by walk_at "ev") eq_ss) ?_))
          rw [show Str.ofString "]" = ⟨#[93]⟩ from rfl, str1_eq]
          exact (br_chr hneg).2
        refine wWhile (fun k V Le => ∃ j, ((k = 1 ∧ j = m) ∨ (k = 0 ∧ j = m + 1)) ∧ Subv (trVJ a bd st i x.length x j) V ∧ Le = (trLed a bd ds)) 1 ⟨m, .inl ⟨rfl, rfl⟩, ⟨rfl, rfl, rfl, rfl, rfl, rfl, rfl, rfl, trivial⟩, rfl⟩ ?_
        rintro kk V Le ⟨j, hj, hVj, rfl⟩
        obtain ⟨cj, hcj, hcb⟩ : ∃ cj, x.cps.toList[j]? = some cj ∧ (!(cj == 93)) = decide (kk = 1) := by
          rcases hj with ⟨rfl, rfl⟩ | ⟨rfl, rfl⟩
          · refine ⟨d, h2, ?_⟩
            rw [(br_chr hneg).2]; rfl
          · exact ⟨93, h3, rfl⟩
        have hjm : j ≤ m + 1 := by omega
        refine ⟨decide (kk = 1), ?_, fun hk1 => ?_, fun hk0 => ?_⟩
        · refine Tv.and_t (Tv.of (Tv.cmp (p := .int (j : Int)) (q := .int x.length) (Ev.loc (hVj.look _ _ rfl) (by with_unfolding_all rfl)) (Ev.loc (hVj.look _ _ rfl) (by with_unfolding_all rfl)) lt_ii) (ltm _ hjm)) (Tv.and_1 (Tv.of (Tv.cmp (base j cj _ hcj (by omega) (hVj.look _ _ rfl) (hVj.look _ _ rfl) _ _ _ _ _ (by with_unfolding_all rfl) (by with_unfolding_all rfl)) (by walk_at "ev") ne_ss) ?_))
          rw [← hcb]
          show (!((⟨#[cj]⟩ : Str) == Str.ofString "]")) = _
          rw [show Str.ofString "]" = ⟨#[93]⟩ from rfl, str1_eq]
        · have hk1 := of_decide_eq_true hk1
          have ej : j = m := by omega
          subst ej
          refine wForget _ hVj ?_
          refine wAssign (x := "j") (p := .int ((j + 1 : Nat) : Int)) (Ev.of (by walk_at "ev") (by push_cast; rfl)) (.loc (by with_unfolding_all rfl)) (wNil ?_)
          exact ⟨0, by omega, j + 1, .inr ⟨rfl, rfl⟩, ⟨rfl, rfl, rfl, rfl, rfl, rfl, rfl, rfl, trivial⟩, rfl⟩
        · have hk0 := of_decide_eq_false hk0
          have ej : j = m + 1 := by omega
          subst ej
          refine wForget _ hVj ?_
          refine wF (Tv.of (Tv.cmp (p := .int ((m + 1 : Nat) : Int)) (q := .int x.length) (by walk_at "nm") (by walk_at "nm") ge_ii) (decide_eq_false (by omega))) ?_
          obtain ⟨sS, hsS⟩ : ∃ sS : Str, sS = stuffS neg d := ⟨_, rfl⟩
          have hslice : Txt.slice x (some ((i : Int) + 1)) (some ((m + 1 : Nat) : Int)) = sS := by
            have e1 : ((i : Int) + 1) = ((i + 1 : Nat) : Int) := by push_cast; rfl
            rw [e1, hsS]
            refine str_of_toList ?_
            rw [slice_mid x (i + 1) (m + 1) (by omega), ← List.drop_drop, hD, hb4, List.take_left' (by rw [hb6, Nat.min_eq_left (by omega)]; omega)]
          have F3 : (!(!(Builtin.Str.occurrences sS (Str.ofString "-") 0 sS.length 1).isEmpty)) = true := by rw [hsS]; exact (br_all hneg).1
          have F4 : (Builtin.Str.occurrences sS (Str.ofString "\\") 0 sS.length (sS.length + 1)).isEmpty = true := by rw [hsS]; exact (br_all hneg).2.1
          have F5 : subFails codeP sS.cps 1 = true := by rw [hsS]; exact br_fails hneg
          have F6 : 0 < sS.cps.size ∧ sS.cps.size ≤ 2 := by rw [hsS]; exact (br_len neg d).1
          have F7 : sS.cps.toList[0]? = some (if neg then 33 else d) := by rw [hsS]; exact (br_len neg d).2.1
          have F8 : (sS == Str.ofString "!") = false := by rw [hsS]; exact (br_all hneg).2.2.1
          refine wAssign (x := "stuff") (p := .str sS) (Ev.of (Ev.cut_s (by walk_at "nm") (EvP.yes (by walk_at "nm")) (EvP.yes (by walk_at "nm")) (Nat.le_trans hlen (by decide))) (by rw [hslice])) (.loc (by with_unfolding_all rfl)) ?_
          refine wT (Tv.of (Tv.cmp (p := .str (Str.ofString "-")) (q := .str sS) (by walk_at "ev") (by walk_at "nm") nin_ss) F3) ?_
          refine wAssign (x := "stuff") (p := .str sS) (Ev.replace0 (by walk_at "nm") (by walk_at "ev") (by walk_at "ev") F4) (.loc (by with_unfolding_all rfl)) (wNil ?_)
          refine wAssign (x := "stuff") (p := .str sS) (ev_sub C (clos := []) (Ev.glo (by assumption) (fun P => by with_unfolding_all rfl) (by with_unfolding_all rfl)) rfl (by with_unfolding_all rfl) (by with_unfolding_all rfl) (by walk_at "nm") F6.1 (by omega) F5) (.loc (by with_unfolding_all rfl)) ?_
          refine wAssign (x := "i") (p := .int ((m + 1 : Nat) + 1 : Int)) (by walk_at "ev") (.loc (by with_unfolding_all rfl)) ?_
          refine wIte (b := false) (Tv.of (Tv.not (Tv.plain (p := .str sS) (by walk_at "nm") (tr_s (by show sS.cps.size ≤ _; omega)))) (by
            have h6 := F6.1
            rw [show ((sS.length : Int) != 0) = true from bne_iff_ne.mpr (by show (sS.cps.size : Int) ≠ 0; omega)]
            rfl)) (fun h => by cases h) (fun _ => ?_)
          refine wF (Tv.of (Tv.cmp (p := .str sS) (q := .str (Str.ofString "!")) (by walk_at "nm") (by walk_at "ev") eq_ss) F8) ?_
          obtain ⟨o2, ho2⟩ : ∃ o2 : Str, o2 = o2S neg d := ⟨_, rfl⟩
          have ev0 : ∀ {V' : List (Str × PV)} {Le : List (Addr × MO)} {env : Env} {p1 p2 p3 : Pos} {n : Nat}, V'.lookup ("stuff" : Str) = some (.str sS) → Env.kindOf env "stuff" = some .local → Ev X 5 ⟨hs, mu, env, V', own, Le⟩ (.Subscript (.Name "stuff" p1) (.Constant (.int 0) n p2) p3) (.str ⟨#[if neg then 33 else d]⟩) :=
            fun hv hk => Ev.sub_s (Ev.loc hv hk) Ev.cint (at_char (i := 0) F7) (by decide) (by decide)
          refine wCut [("stuff", .str o2), ("i", .int ((m + 1 : Nat) + 1 : Int)), ("n", .int x.length), ("add", .raw (.ref bd)), ("res", .raw (.ref a)), ("pat", .str x), ("STAR", .raw (.ref st)), ("QUESTION_MARK", .str (Str.ofString "."))] (trLed a bd ds) ?_ ?_
          · refine wIte (b := neg) (Tv.of (Tv.cmp (p := .str ⟨#[if neg then 33 else d]⟩) (q := .str (Str.ofString "!")) (ev0 rfl (by with_unfolding_all rfl)) (by walk_at "ev") eq_ss) ?_) (fun hn => ?_) (fun hn => ?_)
            · rw [show Str.ofString "!" = ⟨#[33]⟩ from rfl, str1_eq]
              exact (br_chr hneg).1
            · obtain ⟨c1, c2, c3⟩ := br_caret hneg hn
              rw [← hsS] at c1 c2 c3
              · refine wAssign (x := "stuff") (p := .str o2) (Ev.of (Ev.bin (p := .str (Str.ofString "^")) (q := .str (Txt.slice sS (some (1 : Int)) none)) (by walk_at "ev") (Ev.cut_s (by walk_at "nm") (EvP.yes (by walk_at "ev")) EvP.no (by rw [c2]; decide)) (add_ss (by rw [c3]; decide +kernel))) (by rw [c1, ho2])) (.loc (by with_unfolding_all rfl)) (wNil (wNil ⟨rfl, ⟨rfl, rfl, rfl, rfl, rfl, rfl, rfl, rfl, trivial⟩, rfl⟩))
            · obtain ⟨hd, c2, c3, c4⟩ := br_false hneg hn
              rw [← hsS] at c2 c3 c4
              · have hin : ∀ (dd : Nat), (dd = 42 ∨ dd = 63 ∨ dd = 91) → Op2 X 5 (.str ⟨#[dd]⟩) (.tup [.str (Str.ofString "^"), .str (Str.ofString "[")]) (compareOp .In) (.bool (decide (dd = 91))) := fun dd h => by
                  refine Op2.of (in_t (k := 0) rfl ?_ rfl ?_) ?_
                  · rcases h with rfl | rfl | rfl <;> decide +kernel
                  · intro y hy
                    simp only [List.mem_cons, List.not_mem_nil, or_false] at hy
                    rcases hy with rfl | rfl <;> decide +kernel
                  · rcases h with rfl | rfl | rfl <;> rfl
                refine wIte (b := decide (d = 91)) (Tv.cmp (p := .str ⟨#[d]⟩) (q := .tup [.str (Str.ofString "^"), .str (Str.ofString "[")]) (Ev.of (ev0 rfl (by with_unfolding_all rfl)) (by rw [hn]; rfl)) (Ev.tup (EvL.cons (by walk_at "ev") (EvL.cons (by walk_at "ev") EvL.nil)) (by show 2 ≤ _; decide)) (hin d hd)) (fun h91 => ?_) (fun h91 => ?_)
                · have h91 := of_decide_eq_true h91
                  refine wAssign (x := "stuff") (p := .str o2) (Ev.of (Ev.bin (p := .str (Str.ofString "\\")) (q := .str sS) (by walk_at "ev") (by walk_at "nm") (add_ss (by rw [c2]; decide +kernel))) (by rw [c3 h91, ho2])) (.loc (by with_unfolding_all rfl)) (wNil (wNil (wNil ⟨rfl, ⟨rfl, rfl, rfl, rfl, rfl, rfl, rfl, rfl, trivial⟩, rfl⟩)))
                · have h91 := of_decide_eq_false h91
                  refine wNil (wNil (wNil ⟨rfl, ⟨?_, rfl, rfl, rfl, rfl, rfl, rfl, rfl, trivial⟩, rfl⟩))
                  show some (PV.str sS) = some (.str o2)
                  rw [c4 h91, ho2]
          · have ho2l : o2.length ≤ 2 := by rw [ho2]; exact (br_len neg d).2.2
            have hbo : ((Str.empty ++ Str.ofString "[") ++ o2) ++ Str.ofString "]" = brOut neg d := by rw [ho2]; exact (br_all hneg).2.2.2
            have h4 : (1000 : Nat) ≤ sizeLine := by decide
            refine wCallBound (a := a) (b := bd) (xs := ds) (p := .str (brOut neg d)) (by walk_at "nm") (.head _) (Ev.fstr ⟨Str.ofString "[", by walk_at "ev", ?_, o2, Ev.fval (by walk_at "nm") ?_, ?_, Str.ofString "]", by walk_at "ev", ?_, hbo⟩ ?_) (hled _) hout ?_
            · show 1 ≤ sizeLine; omega
            · omega
            · rw [strLen_append]; show 1 + o2.length ≤ _; omega
            · rw [strLen_append, strLen_append]; show 1 + o2.length + 1 ≤ _; omega
            · rw [← hbo, strLen_append, strLen_append]; show 1 + o2.length + 1 ≤ _; omega
            · refine wNil (wNil (wNil (wNil (wNil (wNil (wNil ?_))))))
              refine hgo ⟨?_, rfl, rfl, rfl, rfl, rfl, rfl, trivial⟩
              show some (PV.int _) = some (PV.int _)
              congr 2
              rw [hm, hb5]; omega
  · cases rem with
    | cons t rem =>
      refine absurd (of_decide_eq_false hb) (fun q => q ?_)
      have : 1 ≤ (t.render).length := by cases t <;> simp [PT.render]
      simp only [List.flatMap_cons, List.length_append] at hall
      omega
    | nil =>
      simp only [List.flatMap_nil, List.length_nil] at hall
      have ein : i = x.length := by omega
      refine WS.assert (Tv.of (Tv.cmp (Ev.loc (hV.look _ _ rfl) (by with_unfolding_all rfl)) (Ev.loc (hV.look _ _ rfl) (by with_unfolding_all rfl)) eq_ii) (by rw [ein]; simp)) ?_
      refine wRet (p := .raw (.ref a)) (Ev.loc (hV.look _ _ rfl) (by with_unfolding_all rfl)) ⟨_, rfl, ?_⟩
      have e : toks = done := by rw [htk, List.append_nil]
      rw [e]
      have same : ∀ (L : List (Addr × MO)) (l : List PV), ResL L l l := fun L l => by
        induction l with
        | nil => exact .nil
        | cons p l ih => exact .cons .same ih
      exact .led (by simp) (same _ _)
end
section
variable {X : Wd} {k : Nat} {f : FS}
section
variable {hs : Shared} {mu : Addr → Prop} {env : Env} {vars : List (Str × PV)} {own : List Addr} {led : List (Addr × MO)}
theorem wWhileP {t : Expr} {body rest : List Stmt} {pos : Pos} {Ψ} (P : List (Str × PV) → List (Addr × MO) → Prop) (J : Nat → List (Str × PV) → List (Addr × MO) → Prop) (n : Nat) (h0 : J n vars led)
    (turn : ∀ n V L, J n V L → ∃ b, Tv X k ⟨hs, mu, env, V, own, L⟩ t b ∧
      (b = true → WS X k ⟨hs, mu, env, V, own, L⟩ body (TurnP P J n Ψ)) ∧
      (b = false → P V L))
    (hrest : ∀ V L, P V L → WS X k ⟨hs, mu, env, V, own, L⟩ rest Ψ) : WS X k ⟨hs, mu, env, vars, own, led⟩ (.While t body [] pos :: rest) Ψ :=
  wWhile J n h0 fun n V L hJ => by
    obtain ⟨b, h1, h2, h3⟩ := turn n V L hJ
    refine ⟨b, h1, fun hb => (h2 hb).mono fun fl V' L' hp => ?_, fun hb => hrest V L (h3 hb)⟩
    cases fl with
    | next => exact hp
    | cont => exact hp
    | brk => exact hrest V' L' hp
    | ret p => exact hp
end
/-- what _join_translated_parts is handed -/
noncomputable def inpV (st : Addr) (pre : List Str) (tail : Option (List Str)) : List PV := pre.map .str ++ (match tail with | none => [] | some post => .raw (.ref st) :: post.map .str)
noncomputable def tailLen : Option (List Str) → Nat | none => 0 | some post => post.length + 1
noncomputable def joined (pre : List Str) (tail : Option (List Str)) : List Str := pre ++ (match tail with | none => [] | some [] => [Str.ofString ".*"] | some post => [Str.ofString ".*", Txt.join (Str.ofString "") post])
noncomputable def joinC (pre : List Str) (tail : Option (List Str)) : Str := ((Str.empty ++ Str.ofString "(?s:") ++ Txt.join (Str.ofString "") (joined pre tail)) ++ Str.ofString ")\\Z"
theorem str_join_flat : ∀ ys : List Str, (Str.join ⟨#[]⟩ ys).cps.toList = (ys.map (·.cps.toList)).flatten
  | [] => rfl
  | [x] => by simp [Str.join]
  | x :: y :: r => by
    have h := str_join_flat (y :: r)
    show ((x ++ ⟨#[]⟩) ++ Str.join ⟨#[]⟩ (y :: r)).cps.toList = _
    have e : ∀ a b : Str, (a ++ b).cps.toList = a.cps.toList ++ b.cps.toList := fun a b => by show (a.cps ++ b.cps).toList = _; simp
    rw [e, e, h]; simp
theorem join_flat (ys : List Str) : (Txt.join (Str.ofString "") ys).cps.toList = (ys.map (·.cps.toList)).flatten := by
  unfold Txt.join
  rw [PySem.StrLaws.glued_eq_join]
  exact str_join_flat ys
noncomputable def weightS (l : List Str) : Nat := (l.map (·.length)).sum
noncomputable def joinVars (a bd st : Addr) (i n : Nat) (inp : List PV) : List (Str × PV) := [("i", .int i), ("n", .int n), ("add", .raw (.ref bd)), ("res", .raw (.ref a)), ("inp", .lst inp), ("STAR", .raw (.ref st))]
theorem join_weight (ys : List Str) : (Txt.join (Str.ofString "") ys).length = weightS ys := by
  have h := congrArg List.length (join_flat ys)
  rw [Array.length_toList] at h
  show Array.size _ = _
  rw [h]
  unfold weightS
  rw [List.length_flatten, List.map_map]
  congr 1
theorem weight_joined (pre : List Str) (tail : Option (List Str)) : weightS (joined pre tail) ≤ weightS pre + 2 + weightS (tail.getD []) ∧ (joined pre tail).length ≤ pre.length + 2 := by
  have w : ∀ a b : List Str, weightS (a ++ b) = weightS a + weightS b := fun a b => by unfold weightS; simp
  cases tail with
  | none => simp [joined, weightS]
  | some post =>
    cases post with
    | nil =>
      unfold joined
      rw [w]
      refine ⟨?_, by simp⟩
      show _ + 2 ≤ _ ; simp [weightS]
    | cons y post =>
      unfold joined
      rw [w]
      refine ⟨?_, by simp⟩
      show _ + weightS [Str.ofString ".*", Txt.join (Str.ofString "") (y :: post)] ≤ _
      have : weightS [Str.ofString ".*", Txt.join (Str.ofString "") (y :: post)] = 2 + weightS (y :: post) := by
        show (2 + ((Txt.join (Str.ofString "") (y :: post)).length + 0)) = _
        rw [join_weight]; rfl
      rw [this]; show _ ≤ _ + 2 + weightS (y :: post); omega
theorem join_spec (C : Cx X) (st : Addr) (pre : List Str) (tail : Option (List Str)) (h1 : pre.length ≤ 100000) (h2 : (tail.getD []).length ≤ 100000) (w1 : weightS pre ≤ 1000000) (w2 : weightS (tail.getD []) ≤ 1000000) :
    OpN X 1 [.lst (inpV st pre tail), .raw (.ref st)] (fun vs => call (.ref 97) vs) (.str (joinC pre tail)) := by
  refine fspec C (ns := ["inp", "STAR"]) (fun P => by with_unfolding_all rfl) (fun P => by kernel_rfl) (len2 rfl fun _ _ => rfl) rfl (by decide +kernel) (by decide +kernel) ?_ (by decide +kernel)
  intro hs mu L own T _ X C
  obtain ⟨inp, hinp⟩ : ∃ inp, inp = inpV st pre tail := ⟨_, rfl⟩
  obtain ⟨n, hn⟩ : ∃ n, n = inp.length := ⟨_, rfl⟩
  rw [← hinp]
  have hnl : n = pre.length + tailLen tail := by
    rw [hn, hinp]; unfold inpV tailLen; cases tail <;> simp
  have hn2 : n ≤ 200001 := by rw [hnl]; cases tail with
    | none => simp only [tailLen]; omega
    | some post => simp only [tailLen]; simp at h2; omega
  have h4 : (4000000 : Nat) ≤ sizeLine := by decide
  have wj := weight_joined pre tail
  have h5 : (200001 : Nat) ≤ sizeLine := by decide
  have hJ : Keep (weightS (joined pre tail) + 7 ≤ sizeLine) := (by omega : weightS (joined pre tail) + 7 ≤ sizeLine)
  have hP : Keep (weightS (tail.getD []) ≤ sizeLine) := (by omega : weightS (tail.getD []) ≤ sizeLine)
  clear h1 h2 w1 w2 wj h4
  show WS _ _ ⟨hs, mu, _, [("inp", .lst inp), ("STAR", .raw (.ref st))], own, []⟩ _ _
  refine wAssignX (EvX.list (ps := []) EvL.nil (by decide)) (.loc (by with_unfolding_all rfl)) (fun p Le h => ?_)
  obtain ⟨a, rfl, rfl⟩ := h
  refine wAssignX (x := "add") (EvX.bound (a := a) (xs := []) (by walk_at "nm") (.head _)) (.loc (by with_unfolding_all rfl)) (fun p Le h => ?_)
  obtain ⟨bd, rfl, rfl⟩ := h
  refine WS.assignSw (names := ["i", "n"]) (EvX.tupX (EvLX.of (ps := [.int 0, .int n]) (EvL.cons (by walk_at "ev") (EvL.cons (Ev.of (Ev.len C (xs := inp) (by walk_at "nm") Lst.fz (by omega) (by with_unfolding_all rfl)) (by rw [hn])) EvL.nil))) (fun qs led h => by rw [h.1]; show 2 ≤ _; decide)) rfl (fun qs led h => by rw [h.1]; rfl) (fun qs led h => ?_)
  obtain ⟨rfl, rfl⟩ := h
  show WS _ _ ⟨hs, mu, _, [("i", .int 0), ("n", .int n), ("add", .raw (.ref bd)), ("res", .raw (.ref a)), ("inp", .lst inp), ("STAR", .raw (.ref st))], own, [(bd, .obj (bnd "list.append" a)), (a, .lst [])]⟩ _ _
  have hpre : ∀ i, i < pre.length → inp[i]? = some (.str (pre.getD i Str.empty)) := fun i h => by
    rw [hinp]; unfold inpV
    rw [List.getElem?_append_left (by simpa using h), List.getElem?_map, List.getElem?_eq_getElem h]
    simp [List.getD, h]
  have idx : ∀ {V : List (Str × PV)} {Le : List (Addr × MO)} {env : Env} {p1 p2 p3 : Pos} {i : Nat} {q : PV}, V.lookup ("inp" : Str) = some (.lst inp) → V.lookup ("i" : Str) = some (.int (i : Int)) → Env.kindOf env "inp" = some .local → Env.kindOf env "i" = some .local → inp[i]? = some q → Ev X 0 ⟨hs, mu, env, V, own, Le⟩ (.Subscript (.Name "inp" p1) (.Name "i" p2) p3) q :=
    fun v1 v2 k1 k2 hq => by
      have hlt := (List.getElem?_eq_some_iff.mp hq).1
      exact Ev.sub_l (xs := inp) (Ev.loc v1 k1) Lst.fz (Ev.loc v2 k2) (by unfold seqIndex?; simp; omega) hq (by omega) (by omega)
  -- the fixed parts ahead of a star
  refine wWhileP (fun V Le => Subv (joinVars a bd st pre.length n inp) V ∧ Le = [(bd, .obj (bnd "list.append" a)), (a, .lst (pre.map .str))])
    (fun m V Le => ∃ i, m = pre.length - i ∧ i ≤ pre.length ∧ Subv (joinVars a bd st i n inp) V ∧ Le = [(bd, .obj (bnd "list.append" a)), (a, .lst ((pre.take i).map .str))]) pre.length ⟨0, rfl, Nat.zero_le _, ⟨rfl, rfl, rfl, rfl, rfl, rfl, trivial⟩, rfl⟩ ?_ ?_
  · rintro m V Le ⟨i, rfl, hi, hV, rfl⟩
    have ltT : ∀ {Le : List (Addr × MO)} {env : Env} {p1 p2 p3 : Pos}, Env.kindOf env "i" = some .local → Env.kindOf env "n" = some .local → Tv X 0 ⟨hs, mu, env, V, own, Le⟩ (.Compare (.Name "i" p1) [.Lt] [.Name "n" p2] p3) (decide ((i : Int) < (n : Int))) := fun k1 k2 => Tv.cmp (Ev.loc (hV.look _ _ rfl) k1) (Ev.loc (hV.look _ _ rfl) k2) lt_ii
    by_cases hlt : i < pre.length
    · refine ⟨true, Tv.and_t (Tv.of (ltT (by with_unfolding_all rfl) (by with_unfolding_all rfl)) (decide_eq_true (by omega))) (Tv.and_1 (Tv.cmp (idx (hV.look _ _ rfl) (hV.look _ _ rfl) (by with_unfolding_all rfl) (by with_unfolding_all rfl) (hpre i hlt)) (Ev.loc (hV.look _ _ rfl) (by with_unfolding_all rfl)) isnot_sr)), fun _ => ?_, fun h => by cases h⟩
      refine wForget _ hV (WS.hide fun Ψ hΨ => ?_)
      refine wCallBound (a := a) (b := bd) (xs := (pre.take i).map .str) (p := .str (pre.getD i Str.empty)) (by walk_at "nm") (.head _) (idx rfl rfl (by with_unfolding_all rfl) (by with_unfolding_all rfl) (hpre i hlt)) (.there .here) (by rw [List.length_map, List.length_take]; omega) ?_
      refine wAug (p := .int i) (q := .int 1) (by with_unfolding_all rfl) (by with_unfolding_all rfl) (by walk_at "ev") iadd_ii (wNil ?_)
      refine hΨ _ _ _ ⟨pre.length - (i + 1), by omega, i + 1, rfl, hlt, ⟨rfl, rfl, rfl, rfl, rfl, rfl, trivial⟩, ?_⟩
      have : (pre.take (i + 1)).map PV.str = (pre.take i).map .str ++ [.str (pre.getD i Str.empty)] := by
        rw [List.take_add_one, List.map_append, List.getElem?_eq_getElem hlt]; simp [List.getD, hlt]
      rw [this]
    · have hie : i = pre.length := by omega
      subst hie
      refine ⟨false, ?_, fun h => (by cases h), fun _ => ⟨hV, by rw [List.take_length]⟩⟩
      cases tail with
      | none => exact Tv.and_f (Tv.of (ltT (by with_unfolding_all rfl) (by with_unfolding_all rfl)) (decide_eq_false (by simp only [tailLen] at hnl; omega)))
      | some post =>
        refine Tv.and_t (Tv.of (ltT (by with_unfolding_all rfl) (by with_unfolding_all rfl)) (decide_eq_true (by simp only [tailLen] at hnl; omega))) (Tv.and_1 (Tv.cmp (p := .raw (.ref st)) (idx (hV.look _ _ rfl) (hV.look _ _ rfl) (by with_unfolding_all rfl) (by with_unfolding_all rfl) ?_) (Ev.loc (hV.look _ _ rfl) (by with_unfolding_all rfl)) isnot_rr))
        rw [hinp]; unfold inpV
        rw [List.getElem?_append_right (by simp)]; simp
  rintro V Le ⟨hV, rfl⟩
  refine wForget _ hV ?_
  have hpost : ∀ post, tail = some post → ∀ j, j < post.length → inp[pre.length + 1 + j]? = some (.str (post.getD j Str.empty)) := fun post ht j h => by
    rw [hinp, ht]; unfold inpV
    rw [List.getElem?_append_right (by simp; omega)]
    have e : pre.length + 1 + j - (pre.map PV.str).length = j + 1 := by simp; omega
    rw [e]
    simp [List.getD, h]
  refine wWhileP (fun V Le => Subv (joinVars a bd st n n inp) V ∧ (a, MO.lst ((joined pre tail).map .str)) ∈ Le)
    (fun m V Le => (m = 1 ∧ Subv (joinVars a bd st pre.length n inp) V ∧ Le = [(bd, .obj (bnd "list.append" a)), (a, .lst (pre.map .str))] ∧ tail.isSome = true) ∨ (Subv (joinVars a bd st n n inp) V ∧ (a, MO.lst ((joined pre tail).map .str)) ∈ Le)) 1 ?_ ?_ ?_
  · cases tail with
    | none =>
      right
      have e : n = pre.length := by simpa [tailLen] using hnl
      refine ⟨by rw [e]; exact ⟨rfl, rfl, rfl, rfl, rfl, rfl, trivial⟩, ?_⟩
      simp [joined]
    | some post => exact .inl ⟨rfl, ⟨rfl, rfl, rfl, rfl, rfl, rfl, trivial⟩, rfl, rfl⟩
  · rintro m V Le (⟨rfl, hV, rfl, hts⟩ | ⟨hV, hmem⟩)
    · obtain ⟨post, rfl⟩ := Option.isSome_iff_exists.mp hts
      have hnp : n = pre.length + (post.length + 1) := hnl
      refine ⟨true, Tv.of (Tv.cmp (Ev.loc (hV.look _ _ rfl) (by with_unfolding_all rfl)) (Ev.loc (hV.look _ _ rfl) (by with_unfolding_all rfl)) lt_ii) (decide_eq_true (by omega)), fun _ => ?_, fun h => by cases h⟩
      refine wForget _ hV (WS.hide fun Ψ hΨ => ?_)
      have hstar : inp[pre.length]? = some (.raw (.ref st)) := by
        rw [hinp]; unfold inpV
        rw [List.getElem?_append_right (by simp)]; simp
      refine WS.assert (Tv.cmp (idx rfl rfl (by with_unfolding_all rfl) (by with_unfolding_all rfl) hstar) (by walk_at "nm") is_rr) ?_
      refine wAug (p := .int (pre.length : Int)) (q := .int 1) (r := .int ((pre.length + 1 : Nat) : Int)) (by with_unfolding_all rfl) (by with_unfolding_all rfl) (by walk_at "ev") (Op2.of iadd_ii (by push_cast; rfl)) ?_
      refine wIte (b := decide (post.length = 0)) (Tv.of (Tv.cmp (p := .int ((pre.length + 1 : Nat) : Int)) (q := .int n) (by walk_at "nm") (by walk_at "nm") eq_ii) (by rw [Bool.eq_iff_iff, beq_iff_eq, decide_eq_true_iff]; omega)) (fun hp0 => ?_) (fun hp0 => ?_)
      · have hp0 : post = [] := List.length_eq_zero_iff.mp (of_decide_eq_true hp0)
        subst hp0
        have en : n = pre.length + 1 := by simpa using hnp
        refine wCallBound (a := a) (b := bd) (xs := pre.map .str) (p := .str (Str.ofString ".*")) (by walk_at "nm") (.head _) (by walk_at "ev") (.there .here) (by rw [List.length_map]; omega) ?_
        refine wBrk (hΨ _ _ _ ⟨by rw [en]; exact ⟨rfl, rfl, rfl, rfl, rfl, rfl, trivial⟩, ?_⟩)
        simp [joined]
      · have hp0 : post.length ≠ 0 := of_decide_eq_false hp0
        refine wNil ?_
        refine WS.assert (Tv.cmp (idx (i := pre.length + 1) rfl rfl (by with_unfolding_all rfl) (by with_unfolding_all rfl) (hpost post rfl 0 (by omega))) (by walk_at "nm") isnot_sr) ?_
        refine wAssignX (x := "fixed") (EvX.list (ps := []) EvL.nil (by decide)) (.loc (by with_unfolding_all rfl)) (fun p Le h => ?_)
        obtain ⟨fx, rfl, rfl⟩ := h
        refine wWhileP (fun V Le => Subv (("fixed", .raw (.ref fx)) :: joinVars a bd st n n inp) V ∧ Le = [(fx, .lst (post.map .str)), (bd, .obj (bnd "list.append" a)), (a, .lst (pre.map .str))])
          (fun m V Le => ∃ j, m = post.length - j ∧ j ≤ post.length ∧ Subv (("fixed", .raw (.ref fx)) :: joinVars a bd st (pre.length + 1 + j) n inp) V ∧ Le = [(fx, .lst ((post.take j).map .str)), (bd, .obj (bnd "list.append" a)), (a, .lst (pre.map .str))]) post.length ⟨0, rfl, Nat.zero_le _, ⟨rfl, rfl, rfl, rfl, rfl, rfl, rfl, trivial⟩, rfl⟩ ?_ ?_
        · rintro m V Le ⟨j, rfl, hj, hV, rfl⟩
          have ltT : ∀ {Le : List (Addr × MO)} {env : Env} {p1 p2 p3 : Pos}, Env.kindOf env "i" = some .local → Env.kindOf env "n" = some .local → Tv X 0 ⟨hs, mu, env, V, own, Le⟩ (.Compare (.Name "i" p1) [.Lt] [.Name "n" p2] p3) (decide (((pre.length + 1 + j : Nat) : Int) < (n : Int))) := fun k1 k2 => Tv.cmp (Ev.loc (hV.look _ _ rfl) k1) (Ev.loc (hV.look _ _ rfl) k2) lt_ii
          by_cases hlt : j < post.length
          · refine ⟨true, Tv.and_t (Tv.of (ltT (by with_unfolding_all rfl) (by with_unfolding_all rfl)) (decide_eq_true (by omega))) (Tv.and_1 (Tv.cmp (idx (hV.look _ _ rfl) (hV.look _ _ rfl) (by with_unfolding_all rfl) (by with_unfolding_all rfl) (hpost post rfl j hlt)) (Ev.loc (hV.look _ _ rfl) (by with_unfolding_all rfl)) isnot_sr)), fun _ => ?_, fun h => by cases h⟩
            refine wForget _ hV (WS.hide fun Ψ' hΨ' => ?_)
            refine wAppend (a := fx) (xs := (post.take j).map .str) (p := .str (post.getD j Str.empty)) (by walk_at "nm") (idx rfl rfl (by with_unfolding_all rfl) (by with_unfolding_all rfl) (hpost post rfl j hlt)) .here (by rw [List.length_map, List.length_take]; omega) ?_
            refine wAug (p := .int ((pre.length + 1 + j : Nat) : Int)) (q := .int 1) (r := .int ((pre.length + 1 + (j + 1) : Nat) : Int)) (by with_unfolding_all rfl) (by with_unfolding_all rfl) (by walk_at "ev") (Op2.of iadd_ii (by push_cast; rfl)) (wNil ?_)
            refine hΨ' _ _ _ ⟨post.length - (j + 1), by omega, j + 1, rfl, hlt, ⟨rfl, rfl, rfl, rfl, rfl, rfl, rfl, trivial⟩, ?_⟩
            have : (post.take (j + 1)).map PV.str = (post.take j).map .str ++ [.str (post.getD j Str.empty)] := by
              rw [List.take_add_one, List.map_append, List.getElem?_eq_getElem hlt]; simp [List.getD, hlt]
            rw [this]
          · have hje : j = post.length := by omega
            subst hje
            refine ⟨false, Tv.and_f (Tv.of (ltT (by with_unfolding_all rfl) (by with_unfolding_all rfl)) (decide_eq_false (by omega))), fun h => (by cases h), fun _ => ⟨?_, by rw [List.take_length]⟩⟩
            have e : pre.length + 1 + post.length = n := by omega
            rw [e] at hV; exact hV
        · rintro V Le ⟨hV, rfl⟩
          refine wForget _ hV ?_
          refine wAssign (x := "fixed") (p := .str (Txt.join (Str.ofString "") post)) (Ev.join (ys := post) (by walk_at "nm") (Lst.own (.head _)) ?_) (.loc (by with_unfolding_all rfl)) ?_
          · show weightS post + post.length * 0 ≤ _
            have hP : weightS post ≤ sizeLine := hP
            rw [Nat.mul_zero]; exact hP
          refine wT (Tv.of (Tv.cmp (p := .int n) (q := .int n) (by walk_at "nm") (by walk_at "nm") eq_ii) (by simp)) ?_
          refine wCallBound (a := a) (b := bd) (xs := pre.map .str) (p := .str (Str.ofString ".*")) (by walk_at "nm") (.tail _ (.head _)) (by walk_at "ev") (.there (.there .here)) (by rw [List.length_map]; omega) ?_
          refine wCallBound (a := a) (b := bd) (xs := pre.map .str ++ [.str (Str.ofString ".*")]) (p := .str (Txt.join (Str.ofString "") post)) (by walk_at "nm") (.tail _ (.head _)) (by walk_at "nm") (.there (.there .here)) (by rw [List.length_append, List.length_map]; show _ + 1 ≤ _; omega) ?_
          refine wNil (wNil (hΨ _ _ _ ⟨0, by omega, .inr ⟨⟨rfl, rfl, rfl, rfl, rfl, rfl, trivial⟩, ?_⟩⟩))
          cases post with
          | nil => simp at hp0
          | cons y post => simp [joined]
    · refine ⟨false, Tv.of (Tv.cmp (Ev.loc (hV.look _ _ rfl) (by with_unfolding_all rfl)) (Ev.loc (hV.look _ _ rfl) (by with_unfolding_all rfl)) lt_ii) (decide_eq_false (by omega)), fun h => (by cases h), fun _ => ⟨hV, hmem⟩⟩
  · rintro V Le ⟨hV, hmem⟩
    refine wForget _ hV ?_
    refine WS.assert (Tv.of (Tv.cmp (p := .int n) (q := .int n) (by walk_at "nm") (by walk_at "nm") eq_ii) (by simp)) ?_
    refine wAssign (x := "res") (p := .str (Txt.join (Str.ofString "") (joined pre tail))) (Ev.join (ys := joined pre tail) (by walk_at "nm") (Lst.own hmem) ?_) (.loc (by with_unfolding_all rfl)) ?_
    · show weightS (joined pre tail) + (joined pre tail).length * 0 ≤ _
      have hJ : weightS (joined pre tail) + 7 ≤ sizeLine := hJ
      rw [Nat.mul_zero]; exact Nat.le_trans (Nat.le_add_right _ 7) hJ
    refine wRet (p := .str (joinC pre tail)) (Ev.fstr ⟨Str.ofString "(?s:", by walk_at "ev", ?_, _, Ev.fval (by walk_at "nm") ?_, ?_, Str.ofString ")\\Z", by walk_at "ev", ?_, rfl⟩ ?_) ⟨_, rfl, .same⟩
    · show 4 ≤ sizeLine; decide
    all_goals (have hJ : weightS (joined pre tail) + 7 ≤ sizeLine := hJ)
    · rw [join_weight]; exact Nat.le_trans (Nat.le_add_right _ 7) hJ
    · rw [strLen_append, join_weight]; exact Nat.le_trans (by show 4 + _ ≤ _; omega) hJ
    · rw [strLen_append, strLen_append, join_weight]; exact Nat.le_trans (by show 4 + _ + 3 ≤ _; omega) hJ
    · unfold joinC; rw [strLen_append, strLen_append, join_weight]; exact Nat.le_trans (by show 4 + _ + 3 ≤ _; omega) hJ
end
section
variable {X : Wd} {k : Nat} {f : FS}
theorem mro_object' : mroOf (.type "object") = pure [.type "object"] := by rw [mroOf_type]; kernel_rfl
theorem lookup_object_new' : typeLookup (.type "object") "__new__" = pure (some (.builtin "object.__new__")) := by rw [typeLookup_type, builtinLookup_eq_fast]; kernel_rfl
theorem called_object : TypeCalled "object" "object.__new__" "object.__init__" :=
  ⟨by decide +kernel, by decide +kernel, ⟨_, _, mro_object'⟩, madeBy_type mro_object' lookup_object_new' (by decide +kernel), by decide +kernel, by rw [isSubtype_type]; kernel_rfl, PySem.F.slot_object_init⟩
theorem meets_object_new : Meets (Builtin.«object.__new__» ⟨[.type "object"], []⟩) (fun _ R s => R (.ok (.ret (.ref s.heap.objs.size))) { s with heap := s.heap.push { cls := .type "object", data := .plain } }) :=
  .of_wp fun prog w A R s h => by
    obtain ⟨hp, g, d, tk, os⟩ := s
    have f1 := lookup_object_new'
    have f2 := mro_object'
    have f3 : Bind.madeBy (.type "object") = pure (some "object.__new__") := called_object.made
    unfold Builtin.«object.__new__»
    repeat (any_goals (first | assumption | wp_step))
    exact ⟨_, rfl, h⟩
theorem call_object {A : Around} {s : Shared} {E : Value → Shared → Prop} {Q : Value → Shared → Prop} (h : Q (.ref s.heap.objs.size) { s with heap := s.heap.push { cls := .type "object", data := .plain } }) : wpAny (Mo X) A (call (.type "object") []) Q E s := by
  refine callType_meets called_object (by kernel_rfl) (by kernel_rfl) PySem.F.entry_object_new PySem.F.entry_object_init meets_object_new (Q₁ := fun v s' => v = .ref s.heap.objs.size ∧ s' = { s with heap := s.heap.push { cls := .type "object", data := .plain } }) ⟨rfl, rfl⟩ ?_
  rintro obj s₁ ⟨rfl, rfl⟩
  refine ⟨⟨_, Heap.get?_push_size _ rfl, rfl⟩, by unfold argsOk; kernel_rfl, fun _ R s => R (.ok (.ret .none)) s, .of_wp fun prog w A R s hs => wpAny_pure ⟨_, rfl, hs⟩, ?_⟩
  exact ⟨rfl, h⟩
theorem EvX.object (C : Cx X) {p1 p2 : Pos} (hl : f.env.kindOf "object" = some .globalImplicit) : EvX X k f (.Call (.Name "object" p1) [] [] p2) (fun p led => ∃ st, p = .raw (.ref st) ∧ led = f.led) := by
  intro A s Q R F hQ
  have hf : Ev X k f (.Name "object" p1) (.raw (.type "object")) := Ev.blt C (fun P => by kernel_rfl) (by decide +kernel) hl
  refine Call_ (hf A s _ R F fun w s₁ G₁ F₁ h₁ => ?_)
  cases h₁
  refine callWith_of (P := Live X) rfl Kept.ty ?_
  refine PyProof.Rows.evalArgs_none ⟨F₁.live, ?_⟩
  refine call_object ?_
  have G₂ : Grow X s₁ { s₁ with heap := s₁.heap.push { cls := .type "object", data := .plain } } := .push F₁.live
  exact hQ _ f.led _ _ ⟨_, rfl, rfl⟩ (F₁.grown F₁.live G₂) (Step.grow F (G₁.trans G₂)) rfl

noncomputable def PT.str : PT → Str
  | .star => Str.empty
  | .lit c => escC c
  | .br neg d => brOut neg d
noncomputable def ptoks (pre : List PT) (tail : Option (List PT)) : List PT := pre ++ (match tail with | none => [] | some post => .star :: post)
theorem pstars_zero {l : List PT} (h : pstars l = 0) : ∀ t ∈ l, ∀ st, PT.out st t = .str t.str := fun t ht st => by
  cases t with
  | star =>
    unfold pstars at h
    have := List.filter_eq_nil_iff.mp (List.length_eq_zero_iff.mp h) _ ht
    simp at this
  | lit c => rfl
  | br n d => rfl
theorem pstr_le (t : PT) : t.str.length ≤ 4 := by
  cases t with
  | star => exact Nat.zero_le _
  | lit c =>
    show (escC c).length ≤ 4
    unfold escC; split
    · show 2 ≤ 4; decide
    · show 1 ≤ 4; decide
  | br n d =>
    show (brOut n d).length ≤ 4
    unfold brOut; split
    · show 4 ≤ 4; decide
    · split
      · show 4 ≤ 4; decide
      · show 3 ≤ 4; decide
theorem weight_pt (l : List PT) : weightS (l.map PT.str) ≤ 4 * l.length := by
  induction l with
  | nil => simp [weightS]
  | cons t l ih =>
    have := pstr_le t
    unfold weightS at ih ⊢
    simp only [List.map_cons, List.sum_cons, List.length_cons] at ih ⊢
    omega
theorem pstars_app (a b : List PT) : pstars (a ++ b) = pstars a + pstars b := by unfold pstars; rw [List.filter_append, List.length_append]
theorem pstars_star (l : List PT) : pstars (.star :: l) = pstars l + 1 := by unfold pstars; rw [List.filter_cons_of_pos rfl]; rfl
theorem trans_spec (C : Cx X) (x : Str) (pre : List PT) (tail : Option (List PT)) (hx : x.cps.toList = (ptoks pre tail).flatMap PT.render) (hok : ∀ t ∈ ptoks pre tail, t.ok) (hp : pstars pre = 0) (ht : pstars (tail.getD []) = 0) (hlen : x.length ≤ 100000) :
    OpN X 7 [.str x] (fun vs => call (.ref 71) vs) (.str (joinC (pre.map PT.str) (tail.map (·.map PT.str)))) := by
  refine fspec C (ns := ["pat"]) (fun P => by with_unfolding_all rfl) (fun P => by kernel_rfl) (len1 rfl fun _ => rfl) rfl (by decide +kernel) (by decide +kernel) ?_ (by decide +kernel)
  intro hs mu L own T _ X C
  have hst : pstars (ptoks pre tail) ≤ 1 := by
    unfold ptoks
    rw [pstars_app, hp]
    cases tail with
    | none => show 0 + pstars [] ≤ 1; decide
    | some post =>
      show 0 + pstars (.star :: post) ≤ 1
      rw [pstars_star]
      have : pstars post = 0 := ht
      omega
  have hlenT : ∀ l : List PT, l.length ≤ (l.flatMap PT.render).length := fun l => by
    induction l with
    | nil => exact Nat.le_refl _
    | cons t l ih =>
      have : 1 ≤ t.render.length := by cases t <;> simp [PT.render]
      rw [List.flatMap_cons, List.length_cons, List.length_append]; omega
  have hxl : (ptoks pre tail).length ≤ x.length := by
    have := hlenT (ptoks pre tail)
    rw [← hx] at this
    simpa [Str.length] using this
  have hl1 : pre.length ≤ 100000 := by unfold ptoks at hxl; rw [List.length_append] at hxl; omega
  have hl2 : (tail.getD []).length ≤ 100000 := by
    unfold ptoks at hxl; rw [List.length_append] at hxl
    cases tail with
    | none => simp
    | some post => simp at hxl ⊢; omega
  show WS _ _ ⟨hs, mu, _, [("pat", .str x)], own, []⟩ _ _
  refine wAssignX (EvX.object C (by with_unfolding_all rfl)) (.loc (by with_unfolding_all rfl)) (fun p Le h => ?_)
  obtain ⟨st, rfl, rfl⟩ := h
  have hinp : (ptoks pre tail).map (PT.out st) = inpV st (pre.map PT.str) (tail.map (·.map PT.str)) := by
    have e : ∀ l : List PT, pstars l = 0 → l.map (PT.out st) = (l.map PT.str).map .str := fun l h => by
      rw [List.map_map]; exact List.map_congr_left fun t ht => pstars_zero h t ht st
    unfold ptoks inpV
    rw [List.map_append, e pre hp]
    cases tail with
    | none => rfl
    | some post => show _ ++ (PV.raw (.ref st) :: post.map (PT.out st)) = _; rw [e post ht]; rfl
  refine wAssign (x := "parts") (p := .lst (inpV st (pre.map PT.str) (tail.map (·.map PT.str)))) (Ev.call (v := .ref 90) (Ev.glo (by assumption) (fun P => by with_unfolding_all rfl) (by with_unfolding_all rfl)) (Kept.fn C (fun P => by kernel_rfl)) (EvL.cons (by walk_at "nm") (EvL.cons (by walk_at "nm") (EvL.cons (by walk_at "ev") EvL.nil))) ((translate_spec C x st (ptoks pre tail) hx hok hst hlen).of (by rw [hinp]))) (.loc (by with_unfolding_all rfl)) ?_
  refine wRet (Ev.call (v := .ref 97) (Ev.glo (by assumption) (fun P => by with_unfolding_all rfl) (by with_unfolding_all rfl)) (Kept.fn C (fun P => by kernel_rfl)) (EvL.cons (by walk_at "nm") (EvL.cons (by walk_at "nm") EvL.nil)) ((join_spec C st _ _ (by rw [List.length_map]; exact hl1) ?_ ?_ ?_).up (by omega))) ⟨_, rfl, .same⟩
  · cases tail with
    | none => simp
    | some post => simpa using hl2
  · have := weight_pt pre; omega
  · cases tail with
    | none => simp [weightS]
    | some post => have := weight_pt post; simp at hl2 ⊢; omega
end
section
variable {X : Wd} {k : Nat} {f : FS}
/-- a pattern's token, as the reader meets it -/
noncomputable def PT.tk : PT → TK
  | .star => .star
  | .lit c => .lit c (decide (c ∈ escL))
  | .br neg d => .cls neg d (!neg && d == 91)
theorem tk_render {t : PT} (h : t.ok) (hs : ∀ st, PT.out st t = .str t.str) : t.tk.render = t.str.cps.toList := by
  cases t with
  | star => have := hs 0; simp [PT.out] at this
  | lit c =>
    show _ = (escC c).cps.toList
    unfold escC PT.tk TK.render
    by_cases hc : c ∈ escL
    · rw [if_pos hc]; simp [hc]
    · rw [if_neg hc]; simp [hc]
  | br n d =>
    show _ = (brOut n d).cps.toList
    have h : (n = false ∧ (d = 42 ∨ d = 63 ∨ d = 91)) ∨ (n = true ∧ d = 123) := h
    rcases h with ⟨rfl, rfl | rfl | rfl⟩ | ⟨rfl, rfl⟩ <;> rfl
theorem tk_ok {t : PT} (h : t.ok) : t.tk.ok := by
  cases t with
  | star => trivial
  | lit c =>
    intro he
    have hc : c ∉ escL := of_decide_eq_false he
    have h : c ≠ 42 ∧ c ≠ 63 ∧ c ≠ 91 := h
    exact ⟨fun hm => hc ((by decide : ∀ d, d ∈ badC → d ∈ escL) c hm), h.2.2, fun e => hc (by rw [e]; decide)⟩
  | br n d =>
    intro he
    have h : (n = false ∧ (d = 42 ∨ d = 63 ∨ d = 91)) ∨ (n = true ∧ d = 123) := h
    rcases h with ⟨rfl, rfl | rfl | rfl⟩ | ⟨rfl, rfl⟩ <;> first | (exact ⟨by decide, fun _ => by decide⟩) | (exact ⟨by decide, fun q => by cases q⟩) | (exact absurd he (by decide))
theorem flat_tk (l : List PT) (hok : ∀ t ∈ l, t.ok) (hs : pstars l = 0) : (l.map PT.tk).flatMap TK.render = ((l.map PT.str).map (·.cps.toList)).flatten := by
  induction l with
  | nil => rfl
  | cons t l ih =>
    have h1 : pstars l = 0 := by
      cases t with
      | star => rw [pstars_star] at hs; omega
      | lit c => exact hs
      | br n d => exact hs
    rw [List.map_cons, List.flatMap_cons, ih (fun t h => hok t (.tail _ h)) h1, tk_render (hok t (.head _)) (pstars_zero hs t (.head _))]
    rfl
theorem joinC_cps (pre : List PT) (tail : Option (List PT)) (hok : ∀ t ∈ ptoks pre tail, t.ok) (hp : pstars pre = 0) (ht : pstars (tail.getD []) = 0) :
    (joinC (pre.map PT.str) (tail.map (·.map PT.str))).cps.toList = [40, 63, 115, 58] ++ ((ptoks pre tail).map PT.tk).flatMap TK.render ++ [41, 92, 90] := by
  have ap : ∀ a b : Str, (a ++ b).cps.toList = a.cps.toList ++ b.cps.toList := fun a b => by show (a.cps ++ b.cps).toList = _; simp
  unfold joinC
  rw [ap, ap, ap, join_flat]
  have e1 : (Str.ofString "(?s:").cps.toList = [40, 63, 115, 58] := by decide
  have e2 : (Str.ofString ")\\Z").cps.toList = [41, 92, 90] := by decide
  have e3 : (Str.ofString ".*").cps.toList = [46, 42] := by decide
  rw [e1, e2]
  have hpre : (pre.map PT.tk).flatMap TK.render = ((pre.map PT.str).map (·.cps.toList)).flatten := flat_tk pre (fun t h => hok t (by unfold ptoks; exact List.mem_append_left _ h)) hp
  show [] ++ [40, 63, 115, 58] ++ _ ++ _ = _
  rw [List.nil_append]
  congr 2
  unfold ptoks joined
  rw [List.map_append, List.flatten_append, List.map_append (f := PT.tk), List.flatMap_append, hpre]
  congr 1
  cases tail with
  | none => rfl
  | some post =>
    have hpost : (post.map PT.tk).flatMap TK.render = ((post.map PT.str).map (·.cps.toList)).flatten := flat_tk post (fun t h => hok t (by unfold ptoks; exact List.mem_append_right _ (.tail _ h))) ht
    cases post with
    | nil => show [(Str.ofString ".*").cps.toList].flatten = _; rw [e3]; rfl
    | cons y post =>
      show [(Str.ofString ".*").cps.toList, (Txt.join (Str.ofString "") ((y :: post).map PT.str)).cps.toList].flatten = _
      rw [e3, join_flat]
      show _ = [46, 42] ++ ((y :: post).map PT.tk).flatMap TK.render
      rw [hpost]; simp
/-- what the law reads of a translated pattern -/
noncomputable def PT.item : PT → Item
  | .star => (false, 0)
  | .lit c => (false, c)
  | .br neg d => (neg, d)
noncomputable def readParts (pre : List PT) (tail : Option (List PT)) : List (List Item) := pre.map PT.item :: (match tail with | none => [] | some post => [post.map PT.item])
theorem fold_items : ∀ (l : List PT) (g : Got), pstars l = 0 → (l.map PT.tk).foldl TK.step g = (match g.2 with | none => (g.1 ++ l.map PT.item, none) | some q => (g.1, some (q ++ l.map PT.item)))
  | [], g, _ => by obtain ⟨g1, g2⟩ := g; cases g2 <;> simp
  | .star :: l, g, h => by rw [pstars_star] at h; omega
  | .lit c :: l, g, h => by
    rw [List.map_cons, List.foldl_cons, fold_items l _ h]
    obtain ⟨g1, g2⟩ := g
    cases g2 <;> simp [TK.step, PT.tk, Got.put, TK.item, PT.item]
  | .br n d :: l, g, h => by
    rw [List.map_cons, List.foldl_cons, fold_items l _ h]
    obtain ⟨g1, g2⟩ := g
    cases g2 <;> simp [TK.step, PT.tk, Got.put, TK.item, PT.item]
theorem parts_eq (pre : List PT) (tail : Option (List PT)) (hp : pstars pre = 0) (ht : pstars (tail.getD []) = 0) : (((ptoks pre tail).map PT.tk).foldl TK.step ([], none)).parts = readParts pre tail := by
  unfold ptoks
  rw [List.map_append, List.foldl_append, fold_items pre _ hp]
  cases tail with
  | none => simp [Got.parts, readParts]
  | some post =>
    show ((post.map PT.tk).foldl TK.step (TK.step ([] ++ pre.map PT.item, none) .star)).parts = _
    rw [fold_items post _ ht]
    simp [TK.step, Got.parts, readParts]
theorem stars_tk : ∀ l : List PT, stars (l.map PT.tk) = pstars l
  | [] => rfl
  | .star :: l => by rw [pstars_star, ← stars_tk l]; unfold stars; rw [List.map_cons, List.filter_cons_of_pos rfl]; rfl
  | .lit c :: l => stars_tk l
  | .br n d :: l => stars_tk l
theorem pstars_ptoks (pre : List PT) (tail : Option (List PT)) (hp : pstars pre = 0) (ht : pstars (tail.getD []) = 0) : pstars (ptoks pre tail) ≤ 1 := by
  unfold ptoks
  rw [pstars_app, hp]
  cases tail with
  | none => show 0 + pstars [] ≤ 1; decide
  | some post =>
    show 0 + pstars (.star :: post) ≤ 1
    rw [pstars_star]
    have : pstars post = 0 := ht
    omega
theorem reads_spec (C : Cx X) (pre : List PT) (tail : Option (List PT)) (hok : ∀ t ∈ ptoks pre tail, t.ok) (hp : pstars pre = 0) (ht : pstars (tail.getD []) = 0) (hl : (joinC (pre.map PT.str) (tail.map (·.map PT.str))).length ≤ 100000) :
    OpN X 1 [.str (joinC (pre.map PT.str) (tail.map (·.map PT.str)))] (fun vs => call (.ref 123) vs) (partsV (readParts pre tail)) := by
  refine (read_spec C _ ((ptoks pre tail).map PT.tk) (joinC_cps pre tail hok hp ht) (fun t h => ?_) ?_ hl).of ?_
  · obtain ⟨u, hu, rfl⟩ := List.mem_map.mp h
    exact tk_ok (hok u hu)
  · rw [stars_tk]; exact pstars_ptoks pre tail hp ht
  · rw [parts_eq pre tail hp ht]
end
section
variable {X : Wd} {k : Nat} {f : FS}
/-- texts in order -/
noncomputable def leS (a b : Str) : Bool := !Spec.ltCps b.cps.toList a.cps.toList
theorem leS_iff (a b : Str) : leS a b = true ↔ a.cps.toList ≤ b.cps.toList := by
  unfold leS
  rw [ltCps_eq, Bool.not_eq_true', decide_eq_false_iff_not]
  exact List.not_lt
theorem leS_trans (a b c : Str) (h : leS a b = true) (q : leS b c = true) : leS a c = true := (leS_iff a c).mpr (List.le_trans ((leS_iff a b).mp h) ((leS_iff b c).mp q))
theorem leS_total (a b : Str) : (leS a b || leS b a) = true := by
  rw [Bool.or_eq_true, leS_iff, leS_iff]; exact List.le_total _ _
theorem leS_anti (a b : Str) (h : leS a b = true) (q : leS b a = true) : a = b := by
  have := List.le_antisymm ((leS_iff a b).mp h) ((leS_iff b a).mp q)
  cases a; cases b
  congr 1
  exact Array.toList_inj.mp this
theorem rising_pairwise : ∀ (p : Str) (l : List Str), risingS p l = true → (p :: l).Pairwise (fun a b => leS a b = true)
  | p, [], _ => List.pairwise_singleton _ _
  | p, x :: r, h => by
    have h : (leS p x && risingS x r) = true := h
    rw [Bool.and_eq_true] at h
    have ih := rising_pairwise x r h.2
    refine List.pairwise_cons.mpr ⟨fun y hy => ?_, ih⟩
    rcases List.mem_cons.mp hy with rfl | hy
    · exact h.1
    · exact leS_trans _ _ _ h.1 (List.rel_of_pairwise_cons ih hy)
theorem sorted_pairwise : ∀ (l : List Str), sortedS l = true → l.Pairwise (fun a b => leS a b = true)
  | [], _ => .nil
  | x :: r, h => rising_pairwise x r h
noncomputable def sortC (ss : List Str) : List Str := ss.mergeSort leS
theorem sortC_perm (ss : List Str) : (sortC ss).Perm ss := List.mergeSort_perm ss leS
theorem sortC_pairwise (ss : List Str) : (sortC ss).Pairwise (fun a b => leS a b = true) := List.pairwise_mergeSort leS_trans leS_total ss
theorem sortC_unique {ss l : List Str} (hp : l.Perm ss) (hs : l.Pairwise (fun a b => leS a b = true)) : l = sortC ss :=
  List.Perm.eq_of_pairwise (fun a b _ _ h q => leS_anti a b h q) hs (sortC_pairwise ss) (hp.trans (sortC_perm ss).symm)
theorem rdl_strs {h : Heap} {mu : Addr → Prop} : ∀ (ss : List Str) (vs : List Value), RdL h mu (ss.map .str) vs → StrsAre vs ss
  | [], vs, x => by cases x; exact .nil
  | y :: ss, vs, ⟨v, r, e, ⟨t, e1⟩, hr⟩ => by subst e e1; exact .cons y t (rdl_strs ss r hr)
theorem strs_rdl {h : Heap} {mu : Addr → Prop} : ∀ {vs : List Value} {ss : List Str}, StrsAre vs ss → RdL h mu (ss.map .str) vs
  | _, _, .nil => rfl
  | _, _, .cons y t r => ⟨_, _, rfl, ⟨t, rfl⟩, strs_rdl r⟩
theorem strs_len : ∀ {vs : List Value} {ss : List Str}, StrsAre vs ss → vs.length = ss.length
  | _, _, .nil => rfl
  | _, _, .cons y t r => by rw [List.length_cons, List.length_cons, strs_len r]
theorem sorted_l {ss : List Str} (hl : ss.length < 64) : OpN X k [.lst (ss.map .str)] (fun vs => call (.builtin "sorted") vs) (.lst ((sortC ss).map .str)) := by
  intro A s mu vs Q R S hv hQ
  obtain ⟨v, r, rfl, ⟨a, o, vs, n, rfl, hm, h1, h2, h3, h4⟩, hr⟩ := hv
  cases hr
  have hS := rdl_strs ss _ h4
  refine with_size (sorted_strs (vs := vs.toList) ⟨o, h1, h2, n, by rw [h3]⟩ hS (by rw [strs_len hS]; exact hl) fun out ss' a1 a2 a3 hz => ?_)
  obtain ⟨e, he⟩ := sortedAll_at s.heap vs.toList out
  have hu : ss' = sortC ss := sortC_unique a2 (sorted_pairwise ss' a3)
  subst hu
  refine hQ _ _ (Grow.kept S.live hz (fun b o q => sortedAll_old q) rfl rfl) ?_
  exact ⟨_, _, out, e, rfl, fun q => Nat.lt_irrefl _ (Nat.lt_trans (Nat.lt_succ_self _) (S.lt _ q)), he, rfl, rfl, strs_rdl a1⟩
end
section
variable {X : Wd} {k : Nat} {f : FS}
theorem Subv.over {x : Str} {p : PV} : ∀ {V vars : List (Str × PV)}, Subv V vars → (V.all fun q => !(q.1 == x)) = true → Subv V ((x, p) :: vars)
  | [], _, _, _ => trivial
  | (y, q) :: V, vars, h, e => by
    have e := Bool.and_eq_true_iff.mp e
    have e1 : (y == x) = false := by rw [← Bool.not_eq_true']; exact e.1
    exact ⟨by rw [List.lookup_cons, e1]; exact h.1, Subv.over h.2 e.2⟩
theorem Subv.push {x : Str} {p : PV} {V vars : List (Str × PV)} (h : Subv V vars) (e : (V.all fun q => !(q.1 == x)) = true) : Subv ((x, p) :: V) ((x, p) :: vars) := ⟨by rw [List.lookup_cons, beq_self_eq_true], h.over e⟩
theorem elt_if {f' : FS} {gp : Option PV} {c elt : Expr} {r : PV} (b : Bool) (hg : gp = if b = true then some r else none) (hT : Tv X k f' c b) (hE : Ev X k f' elt r) :
    (gp = none → Tests X k f' [c] false) ∧ (∀ q, gp = some q → Tests X k f' [c] true ∧ Ev X k f' elt q) := by
  subst hg
  cases b with
  | true => exact ⟨fun h => (nomatch h), fun q h => by cases h; exact ⟨Tests.one hT, hE⟩⟩
  | false => exact ⟨fun _ => Tests.one hT, fun q h => (nomatch h)⟩
theorem elt_unless {f' : FS} {gp : Option PV} {c elt : Expr} {r : PV} (b : Bool) (hg : gp = if b = true then none else some r) (hT : Tv X k f' c (!b)) (hE : Ev X k f' elt r) :
    (gp = none → Tests X k f' [c] false) ∧ (∀ q, gp = some q → Tests X k f' [c] true ∧ Ev X k f' elt q) :=
  elt_if (!b) (by rw [hg]; cases b <;> rfl) hT hE
structure Pat where
  txt : Str
  pre : List PT
  tail : Option (List PT)
noncomputable def Pat.parts (p : Pat) : List (List Item) := readParts p.pre p.tail
structure Pat.Ok (p : Pat) : Prop where
  txt : p.txt.cps.toList = (ptoks p.pre p.tail).flatMap PT.render
  ok : ∀ t ∈ ptoks p.pre p.tail, t.ok
  pre : pstars p.pre = 0
  tail : pstars (p.tail.getD []) = 0
  len : p.txt.length ≤ 100000
  jlen : (joinC (p.pre.map PT.str) (p.tail.map (·.map PT.str))).length ≤ 100000
  plen : p.parts.length ≤ 1000
  ilen : ∀ q ∈ p.parts, q.length ≤ 1000
  items : ∀ q ∈ p.parts, ∀ it ∈ q, it.2 < 0x110000
  ne : p.parts ≠ []
noncomputable def namesG (W : List Str) (ts : List PV) : List Str := ts.filterMap fun t => match t with | .str x => if W.contains x then some x else none | _ => none
noncomputable def placesG (W : List Str) (ts : List PV) : List PV := (List.range ts.length).filterMap fun i => if isW W (ts.getD i .none) then some (.int (i : Nat)) else none
noncomputable def rootOf : PV → PV
  | .inst r _ => r
  | p => p
theorem zipIdx_filterMap {α β : Type} [Inhabited α] (d : α) (l : List α) (g : α → Nat → Option β) : l.zipIdx.filterMap (fun p => g p.1 p.2) = (List.range l.length).filterMap fun i => g (l.getD i d) i := by
  have : l.zipIdx = (List.range l.length).map fun i => (l.getD i d, i) := by
    refine List.ext_getElem (by simp) fun i h1 h2 => ?_
    simp at h1
    simp [h1]
  rw [this, List.filterMap_map]; rfl
theorem places_eq {q : List Nat → Bool} {W : List Str} {ts : List PV} (hts : ∀ t ∈ ts, tagV t = true) (hq : ∀ x, PV.str x ∈ ts → q x.cps.toList = W.contains x) : ((thingsC ts).filter (strP q)).map rootOf = placesG W ts := by
  have hs : ∀ t ∈ ts, ∀ r, strP q (.inst r t) = isW W t := fun t ht r => by
    have h := hts t ht
    cases t with
    | none => rfl
    | int i => rfl
    | str x => exact hq x ht
    | _ => cases h
  have e1 : ((thingsC ts).filter (strP q)).map rootOf = ts.zipIdx.filterMap (fun p => if isW W p.1 then some (PV.int ((p.2 : Nat) : Int)) else none) := by
    have : ∀ l : List (PV × Nat), (∀ p ∈ l, p.1 ∈ ts) → ((l.map fun p => PV.inst (.int ((p.2 : Nat) : Int)) p.1).filter (strP q)).map rootOf = l.filterMap (fun p => if isW W p.1 then some (PV.int ((p.2 : Nat) : Int)) else none) := fun l => by
      induction l with
      | nil => intro _; rfl
      | cons p l ih =>
        intro h
        rw [List.map_cons, List.filter_cons, List.filterMap_cons, hs p.1 (h p (.head _))]
        cases isW W p.1 with
        | true => simp only [if_true, List.map_cons]; rw [ih fun p hp => h p (.tail _ hp)]; rfl
        | false => simp only [Bool.false_eq_true, if_false]; exact ih fun p hp => h p (.tail _ hp)
    exact this ts.zipIdx fun p hp => (List.mem_zipIdx' hp).2 ▸ List.getElem_mem _
  rw [e1]
  haveI : Inhabited PV := ⟨.none⟩
  exact zipIdx_filterMap PV.none ts fun t i => if isW W t then some (PV.int ((i : Nat) : Int)) else none
theorem canL {xs : List PV} {n : Nat} (h : ∀ x ∈ xs, x.D.canLay0 = true ∧ x.D.depth ≤ n) : PyData.canLayAll0 (dataL xs) = true ∧ PyData.depthAll (dataL xs) ≤ n := by
  induction xs with
  | nil => exact ⟨rfl, Nat.zero_le _⟩
  | cons x xs ih =>
    obtain ⟨a, b⟩ := h x (.head _)
    obtain ⟨c, d⟩ := ih fun y hy => h y (.tail _ hy)
    refine ⟨?_, ?_⟩
    · show (x.D.canLay0 && PyData.canLayAll0 (dataL xs)) = true
      rw [a, c]; rfl
    · show max x.D.depth (PyData.depthAll (dataL xs)) ≤ n
      exact Nat.max_le.mpr ⟨b, d⟩
theorem canLst {xs : List PV} {n : Nat} (h : ∀ x ∈ xs, x.D.canLay0 = true ∧ x.D.depth ≤ n) : (PV.lst xs).D.canLay0 = true ∧ (PV.lst xs).D.depth ≤ n + 1 := let ⟨a, b⟩ := canL h; ⟨a, Nat.succ_le_succ b⟩
theorem canTup {xs : List PV} {n : Nat} (h : ∀ x ∈ xs, x.D.canLay0 = true ∧ x.D.depth ≤ n) : (PV.tup xs).D.canLay0 = true ∧ (PV.tup xs).D.depth ≤ n + 1 := let ⟨a, b⟩ := canL h; ⟨a, Nat.succ_le_succ b⟩
theorem shaped_of {p : PV} {n : Nat} (h : p.D.canLay0 = true ∧ p.D.depth ≤ n) (hn : n ≤ 64) : SeqAt.shaped p.D = true := by
  show (p.D.canLay0 && decide (p.D.depth ≤ 64)) = true
  rw [h.1, decide_eq_true (Nat.le_trans h.2 hn)]; rfl
theorem can_tag {t : PV} (ht : tagV t = true) (hx : ∀ x, t = .str x → PyData.strOk x = true) : t.D.canLay0 = true ∧ t.D.depth ≤ 0 := by
  cases t with
  | none => exact ⟨rfl, Nat.le_refl _⟩
  | int i => exact ⟨rfl, Nat.le_refl _⟩
  | str x => exact ⟨hx x rfl, Nat.le_refl _⟩
  | _ => cases ht
/-- not different from itself -/
theorem ne_same {p : PV} {n : Nat} (hd : p.dat = true) (h : p.D.canLay0 = true ∧ p.D.depth ≤ n) (hn : n ≤ 64) : Op2 X (k + 4) p p (compareOp .NotEq) (.bool false) := by
  have := ne_dd (X := X) (k := k) hd hd (shaped_of h hn) (shaped_of h hn)
  rw [SeqAt.eqv_refl _ h.1] at this
  exact this
end
section
variable {X : Wd} {k : Nat} {f : FS}
theorem Stores.dcellO {hs : Shared} {mu : Addr → Prop} {sc : Scope} {q : Str} {cd : Value} {L fa : Addr} {vars : List (Str × PV)} {own : List Addr} {led : List (Addr × MO)} {x : Str} (hown : ∀ c ∈ (cellsFrom (L + 1) sc.names []).map (·.2), c ∈ own) (hl : sc.names.lookup x = some .cell) :
    Stores ⟨hs, mu, dEnv sc q cd L fa, vars, own, led⟩ x := by
  obtain ⟨c, hc⟩ := Option.isSome_iff_exists.mp (cells_look sc.names (L + 1) [] x (.inl (mem_of_lookup' hl)))
  exact .cel c hl hc (hown c (List.mem_map_of_mem (f := (·.2)) (mem_of_lookup hc))) (cells_apart _ _ _ .nil fun _ h => by cases h)
theorem upto_filterMap {β : Type} (n : Nat) (g : PV → Option β) : (upto n).filterMap g = (List.range n).filterMap fun i => g (.int (i : Nat)) := by
  unfold upto
  rw [List.filterMap_map]; rfl
theorem mem_upto {n : Nat} {p : PV} (h : p ∈ upto n) : ∃ i, i < n ∧ p = .int (i : Nat) := by
  obtain ⟨i, hi, rfl⟩ := List.mem_map.mp h
  exact ⟨i, List.mem_range.mp hi, rfl⟩
theorem placesG_int {W : List Str} {ts : List PV} {p : PV} (h : p ∈ placesG W ts) : ∃ i : Nat, p = .int (i : Nat) := by
  obtain ⟨i, _, e⟩ := List.mem_filterMap.mp h
  split at e
  · cases e; exact ⟨i, rfl⟩
  · cases e
theorem lst_dat {xs : List PV} (h : ∀ x ∈ xs, x.dat = true) : (PV.lst xs).dat = true := (datL_all xs).trans (List.all_eq_true.mpr h)
theorem upto_len (n : Nat) : (upto n).length = n := by simp [upto]
theorem small_ok' {n : Nat} (h : n ≤ 1000) : n ≤ sizeLine := Nat.le_trans h (by decide)
theorem parts_dat {u : Pat} (hu : u.Ok) : (partsV u.parts).dat = true ∧ (partsV u.parts).D.canLay0 = true ∧ (partsV u.parts).D.depth ≤ 3 := by
  have hit : ∀ q ∈ u.parts, ∀ y ∈ q.map itemV, y.dat = true ∧ y.D.canLay0 = true ∧ y.D.depth ≤ 1 := fun q hq y hy => by
    obtain ⟨it, hi, rfl⟩ := List.mem_map.mp hy
    refine ⟨rfl, ?_⟩
    refine canTup (n := 0) fun z hz => ?_
    rcases List.mem_cons.mp hz with rfl | hz
    · exact ⟨rfl, Nat.le_refl _⟩
    · rw [List.mem_singleton.mp hz]
      refine ⟨?_, Nat.le_refl _⟩
      show PyData.strOk ⟨#[it.2]⟩ = true
      have := hu.items q hq it hi
      simp [PyData.strOk, this]
  have hl : ∀ y ∈ u.parts.map itemsV, y.dat = true ∧ y.D.canLay0 = true ∧ y.D.depth ≤ 2 := fun y hy => by
    obtain ⟨q, hq, rfl⟩ := List.mem_map.mp hy
    exact ⟨lst_dat fun x hx => (hit q hq x hx).1, canLst fun x hx => (hit q hq x hx).2⟩
  exact ⟨lst_dat fun x hx => (hl x hx).1, canLst fun x hx => (hl x hx).2⟩
noncomputable def unItem : PV → Item
  | .tup [.bool b, .str s] => (b, s.cps.toList.headD 0)
  | _ => (false, 0)
noncomputable def unItems : PV → List Item
  | .lst xs => xs.map unItem
  | _ => []
noncomputable def unParts : PV → List (List Item)
  | .lst xs => xs.map unItems
  | _ => []
theorem unParts_eq (ps : List (List Item)) : unParts (partsV ps) = ps := by
  show (ps.map itemsV).map unItems = ps
  rw [List.map_map]
  refine (List.map_congr_left fun l _ => ?_).trans (List.map_id ps)
  show (l.map itemV).map unItem = l
  rw [List.map_map]
  exact (List.map_congr_left fun p _ => rfl).trans (List.map_id l)
theorem filterMap_some {α β : Type} (f : α → Option β) (g : α → β) (h : ∀ a, f a = some (g a)) (l : List α) : l.filterMap f = l.map g := by
  rw [show f = fun a => some (g a) from funext h]
  rw [List.filterMap_eq_map']
noncomputable def pairsG (ts : List PV) : List PV := (List.range ts.length).map fun i => PV.tup [.int ((i : Nat) : Int), ts.getD i .none]
theorem pairs_left (ts : List PV) : (thingsC ts).filterMap (fun p => match p with | .inst r t => some (PV.tup [r, t]) | _ => none) = pairsG ts := by
  unfold thingsC pairsG
  rw [List.filterMap_map]
  haveI : Inhabited PV := ⟨.none⟩
  have := zipIdx_filterMap PV.none ts fun t i => some (PV.tup [.int ((i : Nat) : Int), t])
  exact this.trans (filterMap_some _ _ (fun _ => rfl) _)
theorem names_of (W : List Str) (ts : List PV) : (placesG W ts).filterMap (fun p => match p with | .int y => some (ts.getD y.toNat .none) | _ => none) = (namesG W ts).map .str := by
  haveI : Inhabited PV := ⟨.none⟩
  have h1 := zipIdx_filterMap PV.none ts fun t (_ : Nat) => if isW W t then some t else none
  have h2 : ts.zipIdx.filterMap (fun p => if isW W p.1 then some p.1 else none) = ts.filterMap fun t => if isW W t then some t else none := by
    conv => rhs; rw [← List.zipIdx_map_fst 0 ts]
    rw [List.filterMap_map]; rfl
  have h4 : (namesG W ts).map .str = ts.filterMap fun t => if isW W t then some t else none := by
    unfold namesG
    rw [List.map_filterMap]
    refine congrArg (fun g => ts.filterMap g) (funext fun t => ?_)
    cases t <;> try rfl
    rename_i x
    show Option.map PV.str (if W.contains x then some x else none) = if W.contains x then some (PV.str x) else none
    split <;> rfl
  rw [h4, ← h2, h1]
  unfold placesG
  rw [List.filterMap_filterMap]
  congr 1
  funext i
  cases isW W (ts.getD i .none) <;> rfl
theorem given_spec (C : Cx X) {w : Str} {q : List Nat → Bool} (hw : WildOk w q) {pats : List Pat} (hpat : ∀ p ∈ pats, p.Ok) (hinj : ∀ u ∈ pats, ∀ v ∈ pats, u.txt = v.txt → u = v) (hpl : pats.length ≤ 1000) {W : List Str} (hWok : ∀ x ∈ W, PyData.strOk x = true) {ts : List PV} (hts : ∀ t ∈ ts, tagV t = true ∧ ∀ x, t = .str x → PyData.strOk x = true ∧ 1 ≤ x.length ∧ x.length ≤ 1000) (htl : ts.length ≤ 60)
    (hq : ∀ x, PV.str x ∈ ts → q x.cps.toList = W.contains x) (hm : ∀ x, PV.str x ∈ ts → ((pats.map fun p => takesC p.parts x.cps.toList).map b01).sum = if W.contains x then 1 else 0) :
    OpN X 13 [.str w, .lst (pats.map (PV.str ·.txt)), .lst (W.map .str), .lst ts, .lst (thingsC ts)] (fun vs => call (.ref 149) vs) (.lst ((sortC (namesG W ts)).map .str)) := by
  refine fspec C (ns := ["wildcard", "patterns", "wanted", "tags", "things"]) (fun P => by with_unfolding_all rfl) (fun P => by kernel_rfl) (len5 rfl fun _ _ _ _ _ => rfl) rfl (by decide +kernel) (by decide +kernel) ?_ (by decide +kernel)
  intro hs mu L own T hown X C
  have hth : ∀ p ∈ thingsC ts, thingOk p := fun p hp => by
    obtain ⟨⟨t, i⟩, hm, rfl⟩ := List.mem_map.mp hp
    have ht : t ∈ ts := (List.mem_zipIdx' hm).2 ▸ List.getElem_mem _
    exact ⟨_, t, rfl, rfl, (hts t ht).1, fun x hx => ((hts t ht).2 x hx).2⟩
  have hWin : ∀ t ∈ ts, ∀ {k : Nat}, Op2 X (k + 5) t (.lst (W.map .str)) (compareOp .In) (.bool (isW W t)) := fun t ht k => by
    have := in_l (X := X) (k := k) (p := t) (xs := W.map .str) (dat_tag (hts t ht).1) (shaped_tag (hts t ht).1 fun x hx => ((hts t ht).2 x hx).1) (List.all_eq_true.mpr fun y hy => by obtain ⟨z, _, rfl⟩ := List.mem_map.mp hy; rfl) (fun y hy => by obtain ⟨z, hz, rfl⟩ := List.mem_map.mp hy; exact shaped_str (hWok z hz))
    rw [any_isW (hts t ht).1] at this
    exact this
  have hfind : ∀ u ∈ pats, pats.find? (fun v => v.txt == u.txt) = some u := fun u hu => by
    cases e : pats.find? (fun v => v.txt == u.txt) with
    | none => exact absurd (List.find?_eq_none.mp e u hu) (by simp)
    | some v =>
      have h1 := List.mem_of_find?_eq_some e
      have h2 := List.find?_some e
      rw [hinj v h1 u hu (by simpa using h2)]
  have hread : (pats.map (PV.str ·.txt)).filterMap (fun p => match p with | .str x => (pats.find? (fun v => v.txt == x)).map (fun u => partsV u.parts) | _ => none) = pats.map fun u => partsV u.parts := by
    rw [List.filterMap_map]
    have : ∀ l : List Pat, (∀ u ∈ l, u ∈ pats) → l.filterMap ((fun p => match p with | PV.str x => (pats.find? (fun v => v.txt == x)).map (fun u => partsV u.parts) | _ => none) ∘ fun x => PV.str x.txt) = l.map fun u => partsV u.parts := fun l => by
      induction l with
      | nil => intro _; rfl
      | cons u l ih =>
        intro h
        rw [List.filterMap_cons]
        have : ((fun p => match p with | PV.str x => (pats.find? (fun v => v.txt == x)).map (fun u => partsV u.parts) | _ => none) ∘ fun x => PV.str x.txt) u = some (partsV u.parts) := by
          show (pats.find? (fun v => v.txt == u.txt)).map (fun u => partsV u.parts) = _
          rw [hfind u (h u (.head _))]; rfl
        rw [this, ih fun v hv => h v (.tail _ hv)]; rfl
    exact this pats fun _ h => h
  have hpd : ∀ x ∈ pats.map (fun u => partsV u.parts), x.dat = true ∧ x.D.canLay0 = true ∧ x.D.depth ≤ 3 := fun x hx => by
    obtain ⟨u, hu, rfl⟩ := List.mem_map.mp hx
    exact parts_dat (hpat u hu)
  have hget : ∀ i, i < ts.length → ts[i]? = some (ts.getD i .none) ∧ ts.getD i .none ∈ ts := fun i hi => by
    have h : ts[i]? = some (ts.getD i .none) := by simp [hi]
    exact ⟨h, List.mem_of_getElem? h⟩
  show WS _ _ ⟨hs, mu, _, [("wildcard", .str w), ("patterns", .lst (pats.map (PV.str ·.txt))), ("wanted", .lst (W.map .str)), ("tags", .lst ts), ("things", .lst (thingsC ts))], own, []⟩ _ _
  refine WS.assignGen (P := strP q) (root := rootOf) C (kg := 11) (hw _ C 5 _ _ hth _ _ _ _ _ _ _ (by with_unfolding_all rfl) (by walk_at "nm") (by walk_at "nm") (by intro _; rfl) (by intro _; rfl) (by rfl) (by rfl)) (by rw [things_len]; omega) ?_ (by with_unfolding_all rfl) (by with_unfolding_all rfl) (by with_unfolding_all rfl) (by decide +kernel) (by decide +kernel) (by with_unfolding_all rfl) ?_
  · intro p hp hs' mu' C' own' D ys
    obtain ⟨r, t, rfl, h1, h2, h3⟩ := hth p hp
    exact Ev.attrR (t := t) C h1 (by walk_at "nm")
  rw [places_eq (fun t ht => (hts t ht).1) hq]
  show WS _ _ ⟨hs, mu, _, [("places", .lst (placesG W ts)), ("wildcard", .str w), ("patterns", .lst (pats.map (PV.str ·.txt))), ("wanted", .lst (W.map .str)), ("tags", .lst ts), ("things", .lst (thingsC ts))], own, []⟩ _ _
  refine wF (Tv.cmp (p := .lst (placesG W ts)) (q := .lst (placesG W ts)) (by walk_at "nm") (Ev.of (Ev.comp (cl := [("wanted", L + 1), ("tags", L + 2)]) [("tags", .lst ts), ("wanted", .lst (W.map .str))] (fun p => match p with | .int y => if isW W (ts.getD y.toNat .none) then some (.int y) else none | _ => none) (fun p => [("k", p)]) (Src.range (n := ts.length) C (Ev.len C (by walk_at "nm") (.inl rfl) (by omega) (by with_unfolding_all rfl)) (by omega) (by with_unfolding_all rfl)) (by walk_at "cv") (by walk_at "sub") (Elts.name (by with_unfolding_all rfl) rfl ?_) ?_ (by with_unfolding_all rfl) (by decide +kernel) (by decide +kernel)) ?_) ?_) (wNil ?_)
  · intro p hp hs' mu' C' D own' ys
    obtain ⟨i, hi, rfl⟩ := mem_upto hp
    have hget : ts[i]? = some (ts.getD i .none) := by simp [hi]
    have hmem : ts.getD i .none ∈ ts := List.mem_of_getElem? hget
    have hW0 : Op2 X 12 (ts.getD i .none) (.lst (W.map .str)) (compareOp .In) (.bool (isW W (ts.getD i .none))) := hWin _ hmem (k := 7)
    exact elt_if (isW W (ts.getD i .none)) rfl (Tv.of (Tv.cmp (p := ts.getD i .none) (q := .lst (W.map .str)) (Ev.sub_l (xs := ts) (i := (i : Nat)) (j := i) (by walk_at "nm") (.inl rfl) (by walk_at "nm") (seqIndex_of (by omega) (by omega)) hget (by omega) (by omega)) (by walk_at "nm") hW0) rfl) (by walk_at "nm")
  · exact small_ok' (by rw [upto_len]; omega)
  · rw [upto_filterMap]; rfl
  · exact ne_same (n := 1) (k := 8) (lst_dat fun x hx => by obtain ⟨i, rfl⟩ := placesG_int hx; rfl) (canLst (n := 0) fun x hx => by obtain ⟨i, rfl⟩ := placesG_int hx; exact ⟨rfl, Nat.le_refl _⟩) (by decide)
  refine wAssignComp (cl := []) [] (fun p => match p with | .str x => (pats.find? (fun v => v.txt == x)).map (fun u => partsV u.parts) | _ => none) (fun p => [("pattern", p)]) (Src.lst (xs := pats.map (PV.str ·.txt)) (by walk_at "nm")) trivial trivial (Elts.name (by with_unfolding_all rfl) rfl ?_) (small_ok' (by simpa using hpl)) (by with_unfolding_all rfl) (by with_unfolding_all rfl) (by with_unfolding_all rfl) (by decide +kernel) (by decide +kernel) ?_
  · intro p hp hs' mu' C' D own' ys
    obtain ⟨u, hu, rfl⟩ := List.mem_map.mp hp
    have hu' := hpat u hu
    refine ⟨fun h => ?_, fun r h => ⟨Tests.nil, ?_⟩⟩
    · have h : (pats.find? (fun v => v.txt == u.txt)).map (fun u => partsV u.parts) = none := h
      rw [hfind u hu] at h; cases h
    · have h : (pats.find? (fun v => v.txt == u.txt)).map (fun u => partsV u.parts) = some r := h
      rw [hfind u hu] at h; cases h
      exact Ev.call (v := .ref 123) (Ev.glo (by assumption) (fun P => by with_unfolding_all rfl) (by with_unfolding_all rfl)) (Kept.fn C fun P => by kernel_rfl) (EvL.cons (Ev.call (v := .ref 71) (Ev.glo (by assumption) (fun P => by with_unfolding_all rfl) (by with_unfolding_all rfl)) (Kept.fn C fun P => by kernel_rfl) (EvL.cons (by walk_at "nm") EvL.nil) ((trans_spec C u.txt u.pre u.tail hu'.txt hu'.ok hu'.pre hu'.tail hu'.len).up (by decide))) EvL.nil) ((reads_spec C u.pre u.tail hu'.ok hu'.pre hu'.tail hu'.jlen).up (by decide))
  rw [hread]
  refine wF (Tv.of (Tv.cmp (p := .none) (q := .lst (pats.map fun u => partsV u.parts)) Ev.cnone (by walk_at "nm") (in_l (k := 7) rfl rfl (List.all_eq_true.mpr fun x hx => (hpd x hx).1) fun x hx => shaped_of (hpd x hx).2 (by decide))) ?_) (wNil ?_)
  · refine List.any_eq_false.mpr fun x hx => ?_
    obtain ⟨u, hu, rfl⟩ := List.mem_map.mp hx
    exact Bool.false_ne_true
  refine wFor (items := ts) (fun p => [("tag", p)]) (fun i V L' => Subv [("places", .lst (placesG W ts)), ("readings", .lst (pats.map fun u => partsV u.parts)), ("wanted", .lst (W.map .str)), ("tags", .lst ts), ("things", .lst (thingsC ts))] V ∧ L' = []) (Src.lst (by walk_at "nm")) ⟨by walk_at "sub", rfl⟩ ?_ ?_
  · rintro i t V L' O hp hO ⟨hV, rfl⟩
    have ht : t ∈ ts := List.mem_of_getElem? hp
    refine ⟨Binds.name (Stores.dcellO (fun c hc => hO c (hown c hc)) (by with_unfolding_all rfl)), WS.hide fun Ψ hΨ => ?_⟩
    refine wForget _ (hV.push (by with_unfolding_all rfl)) ?_
    obtain ⟨htv, hts'⟩ := hts t ht
    refine wIte (b := isStrV t) (Tv.of (Tv.cmp (p := .raw (.type (tyName t))) (q := .raw (.type "str")) (Ev.typ C (by cases t <;> first | rfl | cases htv) (by walk_at "nm") (by with_unfolding_all rfl)) (Ev.blt (by assumption) (fun P => by with_unfolding_all rfl) (by decide +kernel) (by with_unfolding_all rfl)) is_tt) (by cases t <;> first | (decide +kernel) | rfl | cases htv)) (fun hb => ?_) (fun hb => wNil (wNil (hΨ _ _ _ ⟨by walk_at "sub", rfl⟩)))
    obtain ⟨x, rfl⟩ : ∃ x, t = .str x := by cases t <;> first | exact ⟨_, rfl⟩ | cases hb
    obtain ⟨hx1, hx2, hx3⟩ := hts' x rfl
    refine wAssign (p := .int (if W.contains x then 1 else 0)) ?_ (.loc (by with_unfolding_all rfl)) ?_
    · rw [← hm x ht]
      refine Ev.call (v := .builtin "sum") (Ev.blt (by assumption) (fun P => by with_unfolding_all rfl) (by decide +kernel) (by with_unfolding_all rfl)) Kept.bi (EvL.cons (p := .lst ((pats.map fun p => takesC p.parts x.cps.toList).map .bool)) ?_ EvL.nil) sum_bs
      refine Ev.of (Ev.comp (cl := [("tag", L + 3)]) [("tag", .str x)] (fun p => some (.bool (takesC (unParts p) x.cps.toList))) (fun p => [("parts", p)]) (Src.lst (xs := pats.map fun u => partsV u.parts) (by walk_at "nm")) (by walk_at "cv") (by walk_at "sub") (Elts.name (by with_unfolding_all rfl) rfl ?_) (small_ok' (by simpa using hpl)) (by with_unfolding_all rfl) (by decide +kernel) (by decide +kernel)) ?_
      · intro p hp hs' mu' C' D own' ys
        obtain ⟨u, hu, rfl⟩ := List.mem_map.mp hp
        have hu' := hpat u hu
        refine ⟨fun h => (by cases h), fun r h => ⟨Tests.nil, ?_⟩⟩
        cases h
        rw [unParts_eq]
        exact Ev.call (v := .ref 137) (Ev.glo (by assumption) (fun P => by with_unfolding_all rfl) (by with_unfolding_all rfl)) (Kept.fn C fun P => by kernel_rfl) (EvL.cons (by walk_at "nm") (EvL.cons (by walk_at "nm") EvL.nil)) ((takes_spec C u.parts x hu'.ne hu'.plen hu'.ilen hx3).up (by decide))
      · congr 1
        rw [List.filterMap_map, List.map_map]
        exact filterMap_some _ _ (fun u => by show some (PV.bool (takesC (unParts (partsV u.parts)) x.cps.toList)) = _; rw [unParts_eq]; rfl) _
    · refine wF (Tv.of (Tv.cmp (p := .int (if W.contains x then 1 else 0)) (q := .int (if W.contains x then 1 else 0)) (by walk_at "nm") (Ev.of (Ev.ife' (c := W.contains x) (p := .int 1) (q := .int 0) (Tv.cmp (p := .str x) (q := .lst (W.map .str)) (by walk_at "nm") (by walk_at "nm") (hWin (.str x) ht (k := 7))) (fun _ => by walk_at "ev") (fun _ => by walk_at "ev")) (by cases W.contains x <;> rfl)) ne_ii) (by simp)) (wNil (wNil (wNil (hΨ _ _ _ ⟨by walk_at "sub", rfl⟩))))
  · rintro V L' ⟨hV, rfl⟩
    refine wForget [("places", .lst (placesG W ts)), ("wanted", .lst (W.map .str)), ("tags", .lst ts), ("things", .lst (thingsC ts))] ⟨hV.look _ _ (by with_unfolding_all rfl), hV.look _ _ (by with_unfolding_all rfl), hV.look _ _ (by with_unfolding_all rfl), hV.look _ _ (by with_unfolding_all rfl), trivial⟩ ?_
    refine wIte (b := false) (Tv.cmp (p := .lst (pairsG ts)) (q := .lst (pairsG ts)) (Ev.of (Ev.comp (cl := []) [] (fun p => match p with | .inst r t => some (.tup [r, t]) | _ => none) (fun p => [("thing", p)]) (Src.lst (xs := thingsC ts) (by walk_at "nm")) trivial trivial (Elts.name (by with_unfolding_all rfl) rfl ?_) (small_ok' (by rw [things_len]; omega)) (by with_unfolding_all rfl) (by decide +kernel) (by decide +kernel)) ?_)
      (Ev.of (Ev.comp (cl := [("tags", L + 2)]) [("tags", .lst ts)] (fun p => match p with | .int y => some (.tup [.int y, ts.getD y.toNat .none]) | _ => none) (fun p => [("k", p)]) (Src.range (n := ts.length) C (Ev.len C (by walk_at "nm") (.inl rfl) (by omega) (by with_unfolding_all rfl)) (by omega) (by with_unfolding_all rfl)) (by walk_at "cv") (by walk_at "sub") (Elts.name (by with_unfolding_all rfl) rfl ?_) (small_ok' (by rw [upto_len]; omega)) (by with_unfolding_all rfl) (by decide +kernel) (by decide +kernel)) ?_)
      (ne_same (n := 2) (k := 8) (lst_dat fun x hx => ?_) (canLst (n := 1) fun x hx => ?_) (by decide))) (fun h => by cases h) (fun _ => wNil ?_)
    · intro p hp hs' mu' C' D own' ys
      obtain ⟨r, t, rfl, h1, h2, h3⟩ := hth p hp
      refine ⟨fun h => (by cases h), fun r h => ⟨Tests.nil, ?_⟩⟩
      cases h
      exact Ev.tup (EvL.cons (Ev.attrR C h1 (by walk_at "nm")) (EvL.cons (Ev.attrT C (tagV_plain h2) (by walk_at "nm")) EvL.nil)) (by show 2 ≤ _; decide)
    · rw [pairs_left]
    · intro p hp hs' mu' C' D own' ys
      obtain ⟨i, hi, rfl⟩ := mem_upto hp
      refine ⟨fun h => (by cases h), fun r h => ⟨Tests.nil, ?_⟩⟩
      cases h
      exact Ev.tup (EvL.cons (by walk_at "nm") (EvL.cons (Ev.sub_l (xs := ts) (i := (i : Nat)) (j := i) (by walk_at "nm") (.inl rfl) (by walk_at "nm") (seqIndex_of (by omega) (by omega)) (hget i hi).1 (by omega) (by omega)) EvL.nil)) (by show 2 ≤ _; decide)
    · rw [upto_filterMap]
      exact congrArg PV.lst (filterMap_some (fun i : Nat => some (PV.tup [.int ((i : Nat) : Int), ts.getD i .none])) (fun i : Nat => PV.tup [.int ((i : Nat) : Int), ts.getD i .none]) (fun _ => rfl) (List.range ts.length))
    · obtain ⟨i, hi, rfl⟩ := List.mem_map.mp hx
      have := (hget i (List.mem_range.mp hi)).2
      show (PV.dat (.int ((i : Nat) : Int)) && ((ts.getD i .none).dat && true)) = true
      rw [dat_tag (hts _ this).1]; rfl
    · obtain ⟨i, hi, rfl⟩ := List.mem_map.mp hx
      have := (hget i (List.mem_range.mp hi)).2
      refine canTup (n := 0) fun z hz => ?_
      rcases List.mem_cons.mp hz with rfl | hz
      · exact ⟨rfl, Nat.le_refl _⟩
      · rw [List.mem_singleton.mp hz]
        exact can_tag (hts _ this).1 fun x hx => ((hts _ this).2 x hx).1
    · refine wRet (p := .lst ((sortC (namesG W ts)).map .str)) ?_ ⟨_, rfl, .same⟩
      refine Ev.call (v := .builtin "sorted") (Ev.blt (by assumption) (fun P => by with_unfolding_all rfl) (by decide +kernel) (by with_unfolding_all rfl)) Kept.bi (EvL.cons (p := .lst ((namesG W ts).map .str)) ?_ EvL.nil) (sorted_l ?_)
      · refine Ev.of (Ev.comp (cl := [("tags", L + 2)]) [("tags", .lst ts)] (fun p => match p with | .int y => some (ts.getD y.toNat .none) | _ => none) (fun p => [("place", p)]) (Src.lst (xs := placesG W ts) (by walk_at "nm")) (by walk_at "cv") (by walk_at "sub") (Elts.name (by with_unfolding_all rfl) rfl ?_) (small_ok' ?_) (by with_unfolding_all rfl) (by decide +kernel) (by decide +kernel)) ?_
        · intro p hp hs' mu' C' D own' ys
          obtain ⟨i, hi, e⟩ := List.mem_filterMap.mp hp
          have hi := List.mem_range.mp hi
          have e : p = .int (i : Nat) := by
            split at e
            · cases e; rfl
            · cases e
          subst e
          refine ⟨fun h => (by cases h), fun r h => ⟨Tests.nil, ?_⟩⟩
          cases h
          exact Ev.sub_l (xs := ts) (i := (i : Nat)) (j := i) (by walk_at "nm") (.inl rfl) (by walk_at "nm") (seqIndex_of (by omega) (by omega)) (hget i hi).1 (by omega) (by omega)
        · have := List.length_filterMap_le (fun i => if isW W (ts.getD i .none) then some (PV.int (i : Nat)) else none) (List.range ts.length)
          rw [List.length_range] at this
          exact Nat.le_trans this (by omega)
        · rw [names_of]
      · have := List.length_filterMap_le (fun t => match t with | PV.str x => if W.contains x then some x else none | _ => none) ts
        exact Nat.lt_of_le_of_lt this (by omega)
end
section
variable {X : Wd} {k : Nat} {f : FS}
theorem ltS_mem_ne {x : Str} {ys : List Str} (h : ∀ y ∈ ys, ltS x y = true) : x ∉ ys := fun hm => by
  have := h x hm
  rw [ltS_irrefl] at this; cases this
/-- what the two sides alone have -/
theorem mdiff_eq {xs ys : List Str} (hx : risesS xs) (hy : risesS ys) : mdiff xs ys = (xs.filter (fun x => !ys.contains x), ys.filter (fun y => !xs.contains y)) := by
  induction xs generalizing ys with
  | nil =>
    rw [mdiff_nil']
    simp only [List.filter_nil, Prod.mk.injEq, true_and]
    symm
    exact List.filter_eq_self.mpr fun a _ => rfl
  | cons x xs ih =>
   induction ys with
   | nil =>
    rw [mdiff_nil]
    simp only [List.filter_nil, Prod.mk.injEq, and_true]
    symm
    exact List.filter_eq_self.mpr fun a _ => rfl
   | cons y ys ih2 =>
    have hx' := List.pairwise_cons.mp hx
    have hy' := List.pairwise_cons.mp hy
    rw [mdiff_cons]
    cases h1 : ltS x y with
    | true =>
      rw [if_pos rfl, ih hx'.2 hy]
      have n1 : x ∉ y :: ys := ltS_mem_ne fun z hz => by
        rcases List.mem_cons.mp hz with rfl | hz
        · exact h1
        · exact ltS_trans h1 (hy'.1 z hz)
      have c1 : (y :: ys).contains x = false := by rw [Bool.eq_false_iff]; exact fun q => n1 (List.contains_iff_mem.mp q)
      refine Prod.ext ?_ ?_
      · dsimp only
        rw [List.filter_cons, if_pos (by rw [c1]; rfl)]
      · dsimp only
        refine List.filter_congr fun z hz => ?_
        have : (z == x) = false := beq_eq_false_iff_ne.mpr fun e => n1 (e ▸ hz)
        rw [List.contains_cons, this, Bool.false_or]
    | false =>
      rw [if_neg Bool.false_ne_true]
      cases h2 : ltS y x with
      | true =>
        rw [if_pos rfl, ih2 hy'.2]
        have n1 : y ∉ x :: xs := ltS_mem_ne fun z hz => by
          rcases List.mem_cons.mp hz with rfl | hz
          · exact h2
          · exact ltS_trans h2 (hx'.1 z hz)
        have c1 : (x :: xs).contains y = false := by rw [Bool.eq_false_iff]; exact fun q => n1 (List.contains_iff_mem.mp q)
        refine Prod.ext ?_ ?_
        · dsimp only
          refine List.filter_congr fun z hz => ?_
          have : (z == y) = false := beq_eq_false_iff_ne.mpr fun e => n1 (e ▸ hz)
          rw [List.contains_cons, this, Bool.false_or]
        · dsimp only
          rw [List.filter_cons, if_pos (by rw [c1]; rfl)]
      | false =>
        rw [if_neg Bool.false_ne_true, ih hx'.2 hy'.2]
        have e := ltS_tri h1 h2
        subst e
        have nx : ∀ z ∈ xs, (z == x) = false := fun z hz => ltS_ne (hx'.1 z hz)
        have ny : ∀ z ∈ ys, (z == x) = false := fun z hz => ltS_ne (hy'.1 z hz)
        refine Prod.ext ?_ ?_
        · dsimp only
          rw [List.filter_cons, if_neg (by simp)]
          refine List.filter_congr fun z hz => ?_
          rw [List.contains_cons, nx z hz, Bool.false_or]
        · dsimp only
          rw [List.filter_cons, if_neg (by simp)]
          refine List.filter_congr fun z hz => ?_
          rw [List.contains_cons, ny z hz, Bool.false_or]
end
section
variable {X : Wd} {k : Nat} {f : FS}
theorem list_l {xs : List PV} (hz : xs.length ≤ 1000) : OpN X k [.lst xs] (fun vs => call (.type "list") vs) (.lst xs) := by
  intro A s mu vs Q R S hv hQ
  obtain ⟨v, r, rfl, ⟨a, o, vs, n, rfl, hm, h1, h2, h3, h4⟩, hr⟩ := hv
  cases hr
  refine with_size (call_list_seq (hsz := by rw [h4.size]; exact Nat.le_trans hz (by decide)) a (.inl rfl) h1 h2 h3 fun h' c' hk hD hz' => ?_)
  refine hQ _ _ (Grow.kept S.live hz' hk rfl rfl) ⟨_, _, vs, c', rfl, S.new, hD, rfl, rfl, h4.mono fun b o hb e => ⟨hk b o e, hb⟩⟩
theorem eq_same {p : PV} {n : Nat} (hd : p.dat = true) (h : p.D.canLay0 = true ∧ p.D.depth ≤ n) (hn : n ≤ 64) : Op2 X (k + 4) p p (compareOp .Eq) (.bool true) := by
  have := eq_dd (X := X) (k := k) hd hd (shaped_of h hn) (shaped_of h hn)
  rw [SeqAt.eqv_refl _ h.1] at this
  exact this
theorem any_str {W : List Str} {x : Str} : ((W.map PV.str).any fun y => PyData.eqv y.D (PV.str x).D) = W.contains x := any_isW (t := .str x) rfl
theorem strs_can {xs : List Str} (hx : ∀ x ∈ xs, PyData.strOk x = true) : (PV.lst (xs.map .str)).dat = true ∧ (PV.lst (xs.map .str)).D.canLay0 = true ∧ (PV.lst (xs.map .str)).D.depth ≤ 1 :=
  ⟨lst_dat fun y hy => by obtain ⟨x, _, rfl⟩ := List.mem_map.mp hy; rfl, canLst (n := 0) fun y hy => by obtain ⟨x, h, rfl⟩ := List.mem_map.mp hy; exact ⟨hx x h, Nat.le_refl _⟩⟩
theorem tup2_can {p q : PV} {n : Nat} (hp : p.dat = true ∧ p.D.canLay0 = true ∧ p.D.depth ≤ n) (hq : q.dat = true ∧ q.D.canLay0 = true ∧ q.D.depth ≤ n) : (PV.tup [p, q]).dat = true ∧ (PV.tup [p, q]).D.canLay0 = true ∧ (PV.tup [p, q]).D.depth ≤ n + 1 :=
  ⟨by show (p.dat && (q.dat && true)) = true; rw [hp.1, hq.1]; rfl, canTup fun z hz => by
    rcases List.mem_cons.mp hz with rfl | hz
    · exact hp.2
    · rw [List.mem_singleton.mp hz]; exact hq.2⟩
theorem nin_strs {W : List Str} (hW : ∀ x ∈ W, PyData.strOk x = true) {x : Str} (hx : PyData.strOk x = true) : Op2 X (k + 5) (.str x) (.lst (W.map .str)) (compareOp .NotIn) (.bool (!W.contains x)) := by
  have := nin_l (X := X) (k := k) (p := .str x) (xs := W.map .str) rfl (shaped_str hx) (List.all_eq_true.mpr fun y hy => by obtain ⟨z, _, rfl⟩ := List.mem_map.mp hy; rfl) (fun y hy => by obtain ⟨z, hz, rfl⟩ := List.mem_map.mp hy; exact shaped_str (hW z hz))
  rw [any_str] at this
  exact this
noncomputable def leftS (xs ys : List Str) : List Str := xs.filter fun x => !ys.contains x
theorem filt_str (xs ys : List Str) : (xs.map PV.str).filterMap (fun p => match p with | .str x => if ys.contains x then none else some (PV.str x) | _ => none) = (leftS xs ys).map .str := by
  unfold leftS
  induction xs with
  | nil => rfl
  | cons x xs ih =>
    rw [List.map_cons, List.filterMap_cons, List.filter_cons]
    cases h : ys.contains x with
    | true => simp only [h, if_true, Bool.not_true, Bool.false_eq_true, if_false]; exact ih
    | false => simp only [h, Bool.false_eq_true, if_false, Bool.not_false, if_true, List.map_cons]; rw [← ih]
theorem left_spec (C : Cx X) {xs ys : List Str} (hx : risesS xs) (hy : risesS ys) (hxl : xs.length ≤ 100) (hyl : ys.length ≤ 100) (hxo : ∀ x ∈ xs, PyData.strOk x = true) (hyo : ∀ x ∈ ys, PyData.strOk x = true) :
    OpN X 8 [.lst (xs.map .str), .lst (ys.map .str)] (fun vs => call (.ref 154) vs) (.lst ((leftS xs ys).map .str)) := by
  refine fspec C (ns := ["one", "other"]) (fun P => by with_unfolding_all rfl) (fun P => by kernel_rfl) (len2 rfl fun _ _ => rfl) rfl (by decide +kernel) (by decide +kernel) ?_ (by decide +kernel)
  intro hs mu L own T hown X C
  show WS _ _ ⟨hs, mu, _, [("one", .lst (xs.map .str)), ("other", .lst (ys.map .str))], own, []⟩ _ _
  have lxo : ∀ x ∈ leftS xs ys, PyData.strOk x = true := fun x h => hxo x (List.mem_filter.mp h).1
  have lyo : ∀ x ∈ leftS ys xs, PyData.strOk x = true := fun x h => hyo x (List.mem_filter.mp h).1
  refine' wAssign (p := .tup [.lst (xs.map .str), .lst (ys.map .str)]) (Ev.tup (EvL.cons (Ev.call (v := .type "list") (Ev.blt (by assumption) (fun P => by with_unfolding_all rfl) (by decide +kernel) (by with_unfolding_all rfl)) Kept.ty (EvL.cons (by walk_at "nm") EvL.nil) (list_l (by simp; omega))) (EvL.cons (Ev.call (v := .type "list") (Ev.blt (by assumption) (fun P => by with_unfolding_all rfl) (by decide +kernel) (by with_unfolding_all rfl)) Kept.ty (EvL.cons (by walk_at "nm") EvL.nil) (list_l (by simp; omega))) EvL.nil)) (by show 2 ≤ _; decide)) (.loc (by with_unfolding_all rfl)) ?_
  refine' wAssign (p := .tup [.lst ((leftS xs ys).map .str), .lst ((leftS ys xs).map .str)]) ?_ (.loc (by with_unfolding_all rfl)) ?_
  · have := diff_spec (X := X) C hx hy hxl hyl
    rw [mdiff_eq hx hy] at this
    have h7 : OpN X 7 [.lst (xs.map .str), .lst (ys.map .str)] (fun vs => call (.ref 104) vs) (.tup [.lst ((leftS xs ys).map .str), .lst ((leftS ys xs).map .str)]) := this.up (by decide)
    exact Ev.call (v := .ref 104) (Ev.glo (by assumption) (fun P => by with_unfolding_all rfl) (by with_unfolding_all rfl)) (Kept.fn C fun P => by kernel_rfl) (EvL.cons (by walk_at "nm") (EvL.cons (by walk_at "nm") EvL.nil)) h7
  have c1 := tup2_can (strs_can lxo) (strs_can lyo)
  have c2 := tup2_can (strs_can hxo) (strs_can hyo)
  refine wIte (b := false) (Tv.or_f (Tv.of (Tv.cmp (p := .raw (.type "tuple")) (q := .raw (.type "tuple")) (Ev.typ (p := .tup [.lst ((leftS xs ys).map .str), .lst ((leftS ys xs).map .str)]) C rfl (by walk_at "nm") (by with_unfolding_all rfl)) (Ev.blt (by assumption) (fun P => by with_unfolding_all rfl) (by decide +kernel) (by with_unfolding_all rfl)) isnot_tt) (by decide +kernel)) (Tv.or_1 (Tv.cmp (p := .lst [.bool true, .bool true]) (q := .lst [.bool true, .bool true])
      (Ev.of (Ev.comp (cl := []) [] (fun _ => some (.bool true)) (fun p => [("part", p)]) (Src.tup (xs := [.lst ((leftS xs ys).map .str), .lst ((leftS ys xs).map .str)]) (by walk_at "nm")) trivial trivial (Elts.name (by with_unfolding_all rfl) rfl ?_) (by show 2 ≤ _; decide) (by with_unfolding_all rfl) (by decide +kernel) (by decide +kernel)) rfl)
      (Ev.lst (EvL.cons Ev.cbool (EvL.cons Ev.cbool EvL.nil)) (by show 2 ≤ _; decide)) (ne_same (n := 1) (k := 3) rfl ⟨rfl, by decide⟩ (by decide))))) (fun h => by cases h) (fun _ => wNil ?_)
  · intro p hp hs' mu' C' D own' ys'
    refine ⟨fun h => (by cases h), fun r h => ⟨Tests.nil, ?_⟩⟩
    cases h
    have : ∃ l, p = .lst l := by
      rcases List.mem_cons.mp hp with rfl | hp
      · exact ⟨_, rfl⟩
      · exact ⟨_, List.mem_singleton.mp hp⟩
    obtain ⟨l, rfl⟩ := this
    exact Ev.of (Ev.cmp (p := .raw (.type "list")) (q := .raw (.type "list")) (Ev.typ (p := .lst l) C rfl (by walk_at "nm") (by with_unfolding_all rfl)) (Ev.blt (by assumption) (fun P => by with_unfolding_all rfl) (by decide +kernel) (by with_unfolding_all rfl)) is_tt) (congrArg PV.bool (by decide +kernel))
  refine wAssignComp (cl := [("other", L + 2)]) [("other", .lst (ys.map .str))] (fun p => match p with | .str x => if ys.contains x then none else some (PV.str x) | _ => none) (fun p => [("name", p)]) (Src.lst (xs := xs.map .str) (by walk_at "nm")) (by walk_at "cv") (by walk_at "sub") (Elts.name (by with_unfolding_all rfl) rfl ?_) (small_ok' (by simp; omega)) (by with_unfolding_all rfl) (by with_unfolding_all rfl) (by with_unfolding_all rfl) (by decide +kernel) (by decide +kernel) ?_
  · intro p hp hs' mu' C' D own' ys'
    obtain ⟨x, hx', rfl⟩ := List.mem_map.mp hp
    exact elt_unless (ys.contains x) rfl (Tv.of (Tv.cmp (p := .str x) (q := .lst (ys.map .str)) (by walk_at "nm") (by walk_at "nm") (nin_strs (k := 2) hyo (hxo x hx'))) rfl) (by walk_at "nm")
  rw [filt_str]
  refine wAssignComp (cl := [("one", L + 1)]) [("one", .lst (xs.map .str))] (fun p => match p with | .str x => if xs.contains x then none else some (PV.str x) | _ => none) (fun p => [("name", p)]) (Src.lst (xs := ys.map .str) (by walk_at "nm")) (by walk_at "cv") (by walk_at "sub") (Elts.name (by with_unfolding_all rfl) rfl ?_) (small_ok' (by simp; omega)) (by with_unfolding_all rfl) (by with_unfolding_all rfl) (by with_unfolding_all rfl) (by decide +kernel) (by decide +kernel) ?_
  · intro p hp hs' mu' C' D own' ys'
    obtain ⟨x, hx', rfl⟩ := List.mem_map.mp hp
    exact elt_unless (xs.contains x) rfl (Tv.of (Tv.cmp (p := .str x) (q := .lst (xs.map .str)) (by walk_at "nm") (by walk_at "nm") (nin_strs (k := 2) hxo (hyo x hx'))) rfl) (by walk_at "nm")
  rw [filt_str]
  refine wRet (p := .lst ((leftS xs ys).map .str)) (Ev.of (Ev.ife' (c := true) (p := .lst ((leftS xs ys).map .str)) (q := .none) (Tv.and_t (Tv.cmp (p := .tup [.lst ((leftS xs ys).map .str), .lst ((leftS ys xs).map .str)]) (q := .tup [.lst ((leftS xs ys).map .str), .lst ((leftS ys xs).map .str)]) (by walk_at "nm") (Ev.tup (EvL.cons (by walk_at "nm") (EvL.cons (by walk_at "nm") EvL.nil)) (by show 2 ≤ _; decide)) (eq_same (k := 3) c1.1 c1.2 (by decide)))
    (Tv.and_1 (Tv.cmp (p := .tup [.lst (xs.map .str), .lst (ys.map .str)]) (q := .tup [.lst (xs.map .str), .lst (ys.map .str)]) (Ev.tup (EvL.cons (by walk_at "nm") (EvL.cons (by walk_at "nm") EvL.nil)) (by show 2 ≤ _; decide)) (by walk_at "nm") (eq_same (k := 3) c2.1 c2.2 (by decide))))) (fun _ => by walk_at "nm") (fun _ => by walk_at "ev")) rfl) ⟨_, rfl, .same⟩
end
section
variable {X : Wd} {k : Nat} {f : FS}
section
variable {A : Around} {R : Result → Shared → Prop} {s : Shared}
theorem cloop_any {e tgt : Expr} {d : Nat} {ip : Pos} {t : Sem Unit} {it acc : Value} {env : Env} (hden : (Mo X).den (.compLoop e d it acc env) = (compTurn e d it acc env).onRaise (fun x => do noteFrame x env; theTreesLotGoes x)) (hq : (Code.compLoop e d it acc env).quiet = true) (hun : ∀ A : Around, A.under (.compLoop e d it acc env) = A)
    (heq : compTurn e d it acc env = (do standAt ip; match ← pyNext it with | none => pure (.done .next) | some v => (do letOwnedTupleGo tgt it v; assign tgt env v; t; again (.compLoop e d it acc env))))
    (I : Nat → Shared → Prop)
    (turn : ∀ n s, I n s → wpAny (Mo X) A (pyNext it) (fun r s₁ => match r with
      | none => R (.ok .next) s₁
      | some v => wpAny (Mo X) A (letOwnedTupleGo tgt it v) (fun _ s₁' => wpAny (Mo X) A (assign tgt env v) (fun _ s₂ =>
          wpAny (Mo X) A t (fun _ s₃ => ∃ m, m < n ∧ I m s₃) (fun _ _ => False) s₂) (fun _ _ => False) s₁') (fun _ _ => False) s₁) (fun _ _ => False) s)
    (n : Nat) (h : I n s) : codeAny (Mo X) A (.compLoop e d it acc env) R s := by
  have cast : ∀ {α : Type} {t : Sem α} {Q : α → Shared → Prop} {s : Shared}, wpAny (Mo X) A t Q (fun _ _ => False) s → wpAny (Mo X) A t Q (notedBy (Mo X) A env fun e s' => R (.error e) s') s := fun h => wpAny_mono h (fun _ _ x => x) fun _ _ x => x.elim
  refine codeAny_loop hq I (fun n s hI => ?_) n h
  rw [hun, hden]
  refine wpAny_noted ?_
  rw [heq]
  refine wpAny_bind (wpAny_standAt (wpAny_bind (cast (wpAny_mono (turn n s hI) (fun r s₁ h₁ => ?_) fun _ _ h' => h'))))
  cases r with
  | none => exact wpAny_pure h₁
  | some v =>
    refine wpAny_bind (cast (wpAny_mono h₁ (fun _ s₁' h₁' => ?_) fun _ _ h' => h'))
    refine wpAny_bind (cast (wpAny_mono h₁' (fun _ s₂ h₂ => ?_) fun _ _ h' => h'))
    exact wpAny_bind (cast (wpAny_mono h₂ (fun _ s₃ h₃ => wpAny_pure ⟨rfl, h₃⟩) fun _ _ h' => h'))
theorem cstart_any {elt iter : Expr} {tgt : Expr} {c0 : Comprehension} {scope : Scope} {pos : Pos} {it acc : Value} {env : Env}
    (h0 : codeAny (Mo X) A (.compLoop (.ListComp elt [c0, ⟨tgt, iter, [], 0⟩] scope pos) 1 it acc env) R s)
    (h : wpAny (Mo X) A (pyIter it) (fun it' s' => codeAny (Mo X) A (.compLoop (.ListComp elt [c0, ⟨tgt, iter, [], 0⟩] scope pos) 1 it' acc env) R s')
      (notedBy (Mo X) A env fun x s' => R (.error x) s') s) :
    codeAny (Mo X) A (.compStart (.ListComp elt [c0, ⟨tgt, iter, [], 0⟩] scope pos) 1 it acc env) R s := by
  refine codeAny_of_tree ?_
  show wpAny _ _ ((compStart (.ListComp elt [c0, ⟨tgt, iter, [], 0⟩] scope pos) 1 it acc env).onRaise (fun x => do noteFrame x env; standAt theWindowsPlace)) _ _ s
  refine wpAny_notedAt ?_
  unfold compStart
  show wpAny _ _ (ask >>= _) _ _ s
  refine wpAny_bind (wpAny_askSetting (wpAny_ite ?_))
  split
  · first
      | exact wpAny_bind (wpAny_pure (wpAny_pure (And.intro rfl h0)))
      | exact wpAny_pure (And.intro rfl h0)
  · first
      | exact wpAny_bind (wpAny_rule (wpAny_bind (wpAny_standAt (wpAny_bind (wpAny_mono h (fun it' s' h' => wpAny_pure (And.intro rfl h')) fun _ _ x => x)))))
      | (refine wpAny_bind (wpAny_rule ?_); show wpAny _ _ (standAt iter.pos >>= _) _ _ s; exact wpAny_bind (wpAny_standAt (wpAny_bind (wpAny_mono h (fun it' s' h' => wpAny_pure (And.intro rfl h')) fun _ _ x => x))))
noncomputable def innerT (e iter : Expr) (acc : Value) (env : Env) : Sem Unit := do
  let x ← eval iter env
  standAt iter.pos
  let x ← foldedSetIterable iter env x
  let _ ← runOwn (.compStart e 1 (← holding [x] (pyIter x)) acc env) env
  pure ()
noncomputable def emitT (elt : Expr) (acc : Value) (env : Env) : Sem Unit := do
  let _ ← call (.builtin "list.append") [acc, ← eval elt env]
  pure ()
theorem compTurn_0 (elt tgt iter tgt' iter' : Expr) (scope : Scope) (pos : Pos) (it acc : Value) (env : Env) :
    compTurn (.ListComp elt [⟨tgt, iter, [], 0⟩, ⟨tgt', iter', [], 0⟩] scope pos) 0 it acc env = (do standAt iter.pos; match ← pyNext it with | none => pure (.done .next) | some v => (do letOwnedTupleGo tgt it v; assign tgt env v; innerT (.ListComp elt [⟨tgt, iter, [], 0⟩, ⟨tgt', iter', [], 0⟩] scope pos) iter' acc env; again (.compLoop (.ListComp elt [⟨tgt, iter, [], 0⟩, ⟨tgt', iter', [], 0⟩] scope pos) 0 it acc env))) := by
  have e1 : compTurn (.ListComp elt [⟨tgt, iter, [], 0⟩, ⟨tgt', iter', [], 0⟩] scope pos) 0 it acc env = (do standAt iter.pos; match ← pyNext it with | none => pure (.done .next) | some v => (do
      letOwnedTupleGo tgt it v; assign tgt env v
      let x ← eval iter' env
      standAt iter'.pos
      let x ← foldedSetIterable iter' env x
      let i2 ← holding [x] (pyIter x)
      let _ ← runOwn (.compStart (.ListComp elt [⟨tgt, iter, [], 0⟩, ⟨tgt', iter', [], 0⟩] scope pos) 1 i2 acc env) env
      again (.compLoop (.ListComp elt [⟨tgt, iter, [], 0⟩, ⟨tgt', iter', [], 0⟩] scope pos) 0 it acc env))) := by rfl
  rw [e1]
  congr 1
  funext _
  congr 1
  funext r
  cases r with
  | none => rfl
  | some v => simp only [innerT, bind_assoc, pure_bind]
theorem compTurn_1 (elt tgt iter tgt' iter' : Expr) (scope : Scope) (pos : Pos) (it acc : Value) (env : Env) :
    compTurn (.ListComp elt [⟨tgt, iter, [], 0⟩, ⟨tgt', iter', [], 0⟩] scope pos) 1 it acc env = (do standAt iter'.pos; match ← pyNext it with | none => pure (.done .next) | some v => (do letOwnedTupleGo tgt' it v; assign tgt' env v; emitT elt acc env; again (.compLoop (.ListComp elt [⟨tgt, iter, [], 0⟩, ⟨tgt', iter', [], 0⟩] scope pos) 1 it acc env))) := by
  rfl
end
/-- a part of a loop's body -/
noncomputable def BS (X : Wd) (k : Nat) (f : FS) (t : Sem Unit) (Ψ : List (Str × PV) → List (Addr × MO) → Prop) : Prop :=
  ∀ A s (Q : Unit → Shared → Prop), Room X A k → f.Ok X s → (∀ vars led s', Ψ vars led → (f.upd vars led).Ok X s' → Step f s (f.upd vars led) s' → Q () s') → wpAny (Mo X) A t Q (fun _ _ => False) s
theorem inner_any {A : Around} {s : Shared} {e iter : Expr} {acc : Value} {env : Env} {Q : Unit → Shared → Prop} (h : wpAny (Mo X) A (eval iter env) (fun x s₁ => wpAny (Mo X) A (pyIter x) (fun it s₂ => codeAny (Mo X) A (.compStart e 1 it acc env) (fun r s' => match r with | .ok _ => Q () s' | .error x => cameBackBy (Mo X) A env (fun _ _ => False) x s') s₂) (fun _ _ => False) s₁) (fun _ _ => False) s)
    (hs : ∀ x, foldedSetIterable iter env x = pure x) : wpAny (Mo X) A (innerT e iter acc env) Q (fun _ _ => False) s := by
  unfold innerT
  refine wpAny_bind (wpAny_mono h (fun x s₁ h₁ => wpAny_bind (wpAny_standAt (wpAny_bind (wpAny_of_eq (hs x) (wpAny_bind (wpAny_holding (wpAny_mono h₁ (fun it s₂ h₂ => wpAny_bind (wpAny_runOwn (codeAny_mono h₂ fun r s' hr => ?_))) fun _ _ q => q))))))) fun _ _ q => q)
  cases r with
  | ok fl => exact wpAny_pure hr
  | error x => exact hr
theorem BS.inner {elt tgt iter : Expr} {c0 : Comprehension} {scope : Scope} {pos : Pos} {D : Addr} {items : List PV} (bs : PV → List (Str × PV)) (J : Nat → List (Str × PV) → List (Addr × MO) → Prop) (hsrc : Src X k f tgt iter items) (h0 : J 0 f.vars f.led)
    (heq : ∀ it, compTurn (.ListComp elt [c0, ⟨tgt, iter, [], 0⟩] scope pos) 1 it (.ref D) f.env = (do standAt iter.pos; match ← pyNext it with | none => pure (.done .next) | some v => (do letOwnedTupleGo tgt it v; assign tgt f.env v; emitT elt (.ref D) f.env; again (.compLoop (.ListComp elt [c0, ⟨tgt, iter, [], 0⟩] scope pos) 1 it (.ref D) f.env))))
    (turn : ∀ i p vars led own, items[i]? = some p → (∀ b ∈ f.own, b ∈ own) → J i vars led → Binds X k (f.with own vars led) tgt p (bs p) ∧ BS X k (f.with own (bs p ++ vars) led) (emitT elt (.ref D) f.env) (fun vars' led' => J (i + 1) vars' led'))
    (hs : ∀ x, foldedSetIterable iter f.env x = pure x) : BS X k f (innerT (.ListComp elt [c0, ⟨tgt, iter, [], 0⟩] scope pos) iter (.ref D) f.env) (fun vars led => J items.length vars led) := fun A s Q R F hQ => by
  refine inner_any (hsrc A s _ R F fun I fp wr St Mid s₁ s₂ G₁ F₁ G₂ It => ?_) hs
  have F₂ : (f.with (wr ++ f.own) f.vars f.led).Ok X s₂ := F₁.reserve G₂ It.new It.nd (fun b hb => (It.foot b (It.sub b hb)).1)
  obtain ⟨b0, hb0⟩ := List.exists_mem_of_ne_nil _ It.ne
  have tabmu : ∀ b, ¬ f.mu' b → ¬ isTab X b := FS.not_tab F
  have fresh1 : ∀ b o, s₁.heap.get? b = some o → b ∉ wr := fun b o e h => Nat.lt_irrefl _ (Nat.lt_of_lt_of_le (Heap.lt_size e) (It.new b h).1)
  have S₂ : Step f s₁ (f.with (wr ++ f.own) f.vars f.led) s₂ := ⟨fun b o h1 h2 h3 e => G₂.keep b o (F₁.tabStep h1 h3 e) e, fun _ h => h, fun _ h => .inl h, fun b h => (List.mem_append.mp h).elim (fun h => .inr (none_of_le (It.new b h).1)) .inl, G₂.solid⟩
  have leave : ∀ {vars led s' h' t}, (f.with (wr ++ f.own) vars led).Ok X s' → Step f s₁ (f.with (wr ++ f.own) vars led) s' → (∀ b ∈ wr, Iterish s'.heap b) → (∀ b o, b ∉ wr → s'.heap.get? b = some o → h'.get? b = some o) →
      (f.upd vars led).Ok X { s' with heap := h', toks := t } ∧ Step f s₁ (f.upd vars led) { s' with heap := h', toks := t } := fun {vars led s' h' t} F' S' hi hk => by
    have hd : ∀ b ∈ f.own, b ∉ wr := fun b hb hw => by
      have := (List.nodup_append.mp (List.nodup_append.mp F₂.apart).1).2.2 b hw b hb
      exact this rfl
    have F3 := F'.walked (wr := wr) (own' := f.own) (h' := h') (t := t) (fun b hb => List.mem_append_left _ hb) hk hi (List.sublist_append_right _ _) (fun b hb hw => absurd hw (hd b hb)) F.locs (fun b hb hw => (List.mem_append.mp hb).resolve_left hw)
    refine ⟨F3, fun b o h1 h2 h3 e => hk b o (fresh1 b o e) (S'.keep b o h1 h2 h3 e), S'.mu, S'.led, fun b hb => .inl hb, fun b hb => ?_⟩
    obtain ⟨o, e⟩ := hb
    exact (S'.solid b ⟨o, e⟩).of fun o' e' => hk b o' (fresh1 b o e) e'
  have loop : codeAny (Mo X) A (.compLoop (.ListComp elt [c0, ⟨tgt, iter, [], 0⟩] scope pos) 1 (.ref I) (.ref D) f.env) (fun r s' => match r with | .ok _ => Q () s' | .error e => cameBackBy (Mo X) A f.env (fun _ _ => False) e s') s₂ := by
    refine cloop_any rfl rfl (fun _ => rfl) (heq _) (fun n s' => ∃ i vars led, i ≤ items.length ∧ n = items.length + 1 - i ∧ St i s'.heap ∧ J i vars led ∧ (f.with (wr ++ f.own) vars led).Ok X s' ∧ Step f s₁ (f.with (wr ++ f.own) vars led) s' ∧ ∀ b ∈ fp, b ∉ led.map (·.1) ∧ Solid s'.heap b) ?_ (items.length + 1)
      ⟨0, f.vars, f.led, Nat.zero_le _, rfl, It.st, h0, F₂, S₂, fun b hb => ⟨fun h => (It.foot b hb).2 (.inr (.inr h)), (It.foot b hb).1⟩⟩
    rintro n s' ⟨i, vars, led, hi, rfl, st, hJ, F', S', hfp⟩
    by_cases hlt : i < items.length
    · obtain ⟨p, hp⟩ : ∃ p, items[i]? = some p := ⟨items[i], by simp [hlt]⟩
      have nuOk : ∀ b o, ¬ f.mu' b → s₁.heap.get? b = some o → s'.heap.get? b = some o ∧ ¬ FS.mu' (f.with (wr ++ f.own) vars led) b := fun b o hb e => by
        refine ⟨S'.keeps hb e, fun hm => ?_⟩
        have hlt := Heap.lt_size e
        rcases hm with h | h | h
        · exact hb (.inl h)
        · exact (List.mem_append.mp h).elim (fresh1 b o e) fun h => hb (.inr (.inl h))
        · exact (S'.led b h).elim (fun h => hb (.inr (.inr h))) fun h => by rw [e] at h; cases h
      refine It.item i p _ s' _ hp st nuOk F'.mu_lt fun v h' tk st' hrd hk => ?_
      have ex : ∀ {h : Heap}, (∀ b ∈ wr, Iterish h b) → ∀ b ∈ wr ++ f.own, b ∈ wr → Solid h b := fun H b _ hb => by obtain ⟨o, e, _⟩ := H b hb; exact ⟨o, e⟩
      have Fa := F'.walked (wr := wr) (own' := wr ++ f.own) (h' := h') (t := tk) (fun b hb => List.mem_append_left _ hb) hk (It.odd _ _ st) (List.Sublist.refl _) (ex (It.oddM _ _ _ st')) (List.mem_append_right _ F.locs) (fun b hb _ => hb)
      refine It.go i v _ _ st' fun h'' tk' st'' hk'' => ?_
      have Fb := Fa.walked (wr := wr) (own' := wr ++ f.own) (h' := h'') (t := tk') (fun b hb => List.mem_append_left _ hb) hk'' (It.oddM _ _ _ st') (List.Sublist.refl _) (ex (It.odd _ _ st'')) (List.mem_append_right _ F.locs) (fun b hb _ => hb)
      have hv₂ : Rd h'' (FS.mu' (f.with (wr ++ f.own) vars led)) p v := hrd.mono fun b o hb e => ⟨hk'' b o (fun h => hb (.inr h)) e, fun hm => hb (.inl hm)⟩
      obtain ⟨hB, hW⟩ := turn i p vars led (wr ++ f.own) hp (fun b hb => List.mem_append_right _ hb) hJ
      refine wpAny_mono (hB A _ v _ R Fb hv₂ fun s₃ F₃ S₃ => ?_) (fun _ _ x => x) (fun _ _ x => x.elim)
      refine wpAny_mono (hW A s₃ _ R F₃ fun vars' led' s₄ hp' F₄ S₄ => ?_) (fun _ _ x => x) (fun _ _ x => x.elim)
      have Sb := S₃.trans S₄
      have keepfp : ∀ b ∈ fp, ∀ o, h''.get? b = some o → s₄.heap.get? b = some o := fun b hb o e => by
        refine Sb.keep b o (fun h => (It.foot b hb).2 (.inl h)) (hfp b hb).1 (fun h => ?_) e
        rcases List.mem_append.mp h with h | h
        · exact (It.odd _ _ st'' b h).loose e
        · exact absurd (.inr (.inl h)) (It.foot b hb).2
      have st₄ : St (i + 1) s₄.heap := It.frame _ _ _ st'' keepfp
      have sol'' : ∀ b ∈ fp, Solid h'' b := fun b hb => by
        by_cases hw : b ∈ wr
        · obtain ⟨o, e, _⟩ := It.odd _ _ st'' b hw; exact ⟨o, e⟩
        · exact (hfp b hb).2.of fun o e => hk'' b o hw (hk b o hw e)
      have sol1 : ∀ b, Solid s₁.heap b → Solid h'' b := fun b ⟨o, e⟩ => (S'.solid b ⟨o, e⟩).of fun o' e' => hk'' b o' (fresh1 b o e) (hk b o' (fresh1 b o e) e')
      have Sc : Step f s₁ (f.with (wr ++ f.own) vars' led') s₄ := by
        refine ⟨fun b o h1 h2 h3 e => ?_, Sb.mu, fun b hb => ?_, fun b hb => ?_, ?_⟩
        · have hw := fresh1 b o e
          have hl := Heap.lt_size e
          exact Sb.keep b o h1 (fun h => (S'.led b h).elim h2 fun h => by rw [e] at h; cases h) (fun h => (List.mem_append.mp h).elim (fun h => absurd h hw) h3) (hk'' b o hw (hk b o hw (S'.keep b o h1 h2 h3 e)))
        · rcases Sb.led b hb with h | h
          · exact S'.led b h
          · right
            exact none_of_solid (fun c hc => sol1 c hc) h
        · exact (List.mem_append.mp hb).elim (fun h => .inr (none_of_le (It.new b h).1)) .inl
        · exact fun c hc => Sb.solid c (sol1 c hc)
      have fpn : ∀ b ∈ fp, b ∉ led'.map (·.1) ∧ Solid s₄.heap b := fun b hb => ⟨fun h => (Sb.led b h).elim (hfp b hb).1 fun h => by obtain ⟨o, e⟩ := sol'' b hb; exact absurd (e.symm.trans h) (by intro q; cases q), (sol'' b hb).of (keepfp b hb)⟩
      exact ⟨items.length + 1 - (i + 1), by omega, i + 1, vars', led', hlt, rfl, st₄, hp', F₄, Sc, fpn⟩
    · have hin : i = items.length := by omega
      subst hin
      refine It.done s' _ st fun h' tk hk => ?_
      have out := leave (h' := h') (t := tk) F' S' (It.odd _ _ st) hk
      exact hQ vars led _ hJ out.1 ((Step.grow F G₁).trans out.2)
  exact cstart_any loop (It.self 0 _ _ _ It.st loop)
theorem comp_loop2 {elt iter tgt iter' tgt' : Expr} {scope : Scope} {pos : Pos} {A : Around} {cenv : Env} {cvars : List (Str × PV)} {R' : Result → Shared → Prop} {hs s₂ : Shared} {mu : Addr → Prop} {D I : Addr} {fp wr : List Addr} {items : List PV} {St : Nat → Heap → Prop} {Mid : Nat → Value → Heap → Prop} {s : Shared}
    (g : PV → List PV) (bs : PV → List (Str × PV)) (R : Room X A k) (It : Itr X A tgt hs s₂ mu I fp wr items St Mid) (hst : St 0 s.heap) (hbs : ∀ p ∈ items, ∀ y q, cvars.lookup y = some q → (bs p ++ cvars).lookup y = some q) (hfp : ∀ b ∈ fp, b ≠ cenv.locals ∧ b ≠ D ∧ ¬ isTab X b)
    (F : FS.Ok X ⟨hs, mu, cenv, cvars, wr ++ [cenv.locals], [(D, .lst [])]⟩ s)
    (hel : ∀ i p, items[i]? = some p → ∀ own ys, ys = (items.take i).flatMap g → Binds X k ⟨hs, mu, cenv, cvars, own, [(D, .lst ys)]⟩ tgt p (bs p) ∧ BS X k ⟨hs, mu, cenv, bs p ++ cvars, own, [(D, .lst ys)]⟩ (innerT (.ListComp elt [⟨tgt, iter, [], 0⟩, ⟨tgt', iter', [], 0⟩] scope pos) iter' (.ref D) cenv)
      (fun vars led => (∀ y q, cvars.lookup y = some q → vars.lookup y = some q) ∧ led = [(D, .lst (ys ++ g p))]))
    (hR : ∀ s', FS.Ok X ⟨hs, mu, cenv, cvars, [cenv.locals], [(D, .lst (items.flatMap g))]⟩ s' → R' (.ok .next) s') :
    codeAny (Mo X) A (.compLoop (.ListComp elt [⟨tgt, iter, [], 0⟩, ⟨tgt', iter', [], 0⟩] scope pos) 0 (.ref I) (.ref D) cenv) R' s := by
  refine cloop_any rfl rfl (fun _ => rfl) (compTurn_0 _ _ _ _ _ _ _ _ _ _)
    (fun n s' => ∃ i vars, i ≤ items.length ∧ n = items.length + 1 - i ∧ St i s'.heap ∧ (∀ y q, cvars.lookup y = some q → vars.lookup y = some q) ∧ FS.Ok X ⟨hs, mu, cenv, vars, wr ++ [cenv.locals], [(D, .lst ((items.take i).flatMap g))]⟩ s') ?_ (items.length + 1)
    ⟨0, cvars, Nat.zero_le _, rfl, hst, fun _ _ e => e, by simpa using F⟩
  rintro n s₁ ⟨i, vars, hi, rfl, st, hvars, F₁'⟩
  have F₁ : FS.Ok X ⟨hs, mu, cenv, cvars, wr ++ [cenv.locals], [(D, .lst ((items.take i).flatMap g))]⟩ s₁ := FS.Ok.forget (f := ⟨hs, mu, cenv, vars, wr ++ [cenv.locals], [(D, .lst ((items.take i).flatMap g))]⟩) F₁' hvars
  have hCw : cenv.locals ∉ wr := fun hw => by
    have := (List.nodup_append.mp F.apart).1
    exact (List.nodup_append.mp this).2.2 _ hw _ (.head _) rfl
  have tabmu : ∀ b o, ¬ mu b → hs.heap.get? b = some o → ¬ isTab X b := fun b o hb e ht => by
    rcases F.mtab b ht with h | h | h
    · exact hb h
    · exact Nat.lt_irrefl _ (Nat.lt_of_lt_of_le (Heap.lt_size e) (F.fresh b (List.mem_append_left _ h)).1)
    · exact Nat.lt_irrefl _ (Nat.lt_of_lt_of_le (Heap.lt_size e) (F.fresh b (List.mem_append_right _ h)).1)
  by_cases hlt : i < items.length
  · obtain ⟨p, hp⟩ : ∃ p, items[i]? = some p := ⟨items[i], by simp [hlt]⟩
    have nuOk : ∀ b o, ¬ mu b → hs.heap.get? b = some o → s₁.heap.get? b = some o ∧ ¬ FS.mu' ⟨hs, mu, cenv, cvars, wr ++ [cenv.locals], [(D, .lst ((items.take i).flatMap g))]⟩ b := fun b o hb e => by
      refine ⟨F₁.grow.keep b o (tabmu b o hb e) e, fun hm => ?_⟩
      have hlt := Heap.lt_size e
      rcases hm with h | h | h
      · exact hb h
      · exact Nat.lt_irrefl _ (Nat.lt_of_lt_of_le hlt (F₁.fresh b (List.mem_append_left _ h)).1)
      · exact Nat.lt_irrefl _ (Nat.lt_of_lt_of_le hlt (F₁.fresh b (List.mem_append_right _ h)).1)
    refine It.item i p _ s₁ _ hp st nuOk F₁.mu_lt fun v h' tk st' hrd hk => ?_
    have F₂ := F₁.walked (wr := wr) (own' := wr ++ [cenv.locals]) (h' := h') (t := tk) (fun b hb => List.mem_append_left _ hb) hk (It.odd _ _ st) (List.Sublist.refl _) (fun b _ hb => by
      obtain ⟨o, e, _⟩ := It.oddM _ _ _ st' b hb; exact ⟨o, e⟩) (by simp) (fun b hb _ => hb)
    have hpm : p ∈ items := List.mem_of_getElem? hp
    refine It.go i v _ _ st' fun h'' tk' st'' hk'' => ?_
    have F₂' := F₂.walked (wr := wr) (own' := wr ++ [cenv.locals]) (h' := h'') (t := tk') (fun b hb => List.mem_append_left _ hb) hk'' (It.oddM _ _ _ st') (List.Sublist.refl _) (fun b _ hb => by
      obtain ⟨o, e, _⟩ := It.odd _ _ st'' b hb; exact ⟨o, e⟩) (by simp) (fun b hb _ => hb)
    have hv₂ : Rd h'' (FS.mu' ⟨hs, mu, cenv, cvars, wr ++ [cenv.locals], [(D, .lst ((items.take i).flatMap g))]⟩) p v :=
      hrd.mono fun b o hb e => ⟨hk'' b o (fun h => hb (.inr h)) e, fun hm => hb (.inl hm)⟩
    have fpk : ∀ {bs' : List (Str × PV)} {ys : List PV} {sA : Shared} {g' : FS} {sB : Shared} (j : Nat), St j sA.heap → Step ⟨hs, mu, cenv, bs', wr ++ [cenv.locals], [(D, .lst ys)]⟩ sA g' sB → St j sB.heap := fun j hst S => It.frame _ _ _ hst fun b hb o e => by
      have hf := hfp b hb
      refine S.keep b o (It.foot b hb).2 (fun h => hf.2.1 (by simpa using h)) (fun h => ?_) e
      rcases List.mem_append.mp h with h | h
      · exact (It.odd _ _ hst b h).loose e
      · exact absurd (by simpa using h) hf.1
    obtain ⟨hB, hT⟩ := hel i p hp (wr ++ [cenv.locals]) ((items.take i).flatMap g) rfl
    refine wpAny_mono (hB A _ v _ R F₂' hv₂ fun s₃ F₃ S₃ => ?_) (fun _ _ x => x) (fun _ _ x => x.elim)
    have st₃ : St (i + 1) s₃.heap := fpk (i + 1) st'' S₃
    have F₃ : FS.Ok X ⟨hs, mu, cenv, bs p ++ cvars, wr ++ [cenv.locals], [(D, .lst ((items.take i).flatMap g))]⟩ s₃ := F₃
    have htake : items.take (i + 1) = items.take i ++ [p] := by rw [List.take_succ, hp]; rfl
    have hvars' := hbs p hpm
    refine wpAny_mono (hT A s₃ _ R F₃ fun vars' led' s₄ hp' F₄ S₄ => ?_) (fun _ _ x => x) (fun _ _ x => x.elim)
    obtain ⟨hv', rfl⟩ := hp'
    refine ⟨items.length + 1 - (i + 1), by omega, i + 1, vars', hlt, rfl, fpk _ st₃ S₄, hv', ?_⟩
    rw [htake, List.flatMap_append, List.flatMap_cons, List.flatMap_nil, List.append_nil]
    exact F₄
  · have hin : i = items.length := by omega
    subst hin
    refine It.done s₁ _ st fun h' tk hk => ?_
    refine hR _ ?_
    have F₂ := F₁.walked (wr := wr) (own' := [cenv.locals]) (h' := h') (t := tk) (fun b hb => List.mem_append_left _ hb) hk (It.odd _ _ st) (List.sublist_append_right _ _) (fun b hb hw => absurd (by simpa using hb) (fun q : b = cenv.locals => hCw (q ▸ hw))) (by simp) (fun b hb hw => (List.mem_append.mp hb).resolve_left hw)
    rw [List.take_length] at F₂
    exact F₂
theorem Ev.comp2 {elt iter tgt iter' tgt' : Expr} {scope : Scope} {pos : Pos} {items : List PV} {cl : List (Str × Addr)} (cvars : List (Str × PV)) (g : PV → List PV) (bs : PV → List (Str × PV))
    (hsrc : Src X k f tgt iter items) (hcv : CV f scope cl cvars) (hcl : SubC f.env.cells cl) (hbs : ∀ p ∈ items, ∀ y q, cvars.lookup y = some q → (bs p ++ cvars).lookup y = some q)
    (hel : ∀ i p, items[i]? = some p → ∀ hs mu C D own ys, ys = (items.take i).flatMap g → Binds X k ⟨hs, mu, compEnvC scope cl C f.env, cvars, own, [(D, .lst ys)]⟩ tgt p (bs p) ∧ BS X k ⟨hs, mu, compEnvC scope cl C f.env, bs p ++ cvars, own, [(D, .lst ys)]⟩ (innerT (.ListComp elt [⟨tgt, iter, [], 0⟩, ⟨tgt', iter', [], 0⟩] scope pos) iter' (.ref D) (compEnvC scope cl C f.env))
      (fun vars led => (∀ y q, cvars.lookup y = some q → vars.lookup y = some q) ∧ led = [(D, .lst (ys ++ g p))]))
    (hclos : closureFor scope f.env = pure cl) (hcell : ∀ y ∈ scope.names, y.2 ≠ .cell) (hnames : ∀ y ∈ scope.names, y.2 = .local → scope.names.lookup y.1 = some .local)
    (hkind : scope.kind = .function := by rfl) (hs : ∀ x, foldedSetIterable iter f.env x = pure x := by intro _; rfl) :
    Ev X k f (.ListComp elt [⟨tgt, iter, [], 0⟩, ⟨tgt', iter', [], 0⟩] scope pos) (.lst (items.flatMap g)) := by
  intro A s Q R F hQ
  rw [eval_ListComp]
  refine wpAny_comprehension_free (use := none) rfl hs hclos hkind hnames (hsrc A s _ R F fun I fp wr St Mid s₁ s₂ G₁ F₁ G₂ It => ?_)
  refine comp_enter F₁ G₂ It hcell hkind hcv hcl (RR := fun acc cenv s₄ => codeAny (Mo X) A (.compStart (.ListComp elt [⟨tgt, iter, [], 0⟩, ⟨tgt', iter', [], 0⟩] scope pos) 0 (.ref I) acc cenv) (compPost (Mo X) A (fun _ _ => False) none Q acc cenv.locals) s₄) ?_
  intro C s₄ hC st F₄ hfp
  have loop : codeAny (Mo X) A (.compLoop (.ListComp elt [⟨tgt, iter, [], 0⟩, ⟨tgt', iter', [], 0⟩] scope pos) 0 (.ref I) (.ref s₂.heap.objs.size) (compEnvC scope cl C f.env)) (compPost (Mo X) A (fun _ _ => False) none Q (.ref s₂.heap.objs.size) C) s₄ := by
    refine comp_loop2 (cenv := compEnvC scope cl C f.env) (cvars := cvars) (D := s₂.heap.objs.size) g bs R It st hbs hfp F₄ (fun i p hp own ys hys => hel i p hp _ _ _ _ _ _ hys) fun s' F' => ?_
    obtain ⟨⟨m, hn⟩, F'', hr⟩ := comp_leave (f := f) F₁ (C := C) rfl F' (by rw [hC]; exact Nat.le_succ_of_le G₂.size)
    refine ⟨m, hn, fun h'' hs'' => ?_⟩
    have F3 : f.Ok X { s' with heap := h'' } := F''.drop (t := s'.toks) hs'' (ns_notCode hn) F.locs (ns_notCell hn) (fun q => Nat.lt_irrefl _ (Nat.lt_of_lt_of_le (F₁.mu_lt C (F₁.mtab C (.inr (.inr q)))) (by rw [hC]; exact Nat.le_succ_of_le G₂.size)))
    have hge : s₁.heap.objs.size ≤ C := by rw [hC]; exact Nat.le_succ_of_le G₂.size
    refine hQ _ _ (G₁.trans ⟨F3.live, fun b o ht e => ?_, ?_, F'.grow.os, fun b m hb hn => (F'.grow.frm b m hb hn).sameBut hs'' fun q => Nat.lt_irrefl _ (Nat.lt_of_lt_of_le (q ▸ hn.lt) hge), F'.grow.gens⟩) F3 (hr.dropped hs'')
    · have hlt := Heap.lt_size e
      refine (hs''.2 b fun q => ?_).trans (F'.grow.keep b o ht e)
      have hge : s₁.heap.objs.size ≤ C := by rw [hC]; exact Nat.le_succ_of_le G₂.size
      subst q
      exact Nat.lt_irrefl _ (Nat.lt_of_lt_of_le hlt hge)
    · show _ ≤ h''.objs.size
      rw [hs''.1]; exact F'.grow.size
  exact codeAny_compStart_list loop (It.self 0 _ _ _ st loop)
end
section
variable {X : Wd} {k : Nat} {f : FS}
/-- max and min of two numbers; the pushed tuple, still there at the end, tells the size -/
theorem max_two {a b : Int} : OpN X k [.int a, .int b] (fun vs => call (.builtin "max") vs) (.int (if b > a then b else a)) := by
  intro A s mu vs Q R S hv hQ
  obtain ⟨v, r, rfl, ⟨t, rfl⟩, v', r', rfl, ⟨u, rfl⟩, hr⟩ := hv
  cases hr
  have hT : (s.heap.push { cls := .type "tuple", data := .seq #[.int a t, .int b u] }).IsTuple s.heap.objs.size (intItems #[(a, t), (b, u)]) := ⟨_, Heap.get?_push_size _ rfl, rfl, 0, by simp [intItems]⟩
  refine call_max_two (wpAny_pyIter_tuple hT ?_)
  have hsz : (s.heap.push { cls := .type "tuple", data := .seq #[.int a t, .int b u] }).objs.size = s.heap.objs.size + 1 := Heap.size_push ..
  refine ⟨_, [_, s.heap.objs.size], [_], _, _, _, _, rfl, Walks.tuple (A := A.in1) R.hd _ s.heap.objs.size (by rw [hsz]; exact Nat.ne_of_lt (Nat.lt_succ_self _)) (intItems #[(a, t), (b, u)]),
    ⟨⟨_, Heap.get?_push_size _ rfl, rfl, rfl⟩, hT.push _⟩, fun d hd => ?_, by simp [intItems], CmpOf.ints_gt (numAt #[(a, t), (b, u)]) (fun _ _ => intItems_at), fun v h' tk hP hk => ?_⟩
  · show d < ((s.heap.push _).push _).objs.size
    rw [Heap.size_push, hsz]
    rcases List.mem_cons.mp hd with rfl | hd
    · rw [hsz]; exact Nat.lt_succ_self _
    · rcases List.mem_cons.mp hd with rfl | hd
      · exact Nat.lt_succ_of_lt (Nat.lt_succ_self _)
      · cases hd
  · have hold : ∀ d o, s.heap.get? d = some o → h'.get? d = some o := fun d o e => by
      refine hk d o (fun hm => ?_) (Heap.get?_push_of_some _ (Heap.get?_push_of_some _ e))
      rcases List.mem_cons.mp hm with e1 | hm
      · have := Heap.lt_size e; rw [e1, hsz] at this; exact Nat.lt_irrefl _ (Nat.lt_of_succ_lt this)
      · cases hm
    have hbig : s.heap.objs.size ≤ h'.objs.size := by
      obtain ⟨o, ho, _⟩ := hT
      refine Nat.le_of_lt (Heap.lt_size (hk s.heap.objs.size o (fun hm => ?_) (Heap.get?_push_of_some _ ho)))
      rcases List.mem_cons.mp hm with e1 | hm
      · rw [hsz] at e1; exact absurd e1 (Nat.ne_of_lt (Nat.lt_succ_self _))
      · cases hm
    have hL : Live X h' := S.live.kept hold hbig
    · refine hQ v _ (.all hL hold hbig rfl rfl) ?_
      have hsz2 : (intItems #[(a, t), (b, u)]).size - 1 = 1 := by simp [intItems]
      by_cases hba : b > a
      · have e : argBest (fun i j => decide (numAt #[(a, t), (b, u)] i > numAt #[(a, t), (b, u)] j)) 1 = 1 := by simp [argBest, numAt, hba]
        have hP' : (intItems #[(a, t), (b, u)])[argBest (fun i j => decide (numAt #[(a, t), (b, u)] i > numAt #[(a, t), (b, u)] j)) 1]? = some v := by
          rw [← hsz2]; exact hP
        rw [e] at hP'
        rw [if_pos hba]
        exact ⟨u, by simpa [intItems] using hP'.symm⟩
      · have e : argBest (fun i j => decide (numAt #[(a, t), (b, u)] i > numAt #[(a, t), (b, u)] j)) 1 = 0 := by simp [argBest, numAt, hba]
        have hP' : (intItems #[(a, t), (b, u)])[argBest (fun i j => decide (numAt #[(a, t), (b, u)] i > numAt #[(a, t), (b, u)] j)) 1]? = some v := by
          rw [← hsz2]; exact hP
        rw [e] at hP'
        rw [if_neg hba]
        exact ⟨t, by simpa [intItems] using hP'.symm⟩
theorem min_two {a b : Int} : OpN X k [.int a, .int b] (fun vs => call (.builtin "min") vs) (.int (if b < a then b else a)) := by
  intro A s mu vs Q R S hv hQ
  obtain ⟨v, r, rfl, ⟨t, rfl⟩, v', r', rfl, ⟨u, rfl⟩, hr⟩ := hv
  cases hr
  have hT : (s.heap.push { cls := .type "tuple", data := .seq #[.int a t, .int b u] }).IsTuple s.heap.objs.size (intItems #[(a, t), (b, u)]) := ⟨_, Heap.get?_push_size _ rfl, rfl, 0, by simp [intItems]⟩
  refine call_min_two (wpAny_pyIter_tuple hT ?_)
  have hsz : (s.heap.push { cls := .type "tuple", data := .seq #[.int a t, .int b u] }).objs.size = s.heap.objs.size + 1 := Heap.size_push ..
  refine ⟨_, [_, s.heap.objs.size], [_], _, _, _, _, rfl, Walks.tuple (A := A.in1) R.hd _ s.heap.objs.size (by rw [hsz]; exact Nat.ne_of_lt (Nat.lt_succ_self _)) (intItems #[(a, t), (b, u)]),
    ⟨⟨_, Heap.get?_push_size _ rfl, rfl, rfl⟩, hT.push _⟩, fun d hd => ?_, by simp [intItems], CmpOf.ints_lt (numAt #[(a, t), (b, u)]) (fun _ _ => intItems_at), fun v h' tk hP hk => ?_⟩
  · show d < ((s.heap.push _).push _).objs.size
    rw [Heap.size_push, hsz]
    rcases List.mem_cons.mp hd with rfl | hd
    · rw [hsz]; exact Nat.lt_succ_self _
    · rcases List.mem_cons.mp hd with rfl | hd
      · exact Nat.lt_succ_of_lt (Nat.lt_succ_self _)
      · cases hd
  · have hold : ∀ d o, s.heap.get? d = some o → h'.get? d = some o := fun d o e => by
      refine hk d o (fun hm => ?_) (Heap.get?_push_of_some _ (Heap.get?_push_of_some _ e))
      rcases List.mem_cons.mp hm with e1 | hm
      · have := Heap.lt_size e; rw [e1, hsz] at this; exact Nat.lt_irrefl _ (Nat.lt_of_succ_lt this)
      · cases hm
    have hbig : s.heap.objs.size ≤ h'.objs.size := by
      obtain ⟨o, ho, _⟩ := hT
      refine Nat.le_of_lt (Heap.lt_size (hk s.heap.objs.size o (fun hm => ?_) (Heap.get?_push_of_some _ ho)))
      rcases List.mem_cons.mp hm with e1 | hm
      · rw [hsz] at e1; exact absurd e1 (Nat.ne_of_lt (Nat.lt_succ_self _))
      · cases hm
    have hL : Live X h' := S.live.kept hold hbig
    · refine hQ v _ (.all hL hold hbig rfl rfl) ?_
      have hsz2 : (intItems #[(a, t), (b, u)]).size - 1 = 1 := by simp [intItems]
      by_cases hba : b < a
      · have e : argBest (fun i j => decide (numAt #[(a, t), (b, u)] i < numAt #[(a, t), (b, u)] j)) 1 = 1 := by simp [argBest, numAt, hba]
        have hP' : (intItems #[(a, t), (b, u)])[argBest (fun i j => decide (numAt #[(a, t), (b, u)] i < numAt #[(a, t), (b, u)] j)) 1]? = some v := by
          rw [← hsz2]; exact hP
        rw [e] at hP'
        rw [if_pos hba]
        exact ⟨u, by simpa [intItems] using hP'.symm⟩
      · have e : argBest (fun i j => decide (numAt #[(a, t), (b, u)] i < numAt #[(a, t), (b, u)] j)) 1 = 0 := by simp [argBest, numAt, hba]
        have hP' : (intItems #[(a, t), (b, u)])[argBest (fun i j => decide (numAt #[(a, t), (b, u)] i < numAt #[(a, t), (b, u)] j)) 1]? = some v := by
          rw [← hsz2]; exact hP
        rw [e] at hP'
        rw [if_neg hba]
        exact ⟨t, by simpa [intItems] using hP'.symm⟩
end
section
variable {X : Wd} {k : Nat} {f : FS}
noncomputable def boxed (c : Nat) : Str := if c = 42 ∨ c = 63 ∨ c = 91 then ⟨#[91, c, 93]⟩ else ⟨#[c]⟩
noncomputable def writtenC (x : Str) : Str := Txt.join ⟨#[]⟩ (x.cps.toList.map boxed)
theorem written_spec (C : Cx X) (x : Str) (hx : x.length ≤ 1000) : OpN X 1 [.str x] (fun vs => call (.ref 116) vs) (.str (writtenC x)) := by
  refine fspec C (ns := ["text"]) (fun P => by with_unfolding_all rfl) (fun P => by kernel_rfl) (len1 rfl fun _ => rfl) rfl (by decide +kernel) (by decide +kernel) ?_ (by decide +kernel)
  intro hs mu L own T _ X C
  show WS _ _ ⟨hs, mu, _, [("text", .str x)], own, []⟩ _ _
  refine wRet (p := .str (writtenC x)) ?_ ⟨_, rfl, .same⟩
  refine Ev.of (Ev.join (ys := x.cps.toList.map boxed) (Ev.of (Ev.comp (cl := []) [] (fun p => match p with | .str y => some (.str (boxed (y.cps.getD 0 0))) | _ => none) (fun p => [("sign", p)]) (Src.str (x := x) (by walk_at "ev")) trivial trivial (Elts.name (by with_unfolding_all rfl) rfl ?_) (by simp [chars]; exact Nat.le_trans hx (by decide)) (by with_unfolding_all rfl) (by decide +kernel) (by decide +kernel)) ?_) Lst.fz ?_) rfl
  · intro p hp hs mu C' D own ys
    obtain ⟨c, hc, rfl⟩ := List.mem_map.mp hp
    refine ⟨fun h => by simp at h, fun q hq => ⟨Tests.nil, ?_⟩⟩
    simp only [Option.some.injEq] at hq
    subst hq
    refine Ev.of (Ev.ife' (c := decide (c ∈ (Str.ofString "*?[").cps.toList)) (p := .str ⟨#[91, c, 93]⟩) (q := .str ⟨#[c]⟩) (by walk_at "ev") (fun _ => ?_) (fun _ => by walk_at "ev")) ?_
    · refine Ev.of (Ev.bin (p := .str ⟨#[91, c]⟩) (q := .str (Str.ofString "]")) (Ev.of (Ev.bin (p := .str (Str.ofString "[")) (q := .str ⟨#[c]⟩) (by walk_at "ev") (by walk_at "ev") (add_ss (by show 1 + 1 ≤ _; decide))) rfl) (by walk_at "ev") (add_ss (by show 2 + 1 ≤ _; decide))) rfl
    · show (if _ then _ else _) = PV.str (boxed c)
      unfold boxed
      have : (c ∈ (Str.ofString "*?[").cps.toList) ↔ (c = 42 ∨ c = 63 ∨ c = 91) := by
        have e : (Str.ofString "*?[").cps.toList = [42, 63, 91] := by decide
        rw [e]; simp
      by_cases h : c = 42 ∨ c = 63 ∨ c = 91
      · rw [if_pos h, if_pos (decide_eq_true (this.mpr h))]
      · rw [if_neg h, if_neg (by rw [decide_eq_false (fun q => h (this.mp q))]; exact Bool.false_ne_true)]
  · congr 1
    unfold chars
    rw [List.filterMap_map, List.map_map]
    generalize x.cps.toList = l
    induction l with
    | nil => rfl
    | cons c l ih => simpa using ih
  · have hb : ∀ c, (boxed c).length ≤ 3 := fun c => by unfold boxed; split <;> (show Array.size _ ≤ 3) <;> simp
    have : ∀ l : List Nat, ((l.map boxed).map (·.length)).sum ≤ 3 * l.length := fun l => by
      induction l with
      | nil => simp
      | cons c l ih =>
        have h1 := hb c
        simp only [List.map_cons, List.sum_cons, List.length_cons] at ih ⊢
        omega
    have h1 := this x.cps.toList
    have h2 : x.cps.toList.length ≤ 1000 := by simpa [Str.length] using hx
    have h3 : (Str.ofString "").length = 0 := rfl
    rw [h3, Nat.mul_zero, Nat.add_zero]
    omega
end
section
variable {X : Wd} {k : Nat} {f : FS}
/-- the tokens of a text as the law writes it -/
noncomputable def wtok (c : Nat) : PT := if c = 42 ∨ c = 63 ∨ c = 91 then .br false c else .lit c
theorem wtok_ok (c : Nat) : (wtok c).ok := by
  unfold wtok
  by_cases h : c = 42 ∨ c = 63 ∨ c = 91
  · rw [if_pos h]; exact Or.inl ⟨rfl, h⟩
  · rw [if_neg h]; show c ≠ 42 ∧ c ≠ 63 ∧ c ≠ 91; omega
theorem wtok_render (c : Nat) : (wtok c).render = (boxed c).cps.toList := by
  unfold wtok boxed
  by_cases h : c = 42 ∨ c = 63 ∨ c = 91
  · rw [if_pos h, if_pos h]; rfl
  · rw [if_neg h, if_neg h]; rfl
theorem wtok_item (c : Nat) : (wtok c).item = (false, c) := by
  unfold wtok
  by_cases h : c = 42 ∨ c = 63 ∨ c = 91
  · rw [if_pos h]; rfl
  · rw [if_neg h]; rfl
theorem wtok_stars : ∀ l : List Nat, pstars (l.map wtok) = 0
  | [] => rfl
  | c :: l => by
    have ih := wtok_stars l
    rw [List.map_cons]
    unfold wtok
    by_cases h : c = 42 ∨ c = 63 ∨ c = 91
    · rw [if_pos h]; exact ih
    · rw [if_neg h]; exact ih
theorem written_toks (x : Str) : (writtenC x).cps.toList = (x.cps.toList.map wtok).flatMap PT.render := by
  unfold writtenC
  have e : (⟨#[]⟩ : Str) = Str.ofString "" := by decide
  rw [e, join_flat]
  generalize x.cps.toList = l
  induction l with
  | nil => rfl
  | cons c l ih =>
    rw [List.map_cons, List.map_cons, List.flatten_cons, List.map_cons, List.flatMap_cons, wtok_render, ih]
theorem wtok_items (l : List Nat) : (l.map wtok).map PT.item = l.map fun c => (false, c) := by
  rw [List.map_map]
  exact List.map_congr_left fun c _ => wtok_item c
/-- signs that bar nothing fit the same signs -/
theorem fits_plain (l x : List Nat) (h : l.length ≤ x.length) : fitsC (l.map fun c => (false, c)) x = decide (l <+: x) := by
  induction l generalizing x with
  | nil => simp [fitsC]
  | cons c l ih =>
    cases x with
    | nil => cases h
    | cons d x =>
      have ih := ih x (Nat.le_of_succ_le_succ h)
      unfold fitsC at ih ⊢
      rw [List.map_cons, List.zip_cons_cons, List.all_cons, ih]
      by_cases hc : d = c
      · subst hc; simp [List.cons_prefix_cons]
      · have h1 : ¬ (c = d) := fun q => hc q.symm
        simp [List.cons_prefix_cons, hc, h1]
theorem takes_whole (l x : List Nat) : takesC [l.map fun c => (false, c)] x = decide (x = l) := by
  unfold takesC
  have h1 : [l.map fun c => ((false, c) : Item)].length = 1 := rfl
  rw [if_pos h1]
  show (x.length == (l.map fun c => (false, c)).length && fitsC (l.map fun c => (false, c)) x) = _
  rw [List.length_map]
  by_cases h : x.length = l.length
  · rw [fits_plain l x (by omega), beq_iff_eq.mpr h, Bool.true_and]
    refine decide_eq_decide.mpr ⟨fun q => (q.eq_of_length h.symm).symm, fun q => q ▸ List.prefix_refl _⟩
  · rw [beq_eq_false_iff_ne.mpr h, Bool.false_and]
    exact (decide_eq_false fun q => h (by rw [q])).symm
theorem takes_front (l x : List Nat) : takesC [l.map fun c => (false, c), []] x = decide (l <+: x) := by
  unfold takesC
  have h2 : ¬ [l.map (fun c => ((false, c) : Item)), []].length = 1 := fun h => by cases h
  rw [if_neg h2]
  show (decide ((l.map fun c => (false, c)).length + 0 ≤ x.length) && fitsC (l.map fun c => (false, c)) x && fitsC [] (x.drop (x.length - 0))) = _
  rw [List.length_map, Nat.add_zero]
  have e : ∀ y, fitsC [] y = true := fun y => rfl
  rw [e, Bool.and_true]
  by_cases h : l.length ≤ x.length
  · rw [fits_plain l x h, decide_eq_true h, Bool.true_and]
  · rw [decide_eq_false h, Bool.false_and]
    exact (decide_eq_false fun q => h q.length_le).symm
theorem takes_last (l x : List Nat) : takesC [[], l.map fun c => (false, c)] x = decide (l <:+ x) := by
  unfold takesC
  have h2 : ¬ [[], l.map (fun c => ((false, c) : Item))].length = 1 := fun h => by cases h
  rw [if_neg h2]
  show (decide (0 + (l.map fun c => (false, c)).length ≤ x.length) && fitsC [] x && fitsC (l.map fun c => (false, c)) (x.drop (x.length - (l.map fun c => (false, c)).length))) = _
  rw [List.length_map, Nat.zero_add]
  have e : fitsC [] x = true := rfl
  rw [e, Bool.and_true]
  by_cases h : l.length ≤ x.length
  · have hd : (x.drop (x.length - l.length)).length = l.length := by rw [List.length_drop]; omega
    rw [fits_plain l _ (by omega), decide_eq_true h, Bool.true_and]
    refine decide_eq_decide.mpr ⟨fun q => ?_, fun q => ?_⟩
    · rw [q.eq_of_length hd.symm]; exact List.drop_suffix _ _
    · rw [← List.suffix_iff_eq_drop.mp q]; exact List.prefix_refl _
  · rw [decide_eq_false h, Bool.false_and]
    exact (decide_eq_false fun q => h q.length_le).symm
theorem takes_all (x : List Nat) : takesC [[], []] x = true := by
  have := takes_front [] x
  simpa using this
theorem takes_barred (d : Nat) : ∀ x : List Nat, takesC [[(true, d)], []] x = (match x with | [] => false | c :: _ => c != d)
  | [] => rfl
  | c :: x => by
    unfold takesC
    have h2 : ¬ [[((true, d) : Item)], []].length = 1 := fun h => by cases h
    rw [if_neg h2]
    show (decide (1 + 0 ≤ x.length + 1) && fitsC [(true, d)] (c :: x) && fitsC [] _) = _
    have e : ∀ y, fitsC [] y = true := fun y => rfl
    rw [e, decide_eq_true (by omega)]
    unfold fitsC
    by_cases h : c = d
    · subst h; simp
    · have q : (c == d) = false := beq_eq_false_iff_ne.mpr h
      simp [bne, q]
end
section
variable {X : Wd} {k : Nat} {f : FS}
/-- is the name of this place there -/
noncomputable def bitC (t p : Nat) : Bool := t / 2 ^ p % 2 == 1
noncomputable def waysC : List (List Nat) := [[0, 4, 8], [0, 5, 7], [1, 3, 8], [1, 5, 6], [2, 3, 7], [2, 4, 6]]
noncomputable def mostC (t : Nat) : Nat := waysC.foldl (fun m w => max m (w.map fun p => t / 2 ^ p % 2).sum) 0
/-- the namespaces of a choice -/
noncomputable def spacesC (ch : Nat) : List Nat := (List.range 3).filter fun k => bitC ch k
/-- does the wildcard of this end still take a name off -/
noncomputable def endsC (t ch c : Nat) : Bool := (List.range 3).any fun r => !bitC ch r && bitC t (3 * r + c)
noncomputable def manyC (t ch : Nat) : Nat := (spacesC ch).length + ((List.range 3).filter fun c => endsC t ch c).length
noncomputable def fewestC (t : Nat) : Nat := (List.range 8).foldl (fun m ch => min m (manyC t ch)) 7
theorem koenig : ∀ t < 512, fewestC t = mostC t := by decide +kernel
/-- the places that are there -/
noncomputable def placesC (t : Nat) : List Nat := (List.range 9).filter fun p => bitC t p
theorem places_ne : ∀ n < 511, placesC (1 + n) ≠ [] := by decide +kernel
theorem places_len (t : Nat) : (placesC t).length ≤ 9 := by
  have := List.length_filter_le (fun p => bitC t p) (List.range 9)
  rw [List.length_range] at this
  exact this
theorem places_lt {t p : Nat} (h : p ∈ placesC t) : p < 9 ∧ bitC t p = true := by
  have := List.mem_filter.mp h
  exact ⟨List.mem_range.mp this.1, this.2⟩
theorem places_nodup (t : Nat) : (placesC t).Nodup := List.Pairwise.filter _ List.nodup_range
/-- places left after the namespaces of a choice, and after the first ends -/
noncomputable def leftC (t ch : Nat) : List Nat := (placesC t).filter fun p => !bitC ch (p / 3)
theorem ends_left : ∀ t < 512, ∀ ch < 8, ∀ c < 3, endsC t ch c = (leftC t ch).any (fun p => p % 3 == c) := by decide +kernel
/-- a row without a name is emptied: what the three ends leave is nothing, one by one -/
noncomputable def restC (t ch : Nat) : Nat → List Nat
  | 0 => leftC t ch
  | c + 1 => (restC t ch c).filter fun p => p % 3 != c
theorem rest_less (t ch c : Nat) : (decide ((restC t ch (c + 1)).length < (restC t ch c).length)) = (restC t ch c).any (fun p => p % 3 == c) := by
  show decide (((restC t ch c).filter fun p => p % 3 != c).length < _) = _
  generalize restC t ch c = l
  induction l with
  | nil => rfl
  | cons a l ih =>
    by_cases h : a % 3 = c
    · have h1 : (a % 3 != c) = false := by simp [h]
      have h2 : (a % 3 == c) = true := by simp [h]
      rw [List.filter_cons, if_neg (by rw [h1]; decide), List.any_cons, h2, Bool.true_or, List.length_cons]
      exact decide_eq_true (Nat.lt_succ_of_le (List.length_filter_le _ _))
    · have h1 : (a % 3 != c) = true := by simp [h]
      have h2 : (a % 3 == c) = false := by simp [h]
      rw [List.filter_cons, if_pos h1, List.any_cons, h2, Bool.false_or, List.length_cons, List.length_cons, ← ih]
      exact decide_eq_decide.mpr ⟨fun q => Nat.lt_of_succ_lt_succ q, fun q => Nat.succ_lt_succ q⟩
theorem rest_any (t ch c d : Nat) (h : c ≤ d) : (restC t ch c).any (fun p => p % 3 == d) = (leftC t ch).any (fun p => p % 3 == d) := by
  induction c with
  | zero => rfl
  | succ c ih =>
    rw [← ih (by omega)]
    show ((restC t ch c).filter fun p => p % 3 != c).any _ = _
    generalize restC t ch c = l
    induction l with
    | nil => rfl
    | cons a l ihl =>
      by_cases ha : a % 3 = c
      · have h1 : (a % 3 != c) = false := by simp [ha]
        have h2 : (a % 3 == d) = false := beq_eq_false_iff_ne.mpr (by omega)
        rw [List.filter_cons, if_neg (by rw [h1]; decide), List.any_cons, h2, Bool.false_or]; exact ihl
      · have h1 : (a % 3 != c) = true := by simp [ha]
        rw [List.filter_cons, if_pos h1, List.any_cons, List.any_cons, ihl]
/-- one turn of the ends' loop, as the law counts it -/
theorem rest_turn {t ch c : Nat} (ht : t < 512) (hch : ch < 8) (hc : c < 3) : (decide ((restC t ch (c + 1)).length < (restC t ch c).length)) = endsC t ch c := by
  rw [rest_less, rest_any t ch c c (Nat.le_refl _), ends_left t ht ch hch c hc]
end
section
variable {X : Wd} {k : Nat} {f : FS}
noncomputable def placesV (w : List Nat) : List PV := w.map fun p : Nat => PV.int (p : Int)
noncomputable def placeV (w : List Nat) : PV := .tup (placesV w)
noncomputable def mostTo (t i : Nat) : Nat := (waysC.take i).foldl (fun m w => max m (w.map fun p => t / 2 ^ p % 2).sum) 0
theorem bit_int (t p : Nat) : Int.fmod (Int.fdiv (t : Int) ((2 : Int) ^ (p : Int).toNat)) 2 = ((t / 2 ^ p % 2 : Nat) : Int) := by
  have e : ((2 : Int) ^ (p : Int).toNat) = ((2 ^ p : Nat) : Int) := by simp
  rw [e, Int.fdiv_eq_ediv_of_nonneg _ (Int.natCast_nonneg _), Int.fmod_eq_emod_of_nonneg _ (by decide)]
  rfl
theorem sum_cast : ∀ l : List Nat, (l.map fun n : Nat => (n : Int)).sum = ((l.sum : Nat) : Int)
  | [] => rfl
  | a :: l => by rw [List.map_cons, List.sum_cons, sum_cast l, List.sum_cons]; simp
theorem max_cast (a b : Nat) : (if (b : Int) > (a : Int) then (b : Int) else (a : Int)) = ((max a b : Nat) : Int) := by
  by_cases h : a < b
  · rw [if_pos (by omega)]; congr 1; omega
  · rw [if_neg (by omega)]; congr 1; omega
theorem ways_small : ∀ w ∈ waysC, ∀ p ∈ w, p ≤ 8 := by decide
theorem most_step (t i : Nat) {w : List Nat} (hw : waysC[i]? = some w) : mostTo t (i + 1) = max (mostTo t i) (w.map fun p => t / 2 ^ p % 2).sum := by
  unfold mostTo
  rw [List.take_succ, hw, List.foldl_append]; rfl
theorem most_end (t : Nat) : mostTo t 6 = mostC t := rfl
theorem fold_tuple (es : List Expr) (n : Nat) (pos : Pos) (env : Env) (x : Value) : foldedSetIterable (.Tuple es n pos) env x = pure x := by rfl
theorem small_ok {n : Nat} (h : n ≤ 1000) : n ≤ sizeLine := Nat.le_trans h (by decide)
noncomputable def waysV : List PV := [.tup [.int 0, .int 4, .int 8], .tup [.int 0, .int 5, .int 7], .tup [.int 1, .int 3, .int 8], .tup [.int 1, .int 5, .int 6], .tup [.int 2, .int 3, .int 7], .tup [.int 2, .int 4, .int 6]]
theorem waysV_eq : waysV = waysC.map placeV := by simp [waysV, waysC, placeV, placesV]
theorem ways_src {env : Env} {hs : Shared} {mu : Addr → Prop} {V : List (Str × PV)} {own : List Addr} {led : List (Addr × MO)} {px pt q0 q1 q2 q3 q4 q5 a0 a1 a2 b0 b1 b2 c0 c1 c2 d0 d1 d2 e0 e1 e2 f0 f1 f2 : Pos} :
    Src X k ⟨hs, mu, env, V, own, led⟩ (.Name "way" px) (.Tuple [.Tuple [.Constant (.int 0) 0 a0, .Constant (.int 4) 0 a1, .Constant (.int 8) 0 a2] 0 q0, .Tuple [.Constant (.int 0) 0 b0, .Constant (.int 5) 0 b1, .Constant (.int 7) 0 b2] 0 q1,
      .Tuple [.Constant (.int 1) 0 c0, .Constant (.int 3) 0 c1, .Constant (.int 8) 0 c2] 0 q2, .Tuple [.Constant (.int 1) 0 d0, .Constant (.int 5) 0 d1, .Constant (.int 6) 0 d2] 0 q3,
      .Tuple [.Constant (.int 2) 0 e0, .Constant (.int 3) 0 e1, .Constant (.int 7) 0 e2] 0 q4, .Tuple [.Constant (.int 2) 0 f0, .Constant (.int 4) 0 f1, .Constant (.int 6) 0 f2] 0 q5] 0 pt) waysV := by
  have hw : waysV.length ≤ sizeLine := by
    have h : waysV.length = 6 := rfl
    rw [h]; decide
  refine Src.tup (xs := waysV) ?_
  refine Ev.tup ?_ ?_
  case refine_2 => exact hw
  unfold waysV
  have z3 : ∀ {a b c : Int} {x y z pt : Pos}, Ev X k ⟨hs, mu, env, V, own, led⟩ (.Tuple [.Constant (.int a) 0 x, .Constant (.int b) 0 y, .Constant (.int c) 0 z] 0 pt) (.tup [.int a, .int b, .int c]) := by
    intro a b c x y z pt
    refine Ev.tup ?_ ?_
    · refine EvL.cons ?_ (EvL.cons ?_ (EvL.cons ?_ EvL.nil)) <;> exact Ev.cint
    · have h : [PV.int a, PV.int b, PV.int c].length = 3 := rfl
      rw [h]; decide
  refine EvL.cons ?_ ?_
  · exact z3
  refine EvL.cons ?_ ?_
  · exact z3
  refine EvL.cons ?_ ?_
  · exact z3
  refine EvL.cons ?_ ?_
  · exact z3
  refine EvL.cons ?_ ?_
  · exact z3
  refine EvL.cons ?_ ?_
  · exact z3
  exact EvL.nil
theorem bits_two (p : Nat) (hp : p ≤ 8) : (Builtin.Int.intBits 2 : Int) * (p : Int) ≤ 2 ^ 27 := by
  have : Builtin.Int.intBits 2 = 2 := by decide +kernel
  rw [this]; omega
theorem bits_map (t : Nat) : ∀ w : List Nat, (w.map fun p : Nat => PV.int (p : Int)).filterMap (fun p => match p with | .int y => some (PV.int ((t / 2 ^ y.toNat % 2 : Nat) : Int)) | _ => none) = (w.map fun p => ((t / 2 ^ p % 2 : Nat) : Int)).map PV.int
  | [] => rfl
  | a :: w => by
    rw [List.map_cons, List.filterMap_cons, bits_map t w]; rfl
theorem pow2_ne (n : Nat) : (2 : Int) ^ (n : Int).toNat ≠ 0 := by
  rw [show ((2 : Int) ^ (n : Int).toNat) = ((2 ^ n : Nat) : Int) by simp]
  have := Nat.two_pow_pos n
  omega
theorem pow2_py (n : Nat) (h : n ≤ 8) (t : Int) : Builtin.divisionGoesByPylong t ((2 : Int) ^ (n : Int).toNat) = false := by
  refine PyProof.noPylong_small ?_
  rw [show ((2 : Int) ^ (n : Int).toNat) = ((2 ^ n : Nat) : Int) by simp]
  have : 2 ^ n ≤ 2 ^ 8 := Nat.pow_le_pow_right (by decide) h
  rw [Int.natAbs_natCast]
  exact Nat.lt_of_le_of_lt this (by decide)
theorem most_spec (C : Cx X) (t : Nat) : OpN X 2 [.int t] (fun vs => call (.ref 164) vs) (.int (mostC t)) := by
  refine fspec C (ns := ["table"]) (fun P => by with_unfolding_all rfl) (fun P => by kernel_rfl) (len1 rfl fun _ => rfl) rfl (by decide +kernel) (by decide +kernel) ?_ (by decide +kernel)
  intro hs mu L own T _ X C
  show WS _ _ ⟨hs, mu, _, [("table", .int t)], own, []⟩ _ _
  have z0 : mostTo t 0 = 0 := rfl
  have z6 := most_end t
  have zs : ∀ i w, waysC[i]? = some w → mostTo t (i + 1) = max (mostTo t i) (w.map fun p => t / 2 ^ p % 2).sum := fun i w hw => most_step t i hw
  generalize mostTo t = g at z0 z6 zs
  generalize mostC t = m at z6
  refine wAssign (p := .int (g 0)) ?_ ?_ ?_
  · exact Ev.of (p := .int 0) Ev.cint (by rw [z0]; rfl)
  · exact .loc (by with_unfolding_all rfl)
  with_reducible refine wFor (items := waysV) (fun p => [("way", p)]) (fun i V L' => Subv [("table", .int t), ("most", .int (g i))] V ∧ L' = []) ?_ ?_ ?_ ?_ (fold_tuple _ _ _ _)
  · with_reducible exact ways_src
  · exact ⟨by walk_at "sub", rfl⟩
  · intro i p V L' O hp hO ⟨⟨v1, v2, _⟩, hL⟩
    subst hL
    rw [waysV_eq, List.getElem?_map, Option.map_eq_some_iff] at hp
    obtain ⟨w, hw, rfl⟩ := hp
    have hw8 : ∀ p ∈ w, p ≤ 8 := ways_small w (List.mem_of_getElem? hw)
    have hw3 : w.length ≤ 3 := by
      have : ∀ w ∈ waysC, w.length ≤ 3 := by decide
      exact this w (List.mem_of_getElem? hw)
    refine ⟨Binds.name (.loc (by with_unfolding_all rfl)), ?_⟩
    refine wForget [("table", .int t), ("most", .int (g i)), ("way", placeV w)] ⟨by with_unfolding_all exact v1, by with_unfolding_all exact v2, by with_unfolding_all rfl, trivial⟩ ?_
    refine wAssign (p := .int (g (i + 1))) ?_ (.loc (by with_unfolding_all rfl)) (wNil ⟨by walk_at "sub", rfl⟩)
    rw [zs i w hw]
    refine Ev.of (Ev.call (v := .builtin "max") (Ev.blt (by assumption) (fun P => by with_unfolding_all rfl) (by decide +kernel) (by with_unfolding_all rfl)) Kept.bi (EvL.cons (by walk_at "nm") (EvL.cons (p := .int ((w.map fun p => t / 2 ^ p % 2).sum : Nat)) ?_ EvL.nil)) max_two) (congrArg PV.int (max_cast _ _))
    refine Ev.of (Ev.call (v := .builtin "sum") (Ev.blt (by assumption) (fun P => by with_unfolding_all rfl) (by decide +kernel) (by with_unfolding_all rfl)) Kept.bi (EvL.cons (p := .lst ((w.map fun p => ((t / 2 ^ p % 2 : Nat) : Int)).map .int)) ?_ EvL.nil) sum_l) ?_
    · refine Ev.of (Ev.comp (cl := [("table", L + 1)]) [("table", .int t)] (fun p => match p with | .int y => some (.int ((t / 2 ^ y.toNat % 2 : Nat) : Int)) | _ => none) (fun p => [("place", p)]) (Src.tup (xs := placesV w) (by walk_at "nm")) (by walk_at "cv") (by walk_at "sub") (Elts.name (by with_unfolding_all rfl) rfl ?_) ?_ (by with_unfolding_all rfl) (by decide +kernel) (by decide +kernel)) ?_
      · intro p hp hs' mu' C' D own' ys
        obtain ⟨n, hn, rfl⟩ := List.mem_map.mp hp
        refine ⟨fun h => (by cases h), fun q hq => ?_⟩
        cases hq
        refine ⟨Tests.nil, ?_⟩
        refine Ev.of (Ev.bin (Ev.bin (by walk_at "nm") (Ev.bin Ev.cint (by walk_at "nm") (pow_ii (Int.natCast_nonneg n) (bits_two n (hw8 n hn)))) (div_ii ?_ ?_)) Ev.cint (mod_ii (by decide))) (congrArg PV.int (bit_int t n))
        · exact pow2_ne n
        · exact pow2_py n (hw8 n hn) _
      · exact small_ok (by rw [placesV, List.length_map]; omega)
      · congr 1
        rw [placesV]
        exact bits_map t w
    · have := sum_cast (w.map fun p => t / 2 ^ p % 2)
      rw [List.map_map] at this
      exact congrArg PV.int this
  · intro V L' ⟨⟨v1, v2, _⟩, hL⟩
    subst hL
    have e6 : waysV.length = 6 := rfl
    rw [e6, z6] at v2
    exact wForget [("table", .int t), ("most", .int m)] ⟨v1, v2, trivial⟩ (wRet (by walk_at "nm") ⟨_, rfl, .same⟩)
end
section
variable {X : Wd} {k : Nat} {f : FS}
theorem is_ln {xs : List PV} : Op2 X k (.lst xs) .none (compareOp .Is) (.bool false) := op_of fun A s mu v w Q _ _ hv hw hQ => by
  obtain ⟨a, o, vs, n, rfl, h⟩ := hv; cases hw; exact wpAny_is_other rfl (by intro h; cases h) (hQ _ s.toks rfl)
theorem le_lt {a b : Str} (h : leS a b = true) (hn : a ≠ b) : ltS a b = true := by
  unfold ltS
  refine decide_eq_true (Decidable.byContradiction fun q => hn ?_)
  have h1 := (leS_iff a b).mp h
  exact leS_anti a b h ((leS_iff b a).mpr (List.not_lt.mp q))
theorem sort_rises {l : List Str} (h : l.Nodup) : risesS (sortC l) := by
  have h1 := sortC_pairwise l
  have h2 : (sortC l).Nodup := (sortC_perm l).nodup_iff.mpr h
  exact (h1.and h2).imp fun ⟨a, b⟩ => le_lt a b
theorem BS.emit {elt : Expr} {p : PV} {D : Addr} {ys : List PV} {led' : List (Addr × MO)} (he : Ev X k f elt p) (hl : LedSet D (.lst ys) (.lst (ys ++ [p])) f.led led') (hz : ys.length ≤ sizeLine) : BS X k f (emitT elt (.ref D) f.env) (fun vars led => vars = f.vars ∧ led = led') := by
  intro A s Q R F hQ
  unfold emitT
  refine wpAny_bind (he A s _ R F fun v s₁ G₁ F₁ h₁ => wpAny_bind (append_led F₁ hl h₁ hz fun s₂ F₂ S₂ => wpAny_pure ?_))
  exact hQ f.vars led' s₂ ⟨rfl, rfl⟩ F₂ ((Step.grow F G₁).trans S₂)
theorem BS.mono {t : Sem Unit} {Ψ Φ : List (Str × PV) → List (Addr × MO) → Prop} (h : BS X k f t Ψ) (hΨ : ∀ vars led, Ψ vars led → Φ vars led) : BS X k f t Φ := fun A s Q R F hQ => h A s Q R F fun vars led s' hp => hQ vars led s' (hΨ _ _ hp)
/-- the places of a choice, and what the law counts -/
noncomputable def beginS (whole : List Str) (taken : List (List Str)) (c : Nat) : List Str := leftS whole (sortC ((spacesC c).flatMap fun i => taken.getD i []))
noncomputable def stepS (taken : List (List Str)) (st : List Str × Nat) (i : Nat) : List Str × Nat := (leftS st.1 (taken.getD i []), if (leftS st.1 (taken.getD i [])).length < st.1.length then st.2 + 1 else st.2)
noncomputable def manyS (whole : List Str) (taken : List (List Str)) (c : Nat) : Nat := ([3, 4, 5].foldl (stepS taken) (beginS whole taken c, (spacesC c).length)).2
noncomputable def fewS (whole : List Str) (taken : List (List Str)) (n : Nat) : Nat := (List.range n).foldl (fun m c => min m (manyS whole taken c)) 7
theorem few_succ (whole : List Str) (taken : List (List Str)) (n : Nat) : fewS whole taken (n + 1) = min (fewS whole taken n) (manyS whole taken n) := by
  unfold fewS
  rw [List.range_succ, List.foldl_append]; rfl
end
section
variable {X : Wd} {k : Nat} {f : FS}
structure OkS (xs : List Str) : Prop where
  rise : risesS xs
  len : xs.length ≤ 60
  ok : ∀ x ∈ xs, PyData.strOk x = true
theorem OkS.left {xs : List Str} (h : OkS xs) (ys : List Str) : OkS (leftS xs ys) := ⟨List.Pairwise.filter _ h.rise, Nat.le_trans (List.length_filter_le _ _) h.len, fun x hx => h.ok x (List.mem_filter.mp hx).1⟩
theorem foldS_ok {taken : List (List Str)} : ∀ (l : List Nat) (st : List Str × Nat), OkS st.1 → OkS (l.foldl (stepS taken) st).1
  | [], _, h => h
  | i :: l, st, h => foldS_ok l _ (h.left _)
theorem spaces_len (c : Nat) : (spacesC c).length ≤ 3 := by
  have := List.length_filter_le (fun k => bitC c k) (List.range 3)
  rw [List.length_range] at this
  exact this
theorem mem_spaces {c i : Nat} (h : i ∈ spacesC c) : i < 3 := List.mem_range.mp (List.mem_filter.mp h).1
theorem spaces_v (c : Nat) : (upto 3).filterMap (fun p => match p with | .int y => if bitC c y.toNat then some (PV.int y) else none | _ => none) = (spacesC c).map fun i => PV.int ((i : Nat) : Int) := by
  rw [upto_filterMap]
  unfold spacesC
  generalize List.range 3 = l
  induction l with
  | nil => rfl
  | cons a l ih =>
    rw [List.filterMap_cons, List.filter_cons, ih]
    by_cases hb : bitC c a = true <;> simp [hb]
theorem bit_test (c i : Nat) : (((c / 2 ^ i % 2 : Nat) : Int) == 1) = bitC c i := by
  unfold bitC
  generalize c / 2 ^ i % 2 = m
  by_cases h : m = 1
  · subst h; rfl
  · rw [beq_eq_false_iff_ne.mpr (fun q => h (by omega)), beq_eq_false_iff_ne.mpr h]
theorem flat_len {α : Type} {n m : Nat} {l : List Nat} {g : Nat → List α} (h : ∀ i ∈ l, (g i).length ≤ n) (hl : l.length ≤ m) : (l.flatMap g).length ≤ n * m := by
  refine Nat.le_trans ?_ (Nat.mul_le_mul_left n hl)
  clear hl
  induction l with
  | nil => exact Nat.zero_le _
  | cons a l ih =>
    rw [List.flatMap_cons, List.length_append, List.length_cons, Nat.mul_succ]
    have h1 := h a (.head _)
    have h2 := ih fun i hi => h i (.tail _ hi)
    omega
theorem lookup_self {β : Type} (x : Str) (p : β) (V : List (Str × β)) : ((x, p) :: V).lookup x = some p := by rw [List.lookup_cons, beq_self_eq_true]
noncomputable def takenV (taken : List (List Str)) : PV := .lst (taken.map fun l => .lst (l.map .str))
theorem fewest_spec (C : Cx X) {whole : List Str} {taken : List (List Str)} (hw : OkS whole) (hl : taken.length = 6) (ht : ∀ l ∈ taken, OkS l ∧ l.length ≤ 20) (hnd : ∀ c < 8, ((spacesC c).flatMap fun i => taken.getD i []).Nodup) :
    OpN X 10 [.lst (whole.map .str), takenV taken] (fun vs => call (.ref 159) vs) (.int (fewS whole taken 8)) := by
  refine fspec C (ns := ["whole", "taken"]) (fun P => by with_unfolding_all rfl) (fun P => by kernel_rfl) (len2 rfl fun _ _ => rfl) rfl (by decide +kernel) (by decide +kernel) ?_ (by decide +kernel)
  intro hs mu L own T hown X C
  show WS _ _ ⟨hs, mu, _, [("whole", .lst (whole.map .str)), ("taken", takenV taken)], own, []⟩ _ _
  have few0 : fewS whole taken 0 = 7 := rfl
  have fews := few_succ whole taken
  have hget : ∀ i, i < 6 → taken[i]? = some (taken.getD i []) ∧ taken.getD i [] ∈ taken := fun i hi => by
    have h : taken[i]? = some (taken.getD i []) := by simp [hl, hi]
    exact ⟨h, List.mem_of_getElem? h⟩
  refine wAssign (p := .int (fewS whole taken 0 : Nat)) (Ev.of (p := .int 7) Ev.cint (by rw [few0]; rfl)) (.loc (by with_unfolding_all rfl)) ?_
  refine wFor (items := upto 8) (fun p => [("chosen", p)]) (fun i V L' => Subv [("whole", .lst (whole.map .str)), ("taken", takenV taken), ("fewest", .int (fewS whole taken i : Nat))] V ∧ L' = []) (Src.range (n := 8) C (Ev.of Ev.cint rfl) (by decide) (by with_unfolding_all rfl)) ⟨by walk_at "sub", rfl⟩ ?_ ?_
  · rintro c p V L' O hp hO ⟨hV, rfl⟩
    have hc : c < 8 := by have := (List.getElem?_eq_some_iff.mp hp).1; rwa [upto_len] at this
    have hpe : p = .int (c : Nat) := by
      have : (upto 8)[c]? = some (.int (c : Nat)) := by simp [upto, hc]
      rw [this] at hp; cases hp; rfl
    subst hpe
    obtain ⟨flat, hflat⟩ : ∃ flat, flat = (spacesC c).flatMap fun i => taken.getD i [] := ⟨_, rfl⟩
    have hfl : flat.length ≤ 60 := by
      rw [hflat]; exact flat_len (n := 20) (fun i hi => (ht _ (hget i (by have := mem_spaces hi; omega)).2).2) (spaces_len c)
    have hfo : ∀ x ∈ flat, PyData.strOk x = true := fun x hx => by
      rw [hflat] at hx
      obtain ⟨i, hi, hx⟩ := List.mem_flatMap.mp hx
      exact (ht _ (hget i (by have := mem_spaces hi; omega)).2).1.ok x hx
    have hso : OkS (sortC flat) := ⟨sort_rises (by rw [hflat]; exact hnd c hc), by rw [(sortC_perm flat).length_eq]; exact hfl, fun x hx => hfo x ((sortC_perm flat).mem_iff.mp hx)⟩
    have hbo : OkS (beginS whole taken c) := hw.left _
    obtain ⟨st, hst⟩ : ∃ st : Nat → List Str × Nat, st = fun j => (([3, 4, 5] : List Nat).take j).foldl (stepS taken) (beginS whole taken c, (spacesC c).length) := ⟨_, rfl⟩
    have st0 : st 0 = (beginS whole taken c, (spacesC c).length) := by rw [hst]; rfl
    have stS : ∀ j, j < 3 → st (j + 1) = stepS taken (st j) (3 + j) := fun j hj => by
      rw [hst]
      have : j = 0 ∨ j = 1 ∨ j = 2 := by omega
      rcases this with rfl | rfl | rfl <;> rfl
    have st3 : (st 3).2 = manyS whole taken c := by rw [hst]; rfl
    have sto : ∀ j, OkS (st j).1 := fun j => by rw [hst]; exact foldS_ok _ _ hbo
    refine ⟨Binds.name (Stores.dcellO (fun b hb => hO b (hown b hb)) (by with_unfolding_all rfl)), WS.hide fun Ψ hΨ => ?_⟩
    refine wForget _ (hV.push (by with_unfolding_all rfl)) ?_
    refine wAssignComp (cl := [("chosen", L + 2)]) [("chosen", .int (c : Nat))] (fun p => match p with | .int y => if bitC c y.toNat then some (PV.int y) else none | _ => none) (fun p => [("k", p)]) (Src.range (n := 3) C (Ev.of Ev.cint rfl) (by decide) (by with_unfolding_all rfl)) (by walk_at "cv") (by walk_at "sub") (Elts.name (by with_unfolding_all rfl) rfl ?_) (small_ok' (by rw [upto_len]; decide)) (by with_unfolding_all rfl) (by with_unfolding_all rfl) (by with_unfolding_all rfl) (by decide +kernel) (by decide +kernel) ?_
    · intro p hp hs' mu' C' D own' ys
      obtain ⟨i, hi, rfl⟩ := mem_upto hp
      have hi8 : i ≤ 8 := by omega
      exact elt_if (bitC c i) rfl (Tv.of (Tv.cmp (p := .int ((c / 2 ^ i % 2 : Nat) : Int)) (q := .int 1) (Ev.of (Ev.bin (Ev.bin (by walk_at "nm") (Ev.bin Ev.cint (by walk_at "nm") (pow_ii (Int.natCast_nonneg i) (bits_two i hi8))) (div_ii (pow2_ne i) (pow2_py i hi8 _))) Ev.cint (mod_ii (by decide))) (congrArg PV.int (bit_int c i))) (by walk_at "ev") eq_ii) (by rw [bit_test])) (by walk_at "nm")
    rw [spaces_v]
    refine wAssign (p := .lst ((beginS whole taken c).map .str)) ?_ (.loc (by with_unfolding_all rfl)) ?_
    · have hb : beginS whole taken c = leftS whole (sortC flat) := by rw [hflat]; rfl
      rw [hb]
      refine Ev.call (v := .ref 154) (Ev.glo (by assumption) (fun P => by with_unfolding_all rfl) (by with_unfolding_all rfl)) (Kept.fn C fun P => by kernel_rfl) (EvL.cons (by walk_at "nm") (EvL.cons (p := .lst ((sortC flat).map .str)) (Ev.call (v := .builtin "sorted") (Ev.blt (by assumption) (fun P => by with_unfolding_all rfl) (by decide +kernel) (by with_unfolding_all rfl)) Kept.bi (EvL.cons (p := .lst (flat.map .str)) ?_ EvL.nil) (sorted_l (by omega))) EvL.nil)) ((left_spec C hw.rise hso.rise (by have := hw.len; omega) (by have := hso.len; omega) hw.ok hso.ok).up (by decide))
      refine Ev.of (Ev.comp2 (cl := [("taken", L + 1)]) [("taken", takenV taken)] (fun p => match p with | .int y => (taken.getD y.toNat []).map PV.str | _ => []) (fun p => [("k", p)]) (Src.lst (xs := (spacesC c).map fun i => PV.int ((i : Nat) : Int)) (by walk_at "nm")) (by walk_at "cv") (by walk_at "sub") (fun p hp => look_all (V := [("taken", takenV taken)]) fun q hq => ?_) ?_ (by with_unfolding_all rfl) (by decide +kernel) (by decide +kernel)) ?_
      · rw [List.mem_singleton.mp hq]; rfl
      · intro j p hp hs' mu' C' D own' ys hys
        obtain ⟨i, hi, rfl⟩ := List.mem_map.mp (List.mem_of_getElem? hp)
        have hi3 := mem_spaces hi
        have hg := hget i (by omega)
        have hyl : ys.length ≤ 60 := by
          have h0 : (((spacesC c).take j).flatMap fun i' => (taken.getD i' []).map PV.str).length ≤ 20 * 3 := flat_len (fun i' hi' => by
            have h3 : i' < 3 := mem_spaces (c := c) (List.mem_of_mem_take hi')
            rw [List.length_map]; exact (ht _ (hget i' (by omega)).2).2) (by rw [List.length_take]; exact Nat.le_trans (Nat.min_le_right _ _) (spaces_len c))
          rw [hys, ← List.map_take, List.flatMap_map]
          exact h0
        have hil : (taken.getD i []).length ≤ 20 := (ht _ hg.2).2
        refine ⟨Binds.name (.loc (by with_unfolding_all rfl)), ?_⟩
        refine BS.mono (BS.inner (items := (taken.getD i []).map PV.str) (fun q => [("name", q)]) (fun j vars led => (∀ y q, [(("k" : Str), PV.int (i : Nat)), (("taken" : Str), takenV taken)].lookup y = some q → vars.lookup y = some q) ∧ led = [(D, .lst (ys ++ ((taken.getD i []).map PV.str).take j))]) (Src.lst (Ev.sub_l (p := takenV taken) (xs := taken.map fun l => PV.lst (l.map .str)) (i := (i : Nat)) (j := i) (by walk_at "nm") (.inl rfl) (by walk_at "nm") (seqIndex_of (by omega) (by rw [List.length_map, hl]; omega)) (by rw [List.getElem?_map, hg.1]; rfl) (by omega) (by omega))) ⟨fun _ _ e => e, by simp⟩ (fun it => compTurn_1 _ _ _ _ _ _ _ _ _ _) ?_ (by intro _; rfl)) ?_
        · rintro j' q vars led own'' hq hO' ⟨hv, rfl⟩
          obtain ⟨x, hx, rfl⟩ := List.mem_map.mp (List.mem_of_getElem? hq)
          refine ⟨Binds.name (.loc (by with_unfolding_all rfl)), ?_⟩
          refine BS.mono (BS.emit (p := .str x) (D := D) (ys := ys ++ ((taken.getD i []).map PV.str).take j') (Ev.loc (by exact lookup_self _ _ _) (by with_unfolding_all rfl)) .here ?_) ?_
          · rw [List.length_append, List.length_take]
            exact small_ok' (by rw [List.length_map]; omega)
          · rintro vars' led' ⟨rfl, rfl⟩
            refine ⟨fun y q e => ?_, ?_⟩
            · refine look_all (V := [(("k" : Str), PV.int (i : Nat)), (("taken" : Str), takenV taken)]) (P := fun y q => List.lookup y ((("name" : Str), PV.str x) :: vars) = some q) (fun z hz => ?_) y q e
              have h2 := hv z.1 z.2
              simp only [List.mem_cons, List.not_mem_nil, or_false] at hz
              rcases hz with rfl | rfl
              · exact (look_cons_ne (by dsimp only; decide)).trans (h2 rfl)
              · exact (look_cons_ne (by dsimp only; decide)).trans (h2 rfl)
            · rw [List.take_succ, hq, List.append_assoc]; rfl
        · rintro vars led ⟨hv, rfl⟩
          refine ⟨look_all (V := [("taken", takenV taken)]) fun q hq => ?_, ?_⟩
          · rw [List.mem_singleton.mp hq]
            exact hv "taken" (takenV taken) rfl
          · rw [List.take_length]; rfl
      · rw [List.flatMap_map, hflat, List.map_flatMap]; rfl
    refine wAssign (p := .int ((st 0).2 : Nat)) (Ev.of (Ev.len C (by walk_at "nm") (.inl rfl) (by rw [List.length_map]; have := spaces_len c; omega) (by with_unfolding_all rfl)) (by rw [st0, List.length_map])) (.loc (by with_unfolding_all rfl)) ?_
    refine wForget [("whole", .lst (whole.map .str)), ("taken", takenV taken), ("fewest", .int (fewS whole taken c : Nat)), ("left", .lst ((st 0).1.map .str)), ("many", .int ((st 0).2 : Nat))] ⟨by with_unfolding_all rfl, by with_unfolding_all rfl, by with_unfolding_all rfl, by rw [st0]; with_unfolding_all rfl, by with_unfolding_all rfl, trivial⟩ ?_
    refine wFor (items := [.int 3, .int 4, .int 5]) (fun p => [("k", p)]) (fun j V L' => Subv [("whole", .lst (whole.map .str)), ("taken", takenV taken), ("fewest", .int (fewS whole taken c : Nat)), ("left", .lst ((st j).1.map .str)), ("many", .int ((st j).2 : Nat))] V ∧ L' = []) (Src.tup (Ev.tup (EvL.cons Ev.cint (EvL.cons Ev.cint (EvL.cons Ev.cint EvL.nil))) (by show 3 ≤ _; decide))) ⟨by walk_at "sub", rfl⟩ ?_ ?_ (fold_tuple _ _ _ _)
    · rintro j p V L' O' hp hO' ⟨hU, rfl⟩
      have hj : j < 3 := (List.getElem?_eq_some_iff.mp hp).1
      have hpe : p = .int ((3 + j : Nat) : Int) := by
        have : j = 0 ∨ j = 1 ∨ j = 2 := by omega
        rcases this with rfl | rfl | rfl <;> (cases hp; rfl)
      subst hpe
      have hS := stS j hj
      have hlo := sto j
      generalize st j = sj at hS hlo hU
      obtain ⟨l, m⟩ := sj
      dsimp only at hU
      have hg := hget (3 + j) (by omega)
      have hro : OkS (leftS l (taken.getD (3 + j) [])) := OkS.left hlo _
      refine ⟨Binds.name (.loc (by with_unfolding_all rfl)), WS.hide fun Ψ' hΨ' => ?_⟩
      refine wForget _ (hU.push (by with_unfolding_all rfl)) ?_
      refine wAssign (p := .lst ((leftS l (taken.getD (3 + j) [])).map .str)) (Ev.of (Ev.ife' (c := false) (p := .none) (q := .lst ((leftS l (taken.getD (3 + j) [])).map .str)) (Tv.cmp (p := .lst (l.map .str)) (q := .none) (by walk_at "nm") Ev.cnone is_ln) (fun h => nomatch h) (fun _ => ?_)) rfl) (.loc (by with_unfolding_all rfl)) ?_
      · exact Ev.call (v := .ref 154) (Ev.glo (by assumption) (fun P => by with_unfolding_all rfl) (by with_unfolding_all rfl)) (Kept.fn C fun P => by kernel_rfl) (EvL.cons (by walk_at "nm") (EvL.cons (p := .lst ((taken.getD (3 + j) []).map .str)) (Ev.sub_l (p := takenV taken) (xs := taken.map fun l => PV.lst (l.map .str)) (i := ((3 + j : Nat) : Int)) (j := 3 + j) (by walk_at "nm") (.inl rfl) (by walk_at "nm") (seqIndex_of (by omega) (by rw [List.length_map, hl]; omega)) (by rw [List.getElem?_map, hg.1]; rfl) (by omega) (by omega)) EvL.nil)) ((left_spec C hlo.rise (ht _ hg.2).1.rise (Nat.le_trans hlo.len (by decide)) (by have := (ht _ hg.2).2; omega) hlo.ok (ht _ hg.2).1.ok).up (by decide))
      · have hr60 := hro.len
        have hl60 : l.length ≤ 60 := hlo.len
        refine wF (Tv.cmp (p := .lst ((leftS l (taken.getD (3 + j) [])).map .str)) (q := .none) (by walk_at "nm") Ev.cnone is_ln) (wNil ?_)
        refine wIte (b := decide (((leftS l (taken.getD (3 + j) [])).length : Int) < (l.length : Int))) (Tv.cmp (p := .int ((leftS l (taken.getD (3 + j) [])).length : Nat)) (q := .int (l.length : Nat)) (Ev.of (Ev.len C (by walk_at "nm") (.inl rfl) (by rw [List.length_map]; omega) (by with_unfolding_all rfl)) (by rw [List.length_map])) (Ev.of (Ev.len C (by walk_at "nm") (.inl rfl) (by rw [List.length_map]; omega) (by with_unfolding_all rfl)) (by rw [List.length_map])) lt_ii) (fun hb => ?_) (fun hb => wNil ?_)
        · have hlt : (leftS l (taken.getD (3 + j) [])).length < l.length := by have := of_decide_eq_true hb; omega
          refine wAug (p := .int (m : Nat)) (q := .int 1) (by with_unfolding_all rfl) (by with_unfolding_all rfl) (by walk_at "ev") iadd_ii (wNil ?_)
          refine wAssign (p := .lst ((leftS l (taken.getD (3 + j) [])).map .str)) (by walk_at "nm") (.loc (by with_unfolding_all rfl)) (wNil (hΨ' _ _ _ ⟨⟨by with_unfolding_all rfl, by with_unfolding_all rfl, by with_unfolding_all rfl, by rw [hS]; with_unfolding_all rfl, ?_, trivial⟩, rfl⟩))
          have e : (stepS taken (l, m) (3 + j)).2 = m + 1 := if_pos hlt
          rw [hS, e]; with_unfolding_all rfl
        · have hlt : ¬ (leftS l (taken.getD (3 + j) [])).length < l.length := by have := of_decide_eq_false hb; omega
          refine wAssign (p := .lst ((leftS l (taken.getD (3 + j) [])).map .str)) (by walk_at "nm") (.loc (by with_unfolding_all rfl)) (wNil (hΨ' _ _ _ ⟨⟨by with_unfolding_all rfl, by with_unfolding_all rfl, by with_unfolding_all rfl, by rw [hS]; with_unfolding_all rfl, ?_, trivial⟩, rfl⟩))
          have e : (stepS taken (l, m) (3 + j)).2 = m := if_neg hlt
          rw [hS, e]; with_unfolding_all rfl
    · rintro V L' ⟨hU, rfl⟩
      refine wForget [("whole", .lst (whole.map .str)), ("taken", takenV taken), ("fewest", .int (fewS whole taken c : Nat)), ("many", .int ((st 3).2 : Nat))] ⟨hU.look _ _ (by with_unfolding_all rfl), hU.look _ _ (by with_unfolding_all rfl), hU.look _ _ (by with_unfolding_all rfl), hU.look _ _ (by with_unfolding_all rfl), trivial⟩ ?_
      refine wAssign (p := .int (fewS whole taken (c + 1) : Nat)) (Ev.of (Ev.call (v := .builtin "min") (Ev.blt (by assumption) (fun P => by with_unfolding_all rfl) (by decide +kernel) (by with_unfolding_all rfl)) Kept.bi (EvL.cons (by walk_at "nm") (EvL.cons (by walk_at "nm") EvL.nil)) min_two) ?_) (.loc (by with_unfolding_all rfl)) (wNil (hΨ _ _ _ ⟨by walk_at "sub", rfl⟩))
      rw [fews, ← st3]
      refine congrArg PV.int ?_
      split <;> omega
  · rintro V L' ⟨hV, rfl⟩
    refine wForget [("fewest", .int (fewS whole taken 8 : Nat))] ⟨hV.look _ _ (by with_unfolding_all rfl), trivial⟩ ?_
    exact wRet (by walk_at "nm") ⟨_, rfl, .same⟩
end
section
variable {X : Wd} {k : Nat} {f : FS}
theorem add_ll {xs ys : List PV} (hz : xs.length + ys.length ≤ 1000) : Op2 X k (.lst xs) (.lst ys) (binaryOp .Add) (.lst (xs ++ ys)) := by
  intro A s mu v w Q R S hv hw hQ
  obtain ⟨a, ⟨cls, dd, data, sl⟩, vs, n, rfl, hm, h1, h2, h3, h4⟩ := hv
  obtain ⟨b, ⟨cls2, dd2, data2, sl2⟩, vs', n', rfl, hm', h1', h2', h3', h4'⟩ := hw
  simp only at h2 h3 h2' h3'
  subst h2 h3 h2' h3'
  refine concat_meets ⟨_, h1, rfl⟩ ⟨_, h1', rfl⟩ noFill_list_add seq_list_add PySem.F.slot_list_add PySem.F.entry_list_add (PySem.F.args_list_add_2 _ _) (list_addW a b vs vs' n n' dd dd2 sl sl2 (by rw [h4.size, h4'.size]; exact Nat.le_trans hz (by decide))) ⟨h1, h1', ?_⟩
  have G : Grow X s { s with heap := s.heap.push { cls := .type "list", data := .seq (vs ++ vs') } } := .push S.live
  refine hQ _ _ G ⟨_, _, _, _, rfl, S.new, Heap.get?_push_size _ rfl, rfl, rfl, ?_⟩
  rw [Array.toList_append]
  exact (h4.append h4').grow S.mtab G
/-- a list of one's own is told as what it holds: nothing turns it any more -/
theorem FS.Ok.freeze {s : Shared} {x : Str} {a : Addr} {ys : List PV} {V : List (Str × PV)} {Ld : List (Addr × MO)} (F : (f.upd ((x, .raw (.ref a)) :: V) ((a, .lst ys) :: Ld)).Ok X s) (hl : f.env.kindOf x = some .local) : (f.upd ((x, .lst ys) :: V) Ld).Ok X s := by
  have hsub : ∀ b, FS.mu' (f.upd ((x, .lst ys) :: V) Ld) b → FS.mu' (f.upd ((x, .raw (.ref a)) :: V) ((a, .lst ys) :: Ld)) b := fun b hb => by
    rcases hb with h | h | h
    · exact .inl h
    · exact .inr (.inl h)
    · exact .inr (.inr (.tail _ h))
  have tr : ∀ {p v}, Rd s.heap (FS.mu' (f.upd ((x, .raw (.ref a)) :: V) ((a, .lst ys) :: Ld))) p v → Rd s.heap (FS.mu' (f.upd ((x, .lst ys) :: V) Ld)) p v := fun q => q.weak fun b hb => .inl (hsub b hb)
  have trL : ∀ {p v}, RdL s.heap (FS.mu' (f.upd ((x, .raw (.ref a)) :: V) ((a, .lst ys) :: Ld))) p v → RdL s.heap (FS.mu' (f.upd ((x, .lst ys) :: V) Ld)) p v := fun q => q.weak fun b hb => .inl (hsub b hb)
  have ap : (f.own ++ (a :: Ld.map (·.1))).Nodup := F.apart
  have ap' := List.nodup_append.mp ap
  have hna : ¬ FS.mu' (f.upd ((x, .lst ys) :: V) Ld) a := fun hb => by
    rcases hb with h | h | h
    · exact Nat.lt_irrefl _ (Nat.lt_of_lt_of_le (F.muLt a h) (F.fresh a (List.mem_append_right _ (.head _))).1)
    · exact ap'.2.2 a h a (.head _) rfl
    · exact (List.nodup_cons.mp ap'.2.1).1 h
  exact {
    grow := F.grow, muLt := F.muLt, mu33 := F.mu33, mu85 := F.mu85, mfr := F.mfr, locs := F.locs, kind := F.kind, glob := F.glob, blt := F.blt, hlow := F.hlow
    apart := by
      show (f.own ++ Ld.map (·.1)).Nodup
      exact List.nodup_append.mpr ⟨ap'.1, (List.nodup_cons.mp ap'.2.1).2, fun b hb c hc e => ap'.2.2 b hb c (.tail _ hc) e⟩
    fresh := fun b hb => F.fresh b ((List.mem_append.mp hb).elim (List.mem_append_left _) fun h => List.mem_append_right _ (.tail _ h))
    ns := by
      obtain ⟨m, hn, hv⟩ := F.ns
      refine ⟨m, hn, fun y q hy hk => ?_⟩
      have hy' : ((x, .lst ys) :: V).lookup y = some q := hy
      rw [List.lookup_cons] at hy'
      by_cases e : y = x
      · subst e
        rw [beq_self_eq_true] at hy'
        cases hy'
        obtain ⟨w, h1, h2⟩ := hv y (.raw (.ref a)) (by show ((y, PV.raw (.ref a)) :: V).lookup y = _; rw [List.lookup_cons, beq_self_eq_true]) hk
        rw [show w = .ref a from h2] at h1
        obtain ⟨o, vs, n, g1, g2, g3, g4⟩ := F.led a (.lst ys) (.head _)
        exact ⟨_, h1, a, o, vs, n, rfl, hna, g1, g2.1, g3, trL g4⟩
      · rw [beq_eq_false_iff_ne.mpr e] at hy'
        obtain ⟨w, h1, h2⟩ := hv y q (by show ((x, PV.raw (.ref a)) :: V).lookup y = _; rw [List.lookup_cons, beq_eq_false_iff_ne.mpr e]; exact hy') hk
        exact ⟨w, h1, tr h2⟩
    cell := fun y q hy hk => by
      have hy' : ((x, .lst ys) :: V).lookup y = some q := hy
      rw [List.lookup_cons] at hy'
      have e : y ≠ x := fun e => hk (e ▸ hl)
      rw [beq_eq_false_iff_ne.mpr e] at hy'
      obtain ⟨c, v, h1, h2, h3⟩ := F.cell y q (by show ((x, PV.raw (.ref a)) :: V).lookup y = _; rw [List.lookup_cons, beq_eq_false_iff_ne.mpr e]; exact hy') hk
      exact ⟨c, v, h1, h2, tr h3⟩
    led := fun b mo hb => by
      have := F.led b mo (.tail _ hb)
      cases mo with
      | lst zs => obtain ⟨o, vs, n, e, h2, h3, h4⟩ := this; exact ⟨o, vs, n, e, h2, h3, trL h4⟩
      | obj o => exact this
    solid := fun b hb => F.solid b ((List.mem_append.mp hb).elim (List.mem_append_left _) fun h => List.mem_append_right _ (.tail _ h))
    cellv := F.cellv }
theorem WS.freeze {x : Str} {a : Addr} {ys : List PV} {V : List (Str × PV)} {Ld : List (Addr × MO)} {st : List Stmt} {Ψ} (hl : f.env.kindOf x = some .local) (h : WS X k (f.upd ((x, .lst ys) :: V) Ld) st Ψ) : WS X k (f.upd ((x, .raw (.ref a)) :: V) ((a, .lst ys) :: Ld)) st Ψ := by
  intro A s Q R F hQ
  refine h A s Q R (F.freeze hl) fun fl vars led g s' hp F' S' hg => hQ fl vars led g s' hp F' ⟨fun b o h1 h2 h3 e => S'.keep b o h1 (fun q => h2 (.tail _ q)) h3 e, S'.mu, fun b hb => (S'.led b hb).imp (fun q => .tail _ q) id, S'.own, S'.solid⟩ hg
end
section
variable {X : Wd} {k : Nat} {f : FS}
/-- the two signs of a turn, and which way the third namespace is written -/
structure Sg where
  a : Nat
  b : Nat
  fl : Bool
  ab : a ≠ b
  a1 : a ≠ 123
  a2 : a ≠ 125
  a3 : a ≠ 42
  b1 : b ≠ 123
  b2 : b ≠ 125
  az : a < 0x110000
  bz : b < 0x110000
noncomputable def Sg.sp2 (g : Sg) : List Nat := if g.fl then [g.b, g.a] else [g.a, g.b]
noncomputable def Sg.sp (g : Sg) (k : Nat) : List Nat := match k with | 0 => [] | 1 => [g.a] | _ => g.sp2
noncomputable def Sg.en (g : Sg) (c : Nat) : List Nat := match c with | 0 => [g.a] | 1 => [g.a, g.b] | _ => [g.b, g.a]
noncomputable def Sg.hd (g : Sg) (h : Nat) : List Nat := match h with | 0 => [] | 1 => [123, g.a, 125] | _ => 123 :: g.sp2 ++ [125]
noncomputable def Sg.nm (g : Sg) (p : Nat) : List Nat := g.hd (p / 3) ++ g.en (p % 3)
noncomputable def Sg.q (g : Sg) (k : Nat) (l : List Nat) : Bool := match k with
  | 0 => l.head? != some 123
  | 1 => l.take 3 == [123, g.a, 125]
  | 2 => l.take 4 == 123 :: g.sp2 ++ [125]
  | k + 3 => l == g.en k || l.drop (l.length - ((g.en k).length + 1)) == 125 :: g.en k
noncomputable def inK (k p : Nat) : Bool := k == p / 3 || k == p % 3 + 3
theorem six {k : Nat} (h : k < 6) : k = 0 ∨ k = 1 ∨ k = 2 ∨ k = 3 ∨ k = 4 ∨ k = 5 :=
  (by decide : ∀ k, k < 6 → k = 0 ∨ k = 1 ∨ k = 2 ∨ k = 3 ∨ k = 4 ∨ k = 5) k h
/-- the names by places: (false, false) the first sign, (false, true) the second, (true, false) the brace, (true, true) the closing brace -/
noncomputable abbrev Ch := Bool × Bool
noncomputable def Sg.den (g : Sg) (c : Ch) : Nat := bif c.1 then (bif c.2 then 125 else 123) else (bif c.2 then g.b else g.a)
theorem Sg.den_inj (g : Sg) : ∀ c d : Ch, g.den c = g.den d → c = d := by
  rintro ⟨_ | _, _ | _⟩ ⟨_ | _, _ | _⟩ h <;> first
    | rfl | exact absurd h g.ab | exact absurd h.symm g.ab | exact absurd h g.a1 | exact absurd h.symm g.a1 | exact absurd h g.a2 | exact absurd h.symm g.a2
    | exact absurd h g.b1 | exact absurd h.symm g.b1 | exact absurd h g.b2 | exact absurd h.symm g.b2 | exact absurd h (show (123 : Nat) ≠ 125 by decide) | exact absurd h (show (125 : Nat) ≠ 123 by decide)
noncomputable def spC (fl : Bool) : List Ch := if fl then [(false, true), (false, false)] else [(false, false), (false, true)]
noncomputable def enC (c : Nat) : List Ch := match c with | 0 => [(false, false)] | 1 => [(false, false), (false, true)] | _ => [(false, true), (false, false)]
noncomputable def hdC (fl : Bool) (h : Nat) : List Ch := match h with | 0 => [] | 1 => [(true, false), (false, false), (true, true)] | _ => (true, false) :: spC fl ++ [(true, true)]
noncomputable def nmC (fl : Bool) (p : Nat) : List Ch := hdC fl (p / 3) ++ enC (p % 3)
theorem Sg.sp2_map (g : Sg) : g.sp2 = (spC g.fl).map g.den := by unfold Sg.sp2 spC; split <;> rfl
theorem Sg.en_map (g : Sg) : ∀ c, g.en c = (enC c).map g.den
  | 0 => rfl | 1 => rfl | _ + 2 => rfl
theorem Sg.hd2_map (g : Sg) : 123 :: g.sp2 ++ [125] = ((true, false) :: spC g.fl ++ [(true, true)]).map g.den := by rw [g.sp2_map, List.map_append, List.map_cons]; rfl
theorem Sg.hd_map (g : Sg) : ∀ h, g.hd h = (hdC g.fl h).map g.den
  | 0 => rfl | 1 => rfl | _ + 2 => g.hd2_map
theorem Sg.nm_map (g : Sg) (p : Nat) : g.nm p = (nmC g.fl p).map g.den := by unfold Sg.nm nmC; rw [g.hd_map, g.en_map, List.map_append]
theorem Sg.map_beq (g : Sg) (l m : List Ch) : (l.map g.den == m.map g.den) = (l == m) := by
  rw [Bool.eq_iff_iff, beq_iff_eq, beq_iff_eq, List.map_inj_right g.den_inj]
theorem Sg.head_map (g : Sg) (c : Ch) : (g.den c != 123) = (c != (true, false)) := by
  rw [Bool.eq_iff_iff, bne_iff_ne, bne_iff_ne]
  exact not_congr ⟨g.den_inj c (true, false), fun h => by rw [h]; rfl⟩
noncomputable def qC (fl : Bool) (k : Nat) (l : List Ch) : Bool := match k with
  | 0 => l.head? != some (true, false)
  | 1 => l.take 3 == [(true, false), (false, false), (true, true)]
  | 2 => l.take 4 == (true, false) :: spC fl ++ [(true, true)]
  | k + 3 => l == enC k || l.drop (l.length - ((enC k).length + 1)) == (true, true) :: enC k
theorem Sg.q_map (g : Sg) (l : List Ch) : ∀ k, g.q k (l.map g.den) = qC g.fl k l
  | 0 => by
    cases l with
    | nil => rfl
    | cons c l => exact g.head_map c
  | 1 => by show ((l.map g.den).take 3 == [(true, false), (false, false), (true, true)].map g.den) = _; rw [← List.map_take, g.map_beq]; rfl
  | 2 => by show ((l.map g.den).take 4 == 123 :: g.sp2 ++ [125]) = _; rw [g.hd2_map, ← List.map_take, g.map_beq]; rfl
  | k + 3 => by
    show (l.map g.den == g.en k || (l.map g.den).drop ((l.map g.den).length - ((g.en k).length + 1)) == 125 :: g.en k) = _
    rw [g.en_map, List.length_map, List.length_map, ← List.map_drop, g.map_beq, show 125 :: (enC k).map g.den = ((true, true) :: enC k).map g.den from rfl, g.map_beq]; rfl
theorem q_all : ∀ fl : Bool, ∀ k, k < 6 → ∀ p, p < 9 → qC fl k (nmC fl p) = inK k p := by decide +kernel
theorem nm_all : ∀ fl : Bool, ∀ p, p < 9 → ∀ p', p' < 9 → nmC fl p = nmC fl p' → p = p' := by decide +kernel
theorem Sg.q_eq (g : Sg) {k p : Nat} (hk : k < 6) (hp : p < 9) : g.q k (g.nm p) = inK k p := by rw [g.nm_map, g.q_map]; exact q_all _ k hk p hp
theorem Sg.inj (g : Sg) {p p' : Nat} (hp : p < 9) (hp' : p' < 9) (h : g.nm p = g.nm p') : p = p' := by
  rw [g.nm_map, g.nm_map, List.map_inj_right g.den_inj] at h
  exact nm_all _ p hp p' hp' h
end
section
variable {X : Wd} {k : Nat} {f : FS}
theorem suf_dec (l x : List Nat) : decide (l <:+ x) = (x.drop (x.length - l.length) == l) := by
  rw [Bool.eq_iff_iff, decide_eq_true_iff, beq_iff_eq, List.suffix_iff_eq_drop]
  exact eq_comm
noncomputable def Sg.tk (g : Sg) (k : Nat) (x : List Nat) : Int := match k with
  | 0 => b01 (match x with | [] => false | c :: _ => c != 123)
  | 1 => b01 (decide ([123, g.a, 125] <+: x))
  | 2 => b01 (decide (123 :: g.sp2 ++ [125] <+: x))
  | k + 3 => b01 (decide (x = g.en k)) + b01 (decide (125 :: g.en k <:+ x))
theorem Sg.pre_map (g : Sg) (l x : List Ch) : decide (l.map g.den <+: x.map g.den) = (l == x.take l.length) := by
  rw [Bool.eq_iff_iff, decide_eq_true_iff, beq_iff_eq, List.prefix_iff_eq_take, List.length_map, ← List.map_take, List.map_inj_right g.den_inj]
noncomputable def tkC (fl : Bool) (k : Nat) (x : List Ch) : Int := match k with
  | 0 => b01 (match x with | [] => false | c :: _ => c != (true, false))
  | 1 => b01 ([(true, false), (false, false), (true, true)] == x.take 3)
  | 2 => b01 ((true, false) :: spC fl ++ [(true, true)] == x.take ((true, false) :: spC fl ++ [(true, true)]).length)
  | k + 3 => b01 (x == enC k) + b01 (x.drop (x.length - ((enC k).length + 1)) == (true, true) :: enC k)
theorem Sg.tk_map (g : Sg) (x : List Ch) : ∀ k, g.tk k (x.map g.den) = tkC g.fl k x
  | 0 => by
    cases x with
    | nil => rfl
    | cons c x => exact congrArg b01 (g.head_map c)
  | 1 => congrArg b01 (g.pre_map [(true, false), (false, false), (true, true)] x)
  | 2 => by
    refine congrArg b01 ?_
    rw [g.hd2_map]
    exact g.pre_map _ x
  | k + 3 => by
    show b01 (decide (x.map g.den = g.en k)) + b01 (decide (125 :: g.en k <:+ x.map g.den)) = _
    rw [suf_dec, g.en_map, List.length_map, List.length_cons, List.length_map, ← List.map_drop, show 125 :: (enC k).map g.den = ((true, true) :: enC k).map g.den from rfl, g.map_beq,
      show decide (x.map g.den = (enC k).map g.den) = (x == enC k) from by rw [Bool.eq_iff_iff, decide_eq_true_iff, beq_iff_eq, List.map_inj_right g.den_inj]]
    rfl
theorem tk_all : ∀ fl : Bool, ∀ k, k < 6 → ∀ p, p < 9 → tkC fl k (nmC fl p) = if inK k p then 1 else 0 := by decide +kernel
theorem Sg.tk_eq (g : Sg) {k p : Nat} (hk : k < 6) (hp : p < 9) : g.tk k (g.nm p) = if inK k p then 1 else 0 := by rw [g.nm_map, g.tk_map]; exact tk_all _ k hk p hp
end
section
variable {X : Wd} {k : Nat} {f : FS}
noncomputable def mkPat (pre : List PT) (tail : Option (List PT)) : Pat := ⟨mkS ((ptoks pre tail).flatMap PT.render), pre, tail⟩
theorem flat4 {α β : Type} {n : Nat} {l : List α} {g : α → List β} (h : ∀ i ∈ l, (g i).length ≤ n) : (l.flatMap g).length ≤ n * l.length := by
  induction l with
  | nil => exact Nat.zero_le _
  | cons a l ih =>
    rw [List.flatMap_cons, List.length_append, List.length_cons, Nat.mul_succ]
    have h1 := h a (.head _)
    have h2 := ih fun i hi => h i (.tail _ hi)
    omega
theorem mkPat_ok {pre : List PT} {tail : Option (List PT)} (hok : ∀ t ∈ ptoks pre tail, t.ok) (hz : ∀ t ∈ ptoks pre tail, t.item.2 < 0x110000) (hp : pstars pre = 0) (ht : pstars (tail.getD []) = 0) (h1 : pre.length ≤ 20) (h2 : (tail.getD []).length ≤ 20) : (mkPat pre tail).Ok := by
  have hn : (ptoks pre tail).length ≤ 41 := by
    unfold ptoks
    cases tail with
    | none => simp; omega
    | some q => simp at h2 ⊢; omega
  have hr : ∀ t ∈ ptoks pre tail, (PT.render t).length ≤ 4 := fun t _ => by cases t <;> simp [PT.render]; split <;> simp
  have hr2 : ∀ t ∈ (ptoks pre tail).map PT.tk, (TK.render t).length ≤ 5 := fun t _ => by
    cases t with
    | star => simp [TK.render]
    | lit c e => cases e <;> simp [TK.render]
    | cls b c e => cases b <;> cases e <;> simp [TK.render]
  have hparts : ∀ q ∈ (mkPat pre tail).parts, ∃ l : List PT, q = l.map PT.item ∧ l.length ≤ 20 ∧ ∀ t ∈ l, t ∈ ptoks pre tail := fun q hq => by
    rcases List.mem_cons.mp hq with rfl | hq
    · exact ⟨pre, rfl, h1, fun t h => List.mem_append_left _ h⟩
    · cases tail with
      | none => cases hq
      | some po =>
        rw [List.mem_singleton.mp hq]
        exact ⟨po, rfl, h2, fun t h => List.mem_append_right _ (.tail _ h)⟩
  refine ⟨rfl, hok, hp, ht, ?_, ?_, ?_, fun q hq => ?_, fun q hq it hi => ?_, List.cons_ne_nil _ _⟩
  · show (mkS _).length ≤ _
    rw [mkS_len]
    have := flat4 hr
    omega
  · show (joinC (pre.map PT.str) (tail.map (·.map PT.str))).length ≤ _
    rw [show (joinC (pre.map PT.str) (tail.map (·.map PT.str))).length = (joinC (pre.map PT.str) (tail.map (·.map PT.str))).cps.toList.length from by simp [Str.length], joinC_cps pre tail hok hp ht]
    have := flat4 hr2
    rw [List.length_map] at this
    simp only [List.length_append, List.length_cons, List.length_nil]
    omega
  · show (readParts pre tail).length ≤ _
    cases tail <;> (show _ ≤ 1000; simp [readParts])
  · obtain ⟨l, rfl, hl, _⟩ := hparts q hq
    rw [List.length_map]; omega
  · obtain ⟨l, rfl, _, hm⟩ := hparts q hq
    obtain ⟨t, htl, rfl⟩ := List.mem_map.mp hi
    exact hz t (hm t htl)
noncomputable def patW (l : List Nat) : Pat := mkPat (l.map wtok) none
noncomputable def patF (l : List Nat) : Pat := mkPat (.lit 123 :: l.map wtok ++ [.lit 125]) (some [])
noncomputable def patL (l : List Nat) : Pat := mkPat [] (some (.lit 125 :: l.map wtok))
noncomputable def patB : Pat := mkPat [.br true 123] (some [])
noncomputable def patA : Pat := mkPat [] (some [])
theorem wtok_good {l : List Nat} (hl : ∀ c ∈ l, c < 0x110000) : ∀ t ∈ l.map wtok, t.ok ∧ t.item.2 < 0x110000 := fun t ht => by
  obtain ⟨c, hc, rfl⟩ := List.mem_map.mp ht
  exact ⟨wtok_ok c, by rw [wtok_item]; exact hl c hc⟩
theorem lit_ok {c : Nat} (h : c = 123 ∨ c = 125) : (PT.lit c).ok ∧ (PT.lit c).item.2 < 0x110000 := by
  rcases h with rfl | rfl <;> exact ⟨by show _ ∧ _ ∧ _; decide, by decide⟩
theorem patW_ok {l : List Nat} (hl : ∀ c ∈ l, c < 0x110000) (hn : l.length ≤ 10) : (patW l).Ok := by
  have e : ptoks (l.map wtok) none = l.map wtok := List.append_nil _
  exact mkPat_ok (fun t h => (wtok_good hl t (by rwa [e] at h)).1) (fun t h => (wtok_good hl t (by rwa [e] at h)).2) (wtok_stars l) rfl (by rw [List.length_map]; omega) (Nat.zero_le _)
theorem patF_ok {l : List Nat} (hl : ∀ c ∈ l, c < 0x110000) (hn : l.length ≤ 10) : (patF l).Ok := by
  have hg : ∀ t ∈ ptoks (.lit 123 :: l.map wtok ++ [.lit 125]) (some []), t.ok ∧ t.item.2 < 0x110000 := fun t h => by
    rcases List.mem_append.mp h with h | h
    · rcases List.mem_cons.mp (show t ∈ PT.lit 123 :: (l.map wtok ++ [.lit 125]) from h) with rfl | h
      · exact lit_ok (.inl rfl)
      · rcases List.mem_append.mp h with h | h
        · exact wtok_good hl t h
        · rw [List.mem_singleton.mp h]; exact lit_ok (.inr rfl)
    · rw [List.mem_singleton.mp h]; exact ⟨trivial, by decide⟩
  refine mkPat_ok (fun t h => (hg t h).1) (fun t h => (hg t h).2) ?_ rfl (by simp; omega) (Nat.zero_le _)
  rw [show (PT.lit 123 :: l.map wtok ++ [.lit 125] : List PT) = [.lit 123] ++ (l.map wtok ++ [.lit 125]) from rfl, pstars_app, pstars_app, wtok_stars]; rfl
theorem patL_ok {l : List Nat} (hl : ∀ c ∈ l, c < 0x110000) (hn : l.length ≤ 10) : (patL l).Ok := by
  have hg : ∀ t ∈ ptoks [] (some (.lit 125 :: l.map wtok)), t.ok ∧ t.item.2 < 0x110000 := fun t h => by
    rcases List.mem_cons.mp (show t ∈ PT.star :: .lit 125 :: l.map wtok from h) with rfl | h
    · exact ⟨trivial, by decide⟩
    · rcases List.mem_cons.mp h with rfl | h
      · exact lit_ok (.inr rfl)
      · exact wtok_good hl t h
  refine mkPat_ok (fun t h => (hg t h).1) (fun t h => (hg t h).2) rfl ?_ (Nat.zero_le _) (by simp; omega)
  show pstars ([.lit 125] ++ l.map wtok) = 0
  rw [pstars_app, wtok_stars]; rfl
theorem patB_ok : patB.Ok := by
  have hg : ∀ t ∈ ptoks [.br true 123] (some []), t.ok ∧ t.item.2 < 0x110000 := fun t h => by
    rcases List.mem_cons.mp (show t ∈ PT.br true 123 :: [.star] from h) with rfl | h
    · exact ⟨.inr ⟨rfl, rfl⟩, by decide⟩
    · rw [List.mem_singleton.mp h]; exact ⟨trivial, by decide⟩
  exact mkPat_ok (fun t h => (hg t h).1) (fun t h => (hg t h).2) rfl rfl (by decide) (by decide)
theorem patA_ok : patA.Ok := by
  have hg : ∀ t ∈ ptoks [] (some []), t.ok ∧ t.item.2 < 0x110000 := fun t h => by
    rw [List.mem_singleton.mp (show t ∈ [PT.star] from h)]; exact ⟨trivial, by decide⟩
  exact mkPat_ok (fun t h => (hg t h).1) (fun t h => (hg t h).2) rfl rfl (by decide) (by decide)
theorem patW_takes (l x : List Nat) : takesC (patW l).parts x = decide (x = l) := by
  show takesC [(l.map wtok).map PT.item] x = _
  rw [wtok_items]; exact takes_whole l x
theorem patF_takes (l x : List Nat) : takesC (patF l).parts x = decide (123 :: l ++ [125] <+: x) := by
  have e : (PT.lit 123 :: l.map wtok ++ [.lit 125] : List PT).map PT.item = (123 :: l ++ [125]).map fun c => (false, c) := by
    rw [List.cons_append, List.map_cons, List.map_append, wtok_items]; simp [PT.item]
  show takesC [(PT.lit 123 :: l.map wtok ++ [.lit 125] : List PT).map PT.item, []] x = _
  rw [e]; exact takes_front _ x
theorem patL_takes (l x : List Nat) : takesC (patL l).parts x = decide (125 :: l <:+ x) := by
  have e : (PT.lit 125 :: l.map wtok : List PT).map PT.item = (125 :: l).map fun c => (false, c) := by
    rw [List.map_cons, wtok_items]; simp [PT.item]
  show takesC [[], (PT.lit 125 :: l.map wtok : List PT).map PT.item] x = _
  rw [e]; exact takes_last _ x
theorem patB_takes (x : List Nat) : takesC patB.parts x = (match x with | [] => false | c :: _ => c != 123) := takes_barred 123 x
theorem patA_takes (x : List Nat) : takesC patA.parts x = true := takes_all x
/-- the patterns of a wildcard -/
noncomputable def Sg.pats (g : Sg) (k : Nat) : List Pat := match k with
  | 0 => [patB]
  | 1 => [patF [g.a]]
  | 2 => [patF g.sp2]
  | k + 3 => [patW (g.en k), patL (g.en k)]
theorem Sg.en_lt (g : Sg) (c : Nat) : (∀ x ∈ g.en c, x < 0x110000) ∧ (g.en c).length ≤ 10 ∧ (∀ x ∈ g.en c, x ≠ 123 ∧ x ≠ 125) ∧ 1 ≤ (g.en c).length := by
  obtain ⟨a, b, fl, ab, a1, a2, a3, b1, b2, az, bz⟩ := g
  rcases c with _ | _ | c <;> simp [Sg.en, *]
theorem Sg.sp2_lt (g : Sg) : (∀ x ∈ g.sp2, x < 0x110000) ∧ g.sp2.length ≤ 10 := by
  obtain ⟨a, b, fl, ab, a1, a2, a3, b1, b2, az, bz⟩ := g
  cases fl <;> simp [Sg.sp2, *]
theorem Sg.pats_ok (g : Sg) (k : Nat) : ∀ u ∈ g.pats k, u.Ok := by
  intro u hu
  rcases k with _ | _ | _ | k
  · rw [List.mem_singleton.mp hu]; exact patB_ok
  · rw [List.mem_singleton.mp hu]; exact patF_ok (by intro c hc; rw [List.mem_singleton.mp hc]; exact g.az) (by show 1 ≤ 10; decide)
  · rw [List.mem_singleton.mp hu]; exact patF_ok g.sp2_lt.1 g.sp2_lt.2
  · have h := g.en_lt k
    rcases List.mem_cons.mp hu with rfl | hu
    · exact patW_ok h.1 h.2.1
    · rw [List.mem_singleton.mp hu]; exact patL_ok h.1 h.2.1
theorem Sg.pats_takes (g : Sg) (k : Nat) (x : List Nat) : (((g.pats k).map fun u => takesC u.parts x).map b01).sum = g.tk k x := by
  rcases k with _ | _ | _ | k
  · show b01 (takesC patB.parts x) + 0 = _
    rw [patB_takes, Int.add_zero]; rfl
  · show b01 (takesC (patF [g.a]).parts x) + 0 = _
    rw [patF_takes, Int.add_zero]; rfl
  · show b01 (takesC (patF g.sp2).parts x) + 0 = _
    rw [patF_takes, Int.add_zero]; rfl
  · show b01 (takesC (patW (g.en k)).parts x) + (b01 (takesC (patL (g.en k)).parts x) + 0) = _
    rw [patW_takes, patL_takes, Int.add_zero]; rfl
end
section
variable {X : Wd} {k : Nat} {f : FS}
noncomputable def Sg.nmS (g : Sg) (p : Nat) : Str := mkS (g.nm p)
theorem mkS_inj {a b : List Nat} (h : mkS a = mkS b) : a = b := by injection h with h; simpa using h
theorem Sg.nmS_inj (g : Sg) {p p' : Nat} (hp : p < 9) (hp' : p' < 9) (h : g.nmS p = g.nmS p') : p = p' := g.inj hp hp' (mkS_inj h)
theorem Sg.has (g : Sg) {S : List Nat} {tk : List Str} (hS : ∀ p ∈ S, p < 9) (h : tk.Perm (S.map g.nmS)) {p : Nat} (hp : p < 9) : tk.contains (g.nmS p) = S.contains p := by
  rw [Bool.eq_iff_iff, List.contains_iff_mem, List.contains_iff_mem, h.mem_iff, List.mem_map]
  exact ⟨fun ⟨q, hq, e⟩ => g.nmS_inj (hS q hq) hp e ▸ hq, fun hm => ⟨p, hm, rfl⟩⟩
theorem Sg.left_perm (g : Sg) {R : List Nat} {l tk : List Str} {b : Nat → Bool} (hR : ∀ p ∈ R, p < 9) (hl : l.Perm (R.map g.nmS)) (hb : ∀ p ∈ R, tk.contains (g.nmS p) = b p) : (leftS l tk).Perm ((R.filter fun p => !b p).map g.nmS) := by
  unfold leftS
  refine (hl.filter _).trans ?_
  rw [List.filter_map]
  refine List.Perm.of_eq (congrArg _ (List.filter_congr fun p hp => ?_))
  show (!tk.contains (g.nmS p)) = !b p
  rw [hb p hp]
theorem inK_hi {p j : Nat} (hp : p < 9) : inK (3 + j) p = (p % 3 == j) := by
  unfold inK
  have h1 : (3 + j == p / 3) = false := beq_eq_false_iff_ne.mpr (by omega)
  rw [h1, Bool.false_or, Bool.eq_iff_iff, beq_iff_eq, beq_iff_eq]
  omega
theorem inK_lo {p i : Nat} (hi : i < 3) : inK i p = (i == p / 3) := by
  unfold inK
  have h1 : (i == p % 3 + 3) = false := beq_eq_false_iff_ne.mpr (by omega)
  rw [h1, Bool.or_false]
theorem filter_has {l : List Nat} {b : Nat → Bool} {p : Nat} (hp : p ∈ l) : (l.filter b).contains p = b p := by
  rw [Bool.eq_iff_iff, List.contains_iff_mem, List.mem_filter]
  exact ⟨fun h => h.2, fun h => ⟨hp, h⟩⟩
theorem rest_sub {t ch : Nat} : ∀ c, ∀ p ∈ restC t ch c, p ∈ placesC t
  | 0, p, h => (List.mem_filter.mp h).1
  | c + 1, p, h => rest_sub c p (List.mem_filter.mp h).1
theorem many_koenig (g : Sg) {t ch : Nat} (ht : t < 512) (hch : ch < 8) {whole : List Str} {taken : List (List Str)} (hw : whole.Perm ((placesC t).map g.nmS)) (htk : ∀ k < 6, (taken.getD k []).Perm (((placesC t).filter (inK k)).map g.nmS)) :
    manyS whole taken ch = manyC t ch := by
  have hP : ∀ p ∈ placesC t, p < 9 := fun p h => (places_lt h).1
  have h0 : (beginS whole taken ch).Perm ((restC t ch 0).map g.nmS) := by
    refine g.left_perm hP hw fun p hp => ?_
    rw [Bool.eq_iff_iff, List.contains_iff_mem, (sortC_perm _).mem_iff, List.mem_flatMap]
    constructor
    · rintro ⟨i, hi, hm⟩
      have hi3 := mem_spaces hi
      have := g.has (S := (placesC t).filter (inK i)) (fun q hq => hP q (List.mem_filter.mp hq).1) (htk i (by omega)) (hP p hp)
      rw [List.contains_iff_mem.mpr hm] at this
      rw [filter_has hp, inK_lo hi3] at this
      rw [← beq_iff_eq.mp this.symm]
      exact (List.mem_filter.mp hi).2
    · intro hb
      have hp3 : p / 3 < 3 := by have := hP p hp; omega
      refine ⟨p / 3, List.mem_filter.mpr ⟨List.mem_range.mpr hp3, hb⟩, ?_⟩
      have := g.has (S := (placesC t).filter (inK (p / 3))) (fun q hq => hP q (List.mem_filter.mp hq).1) (htk (p / 3) (by omega)) (hP p hp)
      rw [filter_has hp, inK_lo hp3, beq_self_eq_true] at this
      exact List.contains_iff_mem.mp this
  have hS : ∀ c, c < 3 → ∀ l : List Str, l.Perm ((restC t ch c).map g.nmS) → (leftS l (taken.getD (3 + c) [])).Perm ((restC t ch (c + 1)).map g.nmS) := fun c hc l hl => by
    refine g.left_perm (b := fun p => p % 3 == c) (fun p hp => hP p (rest_sub c p hp)) hl fun p hp => ?_
    have hp' := rest_sub c p hp
    rw [g.has (S := (placesC t).filter (inK (3 + c))) (fun q hq => hP q (List.mem_filter.mp hq).1) (htk (3 + c) (by omega)) (hP p hp'), filter_has hp', inK_hi (hP p hp')]
  have hlen : ∀ c, ∀ l : List Str, l.Perm ((restC t ch c).map g.nmS) → l.length = (restC t ch c).length := fun c l hl => by rw [hl.length_eq, List.length_map]
  have h1 := hS 0 (by decide) _ h0
  have h2 := hS 1 (by decide) _ h1
  have h3 := hS 2 (by decide) _ h2
  have l0 := hlen 0 _ h0
  have l1 := hlen 1 _ h1
  have l2 := hlen 2 _ h2
  have l3 := hlen 3 _ h3
  have r0 := rest_turn (c := 0) ht hch (by decide)
  have r1 := rest_turn (c := 1) ht hch (by decide)
  have r2 := rest_turn (c := 2) ht hch (by decide)
  unfold manyS manyC
  simp only [List.foldl_cons, List.foldl_nil, stepS]
  have e : List.range 3 = [0, 1, 2] := rfl
  rw [e]
  simp only [List.filter_cons, List.filter_nil, ← r0, ← r1, ← r2]
  simp only [Nat.zero_add, Nat.add_zero, Nat.reduceAdd] at l0 l1 l2 l3 h1 h2 h3
  rw [l0, l1, l2, l3]
  simp only [decide_eq_true_eq]
  split <;> split <;> split <;> simp <;> omega
theorem few_koenig (g : Sg) {t : Nat} (ht : t < 512) {whole : List Str} {taken : List (List Str)} (hw : whole.Perm ((placesC t).map g.nmS)) (htk : ∀ k < 6, (taken.getD k []).Perm (((placesC t).filter (inK k)).map g.nmS)) :
    fewS whole taken 8 = mostC t := by
  rw [← koenig t ht]
  unfold fewS fewestC
  have h : ∀ l : List Nat, (∀ c ∈ l, c < 8) → ∀ m, l.foldl (fun m c => min m (manyS whole taken c)) m = l.foldl (fun m c => min m (manyC t c)) m := fun l => by
    induction l with
    | nil => intro _ _; rfl
    | cons a l ih =>
      intro hl m
      rw [List.foldl_cons, List.foldl_cons, many_koenig g ht (hl a (.head _)) hw htk]
      exact ih (fun c hc => hl c (.tail _ hc)) _
  exact h _ (fun c hc => List.mem_range.mp hc) _
end
section
variable {X : Wd} {k : Nat} {f : FS}
theorem mkS_app (a b : List Nat) : mkS a ++ mkS b = mkS (a ++ b) := str_of_toList (by show ((mkS a).cps ++ (mkS b).cps).toList = _; simp)
theorem str_app (a b : Str) : (a ++ b).cps.toList = a.cps.toList ++ b.cps.toList := by show (a.cps ++ b.cps).toList = _; simp
theorem patW_txt (l : List Nat) : writtenC (mkS l) = (patW l).txt := by
  refine str_of_toList ?_
  rw [written_toks]
  show ((mkS l).cps.toList.map wtok).flatMap PT.render = (l.map wtok ++ []).flatMap PT.render
  rw [List.append_nil]
theorem patF_txt (l : List Nat) : mkS [123] ++ writtenC (mkS l) ++ mkS [125, 42] = (patF l).txt := by
  refine str_of_toList ?_
  rw [str_app, str_app, written_toks]
  show [123] ++ ((mkS l).cps.toList.map wtok).flatMap PT.render ++ [125, 42] = ((PT.lit 123 :: l.map wtok ++ [PT.lit 125]) ++ [PT.star]).flatMap PT.render
  simp [PT.render]
theorem patL_txt (l : List Nat) : mkS [42, 125] ++ writtenC (mkS l) = (patL l).txt := by
  refine str_of_toList ?_
  rw [str_app, written_toks]
  show [42, 125] ++ ((mkS l).cps.toList.map wtok).flatMap PT.render = (PT.star :: .lit 125 :: l.map wtok).flatMap PT.render
  simp [PT.render]
theorem pats_inj (g : Sg) (k : Nat) : ∀ u ∈ g.pats k, ∀ v ∈ g.pats k, u.txt = v.txt → u = v := by
  intro u hu v hv h
  rcases k with _ | _ | _ | k
  · rw [List.mem_singleton.mp hu, List.mem_singleton.mp hv]
  · rw [List.mem_singleton.mp hu, List.mem_singleton.mp hv]
  · rw [List.mem_singleton.mp hu, List.mem_singleton.mp hv]
  · have hne : (patW (g.en k)).txt ≠ (patL (g.en k)).txt := fun q => by
      rw [← patW_txt, ← patL_txt] at q
      have q := congrArg (fun s : Str => s.cps.toList) q
      rw [str_app, written_toks] at q
      obtain ⟨h1, h2, h3, h4⟩ := g.en_lt k
      have e : (mkS (g.en k)).cps.toList = g.en k := by simp [mkS]
      rw [e] at q
      cases hen : g.en k with
      | nil => rw [hen] at h4; simp at h4
      | cons c r =>
        rw [hen, List.map_cons, List.flatMap_cons] at q
        unfold wtok at q
        by_cases hb : c = 42 ∨ c = 63 ∨ c = 91
        · rw [if_pos hb] at q
          have q := congrArg List.head? q
          simp [PT.render] at q
        · rw [if_neg hb] at q
          have q := congrArg List.head? q
          simp [PT.render] at q
          exact hb (.inl q)
    rcases List.mem_cons.mp hu with rfl | hu <;> rcases List.mem_cons.mp hv with rfl | hv
    · rfl
    · rw [List.mem_singleton.mp hv] at h; exact absurd h hne
    · rw [List.mem_singleton.mp hu] at h; exact absurd h.symm hne
    · rw [List.mem_singleton.mp hu, List.mem_singleton.mp hv]
noncomputable def Sg.wc (g : Sg) (k : Nat) : Str := if k < 3 then mkS (123 :: g.sp k ++ [125, 42]) else mkS ([123, 42, 125] ++ g.en (k - 3))
theorem str_ok {l : List Nat} (h : ∀ c ∈ l, c < 0x110000) : PyData.strOk (mkS l) = true := by
  unfold PyData.strOk
  simp only [mkS, List.all_toArray]
  exact List.all_eq_true.mpr fun c hc => decide_eq_true (h c hc)
theorem Sg.wild (g : Sg) {k : Nat} (hk : k < 6) : WildOk (g.wc k) (g.q k) := by
  obtain ⟨a, b, fl, ab, a1, a2, a3, b1, b2, az, bz⟩ := g
  rcases six hk with rfl | rfl | rfl | rfl | rfl | rfl
  · exact wild_bare
  · exact wild_ns (a := a) (r := []) (by simpa using a3) (by simp)
  · cases fl
    · exact wild_ns (a := a) (r := [b]) (by simp [b2]) (by simp)
    · exact wild_ns (a := b) (r := [a]) (by simp [a2]) (by simp)
  · exact wild_suf (e := [a]) (by simpa using a3) (by simp) (str_ok (by simpa using az))
  · exact wild_suf (e := [a, b]) (by simp) (by simp) (str_ok (by simp [az, bz]))
  · exact wild_suf (e := [b, a]) (by simp) (by simp) (str_ok (by simp [az, bz]))
theorem Sg.den_lt (g : Sg) (c : Ch) : g.den c < 0x110000 := by
  obtain ⟨_ | _, _ | _⟩ := c
  · exact g.az
  · exact g.bz
  · show 123 < 0x110000; decide
  · show 125 < 0x110000; decide
theorem nm_len : ∀ fl : Bool, ∀ p, p < 9 → 1 ≤ (nmC fl p).length ∧ (nmC fl p).length ≤ 6 := by decide +kernel
theorem Sg.nm_lt (g : Sg) {p : Nat} (hp : p < 9) : (∀ x ∈ g.nm p, x < 0x110000) ∧ 1 ≤ (g.nm p).length ∧ (g.nm p).length ≤ 6 := by
  rw [g.nm_map, List.length_map]
  refine ⟨fun x hx => ?_, nm_len _ _ hp⟩
  obtain ⟨c, _, rfl⟩ := List.mem_map.mp hx
  exact g.den_lt c
noncomputable def Sg.row (g : Sg) (t : Nat) : List Str := (placesC t).map g.nmS
noncomputable def Sg.tags (g : Sg) (t c : Nat) : List PV := [.none] ++ ((g.row t).drop c).map .str ++ [.int (c : Nat)] ++ ((g.row t).take c).map .str
noncomputable def Sg.want (g : Sg) (t k : Nat) : List Str := ((placesC t).filter (inK k)).map g.nmS
theorem Sg.row_mem (g : Sg) {t : Nat} {x : Str} (h : x ∈ g.row t) : ∃ p ∈ placesC t, p < 9 ∧ x = g.nmS p := by
  obtain ⟨p, hp, rfl⟩ := List.mem_map.mp h
  exact ⟨p, hp, (places_lt hp).1, rfl⟩
theorem Sg.tag_str (g : Sg) {t c : Nat} {x : Str} (h : PV.str x ∈ g.tags t c) : x ∈ g.row t := by
  unfold Sg.tags at h
  simp only [List.mem_append, List.mem_singleton, List.mem_map] at h
  rcases h with ((h | ⟨y, hy, e⟩) | h) | ⟨y, hy, e⟩
  · cases h
  · cases e; exact List.mem_of_mem_drop hy
  · cases h
  · cases e; exact List.mem_of_mem_take hy
theorem Sg.tag_ok (g : Sg) {t c : Nat} : ∀ u ∈ g.tags t c, tagV u = true ∧ ∀ x, u = .str x → PyData.strOk x = true ∧ 1 ≤ x.length ∧ x.length ≤ 1000 := by
  intro u hu
  have h2 : ∀ x, u = .str x → PyData.strOk x = true ∧ 1 ≤ x.length ∧ x.length ≤ 1000 := fun x e => by
    subst e
    obtain ⟨p, hp, h9, rfl⟩ := g.row_mem (g.tag_str hu)
    obtain ⟨h1, h2, h3⟩ := g.nm_lt h9
    refine ⟨str_ok h1, ?_⟩
    show 1 ≤ (mkS _).length ∧ (mkS _).length ≤ 1000
    rw [mkS_len]; omega
  refine ⟨?_, h2⟩
  unfold Sg.tags at hu
  simp only [List.mem_append, List.mem_singleton, List.mem_map] at hu
  rcases hu with ((h | ⟨y, hy, e⟩) | h) | ⟨y, hy, e⟩
  · rw [h]; rfl
  · rw [← e]; rfl
  · rw [h]; rfl
  · rw [← e]; rfl
theorem Sg.row_len (g : Sg) (t : Nat) : (g.row t).length ≤ 9 := by unfold Sg.row; rw [List.length_map]; exact places_len t
theorem Sg.tags_len (g : Sg) (t c : Nat) : (g.tags t c).length ≤ 20 := by
  have := g.row_len t
  unfold Sg.tags
  simp only [List.length_append, List.length_map, List.length_drop, List.length_take, List.length_cons, List.length_nil]
  omega
theorem Sg.want_has (g : Sg) {t k p : Nat} (hp : p ∈ placesC t) : (g.want t k).contains (g.nmS p) = inK k p :=
  (g.has (S := (placesC t).filter (inK k)) (fun q hq => (places_lt (List.mem_filter.mp hq).1).1) (List.Perm.refl _) (places_lt hp).1).trans (filter_has hp)
theorem names_app (W : List Str) (a b : List PV) : namesG W (a ++ b) = namesG W a ++ namesG W b := List.filterMap_append
theorem names_strs (W : List Str) (l : List Str) : namesG W (l.map .str) = l.filter W.contains := by
  unfold namesG
  rw [List.filterMap_map]
  induction l with
  | nil => rfl
  | cons x l ih =>
    cases hb : W.contains x with
    | true => simp only [List.filterMap_cons, Function.comp, hb, if_true, List.filter_cons]; exact congrArg (x :: ·) ih
    | false => simp only [List.filterMap_cons, Function.comp, hb, Bool.false_eq_true, if_false, List.filter_cons]; exact ih
theorem Sg.names_perm (g : Sg) (t c : Nat) (W : List Str) : (namesG W (g.tags t c)).Perm ((g.row t).filter W.contains) := by
  unfold Sg.tags
  rw [names_app, names_app, names_app, names_strs, names_strs]
  show ([] ++ _ ++ [] ++ _ : List Str).Perm _
  rw [List.nil_append, List.append_nil]
  refine (List.perm_append_comm).trans ?_
  rw [← List.filter_append, List.take_append_drop]
theorem Sg.names_want (g : Sg) (t c k : Nat) : (namesG (g.want t k) (g.tags t c)).Perm (g.want t k) := by
  refine (g.names_perm t c _).trans (List.Perm.of_eq ?_)
  unfold Sg.row
  rw [List.filter_map]
  refine congrArg _ (List.filter_congr fun p hp => ?_)
  exact g.want_has hp
theorem Sg.names_row (g : Sg) (t c : Nat) : (namesG (g.row t) (g.tags t c)).Perm (g.row t) := by
  refine (g.names_perm t c _).trans (List.Perm.of_eq ?_)
  exact List.filter_eq_self.mpr fun x hx => List.contains_iff_mem.mpr hx
theorem Sg.nodup (g : Sg) {S : List Nat} (hS : ∀ p ∈ S, p < 9) (hn : S.Nodup) : (S.map g.nmS).Nodup := by
  refine List.pairwise_map.mpr (hn.imp_of_mem fun {p q} hp hq h e => h (g.nmS_inj (hS p hp) (hS q hq) e))
theorem Sg.okS (g : Sg) {S : List Nat} {l : List Str} (hS : ∀ p ∈ S, p < 9) (hn : S.Nodup) (hlen : S.length ≤ 9) (h : l.Perm (S.map g.nmS)) : OkS (sortC l) ∧ (sortC l).length ≤ 20 := by
  have h2 : (sortC l).Perm (S.map g.nmS) := (sortC_perm l).trans h
  have hl : (sortC l).length ≤ 9 := by rw [h2.length_eq, List.length_map]; exact hlen
  refine ⟨⟨sort_rises (h.nodup_iff.mpr (g.nodup hS hn)), by omega, fun x hx => ?_⟩, by omega⟩
  obtain ⟨p, hp, rfl⟩ := List.mem_map.mp (h2.mem_iff.mp hx)
  exact str_ok (g.nm_lt (hS p hp)).1
end
section
variable {X : Wd} {k : Nat} {f : FS}
theorem places_v (t : Nat) : (upto 9).filterMap (fun p => match p with | .int y => if bitC t y.toNat then some (PV.int y) else none | _ => none) = (placesC t).map fun i => PV.int ((i : Nat) : Int) := by
  rw [upto_filterMap]
  unfold placesC
  generalize List.range 9 = l
  induction l with
  | nil => rfl
  | cons a l ih =>
    rw [List.filterMap_cons, List.filter_cons, ih]
    simp only [Int.toNat_natCast]
    by_cases hb : bitC t a = true <;> simp [hb]
theorem row_v (g : Sg) (t : Nat) : ((placesC t).map fun i => PV.int ((i : Nat) : Int)).filterMap (fun p => match p with | .int y => some (PV.str (g.nmS y.toNat)) | _ => none) = (g.row t).map .str := by
  unfold Sg.row
  rw [List.filterMap_map, List.map_map]
  exact filterMap_some _ _ (fun i => rfl) _
theorem fdiv_nat (i n : Nat) : Int.fdiv (i : Int) (n : Int) = ((i / n : Nat) : Int) := by
  rw [Int.fdiv_eq_ediv_of_nonneg _ (Int.natCast_nonneg _)]; rfl
theorem fmod_nat (i n : Nat) : Int.fmod (i : Int) (n : Int) = ((i % n : Nat) : Int) := by
  rw [Int.fmod_eq_emod_of_nonneg _ (Int.natCast_nonneg _)]; rfl
theorem three_get (f : Nat → List Nat) {i : Nat} (h : i < 3) : ([PV.str (mkS (f 0)), PV.str (mkS (f 1)), PV.str (mkS (f 2))] : List PV)[i]? = some (PV.str (mkS (f i))) := by
  have : i = 0 ∨ i = 1 ∨ i = 2 := by omega
  rcases this with rfl | rfl | rfl <;> rfl
theorem pick_drop {α : Type} (xs : List α) (c : Nat) (h : c ≤ xs.length) : pickL xs (some (c : Nat)) none = xs.drop c := by
  rw [pickL_eq]
  have e : clipN (some (c : Int)) 0 xs.length = c := by unfold clipN; simp; omega
  rw [e]
  show (xs.drop c).take (xs.length - c) = _
  exact List.take_of_length_le (by rw [List.length_drop]; exact Nat.le_refl _)
theorem pick_take {α : Type} (xs : List α) (c : Nat) (h : c ≤ xs.length) : pickL xs none (some (c : Nat)) = xs.take c := by
  rw [pickL_eq]
  have e : clipN (some (c : Int)) xs.length xs.length = c := by unfold clipN; simp; omega
  rw [e]
  show (xs.drop 0).take (c - 0) = _
  rw [List.drop_zero, Nat.sub_zero]
theorem pairUp_row (g : Sg) (t : Nat) : pairUp ((placesC t).map fun i => PV.int ((i : Nat) : Int)) ((g.row t).map .str) = (placesC t).map fun i => PV.tup [.int ((i : Nat) : Int), .str (g.nmS i)] := by
  unfold pairUp Sg.row
  rw [List.map_map, List.zip_map', List.map_map]
  rfl
theorem want_v (g : Sg) (t k : Nat) : ((placesC t).map fun i => PV.tup [.int ((i : Nat) : Int), .str (g.nmS i)]).filterMap (fun p => match p with | .tup [.int i, .str x] => if inK k i.toNat then some (PV.str x) else none | _ => none) = (g.want t k).map .str := by
  unfold Sg.want
  generalize placesC t = l
  induction l with
  | nil => rfl
  | cons a l ih =>
    rw [List.map_cons, List.filterMap_cons, List.filter_cons, ih]
    simp only [Int.toNat_natCast]
    by_cases hb : inK k a = true <;> simp [hb]
theorem tr_i {i : Int} : Truthy X k (.int i) (i != 0) := fun A s mu v Q _ S hv hQ => by obtain ⟨t, rfl⟩ := hv; exact PyProof.Rows.truthy_int (hQ s (.refl S.live))
theorem str_len_app (a b : Str) : (a ++ b).length = a.length + b.length := by show (a.cps ++ b.cps).size = _; rw [Array.size_append]; rfl
set_option maxHeartbeats 2000000 in
noncomputable def rV (a : Addr) (ts : List PV) (row : List Str) (g : Sg) (t : Nat) : List (Str × PV) := [("taken", .raw (.ref a)), ("things", .lst (thingsC ts)), ("tags", .lst ts), ("row", .lst (row.map .str)), ("places", .lst ((placesC t).map fun i => PV.int ((i : Nat) : Int))), ("ends", .tup [.str (mkS (g.en 0)), .str (mkS (g.en 1)), .str (mkS (g.en 2))]), ("spaces", .tup [.str (mkS (g.sp 0)), .str (mkS (g.sp 1)), .str (mkS (g.sp 2))]), ("table", .int (t : Nat))]
set_option maxHeartbeats 1000000 in
theorem right_spec (C : Cx X) (g : Sg) {t : Nat} (ht : t < 512) (htn : placesC t ≠ []) {turn : Int} (hfl : g.fl = (turn.fmod 2 == 1)) :
    OpN X 16 [.str (mkS [g.a]), .str (mkS [g.b]), .int (t : Nat), .int turn] (fun vs => call (.ref 169) vs) (.bool true) := by
  refine fspec C (ns := ["x", "y", "table", "turn"]) (fun P => by with_unfolding_all rfl) (fun P => by kernel_rfl) (len4 rfl fun _ _ _ _ => rfl) rfl (by decide +kernel) (by decide +kernel) ?_ (by decide +kernel)
  intro hs mu L own T hown X C
  show WS _ _ ⟨hs, mu, _, [("x", .str (mkS [g.a])), ("y", .str (mkS [g.b])), ("table", .int (t : Nat)), ("turn", .int turn)], own, []⟩ _ _
  have h2 : ∀ {n : Nat}, n ≤ 10 → n ≤ sizeLine := fun h => Nat.le_trans h (by decide)
  have app : ∀ (l l' : List Nat) {k : Nat}, l.length + l'.length ≤ 100 → Op2 X k (.str (mkS l)) (.str (mkS l')) (binaryOp .Add) (.str (mkS (l ++ l'))) := fun l l' k h => by
    rw [← mkS_app]; exact add_ss (by rw [mkS_len, mkS_len]; exact Nat.le_trans h (by decide))
  refine wAssign (p := .tup [.str (mkS (g.sp 0)), .str (mkS (g.sp 1)), .str (mkS (g.sp 2))]) (Ev.tup (EvL.cons (Ev.of Ev.cstr rfl) (EvL.cons (by walk_at "nm") (EvL.cons ?_ EvL.nil))) (h2 (by show 3 ≤ 10; decide))) (.loc (by with_unfolding_all rfl)) ?_
  · refine Ev.of (Ev.ife' (c := g.fl) (p := .str (mkS ([g.b] ++ [g.a]))) (q := .str (mkS ([g.a] ++ [g.b]))) (Tv.of (Tv.cmp (p := .int (turn.fmod 2)) (q := .int 1) (by walk_at "ev") (by walk_at "ev") eq_ii) hfl.symm) (fun _ => Ev.bin (by walk_at "nm") (by walk_at "nm") (app _ _ (by show 1 + 1 ≤ 100; decide))) (fun _ => Ev.bin (by walk_at "nm") (by walk_at "nm") (app _ _ (by show 1 + 1 ≤ 100; decide)))) ?_
    show _ = PV.str (mkS g.sp2)
    unfold Sg.sp2
    cases g.fl <;> rfl
  refine wAssign (p := .tup [.str (mkS (g.en 0)), .str (mkS (g.en 1)), .str (mkS (g.en 2))]) (Ev.tup (EvL.cons (by walk_at "nm") (EvL.cons (Ev.bin (by walk_at "nm") (by walk_at "nm") (app [g.a] [g.b] (by show 2 ≤ 100; decide))) (EvL.cons (Ev.bin (by walk_at "nm") (by walk_at "nm") (app [g.b] [g.a] (by show 2 ≤ 100; decide))) EvL.nil))) (h2 (by show 3 ≤ 10; decide))) (Stores.dcellO hown (by with_unfolding_all rfl)) ?_
  refine wAssign (p := .tup [.str (mkS (g.hd 0)), .str (mkS (g.hd 1)), .str (mkS (g.hd 2))]) (Ev.tup (EvL.cons (Ev.of Ev.cstr rfl) (EvL.cons (Ev.bin (p := .str (mkS ([123] ++ [g.a]))) (q := .str (mkS [125])) (Ev.bin (Ev.of Ev.cstr rfl) (by walk_at "nm") (app [123] [g.a] (by show 1 + 1 ≤ 100; decide))) (Ev.of Ev.cstr rfl) (app _ _ (by show 2 + 1 ≤ 100; decide)))
    (EvL.cons (Ev.of (Ev.bin (p := .str (mkS ([123] ++ g.sp2))) (q := .str (mkS [125])) (Ev.bin (Ev.of Ev.cstr rfl) (Ev.sub_t (xs := [.str (mkS (g.sp 0)), .str (mkS (g.sp 1)), .str (mkS (g.sp 2))]) (i := 2) (j := 2) (by walk_at "nm") (by walk_at "ev") rfl rfl (by decide) (by decide)) (app [123] g.sp2 (by have := g.sp2_lt.2; show 1 + _ ≤ 100; omega))) (Ev.of Ev.cstr rfl) (app _ _ (by have := g.sp2_lt.2; show (g.sp2.length + 1) + 1 ≤ 100; omega))) rfl) EvL.nil))) (h2 (by show 3 ≤ 10; decide))) (Stores.dcellO hown (by with_unfolding_all rfl)) ?_
  have hP9 : ∀ p ∈ placesC t, p < 9 := fun p hp => (places_lt hp).1
  refine wAssignComp (cl := [("table", L + 1)]) [("table", .int (t : Nat))] (fun p => match p with | .int y => if bitC t y.toNat then some (PV.int y) else none | _ => none) (fun p => [("place", p)]) (Src.range (n := 9) C (Ev.of Ev.cint rfl) (by decide) (by with_unfolding_all rfl)) (by walk_at "cv") (by walk_at "sub") (Elts.name (by with_unfolding_all rfl) rfl ?_) (small_ok' (by rw [upto_len]; decide)) (by with_unfolding_all rfl) (by with_unfolding_all rfl) (by with_unfolding_all rfl) (by decide +kernel) (by decide +kernel) ?_
  · intro p hp hs' mu' C' D own' ys
    obtain ⟨i, hi, rfl⟩ := mem_upto hp
    have hi8 : i ≤ 8 := by omega
    exact elt_if (bitC t i) rfl (Tv.of (Tv.cmp (p := .int ((t / 2 ^ i % 2 : Nat) : Int)) (q := .int 1) (Ev.of (Ev.bin (Ev.bin (by walk_at "nm") (Ev.bin Ev.cint (by walk_at "nm") (pow_ii (Int.natCast_nonneg i) (bits_two i hi8))) (div_ii (pow2_ne i) (pow2_py i hi8 _))) Ev.cint (mod_ii (by decide))) (congrArg PV.int (bit_int t i))) (by walk_at "ev") eq_ii) (by rw [bit_test])) (by walk_at "nm")
  rw [places_v]
  refine wAssignComp (cl := [("heads", L + 3), ("ends", L + 2)]) [("heads", .tup [.str (mkS (g.hd 0)), .str (mkS (g.hd 1)), .str (mkS (g.hd 2))]), ("ends", .tup [.str (mkS (g.en 0)), .str (mkS (g.en 1)), .str (mkS (g.en 2))])] (fun p => match p with | .int y => some (.str (g.nmS y.toNat)) | _ => none) (fun p => [("place", p)]) (Src.lst (xs := (placesC t).map fun i => PV.int ((i : Nat) : Int)) (by walk_at "nm")) (by walk_at "cv") (by walk_at "sub") (Elts.name (by with_unfolding_all rfl) rfl ?_) (small_ok' (by rw [List.length_map]; have := places_len t; omega)) (by with_unfolding_all rfl) (by with_unfolding_all rfl) (by with_unfolding_all rfl) (by decide +kernel) (by decide +kernel) ?_
  · intro p hp hs' mu' C' D own' ys
    obtain ⟨i, hi, rfl⟩ := List.mem_map.mp hp
    have hi9 := hP9 i hi
    refine ⟨fun h => (by cases h), fun r h => ⟨Tests.nil, ?_⟩⟩
    cases h
    have b1 : (g.hd (i / 3)).length ≤ 10 ∧ (g.en (i % 3)).length ≤ 10 := by
      have h1 := (g.nm_lt hi9).2.2
      have h2 : (g.nm i).length = (g.hd (i / 3)).length + (g.en (i % 3)).length := by unfold Sg.nm; rw [List.length_append]
      omega
    exact Ev.bin (p := .str (mkS (g.hd (i / 3)))) (q := .str (mkS (g.en (i % 3)))) (Ev.sub_t (xs := [.str (mkS (g.hd 0)), .str (mkS (g.hd 1)), .str (mkS (g.hd 2))]) (i := ((i / 3 : Nat) : Int)) (j := i / 3) (by walk_at "nm") (Ev.of (Ev.bin (by walk_at "nm") Ev.cint (div_ii (by decide) (PyProof.noPylong_small (by decide)))) (congrArg PV.int (fdiv_nat i 3))) (seqIndex_of (by omega) (by show ((i / 3 : Nat) : Int) < 3; omega)) (three_get g.hd (by omega)) (by omega) (by omega))
      (Ev.sub_t (xs := [.str (mkS (g.en 0)), .str (mkS (g.en 1)), .str (mkS (g.en 2))]) (i := ((i % 3 : Nat) : Int)) (j := i % 3) (by walk_at "nm") (Ev.of (Ev.bin (by walk_at "nm") Ev.cint (mod_ii (by decide))) (congrArg PV.int (fmod_nat i 3))) (seqIndex_of (by omega) (by show ((i % 3 : Nat) : Int) < 3; omega)) (three_get g.en (by omega)) (by omega) (by omega)) (app _ _ (by omega))
  rw [row_v]
  obtain ⟨row, hrow⟩ : ∃ row, row = g.row t := ⟨_, rfl⟩
  have hrl : row.length ≤ 9 := by rw [hrow]; exact g.row_len t
  have hrn : 1 ≤ row.length := by
    rw [hrow]; unfold Sg.row; rw [List.length_map]
    exact List.length_pos_iff.mpr htn
  rw [← hrow]
  obtain ⟨c, hc, hcl⟩ : ∃ c : Nat, (turn.fdiv 2).fmod (row.length : Nat) = (c : Nat) ∧ c < row.length := by
    have h0 := Int.fmod_nonneg_of_pos (turn.fdiv 2) (b := (row.length : Int)) (by omega)
    have h1 := Int.fmod_lt_of_pos (turn.fdiv 2) (b := (row.length : Int)) (by omega)
    exact ⟨((turn.fdiv 2).fmod (row.length : Nat)).toNat, by omega, by omega⟩
  refine wAssign (p := .int (c : Nat)) (Ev.of (Ev.bin (Ev.bin (by walk_at "nm") Ev.cint (div_ii (by decide) (PyProof.noPylong_small (by decide)))) (Ev.of (Ev.len C (by walk_at "nm") (.inl rfl) (by rw [List.length_map]; omega) (by with_unfolding_all rfl)) (by rw [List.length_map])) (mod_ii (by omega))) (congrArg PV.int hc)) (.loc (by with_unfolding_all rfl)) ?_
  have htags : g.tags t c = [.none] ++ (row.drop c).map .str ++ [.int (c : Nat)] ++ (row.take c).map .str := by rw [hrow]; rfl
  refine wAssign (p := .lst (g.tags t c)) ?_ (.loc (by with_unfolding_all rfl)) ?_
  · rw [htags]
    exact Ev.bin (p := .lst ([.none] ++ (row.drop c).map .str ++ [.int (c : Nat)])) (q := .lst ((row.take c).map .str))
      (Ev.bin (p := .lst ([.none] ++ (row.drop c).map .str)) (q := .lst [.int (c : Nat)]) (Ev.bin (p := .lst [.none]) (q := .lst ((row.drop c).map .str)) (Ev.lst (EvL.cons Ev.cnone EvL.nil) (h2 (by show 1 ≤ 10; decide)))
        (Ev.of (Ev.cut_l (xs := row.map .str) (l := some (c : Nat)) (u := none) (by walk_at "nm") (.inl rfl) (EvP.yes (by walk_at "nm")) EvP.no (h2 (by rw [List.length_map]; omega))) (by rw [pick_drop _ _ (by rw [List.length_map]; omega), List.map_drop])) (add_ll (by simp; omega)))
        (Ev.lst (EvL.cons (by walk_at "nm") EvL.nil) (h2 (by show 1 ≤ 10; decide))) (add_ll (by simp; omega)))
      (Ev.of (Ev.cut_l (xs := row.map .str) (l := none) (u := some (c : Nat)) (by walk_at "nm") (.inl rfl) EvP.no (EvP.yes (by walk_at "nm")) (h2 (by rw [List.length_map]; omega))) (by rw [pick_take _ _ (by rw [List.length_map]; omega), List.map_take])) (add_ll (by simp; omega))
  have hto := g.tag_ok (t := t) (c := c)
  refine wAssign (p := .lst (thingsC (g.tags t c))) (Ev.call (v := .ref 144) (Ev.glo (by assumption) (fun P => by with_unfolding_all rfl) (by with_unfolding_all rfl)) (Kept.fn C fun P => by kernel_rfl) (EvL.cons (by walk_at "nm") EvL.nil) ((things_spec C (fun u hu => tagV_plain (hto u hu).1) (by have := g.tags_len t c; omega)).up (by decide))) (.loc (by with_unfolding_all rfl)) ?_
  refine wAssignX (EvX.list EvL.nil (by decide)) (.loc (by with_unfolding_all rfl)) ?_
  rintro p led ⟨a, rfl, rfl⟩
  obtain ⟨tk, htk⟩ : ∃ tk : Nat → List Str, tk = fun i => sortC (namesG (g.want t i) (g.tags t c)) := ⟨_, rfl⟩
  obtain ⟨ts, hts⟩ : ∃ ts, ts = g.tags t c := ⟨_, rfl⟩
  rw [← hts] at hto ⊢
  refine wFor (items := upto 6) (fun p => [("k", p)]) (fun k V L' => Subv (rV a ts row g t) V ∧ L' = [(a, .lst ((List.range k).map fun i => PV.lst ((tk i).map .str)))])
    (Src.range (n := 6) C (Ev.of Ev.cint rfl) (by decide) (by with_unfolding_all rfl)) ⟨by walk_at "sub", rfl⟩ ?_ ?_
  · rintro k p V L' O hp hO ⟨hV, rfl⟩
    have hk : k < 6 := by have := (List.getElem?_eq_some_iff.mp hp).1; rwa [upto_len] at this
    have hpe : p = .int (k : Nat) := by
      have : (upto 6)[k]? = some (.int (k : Nat)) := by simp [upto, hk]
      rw [this] at hp; cases hp; rfl
    subst hpe
    refine ⟨Binds.name (Stores.dcellO (fun b hb => hO b (hown b hb)) (by with_unfolding_all rfl)), ?_⟩
    refine wForget _ (hV.push (by with_unfolding_all rfl)) ?_
    refine wAssignComp (items := pairUp ((placesC t).map fun i => PV.int ((i : Nat) : Int)) (row.map .str)) (cl := [("k", L + 4)]) [("k", .int (k : Nat))] (fun p => match p with | .tup [.int i, .str x] => if inK k i.toNat then some (PV.str x) else none | _ => none) (fun p => match p with | .tup [u, v] => [("name", v), ("place", u)] | _ => []) (Src.zipL C (by walk_at "nm") (by walk_at "nm") (by with_unfolding_all rfl)) (by walk_at "cv") (by walk_at "sub") ?_ ?_ (by with_unfolding_all rfl) (by with_unfolding_all rfl) (by with_unfolding_all rfl) (by decide +kernel) (by decide +kernel) ?_
    · intro p hp
      rw [hrow, pairUp_row] at hp
      obtain ⟨i, hi, rfl⟩ := List.mem_map.mp hp
      have hi9 := hP9 i hi
      refine ⟨look_all (V := [("k", .int (k : Nat))]) fun q hq => by rw [List.mem_singleton.mp hq]; rfl, fun hs' mu' C' D own' ys => ⟨Binds.pair (.loc (by with_unfolding_all rfl)) (.loc (by with_unfolding_all rfl)), ?_⟩⟩
      have hin : ([PV.int ((i / 3 : Nat) : Int), PV.int ((i % 3 + 3 : Nat) : Int)].any fun y => PyData.eqv y.D (PV.int (k : Nat)).D) = inK k i := by
        show ((((i / 3 : Nat) : Int) == (k : Nat)) || ((((i % 3 + 3 : Nat) : Int) == (k : Nat)) || false)) = _
        unfold inK
        rw [Bool.or_false, Bool.eq_iff_iff, Bool.or_eq_true, Bool.or_eq_true, beq_iff_eq, beq_iff_eq, beq_iff_eq, beq_iff_eq]
        omega
      have hop : Op2 X 15 (.int (k : Nat)) (.tup [.int ((i / 3 : Nat) : Int), .int ((i % 3 + 3 : Nat) : Int)]) (compareOp .In) (.bool (inK k i)) := by
        rw [← hin]
        exact in_t (k := 10) rfl rfl rfl fun y hy => by
          rcases List.mem_cons.mp hy with rfl | hy
          · rfl
          · rw [List.mem_singleton.mp hy]; rfl
      exact elt_if (inK k i) rfl (Tv.of (Tv.cmp (p := .int (k : Nat)) (q := .tup [.int ((i / 3 : Nat) : Int), .int ((i % 3 + 3 : Nat) : Int)]) (by walk_at "nm") (Ev.tup (EvL.cons (Ev.of (Ev.bin (by walk_at "nm") Ev.cint (div_ii (by decide) (PyProof.noPylong_small (by decide)))) (congrArg PV.int (fdiv_nat i 3))) (EvL.cons (Ev.of (Ev.bin (p := .int ((i % 3 : Nat) : Int)) (Ev.of (Ev.bin (by walk_at "nm") Ev.cint (mod_ii (by decide))) (congrArg PV.int (fmod_nat i 3))) Ev.cint add_ii) rfl) EvL.nil)) (h2 (by show 2 ≤ 10; decide))) hop) rfl) (by walk_at "nm")
    · rw [hrow, pairUp_row, List.length_map]
      exact small_ok' (by have := places_len t; omega)
    · rw [hrow, pairUp_row, want_v, ← hrow]
      have hspl : ∀ j, (∀ x ∈ g.sp j, x < 0x110000) ∧ (g.sp j).length ≤ 10 := fun j => by
        rcases j with _ | _ | j
        · exact ⟨fun _ h => (nomatch h), (by show 0 ≤ 10; decide)⟩
        · exact ⟨fun x h => by rw [List.mem_singleton.mp h]; exact g.az, by show 1 ≤ 10; decide⟩
        · exact g.sp2_lt
      have wl : ∀ l : List Nat, (∀ x ∈ l, x < 0x110000) → l.length ≤ 10 → (writtenC (mkS l)).length ≤ 100000 := fun l h1 h2 => by rw [patW_txt]; exact (patW_ok h1 h2).len
      refine wCut (("wildcard", .str (g.wc k)) :: ("patterns", .lst ((g.pats k).map (PV.str ·.txt))) :: ("wanted", .lst ((g.want t k).map .str)) :: rV a ts row g t) [(a, .lst ((List.range k).map fun i => PV.lst ((tk i).map .str)))] ?_ ?_
      · refine wIte (b := decide ((k : Int) < 3)) (Tv.cmp (p := .int (k : Nat)) (q := .int 3) (by walk_at "nm") (by walk_at "ev") lt_ii) (fun hb => ?_) (fun hb => ?_)
        · have hk3 : k < 3 := by have := of_decide_eq_true hb; omega
          obtain ⟨hs1, hs2⟩ := hspl k
          have hwl := wl (g.sp k) hs1 hs2
          have hj : seqIndex? ((k : Nat) : Int) [PV.str (mkS (g.sp 0)), PV.str (mkS (g.sp 1)), PV.str (mkS (g.sp 2))].length = some k := seqIndex_of (by omega) (by show ((k : Nat) : Int) < 3; omega)
          refine wAssign (p := .str (g.wc k)) (Ev.of (Ev.bin (p := .str (mkS ([123] ++ g.sp k))) (q := .str (mkS [125, 42])) (Ev.bin (Ev.of Ev.cstr rfl) (Ev.sub_t (xs := [.str (mkS (g.sp 0)), .str (mkS (g.sp 1)), .str (mkS (g.sp 2))]) (i := (k : Nat)) (j := k) (by walk_at "nm") (by walk_at "nm") hj (three_get g.sp hk3) (by omega) (by omega)) (app [123] (g.sp k) (by show 1 + _ ≤ 100; omega))) (Ev.of Ev.cstr rfl) (app _ _ (by show ((g.sp k).length + 1) + 2 ≤ 100; omega))) ?_) (.loc (by with_unfolding_all rfl)) ?_
          · unfold Sg.wc; rw [if_pos hk3]; rfl
          · refine wAssign (p := .lst ((g.pats k).map (PV.str ·.txt))) (Ev.of (Ev.lst (EvL.cons (Ev.ife' (c := ((k : Int) != 0)) (p := .str (patF (g.sp k)).txt) (q := .str patB.txt) (Tv.plain (p := .int (k : Nat)) (by walk_at "nm") tr_i) (fun _ => ?_) (fun _ => Ev.of Ev.cstr rfl)) EvL.nil) (h2 (by show 1 ≤ 10; decide))) ?_) (.loc (by with_unfolding_all rfl)) (wNil (wNil ⟨rfl, by walk_at "sub", rfl⟩))
            · rw [← patF_txt]
              exact Ev.bin (p := .str (mkS [123] ++ writtenC (mkS (g.sp k)))) (q := .str (mkS [125, 42])) (Ev.bin (p := .str (mkS [123])) (Ev.of Ev.cstr rfl) (Ev.call (v := .ref 116) (Ev.glo (by assumption) (fun P => by with_unfolding_all rfl) (by with_unfolding_all rfl)) (Kept.fn C fun P => by kernel_rfl) (EvL.cons (Ev.sub_t (xs := [.str (mkS (g.sp 0)), .str (mkS (g.sp 1)), .str (mkS (g.sp 2))]) (i := (k : Nat)) (j := k) (by walk_at "nm") (by walk_at "nm") hj (three_get g.sp hk3) (by omega) (by omega)) EvL.nil) ((written_spec C (mkS (g.sp k)) (by rw [mkS_len]; omega)).up (by decide))) (add_ss (by show 1 + _ ≤ _; rw [sizeLine_eq]; omega))) (Ev.of Ev.cstr rfl) (add_ss (by rw [str_len_app, sizeLine_eq]; show (1 + _) + 2 ≤ _; omega))
            · rcases (show k = 0 ∨ k = 1 ∨ k = 2 by omega) with rfl | rfl | rfl <;> rfl
        · have hk3 : ¬ k < 3 := by have := of_decide_eq_false hb; omega
          obtain ⟨j, hj⟩ : ∃ j, k = j + 3 := ⟨k - 3, by omega⟩
          have hj3 : j < 3 := by omega
          obtain ⟨e1, e2, e3, e4⟩ := g.en_lt j
          have hwl := wl (g.en j) e1 e2
          have hsq : seqIndex? ((j : Nat) : Int) [PV.str (mkS (g.en 0)), PV.str (mkS (g.en 1)), PV.str (mkS (g.en 2))].length = some j := seqIndex_of (by omega) (by show ((j : Nat) : Int) < 3; omega)
          have hki : ((k : Nat) : Int) - 3 = ((j : Nat) : Int) := by omega
          refine wAssign (p := .str (g.wc k)) (Ev.of (Ev.bin (p := .str (mkS [123, 42, 125])) (q := .str (mkS (g.en j))) (Ev.of Ev.cstr rfl) (Ev.sub_t (xs := [.str (mkS (g.en 0)), .str (mkS (g.en 1)), .str (mkS (g.en 2))]) (i := (j : Nat)) (j := j) (by walk_at "nm") (Ev.of (Ev.bin (by walk_at "nm") Ev.cint sub_ii) (congrArg PV.int hki)) hsq (three_get g.en hj3) (by omega) (by omega)) (app [123, 42, 125] (g.en j) (by show 3 + _ ≤ 100; omega))) ?_) (.loc (by with_unfolding_all rfl)) ?_
          · unfold Sg.wc; rw [if_neg hk3, hj]; rfl
          · refine wAssign (p := .lst ((g.pats k).map (PV.str ·.txt))) (Ev.of (p := .lst [.str (patW (g.en j)).txt, .str (patL (g.en j)).txt]) (Ev.lst (EvL.cons ?_ (EvL.cons ?_ EvL.nil)) (h2 (by show 2 ≤ 10; decide))) ?_) (.loc (by with_unfolding_all rfl)) (wNil (wNil ⟨rfl, by walk_at "sub", rfl⟩))
            · rw [← patW_txt]
              exact Ev.call (v := .ref 116) (Ev.glo (by assumption) (fun P => by with_unfolding_all rfl) (by with_unfolding_all rfl)) (Kept.fn C fun P => by kernel_rfl) (EvL.cons (Ev.sub_t (xs := [.str (mkS (g.en 0)), .str (mkS (g.en 1)), .str (mkS (g.en 2))]) (i := (j : Nat)) (j := j) (by walk_at "nm") (Ev.of (Ev.bin (by walk_at "nm") Ev.cint sub_ii) (congrArg PV.int hki)) hsq (three_get g.en hj3) (by omega) (by omega)) EvL.nil) ((written_spec C (mkS (g.en j)) (by rw [mkS_len]; omega)).up (by decide))
            · rw [← patL_txt]
              exact Ev.bin (p := .str (mkS [42, 125])) (q := .str (writtenC (mkS (g.en j)))) (Ev.of Ev.cstr rfl) (Ev.call (v := .ref 116) (Ev.glo (by assumption) (fun P => by with_unfolding_all rfl) (by with_unfolding_all rfl)) (Kept.fn C fun P => by kernel_rfl) (EvL.cons (Ev.sub_t (xs := [.str (mkS (g.en 0)), .str (mkS (g.en 1)), .str (mkS (g.en 2))]) (i := (j : Nat)) (j := j) (by walk_at "nm") (Ev.of (Ev.bin (by walk_at "nm") Ev.cint sub_ii) (congrArg PV.int hki)) hsq (three_get g.en hj3) (by omega) (by omega)) EvL.nil) ((written_spec C (mkS (g.en j)) (by rw [mkS_len]; omega)).up (by decide))) (add_ss (by show 2 + _ ≤ _; rw [sizeLine_eq]; omega))
            · rw [hj]; rfl
      · refine wAppend (p := .lst ((tk k).map .str)) (by walk_at "nm") (Ev.call (v := .ref 149) (Ev.glo (by assumption) (fun P => by with_unfolding_all rfl) (by with_unfolding_all rfl)) (Kept.fn C fun P => by kernel_rfl) (EvL.cons (by walk_at "nm") (EvL.cons (by walk_at "nm") (EvL.cons (by walk_at "nm") (EvL.cons (by walk_at "nm") (EvL.cons (by walk_at "nm") EvL.nil))))) ?_) .here (by rw [List.length_map, List.length_range]; exact h2 (by omega)) (wNil ⟨by walk_at "sub", ?_⟩)
        · rw [hts] at hto ⊢
          have hgs := given_spec (X := X) C (g.wild hk) (g.pats_ok k) (pats_inj g k) (by rcases six hk with rfl | rfl | rfl | rfl | rfl | rfl <;> (show _ ≤ 1000; simp [Sg.pats])) (W := g.want t k) (fun x hx => by
            obtain ⟨p, hp, rfl⟩ := List.mem_map.mp hx
            exact str_ok (g.nm_lt (hP9 p (List.mem_filter.mp hp).1)).1) hto (by have := g.tags_len t c; omega) (fun x hx => by
            obtain ⟨p, hp, h9, rfl⟩ := g.row_mem (g.tag_str hx)
            rw [g.want_has hp]
            exact g.q_eq hk h9) (fun x hx => by
            obtain ⟨p, hp, h9, rfl⟩ := g.row_mem (g.tag_str hx)
            rw [g.want_has hp]
            exact (g.pats_takes k (g.nm p)).trans (g.tk_eq hk h9))
          rw [htk]
          exact hgs.up (by decide)
        · rw [List.range_succ, List.map_append]; rfl
  · rintro V L' ⟨hV, rfl⟩
    refine wForget [("taken", .raw (.ref a)), ("things", .lst (thingsC ts)), ("tags", .lst ts), ("row", .lst (row.map .str)), ("table", .int (t : Nat))] ⟨hV.look _ _ (by with_unfolding_all rfl), hV.look _ _ (by with_unfolding_all rfl), hV.look _ _ (by with_unfolding_all rfl), hV.look _ _ (by with_unfolding_all rfl), hV.look _ _ (by with_unfolding_all rfl), trivial⟩ ?_
    rw [upto_len]
    show WS _ _ (FS.upd ⟨hs, mu, _, [], own, []⟩ (("taken", .raw (.ref a)) :: [("things", .lst (thingsC ts)), ("tags", .lst ts), ("row", .lst (row.map .str)), ("table", .int (t : Nat))]) ((a, .lst ((List.range 6).map fun i => PV.lst ((tk i).map .str))) :: [])) _ _
    refine WS.freeze (by with_unfolding_all rfl) ?_
    show WS _ _ ⟨hs, mu, _, ("taken", .lst ((List.range 6).map fun i => PV.lst ((tk i).map .str))) :: [("things", .lst (thingsC ts)), ("tags", .lst ts), ("row", .lst (row.map .str)), ("table", .int (t : Nat))], own, []⟩ _ _
    have hwp : (namesG row ts).Perm ((placesC t).map g.nmS) := by rw [hts, hrow]; exact g.names_row t c
    have hwok := g.okS hP9 (places_nodup t) (places_len t) hwp
    have htp : ∀ i, (namesG (g.want t i) (g.tags t c)).Perm (((placesC t).filter (inK i)).map g.nmS) := fun i => g.names_want t c i
    have hF9 : ∀ i, ∀ p ∈ (placesC t).filter (inK i), p < 9 := fun i p hp => hP9 p (List.mem_filter.mp hp).1
    have htok : ∀ i, OkS (tk i) ∧ (tk i).length ≤ 20 := fun i => by
      rw [htk]
      exact g.okS (hF9 i) ((places_nodup t).filter _) (Nat.le_trans (List.length_filter_le _ _) (places_len t)) (htp i)
    have htkp : ∀ i, (tk i).Perm (((placesC t).filter (inK i)).map g.nmS) := fun i => by rw [htk]; exact (sortC_perm _).trans (htp i)
    have hgetD : ∀ k, k < 6 → ((List.range 6).map tk).getD k [] = tk k := fun k hk => by
      rcases six hk with rfl | rfl | rfl | rfl | rfl | rfl <;> rfl
    refine wAssign (p := .lst ((sortC (namesG row ts)).map .str)) (Ev.call (v := .ref 149) (Ev.glo (by assumption) (fun P => by with_unfolding_all rfl) (by with_unfolding_all rfl)) (Kept.fn C fun P => by kernel_rfl) (EvL.cons (p := .str (mkS [123, 42, 125, 42])) (Ev.of Ev.cstr rfl) (EvL.cons (p := .lst ([patA].map (PV.str ·.txt))) (Ev.lst (EvL.cons (Ev.of Ev.cstr rfl) EvL.nil) (h2 (by show 1 ≤ 10; decide))) (EvL.cons (by walk_at "nm") (EvL.cons (by walk_at "nm") (EvL.cons (by walk_at "nm") EvL.nil))))) ?_) (.loc (by with_unfolding_all rfl)) ?_
    · rw [hts, hrow]
      rw [hts] at hto
      have hgs := given_spec (X := X) C wild_any (pats := [patA]) (fun u hu => by rw [List.mem_singleton.mp hu]; exact patA_ok) (fun u hu v hv _ => by rw [List.mem_singleton.mp hu, List.mem_singleton.mp hv]) (by show 1 ≤ 1000; decide) (W := g.row t) (fun x hx => by
        obtain ⟨p, hp, h9, rfl⟩ := g.row_mem hx
        exact str_ok (g.nm_lt h9).1) hto (by have := g.tags_len t c; omega) (fun x hx => (List.contains_iff_mem.mpr (g.tag_str hx)).symm) (fun x hx => by
        rw [if_pos (List.contains_iff_mem.mpr (g.tag_str hx))]
        show b01 (takesC patA.parts x.cps.toList) + 0 = 1
        rw [patA_takes]; rfl)
      exact hgs.up (by decide)
    · have hdat : ∀ y ∈ ((List.range 6).map fun i => PV.lst ((tk i).map .str)), y.dat = true ∧ y.D.canLay0 = true ∧ y.D.depth ≤ 1 := fun y hy => by
        obtain ⟨i, _, rfl⟩ := List.mem_map.mp hy
        exact strs_can (htok i).1.ok
      refine wF (Tv.or_f (Tv.cmp (p := .lst ((sortC (namesG row ts)).map .str)) (q := .none) (by walk_at "nm") Ev.cnone is_ln) (Tv.or_1 (Tv.of (Tv.cmp (p := .none) (q := .lst ((List.range 6).map fun i => PV.lst ((tk i).map .str))) Ev.cnone (by walk_at "nm") (in_l (k := 10) rfl rfl (List.all_eq_true.mpr fun y hy => (hdat y hy).1) fun y hy => shaped_of (hdat y hy).2 (by decide))) ?_))) (wNil ?_)
      · refine List.any_eq_false.mpr fun y hy => ?_
        obtain ⟨i, _, rfl⟩ := List.mem_map.mp hy
        exact Bool.false_ne_true
      · have hfs := fewest_spec (X := X) C (whole := sortC (namesG row ts)) (taken := (List.range 6).map tk) hwok.1 rfl (fun l hl => by obtain ⟨i, _, rfl⟩ := List.mem_map.mp hl; exact htok i) (fun ch hch => ?_)
        · have hkk := few_koenig g ht (whole := sortC (namesG row ts)) (taken := (List.range 6).map tk) ((sortC_perm _).trans hwp) (fun k hk => by rw [hgetD k hk]; exact htkp k)
          rw [hkk] at hfs
          have htv : takenV ((List.range 6).map tk) = .lst ((List.range 6).map fun i => PV.lst ((tk i).map .str)) := by unfold takenV; rw [List.map_map]; rfl
          rw [htv] at hfs
          refine wRet (p := .bool true) (Ev.of (Ev.cmp (p := .int (mostC t : Nat)) (q := .int (mostC t : Nat)) (Ev.call (v := .ref 159) (Ev.glo (by assumption) (fun P => by with_unfolding_all rfl) (by with_unfolding_all rfl)) (Kept.fn C fun P => by kernel_rfl) (EvL.cons (by walk_at "nm") (EvL.cons (by walk_at "nm") EvL.nil)) (hfs.up (by decide))) (Ev.call (v := .ref 164) (Ev.glo (by assumption) (fun P => by with_unfolding_all rfl) (by with_unfolding_all rfl)) (Kept.fn C fun P => by kernel_rfl) (EvL.cons (by walk_at "nm") EvL.nil) ((most_spec C t).up (by decide))) eq_ii) (by rw [beq_self_eq_true])) ⟨_, rfl, .same⟩
        · refine List.pairwise_flatMap.mpr ⟨fun i hi => ?_, ?_⟩
          · have hi3 := mem_spaces hi
            rw [hgetD i (by omega)]
            exact (htkp i).nodup_iff.mpr (g.nodup (hF9 i) ((places_nodup t).filter _))
          · have hsn : (spacesC ch).Pairwise (· ≠ ·) := List.Pairwise.filter _ List.nodup_range
            refine hsn.imp_of_mem fun {i j} hi hj hij x hx y hy e => ?_
            have hi3 := mem_spaces hi
            have hj3 := mem_spaces hj
            rw [hgetD i (by omega)] at hx
            rw [hgetD j (by omega)] at hy
            obtain ⟨p, hp, rfl⟩ := List.mem_map.mp ((htkp i).mem_iff.mp hx)
            obtain ⟨q, hq, e2⟩ := List.mem_map.mp ((htkp j).mem_iff.mp hy)
            have hpq := g.nmS_inj (hF9 i p hp) (hF9 j q hq) (e.trans e2.symm)
            subst hpq
            have h1 := (List.mem_filter.mp hp).2
            have h2' := (List.mem_filter.mp hq).2
            rw [inK_lo hi3, beq_iff_eq] at h1
            rw [inK_lo hj3, beq_iff_eq] at h2'
            exact hij (h1.trans h2'.symm)
end
section
variable {X : Wd} {k : Nat} {f : FS}
noncomputable def S (l : List Nat) : Str := ⟨l.toArray⟩
noncomputable def freeC (l : Int) : Int := (l.fdiv 2).fmod 1112064
noncomputable def signA (l : Int) : Nat := if l.fmod 2 = 1 then ([97, 42, 63, 91, 93, 33, 45, 94, 92, 38, 126, 124, 46, 36, 40, 32] : List Nat).getD ((l.fdiv 2).fmod 16).toNat 0 else (if freeC l < 55296 then freeC l else freeC l + 2048).toNat
noncomputable def signC (l : Int) (b : Str) : Nat := if signA l ∈ b.cps.toList then (if 97 ∈ b.cps.toList then 98 else 97) else signA l

theorem freeC_lt (l : Int) : 0 ≤ freeC l ∧ freeC l < 1112064 := by
  have := (Int.fmod_nonneg_of_pos (l.fdiv 2) (show (0 : Int) < 1112064 by decide))
  have h2 := Int.fmod_lt_of_pos (l.fdiv 2) (show (0 : Int) < 1112064 by decide)
  exact ⟨this, h2⟩
theorem fmod16 (l : Int) : 0 ≤ l.fmod 16 ∧ l.fmod 16 < 16 := ⟨Int.fmod_nonneg_of_pos l (by decide), Int.fmod_lt_of_pos l (by decide)⟩
theorem pick16_all : ∀ n : Nat, n < 16 → (seqIndex? (n : Int) (Str.ofString "a*?[]!-^\\&~|.$( ").length).bind ((Str.ofString "a*?[]!-^\\&~|.$( ").cps[·]?) = some (([97, 42, 63, 91, 93, 33, 45, 94, 92, 38, 126, 124, 46, 36, 40, 32] : List Nat).getD n 0) := by decide +kernel
theorem pick16 {i : Int} (h0 : 0 ≤ i) (h1 : i < 16) : (seqIndex? i (Str.ofString "a*?[]!-^\\&~|.$( ").length).bind ((Str.ofString "a*?[]!-^\\&~|.$( ").cps[·]?) = some (([97, 42, 63, 91, 93, 33, 45, 94, 92, 38, 126, 124, 46, 36, 40, 32] : List Nat).getD i.toNat 0) := by
  obtain ⟨n, rfl⟩ := Int.eq_ofNat_of_zero_le h0
  exact pick16_all n (Int.ofNat_lt.mp h1)

theorem sign_spec (C : Cx X) (l : Int) (b : Str) : OpN X 1 [.int l, .str b] (fun vs => call (.ref 111) vs) (.str ⟨#[signC l b]⟩) := by
  refine fspec C (ns := ["left", "barred"]) (fun P => by with_unfolding_all rfl) (fun P => by kernel_rfl) (len2 rfl fun _ _ => rfl) rfl (by decide +kernel) (by decide +kernel) ?_ (by decide +kernel)
  intro hs mu L own T _ X C
  have hf := freeC_lt l
  show WS _ _ ⟨hs, mu, _, [("left", .int l), ("barred", .str b)], own, []⟩ _ _
  refine' wAssign (p := .int (freeC l)) (by walk_at "ev") (.loc (by with_unfolding_all rfl)) ?_
  refine wAssign (p := .str ⟨#[(if freeC l < 55296 then freeC l else freeC l + 2048).toNat]⟩) ?_ (.loc (by with_unfolding_all rfl)) ?_
  · refine' Ev.call (v := .builtin "chr") (Ev.blt (by assumption) (fun P => by with_unfolding_all rfl) (by decide +kernel) (by with_unfolding_all rfl)) Kept.bi ?_ (chr_i (i := if freeC l < 55296 then freeC l else freeC l + 2048) (by split <;> omega) (by split <;> omega))
    refine' EvL.cons ?_ EvL.nil
    refine' Ev.of (Ev.ife' (by walk_at "ev") (fun _ => by walk_at "ev") (fun _ => by walk_at "ev")) ?_
    by_cases h : freeC l < 55296 <;> simp [h]
  refine' wCut [("left", .int l), ("barred", .str b), ("sign", .str ⟨#[signA l]⟩)] [] ?_ ?_
  · refine' wIte (b := (l.fmod 2 == 1)) (by walk_at "ev") (fun h1 => ?_) (fun h1 => ?_)
    · refine wAssign (p := .str ⟨#[signA l]⟩) ?_ (.loc (by with_unfolding_all rfl)) (wNil (wNil ⟨rfl, by walk_at "sub", rfl⟩))
      refine' Ev.of (Ev.sub_s (by walk_at "ev") (by walk_at "ev") (pick16 (fmod16 _).1 (fmod16 _).2) (by have := fmod16 (l.fdiv 2); omega) (by have := fmod16 (l.fdiv 2); omega)) ?_
      unfold signA
      rw [if_pos (by simpa using h1)]
    · have e : signA l = (if freeC l < 55296 then freeC l else freeC l + 2048).toNat := by unfold signA; rw [if_neg (by simpa using h1)]
      rw [e]
      exact wNil (wNil ⟨rfl, by walk_at "sub", rfl⟩)
  refine' wCut [("sign", .str ⟨#[signC l b]⟩)] [] ?_ ?_
  · refine' wIte (b := decide (signA l ∈ b.cps.toList)) (by walk_at "ev") (fun h1 => ?_) (fun h1 => ?_)
    · refine wAssign (p := .str ⟨#[signC l b]⟩) ?_ (.loc (by with_unfolding_all rfl)) (wNil (wNil ⟨rfl, by walk_at "sub", rfl⟩))
      refine' Ev.of (Ev.ife' (c := decide (97 ∈ b.cps.toList)) (p := .str (Str.ofString "b")) (q := .str (Str.ofString "a")) (Tv.cmp (Ev.of Ev.cstr rfl) (by walk_at "ev") (in_s1 (c := 97))) (fun _ => by walk_at "ev") (fun _ => by walk_at "ev")) ?_
      unfold signC
      rw [if_pos (of_decide_eq_true h1)]
      by_cases h : 97 ∈ b.cps.toList
      · rw [if_pos h, if_pos (by simpa using h)]; rfl
      · rw [if_neg h, if_neg (by simpa using h)]; rfl
    · have e : signC l b = signA l := by unfold signC; rw [if_neg (of_decide_eq_false h1)]
      rw [e]
      exact wNil (wNil ⟨rfl, by walk_at "sub", rfl⟩)
  exact wRet (by walk_at "ev") ⟨_, rfl, .same⟩
end
section
variable {X : Wd} {k : Nat} {f : FS}
theorem pick_take' {α : Type} (xs : List α) (c : Nat) : pickL xs none (some (c : Nat)) = xs.take c := by
  rw [pickL_eq]
  have e : clipN (some (c : Int)) xs.length xs.length = min c xs.length := by unfold clipN; simp only [show ¬ (c : Int) < 0 by omega, if_false]; omega
  rw [e]
  show (xs.drop 0).take (min c xs.length - 0) = _
  rw [List.drop_zero, Nat.sub_zero]
  by_cases h : c ≤ xs.length
  · rw [Nat.min_eq_left h]
  · rw [Nat.min_eq_right (by omega), List.take_of_length_le (Nat.le_refl _), List.take_of_length_le (by omega)]
theorem signA_lt (l : Int) : signA l < 0x110000 := by
  have hf := freeC_lt l
  unfold signA
  by_cases h : l.fmod 2 = 1
  · rw [if_pos h]
    have hall : ∀ i, ([97, 42, 63, 91, 93, 33, 45, 94, 92, 38, 126, 124, 46, 36, 40, 32] : List Nat).getD i 0 < 0x110000 := fun i => by
      by_cases hi : i < 16
      · have : ∀ i < 16, ([97, 42, 63, 91, 93, 33, 45, 94, 92, 38, 126, 124, 46, 36, 40, 32] : List Nat).getD i 0 < 0x110000 := by decide
        exact this i hi
      · have : ([97, 42, 63, 91, 93, 33, 45, 94, 92, 38, 126, 124, 46, 36, 40, 32] : List Nat)[i]? = none := List.getElem?_eq_none (by show 16 ≤ i; omega)
        rw [List.getD_eq_getElem?_getD, this]; decide
    exact hall _
  · rw [if_neg h]
    by_cases h2 : freeC l < 55296
    · rw [if_pos h2]; omega
    · rw [if_neg h2]; omega
theorem sign_lt (l : Int) (b : Str) : signC l b < 0x110000 := by
  have := signA_lt l
  unfold signC
  by_cases h : signA l ∈ b.cps.toList
  · rw [if_pos h]
    by_cases h2 : 97 ∈ b.cps.toList
    · rw [if_pos h2]; decide
    · rw [if_neg h2]; decide
  · rw [if_neg h]; exact this
theorem sign_not (l : Int) (b : Str) (h98 : 97 ∈ b.cps.toList → 98 ∉ b.cps.toList) : signC l b ∉ b.cps.toList := by
  unfold signC
  by_cases h : signA l ∈ b.cps.toList
  · rw [if_pos h]
    by_cases h2 : 97 ∈ b.cps.toList
    · rw [if_pos h2]; exact h98 h2
    · rw [if_neg h2]; exact h2
  · rw [if_neg h]; exact h
noncomputable def drawnL (ns : List Int) : List Int := (ns.take 4).map fun n => n.fmod (10 ^ 8)
noncomputable def numbersL (ns : List Int) : List Int := drawnL ns ++ ([5, 3, 78, 4] : List Int).drop (drawnL ns).length
theorem drawn_len (ns : List Int) : (drawnL ns).length ≤ 4 := by unfold drawnL; rw [List.length_map, List.length_take]; omega
theorem numbers_len (ns : List Int) : (numbersL ns).length = 4 := by
  have := drawn_len ns
  unfold numbersL
  rw [List.length_append, List.length_drop]
  show _ + (4 - _) = 4
  omega
noncomputable def sgOf (n0 n1 turn : Int) : Sg := 
  let a := signC n0 (mkS [123, 125, 42])
  let b := signC n1 (mkS ([123, 125] ++ [a]))
  have ha : a ∉ (mkS [123, 125, 42]).cps.toList := sign_not _ _ (by decide)
  have hb : b ∉ (mkS ([123, 125] ++ [a])).cps.toList := sign_not _ _ (by simp; omega)
  { a := a, b := b, fl := (turn.fmod 2 == 1)
    ab := fun e => hb (by rw [← e]; simp)
    a1 := fun e => ha (by rw [e]; decide), a2 := fun e => ha (by rw [e]; decide), a3 := fun e => ha (by rw [e]; decide)
    b1 := fun e => hb (by rw [e]; simp), b2 := fun e => hb (by rw [e]; simp)
    az := sign_lt _ _, bz := sign_lt _ _ }
noncomputable def lawStmt : Stmt := PySem.Challenge.pw_in0271_01.main.body.getLastD (.Pass ⟨0, 0, 0, 0⟩)
noncomputable def lawBody : List Stmt := match lawStmt with | .FunctionDef _ _ b _ _ _ _ _ _ _ => b | _ => []
noncomputable def lawScope : Scope := match lawStmt with | .FunctionDef _ _ _ _ _ _ s _ _ _ => s | _ => { kind := .function, names := [], isGenerator := false, isCoroutine := false, more := [] }
theorem law_body (C : Cx X) (ns : List Int) (hn : ns.length ≤ 1000) {hs : Shared} {mu : Addr → Prop} {L fa : Addr} {cd : Value} {own : List Addr} :
    WS X 17 ⟨hs, mu, dEnv lawScope "law" cd L fa, [("script", .lst (ns.map .int))], own, []⟩ lawBody (fun fl _ led => ∃ p, fl = .ret p ∧ Res led p (.bool true)) := by
  conv in lawBody => whnf
  conv in lawScope => whnf
  have dl := drawn_len ns
  have nl := numbers_len ns
  have hz : ∀ {n : Nat}, n ≤ 1000 → n ≤ sizeLine := fun h => small_ok' h
  refine wAssignComp (cl := []) [] (fun p => match p with | .int y => some (.int (y.fmod (10 ^ 8))) | _ => none) (fun p => [("number", p)]) (Src.lst (xs := (ns.take 4).map PV.int) (Ev.of (Ev.cut_l (xs := ns.map .int) (l := none) (u := some ((4 : Nat) : Int)) (by walk_at "nm") (.inl rfl) EvP.no (EvP.yes (Ev.of Ev.cint rfl)) (hz (by rw [List.length_map]; exact hn))) (by rw [pick_take', List.map_take]))) trivial trivial (Elts.name (by with_unfolding_all rfl) rfl ?_) (hz (by rw [List.length_map, List.length_take]; omega)) (by with_unfolding_all rfl) (by with_unfolding_all rfl) (by with_unfolding_all rfl) (by decide +kernel) (by decide +kernel) ?_
  · intro p hp hs' mu' C' D own' ys
    obtain ⟨i, hi, rfl⟩ := List.mem_map.mp hp
    refine ⟨fun h => (by cases h), fun r h => ⟨Tests.nil, ?_⟩⟩
    cases h
    exact Ev.bin (q := .int (10 ^ 8)) (by walk_at "nm") (Ev.of (Ev.bin Ev.cint Ev.cint (pow_ii (by decide) (by decide +kernel))) rfl) (mod_ii (by decide))
  · have hd : ((ns.take 4).map PV.int).filterMap (fun p => match p with | .int y => some (PV.int (y.fmod (10 ^ 8))) | _ => none) = (drawnL ns).map .int := by
      unfold drawnL
      rw [List.filterMap_map, List.map_map]
      exact filterMap_some _ _ (fun i => rfl) _
    rw [hd]
    refine wAssign (p := .lst ((numbersL ns).map .int)) ?_ (.loc (by with_unfolding_all rfl)) ?_
    · have hN : (numbersL ns).map PV.int = (drawnL ns).map PV.int ++ (([5, 3, 78, 4] : List Int).map PV.int).drop (drawnL ns).length := by unfold numbersL; rw [List.map_append, List.map_drop]
      rw [hN]
      exact Ev.bin (p := .lst ((drawnL ns).map PV.int)) (q := .lst ((([5, 3, 78, 4] : List Int).map PV.int).drop (drawnL ns).length)) (by walk_at "nm") (Ev.of (Ev.cut_l (xs := ([5, 3, 78, 4] : List Int).map PV.int) (l := some ((drawnL ns).length : Nat)) (u := none) (Ev.lst (EvL.cons Ev.cint (EvL.cons Ev.cint (EvL.cons Ev.cint (EvL.cons Ev.cint EvL.nil)))) (hz (by show 4 ≤ 1000; decide))) (.inl rfl) (EvP.yes (Ev.of (Ev.len C (by walk_at "nm") (.inl rfl) (by rw [List.length_map]; omega) (by with_unfolding_all rfl)) (by rw [List.length_map]))) EvP.no (hz (by show 4 ≤ 1000; decide))) (by rw [pick_drop _ _ (by show _ ≤ 4; exact dl)])) (add_ll (by rw [List.length_map, List.length_drop]; show _ + (4 - _) ≤ 1000; omega))
    · generalize numbersL ns = N at nl
      obtain ⟨n0, n1, n2, n3, rfl⟩ : ∃ n0 n1 n2 n3, N = [n0, n1, n2, n3] := by
        match N, nl with
        | [a, b, c, d], _ => exact ⟨a, b, c, d, rfl⟩
      obtain ⟨g, hg⟩ : ∃ g, g = sgOf n0 n1 n3 := ⟨_, rfl⟩
      have ea : signC n0 (mkS [123, 125, 42]) = g.a := by rw [hg]; rfl
      have eb : signC n1 (mkS ([123, 125] ++ [g.a])) = g.b := by rw [hg]; rfl
      have efl : g.fl = (n3.fmod 2 == 1) := by rw [hg]; rfl
      clear hg
      refine wAssign (p := .str (mkS [g.a])) ?_ (.loc (by with_unfolding_all rfl)) ?_
      · rw [← ea]
        exact Ev.call (v := .ref 111) (Ev.glo (by assumption) (fun P => by with_unfolding_all rfl) (by with_unfolding_all rfl)) (Kept.fn C fun P => by kernel_rfl) (EvL.cons (Ev.sub_l (xs := [n0, n1, n2, n3].map .int) (i := 0) (j := 0) (by walk_at "nm") (.inl rfl) (by walk_at "ev") rfl rfl (by decide) (by decide)) (EvL.cons (Ev.of Ev.cstr rfl) EvL.nil)) ((sign_spec C n0 (mkS [123, 125, 42])).up (by decide))
      · refine wAssign (p := .str (mkS [g.b])) ?_ (.loc (by with_unfolding_all rfl)) ?_
        · rw [← eb]
          refine Ev.call (v := .ref 111) (Ev.glo (by assumption) (fun P => by with_unfolding_all rfl) (by with_unfolding_all rfl)) (Kept.fn C fun P => by kernel_rfl) (EvL.cons (Ev.sub_l (xs := [n0, n1, n2, n3].map .int) (i := 1) (j := 1) (by walk_at "nm") (.inl rfl) (by walk_at "ev") rfl rfl (by decide) (by decide)) (EvL.cons (p := .str (mkS ([123, 125] ++ [g.a]))) ?_ EvL.nil)) ((sign_spec C n1 (mkS ([123, 125] ++ [g.a]))).up (by decide))
          rw [← mkS_app]
          exact Ev.bin (p := .str (mkS [123, 125])) (q := .str (mkS [g.a])) (Ev.of Ev.cstr rfl) (by walk_at "nm") (add_ss (by show 2 + 1 ≤ _; decide))
        · obtain ⟨m, hm, hml⟩ : ∃ m : Nat, n2.fmod 511 = (m : Nat) ∧ m < 511 := by
            have h0 := Int.fmod_nonneg_of_pos n2 (b := 511) (by decide)
            have h1 := Int.fmod_lt_of_pos n2 (b := 511) (by decide)
            exact ⟨(n2.fmod 511).toNat, by omega, by omega⟩
          refine wRet (p := .bool true) (Ev.call (v := .ref 169) (Ev.glo (by assumption) (fun P => by with_unfolding_all rfl) (by with_unfolding_all rfl)) (Kept.fn C fun P => by kernel_rfl) (EvL.cons (by walk_at "nm") (EvL.cons (by walk_at "nm") (EvL.cons (p := .int ((1 + m : Nat) : Int)) (Ev.of (Ev.bin (p := .int 1) (q := .int (m : Nat)) Ev.cint (Ev.of (Ev.bin (Ev.sub_l (xs := [n0, n1, n2, n3].map .int) (i := 2) (j := 2) (by walk_at "nm") (.inl rfl) (by walk_at "ev") rfl rfl (by decide) (by decide)) Ev.cint (mod_ii (by decide))) (congrArg PV.int hm)) add_ii) (congrArg PV.int (by omega))) (EvL.cons (Ev.sub_l (xs := [n0, n1, n2, n3].map .int) (i := 3) (j := 3) (by walk_at "nm") (.inl rfl) (by walk_at "ev") rfl rfl (by decide) (by decide)) EvL.nil)))) ((right_spec C g (t := 1 + m) (by omega) (places_ne m hml) efl).up (by decide))) ⟨_, rfl, .same⟩
end
section
variable {X : Wd} {k : Nat} {f : FS}
theorem ints_rdl {h : Heap} {mu : Addr → Prop} : ∀ {vs : List Value} {ns : List Int}, IntsAre vs ns → RdL h mu (ns.map .int) vs
  | _, _, .nil => rfl
  | _, _, .cons n t r => ⟨_, _, rfl, ⟨t, rfl⟩, ints_rdl r⟩
theorem law_run {w : World} {s₁ : Shared} {h₁ : Heap} {t : Nat} {mg mb : Str → Option Value} {a fa : Addr} {cd : Value} {vs : List Value} {ns : List Int} {m : Str → Option Value} {p : Program} {loose : List Str} {mean : ExcName → Option Value} {Q : Flow → Shared → Prop} {E : Value → Shared → Prop}
    (K : (KF w.params).In (ghostOf s₁.heap [(89, 85), (37, 33)])) (T : Top p loose mean mg mb (ghostOf s₁.heap [(89, 85), (37, 33)])) (F' : Fr (ghostOf s₁.heap [(89, 85), (37, 33)]) s₁.heap.objs.size h₁ m)
    (N : News (ghostOf s₁.heap [(89, 85), (37, 33)]) s₁.heap.objs.size h₁ [(85, tabObj #[]), (33, tabObj #[])]) (c89 : CodeHd (ghostOf s₁.heap [(89, 85), (37, 33)]) 89 85) (c37 : CodeHd (ghostOf s₁.heap [(89, 85), (37, 33)]) 37 33)
    (hl : (ghostOf s₁.heap [(89, 85), (37, 33)]).IsList a vs.toArray) (hI : IntsAre vs ns) (hn : ns.length ≤ 63) (hg : s₁.gens = #[]) (hm : m "script" = some (.ref a)) (l0 : 85 < s₁.heap.objs.size ∧ 33 < s₁.heap.objs.size)
    (hQ : ∀ s', (∀ b o, (ghostOf s₁.heap [(89, 85), (37, 33)]).get? b = some o → s'.heap.get? b = some o) → s'.os = s₁.os → AllBare s'.gens → GrownAll [(89, 85), (37, 33)] s'.heap → Q (.ret (.bool true)) s') :
    wpAny (model prog w) (callerA.deeper (envOf "law" lawScope s₁.heap.objs.size fa cd)) (execs lawBody (envOf "law" lawScope s₁.heap.objs.size fa cd)) Q E { s₁ with heap := h₁, toks := t } := by
  obtain ⟨gh, hgh⟩ : ∃ gh, gh = ghostOf s₁.heap [(89, 85), (37, 33)] := ⟨_, rfl⟩
  have hsz : gh.objs.size = s₁.heap.objs.size := by rw [hgh]; exact hideAll_size _ _
  have n33 : gh.get? 33 = none := (N _ (.tail _ (.head _))).2.2 |> fun h => by rw [hgh]; exact h
  have n85 : gh.get? 85 = none := (N _ (.head _)).2.2 |> fun h => by rw [hgh]; exact h
  have g33 : h₁.get? 33 = some (tabObj #[]) := (N _ (.tail _ (.head _))).1
  have g85 : h₁.get? 85 = some (tabObj #[]) := (N _ (.head _)).1
  rw [← hgh] at K T F' N c89 c37 hl hQ
  obtain ⟨L, hL⟩ : ∃ L, L = s₁.heap.objs.size := ⟨_, rfl⟩
  rw [← hL] at F' l0 hsz ⊢
  obtain ⟨env, henv⟩ : ∃ env, env = dEnv lawScope "law" cd L fa := ⟨_, rfl⟩
  have henv' : envOf "law" lawScope L fa cd = env := by rw [henv]; rfl
  rw [henv']
  have hfr : env.frame = some L := by rw [henv]; rfl
  have C : Cx ⟨w, gh, mg, mb, [env]⟩ := { K := K, g := T.g, b := T.b, nolimit := T.nolimit, nodigits := T.nodigits, builtins := T.builtins, bmain := T.bmain, c37 := c37, c89 := c89, n33 := n33, n85 := n85 }
  have hLn : gh.get? L = none := none_of_le (Nat.le_of_eq hsz)
  have hLlt : L < h₁.objs.size := F'.ns.lt
  have live : Live ⟨w, gh, mg, mb, [env]⟩ h₁ := {
    old := F'.keep
    t33 := ⟨#[], g33, trivial, fun pos cv q => by cases q⟩
    t85 := ⟨#[], g85, trivial, fun pos cv q => by cases q⟩
    low := by rw [hsz]; exact Nat.le_of_lt hLlt
    frs := fun e he => by
      rw [List.mem_singleton.mp he]
      exact ⟨by rw [henv]; exact (fun q => nomatch q), L, m, hfr, hLn, F'.ns⟩ }
  have hmuf : ∀ {b : Addr}, FS.mu' ⟨{ s₁ with heap := gh }, (fun b => b = 33 ∨ b = 85), env, [("script", .lst (ns.map .int))], [L], []⟩ b → gh.get? b = none := fun {b} hb => by
    rcases hb with (rfl | rfl) | h | h
    · exact n33
    · exact n85
    · rw [List.mem_singleton.mp h]; exact hLn
    · cases h
  have F : FS.Ok ⟨w, gh, mg, mb, [env]⟩ ⟨{ s₁ with heap := gh }, (fun b => b = 33 ∨ b = 85), env, [("script", .lst (ns.map .int))], [L], []⟩ { s₁ with heap := h₁, toks := t } := {
    grow := ⟨live, fun b o _ e => F'.keep b o e, by show gh.objs.size ≤ h₁.objs.size; rw [hsz]; exact Nat.le_of_lt hLlt, rfl, fun b m' hb hn' => by
      have : b = L := by
        have hb : b ∈ [env].filterMap (·.frame) := hb
        rw [List.filterMap_cons, hfr] at hb
        exact List.mem_singleton.mp hb
      rw [this] at hn'
      exact absurd (show L < gh.objs.size from hn'.lt) (by rw [hsz]; exact Nat.lt_irrefl _), rfl⟩
    muLt := fun b hb => by
      show b < gh.objs.size
      rw [hsz]
      rcases hb with rfl | rfl
      · exact l0.2
      · exact l0.1
    mu33 := .inl rfl
    mu85 := .inr rfl
    mfr := fun b hb => by
      have hb : b ∈ [env].filterMap (·.frame) := hb
      rw [List.filterMap_cons, hfr] at hb
      exact .inr hb
    apart := by simp
    fresh := fun b hb => by
      have hb : b ∈ [L] := by simpa using hb
      rw [List.mem_singleton.mp hb]
      exact ⟨by show gh.objs.size ≤ L; rw [hsz]; exact Nat.le_refl _, hLlt⟩
    locs := by show env.locals ∈ [L]; rw [henv]; exact .head _
    kind := by show env.scope.kind = _; rw [henv]; rfl
    glob := by show env.globals = _; rw [henv]; rfl
    blt := by show env.builtins = _; rw [henv]; rfl
    hlow := Nat.le_refl _
    ns := by
      have hloc : env.locals = L := by rw [henv]; rfl
      refine ⟨m, by show Heap.Ns h₁ env.locals m; rw [hloc]; exact F'.ns, fun x p hx hk => ?_⟩
      have hx : [(("script" : Str), PV.lst (ns.map .int))].lookup x = some p := hx
      have := mem_of_lookup hx
      obtain ⟨rfl, rfl⟩ := Prod.mk.inj (List.mem_singleton.mp this)
      refine ⟨.ref a, hm, ?_⟩
      obtain ⟨o, ho, hc, n, hd⟩ := hl
      refine ⟨a, o, vs.toArray, n, rfl, (fun hb => by rw [hmuf hb] at ho; cases ho), F'.keep _ _ ho, hc, hd, ?_⟩
      exact ints_rdl hI
    cell := fun x p hx hk => by
      have hx : [(("script" : Str), PV.lst (ns.map .int))].lookup x = some p := hx
      have := mem_of_lookup hx
      obtain ⟨rfl, rfl⟩ := Prod.mk.inj (List.mem_singleton.mp this)
      exact absurd (show env.kindOf "script" = some .local by rw [henv]; with_unfolding_all rfl) hk
    led := fun b mo hb => by cases hb
    solid := fun b hb => by
      have hb : b ∈ [L] := by simpa using hb
      rw [List.mem_singleton.mp hb]
      exact .ns F'.ns
    cellv := fun n c hc => by
      have hc : env.cells.lookup n = some c := hc
      rw [henv] at hc
      cases hc }
  have R : Room ⟨w, gh, mg, mb, [env]⟩ (callerA.deeper env) 17 := ⟨rfl, by show callerA.depth + 1 + 17 < _; decide, by show callerA.units + 3 + 16 * 17 < _; decide, rfl⟩
  have hb := law_body (X := ⟨w, gh, mg, mb, [env]⟩) C ns (by omega) (hs := { s₁ with heap := gh }) (mu := fun b => b = 33 ∨ b = 85) (L := L) (fa := fa) (cd := cd) (own := [L])
  rw [← henv] at hb
  refine wpAny_mono (hb (callerA.deeper env) _ (fun fl s' => Q fl s') R F fun fl vars led g s' hp F₂ S₂ hgv => ?_) (fun _ _ x => x) (fun _ _ x => x.elim)
  obtain ⟨p, rfl, hres⟩ := hp
  obtain ⟨v, rfl, hv⟩ := hgv
  have hv2 := hres.rd F₂ (fun b hb => hb) hv
  cases hv2
  refine hQ s' (fun b o e => F₂.grow.live.old b o e) F₂.grow.os (fun y hy => ?_) ⟨?_, ?_, trivial⟩
  · have hlive : liveAt s'.gens = liveAt s₁.gens := F₂.grow.gens
    obtain ⟨i, hi, hyi⟩ := Array.mem_iff_getElem.mp hy
    have h1 : liveAt s'.gens i = none := by rw [hlive, hg]; rfl
    unfold liveAt at h1
    rw [Array.getElem?_eq_getElem hi, hyi] at h1
    cases y with
    | finished => rfl
    | _ => cases h1
  · obtain ⟨ps, e, _⟩ := F₂.grow.live.t85; exact ⟨ps, e⟩
  · obtain ⟨ps, e, _⟩ := F₂.grow.live.t33; exact ⟨ps, e⟩
end
end Mine
namespace Mine
/-- the end of a law whose generators are through: as the library's kn_post, with generators -/
theorem kn_postG {M : Model} {A : Around} {cd : Code} {s s₁ : Shared} {cw : ClaimW} {cl : Str → Option Addr} {mean : ExcName → Option Value} {args : List WData} {tabs : List (Addr × Addr)} (hT : TabsAt tabs s₁.heap) (hr : ∀ a x, cw.raises a x = false)
    (h : codeAny M A cd (fun r s' => (GoodW cw cl mean args { s₁ with heap := ghostOf s₁.heap tabs } r { s' with gens := #[] } ∧ AllBare s'.gens) ∧ GrownAll tabs s'.heap) s) : codeAny M A cd (GoodWG cw cl mean args s₁) s :=
  codeAny_mono h fun r s' ⟨⟨⟨hc, hk, hos, _⟩, hg⟩, hgr⟩ => by
    have keep : ∀ b o, b ∉ tabs.map (·.2) → s₁.heap.get? b = some o → s'.heap.get? b = some o := fun b o hb e => hk b o (ghost_ne e hb)
    have grown : ∀ b o, b ∈ tabs.map (·.2) → s₁.heap.get? b = some o → isCodeTable s₁.heap b ∧ o = tabObj #[] ∧ ∃ ps, s'.heap.get? b = some (tabObj ps) := fun b o hb e => by
      obtain ⟨q, hq, rfl⟩ := List.mem_map.mp hb
      have e2 := (hT q hq).2
      rw [e] at e2
      exact ⟨((hT q hq).1.tab (hT q hq).2).isCodeTable, Option.some.inj e2, hgr.get q hq⟩
    refine ⟨?_, ⟨fun b o e => ?_, fun b o e => ?_⟩, hos, hg⟩
    · rcases hc with ⟨v, d, as, r1, r2, r3, r4, r5⟩ | ⟨e, ob, x, _, _, _, r4, _⟩
      · refine .inl ⟨v, d, as, r1, r2, r3, r4, fun q => ⟨(r5 q).1, fun a ha => ?_⟩⟩
        cases q1 : s₁.heap.get? a with
        | none => rfl
        | some o =>
          by_cases hb : a ∈ tabs.map (·.2)
          · obtain ⟨_, _, ps, hP⟩ := grown a o hb q1
            exact absurd ha (readsW_apart hP rfl r3)
          · have e3 := (r5 q).2 a ha
            rw [show (ghostOf s₁.heap tabs).get? a = some o from ghost_ne q1 hb] at e3
            cases e3
      · rw [hr] at r4; cases r4
    · by_cases hb : b ∈ tabs.map (·.2)
      · obtain ⟨ht, rfl, ps, hP⟩ := grown b o hb e
        exact .inr (.inl ⟨ht, rfl, #[], ps, rfl, by rw [Array.empty_append]; exact hP⟩)
      · exact .inl (keep b o hb e)
    · by_cases hb : b ∈ tabs.map (·.2)
      · obtain ⟨_, _, ps, hP⟩ := grown b o hb e
        exact ⟨_, hP⟩
      · exact ⟨o, keep b o hb e⟩
end Mine
set_option maxHeartbeats 4000000 in
theorem PySem.Challenge.cw_in0271_01_holds : PySem.Challenge.rw_in0271_01.Holds :=
  Mine.hd (fun hw => by
  refine holds_open (q := Mine.view) (loose := [Str.ofString "_SelectorContext", Str.ofString "_twin_re_1", Str.ofString "_special_chars_map"]) (Xt := fun s => xlAt Mine.view [] s && recOk (RowW.records (OpenRow.toRowW Mine.row)) s) (XP := XL Mine.view []) (Yf := Mine.HK.obs) (Ya := Mine.HK.val) (YP := Hook.says (kmHook Mine.hd.heap_1 [2, 3, 32, 34, 35, 37, 38, 46, 48, 49, 51, 52, 53, 54, 55, 56, 57, 63, 64, 65, 67, 68, 70, 71, 73, 77, 79, 80, 82, 83, 84, 86, 87, 89, 90, 91, 93, 94, 96, 97, 98, 100, 101, 103, 104, 105, 107, 108, 110, 111, 112, 115, 116, 117, 119, 120, 122, 123, 124, 126, 127, 129, 130, 131, 133, 134, 136, 137, 138, 140, 141, 143, 144, 145, 148, 149, 150, 153, 154, 155, 158, 159, 160, 163, 164, 165, 168, 169, 170, 173, 174] Mine.hke [85, 33])) (N := 4470) Mine.hl (Hook.of Mine.HK) (Hook.keeps Mine.HK) (fun s e => xl_of s (Bool.and_eq_true_iff.mp e).1) XL.keeps (by rfl) (by rfl) (by rfl) (fun s e => recFacts_of (Bool.and_eq_true_iff.mp e).2) (by rfl) (row_said Mine.said0) (by decide +kernel) ⟨rfl, rfl, rfl, rfl, rfl, by decide +kernel⟩ hw ?_
  k_fill
  intro w s₀ s₁ mg mb G Y fa o pm cd doc dV kV ho hd hcd hD hmg hg args vals as hpre hlay hrd hwl hlo
  have KX := km_in_of Y
  km_tabs Y
  have X := (Ground.X G).1
  have V := (Ground.X G).2
  refine Ground.open G ?_
  intro T B D TE TW
  try (refine guard_noD D (by decide +kernel) ?_; clear D)
  km_lay T hmg ho hd cd
  clear hmg
  wrow_args hpre hlay hrd hwl hlo
  all_goals (
    first | refine callC_kw (enter_call ?_) | refine enter_call ?_
    w_top on
    refine Mine.kn_postG hT9 (fun _ _ => rfl) ?_
    w_call any ho hd hcd hD T F
    clear hd
    kn_ghosts F T
    k_drop
    skip)
  refine Mine.law_run (by assumption) (by assumption) (by assumption) (by assumption) (by assumption) (by assumption) (by assumption) (by assumption) (by omega) (by assumption) rfl (by assumption) ?_
  intro s' hk hos hab hgr
  exact ⟨⟨⟨.inl ⟨_, _, [], rfl, fun _ => rfl, ReadsW.bool true, by first | rfl | wrow_post, fun _ => ⟨List.nodup_nil, fun _ hm => (nomatch hm)⟩⟩, hk, hos, rfl⟩, hab⟩, hgr⟩)
